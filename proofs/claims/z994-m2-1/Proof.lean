import JvmDerived
import JvmDerived.Pilot.@@N@@Statement
import JvmDerived.Pilot.@@N@@Code
set_option linter.unusedVariables false
set_option linter.unusedSimpArgs false
namespace Jvm.Pilot.@@N@@
open Jvm Jvm.ClassFile Sem Op Lib Jvm.Free Jvm.Stand Jvm.LawKit Jvm.RoadKit Bundle Jvm.Pilot.@@N@@.Jvm.D
theorem own_pn0 : plainName "com/example/columnwire/columnwire/codec/GzipStream" = true := by first | (simp [plainName, overriddenIn]; done) | decide +kernel
theorem own_ef_rm1 (m : MethodId) (x0 : Addr) : entryFrame m #[(.ref x0)] 1 = mkF m 0 #[.val (.ref x0)] [] := by first | (simp [entryFrame, mkF, argsToLocals, Value.category]; done) | rfl
theorem own_d1_0 : decode prog_186_method_1_code 0 = .ok (.aload_n 0, 1) := by decide +kernel
theorem own_d1_1 : decode prog_186_method_1_code 1 = .ok (.invokespecial 1, 3) := by decide +kernel
theorem own_d1_4 : decode prog_186_method_1_code 4 = .ok (.return_, 1) := by decide +kernel
def Q_rm1 (Z : State) (a1 : Addr) (h0 : Heap) (n0 : Nat) (v : Option Value) (h : Heap) (L : List Loc) : Prop := v = none ∧ Fr n0 L ∧ h = h0
set_option maxRecDepth 65536 in
set_option maxHeartbeats 40000000 in
theorem rm1 (l : Launch) (Z : State) (a0 : Array Value) (hw : ∀ d ∈ tables_1, d.before a0 Z = true) (ws : List Jvm.Cond) (a1 : Addr) (h0 : Heap) (n0 : Nat) (Z0 : n0 ≤ h0.size)  :
    MetFree l (⟨"com/example/columnwire/columnwire/codec/GzipStream", "<init>", "()V"⟩ : MethodName) (head1 (Jvm.Cond.code (⟨"com/example/columnwire/columnwire/codec/GzipStream", "<init>", "()V"⟩ : MethodName) prog_186_method_1_code 1 none :: ws) ({ frames := 1, cells := 0, slots := 0, locals := 12 } : Room)) (fun a U => a = #[(.ref a1)] ∧ Z.Warmed39 U.vm ∧ U.heap = h0) (fun _ _ _ _ _ => True) (fun _ U o U' => ∃ v L, o = .returned v ∧ Q_rm1 Z a1 h0 n0 v U'.heap L ∧ FrameEnd U o U' L ({ frames := 1, cells := 0, slots := 0, locals := 12 } : Room).cells ({ frames := 1, cells := 0, slots := 0, locals := 12 } : Room).slots) := by
  refine MetFree.of_bodySF (plainFor_of_name own_pn0) hisR ?_
  intro p e s m args below meth c s₁ Bd hml0 hP hK
  obtain ⟨rfl, hZ, hh⟩ := hP
  have hx := Bd.exec
  have hby := Bd.bytes
  have hml : c.maxLocals = 1 := hml0
  have hown : s.vm.findClass "com/example/columnwire/columnwire/codec/GzipStream" = some m.cls := findClass_of_methodNamed Bd.named
  have hnm := (name_of_methodNamed Bd.named Bd.method).1
  have X0 : Stand p l e ({ frames := 1, cells := 0, slots := 0, locals := 12 } : Room) s m #[(.ref a1)] below meth c s₁ [] 0 0 := Stand.of_body Bd
  have e0 : s₁.heap = h0 := by rw [← hh, Bd.state]; rfl
  have N0 := Fr.nil n0
  have R0 : ∀ t, Steps p.tables e below (s₁.setTop (mkF m 0 #[.val (.ref a1)] [])) t → Steps p.tables e below (s₁.setTop (entryFrame m #[(.ref a1)] 1)) t := fun t k => castTop (own_ef_rm1 m a1) k
  have R1 : ∀ t, Steps p.tables e below (s₁.setTop (mkF m 1 #[.val (.ref a1)] [(.ref a1)])) t → Steps p.tables e below (s₁.setTop (entryFrame m #[(.ref a1)] 1)) t := by
    intro t k
    refine R0 t ?_
    show Steps p.tables e below (s₁.setTop (mkF m 0 #[.val (.ref a1)] [])) _
    refine XS.aloadN X0.here hx rfl (hb hby own_d1_0) rfl rfl ?_
    exact k
  obtain ⟨T2, X2, e2, st2⟩ := initO X0 hx hZ hown (hw _ (List.mem_of_getElem? (i := 7) rfl)) (hw _ (List.mem_of_getElem? (i := 8) rfl)) (hw _ (List.mem_of_getElem? (i := 9) rfl)) e0 (g := (mkF m 1 #[.val (.ref a1)] [(.ref a1)])) rfl (by rw [hml]; rfl) rfl (hb hby own_d1_1) (by decide) (W := 0) (by show 2 * 0 + _ ≤ _; exact Nat.le_of_eq rfl) (by decide)
  have R2 : ∀ t, Steps p.tables e below (T2.setTop (mkF m 4 #[.val (.ref a1)] [])) t → Steps p.tables e below (s₁.setTop (entryFrame m #[(.ref a1)] 1)) t := fun t k => R1 t (st2 t k)
  obtain ⟨fs, hr, hrun, hended, hW, hsame⟩ := X2.leave (v := none) (fun _ => rfl)
  refine ⟨_, _, R2 _ ?_, hrun, hended, _, _, rfl, ?_, ⟨_, rfl⟩, hW, hsame.mono (by decide) (by decide)⟩
  · exact X2.returnOut hx Bd.returns (hb hby own_d1_4) hr
  · show Q_rm1 Z a1 h0 n0 _ T2.heap _
    rw [e2]
    exact ⟨rfl, N0, rfl⟩
theorem own_ef_rm3s (m : MethodId) (x0 : Addr) (x1 : Addr) (x2 : Int32) : entryFrame m #[(.ref x0), (.ref x1), (.int x2)] 3 = mkF m 0 #[.val (.ref x0), .val (.ref x1), .val (.int x2)] [] := by first | (simp [entryFrame, mkF, argsToLocals, Value.category]; done) | rfl
theorem own_d3_0 : decode prog_186_method_4_code 0 = .ok (.aload_n 1, 1) := by decide +kernel
theorem own_d3_1 : decode prog_186_method_4_code 1 = .ok (.arraylength, 1) := by decide +kernel
theorem own_d3_2 : decode prog_186_method_4_code 2 = .ok (.bipush 10, 2) := by decide +kernel
theorem own_d3_4 : decode prog_186_method_4_code 4 = .ok (.if_icmp .lt 38, 3) := by decide +kernel
theorem own_d3_42 : decode prog_186_method_4_code 42 = .ok (.iconst 0, 1) := by decide +kernel
theorem own_d3_43 : decode prog_186_method_4_code 43 = .ok (.ireturn, 1) := by decide +kernel
def Q_rm3s (Z : State) (a1 a2 : Addr) (p3 : Int32) (k2 : ClassId) (z2 : Int32) (vs2 : List Value) (d2 : Value) (h0 : Heap) (n0 : Nat) (v : Option Value) (h : Heap) (L : List Loc) : Prop := v = some (.int (0 : Int32)) ∧ Fr n0 L ∧ h = h0
set_option maxRecDepth 65536 in
set_option maxHeartbeats 40000000 in
theorem rm3s (l : Launch) (Z : State) (a0 : Array Value) (hw : ∀ d ∈ tables_1, d.before a0 Z = true) (ws : List Jvm.Cond) (a1 a2 : Addr) (p3 : Int32) (k2 : ClassId) (z2 : Int32) (vs2 : List Value) (d2 : Value) (h0 : Heap) (n0 : Nat) (Z0 : n0 ≤ h0.size) (V2 : Arv Z h0 a2 k2 .byte z2 vs2 d2) (hz : z2 < (10 : Int32)) :
    MetFree l (⟨"com/example/columnwire/columnwire/codec/GzipStream", "beginsAsBlock", "([BI)Z"⟩ : MethodName) (head1 (Jvm.Cond.code (⟨"com/example/columnwire/columnwire/codec/GzipStream", "beginsAsBlock", "([BI)Z"⟩ : MethodName) prog_186_method_4_code 3 (some .boolean) :: ws) ({ frames := 0, cells := 0, slots := 0, locals := 0 } : Room)) (fun a U => a = #[(.ref a1), (.ref a2), (.int p3)] ∧ Z.Warmed39 U.vm ∧ U.heap = h0) (fun _ _ _ _ _ => True) (fun _ U o U' => ∃ v L, o = .returned v ∧ Q_rm3s Z a1 a2 p3 k2 z2 vs2 d2 h0 n0 v U'.heap L ∧ FrameEnd U o U' L ({ frames := 0, cells := 0, slots := 0, locals := 0 } : Room).cells ({ frames := 0, cells := 0, slots := 0, locals := 0 } : Room).slots) := by
  refine MetFree.of_bodySF (plainFor_of_name own_pn0) hisR ?_
  intro p e s m args below meth c s₁ Bd hml0 hP hK
  obtain ⟨rfl, hZ, hh⟩ := hP
  have hx := Bd.exec
  have hby := Bd.bytes
  have hml : c.maxLocals = 3 := hml0
  have hown : s.vm.findClass "com/example/columnwire/columnwire/codec/GzipStream" = some m.cls := findClass_of_methodNamed Bd.named
  have hnm := (name_of_methodNamed Bd.named Bd.method).1
  have X0 : Stand p l e ({ frames := 0, cells := 0, slots := 0, locals := 0 } : Room) s m #[(.ref a1), (.ref a2), (.int p3)] below meth c s₁ [] 0 0 := Stand.of_body Bd
  have e0 : s₁.heap = h0 := by rw [← hh, Bd.state]; rfl
  have N0 := Fr.nil n0
  have R0 : ∀ t, Steps p.tables e below (s₁.setTop (mkF m 0 #[.val (.ref a1), .val (.ref a2), .val (.int p3)] [])) t → Steps p.tables e below (s₁.setTop (entryFrame m #[(.ref a1), (.ref a2), (.int p3)] 3)) t := fun t k => castTop (own_ef_rm3s m a1 a2 p3) k
  have R1 : ∀ t, Steps p.tables e below (s₁.setTop (mkF m 1 #[.val (.ref a1), .val (.ref a2), .val (.int p3)] [(.ref a2)])) t → Steps p.tables e below (s₁.setTop (entryFrame m #[(.ref a1), (.ref a2), (.int p3)] 3)) t := by
    intro t k
    refine R0 t ?_
    show Steps p.tables e below (s₁.setTop (mkF m 0 #[.val (.ref a1), .val (.ref a2), .val (.int p3)] [])) _
    refine XS.aloadN X0.here hx rfl (hb hby own_d3_0) rfl rfl ?_
    exact k
  obtain ⟨cl2, Ar2, q2, S2, N2', H2, G2⟩ := id V2
  have R3 : ∀ t, Steps p.tables e below (s₁.setTop (mkF m 43 #[.val (.ref a1), .val (.ref a2), .val (.int p3)] [(.int (0 : Int32))])) t → Steps p.tables e below (s₁.setTop (entryFrame m #[(.ref a1), (.ref a2), (.int p3)] 3)) t := by
    intro t k
    refine R1 t ?_
    show Steps p.tables e below (s₁.setTop (mkF m 1 #[.val (.ref a1), .val (.ref a2), .val (.int p3)] [(.ref a2)])) _
    refine X0.arraylength hx (by rw [e0]; exact Ar2.1) (State.isArrayOf_alike hZ.alike Ar2.2.1) (g := (mkF m 1 #[.val (.ref a1), .val (.ref a2), .val (.int p3)] [(.ref a2)])) rfl rfl (hb hby own_d3_1) _ ?_
    rw [len_of S2 N2']
    show Steps p.tables e below (s₁.setTop (mkF m 2 #[.val (.ref a1), .val (.ref a2), .val (.int p3)] [(.int z2)])) _
    refine XS.bipush X0.here hx rfl (hb hby own_d3_2) ?_
    show Steps p.tables e below (s₁.setTop (mkF m 4 #[.val (.ref a1), .val (.ref a2), .val (.int p3)] [(.int (10 : Int32)), (.int z2)])) _
    refine XS.icmpYes X0.here hx rfl (pc0 := 4) (pc' := 42) rfl (hb hby own_d3_4) rfl (tlt hz).1 (by decide) (by decide) ?_
    show Steps p.tables e below (s₁.setTop (mkF m 42 #[.val (.ref a1), .val (.ref a2), .val (.int p3)] [])) _
    refine XS.iconst X0.here hx rfl (hb hby own_d3_42) ?_
    exact k
  obtain ⟨fs, hr, hrun, hended, hW, hsame⟩ := X0.leave (v := some (.int (0 : Int32))) (fun h => by rw [Bd.returns] at h; cases h)
  refine ⟨_, _, R3 _ ?_, hrun, hended, _, _, rfl, ?_, ⟨_, rfl⟩, hW, hsame.mono (by decide) (by decide)⟩
  · exact retN X0 hx (t := .boolean) Bd.returns (by simp) (hb hby own_d3_43) hr
  · show Q_rm3s Z a1 a2 p3 k2 z2 vs2 d2 h0 n0 _ s₁.heap _
    rw [e0]
    exact ⟨rfl, N0, rfl⟩
theorem own_ef_rm3 (m : MethodId) (x0 : Addr) (x1 : Addr) (x2 : Int32) : entryFrame m #[(.ref x0), (.ref x1), (.int x2)] 3 = mkF m 0 #[.val (.ref x0), .val (.ref x1), .val (.int x2)] [] := by first | (simp [entryFrame, mkF, argsToLocals, Value.category]; done) | rfl
theorem own_d3_7 : decode prog_186_method_4_code 7 = .ok (.aload_n 1, 1) := by decide +kernel
theorem own_d3_8 : decode prog_186_method_4_code 8 = .ok (.iconst 0, 1) := by decide +kernel
theorem own_d3_9 : decode prog_186_method_4_code 9 = .ok (.baload, 1) := by decide +kernel
theorem own_d3_10 : decode prog_186_method_4_code 10 = .ok (.sipush 255, 3) := by decide +kernel
theorem own_d3_13 : decode prog_186_method_4_code 13 = .ok (.iand, 1) := by decide +kernel
theorem own_d3_14 : decode prog_186_method_4_code 14 = .ok (.aload_n 1, 1) := by decide +kernel
theorem own_d3_15 : decode prog_186_method_4_code 15 = .ok (.iconst 1, 1) := by decide +kernel
theorem own_d3_16 : decode prog_186_method_4_code 16 = .ok (.baload, 1) := by decide +kernel
theorem own_d3_17 : decode prog_186_method_4_code 17 = .ok (.sipush 255, 3) := by decide +kernel
theorem own_d3_20 : decode prog_186_method_4_code 20 = .ok (.iand, 1) := by decide +kernel
theorem own_d3_21 : decode prog_186_method_4_code 21 = .ok (.bipush 8, 2) := by decide +kernel
theorem own_d3_23 : decode prog_186_method_4_code 23 = .ok (.ishl, 1) := by decide +kernel
theorem own_d3_24 : decode prog_186_method_4_code 24 = .ok (.ior, 1) := by decide +kernel
theorem own_d3_25 : decode prog_186_method_4_code 25 = .ok (.ldc 62, 2) := by decide +kernel
theorem own_d3_27 : decode prog_186_method_4_code 27 = .ok (.if_icmp .ne 15, 3) := by decide +kernel
theorem own_d3_30 : decode prog_186_method_4_code 30 = .ok (.aload_n 1, 1) := by decide +kernel
theorem own_d3_31 : decode prog_186_method_4_code 31 = .ok (.iconst 2, 1) := by decide +kernel
theorem own_d3_32 : decode prog_186_method_4_code 32 = .ok (.baload, 1) := by decide +kernel
theorem own_d3_33 : decode prog_186_method_4_code 33 = .ok (.bipush 8, 2) := by decide +kernel
theorem own_d3_35 : decode prog_186_method_4_code 35 = .ok (.if_icmp .ne 7, 3) := by decide +kernel
theorem own_d3_38 : decode prog_186_method_4_code 38 = .ok (.iconst 1, 1) := by decide +kernel
theorem own_d3_39 : decode prog_186_method_4_code 39 = .ok (.goto 4, 3) := by decide +kernel
def own_gz (z2 b0 b1 b2 : Int32) : Int32 := (if z2 < (10 : Int32) then (0 : Int32) else (if ((b0 &&& (255 : Int32)) ||| ((b1 &&& (255 : Int32)) <<< ((8 : Int32) &&& 31))) = (35615 : Int32) then (if b2 = (8 : Int32) then (1 : Int32) else (0 : Int32)) else (0 : Int32)))
theorem own_and31 {x nn : Int32} (h : nn = (x &&& (31 : Int32))) : nn = (0 : Int32) ∨ nn = (1 : Int32) ∨ nn = (2 : Int32) ∨ nn = (3 : Int32) ∨
    (¬ nn < (0 : Int32) ∧ (0 : Int32) < nn ∧ (1 : Int32) < nn ∧ (2 : Int32) < nn ∧ (3 : Int32) < nn ∧ nn.toNatClampNeg ≤ 31 ∧ ¬ (nn - (1 : Int32)) < (0 : Int32) ∧ (nn - (1 : Int32)) < nn ∧ (nn - (1 : Int32)).toNatClampNeg < 32 ∧ 3 ≤ (nn - (1 : Int32)).toNatClampNeg) := by
  have h1 := c_mask x (31 : Int32) 5 (by decide) (by decide)
  rw [← h] at h1
  have e0 : (0 : Int32).toInt = 0 := by decide
  have e1 : (1 : Int32).toInt = 1 := by decide
  have e2 : (2 : Int32).toInt = 2 := by decide
  have e3 : (3 : Int32).toInt = 3 := by decide
  have h2 := c_isub nn (1 : Int32)
  have h3 := rng32 (nn - (1 : Int32))
  simp only [← Int32.toInt_inj, Int32.lt_iff_toInt_lt, Int32.toNatClampNeg]
  omega
theorem own_set3 {i : Nat} (hi : 3 ≤ i) {a b c v d : Value} {l : List Value} : ((a :: b :: c :: l).set i v).getD 0 d = a ∧ ((a :: b :: c :: l).set i v).getD 1 d = b ∧ ((a :: b :: c :: l).set i v).getD 2 d = c := by
  match i, hi with
  | n + 3, _ => exact ⟨rfl, rfl, rfl⟩
theorem own_eq (nn : Int32) {x y z c0 c1 c2 ex f0 f1 f2 : Int32} (h0 : c0 = (if f0 = (0 : Int32) then (x.toInt8.toInt32) else (31 : Int32))) (h1 : c1 = (if f1 = (0 : Int32) then (y.toInt8.toInt32) else (-117 : Int32))) (h2 : c2 = (if f2 = (0 : Int32) then (z.toInt8.toInt32) else (8 : Int32)))
    (he : ex = (if nn < (10 : Int32) then (0 : Int32) else (if (c0 &&& (255 : Int32)) = (31 : Int32) then (if (c1 &&& (255 : Int32)) = (139 : Int32) then (if c2 = (8 : Int32) then (1 : Int32) else (0 : Int32)) else (0 : Int32)) else (0 : Int32)))) :
    own_gz nn (nar .byte c0) (nar .byte c1) (nar .byte c2) = ex := by
  have r2 : -128 ≤ c2.toInt ∧ c2.toInt < 128 := by
    have := c_i2b z
    have e8 : (8 : Int32).toInt = 8 := by decide
    rw [h2]; split <;> omega
  clear h0 h1 h2
  have n0 : (nar .byte c0) = c0.toInt8.toInt32 := rfl
  have n1 : (nar .byte c1) = c1.toInt8.toInt32 := rfl
  have n2 : (nar .byte c2) = c2 := by
    show c2.toInt8.toInt32 = c2
    have := c_i2b c2
    rw [← Int32.toInt_inj]; omega
  have i0 := c_i2b c0
  have i1 := c_i2b c1
  rw [n2, n0, n1]
  have m1 := c_mask c0.toInt8.toInt32 (255 : Int32) 8 (by decide) (by decide)
  have m2 := c_mask c1.toInt8.toInt32 (255 : Int32) 8 (by decide) (by decide)
  have m3 := c_mask c0 (255 : Int32) 8 (by decide) (by decide)
  have m4 := c_mask c1 (255 : Int32) 8 (by decide) (by decide)
  have ex0 : (c0.toInt8.toInt32 &&& (255 : Int32)) = (c0 &&& (255 : Int32)) := by rw [← Int32.toInt_inj]; omega
  have ey0 : (c1.toInt8.toInt32 &&& (255 : Int32)) = (c1 &&& (255 : Int32)) := by rw [← Int32.toInt_inj]; omega
  unfold own_gz
  rw [ex0, ey0]
  generalize (c0 &&& (255 : Int32)) = a at *
  generalize (c1 &&& (255 : Int32)) = b at *
  have q : (a ||| (b <<< ((8 : Int32) &&& 31))) = (35615 : Int32) ↔ a = (31 : Int32) ∧ b = (139 : Int32) := by
    have s1 := c_ishl b (8 : Int32) 8 (by decide)
    have r1 := rng32 (b <<< ((8 : Int32) &&& 31))
    have s2 := c_or' a (b <<< ((8 : Int32) &&& 31)) 8 (by decide) 256 (by decide) (by omega) (by omega) (by omega)
    have r2 := rng32 (a ||| (b <<< ((8 : Int32) &&& 31)))
    have e1 : (35615 : Int32).toInt = 35615 := by decide
    have e2 : (31 : Int32).toInt = 31 := by decide
    have e3 : (139 : Int32).toInt = 139 := by decide
    simp only [← Int32.toInt_inj]
    omega
  simp only [q]
  subst he
  by_cases a1 : a = (31 : Int32) <;> by_cases a2 : b = (139 : Int32) <;> by_cases a3 : c2 = (8 : Int32) <;> simp [a1, a2, a3]
def Q_rm3 (Z : State) (a1 a2 : Addr) (p3 : Int32) (k2 : ClassId) (z2 : Int32) (vs2 : List Value) (d2 : Value) (b0 b1 b2 : Int32) (h0 : Heap) (n0 : Nat) (v : Option Value) (h : Heap) (L : List Loc) : Prop := v = some (.int (own_gz z2 b0 b1 b2)) ∧ Fr n0 L ∧ h = h0
set_option maxRecDepth 65536 in
set_option maxHeartbeats 40000000 in
theorem rm3 (l : Launch) (Z : State) (a0 : Array Value) (hw : ∀ d ∈ tables_1, d.before a0 Z = true) (ws : List Jvm.Cond) (a1 a2 : Addr) (p3 : Int32) (k2 : ClassId) (z2 : Int32) (vs2 : List Value) (d2 : Value) (b0 b1 b2 : Int32) (h0 : Heap) (n0 : Nat) (Z0 : n0 ≤ h0.size) (V2 : Arv Z h0 a2 k2 .byte z2 vs2 d2) (hz0 : (0 : Int32) < z2) (hz1 : (1 : Int32) < z2) (hz2 : (2 : Int32) < z2) (u0 : vs2.getD 0 d2 = .int b0) (u1 : vs2.getD 1 d2 = .int b1) (u2 : vs2.getD 2 d2 = .int b2) :
    MetFree l (⟨"com/example/columnwire/columnwire/codec/GzipStream", "beginsAsBlock", "([BI)Z"⟩ : MethodName) (head1 (Jvm.Cond.code (⟨"com/example/columnwire/columnwire/codec/GzipStream", "beginsAsBlock", "([BI)Z"⟩ : MethodName) prog_186_method_4_code 3 (some .boolean) :: ws) ({ frames := 0, cells := 0, slots := 0, locals := 0 } : Room)) (fun a U => a = #[(.ref a1), (.ref a2), (.int p3)] ∧ Z.Warmed39 U.vm ∧ U.heap = h0) (fun _ _ _ _ _ => True) (fun _ U o U' => ∃ v L, o = .returned v ∧ Q_rm3 Z a1 a2 p3 k2 z2 vs2 d2 b0 b1 b2 h0 n0 v U'.heap L ∧ FrameEnd U o U' L ({ frames := 0, cells := 0, slots := 0, locals := 0 } : Room).cells ({ frames := 0, cells := 0, slots := 0, locals := 0 } : Room).slots) := by
  refine MetFree.of_bodySF (plainFor_of_name own_pn0) hisR ?_
  intro p e s m args below meth c s₁ Bd hml0 hP hK
  obtain ⟨rfl, hZ, hh⟩ := hP
  have hx := Bd.exec
  have hby := Bd.bytes
  have hml : c.maxLocals = 3 := hml0
  have hown : s.vm.findClass "com/example/columnwire/columnwire/codec/GzipStream" = some m.cls := findClass_of_methodNamed Bd.named
  have hnm := (name_of_methodNamed Bd.named Bd.method).1
  have X0 : Stand p l e ({ frames := 0, cells := 0, slots := 0, locals := 0 } : Room) s m #[(.ref a1), (.ref a2), (.int p3)] below meth c s₁ [] 0 0 := Stand.of_body Bd
  have e0 : s₁.heap = h0 := by rw [← hh, Bd.state]; rfl
  have N0 := Fr.nil n0
  have R0 : ∀ t, Steps p.tables e below (s₁.setTop (mkF m 0 #[.val (.ref a1), .val (.ref a2), .val (.int p3)] [])) t → Steps p.tables e below (s₁.setTop (entryFrame m #[(.ref a1), (.ref a2), (.int p3)] 3)) t := fun t k => castTop (own_ef_rm3 m a1 a2 p3) k
  obtain ⟨cl1, Ar1, q1, S1, N1', H1, G1⟩ := id V2
  have hin1_0 : ¬ ((0 : Int32) < 0 ∨ cl1.slots.size ≤ ((0 : Int32)).toNatClampNeg) := inb_of S1 ⟨by decide, hz0⟩
  have hat1_0 : cl1.slots[((0 : Int32)).toNatClampNeg]? = some (.int b0) := H1.at hin1_0 u0
  have hin1_1 : ¬ ((1 : Int32) < 0 ∨ cl1.slots.size ≤ ((1 : Int32)).toNatClampNeg) := inb_of S1 ⟨by decide, hz1⟩
  have hat1_1 : cl1.slots[((1 : Int32)).toNatClampNeg]? = some (.int b1) := H1.at hin1_1 u1
  have hin1_2 : ¬ ((2 : Int32) < 0 ∨ cl1.slots.size ≤ ((2 : Int32)).toNatClampNeg) := inb_of S1 ⟨by decide, hz2⟩
  have hat1_2 : cl1.slots[((2 : Int32)).toNatClampNeg]? = some (.int b2) := H1.at hin1_2 u2
  have R2 : ∀ t, Steps p.tables e below (s₁.setTop (mkF m 2 #[.val (.ref a1), .val (.ref a2), .val (.int p3)] [(.int z2)])) t → Steps p.tables e below (s₁.setTop (entryFrame m #[(.ref a1), (.ref a2), (.int p3)] 3)) t := by
    intro t k
    refine R0 t ?_
    show Steps p.tables e below (s₁.setTop (mkF m 0 #[.val (.ref a1), .val (.ref a2), .val (.int p3)] [])) _
    refine XS.aloadN X0.here hx rfl (hb hby own_d3_0) rfl rfl ?_
    show Steps p.tables e below (s₁.setTop (mkF m 1 #[.val (.ref a1), .val (.ref a2), .val (.int p3)] [(.ref a2)])) _
    refine X0.arraylength hx (by rw [e0]; exact Ar1.1) (State.isArrayOf_alike hZ.alike Ar1.2.1) (g := (mkF m 1 #[.val (.ref a1), .val (.ref a2), .val (.int p3)] [(.ref a2)])) rfl rfl (hb hby own_d3_1) _ ?_
    rw [len_of S1 N1']
    exact k
  obtain ⟨res, hres, R3⟩ : ∃ (res : Int32), res = (if z2 < (10 : Int32) then (0 : Int32) else (if ((b0 &&& (255 : Int32)) ||| ((b1 &&& (255 : Int32)) <<< ((8 : Int32) &&& 31))) = (35615 : Int32) then (if b2 = (8 : Int32) then (1 : Int32) else (0 : Int32)) else (0 : Int32))) ∧ (∀ t, Steps p.tables e below (s₁.setTop (mkF m 43 #[.val (.ref a1), .val (.ref a2), .val (.int p3)] [(.int res)])) t → Steps p.tables e below (s₁.setTop (entryFrame m #[(.ref a1), (.ref a2), (.int p3)] 3)) t) := by
    by_cases hc4_0 : z2 < (10 : Int32)
    · refine ⟨(0 : Int32), (by simp only [if_pos hc4_0]), ?_⟩
      intro t k
      refine R2 t ?_
      show Steps p.tables e below (s₁.setTop (mkF m 2 #[.val (.ref a1), .val (.ref a2), .val (.int p3)] [(.int z2)])) _
      refine XS.bipush X0.here hx rfl (hb hby own_d3_2) ?_
      show Steps p.tables e below (s₁.setTop (mkF m 4 #[.val (.ref a1), .val (.ref a2), .val (.int p3)] [(.int (10 : Int32)), (.int z2)])) _
      refine XS.icmpYes X0.here hx rfl (pc0 := 4) (pc' := 42) rfl (hb hby own_d3_4) rfl (tlt hc4_0).1 (by decide) (by decide) ?_
      show Steps p.tables e below (s₁.setTop (mkF m 42 #[.val (.ref a1), .val (.ref a2), .val (.int p3)] [])) _
      refine XS.iconst X0.here hx rfl (hb hby own_d3_42) ?_
      exact k
    · by_cases hc27_1 : ((b0 &&& (255 : Int32)) ||| ((b1 &&& (255 : Int32)) <<< ((8 : Int32) &&& 31))) = (35615 : Int32)
      · by_cases hc35_2 : b2 = (8 : Int32)
        · refine ⟨(1 : Int32), (by simp only [if_neg hc4_0, if_pos hc27_1, if_pos hc35_2]), ?_⟩
          intro t k
          refine R2 t ?_
          show Steps p.tables e below (s₁.setTop (mkF m 2 #[.val (.ref a1), .val (.ref a2), .val (.int p3)] [(.int z2)])) _
          refine XS.bipush X0.here hx rfl (hb hby own_d3_2) ?_
          show Steps p.tables e below (s₁.setTop (mkF m 4 #[.val (.ref a1), .val (.ref a2), .val (.int p3)] [(.int (10 : Int32)), (.int z2)])) _
          refine XS.icmpNo X0.here hx rfl (hb hby own_d3_4) rfl (flt hc4_0).1 ?_
          show Steps p.tables e below (s₁.setTop (mkF m 7 #[.val (.ref a1), .val (.ref a2), .val (.int p3)] [])) _
          refine XS.aloadN X0.here hx rfl (hb hby own_d3_7) rfl rfl ?_
          show Steps p.tables e below (s₁.setTop (mkF m 8 #[.val (.ref a1), .val (.ref a2), .val (.int p3)] [(.ref a2)])) _
          refine XS.iconst X0.here hx rfl (hb hby own_d3_8) ?_
          show Steps p.tables e below (s₁.setTop (mkF m 9 #[.val (.ref a1), .val (.ref a2), .val (.int p3)] [(.int (0 : Int32)), (.ref a2)])) _
          refine X0.baloadBytes hx (j := (0 : Int32)) (v := (.int b0)) (by rw [e0]; exact Ar1.1) (State.isArrayOf_alike hZ.alike Ar1.2.1) Ar1.2.2 hin1_0 hat1_0 (g := (mkF m 9 #[.val (.ref a1), .val (.ref a2), .val (.int p3)] [(.int (0 : Int32)), (.ref a2)])) rfl rfl (hb hby own_d3_9) _ ?_
          show Steps p.tables e below (s₁.setTop (mkF m 10 #[.val (.ref a1), .val (.ref a2), .val (.int p3)] [(.int b0)])) _
          refine XS.sipush X0.here hx rfl (hb hby own_d3_10) ?_
          show Steps p.tables e below (s₁.setTop (mkF m 13 #[.val (.ref a1), .val (.ref a2), .val (.int p3)] [(.int (255 : Int32)), (.int b0)])) _
          refine XS.iand X0.here hx rfl (hb hby own_d3_13) rfl ?_
          show Steps p.tables e below (s₁.setTop (mkF m 14 #[.val (.ref a1), .val (.ref a2), .val (.int p3)] [(.int (b0 &&& (255 : Int32)))])) _
          refine XS.aloadN X0.here hx rfl (hb hby own_d3_14) rfl rfl ?_
          show Steps p.tables e below (s₁.setTop (mkF m 15 #[.val (.ref a1), .val (.ref a2), .val (.int p3)] [(.ref a2), (.int (b0 &&& (255 : Int32)))])) _
          refine XS.iconst X0.here hx rfl (hb hby own_d3_15) ?_
          show Steps p.tables e below (s₁.setTop (mkF m 16 #[.val (.ref a1), .val (.ref a2), .val (.int p3)] [(.int (1 : Int32)), (.ref a2), (.int (b0 &&& (255 : Int32)))])) _
          refine X0.baloadBytes hx (j := (1 : Int32)) (v := (.int b1)) (by rw [e0]; exact Ar1.1) (State.isArrayOf_alike hZ.alike Ar1.2.1) Ar1.2.2 hin1_1 hat1_1 (g := (mkF m 16 #[.val (.ref a1), .val (.ref a2), .val (.int p3)] [(.int (1 : Int32)), (.ref a2), (.int (b0 &&& (255 : Int32)))])) rfl rfl (hb hby own_d3_16) _ ?_
          show Steps p.tables e below (s₁.setTop (mkF m 17 #[.val (.ref a1), .val (.ref a2), .val (.int p3)] [(.int b1), (.int (b0 &&& (255 : Int32)))])) _
          refine XS.sipush X0.here hx rfl (hb hby own_d3_17) ?_
          show Steps p.tables e below (s₁.setTop (mkF m 20 #[.val (.ref a1), .val (.ref a2), .val (.int p3)] [(.int (255 : Int32)), (.int b1), (.int (b0 &&& (255 : Int32)))])) _
          refine XS.iand X0.here hx rfl (hb hby own_d3_20) rfl ?_
          show Steps p.tables e below (s₁.setTop (mkF m 21 #[.val (.ref a1), .val (.ref a2), .val (.int p3)] [(.int (b1 &&& (255 : Int32))), (.int (b0 &&& (255 : Int32)))])) _
          refine XS.bipush X0.here hx rfl (hb hby own_d3_21) ?_
          show Steps p.tables e below (s₁.setTop (mkF m 23 #[.val (.ref a1), .val (.ref a2), .val (.int p3)] [(.int (8 : Int32)), (.int (b1 &&& (255 : Int32))), (.int (b0 &&& (255 : Int32)))])) _
          refine XS.ishl X0.here hx rfl (hb hby own_d3_23) rfl ?_
          show Steps p.tables e below (s₁.setTop (mkF m 24 #[.val (.ref a1), .val (.ref a2), .val (.int p3)] [(.int ((b1 &&& (255 : Int32)) <<< ((8 : Int32) &&& 31))), (.int (b0 &&& (255 : Int32)))])) _
          refine XS.ior X0.here hx rfl (hb hby own_d3_24) rfl ?_
          show Steps p.tables e below (s₁.setTop (mkF m 25 #[.val (.ref a1), .val (.ref a2), .val (.int p3)] [(.int ((b0 &&& (255 : Int32)) ||| ((b1 &&& (255 : Int32)) <<< ((8 : Int32) &&& 31))))])) _
          refine X0.ldcInt hx hown (mvT hZ (hw _ (List.mem_of_getElem? (i := 15) rfl))) (g := (mkF m 25 #[.val (.ref a1), .val (.ref a2), .val (.int p3)] [(.int ((b0 &&& (255 : Int32)) ||| ((b1 &&& (255 : Int32)) <<< ((8 : Int32) &&& 31))))])) rfl (hb hby own_d3_25) _ ?_
          show Steps p.tables e below (s₁.setTop (mkF m 27 #[.val (.ref a1), .val (.ref a2), .val (.int p3)] [(.int (35615 : Int32)), (.int ((b0 &&& (255 : Int32)) ||| ((b1 &&& (255 : Int32)) <<< ((8 : Int32) &&& 31))))])) _
          refine XS.icmpNo X0.here hx rfl (hb hby own_d3_27) rfl (teq hc27_1).2 ?_
          show Steps p.tables e below (s₁.setTop (mkF m 30 #[.val (.ref a1), .val (.ref a2), .val (.int p3)] [])) _
          refine XS.aloadN X0.here hx rfl (hb hby own_d3_30) rfl rfl ?_
          show Steps p.tables e below (s₁.setTop (mkF m 31 #[.val (.ref a1), .val (.ref a2), .val (.int p3)] [(.ref a2)])) _
          refine XS.iconst X0.here hx rfl (hb hby own_d3_31) ?_
          show Steps p.tables e below (s₁.setTop (mkF m 32 #[.val (.ref a1), .val (.ref a2), .val (.int p3)] [(.int (2 : Int32)), (.ref a2)])) _
          refine X0.baloadBytes hx (j := (2 : Int32)) (v := (.int b2)) (by rw [e0]; exact Ar1.1) (State.isArrayOf_alike hZ.alike Ar1.2.1) Ar1.2.2 hin1_2 hat1_2 (g := (mkF m 32 #[.val (.ref a1), .val (.ref a2), .val (.int p3)] [(.int (2 : Int32)), (.ref a2)])) rfl rfl (hb hby own_d3_32) _ ?_
          show Steps p.tables e below (s₁.setTop (mkF m 33 #[.val (.ref a1), .val (.ref a2), .val (.int p3)] [(.int b2)])) _
          refine XS.bipush X0.here hx rfl (hb hby own_d3_33) ?_
          show Steps p.tables e below (s₁.setTop (mkF m 35 #[.val (.ref a1), .val (.ref a2), .val (.int p3)] [(.int (8 : Int32)), (.int b2)])) _
          refine XS.icmpNo X0.here hx rfl (hb hby own_d3_35) rfl (teq hc35_2).2 ?_
          show Steps p.tables e below (s₁.setTop (mkF m 38 #[.val (.ref a1), .val (.ref a2), .val (.int p3)] [])) _
          refine XS.iconst X0.here hx rfl (hb hby own_d3_38) ?_
          show Steps p.tables e below (s₁.setTop (mkF m 39 #[.val (.ref a1), .val (.ref a2), .val (.int p3)] [(.int (1 : Int32))])) _
          refine XS.goto X0.here hx rfl (pc0 := 39) (pc' := 43) rfl (hb hby own_d3_39) (by decide) (by decide) ?_
          exact k
        · refine ⟨(0 : Int32), (by simp only [if_neg hc4_0, if_pos hc27_1, if_neg hc35_2]), ?_⟩
          intro t k
          refine R2 t ?_
          show Steps p.tables e below (s₁.setTop (mkF m 2 #[.val (.ref a1), .val (.ref a2), .val (.int p3)] [(.int z2)])) _
          refine XS.bipush X0.here hx rfl (hb hby own_d3_2) ?_
          show Steps p.tables e below (s₁.setTop (mkF m 4 #[.val (.ref a1), .val (.ref a2), .val (.int p3)] [(.int (10 : Int32)), (.int z2)])) _
          refine XS.icmpNo X0.here hx rfl (hb hby own_d3_4) rfl (flt hc4_0).1 ?_
          show Steps p.tables e below (s₁.setTop (mkF m 7 #[.val (.ref a1), .val (.ref a2), .val (.int p3)] [])) _
          refine XS.aloadN X0.here hx rfl (hb hby own_d3_7) rfl rfl ?_
          show Steps p.tables e below (s₁.setTop (mkF m 8 #[.val (.ref a1), .val (.ref a2), .val (.int p3)] [(.ref a2)])) _
          refine XS.iconst X0.here hx rfl (hb hby own_d3_8) ?_
          show Steps p.tables e below (s₁.setTop (mkF m 9 #[.val (.ref a1), .val (.ref a2), .val (.int p3)] [(.int (0 : Int32)), (.ref a2)])) _
          refine X0.baloadBytes hx (j := (0 : Int32)) (v := (.int b0)) (by rw [e0]; exact Ar1.1) (State.isArrayOf_alike hZ.alike Ar1.2.1) Ar1.2.2 hin1_0 hat1_0 (g := (mkF m 9 #[.val (.ref a1), .val (.ref a2), .val (.int p3)] [(.int (0 : Int32)), (.ref a2)])) rfl rfl (hb hby own_d3_9) _ ?_
          show Steps p.tables e below (s₁.setTop (mkF m 10 #[.val (.ref a1), .val (.ref a2), .val (.int p3)] [(.int b0)])) _
          refine XS.sipush X0.here hx rfl (hb hby own_d3_10) ?_
          show Steps p.tables e below (s₁.setTop (mkF m 13 #[.val (.ref a1), .val (.ref a2), .val (.int p3)] [(.int (255 : Int32)), (.int b0)])) _
          refine XS.iand X0.here hx rfl (hb hby own_d3_13) rfl ?_
          show Steps p.tables e below (s₁.setTop (mkF m 14 #[.val (.ref a1), .val (.ref a2), .val (.int p3)] [(.int (b0 &&& (255 : Int32)))])) _
          refine XS.aloadN X0.here hx rfl (hb hby own_d3_14) rfl rfl ?_
          show Steps p.tables e below (s₁.setTop (mkF m 15 #[.val (.ref a1), .val (.ref a2), .val (.int p3)] [(.ref a2), (.int (b0 &&& (255 : Int32)))])) _
          refine XS.iconst X0.here hx rfl (hb hby own_d3_15) ?_
          show Steps p.tables e below (s₁.setTop (mkF m 16 #[.val (.ref a1), .val (.ref a2), .val (.int p3)] [(.int (1 : Int32)), (.ref a2), (.int (b0 &&& (255 : Int32)))])) _
          refine X0.baloadBytes hx (j := (1 : Int32)) (v := (.int b1)) (by rw [e0]; exact Ar1.1) (State.isArrayOf_alike hZ.alike Ar1.2.1) Ar1.2.2 hin1_1 hat1_1 (g := (mkF m 16 #[.val (.ref a1), .val (.ref a2), .val (.int p3)] [(.int (1 : Int32)), (.ref a2), (.int (b0 &&& (255 : Int32)))])) rfl rfl (hb hby own_d3_16) _ ?_
          show Steps p.tables e below (s₁.setTop (mkF m 17 #[.val (.ref a1), .val (.ref a2), .val (.int p3)] [(.int b1), (.int (b0 &&& (255 : Int32)))])) _
          refine XS.sipush X0.here hx rfl (hb hby own_d3_17) ?_
          show Steps p.tables e below (s₁.setTop (mkF m 20 #[.val (.ref a1), .val (.ref a2), .val (.int p3)] [(.int (255 : Int32)), (.int b1), (.int (b0 &&& (255 : Int32)))])) _
          refine XS.iand X0.here hx rfl (hb hby own_d3_20) rfl ?_
          show Steps p.tables e below (s₁.setTop (mkF m 21 #[.val (.ref a1), .val (.ref a2), .val (.int p3)] [(.int (b1 &&& (255 : Int32))), (.int (b0 &&& (255 : Int32)))])) _
          refine XS.bipush X0.here hx rfl (hb hby own_d3_21) ?_
          show Steps p.tables e below (s₁.setTop (mkF m 23 #[.val (.ref a1), .val (.ref a2), .val (.int p3)] [(.int (8 : Int32)), (.int (b1 &&& (255 : Int32))), (.int (b0 &&& (255 : Int32)))])) _
          refine XS.ishl X0.here hx rfl (hb hby own_d3_23) rfl ?_
          show Steps p.tables e below (s₁.setTop (mkF m 24 #[.val (.ref a1), .val (.ref a2), .val (.int p3)] [(.int ((b1 &&& (255 : Int32)) <<< ((8 : Int32) &&& 31))), (.int (b0 &&& (255 : Int32)))])) _
          refine XS.ior X0.here hx rfl (hb hby own_d3_24) rfl ?_
          show Steps p.tables e below (s₁.setTop (mkF m 25 #[.val (.ref a1), .val (.ref a2), .val (.int p3)] [(.int ((b0 &&& (255 : Int32)) ||| ((b1 &&& (255 : Int32)) <<< ((8 : Int32) &&& 31))))])) _
          refine X0.ldcInt hx hown (mvT hZ (hw _ (List.mem_of_getElem? (i := 15) rfl))) (g := (mkF m 25 #[.val (.ref a1), .val (.ref a2), .val (.int p3)] [(.int ((b0 &&& (255 : Int32)) ||| ((b1 &&& (255 : Int32)) <<< ((8 : Int32) &&& 31))))])) rfl (hb hby own_d3_25) _ ?_
          show Steps p.tables e below (s₁.setTop (mkF m 27 #[.val (.ref a1), .val (.ref a2), .val (.int p3)] [(.int (35615 : Int32)), (.int ((b0 &&& (255 : Int32)) ||| ((b1 &&& (255 : Int32)) <<< ((8 : Int32) &&& 31))))])) _
          refine XS.icmpNo X0.here hx rfl (hb hby own_d3_27) rfl (teq hc27_1).2 ?_
          show Steps p.tables e below (s₁.setTop (mkF m 30 #[.val (.ref a1), .val (.ref a2), .val (.int p3)] [])) _
          refine XS.aloadN X0.here hx rfl (hb hby own_d3_30) rfl rfl ?_
          show Steps p.tables e below (s₁.setTop (mkF m 31 #[.val (.ref a1), .val (.ref a2), .val (.int p3)] [(.ref a2)])) _
          refine XS.iconst X0.here hx rfl (hb hby own_d3_31) ?_
          show Steps p.tables e below (s₁.setTop (mkF m 32 #[.val (.ref a1), .val (.ref a2), .val (.int p3)] [(.int (2 : Int32)), (.ref a2)])) _
          refine X0.baloadBytes hx (j := (2 : Int32)) (v := (.int b2)) (by rw [e0]; exact Ar1.1) (State.isArrayOf_alike hZ.alike Ar1.2.1) Ar1.2.2 hin1_2 hat1_2 (g := (mkF m 32 #[.val (.ref a1), .val (.ref a2), .val (.int p3)] [(.int (2 : Int32)), (.ref a2)])) rfl rfl (hb hby own_d3_32) _ ?_
          show Steps p.tables e below (s₁.setTop (mkF m 33 #[.val (.ref a1), .val (.ref a2), .val (.int p3)] [(.int b2)])) _
          refine XS.bipush X0.here hx rfl (hb hby own_d3_33) ?_
          show Steps p.tables e below (s₁.setTop (mkF m 35 #[.val (.ref a1), .val (.ref a2), .val (.int p3)] [(.int (8 : Int32)), (.int b2)])) _
          refine XS.icmpYes X0.here hx rfl (pc0 := 35) (pc' := 42) rfl (hb hby own_d3_35) rfl (feq hc35_2).2 (by decide) (by decide) ?_
          show Steps p.tables e below (s₁.setTop (mkF m 42 #[.val (.ref a1), .val (.ref a2), .val (.int p3)] [])) _
          refine XS.iconst X0.here hx rfl (hb hby own_d3_42) ?_
          exact k
      · refine ⟨(0 : Int32), (by simp only [if_neg hc4_0, if_neg hc27_1]), ?_⟩
        intro t k
        refine R2 t ?_
        show Steps p.tables e below (s₁.setTop (mkF m 2 #[.val (.ref a1), .val (.ref a2), .val (.int p3)] [(.int z2)])) _
        refine XS.bipush X0.here hx rfl (hb hby own_d3_2) ?_
        show Steps p.tables e below (s₁.setTop (mkF m 4 #[.val (.ref a1), .val (.ref a2), .val (.int p3)] [(.int (10 : Int32)), (.int z2)])) _
        refine XS.icmpNo X0.here hx rfl (hb hby own_d3_4) rfl (flt hc4_0).1 ?_
        show Steps p.tables e below (s₁.setTop (mkF m 7 #[.val (.ref a1), .val (.ref a2), .val (.int p3)] [])) _
        refine XS.aloadN X0.here hx rfl (hb hby own_d3_7) rfl rfl ?_
        show Steps p.tables e below (s₁.setTop (mkF m 8 #[.val (.ref a1), .val (.ref a2), .val (.int p3)] [(.ref a2)])) _
        refine XS.iconst X0.here hx rfl (hb hby own_d3_8) ?_
        show Steps p.tables e below (s₁.setTop (mkF m 9 #[.val (.ref a1), .val (.ref a2), .val (.int p3)] [(.int (0 : Int32)), (.ref a2)])) _
        refine X0.baloadBytes hx (j := (0 : Int32)) (v := (.int b0)) (by rw [e0]; exact Ar1.1) (State.isArrayOf_alike hZ.alike Ar1.2.1) Ar1.2.2 hin1_0 hat1_0 (g := (mkF m 9 #[.val (.ref a1), .val (.ref a2), .val (.int p3)] [(.int (0 : Int32)), (.ref a2)])) rfl rfl (hb hby own_d3_9) _ ?_
        show Steps p.tables e below (s₁.setTop (mkF m 10 #[.val (.ref a1), .val (.ref a2), .val (.int p3)] [(.int b0)])) _
        refine XS.sipush X0.here hx rfl (hb hby own_d3_10) ?_
        show Steps p.tables e below (s₁.setTop (mkF m 13 #[.val (.ref a1), .val (.ref a2), .val (.int p3)] [(.int (255 : Int32)), (.int b0)])) _
        refine XS.iand X0.here hx rfl (hb hby own_d3_13) rfl ?_
        show Steps p.tables e below (s₁.setTop (mkF m 14 #[.val (.ref a1), .val (.ref a2), .val (.int p3)] [(.int (b0 &&& (255 : Int32)))])) _
        refine XS.aloadN X0.here hx rfl (hb hby own_d3_14) rfl rfl ?_
        show Steps p.tables e below (s₁.setTop (mkF m 15 #[.val (.ref a1), .val (.ref a2), .val (.int p3)] [(.ref a2), (.int (b0 &&& (255 : Int32)))])) _
        refine XS.iconst X0.here hx rfl (hb hby own_d3_15) ?_
        show Steps p.tables e below (s₁.setTop (mkF m 16 #[.val (.ref a1), .val (.ref a2), .val (.int p3)] [(.int (1 : Int32)), (.ref a2), (.int (b0 &&& (255 : Int32)))])) _
        refine X0.baloadBytes hx (j := (1 : Int32)) (v := (.int b1)) (by rw [e0]; exact Ar1.1) (State.isArrayOf_alike hZ.alike Ar1.2.1) Ar1.2.2 hin1_1 hat1_1 (g := (mkF m 16 #[.val (.ref a1), .val (.ref a2), .val (.int p3)] [(.int (1 : Int32)), (.ref a2), (.int (b0 &&& (255 : Int32)))])) rfl rfl (hb hby own_d3_16) _ ?_
        show Steps p.tables e below (s₁.setTop (mkF m 17 #[.val (.ref a1), .val (.ref a2), .val (.int p3)] [(.int b1), (.int (b0 &&& (255 : Int32)))])) _
        refine XS.sipush X0.here hx rfl (hb hby own_d3_17) ?_
        show Steps p.tables e below (s₁.setTop (mkF m 20 #[.val (.ref a1), .val (.ref a2), .val (.int p3)] [(.int (255 : Int32)), (.int b1), (.int (b0 &&& (255 : Int32)))])) _
        refine XS.iand X0.here hx rfl (hb hby own_d3_20) rfl ?_
        show Steps p.tables e below (s₁.setTop (mkF m 21 #[.val (.ref a1), .val (.ref a2), .val (.int p3)] [(.int (b1 &&& (255 : Int32))), (.int (b0 &&& (255 : Int32)))])) _
        refine XS.bipush X0.here hx rfl (hb hby own_d3_21) ?_
        show Steps p.tables e below (s₁.setTop (mkF m 23 #[.val (.ref a1), .val (.ref a2), .val (.int p3)] [(.int (8 : Int32)), (.int (b1 &&& (255 : Int32))), (.int (b0 &&& (255 : Int32)))])) _
        refine XS.ishl X0.here hx rfl (hb hby own_d3_23) rfl ?_
        show Steps p.tables e below (s₁.setTop (mkF m 24 #[.val (.ref a1), .val (.ref a2), .val (.int p3)] [(.int ((b1 &&& (255 : Int32)) <<< ((8 : Int32) &&& 31))), (.int (b0 &&& (255 : Int32)))])) _
        refine XS.ior X0.here hx rfl (hb hby own_d3_24) rfl ?_
        show Steps p.tables e below (s₁.setTop (mkF m 25 #[.val (.ref a1), .val (.ref a2), .val (.int p3)] [(.int ((b0 &&& (255 : Int32)) ||| ((b1 &&& (255 : Int32)) <<< ((8 : Int32) &&& 31))))])) _
        refine X0.ldcInt hx hown (mvT hZ (hw _ (List.mem_of_getElem? (i := 15) rfl))) (g := (mkF m 25 #[.val (.ref a1), .val (.ref a2), .val (.int p3)] [(.int ((b0 &&& (255 : Int32)) ||| ((b1 &&& (255 : Int32)) <<< ((8 : Int32) &&& 31))))])) rfl (hb hby own_d3_25) _ ?_
        show Steps p.tables e below (s₁.setTop (mkF m 27 #[.val (.ref a1), .val (.ref a2), .val (.int p3)] [(.int (35615 : Int32)), (.int ((b0 &&& (255 : Int32)) ||| ((b1 &&& (255 : Int32)) <<< ((8 : Int32) &&& 31))))])) _
        refine XS.icmpYes X0.here hx rfl (pc0 := 27) (pc' := 42) rfl (hb hby own_d3_27) rfl (feq hc27_1).2 (by decide) (by decide) ?_
        show Steps p.tables e below (s₁.setTop (mkF m 42 #[.val (.ref a1), .val (.ref a2), .val (.int p3)] [])) _
        refine XS.iconst X0.here hx rfl (hb hby own_d3_42) ?_
        exact k
  have hres' : res = own_gz z2 b0 b1 b2 := hres
  subst hres'
  obtain ⟨fs, hr, hrun, hended, hW, hsame⟩ := X0.leave (v := some (.int (own_gz z2 b0 b1 b2))) (fun h => by rw [Bd.returns] at h; cases h)
  refine ⟨_, _, R3 _ ?_, hrun, hended, _, _, rfl, ?_, ⟨_, rfl⟩, hW, hsame.mono (by decide) (by decide)⟩
  · exact retN X0 hx (t := .boolean) Bd.returns (by simp) (hb hby own_d3_43) (by rw [(by unfold own_gz; (repeat' split) <;> rfl : nar .boolean (own_gz z2 b0 b1 b2) = (own_gz z2 b0 b1 b2))]; exact hr)
  · show Q_rm3 Z a1 a2 p3 k2 z2 vs2 d2 b0 b1 b2 h0 n0 _ s₁.heap _
    rw [e0]
    exact ⟨rfl, N0, rfl⟩
theorem own_pn1 : plainName "com/example/columnwire/columnwire/codec/GzipStreamBeginsAsBlockPinLaw" = true := by first | (simp [plainName, overriddenIn]; done) | decide +kernel
theorem own_ef_rm0 (m : MethodId) (x0 : Int32) (x1 : Int32) (x2 : Int32) (x3 : Int32) (x4 : Int32) (x5 : Int32) : entryFrame m #[(.int x0), (.int x1), (.int x2), (.int x3), (.int x4), (.int x5)] maxLocals = mkF m 0 #[.val (.int x0), .val (.int x1), .val (.int x2), .val (.int x3), .val (.int x4), .val (.int x5), .unset, .unset, .unset, .unset, .unset, .unset, .unset] [] := by first | (simp [entryFrame, mkF, argsToLocals, Value.category, maxLocals]; done) | rfl
theorem own_pd0 : parseMethodDescriptor "()V" = some ⟨[], none⟩ := by decide +kernel
theorem own_pd1 : parseMethodDescriptor "([BI)Z" = some ⟨[(.array .byte), .int], some .boolean⟩ := by decide +kernel
def Q_rm0 (Z : State) (p1 p2 p3 p4 p5 p6 : Int32) (h0 : Heap) (n0 : Nat) (v : Option Value) (h : Heap) (L : List Loc) : Prop := v = some (.int 1) ∧ Fr n0 L
set_option maxRecDepth 65536 in
set_option maxHeartbeats 40000000 in
theorem rm0 (l : Launch) (Z : State) (a0 : Array Value) (hw : ∀ d ∈ tables_1, d.before a0 Z = true) (ws : List Jvm.Cond) (p1 p2 p3 p4 p5 p6 : Int32) (h0 : Heap) (n0 : Nat) (Z0 : n0 ≤ h0.size)  :
    MetFree l x (head1 (Jvm.Cond.code x code maxLocals ret :: ws) room_1) (fun a U => a = #[(.int p1), (.int p2), (.int p3), (.int p4), (.int p5), (.int p6)] ∧ Z.Warmed39 U.vm ∧ U.heap = h0) (fun _ _ _ _ _ => True) (fun _ U o U' => ∃ v L, o = .returned v ∧ Q_rm0 Z p1 p2 p3 p4 p5 p6 h0 n0 v U'.heap L ∧ FrameEnd U o U' L room_1.cells room_1.slots) := by
  refine MetFree.of_bodySF (plainFor_of_name own_pn1) hisR ?_
  intro p e s m args below meth c s₁ Bd hml0 hP hK
  obtain ⟨rfl, hZ, hh⟩ := hP
  have hx := Bd.exec
  have hby := Bd.bytes
  have hml : c.maxLocals = 13 := hml0
  have hown : s.vm.findClass "com/example/columnwire/columnwire/codec/GzipStreamBeginsAsBlockPinLaw" = some m.cls := findClass_of_methodNamed Bd.named
  have hnm := (name_of_methodNamed Bd.named Bd.method).1
  have X0 : Stand p l e room_1 s m #[(.int p1), (.int p2), (.int p3), (.int p4), (.int p5), (.int p6)] below meth c s₁ [] 0 0 := Stand.of_body Bd
  have e0 : s₁.heap = h0 := by rw [← hh, Bd.state]; rfl
  have N0 := Fr.nil n0
  have R0 : ∀ t, Steps p.tables e below (s₁.setTop (mkF m 0 #[.val (.int p1), .val (.int p2), .val (.int p3), .val (.int p4), .val (.int p5), .val (.int p6), .unset, .unset, .unset, .unset, .unset, .unset, .unset] [])) t → Steps p.tables e below (s₁.setTop (entryFrame m #[(.int p1), (.int p2), (.int p3), (.int p4), (.int p5), (.int p6)] maxLocals)) t := fun t k => castTop (own_ef_rm0 m p1 p2 p3 p4 p5 p6) k
  have R1 : ∀ t, Steps p.tables e below (s₁.setTop (mkF m 6 #[.val (.int p1), .val (.int p2), .val (.int p3), .val (.int p4), .val (.int p5), .val (.int p6), .val (.int (p1 &&& (31 : Int32))), .unset, .unset, .unset, .unset, .unset, .unset] [])) t → Steps p.tables e below (s₁.setTop (entryFrame m #[(.int p1), (.int p2), (.int p3), (.int p4), (.int p5), (.int p6)] maxLocals)) t := by
    intro t k
    refine R0 t ?_
    show Steps p.tables e below (s₁.setTop (mkF m 0 #[.val (.int p1), .val (.int p2), .val (.int p3), .val (.int p4), .val (.int p5), .val (.int p6), .unset, .unset, .unset, .unset, .unset, .unset, .unset] [])) _
    refine XS.iloadN X0.here hx rfl (hb hby at_0) rfl ?_
    show Steps p.tables e below (s₁.setTop (mkF m 1 #[.val (.int p1), .val (.int p2), .val (.int p3), .val (.int p4), .val (.int p5), .val (.int p6), .unset, .unset, .unset, .unset, .unset, .unset, .unset] [(.int p1)])) _
    refine XS.bipush X0.here hx rfl (hb hby at_1) ?_
    show Steps p.tables e below (s₁.setTop (mkF m 3 #[.val (.int p1), .val (.int p2), .val (.int p3), .val (.int p4), .val (.int p5), .val (.int p6), .unset, .unset, .unset, .unset, .unset, .unset, .unset] [(.int (31 : Int32)), (.int p1)])) _
    refine XS.iand X0.here hx rfl (hb hby at_3) rfl ?_
    show Steps p.tables e below (s₁.setTop (mkF m 4 #[.val (.int p1), .val (.int p2), .val (.int p3), .val (.int p4), .val (.int p5), .val (.int p6), .unset, .unset, .unset, .unset, .unset, .unset, .unset] [(.int (p1 &&& (31 : Int32)))])) _
    refine XS.istore X0.here hx rfl (hb hby at_4) rfl (l' := #[.val (.int p1), .val (.int p2), .val (.int p3), .val (.int p4), .val (.int p5), .val (.int p6), .val (.int (p1 &&& (31 : Int32))), .unset, .unset, .unset, .unset, .unset, .unset]) rfl ?_
    exact k
  obtain ⟨c0, hc0, R2⟩ : ∃ (c0 : Int32), c0 = (if (p5 &&& (1 : Int32)) = (0 : Int32) then (p2.toInt8.toInt32) else (31 : Int32)) ∧ (∀ t, Steps p.tables e below (s₁.setTop (mkF m 20 #[.val (.int p1), .val (.int p2), .val (.int p3), .val (.int p4), .val (.int p5), .val (.int p6), .val (.int (p1 &&& (31 : Int32))), .unset, .unset, .unset, .unset, .unset, .unset] [(.int c0)])) t → Steps p.tables e below (s₁.setTop (entryFrame m #[(.int p1), (.int p2), (.int p3), (.int p4), (.int p5), (.int p6)] maxLocals)) t) := by
    by_cases hc10_0 : (p5 &&& (1 : Int32)) = (0 : Int32)
    · refine ⟨(p2.toInt8.toInt32), (by simp only [if_pos hc10_0]), ?_⟩
      intro t k
      refine R1 t ?_
      show Steps p.tables e below (s₁.setTop (mkF m 6 #[.val (.int p1), .val (.int p2), .val (.int p3), .val (.int p4), .val (.int p5), .val (.int p6), .val (.int (p1 &&& (31 : Int32))), .unset, .unset, .unset, .unset, .unset, .unset] [])) _
      refine XS.iload X0.here hx rfl (hb hby at_6) rfl ?_
      show Steps p.tables e below (s₁.setTop (mkF m 8 #[.val (.int p1), .val (.int p2), .val (.int p3), .val (.int p4), .val (.int p5), .val (.int p6), .val (.int (p1 &&& (31 : Int32))), .unset, .unset, .unset, .unset, .unset, .unset] [(.int p5)])) _
      refine XS.iconst X0.here hx rfl (hb hby at_8) ?_
      show Steps p.tables e below (s₁.setTop (mkF m 9 #[.val (.int p1), .val (.int p2), .val (.int p3), .val (.int p4), .val (.int p5), .val (.int p6), .val (.int (p1 &&& (31 : Int32))), .unset, .unset, .unset, .unset, .unset, .unset] [(.int (1 : Int32)), (.int p5)])) _
      refine XS.iand X0.here hx rfl (hb hby at_9) rfl ?_
      show Steps p.tables e below (s₁.setTop (mkF m 10 #[.val (.int p1), .val (.int p2), .val (.int p3), .val (.int p4), .val (.int p5), .val (.int p6), .val (.int (p1 &&& (31 : Int32))), .unset, .unset, .unset, .unset, .unset, .unset] [(.int (p5 &&& (1 : Int32)))])) _
      refine XS.ifYes X0.here hx rfl (pc0 := 10) (pc' := 18) rfl (hb hby at_10) rfl ((if0 _ _).trans (teq hc10_0).1) (by decide) (by decide) ?_
      show Steps p.tables e below (s₁.setTop (mkF m 18 #[.val (.int p1), .val (.int p2), .val (.int p3), .val (.int p4), .val (.int p5), .val (.int p6), .val (.int (p1 &&& (31 : Int32))), .unset, .unset, .unset, .unset, .unset, .unset] [])) _
      refine XS.iloadN X0.here hx rfl (hb hby at_18) rfl ?_
      show Steps p.tables e below (s₁.setTop (mkF m 19 #[.val (.int p1), .val (.int p2), .val (.int p3), .val (.int p4), .val (.int p5), .val (.int p6), .val (.int (p1 &&& (31 : Int32))), .unset, .unset, .unset, .unset, .unset, .unset] [(.int p2)])) _
      refine XS.i2b X0.here hx rfl (hb hby at_19) rfl ?_
      exact k
    · refine ⟨(31 : Int32), (by simp only [if_neg hc10_0]), ?_⟩
      intro t k
      refine R1 t ?_
      show Steps p.tables e below (s₁.setTop (mkF m 6 #[.val (.int p1), .val (.int p2), .val (.int p3), .val (.int p4), .val (.int p5), .val (.int p6), .val (.int (p1 &&& (31 : Int32))), .unset, .unset, .unset, .unset, .unset, .unset] [])) _
      refine XS.iload X0.here hx rfl (hb hby at_6) rfl ?_
      show Steps p.tables e below (s₁.setTop (mkF m 8 #[.val (.int p1), .val (.int p2), .val (.int p3), .val (.int p4), .val (.int p5), .val (.int p6), .val (.int (p1 &&& (31 : Int32))), .unset, .unset, .unset, .unset, .unset, .unset] [(.int p5)])) _
      refine XS.iconst X0.here hx rfl (hb hby at_8) ?_
      show Steps p.tables e below (s₁.setTop (mkF m 9 #[.val (.int p1), .val (.int p2), .val (.int p3), .val (.int p4), .val (.int p5), .val (.int p6), .val (.int (p1 &&& (31 : Int32))), .unset, .unset, .unset, .unset, .unset, .unset] [(.int (1 : Int32)), (.int p5)])) _
      refine XS.iand X0.here hx rfl (hb hby at_9) rfl ?_
      show Steps p.tables e below (s₁.setTop (mkF m 10 #[.val (.int p1), .val (.int p2), .val (.int p3), .val (.int p4), .val (.int p5), .val (.int p6), .val (.int (p1 &&& (31 : Int32))), .unset, .unset, .unset, .unset, .unset, .unset] [(.int (p5 &&& (1 : Int32)))])) _
      refine XS.ifNo X0.here hx rfl (hb hby at_10) rfl ((if0 _ _).trans (feq hc10_0).1) ?_
      show Steps p.tables e below (s₁.setTop (mkF m 13 #[.val (.int p1), .val (.int p2), .val (.int p3), .val (.int p4), .val (.int p5), .val (.int p6), .val (.int (p1 &&& (31 : Int32))), .unset, .unset, .unset, .unset, .unset, .unset] [])) _
      refine XS.bipush X0.here hx rfl (hb hby at_13) ?_
      show Steps p.tables e below (s₁.setTop (mkF m 15 #[.val (.int p1), .val (.int p2), .val (.int p3), .val (.int p4), .val (.int p5), .val (.int p6), .val (.int (p1 &&& (31 : Int32))), .unset, .unset, .unset, .unset, .unset, .unset] [(.int (31 : Int32))])) _
      refine XS.goto X0.here hx rfl (pc0 := 15) (pc' := 20) rfl (hb hby at_15) (by decide) (by decide) ?_
      exact k
  have R3 : ∀ t, Steps p.tables e below (s₁.setTop (mkF m 22 #[.val (.int p1), .val (.int p2), .val (.int p3), .val (.int p4), .val (.int p5), .val (.int p6), .val (.int (p1 &&& (31 : Int32))), .val (.int c0), .unset, .unset, .unset, .unset, .unset] [])) t → Steps p.tables e below (s₁.setTop (entryFrame m #[(.int p1), (.int p2), (.int p3), (.int p4), (.int p5), (.int p6)] maxLocals)) t := by
    intro t k
    refine R2 t ?_
    show Steps p.tables e below (s₁.setTop (mkF m 20 #[.val (.int p1), .val (.int p2), .val (.int p3), .val (.int p4), .val (.int p5), .val (.int p6), .val (.int (p1 &&& (31 : Int32))), .unset, .unset, .unset, .unset, .unset, .unset] [(.int c0)])) _
    refine XS.istore X0.here hx rfl (hb hby at_20) rfl (l' := #[.val (.int p1), .val (.int p2), .val (.int p3), .val (.int p4), .val (.int p5), .val (.int p6), .val (.int (p1 &&& (31 : Int32))), .val (.int c0), .unset, .unset, .unset, .unset, .unset]) rfl ?_
    exact k
  obtain ⟨c1, hc1, R4⟩ : ∃ (c1 : Int32), c1 = (if (p5 &&& (2 : Int32)) = (0 : Int32) then (p3.toInt8.toInt32) else (-117 : Int32)) ∧ (∀ t, Steps p.tables e below (s₁.setTop (mkF m 36 #[.val (.int p1), .val (.int p2), .val (.int p3), .val (.int p4), .val (.int p5), .val (.int p6), .val (.int (p1 &&& (31 : Int32))), .val (.int c0), .unset, .unset, .unset, .unset, .unset] [(.int c1)])) t → Steps p.tables e below (s₁.setTop (entryFrame m #[(.int p1), (.int p2), (.int p3), (.int p4), (.int p5), (.int p6)] maxLocals)) t) := by
    by_cases hc26_0 : (p5 &&& (2 : Int32)) = (0 : Int32)
    · refine ⟨(p3.toInt8.toInt32), (by simp only [if_pos hc26_0]), ?_⟩
      intro t k
      refine R3 t ?_
      show Steps p.tables e below (s₁.setTop (mkF m 22 #[.val (.int p1), .val (.int p2), .val (.int p3), .val (.int p4), .val (.int p5), .val (.int p6), .val (.int (p1 &&& (31 : Int32))), .val (.int c0), .unset, .unset, .unset, .unset, .unset] [])) _
      refine XS.iload X0.here hx rfl (hb hby at_22) rfl ?_
      show Steps p.tables e below (s₁.setTop (mkF m 24 #[.val (.int p1), .val (.int p2), .val (.int p3), .val (.int p4), .val (.int p5), .val (.int p6), .val (.int (p1 &&& (31 : Int32))), .val (.int c0), .unset, .unset, .unset, .unset, .unset] [(.int p5)])) _
      refine XS.iconst X0.here hx rfl (hb hby at_24) ?_
      show Steps p.tables e below (s₁.setTop (mkF m 25 #[.val (.int p1), .val (.int p2), .val (.int p3), .val (.int p4), .val (.int p5), .val (.int p6), .val (.int (p1 &&& (31 : Int32))), .val (.int c0), .unset, .unset, .unset, .unset, .unset] [(.int (2 : Int32)), (.int p5)])) _
      refine XS.iand X0.here hx rfl (hb hby at_25) rfl ?_
      show Steps p.tables e below (s₁.setTop (mkF m 26 #[.val (.int p1), .val (.int p2), .val (.int p3), .val (.int p4), .val (.int p5), .val (.int p6), .val (.int (p1 &&& (31 : Int32))), .val (.int c0), .unset, .unset, .unset, .unset, .unset] [(.int (p5 &&& (2 : Int32)))])) _
      refine XS.ifYes X0.here hx rfl (pc0 := 26) (pc' := 34) rfl (hb hby at_26) rfl ((if0 _ _).trans (teq hc26_0).1) (by decide) (by decide) ?_
      show Steps p.tables e below (s₁.setTop (mkF m 34 #[.val (.int p1), .val (.int p2), .val (.int p3), .val (.int p4), .val (.int p5), .val (.int p6), .val (.int (p1 &&& (31 : Int32))), .val (.int c0), .unset, .unset, .unset, .unset, .unset] [])) _
      refine XS.iloadN X0.here hx rfl (hb hby at_34) rfl ?_
      show Steps p.tables e below (s₁.setTop (mkF m 35 #[.val (.int p1), .val (.int p2), .val (.int p3), .val (.int p4), .val (.int p5), .val (.int p6), .val (.int (p1 &&& (31 : Int32))), .val (.int c0), .unset, .unset, .unset, .unset, .unset] [(.int p3)])) _
      refine XS.i2b X0.here hx rfl (hb hby at_35) rfl ?_
      exact k
    · refine ⟨(-117 : Int32), (by simp only [if_neg hc26_0]), ?_⟩
      intro t k
      refine R3 t ?_
      show Steps p.tables e below (s₁.setTop (mkF m 22 #[.val (.int p1), .val (.int p2), .val (.int p3), .val (.int p4), .val (.int p5), .val (.int p6), .val (.int (p1 &&& (31 : Int32))), .val (.int c0), .unset, .unset, .unset, .unset, .unset] [])) _
      refine XS.iload X0.here hx rfl (hb hby at_22) rfl ?_
      show Steps p.tables e below (s₁.setTop (mkF m 24 #[.val (.int p1), .val (.int p2), .val (.int p3), .val (.int p4), .val (.int p5), .val (.int p6), .val (.int (p1 &&& (31 : Int32))), .val (.int c0), .unset, .unset, .unset, .unset, .unset] [(.int p5)])) _
      refine XS.iconst X0.here hx rfl (hb hby at_24) ?_
      show Steps p.tables e below (s₁.setTop (mkF m 25 #[.val (.int p1), .val (.int p2), .val (.int p3), .val (.int p4), .val (.int p5), .val (.int p6), .val (.int (p1 &&& (31 : Int32))), .val (.int c0), .unset, .unset, .unset, .unset, .unset] [(.int (2 : Int32)), (.int p5)])) _
      refine XS.iand X0.here hx rfl (hb hby at_25) rfl ?_
      show Steps p.tables e below (s₁.setTop (mkF m 26 #[.val (.int p1), .val (.int p2), .val (.int p3), .val (.int p4), .val (.int p5), .val (.int p6), .val (.int (p1 &&& (31 : Int32))), .val (.int c0), .unset, .unset, .unset, .unset, .unset] [(.int (p5 &&& (2 : Int32)))])) _
      refine XS.ifNo X0.here hx rfl (hb hby at_26) rfl ((if0 _ _).trans (feq hc26_0).1) ?_
      show Steps p.tables e below (s₁.setTop (mkF m 29 #[.val (.int p1), .val (.int p2), .val (.int p3), .val (.int p4), .val (.int p5), .val (.int p6), .val (.int (p1 &&& (31 : Int32))), .val (.int c0), .unset, .unset, .unset, .unset, .unset] [])) _
      refine XS.bipush X0.here hx rfl (hb hby at_29) ?_
      show Steps p.tables e below (s₁.setTop (mkF m 31 #[.val (.int p1), .val (.int p2), .val (.int p3), .val (.int p4), .val (.int p5), .val (.int p6), .val (.int (p1 &&& (31 : Int32))), .val (.int c0), .unset, .unset, .unset, .unset, .unset] [(.int (-117 : Int32))])) _
      refine XS.goto X0.here hx rfl (pc0 := 31) (pc' := 36) rfl (hb hby at_31) (by decide) (by decide) ?_
      exact k
  have R5 : ∀ t, Steps p.tables e below (s₁.setTop (mkF m 38 #[.val (.int p1), .val (.int p2), .val (.int p3), .val (.int p4), .val (.int p5), .val (.int p6), .val (.int (p1 &&& (31 : Int32))), .val (.int c0), .val (.int c1), .unset, .unset, .unset, .unset] [])) t → Steps p.tables e below (s₁.setTop (entryFrame m #[(.int p1), (.int p2), (.int p3), (.int p4), (.int p5), (.int p6)] maxLocals)) t := by
    intro t k
    refine R4 t ?_
    show Steps p.tables e below (s₁.setTop (mkF m 36 #[.val (.int p1), .val (.int p2), .val (.int p3), .val (.int p4), .val (.int p5), .val (.int p6), .val (.int (p1 &&& (31 : Int32))), .val (.int c0), .unset, .unset, .unset, .unset, .unset] [(.int c1)])) _
    refine XS.istore X0.here hx rfl (hb hby at_36) rfl (l' := #[.val (.int p1), .val (.int p2), .val (.int p3), .val (.int p4), .val (.int p5), .val (.int p6), .val (.int (p1 &&& (31 : Int32))), .val (.int c0), .val (.int c1), .unset, .unset, .unset, .unset]) rfl ?_
    exact k
  obtain ⟨c2, hc2, R6⟩ : ∃ (c2 : Int32), c2 = (if (p5 &&& (4 : Int32)) = (0 : Int32) then (p4.toInt8.toInt32) else (8 : Int32)) ∧ (∀ t, Steps p.tables e below (s₁.setTop (mkF m 52 #[.val (.int p1), .val (.int p2), .val (.int p3), .val (.int p4), .val (.int p5), .val (.int p6), .val (.int (p1 &&& (31 : Int32))), .val (.int c0), .val (.int c1), .unset, .unset, .unset, .unset] [(.int c2)])) t → Steps p.tables e below (s₁.setTop (entryFrame m #[(.int p1), (.int p2), (.int p3), (.int p4), (.int p5), (.int p6)] maxLocals)) t) := by
    by_cases hc42_0 : (p5 &&& (4 : Int32)) = (0 : Int32)
    · refine ⟨(p4.toInt8.toInt32), (by simp only [if_pos hc42_0]), ?_⟩
      intro t k
      refine R5 t ?_
      show Steps p.tables e below (s₁.setTop (mkF m 38 #[.val (.int p1), .val (.int p2), .val (.int p3), .val (.int p4), .val (.int p5), .val (.int p6), .val (.int (p1 &&& (31 : Int32))), .val (.int c0), .val (.int c1), .unset, .unset, .unset, .unset] [])) _
      refine XS.iload X0.here hx rfl (hb hby at_38) rfl ?_
      show Steps p.tables e below (s₁.setTop (mkF m 40 #[.val (.int p1), .val (.int p2), .val (.int p3), .val (.int p4), .val (.int p5), .val (.int p6), .val (.int (p1 &&& (31 : Int32))), .val (.int c0), .val (.int c1), .unset, .unset, .unset, .unset] [(.int p5)])) _
      refine XS.iconst X0.here hx rfl (hb hby at_40) ?_
      show Steps p.tables e below (s₁.setTop (mkF m 41 #[.val (.int p1), .val (.int p2), .val (.int p3), .val (.int p4), .val (.int p5), .val (.int p6), .val (.int (p1 &&& (31 : Int32))), .val (.int c0), .val (.int c1), .unset, .unset, .unset, .unset] [(.int (4 : Int32)), (.int p5)])) _
      refine XS.iand X0.here hx rfl (hb hby at_41) rfl ?_
      show Steps p.tables e below (s₁.setTop (mkF m 42 #[.val (.int p1), .val (.int p2), .val (.int p3), .val (.int p4), .val (.int p5), .val (.int p6), .val (.int (p1 &&& (31 : Int32))), .val (.int c0), .val (.int c1), .unset, .unset, .unset, .unset] [(.int (p5 &&& (4 : Int32)))])) _
      refine XS.ifYes X0.here hx rfl (pc0 := 42) (pc' := 50) rfl (hb hby at_42) rfl ((if0 _ _).trans (teq hc42_0).1) (by decide) (by decide) ?_
      show Steps p.tables e below (s₁.setTop (mkF m 50 #[.val (.int p1), .val (.int p2), .val (.int p3), .val (.int p4), .val (.int p5), .val (.int p6), .val (.int (p1 &&& (31 : Int32))), .val (.int c0), .val (.int c1), .unset, .unset, .unset, .unset] [])) _
      refine XS.iloadN X0.here hx rfl (hb hby at_50) rfl ?_
      show Steps p.tables e below (s₁.setTop (mkF m 51 #[.val (.int p1), .val (.int p2), .val (.int p3), .val (.int p4), .val (.int p5), .val (.int p6), .val (.int (p1 &&& (31 : Int32))), .val (.int c0), .val (.int c1), .unset, .unset, .unset, .unset] [(.int p4)])) _
      refine XS.i2b X0.here hx rfl (hb hby at_51) rfl ?_
      exact k
    · refine ⟨(8 : Int32), (by simp only [if_neg hc42_0]), ?_⟩
      intro t k
      refine R5 t ?_
      show Steps p.tables e below (s₁.setTop (mkF m 38 #[.val (.int p1), .val (.int p2), .val (.int p3), .val (.int p4), .val (.int p5), .val (.int p6), .val (.int (p1 &&& (31 : Int32))), .val (.int c0), .val (.int c1), .unset, .unset, .unset, .unset] [])) _
      refine XS.iload X0.here hx rfl (hb hby at_38) rfl ?_
      show Steps p.tables e below (s₁.setTop (mkF m 40 #[.val (.int p1), .val (.int p2), .val (.int p3), .val (.int p4), .val (.int p5), .val (.int p6), .val (.int (p1 &&& (31 : Int32))), .val (.int c0), .val (.int c1), .unset, .unset, .unset, .unset] [(.int p5)])) _
      refine XS.iconst X0.here hx rfl (hb hby at_40) ?_
      show Steps p.tables e below (s₁.setTop (mkF m 41 #[.val (.int p1), .val (.int p2), .val (.int p3), .val (.int p4), .val (.int p5), .val (.int p6), .val (.int (p1 &&& (31 : Int32))), .val (.int c0), .val (.int c1), .unset, .unset, .unset, .unset] [(.int (4 : Int32)), (.int p5)])) _
      refine XS.iand X0.here hx rfl (hb hby at_41) rfl ?_
      show Steps p.tables e below (s₁.setTop (mkF m 42 #[.val (.int p1), .val (.int p2), .val (.int p3), .val (.int p4), .val (.int p5), .val (.int p6), .val (.int (p1 &&& (31 : Int32))), .val (.int c0), .val (.int c1), .unset, .unset, .unset, .unset] [(.int (p5 &&& (4 : Int32)))])) _
      refine XS.ifNo X0.here hx rfl (hb hby at_42) rfl ((if0 _ _).trans (feq hc42_0).1) ?_
      show Steps p.tables e below (s₁.setTop (mkF m 45 #[.val (.int p1), .val (.int p2), .val (.int p3), .val (.int p4), .val (.int p5), .val (.int p6), .val (.int (p1 &&& (31 : Int32))), .val (.int c0), .val (.int c1), .unset, .unset, .unset, .unset] [])) _
      refine XS.bipush X0.here hx rfl (hb hby at_45) ?_
      show Steps p.tables e below (s₁.setTop (mkF m 47 #[.val (.int p1), .val (.int p2), .val (.int p3), .val (.int p4), .val (.int p5), .val (.int p6), .val (.int (p1 &&& (31 : Int32))), .val (.int c0), .val (.int c1), .unset, .unset, .unset, .unset] [(.int (8 : Int32))])) _
      refine XS.goto X0.here hx rfl (pc0 := 47) (pc' := 52) rfl (hb hby at_47) (by decide) (by decide) ?_
      exact k
  have R7 : ∀ t, Steps p.tables e below (s₁.setTop (mkF m 54 #[.val (.int p1), .val (.int p2), .val (.int p3), .val (.int p4), .val (.int p5), .val (.int p6), .val (.int (p1 &&& (31 : Int32))), .val (.int c0), .val (.int c1), .val (.int c2), .unset, .unset, .unset] [])) t → Steps p.tables e below (s₁.setTop (entryFrame m #[(.int p1), (.int p2), (.int p3), (.int p4), (.int p5), (.int p6)] maxLocals)) t := by
    intro t k
    refine R6 t ?_
    show Steps p.tables e below (s₁.setTop (mkF m 52 #[.val (.int p1), .val (.int p2), .val (.int p3), .val (.int p4), .val (.int p5), .val (.int p6), .val (.int (p1 &&& (31 : Int32))), .val (.int c0), .val (.int c1), .unset, .unset, .unset, .unset] [(.int c2)])) _
    refine XS.istore X0.here hx rfl (hb hby at_52) rfl (l' := #[.val (.int p1), .val (.int p2), .val (.int p3), .val (.int p4), .val (.int p5), .val (.int p6), .val (.int (p1 &&& (31 : Int32))), .val (.int c0), .val (.int c1), .val (.int c2), .unset, .unset, .unset]) rfl ?_
    exact k
  obtain ⟨nn, hnn⟩ : ∃ z : Int32, z = (p1 &&& (31 : Int32)) := ⟨_, rfl⟩
  have R8 : ∀ t, Steps p.tables e below (s₁.setTop (mkF m 54 #[.val (.int p1), .val (.int p2), .val (.int p3), .val (.int p4), .val (.int p5), .val (.int p6), .val (.int nn), .val (.int c0), .val (.int c1), .val (.int c2), .unset, .unset, .unset] [])) t → Steps p.tables e below (s₁.setTop (entryFrame m #[(.int p1), (.int p2), (.int p3), (.int p4), (.int p5), (.int p6)] maxLocals)) t := by rw [hnn]; exact R7
  rcases own_and31 hnn with hl | hl | hl | hl | hl
  · have R9 : ∀ t, Steps p.tables e below (s₁.setTop (mkF m 54 #[.val (.int p1), .val (.int p2), .val (.int p3), .val (.int p4), .val (.int p5), .val (.int p6), .val (.int (0 : Int32)), .val (.int c0), .val (.int c1), .val (.int c2), .unset, .unset, .unset] [])) t → Steps p.tables e below (s₁.setTop (entryFrame m #[(.int p1), (.int p2), (.int p3), (.int p4), (.int p5), (.int p6)] maxLocals)) t := by rw [(hl : nn = (0 : Int32))] at R8; exact R8
    have R10 : ∀ t, Steps p.tables e below (s₁.setTop (mkF m 56 #[.val (.int p1), .val (.int p2), .val (.int p3), .val (.int p4), .val (.int p5), .val (.int p6), .val (.int (0 : Int32)), .val (.int c0), .val (.int c1), .val (.int c2), .unset, .unset, .unset] [(.int (0 : Int32))])) t → Steps p.tables e below (s₁.setTop (entryFrame m #[(.int p1), (.int p2), (.int p3), (.int p4), (.int p5), (.int p6)] maxLocals)) t := by
      intro t k
      refine R9 t ?_
      show Steps p.tables e below (s₁.setTop (mkF m 54 #[.val (.int p1), .val (.int p2), .val (.int p3), .val (.int p4), .val (.int p5), .val (.int p6), .val (.int (0 : Int32)), .val (.int c0), .val (.int c1), .val (.int c2), .unset, .unset, .unset] [])) _
      refine XS.iload X0.here hx rfl (hb hby at_54) rfl ?_
      exact k
    obtain ⟨T11, h11, k11, X11, e11, E11, A11, st11⟩ := newP X0 hx hZ (hw _ (List.mem_of_getElem? (i := 0) rfl)) e0 (g := (mkF m 56 #[.val (.int p1), .val (.int p2), .val (.int p3), .val (.int p4), .val (.int p5), .val (.int p6), .val (.int (0 : Int32)), .val (.int c0), .val (.int c1), .val (.int c2), .unset, .unset, .unset] [(.int (0 : Int32))])) rfl (hb hby at_56) rfl (by decide) (cap := 0) (by decide) (by decide) (by decide) (by decide)
    obtain ⟨b11, g11⟩ : ∃ z, z = h0.size := ⟨_, rfl⟩
    rw [← g11] at A11 st11
    have R11 : ∀ t, Steps p.tables e below (T11.setTop (mkF m 58 #[.val (.int p1), .val (.int p2), .val (.int p3), .val (.int p4), .val (.int p5), .val (.int p6), .val (.int (0 : Int32)), .val (.int c0), .val (.int c1), .val (.int c2), .unset, .unset, .unset] [(.ref b11)])) t → Steps p.tables e below (s₁.setTop (entryFrame m #[(.int p1), (.int p2), (.int p3), (.int p4), (.int p5), (.int p6)] maxLocals)) t := fun t k => R10 t (st11 t k)
    have g_b11 : n0 ≤ b11 := Nat.le_trans Z0 (Nat.le_of_eq g11.symm)
    have sz_b11 : h0.size ≤ b11 := Nat.le_trans (Keep.refl h0 []).1 (Nat.le_of_eq g11.symm)
    have Z11 : n0 ≤ h11.size := Nat.le_trans Z0 E11.1
    have K11 : Keep h0 h11 [] := (Keep.refl h0 []).ext E11
    have V11 : Arv Z h11 b11 k11 .byte (0 : Int32) [] (.int (0 : Int32)) := Arv.new A11 (by decide)
    have R12 : ∀ t, Steps p.tables e below (T11.setTop (mkF m 155 #[.val (.int p1), .val (.int p2), .val (.int p3), .val (.int p4), .val (.int p5), .val (.int p6), .val (.int (0 : Int32)), .val (.int c0), .val (.int c1), .val (.int c2), .val (.ref b11), .val (.int (0 : Int32)), .unset] [])) t → Steps p.tables e below (s₁.setTop (entryFrame m #[(.int p1), (.int p2), (.int p3), (.int p4), (.int p5), (.int p6)] maxLocals)) t := by
      intro t k
      refine R11 t ?_
      show Steps p.tables e below (T11.setTop (mkF m 58 #[.val (.int p1), .val (.int p2), .val (.int p3), .val (.int p4), .val (.int p5), .val (.int p6), .val (.int (0 : Int32)), .val (.int c0), .val (.int c1), .val (.int c2), .unset, .unset, .unset] [(.ref b11)])) _
      refine XS.astore X11.here hx rfl (hb hby at_58) rfl rfl (l' := #[.val (.int p1), .val (.int p2), .val (.int p3), .val (.int p4), .val (.int p5), .val (.int p6), .val (.int (0 : Int32)), .val (.int c0), .val (.int c1), .val (.int c2), .val (.ref b11), .unset, .unset]) rfl ?_
      show Steps p.tables e below (T11.setTop (mkF m 60 #[.val (.int p1), .val (.int p2), .val (.int p3), .val (.int p4), .val (.int p5), .val (.int p6), .val (.int (0 : Int32)), .val (.int c0), .val (.int c1), .val (.int c2), .val (.ref b11), .unset, .unset] [])) _
      refine XS.iload X11.here hx rfl (hb hby at_60) rfl ?_
      show Steps p.tables e below (T11.setTop (mkF m 62 #[.val (.int p1), .val (.int p2), .val (.int p3), .val (.int p4), .val (.int p5), .val (.int p6), .val (.int (0 : Int32)), .val (.int c0), .val (.int c1), .val (.int c2), .val (.ref b11), .unset, .unset] [(.int (0 : Int32))])) _
      refine XS.ifYes X11.here hx rfl (pc0 := 62) (pc' := 71) rfl (hb hby at_62) rfl ((if0 _ _).trans (flt (by decide : ¬ ((0 : Int32) < (0 : Int32)))).2.2.2) (by decide) (by decide) ?_
      show Steps p.tables e below (T11.setTop (mkF m 71 #[.val (.int p1), .val (.int p2), .val (.int p3), .val (.int p4), .val (.int p5), .val (.int p6), .val (.int (0 : Int32)), .val (.int c0), .val (.int c1), .val (.int c2), .val (.ref b11), .unset, .unset] [])) _
      refine XS.iload X11.here hx rfl (hb hby at_71) rfl ?_
      show Steps p.tables e below (T11.setTop (mkF m 73 #[.val (.int p1), .val (.int p2), .val (.int p3), .val (.int p4), .val (.int p5), .val (.int p6), .val (.int (0 : Int32)), .val (.int c0), .val (.int c1), .val (.int c2), .val (.ref b11), .unset, .unset] [(.int (0 : Int32))])) _
      refine XS.iconst X11.here hx rfl (hb hby at_73) ?_
      show Steps p.tables e below (T11.setTop (mkF m 74 #[.val (.int p1), .val (.int p2), .val (.int p3), .val (.int p4), .val (.int p5), .val (.int p6), .val (.int (0 : Int32)), .val (.int c0), .val (.int c1), .val (.int c2), .val (.ref b11), .unset, .unset] [(.int (1 : Int32)), (.int (0 : Int32))])) _
      refine XS.icmpYes X11.here hx rfl (pc0 := 74) (pc' := 83) rfl (hb hby at_74) rfl (flt (by decide : ¬ ((1 : Int32) < (0 : Int32)))).2.2.2 (by decide) (by decide) ?_
      show Steps p.tables e below (T11.setTop (mkF m 83 #[.val (.int p1), .val (.int p2), .val (.int p3), .val (.int p4), .val (.int p5), .val (.int p6), .val (.int (0 : Int32)), .val (.int c0), .val (.int c1), .val (.int c2), .val (.ref b11), .unset, .unset] [])) _
      refine XS.iload X11.here hx rfl (hb hby at_83) rfl ?_
      show Steps p.tables e below (T11.setTop (mkF m 85 #[.val (.int p1), .val (.int p2), .val (.int p3), .val (.int p4), .val (.int p5), .val (.int p6), .val (.int (0 : Int32)), .val (.int c0), .val (.int c1), .val (.int c2), .val (.ref b11), .unset, .unset] [(.int (0 : Int32))])) _
      refine XS.iconst X11.here hx rfl (hb hby at_85) ?_
      show Steps p.tables e below (T11.setTop (mkF m 86 #[.val (.int p1), .val (.int p2), .val (.int p3), .val (.int p4), .val (.int p5), .val (.int p6), .val (.int (0 : Int32)), .val (.int c0), .val (.int c1), .val (.int c2), .val (.ref b11), .unset, .unset] [(.int (2 : Int32)), (.int (0 : Int32))])) _
      refine XS.icmpYes X11.here hx rfl (pc0 := 86) (pc' := 95) rfl (hb hby at_86) rfl (flt (by decide : ¬ ((2 : Int32) < (0 : Int32)))).2.2.2 (by decide) (by decide) ?_
      show Steps p.tables e below (T11.setTop (mkF m 95 #[.val (.int p1), .val (.int p2), .val (.int p3), .val (.int p4), .val (.int p5), .val (.int p6), .val (.int (0 : Int32)), .val (.int c0), .val (.int c1), .val (.int c2), .val (.ref b11), .unset, .unset] [])) _
      refine XS.iload X11.here hx rfl (hb hby at_95) rfl ?_
      show Steps p.tables e below (T11.setTop (mkF m 97 #[.val (.int p1), .val (.int p2), .val (.int p3), .val (.int p4), .val (.int p5), .val (.int p6), .val (.int (0 : Int32)), .val (.int c0), .val (.int c1), .val (.int c2), .val (.ref b11), .unset, .unset] [(.int (0 : Int32))])) _
      refine XS.iconst X11.here hx rfl (hb hby at_97) ?_
      show Steps p.tables e below (T11.setTop (mkF m 98 #[.val (.int p1), .val (.int p2), .val (.int p3), .val (.int p4), .val (.int p5), .val (.int p6), .val (.int (0 : Int32)), .val (.int c0), .val (.int c1), .val (.int c2), .val (.ref b11), .unset, .unset] [(.int (3 : Int32)), (.int (0 : Int32))])) _
      refine XS.icmpYes X11.here hx rfl (pc0 := 98) (pc' := 112) rfl (hb hby at_98) rfl (flt (by decide : ¬ ((3 : Int32) < (0 : Int32)))).2.2.2 (by decide) (by decide) ?_
      show Steps p.tables e below (T11.setTop (mkF m 112 #[.val (.int p1), .val (.int p2), .val (.int p3), .val (.int p4), .val (.int p5), .val (.int p6), .val (.int (0 : Int32)), .val (.int c0), .val (.int c1), .val (.int c2), .val (.ref b11), .unset, .unset] [])) _
      refine XS.iconst X11.here hx rfl (hb hby at_112) ?_
      show Steps p.tables e below (T11.setTop (mkF m 113 #[.val (.int p1), .val (.int p2), .val (.int p3), .val (.int p4), .val (.int p5), .val (.int p6), .val (.int (0 : Int32)), .val (.int c0), .val (.int c1), .val (.int c2), .val (.ref b11), .unset, .unset] [(.int (0 : Int32))])) _
      refine XS.istore X11.here hx rfl (hb hby at_113) rfl (l' := #[.val (.int p1), .val (.int p2), .val (.int p3), .val (.int p4), .val (.int p5), .val (.int p6), .val (.int (0 : Int32)), .val (.int c0), .val (.int c1), .val (.int c2), .val (.ref b11), .val (.int (0 : Int32)), .unset]) rfl ?_
      show Steps p.tables e below (T11.setTop (mkF m 115 #[.val (.int p1), .val (.int p2), .val (.int p3), .val (.int p4), .val (.int p5), .val (.int p6), .val (.int (0 : Int32)), .val (.int c0), .val (.int c1), .val (.int c2), .val (.ref b11), .val (.int (0 : Int32)), .unset] [])) _
      refine XS.iload X11.here hx rfl (hb hby at_115) rfl ?_
      show Steps p.tables e below (T11.setTop (mkF m 117 #[.val (.int p1), .val (.int p2), .val (.int p3), .val (.int p4), .val (.int p5), .val (.int p6), .val (.int (0 : Int32)), .val (.int c0), .val (.int c1), .val (.int c2), .val (.ref b11), .val (.int (0 : Int32)), .unset] [(.int (0 : Int32))])) _
      refine XS.bipush X11.here hx rfl (hb hby at_117) ?_
      show Steps p.tables e below (T11.setTop (mkF m 119 #[.val (.int p1), .val (.int p2), .val (.int p3), .val (.int p4), .val (.int p5), .val (.int p6), .val (.int (0 : Int32)), .val (.int c0), .val (.int c1), .val (.int c2), .val (.ref b11), .val (.int (0 : Int32)), .unset] [(.int (10 : Int32)), (.int (0 : Int32))])) _
      refine XS.icmpYes X11.here hx rfl (pc0 := 119) (pc' := 155) rfl (hb hby at_119) rfl (tlt (by decide : ((0 : Int32) < (10 : Int32)))).1 (by decide) (by decide) ?_
      exact k
    obtain ⟨T13, h13, X13, e13, E13, A13, D13, -, st13⟩ := newO X11 hx hZ hown (hw _ (List.mem_of_getElem? (i := 1) rfl)) (hw _ (List.mem_of_getElem? (i := 2) rfl)) (hw _ (List.mem_of_getElem? (i := 3) rfl)) e11 (g := (mkF m 155 #[.val (.int p1), .val (.int p2), .val (.int p3), .val (.int p4), .val (.int p5), .val (.int p6), .val (.int (0 : Int32)), .val (.int c0), .val (.int c1), .val (.int c2), .val (.ref b11), .val (.int (0 : Int32)), .unset] [])) rfl (hb hby at_155) (by decide) (by decide)
    obtain ⟨b13, g13⟩ : ∃ z, z = h11.size := ⟨_, rfl⟩
    rw [← g13] at A13 D13 st13
    have R13 : ∀ t, Steps p.tables e below (T13.setTop (mkF m 158 #[.val (.int p1), .val (.int p2), .val (.int p3), .val (.int p4), .val (.int p5), .val (.int p6), .val (.int (0 : Int32)), .val (.int c0), .val (.int c1), .val (.int c2), .val (.ref b11), .val (.int (0 : Int32)), .unset] [(.ref b13)])) t → Steps p.tables e below (s₁.setTop (entryFrame m #[(.int p1), (.int p2), (.int p3), (.int p4), (.int p5), (.int p6)] maxLocals)) t := fun t k => R12 t (st13 t k)
    have ne_b11_b13 : b11 ≠ b13 := Nat.ne_of_lt (Nat.lt_of_lt_of_le V11.lt (Nat.le_of_eq g13.symm))
    have g_b13 : n0 ≤ b13 := Nat.le_trans Z11 (Nat.le_of_eq g13.symm)
    have sz_b13 : h0.size ≤ b13 := Nat.le_trans K11.1 (Nat.le_of_eq g13.symm)
    have Z13 : n0 ≤ h13.size := Nat.le_trans Z11 E13.1
    have K13 : Keep h0 h13 [] := K11.ext E13
    have f14 : Arv Z h13 b11 k11 .byte (0 : Int32) [] (.int (0 : Int32)) := V11.ext E13
    have R15 : ∀ t, Steps p.tables e below (T13.setTop (mkF m 159 #[.val (.int p1), .val (.int p2), .val (.int p3), .val (.int p4), .val (.int p5), .val (.int p6), .val (.int (0 : Int32)), .val (.int c0), .val (.int c1), .val (.int c2), .val (.ref b11), .val (.int (0 : Int32)), .unset] [(.ref b13), (.ref b13)])) t → Steps p.tables e below (s₁.setTop (entryFrame m #[(.int p1), (.int p2), (.int p3), (.int p4), (.int p5), (.int p6)] maxLocals)) t := by
      intro t k
      refine R13 t ?_
      show Steps p.tables e below (T13.setTop (mkF m 158 #[.val (.int p1), .val (.int p2), .val (.int p3), .val (.int p4), .val (.int p5), .val (.int p6), .val (.int (0 : Int32)), .val (.int c0), .val (.int c1), .val (.int c2), .val (.ref b11), .val (.int (0 : Int32)), .unset] [(.ref b13)])) _
      refine XS.dup X13.here hx rfl (hb hby at_158) rfl rfl ?_
      exact k
    obtain ⟨_, _, ⟨T16, L16, k16, n16⟩, -, X16, ⟨Lc16, hQ16, l16, y16, z16⟩, st16⟩ := X13.specialBack hx (y := (⟨"com/example/columnwire/columnwire/codec/GzipStream", "<init>", "()V"⟩ : MethodName)) rfl hown (mvT hZ (hw _ (List.mem_of_getElem? (i := 4) rfl))) (mvT hZ (hw _ (List.mem_of_getElem? (i := 5) rfl))) (mvT hZ (hw _ (List.mem_of_getElem? (i := 6) rfl))) (by decide) (backOf (W := 1) (rm1 l Z a0 hw [] b13  h13 n0 Z13 ) hZ (hw _ (List.mem_of_getElem? (i := 6) rfl)) (hw _ (List.mem_of_getElem? (i := 3) rfl)) (by decide) (by decide)) (g := (mkF m 159 #[.val (.int p1), .val (.int p2), .val (.int p3), .val (.int p4), .val (.int p5), .val (.int p6), .val (.int (0 : Int32)), .val (.int c0), .val (.int c1), .val (.int c2), .val (.ref b11), .val (.int (0 : Int32)), .unset] [(.ref b13), (.ref b13)])) rfl (by rw [hml]; rfl) (Steps.refl _) (a := b13) (argsL := []) (rest := [(.ref b13)]) (lenOf own_pd0 rfl) rfl (by show 2 * 0 + _ ≤ _; exact Nat.le_of_eq rfl) (hb hby at_159) (fun _ _ => ⟨rfl, e13, (by decide : 2 + 0 ≤ _), (by decide : 0 + 0 ≤ _)⟩)
    dsimp only [Pt.U, Pt.locs, Pt.cells, Pt.slots] at X16 l16 y16 z16 st16 hQ16
    subst l16 y16 z16
    obtain ⟨rfl, Nq16, eq16⟩ := hQ16
    have N16 := Fr.app N0 Nq16
    have R16 : ∀ t, Steps p.tables e below (T16.setTop (mkF m 162 #[.val (.int p1), .val (.int p2), .val (.int p3), .val (.int p4), .val (.int p5), .val (.int p6), .val (.int (0 : Int32)), .val (.int c0), .val (.int c1), .val (.int c2), .val (.ref b11), .val (.int (0 : Int32)), .unset] [(.ref b13)])) t → Steps p.tables e below (s₁.setTop (entryFrame m #[(.int p1), (.int p2), (.int p3), (.int p4), (.int p5), (.int p6)] maxLocals)) t := fun t k => R15 t (st16.trans k)
    have R17 : ∀ t, Steps p.tables e below (T16.setTop (mkF m 170 #[.val (.int p1), .val (.int p2), .val (.int p3), .val (.int p4), .val (.int p5), .val (.int p6), .val (.int (0 : Int32)), .val (.int c0), .val (.int c1), .val (.int c2), .val (.ref b11), .val (.int (0 : Int32)), .val (.ref b13)] [(.int p6), (.ref b11), (.ref b13)])) t → Steps p.tables e below (s₁.setTop (entryFrame m #[(.int p1), (.int p2), (.int p3), (.int p4), (.int p5), (.int p6)] maxLocals)) t := by
      intro t k
      refine R16 t ?_
      show Steps p.tables e below (T16.setTop (mkF m 162 #[.val (.int p1), .val (.int p2), .val (.int p3), .val (.int p4), .val (.int p5), .val (.int p6), .val (.int (0 : Int32)), .val (.int c0), .val (.int c1), .val (.int c2), .val (.ref b11), .val (.int (0 : Int32)), .unset] [(.ref b13)])) _
      refine XS.astore X16.here hx rfl (hb hby at_162) rfl rfl (l' := #[.val (.int p1), .val (.int p2), .val (.int p3), .val (.int p4), .val (.int p5), .val (.int p6), .val (.int (0 : Int32)), .val (.int c0), .val (.int c1), .val (.int c2), .val (.ref b11), .val (.int (0 : Int32)), .val (.ref b13)]) rfl ?_
      show Steps p.tables e below (T16.setTop (mkF m 164 #[.val (.int p1), .val (.int p2), .val (.int p3), .val (.int p4), .val (.int p5), .val (.int p6), .val (.int (0 : Int32)), .val (.int c0), .val (.int c1), .val (.int c2), .val (.ref b11), .val (.int (0 : Int32)), .val (.ref b13)] [])) _
      refine XS.aload X16.here hx rfl (hb hby at_164) rfl rfl ?_
      show Steps p.tables e below (T16.setTop (mkF m 166 #[.val (.int p1), .val (.int p2), .val (.int p3), .val (.int p4), .val (.int p5), .val (.int p6), .val (.int (0 : Int32)), .val (.int c0), .val (.int c1), .val (.int c2), .val (.ref b11), .val (.int (0 : Int32)), .val (.ref b13)] [(.ref b13)])) _
      refine XS.aload X16.here hx rfl (hb hby at_166) rfl rfl ?_
      show Steps p.tables e below (T16.setTop (mkF m 168 #[.val (.int p1), .val (.int p2), .val (.int p3), .val (.int p4), .val (.int p5), .val (.int p6), .val (.int (0 : Int32)), .val (.int c0), .val (.int c1), .val (.int c2), .val (.ref b11), .val (.int (0 : Int32)), .val (.ref b13)] [(.ref b11), (.ref b13)])) _
      refine XS.iload X16.here hx rfl (hb hby at_168) rfl ?_
      exact k
    obtain ⟨cq18, kq18, q18a, q18b, q18c⟩ := isOf hZ eq16 A13
    obtain ⟨_, _, ⟨T18, L18, k18, n18⟩, -, X18, ⟨Lc18, hQ18, l18, y18, z18⟩, st18⟩ := X16.virtualBack hx (y := (⟨"com/example/columnwire/columnwire/codec/GzipStream", "beginsAsBlock", "([BI)Z"⟩ : MethodName)) (z := (⟨"com/example/columnwire/columnwire/codec/GzipStream", "beginsAsBlock", "([BI)Z"⟩ : MethodName)) hown (mvT hZ (hw _ (List.mem_of_getElem? (i := 10) rfl))) (mvT hZ (hw _ (List.mem_of_getElem? (i := 11) rfl))) (notFace_of_selects (args := #[]) (mvT hZ (hw _ (List.mem_of_getElem? (i := 13) rfl)))) (mvT hZ (hw _ (List.mem_of_getElem? (i := 13) rfl))) (mvT hZ (hw _ (List.mem_of_getElem? (i := 12) rfl))) (by decide) (backOf (W := 0) (rm3s l Z a0 hw [] b13 b11 p6 k11 (0 : Int32) [] (.int (0 : Int32)) h13 n0 Z13 f14 (by decide)) hZ (hw _ (List.mem_of_getElem? (i := 14) rfl)) (hw _ (List.mem_of_getElem? (i := 3) rfl)) (by decide) (by decide)) q18a q18c (g := (mkF m 170 #[.val (.int p1), .val (.int p2), .val (.int p3), .val (.int p4), .val (.int p5), .val (.int p6), .val (.int (0 : Int32)), .val (.int c0), .val (.int c1), .val (.int c2), .val (.ref b11), .val (.int (0 : Int32)), .val (.ref b13)] [(.int p6), (.ref b11), (.ref b13)])) rfl (by rw [hml]; rfl) (Steps.refl _) (argsL := [(.ref b11), (.int p6)]) (rest := []) (lenOf own_pd1 rfl) rfl (by show 2 * 0 + _ ≤ _; exact Nat.le_of_eq rfl) (hb hby at_170) (fun _ _ => ⟨rfl, eq16, (by decide : 2 + 0 ≤ _), (by decide : 0 + 0 ≤ _)⟩)
    dsimp only [Pt.U, Pt.locs, Pt.cells, Pt.slots] at X18 l18 y18 z18 st18 hQ18
    subst l18 y18 z18
    obtain ⟨rfl, Nq18, eq18⟩ := hQ18
    have N18 := Fr.app N16 Nq18
    have R18 : ∀ t, Steps p.tables e below (T18.setTop (mkF m 173 #[.val (.int p1), .val (.int p2), .val (.int p3), .val (.int p4), .val (.int p5), .val (.int p6), .val (.int (0 : Int32)), .val (.int c0), .val (.int c1), .val (.int c2), .val (.ref b11), .val (.int (0 : Int32)), .val (.ref b13)] [(.int (0 : Int32))])) t → Steps p.tables e below (s₁.setTop (entryFrame m #[(.int p1), (.int p2), (.int p3), (.int p4), (.int p5), (.int p6)] maxLocals)) t := fun t k => R17 t (st18.trans k)
    have R19 : ∀ t, Steps p.tables e below (T18.setTop (mkF m 183 #[.val (.int p1), .val (.int p2), .val (.int p3), .val (.int p4), .val (.int p5), .val (.int p6), .val (.int (0 : Int32)), .val (.int c0), .val (.int c1), .val (.int c2), .val (.ref b11), .val (.int (0 : Int32)), .val (.ref b13)] [(.int (1 : Int32))])) t → Steps p.tables e below (s₁.setTop (entryFrame m #[(.int p1), (.int p2), (.int p3), (.int p4), (.int p5), (.int p6)] maxLocals)) t := by
      intro t k
      refine R18 t ?_
      show Steps p.tables e below (T18.setTop (mkF m 173 #[.val (.int p1), .val (.int p2), .val (.int p3), .val (.int p4), .val (.int p5), .val (.int p6), .val (.int (0 : Int32)), .val (.int c0), .val (.int c1), .val (.int c2), .val (.ref b11), .val (.int (0 : Int32)), .val (.ref b13)] [(.int (0 : Int32))])) _
      refine XS.iload X18.here hx rfl (hb hby at_173) rfl ?_
      show Steps p.tables e below (T18.setTop (mkF m 175 #[.val (.int p1), .val (.int p2), .val (.int p3), .val (.int p4), .val (.int p5), .val (.int p6), .val (.int (0 : Int32)), .val (.int c0), .val (.int c1), .val (.int c2), .val (.ref b11), .val (.int (0 : Int32)), .val (.ref b13)] [(.int (0 : Int32)), (.int (0 : Int32))])) _
      refine XS.icmpNo X18.here hx rfl (hb hby at_175) rfl (teq (by decide : ((0 : Int32) = (0 : Int32)))).2 ?_
      show Steps p.tables e below (T18.setTop (mkF m 178 #[.val (.int p1), .val (.int p2), .val (.int p3), .val (.int p4), .val (.int p5), .val (.int p6), .val (.int (0 : Int32)), .val (.int c0), .val (.int c1), .val (.int c2), .val (.ref b11), .val (.int (0 : Int32)), .val (.ref b13)] [])) _
      refine XS.iconst X18.here hx rfl (hb hby at_178) ?_
      show Steps p.tables e below (T18.setTop (mkF m 179 #[.val (.int p1), .val (.int p2), .val (.int p3), .val (.int p4), .val (.int p5), .val (.int p6), .val (.int (0 : Int32)), .val (.int c0), .val (.int c1), .val (.int c2), .val (.ref b11), .val (.int (0 : Int32)), .val (.ref b13)] [(.int (1 : Int32))])) _
      refine XS.goto X18.here hx rfl (pc0 := 179) (pc' := 183) rfl (hb hby at_179) (by decide) (by decide) ?_
      exact k
    obtain ⟨fs, hr, hrun, hended, hW, hsame⟩ := X18.leave (v := some (.int (1 : Int32))) (fun h => by rw [Bd.returns] at h; cases h)
    refine ⟨_, _, R19 _ ?_, hrun, hended, _, _, rfl, ?_, ⟨_, rfl⟩, hW, hsame.mono (by decide) (by decide)⟩
    · exact retN X18 hx (t := .boolean) Bd.returns (by simp) (hb hby at_183) hr
    · show Q_rm0 Z p1 p2 p3 p4 p5 p6 h0 n0 _ T18.heap _
      rw [eq18]
      exact ⟨rfl, N18⟩
  · have R20 : ∀ t, Steps p.tables e below (s₁.setTop (mkF m 54 #[.val (.int p1), .val (.int p2), .val (.int p3), .val (.int p4), .val (.int p5), .val (.int p6), .val (.int (1 : Int32)), .val (.int c0), .val (.int c1), .val (.int c2), .unset, .unset, .unset] [])) t → Steps p.tables e below (s₁.setTop (entryFrame m #[(.int p1), (.int p2), (.int p3), (.int p4), (.int p5), (.int p6)] maxLocals)) t := by rw [(hl : nn = (1 : Int32))] at R8; exact R8
    have R21 : ∀ t, Steps p.tables e below (s₁.setTop (mkF m 56 #[.val (.int p1), .val (.int p2), .val (.int p3), .val (.int p4), .val (.int p5), .val (.int p6), .val (.int (1 : Int32)), .val (.int c0), .val (.int c1), .val (.int c2), .unset, .unset, .unset] [(.int (1 : Int32))])) t → Steps p.tables e below (s₁.setTop (entryFrame m #[(.int p1), (.int p2), (.int p3), (.int p4), (.int p5), (.int p6)] maxLocals)) t := by
      intro t k
      refine R20 t ?_
      show Steps p.tables e below (s₁.setTop (mkF m 54 #[.val (.int p1), .val (.int p2), .val (.int p3), .val (.int p4), .val (.int p5), .val (.int p6), .val (.int (1 : Int32)), .val (.int c0), .val (.int c1), .val (.int c2), .unset, .unset, .unset] [])) _
      refine XS.iload X0.here hx rfl (hb hby at_54) rfl ?_
      exact k
    obtain ⟨T22, h22, k22, X22, e22, E22, A22, st22⟩ := newP X0 hx hZ (hw _ (List.mem_of_getElem? (i := 0) rfl)) e0 (g := (mkF m 56 #[.val (.int p1), .val (.int p2), .val (.int p3), .val (.int p4), .val (.int p5), .val (.int p6), .val (.int (1 : Int32)), .val (.int c0), .val (.int c1), .val (.int c2), .unset, .unset, .unset] [(.int (1 : Int32))])) rfl (hb hby at_56) rfl (by decide) (cap := 1) (by decide) (by decide) (by decide) (by decide)
    obtain ⟨b22, g22⟩ : ∃ z, z = h0.size := ⟨_, rfl⟩
    rw [← g22] at A22 st22
    have R22 : ∀ t, Steps p.tables e below (T22.setTop (mkF m 58 #[.val (.int p1), .val (.int p2), .val (.int p3), .val (.int p4), .val (.int p5), .val (.int p6), .val (.int (1 : Int32)), .val (.int c0), .val (.int c1), .val (.int c2), .unset, .unset, .unset] [(.ref b22)])) t → Steps p.tables e below (s₁.setTop (entryFrame m #[(.int p1), (.int p2), (.int p3), (.int p4), (.int p5), (.int p6)] maxLocals)) t := fun t k => R21 t (st22 t k)
    have g_b22 : n0 ≤ b22 := Nat.le_trans Z0 (Nat.le_of_eq g22.symm)
    have sz_b22 : h0.size ≤ b22 := Nat.le_trans (Keep.refl h0 []).1 (Nat.le_of_eq g22.symm)
    have Z22 : n0 ≤ h22.size := Nat.le_trans Z0 E22.1
    have K22 : Keep h0 h22 [] := (Keep.refl h0 []).ext E22
    have V22 : Arv Z h22 b22 k22 .byte (1 : Int32) [(.int (0 : Int32))] (.int (0 : Int32)) := (Arv.new A22 (by decide)).pad (pad_rep [] (.int (0 : Int32)) 1)
    have R23 : ∀ t, Steps p.tables e below (T22.setTop (mkF m 70 #[.val (.int p1), .val (.int p2), .val (.int p3), .val (.int p4), .val (.int p5), .val (.int p6), .val (.int (1 : Int32)), .val (.int c0), .val (.int c1), .val (.int c2), .val (.ref b22), .unset, .unset] [(.int c0), (.int (0 : Int32)), (.ref b22)])) t → Steps p.tables e below (s₁.setTop (entryFrame m #[(.int p1), (.int p2), (.int p3), (.int p4), (.int p5), (.int p6)] maxLocals)) t := by
      intro t k
      refine R22 t ?_
      show Steps p.tables e below (T22.setTop (mkF m 58 #[.val (.int p1), .val (.int p2), .val (.int p3), .val (.int p4), .val (.int p5), .val (.int p6), .val (.int (1 : Int32)), .val (.int c0), .val (.int c1), .val (.int c2), .unset, .unset, .unset] [(.ref b22)])) _
      refine XS.astore X22.here hx rfl (hb hby at_58) rfl rfl (l' := #[.val (.int p1), .val (.int p2), .val (.int p3), .val (.int p4), .val (.int p5), .val (.int p6), .val (.int (1 : Int32)), .val (.int c0), .val (.int c1), .val (.int c2), .val (.ref b22), .unset, .unset]) rfl ?_
      show Steps p.tables e below (T22.setTop (mkF m 60 #[.val (.int p1), .val (.int p2), .val (.int p3), .val (.int p4), .val (.int p5), .val (.int p6), .val (.int (1 : Int32)), .val (.int c0), .val (.int c1), .val (.int c2), .val (.ref b22), .unset, .unset] [])) _
      refine XS.iload X22.here hx rfl (hb hby at_60) rfl ?_
      show Steps p.tables e below (T22.setTop (mkF m 62 #[.val (.int p1), .val (.int p2), .val (.int p3), .val (.int p4), .val (.int p5), .val (.int p6), .val (.int (1 : Int32)), .val (.int c0), .val (.int c1), .val (.int c2), .val (.ref b22), .unset, .unset] [(.int (1 : Int32))])) _
      refine XS.ifNo X22.here hx rfl (hb hby at_62) rfl ((if0 _ _).trans (tlt (by decide : ((0 : Int32) < (1 : Int32)))).2.2.2) ?_
      show Steps p.tables e below (T22.setTop (mkF m 65 #[.val (.int p1), .val (.int p2), .val (.int p3), .val (.int p4), .val (.int p5), .val (.int p6), .val (.int (1 : Int32)), .val (.int c0), .val (.int c1), .val (.int c2), .val (.ref b22), .unset, .unset] [])) _
      refine XS.aload X22.here hx rfl (hb hby at_65) rfl rfl ?_
      show Steps p.tables e below (T22.setTop (mkF m 67 #[.val (.int p1), .val (.int p2), .val (.int p3), .val (.int p4), .val (.int p5), .val (.int p6), .val (.int (1 : Int32)), .val (.int c0), .val (.int c1), .val (.int c2), .val (.ref b22), .unset, .unset] [(.ref b22)])) _
      refine XS.iconst X22.here hx rfl (hb hby at_67) ?_
      show Steps p.tables e below (T22.setTop (mkF m 68 #[.val (.int p1), .val (.int p2), .val (.int p3), .val (.int p4), .val (.int p5), .val (.int p6), .val (.int (1 : Int32)), .val (.int c0), .val (.int c1), .val (.int c2), .val (.ref b22), .unset, .unset] [(.int (0 : Int32)), (.ref b22)])) _
      refine XS.iload X22.here hx rfl (hb hby at_68) rfl ?_
      exact k
    obtain ⟨cl24, Ar24, q24, S24, N24', H24, G24⟩ := id V22
    have hin24 : ¬ ((0 : Int32) < 0 ∨ cl24.slots.size ≤ ((0 : Int32)).toNatClampNeg) := inb_of S24 ⟨by decide, by decide⟩
    obtain ⟨T25, h25, X25, e25, W25, st25⟩ := stB X22 hx hZ e22 Ar24 (j := (0 : Int32)) hin24 (g := (mkF m 70 #[.val (.int p1), .val (.int p2), .val (.int p3), .val (.int p4), .val (.int p5), .val (.int p6), .val (.int (1 : Int32)), .val (.int c0), .val (.int c1), .val (.int c2), .val (.ref b22), .unset, .unset] [(.int c0), (.int (0 : Int32)), (.ref b22)])) rfl rfl (hb hby at_70)
    have R25 : ∀ t, Steps p.tables e below (T25.setTop (mkF m 71 #[.val (.int p1), .val (.int p2), .val (.int p3), .val (.int p4), .val (.int p5), .val (.int p6), .val (.int (1 : Int32)), .val (.int c0), .val (.int c1), .val (.int c2), .val (.ref b22), .unset, .unset] [])) t → Steps p.tables e below (s₁.setTop (entryFrame m #[(.int p1), (.int p2), (.int p3), (.int p4), (.int p5), (.int p6)] maxLocals)) t := fun t k => R23 t (st25 t k)
    have Z25 : n0 ≤ h25.size := Nat.le_trans Z22 (Keep.of_wr W25).1
    have K25 : Keep h0 h25 [] := K22.wr W25 (Or.inr sz_b22)
    have N25 := Fr.snoc X25 N0 g_b22
    have V25 : Arv Z h25 b22 k22 .byte (1 : Int32) [(.int (nar .byte c0))] (.int (0 : Int32)) := Arv.set Ar24 q24 S24 N24' H24 G24 (fits_nar_byte _) W25 0 rfl (Nat.le_of_ble_eq_true rfl)
    have R26 : ∀ t, Steps p.tables e below (T25.setTop (mkF m 155 #[.val (.int p1), .val (.int p2), .val (.int p3), .val (.int p4), .val (.int p5), .val (.int p6), .val (.int (1 : Int32)), .val (.int c0), .val (.int c1), .val (.int c2), .val (.ref b22), .val (.int (0 : Int32)), .unset] [])) t → Steps p.tables e below (s₁.setTop (entryFrame m #[(.int p1), (.int p2), (.int p3), (.int p4), (.int p5), (.int p6)] maxLocals)) t := by
      intro t k
      refine R25 t ?_
      show Steps p.tables e below (T25.setTop (mkF m 71 #[.val (.int p1), .val (.int p2), .val (.int p3), .val (.int p4), .val (.int p5), .val (.int p6), .val (.int (1 : Int32)), .val (.int c0), .val (.int c1), .val (.int c2), .val (.ref b22), .unset, .unset] [])) _
      refine XS.iload X25.here hx rfl (hb hby at_71) rfl ?_
      show Steps p.tables e below (T25.setTop (mkF m 73 #[.val (.int p1), .val (.int p2), .val (.int p3), .val (.int p4), .val (.int p5), .val (.int p6), .val (.int (1 : Int32)), .val (.int c0), .val (.int c1), .val (.int c2), .val (.ref b22), .unset, .unset] [(.int (1 : Int32))])) _
      refine XS.iconst X25.here hx rfl (hb hby at_73) ?_
      show Steps p.tables e below (T25.setTop (mkF m 74 #[.val (.int p1), .val (.int p2), .val (.int p3), .val (.int p4), .val (.int p5), .val (.int p6), .val (.int (1 : Int32)), .val (.int c0), .val (.int c1), .val (.int c2), .val (.ref b22), .unset, .unset] [(.int (1 : Int32)), (.int (1 : Int32))])) _
      refine XS.icmpYes X25.here hx rfl (pc0 := 74) (pc' := 83) rfl (hb hby at_74) rfl (flt (by decide : ¬ ((1 : Int32) < (1 : Int32)))).2.2.2 (by decide) (by decide) ?_
      show Steps p.tables e below (T25.setTop (mkF m 83 #[.val (.int p1), .val (.int p2), .val (.int p3), .val (.int p4), .val (.int p5), .val (.int p6), .val (.int (1 : Int32)), .val (.int c0), .val (.int c1), .val (.int c2), .val (.ref b22), .unset, .unset] [])) _
      refine XS.iload X25.here hx rfl (hb hby at_83) rfl ?_
      show Steps p.tables e below (T25.setTop (mkF m 85 #[.val (.int p1), .val (.int p2), .val (.int p3), .val (.int p4), .val (.int p5), .val (.int p6), .val (.int (1 : Int32)), .val (.int c0), .val (.int c1), .val (.int c2), .val (.ref b22), .unset, .unset] [(.int (1 : Int32))])) _
      refine XS.iconst X25.here hx rfl (hb hby at_85) ?_
      show Steps p.tables e below (T25.setTop (mkF m 86 #[.val (.int p1), .val (.int p2), .val (.int p3), .val (.int p4), .val (.int p5), .val (.int p6), .val (.int (1 : Int32)), .val (.int c0), .val (.int c1), .val (.int c2), .val (.ref b22), .unset, .unset] [(.int (2 : Int32)), (.int (1 : Int32))])) _
      refine XS.icmpYes X25.here hx rfl (pc0 := 86) (pc' := 95) rfl (hb hby at_86) rfl (flt (by decide : ¬ ((2 : Int32) < (1 : Int32)))).2.2.2 (by decide) (by decide) ?_
      show Steps p.tables e below (T25.setTop (mkF m 95 #[.val (.int p1), .val (.int p2), .val (.int p3), .val (.int p4), .val (.int p5), .val (.int p6), .val (.int (1 : Int32)), .val (.int c0), .val (.int c1), .val (.int c2), .val (.ref b22), .unset, .unset] [])) _
      refine XS.iload X25.here hx rfl (hb hby at_95) rfl ?_
      show Steps p.tables e below (T25.setTop (mkF m 97 #[.val (.int p1), .val (.int p2), .val (.int p3), .val (.int p4), .val (.int p5), .val (.int p6), .val (.int (1 : Int32)), .val (.int c0), .val (.int c1), .val (.int c2), .val (.ref b22), .unset, .unset] [(.int (1 : Int32))])) _
      refine XS.iconst X25.here hx rfl (hb hby at_97) ?_
      show Steps p.tables e below (T25.setTop (mkF m 98 #[.val (.int p1), .val (.int p2), .val (.int p3), .val (.int p4), .val (.int p5), .val (.int p6), .val (.int (1 : Int32)), .val (.int c0), .val (.int c1), .val (.int c2), .val (.ref b22), .unset, .unset] [(.int (3 : Int32)), (.int (1 : Int32))])) _
      refine XS.icmpYes X25.here hx rfl (pc0 := 98) (pc' := 112) rfl (hb hby at_98) rfl (flt (by decide : ¬ ((3 : Int32) < (1 : Int32)))).2.2.2 (by decide) (by decide) ?_
      show Steps p.tables e below (T25.setTop (mkF m 112 #[.val (.int p1), .val (.int p2), .val (.int p3), .val (.int p4), .val (.int p5), .val (.int p6), .val (.int (1 : Int32)), .val (.int c0), .val (.int c1), .val (.int c2), .val (.ref b22), .unset, .unset] [])) _
      refine XS.iconst X25.here hx rfl (hb hby at_112) ?_
      show Steps p.tables e below (T25.setTop (mkF m 113 #[.val (.int p1), .val (.int p2), .val (.int p3), .val (.int p4), .val (.int p5), .val (.int p6), .val (.int (1 : Int32)), .val (.int c0), .val (.int c1), .val (.int c2), .val (.ref b22), .unset, .unset] [(.int (0 : Int32))])) _
      refine XS.istore X25.here hx rfl (hb hby at_113) rfl (l' := #[.val (.int p1), .val (.int p2), .val (.int p3), .val (.int p4), .val (.int p5), .val (.int p6), .val (.int (1 : Int32)), .val (.int c0), .val (.int c1), .val (.int c2), .val (.ref b22), .val (.int (0 : Int32)), .unset]) rfl ?_
      show Steps p.tables e below (T25.setTop (mkF m 115 #[.val (.int p1), .val (.int p2), .val (.int p3), .val (.int p4), .val (.int p5), .val (.int p6), .val (.int (1 : Int32)), .val (.int c0), .val (.int c1), .val (.int c2), .val (.ref b22), .val (.int (0 : Int32)), .unset] [])) _
      refine XS.iload X25.here hx rfl (hb hby at_115) rfl ?_
      show Steps p.tables e below (T25.setTop (mkF m 117 #[.val (.int p1), .val (.int p2), .val (.int p3), .val (.int p4), .val (.int p5), .val (.int p6), .val (.int (1 : Int32)), .val (.int c0), .val (.int c1), .val (.int c2), .val (.ref b22), .val (.int (0 : Int32)), .unset] [(.int (1 : Int32))])) _
      refine XS.bipush X25.here hx rfl (hb hby at_117) ?_
      show Steps p.tables e below (T25.setTop (mkF m 119 #[.val (.int p1), .val (.int p2), .val (.int p3), .val (.int p4), .val (.int p5), .val (.int p6), .val (.int (1 : Int32)), .val (.int c0), .val (.int c1), .val (.int c2), .val (.ref b22), .val (.int (0 : Int32)), .unset] [(.int (10 : Int32)), (.int (1 : Int32))])) _
      refine XS.icmpYes X25.here hx rfl (pc0 := 119) (pc' := 155) rfl (hb hby at_119) rfl (tlt (by decide : ((1 : Int32) < (10 : Int32)))).1 (by decide) (by decide) ?_
      exact k
    obtain ⟨T27, h27, X27, e27, E27, A27, D27, -, st27⟩ := newO X25 hx hZ hown (hw _ (List.mem_of_getElem? (i := 1) rfl)) (hw _ (List.mem_of_getElem? (i := 2) rfl)) (hw _ (List.mem_of_getElem? (i := 3) rfl)) e25 (g := (mkF m 155 #[.val (.int p1), .val (.int p2), .val (.int p3), .val (.int p4), .val (.int p5), .val (.int p6), .val (.int (1 : Int32)), .val (.int c0), .val (.int c1), .val (.int c2), .val (.ref b22), .val (.int (0 : Int32)), .unset] [])) rfl (hb hby at_155) (by decide) (by decide)
    obtain ⟨b27, g27⟩ : ∃ z, z = h25.size := ⟨_, rfl⟩
    rw [← g27] at A27 D27 st27
    have R27 : ∀ t, Steps p.tables e below (T27.setTop (mkF m 158 #[.val (.int p1), .val (.int p2), .val (.int p3), .val (.int p4), .val (.int p5), .val (.int p6), .val (.int (1 : Int32)), .val (.int c0), .val (.int c1), .val (.int c2), .val (.ref b22), .val (.int (0 : Int32)), .unset] [(.ref b27)])) t → Steps p.tables e below (s₁.setTop (entryFrame m #[(.int p1), (.int p2), (.int p3), (.int p4), (.int p5), (.int p6)] maxLocals)) t := fun t k => R26 t (st27 t k)
    have ne_b22_b27 : b22 ≠ b27 := Nat.ne_of_lt (Nat.lt_of_lt_of_le V25.lt (Nat.le_of_eq g27.symm))
    have g_b27 : n0 ≤ b27 := Nat.le_trans Z25 (Nat.le_of_eq g27.symm)
    have sz_b27 : h0.size ≤ b27 := Nat.le_trans K25.1 (Nat.le_of_eq g27.symm)
    have Z27 : n0 ≤ h27.size := Nat.le_trans Z25 E27.1
    have K27 : Keep h0 h27 [] := K25.ext E27
    have f28 : Arv Z h27 b22 k22 .byte (1 : Int32) [(.int (nar .byte c0))] (.int (0 : Int32)) := V25.ext E27
    have R29 : ∀ t, Steps p.tables e below (T27.setTop (mkF m 159 #[.val (.int p1), .val (.int p2), .val (.int p3), .val (.int p4), .val (.int p5), .val (.int p6), .val (.int (1 : Int32)), .val (.int c0), .val (.int c1), .val (.int c2), .val (.ref b22), .val (.int (0 : Int32)), .unset] [(.ref b27), (.ref b27)])) t → Steps p.tables e below (s₁.setTop (entryFrame m #[(.int p1), (.int p2), (.int p3), (.int p4), (.int p5), (.int p6)] maxLocals)) t := by
      intro t k
      refine R27 t ?_
      show Steps p.tables e below (T27.setTop (mkF m 158 #[.val (.int p1), .val (.int p2), .val (.int p3), .val (.int p4), .val (.int p5), .val (.int p6), .val (.int (1 : Int32)), .val (.int c0), .val (.int c1), .val (.int c2), .val (.ref b22), .val (.int (0 : Int32)), .unset] [(.ref b27)])) _
      refine XS.dup X27.here hx rfl (hb hby at_158) rfl rfl ?_
      exact k
    obtain ⟨_, _, ⟨T30, L30, k30, n30⟩, -, X30, ⟨Lc30, hQ30, l30, y30, z30⟩, st30⟩ := X27.specialBack hx (y := (⟨"com/example/columnwire/columnwire/codec/GzipStream", "<init>", "()V"⟩ : MethodName)) rfl hown (mvT hZ (hw _ (List.mem_of_getElem? (i := 4) rfl))) (mvT hZ (hw _ (List.mem_of_getElem? (i := 5) rfl))) (mvT hZ (hw _ (List.mem_of_getElem? (i := 6) rfl))) (by decide) (backOf (W := 1) (rm1 l Z a0 hw [] b27  h27 n0 Z27 ) hZ (hw _ (List.mem_of_getElem? (i := 6) rfl)) (hw _ (List.mem_of_getElem? (i := 3) rfl)) (by decide) (by decide)) (g := (mkF m 159 #[.val (.int p1), .val (.int p2), .val (.int p3), .val (.int p4), .val (.int p5), .val (.int p6), .val (.int (1 : Int32)), .val (.int c0), .val (.int c1), .val (.int c2), .val (.ref b22), .val (.int (0 : Int32)), .unset] [(.ref b27), (.ref b27)])) rfl (by rw [hml]; rfl) (Steps.refl _) (a := b27) (argsL := []) (rest := [(.ref b27)]) (lenOf own_pd0 rfl) rfl (by show 2 * 0 + _ ≤ _; exact Nat.le_of_eq rfl) (hb hby at_159) (fun _ _ => ⟨rfl, e27, (by decide : 2 + 0 ≤ _), (by decide : 1 + 0 ≤ _)⟩)
    dsimp only [Pt.U, Pt.locs, Pt.cells, Pt.slots] at X30 l30 y30 z30 st30 hQ30
    subst l30 y30 z30
    obtain ⟨rfl, Nq30, eq30⟩ := hQ30
    have N30 := Fr.app N25 Nq30
    have R30 : ∀ t, Steps p.tables e below (T30.setTop (mkF m 162 #[.val (.int p1), .val (.int p2), .val (.int p3), .val (.int p4), .val (.int p5), .val (.int p6), .val (.int (1 : Int32)), .val (.int c0), .val (.int c1), .val (.int c2), .val (.ref b22), .val (.int (0 : Int32)), .unset] [(.ref b27)])) t → Steps p.tables e below (s₁.setTop (entryFrame m #[(.int p1), (.int p2), (.int p3), (.int p4), (.int p5), (.int p6)] maxLocals)) t := fun t k => R29 t (st30.trans k)
    have R31 : ∀ t, Steps p.tables e below (T30.setTop (mkF m 170 #[.val (.int p1), .val (.int p2), .val (.int p3), .val (.int p4), .val (.int p5), .val (.int p6), .val (.int (1 : Int32)), .val (.int c0), .val (.int c1), .val (.int c2), .val (.ref b22), .val (.int (0 : Int32)), .val (.ref b27)] [(.int p6), (.ref b22), (.ref b27)])) t → Steps p.tables e below (s₁.setTop (entryFrame m #[(.int p1), (.int p2), (.int p3), (.int p4), (.int p5), (.int p6)] maxLocals)) t := by
      intro t k
      refine R30 t ?_
      show Steps p.tables e below (T30.setTop (mkF m 162 #[.val (.int p1), .val (.int p2), .val (.int p3), .val (.int p4), .val (.int p5), .val (.int p6), .val (.int (1 : Int32)), .val (.int c0), .val (.int c1), .val (.int c2), .val (.ref b22), .val (.int (0 : Int32)), .unset] [(.ref b27)])) _
      refine XS.astore X30.here hx rfl (hb hby at_162) rfl rfl (l' := #[.val (.int p1), .val (.int p2), .val (.int p3), .val (.int p4), .val (.int p5), .val (.int p6), .val (.int (1 : Int32)), .val (.int c0), .val (.int c1), .val (.int c2), .val (.ref b22), .val (.int (0 : Int32)), .val (.ref b27)]) rfl ?_
      show Steps p.tables e below (T30.setTop (mkF m 164 #[.val (.int p1), .val (.int p2), .val (.int p3), .val (.int p4), .val (.int p5), .val (.int p6), .val (.int (1 : Int32)), .val (.int c0), .val (.int c1), .val (.int c2), .val (.ref b22), .val (.int (0 : Int32)), .val (.ref b27)] [])) _
      refine XS.aload X30.here hx rfl (hb hby at_164) rfl rfl ?_
      show Steps p.tables e below (T30.setTop (mkF m 166 #[.val (.int p1), .val (.int p2), .val (.int p3), .val (.int p4), .val (.int p5), .val (.int p6), .val (.int (1 : Int32)), .val (.int c0), .val (.int c1), .val (.int c2), .val (.ref b22), .val (.int (0 : Int32)), .val (.ref b27)] [(.ref b27)])) _
      refine XS.aload X30.here hx rfl (hb hby at_166) rfl rfl ?_
      show Steps p.tables e below (T30.setTop (mkF m 168 #[.val (.int p1), .val (.int p2), .val (.int p3), .val (.int p4), .val (.int p5), .val (.int p6), .val (.int (1 : Int32)), .val (.int c0), .val (.int c1), .val (.int c2), .val (.ref b22), .val (.int (0 : Int32)), .val (.ref b27)] [(.ref b22), (.ref b27)])) _
      refine XS.iload X30.here hx rfl (hb hby at_168) rfl ?_
      exact k
    obtain ⟨cq32, kq32, q32a, q32b, q32c⟩ := isOf hZ eq30 A27
    obtain ⟨_, _, ⟨T32, L32, k32, n32⟩, -, X32, ⟨Lc32, hQ32, l32, y32, z32⟩, st32⟩ := X30.virtualBack hx (y := (⟨"com/example/columnwire/columnwire/codec/GzipStream", "beginsAsBlock", "([BI)Z"⟩ : MethodName)) (z := (⟨"com/example/columnwire/columnwire/codec/GzipStream", "beginsAsBlock", "([BI)Z"⟩ : MethodName)) hown (mvT hZ (hw _ (List.mem_of_getElem? (i := 10) rfl))) (mvT hZ (hw _ (List.mem_of_getElem? (i := 11) rfl))) (notFace_of_selects (args := #[]) (mvT hZ (hw _ (List.mem_of_getElem? (i := 13) rfl)))) (mvT hZ (hw _ (List.mem_of_getElem? (i := 13) rfl))) (mvT hZ (hw _ (List.mem_of_getElem? (i := 12) rfl))) (by decide) (backOf (W := 0) (rm3s l Z a0 hw [] b27 b22 p6 k22 (1 : Int32) [(.int (nar .byte c0))] (.int (0 : Int32)) h27 n0 Z27 f28 (by decide)) hZ (hw _ (List.mem_of_getElem? (i := 14) rfl)) (hw _ (List.mem_of_getElem? (i := 3) rfl)) (by decide) (by decide)) q32a q32c (g := (mkF m 170 #[.val (.int p1), .val (.int p2), .val (.int p3), .val (.int p4), .val (.int p5), .val (.int p6), .val (.int (1 : Int32)), .val (.int c0), .val (.int c1), .val (.int c2), .val (.ref b22), .val (.int (0 : Int32)), .val (.ref b27)] [(.int p6), (.ref b22), (.ref b27)])) rfl (by rw [hml]; rfl) (Steps.refl _) (argsL := [(.ref b22), (.int p6)]) (rest := []) (lenOf own_pd1 rfl) rfl (by show 2 * 0 + _ ≤ _; exact Nat.le_of_eq rfl) (hb hby at_170) (fun _ _ => ⟨rfl, eq30, (by decide : 2 + 0 ≤ _), (by decide : 1 + 0 ≤ _)⟩)
    dsimp only [Pt.U, Pt.locs, Pt.cells, Pt.slots] at X32 l32 y32 z32 st32 hQ32
    subst l32 y32 z32
    obtain ⟨rfl, Nq32, eq32⟩ := hQ32
    have N32 := Fr.app N30 Nq32
    have R32 : ∀ t, Steps p.tables e below (T32.setTop (mkF m 173 #[.val (.int p1), .val (.int p2), .val (.int p3), .val (.int p4), .val (.int p5), .val (.int p6), .val (.int (1 : Int32)), .val (.int c0), .val (.int c1), .val (.int c2), .val (.ref b22), .val (.int (0 : Int32)), .val (.ref b27)] [(.int (0 : Int32))])) t → Steps p.tables e below (s₁.setTop (entryFrame m #[(.int p1), (.int p2), (.int p3), (.int p4), (.int p5), (.int p6)] maxLocals)) t := fun t k => R31 t (st32.trans k)
    have R33 : ∀ t, Steps p.tables e below (T32.setTop (mkF m 183 #[.val (.int p1), .val (.int p2), .val (.int p3), .val (.int p4), .val (.int p5), .val (.int p6), .val (.int (1 : Int32)), .val (.int c0), .val (.int c1), .val (.int c2), .val (.ref b22), .val (.int (0 : Int32)), .val (.ref b27)] [(.int (1 : Int32))])) t → Steps p.tables e below (s₁.setTop (entryFrame m #[(.int p1), (.int p2), (.int p3), (.int p4), (.int p5), (.int p6)] maxLocals)) t := by
      intro t k
      refine R32 t ?_
      show Steps p.tables e below (T32.setTop (mkF m 173 #[.val (.int p1), .val (.int p2), .val (.int p3), .val (.int p4), .val (.int p5), .val (.int p6), .val (.int (1 : Int32)), .val (.int c0), .val (.int c1), .val (.int c2), .val (.ref b22), .val (.int (0 : Int32)), .val (.ref b27)] [(.int (0 : Int32))])) _
      refine XS.iload X32.here hx rfl (hb hby at_173) rfl ?_
      show Steps p.tables e below (T32.setTop (mkF m 175 #[.val (.int p1), .val (.int p2), .val (.int p3), .val (.int p4), .val (.int p5), .val (.int p6), .val (.int (1 : Int32)), .val (.int c0), .val (.int c1), .val (.int c2), .val (.ref b22), .val (.int (0 : Int32)), .val (.ref b27)] [(.int (0 : Int32)), (.int (0 : Int32))])) _
      refine XS.icmpNo X32.here hx rfl (hb hby at_175) rfl (teq (by decide : ((0 : Int32) = (0 : Int32)))).2 ?_
      show Steps p.tables e below (T32.setTop (mkF m 178 #[.val (.int p1), .val (.int p2), .val (.int p3), .val (.int p4), .val (.int p5), .val (.int p6), .val (.int (1 : Int32)), .val (.int c0), .val (.int c1), .val (.int c2), .val (.ref b22), .val (.int (0 : Int32)), .val (.ref b27)] [])) _
      refine XS.iconst X32.here hx rfl (hb hby at_178) ?_
      show Steps p.tables e below (T32.setTop (mkF m 179 #[.val (.int p1), .val (.int p2), .val (.int p3), .val (.int p4), .val (.int p5), .val (.int p6), .val (.int (1 : Int32)), .val (.int c0), .val (.int c1), .val (.int c2), .val (.ref b22), .val (.int (0 : Int32)), .val (.ref b27)] [(.int (1 : Int32))])) _
      refine XS.goto X32.here hx rfl (pc0 := 179) (pc' := 183) rfl (hb hby at_179) (by decide) (by decide) ?_
      exact k
    obtain ⟨fs, hr, hrun, hended, hW, hsame⟩ := X32.leave (v := some (.int (1 : Int32))) (fun h => by rw [Bd.returns] at h; cases h)
    refine ⟨_, _, R33 _ ?_, hrun, hended, _, _, rfl, ?_, ⟨_, rfl⟩, hW, hsame.mono (by decide) (by decide)⟩
    · exact retN X32 hx (t := .boolean) Bd.returns (by simp) (hb hby at_183) hr
    · show Q_rm0 Z p1 p2 p3 p4 p5 p6 h0 n0 _ T32.heap _
      rw [eq32]
      exact ⟨rfl, N32⟩
  · have R34 : ∀ t, Steps p.tables e below (s₁.setTop (mkF m 54 #[.val (.int p1), .val (.int p2), .val (.int p3), .val (.int p4), .val (.int p5), .val (.int p6), .val (.int (2 : Int32)), .val (.int c0), .val (.int c1), .val (.int c2), .unset, .unset, .unset] [])) t → Steps p.tables e below (s₁.setTop (entryFrame m #[(.int p1), (.int p2), (.int p3), (.int p4), (.int p5), (.int p6)] maxLocals)) t := by rw [(hl : nn = (2 : Int32))] at R8; exact R8
    have R35 : ∀ t, Steps p.tables e below (s₁.setTop (mkF m 56 #[.val (.int p1), .val (.int p2), .val (.int p3), .val (.int p4), .val (.int p5), .val (.int p6), .val (.int (2 : Int32)), .val (.int c0), .val (.int c1), .val (.int c2), .unset, .unset, .unset] [(.int (2 : Int32))])) t → Steps p.tables e below (s₁.setTop (entryFrame m #[(.int p1), (.int p2), (.int p3), (.int p4), (.int p5), (.int p6)] maxLocals)) t := by
      intro t k
      refine R34 t ?_
      show Steps p.tables e below (s₁.setTop (mkF m 54 #[.val (.int p1), .val (.int p2), .val (.int p3), .val (.int p4), .val (.int p5), .val (.int p6), .val (.int (2 : Int32)), .val (.int c0), .val (.int c1), .val (.int c2), .unset, .unset, .unset] [])) _
      refine XS.iload X0.here hx rfl (hb hby at_54) rfl ?_
      exact k
    obtain ⟨T36, h36, k36, X36, e36, E36, A36, st36⟩ := newP X0 hx hZ (hw _ (List.mem_of_getElem? (i := 0) rfl)) e0 (g := (mkF m 56 #[.val (.int p1), .val (.int p2), .val (.int p3), .val (.int p4), .val (.int p5), .val (.int p6), .val (.int (2 : Int32)), .val (.int c0), .val (.int c1), .val (.int c2), .unset, .unset, .unset] [(.int (2 : Int32))])) rfl (hb hby at_56) rfl (by decide) (cap := 2) (by decide) (by decide) (by decide) (by decide)
    obtain ⟨b36, g36⟩ : ∃ z, z = h0.size := ⟨_, rfl⟩
    rw [← g36] at A36 st36
    have R36 : ∀ t, Steps p.tables e below (T36.setTop (mkF m 58 #[.val (.int p1), .val (.int p2), .val (.int p3), .val (.int p4), .val (.int p5), .val (.int p6), .val (.int (2 : Int32)), .val (.int c0), .val (.int c1), .val (.int c2), .unset, .unset, .unset] [(.ref b36)])) t → Steps p.tables e below (s₁.setTop (entryFrame m #[(.int p1), (.int p2), (.int p3), (.int p4), (.int p5), (.int p6)] maxLocals)) t := fun t k => R35 t (st36 t k)
    have g_b36 : n0 ≤ b36 := Nat.le_trans Z0 (Nat.le_of_eq g36.symm)
    have sz_b36 : h0.size ≤ b36 := Nat.le_trans (Keep.refl h0 []).1 (Nat.le_of_eq g36.symm)
    have Z36 : n0 ≤ h36.size := Nat.le_trans Z0 E36.1
    have K36 : Keep h0 h36 [] := (Keep.refl h0 []).ext E36
    have V36 : Arv Z h36 b36 k36 .byte (2 : Int32) [(.int (0 : Int32)), (.int (0 : Int32))] (.int (0 : Int32)) := (Arv.new A36 (by decide)).pad (pad_rep [] (.int (0 : Int32)) 2)
    have R37 : ∀ t, Steps p.tables e below (T36.setTop (mkF m 70 #[.val (.int p1), .val (.int p2), .val (.int p3), .val (.int p4), .val (.int p5), .val (.int p6), .val (.int (2 : Int32)), .val (.int c0), .val (.int c1), .val (.int c2), .val (.ref b36), .unset, .unset] [(.int c0), (.int (0 : Int32)), (.ref b36)])) t → Steps p.tables e below (s₁.setTop (entryFrame m #[(.int p1), (.int p2), (.int p3), (.int p4), (.int p5), (.int p6)] maxLocals)) t := by
      intro t k
      refine R36 t ?_
      show Steps p.tables e below (T36.setTop (mkF m 58 #[.val (.int p1), .val (.int p2), .val (.int p3), .val (.int p4), .val (.int p5), .val (.int p6), .val (.int (2 : Int32)), .val (.int c0), .val (.int c1), .val (.int c2), .unset, .unset, .unset] [(.ref b36)])) _
      refine XS.astore X36.here hx rfl (hb hby at_58) rfl rfl (l' := #[.val (.int p1), .val (.int p2), .val (.int p3), .val (.int p4), .val (.int p5), .val (.int p6), .val (.int (2 : Int32)), .val (.int c0), .val (.int c1), .val (.int c2), .val (.ref b36), .unset, .unset]) rfl ?_
      show Steps p.tables e below (T36.setTop (mkF m 60 #[.val (.int p1), .val (.int p2), .val (.int p3), .val (.int p4), .val (.int p5), .val (.int p6), .val (.int (2 : Int32)), .val (.int c0), .val (.int c1), .val (.int c2), .val (.ref b36), .unset, .unset] [])) _
      refine XS.iload X36.here hx rfl (hb hby at_60) rfl ?_
      show Steps p.tables e below (T36.setTop (mkF m 62 #[.val (.int p1), .val (.int p2), .val (.int p3), .val (.int p4), .val (.int p5), .val (.int p6), .val (.int (2 : Int32)), .val (.int c0), .val (.int c1), .val (.int c2), .val (.ref b36), .unset, .unset] [(.int (2 : Int32))])) _
      refine XS.ifNo X36.here hx rfl (hb hby at_62) rfl ((if0 _ _).trans (tlt (by decide : ((0 : Int32) < (2 : Int32)))).2.2.2) ?_
      show Steps p.tables e below (T36.setTop (mkF m 65 #[.val (.int p1), .val (.int p2), .val (.int p3), .val (.int p4), .val (.int p5), .val (.int p6), .val (.int (2 : Int32)), .val (.int c0), .val (.int c1), .val (.int c2), .val (.ref b36), .unset, .unset] [])) _
      refine XS.aload X36.here hx rfl (hb hby at_65) rfl rfl ?_
      show Steps p.tables e below (T36.setTop (mkF m 67 #[.val (.int p1), .val (.int p2), .val (.int p3), .val (.int p4), .val (.int p5), .val (.int p6), .val (.int (2 : Int32)), .val (.int c0), .val (.int c1), .val (.int c2), .val (.ref b36), .unset, .unset] [(.ref b36)])) _
      refine XS.iconst X36.here hx rfl (hb hby at_67) ?_
      show Steps p.tables e below (T36.setTop (mkF m 68 #[.val (.int p1), .val (.int p2), .val (.int p3), .val (.int p4), .val (.int p5), .val (.int p6), .val (.int (2 : Int32)), .val (.int c0), .val (.int c1), .val (.int c2), .val (.ref b36), .unset, .unset] [(.int (0 : Int32)), (.ref b36)])) _
      refine XS.iload X36.here hx rfl (hb hby at_68) rfl ?_
      exact k
    obtain ⟨cl38, Ar38, q38, S38, N38', H38, G38⟩ := id V36
    have hin38 : ¬ ((0 : Int32) < 0 ∨ cl38.slots.size ≤ ((0 : Int32)).toNatClampNeg) := inb_of S38 ⟨by decide, by decide⟩
    obtain ⟨T39, h39, X39, e39, W39, st39⟩ := stB X36 hx hZ e36 Ar38 (j := (0 : Int32)) hin38 (g := (mkF m 70 #[.val (.int p1), .val (.int p2), .val (.int p3), .val (.int p4), .val (.int p5), .val (.int p6), .val (.int (2 : Int32)), .val (.int c0), .val (.int c1), .val (.int c2), .val (.ref b36), .unset, .unset] [(.int c0), (.int (0 : Int32)), (.ref b36)])) rfl rfl (hb hby at_70)
    have R39 : ∀ t, Steps p.tables e below (T39.setTop (mkF m 71 #[.val (.int p1), .val (.int p2), .val (.int p3), .val (.int p4), .val (.int p5), .val (.int p6), .val (.int (2 : Int32)), .val (.int c0), .val (.int c1), .val (.int c2), .val (.ref b36), .unset, .unset] [])) t → Steps p.tables e below (s₁.setTop (entryFrame m #[(.int p1), (.int p2), (.int p3), (.int p4), (.int p5), (.int p6)] maxLocals)) t := fun t k => R37 t (st39 t k)
    have Z39 : n0 ≤ h39.size := Nat.le_trans Z36 (Keep.of_wr W39).1
    have K39 : Keep h0 h39 [] := K36.wr W39 (Or.inr sz_b36)
    have N39 := Fr.snoc X39 N0 g_b36
    have V39 : Arv Z h39 b36 k36 .byte (2 : Int32) [(.int (nar .byte c0)), (.int (0 : Int32))] (.int (0 : Int32)) := Arv.set Ar38 q38 S38 N38' H38 G38 (fits_nar_byte _) W39 0 rfl (Nat.le_of_ble_eq_true rfl)
    have R40 : ∀ t, Steps p.tables e below (T39.setTop (mkF m 82 #[.val (.int p1), .val (.int p2), .val (.int p3), .val (.int p4), .val (.int p5), .val (.int p6), .val (.int (2 : Int32)), .val (.int c0), .val (.int c1), .val (.int c2), .val (.ref b36), .unset, .unset] [(.int c1), (.int (1 : Int32)), (.ref b36)])) t → Steps p.tables e below (s₁.setTop (entryFrame m #[(.int p1), (.int p2), (.int p3), (.int p4), (.int p5), (.int p6)] maxLocals)) t := by
      intro t k
      refine R39 t ?_
      show Steps p.tables e below (T39.setTop (mkF m 71 #[.val (.int p1), .val (.int p2), .val (.int p3), .val (.int p4), .val (.int p5), .val (.int p6), .val (.int (2 : Int32)), .val (.int c0), .val (.int c1), .val (.int c2), .val (.ref b36), .unset, .unset] [])) _
      refine XS.iload X39.here hx rfl (hb hby at_71) rfl ?_
      show Steps p.tables e below (T39.setTop (mkF m 73 #[.val (.int p1), .val (.int p2), .val (.int p3), .val (.int p4), .val (.int p5), .val (.int p6), .val (.int (2 : Int32)), .val (.int c0), .val (.int c1), .val (.int c2), .val (.ref b36), .unset, .unset] [(.int (2 : Int32))])) _
      refine XS.iconst X39.here hx rfl (hb hby at_73) ?_
      show Steps p.tables e below (T39.setTop (mkF m 74 #[.val (.int p1), .val (.int p2), .val (.int p3), .val (.int p4), .val (.int p5), .val (.int p6), .val (.int (2 : Int32)), .val (.int c0), .val (.int c1), .val (.int c2), .val (.ref b36), .unset, .unset] [(.int (1 : Int32)), (.int (2 : Int32))])) _
      refine XS.icmpNo X39.here hx rfl (hb hby at_74) rfl (tlt (by decide : ((1 : Int32) < (2 : Int32)))).2.2.2 ?_
      show Steps p.tables e below (T39.setTop (mkF m 77 #[.val (.int p1), .val (.int p2), .val (.int p3), .val (.int p4), .val (.int p5), .val (.int p6), .val (.int (2 : Int32)), .val (.int c0), .val (.int c1), .val (.int c2), .val (.ref b36), .unset, .unset] [])) _
      refine XS.aload X39.here hx rfl (hb hby at_77) rfl rfl ?_
      show Steps p.tables e below (T39.setTop (mkF m 79 #[.val (.int p1), .val (.int p2), .val (.int p3), .val (.int p4), .val (.int p5), .val (.int p6), .val (.int (2 : Int32)), .val (.int c0), .val (.int c1), .val (.int c2), .val (.ref b36), .unset, .unset] [(.ref b36)])) _
      refine XS.iconst X39.here hx rfl (hb hby at_79) ?_
      show Steps p.tables e below (T39.setTop (mkF m 80 #[.val (.int p1), .val (.int p2), .val (.int p3), .val (.int p4), .val (.int p5), .val (.int p6), .val (.int (2 : Int32)), .val (.int c0), .val (.int c1), .val (.int c2), .val (.ref b36), .unset, .unset] [(.int (1 : Int32)), (.ref b36)])) _
      refine XS.iload X39.here hx rfl (hb hby at_80) rfl ?_
      exact k
    obtain ⟨cl41, Ar41, q41, S41, N41', H41, G41⟩ := id V39
    have hin41 : ¬ ((1 : Int32) < 0 ∨ cl41.slots.size ≤ ((1 : Int32)).toNatClampNeg) := inb_of S41 ⟨by decide, by decide⟩
    obtain ⟨T42, h42, X42, e42, W42, st42⟩ := stB X39 hx hZ e39 Ar41 (j := (1 : Int32)) hin41 (g := (mkF m 82 #[.val (.int p1), .val (.int p2), .val (.int p3), .val (.int p4), .val (.int p5), .val (.int p6), .val (.int (2 : Int32)), .val (.int c0), .val (.int c1), .val (.int c2), .val (.ref b36), .unset, .unset] [(.int c1), (.int (1 : Int32)), (.ref b36)])) rfl rfl (hb hby at_82)
    have R42 : ∀ t, Steps p.tables e below (T42.setTop (mkF m 83 #[.val (.int p1), .val (.int p2), .val (.int p3), .val (.int p4), .val (.int p5), .val (.int p6), .val (.int (2 : Int32)), .val (.int c0), .val (.int c1), .val (.int c2), .val (.ref b36), .unset, .unset] [])) t → Steps p.tables e below (s₁.setTop (entryFrame m #[(.int p1), (.int p2), (.int p3), (.int p4), (.int p5), (.int p6)] maxLocals)) t := fun t k => R40 t (st42 t k)
    have Z42 : n0 ≤ h42.size := Nat.le_trans Z39 (Keep.of_wr W42).1
    have K42 : Keep h0 h42 [] := K39.wr W42 (Or.inr sz_b36)
    have N42 := Fr.snoc X42 N39 g_b36
    have V42 : Arv Z h42 b36 k36 .byte (2 : Int32) [(.int (nar .byte c0)), (.int (nar .byte c1))] (.int (0 : Int32)) := Arv.set Ar41 q41 S41 N41' H41 G41 (fits_nar_byte _) W42 1 rfl (Nat.le_of_ble_eq_true rfl)
    have R43 : ∀ t, Steps p.tables e below (T42.setTop (mkF m 155 #[.val (.int p1), .val (.int p2), .val (.int p3), .val (.int p4), .val (.int p5), .val (.int p6), .val (.int (2 : Int32)), .val (.int c0), .val (.int c1), .val (.int c2), .val (.ref b36), .val (.int (0 : Int32)), .unset] [])) t → Steps p.tables e below (s₁.setTop (entryFrame m #[(.int p1), (.int p2), (.int p3), (.int p4), (.int p5), (.int p6)] maxLocals)) t := by
      intro t k
      refine R42 t ?_
      show Steps p.tables e below (T42.setTop (mkF m 83 #[.val (.int p1), .val (.int p2), .val (.int p3), .val (.int p4), .val (.int p5), .val (.int p6), .val (.int (2 : Int32)), .val (.int c0), .val (.int c1), .val (.int c2), .val (.ref b36), .unset, .unset] [])) _
      refine XS.iload X42.here hx rfl (hb hby at_83) rfl ?_
      show Steps p.tables e below (T42.setTop (mkF m 85 #[.val (.int p1), .val (.int p2), .val (.int p3), .val (.int p4), .val (.int p5), .val (.int p6), .val (.int (2 : Int32)), .val (.int c0), .val (.int c1), .val (.int c2), .val (.ref b36), .unset, .unset] [(.int (2 : Int32))])) _
      refine XS.iconst X42.here hx rfl (hb hby at_85) ?_
      show Steps p.tables e below (T42.setTop (mkF m 86 #[.val (.int p1), .val (.int p2), .val (.int p3), .val (.int p4), .val (.int p5), .val (.int p6), .val (.int (2 : Int32)), .val (.int c0), .val (.int c1), .val (.int c2), .val (.ref b36), .unset, .unset] [(.int (2 : Int32)), (.int (2 : Int32))])) _
      refine XS.icmpYes X42.here hx rfl (pc0 := 86) (pc' := 95) rfl (hb hby at_86) rfl (flt (by decide : ¬ ((2 : Int32) < (2 : Int32)))).2.2.2 (by decide) (by decide) ?_
      show Steps p.tables e below (T42.setTop (mkF m 95 #[.val (.int p1), .val (.int p2), .val (.int p3), .val (.int p4), .val (.int p5), .val (.int p6), .val (.int (2 : Int32)), .val (.int c0), .val (.int c1), .val (.int c2), .val (.ref b36), .unset, .unset] [])) _
      refine XS.iload X42.here hx rfl (hb hby at_95) rfl ?_
      show Steps p.tables e below (T42.setTop (mkF m 97 #[.val (.int p1), .val (.int p2), .val (.int p3), .val (.int p4), .val (.int p5), .val (.int p6), .val (.int (2 : Int32)), .val (.int c0), .val (.int c1), .val (.int c2), .val (.ref b36), .unset, .unset] [(.int (2 : Int32))])) _
      refine XS.iconst X42.here hx rfl (hb hby at_97) ?_
      show Steps p.tables e below (T42.setTop (mkF m 98 #[.val (.int p1), .val (.int p2), .val (.int p3), .val (.int p4), .val (.int p5), .val (.int p6), .val (.int (2 : Int32)), .val (.int c0), .val (.int c1), .val (.int c2), .val (.ref b36), .unset, .unset] [(.int (3 : Int32)), (.int (2 : Int32))])) _
      refine XS.icmpYes X42.here hx rfl (pc0 := 98) (pc' := 112) rfl (hb hby at_98) rfl (flt (by decide : ¬ ((3 : Int32) < (2 : Int32)))).2.2.2 (by decide) (by decide) ?_
      show Steps p.tables e below (T42.setTop (mkF m 112 #[.val (.int p1), .val (.int p2), .val (.int p3), .val (.int p4), .val (.int p5), .val (.int p6), .val (.int (2 : Int32)), .val (.int c0), .val (.int c1), .val (.int c2), .val (.ref b36), .unset, .unset] [])) _
      refine XS.iconst X42.here hx rfl (hb hby at_112) ?_
      show Steps p.tables e below (T42.setTop (mkF m 113 #[.val (.int p1), .val (.int p2), .val (.int p3), .val (.int p4), .val (.int p5), .val (.int p6), .val (.int (2 : Int32)), .val (.int c0), .val (.int c1), .val (.int c2), .val (.ref b36), .unset, .unset] [(.int (0 : Int32))])) _
      refine XS.istore X42.here hx rfl (hb hby at_113) rfl (l' := #[.val (.int p1), .val (.int p2), .val (.int p3), .val (.int p4), .val (.int p5), .val (.int p6), .val (.int (2 : Int32)), .val (.int c0), .val (.int c1), .val (.int c2), .val (.ref b36), .val (.int (0 : Int32)), .unset]) rfl ?_
      show Steps p.tables e below (T42.setTop (mkF m 115 #[.val (.int p1), .val (.int p2), .val (.int p3), .val (.int p4), .val (.int p5), .val (.int p6), .val (.int (2 : Int32)), .val (.int c0), .val (.int c1), .val (.int c2), .val (.ref b36), .val (.int (0 : Int32)), .unset] [])) _
      refine XS.iload X42.here hx rfl (hb hby at_115) rfl ?_
      show Steps p.tables e below (T42.setTop (mkF m 117 #[.val (.int p1), .val (.int p2), .val (.int p3), .val (.int p4), .val (.int p5), .val (.int p6), .val (.int (2 : Int32)), .val (.int c0), .val (.int c1), .val (.int c2), .val (.ref b36), .val (.int (0 : Int32)), .unset] [(.int (2 : Int32))])) _
      refine XS.bipush X42.here hx rfl (hb hby at_117) ?_
      show Steps p.tables e below (T42.setTop (mkF m 119 #[.val (.int p1), .val (.int p2), .val (.int p3), .val (.int p4), .val (.int p5), .val (.int p6), .val (.int (2 : Int32)), .val (.int c0), .val (.int c1), .val (.int c2), .val (.ref b36), .val (.int (0 : Int32)), .unset] [(.int (10 : Int32)), (.int (2 : Int32))])) _
      refine XS.icmpYes X42.here hx rfl (pc0 := 119) (pc' := 155) rfl (hb hby at_119) rfl (tlt (by decide : ((2 : Int32) < (10 : Int32)))).1 (by decide) (by decide) ?_
      exact k
    obtain ⟨T44, h44, X44, e44, E44, A44, D44, -, st44⟩ := newO X42 hx hZ hown (hw _ (List.mem_of_getElem? (i := 1) rfl)) (hw _ (List.mem_of_getElem? (i := 2) rfl)) (hw _ (List.mem_of_getElem? (i := 3) rfl)) e42 (g := (mkF m 155 #[.val (.int p1), .val (.int p2), .val (.int p3), .val (.int p4), .val (.int p5), .val (.int p6), .val (.int (2 : Int32)), .val (.int c0), .val (.int c1), .val (.int c2), .val (.ref b36), .val (.int (0 : Int32)), .unset] [])) rfl (hb hby at_155) (by decide) (by decide)
    obtain ⟨b44, g44⟩ : ∃ z, z = h42.size := ⟨_, rfl⟩
    rw [← g44] at A44 D44 st44
    have R44 : ∀ t, Steps p.tables e below (T44.setTop (mkF m 158 #[.val (.int p1), .val (.int p2), .val (.int p3), .val (.int p4), .val (.int p5), .val (.int p6), .val (.int (2 : Int32)), .val (.int c0), .val (.int c1), .val (.int c2), .val (.ref b36), .val (.int (0 : Int32)), .unset] [(.ref b44)])) t → Steps p.tables e below (s₁.setTop (entryFrame m #[(.int p1), (.int p2), (.int p3), (.int p4), (.int p5), (.int p6)] maxLocals)) t := fun t k => R43 t (st44 t k)
    have ne_b36_b44 : b36 ≠ b44 := Nat.ne_of_lt (Nat.lt_of_lt_of_le V42.lt (Nat.le_of_eq g44.symm))
    have g_b44 : n0 ≤ b44 := Nat.le_trans Z42 (Nat.le_of_eq g44.symm)
    have sz_b44 : h0.size ≤ b44 := Nat.le_trans K42.1 (Nat.le_of_eq g44.symm)
    have Z44 : n0 ≤ h44.size := Nat.le_trans Z42 E44.1
    have K44 : Keep h0 h44 [] := K42.ext E44
    have f45 : Arv Z h44 b36 k36 .byte (2 : Int32) [(.int (nar .byte c0)), (.int (nar .byte c1))] (.int (0 : Int32)) := V42.ext E44
    have R46 : ∀ t, Steps p.tables e below (T44.setTop (mkF m 159 #[.val (.int p1), .val (.int p2), .val (.int p3), .val (.int p4), .val (.int p5), .val (.int p6), .val (.int (2 : Int32)), .val (.int c0), .val (.int c1), .val (.int c2), .val (.ref b36), .val (.int (0 : Int32)), .unset] [(.ref b44), (.ref b44)])) t → Steps p.tables e below (s₁.setTop (entryFrame m #[(.int p1), (.int p2), (.int p3), (.int p4), (.int p5), (.int p6)] maxLocals)) t := by
      intro t k
      refine R44 t ?_
      show Steps p.tables e below (T44.setTop (mkF m 158 #[.val (.int p1), .val (.int p2), .val (.int p3), .val (.int p4), .val (.int p5), .val (.int p6), .val (.int (2 : Int32)), .val (.int c0), .val (.int c1), .val (.int c2), .val (.ref b36), .val (.int (0 : Int32)), .unset] [(.ref b44)])) _
      refine XS.dup X44.here hx rfl (hb hby at_158) rfl rfl ?_
      exact k
    obtain ⟨_, _, ⟨T47, L47, k47, n47⟩, -, X47, ⟨Lc47, hQ47, l47, y47, z47⟩, st47⟩ := X44.specialBack hx (y := (⟨"com/example/columnwire/columnwire/codec/GzipStream", "<init>", "()V"⟩ : MethodName)) rfl hown (mvT hZ (hw _ (List.mem_of_getElem? (i := 4) rfl))) (mvT hZ (hw _ (List.mem_of_getElem? (i := 5) rfl))) (mvT hZ (hw _ (List.mem_of_getElem? (i := 6) rfl))) (by decide) (backOf (W := 1) (rm1 l Z a0 hw [] b44  h44 n0 Z44 ) hZ (hw _ (List.mem_of_getElem? (i := 6) rfl)) (hw _ (List.mem_of_getElem? (i := 3) rfl)) (by decide) (by decide)) (g := (mkF m 159 #[.val (.int p1), .val (.int p2), .val (.int p3), .val (.int p4), .val (.int p5), .val (.int p6), .val (.int (2 : Int32)), .val (.int c0), .val (.int c1), .val (.int c2), .val (.ref b36), .val (.int (0 : Int32)), .unset] [(.ref b44), (.ref b44)])) rfl (by rw [hml]; rfl) (Steps.refl _) (a := b44) (argsL := []) (rest := [(.ref b44)]) (lenOf own_pd0 rfl) rfl (by show 2 * 0 + _ ≤ _; exact Nat.le_of_eq rfl) (hb hby at_159) (fun _ _ => ⟨rfl, e44, (by decide : 2 + 0 ≤ _), (by decide : 2 + 0 ≤ _)⟩)
    dsimp only [Pt.U, Pt.locs, Pt.cells, Pt.slots] at X47 l47 y47 z47 st47 hQ47
    subst l47 y47 z47
    obtain ⟨rfl, Nq47, eq47⟩ := hQ47
    have N47 := Fr.app N42 Nq47
    have R47 : ∀ t, Steps p.tables e below (T47.setTop (mkF m 162 #[.val (.int p1), .val (.int p2), .val (.int p3), .val (.int p4), .val (.int p5), .val (.int p6), .val (.int (2 : Int32)), .val (.int c0), .val (.int c1), .val (.int c2), .val (.ref b36), .val (.int (0 : Int32)), .unset] [(.ref b44)])) t → Steps p.tables e below (s₁.setTop (entryFrame m #[(.int p1), (.int p2), (.int p3), (.int p4), (.int p5), (.int p6)] maxLocals)) t := fun t k => R46 t (st47.trans k)
    have R48 : ∀ t, Steps p.tables e below (T47.setTop (mkF m 170 #[.val (.int p1), .val (.int p2), .val (.int p3), .val (.int p4), .val (.int p5), .val (.int p6), .val (.int (2 : Int32)), .val (.int c0), .val (.int c1), .val (.int c2), .val (.ref b36), .val (.int (0 : Int32)), .val (.ref b44)] [(.int p6), (.ref b36), (.ref b44)])) t → Steps p.tables e below (s₁.setTop (entryFrame m #[(.int p1), (.int p2), (.int p3), (.int p4), (.int p5), (.int p6)] maxLocals)) t := by
      intro t k
      refine R47 t ?_
      show Steps p.tables e below (T47.setTop (mkF m 162 #[.val (.int p1), .val (.int p2), .val (.int p3), .val (.int p4), .val (.int p5), .val (.int p6), .val (.int (2 : Int32)), .val (.int c0), .val (.int c1), .val (.int c2), .val (.ref b36), .val (.int (0 : Int32)), .unset] [(.ref b44)])) _
      refine XS.astore X47.here hx rfl (hb hby at_162) rfl rfl (l' := #[.val (.int p1), .val (.int p2), .val (.int p3), .val (.int p4), .val (.int p5), .val (.int p6), .val (.int (2 : Int32)), .val (.int c0), .val (.int c1), .val (.int c2), .val (.ref b36), .val (.int (0 : Int32)), .val (.ref b44)]) rfl ?_
      show Steps p.tables e below (T47.setTop (mkF m 164 #[.val (.int p1), .val (.int p2), .val (.int p3), .val (.int p4), .val (.int p5), .val (.int p6), .val (.int (2 : Int32)), .val (.int c0), .val (.int c1), .val (.int c2), .val (.ref b36), .val (.int (0 : Int32)), .val (.ref b44)] [])) _
      refine XS.aload X47.here hx rfl (hb hby at_164) rfl rfl ?_
      show Steps p.tables e below (T47.setTop (mkF m 166 #[.val (.int p1), .val (.int p2), .val (.int p3), .val (.int p4), .val (.int p5), .val (.int p6), .val (.int (2 : Int32)), .val (.int c0), .val (.int c1), .val (.int c2), .val (.ref b36), .val (.int (0 : Int32)), .val (.ref b44)] [(.ref b44)])) _
      refine XS.aload X47.here hx rfl (hb hby at_166) rfl rfl ?_
      show Steps p.tables e below (T47.setTop (mkF m 168 #[.val (.int p1), .val (.int p2), .val (.int p3), .val (.int p4), .val (.int p5), .val (.int p6), .val (.int (2 : Int32)), .val (.int c0), .val (.int c1), .val (.int c2), .val (.ref b36), .val (.int (0 : Int32)), .val (.ref b44)] [(.ref b36), (.ref b44)])) _
      refine XS.iload X47.here hx rfl (hb hby at_168) rfl ?_
      exact k
    obtain ⟨cq49, kq49, q49a, q49b, q49c⟩ := isOf hZ eq47 A44
    obtain ⟨_, _, ⟨T49, L49, k49, n49⟩, -, X49, ⟨Lc49, hQ49, l49, y49, z49⟩, st49⟩ := X47.virtualBack hx (y := (⟨"com/example/columnwire/columnwire/codec/GzipStream", "beginsAsBlock", "([BI)Z"⟩ : MethodName)) (z := (⟨"com/example/columnwire/columnwire/codec/GzipStream", "beginsAsBlock", "([BI)Z"⟩ : MethodName)) hown (mvT hZ (hw _ (List.mem_of_getElem? (i := 10) rfl))) (mvT hZ (hw _ (List.mem_of_getElem? (i := 11) rfl))) (notFace_of_selects (args := #[]) (mvT hZ (hw _ (List.mem_of_getElem? (i := 13) rfl)))) (mvT hZ (hw _ (List.mem_of_getElem? (i := 13) rfl))) (mvT hZ (hw _ (List.mem_of_getElem? (i := 12) rfl))) (by decide) (backOf (W := 0) (rm3s l Z a0 hw [] b44 b36 p6 k36 (2 : Int32) [(.int (nar .byte c0)), (.int (nar .byte c1))] (.int (0 : Int32)) h44 n0 Z44 f45 (by decide)) hZ (hw _ (List.mem_of_getElem? (i := 14) rfl)) (hw _ (List.mem_of_getElem? (i := 3) rfl)) (by decide) (by decide)) q49a q49c (g := (mkF m 170 #[.val (.int p1), .val (.int p2), .val (.int p3), .val (.int p4), .val (.int p5), .val (.int p6), .val (.int (2 : Int32)), .val (.int c0), .val (.int c1), .val (.int c2), .val (.ref b36), .val (.int (0 : Int32)), .val (.ref b44)] [(.int p6), (.ref b36), (.ref b44)])) rfl (by rw [hml]; rfl) (Steps.refl _) (argsL := [(.ref b36), (.int p6)]) (rest := []) (lenOf own_pd1 rfl) rfl (by show 2 * 0 + _ ≤ _; exact Nat.le_of_eq rfl) (hb hby at_170) (fun _ _ => ⟨rfl, eq47, (by decide : 2 + 0 ≤ _), (by decide : 2 + 0 ≤ _)⟩)
    dsimp only [Pt.U, Pt.locs, Pt.cells, Pt.slots] at X49 l49 y49 z49 st49 hQ49
    subst l49 y49 z49
    obtain ⟨rfl, Nq49, eq49⟩ := hQ49
    have N49 := Fr.app N47 Nq49
    have R49 : ∀ t, Steps p.tables e below (T49.setTop (mkF m 173 #[.val (.int p1), .val (.int p2), .val (.int p3), .val (.int p4), .val (.int p5), .val (.int p6), .val (.int (2 : Int32)), .val (.int c0), .val (.int c1), .val (.int c2), .val (.ref b36), .val (.int (0 : Int32)), .val (.ref b44)] [(.int (0 : Int32))])) t → Steps p.tables e below (s₁.setTop (entryFrame m #[(.int p1), (.int p2), (.int p3), (.int p4), (.int p5), (.int p6)] maxLocals)) t := fun t k => R48 t (st49.trans k)
    have R50 : ∀ t, Steps p.tables e below (T49.setTop (mkF m 183 #[.val (.int p1), .val (.int p2), .val (.int p3), .val (.int p4), .val (.int p5), .val (.int p6), .val (.int (2 : Int32)), .val (.int c0), .val (.int c1), .val (.int c2), .val (.ref b36), .val (.int (0 : Int32)), .val (.ref b44)] [(.int (1 : Int32))])) t → Steps p.tables e below (s₁.setTop (entryFrame m #[(.int p1), (.int p2), (.int p3), (.int p4), (.int p5), (.int p6)] maxLocals)) t := by
      intro t k
      refine R49 t ?_
      show Steps p.tables e below (T49.setTop (mkF m 173 #[.val (.int p1), .val (.int p2), .val (.int p3), .val (.int p4), .val (.int p5), .val (.int p6), .val (.int (2 : Int32)), .val (.int c0), .val (.int c1), .val (.int c2), .val (.ref b36), .val (.int (0 : Int32)), .val (.ref b44)] [(.int (0 : Int32))])) _
      refine XS.iload X49.here hx rfl (hb hby at_173) rfl ?_
      show Steps p.tables e below (T49.setTop (mkF m 175 #[.val (.int p1), .val (.int p2), .val (.int p3), .val (.int p4), .val (.int p5), .val (.int p6), .val (.int (2 : Int32)), .val (.int c0), .val (.int c1), .val (.int c2), .val (.ref b36), .val (.int (0 : Int32)), .val (.ref b44)] [(.int (0 : Int32)), (.int (0 : Int32))])) _
      refine XS.icmpNo X49.here hx rfl (hb hby at_175) rfl (teq (by decide : ((0 : Int32) = (0 : Int32)))).2 ?_
      show Steps p.tables e below (T49.setTop (mkF m 178 #[.val (.int p1), .val (.int p2), .val (.int p3), .val (.int p4), .val (.int p5), .val (.int p6), .val (.int (2 : Int32)), .val (.int c0), .val (.int c1), .val (.int c2), .val (.ref b36), .val (.int (0 : Int32)), .val (.ref b44)] [])) _
      refine XS.iconst X49.here hx rfl (hb hby at_178) ?_
      show Steps p.tables e below (T49.setTop (mkF m 179 #[.val (.int p1), .val (.int p2), .val (.int p3), .val (.int p4), .val (.int p5), .val (.int p6), .val (.int (2 : Int32)), .val (.int c0), .val (.int c1), .val (.int c2), .val (.ref b36), .val (.int (0 : Int32)), .val (.ref b44)] [(.int (1 : Int32))])) _
      refine XS.goto X49.here hx rfl (pc0 := 179) (pc' := 183) rfl (hb hby at_179) (by decide) (by decide) ?_
      exact k
    obtain ⟨fs, hr, hrun, hended, hW, hsame⟩ := X49.leave (v := some (.int (1 : Int32))) (fun h => by rw [Bd.returns] at h; cases h)
    refine ⟨_, _, R50 _ ?_, hrun, hended, _, _, rfl, ?_, ⟨_, rfl⟩, hW, hsame.mono (by decide) (by decide)⟩
    · exact retN X49 hx (t := .boolean) Bd.returns (by simp) (hb hby at_183) hr
    · show Q_rm0 Z p1 p2 p3 p4 p5 p6 h0 n0 _ T49.heap _
      rw [eq49]
      exact ⟨rfl, N49⟩
  · have R51 : ∀ t, Steps p.tables e below (s₁.setTop (mkF m 54 #[.val (.int p1), .val (.int p2), .val (.int p3), .val (.int p4), .val (.int p5), .val (.int p6), .val (.int (3 : Int32)), .val (.int c0), .val (.int c1), .val (.int c2), .unset, .unset, .unset] [])) t → Steps p.tables e below (s₁.setTop (entryFrame m #[(.int p1), (.int p2), (.int p3), (.int p4), (.int p5), (.int p6)] maxLocals)) t := by rw [(hl : nn = (3 : Int32))] at R8; exact R8
    have R52 : ∀ t, Steps p.tables e below (s₁.setTop (mkF m 56 #[.val (.int p1), .val (.int p2), .val (.int p3), .val (.int p4), .val (.int p5), .val (.int p6), .val (.int (3 : Int32)), .val (.int c0), .val (.int c1), .val (.int c2), .unset, .unset, .unset] [(.int (3 : Int32))])) t → Steps p.tables e below (s₁.setTop (entryFrame m #[(.int p1), (.int p2), (.int p3), (.int p4), (.int p5), (.int p6)] maxLocals)) t := by
      intro t k
      refine R51 t ?_
      show Steps p.tables e below (s₁.setTop (mkF m 54 #[.val (.int p1), .val (.int p2), .val (.int p3), .val (.int p4), .val (.int p5), .val (.int p6), .val (.int (3 : Int32)), .val (.int c0), .val (.int c1), .val (.int c2), .unset, .unset, .unset] [])) _
      refine XS.iload X0.here hx rfl (hb hby at_54) rfl ?_
      exact k
    obtain ⟨T53, h53, k53, X53, e53, E53, A53, st53⟩ := newP X0 hx hZ (hw _ (List.mem_of_getElem? (i := 0) rfl)) e0 (g := (mkF m 56 #[.val (.int p1), .val (.int p2), .val (.int p3), .val (.int p4), .val (.int p5), .val (.int p6), .val (.int (3 : Int32)), .val (.int c0), .val (.int c1), .val (.int c2), .unset, .unset, .unset] [(.int (3 : Int32))])) rfl (hb hby at_56) rfl (by decide) (cap := 3) (by decide) (by decide) (by decide) (by decide)
    obtain ⟨b53, g53⟩ : ∃ z, z = h0.size := ⟨_, rfl⟩
    rw [← g53] at A53 st53
    have R53 : ∀ t, Steps p.tables e below (T53.setTop (mkF m 58 #[.val (.int p1), .val (.int p2), .val (.int p3), .val (.int p4), .val (.int p5), .val (.int p6), .val (.int (3 : Int32)), .val (.int c0), .val (.int c1), .val (.int c2), .unset, .unset, .unset] [(.ref b53)])) t → Steps p.tables e below (s₁.setTop (entryFrame m #[(.int p1), (.int p2), (.int p3), (.int p4), (.int p5), (.int p6)] maxLocals)) t := fun t k => R52 t (st53 t k)
    have g_b53 : n0 ≤ b53 := Nat.le_trans Z0 (Nat.le_of_eq g53.symm)
    have sz_b53 : h0.size ≤ b53 := Nat.le_trans (Keep.refl h0 []).1 (Nat.le_of_eq g53.symm)
    have Z53 : n0 ≤ h53.size := Nat.le_trans Z0 E53.1
    have K53 : Keep h0 h53 [] := (Keep.refl h0 []).ext E53
    have V53 : Arv Z h53 b53 k53 .byte (3 : Int32) [(.int (0 : Int32)), (.int (0 : Int32)), (.int (0 : Int32))] (.int (0 : Int32)) := (Arv.new A53 (by decide)).pad (pad_rep [] (.int (0 : Int32)) 3)
    have R54 : ∀ t, Steps p.tables e below (T53.setTop (mkF m 70 #[.val (.int p1), .val (.int p2), .val (.int p3), .val (.int p4), .val (.int p5), .val (.int p6), .val (.int (3 : Int32)), .val (.int c0), .val (.int c1), .val (.int c2), .val (.ref b53), .unset, .unset] [(.int c0), (.int (0 : Int32)), (.ref b53)])) t → Steps p.tables e below (s₁.setTop (entryFrame m #[(.int p1), (.int p2), (.int p3), (.int p4), (.int p5), (.int p6)] maxLocals)) t := by
      intro t k
      refine R53 t ?_
      show Steps p.tables e below (T53.setTop (mkF m 58 #[.val (.int p1), .val (.int p2), .val (.int p3), .val (.int p4), .val (.int p5), .val (.int p6), .val (.int (3 : Int32)), .val (.int c0), .val (.int c1), .val (.int c2), .unset, .unset, .unset] [(.ref b53)])) _
      refine XS.astore X53.here hx rfl (hb hby at_58) rfl rfl (l' := #[.val (.int p1), .val (.int p2), .val (.int p3), .val (.int p4), .val (.int p5), .val (.int p6), .val (.int (3 : Int32)), .val (.int c0), .val (.int c1), .val (.int c2), .val (.ref b53), .unset, .unset]) rfl ?_
      show Steps p.tables e below (T53.setTop (mkF m 60 #[.val (.int p1), .val (.int p2), .val (.int p3), .val (.int p4), .val (.int p5), .val (.int p6), .val (.int (3 : Int32)), .val (.int c0), .val (.int c1), .val (.int c2), .val (.ref b53), .unset, .unset] [])) _
      refine XS.iload X53.here hx rfl (hb hby at_60) rfl ?_
      show Steps p.tables e below (T53.setTop (mkF m 62 #[.val (.int p1), .val (.int p2), .val (.int p3), .val (.int p4), .val (.int p5), .val (.int p6), .val (.int (3 : Int32)), .val (.int c0), .val (.int c1), .val (.int c2), .val (.ref b53), .unset, .unset] [(.int (3 : Int32))])) _
      refine XS.ifNo X53.here hx rfl (hb hby at_62) rfl ((if0 _ _).trans (tlt (by decide : ((0 : Int32) < (3 : Int32)))).2.2.2) ?_
      show Steps p.tables e below (T53.setTop (mkF m 65 #[.val (.int p1), .val (.int p2), .val (.int p3), .val (.int p4), .val (.int p5), .val (.int p6), .val (.int (3 : Int32)), .val (.int c0), .val (.int c1), .val (.int c2), .val (.ref b53), .unset, .unset] [])) _
      refine XS.aload X53.here hx rfl (hb hby at_65) rfl rfl ?_
      show Steps p.tables e below (T53.setTop (mkF m 67 #[.val (.int p1), .val (.int p2), .val (.int p3), .val (.int p4), .val (.int p5), .val (.int p6), .val (.int (3 : Int32)), .val (.int c0), .val (.int c1), .val (.int c2), .val (.ref b53), .unset, .unset] [(.ref b53)])) _
      refine XS.iconst X53.here hx rfl (hb hby at_67) ?_
      show Steps p.tables e below (T53.setTop (mkF m 68 #[.val (.int p1), .val (.int p2), .val (.int p3), .val (.int p4), .val (.int p5), .val (.int p6), .val (.int (3 : Int32)), .val (.int c0), .val (.int c1), .val (.int c2), .val (.ref b53), .unset, .unset] [(.int (0 : Int32)), (.ref b53)])) _
      refine XS.iload X53.here hx rfl (hb hby at_68) rfl ?_
      exact k
    obtain ⟨cl55, Ar55, q55, S55, N55', H55, G55⟩ := id V53
    have hin55 : ¬ ((0 : Int32) < 0 ∨ cl55.slots.size ≤ ((0 : Int32)).toNatClampNeg) := inb_of S55 ⟨by decide, by decide⟩
    obtain ⟨T56, h56, X56, e56, W56, st56⟩ := stB X53 hx hZ e53 Ar55 (j := (0 : Int32)) hin55 (g := (mkF m 70 #[.val (.int p1), .val (.int p2), .val (.int p3), .val (.int p4), .val (.int p5), .val (.int p6), .val (.int (3 : Int32)), .val (.int c0), .val (.int c1), .val (.int c2), .val (.ref b53), .unset, .unset] [(.int c0), (.int (0 : Int32)), (.ref b53)])) rfl rfl (hb hby at_70)
    have R56 : ∀ t, Steps p.tables e below (T56.setTop (mkF m 71 #[.val (.int p1), .val (.int p2), .val (.int p3), .val (.int p4), .val (.int p5), .val (.int p6), .val (.int (3 : Int32)), .val (.int c0), .val (.int c1), .val (.int c2), .val (.ref b53), .unset, .unset] [])) t → Steps p.tables e below (s₁.setTop (entryFrame m #[(.int p1), (.int p2), (.int p3), (.int p4), (.int p5), (.int p6)] maxLocals)) t := fun t k => R54 t (st56 t k)
    have Z56 : n0 ≤ h56.size := Nat.le_trans Z53 (Keep.of_wr W56).1
    have K56 : Keep h0 h56 [] := K53.wr W56 (Or.inr sz_b53)
    have N56 := Fr.snoc X56 N0 g_b53
    have V56 : Arv Z h56 b53 k53 .byte (3 : Int32) [(.int (nar .byte c0)), (.int (0 : Int32)), (.int (0 : Int32))] (.int (0 : Int32)) := Arv.set Ar55 q55 S55 N55' H55 G55 (fits_nar_byte _) W56 0 rfl (Nat.le_of_ble_eq_true rfl)
    have R57 : ∀ t, Steps p.tables e below (T56.setTop (mkF m 82 #[.val (.int p1), .val (.int p2), .val (.int p3), .val (.int p4), .val (.int p5), .val (.int p6), .val (.int (3 : Int32)), .val (.int c0), .val (.int c1), .val (.int c2), .val (.ref b53), .unset, .unset] [(.int c1), (.int (1 : Int32)), (.ref b53)])) t → Steps p.tables e below (s₁.setTop (entryFrame m #[(.int p1), (.int p2), (.int p3), (.int p4), (.int p5), (.int p6)] maxLocals)) t := by
      intro t k
      refine R56 t ?_
      show Steps p.tables e below (T56.setTop (mkF m 71 #[.val (.int p1), .val (.int p2), .val (.int p3), .val (.int p4), .val (.int p5), .val (.int p6), .val (.int (3 : Int32)), .val (.int c0), .val (.int c1), .val (.int c2), .val (.ref b53), .unset, .unset] [])) _
      refine XS.iload X56.here hx rfl (hb hby at_71) rfl ?_
      show Steps p.tables e below (T56.setTop (mkF m 73 #[.val (.int p1), .val (.int p2), .val (.int p3), .val (.int p4), .val (.int p5), .val (.int p6), .val (.int (3 : Int32)), .val (.int c0), .val (.int c1), .val (.int c2), .val (.ref b53), .unset, .unset] [(.int (3 : Int32))])) _
      refine XS.iconst X56.here hx rfl (hb hby at_73) ?_
      show Steps p.tables e below (T56.setTop (mkF m 74 #[.val (.int p1), .val (.int p2), .val (.int p3), .val (.int p4), .val (.int p5), .val (.int p6), .val (.int (3 : Int32)), .val (.int c0), .val (.int c1), .val (.int c2), .val (.ref b53), .unset, .unset] [(.int (1 : Int32)), (.int (3 : Int32))])) _
      refine XS.icmpNo X56.here hx rfl (hb hby at_74) rfl (tlt (by decide : ((1 : Int32) < (3 : Int32)))).2.2.2 ?_
      show Steps p.tables e below (T56.setTop (mkF m 77 #[.val (.int p1), .val (.int p2), .val (.int p3), .val (.int p4), .val (.int p5), .val (.int p6), .val (.int (3 : Int32)), .val (.int c0), .val (.int c1), .val (.int c2), .val (.ref b53), .unset, .unset] [])) _
      refine XS.aload X56.here hx rfl (hb hby at_77) rfl rfl ?_
      show Steps p.tables e below (T56.setTop (mkF m 79 #[.val (.int p1), .val (.int p2), .val (.int p3), .val (.int p4), .val (.int p5), .val (.int p6), .val (.int (3 : Int32)), .val (.int c0), .val (.int c1), .val (.int c2), .val (.ref b53), .unset, .unset] [(.ref b53)])) _
      refine XS.iconst X56.here hx rfl (hb hby at_79) ?_
      show Steps p.tables e below (T56.setTop (mkF m 80 #[.val (.int p1), .val (.int p2), .val (.int p3), .val (.int p4), .val (.int p5), .val (.int p6), .val (.int (3 : Int32)), .val (.int c0), .val (.int c1), .val (.int c2), .val (.ref b53), .unset, .unset] [(.int (1 : Int32)), (.ref b53)])) _
      refine XS.iload X56.here hx rfl (hb hby at_80) rfl ?_
      exact k
    obtain ⟨cl58, Ar58, q58, S58, N58', H58, G58⟩ := id V56
    have hin58 : ¬ ((1 : Int32) < 0 ∨ cl58.slots.size ≤ ((1 : Int32)).toNatClampNeg) := inb_of S58 ⟨by decide, by decide⟩
    obtain ⟨T59, h59, X59, e59, W59, st59⟩ := stB X56 hx hZ e56 Ar58 (j := (1 : Int32)) hin58 (g := (mkF m 82 #[.val (.int p1), .val (.int p2), .val (.int p3), .val (.int p4), .val (.int p5), .val (.int p6), .val (.int (3 : Int32)), .val (.int c0), .val (.int c1), .val (.int c2), .val (.ref b53), .unset, .unset] [(.int c1), (.int (1 : Int32)), (.ref b53)])) rfl rfl (hb hby at_82)
    have R59 : ∀ t, Steps p.tables e below (T59.setTop (mkF m 83 #[.val (.int p1), .val (.int p2), .val (.int p3), .val (.int p4), .val (.int p5), .val (.int p6), .val (.int (3 : Int32)), .val (.int c0), .val (.int c1), .val (.int c2), .val (.ref b53), .unset, .unset] [])) t → Steps p.tables e below (s₁.setTop (entryFrame m #[(.int p1), (.int p2), (.int p3), (.int p4), (.int p5), (.int p6)] maxLocals)) t := fun t k => R57 t (st59 t k)
    have Z59 : n0 ≤ h59.size := Nat.le_trans Z56 (Keep.of_wr W59).1
    have K59 : Keep h0 h59 [] := K56.wr W59 (Or.inr sz_b53)
    have N59 := Fr.snoc X59 N56 g_b53
    have V59 : Arv Z h59 b53 k53 .byte (3 : Int32) [(.int (nar .byte c0)), (.int (nar .byte c1)), (.int (0 : Int32))] (.int (0 : Int32)) := Arv.set Ar58 q58 S58 N58' H58 G58 (fits_nar_byte _) W59 1 rfl (Nat.le_of_ble_eq_true rfl)
    have R60 : ∀ t, Steps p.tables e below (T59.setTop (mkF m 94 #[.val (.int p1), .val (.int p2), .val (.int p3), .val (.int p4), .val (.int p5), .val (.int p6), .val (.int (3 : Int32)), .val (.int c0), .val (.int c1), .val (.int c2), .val (.ref b53), .unset, .unset] [(.int c2), (.int (2 : Int32)), (.ref b53)])) t → Steps p.tables e below (s₁.setTop (entryFrame m #[(.int p1), (.int p2), (.int p3), (.int p4), (.int p5), (.int p6)] maxLocals)) t := by
      intro t k
      refine R59 t ?_
      show Steps p.tables e below (T59.setTop (mkF m 83 #[.val (.int p1), .val (.int p2), .val (.int p3), .val (.int p4), .val (.int p5), .val (.int p6), .val (.int (3 : Int32)), .val (.int c0), .val (.int c1), .val (.int c2), .val (.ref b53), .unset, .unset] [])) _
      refine XS.iload X59.here hx rfl (hb hby at_83) rfl ?_
      show Steps p.tables e below (T59.setTop (mkF m 85 #[.val (.int p1), .val (.int p2), .val (.int p3), .val (.int p4), .val (.int p5), .val (.int p6), .val (.int (3 : Int32)), .val (.int c0), .val (.int c1), .val (.int c2), .val (.ref b53), .unset, .unset] [(.int (3 : Int32))])) _
      refine XS.iconst X59.here hx rfl (hb hby at_85) ?_
      show Steps p.tables e below (T59.setTop (mkF m 86 #[.val (.int p1), .val (.int p2), .val (.int p3), .val (.int p4), .val (.int p5), .val (.int p6), .val (.int (3 : Int32)), .val (.int c0), .val (.int c1), .val (.int c2), .val (.ref b53), .unset, .unset] [(.int (2 : Int32)), (.int (3 : Int32))])) _
      refine XS.icmpNo X59.here hx rfl (hb hby at_86) rfl (tlt (by decide : ((2 : Int32) < (3 : Int32)))).2.2.2 ?_
      show Steps p.tables e below (T59.setTop (mkF m 89 #[.val (.int p1), .val (.int p2), .val (.int p3), .val (.int p4), .val (.int p5), .val (.int p6), .val (.int (3 : Int32)), .val (.int c0), .val (.int c1), .val (.int c2), .val (.ref b53), .unset, .unset] [])) _
      refine XS.aload X59.here hx rfl (hb hby at_89) rfl rfl ?_
      show Steps p.tables e below (T59.setTop (mkF m 91 #[.val (.int p1), .val (.int p2), .val (.int p3), .val (.int p4), .val (.int p5), .val (.int p6), .val (.int (3 : Int32)), .val (.int c0), .val (.int c1), .val (.int c2), .val (.ref b53), .unset, .unset] [(.ref b53)])) _
      refine XS.iconst X59.here hx rfl (hb hby at_91) ?_
      show Steps p.tables e below (T59.setTop (mkF m 92 #[.val (.int p1), .val (.int p2), .val (.int p3), .val (.int p4), .val (.int p5), .val (.int p6), .val (.int (3 : Int32)), .val (.int c0), .val (.int c1), .val (.int c2), .val (.ref b53), .unset, .unset] [(.int (2 : Int32)), (.ref b53)])) _
      refine XS.iload X59.here hx rfl (hb hby at_92) rfl ?_
      exact k
    obtain ⟨cl61, Ar61, q61, S61, N61', H61, G61⟩ := id V59
    have hin61 : ¬ ((2 : Int32) < 0 ∨ cl61.slots.size ≤ ((2 : Int32)).toNatClampNeg) := inb_of S61 ⟨by decide, by decide⟩
    obtain ⟨T62, h62, X62, e62, W62, st62⟩ := stB X59 hx hZ e59 Ar61 (j := (2 : Int32)) hin61 (g := (mkF m 94 #[.val (.int p1), .val (.int p2), .val (.int p3), .val (.int p4), .val (.int p5), .val (.int p6), .val (.int (3 : Int32)), .val (.int c0), .val (.int c1), .val (.int c2), .val (.ref b53), .unset, .unset] [(.int c2), (.int (2 : Int32)), (.ref b53)])) rfl rfl (hb hby at_94)
    have R62 : ∀ t, Steps p.tables e below (T62.setTop (mkF m 95 #[.val (.int p1), .val (.int p2), .val (.int p3), .val (.int p4), .val (.int p5), .val (.int p6), .val (.int (3 : Int32)), .val (.int c0), .val (.int c1), .val (.int c2), .val (.ref b53), .unset, .unset] [])) t → Steps p.tables e below (s₁.setTop (entryFrame m #[(.int p1), (.int p2), (.int p3), (.int p4), (.int p5), (.int p6)] maxLocals)) t := fun t k => R60 t (st62 t k)
    have Z62 : n0 ≤ h62.size := Nat.le_trans Z59 (Keep.of_wr W62).1
    have K62 : Keep h0 h62 [] := K59.wr W62 (Or.inr sz_b53)
    have N62 := Fr.snoc X62 N59 g_b53
    have V62 : Arv Z h62 b53 k53 .byte (3 : Int32) [(.int (nar .byte c0)), (.int (nar .byte c1)), (.int (nar .byte c2))] (.int (0 : Int32)) := Arv.set Ar61 q61 S61 N61' H61 G61 (fits_nar_byte _) W62 2 rfl (Nat.le_of_ble_eq_true rfl)
    have R63 : ∀ t, Steps p.tables e below (T62.setTop (mkF m 155 #[.val (.int p1), .val (.int p2), .val (.int p3), .val (.int p4), .val (.int p5), .val (.int p6), .val (.int (3 : Int32)), .val (.int c0), .val (.int c1), .val (.int c2), .val (.ref b53), .val (.int (0 : Int32)), .unset] [])) t → Steps p.tables e below (s₁.setTop (entryFrame m #[(.int p1), (.int p2), (.int p3), (.int p4), (.int p5), (.int p6)] maxLocals)) t := by
      intro t k
      refine R62 t ?_
      show Steps p.tables e below (T62.setTop (mkF m 95 #[.val (.int p1), .val (.int p2), .val (.int p3), .val (.int p4), .val (.int p5), .val (.int p6), .val (.int (3 : Int32)), .val (.int c0), .val (.int c1), .val (.int c2), .val (.ref b53), .unset, .unset] [])) _
      refine XS.iload X62.here hx rfl (hb hby at_95) rfl ?_
      show Steps p.tables e below (T62.setTop (mkF m 97 #[.val (.int p1), .val (.int p2), .val (.int p3), .val (.int p4), .val (.int p5), .val (.int p6), .val (.int (3 : Int32)), .val (.int c0), .val (.int c1), .val (.int c2), .val (.ref b53), .unset, .unset] [(.int (3 : Int32))])) _
      refine XS.iconst X62.here hx rfl (hb hby at_97) ?_
      show Steps p.tables e below (T62.setTop (mkF m 98 #[.val (.int p1), .val (.int p2), .val (.int p3), .val (.int p4), .val (.int p5), .val (.int p6), .val (.int (3 : Int32)), .val (.int c0), .val (.int c1), .val (.int c2), .val (.ref b53), .unset, .unset] [(.int (3 : Int32)), (.int (3 : Int32))])) _
      refine XS.icmpYes X62.here hx rfl (pc0 := 98) (pc' := 112) rfl (hb hby at_98) rfl (flt (by decide : ¬ ((3 : Int32) < (3 : Int32)))).2.2.2 (by decide) (by decide) ?_
      show Steps p.tables e below (T62.setTop (mkF m 112 #[.val (.int p1), .val (.int p2), .val (.int p3), .val (.int p4), .val (.int p5), .val (.int p6), .val (.int (3 : Int32)), .val (.int c0), .val (.int c1), .val (.int c2), .val (.ref b53), .unset, .unset] [])) _
      refine XS.iconst X62.here hx rfl (hb hby at_112) ?_
      show Steps p.tables e below (T62.setTop (mkF m 113 #[.val (.int p1), .val (.int p2), .val (.int p3), .val (.int p4), .val (.int p5), .val (.int p6), .val (.int (3 : Int32)), .val (.int c0), .val (.int c1), .val (.int c2), .val (.ref b53), .unset, .unset] [(.int (0 : Int32))])) _
      refine XS.istore X62.here hx rfl (hb hby at_113) rfl (l' := #[.val (.int p1), .val (.int p2), .val (.int p3), .val (.int p4), .val (.int p5), .val (.int p6), .val (.int (3 : Int32)), .val (.int c0), .val (.int c1), .val (.int c2), .val (.ref b53), .val (.int (0 : Int32)), .unset]) rfl ?_
      show Steps p.tables e below (T62.setTop (mkF m 115 #[.val (.int p1), .val (.int p2), .val (.int p3), .val (.int p4), .val (.int p5), .val (.int p6), .val (.int (3 : Int32)), .val (.int c0), .val (.int c1), .val (.int c2), .val (.ref b53), .val (.int (0 : Int32)), .unset] [])) _
      refine XS.iload X62.here hx rfl (hb hby at_115) rfl ?_
      show Steps p.tables e below (T62.setTop (mkF m 117 #[.val (.int p1), .val (.int p2), .val (.int p3), .val (.int p4), .val (.int p5), .val (.int p6), .val (.int (3 : Int32)), .val (.int c0), .val (.int c1), .val (.int c2), .val (.ref b53), .val (.int (0 : Int32)), .unset] [(.int (3 : Int32))])) _
      refine XS.bipush X62.here hx rfl (hb hby at_117) ?_
      show Steps p.tables e below (T62.setTop (mkF m 119 #[.val (.int p1), .val (.int p2), .val (.int p3), .val (.int p4), .val (.int p5), .val (.int p6), .val (.int (3 : Int32)), .val (.int c0), .val (.int c1), .val (.int c2), .val (.ref b53), .val (.int (0 : Int32)), .unset] [(.int (10 : Int32)), (.int (3 : Int32))])) _
      refine XS.icmpYes X62.here hx rfl (pc0 := 119) (pc' := 155) rfl (hb hby at_119) rfl (tlt (by decide : ((3 : Int32) < (10 : Int32)))).1 (by decide) (by decide) ?_
      exact k
    obtain ⟨T64, h64, X64, e64, E64, A64, D64, -, st64⟩ := newO X62 hx hZ hown (hw _ (List.mem_of_getElem? (i := 1) rfl)) (hw _ (List.mem_of_getElem? (i := 2) rfl)) (hw _ (List.mem_of_getElem? (i := 3) rfl)) e62 (g := (mkF m 155 #[.val (.int p1), .val (.int p2), .val (.int p3), .val (.int p4), .val (.int p5), .val (.int p6), .val (.int (3 : Int32)), .val (.int c0), .val (.int c1), .val (.int c2), .val (.ref b53), .val (.int (0 : Int32)), .unset] [])) rfl (hb hby at_155) (by decide) (by decide)
    obtain ⟨b64, g64⟩ : ∃ z, z = h62.size := ⟨_, rfl⟩
    rw [← g64] at A64 D64 st64
    have R64 : ∀ t, Steps p.tables e below (T64.setTop (mkF m 158 #[.val (.int p1), .val (.int p2), .val (.int p3), .val (.int p4), .val (.int p5), .val (.int p6), .val (.int (3 : Int32)), .val (.int c0), .val (.int c1), .val (.int c2), .val (.ref b53), .val (.int (0 : Int32)), .unset] [(.ref b64)])) t → Steps p.tables e below (s₁.setTop (entryFrame m #[(.int p1), (.int p2), (.int p3), (.int p4), (.int p5), (.int p6)] maxLocals)) t := fun t k => R63 t (st64 t k)
    have ne_b53_b64 : b53 ≠ b64 := Nat.ne_of_lt (Nat.lt_of_lt_of_le V62.lt (Nat.le_of_eq g64.symm))
    have g_b64 : n0 ≤ b64 := Nat.le_trans Z62 (Nat.le_of_eq g64.symm)
    have sz_b64 : h0.size ≤ b64 := Nat.le_trans K62.1 (Nat.le_of_eq g64.symm)
    have Z64 : n0 ≤ h64.size := Nat.le_trans Z62 E64.1
    have K64 : Keep h0 h64 [] := K62.ext E64
    have f65 : Arv Z h64 b53 k53 .byte (3 : Int32) [(.int (nar .byte c0)), (.int (nar .byte c1)), (.int (nar .byte c2))] (.int (0 : Int32)) := V62.ext E64
    have R66 : ∀ t, Steps p.tables e below (T64.setTop (mkF m 159 #[.val (.int p1), .val (.int p2), .val (.int p3), .val (.int p4), .val (.int p5), .val (.int p6), .val (.int (3 : Int32)), .val (.int c0), .val (.int c1), .val (.int c2), .val (.ref b53), .val (.int (0 : Int32)), .unset] [(.ref b64), (.ref b64)])) t → Steps p.tables e below (s₁.setTop (entryFrame m #[(.int p1), (.int p2), (.int p3), (.int p4), (.int p5), (.int p6)] maxLocals)) t := by
      intro t k
      refine R64 t ?_
      show Steps p.tables e below (T64.setTop (mkF m 158 #[.val (.int p1), .val (.int p2), .val (.int p3), .val (.int p4), .val (.int p5), .val (.int p6), .val (.int (3 : Int32)), .val (.int c0), .val (.int c1), .val (.int c2), .val (.ref b53), .val (.int (0 : Int32)), .unset] [(.ref b64)])) _
      refine XS.dup X64.here hx rfl (hb hby at_158) rfl rfl ?_
      exact k
    obtain ⟨_, _, ⟨T67, L67, k67, n67⟩, -, X67, ⟨Lc67, hQ67, l67, y67, z67⟩, st67⟩ := X64.specialBack hx (y := (⟨"com/example/columnwire/columnwire/codec/GzipStream", "<init>", "()V"⟩ : MethodName)) rfl hown (mvT hZ (hw _ (List.mem_of_getElem? (i := 4) rfl))) (mvT hZ (hw _ (List.mem_of_getElem? (i := 5) rfl))) (mvT hZ (hw _ (List.mem_of_getElem? (i := 6) rfl))) (by decide) (backOf (W := 1) (rm1 l Z a0 hw [] b64  h64 n0 Z64 ) hZ (hw _ (List.mem_of_getElem? (i := 6) rfl)) (hw _ (List.mem_of_getElem? (i := 3) rfl)) (by decide) (by decide)) (g := (mkF m 159 #[.val (.int p1), .val (.int p2), .val (.int p3), .val (.int p4), .val (.int p5), .val (.int p6), .val (.int (3 : Int32)), .val (.int c0), .val (.int c1), .val (.int c2), .val (.ref b53), .val (.int (0 : Int32)), .unset] [(.ref b64), (.ref b64)])) rfl (by rw [hml]; rfl) (Steps.refl _) (a := b64) (argsL := []) (rest := [(.ref b64)]) (lenOf own_pd0 rfl) rfl (by show 2 * 0 + _ ≤ _; exact Nat.le_of_eq rfl) (hb hby at_159) (fun _ _ => ⟨rfl, e64, (by decide : 2 + 0 ≤ _), (by decide : 3 + 0 ≤ _)⟩)
    dsimp only [Pt.U, Pt.locs, Pt.cells, Pt.slots] at X67 l67 y67 z67 st67 hQ67
    subst l67 y67 z67
    obtain ⟨rfl, Nq67, eq67⟩ := hQ67
    have N67 := Fr.app N62 Nq67
    have R67 : ∀ t, Steps p.tables e below (T67.setTop (mkF m 162 #[.val (.int p1), .val (.int p2), .val (.int p3), .val (.int p4), .val (.int p5), .val (.int p6), .val (.int (3 : Int32)), .val (.int c0), .val (.int c1), .val (.int c2), .val (.ref b53), .val (.int (0 : Int32)), .unset] [(.ref b64)])) t → Steps p.tables e below (s₁.setTop (entryFrame m #[(.int p1), (.int p2), (.int p3), (.int p4), (.int p5), (.int p6)] maxLocals)) t := fun t k => R66 t (st67.trans k)
    have R68 : ∀ t, Steps p.tables e below (T67.setTop (mkF m 170 #[.val (.int p1), .val (.int p2), .val (.int p3), .val (.int p4), .val (.int p5), .val (.int p6), .val (.int (3 : Int32)), .val (.int c0), .val (.int c1), .val (.int c2), .val (.ref b53), .val (.int (0 : Int32)), .val (.ref b64)] [(.int p6), (.ref b53), (.ref b64)])) t → Steps p.tables e below (s₁.setTop (entryFrame m #[(.int p1), (.int p2), (.int p3), (.int p4), (.int p5), (.int p6)] maxLocals)) t := by
      intro t k
      refine R67 t ?_
      show Steps p.tables e below (T67.setTop (mkF m 162 #[.val (.int p1), .val (.int p2), .val (.int p3), .val (.int p4), .val (.int p5), .val (.int p6), .val (.int (3 : Int32)), .val (.int c0), .val (.int c1), .val (.int c2), .val (.ref b53), .val (.int (0 : Int32)), .unset] [(.ref b64)])) _
      refine XS.astore X67.here hx rfl (hb hby at_162) rfl rfl (l' := #[.val (.int p1), .val (.int p2), .val (.int p3), .val (.int p4), .val (.int p5), .val (.int p6), .val (.int (3 : Int32)), .val (.int c0), .val (.int c1), .val (.int c2), .val (.ref b53), .val (.int (0 : Int32)), .val (.ref b64)]) rfl ?_
      show Steps p.tables e below (T67.setTop (mkF m 164 #[.val (.int p1), .val (.int p2), .val (.int p3), .val (.int p4), .val (.int p5), .val (.int p6), .val (.int (3 : Int32)), .val (.int c0), .val (.int c1), .val (.int c2), .val (.ref b53), .val (.int (0 : Int32)), .val (.ref b64)] [])) _
      refine XS.aload X67.here hx rfl (hb hby at_164) rfl rfl ?_
      show Steps p.tables e below (T67.setTop (mkF m 166 #[.val (.int p1), .val (.int p2), .val (.int p3), .val (.int p4), .val (.int p5), .val (.int p6), .val (.int (3 : Int32)), .val (.int c0), .val (.int c1), .val (.int c2), .val (.ref b53), .val (.int (0 : Int32)), .val (.ref b64)] [(.ref b64)])) _
      refine XS.aload X67.here hx rfl (hb hby at_166) rfl rfl ?_
      show Steps p.tables e below (T67.setTop (mkF m 168 #[.val (.int p1), .val (.int p2), .val (.int p3), .val (.int p4), .val (.int p5), .val (.int p6), .val (.int (3 : Int32)), .val (.int c0), .val (.int c1), .val (.int c2), .val (.ref b53), .val (.int (0 : Int32)), .val (.ref b64)] [(.ref b53), (.ref b64)])) _
      refine XS.iload X67.here hx rfl (hb hby at_168) rfl ?_
      exact k
    obtain ⟨cq69, kq69, q69a, q69b, q69c⟩ := isOf hZ eq67 A64
    obtain ⟨_, _, ⟨T69, L69, k69, n69⟩, -, X69, ⟨Lc69, hQ69, l69, y69, z69⟩, st69⟩ := X67.virtualBack hx (y := (⟨"com/example/columnwire/columnwire/codec/GzipStream", "beginsAsBlock", "([BI)Z"⟩ : MethodName)) (z := (⟨"com/example/columnwire/columnwire/codec/GzipStream", "beginsAsBlock", "([BI)Z"⟩ : MethodName)) hown (mvT hZ (hw _ (List.mem_of_getElem? (i := 10) rfl))) (mvT hZ (hw _ (List.mem_of_getElem? (i := 11) rfl))) (notFace_of_selects (args := #[]) (mvT hZ (hw _ (List.mem_of_getElem? (i := 13) rfl)))) (mvT hZ (hw _ (List.mem_of_getElem? (i := 13) rfl))) (mvT hZ (hw _ (List.mem_of_getElem? (i := 12) rfl))) (by decide) (backOf (W := 0) (rm3s l Z a0 hw [] b64 b53 p6 k53 (3 : Int32) [(.int (nar .byte c0)), (.int (nar .byte c1)), (.int (nar .byte c2))] (.int (0 : Int32)) h64 n0 Z64 f65 (by decide)) hZ (hw _ (List.mem_of_getElem? (i := 14) rfl)) (hw _ (List.mem_of_getElem? (i := 3) rfl)) (by decide) (by decide)) q69a q69c (g := (mkF m 170 #[.val (.int p1), .val (.int p2), .val (.int p3), .val (.int p4), .val (.int p5), .val (.int p6), .val (.int (3 : Int32)), .val (.int c0), .val (.int c1), .val (.int c2), .val (.ref b53), .val (.int (0 : Int32)), .val (.ref b64)] [(.int p6), (.ref b53), (.ref b64)])) rfl (by rw [hml]; rfl) (Steps.refl _) (argsL := [(.ref b53), (.int p6)]) (rest := []) (lenOf own_pd1 rfl) rfl (by show 2 * 0 + _ ≤ _; exact Nat.le_of_eq rfl) (hb hby at_170) (fun _ _ => ⟨rfl, eq67, (by decide : 2 + 0 ≤ _), (by decide : 3 + 0 ≤ _)⟩)
    dsimp only [Pt.U, Pt.locs, Pt.cells, Pt.slots] at X69 l69 y69 z69 st69 hQ69
    subst l69 y69 z69
    obtain ⟨rfl, Nq69, eq69⟩ := hQ69
    have N69 := Fr.app N67 Nq69
    have R69 : ∀ t, Steps p.tables e below (T69.setTop (mkF m 173 #[.val (.int p1), .val (.int p2), .val (.int p3), .val (.int p4), .val (.int p5), .val (.int p6), .val (.int (3 : Int32)), .val (.int c0), .val (.int c1), .val (.int c2), .val (.ref b53), .val (.int (0 : Int32)), .val (.ref b64)] [(.int (0 : Int32))])) t → Steps p.tables e below (s₁.setTop (entryFrame m #[(.int p1), (.int p2), (.int p3), (.int p4), (.int p5), (.int p6)] maxLocals)) t := fun t k => R68 t (st69.trans k)
    have R70 : ∀ t, Steps p.tables e below (T69.setTop (mkF m 183 #[.val (.int p1), .val (.int p2), .val (.int p3), .val (.int p4), .val (.int p5), .val (.int p6), .val (.int (3 : Int32)), .val (.int c0), .val (.int c1), .val (.int c2), .val (.ref b53), .val (.int (0 : Int32)), .val (.ref b64)] [(.int (1 : Int32))])) t → Steps p.tables e below (s₁.setTop (entryFrame m #[(.int p1), (.int p2), (.int p3), (.int p4), (.int p5), (.int p6)] maxLocals)) t := by
      intro t k
      refine R69 t ?_
      show Steps p.tables e below (T69.setTop (mkF m 173 #[.val (.int p1), .val (.int p2), .val (.int p3), .val (.int p4), .val (.int p5), .val (.int p6), .val (.int (3 : Int32)), .val (.int c0), .val (.int c1), .val (.int c2), .val (.ref b53), .val (.int (0 : Int32)), .val (.ref b64)] [(.int (0 : Int32))])) _
      refine XS.iload X69.here hx rfl (hb hby at_173) rfl ?_
      show Steps p.tables e below (T69.setTop (mkF m 175 #[.val (.int p1), .val (.int p2), .val (.int p3), .val (.int p4), .val (.int p5), .val (.int p6), .val (.int (3 : Int32)), .val (.int c0), .val (.int c1), .val (.int c2), .val (.ref b53), .val (.int (0 : Int32)), .val (.ref b64)] [(.int (0 : Int32)), (.int (0 : Int32))])) _
      refine XS.icmpNo X69.here hx rfl (hb hby at_175) rfl (teq (by decide : ((0 : Int32) = (0 : Int32)))).2 ?_
      show Steps p.tables e below (T69.setTop (mkF m 178 #[.val (.int p1), .val (.int p2), .val (.int p3), .val (.int p4), .val (.int p5), .val (.int p6), .val (.int (3 : Int32)), .val (.int c0), .val (.int c1), .val (.int c2), .val (.ref b53), .val (.int (0 : Int32)), .val (.ref b64)] [])) _
      refine XS.iconst X69.here hx rfl (hb hby at_178) ?_
      show Steps p.tables e below (T69.setTop (mkF m 179 #[.val (.int p1), .val (.int p2), .val (.int p3), .val (.int p4), .val (.int p5), .val (.int p6), .val (.int (3 : Int32)), .val (.int c0), .val (.int c1), .val (.int c2), .val (.ref b53), .val (.int (0 : Int32)), .val (.ref b64)] [(.int (1 : Int32))])) _
      refine XS.goto X69.here hx rfl (pc0 := 179) (pc' := 183) rfl (hb hby at_179) (by decide) (by decide) ?_
      exact k
    obtain ⟨fs, hr, hrun, hended, hW, hsame⟩ := X69.leave (v := some (.int (1 : Int32))) (fun h => by rw [Bd.returns] at h; cases h)
    refine ⟨_, _, R70 _ ?_, hrun, hended, _, _, rfl, ?_, ⟨_, rfl⟩, hW, hsame.mono (by decide) (by decide)⟩
    · exact retN X69 hx (t := .boolean) Bd.returns (by simp) (hb hby at_183) hr
    · show Q_rm0 Z p1 p2 p3 p4 p5 p6 h0 n0 _ T69.heap _
      rw [eq69]
      exact ⟨rfl, N69⟩
  · obtain ⟨hn0, hn1, hn2, hn3, hn4, hcap, hm1, hm2, hm3, hm4⟩ := hl
    have R71 : ∀ t, Steps p.tables e below (s₁.setTop (mkF m 56 #[.val (.int p1), .val (.int p2), .val (.int p3), .val (.int p4), .val (.int p5), .val (.int p6), .val (.int nn), .val (.int c0), .val (.int c1), .val (.int c2), .unset, .unset, .unset] [(.int nn)])) t → Steps p.tables e below (s₁.setTop (entryFrame m #[(.int p1), (.int p2), (.int p3), (.int p4), (.int p5), (.int p6)] maxLocals)) t := by
      intro t k
      refine R8 t ?_
      show Steps p.tables e below (s₁.setTop (mkF m 54 #[.val (.int p1), .val (.int p2), .val (.int p3), .val (.int p4), .val (.int p5), .val (.int p6), .val (.int nn), .val (.int c0), .val (.int c1), .val (.int c2), .unset, .unset, .unset] [])) _
      refine XS.iload X0.here hx rfl (hb hby at_54) rfl ?_
      exact k
    obtain ⟨T72, h72, k72, X72, e72, E72, A72, st72⟩ := newP X0 hx hZ (hw _ (List.mem_of_getElem? (i := 0) rfl)) e0 (g := (mkF m 56 #[.val (.int p1), .val (.int p2), .val (.int p3), .val (.int p4), .val (.int p5), .val (.int p6), .val (.int nn), .val (.int c0), .val (.int c1), .val (.int c2), .unset, .unset, .unset] [(.int nn)])) rfl (hb hby at_56) rfl hn0 (cap := 31) hcap (by decide) (by decide) (by decide)
    obtain ⟨b72, g72⟩ : ∃ z, z = h0.size := ⟨_, rfl⟩
    rw [← g72] at A72 st72
    have R72 : ∀ t, Steps p.tables e below (T72.setTop (mkF m 58 #[.val (.int p1), .val (.int p2), .val (.int p3), .val (.int p4), .val (.int p5), .val (.int p6), .val (.int nn), .val (.int c0), .val (.int c1), .val (.int c2), .unset, .unset, .unset] [(.ref b72)])) t → Steps p.tables e below (s₁.setTop (entryFrame m #[(.int p1), (.int p2), (.int p3), (.int p4), (.int p5), (.int p6)] maxLocals)) t := fun t k => R71 t (st72 t k)
    have g_b72 : n0 ≤ b72 := Nat.le_trans Z0 (Nat.le_of_eq g72.symm)
    have sz_b72 : h0.size ≤ b72 := Nat.le_trans (Keep.refl h0 []).1 (Nat.le_of_eq g72.symm)
    have Z72 : n0 ≤ h72.size := Nat.le_trans Z0 E72.1
    have K72 : Keep h0 h72 [] := (Keep.refl h0 []).ext E72
    have V72 : Arv Z h72 b72 k72 .byte nn [(.int (0 : Int32)), (.int (0 : Int32)), (.int (0 : Int32)), (.int (0 : Int32)), (.int (0 : Int32)), (.int (0 : Int32)), (.int (0 : Int32)), (.int (0 : Int32)), (.int (0 : Int32)), (.int (0 : Int32)), (.int (0 : Int32)), (.int (0 : Int32)), (.int (0 : Int32)), (.int (0 : Int32)), (.int (0 : Int32)), (.int (0 : Int32)), (.int (0 : Int32)), (.int (0 : Int32)), (.int (0 : Int32)), (.int (0 : Int32)), (.int (0 : Int32)), (.int (0 : Int32)), (.int (0 : Int32)), (.int (0 : Int32)), (.int (0 : Int32)), (.int (0 : Int32)), (.int (0 : Int32)), (.int (0 : Int32)), (.int (0 : Int32)), (.int (0 : Int32)), (.int (0 : Int32)), (.int (0 : Int32))] (.int (0 : Int32)) := (Arv.new A72 hn0).pad (pad_rep [] (.int (0 : Int32)) 32)
    have R73 : ∀ t, Steps p.tables e below (T72.setTop (mkF m 70 #[.val (.int p1), .val (.int p2), .val (.int p3), .val (.int p4), .val (.int p5), .val (.int p6), .val (.int nn), .val (.int c0), .val (.int c1), .val (.int c2), .val (.ref b72), .unset, .unset] [(.int c0), (.int (0 : Int32)), (.ref b72)])) t → Steps p.tables e below (s₁.setTop (entryFrame m #[(.int p1), (.int p2), (.int p3), (.int p4), (.int p5), (.int p6)] maxLocals)) t := by
      intro t k
      refine R72 t ?_
      show Steps p.tables e below (T72.setTop (mkF m 58 #[.val (.int p1), .val (.int p2), .val (.int p3), .val (.int p4), .val (.int p5), .val (.int p6), .val (.int nn), .val (.int c0), .val (.int c1), .val (.int c2), .unset, .unset, .unset] [(.ref b72)])) _
      refine XS.astore X72.here hx rfl (hb hby at_58) rfl rfl (l' := #[.val (.int p1), .val (.int p2), .val (.int p3), .val (.int p4), .val (.int p5), .val (.int p6), .val (.int nn), .val (.int c0), .val (.int c1), .val (.int c2), .val (.ref b72), .unset, .unset]) rfl ?_
      show Steps p.tables e below (T72.setTop (mkF m 60 #[.val (.int p1), .val (.int p2), .val (.int p3), .val (.int p4), .val (.int p5), .val (.int p6), .val (.int nn), .val (.int c0), .val (.int c1), .val (.int c2), .val (.ref b72), .unset, .unset] [])) _
      refine XS.iload X72.here hx rfl (hb hby at_60) rfl ?_
      show Steps p.tables e below (T72.setTop (mkF m 62 #[.val (.int p1), .val (.int p2), .val (.int p3), .val (.int p4), .val (.int p5), .val (.int p6), .val (.int nn), .val (.int c0), .val (.int c1), .val (.int c2), .val (.ref b72), .unset, .unset] [(.int nn)])) _
      refine XS.ifNo X72.here hx rfl (hb hby at_62) rfl ((if0 _ _).trans (tlt hn1).2.2.2) ?_
      show Steps p.tables e below (T72.setTop (mkF m 65 #[.val (.int p1), .val (.int p2), .val (.int p3), .val (.int p4), .val (.int p5), .val (.int p6), .val (.int nn), .val (.int c0), .val (.int c1), .val (.int c2), .val (.ref b72), .unset, .unset] [])) _
      refine XS.aload X72.here hx rfl (hb hby at_65) rfl rfl ?_
      show Steps p.tables e below (T72.setTop (mkF m 67 #[.val (.int p1), .val (.int p2), .val (.int p3), .val (.int p4), .val (.int p5), .val (.int p6), .val (.int nn), .val (.int c0), .val (.int c1), .val (.int c2), .val (.ref b72), .unset, .unset] [(.ref b72)])) _
      refine XS.iconst X72.here hx rfl (hb hby at_67) ?_
      show Steps p.tables e below (T72.setTop (mkF m 68 #[.val (.int p1), .val (.int p2), .val (.int p3), .val (.int p4), .val (.int p5), .val (.int p6), .val (.int nn), .val (.int c0), .val (.int c1), .val (.int c2), .val (.ref b72), .unset, .unset] [(.int (0 : Int32)), (.ref b72)])) _
      refine XS.iload X72.here hx rfl (hb hby at_68) rfl ?_
      exact k
    obtain ⟨cl74, Ar74, q74, S74, N74', H74, G74⟩ := id V72
    have hin74 : ¬ ((0 : Int32) < 0 ∨ cl74.slots.size ≤ ((0 : Int32)).toNatClampNeg) := inb_of S74 ⟨by decide, hn1⟩
    obtain ⟨T75, h75, X75, e75, W75, st75⟩ := stB X72 hx hZ e72 Ar74 (j := (0 : Int32)) hin74 (g := (mkF m 70 #[.val (.int p1), .val (.int p2), .val (.int p3), .val (.int p4), .val (.int p5), .val (.int p6), .val (.int nn), .val (.int c0), .val (.int c1), .val (.int c2), .val (.ref b72), .unset, .unset] [(.int c0), (.int (0 : Int32)), (.ref b72)])) rfl rfl (hb hby at_70)
    have R75 : ∀ t, Steps p.tables e below (T75.setTop (mkF m 71 #[.val (.int p1), .val (.int p2), .val (.int p3), .val (.int p4), .val (.int p5), .val (.int p6), .val (.int nn), .val (.int c0), .val (.int c1), .val (.int c2), .val (.ref b72), .unset, .unset] [])) t → Steps p.tables e below (s₁.setTop (entryFrame m #[(.int p1), (.int p2), (.int p3), (.int p4), (.int p5), (.int p6)] maxLocals)) t := fun t k => R73 t (st75 t k)
    have Z75 : n0 ≤ h75.size := Nat.le_trans Z72 (Keep.of_wr W75).1
    have K75 : Keep h0 h75 [] := K72.wr W75 (Or.inr sz_b72)
    have N75 := Fr.snoc X75 N0 g_b72
    have V75 : Arv Z h75 b72 k72 .byte nn [(.int (nar .byte c0)), (.int (0 : Int32)), (.int (0 : Int32)), (.int (0 : Int32)), (.int (0 : Int32)), (.int (0 : Int32)), (.int (0 : Int32)), (.int (0 : Int32)), (.int (0 : Int32)), (.int (0 : Int32)), (.int (0 : Int32)), (.int (0 : Int32)), (.int (0 : Int32)), (.int (0 : Int32)), (.int (0 : Int32)), (.int (0 : Int32)), (.int (0 : Int32)), (.int (0 : Int32)), (.int (0 : Int32)), (.int (0 : Int32)), (.int (0 : Int32)), (.int (0 : Int32)), (.int (0 : Int32)), (.int (0 : Int32)), (.int (0 : Int32)), (.int (0 : Int32)), (.int (0 : Int32)), (.int (0 : Int32)), (.int (0 : Int32)), (.int (0 : Int32)), (.int (0 : Int32)), (.int (0 : Int32))] (.int (0 : Int32)) := Arv.set Ar74 q74 S74 N74' H74 G74 (fits_nar_byte _) W75 0 rfl (Nat.le_of_ble_eq_true rfl)
    have R76 : ∀ t, Steps p.tables e below (T75.setTop (mkF m 82 #[.val (.int p1), .val (.int p2), .val (.int p3), .val (.int p4), .val (.int p5), .val (.int p6), .val (.int nn), .val (.int c0), .val (.int c1), .val (.int c2), .val (.ref b72), .unset, .unset] [(.int c1), (.int (1 : Int32)), (.ref b72)])) t → Steps p.tables e below (s₁.setTop (entryFrame m #[(.int p1), (.int p2), (.int p3), (.int p4), (.int p5), (.int p6)] maxLocals)) t := by
      intro t k
      refine R75 t ?_
      show Steps p.tables e below (T75.setTop (mkF m 71 #[.val (.int p1), .val (.int p2), .val (.int p3), .val (.int p4), .val (.int p5), .val (.int p6), .val (.int nn), .val (.int c0), .val (.int c1), .val (.int c2), .val (.ref b72), .unset, .unset] [])) _
      refine XS.iload X75.here hx rfl (hb hby at_71) rfl ?_
      show Steps p.tables e below (T75.setTop (mkF m 73 #[.val (.int p1), .val (.int p2), .val (.int p3), .val (.int p4), .val (.int p5), .val (.int p6), .val (.int nn), .val (.int c0), .val (.int c1), .val (.int c2), .val (.ref b72), .unset, .unset] [(.int nn)])) _
      refine XS.iconst X75.here hx rfl (hb hby at_73) ?_
      show Steps p.tables e below (T75.setTop (mkF m 74 #[.val (.int p1), .val (.int p2), .val (.int p3), .val (.int p4), .val (.int p5), .val (.int p6), .val (.int nn), .val (.int c0), .val (.int c1), .val (.int c2), .val (.ref b72), .unset, .unset] [(.int (1 : Int32)), (.int nn)])) _
      refine XS.icmpNo X75.here hx rfl (hb hby at_74) rfl (tlt hn2).2.2.2 ?_
      show Steps p.tables e below (T75.setTop (mkF m 77 #[.val (.int p1), .val (.int p2), .val (.int p3), .val (.int p4), .val (.int p5), .val (.int p6), .val (.int nn), .val (.int c0), .val (.int c1), .val (.int c2), .val (.ref b72), .unset, .unset] [])) _
      refine XS.aload X75.here hx rfl (hb hby at_77) rfl rfl ?_
      show Steps p.tables e below (T75.setTop (mkF m 79 #[.val (.int p1), .val (.int p2), .val (.int p3), .val (.int p4), .val (.int p5), .val (.int p6), .val (.int nn), .val (.int c0), .val (.int c1), .val (.int c2), .val (.ref b72), .unset, .unset] [(.ref b72)])) _
      refine XS.iconst X75.here hx rfl (hb hby at_79) ?_
      show Steps p.tables e below (T75.setTop (mkF m 80 #[.val (.int p1), .val (.int p2), .val (.int p3), .val (.int p4), .val (.int p5), .val (.int p6), .val (.int nn), .val (.int c0), .val (.int c1), .val (.int c2), .val (.ref b72), .unset, .unset] [(.int (1 : Int32)), (.ref b72)])) _
      refine XS.iload X75.here hx rfl (hb hby at_80) rfl ?_
      exact k
    obtain ⟨cl77, Ar77, q77, S77, N77', H77, G77⟩ := id V75
    have hin77 : ¬ ((1 : Int32) < 0 ∨ cl77.slots.size ≤ ((1 : Int32)).toNatClampNeg) := inb_of S77 ⟨by decide, hn2⟩
    obtain ⟨T78, h78, X78, e78, W78, st78⟩ := stB X75 hx hZ e75 Ar77 (j := (1 : Int32)) hin77 (g := (mkF m 82 #[.val (.int p1), .val (.int p2), .val (.int p3), .val (.int p4), .val (.int p5), .val (.int p6), .val (.int nn), .val (.int c0), .val (.int c1), .val (.int c2), .val (.ref b72), .unset, .unset] [(.int c1), (.int (1 : Int32)), (.ref b72)])) rfl rfl (hb hby at_82)
    have R78 : ∀ t, Steps p.tables e below (T78.setTop (mkF m 83 #[.val (.int p1), .val (.int p2), .val (.int p3), .val (.int p4), .val (.int p5), .val (.int p6), .val (.int nn), .val (.int c0), .val (.int c1), .val (.int c2), .val (.ref b72), .unset, .unset] [])) t → Steps p.tables e below (s₁.setTop (entryFrame m #[(.int p1), (.int p2), (.int p3), (.int p4), (.int p5), (.int p6)] maxLocals)) t := fun t k => R76 t (st78 t k)
    have Z78 : n0 ≤ h78.size := Nat.le_trans Z75 (Keep.of_wr W78).1
    have K78 : Keep h0 h78 [] := K75.wr W78 (Or.inr sz_b72)
    have N78 := Fr.snoc X78 N75 g_b72
    have V78 : Arv Z h78 b72 k72 .byte nn [(.int (nar .byte c0)), (.int (nar .byte c1)), (.int (0 : Int32)), (.int (0 : Int32)), (.int (0 : Int32)), (.int (0 : Int32)), (.int (0 : Int32)), (.int (0 : Int32)), (.int (0 : Int32)), (.int (0 : Int32)), (.int (0 : Int32)), (.int (0 : Int32)), (.int (0 : Int32)), (.int (0 : Int32)), (.int (0 : Int32)), (.int (0 : Int32)), (.int (0 : Int32)), (.int (0 : Int32)), (.int (0 : Int32)), (.int (0 : Int32)), (.int (0 : Int32)), (.int (0 : Int32)), (.int (0 : Int32)), (.int (0 : Int32)), (.int (0 : Int32)), (.int (0 : Int32)), (.int (0 : Int32)), (.int (0 : Int32)), (.int (0 : Int32)), (.int (0 : Int32)), (.int (0 : Int32)), (.int (0 : Int32))] (.int (0 : Int32)) := Arv.set Ar77 q77 S77 N77' H77 G77 (fits_nar_byte _) W78 1 rfl (Nat.le_of_ble_eq_true rfl)
    have R79 : ∀ t, Steps p.tables e below (T78.setTop (mkF m 94 #[.val (.int p1), .val (.int p2), .val (.int p3), .val (.int p4), .val (.int p5), .val (.int p6), .val (.int nn), .val (.int c0), .val (.int c1), .val (.int c2), .val (.ref b72), .unset, .unset] [(.int c2), (.int (2 : Int32)), (.ref b72)])) t → Steps p.tables e below (s₁.setTop (entryFrame m #[(.int p1), (.int p2), (.int p3), (.int p4), (.int p5), (.int p6)] maxLocals)) t := by
      intro t k
      refine R78 t ?_
      show Steps p.tables e below (T78.setTop (mkF m 83 #[.val (.int p1), .val (.int p2), .val (.int p3), .val (.int p4), .val (.int p5), .val (.int p6), .val (.int nn), .val (.int c0), .val (.int c1), .val (.int c2), .val (.ref b72), .unset, .unset] [])) _
      refine XS.iload X78.here hx rfl (hb hby at_83) rfl ?_
      show Steps p.tables e below (T78.setTop (mkF m 85 #[.val (.int p1), .val (.int p2), .val (.int p3), .val (.int p4), .val (.int p5), .val (.int p6), .val (.int nn), .val (.int c0), .val (.int c1), .val (.int c2), .val (.ref b72), .unset, .unset] [(.int nn)])) _
      refine XS.iconst X78.here hx rfl (hb hby at_85) ?_
      show Steps p.tables e below (T78.setTop (mkF m 86 #[.val (.int p1), .val (.int p2), .val (.int p3), .val (.int p4), .val (.int p5), .val (.int p6), .val (.int nn), .val (.int c0), .val (.int c1), .val (.int c2), .val (.ref b72), .unset, .unset] [(.int (2 : Int32)), (.int nn)])) _
      refine XS.icmpNo X78.here hx rfl (hb hby at_86) rfl (tlt hn3).2.2.2 ?_
      show Steps p.tables e below (T78.setTop (mkF m 89 #[.val (.int p1), .val (.int p2), .val (.int p3), .val (.int p4), .val (.int p5), .val (.int p6), .val (.int nn), .val (.int c0), .val (.int c1), .val (.int c2), .val (.ref b72), .unset, .unset] [])) _
      refine XS.aload X78.here hx rfl (hb hby at_89) rfl rfl ?_
      show Steps p.tables e below (T78.setTop (mkF m 91 #[.val (.int p1), .val (.int p2), .val (.int p3), .val (.int p4), .val (.int p5), .val (.int p6), .val (.int nn), .val (.int c0), .val (.int c1), .val (.int c2), .val (.ref b72), .unset, .unset] [(.ref b72)])) _
      refine XS.iconst X78.here hx rfl (hb hby at_91) ?_
      show Steps p.tables e below (T78.setTop (mkF m 92 #[.val (.int p1), .val (.int p2), .val (.int p3), .val (.int p4), .val (.int p5), .val (.int p6), .val (.int nn), .val (.int c0), .val (.int c1), .val (.int c2), .val (.ref b72), .unset, .unset] [(.int (2 : Int32)), (.ref b72)])) _
      refine XS.iload X78.here hx rfl (hb hby at_92) rfl ?_
      exact k
    obtain ⟨cl80, Ar80, q80, S80, N80', H80, G80⟩ := id V78
    have hin80 : ¬ ((2 : Int32) < 0 ∨ cl80.slots.size ≤ ((2 : Int32)).toNatClampNeg) := inb_of S80 ⟨by decide, hn3⟩
    obtain ⟨T81, h81, X81, e81, W81, st81⟩ := stB X78 hx hZ e78 Ar80 (j := (2 : Int32)) hin80 (g := (mkF m 94 #[.val (.int p1), .val (.int p2), .val (.int p3), .val (.int p4), .val (.int p5), .val (.int p6), .val (.int nn), .val (.int c0), .val (.int c1), .val (.int c2), .val (.ref b72), .unset, .unset] [(.int c2), (.int (2 : Int32)), (.ref b72)])) rfl rfl (hb hby at_94)
    have R81 : ∀ t, Steps p.tables e below (T81.setTop (mkF m 95 #[.val (.int p1), .val (.int p2), .val (.int p3), .val (.int p4), .val (.int p5), .val (.int p6), .val (.int nn), .val (.int c0), .val (.int c1), .val (.int c2), .val (.ref b72), .unset, .unset] [])) t → Steps p.tables e below (s₁.setTop (entryFrame m #[(.int p1), (.int p2), (.int p3), (.int p4), (.int p5), (.int p6)] maxLocals)) t := fun t k => R79 t (st81 t k)
    have Z81 : n0 ≤ h81.size := Nat.le_trans Z78 (Keep.of_wr W81).1
    have K81 : Keep h0 h81 [] := K78.wr W81 (Or.inr sz_b72)
    have N81 := Fr.snoc X81 N78 g_b72
    have V81 : Arv Z h81 b72 k72 .byte nn [(.int (nar .byte c0)), (.int (nar .byte c1)), (.int (nar .byte c2)), (.int (0 : Int32)), (.int (0 : Int32)), (.int (0 : Int32)), (.int (0 : Int32)), (.int (0 : Int32)), (.int (0 : Int32)), (.int (0 : Int32)), (.int (0 : Int32)), (.int (0 : Int32)), (.int (0 : Int32)), (.int (0 : Int32)), (.int (0 : Int32)), (.int (0 : Int32)), (.int (0 : Int32)), (.int (0 : Int32)), (.int (0 : Int32)), (.int (0 : Int32)), (.int (0 : Int32)), (.int (0 : Int32)), (.int (0 : Int32)), (.int (0 : Int32)), (.int (0 : Int32)), (.int (0 : Int32)), (.int (0 : Int32)), (.int (0 : Int32)), (.int (0 : Int32)), (.int (0 : Int32)), (.int (0 : Int32)), (.int (0 : Int32))] (.int (0 : Int32)) := Arv.set Ar80 q80 S80 N80' H80 G80 (fits_nar_byte _) W81 2 rfl (Nat.le_of_ble_eq_true rfl)
    have R82 : ∀ t, Steps p.tables e below (T81.setTop (mkF m 111 #[.val (.int p1), .val (.int p2), .val (.int p3), .val (.int p4), .val (.int p5), .val (.int p6), .val (.int nn), .val (.int c0), .val (.int c1), .val (.int c2), .val (.ref b72), .unset, .unset] [(.int ((p2 ^^^ p3).toInt8.toInt32)), (.int (nn - (1 : Int32))), (.ref b72)])) t → Steps p.tables e below (s₁.setTop (entryFrame m #[(.int p1), (.int p2), (.int p3), (.int p4), (.int p5), (.int p6)] maxLocals)) t := by
      intro t k
      refine R81 t ?_
      show Steps p.tables e below (T81.setTop (mkF m 95 #[.val (.int p1), .val (.int p2), .val (.int p3), .val (.int p4), .val (.int p5), .val (.int p6), .val (.int nn), .val (.int c0), .val (.int c1), .val (.int c2), .val (.ref b72), .unset, .unset] [])) _
      refine XS.iload X81.here hx rfl (hb hby at_95) rfl ?_
      show Steps p.tables e below (T81.setTop (mkF m 97 #[.val (.int p1), .val (.int p2), .val (.int p3), .val (.int p4), .val (.int p5), .val (.int p6), .val (.int nn), .val (.int c0), .val (.int c1), .val (.int c2), .val (.ref b72), .unset, .unset] [(.int nn)])) _
      refine XS.iconst X81.here hx rfl (hb hby at_97) ?_
      show Steps p.tables e below (T81.setTop (mkF m 98 #[.val (.int p1), .val (.int p2), .val (.int p3), .val (.int p4), .val (.int p5), .val (.int p6), .val (.int nn), .val (.int c0), .val (.int c1), .val (.int c2), .val (.ref b72), .unset, .unset] [(.int (3 : Int32)), (.int nn)])) _
      refine XS.icmpNo X81.here hx rfl (hb hby at_98) rfl (tlt hn4).2.2.2 ?_
      show Steps p.tables e below (T81.setTop (mkF m 101 #[.val (.int p1), .val (.int p2), .val (.int p3), .val (.int p4), .val (.int p5), .val (.int p6), .val (.int nn), .val (.int c0), .val (.int c1), .val (.int c2), .val (.ref b72), .unset, .unset] [])) _
      refine XS.aload X81.here hx rfl (hb hby at_101) rfl rfl ?_
      show Steps p.tables e below (T81.setTop (mkF m 103 #[.val (.int p1), .val (.int p2), .val (.int p3), .val (.int p4), .val (.int p5), .val (.int p6), .val (.int nn), .val (.int c0), .val (.int c1), .val (.int c2), .val (.ref b72), .unset, .unset] [(.ref b72)])) _
      refine XS.iload X81.here hx rfl (hb hby at_103) rfl ?_
      show Steps p.tables e below (T81.setTop (mkF m 105 #[.val (.int p1), .val (.int p2), .val (.int p3), .val (.int p4), .val (.int p5), .val (.int p6), .val (.int nn), .val (.int c0), .val (.int c1), .val (.int c2), .val (.ref b72), .unset, .unset] [(.int nn), (.ref b72)])) _
      refine XS.iconst X81.here hx rfl (hb hby at_105) ?_
      show Steps p.tables e below (T81.setTop (mkF m 106 #[.val (.int p1), .val (.int p2), .val (.int p3), .val (.int p4), .val (.int p5), .val (.int p6), .val (.int nn), .val (.int c0), .val (.int c1), .val (.int c2), .val (.ref b72), .unset, .unset] [(.int (1 : Int32)), (.int nn), (.ref b72)])) _
      refine XS.isub X81.here hx rfl (hb hby at_106) rfl ?_
      show Steps p.tables e below (T81.setTop (mkF m 107 #[.val (.int p1), .val (.int p2), .val (.int p3), .val (.int p4), .val (.int p5), .val (.int p6), .val (.int nn), .val (.int c0), .val (.int c1), .val (.int c2), .val (.ref b72), .unset, .unset] [(.int (nn - (1 : Int32))), (.ref b72)])) _
      refine XS.iloadN X81.here hx rfl (hb hby at_107) rfl ?_
      show Steps p.tables e below (T81.setTop (mkF m 108 #[.val (.int p1), .val (.int p2), .val (.int p3), .val (.int p4), .val (.int p5), .val (.int p6), .val (.int nn), .val (.int c0), .val (.int c1), .val (.int c2), .val (.ref b72), .unset, .unset] [(.int p2), (.int (nn - (1 : Int32))), (.ref b72)])) _
      refine XS.iloadN X81.here hx rfl (hb hby at_108) rfl ?_
      show Steps p.tables e below (T81.setTop (mkF m 109 #[.val (.int p1), .val (.int p2), .val (.int p3), .val (.int p4), .val (.int p5), .val (.int p6), .val (.int nn), .val (.int c0), .val (.int c1), .val (.int c2), .val (.ref b72), .unset, .unset] [(.int p3), (.int p2), (.int (nn - (1 : Int32))), (.ref b72)])) _
      refine XS.ixor X81.here hx rfl (hb hby at_109) rfl ?_
      show Steps p.tables e below (T81.setTop (mkF m 110 #[.val (.int p1), .val (.int p2), .val (.int p3), .val (.int p4), .val (.int p5), .val (.int p6), .val (.int nn), .val (.int c0), .val (.int c1), .val (.int c2), .val (.ref b72), .unset, .unset] [(.int (p2 ^^^ p3)), (.int (nn - (1 : Int32))), (.ref b72)])) _
      refine XS.i2b X81.here hx rfl (hb hby at_110) rfl ?_
      exact k
    obtain ⟨cl83, Ar83, q83, S83, N83', H83, G83⟩ := id V81
    have hin83 : ¬ ((nn - (1 : Int32)) < 0 ∨ cl83.slots.size ≤ ((nn - (1 : Int32))).toNatClampNeg) := inb_of S83 ⟨hm1, hm2⟩
    obtain ⟨T84, h84, X84, e84, W84, st84⟩ := stB X81 hx hZ e81 Ar83 (j := (nn - (1 : Int32))) hin83 (g := (mkF m 111 #[.val (.int p1), .val (.int p2), .val (.int p3), .val (.int p4), .val (.int p5), .val (.int p6), .val (.int nn), .val (.int c0), .val (.int c1), .val (.int c2), .val (.ref b72), .unset, .unset] [(.int ((p2 ^^^ p3).toInt8.toInt32)), (.int (nn - (1 : Int32))), (.ref b72)])) rfl rfl (hb hby at_111)
    have R84 : ∀ t, Steps p.tables e below (T84.setTop (mkF m 112 #[.val (.int p1), .val (.int p2), .val (.int p3), .val (.int p4), .val (.int p5), .val (.int p6), .val (.int nn), .val (.int c0), .val (.int c1), .val (.int c2), .val (.ref b72), .unset, .unset] [])) t → Steps p.tables e below (s₁.setTop (entryFrame m #[(.int p1), (.int p2), (.int p3), (.int p4), (.int p5), (.int p6)] maxLocals)) t := fun t k => R82 t (st84 t k)
    have Z84 : n0 ≤ h84.size := Nat.le_trans Z81 (Keep.of_wr W84).1
    have K84 : Keep h0 h84 [] := K81.wr W84 (Or.inr sz_b72)
    have N84 := Fr.snoc X84 N81 g_b72
    have V84 : Arv Z h84 b72 k72 .byte nn ([(.int (nar .byte c0)), (.int (nar .byte c1)), (.int (nar .byte c2)), (.int (0 : Int32)), (.int (0 : Int32)), (.int (0 : Int32)), (.int (0 : Int32)), (.int (0 : Int32)), (.int (0 : Int32)), (.int (0 : Int32)), (.int (0 : Int32)), (.int (0 : Int32)), (.int (0 : Int32)), (.int (0 : Int32)), (.int (0 : Int32)), (.int (0 : Int32)), (.int (0 : Int32)), (.int (0 : Int32)), (.int (0 : Int32)), (.int (0 : Int32)), (.int (0 : Int32)), (.int (0 : Int32)), (.int (0 : Int32)), (.int (0 : Int32)), (.int (0 : Int32)), (.int (0 : Int32)), (.int (0 : Int32)), (.int (0 : Int32)), (.int (0 : Int32)), (.int (0 : Int32)), (.int (0 : Int32)), (.int (0 : Int32))].set (nn - (1 : Int32)).toNatClampNeg (.int (nar .byte ((p2 ^^^ p3).toInt8.toInt32)))) (.int (0 : Int32)) := Arv.set Ar83 q83 S83 N83' H83 G83 (fits_nar_byte _) W84 (nn - (1 : Int32)).toNatClampNeg rfl hm3
    have R85 : ∀ t, Steps p.tables e below (T84.setTop (mkF m 115 #[.val (.int p1), .val (.int p2), .val (.int p3), .val (.int p4), .val (.int p5), .val (.int p6), .val (.int nn), .val (.int c0), .val (.int c1), .val (.int c2), .val (.ref b72), .val (.int (0 : Int32)), .unset] [])) t → Steps p.tables e below (s₁.setTop (entryFrame m #[(.int p1), (.int p2), (.int p3), (.int p4), (.int p5), (.int p6)] maxLocals)) t := by
      intro t k
      refine R84 t ?_
      show Steps p.tables e below (T84.setTop (mkF m 112 #[.val (.int p1), .val (.int p2), .val (.int p3), .val (.int p4), .val (.int p5), .val (.int p6), .val (.int nn), .val (.int c0), .val (.int c1), .val (.int c2), .val (.ref b72), .unset, .unset] [])) _
      refine XS.iconst X84.here hx rfl (hb hby at_112) ?_
      show Steps p.tables e below (T84.setTop (mkF m 113 #[.val (.int p1), .val (.int p2), .val (.int p3), .val (.int p4), .val (.int p5), .val (.int p6), .val (.int nn), .val (.int c0), .val (.int c1), .val (.int c2), .val (.ref b72), .unset, .unset] [(.int (0 : Int32))])) _
      refine XS.istore X84.here hx rfl (hb hby at_113) rfl (l' := #[.val (.int p1), .val (.int p2), .val (.int p3), .val (.int p4), .val (.int p5), .val (.int p6), .val (.int nn), .val (.int c0), .val (.int c1), .val (.int c2), .val (.ref b72), .val (.int (0 : Int32)), .unset]) rfl ?_
      exact k
    obtain ⟨ex, hex, R86⟩ : ∃ (ex : Int32), ex = (if nn < (10 : Int32) then (0 : Int32) else (if (c0 &&& (255 : Int32)) = (31 : Int32) then (if (c1 &&& (255 : Int32)) = (139 : Int32) then (if c2 = (8 : Int32) then (1 : Int32) else (0 : Int32)) else (0 : Int32)) else (0 : Int32))) ∧ (∀ t, Steps p.tables e below (T84.setTop (mkF m 155 #[.val (.int p1), .val (.int p2), .val (.int p3), .val (.int p4), .val (.int p5), .val (.int p6), .val (.int nn), .val (.int c0), .val (.int c1), .val (.int c2), .val (.ref b72), .val (.int ex), .unset] [])) t → Steps p.tables e below (s₁.setTop (entryFrame m #[(.int p1), (.int p2), (.int p3), (.int p4), (.int p5), (.int p6)] maxLocals)) t) := by
      by_cases hc119_0 : nn < (10 : Int32)
      · refine ⟨(0 : Int32), (by simp only [if_pos hc119_0]), ?_⟩
        intro t k
        refine R85 t ?_
        show Steps p.tables e below (T84.setTop (mkF m 115 #[.val (.int p1), .val (.int p2), .val (.int p3), .val (.int p4), .val (.int p5), .val (.int p6), .val (.int nn), .val (.int c0), .val (.int c1), .val (.int c2), .val (.ref b72), .val (.int (0 : Int32)), .unset] [])) _
        refine XS.iload X84.here hx rfl (hb hby at_115) rfl ?_
        show Steps p.tables e below (T84.setTop (mkF m 117 #[.val (.int p1), .val (.int p2), .val (.int p3), .val (.int p4), .val (.int p5), .val (.int p6), .val (.int nn), .val (.int c0), .val (.int c1), .val (.int c2), .val (.ref b72), .val (.int (0 : Int32)), .unset] [(.int nn)])) _
        refine XS.bipush X84.here hx rfl (hb hby at_117) ?_
        show Steps p.tables e below (T84.setTop (mkF m 119 #[.val (.int p1), .val (.int p2), .val (.int p3), .val (.int p4), .val (.int p5), .val (.int p6), .val (.int nn), .val (.int c0), .val (.int c1), .val (.int c2), .val (.ref b72), .val (.int (0 : Int32)), .unset] [(.int (10 : Int32)), (.int nn)])) _
        refine XS.icmpYes X84.here hx rfl (pc0 := 119) (pc' := 155) rfl (hb hby at_119) rfl (tlt hc119_0).1 (by decide) (by decide) ?_
        exact k
      · by_cases hc130_1 : (c0 &&& (255 : Int32)) = (31 : Int32)
        · by_cases hc142_2 : (c1 &&& (255 : Int32)) = (139 : Int32)
          · by_cases hc149_3 : c2 = (8 : Int32)
            · refine ⟨(1 : Int32), (by simp only [if_neg hc119_0, if_pos hc130_1, if_pos hc142_2, if_pos hc149_3]), ?_⟩
              intro t k
              refine R85 t ?_
              show Steps p.tables e below (T84.setTop (mkF m 115 #[.val (.int p1), .val (.int p2), .val (.int p3), .val (.int p4), .val (.int p5), .val (.int p6), .val (.int nn), .val (.int c0), .val (.int c1), .val (.int c2), .val (.ref b72), .val (.int (0 : Int32)), .unset] [])) _
              refine XS.iload X84.here hx rfl (hb hby at_115) rfl ?_
              show Steps p.tables e below (T84.setTop (mkF m 117 #[.val (.int p1), .val (.int p2), .val (.int p3), .val (.int p4), .val (.int p5), .val (.int p6), .val (.int nn), .val (.int c0), .val (.int c1), .val (.int c2), .val (.ref b72), .val (.int (0 : Int32)), .unset] [(.int nn)])) _
              refine XS.bipush X84.here hx rfl (hb hby at_117) ?_
              show Steps p.tables e below (T84.setTop (mkF m 119 #[.val (.int p1), .val (.int p2), .val (.int p3), .val (.int p4), .val (.int p5), .val (.int p6), .val (.int nn), .val (.int c0), .val (.int c1), .val (.int c2), .val (.ref b72), .val (.int (0 : Int32)), .unset] [(.int (10 : Int32)), (.int nn)])) _
              refine XS.icmpNo X84.here hx rfl (hb hby at_119) rfl (flt hc119_0).1 ?_
              show Steps p.tables e below (T84.setTop (mkF m 122 #[.val (.int p1), .val (.int p2), .val (.int p3), .val (.int p4), .val (.int p5), .val (.int p6), .val (.int nn), .val (.int c0), .val (.int c1), .val (.int c2), .val (.ref b72), .val (.int (0 : Int32)), .unset] [])) _
              refine XS.iload X84.here hx rfl (hb hby at_122) rfl ?_
              show Steps p.tables e below (T84.setTop (mkF m 124 #[.val (.int p1), .val (.int p2), .val (.int p3), .val (.int p4), .val (.int p5), .val (.int p6), .val (.int nn), .val (.int c0), .val (.int c1), .val (.int c2), .val (.ref b72), .val (.int (0 : Int32)), .unset] [(.int c0)])) _
              refine XS.sipush X84.here hx rfl (hb hby at_124) ?_
              show Steps p.tables e below (T84.setTop (mkF m 127 #[.val (.int p1), .val (.int p2), .val (.int p3), .val (.int p4), .val (.int p5), .val (.int p6), .val (.int nn), .val (.int c0), .val (.int c1), .val (.int c2), .val (.ref b72), .val (.int (0 : Int32)), .unset] [(.int (255 : Int32)), (.int c0)])) _
              refine XS.iand X84.here hx rfl (hb hby at_127) rfl ?_
              show Steps p.tables e below (T84.setTop (mkF m 128 #[.val (.int p1), .val (.int p2), .val (.int p3), .val (.int p4), .val (.int p5), .val (.int p6), .val (.int nn), .val (.int c0), .val (.int c1), .val (.int c2), .val (.ref b72), .val (.int (0 : Int32)), .unset] [(.int (c0 &&& (255 : Int32)))])) _
              refine XS.bipush X84.here hx rfl (hb hby at_128) ?_
              show Steps p.tables e below (T84.setTop (mkF m 130 #[.val (.int p1), .val (.int p2), .val (.int p3), .val (.int p4), .val (.int p5), .val (.int p6), .val (.int nn), .val (.int c0), .val (.int c1), .val (.int c2), .val (.ref b72), .val (.int (0 : Int32)), .unset] [(.int (31 : Int32)), (.int (c0 &&& (255 : Int32)))])) _
              refine XS.icmpNo X84.here hx rfl (hb hby at_130) rfl (teq hc130_1).2 ?_
              show Steps p.tables e below (T84.setTop (mkF m 133 #[.val (.int p1), .val (.int p2), .val (.int p3), .val (.int p4), .val (.int p5), .val (.int p6), .val (.int nn), .val (.int c0), .val (.int c1), .val (.int c2), .val (.ref b72), .val (.int (0 : Int32)), .unset] [])) _
              refine XS.iload X84.here hx rfl (hb hby at_133) rfl ?_
              show Steps p.tables e below (T84.setTop (mkF m 135 #[.val (.int p1), .val (.int p2), .val (.int p3), .val (.int p4), .val (.int p5), .val (.int p6), .val (.int nn), .val (.int c0), .val (.int c1), .val (.int c2), .val (.ref b72), .val (.int (0 : Int32)), .unset] [(.int c1)])) _
              refine XS.sipush X84.here hx rfl (hb hby at_135) ?_
              show Steps p.tables e below (T84.setTop (mkF m 138 #[.val (.int p1), .val (.int p2), .val (.int p3), .val (.int p4), .val (.int p5), .val (.int p6), .val (.int nn), .val (.int c0), .val (.int c1), .val (.int c2), .val (.ref b72), .val (.int (0 : Int32)), .unset] [(.int (255 : Int32)), (.int c1)])) _
              refine XS.iand X84.here hx rfl (hb hby at_138) rfl ?_
              show Steps p.tables e below (T84.setTop (mkF m 139 #[.val (.int p1), .val (.int p2), .val (.int p3), .val (.int p4), .val (.int p5), .val (.int p6), .val (.int nn), .val (.int c0), .val (.int c1), .val (.int c2), .val (.ref b72), .val (.int (0 : Int32)), .unset] [(.int (c1 &&& (255 : Int32)))])) _
              refine XS.sipush X84.here hx rfl (hb hby at_139) ?_
              show Steps p.tables e below (T84.setTop (mkF m 142 #[.val (.int p1), .val (.int p2), .val (.int p3), .val (.int p4), .val (.int p5), .val (.int p6), .val (.int nn), .val (.int c0), .val (.int c1), .val (.int c2), .val (.ref b72), .val (.int (0 : Int32)), .unset] [(.int (139 : Int32)), (.int (c1 &&& (255 : Int32)))])) _
              refine XS.icmpNo X84.here hx rfl (hb hby at_142) rfl (teq hc142_2).2 ?_
              show Steps p.tables e below (T84.setTop (mkF m 145 #[.val (.int p1), .val (.int p2), .val (.int p3), .val (.int p4), .val (.int p5), .val (.int p6), .val (.int nn), .val (.int c0), .val (.int c1), .val (.int c2), .val (.ref b72), .val (.int (0 : Int32)), .unset] [])) _
              refine XS.iload X84.here hx rfl (hb hby at_145) rfl ?_
              show Steps p.tables e below (T84.setTop (mkF m 147 #[.val (.int p1), .val (.int p2), .val (.int p3), .val (.int p4), .val (.int p5), .val (.int p6), .val (.int nn), .val (.int c0), .val (.int c1), .val (.int c2), .val (.ref b72), .val (.int (0 : Int32)), .unset] [(.int c2)])) _
              refine XS.bipush X84.here hx rfl (hb hby at_147) ?_
              show Steps p.tables e below (T84.setTop (mkF m 149 #[.val (.int p1), .val (.int p2), .val (.int p3), .val (.int p4), .val (.int p5), .val (.int p6), .val (.int nn), .val (.int c0), .val (.int c1), .val (.int c2), .val (.ref b72), .val (.int (0 : Int32)), .unset] [(.int (8 : Int32)), (.int c2)])) _
              refine XS.icmpNo X84.here hx rfl (hb hby at_149) rfl (teq hc149_3).2 ?_
              show Steps p.tables e below (T84.setTop (mkF m 152 #[.val (.int p1), .val (.int p2), .val (.int p3), .val (.int p4), .val (.int p5), .val (.int p6), .val (.int nn), .val (.int c0), .val (.int c1), .val (.int c2), .val (.ref b72), .val (.int (0 : Int32)), .unset] [])) _
              refine XS.iconst X84.here hx rfl (hb hby at_152) ?_
              show Steps p.tables e below (T84.setTop (mkF m 153 #[.val (.int p1), .val (.int p2), .val (.int p3), .val (.int p4), .val (.int p5), .val (.int p6), .val (.int nn), .val (.int c0), .val (.int c1), .val (.int c2), .val (.ref b72), .val (.int (0 : Int32)), .unset] [(.int (1 : Int32))])) _
              refine XS.istore X84.here hx rfl (hb hby at_153) rfl (l' := #[.val (.int p1), .val (.int p2), .val (.int p3), .val (.int p4), .val (.int p5), .val (.int p6), .val (.int nn), .val (.int c0), .val (.int c1), .val (.int c2), .val (.ref b72), .val (.int (1 : Int32)), .unset]) rfl ?_
              exact k
            · refine ⟨(0 : Int32), (by simp only [if_neg hc119_0, if_pos hc130_1, if_pos hc142_2, if_neg hc149_3]), ?_⟩
              intro t k
              refine R85 t ?_
              show Steps p.tables e below (T84.setTop (mkF m 115 #[.val (.int p1), .val (.int p2), .val (.int p3), .val (.int p4), .val (.int p5), .val (.int p6), .val (.int nn), .val (.int c0), .val (.int c1), .val (.int c2), .val (.ref b72), .val (.int (0 : Int32)), .unset] [])) _
              refine XS.iload X84.here hx rfl (hb hby at_115) rfl ?_
              show Steps p.tables e below (T84.setTop (mkF m 117 #[.val (.int p1), .val (.int p2), .val (.int p3), .val (.int p4), .val (.int p5), .val (.int p6), .val (.int nn), .val (.int c0), .val (.int c1), .val (.int c2), .val (.ref b72), .val (.int (0 : Int32)), .unset] [(.int nn)])) _
              refine XS.bipush X84.here hx rfl (hb hby at_117) ?_
              show Steps p.tables e below (T84.setTop (mkF m 119 #[.val (.int p1), .val (.int p2), .val (.int p3), .val (.int p4), .val (.int p5), .val (.int p6), .val (.int nn), .val (.int c0), .val (.int c1), .val (.int c2), .val (.ref b72), .val (.int (0 : Int32)), .unset] [(.int (10 : Int32)), (.int nn)])) _
              refine XS.icmpNo X84.here hx rfl (hb hby at_119) rfl (flt hc119_0).1 ?_
              show Steps p.tables e below (T84.setTop (mkF m 122 #[.val (.int p1), .val (.int p2), .val (.int p3), .val (.int p4), .val (.int p5), .val (.int p6), .val (.int nn), .val (.int c0), .val (.int c1), .val (.int c2), .val (.ref b72), .val (.int (0 : Int32)), .unset] [])) _
              refine XS.iload X84.here hx rfl (hb hby at_122) rfl ?_
              show Steps p.tables e below (T84.setTop (mkF m 124 #[.val (.int p1), .val (.int p2), .val (.int p3), .val (.int p4), .val (.int p5), .val (.int p6), .val (.int nn), .val (.int c0), .val (.int c1), .val (.int c2), .val (.ref b72), .val (.int (0 : Int32)), .unset] [(.int c0)])) _
              refine XS.sipush X84.here hx rfl (hb hby at_124) ?_
              show Steps p.tables e below (T84.setTop (mkF m 127 #[.val (.int p1), .val (.int p2), .val (.int p3), .val (.int p4), .val (.int p5), .val (.int p6), .val (.int nn), .val (.int c0), .val (.int c1), .val (.int c2), .val (.ref b72), .val (.int (0 : Int32)), .unset] [(.int (255 : Int32)), (.int c0)])) _
              refine XS.iand X84.here hx rfl (hb hby at_127) rfl ?_
              show Steps p.tables e below (T84.setTop (mkF m 128 #[.val (.int p1), .val (.int p2), .val (.int p3), .val (.int p4), .val (.int p5), .val (.int p6), .val (.int nn), .val (.int c0), .val (.int c1), .val (.int c2), .val (.ref b72), .val (.int (0 : Int32)), .unset] [(.int (c0 &&& (255 : Int32)))])) _
              refine XS.bipush X84.here hx rfl (hb hby at_128) ?_
              show Steps p.tables e below (T84.setTop (mkF m 130 #[.val (.int p1), .val (.int p2), .val (.int p3), .val (.int p4), .val (.int p5), .val (.int p6), .val (.int nn), .val (.int c0), .val (.int c1), .val (.int c2), .val (.ref b72), .val (.int (0 : Int32)), .unset] [(.int (31 : Int32)), (.int (c0 &&& (255 : Int32)))])) _
              refine XS.icmpNo X84.here hx rfl (hb hby at_130) rfl (teq hc130_1).2 ?_
              show Steps p.tables e below (T84.setTop (mkF m 133 #[.val (.int p1), .val (.int p2), .val (.int p3), .val (.int p4), .val (.int p5), .val (.int p6), .val (.int nn), .val (.int c0), .val (.int c1), .val (.int c2), .val (.ref b72), .val (.int (0 : Int32)), .unset] [])) _
              refine XS.iload X84.here hx rfl (hb hby at_133) rfl ?_
              show Steps p.tables e below (T84.setTop (mkF m 135 #[.val (.int p1), .val (.int p2), .val (.int p3), .val (.int p4), .val (.int p5), .val (.int p6), .val (.int nn), .val (.int c0), .val (.int c1), .val (.int c2), .val (.ref b72), .val (.int (0 : Int32)), .unset] [(.int c1)])) _
              refine XS.sipush X84.here hx rfl (hb hby at_135) ?_
              show Steps p.tables e below (T84.setTop (mkF m 138 #[.val (.int p1), .val (.int p2), .val (.int p3), .val (.int p4), .val (.int p5), .val (.int p6), .val (.int nn), .val (.int c0), .val (.int c1), .val (.int c2), .val (.ref b72), .val (.int (0 : Int32)), .unset] [(.int (255 : Int32)), (.int c1)])) _
              refine XS.iand X84.here hx rfl (hb hby at_138) rfl ?_
              show Steps p.tables e below (T84.setTop (mkF m 139 #[.val (.int p1), .val (.int p2), .val (.int p3), .val (.int p4), .val (.int p5), .val (.int p6), .val (.int nn), .val (.int c0), .val (.int c1), .val (.int c2), .val (.ref b72), .val (.int (0 : Int32)), .unset] [(.int (c1 &&& (255 : Int32)))])) _
              refine XS.sipush X84.here hx rfl (hb hby at_139) ?_
              show Steps p.tables e below (T84.setTop (mkF m 142 #[.val (.int p1), .val (.int p2), .val (.int p3), .val (.int p4), .val (.int p5), .val (.int p6), .val (.int nn), .val (.int c0), .val (.int c1), .val (.int c2), .val (.ref b72), .val (.int (0 : Int32)), .unset] [(.int (139 : Int32)), (.int (c1 &&& (255 : Int32)))])) _
              refine XS.icmpNo X84.here hx rfl (hb hby at_142) rfl (teq hc142_2).2 ?_
              show Steps p.tables e below (T84.setTop (mkF m 145 #[.val (.int p1), .val (.int p2), .val (.int p3), .val (.int p4), .val (.int p5), .val (.int p6), .val (.int nn), .val (.int c0), .val (.int c1), .val (.int c2), .val (.ref b72), .val (.int (0 : Int32)), .unset] [])) _
              refine XS.iload X84.here hx rfl (hb hby at_145) rfl ?_
              show Steps p.tables e below (T84.setTop (mkF m 147 #[.val (.int p1), .val (.int p2), .val (.int p3), .val (.int p4), .val (.int p5), .val (.int p6), .val (.int nn), .val (.int c0), .val (.int c1), .val (.int c2), .val (.ref b72), .val (.int (0 : Int32)), .unset] [(.int c2)])) _
              refine XS.bipush X84.here hx rfl (hb hby at_147) ?_
              show Steps p.tables e below (T84.setTop (mkF m 149 #[.val (.int p1), .val (.int p2), .val (.int p3), .val (.int p4), .val (.int p5), .val (.int p6), .val (.int nn), .val (.int c0), .val (.int c1), .val (.int c2), .val (.ref b72), .val (.int (0 : Int32)), .unset] [(.int (8 : Int32)), (.int c2)])) _
              refine XS.icmpYes X84.here hx rfl (pc0 := 149) (pc' := 155) rfl (hb hby at_149) rfl (feq hc149_3).2 (by decide) (by decide) ?_
              exact k
          · refine ⟨(0 : Int32), (by simp only [if_neg hc119_0, if_pos hc130_1, if_neg hc142_2]), ?_⟩
            intro t k
            refine R85 t ?_
            show Steps p.tables e below (T84.setTop (mkF m 115 #[.val (.int p1), .val (.int p2), .val (.int p3), .val (.int p4), .val (.int p5), .val (.int p6), .val (.int nn), .val (.int c0), .val (.int c1), .val (.int c2), .val (.ref b72), .val (.int (0 : Int32)), .unset] [])) _
            refine XS.iload X84.here hx rfl (hb hby at_115) rfl ?_
            show Steps p.tables e below (T84.setTop (mkF m 117 #[.val (.int p1), .val (.int p2), .val (.int p3), .val (.int p4), .val (.int p5), .val (.int p6), .val (.int nn), .val (.int c0), .val (.int c1), .val (.int c2), .val (.ref b72), .val (.int (0 : Int32)), .unset] [(.int nn)])) _
            refine XS.bipush X84.here hx rfl (hb hby at_117) ?_
            show Steps p.tables e below (T84.setTop (mkF m 119 #[.val (.int p1), .val (.int p2), .val (.int p3), .val (.int p4), .val (.int p5), .val (.int p6), .val (.int nn), .val (.int c0), .val (.int c1), .val (.int c2), .val (.ref b72), .val (.int (0 : Int32)), .unset] [(.int (10 : Int32)), (.int nn)])) _
            refine XS.icmpNo X84.here hx rfl (hb hby at_119) rfl (flt hc119_0).1 ?_
            show Steps p.tables e below (T84.setTop (mkF m 122 #[.val (.int p1), .val (.int p2), .val (.int p3), .val (.int p4), .val (.int p5), .val (.int p6), .val (.int nn), .val (.int c0), .val (.int c1), .val (.int c2), .val (.ref b72), .val (.int (0 : Int32)), .unset] [])) _
            refine XS.iload X84.here hx rfl (hb hby at_122) rfl ?_
            show Steps p.tables e below (T84.setTop (mkF m 124 #[.val (.int p1), .val (.int p2), .val (.int p3), .val (.int p4), .val (.int p5), .val (.int p6), .val (.int nn), .val (.int c0), .val (.int c1), .val (.int c2), .val (.ref b72), .val (.int (0 : Int32)), .unset] [(.int c0)])) _
            refine XS.sipush X84.here hx rfl (hb hby at_124) ?_
            show Steps p.tables e below (T84.setTop (mkF m 127 #[.val (.int p1), .val (.int p2), .val (.int p3), .val (.int p4), .val (.int p5), .val (.int p6), .val (.int nn), .val (.int c0), .val (.int c1), .val (.int c2), .val (.ref b72), .val (.int (0 : Int32)), .unset] [(.int (255 : Int32)), (.int c0)])) _
            refine XS.iand X84.here hx rfl (hb hby at_127) rfl ?_
            show Steps p.tables e below (T84.setTop (mkF m 128 #[.val (.int p1), .val (.int p2), .val (.int p3), .val (.int p4), .val (.int p5), .val (.int p6), .val (.int nn), .val (.int c0), .val (.int c1), .val (.int c2), .val (.ref b72), .val (.int (0 : Int32)), .unset] [(.int (c0 &&& (255 : Int32)))])) _
            refine XS.bipush X84.here hx rfl (hb hby at_128) ?_
            show Steps p.tables e below (T84.setTop (mkF m 130 #[.val (.int p1), .val (.int p2), .val (.int p3), .val (.int p4), .val (.int p5), .val (.int p6), .val (.int nn), .val (.int c0), .val (.int c1), .val (.int c2), .val (.ref b72), .val (.int (0 : Int32)), .unset] [(.int (31 : Int32)), (.int (c0 &&& (255 : Int32)))])) _
            refine XS.icmpNo X84.here hx rfl (hb hby at_130) rfl (teq hc130_1).2 ?_
            show Steps p.tables e below (T84.setTop (mkF m 133 #[.val (.int p1), .val (.int p2), .val (.int p3), .val (.int p4), .val (.int p5), .val (.int p6), .val (.int nn), .val (.int c0), .val (.int c1), .val (.int c2), .val (.ref b72), .val (.int (0 : Int32)), .unset] [])) _
            refine XS.iload X84.here hx rfl (hb hby at_133) rfl ?_
            show Steps p.tables e below (T84.setTop (mkF m 135 #[.val (.int p1), .val (.int p2), .val (.int p3), .val (.int p4), .val (.int p5), .val (.int p6), .val (.int nn), .val (.int c0), .val (.int c1), .val (.int c2), .val (.ref b72), .val (.int (0 : Int32)), .unset] [(.int c1)])) _
            refine XS.sipush X84.here hx rfl (hb hby at_135) ?_
            show Steps p.tables e below (T84.setTop (mkF m 138 #[.val (.int p1), .val (.int p2), .val (.int p3), .val (.int p4), .val (.int p5), .val (.int p6), .val (.int nn), .val (.int c0), .val (.int c1), .val (.int c2), .val (.ref b72), .val (.int (0 : Int32)), .unset] [(.int (255 : Int32)), (.int c1)])) _
            refine XS.iand X84.here hx rfl (hb hby at_138) rfl ?_
            show Steps p.tables e below (T84.setTop (mkF m 139 #[.val (.int p1), .val (.int p2), .val (.int p3), .val (.int p4), .val (.int p5), .val (.int p6), .val (.int nn), .val (.int c0), .val (.int c1), .val (.int c2), .val (.ref b72), .val (.int (0 : Int32)), .unset] [(.int (c1 &&& (255 : Int32)))])) _
            refine XS.sipush X84.here hx rfl (hb hby at_139) ?_
            show Steps p.tables e below (T84.setTop (mkF m 142 #[.val (.int p1), .val (.int p2), .val (.int p3), .val (.int p4), .val (.int p5), .val (.int p6), .val (.int nn), .val (.int c0), .val (.int c1), .val (.int c2), .val (.ref b72), .val (.int (0 : Int32)), .unset] [(.int (139 : Int32)), (.int (c1 &&& (255 : Int32)))])) _
            refine XS.icmpYes X84.here hx rfl (pc0 := 142) (pc' := 155) rfl (hb hby at_142) rfl (feq hc142_2).2 (by decide) (by decide) ?_
            exact k
        · refine ⟨(0 : Int32), (by simp only [if_neg hc119_0, if_neg hc130_1]), ?_⟩
          intro t k
          refine R85 t ?_
          show Steps p.tables e below (T84.setTop (mkF m 115 #[.val (.int p1), .val (.int p2), .val (.int p3), .val (.int p4), .val (.int p5), .val (.int p6), .val (.int nn), .val (.int c0), .val (.int c1), .val (.int c2), .val (.ref b72), .val (.int (0 : Int32)), .unset] [])) _
          refine XS.iload X84.here hx rfl (hb hby at_115) rfl ?_
          show Steps p.tables e below (T84.setTop (mkF m 117 #[.val (.int p1), .val (.int p2), .val (.int p3), .val (.int p4), .val (.int p5), .val (.int p6), .val (.int nn), .val (.int c0), .val (.int c1), .val (.int c2), .val (.ref b72), .val (.int (0 : Int32)), .unset] [(.int nn)])) _
          refine XS.bipush X84.here hx rfl (hb hby at_117) ?_
          show Steps p.tables e below (T84.setTop (mkF m 119 #[.val (.int p1), .val (.int p2), .val (.int p3), .val (.int p4), .val (.int p5), .val (.int p6), .val (.int nn), .val (.int c0), .val (.int c1), .val (.int c2), .val (.ref b72), .val (.int (0 : Int32)), .unset] [(.int (10 : Int32)), (.int nn)])) _
          refine XS.icmpNo X84.here hx rfl (hb hby at_119) rfl (flt hc119_0).1 ?_
          show Steps p.tables e below (T84.setTop (mkF m 122 #[.val (.int p1), .val (.int p2), .val (.int p3), .val (.int p4), .val (.int p5), .val (.int p6), .val (.int nn), .val (.int c0), .val (.int c1), .val (.int c2), .val (.ref b72), .val (.int (0 : Int32)), .unset] [])) _
          refine XS.iload X84.here hx rfl (hb hby at_122) rfl ?_
          show Steps p.tables e below (T84.setTop (mkF m 124 #[.val (.int p1), .val (.int p2), .val (.int p3), .val (.int p4), .val (.int p5), .val (.int p6), .val (.int nn), .val (.int c0), .val (.int c1), .val (.int c2), .val (.ref b72), .val (.int (0 : Int32)), .unset] [(.int c0)])) _
          refine XS.sipush X84.here hx rfl (hb hby at_124) ?_
          show Steps p.tables e below (T84.setTop (mkF m 127 #[.val (.int p1), .val (.int p2), .val (.int p3), .val (.int p4), .val (.int p5), .val (.int p6), .val (.int nn), .val (.int c0), .val (.int c1), .val (.int c2), .val (.ref b72), .val (.int (0 : Int32)), .unset] [(.int (255 : Int32)), (.int c0)])) _
          refine XS.iand X84.here hx rfl (hb hby at_127) rfl ?_
          show Steps p.tables e below (T84.setTop (mkF m 128 #[.val (.int p1), .val (.int p2), .val (.int p3), .val (.int p4), .val (.int p5), .val (.int p6), .val (.int nn), .val (.int c0), .val (.int c1), .val (.int c2), .val (.ref b72), .val (.int (0 : Int32)), .unset] [(.int (c0 &&& (255 : Int32)))])) _
          refine XS.bipush X84.here hx rfl (hb hby at_128) ?_
          show Steps p.tables e below (T84.setTop (mkF m 130 #[.val (.int p1), .val (.int p2), .val (.int p3), .val (.int p4), .val (.int p5), .val (.int p6), .val (.int nn), .val (.int c0), .val (.int c1), .val (.int c2), .val (.ref b72), .val (.int (0 : Int32)), .unset] [(.int (31 : Int32)), (.int (c0 &&& (255 : Int32)))])) _
          refine XS.icmpYes X84.here hx rfl (pc0 := 130) (pc' := 155) rfl (hb hby at_130) rfl (feq hc130_1).2 (by decide) (by decide) ?_
          exact k
    obtain ⟨T87, h87, X87, e87, E87, A87, D87, -, st87⟩ := newO X84 hx hZ hown (hw _ (List.mem_of_getElem? (i := 1) rfl)) (hw _ (List.mem_of_getElem? (i := 2) rfl)) (hw _ (List.mem_of_getElem? (i := 3) rfl)) e84 (g := (mkF m 155 #[.val (.int p1), .val (.int p2), .val (.int p3), .val (.int p4), .val (.int p5), .val (.int p6), .val (.int nn), .val (.int c0), .val (.int c1), .val (.int c2), .val (.ref b72), .val (.int ex), .unset] [])) rfl (hb hby at_155) (by decide) (by decide)
    obtain ⟨b87, g87⟩ : ∃ z, z = h84.size := ⟨_, rfl⟩
    rw [← g87] at A87 D87 st87
    have R87 : ∀ t, Steps p.tables e below (T87.setTop (mkF m 158 #[.val (.int p1), .val (.int p2), .val (.int p3), .val (.int p4), .val (.int p5), .val (.int p6), .val (.int nn), .val (.int c0), .val (.int c1), .val (.int c2), .val (.ref b72), .val (.int ex), .unset] [(.ref b87)])) t → Steps p.tables e below (s₁.setTop (entryFrame m #[(.int p1), (.int p2), (.int p3), (.int p4), (.int p5), (.int p6)] maxLocals)) t := fun t k => R86 t (st87 t k)
    have ne_b72_b87 : b72 ≠ b87 := Nat.ne_of_lt (Nat.lt_of_lt_of_le V84.lt (Nat.le_of_eq g87.symm))
    have g_b87 : n0 ≤ b87 := Nat.le_trans Z84 (Nat.le_of_eq g87.symm)
    have sz_b87 : h0.size ≤ b87 := Nat.le_trans K84.1 (Nat.le_of_eq g87.symm)
    have Z87 : n0 ≤ h87.size := Nat.le_trans Z84 E87.1
    have K87 : Keep h0 h87 [] := K84.ext E87
    have f88 : Arv Z h87 b72 k72 .byte nn ([(.int (nar .byte c0)), (.int (nar .byte c1)), (.int (nar .byte c2)), (.int (0 : Int32)), (.int (0 : Int32)), (.int (0 : Int32)), (.int (0 : Int32)), (.int (0 : Int32)), (.int (0 : Int32)), (.int (0 : Int32)), (.int (0 : Int32)), (.int (0 : Int32)), (.int (0 : Int32)), (.int (0 : Int32)), (.int (0 : Int32)), (.int (0 : Int32)), (.int (0 : Int32)), (.int (0 : Int32)), (.int (0 : Int32)), (.int (0 : Int32)), (.int (0 : Int32)), (.int (0 : Int32)), (.int (0 : Int32)), (.int (0 : Int32)), (.int (0 : Int32)), (.int (0 : Int32)), (.int (0 : Int32)), (.int (0 : Int32)), (.int (0 : Int32)), (.int (0 : Int32)), (.int (0 : Int32)), (.int (0 : Int32))].set (nn - (1 : Int32)).toNatClampNeg (.int (nar .byte ((p2 ^^^ p3).toInt8.toInt32)))) (.int (0 : Int32)) := V84.ext E87
    have R89 : ∀ t, Steps p.tables e below (T87.setTop (mkF m 159 #[.val (.int p1), .val (.int p2), .val (.int p3), .val (.int p4), .val (.int p5), .val (.int p6), .val (.int nn), .val (.int c0), .val (.int c1), .val (.int c2), .val (.ref b72), .val (.int ex), .unset] [(.ref b87), (.ref b87)])) t → Steps p.tables e below (s₁.setTop (entryFrame m #[(.int p1), (.int p2), (.int p3), (.int p4), (.int p5), (.int p6)] maxLocals)) t := by
      intro t k
      refine R87 t ?_
      show Steps p.tables e below (T87.setTop (mkF m 158 #[.val (.int p1), .val (.int p2), .val (.int p3), .val (.int p4), .val (.int p5), .val (.int p6), .val (.int nn), .val (.int c0), .val (.int c1), .val (.int c2), .val (.ref b72), .val (.int ex), .unset] [(.ref b87)])) _
      refine XS.dup X87.here hx rfl (hb hby at_158) rfl rfl ?_
      exact k
    obtain ⟨_, _, ⟨T90, L90, k90, n90⟩, -, X90, ⟨Lc90, hQ90, l90, y90, z90⟩, st90⟩ := X87.specialBack hx (y := (⟨"com/example/columnwire/columnwire/codec/GzipStream", "<init>", "()V"⟩ : MethodName)) rfl hown (mvT hZ (hw _ (List.mem_of_getElem? (i := 4) rfl))) (mvT hZ (hw _ (List.mem_of_getElem? (i := 5) rfl))) (mvT hZ (hw _ (List.mem_of_getElem? (i := 6) rfl))) (by decide) (backOf (W := 1) (rm1 l Z a0 hw [] b87  h87 n0 Z87 ) hZ (hw _ (List.mem_of_getElem? (i := 6) rfl)) (hw _ (List.mem_of_getElem? (i := 3) rfl)) (by decide) (by decide)) (g := (mkF m 159 #[.val (.int p1), .val (.int p2), .val (.int p3), .val (.int p4), .val (.int p5), .val (.int p6), .val (.int nn), .val (.int c0), .val (.int c1), .val (.int c2), .val (.ref b72), .val (.int ex), .unset] [(.ref b87), (.ref b87)])) rfl (by rw [hml]; rfl) (Steps.refl _) (a := b87) (argsL := []) (rest := [(.ref b87)]) (lenOf own_pd0 rfl) rfl (by show 2 * 0 + _ ≤ _; exact Nat.le_of_eq rfl) (hb hby at_159) (fun _ _ => ⟨rfl, e87, (by decide : 2 + 0 ≤ _), (by decide : 31 + 0 ≤ _)⟩)
    dsimp only [Pt.U, Pt.locs, Pt.cells, Pt.slots] at X90 l90 y90 z90 st90 hQ90
    subst l90 y90 z90
    obtain ⟨rfl, Nq90, eq90⟩ := hQ90
    have N90 := Fr.app N84 Nq90
    have R90 : ∀ t, Steps p.tables e below (T90.setTop (mkF m 162 #[.val (.int p1), .val (.int p2), .val (.int p3), .val (.int p4), .val (.int p5), .val (.int p6), .val (.int nn), .val (.int c0), .val (.int c1), .val (.int c2), .val (.ref b72), .val (.int ex), .unset] [(.ref b87)])) t → Steps p.tables e below (s₁.setTop (entryFrame m #[(.int p1), (.int p2), (.int p3), (.int p4), (.int p5), (.int p6)] maxLocals)) t := fun t k => R89 t (st90.trans k)
    have R91 : ∀ t, Steps p.tables e below (T90.setTop (mkF m 170 #[.val (.int p1), .val (.int p2), .val (.int p3), .val (.int p4), .val (.int p5), .val (.int p6), .val (.int nn), .val (.int c0), .val (.int c1), .val (.int c2), .val (.ref b72), .val (.int ex), .val (.ref b87)] [(.int p6), (.ref b72), (.ref b87)])) t → Steps p.tables e below (s₁.setTop (entryFrame m #[(.int p1), (.int p2), (.int p3), (.int p4), (.int p5), (.int p6)] maxLocals)) t := by
      intro t k
      refine R90 t ?_
      show Steps p.tables e below (T90.setTop (mkF m 162 #[.val (.int p1), .val (.int p2), .val (.int p3), .val (.int p4), .val (.int p5), .val (.int p6), .val (.int nn), .val (.int c0), .val (.int c1), .val (.int c2), .val (.ref b72), .val (.int ex), .unset] [(.ref b87)])) _
      refine XS.astore X90.here hx rfl (hb hby at_162) rfl rfl (l' := #[.val (.int p1), .val (.int p2), .val (.int p3), .val (.int p4), .val (.int p5), .val (.int p6), .val (.int nn), .val (.int c0), .val (.int c1), .val (.int c2), .val (.ref b72), .val (.int ex), .val (.ref b87)]) rfl ?_
      show Steps p.tables e below (T90.setTop (mkF m 164 #[.val (.int p1), .val (.int p2), .val (.int p3), .val (.int p4), .val (.int p5), .val (.int p6), .val (.int nn), .val (.int c0), .val (.int c1), .val (.int c2), .val (.ref b72), .val (.int ex), .val (.ref b87)] [])) _
      refine XS.aload X90.here hx rfl (hb hby at_164) rfl rfl ?_
      show Steps p.tables e below (T90.setTop (mkF m 166 #[.val (.int p1), .val (.int p2), .val (.int p3), .val (.int p4), .val (.int p5), .val (.int p6), .val (.int nn), .val (.int c0), .val (.int c1), .val (.int c2), .val (.ref b72), .val (.int ex), .val (.ref b87)] [(.ref b87)])) _
      refine XS.aload X90.here hx rfl (hb hby at_166) rfl rfl ?_
      show Steps p.tables e below (T90.setTop (mkF m 168 #[.val (.int p1), .val (.int p2), .val (.int p3), .val (.int p4), .val (.int p5), .val (.int p6), .val (.int nn), .val (.int c0), .val (.int c1), .val (.int c2), .val (.ref b72), .val (.int ex), .val (.ref b87)] [(.ref b72), (.ref b87)])) _
      refine XS.iload X90.here hx rfl (hb hby at_168) rfl ?_
      exact k
    obtain ⟨cq92, kq92, q92a, q92b, q92c⟩ := isOf hZ eq90 A87
    obtain ⟨_, _, ⟨T92, L92, k92, n92⟩, -, X92, ⟨Lc92, hQ92, l92, y92, z92⟩, st92⟩ := X90.virtualBack hx (y := (⟨"com/example/columnwire/columnwire/codec/GzipStream", "beginsAsBlock", "([BI)Z"⟩ : MethodName)) (z := (⟨"com/example/columnwire/columnwire/codec/GzipStream", "beginsAsBlock", "([BI)Z"⟩ : MethodName)) hown (mvT hZ (hw _ (List.mem_of_getElem? (i := 10) rfl))) (mvT hZ (hw _ (List.mem_of_getElem? (i := 11) rfl))) (notFace_of_selects (args := #[]) (mvT hZ (hw _ (List.mem_of_getElem? (i := 13) rfl)))) (mvT hZ (hw _ (List.mem_of_getElem? (i := 13) rfl))) (mvT hZ (hw _ (List.mem_of_getElem? (i := 12) rfl))) (by decide) (backOf (W := 0) (rm3 l Z a0 hw [] b87 b72 p6 k72 nn ([(.int (nar .byte c0)), (.int (nar .byte c1)), (.int (nar .byte c2)), (.int (0 : Int32)), (.int (0 : Int32)), (.int (0 : Int32)), (.int (0 : Int32)), (.int (0 : Int32)), (.int (0 : Int32)), (.int (0 : Int32)), (.int (0 : Int32)), (.int (0 : Int32)), (.int (0 : Int32)), (.int (0 : Int32)), (.int (0 : Int32)), (.int (0 : Int32)), (.int (0 : Int32)), (.int (0 : Int32)), (.int (0 : Int32)), (.int (0 : Int32)), (.int (0 : Int32)), (.int (0 : Int32)), (.int (0 : Int32)), (.int (0 : Int32)), (.int (0 : Int32)), (.int (0 : Int32)), (.int (0 : Int32)), (.int (0 : Int32)), (.int (0 : Int32)), (.int (0 : Int32)), (.int (0 : Int32)), (.int (0 : Int32))].set (nn - (1 : Int32)).toNatClampNeg (.int (nar .byte ((p2 ^^^ p3).toInt8.toInt32)))) (.int (0 : Int32)) (nar .byte c0) (nar .byte c1) (nar .byte c2) h87 n0 Z87 f88 hn1 hn2 hn3 (own_set3 hm4).1 (own_set3 hm4).2.1 (own_set3 hm4).2.2) hZ (hw _ (List.mem_of_getElem? (i := 14) rfl)) (hw _ (List.mem_of_getElem? (i := 3) rfl)) (by decide) (by decide)) q92a q92c (g := (mkF m 170 #[.val (.int p1), .val (.int p2), .val (.int p3), .val (.int p4), .val (.int p5), .val (.int p6), .val (.int nn), .val (.int c0), .val (.int c1), .val (.int c2), .val (.ref b72), .val (.int ex), .val (.ref b87)] [(.int p6), (.ref b72), (.ref b87)])) rfl (by rw [hml]; rfl) (Steps.refl _) (argsL := [(.ref b72), (.int p6)]) (rest := []) (lenOf own_pd1 rfl) rfl (by show 2 * 0 + _ ≤ _; exact Nat.le_of_eq rfl) (hb hby at_170) (fun _ _ => ⟨rfl, eq90, (by decide : 2 + 0 ≤ _), (by decide : 31 + 0 ≤ _)⟩)
    dsimp only [Pt.U, Pt.locs, Pt.cells, Pt.slots] at X92 l92 y92 z92 st92 hQ92
    subst l92 y92 z92
    obtain ⟨rfl, Nq92, eq92⟩ := hQ92
    have N92 := Fr.app N90 Nq92
    have R92 : ∀ t, Steps p.tables e below (T92.setTop (mkF m 173 #[.val (.int p1), .val (.int p2), .val (.int p3), .val (.int p4), .val (.int p5), .val (.int p6), .val (.int nn), .val (.int c0), .val (.int c1), .val (.int c2), .val (.ref b72), .val (.int ex), .val (.ref b87)] [(.int (own_gz nn (nar .byte c0) (nar .byte c1) (nar .byte c2)))])) t → Steps p.tables e below (s₁.setTop (entryFrame m #[(.int p1), (.int p2), (.int p3), (.int p4), (.int p5), (.int p6)] maxLocals)) t := fun t k => R91 t (st92.trans k)
    have R93 : ∀ t, Steps p.tables e below (T92.setTop (mkF m 175 #[.val (.int p1), .val (.int p2), .val (.int p3), .val (.int p4), .val (.int p5), .val (.int p6), .val (.int nn), .val (.int c0), .val (.int c1), .val (.int c2), .val (.ref b72), .val (.int ex), .val (.ref b87)] [(.int ex), (.int (own_gz nn (nar .byte c0) (nar .byte c1) (nar .byte c2)))])) t → Steps p.tables e below (s₁.setTop (entryFrame m #[(.int p1), (.int p2), (.int p3), (.int p4), (.int p5), (.int p6)] maxLocals)) t := by
      intro t k
      refine R92 t ?_
      show Steps p.tables e below (T92.setTop (mkF m 173 #[.val (.int p1), .val (.int p2), .val (.int p3), .val (.int p4), .val (.int p5), .val (.int p6), .val (.int nn), .val (.int c0), .val (.int c1), .val (.int c2), .val (.ref b72), .val (.int ex), .val (.ref b87)] [(.int (own_gz nn (nar .byte c0) (nar .byte c1) (nar .byte c2)))])) _
      refine XS.iload X92.here hx rfl (hb hby at_173) rfl ?_
      exact k
    have heq : own_gz nn (nar .byte c0) (nar .byte c1) (nar .byte c2) = ex := own_eq nn hc0 hc1 hc2 hex
    have R94 : ∀ t, Steps p.tables e below (T92.setTop (mkF m 183 #[.val (.int p1), .val (.int p2), .val (.int p3), .val (.int p4), .val (.int p5), .val (.int p6), .val (.int nn), .val (.int c0), .val (.int c1), .val (.int c2), .val (.ref b72), .val (.int ex), .val (.ref b87)] [(.int (1 : Int32))])) t → Steps p.tables e below (s₁.setTop (entryFrame m #[(.int p1), (.int p2), (.int p3), (.int p4), (.int p5), (.int p6)] maxLocals)) t := by
      intro t k
      refine R93 t ?_
      show Steps p.tables e below (T92.setTop (mkF m 175 #[.val (.int p1), .val (.int p2), .val (.int p3), .val (.int p4), .val (.int p5), .val (.int p6), .val (.int nn), .val (.int c0), .val (.int c1), .val (.int c2), .val (.ref b72), .val (.int ex), .val (.ref b87)] [(.int ex), (.int (own_gz nn (nar .byte c0) (nar .byte c1) (nar .byte c2)))])) _
      refine XS.icmpNo X92.here hx rfl (hb hby at_175) rfl (teq heq).2 ?_
      show Steps p.tables e below (T92.setTop (mkF m 178 #[.val (.int p1), .val (.int p2), .val (.int p3), .val (.int p4), .val (.int p5), .val (.int p6), .val (.int nn), .val (.int c0), .val (.int c1), .val (.int c2), .val (.ref b72), .val (.int ex), .val (.ref b87)] [])) _
      refine XS.iconst X92.here hx rfl (hb hby at_178) ?_
      show Steps p.tables e below (T92.setTop (mkF m 179 #[.val (.int p1), .val (.int p2), .val (.int p3), .val (.int p4), .val (.int p5), .val (.int p6), .val (.int nn), .val (.int c0), .val (.int c1), .val (.int c2), .val (.ref b72), .val (.int ex), .val (.ref b87)] [(.int (1 : Int32))])) _
      refine XS.goto X92.here hx rfl (pc0 := 179) (pc' := 183) rfl (hb hby at_179) (by decide) (by decide) ?_
      exact k
    obtain ⟨fs, hr, hrun, hended, hW, hsame⟩ := X92.leave (v := some (.int (1 : Int32))) (fun h => by rw [Bd.returns] at h; cases h)
    refine ⟨_, _, R94 _ ?_, hrun, hended, _, _, rfl, ?_, ⟨_, rfl⟩, hW, hsame.mono (by decide) (by decide)⟩
    · exact retN X92 hx (t := .boolean) Bd.returns (by simp) (hb hby at_183) hr
    · show Q_rm0 Z p1 p2 p3 p4 p5 p6 h0 n0 _ T92.heap _
      rw [eq92]
      exact ⟨rfl, N92⟩
set_option maxRecDepth 65536 in
set_option maxHeartbeats 40000000 in
theorem comes_1 {Post : Tables → Env → Array Value → State → Outcome → State → Prop} (hpost : ∀ tb e args s v u, (limb_1_1.after args s (.returned v) u = true ∧ limb_1_2.after args s (.returned v) u = true ∧ True) → FrameEnd s (.returned v) u (Jvm.fieldLocs frame_1_writes args s ++ Jvm.arrayLocs frame_1_arrays args s ++ Jvm.staticLocs frame_1_statics s) 16 128 → Post tb e args s (.returned v) u) :
    ArmFor flags0 classFile x code maxLocals ret World_1 tables_1 room_1 Calls_1 rest_1 Pre_1 Post := by
  intro l hfl _ _ p e ha hc hk s m args below hf hA hF happ hP
  obtain ⟨hcalls, hrest, hpre⟩ := hP
  obtain ⟨-, -, -, hnamed, -, -, -, hat⟩ := (Spec.applies_iff hf).mp happ
  obtain ⟨hg, hn⟩ := and_e (Cond.before_iff.mp (show (Jvm.Cond.and given_1 narrow_1).before args s = true from hpre))
  obtain ⟨g1, g2⟩ := and_e hg
  obtain ⟨g3, g4⟩ := and_e g2
  obtain ⟨g5, g6⟩ := and_e g4
  obtain ⟨g7, g8⟩ := and_e g6
  obtain ⟨g9, g10⟩ := and_e g8
  obtain ⟨g11, g12⟩ := and_e g10
  obtain ⟨w0, w1, w2, w3, w4, w5, rfl⟩ : ∃ w0 w1 w2 w3 w4 w5 : Value, args = #[w0, w1, w2, w3, w4, w5] := by
    have hs : args.size = 6 := by simpa [Cond.value, given_1] using g1
    obtain ⟨L⟩ := args
    match L, hs with
    | [w0, w1, w2, w3, w4, w5], _ => exact ⟨w0, w1, w2, w3, w4, w5, rfl⟩
  have hw := fun d (hd : d ∈ tables_1) => atoms_spec (ws := Jvm.Cond.code x code maxLocals ret :: tables_1) hat d (List.mem_cons_of_mem _ hd)
  have hfit : Fit s := fun {y c} hc i hi => by
    obtain ⟨ha, rfl⟩ := Array.getElem?_eq_some_iff.mp hc
    have q := List.all_eq_true.mp ((Array.all_eq_true_iff_forall_mem.mp hF) _ (Array.getElem_mem ha)) i (List.mem_range.mpr hi)
    simpa [Array.getElem?_eq_getElem hi] using q
  obtain ⟨i0, ei0⟩ := is_v g3
  obtain rfl : w0 = (.int i0) := Option.some.inj ei0
  obtain ⟨i1, ei1⟩ := is_v g5
  obtain rfl : w1 = (.int i1) := Option.some.inj ei1
  obtain ⟨i2, ei2⟩ := is_v g7
  obtain rfl : w2 = (.int i2) := Option.some.inj ei2
  obtain ⟨i3, ei3⟩ := is_v g9
  obtain rfl : w3 = (.int i3) := Option.some.inj ei3
  obtain ⟨i4, ei4⟩ := is_v g11
  obtain rfl : w4 = (.int i4) := Option.some.inj ei4
  obtain ⟨i5, ei5⟩ := is_v g12
  obtain rfl : w5 = (.int i5) := Option.some.inj ei5
  obtain ⟨n, o, h1, h2, h3, _, L, rfl, ⟨rfl, N⟩, hq⟩ := rm0 l s _ hw tables_1 i0 i1 i2 i3 i4 i5  s.heap s.heap.size (Nat.le_refl _)  p e ha hc hk s m _ below hf ((Spec.applies_iff_loose hf).mp happ).1 ⟨rfl, State.Warmed39.refl s, rfl⟩ trivial
  refine ⟨n, _, h1, h2, h3, hpost _ _ _ _ _ _ ⟨Cond.after_iff.mpr rfl, Cond.after_iff.mpr (eq_i res_at (Term.int_eval (1)) rfl), trivial⟩ ⟨hq.1, hq.2.1, (hq.2.2.sift fun y hy => Or.inr (N y hy)).mono (by decide) (by decide)⟩⟩
theorem main_1_1 : Claimed_1_1 := comes_1 fun _ _ _ _ _ _ h hF => ⟨h.1, hF⟩
theorem main_1_2 : Claimed_1_2 := comes_1 fun _ _ _ _ _ _ h hF => ⟨h.2.1, hF⟩
end Jvm.Pilot.@@N@@
namespace Jvm.Pilot.@@N@@
open Jvm Jvm.ClassFile Sem Op Lib Jvm.Free Jvm.Stand Jvm.Pilot.@@N@@.Jvm.D
/-! MADE BY PROGRAM (witnessworld.py) out of the Statement's table words and the real class files: 10 classes; the members and pool entries that the words name. The judged class is class 1, her method 1. -/
namespace start1
open Jvm.ClassFile
def u (s : String) : CpInfo := .utf8 (stringToUtf16 s)
/-- a pool by its gaps: so many unusable entries, then the entry; so many at the end -/
def gap : Nat → List CpInfo → List CpInfo
  | 0, r => r
  | n + 1, r => .unusable :: gap n r
def poolList (es : List (Nat × CpInfo)) (last : Nat) : List CpInfo := es.foldr (fun e r => gap e.1 (e.2 :: r)) (gap last [])
def pool (es : List (Nat × CpInfo)) (last : Nat) : Array CpInfo := ⟨poolList es last⟩
def fileOf (pool : Array CpInfo) (this : Nat) (attrs : Array Attribute := #[]) (ms : Array MethodInfo := #[]) (fl : Nat := 33) (sup : Nat := 0) (ifs : Array Nat := #[]) (fds : Array FieldInfo := #[]) : ClassFile where
  minorVersion := 0
  majorVersion := 65
  constantPool := pool
  accessFlags := fl
  thisClass := this
  superClass := sup
  interfaces := ifs
  fields := fds
  methods := ms
  attributes := attrs
def plain (name : String) (sup : Option ClassId) : Class where
  name := name
  kind := .ordinary
  loader := none
  accessFlags := 33
  super := sup
  interfaces := #[]
  cf := none
  fields := #[]
  methods := #[]
  instanceTypes := #[]
  staticTypes := #[]
  resolved := #[]
  callSites := []
  init := .initialized
  statics := none
  mirror := none

def pool0 : Array CpInfo := pool [(5, u "<init>"), (0, u "()V"), (1, .class_ 10), (1, u "java/lang/Object")] 113

def k0c0 : Code := { maxStack := 0, maxLocals := 1, code := object_method_1_code, exceptionTable := #[], attributes := #[] }
def k0m0 : Method := { name := "<init>", desc := "()V", sig := { parameters := [], returnType := none }, accessFlags := 1, code := some k0c0 }
/-- java/lang/Object -/
def k0 : Class := { plain "java/lang/Object" none with
  accessFlags := 33
  interfaces := #[]
  cf := some (fileOf pool0 8 #[] #[{ accessFlags := 1, nameIndex := 5, descriptorIndex := 6, attributes := #[] }] 33 0 #[] #[])
  fields := #[]
  methods := #[k0m0]
  instanceTypes := #[]
  staticTypes := #[]
  resolved := Array.replicate 124 none
  statics := none }

def pool1 : Array CpInfo := pool [(2, .class_ 4), (0, .nameAndType 5 6), (0, u "java/lang/Object"), (0, u "<init>"), (0, u "()V"), (0, .class_ 8), (0, u "com/example/columnwire/columnwire/codec/GzipStream"), (0, .methodref 7 3), (0, .methodref 7 11), (0, .nameAndType 12 13), (0, u "beginsAsBlock"), (0, u "([BI)Z"), (0, .class_ 15), (0, u "com/example/columnwire/columnwire/codec/GzipStreamBeginsAsBlockPinLaw"), (2, u "law"), (0, u "(IIIIII)Z")] 5

def k1m0 : Method := { name := "<init>", desc := "()V", sig := { parameters := [], returnType := none }, accessFlags := 1, code := none }
def k1c1 : Code := { maxStack := 4, maxLocals := 13, code := code, exceptionTable := #[], attributes := #[] }
def k1m1 : Method := { name := "law", desc := "(IIIIII)Z", sig := { parameters := [.int, .int, .int, .int, .int, .int], returnType := some .boolean }, accessFlags := 9, code := some k1c1 }
/-- com/example/columnwire/columnwire/codec/GzipStreamBeginsAsBlockPinLaw -/
def k1 : Class := { plain "com/example/columnwire/columnwire/codec/GzipStreamBeginsAsBlockPinLaw" (some 0) with
  accessFlags := 49
  interfaces := #[]
  cf := some (fileOf pool1 14 #[] #[{ accessFlags := 1, nameIndex := 5, descriptorIndex := 6, attributes := #[] }, { accessFlags := 9, nameIndex := 18, descriptorIndex := 19, attributes := #[] }] 49 2 #[] #[])
  fields := #[]
  methods := #[k1m0, k1m1]
  instanceTypes := #[]
  staticTypes := #[]
  resolved := Array.replicate 25 none
  statics := none }

def pool2 : Array CpInfo := pool [(1, .class_ 2), (0, u "com/example/columnwire/columnwire/codec/Codec"), (0, .class_ 4), (0, u "java/lang/Object")] 15

/-- com/example/columnwire/columnwire/codec/Codec -/
def k2 : Class := { plain "com/example/columnwire/columnwire/codec/Codec" (some 0) with
  accessFlags := 1537
  interfaces := #[]
  cf := some (fileOf pool2 1 #[] #[] 1537 3 #[] #[])
  fields := #[]
  methods := #[]
  instanceTypes := #[]
  staticTypes := #[]
  resolved := Array.replicate 20 none
  statics := none }

def pool3 : Array CpInfo := pool [(1, .methodref 2 3), (0, .class_ 4), (0, .nameAndType 5 6), (0, u "java/lang/Object"), (0, u "<init>"), (0, u "()V"), (2, .class_ 10), (0, u "com/example/columnwire/columnwire/codec/GzipStream"), (2, u "DEFLATERS"), (0, u "Lcom/example/columnwire/columnwire/codec/Deflate$Deflaters;"), (6, u "JDK_HEADER"), (0, u "[B"), (39, .integer 35615), (66, u "SIZE_REFUSAL"), (0, u "Lcom/example/columnwire/columnwire/codec/BlockWalk$SizeRefusal;"), (84, .class_ 216), (0, u "com/example/columnwire/columnwire/codec/Codec"), (0, u "MAGIC"), (0, u "I"), (1, u "DEFLATE"), (1, u "FIXED_HEADER_SIZE"), (1, u "TRAILER_SIZE"), (0, u "HEADER_CRC"), (1, u "EXTRA"), (1, u "NAME"), (0, u "COMMENT"), (1, u "DEFINED_FLAGS"), (1, u "WHAT"), (0, u "Ljava/lang/String;"), (5, u "beginsAsBlock"), (0, u "([BI)Z")] 35

def k3c0 : Code := { maxStack := 1, maxLocals := 1, code := prog_186_method_1_code, exceptionTable := #[], attributes := #[] }
def k3m0 : Method := { name := "<init>", desc := "()V", sig := { parameters := [], returnType := none }, accessFlags := 1, code := some k3c0 }
def k3c1 : Code := { maxStack := 3, maxLocals := 3, code := prog_186_method_4_code, exceptionTable := #[], attributes := #[] }
def k3m1 : Method := { name := "beginsAsBlock", desc := "([BI)Z", sig := { parameters := [(.array .byte), .int], returnType := some .boolean }, accessFlags := 1, code := some k3c1 }
/-- com/example/columnwire/columnwire/codec/GzipStream -/
def k3 : Class := { plain "com/example/columnwire/columnwire/codec/GzipStream" (some 0) with
  accessFlags := 49
  interfaces := #[2]
  cf := some (fileOf pool3 9 #[] #[{ accessFlags := 1, nameIndex := 5, descriptorIndex := 6, attributes := #[] }, { accessFlags := 1, nameIndex := 241, descriptorIndex := 242, attributes := #[] }] 49 2 #[215] #[{ accessFlags := 26, nameIndex := 217, descriptorIndex := 218, attributes := #[] }, { accessFlags := 26, nameIndex := 220, descriptorIndex := 218, attributes := #[] }, { accessFlags := 26, nameIndex := 222, descriptorIndex := 218, attributes := #[] }, { accessFlags := 26, nameIndex := 224, descriptorIndex := 218, attributes := #[] }, { accessFlags := 26, nameIndex := 225, descriptorIndex := 218, attributes := #[] }, { accessFlags := 26, nameIndex := 227, descriptorIndex := 218, attributes := #[] }, { accessFlags := 26, nameIndex := 229, descriptorIndex := 218, attributes := #[] }, { accessFlags := 26, nameIndex := 230, descriptorIndex := 218, attributes := #[] }, { accessFlags := 26, nameIndex := 232, descriptorIndex := 218, attributes := #[] }, { accessFlags := 26, nameIndex := 21, descriptorIndex := 22, attributes := #[] }, { accessFlags := 26, nameIndex := 13, descriptorIndex := 14, attributes := #[] }, { accessFlags := 26, nameIndex := 234, descriptorIndex := 235, attributes := #[] }, { accessFlags := 26, nameIndex := 129, descriptorIndex := 130, attributes := #[] }])
  fields := #[{ name := "MAGIC", type := .int, accessFlags := 26, slot := 0, constantValue := 0 }, { name := "DEFLATE", type := .int, accessFlags := 26, slot := 1, constantValue := 0 }, { name := "FIXED_HEADER_SIZE", type := .int, accessFlags := 26, slot := 2, constantValue := 0 }, { name := "TRAILER_SIZE", type := .int, accessFlags := 26, slot := 3, constantValue := 0 }, { name := "HEADER_CRC", type := .int, accessFlags := 26, slot := 4, constantValue := 0 }, { name := "EXTRA", type := .int, accessFlags := 26, slot := 5, constantValue := 0 }, { name := "NAME", type := .int, accessFlags := 26, slot := 6, constantValue := 0 }, { name := "COMMENT", type := .int, accessFlags := 26, slot := 7, constantValue := 0 }, { name := "DEFINED_FLAGS", type := .int, accessFlags := 26, slot := 8, constantValue := 0 }, { name := "JDK_HEADER", type := (.array .byte), accessFlags := 26, slot := 9, constantValue := 0 }, { name := "DEFLATERS", type := (.object "com/example/columnwire/columnwire/codec/Deflate$Deflaters"), accessFlags := 26, slot := 10, constantValue := 0 }, { name := "WHAT", type := (.object "java/lang/String"), accessFlags := 26, slot := 11, constantValue := 0 }, { name := "SIZE_REFUSAL", type := (.object "com/example/columnwire/columnwire/codec/BlockWalk$SizeRefusal"), accessFlags := 26, slot := 12, constantValue := 0 }]
  methods := #[k3m0, k3m1]
  instanceTypes := #[]
  staticTypes := #[.int, .int, .int, .int, .int, .int, .int, .int, .int, (.array .byte), (.object "com/example/columnwire/columnwire/codec/Deflate$Deflaters"), (.object "java/lang/String"), (.object "com/example/columnwire/columnwire/codec/BlockWalk$SizeRefusal")]
  resolved := Array.replicate 278 none
  statics := none }

def pool4 : Array CpInfo := pool [(1, u "java/lang/Cloneable"), (0, .class_ 1), (0, u "java/lang/Object"), (0, .class_ 3)] 3

/-- java/lang/Cloneable -/
def k4 : Class := { plain "java/lang/Cloneable" (some 0) with
  accessFlags := 1537
  interfaces := #[]
  cf := some (fileOf pool4 2 #[] #[] 1537 4 #[] #[])
  fields := #[]
  methods := #[]
  instanceTypes := #[]
  staticTypes := #[]
  resolved := Array.replicate 8 none
  statics := none }

def pool5 : Array CpInfo := pool [(1, u "java/io/Serializable"), (0, .class_ 1), (0, u "java/lang/Object"), (0, .class_ 3)] 3

/-- java/io/Serializable -/
def k5 : Class := { plain "java/io/Serializable" (some 0) with
  accessFlags := 1537
  interfaces := #[]
  cf := some (fileOf pool5 2 #[] #[] 1537 4 #[] #[])
  fields := #[]
  methods := #[]
  instanceTypes := #[]
  staticTypes := #[]
  resolved := Array.replicate 8 none
  statics := none }

/-- the primitive byte -/
def k6 : Class := { plain "byte" none with kind := .primitive 'B', accessFlags := 0x411 }
/-- [B -/
def k7 : Class := { plain "[B" (some 0) with kind := .array 6 .byte, interfaces := #[4, 5], accessFlags := 1041 }

/-- the primitive int -/
def k8 : Class := { plain "int" none with kind := .primitive 'I', accessFlags := 0x411 }
/-- [I -/
def k9 : Class := { plain "[I" (some 0) with kind := .array 8 .int, interfaces := #[4, 5], accessFlags := 1041 }

def heap : Heap := #[]
def classes : Array Class := #[k0, k1, k2, k3, k4, k5, k6, k7, k8, k9]
def interned : List (Array UInt16 × Addr) := []
def slotsUsed : Nat := 0
def theMethod : MethodId := ⟨1, 1⟩
def args0 : Array Value := #[.int 12, .int 120, .int 1, .int 8, .int 7, .int 9]
def aboutOver (below : List Frame) : State where
  vm := { classes := classes, interned := interned.toArray }
  heap := heap
  slotsUsed := slotsUsed
  threads := #[{ frames := .invoking theMethod args0 :: below }]
def below0 : List Frame := [.native { method := ⟨0, 0⟩, args := #[] }]
def about1 : State := aboutOver below0
def p0 : Program := .bare "" "" ""
def e0 : Env := launch0.env 0 0 0
theorem w_frames : about1.frames = Frame.invoking theMethod args0 :: below0 := rfl
set_option maxRecDepth 65536 in
theorem w_args : argsFit about1.vm theMethod args0 = true := by decide +kernel
set_option maxRecDepth 65536 in
theorem w_heap : heapFits about1 = true := by decide +kernel
set_option maxRecDepth 65536 in
theorem w_runnable : about1.curStatus? = some .runnable := by decide +kernel
set_option maxRecDepth 65536 in
theorem w_alone : about1.alone = true := by decide +kernel
set_option maxRecDepth 65536 in
theorem w_named : about1.methodNamed? x = some theMethod := by decide +kernel
set_option maxRecDepth 65536 in
theorem w_hears : about1.hears theMethod below0 = true := by decide +kernel
set_option maxRecDepth 65536 in
theorem w_ripe : about1.ripe theMethod args0 below0 = true := by decide +kernel
theorem w_running : about1.status = .running := rfl
set_option maxRecDepth 65536 in
theorem w_room : about1.hasRoom e0.platform room_1 = true :=
  launch0.hasRoom_least _ room_1 (by decide +kernel) (by decide +kernel) (by decide +kernel) (by decide +kernel) (by decide +kernel) (by decide +kernel)
theorem allAtoms_all (ts : List Jvm.Cond) (a : Array Jvm.Value) (st : Jvm.State) : (allAtoms ts).before a st = ts.all (fun c => c.before a st) := by
  induction ts with
  | nil => rfl
  | cons c t ih =>
    show (Jvm.Cond.and c (allAtoms t)).before a st = _
    rw [Jvm.Cond.before_and, ih, List.all_cons]
def words1 : List Jvm.Cond := Jvm.Cond.code x code maxLocals ret :: tables_1
/-- a 'code' word, met by the world's own term for the bytes: nothing is compared byte by byte -/
theorem code_word {y : MethodName} {bytes : ByteArray} {mx : Nat} {rt : Option FieldType} {a : Array Value} {s : State} {m : MethodId} {meth : Method} {c : Code} (h1 : s.methodNamed? y = some m) (h2 : s.vm.method? m = some meth) (h3 : meth.code = some c) (h4 : c.code = bytes)
    (h5 : (c.maxLocals == mx && c.exceptionTable.isEmpty && decide (c.maxStack ≤ mostOperands) && decide (meth.sig.returnType = rt) && !meth.locks && decide (parseMethodDescriptor y.desc = some meth.sig)) = true) : (Jvm.Cond.code y bytes mx rt).before a s = true := by
  simp only [Bool.and_eq_true, beq_iff_eq, Bool.not_eq_true', decide_eq_true_eq] at h5
  obtain ⟨⟨⟨⟨⟨g1, g2⟩, g3⟩, g4⟩, g5⟩, g6⟩ := h5
  simp [Cond.before, Cond.holds, Cond.value, h1, h2, h3, h4, g1, g2, g3, g4, g5, g6]
def isCode : Jvm.Cond → Bool
  | .code _ _ _ _ => true
  | _ => false
theorem all_split {L : List Jvm.Cond} {P : Jvm.Cond → Bool} (h1 : L.all (fun c => isCode c || P c) = true) (h2 : ∀ c ∈ L.filter isCode, P c = true) : L.all P = true := by
  refine List.all_eq_true.mpr fun c hc => ?_
  have h := List.all_eq_true.mp h1 c hc
  rcases Bool.eq_false_or_eq_true (isCode c) with hi | hi
  · exact h2 c (List.mem_filter.mpr ⟨hc, hi⟩)
  · simpa [hi] using h
set_option maxRecDepth 65536 in
theorem w_c0 : (Jvm.Cond.code x code maxLocals ret).before args0 about1 = true := code_word (m := ⟨1, 1⟩) (meth := k1m1) (c := k1c1) (by decide +kernel) rfl rfl rfl (by decide +kernel)
set_option maxRecDepth 65536 in
theorem w_c1 : (Jvm.Cond.code ({ cls := "com/example/columnwire/columnwire/codec/GzipStream", name := "<init>", desc := "()V" } : Jvm.MethodName) prog_186_method_1_code (1 : Nat) (Option.none : Option Jvm.ClassFile.FieldType)).before args0 about1 = true := code_word (m := ⟨3, 0⟩) (meth := k3m0) (c := k3c0) (by decide +kernel) rfl rfl rfl (by decide +kernel)
set_option maxRecDepth 65536 in
theorem w_c2 : (Jvm.Cond.code ({ cls := "java/lang/Object", name := "<init>", desc := "()V" } : Jvm.MethodName) object_method_1_code (1 : Nat) (Option.none : Option Jvm.ClassFile.FieldType)).before args0 about1 = true := code_word (m := ⟨0, 0⟩) (meth := k0m0) (c := k0c0) (by decide +kernel) rfl rfl rfl (by decide +kernel)
set_option maxRecDepth 65536 in
theorem w_c3 : (Jvm.Cond.code ({ cls := "com/example/columnwire/columnwire/codec/GzipStream", name := "beginsAsBlock", desc := "([BI)Z" } : Jvm.MethodName) prog_186_method_4_code (3 : Nat) (Option.some Jvm.ClassFile.FieldType.boolean)).before args0 about1 = true := code_word (m := ⟨3, 1⟩) (meth := k3m1) (c := k3c1) (by decide +kernel) rfl rfl rfl (by decide +kernel)
def codes1 : List Jvm.Cond := [Jvm.Cond.code x code maxLocals ret, Jvm.Cond.code ({ cls := "com/example/columnwire/columnwire/codec/GzipStream", name := "<init>", desc := "()V" } : Jvm.MethodName) prog_186_method_1_code (1 : Nat) (Option.none : Option Jvm.ClassFile.FieldType), Jvm.Cond.code ({ cls := "java/lang/Object", name := "<init>", desc := "()V" } : Jvm.MethodName) object_method_1_code (1 : Nat) (Option.none : Option Jvm.ClassFile.FieldType), Jvm.Cond.code ({ cls := "com/example/columnwire/columnwire/codec/GzipStream", name := "beginsAsBlock", desc := "([BI)Z" } : Jvm.MethodName) prog_186_method_4_code (3 : Nat) (Option.some Jvm.ClassFile.FieldType.boolean)]
set_option maxRecDepth 65536 in
theorem codes_eq : words1.filter isCode = codes1 := rfl
theorem w_codes : ∀ c ∈ words1.filter isCode, c.before args0 about1 = true := by
  rw [codes_eq]
  intro c hc
  simp only [codes1, List.mem_cons, List.not_mem_nil, or_false] at hc
  rcases hc with rfl | rfl | rfl | rfl
  · exact w_c0
  · exact w_c1
  · exact w_c2
  · exact w_c3
set_option maxRecDepth 65536 in
theorem w_t1 : words1.all (fun c => isCode c || c.before args0 about1) = true := by decide +kernel
theorem w_tables : (allAtoms (Jvm.Cond.code x code maxLocals ret :: tables_1)).before args0 about1 = true := by
  rw [allAtoms_all]
  show words1.all (fun c => c.before args0 about1) = true
  refine all_split ?_ w_codes
  rw [w_t1]
set_option maxRecDepth 65536 in
theorem w_case : (Jvm.Cond.and given_1 narrow_1).before args0 about1 = true := by decide +kernel
theorem w_applies : (headSpec (Jvm.Cond.code x code maxLocals ret :: tables_1) room_1).applies x e0.platform about1 = true :=
  (Spec.applies_iff w_frames).mpr ⟨w_running, w_runnable, w_alone, w_named, w_hears, w_ripe, w_room, w_tables⟩
theorem atStart : AtStart classFile x code maxLocals ret World_1 tables_1 room_1 Calls_1 rest_1 Pre_1 launch0 p0 e0 about1 theMethod args0 below0 :=
  ⟨lists_1, trivial, launch0.admits_env _ _ _, launch0.least_env, fairChoices_fair.cas, fairChoices_fair.clock, w_frames, w_args, w_heap, w_applies, trivial, trivial, w_case⟩
end start1
theorem witness_1 : WitnessClaimed_1 := ⟨start1.p0, start1.e0, start1.about1, start1.theMethod, start1.args0, start1.below0, start1.atStart⟩
end Jvm.Pilot.@@N@@
