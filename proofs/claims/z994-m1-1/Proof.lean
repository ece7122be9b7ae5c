import JvmDerived
import JvmDerived.Pilot.@@N@@Statement
import JvmDerived.Pilot.@@N@@Code
set_option linter.unusedVariables false
set_option linter.unusedSimpArgs false
namespace Jvm.Pilot.@@N@@
open Jvm Jvm.ClassFile Sem Op Lib Jvm.Free Jvm.Stand Jvm.LawKit Jvm.RoadKit Bundle Jvm.Pilot.@@N@@.Jvm.D
theorem own_pn0 : plainName "com/example/columnwire/columnwire/codec/ZlibStream" = true := by first | (simp [plainName, overriddenIn]; done) | decide +kernel
theorem own_ef_rm1 (m : MethodId) (x0 : Addr) : entryFrame m #[(.ref x0)] 1 = mkF m 0 #[.val (.ref x0)] [] := by first | (simp [entryFrame, mkF, argsToLocals, Value.category]; done) | rfl
theorem own_d1_0 : decode prog_203_method_1_code 0 = .ok (.aload_n 0, 1) := by decide +kernel
theorem own_d1_1 : decode prog_203_method_1_code 1 = .ok (.invokespecial 1, 3) := by decide +kernel
theorem own_d1_4 : decode prog_203_method_1_code 4 = .ok (.return_, 1) := by decide +kernel
def Q_rm1 (Z : State) (a1 : Addr) (h0 : Heap) (n0 : Nat) (v : Option Value) (h : Heap) (L : List Loc) : Prop := v = none ∧ Fr n0 L ∧ h = h0
set_option maxRecDepth 65536 in
set_option maxHeartbeats 40000000 in
theorem rm1 (l : Launch) (Z : State) (a0 : Array Value) (hw : ∀ d ∈ tables_1, d.before a0 Z = true) (ws : List Jvm.Cond) (a1 : Addr) (h0 : Heap) (n0 : Nat) (Z0 : n0 ≤ h0.size)  :
    MetFree l (⟨"com/example/columnwire/columnwire/codec/ZlibStream", "<init>", "()V"⟩ : MethodName) (head1 (Jvm.Cond.code (⟨"com/example/columnwire/columnwire/codec/ZlibStream", "<init>", "()V"⟩ : MethodName) prog_203_method_1_code 1 none :: ws) ({ frames := 1, cells := 0, slots := 0, locals := 12 } : Room)) (fun a U => a = #[(.ref a1)] ∧ Z.Warmed39 U.vm ∧ U.heap = h0) (fun _ _ _ _ _ => True) (fun _ U o U' => ∃ v L, o = .returned v ∧ Q_rm1 Z a1 h0 n0 v U'.heap L ∧ FrameEnd U o U' L ({ frames := 1, cells := 0, slots := 0, locals := 12 } : Room).cells ({ frames := 1, cells := 0, slots := 0, locals := 12 } : Room).slots) := by
  refine MetFree.of_bodySF (plainFor_of_name own_pn0) hisR ?_
  intro p e s m args below meth c s₁ Bd hml0 hP hK
  obtain ⟨rfl, hZ, hh⟩ := hP
  have hx := Bd.exec
  have hby := Bd.bytes
  have hml : c.maxLocals = 1 := hml0
  have hown : s.vm.findClass "com/example/columnwire/columnwire/codec/ZlibStream" = some m.cls := findClass_of_methodNamed Bd.named
  have hnm := (name_of_methodNamed Bd.named Bd.method).1
  have X0 : Stand p l e ({ frames := 1, cells := 0, slots := 0, locals := 12 } : Room) s m #[(.ref a1)] below meth c s₁ [] 0 0 := Stand.of_body Bd
  have e0 : s₁.heap = h0 := by rw [← hh, Bd.state]; rfl
  have N0 := Fr.nil n0
  have R0 : ∀ t, Steps p.tables e below (s₁.setTop (mkF m 0 #[.val (.ref a1)] [])) t → Steps p.tables e below (s₁.setTop (entryFrame m #[(.ref a1)] 1)) t := fun t k => castTop (own_ef_rm1 m a1) k
  have R1 : ∀ t, Steps p.tables e below (s₁.setTop (mkF m 1 #[.val (.ref a1)] [(.ref a1)])) t → Steps p.tables e below (s₁.setTop (entryFrame m #[(.ref a1)] 1)) t := by
    intro t k
    refine R0 t ?_
    show Steps p.tables e below (s₁.setTop (mkF m 0 #[.val (.ref a1)] [])) _
    refine XS.aloadN X0.here hx rfl (hb hby own_d1_0) rfl rfl ?_
    exact k
  obtain ⟨T2, X2, e2, st2⟩ := initO X0 hx hZ hown (hw _ (List.mem_of_getElem? (i := 7) rfl)) (hw _ (List.mem_of_getElem? (i := 8) rfl)) (hw _ (List.mem_of_getElem? (i := 9) rfl)) e0 (g := (mkF m 1 #[.val (.ref a1)] [(.ref a1)])) rfl (by rw [hml]; rfl) rfl (hb hby own_d1_1) (by decide) (W := 0) (by show 2 * 0 + _ ≤ _; exact Nat.le_of_eq rfl) (by decide)
  have R2 : ∀ t, Steps p.tables e below (T2.setTop (mkF m 4 #[.val (.ref a1)] [])) t → Steps p.tables e below (s₁.setTop (entryFrame m #[(.ref a1)] 1)) t := fun t k => R1 t (st2 t k)
  obtain ⟨fs, hr, hrun, hended, hW, hsame⟩ := X2.leave (v := none) (fun _ => rfl)
  refine ⟨_, _, R2 _ ?_, hrun, hended, _, _, rfl, ?_, ⟨_, rfl⟩, hW, hsame.mono (by decide) (by decide)⟩
  · exact X2.returnOut hx Bd.returns (hb hby own_d1_4) hr
  · show Q_rm1 Z a1 h0 n0 _ T2.heap _
    rw [e2]
    exact ⟨rfl, N0, rfl⟩
theorem own_ef_rm3s (m : MethodId) (x0 : Addr) (x1 : Addr) (x2 : Int32) : entryFrame m #[(.ref x0), (.ref x1), (.int x2)] 4 = mkF m 0 #[.val (.ref x0), .val (.ref x1), .val (.int x2), .unset] [] := by first | (simp [entryFrame, mkF, argsToLocals, Value.category]; done) | rfl
theorem own_d3_0 : decode prog_203_method_4_code 0 = .ok (.aload_n 1, 1) := by decide +kernel
theorem own_d3_1 : decode prog_203_method_4_code 1 = .ok (.arraylength, 1) := by decide +kernel
theorem own_d3_2 : decode prog_203_method_4_code 2 = .ok (.iconst 2, 1) := by decide +kernel
theorem own_d3_3 : decode prog_203_method_4_code 3 = .ok (.if_icmp .ge 5, 3) := by decide +kernel
theorem own_d3_6 : decode prog_203_method_4_code 6 = .ok (.iconst 0, 1) := by decide +kernel
theorem own_d3_7 : decode prog_203_method_4_code 7 = .ok (.ireturn, 1) := by decide +kernel
def Q_rm3s (Z : State) (a1 a2 : Addr) (p3 : Int32) (k2 : ClassId) (z2 : Int32) (vs2 : List Value) (d2 : Value) (h0 : Heap) (n0 : Nat) (v : Option Value) (h : Heap) (L : List Loc) : Prop := v = some (.int (0 : Int32)) ∧ Fr n0 L ∧ h = h0
set_option maxRecDepth 65536 in
set_option maxHeartbeats 40000000 in
theorem rm3s (l : Launch) (Z : State) (a0 : Array Value) (hw : ∀ d ∈ tables_1, d.before a0 Z = true) (ws : List Jvm.Cond) (a1 a2 : Addr) (p3 : Int32) (k2 : ClassId) (z2 : Int32) (vs2 : List Value) (d2 : Value) (h0 : Heap) (n0 : Nat) (Z0 : n0 ≤ h0.size) (V2 : Arv Z h0 a2 k2 .byte z2 vs2 d2) (hz : z2 < (2 : Int32)) :
    MetFree l (⟨"com/example/columnwire/columnwire/codec/ZlibStream", "beginsAsBlock", "([BI)Z"⟩ : MethodName) (head1 (Jvm.Cond.code (⟨"com/example/columnwire/columnwire/codec/ZlibStream", "beginsAsBlock", "([BI)Z"⟩ : MethodName) prog_203_method_4_code 4 (some .boolean) :: ws) ({ frames := 0, cells := 0, slots := 0, locals := 0 } : Room)) (fun a U => a = #[(.ref a1), (.ref a2), (.int p3)] ∧ Z.Warmed39 U.vm ∧ U.heap = h0) (fun _ _ _ _ _ => True) (fun _ U o U' => ∃ v L, o = .returned v ∧ Q_rm3s Z a1 a2 p3 k2 z2 vs2 d2 h0 n0 v U'.heap L ∧ FrameEnd U o U' L ({ frames := 0, cells := 0, slots := 0, locals := 0 } : Room).cells ({ frames := 0, cells := 0, slots := 0, locals := 0 } : Room).slots) := by
  refine MetFree.of_bodySF (plainFor_of_name own_pn0) hisR ?_
  intro p e s m args below meth c s₁ Bd hml0 hP hK
  obtain ⟨rfl, hZ, hh⟩ := hP
  have hx := Bd.exec
  have hby := Bd.bytes
  have hml : c.maxLocals = 4 := hml0
  have hown : s.vm.findClass "com/example/columnwire/columnwire/codec/ZlibStream" = some m.cls := findClass_of_methodNamed Bd.named
  have hnm := (name_of_methodNamed Bd.named Bd.method).1
  have X0 : Stand p l e ({ frames := 0, cells := 0, slots := 0, locals := 0 } : Room) s m #[(.ref a1), (.ref a2), (.int p3)] below meth c s₁ [] 0 0 := Stand.of_body Bd
  have e0 : s₁.heap = h0 := by rw [← hh, Bd.state]; rfl
  have N0 := Fr.nil n0
  have R0 : ∀ t, Steps p.tables e below (s₁.setTop (mkF m 0 #[.val (.ref a1), .val (.ref a2), .val (.int p3), .unset] [])) t → Steps p.tables e below (s₁.setTop (entryFrame m #[(.ref a1), (.ref a2), (.int p3)] 4)) t := fun t k => castTop (own_ef_rm3s m a1 a2 p3) k
  have R1 : ∀ t, Steps p.tables e below (s₁.setTop (mkF m 1 #[.val (.ref a1), .val (.ref a2), .val (.int p3), .unset] [(.ref a2)])) t → Steps p.tables e below (s₁.setTop (entryFrame m #[(.ref a1), (.ref a2), (.int p3)] 4)) t := by
    intro t k
    refine R0 t ?_
    show Steps p.tables e below (s₁.setTop (mkF m 0 #[.val (.ref a1), .val (.ref a2), .val (.int p3), .unset] [])) _
    refine XS.aloadN X0.here hx rfl (hb hby own_d3_0) rfl rfl ?_
    exact k
  obtain ⟨cl2, Ar2, q2, S2, N2', H2, G2⟩ := id V2
  have R3 : ∀ t, Steps p.tables e below (s₁.setTop (mkF m 7 #[.val (.ref a1), .val (.ref a2), .val (.int p3), .unset] [(.int (0 : Int32))])) t → Steps p.tables e below (s₁.setTop (entryFrame m #[(.ref a1), (.ref a2), (.int p3)] 4)) t := by
    intro t k
    refine R1 t ?_
    show Steps p.tables e below (s₁.setTop (mkF m 1 #[.val (.ref a1), .val (.ref a2), .val (.int p3), .unset] [(.ref a2)])) _
    refine X0.arraylength hx (by rw [e0]; exact Ar2.1) (State.isArrayOf_alike hZ.alike Ar2.2.1) (g := (mkF m 1 #[.val (.ref a1), .val (.ref a2), .val (.int p3), .unset] [(.ref a2)])) rfl rfl (hb hby own_d3_1) _ ?_
    rw [len_of S2 N2']
    show Steps p.tables e below (s₁.setTop (mkF m 2 #[.val (.ref a1), .val (.ref a2), .val (.int p3), .unset] [(.int z2)])) _
    refine XS.iconst X0.here hx rfl (hb hby own_d3_2) ?_
    show Steps p.tables e below (s₁.setTop (mkF m 3 #[.val (.ref a1), .val (.ref a2), .val (.int p3), .unset] [(.int (2 : Int32)), (.int z2)])) _
    refine XS.icmpNo X0.here hx rfl (hb hby own_d3_3) rfl (tlt hz).2.1 ?_
    show Steps p.tables e below (s₁.setTop (mkF m 6 #[.val (.ref a1), .val (.ref a2), .val (.int p3), .unset] [])) _
    refine XS.iconst X0.here hx rfl (hb hby own_d3_6) ?_
    exact k
  obtain ⟨fs, hr, hrun, hended, hW, hsame⟩ := X0.leave (v := some (.int (0 : Int32))) (fun h => by rw [Bd.returns] at h; cases h)
  refine ⟨_, _, R3 _ ?_, hrun, hended, _, _, rfl, ?_, ⟨_, rfl⟩, hW, hsame.mono (by decide) (by decide)⟩
  · exact retN X0 hx (t := .boolean) Bd.returns (by simp) (hb hby own_d3_7) hr
  · show Q_rm3s Z a1 a2 p3 k2 z2 vs2 d2 h0 n0 _ s₁.heap _
    rw [e0]
    exact ⟨rfl, N0, rfl⟩
theorem own_ef_rm3 (m : MethodId) (x0 : Addr) (x1 : Addr) (x2 : Int32) : entryFrame m #[(.ref x0), (.ref x1), (.int x2)] 4 = mkF m 0 #[.val (.ref x0), .val (.ref x1), .val (.int x2), .unset] [] := by first | (simp [entryFrame, mkF, argsToLocals, Value.category]; done) | rfl
theorem own_d3_8 : decode prog_203_method_4_code 8 = .ok (.aload_n 1, 1) := by decide +kernel
theorem own_d3_9 : decode prog_203_method_4_code 9 = .ok (.iconst 0, 1) := by decide +kernel
theorem own_d3_10 : decode prog_203_method_4_code 10 = .ok (.baload, 1) := by decide +kernel
theorem own_d3_11 : decode prog_203_method_4_code 11 = .ok (.sipush 255, 3) := by decide +kernel
theorem own_d3_14 : decode prog_203_method_4_code 14 = .ok (.iand, 1) := by decide +kernel
theorem own_d3_15 : decode prog_203_method_4_code 15 = .ok (.bipush 8, 2) := by decide +kernel
theorem own_d3_17 : decode prog_203_method_4_code 17 = .ok (.ishl, 1) := by decide +kernel
theorem own_d3_18 : decode prog_203_method_4_code 18 = .ok (.aload_n 1, 1) := by decide +kernel
theorem own_d3_19 : decode prog_203_method_4_code 19 = .ok (.iconst 1, 1) := by decide +kernel
theorem own_d3_20 : decode prog_203_method_4_code 20 = .ok (.baload, 1) := by decide +kernel
theorem own_d3_21 : decode prog_203_method_4_code 21 = .ok (.sipush 255, 3) := by decide +kernel
theorem own_d3_24 : decode prog_203_method_4_code 24 = .ok (.iand, 1) := by decide +kernel
theorem own_d3_25 : decode prog_203_method_4_code 25 = .ok (.ior, 1) := by decide +kernel
theorem own_d3_26 : decode prog_203_method_4_code 26 = .ok (.istore_n 3, 1) := by decide +kernel
theorem own_d3_27 : decode prog_203_method_4_code 27 = .ok (.aload_n 1, 1) := by decide +kernel
theorem own_d3_28 : decode prog_203_method_4_code 28 = .ok (.iconst 0, 1) := by decide +kernel
theorem own_d3_29 : decode prog_203_method_4_code 29 = .ok (.baload, 1) := by decide +kernel
theorem own_d3_30 : decode prog_203_method_4_code 30 = .ok (.bipush 15, 2) := by decide +kernel
theorem own_d3_32 : decode prog_203_method_4_code 32 = .ok (.iand, 1) := by decide +kernel
theorem own_d3_33 : decode prog_203_method_4_code 33 = .ok (.bipush 8, 2) := by decide +kernel
theorem own_d3_35 : decode prog_203_method_4_code 35 = .ok (.if_icmp .ne 37, 3) := by decide +kernel
theorem own_d3_38 : decode prog_203_method_4_code 38 = .ok (.aload_n 1, 1) := by decide +kernel
theorem own_d3_39 : decode prog_203_method_4_code 39 = .ok (.iconst 0, 1) := by decide +kernel
theorem own_d3_40 : decode prog_203_method_4_code 40 = .ok (.baload, 1) := by decide +kernel
theorem own_d3_41 : decode prog_203_method_4_code 41 = .ok (.sipush 255, 3) := by decide +kernel
theorem own_d3_44 : decode prog_203_method_4_code 44 = .ok (.iand, 1) := by decide +kernel
theorem own_d3_45 : decode prog_203_method_4_code 45 = .ok (.iconst 4, 1) := by decide +kernel
theorem own_d3_46 : decode prog_203_method_4_code 46 = .ok (.iushr, 1) := by decide +kernel
theorem own_d3_47 : decode prog_203_method_4_code 47 = .ok (.bipush 7, 2) := by decide +kernel
theorem own_d3_49 : decode prog_203_method_4_code 49 = .ok (.if_icmp .gt 23, 3) := by decide +kernel
theorem own_d3_72 : decode prog_203_method_4_code 72 = .ok (.iconst 0, 1) := by decide +kernel
theorem own_d3_52 : decode prog_203_method_4_code 52 = .ok (.iload_n 3, 1) := by decide +kernel
theorem own_d3_53 : decode prog_203_method_4_code 53 = .ok (.bipush 31, 2) := by decide +kernel
theorem own_d3_55 : decode prog_203_method_4_code 55 = .ok (.irem, 1) := by decide +kernel
theorem own_d3_56 : decode prog_203_method_4_code 56 = .ok (.ifCond .ne 16, 3) := by decide +kernel
theorem own_d3_59 : decode prog_203_method_4_code 59 = .ok (.aload_n 1, 1) := by decide +kernel
theorem own_d3_60 : decode prog_203_method_4_code 60 = .ok (.iconst 1, 1) := by decide +kernel
theorem own_d3_61 : decode prog_203_method_4_code 61 = .ok (.baload, 1) := by decide +kernel
theorem own_d3_62 : decode prog_203_method_4_code 62 = .ok (.bipush 32, 2) := by decide +kernel
theorem own_d3_64 : decode prog_203_method_4_code 64 = .ok (.iand, 1) := by decide +kernel
theorem own_d3_65 : decode prog_203_method_4_code 65 = .ok (.ifCond .ne 7, 3) := by decide +kernel
theorem own_d3_68 : decode prog_203_method_4_code 68 = .ok (.iconst 1, 1) := by decide +kernel
theorem own_d3_69 : decode prog_203_method_4_code 69 = .ok (.goto 4, 3) := by decide +kernel
def own_beg (b0 b1 : Int32) : Int32 := (if (b0 &&& (15 : Int32)) = (8 : Int32) then (if (7 : Int32) < (((b0 &&& (255 : Int32)).toUInt32 >>> ((4 : Int32) &&& 31).toUInt32).toInt32) then (0 : Int32) else (if ((((b0 &&& (255 : Int32)) <<< ((8 : Int32) &&& 31)) ||| (b1 &&& (255 : Int32))) % (31 : Int32)) = (0 : Int32) then (if (b1 &&& (32 : Int32)) = (0 : Int32) then (1 : Int32) else (0 : Int32)) else (0 : Int32))) else (0 : Int32))
theorem own_and3 (x : Int32) : (x &&& (3 : Int32)) = (0 : Int32) ∨ (x &&& (3 : Int32)) = (1 : Int32) ∨ (x &&& (3 : Int32)) = (2 : Int32) ∨ (x &&& (3 : Int32)) = (3 : Int32) := by
  have h1 := c_mask x (3 : Int32) 2 (by decide) (by decide)
  have e0 : (0 : Int32).toInt = 0 := by decide
  have e1 : (1 : Int32).toInt = 1 := by decide
  have e2 : (2 : Int32).toInt = 2 := by decide
  have e3 : (3 : Int32).toInt = 3 := by decide
  simp only [← Int32.toInt_inj]
  omega
theorem own_nbit5 (n : Nat) : n &&& 32 = 0 ↔ n / 32 % 2 = 0 := by
  have hb : n.testBit 5 = decide (n / 2 ^ 5 % 2 = 1) := Nat.testBit_eq_decide_div_mod_eq
  constructor
  · intro h
    have q : (n &&& 2 ^ 5).testBit 5 = (0 : Nat).testBit 5 := by rw [show (2 : Nat) ^ 5 = 32 from rfl, h]
    rw [Nat.testBit_and, Nat.testBit_two_pow_self, Nat.zero_testBit, Bool.and_true, hb] at q
    have q' := of_decide_eq_false q
    rw [show (2 : Nat) ^ 5 = 32 from rfl] at q'
    omega
  · intro h
    apply Nat.eq_of_testBit_eq
    intro i
    rw [show (32 : Nat) = 2 ^ 5 from rfl, Nat.testBit_and, Nat.testBit_two_pow, Nat.zero_testBit]
    by_cases hi : 5 = i
    · subst hi
      have q : ¬ (n / 2 ^ 5 % 2 = 1) := by rw [show (2 : Nat) ^ 5 = 32 from rfl]; omega
      rw [hb, decide_eq_false q, Bool.false_and]
    · rw [decide_eq_false hi, Bool.and_false]
theorem own_bit5 (x : Int32) : (x &&& (32 : Int32)) = (0 : Int32) ↔ x.toInt / 32 % 2 = 0 := by
  have h1 : (x &&& (32 : Int32)).toBitVec.toNat = x.toBitVec.toNat &&& 32 := by
    rw [Int32.toBitVec_and, BitVec.toNat_and]; rfl
  have h2 : x.toInt = x.toBitVec.toInt := rfl
  have h3 := BitVec.toInt_eq_toNat_cond x.toBitVec
  have h4 := x.toBitVec.isLt
  have h5 : (x &&& (32 : Int32)) = (0 : Int32) ↔ (x &&& (32 : Int32)).toBitVec.toNat = 0 := by
    rw [← Int32.toBitVec_inj, ← BitVec.toNat_inj]; rfl
  rw [h5, h1, own_nbit5, h2, h3]
  split <;> omega
theorem own_m31 (a b : Int) : (a * 256 + b) % 31 = 0 ↔ (a * 8 + b) % 31 = 0 := by omega
theorem own_eq (x y : Int32) {dfl win chk nod ex : Int32} (h1 : dfl = (if ((x &&& (255 : Int32)) &&& (15 : Int32)) = (8 : Int32) then (1 : Int32) else (0 : Int32))) (h2 : win = (if (x &&& (255 : Int32)) < (128 : Int32) then (1 : Int32) else (0 : Int32)))
    (h3 : chk = (if ((((x &&& (255 : Int32)) * (8 : Int32)) + (y &&& (255 : Int32))) % (31 : Int32)) = (0 : Int32) then (1 : Int32) else (0 : Int32))) (h4 : nod = (if (((y &&& (255 : Int32)) >>> ((5 : Int32) &&& 31)) &&& (1 : Int32)) = (0 : Int32) then (1 : Int32) else (0 : Int32)))
    (h5 : ex = (if dfl = (0 : Int32) then (0 : Int32) else (if win = (0 : Int32) then (0 : Int32) else (if chk = (0 : Int32) then (0 : Int32) else (if nod = (0 : Int32) then (0 : Int32) else (1 : Int32)))))) :
    own_beg (nar .byte (x.toInt8.toInt32)) (nar .byte (y.toInt8.toInt32)) = ex := by
  obtain ⟨b0, hb0⟩ : ∃ b : Int32, b = nar .byte (x.toInt8.toInt32) := ⟨_, rfl⟩
  obtain ⟨b1, hb1⟩ : ∃ b : Int32, b = nar .byte (y.toInt8.toInt32) := ⟨_, rfl⟩
  have i1 : (b0.toInt - x.toInt) % 256 = 0 := by
    have := c_i2b x; have := c_i2b x.toInt8.toInt32; rw [hb0]; show ((x.toInt8.toInt32.toInt8.toInt32).toInt - x.toInt) % 256 = 0; omega
  have i2 : (b1.toInt - y.toInt) % 256 = 0 := by
    have := c_i2b y; have := c_i2b y.toInt8.toInt32; rw [hb1]; show ((y.toInt8.toInt32.toInt8.toInt32).toInt - y.toInt) % 256 = 0; omega
  rw [← hb0, ← hb1]
  have m1 := c_mask b0 (255 : Int32) 8 (by decide) (by decide)
  have m2 := c_mask b1 (255 : Int32) 8 (by decide) (by decide)
  have m3 := c_mask x (255 : Int32) 8 (by decide) (by decide)
  have m4 := c_mask y (255 : Int32) 8 (by decide) (by decide)
  have ex0 : (b0 &&& (255 : Int32)) = (x &&& (255 : Int32)) := by rw [← Int32.toInt_inj]; omega
  have ey0 : (b1 &&& (255 : Int32)) = (y &&& (255 : Int32)) := by rw [← Int32.toInt_inj]; omega
  have n0 := c_mask b0 (15 : Int32) 4 (by decide) (by decide)
  have n1 := c_mask (x &&& (255 : Int32)) (15 : Int32) 4 (by decide) (by decide)
  have q1 : (b0 &&& (15 : Int32)) = ((x &&& (255 : Int32)) &&& (15 : Int32)) := by rw [← Int32.toInt_inj]; omega
  have q4 : ((b1 &&& (32 : Int32)) = (0 : Int32)) ↔ ((((y &&& (255 : Int32)) >>> ((5 : Int32) &&& 31)) &&& (1 : Int32)) = (0 : Int32)) := by
    rw [own_bit5]
    have s1 := c_ishr (y &&& (255 : Int32)) (5 : Int32) 5 (by decide)
    have s2 := c_mask ((y &&& (255 : Int32)) >>> ((5 : Int32) &&& 31)) (1 : Int32) 1 (by decide) (by decide)
    have e0 : (0 : Int32).toInt = 0 := by decide
    rw [← Int32.toInt_inj]
    omega
  unfold own_beg
  rw [ex0, ey0, q1]
  generalize (x &&& (255 : Int32)) = cm at *
  generalize (y &&& (255 : Int32)) = fl at *
  have q2 : ((7 : Int32) < ((cm.toUInt32 >>> ((4 : Int32) &&& 31).toUInt32).toInt32)) ↔ ¬ (cm < (128 : Int32)) := by
    have s1 := c_iushr cm (4 : Int32) 4 (by decide) (by decide)
    have e7 : (7 : Int32).toInt = 7 := by decide
    have e8 : (128 : Int32).toInt = 128 := by decide
    rw [Int32.lt_iff_toInt_lt, Int32.lt_iff_toInt_lt]
    omega
  have q3 : (((cm <<< ((8 : Int32) &&& 31)) ||| fl) % (31 : Int32)) = (0 : Int32) ↔ (((cm * (8 : Int32)) + fl) % (31 : Int32)) = (0 : Int32) := by
    have s1 := c_ishl cm (8 : Int32) 8 (by decide)
    have r1 := rng32 (cm <<< ((8 : Int32) &&& 31))
    have s2 := c_or (cm <<< ((8 : Int32) &&& 31)) fl 8 (by decide) 256 (by decide) (by omega) (by omega) (by omega)
    have r2 := rng32 ((cm <<< ((8 : Int32) &&& 31)) ||| fl)
    have s3 := (c_irem ((cm <<< ((8 : Int32) &&& 31)) ||| fl) (31 : Int32) 31 (by decide)).1 (by omega)
    have s4 := c_imul cm (8 : Int32)
    have e8 : (8 : Int32).toInt = 8 := by decide
    rw [e8] at s4
    have r4 := rng32 (cm * (8 : Int32))
    have s5 := c_iadd (cm * (8 : Int32)) fl
    have r5 := rng32 ((cm * (8 : Int32)) + fl)
    have s6 := (c_irem ((cm * (8 : Int32)) + fl) (31 : Int32) 31 (by decide)).1 (by omega)
    have e0 : (0 : Int32).toInt = 0 := by decide
    have w1 : ((cm <<< ((8 : Int32) &&& 31)) ||| fl).toInt = cm.toInt * 256 + fl.toInt := by omega
    have w2 : ((cm * (8 : Int32)) + fl).toInt = cm.toInt * 8 + fl.toInt := by omega
    rw [← Int32.toInt_inj, ← Int32.toInt_inj, s3, s6, w1, w2, e0]
    exact own_m31 _ _
  simp only [q2, q3, q4]
  subst h1 h2 h3 h4 h5
  by_cases a1 : (cm &&& (15 : Int32)) = (8 : Int32) <;> by_cases a2 : cm < (128 : Int32) <;> by_cases a3 : (((cm * (8 : Int32)) + fl) % (31 : Int32)) = (0 : Int32) <;> by_cases a4 : ((fl >>> ((5 : Int32) &&& 31)) &&& (1 : Int32)) = (0 : Int32) <;> simp [a1, a2, a3, a4]
theorem own_d3_73 : decode prog_203_method_4_code 73 = .ok (.ireturn, 1) := by decide +kernel
def Q_rm3 (Z : State) (a1 a2 : Addr) (p3 : Int32) (k2 : ClassId) (z2 : Int32) (vs2 : List Value) (d2 : Value) (b0 b1 : Int32) (h0 : Heap) (n0 : Nat) (v : Option Value) (h : Heap) (L : List Loc) : Prop := v = some (.int (own_beg b0 b1)) ∧ Fr n0 L ∧ h = h0
set_option maxRecDepth 65536 in
set_option maxHeartbeats 40000000 in
theorem rm3 (l : Launch) (Z : State) (a0 : Array Value) (hw : ∀ d ∈ tables_1, d.before a0 Z = true) (ws : List Jvm.Cond) (a1 a2 : Addr) (p3 : Int32) (k2 : ClassId) (z2 : Int32) (vs2 : List Value) (d2 : Value) (b0 b1 : Int32) (h0 : Heap) (n0 : Nat) (Z0 : n0 ≤ h0.size) (V2 : Arv Z h0 a2 k2 .byte z2 vs2 d2) (hz : ¬ z2 < (2 : Int32)) (hz0 : (0 : Int32) < z2) (hz1 : (1 : Int32) < z2) (u0 : vs2.getD 0 d2 = .int b0) (u1 : vs2.getD 1 d2 = .int b1) :
    MetFree l (⟨"com/example/columnwire/columnwire/codec/ZlibStream", "beginsAsBlock", "([BI)Z"⟩ : MethodName) (head1 (Jvm.Cond.code (⟨"com/example/columnwire/columnwire/codec/ZlibStream", "beginsAsBlock", "([BI)Z"⟩ : MethodName) prog_203_method_4_code 4 (some .boolean) :: ws) ({ frames := 0, cells := 0, slots := 0, locals := 0 } : Room)) (fun a U => a = #[(.ref a1), (.ref a2), (.int p3)] ∧ Z.Warmed39 U.vm ∧ U.heap = h0) (fun _ _ _ _ _ => True) (fun _ U o U' => ∃ v L, o = .returned v ∧ Q_rm3 Z a1 a2 p3 k2 z2 vs2 d2 b0 b1 h0 n0 v U'.heap L ∧ FrameEnd U o U' L ({ frames := 0, cells := 0, slots := 0, locals := 0 } : Room).cells ({ frames := 0, cells := 0, slots := 0, locals := 0 } : Room).slots) := by
  refine MetFree.of_bodySF (plainFor_of_name own_pn0) hisR ?_
  intro p e s m args below meth c s₁ Bd hml0 hP hK
  obtain ⟨rfl, hZ, hh⟩ := hP
  have hx := Bd.exec
  have hby := Bd.bytes
  have hml : c.maxLocals = 4 := hml0
  have hown : s.vm.findClass "com/example/columnwire/columnwire/codec/ZlibStream" = some m.cls := findClass_of_methodNamed Bd.named
  have hnm := (name_of_methodNamed Bd.named Bd.method).1
  have X0 : Stand p l e ({ frames := 0, cells := 0, slots := 0, locals := 0 } : Room) s m #[(.ref a1), (.ref a2), (.int p3)] below meth c s₁ [] 0 0 := Stand.of_body Bd
  have e0 : s₁.heap = h0 := by rw [← hh, Bd.state]; rfl
  have N0 := Fr.nil n0
  have R0 : ∀ t, Steps p.tables e below (s₁.setTop (mkF m 0 #[.val (.ref a1), .val (.ref a2), .val (.int p3), .unset] [])) t → Steps p.tables e below (s₁.setTop (entryFrame m #[(.ref a1), (.ref a2), (.int p3)] 4)) t := fun t k => castTop (own_ef_rm3 m a1 a2 p3) k
  have R1 : ∀ t, Steps p.tables e below (s₁.setTop (mkF m 1 #[.val (.ref a1), .val (.ref a2), .val (.int p3), .unset] [(.ref a2)])) t → Steps p.tables e below (s₁.setTop (entryFrame m #[(.ref a1), (.ref a2), (.int p3)] 4)) t := by
    intro t k
    refine R0 t ?_
    show Steps p.tables e below (s₁.setTop (mkF m 0 #[.val (.ref a1), .val (.ref a2), .val (.int p3), .unset] [])) _
    refine XS.aloadN X0.here hx rfl (hb hby own_d3_0) rfl rfl ?_
    exact k
  obtain ⟨cl2, Ar2, q2, S2, N2', H2, G2⟩ := id V2
  have R3 : ∀ t, Steps p.tables e below (s₁.setTop (mkF m 10 #[.val (.ref a1), .val (.ref a2), .val (.int p3), .unset] [(.int (0 : Int32)), (.ref a2)])) t → Steps p.tables e below (s₁.setTop (entryFrame m #[(.ref a1), (.ref a2), (.int p3)] 4)) t := by
    intro t k
    refine R1 t ?_
    show Steps p.tables e below (s₁.setTop (mkF m 1 #[.val (.ref a1), .val (.ref a2), .val (.int p3), .unset] [(.ref a2)])) _
    refine X0.arraylength hx (by rw [e0]; exact Ar2.1) (State.isArrayOf_alike hZ.alike Ar2.2.1) (g := (mkF m 1 #[.val (.ref a1), .val (.ref a2), .val (.int p3), .unset] [(.ref a2)])) rfl rfl (hb hby own_d3_1) _ ?_
    rw [len_of S2 N2']
    show Steps p.tables e below (s₁.setTop (mkF m 2 #[.val (.ref a1), .val (.ref a2), .val (.int p3), .unset] [(.int z2)])) _
    refine XS.iconst X0.here hx rfl (hb hby own_d3_2) ?_
    show Steps p.tables e below (s₁.setTop (mkF m 3 #[.val (.ref a1), .val (.ref a2), .val (.int p3), .unset] [(.int (2 : Int32)), (.int z2)])) _
    refine XS.icmpYes X0.here hx rfl (pc0 := 3) (pc' := 8) rfl (hb hby own_d3_3) rfl (flt hz).2.1 (by decide) (by decide) ?_
    show Steps p.tables e below (s₁.setTop (mkF m 8 #[.val (.ref a1), .val (.ref a2), .val (.int p3), .unset] [])) _
    refine XS.aloadN X0.here hx rfl (hb hby own_d3_8) rfl rfl ?_
    show Steps p.tables e below (s₁.setTop (mkF m 9 #[.val (.ref a1), .val (.ref a2), .val (.int p3), .unset] [(.ref a2)])) _
    refine XS.iconst X0.here hx rfl (hb hby own_d3_9) ?_
    exact k
  have hin2_0 : ¬ ((0 : Int32) < 0 ∨ cl2.slots.size ≤ ((0 : Int32)).toNatClampNeg) := inb_of S2 ⟨by decide, hz0⟩
  have hat2_0 : cl2.slots[((0 : Int32)).toNatClampNeg]? = some (.int b0) := H2.at hin2_0 u0
  have R4 : ∀ t, Steps p.tables e below (s₁.setTop (mkF m 20 #[.val (.ref a1), .val (.ref a2), .val (.int p3), .unset] [(.int (1 : Int32)), (.ref a2), (.int ((b0 &&& (255 : Int32)) <<< ((8 : Int32) &&& 31)))])) t → Steps p.tables e below (s₁.setTop (entryFrame m #[(.ref a1), (.ref a2), (.int p3)] 4)) t := by
    intro t k
    refine R3 t ?_
    show Steps p.tables e below (s₁.setTop (mkF m 10 #[.val (.ref a1), .val (.ref a2), .val (.int p3), .unset] [(.int (0 : Int32)), (.ref a2)])) _
    refine X0.baloadBytes hx (j := (0 : Int32)) (v := (.int b0)) (by rw [e0]; exact Ar2.1) (State.isArrayOf_alike hZ.alike Ar2.2.1) Ar2.2.2 hin2_0 hat2_0 (g := (mkF m 10 #[.val (.ref a1), .val (.ref a2), .val (.int p3), .unset] [(.int (0 : Int32)), (.ref a2)])) rfl rfl (hb hby own_d3_10) _ ?_
    show Steps p.tables e below (s₁.setTop (mkF m 11 #[.val (.ref a1), .val (.ref a2), .val (.int p3), .unset] [(.int b0)])) _
    refine XS.sipush X0.here hx rfl (hb hby own_d3_11) ?_
    show Steps p.tables e below (s₁.setTop (mkF m 14 #[.val (.ref a1), .val (.ref a2), .val (.int p3), .unset] [(.int (255 : Int32)), (.int b0)])) _
    refine XS.iand X0.here hx rfl (hb hby own_d3_14) rfl ?_
    show Steps p.tables e below (s₁.setTop (mkF m 15 #[.val (.ref a1), .val (.ref a2), .val (.int p3), .unset] [(.int (b0 &&& (255 : Int32)))])) _
    refine XS.bipush X0.here hx rfl (hb hby own_d3_15) ?_
    show Steps p.tables e below (s₁.setTop (mkF m 17 #[.val (.ref a1), .val (.ref a2), .val (.int p3), .unset] [(.int (8 : Int32)), (.int (b0 &&& (255 : Int32)))])) _
    refine XS.ishl X0.here hx rfl (hb hby own_d3_17) rfl ?_
    show Steps p.tables e below (s₁.setTop (mkF m 18 #[.val (.ref a1), .val (.ref a2), .val (.int p3), .unset] [(.int ((b0 &&& (255 : Int32)) <<< ((8 : Int32) &&& 31)))])) _
    refine XS.aloadN X0.here hx rfl (hb hby own_d3_18) rfl rfl ?_
    show Steps p.tables e below (s₁.setTop (mkF m 19 #[.val (.ref a1), .val (.ref a2), .val (.int p3), .unset] [(.ref a2), (.int ((b0 &&& (255 : Int32)) <<< ((8 : Int32) &&& 31)))])) _
    refine XS.iconst X0.here hx rfl (hb hby own_d3_19) ?_
    exact k
  have hin2_1 : ¬ ((1 : Int32) < 0 ∨ cl2.slots.size ≤ ((1 : Int32)).toNatClampNeg) := inb_of S2 ⟨by decide, hz1⟩
  have hat2_1 : cl2.slots[((1 : Int32)).toNatClampNeg]? = some (.int b1) := H2.at hin2_1 u1
  have R5 : ∀ t, Steps p.tables e below (s₁.setTop (mkF m 27 #[.val (.ref a1), .val (.ref a2), .val (.int p3), .val (.int (((b0 &&& (255 : Int32)) <<< ((8 : Int32) &&& 31)) ||| (b1 &&& (255 : Int32))))] [])) t → Steps p.tables e below (s₁.setTop (entryFrame m #[(.ref a1), (.ref a2), (.int p3)] 4)) t := by
    intro t k
    refine R4 t ?_
    show Steps p.tables e below (s₁.setTop (mkF m 20 #[.val (.ref a1), .val (.ref a2), .val (.int p3), .unset] [(.int (1 : Int32)), (.ref a2), (.int ((b0 &&& (255 : Int32)) <<< ((8 : Int32) &&& 31)))])) _
    refine X0.baloadBytes hx (j := (1 : Int32)) (v := (.int b1)) (by rw [e0]; exact Ar2.1) (State.isArrayOf_alike hZ.alike Ar2.2.1) Ar2.2.2 hin2_1 hat2_1 (g := (mkF m 20 #[.val (.ref a1), .val (.ref a2), .val (.int p3), .unset] [(.int (1 : Int32)), (.ref a2), (.int ((b0 &&& (255 : Int32)) <<< ((8 : Int32) &&& 31)))])) rfl rfl (hb hby own_d3_20) _ ?_
    show Steps p.tables e below (s₁.setTop (mkF m 21 #[.val (.ref a1), .val (.ref a2), .val (.int p3), .unset] [(.int b1), (.int ((b0 &&& (255 : Int32)) <<< ((8 : Int32) &&& 31)))])) _
    refine XS.sipush X0.here hx rfl (hb hby own_d3_21) ?_
    show Steps p.tables e below (s₁.setTop (mkF m 24 #[.val (.ref a1), .val (.ref a2), .val (.int p3), .unset] [(.int (255 : Int32)), (.int b1), (.int ((b0 &&& (255 : Int32)) <<< ((8 : Int32) &&& 31)))])) _
    refine XS.iand X0.here hx rfl (hb hby own_d3_24) rfl ?_
    show Steps p.tables e below (s₁.setTop (mkF m 25 #[.val (.ref a1), .val (.ref a2), .val (.int p3), .unset] [(.int (b1 &&& (255 : Int32))), (.int ((b0 &&& (255 : Int32)) <<< ((8 : Int32) &&& 31)))])) _
    refine XS.ior X0.here hx rfl (hb hby own_d3_25) rfl ?_
    show Steps p.tables e below (s₁.setTop (mkF m 26 #[.val (.ref a1), .val (.ref a2), .val (.int p3), .unset] [(.int (((b0 &&& (255 : Int32)) <<< ((8 : Int32) &&& 31)) ||| (b1 &&& (255 : Int32))))])) _
    refine XS.istoreN X0.here hx rfl (hb hby own_d3_26) rfl (l' := #[.val (.ref a1), .val (.ref a2), .val (.int p3), .val (.int (((b0 &&& (255 : Int32)) <<< ((8 : Int32) &&& 31)) ||| (b1 &&& (255 : Int32))))]) rfl ?_
    exact k
  obtain ⟨res, hres, R6⟩ : ∃ (res : Int32), res = (if (b0 &&& (15 : Int32)) = (8 : Int32) then (if (7 : Int32) < (((b0 &&& (255 : Int32)).toUInt32 >>> ((4 : Int32) &&& 31).toUInt32).toInt32) then (0 : Int32) else (if ((((b0 &&& (255 : Int32)) <<< ((8 : Int32) &&& 31)) ||| (b1 &&& (255 : Int32))) % (31 : Int32)) = (0 : Int32) then (if (b1 &&& (32 : Int32)) = (0 : Int32) then (1 : Int32) else (0 : Int32)) else (0 : Int32))) else (0 : Int32)) ∧ (∀ t, Steps p.tables e below (s₁.setTop (mkF m 73 #[.val (.ref a1), .val (.ref a2), .val (.int p3), .val (.int (((b0 &&& (255 : Int32)) <<< ((8 : Int32) &&& 31)) ||| (b1 &&& (255 : Int32))))] [(.int res)])) t → Steps p.tables e below (s₁.setTop (entryFrame m #[(.ref a1), (.ref a2), (.int p3)] 4)) t) := by
    by_cases hc35_0 : (b0 &&& (15 : Int32)) = (8 : Int32)
    · by_cases hc49_1 : (7 : Int32) < (((b0 &&& (255 : Int32)).toUInt32 >>> ((4 : Int32) &&& 31).toUInt32).toInt32)
      · refine ⟨(0 : Int32), (by simp only [if_pos hc35_0, if_pos hc49_1]), ?_⟩
        intro t k
        refine R5 t ?_
        show Steps p.tables e below (s₁.setTop (mkF m 27 #[.val (.ref a1), .val (.ref a2), .val (.int p3), .val (.int (((b0 &&& (255 : Int32)) <<< ((8 : Int32) &&& 31)) ||| (b1 &&& (255 : Int32))))] [])) _
        refine XS.aloadN X0.here hx rfl (hb hby own_d3_27) rfl rfl ?_
        show Steps p.tables e below (s₁.setTop (mkF m 28 #[.val (.ref a1), .val (.ref a2), .val (.int p3), .val (.int (((b0 &&& (255 : Int32)) <<< ((8 : Int32) &&& 31)) ||| (b1 &&& (255 : Int32))))] [(.ref a2)])) _
        refine XS.iconst X0.here hx rfl (hb hby own_d3_28) ?_
        show Steps p.tables e below (s₁.setTop (mkF m 29 #[.val (.ref a1), .val (.ref a2), .val (.int p3), .val (.int (((b0 &&& (255 : Int32)) <<< ((8 : Int32) &&& 31)) ||| (b1 &&& (255 : Int32))))] [(.int (0 : Int32)), (.ref a2)])) _
        refine X0.baloadBytes hx (j := (0 : Int32)) (v := (.int b0)) (by rw [e0]; exact Ar2.1) (State.isArrayOf_alike hZ.alike Ar2.2.1) Ar2.2.2 hin2_0 hat2_0 (g := (mkF m 29 #[.val (.ref a1), .val (.ref a2), .val (.int p3), .val (.int (((b0 &&& (255 : Int32)) <<< ((8 : Int32) &&& 31)) ||| (b1 &&& (255 : Int32))))] [(.int (0 : Int32)), (.ref a2)])) rfl rfl (hb hby own_d3_29) _ ?_
        show Steps p.tables e below (s₁.setTop (mkF m 30 #[.val (.ref a1), .val (.ref a2), .val (.int p3), .val (.int (((b0 &&& (255 : Int32)) <<< ((8 : Int32) &&& 31)) ||| (b1 &&& (255 : Int32))))] [(.int b0)])) _
        refine XS.bipush X0.here hx rfl (hb hby own_d3_30) ?_
        show Steps p.tables e below (s₁.setTop (mkF m 32 #[.val (.ref a1), .val (.ref a2), .val (.int p3), .val (.int (((b0 &&& (255 : Int32)) <<< ((8 : Int32) &&& 31)) ||| (b1 &&& (255 : Int32))))] [(.int (15 : Int32)), (.int b0)])) _
        refine XS.iand X0.here hx rfl (hb hby own_d3_32) rfl ?_
        show Steps p.tables e below (s₁.setTop (mkF m 33 #[.val (.ref a1), .val (.ref a2), .val (.int p3), .val (.int (((b0 &&& (255 : Int32)) <<< ((8 : Int32) &&& 31)) ||| (b1 &&& (255 : Int32))))] [(.int (b0 &&& (15 : Int32)))])) _
        refine XS.bipush X0.here hx rfl (hb hby own_d3_33) ?_
        show Steps p.tables e below (s₁.setTop (mkF m 35 #[.val (.ref a1), .val (.ref a2), .val (.int p3), .val (.int (((b0 &&& (255 : Int32)) <<< ((8 : Int32) &&& 31)) ||| (b1 &&& (255 : Int32))))] [(.int (8 : Int32)), (.int (b0 &&& (15 : Int32)))])) _
        refine XS.icmpNo X0.here hx rfl (hb hby own_d3_35) rfl (teq hc35_0).2 ?_
        show Steps p.tables e below (s₁.setTop (mkF m 38 #[.val (.ref a1), .val (.ref a2), .val (.int p3), .val (.int (((b0 &&& (255 : Int32)) <<< ((8 : Int32) &&& 31)) ||| (b1 &&& (255 : Int32))))] [])) _
        refine XS.aloadN X0.here hx rfl (hb hby own_d3_38) rfl rfl ?_
        show Steps p.tables e below (s₁.setTop (mkF m 39 #[.val (.ref a1), .val (.ref a2), .val (.int p3), .val (.int (((b0 &&& (255 : Int32)) <<< ((8 : Int32) &&& 31)) ||| (b1 &&& (255 : Int32))))] [(.ref a2)])) _
        refine XS.iconst X0.here hx rfl (hb hby own_d3_39) ?_
        show Steps p.tables e below (s₁.setTop (mkF m 40 #[.val (.ref a1), .val (.ref a2), .val (.int p3), .val (.int (((b0 &&& (255 : Int32)) <<< ((8 : Int32) &&& 31)) ||| (b1 &&& (255 : Int32))))] [(.int (0 : Int32)), (.ref a2)])) _
        refine X0.baloadBytes hx (j := (0 : Int32)) (v := (.int b0)) (by rw [e0]; exact Ar2.1) (State.isArrayOf_alike hZ.alike Ar2.2.1) Ar2.2.2 hin2_0 hat2_0 (g := (mkF m 40 #[.val (.ref a1), .val (.ref a2), .val (.int p3), .val (.int (((b0 &&& (255 : Int32)) <<< ((8 : Int32) &&& 31)) ||| (b1 &&& (255 : Int32))))] [(.int (0 : Int32)), (.ref a2)])) rfl rfl (hb hby own_d3_40) _ ?_
        show Steps p.tables e below (s₁.setTop (mkF m 41 #[.val (.ref a1), .val (.ref a2), .val (.int p3), .val (.int (((b0 &&& (255 : Int32)) <<< ((8 : Int32) &&& 31)) ||| (b1 &&& (255 : Int32))))] [(.int b0)])) _
        refine XS.sipush X0.here hx rfl (hb hby own_d3_41) ?_
        show Steps p.tables e below (s₁.setTop (mkF m 44 #[.val (.ref a1), .val (.ref a2), .val (.int p3), .val (.int (((b0 &&& (255 : Int32)) <<< ((8 : Int32) &&& 31)) ||| (b1 &&& (255 : Int32))))] [(.int (255 : Int32)), (.int b0)])) _
        refine XS.iand X0.here hx rfl (hb hby own_d3_44) rfl ?_
        show Steps p.tables e below (s₁.setTop (mkF m 45 #[.val (.ref a1), .val (.ref a2), .val (.int p3), .val (.int (((b0 &&& (255 : Int32)) <<< ((8 : Int32) &&& 31)) ||| (b1 &&& (255 : Int32))))] [(.int (b0 &&& (255 : Int32)))])) _
        refine XS.iconst X0.here hx rfl (hb hby own_d3_45) ?_
        show Steps p.tables e below (s₁.setTop (mkF m 46 #[.val (.ref a1), .val (.ref a2), .val (.int p3), .val (.int (((b0 &&& (255 : Int32)) <<< ((8 : Int32) &&& 31)) ||| (b1 &&& (255 : Int32))))] [(.int (4 : Int32)), (.int (b0 &&& (255 : Int32)))])) _
        refine XS.iushr X0.here hx rfl (hb hby own_d3_46) rfl ?_
        show Steps p.tables e below (s₁.setTop (mkF m 47 #[.val (.ref a1), .val (.ref a2), .val (.int p3), .val (.int (((b0 &&& (255 : Int32)) <<< ((8 : Int32) &&& 31)) ||| (b1 &&& (255 : Int32))))] [(.int (((b0 &&& (255 : Int32)).toUInt32 >>> ((4 : Int32) &&& 31).toUInt32).toInt32))])) _
        refine XS.bipush X0.here hx rfl (hb hby own_d3_47) ?_
        show Steps p.tables e below (s₁.setTop (mkF m 49 #[.val (.ref a1), .val (.ref a2), .val (.int p3), .val (.int (((b0 &&& (255 : Int32)) <<< ((8 : Int32) &&& 31)) ||| (b1 &&& (255 : Int32))))] [(.int (7 : Int32)), (.int (((b0 &&& (255 : Int32)).toUInt32 >>> ((4 : Int32) &&& 31).toUInt32).toInt32))])) _
        refine XS.icmpYes X0.here hx rfl (pc0 := 49) (pc' := 72) rfl (hb hby own_d3_49) rfl (tlt hc49_1).2.2.1 (by decide) (by decide) ?_
        show Steps p.tables e below (s₁.setTop (mkF m 72 #[.val (.ref a1), .val (.ref a2), .val (.int p3), .val (.int (((b0 &&& (255 : Int32)) <<< ((8 : Int32) &&& 31)) ||| (b1 &&& (255 : Int32))))] [])) _
        refine XS.iconst X0.here hx rfl (hb hby own_d3_72) ?_
        exact k
      · by_cases hc56_2 : ((((b0 &&& (255 : Int32)) <<< ((8 : Int32) &&& 31)) ||| (b1 &&& (255 : Int32))) % (31 : Int32)) = (0 : Int32)
        · by_cases hc65_3 : (b1 &&& (32 : Int32)) = (0 : Int32)
          · refine ⟨(1 : Int32), (by simp only [if_pos hc35_0, if_neg hc49_1, if_pos hc56_2, if_pos hc65_3]), ?_⟩
            intro t k
            refine R5 t ?_
            show Steps p.tables e below (s₁.setTop (mkF m 27 #[.val (.ref a1), .val (.ref a2), .val (.int p3), .val (.int (((b0 &&& (255 : Int32)) <<< ((8 : Int32) &&& 31)) ||| (b1 &&& (255 : Int32))))] [])) _
            refine XS.aloadN X0.here hx rfl (hb hby own_d3_27) rfl rfl ?_
            show Steps p.tables e below (s₁.setTop (mkF m 28 #[.val (.ref a1), .val (.ref a2), .val (.int p3), .val (.int (((b0 &&& (255 : Int32)) <<< ((8 : Int32) &&& 31)) ||| (b1 &&& (255 : Int32))))] [(.ref a2)])) _
            refine XS.iconst X0.here hx rfl (hb hby own_d3_28) ?_
            show Steps p.tables e below (s₁.setTop (mkF m 29 #[.val (.ref a1), .val (.ref a2), .val (.int p3), .val (.int (((b0 &&& (255 : Int32)) <<< ((8 : Int32) &&& 31)) ||| (b1 &&& (255 : Int32))))] [(.int (0 : Int32)), (.ref a2)])) _
            refine X0.baloadBytes hx (j := (0 : Int32)) (v := (.int b0)) (by rw [e0]; exact Ar2.1) (State.isArrayOf_alike hZ.alike Ar2.2.1) Ar2.2.2 hin2_0 hat2_0 (g := (mkF m 29 #[.val (.ref a1), .val (.ref a2), .val (.int p3), .val (.int (((b0 &&& (255 : Int32)) <<< ((8 : Int32) &&& 31)) ||| (b1 &&& (255 : Int32))))] [(.int (0 : Int32)), (.ref a2)])) rfl rfl (hb hby own_d3_29) _ ?_
            show Steps p.tables e below (s₁.setTop (mkF m 30 #[.val (.ref a1), .val (.ref a2), .val (.int p3), .val (.int (((b0 &&& (255 : Int32)) <<< ((8 : Int32) &&& 31)) ||| (b1 &&& (255 : Int32))))] [(.int b0)])) _
            refine XS.bipush X0.here hx rfl (hb hby own_d3_30) ?_
            show Steps p.tables e below (s₁.setTop (mkF m 32 #[.val (.ref a1), .val (.ref a2), .val (.int p3), .val (.int (((b0 &&& (255 : Int32)) <<< ((8 : Int32) &&& 31)) ||| (b1 &&& (255 : Int32))))] [(.int (15 : Int32)), (.int b0)])) _
            refine XS.iand X0.here hx rfl (hb hby own_d3_32) rfl ?_
            show Steps p.tables e below (s₁.setTop (mkF m 33 #[.val (.ref a1), .val (.ref a2), .val (.int p3), .val (.int (((b0 &&& (255 : Int32)) <<< ((8 : Int32) &&& 31)) ||| (b1 &&& (255 : Int32))))] [(.int (b0 &&& (15 : Int32)))])) _
            refine XS.bipush X0.here hx rfl (hb hby own_d3_33) ?_
            show Steps p.tables e below (s₁.setTop (mkF m 35 #[.val (.ref a1), .val (.ref a2), .val (.int p3), .val (.int (((b0 &&& (255 : Int32)) <<< ((8 : Int32) &&& 31)) ||| (b1 &&& (255 : Int32))))] [(.int (8 : Int32)), (.int (b0 &&& (15 : Int32)))])) _
            refine XS.icmpNo X0.here hx rfl (hb hby own_d3_35) rfl (teq hc35_0).2 ?_
            show Steps p.tables e below (s₁.setTop (mkF m 38 #[.val (.ref a1), .val (.ref a2), .val (.int p3), .val (.int (((b0 &&& (255 : Int32)) <<< ((8 : Int32) &&& 31)) ||| (b1 &&& (255 : Int32))))] [])) _
            refine XS.aloadN X0.here hx rfl (hb hby own_d3_38) rfl rfl ?_
            show Steps p.tables e below (s₁.setTop (mkF m 39 #[.val (.ref a1), .val (.ref a2), .val (.int p3), .val (.int (((b0 &&& (255 : Int32)) <<< ((8 : Int32) &&& 31)) ||| (b1 &&& (255 : Int32))))] [(.ref a2)])) _
            refine XS.iconst X0.here hx rfl (hb hby own_d3_39) ?_
            show Steps p.tables e below (s₁.setTop (mkF m 40 #[.val (.ref a1), .val (.ref a2), .val (.int p3), .val (.int (((b0 &&& (255 : Int32)) <<< ((8 : Int32) &&& 31)) ||| (b1 &&& (255 : Int32))))] [(.int (0 : Int32)), (.ref a2)])) _
            refine X0.baloadBytes hx (j := (0 : Int32)) (v := (.int b0)) (by rw [e0]; exact Ar2.1) (State.isArrayOf_alike hZ.alike Ar2.2.1) Ar2.2.2 hin2_0 hat2_0 (g := (mkF m 40 #[.val (.ref a1), .val (.ref a2), .val (.int p3), .val (.int (((b0 &&& (255 : Int32)) <<< ((8 : Int32) &&& 31)) ||| (b1 &&& (255 : Int32))))] [(.int (0 : Int32)), (.ref a2)])) rfl rfl (hb hby own_d3_40) _ ?_
            show Steps p.tables e below (s₁.setTop (mkF m 41 #[.val (.ref a1), .val (.ref a2), .val (.int p3), .val (.int (((b0 &&& (255 : Int32)) <<< ((8 : Int32) &&& 31)) ||| (b1 &&& (255 : Int32))))] [(.int b0)])) _
            refine XS.sipush X0.here hx rfl (hb hby own_d3_41) ?_
            show Steps p.tables e below (s₁.setTop (mkF m 44 #[.val (.ref a1), .val (.ref a2), .val (.int p3), .val (.int (((b0 &&& (255 : Int32)) <<< ((8 : Int32) &&& 31)) ||| (b1 &&& (255 : Int32))))] [(.int (255 : Int32)), (.int b0)])) _
            refine XS.iand X0.here hx rfl (hb hby own_d3_44) rfl ?_
            show Steps p.tables e below (s₁.setTop (mkF m 45 #[.val (.ref a1), .val (.ref a2), .val (.int p3), .val (.int (((b0 &&& (255 : Int32)) <<< ((8 : Int32) &&& 31)) ||| (b1 &&& (255 : Int32))))] [(.int (b0 &&& (255 : Int32)))])) _
            refine XS.iconst X0.here hx rfl (hb hby own_d3_45) ?_
            show Steps p.tables e below (s₁.setTop (mkF m 46 #[.val (.ref a1), .val (.ref a2), .val (.int p3), .val (.int (((b0 &&& (255 : Int32)) <<< ((8 : Int32) &&& 31)) ||| (b1 &&& (255 : Int32))))] [(.int (4 : Int32)), (.int (b0 &&& (255 : Int32)))])) _
            refine XS.iushr X0.here hx rfl (hb hby own_d3_46) rfl ?_
            show Steps p.tables e below (s₁.setTop (mkF m 47 #[.val (.ref a1), .val (.ref a2), .val (.int p3), .val (.int (((b0 &&& (255 : Int32)) <<< ((8 : Int32) &&& 31)) ||| (b1 &&& (255 : Int32))))] [(.int (((b0 &&& (255 : Int32)).toUInt32 >>> ((4 : Int32) &&& 31).toUInt32).toInt32))])) _
            refine XS.bipush X0.here hx rfl (hb hby own_d3_47) ?_
            show Steps p.tables e below (s₁.setTop (mkF m 49 #[.val (.ref a1), .val (.ref a2), .val (.int p3), .val (.int (((b0 &&& (255 : Int32)) <<< ((8 : Int32) &&& 31)) ||| (b1 &&& (255 : Int32))))] [(.int (7 : Int32)), (.int (((b0 &&& (255 : Int32)).toUInt32 >>> ((4 : Int32) &&& 31).toUInt32).toInt32))])) _
            refine XS.icmpNo X0.here hx rfl (hb hby own_d3_49) rfl (flt hc49_1).2.2.1 ?_
            show Steps p.tables e below (s₁.setTop (mkF m 52 #[.val (.ref a1), .val (.ref a2), .val (.int p3), .val (.int (((b0 &&& (255 : Int32)) <<< ((8 : Int32) &&& 31)) ||| (b1 &&& (255 : Int32))))] [])) _
            refine XS.iloadN X0.here hx rfl (hb hby own_d3_52) rfl ?_
            show Steps p.tables e below (s₁.setTop (mkF m 53 #[.val (.ref a1), .val (.ref a2), .val (.int p3), .val (.int (((b0 &&& (255 : Int32)) <<< ((8 : Int32) &&& 31)) ||| (b1 &&& (255 : Int32))))] [(.int (((b0 &&& (255 : Int32)) <<< ((8 : Int32) &&& 31)) ||| (b1 &&& (255 : Int32))))])) _
            refine XS.bipush X0.here hx rfl (hb hby own_d3_53) ?_
            show Steps p.tables e below (s₁.setTop (mkF m 55 #[.val (.ref a1), .val (.ref a2), .val (.int p3), .val (.int (((b0 &&& (255 : Int32)) <<< ((8 : Int32) &&& 31)) ||| (b1 &&& (255 : Int32))))] [(.int (31 : Int32)), (.int (((b0 &&& (255 : Int32)) <<< ((8 : Int32) &&& 31)) ||| (b1 &&& (255 : Int32))))])) _
            refine iremM X0 hx rfl (hb hby own_d3_55) rfl (by decide) ?_
            show Steps p.tables e below (s₁.setTop (mkF m 56 #[.val (.ref a1), .val (.ref a2), .val (.int p3), .val (.int (((b0 &&& (255 : Int32)) <<< ((8 : Int32) &&& 31)) ||| (b1 &&& (255 : Int32))))] [(.int ((((b0 &&& (255 : Int32)) <<< ((8 : Int32) &&& 31)) ||| (b1 &&& (255 : Int32))) % (31 : Int32)))])) _
            refine XS.ifNo X0.here hx rfl (hb hby own_d3_56) rfl ((if0 _ _).trans (teq hc56_2).2) ?_
            show Steps p.tables e below (s₁.setTop (mkF m 59 #[.val (.ref a1), .val (.ref a2), .val (.int p3), .val (.int (((b0 &&& (255 : Int32)) <<< ((8 : Int32) &&& 31)) ||| (b1 &&& (255 : Int32))))] [])) _
            refine XS.aloadN X0.here hx rfl (hb hby own_d3_59) rfl rfl ?_
            show Steps p.tables e below (s₁.setTop (mkF m 60 #[.val (.ref a1), .val (.ref a2), .val (.int p3), .val (.int (((b0 &&& (255 : Int32)) <<< ((8 : Int32) &&& 31)) ||| (b1 &&& (255 : Int32))))] [(.ref a2)])) _
            refine XS.iconst X0.here hx rfl (hb hby own_d3_60) ?_
            show Steps p.tables e below (s₁.setTop (mkF m 61 #[.val (.ref a1), .val (.ref a2), .val (.int p3), .val (.int (((b0 &&& (255 : Int32)) <<< ((8 : Int32) &&& 31)) ||| (b1 &&& (255 : Int32))))] [(.int (1 : Int32)), (.ref a2)])) _
            refine X0.baloadBytes hx (j := (1 : Int32)) (v := (.int b1)) (by rw [e0]; exact Ar2.1) (State.isArrayOf_alike hZ.alike Ar2.2.1) Ar2.2.2 hin2_1 hat2_1 (g := (mkF m 61 #[.val (.ref a1), .val (.ref a2), .val (.int p3), .val (.int (((b0 &&& (255 : Int32)) <<< ((8 : Int32) &&& 31)) ||| (b1 &&& (255 : Int32))))] [(.int (1 : Int32)), (.ref a2)])) rfl rfl (hb hby own_d3_61) _ ?_
            show Steps p.tables e below (s₁.setTop (mkF m 62 #[.val (.ref a1), .val (.ref a2), .val (.int p3), .val (.int (((b0 &&& (255 : Int32)) <<< ((8 : Int32) &&& 31)) ||| (b1 &&& (255 : Int32))))] [(.int b1)])) _
            refine XS.bipush X0.here hx rfl (hb hby own_d3_62) ?_
            show Steps p.tables e below (s₁.setTop (mkF m 64 #[.val (.ref a1), .val (.ref a2), .val (.int p3), .val (.int (((b0 &&& (255 : Int32)) <<< ((8 : Int32) &&& 31)) ||| (b1 &&& (255 : Int32))))] [(.int (32 : Int32)), (.int b1)])) _
            refine XS.iand X0.here hx rfl (hb hby own_d3_64) rfl ?_
            show Steps p.tables e below (s₁.setTop (mkF m 65 #[.val (.ref a1), .val (.ref a2), .val (.int p3), .val (.int (((b0 &&& (255 : Int32)) <<< ((8 : Int32) &&& 31)) ||| (b1 &&& (255 : Int32))))] [(.int (b1 &&& (32 : Int32)))])) _
            refine XS.ifNo X0.here hx rfl (hb hby own_d3_65) rfl ((if0 _ _).trans (teq hc65_3).2) ?_
            show Steps p.tables e below (s₁.setTop (mkF m 68 #[.val (.ref a1), .val (.ref a2), .val (.int p3), .val (.int (((b0 &&& (255 : Int32)) <<< ((8 : Int32) &&& 31)) ||| (b1 &&& (255 : Int32))))] [])) _
            refine XS.iconst X0.here hx rfl (hb hby own_d3_68) ?_
            show Steps p.tables e below (s₁.setTop (mkF m 69 #[.val (.ref a1), .val (.ref a2), .val (.int p3), .val (.int (((b0 &&& (255 : Int32)) <<< ((8 : Int32) &&& 31)) ||| (b1 &&& (255 : Int32))))] [(.int (1 : Int32))])) _
            refine XS.goto X0.here hx rfl (pc0 := 69) (pc' := 73) rfl (hb hby own_d3_69) (by decide) (by decide) ?_
            exact k
          · refine ⟨(0 : Int32), (by simp only [if_pos hc35_0, if_neg hc49_1, if_pos hc56_2, if_neg hc65_3]), ?_⟩
            intro t k
            refine R5 t ?_
            show Steps p.tables e below (s₁.setTop (mkF m 27 #[.val (.ref a1), .val (.ref a2), .val (.int p3), .val (.int (((b0 &&& (255 : Int32)) <<< ((8 : Int32) &&& 31)) ||| (b1 &&& (255 : Int32))))] [])) _
            refine XS.aloadN X0.here hx rfl (hb hby own_d3_27) rfl rfl ?_
            show Steps p.tables e below (s₁.setTop (mkF m 28 #[.val (.ref a1), .val (.ref a2), .val (.int p3), .val (.int (((b0 &&& (255 : Int32)) <<< ((8 : Int32) &&& 31)) ||| (b1 &&& (255 : Int32))))] [(.ref a2)])) _
            refine XS.iconst X0.here hx rfl (hb hby own_d3_28) ?_
            show Steps p.tables e below (s₁.setTop (mkF m 29 #[.val (.ref a1), .val (.ref a2), .val (.int p3), .val (.int (((b0 &&& (255 : Int32)) <<< ((8 : Int32) &&& 31)) ||| (b1 &&& (255 : Int32))))] [(.int (0 : Int32)), (.ref a2)])) _
            refine X0.baloadBytes hx (j := (0 : Int32)) (v := (.int b0)) (by rw [e0]; exact Ar2.1) (State.isArrayOf_alike hZ.alike Ar2.2.1) Ar2.2.2 hin2_0 hat2_0 (g := (mkF m 29 #[.val (.ref a1), .val (.ref a2), .val (.int p3), .val (.int (((b0 &&& (255 : Int32)) <<< ((8 : Int32) &&& 31)) ||| (b1 &&& (255 : Int32))))] [(.int (0 : Int32)), (.ref a2)])) rfl rfl (hb hby own_d3_29) _ ?_
            show Steps p.tables e below (s₁.setTop (mkF m 30 #[.val (.ref a1), .val (.ref a2), .val (.int p3), .val (.int (((b0 &&& (255 : Int32)) <<< ((8 : Int32) &&& 31)) ||| (b1 &&& (255 : Int32))))] [(.int b0)])) _
            refine XS.bipush X0.here hx rfl (hb hby own_d3_30) ?_
            show Steps p.tables e below (s₁.setTop (mkF m 32 #[.val (.ref a1), .val (.ref a2), .val (.int p3), .val (.int (((b0 &&& (255 : Int32)) <<< ((8 : Int32) &&& 31)) ||| (b1 &&& (255 : Int32))))] [(.int (15 : Int32)), (.int b0)])) _
            refine XS.iand X0.here hx rfl (hb hby own_d3_32) rfl ?_
            show Steps p.tables e below (s₁.setTop (mkF m 33 #[.val (.ref a1), .val (.ref a2), .val (.int p3), .val (.int (((b0 &&& (255 : Int32)) <<< ((8 : Int32) &&& 31)) ||| (b1 &&& (255 : Int32))))] [(.int (b0 &&& (15 : Int32)))])) _
            refine XS.bipush X0.here hx rfl (hb hby own_d3_33) ?_
            show Steps p.tables e below (s₁.setTop (mkF m 35 #[.val (.ref a1), .val (.ref a2), .val (.int p3), .val (.int (((b0 &&& (255 : Int32)) <<< ((8 : Int32) &&& 31)) ||| (b1 &&& (255 : Int32))))] [(.int (8 : Int32)), (.int (b0 &&& (15 : Int32)))])) _
            refine XS.icmpNo X0.here hx rfl (hb hby own_d3_35) rfl (teq hc35_0).2 ?_
            show Steps p.tables e below (s₁.setTop (mkF m 38 #[.val (.ref a1), .val (.ref a2), .val (.int p3), .val (.int (((b0 &&& (255 : Int32)) <<< ((8 : Int32) &&& 31)) ||| (b1 &&& (255 : Int32))))] [])) _
            refine XS.aloadN X0.here hx rfl (hb hby own_d3_38) rfl rfl ?_
            show Steps p.tables e below (s₁.setTop (mkF m 39 #[.val (.ref a1), .val (.ref a2), .val (.int p3), .val (.int (((b0 &&& (255 : Int32)) <<< ((8 : Int32) &&& 31)) ||| (b1 &&& (255 : Int32))))] [(.ref a2)])) _
            refine XS.iconst X0.here hx rfl (hb hby own_d3_39) ?_
            show Steps p.tables e below (s₁.setTop (mkF m 40 #[.val (.ref a1), .val (.ref a2), .val (.int p3), .val (.int (((b0 &&& (255 : Int32)) <<< ((8 : Int32) &&& 31)) ||| (b1 &&& (255 : Int32))))] [(.int (0 : Int32)), (.ref a2)])) _
            refine X0.baloadBytes hx (j := (0 : Int32)) (v := (.int b0)) (by rw [e0]; exact Ar2.1) (State.isArrayOf_alike hZ.alike Ar2.2.1) Ar2.2.2 hin2_0 hat2_0 (g := (mkF m 40 #[.val (.ref a1), .val (.ref a2), .val (.int p3), .val (.int (((b0 &&& (255 : Int32)) <<< ((8 : Int32) &&& 31)) ||| (b1 &&& (255 : Int32))))] [(.int (0 : Int32)), (.ref a2)])) rfl rfl (hb hby own_d3_40) _ ?_
            show Steps p.tables e below (s₁.setTop (mkF m 41 #[.val (.ref a1), .val (.ref a2), .val (.int p3), .val (.int (((b0 &&& (255 : Int32)) <<< ((8 : Int32) &&& 31)) ||| (b1 &&& (255 : Int32))))] [(.int b0)])) _
            refine XS.sipush X0.here hx rfl (hb hby own_d3_41) ?_
            show Steps p.tables e below (s₁.setTop (mkF m 44 #[.val (.ref a1), .val (.ref a2), .val (.int p3), .val (.int (((b0 &&& (255 : Int32)) <<< ((8 : Int32) &&& 31)) ||| (b1 &&& (255 : Int32))))] [(.int (255 : Int32)), (.int b0)])) _
            refine XS.iand X0.here hx rfl (hb hby own_d3_44) rfl ?_
            show Steps p.tables e below (s₁.setTop (mkF m 45 #[.val (.ref a1), .val (.ref a2), .val (.int p3), .val (.int (((b0 &&& (255 : Int32)) <<< ((8 : Int32) &&& 31)) ||| (b1 &&& (255 : Int32))))] [(.int (b0 &&& (255 : Int32)))])) _
            refine XS.iconst X0.here hx rfl (hb hby own_d3_45) ?_
            show Steps p.tables e below (s₁.setTop (mkF m 46 #[.val (.ref a1), .val (.ref a2), .val (.int p3), .val (.int (((b0 &&& (255 : Int32)) <<< ((8 : Int32) &&& 31)) ||| (b1 &&& (255 : Int32))))] [(.int (4 : Int32)), (.int (b0 &&& (255 : Int32)))])) _
            refine XS.iushr X0.here hx rfl (hb hby own_d3_46) rfl ?_
            show Steps p.tables e below (s₁.setTop (mkF m 47 #[.val (.ref a1), .val (.ref a2), .val (.int p3), .val (.int (((b0 &&& (255 : Int32)) <<< ((8 : Int32) &&& 31)) ||| (b1 &&& (255 : Int32))))] [(.int (((b0 &&& (255 : Int32)).toUInt32 >>> ((4 : Int32) &&& 31).toUInt32).toInt32))])) _
            refine XS.bipush X0.here hx rfl (hb hby own_d3_47) ?_
            show Steps p.tables e below (s₁.setTop (mkF m 49 #[.val (.ref a1), .val (.ref a2), .val (.int p3), .val (.int (((b0 &&& (255 : Int32)) <<< ((8 : Int32) &&& 31)) ||| (b1 &&& (255 : Int32))))] [(.int (7 : Int32)), (.int (((b0 &&& (255 : Int32)).toUInt32 >>> ((4 : Int32) &&& 31).toUInt32).toInt32))])) _
            refine XS.icmpNo X0.here hx rfl (hb hby own_d3_49) rfl (flt hc49_1).2.2.1 ?_
            show Steps p.tables e below (s₁.setTop (mkF m 52 #[.val (.ref a1), .val (.ref a2), .val (.int p3), .val (.int (((b0 &&& (255 : Int32)) <<< ((8 : Int32) &&& 31)) ||| (b1 &&& (255 : Int32))))] [])) _
            refine XS.iloadN X0.here hx rfl (hb hby own_d3_52) rfl ?_
            show Steps p.tables e below (s₁.setTop (mkF m 53 #[.val (.ref a1), .val (.ref a2), .val (.int p3), .val (.int (((b0 &&& (255 : Int32)) <<< ((8 : Int32) &&& 31)) ||| (b1 &&& (255 : Int32))))] [(.int (((b0 &&& (255 : Int32)) <<< ((8 : Int32) &&& 31)) ||| (b1 &&& (255 : Int32))))])) _
            refine XS.bipush X0.here hx rfl (hb hby own_d3_53) ?_
            show Steps p.tables e below (s₁.setTop (mkF m 55 #[.val (.ref a1), .val (.ref a2), .val (.int p3), .val (.int (((b0 &&& (255 : Int32)) <<< ((8 : Int32) &&& 31)) ||| (b1 &&& (255 : Int32))))] [(.int (31 : Int32)), (.int (((b0 &&& (255 : Int32)) <<< ((8 : Int32) &&& 31)) ||| (b1 &&& (255 : Int32))))])) _
            refine iremM X0 hx rfl (hb hby own_d3_55) rfl (by decide) ?_
            show Steps p.tables e below (s₁.setTop (mkF m 56 #[.val (.ref a1), .val (.ref a2), .val (.int p3), .val (.int (((b0 &&& (255 : Int32)) <<< ((8 : Int32) &&& 31)) ||| (b1 &&& (255 : Int32))))] [(.int ((((b0 &&& (255 : Int32)) <<< ((8 : Int32) &&& 31)) ||| (b1 &&& (255 : Int32))) % (31 : Int32)))])) _
            refine XS.ifNo X0.here hx rfl (hb hby own_d3_56) rfl ((if0 _ _).trans (teq hc56_2).2) ?_
            show Steps p.tables e below (s₁.setTop (mkF m 59 #[.val (.ref a1), .val (.ref a2), .val (.int p3), .val (.int (((b0 &&& (255 : Int32)) <<< ((8 : Int32) &&& 31)) ||| (b1 &&& (255 : Int32))))] [])) _
            refine XS.aloadN X0.here hx rfl (hb hby own_d3_59) rfl rfl ?_
            show Steps p.tables e below (s₁.setTop (mkF m 60 #[.val (.ref a1), .val (.ref a2), .val (.int p3), .val (.int (((b0 &&& (255 : Int32)) <<< ((8 : Int32) &&& 31)) ||| (b1 &&& (255 : Int32))))] [(.ref a2)])) _
            refine XS.iconst X0.here hx rfl (hb hby own_d3_60) ?_
            show Steps p.tables e below (s₁.setTop (mkF m 61 #[.val (.ref a1), .val (.ref a2), .val (.int p3), .val (.int (((b0 &&& (255 : Int32)) <<< ((8 : Int32) &&& 31)) ||| (b1 &&& (255 : Int32))))] [(.int (1 : Int32)), (.ref a2)])) _
            refine X0.baloadBytes hx (j := (1 : Int32)) (v := (.int b1)) (by rw [e0]; exact Ar2.1) (State.isArrayOf_alike hZ.alike Ar2.2.1) Ar2.2.2 hin2_1 hat2_1 (g := (mkF m 61 #[.val (.ref a1), .val (.ref a2), .val (.int p3), .val (.int (((b0 &&& (255 : Int32)) <<< ((8 : Int32) &&& 31)) ||| (b1 &&& (255 : Int32))))] [(.int (1 : Int32)), (.ref a2)])) rfl rfl (hb hby own_d3_61) _ ?_
            show Steps p.tables e below (s₁.setTop (mkF m 62 #[.val (.ref a1), .val (.ref a2), .val (.int p3), .val (.int (((b0 &&& (255 : Int32)) <<< ((8 : Int32) &&& 31)) ||| (b1 &&& (255 : Int32))))] [(.int b1)])) _
            refine XS.bipush X0.here hx rfl (hb hby own_d3_62) ?_
            show Steps p.tables e below (s₁.setTop (mkF m 64 #[.val (.ref a1), .val (.ref a2), .val (.int p3), .val (.int (((b0 &&& (255 : Int32)) <<< ((8 : Int32) &&& 31)) ||| (b1 &&& (255 : Int32))))] [(.int (32 : Int32)), (.int b1)])) _
            refine XS.iand X0.here hx rfl (hb hby own_d3_64) rfl ?_
            show Steps p.tables e below (s₁.setTop (mkF m 65 #[.val (.ref a1), .val (.ref a2), .val (.int p3), .val (.int (((b0 &&& (255 : Int32)) <<< ((8 : Int32) &&& 31)) ||| (b1 &&& (255 : Int32))))] [(.int (b1 &&& (32 : Int32)))])) _
            refine XS.ifYes X0.here hx rfl (pc0 := 65) (pc' := 72) rfl (hb hby own_d3_65) rfl ((if0 _ _).trans (feq hc65_3).2) (by decide) (by decide) ?_
            show Steps p.tables e below (s₁.setTop (mkF m 72 #[.val (.ref a1), .val (.ref a2), .val (.int p3), .val (.int (((b0 &&& (255 : Int32)) <<< ((8 : Int32) &&& 31)) ||| (b1 &&& (255 : Int32))))] [])) _
            refine XS.iconst X0.here hx rfl (hb hby own_d3_72) ?_
            exact k
        · refine ⟨(0 : Int32), (by simp only [if_pos hc35_0, if_neg hc49_1, if_neg hc56_2]), ?_⟩
          intro t k
          refine R5 t ?_
          show Steps p.tables e below (s₁.setTop (mkF m 27 #[.val (.ref a1), .val (.ref a2), .val (.int p3), .val (.int (((b0 &&& (255 : Int32)) <<< ((8 : Int32) &&& 31)) ||| (b1 &&& (255 : Int32))))] [])) _
          refine XS.aloadN X0.here hx rfl (hb hby own_d3_27) rfl rfl ?_
          show Steps p.tables e below (s₁.setTop (mkF m 28 #[.val (.ref a1), .val (.ref a2), .val (.int p3), .val (.int (((b0 &&& (255 : Int32)) <<< ((8 : Int32) &&& 31)) ||| (b1 &&& (255 : Int32))))] [(.ref a2)])) _
          refine XS.iconst X0.here hx rfl (hb hby own_d3_28) ?_
          show Steps p.tables e below (s₁.setTop (mkF m 29 #[.val (.ref a1), .val (.ref a2), .val (.int p3), .val (.int (((b0 &&& (255 : Int32)) <<< ((8 : Int32) &&& 31)) ||| (b1 &&& (255 : Int32))))] [(.int (0 : Int32)), (.ref a2)])) _
          refine X0.baloadBytes hx (j := (0 : Int32)) (v := (.int b0)) (by rw [e0]; exact Ar2.1) (State.isArrayOf_alike hZ.alike Ar2.2.1) Ar2.2.2 hin2_0 hat2_0 (g := (mkF m 29 #[.val (.ref a1), .val (.ref a2), .val (.int p3), .val (.int (((b0 &&& (255 : Int32)) <<< ((8 : Int32) &&& 31)) ||| (b1 &&& (255 : Int32))))] [(.int (0 : Int32)), (.ref a2)])) rfl rfl (hb hby own_d3_29) _ ?_
          show Steps p.tables e below (s₁.setTop (mkF m 30 #[.val (.ref a1), .val (.ref a2), .val (.int p3), .val (.int (((b0 &&& (255 : Int32)) <<< ((8 : Int32) &&& 31)) ||| (b1 &&& (255 : Int32))))] [(.int b0)])) _
          refine XS.bipush X0.here hx rfl (hb hby own_d3_30) ?_
          show Steps p.tables e below (s₁.setTop (mkF m 32 #[.val (.ref a1), .val (.ref a2), .val (.int p3), .val (.int (((b0 &&& (255 : Int32)) <<< ((8 : Int32) &&& 31)) ||| (b1 &&& (255 : Int32))))] [(.int (15 : Int32)), (.int b0)])) _
          refine XS.iand X0.here hx rfl (hb hby own_d3_32) rfl ?_
          show Steps p.tables e below (s₁.setTop (mkF m 33 #[.val (.ref a1), .val (.ref a2), .val (.int p3), .val (.int (((b0 &&& (255 : Int32)) <<< ((8 : Int32) &&& 31)) ||| (b1 &&& (255 : Int32))))] [(.int (b0 &&& (15 : Int32)))])) _
          refine XS.bipush X0.here hx rfl (hb hby own_d3_33) ?_
          show Steps p.tables e below (s₁.setTop (mkF m 35 #[.val (.ref a1), .val (.ref a2), .val (.int p3), .val (.int (((b0 &&& (255 : Int32)) <<< ((8 : Int32) &&& 31)) ||| (b1 &&& (255 : Int32))))] [(.int (8 : Int32)), (.int (b0 &&& (15 : Int32)))])) _
          refine XS.icmpNo X0.here hx rfl (hb hby own_d3_35) rfl (teq hc35_0).2 ?_
          show Steps p.tables e below (s₁.setTop (mkF m 38 #[.val (.ref a1), .val (.ref a2), .val (.int p3), .val (.int (((b0 &&& (255 : Int32)) <<< ((8 : Int32) &&& 31)) ||| (b1 &&& (255 : Int32))))] [])) _
          refine XS.aloadN X0.here hx rfl (hb hby own_d3_38) rfl rfl ?_
          show Steps p.tables e below (s₁.setTop (mkF m 39 #[.val (.ref a1), .val (.ref a2), .val (.int p3), .val (.int (((b0 &&& (255 : Int32)) <<< ((8 : Int32) &&& 31)) ||| (b1 &&& (255 : Int32))))] [(.ref a2)])) _
          refine XS.iconst X0.here hx rfl (hb hby own_d3_39) ?_
          show Steps p.tables e below (s₁.setTop (mkF m 40 #[.val (.ref a1), .val (.ref a2), .val (.int p3), .val (.int (((b0 &&& (255 : Int32)) <<< ((8 : Int32) &&& 31)) ||| (b1 &&& (255 : Int32))))] [(.int (0 : Int32)), (.ref a2)])) _
          refine X0.baloadBytes hx (j := (0 : Int32)) (v := (.int b0)) (by rw [e0]; exact Ar2.1) (State.isArrayOf_alike hZ.alike Ar2.2.1) Ar2.2.2 hin2_0 hat2_0 (g := (mkF m 40 #[.val (.ref a1), .val (.ref a2), .val (.int p3), .val (.int (((b0 &&& (255 : Int32)) <<< ((8 : Int32) &&& 31)) ||| (b1 &&& (255 : Int32))))] [(.int (0 : Int32)), (.ref a2)])) rfl rfl (hb hby own_d3_40) _ ?_
          show Steps p.tables e below (s₁.setTop (mkF m 41 #[.val (.ref a1), .val (.ref a2), .val (.int p3), .val (.int (((b0 &&& (255 : Int32)) <<< ((8 : Int32) &&& 31)) ||| (b1 &&& (255 : Int32))))] [(.int b0)])) _
          refine XS.sipush X0.here hx rfl (hb hby own_d3_41) ?_
          show Steps p.tables e below (s₁.setTop (mkF m 44 #[.val (.ref a1), .val (.ref a2), .val (.int p3), .val (.int (((b0 &&& (255 : Int32)) <<< ((8 : Int32) &&& 31)) ||| (b1 &&& (255 : Int32))))] [(.int (255 : Int32)), (.int b0)])) _
          refine XS.iand X0.here hx rfl (hb hby own_d3_44) rfl ?_
          show Steps p.tables e below (s₁.setTop (mkF m 45 #[.val (.ref a1), .val (.ref a2), .val (.int p3), .val (.int (((b0 &&& (255 : Int32)) <<< ((8 : Int32) &&& 31)) ||| (b1 &&& (255 : Int32))))] [(.int (b0 &&& (255 : Int32)))])) _
          refine XS.iconst X0.here hx rfl (hb hby own_d3_45) ?_
          show Steps p.tables e below (s₁.setTop (mkF m 46 #[.val (.ref a1), .val (.ref a2), .val (.int p3), .val (.int (((b0 &&& (255 : Int32)) <<< ((8 : Int32) &&& 31)) ||| (b1 &&& (255 : Int32))))] [(.int (4 : Int32)), (.int (b0 &&& (255 : Int32)))])) _
          refine XS.iushr X0.here hx rfl (hb hby own_d3_46) rfl ?_
          show Steps p.tables e below (s₁.setTop (mkF m 47 #[.val (.ref a1), .val (.ref a2), .val (.int p3), .val (.int (((b0 &&& (255 : Int32)) <<< ((8 : Int32) &&& 31)) ||| (b1 &&& (255 : Int32))))] [(.int (((b0 &&& (255 : Int32)).toUInt32 >>> ((4 : Int32) &&& 31).toUInt32).toInt32))])) _
          refine XS.bipush X0.here hx rfl (hb hby own_d3_47) ?_
          show Steps p.tables e below (s₁.setTop (mkF m 49 #[.val (.ref a1), .val (.ref a2), .val (.int p3), .val (.int (((b0 &&& (255 : Int32)) <<< ((8 : Int32) &&& 31)) ||| (b1 &&& (255 : Int32))))] [(.int (7 : Int32)), (.int (((b0 &&& (255 : Int32)).toUInt32 >>> ((4 : Int32) &&& 31).toUInt32).toInt32))])) _
          refine XS.icmpNo X0.here hx rfl (hb hby own_d3_49) rfl (flt hc49_1).2.2.1 ?_
          show Steps p.tables e below (s₁.setTop (mkF m 52 #[.val (.ref a1), .val (.ref a2), .val (.int p3), .val (.int (((b0 &&& (255 : Int32)) <<< ((8 : Int32) &&& 31)) ||| (b1 &&& (255 : Int32))))] [])) _
          refine XS.iloadN X0.here hx rfl (hb hby own_d3_52) rfl ?_
          show Steps p.tables e below (s₁.setTop (mkF m 53 #[.val (.ref a1), .val (.ref a2), .val (.int p3), .val (.int (((b0 &&& (255 : Int32)) <<< ((8 : Int32) &&& 31)) ||| (b1 &&& (255 : Int32))))] [(.int (((b0 &&& (255 : Int32)) <<< ((8 : Int32) &&& 31)) ||| (b1 &&& (255 : Int32))))])) _
          refine XS.bipush X0.here hx rfl (hb hby own_d3_53) ?_
          show Steps p.tables e below (s₁.setTop (mkF m 55 #[.val (.ref a1), .val (.ref a2), .val (.int p3), .val (.int (((b0 &&& (255 : Int32)) <<< ((8 : Int32) &&& 31)) ||| (b1 &&& (255 : Int32))))] [(.int (31 : Int32)), (.int (((b0 &&& (255 : Int32)) <<< ((8 : Int32) &&& 31)) ||| (b1 &&& (255 : Int32))))])) _
          refine iremM X0 hx rfl (hb hby own_d3_55) rfl (by decide) ?_
          show Steps p.tables e below (s₁.setTop (mkF m 56 #[.val (.ref a1), .val (.ref a2), .val (.int p3), .val (.int (((b0 &&& (255 : Int32)) <<< ((8 : Int32) &&& 31)) ||| (b1 &&& (255 : Int32))))] [(.int ((((b0 &&& (255 : Int32)) <<< ((8 : Int32) &&& 31)) ||| (b1 &&& (255 : Int32))) % (31 : Int32)))])) _
          refine XS.ifYes X0.here hx rfl (pc0 := 56) (pc' := 72) rfl (hb hby own_d3_56) rfl ((if0 _ _).trans (feq hc56_2).2) (by decide) (by decide) ?_
          show Steps p.tables e below (s₁.setTop (mkF m 72 #[.val (.ref a1), .val (.ref a2), .val (.int p3), .val (.int (((b0 &&& (255 : Int32)) <<< ((8 : Int32) &&& 31)) ||| (b1 &&& (255 : Int32))))] [])) _
          refine XS.iconst X0.here hx rfl (hb hby own_d3_72) ?_
          exact k
    · refine ⟨(0 : Int32), (by simp only [if_neg hc35_0]), ?_⟩
      intro t k
      refine R5 t ?_
      show Steps p.tables e below (s₁.setTop (mkF m 27 #[.val (.ref a1), .val (.ref a2), .val (.int p3), .val (.int (((b0 &&& (255 : Int32)) <<< ((8 : Int32) &&& 31)) ||| (b1 &&& (255 : Int32))))] [])) _
      refine XS.aloadN X0.here hx rfl (hb hby own_d3_27) rfl rfl ?_
      show Steps p.tables e below (s₁.setTop (mkF m 28 #[.val (.ref a1), .val (.ref a2), .val (.int p3), .val (.int (((b0 &&& (255 : Int32)) <<< ((8 : Int32) &&& 31)) ||| (b1 &&& (255 : Int32))))] [(.ref a2)])) _
      refine XS.iconst X0.here hx rfl (hb hby own_d3_28) ?_
      show Steps p.tables e below (s₁.setTop (mkF m 29 #[.val (.ref a1), .val (.ref a2), .val (.int p3), .val (.int (((b0 &&& (255 : Int32)) <<< ((8 : Int32) &&& 31)) ||| (b1 &&& (255 : Int32))))] [(.int (0 : Int32)), (.ref a2)])) _
      refine X0.baloadBytes hx (j := (0 : Int32)) (v := (.int b0)) (by rw [e0]; exact Ar2.1) (State.isArrayOf_alike hZ.alike Ar2.2.1) Ar2.2.2 hin2_0 hat2_0 (g := (mkF m 29 #[.val (.ref a1), .val (.ref a2), .val (.int p3), .val (.int (((b0 &&& (255 : Int32)) <<< ((8 : Int32) &&& 31)) ||| (b1 &&& (255 : Int32))))] [(.int (0 : Int32)), (.ref a2)])) rfl rfl (hb hby own_d3_29) _ ?_
      show Steps p.tables e below (s₁.setTop (mkF m 30 #[.val (.ref a1), .val (.ref a2), .val (.int p3), .val (.int (((b0 &&& (255 : Int32)) <<< ((8 : Int32) &&& 31)) ||| (b1 &&& (255 : Int32))))] [(.int b0)])) _
      refine XS.bipush X0.here hx rfl (hb hby own_d3_30) ?_
      show Steps p.tables e below (s₁.setTop (mkF m 32 #[.val (.ref a1), .val (.ref a2), .val (.int p3), .val (.int (((b0 &&& (255 : Int32)) <<< ((8 : Int32) &&& 31)) ||| (b1 &&& (255 : Int32))))] [(.int (15 : Int32)), (.int b0)])) _
      refine XS.iand X0.here hx rfl (hb hby own_d3_32) rfl ?_
      show Steps p.tables e below (s₁.setTop (mkF m 33 #[.val (.ref a1), .val (.ref a2), .val (.int p3), .val (.int (((b0 &&& (255 : Int32)) <<< ((8 : Int32) &&& 31)) ||| (b1 &&& (255 : Int32))))] [(.int (b0 &&& (15 : Int32)))])) _
      refine XS.bipush X0.here hx rfl (hb hby own_d3_33) ?_
      show Steps p.tables e below (s₁.setTop (mkF m 35 #[.val (.ref a1), .val (.ref a2), .val (.int p3), .val (.int (((b0 &&& (255 : Int32)) <<< ((8 : Int32) &&& 31)) ||| (b1 &&& (255 : Int32))))] [(.int (8 : Int32)), (.int (b0 &&& (15 : Int32)))])) _
      refine XS.icmpYes X0.here hx rfl (pc0 := 35) (pc' := 72) rfl (hb hby own_d3_35) rfl (feq hc35_0).2 (by decide) (by decide) ?_
      show Steps p.tables e below (s₁.setTop (mkF m 72 #[.val (.ref a1), .val (.ref a2), .val (.int p3), .val (.int (((b0 &&& (255 : Int32)) <<< ((8 : Int32) &&& 31)) ||| (b1 &&& (255 : Int32))))] [])) _
      refine XS.iconst X0.here hx rfl (hb hby own_d3_72) ?_
      exact k
  have hres' : res = own_beg b0 b1 := hres
  subst hres'
  obtain ⟨fs, hr, hrun, hended, hW, hsame⟩ := X0.leave (v := some (.int (own_beg b0 b1))) (fun h => by rw [Bd.returns] at h; cases h)
  refine ⟨_, _, R6 _ ?_, hrun, hended, _, _, rfl, ?_, ⟨_, rfl⟩, hW, hsame.mono (by decide) (by decide)⟩
  · exact retN X0 hx (t := .boolean) Bd.returns (by simp) (hb hby own_d3_73) (by rw [(by unfold own_beg; (repeat' split) <;> rfl : nar .boolean (own_beg b0 b1) = (own_beg b0 b1))]; exact hr)
  · show Q_rm3 Z a1 a2 p3 k2 z2 vs2 d2 b0 b1 h0 n0 _ s₁.heap _
    rw [e0]
    exact ⟨rfl, N0, rfl⟩
theorem own_pn1 : plainName "com/example/columnwire/columnwire/codec/ZlibStreamBeginsAsBlockPinLaw" = true := by first | (simp [plainName, overriddenIn]; done) | decide +kernel
theorem own_ef_rm0 (m : MethodId) (x0 : Int32) (x1 : Int32) (x2 : Int32) (x3 : Int32) (x4 : Int32) : entryFrame m #[(.int x0), (.int x1), (.int x2), (.int x3), (.int x4)] maxLocals = mkF m 0 #[.val (.int x0), .val (.int x1), .val (.int x2), .val (.int x3), .val (.int x4), .unset, .unset, .unset, .unset, .unset, .unset, .unset, .unset, .unset, .unset] [] := by first | (simp [entryFrame, mkF, argsToLocals, Value.category, maxLocals]; done) | rfl
theorem own_pd0 : parseMethodDescriptor "()V" = some ⟨[], none⟩ := by decide +kernel
theorem own_pd1 : parseMethodDescriptor "([BI)Z" = some ⟨[(.array .byte), .int], some .boolean⟩ := by decide +kernel
def Q_rm0 (Z : State) (p1 p2 p3 p4 p5 : Int32) (h0 : Heap) (n0 : Nat) (v : Option Value) (h : Heap) (L : List Loc) : Prop := v = some (.int 1) ∧ Fr n0 L
set_option maxRecDepth 65536 in
set_option maxHeartbeats 40000000 in
theorem rm0 (l : Launch) (Z : State) (a0 : Array Value) (hw : ∀ d ∈ tables_1, d.before a0 Z = true) (ws : List Jvm.Cond) (p1 p2 p3 p4 p5 : Int32) (h0 : Heap) (n0 : Nat) (Z0 : n0 ≤ h0.size)  :
    MetFree l x (head1 (Jvm.Cond.code x code maxLocals ret :: ws) room_1) (fun a U => a = #[(.int p1), (.int p2), (.int p3), (.int p4), (.int p5)] ∧ Z.Warmed39 U.vm ∧ U.heap = h0) (fun _ _ _ _ _ => True) (fun _ U o U' => ∃ v L, o = .returned v ∧ Q_rm0 Z p1 p2 p3 p4 p5 h0 n0 v U'.heap L ∧ FrameEnd U o U' L room_1.cells room_1.slots) := by
  refine MetFree.of_bodySF (plainFor_of_name own_pn1) hisR ?_
  intro p e s m args below meth c s₁ Bd hml0 hP hK
  obtain ⟨rfl, hZ, hh⟩ := hP
  have hx := Bd.exec
  have hby := Bd.bytes
  have hml : c.maxLocals = 15 := hml0
  have hown : s.vm.findClass "com/example/columnwire/columnwire/codec/ZlibStreamBeginsAsBlockPinLaw" = some m.cls := findClass_of_methodNamed Bd.named
  have hnm := (name_of_methodNamed Bd.named Bd.method).1
  have X0 : Stand p l e room_1 s m #[(.int p1), (.int p2), (.int p3), (.int p4), (.int p5)] below meth c s₁ [] 0 0 := Stand.of_body Bd
  have e0 : s₁.heap = h0 := by rw [← hh, Bd.state]; rfl
  have N0 := Fr.nil n0
  have R0 : ∀ t, Steps p.tables e below (s₁.setTop (mkF m 0 #[.val (.int p1), .val (.int p2), .val (.int p3), .val (.int p4), .val (.int p5), .unset, .unset, .unset, .unset, .unset, .unset, .unset, .unset, .unset, .unset] [])) t → Steps p.tables e below (s₁.setTop (entryFrame m #[(.int p1), (.int p2), (.int p3), (.int p4), (.int p5)] maxLocals)) t := fun t k => castTop (own_ef_rm0 m p1 p2 p3 p4 p5) k
  have R1 : ∀ t, Steps p.tables e below (s₁.setTop (mkF m 5 #[.val (.int p1), .val (.int p2), .val (.int p3), .val (.int p4), .val (.int p5), .val (.int (p1 &&& (3 : Int32))), .unset, .unset, .unset, .unset, .unset, .unset, .unset, .unset, .unset] [])) t → Steps p.tables e below (s₁.setTop (entryFrame m #[(.int p1), (.int p2), (.int p3), (.int p4), (.int p5)] maxLocals)) t := by
    intro t k
    refine R0 t ?_
    show Steps p.tables e below (s₁.setTop (mkF m 0 #[.val (.int p1), .val (.int p2), .val (.int p3), .val (.int p4), .val (.int p5), .unset, .unset, .unset, .unset, .unset, .unset, .unset, .unset, .unset, .unset] [])) _
    refine XS.iloadN X0.here hx rfl (hb hby at_0) rfl ?_
    show Steps p.tables e below (s₁.setTop (mkF m 1 #[.val (.int p1), .val (.int p2), .val (.int p3), .val (.int p4), .val (.int p5), .unset, .unset, .unset, .unset, .unset, .unset, .unset, .unset, .unset, .unset] [(.int p1)])) _
    refine XS.iconst X0.here hx rfl (hb hby at_1) ?_
    show Steps p.tables e below (s₁.setTop (mkF m 2 #[.val (.int p1), .val (.int p2), .val (.int p3), .val (.int p4), .val (.int p5), .unset, .unset, .unset, .unset, .unset, .unset, .unset, .unset, .unset, .unset] [(.int (3 : Int32)), (.int p1)])) _
    refine XS.iand X0.here hx rfl (hb hby at_2) rfl ?_
    show Steps p.tables e below (s₁.setTop (mkF m 3 #[.val (.int p1), .val (.int p2), .val (.int p3), .val (.int p4), .val (.int p5), .unset, .unset, .unset, .unset, .unset, .unset, .unset, .unset, .unset, .unset] [(.int (p1 &&& (3 : Int32)))])) _
    refine XS.istore X0.here hx rfl (hb hby at_3) rfl (l' := #[.val (.int p1), .val (.int p2), .val (.int p3), .val (.int p4), .val (.int p5), .val (.int (p1 &&& (3 : Int32))), .unset, .unset, .unset, .unset, .unset, .unset, .unset, .unset, .unset]) rfl ?_
    exact k
  rcases own_and3 p1 with hl | hl | hl | hl
  · have R2 : ∀ t, Steps p.tables e below (s₁.setTop (mkF m 5 #[.val (.int p1), .val (.int p2), .val (.int p3), .val (.int p4), .val (.int p5), .val (.int (0 : Int32)), .unset, .unset, .unset, .unset, .unset, .unset, .unset, .unset, .unset] [])) t → Steps p.tables e below (s₁.setTop (entryFrame m #[(.int p1), (.int p2), (.int p3), (.int p4), (.int p5)] maxLocals)) t := by rw [(hl : (p1 &&& (3 : Int32)) = (0 : Int32))] at R1; exact R1
    have R3 : ∀ t, Steps p.tables e below (s₁.setTop (mkF m 7 #[.val (.int p1), .val (.int p2), .val (.int p3), .val (.int p4), .val (.int p5), .val (.int (0 : Int32)), .unset, .unset, .unset, .unset, .unset, .unset, .unset, .unset, .unset] [(.int (0 : Int32))])) t → Steps p.tables e below (s₁.setTop (entryFrame m #[(.int p1), (.int p2), (.int p3), (.int p4), (.int p5)] maxLocals)) t := by
      intro t k
      refine R2 t ?_
      show Steps p.tables e below (s₁.setTop (mkF m 5 #[.val (.int p1), .val (.int p2), .val (.int p3), .val (.int p4), .val (.int p5), .val (.int (0 : Int32)), .unset, .unset, .unset, .unset, .unset, .unset, .unset, .unset, .unset] [])) _
      refine XS.iload X0.here hx rfl (hb hby at_5) rfl ?_
      exact k
    obtain ⟨T4, h4, k4, X4, e4, E4, A4, st4⟩ := newP X0 hx hZ (hw _ (List.mem_of_getElem? (i := 0) rfl)) e0 (g := (mkF m 7 #[.val (.int p1), .val (.int p2), .val (.int p3), .val (.int p4), .val (.int p5), .val (.int (0 : Int32)), .unset, .unset, .unset, .unset, .unset, .unset, .unset, .unset, .unset] [(.int (0 : Int32))])) rfl (hb hby at_7) rfl (by decide) (cap := 0) (by decide) (by decide) (by decide) (by decide)
    obtain ⟨b4, g4⟩ : ∃ z, z = h0.size := ⟨_, rfl⟩
    rw [← g4] at A4 st4
    have R4 : ∀ t, Steps p.tables e below (T4.setTop (mkF m 9 #[.val (.int p1), .val (.int p2), .val (.int p3), .val (.int p4), .val (.int p5), .val (.int (0 : Int32)), .unset, .unset, .unset, .unset, .unset, .unset, .unset, .unset, .unset] [(.ref b4)])) t → Steps p.tables e below (s₁.setTop (entryFrame m #[(.int p1), (.int p2), (.int p3), (.int p4), (.int p5)] maxLocals)) t := fun t k => R3 t (st4 t k)
    have g_b4 : n0 ≤ b4 := Nat.le_trans Z0 (Nat.le_of_eq g4.symm)
    have sz_b4 : h0.size ≤ b4 := Nat.le_trans (Keep.refl h0 []).1 (Nat.le_of_eq g4.symm)
    have Z4 : n0 ≤ h4.size := Nat.le_trans Z0 E4.1
    have K4 : Keep h0 h4 [] := (Keep.refl h0 []).ext E4
    have V4 : Arv Z h4 b4 k4 .byte (0 : Int32) [] (.int (0 : Int32)) := Arv.new A4 (by decide)
    have R5 : ∀ t, Steps p.tables e below (T4.setTop (mkF m 46 #[.val (.int p1), .val (.int p2), .val (.int p3), .val (.int p4), .val (.int p5), .val (.int (0 : Int32)), .val (.ref b4), .unset, .unset, .unset, .unset, .unset, .unset, .unset, .unset] [])) t → Steps p.tables e below (s₁.setTop (entryFrame m #[(.int p1), (.int p2), (.int p3), (.int p4), (.int p5)] maxLocals)) t := by
      intro t k
      refine R4 t ?_
      show Steps p.tables e below (T4.setTop (mkF m 9 #[.val (.int p1), .val (.int p2), .val (.int p3), .val (.int p4), .val (.int p5), .val (.int (0 : Int32)), .unset, .unset, .unset, .unset, .unset, .unset, .unset, .unset, .unset] [(.ref b4)])) _
      refine XS.astore X4.here hx rfl (hb hby at_9) rfl rfl (l' := #[.val (.int p1), .val (.int p2), .val (.int p3), .val (.int p4), .val (.int p5), .val (.int (0 : Int32)), .val (.ref b4), .unset, .unset, .unset, .unset, .unset, .unset, .unset, .unset]) rfl ?_
      show Steps p.tables e below (T4.setTop (mkF m 11 #[.val (.int p1), .val (.int p2), .val (.int p3), .val (.int p4), .val (.int p5), .val (.int (0 : Int32)), .val (.ref b4), .unset, .unset, .unset, .unset, .unset, .unset, .unset, .unset] [])) _
      refine XS.iload X4.here hx rfl (hb hby at_11) rfl ?_
      show Steps p.tables e below (T4.setTop (mkF m 13 #[.val (.int p1), .val (.int p2), .val (.int p3), .val (.int p4), .val (.int p5), .val (.int (0 : Int32)), .val (.ref b4), .unset, .unset, .unset, .unset, .unset, .unset, .unset, .unset] [(.int (0 : Int32))])) _
      refine XS.ifYes X4.here hx rfl (pc0 := 13) (pc' := 22) rfl (hb hby at_13) rfl ((if0 _ _).trans (flt (by decide : ¬ ((0 : Int32) < (0 : Int32)))).2.2.2) (by decide) (by decide) ?_
      show Steps p.tables e below (T4.setTop (mkF m 22 #[.val (.int p1), .val (.int p2), .val (.int p3), .val (.int p4), .val (.int p5), .val (.int (0 : Int32)), .val (.ref b4), .unset, .unset, .unset, .unset, .unset, .unset, .unset, .unset] [])) _
      refine XS.iload X4.here hx rfl (hb hby at_22) rfl ?_
      show Steps p.tables e below (T4.setTop (mkF m 24 #[.val (.int p1), .val (.int p2), .val (.int p3), .val (.int p4), .val (.int p5), .val (.int (0 : Int32)), .val (.ref b4), .unset, .unset, .unset, .unset, .unset, .unset, .unset, .unset] [(.int (0 : Int32))])) _
      refine XS.iconst X4.here hx rfl (hb hby at_24) ?_
      show Steps p.tables e below (T4.setTop (mkF m 25 #[.val (.int p1), .val (.int p2), .val (.int p3), .val (.int p4), .val (.int p5), .val (.int (0 : Int32)), .val (.ref b4), .unset, .unset, .unset, .unset, .unset, .unset, .unset, .unset] [(.int (1 : Int32)), (.int (0 : Int32))])) _
      refine XS.icmpYes X4.here hx rfl (pc0 := 25) (pc' := 34) rfl (hb hby at_25) rfl (flt (by decide : ¬ ((1 : Int32) < (0 : Int32)))).2.2.2 (by decide) (by decide) ?_
      show Steps p.tables e below (T4.setTop (mkF m 34 #[.val (.int p1), .val (.int p2), .val (.int p3), .val (.int p4), .val (.int p5), .val (.int (0 : Int32)), .val (.ref b4), .unset, .unset, .unset, .unset, .unset, .unset, .unset, .unset] [])) _
      refine XS.iload X4.here hx rfl (hb hby at_34) rfl ?_
      show Steps p.tables e below (T4.setTop (mkF m 36 #[.val (.int p1), .val (.int p2), .val (.int p3), .val (.int p4), .val (.int p5), .val (.int (0 : Int32)), .val (.ref b4), .unset, .unset, .unset, .unset, .unset, .unset, .unset, .unset] [(.int (0 : Int32))])) _
      refine XS.iconst X4.here hx rfl (hb hby at_36) ?_
      show Steps p.tables e below (T4.setTop (mkF m 37 #[.val (.int p1), .val (.int p2), .val (.int p3), .val (.int p4), .val (.int p5), .val (.int (0 : Int32)), .val (.ref b4), .unset, .unset, .unset, .unset, .unset, .unset, .unset, .unset] [(.int (2 : Int32)), (.int (0 : Int32))])) _
      refine XS.icmpYes X4.here hx rfl (pc0 := 37) (pc' := 46) rfl (hb hby at_37) rfl (flt (by decide : ¬ ((2 : Int32) < (0 : Int32)))).2.2.2 (by decide) (by decide) ?_
      exact k
    obtain ⟨T6, h6, X6, e6, E6, A6, D6, -, st6⟩ := newO X4 hx hZ hown (hw _ (List.mem_of_getElem? (i := 1) rfl)) (hw _ (List.mem_of_getElem? (i := 2) rfl)) (hw _ (List.mem_of_getElem? (i := 3) rfl)) e4 (g := (mkF m 46 #[.val (.int p1), .val (.int p2), .val (.int p3), .val (.int p4), .val (.int p5), .val (.int (0 : Int32)), .val (.ref b4), .unset, .unset, .unset, .unset, .unset, .unset, .unset, .unset] [])) rfl (hb hby at_46) (by decide) (by decide)
    obtain ⟨b6, g6⟩ : ∃ z, z = h4.size := ⟨_, rfl⟩
    rw [← g6] at A6 D6 st6
    have R6 : ∀ t, Steps p.tables e below (T6.setTop (mkF m 49 #[.val (.int p1), .val (.int p2), .val (.int p3), .val (.int p4), .val (.int p5), .val (.int (0 : Int32)), .val (.ref b4), .unset, .unset, .unset, .unset, .unset, .unset, .unset, .unset] [(.ref b6)])) t → Steps p.tables e below (s₁.setTop (entryFrame m #[(.int p1), (.int p2), (.int p3), (.int p4), (.int p5)] maxLocals)) t := fun t k => R5 t (st6 t k)
    have ne_b4_b6 : b4 ≠ b6 := Nat.ne_of_lt (Nat.lt_of_lt_of_le V4.lt (Nat.le_of_eq g6.symm))
    have g_b6 : n0 ≤ b6 := Nat.le_trans Z4 (Nat.le_of_eq g6.symm)
    have sz_b6 : h0.size ≤ b6 := Nat.le_trans K4.1 (Nat.le_of_eq g6.symm)
    have Z6 : n0 ≤ h6.size := Nat.le_trans Z4 E6.1
    have K6 : Keep h0 h6 [] := K4.ext E6
    have f7 : Arv Z h6 b4 k4 .byte (0 : Int32) [] (.int (0 : Int32)) := V4.ext E6
    have R8 : ∀ t, Steps p.tables e below (T6.setTop (mkF m 50 #[.val (.int p1), .val (.int p2), .val (.int p3), .val (.int p4), .val (.int p5), .val (.int (0 : Int32)), .val (.ref b4), .unset, .unset, .unset, .unset, .unset, .unset, .unset, .unset] [(.ref b6), (.ref b6)])) t → Steps p.tables e below (s₁.setTop (entryFrame m #[(.int p1), (.int p2), (.int p3), (.int p4), (.int p5)] maxLocals)) t := by
      intro t k
      refine R6 t ?_
      show Steps p.tables e below (T6.setTop (mkF m 49 #[.val (.int p1), .val (.int p2), .val (.int p3), .val (.int p4), .val (.int p5), .val (.int (0 : Int32)), .val (.ref b4), .unset, .unset, .unset, .unset, .unset, .unset, .unset, .unset] [(.ref b6)])) _
      refine XS.dup X6.here hx rfl (hb hby at_49) rfl rfl ?_
      exact k
    obtain ⟨_, _, ⟨T9, L9, k9, n9⟩, -, X9, ⟨Lc9, hQ9, l9, y9, z9⟩, st9⟩ := X6.specialBack hx (y := (⟨"com/example/columnwire/columnwire/codec/ZlibStream", "<init>", "()V"⟩ : MethodName)) rfl hown (mvT hZ (hw _ (List.mem_of_getElem? (i := 4) rfl))) (mvT hZ (hw _ (List.mem_of_getElem? (i := 5) rfl))) (mvT hZ (hw _ (List.mem_of_getElem? (i := 6) rfl))) (by decide) (backOf (W := 1) (rm1 l Z a0 hw [] b6  h6 n0 Z6 ) hZ (hw _ (List.mem_of_getElem? (i := 6) rfl)) (hw _ (List.mem_of_getElem? (i := 3) rfl)) (by decide) (by decide)) (g := (mkF m 50 #[.val (.int p1), .val (.int p2), .val (.int p3), .val (.int p4), .val (.int p5), .val (.int (0 : Int32)), .val (.ref b4), .unset, .unset, .unset, .unset, .unset, .unset, .unset, .unset] [(.ref b6), (.ref b6)])) rfl (by rw [hml]; rfl) (Steps.refl _) (a := b6) (argsL := []) (rest := [(.ref b6)]) (lenOf own_pd0 rfl) rfl (by show 2 * 0 + _ ≤ _; exact Nat.le_of_eq rfl) (hb hby at_50) (fun _ _ => ⟨rfl, e6, (by decide : 2 + 0 ≤ _), (by decide : 0 + 0 ≤ _)⟩)
    dsimp only [Pt.U, Pt.locs, Pt.cells, Pt.slots] at X9 l9 y9 z9 st9 hQ9
    subst l9 y9 z9
    obtain ⟨rfl, Nq9, eq9⟩ := hQ9
    have N9 := Fr.app N0 Nq9
    have R9 : ∀ t, Steps p.tables e below (T9.setTop (mkF m 53 #[.val (.int p1), .val (.int p2), .val (.int p3), .val (.int p4), .val (.int p5), .val (.int (0 : Int32)), .val (.ref b4), .unset, .unset, .unset, .unset, .unset, .unset, .unset, .unset] [(.ref b6)])) t → Steps p.tables e below (s₁.setTop (entryFrame m #[(.int p1), (.int p2), (.int p3), (.int p4), (.int p5)] maxLocals)) t := fun t k => R8 t (st9.trans k)
    have R10 : ∀ t, Steps p.tables e below (T9.setTop (mkF m 57 #[.val (.int p1), .val (.int p2), .val (.int p3), .val (.int p4), .val (.int p5), .val (.int (0 : Int32)), .val (.ref b4), .unset, .unset, .unset, .unset, .unset, .unset, .unset, .unset] [(.int p5), (.ref b4), (.ref b6)])) t → Steps p.tables e below (s₁.setTop (entryFrame m #[(.int p1), (.int p2), (.int p3), (.int p4), (.int p5)] maxLocals)) t := by
      intro t k
      refine R9 t ?_
      show Steps p.tables e below (T9.setTop (mkF m 53 #[.val (.int p1), .val (.int p2), .val (.int p3), .val (.int p4), .val (.int p5), .val (.int (0 : Int32)), .val (.ref b4), .unset, .unset, .unset, .unset, .unset, .unset, .unset, .unset] [(.ref b6)])) _
      refine XS.aload X9.here hx rfl (hb hby at_53) rfl rfl ?_
      show Steps p.tables e below (T9.setTop (mkF m 55 #[.val (.int p1), .val (.int p2), .val (.int p3), .val (.int p4), .val (.int p5), .val (.int (0 : Int32)), .val (.ref b4), .unset, .unset, .unset, .unset, .unset, .unset, .unset, .unset] [(.ref b4), (.ref b6)])) _
      refine XS.iload X9.here hx rfl (hb hby at_55) rfl ?_
      exact k
    obtain ⟨cq11, kq11, q11a, q11b, q11c⟩ := isOf hZ eq9 A6
    obtain ⟨_, _, ⟨T11, L11, k11, n11⟩, -, X11, ⟨Lc11, hQ11, l11, y11, z11⟩, st11⟩ := X9.virtualBack hx (y := (⟨"com/example/columnwire/columnwire/codec/ZlibStream", "beginsAsBlock", "([BI)Z"⟩ : MethodName)) (z := (⟨"com/example/columnwire/columnwire/codec/ZlibStream", "beginsAsBlock", "([BI)Z"⟩ : MethodName)) hown (mvT hZ (hw _ (List.mem_of_getElem? (i := 10) rfl))) (mvT hZ (hw _ (List.mem_of_getElem? (i := 11) rfl))) (notFace_of_selects (args := #[]) (mvT hZ (hw _ (List.mem_of_getElem? (i := 13) rfl)))) (mvT hZ (hw _ (List.mem_of_getElem? (i := 13) rfl))) (mvT hZ (hw _ (List.mem_of_getElem? (i := 12) rfl))) (by decide) (backOf (W := 0) (rm3s l Z a0 hw [] b6 b4 p5 k4 (0 : Int32) [] (.int (0 : Int32)) h6 n0 Z6 f7 (by decide)) hZ (hw _ (List.mem_of_getElem? (i := 14) rfl)) (hw _ (List.mem_of_getElem? (i := 3) rfl)) (by decide) (by decide)) q11a q11c (g := (mkF m 57 #[.val (.int p1), .val (.int p2), .val (.int p3), .val (.int p4), .val (.int p5), .val (.int (0 : Int32)), .val (.ref b4), .unset, .unset, .unset, .unset, .unset, .unset, .unset, .unset] [(.int p5), (.ref b4), (.ref b6)])) rfl (by rw [hml]; rfl) (Steps.refl _) (argsL := [(.ref b4), (.int p5)]) (rest := []) (lenOf own_pd1 rfl) rfl (by show 2 * 0 + _ ≤ _; exact Nat.le_of_eq rfl) (hb hby at_57) (fun _ _ => ⟨rfl, eq9, (by decide : 2 + 0 ≤ _), (by decide : 0 + 0 ≤ _)⟩)
    dsimp only [Pt.U, Pt.locs, Pt.cells, Pt.slots] at X11 l11 y11 z11 st11 hQ11
    subst l11 y11 z11
    obtain ⟨rfl, Nq11, eq11⟩ := hQ11
    have N11 := Fr.app N9 Nq11
    have R11 : ∀ t, Steps p.tables e below (T11.setTop (mkF m 60 #[.val (.int p1), .val (.int p2), .val (.int p3), .val (.int p4), .val (.int p5), .val (.int (0 : Int32)), .val (.ref b4), .unset, .unset, .unset, .unset, .unset, .unset, .unset, .unset] [(.int (0 : Int32))])) t → Steps p.tables e below (s₁.setTop (entryFrame m #[(.int p1), (.int p2), (.int p3), (.int p4), (.int p5)] maxLocals)) t := fun t k => R10 t (st11.trans k)
    have R12 : ∀ t, Steps p.tables e below (T11.setTop (mkF m 196 #[.val (.int p1), .val (.int p2), .val (.int p3), .val (.int p4), .val (.int p5), .val (.int (0 : Int32)), .val (.ref b4), .val (.int (0 : Int32)), .val (.int (0 : Int32)), .unset, .unset, .unset, .unset, .unset, .unset] [(.int (1 : Int32))])) t → Steps p.tables e below (s₁.setTop (entryFrame m #[(.int p1), (.int p2), (.int p3), (.int p4), (.int p5)] maxLocals)) t := by
      intro t k
      refine R11 t ?_
      show Steps p.tables e below (T11.setTop (mkF m 60 #[.val (.int p1), .val (.int p2), .val (.int p3), .val (.int p4), .val (.int p5), .val (.int (0 : Int32)), .val (.ref b4), .unset, .unset, .unset, .unset, .unset, .unset, .unset, .unset] [(.int (0 : Int32))])) _
      refine XS.istore X11.here hx rfl (hb hby at_60) rfl (l' := #[.val (.int p1), .val (.int p2), .val (.int p3), .val (.int p4), .val (.int p5), .val (.int (0 : Int32)), .val (.ref b4), .val (.int (0 : Int32)), .unset, .unset, .unset, .unset, .unset, .unset, .unset]) rfl ?_
      show Steps p.tables e below (T11.setTop (mkF m 62 #[.val (.int p1), .val (.int p2), .val (.int p3), .val (.int p4), .val (.int p5), .val (.int (0 : Int32)), .val (.ref b4), .val (.int (0 : Int32)), .unset, .unset, .unset, .unset, .unset, .unset, .unset] [])) _
      refine XS.iload X11.here hx rfl (hb hby at_62) rfl ?_
      show Steps p.tables e below (T11.setTop (mkF m 64 #[.val (.int p1), .val (.int p2), .val (.int p3), .val (.int p4), .val (.int p5), .val (.int (0 : Int32)), .val (.ref b4), .val (.int (0 : Int32)), .unset, .unset, .unset, .unset, .unset, .unset, .unset] [(.int (0 : Int32))])) _
      refine XS.iconst X11.here hx rfl (hb hby at_64) ?_
      show Steps p.tables e below (T11.setTop (mkF m 65 #[.val (.int p1), .val (.int p2), .val (.int p3), .val (.int p4), .val (.int p5), .val (.int (0 : Int32)), .val (.ref b4), .val (.int (0 : Int32)), .unset, .unset, .unset, .unset, .unset, .unset, .unset] [(.int (2 : Int32)), (.int (0 : Int32))])) _
      refine XS.icmpNo X11.here hx rfl (hb hby at_65) rfl (tlt (by decide : ((0 : Int32) < (2 : Int32)))).2.1 ?_
      show Steps p.tables e below (T11.setTop (mkF m 68 #[.val (.int p1), .val (.int p2), .val (.int p3), .val (.int p4), .val (.int p5), .val (.int (0 : Int32)), .val (.ref b4), .val (.int (0 : Int32)), .unset, .unset, .unset, .unset, .unset, .unset, .unset] [])) _
      refine XS.iconst X11.here hx rfl (hb hby at_68) ?_
      show Steps p.tables e below (T11.setTop (mkF m 69 #[.val (.int p1), .val (.int p2), .val (.int p3), .val (.int p4), .val (.int p5), .val (.int (0 : Int32)), .val (.ref b4), .val (.int (0 : Int32)), .unset, .unset, .unset, .unset, .unset, .unset, .unset] [(.int (0 : Int32))])) _
      refine XS.istore X11.here hx rfl (hb hby at_69) rfl (l' := #[.val (.int p1), .val (.int p2), .val (.int p3), .val (.int p4), .val (.int p5), .val (.int (0 : Int32)), .val (.ref b4), .val (.int (0 : Int32)), .val (.int (0 : Int32)), .unset, .unset, .unset, .unset, .unset, .unset]) rfl ?_
      show Steps p.tables e below (T11.setTop (mkF m 71 #[.val (.int p1), .val (.int p2), .val (.int p3), .val (.int p4), .val (.int p5), .val (.int (0 : Int32)), .val (.ref b4), .val (.int (0 : Int32)), .val (.int (0 : Int32)), .unset, .unset, .unset, .unset, .unset, .unset] [])) _
      refine XS.goto X11.here hx rfl (pc0 := 71) (pc' := 184) rfl (hb hby at_71) (by decide) (by decide) ?_
      show Steps p.tables e below (T11.setTop (mkF m 184 #[.val (.int p1), .val (.int p2), .val (.int p3), .val (.int p4), .val (.int p5), .val (.int (0 : Int32)), .val (.ref b4), .val (.int (0 : Int32)), .val (.int (0 : Int32)), .unset, .unset, .unset, .unset, .unset, .unset] [])) _
      refine XS.iload X11.here hx rfl (hb hby at_184) rfl ?_
      show Steps p.tables e below (T11.setTop (mkF m 186 #[.val (.int p1), .val (.int p2), .val (.int p3), .val (.int p4), .val (.int p5), .val (.int (0 : Int32)), .val (.ref b4), .val (.int (0 : Int32)), .val (.int (0 : Int32)), .unset, .unset, .unset, .unset, .unset, .unset] [(.int (0 : Int32))])) _
      refine XS.iload X11.here hx rfl (hb hby at_186) rfl ?_
      show Steps p.tables e below (T11.setTop (mkF m 188 #[.val (.int p1), .val (.int p2), .val (.int p3), .val (.int p4), .val (.int p5), .val (.int (0 : Int32)), .val (.ref b4), .val (.int (0 : Int32)), .val (.int (0 : Int32)), .unset, .unset, .unset, .unset, .unset, .unset] [(.int (0 : Int32)), (.int (0 : Int32))])) _
      refine XS.icmpNo X11.here hx rfl (hb hby at_188) rfl (teq (by decide : ((0 : Int32) = (0 : Int32)))).2 ?_
      show Steps p.tables e below (T11.setTop (mkF m 191 #[.val (.int p1), .val (.int p2), .val (.int p3), .val (.int p4), .val (.int p5), .val (.int (0 : Int32)), .val (.ref b4), .val (.int (0 : Int32)), .val (.int (0 : Int32)), .unset, .unset, .unset, .unset, .unset, .unset] [])) _
      refine XS.iconst X11.here hx rfl (hb hby at_191) ?_
      show Steps p.tables e below (T11.setTop (mkF m 192 #[.val (.int p1), .val (.int p2), .val (.int p3), .val (.int p4), .val (.int p5), .val (.int (0 : Int32)), .val (.ref b4), .val (.int (0 : Int32)), .val (.int (0 : Int32)), .unset, .unset, .unset, .unset, .unset, .unset] [(.int (1 : Int32))])) _
      refine XS.goto X11.here hx rfl (pc0 := 192) (pc' := 196) rfl (hb hby at_192) (by decide) (by decide) ?_
      exact k
    obtain ⟨fs, hr, hrun, hended, hW, hsame⟩ := X11.leave (v := some (.int (1 : Int32))) (fun h => by rw [Bd.returns] at h; cases h)
    refine ⟨_, _, R12 _ ?_, hrun, hended, _, _, rfl, ?_, ⟨_, rfl⟩, hW, hsame.mono (by decide) (by decide)⟩
    · exact retN X11 hx (t := .boolean) Bd.returns (by simp) (hb hby at_196) hr
    · show Q_rm0 Z p1 p2 p3 p4 p5 h0 n0 _ T11.heap _
      rw [eq11]
      exact ⟨rfl, N11⟩
  · have R13 : ∀ t, Steps p.tables e below (s₁.setTop (mkF m 5 #[.val (.int p1), .val (.int p2), .val (.int p3), .val (.int p4), .val (.int p5), .val (.int (1 : Int32)), .unset, .unset, .unset, .unset, .unset, .unset, .unset, .unset, .unset] [])) t → Steps p.tables e below (s₁.setTop (entryFrame m #[(.int p1), (.int p2), (.int p3), (.int p4), (.int p5)] maxLocals)) t := by rw [(hl : (p1 &&& (3 : Int32)) = (1 : Int32))] at R1; exact R1
    have R14 : ∀ t, Steps p.tables e below (s₁.setTop (mkF m 7 #[.val (.int p1), .val (.int p2), .val (.int p3), .val (.int p4), .val (.int p5), .val (.int (1 : Int32)), .unset, .unset, .unset, .unset, .unset, .unset, .unset, .unset, .unset] [(.int (1 : Int32))])) t → Steps p.tables e below (s₁.setTop (entryFrame m #[(.int p1), (.int p2), (.int p3), (.int p4), (.int p5)] maxLocals)) t := by
      intro t k
      refine R13 t ?_
      show Steps p.tables e below (s₁.setTop (mkF m 5 #[.val (.int p1), .val (.int p2), .val (.int p3), .val (.int p4), .val (.int p5), .val (.int (1 : Int32)), .unset, .unset, .unset, .unset, .unset, .unset, .unset, .unset, .unset] [])) _
      refine XS.iload X0.here hx rfl (hb hby at_5) rfl ?_
      exact k
    obtain ⟨T15, h15, k15, X15, e15, E15, A15, st15⟩ := newP X0 hx hZ (hw _ (List.mem_of_getElem? (i := 0) rfl)) e0 (g := (mkF m 7 #[.val (.int p1), .val (.int p2), .val (.int p3), .val (.int p4), .val (.int p5), .val (.int (1 : Int32)), .unset, .unset, .unset, .unset, .unset, .unset, .unset, .unset, .unset] [(.int (1 : Int32))])) rfl (hb hby at_7) rfl (by decide) (cap := 1) (by decide) (by decide) (by decide) (by decide)
    obtain ⟨b15, g15⟩ : ∃ z, z = h0.size := ⟨_, rfl⟩
    rw [← g15] at A15 st15
    have R15 : ∀ t, Steps p.tables e below (T15.setTop (mkF m 9 #[.val (.int p1), .val (.int p2), .val (.int p3), .val (.int p4), .val (.int p5), .val (.int (1 : Int32)), .unset, .unset, .unset, .unset, .unset, .unset, .unset, .unset, .unset] [(.ref b15)])) t → Steps p.tables e below (s₁.setTop (entryFrame m #[(.int p1), (.int p2), (.int p3), (.int p4), (.int p5)] maxLocals)) t := fun t k => R14 t (st15 t k)
    have g_b15 : n0 ≤ b15 := Nat.le_trans Z0 (Nat.le_of_eq g15.symm)
    have sz_b15 : h0.size ≤ b15 := Nat.le_trans (Keep.refl h0 []).1 (Nat.le_of_eq g15.symm)
    have Z15 : n0 ≤ h15.size := Nat.le_trans Z0 E15.1
    have K15 : Keep h0 h15 [] := (Keep.refl h0 []).ext E15
    have V15 : Arv Z h15 b15 k15 .byte (1 : Int32) [(.int (0 : Int32))] (.int (0 : Int32)) := (Arv.new A15 (by decide)).pad (pad_rep [] (.int (0 : Int32)) 1)
    have R16 : ∀ t, Steps p.tables e below (T15.setTop (mkF m 21 #[.val (.int p1), .val (.int p2), .val (.int p3), .val (.int p4), .val (.int p5), .val (.int (1 : Int32)), .val (.ref b15), .unset, .unset, .unset, .unset, .unset, .unset, .unset, .unset] [(.int (p2.toInt8.toInt32)), (.int (0 : Int32)), (.ref b15)])) t → Steps p.tables e below (s₁.setTop (entryFrame m #[(.int p1), (.int p2), (.int p3), (.int p4), (.int p5)] maxLocals)) t := by
      intro t k
      refine R15 t ?_
      show Steps p.tables e below (T15.setTop (mkF m 9 #[.val (.int p1), .val (.int p2), .val (.int p3), .val (.int p4), .val (.int p5), .val (.int (1 : Int32)), .unset, .unset, .unset, .unset, .unset, .unset, .unset, .unset, .unset] [(.ref b15)])) _
      refine XS.astore X15.here hx rfl (hb hby at_9) rfl rfl (l' := #[.val (.int p1), .val (.int p2), .val (.int p3), .val (.int p4), .val (.int p5), .val (.int (1 : Int32)), .val (.ref b15), .unset, .unset, .unset, .unset, .unset, .unset, .unset, .unset]) rfl ?_
      show Steps p.tables e below (T15.setTop (mkF m 11 #[.val (.int p1), .val (.int p2), .val (.int p3), .val (.int p4), .val (.int p5), .val (.int (1 : Int32)), .val (.ref b15), .unset, .unset, .unset, .unset, .unset, .unset, .unset, .unset] [])) _
      refine XS.iload X15.here hx rfl (hb hby at_11) rfl ?_
      show Steps p.tables e below (T15.setTop (mkF m 13 #[.val (.int p1), .val (.int p2), .val (.int p3), .val (.int p4), .val (.int p5), .val (.int (1 : Int32)), .val (.ref b15), .unset, .unset, .unset, .unset, .unset, .unset, .unset, .unset] [(.int (1 : Int32))])) _
      refine XS.ifNo X15.here hx rfl (hb hby at_13) rfl ((if0 _ _).trans (tlt (by decide : ((0 : Int32) < (1 : Int32)))).2.2.2) ?_
      show Steps p.tables e below (T15.setTop (mkF m 16 #[.val (.int p1), .val (.int p2), .val (.int p3), .val (.int p4), .val (.int p5), .val (.int (1 : Int32)), .val (.ref b15), .unset, .unset, .unset, .unset, .unset, .unset, .unset, .unset] [])) _
      refine XS.aload X15.here hx rfl (hb hby at_16) rfl rfl ?_
      show Steps p.tables e below (T15.setTop (mkF m 18 #[.val (.int p1), .val (.int p2), .val (.int p3), .val (.int p4), .val (.int p5), .val (.int (1 : Int32)), .val (.ref b15), .unset, .unset, .unset, .unset, .unset, .unset, .unset, .unset] [(.ref b15)])) _
      refine XS.iconst X15.here hx rfl (hb hby at_18) ?_
      show Steps p.tables e below (T15.setTop (mkF m 19 #[.val (.int p1), .val (.int p2), .val (.int p3), .val (.int p4), .val (.int p5), .val (.int (1 : Int32)), .val (.ref b15), .unset, .unset, .unset, .unset, .unset, .unset, .unset, .unset] [(.int (0 : Int32)), (.ref b15)])) _
      refine XS.iloadN X15.here hx rfl (hb hby at_19) rfl ?_
      show Steps p.tables e below (T15.setTop (mkF m 20 #[.val (.int p1), .val (.int p2), .val (.int p3), .val (.int p4), .val (.int p5), .val (.int (1 : Int32)), .val (.ref b15), .unset, .unset, .unset, .unset, .unset, .unset, .unset, .unset] [(.int p2), (.int (0 : Int32)), (.ref b15)])) _
      refine XS.i2b X15.here hx rfl (hb hby at_20) rfl ?_
      exact k
    obtain ⟨cl17, Ar17, q17, S17, N17', H17, G17⟩ := id V15
    have hin17 : ¬ ((0 : Int32) < 0 ∨ cl17.slots.size ≤ ((0 : Int32)).toNatClampNeg) := inb_of S17 ⟨by decide, by decide⟩
    obtain ⟨T18, h18, X18, e18, W18, st18⟩ := stB X15 hx hZ e15 Ar17 (j := (0 : Int32)) hin17 (g := (mkF m 21 #[.val (.int p1), .val (.int p2), .val (.int p3), .val (.int p4), .val (.int p5), .val (.int (1 : Int32)), .val (.ref b15), .unset, .unset, .unset, .unset, .unset, .unset, .unset, .unset] [(.int (p2.toInt8.toInt32)), (.int (0 : Int32)), (.ref b15)])) rfl rfl (hb hby at_21)
    have R18 : ∀ t, Steps p.tables e below (T18.setTop (mkF m 22 #[.val (.int p1), .val (.int p2), .val (.int p3), .val (.int p4), .val (.int p5), .val (.int (1 : Int32)), .val (.ref b15), .unset, .unset, .unset, .unset, .unset, .unset, .unset, .unset] [])) t → Steps p.tables e below (s₁.setTop (entryFrame m #[(.int p1), (.int p2), (.int p3), (.int p4), (.int p5)] maxLocals)) t := fun t k => R16 t (st18 t k)
    have Z18 : n0 ≤ h18.size := Nat.le_trans Z15 (Keep.of_wr W18).1
    have K18 : Keep h0 h18 [] := K15.wr W18 (Or.inr sz_b15)
    have N18 := Fr.snoc X18 N0 g_b15
    have V18 : Arv Z h18 b15 k15 .byte (1 : Int32) [(.int (nar .byte (p2.toInt8.toInt32)))] (.int (0 : Int32)) := Arv.set Ar17 q17 S17 N17' H17 G17 (fits_nar_byte _) W18 0 rfl (Nat.le_of_ble_eq_true rfl)
    have R19 : ∀ t, Steps p.tables e below (T18.setTop (mkF m 46 #[.val (.int p1), .val (.int p2), .val (.int p3), .val (.int p4), .val (.int p5), .val (.int (1 : Int32)), .val (.ref b15), .unset, .unset, .unset, .unset, .unset, .unset, .unset, .unset] [])) t → Steps p.tables e below (s₁.setTop (entryFrame m #[(.int p1), (.int p2), (.int p3), (.int p4), (.int p5)] maxLocals)) t := by
      intro t k
      refine R18 t ?_
      show Steps p.tables e below (T18.setTop (mkF m 22 #[.val (.int p1), .val (.int p2), .val (.int p3), .val (.int p4), .val (.int p5), .val (.int (1 : Int32)), .val (.ref b15), .unset, .unset, .unset, .unset, .unset, .unset, .unset, .unset] [])) _
      refine XS.iload X18.here hx rfl (hb hby at_22) rfl ?_
      show Steps p.tables e below (T18.setTop (mkF m 24 #[.val (.int p1), .val (.int p2), .val (.int p3), .val (.int p4), .val (.int p5), .val (.int (1 : Int32)), .val (.ref b15), .unset, .unset, .unset, .unset, .unset, .unset, .unset, .unset] [(.int (1 : Int32))])) _
      refine XS.iconst X18.here hx rfl (hb hby at_24) ?_
      show Steps p.tables e below (T18.setTop (mkF m 25 #[.val (.int p1), .val (.int p2), .val (.int p3), .val (.int p4), .val (.int p5), .val (.int (1 : Int32)), .val (.ref b15), .unset, .unset, .unset, .unset, .unset, .unset, .unset, .unset] [(.int (1 : Int32)), (.int (1 : Int32))])) _
      refine XS.icmpYes X18.here hx rfl (pc0 := 25) (pc' := 34) rfl (hb hby at_25) rfl (flt (by decide : ¬ ((1 : Int32) < (1 : Int32)))).2.2.2 (by decide) (by decide) ?_
      show Steps p.tables e below (T18.setTop (mkF m 34 #[.val (.int p1), .val (.int p2), .val (.int p3), .val (.int p4), .val (.int p5), .val (.int (1 : Int32)), .val (.ref b15), .unset, .unset, .unset, .unset, .unset, .unset, .unset, .unset] [])) _
      refine XS.iload X18.here hx rfl (hb hby at_34) rfl ?_
      show Steps p.tables e below (T18.setTop (mkF m 36 #[.val (.int p1), .val (.int p2), .val (.int p3), .val (.int p4), .val (.int p5), .val (.int (1 : Int32)), .val (.ref b15), .unset, .unset, .unset, .unset, .unset, .unset, .unset, .unset] [(.int (1 : Int32))])) _
      refine XS.iconst X18.here hx rfl (hb hby at_36) ?_
      show Steps p.tables e below (T18.setTop (mkF m 37 #[.val (.int p1), .val (.int p2), .val (.int p3), .val (.int p4), .val (.int p5), .val (.int (1 : Int32)), .val (.ref b15), .unset, .unset, .unset, .unset, .unset, .unset, .unset, .unset] [(.int (2 : Int32)), (.int (1 : Int32))])) _
      refine XS.icmpYes X18.here hx rfl (pc0 := 37) (pc' := 46) rfl (hb hby at_37) rfl (flt (by decide : ¬ ((2 : Int32) < (1 : Int32)))).2.2.2 (by decide) (by decide) ?_
      exact k
    obtain ⟨T20, h20, X20, e20, E20, A20, D20, -, st20⟩ := newO X18 hx hZ hown (hw _ (List.mem_of_getElem? (i := 1) rfl)) (hw _ (List.mem_of_getElem? (i := 2) rfl)) (hw _ (List.mem_of_getElem? (i := 3) rfl)) e18 (g := (mkF m 46 #[.val (.int p1), .val (.int p2), .val (.int p3), .val (.int p4), .val (.int p5), .val (.int (1 : Int32)), .val (.ref b15), .unset, .unset, .unset, .unset, .unset, .unset, .unset, .unset] [])) rfl (hb hby at_46) (by decide) (by decide)
    obtain ⟨b20, g20⟩ : ∃ z, z = h18.size := ⟨_, rfl⟩
    rw [← g20] at A20 D20 st20
    have R20 : ∀ t, Steps p.tables e below (T20.setTop (mkF m 49 #[.val (.int p1), .val (.int p2), .val (.int p3), .val (.int p4), .val (.int p5), .val (.int (1 : Int32)), .val (.ref b15), .unset, .unset, .unset, .unset, .unset, .unset, .unset, .unset] [(.ref b20)])) t → Steps p.tables e below (s₁.setTop (entryFrame m #[(.int p1), (.int p2), (.int p3), (.int p4), (.int p5)] maxLocals)) t := fun t k => R19 t (st20 t k)
    have ne_b15_b20 : b15 ≠ b20 := Nat.ne_of_lt (Nat.lt_of_lt_of_le V18.lt (Nat.le_of_eq g20.symm))
    have g_b20 : n0 ≤ b20 := Nat.le_trans Z18 (Nat.le_of_eq g20.symm)
    have sz_b20 : h0.size ≤ b20 := Nat.le_trans K18.1 (Nat.le_of_eq g20.symm)
    have Z20 : n0 ≤ h20.size := Nat.le_trans Z18 E20.1
    have K20 : Keep h0 h20 [] := K18.ext E20
    have f21 : Arv Z h20 b15 k15 .byte (1 : Int32) [(.int (nar .byte (p2.toInt8.toInt32)))] (.int (0 : Int32)) := V18.ext E20
    have R22 : ∀ t, Steps p.tables e below (T20.setTop (mkF m 50 #[.val (.int p1), .val (.int p2), .val (.int p3), .val (.int p4), .val (.int p5), .val (.int (1 : Int32)), .val (.ref b15), .unset, .unset, .unset, .unset, .unset, .unset, .unset, .unset] [(.ref b20), (.ref b20)])) t → Steps p.tables e below (s₁.setTop (entryFrame m #[(.int p1), (.int p2), (.int p3), (.int p4), (.int p5)] maxLocals)) t := by
      intro t k
      refine R20 t ?_
      show Steps p.tables e below (T20.setTop (mkF m 49 #[.val (.int p1), .val (.int p2), .val (.int p3), .val (.int p4), .val (.int p5), .val (.int (1 : Int32)), .val (.ref b15), .unset, .unset, .unset, .unset, .unset, .unset, .unset, .unset] [(.ref b20)])) _
      refine XS.dup X20.here hx rfl (hb hby at_49) rfl rfl ?_
      exact k
    obtain ⟨_, _, ⟨T23, L23, k23, n23⟩, -, X23, ⟨Lc23, hQ23, l23, y23, z23⟩, st23⟩ := X20.specialBack hx (y := (⟨"com/example/columnwire/columnwire/codec/ZlibStream", "<init>", "()V"⟩ : MethodName)) rfl hown (mvT hZ (hw _ (List.mem_of_getElem? (i := 4) rfl))) (mvT hZ (hw _ (List.mem_of_getElem? (i := 5) rfl))) (mvT hZ (hw _ (List.mem_of_getElem? (i := 6) rfl))) (by decide) (backOf (W := 1) (rm1 l Z a0 hw [] b20  h20 n0 Z20 ) hZ (hw _ (List.mem_of_getElem? (i := 6) rfl)) (hw _ (List.mem_of_getElem? (i := 3) rfl)) (by decide) (by decide)) (g := (mkF m 50 #[.val (.int p1), .val (.int p2), .val (.int p3), .val (.int p4), .val (.int p5), .val (.int (1 : Int32)), .val (.ref b15), .unset, .unset, .unset, .unset, .unset, .unset, .unset, .unset] [(.ref b20), (.ref b20)])) rfl (by rw [hml]; rfl) (Steps.refl _) (a := b20) (argsL := []) (rest := [(.ref b20)]) (lenOf own_pd0 rfl) rfl (by show 2 * 0 + _ ≤ _; exact Nat.le_of_eq rfl) (hb hby at_50) (fun _ _ => ⟨rfl, e20, (by decide : 2 + 0 ≤ _), (by decide : 1 + 0 ≤ _)⟩)
    dsimp only [Pt.U, Pt.locs, Pt.cells, Pt.slots] at X23 l23 y23 z23 st23 hQ23
    subst l23 y23 z23
    obtain ⟨rfl, Nq23, eq23⟩ := hQ23
    have N23 := Fr.app N18 Nq23
    have R23 : ∀ t, Steps p.tables e below (T23.setTop (mkF m 53 #[.val (.int p1), .val (.int p2), .val (.int p3), .val (.int p4), .val (.int p5), .val (.int (1 : Int32)), .val (.ref b15), .unset, .unset, .unset, .unset, .unset, .unset, .unset, .unset] [(.ref b20)])) t → Steps p.tables e below (s₁.setTop (entryFrame m #[(.int p1), (.int p2), (.int p3), (.int p4), (.int p5)] maxLocals)) t := fun t k => R22 t (st23.trans k)
    have R24 : ∀ t, Steps p.tables e below (T23.setTop (mkF m 57 #[.val (.int p1), .val (.int p2), .val (.int p3), .val (.int p4), .val (.int p5), .val (.int (1 : Int32)), .val (.ref b15), .unset, .unset, .unset, .unset, .unset, .unset, .unset, .unset] [(.int p5), (.ref b15), (.ref b20)])) t → Steps p.tables e below (s₁.setTop (entryFrame m #[(.int p1), (.int p2), (.int p3), (.int p4), (.int p5)] maxLocals)) t := by
      intro t k
      refine R23 t ?_
      show Steps p.tables e below (T23.setTop (mkF m 53 #[.val (.int p1), .val (.int p2), .val (.int p3), .val (.int p4), .val (.int p5), .val (.int (1 : Int32)), .val (.ref b15), .unset, .unset, .unset, .unset, .unset, .unset, .unset, .unset] [(.ref b20)])) _
      refine XS.aload X23.here hx rfl (hb hby at_53) rfl rfl ?_
      show Steps p.tables e below (T23.setTop (mkF m 55 #[.val (.int p1), .val (.int p2), .val (.int p3), .val (.int p4), .val (.int p5), .val (.int (1 : Int32)), .val (.ref b15), .unset, .unset, .unset, .unset, .unset, .unset, .unset, .unset] [(.ref b15), (.ref b20)])) _
      refine XS.iload X23.here hx rfl (hb hby at_55) rfl ?_
      exact k
    obtain ⟨cq25, kq25, q25a, q25b, q25c⟩ := isOf hZ eq23 A20
    obtain ⟨_, _, ⟨T25, L25, k25, n25⟩, -, X25, ⟨Lc25, hQ25, l25, y25, z25⟩, st25⟩ := X23.virtualBack hx (y := (⟨"com/example/columnwire/columnwire/codec/ZlibStream", "beginsAsBlock", "([BI)Z"⟩ : MethodName)) (z := (⟨"com/example/columnwire/columnwire/codec/ZlibStream", "beginsAsBlock", "([BI)Z"⟩ : MethodName)) hown (mvT hZ (hw _ (List.mem_of_getElem? (i := 10) rfl))) (mvT hZ (hw _ (List.mem_of_getElem? (i := 11) rfl))) (notFace_of_selects (args := #[]) (mvT hZ (hw _ (List.mem_of_getElem? (i := 13) rfl)))) (mvT hZ (hw _ (List.mem_of_getElem? (i := 13) rfl))) (mvT hZ (hw _ (List.mem_of_getElem? (i := 12) rfl))) (by decide) (backOf (W := 0) (rm3s l Z a0 hw [] b20 b15 p5 k15 (1 : Int32) [(.int (nar .byte (p2.toInt8.toInt32)))] (.int (0 : Int32)) h20 n0 Z20 f21 (by decide)) hZ (hw _ (List.mem_of_getElem? (i := 14) rfl)) (hw _ (List.mem_of_getElem? (i := 3) rfl)) (by decide) (by decide)) q25a q25c (g := (mkF m 57 #[.val (.int p1), .val (.int p2), .val (.int p3), .val (.int p4), .val (.int p5), .val (.int (1 : Int32)), .val (.ref b15), .unset, .unset, .unset, .unset, .unset, .unset, .unset, .unset] [(.int p5), (.ref b15), (.ref b20)])) rfl (by rw [hml]; rfl) (Steps.refl _) (argsL := [(.ref b15), (.int p5)]) (rest := []) (lenOf own_pd1 rfl) rfl (by show 2 * 0 + _ ≤ _; exact Nat.le_of_eq rfl) (hb hby at_57) (fun _ _ => ⟨rfl, eq23, (by decide : 2 + 0 ≤ _), (by decide : 1 + 0 ≤ _)⟩)
    dsimp only [Pt.U, Pt.locs, Pt.cells, Pt.slots] at X25 l25 y25 z25 st25 hQ25
    subst l25 y25 z25
    obtain ⟨rfl, Nq25, eq25⟩ := hQ25
    have N25 := Fr.app N23 Nq25
    have R25 : ∀ t, Steps p.tables e below (T25.setTop (mkF m 60 #[.val (.int p1), .val (.int p2), .val (.int p3), .val (.int p4), .val (.int p5), .val (.int (1 : Int32)), .val (.ref b15), .unset, .unset, .unset, .unset, .unset, .unset, .unset, .unset] [(.int (0 : Int32))])) t → Steps p.tables e below (s₁.setTop (entryFrame m #[(.int p1), (.int p2), (.int p3), (.int p4), (.int p5)] maxLocals)) t := fun t k => R24 t (st25.trans k)
    have R26 : ∀ t, Steps p.tables e below (T25.setTop (mkF m 196 #[.val (.int p1), .val (.int p2), .val (.int p3), .val (.int p4), .val (.int p5), .val (.int (1 : Int32)), .val (.ref b15), .val (.int (0 : Int32)), .val (.int (0 : Int32)), .unset, .unset, .unset, .unset, .unset, .unset] [(.int (1 : Int32))])) t → Steps p.tables e below (s₁.setTop (entryFrame m #[(.int p1), (.int p2), (.int p3), (.int p4), (.int p5)] maxLocals)) t := by
      intro t k
      refine R25 t ?_
      show Steps p.tables e below (T25.setTop (mkF m 60 #[.val (.int p1), .val (.int p2), .val (.int p3), .val (.int p4), .val (.int p5), .val (.int (1 : Int32)), .val (.ref b15), .unset, .unset, .unset, .unset, .unset, .unset, .unset, .unset] [(.int (0 : Int32))])) _
      refine XS.istore X25.here hx rfl (hb hby at_60) rfl (l' := #[.val (.int p1), .val (.int p2), .val (.int p3), .val (.int p4), .val (.int p5), .val (.int (1 : Int32)), .val (.ref b15), .val (.int (0 : Int32)), .unset, .unset, .unset, .unset, .unset, .unset, .unset]) rfl ?_
      show Steps p.tables e below (T25.setTop (mkF m 62 #[.val (.int p1), .val (.int p2), .val (.int p3), .val (.int p4), .val (.int p5), .val (.int (1 : Int32)), .val (.ref b15), .val (.int (0 : Int32)), .unset, .unset, .unset, .unset, .unset, .unset, .unset] [])) _
      refine XS.iload X25.here hx rfl (hb hby at_62) rfl ?_
      show Steps p.tables e below (T25.setTop (mkF m 64 #[.val (.int p1), .val (.int p2), .val (.int p3), .val (.int p4), .val (.int p5), .val (.int (1 : Int32)), .val (.ref b15), .val (.int (0 : Int32)), .unset, .unset, .unset, .unset, .unset, .unset, .unset] [(.int (1 : Int32))])) _
      refine XS.iconst X25.here hx rfl (hb hby at_64) ?_
      show Steps p.tables e below (T25.setTop (mkF m 65 #[.val (.int p1), .val (.int p2), .val (.int p3), .val (.int p4), .val (.int p5), .val (.int (1 : Int32)), .val (.ref b15), .val (.int (0 : Int32)), .unset, .unset, .unset, .unset, .unset, .unset, .unset] [(.int (2 : Int32)), (.int (1 : Int32))])) _
      refine XS.icmpNo X25.here hx rfl (hb hby at_65) rfl (tlt (by decide : ((1 : Int32) < (2 : Int32)))).2.1 ?_
      show Steps p.tables e below (T25.setTop (mkF m 68 #[.val (.int p1), .val (.int p2), .val (.int p3), .val (.int p4), .val (.int p5), .val (.int (1 : Int32)), .val (.ref b15), .val (.int (0 : Int32)), .unset, .unset, .unset, .unset, .unset, .unset, .unset] [])) _
      refine XS.iconst X25.here hx rfl (hb hby at_68) ?_
      show Steps p.tables e below (T25.setTop (mkF m 69 #[.val (.int p1), .val (.int p2), .val (.int p3), .val (.int p4), .val (.int p5), .val (.int (1 : Int32)), .val (.ref b15), .val (.int (0 : Int32)), .unset, .unset, .unset, .unset, .unset, .unset, .unset] [(.int (0 : Int32))])) _
      refine XS.istore X25.here hx rfl (hb hby at_69) rfl (l' := #[.val (.int p1), .val (.int p2), .val (.int p3), .val (.int p4), .val (.int p5), .val (.int (1 : Int32)), .val (.ref b15), .val (.int (0 : Int32)), .val (.int (0 : Int32)), .unset, .unset, .unset, .unset, .unset, .unset]) rfl ?_
      show Steps p.tables e below (T25.setTop (mkF m 71 #[.val (.int p1), .val (.int p2), .val (.int p3), .val (.int p4), .val (.int p5), .val (.int (1 : Int32)), .val (.ref b15), .val (.int (0 : Int32)), .val (.int (0 : Int32)), .unset, .unset, .unset, .unset, .unset, .unset] [])) _
      refine XS.goto X25.here hx rfl (pc0 := 71) (pc' := 184) rfl (hb hby at_71) (by decide) (by decide) ?_
      show Steps p.tables e below (T25.setTop (mkF m 184 #[.val (.int p1), .val (.int p2), .val (.int p3), .val (.int p4), .val (.int p5), .val (.int (1 : Int32)), .val (.ref b15), .val (.int (0 : Int32)), .val (.int (0 : Int32)), .unset, .unset, .unset, .unset, .unset, .unset] [])) _
      refine XS.iload X25.here hx rfl (hb hby at_184) rfl ?_
      show Steps p.tables e below (T25.setTop (mkF m 186 #[.val (.int p1), .val (.int p2), .val (.int p3), .val (.int p4), .val (.int p5), .val (.int (1 : Int32)), .val (.ref b15), .val (.int (0 : Int32)), .val (.int (0 : Int32)), .unset, .unset, .unset, .unset, .unset, .unset] [(.int (0 : Int32))])) _
      refine XS.iload X25.here hx rfl (hb hby at_186) rfl ?_
      show Steps p.tables e below (T25.setTop (mkF m 188 #[.val (.int p1), .val (.int p2), .val (.int p3), .val (.int p4), .val (.int p5), .val (.int (1 : Int32)), .val (.ref b15), .val (.int (0 : Int32)), .val (.int (0 : Int32)), .unset, .unset, .unset, .unset, .unset, .unset] [(.int (0 : Int32)), (.int (0 : Int32))])) _
      refine XS.icmpNo X25.here hx rfl (hb hby at_188) rfl (teq (by decide : ((0 : Int32) = (0 : Int32)))).2 ?_
      show Steps p.tables e below (T25.setTop (mkF m 191 #[.val (.int p1), .val (.int p2), .val (.int p3), .val (.int p4), .val (.int p5), .val (.int (1 : Int32)), .val (.ref b15), .val (.int (0 : Int32)), .val (.int (0 : Int32)), .unset, .unset, .unset, .unset, .unset, .unset] [])) _
      refine XS.iconst X25.here hx rfl (hb hby at_191) ?_
      show Steps p.tables e below (T25.setTop (mkF m 192 #[.val (.int p1), .val (.int p2), .val (.int p3), .val (.int p4), .val (.int p5), .val (.int (1 : Int32)), .val (.ref b15), .val (.int (0 : Int32)), .val (.int (0 : Int32)), .unset, .unset, .unset, .unset, .unset, .unset] [(.int (1 : Int32))])) _
      refine XS.goto X25.here hx rfl (pc0 := 192) (pc' := 196) rfl (hb hby at_192) (by decide) (by decide) ?_
      exact k
    obtain ⟨fs, hr, hrun, hended, hW, hsame⟩ := X25.leave (v := some (.int (1 : Int32))) (fun h => by rw [Bd.returns] at h; cases h)
    refine ⟨_, _, R26 _ ?_, hrun, hended, _, _, rfl, ?_, ⟨_, rfl⟩, hW, hsame.mono (by decide) (by decide)⟩
    · exact retN X25 hx (t := .boolean) Bd.returns (by simp) (hb hby at_196) hr
    · show Q_rm0 Z p1 p2 p3 p4 p5 h0 n0 _ T25.heap _
      rw [eq25]
      exact ⟨rfl, N25⟩
  · have R27 : ∀ t, Steps p.tables e below (s₁.setTop (mkF m 5 #[.val (.int p1), .val (.int p2), .val (.int p3), .val (.int p4), .val (.int p5), .val (.int (2 : Int32)), .unset, .unset, .unset, .unset, .unset, .unset, .unset, .unset, .unset] [])) t → Steps p.tables e below (s₁.setTop (entryFrame m #[(.int p1), (.int p2), (.int p3), (.int p4), (.int p5)] maxLocals)) t := by rw [(hl : (p1 &&& (3 : Int32)) = (2 : Int32))] at R1; exact R1
    have R28 : ∀ t, Steps p.tables e below (s₁.setTop (mkF m 7 #[.val (.int p1), .val (.int p2), .val (.int p3), .val (.int p4), .val (.int p5), .val (.int (2 : Int32)), .unset, .unset, .unset, .unset, .unset, .unset, .unset, .unset, .unset] [(.int (2 : Int32))])) t → Steps p.tables e below (s₁.setTop (entryFrame m #[(.int p1), (.int p2), (.int p3), (.int p4), (.int p5)] maxLocals)) t := by
      intro t k
      refine R27 t ?_
      show Steps p.tables e below (s₁.setTop (mkF m 5 #[.val (.int p1), .val (.int p2), .val (.int p3), .val (.int p4), .val (.int p5), .val (.int (2 : Int32)), .unset, .unset, .unset, .unset, .unset, .unset, .unset, .unset, .unset] [])) _
      refine XS.iload X0.here hx rfl (hb hby at_5) rfl ?_
      exact k
    obtain ⟨T29, h29, k29, X29, e29, E29, A29, st29⟩ := newP X0 hx hZ (hw _ (List.mem_of_getElem? (i := 0) rfl)) e0 (g := (mkF m 7 #[.val (.int p1), .val (.int p2), .val (.int p3), .val (.int p4), .val (.int p5), .val (.int (2 : Int32)), .unset, .unset, .unset, .unset, .unset, .unset, .unset, .unset, .unset] [(.int (2 : Int32))])) rfl (hb hby at_7) rfl (by decide) (cap := 2) (by decide) (by decide) (by decide) (by decide)
    obtain ⟨b29, g29⟩ : ∃ z, z = h0.size := ⟨_, rfl⟩
    rw [← g29] at A29 st29
    have R29 : ∀ t, Steps p.tables e below (T29.setTop (mkF m 9 #[.val (.int p1), .val (.int p2), .val (.int p3), .val (.int p4), .val (.int p5), .val (.int (2 : Int32)), .unset, .unset, .unset, .unset, .unset, .unset, .unset, .unset, .unset] [(.ref b29)])) t → Steps p.tables e below (s₁.setTop (entryFrame m #[(.int p1), (.int p2), (.int p3), (.int p4), (.int p5)] maxLocals)) t := fun t k => R28 t (st29 t k)
    have g_b29 : n0 ≤ b29 := Nat.le_trans Z0 (Nat.le_of_eq g29.symm)
    have sz_b29 : h0.size ≤ b29 := Nat.le_trans (Keep.refl h0 []).1 (Nat.le_of_eq g29.symm)
    have Z29 : n0 ≤ h29.size := Nat.le_trans Z0 E29.1
    have K29 : Keep h0 h29 [] := (Keep.refl h0 []).ext E29
    have V29 : Arv Z h29 b29 k29 .byte (2 : Int32) [(.int (0 : Int32)), (.int (0 : Int32))] (.int (0 : Int32)) := (Arv.new A29 (by decide)).pad (pad_rep [] (.int (0 : Int32)) 2)
    have R30 : ∀ t, Steps p.tables e below (T29.setTop (mkF m 21 #[.val (.int p1), .val (.int p2), .val (.int p3), .val (.int p4), .val (.int p5), .val (.int (2 : Int32)), .val (.ref b29), .unset, .unset, .unset, .unset, .unset, .unset, .unset, .unset] [(.int (p2.toInt8.toInt32)), (.int (0 : Int32)), (.ref b29)])) t → Steps p.tables e below (s₁.setTop (entryFrame m #[(.int p1), (.int p2), (.int p3), (.int p4), (.int p5)] maxLocals)) t := by
      intro t k
      refine R29 t ?_
      show Steps p.tables e below (T29.setTop (mkF m 9 #[.val (.int p1), .val (.int p2), .val (.int p3), .val (.int p4), .val (.int p5), .val (.int (2 : Int32)), .unset, .unset, .unset, .unset, .unset, .unset, .unset, .unset, .unset] [(.ref b29)])) _
      refine XS.astore X29.here hx rfl (hb hby at_9) rfl rfl (l' := #[.val (.int p1), .val (.int p2), .val (.int p3), .val (.int p4), .val (.int p5), .val (.int (2 : Int32)), .val (.ref b29), .unset, .unset, .unset, .unset, .unset, .unset, .unset, .unset]) rfl ?_
      show Steps p.tables e below (T29.setTop (mkF m 11 #[.val (.int p1), .val (.int p2), .val (.int p3), .val (.int p4), .val (.int p5), .val (.int (2 : Int32)), .val (.ref b29), .unset, .unset, .unset, .unset, .unset, .unset, .unset, .unset] [])) _
      refine XS.iload X29.here hx rfl (hb hby at_11) rfl ?_
      show Steps p.tables e below (T29.setTop (mkF m 13 #[.val (.int p1), .val (.int p2), .val (.int p3), .val (.int p4), .val (.int p5), .val (.int (2 : Int32)), .val (.ref b29), .unset, .unset, .unset, .unset, .unset, .unset, .unset, .unset] [(.int (2 : Int32))])) _
      refine XS.ifNo X29.here hx rfl (hb hby at_13) rfl ((if0 _ _).trans (tlt (by decide : ((0 : Int32) < (2 : Int32)))).2.2.2) ?_
      show Steps p.tables e below (T29.setTop (mkF m 16 #[.val (.int p1), .val (.int p2), .val (.int p3), .val (.int p4), .val (.int p5), .val (.int (2 : Int32)), .val (.ref b29), .unset, .unset, .unset, .unset, .unset, .unset, .unset, .unset] [])) _
      refine XS.aload X29.here hx rfl (hb hby at_16) rfl rfl ?_
      show Steps p.tables e below (T29.setTop (mkF m 18 #[.val (.int p1), .val (.int p2), .val (.int p3), .val (.int p4), .val (.int p5), .val (.int (2 : Int32)), .val (.ref b29), .unset, .unset, .unset, .unset, .unset, .unset, .unset, .unset] [(.ref b29)])) _
      refine XS.iconst X29.here hx rfl (hb hby at_18) ?_
      show Steps p.tables e below (T29.setTop (mkF m 19 #[.val (.int p1), .val (.int p2), .val (.int p3), .val (.int p4), .val (.int p5), .val (.int (2 : Int32)), .val (.ref b29), .unset, .unset, .unset, .unset, .unset, .unset, .unset, .unset] [(.int (0 : Int32)), (.ref b29)])) _
      refine XS.iloadN X29.here hx rfl (hb hby at_19) rfl ?_
      show Steps p.tables e below (T29.setTop (mkF m 20 #[.val (.int p1), .val (.int p2), .val (.int p3), .val (.int p4), .val (.int p5), .val (.int (2 : Int32)), .val (.ref b29), .unset, .unset, .unset, .unset, .unset, .unset, .unset, .unset] [(.int p2), (.int (0 : Int32)), (.ref b29)])) _
      refine XS.i2b X29.here hx rfl (hb hby at_20) rfl ?_
      exact k
    obtain ⟨cl31, Ar31, q31, S31, N31', H31, G31⟩ := id V29
    have hin31 : ¬ ((0 : Int32) < 0 ∨ cl31.slots.size ≤ ((0 : Int32)).toNatClampNeg) := inb_of S31 ⟨by decide, by decide⟩
    obtain ⟨T32, h32, X32, e32, W32, st32⟩ := stB X29 hx hZ e29 Ar31 (j := (0 : Int32)) hin31 (g := (mkF m 21 #[.val (.int p1), .val (.int p2), .val (.int p3), .val (.int p4), .val (.int p5), .val (.int (2 : Int32)), .val (.ref b29), .unset, .unset, .unset, .unset, .unset, .unset, .unset, .unset] [(.int (p2.toInt8.toInt32)), (.int (0 : Int32)), (.ref b29)])) rfl rfl (hb hby at_21)
    have R32 : ∀ t, Steps p.tables e below (T32.setTop (mkF m 22 #[.val (.int p1), .val (.int p2), .val (.int p3), .val (.int p4), .val (.int p5), .val (.int (2 : Int32)), .val (.ref b29), .unset, .unset, .unset, .unset, .unset, .unset, .unset, .unset] [])) t → Steps p.tables e below (s₁.setTop (entryFrame m #[(.int p1), (.int p2), (.int p3), (.int p4), (.int p5)] maxLocals)) t := fun t k => R30 t (st32 t k)
    have Z32 : n0 ≤ h32.size := Nat.le_trans Z29 (Keep.of_wr W32).1
    have K32 : Keep h0 h32 [] := K29.wr W32 (Or.inr sz_b29)
    have N32 := Fr.snoc X32 N0 g_b29
    have V32 : Arv Z h32 b29 k29 .byte (2 : Int32) [(.int (nar .byte (p2.toInt8.toInt32))), (.int (0 : Int32))] (.int (0 : Int32)) := Arv.set Ar31 q31 S31 N31' H31 G31 (fits_nar_byte _) W32 0 rfl (Nat.le_of_ble_eq_true rfl)
    have R33 : ∀ t, Steps p.tables e below (T32.setTop (mkF m 33 #[.val (.int p1), .val (.int p2), .val (.int p3), .val (.int p4), .val (.int p5), .val (.int (2 : Int32)), .val (.ref b29), .unset, .unset, .unset, .unset, .unset, .unset, .unset, .unset] [(.int (p3.toInt8.toInt32)), (.int (1 : Int32)), (.ref b29)])) t → Steps p.tables e below (s₁.setTop (entryFrame m #[(.int p1), (.int p2), (.int p3), (.int p4), (.int p5)] maxLocals)) t := by
      intro t k
      refine R32 t ?_
      show Steps p.tables e below (T32.setTop (mkF m 22 #[.val (.int p1), .val (.int p2), .val (.int p3), .val (.int p4), .val (.int p5), .val (.int (2 : Int32)), .val (.ref b29), .unset, .unset, .unset, .unset, .unset, .unset, .unset, .unset] [])) _
      refine XS.iload X32.here hx rfl (hb hby at_22) rfl ?_
      show Steps p.tables e below (T32.setTop (mkF m 24 #[.val (.int p1), .val (.int p2), .val (.int p3), .val (.int p4), .val (.int p5), .val (.int (2 : Int32)), .val (.ref b29), .unset, .unset, .unset, .unset, .unset, .unset, .unset, .unset] [(.int (2 : Int32))])) _
      refine XS.iconst X32.here hx rfl (hb hby at_24) ?_
      show Steps p.tables e below (T32.setTop (mkF m 25 #[.val (.int p1), .val (.int p2), .val (.int p3), .val (.int p4), .val (.int p5), .val (.int (2 : Int32)), .val (.ref b29), .unset, .unset, .unset, .unset, .unset, .unset, .unset, .unset] [(.int (1 : Int32)), (.int (2 : Int32))])) _
      refine XS.icmpNo X32.here hx rfl (hb hby at_25) rfl (tlt (by decide : ((1 : Int32) < (2 : Int32)))).2.2.2 ?_
      show Steps p.tables e below (T32.setTop (mkF m 28 #[.val (.int p1), .val (.int p2), .val (.int p3), .val (.int p4), .val (.int p5), .val (.int (2 : Int32)), .val (.ref b29), .unset, .unset, .unset, .unset, .unset, .unset, .unset, .unset] [])) _
      refine XS.aload X32.here hx rfl (hb hby at_28) rfl rfl ?_
      show Steps p.tables e below (T32.setTop (mkF m 30 #[.val (.int p1), .val (.int p2), .val (.int p3), .val (.int p4), .val (.int p5), .val (.int (2 : Int32)), .val (.ref b29), .unset, .unset, .unset, .unset, .unset, .unset, .unset, .unset] [(.ref b29)])) _
      refine XS.iconst X32.here hx rfl (hb hby at_30) ?_
      show Steps p.tables e below (T32.setTop (mkF m 31 #[.val (.int p1), .val (.int p2), .val (.int p3), .val (.int p4), .val (.int p5), .val (.int (2 : Int32)), .val (.ref b29), .unset, .unset, .unset, .unset, .unset, .unset, .unset, .unset] [(.int (1 : Int32)), (.ref b29)])) _
      refine XS.iloadN X32.here hx rfl (hb hby at_31) rfl ?_
      show Steps p.tables e below (T32.setTop (mkF m 32 #[.val (.int p1), .val (.int p2), .val (.int p3), .val (.int p4), .val (.int p5), .val (.int (2 : Int32)), .val (.ref b29), .unset, .unset, .unset, .unset, .unset, .unset, .unset, .unset] [(.int p3), (.int (1 : Int32)), (.ref b29)])) _
      refine XS.i2b X32.here hx rfl (hb hby at_32) rfl ?_
      exact k
    obtain ⟨cl34, Ar34, q34, S34, N34', H34, G34⟩ := id V32
    have hin34 : ¬ ((1 : Int32) < 0 ∨ cl34.slots.size ≤ ((1 : Int32)).toNatClampNeg) := inb_of S34 ⟨by decide, by decide⟩
    obtain ⟨T35, h35, X35, e35, W35, st35⟩ := stB X32 hx hZ e32 Ar34 (j := (1 : Int32)) hin34 (g := (mkF m 33 #[.val (.int p1), .val (.int p2), .val (.int p3), .val (.int p4), .val (.int p5), .val (.int (2 : Int32)), .val (.ref b29), .unset, .unset, .unset, .unset, .unset, .unset, .unset, .unset] [(.int (p3.toInt8.toInt32)), (.int (1 : Int32)), (.ref b29)])) rfl rfl (hb hby at_33)
    have R35 : ∀ t, Steps p.tables e below (T35.setTop (mkF m 34 #[.val (.int p1), .val (.int p2), .val (.int p3), .val (.int p4), .val (.int p5), .val (.int (2 : Int32)), .val (.ref b29), .unset, .unset, .unset, .unset, .unset, .unset, .unset, .unset] [])) t → Steps p.tables e below (s₁.setTop (entryFrame m #[(.int p1), (.int p2), (.int p3), (.int p4), (.int p5)] maxLocals)) t := fun t k => R33 t (st35 t k)
    have Z35 : n0 ≤ h35.size := Nat.le_trans Z32 (Keep.of_wr W35).1
    have K35 : Keep h0 h35 [] := K32.wr W35 (Or.inr sz_b29)
    have N35 := Fr.snoc X35 N32 g_b29
    have V35 : Arv Z h35 b29 k29 .byte (2 : Int32) [(.int (nar .byte (p2.toInt8.toInt32))), (.int (nar .byte (p3.toInt8.toInt32)))] (.int (0 : Int32)) := Arv.set Ar34 q34 S34 N34' H34 G34 (fits_nar_byte _) W35 1 rfl (Nat.le_of_ble_eq_true rfl)
    have R36 : ∀ t, Steps p.tables e below (T35.setTop (mkF m 46 #[.val (.int p1), .val (.int p2), .val (.int p3), .val (.int p4), .val (.int p5), .val (.int (2 : Int32)), .val (.ref b29), .unset, .unset, .unset, .unset, .unset, .unset, .unset, .unset] [])) t → Steps p.tables e below (s₁.setTop (entryFrame m #[(.int p1), (.int p2), (.int p3), (.int p4), (.int p5)] maxLocals)) t := by
      intro t k
      refine R35 t ?_
      show Steps p.tables e below (T35.setTop (mkF m 34 #[.val (.int p1), .val (.int p2), .val (.int p3), .val (.int p4), .val (.int p5), .val (.int (2 : Int32)), .val (.ref b29), .unset, .unset, .unset, .unset, .unset, .unset, .unset, .unset] [])) _
      refine XS.iload X35.here hx rfl (hb hby at_34) rfl ?_
      show Steps p.tables e below (T35.setTop (mkF m 36 #[.val (.int p1), .val (.int p2), .val (.int p3), .val (.int p4), .val (.int p5), .val (.int (2 : Int32)), .val (.ref b29), .unset, .unset, .unset, .unset, .unset, .unset, .unset, .unset] [(.int (2 : Int32))])) _
      refine XS.iconst X35.here hx rfl (hb hby at_36) ?_
      show Steps p.tables e below (T35.setTop (mkF m 37 #[.val (.int p1), .val (.int p2), .val (.int p3), .val (.int p4), .val (.int p5), .val (.int (2 : Int32)), .val (.ref b29), .unset, .unset, .unset, .unset, .unset, .unset, .unset, .unset] [(.int (2 : Int32)), (.int (2 : Int32))])) _
      refine XS.icmpYes X35.here hx rfl (pc0 := 37) (pc' := 46) rfl (hb hby at_37) rfl (flt (by decide : ¬ ((2 : Int32) < (2 : Int32)))).2.2.2 (by decide) (by decide) ?_
      exact k
    obtain ⟨T37, h37, X37, e37, E37, A37, D37, -, st37⟩ := newO X35 hx hZ hown (hw _ (List.mem_of_getElem? (i := 1) rfl)) (hw _ (List.mem_of_getElem? (i := 2) rfl)) (hw _ (List.mem_of_getElem? (i := 3) rfl)) e35 (g := (mkF m 46 #[.val (.int p1), .val (.int p2), .val (.int p3), .val (.int p4), .val (.int p5), .val (.int (2 : Int32)), .val (.ref b29), .unset, .unset, .unset, .unset, .unset, .unset, .unset, .unset] [])) rfl (hb hby at_46) (by decide) (by decide)
    obtain ⟨b37, g37⟩ : ∃ z, z = h35.size := ⟨_, rfl⟩
    rw [← g37] at A37 D37 st37
    have R37 : ∀ t, Steps p.tables e below (T37.setTop (mkF m 49 #[.val (.int p1), .val (.int p2), .val (.int p3), .val (.int p4), .val (.int p5), .val (.int (2 : Int32)), .val (.ref b29), .unset, .unset, .unset, .unset, .unset, .unset, .unset, .unset] [(.ref b37)])) t → Steps p.tables e below (s₁.setTop (entryFrame m #[(.int p1), (.int p2), (.int p3), (.int p4), (.int p5)] maxLocals)) t := fun t k => R36 t (st37 t k)
    have ne_b29_b37 : b29 ≠ b37 := Nat.ne_of_lt (Nat.lt_of_lt_of_le V35.lt (Nat.le_of_eq g37.symm))
    have g_b37 : n0 ≤ b37 := Nat.le_trans Z35 (Nat.le_of_eq g37.symm)
    have sz_b37 : h0.size ≤ b37 := Nat.le_trans K35.1 (Nat.le_of_eq g37.symm)
    have Z37 : n0 ≤ h37.size := Nat.le_trans Z35 E37.1
    have K37 : Keep h0 h37 [] := K35.ext E37
    have f38 : Arv Z h37 b29 k29 .byte (2 : Int32) [(.int (nar .byte (p2.toInt8.toInt32))), (.int (nar .byte (p3.toInt8.toInt32)))] (.int (0 : Int32)) := V35.ext E37
    have R39 : ∀ t, Steps p.tables e below (T37.setTop (mkF m 50 #[.val (.int p1), .val (.int p2), .val (.int p3), .val (.int p4), .val (.int p5), .val (.int (2 : Int32)), .val (.ref b29), .unset, .unset, .unset, .unset, .unset, .unset, .unset, .unset] [(.ref b37), (.ref b37)])) t → Steps p.tables e below (s₁.setTop (entryFrame m #[(.int p1), (.int p2), (.int p3), (.int p4), (.int p5)] maxLocals)) t := by
      intro t k
      refine R37 t ?_
      show Steps p.tables e below (T37.setTop (mkF m 49 #[.val (.int p1), .val (.int p2), .val (.int p3), .val (.int p4), .val (.int p5), .val (.int (2 : Int32)), .val (.ref b29), .unset, .unset, .unset, .unset, .unset, .unset, .unset, .unset] [(.ref b37)])) _
      refine XS.dup X37.here hx rfl (hb hby at_49) rfl rfl ?_
      exact k
    obtain ⟨_, _, ⟨T40, L40, k40, n40⟩, -, X40, ⟨Lc40, hQ40, l40, y40, z40⟩, st40⟩ := X37.specialBack hx (y := (⟨"com/example/columnwire/columnwire/codec/ZlibStream", "<init>", "()V"⟩ : MethodName)) rfl hown (mvT hZ (hw _ (List.mem_of_getElem? (i := 4) rfl))) (mvT hZ (hw _ (List.mem_of_getElem? (i := 5) rfl))) (mvT hZ (hw _ (List.mem_of_getElem? (i := 6) rfl))) (by decide) (backOf (W := 1) (rm1 l Z a0 hw [] b37  h37 n0 Z37 ) hZ (hw _ (List.mem_of_getElem? (i := 6) rfl)) (hw _ (List.mem_of_getElem? (i := 3) rfl)) (by decide) (by decide)) (g := (mkF m 50 #[.val (.int p1), .val (.int p2), .val (.int p3), .val (.int p4), .val (.int p5), .val (.int (2 : Int32)), .val (.ref b29), .unset, .unset, .unset, .unset, .unset, .unset, .unset, .unset] [(.ref b37), (.ref b37)])) rfl (by rw [hml]; rfl) (Steps.refl _) (a := b37) (argsL := []) (rest := [(.ref b37)]) (lenOf own_pd0 rfl) rfl (by show 2 * 0 + _ ≤ _; exact Nat.le_of_eq rfl) (hb hby at_50) (fun _ _ => ⟨rfl, e37, (by decide : 2 + 0 ≤ _), (by decide : 2 + 0 ≤ _)⟩)
    dsimp only [Pt.U, Pt.locs, Pt.cells, Pt.slots] at X40 l40 y40 z40 st40 hQ40
    subst l40 y40 z40
    obtain ⟨rfl, Nq40, eq40⟩ := hQ40
    have N40 := Fr.app N35 Nq40
    have R40 : ∀ t, Steps p.tables e below (T40.setTop (mkF m 53 #[.val (.int p1), .val (.int p2), .val (.int p3), .val (.int p4), .val (.int p5), .val (.int (2 : Int32)), .val (.ref b29), .unset, .unset, .unset, .unset, .unset, .unset, .unset, .unset] [(.ref b37)])) t → Steps p.tables e below (s₁.setTop (entryFrame m #[(.int p1), (.int p2), (.int p3), (.int p4), (.int p5)] maxLocals)) t := fun t k => R39 t (st40.trans k)
    have R41 : ∀ t, Steps p.tables e below (T40.setTop (mkF m 57 #[.val (.int p1), .val (.int p2), .val (.int p3), .val (.int p4), .val (.int p5), .val (.int (2 : Int32)), .val (.ref b29), .unset, .unset, .unset, .unset, .unset, .unset, .unset, .unset] [(.int p5), (.ref b29), (.ref b37)])) t → Steps p.tables e below (s₁.setTop (entryFrame m #[(.int p1), (.int p2), (.int p3), (.int p4), (.int p5)] maxLocals)) t := by
      intro t k
      refine R40 t ?_
      show Steps p.tables e below (T40.setTop (mkF m 53 #[.val (.int p1), .val (.int p2), .val (.int p3), .val (.int p4), .val (.int p5), .val (.int (2 : Int32)), .val (.ref b29), .unset, .unset, .unset, .unset, .unset, .unset, .unset, .unset] [(.ref b37)])) _
      refine XS.aload X40.here hx rfl (hb hby at_53) rfl rfl ?_
      show Steps p.tables e below (T40.setTop (mkF m 55 #[.val (.int p1), .val (.int p2), .val (.int p3), .val (.int p4), .val (.int p5), .val (.int (2 : Int32)), .val (.ref b29), .unset, .unset, .unset, .unset, .unset, .unset, .unset, .unset] [(.ref b29), (.ref b37)])) _
      refine XS.iload X40.here hx rfl (hb hby at_55) rfl ?_
      exact k
    obtain ⟨cq42, kq42, q42a, q42b, q42c⟩ := isOf hZ eq40 A37
    obtain ⟨_, _, ⟨T42, L42, k42, n42⟩, -, X42, ⟨Lc42, hQ42, l42, y42, z42⟩, st42⟩ := X40.virtualBack hx (y := (⟨"com/example/columnwire/columnwire/codec/ZlibStream", "beginsAsBlock", "([BI)Z"⟩ : MethodName)) (z := (⟨"com/example/columnwire/columnwire/codec/ZlibStream", "beginsAsBlock", "([BI)Z"⟩ : MethodName)) hown (mvT hZ (hw _ (List.mem_of_getElem? (i := 10) rfl))) (mvT hZ (hw _ (List.mem_of_getElem? (i := 11) rfl))) (notFace_of_selects (args := #[]) (mvT hZ (hw _ (List.mem_of_getElem? (i := 13) rfl)))) (mvT hZ (hw _ (List.mem_of_getElem? (i := 13) rfl))) (mvT hZ (hw _ (List.mem_of_getElem? (i := 12) rfl))) (by decide) (backOf (W := 0) (rm3 l Z a0 hw [] b37 b29 p5 k29 (2 : Int32) [(.int (nar .byte (p2.toInt8.toInt32))), (.int (nar .byte (p3.toInt8.toInt32)))] (.int (0 : Int32)) (nar .byte (p2.toInt8.toInt32)) (nar .byte (p3.toInt8.toInt32)) h37 n0 Z37 f38 (by decide) (by decide) (by decide) rfl rfl) hZ (hw _ (List.mem_of_getElem? (i := 14) rfl)) (hw _ (List.mem_of_getElem? (i := 3) rfl)) (by decide) (by decide)) q42a q42c (g := (mkF m 57 #[.val (.int p1), .val (.int p2), .val (.int p3), .val (.int p4), .val (.int p5), .val (.int (2 : Int32)), .val (.ref b29), .unset, .unset, .unset, .unset, .unset, .unset, .unset, .unset] [(.int p5), (.ref b29), (.ref b37)])) rfl (by rw [hml]; rfl) (Steps.refl _) (argsL := [(.ref b29), (.int p5)]) (rest := []) (lenOf own_pd1 rfl) rfl (by show 2 * 0 + _ ≤ _; exact Nat.le_of_eq rfl) (hb hby at_57) (fun _ _ => ⟨rfl, eq40, (by decide : 2 + 0 ≤ _), (by decide : 2 + 0 ≤ _)⟩)
    dsimp only [Pt.U, Pt.locs, Pt.cells, Pt.slots] at X42 l42 y42 z42 st42 hQ42
    subst l42 y42 z42
    obtain ⟨rfl, Nq42, eq42⟩ := hQ42
    have N42 := Fr.app N40 Nq42
    have R42 : ∀ t, Steps p.tables e below (T42.setTop (mkF m 60 #[.val (.int p1), .val (.int p2), .val (.int p3), .val (.int p4), .val (.int p5), .val (.int (2 : Int32)), .val (.ref b29), .unset, .unset, .unset, .unset, .unset, .unset, .unset, .unset] [(.int (own_beg (nar .byte (p2.toInt8.toInt32)) (nar .byte (p3.toInt8.toInt32))))])) t → Steps p.tables e below (s₁.setTop (entryFrame m #[(.int p1), (.int p2), (.int p3), (.int p4), (.int p5)] maxLocals)) t := fun t k => R41 t (st42.trans k)
    obtain ⟨got, hgot⟩ : ∃ z : Int32, z = (own_beg (nar .byte (p2.toInt8.toInt32)) (nar .byte (p3.toInt8.toInt32))) := ⟨_, rfl⟩
    have R43 : ∀ t, Steps p.tables e below (T42.setTop (mkF m 60 #[.val (.int p1), .val (.int p2), .val (.int p3), .val (.int p4), .val (.int p5), .val (.int (2 : Int32)), .val (.ref b29), .unset, .unset, .unset, .unset, .unset, .unset, .unset, .unset] [(.int got)])) t → Steps p.tables e below (s₁.setTop (entryFrame m #[(.int p1), (.int p2), (.int p3), (.int p4), (.int p5)] maxLocals)) t := by rw [hgot]; exact R42
    have R44 : ∀ t, Steps p.tables e below (T42.setTop (mkF m 88 #[.val (.int p1), .val (.int p2), .val (.int p3), .val (.int p4), .val (.int p5), .val (.int (2 : Int32)), .val (.ref b29), .val (.int got), .unset, .val (.int (p2 &&& (255 : Int32))), .val (.int (p3 &&& (255 : Int32))), .unset, .unset, .unset, .unset] [])) t → Steps p.tables e below (s₁.setTop (entryFrame m #[(.int p1), (.int p2), (.int p3), (.int p4), (.int p5)] maxLocals)) t := by
      intro t k
      refine R43 t ?_
      show Steps p.tables e below (T42.setTop (mkF m 60 #[.val (.int p1), .val (.int p2), .val (.int p3), .val (.int p4), .val (.int p5), .val (.int (2 : Int32)), .val (.ref b29), .unset, .unset, .unset, .unset, .unset, .unset, .unset, .unset] [(.int got)])) _
      refine XS.istore X42.here hx rfl (hb hby at_60) rfl (l' := #[.val (.int p1), .val (.int p2), .val (.int p3), .val (.int p4), .val (.int p5), .val (.int (2 : Int32)), .val (.ref b29), .val (.int got), .unset, .unset, .unset, .unset, .unset, .unset, .unset]) rfl ?_
      show Steps p.tables e below (T42.setTop (mkF m 62 #[.val (.int p1), .val (.int p2), .val (.int p3), .val (.int p4), .val (.int p5), .val (.int (2 : Int32)), .val (.ref b29), .val (.int got), .unset, .unset, .unset, .unset, .unset, .unset, .unset] [])) _
      refine XS.iload X42.here hx rfl (hb hby at_62) rfl ?_
      show Steps p.tables e below (T42.setTop (mkF m 64 #[.val (.int p1), .val (.int p2), .val (.int p3), .val (.int p4), .val (.int p5), .val (.int (2 : Int32)), .val (.ref b29), .val (.int got), .unset, .unset, .unset, .unset, .unset, .unset, .unset] [(.int (2 : Int32))])) _
      refine XS.iconst X42.here hx rfl (hb hby at_64) ?_
      show Steps p.tables e below (T42.setTop (mkF m 65 #[.val (.int p1), .val (.int p2), .val (.int p3), .val (.int p4), .val (.int p5), .val (.int (2 : Int32)), .val (.ref b29), .val (.int got), .unset, .unset, .unset, .unset, .unset, .unset, .unset] [(.int (2 : Int32)), (.int (2 : Int32))])) _
      refine XS.icmpYes X42.here hx rfl (pc0 := 65) (pc' := 74) rfl (hb hby at_65) rfl (flt (by decide : ¬ ((2 : Int32) < (2 : Int32)))).2.1 (by decide) (by decide) ?_
      show Steps p.tables e below (T42.setTop (mkF m 74 #[.val (.int p1), .val (.int p2), .val (.int p3), .val (.int p4), .val (.int p5), .val (.int (2 : Int32)), .val (.ref b29), .val (.int got), .unset, .unset, .unset, .unset, .unset, .unset, .unset] [])) _
      refine XS.iloadN X42.here hx rfl (hb hby at_74) rfl ?_
      show Steps p.tables e below (T42.setTop (mkF m 75 #[.val (.int p1), .val (.int p2), .val (.int p3), .val (.int p4), .val (.int p5), .val (.int (2 : Int32)), .val (.ref b29), .val (.int got), .unset, .unset, .unset, .unset, .unset, .unset, .unset] [(.int p2)])) _
      refine XS.sipush X42.here hx rfl (hb hby at_75) ?_
      show Steps p.tables e below (T42.setTop (mkF m 78 #[.val (.int p1), .val (.int p2), .val (.int p3), .val (.int p4), .val (.int p5), .val (.int (2 : Int32)), .val (.ref b29), .val (.int got), .unset, .unset, .unset, .unset, .unset, .unset, .unset] [(.int (255 : Int32)), (.int p2)])) _
      refine XS.iand X42.here hx rfl (hb hby at_78) rfl ?_
      show Steps p.tables e below (T42.setTop (mkF m 79 #[.val (.int p1), .val (.int p2), .val (.int p3), .val (.int p4), .val (.int p5), .val (.int (2 : Int32)), .val (.ref b29), .val (.int got), .unset, .unset, .unset, .unset, .unset, .unset, .unset] [(.int (p2 &&& (255 : Int32)))])) _
      refine XS.istore X42.here hx rfl (hb hby at_79) rfl (l' := #[.val (.int p1), .val (.int p2), .val (.int p3), .val (.int p4), .val (.int p5), .val (.int (2 : Int32)), .val (.ref b29), .val (.int got), .unset, .val (.int (p2 &&& (255 : Int32))), .unset, .unset, .unset, .unset, .unset]) rfl ?_
      show Steps p.tables e below (T42.setTop (mkF m 81 #[.val (.int p1), .val (.int p2), .val (.int p3), .val (.int p4), .val (.int p5), .val (.int (2 : Int32)), .val (.ref b29), .val (.int got), .unset, .val (.int (p2 &&& (255 : Int32))), .unset, .unset, .unset, .unset, .unset] [])) _
      refine XS.iloadN X42.here hx rfl (hb hby at_81) rfl ?_
      show Steps p.tables e below (T42.setTop (mkF m 82 #[.val (.int p1), .val (.int p2), .val (.int p3), .val (.int p4), .val (.int p5), .val (.int (2 : Int32)), .val (.ref b29), .val (.int got), .unset, .val (.int (p2 &&& (255 : Int32))), .unset, .unset, .unset, .unset, .unset] [(.int p3)])) _
      refine XS.sipush X42.here hx rfl (hb hby at_82) ?_
      show Steps p.tables e below (T42.setTop (mkF m 85 #[.val (.int p1), .val (.int p2), .val (.int p3), .val (.int p4), .val (.int p5), .val (.int (2 : Int32)), .val (.ref b29), .val (.int got), .unset, .val (.int (p2 &&& (255 : Int32))), .unset, .unset, .unset, .unset, .unset] [(.int (255 : Int32)), (.int p3)])) _
      refine XS.iand X42.here hx rfl (hb hby at_85) rfl ?_
      show Steps p.tables e below (T42.setTop (mkF m 86 #[.val (.int p1), .val (.int p2), .val (.int p3), .val (.int p4), .val (.int p5), .val (.int (2 : Int32)), .val (.ref b29), .val (.int got), .unset, .val (.int (p2 &&& (255 : Int32))), .unset, .unset, .unset, .unset, .unset] [(.int (p3 &&& (255 : Int32)))])) _
      refine XS.istore X42.here hx rfl (hb hby at_86) rfl (l' := #[.val (.int p1), .val (.int p2), .val (.int p3), .val (.int p4), .val (.int p5), .val (.int (2 : Int32)), .val (.ref b29), .val (.int got), .unset, .val (.int (p2 &&& (255 : Int32))), .val (.int (p3 &&& (255 : Int32))), .unset, .unset, .unset, .unset]) rfl ?_
      exact k
    obtain ⟨dfl, hdfl, R45⟩ : ∃ (dfl : Int32), dfl = (if ((p2 &&& (255 : Int32)) &&& (15 : Int32)) = (8 : Int32) then (1 : Int32) else (0 : Int32)) ∧ (∀ t, Steps p.tables e below (T42.setTop (mkF m 103 #[.val (.int p1), .val (.int p2), .val (.int p3), .val (.int p4), .val (.int p5), .val (.int (2 : Int32)), .val (.ref b29), .val (.int got), .unset, .val (.int (p2 &&& (255 : Int32))), .val (.int (p3 &&& (255 : Int32))), .unset, .unset, .unset, .unset] [(.int dfl)])) t → Steps p.tables e below (s₁.setTop (entryFrame m #[(.int p1), (.int p2), (.int p3), (.int p4), (.int p5)] maxLocals)) t) := by
      by_cases hc95_0 : ((p2 &&& (255 : Int32)) &&& (15 : Int32)) = (8 : Int32)
      · refine ⟨(1 : Int32), (by simp only [if_pos hc95_0]), ?_⟩
        intro t k
        refine R44 t ?_
        show Steps p.tables e below (T42.setTop (mkF m 88 #[.val (.int p1), .val (.int p2), .val (.int p3), .val (.int p4), .val (.int p5), .val (.int (2 : Int32)), .val (.ref b29), .val (.int got), .unset, .val (.int (p2 &&& (255 : Int32))), .val (.int (p3 &&& (255 : Int32))), .unset, .unset, .unset, .unset] [])) _
        refine XS.iload X42.here hx rfl (hb hby at_88) rfl ?_
        show Steps p.tables e below (T42.setTop (mkF m 90 #[.val (.int p1), .val (.int p2), .val (.int p3), .val (.int p4), .val (.int p5), .val (.int (2 : Int32)), .val (.ref b29), .val (.int got), .unset, .val (.int (p2 &&& (255 : Int32))), .val (.int (p3 &&& (255 : Int32))), .unset, .unset, .unset, .unset] [(.int (p2 &&& (255 : Int32)))])) _
        refine XS.bipush X42.here hx rfl (hb hby at_90) ?_
        show Steps p.tables e below (T42.setTop (mkF m 92 #[.val (.int p1), .val (.int p2), .val (.int p3), .val (.int p4), .val (.int p5), .val (.int (2 : Int32)), .val (.ref b29), .val (.int got), .unset, .val (.int (p2 &&& (255 : Int32))), .val (.int (p3 &&& (255 : Int32))), .unset, .unset, .unset, .unset] [(.int (15 : Int32)), (.int (p2 &&& (255 : Int32)))])) _
        refine XS.iand X42.here hx rfl (hb hby at_92) rfl ?_
        show Steps p.tables e below (T42.setTop (mkF m 93 #[.val (.int p1), .val (.int p2), .val (.int p3), .val (.int p4), .val (.int p5), .val (.int (2 : Int32)), .val (.ref b29), .val (.int got), .unset, .val (.int (p2 &&& (255 : Int32))), .val (.int (p3 &&& (255 : Int32))), .unset, .unset, .unset, .unset] [(.int ((p2 &&& (255 : Int32)) &&& (15 : Int32)))])) _
        refine XS.bipush X42.here hx rfl (hb hby at_93) ?_
        show Steps p.tables e below (T42.setTop (mkF m 95 #[.val (.int p1), .val (.int p2), .val (.int p3), .val (.int p4), .val (.int p5), .val (.int (2 : Int32)), .val (.ref b29), .val (.int got), .unset, .val (.int (p2 &&& (255 : Int32))), .val (.int (p3 &&& (255 : Int32))), .unset, .unset, .unset, .unset] [(.int (8 : Int32)), (.int ((p2 &&& (255 : Int32)) &&& (15 : Int32)))])) _
        refine XS.icmpNo X42.here hx rfl (hb hby at_95) rfl (teq hc95_0).2 ?_
        show Steps p.tables e below (T42.setTop (mkF m 98 #[.val (.int p1), .val (.int p2), .val (.int p3), .val (.int p4), .val (.int p5), .val (.int (2 : Int32)), .val (.ref b29), .val (.int got), .unset, .val (.int (p2 &&& (255 : Int32))), .val (.int (p3 &&& (255 : Int32))), .unset, .unset, .unset, .unset] [])) _
        refine XS.iconst X42.here hx rfl (hb hby at_98) ?_
        show Steps p.tables e below (T42.setTop (mkF m 99 #[.val (.int p1), .val (.int p2), .val (.int p3), .val (.int p4), .val (.int p5), .val (.int (2 : Int32)), .val (.ref b29), .val (.int got), .unset, .val (.int (p2 &&& (255 : Int32))), .val (.int (p3 &&& (255 : Int32))), .unset, .unset, .unset, .unset] [(.int (1 : Int32))])) _
        refine XS.goto X42.here hx rfl (pc0 := 99) (pc' := 103) rfl (hb hby at_99) (by decide) (by decide) ?_
        exact k
      · refine ⟨(0 : Int32), (by simp only [if_neg hc95_0]), ?_⟩
        intro t k
        refine R44 t ?_
        show Steps p.tables e below (T42.setTop (mkF m 88 #[.val (.int p1), .val (.int p2), .val (.int p3), .val (.int p4), .val (.int p5), .val (.int (2 : Int32)), .val (.ref b29), .val (.int got), .unset, .val (.int (p2 &&& (255 : Int32))), .val (.int (p3 &&& (255 : Int32))), .unset, .unset, .unset, .unset] [])) _
        refine XS.iload X42.here hx rfl (hb hby at_88) rfl ?_
        show Steps p.tables e below (T42.setTop (mkF m 90 #[.val (.int p1), .val (.int p2), .val (.int p3), .val (.int p4), .val (.int p5), .val (.int (2 : Int32)), .val (.ref b29), .val (.int got), .unset, .val (.int (p2 &&& (255 : Int32))), .val (.int (p3 &&& (255 : Int32))), .unset, .unset, .unset, .unset] [(.int (p2 &&& (255 : Int32)))])) _
        refine XS.bipush X42.here hx rfl (hb hby at_90) ?_
        show Steps p.tables e below (T42.setTop (mkF m 92 #[.val (.int p1), .val (.int p2), .val (.int p3), .val (.int p4), .val (.int p5), .val (.int (2 : Int32)), .val (.ref b29), .val (.int got), .unset, .val (.int (p2 &&& (255 : Int32))), .val (.int (p3 &&& (255 : Int32))), .unset, .unset, .unset, .unset] [(.int (15 : Int32)), (.int (p2 &&& (255 : Int32)))])) _
        refine XS.iand X42.here hx rfl (hb hby at_92) rfl ?_
        show Steps p.tables e below (T42.setTop (mkF m 93 #[.val (.int p1), .val (.int p2), .val (.int p3), .val (.int p4), .val (.int p5), .val (.int (2 : Int32)), .val (.ref b29), .val (.int got), .unset, .val (.int (p2 &&& (255 : Int32))), .val (.int (p3 &&& (255 : Int32))), .unset, .unset, .unset, .unset] [(.int ((p2 &&& (255 : Int32)) &&& (15 : Int32)))])) _
        refine XS.bipush X42.here hx rfl (hb hby at_93) ?_
        show Steps p.tables e below (T42.setTop (mkF m 95 #[.val (.int p1), .val (.int p2), .val (.int p3), .val (.int p4), .val (.int p5), .val (.int (2 : Int32)), .val (.ref b29), .val (.int got), .unset, .val (.int (p2 &&& (255 : Int32))), .val (.int (p3 &&& (255 : Int32))), .unset, .unset, .unset, .unset] [(.int (8 : Int32)), (.int ((p2 &&& (255 : Int32)) &&& (15 : Int32)))])) _
        refine XS.icmpYes X42.here hx rfl (pc0 := 95) (pc' := 102) rfl (hb hby at_95) rfl (feq hc95_0).2 (by decide) (by decide) ?_
        show Steps p.tables e below (T42.setTop (mkF m 102 #[.val (.int p1), .val (.int p2), .val (.int p3), .val (.int p4), .val (.int p5), .val (.int (2 : Int32)), .val (.ref b29), .val (.int got), .unset, .val (.int (p2 &&& (255 : Int32))), .val (.int (p3 &&& (255 : Int32))), .unset, .unset, .unset, .unset] [])) _
        refine XS.iconst X42.here hx rfl (hb hby at_102) ?_
        exact k
    obtain ⟨win, hwin, R46⟩ : ∃ (win : Int32), win = (if (p2 &&& (255 : Int32)) < (128 : Int32) then (1 : Int32) else (0 : Int32)) ∧ (∀ t, Steps p.tables e below (T42.setTop (mkF m 118 #[.val (.int p1), .val (.int p2), .val (.int p3), .val (.int p4), .val (.int p5), .val (.int (2 : Int32)), .val (.ref b29), .val (.int got), .unset, .val (.int (p2 &&& (255 : Int32))), .val (.int (p3 &&& (255 : Int32))), .val (.int dfl), .unset, .unset, .unset] [(.int win)])) t → Steps p.tables e below (s₁.setTop (entryFrame m #[(.int p1), (.int p2), (.int p3), (.int p4), (.int p5)] maxLocals)) t) := by
      by_cases hc110_0 : (p2 &&& (255 : Int32)) < (128 : Int32)
      · refine ⟨(1 : Int32), (by simp only [if_pos hc110_0]), ?_⟩
        intro t k
        refine R45 t ?_
        show Steps p.tables e below (T42.setTop (mkF m 103 #[.val (.int p1), .val (.int p2), .val (.int p3), .val (.int p4), .val (.int p5), .val (.int (2 : Int32)), .val (.ref b29), .val (.int got), .unset, .val (.int (p2 &&& (255 : Int32))), .val (.int (p3 &&& (255 : Int32))), .unset, .unset, .unset, .unset] [(.int dfl)])) _
        refine XS.istore X42.here hx rfl (hb hby at_103) rfl (l' := #[.val (.int p1), .val (.int p2), .val (.int p3), .val (.int p4), .val (.int p5), .val (.int (2 : Int32)), .val (.ref b29), .val (.int got), .unset, .val (.int (p2 &&& (255 : Int32))), .val (.int (p3 &&& (255 : Int32))), .val (.int dfl), .unset, .unset, .unset]) rfl ?_
        show Steps p.tables e below (T42.setTop (mkF m 105 #[.val (.int p1), .val (.int p2), .val (.int p3), .val (.int p4), .val (.int p5), .val (.int (2 : Int32)), .val (.ref b29), .val (.int got), .unset, .val (.int (p2 &&& (255 : Int32))), .val (.int (p3 &&& (255 : Int32))), .val (.int dfl), .unset, .unset, .unset] [])) _
        refine XS.iload X42.here hx rfl (hb hby at_105) rfl ?_
        show Steps p.tables e below (T42.setTop (mkF m 107 #[.val (.int p1), .val (.int p2), .val (.int p3), .val (.int p4), .val (.int p5), .val (.int (2 : Int32)), .val (.ref b29), .val (.int got), .unset, .val (.int (p2 &&& (255 : Int32))), .val (.int (p3 &&& (255 : Int32))), .val (.int dfl), .unset, .unset, .unset] [(.int (p2 &&& (255 : Int32)))])) _
        refine XS.sipush X42.here hx rfl (hb hby at_107) ?_
        show Steps p.tables e below (T42.setTop (mkF m 110 #[.val (.int p1), .val (.int p2), .val (.int p3), .val (.int p4), .val (.int p5), .val (.int (2 : Int32)), .val (.ref b29), .val (.int got), .unset, .val (.int (p2 &&& (255 : Int32))), .val (.int (p3 &&& (255 : Int32))), .val (.int dfl), .unset, .unset, .unset] [(.int (128 : Int32)), (.int (p2 &&& (255 : Int32)))])) _
        refine XS.icmpNo X42.here hx rfl (hb hby at_110) rfl (tlt hc110_0).2.1 ?_
        show Steps p.tables e below (T42.setTop (mkF m 113 #[.val (.int p1), .val (.int p2), .val (.int p3), .val (.int p4), .val (.int p5), .val (.int (2 : Int32)), .val (.ref b29), .val (.int got), .unset, .val (.int (p2 &&& (255 : Int32))), .val (.int (p3 &&& (255 : Int32))), .val (.int dfl), .unset, .unset, .unset] [])) _
        refine XS.iconst X42.here hx rfl (hb hby at_113) ?_
        show Steps p.tables e below (T42.setTop (mkF m 114 #[.val (.int p1), .val (.int p2), .val (.int p3), .val (.int p4), .val (.int p5), .val (.int (2 : Int32)), .val (.ref b29), .val (.int got), .unset, .val (.int (p2 &&& (255 : Int32))), .val (.int (p3 &&& (255 : Int32))), .val (.int dfl), .unset, .unset, .unset] [(.int (1 : Int32))])) _
        refine XS.goto X42.here hx rfl (pc0 := 114) (pc' := 118) rfl (hb hby at_114) (by decide) (by decide) ?_
        exact k
      · refine ⟨(0 : Int32), (by simp only [if_neg hc110_0]), ?_⟩
        intro t k
        refine R45 t ?_
        show Steps p.tables e below (T42.setTop (mkF m 103 #[.val (.int p1), .val (.int p2), .val (.int p3), .val (.int p4), .val (.int p5), .val (.int (2 : Int32)), .val (.ref b29), .val (.int got), .unset, .val (.int (p2 &&& (255 : Int32))), .val (.int (p3 &&& (255 : Int32))), .unset, .unset, .unset, .unset] [(.int dfl)])) _
        refine XS.istore X42.here hx rfl (hb hby at_103) rfl (l' := #[.val (.int p1), .val (.int p2), .val (.int p3), .val (.int p4), .val (.int p5), .val (.int (2 : Int32)), .val (.ref b29), .val (.int got), .unset, .val (.int (p2 &&& (255 : Int32))), .val (.int (p3 &&& (255 : Int32))), .val (.int dfl), .unset, .unset, .unset]) rfl ?_
        show Steps p.tables e below (T42.setTop (mkF m 105 #[.val (.int p1), .val (.int p2), .val (.int p3), .val (.int p4), .val (.int p5), .val (.int (2 : Int32)), .val (.ref b29), .val (.int got), .unset, .val (.int (p2 &&& (255 : Int32))), .val (.int (p3 &&& (255 : Int32))), .val (.int dfl), .unset, .unset, .unset] [])) _
        refine XS.iload X42.here hx rfl (hb hby at_105) rfl ?_
        show Steps p.tables e below (T42.setTop (mkF m 107 #[.val (.int p1), .val (.int p2), .val (.int p3), .val (.int p4), .val (.int p5), .val (.int (2 : Int32)), .val (.ref b29), .val (.int got), .unset, .val (.int (p2 &&& (255 : Int32))), .val (.int (p3 &&& (255 : Int32))), .val (.int dfl), .unset, .unset, .unset] [(.int (p2 &&& (255 : Int32)))])) _
        refine XS.sipush X42.here hx rfl (hb hby at_107) ?_
        show Steps p.tables e below (T42.setTop (mkF m 110 #[.val (.int p1), .val (.int p2), .val (.int p3), .val (.int p4), .val (.int p5), .val (.int (2 : Int32)), .val (.ref b29), .val (.int got), .unset, .val (.int (p2 &&& (255 : Int32))), .val (.int (p3 &&& (255 : Int32))), .val (.int dfl), .unset, .unset, .unset] [(.int (128 : Int32)), (.int (p2 &&& (255 : Int32)))])) _
        refine XS.icmpYes X42.here hx rfl (pc0 := 110) (pc' := 117) rfl (hb hby at_110) rfl (flt hc110_0).2.1 (by decide) (by decide) ?_
        show Steps p.tables e below (T42.setTop (mkF m 117 #[.val (.int p1), .val (.int p2), .val (.int p3), .val (.int p4), .val (.int p5), .val (.int (2 : Int32)), .val (.ref b29), .val (.int got), .unset, .val (.int (p2 &&& (255 : Int32))), .val (.int (p3 &&& (255 : Int32))), .val (.int dfl), .unset, .unset, .unset] [])) _
        refine XS.iconst X42.here hx rfl (hb hby at_117) ?_
        exact k
    obtain ⟨chk, hchk, R47⟩ : ∃ (chk : Int32), chk = (if ((((p2 &&& (255 : Int32)) * (8 : Int32)) + (p3 &&& (255 : Int32))) % (31 : Int32)) = (0 : Int32) then (1 : Int32) else (0 : Int32)) ∧ (∀ t, Steps p.tables e below (T42.setTop (mkF m 139 #[.val (.int p1), .val (.int p2), .val (.int p3), .val (.int p4), .val (.int p5), .val (.int (2 : Int32)), .val (.ref b29), .val (.int got), .unset, .val (.int (p2 &&& (255 : Int32))), .val (.int (p3 &&& (255 : Int32))), .val (.int dfl), .val (.int win), .unset, .unset] [(.int chk)])) t → Steps p.tables e below (s₁.setTop (entryFrame m #[(.int p1), (.int p2), (.int p3), (.int p4), (.int p5)] maxLocals)) t) := by
      by_cases hc131_0 : ((((p2 &&& (255 : Int32)) * (8 : Int32)) + (p3 &&& (255 : Int32))) % (31 : Int32)) = (0 : Int32)
      · refine ⟨(1 : Int32), (by simp only [if_pos hc131_0]), ?_⟩
        intro t k
        refine R46 t ?_
        show Steps p.tables e below (T42.setTop (mkF m 118 #[.val (.int p1), .val (.int p2), .val (.int p3), .val (.int p4), .val (.int p5), .val (.int (2 : Int32)), .val (.ref b29), .val (.int got), .unset, .val (.int (p2 &&& (255 : Int32))), .val (.int (p3 &&& (255 : Int32))), .val (.int dfl), .unset, .unset, .unset] [(.int win)])) _
        refine XS.istore X42.here hx rfl (hb hby at_118) rfl (l' := #[.val (.int p1), .val (.int p2), .val (.int p3), .val (.int p4), .val (.int p5), .val (.int (2 : Int32)), .val (.ref b29), .val (.int got), .unset, .val (.int (p2 &&& (255 : Int32))), .val (.int (p3 &&& (255 : Int32))), .val (.int dfl), .val (.int win), .unset, .unset]) rfl ?_
        show Steps p.tables e below (T42.setTop (mkF m 120 #[.val (.int p1), .val (.int p2), .val (.int p3), .val (.int p4), .val (.int p5), .val (.int (2 : Int32)), .val (.ref b29), .val (.int got), .unset, .val (.int (p2 &&& (255 : Int32))), .val (.int (p3 &&& (255 : Int32))), .val (.int dfl), .val (.int win), .unset, .unset] [])) _
        refine XS.iload X42.here hx rfl (hb hby at_120) rfl ?_
        show Steps p.tables e below (T42.setTop (mkF m 122 #[.val (.int p1), .val (.int p2), .val (.int p3), .val (.int p4), .val (.int p5), .val (.int (2 : Int32)), .val (.ref b29), .val (.int got), .unset, .val (.int (p2 &&& (255 : Int32))), .val (.int (p3 &&& (255 : Int32))), .val (.int dfl), .val (.int win), .unset, .unset] [(.int (p2 &&& (255 : Int32)))])) _
        refine XS.bipush X42.here hx rfl (hb hby at_122) ?_
        show Steps p.tables e below (T42.setTop (mkF m 124 #[.val (.int p1), .val (.int p2), .val (.int p3), .val (.int p4), .val (.int p5), .val (.int (2 : Int32)), .val (.ref b29), .val (.int got), .unset, .val (.int (p2 &&& (255 : Int32))), .val (.int (p3 &&& (255 : Int32))), .val (.int dfl), .val (.int win), .unset, .unset] [(.int (8 : Int32)), (.int (p2 &&& (255 : Int32)))])) _
        refine XS.imul X42.here hx rfl (hb hby at_124) rfl ?_
        show Steps p.tables e below (T42.setTop (mkF m 125 #[.val (.int p1), .val (.int p2), .val (.int p3), .val (.int p4), .val (.int p5), .val (.int (2 : Int32)), .val (.ref b29), .val (.int got), .unset, .val (.int (p2 &&& (255 : Int32))), .val (.int (p3 &&& (255 : Int32))), .val (.int dfl), .val (.int win), .unset, .unset] [(.int ((p2 &&& (255 : Int32)) * (8 : Int32)))])) _
        refine XS.iload X42.here hx rfl (hb hby at_125) rfl ?_
        show Steps p.tables e below (T42.setTop (mkF m 127 #[.val (.int p1), .val (.int p2), .val (.int p3), .val (.int p4), .val (.int p5), .val (.int (2 : Int32)), .val (.ref b29), .val (.int got), .unset, .val (.int (p2 &&& (255 : Int32))), .val (.int (p3 &&& (255 : Int32))), .val (.int dfl), .val (.int win), .unset, .unset] [(.int (p3 &&& (255 : Int32))), (.int ((p2 &&& (255 : Int32)) * (8 : Int32)))])) _
        refine XS.iadd X42.here hx rfl (hb hby at_127) rfl ?_
        show Steps p.tables e below (T42.setTop (mkF m 128 #[.val (.int p1), .val (.int p2), .val (.int p3), .val (.int p4), .val (.int p5), .val (.int (2 : Int32)), .val (.ref b29), .val (.int got), .unset, .val (.int (p2 &&& (255 : Int32))), .val (.int (p3 &&& (255 : Int32))), .val (.int dfl), .val (.int win), .unset, .unset] [(.int (((p2 &&& (255 : Int32)) * (8 : Int32)) + (p3 &&& (255 : Int32))))])) _
        refine XS.bipush X42.here hx rfl (hb hby at_128) ?_
        show Steps p.tables e below (T42.setTop (mkF m 130 #[.val (.int p1), .val (.int p2), .val (.int p3), .val (.int p4), .val (.int p5), .val (.int (2 : Int32)), .val (.ref b29), .val (.int got), .unset, .val (.int (p2 &&& (255 : Int32))), .val (.int (p3 &&& (255 : Int32))), .val (.int dfl), .val (.int win), .unset, .unset] [(.int (31 : Int32)), (.int (((p2 &&& (255 : Int32)) * (8 : Int32)) + (p3 &&& (255 : Int32))))])) _
        refine iremM X42 hx rfl (hb hby at_130) rfl (by decide) ?_
        show Steps p.tables e below (T42.setTop (mkF m 131 #[.val (.int p1), .val (.int p2), .val (.int p3), .val (.int p4), .val (.int p5), .val (.int (2 : Int32)), .val (.ref b29), .val (.int got), .unset, .val (.int (p2 &&& (255 : Int32))), .val (.int (p3 &&& (255 : Int32))), .val (.int dfl), .val (.int win), .unset, .unset] [(.int ((((p2 &&& (255 : Int32)) * (8 : Int32)) + (p3 &&& (255 : Int32))) % (31 : Int32)))])) _
        refine XS.ifNo X42.here hx rfl (hb hby at_131) rfl ((if0 _ _).trans (teq hc131_0).2) ?_
        show Steps p.tables e below (T42.setTop (mkF m 134 #[.val (.int p1), .val (.int p2), .val (.int p3), .val (.int p4), .val (.int p5), .val (.int (2 : Int32)), .val (.ref b29), .val (.int got), .unset, .val (.int (p2 &&& (255 : Int32))), .val (.int (p3 &&& (255 : Int32))), .val (.int dfl), .val (.int win), .unset, .unset] [])) _
        refine XS.iconst X42.here hx rfl (hb hby at_134) ?_
        show Steps p.tables e below (T42.setTop (mkF m 135 #[.val (.int p1), .val (.int p2), .val (.int p3), .val (.int p4), .val (.int p5), .val (.int (2 : Int32)), .val (.ref b29), .val (.int got), .unset, .val (.int (p2 &&& (255 : Int32))), .val (.int (p3 &&& (255 : Int32))), .val (.int dfl), .val (.int win), .unset, .unset] [(.int (1 : Int32))])) _
        refine XS.goto X42.here hx rfl (pc0 := 135) (pc' := 139) rfl (hb hby at_135) (by decide) (by decide) ?_
        exact k
      · refine ⟨(0 : Int32), (by simp only [if_neg hc131_0]), ?_⟩
        intro t k
        refine R46 t ?_
        show Steps p.tables e below (T42.setTop (mkF m 118 #[.val (.int p1), .val (.int p2), .val (.int p3), .val (.int p4), .val (.int p5), .val (.int (2 : Int32)), .val (.ref b29), .val (.int got), .unset, .val (.int (p2 &&& (255 : Int32))), .val (.int (p3 &&& (255 : Int32))), .val (.int dfl), .unset, .unset, .unset] [(.int win)])) _
        refine XS.istore X42.here hx rfl (hb hby at_118) rfl (l' := #[.val (.int p1), .val (.int p2), .val (.int p3), .val (.int p4), .val (.int p5), .val (.int (2 : Int32)), .val (.ref b29), .val (.int got), .unset, .val (.int (p2 &&& (255 : Int32))), .val (.int (p3 &&& (255 : Int32))), .val (.int dfl), .val (.int win), .unset, .unset]) rfl ?_
        show Steps p.tables e below (T42.setTop (mkF m 120 #[.val (.int p1), .val (.int p2), .val (.int p3), .val (.int p4), .val (.int p5), .val (.int (2 : Int32)), .val (.ref b29), .val (.int got), .unset, .val (.int (p2 &&& (255 : Int32))), .val (.int (p3 &&& (255 : Int32))), .val (.int dfl), .val (.int win), .unset, .unset] [])) _
        refine XS.iload X42.here hx rfl (hb hby at_120) rfl ?_
        show Steps p.tables e below (T42.setTop (mkF m 122 #[.val (.int p1), .val (.int p2), .val (.int p3), .val (.int p4), .val (.int p5), .val (.int (2 : Int32)), .val (.ref b29), .val (.int got), .unset, .val (.int (p2 &&& (255 : Int32))), .val (.int (p3 &&& (255 : Int32))), .val (.int dfl), .val (.int win), .unset, .unset] [(.int (p2 &&& (255 : Int32)))])) _
        refine XS.bipush X42.here hx rfl (hb hby at_122) ?_
        show Steps p.tables e below (T42.setTop (mkF m 124 #[.val (.int p1), .val (.int p2), .val (.int p3), .val (.int p4), .val (.int p5), .val (.int (2 : Int32)), .val (.ref b29), .val (.int got), .unset, .val (.int (p2 &&& (255 : Int32))), .val (.int (p3 &&& (255 : Int32))), .val (.int dfl), .val (.int win), .unset, .unset] [(.int (8 : Int32)), (.int (p2 &&& (255 : Int32)))])) _
        refine XS.imul X42.here hx rfl (hb hby at_124) rfl ?_
        show Steps p.tables e below (T42.setTop (mkF m 125 #[.val (.int p1), .val (.int p2), .val (.int p3), .val (.int p4), .val (.int p5), .val (.int (2 : Int32)), .val (.ref b29), .val (.int got), .unset, .val (.int (p2 &&& (255 : Int32))), .val (.int (p3 &&& (255 : Int32))), .val (.int dfl), .val (.int win), .unset, .unset] [(.int ((p2 &&& (255 : Int32)) * (8 : Int32)))])) _
        refine XS.iload X42.here hx rfl (hb hby at_125) rfl ?_
        show Steps p.tables e below (T42.setTop (mkF m 127 #[.val (.int p1), .val (.int p2), .val (.int p3), .val (.int p4), .val (.int p5), .val (.int (2 : Int32)), .val (.ref b29), .val (.int got), .unset, .val (.int (p2 &&& (255 : Int32))), .val (.int (p3 &&& (255 : Int32))), .val (.int dfl), .val (.int win), .unset, .unset] [(.int (p3 &&& (255 : Int32))), (.int ((p2 &&& (255 : Int32)) * (8 : Int32)))])) _
        refine XS.iadd X42.here hx rfl (hb hby at_127) rfl ?_
        show Steps p.tables e below (T42.setTop (mkF m 128 #[.val (.int p1), .val (.int p2), .val (.int p3), .val (.int p4), .val (.int p5), .val (.int (2 : Int32)), .val (.ref b29), .val (.int got), .unset, .val (.int (p2 &&& (255 : Int32))), .val (.int (p3 &&& (255 : Int32))), .val (.int dfl), .val (.int win), .unset, .unset] [(.int (((p2 &&& (255 : Int32)) * (8 : Int32)) + (p3 &&& (255 : Int32))))])) _
        refine XS.bipush X42.here hx rfl (hb hby at_128) ?_
        show Steps p.tables e below (T42.setTop (mkF m 130 #[.val (.int p1), .val (.int p2), .val (.int p3), .val (.int p4), .val (.int p5), .val (.int (2 : Int32)), .val (.ref b29), .val (.int got), .unset, .val (.int (p2 &&& (255 : Int32))), .val (.int (p3 &&& (255 : Int32))), .val (.int dfl), .val (.int win), .unset, .unset] [(.int (31 : Int32)), (.int (((p2 &&& (255 : Int32)) * (8 : Int32)) + (p3 &&& (255 : Int32))))])) _
        refine iremM X42 hx rfl (hb hby at_130) rfl (by decide) ?_
        show Steps p.tables e below (T42.setTop (mkF m 131 #[.val (.int p1), .val (.int p2), .val (.int p3), .val (.int p4), .val (.int p5), .val (.int (2 : Int32)), .val (.ref b29), .val (.int got), .unset, .val (.int (p2 &&& (255 : Int32))), .val (.int (p3 &&& (255 : Int32))), .val (.int dfl), .val (.int win), .unset, .unset] [(.int ((((p2 &&& (255 : Int32)) * (8 : Int32)) + (p3 &&& (255 : Int32))) % (31 : Int32)))])) _
        refine XS.ifYes X42.here hx rfl (pc0 := 131) (pc' := 138) rfl (hb hby at_131) rfl ((if0 _ _).trans (feq hc131_0).2) (by decide) (by decide) ?_
        show Steps p.tables e below (T42.setTop (mkF m 138 #[.val (.int p1), .val (.int p2), .val (.int p3), .val (.int p4), .val (.int p5), .val (.int (2 : Int32)), .val (.ref b29), .val (.int got), .unset, .val (.int (p2 &&& (255 : Int32))), .val (.int (p3 &&& (255 : Int32))), .val (.int dfl), .val (.int win), .unset, .unset] [])) _
        refine XS.iconst X42.here hx rfl (hb hby at_138) ?_
        exact k
    obtain ⟨nod, hnod, R48⟩ : ∃ (nod : Int32), nod = (if (((p3 &&& (255 : Int32)) >>> ((5 : Int32) &&& 31)) &&& (1 : Int32)) = (0 : Int32) then (1 : Int32) else (0 : Int32)) ∧ (∀ t, Steps p.tables e below (T42.setTop (mkF m 155 #[.val (.int p1), .val (.int p2), .val (.int p3), .val (.int p4), .val (.int p5), .val (.int (2 : Int32)), .val (.ref b29), .val (.int got), .unset, .val (.int (p2 &&& (255 : Int32))), .val (.int (p3 &&& (255 : Int32))), .val (.int dfl), .val (.int win), .val (.int chk), .unset] [(.int nod)])) t → Steps p.tables e below (s₁.setTop (entryFrame m #[(.int p1), (.int p2), (.int p3), (.int p4), (.int p5)] maxLocals)) t) := by
      by_cases hc147_0 : (((p3 &&& (255 : Int32)) >>> ((5 : Int32) &&& 31)) &&& (1 : Int32)) = (0 : Int32)
      · refine ⟨(1 : Int32), (by simp only [if_pos hc147_0]), ?_⟩
        intro t k
        refine R47 t ?_
        show Steps p.tables e below (T42.setTop (mkF m 139 #[.val (.int p1), .val (.int p2), .val (.int p3), .val (.int p4), .val (.int p5), .val (.int (2 : Int32)), .val (.ref b29), .val (.int got), .unset, .val (.int (p2 &&& (255 : Int32))), .val (.int (p3 &&& (255 : Int32))), .val (.int dfl), .val (.int win), .unset, .unset] [(.int chk)])) _
        refine XS.istore X42.here hx rfl (hb hby at_139) rfl (l' := #[.val (.int p1), .val (.int p2), .val (.int p3), .val (.int p4), .val (.int p5), .val (.int (2 : Int32)), .val (.ref b29), .val (.int got), .unset, .val (.int (p2 &&& (255 : Int32))), .val (.int (p3 &&& (255 : Int32))), .val (.int dfl), .val (.int win), .val (.int chk), .unset]) rfl ?_
        show Steps p.tables e below (T42.setTop (mkF m 141 #[.val (.int p1), .val (.int p2), .val (.int p3), .val (.int p4), .val (.int p5), .val (.int (2 : Int32)), .val (.ref b29), .val (.int got), .unset, .val (.int (p2 &&& (255 : Int32))), .val (.int (p3 &&& (255 : Int32))), .val (.int dfl), .val (.int win), .val (.int chk), .unset] [])) _
        refine XS.iload X42.here hx rfl (hb hby at_141) rfl ?_
        show Steps p.tables e below (T42.setTop (mkF m 143 #[.val (.int p1), .val (.int p2), .val (.int p3), .val (.int p4), .val (.int p5), .val (.int (2 : Int32)), .val (.ref b29), .val (.int got), .unset, .val (.int (p2 &&& (255 : Int32))), .val (.int (p3 &&& (255 : Int32))), .val (.int dfl), .val (.int win), .val (.int chk), .unset] [(.int (p3 &&& (255 : Int32)))])) _
        refine XS.iconst X42.here hx rfl (hb hby at_143) ?_
        show Steps p.tables e below (T42.setTop (mkF m 144 #[.val (.int p1), .val (.int p2), .val (.int p3), .val (.int p4), .val (.int p5), .val (.int (2 : Int32)), .val (.ref b29), .val (.int got), .unset, .val (.int (p2 &&& (255 : Int32))), .val (.int (p3 &&& (255 : Int32))), .val (.int dfl), .val (.int win), .val (.int chk), .unset] [(.int (5 : Int32)), (.int (p3 &&& (255 : Int32)))])) _
        refine XS.ishr X42.here hx rfl (hb hby at_144) rfl ?_
        show Steps p.tables e below (T42.setTop (mkF m 145 #[.val (.int p1), .val (.int p2), .val (.int p3), .val (.int p4), .val (.int p5), .val (.int (2 : Int32)), .val (.ref b29), .val (.int got), .unset, .val (.int (p2 &&& (255 : Int32))), .val (.int (p3 &&& (255 : Int32))), .val (.int dfl), .val (.int win), .val (.int chk), .unset] [(.int ((p3 &&& (255 : Int32)) >>> ((5 : Int32) &&& 31)))])) _
        refine XS.iconst X42.here hx rfl (hb hby at_145) ?_
        show Steps p.tables e below (T42.setTop (mkF m 146 #[.val (.int p1), .val (.int p2), .val (.int p3), .val (.int p4), .val (.int p5), .val (.int (2 : Int32)), .val (.ref b29), .val (.int got), .unset, .val (.int (p2 &&& (255 : Int32))), .val (.int (p3 &&& (255 : Int32))), .val (.int dfl), .val (.int win), .val (.int chk), .unset] [(.int (1 : Int32)), (.int ((p3 &&& (255 : Int32)) >>> ((5 : Int32) &&& 31)))])) _
        refine XS.iand X42.here hx rfl (hb hby at_146) rfl ?_
        show Steps p.tables e below (T42.setTop (mkF m 147 #[.val (.int p1), .val (.int p2), .val (.int p3), .val (.int p4), .val (.int p5), .val (.int (2 : Int32)), .val (.ref b29), .val (.int got), .unset, .val (.int (p2 &&& (255 : Int32))), .val (.int (p3 &&& (255 : Int32))), .val (.int dfl), .val (.int win), .val (.int chk), .unset] [(.int (((p3 &&& (255 : Int32)) >>> ((5 : Int32) &&& 31)) &&& (1 : Int32)))])) _
        refine XS.ifNo X42.here hx rfl (hb hby at_147) rfl ((if0 _ _).trans (teq hc147_0).2) ?_
        show Steps p.tables e below (T42.setTop (mkF m 150 #[.val (.int p1), .val (.int p2), .val (.int p3), .val (.int p4), .val (.int p5), .val (.int (2 : Int32)), .val (.ref b29), .val (.int got), .unset, .val (.int (p2 &&& (255 : Int32))), .val (.int (p3 &&& (255 : Int32))), .val (.int dfl), .val (.int win), .val (.int chk), .unset] [])) _
        refine XS.iconst X42.here hx rfl (hb hby at_150) ?_
        show Steps p.tables e below (T42.setTop (mkF m 151 #[.val (.int p1), .val (.int p2), .val (.int p3), .val (.int p4), .val (.int p5), .val (.int (2 : Int32)), .val (.ref b29), .val (.int got), .unset, .val (.int (p2 &&& (255 : Int32))), .val (.int (p3 &&& (255 : Int32))), .val (.int dfl), .val (.int win), .val (.int chk), .unset] [(.int (1 : Int32))])) _
        refine XS.goto X42.here hx rfl (pc0 := 151) (pc' := 155) rfl (hb hby at_151) (by decide) (by decide) ?_
        exact k
      · refine ⟨(0 : Int32), (by simp only [if_neg hc147_0]), ?_⟩
        intro t k
        refine R47 t ?_
        show Steps p.tables e below (T42.setTop (mkF m 139 #[.val (.int p1), .val (.int p2), .val (.int p3), .val (.int p4), .val (.int p5), .val (.int (2 : Int32)), .val (.ref b29), .val (.int got), .unset, .val (.int (p2 &&& (255 : Int32))), .val (.int (p3 &&& (255 : Int32))), .val (.int dfl), .val (.int win), .unset, .unset] [(.int chk)])) _
        refine XS.istore X42.here hx rfl (hb hby at_139) rfl (l' := #[.val (.int p1), .val (.int p2), .val (.int p3), .val (.int p4), .val (.int p5), .val (.int (2 : Int32)), .val (.ref b29), .val (.int got), .unset, .val (.int (p2 &&& (255 : Int32))), .val (.int (p3 &&& (255 : Int32))), .val (.int dfl), .val (.int win), .val (.int chk), .unset]) rfl ?_
        show Steps p.tables e below (T42.setTop (mkF m 141 #[.val (.int p1), .val (.int p2), .val (.int p3), .val (.int p4), .val (.int p5), .val (.int (2 : Int32)), .val (.ref b29), .val (.int got), .unset, .val (.int (p2 &&& (255 : Int32))), .val (.int (p3 &&& (255 : Int32))), .val (.int dfl), .val (.int win), .val (.int chk), .unset] [])) _
        refine XS.iload X42.here hx rfl (hb hby at_141) rfl ?_
        show Steps p.tables e below (T42.setTop (mkF m 143 #[.val (.int p1), .val (.int p2), .val (.int p3), .val (.int p4), .val (.int p5), .val (.int (2 : Int32)), .val (.ref b29), .val (.int got), .unset, .val (.int (p2 &&& (255 : Int32))), .val (.int (p3 &&& (255 : Int32))), .val (.int dfl), .val (.int win), .val (.int chk), .unset] [(.int (p3 &&& (255 : Int32)))])) _
        refine XS.iconst X42.here hx rfl (hb hby at_143) ?_
        show Steps p.tables e below (T42.setTop (mkF m 144 #[.val (.int p1), .val (.int p2), .val (.int p3), .val (.int p4), .val (.int p5), .val (.int (2 : Int32)), .val (.ref b29), .val (.int got), .unset, .val (.int (p2 &&& (255 : Int32))), .val (.int (p3 &&& (255 : Int32))), .val (.int dfl), .val (.int win), .val (.int chk), .unset] [(.int (5 : Int32)), (.int (p3 &&& (255 : Int32)))])) _
        refine XS.ishr X42.here hx rfl (hb hby at_144) rfl ?_
        show Steps p.tables e below (T42.setTop (mkF m 145 #[.val (.int p1), .val (.int p2), .val (.int p3), .val (.int p4), .val (.int p5), .val (.int (2 : Int32)), .val (.ref b29), .val (.int got), .unset, .val (.int (p2 &&& (255 : Int32))), .val (.int (p3 &&& (255 : Int32))), .val (.int dfl), .val (.int win), .val (.int chk), .unset] [(.int ((p3 &&& (255 : Int32)) >>> ((5 : Int32) &&& 31)))])) _
        refine XS.iconst X42.here hx rfl (hb hby at_145) ?_
        show Steps p.tables e below (T42.setTop (mkF m 146 #[.val (.int p1), .val (.int p2), .val (.int p3), .val (.int p4), .val (.int p5), .val (.int (2 : Int32)), .val (.ref b29), .val (.int got), .unset, .val (.int (p2 &&& (255 : Int32))), .val (.int (p3 &&& (255 : Int32))), .val (.int dfl), .val (.int win), .val (.int chk), .unset] [(.int (1 : Int32)), (.int ((p3 &&& (255 : Int32)) >>> ((5 : Int32) &&& 31)))])) _
        refine XS.iand X42.here hx rfl (hb hby at_146) rfl ?_
        show Steps p.tables e below (T42.setTop (mkF m 147 #[.val (.int p1), .val (.int p2), .val (.int p3), .val (.int p4), .val (.int p5), .val (.int (2 : Int32)), .val (.ref b29), .val (.int got), .unset, .val (.int (p2 &&& (255 : Int32))), .val (.int (p3 &&& (255 : Int32))), .val (.int dfl), .val (.int win), .val (.int chk), .unset] [(.int (((p3 &&& (255 : Int32)) >>> ((5 : Int32) &&& 31)) &&& (1 : Int32)))])) _
        refine XS.ifYes X42.here hx rfl (pc0 := 147) (pc' := 154) rfl (hb hby at_147) rfl ((if0 _ _).trans (feq hc147_0).2) (by decide) (by decide) ?_
        show Steps p.tables e below (T42.setTop (mkF m 154 #[.val (.int p1), .val (.int p2), .val (.int p3), .val (.int p4), .val (.int p5), .val (.int (2 : Int32)), .val (.ref b29), .val (.int got), .unset, .val (.int (p2 &&& (255 : Int32))), .val (.int (p3 &&& (255 : Int32))), .val (.int dfl), .val (.int win), .val (.int chk), .unset] [])) _
        refine XS.iconst X42.here hx rfl (hb hby at_154) ?_
        exact k
    obtain ⟨ex, hex, R49⟩ : ∃ (ex : Int32), ex = (if dfl = (0 : Int32) then (0 : Int32) else (if win = (0 : Int32) then (0 : Int32) else (if chk = (0 : Int32) then (0 : Int32) else (if nod = (0 : Int32) then (0 : Int32) else (1 : Int32))))) ∧ (∀ t, Steps p.tables e below (T42.setTop (mkF m 182 #[.val (.int p1), .val (.int p2), .val (.int p3), .val (.int p4), .val (.int p5), .val (.int (2 : Int32)), .val (.ref b29), .val (.int got), .unset, .val (.int (p2 &&& (255 : Int32))), .val (.int (p3 &&& (255 : Int32))), .val (.int dfl), .val (.int win), .val (.int chk), .val (.int nod)] [(.int ex)])) t → Steps p.tables e below (s₁.setTop (entryFrame m #[(.int p1), (.int p2), (.int p3), (.int p4), (.int p5)] maxLocals)) t) := by
      by_cases hc159_0 : dfl = (0 : Int32)
      · refine ⟨(0 : Int32), (by simp only [if_pos hc159_0]), ?_⟩
        intro t k
        refine R48 t ?_
        show Steps p.tables e below (T42.setTop (mkF m 155 #[.val (.int p1), .val (.int p2), .val (.int p3), .val (.int p4), .val (.int p5), .val (.int (2 : Int32)), .val (.ref b29), .val (.int got), .unset, .val (.int (p2 &&& (255 : Int32))), .val (.int (p3 &&& (255 : Int32))), .val (.int dfl), .val (.int win), .val (.int chk), .unset] [(.int nod)])) _
        refine XS.istore X42.here hx rfl (hb hby at_155) rfl (l' := #[.val (.int p1), .val (.int p2), .val (.int p3), .val (.int p4), .val (.int p5), .val (.int (2 : Int32)), .val (.ref b29), .val (.int got), .unset, .val (.int (p2 &&& (255 : Int32))), .val (.int (p3 &&& (255 : Int32))), .val (.int dfl), .val (.int win), .val (.int chk), .val (.int nod)]) rfl ?_
        show Steps p.tables e below (T42.setTop (mkF m 157 #[.val (.int p1), .val (.int p2), .val (.int p3), .val (.int p4), .val (.int p5), .val (.int (2 : Int32)), .val (.ref b29), .val (.int got), .unset, .val (.int (p2 &&& (255 : Int32))), .val (.int (p3 &&& (255 : Int32))), .val (.int dfl), .val (.int win), .val (.int chk), .val (.int nod)] [])) _
        refine XS.iload X42.here hx rfl (hb hby at_157) rfl ?_
        show Steps p.tables e below (T42.setTop (mkF m 159 #[.val (.int p1), .val (.int p2), .val (.int p3), .val (.int p4), .val (.int p5), .val (.int (2 : Int32)), .val (.ref b29), .val (.int got), .unset, .val (.int (p2 &&& (255 : Int32))), .val (.int (p3 &&& (255 : Int32))), .val (.int dfl), .val (.int win), .val (.int chk), .val (.int nod)] [(.int dfl)])) _
        refine XS.ifYes X42.here hx rfl (pc0 := 159) (pc' := 181) rfl (hb hby at_159) rfl ((if0 _ _).trans (teq hc159_0).1) (by decide) (by decide) ?_
        show Steps p.tables e below (T42.setTop (mkF m 181 #[.val (.int p1), .val (.int p2), .val (.int p3), .val (.int p4), .val (.int p5), .val (.int (2 : Int32)), .val (.ref b29), .val (.int got), .unset, .val (.int (p2 &&& (255 : Int32))), .val (.int (p3 &&& (255 : Int32))), .val (.int dfl), .val (.int win), .val (.int chk), .val (.int nod)] [])) _
        refine XS.iconst X42.here hx rfl (hb hby at_181) ?_
        exact k
      · by_cases hc164_1 : win = (0 : Int32)
        · refine ⟨(0 : Int32), (by simp only [if_neg hc159_0, if_pos hc164_1]), ?_⟩
          intro t k
          refine R48 t ?_
          show Steps p.tables e below (T42.setTop (mkF m 155 #[.val (.int p1), .val (.int p2), .val (.int p3), .val (.int p4), .val (.int p5), .val (.int (2 : Int32)), .val (.ref b29), .val (.int got), .unset, .val (.int (p2 &&& (255 : Int32))), .val (.int (p3 &&& (255 : Int32))), .val (.int dfl), .val (.int win), .val (.int chk), .unset] [(.int nod)])) _
          refine XS.istore X42.here hx rfl (hb hby at_155) rfl (l' := #[.val (.int p1), .val (.int p2), .val (.int p3), .val (.int p4), .val (.int p5), .val (.int (2 : Int32)), .val (.ref b29), .val (.int got), .unset, .val (.int (p2 &&& (255 : Int32))), .val (.int (p3 &&& (255 : Int32))), .val (.int dfl), .val (.int win), .val (.int chk), .val (.int nod)]) rfl ?_
          show Steps p.tables e below (T42.setTop (mkF m 157 #[.val (.int p1), .val (.int p2), .val (.int p3), .val (.int p4), .val (.int p5), .val (.int (2 : Int32)), .val (.ref b29), .val (.int got), .unset, .val (.int (p2 &&& (255 : Int32))), .val (.int (p3 &&& (255 : Int32))), .val (.int dfl), .val (.int win), .val (.int chk), .val (.int nod)] [])) _
          refine XS.iload X42.here hx rfl (hb hby at_157) rfl ?_
          show Steps p.tables e below (T42.setTop (mkF m 159 #[.val (.int p1), .val (.int p2), .val (.int p3), .val (.int p4), .val (.int p5), .val (.int (2 : Int32)), .val (.ref b29), .val (.int got), .unset, .val (.int (p2 &&& (255 : Int32))), .val (.int (p3 &&& (255 : Int32))), .val (.int dfl), .val (.int win), .val (.int chk), .val (.int nod)] [(.int dfl)])) _
          refine XS.ifNo X42.here hx rfl (hb hby at_159) rfl ((if0 _ _).trans (feq hc159_0).1) ?_
          show Steps p.tables e below (T42.setTop (mkF m 162 #[.val (.int p1), .val (.int p2), .val (.int p3), .val (.int p4), .val (.int p5), .val (.int (2 : Int32)), .val (.ref b29), .val (.int got), .unset, .val (.int (p2 &&& (255 : Int32))), .val (.int (p3 &&& (255 : Int32))), .val (.int dfl), .val (.int win), .val (.int chk), .val (.int nod)] [])) _
          refine XS.iload X42.here hx rfl (hb hby at_162) rfl ?_
          show Steps p.tables e below (T42.setTop (mkF m 164 #[.val (.int p1), .val (.int p2), .val (.int p3), .val (.int p4), .val (.int p5), .val (.int (2 : Int32)), .val (.ref b29), .val (.int got), .unset, .val (.int (p2 &&& (255 : Int32))), .val (.int (p3 &&& (255 : Int32))), .val (.int dfl), .val (.int win), .val (.int chk), .val (.int nod)] [(.int win)])) _
          refine XS.ifYes X42.here hx rfl (pc0 := 164) (pc' := 181) rfl (hb hby at_164) rfl ((if0 _ _).trans (teq hc164_1).1) (by decide) (by decide) ?_
          show Steps p.tables e below (T42.setTop (mkF m 181 #[.val (.int p1), .val (.int p2), .val (.int p3), .val (.int p4), .val (.int p5), .val (.int (2 : Int32)), .val (.ref b29), .val (.int got), .unset, .val (.int (p2 &&& (255 : Int32))), .val (.int (p3 &&& (255 : Int32))), .val (.int dfl), .val (.int win), .val (.int chk), .val (.int nod)] [])) _
          refine XS.iconst X42.here hx rfl (hb hby at_181) ?_
          exact k
        · by_cases hc169_2 : chk = (0 : Int32)
          · refine ⟨(0 : Int32), (by simp only [if_neg hc159_0, if_neg hc164_1, if_pos hc169_2]), ?_⟩
            intro t k
            refine R48 t ?_
            show Steps p.tables e below (T42.setTop (mkF m 155 #[.val (.int p1), .val (.int p2), .val (.int p3), .val (.int p4), .val (.int p5), .val (.int (2 : Int32)), .val (.ref b29), .val (.int got), .unset, .val (.int (p2 &&& (255 : Int32))), .val (.int (p3 &&& (255 : Int32))), .val (.int dfl), .val (.int win), .val (.int chk), .unset] [(.int nod)])) _
            refine XS.istore X42.here hx rfl (hb hby at_155) rfl (l' := #[.val (.int p1), .val (.int p2), .val (.int p3), .val (.int p4), .val (.int p5), .val (.int (2 : Int32)), .val (.ref b29), .val (.int got), .unset, .val (.int (p2 &&& (255 : Int32))), .val (.int (p3 &&& (255 : Int32))), .val (.int dfl), .val (.int win), .val (.int chk), .val (.int nod)]) rfl ?_
            show Steps p.tables e below (T42.setTop (mkF m 157 #[.val (.int p1), .val (.int p2), .val (.int p3), .val (.int p4), .val (.int p5), .val (.int (2 : Int32)), .val (.ref b29), .val (.int got), .unset, .val (.int (p2 &&& (255 : Int32))), .val (.int (p3 &&& (255 : Int32))), .val (.int dfl), .val (.int win), .val (.int chk), .val (.int nod)] [])) _
            refine XS.iload X42.here hx rfl (hb hby at_157) rfl ?_
            show Steps p.tables e below (T42.setTop (mkF m 159 #[.val (.int p1), .val (.int p2), .val (.int p3), .val (.int p4), .val (.int p5), .val (.int (2 : Int32)), .val (.ref b29), .val (.int got), .unset, .val (.int (p2 &&& (255 : Int32))), .val (.int (p3 &&& (255 : Int32))), .val (.int dfl), .val (.int win), .val (.int chk), .val (.int nod)] [(.int dfl)])) _
            refine XS.ifNo X42.here hx rfl (hb hby at_159) rfl ((if0 _ _).trans (feq hc159_0).1) ?_
            show Steps p.tables e below (T42.setTop (mkF m 162 #[.val (.int p1), .val (.int p2), .val (.int p3), .val (.int p4), .val (.int p5), .val (.int (2 : Int32)), .val (.ref b29), .val (.int got), .unset, .val (.int (p2 &&& (255 : Int32))), .val (.int (p3 &&& (255 : Int32))), .val (.int dfl), .val (.int win), .val (.int chk), .val (.int nod)] [])) _
            refine XS.iload X42.here hx rfl (hb hby at_162) rfl ?_
            show Steps p.tables e below (T42.setTop (mkF m 164 #[.val (.int p1), .val (.int p2), .val (.int p3), .val (.int p4), .val (.int p5), .val (.int (2 : Int32)), .val (.ref b29), .val (.int got), .unset, .val (.int (p2 &&& (255 : Int32))), .val (.int (p3 &&& (255 : Int32))), .val (.int dfl), .val (.int win), .val (.int chk), .val (.int nod)] [(.int win)])) _
            refine XS.ifNo X42.here hx rfl (hb hby at_164) rfl ((if0 _ _).trans (feq hc164_1).1) ?_
            show Steps p.tables e below (T42.setTop (mkF m 167 #[.val (.int p1), .val (.int p2), .val (.int p3), .val (.int p4), .val (.int p5), .val (.int (2 : Int32)), .val (.ref b29), .val (.int got), .unset, .val (.int (p2 &&& (255 : Int32))), .val (.int (p3 &&& (255 : Int32))), .val (.int dfl), .val (.int win), .val (.int chk), .val (.int nod)] [])) _
            refine XS.iload X42.here hx rfl (hb hby at_167) rfl ?_
            show Steps p.tables e below (T42.setTop (mkF m 169 #[.val (.int p1), .val (.int p2), .val (.int p3), .val (.int p4), .val (.int p5), .val (.int (2 : Int32)), .val (.ref b29), .val (.int got), .unset, .val (.int (p2 &&& (255 : Int32))), .val (.int (p3 &&& (255 : Int32))), .val (.int dfl), .val (.int win), .val (.int chk), .val (.int nod)] [(.int chk)])) _
            refine XS.ifYes X42.here hx rfl (pc0 := 169) (pc' := 181) rfl (hb hby at_169) rfl ((if0 _ _).trans (teq hc169_2).1) (by decide) (by decide) ?_
            show Steps p.tables e below (T42.setTop (mkF m 181 #[.val (.int p1), .val (.int p2), .val (.int p3), .val (.int p4), .val (.int p5), .val (.int (2 : Int32)), .val (.ref b29), .val (.int got), .unset, .val (.int (p2 &&& (255 : Int32))), .val (.int (p3 &&& (255 : Int32))), .val (.int dfl), .val (.int win), .val (.int chk), .val (.int nod)] [])) _
            refine XS.iconst X42.here hx rfl (hb hby at_181) ?_
            exact k
          · by_cases hc174_3 : nod = (0 : Int32)
            · refine ⟨(0 : Int32), (by simp only [if_neg hc159_0, if_neg hc164_1, if_neg hc169_2, if_pos hc174_3]), ?_⟩
              intro t k
              refine R48 t ?_
              show Steps p.tables e below (T42.setTop (mkF m 155 #[.val (.int p1), .val (.int p2), .val (.int p3), .val (.int p4), .val (.int p5), .val (.int (2 : Int32)), .val (.ref b29), .val (.int got), .unset, .val (.int (p2 &&& (255 : Int32))), .val (.int (p3 &&& (255 : Int32))), .val (.int dfl), .val (.int win), .val (.int chk), .unset] [(.int nod)])) _
              refine XS.istore X42.here hx rfl (hb hby at_155) rfl (l' := #[.val (.int p1), .val (.int p2), .val (.int p3), .val (.int p4), .val (.int p5), .val (.int (2 : Int32)), .val (.ref b29), .val (.int got), .unset, .val (.int (p2 &&& (255 : Int32))), .val (.int (p3 &&& (255 : Int32))), .val (.int dfl), .val (.int win), .val (.int chk), .val (.int nod)]) rfl ?_
              show Steps p.tables e below (T42.setTop (mkF m 157 #[.val (.int p1), .val (.int p2), .val (.int p3), .val (.int p4), .val (.int p5), .val (.int (2 : Int32)), .val (.ref b29), .val (.int got), .unset, .val (.int (p2 &&& (255 : Int32))), .val (.int (p3 &&& (255 : Int32))), .val (.int dfl), .val (.int win), .val (.int chk), .val (.int nod)] [])) _
              refine XS.iload X42.here hx rfl (hb hby at_157) rfl ?_
              show Steps p.tables e below (T42.setTop (mkF m 159 #[.val (.int p1), .val (.int p2), .val (.int p3), .val (.int p4), .val (.int p5), .val (.int (2 : Int32)), .val (.ref b29), .val (.int got), .unset, .val (.int (p2 &&& (255 : Int32))), .val (.int (p3 &&& (255 : Int32))), .val (.int dfl), .val (.int win), .val (.int chk), .val (.int nod)] [(.int dfl)])) _
              refine XS.ifNo X42.here hx rfl (hb hby at_159) rfl ((if0 _ _).trans (feq hc159_0).1) ?_
              show Steps p.tables e below (T42.setTop (mkF m 162 #[.val (.int p1), .val (.int p2), .val (.int p3), .val (.int p4), .val (.int p5), .val (.int (2 : Int32)), .val (.ref b29), .val (.int got), .unset, .val (.int (p2 &&& (255 : Int32))), .val (.int (p3 &&& (255 : Int32))), .val (.int dfl), .val (.int win), .val (.int chk), .val (.int nod)] [])) _
              refine XS.iload X42.here hx rfl (hb hby at_162) rfl ?_
              show Steps p.tables e below (T42.setTop (mkF m 164 #[.val (.int p1), .val (.int p2), .val (.int p3), .val (.int p4), .val (.int p5), .val (.int (2 : Int32)), .val (.ref b29), .val (.int got), .unset, .val (.int (p2 &&& (255 : Int32))), .val (.int (p3 &&& (255 : Int32))), .val (.int dfl), .val (.int win), .val (.int chk), .val (.int nod)] [(.int win)])) _
              refine XS.ifNo X42.here hx rfl (hb hby at_164) rfl ((if0 _ _).trans (feq hc164_1).1) ?_
              show Steps p.tables e below (T42.setTop (mkF m 167 #[.val (.int p1), .val (.int p2), .val (.int p3), .val (.int p4), .val (.int p5), .val (.int (2 : Int32)), .val (.ref b29), .val (.int got), .unset, .val (.int (p2 &&& (255 : Int32))), .val (.int (p3 &&& (255 : Int32))), .val (.int dfl), .val (.int win), .val (.int chk), .val (.int nod)] [])) _
              refine XS.iload X42.here hx rfl (hb hby at_167) rfl ?_
              show Steps p.tables e below (T42.setTop (mkF m 169 #[.val (.int p1), .val (.int p2), .val (.int p3), .val (.int p4), .val (.int p5), .val (.int (2 : Int32)), .val (.ref b29), .val (.int got), .unset, .val (.int (p2 &&& (255 : Int32))), .val (.int (p3 &&& (255 : Int32))), .val (.int dfl), .val (.int win), .val (.int chk), .val (.int nod)] [(.int chk)])) _
              refine XS.ifNo X42.here hx rfl (hb hby at_169) rfl ((if0 _ _).trans (feq hc169_2).1) ?_
              show Steps p.tables e below (T42.setTop (mkF m 172 #[.val (.int p1), .val (.int p2), .val (.int p3), .val (.int p4), .val (.int p5), .val (.int (2 : Int32)), .val (.ref b29), .val (.int got), .unset, .val (.int (p2 &&& (255 : Int32))), .val (.int (p3 &&& (255 : Int32))), .val (.int dfl), .val (.int win), .val (.int chk), .val (.int nod)] [])) _
              refine XS.iload X42.here hx rfl (hb hby at_172) rfl ?_
              show Steps p.tables e below (T42.setTop (mkF m 174 #[.val (.int p1), .val (.int p2), .val (.int p3), .val (.int p4), .val (.int p5), .val (.int (2 : Int32)), .val (.ref b29), .val (.int got), .unset, .val (.int (p2 &&& (255 : Int32))), .val (.int (p3 &&& (255 : Int32))), .val (.int dfl), .val (.int win), .val (.int chk), .val (.int nod)] [(.int nod)])) _
              refine XS.ifYes X42.here hx rfl (pc0 := 174) (pc' := 181) rfl (hb hby at_174) rfl ((if0 _ _).trans (teq hc174_3).1) (by decide) (by decide) ?_
              show Steps p.tables e below (T42.setTop (mkF m 181 #[.val (.int p1), .val (.int p2), .val (.int p3), .val (.int p4), .val (.int p5), .val (.int (2 : Int32)), .val (.ref b29), .val (.int got), .unset, .val (.int (p2 &&& (255 : Int32))), .val (.int (p3 &&& (255 : Int32))), .val (.int dfl), .val (.int win), .val (.int chk), .val (.int nod)] [])) _
              refine XS.iconst X42.here hx rfl (hb hby at_181) ?_
              exact k
            · refine ⟨(1 : Int32), (by simp only [if_neg hc159_0, if_neg hc164_1, if_neg hc169_2, if_neg hc174_3]), ?_⟩
              intro t k
              refine R48 t ?_
              show Steps p.tables e below (T42.setTop (mkF m 155 #[.val (.int p1), .val (.int p2), .val (.int p3), .val (.int p4), .val (.int p5), .val (.int (2 : Int32)), .val (.ref b29), .val (.int got), .unset, .val (.int (p2 &&& (255 : Int32))), .val (.int (p3 &&& (255 : Int32))), .val (.int dfl), .val (.int win), .val (.int chk), .unset] [(.int nod)])) _
              refine XS.istore X42.here hx rfl (hb hby at_155) rfl (l' := #[.val (.int p1), .val (.int p2), .val (.int p3), .val (.int p4), .val (.int p5), .val (.int (2 : Int32)), .val (.ref b29), .val (.int got), .unset, .val (.int (p2 &&& (255 : Int32))), .val (.int (p3 &&& (255 : Int32))), .val (.int dfl), .val (.int win), .val (.int chk), .val (.int nod)]) rfl ?_
              show Steps p.tables e below (T42.setTop (mkF m 157 #[.val (.int p1), .val (.int p2), .val (.int p3), .val (.int p4), .val (.int p5), .val (.int (2 : Int32)), .val (.ref b29), .val (.int got), .unset, .val (.int (p2 &&& (255 : Int32))), .val (.int (p3 &&& (255 : Int32))), .val (.int dfl), .val (.int win), .val (.int chk), .val (.int nod)] [])) _
              refine XS.iload X42.here hx rfl (hb hby at_157) rfl ?_
              show Steps p.tables e below (T42.setTop (mkF m 159 #[.val (.int p1), .val (.int p2), .val (.int p3), .val (.int p4), .val (.int p5), .val (.int (2 : Int32)), .val (.ref b29), .val (.int got), .unset, .val (.int (p2 &&& (255 : Int32))), .val (.int (p3 &&& (255 : Int32))), .val (.int dfl), .val (.int win), .val (.int chk), .val (.int nod)] [(.int dfl)])) _
              refine XS.ifNo X42.here hx rfl (hb hby at_159) rfl ((if0 _ _).trans (feq hc159_0).1) ?_
              show Steps p.tables e below (T42.setTop (mkF m 162 #[.val (.int p1), .val (.int p2), .val (.int p3), .val (.int p4), .val (.int p5), .val (.int (2 : Int32)), .val (.ref b29), .val (.int got), .unset, .val (.int (p2 &&& (255 : Int32))), .val (.int (p3 &&& (255 : Int32))), .val (.int dfl), .val (.int win), .val (.int chk), .val (.int nod)] [])) _
              refine XS.iload X42.here hx rfl (hb hby at_162) rfl ?_
              show Steps p.tables e below (T42.setTop (mkF m 164 #[.val (.int p1), .val (.int p2), .val (.int p3), .val (.int p4), .val (.int p5), .val (.int (2 : Int32)), .val (.ref b29), .val (.int got), .unset, .val (.int (p2 &&& (255 : Int32))), .val (.int (p3 &&& (255 : Int32))), .val (.int dfl), .val (.int win), .val (.int chk), .val (.int nod)] [(.int win)])) _
              refine XS.ifNo X42.here hx rfl (hb hby at_164) rfl ((if0 _ _).trans (feq hc164_1).1) ?_
              show Steps p.tables e below (T42.setTop (mkF m 167 #[.val (.int p1), .val (.int p2), .val (.int p3), .val (.int p4), .val (.int p5), .val (.int (2 : Int32)), .val (.ref b29), .val (.int got), .unset, .val (.int (p2 &&& (255 : Int32))), .val (.int (p3 &&& (255 : Int32))), .val (.int dfl), .val (.int win), .val (.int chk), .val (.int nod)] [])) _
              refine XS.iload X42.here hx rfl (hb hby at_167) rfl ?_
              show Steps p.tables e below (T42.setTop (mkF m 169 #[.val (.int p1), .val (.int p2), .val (.int p3), .val (.int p4), .val (.int p5), .val (.int (2 : Int32)), .val (.ref b29), .val (.int got), .unset, .val (.int (p2 &&& (255 : Int32))), .val (.int (p3 &&& (255 : Int32))), .val (.int dfl), .val (.int win), .val (.int chk), .val (.int nod)] [(.int chk)])) _
              refine XS.ifNo X42.here hx rfl (hb hby at_169) rfl ((if0 _ _).trans (feq hc169_2).1) ?_
              show Steps p.tables e below (T42.setTop (mkF m 172 #[.val (.int p1), .val (.int p2), .val (.int p3), .val (.int p4), .val (.int p5), .val (.int (2 : Int32)), .val (.ref b29), .val (.int got), .unset, .val (.int (p2 &&& (255 : Int32))), .val (.int (p3 &&& (255 : Int32))), .val (.int dfl), .val (.int win), .val (.int chk), .val (.int nod)] [])) _
              refine XS.iload X42.here hx rfl (hb hby at_172) rfl ?_
              show Steps p.tables e below (T42.setTop (mkF m 174 #[.val (.int p1), .val (.int p2), .val (.int p3), .val (.int p4), .val (.int p5), .val (.int (2 : Int32)), .val (.ref b29), .val (.int got), .unset, .val (.int (p2 &&& (255 : Int32))), .val (.int (p3 &&& (255 : Int32))), .val (.int dfl), .val (.int win), .val (.int chk), .val (.int nod)] [(.int nod)])) _
              refine XS.ifNo X42.here hx rfl (hb hby at_174) rfl ((if0 _ _).trans (feq hc174_3).1) ?_
              show Steps p.tables e below (T42.setTop (mkF m 177 #[.val (.int p1), .val (.int p2), .val (.int p3), .val (.int p4), .val (.int p5), .val (.int (2 : Int32)), .val (.ref b29), .val (.int got), .unset, .val (.int (p2 &&& (255 : Int32))), .val (.int (p3 &&& (255 : Int32))), .val (.int dfl), .val (.int win), .val (.int chk), .val (.int nod)] [])) _
              refine XS.iconst X42.here hx rfl (hb hby at_177) ?_
              show Steps p.tables e below (T42.setTop (mkF m 178 #[.val (.int p1), .val (.int p2), .val (.int p3), .val (.int p4), .val (.int p5), .val (.int (2 : Int32)), .val (.ref b29), .val (.int got), .unset, .val (.int (p2 &&& (255 : Int32))), .val (.int (p3 &&& (255 : Int32))), .val (.int dfl), .val (.int win), .val (.int chk), .val (.int nod)] [(.int (1 : Int32))])) _
              refine XS.goto X42.here hx rfl (pc0 := 178) (pc' := 182) rfl (hb hby at_178) (by decide) (by decide) ?_
              exact k
    have heq : got = ex := by rw [hgot]; exact own_eq p2 p3 hdfl hwin hchk hnod hex
    have R50 : ∀ t, Steps p.tables e below (T42.setTop (mkF m 196 #[.val (.int p1), .val (.int p2), .val (.int p3), .val (.int p4), .val (.int p5), .val (.int (2 : Int32)), .val (.ref b29), .val (.int got), .val (.int ex), .val (.int (p2 &&& (255 : Int32))), .val (.int (p3 &&& (255 : Int32))), .val (.int dfl), .val (.int win), .val (.int chk), .val (.int nod)] [(.int (1 : Int32))])) t → Steps p.tables e below (s₁.setTop (entryFrame m #[(.int p1), (.int p2), (.int p3), (.int p4), (.int p5)] maxLocals)) t := by
      intro t k
      refine R49 t ?_
      show Steps p.tables e below (T42.setTop (mkF m 182 #[.val (.int p1), .val (.int p2), .val (.int p3), .val (.int p4), .val (.int p5), .val (.int (2 : Int32)), .val (.ref b29), .val (.int got), .unset, .val (.int (p2 &&& (255 : Int32))), .val (.int (p3 &&& (255 : Int32))), .val (.int dfl), .val (.int win), .val (.int chk), .val (.int nod)] [(.int ex)])) _
      refine XS.istore X42.here hx rfl (hb hby at_182) rfl (l' := #[.val (.int p1), .val (.int p2), .val (.int p3), .val (.int p4), .val (.int p5), .val (.int (2 : Int32)), .val (.ref b29), .val (.int got), .val (.int ex), .val (.int (p2 &&& (255 : Int32))), .val (.int (p3 &&& (255 : Int32))), .val (.int dfl), .val (.int win), .val (.int chk), .val (.int nod)]) rfl ?_
      show Steps p.tables e below (T42.setTop (mkF m 184 #[.val (.int p1), .val (.int p2), .val (.int p3), .val (.int p4), .val (.int p5), .val (.int (2 : Int32)), .val (.ref b29), .val (.int got), .val (.int ex), .val (.int (p2 &&& (255 : Int32))), .val (.int (p3 &&& (255 : Int32))), .val (.int dfl), .val (.int win), .val (.int chk), .val (.int nod)] [])) _
      refine XS.iload X42.here hx rfl (hb hby at_184) rfl ?_
      show Steps p.tables e below (T42.setTop (mkF m 186 #[.val (.int p1), .val (.int p2), .val (.int p3), .val (.int p4), .val (.int p5), .val (.int (2 : Int32)), .val (.ref b29), .val (.int got), .val (.int ex), .val (.int (p2 &&& (255 : Int32))), .val (.int (p3 &&& (255 : Int32))), .val (.int dfl), .val (.int win), .val (.int chk), .val (.int nod)] [(.int got)])) _
      refine XS.iload X42.here hx rfl (hb hby at_186) rfl ?_
      show Steps p.tables e below (T42.setTop (mkF m 188 #[.val (.int p1), .val (.int p2), .val (.int p3), .val (.int p4), .val (.int p5), .val (.int (2 : Int32)), .val (.ref b29), .val (.int got), .val (.int ex), .val (.int (p2 &&& (255 : Int32))), .val (.int (p3 &&& (255 : Int32))), .val (.int dfl), .val (.int win), .val (.int chk), .val (.int nod)] [(.int ex), (.int got)])) _
      refine XS.icmpNo X42.here hx rfl (hb hby at_188) rfl (teq heq).2 ?_
      show Steps p.tables e below (T42.setTop (mkF m 191 #[.val (.int p1), .val (.int p2), .val (.int p3), .val (.int p4), .val (.int p5), .val (.int (2 : Int32)), .val (.ref b29), .val (.int got), .val (.int ex), .val (.int (p2 &&& (255 : Int32))), .val (.int (p3 &&& (255 : Int32))), .val (.int dfl), .val (.int win), .val (.int chk), .val (.int nod)] [])) _
      refine XS.iconst X42.here hx rfl (hb hby at_191) ?_
      show Steps p.tables e below (T42.setTop (mkF m 192 #[.val (.int p1), .val (.int p2), .val (.int p3), .val (.int p4), .val (.int p5), .val (.int (2 : Int32)), .val (.ref b29), .val (.int got), .val (.int ex), .val (.int (p2 &&& (255 : Int32))), .val (.int (p3 &&& (255 : Int32))), .val (.int dfl), .val (.int win), .val (.int chk), .val (.int nod)] [(.int (1 : Int32))])) _
      refine XS.goto X42.here hx rfl (pc0 := 192) (pc' := 196) rfl (hb hby at_192) (by decide) (by decide) ?_
      exact k
    obtain ⟨fs, hr, hrun, hended, hW, hsame⟩ := X42.leave (v := some (.int (1 : Int32))) (fun h => by rw [Bd.returns] at h; cases h)
    refine ⟨_, _, R50 _ ?_, hrun, hended, _, _, rfl, ?_, ⟨_, rfl⟩, hW, hsame.mono (by decide) (by decide)⟩
    · exact retN X42 hx (t := .boolean) Bd.returns (by simp) (hb hby at_196) hr
    · show Q_rm0 Z p1 p2 p3 p4 p5 h0 n0 _ T42.heap _
      rw [eq42]
      exact ⟨rfl, N42⟩
  · have R51 : ∀ t, Steps p.tables e below (s₁.setTop (mkF m 5 #[.val (.int p1), .val (.int p2), .val (.int p3), .val (.int p4), .val (.int p5), .val (.int (3 : Int32)), .unset, .unset, .unset, .unset, .unset, .unset, .unset, .unset, .unset] [])) t → Steps p.tables e below (s₁.setTop (entryFrame m #[(.int p1), (.int p2), (.int p3), (.int p4), (.int p5)] maxLocals)) t := by rw [(hl : (p1 &&& (3 : Int32)) = (3 : Int32))] at R1; exact R1
    have R52 : ∀ t, Steps p.tables e below (s₁.setTop (mkF m 7 #[.val (.int p1), .val (.int p2), .val (.int p3), .val (.int p4), .val (.int p5), .val (.int (3 : Int32)), .unset, .unset, .unset, .unset, .unset, .unset, .unset, .unset, .unset] [(.int (3 : Int32))])) t → Steps p.tables e below (s₁.setTop (entryFrame m #[(.int p1), (.int p2), (.int p3), (.int p4), (.int p5)] maxLocals)) t := by
      intro t k
      refine R51 t ?_
      show Steps p.tables e below (s₁.setTop (mkF m 5 #[.val (.int p1), .val (.int p2), .val (.int p3), .val (.int p4), .val (.int p5), .val (.int (3 : Int32)), .unset, .unset, .unset, .unset, .unset, .unset, .unset, .unset, .unset] [])) _
      refine XS.iload X0.here hx rfl (hb hby at_5) rfl ?_
      exact k
    obtain ⟨T53, h53, k53, X53, e53, E53, A53, st53⟩ := newP X0 hx hZ (hw _ (List.mem_of_getElem? (i := 0) rfl)) e0 (g := (mkF m 7 #[.val (.int p1), .val (.int p2), .val (.int p3), .val (.int p4), .val (.int p5), .val (.int (3 : Int32)), .unset, .unset, .unset, .unset, .unset, .unset, .unset, .unset, .unset] [(.int (3 : Int32))])) rfl (hb hby at_7) rfl (by decide) (cap := 3) (by decide) (by decide) (by decide) (by decide)
    obtain ⟨b53, g53⟩ : ∃ z, z = h0.size := ⟨_, rfl⟩
    rw [← g53] at A53 st53
    have R53 : ∀ t, Steps p.tables e below (T53.setTop (mkF m 9 #[.val (.int p1), .val (.int p2), .val (.int p3), .val (.int p4), .val (.int p5), .val (.int (3 : Int32)), .unset, .unset, .unset, .unset, .unset, .unset, .unset, .unset, .unset] [(.ref b53)])) t → Steps p.tables e below (s₁.setTop (entryFrame m #[(.int p1), (.int p2), (.int p3), (.int p4), (.int p5)] maxLocals)) t := fun t k => R52 t (st53 t k)
    have g_b53 : n0 ≤ b53 := Nat.le_trans Z0 (Nat.le_of_eq g53.symm)
    have sz_b53 : h0.size ≤ b53 := Nat.le_trans (Keep.refl h0 []).1 (Nat.le_of_eq g53.symm)
    have Z53 : n0 ≤ h53.size := Nat.le_trans Z0 E53.1
    have K53 : Keep h0 h53 [] := (Keep.refl h0 []).ext E53
    have V53 : Arv Z h53 b53 k53 .byte (3 : Int32) [(.int (0 : Int32)), (.int (0 : Int32)), (.int (0 : Int32))] (.int (0 : Int32)) := (Arv.new A53 (by decide)).pad (pad_rep [] (.int (0 : Int32)) 3)
    have R54 : ∀ t, Steps p.tables e below (T53.setTop (mkF m 21 #[.val (.int p1), .val (.int p2), .val (.int p3), .val (.int p4), .val (.int p5), .val (.int (3 : Int32)), .val (.ref b53), .unset, .unset, .unset, .unset, .unset, .unset, .unset, .unset] [(.int (p2.toInt8.toInt32)), (.int (0 : Int32)), (.ref b53)])) t → Steps p.tables e below (s₁.setTop (entryFrame m #[(.int p1), (.int p2), (.int p3), (.int p4), (.int p5)] maxLocals)) t := by
      intro t k
      refine R53 t ?_
      show Steps p.tables e below (T53.setTop (mkF m 9 #[.val (.int p1), .val (.int p2), .val (.int p3), .val (.int p4), .val (.int p5), .val (.int (3 : Int32)), .unset, .unset, .unset, .unset, .unset, .unset, .unset, .unset, .unset] [(.ref b53)])) _
      refine XS.astore X53.here hx rfl (hb hby at_9) rfl rfl (l' := #[.val (.int p1), .val (.int p2), .val (.int p3), .val (.int p4), .val (.int p5), .val (.int (3 : Int32)), .val (.ref b53), .unset, .unset, .unset, .unset, .unset, .unset, .unset, .unset]) rfl ?_
      show Steps p.tables e below (T53.setTop (mkF m 11 #[.val (.int p1), .val (.int p2), .val (.int p3), .val (.int p4), .val (.int p5), .val (.int (3 : Int32)), .val (.ref b53), .unset, .unset, .unset, .unset, .unset, .unset, .unset, .unset] [])) _
      refine XS.iload X53.here hx rfl (hb hby at_11) rfl ?_
      show Steps p.tables e below (T53.setTop (mkF m 13 #[.val (.int p1), .val (.int p2), .val (.int p3), .val (.int p4), .val (.int p5), .val (.int (3 : Int32)), .val (.ref b53), .unset, .unset, .unset, .unset, .unset, .unset, .unset, .unset] [(.int (3 : Int32))])) _
      refine XS.ifNo X53.here hx rfl (hb hby at_13) rfl ((if0 _ _).trans (tlt (by decide : ((0 : Int32) < (3 : Int32)))).2.2.2) ?_
      show Steps p.tables e below (T53.setTop (mkF m 16 #[.val (.int p1), .val (.int p2), .val (.int p3), .val (.int p4), .val (.int p5), .val (.int (3 : Int32)), .val (.ref b53), .unset, .unset, .unset, .unset, .unset, .unset, .unset, .unset] [])) _
      refine XS.aload X53.here hx rfl (hb hby at_16) rfl rfl ?_
      show Steps p.tables e below (T53.setTop (mkF m 18 #[.val (.int p1), .val (.int p2), .val (.int p3), .val (.int p4), .val (.int p5), .val (.int (3 : Int32)), .val (.ref b53), .unset, .unset, .unset, .unset, .unset, .unset, .unset, .unset] [(.ref b53)])) _
      refine XS.iconst X53.here hx rfl (hb hby at_18) ?_
      show Steps p.tables e below (T53.setTop (mkF m 19 #[.val (.int p1), .val (.int p2), .val (.int p3), .val (.int p4), .val (.int p5), .val (.int (3 : Int32)), .val (.ref b53), .unset, .unset, .unset, .unset, .unset, .unset, .unset, .unset] [(.int (0 : Int32)), (.ref b53)])) _
      refine XS.iloadN X53.here hx rfl (hb hby at_19) rfl ?_
      show Steps p.tables e below (T53.setTop (mkF m 20 #[.val (.int p1), .val (.int p2), .val (.int p3), .val (.int p4), .val (.int p5), .val (.int (3 : Int32)), .val (.ref b53), .unset, .unset, .unset, .unset, .unset, .unset, .unset, .unset] [(.int p2), (.int (0 : Int32)), (.ref b53)])) _
      refine XS.i2b X53.here hx rfl (hb hby at_20) rfl ?_
      exact k
    obtain ⟨cl55, Ar55, q55, S55, N55', H55, G55⟩ := id V53
    have hin55 : ¬ ((0 : Int32) < 0 ∨ cl55.slots.size ≤ ((0 : Int32)).toNatClampNeg) := inb_of S55 ⟨by decide, by decide⟩
    obtain ⟨T56, h56, X56, e56, W56, st56⟩ := stB X53 hx hZ e53 Ar55 (j := (0 : Int32)) hin55 (g := (mkF m 21 #[.val (.int p1), .val (.int p2), .val (.int p3), .val (.int p4), .val (.int p5), .val (.int (3 : Int32)), .val (.ref b53), .unset, .unset, .unset, .unset, .unset, .unset, .unset, .unset] [(.int (p2.toInt8.toInt32)), (.int (0 : Int32)), (.ref b53)])) rfl rfl (hb hby at_21)
    have R56 : ∀ t, Steps p.tables e below (T56.setTop (mkF m 22 #[.val (.int p1), .val (.int p2), .val (.int p3), .val (.int p4), .val (.int p5), .val (.int (3 : Int32)), .val (.ref b53), .unset, .unset, .unset, .unset, .unset, .unset, .unset, .unset] [])) t → Steps p.tables e below (s₁.setTop (entryFrame m #[(.int p1), (.int p2), (.int p3), (.int p4), (.int p5)] maxLocals)) t := fun t k => R54 t (st56 t k)
    have Z56 : n0 ≤ h56.size := Nat.le_trans Z53 (Keep.of_wr W56).1
    have K56 : Keep h0 h56 [] := K53.wr W56 (Or.inr sz_b53)
    have N56 := Fr.snoc X56 N0 g_b53
    have V56 : Arv Z h56 b53 k53 .byte (3 : Int32) [(.int (nar .byte (p2.toInt8.toInt32))), (.int (0 : Int32)), (.int (0 : Int32))] (.int (0 : Int32)) := Arv.set Ar55 q55 S55 N55' H55 G55 (fits_nar_byte _) W56 0 rfl (Nat.le_of_ble_eq_true rfl)
    have R57 : ∀ t, Steps p.tables e below (T56.setTop (mkF m 33 #[.val (.int p1), .val (.int p2), .val (.int p3), .val (.int p4), .val (.int p5), .val (.int (3 : Int32)), .val (.ref b53), .unset, .unset, .unset, .unset, .unset, .unset, .unset, .unset] [(.int (p3.toInt8.toInt32)), (.int (1 : Int32)), (.ref b53)])) t → Steps p.tables e below (s₁.setTop (entryFrame m #[(.int p1), (.int p2), (.int p3), (.int p4), (.int p5)] maxLocals)) t := by
      intro t k
      refine R56 t ?_
      show Steps p.tables e below (T56.setTop (mkF m 22 #[.val (.int p1), .val (.int p2), .val (.int p3), .val (.int p4), .val (.int p5), .val (.int (3 : Int32)), .val (.ref b53), .unset, .unset, .unset, .unset, .unset, .unset, .unset, .unset] [])) _
      refine XS.iload X56.here hx rfl (hb hby at_22) rfl ?_
      show Steps p.tables e below (T56.setTop (mkF m 24 #[.val (.int p1), .val (.int p2), .val (.int p3), .val (.int p4), .val (.int p5), .val (.int (3 : Int32)), .val (.ref b53), .unset, .unset, .unset, .unset, .unset, .unset, .unset, .unset] [(.int (3 : Int32))])) _
      refine XS.iconst X56.here hx rfl (hb hby at_24) ?_
      show Steps p.tables e below (T56.setTop (mkF m 25 #[.val (.int p1), .val (.int p2), .val (.int p3), .val (.int p4), .val (.int p5), .val (.int (3 : Int32)), .val (.ref b53), .unset, .unset, .unset, .unset, .unset, .unset, .unset, .unset] [(.int (1 : Int32)), (.int (3 : Int32))])) _
      refine XS.icmpNo X56.here hx rfl (hb hby at_25) rfl (tlt (by decide : ((1 : Int32) < (3 : Int32)))).2.2.2 ?_
      show Steps p.tables e below (T56.setTop (mkF m 28 #[.val (.int p1), .val (.int p2), .val (.int p3), .val (.int p4), .val (.int p5), .val (.int (3 : Int32)), .val (.ref b53), .unset, .unset, .unset, .unset, .unset, .unset, .unset, .unset] [])) _
      refine XS.aload X56.here hx rfl (hb hby at_28) rfl rfl ?_
      show Steps p.tables e below (T56.setTop (mkF m 30 #[.val (.int p1), .val (.int p2), .val (.int p3), .val (.int p4), .val (.int p5), .val (.int (3 : Int32)), .val (.ref b53), .unset, .unset, .unset, .unset, .unset, .unset, .unset, .unset] [(.ref b53)])) _
      refine XS.iconst X56.here hx rfl (hb hby at_30) ?_
      show Steps p.tables e below (T56.setTop (mkF m 31 #[.val (.int p1), .val (.int p2), .val (.int p3), .val (.int p4), .val (.int p5), .val (.int (3 : Int32)), .val (.ref b53), .unset, .unset, .unset, .unset, .unset, .unset, .unset, .unset] [(.int (1 : Int32)), (.ref b53)])) _
      refine XS.iloadN X56.here hx rfl (hb hby at_31) rfl ?_
      show Steps p.tables e below (T56.setTop (mkF m 32 #[.val (.int p1), .val (.int p2), .val (.int p3), .val (.int p4), .val (.int p5), .val (.int (3 : Int32)), .val (.ref b53), .unset, .unset, .unset, .unset, .unset, .unset, .unset, .unset] [(.int p3), (.int (1 : Int32)), (.ref b53)])) _
      refine XS.i2b X56.here hx rfl (hb hby at_32) rfl ?_
      exact k
    obtain ⟨cl58, Ar58, q58, S58, N58', H58, G58⟩ := id V56
    have hin58 : ¬ ((1 : Int32) < 0 ∨ cl58.slots.size ≤ ((1 : Int32)).toNatClampNeg) := inb_of S58 ⟨by decide, by decide⟩
    obtain ⟨T59, h59, X59, e59, W59, st59⟩ := stB X56 hx hZ e56 Ar58 (j := (1 : Int32)) hin58 (g := (mkF m 33 #[.val (.int p1), .val (.int p2), .val (.int p3), .val (.int p4), .val (.int p5), .val (.int (3 : Int32)), .val (.ref b53), .unset, .unset, .unset, .unset, .unset, .unset, .unset, .unset] [(.int (p3.toInt8.toInt32)), (.int (1 : Int32)), (.ref b53)])) rfl rfl (hb hby at_33)
    have R59 : ∀ t, Steps p.tables e below (T59.setTop (mkF m 34 #[.val (.int p1), .val (.int p2), .val (.int p3), .val (.int p4), .val (.int p5), .val (.int (3 : Int32)), .val (.ref b53), .unset, .unset, .unset, .unset, .unset, .unset, .unset, .unset] [])) t → Steps p.tables e below (s₁.setTop (entryFrame m #[(.int p1), (.int p2), (.int p3), (.int p4), (.int p5)] maxLocals)) t := fun t k => R57 t (st59 t k)
    have Z59 : n0 ≤ h59.size := Nat.le_trans Z56 (Keep.of_wr W59).1
    have K59 : Keep h0 h59 [] := K56.wr W59 (Or.inr sz_b53)
    have N59 := Fr.snoc X59 N56 g_b53
    have V59 : Arv Z h59 b53 k53 .byte (3 : Int32) [(.int (nar .byte (p2.toInt8.toInt32))), (.int (nar .byte (p3.toInt8.toInt32))), (.int (0 : Int32))] (.int (0 : Int32)) := Arv.set Ar58 q58 S58 N58' H58 G58 (fits_nar_byte _) W59 1 rfl (Nat.le_of_ble_eq_true rfl)
    have R60 : ∀ t, Steps p.tables e below (T59.setTop (mkF m 45 #[.val (.int p1), .val (.int p2), .val (.int p3), .val (.int p4), .val (.int p5), .val (.int (3 : Int32)), .val (.ref b53), .unset, .unset, .unset, .unset, .unset, .unset, .unset, .unset] [(.int (p4.toInt8.toInt32)), (.int (2 : Int32)), (.ref b53)])) t → Steps p.tables e below (s₁.setTop (entryFrame m #[(.int p1), (.int p2), (.int p3), (.int p4), (.int p5)] maxLocals)) t := by
      intro t k
      refine R59 t ?_
      show Steps p.tables e below (T59.setTop (mkF m 34 #[.val (.int p1), .val (.int p2), .val (.int p3), .val (.int p4), .val (.int p5), .val (.int (3 : Int32)), .val (.ref b53), .unset, .unset, .unset, .unset, .unset, .unset, .unset, .unset] [])) _
      refine XS.iload X59.here hx rfl (hb hby at_34) rfl ?_
      show Steps p.tables e below (T59.setTop (mkF m 36 #[.val (.int p1), .val (.int p2), .val (.int p3), .val (.int p4), .val (.int p5), .val (.int (3 : Int32)), .val (.ref b53), .unset, .unset, .unset, .unset, .unset, .unset, .unset, .unset] [(.int (3 : Int32))])) _
      refine XS.iconst X59.here hx rfl (hb hby at_36) ?_
      show Steps p.tables e below (T59.setTop (mkF m 37 #[.val (.int p1), .val (.int p2), .val (.int p3), .val (.int p4), .val (.int p5), .val (.int (3 : Int32)), .val (.ref b53), .unset, .unset, .unset, .unset, .unset, .unset, .unset, .unset] [(.int (2 : Int32)), (.int (3 : Int32))])) _
      refine XS.icmpNo X59.here hx rfl (hb hby at_37) rfl (tlt (by decide : ((2 : Int32) < (3 : Int32)))).2.2.2 ?_
      show Steps p.tables e below (T59.setTop (mkF m 40 #[.val (.int p1), .val (.int p2), .val (.int p3), .val (.int p4), .val (.int p5), .val (.int (3 : Int32)), .val (.ref b53), .unset, .unset, .unset, .unset, .unset, .unset, .unset, .unset] [])) _
      refine XS.aload X59.here hx rfl (hb hby at_40) rfl rfl ?_
      show Steps p.tables e below (T59.setTop (mkF m 42 #[.val (.int p1), .val (.int p2), .val (.int p3), .val (.int p4), .val (.int p5), .val (.int (3 : Int32)), .val (.ref b53), .unset, .unset, .unset, .unset, .unset, .unset, .unset, .unset] [(.ref b53)])) _
      refine XS.iconst X59.here hx rfl (hb hby at_42) ?_
      show Steps p.tables e below (T59.setTop (mkF m 43 #[.val (.int p1), .val (.int p2), .val (.int p3), .val (.int p4), .val (.int p5), .val (.int (3 : Int32)), .val (.ref b53), .unset, .unset, .unset, .unset, .unset, .unset, .unset, .unset] [(.int (2 : Int32)), (.ref b53)])) _
      refine XS.iloadN X59.here hx rfl (hb hby at_43) rfl ?_
      show Steps p.tables e below (T59.setTop (mkF m 44 #[.val (.int p1), .val (.int p2), .val (.int p3), .val (.int p4), .val (.int p5), .val (.int (3 : Int32)), .val (.ref b53), .unset, .unset, .unset, .unset, .unset, .unset, .unset, .unset] [(.int p4), (.int (2 : Int32)), (.ref b53)])) _
      refine XS.i2b X59.here hx rfl (hb hby at_44) rfl ?_
      exact k
    obtain ⟨cl61, Ar61, q61, S61, N61', H61, G61⟩ := id V59
    have hin61 : ¬ ((2 : Int32) < 0 ∨ cl61.slots.size ≤ ((2 : Int32)).toNatClampNeg) := inb_of S61 ⟨by decide, by decide⟩
    obtain ⟨T62, h62, X62, e62, W62, st62⟩ := stB X59 hx hZ e59 Ar61 (j := (2 : Int32)) hin61 (g := (mkF m 45 #[.val (.int p1), .val (.int p2), .val (.int p3), .val (.int p4), .val (.int p5), .val (.int (3 : Int32)), .val (.ref b53), .unset, .unset, .unset, .unset, .unset, .unset, .unset, .unset] [(.int (p4.toInt8.toInt32)), (.int (2 : Int32)), (.ref b53)])) rfl rfl (hb hby at_45)
    have R62 : ∀ t, Steps p.tables e below (T62.setTop (mkF m 46 #[.val (.int p1), .val (.int p2), .val (.int p3), .val (.int p4), .val (.int p5), .val (.int (3 : Int32)), .val (.ref b53), .unset, .unset, .unset, .unset, .unset, .unset, .unset, .unset] [])) t → Steps p.tables e below (s₁.setTop (entryFrame m #[(.int p1), (.int p2), (.int p3), (.int p4), (.int p5)] maxLocals)) t := fun t k => R60 t (st62 t k)
    have Z62 : n0 ≤ h62.size := Nat.le_trans Z59 (Keep.of_wr W62).1
    have K62 : Keep h0 h62 [] := K59.wr W62 (Or.inr sz_b53)
    have N62 := Fr.snoc X62 N59 g_b53
    have V62 : Arv Z h62 b53 k53 .byte (3 : Int32) [(.int (nar .byte (p2.toInt8.toInt32))), (.int (nar .byte (p3.toInt8.toInt32))), (.int (nar .byte (p4.toInt8.toInt32)))] (.int (0 : Int32)) := Arv.set Ar61 q61 S61 N61' H61 G61 (fits_nar_byte _) W62 2 rfl (Nat.le_of_ble_eq_true rfl)
    obtain ⟨T63, h63, X63, e63, E63, A63, D63, -, st63⟩ := newO X62 hx hZ hown (hw _ (List.mem_of_getElem? (i := 1) rfl)) (hw _ (List.mem_of_getElem? (i := 2) rfl)) (hw _ (List.mem_of_getElem? (i := 3) rfl)) e62 (g := (mkF m 46 #[.val (.int p1), .val (.int p2), .val (.int p3), .val (.int p4), .val (.int p5), .val (.int (3 : Int32)), .val (.ref b53), .unset, .unset, .unset, .unset, .unset, .unset, .unset, .unset] [])) rfl (hb hby at_46) (by decide) (by decide)
    obtain ⟨b63, g63⟩ : ∃ z, z = h62.size := ⟨_, rfl⟩
    rw [← g63] at A63 D63 st63
    have R63 : ∀ t, Steps p.tables e below (T63.setTop (mkF m 49 #[.val (.int p1), .val (.int p2), .val (.int p3), .val (.int p4), .val (.int p5), .val (.int (3 : Int32)), .val (.ref b53), .unset, .unset, .unset, .unset, .unset, .unset, .unset, .unset] [(.ref b63)])) t → Steps p.tables e below (s₁.setTop (entryFrame m #[(.int p1), (.int p2), (.int p3), (.int p4), (.int p5)] maxLocals)) t := fun t k => R62 t (st63 t k)
    have ne_b53_b63 : b53 ≠ b63 := Nat.ne_of_lt (Nat.lt_of_lt_of_le V62.lt (Nat.le_of_eq g63.symm))
    have g_b63 : n0 ≤ b63 := Nat.le_trans Z62 (Nat.le_of_eq g63.symm)
    have sz_b63 : h0.size ≤ b63 := Nat.le_trans K62.1 (Nat.le_of_eq g63.symm)
    have Z63 : n0 ≤ h63.size := Nat.le_trans Z62 E63.1
    have K63 : Keep h0 h63 [] := K62.ext E63
    have f64 : Arv Z h63 b53 k53 .byte (3 : Int32) [(.int (nar .byte (p2.toInt8.toInt32))), (.int (nar .byte (p3.toInt8.toInt32))), (.int (nar .byte (p4.toInt8.toInt32)))] (.int (0 : Int32)) := V62.ext E63
    have R65 : ∀ t, Steps p.tables e below (T63.setTop (mkF m 50 #[.val (.int p1), .val (.int p2), .val (.int p3), .val (.int p4), .val (.int p5), .val (.int (3 : Int32)), .val (.ref b53), .unset, .unset, .unset, .unset, .unset, .unset, .unset, .unset] [(.ref b63), (.ref b63)])) t → Steps p.tables e below (s₁.setTop (entryFrame m #[(.int p1), (.int p2), (.int p3), (.int p4), (.int p5)] maxLocals)) t := by
      intro t k
      refine R63 t ?_
      show Steps p.tables e below (T63.setTop (mkF m 49 #[.val (.int p1), .val (.int p2), .val (.int p3), .val (.int p4), .val (.int p5), .val (.int (3 : Int32)), .val (.ref b53), .unset, .unset, .unset, .unset, .unset, .unset, .unset, .unset] [(.ref b63)])) _
      refine XS.dup X63.here hx rfl (hb hby at_49) rfl rfl ?_
      exact k
    obtain ⟨_, _, ⟨T66, L66, k66, n66⟩, -, X66, ⟨Lc66, hQ66, l66, y66, z66⟩, st66⟩ := X63.specialBack hx (y := (⟨"com/example/columnwire/columnwire/codec/ZlibStream", "<init>", "()V"⟩ : MethodName)) rfl hown (mvT hZ (hw _ (List.mem_of_getElem? (i := 4) rfl))) (mvT hZ (hw _ (List.mem_of_getElem? (i := 5) rfl))) (mvT hZ (hw _ (List.mem_of_getElem? (i := 6) rfl))) (by decide) (backOf (W := 1) (rm1 l Z a0 hw [] b63  h63 n0 Z63 ) hZ (hw _ (List.mem_of_getElem? (i := 6) rfl)) (hw _ (List.mem_of_getElem? (i := 3) rfl)) (by decide) (by decide)) (g := (mkF m 50 #[.val (.int p1), .val (.int p2), .val (.int p3), .val (.int p4), .val (.int p5), .val (.int (3 : Int32)), .val (.ref b53), .unset, .unset, .unset, .unset, .unset, .unset, .unset, .unset] [(.ref b63), (.ref b63)])) rfl (by rw [hml]; rfl) (Steps.refl _) (a := b63) (argsL := []) (rest := [(.ref b63)]) (lenOf own_pd0 rfl) rfl (by show 2 * 0 + _ ≤ _; exact Nat.le_of_eq rfl) (hb hby at_50) (fun _ _ => ⟨rfl, e63, (by decide : 2 + 0 ≤ _), (by decide : 3 + 0 ≤ _)⟩)
    dsimp only [Pt.U, Pt.locs, Pt.cells, Pt.slots] at X66 l66 y66 z66 st66 hQ66
    subst l66 y66 z66
    obtain ⟨rfl, Nq66, eq66⟩ := hQ66
    have N66 := Fr.app N62 Nq66
    have R66 : ∀ t, Steps p.tables e below (T66.setTop (mkF m 53 #[.val (.int p1), .val (.int p2), .val (.int p3), .val (.int p4), .val (.int p5), .val (.int (3 : Int32)), .val (.ref b53), .unset, .unset, .unset, .unset, .unset, .unset, .unset, .unset] [(.ref b63)])) t → Steps p.tables e below (s₁.setTop (entryFrame m #[(.int p1), (.int p2), (.int p3), (.int p4), (.int p5)] maxLocals)) t := fun t k => R65 t (st66.trans k)
    have R67 : ∀ t, Steps p.tables e below (T66.setTop (mkF m 57 #[.val (.int p1), .val (.int p2), .val (.int p3), .val (.int p4), .val (.int p5), .val (.int (3 : Int32)), .val (.ref b53), .unset, .unset, .unset, .unset, .unset, .unset, .unset, .unset] [(.int p5), (.ref b53), (.ref b63)])) t → Steps p.tables e below (s₁.setTop (entryFrame m #[(.int p1), (.int p2), (.int p3), (.int p4), (.int p5)] maxLocals)) t := by
      intro t k
      refine R66 t ?_
      show Steps p.tables e below (T66.setTop (mkF m 53 #[.val (.int p1), .val (.int p2), .val (.int p3), .val (.int p4), .val (.int p5), .val (.int (3 : Int32)), .val (.ref b53), .unset, .unset, .unset, .unset, .unset, .unset, .unset, .unset] [(.ref b63)])) _
      refine XS.aload X66.here hx rfl (hb hby at_53) rfl rfl ?_
      show Steps p.tables e below (T66.setTop (mkF m 55 #[.val (.int p1), .val (.int p2), .val (.int p3), .val (.int p4), .val (.int p5), .val (.int (3 : Int32)), .val (.ref b53), .unset, .unset, .unset, .unset, .unset, .unset, .unset, .unset] [(.ref b53), (.ref b63)])) _
      refine XS.iload X66.here hx rfl (hb hby at_55) rfl ?_
      exact k
    obtain ⟨cq68, kq68, q68a, q68b, q68c⟩ := isOf hZ eq66 A63
    obtain ⟨_, _, ⟨T68, L68, k68, n68⟩, -, X68, ⟨Lc68, hQ68, l68, y68, z68⟩, st68⟩ := X66.virtualBack hx (y := (⟨"com/example/columnwire/columnwire/codec/ZlibStream", "beginsAsBlock", "([BI)Z"⟩ : MethodName)) (z := (⟨"com/example/columnwire/columnwire/codec/ZlibStream", "beginsAsBlock", "([BI)Z"⟩ : MethodName)) hown (mvT hZ (hw _ (List.mem_of_getElem? (i := 10) rfl))) (mvT hZ (hw _ (List.mem_of_getElem? (i := 11) rfl))) (notFace_of_selects (args := #[]) (mvT hZ (hw _ (List.mem_of_getElem? (i := 13) rfl)))) (mvT hZ (hw _ (List.mem_of_getElem? (i := 13) rfl))) (mvT hZ (hw _ (List.mem_of_getElem? (i := 12) rfl))) (by decide) (backOf (W := 0) (rm3 l Z a0 hw [] b63 b53 p5 k53 (3 : Int32) [(.int (nar .byte (p2.toInt8.toInt32))), (.int (nar .byte (p3.toInt8.toInt32))), (.int (nar .byte (p4.toInt8.toInt32)))] (.int (0 : Int32)) (nar .byte (p2.toInt8.toInt32)) (nar .byte (p3.toInt8.toInt32)) h63 n0 Z63 f64 (by decide) (by decide) (by decide) rfl rfl) hZ (hw _ (List.mem_of_getElem? (i := 14) rfl)) (hw _ (List.mem_of_getElem? (i := 3) rfl)) (by decide) (by decide)) q68a q68c (g := (mkF m 57 #[.val (.int p1), .val (.int p2), .val (.int p3), .val (.int p4), .val (.int p5), .val (.int (3 : Int32)), .val (.ref b53), .unset, .unset, .unset, .unset, .unset, .unset, .unset, .unset] [(.int p5), (.ref b53), (.ref b63)])) rfl (by rw [hml]; rfl) (Steps.refl _) (argsL := [(.ref b53), (.int p5)]) (rest := []) (lenOf own_pd1 rfl) rfl (by show 2 * 0 + _ ≤ _; exact Nat.le_of_eq rfl) (hb hby at_57) (fun _ _ => ⟨rfl, eq66, (by decide : 2 + 0 ≤ _), (by decide : 3 + 0 ≤ _)⟩)
    dsimp only [Pt.U, Pt.locs, Pt.cells, Pt.slots] at X68 l68 y68 z68 st68 hQ68
    subst l68 y68 z68
    obtain ⟨rfl, Nq68, eq68⟩ := hQ68
    have N68 := Fr.app N66 Nq68
    have R68 : ∀ t, Steps p.tables e below (T68.setTop (mkF m 60 #[.val (.int p1), .val (.int p2), .val (.int p3), .val (.int p4), .val (.int p5), .val (.int (3 : Int32)), .val (.ref b53), .unset, .unset, .unset, .unset, .unset, .unset, .unset, .unset] [(.int (own_beg (nar .byte (p2.toInt8.toInt32)) (nar .byte (p3.toInt8.toInt32))))])) t → Steps p.tables e below (s₁.setTop (entryFrame m #[(.int p1), (.int p2), (.int p3), (.int p4), (.int p5)] maxLocals)) t := fun t k => R67 t (st68.trans k)
    obtain ⟨got, hgot⟩ : ∃ z : Int32, z = (own_beg (nar .byte (p2.toInt8.toInt32)) (nar .byte (p3.toInt8.toInt32))) := ⟨_, rfl⟩
    have R69 : ∀ t, Steps p.tables e below (T68.setTop (mkF m 60 #[.val (.int p1), .val (.int p2), .val (.int p3), .val (.int p4), .val (.int p5), .val (.int (3 : Int32)), .val (.ref b53), .unset, .unset, .unset, .unset, .unset, .unset, .unset, .unset] [(.int got)])) t → Steps p.tables e below (s₁.setTop (entryFrame m #[(.int p1), (.int p2), (.int p3), (.int p4), (.int p5)] maxLocals)) t := by rw [hgot]; exact R68
    have R70 : ∀ t, Steps p.tables e below (T68.setTop (mkF m 88 #[.val (.int p1), .val (.int p2), .val (.int p3), .val (.int p4), .val (.int p5), .val (.int (3 : Int32)), .val (.ref b53), .val (.int got), .unset, .val (.int (p2 &&& (255 : Int32))), .val (.int (p3 &&& (255 : Int32))), .unset, .unset, .unset, .unset] [])) t → Steps p.tables e below (s₁.setTop (entryFrame m #[(.int p1), (.int p2), (.int p3), (.int p4), (.int p5)] maxLocals)) t := by
      intro t k
      refine R69 t ?_
      show Steps p.tables e below (T68.setTop (mkF m 60 #[.val (.int p1), .val (.int p2), .val (.int p3), .val (.int p4), .val (.int p5), .val (.int (3 : Int32)), .val (.ref b53), .unset, .unset, .unset, .unset, .unset, .unset, .unset, .unset] [(.int got)])) _
      refine XS.istore X68.here hx rfl (hb hby at_60) rfl (l' := #[.val (.int p1), .val (.int p2), .val (.int p3), .val (.int p4), .val (.int p5), .val (.int (3 : Int32)), .val (.ref b53), .val (.int got), .unset, .unset, .unset, .unset, .unset, .unset, .unset]) rfl ?_
      show Steps p.tables e below (T68.setTop (mkF m 62 #[.val (.int p1), .val (.int p2), .val (.int p3), .val (.int p4), .val (.int p5), .val (.int (3 : Int32)), .val (.ref b53), .val (.int got), .unset, .unset, .unset, .unset, .unset, .unset, .unset] [])) _
      refine XS.iload X68.here hx rfl (hb hby at_62) rfl ?_
      show Steps p.tables e below (T68.setTop (mkF m 64 #[.val (.int p1), .val (.int p2), .val (.int p3), .val (.int p4), .val (.int p5), .val (.int (3 : Int32)), .val (.ref b53), .val (.int got), .unset, .unset, .unset, .unset, .unset, .unset, .unset] [(.int (3 : Int32))])) _
      refine XS.iconst X68.here hx rfl (hb hby at_64) ?_
      show Steps p.tables e below (T68.setTop (mkF m 65 #[.val (.int p1), .val (.int p2), .val (.int p3), .val (.int p4), .val (.int p5), .val (.int (3 : Int32)), .val (.ref b53), .val (.int got), .unset, .unset, .unset, .unset, .unset, .unset, .unset] [(.int (2 : Int32)), (.int (3 : Int32))])) _
      refine XS.icmpYes X68.here hx rfl (pc0 := 65) (pc' := 74) rfl (hb hby at_65) rfl (flt (by decide : ¬ ((3 : Int32) < (2 : Int32)))).2.1 (by decide) (by decide) ?_
      show Steps p.tables e below (T68.setTop (mkF m 74 #[.val (.int p1), .val (.int p2), .val (.int p3), .val (.int p4), .val (.int p5), .val (.int (3 : Int32)), .val (.ref b53), .val (.int got), .unset, .unset, .unset, .unset, .unset, .unset, .unset] [])) _
      refine XS.iloadN X68.here hx rfl (hb hby at_74) rfl ?_
      show Steps p.tables e below (T68.setTop (mkF m 75 #[.val (.int p1), .val (.int p2), .val (.int p3), .val (.int p4), .val (.int p5), .val (.int (3 : Int32)), .val (.ref b53), .val (.int got), .unset, .unset, .unset, .unset, .unset, .unset, .unset] [(.int p2)])) _
      refine XS.sipush X68.here hx rfl (hb hby at_75) ?_
      show Steps p.tables e below (T68.setTop (mkF m 78 #[.val (.int p1), .val (.int p2), .val (.int p3), .val (.int p4), .val (.int p5), .val (.int (3 : Int32)), .val (.ref b53), .val (.int got), .unset, .unset, .unset, .unset, .unset, .unset, .unset] [(.int (255 : Int32)), (.int p2)])) _
      refine XS.iand X68.here hx rfl (hb hby at_78) rfl ?_
      show Steps p.tables e below (T68.setTop (mkF m 79 #[.val (.int p1), .val (.int p2), .val (.int p3), .val (.int p4), .val (.int p5), .val (.int (3 : Int32)), .val (.ref b53), .val (.int got), .unset, .unset, .unset, .unset, .unset, .unset, .unset] [(.int (p2 &&& (255 : Int32)))])) _
      refine XS.istore X68.here hx rfl (hb hby at_79) rfl (l' := #[.val (.int p1), .val (.int p2), .val (.int p3), .val (.int p4), .val (.int p5), .val (.int (3 : Int32)), .val (.ref b53), .val (.int got), .unset, .val (.int (p2 &&& (255 : Int32))), .unset, .unset, .unset, .unset, .unset]) rfl ?_
      show Steps p.tables e below (T68.setTop (mkF m 81 #[.val (.int p1), .val (.int p2), .val (.int p3), .val (.int p4), .val (.int p5), .val (.int (3 : Int32)), .val (.ref b53), .val (.int got), .unset, .val (.int (p2 &&& (255 : Int32))), .unset, .unset, .unset, .unset, .unset] [])) _
      refine XS.iloadN X68.here hx rfl (hb hby at_81) rfl ?_
      show Steps p.tables e below (T68.setTop (mkF m 82 #[.val (.int p1), .val (.int p2), .val (.int p3), .val (.int p4), .val (.int p5), .val (.int (3 : Int32)), .val (.ref b53), .val (.int got), .unset, .val (.int (p2 &&& (255 : Int32))), .unset, .unset, .unset, .unset, .unset] [(.int p3)])) _
      refine XS.sipush X68.here hx rfl (hb hby at_82) ?_
      show Steps p.tables e below (T68.setTop (mkF m 85 #[.val (.int p1), .val (.int p2), .val (.int p3), .val (.int p4), .val (.int p5), .val (.int (3 : Int32)), .val (.ref b53), .val (.int got), .unset, .val (.int (p2 &&& (255 : Int32))), .unset, .unset, .unset, .unset, .unset] [(.int (255 : Int32)), (.int p3)])) _
      refine XS.iand X68.here hx rfl (hb hby at_85) rfl ?_
      show Steps p.tables e below (T68.setTop (mkF m 86 #[.val (.int p1), .val (.int p2), .val (.int p3), .val (.int p4), .val (.int p5), .val (.int (3 : Int32)), .val (.ref b53), .val (.int got), .unset, .val (.int (p2 &&& (255 : Int32))), .unset, .unset, .unset, .unset, .unset] [(.int (p3 &&& (255 : Int32)))])) _
      refine XS.istore X68.here hx rfl (hb hby at_86) rfl (l' := #[.val (.int p1), .val (.int p2), .val (.int p3), .val (.int p4), .val (.int p5), .val (.int (3 : Int32)), .val (.ref b53), .val (.int got), .unset, .val (.int (p2 &&& (255 : Int32))), .val (.int (p3 &&& (255 : Int32))), .unset, .unset, .unset, .unset]) rfl ?_
      exact k
    obtain ⟨dfl, hdfl, R71⟩ : ∃ (dfl : Int32), dfl = (if ((p2 &&& (255 : Int32)) &&& (15 : Int32)) = (8 : Int32) then (1 : Int32) else (0 : Int32)) ∧ (∀ t, Steps p.tables e below (T68.setTop (mkF m 103 #[.val (.int p1), .val (.int p2), .val (.int p3), .val (.int p4), .val (.int p5), .val (.int (3 : Int32)), .val (.ref b53), .val (.int got), .unset, .val (.int (p2 &&& (255 : Int32))), .val (.int (p3 &&& (255 : Int32))), .unset, .unset, .unset, .unset] [(.int dfl)])) t → Steps p.tables e below (s₁.setTop (entryFrame m #[(.int p1), (.int p2), (.int p3), (.int p4), (.int p5)] maxLocals)) t) := by
      by_cases hc95_0 : ((p2 &&& (255 : Int32)) &&& (15 : Int32)) = (8 : Int32)
      · refine ⟨(1 : Int32), (by simp only [if_pos hc95_0]), ?_⟩
        intro t k
        refine R70 t ?_
        show Steps p.tables e below (T68.setTop (mkF m 88 #[.val (.int p1), .val (.int p2), .val (.int p3), .val (.int p4), .val (.int p5), .val (.int (3 : Int32)), .val (.ref b53), .val (.int got), .unset, .val (.int (p2 &&& (255 : Int32))), .val (.int (p3 &&& (255 : Int32))), .unset, .unset, .unset, .unset] [])) _
        refine XS.iload X68.here hx rfl (hb hby at_88) rfl ?_
        show Steps p.tables e below (T68.setTop (mkF m 90 #[.val (.int p1), .val (.int p2), .val (.int p3), .val (.int p4), .val (.int p5), .val (.int (3 : Int32)), .val (.ref b53), .val (.int got), .unset, .val (.int (p2 &&& (255 : Int32))), .val (.int (p3 &&& (255 : Int32))), .unset, .unset, .unset, .unset] [(.int (p2 &&& (255 : Int32)))])) _
        refine XS.bipush X68.here hx rfl (hb hby at_90) ?_
        show Steps p.tables e below (T68.setTop (mkF m 92 #[.val (.int p1), .val (.int p2), .val (.int p3), .val (.int p4), .val (.int p5), .val (.int (3 : Int32)), .val (.ref b53), .val (.int got), .unset, .val (.int (p2 &&& (255 : Int32))), .val (.int (p3 &&& (255 : Int32))), .unset, .unset, .unset, .unset] [(.int (15 : Int32)), (.int (p2 &&& (255 : Int32)))])) _
        refine XS.iand X68.here hx rfl (hb hby at_92) rfl ?_
        show Steps p.tables e below (T68.setTop (mkF m 93 #[.val (.int p1), .val (.int p2), .val (.int p3), .val (.int p4), .val (.int p5), .val (.int (3 : Int32)), .val (.ref b53), .val (.int got), .unset, .val (.int (p2 &&& (255 : Int32))), .val (.int (p3 &&& (255 : Int32))), .unset, .unset, .unset, .unset] [(.int ((p2 &&& (255 : Int32)) &&& (15 : Int32)))])) _
        refine XS.bipush X68.here hx rfl (hb hby at_93) ?_
        show Steps p.tables e below (T68.setTop (mkF m 95 #[.val (.int p1), .val (.int p2), .val (.int p3), .val (.int p4), .val (.int p5), .val (.int (3 : Int32)), .val (.ref b53), .val (.int got), .unset, .val (.int (p2 &&& (255 : Int32))), .val (.int (p3 &&& (255 : Int32))), .unset, .unset, .unset, .unset] [(.int (8 : Int32)), (.int ((p2 &&& (255 : Int32)) &&& (15 : Int32)))])) _
        refine XS.icmpNo X68.here hx rfl (hb hby at_95) rfl (teq hc95_0).2 ?_
        show Steps p.tables e below (T68.setTop (mkF m 98 #[.val (.int p1), .val (.int p2), .val (.int p3), .val (.int p4), .val (.int p5), .val (.int (3 : Int32)), .val (.ref b53), .val (.int got), .unset, .val (.int (p2 &&& (255 : Int32))), .val (.int (p3 &&& (255 : Int32))), .unset, .unset, .unset, .unset] [])) _
        refine XS.iconst X68.here hx rfl (hb hby at_98) ?_
        show Steps p.tables e below (T68.setTop (mkF m 99 #[.val (.int p1), .val (.int p2), .val (.int p3), .val (.int p4), .val (.int p5), .val (.int (3 : Int32)), .val (.ref b53), .val (.int got), .unset, .val (.int (p2 &&& (255 : Int32))), .val (.int (p3 &&& (255 : Int32))), .unset, .unset, .unset, .unset] [(.int (1 : Int32))])) _
        refine XS.goto X68.here hx rfl (pc0 := 99) (pc' := 103) rfl (hb hby at_99) (by decide) (by decide) ?_
        exact k
      · refine ⟨(0 : Int32), (by simp only [if_neg hc95_0]), ?_⟩
        intro t k
        refine R70 t ?_
        show Steps p.tables e below (T68.setTop (mkF m 88 #[.val (.int p1), .val (.int p2), .val (.int p3), .val (.int p4), .val (.int p5), .val (.int (3 : Int32)), .val (.ref b53), .val (.int got), .unset, .val (.int (p2 &&& (255 : Int32))), .val (.int (p3 &&& (255 : Int32))), .unset, .unset, .unset, .unset] [])) _
        refine XS.iload X68.here hx rfl (hb hby at_88) rfl ?_
        show Steps p.tables e below (T68.setTop (mkF m 90 #[.val (.int p1), .val (.int p2), .val (.int p3), .val (.int p4), .val (.int p5), .val (.int (3 : Int32)), .val (.ref b53), .val (.int got), .unset, .val (.int (p2 &&& (255 : Int32))), .val (.int (p3 &&& (255 : Int32))), .unset, .unset, .unset, .unset] [(.int (p2 &&& (255 : Int32)))])) _
        refine XS.bipush X68.here hx rfl (hb hby at_90) ?_
        show Steps p.tables e below (T68.setTop (mkF m 92 #[.val (.int p1), .val (.int p2), .val (.int p3), .val (.int p4), .val (.int p5), .val (.int (3 : Int32)), .val (.ref b53), .val (.int got), .unset, .val (.int (p2 &&& (255 : Int32))), .val (.int (p3 &&& (255 : Int32))), .unset, .unset, .unset, .unset] [(.int (15 : Int32)), (.int (p2 &&& (255 : Int32)))])) _
        refine XS.iand X68.here hx rfl (hb hby at_92) rfl ?_
        show Steps p.tables e below (T68.setTop (mkF m 93 #[.val (.int p1), .val (.int p2), .val (.int p3), .val (.int p4), .val (.int p5), .val (.int (3 : Int32)), .val (.ref b53), .val (.int got), .unset, .val (.int (p2 &&& (255 : Int32))), .val (.int (p3 &&& (255 : Int32))), .unset, .unset, .unset, .unset] [(.int ((p2 &&& (255 : Int32)) &&& (15 : Int32)))])) _
        refine XS.bipush X68.here hx rfl (hb hby at_93) ?_
        show Steps p.tables e below (T68.setTop (mkF m 95 #[.val (.int p1), .val (.int p2), .val (.int p3), .val (.int p4), .val (.int p5), .val (.int (3 : Int32)), .val (.ref b53), .val (.int got), .unset, .val (.int (p2 &&& (255 : Int32))), .val (.int (p3 &&& (255 : Int32))), .unset, .unset, .unset, .unset] [(.int (8 : Int32)), (.int ((p2 &&& (255 : Int32)) &&& (15 : Int32)))])) _
        refine XS.icmpYes X68.here hx rfl (pc0 := 95) (pc' := 102) rfl (hb hby at_95) rfl (feq hc95_0).2 (by decide) (by decide) ?_
        show Steps p.tables e below (T68.setTop (mkF m 102 #[.val (.int p1), .val (.int p2), .val (.int p3), .val (.int p4), .val (.int p5), .val (.int (3 : Int32)), .val (.ref b53), .val (.int got), .unset, .val (.int (p2 &&& (255 : Int32))), .val (.int (p3 &&& (255 : Int32))), .unset, .unset, .unset, .unset] [])) _
        refine XS.iconst X68.here hx rfl (hb hby at_102) ?_
        exact k
    obtain ⟨win, hwin, R72⟩ : ∃ (win : Int32), win = (if (p2 &&& (255 : Int32)) < (128 : Int32) then (1 : Int32) else (0 : Int32)) ∧ (∀ t, Steps p.tables e below (T68.setTop (mkF m 118 #[.val (.int p1), .val (.int p2), .val (.int p3), .val (.int p4), .val (.int p5), .val (.int (3 : Int32)), .val (.ref b53), .val (.int got), .unset, .val (.int (p2 &&& (255 : Int32))), .val (.int (p3 &&& (255 : Int32))), .val (.int dfl), .unset, .unset, .unset] [(.int win)])) t → Steps p.tables e below (s₁.setTop (entryFrame m #[(.int p1), (.int p2), (.int p3), (.int p4), (.int p5)] maxLocals)) t) := by
      by_cases hc110_0 : (p2 &&& (255 : Int32)) < (128 : Int32)
      · refine ⟨(1 : Int32), (by simp only [if_pos hc110_0]), ?_⟩
        intro t k
        refine R71 t ?_
        show Steps p.tables e below (T68.setTop (mkF m 103 #[.val (.int p1), .val (.int p2), .val (.int p3), .val (.int p4), .val (.int p5), .val (.int (3 : Int32)), .val (.ref b53), .val (.int got), .unset, .val (.int (p2 &&& (255 : Int32))), .val (.int (p3 &&& (255 : Int32))), .unset, .unset, .unset, .unset] [(.int dfl)])) _
        refine XS.istore X68.here hx rfl (hb hby at_103) rfl (l' := #[.val (.int p1), .val (.int p2), .val (.int p3), .val (.int p4), .val (.int p5), .val (.int (3 : Int32)), .val (.ref b53), .val (.int got), .unset, .val (.int (p2 &&& (255 : Int32))), .val (.int (p3 &&& (255 : Int32))), .val (.int dfl), .unset, .unset, .unset]) rfl ?_
        show Steps p.tables e below (T68.setTop (mkF m 105 #[.val (.int p1), .val (.int p2), .val (.int p3), .val (.int p4), .val (.int p5), .val (.int (3 : Int32)), .val (.ref b53), .val (.int got), .unset, .val (.int (p2 &&& (255 : Int32))), .val (.int (p3 &&& (255 : Int32))), .val (.int dfl), .unset, .unset, .unset] [])) _
        refine XS.iload X68.here hx rfl (hb hby at_105) rfl ?_
        show Steps p.tables e below (T68.setTop (mkF m 107 #[.val (.int p1), .val (.int p2), .val (.int p3), .val (.int p4), .val (.int p5), .val (.int (3 : Int32)), .val (.ref b53), .val (.int got), .unset, .val (.int (p2 &&& (255 : Int32))), .val (.int (p3 &&& (255 : Int32))), .val (.int dfl), .unset, .unset, .unset] [(.int (p2 &&& (255 : Int32)))])) _
        refine XS.sipush X68.here hx rfl (hb hby at_107) ?_
        show Steps p.tables e below (T68.setTop (mkF m 110 #[.val (.int p1), .val (.int p2), .val (.int p3), .val (.int p4), .val (.int p5), .val (.int (3 : Int32)), .val (.ref b53), .val (.int got), .unset, .val (.int (p2 &&& (255 : Int32))), .val (.int (p3 &&& (255 : Int32))), .val (.int dfl), .unset, .unset, .unset] [(.int (128 : Int32)), (.int (p2 &&& (255 : Int32)))])) _
        refine XS.icmpNo X68.here hx rfl (hb hby at_110) rfl (tlt hc110_0).2.1 ?_
        show Steps p.tables e below (T68.setTop (mkF m 113 #[.val (.int p1), .val (.int p2), .val (.int p3), .val (.int p4), .val (.int p5), .val (.int (3 : Int32)), .val (.ref b53), .val (.int got), .unset, .val (.int (p2 &&& (255 : Int32))), .val (.int (p3 &&& (255 : Int32))), .val (.int dfl), .unset, .unset, .unset] [])) _
        refine XS.iconst X68.here hx rfl (hb hby at_113) ?_
        show Steps p.tables e below (T68.setTop (mkF m 114 #[.val (.int p1), .val (.int p2), .val (.int p3), .val (.int p4), .val (.int p5), .val (.int (3 : Int32)), .val (.ref b53), .val (.int got), .unset, .val (.int (p2 &&& (255 : Int32))), .val (.int (p3 &&& (255 : Int32))), .val (.int dfl), .unset, .unset, .unset] [(.int (1 : Int32))])) _
        refine XS.goto X68.here hx rfl (pc0 := 114) (pc' := 118) rfl (hb hby at_114) (by decide) (by decide) ?_
        exact k
      · refine ⟨(0 : Int32), (by simp only [if_neg hc110_0]), ?_⟩
        intro t k
        refine R71 t ?_
        show Steps p.tables e below (T68.setTop (mkF m 103 #[.val (.int p1), .val (.int p2), .val (.int p3), .val (.int p4), .val (.int p5), .val (.int (3 : Int32)), .val (.ref b53), .val (.int got), .unset, .val (.int (p2 &&& (255 : Int32))), .val (.int (p3 &&& (255 : Int32))), .unset, .unset, .unset, .unset] [(.int dfl)])) _
        refine XS.istore X68.here hx rfl (hb hby at_103) rfl (l' := #[.val (.int p1), .val (.int p2), .val (.int p3), .val (.int p4), .val (.int p5), .val (.int (3 : Int32)), .val (.ref b53), .val (.int got), .unset, .val (.int (p2 &&& (255 : Int32))), .val (.int (p3 &&& (255 : Int32))), .val (.int dfl), .unset, .unset, .unset]) rfl ?_
        show Steps p.tables e below (T68.setTop (mkF m 105 #[.val (.int p1), .val (.int p2), .val (.int p3), .val (.int p4), .val (.int p5), .val (.int (3 : Int32)), .val (.ref b53), .val (.int got), .unset, .val (.int (p2 &&& (255 : Int32))), .val (.int (p3 &&& (255 : Int32))), .val (.int dfl), .unset, .unset, .unset] [])) _
        refine XS.iload X68.here hx rfl (hb hby at_105) rfl ?_
        show Steps p.tables e below (T68.setTop (mkF m 107 #[.val (.int p1), .val (.int p2), .val (.int p3), .val (.int p4), .val (.int p5), .val (.int (3 : Int32)), .val (.ref b53), .val (.int got), .unset, .val (.int (p2 &&& (255 : Int32))), .val (.int (p3 &&& (255 : Int32))), .val (.int dfl), .unset, .unset, .unset] [(.int (p2 &&& (255 : Int32)))])) _
        refine XS.sipush X68.here hx rfl (hb hby at_107) ?_
        show Steps p.tables e below (T68.setTop (mkF m 110 #[.val (.int p1), .val (.int p2), .val (.int p3), .val (.int p4), .val (.int p5), .val (.int (3 : Int32)), .val (.ref b53), .val (.int got), .unset, .val (.int (p2 &&& (255 : Int32))), .val (.int (p3 &&& (255 : Int32))), .val (.int dfl), .unset, .unset, .unset] [(.int (128 : Int32)), (.int (p2 &&& (255 : Int32)))])) _
        refine XS.icmpYes X68.here hx rfl (pc0 := 110) (pc' := 117) rfl (hb hby at_110) rfl (flt hc110_0).2.1 (by decide) (by decide) ?_
        show Steps p.tables e below (T68.setTop (mkF m 117 #[.val (.int p1), .val (.int p2), .val (.int p3), .val (.int p4), .val (.int p5), .val (.int (3 : Int32)), .val (.ref b53), .val (.int got), .unset, .val (.int (p2 &&& (255 : Int32))), .val (.int (p3 &&& (255 : Int32))), .val (.int dfl), .unset, .unset, .unset] [])) _
        refine XS.iconst X68.here hx rfl (hb hby at_117) ?_
        exact k
    obtain ⟨chk, hchk, R73⟩ : ∃ (chk : Int32), chk = (if ((((p2 &&& (255 : Int32)) * (8 : Int32)) + (p3 &&& (255 : Int32))) % (31 : Int32)) = (0 : Int32) then (1 : Int32) else (0 : Int32)) ∧ (∀ t, Steps p.tables e below (T68.setTop (mkF m 139 #[.val (.int p1), .val (.int p2), .val (.int p3), .val (.int p4), .val (.int p5), .val (.int (3 : Int32)), .val (.ref b53), .val (.int got), .unset, .val (.int (p2 &&& (255 : Int32))), .val (.int (p3 &&& (255 : Int32))), .val (.int dfl), .val (.int win), .unset, .unset] [(.int chk)])) t → Steps p.tables e below (s₁.setTop (entryFrame m #[(.int p1), (.int p2), (.int p3), (.int p4), (.int p5)] maxLocals)) t) := by
      by_cases hc131_0 : ((((p2 &&& (255 : Int32)) * (8 : Int32)) + (p3 &&& (255 : Int32))) % (31 : Int32)) = (0 : Int32)
      · refine ⟨(1 : Int32), (by simp only [if_pos hc131_0]), ?_⟩
        intro t k
        refine R72 t ?_
        show Steps p.tables e below (T68.setTop (mkF m 118 #[.val (.int p1), .val (.int p2), .val (.int p3), .val (.int p4), .val (.int p5), .val (.int (3 : Int32)), .val (.ref b53), .val (.int got), .unset, .val (.int (p2 &&& (255 : Int32))), .val (.int (p3 &&& (255 : Int32))), .val (.int dfl), .unset, .unset, .unset] [(.int win)])) _
        refine XS.istore X68.here hx rfl (hb hby at_118) rfl (l' := #[.val (.int p1), .val (.int p2), .val (.int p3), .val (.int p4), .val (.int p5), .val (.int (3 : Int32)), .val (.ref b53), .val (.int got), .unset, .val (.int (p2 &&& (255 : Int32))), .val (.int (p3 &&& (255 : Int32))), .val (.int dfl), .val (.int win), .unset, .unset]) rfl ?_
        show Steps p.tables e below (T68.setTop (mkF m 120 #[.val (.int p1), .val (.int p2), .val (.int p3), .val (.int p4), .val (.int p5), .val (.int (3 : Int32)), .val (.ref b53), .val (.int got), .unset, .val (.int (p2 &&& (255 : Int32))), .val (.int (p3 &&& (255 : Int32))), .val (.int dfl), .val (.int win), .unset, .unset] [])) _
        refine XS.iload X68.here hx rfl (hb hby at_120) rfl ?_
        show Steps p.tables e below (T68.setTop (mkF m 122 #[.val (.int p1), .val (.int p2), .val (.int p3), .val (.int p4), .val (.int p5), .val (.int (3 : Int32)), .val (.ref b53), .val (.int got), .unset, .val (.int (p2 &&& (255 : Int32))), .val (.int (p3 &&& (255 : Int32))), .val (.int dfl), .val (.int win), .unset, .unset] [(.int (p2 &&& (255 : Int32)))])) _
        refine XS.bipush X68.here hx rfl (hb hby at_122) ?_
        show Steps p.tables e below (T68.setTop (mkF m 124 #[.val (.int p1), .val (.int p2), .val (.int p3), .val (.int p4), .val (.int p5), .val (.int (3 : Int32)), .val (.ref b53), .val (.int got), .unset, .val (.int (p2 &&& (255 : Int32))), .val (.int (p3 &&& (255 : Int32))), .val (.int dfl), .val (.int win), .unset, .unset] [(.int (8 : Int32)), (.int (p2 &&& (255 : Int32)))])) _
        refine XS.imul X68.here hx rfl (hb hby at_124) rfl ?_
        show Steps p.tables e below (T68.setTop (mkF m 125 #[.val (.int p1), .val (.int p2), .val (.int p3), .val (.int p4), .val (.int p5), .val (.int (3 : Int32)), .val (.ref b53), .val (.int got), .unset, .val (.int (p2 &&& (255 : Int32))), .val (.int (p3 &&& (255 : Int32))), .val (.int dfl), .val (.int win), .unset, .unset] [(.int ((p2 &&& (255 : Int32)) * (8 : Int32)))])) _
        refine XS.iload X68.here hx rfl (hb hby at_125) rfl ?_
        show Steps p.tables e below (T68.setTop (mkF m 127 #[.val (.int p1), .val (.int p2), .val (.int p3), .val (.int p4), .val (.int p5), .val (.int (3 : Int32)), .val (.ref b53), .val (.int got), .unset, .val (.int (p2 &&& (255 : Int32))), .val (.int (p3 &&& (255 : Int32))), .val (.int dfl), .val (.int win), .unset, .unset] [(.int (p3 &&& (255 : Int32))), (.int ((p2 &&& (255 : Int32)) * (8 : Int32)))])) _
        refine XS.iadd X68.here hx rfl (hb hby at_127) rfl ?_
        show Steps p.tables e below (T68.setTop (mkF m 128 #[.val (.int p1), .val (.int p2), .val (.int p3), .val (.int p4), .val (.int p5), .val (.int (3 : Int32)), .val (.ref b53), .val (.int got), .unset, .val (.int (p2 &&& (255 : Int32))), .val (.int (p3 &&& (255 : Int32))), .val (.int dfl), .val (.int win), .unset, .unset] [(.int (((p2 &&& (255 : Int32)) * (8 : Int32)) + (p3 &&& (255 : Int32))))])) _
        refine XS.bipush X68.here hx rfl (hb hby at_128) ?_
        show Steps p.tables e below (T68.setTop (mkF m 130 #[.val (.int p1), .val (.int p2), .val (.int p3), .val (.int p4), .val (.int p5), .val (.int (3 : Int32)), .val (.ref b53), .val (.int got), .unset, .val (.int (p2 &&& (255 : Int32))), .val (.int (p3 &&& (255 : Int32))), .val (.int dfl), .val (.int win), .unset, .unset] [(.int (31 : Int32)), (.int (((p2 &&& (255 : Int32)) * (8 : Int32)) + (p3 &&& (255 : Int32))))])) _
        refine iremM X68 hx rfl (hb hby at_130) rfl (by decide) ?_
        show Steps p.tables e below (T68.setTop (mkF m 131 #[.val (.int p1), .val (.int p2), .val (.int p3), .val (.int p4), .val (.int p5), .val (.int (3 : Int32)), .val (.ref b53), .val (.int got), .unset, .val (.int (p2 &&& (255 : Int32))), .val (.int (p3 &&& (255 : Int32))), .val (.int dfl), .val (.int win), .unset, .unset] [(.int ((((p2 &&& (255 : Int32)) * (8 : Int32)) + (p3 &&& (255 : Int32))) % (31 : Int32)))])) _
        refine XS.ifNo X68.here hx rfl (hb hby at_131) rfl ((if0 _ _).trans (teq hc131_0).2) ?_
        show Steps p.tables e below (T68.setTop (mkF m 134 #[.val (.int p1), .val (.int p2), .val (.int p3), .val (.int p4), .val (.int p5), .val (.int (3 : Int32)), .val (.ref b53), .val (.int got), .unset, .val (.int (p2 &&& (255 : Int32))), .val (.int (p3 &&& (255 : Int32))), .val (.int dfl), .val (.int win), .unset, .unset] [])) _
        refine XS.iconst X68.here hx rfl (hb hby at_134) ?_
        show Steps p.tables e below (T68.setTop (mkF m 135 #[.val (.int p1), .val (.int p2), .val (.int p3), .val (.int p4), .val (.int p5), .val (.int (3 : Int32)), .val (.ref b53), .val (.int got), .unset, .val (.int (p2 &&& (255 : Int32))), .val (.int (p3 &&& (255 : Int32))), .val (.int dfl), .val (.int win), .unset, .unset] [(.int (1 : Int32))])) _
        refine XS.goto X68.here hx rfl (pc0 := 135) (pc' := 139) rfl (hb hby at_135) (by decide) (by decide) ?_
        exact k
      · refine ⟨(0 : Int32), (by simp only [if_neg hc131_0]), ?_⟩
        intro t k
        refine R72 t ?_
        show Steps p.tables e below (T68.setTop (mkF m 118 #[.val (.int p1), .val (.int p2), .val (.int p3), .val (.int p4), .val (.int p5), .val (.int (3 : Int32)), .val (.ref b53), .val (.int got), .unset, .val (.int (p2 &&& (255 : Int32))), .val (.int (p3 &&& (255 : Int32))), .val (.int dfl), .unset, .unset, .unset] [(.int win)])) _
        refine XS.istore X68.here hx rfl (hb hby at_118) rfl (l' := #[.val (.int p1), .val (.int p2), .val (.int p3), .val (.int p4), .val (.int p5), .val (.int (3 : Int32)), .val (.ref b53), .val (.int got), .unset, .val (.int (p2 &&& (255 : Int32))), .val (.int (p3 &&& (255 : Int32))), .val (.int dfl), .val (.int win), .unset, .unset]) rfl ?_
        show Steps p.tables e below (T68.setTop (mkF m 120 #[.val (.int p1), .val (.int p2), .val (.int p3), .val (.int p4), .val (.int p5), .val (.int (3 : Int32)), .val (.ref b53), .val (.int got), .unset, .val (.int (p2 &&& (255 : Int32))), .val (.int (p3 &&& (255 : Int32))), .val (.int dfl), .val (.int win), .unset, .unset] [])) _
        refine XS.iload X68.here hx rfl (hb hby at_120) rfl ?_
        show Steps p.tables e below (T68.setTop (mkF m 122 #[.val (.int p1), .val (.int p2), .val (.int p3), .val (.int p4), .val (.int p5), .val (.int (3 : Int32)), .val (.ref b53), .val (.int got), .unset, .val (.int (p2 &&& (255 : Int32))), .val (.int (p3 &&& (255 : Int32))), .val (.int dfl), .val (.int win), .unset, .unset] [(.int (p2 &&& (255 : Int32)))])) _
        refine XS.bipush X68.here hx rfl (hb hby at_122) ?_
        show Steps p.tables e below (T68.setTop (mkF m 124 #[.val (.int p1), .val (.int p2), .val (.int p3), .val (.int p4), .val (.int p5), .val (.int (3 : Int32)), .val (.ref b53), .val (.int got), .unset, .val (.int (p2 &&& (255 : Int32))), .val (.int (p3 &&& (255 : Int32))), .val (.int dfl), .val (.int win), .unset, .unset] [(.int (8 : Int32)), (.int (p2 &&& (255 : Int32)))])) _
        refine XS.imul X68.here hx rfl (hb hby at_124) rfl ?_
        show Steps p.tables e below (T68.setTop (mkF m 125 #[.val (.int p1), .val (.int p2), .val (.int p3), .val (.int p4), .val (.int p5), .val (.int (3 : Int32)), .val (.ref b53), .val (.int got), .unset, .val (.int (p2 &&& (255 : Int32))), .val (.int (p3 &&& (255 : Int32))), .val (.int dfl), .val (.int win), .unset, .unset] [(.int ((p2 &&& (255 : Int32)) * (8 : Int32)))])) _
        refine XS.iload X68.here hx rfl (hb hby at_125) rfl ?_
        show Steps p.tables e below (T68.setTop (mkF m 127 #[.val (.int p1), .val (.int p2), .val (.int p3), .val (.int p4), .val (.int p5), .val (.int (3 : Int32)), .val (.ref b53), .val (.int got), .unset, .val (.int (p2 &&& (255 : Int32))), .val (.int (p3 &&& (255 : Int32))), .val (.int dfl), .val (.int win), .unset, .unset] [(.int (p3 &&& (255 : Int32))), (.int ((p2 &&& (255 : Int32)) * (8 : Int32)))])) _
        refine XS.iadd X68.here hx rfl (hb hby at_127) rfl ?_
        show Steps p.tables e below (T68.setTop (mkF m 128 #[.val (.int p1), .val (.int p2), .val (.int p3), .val (.int p4), .val (.int p5), .val (.int (3 : Int32)), .val (.ref b53), .val (.int got), .unset, .val (.int (p2 &&& (255 : Int32))), .val (.int (p3 &&& (255 : Int32))), .val (.int dfl), .val (.int win), .unset, .unset] [(.int (((p2 &&& (255 : Int32)) * (8 : Int32)) + (p3 &&& (255 : Int32))))])) _
        refine XS.bipush X68.here hx rfl (hb hby at_128) ?_
        show Steps p.tables e below (T68.setTop (mkF m 130 #[.val (.int p1), .val (.int p2), .val (.int p3), .val (.int p4), .val (.int p5), .val (.int (3 : Int32)), .val (.ref b53), .val (.int got), .unset, .val (.int (p2 &&& (255 : Int32))), .val (.int (p3 &&& (255 : Int32))), .val (.int dfl), .val (.int win), .unset, .unset] [(.int (31 : Int32)), (.int (((p2 &&& (255 : Int32)) * (8 : Int32)) + (p3 &&& (255 : Int32))))])) _
        refine iremM X68 hx rfl (hb hby at_130) rfl (by decide) ?_
        show Steps p.tables e below (T68.setTop (mkF m 131 #[.val (.int p1), .val (.int p2), .val (.int p3), .val (.int p4), .val (.int p5), .val (.int (3 : Int32)), .val (.ref b53), .val (.int got), .unset, .val (.int (p2 &&& (255 : Int32))), .val (.int (p3 &&& (255 : Int32))), .val (.int dfl), .val (.int win), .unset, .unset] [(.int ((((p2 &&& (255 : Int32)) * (8 : Int32)) + (p3 &&& (255 : Int32))) % (31 : Int32)))])) _
        refine XS.ifYes X68.here hx rfl (pc0 := 131) (pc' := 138) rfl (hb hby at_131) rfl ((if0 _ _).trans (feq hc131_0).2) (by decide) (by decide) ?_
        show Steps p.tables e below (T68.setTop (mkF m 138 #[.val (.int p1), .val (.int p2), .val (.int p3), .val (.int p4), .val (.int p5), .val (.int (3 : Int32)), .val (.ref b53), .val (.int got), .unset, .val (.int (p2 &&& (255 : Int32))), .val (.int (p3 &&& (255 : Int32))), .val (.int dfl), .val (.int win), .unset, .unset] [])) _
        refine XS.iconst X68.here hx rfl (hb hby at_138) ?_
        exact k
    obtain ⟨nod, hnod, R74⟩ : ∃ (nod : Int32), nod = (if (((p3 &&& (255 : Int32)) >>> ((5 : Int32) &&& 31)) &&& (1 : Int32)) = (0 : Int32) then (1 : Int32) else (0 : Int32)) ∧ (∀ t, Steps p.tables e below (T68.setTop (mkF m 155 #[.val (.int p1), .val (.int p2), .val (.int p3), .val (.int p4), .val (.int p5), .val (.int (3 : Int32)), .val (.ref b53), .val (.int got), .unset, .val (.int (p2 &&& (255 : Int32))), .val (.int (p3 &&& (255 : Int32))), .val (.int dfl), .val (.int win), .val (.int chk), .unset] [(.int nod)])) t → Steps p.tables e below (s₁.setTop (entryFrame m #[(.int p1), (.int p2), (.int p3), (.int p4), (.int p5)] maxLocals)) t) := by
      by_cases hc147_0 : (((p3 &&& (255 : Int32)) >>> ((5 : Int32) &&& 31)) &&& (1 : Int32)) = (0 : Int32)
      · refine ⟨(1 : Int32), (by simp only [if_pos hc147_0]), ?_⟩
        intro t k
        refine R73 t ?_
        show Steps p.tables e below (T68.setTop (mkF m 139 #[.val (.int p1), .val (.int p2), .val (.int p3), .val (.int p4), .val (.int p5), .val (.int (3 : Int32)), .val (.ref b53), .val (.int got), .unset, .val (.int (p2 &&& (255 : Int32))), .val (.int (p3 &&& (255 : Int32))), .val (.int dfl), .val (.int win), .unset, .unset] [(.int chk)])) _
        refine XS.istore X68.here hx rfl (hb hby at_139) rfl (l' := #[.val (.int p1), .val (.int p2), .val (.int p3), .val (.int p4), .val (.int p5), .val (.int (3 : Int32)), .val (.ref b53), .val (.int got), .unset, .val (.int (p2 &&& (255 : Int32))), .val (.int (p3 &&& (255 : Int32))), .val (.int dfl), .val (.int win), .val (.int chk), .unset]) rfl ?_
        show Steps p.tables e below (T68.setTop (mkF m 141 #[.val (.int p1), .val (.int p2), .val (.int p3), .val (.int p4), .val (.int p5), .val (.int (3 : Int32)), .val (.ref b53), .val (.int got), .unset, .val (.int (p2 &&& (255 : Int32))), .val (.int (p3 &&& (255 : Int32))), .val (.int dfl), .val (.int win), .val (.int chk), .unset] [])) _
        refine XS.iload X68.here hx rfl (hb hby at_141) rfl ?_
        show Steps p.tables e below (T68.setTop (mkF m 143 #[.val (.int p1), .val (.int p2), .val (.int p3), .val (.int p4), .val (.int p5), .val (.int (3 : Int32)), .val (.ref b53), .val (.int got), .unset, .val (.int (p2 &&& (255 : Int32))), .val (.int (p3 &&& (255 : Int32))), .val (.int dfl), .val (.int win), .val (.int chk), .unset] [(.int (p3 &&& (255 : Int32)))])) _
        refine XS.iconst X68.here hx rfl (hb hby at_143) ?_
        show Steps p.tables e below (T68.setTop (mkF m 144 #[.val (.int p1), .val (.int p2), .val (.int p3), .val (.int p4), .val (.int p5), .val (.int (3 : Int32)), .val (.ref b53), .val (.int got), .unset, .val (.int (p2 &&& (255 : Int32))), .val (.int (p3 &&& (255 : Int32))), .val (.int dfl), .val (.int win), .val (.int chk), .unset] [(.int (5 : Int32)), (.int (p3 &&& (255 : Int32)))])) _
        refine XS.ishr X68.here hx rfl (hb hby at_144) rfl ?_
        show Steps p.tables e below (T68.setTop (mkF m 145 #[.val (.int p1), .val (.int p2), .val (.int p3), .val (.int p4), .val (.int p5), .val (.int (3 : Int32)), .val (.ref b53), .val (.int got), .unset, .val (.int (p2 &&& (255 : Int32))), .val (.int (p3 &&& (255 : Int32))), .val (.int dfl), .val (.int win), .val (.int chk), .unset] [(.int ((p3 &&& (255 : Int32)) >>> ((5 : Int32) &&& 31)))])) _
        refine XS.iconst X68.here hx rfl (hb hby at_145) ?_
        show Steps p.tables e below (T68.setTop (mkF m 146 #[.val (.int p1), .val (.int p2), .val (.int p3), .val (.int p4), .val (.int p5), .val (.int (3 : Int32)), .val (.ref b53), .val (.int got), .unset, .val (.int (p2 &&& (255 : Int32))), .val (.int (p3 &&& (255 : Int32))), .val (.int dfl), .val (.int win), .val (.int chk), .unset] [(.int (1 : Int32)), (.int ((p3 &&& (255 : Int32)) >>> ((5 : Int32) &&& 31)))])) _
        refine XS.iand X68.here hx rfl (hb hby at_146) rfl ?_
        show Steps p.tables e below (T68.setTop (mkF m 147 #[.val (.int p1), .val (.int p2), .val (.int p3), .val (.int p4), .val (.int p5), .val (.int (3 : Int32)), .val (.ref b53), .val (.int got), .unset, .val (.int (p2 &&& (255 : Int32))), .val (.int (p3 &&& (255 : Int32))), .val (.int dfl), .val (.int win), .val (.int chk), .unset] [(.int (((p3 &&& (255 : Int32)) >>> ((5 : Int32) &&& 31)) &&& (1 : Int32)))])) _
        refine XS.ifNo X68.here hx rfl (hb hby at_147) rfl ((if0 _ _).trans (teq hc147_0).2) ?_
        show Steps p.tables e below (T68.setTop (mkF m 150 #[.val (.int p1), .val (.int p2), .val (.int p3), .val (.int p4), .val (.int p5), .val (.int (3 : Int32)), .val (.ref b53), .val (.int got), .unset, .val (.int (p2 &&& (255 : Int32))), .val (.int (p3 &&& (255 : Int32))), .val (.int dfl), .val (.int win), .val (.int chk), .unset] [])) _
        refine XS.iconst X68.here hx rfl (hb hby at_150) ?_
        show Steps p.tables e below (T68.setTop (mkF m 151 #[.val (.int p1), .val (.int p2), .val (.int p3), .val (.int p4), .val (.int p5), .val (.int (3 : Int32)), .val (.ref b53), .val (.int got), .unset, .val (.int (p2 &&& (255 : Int32))), .val (.int (p3 &&& (255 : Int32))), .val (.int dfl), .val (.int win), .val (.int chk), .unset] [(.int (1 : Int32))])) _
        refine XS.goto X68.here hx rfl (pc0 := 151) (pc' := 155) rfl (hb hby at_151) (by decide) (by decide) ?_
        exact k
      · refine ⟨(0 : Int32), (by simp only [if_neg hc147_0]), ?_⟩
        intro t k
        refine R73 t ?_
        show Steps p.tables e below (T68.setTop (mkF m 139 #[.val (.int p1), .val (.int p2), .val (.int p3), .val (.int p4), .val (.int p5), .val (.int (3 : Int32)), .val (.ref b53), .val (.int got), .unset, .val (.int (p2 &&& (255 : Int32))), .val (.int (p3 &&& (255 : Int32))), .val (.int dfl), .val (.int win), .unset, .unset] [(.int chk)])) _
        refine XS.istore X68.here hx rfl (hb hby at_139) rfl (l' := #[.val (.int p1), .val (.int p2), .val (.int p3), .val (.int p4), .val (.int p5), .val (.int (3 : Int32)), .val (.ref b53), .val (.int got), .unset, .val (.int (p2 &&& (255 : Int32))), .val (.int (p3 &&& (255 : Int32))), .val (.int dfl), .val (.int win), .val (.int chk), .unset]) rfl ?_
        show Steps p.tables e below (T68.setTop (mkF m 141 #[.val (.int p1), .val (.int p2), .val (.int p3), .val (.int p4), .val (.int p5), .val (.int (3 : Int32)), .val (.ref b53), .val (.int got), .unset, .val (.int (p2 &&& (255 : Int32))), .val (.int (p3 &&& (255 : Int32))), .val (.int dfl), .val (.int win), .val (.int chk), .unset] [])) _
        refine XS.iload X68.here hx rfl (hb hby at_141) rfl ?_
        show Steps p.tables e below (T68.setTop (mkF m 143 #[.val (.int p1), .val (.int p2), .val (.int p3), .val (.int p4), .val (.int p5), .val (.int (3 : Int32)), .val (.ref b53), .val (.int got), .unset, .val (.int (p2 &&& (255 : Int32))), .val (.int (p3 &&& (255 : Int32))), .val (.int dfl), .val (.int win), .val (.int chk), .unset] [(.int (p3 &&& (255 : Int32)))])) _
        refine XS.iconst X68.here hx rfl (hb hby at_143) ?_
        show Steps p.tables e below (T68.setTop (mkF m 144 #[.val (.int p1), .val (.int p2), .val (.int p3), .val (.int p4), .val (.int p5), .val (.int (3 : Int32)), .val (.ref b53), .val (.int got), .unset, .val (.int (p2 &&& (255 : Int32))), .val (.int (p3 &&& (255 : Int32))), .val (.int dfl), .val (.int win), .val (.int chk), .unset] [(.int (5 : Int32)), (.int (p3 &&& (255 : Int32)))])) _
        refine XS.ishr X68.here hx rfl (hb hby at_144) rfl ?_
        show Steps p.tables e below (T68.setTop (mkF m 145 #[.val (.int p1), .val (.int p2), .val (.int p3), .val (.int p4), .val (.int p5), .val (.int (3 : Int32)), .val (.ref b53), .val (.int got), .unset, .val (.int (p2 &&& (255 : Int32))), .val (.int (p3 &&& (255 : Int32))), .val (.int dfl), .val (.int win), .val (.int chk), .unset] [(.int ((p3 &&& (255 : Int32)) >>> ((5 : Int32) &&& 31)))])) _
        refine XS.iconst X68.here hx rfl (hb hby at_145) ?_
        show Steps p.tables e below (T68.setTop (mkF m 146 #[.val (.int p1), .val (.int p2), .val (.int p3), .val (.int p4), .val (.int p5), .val (.int (3 : Int32)), .val (.ref b53), .val (.int got), .unset, .val (.int (p2 &&& (255 : Int32))), .val (.int (p3 &&& (255 : Int32))), .val (.int dfl), .val (.int win), .val (.int chk), .unset] [(.int (1 : Int32)), (.int ((p3 &&& (255 : Int32)) >>> ((5 : Int32) &&& 31)))])) _
        refine XS.iand X68.here hx rfl (hb hby at_146) rfl ?_
        show Steps p.tables e below (T68.setTop (mkF m 147 #[.val (.int p1), .val (.int p2), .val (.int p3), .val (.int p4), .val (.int p5), .val (.int (3 : Int32)), .val (.ref b53), .val (.int got), .unset, .val (.int (p2 &&& (255 : Int32))), .val (.int (p3 &&& (255 : Int32))), .val (.int dfl), .val (.int win), .val (.int chk), .unset] [(.int (((p3 &&& (255 : Int32)) >>> ((5 : Int32) &&& 31)) &&& (1 : Int32)))])) _
        refine XS.ifYes X68.here hx rfl (pc0 := 147) (pc' := 154) rfl (hb hby at_147) rfl ((if0 _ _).trans (feq hc147_0).2) (by decide) (by decide) ?_
        show Steps p.tables e below (T68.setTop (mkF m 154 #[.val (.int p1), .val (.int p2), .val (.int p3), .val (.int p4), .val (.int p5), .val (.int (3 : Int32)), .val (.ref b53), .val (.int got), .unset, .val (.int (p2 &&& (255 : Int32))), .val (.int (p3 &&& (255 : Int32))), .val (.int dfl), .val (.int win), .val (.int chk), .unset] [])) _
        refine XS.iconst X68.here hx rfl (hb hby at_154) ?_
        exact k
    obtain ⟨ex, hex, R75⟩ : ∃ (ex : Int32), ex = (if dfl = (0 : Int32) then (0 : Int32) else (if win = (0 : Int32) then (0 : Int32) else (if chk = (0 : Int32) then (0 : Int32) else (if nod = (0 : Int32) then (0 : Int32) else (1 : Int32))))) ∧ (∀ t, Steps p.tables e below (T68.setTop (mkF m 182 #[.val (.int p1), .val (.int p2), .val (.int p3), .val (.int p4), .val (.int p5), .val (.int (3 : Int32)), .val (.ref b53), .val (.int got), .unset, .val (.int (p2 &&& (255 : Int32))), .val (.int (p3 &&& (255 : Int32))), .val (.int dfl), .val (.int win), .val (.int chk), .val (.int nod)] [(.int ex)])) t → Steps p.tables e below (s₁.setTop (entryFrame m #[(.int p1), (.int p2), (.int p3), (.int p4), (.int p5)] maxLocals)) t) := by
      by_cases hc159_0 : dfl = (0 : Int32)
      · refine ⟨(0 : Int32), (by simp only [if_pos hc159_0]), ?_⟩
        intro t k
        refine R74 t ?_
        show Steps p.tables e below (T68.setTop (mkF m 155 #[.val (.int p1), .val (.int p2), .val (.int p3), .val (.int p4), .val (.int p5), .val (.int (3 : Int32)), .val (.ref b53), .val (.int got), .unset, .val (.int (p2 &&& (255 : Int32))), .val (.int (p3 &&& (255 : Int32))), .val (.int dfl), .val (.int win), .val (.int chk), .unset] [(.int nod)])) _
        refine XS.istore X68.here hx rfl (hb hby at_155) rfl (l' := #[.val (.int p1), .val (.int p2), .val (.int p3), .val (.int p4), .val (.int p5), .val (.int (3 : Int32)), .val (.ref b53), .val (.int got), .unset, .val (.int (p2 &&& (255 : Int32))), .val (.int (p3 &&& (255 : Int32))), .val (.int dfl), .val (.int win), .val (.int chk), .val (.int nod)]) rfl ?_
        show Steps p.tables e below (T68.setTop (mkF m 157 #[.val (.int p1), .val (.int p2), .val (.int p3), .val (.int p4), .val (.int p5), .val (.int (3 : Int32)), .val (.ref b53), .val (.int got), .unset, .val (.int (p2 &&& (255 : Int32))), .val (.int (p3 &&& (255 : Int32))), .val (.int dfl), .val (.int win), .val (.int chk), .val (.int nod)] [])) _
        refine XS.iload X68.here hx rfl (hb hby at_157) rfl ?_
        show Steps p.tables e below (T68.setTop (mkF m 159 #[.val (.int p1), .val (.int p2), .val (.int p3), .val (.int p4), .val (.int p5), .val (.int (3 : Int32)), .val (.ref b53), .val (.int got), .unset, .val (.int (p2 &&& (255 : Int32))), .val (.int (p3 &&& (255 : Int32))), .val (.int dfl), .val (.int win), .val (.int chk), .val (.int nod)] [(.int dfl)])) _
        refine XS.ifYes X68.here hx rfl (pc0 := 159) (pc' := 181) rfl (hb hby at_159) rfl ((if0 _ _).trans (teq hc159_0).1) (by decide) (by decide) ?_
        show Steps p.tables e below (T68.setTop (mkF m 181 #[.val (.int p1), .val (.int p2), .val (.int p3), .val (.int p4), .val (.int p5), .val (.int (3 : Int32)), .val (.ref b53), .val (.int got), .unset, .val (.int (p2 &&& (255 : Int32))), .val (.int (p3 &&& (255 : Int32))), .val (.int dfl), .val (.int win), .val (.int chk), .val (.int nod)] [])) _
        refine XS.iconst X68.here hx rfl (hb hby at_181) ?_
        exact k
      · by_cases hc164_1 : win = (0 : Int32)
        · refine ⟨(0 : Int32), (by simp only [if_neg hc159_0, if_pos hc164_1]), ?_⟩
          intro t k
          refine R74 t ?_
          show Steps p.tables e below (T68.setTop (mkF m 155 #[.val (.int p1), .val (.int p2), .val (.int p3), .val (.int p4), .val (.int p5), .val (.int (3 : Int32)), .val (.ref b53), .val (.int got), .unset, .val (.int (p2 &&& (255 : Int32))), .val (.int (p3 &&& (255 : Int32))), .val (.int dfl), .val (.int win), .val (.int chk), .unset] [(.int nod)])) _
          refine XS.istore X68.here hx rfl (hb hby at_155) rfl (l' := #[.val (.int p1), .val (.int p2), .val (.int p3), .val (.int p4), .val (.int p5), .val (.int (3 : Int32)), .val (.ref b53), .val (.int got), .unset, .val (.int (p2 &&& (255 : Int32))), .val (.int (p3 &&& (255 : Int32))), .val (.int dfl), .val (.int win), .val (.int chk), .val (.int nod)]) rfl ?_
          show Steps p.tables e below (T68.setTop (mkF m 157 #[.val (.int p1), .val (.int p2), .val (.int p3), .val (.int p4), .val (.int p5), .val (.int (3 : Int32)), .val (.ref b53), .val (.int got), .unset, .val (.int (p2 &&& (255 : Int32))), .val (.int (p3 &&& (255 : Int32))), .val (.int dfl), .val (.int win), .val (.int chk), .val (.int nod)] [])) _
          refine XS.iload X68.here hx rfl (hb hby at_157) rfl ?_
          show Steps p.tables e below (T68.setTop (mkF m 159 #[.val (.int p1), .val (.int p2), .val (.int p3), .val (.int p4), .val (.int p5), .val (.int (3 : Int32)), .val (.ref b53), .val (.int got), .unset, .val (.int (p2 &&& (255 : Int32))), .val (.int (p3 &&& (255 : Int32))), .val (.int dfl), .val (.int win), .val (.int chk), .val (.int nod)] [(.int dfl)])) _
          refine XS.ifNo X68.here hx rfl (hb hby at_159) rfl ((if0 _ _).trans (feq hc159_0).1) ?_
          show Steps p.tables e below (T68.setTop (mkF m 162 #[.val (.int p1), .val (.int p2), .val (.int p3), .val (.int p4), .val (.int p5), .val (.int (3 : Int32)), .val (.ref b53), .val (.int got), .unset, .val (.int (p2 &&& (255 : Int32))), .val (.int (p3 &&& (255 : Int32))), .val (.int dfl), .val (.int win), .val (.int chk), .val (.int nod)] [])) _
          refine XS.iload X68.here hx rfl (hb hby at_162) rfl ?_
          show Steps p.tables e below (T68.setTop (mkF m 164 #[.val (.int p1), .val (.int p2), .val (.int p3), .val (.int p4), .val (.int p5), .val (.int (3 : Int32)), .val (.ref b53), .val (.int got), .unset, .val (.int (p2 &&& (255 : Int32))), .val (.int (p3 &&& (255 : Int32))), .val (.int dfl), .val (.int win), .val (.int chk), .val (.int nod)] [(.int win)])) _
          refine XS.ifYes X68.here hx rfl (pc0 := 164) (pc' := 181) rfl (hb hby at_164) rfl ((if0 _ _).trans (teq hc164_1).1) (by decide) (by decide) ?_
          show Steps p.tables e below (T68.setTop (mkF m 181 #[.val (.int p1), .val (.int p2), .val (.int p3), .val (.int p4), .val (.int p5), .val (.int (3 : Int32)), .val (.ref b53), .val (.int got), .unset, .val (.int (p2 &&& (255 : Int32))), .val (.int (p3 &&& (255 : Int32))), .val (.int dfl), .val (.int win), .val (.int chk), .val (.int nod)] [])) _
          refine XS.iconst X68.here hx rfl (hb hby at_181) ?_
          exact k
        · by_cases hc169_2 : chk = (0 : Int32)
          · refine ⟨(0 : Int32), (by simp only [if_neg hc159_0, if_neg hc164_1, if_pos hc169_2]), ?_⟩
            intro t k
            refine R74 t ?_
            show Steps p.tables e below (T68.setTop (mkF m 155 #[.val (.int p1), .val (.int p2), .val (.int p3), .val (.int p4), .val (.int p5), .val (.int (3 : Int32)), .val (.ref b53), .val (.int got), .unset, .val (.int (p2 &&& (255 : Int32))), .val (.int (p3 &&& (255 : Int32))), .val (.int dfl), .val (.int win), .val (.int chk), .unset] [(.int nod)])) _
            refine XS.istore X68.here hx rfl (hb hby at_155) rfl (l' := #[.val (.int p1), .val (.int p2), .val (.int p3), .val (.int p4), .val (.int p5), .val (.int (3 : Int32)), .val (.ref b53), .val (.int got), .unset, .val (.int (p2 &&& (255 : Int32))), .val (.int (p3 &&& (255 : Int32))), .val (.int dfl), .val (.int win), .val (.int chk), .val (.int nod)]) rfl ?_
            show Steps p.tables e below (T68.setTop (mkF m 157 #[.val (.int p1), .val (.int p2), .val (.int p3), .val (.int p4), .val (.int p5), .val (.int (3 : Int32)), .val (.ref b53), .val (.int got), .unset, .val (.int (p2 &&& (255 : Int32))), .val (.int (p3 &&& (255 : Int32))), .val (.int dfl), .val (.int win), .val (.int chk), .val (.int nod)] [])) _
            refine XS.iload X68.here hx rfl (hb hby at_157) rfl ?_
            show Steps p.tables e below (T68.setTop (mkF m 159 #[.val (.int p1), .val (.int p2), .val (.int p3), .val (.int p4), .val (.int p5), .val (.int (3 : Int32)), .val (.ref b53), .val (.int got), .unset, .val (.int (p2 &&& (255 : Int32))), .val (.int (p3 &&& (255 : Int32))), .val (.int dfl), .val (.int win), .val (.int chk), .val (.int nod)] [(.int dfl)])) _
            refine XS.ifNo X68.here hx rfl (hb hby at_159) rfl ((if0 _ _).trans (feq hc159_0).1) ?_
            show Steps p.tables e below (T68.setTop (mkF m 162 #[.val (.int p1), .val (.int p2), .val (.int p3), .val (.int p4), .val (.int p5), .val (.int (3 : Int32)), .val (.ref b53), .val (.int got), .unset, .val (.int (p2 &&& (255 : Int32))), .val (.int (p3 &&& (255 : Int32))), .val (.int dfl), .val (.int win), .val (.int chk), .val (.int nod)] [])) _
            refine XS.iload X68.here hx rfl (hb hby at_162) rfl ?_
            show Steps p.tables e below (T68.setTop (mkF m 164 #[.val (.int p1), .val (.int p2), .val (.int p3), .val (.int p4), .val (.int p5), .val (.int (3 : Int32)), .val (.ref b53), .val (.int got), .unset, .val (.int (p2 &&& (255 : Int32))), .val (.int (p3 &&& (255 : Int32))), .val (.int dfl), .val (.int win), .val (.int chk), .val (.int nod)] [(.int win)])) _
            refine XS.ifNo X68.here hx rfl (hb hby at_164) rfl ((if0 _ _).trans (feq hc164_1).1) ?_
            show Steps p.tables e below (T68.setTop (mkF m 167 #[.val (.int p1), .val (.int p2), .val (.int p3), .val (.int p4), .val (.int p5), .val (.int (3 : Int32)), .val (.ref b53), .val (.int got), .unset, .val (.int (p2 &&& (255 : Int32))), .val (.int (p3 &&& (255 : Int32))), .val (.int dfl), .val (.int win), .val (.int chk), .val (.int nod)] [])) _
            refine XS.iload X68.here hx rfl (hb hby at_167) rfl ?_
            show Steps p.tables e below (T68.setTop (mkF m 169 #[.val (.int p1), .val (.int p2), .val (.int p3), .val (.int p4), .val (.int p5), .val (.int (3 : Int32)), .val (.ref b53), .val (.int got), .unset, .val (.int (p2 &&& (255 : Int32))), .val (.int (p3 &&& (255 : Int32))), .val (.int dfl), .val (.int win), .val (.int chk), .val (.int nod)] [(.int chk)])) _
            refine XS.ifYes X68.here hx rfl (pc0 := 169) (pc' := 181) rfl (hb hby at_169) rfl ((if0 _ _).trans (teq hc169_2).1) (by decide) (by decide) ?_
            show Steps p.tables e below (T68.setTop (mkF m 181 #[.val (.int p1), .val (.int p2), .val (.int p3), .val (.int p4), .val (.int p5), .val (.int (3 : Int32)), .val (.ref b53), .val (.int got), .unset, .val (.int (p2 &&& (255 : Int32))), .val (.int (p3 &&& (255 : Int32))), .val (.int dfl), .val (.int win), .val (.int chk), .val (.int nod)] [])) _
            refine XS.iconst X68.here hx rfl (hb hby at_181) ?_
            exact k
          · by_cases hc174_3 : nod = (0 : Int32)
            · refine ⟨(0 : Int32), (by simp only [if_neg hc159_0, if_neg hc164_1, if_neg hc169_2, if_pos hc174_3]), ?_⟩
              intro t k
              refine R74 t ?_
              show Steps p.tables e below (T68.setTop (mkF m 155 #[.val (.int p1), .val (.int p2), .val (.int p3), .val (.int p4), .val (.int p5), .val (.int (3 : Int32)), .val (.ref b53), .val (.int got), .unset, .val (.int (p2 &&& (255 : Int32))), .val (.int (p3 &&& (255 : Int32))), .val (.int dfl), .val (.int win), .val (.int chk), .unset] [(.int nod)])) _
              refine XS.istore X68.here hx rfl (hb hby at_155) rfl (l' := #[.val (.int p1), .val (.int p2), .val (.int p3), .val (.int p4), .val (.int p5), .val (.int (3 : Int32)), .val (.ref b53), .val (.int got), .unset, .val (.int (p2 &&& (255 : Int32))), .val (.int (p3 &&& (255 : Int32))), .val (.int dfl), .val (.int win), .val (.int chk), .val (.int nod)]) rfl ?_
              show Steps p.tables e below (T68.setTop (mkF m 157 #[.val (.int p1), .val (.int p2), .val (.int p3), .val (.int p4), .val (.int p5), .val (.int (3 : Int32)), .val (.ref b53), .val (.int got), .unset, .val (.int (p2 &&& (255 : Int32))), .val (.int (p3 &&& (255 : Int32))), .val (.int dfl), .val (.int win), .val (.int chk), .val (.int nod)] [])) _
              refine XS.iload X68.here hx rfl (hb hby at_157) rfl ?_
              show Steps p.tables e below (T68.setTop (mkF m 159 #[.val (.int p1), .val (.int p2), .val (.int p3), .val (.int p4), .val (.int p5), .val (.int (3 : Int32)), .val (.ref b53), .val (.int got), .unset, .val (.int (p2 &&& (255 : Int32))), .val (.int (p3 &&& (255 : Int32))), .val (.int dfl), .val (.int win), .val (.int chk), .val (.int nod)] [(.int dfl)])) _
              refine XS.ifNo X68.here hx rfl (hb hby at_159) rfl ((if0 _ _).trans (feq hc159_0).1) ?_
              show Steps p.tables e below (T68.setTop (mkF m 162 #[.val (.int p1), .val (.int p2), .val (.int p3), .val (.int p4), .val (.int p5), .val (.int (3 : Int32)), .val (.ref b53), .val (.int got), .unset, .val (.int (p2 &&& (255 : Int32))), .val (.int (p3 &&& (255 : Int32))), .val (.int dfl), .val (.int win), .val (.int chk), .val (.int nod)] [])) _
              refine XS.iload X68.here hx rfl (hb hby at_162) rfl ?_
              show Steps p.tables e below (T68.setTop (mkF m 164 #[.val (.int p1), .val (.int p2), .val (.int p3), .val (.int p4), .val (.int p5), .val (.int (3 : Int32)), .val (.ref b53), .val (.int got), .unset, .val (.int (p2 &&& (255 : Int32))), .val (.int (p3 &&& (255 : Int32))), .val (.int dfl), .val (.int win), .val (.int chk), .val (.int nod)] [(.int win)])) _
              refine XS.ifNo X68.here hx rfl (hb hby at_164) rfl ((if0 _ _).trans (feq hc164_1).1) ?_
              show Steps p.tables e below (T68.setTop (mkF m 167 #[.val (.int p1), .val (.int p2), .val (.int p3), .val (.int p4), .val (.int p5), .val (.int (3 : Int32)), .val (.ref b53), .val (.int got), .unset, .val (.int (p2 &&& (255 : Int32))), .val (.int (p3 &&& (255 : Int32))), .val (.int dfl), .val (.int win), .val (.int chk), .val (.int nod)] [])) _
              refine XS.iload X68.here hx rfl (hb hby at_167) rfl ?_
              show Steps p.tables e below (T68.setTop (mkF m 169 #[.val (.int p1), .val (.int p2), .val (.int p3), .val (.int p4), .val (.int p5), .val (.int (3 : Int32)), .val (.ref b53), .val (.int got), .unset, .val (.int (p2 &&& (255 : Int32))), .val (.int (p3 &&& (255 : Int32))), .val (.int dfl), .val (.int win), .val (.int chk), .val (.int nod)] [(.int chk)])) _
              refine XS.ifNo X68.here hx rfl (hb hby at_169) rfl ((if0 _ _).trans (feq hc169_2).1) ?_
              show Steps p.tables e below (T68.setTop (mkF m 172 #[.val (.int p1), .val (.int p2), .val (.int p3), .val (.int p4), .val (.int p5), .val (.int (3 : Int32)), .val (.ref b53), .val (.int got), .unset, .val (.int (p2 &&& (255 : Int32))), .val (.int (p3 &&& (255 : Int32))), .val (.int dfl), .val (.int win), .val (.int chk), .val (.int nod)] [])) _
              refine XS.iload X68.here hx rfl (hb hby at_172) rfl ?_
              show Steps p.tables e below (T68.setTop (mkF m 174 #[.val (.int p1), .val (.int p2), .val (.int p3), .val (.int p4), .val (.int p5), .val (.int (3 : Int32)), .val (.ref b53), .val (.int got), .unset, .val (.int (p2 &&& (255 : Int32))), .val (.int (p3 &&& (255 : Int32))), .val (.int dfl), .val (.int win), .val (.int chk), .val (.int nod)] [(.int nod)])) _
              refine XS.ifYes X68.here hx rfl (pc0 := 174) (pc' := 181) rfl (hb hby at_174) rfl ((if0 _ _).trans (teq hc174_3).1) (by decide) (by decide) ?_
              show Steps p.tables e below (T68.setTop (mkF m 181 #[.val (.int p1), .val (.int p2), .val (.int p3), .val (.int p4), .val (.int p5), .val (.int (3 : Int32)), .val (.ref b53), .val (.int got), .unset, .val (.int (p2 &&& (255 : Int32))), .val (.int (p3 &&& (255 : Int32))), .val (.int dfl), .val (.int win), .val (.int chk), .val (.int nod)] [])) _
              refine XS.iconst X68.here hx rfl (hb hby at_181) ?_
              exact k
            · refine ⟨(1 : Int32), (by simp only [if_neg hc159_0, if_neg hc164_1, if_neg hc169_2, if_neg hc174_3]), ?_⟩
              intro t k
              refine R74 t ?_
              show Steps p.tables e below (T68.setTop (mkF m 155 #[.val (.int p1), .val (.int p2), .val (.int p3), .val (.int p4), .val (.int p5), .val (.int (3 : Int32)), .val (.ref b53), .val (.int got), .unset, .val (.int (p2 &&& (255 : Int32))), .val (.int (p3 &&& (255 : Int32))), .val (.int dfl), .val (.int win), .val (.int chk), .unset] [(.int nod)])) _
              refine XS.istore X68.here hx rfl (hb hby at_155) rfl (l' := #[.val (.int p1), .val (.int p2), .val (.int p3), .val (.int p4), .val (.int p5), .val (.int (3 : Int32)), .val (.ref b53), .val (.int got), .unset, .val (.int (p2 &&& (255 : Int32))), .val (.int (p3 &&& (255 : Int32))), .val (.int dfl), .val (.int win), .val (.int chk), .val (.int nod)]) rfl ?_
              show Steps p.tables e below (T68.setTop (mkF m 157 #[.val (.int p1), .val (.int p2), .val (.int p3), .val (.int p4), .val (.int p5), .val (.int (3 : Int32)), .val (.ref b53), .val (.int got), .unset, .val (.int (p2 &&& (255 : Int32))), .val (.int (p3 &&& (255 : Int32))), .val (.int dfl), .val (.int win), .val (.int chk), .val (.int nod)] [])) _
              refine XS.iload X68.here hx rfl (hb hby at_157) rfl ?_
              show Steps p.tables e below (T68.setTop (mkF m 159 #[.val (.int p1), .val (.int p2), .val (.int p3), .val (.int p4), .val (.int p5), .val (.int (3 : Int32)), .val (.ref b53), .val (.int got), .unset, .val (.int (p2 &&& (255 : Int32))), .val (.int (p3 &&& (255 : Int32))), .val (.int dfl), .val (.int win), .val (.int chk), .val (.int nod)] [(.int dfl)])) _
              refine XS.ifNo X68.here hx rfl (hb hby at_159) rfl ((if0 _ _).trans (feq hc159_0).1) ?_
              show Steps p.tables e below (T68.setTop (mkF m 162 #[.val (.int p1), .val (.int p2), .val (.int p3), .val (.int p4), .val (.int p5), .val (.int (3 : Int32)), .val (.ref b53), .val (.int got), .unset, .val (.int (p2 &&& (255 : Int32))), .val (.int (p3 &&& (255 : Int32))), .val (.int dfl), .val (.int win), .val (.int chk), .val (.int nod)] [])) _
              refine XS.iload X68.here hx rfl (hb hby at_162) rfl ?_
              show Steps p.tables e below (T68.setTop (mkF m 164 #[.val (.int p1), .val (.int p2), .val (.int p3), .val (.int p4), .val (.int p5), .val (.int (3 : Int32)), .val (.ref b53), .val (.int got), .unset, .val (.int (p2 &&& (255 : Int32))), .val (.int (p3 &&& (255 : Int32))), .val (.int dfl), .val (.int win), .val (.int chk), .val (.int nod)] [(.int win)])) _
              refine XS.ifNo X68.here hx rfl (hb hby at_164) rfl ((if0 _ _).trans (feq hc164_1).1) ?_
              show Steps p.tables e below (T68.setTop (mkF m 167 #[.val (.int p1), .val (.int p2), .val (.int p3), .val (.int p4), .val (.int p5), .val (.int (3 : Int32)), .val (.ref b53), .val (.int got), .unset, .val (.int (p2 &&& (255 : Int32))), .val (.int (p3 &&& (255 : Int32))), .val (.int dfl), .val (.int win), .val (.int chk), .val (.int nod)] [])) _
              refine XS.iload X68.here hx rfl (hb hby at_167) rfl ?_
              show Steps p.tables e below (T68.setTop (mkF m 169 #[.val (.int p1), .val (.int p2), .val (.int p3), .val (.int p4), .val (.int p5), .val (.int (3 : Int32)), .val (.ref b53), .val (.int got), .unset, .val (.int (p2 &&& (255 : Int32))), .val (.int (p3 &&& (255 : Int32))), .val (.int dfl), .val (.int win), .val (.int chk), .val (.int nod)] [(.int chk)])) _
              refine XS.ifNo X68.here hx rfl (hb hby at_169) rfl ((if0 _ _).trans (feq hc169_2).1) ?_
              show Steps p.tables e below (T68.setTop (mkF m 172 #[.val (.int p1), .val (.int p2), .val (.int p3), .val (.int p4), .val (.int p5), .val (.int (3 : Int32)), .val (.ref b53), .val (.int got), .unset, .val (.int (p2 &&& (255 : Int32))), .val (.int (p3 &&& (255 : Int32))), .val (.int dfl), .val (.int win), .val (.int chk), .val (.int nod)] [])) _
              refine XS.iload X68.here hx rfl (hb hby at_172) rfl ?_
              show Steps p.tables e below (T68.setTop (mkF m 174 #[.val (.int p1), .val (.int p2), .val (.int p3), .val (.int p4), .val (.int p5), .val (.int (3 : Int32)), .val (.ref b53), .val (.int got), .unset, .val (.int (p2 &&& (255 : Int32))), .val (.int (p3 &&& (255 : Int32))), .val (.int dfl), .val (.int win), .val (.int chk), .val (.int nod)] [(.int nod)])) _
              refine XS.ifNo X68.here hx rfl (hb hby at_174) rfl ((if0 _ _).trans (feq hc174_3).1) ?_
              show Steps p.tables e below (T68.setTop (mkF m 177 #[.val (.int p1), .val (.int p2), .val (.int p3), .val (.int p4), .val (.int p5), .val (.int (3 : Int32)), .val (.ref b53), .val (.int got), .unset, .val (.int (p2 &&& (255 : Int32))), .val (.int (p3 &&& (255 : Int32))), .val (.int dfl), .val (.int win), .val (.int chk), .val (.int nod)] [])) _
              refine XS.iconst X68.here hx rfl (hb hby at_177) ?_
              show Steps p.tables e below (T68.setTop (mkF m 178 #[.val (.int p1), .val (.int p2), .val (.int p3), .val (.int p4), .val (.int p5), .val (.int (3 : Int32)), .val (.ref b53), .val (.int got), .unset, .val (.int (p2 &&& (255 : Int32))), .val (.int (p3 &&& (255 : Int32))), .val (.int dfl), .val (.int win), .val (.int chk), .val (.int nod)] [(.int (1 : Int32))])) _
              refine XS.goto X68.here hx rfl (pc0 := 178) (pc' := 182) rfl (hb hby at_178) (by decide) (by decide) ?_
              exact k
    have heq : got = ex := by rw [hgot]; exact own_eq p2 p3 hdfl hwin hchk hnod hex
    have R76 : ∀ t, Steps p.tables e below (T68.setTop (mkF m 196 #[.val (.int p1), .val (.int p2), .val (.int p3), .val (.int p4), .val (.int p5), .val (.int (3 : Int32)), .val (.ref b53), .val (.int got), .val (.int ex), .val (.int (p2 &&& (255 : Int32))), .val (.int (p3 &&& (255 : Int32))), .val (.int dfl), .val (.int win), .val (.int chk), .val (.int nod)] [(.int (1 : Int32))])) t → Steps p.tables e below (s₁.setTop (entryFrame m #[(.int p1), (.int p2), (.int p3), (.int p4), (.int p5)] maxLocals)) t := by
      intro t k
      refine R75 t ?_
      show Steps p.tables e below (T68.setTop (mkF m 182 #[.val (.int p1), .val (.int p2), .val (.int p3), .val (.int p4), .val (.int p5), .val (.int (3 : Int32)), .val (.ref b53), .val (.int got), .unset, .val (.int (p2 &&& (255 : Int32))), .val (.int (p3 &&& (255 : Int32))), .val (.int dfl), .val (.int win), .val (.int chk), .val (.int nod)] [(.int ex)])) _
      refine XS.istore X68.here hx rfl (hb hby at_182) rfl (l' := #[.val (.int p1), .val (.int p2), .val (.int p3), .val (.int p4), .val (.int p5), .val (.int (3 : Int32)), .val (.ref b53), .val (.int got), .val (.int ex), .val (.int (p2 &&& (255 : Int32))), .val (.int (p3 &&& (255 : Int32))), .val (.int dfl), .val (.int win), .val (.int chk), .val (.int nod)]) rfl ?_
      show Steps p.tables e below (T68.setTop (mkF m 184 #[.val (.int p1), .val (.int p2), .val (.int p3), .val (.int p4), .val (.int p5), .val (.int (3 : Int32)), .val (.ref b53), .val (.int got), .val (.int ex), .val (.int (p2 &&& (255 : Int32))), .val (.int (p3 &&& (255 : Int32))), .val (.int dfl), .val (.int win), .val (.int chk), .val (.int nod)] [])) _
      refine XS.iload X68.here hx rfl (hb hby at_184) rfl ?_
      show Steps p.tables e below (T68.setTop (mkF m 186 #[.val (.int p1), .val (.int p2), .val (.int p3), .val (.int p4), .val (.int p5), .val (.int (3 : Int32)), .val (.ref b53), .val (.int got), .val (.int ex), .val (.int (p2 &&& (255 : Int32))), .val (.int (p3 &&& (255 : Int32))), .val (.int dfl), .val (.int win), .val (.int chk), .val (.int nod)] [(.int got)])) _
      refine XS.iload X68.here hx rfl (hb hby at_186) rfl ?_
      show Steps p.tables e below (T68.setTop (mkF m 188 #[.val (.int p1), .val (.int p2), .val (.int p3), .val (.int p4), .val (.int p5), .val (.int (3 : Int32)), .val (.ref b53), .val (.int got), .val (.int ex), .val (.int (p2 &&& (255 : Int32))), .val (.int (p3 &&& (255 : Int32))), .val (.int dfl), .val (.int win), .val (.int chk), .val (.int nod)] [(.int ex), (.int got)])) _
      refine XS.icmpNo X68.here hx rfl (hb hby at_188) rfl (teq heq).2 ?_
      show Steps p.tables e below (T68.setTop (mkF m 191 #[.val (.int p1), .val (.int p2), .val (.int p3), .val (.int p4), .val (.int p5), .val (.int (3 : Int32)), .val (.ref b53), .val (.int got), .val (.int ex), .val (.int (p2 &&& (255 : Int32))), .val (.int (p3 &&& (255 : Int32))), .val (.int dfl), .val (.int win), .val (.int chk), .val (.int nod)] [])) _
      refine XS.iconst X68.here hx rfl (hb hby at_191) ?_
      show Steps p.tables e below (T68.setTop (mkF m 192 #[.val (.int p1), .val (.int p2), .val (.int p3), .val (.int p4), .val (.int p5), .val (.int (3 : Int32)), .val (.ref b53), .val (.int got), .val (.int ex), .val (.int (p2 &&& (255 : Int32))), .val (.int (p3 &&& (255 : Int32))), .val (.int dfl), .val (.int win), .val (.int chk), .val (.int nod)] [(.int (1 : Int32))])) _
      refine XS.goto X68.here hx rfl (pc0 := 192) (pc' := 196) rfl (hb hby at_192) (by decide) (by decide) ?_
      exact k
    obtain ⟨fs, hr, hrun, hended, hW, hsame⟩ := X68.leave (v := some (.int (1 : Int32))) (fun h => by rw [Bd.returns] at h; cases h)
    refine ⟨_, _, R76 _ ?_, hrun, hended, _, _, rfl, ?_, ⟨_, rfl⟩, hW, hsame.mono (by decide) (by decide)⟩
    · exact retN X68 hx (t := .boolean) Bd.returns (by simp) (hb hby at_196) hr
    · show Q_rm0 Z p1 p2 p3 p4 p5 h0 n0 _ T68.heap _
      rw [eq68]
      exact ⟨rfl, N68⟩
set_option maxRecDepth 65536 in
set_option maxHeartbeats 40000000 in
theorem comes_1 {Post : Tables → Env → Array Value → State → Outcome → State → Prop} (hpost : ∀ tb e args s v u, (limb_1_1.after args s (.returned v) u = true ∧ limb_1_2.after args s (.returned v) u = true ∧ True) → FrameEnd s (.returned v) u (Jvm.fieldLocs frame_1_writes args s ++ Jvm.arrayLocs frame_1_arrays args s ++ Jvm.staticLocs frame_1_statics s) 16 128 → Post tb e args s (.returned v) u) :
    ArmFor flags0 classFile x code maxLocals ret World_1 tables_1 room_1 Calls_1 rest_1 Pre_1 Post := by
  intro l hfl _ _ p e ha hc hk s m args below hf hA hF happ hP
  obtain ⟨hcalls, hrest, hpre⟩ := hP
  obtain ⟨-, -, -, hnamed, -, -, -, hat⟩ := (Spec.applies_iff hf).mp happ
  obtain ⟨hg, hn⟩ := and_e (Cond.before_iff.mp (show (Jvm.Cond.and given_1 narrow_1).before args s = true from hpre))
  obtain ⟨g1, g2⟩ := and_e hg
  obtain ⟨g3, g4⟩ := and_e g2
  obtain ⟨g5, g6⟩ := and_e g4
  obtain ⟨g7, g8⟩ := and_e g6
  obtain ⟨g9, g10⟩ := and_e g8
  obtain ⟨w0, w1, w2, w3, w4, rfl⟩ : ∃ w0 w1 w2 w3 w4 : Value, args = #[w0, w1, w2, w3, w4] := by
    have hs : args.size = 5 := by simpa [Cond.value, given_1] using g1
    obtain ⟨L⟩ := args
    match L, hs with
    | [w0, w1, w2, w3, w4], _ => exact ⟨w0, w1, w2, w3, w4, rfl⟩
  have hw := fun d (hd : d ∈ tables_1) => atoms_spec (ws := Jvm.Cond.code x code maxLocals ret :: tables_1) hat d (List.mem_cons_of_mem _ hd)
  have hfit : Fit s := fun {y c} hc i hi => by
    obtain ⟨ha, rfl⟩ := Array.getElem?_eq_some_iff.mp hc
    have q := List.all_eq_true.mp ((Array.all_eq_true_iff_forall_mem.mp hF) _ (Array.getElem_mem ha)) i (List.mem_range.mpr hi)
    simpa [Array.getElem?_eq_getElem hi] using q
  obtain ⟨i0, ei0⟩ := is_v g3
  obtain rfl : w0 = (.int i0) := Option.some.inj ei0
  obtain ⟨i1, ei1⟩ := is_v g5
  obtain rfl : w1 = (.int i1) := Option.some.inj ei1
  obtain ⟨i2, ei2⟩ := is_v g7
  obtain rfl : w2 = (.int i2) := Option.some.inj ei2
  obtain ⟨i3, ei3⟩ := is_v g9
  obtain rfl : w3 = (.int i3) := Option.some.inj ei3
  obtain ⟨i4, ei4⟩ := is_v g10
  obtain rfl : w4 = (.int i4) := Option.some.inj ei4
  obtain ⟨n, o, h1, h2, h3, _, L, rfl, ⟨rfl, N⟩, hq⟩ := rm0 l s _ hw tables_1 i0 i1 i2 i3 i4  s.heap s.heap.size (Nat.le_refl _)  p e ha hc hk s m _ below hf ((Spec.applies_iff_loose hf).mp happ).1 ⟨rfl, State.Warmed39.refl s, rfl⟩ trivial
  refine ⟨n, _, h1, h2, h3, hpost _ _ _ _ _ _ ⟨Cond.after_iff.mpr rfl, Cond.after_iff.mpr (eq_i res_at (Term.int_eval (1)) rfl), trivial⟩ ⟨hq.1, hq.2.1, (hq.2.2.sift fun y hy => Or.inr (N y hy)).mono (by decide) (by decide)⟩⟩
theorem main_1_1 : Claimed_1_1 := comes_1 fun _ _ _ _ _ _ h hF => ⟨h.1, hF⟩
theorem main_1_2 : Claimed_1_2 := comes_1 fun _ _ _ _ _ _ h hF => ⟨h.2.1, hF⟩
end Jvm.Pilot.@@N@@
namespace Jvm.Pilot.@@N@@
open Jvm Jvm.ClassFile Sem Op Lib Jvm.Free Jvm.Stand Jvm.Pilot.@@N@@.Jvm.D
/-! MADE BY PROGRAM (witnessworld.py) out of the Statement's table words and the real class files: 10 classes; the members and pool entries that the words name. The judged class is class 1, her method 1. -/
namespace start1
open Jvm.ClassFile
def u (s : String) : CpInfo := .utf8 (stringToUtf16 s)
/-- a pool by its gaps: so many unusable entries, then the entry; so many at the end -/
def gap : Nat → List CpInfo → List CpInfo
  | 0, r => r
  | n + 1, r => .unusable :: gap n r
def poolList (es : List (Nat × CpInfo)) (last : Nat) : List CpInfo := es.foldr (fun e r => gap e.1 (e.2 :: r)) (gap last [])
def pool (es : List (Nat × CpInfo)) (last : Nat) : Array CpInfo := ⟨poolList es last⟩
def fileOf (pool : Array CpInfo) (this : Nat) (attrs : Array Attribute := #[]) (ms : Array MethodInfo := #[]) (fl : Nat := 33) (sup : Nat := 0) (ifs : Array Nat := #[]) (fds : Array FieldInfo := #[]) : ClassFile where
  minorVersion := 0
  majorVersion := 65
  constantPool := pool
  accessFlags := fl
  thisClass := this
  superClass := sup
  interfaces := ifs
  fields := fds
  methods := ms
  attributes := attrs
def plain (name : String) (sup : Option ClassId) : Class where
  name := name
  kind := .ordinary
  loader := none
  accessFlags := 33
  super := sup
  interfaces := #[]
  cf := none
  fields := #[]
  methods := #[]
  instanceTypes := #[]
  staticTypes := #[]
  resolved := #[]
  callSites := []
  init := .initialized
  statics := none
  mirror := none

def pool0 : Array CpInfo := pool [(5, u "<init>"), (0, u "()V"), (1, .class_ 10), (1, u "java/lang/Object")] 113

def k0c0 : Code := { maxStack := 0, maxLocals := 1, code := object_method_1_code, exceptionTable := #[], attributes := #[] }
def k0m0 : Method := { name := "<init>", desc := "()V", sig := { parameters := [], returnType := none }, accessFlags := 1, code := some k0c0 }
/-- java/lang/Object -/
def k0 : Class := { plain "java/lang/Object" none with
  accessFlags := 33
  interfaces := #[]
  cf := some (fileOf pool0 8 #[] #[{ accessFlags := 1, nameIndex := 5, descriptorIndex := 6, attributes := #[] }] 33 0 #[] #[])
  fields := #[]
  methods := #[k0m0]
  instanceTypes := #[]
  staticTypes := #[]
  resolved := Array.replicate 124 none
  statics := none }

def pool1 : Array CpInfo := pool [(2, .class_ 4), (0, .nameAndType 5 6), (0, u "java/lang/Object"), (0, u "<init>"), (0, u "()V"), (0, .class_ 8), (0, u "com/example/columnwire/columnwire/codec/ZlibStream"), (0, .methodref 7 3), (0, .methodref 7 11), (0, .nameAndType 12 13), (0, u "beginsAsBlock"), (0, u "([BI)Z"), (0, .class_ 15), (0, u "com/example/columnwire/columnwire/codec/ZlibStreamBeginsAsBlockPinLaw"), (2, u "law"), (0, u "(IIIII)Z")] 5

def k1m0 : Method := { name := "<init>", desc := "()V", sig := { parameters := [], returnType := none }, accessFlags := 1, code := none }
def k1c1 : Code := { maxStack := 3, maxLocals := 15, code := code, exceptionTable := #[], attributes := #[] }
def k1m1 : Method := { name := "law", desc := "(IIIII)Z", sig := { parameters := [.int, .int, .int, .int, .int], returnType := some .boolean }, accessFlags := 9, code := some k1c1 }
/-- com/example/columnwire/columnwire/codec/ZlibStreamBeginsAsBlockPinLaw -/
def k1 : Class := { plain "com/example/columnwire/columnwire/codec/ZlibStreamBeginsAsBlockPinLaw" (some 0) with
  accessFlags := 49
  interfaces := #[]
  cf := some (fileOf pool1 14 #[] #[{ accessFlags := 1, nameIndex := 5, descriptorIndex := 6, attributes := #[] }, { accessFlags := 9, nameIndex := 18, descriptorIndex := 19, attributes := #[] }] 49 2 #[] #[])
  fields := #[]
  methods := #[k1m0, k1m1]
  instanceTypes := #[]
  staticTypes := #[]
  resolved := Array.replicate 25 none
  statics := none }

def pool2 : Array CpInfo := pool [(1, .class_ 2), (0, u "com/example/columnwire/columnwire/codec/Codec"), (0, .class_ 4), (0, u "java/lang/Object")] 15

/-- com/example/columnwire/columnwire/codec/Codec -/
def k2 : Class := { plain "com/example/columnwire/columnwire/codec/Codec" (some 0) with
  accessFlags := 1537
  interfaces := #[]
  cf := some (fileOf pool2 1 #[] #[] 1537 3 #[] #[])
  fields := #[]
  methods := #[]
  instanceTypes := #[]
  staticTypes := #[]
  resolved := Array.replicate 20 none
  statics := none }

def pool3 : Array CpInfo := pool [(1, .methodref 2 3), (0, .class_ 4), (0, .nameAndType 5 6), (0, u "java/lang/Object"), (0, u "<init>"), (0, u "()V"), (2, .class_ 10), (0, u "com/example/columnwire/columnwire/codec/ZlibStream"), (81, u "SIZE_REFUSAL"), (0, u "Lcom/example/columnwire/columnwire/codec/BlockWalk$SizeRefusal;"), (35, .class_ 130), (0, u "com/example/columnwire/columnwire/codec/Codec"), (0, u "HEADER_SIZE"), (0, u "I"), (2, u "DEFLATE"), (1, u "MAX_WINDOW"), (1, u "HEADER_CHECK"), (1, u "PRESET_DICTIONARY"), (1, u "ENGINE_HEADER"), (1, u "WHAT"), (0, u "Ljava/lang/String;"), (5, u "beginsAsBlock"), (0, u "([BI)Z")] 36

def k3c0 : Code := { maxStack := 1, maxLocals := 1, code := prog_203_method_1_code, exceptionTable := #[], attributes := #[] }
def k3m0 : Method := { name := "<init>", desc := "()V", sig := { parameters := [], returnType := none }, accessFlags := 1, code := some k3c0 }
def k3c1 : Code := { maxStack := 3, maxLocals := 4, code := prog_203_method_4_code, exceptionTable := #[], attributes := #[] }
def k3m1 : Method := { name := "beginsAsBlock", desc := "([BI)Z", sig := { parameters := [(.array .byte), .int], returnType := some .boolean }, accessFlags := 1, code := some k3c1 }
/-- com/example/columnwire/columnwire/codec/ZlibStream -/
def k3 : Class := { plain "com/example/columnwire/columnwire/codec/ZlibStream" (some 0) with
  accessFlags := 49
  interfaces := #[2]
  cf := some (fileOf pool3 9 #[] #[{ accessFlags := 1, nameIndex := 5, descriptorIndex := 6, attributes := #[] }, { accessFlags := 1, nameIndex := 152, descriptorIndex := 153, attributes := #[] }] 49 2 #[129] #[{ accessFlags := 26, nameIndex := 131, descriptorIndex := 132, attributes := #[] }, { accessFlags := 26, nameIndex := 135, descriptorIndex := 132, attributes := #[] }, { accessFlags := 26, nameIndex := 137, descriptorIndex := 132, attributes := #[] }, { accessFlags := 26, nameIndex := 139, descriptorIndex := 132, attributes := #[] }, { accessFlags := 26, nameIndex := 141, descriptorIndex := 132, attributes := #[] }, { accessFlags := 26, nameIndex := 143, descriptorIndex := 132, attributes := #[] }, { accessFlags := 26, nameIndex := 145, descriptorIndex := 146, attributes := #[] }, { accessFlags := 26, nameIndex := 92, descriptorIndex := 93, attributes := #[] }])
  fields := #[{ name := "HEADER_SIZE", type := .int, accessFlags := 26, slot := 0, constantValue := 0 }, { name := "DEFLATE", type := .int, accessFlags := 26, slot := 1, constantValue := 0 }, { name := "MAX_WINDOW", type := .int, accessFlags := 26, slot := 2, constantValue := 0 }, { name := "HEADER_CHECK", type := .int, accessFlags := 26, slot := 3, constantValue := 0 }, { name := "PRESET_DICTIONARY", type := .int, accessFlags := 26, slot := 4, constantValue := 0 }, { name := "ENGINE_HEADER", type := .int, accessFlags := 26, slot := 5, constantValue := 0 }, { name := "WHAT", type := (.object "java/lang/String"), accessFlags := 26, slot := 6, constantValue := 0 }, { name := "SIZE_REFUSAL", type := (.object "com/example/columnwire/columnwire/codec/BlockWalk$SizeRefusal"), accessFlags := 26, slot := 7, constantValue := 0 }]
  methods := #[k3m0, k3m1]
  instanceTypes := #[]
  staticTypes := #[.int, .int, .int, .int, .int, .int, (.object "java/lang/String"), (.object "com/example/columnwire/columnwire/codec/BlockWalk$SizeRefusal")]
  resolved := Array.replicate 190 none
  statics := none }

def pool4 : Array CpInfo := pool [(1, u "java/lang/Cloneable"), (0, .class_ 1), (0, u "java/lang/Object"), (0, .class_ 3)] 3

/-- java/lang/Cloneable -/
def k4 : Class := { plain "java/lang/Cloneable" (some 0) with
  accessFlags := 1537
  interfaces := #[]
  cf := some (fileOf pool4 2 #[] #[] 1537 4 #[] #[])
  fields := #[]
  methods := #[]
  instanceTypes := #[]
  staticTypes := #[]
  resolved := Array.replicate 8 none
  statics := none }

def pool5 : Array CpInfo := pool [(1, u "java/io/Serializable"), (0, .class_ 1), (0, u "java/lang/Object"), (0, .class_ 3)] 3

/-- java/io/Serializable -/
def k5 : Class := { plain "java/io/Serializable" (some 0) with
  accessFlags := 1537
  interfaces := #[]
  cf := some (fileOf pool5 2 #[] #[] 1537 4 #[] #[])
  fields := #[]
  methods := #[]
  instanceTypes := #[]
  staticTypes := #[]
  resolved := Array.replicate 8 none
  statics := none }

/-- the primitive byte -/
def k6 : Class := { plain "byte" none with kind := .primitive 'B', accessFlags := 0x411 }
/-- [B -/
def k7 : Class := { plain "[B" (some 0) with kind := .array 6 .byte, interfaces := #[4, 5], accessFlags := 1041 }

/-- the primitive int -/
def k8 : Class := { plain "int" none with kind := .primitive 'I', accessFlags := 0x411 }
/-- [I -/
def k9 : Class := { plain "[I" (some 0) with kind := .array 8 .int, interfaces := #[4, 5], accessFlags := 1041 }

def heap : Heap := #[]
def classes : Array Class := #[k0, k1, k2, k3, k4, k5, k6, k7, k8, k9]
def interned : List (Array UInt16 × Addr) := []
def slotsUsed : Nat := 0
def theMethod : MethodId := ⟨1, 1⟩
def args0 : Array Value := #[.int 3, .int 120, .int 1, .int 8, .int 9]
def aboutOver (below : List Frame) : State where
  vm := { classes := classes, interned := interned.toArray }
  heap := heap
  slotsUsed := slotsUsed
  threads := #[{ frames := .invoking theMethod args0 :: below }]
def below0 : List Frame := [.native { method := ⟨0, 0⟩, args := #[] }]
def about1 : State := aboutOver below0
def p0 : Program := .bare "" "" ""
def e0 : Env := launch0.env 0 0 0
theorem w_frames : about1.frames = Frame.invoking theMethod args0 :: below0 := rfl
set_option maxRecDepth 65536 in
theorem w_args : argsFit about1.vm theMethod args0 = true := by decide +kernel
set_option maxRecDepth 65536 in
theorem w_heap : heapFits about1 = true := by decide +kernel
set_option maxRecDepth 65536 in
theorem w_runnable : about1.curStatus? = some .runnable := by decide +kernel
set_option maxRecDepth 65536 in
theorem w_alone : about1.alone = true := by decide +kernel
set_option maxRecDepth 65536 in
theorem w_named : about1.methodNamed? x = some theMethod := by decide +kernel
set_option maxRecDepth 65536 in
theorem w_hears : about1.hears theMethod below0 = true := by decide +kernel
set_option maxRecDepth 65536 in
theorem w_ripe : about1.ripe theMethod args0 below0 = true := by decide +kernel
theorem w_running : about1.status = .running := rfl
set_option maxRecDepth 65536 in
theorem w_room : about1.hasRoom e0.platform room_1 = true :=
  launch0.hasRoom_least _ room_1 (by decide +kernel) (by decide +kernel) (by decide +kernel) (by decide +kernel) (by decide +kernel) (by decide +kernel)
theorem allAtoms_all (ts : List Jvm.Cond) (a : Array Jvm.Value) (st : Jvm.State) : (allAtoms ts).before a st = ts.all (fun c => c.before a st) := by
  induction ts with
  | nil => rfl
  | cons c t ih =>
    show (Jvm.Cond.and c (allAtoms t)).before a st = _
    rw [Jvm.Cond.before_and, ih, List.all_cons]
def words1 : List Jvm.Cond := Jvm.Cond.code x code maxLocals ret :: tables_1
/-- a 'code' word, met by the world's own term for the bytes: nothing is compared byte by byte -/
theorem code_word {y : MethodName} {bytes : ByteArray} {mx : Nat} {rt : Option FieldType} {a : Array Value} {s : State} {m : MethodId} {meth : Method} {c : Code} (h1 : s.methodNamed? y = some m) (h2 : s.vm.method? m = some meth) (h3 : meth.code = some c) (h4 : c.code = bytes)
    (h5 : (c.maxLocals == mx && c.exceptionTable.isEmpty && decide (c.maxStack ≤ mostOperands) && decide (meth.sig.returnType = rt) && !meth.locks && decide (parseMethodDescriptor y.desc = some meth.sig)) = true) : (Jvm.Cond.code y bytes mx rt).before a s = true := by
  simp only [Bool.and_eq_true, beq_iff_eq, Bool.not_eq_true', decide_eq_true_eq] at h5
  obtain ⟨⟨⟨⟨⟨g1, g2⟩, g3⟩, g4⟩, g5⟩, g6⟩ := h5
  simp [Cond.before, Cond.holds, Cond.value, h1, h2, h3, h4, g1, g2, g3, g4, g5, g6]
def isCode : Jvm.Cond → Bool
  | .code _ _ _ _ => true
  | _ => false
theorem all_split {L : List Jvm.Cond} {P : Jvm.Cond → Bool} (h1 : L.all (fun c => isCode c || P c) = true) (h2 : ∀ c ∈ L.filter isCode, P c = true) : L.all P = true := by
  refine List.all_eq_true.mpr fun c hc => ?_
  have h := List.all_eq_true.mp h1 c hc
  rcases Bool.eq_false_or_eq_true (isCode c) with hi | hi
  · exact h2 c (List.mem_filter.mpr ⟨hc, hi⟩)
  · simpa [hi] using h
set_option maxRecDepth 65536 in
theorem w_c0 : (Jvm.Cond.code x code maxLocals ret).before args0 about1 = true := code_word (m := ⟨1, 1⟩) (meth := k1m1) (c := k1c1) (by decide +kernel) rfl rfl rfl (by decide +kernel)
set_option maxRecDepth 65536 in
theorem w_c1 : (Jvm.Cond.code ({ cls := "com/example/columnwire/columnwire/codec/ZlibStream", name := "<init>", desc := "()V" } : Jvm.MethodName) prog_203_method_1_code (1 : Nat) (Option.none : Option Jvm.ClassFile.FieldType)).before args0 about1 = true := code_word (m := ⟨3, 0⟩) (meth := k3m0) (c := k3c0) (by decide +kernel) rfl rfl rfl (by decide +kernel)
set_option maxRecDepth 65536 in
theorem w_c2 : (Jvm.Cond.code ({ cls := "java/lang/Object", name := "<init>", desc := "()V" } : Jvm.MethodName) object_method_1_code (1 : Nat) (Option.none : Option Jvm.ClassFile.FieldType)).before args0 about1 = true := code_word (m := ⟨0, 0⟩) (meth := k0m0) (c := k0c0) (by decide +kernel) rfl rfl rfl (by decide +kernel)
set_option maxRecDepth 65536 in
theorem w_c3 : (Jvm.Cond.code ({ cls := "com/example/columnwire/columnwire/codec/ZlibStream", name := "beginsAsBlock", desc := "([BI)Z" } : Jvm.MethodName) prog_203_method_4_code (4 : Nat) (Option.some Jvm.ClassFile.FieldType.boolean)).before args0 about1 = true := code_word (m := ⟨3, 1⟩) (meth := k3m1) (c := k3c1) (by decide +kernel) rfl rfl rfl (by decide +kernel)
def codes1 : List Jvm.Cond := [Jvm.Cond.code x code maxLocals ret, Jvm.Cond.code ({ cls := "com/example/columnwire/columnwire/codec/ZlibStream", name := "<init>", desc := "()V" } : Jvm.MethodName) prog_203_method_1_code (1 : Nat) (Option.none : Option Jvm.ClassFile.FieldType), Jvm.Cond.code ({ cls := "java/lang/Object", name := "<init>", desc := "()V" } : Jvm.MethodName) object_method_1_code (1 : Nat) (Option.none : Option Jvm.ClassFile.FieldType), Jvm.Cond.code ({ cls := "com/example/columnwire/columnwire/codec/ZlibStream", name := "beginsAsBlock", desc := "([BI)Z" } : Jvm.MethodName) prog_203_method_4_code (4 : Nat) (Option.some Jvm.ClassFile.FieldType.boolean)]
set_option maxRecDepth 65536 in
theorem codes_eq : words1.filter isCode = codes1 := rfl
theorem w_codes : ∀ c ∈ words1.filter isCode, c.before args0 about1 = true := by
  rw [codes_eq]
  intro c hc
  simp only [codes1, List.mem_cons, List.not_mem_nil, or_false] at hc
  rcases hc with rfl | rfl | rfl | rfl
  · exact w_c0
  · exact w_c1
  · exact w_c2
  · exact w_c3
set_option maxRecDepth 65536 in
theorem w_t1 : words1.all (fun c => isCode c || c.before args0 about1) = true := by decide +kernel
theorem w_tables : (allAtoms (Jvm.Cond.code x code maxLocals ret :: tables_1)).before args0 about1 = true := by
  rw [allAtoms_all]
  show words1.all (fun c => c.before args0 about1) = true
  refine all_split ?_ w_codes
  rw [w_t1]
set_option maxRecDepth 65536 in
theorem w_case : (Jvm.Cond.and given_1 narrow_1).before args0 about1 = true := by decide +kernel
theorem w_applies : (headSpec (Jvm.Cond.code x code maxLocals ret :: tables_1) room_1).applies x e0.platform about1 = true :=
  (Spec.applies_iff w_frames).mpr ⟨w_running, w_runnable, w_alone, w_named, w_hears, w_ripe, w_room, w_tables⟩
theorem atStart : AtStart classFile x code maxLocals ret World_1 tables_1 room_1 Calls_1 rest_1 Pre_1 launch0 p0 e0 about1 theMethod args0 below0 :=
  ⟨lists_1, trivial, launch0.admits_env _ _ _, launch0.least_env, fairChoices_fair.cas, fairChoices_fair.clock, w_frames, w_args, w_heap, w_applies, trivial, trivial, w_case⟩
end start1
theorem witness_1 : WitnessClaimed_1 := ⟨start1.p0, start1.e0, start1.about1, start1.theMethod, start1.args0, start1.below0, start1.atStart⟩
end Jvm.Pilot.@@N@@
