import JvmDerived
import JvmDerived.Pilot.@@N@@Statement
import JvmDerived.Pilot.@@N@@Code
set_option linter.unusedVariables false
set_option linter.unusedSimpArgs false
namespace Jvm.Pilot.@@N@@
open Jvm Jvm.ClassFile Sem Op Lib Jvm.Free Jvm.Stand Jvm.LawKit Jvm.RoadKit Bundle Jvm.Pilot.@@N@@.Jvm.D
theorem own_b64 {n : Int} (h1 : -9223372036854775808 ≤ n) (h2 : n < 9223372036854775808) : n.bmod (2 ^ 64) = n := by
  have := Int.bmod_emod (x := n) (m := 2 ^ 64)
  have h3 := Int.bmod_lt (x := n) (m := 2 ^ 64) (by decide)
  have h4 := Int.le_bmod (x := n) (m := 2 ^ 64) (by decide)
  omega
theorem own_add {x y : Int64} {a b : Int} (hx : x.toInt = a) (hy : y.toInt = b) (h1 : -9223372036854775808 ≤ a + b) (h2 : a + b < 9223372036854775808) : (x + y).toInt = a + b := by
  rw [Int64.toInt_add, hx, hy]; exact own_b64 h1 h2
theorem own_sub {x y : Int64} {a b : Int} (hx : x.toInt = a) (hy : y.toInt = b) (h1 : -9223372036854775808 ≤ a - b) (h2 : a - b < 9223372036854775808) : (x - y).toInt = a - b := by
  rw [Int64.toInt_sub, hx, hy]; exact own_b64 h1 h2
theorem own_mul {x y : Int64} {a b : Int} (hx : x.toInt = a) (hy : y.toInt = b) (h1 : -9223372036854775808 ≤ a * b) (h2 : a * b < 9223372036854775808) : (x * y).toInt = a * b := by
  rw [Int64.toInt_mul, hx, hy]; exact own_b64 h1 h2
theorem own_law {hd st pa no cb : Int32} (s1 : 1 ≤ st.toInt) (s2 : st.toInt ≤ 31) (p1 : 0 ≤ pa.toInt) (p2 : pa.toInt ≤ 65535) (n1 : 0 ≤ no.toInt) (n2 : no.toInt ≤ 2147483647) (c1 : 0 ≤ cb.toInt) (c2 : cb.toInt ≤ 16) :
    ¬ ((8 : Int64) * ((hd.toInt64 + (((((2 : Int64) * st.toInt64 + (1 : Int64)) * pa.toInt64 + no.toInt64 * cb.toInt64) + (7 : Int64)) / (8 : Int64))) - hd.toInt64) < ((pa.toInt64 * st.toInt64) * (2 : Int64) + pa.toInt64) + no.toInt64 * cb.toInt64) ∧
    ((8 : Int64) * ((hd.toInt64 + (((((2 : Int64) * st.toInt64 + (1 : Int64)) * pa.toInt64 + no.toInt64 * cb.toInt64) + (7 : Int64)) / (8 : Int64))) - hd.toInt64) - (8 : Int64) < ((pa.toInt64 * st.toInt64) * (2 : Int64) + pa.toInt64) + no.toInt64 * cb.toInt64) := by
  have es := Int32.toInt_toInt64 st
  have ep := Int32.toInt_toInt64 pa
  have en := Int32.toInt_toInt64 no
  have ec := Int32.toInt_toInt64 cb
  have eh := Int32.toInt_toInt64 hd
  have h1 := hd.le_toInt
  have h2 := hd.toInt_lt
  generalize st.toInt64 = ST at *
  generalize pa.toInt64 = PA at *
  generalize no.toInt64 = NO at *
  generalize cb.toInt64 = CB at *
  generalize hd.toInt64 = HD at *
  have u1 : 0 ≤ pa.toInt * st.toInt := Int.mul_nonneg p1 (by omega)
  have u2 : pa.toInt * st.toInt ≤ 65535 * 31 := Int.mul_le_mul p2 s2 (by omega) (by omega)
  have w1 : 0 ≤ no.toInt * cb.toInt := Int.mul_nonneg n1 c1
  have w2 : no.toInt * cb.toInt ≤ 2147483647 * 16 := Int.mul_le_mul n2 c2 c1 (by omega)
  have q1 : (2 * st.toInt + 1) * pa.toInt = 2 * (pa.toInt * st.toInt) + pa.toInt := by rw [Int.add_mul, Int.mul_assoc, Int.mul_comm st.toInt pa.toInt]; omega
  have m1 := own_mul ep es (by omega) (by omega)
  have m2 := own_mul en ec (by omega) (by omega)
  have a1 : ((2 : Int64) * ST + (1 : Int64)).toInt = 2 * st.toInt + 1 := own_add (own_mul (a := 2) rfl es (by omega) (by omega)) (b := 1) rfl (by omega) (by omega)
  have a2 := own_mul a1 ep (by omega) (by omega)
  have a3 := own_add (own_add a2 m2 (by omega) (by omega)) (y := 7) (b := 7) rfl (by omega) (by omega)
  have a4 : (((((2 : Int64) * ST + (1 : Int64)) * PA + NO * CB) + (7 : Int64)) / (8 : Int64)).toInt = ((2 * st.toInt + 1) * pa.toInt + no.toInt * cb.toInt + 7) / 8 := by
    rw [Int64.toInt_div_of_ne_right _ _ (by decide), a3]
    exact Int.tdiv_eq_ediv_of_nonneg (by omega)
  have a5 := own_sub (own_add eh a4 (by omega) (by omega)) eh (by omega) (by omega)
  have a6 := own_mul (x := 8) (a := 8) rfl a5 (by omega) (by omega)
  have a7 := own_sub a6 (y := 8) (b := 8) rfl (by omega) (by omega)
  have b1 := own_add (own_add (own_mul m1 (y := 2) (b := 2) rfl (by omega) (by omega)) ep (by omega) (by omega)) m2 (by omega) (by omega)
  rw [Int64.lt_iff_toInt_lt, Int64.lt_iff_toInt_lt, a6, a7, b1]
  omega
theorem own_b1 (x : Int32) : 1 ≤ ((1 : Int32) + ((x &&& (2147483647 : Int32)) % (31 : Int32))).toInt ∧ ((1 : Int32) + ((x &&& (2147483647 : Int32)) % (31 : Int32))).toInt ≤ 31 := by
  have h1 := c_mask x (2147483647 : Int32) 31 (by decide) (by decide)
  have h2 := (c_irem (x &&& (2147483647 : Int32)) (31 : Int32) 31 (by decide)).1 (by omega)
  have h3 := c_iadd (1 : Int32) ((x &&& (2147483647 : Int32)) % (31 : Int32))
  have h4 := rng32 ((1 : Int32) + ((x &&& (2147483647 : Int32)) % (31 : Int32)))
  have h5 : (1 : Int32).toInt = 1 := by decide
  omega
theorem own_b2 (x : Int32) : 0 ≤ (x &&& (65535 : Int32)).toInt ∧ (x &&& (65535 : Int32)).toInt ≤ 65535 := by
  have h1 := c_mask x (65535 : Int32) 16 (by decide) (by decide)
  omega
theorem own_b3 (x : Int32) : 0 ≤ (x &&& (2147483647 : Int32)).toInt ∧ (x &&& (2147483647 : Int32)).toInt ≤ 2147483647 := by
  have h1 := c_mask x (2147483647 : Int32) 31 (by decide) (by decide)
  omega
theorem own_b4 (x : Int32) : 0 ≤ ((x &&& (2147483647 : Int32)) % (17 : Int32)).toInt ∧ ((x &&& (2147483647 : Int32)) % (17 : Int32)).toInt ≤ 16 := by
  have h1 := c_mask x (2147483647 : Int32) 31 (by decide) (by decide)
  have h2 := (c_irem (x &&& (2147483647 : Int32)) (17 : Int32) 17 (by decide)).1 (by omega)
  omega
theorem own_pn0 : plainName "com/example/terse_graph/tersegraph/BvPlusCodec" = true := by first | (simp [plainName, overriddenIn]; done) | decide +kernel
theorem own_ef_rm1 (m : MethodId) (x0 : Int32) (x1 : Int32) (x2 : Int32) (x3 : Int32) (x4 : Int32) : entryFrame m #[(.int x0), (.int x1), (.int x2), (.int x3), (.int x4)] 7 = mkF m 0 #[.val (.int x0), .val (.int x1), .val (.int x2), .val (.int x3), .val (.int x4), .unset, .unset] [] := by first | (simp [entryFrame, mkF, argsToLocals, Value.category]; done) | rfl
theorem own_d1_0 : decode prog_47_method_12_code 0 = .ok (.ldc2_w 162, 3) := by decide +kernel
theorem own_d1_3 : decode prog_47_method_12_code 3 = .ok (.iload_n 1, 1) := by decide +kernel
theorem own_d1_4 : decode prog_47_method_12_code 4 = .ok (.i2l, 1) := by decide +kernel
theorem own_d1_5 : decode prog_47_method_12_code 5 = .ok (.lmul, 1) := by decide +kernel
theorem own_d1_6 : decode prog_47_method_12_code 6 = .ok (.lconst 1, 1) := by decide +kernel
theorem own_d1_7 : decode prog_47_method_12_code 7 = .ok (.ladd, 1) := by decide +kernel
theorem own_d1_8 : decode prog_47_method_12_code 8 = .ok (.iload_n 2, 1) := by decide +kernel
theorem own_d1_9 : decode prog_47_method_12_code 9 = .ok (.i2l, 1) := by decide +kernel
theorem own_d1_10 : decode prog_47_method_12_code 10 = .ok (.lmul, 1) := by decide +kernel
theorem own_d1_11 : decode prog_47_method_12_code 11 = .ok (.iload_n 3, 1) := by decide +kernel
theorem own_d1_12 : decode prog_47_method_12_code 12 = .ok (.i2l, 1) := by decide +kernel
theorem own_d1_13 : decode prog_47_method_12_code 13 = .ok (.iload 4, 2) := by decide +kernel
theorem own_d1_15 : decode prog_47_method_12_code 15 = .ok (.i2l, 1) := by decide +kernel
theorem own_d1_16 : decode prog_47_method_12_code 16 = .ok (.lmul, 1) := by decide +kernel
theorem own_d1_17 : decode prog_47_method_12_code 17 = .ok (.ladd, 1) := by decide +kernel
theorem own_d1_18 : decode prog_47_method_12_code 18 = .ok (.lstore 5, 2) := by decide +kernel
theorem own_d1_20 : decode prog_47_method_12_code 20 = .ok (.iload_n 0, 1) := by decide +kernel
theorem own_d1_21 : decode prog_47_method_12_code 21 = .ok (.i2l, 1) := by decide +kernel
theorem own_d1_22 : decode prog_47_method_12_code 22 = .ok (.lload 5, 2) := by decide +kernel
theorem own_d1_24 : decode prog_47_method_12_code 24 = .ok (.ldc2_w 164, 3) := by decide +kernel
theorem own_d1_27 : decode prog_47_method_12_code 27 = .ok (.ladd, 1) := by decide +kernel
theorem own_d1_28 : decode prog_47_method_12_code 28 = .ok (.ldc2_w 166, 3) := by decide +kernel
theorem own_d1_31 : decode prog_47_method_12_code 31 = .ok (.ldiv, 1) := by decide +kernel
theorem own_d1_32 : decode prog_47_method_12_code 32 = .ok (.ladd, 1) := by decide +kernel
theorem own_d1_33 : decode prog_47_method_12_code 33 = .ok (.lreturn, 1) := by decide +kernel
def Q_rm1 (Z : State) (p1 : Int32) (p2 : Int32) (p3 : Int32) (p4 : Int32) (p5 : Int32) (h0 : Heap) (n0 : Nat) (v : Option Value) (h : Heap) (L : List Loc) : Prop := v = some (.long (p1.toInt64 + ((((((2 : Int64) * p2.toInt64) + (1 : Int64)) * p3.toInt64) + (p4.toInt64 * p5.toInt64) + (7 : Int64)) / (8 : Int64)))) ∧ Fr n0 L ∧ h = h0
set_option maxRecDepth 65536 in
set_option maxHeartbeats 40000000 in
theorem rm1 (l : Launch) (Z : State) (a0 : Array Value) (hw : ∀ d ∈ tables_1, d.before a0 Z = true) (ws : List Jvm.Cond) (p1 : Int32) (p2 : Int32) (p3 : Int32) (p4 : Int32) (p5 : Int32) (h0 : Heap) (n0 : Nat) (Z0 : n0 ≤ h0.size)  :
    MetFree l (⟨"com/example/terse_graph/tersegraph/BvPlusCodec", "stripeBytes", "(IIIII)J"⟩ : MethodName) (head1 (Jvm.Cond.code (⟨"com/example/terse_graph/tersegraph/BvPlusCodec", "stripeBytes", "(IIIII)J"⟩ : MethodName) prog_47_method_12_code 7 (some .long) :: ws) ({ frames := 0, cells := 0, slots := 0, locals := 0 } : Room)) (fun a U => a = #[(.int p1), (.int p2), (.int p3), (.int p4), (.int p5)] ∧ Z.Warmed39 U.vm ∧ U.heap = h0) (fun _ _ _ _ _ => True) (fun _ U o U' => ∃ v L, o = .returned v ∧ Q_rm1 Z p1 p2 p3 p4 p5 h0 n0 v U'.heap L ∧ FrameEnd U o U' L ({ frames := 0, cells := 0, slots := 0, locals := 0 } : Room).cells ({ frames := 0, cells := 0, slots := 0, locals := 0 } : Room).slots) := by
  refine MetFree.of_bodySF (plainFor_of_name own_pn0) hisR ?_
  intro p e s m args below meth c s₁ Bd hml0 hP hK
  obtain ⟨rfl, hZ, hh⟩ := hP
  have hx := Bd.exec
  have hby := Bd.bytes
  have hml : c.maxLocals = 7 := hml0
  have hown : s.vm.findClass "com/example/terse_graph/tersegraph/BvPlusCodec" = some m.cls := findClass_of_methodNamed Bd.named
  have hnm := (name_of_methodNamed Bd.named Bd.method).1
  have X0 : Stand p l e ({ frames := 0, cells := 0, slots := 0, locals := 0 } : Room) s m #[(.int p1), (.int p2), (.int p3), (.int p4), (.int p5)] below meth c s₁ [] 0 0 := Stand.of_body Bd
  have e0 : s₁.heap = h0 := by rw [← hh, Bd.state]; rfl
  have N0 := Fr.nil n0
  have R0 : ∀ t, Steps p.tables e below (s₁.setTop (mkF m 0 #[.val (.int p1), .val (.int p2), .val (.int p3), .val (.int p4), .val (.int p5), .unset, .unset] [])) t → Steps p.tables e below (s₁.setTop (entryFrame m #[(.int p1), (.int p2), (.int p3), (.int p4), (.int p5)] 7)) t := fun t k => castTop (own_ef_rm1 m p1 p2 p3 p4 p5) k
  have R1 : ∀ t, Steps p.tables e below (s₁.setTop (mkF m 33 #[.val (.int p1), .val (.int p2), .val (.int p3), .val (.int p4), .val (.int p5), .val (.long (((((2 : Int64) * (p2.toInt64)) + (1 : Int64)) * (p3.toInt64)) + ((p4.toInt64) * (p5.toInt64)))), .second] [(.long ((p1.toInt64) + (((((((2 : Int64) * (p2.toInt64)) + (1 : Int64)) * (p3.toInt64)) + ((p4.toInt64) * (p5.toInt64))) + (7 : Int64)) / (8 : Int64))))])) t → Steps p.tables e below (s₁.setTop (entryFrame m #[(.int p1), (.int p2), (.int p3), (.int p4), (.int p5)] 7)) t := by
    intro t k
    refine R0 t ?_
    show Steps p.tables e below (s₁.setTop (mkF m 0 #[.val (.int p1), .val (.int p2), .val (.int p3), .val (.int p4), .val (.int p5), .unset, .unset] [])) _
    refine X0.ldc2Long hx hown (mvT hZ (hw _ (List.mem_of_getElem? (i := 6) rfl))) (g := (mkF m 0 #[.val (.int p1), .val (.int p2), .val (.int p3), .val (.int p4), .val (.int p5), .unset, .unset] [])) rfl (hb hby own_d1_0) _ ?_
    show Steps p.tables e below (s₁.setTop (mkF m 3 #[.val (.int p1), .val (.int p2), .val (.int p3), .val (.int p4), .val (.int p5), .unset, .unset] [(.long (2 : Int64))])) _
    refine XS.iloadN X0.here hx rfl (hb hby own_d1_3) rfl ?_
    show Steps p.tables e below (s₁.setTop (mkF m 4 #[.val (.int p1), .val (.int p2), .val (.int p3), .val (.int p4), .val (.int p5), .unset, .unset] [(.int p2), (.long (2 : Int64))])) _
    refine XS.i2l X0.here hx rfl (hb hby own_d1_4) rfl ?_
    show Steps p.tables e below (s₁.setTop (mkF m 5 #[.val (.int p1), .val (.int p2), .val (.int p3), .val (.int p4), .val (.int p5), .unset, .unset] [(.long (p2.toInt64)), (.long (2 : Int64))])) _
    refine XS.lmul X0.here hx rfl (hb hby own_d1_5) rfl ?_
    show Steps p.tables e below (s₁.setTop (mkF m 6 #[.val (.int p1), .val (.int p2), .val (.int p3), .val (.int p4), .val (.int p5), .unset, .unset] [(.long ((2 : Int64) * (p2.toInt64)))])) _
    refine XS.lconst X0.here hx rfl (hb hby own_d1_6) ?_
    show Steps p.tables e below (s₁.setTop (mkF m 7 #[.val (.int p1), .val (.int p2), .val (.int p3), .val (.int p4), .val (.int p5), .unset, .unset] [(.long (1 : Int64)), (.long ((2 : Int64) * (p2.toInt64)))])) _
    refine XS.ladd X0.here hx rfl (hb hby own_d1_7) rfl ?_
    show Steps p.tables e below (s₁.setTop (mkF m 8 #[.val (.int p1), .val (.int p2), .val (.int p3), .val (.int p4), .val (.int p5), .unset, .unset] [(.long (((2 : Int64) * (p2.toInt64)) + (1 : Int64)))])) _
    refine XS.iloadN X0.here hx rfl (hb hby own_d1_8) rfl ?_
    show Steps p.tables e below (s₁.setTop (mkF m 9 #[.val (.int p1), .val (.int p2), .val (.int p3), .val (.int p4), .val (.int p5), .unset, .unset] [(.int p3), (.long (((2 : Int64) * (p2.toInt64)) + (1 : Int64)))])) _
    refine XS.i2l X0.here hx rfl (hb hby own_d1_9) rfl ?_
    show Steps p.tables e below (s₁.setTop (mkF m 10 #[.val (.int p1), .val (.int p2), .val (.int p3), .val (.int p4), .val (.int p5), .unset, .unset] [(.long (p3.toInt64)), (.long (((2 : Int64) * (p2.toInt64)) + (1 : Int64)))])) _
    refine XS.lmul X0.here hx rfl (hb hby own_d1_10) rfl ?_
    show Steps p.tables e below (s₁.setTop (mkF m 11 #[.val (.int p1), .val (.int p2), .val (.int p3), .val (.int p4), .val (.int p5), .unset, .unset] [(.long ((((2 : Int64) * (p2.toInt64)) + (1 : Int64)) * (p3.toInt64)))])) _
    refine XS.iloadN X0.here hx rfl (hb hby own_d1_11) rfl ?_
    show Steps p.tables e below (s₁.setTop (mkF m 12 #[.val (.int p1), .val (.int p2), .val (.int p3), .val (.int p4), .val (.int p5), .unset, .unset] [(.int p4), (.long ((((2 : Int64) * (p2.toInt64)) + (1 : Int64)) * (p3.toInt64)))])) _
    refine XS.i2l X0.here hx rfl (hb hby own_d1_12) rfl ?_
    show Steps p.tables e below (s₁.setTop (mkF m 13 #[.val (.int p1), .val (.int p2), .val (.int p3), .val (.int p4), .val (.int p5), .unset, .unset] [(.long (p4.toInt64)), (.long ((((2 : Int64) * (p2.toInt64)) + (1 : Int64)) * (p3.toInt64)))])) _
    refine XS.iload X0.here hx rfl (hb hby own_d1_13) rfl ?_
    show Steps p.tables e below (s₁.setTop (mkF m 15 #[.val (.int p1), .val (.int p2), .val (.int p3), .val (.int p4), .val (.int p5), .unset, .unset] [(.int p5), (.long (p4.toInt64)), (.long ((((2 : Int64) * (p2.toInt64)) + (1 : Int64)) * (p3.toInt64)))])) _
    refine XS.i2l X0.here hx rfl (hb hby own_d1_15) rfl ?_
    show Steps p.tables e below (s₁.setTop (mkF m 16 #[.val (.int p1), .val (.int p2), .val (.int p3), .val (.int p4), .val (.int p5), .unset, .unset] [(.long (p5.toInt64)), (.long (p4.toInt64)), (.long ((((2 : Int64) * (p2.toInt64)) + (1 : Int64)) * (p3.toInt64)))])) _
    refine XS.lmul X0.here hx rfl (hb hby own_d1_16) rfl ?_
    show Steps p.tables e below (s₁.setTop (mkF m 17 #[.val (.int p1), .val (.int p2), .val (.int p3), .val (.int p4), .val (.int p5), .unset, .unset] [(.long ((p4.toInt64) * (p5.toInt64))), (.long ((((2 : Int64) * (p2.toInt64)) + (1 : Int64)) * (p3.toInt64)))])) _
    refine XS.ladd X0.here hx rfl (hb hby own_d1_17) rfl ?_
    show Steps p.tables e below (s₁.setTop (mkF m 18 #[.val (.int p1), .val (.int p2), .val (.int p3), .val (.int p4), .val (.int p5), .unset, .unset] [(.long (((((2 : Int64) * (p2.toInt64)) + (1 : Int64)) * (p3.toInt64)) + ((p4.toInt64) * (p5.toInt64))))])) _
    refine XS.lstore X0.here hx rfl (hb hby own_d1_18) rfl (l' := #[.val (.int p1), .val (.int p2), .val (.int p3), .val (.int p4), .val (.int p5), .val (.long (((((2 : Int64) * (p2.toInt64)) + (1 : Int64)) * (p3.toInt64)) + ((p4.toInt64) * (p5.toInt64)))), .second]) rfl ?_
    show Steps p.tables e below (s₁.setTop (mkF m 20 #[.val (.int p1), .val (.int p2), .val (.int p3), .val (.int p4), .val (.int p5), .val (.long (((((2 : Int64) * (p2.toInt64)) + (1 : Int64)) * (p3.toInt64)) + ((p4.toInt64) * (p5.toInt64)))), .second] [])) _
    refine XS.iloadN X0.here hx rfl (hb hby own_d1_20) rfl ?_
    show Steps p.tables e below (s₁.setTop (mkF m 21 #[.val (.int p1), .val (.int p2), .val (.int p3), .val (.int p4), .val (.int p5), .val (.long (((((2 : Int64) * (p2.toInt64)) + (1 : Int64)) * (p3.toInt64)) + ((p4.toInt64) * (p5.toInt64)))), .second] [(.int p1)])) _
    refine XS.i2l X0.here hx rfl (hb hby own_d1_21) rfl ?_
    show Steps p.tables e below (s₁.setTop (mkF m 22 #[.val (.int p1), .val (.int p2), .val (.int p3), .val (.int p4), .val (.int p5), .val (.long (((((2 : Int64) * (p2.toInt64)) + (1 : Int64)) * (p3.toInt64)) + ((p4.toInt64) * (p5.toInt64)))), .second] [(.long (p1.toInt64))])) _
    refine XS.lload X0.here hx rfl (hb hby own_d1_22) rfl ?_
    show Steps p.tables e below (s₁.setTop (mkF m 24 #[.val (.int p1), .val (.int p2), .val (.int p3), .val (.int p4), .val (.int p5), .val (.long (((((2 : Int64) * (p2.toInt64)) + (1 : Int64)) * (p3.toInt64)) + ((p4.toInt64) * (p5.toInt64)))), .second] [(.long (((((2 : Int64) * (p2.toInt64)) + (1 : Int64)) * (p3.toInt64)) + ((p4.toInt64) * (p5.toInt64)))), (.long (p1.toInt64))])) _
    refine X0.ldc2Long hx hown (mvT hZ (hw _ (List.mem_of_getElem? (i := 7) rfl))) (g := (mkF m 24 #[.val (.int p1), .val (.int p2), .val (.int p3), .val (.int p4), .val (.int p5), .val (.long (((((2 : Int64) * (p2.toInt64)) + (1 : Int64)) * (p3.toInt64)) + ((p4.toInt64) * (p5.toInt64)))), .second] [(.long (((((2 : Int64) * (p2.toInt64)) + (1 : Int64)) * (p3.toInt64)) + ((p4.toInt64) * (p5.toInt64)))), (.long (p1.toInt64))])) rfl (hb hby own_d1_24) _ ?_
    show Steps p.tables e below (s₁.setTop (mkF m 27 #[.val (.int p1), .val (.int p2), .val (.int p3), .val (.int p4), .val (.int p5), .val (.long (((((2 : Int64) * (p2.toInt64)) + (1 : Int64)) * (p3.toInt64)) + ((p4.toInt64) * (p5.toInt64)))), .second] [(.long (7 : Int64)), (.long (((((2 : Int64) * (p2.toInt64)) + (1 : Int64)) * (p3.toInt64)) + ((p4.toInt64) * (p5.toInt64)))), (.long (p1.toInt64))])) _
    refine XS.ladd X0.here hx rfl (hb hby own_d1_27) rfl ?_
    show Steps p.tables e below (s₁.setTop (mkF m 28 #[.val (.int p1), .val (.int p2), .val (.int p3), .val (.int p4), .val (.int p5), .val (.long (((((2 : Int64) * (p2.toInt64)) + (1 : Int64)) * (p3.toInt64)) + ((p4.toInt64) * (p5.toInt64)))), .second] [(.long ((((((2 : Int64) * (p2.toInt64)) + (1 : Int64)) * (p3.toInt64)) + ((p4.toInt64) * (p5.toInt64))) + (7 : Int64))), (.long (p1.toInt64))])) _
    refine X0.ldc2Long hx hown (mvT hZ (hw _ (List.mem_of_getElem? (i := 8) rfl))) (g := (mkF m 28 #[.val (.int p1), .val (.int p2), .val (.int p3), .val (.int p4), .val (.int p5), .val (.long (((((2 : Int64) * (p2.toInt64)) + (1 : Int64)) * (p3.toInt64)) + ((p4.toInt64) * (p5.toInt64)))), .second] [(.long ((((((2 : Int64) * (p2.toInt64)) + (1 : Int64)) * (p3.toInt64)) + ((p4.toInt64) * (p5.toInt64))) + (7 : Int64))), (.long (p1.toInt64))])) rfl (hb hby own_d1_28) _ ?_
    show Steps p.tables e below (s₁.setTop (mkF m 31 #[.val (.int p1), .val (.int p2), .val (.int p3), .val (.int p4), .val (.int p5), .val (.long (((((2 : Int64) * (p2.toInt64)) + (1 : Int64)) * (p3.toInt64)) + ((p4.toInt64) * (p5.toInt64)))), .second] [(.long (8 : Int64)), (.long ((((((2 : Int64) * (p2.toInt64)) + (1 : Int64)) * (p3.toInt64)) + ((p4.toInt64) * (p5.toInt64))) + (7 : Int64))), (.long (p1.toInt64))])) _
    refine XS.ldiv X0.here hx rfl (hb hby own_d1_31) rfl (by decide) ?_
    show Steps p.tables e below (s₁.setTop (mkF m 32 #[.val (.int p1), .val (.int p2), .val (.int p3), .val (.int p4), .val (.int p5), .val (.long (((((2 : Int64) * (p2.toInt64)) + (1 : Int64)) * (p3.toInt64)) + ((p4.toInt64) * (p5.toInt64)))), .second] [(.long (((((((2 : Int64) * (p2.toInt64)) + (1 : Int64)) * (p3.toInt64)) + ((p4.toInt64) * (p5.toInt64))) + (7 : Int64)) / (8 : Int64))), (.long (p1.toInt64))])) _
    refine XS.ladd X0.here hx rfl (hb hby own_d1_32) rfl ?_
    exact k
  obtain ⟨fs, hr, hrun, hended, hW, hsame⟩ := X0.leave (v := some (.long ((p1.toInt64) + (((((((2 : Int64) * (p2.toInt64)) + (1 : Int64)) * (p3.toInt64)) + ((p4.toInt64) * (p5.toInt64))) + (7 : Int64)) / (8 : Int64))))) (fun h => by rw [Bd.returns] at h; cases h)
  refine ⟨_, _, R1 _ ?_, hrun, hended, _, _, rfl, ?_, ⟨_, rfl⟩, hW, hsame.mono (by decide) (by decide)⟩
  · exact retOut X0 hx Bd.returns rfl (Or.inr (Or.inl ⟨rfl, rfl, _, rfl⟩)) (hb hby own_d1_33) hr
  · show Q_rm1 Z p1 p2 p3 p4 p5 h0 n0 _ s₁.heap _
    rw [e0]
    exact ⟨rfl, N0, rfl⟩
theorem own_pn1 : plainName "com/example/terse_graph/tersegraph/BvPlusCodecStripeBytesPinLaw" = true := by first | (simp [plainName, overriddenIn]; done) | decide +kernel
theorem own_ef_rm0 (m : MethodId) (x0 : Int32) (x1 : Int32) (x2 : Int32) (x3 : Int32) (x4 : Int32) : entryFrame m #[(.int x0), (.int x1), (.int x2), (.int x3), (.int x4)] maxLocals = mkF m 0 #[.val (.int x0), .val (.int x1), .val (.int x2), .val (.int x3), .val (.int x4), .unset, .unset, .unset, .unset, .unset, .unset, .unset, .unset, .unset, .unset, .unset, .unset, .unset, .unset, .unset, .unset] [] := by first | (simp [entryFrame, mkF, argsToLocals, Value.category, maxLocals]; done) | rfl
theorem own_pd0 : parseMethodDescriptor "(IIIII)J" = some ⟨[.int, .int, .int, .int, .int], some .long⟩ := by decide +kernel
def Q_rm0 (Z : State) (p1 : Int32) (p2 : Int32) (p3 : Int32) (p4 : Int32) (p5 : Int32) (h0 : Heap) (n0 : Nat) (v : Option Value) (h : Heap) (L : List Loc) : Prop := v = some (.int 1) ∧ Fr n0 L
set_option maxRecDepth 65536 in
set_option maxHeartbeats 40000000 in
theorem rm0 (l : Launch) (Z : State) (a0 : Array Value) (hw : ∀ d ∈ tables_1, d.before a0 Z = true) (ws : List Jvm.Cond) (p1 : Int32) (p2 : Int32) (p3 : Int32) (p4 : Int32) (p5 : Int32) (h0 : Heap) (n0 : Nat) (Z0 : n0 ≤ h0.size)  :
    MetFree l x (head1 (Jvm.Cond.code x code maxLocals ret :: ws) room_1) (fun a U => a = #[(.int p1), (.int p2), (.int p3), (.int p4), (.int p5)] ∧ Z.Warmed39 U.vm ∧ U.heap = h0) (fun _ _ _ _ _ => True) (fun _ U o U' => ∃ v L, o = .returned v ∧ Q_rm0 Z p1 p2 p3 p4 p5 h0 n0 v U'.heap L ∧ FrameEnd U o U' L room_1.cells room_1.slots) := by
  refine MetFree.of_bodySF (plainFor_of_name own_pn1) hisR ?_
  intro p e s m args below meth c s₁ Bd hml0 hP hK
  obtain ⟨rfl, hZ, hh⟩ := hP
  have hx := Bd.exec
  have hby := Bd.bytes
  have hml : c.maxLocals = 21 := hml0
  have hown : s.vm.findClass "com/example/terse_graph/tersegraph/BvPlusCodecStripeBytesPinLaw" = some m.cls := findClass_of_methodNamed Bd.named
  have hnm := (name_of_methodNamed Bd.named Bd.method).1
  have X0 : Stand p l e room_1 s m #[(.int p1), (.int p2), (.int p3), (.int p4), (.int p5)] below meth c s₁ [] 0 0 := Stand.of_body Bd
  have e0 : s₁.heap = h0 := by rw [← hh, Bd.state]; rfl
  have N0 := Fr.nil n0
  have R0 : ∀ t, Steps p.tables e below (s₁.setTop (mkF m 0 #[.val (.int p1), .val (.int p2), .val (.int p3), .val (.int p4), .val (.int p5), .unset, .unset, .unset, .unset, .unset, .unset, .unset, .unset, .unset, .unset, .unset, .unset, .unset, .unset, .unset, .unset] [])) t → Steps p.tables e below (s₁.setTop (entryFrame m #[(.int p1), (.int p2), (.int p3), (.int p4), (.int p5)] maxLocals)) t := fun t k => castTop (own_ef_rm0 m p1 p2 p3 p4 p5) k
  have R1 : ∀ t, Steps p.tables e below (s₁.setTop (mkF m 33 #[.val (.int p1), .val (.int p2), .val (.int p3), .val (.int p4), .val (.int p5), .val (.int ((1 : Int32) + ((p2 &&& (2147483647 : Int32)) % (31 : Int32)))), .val (.int (p3 &&& (65535 : Int32))), .val (.int (p4 &&& (2147483647 : Int32))), .val (.int ((p5 &&& (2147483647 : Int32)) % (17 : Int32))), .unset, .unset, .unset, .unset, .unset, .unset, .unset, .unset, .unset, .unset, .unset, .unset] [])) t → Steps p.tables e below (s₁.setTop (entryFrame m #[(.int p1), (.int p2), (.int p3), (.int p4), (.int p5)] maxLocals)) t := by
    intro t k
    refine R0 t ?_
    show Steps p.tables e below (s₁.setTop (mkF m 0 #[.val (.int p1), .val (.int p2), .val (.int p3), .val (.int p4), .val (.int p5), .unset, .unset, .unset, .unset, .unset, .unset, .unset, .unset, .unset, .unset, .unset, .unset, .unset, .unset, .unset, .unset] [])) _
    refine XS.iconst X0.here hx rfl (hb hby at_0) ?_
    show Steps p.tables e below (s₁.setTop (mkF m 1 #[.val (.int p1), .val (.int p2), .val (.int p3), .val (.int p4), .val (.int p5), .unset, .unset, .unset, .unset, .unset, .unset, .unset, .unset, .unset, .unset, .unset, .unset, .unset, .unset, .unset, .unset] [(.int (1 : Int32))])) _
    refine XS.iloadN X0.here hx rfl (hb hby at_1) rfl ?_
    show Steps p.tables e below (s₁.setTop (mkF m 2 #[.val (.int p1), .val (.int p2), .val (.int p3), .val (.int p4), .val (.int p5), .unset, .unset, .unset, .unset, .unset, .unset, .unset, .unset, .unset, .unset, .unset, .unset, .unset, .unset, .unset, .unset] [(.int p2), (.int (1 : Int32))])) _
    refine X0.ldcInt hx hown (mvT hZ (hw _ (List.mem_of_getElem? (i := 0) rfl))) (g := (mkF m 2 #[.val (.int p1), .val (.int p2), .val (.int p3), .val (.int p4), .val (.int p5), .unset, .unset, .unset, .unset, .unset, .unset, .unset, .unset, .unset, .unset, .unset, .unset, .unset, .unset, .unset, .unset] [(.int p2), (.int (1 : Int32))])) rfl (hb hby at_2) _ ?_
    show Steps p.tables e below (s₁.setTop (mkF m 4 #[.val (.int p1), .val (.int p2), .val (.int p3), .val (.int p4), .val (.int p5), .unset, .unset, .unset, .unset, .unset, .unset, .unset, .unset, .unset, .unset, .unset, .unset, .unset, .unset, .unset, .unset] [(.int (2147483647 : Int32)), (.int p2), (.int (1 : Int32))])) _
    refine XS.iand X0.here hx rfl (hb hby at_4) rfl ?_
    show Steps p.tables e below (s₁.setTop (mkF m 5 #[.val (.int p1), .val (.int p2), .val (.int p3), .val (.int p4), .val (.int p5), .unset, .unset, .unset, .unset, .unset, .unset, .unset, .unset, .unset, .unset, .unset, .unset, .unset, .unset, .unset, .unset] [(.int (p2 &&& (2147483647 : Int32))), (.int (1 : Int32))])) _
    refine XS.bipush X0.here hx rfl (hb hby at_5) ?_
    show Steps p.tables e below (s₁.setTop (mkF m 7 #[.val (.int p1), .val (.int p2), .val (.int p3), .val (.int p4), .val (.int p5), .unset, .unset, .unset, .unset, .unset, .unset, .unset, .unset, .unset, .unset, .unset, .unset, .unset, .unset, .unset, .unset] [(.int (31 : Int32)), (.int (p2 &&& (2147483647 : Int32))), (.int (1 : Int32))])) _
    refine iremM X0 hx rfl (hb hby at_7) rfl (by decide) ?_
    show Steps p.tables e below (s₁.setTop (mkF m 8 #[.val (.int p1), .val (.int p2), .val (.int p3), .val (.int p4), .val (.int p5), .unset, .unset, .unset, .unset, .unset, .unset, .unset, .unset, .unset, .unset, .unset, .unset, .unset, .unset, .unset, .unset] [(.int ((p2 &&& (2147483647 : Int32)) % (31 : Int32))), (.int (1 : Int32))])) _
    refine XS.iadd X0.here hx rfl (hb hby at_8) rfl ?_
    show Steps p.tables e below (s₁.setTop (mkF m 9 #[.val (.int p1), .val (.int p2), .val (.int p3), .val (.int p4), .val (.int p5), .unset, .unset, .unset, .unset, .unset, .unset, .unset, .unset, .unset, .unset, .unset, .unset, .unset, .unset, .unset, .unset] [(.int ((1 : Int32) + ((p2 &&& (2147483647 : Int32)) % (31 : Int32))))])) _
    refine XS.istore X0.here hx rfl (hb hby at_9) rfl (l' := #[.val (.int p1), .val (.int p2), .val (.int p3), .val (.int p4), .val (.int p5), .val (.int ((1 : Int32) + ((p2 &&& (2147483647 : Int32)) % (31 : Int32)))), .unset, .unset, .unset, .unset, .unset, .unset, .unset, .unset, .unset, .unset, .unset, .unset, .unset, .unset, .unset]) rfl ?_
    show Steps p.tables e below (s₁.setTop (mkF m 11 #[.val (.int p1), .val (.int p2), .val (.int p3), .val (.int p4), .val (.int p5), .val (.int ((1 : Int32) + ((p2 &&& (2147483647 : Int32)) % (31 : Int32)))), .unset, .unset, .unset, .unset, .unset, .unset, .unset, .unset, .unset, .unset, .unset, .unset, .unset, .unset, .unset] [])) _
    refine XS.iloadN X0.here hx rfl (hb hby at_11) rfl ?_
    show Steps p.tables e below (s₁.setTop (mkF m 12 #[.val (.int p1), .val (.int p2), .val (.int p3), .val (.int p4), .val (.int p5), .val (.int ((1 : Int32) + ((p2 &&& (2147483647 : Int32)) % (31 : Int32)))), .unset, .unset, .unset, .unset, .unset, .unset, .unset, .unset, .unset, .unset, .unset, .unset, .unset, .unset, .unset] [(.int p3)])) _
    refine X0.ldcInt hx hown (mvT hZ (hw _ (List.mem_of_getElem? (i := 1) rfl))) (g := (mkF m 12 #[.val (.int p1), .val (.int p2), .val (.int p3), .val (.int p4), .val (.int p5), .val (.int ((1 : Int32) + ((p2 &&& (2147483647 : Int32)) % (31 : Int32)))), .unset, .unset, .unset, .unset, .unset, .unset, .unset, .unset, .unset, .unset, .unset, .unset, .unset, .unset, .unset] [(.int p3)])) rfl (hb hby at_12) _ ?_
    show Steps p.tables e below (s₁.setTop (mkF m 14 #[.val (.int p1), .val (.int p2), .val (.int p3), .val (.int p4), .val (.int p5), .val (.int ((1 : Int32) + ((p2 &&& (2147483647 : Int32)) % (31 : Int32)))), .unset, .unset, .unset, .unset, .unset, .unset, .unset, .unset, .unset, .unset, .unset, .unset, .unset, .unset, .unset] [(.int (65535 : Int32)), (.int p3)])) _
    refine XS.iand X0.here hx rfl (hb hby at_14) rfl ?_
    show Steps p.tables e below (s₁.setTop (mkF m 15 #[.val (.int p1), .val (.int p2), .val (.int p3), .val (.int p4), .val (.int p5), .val (.int ((1 : Int32) + ((p2 &&& (2147483647 : Int32)) % (31 : Int32)))), .unset, .unset, .unset, .unset, .unset, .unset, .unset, .unset, .unset, .unset, .unset, .unset, .unset, .unset, .unset] [(.int (p3 &&& (65535 : Int32)))])) _
    refine XS.istore X0.here hx rfl (hb hby at_15) rfl (l' := #[.val (.int p1), .val (.int p2), .val (.int p3), .val (.int p4), .val (.int p5), .val (.int ((1 : Int32) + ((p2 &&& (2147483647 : Int32)) % (31 : Int32)))), .val (.int (p3 &&& (65535 : Int32))), .unset, .unset, .unset, .unset, .unset, .unset, .unset, .unset, .unset, .unset, .unset, .unset, .unset, .unset]) rfl ?_
    show Steps p.tables e below (s₁.setTop (mkF m 17 #[.val (.int p1), .val (.int p2), .val (.int p3), .val (.int p4), .val (.int p5), .val (.int ((1 : Int32) + ((p2 &&& (2147483647 : Int32)) % (31 : Int32)))), .val (.int (p3 &&& (65535 : Int32))), .unset, .unset, .unset, .unset, .unset, .unset, .unset, .unset, .unset, .unset, .unset, .unset, .unset, .unset] [])) _
    refine XS.iloadN X0.here hx rfl (hb hby at_17) rfl ?_
    show Steps p.tables e below (s₁.setTop (mkF m 18 #[.val (.int p1), .val (.int p2), .val (.int p3), .val (.int p4), .val (.int p5), .val (.int ((1 : Int32) + ((p2 &&& (2147483647 : Int32)) % (31 : Int32)))), .val (.int (p3 &&& (65535 : Int32))), .unset, .unset, .unset, .unset, .unset, .unset, .unset, .unset, .unset, .unset, .unset, .unset, .unset, .unset] [(.int p4)])) _
    refine X0.ldcInt hx hown (mvT hZ (hw _ (List.mem_of_getElem? (i := 0) rfl))) (g := (mkF m 18 #[.val (.int p1), .val (.int p2), .val (.int p3), .val (.int p4), .val (.int p5), .val (.int ((1 : Int32) + ((p2 &&& (2147483647 : Int32)) % (31 : Int32)))), .val (.int (p3 &&& (65535 : Int32))), .unset, .unset, .unset, .unset, .unset, .unset, .unset, .unset, .unset, .unset, .unset, .unset, .unset, .unset] [(.int p4)])) rfl (hb hby at_18) _ ?_
    show Steps p.tables e below (s₁.setTop (mkF m 20 #[.val (.int p1), .val (.int p2), .val (.int p3), .val (.int p4), .val (.int p5), .val (.int ((1 : Int32) + ((p2 &&& (2147483647 : Int32)) % (31 : Int32)))), .val (.int (p3 &&& (65535 : Int32))), .unset, .unset, .unset, .unset, .unset, .unset, .unset, .unset, .unset, .unset, .unset, .unset, .unset, .unset] [(.int (2147483647 : Int32)), (.int p4)])) _
    refine XS.iand X0.here hx rfl (hb hby at_20) rfl ?_
    show Steps p.tables e below (s₁.setTop (mkF m 21 #[.val (.int p1), .val (.int p2), .val (.int p3), .val (.int p4), .val (.int p5), .val (.int ((1 : Int32) + ((p2 &&& (2147483647 : Int32)) % (31 : Int32)))), .val (.int (p3 &&& (65535 : Int32))), .unset, .unset, .unset, .unset, .unset, .unset, .unset, .unset, .unset, .unset, .unset, .unset, .unset, .unset] [(.int (p4 &&& (2147483647 : Int32)))])) _
    refine XS.istore X0.here hx rfl (hb hby at_21) rfl (l' := #[.val (.int p1), .val (.int p2), .val (.int p3), .val (.int p4), .val (.int p5), .val (.int ((1 : Int32) + ((p2 &&& (2147483647 : Int32)) % (31 : Int32)))), .val (.int (p3 &&& (65535 : Int32))), .val (.int (p4 &&& (2147483647 : Int32))), .unset, .unset, .unset, .unset, .unset, .unset, .unset, .unset, .unset, .unset, .unset, .unset, .unset]) rfl ?_
    show Steps p.tables e below (s₁.setTop (mkF m 23 #[.val (.int p1), .val (.int p2), .val (.int p3), .val (.int p4), .val (.int p5), .val (.int ((1 : Int32) + ((p2 &&& (2147483647 : Int32)) % (31 : Int32)))), .val (.int (p3 &&& (65535 : Int32))), .val (.int (p4 &&& (2147483647 : Int32))), .unset, .unset, .unset, .unset, .unset, .unset, .unset, .unset, .unset, .unset, .unset, .unset, .unset] [])) _
    refine XS.iload X0.here hx rfl (hb hby at_23) rfl ?_
    show Steps p.tables e below (s₁.setTop (mkF m 25 #[.val (.int p1), .val (.int p2), .val (.int p3), .val (.int p4), .val (.int p5), .val (.int ((1 : Int32) + ((p2 &&& (2147483647 : Int32)) % (31 : Int32)))), .val (.int (p3 &&& (65535 : Int32))), .val (.int (p4 &&& (2147483647 : Int32))), .unset, .unset, .unset, .unset, .unset, .unset, .unset, .unset, .unset, .unset, .unset, .unset, .unset] [(.int p5)])) _
    refine X0.ldcInt hx hown (mvT hZ (hw _ (List.mem_of_getElem? (i := 0) rfl))) (g := (mkF m 25 #[.val (.int p1), .val (.int p2), .val (.int p3), .val (.int p4), .val (.int p5), .val (.int ((1 : Int32) + ((p2 &&& (2147483647 : Int32)) % (31 : Int32)))), .val (.int (p3 &&& (65535 : Int32))), .val (.int (p4 &&& (2147483647 : Int32))), .unset, .unset, .unset, .unset, .unset, .unset, .unset, .unset, .unset, .unset, .unset, .unset, .unset] [(.int p5)])) rfl (hb hby at_25) _ ?_
    show Steps p.tables e below (s₁.setTop (mkF m 27 #[.val (.int p1), .val (.int p2), .val (.int p3), .val (.int p4), .val (.int p5), .val (.int ((1 : Int32) + ((p2 &&& (2147483647 : Int32)) % (31 : Int32)))), .val (.int (p3 &&& (65535 : Int32))), .val (.int (p4 &&& (2147483647 : Int32))), .unset, .unset, .unset, .unset, .unset, .unset, .unset, .unset, .unset, .unset, .unset, .unset, .unset] [(.int (2147483647 : Int32)), (.int p5)])) _
    refine XS.iand X0.here hx rfl (hb hby at_27) rfl ?_
    show Steps p.tables e below (s₁.setTop (mkF m 28 #[.val (.int p1), .val (.int p2), .val (.int p3), .val (.int p4), .val (.int p5), .val (.int ((1 : Int32) + ((p2 &&& (2147483647 : Int32)) % (31 : Int32)))), .val (.int (p3 &&& (65535 : Int32))), .val (.int (p4 &&& (2147483647 : Int32))), .unset, .unset, .unset, .unset, .unset, .unset, .unset, .unset, .unset, .unset, .unset, .unset, .unset] [(.int (p5 &&& (2147483647 : Int32)))])) _
    refine XS.bipush X0.here hx rfl (hb hby at_28) ?_
    show Steps p.tables e below (s₁.setTop (mkF m 30 #[.val (.int p1), .val (.int p2), .val (.int p3), .val (.int p4), .val (.int p5), .val (.int ((1 : Int32) + ((p2 &&& (2147483647 : Int32)) % (31 : Int32)))), .val (.int (p3 &&& (65535 : Int32))), .val (.int (p4 &&& (2147483647 : Int32))), .unset, .unset, .unset, .unset, .unset, .unset, .unset, .unset, .unset, .unset, .unset, .unset, .unset] [(.int (17 : Int32)), (.int (p5 &&& (2147483647 : Int32)))])) _
    refine iremM X0 hx rfl (hb hby at_30) rfl (by decide) ?_
    show Steps p.tables e below (s₁.setTop (mkF m 31 #[.val (.int p1), .val (.int p2), .val (.int p3), .val (.int p4), .val (.int p5), .val (.int ((1 : Int32) + ((p2 &&& (2147483647 : Int32)) % (31 : Int32)))), .val (.int (p3 &&& (65535 : Int32))), .val (.int (p4 &&& (2147483647 : Int32))), .unset, .unset, .unset, .unset, .unset, .unset, .unset, .unset, .unset, .unset, .unset, .unset, .unset] [(.int ((p5 &&& (2147483647 : Int32)) % (17 : Int32)))])) _
    refine XS.istore X0.here hx rfl (hb hby at_31) rfl (l' := #[.val (.int p1), .val (.int p2), .val (.int p3), .val (.int p4), .val (.int p5), .val (.int ((1 : Int32) + ((p2 &&& (2147483647 : Int32)) % (31 : Int32)))), .val (.int (p3 &&& (65535 : Int32))), .val (.int (p4 &&& (2147483647 : Int32))), .val (.int ((p5 &&& (2147483647 : Int32)) % (17 : Int32))), .unset, .unset, .unset, .unset, .unset, .unset, .unset, .unset, .unset, .unset, .unset, .unset]) rfl ?_
    exact k
  obtain ⟨st, hst⟩ : ∃ z : Int32, z = ((1 : Int32) + ((p2 &&& (2147483647 : Int32)) % (31 : Int32))) := ⟨_, rfl⟩
  have R2 : ∀ t, Steps p.tables e below (s₁.setTop (mkF m 33 #[.val (.int p1), .val (.int p2), .val (.int p3), .val (.int p4), .val (.int p5), .val (.int st), .val (.int (p3 &&& (65535 : Int32))), .val (.int (p4 &&& (2147483647 : Int32))), .val (.int ((p5 &&& (2147483647 : Int32)) % (17 : Int32))), .unset, .unset, .unset, .unset, .unset, .unset, .unset, .unset, .unset, .unset, .unset, .unset] [])) t → Steps p.tables e below (s₁.setTop (entryFrame m #[(.int p1), (.int p2), (.int p3), (.int p4), (.int p5)] maxLocals)) t := by rw [hst]; exact R1
  obtain ⟨pa, hpa⟩ : ∃ z : Int32, z = (p3 &&& (65535 : Int32)) := ⟨_, rfl⟩
  have R3 : ∀ t, Steps p.tables e below (s₁.setTop (mkF m 33 #[.val (.int p1), .val (.int p2), .val (.int p3), .val (.int p4), .val (.int p5), .val (.int st), .val (.int pa), .val (.int (p4 &&& (2147483647 : Int32))), .val (.int ((p5 &&& (2147483647 : Int32)) % (17 : Int32))), .unset, .unset, .unset, .unset, .unset, .unset, .unset, .unset, .unset, .unset, .unset, .unset] [])) t → Steps p.tables e below (s₁.setTop (entryFrame m #[(.int p1), (.int p2), (.int p3), (.int p4), (.int p5)] maxLocals)) t := by rw [hpa]; exact R2
  obtain ⟨no, hno⟩ : ∃ z : Int32, z = (p4 &&& (2147483647 : Int32)) := ⟨_, rfl⟩
  have R4 : ∀ t, Steps p.tables e below (s₁.setTop (mkF m 33 #[.val (.int p1), .val (.int p2), .val (.int p3), .val (.int p4), .val (.int p5), .val (.int st), .val (.int pa), .val (.int no), .val (.int ((p5 &&& (2147483647 : Int32)) % (17 : Int32))), .unset, .unset, .unset, .unset, .unset, .unset, .unset, .unset, .unset, .unset, .unset, .unset] [])) t → Steps p.tables e below (s₁.setTop (entryFrame m #[(.int p1), (.int p2), (.int p3), (.int p4), (.int p5)] maxLocals)) t := by rw [hno]; exact R3
  obtain ⟨cb, hcb⟩ : ∃ z : Int32, z = ((p5 &&& (2147483647 : Int32)) % (17 : Int32)) := ⟨_, rfl⟩
  have R5 : ∀ t, Steps p.tables e below (s₁.setTop (mkF m 33 #[.val (.int p1), .val (.int p2), .val (.int p3), .val (.int p4), .val (.int p5), .val (.int st), .val (.int pa), .val (.int no), .val (.int cb), .unset, .unset, .unset, .unset, .unset, .unset, .unset, .unset, .unset, .unset, .unset, .unset] [])) t → Steps p.tables e below (s₁.setTop (entryFrame m #[(.int p1), (.int p2), (.int p3), (.int p4), (.int p5)] maxLocals)) t := by rw [hcb]; exact R4
  have R6 : ∀ t, Steps p.tables e below (s₁.setTop (mkF m 42 #[.val (.int p1), .val (.int p2), .val (.int p3), .val (.int p4), .val (.int p5), .val (.int st), .val (.int pa), .val (.int no), .val (.int cb), .unset, .unset, .unset, .unset, .unset, .unset, .unset, .unset, .unset, .unset, .unset, .unset] [(.int cb), (.int no), (.int pa), (.int st), (.int p1)])) t → Steps p.tables e below (s₁.setTop (entryFrame m #[(.int p1), (.int p2), (.int p3), (.int p4), (.int p5)] maxLocals)) t := by
    intro t k
    refine R5 t ?_
    show Steps p.tables e below (s₁.setTop (mkF m 33 #[.val (.int p1), .val (.int p2), .val (.int p3), .val (.int p4), .val (.int p5), .val (.int st), .val (.int pa), .val (.int no), .val (.int cb), .unset, .unset, .unset, .unset, .unset, .unset, .unset, .unset, .unset, .unset, .unset, .unset] [])) _
    refine XS.iloadN X0.here hx rfl (hb hby at_33) rfl ?_
    show Steps p.tables e below (s₁.setTop (mkF m 34 #[.val (.int p1), .val (.int p2), .val (.int p3), .val (.int p4), .val (.int p5), .val (.int st), .val (.int pa), .val (.int no), .val (.int cb), .unset, .unset, .unset, .unset, .unset, .unset, .unset, .unset, .unset, .unset, .unset, .unset] [(.int p1)])) _
    refine XS.iload X0.here hx rfl (hb hby at_34) rfl ?_
    show Steps p.tables e below (s₁.setTop (mkF m 36 #[.val (.int p1), .val (.int p2), .val (.int p3), .val (.int p4), .val (.int p5), .val (.int st), .val (.int pa), .val (.int no), .val (.int cb), .unset, .unset, .unset, .unset, .unset, .unset, .unset, .unset, .unset, .unset, .unset, .unset] [(.int st), (.int p1)])) _
    refine XS.iload X0.here hx rfl (hb hby at_36) rfl ?_
    show Steps p.tables e below (s₁.setTop (mkF m 38 #[.val (.int p1), .val (.int p2), .val (.int p3), .val (.int p4), .val (.int p5), .val (.int st), .val (.int pa), .val (.int no), .val (.int cb), .unset, .unset, .unset, .unset, .unset, .unset, .unset, .unset, .unset, .unset, .unset, .unset] [(.int pa), (.int st), (.int p1)])) _
    refine XS.iload X0.here hx rfl (hb hby at_38) rfl ?_
    show Steps p.tables e below (s₁.setTop (mkF m 40 #[.val (.int p1), .val (.int p2), .val (.int p3), .val (.int p4), .val (.int p5), .val (.int st), .val (.int pa), .val (.int no), .val (.int cb), .unset, .unset, .unset, .unset, .unset, .unset, .unset, .unset, .unset, .unset, .unset, .unset] [(.int no), (.int pa), (.int st), (.int p1)])) _
    refine XS.iload X0.here hx rfl (hb hby at_40) rfl ?_
    exact k
  obtain ⟨_, _, ⟨T7, L7, k7, n7⟩, -, X7, ⟨Lc7, hQ7, l7, y7, z7⟩, st7⟩ := Jvm.LawKit.callS X0 hx (y := (⟨"com/example/terse_graph/tersegraph/BvPlusCodec", "stripeBytes", "(IIIII)J"⟩ : MethodName)) hown (mvT hZ (hw _ (List.mem_of_getElem? (i := 2) rfl))) (mvT hZ (hw _ (List.mem_of_getElem? (i := 3) rfl))) (mvT hZ (hw _ (List.mem_of_getElem? (i := 4) rfl))) (mvT hZ (hw _ (List.mem_of_getElem? (i := 5) rfl))) (by decide) (backOf (W := 0) (rm1 l Z a0 hw [] p1 st pa no cb  h0 n0 Z0 ) hZ (hw _ (List.mem_of_getElem? (i := 5) rfl)) (hw _ (List.mem_of_getElem? (i := 4) rfl)) (by decide) (by decide)) (g := (mkF m 42 #[.val (.int p1), .val (.int p2), .val (.int p3), .val (.int p4), .val (.int p5), .val (.int st), .val (.int pa), .val (.int no), .val (.int cb), .unset, .unset, .unset, .unset, .unset, .unset, .unset, .unset, .unset, .unset, .unset, .unset] [(.int cb), (.int no), (.int pa), (.int st), (.int p1)])) rfl (by rw [hml]; rfl) (argsL := [(.int p1), (.int st), (.int pa), (.int no), (.int cb)]) (rest := []) (lenOf own_pd0 rfl) rfl (by show 2 * 0 + _ ≤ _; exact Nat.le_of_eq rfl) (hb hby at_42) (fun _ _ => ⟨rfl, e0, (by decide : 0 + 0 ≤ _), (by decide : 0 + 0 ≤ _)⟩)
  dsimp only [Pt.U, Pt.locs, Pt.cells, Pt.slots] at X7 l7 y7 z7 st7 hQ7
  subst l7 y7 z7
  obtain ⟨rfl, Nq7, eq7⟩ := hQ7
  have N7 := Fr.app N0 Nq7
  have R7 : ∀ t, Steps p.tables e below (T7.setTop (mkF m 45 #[.val (.int p1), .val (.int p2), .val (.int p3), .val (.int p4), .val (.int p5), .val (.int st), .val (.int pa), .val (.int no), .val (.int cb), .unset, .unset, .unset, .unset, .unset, .unset, .unset, .unset, .unset, .unset, .unset, .unset] [(.long (p1.toInt64 + ((((((2 : Int64) * st.toInt64) + (1 : Int64)) * pa.toInt64) + (no.toInt64 * cb.toInt64) + (7 : Int64)) / (8 : Int64))))])) t → Steps p.tables e below (s₁.setTop (entryFrame m #[(.int p1), (.int p2), (.int p3), (.int p4), (.int p5)] maxLocals)) t := fun t k => R6 t (st7 t k)
  have R8 : ∀ t, Steps p.tables e below (T7.setTop (mkF m 87 #[.val (.int p1), .val (.int p2), .val (.int p3), .val (.int p4), .val (.int p5), .val (.int st), .val (.int pa), .val (.int no), .val (.int cb), .val (.long (p1.toInt64 + ((((((2 : Int64) * st.toInt64) + (1 : Int64)) * pa.toInt64) + (no.toInt64 * cb.toInt64) + (7 : Int64)) / (8 : Int64)))), .second, .val (.long ((((pa.toInt64) * (st.toInt64)) * (2 : Int64)) + (pa.toInt64))), .second, .val (.long ((no.toInt64) * (cb.toInt64))), .second, .val (.long (((((pa.toInt64) * (st.toInt64)) * (2 : Int64)) + (pa.toInt64)) + ((no.toInt64) * (cb.toInt64)))), .second, .val (.long ((p1.toInt64 + ((((((2 : Int64) * st.toInt64) + (1 : Int64)) * pa.toInt64) + (no.toInt64 * cb.toInt64) + (7 : Int64)) / (8 : Int64))) - (p1.toInt64))), .second, .unset, .unset] [])) t → Steps p.tables e below (s₁.setTop (entryFrame m #[(.int p1), (.int p2), (.int p3), (.int p4), (.int p5)] maxLocals)) t := by
    intro t k
    refine R7 t ?_
    show Steps p.tables e below (T7.setTop (mkF m 45 #[.val (.int p1), .val (.int p2), .val (.int p3), .val (.int p4), .val (.int p5), .val (.int st), .val (.int pa), .val (.int no), .val (.int cb), .unset, .unset, .unset, .unset, .unset, .unset, .unset, .unset, .unset, .unset, .unset, .unset] [(.long (p1.toInt64 + ((((((2 : Int64) * st.toInt64) + (1 : Int64)) * pa.toInt64) + (no.toInt64 * cb.toInt64) + (7 : Int64)) / (8 : Int64))))])) _
    refine XS.lstore X7.here hx rfl (hb hby at_45) rfl (l' := #[.val (.int p1), .val (.int p2), .val (.int p3), .val (.int p4), .val (.int p5), .val (.int st), .val (.int pa), .val (.int no), .val (.int cb), .val (.long (p1.toInt64 + ((((((2 : Int64) * st.toInt64) + (1 : Int64)) * pa.toInt64) + (no.toInt64 * cb.toInt64) + (7 : Int64)) / (8 : Int64)))), .second, .unset, .unset, .unset, .unset, .unset, .unset, .unset, .unset, .unset, .unset]) rfl ?_
    show Steps p.tables e below (T7.setTop (mkF m 47 #[.val (.int p1), .val (.int p2), .val (.int p3), .val (.int p4), .val (.int p5), .val (.int st), .val (.int pa), .val (.int no), .val (.int cb), .val (.long (p1.toInt64 + ((((((2 : Int64) * st.toInt64) + (1 : Int64)) * pa.toInt64) + (no.toInt64 * cb.toInt64) + (7 : Int64)) / (8 : Int64)))), .second, .unset, .unset, .unset, .unset, .unset, .unset, .unset, .unset, .unset, .unset] [])) _
    refine XS.iload X7.here hx rfl (hb hby at_47) rfl ?_
    show Steps p.tables e below (T7.setTop (mkF m 49 #[.val (.int p1), .val (.int p2), .val (.int p3), .val (.int p4), .val (.int p5), .val (.int st), .val (.int pa), .val (.int no), .val (.int cb), .val (.long (p1.toInt64 + ((((((2 : Int64) * st.toInt64) + (1 : Int64)) * pa.toInt64) + (no.toInt64 * cb.toInt64) + (7 : Int64)) / (8 : Int64)))), .second, .unset, .unset, .unset, .unset, .unset, .unset, .unset, .unset, .unset, .unset] [(.int pa)])) _
    refine XS.i2l X7.here hx rfl (hb hby at_49) rfl ?_
    show Steps p.tables e below (T7.setTop (mkF m 50 #[.val (.int p1), .val (.int p2), .val (.int p3), .val (.int p4), .val (.int p5), .val (.int st), .val (.int pa), .val (.int no), .val (.int cb), .val (.long (p1.toInt64 + ((((((2 : Int64) * st.toInt64) + (1 : Int64)) * pa.toInt64) + (no.toInt64 * cb.toInt64) + (7 : Int64)) / (8 : Int64)))), .second, .unset, .unset, .unset, .unset, .unset, .unset, .unset, .unset, .unset, .unset] [(.long (pa.toInt64))])) _
    refine XS.iload X7.here hx rfl (hb hby at_50) rfl ?_
    show Steps p.tables e below (T7.setTop (mkF m 52 #[.val (.int p1), .val (.int p2), .val (.int p3), .val (.int p4), .val (.int p5), .val (.int st), .val (.int pa), .val (.int no), .val (.int cb), .val (.long (p1.toInt64 + ((((((2 : Int64) * st.toInt64) + (1 : Int64)) * pa.toInt64) + (no.toInt64 * cb.toInt64) + (7 : Int64)) / (8 : Int64)))), .second, .unset, .unset, .unset, .unset, .unset, .unset, .unset, .unset, .unset, .unset] [(.int st), (.long (pa.toInt64))])) _
    refine XS.i2l X7.here hx rfl (hb hby at_52) rfl ?_
    show Steps p.tables e below (T7.setTop (mkF m 53 #[.val (.int p1), .val (.int p2), .val (.int p3), .val (.int p4), .val (.int p5), .val (.int st), .val (.int pa), .val (.int no), .val (.int cb), .val (.long (p1.toInt64 + ((((((2 : Int64) * st.toInt64) + (1 : Int64)) * pa.toInt64) + (no.toInt64 * cb.toInt64) + (7 : Int64)) / (8 : Int64)))), .second, .unset, .unset, .unset, .unset, .unset, .unset, .unset, .unset, .unset, .unset] [(.long (st.toInt64)), (.long (pa.toInt64))])) _
    refine XS.lmul X7.here hx rfl (hb hby at_53) rfl ?_
    show Steps p.tables e below (T7.setTop (mkF m 54 #[.val (.int p1), .val (.int p2), .val (.int p3), .val (.int p4), .val (.int p5), .val (.int st), .val (.int pa), .val (.int no), .val (.int cb), .val (.long (p1.toInt64 + ((((((2 : Int64) * st.toInt64) + (1 : Int64)) * pa.toInt64) + (no.toInt64 * cb.toInt64) + (7 : Int64)) / (8 : Int64)))), .second, .unset, .unset, .unset, .unset, .unset, .unset, .unset, .unset, .unset, .unset] [(.long ((pa.toInt64) * (st.toInt64)))])) _
    refine X7.ldc2Long hx hown (mvT hZ (hw _ (List.mem_of_getElem? (i := 9) rfl))) (g := (mkF m 54 #[.val (.int p1), .val (.int p2), .val (.int p3), .val (.int p4), .val (.int p5), .val (.int st), .val (.int pa), .val (.int no), .val (.int cb), .val (.long (p1.toInt64 + ((((((2 : Int64) * st.toInt64) + (1 : Int64)) * pa.toInt64) + (no.toInt64 * cb.toInt64) + (7 : Int64)) / (8 : Int64)))), .second, .unset, .unset, .unset, .unset, .unset, .unset, .unset, .unset, .unset, .unset] [(.long ((pa.toInt64) * (st.toInt64)))])) rfl (hb hby at_54) _ ?_
    show Steps p.tables e below (T7.setTop (mkF m 57 #[.val (.int p1), .val (.int p2), .val (.int p3), .val (.int p4), .val (.int p5), .val (.int st), .val (.int pa), .val (.int no), .val (.int cb), .val (.long (p1.toInt64 + ((((((2 : Int64) * st.toInt64) + (1 : Int64)) * pa.toInt64) + (no.toInt64 * cb.toInt64) + (7 : Int64)) / (8 : Int64)))), .second, .unset, .unset, .unset, .unset, .unset, .unset, .unset, .unset, .unset, .unset] [(.long (2 : Int64)), (.long ((pa.toInt64) * (st.toInt64)))])) _
    refine XS.lmul X7.here hx rfl (hb hby at_57) rfl ?_
    show Steps p.tables e below (T7.setTop (mkF m 58 #[.val (.int p1), .val (.int p2), .val (.int p3), .val (.int p4), .val (.int p5), .val (.int st), .val (.int pa), .val (.int no), .val (.int cb), .val (.long (p1.toInt64 + ((((((2 : Int64) * st.toInt64) + (1 : Int64)) * pa.toInt64) + (no.toInt64 * cb.toInt64) + (7 : Int64)) / (8 : Int64)))), .second, .unset, .unset, .unset, .unset, .unset, .unset, .unset, .unset, .unset, .unset] [(.long (((pa.toInt64) * (st.toInt64)) * (2 : Int64)))])) _
    refine XS.iload X7.here hx rfl (hb hby at_58) rfl ?_
    show Steps p.tables e below (T7.setTop (mkF m 60 #[.val (.int p1), .val (.int p2), .val (.int p3), .val (.int p4), .val (.int p5), .val (.int st), .val (.int pa), .val (.int no), .val (.int cb), .val (.long (p1.toInt64 + ((((((2 : Int64) * st.toInt64) + (1 : Int64)) * pa.toInt64) + (no.toInt64 * cb.toInt64) + (7 : Int64)) / (8 : Int64)))), .second, .unset, .unset, .unset, .unset, .unset, .unset, .unset, .unset, .unset, .unset] [(.int pa), (.long (((pa.toInt64) * (st.toInt64)) * (2 : Int64)))])) _
    refine XS.i2l X7.here hx rfl (hb hby at_60) rfl ?_
    show Steps p.tables e below (T7.setTop (mkF m 61 #[.val (.int p1), .val (.int p2), .val (.int p3), .val (.int p4), .val (.int p5), .val (.int st), .val (.int pa), .val (.int no), .val (.int cb), .val (.long (p1.toInt64 + ((((((2 : Int64) * st.toInt64) + (1 : Int64)) * pa.toInt64) + (no.toInt64 * cb.toInt64) + (7 : Int64)) / (8 : Int64)))), .second, .unset, .unset, .unset, .unset, .unset, .unset, .unset, .unset, .unset, .unset] [(.long (pa.toInt64)), (.long (((pa.toInt64) * (st.toInt64)) * (2 : Int64)))])) _
    refine XS.ladd X7.here hx rfl (hb hby at_61) rfl ?_
    show Steps p.tables e below (T7.setTop (mkF m 62 #[.val (.int p1), .val (.int p2), .val (.int p3), .val (.int p4), .val (.int p5), .val (.int st), .val (.int pa), .val (.int no), .val (.int cb), .val (.long (p1.toInt64 + ((((((2 : Int64) * st.toInt64) + (1 : Int64)) * pa.toInt64) + (no.toInt64 * cb.toInt64) + (7 : Int64)) / (8 : Int64)))), .second, .unset, .unset, .unset, .unset, .unset, .unset, .unset, .unset, .unset, .unset] [(.long ((((pa.toInt64) * (st.toInt64)) * (2 : Int64)) + (pa.toInt64)))])) _
    refine XS.lstore X7.here hx rfl (hb hby at_62) rfl (l' := #[.val (.int p1), .val (.int p2), .val (.int p3), .val (.int p4), .val (.int p5), .val (.int st), .val (.int pa), .val (.int no), .val (.int cb), .val (.long (p1.toInt64 + ((((((2 : Int64) * st.toInt64) + (1 : Int64)) * pa.toInt64) + (no.toInt64 * cb.toInt64) + (7 : Int64)) / (8 : Int64)))), .second, .val (.long ((((pa.toInt64) * (st.toInt64)) * (2 : Int64)) + (pa.toInt64))), .second, .unset, .unset, .unset, .unset, .unset, .unset, .unset, .unset]) rfl ?_
    show Steps p.tables e below (T7.setTop (mkF m 64 #[.val (.int p1), .val (.int p2), .val (.int p3), .val (.int p4), .val (.int p5), .val (.int st), .val (.int pa), .val (.int no), .val (.int cb), .val (.long (p1.toInt64 + ((((((2 : Int64) * st.toInt64) + (1 : Int64)) * pa.toInt64) + (no.toInt64 * cb.toInt64) + (7 : Int64)) / (8 : Int64)))), .second, .val (.long ((((pa.toInt64) * (st.toInt64)) * (2 : Int64)) + (pa.toInt64))), .second, .unset, .unset, .unset, .unset, .unset, .unset, .unset, .unset] [])) _
    refine XS.iload X7.here hx rfl (hb hby at_64) rfl ?_
    show Steps p.tables e below (T7.setTop (mkF m 66 #[.val (.int p1), .val (.int p2), .val (.int p3), .val (.int p4), .val (.int p5), .val (.int st), .val (.int pa), .val (.int no), .val (.int cb), .val (.long (p1.toInt64 + ((((((2 : Int64) * st.toInt64) + (1 : Int64)) * pa.toInt64) + (no.toInt64 * cb.toInt64) + (7 : Int64)) / (8 : Int64)))), .second, .val (.long ((((pa.toInt64) * (st.toInt64)) * (2 : Int64)) + (pa.toInt64))), .second, .unset, .unset, .unset, .unset, .unset, .unset, .unset, .unset] [(.int no)])) _
    refine XS.i2l X7.here hx rfl (hb hby at_66) rfl ?_
    show Steps p.tables e below (T7.setTop (mkF m 67 #[.val (.int p1), .val (.int p2), .val (.int p3), .val (.int p4), .val (.int p5), .val (.int st), .val (.int pa), .val (.int no), .val (.int cb), .val (.long (p1.toInt64 + ((((((2 : Int64) * st.toInt64) + (1 : Int64)) * pa.toInt64) + (no.toInt64 * cb.toInt64) + (7 : Int64)) / (8 : Int64)))), .second, .val (.long ((((pa.toInt64) * (st.toInt64)) * (2 : Int64)) + (pa.toInt64))), .second, .unset, .unset, .unset, .unset, .unset, .unset, .unset, .unset] [(.long (no.toInt64))])) _
    refine XS.iload X7.here hx rfl (hb hby at_67) rfl ?_
    show Steps p.tables e below (T7.setTop (mkF m 69 #[.val (.int p1), .val (.int p2), .val (.int p3), .val (.int p4), .val (.int p5), .val (.int st), .val (.int pa), .val (.int no), .val (.int cb), .val (.long (p1.toInt64 + ((((((2 : Int64) * st.toInt64) + (1 : Int64)) * pa.toInt64) + (no.toInt64 * cb.toInt64) + (7 : Int64)) / (8 : Int64)))), .second, .val (.long ((((pa.toInt64) * (st.toInt64)) * (2 : Int64)) + (pa.toInt64))), .second, .unset, .unset, .unset, .unset, .unset, .unset, .unset, .unset] [(.int cb), (.long (no.toInt64))])) _
    refine XS.i2l X7.here hx rfl (hb hby at_69) rfl ?_
    show Steps p.tables e below (T7.setTop (mkF m 70 #[.val (.int p1), .val (.int p2), .val (.int p3), .val (.int p4), .val (.int p5), .val (.int st), .val (.int pa), .val (.int no), .val (.int cb), .val (.long (p1.toInt64 + ((((((2 : Int64) * st.toInt64) + (1 : Int64)) * pa.toInt64) + (no.toInt64 * cb.toInt64) + (7 : Int64)) / (8 : Int64)))), .second, .val (.long ((((pa.toInt64) * (st.toInt64)) * (2 : Int64)) + (pa.toInt64))), .second, .unset, .unset, .unset, .unset, .unset, .unset, .unset, .unset] [(.long (cb.toInt64)), (.long (no.toInt64))])) _
    refine XS.lmul X7.here hx rfl (hb hby at_70) rfl ?_
    show Steps p.tables e below (T7.setTop (mkF m 71 #[.val (.int p1), .val (.int p2), .val (.int p3), .val (.int p4), .val (.int p5), .val (.int st), .val (.int pa), .val (.int no), .val (.int cb), .val (.long (p1.toInt64 + ((((((2 : Int64) * st.toInt64) + (1 : Int64)) * pa.toInt64) + (no.toInt64 * cb.toInt64) + (7 : Int64)) / (8 : Int64)))), .second, .val (.long ((((pa.toInt64) * (st.toInt64)) * (2 : Int64)) + (pa.toInt64))), .second, .unset, .unset, .unset, .unset, .unset, .unset, .unset, .unset] [(.long ((no.toInt64) * (cb.toInt64)))])) _
    refine XS.lstore X7.here hx rfl (hb hby at_71) rfl (l' := #[.val (.int p1), .val (.int p2), .val (.int p3), .val (.int p4), .val (.int p5), .val (.int st), .val (.int pa), .val (.int no), .val (.int cb), .val (.long (p1.toInt64 + ((((((2 : Int64) * st.toInt64) + (1 : Int64)) * pa.toInt64) + (no.toInt64 * cb.toInt64) + (7 : Int64)) / (8 : Int64)))), .second, .val (.long ((((pa.toInt64) * (st.toInt64)) * (2 : Int64)) + (pa.toInt64))), .second, .val (.long ((no.toInt64) * (cb.toInt64))), .second, .unset, .unset, .unset, .unset, .unset, .unset]) rfl ?_
    show Steps p.tables e below (T7.setTop (mkF m 73 #[.val (.int p1), .val (.int p2), .val (.int p3), .val (.int p4), .val (.int p5), .val (.int st), .val (.int pa), .val (.int no), .val (.int cb), .val (.long (p1.toInt64 + ((((((2 : Int64) * st.toInt64) + (1 : Int64)) * pa.toInt64) + (no.toInt64 * cb.toInt64) + (7 : Int64)) / (8 : Int64)))), .second, .val (.long ((((pa.toInt64) * (st.toInt64)) * (2 : Int64)) + (pa.toInt64))), .second, .val (.long ((no.toInt64) * (cb.toInt64))), .second, .unset, .unset, .unset, .unset, .unset, .unset] [])) _
    refine XS.lload X7.here hx rfl (hb hby at_73) rfl ?_
    show Steps p.tables e below (T7.setTop (mkF m 75 #[.val (.int p1), .val (.int p2), .val (.int p3), .val (.int p4), .val (.int p5), .val (.int st), .val (.int pa), .val (.int no), .val (.int cb), .val (.long (p1.toInt64 + ((((((2 : Int64) * st.toInt64) + (1 : Int64)) * pa.toInt64) + (no.toInt64 * cb.toInt64) + (7 : Int64)) / (8 : Int64)))), .second, .val (.long ((((pa.toInt64) * (st.toInt64)) * (2 : Int64)) + (pa.toInt64))), .second, .val (.long ((no.toInt64) * (cb.toInt64))), .second, .unset, .unset, .unset, .unset, .unset, .unset] [(.long ((((pa.toInt64) * (st.toInt64)) * (2 : Int64)) + (pa.toInt64)))])) _
    refine XS.lload X7.here hx rfl (hb hby at_75) rfl ?_
    show Steps p.tables e below (T7.setTop (mkF m 77 #[.val (.int p1), .val (.int p2), .val (.int p3), .val (.int p4), .val (.int p5), .val (.int st), .val (.int pa), .val (.int no), .val (.int cb), .val (.long (p1.toInt64 + ((((((2 : Int64) * st.toInt64) + (1 : Int64)) * pa.toInt64) + (no.toInt64 * cb.toInt64) + (7 : Int64)) / (8 : Int64)))), .second, .val (.long ((((pa.toInt64) * (st.toInt64)) * (2 : Int64)) + (pa.toInt64))), .second, .val (.long ((no.toInt64) * (cb.toInt64))), .second, .unset, .unset, .unset, .unset, .unset, .unset] [(.long ((no.toInt64) * (cb.toInt64))), (.long ((((pa.toInt64) * (st.toInt64)) * (2 : Int64)) + (pa.toInt64)))])) _
    refine XS.ladd X7.here hx rfl (hb hby at_77) rfl ?_
    show Steps p.tables e below (T7.setTop (mkF m 78 #[.val (.int p1), .val (.int p2), .val (.int p3), .val (.int p4), .val (.int p5), .val (.int st), .val (.int pa), .val (.int no), .val (.int cb), .val (.long (p1.toInt64 + ((((((2 : Int64) * st.toInt64) + (1 : Int64)) * pa.toInt64) + (no.toInt64 * cb.toInt64) + (7 : Int64)) / (8 : Int64)))), .second, .val (.long ((((pa.toInt64) * (st.toInt64)) * (2 : Int64)) + (pa.toInt64))), .second, .val (.long ((no.toInt64) * (cb.toInt64))), .second, .unset, .unset, .unset, .unset, .unset, .unset] [(.long (((((pa.toInt64) * (st.toInt64)) * (2 : Int64)) + (pa.toInt64)) + ((no.toInt64) * (cb.toInt64))))])) _
    refine XS.lstore X7.here hx rfl (hb hby at_78) rfl (l' := #[.val (.int p1), .val (.int p2), .val (.int p3), .val (.int p4), .val (.int p5), .val (.int st), .val (.int pa), .val (.int no), .val (.int cb), .val (.long (p1.toInt64 + ((((((2 : Int64) * st.toInt64) + (1 : Int64)) * pa.toInt64) + (no.toInt64 * cb.toInt64) + (7 : Int64)) / (8 : Int64)))), .second, .val (.long ((((pa.toInt64) * (st.toInt64)) * (2 : Int64)) + (pa.toInt64))), .second, .val (.long ((no.toInt64) * (cb.toInt64))), .second, .val (.long (((((pa.toInt64) * (st.toInt64)) * (2 : Int64)) + (pa.toInt64)) + ((no.toInt64) * (cb.toInt64)))), .second, .unset, .unset, .unset, .unset]) rfl ?_
    show Steps p.tables e below (T7.setTop (mkF m 80 #[.val (.int p1), .val (.int p2), .val (.int p3), .val (.int p4), .val (.int p5), .val (.int st), .val (.int pa), .val (.int no), .val (.int cb), .val (.long (p1.toInt64 + ((((((2 : Int64) * st.toInt64) + (1 : Int64)) * pa.toInt64) + (no.toInt64 * cb.toInt64) + (7 : Int64)) / (8 : Int64)))), .second, .val (.long ((((pa.toInt64) * (st.toInt64)) * (2 : Int64)) + (pa.toInt64))), .second, .val (.long ((no.toInt64) * (cb.toInt64))), .second, .val (.long (((((pa.toInt64) * (st.toInt64)) * (2 : Int64)) + (pa.toInt64)) + ((no.toInt64) * (cb.toInt64)))), .second, .unset, .unset, .unset, .unset] [])) _
    refine XS.lload X7.here hx rfl (hb hby at_80) rfl ?_
    show Steps p.tables e below (T7.setTop (mkF m 82 #[.val (.int p1), .val (.int p2), .val (.int p3), .val (.int p4), .val (.int p5), .val (.int st), .val (.int pa), .val (.int no), .val (.int cb), .val (.long (p1.toInt64 + ((((((2 : Int64) * st.toInt64) + (1 : Int64)) * pa.toInt64) + (no.toInt64 * cb.toInt64) + (7 : Int64)) / (8 : Int64)))), .second, .val (.long ((((pa.toInt64) * (st.toInt64)) * (2 : Int64)) + (pa.toInt64))), .second, .val (.long ((no.toInt64) * (cb.toInt64))), .second, .val (.long (((((pa.toInt64) * (st.toInt64)) * (2 : Int64)) + (pa.toInt64)) + ((no.toInt64) * (cb.toInt64)))), .second, .unset, .unset, .unset, .unset] [(.long (p1.toInt64 + ((((((2 : Int64) * st.toInt64) + (1 : Int64)) * pa.toInt64) + (no.toInt64 * cb.toInt64) + (7 : Int64)) / (8 : Int64))))])) _
    refine XS.iloadN X7.here hx rfl (hb hby at_82) rfl ?_
    show Steps p.tables e below (T7.setTop (mkF m 83 #[.val (.int p1), .val (.int p2), .val (.int p3), .val (.int p4), .val (.int p5), .val (.int st), .val (.int pa), .val (.int no), .val (.int cb), .val (.long (p1.toInt64 + ((((((2 : Int64) * st.toInt64) + (1 : Int64)) * pa.toInt64) + (no.toInt64 * cb.toInt64) + (7 : Int64)) / (8 : Int64)))), .second, .val (.long ((((pa.toInt64) * (st.toInt64)) * (2 : Int64)) + (pa.toInt64))), .second, .val (.long ((no.toInt64) * (cb.toInt64))), .second, .val (.long (((((pa.toInt64) * (st.toInt64)) * (2 : Int64)) + (pa.toInt64)) + ((no.toInt64) * (cb.toInt64)))), .second, .unset, .unset, .unset, .unset] [(.int p1), (.long (p1.toInt64 + ((((((2 : Int64) * st.toInt64) + (1 : Int64)) * pa.toInt64) + (no.toInt64 * cb.toInt64) + (7 : Int64)) / (8 : Int64))))])) _
    refine XS.i2l X7.here hx rfl (hb hby at_83) rfl ?_
    show Steps p.tables e below (T7.setTop (mkF m 84 #[.val (.int p1), .val (.int p2), .val (.int p3), .val (.int p4), .val (.int p5), .val (.int st), .val (.int pa), .val (.int no), .val (.int cb), .val (.long (p1.toInt64 + ((((((2 : Int64) * st.toInt64) + (1 : Int64)) * pa.toInt64) + (no.toInt64 * cb.toInt64) + (7 : Int64)) / (8 : Int64)))), .second, .val (.long ((((pa.toInt64) * (st.toInt64)) * (2 : Int64)) + (pa.toInt64))), .second, .val (.long ((no.toInt64) * (cb.toInt64))), .second, .val (.long (((((pa.toInt64) * (st.toInt64)) * (2 : Int64)) + (pa.toInt64)) + ((no.toInt64) * (cb.toInt64)))), .second, .unset, .unset, .unset, .unset] [(.long (p1.toInt64)), (.long (p1.toInt64 + ((((((2 : Int64) * st.toInt64) + (1 : Int64)) * pa.toInt64) + (no.toInt64 * cb.toInt64) + (7 : Int64)) / (8 : Int64))))])) _
    refine XS.lsub X7.here hx rfl (hb hby at_84) rfl ?_
    show Steps p.tables e below (T7.setTop (mkF m 85 #[.val (.int p1), .val (.int p2), .val (.int p3), .val (.int p4), .val (.int p5), .val (.int st), .val (.int pa), .val (.int no), .val (.int cb), .val (.long (p1.toInt64 + ((((((2 : Int64) * st.toInt64) + (1 : Int64)) * pa.toInt64) + (no.toInt64 * cb.toInt64) + (7 : Int64)) / (8 : Int64)))), .second, .val (.long ((((pa.toInt64) * (st.toInt64)) * (2 : Int64)) + (pa.toInt64))), .second, .val (.long ((no.toInt64) * (cb.toInt64))), .second, .val (.long (((((pa.toInt64) * (st.toInt64)) * (2 : Int64)) + (pa.toInt64)) + ((no.toInt64) * (cb.toInt64)))), .second, .unset, .unset, .unset, .unset] [(.long ((p1.toInt64 + ((((((2 : Int64) * st.toInt64) + (1 : Int64)) * pa.toInt64) + (no.toInt64 * cb.toInt64) + (7 : Int64)) / (8 : Int64))) - (p1.toInt64)))])) _
    refine XS.lstore X7.here hx rfl (hb hby at_85) rfl (l' := #[.val (.int p1), .val (.int p2), .val (.int p3), .val (.int p4), .val (.int p5), .val (.int st), .val (.int pa), .val (.int no), .val (.int cb), .val (.long (p1.toInt64 + ((((((2 : Int64) * st.toInt64) + (1 : Int64)) * pa.toInt64) + (no.toInt64 * cb.toInt64) + (7 : Int64)) / (8 : Int64)))), .second, .val (.long ((((pa.toInt64) * (st.toInt64)) * (2 : Int64)) + (pa.toInt64))), .second, .val (.long ((no.toInt64) * (cb.toInt64))), .second, .val (.long (((((pa.toInt64) * (st.toInt64)) * (2 : Int64)) + (pa.toInt64)) + ((no.toInt64) * (cb.toInt64)))), .second, .val (.long ((p1.toInt64 + ((((((2 : Int64) * st.toInt64) + (1 : Int64)) * pa.toInt64) + (no.toInt64 * cb.toInt64) + (7 : Int64)) / (8 : Int64))) - (p1.toInt64))), .second, .unset, .unset]) rfl ?_
    exact k
  obtain ⟨bits, hbits⟩ : ∃ z : Int64, z = (((((pa.toInt64) * (st.toInt64)) * (2 : Int64)) + (pa.toInt64)) + ((no.toInt64) * (cb.toInt64))) := ⟨_, rfl⟩
  have R9 : ∀ t, Steps p.tables e below (T7.setTop (mkF m 87 #[.val (.int p1), .val (.int p2), .val (.int p3), .val (.int p4), .val (.int p5), .val (.int st), .val (.int pa), .val (.int no), .val (.int cb), .val (.long (p1.toInt64 + ((((((2 : Int64) * st.toInt64) + (1 : Int64)) * pa.toInt64) + (no.toInt64 * cb.toInt64) + (7 : Int64)) / (8 : Int64)))), .second, .val (.long ((((pa.toInt64) * (st.toInt64)) * (2 : Int64)) + (pa.toInt64))), .second, .val (.long ((no.toInt64) * (cb.toInt64))), .second, .val (.long bits), .second, .val (.long ((p1.toInt64 + ((((((2 : Int64) * st.toInt64) + (1 : Int64)) * pa.toInt64) + (no.toInt64 * cb.toInt64) + (7 : Int64)) / (8 : Int64))) - (p1.toInt64))), .second, .unset, .unset] [])) t → Steps p.tables e below (s₁.setTop (entryFrame m #[(.int p1), (.int p2), (.int p3), (.int p4), (.int p5)] maxLocals)) t := by rw [hbits]; exact R8
  obtain ⟨dd, hdd⟩ : ∃ z : Int64, z = ((p1.toInt64 + ((((((2 : Int64) * st.toInt64) + (1 : Int64)) * pa.toInt64) + (no.toInt64 * cb.toInt64) + (7 : Int64)) / (8 : Int64))) - (p1.toInt64)) := ⟨_, rfl⟩
  have R10 : ∀ t, Steps p.tables e below (T7.setTop (mkF m 87 #[.val (.int p1), .val (.int p2), .val (.int p3), .val (.int p4), .val (.int p5), .val (.int st), .val (.int pa), .val (.int no), .val (.int cb), .val (.long (p1.toInt64 + ((((((2 : Int64) * st.toInt64) + (1 : Int64)) * pa.toInt64) + (no.toInt64 * cb.toInt64) + (7 : Int64)) / (8 : Int64)))), .second, .val (.long ((((pa.toInt64) * (st.toInt64)) * (2 : Int64)) + (pa.toInt64))), .second, .val (.long ((no.toInt64) * (cb.toInt64))), .second, .val (.long bits), .second, .val (.long dd), .second, .unset, .unset] [])) t → Steps p.tables e below (s₁.setTop (entryFrame m #[(.int p1), (.int p2), (.int p3), (.int p4), (.int p5)] maxLocals)) t := by rw [hdd]; exact R9
  have hb1 : 1 ≤ st.toInt ∧ st.toInt ≤ 31 := by rw [hst]; exact own_b1 p2
  have hb2 : 0 ≤ pa.toInt ∧ pa.toInt ≤ 65535 := by rw [hpa]; exact own_b2 p3
  have hb3 : 0 ≤ no.toInt ∧ no.toInt ≤ 2147483647 := by rw [hno]; exact own_b3 p4
  have hb4 : 0 ≤ cb.toInt ∧ cb.toInt ≤ 16 := by rw [hcb]; exact own_b4 p5
  have hlaw := own_law (hd := p1) hb1.1 hb1.2 hb2.1 hb2.2 hb3.1 hb3.2 hb4.1 hb4.2
  rw [← hdd, ← hbits] at hlaw
  have hc96 : ¬ ((lcmpW ((8 : Int64) * dd) bits) < (0 : Int32)) := fun q => hlaw.1 ((lw_lt _ _).mp q)
  have hc119 : (lcmpW (((8 : Int64) * dd) - (8 : Int64)) bits) < (0 : Int32) := (lw_lt _ _).mpr hlaw.2
  have R11 : ∀ t, Steps p.tables e below (T7.setTop (mkF m 144 #[.val (.int p1), .val (.int p2), .val (.int p3), .val (.int p4), .val (.int p5), .val (.int st), .val (.int pa), .val (.int no), .val (.int cb), .val (.long (p1.toInt64 + ((((((2 : Int64) * st.toInt64) + (1 : Int64)) * pa.toInt64) + (no.toInt64 * cb.toInt64) + (7 : Int64)) / (8 : Int64)))), .second, .val (.long ((((pa.toInt64) * (st.toInt64)) * (2 : Int64)) + (pa.toInt64))), .second, .val (.long ((no.toInt64) * (cb.toInt64))), .second, .val (.long bits), .second, .val (.long dd), .second, .val (.int (1 : Int32)), .val (.int (1 : Int32))] [(.int (1 : Int32))])) t → Steps p.tables e below (s₁.setTop (entryFrame m #[(.int p1), (.int p2), (.int p3), (.int p4), (.int p5)] maxLocals)) t := by
    intro t k
    refine R10 t ?_
    show Steps p.tables e below (T7.setTop (mkF m 87 #[.val (.int p1), .val (.int p2), .val (.int p3), .val (.int p4), .val (.int p5), .val (.int st), .val (.int pa), .val (.int no), .val (.int cb), .val (.long (p1.toInt64 + ((((((2 : Int64) * st.toInt64) + (1 : Int64)) * pa.toInt64) + (no.toInt64 * cb.toInt64) + (7 : Int64)) / (8 : Int64)))), .second, .val (.long ((((pa.toInt64) * (st.toInt64)) * (2 : Int64)) + (pa.toInt64))), .second, .val (.long ((no.toInt64) * (cb.toInt64))), .second, .val (.long bits), .second, .val (.long dd), .second, .unset, .unset] [])) _
    refine X7.ldc2Long hx hown (mvT hZ (hw _ (List.mem_of_getElem? (i := 10) rfl))) (g := (mkF m 87 #[.val (.int p1), .val (.int p2), .val (.int p3), .val (.int p4), .val (.int p5), .val (.int st), .val (.int pa), .val (.int no), .val (.int cb), .val (.long (p1.toInt64 + ((((((2 : Int64) * st.toInt64) + (1 : Int64)) * pa.toInt64) + (no.toInt64 * cb.toInt64) + (7 : Int64)) / (8 : Int64)))), .second, .val (.long ((((pa.toInt64) * (st.toInt64)) * (2 : Int64)) + (pa.toInt64))), .second, .val (.long ((no.toInt64) * (cb.toInt64))), .second, .val (.long bits), .second, .val (.long dd), .second, .unset, .unset] [])) rfl (hb hby at_87) _ ?_
    show Steps p.tables e below (T7.setTop (mkF m 90 #[.val (.int p1), .val (.int p2), .val (.int p3), .val (.int p4), .val (.int p5), .val (.int st), .val (.int pa), .val (.int no), .val (.int cb), .val (.long (p1.toInt64 + ((((((2 : Int64) * st.toInt64) + (1 : Int64)) * pa.toInt64) + (no.toInt64 * cb.toInt64) + (7 : Int64)) / (8 : Int64)))), .second, .val (.long ((((pa.toInt64) * (st.toInt64)) * (2 : Int64)) + (pa.toInt64))), .second, .val (.long ((no.toInt64) * (cb.toInt64))), .second, .val (.long bits), .second, .val (.long dd), .second, .unset, .unset] [(.long (8 : Int64))])) _
    refine XS.lload X7.here hx rfl (hb hby at_90) rfl ?_
    show Steps p.tables e below (T7.setTop (mkF m 92 #[.val (.int p1), .val (.int p2), .val (.int p3), .val (.int p4), .val (.int p5), .val (.int st), .val (.int pa), .val (.int no), .val (.int cb), .val (.long (p1.toInt64 + ((((((2 : Int64) * st.toInt64) + (1 : Int64)) * pa.toInt64) + (no.toInt64 * cb.toInt64) + (7 : Int64)) / (8 : Int64)))), .second, .val (.long ((((pa.toInt64) * (st.toInt64)) * (2 : Int64)) + (pa.toInt64))), .second, .val (.long ((no.toInt64) * (cb.toInt64))), .second, .val (.long bits), .second, .val (.long dd), .second, .unset, .unset] [(.long dd), (.long (8 : Int64))])) _
    refine XS.lmul X7.here hx rfl (hb hby at_92) rfl ?_
    show Steps p.tables e below (T7.setTop (mkF m 93 #[.val (.int p1), .val (.int p2), .val (.int p3), .val (.int p4), .val (.int p5), .val (.int st), .val (.int pa), .val (.int no), .val (.int cb), .val (.long (p1.toInt64 + ((((((2 : Int64) * st.toInt64) + (1 : Int64)) * pa.toInt64) + (no.toInt64 * cb.toInt64) + (7 : Int64)) / (8 : Int64)))), .second, .val (.long ((((pa.toInt64) * (st.toInt64)) * (2 : Int64)) + (pa.toInt64))), .second, .val (.long ((no.toInt64) * (cb.toInt64))), .second, .val (.long bits), .second, .val (.long dd), .second, .unset, .unset] [(.long ((8 : Int64) * dd))])) _
    refine XS.lload X7.here hx rfl (hb hby at_93) rfl ?_
    show Steps p.tables e below (T7.setTop (mkF m 95 #[.val (.int p1), .val (.int p2), .val (.int p3), .val (.int p4), .val (.int p5), .val (.int st), .val (.int pa), .val (.int no), .val (.int cb), .val (.long (p1.toInt64 + ((((((2 : Int64) * st.toInt64) + (1 : Int64)) * pa.toInt64) + (no.toInt64 * cb.toInt64) + (7 : Int64)) / (8 : Int64)))), .second, .val (.long ((((pa.toInt64) * (st.toInt64)) * (2 : Int64)) + (pa.toInt64))), .second, .val (.long ((no.toInt64) * (cb.toInt64))), .second, .val (.long bits), .second, .val (.long dd), .second, .unset, .unset] [(.long bits), (.long ((8 : Int64) * dd))])) _
    refine XS.lcmp X7.here hx rfl (hb hby at_95) rfl ?_
    show Steps p.tables e below (T7.setTop (mkF m 96 #[.val (.int p1), .val (.int p2), .val (.int p3), .val (.int p4), .val (.int p5), .val (.int st), .val (.int pa), .val (.int no), .val (.int cb), .val (.long (p1.toInt64 + ((((((2 : Int64) * st.toInt64) + (1 : Int64)) * pa.toInt64) + (no.toInt64 * cb.toInt64) + (7 : Int64)) / (8 : Int64)))), .second, .val (.long ((((pa.toInt64) * (st.toInt64)) * (2 : Int64)) + (pa.toInt64))), .second, .val (.long ((no.toInt64) * (cb.toInt64))), .second, .val (.long bits), .second, .val (.long dd), .second, .unset, .unset] [(.int (lcmpW ((8 : Int64) * dd) bits))])) _
    refine XS.ifNo X7.here hx rfl (hb hby at_96) rfl ((if0 _ _).trans (flt hc96).1) ?_
    show Steps p.tables e below (T7.setTop (mkF m 99 #[.val (.int p1), .val (.int p2), .val (.int p3), .val (.int p4), .val (.int p5), .val (.int st), .val (.int pa), .val (.int no), .val (.int cb), .val (.long (p1.toInt64 + ((((((2 : Int64) * st.toInt64) + (1 : Int64)) * pa.toInt64) + (no.toInt64 * cb.toInt64) + (7 : Int64)) / (8 : Int64)))), .second, .val (.long ((((pa.toInt64) * (st.toInt64)) * (2 : Int64)) + (pa.toInt64))), .second, .val (.long ((no.toInt64) * (cb.toInt64))), .second, .val (.long bits), .second, .val (.long dd), .second, .unset, .unset] [])) _
    refine XS.iconst X7.here hx rfl (hb hby at_99) ?_
    show Steps p.tables e below (T7.setTop (mkF m 100 #[.val (.int p1), .val (.int p2), .val (.int p3), .val (.int p4), .val (.int p5), .val (.int st), .val (.int pa), .val (.int no), .val (.int cb), .val (.long (p1.toInt64 + ((((((2 : Int64) * st.toInt64) + (1 : Int64)) * pa.toInt64) + (no.toInt64 * cb.toInt64) + (7 : Int64)) / (8 : Int64)))), .second, .val (.long ((((pa.toInt64) * (st.toInt64)) * (2 : Int64)) + (pa.toInt64))), .second, .val (.long ((no.toInt64) * (cb.toInt64))), .second, .val (.long bits), .second, .val (.long dd), .second, .unset, .unset] [(.int (1 : Int32))])) _
    refine XS.goto X7.here hx rfl (pc0 := 100) (pc' := 104) rfl (hb hby at_100) (by decide) (by decide) ?_
    show Steps p.tables e below (T7.setTop (mkF m 104 #[.val (.int p1), .val (.int p2), .val (.int p3), .val (.int p4), .val (.int p5), .val (.int st), .val (.int pa), .val (.int no), .val (.int cb), .val (.long (p1.toInt64 + ((((((2 : Int64) * st.toInt64) + (1 : Int64)) * pa.toInt64) + (no.toInt64 * cb.toInt64) + (7 : Int64)) / (8 : Int64)))), .second, .val (.long ((((pa.toInt64) * (st.toInt64)) * (2 : Int64)) + (pa.toInt64))), .second, .val (.long ((no.toInt64) * (cb.toInt64))), .second, .val (.long bits), .second, .val (.long dd), .second, .unset, .unset] [(.int (1 : Int32))])) _
    refine XS.istore X7.here hx rfl (hb hby at_104) rfl (l' := #[.val (.int p1), .val (.int p2), .val (.int p3), .val (.int p4), .val (.int p5), .val (.int st), .val (.int pa), .val (.int no), .val (.int cb), .val (.long (p1.toInt64 + ((((((2 : Int64) * st.toInt64) + (1 : Int64)) * pa.toInt64) + (no.toInt64 * cb.toInt64) + (7 : Int64)) / (8 : Int64)))), .second, .val (.long ((((pa.toInt64) * (st.toInt64)) * (2 : Int64)) + (pa.toInt64))), .second, .val (.long ((no.toInt64) * (cb.toInt64))), .second, .val (.long bits), .second, .val (.long dd), .second, .val (.int (1 : Int32)), .unset]) rfl ?_
    show Steps p.tables e below (T7.setTop (mkF m 106 #[.val (.int p1), .val (.int p2), .val (.int p3), .val (.int p4), .val (.int p5), .val (.int st), .val (.int pa), .val (.int no), .val (.int cb), .val (.long (p1.toInt64 + ((((((2 : Int64) * st.toInt64) + (1 : Int64)) * pa.toInt64) + (no.toInt64 * cb.toInt64) + (7 : Int64)) / (8 : Int64)))), .second, .val (.long ((((pa.toInt64) * (st.toInt64)) * (2 : Int64)) + (pa.toInt64))), .second, .val (.long ((no.toInt64) * (cb.toInt64))), .second, .val (.long bits), .second, .val (.long dd), .second, .val (.int (1 : Int32)), .unset] [])) _
    refine X7.ldc2Long hx hown (mvT hZ (hw _ (List.mem_of_getElem? (i := 10) rfl))) (g := (mkF m 106 #[.val (.int p1), .val (.int p2), .val (.int p3), .val (.int p4), .val (.int p5), .val (.int st), .val (.int pa), .val (.int no), .val (.int cb), .val (.long (p1.toInt64 + ((((((2 : Int64) * st.toInt64) + (1 : Int64)) * pa.toInt64) + (no.toInt64 * cb.toInt64) + (7 : Int64)) / (8 : Int64)))), .second, .val (.long ((((pa.toInt64) * (st.toInt64)) * (2 : Int64)) + (pa.toInt64))), .second, .val (.long ((no.toInt64) * (cb.toInt64))), .second, .val (.long bits), .second, .val (.long dd), .second, .val (.int (1 : Int32)), .unset] [])) rfl (hb hby at_106) _ ?_
    show Steps p.tables e below (T7.setTop (mkF m 109 #[.val (.int p1), .val (.int p2), .val (.int p3), .val (.int p4), .val (.int p5), .val (.int st), .val (.int pa), .val (.int no), .val (.int cb), .val (.long (p1.toInt64 + ((((((2 : Int64) * st.toInt64) + (1 : Int64)) * pa.toInt64) + (no.toInt64 * cb.toInt64) + (7 : Int64)) / (8 : Int64)))), .second, .val (.long ((((pa.toInt64) * (st.toInt64)) * (2 : Int64)) + (pa.toInt64))), .second, .val (.long ((no.toInt64) * (cb.toInt64))), .second, .val (.long bits), .second, .val (.long dd), .second, .val (.int (1 : Int32)), .unset] [(.long (8 : Int64))])) _
    refine XS.lload X7.here hx rfl (hb hby at_109) rfl ?_
    show Steps p.tables e below (T7.setTop (mkF m 111 #[.val (.int p1), .val (.int p2), .val (.int p3), .val (.int p4), .val (.int p5), .val (.int st), .val (.int pa), .val (.int no), .val (.int cb), .val (.long (p1.toInt64 + ((((((2 : Int64) * st.toInt64) + (1 : Int64)) * pa.toInt64) + (no.toInt64 * cb.toInt64) + (7 : Int64)) / (8 : Int64)))), .second, .val (.long ((((pa.toInt64) * (st.toInt64)) * (2 : Int64)) + (pa.toInt64))), .second, .val (.long ((no.toInt64) * (cb.toInt64))), .second, .val (.long bits), .second, .val (.long dd), .second, .val (.int (1 : Int32)), .unset] [(.long dd), (.long (8 : Int64))])) _
    refine XS.lmul X7.here hx rfl (hb hby at_111) rfl ?_
    show Steps p.tables e below (T7.setTop (mkF m 112 #[.val (.int p1), .val (.int p2), .val (.int p3), .val (.int p4), .val (.int p5), .val (.int st), .val (.int pa), .val (.int no), .val (.int cb), .val (.long (p1.toInt64 + ((((((2 : Int64) * st.toInt64) + (1 : Int64)) * pa.toInt64) + (no.toInt64 * cb.toInt64) + (7 : Int64)) / (8 : Int64)))), .second, .val (.long ((((pa.toInt64) * (st.toInt64)) * (2 : Int64)) + (pa.toInt64))), .second, .val (.long ((no.toInt64) * (cb.toInt64))), .second, .val (.long bits), .second, .val (.long dd), .second, .val (.int (1 : Int32)), .unset] [(.long ((8 : Int64) * dd))])) _
    refine X7.ldc2Long hx hown (mvT hZ (hw _ (List.mem_of_getElem? (i := 10) rfl))) (g := (mkF m 112 #[.val (.int p1), .val (.int p2), .val (.int p3), .val (.int p4), .val (.int p5), .val (.int st), .val (.int pa), .val (.int no), .val (.int cb), .val (.long (p1.toInt64 + ((((((2 : Int64) * st.toInt64) + (1 : Int64)) * pa.toInt64) + (no.toInt64 * cb.toInt64) + (7 : Int64)) / (8 : Int64)))), .second, .val (.long ((((pa.toInt64) * (st.toInt64)) * (2 : Int64)) + (pa.toInt64))), .second, .val (.long ((no.toInt64) * (cb.toInt64))), .second, .val (.long bits), .second, .val (.long dd), .second, .val (.int (1 : Int32)), .unset] [(.long ((8 : Int64) * dd))])) rfl (hb hby at_112) _ ?_
    show Steps p.tables e below (T7.setTop (mkF m 115 #[.val (.int p1), .val (.int p2), .val (.int p3), .val (.int p4), .val (.int p5), .val (.int st), .val (.int pa), .val (.int no), .val (.int cb), .val (.long (p1.toInt64 + ((((((2 : Int64) * st.toInt64) + (1 : Int64)) * pa.toInt64) + (no.toInt64 * cb.toInt64) + (7 : Int64)) / (8 : Int64)))), .second, .val (.long ((((pa.toInt64) * (st.toInt64)) * (2 : Int64)) + (pa.toInt64))), .second, .val (.long ((no.toInt64) * (cb.toInt64))), .second, .val (.long bits), .second, .val (.long dd), .second, .val (.int (1 : Int32)), .unset] [(.long (8 : Int64)), (.long ((8 : Int64) * dd))])) _
    refine XS.lsub X7.here hx rfl (hb hby at_115) rfl ?_
    show Steps p.tables e below (T7.setTop (mkF m 116 #[.val (.int p1), .val (.int p2), .val (.int p3), .val (.int p4), .val (.int p5), .val (.int st), .val (.int pa), .val (.int no), .val (.int cb), .val (.long (p1.toInt64 + ((((((2 : Int64) * st.toInt64) + (1 : Int64)) * pa.toInt64) + (no.toInt64 * cb.toInt64) + (7 : Int64)) / (8 : Int64)))), .second, .val (.long ((((pa.toInt64) * (st.toInt64)) * (2 : Int64)) + (pa.toInt64))), .second, .val (.long ((no.toInt64) * (cb.toInt64))), .second, .val (.long bits), .second, .val (.long dd), .second, .val (.int (1 : Int32)), .unset] [(.long (((8 : Int64) * dd) - (8 : Int64)))])) _
    refine XS.lload X7.here hx rfl (hb hby at_116) rfl ?_
    show Steps p.tables e below (T7.setTop (mkF m 118 #[.val (.int p1), .val (.int p2), .val (.int p3), .val (.int p4), .val (.int p5), .val (.int st), .val (.int pa), .val (.int no), .val (.int cb), .val (.long (p1.toInt64 + ((((((2 : Int64) * st.toInt64) + (1 : Int64)) * pa.toInt64) + (no.toInt64 * cb.toInt64) + (7 : Int64)) / (8 : Int64)))), .second, .val (.long ((((pa.toInt64) * (st.toInt64)) * (2 : Int64)) + (pa.toInt64))), .second, .val (.long ((no.toInt64) * (cb.toInt64))), .second, .val (.long bits), .second, .val (.long dd), .second, .val (.int (1 : Int32)), .unset] [(.long bits), (.long (((8 : Int64) * dd) - (8 : Int64)))])) _
    refine XS.lcmp X7.here hx rfl (hb hby at_118) rfl ?_
    show Steps p.tables e below (T7.setTop (mkF m 119 #[.val (.int p1), .val (.int p2), .val (.int p3), .val (.int p4), .val (.int p5), .val (.int st), .val (.int pa), .val (.int no), .val (.int cb), .val (.long (p1.toInt64 + ((((((2 : Int64) * st.toInt64) + (1 : Int64)) * pa.toInt64) + (no.toInt64 * cb.toInt64) + (7 : Int64)) / (8 : Int64)))), .second, .val (.long ((((pa.toInt64) * (st.toInt64)) * (2 : Int64)) + (pa.toInt64))), .second, .val (.long ((no.toInt64) * (cb.toInt64))), .second, .val (.long bits), .second, .val (.long dd), .second, .val (.int (1 : Int32)), .unset] [(.int (lcmpW (((8 : Int64) * dd) - (8 : Int64)) bits))])) _
    refine XS.ifNo X7.here hx rfl (hb hby at_119) rfl ((if0 _ _).trans (tlt hc119).2.1) ?_
    show Steps p.tables e below (T7.setTop (mkF m 122 #[.val (.int p1), .val (.int p2), .val (.int p3), .val (.int p4), .val (.int p5), .val (.int st), .val (.int pa), .val (.int no), .val (.int cb), .val (.long (p1.toInt64 + ((((((2 : Int64) * st.toInt64) + (1 : Int64)) * pa.toInt64) + (no.toInt64 * cb.toInt64) + (7 : Int64)) / (8 : Int64)))), .second, .val (.long ((((pa.toInt64) * (st.toInt64)) * (2 : Int64)) + (pa.toInt64))), .second, .val (.long ((no.toInt64) * (cb.toInt64))), .second, .val (.long bits), .second, .val (.long dd), .second, .val (.int (1 : Int32)), .unset] [])) _
    refine XS.iconst X7.here hx rfl (hb hby at_122) ?_
    show Steps p.tables e below (T7.setTop (mkF m 123 #[.val (.int p1), .val (.int p2), .val (.int p3), .val (.int p4), .val (.int p5), .val (.int st), .val (.int pa), .val (.int no), .val (.int cb), .val (.long (p1.toInt64 + ((((((2 : Int64) * st.toInt64) + (1 : Int64)) * pa.toInt64) + (no.toInt64 * cb.toInt64) + (7 : Int64)) / (8 : Int64)))), .second, .val (.long ((((pa.toInt64) * (st.toInt64)) * (2 : Int64)) + (pa.toInt64))), .second, .val (.long ((no.toInt64) * (cb.toInt64))), .second, .val (.long bits), .second, .val (.long dd), .second, .val (.int (1 : Int32)), .unset] [(.int (1 : Int32))])) _
    refine XS.goto X7.here hx rfl (pc0 := 123) (pc' := 127) rfl (hb hby at_123) (by decide) (by decide) ?_
    show Steps p.tables e below (T7.setTop (mkF m 127 #[.val (.int p1), .val (.int p2), .val (.int p3), .val (.int p4), .val (.int p5), .val (.int st), .val (.int pa), .val (.int no), .val (.int cb), .val (.long (p1.toInt64 + ((((((2 : Int64) * st.toInt64) + (1 : Int64)) * pa.toInt64) + (no.toInt64 * cb.toInt64) + (7 : Int64)) / (8 : Int64)))), .second, .val (.long ((((pa.toInt64) * (st.toInt64)) * (2 : Int64)) + (pa.toInt64))), .second, .val (.long ((no.toInt64) * (cb.toInt64))), .second, .val (.long bits), .second, .val (.long dd), .second, .val (.int (1 : Int32)), .unset] [(.int (1 : Int32))])) _
    refine XS.istore X7.here hx rfl (hb hby at_127) rfl (l' := #[.val (.int p1), .val (.int p2), .val (.int p3), .val (.int p4), .val (.int p5), .val (.int st), .val (.int pa), .val (.int no), .val (.int cb), .val (.long (p1.toInt64 + ((((((2 : Int64) * st.toInt64) + (1 : Int64)) * pa.toInt64) + (no.toInt64 * cb.toInt64) + (7 : Int64)) / (8 : Int64)))), .second, .val (.long ((((pa.toInt64) * (st.toInt64)) * (2 : Int64)) + (pa.toInt64))), .second, .val (.long ((no.toInt64) * (cb.toInt64))), .second, .val (.long bits), .second, .val (.long dd), .second, .val (.int (1 : Int32)), .val (.int (1 : Int32))]) rfl ?_
    show Steps p.tables e below (T7.setTop (mkF m 129 #[.val (.int p1), .val (.int p2), .val (.int p3), .val (.int p4), .val (.int p5), .val (.int st), .val (.int pa), .val (.int no), .val (.int cb), .val (.long (p1.toInt64 + ((((((2 : Int64) * st.toInt64) + (1 : Int64)) * pa.toInt64) + (no.toInt64 * cb.toInt64) + (7 : Int64)) / (8 : Int64)))), .second, .val (.long ((((pa.toInt64) * (st.toInt64)) * (2 : Int64)) + (pa.toInt64))), .second, .val (.long ((no.toInt64) * (cb.toInt64))), .second, .val (.long bits), .second, .val (.long dd), .second, .val (.int (1 : Int32)), .val (.int (1 : Int32))] [])) _
    refine XS.iload X7.here hx rfl (hb hby at_129) rfl ?_
    show Steps p.tables e below (T7.setTop (mkF m 131 #[.val (.int p1), .val (.int p2), .val (.int p3), .val (.int p4), .val (.int p5), .val (.int st), .val (.int pa), .val (.int no), .val (.int cb), .val (.long (p1.toInt64 + ((((((2 : Int64) * st.toInt64) + (1 : Int64)) * pa.toInt64) + (no.toInt64 * cb.toInt64) + (7 : Int64)) / (8 : Int64)))), .second, .val (.long ((((pa.toInt64) * (st.toInt64)) * (2 : Int64)) + (pa.toInt64))), .second, .val (.long ((no.toInt64) * (cb.toInt64))), .second, .val (.long bits), .second, .val (.long dd), .second, .val (.int (1 : Int32)), .val (.int (1 : Int32))] [(.int (1 : Int32))])) _
    refine XS.ifNo X7.here hx rfl (hb hby at_131) rfl ((if0 _ _).trans (feq (by decide : ¬ ((1 : Int32) = 0))).1) ?_
    show Steps p.tables e below (T7.setTop (mkF m 134 #[.val (.int p1), .val (.int p2), .val (.int p3), .val (.int p4), .val (.int p5), .val (.int st), .val (.int pa), .val (.int no), .val (.int cb), .val (.long (p1.toInt64 + ((((((2 : Int64) * st.toInt64) + (1 : Int64)) * pa.toInt64) + (no.toInt64 * cb.toInt64) + (7 : Int64)) / (8 : Int64)))), .second, .val (.long ((((pa.toInt64) * (st.toInt64)) * (2 : Int64)) + (pa.toInt64))), .second, .val (.long ((no.toInt64) * (cb.toInt64))), .second, .val (.long bits), .second, .val (.long dd), .second, .val (.int (1 : Int32)), .val (.int (1 : Int32))] [])) _
    refine XS.iload X7.here hx rfl (hb hby at_134) rfl ?_
    show Steps p.tables e below (T7.setTop (mkF m 136 #[.val (.int p1), .val (.int p2), .val (.int p3), .val (.int p4), .val (.int p5), .val (.int st), .val (.int pa), .val (.int no), .val (.int cb), .val (.long (p1.toInt64 + ((((((2 : Int64) * st.toInt64) + (1 : Int64)) * pa.toInt64) + (no.toInt64 * cb.toInt64) + (7 : Int64)) / (8 : Int64)))), .second, .val (.long ((((pa.toInt64) * (st.toInt64)) * (2 : Int64)) + (pa.toInt64))), .second, .val (.long ((no.toInt64) * (cb.toInt64))), .second, .val (.long bits), .second, .val (.long dd), .second, .val (.int (1 : Int32)), .val (.int (1 : Int32))] [(.int (1 : Int32))])) _
    refine XS.ifNo X7.here hx rfl (hb hby at_136) rfl ((if0 _ _).trans (feq (by decide : ¬ ((1 : Int32) = 0))).1) ?_
    show Steps p.tables e below (T7.setTop (mkF m 139 #[.val (.int p1), .val (.int p2), .val (.int p3), .val (.int p4), .val (.int p5), .val (.int st), .val (.int pa), .val (.int no), .val (.int cb), .val (.long (p1.toInt64 + ((((((2 : Int64) * st.toInt64) + (1 : Int64)) * pa.toInt64) + (no.toInt64 * cb.toInt64) + (7 : Int64)) / (8 : Int64)))), .second, .val (.long ((((pa.toInt64) * (st.toInt64)) * (2 : Int64)) + (pa.toInt64))), .second, .val (.long ((no.toInt64) * (cb.toInt64))), .second, .val (.long bits), .second, .val (.long dd), .second, .val (.int (1 : Int32)), .val (.int (1 : Int32))] [])) _
    refine XS.iconst X7.here hx rfl (hb hby at_139) ?_
    show Steps p.tables e below (T7.setTop (mkF m 140 #[.val (.int p1), .val (.int p2), .val (.int p3), .val (.int p4), .val (.int p5), .val (.int st), .val (.int pa), .val (.int no), .val (.int cb), .val (.long (p1.toInt64 + ((((((2 : Int64) * st.toInt64) + (1 : Int64)) * pa.toInt64) + (no.toInt64 * cb.toInt64) + (7 : Int64)) / (8 : Int64)))), .second, .val (.long ((((pa.toInt64) * (st.toInt64)) * (2 : Int64)) + (pa.toInt64))), .second, .val (.long ((no.toInt64) * (cb.toInt64))), .second, .val (.long bits), .second, .val (.long dd), .second, .val (.int (1 : Int32)), .val (.int (1 : Int32))] [(.int (1 : Int32))])) _
    refine XS.goto X7.here hx rfl (pc0 := 140) (pc' := 144) rfl (hb hby at_140) (by decide) (by decide) ?_
    exact k
  obtain ⟨fs, hr, hrun, hended, hW, hsame⟩ := X7.leave (v := some (.int (1 : Int32))) (fun h => by rw [Bd.returns] at h; cases h)
  refine ⟨_, _, R11 _ ?_, hrun, hended, _, _, rfl, ?_, ⟨_, rfl⟩, hW, hsame.mono (by decide) (by decide)⟩
  · exact retN X7 hx (t := .boolean) Bd.returns (by simp) (hb hby at_144) hr
  · show Q_rm0 Z p1 p2 p3 p4 p5 h0 n0 _ T7.heap _
    rw [eq7]
    exact ⟨rfl, N7⟩
set_option maxRecDepth 65536 in
set_option maxHeartbeats 40000000 in
theorem comes_1 {Post : Tables → Env → Array Value → State → Outcome → State → Prop} (hpost : ∀ tb e args s v u, (limb_1_1.after args s (.returned v) u = true ∧ limb_1_2.after args s (.returned v) u = true ∧ True) → FrameEnd s (.returned v) u (Jvm.fieldLocs frame_1_writes args s ++ Jvm.arrayLocs frame_1_arrays args s ++ Jvm.staticLocs frame_1_statics s) 0 0 → Post tb e args s (.returned v) u) :
    ArmFor flags0 classFile x code maxLocals ret World_1 tables_1 room_1 Calls_1 rest_1 Pre_1 Post := by
  intro l hfl _ _ p e ha hc hk s m args below hf hA hF happ hP
  obtain ⟨hcalls, hrest, hpre⟩ := hP
  obtain ⟨-, -, -, hnamed, -, -, -, hat⟩ := (Spec.applies_iff hf).mp happ
  obtain ⟨hg, hn⟩ := and_e (Cond.before_iff.mp (show (Jvm.Cond.and given_1 narrow_1).before args s = true from hpre))
  obtain ⟨g1, g2⟩ := and_e hg
  obtain ⟨g3, g4⟩ := and_e g2
  obtain ⟨g5, g6⟩ := and_e g4
  obtain ⟨g7, g8⟩ := and_e g6
  obtain ⟨g9, g10⟩ := and_e g8
  obtain ⟨w0, w1, w2, w3, w4, rfl⟩ : ∃ w0 w1 w2 w3 w4 : Value, args = #[w0, w1, w2, w3, w4] := by
    have hs : args.size = 5 := by simpa [Cond.value, given_1] using g1
    obtain ⟨L⟩ := args
    match L, hs with
    | [w0, w1, w2, w3, w4], _ => exact ⟨w0, w1, w2, w3, w4, rfl⟩
  have hw := fun d (hd : d ∈ tables_1) => atoms_spec (ws := Jvm.Cond.code x code maxLocals ret :: tables_1) hat d (List.mem_cons_of_mem _ hd)
  have hfit : Fit s := fun {y c} hc i hi => by
    obtain ⟨ha, rfl⟩ := Array.getElem?_eq_some_iff.mp hc
    have q := List.all_eq_true.mp ((Array.all_eq_true_iff_forall_mem.mp hF) _ (Array.getElem_mem ha)) i (List.mem_range.mpr hi)
    simpa [Array.getElem?_eq_getElem hi] using q
  obtain ⟨i0, ei0⟩ := is_v g3
  obtain rfl : w0 = (.int i0) := Option.some.inj ei0
  obtain ⟨i1, ei1⟩ := is_v g5
  obtain rfl : w1 = (.int i1) := Option.some.inj ei1
  obtain ⟨i2, ei2⟩ := is_v g7
  obtain rfl : w2 = (.int i2) := Option.some.inj ei2
  obtain ⟨i3, ei3⟩ := is_v g9
  obtain rfl : w3 = (.int i3) := Option.some.inj ei3
  obtain ⟨i4, ei4⟩ := is_v g10
  obtain rfl : w4 = (.int i4) := Option.some.inj ei4
  obtain ⟨n, o, h1, h2, h3, _, L, rfl, ⟨rfl, N⟩, hq⟩ := rm0 l s _ hw tables_1 i0 i1 i2 i3 i4  s.heap s.heap.size (Nat.le_refl _)  p e ha hc hk s m _ below hf ((Spec.applies_iff_loose hf).mp happ).1 ⟨rfl, State.Warmed39.refl s, rfl⟩ trivial
  refine ⟨n, _, h1, h2, h3, hpost _ _ _ _ _ _ ⟨Cond.after_iff.mpr rfl, Cond.after_iff.mpr (eq_i res_at (Term.int_eval (1)) rfl), trivial⟩ ⟨hq.1, hq.2.1, (hq.2.2.sift fun y hy => Or.inr (N y hy)).mono (by decide) (by decide)⟩⟩
theorem main_1_1 : Claimed_1_1 := comes_1 fun _ _ _ _ _ _ h hF => ⟨h.1, hF⟩
theorem main_1_2 : Claimed_1_2 := comes_1 fun _ _ _ _ _ _ h hF => ⟨h.2.1, hF⟩
end Jvm.Pilot.@@N@@
namespace Jvm.Pilot.@@N@@
open Jvm Jvm.ClassFile Sem Op Lib Jvm.Free Jvm.Stand Jvm.Pilot.@@N@@.Jvm.D
/-! MADE BY PROGRAM (witnessworld.py) out of the Statement's table words and the real class files: 10 classes; the members and pool entries that the words name. The judged class is class 1, her method 1. -/
namespace start1
open Jvm.ClassFile
def u (s : String) : CpInfo := .utf8 (stringToUtf16 s)
/-- a pool by its gaps: so many unusable entries, then the entry; so many at the end -/
def gap : Nat → List CpInfo → List CpInfo
  | 0, r => r
  | n + 1, r => .unusable :: gap n r
def poolList (es : List (Nat × CpInfo)) (last : Nat) : List CpInfo := es.foldr (fun e r => gap e.1 (e.2 :: r)) (gap last [])
def pool (es : List (Nat × CpInfo)) (last : Nat) : Array CpInfo := ⟨poolList es last⟩
def fileOf (pool : Array CpInfo) (this : Nat) (attrs : Array Attribute := #[]) (ms : Array MethodInfo := #[]) (fl : Nat := 33) (sup : Nat := 0) (ifs : Array Nat := #[]) (fds : Array FieldInfo := #[]) : ClassFile where
  minorVersion := 0
  majorVersion := 65
  constantPool := pool
  accessFlags := fl
  thisClass := this
  superClass := sup
  interfaces := ifs
  fields := fds
  methods := ms
  attributes := attrs
def plain (name : String) (sup : Option ClassId) : Class where
  name := name
  kind := .ordinary
  loader := none
  accessFlags := 33
  super := sup
  interfaces := #[]
  cf := none
  fields := #[]
  methods := #[]
  instanceTypes := #[]
  staticTypes := #[]
  resolved := #[]
  callSites := []
  init := .initialized
  statics := none
  mirror := none

def pool0 : Array CpInfo := pool [(5, u "<init>"), (0, u "()V"), (1, .class_ 10), (1, u "java/lang/Object")] 113

def k0m0 : Method := { name := "<init>", desc := "()V", sig := { parameters := [], returnType := none }, accessFlags := 1, code := none }
/-- java/lang/Object -/
def k0 : Class := { plain "java/lang/Object" none with
  accessFlags := 33
  interfaces := #[]
  cf := some (fileOf pool0 8 #[] #[{ accessFlags := 1, nameIndex := 5, descriptorIndex := 6, attributes := #[] }] 33 0 #[] #[])
  fields := #[]
  methods := #[k0m0]
  instanceTypes := #[]
  staticTypes := #[]
  resolved := Array.replicate 124 none
  statics := none }

def pool1 : Array CpInfo := pool [(2, .class_ 4), (1, u "java/lang/Object"), (0, u "<init>"), (0, u "()V"), (0, .integer 2147483647), (0, .integer 65535), (0, .methodref 10 11), (0, .class_ 12), (0, .nameAndType 13 14), (0, u "com/example/terse_graph/tersegraph/BvPlusCodec"), (0, u "stripeBytes"), (0, u "(IIIII)J"), (0, .long 2), (1, .long 8), (1, .class_ 20), (0, u "com/example/terse_graph/tersegraph/BvPlusCodecStripeBytesPinLaw"), (2, u "law"), (0, u "(IIIII)Z")] 3

def k1m0 : Method := { name := "<init>", desc := "()V", sig := { parameters := [], returnType := none }, accessFlags := 1, code := none }
def k1c1 : Code := { maxStack := 5, maxLocals := 21, code := code, exceptionTable := #[], attributes := #[] }
def k1m1 : Method := { name := "law", desc := "(IIIII)Z", sig := { parameters := [.int, .int, .int, .int, .int], returnType := some .boolean }, accessFlags := 9, code := some k1c1 }
/-- com/example/terse_graph/tersegraph/BvPlusCodecStripeBytesPinLaw -/
def k1 : Class := { plain "com/example/terse_graph/tersegraph/BvPlusCodecStripeBytesPinLaw" (some 0) with
  accessFlags := 49
  interfaces := #[]
  cf := some (fileOf pool1 19 #[] #[{ accessFlags := 1, nameIndex := 5, descriptorIndex := 6, attributes := #[] }, { accessFlags := 9, nameIndex := 23, descriptorIndex := 24, attributes := #[] }] 49 2 #[] #[])
  fields := #[]
  methods := #[k1m0, k1m1]
  instanceTypes := #[]
  staticTypes := #[]
  resolved := Array.replicate 28 none
  statics := none }

def pool2 : Array CpInfo := pool [(15, .class_ 16), (0, u "com/example/terse_graph/tersegraph/Codec"), (0, .class_ 18), (0, u "java/lang/Object"), (28, .class_ 48), (0, u "com/example/terse_graph/tersegraph/Codec$Edits"), (0, .class_ 50), (0, u "com/example/terse_graph/tersegraph/Codec$EditableGraph"), (0, .class_ 52), (0, u "com/example/terse_graph/tersegraph/Codec$CodecGraph"), (0, .class_ 54), (0, u "com/example/terse_graph/tersegraph/Codec$OneWalk")] 5

/-- com/example/terse_graph/tersegraph/Codec -/
def k2 : Class := { plain "com/example/terse_graph/tersegraph/Codec" (some 0) with
  accessFlags := 1536
  interfaces := #[]
  cf := some (fileOf pool2 15 #[.nestMembers #[47, 49, 51, 53]] #[] 1536 17 #[] #[])
  fields := #[]
  methods := #[]
  instanceTypes := #[]
  staticTypes := #[]
  resolved := Array.replicate 60 none
  statics := none }

def pool3 : Array CpInfo := pool [(2, .class_ 4), (1, u "com/example/terse_graph/tersegraph/BvPlusCodec"), (0, u "STRIPE"), (0, u "Lcom/example/terse_graph/tersegraph/CodecOption;"), (8, u "PATTERN_BITS"), (2, u "<init>"), (6, u "Lcom/example/terse_graph/tersegraph/BvParameters;"), (2, u "WORK_SHARE"), (4, .class_ 35), (1, u "java/lang/Object"), (0, u "()V"), (2, u "stripe"), (0, u "I"), (2, u "patternBits"), (2, u "wholeParameters"), (6, u "remainderParameters"), (50, .class_ 105), (0, u "com/example/terse_graph/tersegraph/BvPlusCodec$Coding"), (56, .long 2), (1, .long 7), (1, .long 8), (24, .class_ 192), (0, u "com/example/terse_graph/tersegraph/Codec"), (0, u "HEAD_BYTES"), (2, u "UNCOUNTED_VERSION"), (1, u "UNCOUNTED_HEAD_BYTES"), (1, u "LARGEST_STRIPE"), (1, u "LARGEST_PATTERN_BITS"), (32, u "stripeBytes"), (0, u "(IIIII)J")] 9

def k3m0 : Method := { name := "<init>", desc := "()V", sig := { parameters := [], returnType := none }, accessFlags := 0, code := none }
def k3c1 : Code := { maxStack := 6, maxLocals := 7, code := prog_47_method_12_code, exceptionTable := #[], attributes := #[] }
def k3m1 : Method := { name := "stripeBytes", desc := "(IIIII)J", sig := { parameters := [.int, .int, .int, .int, .int], returnType := some .long }, accessFlags := 8, code := some k3c1 }
/-- com/example/terse_graph/tersegraph/BvPlusCodec -/
def k3 : Class := { plain "com/example/terse_graph/tersegraph/BvPlusCodec" (some 0) with
  accessFlags := 48
  interfaces := #[2]
  cf := some (fileOf pool3 2 #[.nestMembers #[104]] #[{ accessFlags := 0, nameIndex := 18, descriptorIndex := 36, attributes := #[] }, { accessFlags := 8, nameIndex := 235, descriptorIndex := 236, attributes := #[] }] 48 33 #[191] #[{ accessFlags := 24, nameIndex := 193, descriptorIndex := 40, attributes := #[] }, { accessFlags := 24, nameIndex := 196, descriptorIndex := 40, attributes := #[] }, { accessFlags := 26, nameIndex := 198, descriptorIndex := 40, attributes := #[] }, { accessFlags := 24, nameIndex := 200, descriptorIndex := 40, attributes := #[] }, { accessFlags := 24, nameIndex := 202, descriptorIndex := 40, attributes := #[] }, { accessFlags := 26, nameIndex := 5, descriptorIndex := 6, attributes := #[] }, { accessFlags := 26, nameIndex := 15, descriptorIndex := 6, attributes := #[] }, { accessFlags := 26, nameIndex := 28, descriptorIndex := 6, attributes := #[] }, { accessFlags := 18, nameIndex := 39, descriptorIndex := 40, attributes := #[] }, { accessFlags := 18, nameIndex := 43, descriptorIndex := 40, attributes := #[] }, { accessFlags := 18, nameIndex := 46, descriptorIndex := 25, attributes := #[] }, { accessFlags := 18, nameIndex := 53, descriptorIndex := 25, attributes := #[] }])
  fields := #[{ name := "HEAD_BYTES", type := .int, accessFlags := 24, slot := 0, constantValue := 0 }, { name := "UNCOUNTED_VERSION", type := .int, accessFlags := 24, slot := 1, constantValue := 0 }, { name := "UNCOUNTED_HEAD_BYTES", type := .int, accessFlags := 26, slot := 2, constantValue := 0 }, { name := "LARGEST_STRIPE", type := .int, accessFlags := 24, slot := 3, constantValue := 0 }, { name := "LARGEST_PATTERN_BITS", type := .int, accessFlags := 24, slot := 4, constantValue := 0 }, { name := "STRIPE", type := (.object "com/example/terse_graph/tersegraph/CodecOption"), accessFlags := 26, slot := 5, constantValue := 0 }, { name := "PATTERN_BITS", type := (.object "com/example/terse_graph/tersegraph/CodecOption"), accessFlags := 26, slot := 6, constantValue := 0 }, { name := "WORK_SHARE", type := (.object "com/example/terse_graph/tersegraph/CodecOption"), accessFlags := 26, slot := 7, constantValue := 0 }, { name := "stripe", type := .int, accessFlags := 18, slot := 0, constantValue := 0 }, { name := "patternBits", type := .int, accessFlags := 18, slot := 1, constantValue := 0 }, { name := "wholeParameters", type := (.object "com/example/terse_graph/tersegraph/BvParameters"), accessFlags := 18, slot := 2, constantValue := 0 }, { name := "remainderParameters", type := (.object "com/example/terse_graph/tersegraph/BvParameters"), accessFlags := 18, slot := 3, constantValue := 0 }]
  methods := #[k3m0, k3m1]
  instanceTypes := #[.int, .int, (.object "com/example/terse_graph/tersegraph/BvParameters"), (.object "com/example/terse_graph/tersegraph/BvParameters")]
  staticTypes := #[.int, .int, .int, .int, .int, (.object "com/example/terse_graph/tersegraph/CodecOption"), (.object "com/example/terse_graph/tersegraph/CodecOption"), (.object "com/example/terse_graph/tersegraph/CodecOption")]
  resolved := Array.replicate 246 none
  statics := none }

def pool4 : Array CpInfo := pool [(1, u "java/lang/Cloneable"), (0, .class_ 1), (0, u "java/lang/Object"), (0, .class_ 3)] 3

/-- java/lang/Cloneable -/
def k4 : Class := { plain "java/lang/Cloneable" (some 0) with
  accessFlags := 1537
  interfaces := #[]
  cf := some (fileOf pool4 2 #[] #[] 1537 4 #[] #[])
  fields := #[]
  methods := #[]
  instanceTypes := #[]
  staticTypes := #[]
  resolved := Array.replicate 8 none
  statics := none }

def pool5 : Array CpInfo := pool [(1, u "java/io/Serializable"), (0, .class_ 1), (0, u "java/lang/Object"), (0, .class_ 3)] 3

/-- java/io/Serializable -/
def k5 : Class := { plain "java/io/Serializable" (some 0) with
  accessFlags := 1537
  interfaces := #[]
  cf := some (fileOf pool5 2 #[] #[] 1537 4 #[] #[])
  fields := #[]
  methods := #[]
  instanceTypes := #[]
  staticTypes := #[]
  resolved := Array.replicate 8 none
  statics := none }

/-- the primitive byte -/
def k6 : Class := { plain "byte" none with kind := .primitive 'B', accessFlags := 0x411 }
/-- [B -/
def k7 : Class := { plain "[B" (some 0) with kind := .array 6 .byte, interfaces := #[4, 5], accessFlags := 1041 }

/-- the primitive int -/
def k8 : Class := { plain "int" none with kind := .primitive 'I', accessFlags := 0x411 }
/-- [I -/
def k9 : Class := { plain "[I" (some 0) with kind := .array 8 .int, interfaces := #[4, 5], accessFlags := 1041 }

def heap : Heap := #[]
def classes : Array Class := #[k0, k1, k2, k3, k4, k5, k6, k7, k8, k9]
def interned : List (Array UInt16 × Addr) := []
def slotsUsed : Nat := 0
def theMethod : MethodId := ⟨1, 1⟩
def args0 : Array Value := #[.int 5, .int 6, .int 7, .int 8, .int 9]
def aboutOver (below : List Frame) : State where
  vm := { classes := classes, interned := interned.toArray }
  heap := heap
  slotsUsed := slotsUsed
  threads := #[{ frames := .invoking theMethod args0 :: below }]
def below0 : List Frame := [.native { method := ⟨0, 0⟩, args := #[] }]
def about1 : State := aboutOver below0
def p0 : Program := .bare "" "" ""
def e0 : Env := launch0.env 0 0 0
theorem w_frames : about1.frames = Frame.invoking theMethod args0 :: below0 := rfl
set_option maxRecDepth 65536 in
theorem w_args : argsFit about1.vm theMethod args0 = true := by decide +kernel
set_option maxRecDepth 65536 in
theorem w_heap : heapFits about1 = true := by decide +kernel
set_option maxRecDepth 65536 in
theorem w_runnable : about1.curStatus? = some .runnable := by decide +kernel
set_option maxRecDepth 65536 in
theorem w_alone : about1.alone = true := by decide +kernel
set_option maxRecDepth 65536 in
theorem w_named : about1.methodNamed? x = some theMethod := by decide +kernel
set_option maxRecDepth 65536 in
theorem w_hears : about1.hears theMethod below0 = true := by decide +kernel
set_option maxRecDepth 65536 in
theorem w_ripe : about1.ripe theMethod args0 below0 = true := by decide +kernel
theorem w_running : about1.status = .running := rfl
set_option maxRecDepth 65536 in
theorem w_room : about1.hasRoom e0.platform room_1 = true :=
  launch0.hasRoom_least _ room_1 (by decide +kernel) (by decide +kernel) (by decide +kernel) (by decide +kernel) (by decide +kernel) (by decide +kernel)
theorem allAtoms_all (ts : List Jvm.Cond) (a : Array Jvm.Value) (st : Jvm.State) : (allAtoms ts).before a st = ts.all (fun c => c.before a st) := by
  induction ts with
  | nil => rfl
  | cons c t ih =>
    show (Jvm.Cond.and c (allAtoms t)).before a st = _
    rw [Jvm.Cond.before_and, ih, List.all_cons]
def words1 : List Jvm.Cond := Jvm.Cond.code x code maxLocals ret :: tables_1
/-- a 'code' word, met by the world's own term for the bytes: nothing is compared byte by byte -/
theorem code_word {y : MethodName} {bytes : ByteArray} {mx : Nat} {rt : Option FieldType} {a : Array Value} {s : State} {m : MethodId} {meth : Method} {c : Code} (h1 : s.methodNamed? y = some m) (h2 : s.vm.method? m = some meth) (h3 : meth.code = some c) (h4 : c.code = bytes)
    (h5 : (c.maxLocals == mx && c.exceptionTable.isEmpty && decide (c.maxStack ≤ mostOperands) && decide (meth.sig.returnType = rt) && !meth.locks && decide (parseMethodDescriptor y.desc = some meth.sig)) = true) : (Jvm.Cond.code y bytes mx rt).before a s = true := by
  simp only [Bool.and_eq_true, beq_iff_eq, Bool.not_eq_true', decide_eq_true_eq] at h5
  obtain ⟨⟨⟨⟨⟨g1, g2⟩, g3⟩, g4⟩, g5⟩, g6⟩ := h5
  simp [Cond.before, Cond.holds, Cond.value, h1, h2, h3, h4, g1, g2, g3, g4, g5, g6]
def isCode : Jvm.Cond → Bool
  | .code _ _ _ _ => true
  | _ => false
theorem all_split {L : List Jvm.Cond} {P : Jvm.Cond → Bool} (h1 : L.all (fun c => isCode c || P c) = true) (h2 : ∀ c ∈ L.filter isCode, P c = true) : L.all P = true := by
  refine List.all_eq_true.mpr fun c hc => ?_
  have h := List.all_eq_true.mp h1 c hc
  rcases Bool.eq_false_or_eq_true (isCode c) with hi | hi
  · exact h2 c (List.mem_filter.mpr ⟨hc, hi⟩)
  · simpa [hi] using h
set_option maxRecDepth 65536 in
theorem w_c0 : (Jvm.Cond.code x code maxLocals ret).before args0 about1 = true := code_word (m := ⟨1, 1⟩) (meth := k1m1) (c := k1c1) (by decide +kernel) rfl rfl rfl (by decide +kernel)
set_option maxRecDepth 65536 in
theorem w_c1 : (Jvm.Cond.code ({ cls := "com/example/terse_graph/tersegraph/BvPlusCodec", name := "stripeBytes", desc := "(IIIII)J" } : Jvm.MethodName) prog_47_method_12_code (7 : Nat) (Option.some Jvm.ClassFile.FieldType.long)).before args0 about1 = true := code_word (m := ⟨3, 1⟩) (meth := k3m1) (c := k3c1) (by decide +kernel) rfl rfl rfl (by decide +kernel)
def codes1 : List Jvm.Cond := [Jvm.Cond.code x code maxLocals ret, Jvm.Cond.code ({ cls := "com/example/terse_graph/tersegraph/BvPlusCodec", name := "stripeBytes", desc := "(IIIII)J" } : Jvm.MethodName) prog_47_method_12_code (7 : Nat) (Option.some Jvm.ClassFile.FieldType.long)]
set_option maxRecDepth 65536 in
theorem codes_eq : words1.filter isCode = codes1 := rfl
theorem w_codes : ∀ c ∈ words1.filter isCode, c.before args0 about1 = true := by
  rw [codes_eq]
  intro c hc
  simp only [codes1, List.mem_cons, List.not_mem_nil, or_false] at hc
  rcases hc with rfl | rfl
  · exact w_c0
  · exact w_c1
set_option maxRecDepth 65536 in
theorem w_t1 : words1.all (fun c => isCode c || c.before args0 about1) = true := by decide +kernel
theorem w_tables : (allAtoms (Jvm.Cond.code x code maxLocals ret :: tables_1)).before args0 about1 = true := by
  rw [allAtoms_all]
  show words1.all (fun c => c.before args0 about1) = true
  refine all_split ?_ w_codes
  rw [w_t1]
set_option maxRecDepth 65536 in
theorem w_case : (Jvm.Cond.and given_1 narrow_1).before args0 about1 = true := by decide +kernel
theorem w_applies : (headSpec (Jvm.Cond.code x code maxLocals ret :: tables_1) room_1).applies x e0.platform about1 = true :=
  (Spec.applies_iff w_frames).mpr ⟨w_running, w_runnable, w_alone, w_named, w_hears, w_ripe, w_room, w_tables⟩
theorem atStart : AtStart classFile x code maxLocals ret World_1 tables_1 room_1 Calls_1 rest_1 Pre_1 launch0 p0 e0 about1 theMethod args0 below0 :=
  ⟨lists_1, trivial, launch0.admits_env _ _ _, launch0.least_env, fairChoices_fair.cas, fairChoices_fair.clock, w_frames, w_args, w_heap, w_applies, trivial, trivial, w_case⟩
end start1
theorem witness_1 : WitnessClaimed_1 := ⟨start1.p0, start1.e0, start1.about1, start1.theMethod, start1.args0, start1.below0, start1.atStart⟩
end Jvm.Pilot.@@N@@
