import JvmDerived
import JvmDerived.Pilot.@@N@@Statement
import JvmDerived.Pilot.@@N@@Code
set_option linter.unusedVariables false
set_option linter.unusedSimpArgs false
namespace Jvm.Pilot.@@N@@
open Jvm Jvm.ClassFile Sem Op Lib Jvm.Free Jvm.Stand Jvm.LawKit Jvm.RoadKit Bundle Jvm.Pilot.@@N@@.Jvm.D
theorem own_va {va p3 : Int32} (h : va = ((p3 &&& (2147483647 : Int32)) % (9 : Int32))) : 0 ≤ va.toInt ∧ va.toInt ≤ 8 := by
  have h1 := c_mask p3 (2147483647 : Int32) 31 (by decide) (by decide)
  have h2 := (c_irem (p3 &&& (2147483647 : Int32)) (9 : Int32) 9 (by decide)).1 (by omega)
  rw [h]; omega
theorem own_nz {va : Int32} (h : 0 ≤ va.toInt ∧ va.toInt ≤ 8) : (9 : Int32) - va ≠ 0 := by
  intro q
  have h1 := c_isub (9 : Int32) va
  have e9 : (9 : Int32).toInt = 9 := by decide
  have e0 : (0 : Int32).toInt = 0 := by decide
  rw [q] at h1; omega
theorem own_vb {va vb p4 : Int32} (h : 0 ≤ va.toInt ∧ va.toInt ≤ 8) (hb : vb = (va + ((p4 &&& (2147483647 : Int32)) % ((9 : Int32) - va)))) : va.toInt ≤ vb.toInt ∧ vb.toInt ≤ 8 := by
  have h1 := c_isub (9 : Int32) va
  have r1 := rng32 ((9 : Int32) - va)
  have e9 : (9 : Int32).toInt = 9 := by decide
  have h2 := c_mask p4 (2147483647 : Int32) 31 (by decide) (by decide)
  have h3 := (c_iremV (p4 &&& (2147483647 : Int32)) ((9 : Int32) - va)).1 (by omega) (by omega)
  have h4 := c_iadd va ((p4 &&& (2147483647 : Int32)) % ((9 : Int32) - va))
  rw [← hb] at h4
  have r4 := rng32 vb
  omega
theorem own_lohi {q1 q2 xx yy lo hi : Int64} (hx : xx = (q1 &&& (9223372036854775807 : Int64))) (hy : yy = (q2 &&& (9223372036854775807 : Int64))) (hlo : lo = (if (0 : Int32) < (lcmpW xx yy) then yy else xx)) (hhi : hi = (if (lcmpW xx yy) < (0 : Int32) then yy else xx)) :
    (¬ (lcmpW lo (0 : Int64)) < (0 : Int32)) ∧ ¬ (0 : Int32) < (lcmpW lo hi) := by
  have h1 := c_maskL q1 (9223372036854775807 : Int64) 63 (by decide) (by decide)
  have h2 := c_maskL q2 (9223372036854775807 : Int64) 63 (by decide) (by decide)
  rw [← hx] at h1; rw [← hy] at h2
  have e0 : (0 : Int64).toInt = 0 := by decide
  rw [lw_lt, lw_gt]
  simp only [lw_lt, lw_gt] at hlo hhi
  simp only [Int64.lt_iff_toInt_lt] at *
  by_cases a : yy.toInt < xx.toInt
  · rw [if_pos a] at hlo; rw [if_neg (by omega)] at hhi; subst hlo hhi; omega
  · rw [if_neg a] at hlo
    by_cases b : xx.toInt < yy.toInt
    · rw [if_pos b] at hhi; subst hlo hhi; omega
    · rw [if_neg b] at hhi; subst hlo hhi; omega
theorem own_nine {x : Int32} (h : 0 ≤ x.toInt ∧ x.toInt ≤ 8) : x = (0 : Int32) ∨ x = (1 : Int32) ∨ x = (2 : Int32) ∨ x = (3 : Int32) ∨ x = (4 : Int32) ∨ x = (5 : Int32) ∨ x = (6 : Int32) ∨ x = (7 : Int32) ∨ x = (8 : Int32) := by
  have e0 : (0 : Int32).toInt = 0 := by decide
  have e1 : (1 : Int32).toInt = 1 := by decide
  have e2 : (2 : Int32).toInt = 2 := by decide
  have e3 : (3 : Int32).toInt = 3 := by decide
  have e4 : (4 : Int32).toInt = 4 := by decide
  have e5 : (5 : Int32).toInt = 5 := by decide
  have e6 : (6 : Int32).toInt = 6 := by decide
  have e7 : (7 : Int32).toInt = 7 := by decide
  have e8 : (8 : Int32).toInt = 8 := by decide
  simp only [← Int32.toInt_inj]
  omega
def own_d (x : Int32) : UInt64 := FP.ddiv (FP.i2d x) (4620693217682128896 : UInt64)
theorem own_fp {va vb : Int32} (ha : 0 ≤ va.toInt ∧ va.toInt ≤ 8) (hb : va.toInt ≤ vb.toInt ∧ vb.toInt ≤ 8) :
    Jvm.Free.Fl.NoNaN64 (FP.ddiv (FP.i2d va) (4620693217682128896 : UInt64)) ∧ Jvm.Free.Fl.NoNaN64 (FP.ddiv (FP.i2d vb) (4620693217682128896 : UInt64)) ∧ (¬ (0 : Int32) < (cmpValue (FP.dcmp (0 : UInt64) (FP.ddiv (FP.i2d va) (4620693217682128896 : UInt64))) .g)) ∧ (¬ (0 : Int32) < (cmpValue (FP.dcmp (FP.ddiv (FP.i2d va) (4620693217682128896 : UInt64)) (FP.ddiv (FP.i2d vb) (4620693217682128896 : UInt64))) .g)) ∧ (¬ (0 : Int32) < (cmpValue (FP.dcmp (FP.ddiv (FP.i2d vb) (4620693217682128896 : UInt64)) (4607182418800017408 : UInt64)) .g)) ∧
    (va < (8 : Int32) → ¬ (cmpValue (FP.dcmp (FP.ddiv (FP.i2d va) (4620693217682128896 : UInt64)) (4607182418800017408 : UInt64)) .l) = (0 : Int32)) ∧ (¬ va < (8 : Int32) → (cmpValue (FP.dcmp (FP.ddiv (FP.i2d va) (4620693217682128896 : UInt64)) (4607182418800017408 : UInt64)) .l) = (0 : Int32) ∧ (cmpValue (FP.dcmp (FP.ddiv (FP.i2d vb) (4620693217682128896 : UInt64)) (4607182418800017408 : UInt64)) .l) = (0 : Int32)) := by
  have hb1 := hb.1
  show (FP.ddiv (FP.i2d va) (4620693217682128896 : UInt64) &&& 0x7fffffffffffffff ≤ 0x7ff0000000000000) ∧ (FP.ddiv (FP.i2d vb) (4620693217682128896 : UInt64) &&& 0x7fffffffffffffff ≤ 0x7ff0000000000000) ∧ _
  rcases own_nine ha with rfl | rfl | rfl | rfl | rfl | rfl | rfl | rfl | rfl <;> rcases own_nine ⟨Int.le_trans ha.1 hb.1, hb.2⟩ with rfl | rfl | rfl | rfl | rfl | rfl | rfl | rfl | rfl <;> first | exact absurd hb1 (by decide) | decide +kernel
theorem own_pn0 : plainName "java/lang/Record" = true := by first | (simp [plainName, overriddenIn]; done) | decide +kernel
theorem own_ef_rmR (m : MethodId) (x0 : Addr) : entryFrame m #[(.ref x0)] 1 = mkF m 0 #[.val (.ref x0)] [] := by first | (simp [entryFrame, mkF, argsToLocals, Value.category]; done) | rfl
theorem own_d4_0 : decode jdk_30_method_1_code 0 = .ok (.aload_n 0, 1) := by decide +kernel
theorem own_d4_1 : decode jdk_30_method_1_code 1 = .ok (.invokespecial 1, 3) := by decide +kernel
theorem own_d4_4 : decode jdk_30_method_1_code 4 = .ok (.return_, 1) := by decide +kernel
def Q_rmR (Z : State) (a1 : Addr) (h0 : Heap) (n0 : Nat) (v : Option Value) (h : Heap) (L : List Loc) : Prop := v = none ∧ Fr n0 L ∧ h = h0
set_option maxRecDepth 65536 in
set_option maxHeartbeats 40000000 in
theorem rmR (l : Launch) (Z : State) (a0 : Array Value) (hw : ∀ d ∈ tables_1, d.before a0 Z = true) (ws : List Jvm.Cond) (a1 : Addr) (h0 : Heap) (n0 : Nat) (Z0 : n0 ≤ h0.size)  :
    MetFree l (⟨"java/lang/Record", "<init>", "()V"⟩ : MethodName) (head1 (Jvm.Cond.code (⟨"java/lang/Record", "<init>", "()V"⟩ : MethodName) jdk_30_method_1_code 1 none :: ws) ({ frames := 1, cells := 0, slots := 0, locals := 12 } : Room)) (fun a U => a = #[(.ref a1)] ∧ Z.Warmed39 U.vm ∧ U.heap = h0) (fun _ _ _ _ _ => True) (fun _ U o U' => ∃ v L, o = .returned v ∧ Q_rmR Z a1 h0 n0 v U'.heap L ∧ FrameEnd U o U' L ({ frames := 1, cells := 0, slots := 0, locals := 12 } : Room).cells ({ frames := 1, cells := 0, slots := 0, locals := 12 } : Room).slots) := by
  refine MetFree.of_bodySF (plainFor_of_name own_pn0) hisR ?_
  intro p e s m args below meth c s₁ Bd hml0 hP hK
  obtain ⟨rfl, hZ, hh⟩ := hP
  have hx := Bd.exec
  have hby := Bd.bytes
  have hml : c.maxLocals = 1 := hml0
  have hown : s.vm.findClass "java/lang/Record" = some m.cls := findClass_of_methodNamed Bd.named
  have hnm := (name_of_methodNamed Bd.named Bd.method).1
  have X0 : Stand p l e ({ frames := 1, cells := 0, slots := 0, locals := 12 } : Room) s m #[(.ref a1)] below meth c s₁ [] 0 0 := Stand.of_body Bd
  have e0 : s₁.heap = h0 := by rw [← hh, Bd.state]; rfl
  have N0 := Fr.nil n0
  have R0 : ∀ t, Steps p.tables e below (s₁.setTop (mkF m 0 #[.val (.ref a1)] [])) t → Steps p.tables e below (s₁.setTop (entryFrame m #[(.ref a1)] 1)) t := fun t k => castTop (own_ef_rmR m a1) k
  have R1 : ∀ t, Steps p.tables e below (s₁.setTop (mkF m 1 #[.val (.ref a1)] [(.ref a1)])) t → Steps p.tables e below (s₁.setTop (entryFrame m #[(.ref a1)] 1)) t := by
    intro t k
    refine R0 t ?_
    show Steps p.tables e below (s₁.setTop (mkF m 0 #[.val (.ref a1)] [])) _
    refine XS.aloadN X0.here hx rfl (hb hby own_d4_0) rfl rfl ?_
    exact k
  obtain ⟨T2, X2, e2, st2⟩ := initO X0 hx hZ hown (hw _ (List.mem_of_getElem? (i := 21) rfl)) (hw _ (List.mem_of_getElem? (i := 22) rfl)) (hw _ (List.mem_of_getElem? (i := 23) rfl)) e0 (g := (mkF m 1 #[.val (.ref a1)] [(.ref a1)])) rfl (by rw [hml]; rfl) rfl (hb hby own_d4_1) (by decide) (W := 0) (by show 2 * 0 + _ ≤ _; exact Nat.le_of_eq rfl) (by decide)
  have R2 : ∀ t, Steps p.tables e below (T2.setTop (mkF m 4 #[.val (.ref a1)] [])) t → Steps p.tables e below (s₁.setTop (entryFrame m #[(.ref a1)] 1)) t := fun t k => R1 t (st2 t k)
  obtain ⟨fs, hr, hrun, hended, hW, hsame⟩ := X2.leave (v := none) (fun _ => rfl)
  refine ⟨_, _, R2 _ ?_, hrun, hended, _, _, rfl, ?_, ⟨_, rfl⟩, hW, hsame.mono (by decide) (by decide)⟩
  · exact X2.returnOut hx Bd.returns (hb hby own_d4_4) hr
  · show Q_rmR Z a1 h0 n0 _ T2.heap _
    rw [e2]
    exact ⟨rfl, N0, rfl⟩
theorem own_ef_rmmin (m : MethodId) (x0 : Int64) (x1 : Int64) : entryFrame m #[(.long x0), (.long x1)] 4 = mkF m 0 #[.val (.long x0), .second, .val (.long x1), .second] [] := by first | (simp [entryFrame, mkF, argsToLocals, Value.category]; done) | rfl
theorem own_d1_0 : decode jdk_29_method_70_code 0 = .ok (.lload_n 0, 1) := by decide +kernel
theorem own_d1_1 : decode jdk_29_method_70_code 1 = .ok (.lload_n 2, 1) := by decide +kernel
theorem own_d1_2 : decode jdk_29_method_70_code 2 = .ok (.lcmp, 1) := by decide +kernel
theorem own_d1_3 : decode jdk_29_method_70_code 3 = .ok (.ifCond .gt 7, 3) := by decide +kernel
theorem own_d1_10 : decode jdk_29_method_70_code 10 = .ok (.lload_n 2, 1) := by decide +kernel
theorem own_d1_6 : decode jdk_29_method_70_code 6 = .ok (.lload_n 0, 1) := by decide +kernel
theorem own_d1_7 : decode jdk_29_method_70_code 7 = .ok (.goto 4, 3) := by decide +kernel
theorem own_d1_11 : decode jdk_29_method_70_code 11 = .ok (.lreturn, 1) := by decide +kernel
def Q_rmmin (Z : State) (q1 q2 : Int64) (h0 : Heap) (n0 : Nat) (v : Option Value) (h : Heap) (L : List Loc) : Prop := v = some (.long (if (0 : Int32) < (lcmpW q1 q2) then q2 else q1)) ∧ Fr n0 L ∧ h = h0
set_option maxRecDepth 65536 in
set_option maxHeartbeats 40000000 in
theorem rmmin (l : Launch) (Z : State) (a0 : Array Value) (hw : ∀ d ∈ tables_1, d.before a0 Z = true) (ws : List Jvm.Cond) (q1 q2 : Int64) (h0 : Heap) (n0 : Nat) (Z0 : n0 ≤ h0.size)  :
    MetFree l (⟨"java/lang/Math", "min", "(JJ)J"⟩ : MethodName) (head1 (Jvm.Cond.code (⟨"java/lang/Math", "min", "(JJ)J"⟩ : MethodName) jdk_29_method_70_code 4 (some .long) :: ws) ({ frames := 0, cells := 0, slots := 0, locals := 0 } : Room)) (fun a U => a = #[(.long q1), (.long q2)] ∧ Z.Warmed39 U.vm ∧ U.heap = h0) (fun _ _ _ _ _ => True) (fun _ U o U' => ∃ v L, o = .returned v ∧ Q_rmmin Z q1 q2 h0 n0 v U'.heap L ∧ FrameEnd U o U' L ({ frames := 0, cells := 0, slots := 0, locals := 0 } : Room).cells ({ frames := 0, cells := 0, slots := 0, locals := 0 } : Room).slots) := by
  refine MetFree.of_bodySF (Jvm.Free.JP.mathPlain rfl (by decide +kernel)) hisR ?_
  intro p e s m args below meth c s₁ Bd hml0 hP hK
  obtain ⟨rfl, hZ, hh⟩ := hP
  have hx := Bd.exec
  have hby := Bd.bytes
  have hml : c.maxLocals = 4 := hml0
  have hown : s.vm.findClass "java/lang/Math" = some m.cls := findClass_of_methodNamed Bd.named
  have hnm := (name_of_methodNamed Bd.named Bd.method).1
  have X0 : Stand p l e ({ frames := 0, cells := 0, slots := 0, locals := 0 } : Room) s m #[(.long q1), (.long q2)] below meth c s₁ [] 0 0 := Stand.of_body Bd
  have e0 : s₁.heap = h0 := by rw [← hh, Bd.state]; rfl
  have N0 := Fr.nil n0
  have R0 : ∀ t, Steps p.tables e below (s₁.setTop (mkF m 0 #[.val (.long q1), .second, .val (.long q2), .second] [])) t → Steps p.tables e below (s₁.setTop (entryFrame m #[(.long q1), (.long q2)] 4)) t := fun t k => castTop (own_ef_rmmin m q1 q2) k
  have R1 : ∀ t, Steps p.tables e below (s₁.setTop (mkF m 3 #[.val (.long q1), .second, .val (.long q2), .second] [(.int (lcmpW q1 q2))])) t → Steps p.tables e below (s₁.setTop (entryFrame m #[(.long q1), (.long q2)] 4)) t := by
    intro t k
    refine R0 t ?_
    show Steps p.tables e below (s₁.setTop (mkF m 0 #[.val (.long q1), .second, .val (.long q2), .second] [])) _
    refine XS.lloadN X0.here hx rfl (hb hby own_d1_0) rfl ?_
    show Steps p.tables e below (s₁.setTop (mkF m 1 #[.val (.long q1), .second, .val (.long q2), .second] [(.long q1)])) _
    refine XS.lloadN X0.here hx rfl (hb hby own_d1_1) rfl ?_
    show Steps p.tables e below (s₁.setTop (mkF m 2 #[.val (.long q1), .second, .val (.long q2), .second] [(.long q2), (.long q1)])) _
    refine XS.lcmp X0.here hx rfl (hb hby own_d1_2) rfl ?_
    exact k
  obtain ⟨res, hres, R2⟩ : ∃ (res : Int64), res = (if (0 : Int32) < (lcmpW q1 q2) then q2 else q1) ∧ (∀ t, Steps p.tables e below (s₁.setTop (mkF m 11 #[.val (.long q1), .second, .val (.long q2), .second] [(.long res)])) t → Steps p.tables e below (s₁.setTop (entryFrame m #[(.long q1), (.long q2)] 4)) t) := by
    by_cases hc3_0 : (0 : Int32) < (lcmpW q1 q2)
    · refine ⟨q2, (by simp only [if_pos hc3_0]), ?_⟩
      intro t k
      refine R1 t ?_
      show Steps p.tables e below (s₁.setTop (mkF m 3 #[.val (.long q1), .second, .val (.long q2), .second] [(.int (lcmpW q1 q2))])) _
      refine XS.ifYes X0.here hx rfl (pc0 := 3) (pc' := 10) rfl (hb hby own_d1_3) rfl ((if0 _ _).trans (tlt hc3_0).2.2.1) (by decide) (by decide) ?_
      show Steps p.tables e below (s₁.setTop (mkF m 10 #[.val (.long q1), .second, .val (.long q2), .second] [])) _
      refine XS.lloadN X0.here hx rfl (hb hby own_d1_10) rfl ?_
      exact k
    · refine ⟨q1, (by simp only [if_neg hc3_0]), ?_⟩
      intro t k
      refine R1 t ?_
      show Steps p.tables e below (s₁.setTop (mkF m 3 #[.val (.long q1), .second, .val (.long q2), .second] [(.int (lcmpW q1 q2))])) _
      refine XS.ifNo X0.here hx rfl (hb hby own_d1_3) rfl ((if0 _ _).trans (flt hc3_0).2.2.1) ?_
      show Steps p.tables e below (s₁.setTop (mkF m 6 #[.val (.long q1), .second, .val (.long q2), .second] [])) _
      refine XS.lloadN X0.here hx rfl (hb hby own_d1_6) rfl ?_
      show Steps p.tables e below (s₁.setTop (mkF m 7 #[.val (.long q1), .second, .val (.long q2), .second] [(.long q1)])) _
      refine XS.goto X0.here hx rfl (pc0 := 7) (pc' := 11) rfl (hb hby own_d1_7) (by decide) (by decide) ?_
      exact k
  subst hres
  obtain ⟨fs, hr, hrun, hended, hW, hsame⟩ := X0.leave (v := some (.long (if (0 : Int32) < (lcmpW q1 q2) then q2 else q1))) (fun h => by rw [Bd.returns] at h; cases h)
  refine ⟨_, _, R2 _ ?_, hrun, hended, _, _, rfl, ?_, ⟨_, rfl⟩, hW, hsame.mono (by decide) (by decide)⟩
  · exact retOut X0 hx Bd.returns rfl (Or.inr (Or.inl ⟨rfl, rfl, _, rfl⟩)) (hb hby own_d1_11) hr
  · show Q_rmmin Z q1 q2 h0 n0 _ s₁.heap _
    rw [e0]
    exact ⟨rfl, N0, rfl⟩
theorem own_ef_rmmax (m : MethodId) (x0 : Int64) (x1 : Int64) : entryFrame m #[(.long x0), (.long x1)] 4 = mkF m 0 #[.val (.long x0), .second, .val (.long x1), .second] [] := by first | (simp [entryFrame, mkF, argsToLocals, Value.category]; done) | rfl
theorem own_d2_0 : decode jdk_29_method_66_code 0 = .ok (.lload_n 0, 1) := by decide +kernel
theorem own_d2_1 : decode jdk_29_method_66_code 1 = .ok (.lload_n 2, 1) := by decide +kernel
theorem own_d2_2 : decode jdk_29_method_66_code 2 = .ok (.lcmp, 1) := by decide +kernel
theorem own_d2_3 : decode jdk_29_method_66_code 3 = .ok (.ifCond .lt 7, 3) := by decide +kernel
theorem own_d2_10 : decode jdk_29_method_66_code 10 = .ok (.lload_n 2, 1) := by decide +kernel
theorem own_d2_6 : decode jdk_29_method_66_code 6 = .ok (.lload_n 0, 1) := by decide +kernel
theorem own_d2_7 : decode jdk_29_method_66_code 7 = .ok (.goto 4, 3) := by decide +kernel
theorem own_d2_11 : decode jdk_29_method_66_code 11 = .ok (.lreturn, 1) := by decide +kernel
def Q_rmmax (Z : State) (q1 q2 : Int64) (h0 : Heap) (n0 : Nat) (v : Option Value) (h : Heap) (L : List Loc) : Prop := v = some (.long (if (lcmpW q1 q2) < (0 : Int32) then q2 else q1)) ∧ Fr n0 L ∧ h = h0
set_option maxRecDepth 65536 in
set_option maxHeartbeats 40000000 in
theorem rmmax (l : Launch) (Z : State) (a0 : Array Value) (hw : ∀ d ∈ tables_1, d.before a0 Z = true) (ws : List Jvm.Cond) (q1 q2 : Int64) (h0 : Heap) (n0 : Nat) (Z0 : n0 ≤ h0.size)  :
    MetFree l (⟨"java/lang/Math", "max", "(JJ)J"⟩ : MethodName) (head1 (Jvm.Cond.code (⟨"java/lang/Math", "max", "(JJ)J"⟩ : MethodName) jdk_29_method_66_code 4 (some .long) :: ws) ({ frames := 0, cells := 0, slots := 0, locals := 0 } : Room)) (fun a U => a = #[(.long q1), (.long q2)] ∧ Z.Warmed39 U.vm ∧ U.heap = h0) (fun _ _ _ _ _ => True) (fun _ U o U' => ∃ v L, o = .returned v ∧ Q_rmmax Z q1 q2 h0 n0 v U'.heap L ∧ FrameEnd U o U' L ({ frames := 0, cells := 0, slots := 0, locals := 0 } : Room).cells ({ frames := 0, cells := 0, slots := 0, locals := 0 } : Room).slots) := by
  refine MetFree.of_bodySF (Jvm.Free.JP.mathPlain rfl (by decide +kernel)) hisR ?_
  intro p e s m args below meth c s₁ Bd hml0 hP hK
  obtain ⟨rfl, hZ, hh⟩ := hP
  have hx := Bd.exec
  have hby := Bd.bytes
  have hml : c.maxLocals = 4 := hml0
  have hown : s.vm.findClass "java/lang/Math" = some m.cls := findClass_of_methodNamed Bd.named
  have hnm := (name_of_methodNamed Bd.named Bd.method).1
  have X0 : Stand p l e ({ frames := 0, cells := 0, slots := 0, locals := 0 } : Room) s m #[(.long q1), (.long q2)] below meth c s₁ [] 0 0 := Stand.of_body Bd
  have e0 : s₁.heap = h0 := by rw [← hh, Bd.state]; rfl
  have N0 := Fr.nil n0
  have R0 : ∀ t, Steps p.tables e below (s₁.setTop (mkF m 0 #[.val (.long q1), .second, .val (.long q2), .second] [])) t → Steps p.tables e below (s₁.setTop (entryFrame m #[(.long q1), (.long q2)] 4)) t := fun t k => castTop (own_ef_rmmax m q1 q2) k
  have R1 : ∀ t, Steps p.tables e below (s₁.setTop (mkF m 3 #[.val (.long q1), .second, .val (.long q2), .second] [(.int (lcmpW q1 q2))])) t → Steps p.tables e below (s₁.setTop (entryFrame m #[(.long q1), (.long q2)] 4)) t := by
    intro t k
    refine R0 t ?_
    show Steps p.tables e below (s₁.setTop (mkF m 0 #[.val (.long q1), .second, .val (.long q2), .second] [])) _
    refine XS.lloadN X0.here hx rfl (hb hby own_d2_0) rfl ?_
    show Steps p.tables e below (s₁.setTop (mkF m 1 #[.val (.long q1), .second, .val (.long q2), .second] [(.long q1)])) _
    refine XS.lloadN X0.here hx rfl (hb hby own_d2_1) rfl ?_
    show Steps p.tables e below (s₁.setTop (mkF m 2 #[.val (.long q1), .second, .val (.long q2), .second] [(.long q2), (.long q1)])) _
    refine XS.lcmp X0.here hx rfl (hb hby own_d2_2) rfl ?_
    exact k
  obtain ⟨res, hres, R2⟩ : ∃ (res : Int64), res = (if (lcmpW q1 q2) < (0 : Int32) then q2 else q1) ∧ (∀ t, Steps p.tables e below (s₁.setTop (mkF m 11 #[.val (.long q1), .second, .val (.long q2), .second] [(.long res)])) t → Steps p.tables e below (s₁.setTop (entryFrame m #[(.long q1), (.long q2)] 4)) t) := by
    by_cases hc3_0 : (lcmpW q1 q2) < (0 : Int32)
    · refine ⟨q2, (by simp only [if_pos hc3_0]), ?_⟩
      intro t k
      refine R1 t ?_
      show Steps p.tables e below (s₁.setTop (mkF m 3 #[.val (.long q1), .second, .val (.long q2), .second] [(.int (lcmpW q1 q2))])) _
      refine XS.ifYes X0.here hx rfl (pc0 := 3) (pc' := 10) rfl (hb hby own_d2_3) rfl ((if0 _ _).trans (tlt hc3_0).1) (by decide) (by decide) ?_
      show Steps p.tables e below (s₁.setTop (mkF m 10 #[.val (.long q1), .second, .val (.long q2), .second] [])) _
      refine XS.lloadN X0.here hx rfl (hb hby own_d2_10) rfl ?_
      exact k
    · refine ⟨q1, (by simp only [if_neg hc3_0]), ?_⟩
      intro t k
      refine R1 t ?_
      show Steps p.tables e below (s₁.setTop (mkF m 3 #[.val (.long q1), .second, .val (.long q2), .second] [(.int (lcmpW q1 q2))])) _
      refine XS.ifNo X0.here hx rfl (hb hby own_d2_3) rfl ((if0 _ _).trans (flt hc3_0).1) ?_
      show Steps p.tables e below (s₁.setTop (mkF m 6 #[.val (.long q1), .second, .val (.long q2), .second] [])) _
      refine XS.lloadN X0.here hx rfl (hb hby own_d2_6) rfl ?_
      show Steps p.tables e below (s₁.setTop (mkF m 7 #[.val (.long q1), .second, .val (.long q2), .second] [(.long q1)])) _
      refine XS.goto X0.here hx rfl (pc0 := 7) (pc' := 11) rfl (hb hby own_d2_7) (by decide) (by decide) ?_
      exact k
  subst hres
  obtain ⟨fs, hr, hrun, hended, hW, hsame⟩ := X0.leave (v := some (.long (if (lcmpW q1 q2) < (0 : Int32) then q2 else q1))) (fun h => by rw [Bd.returns] at h; cases h)
  refine ⟨_, _, R2 _ ?_, hrun, hended, _, _, rfl, ?_, ⟨_, rfl⟩, hW, hsame.mono (by decide) (by decide)⟩
  · exact retOut X0 hx Bd.returns rfl (Or.inr (Or.inl ⟨rfl, rfl, _, rfl⟩)) (hb hby own_d2_11) hr
  · show Q_rmmax Z q1 q2 h0 n0 _ s₁.heap _
    rw [e0]
    exact ⟨rfl, N0, rfl⟩
theorem own_pn1 : plainName "com/example/trunkwright/trunkwright/random/FlatModel" = true := by first | (simp [plainName, overriddenIn]; done) | decide +kernel
theorem own_ef_rmFI (m : MethodId) (x0 : Addr) (x1 : Int64) (x2 : Int64) (x3 : UInt64) (x4 : UInt64) : entryFrame m #[(.ref x0), (.long x1), (.long x2), (.double x3), (.double x4)] 9 = mkF m 0 #[.val (.ref x0), .val (.long x1), .second, .val (.long x2), .second, .val (.double x3), .second, .val (.double x4), .second] [] := by first | (simp [entryFrame, mkF, argsToLocals, Value.category]; done) | rfl
theorem own_d3_0 : decode prog_72_method_1_code 0 = .ok (.aload_n 0, 1) := by decide +kernel
theorem own_d3_1 : decode prog_72_method_1_code 1 = .ok (.invokespecial 1, 3) := by decide +kernel
theorem own_pd2 : parseMethodDescriptor "()V" = some ⟨[], none⟩ := by decide +kernel
theorem own_d3_4 : decode prog_72_method_1_code 4 = .ok (.lload_n 1, 1) := by decide +kernel
theorem own_d3_5 : decode prog_72_method_1_code 5 = .ok (.lconst 0, 1) := by decide +kernel
theorem own_d3_6 : decode prog_72_method_1_code 6 = .ok (.lcmp, 1) := by decide +kernel
theorem own_d3_7 : decode prog_72_method_1_code 7 = .ok (.ifCond .lt 9, 3) := by decide +kernel
theorem own_d3_10 : decode prog_72_method_1_code 10 = .ok (.lload_n 1, 1) := by decide +kernel
theorem own_d3_11 : decode prog_72_method_1_code 11 = .ok (.lload_n 3, 1) := by decide +kernel
theorem own_d3_12 : decode prog_72_method_1_code 12 = .ok (.lcmp, 1) := by decide +kernel
theorem own_d3_13 : decode prog_72_method_1_code 13 = .ok (.ifCond .le 18, 3) := by decide +kernel
theorem own_d3_31 : decode prog_72_method_1_code 31 = .ok (.dconst 0, 1) := by decide +kernel
theorem own_d3_32 : decode prog_72_method_1_code 32 = .ok (.dload 5, 2) := by decide +kernel
theorem own_d3_34 : decode prog_72_method_1_code 34 = .ok (.dcmp .g, 1) := by decide +kernel
theorem own_d3_35 : decode prog_72_method_1_code 35 = .ok (.ifCond .gt 18, 3) := by decide +kernel
theorem own_d3_38 : decode prog_72_method_1_code 38 = .ok (.dload 5, 2) := by decide +kernel
theorem own_d3_40 : decode prog_72_method_1_code 40 = .ok (.dload 7, 2) := by decide +kernel
theorem own_d3_42 : decode prog_72_method_1_code 42 = .ok (.dcmp .g, 1) := by decide +kernel
theorem own_d3_43 : decode prog_72_method_1_code 43 = .ok (.ifCond .gt 10, 3) := by decide +kernel
theorem own_d3_46 : decode prog_72_method_1_code 46 = .ok (.dload 7, 2) := by decide +kernel
theorem own_d3_48 : decode prog_72_method_1_code 48 = .ok (.dconst 1, 1) := by decide +kernel
theorem own_d3_49 : decode prog_72_method_1_code 49 = .ok (.dcmp .g, 1) := by decide +kernel
theorem own_d3_50 : decode prog_72_method_1_code 50 = .ok (.ifCond .le 20, 3) := by decide +kernel
theorem own_d3_70 : decode prog_72_method_1_code 70 = .ok (.aload_n 0, 1) := by decide +kernel
theorem own_d3_71 : decode prog_72_method_1_code 71 = .ok (.lload_n 1, 1) := by decide +kernel
theorem own_d3_72 : decode prog_72_method_1_code 72 = .ok (.putfield 19, 3) := by decide +kernel
theorem own_d3_75 : decode prog_72_method_1_code 75 = .ok (.aload_n 0, 1) := by decide +kernel
theorem own_d3_76 : decode prog_72_method_1_code 76 = .ok (.lload_n 3, 1) := by decide +kernel
theorem own_d3_77 : decode prog_72_method_1_code 77 = .ok (.putfield 25, 3) := by decide +kernel
theorem own_d3_80 : decode prog_72_method_1_code 80 = .ok (.aload_n 0, 1) := by decide +kernel
theorem own_d3_81 : decode prog_72_method_1_code 81 = .ok (.dload 5, 2) := by decide +kernel
theorem own_d3_83 : decode prog_72_method_1_code 83 = .ok (.putfield 28, 3) := by decide +kernel
theorem own_d3_86 : decode prog_72_method_1_code 86 = .ok (.aload_n 0, 1) := by decide +kernel
theorem own_d3_87 : decode prog_72_method_1_code 87 = .ok (.dload 7, 2) := by decide +kernel
theorem own_d3_89 : decode prog_72_method_1_code 89 = .ok (.putfield 32, 3) := by decide +kernel
theorem own_d3_92 : decode prog_72_method_1_code 92 = .ok (.return_, 1) := by decide +kernel
def Q_rmFI (Z : State) (a1 : Addr) (q2 q3 : Int64) (d4 d5 : UInt64) (h0 : Heap) (n0 : Nat) (v : Option Value) (h : Heap) (L : List Loc) : Prop := v = none ∧ Fr n0 L ∧ Keep h0 h [a1] ∧ Exa Z h a1 "com/example/trunkwright/trunkwright/random/FlatModel" ∧ Fld Z h a1 "com/example/trunkwright/trunkwright/random/FlatModel" "muLow" "D" (.double d4) ∧ Fld Z h a1 "com/example/trunkwright/trunkwright/random/FlatModel" "muHigh" "D" (.double d5)
set_option maxRecDepth 65536 in
set_option maxHeartbeats 40000000 in
theorem rmFI (l : Launch) (Z : State) (a0 : Array Value) (hw : ∀ d ∈ tables_1, d.before a0 Z = true) (ws : List Jvm.Cond) (a1 : Addr) (q2 q3 : Int64) (d4 d5 : UInt64) (h0 : Heap) (n0 : Nat) (Z0 : n0 ≤ h0.size) (F_alphaLow : Fld Z h0 a1 "com/example/trunkwright/trunkwright/random/FlatModel" "alphaLow" "J" (.long (0 : Int64))) (F_alphaHigh : Fld Z h0 a1 "com/example/trunkwright/trunkwright/random/FlatModel" "alphaHigh" "J" (.long (0 : Int64))) (F_muLow : Fld Z h0 a1 "com/example/trunkwright/trunkwright/random/FlatModel" "muLow" "D" (.double (0 : UInt64))) (F_muHigh : Fld Z h0 a1 "com/example/trunkwright/trunkwright/random/FlatModel" "muHigh" "D" (.double (0 : UInt64))) (Ea : Exa Z h0 a1 "com/example/trunkwright/trunkwright/random/FlatModel") (g_a1 : n0 ≤ a1) (c1 : ¬ (lcmpW q2 (0 : Int64)) < (0 : Int32)) (c2 : ¬ (0 : Int32) < (lcmpW q2 q3)) (c3 : ¬ (0 : Int32) < (cmpValue (FP.dcmp (0 : UInt64) d4) .g)) (c4 : ¬ (0 : Int32) < (cmpValue (FP.dcmp d4 d5) .g)) (c5 : ¬ (0 : Int32) < (cmpValue (FP.dcmp d5 (4607182418800017408 : UInt64)) .g)) :
    MetFree l (⟨"com/example/trunkwright/trunkwright/random/FlatModel", "<init>", "(JJDD)V"⟩ : MethodName) (head1 (Jvm.Cond.code (⟨"com/example/trunkwright/trunkwright/random/FlatModel", "<init>", "(JJDD)V"⟩ : MethodName) prog_72_method_1_code 9 none :: ws) ({ frames := 2, cells := 0, slots := 0, locals := 24 } : Room)) (fun a U => a = #[(.ref a1), (.long q2), (.long q3), (.double d4), (.double d5)] ∧ Z.Warmed39 U.vm ∧ U.heap = h0) (fun _ _ _ _ _ => True) (fun _ U o U' => ∃ v L, o = .returned v ∧ Q_rmFI Z a1 q2 q3 d4 d5 h0 n0 v U'.heap L ∧ FrameEnd U o U' L ({ frames := 2, cells := 0, slots := 0, locals := 24 } : Room).cells ({ frames := 2, cells := 0, slots := 0, locals := 24 } : Room).slots) := by
  refine MetFree.of_bodySF (plainFor_of_name own_pn1) hisR ?_
  intro p e s m args below meth c s₁ Bd hml0 hP hK
  obtain ⟨rfl, hZ, hh⟩ := hP
  have hx := Bd.exec
  have hby := Bd.bytes
  have hml : c.maxLocals = 9 := hml0
  have hown : s.vm.findClass "com/example/trunkwright/trunkwright/random/FlatModel" = some m.cls := findClass_of_methodNamed Bd.named
  have hnm := (name_of_methodNamed Bd.named Bd.method).1
  have X0 : Stand p l e ({ frames := 2, cells := 0, slots := 0, locals := 24 } : Room) s m #[(.ref a1), (.long q2), (.long q3), (.double d4), (.double d5)] below meth c s₁ [] 0 0 := Stand.of_body Bd
  have e0 : s₁.heap = h0 := by rw [← hh, Bd.state]; rfl
  have N0 := Fr.nil n0
  have R0 : ∀ t, Steps p.tables e below (s₁.setTop (mkF m 0 #[.val (.ref a1), .val (.long q2), .second, .val (.long q3), .second, .val (.double d4), .second, .val (.double d5), .second] [])) t → Steps p.tables e below (s₁.setTop (entryFrame m #[(.ref a1), (.long q2), (.long q3), (.double d4), (.double d5)] 9)) t := fun t k => castTop (own_ef_rmFI m a1 q2 q3 d4 d5) k
  have R1 : ∀ t, Steps p.tables e below (s₁.setTop (mkF m 1 #[.val (.ref a1), .val (.long q2), .second, .val (.long q3), .second, .val (.double d4), .second, .val (.double d5), .second] [(.ref a1)])) t → Steps p.tables e below (s₁.setTop (entryFrame m #[(.ref a1), (.long q2), (.long q3), (.double d4), (.double d5)] 9)) t := by
    intro t k
    refine R0 t ?_
    show Steps p.tables e below (s₁.setTop (mkF m 0 #[.val (.ref a1), .val (.long q2), .second, .val (.long q3), .second, .val (.double d4), .second, .val (.double d5), .second] [])) _
    refine XS.aloadN X0.here hx rfl (hb hby own_d3_0) rfl rfl ?_
    exact k
  obtain ⟨_, _, ⟨T2, L2, k2, n2⟩, -, X2, ⟨Lc2, hQ2, l2, y2, z2⟩, st2⟩ := X0.specialBack hx (y := (⟨"java/lang/Record", "<init>", "()V"⟩ : MethodName)) rfl hown (mvT hZ (hw _ (List.mem_of_getElem? (i := 16) rfl))) (mvT hZ (hw _ (List.mem_of_getElem? (i := 17) rfl))) (mvT hZ (hw _ (List.mem_of_getElem? (i := 20) rfl))) (by decide) (backOf (W := 0) (rmR l Z a0 hw [] a1  h0 n0 Z0 ) hZ (hw _ (List.mem_of_getElem? (i := 20) rfl)) (hw _ (List.mem_of_getElem? (i := 19) rfl)) (by decide) (by decide)) (g := (mkF m 1 #[.val (.ref a1), .val (.long q2), .second, .val (.long q3), .second, .val (.double d4), .second, .val (.double d5), .second] [(.ref a1)])) rfl (by rw [hml]; rfl) (Steps.refl _) (a := a1) (argsL := []) (rest := []) (lenOf own_pd2 rfl) rfl (by show 2 * 0 + _ ≤ _; exact Nat.le_of_eq rfl) (hb hby own_d3_1) (fun _ _ => ⟨rfl, e0, (by decide : 0 + 0 ≤ _), (by decide : 0 + 0 ≤ _)⟩)
  dsimp only [Pt.U, Pt.locs, Pt.cells, Pt.slots] at X2 l2 y2 z2 st2 hQ2
  subst l2 y2 z2
  obtain ⟨rfl, Nq2, eq2⟩ := hQ2
  have N2 := Fr.app N0 Nq2
  have R2 : ∀ t, Steps p.tables e below (T2.setTop (mkF m 4 #[.val (.ref a1), .val (.long q2), .second, .val (.long q3), .second, .val (.double d4), .second, .val (.double d5), .second] [])) t → Steps p.tables e below (s₁.setTop (entryFrame m #[(.ref a1), (.long q2), (.long q3), (.double d4), (.double d5)] 9)) t := fun t k => R1 t (st2.trans k)
  have R3 : ∀ t, Steps p.tables e below (T2.setTop (mkF m 72 #[.val (.ref a1), .val (.long q2), .second, .val (.long q3), .second, .val (.double d4), .second, .val (.double d5), .second] [(.long q2), (.ref a1)])) t → Steps p.tables e below (s₁.setTop (entryFrame m #[(.ref a1), (.long q2), (.long q3), (.double d4), (.double d5)] 9)) t := by
    intro t k
    refine R2 t ?_
    show Steps p.tables e below (T2.setTop (mkF m 4 #[.val (.ref a1), .val (.long q2), .second, .val (.long q3), .second, .val (.double d4), .second, .val (.double d5), .second] [])) _
    refine XS.lloadN X2.here hx rfl (hb hby own_d3_4) rfl ?_
    show Steps p.tables e below (T2.setTop (mkF m 5 #[.val (.ref a1), .val (.long q2), .second, .val (.long q3), .second, .val (.double d4), .second, .val (.double d5), .second] [(.long q2)])) _
    refine XS.lconst X2.here hx rfl (hb hby own_d3_5) ?_
    show Steps p.tables e below (T2.setTop (mkF m 6 #[.val (.ref a1), .val (.long q2), .second, .val (.long q3), .second, .val (.double d4), .second, .val (.double d5), .second] [(.long (0 : Int64)), (.long q2)])) _
    refine XS.lcmp X2.here hx rfl (hb hby own_d3_6) rfl ?_
    show Steps p.tables e below (T2.setTop (mkF m 7 #[.val (.ref a1), .val (.long q2), .second, .val (.long q3), .second, .val (.double d4), .second, .val (.double d5), .second] [(.int (lcmpW q2 (0 : Int64)))])) _
    refine XS.ifNo X2.here hx rfl (hb hby own_d3_7) rfl ((if0 _ _).trans (flt c1).1) ?_
    show Steps p.tables e below (T2.setTop (mkF m 10 #[.val (.ref a1), .val (.long q2), .second, .val (.long q3), .second, .val (.double d4), .second, .val (.double d5), .second] [])) _
    refine XS.lloadN X2.here hx rfl (hb hby own_d3_10) rfl ?_
    show Steps p.tables e below (T2.setTop (mkF m 11 #[.val (.ref a1), .val (.long q2), .second, .val (.long q3), .second, .val (.double d4), .second, .val (.double d5), .second] [(.long q2)])) _
    refine XS.lloadN X2.here hx rfl (hb hby own_d3_11) rfl ?_
    show Steps p.tables e below (T2.setTop (mkF m 12 #[.val (.ref a1), .val (.long q2), .second, .val (.long q3), .second, .val (.double d4), .second, .val (.double d5), .second] [(.long q3), (.long q2)])) _
    refine XS.lcmp X2.here hx rfl (hb hby own_d3_12) rfl ?_
    show Steps p.tables e below (T2.setTop (mkF m 13 #[.val (.ref a1), .val (.long q2), .second, .val (.long q3), .second, .val (.double d4), .second, .val (.double d5), .second] [(.int (lcmpW q2 q3))])) _
    refine XS.ifYes X2.here hx rfl (pc0 := 13) (pc' := 31) rfl (hb hby own_d3_13) rfl ((if0 _ _).trans (flt c2).2.2.2) (by decide) (by decide) ?_
    show Steps p.tables e below (T2.setTop (mkF m 31 #[.val (.ref a1), .val (.long q2), .second, .val (.long q3), .second, .val (.double d4), .second, .val (.double d5), .second] [])) _
    refine XS.dconst0 X2.here hx rfl (hb hby own_d3_31) (v := (0 : UInt64)) (by decide +kernel) ?_
    show Steps p.tables e below (T2.setTop (mkF m 32 #[.val (.ref a1), .val (.long q2), .second, .val (.long q3), .second, .val (.double d4), .second, .val (.double d5), .second] [(.double (0 : UInt64))])) _
    refine XS.dload X2.here hx rfl (hb hby own_d3_32) rfl ?_
    show Steps p.tables e below (T2.setTop (mkF m 34 #[.val (.ref a1), .val (.long q2), .second, .val (.long q3), .second, .val (.double d4), .second, .val (.double d5), .second] [(.double d4), (.double (0 : UInt64))])) _
    refine XS.dcmpS X2.here hx rfl (hb hby own_d3_34) rfl rfl ?_
    show Steps p.tables e below (T2.setTop (mkF m 35 #[.val (.ref a1), .val (.long q2), .second, .val (.long q3), .second, .val (.double d4), .second, .val (.double d5), .second] [(.int (cmpValue (FP.dcmp (0 : UInt64) d4) .g))])) _
    refine XS.ifNo X2.here hx rfl (hb hby own_d3_35) rfl ((if0 _ _).trans (flt c3).2.2.1) ?_
    show Steps p.tables e below (T2.setTop (mkF m 38 #[.val (.ref a1), .val (.long q2), .second, .val (.long q3), .second, .val (.double d4), .second, .val (.double d5), .second] [])) _
    refine XS.dload X2.here hx rfl (hb hby own_d3_38) rfl ?_
    show Steps p.tables e below (T2.setTop (mkF m 40 #[.val (.ref a1), .val (.long q2), .second, .val (.long q3), .second, .val (.double d4), .second, .val (.double d5), .second] [(.double d4)])) _
    refine XS.dload X2.here hx rfl (hb hby own_d3_40) rfl ?_
    show Steps p.tables e below (T2.setTop (mkF m 42 #[.val (.ref a1), .val (.long q2), .second, .val (.long q3), .second, .val (.double d4), .second, .val (.double d5), .second] [(.double d5), (.double d4)])) _
    refine XS.dcmpS X2.here hx rfl (hb hby own_d3_42) rfl rfl ?_
    show Steps p.tables e below (T2.setTop (mkF m 43 #[.val (.ref a1), .val (.long q2), .second, .val (.long q3), .second, .val (.double d4), .second, .val (.double d5), .second] [(.int (cmpValue (FP.dcmp d4 d5) .g))])) _
    refine XS.ifNo X2.here hx rfl (hb hby own_d3_43) rfl ((if0 _ _).trans (flt c4).2.2.1) ?_
    show Steps p.tables e below (T2.setTop (mkF m 46 #[.val (.ref a1), .val (.long q2), .second, .val (.long q3), .second, .val (.double d4), .second, .val (.double d5), .second] [])) _
    refine XS.dload X2.here hx rfl (hb hby own_d3_46) rfl ?_
    show Steps p.tables e below (T2.setTop (mkF m 48 #[.val (.ref a1), .val (.long q2), .second, .val (.long q3), .second, .val (.double d4), .second, .val (.double d5), .second] [(.double d5)])) _
    refine XS.dconst1 X2.here hx rfl (hb hby own_d3_48) (v := (4607182418800017408 : UInt64)) (by decide +kernel) ?_
    show Steps p.tables e below (T2.setTop (mkF m 49 #[.val (.ref a1), .val (.long q2), .second, .val (.long q3), .second, .val (.double d4), .second, .val (.double d5), .second] [(.double (4607182418800017408 : UInt64)), (.double d5)])) _
    refine XS.dcmpS X2.here hx rfl (hb hby own_d3_49) rfl rfl ?_
    show Steps p.tables e below (T2.setTop (mkF m 50 #[.val (.ref a1), .val (.long q2), .second, .val (.long q3), .second, .val (.double d4), .second, .val (.double d5), .second] [(.int (cmpValue (FP.dcmp d5 (4607182418800017408 : UInt64)) .g))])) _
    refine XS.ifYes X2.here hx rfl (pc0 := 50) (pc' := 70) rfl (hb hby own_d3_50) rfl ((if0 _ _).trans (flt c5).2.2.2) (by decide) (by decide) ?_
    show Steps p.tables e below (T2.setTop (mkF m 70 #[.val (.ref a1), .val (.long q2), .second, .val (.long q3), .second, .val (.double d4), .second, .val (.double d5), .second] [])) _
    refine XS.aloadN X2.here hx rfl (hb hby own_d3_70) rfl rfl ?_
    show Steps p.tables e below (T2.setTop (mkF m 71 #[.val (.ref a1), .val (.long q2), .second, .val (.long q3), .second, .val (.double d4), .second, .val (.double d5), .second] [(.ref a1)])) _
    refine XS.lloadN X2.here hx rfl (hb hby own_d3_71) rfl ?_
    exact k
  obtain ⟨T4, h4, X4, e4, W4, st4⟩ := putF X2 hx hZ hown (host := "") (Or.inl (hw _ (List.mem_of_getElem? (i := 24) rfl))) Via.refl eq2 F_alphaLow Ea (Or.inr ⟨(hw _ (List.mem_of_getElem? (i := 25) rfl)), rfl, hnm⟩) (hw _ (List.mem_of_getElem? (i := 11) rfl)) (ty := .long) (by decide) rfl rfl (g := (mkF m 72 #[.val (.ref a1), .val (.long q2), .second, .val (.long q3), .second, .val (.double d4), .second, .val (.double d5), .second] [(.long q2), (.ref a1)])) rfl rfl (hb hby own_d3_72)
  have R4 : ∀ t, Steps p.tables e below (T4.setTop (mkF m 75 #[.val (.ref a1), .val (.long q2), .second, .val (.long q3), .second, .val (.double d4), .second, .val (.double d5), .second] [])) t → Steps p.tables e below (s₁.setTop (entryFrame m #[(.ref a1), (.long q2), (.long q3), (.double d4), (.double d5)] 9)) t := fun t k => R3 t (st4 t k)
  have Z4 : n0 ≤ h4.size := Nat.le_trans Z0 (Keep.of_wr W4).1
  have K4 : Keep h0 h4 [a1] := (Keep.refl h0 [a1]).wr W4 (Or.inl (by simp))
  have N4 := Fr.snoc X4 N2 g_a1
  have f5 : Fld Z h4 a1 "com/example/trunkwright/trunkwright/random/FlatModel" "alphaHigh" "J" (.long (0 : Int64)) := F_alphaHigh.other W4 (Or.inr (slot_ne (Or.inr (hw _ (List.mem_of_getElem? (i := 27) rfl))) (Or.inr (hw _ (List.mem_of_getElem? (i := 25) rfl))) (by decide) (t := .long) (t' := .long) (by decide) (by decide)))
  have f6 : Fld Z h4 a1 "com/example/trunkwright/trunkwright/random/FlatModel" "muLow" "D" (.double (0 : UInt64)) := F_muLow.other W4 (Or.inr (slot_ne (Or.inr (hw _ (List.mem_of_getElem? (i := 29) rfl))) (Or.inr (hw _ (List.mem_of_getElem? (i := 25) rfl))) (by decide) (t := .double) (t' := .long) (by decide) (by decide)))
  have f7 : Fld Z h4 a1 "com/example/trunkwright/trunkwright/random/FlatModel" "muHigh" "D" (.double (0 : UInt64)) := F_muHigh.other W4 (Or.inr (slot_ne (Or.inr (hw _ (List.mem_of_getElem? (i := 31) rfl))) (Or.inr (hw _ (List.mem_of_getElem? (i := 25) rfl))) (by decide) (t := .double) (t' := .long) (by decide) (by decide)))
  have f8 : Exa Z h4 a1 "com/example/trunkwright/trunkwright/random/FlatModel" := Ea.wr W4
  have Fw4 : Fld Z h4 a1 "com/example/trunkwright/trunkwright/random/FlatModel" "alphaLow" "J" (.long q2) := F_alphaLow.same W4
  have R9 : ∀ t, Steps p.tables e below (T4.setTop (mkF m 77 #[.val (.ref a1), .val (.long q2), .second, .val (.long q3), .second, .val (.double d4), .second, .val (.double d5), .second] [(.long q3), (.ref a1)])) t → Steps p.tables e below (s₁.setTop (entryFrame m #[(.ref a1), (.long q2), (.long q3), (.double d4), (.double d5)] 9)) t := by
    intro t k
    refine R4 t ?_
    show Steps p.tables e below (T4.setTop (mkF m 75 #[.val (.ref a1), .val (.long q2), .second, .val (.long q3), .second, .val (.double d4), .second, .val (.double d5), .second] [])) _
    refine XS.aloadN X4.here hx rfl (hb hby own_d3_75) rfl rfl ?_
    show Steps p.tables e below (T4.setTop (mkF m 76 #[.val (.ref a1), .val (.long q2), .second, .val (.long q3), .second, .val (.double d4), .second, .val (.double d5), .second] [(.ref a1)])) _
    refine XS.lloadN X4.here hx rfl (hb hby own_d3_76) rfl ?_
    exact k
  obtain ⟨T10, h10, X10, e10, W10, st10⟩ := putF X4 hx hZ hown (host := "") (Or.inl (hw _ (List.mem_of_getElem? (i := 26) rfl))) Via.refl e4 f5 f8 (Or.inr ⟨(hw _ (List.mem_of_getElem? (i := 27) rfl)), rfl, hnm⟩) (hw _ (List.mem_of_getElem? (i := 11) rfl)) (ty := .long) (by decide) rfl rfl (g := (mkF m 77 #[.val (.ref a1), .val (.long q2), .second, .val (.long q3), .second, .val (.double d4), .second, .val (.double d5), .second] [(.long q3), (.ref a1)])) rfl rfl (hb hby own_d3_77)
  have R10 : ∀ t, Steps p.tables e below (T10.setTop (mkF m 80 #[.val (.ref a1), .val (.long q2), .second, .val (.long q3), .second, .val (.double d4), .second, .val (.double d5), .second] [])) t → Steps p.tables e below (s₁.setTop (entryFrame m #[(.ref a1), (.long q2), (.long q3), (.double d4), (.double d5)] 9)) t := fun t k => R9 t (st10 t k)
  have Z10 : n0 ≤ h10.size := Nat.le_trans Z4 (Keep.of_wr W10).1
  have K10 : Keep h0 h10 [a1] := K4.wr W10 (Or.inl (by simp))
  have N10 := Fr.snoc X10 N4 g_a1
  have f11 : Fld Z h10 a1 "com/example/trunkwright/trunkwright/random/FlatModel" "muLow" "D" (.double (0 : UInt64)) := f6.other W10 (Or.inr (slot_ne (Or.inr (hw _ (List.mem_of_getElem? (i := 29) rfl))) (Or.inr (hw _ (List.mem_of_getElem? (i := 27) rfl))) (by decide) (t := .double) (t' := .long) (by decide) (by decide)))
  have f12 : Fld Z h10 a1 "com/example/trunkwright/trunkwright/random/FlatModel" "muHigh" "D" (.double (0 : UInt64)) := f7.other W10 (Or.inr (slot_ne (Or.inr (hw _ (List.mem_of_getElem? (i := 31) rfl))) (Or.inr (hw _ (List.mem_of_getElem? (i := 27) rfl))) (by decide) (t := .double) (t' := .long) (by decide) (by decide)))
  have f13 : Exa Z h10 a1 "com/example/trunkwright/trunkwright/random/FlatModel" := f8.wr W10
  have f14 : Fld Z h10 a1 "com/example/trunkwright/trunkwright/random/FlatModel" "alphaLow" "J" (.long q2) := Fw4.other W10 (Or.inr (slot_ne (Or.inr (hw _ (List.mem_of_getElem? (i := 25) rfl))) (Or.inr (hw _ (List.mem_of_getElem? (i := 27) rfl))) (by decide) (t := .long) (t' := .long) (by decide) (by decide)))
  have Fw10 : Fld Z h10 a1 "com/example/trunkwright/trunkwright/random/FlatModel" "alphaHigh" "J" (.long q3) := f5.same W10
  have R15 : ∀ t, Steps p.tables e below (T10.setTop (mkF m 83 #[.val (.ref a1), .val (.long q2), .second, .val (.long q3), .second, .val (.double d4), .second, .val (.double d5), .second] [(.double d4), (.ref a1)])) t → Steps p.tables e below (s₁.setTop (entryFrame m #[(.ref a1), (.long q2), (.long q3), (.double d4), (.double d5)] 9)) t := by
    intro t k
    refine R10 t ?_
    show Steps p.tables e below (T10.setTop (mkF m 80 #[.val (.ref a1), .val (.long q2), .second, .val (.long q3), .second, .val (.double d4), .second, .val (.double d5), .second] [])) _
    refine XS.aloadN X10.here hx rfl (hb hby own_d3_80) rfl rfl ?_
    show Steps p.tables e below (T10.setTop (mkF m 81 #[.val (.ref a1), .val (.long q2), .second, .val (.long q3), .second, .val (.double d4), .second, .val (.double d5), .second] [(.ref a1)])) _
    refine XS.dload X10.here hx rfl (hb hby own_d3_81) rfl ?_
    exact k
  obtain ⟨T16, h16, X16, e16, W16, st16⟩ := putF X10 hx hZ hown (host := "") (Or.inl (hw _ (List.mem_of_getElem? (i := 28) rfl))) Via.refl e10 f11 f13 (Or.inr ⟨(hw _ (List.mem_of_getElem? (i := 29) rfl)), rfl, hnm⟩) (hw _ (List.mem_of_getElem? (i := 11) rfl)) (ty := .double) (by decide) rfl rfl (g := (mkF m 83 #[.val (.ref a1), .val (.long q2), .second, .val (.long q3), .second, .val (.double d4), .second, .val (.double d5), .second] [(.double d4), (.ref a1)])) rfl rfl (hb hby own_d3_83)
  have R16 : ∀ t, Steps p.tables e below (T16.setTop (mkF m 86 #[.val (.ref a1), .val (.long q2), .second, .val (.long q3), .second, .val (.double d4), .second, .val (.double d5), .second] [])) t → Steps p.tables e below (s₁.setTop (entryFrame m #[(.ref a1), (.long q2), (.long q3), (.double d4), (.double d5)] 9)) t := fun t k => R15 t (st16 t k)
  have Z16 : n0 ≤ h16.size := Nat.le_trans Z10 (Keep.of_wr W16).1
  have K16 : Keep h0 h16 [a1] := K10.wr W16 (Or.inl (by simp))
  have N16 := Fr.snoc X16 N10 g_a1
  have f17 : Fld Z h16 a1 "com/example/trunkwright/trunkwright/random/FlatModel" "muHigh" "D" (.double (0 : UInt64)) := f12.other W16 (Or.inr (slot_ne (Or.inr (hw _ (List.mem_of_getElem? (i := 31) rfl))) (Or.inr (hw _ (List.mem_of_getElem? (i := 29) rfl))) (by decide) (t := .double) (t' := .double) (by decide) (by decide)))
  have f18 : Exa Z h16 a1 "com/example/trunkwright/trunkwright/random/FlatModel" := f13.wr W16
  have f19 : Fld Z h16 a1 "com/example/trunkwright/trunkwright/random/FlatModel" "alphaLow" "J" (.long q2) := f14.other W16 (Or.inr (slot_ne (Or.inr (hw _ (List.mem_of_getElem? (i := 25) rfl))) (Or.inr (hw _ (List.mem_of_getElem? (i := 29) rfl))) (by decide) (t := .long) (t' := .double) (by decide) (by decide)))
  have f20 : Fld Z h16 a1 "com/example/trunkwright/trunkwright/random/FlatModel" "alphaHigh" "J" (.long q3) := Fw10.other W16 (Or.inr (slot_ne (Or.inr (hw _ (List.mem_of_getElem? (i := 27) rfl))) (Or.inr (hw _ (List.mem_of_getElem? (i := 29) rfl))) (by decide) (t := .long) (t' := .double) (by decide) (by decide)))
  have Fw16 : Fld Z h16 a1 "com/example/trunkwright/trunkwright/random/FlatModel" "muLow" "D" (.double d4) := f11.same W16
  have R21 : ∀ t, Steps p.tables e below (T16.setTop (mkF m 89 #[.val (.ref a1), .val (.long q2), .second, .val (.long q3), .second, .val (.double d4), .second, .val (.double d5), .second] [(.double d5), (.ref a1)])) t → Steps p.tables e below (s₁.setTop (entryFrame m #[(.ref a1), (.long q2), (.long q3), (.double d4), (.double d5)] 9)) t := by
    intro t k
    refine R16 t ?_
    show Steps p.tables e below (T16.setTop (mkF m 86 #[.val (.ref a1), .val (.long q2), .second, .val (.long q3), .second, .val (.double d4), .second, .val (.double d5), .second] [])) _
    refine XS.aloadN X16.here hx rfl (hb hby own_d3_86) rfl rfl ?_
    show Steps p.tables e below (T16.setTop (mkF m 87 #[.val (.ref a1), .val (.long q2), .second, .val (.long q3), .second, .val (.double d4), .second, .val (.double d5), .second] [(.ref a1)])) _
    refine XS.dload X16.here hx rfl (hb hby own_d3_87) rfl ?_
    exact k
  obtain ⟨T22, h22, X22, e22, W22, st22⟩ := putF X16 hx hZ hown (host := "") (Or.inl (hw _ (List.mem_of_getElem? (i := 30) rfl))) Via.refl e16 f17 f18 (Or.inr ⟨(hw _ (List.mem_of_getElem? (i := 31) rfl)), rfl, hnm⟩) (hw _ (List.mem_of_getElem? (i := 11) rfl)) (ty := .double) (by decide) rfl rfl (g := (mkF m 89 #[.val (.ref a1), .val (.long q2), .second, .val (.long q3), .second, .val (.double d4), .second, .val (.double d5), .second] [(.double d5), (.ref a1)])) rfl rfl (hb hby own_d3_89)
  have R22 : ∀ t, Steps p.tables e below (T22.setTop (mkF m 92 #[.val (.ref a1), .val (.long q2), .second, .val (.long q3), .second, .val (.double d4), .second, .val (.double d5), .second] [])) t → Steps p.tables e below (s₁.setTop (entryFrame m #[(.ref a1), (.long q2), (.long q3), (.double d4), (.double d5)] 9)) t := fun t k => R21 t (st22 t k)
  have Z22 : n0 ≤ h22.size := Nat.le_trans Z16 (Keep.of_wr W22).1
  have K22 : Keep h0 h22 [a1] := K16.wr W22 (Or.inl (by simp))
  have N22 := Fr.snoc X22 N16 g_a1
  have f23 : Exa Z h22 a1 "com/example/trunkwright/trunkwright/random/FlatModel" := f18.wr W22
  have f24 : Fld Z h22 a1 "com/example/trunkwright/trunkwright/random/FlatModel" "alphaLow" "J" (.long q2) := f19.other W22 (Or.inr (slot_ne (Or.inr (hw _ (List.mem_of_getElem? (i := 25) rfl))) (Or.inr (hw _ (List.mem_of_getElem? (i := 31) rfl))) (by decide) (t := .long) (t' := .double) (by decide) (by decide)))
  have f25 : Fld Z h22 a1 "com/example/trunkwright/trunkwright/random/FlatModel" "alphaHigh" "J" (.long q3) := f20.other W22 (Or.inr (slot_ne (Or.inr (hw _ (List.mem_of_getElem? (i := 27) rfl))) (Or.inr (hw _ (List.mem_of_getElem? (i := 31) rfl))) (by decide) (t := .long) (t' := .double) (by decide) (by decide)))
  have f26 : Fld Z h22 a1 "com/example/trunkwright/trunkwright/random/FlatModel" "muLow" "D" (.double d4) := Fw16.other W22 (Or.inr (slot_ne (Or.inr (hw _ (List.mem_of_getElem? (i := 29) rfl))) (Or.inr (hw _ (List.mem_of_getElem? (i := 31) rfl))) (by decide) (t := .double) (t' := .double) (by decide) (by decide)))
  have Fw22 : Fld Z h22 a1 "com/example/trunkwright/trunkwright/random/FlatModel" "muHigh" "D" (.double d5) := f17.same W22
  obtain ⟨fs, hr, hrun, hended, hW, hsame⟩ := X22.leave (v := none) (fun _ => rfl)
  refine ⟨_, _, R22 _ ?_, hrun, hended, _, _, rfl, ?_, ⟨_, rfl⟩, hW, hsame.mono (by decide) (by decide)⟩
  · exact X22.returnOut hx Bd.returns (hb hby own_d3_92) hr
  · show Q_rmFI Z a1 q2 q3 d4 d5 h0 n0 _ T22.heap _
    rw [e22]
    exact ⟨rfl, N22, K22, f23, f26, Fw22⟩
theorem own_ef_rmD1 (m : MethodId) (x0 : Addr) : entryFrame m #[(.ref x0)] 1 = mkF m 0 #[.val (.ref x0)] [] := by first | (simp [entryFrame, mkF, argsToLocals, Value.category]; done) | rfl
theorem own_d6_0 : decode prog_72_method_2_code 0 = .ok (.aload_n 0, 1) := by decide +kernel
theorem own_d6_1 : decode prog_72_method_2_code 1 = .ok (.getfield 28, 3) := by decide +kernel
theorem own_d6_4 : decode prog_72_method_2_code 4 = .ok (.dconst 1, 1) := by decide +kernel
theorem own_d6_5 : decode prog_72_method_2_code 5 = .ok (.dcmp .l, 1) := by decide +kernel
theorem own_d6_6 : decode prog_72_method_2_code 6 = .ok (.ifCond .ne 12, 3) := by decide +kernel
theorem own_d6_18 : decode prog_72_method_2_code 18 = .ok (.iconst 1, 1) := by decide +kernel
theorem own_d6_19 : decode prog_72_method_2_code 19 = .ok (.goto 4, 3) := by decide +kernel
theorem own_d6_23 : decode prog_72_method_2_code 23 = .ok (.ireturn, 1) := by decide +kernel
def Q_rmD1 (Z : State) (a1 : Addr) (d4 d5 : UInt64) (h0 : Heap) (n0 : Nat) (v : Option Value) (h : Heap) (L : List Loc) : Prop := v = some (.int (1 : Int32)) ∧ Fr n0 L ∧ h = h0
set_option maxRecDepth 65536 in
set_option maxHeartbeats 40000000 in
theorem rmD1 (l : Launch) (Z : State) (a0 : Array Value) (hw : ∀ d ∈ tables_1, d.before a0 Z = true) (ws : List Jvm.Cond) (a1 : Addr) (d4 d5 : UInt64) (h0 : Heap) (n0 : Nat) (Z0 : n0 ≤ h0.size) (F4 : Fld Z h0 a1 "com/example/trunkwright/trunkwright/random/FlatModel" "muLow" "D" (.double d4)) (F5 : Fld Z h0 a1 "com/example/trunkwright/trunkwright/random/FlatModel" "muHigh" "D" (.double d5)) (cc : ¬ (cmpValue (FP.dcmp d4 (4607182418800017408 : UInt64)) .l) = (0 : Int32)) :
    MetFree l (⟨"com/example/trunkwright/trunkwright/random/FlatModel", "drawsPairLimits", "()Z"⟩ : MethodName) (head1 (Jvm.Cond.code (⟨"com/example/trunkwright/trunkwright/random/FlatModel", "drawsPairLimits", "()Z"⟩ : MethodName) prog_72_method_2_code 1 (some .boolean) :: ws) ({ frames := 0, cells := 0, slots := 0, locals := 0 } : Room)) (fun a U => a = #[(.ref a1)] ∧ Z.Warmed39 U.vm ∧ U.heap = h0) (fun _ _ _ _ _ => True) (fun _ U o U' => ∃ v L, o = .returned v ∧ Q_rmD1 Z a1 d4 d5 h0 n0 v U'.heap L ∧ FrameEnd U o U' L ({ frames := 0, cells := 0, slots := 0, locals := 0 } : Room).cells ({ frames := 0, cells := 0, slots := 0, locals := 0 } : Room).slots) := by
  refine MetFree.of_bodySF (plainFor_of_name own_pn1) hisR ?_
  intro p e s m args below meth c s₁ Bd hml0 hP hK
  obtain ⟨rfl, hZ, hh⟩ := hP
  have hx := Bd.exec
  have hby := Bd.bytes
  have hml : c.maxLocals = 1 := hml0
  have hown : s.vm.findClass "com/example/trunkwright/trunkwright/random/FlatModel" = some m.cls := findClass_of_methodNamed Bd.named
  have hnm := (name_of_methodNamed Bd.named Bd.method).1
  have X0 : Stand p l e ({ frames := 0, cells := 0, slots := 0, locals := 0 } : Room) s m #[(.ref a1)] below meth c s₁ [] 0 0 := Stand.of_body Bd
  have e0 : s₁.heap = h0 := by rw [← hh, Bd.state]; rfl
  have N0 := Fr.nil n0
  have R0 : ∀ t, Steps p.tables e below (s₁.setTop (mkF m 0 #[.val (.ref a1)] [])) t → Steps p.tables e below (s₁.setTop (entryFrame m #[(.ref a1)] 1)) t := fun t k => castTop (own_ef_rmD1 m a1) k
  have R1 : ∀ t, Steps p.tables e below (s₁.setTop (mkF m 1 #[.val (.ref a1)] [(.ref a1)])) t → Steps p.tables e below (s₁.setTop (entryFrame m #[(.ref a1)] 1)) t := by
    intro t k
    refine R0 t ?_
    show Steps p.tables e below (s₁.setTop (mkF m 0 #[.val (.ref a1)] [])) _
    refine XS.aloadN X0.here hx rfl (hb hby own_d6_0) rfl rfl ?_
    exact k
  obtain ⟨T2, X2, e2, st2⟩ := getF X0 hx hZ hown (host := "") (Or.inl (hw _ (List.mem_of_getElem? (i := 28) rfl))) Via.refl e0 F4 (g := (mkF m 1 #[.val (.ref a1)] [(.ref a1)])) rfl rfl (hb hby own_d6_1)
  have R2 : ∀ t, Steps p.tables e below (T2.setTop (mkF m 4 #[.val (.ref a1)] [(.double d4)])) t → Steps p.tables e below (s₁.setTop (entryFrame m #[(.ref a1)] 1)) t := fun t k => R1 t (st2 t k)
  have R3 : ∀ t, Steps p.tables e below (T2.setTop (mkF m 23 #[.val (.ref a1)] [(.int (1 : Int32))])) t → Steps p.tables e below (s₁.setTop (entryFrame m #[(.ref a1)] 1)) t := by
    intro t k
    refine R2 t ?_
    show Steps p.tables e below (T2.setTop (mkF m 4 #[.val (.ref a1)] [(.double d4)])) _
    refine XS.dconst1 X2.here hx rfl (hb hby own_d6_4) (v := (4607182418800017408 : UInt64)) (by decide +kernel) ?_
    show Steps p.tables e below (T2.setTop (mkF m 5 #[.val (.ref a1)] [(.double (4607182418800017408 : UInt64)), (.double d4)])) _
    refine XS.dcmpS X2.here hx rfl (hb hby own_d6_5) rfl rfl ?_
    show Steps p.tables e below (T2.setTop (mkF m 6 #[.val (.ref a1)] [(.int (cmpValue (FP.dcmp d4 (4607182418800017408 : UInt64)) .l))])) _
    refine XS.ifYes X2.here hx rfl (pc0 := 6) (pc' := 18) rfl (hb hby own_d6_6) rfl ((if0 _ _).trans (feq cc).2) (by decide) (by decide) ?_
    show Steps p.tables e below (T2.setTop (mkF m 18 #[.val (.ref a1)] [])) _
    refine XS.iconst X2.here hx rfl (hb hby own_d6_18) ?_
    show Steps p.tables e below (T2.setTop (mkF m 19 #[.val (.ref a1)] [(.int (1 : Int32))])) _
    refine XS.goto X2.here hx rfl (pc0 := 19) (pc' := 23) rfl (hb hby own_d6_19) (by decide) (by decide) ?_
    exact k
  obtain ⟨fs, hr, hrun, hended, hW, hsame⟩ := X2.leave (v := some (.int (1 : Int32))) (fun h => by rw [Bd.returns] at h; cases h)
  refine ⟨_, _, R3 _ ?_, hrun, hended, _, _, rfl, ?_, ⟨_, rfl⟩, hW, hsame.mono (by decide) (by decide)⟩
  · exact retN X2 hx (t := .boolean) Bd.returns (by simp) (hb hby own_d6_23) hr
  · show Q_rmD1 Z a1 d4 d5 h0 n0 _ T2.heap _
    rw [e2]
    exact ⟨rfl, N0, rfl⟩
theorem own_ef_rmD0 (m : MethodId) (x0 : Addr) : entryFrame m #[(.ref x0)] 1 = mkF m 0 #[.val (.ref x0)] [] := by first | (simp [entryFrame, mkF, argsToLocals, Value.category]; done) | rfl
theorem own_d6_9 : decode prog_72_method_2_code 9 = .ok (.aload_n 0, 1) := by decide +kernel
theorem own_d6_10 : decode prog_72_method_2_code 10 = .ok (.getfield 32, 3) := by decide +kernel
theorem own_d6_13 : decode prog_72_method_2_code 13 = .ok (.dconst 1, 1) := by decide +kernel
theorem own_d6_14 : decode prog_72_method_2_code 14 = .ok (.dcmp .l, 1) := by decide +kernel
theorem own_d6_15 : decode prog_72_method_2_code 15 = .ok (.ifCond .eq 7, 3) := by decide +kernel
theorem own_d6_22 : decode prog_72_method_2_code 22 = .ok (.iconst 0, 1) := by decide +kernel
def Q_rmD0 (Z : State) (a1 : Addr) (d4 d5 : UInt64) (h0 : Heap) (n0 : Nat) (v : Option Value) (h : Heap) (L : List Loc) : Prop := v = some (.int (0 : Int32)) ∧ Fr n0 L ∧ h = h0
set_option maxRecDepth 65536 in
set_option maxHeartbeats 40000000 in
theorem rmD0 (l : Launch) (Z : State) (a0 : Array Value) (hw : ∀ d ∈ tables_1, d.before a0 Z = true) (ws : List Jvm.Cond) (a1 : Addr) (d4 d5 : UInt64) (h0 : Heap) (n0 : Nat) (Z0 : n0 ≤ h0.size) (F4 : Fld Z h0 a1 "com/example/trunkwright/trunkwright/random/FlatModel" "muLow" "D" (.double d4)) (F5 : Fld Z h0 a1 "com/example/trunkwright/trunkwright/random/FlatModel" "muHigh" "D" (.double d5)) (cc : (cmpValue (FP.dcmp d4 (4607182418800017408 : UInt64)) .l) = (0 : Int32)) (cd : (cmpValue (FP.dcmp d5 (4607182418800017408 : UInt64)) .l) = (0 : Int32)) :
    MetFree l (⟨"com/example/trunkwright/trunkwright/random/FlatModel", "drawsPairLimits", "()Z"⟩ : MethodName) (head1 (Jvm.Cond.code (⟨"com/example/trunkwright/trunkwright/random/FlatModel", "drawsPairLimits", "()Z"⟩ : MethodName) prog_72_method_2_code 1 (some .boolean) :: ws) ({ frames := 0, cells := 0, slots := 0, locals := 0 } : Room)) (fun a U => a = #[(.ref a1)] ∧ Z.Warmed39 U.vm ∧ U.heap = h0) (fun _ _ _ _ _ => True) (fun _ U o U' => ∃ v L, o = .returned v ∧ Q_rmD0 Z a1 d4 d5 h0 n0 v U'.heap L ∧ FrameEnd U o U' L ({ frames := 0, cells := 0, slots := 0, locals := 0 } : Room).cells ({ frames := 0, cells := 0, slots := 0, locals := 0 } : Room).slots) := by
  refine MetFree.of_bodySF (plainFor_of_name own_pn1) hisR ?_
  intro p e s m args below meth c s₁ Bd hml0 hP hK
  obtain ⟨rfl, hZ, hh⟩ := hP
  have hx := Bd.exec
  have hby := Bd.bytes
  have hml : c.maxLocals = 1 := hml0
  have hown : s.vm.findClass "com/example/trunkwright/trunkwright/random/FlatModel" = some m.cls := findClass_of_methodNamed Bd.named
  have hnm := (name_of_methodNamed Bd.named Bd.method).1
  have X0 : Stand p l e ({ frames := 0, cells := 0, slots := 0, locals := 0 } : Room) s m #[(.ref a1)] below meth c s₁ [] 0 0 := Stand.of_body Bd
  have e0 : s₁.heap = h0 := by rw [← hh, Bd.state]; rfl
  have N0 := Fr.nil n0
  have R0 : ∀ t, Steps p.tables e below (s₁.setTop (mkF m 0 #[.val (.ref a1)] [])) t → Steps p.tables e below (s₁.setTop (entryFrame m #[(.ref a1)] 1)) t := fun t k => castTop (own_ef_rmD0 m a1) k
  have R1 : ∀ t, Steps p.tables e below (s₁.setTop (mkF m 1 #[.val (.ref a1)] [(.ref a1)])) t → Steps p.tables e below (s₁.setTop (entryFrame m #[(.ref a1)] 1)) t := by
    intro t k
    refine R0 t ?_
    show Steps p.tables e below (s₁.setTop (mkF m 0 #[.val (.ref a1)] [])) _
    refine XS.aloadN X0.here hx rfl (hb hby own_d6_0) rfl rfl ?_
    exact k
  obtain ⟨T2, X2, e2, st2⟩ := getF X0 hx hZ hown (host := "") (Or.inl (hw _ (List.mem_of_getElem? (i := 28) rfl))) Via.refl e0 F4 (g := (mkF m 1 #[.val (.ref a1)] [(.ref a1)])) rfl rfl (hb hby own_d6_1)
  have R2 : ∀ t, Steps p.tables e below (T2.setTop (mkF m 4 #[.val (.ref a1)] [(.double d4)])) t → Steps p.tables e below (s₁.setTop (entryFrame m #[(.ref a1)] 1)) t := fun t k => R1 t (st2 t k)
  have R3 : ∀ t, Steps p.tables e below (T2.setTop (mkF m 10 #[.val (.ref a1)] [(.ref a1)])) t → Steps p.tables e below (s₁.setTop (entryFrame m #[(.ref a1)] 1)) t := by
    intro t k
    refine R2 t ?_
    show Steps p.tables e below (T2.setTop (mkF m 4 #[.val (.ref a1)] [(.double d4)])) _
    refine XS.dconst1 X2.here hx rfl (hb hby own_d6_4) (v := (4607182418800017408 : UInt64)) (by decide +kernel) ?_
    show Steps p.tables e below (T2.setTop (mkF m 5 #[.val (.ref a1)] [(.double (4607182418800017408 : UInt64)), (.double d4)])) _
    refine XS.dcmpS X2.here hx rfl (hb hby own_d6_5) rfl rfl ?_
    show Steps p.tables e below (T2.setTop (mkF m 6 #[.val (.ref a1)] [(.int (cmpValue (FP.dcmp d4 (4607182418800017408 : UInt64)) .l))])) _
    refine XS.ifNo X2.here hx rfl (hb hby own_d6_6) rfl ((if0 _ _).trans (teq cc).2) ?_
    show Steps p.tables e below (T2.setTop (mkF m 9 #[.val (.ref a1)] [])) _
    refine XS.aloadN X2.here hx rfl (hb hby own_d6_9) rfl rfl ?_
    exact k
  obtain ⟨T4, X4, e4, st4⟩ := getF X2 hx hZ hown (host := "") (Or.inl (hw _ (List.mem_of_getElem? (i := 30) rfl))) Via.refl e2 F5 (g := (mkF m 10 #[.val (.ref a1)] [(.ref a1)])) rfl rfl (hb hby own_d6_10)
  have R4 : ∀ t, Steps p.tables e below (T4.setTop (mkF m 13 #[.val (.ref a1)] [(.double d5)])) t → Steps p.tables e below (s₁.setTop (entryFrame m #[(.ref a1)] 1)) t := fun t k => R3 t (st4 t k)
  have R5 : ∀ t, Steps p.tables e below (T4.setTop (mkF m 23 #[.val (.ref a1)] [(.int (0 : Int32))])) t → Steps p.tables e below (s₁.setTop (entryFrame m #[(.ref a1)] 1)) t := by
    intro t k
    refine R4 t ?_
    show Steps p.tables e below (T4.setTop (mkF m 13 #[.val (.ref a1)] [(.double d5)])) _
    refine XS.dconst1 X4.here hx rfl (hb hby own_d6_13) (v := (4607182418800017408 : UInt64)) (by decide +kernel) ?_
    show Steps p.tables e below (T4.setTop (mkF m 14 #[.val (.ref a1)] [(.double (4607182418800017408 : UInt64)), (.double d5)])) _
    refine XS.dcmpS X4.here hx rfl (hb hby own_d6_14) rfl rfl ?_
    show Steps p.tables e below (T4.setTop (mkF m 15 #[.val (.ref a1)] [(.int (cmpValue (FP.dcmp d5 (4607182418800017408 : UInt64)) .l))])) _
    refine XS.ifYes X4.here hx rfl (pc0 := 15) (pc' := 22) rfl (hb hby own_d6_15) rfl ((if0 _ _).trans (teq cd).1) (by decide) (by decide) ?_
    show Steps p.tables e below (T4.setTop (mkF m 22 #[.val (.ref a1)] [])) _
    refine XS.iconst X4.here hx rfl (hb hby own_d6_22) ?_
    exact k
  obtain ⟨fs, hr, hrun, hended, hW, hsame⟩ := X4.leave (v := some (.int (0 : Int32))) (fun h => by rw [Bd.returns] at h; cases h)
  refine ⟨_, _, R5 _ ?_, hrun, hended, _, _, rfl, ?_, ⟨_, rfl⟩, hW, hsame.mono (by decide) (by decide)⟩
  · exact retN X4 hx (t := .boolean) Bd.returns (by simp) (hb hby own_d6_23) hr
  · show Q_rmD0 Z a1 d4 d5 h0 n0 _ T4.heap _
    rw [e4]
    exact ⟨rfl, N0, rfl⟩
theorem own_pn2 : plainName "com/example/trunkwright/trunkwright/random/FlatModelDrawsPairLimitsPinLaw" = true := by first | (simp [plainName, overriddenIn]; done) | decide +kernel
theorem own_ef_rm0 (m : MethodId) (x0 : Int64) (x1 : Int64) (x2 : Int32) (x3 : Int32) : entryFrame m #[(.long x0), (.long x1), (.int x2), (.int x3)] maxLocals = mkF m 0 #[.val (.long x0), .second, .val (.long x1), .second, .val (.int x2), .val (.int x3), .unset, .unset, .unset, .unset, .unset, .unset, .unset, .unset, .unset, .unset, .unset, .unset, .unset, .unset, .unset, .unset] [] := by first | (simp [entryFrame, mkF, argsToLocals, Value.category, maxLocals]; done) | rfl
theorem own_pd0 : parseMethodDescriptor "(JJ)J" = some ⟨[.long, .long], some .long⟩ := by decide +kernel
theorem own_pd1 : parseMethodDescriptor "(JJDD)V" = some ⟨[.long, .long, .double, .double], none⟩ := by decide +kernel
theorem own_pd3 : parseMethodDescriptor "()Z" = some ⟨[], some .boolean⟩ := by decide +kernel
def Q_rm0 (Z : State) (q1 q2 : Int64) (p3 p4 : Int32) (h0 : Heap) (n0 : Nat) (v : Option Value) (h : Heap) (L : List Loc) : Prop := v = some (.int 1) ∧ Fr n0 L
set_option maxRecDepth 65536 in
set_option maxHeartbeats 40000000 in
theorem rm0 (l : Launch) (Z : State) (a0 : Array Value) (hw : ∀ d ∈ tables_1, d.before a0 Z = true) (ws : List Jvm.Cond) (q1 q2 : Int64) (p3 p4 : Int32) (h0 : Heap) (n0 : Nat) (Z0 : n0 ≤ h0.size)  :
    MetFree l x (head1 (Jvm.Cond.code x code maxLocals ret :: ws) room_1) (fun a U => a = #[(.long q1), (.long q2), (.int p3), (.int p4)] ∧ Z.Warmed39 U.vm ∧ U.heap = h0) (fun _ _ _ _ _ => True) (fun _ U o U' => ∃ v L, o = .returned v ∧ Q_rm0 Z q1 q2 p3 p4 h0 n0 v U'.heap L ∧ FrameEnd U o U' L room_1.cells room_1.slots) := by
  refine MetFree.of_bodySF (plainFor_of_name own_pn2) hisR ?_
  intro p e s m args below meth c s₁ Bd hml0 hP hK
  obtain ⟨rfl, hZ, hh⟩ := hP
  have hx := Bd.exec
  have hby := Bd.bytes
  have hml : c.maxLocals = 22 := hml0
  have hown : s.vm.findClass "com/example/trunkwright/trunkwright/random/FlatModelDrawsPairLimitsPinLaw" = some m.cls := findClass_of_methodNamed Bd.named
  have hnm := (name_of_methodNamed Bd.named Bd.method).1
  have X0 : Stand p l e room_1 s m #[(.long q1), (.long q2), (.int p3), (.int p4)] below meth c s₁ [] 0 0 := Stand.of_body Bd
  have e0 : s₁.heap = h0 := by rw [← hh, Bd.state]; rfl
  have N0 := Fr.nil n0
  have R0 : ∀ t, Steps p.tables e below (s₁.setTop (mkF m 0 #[.val (.long q1), .second, .val (.long q2), .second, .val (.int p3), .val (.int p4), .unset, .unset, .unset, .unset, .unset, .unset, .unset, .unset, .unset, .unset, .unset, .unset, .unset, .unset, .unset, .unset] [])) t → Steps p.tables e below (s₁.setTop (entryFrame m #[(.long q1), (.long q2), (.int p3), (.int p4)] maxLocals)) t := fun t k => castTop (own_ef_rm0 m q1 q2 p3 p4) k
  have R1 : ∀ t, Steps p.tables e below (s₁.setTop (mkF m 14 #[.val (.long q1), .second, .val (.long q2), .second, .val (.int p3), .val (.int p4), .val (.long (q1 &&& (9223372036854775807 : Int64))), .second, .val (.long (q2 &&& (9223372036854775807 : Int64))), .second, .unset, .unset, .unset, .unset, .unset, .unset, .unset, .unset, .unset, .unset, .unset, .unset] [])) t → Steps p.tables e below (s₁.setTop (entryFrame m #[(.long q1), (.long q2), (.int p3), (.int p4)] maxLocals)) t := by
    intro t k
    refine R0 t ?_
    show Steps p.tables e below (s₁.setTop (mkF m 0 #[.val (.long q1), .second, .val (.long q2), .second, .val (.int p3), .val (.int p4), .unset, .unset, .unset, .unset, .unset, .unset, .unset, .unset, .unset, .unset, .unset, .unset, .unset, .unset, .unset, .unset] [])) _
    refine XS.lloadN X0.here hx rfl (hb hby at_0) rfl ?_
    show Steps p.tables e below (s₁.setTop (mkF m 1 #[.val (.long q1), .second, .val (.long q2), .second, .val (.int p3), .val (.int p4), .unset, .unset, .unset, .unset, .unset, .unset, .unset, .unset, .unset, .unset, .unset, .unset, .unset, .unset, .unset, .unset] [(.long q1)])) _
    refine X0.ldc2Long hx hown (mvT hZ (hw _ (List.mem_of_getElem? (i := 0) rfl))) (g := (mkF m 1 #[.val (.long q1), .second, .val (.long q2), .second, .val (.int p3), .val (.int p4), .unset, .unset, .unset, .unset, .unset, .unset, .unset, .unset, .unset, .unset, .unset, .unset, .unset, .unset, .unset, .unset] [(.long q1)])) rfl (hb hby at_1) _ ?_
    show Steps p.tables e below (s₁.setTop (mkF m 4 #[.val (.long q1), .second, .val (.long q2), .second, .val (.int p3), .val (.int p4), .unset, .unset, .unset, .unset, .unset, .unset, .unset, .unset, .unset, .unset, .unset, .unset, .unset, .unset, .unset, .unset] [(.long (9223372036854775807 : Int64)), (.long q1)])) _
    refine XS.land X0.here hx rfl (hb hby at_4) rfl ?_
    show Steps p.tables e below (s₁.setTop (mkF m 5 #[.val (.long q1), .second, .val (.long q2), .second, .val (.int p3), .val (.int p4), .unset, .unset, .unset, .unset, .unset, .unset, .unset, .unset, .unset, .unset, .unset, .unset, .unset, .unset, .unset, .unset] [(.long (q1 &&& (9223372036854775807 : Int64)))])) _
    refine XS.lstore X0.here hx rfl (hb hby at_5) rfl (l' := #[.val (.long q1), .second, .val (.long q2), .second, .val (.int p3), .val (.int p4), .val (.long (q1 &&& (9223372036854775807 : Int64))), .second, .unset, .unset, .unset, .unset, .unset, .unset, .unset, .unset, .unset, .unset, .unset, .unset, .unset, .unset]) rfl ?_
    show Steps p.tables e below (s₁.setTop (mkF m 7 #[.val (.long q1), .second, .val (.long q2), .second, .val (.int p3), .val (.int p4), .val (.long (q1 &&& (9223372036854775807 : Int64))), .second, .unset, .unset, .unset, .unset, .unset, .unset, .unset, .unset, .unset, .unset, .unset, .unset, .unset, .unset] [])) _
    refine XS.lloadN X0.here hx rfl (hb hby at_7) rfl ?_
    show Steps p.tables e below (s₁.setTop (mkF m 8 #[.val (.long q1), .second, .val (.long q2), .second, .val (.int p3), .val (.int p4), .val (.long (q1 &&& (9223372036854775807 : Int64))), .second, .unset, .unset, .unset, .unset, .unset, .unset, .unset, .unset, .unset, .unset, .unset, .unset, .unset, .unset] [(.long q2)])) _
    refine X0.ldc2Long hx hown (mvT hZ (hw _ (List.mem_of_getElem? (i := 0) rfl))) (g := (mkF m 8 #[.val (.long q1), .second, .val (.long q2), .second, .val (.int p3), .val (.int p4), .val (.long (q1 &&& (9223372036854775807 : Int64))), .second, .unset, .unset, .unset, .unset, .unset, .unset, .unset, .unset, .unset, .unset, .unset, .unset, .unset, .unset] [(.long q2)])) rfl (hb hby at_8) _ ?_
    show Steps p.tables e below (s₁.setTop (mkF m 11 #[.val (.long q1), .second, .val (.long q2), .second, .val (.int p3), .val (.int p4), .val (.long (q1 &&& (9223372036854775807 : Int64))), .second, .unset, .unset, .unset, .unset, .unset, .unset, .unset, .unset, .unset, .unset, .unset, .unset, .unset, .unset] [(.long (9223372036854775807 : Int64)), (.long q2)])) _
    refine XS.land X0.here hx rfl (hb hby at_11) rfl ?_
    show Steps p.tables e below (s₁.setTop (mkF m 12 #[.val (.long q1), .second, .val (.long q2), .second, .val (.int p3), .val (.int p4), .val (.long (q1 &&& (9223372036854775807 : Int64))), .second, .unset, .unset, .unset, .unset, .unset, .unset, .unset, .unset, .unset, .unset, .unset, .unset, .unset, .unset] [(.long (q2 &&& (9223372036854775807 : Int64)))])) _
    refine XS.lstore X0.here hx rfl (hb hby at_12) rfl (l' := #[.val (.long q1), .second, .val (.long q2), .second, .val (.int p3), .val (.int p4), .val (.long (q1 &&& (9223372036854775807 : Int64))), .second, .val (.long (q2 &&& (9223372036854775807 : Int64))), .second, .unset, .unset, .unset, .unset, .unset, .unset, .unset, .unset, .unset, .unset, .unset, .unset]) rfl ?_
    exact k
  obtain ⟨xx, hxx⟩ : ∃ z : Int64, z = (q1 &&& (9223372036854775807 : Int64)) := ⟨_, rfl⟩
  have R2 : ∀ t, Steps p.tables e below (s₁.setTop (mkF m 14 #[.val (.long q1), .second, .val (.long q2), .second, .val (.int p3), .val (.int p4), .val (.long xx), .second, .val (.long (q2 &&& (9223372036854775807 : Int64))), .second, .unset, .unset, .unset, .unset, .unset, .unset, .unset, .unset, .unset, .unset, .unset, .unset] [])) t → Steps p.tables e below (s₁.setTop (entryFrame m #[(.long q1), (.long q2), (.int p3), (.int p4)] maxLocals)) t := by rw [hxx]; exact R1
  obtain ⟨yy, hyy⟩ : ∃ z : Int64, z = (q2 &&& (9223372036854775807 : Int64)) := ⟨_, rfl⟩
  have R3 : ∀ t, Steps p.tables e below (s₁.setTop (mkF m 14 #[.val (.long q1), .second, .val (.long q2), .second, .val (.int p3), .val (.int p4), .val (.long xx), .second, .val (.long yy), .second, .unset, .unset, .unset, .unset, .unset, .unset, .unset, .unset, .unset, .unset, .unset, .unset] [])) t → Steps p.tables e below (s₁.setTop (entryFrame m #[(.long q1), (.long q2), (.int p3), (.int p4)] maxLocals)) t := by rw [hyy]; exact R2
  have R4 : ∀ t, Steps p.tables e below (s₁.setTop (mkF m 18 #[.val (.long q1), .second, .val (.long q2), .second, .val (.int p3), .val (.int p4), .val (.long xx), .second, .val (.long yy), .second, .unset, .unset, .unset, .unset, .unset, .unset, .unset, .unset, .unset, .unset, .unset, .unset] [(.long yy), (.long xx)])) t → Steps p.tables e below (s₁.setTop (entryFrame m #[(.long q1), (.long q2), (.int p3), (.int p4)] maxLocals)) t := by
    intro t k
    refine R3 t ?_
    show Steps p.tables e below (s₁.setTop (mkF m 14 #[.val (.long q1), .second, .val (.long q2), .second, .val (.int p3), .val (.int p4), .val (.long xx), .second, .val (.long yy), .second, .unset, .unset, .unset, .unset, .unset, .unset, .unset, .unset, .unset, .unset, .unset, .unset] [])) _
    refine XS.lload X0.here hx rfl (hb hby at_14) rfl ?_
    show Steps p.tables e below (s₁.setTop (mkF m 16 #[.val (.long q1), .second, .val (.long q2), .second, .val (.int p3), .val (.int p4), .val (.long xx), .second, .val (.long yy), .second, .unset, .unset, .unset, .unset, .unset, .unset, .unset, .unset, .unset, .unset, .unset, .unset] [(.long xx)])) _
    refine XS.lload X0.here hx rfl (hb hby at_16) rfl ?_
    exact k
  obtain ⟨_, _, ⟨T5, L5, k5, n5⟩, -, X5, ⟨Lc5, hQ5, l5, y5, z5⟩, st5⟩ := Jvm.LawKit.callS X0 hx (y := (⟨"java/lang/Math", "min", "(JJ)J"⟩ : MethodName)) hown (mvT hZ (hw _ (List.mem_of_getElem? (i := 1) rfl))) (mvT hZ (hw _ (List.mem_of_getElem? (i := 2) rfl))) (mvT hZ (hw _ (List.mem_of_getElem? (i := 3) rfl))) (mvT hZ (hw _ (List.mem_of_getElem? (i := 4) rfl))) (by decide) (backOf (W := 0) (rmmin l Z a0 hw [] xx yy  h0 n0 Z0 ) hZ (hw _ (List.mem_of_getElem? (i := 4) rfl)) (hw _ (List.mem_of_getElem? (i := 3) rfl)) (by decide) (by decide)) (g := (mkF m 18 #[.val (.long q1), .second, .val (.long q2), .second, .val (.int p3), .val (.int p4), .val (.long xx), .second, .val (.long yy), .second, .unset, .unset, .unset, .unset, .unset, .unset, .unset, .unset, .unset, .unset, .unset, .unset] [(.long yy), (.long xx)])) rfl (by rw [hml]; rfl) (argsL := [(.long xx), (.long yy)]) (rest := []) (lenOf own_pd0 rfl) rfl (by show 2 * 0 + _ ≤ _; exact Nat.le_of_eq rfl) (hb hby at_18) (fun _ _ => ⟨rfl, e0, (by decide : 0 + 0 ≤ _), (by decide : 0 + 0 ≤ _)⟩)
  dsimp only [Pt.U, Pt.locs, Pt.cells, Pt.slots] at X5 l5 y5 z5 st5 hQ5
  subst l5 y5 z5
  obtain ⟨rfl, Nq5, eq5⟩ := hQ5
  have N5 := Fr.app N0 Nq5
  have R5 : ∀ t, Steps p.tables e below (T5.setTop (mkF m 21 #[.val (.long q1), .second, .val (.long q2), .second, .val (.int p3), .val (.int p4), .val (.long xx), .second, .val (.long yy), .second, .unset, .unset, .unset, .unset, .unset, .unset, .unset, .unset, .unset, .unset, .unset, .unset] [(.long (if (0 : Int32) < (lcmpW xx yy) then yy else xx))])) t → Steps p.tables e below (s₁.setTop (entryFrame m #[(.long q1), (.long q2), (.int p3), (.int p4)] maxLocals)) t := fun t k => R4 t (st5 t k)
  have R6 : ∀ t, Steps p.tables e below (T5.setTop (mkF m 27 #[.val (.long q1), .second, .val (.long q2), .second, .val (.int p3), .val (.int p4), .val (.long xx), .second, .val (.long yy), .second, .val (.long (if (0 : Int32) < (lcmpW xx yy) then yy else xx)), .second, .unset, .unset, .unset, .unset, .unset, .unset, .unset, .unset, .unset, .unset] [(.long yy), (.long xx)])) t → Steps p.tables e below (s₁.setTop (entryFrame m #[(.long q1), (.long q2), (.int p3), (.int p4)] maxLocals)) t := by
    intro t k
    refine R5 t ?_
    show Steps p.tables e below (T5.setTop (mkF m 21 #[.val (.long q1), .second, .val (.long q2), .second, .val (.int p3), .val (.int p4), .val (.long xx), .second, .val (.long yy), .second, .unset, .unset, .unset, .unset, .unset, .unset, .unset, .unset, .unset, .unset, .unset, .unset] [(.long (if (0 : Int32) < (lcmpW xx yy) then yy else xx))])) _
    refine XS.lstore X5.here hx rfl (hb hby at_21) rfl (l' := #[.val (.long q1), .second, .val (.long q2), .second, .val (.int p3), .val (.int p4), .val (.long xx), .second, .val (.long yy), .second, .val (.long (if (0 : Int32) < (lcmpW xx yy) then yy else xx)), .second, .unset, .unset, .unset, .unset, .unset, .unset, .unset, .unset, .unset, .unset]) rfl ?_
    show Steps p.tables e below (T5.setTop (mkF m 23 #[.val (.long q1), .second, .val (.long q2), .second, .val (.int p3), .val (.int p4), .val (.long xx), .second, .val (.long yy), .second, .val (.long (if (0 : Int32) < (lcmpW xx yy) then yy else xx)), .second, .unset, .unset, .unset, .unset, .unset, .unset, .unset, .unset, .unset, .unset] [])) _
    refine XS.lload X5.here hx rfl (hb hby at_23) rfl ?_
    show Steps p.tables e below (T5.setTop (mkF m 25 #[.val (.long q1), .second, .val (.long q2), .second, .val (.int p3), .val (.int p4), .val (.long xx), .second, .val (.long yy), .second, .val (.long (if (0 : Int32) < (lcmpW xx yy) then yy else xx)), .second, .unset, .unset, .unset, .unset, .unset, .unset, .unset, .unset, .unset, .unset] [(.long xx)])) _
    refine XS.lload X5.here hx rfl (hb hby at_25) rfl ?_
    exact k
  obtain ⟨_, _, ⟨T7, L7, k7, n7⟩, -, X7, ⟨Lc7, hQ7, l7, y7, z7⟩, st7⟩ := Jvm.LawKit.callS X5 hx (y := (⟨"java/lang/Math", "max", "(JJ)J"⟩ : MethodName)) hown (mvT hZ (hw _ (List.mem_of_getElem? (i := 5) rfl))) (mvT hZ (hw _ (List.mem_of_getElem? (i := 6) rfl))) (mvT hZ (hw _ (List.mem_of_getElem? (i := 3) rfl))) (mvT hZ (hw _ (List.mem_of_getElem? (i := 7) rfl))) (by decide) (backOf (W := 0) (rmmax l Z a0 hw [] xx yy  h0 n0 Z0 ) hZ (hw _ (List.mem_of_getElem? (i := 7) rfl)) (hw _ (List.mem_of_getElem? (i := 3) rfl)) (by decide) (by decide)) (g := (mkF m 27 #[.val (.long q1), .second, .val (.long q2), .second, .val (.int p3), .val (.int p4), .val (.long xx), .second, .val (.long yy), .second, .val (.long (if (0 : Int32) < (lcmpW xx yy) then yy else xx)), .second, .unset, .unset, .unset, .unset, .unset, .unset, .unset, .unset, .unset, .unset] [(.long yy), (.long xx)])) rfl (by rw [hml]; rfl) (argsL := [(.long xx), (.long yy)]) (rest := []) (lenOf own_pd0 rfl) rfl (by show 2 * 0 + _ ≤ _; exact Nat.le_of_eq rfl) (hb hby at_27) (fun _ _ => ⟨rfl, eq5, (by decide : 0 + 0 ≤ _), (by decide : 0 + 0 ≤ _)⟩)
  dsimp only [Pt.U, Pt.locs, Pt.cells, Pt.slots] at X7 l7 y7 z7 st7 hQ7
  subst l7 y7 z7
  obtain ⟨rfl, Nq7, eq7⟩ := hQ7
  have N7 := Fr.app N5 Nq7
  have R7 : ∀ t, Steps p.tables e below (T7.setTop (mkF m 30 #[.val (.long q1), .second, .val (.long q2), .second, .val (.int p3), .val (.int p4), .val (.long xx), .second, .val (.long yy), .second, .val (.long (if (0 : Int32) < (lcmpW xx yy) then yy else xx)), .second, .unset, .unset, .unset, .unset, .unset, .unset, .unset, .unset, .unset, .unset] [(.long (if (lcmpW xx yy) < (0 : Int32) then yy else xx))])) t → Steps p.tables e below (s₁.setTop (entryFrame m #[(.long q1), (.long q2), (.int p3), (.int p4)] maxLocals)) t := fun t k => R6 t (st7 t k)
  have R8 : ∀ t, Steps p.tables e below (T7.setTop (mkF m 42 #[.val (.long q1), .second, .val (.long q2), .second, .val (.int p3), .val (.int p4), .val (.long xx), .second, .val (.long yy), .second, .val (.long (if (0 : Int32) < (lcmpW xx yy) then yy else xx)), .second, .val (.long (if (lcmpW xx yy) < (0 : Int32) then yy else xx)), .second, .val (.int ((p3 &&& (2147483647 : Int32)) % (9 : Int32))), .unset, .unset, .unset, .unset, .unset, .unset, .unset] [])) t → Steps p.tables e below (s₁.setTop (entryFrame m #[(.long q1), (.long q2), (.int p3), (.int p4)] maxLocals)) t := by
    intro t k
    refine R7 t ?_
    show Steps p.tables e below (T7.setTop (mkF m 30 #[.val (.long q1), .second, .val (.long q2), .second, .val (.int p3), .val (.int p4), .val (.long xx), .second, .val (.long yy), .second, .val (.long (if (0 : Int32) < (lcmpW xx yy) then yy else xx)), .second, .unset, .unset, .unset, .unset, .unset, .unset, .unset, .unset, .unset, .unset] [(.long (if (lcmpW xx yy) < (0 : Int32) then yy else xx))])) _
    refine XS.lstore X7.here hx rfl (hb hby at_30) rfl (l' := #[.val (.long q1), .second, .val (.long q2), .second, .val (.int p3), .val (.int p4), .val (.long xx), .second, .val (.long yy), .second, .val (.long (if (0 : Int32) < (lcmpW xx yy) then yy else xx)), .second, .val (.long (if (lcmpW xx yy) < (0 : Int32) then yy else xx)), .second, .unset, .unset, .unset, .unset, .unset, .unset, .unset, .unset]) rfl ?_
    show Steps p.tables e below (T7.setTop (mkF m 32 #[.val (.long q1), .second, .val (.long q2), .second, .val (.int p3), .val (.int p4), .val (.long xx), .second, .val (.long yy), .second, .val (.long (if (0 : Int32) < (lcmpW xx yy) then yy else xx)), .second, .val (.long (if (lcmpW xx yy) < (0 : Int32) then yy else xx)), .second, .unset, .unset, .unset, .unset, .unset, .unset, .unset, .unset] [])) _
    refine XS.iload X7.here hx rfl (hb hby at_32) rfl ?_
    show Steps p.tables e below (T7.setTop (mkF m 34 #[.val (.long q1), .second, .val (.long q2), .second, .val (.int p3), .val (.int p4), .val (.long xx), .second, .val (.long yy), .second, .val (.long (if (0 : Int32) < (lcmpW xx yy) then yy else xx)), .second, .val (.long (if (lcmpW xx yy) < (0 : Int32) then yy else xx)), .second, .unset, .unset, .unset, .unset, .unset, .unset, .unset, .unset] [(.int p3)])) _
    refine X7.ldcInt hx hown (mvT hZ (hw _ (List.mem_of_getElem? (i := 8) rfl))) (g := (mkF m 34 #[.val (.long q1), .second, .val (.long q2), .second, .val (.int p3), .val (.int p4), .val (.long xx), .second, .val (.long yy), .second, .val (.long (if (0 : Int32) < (lcmpW xx yy) then yy else xx)), .second, .val (.long (if (lcmpW xx yy) < (0 : Int32) then yy else xx)), .second, .unset, .unset, .unset, .unset, .unset, .unset, .unset, .unset] [(.int p3)])) rfl (hb hby at_34) _ ?_
    show Steps p.tables e below (T7.setTop (mkF m 36 #[.val (.long q1), .second, .val (.long q2), .second, .val (.int p3), .val (.int p4), .val (.long xx), .second, .val (.long yy), .second, .val (.long (if (0 : Int32) < (lcmpW xx yy) then yy else xx)), .second, .val (.long (if (lcmpW xx yy) < (0 : Int32) then yy else xx)), .second, .unset, .unset, .unset, .unset, .unset, .unset, .unset, .unset] [(.int (2147483647 : Int32)), (.int p3)])) _
    refine XS.iand X7.here hx rfl (hb hby at_36) rfl ?_
    show Steps p.tables e below (T7.setTop (mkF m 37 #[.val (.long q1), .second, .val (.long q2), .second, .val (.int p3), .val (.int p4), .val (.long xx), .second, .val (.long yy), .second, .val (.long (if (0 : Int32) < (lcmpW xx yy) then yy else xx)), .second, .val (.long (if (lcmpW xx yy) < (0 : Int32) then yy else xx)), .second, .unset, .unset, .unset, .unset, .unset, .unset, .unset, .unset] [(.int (p3 &&& (2147483647 : Int32)))])) _
    refine XS.bipush X7.here hx rfl (hb hby at_37) ?_
    show Steps p.tables e below (T7.setTop (mkF m 39 #[.val (.long q1), .second, .val (.long q2), .second, .val (.int p3), .val (.int p4), .val (.long xx), .second, .val (.long yy), .second, .val (.long (if (0 : Int32) < (lcmpW xx yy) then yy else xx)), .second, .val (.long (if (lcmpW xx yy) < (0 : Int32) then yy else xx)), .second, .unset, .unset, .unset, .unset, .unset, .unset, .unset, .unset] [(.int (9 : Int32)), (.int (p3 &&& (2147483647 : Int32)))])) _
    refine iremM X7 hx rfl (hb hby at_39) rfl (by decide) ?_
    show Steps p.tables e below (T7.setTop (mkF m 40 #[.val (.long q1), .second, .val (.long q2), .second, .val (.int p3), .val (.int p4), .val (.long xx), .second, .val (.long yy), .second, .val (.long (if (0 : Int32) < (lcmpW xx yy) then yy else xx)), .second, .val (.long (if (lcmpW xx yy) < (0 : Int32) then yy else xx)), .second, .unset, .unset, .unset, .unset, .unset, .unset, .unset, .unset] [(.int ((p3 &&& (2147483647 : Int32)) % (9 : Int32)))])) _
    refine XS.istore X7.here hx rfl (hb hby at_40) rfl (l' := #[.val (.long q1), .second, .val (.long q2), .second, .val (.int p3), .val (.int p4), .val (.long xx), .second, .val (.long yy), .second, .val (.long (if (0 : Int32) < (lcmpW xx yy) then yy else xx)), .second, .val (.long (if (lcmpW xx yy) < (0 : Int32) then yy else xx)), .second, .val (.int ((p3 &&& (2147483647 : Int32)) % (9 : Int32))), .unset, .unset, .unset, .unset, .unset, .unset, .unset]) rfl ?_
    exact k
  obtain ⟨lo, hlo⟩ : ∃ z : Int64, z = (if (0 : Int32) < (lcmpW xx yy) then yy else xx) := ⟨_, rfl⟩
  have R9 : ∀ t, Steps p.tables e below (T7.setTop (mkF m 42 #[.val (.long q1), .second, .val (.long q2), .second, .val (.int p3), .val (.int p4), .val (.long xx), .second, .val (.long yy), .second, .val (.long lo), .second, .val (.long (if (lcmpW xx yy) < (0 : Int32) then yy else xx)), .second, .val (.int ((p3 &&& (2147483647 : Int32)) % (9 : Int32))), .unset, .unset, .unset, .unset, .unset, .unset, .unset] [])) t → Steps p.tables e below (s₁.setTop (entryFrame m #[(.long q1), (.long q2), (.int p3), (.int p4)] maxLocals)) t := by rw [hlo]; exact R8
  obtain ⟨hi, hhi⟩ : ∃ z : Int64, z = (if (lcmpW xx yy) < (0 : Int32) then yy else xx) := ⟨_, rfl⟩
  have R10 : ∀ t, Steps p.tables e below (T7.setTop (mkF m 42 #[.val (.long q1), .second, .val (.long q2), .second, .val (.int p3), .val (.int p4), .val (.long xx), .second, .val (.long yy), .second, .val (.long lo), .second, .val (.long hi), .second, .val (.int ((p3 &&& (2147483647 : Int32)) % (9 : Int32))), .unset, .unset, .unset, .unset, .unset, .unset, .unset] [])) t → Steps p.tables e below (s₁.setTop (entryFrame m #[(.long q1), (.long q2), (.int p3), (.int p4)] maxLocals)) t := by rw [hhi]; exact R9
  obtain ⟨va, hva⟩ : ∃ z : Int32, z = ((p3 &&& (2147483647 : Int32)) % (9 : Int32)) := ⟨_, rfl⟩
  have R11 : ∀ t, Steps p.tables e below (T7.setTop (mkF m 42 #[.val (.long q1), .second, .val (.long q2), .second, .val (.int p3), .val (.int p4), .val (.long xx), .second, .val (.long yy), .second, .val (.long lo), .second, .val (.long hi), .second, .val (.int va), .unset, .unset, .unset, .unset, .unset, .unset, .unset] [])) t → Steps p.tables e below (s₁.setTop (entryFrame m #[(.long q1), (.long q2), (.int p3), (.int p4)] maxLocals)) t := by rw [hva]; exact R10
  have hva2 := own_va hva
  have hnz : (9 : Int32) - va ≠ 0 := own_nz hva2
  have R12 : ∀ t, Steps p.tables e below (T7.setTop (mkF m 58 #[.val (.long q1), .second, .val (.long q2), .second, .val (.int p3), .val (.int p4), .val (.long xx), .second, .val (.long yy), .second, .val (.long lo), .second, .val (.long hi), .second, .val (.int va), .val (.int (va + ((p4 &&& (2147483647 : Int32)) % ((9 : Int32) - va)))), .unset, .unset, .unset, .unset, .unset, .unset] [])) t → Steps p.tables e below (s₁.setTop (entryFrame m #[(.long q1), (.long q2), (.int p3), (.int p4)] maxLocals)) t := by
    intro t k
    refine R11 t ?_
    show Steps p.tables e below (T7.setTop (mkF m 42 #[.val (.long q1), .second, .val (.long q2), .second, .val (.int p3), .val (.int p4), .val (.long xx), .second, .val (.long yy), .second, .val (.long lo), .second, .val (.long hi), .second, .val (.int va), .unset, .unset, .unset, .unset, .unset, .unset, .unset] [])) _
    refine XS.iload X7.here hx rfl (hb hby at_42) rfl ?_
    show Steps p.tables e below (T7.setTop (mkF m 44 #[.val (.long q1), .second, .val (.long q2), .second, .val (.int p3), .val (.int p4), .val (.long xx), .second, .val (.long yy), .second, .val (.long lo), .second, .val (.long hi), .second, .val (.int va), .unset, .unset, .unset, .unset, .unset, .unset, .unset] [(.int va)])) _
    refine XS.iload X7.here hx rfl (hb hby at_44) rfl ?_
    show Steps p.tables e below (T7.setTop (mkF m 46 #[.val (.long q1), .second, .val (.long q2), .second, .val (.int p3), .val (.int p4), .val (.long xx), .second, .val (.long yy), .second, .val (.long lo), .second, .val (.long hi), .second, .val (.int va), .unset, .unset, .unset, .unset, .unset, .unset, .unset] [(.int p4), (.int va)])) _
    refine X7.ldcInt hx hown (mvT hZ (hw _ (List.mem_of_getElem? (i := 8) rfl))) (g := (mkF m 46 #[.val (.long q1), .second, .val (.long q2), .second, .val (.int p3), .val (.int p4), .val (.long xx), .second, .val (.long yy), .second, .val (.long lo), .second, .val (.long hi), .second, .val (.int va), .unset, .unset, .unset, .unset, .unset, .unset, .unset] [(.int p4), (.int va)])) rfl (hb hby at_46) _ ?_
    show Steps p.tables e below (T7.setTop (mkF m 48 #[.val (.long q1), .second, .val (.long q2), .second, .val (.int p3), .val (.int p4), .val (.long xx), .second, .val (.long yy), .second, .val (.long lo), .second, .val (.long hi), .second, .val (.int va), .unset, .unset, .unset, .unset, .unset, .unset, .unset] [(.int (2147483647 : Int32)), (.int p4), (.int va)])) _
    refine XS.iand X7.here hx rfl (hb hby at_48) rfl ?_
    show Steps p.tables e below (T7.setTop (mkF m 49 #[.val (.long q1), .second, .val (.long q2), .second, .val (.int p3), .val (.int p4), .val (.long xx), .second, .val (.long yy), .second, .val (.long lo), .second, .val (.long hi), .second, .val (.int va), .unset, .unset, .unset, .unset, .unset, .unset, .unset] [(.int (p4 &&& (2147483647 : Int32))), (.int va)])) _
    refine XS.bipush X7.here hx rfl (hb hby at_49) ?_
    show Steps p.tables e below (T7.setTop (mkF m 51 #[.val (.long q1), .second, .val (.long q2), .second, .val (.int p3), .val (.int p4), .val (.long xx), .second, .val (.long yy), .second, .val (.long lo), .second, .val (.long hi), .second, .val (.int va), .unset, .unset, .unset, .unset, .unset, .unset, .unset] [(.int (9 : Int32)), (.int (p4 &&& (2147483647 : Int32))), (.int va)])) _
    refine XS.iload X7.here hx rfl (hb hby at_51) rfl ?_
    show Steps p.tables e below (T7.setTop (mkF m 53 #[.val (.long q1), .second, .val (.long q2), .second, .val (.int p3), .val (.int p4), .val (.long xx), .second, .val (.long yy), .second, .val (.long lo), .second, .val (.long hi), .second, .val (.int va), .unset, .unset, .unset, .unset, .unset, .unset, .unset] [(.int va), (.int (9 : Int32)), (.int (p4 &&& (2147483647 : Int32))), (.int va)])) _
    refine XS.isub X7.here hx rfl (hb hby at_53) rfl ?_
    show Steps p.tables e below (T7.setTop (mkF m 54 #[.val (.long q1), .second, .val (.long q2), .second, .val (.int p3), .val (.int p4), .val (.long xx), .second, .val (.long yy), .second, .val (.long lo), .second, .val (.long hi), .second, .val (.int va), .unset, .unset, .unset, .unset, .unset, .unset, .unset] [(.int ((9 : Int32) - va)), (.int (p4 &&& (2147483647 : Int32))), (.int va)])) _
    refine iremM X7 hx rfl (hb hby at_54) rfl hnz ?_
    show Steps p.tables e below (T7.setTop (mkF m 55 #[.val (.long q1), .second, .val (.long q2), .second, .val (.int p3), .val (.int p4), .val (.long xx), .second, .val (.long yy), .second, .val (.long lo), .second, .val (.long hi), .second, .val (.int va), .unset, .unset, .unset, .unset, .unset, .unset, .unset] [(.int ((p4 &&& (2147483647 : Int32)) % ((9 : Int32) - va))), (.int va)])) _
    refine XS.iadd X7.here hx rfl (hb hby at_55) rfl ?_
    show Steps p.tables e below (T7.setTop (mkF m 56 #[.val (.long q1), .second, .val (.long q2), .second, .val (.int p3), .val (.int p4), .val (.long xx), .second, .val (.long yy), .second, .val (.long lo), .second, .val (.long hi), .second, .val (.int va), .unset, .unset, .unset, .unset, .unset, .unset, .unset] [(.int (va + ((p4 &&& (2147483647 : Int32)) % ((9 : Int32) - va))))])) _
    refine XS.istore X7.here hx rfl (hb hby at_56) rfl (l' := #[.val (.long q1), .second, .val (.long q2), .second, .val (.int p3), .val (.int p4), .val (.long xx), .second, .val (.long yy), .second, .val (.long lo), .second, .val (.long hi), .second, .val (.int va), .val (.int (va + ((p4 &&& (2147483647 : Int32)) % ((9 : Int32) - va)))), .unset, .unset, .unset, .unset, .unset, .unset]) rfl ?_
    exact k
  obtain ⟨vb, hvb⟩ : ∃ z : Int32, z = (va + ((p4 &&& (2147483647 : Int32)) % ((9 : Int32) - va))) := ⟨_, rfl⟩
  have R13 : ∀ t, Steps p.tables e below (T7.setTop (mkF m 58 #[.val (.long q1), .second, .val (.long q2), .second, .val (.int p3), .val (.int p4), .val (.long xx), .second, .val (.long yy), .second, .val (.long lo), .second, .val (.long hi), .second, .val (.int va), .val (.int vb), .unset, .unset, .unset, .unset, .unset, .unset] [])) t → Steps p.tables e below (s₁.setTop (entryFrame m #[(.long q1), (.long q2), (.int p3), (.int p4)] maxLocals)) t := by rw [hvb]; exact R12
  obtain ⟨c1, c2⟩ := own_lohi hxx hyy hlo hhi
  obtain ⟨k1, k2, c3, c4, c5, c6, c7⟩ := own_fp hva2 (own_vb hva2 hvb)
  have R14 : ∀ t, Steps p.tables e below (T7.setTop (mkF m 76 #[.val (.long q1), .second, .val (.long q2), .second, .val (.int p3), .val (.int p4), .val (.long xx), .second, .val (.long yy), .second, .val (.long lo), .second, .val (.long hi), .second, .val (.int va), .val (.int vb), .val (.double (FP.ddiv (FP.i2d va) (4620693217682128896 : UInt64))), .second, .val (.double (FP.ddiv (FP.i2d vb) (4620693217682128896 : UInt64))), .second, .unset, .unset] [])) t → Steps p.tables e below (s₁.setTop (entryFrame m #[(.long q1), (.long q2), (.int p3), (.int p4)] maxLocals)) t := by
    intro t k
    refine R13 t ?_
    show Steps p.tables e below (T7.setTop (mkF m 58 #[.val (.long q1), .second, .val (.long q2), .second, .val (.int p3), .val (.int p4), .val (.long xx), .second, .val (.long yy), .second, .val (.long lo), .second, .val (.long hi), .second, .val (.int va), .val (.int vb), .unset, .unset, .unset, .unset, .unset, .unset] [])) _
    refine XS.iload X7.here hx rfl (hb hby at_58) rfl ?_
    show Steps p.tables e below (T7.setTop (mkF m 60 #[.val (.long q1), .second, .val (.long q2), .second, .val (.int p3), .val (.int p4), .val (.long xx), .second, .val (.long yy), .second, .val (.long lo), .second, .val (.long hi), .second, .val (.int va), .val (.int vb), .unset, .unset, .unset, .unset, .unset, .unset] [(.int va)])) _
    refine XS.i2dS X7.here hx rfl (hb hby at_60) rfl rfl ?_
    show Steps p.tables e below (T7.setTop (mkF m 61 #[.val (.long q1), .second, .val (.long q2), .second, .val (.int p3), .val (.int p4), .val (.long xx), .second, .val (.long yy), .second, .val (.long lo), .second, .val (.long hi), .second, .val (.int va), .val (.int vb), .unset, .unset, .unset, .unset, .unset, .unset] [(.double (FP.i2d va))])) _
    refine X7.ldc2DoubleC hx hown (mvT hZ (hw _ (List.mem_of_getElem? (i := 9) rfl))) (g := (mkF m 61 #[.val (.long q1), .second, .val (.long q2), .second, .val (.int p3), .val (.int p4), .val (.long xx), .second, .val (.long yy), .second, .val (.long lo), .second, .val (.long hi), .second, .val (.int va), .val (.int vb), .unset, .unset, .unset, .unset, .unset, .unset] [(.double (FP.i2d va))])) rfl (hb hby at_61) _ ?_
    show Steps p.tables e below (T7.setTop (mkF m 64 #[.val (.long q1), .second, .val (.long q2), .second, .val (.int p3), .val (.int p4), .val (.long xx), .second, .val (.long yy), .second, .val (.long lo), .second, .val (.long hi), .second, .val (.int va), .val (.int vb), .unset, .unset, .unset, .unset, .unset, .unset] [(.double (4620693217682128896 : UInt64)), (.double (FP.i2d va))])) _
    refine XS.ddivS X7.here hx rfl (hb hby at_64) rfl k1 rfl ?_
    show Steps p.tables e below (T7.setTop (mkF m 65 #[.val (.long q1), .second, .val (.long q2), .second, .val (.int p3), .val (.int p4), .val (.long xx), .second, .val (.long yy), .second, .val (.long lo), .second, .val (.long hi), .second, .val (.int va), .val (.int vb), .unset, .unset, .unset, .unset, .unset, .unset] [(.double (FP.ddiv (FP.i2d va) (4620693217682128896 : UInt64)))])) _
    refine XS.dstore X7.here hx rfl (hb hby at_65) rfl (l' := #[.val (.long q1), .second, .val (.long q2), .second, .val (.int p3), .val (.int p4), .val (.long xx), .second, .val (.long yy), .second, .val (.long lo), .second, .val (.long hi), .second, .val (.int va), .val (.int vb), .val (.double (FP.ddiv (FP.i2d va) (4620693217682128896 : UInt64))), .second, .unset, .unset, .unset, .unset]) rfl ?_
    show Steps p.tables e below (T7.setTop (mkF m 67 #[.val (.long q1), .second, .val (.long q2), .second, .val (.int p3), .val (.int p4), .val (.long xx), .second, .val (.long yy), .second, .val (.long lo), .second, .val (.long hi), .second, .val (.int va), .val (.int vb), .val (.double (FP.ddiv (FP.i2d va) (4620693217682128896 : UInt64))), .second, .unset, .unset, .unset, .unset] [])) _
    refine XS.iload X7.here hx rfl (hb hby at_67) rfl ?_
    show Steps p.tables e below (T7.setTop (mkF m 69 #[.val (.long q1), .second, .val (.long q2), .second, .val (.int p3), .val (.int p4), .val (.long xx), .second, .val (.long yy), .second, .val (.long lo), .second, .val (.long hi), .second, .val (.int va), .val (.int vb), .val (.double (FP.ddiv (FP.i2d va) (4620693217682128896 : UInt64))), .second, .unset, .unset, .unset, .unset] [(.int vb)])) _
    refine XS.i2dS X7.here hx rfl (hb hby at_69) rfl rfl ?_
    show Steps p.tables e below (T7.setTop (mkF m 70 #[.val (.long q1), .second, .val (.long q2), .second, .val (.int p3), .val (.int p4), .val (.long xx), .second, .val (.long yy), .second, .val (.long lo), .second, .val (.long hi), .second, .val (.int va), .val (.int vb), .val (.double (FP.ddiv (FP.i2d va) (4620693217682128896 : UInt64))), .second, .unset, .unset, .unset, .unset] [(.double (FP.i2d vb))])) _
    refine X7.ldc2DoubleC hx hown (mvT hZ (hw _ (List.mem_of_getElem? (i := 9) rfl))) (g := (mkF m 70 #[.val (.long q1), .second, .val (.long q2), .second, .val (.int p3), .val (.int p4), .val (.long xx), .second, .val (.long yy), .second, .val (.long lo), .second, .val (.long hi), .second, .val (.int va), .val (.int vb), .val (.double (FP.ddiv (FP.i2d va) (4620693217682128896 : UInt64))), .second, .unset, .unset, .unset, .unset] [(.double (FP.i2d vb))])) rfl (hb hby at_70) _ ?_
    show Steps p.tables e below (T7.setTop (mkF m 73 #[.val (.long q1), .second, .val (.long q2), .second, .val (.int p3), .val (.int p4), .val (.long xx), .second, .val (.long yy), .second, .val (.long lo), .second, .val (.long hi), .second, .val (.int va), .val (.int vb), .val (.double (FP.ddiv (FP.i2d va) (4620693217682128896 : UInt64))), .second, .unset, .unset, .unset, .unset] [(.double (4620693217682128896 : UInt64)), (.double (FP.i2d vb))])) _
    refine XS.ddivS X7.here hx rfl (hb hby at_73) rfl k2 rfl ?_
    show Steps p.tables e below (T7.setTop (mkF m 74 #[.val (.long q1), .second, .val (.long q2), .second, .val (.int p3), .val (.int p4), .val (.long xx), .second, .val (.long yy), .second, .val (.long lo), .second, .val (.long hi), .second, .val (.int va), .val (.int vb), .val (.double (FP.ddiv (FP.i2d va) (4620693217682128896 : UInt64))), .second, .unset, .unset, .unset, .unset] [(.double (FP.ddiv (FP.i2d vb) (4620693217682128896 : UInt64)))])) _
    refine XS.dstore X7.here hx rfl (hb hby at_74) rfl (l' := #[.val (.long q1), .second, .val (.long q2), .second, .val (.int p3), .val (.int p4), .val (.long xx), .second, .val (.long yy), .second, .val (.long lo), .second, .val (.long hi), .second, .val (.int va), .val (.int vb), .val (.double (FP.ddiv (FP.i2d va) (4620693217682128896 : UInt64))), .second, .val (.double (FP.ddiv (FP.i2d vb) (4620693217682128896 : UInt64))), .second, .unset, .unset]) rfl ?_
    exact k
  obtain ⟨T15, h15, X15, e15, E15, A15, D15, -, st15⟩ := newO X7 hx hZ hown (hw _ (List.mem_of_getElem? (i := 10) rfl)) (hw _ (List.mem_of_getElem? (i := 11) rfl)) (hw _ (List.mem_of_getElem? (i := 12) rfl)) eq7 (g := (mkF m 76 #[.val (.long q1), .second, .val (.long q2), .second, .val (.int p3), .val (.int p4), .val (.long xx), .second, .val (.long yy), .second, .val (.long lo), .second, .val (.long hi), .second, .val (.int va), .val (.int vb), .val (.double (FP.ddiv (FP.i2d va) (4620693217682128896 : UInt64))), .second, .val (.double (FP.ddiv (FP.i2d vb) (4620693217682128896 : UInt64))), .second, .unset, .unset] [])) rfl (hb hby at_76) (by decide) (by decide)
  obtain ⟨b15, g15⟩ : ∃ z, z = h0.size := ⟨_, rfl⟩
  rw [← g15] at A15 D15 st15
  have R15 : ∀ t, Steps p.tables e below (T15.setTop (mkF m 79 #[.val (.long q1), .second, .val (.long q2), .second, .val (.int p3), .val (.int p4), .val (.long xx), .second, .val (.long yy), .second, .val (.long lo), .second, .val (.long hi), .second, .val (.int va), .val (.int vb), .val (.double (FP.ddiv (FP.i2d va) (4620693217682128896 : UInt64))), .second, .val (.double (FP.ddiv (FP.i2d vb) (4620693217682128896 : UInt64))), .second, .unset, .unset] [(.ref b15)])) t → Steps p.tables e below (s₁.setTop (entryFrame m #[(.long q1), (.long q2), (.int p3), (.int p4)] maxLocals)) t := fun t k => R14 t (st15 t k)
  have g_b15 : n0 ≤ b15 := Nat.le_trans Z0 (Nat.le_of_eq g15.symm)
  have sz_b15 : h0.size ≤ b15 := Nat.le_trans (Keep.refl h0 []).1 (Nat.le_of_eq g15.symm)
  have Z15 : n0 ≤ h15.size := Nat.le_trans Z0 E15.1
  have K15 : Keep h0 h15 [] := (Keep.refl h0 []).ext E15
  have F15_25 : Fld Z h15 b15 "com/example/trunkwright/trunkwright/random/FlatModel" "alphaLow" "J" (.long (0 : Int64)) := D15 (Or.inr (hw _ (List.mem_of_getElem? (i := 25) rfl))) (ty := .long) (by decide)
  have F15_27 : Fld Z h15 b15 "com/example/trunkwright/trunkwright/random/FlatModel" "alphaHigh" "J" (.long (0 : Int64)) := D15 (Or.inr (hw _ (List.mem_of_getElem? (i := 27) rfl))) (ty := .long) (by decide)
  have F15_29 : Fld Z h15 b15 "com/example/trunkwright/trunkwright/random/FlatModel" "muLow" "D" (.double (0 : UInt64)) := D15 (Or.inr (hw _ (List.mem_of_getElem? (i := 29) rfl))) (ty := .double) (by decide)
  have F15_31 : Fld Z h15 b15 "com/example/trunkwright/trunkwright/random/FlatModel" "muHigh" "D" (.double (0 : UInt64)) := D15 (Or.inr (hw _ (List.mem_of_getElem? (i := 31) rfl))) (ty := .double) (by decide)
  have R16 : ∀ t, Steps p.tables e below (T15.setTop (mkF m 88 #[.val (.long q1), .second, .val (.long q2), .second, .val (.int p3), .val (.int p4), .val (.long xx), .second, .val (.long yy), .second, .val (.long lo), .second, .val (.long hi), .second, .val (.int va), .val (.int vb), .val (.double (FP.ddiv (FP.i2d va) (4620693217682128896 : UInt64))), .second, .val (.double (FP.ddiv (FP.i2d vb) (4620693217682128896 : UInt64))), .second, .unset, .unset] [(.double (FP.ddiv (FP.i2d vb) (4620693217682128896 : UInt64))), (.double (FP.ddiv (FP.i2d va) (4620693217682128896 : UInt64))), (.long hi), (.long lo), (.ref b15), (.ref b15)])) t → Steps p.tables e below (s₁.setTop (entryFrame m #[(.long q1), (.long q2), (.int p3), (.int p4)] maxLocals)) t := by
    intro t k
    refine R15 t ?_
    show Steps p.tables e below (T15.setTop (mkF m 79 #[.val (.long q1), .second, .val (.long q2), .second, .val (.int p3), .val (.int p4), .val (.long xx), .second, .val (.long yy), .second, .val (.long lo), .second, .val (.long hi), .second, .val (.int va), .val (.int vb), .val (.double (FP.ddiv (FP.i2d va) (4620693217682128896 : UInt64))), .second, .val (.double (FP.ddiv (FP.i2d vb) (4620693217682128896 : UInt64))), .second, .unset, .unset] [(.ref b15)])) _
    refine XS.dup X15.here hx rfl (hb hby at_79) rfl rfl ?_
    show Steps p.tables e below (T15.setTop (mkF m 80 #[.val (.long q1), .second, .val (.long q2), .second, .val (.int p3), .val (.int p4), .val (.long xx), .second, .val (.long yy), .second, .val (.long lo), .second, .val (.long hi), .second, .val (.int va), .val (.int vb), .val (.double (FP.ddiv (FP.i2d va) (4620693217682128896 : UInt64))), .second, .val (.double (FP.ddiv (FP.i2d vb) (4620693217682128896 : UInt64))), .second, .unset, .unset] [(.ref b15), (.ref b15)])) _
    refine XS.lload X15.here hx rfl (hb hby at_80) rfl ?_
    show Steps p.tables e below (T15.setTop (mkF m 82 #[.val (.long q1), .second, .val (.long q2), .second, .val (.int p3), .val (.int p4), .val (.long xx), .second, .val (.long yy), .second, .val (.long lo), .second, .val (.long hi), .second, .val (.int va), .val (.int vb), .val (.double (FP.ddiv (FP.i2d va) (4620693217682128896 : UInt64))), .second, .val (.double (FP.ddiv (FP.i2d vb) (4620693217682128896 : UInt64))), .second, .unset, .unset] [(.long lo), (.ref b15), (.ref b15)])) _
    refine XS.lload X15.here hx rfl (hb hby at_82) rfl ?_
    show Steps p.tables e below (T15.setTop (mkF m 84 #[.val (.long q1), .second, .val (.long q2), .second, .val (.int p3), .val (.int p4), .val (.long xx), .second, .val (.long yy), .second, .val (.long lo), .second, .val (.long hi), .second, .val (.int va), .val (.int vb), .val (.double (FP.ddiv (FP.i2d va) (4620693217682128896 : UInt64))), .second, .val (.double (FP.ddiv (FP.i2d vb) (4620693217682128896 : UInt64))), .second, .unset, .unset] [(.long hi), (.long lo), (.ref b15), (.ref b15)])) _
    refine XS.dload X15.here hx rfl (hb hby at_84) rfl ?_
    show Steps p.tables e below (T15.setTop (mkF m 86 #[.val (.long q1), .second, .val (.long q2), .second, .val (.int p3), .val (.int p4), .val (.long xx), .second, .val (.long yy), .second, .val (.long lo), .second, .val (.long hi), .second, .val (.int va), .val (.int vb), .val (.double (FP.ddiv (FP.i2d va) (4620693217682128896 : UInt64))), .second, .val (.double (FP.ddiv (FP.i2d vb) (4620693217682128896 : UInt64))), .second, .unset, .unset] [(.double (FP.ddiv (FP.i2d va) (4620693217682128896 : UInt64))), (.long hi), (.long lo), (.ref b15), (.ref b15)])) _
    refine XS.dload X15.here hx rfl (hb hby at_86) rfl ?_
    exact k
  obtain ⟨dlo, hdlo⟩ : ∃ z : UInt64, z = (FP.ddiv (FP.i2d va) (4620693217682128896 : UInt64)) := ⟨_, rfl⟩
  have R17 : ∀ t, Steps p.tables e below (T15.setTop (mkF m 88 #[.val (.long q1), .second, .val (.long q2), .second, .val (.int p3), .val (.int p4), .val (.long xx), .second, .val (.long yy), .second, .val (.long lo), .second, .val (.long hi), .second, .val (.int va), .val (.int vb), .val (.double dlo), .second, .val (.double (FP.ddiv (FP.i2d vb) (4620693217682128896 : UInt64))), .second, .unset, .unset] [(.double (FP.ddiv (FP.i2d vb) (4620693217682128896 : UInt64))), (.double dlo), (.long hi), (.long lo), (.ref b15), (.ref b15)])) t → Steps p.tables e below (s₁.setTop (entryFrame m #[(.long q1), (.long q2), (.int p3), (.int p4)] maxLocals)) t := by rw [hdlo]; exact R16
  obtain ⟨dhi, hdhi⟩ : ∃ z : UInt64, z = (FP.ddiv (FP.i2d vb) (4620693217682128896 : UInt64)) := ⟨_, rfl⟩
  have R18 : ∀ t, Steps p.tables e below (T15.setTop (mkF m 88 #[.val (.long q1), .second, .val (.long q2), .second, .val (.int p3), .val (.int p4), .val (.long xx), .second, .val (.long yy), .second, .val (.long lo), .second, .val (.long hi), .second, .val (.int va), .val (.int vb), .val (.double dlo), .second, .val (.double dhi), .second, .unset, .unset] [(.double dhi), (.double dlo), (.long hi), (.long lo), (.ref b15), (.ref b15)])) t → Steps p.tables e below (s₁.setTop (entryFrame m #[(.long q1), (.long q2), (.int p3), (.int p4)] maxLocals)) t := by rw [hdhi]; exact R17
  rw [← hdlo] at c3 c4 c6 c7
  rw [← hdhi] at c4 c5 c7
  obtain ⟨_, _, ⟨T19, L19, k19, n19⟩, -, X19, ⟨Lc19, hQ19, l19, y19, z19⟩, st19⟩ := X15.specialBack hx (y := (⟨"com/example/trunkwright/trunkwright/random/FlatModel", "<init>", "(JJDD)V"⟩ : MethodName)) rfl hown (mvT hZ (hw _ (List.mem_of_getElem? (i := 13) rfl))) (mvT hZ (hw _ (List.mem_of_getElem? (i := 14) rfl))) (mvT hZ (hw _ (List.mem_of_getElem? (i := 15) rfl))) (by decide) (backOf (W := 1) (rmFI l Z a0 hw [] b15 lo hi dlo dhi  h15 n0 Z15 F15_25 F15_27 F15_29 F15_31 A15 g_b15 c1 c2 c3 c4 c5) hZ (hw _ (List.mem_of_getElem? (i := 15) rfl)) (hw _ (List.mem_of_getElem? (i := 12) rfl)) (by decide) (by decide)) (g := (mkF m 88 #[.val (.long q1), .second, .val (.long q2), .second, .val (.int p3), .val (.int p4), .val (.long xx), .second, .val (.long yy), .second, .val (.long lo), .second, .val (.long hi), .second, .val (.int va), .val (.int vb), .val (.double dlo), .second, .val (.double dhi), .second, .unset, .unset] [(.double dhi), (.double dlo), (.long hi), (.long lo), (.ref b15), (.ref b15)])) rfl (by rw [hml]; rfl) (Steps.refl _) (a := b15) (argsL := [(.long lo), (.long hi), (.double dlo), (.double dhi)]) (rest := [(.ref b15)]) (lenOf own_pd1 rfl) rfl (by show 2 * 0 + _ ≤ _; exact Nat.le_of_eq rfl) (hb hby at_88) (fun _ _ => ⟨rfl, e15, (by decide : 1 + 0 ≤ _), (by decide : 4 + 0 ≤ _)⟩)
  dsimp only [Pt.U, Pt.locs, Pt.cells, Pt.slots] at X19 l19 y19 z19 st19 hQ19
  subst l19 y19 z19
  obtain ⟨rfl, Nq19, Kc19, Ec19, Fc19, Fd19⟩ := hQ19
  have N19 := Fr.app N7 Nq19
  have R19 : ∀ t, Steps p.tables e below (T19.setTop (mkF m 91 #[.val (.long q1), .second, .val (.long q2), .second, .val (.int p3), .val (.int p4), .val (.long xx), .second, .val (.long yy), .second, .val (.long lo), .second, .val (.long hi), .second, .val (.int va), .val (.int vb), .val (.double dlo), .second, .val (.double dhi), .second, .unset, .unset] [(.ref b15)])) t → Steps p.tables e below (s₁.setTop (entryFrame m #[(.long q1), (.long q2), (.int p3), (.int p4)] maxLocals)) t := fun t k => R18 t (st19.trans k)
  have Z19 : n0 ≤ T19.heap.size := Nat.le_trans Z15 Kc19.1
  have K19 : Keep h0 T19.heap [] := K15.trans Kc19 (allS (Or.inr sz_b15) all0)
  have f20 : Exa Z T19.heap b15 "com/example/trunkwright/trunkwright/random/FlatModel" := A15.keep Kc19
  have R21 : ∀ t, Steps p.tables e below (T19.setTop (mkF m 97 #[.val (.long q1), .second, .val (.long q2), .second, .val (.int p3), .val (.int p4), .val (.long xx), .second, .val (.long yy), .second, .val (.long lo), .second, .val (.long hi), .second, .val (.int va), .val (.int vb), .val (.double dlo), .second, .val (.double dhi), .second, .val (.ref b15), .unset] [(.int (8 : Int32)), (.int va)])) t → Steps p.tables e below (s₁.setTop (entryFrame m #[(.long q1), (.long q2), (.int p3), (.int p4)] maxLocals)) t := by
    intro t k
    refine R19 t ?_
    show Steps p.tables e below (T19.setTop (mkF m 91 #[.val (.long q1), .second, .val (.long q2), .second, .val (.int p3), .val (.int p4), .val (.long xx), .second, .val (.long yy), .second, .val (.long lo), .second, .val (.long hi), .second, .val (.int va), .val (.int vb), .val (.double dlo), .second, .val (.double dhi), .second, .unset, .unset] [(.ref b15)])) _
    refine XS.astore X19.here hx rfl (hb hby at_91) rfl rfl (l' := #[.val (.long q1), .second, .val (.long q2), .second, .val (.int p3), .val (.int p4), .val (.long xx), .second, .val (.long yy), .second, .val (.long lo), .second, .val (.long hi), .second, .val (.int va), .val (.int vb), .val (.double dlo), .second, .val (.double dhi), .second, .val (.ref b15), .unset]) rfl ?_
    show Steps p.tables e below (T19.setTop (mkF m 93 #[.val (.long q1), .second, .val (.long q2), .second, .val (.int p3), .val (.int p4), .val (.long xx), .second, .val (.long yy), .second, .val (.long lo), .second, .val (.long hi), .second, .val (.int va), .val (.int vb), .val (.double dlo), .second, .val (.double dhi), .second, .val (.ref b15), .unset] [])) _
    refine XS.iload X19.here hx rfl (hb hby at_93) rfl ?_
    show Steps p.tables e below (T19.setTop (mkF m 95 #[.val (.long q1), .second, .val (.long q2), .second, .val (.int p3), .val (.int p4), .val (.long xx), .second, .val (.long yy), .second, .val (.long lo), .second, .val (.long hi), .second, .val (.int va), .val (.int vb), .val (.double dlo), .second, .val (.double dhi), .second, .val (.ref b15), .unset] [(.int va)])) _
    refine XS.bipush X19.here hx rfl (hb hby at_95) ?_
    exact k
  by_cases hc : va < (8 : Int32)
  · have R22 : ∀ t, Steps p.tables e below (T19.setTop (mkF m 109 #[.val (.long q1), .second, .val (.long q2), .second, .val (.int p3), .val (.int p4), .val (.long xx), .second, .val (.long yy), .second, .val (.long lo), .second, .val (.long hi), .second, .val (.int va), .val (.int vb), .val (.double dlo), .second, .val (.double dhi), .second, .val (.ref b15), .val (.int (1 : Int32))] [(.ref b15)])) t → Steps p.tables e below (s₁.setTop (entryFrame m #[(.long q1), (.long q2), (.int p3), (.int p4)] maxLocals)) t := by
      intro t k
      refine R21 t ?_
      show Steps p.tables e below (T19.setTop (mkF m 97 #[.val (.long q1), .second, .val (.long q2), .second, .val (.int p3), .val (.int p4), .val (.long xx), .second, .val (.long yy), .second, .val (.long lo), .second, .val (.long hi), .second, .val (.int va), .val (.int vb), .val (.double dlo), .second, .val (.double dhi), .second, .val (.ref b15), .unset] [(.int (8 : Int32)), (.int va)])) _
      refine XS.icmpNo X19.here hx rfl (hb hby at_97) rfl (tlt hc).2.1 ?_
      show Steps p.tables e below (T19.setTop (mkF m 100 #[.val (.long q1), .second, .val (.long q2), .second, .val (.int p3), .val (.int p4), .val (.long xx), .second, .val (.long yy), .second, .val (.long lo), .second, .val (.long hi), .second, .val (.int va), .val (.int vb), .val (.double dlo), .second, .val (.double dhi), .second, .val (.ref b15), .unset] [])) _
      refine XS.iconst X19.here hx rfl (hb hby at_100) ?_
      show Steps p.tables e below (T19.setTop (mkF m 101 #[.val (.long q1), .second, .val (.long q2), .second, .val (.int p3), .val (.int p4), .val (.long xx), .second, .val (.long yy), .second, .val (.long lo), .second, .val (.long hi), .second, .val (.int va), .val (.int vb), .val (.double dlo), .second, .val (.double dhi), .second, .val (.ref b15), .unset] [(.int (1 : Int32))])) _
      refine XS.goto X19.here hx rfl (pc0 := 101) (pc' := 105) rfl (hb hby at_101) (by decide) (by decide) ?_
      show Steps p.tables e below (T19.setTop (mkF m 105 #[.val (.long q1), .second, .val (.long q2), .second, .val (.int p3), .val (.int p4), .val (.long xx), .second, .val (.long yy), .second, .val (.long lo), .second, .val (.long hi), .second, .val (.int va), .val (.int vb), .val (.double dlo), .second, .val (.double dhi), .second, .val (.ref b15), .unset] [(.int (1 : Int32))])) _
      refine XS.istore X19.here hx rfl (hb hby at_105) rfl (l' := #[.val (.long q1), .second, .val (.long q2), .second, .val (.int p3), .val (.int p4), .val (.long xx), .second, .val (.long yy), .second, .val (.long lo), .second, .val (.long hi), .second, .val (.int va), .val (.int vb), .val (.double dlo), .second, .val (.double dhi), .second, .val (.ref b15), .val (.int (1 : Int32))]) rfl ?_
      show Steps p.tables e below (T19.setTop (mkF m 107 #[.val (.long q1), .second, .val (.long q2), .second, .val (.int p3), .val (.int p4), .val (.long xx), .second, .val (.long yy), .second, .val (.long lo), .second, .val (.long hi), .second, .val (.int va), .val (.int vb), .val (.double dlo), .second, .val (.double dhi), .second, .val (.ref b15), .val (.int (1 : Int32))] [])) _
      refine XS.aload X19.here hx rfl (hb hby at_107) rfl rfl ?_
      exact k
    obtain ⟨cq23, kq23, q23a, q23b, q23c⟩ := isOf hZ rfl f20
    obtain ⟨_, _, ⟨T23, L23, k23, n23⟩, -, X23, ⟨Lc23, hQ23, l23, y23, z23⟩, st23⟩ := X19.virtualBack hx (y := (⟨"com/example/trunkwright/trunkwright/random/FlatModel", "drawsPairLimits", "()Z"⟩ : MethodName)) (z := (⟨"com/example/trunkwright/trunkwright/random/FlatModel", "drawsPairLimits", "()Z"⟩ : MethodName)) hown (mvT hZ (hw _ (List.mem_of_getElem? (i := 32) rfl))) (mvT hZ (hw _ (List.mem_of_getElem? (i := 33) rfl))) (notFace_of_selects (args := #[]) (mvT hZ (hw _ (List.mem_of_getElem? (i := 35) rfl)))) (mvT hZ (hw _ (List.mem_of_getElem? (i := 35) rfl))) (mvT hZ (hw _ (List.mem_of_getElem? (i := 34) rfl))) (by decide) (backOf (W := 0) (rmD1 l Z a0 hw [] b15 dlo dhi T19.heap n0 Z19 Fc19 Fd19 (c6 hc)) hZ (hw _ (List.mem_of_getElem? (i := 36) rfl)) (hw _ (List.mem_of_getElem? (i := 12) rfl)) (by decide) (by decide)) q23a q23c (g := (mkF m 109 #[.val (.long q1), .second, .val (.long q2), .second, .val (.int p3), .val (.int p4), .val (.long xx), .second, .val (.long yy), .second, .val (.long lo), .second, .val (.long hi), .second, .val (.int va), .val (.int vb), .val (.double dlo), .second, .val (.double dhi), .second, .val (.ref b15), .val (.int (1 : Int32))] [(.ref b15)])) rfl (by rw [hml]; rfl) (Steps.refl _) (argsL := []) (rest := []) (lenOf own_pd3 rfl) rfl (by show 2 * 0 + _ ≤ _; exact Nat.le_of_eq rfl) (hb hby at_109) (fun _ _ => ⟨rfl, rfl, (by decide : 1 + 0 ≤ _), (by decide : 4 + 0 ≤ _)⟩)
    dsimp only [Pt.U, Pt.locs, Pt.cells, Pt.slots] at X23 l23 y23 z23 st23 hQ23
    subst l23 y23 z23
    obtain ⟨rfl, Nq23, eq23⟩ := hQ23
    have N23 := Fr.app N19 Nq23
    have R23 : ∀ t, Steps p.tables e below (T23.setTop (mkF m 112 #[.val (.long q1), .second, .val (.long q2), .second, .val (.int p3), .val (.int p4), .val (.long xx), .second, .val (.long yy), .second, .val (.long lo), .second, .val (.long hi), .second, .val (.int va), .val (.int vb), .val (.double dlo), .second, .val (.double dhi), .second, .val (.ref b15), .val (.int (1 : Int32))] [(.int (1 : Int32))])) t → Steps p.tables e below (s₁.setTop (entryFrame m #[(.long q1), (.long q2), (.int p3), (.int p4)] maxLocals)) t := fun t k => R22 t (st23.trans k)
    have R24 : ∀ t, Steps p.tables e below (T23.setTop (mkF m 122 #[.val (.long q1), .second, .val (.long q2), .second, .val (.int p3), .val (.int p4), .val (.long xx), .second, .val (.long yy), .second, .val (.long lo), .second, .val (.long hi), .second, .val (.int va), .val (.int vb), .val (.double dlo), .second, .val (.double dhi), .second, .val (.ref b15), .val (.int (1 : Int32))] [(.int (1 : Int32))])) t → Steps p.tables e below (s₁.setTop (entryFrame m #[(.long q1), (.long q2), (.int p3), (.int p4)] maxLocals)) t := by
      intro t k
      refine R23 t ?_
      show Steps p.tables e below (T23.setTop (mkF m 112 #[.val (.long q1), .second, .val (.long q2), .second, .val (.int p3), .val (.int p4), .val (.long xx), .second, .val (.long yy), .second, .val (.long lo), .second, .val (.long hi), .second, .val (.int va), .val (.int vb), .val (.double dlo), .second, .val (.double dhi), .second, .val (.ref b15), .val (.int (1 : Int32))] [(.int (1 : Int32))])) _
      refine XS.iload X23.here hx rfl (hb hby at_112) rfl ?_
      show Steps p.tables e below (T23.setTop (mkF m 114 #[.val (.long q1), .second, .val (.long q2), .second, .val (.int p3), .val (.int p4), .val (.long xx), .second, .val (.long yy), .second, .val (.long lo), .second, .val (.long hi), .second, .val (.int va), .val (.int vb), .val (.double dlo), .second, .val (.double dhi), .second, .val (.ref b15), .val (.int (1 : Int32))] [(.int (1 : Int32)), (.int (1 : Int32))])) _
      refine XS.icmpNo X23.here hx rfl (hb hby at_114) rfl (teq (by decide : ((1 : Int32) = (1 : Int32)))).2 ?_
      show Steps p.tables e below (T23.setTop (mkF m 117 #[.val (.long q1), .second, .val (.long q2), .second, .val (.int p3), .val (.int p4), .val (.long xx), .second, .val (.long yy), .second, .val (.long lo), .second, .val (.long hi), .second, .val (.int va), .val (.int vb), .val (.double dlo), .second, .val (.double dhi), .second, .val (.ref b15), .val (.int (1 : Int32))] [])) _
      refine XS.iconst X23.here hx rfl (hb hby at_117) ?_
      show Steps p.tables e below (T23.setTop (mkF m 118 #[.val (.long q1), .second, .val (.long q2), .second, .val (.int p3), .val (.int p4), .val (.long xx), .second, .val (.long yy), .second, .val (.long lo), .second, .val (.long hi), .second, .val (.int va), .val (.int vb), .val (.double dlo), .second, .val (.double dhi), .second, .val (.ref b15), .val (.int (1 : Int32))] [(.int (1 : Int32))])) _
      refine XS.goto X23.here hx rfl (pc0 := 118) (pc' := 122) rfl (hb hby at_118) (by decide) (by decide) ?_
      exact k
    obtain ⟨fs, hr, hrun, hended, hW, hsame⟩ := X23.leave (v := some (.int (1 : Int32))) (fun h => by rw [Bd.returns] at h; cases h)
    refine ⟨_, _, R24 _ ?_, hrun, hended, _, _, rfl, ?_, ⟨_, rfl⟩, hW, hsame.mono (by decide) (by decide)⟩
    · exact retN X23 hx (t := .boolean) Bd.returns (by simp) (hb hby at_122) hr
    · show Q_rm0 Z q1 q2 p3 p4 h0 n0 _ T23.heap _
      rw [eq23]
      exact ⟨rfl, N23⟩
  · have R25 : ∀ t, Steps p.tables e below (T19.setTop (mkF m 109 #[.val (.long q1), .second, .val (.long q2), .second, .val (.int p3), .val (.int p4), .val (.long xx), .second, .val (.long yy), .second, .val (.long lo), .second, .val (.long hi), .second, .val (.int va), .val (.int vb), .val (.double dlo), .second, .val (.double dhi), .second, .val (.ref b15), .val (.int (0 : Int32))] [(.ref b15)])) t → Steps p.tables e below (s₁.setTop (entryFrame m #[(.long q1), (.long q2), (.int p3), (.int p4)] maxLocals)) t := by
      intro t k
      refine R21 t ?_
      show Steps p.tables e below (T19.setTop (mkF m 97 #[.val (.long q1), .second, .val (.long q2), .second, .val (.int p3), .val (.int p4), .val (.long xx), .second, .val (.long yy), .second, .val (.long lo), .second, .val (.long hi), .second, .val (.int va), .val (.int vb), .val (.double dlo), .second, .val (.double dhi), .second, .val (.ref b15), .unset] [(.int (8 : Int32)), (.int va)])) _
      refine XS.icmpYes X19.here hx rfl (pc0 := 97) (pc' := 104) rfl (hb hby at_97) rfl (flt hc).2.1 (by decide) (by decide) ?_
      show Steps p.tables e below (T19.setTop (mkF m 104 #[.val (.long q1), .second, .val (.long q2), .second, .val (.int p3), .val (.int p4), .val (.long xx), .second, .val (.long yy), .second, .val (.long lo), .second, .val (.long hi), .second, .val (.int va), .val (.int vb), .val (.double dlo), .second, .val (.double dhi), .second, .val (.ref b15), .unset] [])) _
      refine XS.iconst X19.here hx rfl (hb hby at_104) ?_
      show Steps p.tables e below (T19.setTop (mkF m 105 #[.val (.long q1), .second, .val (.long q2), .second, .val (.int p3), .val (.int p4), .val (.long xx), .second, .val (.long yy), .second, .val (.long lo), .second, .val (.long hi), .second, .val (.int va), .val (.int vb), .val (.double dlo), .second, .val (.double dhi), .second, .val (.ref b15), .unset] [(.int (0 : Int32))])) _
      refine XS.istore X19.here hx rfl (hb hby at_105) rfl (l' := #[.val (.long q1), .second, .val (.long q2), .second, .val (.int p3), .val (.int p4), .val (.long xx), .second, .val (.long yy), .second, .val (.long lo), .second, .val (.long hi), .second, .val (.int va), .val (.int vb), .val (.double dlo), .second, .val (.double dhi), .second, .val (.ref b15), .val (.int (0 : Int32))]) rfl ?_
      show Steps p.tables e below (T19.setTop (mkF m 107 #[.val (.long q1), .second, .val (.long q2), .second, .val (.int p3), .val (.int p4), .val (.long xx), .second, .val (.long yy), .second, .val (.long lo), .second, .val (.long hi), .second, .val (.int va), .val (.int vb), .val (.double dlo), .second, .val (.double dhi), .second, .val (.ref b15), .val (.int (0 : Int32))] [])) _
      refine XS.aload X19.here hx rfl (hb hby at_107) rfl rfl ?_
      exact k
    obtain ⟨cq26, kq26, q26a, q26b, q26c⟩ := isOf hZ rfl f20
    obtain ⟨_, _, ⟨T26, L26, k26, n26⟩, -, X26, ⟨Lc26, hQ26, l26, y26, z26⟩, st26⟩ := X19.virtualBack hx (y := (⟨"com/example/trunkwright/trunkwright/random/FlatModel", "drawsPairLimits", "()Z"⟩ : MethodName)) (z := (⟨"com/example/trunkwright/trunkwright/random/FlatModel", "drawsPairLimits", "()Z"⟩ : MethodName)) hown (mvT hZ (hw _ (List.mem_of_getElem? (i := 32) rfl))) (mvT hZ (hw _ (List.mem_of_getElem? (i := 33) rfl))) (notFace_of_selects (args := #[]) (mvT hZ (hw _ (List.mem_of_getElem? (i := 35) rfl)))) (mvT hZ (hw _ (List.mem_of_getElem? (i := 35) rfl))) (mvT hZ (hw _ (List.mem_of_getElem? (i := 34) rfl))) (by decide) (backOf (W := 0) (rmD0 l Z a0 hw [] b15 dlo dhi T19.heap n0 Z19 Fc19 Fd19 (c7 hc).1 (c7 hc).2) hZ (hw _ (List.mem_of_getElem? (i := 36) rfl)) (hw _ (List.mem_of_getElem? (i := 12) rfl)) (by decide) (by decide)) q26a q26c (g := (mkF m 109 #[.val (.long q1), .second, .val (.long q2), .second, .val (.int p3), .val (.int p4), .val (.long xx), .second, .val (.long yy), .second, .val (.long lo), .second, .val (.long hi), .second, .val (.int va), .val (.int vb), .val (.double dlo), .second, .val (.double dhi), .second, .val (.ref b15), .val (.int (0 : Int32))] [(.ref b15)])) rfl (by rw [hml]; rfl) (Steps.refl _) (argsL := []) (rest := []) (lenOf own_pd3 rfl) rfl (by show 2 * 0 + _ ≤ _; exact Nat.le_of_eq rfl) (hb hby at_109) (fun _ _ => ⟨rfl, rfl, (by decide : 1 + 0 ≤ _), (by decide : 4 + 0 ≤ _)⟩)
    dsimp only [Pt.U, Pt.locs, Pt.cells, Pt.slots] at X26 l26 y26 z26 st26 hQ26
    subst l26 y26 z26
    obtain ⟨rfl, Nq26, eq26⟩ := hQ26
    have N26 := Fr.app N19 Nq26
    have R26 : ∀ t, Steps p.tables e below (T26.setTop (mkF m 112 #[.val (.long q1), .second, .val (.long q2), .second, .val (.int p3), .val (.int p4), .val (.long xx), .second, .val (.long yy), .second, .val (.long lo), .second, .val (.long hi), .second, .val (.int va), .val (.int vb), .val (.double dlo), .second, .val (.double dhi), .second, .val (.ref b15), .val (.int (0 : Int32))] [(.int (0 : Int32))])) t → Steps p.tables e below (s₁.setTop (entryFrame m #[(.long q1), (.long q2), (.int p3), (.int p4)] maxLocals)) t := fun t k => R25 t (st26.trans k)
    have R27 : ∀ t, Steps p.tables e below (T26.setTop (mkF m 122 #[.val (.long q1), .second, .val (.long q2), .second, .val (.int p3), .val (.int p4), .val (.long xx), .second, .val (.long yy), .second, .val (.long lo), .second, .val (.long hi), .second, .val (.int va), .val (.int vb), .val (.double dlo), .second, .val (.double dhi), .second, .val (.ref b15), .val (.int (0 : Int32))] [(.int (1 : Int32))])) t → Steps p.tables e below (s₁.setTop (entryFrame m #[(.long q1), (.long q2), (.int p3), (.int p4)] maxLocals)) t := by
      intro t k
      refine R26 t ?_
      show Steps p.tables e below (T26.setTop (mkF m 112 #[.val (.long q1), .second, .val (.long q2), .second, .val (.int p3), .val (.int p4), .val (.long xx), .second, .val (.long yy), .second, .val (.long lo), .second, .val (.long hi), .second, .val (.int va), .val (.int vb), .val (.double dlo), .second, .val (.double dhi), .second, .val (.ref b15), .val (.int (0 : Int32))] [(.int (0 : Int32))])) _
      refine XS.iload X26.here hx rfl (hb hby at_112) rfl ?_
      show Steps p.tables e below (T26.setTop (mkF m 114 #[.val (.long q1), .second, .val (.long q2), .second, .val (.int p3), .val (.int p4), .val (.long xx), .second, .val (.long yy), .second, .val (.long lo), .second, .val (.long hi), .second, .val (.int va), .val (.int vb), .val (.double dlo), .second, .val (.double dhi), .second, .val (.ref b15), .val (.int (0 : Int32))] [(.int (0 : Int32)), (.int (0 : Int32))])) _
      refine XS.icmpNo X26.here hx rfl (hb hby at_114) rfl (teq (by decide : ((0 : Int32) = (0 : Int32)))).2 ?_
      show Steps p.tables e below (T26.setTop (mkF m 117 #[.val (.long q1), .second, .val (.long q2), .second, .val (.int p3), .val (.int p4), .val (.long xx), .second, .val (.long yy), .second, .val (.long lo), .second, .val (.long hi), .second, .val (.int va), .val (.int vb), .val (.double dlo), .second, .val (.double dhi), .second, .val (.ref b15), .val (.int (0 : Int32))] [])) _
      refine XS.iconst X26.here hx rfl (hb hby at_117) ?_
      show Steps p.tables e below (T26.setTop (mkF m 118 #[.val (.long q1), .second, .val (.long q2), .second, .val (.int p3), .val (.int p4), .val (.long xx), .second, .val (.long yy), .second, .val (.long lo), .second, .val (.long hi), .second, .val (.int va), .val (.int vb), .val (.double dlo), .second, .val (.double dhi), .second, .val (.ref b15), .val (.int (0 : Int32))] [(.int (1 : Int32))])) _
      refine XS.goto X26.here hx rfl (pc0 := 118) (pc' := 122) rfl (hb hby at_118) (by decide) (by decide) ?_
      exact k
    obtain ⟨fs, hr, hrun, hended, hW, hsame⟩ := X26.leave (v := some (.int (1 : Int32))) (fun h => by rw [Bd.returns] at h; cases h)
    refine ⟨_, _, R27 _ ?_, hrun, hended, _, _, rfl, ?_, ⟨_, rfl⟩, hW, hsame.mono (by decide) (by decide)⟩
    · exact retN X26 hx (t := .boolean) Bd.returns (by simp) (hb hby at_122) hr
    · show Q_rm0 Z q1 q2 p3 p4 h0 n0 _ T26.heap _
      rw [eq26]
      exact ⟨rfl, N26⟩
set_option maxRecDepth 65536 in
set_option maxHeartbeats 40000000 in
theorem comes_1 {Post : Tables → Env → Array Value → State → Outcome → State → Prop} (hpost : ∀ tb e args s v u, (limb_1_1.after args s (.returned v) u = true ∧ limb_1_2.after args s (.returned v) u = true ∧ True) → FrameEnd s (.returned v) u (Jvm.fieldLocs frame_1_writes args s ++ Jvm.arrayLocs frame_1_arrays args s ++ Jvm.staticLocs frame_1_statics s) 16 128 → Post tb e args s (.returned v) u) :
    ArmFor flags0 classFile x code maxLocals ret World_1 tables_1 room_1 Calls_1 rest_1 Pre_1 Post := by
  intro l hfl _ _ p e ha hc hk s m args below hf hA hF happ hP
  obtain ⟨hcalls, hrest, hpre⟩ := hP
  obtain ⟨-, -, -, hnamed, -, -, -, hat⟩ := (Spec.applies_iff hf).mp happ
  obtain ⟨hg, hn⟩ := and_e (Cond.before_iff.mp (show (Jvm.Cond.and given_1 narrow_1).before args s = true from hpre))
  obtain ⟨g1, g2⟩ := and_e hg
  obtain ⟨g3, g4⟩ := and_e g2
  obtain ⟨g5, g6⟩ := and_e g4
  obtain ⟨g7, g8⟩ := and_e g6
  obtain ⟨w0, w1, w2, w3, rfl⟩ : ∃ w0 w1 w2 w3 : Value, args = #[w0, w1, w2, w3] := by
    have hs : args.size = 4 := by simpa [Cond.value, given_1] using g1
    obtain ⟨L⟩ := args
    match L, hs with
    | [w0, w1, w2, w3], _ => exact ⟨w0, w1, w2, w3, rfl⟩
  have hw := fun d (hd : d ∈ tables_1) => atoms_spec (ws := Jvm.Cond.code x code maxLocals ret :: tables_1) hat d (List.mem_cons_of_mem _ hd)
  have hfit : Fit s := fun {y c} hc i hi => by
    obtain ⟨ha, rfl⟩ := Array.getElem?_eq_some_iff.mp hc
    have q := List.all_eq_true.mp ((Array.all_eq_true_iff_forall_mem.mp hF) _ (Array.getElem_mem ha)) i (List.mem_range.mpr hi)
    simpa [Array.getElem?_eq_getElem hi] using q
  obtain ⟨i0, ei0⟩ := isL_v g3
  obtain rfl : w0 = (.long i0) := Option.some.inj ei0
  obtain ⟨i1, ei1⟩ := isL_v g5
  obtain rfl : w1 = (.long i1) := Option.some.inj ei1
  obtain ⟨i2, ei2⟩ := is_v g7
  obtain rfl : w2 = (.int i2) := Option.some.inj ei2
  obtain ⟨i3, ei3⟩ := is_v g8
  obtain rfl : w3 = (.int i3) := Option.some.inj ei3
  obtain ⟨n, o, h1, h2, h3, _, L, rfl, ⟨rfl, N⟩, hq⟩ := rm0 l s _ hw tables_1 i0 i1 i2 i3  s.heap s.heap.size (Nat.le_refl _)  p e ha hc hk s m _ below hf ((Spec.applies_iff_loose hf).mp happ).1 ⟨rfl, State.Warmed39.refl s, rfl⟩ trivial
  refine ⟨n, _, h1, h2, h3, hpost _ _ _ _ _ _ ⟨Cond.after_iff.mpr rfl, Cond.after_iff.mpr (eq_i res_at (Term.int_eval (1)) rfl), trivial⟩ ⟨hq.1, hq.2.1, (hq.2.2.sift fun y hy => Or.inr (N y hy)).mono (by decide) (by decide)⟩⟩
theorem main_1_1 : Claimed_1_1 := comes_1 fun _ _ _ _ _ _ h hF => ⟨h.1, hF⟩
theorem main_1_2 : Claimed_1_2 := comes_1 fun _ _ _ _ _ _ h hF => ⟨h.2.1, hF⟩
end Jvm.Pilot.@@N@@
namespace Jvm.Pilot.@@N@@
open Jvm Jvm.ClassFile Sem Op Lib Jvm.Free Jvm.Stand Jvm.Pilot.@@N@@.Jvm.D
/-! MADE BY PROGRAM (witnessworld.py) out of the Statement's table words and the real class files: 11 classes; the members and pool entries that the words name. The judged class is class 1, her method 1. -/
namespace start1
open Jvm.ClassFile
def u (s : String) : CpInfo := .utf8 (stringToUtf16 s)
/-- a pool by its gaps: so many unusable entries, then the entry; so many at the end -/
def gap : Nat → List CpInfo → List CpInfo
  | 0, r => r
  | n + 1, r => .unusable :: gap n r
def poolList (es : List (Nat × CpInfo)) (last : Nat) : List CpInfo := es.foldr (fun e r => gap e.1 (e.2 :: r)) (gap last [])
def pool (es : List (Nat × CpInfo)) (last : Nat) : Array CpInfo := ⟨poolList es last⟩
def fileOf (pool : Array CpInfo) (this : Nat) (attrs : Array Attribute := #[]) (ms : Array MethodInfo := #[]) (fl : Nat := 33) (sup : Nat := 0) (ifs : Array Nat := #[]) (fds : Array FieldInfo := #[]) : ClassFile where
  minorVersion := 0
  majorVersion := 65
  constantPool := pool
  accessFlags := fl
  thisClass := this
  superClass := sup
  interfaces := ifs
  fields := fds
  methods := ms
  attributes := attrs
def plain (name : String) (sup : Option ClassId) : Class where
  name := name
  kind := .ordinary
  loader := none
  accessFlags := 33
  super := sup
  interfaces := #[]
  cf := none
  fields := #[]
  methods := #[]
  instanceTypes := #[]
  staticTypes := #[]
  resolved := #[]
  callSites := []
  init := .initialized
  statics := none
  mirror := none

def pool0 : Array CpInfo := pool [(5, u "<init>"), (0, u "()V"), (1, .class_ 10), (1, u "java/lang/Object")] 113

def k0c0 : Code := { maxStack := 0, maxLocals := 1, code := object_method_1_code, exceptionTable := #[], attributes := #[] }
def k0m0 : Method := { name := "<init>", desc := "()V", sig := { parameters := [], returnType := none }, accessFlags := 1, code := some k0c0 }
/-- java/lang/Object -/
def k0 : Class := { plain "java/lang/Object" none with
  accessFlags := 33
  interfaces := #[]
  cf := some (fileOf pool0 8 #[] #[{ accessFlags := 1, nameIndex := 5, descriptorIndex := 6, attributes := #[] }] 33 0 #[] #[])
  fields := #[]
  methods := #[k0m0]
  instanceTypes := #[]
  staticTypes := #[]
  resolved := Array.replicate 124 none
  statics := none }

def pool1 : Array CpInfo := pool [(2, .class_ 4), (1, u "java/lang/Object"), (0, u "<init>"), (0, u "()V"), (2, .long 9223372036854775807), (1, .methodref 12 13), (0, .class_ 14), (0, .nameAndType 15 16), (0, u "java/lang/Math"), (0, u "min"), (0, u "(JJ)J"), (0, .methodref 12 18), (0, .nameAndType 19 16), (0, u "max"), (0, .integer 2147483647), (0, .double 4620693217682128896), (1, .class_ 24), (0, u "com/example/trunkwright/trunkwright/random/FlatModel"), (0, .methodref 23 26), (0, .nameAndType 5 27), (0, u "(JJDD)V"), (0, .methodref 23 29), (0, .nameAndType 30 31), (0, u "drawsPairLimits"), (0, u "()Z"), (0, .class_ 33), (0, u "com/example/trunkwright/trunkwright/random/FlatModelDrawsPairLimitsPinLaw"), (2, u "law"), (0, u "(JJII)Z")] 3

def k1m0 : Method := { name := "<init>", desc := "()V", sig := { parameters := [], returnType := none }, accessFlags := 1, code := none }
def k1c1 : Code := { maxStack := 10, maxLocals := 22, code := code, exceptionTable := #[], attributes := #[] }
def k1m1 : Method := { name := "law", desc := "(JJII)Z", sig := { parameters := [.long, .long, .int, .int], returnType := some .boolean }, accessFlags := 9, code := some k1c1 }
/-- com/example/trunkwright/trunkwright/random/FlatModelDrawsPairLimitsPinLaw -/
def k1 : Class := { plain "com/example/trunkwright/trunkwright/random/FlatModelDrawsPairLimitsPinLaw" (some 0) with
  accessFlags := 49
  interfaces := #[]
  cf := some (fileOf pool1 32 #[] #[{ accessFlags := 1, nameIndex := 5, descriptorIndex := 6, attributes := #[] }, { accessFlags := 9, nameIndex := 36, descriptorIndex := 37, attributes := #[] }] 49 2 #[] #[])
  fields := #[]
  methods := #[k1m0, k1m1]
  instanceTypes := #[]
  staticTypes := #[]
  resolved := Array.replicate 41 none
  statics := none }

def pool2 : Array CpInfo := pool [(1, .class_ 2), (0, u "java/lang/Math"), (1, .class_ 6), (1, u "java/lang/Object"), (0, u "<init>"), (0, u "()V"), (89, .class_ 100), (1, u "java/lang/Math$RandomNumberGeneratorHolder"), (20, u "(JJ)J"), (50, u "negativeZeroFloatBits"), (0, u "J"), (2, u "negativeZeroDoubleBits"), (21, u "max"), (2, u "min"), (43, u "$assertionsDisabled"), (0, u "Z"), (91, u "twoToTheDoubleScaleDown"), (0, u "D"), (4, u "twoToTheDoubleScaleUp"), (9, u "E"), (3, u "PI"), (2, u "TAU"), (2, u "DEGREES_TO_RADIANS"), (0, u "RADIANS_TO_DEGREES")] 94

def k2m0 : Method := { name := "<init>", desc := "()V", sig := { parameters := [], returnType := none }, accessFlags := 2, code := none }
def k2c1 : Code := { maxStack := 4, maxLocals := 4, code := jdk_29_method_66_code, exceptionTable := #[], attributes := #[] }
def k2m1 : Method := { name := "max", desc := "(JJ)J", sig := { parameters := [.long, .long], returnType := some .long }, accessFlags := 9, code := some k2c1 }
def k2c2 : Code := { maxStack := 4, maxLocals := 4, code := jdk_29_method_70_code, exceptionTable := #[], attributes := #[] }
def k2m2 : Method := { name := "min", desc := "(JJ)J", sig := { parameters := [.long, .long], returnType := some .long }, accessFlags := 9, code := some k2c2 }
/-- java/lang/Math -/
def k2 : Class := { plain "java/lang/Math" (some 0) with
  accessFlags := 49
  interfaces := #[]
  cf := some (fileOf pool2 1 #[.nestMembers #[98]] #[{ accessFlags := 2, nameIndex := 7, descriptorIndex := 8, attributes := #[] }, { accessFlags := 9, nameIndex := 198, descriptorIndex := 121, attributes := #[] }, { accessFlags := 9, nameIndex := 201, descriptorIndex := 121, attributes := #[] }] 49 4 #[] #[{ accessFlags := 25, nameIndex := 354, descriptorIndex := 339, attributes := #[] }, { accessFlags := 25, nameIndex := 358, descriptorIndex := 339, attributes := #[] }, { accessFlags := 25, nameIndex := 361, descriptorIndex := 339, attributes := #[] }, { accessFlags := 26, nameIndex := 364, descriptorIndex := 339, attributes := #[] }, { accessFlags := 26, nameIndex := 365, descriptorIndex := 339, attributes := #[] }, { accessFlags := 26, nameIndex := 172, descriptorIndex := 173, attributes := #[] }, { accessFlags := 26, nameIndex := 176, descriptorIndex := 173, attributes := #[] }, { accessFlags := 8, nameIndex := 344, descriptorIndex := 339, attributes := #[] }, { accessFlags := 8, nameIndex := 338, descriptorIndex := 339, attributes := #[] }, { accessFlags := 4120, nameIndex := 245, descriptorIndex := 246, attributes := #[] }])
  fields := #[{ name := "E", type := .double, accessFlags := 25, slot := 0, constantValue := 0 }, { name := "PI", type := .double, accessFlags := 25, slot := 1, constantValue := 0 }, { name := "TAU", type := .double, accessFlags := 25, slot := 2, constantValue := 0 }, { name := "DEGREES_TO_RADIANS", type := .double, accessFlags := 26, slot := 3, constantValue := 0 }, { name := "RADIANS_TO_DEGREES", type := .double, accessFlags := 26, slot := 4, constantValue := 0 }, { name := "negativeZeroFloatBits", type := .long, accessFlags := 26, slot := 5, constantValue := 0 }, { name := "negativeZeroDoubleBits", type := .long, accessFlags := 26, slot := 6, constantValue := 0 }, { name := "twoToTheDoubleScaleUp", type := .double, accessFlags := 8, slot := 7, constantValue := 0 }, { name := "twoToTheDoubleScaleDown", type := .double, accessFlags := 8, slot := 8, constantValue := 0 }, { name := "$assertionsDisabled", type := .boolean, accessFlags := 4120, slot := 9, constantValue := 0 }]
  methods := #[k2m0, k2m1, k2m2]
  instanceTypes := #[]
  staticTypes := #[.double, .double, .double, .double, .double, .long, .long, .double, .double, .boolean]
  resolved := Array.replicate 460 none
  statics := none }

def pool3 : Array CpInfo := pool [(1, .methodref 2 3), (0, .class_ 4), (0, .nameAndType 5 6), (0, u "java/lang/Object"), (0, u "<init>"), (0, u "()V"), (0, .class_ 8), (0, u "java/lang/Record")] 13

def k3c0 : Code := { maxStack := 1, maxLocals := 1, code := jdk_30_method_1_code, exceptionTable := #[], attributes := #[] }
def k3m0 : Method := { name := "<init>", desc := "()V", sig := { parameters := [], returnType := none }, accessFlags := 4, code := some k3c0 }
/-- java/lang/Record -/
def k3 : Class := { plain "java/lang/Record" (some 0) with
  accessFlags := 1057
  interfaces := #[]
  cf := some (fileOf pool3 7 #[] #[{ accessFlags := 4, nameIndex := 5, descriptorIndex := 6, attributes := #[] }] 1057 2 #[] #[])
  fields := #[]
  methods := #[k3m0]
  instanceTypes := #[]
  staticTypes := #[]
  resolved := Array.replicate 22 none
  statics := none }

def pool4 : Array CpInfo := pool [(1, .methodref 2 3), (0, .class_ 4), (0, .nameAndType 5 6), (0, u "java/lang/Record"), (0, u "<init>"), (0, u "()V"), (12, .fieldref 20 21), (0, .class_ 22), (0, .nameAndType 23 24), (0, u "com/example/trunkwright/trunkwright/random/FlatModel"), (0, u "alphaLow"), (0, u "J"), (0, .fieldref 20 26), (0, .nameAndType 27 24), (0, u "alphaHigh"), (0, .fieldref 20 29), (0, .nameAndType 30 31), (0, u "muLow"), (0, u "D"), (0, .fieldref 20 33), (0, .nameAndType 34 31), (0, u "muHigh"), (47, u "drawsPairLimits"), (0, u "()Z"), (55, u "(JJDD)V"), (2, u "STANDARD"), (0, u "Lcom/example/trunkwright/trunkwright/random/FlatModel;"), (0, u "MIN_NODES"), (0, u "I")] 51

def k4c0 : Code := { maxStack := 6, maxLocals := 9, code := prog_72_method_1_code, exceptionTable := #[], attributes := #[] }
def k4m0 : Method := { name := "<init>", desc := "(JJDD)V", sig := { parameters := [.long, .long, .double, .double], returnType := none }, accessFlags := 1, code := some k4c0 }
def k4c1 : Code := { maxStack := 4, maxLocals := 1, code := prog_72_method_2_code, exceptionTable := #[], attributes := #[] }
def k4m1 : Method := { name := "drawsPairLimits", desc := "()Z", sig := { parameters := [], returnType := some .boolean }, accessFlags := 1, code := some k4c1 }
/-- com/example/trunkwright/trunkwright/random/FlatModel -/
def k4 : Class := { plain "com/example/trunkwright/trunkwright/random/FlatModel" (some 3) with
  accessFlags := 49
  interfaces := #[]
  cf := some (fileOf pool4 20 #[] #[{ accessFlags := 1, nameIndex := 5, descriptorIndex := 139, attributes := #[] }, { accessFlags := 1, nameIndex := 82, descriptorIndex := 83, attributes := #[] }] 49 2 #[] #[{ accessFlags := 18, nameIndex := 23, descriptorIndex := 24, attributes := #[] }, { accessFlags := 18, nameIndex := 27, descriptorIndex := 24, attributes := #[] }, { accessFlags := 18, nameIndex := 30, descriptorIndex := 31, attributes := #[] }, { accessFlags := 18, nameIndex := 34, descriptorIndex := 31, attributes := #[] }, { accessFlags := 25, nameIndex := 142, descriptorIndex := 143, attributes := #[] }, { accessFlags := 25, nameIndex := 144, descriptorIndex := 145, attributes := #[] }])
  fields := #[{ name := "alphaLow", type := .long, accessFlags := 18, slot := 0, constantValue := 0 }, { name := "alphaHigh", type := .long, accessFlags := 18, slot := 1, constantValue := 0 }, { name := "muLow", type := .double, accessFlags := 18, slot := 2, constantValue := 0 }, { name := "muHigh", type := .double, accessFlags := 18, slot := 3, constantValue := 0 }, { name := "STANDARD", type := (.object "com/example/trunkwright/trunkwright/random/FlatModel"), accessFlags := 25, slot := 0, constantValue := 0 }, { name := "MIN_NODES", type := .int, accessFlags := 25, slot := 1, constantValue := 0 }]
  methods := #[k4m0, k4m1]
  instanceTypes := #[.long, .long, .double, .double]
  staticTypes := #[(.object "com/example/trunkwright/trunkwright/random/FlatModel"), .int]
  resolved := Array.replicate 197 none
  statics := none }

def pool5 : Array CpInfo := pool [(1, u "java/lang/Cloneable"), (0, .class_ 1), (0, u "java/lang/Object"), (0, .class_ 3)] 3

/-- java/lang/Cloneable -/
def k5 : Class := { plain "java/lang/Cloneable" (some 0) with
  accessFlags := 1537
  interfaces := #[]
  cf := some (fileOf pool5 2 #[] #[] 1537 4 #[] #[])
  fields := #[]
  methods := #[]
  instanceTypes := #[]
  staticTypes := #[]
  resolved := Array.replicate 8 none
  statics := none }

def pool6 : Array CpInfo := pool [(1, u "java/io/Serializable"), (0, .class_ 1), (0, u "java/lang/Object"), (0, .class_ 3)] 3

/-- java/io/Serializable -/
def k6 : Class := { plain "java/io/Serializable" (some 0) with
  accessFlags := 1537
  interfaces := #[]
  cf := some (fileOf pool6 2 #[] #[] 1537 4 #[] #[])
  fields := #[]
  methods := #[]
  instanceTypes := #[]
  staticTypes := #[]
  resolved := Array.replicate 8 none
  statics := none }

/-- the primitive byte -/
def k7 : Class := { plain "byte" none with kind := .primitive 'B', accessFlags := 0x411 }
/-- [B -/
def k8 : Class := { plain "[B" (some 0) with kind := .array 7 .byte, interfaces := #[5, 6], accessFlags := 1041 }

/-- the primitive int -/
def k9 : Class := { plain "int" none with kind := .primitive 'I', accessFlags := 0x411 }
/-- [I -/
def k10 : Class := { plain "[I" (some 0) with kind := .array 9 .int, interfaces := #[5, 6], accessFlags := 1041 }

def heap : Heap := #[]
def classes : Array Class := #[k0, k1, k2, k3, k4, k5, k6, k7, k8, k9, k10]
def interned : List (Array UInt16 × Addr) := []
def slotsUsed : Nat := 0
def theMethod : MethodId := ⟨1, 1⟩
def args0 : Array Value := #[.long 3, .long 120, .int 1, .int 5]
def aboutOver (below : List Frame) : State where
  vm := { classes := classes, interned := interned.toArray }
  heap := heap
  slotsUsed := slotsUsed
  threads := #[{ frames := .invoking theMethod args0 :: below }]
def below0 : List Frame := [.native { method := ⟨0, 0⟩, args := #[] }]
def about1 : State := aboutOver below0
def p0 : Program := .bare "" "" ""
def e0 : Env := launch0.env 0 0 0
theorem w_frames : about1.frames = Frame.invoking theMethod args0 :: below0 := rfl
set_option maxRecDepth 65536 in
theorem w_args : argsFit about1.vm theMethod args0 = true := by decide +kernel
set_option maxRecDepth 65536 in
theorem w_heap : heapFits about1 = true := by decide +kernel
set_option maxRecDepth 65536 in
theorem w_runnable : about1.curStatus? = some .runnable := by decide +kernel
set_option maxRecDepth 65536 in
theorem w_alone : about1.alone = true := by decide +kernel
set_option maxRecDepth 65536 in
theorem w_named : about1.methodNamed? x = some theMethod := by decide +kernel
set_option maxRecDepth 65536 in
theorem w_hears : about1.hears theMethod below0 = true := by decide +kernel
set_option maxRecDepth 65536 in
theorem w_ripe : about1.ripe theMethod args0 below0 = true := by decide +kernel
theorem w_running : about1.status = .running := rfl
set_option maxRecDepth 65536 in
theorem w_room : about1.hasRoom e0.platform room_1 = true :=
  launch0.hasRoom_least _ room_1 (by decide +kernel) (by decide +kernel) (by decide +kernel) (by decide +kernel) (by decide +kernel) (by decide +kernel)
theorem allAtoms_all (ts : List Jvm.Cond) (a : Array Jvm.Value) (st : Jvm.State) : (allAtoms ts).before a st = ts.all (fun c => c.before a st) := by
  induction ts with
  | nil => rfl
  | cons c t ih =>
    show (Jvm.Cond.and c (allAtoms t)).before a st = _
    rw [Jvm.Cond.before_and, ih, List.all_cons]
def words1 : List Jvm.Cond := Jvm.Cond.code x code maxLocals ret :: tables_1
/-- a 'code' word, met by the world's own term for the bytes: nothing is compared byte by byte -/
theorem code_word {y : MethodName} {bytes : ByteArray} {mx : Nat} {rt : Option FieldType} {a : Array Value} {s : State} {m : MethodId} {meth : Method} {c : Code} (h1 : s.methodNamed? y = some m) (h2 : s.vm.method? m = some meth) (h3 : meth.code = some c) (h4 : c.code = bytes)
    (h5 : (c.maxLocals == mx && c.exceptionTable.isEmpty && decide (c.maxStack ≤ mostOperands) && decide (meth.sig.returnType = rt) && !meth.locks && decide (parseMethodDescriptor y.desc = some meth.sig)) = true) : (Jvm.Cond.code y bytes mx rt).before a s = true := by
  simp only [Bool.and_eq_true, beq_iff_eq, Bool.not_eq_true', decide_eq_true_eq] at h5
  obtain ⟨⟨⟨⟨⟨g1, g2⟩, g3⟩, g4⟩, g5⟩, g6⟩ := h5
  simp [Cond.before, Cond.holds, Cond.value, h1, h2, h3, h4, g1, g2, g3, g4, g5, g6]
def isCode : Jvm.Cond → Bool
  | .code _ _ _ _ => true
  | _ => false
theorem all_split {L : List Jvm.Cond} {P : Jvm.Cond → Bool} (h1 : L.all (fun c => isCode c || P c) = true) (h2 : ∀ c ∈ L.filter isCode, P c = true) : L.all P = true := by
  refine List.all_eq_true.mpr fun c hc => ?_
  have h := List.all_eq_true.mp h1 c hc
  rcases Bool.eq_false_or_eq_true (isCode c) with hi | hi
  · exact h2 c (List.mem_filter.mpr ⟨hc, hi⟩)
  · simpa [hi] using h
set_option maxRecDepth 65536 in
theorem w_c0 : (Jvm.Cond.code x code maxLocals ret).before args0 about1 = true := code_word (m := ⟨1, 1⟩) (meth := k1m1) (c := k1c1) (by decide +kernel) rfl rfl rfl (by decide +kernel)
set_option maxRecDepth 65536 in
theorem w_c1 : (Jvm.Cond.code ({ cls := "java/lang/Math", name := "min", desc := "(JJ)J" } : Jvm.MethodName) jdk_29_method_70_code (4 : Nat) (Option.some Jvm.ClassFile.FieldType.long)).before args0 about1 = true := code_word (m := ⟨2, 2⟩) (meth := k2m2) (c := k2c2) (by decide +kernel) rfl rfl rfl (by decide +kernel)
set_option maxRecDepth 65536 in
theorem w_c2 : (Jvm.Cond.code ({ cls := "java/lang/Math", name := "max", desc := "(JJ)J" } : Jvm.MethodName) jdk_29_method_66_code (4 : Nat) (Option.some Jvm.ClassFile.FieldType.long)).before args0 about1 = true := code_word (m := ⟨2, 1⟩) (meth := k2m1) (c := k2c1) (by decide +kernel) rfl rfl rfl (by decide +kernel)
set_option maxRecDepth 65536 in
theorem w_c3 : (Jvm.Cond.code ({ cls := "com/example/trunkwright/trunkwright/random/FlatModel", name := "<init>", desc := "(JJDD)V" } : Jvm.MethodName) prog_72_method_1_code (9 : Nat) (Option.none : Option Jvm.ClassFile.FieldType)).before args0 about1 = true := code_word (m := ⟨4, 0⟩) (meth := k4m0) (c := k4c0) (by decide +kernel) rfl rfl rfl (by decide +kernel)
set_option maxRecDepth 65536 in
theorem w_c4 : (Jvm.Cond.code ({ cls := "java/lang/Record", name := "<init>", desc := "()V" } : Jvm.MethodName) jdk_30_method_1_code (1 : Nat) (Option.none : Option Jvm.ClassFile.FieldType)).before args0 about1 = true := code_word (m := ⟨3, 0⟩) (meth := k3m0) (c := k3c0) (by decide +kernel) rfl rfl rfl (by decide +kernel)
set_option maxRecDepth 65536 in
theorem w_c5 : (Jvm.Cond.code ({ cls := "java/lang/Object", name := "<init>", desc := "()V" } : Jvm.MethodName) object_method_1_code (1 : Nat) (Option.none : Option Jvm.ClassFile.FieldType)).before args0 about1 = true := code_word (m := ⟨0, 0⟩) (meth := k0m0) (c := k0c0) (by decide +kernel) rfl rfl rfl (by decide +kernel)
set_option maxRecDepth 65536 in
theorem w_c6 : (Jvm.Cond.code ({ cls := "com/example/trunkwright/trunkwright/random/FlatModel", name := "drawsPairLimits", desc := "()Z" } : Jvm.MethodName) prog_72_method_2_code (1 : Nat) (Option.some Jvm.ClassFile.FieldType.boolean)).before args0 about1 = true := code_word (m := ⟨4, 1⟩) (meth := k4m1) (c := k4c1) (by decide +kernel) rfl rfl rfl (by decide +kernel)
def codes1 : List Jvm.Cond := [Jvm.Cond.code x code maxLocals ret, Jvm.Cond.code ({ cls := "java/lang/Math", name := "min", desc := "(JJ)J" } : Jvm.MethodName) jdk_29_method_70_code (4 : Nat) (Option.some Jvm.ClassFile.FieldType.long), Jvm.Cond.code ({ cls := "java/lang/Math", name := "max", desc := "(JJ)J" } : Jvm.MethodName) jdk_29_method_66_code (4 : Nat) (Option.some Jvm.ClassFile.FieldType.long), Jvm.Cond.code ({ cls := "com/example/trunkwright/trunkwright/random/FlatModel", name := "<init>", desc := "(JJDD)V" } : Jvm.MethodName) prog_72_method_1_code (9 : Nat) (Option.none : Option Jvm.ClassFile.FieldType), Jvm.Cond.code ({ cls := "java/lang/Record", name := "<init>", desc := "()V" } : Jvm.MethodName) jdk_30_method_1_code (1 : Nat) (Option.none : Option Jvm.ClassFile.FieldType), Jvm.Cond.code ({ cls := "java/lang/Object", name := "<init>", desc := "()V" } : Jvm.MethodName) object_method_1_code (1 : Nat) (Option.none : Option Jvm.ClassFile.FieldType), Jvm.Cond.code ({ cls := "com/example/trunkwright/trunkwright/random/FlatModel", name := "drawsPairLimits", desc := "()Z" } : Jvm.MethodName) prog_72_method_2_code (1 : Nat) (Option.some Jvm.ClassFile.FieldType.boolean)]
set_option maxRecDepth 65536 in
theorem codes_eq : words1.filter isCode = codes1 := rfl
theorem w_codes : ∀ c ∈ words1.filter isCode, c.before args0 about1 = true := by
  rw [codes_eq]
  intro c hc
  simp only [codes1, List.mem_cons, List.not_mem_nil, or_false] at hc
  rcases hc with rfl | rfl | rfl | rfl | rfl | rfl | rfl
  · exact w_c0
  · exact w_c1
  · exact w_c2
  · exact w_c3
  · exact w_c4
  · exact w_c5
  · exact w_c6
set_option maxRecDepth 65536 in
theorem w_t1 : (words1.take 24).all (fun c => isCode c || c.before args0 about1) = true := by decide +kernel
set_option maxRecDepth 65536 in
theorem w_t2 : (words1.drop 24).all (fun c => isCode c || c.before args0 about1) = true := by decide +kernel
theorem w_tables : (allAtoms (Jvm.Cond.code x code maxLocals ret :: tables_1)).before args0 about1 = true := by
  rw [allAtoms_all]
  show words1.all (fun c => c.before args0 about1) = true
  refine all_split ?_ w_codes
  rw [← List.take_append_drop 24 words1, List.all_append, w_t1, w_t2]
  rfl
set_option maxRecDepth 65536 in
theorem w_case : (Jvm.Cond.and given_1 narrow_1).before args0 about1 = true := by decide +kernel
theorem w_applies : (headSpec (Jvm.Cond.code x code maxLocals ret :: tables_1) room_1).applies x e0.platform about1 = true :=
  (Spec.applies_iff w_frames).mpr ⟨w_running, w_runnable, w_alone, w_named, w_hears, w_ripe, w_room, w_tables⟩
theorem atStart : AtStart classFile x code maxLocals ret World_1 tables_1 room_1 Calls_1 rest_1 Pre_1 launch0 p0 e0 about1 theMethod args0 below0 :=
  ⟨lists_1, trivial, launch0.admits_env _ _ _, launch0.least_env, fairChoices_fair.cas, fairChoices_fair.clock, w_frames, w_args, w_heap, w_applies, trivial, trivial, w_case⟩
end start1
theorem witness_1 : WitnessClaimed_1 := ⟨start1.p0, start1.e0, start1.about1, start1.theMethod, start1.args0, start1.below0, start1.atStart⟩
end Jvm.Pilot.@@N@@
