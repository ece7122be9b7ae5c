import JvmDerived
import JvmDerived.Pilot.@@N@@Statement
import JvmDerived.Pilot.@@N@@Code
set_option linter.unusedVariables false
set_option linter.unusedSimpArgs false
namespace Jvm.Pilot.@@N@@
open Jvm Jvm.ClassFile Sem Op Lib Jvm.Free Jvm.Stand Jvm.LawKit Jvm.RoadKit Bundle Jvm.Pilot.@@N@@.Jvm.D
theorem own_pn0 : plainName "com/example/urd/urd/time/Scheduled" = true := by first | (simp [plainName, overriddenIn]; done) | decide +kernel
theorem own_ef_rmSI (m : MethodId) (x0 : Addr) (x1 : Int64) : entryFrame m #[(.ref x0), (.long x1)] 3 = mkF m 0 #[.val (.ref x0), .val (.long x1), .second] [] := by first | (simp [entryFrame, mkF, argsToLocals, Value.category]; done) | rfl
theorem own_d2_0 : decode prog_28_method_1_code 0 = .ok (.aload_n 0, 1) := by decide +kernel
theorem own_d2_1 : decode prog_28_method_1_code 1 = .ok (.invokespecial 1, 3) := by decide +kernel
theorem own_d2_4 : decode prog_28_method_1_code 4 = .ok (.aload_n 0, 1) := by decide +kernel
theorem own_d2_5 : decode prog_28_method_1_code 5 = .ok (.lload_n 1, 1) := by decide +kernel
theorem own_d2_6 : decode prog_28_method_1_code 6 = .ok (.putfield 7, 3) := by decide +kernel
theorem own_d2_9 : decode prog_28_method_1_code 9 = .ok (.return_, 1) := by decide +kernel
def Q_rmSI (Z : State) (a1 : Addr) (q2 : Int64)  (h0 : Heap) (n0 : Nat) (v : Option Value) (h : Heap) (L : List Loc) : Prop := v = none ∧ Fr n0 L ∧ Keep h0 h [a1] ∧ Fld Z h a1 "com/example/urd/urd/time/DeadlineQueue$Bucket" "least" "J" (.long (0 : Int64)) ∧ Fld Z h a1 "com/example/urd/urd/time/DeadlineQueue$Bucket" "greatest" "J" (.long (0 : Int64)) ∧ Fld Z h a1 "com/example/urd/urd/time/DeadlineQueue$Bucket" "start" "J" (.long (0 : Int64)) ∧ Fld Z h a1 "com/example/urd/urd/time/DeadlineQueue$Bucket" "last" "J" (.long (0 : Int64)) ∧ Fld Z h a1 "com/example/urd/urd/time/Scheduled" "previous" "Lcom/example/urd/urd/time/Scheduled;" .null ∧ Fld Z h a1 "com/example/urd/urd/time/Scheduled" "next" "Lcom/example/urd/urd/time/Scheduled;" .null ∧ Fld Z h a1 "com/example/urd/urd/time/Scheduled" "bucket" "Lcom/example/urd/urd/time/DeadlineQueue$Bucket;" .null
set_option maxRecDepth 65536 in
set_option maxHeartbeats 40000000 in
theorem rmSI (l : Launch) (Z : State) (a0 : Array Value) (hw : ∀ d ∈ tables_1, d.before a0 Z = true) (ws : List Jvm.Cond) (a1 : Addr) (q2 : Int64)  (h0 : Heap) (n0 : Nat) (Z0 : n0 ≤ h0.size) (F_deadline_a1 : Fld Z h0 a1 "com/example/urd/urd/time/Scheduled" "deadline" "J" (.long (0 : Int64))) (F_least_a1 : Fld Z h0 a1 "com/example/urd/urd/time/DeadlineQueue$Bucket" "least" "J" (.long (0 : Int64))) (F_greatest_a1 : Fld Z h0 a1 "com/example/urd/urd/time/DeadlineQueue$Bucket" "greatest" "J" (.long (0 : Int64))) (F_start_a1 : Fld Z h0 a1 "com/example/urd/urd/time/DeadlineQueue$Bucket" "start" "J" (.long (0 : Int64))) (F_last_a1 : Fld Z h0 a1 "com/example/urd/urd/time/DeadlineQueue$Bucket" "last" "J" (.long (0 : Int64))) (F_previous_a1 : Fld Z h0 a1 "com/example/urd/urd/time/Scheduled" "previous" "Lcom/example/urd/urd/time/Scheduled;" .null) (F_next_a1 : Fld Z h0 a1 "com/example/urd/urd/time/Scheduled" "next" "Lcom/example/urd/urd/time/Scheduled;" .null) (F_bucket_a1 : Fld Z h0 a1 "com/example/urd/urd/time/Scheduled" "bucket" "Lcom/example/urd/urd/time/DeadlineQueue$Bucket;" .null) (E_a1 : Exa Z h0 a1 "com/example/urd/urd/time/DeadlineQueue$Bucket") (g_a1 : n0 ≤ a1)  :
    MetFree l (⟨"com/example/urd/urd/time/Scheduled", "<init>", "(J)V"⟩ : MethodName) (head1 (Jvm.Cond.code (⟨"com/example/urd/urd/time/Scheduled", "<init>", "(J)V"⟩ : MethodName) prog_28_method_1_code 3 none :: ws) ({ frames := 1, cells := 0, slots := 0, locals := 12 } : Room)) (fun a U => a = #[(.ref a1), (.long q2)] ∧ Z.Warmed39 U.vm ∧ U.heap = h0) (fun _ _ _ _ _ => True) (fun _ U o U' => ∃ v L, o = .returned v ∧ Q_rmSI Z a1 q2  h0 n0 v U'.heap L ∧ FrameEnd U o U' L ({ frames := 1, cells := 0, slots := 0, locals := 12 } : Room).cells ({ frames := 1, cells := 0, slots := 0, locals := 12 } : Room).slots) := by
  refine MetFree.of_bodySF (plainFor_of_name own_pn0) hisR ?_
  intro p e s m args below meth c s₁ Bd hml0 hP hK
  obtain ⟨rfl, hZ, hh⟩ := hP
  have hx := Bd.exec
  have hby := Bd.bytes
  have hml : c.maxLocals = 3 := hml0
  have hown : s.vm.findClass "com/example/urd/urd/time/Scheduled" = some m.cls := findClass_of_methodNamed Bd.named
  have hnm := (name_of_methodNamed Bd.named Bd.method).1
  have X0 : Stand p l e ({ frames := 1, cells := 0, slots := 0, locals := 12 } : Room) s m #[(.ref a1), (.long q2)] below meth c s₁ [] 0 0 := Stand.of_body Bd
  have e0 : s₁.heap = h0 := by rw [← hh, Bd.state]; rfl
  have N0 := Fr.nil n0
  have R0 : ∀ t, Steps p.tables e below (s₁.setTop (mkF m 0 #[.val (.ref a1), .val (.long q2), .second] [])) t → Steps p.tables e below (s₁.setTop (entryFrame m #[(.ref a1), (.long q2)] 3)) t := fun t k => castTop (own_ef_rmSI m a1 q2) k
  have R1 : ∀ t, Steps p.tables e below (s₁.setTop (mkF m 1 #[.val (.ref a1), .val (.long q2), .second] [(.ref a1)])) t → Steps p.tables e below (s₁.setTop (entryFrame m #[(.ref a1), (.long q2)] 3)) t := by
    intro t k
    refine R0 t ?_
    show Steps p.tables e below (s₁.setTop (mkF m 0 #[.val (.ref a1), .val (.long q2), .second] [])) _
    refine XS.aloadN X0.here hx rfl (hb hby own_d2_0) rfl rfl ?_
    exact k
  obtain ⟨T2, X2, e2, st2⟩ := initO X0 hx hZ hown (hw _ (List.mem_of_getElem? (i := 11) rfl)) (hw _ (List.mem_of_getElem? (i := 12) rfl)) (hw _ (List.mem_of_getElem? (i := 13) rfl)) e0 (g := (mkF m 1 #[.val (.ref a1), .val (.long q2), .second] [(.ref a1)])) rfl (by rw [hml]; rfl) rfl (hb hby own_d2_1) (by decide) (W := 0) (by show 2 * 0 + _ ≤ _; exact Nat.le_of_eq rfl) (by decide)
  have R2 : ∀ t, Steps p.tables e below (T2.setTop (mkF m 4 #[.val (.ref a1), .val (.long q2), .second] [])) t → Steps p.tables e below (s₁.setTop (entryFrame m #[(.ref a1), (.long q2)] 3)) t := fun t k => R1 t (st2 t k)
  have R3 : ∀ t, Steps p.tables e below (T2.setTop (mkF m 6 #[.val (.ref a1), .val (.long q2), .second] [(.long q2), (.ref a1)])) t → Steps p.tables e below (s₁.setTop (entryFrame m #[(.ref a1), (.long q2)] 3)) t := by
    intro t k
    refine R2 t ?_
    show Steps p.tables e below (T2.setTop (mkF m 4 #[.val (.ref a1), .val (.long q2), .second] [])) _
    refine XS.aloadN X2.here hx rfl (hb hby own_d2_4) rfl rfl ?_
    show Steps p.tables e below (T2.setTop (mkF m 5 #[.val (.ref a1), .val (.long q2), .second] [(.ref a1)])) _
    refine XS.lloadN X2.here hx rfl (hb hby own_d2_5) rfl ?_
    exact k
  obtain ⟨T4, h4, X4, e4, W4, st4⟩ := putF X2 hx hZ hown (host := "") (Or.inl (hw _ (List.mem_of_getElem? (i := 14) rfl))) Via.refl e2 F_deadline_a1 E_a1 (Or.inl (hw _ (List.mem_of_getElem? (i := 15) rfl))) (hw _ (List.mem_of_getElem? (i := 1) rfl)) (ty := .long) (by decide) rfl rfl (g := (mkF m 6 #[.val (.ref a1), .val (.long q2), .second] [(.long q2), (.ref a1)])) rfl rfl (hb hby own_d2_6)
  have R4 : ∀ t, Steps p.tables e below (T4.setTop (mkF m 9 #[.val (.ref a1), .val (.long q2), .second] [])) t → Steps p.tables e below (s₁.setTop (entryFrame m #[(.ref a1), (.long q2)] 3)) t := fun t k => R3 t (st4 t k)
  have Z4 : n0 ≤ h4.size := Nat.le_trans Z0 (Keep.of_wr W4).1
  have K4 : Keep h0 h4 [a1] := (Keep.refl h0 [a1]).wr W4 (Or.inl (by simp))
  have N4 := Fr.snoc X4 N0 g_a1
  have f5 : Fld Z h4 a1 "com/example/urd/urd/time/DeadlineQueue$Bucket" "least" "J" (.long (0 : Int64)) := F_least_a1.other W4 (Or.inr (slot_ne (Or.inl (hw _ (List.mem_of_getElem? (i := 18) rfl))) (Or.inl (hw _ (List.mem_of_getElem? (i := 15) rfl))) (by decide) (t := .long) (t' := .long) (by decide) (by decide)))
  have f6 : Fld Z h4 a1 "com/example/urd/urd/time/DeadlineQueue$Bucket" "greatest" "J" (.long (0 : Int64)) := F_greatest_a1.other W4 (Or.inr (slot_ne (Or.inl (hw _ (List.mem_of_getElem? (i := 21) rfl))) (Or.inl (hw _ (List.mem_of_getElem? (i := 15) rfl))) (by decide) (t := .long) (t' := .long) (by decide) (by decide)))
  have f7 : Fld Z h4 a1 "com/example/urd/urd/time/DeadlineQueue$Bucket" "start" "J" (.long (0 : Int64)) := F_start_a1.other W4 (Or.inr (slot_ne (Or.inr (hw _ (List.mem_of_getElem? (i := 23) rfl))) (Or.inl (hw _ (List.mem_of_getElem? (i := 15) rfl))) (by decide) (t := .long) (t' := .long) (by decide) (by decide)))
  have f8 : Fld Z h4 a1 "com/example/urd/urd/time/DeadlineQueue$Bucket" "last" "J" (.long (0 : Int64)) := F_last_a1.other W4 (Or.inr (slot_ne (Or.inl (hw _ (List.mem_of_getElem? (i := 25) rfl))) (Or.inl (hw _ (List.mem_of_getElem? (i := 15) rfl))) (by decide) (t := .long) (t' := .long) (by decide) (by decide)))
  have f9 : Fld Z h4 a1 "com/example/urd/urd/time/Scheduled" "previous" "Lcom/example/urd/urd/time/Scheduled;" .null := F_previous_a1.other W4 (Or.inr (slot_ne (Or.inl (hw _ (List.mem_of_getElem? (i := 33) rfl))) (Or.inl (hw _ (List.mem_of_getElem? (i := 15) rfl))) (by decide) (t := (.object "com/example/urd/urd/time/Scheduled")) (t' := .long) (by decide) (by decide)))
  have f10 : Fld Z h4 a1 "com/example/urd/urd/time/Scheduled" "next" "Lcom/example/urd/urd/time/Scheduled;" .null := F_next_a1.other W4 (Or.inr (slot_ne (Or.inl (hw _ (List.mem_of_getElem? (i := 35) rfl))) (Or.inl (hw _ (List.mem_of_getElem? (i := 15) rfl))) (by decide) (t := (.object "com/example/urd/urd/time/Scheduled")) (t' := .long) (by decide) (by decide)))
  have f11 : Fld Z h4 a1 "com/example/urd/urd/time/Scheduled" "bucket" "Lcom/example/urd/urd/time/DeadlineQueue$Bucket;" .null := F_bucket_a1.other W4 (Or.inr (slot_ne (Or.inl (hw _ (List.mem_of_getElem? (i := 42) rfl))) (Or.inl (hw _ (List.mem_of_getElem? (i := 15) rfl))) (by decide) (t := (.object "com/example/urd/urd/time/DeadlineQueue$Bucket")) (t' := .long) (by decide) (by decide)))
  have f12 : Exa Z h4 a1 "com/example/urd/urd/time/DeadlineQueue$Bucket" := E_a1.wr W4
  have Fw4 : Fld Z h4 a1 "com/example/urd/urd/time/Scheduled" "deadline" "J" (.long q2) := F_deadline_a1.same W4
  obtain ⟨fs, hr, hrun, hended, hW, hsame⟩ := X4.leave (v := none) (fun _ => rfl)
  refine ⟨_, _, R4 _ ?_, hrun, hended, _, _, rfl, ?_, ⟨_, rfl⟩, hW, hsame.mono (by decide) (by decide)⟩
  · exact X4.returnOut hx Bd.returns (hb hby own_d2_9) hr
  · show Q_rmSI Z a1 q2  h0 n0 _ T4.heap _
    rw [e4]
    exact ⟨rfl, N4, K4, f5, f6, f7, f8, f9, f10, f11⟩
theorem own_ef_rmSR (m : MethodId) (x0 : Addr) : entryFrame m #[(.ref x0)] 1 = mkF m 0 #[.val (.ref x0)] [] := by first | (simp [entryFrame, mkF, argsToLocals, Value.category]; done) | rfl
theorem own_d4_0 : decode prog_28_method_10_code 0 = .ok (.aload_n 0, 1) := by decide +kernel
theorem own_d4_1 : decode prog_28_method_10_code 1 = .ok (.aload_n 0, 1) := by decide +kernel
theorem own_d4_2 : decode prog_28_method_10_code 2 = .ok (.putfield 47, 3) := by decide +kernel
theorem own_d4_5 : decode prog_28_method_10_code 5 = .ok (.aload_n 0, 1) := by decide +kernel
theorem own_d4_6 : decode prog_28_method_10_code 6 = .ok (.aload_n 0, 1) := by decide +kernel
theorem own_d4_7 : decode prog_28_method_10_code 7 = .ok (.putfield 43, 3) := by decide +kernel
theorem own_d4_10 : decode prog_28_method_10_code 10 = .ok (.return_, 1) := by decide +kernel
def Q_rmSR (Z : State) (a1 : Addr) (u1 u2 u3 : Value) (h0 : Heap) (n0 : Nat) (v : Option Value) (h : Heap) (L : List Loc) : Prop := v = none ∧ Fr n0 L ∧ Keep h0 h [a1] ∧ Fld Z h a1 "com/example/urd/urd/time/Scheduled" "previous" "Lcom/example/urd/urd/time/Scheduled;" (.ref a1) ∧ Fld Z h a1 "com/example/urd/urd/time/Scheduled" "next" "Lcom/example/urd/urd/time/Scheduled;" (.ref a1) ∧ Fld Z h a1 "com/example/urd/urd/time/Scheduled" "bucket" "Lcom/example/urd/urd/time/DeadlineQueue$Bucket;" u3
set_option maxRecDepth 65536 in
set_option maxHeartbeats 40000000 in
theorem rmSR (l : Launch) (Z : State) (a0 : Array Value) (hw : ∀ d ∈ tables_1, d.before a0 Z = true) (ws : List Jvm.Cond) (a1 : Addr) (u1 u2 u3 : Value) (h0 : Heap) (n0 : Nat) (Z0 : n0 ≤ h0.size) (F_previous_a1 : Fld Z h0 a1 "com/example/urd/urd/time/Scheduled" "previous" "Lcom/example/urd/urd/time/Scheduled;" u1) (F_next_a1 : Fld Z h0 a1 "com/example/urd/urd/time/Scheduled" "next" "Lcom/example/urd/urd/time/Scheduled;" u2) (F_bucket_a1 : Fld Z h0 a1 "com/example/urd/urd/time/Scheduled" "bucket" "Lcom/example/urd/urd/time/DeadlineQueue$Bucket;" u3) (E_a1 : Exa Z h0 a1 "com/example/urd/urd/time/DeadlineQueue$Bucket") (g_a1 : n0 ≤ a1)  :
    MetFree l (⟨"com/example/urd/urd/time/Scheduled", "startRing", "()V"⟩ : MethodName) (head1 (Jvm.Cond.code (⟨"com/example/urd/urd/time/Scheduled", "startRing", "()V"⟩ : MethodName) prog_28_method_10_code 1 none :: ws) ({ frames := 0, cells := 0, slots := 0, locals := 0 } : Room)) (fun a U => a = #[(.ref a1)] ∧ Z.Warmed39 U.vm ∧ U.heap = h0) (fun _ _ _ _ _ => True) (fun _ U o U' => ∃ v L, o = .returned v ∧ Q_rmSR Z a1 u1 u2 u3 h0 n0 v U'.heap L ∧ FrameEnd U o U' L ({ frames := 0, cells := 0, slots := 0, locals := 0 } : Room).cells ({ frames := 0, cells := 0, slots := 0, locals := 0 } : Room).slots) := by
  refine MetFree.of_bodySF (plainFor_of_name own_pn0) hisR ?_
  intro p e s m args below meth c s₁ Bd hml0 hP hK
  obtain ⟨rfl, hZ, hh⟩ := hP
  have hx := Bd.exec
  have hby := Bd.bytes
  have hml : c.maxLocals = 1 := hml0
  have hown : s.vm.findClass "com/example/urd/urd/time/Scheduled" = some m.cls := findClass_of_methodNamed Bd.named
  have hnm := (name_of_methodNamed Bd.named Bd.method).1
  have X0 : Stand p l e ({ frames := 0, cells := 0, slots := 0, locals := 0 } : Room) s m #[(.ref a1)] below meth c s₁ [] 0 0 := Stand.of_body Bd
  have e0 : s₁.heap = h0 := by rw [← hh, Bd.state]; rfl
  have N0 := Fr.nil n0
  have R0 : ∀ t, Steps p.tables e below (s₁.setTop (mkF m 0 #[.val (.ref a1)] [])) t → Steps p.tables e below (s₁.setTop (entryFrame m #[(.ref a1)] 1)) t := fun t k => castTop (own_ef_rmSR m a1) k
  have R1 : ∀ t, Steps p.tables e below (s₁.setTop (mkF m 2 #[.val (.ref a1)] [(.ref a1), (.ref a1)])) t → Steps p.tables e below (s₁.setTop (entryFrame m #[(.ref a1)] 1)) t := by
    intro t k
    refine R0 t ?_
    show Steps p.tables e below (s₁.setTop (mkF m 0 #[.val (.ref a1)] [])) _
    refine XS.aloadN X0.here hx rfl (hb hby own_d4_0) rfl rfl ?_
    show Steps p.tables e below (s₁.setTop (mkF m 1 #[.val (.ref a1)] [(.ref a1)])) _
    refine XS.aloadN X0.here hx rfl (hb hby own_d4_1) rfl rfl ?_
    exact k
  obtain ⟨T2, h2, X2, e2, W2, st2⟩ := putF X0 hx hZ hown (host := "") (Or.inl (hw _ (List.mem_of_getElem? (i := 32) rfl))) Via.refl e0 F_previous_a1 E_a1 (Or.inl (hw _ (List.mem_of_getElem? (i := 33) rfl))) (hw _ (List.mem_of_getElem? (i := 1) rfl)) (ty := (.object "com/example/urd/urd/time/Scheduled")) (by decide) rfl rfl (g := (mkF m 2 #[.val (.ref a1)] [(.ref a1), (.ref a1)])) rfl rfl (hb hby own_d4_2)
  have R2 : ∀ t, Steps p.tables e below (T2.setTop (mkF m 5 #[.val (.ref a1)] [])) t → Steps p.tables e below (s₁.setTop (entryFrame m #[(.ref a1)] 1)) t := fun t k => R1 t (st2 t k)
  have Z2 : n0 ≤ h2.size := Nat.le_trans Z0 (Keep.of_wr W2).1
  have K2 : Keep h0 h2 [a1] := (Keep.refl h0 [a1]).wr W2 (Or.inl (by simp))
  have N2 := Fr.snoc X2 N0 g_a1
  have f3 : Fld Z h2 a1 "com/example/urd/urd/time/Scheduled" "next" "Lcom/example/urd/urd/time/Scheduled;" u2 := F_next_a1.other W2 (Or.inr (slot_ne (Or.inl (hw _ (List.mem_of_getElem? (i := 35) rfl))) (Or.inl (hw _ (List.mem_of_getElem? (i := 33) rfl))) (by decide) (t := (.object "com/example/urd/urd/time/Scheduled")) (t' := (.object "com/example/urd/urd/time/Scheduled")) (by decide) (by decide)))
  have f4 : Fld Z h2 a1 "com/example/urd/urd/time/Scheduled" "bucket" "Lcom/example/urd/urd/time/DeadlineQueue$Bucket;" u3 := F_bucket_a1.other W2 (Or.inr (slot_ne (Or.inl (hw _ (List.mem_of_getElem? (i := 42) rfl))) (Or.inl (hw _ (List.mem_of_getElem? (i := 33) rfl))) (by decide) (t := (.object "com/example/urd/urd/time/DeadlineQueue$Bucket")) (t' := (.object "com/example/urd/urd/time/Scheduled")) (by decide) (by decide)))
  have f5 : Exa Z h2 a1 "com/example/urd/urd/time/DeadlineQueue$Bucket" := E_a1.wr W2
  have Fw2 : Fld Z h2 a1 "com/example/urd/urd/time/Scheduled" "previous" "Lcom/example/urd/urd/time/Scheduled;" (.ref a1) := F_previous_a1.same W2
  have R6 : ∀ t, Steps p.tables e below (T2.setTop (mkF m 7 #[.val (.ref a1)] [(.ref a1), (.ref a1)])) t → Steps p.tables e below (s₁.setTop (entryFrame m #[(.ref a1)] 1)) t := by
    intro t k
    refine R2 t ?_
    show Steps p.tables e below (T2.setTop (mkF m 5 #[.val (.ref a1)] [])) _
    refine XS.aloadN X2.here hx rfl (hb hby own_d4_5) rfl rfl ?_
    show Steps p.tables e below (T2.setTop (mkF m 6 #[.val (.ref a1)] [(.ref a1)])) _
    refine XS.aloadN X2.here hx rfl (hb hby own_d4_6) rfl rfl ?_
    exact k
  obtain ⟨T7, h7, X7, e7, W7, st7⟩ := putF X2 hx hZ hown (host := "") (Or.inl (hw _ (List.mem_of_getElem? (i := 34) rfl))) Via.refl e2 f3 f5 (Or.inl (hw _ (List.mem_of_getElem? (i := 35) rfl))) (hw _ (List.mem_of_getElem? (i := 1) rfl)) (ty := (.object "com/example/urd/urd/time/Scheduled")) (by decide) rfl rfl (g := (mkF m 7 #[.val (.ref a1)] [(.ref a1), (.ref a1)])) rfl rfl (hb hby own_d4_7)
  have R7 : ∀ t, Steps p.tables e below (T7.setTop (mkF m 10 #[.val (.ref a1)] [])) t → Steps p.tables e below (s₁.setTop (entryFrame m #[(.ref a1)] 1)) t := fun t k => R6 t (st7 t k)
  have Z7 : n0 ≤ h7.size := Nat.le_trans Z2 (Keep.of_wr W7).1
  have K7 : Keep h0 h7 [a1] := K2.wr W7 (Or.inl (by simp))
  have N7 := Fr.snoc X7 N2 g_a1
  have f8 : Fld Z h7 a1 "com/example/urd/urd/time/Scheduled" "bucket" "Lcom/example/urd/urd/time/DeadlineQueue$Bucket;" u3 := f4.other W7 (Or.inr (slot_ne (Or.inl (hw _ (List.mem_of_getElem? (i := 42) rfl))) (Or.inl (hw _ (List.mem_of_getElem? (i := 35) rfl))) (by decide) (t := (.object "com/example/urd/urd/time/DeadlineQueue$Bucket")) (t' := (.object "com/example/urd/urd/time/Scheduled")) (by decide) (by decide)))
  have f9 : Exa Z h7 a1 "com/example/urd/urd/time/DeadlineQueue$Bucket" := f5.wr W7
  have f10 : Fld Z h7 a1 "com/example/urd/urd/time/Scheduled" "previous" "Lcom/example/urd/urd/time/Scheduled;" (.ref a1) := Fw2.other W7 (Or.inr (slot_ne (Or.inl (hw _ (List.mem_of_getElem? (i := 33) rfl))) (Or.inl (hw _ (List.mem_of_getElem? (i := 35) rfl))) (by decide) (t := (.object "com/example/urd/urd/time/Scheduled")) (t' := (.object "com/example/urd/urd/time/Scheduled")) (by decide) (by decide)))
  have Fw7 : Fld Z h7 a1 "com/example/urd/urd/time/Scheduled" "next" "Lcom/example/urd/urd/time/Scheduled;" (.ref a1) := f3.same W7
  obtain ⟨fs, hr, hrun, hended, hW, hsame⟩ := X7.leave (v := none) (fun _ => rfl)
  refine ⟨_, _, R7 _ ?_, hrun, hended, _, _, rfl, ?_, ⟨_, rfl⟩, hW, hsame.mono (by decide) (by decide)⟩
  · exact X7.returnOut hx Bd.returns (hb hby own_d4_10) hr
  · show Q_rmSR Z a1 u1 u2 u3 h0 n0 _ T7.heap _
    rw [e7]
    exact ⟨rfl, N7, K7, f10, Fw7, f8⟩
theorem own_pn1 : plainName "com/example/urd/urd/time/DeadlineQueue$Bucket" = true := by first | (simp [plainName, overriddenIn]; done) | decide +kernel
theorem own_ef_rmBI (m : MethodId) (x0 : Addr) (x1 : Int64) (x2 : Int64) : entryFrame m #[(.ref x0), (.long x1), (.long x2)] 5 = mkF m 0 #[.val (.ref x0), .val (.long x1), .second, .val (.long x2), .second] [] := by first | (simp [entryFrame, mkF, argsToLocals, Value.category]; done) | rfl
theorem own_d1_0 : decode prog_27_method_1_code 0 = .ok (.aload_n 0, 1) := by decide +kernel
theorem own_d1_1 : decode prog_27_method_1_code 1 = .ok (.lconst 0, 1) := by decide +kernel
theorem own_d1_2 : decode prog_27_method_1_code 2 = .ok (.invokespecial 1, 3) := by decide +kernel
theorem own_pd1 : parseMethodDescriptor "(J)V" = some ⟨[.long], none⟩ := by decide +kernel
theorem own_d1_5 : decode prog_27_method_1_code 5 = .ok (.aload_n 0, 1) := by decide +kernel
theorem own_d1_6 : decode prog_27_method_1_code 6 = .ok (.ldc2_w 9, 3) := by decide +kernel
theorem own_d1_9 : decode prog_27_method_1_code 9 = .ok (.putfield 11, 3) := by decide +kernel
theorem own_d1_12 : decode prog_27_method_1_code 12 = .ok (.aload_n 0, 1) := by decide +kernel
theorem own_d1_13 : decode prog_27_method_1_code 13 = .ok (.ldc2_w 17, 3) := by decide +kernel
theorem own_d1_16 : decode prog_27_method_1_code 16 = .ok (.putfield 19, 3) := by decide +kernel
theorem own_d1_19 : decode prog_27_method_1_code 19 = .ok (.aload_n 0, 1) := by decide +kernel
theorem own_d1_20 : decode prog_27_method_1_code 20 = .ok (.lload_n 1, 1) := by decide +kernel
theorem own_d1_21 : decode prog_27_method_1_code 21 = .ok (.putfield 22, 3) := by decide +kernel
theorem own_d1_24 : decode prog_27_method_1_code 24 = .ok (.aload_n 0, 1) := by decide +kernel
theorem own_d1_25 : decode prog_27_method_1_code 25 = .ok (.lload_n 3, 1) := by decide +kernel
theorem own_d1_26 : decode prog_27_method_1_code 26 = .ok (.putfield 25, 3) := by decide +kernel
theorem own_d1_29 : decode prog_27_method_1_code 29 = .ok (.aload_n 0, 1) := by decide +kernel
theorem own_d1_30 : decode prog_27_method_1_code 30 = .ok (.invokevirtual 28, 3) := by decide +kernel
theorem own_pd2 : parseMethodDescriptor "()V" = some ⟨[], none⟩ := by decide +kernel
theorem own_d1_33 : decode prog_27_method_1_code 33 = .ok (.return_, 1) := by decide +kernel
def Q_rmBI (Z : State) (a1 : Addr) (q2 : Int64) (q3 : Int64)  (h0 : Heap) (n0 : Nat) (v : Option Value) (h : Heap) (L : List Loc) : Prop := v = none ∧ Fr n0 L ∧ Keep h0 h [a1] ∧ Fld Z h a1 "com/example/urd/urd/time/Scheduled" "previous" "Lcom/example/urd/urd/time/Scheduled;" (.ref a1) ∧ Fld Z h a1 "com/example/urd/urd/time/Scheduled" "next" "Lcom/example/urd/urd/time/Scheduled;" (.ref a1) ∧ Fld Z h a1 "com/example/urd/urd/time/Scheduled" "bucket" "Lcom/example/urd/urd/time/DeadlineQueue$Bucket;" .null
set_option maxRecDepth 65536 in
set_option maxHeartbeats 40000000 in
theorem rmBI (l : Launch) (Z : State) (a0 : Array Value) (hw : ∀ d ∈ tables_1, d.before a0 Z = true) (ws : List Jvm.Cond) (a1 : Addr) (q2 : Int64) (q3 : Int64)  (h0 : Heap) (n0 : Nat) (Z0 : n0 ≤ h0.size) (F_deadline_a1 : Fld Z h0 a1 "com/example/urd/urd/time/Scheduled" "deadline" "J" (.long (0 : Int64))) (F_least_a1 : Fld Z h0 a1 "com/example/urd/urd/time/DeadlineQueue$Bucket" "least" "J" (.long (0 : Int64))) (F_greatest_a1 : Fld Z h0 a1 "com/example/urd/urd/time/DeadlineQueue$Bucket" "greatest" "J" (.long (0 : Int64))) (F_start_a1 : Fld Z h0 a1 "com/example/urd/urd/time/DeadlineQueue$Bucket" "start" "J" (.long (0 : Int64))) (F_last_a1 : Fld Z h0 a1 "com/example/urd/urd/time/DeadlineQueue$Bucket" "last" "J" (.long (0 : Int64))) (F_previous_a1 : Fld Z h0 a1 "com/example/urd/urd/time/Scheduled" "previous" "Lcom/example/urd/urd/time/Scheduled;" .null) (F_next_a1 : Fld Z h0 a1 "com/example/urd/urd/time/Scheduled" "next" "Lcom/example/urd/urd/time/Scheduled;" .null) (F_bucket_a1 : Fld Z h0 a1 "com/example/urd/urd/time/Scheduled" "bucket" "Lcom/example/urd/urd/time/DeadlineQueue$Bucket;" .null) (E_a1 : Exa Z h0 a1 "com/example/urd/urd/time/DeadlineQueue$Bucket") (g_a1 : n0 ≤ a1)  :
    MetFree l (⟨"com/example/urd/urd/time/DeadlineQueue$Bucket", "<init>", "(JJ)V"⟩ : MethodName) (head1 (Jvm.Cond.code (⟨"com/example/urd/urd/time/DeadlineQueue$Bucket", "<init>", "(JJ)V"⟩ : MethodName) prog_27_method_1_code 5 none :: ws) ({ frames := 2, cells := 0, slots := 0, locals := 26 } : Room)) (fun a U => a = #[(.ref a1), (.long q2), (.long q3)] ∧ Z.Warmed39 U.vm ∧ U.heap = h0) (fun _ _ _ _ _ => True) (fun _ U o U' => ∃ v L, o = .returned v ∧ Q_rmBI Z a1 q2 q3  h0 n0 v U'.heap L ∧ FrameEnd U o U' L ({ frames := 2, cells := 0, slots := 0, locals := 26 } : Room).cells ({ frames := 2, cells := 0, slots := 0, locals := 26 } : Room).slots) := by
  refine MetFree.of_bodySF (plainFor_of_name own_pn1) hisR ?_
  intro p e s m args below meth c s₁ Bd hml0 hP hK
  obtain ⟨rfl, hZ, hh⟩ := hP
  have hx := Bd.exec
  have hby := Bd.bytes
  have hml : c.maxLocals = 5 := hml0
  have hown : s.vm.findClass "com/example/urd/urd/time/DeadlineQueue$Bucket" = some m.cls := findClass_of_methodNamed Bd.named
  have hnm := (name_of_methodNamed Bd.named Bd.method).1
  have X0 : Stand p l e ({ frames := 2, cells := 0, slots := 0, locals := 26 } : Room) s m #[(.ref a1), (.long q2), (.long q3)] below meth c s₁ [] 0 0 := Stand.of_body Bd
  have e0 : s₁.heap = h0 := by rw [← hh, Bd.state]; rfl
  have N0 := Fr.nil n0
  have R0 : ∀ t, Steps p.tables e below (s₁.setTop (mkF m 0 #[.val (.ref a1), .val (.long q2), .second, .val (.long q3), .second] [])) t → Steps p.tables e below (s₁.setTop (entryFrame m #[(.ref a1), (.long q2), (.long q3)] 5)) t := fun t k => castTop (own_ef_rmBI m a1 q2 q3) k
  have R1 : ∀ t, Steps p.tables e below (s₁.setTop (mkF m 2 #[.val (.ref a1), .val (.long q2), .second, .val (.long q3), .second] [(.long (0 : Int64)), (.ref a1)])) t → Steps p.tables e below (s₁.setTop (entryFrame m #[(.ref a1), (.long q2), (.long q3)] 5)) t := by
    intro t k
    refine R0 t ?_
    show Steps p.tables e below (s₁.setTop (mkF m 0 #[.val (.ref a1), .val (.long q2), .second, .val (.long q3), .second] [])) _
    refine XS.aloadN X0.here hx rfl (hb hby own_d1_0) rfl rfl ?_
    show Steps p.tables e below (s₁.setTop (mkF m 1 #[.val (.ref a1), .val (.long q2), .second, .val (.long q3), .second] [(.ref a1)])) _
    refine XS.lconst X0.here hx rfl (hb hby own_d1_1) ?_
    exact k
  obtain ⟨_, _, ⟨T2, L2, k2, n2⟩, -, X2, ⟨Lc2, hQ2, l2, y2, z2⟩, st2⟩ := X0.specialBack hx (y := (⟨"com/example/urd/urd/time/Scheduled", "<init>", "(J)V"⟩ : MethodName)) rfl hown (mvT hZ (hw _ (List.mem_of_getElem? (i := 6) rfl))) (mvT hZ (hw _ (List.mem_of_getElem? (i := 7) rfl))) (mvT hZ (hw _ (List.mem_of_getElem? (i := 10) rfl))) (by decide) (backOf (W := 0) (rmSI l Z a0 hw [] a1 (0 : Int64)  h0 n0 Z0 F_deadline_a1 F_least_a1 F_greatest_a1 F_start_a1 F_last_a1 F_previous_a1 F_next_a1 F_bucket_a1 E_a1 g_a1) hZ (hw _ (List.mem_of_getElem? (i := 10) rfl)) (hw _ (List.mem_of_getElem? (i := 9) rfl)) (by decide) (by decide)) (g := (mkF m 2 #[.val (.ref a1), .val (.long q2), .second, .val (.long q3), .second] [(.long (0 : Int64)), (.ref a1)])) rfl (by rw [hml]; rfl) (Steps.refl _) (a := a1) (argsL := [(.long (0 : Int64))]) (rest := []) (lenOf own_pd1 rfl) rfl (by show 2 * 0 + _ ≤ _; exact Nat.le_of_eq rfl) (hb hby own_d1_2) (fun _ _ => ⟨rfl, e0, (by decide : 0 + 0 ≤ _), (by decide : 0 + 0 ≤ _)⟩)
  dsimp only [Pt.U, Pt.locs, Pt.cells, Pt.slots] at X2 l2 y2 z2 st2 hQ2
  subst l2 y2 z2
  obtain ⟨rfl, Nq2, Kc2, F_least_c2, F_greatest_c2, F_start_c2, F_last_c2, F_previous_c2, F_next_c2, F_bucket_c2⟩ := hQ2
  have N2 := Fr.app N0 Nq2
  have R2 : ∀ t, Steps p.tables e below (T2.setTop (mkF m 5 #[.val (.ref a1), .val (.long q2), .second, .val (.long q3), .second] [])) t → Steps p.tables e below (s₁.setTop (entryFrame m #[(.ref a1), (.long q2), (.long q3)] 5)) t := fun t k => R1 t (st2.trans k)
  have Z2 : n0 ≤ T2.heap.size := Nat.le_trans Z0 Kc2.1
  have K2 : Keep h0 T2.heap [a1] := (Keep.refl h0 [a1]).trans Kc2 (allS (Or.inl (by simp)) all0)
  have f3 : Exa Z T2.heap a1 "com/example/urd/urd/time/DeadlineQueue$Bucket" := E_a1.keep Kc2
  have R4 : ∀ t, Steps p.tables e below (T2.setTop (mkF m 9 #[.val (.ref a1), .val (.long q2), .second, .val (.long q3), .second] [(.long (9223372036854775807 : Int64)), (.ref a1)])) t → Steps p.tables e below (s₁.setTop (entryFrame m #[(.ref a1), (.long q2), (.long q3)] 5)) t := by
    intro t k
    refine R2 t ?_
    show Steps p.tables e below (T2.setTop (mkF m 5 #[.val (.ref a1), .val (.long q2), .second, .val (.long q3), .second] [])) _
    refine XS.aloadN X2.here hx rfl (hb hby own_d1_5) rfl rfl ?_
    show Steps p.tables e below (T2.setTop (mkF m 6 #[.val (.ref a1), .val (.long q2), .second, .val (.long q3), .second] [(.ref a1)])) _
    refine X2.ldc2Long hx hown (mvT hZ (hw _ (List.mem_of_getElem? (i := 16) rfl))) (g := (mkF m 6 #[.val (.ref a1), .val (.long q2), .second, .val (.long q3), .second] [(.ref a1)])) rfl (hb hby own_d1_6) _ ?_
    exact k
  obtain ⟨T5, h5, X5, e5, W5, st5⟩ := putF X2 hx hZ hown (host := "") (Or.inl (hw _ (List.mem_of_getElem? (i := 17) rfl))) Via.refl rfl F_least_c2 f3 (Or.inl (hw _ (List.mem_of_getElem? (i := 18) rfl))) (hw _ (List.mem_of_getElem? (i := 1) rfl)) (ty := .long) (by decide) rfl rfl (g := (mkF m 9 #[.val (.ref a1), .val (.long q2), .second, .val (.long q3), .second] [(.long (9223372036854775807 : Int64)), (.ref a1)])) rfl rfl (hb hby own_d1_9)
  have R5 : ∀ t, Steps p.tables e below (T5.setTop (mkF m 12 #[.val (.ref a1), .val (.long q2), .second, .val (.long q3), .second] [])) t → Steps p.tables e below (s₁.setTop (entryFrame m #[(.ref a1), (.long q2), (.long q3)] 5)) t := fun t k => R4 t (st5 t k)
  have Z5 : n0 ≤ h5.size := Nat.le_trans Z2 (Keep.of_wr W5).1
  have K5 : Keep h0 h5 [a1] := K2.wr W5 (Or.inl (by simp))
  have N5 := Fr.snoc X5 N2 g_a1
  have f6 : Exa Z h5 a1 "com/example/urd/urd/time/DeadlineQueue$Bucket" := f3.wr W5
  have f7 : Fld Z h5 a1 "com/example/urd/urd/time/DeadlineQueue$Bucket" "greatest" "J" (.long (0 : Int64)) := F_greatest_c2.other W5 (Or.inr (slot_ne (Or.inl (hw _ (List.mem_of_getElem? (i := 21) rfl))) (Or.inl (hw _ (List.mem_of_getElem? (i := 18) rfl))) (by decide) (t := .long) (t' := .long) (by decide) (by decide)))
  have f8 : Fld Z h5 a1 "com/example/urd/urd/time/DeadlineQueue$Bucket" "start" "J" (.long (0 : Int64)) := F_start_c2.other W5 (Or.inr (slot_ne (Or.inr (hw _ (List.mem_of_getElem? (i := 23) rfl))) (Or.inl (hw _ (List.mem_of_getElem? (i := 18) rfl))) (by decide) (t := .long) (t' := .long) (by decide) (by decide)))
  have f9 : Fld Z h5 a1 "com/example/urd/urd/time/DeadlineQueue$Bucket" "last" "J" (.long (0 : Int64)) := F_last_c2.other W5 (Or.inr (slot_ne (Or.inl (hw _ (List.mem_of_getElem? (i := 25) rfl))) (Or.inl (hw _ (List.mem_of_getElem? (i := 18) rfl))) (by decide) (t := .long) (t' := .long) (by decide) (by decide)))
  have f10 : Fld Z h5 a1 "com/example/urd/urd/time/Scheduled" "previous" "Lcom/example/urd/urd/time/Scheduled;" .null := F_previous_c2.other W5 (Or.inr (slot_ne (Or.inl (hw _ (List.mem_of_getElem? (i := 33) rfl))) (Or.inl (hw _ (List.mem_of_getElem? (i := 18) rfl))) (by decide) (t := (.object "com/example/urd/urd/time/Scheduled")) (t' := .long) (by decide) (by decide)))
  have f11 : Fld Z h5 a1 "com/example/urd/urd/time/Scheduled" "next" "Lcom/example/urd/urd/time/Scheduled;" .null := F_next_c2.other W5 (Or.inr (slot_ne (Or.inl (hw _ (List.mem_of_getElem? (i := 35) rfl))) (Or.inl (hw _ (List.mem_of_getElem? (i := 18) rfl))) (by decide) (t := (.object "com/example/urd/urd/time/Scheduled")) (t' := .long) (by decide) (by decide)))
  have f12 : Fld Z h5 a1 "com/example/urd/urd/time/Scheduled" "bucket" "Lcom/example/urd/urd/time/DeadlineQueue$Bucket;" .null := F_bucket_c2.other W5 (Or.inr (slot_ne (Or.inl (hw _ (List.mem_of_getElem? (i := 42) rfl))) (Or.inl (hw _ (List.mem_of_getElem? (i := 18) rfl))) (by decide) (t := (.object "com/example/urd/urd/time/DeadlineQueue$Bucket")) (t' := .long) (by decide) (by decide)))
  have Fw5 : Fld Z h5 a1 "com/example/urd/urd/time/DeadlineQueue$Bucket" "least" "J" (.long (9223372036854775807 : Int64)) := F_least_c2.same W5
  have R13 : ∀ t, Steps p.tables e below (T5.setTop (mkF m 16 #[.val (.ref a1), .val (.long q2), .second, .val (.long q3), .second] [(.long (-9223372036854775808 : Int64)), (.ref a1)])) t → Steps p.tables e below (s₁.setTop (entryFrame m #[(.ref a1), (.long q2), (.long q3)] 5)) t := by
    intro t k
    refine R5 t ?_
    show Steps p.tables e below (T5.setTop (mkF m 12 #[.val (.ref a1), .val (.long q2), .second, .val (.long q3), .second] [])) _
    refine XS.aloadN X5.here hx rfl (hb hby own_d1_12) rfl rfl ?_
    show Steps p.tables e below (T5.setTop (mkF m 13 #[.val (.ref a1), .val (.long q2), .second, .val (.long q3), .second] [(.ref a1)])) _
    refine X5.ldc2Long hx hown (mvT hZ (hw _ (List.mem_of_getElem? (i := 19) rfl))) (g := (mkF m 13 #[.val (.ref a1), .val (.long q2), .second, .val (.long q3), .second] [(.ref a1)])) rfl (hb hby own_d1_13) _ ?_
    exact k
  obtain ⟨T14, h14, X14, e14, W14, st14⟩ := putF X5 hx hZ hown (host := "") (Or.inl (hw _ (List.mem_of_getElem? (i := 20) rfl))) Via.refl e5 f7 f6 (Or.inl (hw _ (List.mem_of_getElem? (i := 21) rfl))) (hw _ (List.mem_of_getElem? (i := 1) rfl)) (ty := .long) (by decide) rfl rfl (g := (mkF m 16 #[.val (.ref a1), .val (.long q2), .second, .val (.long q3), .second] [(.long (-9223372036854775808 : Int64)), (.ref a1)])) rfl rfl (hb hby own_d1_16)
  have R14 : ∀ t, Steps p.tables e below (T14.setTop (mkF m 19 #[.val (.ref a1), .val (.long q2), .second, .val (.long q3), .second] [])) t → Steps p.tables e below (s₁.setTop (entryFrame m #[(.ref a1), (.long q2), (.long q3)] 5)) t := fun t k => R13 t (st14 t k)
  have Z14 : n0 ≤ h14.size := Nat.le_trans Z5 (Keep.of_wr W14).1
  have K14 : Keep h0 h14 [a1] := K5.wr W14 (Or.inl (by simp))
  have N14 := Fr.snoc X14 N5 g_a1
  have f15 : Exa Z h14 a1 "com/example/urd/urd/time/DeadlineQueue$Bucket" := f6.wr W14
  have f16 : Fld Z h14 a1 "com/example/urd/urd/time/DeadlineQueue$Bucket" "start" "J" (.long (0 : Int64)) := f8.other W14 (Or.inr (slot_ne (Or.inr (hw _ (List.mem_of_getElem? (i := 23) rfl))) (Or.inl (hw _ (List.mem_of_getElem? (i := 21) rfl))) (by decide) (t := .long) (t' := .long) (by decide) (by decide)))
  have f17 : Fld Z h14 a1 "com/example/urd/urd/time/DeadlineQueue$Bucket" "last" "J" (.long (0 : Int64)) := f9.other W14 (Or.inr (slot_ne (Or.inl (hw _ (List.mem_of_getElem? (i := 25) rfl))) (Or.inl (hw _ (List.mem_of_getElem? (i := 21) rfl))) (by decide) (t := .long) (t' := .long) (by decide) (by decide)))
  have f18 : Fld Z h14 a1 "com/example/urd/urd/time/Scheduled" "previous" "Lcom/example/urd/urd/time/Scheduled;" .null := f10.other W14 (Or.inr (slot_ne (Or.inl (hw _ (List.mem_of_getElem? (i := 33) rfl))) (Or.inl (hw _ (List.mem_of_getElem? (i := 21) rfl))) (by decide) (t := (.object "com/example/urd/urd/time/Scheduled")) (t' := .long) (by decide) (by decide)))
  have f19 : Fld Z h14 a1 "com/example/urd/urd/time/Scheduled" "next" "Lcom/example/urd/urd/time/Scheduled;" .null := f11.other W14 (Or.inr (slot_ne (Or.inl (hw _ (List.mem_of_getElem? (i := 35) rfl))) (Or.inl (hw _ (List.mem_of_getElem? (i := 21) rfl))) (by decide) (t := (.object "com/example/urd/urd/time/Scheduled")) (t' := .long) (by decide) (by decide)))
  have f20 : Fld Z h14 a1 "com/example/urd/urd/time/Scheduled" "bucket" "Lcom/example/urd/urd/time/DeadlineQueue$Bucket;" .null := f12.other W14 (Or.inr (slot_ne (Or.inl (hw _ (List.mem_of_getElem? (i := 42) rfl))) (Or.inl (hw _ (List.mem_of_getElem? (i := 21) rfl))) (by decide) (t := (.object "com/example/urd/urd/time/DeadlineQueue$Bucket")) (t' := .long) (by decide) (by decide)))
  have f21 : Fld Z h14 a1 "com/example/urd/urd/time/DeadlineQueue$Bucket" "least" "J" (.long (9223372036854775807 : Int64)) := Fw5.other W14 (Or.inr (slot_ne (Or.inl (hw _ (List.mem_of_getElem? (i := 18) rfl))) (Or.inl (hw _ (List.mem_of_getElem? (i := 21) rfl))) (by decide) (t := .long) (t' := .long) (by decide) (by decide)))
  have Fw14 : Fld Z h14 a1 "com/example/urd/urd/time/DeadlineQueue$Bucket" "greatest" "J" (.long (-9223372036854775808 : Int64)) := f7.same W14
  have R22 : ∀ t, Steps p.tables e below (T14.setTop (mkF m 21 #[.val (.ref a1), .val (.long q2), .second, .val (.long q3), .second] [(.long q2), (.ref a1)])) t → Steps p.tables e below (s₁.setTop (entryFrame m #[(.ref a1), (.long q2), (.long q3)] 5)) t := by
    intro t k
    refine R14 t ?_
    show Steps p.tables e below (T14.setTop (mkF m 19 #[.val (.ref a1), .val (.long q2), .second, .val (.long q3), .second] [])) _
    refine XS.aloadN X14.here hx rfl (hb hby own_d1_19) rfl rfl ?_
    show Steps p.tables e below (T14.setTop (mkF m 20 #[.val (.ref a1), .val (.long q2), .second, .val (.long q3), .second] [(.ref a1)])) _
    refine XS.lloadN X14.here hx rfl (hb hby own_d1_20) rfl ?_
    exact k
  obtain ⟨T23, h23, X23, e23, W23, st23⟩ := putF X14 hx hZ hown (host := "") (Or.inl (hw _ (List.mem_of_getElem? (i := 22) rfl))) Via.refl e14 f16 f15 (Or.inr ⟨(hw _ (List.mem_of_getElem? (i := 23) rfl)), rfl, hnm⟩) (hw _ (List.mem_of_getElem? (i := 1) rfl)) (ty := .long) (by decide) rfl rfl (g := (mkF m 21 #[.val (.ref a1), .val (.long q2), .second, .val (.long q3), .second] [(.long q2), (.ref a1)])) rfl rfl (hb hby own_d1_21)
  have R23 : ∀ t, Steps p.tables e below (T23.setTop (mkF m 24 #[.val (.ref a1), .val (.long q2), .second, .val (.long q3), .second] [])) t → Steps p.tables e below (s₁.setTop (entryFrame m #[(.ref a1), (.long q2), (.long q3)] 5)) t := fun t k => R22 t (st23 t k)
  have Z23 : n0 ≤ h23.size := Nat.le_trans Z14 (Keep.of_wr W23).1
  have K23 : Keep h0 h23 [a1] := K14.wr W23 (Or.inl (by simp))
  have N23 := Fr.snoc X23 N14 g_a1
  have f24 : Exa Z h23 a1 "com/example/urd/urd/time/DeadlineQueue$Bucket" := f15.wr W23
  have f25 : Fld Z h23 a1 "com/example/urd/urd/time/DeadlineQueue$Bucket" "last" "J" (.long (0 : Int64)) := f17.other W23 (Or.inr (slot_ne (Or.inl (hw _ (List.mem_of_getElem? (i := 25) rfl))) (Or.inr (hw _ (List.mem_of_getElem? (i := 23) rfl))) (by decide) (t := .long) (t' := .long) (by decide) (by decide)))
  have f26 : Fld Z h23 a1 "com/example/urd/urd/time/Scheduled" "previous" "Lcom/example/urd/urd/time/Scheduled;" .null := f18.other W23 (Or.inr (slot_ne (Or.inl (hw _ (List.mem_of_getElem? (i := 33) rfl))) (Or.inr (hw _ (List.mem_of_getElem? (i := 23) rfl))) (by decide) (t := (.object "com/example/urd/urd/time/Scheduled")) (t' := .long) (by decide) (by decide)))
  have f27 : Fld Z h23 a1 "com/example/urd/urd/time/Scheduled" "next" "Lcom/example/urd/urd/time/Scheduled;" .null := f19.other W23 (Or.inr (slot_ne (Or.inl (hw _ (List.mem_of_getElem? (i := 35) rfl))) (Or.inr (hw _ (List.mem_of_getElem? (i := 23) rfl))) (by decide) (t := (.object "com/example/urd/urd/time/Scheduled")) (t' := .long) (by decide) (by decide)))
  have f28 : Fld Z h23 a1 "com/example/urd/urd/time/Scheduled" "bucket" "Lcom/example/urd/urd/time/DeadlineQueue$Bucket;" .null := f20.other W23 (Or.inr (slot_ne (Or.inl (hw _ (List.mem_of_getElem? (i := 42) rfl))) (Or.inr (hw _ (List.mem_of_getElem? (i := 23) rfl))) (by decide) (t := (.object "com/example/urd/urd/time/DeadlineQueue$Bucket")) (t' := .long) (by decide) (by decide)))
  have f29 : Fld Z h23 a1 "com/example/urd/urd/time/DeadlineQueue$Bucket" "least" "J" (.long (9223372036854775807 : Int64)) := f21.other W23 (Or.inr (slot_ne (Or.inl (hw _ (List.mem_of_getElem? (i := 18) rfl))) (Or.inr (hw _ (List.mem_of_getElem? (i := 23) rfl))) (by decide) (t := .long) (t' := .long) (by decide) (by decide)))
  have f30 : Fld Z h23 a1 "com/example/urd/urd/time/DeadlineQueue$Bucket" "greatest" "J" (.long (-9223372036854775808 : Int64)) := Fw14.other W23 (Or.inr (slot_ne (Or.inl (hw _ (List.mem_of_getElem? (i := 21) rfl))) (Or.inr (hw _ (List.mem_of_getElem? (i := 23) rfl))) (by decide) (t := .long) (t' := .long) (by decide) (by decide)))
  have Fw23 : Fld Z h23 a1 "com/example/urd/urd/time/DeadlineQueue$Bucket" "start" "J" (.long q2) := f16.same W23
  have R31 : ∀ t, Steps p.tables e below (T23.setTop (mkF m 26 #[.val (.ref a1), .val (.long q2), .second, .val (.long q3), .second] [(.long q3), (.ref a1)])) t → Steps p.tables e below (s₁.setTop (entryFrame m #[(.ref a1), (.long q2), (.long q3)] 5)) t := by
    intro t k
    refine R23 t ?_
    show Steps p.tables e below (T23.setTop (mkF m 24 #[.val (.ref a1), .val (.long q2), .second, .val (.long q3), .second] [])) _
    refine XS.aloadN X23.here hx rfl (hb hby own_d1_24) rfl rfl ?_
    show Steps p.tables e below (T23.setTop (mkF m 25 #[.val (.ref a1), .val (.long q2), .second, .val (.long q3), .second] [(.ref a1)])) _
    refine XS.lloadN X23.here hx rfl (hb hby own_d1_25) rfl ?_
    exact k
  obtain ⟨T32, h32, X32, e32, W32, st32⟩ := putF X23 hx hZ hown (host := "") (Or.inl (hw _ (List.mem_of_getElem? (i := 24) rfl))) Via.refl e23 f25 f24 (Or.inl (hw _ (List.mem_of_getElem? (i := 25) rfl))) (hw _ (List.mem_of_getElem? (i := 1) rfl)) (ty := .long) (by decide) rfl rfl (g := (mkF m 26 #[.val (.ref a1), .val (.long q2), .second, .val (.long q3), .second] [(.long q3), (.ref a1)])) rfl rfl (hb hby own_d1_26)
  have R32 : ∀ t, Steps p.tables e below (T32.setTop (mkF m 29 #[.val (.ref a1), .val (.long q2), .second, .val (.long q3), .second] [])) t → Steps p.tables e below (s₁.setTop (entryFrame m #[(.ref a1), (.long q2), (.long q3)] 5)) t := fun t k => R31 t (st32 t k)
  have Z32 : n0 ≤ h32.size := Nat.le_trans Z23 (Keep.of_wr W32).1
  have K32 : Keep h0 h32 [a1] := K23.wr W32 (Or.inl (by simp))
  have N32 := Fr.snoc X32 N23 g_a1
  have f33 : Exa Z h32 a1 "com/example/urd/urd/time/DeadlineQueue$Bucket" := f24.wr W32
  have f34 : Fld Z h32 a1 "com/example/urd/urd/time/Scheduled" "previous" "Lcom/example/urd/urd/time/Scheduled;" .null := f26.other W32 (Or.inr (slot_ne (Or.inl (hw _ (List.mem_of_getElem? (i := 33) rfl))) (Or.inl (hw _ (List.mem_of_getElem? (i := 25) rfl))) (by decide) (t := (.object "com/example/urd/urd/time/Scheduled")) (t' := .long) (by decide) (by decide)))
  have f35 : Fld Z h32 a1 "com/example/urd/urd/time/Scheduled" "next" "Lcom/example/urd/urd/time/Scheduled;" .null := f27.other W32 (Or.inr (slot_ne (Or.inl (hw _ (List.mem_of_getElem? (i := 35) rfl))) (Or.inl (hw _ (List.mem_of_getElem? (i := 25) rfl))) (by decide) (t := (.object "com/example/urd/urd/time/Scheduled")) (t' := .long) (by decide) (by decide)))
  have f36 : Fld Z h32 a1 "com/example/urd/urd/time/Scheduled" "bucket" "Lcom/example/urd/urd/time/DeadlineQueue$Bucket;" .null := f28.other W32 (Or.inr (slot_ne (Or.inl (hw _ (List.mem_of_getElem? (i := 42) rfl))) (Or.inl (hw _ (List.mem_of_getElem? (i := 25) rfl))) (by decide) (t := (.object "com/example/urd/urd/time/DeadlineQueue$Bucket")) (t' := .long) (by decide) (by decide)))
  have f37 : Fld Z h32 a1 "com/example/urd/urd/time/DeadlineQueue$Bucket" "least" "J" (.long (9223372036854775807 : Int64)) := f29.other W32 (Or.inr (slot_ne (Or.inl (hw _ (List.mem_of_getElem? (i := 18) rfl))) (Or.inl (hw _ (List.mem_of_getElem? (i := 25) rfl))) (by decide) (t := .long) (t' := .long) (by decide) (by decide)))
  have f38 : Fld Z h32 a1 "com/example/urd/urd/time/DeadlineQueue$Bucket" "greatest" "J" (.long (-9223372036854775808 : Int64)) := f30.other W32 (Or.inr (slot_ne (Or.inl (hw _ (List.mem_of_getElem? (i := 21) rfl))) (Or.inl (hw _ (List.mem_of_getElem? (i := 25) rfl))) (by decide) (t := .long) (t' := .long) (by decide) (by decide)))
  have f39 : Fld Z h32 a1 "com/example/urd/urd/time/DeadlineQueue$Bucket" "start" "J" (.long q2) := Fw23.other W32 (Or.inr (slot_ne (Or.inr (hw _ (List.mem_of_getElem? (i := 23) rfl))) (Or.inl (hw _ (List.mem_of_getElem? (i := 25) rfl))) (by decide) (t := .long) (t' := .long) (by decide) (by decide)))
  have Fw32 : Fld Z h32 a1 "com/example/urd/urd/time/DeadlineQueue$Bucket" "last" "J" (.long q3) := f25.same W32
  have R40 : ∀ t, Steps p.tables e below (T32.setTop (mkF m 30 #[.val (.ref a1), .val (.long q2), .second, .val (.long q3), .second] [(.ref a1)])) t → Steps p.tables e below (s₁.setTop (entryFrame m #[(.ref a1), (.long q2), (.long q3)] 5)) t := by
    intro t k
    refine R32 t ?_
    show Steps p.tables e below (T32.setTop (mkF m 29 #[.val (.ref a1), .val (.long q2), .second, .val (.long q3), .second] [])) _
    refine XS.aloadN X32.here hx rfl (hb hby own_d1_29) rfl rfl ?_
    exact k
  obtain ⟨cq41, kq41, q41a, q41b, q41c⟩ := isOf hZ e32 f33
  obtain ⟨_, _, ⟨T41, L41, k41, n41⟩, -, X41, ⟨Lc41, hQ41, l41, y41, z41⟩, st41⟩ := X32.virtualBackUp hx (x := (⟨"com/example/urd/urd/time/DeadlineQueue$Bucket", "startRing", "()V"⟩ : MethodName)) (y := (⟨"com/example/urd/urd/time/Scheduled", "startRing", "()V"⟩ : MethodName)) hown (mvT hZ (hw _ (List.mem_of_getElem? (i := 26) rfl))) (mvT hZ (hw _ (List.mem_of_getElem? (i := 27) rfl))) (mvT hZ (hw _ (List.mem_of_getElem? (i := 28) rfl))) (by decide) (mvT hZ (hw _ (List.mem_of_getElem? (i := 30) rfl))) (mvT hZ (hw _ (List.mem_of_getElem? (i := 29) rfl))) (backOf (W := 0) (rmSR l Z a0 hw [] a1 .null .null .null h32 n0 Z32 f34 f35 f36 f33 g_a1) hZ (hw _ (List.mem_of_getElem? (i := 31) rfl)) (hw _ (List.mem_of_getElem? (i := 9) rfl)) (by decide) (by decide)) q41a q41c (g := (mkF m 30 #[.val (.ref a1), .val (.long q2), .second, .val (.long q3), .second] [(.ref a1)])) rfl (by rw [hml]; rfl) (Steps.refl _) (argsL := []) (rest := []) (lenOf own_pd2 rfl) rfl (by show 2 * 0 + _ ≤ _; exact Nat.le_of_eq rfl) (hb hby own_d1_30) (fun _ _ => ⟨rfl, e32, (by decide : 0 + 0 ≤ _), (by decide : 0 + 0 ≤ _)⟩)
  dsimp only [Pt.U, Pt.locs, Pt.cells, Pt.slots] at X41 l41 y41 z41 st41 hQ41
  subst l41 y41 z41
  obtain ⟨rfl, Nq41, Kc41, F_previous_c41, F_next_c41, F_bucket_c41⟩ := hQ41
  have N41 := Fr.app N32 Nq41
  have R41 : ∀ t, Steps p.tables e below (T41.setTop (mkF m 33 #[.val (.ref a1), .val (.long q2), .second, .val (.long q3), .second] [])) t → Steps p.tables e below (s₁.setTop (entryFrame m #[(.ref a1), (.long q2), (.long q3)] 5)) t := fun t k => R40 t (st41.trans k)
  have Z41 : n0 ≤ T41.heap.size := Nat.le_trans Z32 Kc41.1
  have K41 : Keep h0 T41.heap [a1] := K32.trans Kc41 (allS (Or.inl (by simp)) all0)
  have f42 : Exa Z T41.heap a1 "com/example/urd/urd/time/DeadlineQueue$Bucket" := f33.keep Kc41
  obtain ⟨fs, hr, hrun, hended, hW, hsame⟩ := X41.leave (v := none) (fun _ => rfl)
  refine ⟨_, _, R41 _ ?_, hrun, hended, _, _, rfl, ?_, ⟨_, rfl⟩, hW, hsame.mono (by decide) (by decide)⟩
  · exact X41.returnOut hx Bd.returns (hb hby own_d1_33) hr
  · show Q_rmBI Z a1 q2 q3  h0 n0 _ T41.heap _
    exact ⟨rfl, N41, K41, F_previous_c41, F_next_c41, F_bucket_c41⟩
theorem own_ef_rmLA (m : MethodId) (x0 : Addr) (x1 : Addr) : entryFrame m #[(.ref x0), (.ref x1)] 3 = mkF m 0 #[.val (.ref x0), .val (.ref x1), .unset] [] := by first | (simp [entryFrame, mkF, argsToLocals, Value.category]; done) | rfl
theorem own_d5_0 : decode prog_28_method_11_code 0 = .ok (.aload_n 1, 1) := by decide +kernel
theorem own_d5_1 : decode prog_28_method_11_code 1 = .ok (.astore_n 2, 1) := by decide +kernel
theorem own_d5_2 : decode prog_28_method_11_code 2 = .ok (.aload_n 0, 1) := by decide +kernel
theorem own_d5_3 : decode prog_28_method_11_code 3 = .ok (.aload_n 2, 1) := by decide +kernel
theorem own_d5_4 : decode prog_28_method_11_code 4 = .ok (.getfield 47, 3) := by decide +kernel
theorem own_d5_7 : decode prog_28_method_11_code 7 = .ok (.putfield 47, 3) := by decide +kernel
theorem own_d5_10 : decode prog_28_method_11_code 10 = .ok (.aload_n 0, 1) := by decide +kernel
theorem own_d5_11 : decode prog_28_method_11_code 11 = .ok (.aload_n 2, 1) := by decide +kernel
theorem own_d5_12 : decode prog_28_method_11_code 12 = .ok (.putfield 43, 3) := by decide +kernel
theorem own_d5_15 : decode prog_28_method_11_code 15 = .ok (.aload_n 0, 1) := by decide +kernel
theorem own_d5_16 : decode prog_28_method_11_code 16 = .ok (.getfield 47, 3) := by decide +kernel
theorem own_d5_19 : decode prog_28_method_11_code 19 = .ok (.aload_n 0, 1) := by decide +kernel
theorem own_d5_20 : decode prog_28_method_11_code 20 = .ok (.putfield 43, 3) := by decide +kernel
theorem own_d5_23 : decode prog_28_method_11_code 23 = .ok (.aload_n 2, 1) := by decide +kernel
theorem own_d5_24 : decode prog_28_method_11_code 24 = .ok (.aload_n 0, 1) := by decide +kernel
theorem own_d5_25 : decode prog_28_method_11_code 25 = .ok (.putfield 47, 3) := by decide +kernel
theorem own_d5_28 : decode prog_28_method_11_code 28 = .ok (.aload_n 0, 1) := by decide +kernel
theorem own_d5_29 : decode prog_28_method_11_code 29 = .ok (.aload_n 1, 1) := by decide +kernel
theorem own_d5_30 : decode prog_28_method_11_code 30 = .ok (.putfield 39, 3) := by decide +kernel
theorem own_d5_33 : decode prog_28_method_11_code 33 = .ok (.return_, 1) := by decide +kernel
def Q_rmLA (Z : State) (a1 : Addr) (a2 : Addr) (u1 u2 u3 u4 u5 : Value) (h0 : Heap) (n0 : Nat) (v : Option Value) (h : Heap) (L : List Loc) : Prop := v = none ∧ Fr n0 L ∧ Keep h0 h [a1, a2] ∧ Fld Z h a1 "com/example/urd/urd/time/Scheduled" "previous" "Lcom/example/urd/urd/time/Scheduled;" (.ref a2) ∧ Fld Z h a1 "com/example/urd/urd/time/Scheduled" "next" "Lcom/example/urd/urd/time/Scheduled;" (.ref a2) ∧ Fld Z h a1 "com/example/urd/urd/time/Scheduled" "bucket" "Lcom/example/urd/urd/time/DeadlineQueue$Bucket;" (.ref a2) ∧ Fld Z h a2 "com/example/urd/urd/time/Scheduled" "previous" "Lcom/example/urd/urd/time/Scheduled;" (.ref a1) ∧ Fld Z h a2 "com/example/urd/urd/time/Scheduled" "next" "Lcom/example/urd/urd/time/Scheduled;" (.ref a1) ∧ Fld Z h a2 "com/example/urd/urd/time/Scheduled" "bucket" "Lcom/example/urd/urd/time/DeadlineQueue$Bucket;" u5
set_option maxRecDepth 65536 in
set_option maxHeartbeats 40000000 in
theorem rmLA (l : Launch) (Z : State) (a0 : Array Value) (hw : ∀ d ∈ tables_1, d.before a0 Z = true) (ws : List Jvm.Cond) (a1 : Addr) (a2 : Addr) (u1 u2 u3 u4 u5 : Value) (h0 : Heap) (n0 : Nat) (Z0 : n0 ≤ h0.size) (F_previous_a1 : Fld Z h0 a1 "com/example/urd/urd/time/Scheduled" "previous" "Lcom/example/urd/urd/time/Scheduled;" u1) (F_next_a1 : Fld Z h0 a1 "com/example/urd/urd/time/Scheduled" "next" "Lcom/example/urd/urd/time/Scheduled;" u2) (F_bucket_a1 : Fld Z h0 a1 "com/example/urd/urd/time/Scheduled" "bucket" "Lcom/example/urd/urd/time/DeadlineQueue$Bucket;" u3) (F_previous_a2 : Fld Z h0 a2 "com/example/urd/urd/time/Scheduled" "previous" "Lcom/example/urd/urd/time/Scheduled;" (.ref a2)) (F_next_a2 : Fld Z h0 a2 "com/example/urd/urd/time/Scheduled" "next" "Lcom/example/urd/urd/time/Scheduled;" u4) (F_bucket_a2 : Fld Z h0 a2 "com/example/urd/urd/time/Scheduled" "bucket" "Lcom/example/urd/urd/time/DeadlineQueue$Bucket;" u5) (E_a1 : Exa Z h0 a1 "com/example/urd/urd/time/DeadlineQueue$Bucket") (g_a1 : n0 ≤ a1) (E_a2 : Exa Z h0 a2 "com/example/urd/urd/time/DeadlineQueue$Bucket") (g_a2 : n0 ≤ a2) (ne_a1_a2 : a1 ≠ a2)  :
    MetFree l (⟨"com/example/urd/urd/time/Scheduled", "linkInto", "(Lcom/example/urd/urd/time/DeadlineQueue$Bucket;)V"⟩ : MethodName) (head1 (Jvm.Cond.code (⟨"com/example/urd/urd/time/Scheduled", "linkInto", "(Lcom/example/urd/urd/time/DeadlineQueue$Bucket;)V"⟩ : MethodName) prog_28_method_11_code 3 none :: ws) ({ frames := 0, cells := 0, slots := 0, locals := 0 } : Room)) (fun a U => a = #[(.ref a1), (.ref a2)] ∧ Z.Warmed39 U.vm ∧ U.heap = h0) (fun _ _ _ _ _ => True) (fun _ U o U' => ∃ v L, o = .returned v ∧ Q_rmLA Z a1 a2 u1 u2 u3 u4 u5 h0 n0 v U'.heap L ∧ FrameEnd U o U' L ({ frames := 0, cells := 0, slots := 0, locals := 0 } : Room).cells ({ frames := 0, cells := 0, slots := 0, locals := 0 } : Room).slots) := by
  refine MetFree.of_bodySF (plainFor_of_name own_pn0) hisR ?_
  intro p e s m args below meth c s₁ Bd hml0 hP hK
  obtain ⟨rfl, hZ, hh⟩ := hP
  have hx := Bd.exec
  have hby := Bd.bytes
  have hml : c.maxLocals = 3 := hml0
  have hown : s.vm.findClass "com/example/urd/urd/time/Scheduled" = some m.cls := findClass_of_methodNamed Bd.named
  have hnm := (name_of_methodNamed Bd.named Bd.method).1
  have X0 : Stand p l e ({ frames := 0, cells := 0, slots := 0, locals := 0 } : Room) s m #[(.ref a1), (.ref a2)] below meth c s₁ [] 0 0 := Stand.of_body Bd
  have e0 : s₁.heap = h0 := by rw [← hh, Bd.state]; rfl
  have N0 := Fr.nil n0
  have R0 : ∀ t, Steps p.tables e below (s₁.setTop (mkF m 0 #[.val (.ref a1), .val (.ref a2), .unset] [])) t → Steps p.tables e below (s₁.setTop (entryFrame m #[(.ref a1), (.ref a2)] 3)) t := fun t k => castTop (own_ef_rmLA m a1 a2) k
  have R1 : ∀ t, Steps p.tables e below (s₁.setTop (mkF m 4 #[.val (.ref a1), .val (.ref a2), .val (.ref a2)] [(.ref a2), (.ref a1)])) t → Steps p.tables e below (s₁.setTop (entryFrame m #[(.ref a1), (.ref a2)] 3)) t := by
    intro t k
    refine R0 t ?_
    show Steps p.tables e below (s₁.setTop (mkF m 0 #[.val (.ref a1), .val (.ref a2), .unset] [])) _
    refine XS.aloadN X0.here hx rfl (hb hby own_d5_0) rfl rfl ?_
    show Steps p.tables e below (s₁.setTop (mkF m 1 #[.val (.ref a1), .val (.ref a2), .unset] [(.ref a2)])) _
    refine XS.astoreN X0.here hx rfl (hb hby own_d5_1) rfl rfl (l' := #[.val (.ref a1), .val (.ref a2), .val (.ref a2)]) rfl ?_
    show Steps p.tables e below (s₁.setTop (mkF m 2 #[.val (.ref a1), .val (.ref a2), .val (.ref a2)] [])) _
    refine XS.aloadN X0.here hx rfl (hb hby own_d5_2) rfl rfl ?_
    show Steps p.tables e below (s₁.setTop (mkF m 3 #[.val (.ref a1), .val (.ref a2), .val (.ref a2)] [(.ref a1)])) _
    refine XS.aloadN X0.here hx rfl (hb hby own_d5_3) rfl rfl ?_
    exact k
  obtain ⟨T2, X2, e2, st2⟩ := getF X0 hx hZ hown (host := "") (Or.inl (hw _ (List.mem_of_getElem? (i := 32) rfl))) Via.refl e0 F_previous_a2 (g := (mkF m 4 #[.val (.ref a1), .val (.ref a2), .val (.ref a2)] [(.ref a2), (.ref a1)])) rfl rfl (hb hby own_d5_4)
  have R2 : ∀ t, Steps p.tables e below (T2.setTop (mkF m 7 #[.val (.ref a1), .val (.ref a2), .val (.ref a2)] [(.ref a2), (.ref a1)])) t → Steps p.tables e below (s₁.setTop (entryFrame m #[(.ref a1), (.ref a2)] 3)) t := fun t k => R1 t (st2 t k)
  obtain ⟨T3, h3, X3, e3, W3, st3⟩ := putF X2 hx hZ hown (host := "") (Or.inl (hw _ (List.mem_of_getElem? (i := 32) rfl))) Via.refl e2 F_previous_a1 E_a1 (Or.inl (hw _ (List.mem_of_getElem? (i := 33) rfl))) (hw _ (List.mem_of_getElem? (i := 1) rfl)) (ty := (.object "com/example/urd/urd/time/Scheduled")) (by decide) rfl rfl (g := (mkF m 7 #[.val (.ref a1), .val (.ref a2), .val (.ref a2)] [(.ref a2), (.ref a1)])) rfl rfl (hb hby own_d5_7)
  have R3 : ∀ t, Steps p.tables e below (T3.setTop (mkF m 10 #[.val (.ref a1), .val (.ref a2), .val (.ref a2)] [])) t → Steps p.tables e below (s₁.setTop (entryFrame m #[(.ref a1), (.ref a2)] 3)) t := fun t k => R2 t (st3 t k)
  have Z3 : n0 ≤ h3.size := Nat.le_trans Z0 (Keep.of_wr W3).1
  have K3 : Keep h0 h3 [a1, a2] := (Keep.refl h0 [a1, a2]).wr W3 (Or.inl (by simp))
  have N3 := Fr.snoc X3 N0 g_a1
  have f4 : Fld Z h3 a1 "com/example/urd/urd/time/Scheduled" "next" "Lcom/example/urd/urd/time/Scheduled;" u2 := F_next_a1.other W3 (Or.inr (slot_ne (Or.inl (hw _ (List.mem_of_getElem? (i := 35) rfl))) (Or.inl (hw _ (List.mem_of_getElem? (i := 33) rfl))) (by decide) (t := (.object "com/example/urd/urd/time/Scheduled")) (t' := (.object "com/example/urd/urd/time/Scheduled")) (by decide) (by decide)))
  have f5 : Fld Z h3 a1 "com/example/urd/urd/time/Scheduled" "bucket" "Lcom/example/urd/urd/time/DeadlineQueue$Bucket;" u3 := F_bucket_a1.other W3 (Or.inr (slot_ne (Or.inl (hw _ (List.mem_of_getElem? (i := 42) rfl))) (Or.inl (hw _ (List.mem_of_getElem? (i := 33) rfl))) (by decide) (t := (.object "com/example/urd/urd/time/DeadlineQueue$Bucket")) (t' := (.object "com/example/urd/urd/time/Scheduled")) (by decide) (by decide)))
  have f6 : Fld Z h3 a2 "com/example/urd/urd/time/Scheduled" "previous" "Lcom/example/urd/urd/time/Scheduled;" (.ref a2) := F_previous_a2.other W3 (Or.inl (Ne.symm ne_a1_a2))
  have f7 : Fld Z h3 a2 "com/example/urd/urd/time/Scheduled" "next" "Lcom/example/urd/urd/time/Scheduled;" u4 := F_next_a2.other W3 (Or.inl (Ne.symm ne_a1_a2))
  have f8 : Fld Z h3 a2 "com/example/urd/urd/time/Scheduled" "bucket" "Lcom/example/urd/urd/time/DeadlineQueue$Bucket;" u5 := F_bucket_a2.other W3 (Or.inl (Ne.symm ne_a1_a2))
  have f9 : Exa Z h3 a1 "com/example/urd/urd/time/DeadlineQueue$Bucket" := E_a1.wr W3
  have f10 : Exa Z h3 a2 "com/example/urd/urd/time/DeadlineQueue$Bucket" := E_a2.wr W3
  have Fw3 : Fld Z h3 a1 "com/example/urd/urd/time/Scheduled" "previous" "Lcom/example/urd/urd/time/Scheduled;" (.ref a2) := F_previous_a1.same W3
  have R11 : ∀ t, Steps p.tables e below (T3.setTop (mkF m 12 #[.val (.ref a1), .val (.ref a2), .val (.ref a2)] [(.ref a2), (.ref a1)])) t → Steps p.tables e below (s₁.setTop (entryFrame m #[(.ref a1), (.ref a2)] 3)) t := by
    intro t k
    refine R3 t ?_
    show Steps p.tables e below (T3.setTop (mkF m 10 #[.val (.ref a1), .val (.ref a2), .val (.ref a2)] [])) _
    refine XS.aloadN X3.here hx rfl (hb hby own_d5_10) rfl rfl ?_
    show Steps p.tables e below (T3.setTop (mkF m 11 #[.val (.ref a1), .val (.ref a2), .val (.ref a2)] [(.ref a1)])) _
    refine XS.aloadN X3.here hx rfl (hb hby own_d5_11) rfl rfl ?_
    exact k
  obtain ⟨T12, h12, X12, e12, W12, st12⟩ := putF X3 hx hZ hown (host := "") (Or.inl (hw _ (List.mem_of_getElem? (i := 34) rfl))) Via.refl e3 f4 f9 (Or.inl (hw _ (List.mem_of_getElem? (i := 35) rfl))) (hw _ (List.mem_of_getElem? (i := 1) rfl)) (ty := (.object "com/example/urd/urd/time/Scheduled")) (by decide) rfl rfl (g := (mkF m 12 #[.val (.ref a1), .val (.ref a2), .val (.ref a2)] [(.ref a2), (.ref a1)])) rfl rfl (hb hby own_d5_12)
  have R12 : ∀ t, Steps p.tables e below (T12.setTop (mkF m 15 #[.val (.ref a1), .val (.ref a2), .val (.ref a2)] [])) t → Steps p.tables e below (s₁.setTop (entryFrame m #[(.ref a1), (.ref a2)] 3)) t := fun t k => R11 t (st12 t k)
  have Z12 : n0 ≤ h12.size := Nat.le_trans Z3 (Keep.of_wr W12).1
  have K12 : Keep h0 h12 [a1, a2] := K3.wr W12 (Or.inl (by simp))
  have N12 := Fr.snoc X12 N3 g_a1
  have f13 : Fld Z h12 a1 "com/example/urd/urd/time/Scheduled" "bucket" "Lcom/example/urd/urd/time/DeadlineQueue$Bucket;" u3 := f5.other W12 (Or.inr (slot_ne (Or.inl (hw _ (List.mem_of_getElem? (i := 42) rfl))) (Or.inl (hw _ (List.mem_of_getElem? (i := 35) rfl))) (by decide) (t := (.object "com/example/urd/urd/time/DeadlineQueue$Bucket")) (t' := (.object "com/example/urd/urd/time/Scheduled")) (by decide) (by decide)))
  have f14 : Fld Z h12 a2 "com/example/urd/urd/time/Scheduled" "previous" "Lcom/example/urd/urd/time/Scheduled;" (.ref a2) := f6.other W12 (Or.inl (Ne.symm ne_a1_a2))
  have f15 : Fld Z h12 a2 "com/example/urd/urd/time/Scheduled" "next" "Lcom/example/urd/urd/time/Scheduled;" u4 := f7.other W12 (Or.inl (Ne.symm ne_a1_a2))
  have f16 : Fld Z h12 a2 "com/example/urd/urd/time/Scheduled" "bucket" "Lcom/example/urd/urd/time/DeadlineQueue$Bucket;" u5 := f8.other W12 (Or.inl (Ne.symm ne_a1_a2))
  have f17 : Exa Z h12 a1 "com/example/urd/urd/time/DeadlineQueue$Bucket" := f9.wr W12
  have f18 : Exa Z h12 a2 "com/example/urd/urd/time/DeadlineQueue$Bucket" := f10.wr W12
  have f19 : Fld Z h12 a1 "com/example/urd/urd/time/Scheduled" "previous" "Lcom/example/urd/urd/time/Scheduled;" (.ref a2) := Fw3.other W12 (Or.inr (slot_ne (Or.inl (hw _ (List.mem_of_getElem? (i := 33) rfl))) (Or.inl (hw _ (List.mem_of_getElem? (i := 35) rfl))) (by decide) (t := (.object "com/example/urd/urd/time/Scheduled")) (t' := (.object "com/example/urd/urd/time/Scheduled")) (by decide) (by decide)))
  have Fw12 : Fld Z h12 a1 "com/example/urd/urd/time/Scheduled" "next" "Lcom/example/urd/urd/time/Scheduled;" (.ref a2) := f4.same W12
  have R20 : ∀ t, Steps p.tables e below (T12.setTop (mkF m 16 #[.val (.ref a1), .val (.ref a2), .val (.ref a2)] [(.ref a1)])) t → Steps p.tables e below (s₁.setTop (entryFrame m #[(.ref a1), (.ref a2)] 3)) t := by
    intro t k
    refine R12 t ?_
    show Steps p.tables e below (T12.setTop (mkF m 15 #[.val (.ref a1), .val (.ref a2), .val (.ref a2)] [])) _
    refine XS.aloadN X12.here hx rfl (hb hby own_d5_15) rfl rfl ?_
    exact k
  obtain ⟨T21, X21, e21, st21⟩ := getF X12 hx hZ hown (host := "") (Or.inl (hw _ (List.mem_of_getElem? (i := 32) rfl))) Via.refl e12 f19 (g := (mkF m 16 #[.val (.ref a1), .val (.ref a2), .val (.ref a2)] [(.ref a1)])) rfl rfl (hb hby own_d5_16)
  have R21 : ∀ t, Steps p.tables e below (T21.setTop (mkF m 19 #[.val (.ref a1), .val (.ref a2), .val (.ref a2)] [(.ref a2)])) t → Steps p.tables e below (s₁.setTop (entryFrame m #[(.ref a1), (.ref a2)] 3)) t := fun t k => R20 t (st21 t k)
  have R22 : ∀ t, Steps p.tables e below (T21.setTop (mkF m 20 #[.val (.ref a1), .val (.ref a2), .val (.ref a2)] [(.ref a1), (.ref a2)])) t → Steps p.tables e below (s₁.setTop (entryFrame m #[(.ref a1), (.ref a2)] 3)) t := by
    intro t k
    refine R21 t ?_
    show Steps p.tables e below (T21.setTop (mkF m 19 #[.val (.ref a1), .val (.ref a2), .val (.ref a2)] [(.ref a2)])) _
    refine XS.aloadN X21.here hx rfl (hb hby own_d5_19) rfl rfl ?_
    exact k
  obtain ⟨T23, h23, X23, e23, W23, st23⟩ := putF X21 hx hZ hown (host := "") (Or.inl (hw _ (List.mem_of_getElem? (i := 34) rfl))) Via.refl e21 f15 f18 (Or.inl (hw _ (List.mem_of_getElem? (i := 35) rfl))) (hw _ (List.mem_of_getElem? (i := 1) rfl)) (ty := (.object "com/example/urd/urd/time/Scheduled")) (by decide) rfl rfl (g := (mkF m 20 #[.val (.ref a1), .val (.ref a2), .val (.ref a2)] [(.ref a1), (.ref a2)])) rfl rfl (hb hby own_d5_20)
  have R23 : ∀ t, Steps p.tables e below (T23.setTop (mkF m 23 #[.val (.ref a1), .val (.ref a2), .val (.ref a2)] [])) t → Steps p.tables e below (s₁.setTop (entryFrame m #[(.ref a1), (.ref a2)] 3)) t := fun t k => R22 t (st23 t k)
  have Z23 : n0 ≤ h23.size := Nat.le_trans Z12 (Keep.of_wr W23).1
  have K23 : Keep h0 h23 [a1, a2] := K12.wr W23 (Or.inl (by simp))
  have N23 := Fr.snoc X23 N12 g_a2
  have f24 : Fld Z h23 a1 "com/example/urd/urd/time/Scheduled" "bucket" "Lcom/example/urd/urd/time/DeadlineQueue$Bucket;" u3 := f13.other W23 (Or.inl ne_a1_a2)
  have f25 : Fld Z h23 a2 "com/example/urd/urd/time/Scheduled" "previous" "Lcom/example/urd/urd/time/Scheduled;" (.ref a2) := f14.other W23 (Or.inr (slot_ne (Or.inl (hw _ (List.mem_of_getElem? (i := 33) rfl))) (Or.inl (hw _ (List.mem_of_getElem? (i := 35) rfl))) (by decide) (t := (.object "com/example/urd/urd/time/Scheduled")) (t' := (.object "com/example/urd/urd/time/Scheduled")) (by decide) (by decide)))
  have f26 : Fld Z h23 a2 "com/example/urd/urd/time/Scheduled" "bucket" "Lcom/example/urd/urd/time/DeadlineQueue$Bucket;" u5 := f16.other W23 (Or.inr (slot_ne (Or.inl (hw _ (List.mem_of_getElem? (i := 42) rfl))) (Or.inl (hw _ (List.mem_of_getElem? (i := 35) rfl))) (by decide) (t := (.object "com/example/urd/urd/time/DeadlineQueue$Bucket")) (t' := (.object "com/example/urd/urd/time/Scheduled")) (by decide) (by decide)))
  have f27 : Exa Z h23 a1 "com/example/urd/urd/time/DeadlineQueue$Bucket" := f17.wr W23
  have f28 : Exa Z h23 a2 "com/example/urd/urd/time/DeadlineQueue$Bucket" := f18.wr W23
  have f29 : Fld Z h23 a1 "com/example/urd/urd/time/Scheduled" "previous" "Lcom/example/urd/urd/time/Scheduled;" (.ref a2) := f19.other W23 (Or.inl ne_a1_a2)
  have f30 : Fld Z h23 a1 "com/example/urd/urd/time/Scheduled" "next" "Lcom/example/urd/urd/time/Scheduled;" (.ref a2) := Fw12.other W23 (Or.inl ne_a1_a2)
  have Fw23 : Fld Z h23 a2 "com/example/urd/urd/time/Scheduled" "next" "Lcom/example/urd/urd/time/Scheduled;" (.ref a1) := f15.same W23
  have R31 : ∀ t, Steps p.tables e below (T23.setTop (mkF m 25 #[.val (.ref a1), .val (.ref a2), .val (.ref a2)] [(.ref a1), (.ref a2)])) t → Steps p.tables e below (s₁.setTop (entryFrame m #[(.ref a1), (.ref a2)] 3)) t := by
    intro t k
    refine R23 t ?_
    show Steps p.tables e below (T23.setTop (mkF m 23 #[.val (.ref a1), .val (.ref a2), .val (.ref a2)] [])) _
    refine XS.aloadN X23.here hx rfl (hb hby own_d5_23) rfl rfl ?_
    show Steps p.tables e below (T23.setTop (mkF m 24 #[.val (.ref a1), .val (.ref a2), .val (.ref a2)] [(.ref a2)])) _
    refine XS.aloadN X23.here hx rfl (hb hby own_d5_24) rfl rfl ?_
    exact k
  obtain ⟨T32, h32, X32, e32, W32, st32⟩ := putF X23 hx hZ hown (host := "") (Or.inl (hw _ (List.mem_of_getElem? (i := 32) rfl))) Via.refl e23 f25 f28 (Or.inl (hw _ (List.mem_of_getElem? (i := 33) rfl))) (hw _ (List.mem_of_getElem? (i := 1) rfl)) (ty := (.object "com/example/urd/urd/time/Scheduled")) (by decide) rfl rfl (g := (mkF m 25 #[.val (.ref a1), .val (.ref a2), .val (.ref a2)] [(.ref a1), (.ref a2)])) rfl rfl (hb hby own_d5_25)
  have R32 : ∀ t, Steps p.tables e below (T32.setTop (mkF m 28 #[.val (.ref a1), .val (.ref a2), .val (.ref a2)] [])) t → Steps p.tables e below (s₁.setTop (entryFrame m #[(.ref a1), (.ref a2)] 3)) t := fun t k => R31 t (st32 t k)
  have Z32 : n0 ≤ h32.size := Nat.le_trans Z23 (Keep.of_wr W32).1
  have K32 : Keep h0 h32 [a1, a2] := K23.wr W32 (Or.inl (by simp))
  have N32 := Fr.snoc X32 N23 g_a2
  have f33 : Fld Z h32 a1 "com/example/urd/urd/time/Scheduled" "bucket" "Lcom/example/urd/urd/time/DeadlineQueue$Bucket;" u3 := f24.other W32 (Or.inl ne_a1_a2)
  have f34 : Fld Z h32 a2 "com/example/urd/urd/time/Scheduled" "bucket" "Lcom/example/urd/urd/time/DeadlineQueue$Bucket;" u5 := f26.other W32 (Or.inr (slot_ne (Or.inl (hw _ (List.mem_of_getElem? (i := 42) rfl))) (Or.inl (hw _ (List.mem_of_getElem? (i := 33) rfl))) (by decide) (t := (.object "com/example/urd/urd/time/DeadlineQueue$Bucket")) (t' := (.object "com/example/urd/urd/time/Scheduled")) (by decide) (by decide)))
  have f35 : Exa Z h32 a1 "com/example/urd/urd/time/DeadlineQueue$Bucket" := f27.wr W32
  have f36 : Exa Z h32 a2 "com/example/urd/urd/time/DeadlineQueue$Bucket" := f28.wr W32
  have f37 : Fld Z h32 a1 "com/example/urd/urd/time/Scheduled" "previous" "Lcom/example/urd/urd/time/Scheduled;" (.ref a2) := f29.other W32 (Or.inl ne_a1_a2)
  have f38 : Fld Z h32 a1 "com/example/urd/urd/time/Scheduled" "next" "Lcom/example/urd/urd/time/Scheduled;" (.ref a2) := f30.other W32 (Or.inl ne_a1_a2)
  have f39 : Fld Z h32 a2 "com/example/urd/urd/time/Scheduled" "next" "Lcom/example/urd/urd/time/Scheduled;" (.ref a1) := Fw23.other W32 (Or.inr (slot_ne (Or.inl (hw _ (List.mem_of_getElem? (i := 35) rfl))) (Or.inl (hw _ (List.mem_of_getElem? (i := 33) rfl))) (by decide) (t := (.object "com/example/urd/urd/time/Scheduled")) (t' := (.object "com/example/urd/urd/time/Scheduled")) (by decide) (by decide)))
  have Fw32 : Fld Z h32 a2 "com/example/urd/urd/time/Scheduled" "previous" "Lcom/example/urd/urd/time/Scheduled;" (.ref a1) := f25.same W32
  have R40 : ∀ t, Steps p.tables e below (T32.setTop (mkF m 30 #[.val (.ref a1), .val (.ref a2), .val (.ref a2)] [(.ref a2), (.ref a1)])) t → Steps p.tables e below (s₁.setTop (entryFrame m #[(.ref a1), (.ref a2)] 3)) t := by
    intro t k
    refine R32 t ?_
    show Steps p.tables e below (T32.setTop (mkF m 28 #[.val (.ref a1), .val (.ref a2), .val (.ref a2)] [])) _
    refine XS.aloadN X32.here hx rfl (hb hby own_d5_28) rfl rfl ?_
    show Steps p.tables e below (T32.setTop (mkF m 29 #[.val (.ref a1), .val (.ref a2), .val (.ref a2)] [(.ref a1)])) _
    refine XS.aloadN X32.here hx rfl (hb hby own_d5_29) rfl rfl ?_
    exact k
  obtain ⟨T41, h41, X41, e41, W41, st41⟩ := putF X32 hx hZ hown (host := "") (Or.inl (hw _ (List.mem_of_getElem? (i := 41) rfl))) Via.refl e32 f33 f35 (Or.inl (hw _ (List.mem_of_getElem? (i := 42) rfl))) (hw _ (List.mem_of_getElem? (i := 1) rfl)) (ty := (.object "com/example/urd/urd/time/DeadlineQueue$Bucket")) (by decide) rfl rfl (g := (mkF m 30 #[.val (.ref a1), .val (.ref a2), .val (.ref a2)] [(.ref a2), (.ref a1)])) rfl rfl (hb hby own_d5_30)
  have R41 : ∀ t, Steps p.tables e below (T41.setTop (mkF m 33 #[.val (.ref a1), .val (.ref a2), .val (.ref a2)] [])) t → Steps p.tables e below (s₁.setTop (entryFrame m #[(.ref a1), (.ref a2)] 3)) t := fun t k => R40 t (st41 t k)
  have Z41 : n0 ≤ h41.size := Nat.le_trans Z32 (Keep.of_wr W41).1
  have K41 : Keep h0 h41 [a1, a2] := K32.wr W41 (Or.inl (by simp))
  have N41 := Fr.snoc X41 N32 g_a1
  have f42 : Fld Z h41 a2 "com/example/urd/urd/time/Scheduled" "bucket" "Lcom/example/urd/urd/time/DeadlineQueue$Bucket;" u5 := f34.other W41 (Or.inl (Ne.symm ne_a1_a2))
  have f43 : Exa Z h41 a1 "com/example/urd/urd/time/DeadlineQueue$Bucket" := f35.wr W41
  have f44 : Exa Z h41 a2 "com/example/urd/urd/time/DeadlineQueue$Bucket" := f36.wr W41
  have f45 : Fld Z h41 a1 "com/example/urd/urd/time/Scheduled" "previous" "Lcom/example/urd/urd/time/Scheduled;" (.ref a2) := f37.other W41 (Or.inr (slot_ne (Or.inl (hw _ (List.mem_of_getElem? (i := 33) rfl))) (Or.inl (hw _ (List.mem_of_getElem? (i := 42) rfl))) (by decide) (t := (.object "com/example/urd/urd/time/Scheduled")) (t' := (.object "com/example/urd/urd/time/DeadlineQueue$Bucket")) (by decide) (by decide)))
  have f46 : Fld Z h41 a1 "com/example/urd/urd/time/Scheduled" "next" "Lcom/example/urd/urd/time/Scheduled;" (.ref a2) := f38.other W41 (Or.inr (slot_ne (Or.inl (hw _ (List.mem_of_getElem? (i := 35) rfl))) (Or.inl (hw _ (List.mem_of_getElem? (i := 42) rfl))) (by decide) (t := (.object "com/example/urd/urd/time/Scheduled")) (t' := (.object "com/example/urd/urd/time/DeadlineQueue$Bucket")) (by decide) (by decide)))
  have f47 : Fld Z h41 a2 "com/example/urd/urd/time/Scheduled" "next" "Lcom/example/urd/urd/time/Scheduled;" (.ref a1) := f39.other W41 (Or.inl (Ne.symm ne_a1_a2))
  have f48 : Fld Z h41 a2 "com/example/urd/urd/time/Scheduled" "previous" "Lcom/example/urd/urd/time/Scheduled;" (.ref a1) := Fw32.other W41 (Or.inl (Ne.symm ne_a1_a2))
  have Fw41 : Fld Z h41 a1 "com/example/urd/urd/time/Scheduled" "bucket" "Lcom/example/urd/urd/time/DeadlineQueue$Bucket;" (.ref a2) := f33.same W41
  obtain ⟨fs, hr, hrun, hended, hW, hsame⟩ := X41.leave (v := none) (fun _ => rfl)
  refine ⟨_, _, R41 _ ?_, hrun, hended, _, _, rfl, ?_, ⟨_, rfl⟩, hW, hsame.mono (by decide) (by decide)⟩
  · exact X41.returnOut hx Bd.returns (hb hby own_d5_33) hr
  · show Q_rmLA Z a1 a2 u1 u2 u3 u4 u5 h0 n0 _ T41.heap _
    rw [e41]
    exact ⟨rfl, N41, K41, f45, f46, Fw41, f48, f47, f42⟩
theorem own_ef_rmLB (m : MethodId) (x0 : Addr) (x1 : Addr) : entryFrame m #[(.ref x0), (.ref x1)] 3 = mkF m 0 #[.val (.ref x0), .val (.ref x1), .unset] [] := by first | (simp [entryFrame, mkF, argsToLocals, Value.category]; done) | rfl
def Q_rmLB (Z : State) (a1 : Addr) (a2 : Addr) (a3 : Addr) (u1 u2 u3 u4 u5 u6 u7 u8 : Value) (h0 : Heap) (n0 : Nat) (v : Option Value) (h : Heap) (L : List Loc) : Prop := v = none ∧ Fr n0 L ∧ Keep h0 h [a1, a2, a3] ∧ Fld Z h a1 "com/example/urd/urd/time/Scheduled" "previous" "Lcom/example/urd/urd/time/Scheduled;" (.ref a3) ∧ Fld Z h a1 "com/example/urd/urd/time/Scheduled" "next" "Lcom/example/urd/urd/time/Scheduled;" (.ref a2) ∧ Fld Z h a1 "com/example/urd/urd/time/Scheduled" "bucket" "Lcom/example/urd/urd/time/DeadlineQueue$Bucket;" (.ref a2) ∧ Fld Z h a2 "com/example/urd/urd/time/Scheduled" "previous" "Lcom/example/urd/urd/time/Scheduled;" (.ref a1) ∧ Fld Z h a2 "com/example/urd/urd/time/Scheduled" "next" "Lcom/example/urd/urd/time/Scheduled;" u4 ∧ Fld Z h a2 "com/example/urd/urd/time/Scheduled" "bucket" "Lcom/example/urd/urd/time/DeadlineQueue$Bucket;" u5 ∧ Fld Z h a3 "com/example/urd/urd/time/Scheduled" "previous" "Lcom/example/urd/urd/time/Scheduled;" u6 ∧ Fld Z h a3 "com/example/urd/urd/time/Scheduled" "next" "Lcom/example/urd/urd/time/Scheduled;" (.ref a1) ∧ Fld Z h a3 "com/example/urd/urd/time/Scheduled" "bucket" "Lcom/example/urd/urd/time/DeadlineQueue$Bucket;" u8
set_option maxRecDepth 65536 in
set_option maxHeartbeats 40000000 in
theorem rmLB (l : Launch) (Z : State) (a0 : Array Value) (hw : ∀ d ∈ tables_1, d.before a0 Z = true) (ws : List Jvm.Cond) (a1 : Addr) (a2 : Addr) (a3 : Addr) (u1 u2 u3 u4 u5 u6 u7 u8 : Value) (h0 : Heap) (n0 : Nat) (Z0 : n0 ≤ h0.size) (F_previous_a1 : Fld Z h0 a1 "com/example/urd/urd/time/Scheduled" "previous" "Lcom/example/urd/urd/time/Scheduled;" u1) (F_next_a1 : Fld Z h0 a1 "com/example/urd/urd/time/Scheduled" "next" "Lcom/example/urd/urd/time/Scheduled;" u2) (F_bucket_a1 : Fld Z h0 a1 "com/example/urd/urd/time/Scheduled" "bucket" "Lcom/example/urd/urd/time/DeadlineQueue$Bucket;" u3) (F_previous_a2 : Fld Z h0 a2 "com/example/urd/urd/time/Scheduled" "previous" "Lcom/example/urd/urd/time/Scheduled;" (.ref a3)) (F_next_a2 : Fld Z h0 a2 "com/example/urd/urd/time/Scheduled" "next" "Lcom/example/urd/urd/time/Scheduled;" u4) (F_bucket_a2 : Fld Z h0 a2 "com/example/urd/urd/time/Scheduled" "bucket" "Lcom/example/urd/urd/time/DeadlineQueue$Bucket;" u5) (F_previous_a3 : Fld Z h0 a3 "com/example/urd/urd/time/Scheduled" "previous" "Lcom/example/urd/urd/time/Scheduled;" u6) (F_next_a3 : Fld Z h0 a3 "com/example/urd/urd/time/Scheduled" "next" "Lcom/example/urd/urd/time/Scheduled;" u7) (F_bucket_a3 : Fld Z h0 a3 "com/example/urd/urd/time/Scheduled" "bucket" "Lcom/example/urd/urd/time/DeadlineQueue$Bucket;" u8) (E_a1 : Exa Z h0 a1 "com/example/urd/urd/time/DeadlineQueue$Bucket") (g_a1 : n0 ≤ a1) (E_a2 : Exa Z h0 a2 "com/example/urd/urd/time/DeadlineQueue$Bucket") (g_a2 : n0 ≤ a2) (E_a3 : Exa Z h0 a3 "com/example/urd/urd/time/DeadlineQueue$Bucket") (g_a3 : n0 ≤ a3) (ne_a1_a2 : a1 ≠ a2) (ne_a1_a3 : a1 ≠ a3) (ne_a2_a3 : a2 ≠ a3)  :
    MetFree l (⟨"com/example/urd/urd/time/Scheduled", "linkInto", "(Lcom/example/urd/urd/time/DeadlineQueue$Bucket;)V"⟩ : MethodName) (head1 (Jvm.Cond.code (⟨"com/example/urd/urd/time/Scheduled", "linkInto", "(Lcom/example/urd/urd/time/DeadlineQueue$Bucket;)V"⟩ : MethodName) prog_28_method_11_code 3 none :: ws) ({ frames := 0, cells := 0, slots := 0, locals := 0 } : Room)) (fun a U => a = #[(.ref a1), (.ref a2)] ∧ Z.Warmed39 U.vm ∧ U.heap = h0) (fun _ _ _ _ _ => True) (fun _ U o U' => ∃ v L, o = .returned v ∧ Q_rmLB Z a1 a2 a3 u1 u2 u3 u4 u5 u6 u7 u8 h0 n0 v U'.heap L ∧ FrameEnd U o U' L ({ frames := 0, cells := 0, slots := 0, locals := 0 } : Room).cells ({ frames := 0, cells := 0, slots := 0, locals := 0 } : Room).slots) := by
  refine MetFree.of_bodySF (plainFor_of_name own_pn0) hisR ?_
  intro p e s m args below meth c s₁ Bd hml0 hP hK
  obtain ⟨rfl, hZ, hh⟩ := hP
  have hx := Bd.exec
  have hby := Bd.bytes
  have hml : c.maxLocals = 3 := hml0
  have hown : s.vm.findClass "com/example/urd/urd/time/Scheduled" = some m.cls := findClass_of_methodNamed Bd.named
  have hnm := (name_of_methodNamed Bd.named Bd.method).1
  have X0 : Stand p l e ({ frames := 0, cells := 0, slots := 0, locals := 0 } : Room) s m #[(.ref a1), (.ref a2)] below meth c s₁ [] 0 0 := Stand.of_body Bd
  have e0 : s₁.heap = h0 := by rw [← hh, Bd.state]; rfl
  have N0 := Fr.nil n0
  have R0 : ∀ t, Steps p.tables e below (s₁.setTop (mkF m 0 #[.val (.ref a1), .val (.ref a2), .unset] [])) t → Steps p.tables e below (s₁.setTop (entryFrame m #[(.ref a1), (.ref a2)] 3)) t := fun t k => castTop (own_ef_rmLB m a1 a2) k
  have R1 : ∀ t, Steps p.tables e below (s₁.setTop (mkF m 4 #[.val (.ref a1), .val (.ref a2), .val (.ref a2)] [(.ref a2), (.ref a1)])) t → Steps p.tables e below (s₁.setTop (entryFrame m #[(.ref a1), (.ref a2)] 3)) t := by
    intro t k
    refine R0 t ?_
    show Steps p.tables e below (s₁.setTop (mkF m 0 #[.val (.ref a1), .val (.ref a2), .unset] [])) _
    refine XS.aloadN X0.here hx rfl (hb hby own_d5_0) rfl rfl ?_
    show Steps p.tables e below (s₁.setTop (mkF m 1 #[.val (.ref a1), .val (.ref a2), .unset] [(.ref a2)])) _
    refine XS.astoreN X0.here hx rfl (hb hby own_d5_1) rfl rfl (l' := #[.val (.ref a1), .val (.ref a2), .val (.ref a2)]) rfl ?_
    show Steps p.tables e below (s₁.setTop (mkF m 2 #[.val (.ref a1), .val (.ref a2), .val (.ref a2)] [])) _
    refine XS.aloadN X0.here hx rfl (hb hby own_d5_2) rfl rfl ?_
    show Steps p.tables e below (s₁.setTop (mkF m 3 #[.val (.ref a1), .val (.ref a2), .val (.ref a2)] [(.ref a1)])) _
    refine XS.aloadN X0.here hx rfl (hb hby own_d5_3) rfl rfl ?_
    exact k
  obtain ⟨T2, X2, e2, st2⟩ := getF X0 hx hZ hown (host := "") (Or.inl (hw _ (List.mem_of_getElem? (i := 32) rfl))) Via.refl e0 F_previous_a2 (g := (mkF m 4 #[.val (.ref a1), .val (.ref a2), .val (.ref a2)] [(.ref a2), (.ref a1)])) rfl rfl (hb hby own_d5_4)
  have R2 : ∀ t, Steps p.tables e below (T2.setTop (mkF m 7 #[.val (.ref a1), .val (.ref a2), .val (.ref a2)] [(.ref a3), (.ref a1)])) t → Steps p.tables e below (s₁.setTop (entryFrame m #[(.ref a1), (.ref a2)] 3)) t := fun t k => R1 t (st2 t k)
  obtain ⟨T3, h3, X3, e3, W3, st3⟩ := putF X2 hx hZ hown (host := "") (Or.inl (hw _ (List.mem_of_getElem? (i := 32) rfl))) Via.refl e2 F_previous_a1 E_a1 (Or.inl (hw _ (List.mem_of_getElem? (i := 33) rfl))) (hw _ (List.mem_of_getElem? (i := 1) rfl)) (ty := (.object "com/example/urd/urd/time/Scheduled")) (by decide) rfl rfl (g := (mkF m 7 #[.val (.ref a1), .val (.ref a2), .val (.ref a2)] [(.ref a3), (.ref a1)])) rfl rfl (hb hby own_d5_7)
  have R3 : ∀ t, Steps p.tables e below (T3.setTop (mkF m 10 #[.val (.ref a1), .val (.ref a2), .val (.ref a2)] [])) t → Steps p.tables e below (s₁.setTop (entryFrame m #[(.ref a1), (.ref a2)] 3)) t := fun t k => R2 t (st3 t k)
  have Z3 : n0 ≤ h3.size := Nat.le_trans Z0 (Keep.of_wr W3).1
  have K3 : Keep h0 h3 [a1, a2, a3] := (Keep.refl h0 [a1, a2, a3]).wr W3 (Or.inl (by simp))
  have N3 := Fr.snoc X3 N0 g_a1
  have f4 : Fld Z h3 a1 "com/example/urd/urd/time/Scheduled" "next" "Lcom/example/urd/urd/time/Scheduled;" u2 := F_next_a1.other W3 (Or.inr (slot_ne (Or.inl (hw _ (List.mem_of_getElem? (i := 35) rfl))) (Or.inl (hw _ (List.mem_of_getElem? (i := 33) rfl))) (by decide) (t := (.object "com/example/urd/urd/time/Scheduled")) (t' := (.object "com/example/urd/urd/time/Scheduled")) (by decide) (by decide)))
  have f5 : Fld Z h3 a1 "com/example/urd/urd/time/Scheduled" "bucket" "Lcom/example/urd/urd/time/DeadlineQueue$Bucket;" u3 := F_bucket_a1.other W3 (Or.inr (slot_ne (Or.inl (hw _ (List.mem_of_getElem? (i := 42) rfl))) (Or.inl (hw _ (List.mem_of_getElem? (i := 33) rfl))) (by decide) (t := (.object "com/example/urd/urd/time/DeadlineQueue$Bucket")) (t' := (.object "com/example/urd/urd/time/Scheduled")) (by decide) (by decide)))
  have f6 : Fld Z h3 a2 "com/example/urd/urd/time/Scheduled" "previous" "Lcom/example/urd/urd/time/Scheduled;" (.ref a3) := F_previous_a2.other W3 (Or.inl (Ne.symm ne_a1_a2))
  have f7 : Fld Z h3 a2 "com/example/urd/urd/time/Scheduled" "next" "Lcom/example/urd/urd/time/Scheduled;" u4 := F_next_a2.other W3 (Or.inl (Ne.symm ne_a1_a2))
  have f8 : Fld Z h3 a2 "com/example/urd/urd/time/Scheduled" "bucket" "Lcom/example/urd/urd/time/DeadlineQueue$Bucket;" u5 := F_bucket_a2.other W3 (Or.inl (Ne.symm ne_a1_a2))
  have f9 : Fld Z h3 a3 "com/example/urd/urd/time/Scheduled" "previous" "Lcom/example/urd/urd/time/Scheduled;" u6 := F_previous_a3.other W3 (Or.inl (Ne.symm ne_a1_a3))
  have f10 : Fld Z h3 a3 "com/example/urd/urd/time/Scheduled" "next" "Lcom/example/urd/urd/time/Scheduled;" u7 := F_next_a3.other W3 (Or.inl (Ne.symm ne_a1_a3))
  have f11 : Fld Z h3 a3 "com/example/urd/urd/time/Scheduled" "bucket" "Lcom/example/urd/urd/time/DeadlineQueue$Bucket;" u8 := F_bucket_a3.other W3 (Or.inl (Ne.symm ne_a1_a3))
  have f12 : Exa Z h3 a1 "com/example/urd/urd/time/DeadlineQueue$Bucket" := E_a1.wr W3
  have f13 : Exa Z h3 a2 "com/example/urd/urd/time/DeadlineQueue$Bucket" := E_a2.wr W3
  have f14 : Exa Z h3 a3 "com/example/urd/urd/time/DeadlineQueue$Bucket" := E_a3.wr W3
  have Fw3 : Fld Z h3 a1 "com/example/urd/urd/time/Scheduled" "previous" "Lcom/example/urd/urd/time/Scheduled;" (.ref a3) := F_previous_a1.same W3
  have R15 : ∀ t, Steps p.tables e below (T3.setTop (mkF m 12 #[.val (.ref a1), .val (.ref a2), .val (.ref a2)] [(.ref a2), (.ref a1)])) t → Steps p.tables e below (s₁.setTop (entryFrame m #[(.ref a1), (.ref a2)] 3)) t := by
    intro t k
    refine R3 t ?_
    show Steps p.tables e below (T3.setTop (mkF m 10 #[.val (.ref a1), .val (.ref a2), .val (.ref a2)] [])) _
    refine XS.aloadN X3.here hx rfl (hb hby own_d5_10) rfl rfl ?_
    show Steps p.tables e below (T3.setTop (mkF m 11 #[.val (.ref a1), .val (.ref a2), .val (.ref a2)] [(.ref a1)])) _
    refine XS.aloadN X3.here hx rfl (hb hby own_d5_11) rfl rfl ?_
    exact k
  obtain ⟨T16, h16, X16, e16, W16, st16⟩ := putF X3 hx hZ hown (host := "") (Or.inl (hw _ (List.mem_of_getElem? (i := 34) rfl))) Via.refl e3 f4 f12 (Or.inl (hw _ (List.mem_of_getElem? (i := 35) rfl))) (hw _ (List.mem_of_getElem? (i := 1) rfl)) (ty := (.object "com/example/urd/urd/time/Scheduled")) (by decide) rfl rfl (g := (mkF m 12 #[.val (.ref a1), .val (.ref a2), .val (.ref a2)] [(.ref a2), (.ref a1)])) rfl rfl (hb hby own_d5_12)
  have R16 : ∀ t, Steps p.tables e below (T16.setTop (mkF m 15 #[.val (.ref a1), .val (.ref a2), .val (.ref a2)] [])) t → Steps p.tables e below (s₁.setTop (entryFrame m #[(.ref a1), (.ref a2)] 3)) t := fun t k => R15 t (st16 t k)
  have Z16 : n0 ≤ h16.size := Nat.le_trans Z3 (Keep.of_wr W16).1
  have K16 : Keep h0 h16 [a1, a2, a3] := K3.wr W16 (Or.inl (by simp))
  have N16 := Fr.snoc X16 N3 g_a1
  have f17 : Fld Z h16 a1 "com/example/urd/urd/time/Scheduled" "bucket" "Lcom/example/urd/urd/time/DeadlineQueue$Bucket;" u3 := f5.other W16 (Or.inr (slot_ne (Or.inl (hw _ (List.mem_of_getElem? (i := 42) rfl))) (Or.inl (hw _ (List.mem_of_getElem? (i := 35) rfl))) (by decide) (t := (.object "com/example/urd/urd/time/DeadlineQueue$Bucket")) (t' := (.object "com/example/urd/urd/time/Scheduled")) (by decide) (by decide)))
  have f18 : Fld Z h16 a2 "com/example/urd/urd/time/Scheduled" "previous" "Lcom/example/urd/urd/time/Scheduled;" (.ref a3) := f6.other W16 (Or.inl (Ne.symm ne_a1_a2))
  have f19 : Fld Z h16 a2 "com/example/urd/urd/time/Scheduled" "next" "Lcom/example/urd/urd/time/Scheduled;" u4 := f7.other W16 (Or.inl (Ne.symm ne_a1_a2))
  have f20 : Fld Z h16 a2 "com/example/urd/urd/time/Scheduled" "bucket" "Lcom/example/urd/urd/time/DeadlineQueue$Bucket;" u5 := f8.other W16 (Or.inl (Ne.symm ne_a1_a2))
  have f21 : Fld Z h16 a3 "com/example/urd/urd/time/Scheduled" "previous" "Lcom/example/urd/urd/time/Scheduled;" u6 := f9.other W16 (Or.inl (Ne.symm ne_a1_a3))
  have f22 : Fld Z h16 a3 "com/example/urd/urd/time/Scheduled" "next" "Lcom/example/urd/urd/time/Scheduled;" u7 := f10.other W16 (Or.inl (Ne.symm ne_a1_a3))
  have f23 : Fld Z h16 a3 "com/example/urd/urd/time/Scheduled" "bucket" "Lcom/example/urd/urd/time/DeadlineQueue$Bucket;" u8 := f11.other W16 (Or.inl (Ne.symm ne_a1_a3))
  have f24 : Exa Z h16 a1 "com/example/urd/urd/time/DeadlineQueue$Bucket" := f12.wr W16
  have f25 : Exa Z h16 a2 "com/example/urd/urd/time/DeadlineQueue$Bucket" := f13.wr W16
  have f26 : Exa Z h16 a3 "com/example/urd/urd/time/DeadlineQueue$Bucket" := f14.wr W16
  have f27 : Fld Z h16 a1 "com/example/urd/urd/time/Scheduled" "previous" "Lcom/example/urd/urd/time/Scheduled;" (.ref a3) := Fw3.other W16 (Or.inr (slot_ne (Or.inl (hw _ (List.mem_of_getElem? (i := 33) rfl))) (Or.inl (hw _ (List.mem_of_getElem? (i := 35) rfl))) (by decide) (t := (.object "com/example/urd/urd/time/Scheduled")) (t' := (.object "com/example/urd/urd/time/Scheduled")) (by decide) (by decide)))
  have Fw16 : Fld Z h16 a1 "com/example/urd/urd/time/Scheduled" "next" "Lcom/example/urd/urd/time/Scheduled;" (.ref a2) := f4.same W16
  have R28 : ∀ t, Steps p.tables e below (T16.setTop (mkF m 16 #[.val (.ref a1), .val (.ref a2), .val (.ref a2)] [(.ref a1)])) t → Steps p.tables e below (s₁.setTop (entryFrame m #[(.ref a1), (.ref a2)] 3)) t := by
    intro t k
    refine R16 t ?_
    show Steps p.tables e below (T16.setTop (mkF m 15 #[.val (.ref a1), .val (.ref a2), .val (.ref a2)] [])) _
    refine XS.aloadN X16.here hx rfl (hb hby own_d5_15) rfl rfl ?_
    exact k
  obtain ⟨T29, X29, e29, st29⟩ := getF X16 hx hZ hown (host := "") (Or.inl (hw _ (List.mem_of_getElem? (i := 32) rfl))) Via.refl e16 f27 (g := (mkF m 16 #[.val (.ref a1), .val (.ref a2), .val (.ref a2)] [(.ref a1)])) rfl rfl (hb hby own_d5_16)
  have R29 : ∀ t, Steps p.tables e below (T29.setTop (mkF m 19 #[.val (.ref a1), .val (.ref a2), .val (.ref a2)] [(.ref a3)])) t → Steps p.tables e below (s₁.setTop (entryFrame m #[(.ref a1), (.ref a2)] 3)) t := fun t k => R28 t (st29 t k)
  have R30 : ∀ t, Steps p.tables e below (T29.setTop (mkF m 20 #[.val (.ref a1), .val (.ref a2), .val (.ref a2)] [(.ref a1), (.ref a3)])) t → Steps p.tables e below (s₁.setTop (entryFrame m #[(.ref a1), (.ref a2)] 3)) t := by
    intro t k
    refine R29 t ?_
    show Steps p.tables e below (T29.setTop (mkF m 19 #[.val (.ref a1), .val (.ref a2), .val (.ref a2)] [(.ref a3)])) _
    refine XS.aloadN X29.here hx rfl (hb hby own_d5_19) rfl rfl ?_
    exact k
  obtain ⟨T31, h31, X31, e31, W31, st31⟩ := putF X29 hx hZ hown (host := "") (Or.inl (hw _ (List.mem_of_getElem? (i := 34) rfl))) Via.refl e29 f22 f26 (Or.inl (hw _ (List.mem_of_getElem? (i := 35) rfl))) (hw _ (List.mem_of_getElem? (i := 1) rfl)) (ty := (.object "com/example/urd/urd/time/Scheduled")) (by decide) rfl rfl (g := (mkF m 20 #[.val (.ref a1), .val (.ref a2), .val (.ref a2)] [(.ref a1), (.ref a3)])) rfl rfl (hb hby own_d5_20)
  have R31 : ∀ t, Steps p.tables e below (T31.setTop (mkF m 23 #[.val (.ref a1), .val (.ref a2), .val (.ref a2)] [])) t → Steps p.tables e below (s₁.setTop (entryFrame m #[(.ref a1), (.ref a2)] 3)) t := fun t k => R30 t (st31 t k)
  have Z31 : n0 ≤ h31.size := Nat.le_trans Z16 (Keep.of_wr W31).1
  have K31 : Keep h0 h31 [a1, a2, a3] := K16.wr W31 (Or.inl (by simp))
  have N31 := Fr.snoc X31 N16 g_a3
  have f32 : Fld Z h31 a1 "com/example/urd/urd/time/Scheduled" "bucket" "Lcom/example/urd/urd/time/DeadlineQueue$Bucket;" u3 := f17.other W31 (Or.inl ne_a1_a3)
  have f33 : Fld Z h31 a2 "com/example/urd/urd/time/Scheduled" "previous" "Lcom/example/urd/urd/time/Scheduled;" (.ref a3) := f18.other W31 (Or.inl ne_a2_a3)
  have f34 : Fld Z h31 a2 "com/example/urd/urd/time/Scheduled" "next" "Lcom/example/urd/urd/time/Scheduled;" u4 := f19.other W31 (Or.inl ne_a2_a3)
  have f35 : Fld Z h31 a2 "com/example/urd/urd/time/Scheduled" "bucket" "Lcom/example/urd/urd/time/DeadlineQueue$Bucket;" u5 := f20.other W31 (Or.inl ne_a2_a3)
  have f36 : Fld Z h31 a3 "com/example/urd/urd/time/Scheduled" "previous" "Lcom/example/urd/urd/time/Scheduled;" u6 := f21.other W31 (Or.inr (slot_ne (Or.inl (hw _ (List.mem_of_getElem? (i := 33) rfl))) (Or.inl (hw _ (List.mem_of_getElem? (i := 35) rfl))) (by decide) (t := (.object "com/example/urd/urd/time/Scheduled")) (t' := (.object "com/example/urd/urd/time/Scheduled")) (by decide) (by decide)))
  have f37 : Fld Z h31 a3 "com/example/urd/urd/time/Scheduled" "bucket" "Lcom/example/urd/urd/time/DeadlineQueue$Bucket;" u8 := f23.other W31 (Or.inr (slot_ne (Or.inl (hw _ (List.mem_of_getElem? (i := 42) rfl))) (Or.inl (hw _ (List.mem_of_getElem? (i := 35) rfl))) (by decide) (t := (.object "com/example/urd/urd/time/DeadlineQueue$Bucket")) (t' := (.object "com/example/urd/urd/time/Scheduled")) (by decide) (by decide)))
  have f38 : Exa Z h31 a1 "com/example/urd/urd/time/DeadlineQueue$Bucket" := f24.wr W31
  have f39 : Exa Z h31 a2 "com/example/urd/urd/time/DeadlineQueue$Bucket" := f25.wr W31
  have f40 : Exa Z h31 a3 "com/example/urd/urd/time/DeadlineQueue$Bucket" := f26.wr W31
  have f41 : Fld Z h31 a1 "com/example/urd/urd/time/Scheduled" "previous" "Lcom/example/urd/urd/time/Scheduled;" (.ref a3) := f27.other W31 (Or.inl ne_a1_a3)
  have f42 : Fld Z h31 a1 "com/example/urd/urd/time/Scheduled" "next" "Lcom/example/urd/urd/time/Scheduled;" (.ref a2) := Fw16.other W31 (Or.inl ne_a1_a3)
  have Fw31 : Fld Z h31 a3 "com/example/urd/urd/time/Scheduled" "next" "Lcom/example/urd/urd/time/Scheduled;" (.ref a1) := f22.same W31
  have R43 : ∀ t, Steps p.tables e below (T31.setTop (mkF m 25 #[.val (.ref a1), .val (.ref a2), .val (.ref a2)] [(.ref a1), (.ref a2)])) t → Steps p.tables e below (s₁.setTop (entryFrame m #[(.ref a1), (.ref a2)] 3)) t := by
    intro t k
    refine R31 t ?_
    show Steps p.tables e below (T31.setTop (mkF m 23 #[.val (.ref a1), .val (.ref a2), .val (.ref a2)] [])) _
    refine XS.aloadN X31.here hx rfl (hb hby own_d5_23) rfl rfl ?_
    show Steps p.tables e below (T31.setTop (mkF m 24 #[.val (.ref a1), .val (.ref a2), .val (.ref a2)] [(.ref a2)])) _
    refine XS.aloadN X31.here hx rfl (hb hby own_d5_24) rfl rfl ?_
    exact k
  obtain ⟨T44, h44, X44, e44, W44, st44⟩ := putF X31 hx hZ hown (host := "") (Or.inl (hw _ (List.mem_of_getElem? (i := 32) rfl))) Via.refl e31 f33 f39 (Or.inl (hw _ (List.mem_of_getElem? (i := 33) rfl))) (hw _ (List.mem_of_getElem? (i := 1) rfl)) (ty := (.object "com/example/urd/urd/time/Scheduled")) (by decide) rfl rfl (g := (mkF m 25 #[.val (.ref a1), .val (.ref a2), .val (.ref a2)] [(.ref a1), (.ref a2)])) rfl rfl (hb hby own_d5_25)
  have R44 : ∀ t, Steps p.tables e below (T44.setTop (mkF m 28 #[.val (.ref a1), .val (.ref a2), .val (.ref a2)] [])) t → Steps p.tables e below (s₁.setTop (entryFrame m #[(.ref a1), (.ref a2)] 3)) t := fun t k => R43 t (st44 t k)
  have Z44 : n0 ≤ h44.size := Nat.le_trans Z31 (Keep.of_wr W44).1
  have K44 : Keep h0 h44 [a1, a2, a3] := K31.wr W44 (Or.inl (by simp))
  have N44 := Fr.snoc X44 N31 g_a2
  have f45 : Fld Z h44 a1 "com/example/urd/urd/time/Scheduled" "bucket" "Lcom/example/urd/urd/time/DeadlineQueue$Bucket;" u3 := f32.other W44 (Or.inl ne_a1_a2)
  have f46 : Fld Z h44 a2 "com/example/urd/urd/time/Scheduled" "next" "Lcom/example/urd/urd/time/Scheduled;" u4 := f34.other W44 (Or.inr (slot_ne (Or.inl (hw _ (List.mem_of_getElem? (i := 35) rfl))) (Or.inl (hw _ (List.mem_of_getElem? (i := 33) rfl))) (by decide) (t := (.object "com/example/urd/urd/time/Scheduled")) (t' := (.object "com/example/urd/urd/time/Scheduled")) (by decide) (by decide)))
  have f47 : Fld Z h44 a2 "com/example/urd/urd/time/Scheduled" "bucket" "Lcom/example/urd/urd/time/DeadlineQueue$Bucket;" u5 := f35.other W44 (Or.inr (slot_ne (Or.inl (hw _ (List.mem_of_getElem? (i := 42) rfl))) (Or.inl (hw _ (List.mem_of_getElem? (i := 33) rfl))) (by decide) (t := (.object "com/example/urd/urd/time/DeadlineQueue$Bucket")) (t' := (.object "com/example/urd/urd/time/Scheduled")) (by decide) (by decide)))
  have f48 : Fld Z h44 a3 "com/example/urd/urd/time/Scheduled" "previous" "Lcom/example/urd/urd/time/Scheduled;" u6 := f36.other W44 (Or.inl (Ne.symm ne_a2_a3))
  have f49 : Fld Z h44 a3 "com/example/urd/urd/time/Scheduled" "bucket" "Lcom/example/urd/urd/time/DeadlineQueue$Bucket;" u8 := f37.other W44 (Or.inl (Ne.symm ne_a2_a3))
  have f50 : Exa Z h44 a1 "com/example/urd/urd/time/DeadlineQueue$Bucket" := f38.wr W44
  have f51 : Exa Z h44 a2 "com/example/urd/urd/time/DeadlineQueue$Bucket" := f39.wr W44
  have f52 : Exa Z h44 a3 "com/example/urd/urd/time/DeadlineQueue$Bucket" := f40.wr W44
  have f53 : Fld Z h44 a1 "com/example/urd/urd/time/Scheduled" "previous" "Lcom/example/urd/urd/time/Scheduled;" (.ref a3) := f41.other W44 (Or.inl ne_a1_a2)
  have f54 : Fld Z h44 a1 "com/example/urd/urd/time/Scheduled" "next" "Lcom/example/urd/urd/time/Scheduled;" (.ref a2) := f42.other W44 (Or.inl ne_a1_a2)
  have f55 : Fld Z h44 a3 "com/example/urd/urd/time/Scheduled" "next" "Lcom/example/urd/urd/time/Scheduled;" (.ref a1) := Fw31.other W44 (Or.inl (Ne.symm ne_a2_a3))
  have Fw44 : Fld Z h44 a2 "com/example/urd/urd/time/Scheduled" "previous" "Lcom/example/urd/urd/time/Scheduled;" (.ref a1) := f33.same W44
  have R56 : ∀ t, Steps p.tables e below (T44.setTop (mkF m 30 #[.val (.ref a1), .val (.ref a2), .val (.ref a2)] [(.ref a2), (.ref a1)])) t → Steps p.tables e below (s₁.setTop (entryFrame m #[(.ref a1), (.ref a2)] 3)) t := by
    intro t k
    refine R44 t ?_
    show Steps p.tables e below (T44.setTop (mkF m 28 #[.val (.ref a1), .val (.ref a2), .val (.ref a2)] [])) _
    refine XS.aloadN X44.here hx rfl (hb hby own_d5_28) rfl rfl ?_
    show Steps p.tables e below (T44.setTop (mkF m 29 #[.val (.ref a1), .val (.ref a2), .val (.ref a2)] [(.ref a1)])) _
    refine XS.aloadN X44.here hx rfl (hb hby own_d5_29) rfl rfl ?_
    exact k
  obtain ⟨T57, h57, X57, e57, W57, st57⟩ := putF X44 hx hZ hown (host := "") (Or.inl (hw _ (List.mem_of_getElem? (i := 41) rfl))) Via.refl e44 f45 f50 (Or.inl (hw _ (List.mem_of_getElem? (i := 42) rfl))) (hw _ (List.mem_of_getElem? (i := 1) rfl)) (ty := (.object "com/example/urd/urd/time/DeadlineQueue$Bucket")) (by decide) rfl rfl (g := (mkF m 30 #[.val (.ref a1), .val (.ref a2), .val (.ref a2)] [(.ref a2), (.ref a1)])) rfl rfl (hb hby own_d5_30)
  have R57 : ∀ t, Steps p.tables e below (T57.setTop (mkF m 33 #[.val (.ref a1), .val (.ref a2), .val (.ref a2)] [])) t → Steps p.tables e below (s₁.setTop (entryFrame m #[(.ref a1), (.ref a2)] 3)) t := fun t k => R56 t (st57 t k)
  have Z57 : n0 ≤ h57.size := Nat.le_trans Z44 (Keep.of_wr W57).1
  have K57 : Keep h0 h57 [a1, a2, a3] := K44.wr W57 (Or.inl (by simp))
  have N57 := Fr.snoc X57 N44 g_a1
  have f58 : Fld Z h57 a2 "com/example/urd/urd/time/Scheduled" "next" "Lcom/example/urd/urd/time/Scheduled;" u4 := f46.other W57 (Or.inl (Ne.symm ne_a1_a2))
  have f59 : Fld Z h57 a2 "com/example/urd/urd/time/Scheduled" "bucket" "Lcom/example/urd/urd/time/DeadlineQueue$Bucket;" u5 := f47.other W57 (Or.inl (Ne.symm ne_a1_a2))
  have f60 : Fld Z h57 a3 "com/example/urd/urd/time/Scheduled" "previous" "Lcom/example/urd/urd/time/Scheduled;" u6 := f48.other W57 (Or.inl (Ne.symm ne_a1_a3))
  have f61 : Fld Z h57 a3 "com/example/urd/urd/time/Scheduled" "bucket" "Lcom/example/urd/urd/time/DeadlineQueue$Bucket;" u8 := f49.other W57 (Or.inl (Ne.symm ne_a1_a3))
  have f62 : Exa Z h57 a1 "com/example/urd/urd/time/DeadlineQueue$Bucket" := f50.wr W57
  have f63 : Exa Z h57 a2 "com/example/urd/urd/time/DeadlineQueue$Bucket" := f51.wr W57
  have f64 : Exa Z h57 a3 "com/example/urd/urd/time/DeadlineQueue$Bucket" := f52.wr W57
  have f65 : Fld Z h57 a1 "com/example/urd/urd/time/Scheduled" "previous" "Lcom/example/urd/urd/time/Scheduled;" (.ref a3) := f53.other W57 (Or.inr (slot_ne (Or.inl (hw _ (List.mem_of_getElem? (i := 33) rfl))) (Or.inl (hw _ (List.mem_of_getElem? (i := 42) rfl))) (by decide) (t := (.object "com/example/urd/urd/time/Scheduled")) (t' := (.object "com/example/urd/urd/time/DeadlineQueue$Bucket")) (by decide) (by decide)))
  have f66 : Fld Z h57 a1 "com/example/urd/urd/time/Scheduled" "next" "Lcom/example/urd/urd/time/Scheduled;" (.ref a2) := f54.other W57 (Or.inr (slot_ne (Or.inl (hw _ (List.mem_of_getElem? (i := 35) rfl))) (Or.inl (hw _ (List.mem_of_getElem? (i := 42) rfl))) (by decide) (t := (.object "com/example/urd/urd/time/Scheduled")) (t' := (.object "com/example/urd/urd/time/DeadlineQueue$Bucket")) (by decide) (by decide)))
  have f67 : Fld Z h57 a3 "com/example/urd/urd/time/Scheduled" "next" "Lcom/example/urd/urd/time/Scheduled;" (.ref a1) := f55.other W57 (Or.inl (Ne.symm ne_a1_a3))
  have f68 : Fld Z h57 a2 "com/example/urd/urd/time/Scheduled" "previous" "Lcom/example/urd/urd/time/Scheduled;" (.ref a1) := Fw44.other W57 (Or.inl (Ne.symm ne_a1_a2))
  have Fw57 : Fld Z h57 a1 "com/example/urd/urd/time/Scheduled" "bucket" "Lcom/example/urd/urd/time/DeadlineQueue$Bucket;" (.ref a2) := f45.same W57
  obtain ⟨fs, hr, hrun, hended, hW, hsame⟩ := X57.leave (v := none) (fun _ => rfl)
  refine ⟨_, _, R57 _ ?_, hrun, hended, _, _, rfl, ?_, ⟨_, rfl⟩, hW, hsame.mono (by decide) (by decide)⟩
  · exact X57.returnOut hx Bd.returns (hb hby own_d5_33) hr
  · show Q_rmLB Z a1 a2 a3 u1 u2 u3 u4 u5 u6 u7 u8 h0 n0 _ T57.heap _
    rw [e57]
    exact ⟨rfl, N57, K57, f65, f66, Fw57, f68, f58, f59, f60, f67, f61⟩
theorem own_ef_rmU (m : MethodId) (x0 : Addr) : entryFrame m #[(.ref x0)] 1 = mkF m 0 #[.val (.ref x0)] [] := by first | (simp [entryFrame, mkF, argsToLocals, Value.category]; done) | rfl
theorem own_d6_0 : decode prog_28_method_12_code 0 = .ok (.aload_n 0, 1) := by decide +kernel
theorem own_d6_1 : decode prog_28_method_12_code 1 = .ok (.getfield 47, 3) := by decide +kernel
theorem own_d6_4 : decode prog_28_method_12_code 4 = .ok (.aload_n 0, 1) := by decide +kernel
theorem own_d6_5 : decode prog_28_method_12_code 5 = .ok (.getfield 43, 3) := by decide +kernel
theorem own_d6_8 : decode prog_28_method_12_code 8 = .ok (.putfield 43, 3) := by decide +kernel
theorem own_d6_11 : decode prog_28_method_12_code 11 = .ok (.aload_n 0, 1) := by decide +kernel
theorem own_d6_12 : decode prog_28_method_12_code 12 = .ok (.getfield 43, 3) := by decide +kernel
theorem own_d6_15 : decode prog_28_method_12_code 15 = .ok (.aload_n 0, 1) := by decide +kernel
theorem own_d6_16 : decode prog_28_method_12_code 16 = .ok (.getfield 47, 3) := by decide +kernel
theorem own_d6_19 : decode prog_28_method_12_code 19 = .ok (.putfield 47, 3) := by decide +kernel
theorem own_d6_22 : decode prog_28_method_12_code 22 = .ok (.aload_n 0, 1) := by decide +kernel
theorem own_d6_23 : decode prog_28_method_12_code 23 = .ok (.aconst_null, 1) := by decide +kernel
theorem own_d6_24 : decode prog_28_method_12_code 24 = .ok (.putfield 47, 3) := by decide +kernel
theorem own_d6_27 : decode prog_28_method_12_code 27 = .ok (.aload_n 0, 1) := by decide +kernel
theorem own_d6_28 : decode prog_28_method_12_code 28 = .ok (.aconst_null, 1) := by decide +kernel
theorem own_d6_29 : decode prog_28_method_12_code 29 = .ok (.putfield 43, 3) := by decide +kernel
theorem own_d6_32 : decode prog_28_method_12_code 32 = .ok (.aload_n 0, 1) := by decide +kernel
theorem own_d6_33 : decode prog_28_method_12_code 33 = .ok (.aconst_null, 1) := by decide +kernel
theorem own_d6_34 : decode prog_28_method_12_code 34 = .ok (.putfield 39, 3) := by decide +kernel
theorem own_d6_37 : decode prog_28_method_12_code 37 = .ok (.return_, 1) := by decide +kernel
def Q_rmU (Z : State) (a1 : Addr) (a2 a3 : Addr) (u3 u4 u5 u6 u7 u8 u9 : Value) (h0 : Heap) (n0 : Nat) (v : Option Value) (h : Heap) (L : List Loc) : Prop := v = none ∧ Fr n0 L ∧ Keep h0 h [a1, a2, a3] ∧ Fld Z h a1 "com/example/urd/urd/time/Scheduled" "previous" "Lcom/example/urd/urd/time/Scheduled;" .null ∧ Fld Z h a1 "com/example/urd/urd/time/Scheduled" "next" "Lcom/example/urd/urd/time/Scheduled;" .null ∧ Fld Z h a1 "com/example/urd/urd/time/Scheduled" "bucket" "Lcom/example/urd/urd/time/DeadlineQueue$Bucket;" .null ∧ Fld Z h a2 "com/example/urd/urd/time/Scheduled" "previous" "Lcom/example/urd/urd/time/Scheduled;" u4 ∧ Fld Z h a2 "com/example/urd/urd/time/Scheduled" "next" "Lcom/example/urd/urd/time/Scheduled;" (.ref a3) ∧ Fld Z h a2 "com/example/urd/urd/time/Scheduled" "bucket" "Lcom/example/urd/urd/time/DeadlineQueue$Bucket;" u6 ∧ Fld Z h a3 "com/example/urd/urd/time/Scheduled" "previous" "Lcom/example/urd/urd/time/Scheduled;" (.ref a2) ∧ Fld Z h a3 "com/example/urd/urd/time/Scheduled" "next" "Lcom/example/urd/urd/time/Scheduled;" u8 ∧ Fld Z h a3 "com/example/urd/urd/time/Scheduled" "bucket" "Lcom/example/urd/urd/time/DeadlineQueue$Bucket;" u9
set_option maxRecDepth 65536 in
set_option maxHeartbeats 40000000 in
theorem rmU (l : Launch) (Z : State) (a0 : Array Value) (hw : ∀ d ∈ tables_1, d.before a0 Z = true) (ws : List Jvm.Cond) (a1 : Addr) (a2 a3 : Addr) (u3 u4 u5 u6 u7 u8 u9 : Value) (h0 : Heap) (n0 : Nat) (Z0 : n0 ≤ h0.size) (F_previous_a1 : Fld Z h0 a1 "com/example/urd/urd/time/Scheduled" "previous" "Lcom/example/urd/urd/time/Scheduled;" (.ref a2)) (F_next_a1 : Fld Z h0 a1 "com/example/urd/urd/time/Scheduled" "next" "Lcom/example/urd/urd/time/Scheduled;" (.ref a3)) (F_bucket_a1 : Fld Z h0 a1 "com/example/urd/urd/time/Scheduled" "bucket" "Lcom/example/urd/urd/time/DeadlineQueue$Bucket;" u3) (F_previous_a2 : Fld Z h0 a2 "com/example/urd/urd/time/Scheduled" "previous" "Lcom/example/urd/urd/time/Scheduled;" u4) (F_next_a2 : Fld Z h0 a2 "com/example/urd/urd/time/Scheduled" "next" "Lcom/example/urd/urd/time/Scheduled;" u5) (F_bucket_a2 : Fld Z h0 a2 "com/example/urd/urd/time/Scheduled" "bucket" "Lcom/example/urd/urd/time/DeadlineQueue$Bucket;" u6) (F_previous_a3 : Fld Z h0 a3 "com/example/urd/urd/time/Scheduled" "previous" "Lcom/example/urd/urd/time/Scheduled;" u7) (F_next_a3 : Fld Z h0 a3 "com/example/urd/urd/time/Scheduled" "next" "Lcom/example/urd/urd/time/Scheduled;" u8) (F_bucket_a3 : Fld Z h0 a3 "com/example/urd/urd/time/Scheduled" "bucket" "Lcom/example/urd/urd/time/DeadlineQueue$Bucket;" u9) (E_a1 : Exa Z h0 a1 "com/example/urd/urd/time/DeadlineQueue$Bucket") (g_a1 : n0 ≤ a1) (E_a2 : Exa Z h0 a2 "com/example/urd/urd/time/DeadlineQueue$Bucket") (g_a2 : n0 ≤ a2) (E_a3 : Exa Z h0 a3 "com/example/urd/urd/time/DeadlineQueue$Bucket") (g_a3 : n0 ≤ a3) (ne_a1_a2 : a1 ≠ a2) (ne_a1_a3 : a1 ≠ a3) (ne_a2_a3 : a2 ≠ a3)  :
    MetFree l (⟨"com/example/urd/urd/time/Scheduled", "unlink", "()V"⟩ : MethodName) (head1 (Jvm.Cond.code (⟨"com/example/urd/urd/time/Scheduled", "unlink", "()V"⟩ : MethodName) prog_28_method_12_code 1 none :: ws) ({ frames := 0, cells := 0, slots := 0, locals := 0 } : Room)) (fun a U => a = #[(.ref a1)] ∧ Z.Warmed39 U.vm ∧ U.heap = h0) (fun _ _ _ _ _ => True) (fun _ U o U' => ∃ v L, o = .returned v ∧ Q_rmU Z a1 a2 a3 u3 u4 u5 u6 u7 u8 u9 h0 n0 v U'.heap L ∧ FrameEnd U o U' L ({ frames := 0, cells := 0, slots := 0, locals := 0 } : Room).cells ({ frames := 0, cells := 0, slots := 0, locals := 0 } : Room).slots) := by
  refine MetFree.of_bodySF (plainFor_of_name own_pn0) hisR ?_
  intro p e s m args below meth c s₁ Bd hml0 hP hK
  obtain ⟨rfl, hZ, hh⟩ := hP
  have hx := Bd.exec
  have hby := Bd.bytes
  have hml : c.maxLocals = 1 := hml0
  have hown : s.vm.findClass "com/example/urd/urd/time/Scheduled" = some m.cls := findClass_of_methodNamed Bd.named
  have hnm := (name_of_methodNamed Bd.named Bd.method).1
  have X0 : Stand p l e ({ frames := 0, cells := 0, slots := 0, locals := 0 } : Room) s m #[(.ref a1)] below meth c s₁ [] 0 0 := Stand.of_body Bd
  have e0 : s₁.heap = h0 := by rw [← hh, Bd.state]; rfl
  have N0 := Fr.nil n0
  have R0 : ∀ t, Steps p.tables e below (s₁.setTop (mkF m 0 #[.val (.ref a1)] [])) t → Steps p.tables e below (s₁.setTop (entryFrame m #[(.ref a1)] 1)) t := fun t k => castTop (own_ef_rmU m a1) k
  have R1 : ∀ t, Steps p.tables e below (s₁.setTop (mkF m 1 #[.val (.ref a1)] [(.ref a1)])) t → Steps p.tables e below (s₁.setTop (entryFrame m #[(.ref a1)] 1)) t := by
    intro t k
    refine R0 t ?_
    show Steps p.tables e below (s₁.setTop (mkF m 0 #[.val (.ref a1)] [])) _
    refine XS.aloadN X0.here hx rfl (hb hby own_d6_0) rfl rfl ?_
    exact k
  obtain ⟨T2, X2, e2, st2⟩ := getF X0 hx hZ hown (host := "") (Or.inl (hw _ (List.mem_of_getElem? (i := 32) rfl))) Via.refl e0 F_previous_a1 (g := (mkF m 1 #[.val (.ref a1)] [(.ref a1)])) rfl rfl (hb hby own_d6_1)
  have R2 : ∀ t, Steps p.tables e below (T2.setTop (mkF m 4 #[.val (.ref a1)] [(.ref a2)])) t → Steps p.tables e below (s₁.setTop (entryFrame m #[(.ref a1)] 1)) t := fun t k => R1 t (st2 t k)
  have R3 : ∀ t, Steps p.tables e below (T2.setTop (mkF m 5 #[.val (.ref a1)] [(.ref a1), (.ref a2)])) t → Steps p.tables e below (s₁.setTop (entryFrame m #[(.ref a1)] 1)) t := by
    intro t k
    refine R2 t ?_
    show Steps p.tables e below (T2.setTop (mkF m 4 #[.val (.ref a1)] [(.ref a2)])) _
    refine XS.aloadN X2.here hx rfl (hb hby own_d6_4) rfl rfl ?_
    exact k
  obtain ⟨T4, X4, e4, st4⟩ := getF X2 hx hZ hown (host := "") (Or.inl (hw _ (List.mem_of_getElem? (i := 34) rfl))) Via.refl e2 F_next_a1 (g := (mkF m 5 #[.val (.ref a1)] [(.ref a1), (.ref a2)])) rfl rfl (hb hby own_d6_5)
  have R4 : ∀ t, Steps p.tables e below (T4.setTop (mkF m 8 #[.val (.ref a1)] [(.ref a3), (.ref a2)])) t → Steps p.tables e below (s₁.setTop (entryFrame m #[(.ref a1)] 1)) t := fun t k => R3 t (st4 t k)
  obtain ⟨T5, h5, X5, e5, W5, st5⟩ := putF X4 hx hZ hown (host := "") (Or.inl (hw _ (List.mem_of_getElem? (i := 34) rfl))) Via.refl e4 F_next_a2 E_a2 (Or.inl (hw _ (List.mem_of_getElem? (i := 35) rfl))) (hw _ (List.mem_of_getElem? (i := 1) rfl)) (ty := (.object "com/example/urd/urd/time/Scheduled")) (by decide) rfl rfl (g := (mkF m 8 #[.val (.ref a1)] [(.ref a3), (.ref a2)])) rfl rfl (hb hby own_d6_8)
  have R5 : ∀ t, Steps p.tables e below (T5.setTop (mkF m 11 #[.val (.ref a1)] [])) t → Steps p.tables e below (s₁.setTop (entryFrame m #[(.ref a1)] 1)) t := fun t k => R4 t (st5 t k)
  have Z5 : n0 ≤ h5.size := Nat.le_trans Z0 (Keep.of_wr W5).1
  have K5 : Keep h0 h5 [a1, a2, a3] := (Keep.refl h0 [a1, a2, a3]).wr W5 (Or.inl (by simp))
  have N5 := Fr.snoc X5 N0 g_a2
  have f6 : Fld Z h5 a1 "com/example/urd/urd/time/Scheduled" "previous" "Lcom/example/urd/urd/time/Scheduled;" (.ref a2) := F_previous_a1.other W5 (Or.inl ne_a1_a2)
  have f7 : Fld Z h5 a1 "com/example/urd/urd/time/Scheduled" "next" "Lcom/example/urd/urd/time/Scheduled;" (.ref a3) := F_next_a1.other W5 (Or.inl ne_a1_a2)
  have f8 : Fld Z h5 a1 "com/example/urd/urd/time/Scheduled" "bucket" "Lcom/example/urd/urd/time/DeadlineQueue$Bucket;" u3 := F_bucket_a1.other W5 (Or.inl ne_a1_a2)
  have f9 : Fld Z h5 a2 "com/example/urd/urd/time/Scheduled" "previous" "Lcom/example/urd/urd/time/Scheduled;" u4 := F_previous_a2.other W5 (Or.inr (slot_ne (Or.inl (hw _ (List.mem_of_getElem? (i := 33) rfl))) (Or.inl (hw _ (List.mem_of_getElem? (i := 35) rfl))) (by decide) (t := (.object "com/example/urd/urd/time/Scheduled")) (t' := (.object "com/example/urd/urd/time/Scheduled")) (by decide) (by decide)))
  have f10 : Fld Z h5 a2 "com/example/urd/urd/time/Scheduled" "bucket" "Lcom/example/urd/urd/time/DeadlineQueue$Bucket;" u6 := F_bucket_a2.other W5 (Or.inr (slot_ne (Or.inl (hw _ (List.mem_of_getElem? (i := 42) rfl))) (Or.inl (hw _ (List.mem_of_getElem? (i := 35) rfl))) (by decide) (t := (.object "com/example/urd/urd/time/DeadlineQueue$Bucket")) (t' := (.object "com/example/urd/urd/time/Scheduled")) (by decide) (by decide)))
  have f11 : Fld Z h5 a3 "com/example/urd/urd/time/Scheduled" "previous" "Lcom/example/urd/urd/time/Scheduled;" u7 := F_previous_a3.other W5 (Or.inl (Ne.symm ne_a2_a3))
  have f12 : Fld Z h5 a3 "com/example/urd/urd/time/Scheduled" "next" "Lcom/example/urd/urd/time/Scheduled;" u8 := F_next_a3.other W5 (Or.inl (Ne.symm ne_a2_a3))
  have f13 : Fld Z h5 a3 "com/example/urd/urd/time/Scheduled" "bucket" "Lcom/example/urd/urd/time/DeadlineQueue$Bucket;" u9 := F_bucket_a3.other W5 (Or.inl (Ne.symm ne_a2_a3))
  have f14 : Exa Z h5 a1 "com/example/urd/urd/time/DeadlineQueue$Bucket" := E_a1.wr W5
  have f15 : Exa Z h5 a2 "com/example/urd/urd/time/DeadlineQueue$Bucket" := E_a2.wr W5
  have f16 : Exa Z h5 a3 "com/example/urd/urd/time/DeadlineQueue$Bucket" := E_a3.wr W5
  have Fw5 : Fld Z h5 a2 "com/example/urd/urd/time/Scheduled" "next" "Lcom/example/urd/urd/time/Scheduled;" (.ref a3) := F_next_a2.same W5
  have R17 : ∀ t, Steps p.tables e below (T5.setTop (mkF m 12 #[.val (.ref a1)] [(.ref a1)])) t → Steps p.tables e below (s₁.setTop (entryFrame m #[(.ref a1)] 1)) t := by
    intro t k
    refine R5 t ?_
    show Steps p.tables e below (T5.setTop (mkF m 11 #[.val (.ref a1)] [])) _
    refine XS.aloadN X5.here hx rfl (hb hby own_d6_11) rfl rfl ?_
    exact k
  obtain ⟨T18, X18, e18, st18⟩ := getF X5 hx hZ hown (host := "") (Or.inl (hw _ (List.mem_of_getElem? (i := 34) rfl))) Via.refl e5 f7 (g := (mkF m 12 #[.val (.ref a1)] [(.ref a1)])) rfl rfl (hb hby own_d6_12)
  have R18 : ∀ t, Steps p.tables e below (T18.setTop (mkF m 15 #[.val (.ref a1)] [(.ref a3)])) t → Steps p.tables e below (s₁.setTop (entryFrame m #[(.ref a1)] 1)) t := fun t k => R17 t (st18 t k)
  have R19 : ∀ t, Steps p.tables e below (T18.setTop (mkF m 16 #[.val (.ref a1)] [(.ref a1), (.ref a3)])) t → Steps p.tables e below (s₁.setTop (entryFrame m #[(.ref a1)] 1)) t := by
    intro t k
    refine R18 t ?_
    show Steps p.tables e below (T18.setTop (mkF m 15 #[.val (.ref a1)] [(.ref a3)])) _
    refine XS.aloadN X18.here hx rfl (hb hby own_d6_15) rfl rfl ?_
    exact k
  obtain ⟨T20, X20, e20, st20⟩ := getF X18 hx hZ hown (host := "") (Or.inl (hw _ (List.mem_of_getElem? (i := 32) rfl))) Via.refl e18 f6 (g := (mkF m 16 #[.val (.ref a1)] [(.ref a1), (.ref a3)])) rfl rfl (hb hby own_d6_16)
  have R20 : ∀ t, Steps p.tables e below (T20.setTop (mkF m 19 #[.val (.ref a1)] [(.ref a2), (.ref a3)])) t → Steps p.tables e below (s₁.setTop (entryFrame m #[(.ref a1)] 1)) t := fun t k => R19 t (st20 t k)
  obtain ⟨T21, h21, X21, e21, W21, st21⟩ := putF X20 hx hZ hown (host := "") (Or.inl (hw _ (List.mem_of_getElem? (i := 32) rfl))) Via.refl e20 f11 f16 (Or.inl (hw _ (List.mem_of_getElem? (i := 33) rfl))) (hw _ (List.mem_of_getElem? (i := 1) rfl)) (ty := (.object "com/example/urd/urd/time/Scheduled")) (by decide) rfl rfl (g := (mkF m 19 #[.val (.ref a1)] [(.ref a2), (.ref a3)])) rfl rfl (hb hby own_d6_19)
  have R21 : ∀ t, Steps p.tables e below (T21.setTop (mkF m 22 #[.val (.ref a1)] [])) t → Steps p.tables e below (s₁.setTop (entryFrame m #[(.ref a1)] 1)) t := fun t k => R20 t (st21 t k)
  have Z21 : n0 ≤ h21.size := Nat.le_trans Z5 (Keep.of_wr W21).1
  have K21 : Keep h0 h21 [a1, a2, a3] := K5.wr W21 (Or.inl (by simp))
  have N21 := Fr.snoc X21 N5 g_a3
  have f22 : Fld Z h21 a1 "com/example/urd/urd/time/Scheduled" "previous" "Lcom/example/urd/urd/time/Scheduled;" (.ref a2) := f6.other W21 (Or.inl ne_a1_a3)
  have f23 : Fld Z h21 a1 "com/example/urd/urd/time/Scheduled" "next" "Lcom/example/urd/urd/time/Scheduled;" (.ref a3) := f7.other W21 (Or.inl ne_a1_a3)
  have f24 : Fld Z h21 a1 "com/example/urd/urd/time/Scheduled" "bucket" "Lcom/example/urd/urd/time/DeadlineQueue$Bucket;" u3 := f8.other W21 (Or.inl ne_a1_a3)
  have f25 : Fld Z h21 a2 "com/example/urd/urd/time/Scheduled" "previous" "Lcom/example/urd/urd/time/Scheduled;" u4 := f9.other W21 (Or.inl ne_a2_a3)
  have f26 : Fld Z h21 a2 "com/example/urd/urd/time/Scheduled" "bucket" "Lcom/example/urd/urd/time/DeadlineQueue$Bucket;" u6 := f10.other W21 (Or.inl ne_a2_a3)
  have f27 : Fld Z h21 a3 "com/example/urd/urd/time/Scheduled" "next" "Lcom/example/urd/urd/time/Scheduled;" u8 := f12.other W21 (Or.inr (slot_ne (Or.inl (hw _ (List.mem_of_getElem? (i := 35) rfl))) (Or.inl (hw _ (List.mem_of_getElem? (i := 33) rfl))) (by decide) (t := (.object "com/example/urd/urd/time/Scheduled")) (t' := (.object "com/example/urd/urd/time/Scheduled")) (by decide) (by decide)))
  have f28 : Fld Z h21 a3 "com/example/urd/urd/time/Scheduled" "bucket" "Lcom/example/urd/urd/time/DeadlineQueue$Bucket;" u9 := f13.other W21 (Or.inr (slot_ne (Or.inl (hw _ (List.mem_of_getElem? (i := 42) rfl))) (Or.inl (hw _ (List.mem_of_getElem? (i := 33) rfl))) (by decide) (t := (.object "com/example/urd/urd/time/DeadlineQueue$Bucket")) (t' := (.object "com/example/urd/urd/time/Scheduled")) (by decide) (by decide)))
  have f29 : Exa Z h21 a1 "com/example/urd/urd/time/DeadlineQueue$Bucket" := f14.wr W21
  have f30 : Exa Z h21 a2 "com/example/urd/urd/time/DeadlineQueue$Bucket" := f15.wr W21
  have f31 : Exa Z h21 a3 "com/example/urd/urd/time/DeadlineQueue$Bucket" := f16.wr W21
  have f32 : Fld Z h21 a2 "com/example/urd/urd/time/Scheduled" "next" "Lcom/example/urd/urd/time/Scheduled;" (.ref a3) := Fw5.other W21 (Or.inl ne_a2_a3)
  have Fw21 : Fld Z h21 a3 "com/example/urd/urd/time/Scheduled" "previous" "Lcom/example/urd/urd/time/Scheduled;" (.ref a2) := f11.same W21
  have R33 : ∀ t, Steps p.tables e below (T21.setTop (mkF m 24 #[.val (.ref a1)] [.null, (.ref a1)])) t → Steps p.tables e below (s₁.setTop (entryFrame m #[(.ref a1)] 1)) t := by
    intro t k
    refine R21 t ?_
    show Steps p.tables e below (T21.setTop (mkF m 22 #[.val (.ref a1)] [])) _
    refine XS.aloadN X21.here hx rfl (hb hby own_d6_22) rfl rfl ?_
    show Steps p.tables e below (T21.setTop (mkF m 23 #[.val (.ref a1)] [(.ref a1)])) _
    refine XS.aconstNull X21.here hx rfl (hb hby own_d6_23) ?_
    exact k
  obtain ⟨T34, h34, X34, e34, W34, st34⟩ := putF X21 hx hZ hown (host := "") (Or.inl (hw _ (List.mem_of_getElem? (i := 32) rfl))) Via.refl e21 f22 f29 (Or.inl (hw _ (List.mem_of_getElem? (i := 33) rfl))) (hw _ (List.mem_of_getElem? (i := 1) rfl)) (ty := (.object "com/example/urd/urd/time/Scheduled")) (by decide) rfl rfl (g := (mkF m 24 #[.val (.ref a1)] [.null, (.ref a1)])) rfl rfl (hb hby own_d6_24)
  have R34 : ∀ t, Steps p.tables e below (T34.setTop (mkF m 27 #[.val (.ref a1)] [])) t → Steps p.tables e below (s₁.setTop (entryFrame m #[(.ref a1)] 1)) t := fun t k => R33 t (st34 t k)
  have Z34 : n0 ≤ h34.size := Nat.le_trans Z21 (Keep.of_wr W34).1
  have K34 : Keep h0 h34 [a1, a2, a3] := K21.wr W34 (Or.inl (by simp))
  have N34 := Fr.snoc X34 N21 g_a1
  have f35 : Fld Z h34 a1 "com/example/urd/urd/time/Scheduled" "next" "Lcom/example/urd/urd/time/Scheduled;" (.ref a3) := f23.other W34 (Or.inr (slot_ne (Or.inl (hw _ (List.mem_of_getElem? (i := 35) rfl))) (Or.inl (hw _ (List.mem_of_getElem? (i := 33) rfl))) (by decide) (t := (.object "com/example/urd/urd/time/Scheduled")) (t' := (.object "com/example/urd/urd/time/Scheduled")) (by decide) (by decide)))
  have f36 : Fld Z h34 a1 "com/example/urd/urd/time/Scheduled" "bucket" "Lcom/example/urd/urd/time/DeadlineQueue$Bucket;" u3 := f24.other W34 (Or.inr (slot_ne (Or.inl (hw _ (List.mem_of_getElem? (i := 42) rfl))) (Or.inl (hw _ (List.mem_of_getElem? (i := 33) rfl))) (by decide) (t := (.object "com/example/urd/urd/time/DeadlineQueue$Bucket")) (t' := (.object "com/example/urd/urd/time/Scheduled")) (by decide) (by decide)))
  have f37 : Fld Z h34 a2 "com/example/urd/urd/time/Scheduled" "previous" "Lcom/example/urd/urd/time/Scheduled;" u4 := f25.other W34 (Or.inl (Ne.symm ne_a1_a2))
  have f38 : Fld Z h34 a2 "com/example/urd/urd/time/Scheduled" "bucket" "Lcom/example/urd/urd/time/DeadlineQueue$Bucket;" u6 := f26.other W34 (Or.inl (Ne.symm ne_a1_a2))
  have f39 : Fld Z h34 a3 "com/example/urd/urd/time/Scheduled" "next" "Lcom/example/urd/urd/time/Scheduled;" u8 := f27.other W34 (Or.inl (Ne.symm ne_a1_a3))
  have f40 : Fld Z h34 a3 "com/example/urd/urd/time/Scheduled" "bucket" "Lcom/example/urd/urd/time/DeadlineQueue$Bucket;" u9 := f28.other W34 (Or.inl (Ne.symm ne_a1_a3))
  have f41 : Exa Z h34 a1 "com/example/urd/urd/time/DeadlineQueue$Bucket" := f29.wr W34
  have f42 : Exa Z h34 a2 "com/example/urd/urd/time/DeadlineQueue$Bucket" := f30.wr W34
  have f43 : Exa Z h34 a3 "com/example/urd/urd/time/DeadlineQueue$Bucket" := f31.wr W34
  have f44 : Fld Z h34 a2 "com/example/urd/urd/time/Scheduled" "next" "Lcom/example/urd/urd/time/Scheduled;" (.ref a3) := f32.other W34 (Or.inl (Ne.symm ne_a1_a2))
  have f45 : Fld Z h34 a3 "com/example/urd/urd/time/Scheduled" "previous" "Lcom/example/urd/urd/time/Scheduled;" (.ref a2) := Fw21.other W34 (Or.inl (Ne.symm ne_a1_a3))
  have Fw34 : Fld Z h34 a1 "com/example/urd/urd/time/Scheduled" "previous" "Lcom/example/urd/urd/time/Scheduled;" .null := f22.same W34
  have R46 : ∀ t, Steps p.tables e below (T34.setTop (mkF m 29 #[.val (.ref a1)] [.null, (.ref a1)])) t → Steps p.tables e below (s₁.setTop (entryFrame m #[(.ref a1)] 1)) t := by
    intro t k
    refine R34 t ?_
    show Steps p.tables e below (T34.setTop (mkF m 27 #[.val (.ref a1)] [])) _
    refine XS.aloadN X34.here hx rfl (hb hby own_d6_27) rfl rfl ?_
    show Steps p.tables e below (T34.setTop (mkF m 28 #[.val (.ref a1)] [(.ref a1)])) _
    refine XS.aconstNull X34.here hx rfl (hb hby own_d6_28) ?_
    exact k
  obtain ⟨T47, h47, X47, e47, W47, st47⟩ := putF X34 hx hZ hown (host := "") (Or.inl (hw _ (List.mem_of_getElem? (i := 34) rfl))) Via.refl e34 f35 f41 (Or.inl (hw _ (List.mem_of_getElem? (i := 35) rfl))) (hw _ (List.mem_of_getElem? (i := 1) rfl)) (ty := (.object "com/example/urd/urd/time/Scheduled")) (by decide) rfl rfl (g := (mkF m 29 #[.val (.ref a1)] [.null, (.ref a1)])) rfl rfl (hb hby own_d6_29)
  have R47 : ∀ t, Steps p.tables e below (T47.setTop (mkF m 32 #[.val (.ref a1)] [])) t → Steps p.tables e below (s₁.setTop (entryFrame m #[(.ref a1)] 1)) t := fun t k => R46 t (st47 t k)
  have Z47 : n0 ≤ h47.size := Nat.le_trans Z34 (Keep.of_wr W47).1
  have K47 : Keep h0 h47 [a1, a2, a3] := K34.wr W47 (Or.inl (by simp))
  have N47 := Fr.snoc X47 N34 g_a1
  have f48 : Fld Z h47 a1 "com/example/urd/urd/time/Scheduled" "bucket" "Lcom/example/urd/urd/time/DeadlineQueue$Bucket;" u3 := f36.other W47 (Or.inr (slot_ne (Or.inl (hw _ (List.mem_of_getElem? (i := 42) rfl))) (Or.inl (hw _ (List.mem_of_getElem? (i := 35) rfl))) (by decide) (t := (.object "com/example/urd/urd/time/DeadlineQueue$Bucket")) (t' := (.object "com/example/urd/urd/time/Scheduled")) (by decide) (by decide)))
  have f49 : Fld Z h47 a2 "com/example/urd/urd/time/Scheduled" "previous" "Lcom/example/urd/urd/time/Scheduled;" u4 := f37.other W47 (Or.inl (Ne.symm ne_a1_a2))
  have f50 : Fld Z h47 a2 "com/example/urd/urd/time/Scheduled" "bucket" "Lcom/example/urd/urd/time/DeadlineQueue$Bucket;" u6 := f38.other W47 (Or.inl (Ne.symm ne_a1_a2))
  have f51 : Fld Z h47 a3 "com/example/urd/urd/time/Scheduled" "next" "Lcom/example/urd/urd/time/Scheduled;" u8 := f39.other W47 (Or.inl (Ne.symm ne_a1_a3))
  have f52 : Fld Z h47 a3 "com/example/urd/urd/time/Scheduled" "bucket" "Lcom/example/urd/urd/time/DeadlineQueue$Bucket;" u9 := f40.other W47 (Or.inl (Ne.symm ne_a1_a3))
  have f53 : Exa Z h47 a1 "com/example/urd/urd/time/DeadlineQueue$Bucket" := f41.wr W47
  have f54 : Exa Z h47 a2 "com/example/urd/urd/time/DeadlineQueue$Bucket" := f42.wr W47
  have f55 : Exa Z h47 a3 "com/example/urd/urd/time/DeadlineQueue$Bucket" := f43.wr W47
  have f56 : Fld Z h47 a2 "com/example/urd/urd/time/Scheduled" "next" "Lcom/example/urd/urd/time/Scheduled;" (.ref a3) := f44.other W47 (Or.inl (Ne.symm ne_a1_a2))
  have f57 : Fld Z h47 a3 "com/example/urd/urd/time/Scheduled" "previous" "Lcom/example/urd/urd/time/Scheduled;" (.ref a2) := f45.other W47 (Or.inl (Ne.symm ne_a1_a3))
  have f58 : Fld Z h47 a1 "com/example/urd/urd/time/Scheduled" "previous" "Lcom/example/urd/urd/time/Scheduled;" .null := Fw34.other W47 (Or.inr (slot_ne (Or.inl (hw _ (List.mem_of_getElem? (i := 33) rfl))) (Or.inl (hw _ (List.mem_of_getElem? (i := 35) rfl))) (by decide) (t := (.object "com/example/urd/urd/time/Scheduled")) (t' := (.object "com/example/urd/urd/time/Scheduled")) (by decide) (by decide)))
  have Fw47 : Fld Z h47 a1 "com/example/urd/urd/time/Scheduled" "next" "Lcom/example/urd/urd/time/Scheduled;" .null := f35.same W47
  have R59 : ∀ t, Steps p.tables e below (T47.setTop (mkF m 34 #[.val (.ref a1)] [.null, (.ref a1)])) t → Steps p.tables e below (s₁.setTop (entryFrame m #[(.ref a1)] 1)) t := by
    intro t k
    refine R47 t ?_
    show Steps p.tables e below (T47.setTop (mkF m 32 #[.val (.ref a1)] [])) _
    refine XS.aloadN X47.here hx rfl (hb hby own_d6_32) rfl rfl ?_
    show Steps p.tables e below (T47.setTop (mkF m 33 #[.val (.ref a1)] [(.ref a1)])) _
    refine XS.aconstNull X47.here hx rfl (hb hby own_d6_33) ?_
    exact k
  obtain ⟨T60, h60, X60, e60, W60, st60⟩ := putF X47 hx hZ hown (host := "") (Or.inl (hw _ (List.mem_of_getElem? (i := 41) rfl))) Via.refl e47 f48 f53 (Or.inl (hw _ (List.mem_of_getElem? (i := 42) rfl))) (hw _ (List.mem_of_getElem? (i := 1) rfl)) (ty := (.object "com/example/urd/urd/time/DeadlineQueue$Bucket")) (by decide) rfl rfl (g := (mkF m 34 #[.val (.ref a1)] [.null, (.ref a1)])) rfl rfl (hb hby own_d6_34)
  have R60 : ∀ t, Steps p.tables e below (T60.setTop (mkF m 37 #[.val (.ref a1)] [])) t → Steps p.tables e below (s₁.setTop (entryFrame m #[(.ref a1)] 1)) t := fun t k => R59 t (st60 t k)
  have Z60 : n0 ≤ h60.size := Nat.le_trans Z47 (Keep.of_wr W60).1
  have K60 : Keep h0 h60 [a1, a2, a3] := K47.wr W60 (Or.inl (by simp))
  have N60 := Fr.snoc X60 N47 g_a1
  have f61 : Fld Z h60 a2 "com/example/urd/urd/time/Scheduled" "previous" "Lcom/example/urd/urd/time/Scheduled;" u4 := f49.other W60 (Or.inl (Ne.symm ne_a1_a2))
  have f62 : Fld Z h60 a2 "com/example/urd/urd/time/Scheduled" "bucket" "Lcom/example/urd/urd/time/DeadlineQueue$Bucket;" u6 := f50.other W60 (Or.inl (Ne.symm ne_a1_a2))
  have f63 : Fld Z h60 a3 "com/example/urd/urd/time/Scheduled" "next" "Lcom/example/urd/urd/time/Scheduled;" u8 := f51.other W60 (Or.inl (Ne.symm ne_a1_a3))
  have f64 : Fld Z h60 a3 "com/example/urd/urd/time/Scheduled" "bucket" "Lcom/example/urd/urd/time/DeadlineQueue$Bucket;" u9 := f52.other W60 (Or.inl (Ne.symm ne_a1_a3))
  have f65 : Exa Z h60 a1 "com/example/urd/urd/time/DeadlineQueue$Bucket" := f53.wr W60
  have f66 : Exa Z h60 a2 "com/example/urd/urd/time/DeadlineQueue$Bucket" := f54.wr W60
  have f67 : Exa Z h60 a3 "com/example/urd/urd/time/DeadlineQueue$Bucket" := f55.wr W60
  have f68 : Fld Z h60 a2 "com/example/urd/urd/time/Scheduled" "next" "Lcom/example/urd/urd/time/Scheduled;" (.ref a3) := f56.other W60 (Or.inl (Ne.symm ne_a1_a2))
  have f69 : Fld Z h60 a3 "com/example/urd/urd/time/Scheduled" "previous" "Lcom/example/urd/urd/time/Scheduled;" (.ref a2) := f57.other W60 (Or.inl (Ne.symm ne_a1_a3))
  have f70 : Fld Z h60 a1 "com/example/urd/urd/time/Scheduled" "previous" "Lcom/example/urd/urd/time/Scheduled;" .null := f58.other W60 (Or.inr (slot_ne (Or.inl (hw _ (List.mem_of_getElem? (i := 33) rfl))) (Or.inl (hw _ (List.mem_of_getElem? (i := 42) rfl))) (by decide) (t := (.object "com/example/urd/urd/time/Scheduled")) (t' := (.object "com/example/urd/urd/time/DeadlineQueue$Bucket")) (by decide) (by decide)))
  have f71 : Fld Z h60 a1 "com/example/urd/urd/time/Scheduled" "next" "Lcom/example/urd/urd/time/Scheduled;" .null := Fw47.other W60 (Or.inr (slot_ne (Or.inl (hw _ (List.mem_of_getElem? (i := 35) rfl))) (Or.inl (hw _ (List.mem_of_getElem? (i := 42) rfl))) (by decide) (t := (.object "com/example/urd/urd/time/Scheduled")) (t' := (.object "com/example/urd/urd/time/DeadlineQueue$Bucket")) (by decide) (by decide)))
  have Fw60 : Fld Z h60 a1 "com/example/urd/urd/time/Scheduled" "bucket" "Lcom/example/urd/urd/time/DeadlineQueue$Bucket;" .null := f48.same W60
  obtain ⟨fs, hr, hrun, hended, hW, hsame⟩ := X60.leave (v := none) (fun _ => rfl)
  refine ⟨_, _, R60 _ ?_, hrun, hended, _, _, rfl, ?_, ⟨_, rfl⟩, hW, hsame.mono (by decide) (by decide)⟩
  · exact X60.returnOut hx Bd.returns (hb hby own_d6_37) hr
  · show Q_rmU Z a1 a2 a3 u3 u4 u5 u6 u7 u8 u9 h0 n0 _ T60.heap _
    rw [e60]
    exact ⟨rfl, N60, K60, f70, f71, Fw60, f61, f68, f62, f69, f63, f64⟩
theorem own_ef_rmGnext (m : MethodId) (x0 : Addr) : entryFrame m #[(.ref x0)] 1 = mkF m 0 #[.val (.ref x0)] [] := by first | (simp [entryFrame, mkF, argsToLocals, Value.category]; done) | rfl
theorem own_d7_0 : decode prog_28_method_9_code 0 = .ok (.aload_n 0, 1) := by decide +kernel
theorem own_d7_1 : decode prog_28_method_9_code 1 = .ok (.getfield 43, 3) := by decide +kernel
theorem own_d7_4 : decode prog_28_method_9_code 4 = .ok (.areturn, 1) := by decide +kernel
def Q_rmGnext (Z : State) (a1 : Addr) (u : Value) (h0 : Heap) (n0 : Nat) (v : Option Value) (h : Heap) (L : List Loc) : Prop := v = some u ∧ Fr n0 L ∧ h = h0
set_option maxRecDepth 65536 in
set_option maxHeartbeats 40000000 in
theorem rmGnext (l : Launch) (Z : State) (a0 : Array Value) (hw : ∀ d ∈ tables_1, d.before a0 Z = true) (ws : List Jvm.Cond) (a1 : Addr) (u : Value) (h0 : Heap) (n0 : Nat) (Z0 : n0 ≤ h0.size) (F1 : Fld Z h0 a1 "com/example/urd/urd/time/Scheduled" "next" "Lcom/example/urd/urd/time/Scheduled;" u) (hu : u.isRef = true) :
    MetFree l (⟨"com/example/urd/urd/time/Scheduled", "next", "()Lcom/example/urd/urd/time/Scheduled;"⟩ : MethodName) (head1 (Jvm.Cond.code (⟨"com/example/urd/urd/time/Scheduled", "next", "()Lcom/example/urd/urd/time/Scheduled;"⟩ : MethodName) prog_28_method_9_code 1 (some (.object "com/example/urd/urd/time/Scheduled")) :: ws) ({ frames := 0, cells := 0, slots := 0, locals := 0 } : Room)) (fun a U => a = #[(.ref a1)] ∧ Z.Warmed39 U.vm ∧ U.heap = h0) (fun _ _ _ _ _ => True) (fun _ U o U' => ∃ v L, o = .returned v ∧ Q_rmGnext Z a1 u h0 n0 v U'.heap L ∧ FrameEnd U o U' L ({ frames := 0, cells := 0, slots := 0, locals := 0 } : Room).cells ({ frames := 0, cells := 0, slots := 0, locals := 0 } : Room).slots) := by
  refine MetFree.of_bodySF (plainFor_of_name own_pn0) hisR ?_
  intro p e s m args below meth c s₁ Bd hml0 hP hK
  obtain ⟨rfl, hZ, hh⟩ := hP
  have hx := Bd.exec
  have hby := Bd.bytes
  have hml : c.maxLocals = 1 := hml0
  have hown : s.vm.findClass "com/example/urd/urd/time/Scheduled" = some m.cls := findClass_of_methodNamed Bd.named
  have hnm := (name_of_methodNamed Bd.named Bd.method).1
  have X0 : Stand p l e ({ frames := 0, cells := 0, slots := 0, locals := 0 } : Room) s m #[(.ref a1)] below meth c s₁ [] 0 0 := Stand.of_body Bd
  have e0 : s₁.heap = h0 := by rw [← hh, Bd.state]; rfl
  have N0 := Fr.nil n0
  have R0 : ∀ t, Steps p.tables e below (s₁.setTop (mkF m 0 #[.val (.ref a1)] [])) t → Steps p.tables e below (s₁.setTop (entryFrame m #[(.ref a1)] 1)) t := fun t k => castTop (own_ef_rmGnext m a1) k
  have R1 : ∀ t, Steps p.tables e below (s₁.setTop (mkF m 1 #[.val (.ref a1)] [(.ref a1)])) t → Steps p.tables e below (s₁.setTop (entryFrame m #[(.ref a1)] 1)) t := by
    intro t k
    refine R0 t ?_
    show Steps p.tables e below (s₁.setTop (mkF m 0 #[.val (.ref a1)] [])) _
    refine XS.aloadN X0.here hx rfl (hb hby own_d7_0) rfl rfl ?_
    exact k
  obtain ⟨T2, X2, e2, st2⟩ := getF X0 hx hZ hown (host := "") (Or.inl (hw _ (List.mem_of_getElem? (i := 34) rfl))) Via.refl e0 F1 (g := (mkF m 1 #[.val (.ref a1)] [(.ref a1)])) rfl rfl (hb hby own_d7_1)
  have R2 : ∀ t, Steps p.tables e below (T2.setTop (mkF m 4 #[.val (.ref a1)] [u])) t → Steps p.tables e below (s₁.setTop (entryFrame m #[(.ref a1)] 1)) t := fun t k => R1 t (st2 t k)
  obtain ⟨fs, hr, hrun, hended, hW, hsame⟩ := X2.leave (v := some u) (fun h => by rw [Bd.returns] at h; cases h)
  refine ⟨_, _, R2 _ ?_, hrun, hended, _, _, rfl, ?_, ⟨_, rfl⟩, hW, hsame.mono (by decide) (by decide)⟩
  · exact retOut X2 hx Bd.returns rfl (Or.inr (Or.inr (Or.inr (Or.inr ⟨rfl, rfl, hu⟩)))) (hb hby own_d7_4) hr
  · show Q_rmGnext Z a1 u h0 n0 _ T2.heap _
    rw [e2]
    exact ⟨rfl, N0, rfl⟩
theorem own_ef_rmQ (m : MethodId) (x0 : Addr) : entryFrame m #[(.ref x0)] 1 = mkF m 0 #[.val (.ref x0)] [] := by first | (simp [entryFrame, mkF, argsToLocals, Value.category]; done) | rfl
theorem own_d8_0 : decode prog_28_method_7_code 0 = .ok (.aload_n 0, 1) := by decide +kernel
theorem own_d8_1 : decode prog_28_method_7_code 1 = .ok (.getfield 39, 3) := by decide +kernel
theorem own_d8_4 : decode prog_28_method_7_code 4 = .ok (.ifnull 7, 3) := by decide +kernel
theorem own_d8_11 : decode prog_28_method_7_code 11 = .ok (.iconst 0, 1) := by decide +kernel
theorem own_d8_12 : decode prog_28_method_7_code 12 = .ok (.ireturn, 1) := by decide +kernel
def Q_rmQ (Z : State) (a1 : Addr) (h0 : Heap) (n0 : Nat) (v : Option Value) (h : Heap) (L : List Loc) : Prop := v = some (.int (0 : Int32)) ∧ Fr n0 L ∧ h = h0
set_option maxRecDepth 65536 in
set_option maxHeartbeats 40000000 in
theorem rmQ (l : Launch) (Z : State) (a0 : Array Value) (hw : ∀ d ∈ tables_1, d.before a0 Z = true) (ws : List Jvm.Cond) (a1 : Addr) (h0 : Heap) (n0 : Nat) (Z0 : n0 ≤ h0.size) (F1 : Fld Z h0 a1 "com/example/urd/urd/time/Scheduled" "bucket" "Lcom/example/urd/urd/time/DeadlineQueue$Bucket;" .null) :
    MetFree l (⟨"com/example/urd/urd/time/Scheduled", "isQueued", "()Z"⟩ : MethodName) (head1 (Jvm.Cond.code (⟨"com/example/urd/urd/time/Scheduled", "isQueued", "()Z"⟩ : MethodName) prog_28_method_7_code 1 (some .boolean) :: ws) ({ frames := 0, cells := 0, slots := 0, locals := 0 } : Room)) (fun a U => a = #[(.ref a1)] ∧ Z.Warmed39 U.vm ∧ U.heap = h0) (fun _ _ _ _ _ => True) (fun _ U o U' => ∃ v L, o = .returned v ∧ Q_rmQ Z a1 h0 n0 v U'.heap L ∧ FrameEnd U o U' L ({ frames := 0, cells := 0, slots := 0, locals := 0 } : Room).cells ({ frames := 0, cells := 0, slots := 0, locals := 0 } : Room).slots) := by
  refine MetFree.of_bodySF (plainFor_of_name own_pn0) hisR ?_
  intro p e s m args below meth c s₁ Bd hml0 hP hK
  obtain ⟨rfl, hZ, hh⟩ := hP
  have hx := Bd.exec
  have hby := Bd.bytes
  have hml : c.maxLocals = 1 := hml0
  have hown : s.vm.findClass "com/example/urd/urd/time/Scheduled" = some m.cls := findClass_of_methodNamed Bd.named
  have hnm := (name_of_methodNamed Bd.named Bd.method).1
  have X0 : Stand p l e ({ frames := 0, cells := 0, slots := 0, locals := 0 } : Room) s m #[(.ref a1)] below meth c s₁ [] 0 0 := Stand.of_body Bd
  have e0 : s₁.heap = h0 := by rw [← hh, Bd.state]; rfl
  have N0 := Fr.nil n0
  have R0 : ∀ t, Steps p.tables e below (s₁.setTop (mkF m 0 #[.val (.ref a1)] [])) t → Steps p.tables e below (s₁.setTop (entryFrame m #[(.ref a1)] 1)) t := fun t k => castTop (own_ef_rmQ m a1) k
  have R1 : ∀ t, Steps p.tables e below (s₁.setTop (mkF m 1 #[.val (.ref a1)] [(.ref a1)])) t → Steps p.tables e below (s₁.setTop (entryFrame m #[(.ref a1)] 1)) t := by
    intro t k
    refine R0 t ?_
    show Steps p.tables e below (s₁.setTop (mkF m 0 #[.val (.ref a1)] [])) _
    refine XS.aloadN X0.here hx rfl (hb hby own_d8_0) rfl rfl ?_
    exact k
  obtain ⟨T2, X2, e2, st2⟩ := getF X0 hx hZ hown (host := "") (Or.inl (hw _ (List.mem_of_getElem? (i := 41) rfl))) Via.refl e0 F1 (g := (mkF m 1 #[.val (.ref a1)] [(.ref a1)])) rfl rfl (hb hby own_d8_1)
  have R2 : ∀ t, Steps p.tables e below (T2.setTop (mkF m 4 #[.val (.ref a1)] [.null])) t → Steps p.tables e below (s₁.setTop (entryFrame m #[(.ref a1)] 1)) t := fun t k => R1 t (st2 t k)
  have R3 : ∀ t, Steps p.tables e below (T2.setTop (mkF m 12 #[.val (.ref a1)] [(.int (0 : Int32))])) t → Steps p.tables e below (s₁.setTop (entryFrame m #[(.ref a1)] 1)) t := by
    intro t k
    refine R2 t ?_
    show Steps p.tables e below (T2.setTop (mkF m 4 #[.val (.ref a1)] [.null])) _
    refine XS.ifnullYes X2.here hx rfl (pc0 := 4) (pc' := 11) rfl (hb hby own_d8_4) rfl (by decide) (by decide) ?_
    show Steps p.tables e below (T2.setTop (mkF m 11 #[.val (.ref a1)] [])) _
    refine XS.iconst X2.here hx rfl (hb hby own_d8_11) ?_
    exact k
  obtain ⟨fs, hr, hrun, hended, hW, hsame⟩ := X2.leave (v := some (.int (0 : Int32))) (fun h => by rw [Bd.returns] at h; cases h)
  refine ⟨_, _, R3 _ ?_, hrun, hended, _, _, rfl, ?_, ⟨_, rfl⟩, hW, hsame.mono (by decide) (by decide)⟩
  · exact retN X2 hx (t := .boolean) Bd.returns (by simp) (hb hby own_d8_12) hr
  · show Q_rmQ Z a1 h0 n0 _ T2.heap _
    rw [e2]
    exact ⟨rfl, N0, rfl⟩
theorem own_pn2 : plainName "com/example/urd/urd/time/ScheduledUnlinkPinLaw" = true := by first | (simp [plainName, overriddenIn]; done) | decide +kernel
theorem own_ef_rm0 (m : MethodId) (x0 : Int32) (x1 : Int64) (x2 : Int64) : entryFrame m #[(.int x0), (.long x1), (.long x2)] maxLocals = mkF m 0 #[.val (.int x0), .val (.long x1), .second, .val (.long x2), .second, .unset, .unset, .unset, .unset, .unset, .unset, .unset, .unset, .unset, .unset] [] := by first | (simp [entryFrame, mkF, argsToLocals, Value.category, maxLocals]; done) | rfl
theorem own_pd0 : parseMethodDescriptor "(JJ)V" = some ⟨[.long, .long], none⟩ := by decide +kernel
theorem own_pd3 : parseMethodDescriptor "(Lcom/example/urd/urd/time/DeadlineQueue$Bucket;)V" = some ⟨[(.object "com/example/urd/urd/time/DeadlineQueue$Bucket")], none⟩ := by decide +kernel
theorem own_pd4 : parseMethodDescriptor "()Lcom/example/urd/urd/time/Scheduled;" = some ⟨[], some (.object "com/example/urd/urd/time/Scheduled")⟩ := by decide +kernel
theorem own_pd5 : parseMethodDescriptor "()Z" = some ⟨[], some .boolean⟩ := by decide +kernel
def Q_rm0 (Z : State) (p1 : Int32) (q2 q3 : Int64) (h0 : Heap) (n0 : Nat) (v : Option Value) (h : Heap) (L : List Loc) : Prop := v = some (.int 1) ∧ Fr n0 L
set_option maxRecDepth 65536 in
set_option maxHeartbeats 40000000 in
theorem rm0 (l : Launch) (Z : State) (a0 : Array Value) (hw : ∀ d ∈ tables_1, d.before a0 Z = true) (ws : List Jvm.Cond) (p1 : Int32) (q2 q3 : Int64) (h0 : Heap) (n0 : Nat) (Z0 : n0 ≤ h0.size)  :
    MetFree l x (head1 (Jvm.Cond.code x code maxLocals ret :: ws) room_1) (fun a U => a = #[(.int p1), (.long q2), (.long q3)] ∧ Z.Warmed39 U.vm ∧ U.heap = h0) (fun _ _ _ _ _ => True) (fun _ U o U' => ∃ v L, o = .returned v ∧ Q_rm0 Z p1 q2 q3 h0 n0 v U'.heap L ∧ FrameEnd U o U' L room_1.cells room_1.slots) := by
  refine MetFree.of_bodySF (plainFor_of_name own_pn2) hisR ?_
  intro p e s m args below meth c s₁ Bd hml0 hP hK
  obtain ⟨rfl, hZ, hh⟩ := hP
  have hx := Bd.exec
  have hby := Bd.bytes
  have hml : c.maxLocals = 15 := hml0
  have hown : s.vm.findClass "com/example/urd/urd/time/ScheduledUnlinkPinLaw" = some m.cls := findClass_of_methodNamed Bd.named
  have hnm := (name_of_methodNamed Bd.named Bd.method).1
  have X0 : Stand p l e room_1 s m #[(.int p1), (.long q2), (.long q3)] below meth c s₁ [] 0 0 := Stand.of_body Bd
  have e0 : s₁.heap = h0 := by rw [← hh, Bd.state]; rfl
  have N0 := Fr.nil n0
  have R0 : ∀ t, Steps p.tables e below (s₁.setTop (mkF m 0 #[.val (.int p1), .val (.long q2), .second, .val (.long q3), .second, .unset, .unset, .unset, .unset, .unset, .unset, .unset, .unset, .unset, .unset] [])) t → Steps p.tables e below (s₁.setTop (entryFrame m #[(.int p1), (.long q2), (.long q3)] maxLocals)) t := fun t k => castTop (own_ef_rm0 m p1 q2 q3) k
  obtain ⟨T1, h1, X1, e1, E1, A1, D1, -, st1⟩ := newO X0 hx hZ hown (hw _ (List.mem_of_getElem? (i := 0) rfl)) (hw _ (List.mem_of_getElem? (i := 1) rfl)) (hw _ (List.mem_of_getElem? (i := 2) rfl)) e0 (g := (mkF m 0 #[.val (.int p1), .val (.long q2), .second, .val (.long q3), .second, .unset, .unset, .unset, .unset, .unset, .unset, .unset, .unset, .unset, .unset] [])) rfl (hb hby at_0) (by decide) (by decide)
  obtain ⟨b1, g1⟩ : ∃ z, z = h0.size := ⟨_, rfl⟩
  rw [← g1] at A1 D1 st1
  have R1 : ∀ t, Steps p.tables e below (T1.setTop (mkF m 3 #[.val (.int p1), .val (.long q2), .second, .val (.long q3), .second, .unset, .unset, .unset, .unset, .unset, .unset, .unset, .unset, .unset, .unset] [(.ref b1)])) t → Steps p.tables e below (s₁.setTop (entryFrame m #[(.int p1), (.long q2), (.long q3)] maxLocals)) t := fun t k => R0 t (st1 t k)
  have g_b1 : n0 ≤ b1 := Nat.le_trans Z0 (Nat.le_of_eq g1.symm)
  have sz_b1 : h0.size ≤ b1 := Nat.le_trans (Keep.refl h0 []).1 (Nat.le_of_eq g1.symm)
  have Z1 : n0 ≤ h1.size := Nat.le_trans Z0 E1.1
  have K1 : Keep h0 h1 [] := (Keep.refl h0 []).ext E1
  have F1_15 : Fld Z h1 b1 "com/example/urd/urd/time/Scheduled" "deadline" "J" (.long (0 : Int64)) := D1 (Or.inl (hw _ (List.mem_of_getElem? (i := 15) rfl))) (ty := .long) (by decide)
  have F1_18 : Fld Z h1 b1 "com/example/urd/urd/time/DeadlineQueue$Bucket" "least" "J" (.long (0 : Int64)) := D1 (Or.inl (hw _ (List.mem_of_getElem? (i := 18) rfl))) (ty := .long) (by decide)
  have F1_21 : Fld Z h1 b1 "com/example/urd/urd/time/DeadlineQueue$Bucket" "greatest" "J" (.long (0 : Int64)) := D1 (Or.inl (hw _ (List.mem_of_getElem? (i := 21) rfl))) (ty := .long) (by decide)
  have F1_23 : Fld Z h1 b1 "com/example/urd/urd/time/DeadlineQueue$Bucket" "start" "J" (.long (0 : Int64)) := D1 (Or.inr (hw _ (List.mem_of_getElem? (i := 23) rfl))) (ty := .long) (by decide)
  have F1_25 : Fld Z h1 b1 "com/example/urd/urd/time/DeadlineQueue$Bucket" "last" "J" (.long (0 : Int64)) := D1 (Or.inl (hw _ (List.mem_of_getElem? (i := 25) rfl))) (ty := .long) (by decide)
  have F1_33 : Fld Z h1 b1 "com/example/urd/urd/time/Scheduled" "previous" "Lcom/example/urd/urd/time/Scheduled;" .null := D1 (Or.inl (hw _ (List.mem_of_getElem? (i := 33) rfl))) (ty := (.object "com/example/urd/urd/time/Scheduled")) (by decide)
  have F1_35 : Fld Z h1 b1 "com/example/urd/urd/time/Scheduled" "next" "Lcom/example/urd/urd/time/Scheduled;" .null := D1 (Or.inl (hw _ (List.mem_of_getElem? (i := 35) rfl))) (ty := (.object "com/example/urd/urd/time/Scheduled")) (by decide)
  have F1_42 : Fld Z h1 b1 "com/example/urd/urd/time/Scheduled" "bucket" "Lcom/example/urd/urd/time/DeadlineQueue$Bucket;" .null := D1 (Or.inl (hw _ (List.mem_of_getElem? (i := 42) rfl))) (ty := (.object "com/example/urd/urd/time/DeadlineQueue$Bucket")) (by decide)
  have R2 : ∀ t, Steps p.tables e below (T1.setTop (mkF m 6 #[.val (.int p1), .val (.long q2), .second, .val (.long q3), .second, .unset, .unset, .unset, .unset, .unset, .unset, .unset, .unset, .unset, .unset] [(.long q3), (.long q2), (.ref b1), (.ref b1)])) t → Steps p.tables e below (s₁.setTop (entryFrame m #[(.int p1), (.long q2), (.long q3)] maxLocals)) t := by
    intro t k
    refine R1 t ?_
    show Steps p.tables e below (T1.setTop (mkF m 3 #[.val (.int p1), .val (.long q2), .second, .val (.long q3), .second, .unset, .unset, .unset, .unset, .unset, .unset, .unset, .unset, .unset, .unset] [(.ref b1)])) _
    refine XS.dup X1.here hx rfl (hb hby at_3) rfl rfl ?_
    show Steps p.tables e below (T1.setTop (mkF m 4 #[.val (.int p1), .val (.long q2), .second, .val (.long q3), .second, .unset, .unset, .unset, .unset, .unset, .unset, .unset, .unset, .unset, .unset] [(.ref b1), (.ref b1)])) _
    refine XS.lloadN X1.here hx rfl (hb hby at_4) rfl ?_
    show Steps p.tables e below (T1.setTop (mkF m 5 #[.val (.int p1), .val (.long q2), .second, .val (.long q3), .second, .unset, .unset, .unset, .unset, .unset, .unset, .unset, .unset, .unset, .unset] [(.long q2), (.ref b1), (.ref b1)])) _
    refine XS.lloadN X1.here hx rfl (hb hby at_5) rfl ?_
    exact k
  obtain ⟨_, _, ⟨T3, L3, k3, n3⟩, -, X3, ⟨Lc3, hQ3, l3, y3, z3⟩, st3⟩ := X1.specialBack hx (y := (⟨"com/example/urd/urd/time/DeadlineQueue$Bucket", "<init>", "(JJ)V"⟩ : MethodName)) rfl hown (mvT hZ (hw _ (List.mem_of_getElem? (i := 3) rfl))) (mvT hZ (hw _ (List.mem_of_getElem? (i := 4) rfl))) (mvT hZ (hw _ (List.mem_of_getElem? (i := 5) rfl))) (by decide) (backOf (W := 1) (rmBI l Z a0 hw [] b1 q2 q3  h1 n0 Z1 F1_15 F1_18 F1_21 F1_23 F1_25 F1_33 F1_35 F1_42 A1 g_b1) hZ (hw _ (List.mem_of_getElem? (i := 5) rfl)) (hw _ (List.mem_of_getElem? (i := 2) rfl)) (by decide) (by decide)) (g := (mkF m 6 #[.val (.int p1), .val (.long q2), .second, .val (.long q3), .second, .unset, .unset, .unset, .unset, .unset, .unset, .unset, .unset, .unset, .unset] [(.long q3), (.long q2), (.ref b1), (.ref b1)])) rfl (by rw [hml]; rfl) (Steps.refl _) (a := b1) (argsL := [(.long q2), (.long q3)]) (rest := [(.ref b1)]) (lenOf own_pd0 rfl) rfl (by show 2 * 0 + _ ≤ _; exact Nat.le_of_eq rfl) (hb hby at_6) (fun _ _ => ⟨rfl, e1, (by decide : 1 + 0 ≤ _), (by decide : 13 + 0 ≤ _)⟩)
  dsimp only [Pt.U, Pt.locs, Pt.cells, Pt.slots] at X3 l3 y3 z3 st3 hQ3
  subst l3 y3 z3
  obtain ⟨rfl, Nq3, Kc3, F_previous_c3, F_next_c3, F_bucket_c3⟩ := hQ3
  have N3 := Fr.app N0 Nq3
  have R3 : ∀ t, Steps p.tables e below (T3.setTop (mkF m 9 #[.val (.int p1), .val (.long q2), .second, .val (.long q3), .second, .unset, .unset, .unset, .unset, .unset, .unset, .unset, .unset, .unset, .unset] [(.ref b1)])) t → Steps p.tables e below (s₁.setTop (entryFrame m #[(.int p1), (.long q2), (.long q3)] maxLocals)) t := fun t k => R2 t (st3.trans k)
  have Z3 : n0 ≤ T3.heap.size := Nat.le_trans Z1 Kc3.1
  have K3 : Keep h0 T3.heap [] := K1.trans Kc3 (allS (Or.inr sz_b1) all0)
  have f4 : Exa Z T3.heap b1 "com/example/urd/urd/time/DeadlineQueue$Bucket" := A1.keep Kc3
  have R5 : ∀ t, Steps p.tables e below (T3.setTop (mkF m 11 #[.val (.int p1), .val (.long q2), .second, .val (.long q3), .second, .val (.ref b1), .unset, .unset, .unset, .unset, .unset, .unset, .unset, .unset, .unset] [])) t → Steps p.tables e below (s₁.setTop (entryFrame m #[(.int p1), (.long q2), (.long q3)] maxLocals)) t := by
    intro t k
    refine R3 t ?_
    show Steps p.tables e below (T3.setTop (mkF m 9 #[.val (.int p1), .val (.long q2), .second, .val (.long q3), .second, .unset, .unset, .unset, .unset, .unset, .unset, .unset, .unset, .unset, .unset] [(.ref b1)])) _
    refine XS.astore X3.here hx rfl (hb hby at_9) rfl rfl (l' := #[.val (.int p1), .val (.long q2), .second, .val (.long q3), .second, .val (.ref b1), .unset, .unset, .unset, .unset, .unset, .unset, .unset, .unset, .unset]) rfl ?_
    exact k
  obtain ⟨T6, h6, X6, e6, E6, A6, D6, -, st6⟩ := newO X3 hx hZ hown (hw _ (List.mem_of_getElem? (i := 0) rfl)) (hw _ (List.mem_of_getElem? (i := 1) rfl)) (hw _ (List.mem_of_getElem? (i := 2) rfl)) rfl (g := (mkF m 11 #[.val (.int p1), .val (.long q2), .second, .val (.long q3), .second, .val (.ref b1), .unset, .unset, .unset, .unset, .unset, .unset, .unset, .unset, .unset] [])) rfl (hb hby at_11) (by decide) (by decide)
  obtain ⟨b6, g6⟩ : ∃ z, z = T3.heap.size := ⟨_, rfl⟩
  rw [← g6] at A6 D6 st6
  have R6 : ∀ t, Steps p.tables e below (T6.setTop (mkF m 14 #[.val (.int p1), .val (.long q2), .second, .val (.long q3), .second, .val (.ref b1), .unset, .unset, .unset, .unset, .unset, .unset, .unset, .unset, .unset] [(.ref b6)])) t → Steps p.tables e below (s₁.setTop (entryFrame m #[(.int p1), (.long q2), (.long q3)] maxLocals)) t := fun t k => R5 t (st6 t k)
  have ne_b1_b6 : b1 ≠ b6 := Nat.ne_of_lt (Nat.lt_of_lt_of_le f4.lt (Nat.le_of_eq g6.symm))
  have g_b6 : n0 ≤ b6 := Nat.le_trans Z3 (Nat.le_of_eq g6.symm)
  have sz_b6 : h0.size ≤ b6 := Nat.le_trans K3.1 (Nat.le_of_eq g6.symm)
  have Z6 : n0 ≤ h6.size := Nat.le_trans Z3 E6.1
  have K6 : Keep h0 h6 [] := K3.ext E6
  have f7 : Exa Z h6 b1 "com/example/urd/urd/time/DeadlineQueue$Bucket" := f4.ext E6
  have f8 : Fld Z h6 b1 "com/example/urd/urd/time/Scheduled" "previous" "Lcom/example/urd/urd/time/Scheduled;" (.ref b1) := F_previous_c3.ext E6
  have f9 : Fld Z h6 b1 "com/example/urd/urd/time/Scheduled" "next" "Lcom/example/urd/urd/time/Scheduled;" (.ref b1) := F_next_c3.ext E6
  have f10 : Fld Z h6 b1 "com/example/urd/urd/time/Scheduled" "bucket" "Lcom/example/urd/urd/time/DeadlineQueue$Bucket;" .null := F_bucket_c3.ext E6
  have F6_15 : Fld Z h6 b6 "com/example/urd/urd/time/Scheduled" "deadline" "J" (.long (0 : Int64)) := D6 (Or.inl (hw _ (List.mem_of_getElem? (i := 15) rfl))) (ty := .long) (by decide)
  have F6_18 : Fld Z h6 b6 "com/example/urd/urd/time/DeadlineQueue$Bucket" "least" "J" (.long (0 : Int64)) := D6 (Or.inl (hw _ (List.mem_of_getElem? (i := 18) rfl))) (ty := .long) (by decide)
  have F6_21 : Fld Z h6 b6 "com/example/urd/urd/time/DeadlineQueue$Bucket" "greatest" "J" (.long (0 : Int64)) := D6 (Or.inl (hw _ (List.mem_of_getElem? (i := 21) rfl))) (ty := .long) (by decide)
  have F6_23 : Fld Z h6 b6 "com/example/urd/urd/time/DeadlineQueue$Bucket" "start" "J" (.long (0 : Int64)) := D6 (Or.inr (hw _ (List.mem_of_getElem? (i := 23) rfl))) (ty := .long) (by decide)
  have F6_25 : Fld Z h6 b6 "com/example/urd/urd/time/DeadlineQueue$Bucket" "last" "J" (.long (0 : Int64)) := D6 (Or.inl (hw _ (List.mem_of_getElem? (i := 25) rfl))) (ty := .long) (by decide)
  have F6_33 : Fld Z h6 b6 "com/example/urd/urd/time/Scheduled" "previous" "Lcom/example/urd/urd/time/Scheduled;" .null := D6 (Or.inl (hw _ (List.mem_of_getElem? (i := 33) rfl))) (ty := (.object "com/example/urd/urd/time/Scheduled")) (by decide)
  have F6_35 : Fld Z h6 b6 "com/example/urd/urd/time/Scheduled" "next" "Lcom/example/urd/urd/time/Scheduled;" .null := D6 (Or.inl (hw _ (List.mem_of_getElem? (i := 35) rfl))) (ty := (.object "com/example/urd/urd/time/Scheduled")) (by decide)
  have F6_42 : Fld Z h6 b6 "com/example/urd/urd/time/Scheduled" "bucket" "Lcom/example/urd/urd/time/DeadlineQueue$Bucket;" .null := D6 (Or.inl (hw _ (List.mem_of_getElem? (i := 42) rfl))) (ty := (.object "com/example/urd/urd/time/DeadlineQueue$Bucket")) (by decide)
  have R11 : ∀ t, Steps p.tables e below (T6.setTop (mkF m 17 #[.val (.int p1), .val (.long q2), .second, .val (.long q3), .second, .val (.ref b1), .unset, .unset, .unset, .unset, .unset, .unset, .unset, .unset, .unset] [(.long q2), (.long q3), (.ref b6), (.ref b6)])) t → Steps p.tables e below (s₁.setTop (entryFrame m #[(.int p1), (.long q2), (.long q3)] maxLocals)) t := by
    intro t k
    refine R6 t ?_
    show Steps p.tables e below (T6.setTop (mkF m 14 #[.val (.int p1), .val (.long q2), .second, .val (.long q3), .second, .val (.ref b1), .unset, .unset, .unset, .unset, .unset, .unset, .unset, .unset, .unset] [(.ref b6)])) _
    refine XS.dup X6.here hx rfl (hb hby at_14) rfl rfl ?_
    show Steps p.tables e below (T6.setTop (mkF m 15 #[.val (.int p1), .val (.long q2), .second, .val (.long q3), .second, .val (.ref b1), .unset, .unset, .unset, .unset, .unset, .unset, .unset, .unset, .unset] [(.ref b6), (.ref b6)])) _
    refine XS.lloadN X6.here hx rfl (hb hby at_15) rfl ?_
    show Steps p.tables e below (T6.setTop (mkF m 16 #[.val (.int p1), .val (.long q2), .second, .val (.long q3), .second, .val (.ref b1), .unset, .unset, .unset, .unset, .unset, .unset, .unset, .unset, .unset] [(.long q3), (.ref b6), (.ref b6)])) _
    refine XS.lloadN X6.here hx rfl (hb hby at_16) rfl ?_
    exact k
  obtain ⟨_, _, ⟨T12, L12, k12, n12⟩, -, X12, ⟨Lc12, hQ12, l12, y12, z12⟩, st12⟩ := X6.specialBack hx (y := (⟨"com/example/urd/urd/time/DeadlineQueue$Bucket", "<init>", "(JJ)V"⟩ : MethodName)) rfl hown (mvT hZ (hw _ (List.mem_of_getElem? (i := 3) rfl))) (mvT hZ (hw _ (List.mem_of_getElem? (i := 4) rfl))) (mvT hZ (hw _ (List.mem_of_getElem? (i := 5) rfl))) (by decide) (backOf (W := 1) (rmBI l Z a0 hw [] b6 q3 q2  h6 n0 Z6 F6_15 F6_18 F6_21 F6_23 F6_25 F6_33 F6_35 F6_42 A6 g_b6) hZ (hw _ (List.mem_of_getElem? (i := 5) rfl)) (hw _ (List.mem_of_getElem? (i := 2) rfl)) (by decide) (by decide)) (g := (mkF m 17 #[.val (.int p1), .val (.long q2), .second, .val (.long q3), .second, .val (.ref b1), .unset, .unset, .unset, .unset, .unset, .unset, .unset, .unset, .unset] [(.long q2), (.long q3), (.ref b6), (.ref b6)])) rfl (by rw [hml]; rfl) (Steps.refl _) (a := b6) (argsL := [(.long q3), (.long q2)]) (rest := [(.ref b6)]) (lenOf own_pd0 rfl) rfl (by show 2 * 0 + _ ≤ _; exact Nat.le_of_eq rfl) (hb hby at_17) (fun _ _ => ⟨rfl, e6, (by decide : 2 + 0 ≤ _), (by decide : 26 + 0 ≤ _)⟩)
  dsimp only [Pt.U, Pt.locs, Pt.cells, Pt.slots] at X12 l12 y12 z12 st12 hQ12
  subst l12 y12 z12
  obtain ⟨rfl, Nq12, Kc12, F_previous_c12, F_next_c12, F_bucket_c12⟩ := hQ12
  have N12 := Fr.app N3 Nq12
  have R12 : ∀ t, Steps p.tables e below (T12.setTop (mkF m 20 #[.val (.int p1), .val (.long q2), .second, .val (.long q3), .second, .val (.ref b1), .unset, .unset, .unset, .unset, .unset, .unset, .unset, .unset, .unset] [(.ref b6)])) t → Steps p.tables e below (s₁.setTop (entryFrame m #[(.int p1), (.long q2), (.long q3)] maxLocals)) t := fun t k => R11 t (st12.trans k)
  have Z12 : n0 ≤ T12.heap.size := Nat.le_trans Z6 Kc12.1
  have K12 : Keep h0 T12.heap [] := K6.trans Kc12 (allS (Or.inr sz_b6) all0)
  have f13 : Exa Z T12.heap b1 "com/example/urd/urd/time/DeadlineQueue$Bucket" := f7.keep Kc12
  have f14 : Fld Z T12.heap b1 "com/example/urd/urd/time/Scheduled" "previous" "Lcom/example/urd/urd/time/Scheduled;" (.ref b1) := f8.keep Kc12 (ninS ne_b1_b6 nin0)
  have f15 : Fld Z T12.heap b1 "com/example/urd/urd/time/Scheduled" "next" "Lcom/example/urd/urd/time/Scheduled;" (.ref b1) := f9.keep Kc12 (ninS ne_b1_b6 nin0)
  have f16 : Fld Z T12.heap b1 "com/example/urd/urd/time/Scheduled" "bucket" "Lcom/example/urd/urd/time/DeadlineQueue$Bucket;" .null := f10.keep Kc12 (ninS ne_b1_b6 nin0)
  have f17 : Exa Z T12.heap b6 "com/example/urd/urd/time/DeadlineQueue$Bucket" := A6.keep Kc12
  have R18 : ∀ t, Steps p.tables e below (T12.setTop (mkF m 22 #[.val (.int p1), .val (.long q2), .second, .val (.long q3), .second, .val (.ref b1), .val (.ref b6), .unset, .unset, .unset, .unset, .unset, .unset, .unset, .unset] [])) t → Steps p.tables e below (s₁.setTop (entryFrame m #[(.int p1), (.long q2), (.long q3)] maxLocals)) t := by
    intro t k
    refine R12 t ?_
    show Steps p.tables e below (T12.setTop (mkF m 20 #[.val (.int p1), .val (.long q2), .second, .val (.long q3), .second, .val (.ref b1), .unset, .unset, .unset, .unset, .unset, .unset, .unset, .unset, .unset] [(.ref b6)])) _
    refine XS.astore X12.here hx rfl (hb hby at_20) rfl rfl (l' := #[.val (.int p1), .val (.long q2), .second, .val (.long q3), .second, .val (.ref b1), .val (.ref b6), .unset, .unset, .unset, .unset, .unset, .unset, .unset, .unset]) rfl ?_
    exact k
  obtain ⟨T19, h19, X19, e19, E19, A19, D19, -, st19⟩ := newO X12 hx hZ hown (hw _ (List.mem_of_getElem? (i := 0) rfl)) (hw _ (List.mem_of_getElem? (i := 1) rfl)) (hw _ (List.mem_of_getElem? (i := 2) rfl)) rfl (g := (mkF m 22 #[.val (.int p1), .val (.long q2), .second, .val (.long q3), .second, .val (.ref b1), .val (.ref b6), .unset, .unset, .unset, .unset, .unset, .unset, .unset, .unset] [])) rfl (hb hby at_22) (by decide) (by decide)
  obtain ⟨b19, g19⟩ : ∃ z, z = T12.heap.size := ⟨_, rfl⟩
  rw [← g19] at A19 D19 st19
  have R19 : ∀ t, Steps p.tables e below (T19.setTop (mkF m 25 #[.val (.int p1), .val (.long q2), .second, .val (.long q3), .second, .val (.ref b1), .val (.ref b6), .unset, .unset, .unset, .unset, .unset, .unset, .unset, .unset] [(.ref b19)])) t → Steps p.tables e below (s₁.setTop (entryFrame m #[(.int p1), (.long q2), (.long q3)] maxLocals)) t := fun t k => R18 t (st19 t k)
  have ne_b1_b19 : b1 ≠ b19 := Nat.ne_of_lt (Nat.lt_of_lt_of_le f13.lt (Nat.le_of_eq g19.symm))
  have ne_b6_b19 : b6 ≠ b19 := Nat.ne_of_lt (Nat.lt_of_lt_of_le f17.lt (Nat.le_of_eq g19.symm))
  have g_b19 : n0 ≤ b19 := Nat.le_trans Z12 (Nat.le_of_eq g19.symm)
  have sz_b19 : h0.size ≤ b19 := Nat.le_trans K12.1 (Nat.le_of_eq g19.symm)
  have Z19 : n0 ≤ h19.size := Nat.le_trans Z12 E19.1
  have K19 : Keep h0 h19 [] := K12.ext E19
  have f20 : Exa Z h19 b1 "com/example/urd/urd/time/DeadlineQueue$Bucket" := f13.ext E19
  have f21 : Fld Z h19 b1 "com/example/urd/urd/time/Scheduled" "previous" "Lcom/example/urd/urd/time/Scheduled;" (.ref b1) := f14.ext E19
  have f22 : Fld Z h19 b1 "com/example/urd/urd/time/Scheduled" "next" "Lcom/example/urd/urd/time/Scheduled;" (.ref b1) := f15.ext E19
  have f23 : Fld Z h19 b1 "com/example/urd/urd/time/Scheduled" "bucket" "Lcom/example/urd/urd/time/DeadlineQueue$Bucket;" .null := f16.ext E19
  have f24 : Exa Z h19 b6 "com/example/urd/urd/time/DeadlineQueue$Bucket" := f17.ext E19
  have f25 : Fld Z h19 b6 "com/example/urd/urd/time/Scheduled" "previous" "Lcom/example/urd/urd/time/Scheduled;" (.ref b6) := F_previous_c12.ext E19
  have f26 : Fld Z h19 b6 "com/example/urd/urd/time/Scheduled" "next" "Lcom/example/urd/urd/time/Scheduled;" (.ref b6) := F_next_c12.ext E19
  have f27 : Fld Z h19 b6 "com/example/urd/urd/time/Scheduled" "bucket" "Lcom/example/urd/urd/time/DeadlineQueue$Bucket;" .null := F_bucket_c12.ext E19
  have F19_15 : Fld Z h19 b19 "com/example/urd/urd/time/Scheduled" "deadline" "J" (.long (0 : Int64)) := D19 (Or.inl (hw _ (List.mem_of_getElem? (i := 15) rfl))) (ty := .long) (by decide)
  have F19_18 : Fld Z h19 b19 "com/example/urd/urd/time/DeadlineQueue$Bucket" "least" "J" (.long (0 : Int64)) := D19 (Or.inl (hw _ (List.mem_of_getElem? (i := 18) rfl))) (ty := .long) (by decide)
  have F19_21 : Fld Z h19 b19 "com/example/urd/urd/time/DeadlineQueue$Bucket" "greatest" "J" (.long (0 : Int64)) := D19 (Or.inl (hw _ (List.mem_of_getElem? (i := 21) rfl))) (ty := .long) (by decide)
  have F19_23 : Fld Z h19 b19 "com/example/urd/urd/time/DeadlineQueue$Bucket" "start" "J" (.long (0 : Int64)) := D19 (Or.inr (hw _ (List.mem_of_getElem? (i := 23) rfl))) (ty := .long) (by decide)
  have F19_25 : Fld Z h19 b19 "com/example/urd/urd/time/DeadlineQueue$Bucket" "last" "J" (.long (0 : Int64)) := D19 (Or.inl (hw _ (List.mem_of_getElem? (i := 25) rfl))) (ty := .long) (by decide)
  have F19_33 : Fld Z h19 b19 "com/example/urd/urd/time/Scheduled" "previous" "Lcom/example/urd/urd/time/Scheduled;" .null := D19 (Or.inl (hw _ (List.mem_of_getElem? (i := 33) rfl))) (ty := (.object "com/example/urd/urd/time/Scheduled")) (by decide)
  have F19_35 : Fld Z h19 b19 "com/example/urd/urd/time/Scheduled" "next" "Lcom/example/urd/urd/time/Scheduled;" .null := D19 (Or.inl (hw _ (List.mem_of_getElem? (i := 35) rfl))) (ty := (.object "com/example/urd/urd/time/Scheduled")) (by decide)
  have F19_42 : Fld Z h19 b19 "com/example/urd/urd/time/Scheduled" "bucket" "Lcom/example/urd/urd/time/DeadlineQueue$Bucket;" .null := D19 (Or.inl (hw _ (List.mem_of_getElem? (i := 42) rfl))) (ty := (.object "com/example/urd/urd/time/DeadlineQueue$Bucket")) (by decide)
  have R28 : ∀ t, Steps p.tables e below (T19.setTop (mkF m 28 #[.val (.int p1), .val (.long q2), .second, .val (.long q3), .second, .val (.ref b1), .val (.ref b6), .unset, .unset, .unset, .unset, .unset, .unset, .unset, .unset] [(.long q2), (.long q2), (.ref b19), (.ref b19)])) t → Steps p.tables e below (s₁.setTop (entryFrame m #[(.int p1), (.long q2), (.long q3)] maxLocals)) t := by
    intro t k
    refine R19 t ?_
    show Steps p.tables e below (T19.setTop (mkF m 25 #[.val (.int p1), .val (.long q2), .second, .val (.long q3), .second, .val (.ref b1), .val (.ref b6), .unset, .unset, .unset, .unset, .unset, .unset, .unset, .unset] [(.ref b19)])) _
    refine XS.dup X19.here hx rfl (hb hby at_25) rfl rfl ?_
    show Steps p.tables e below (T19.setTop (mkF m 26 #[.val (.int p1), .val (.long q2), .second, .val (.long q3), .second, .val (.ref b1), .val (.ref b6), .unset, .unset, .unset, .unset, .unset, .unset, .unset, .unset] [(.ref b19), (.ref b19)])) _
    refine XS.lloadN X19.here hx rfl (hb hby at_26) rfl ?_
    show Steps p.tables e below (T19.setTop (mkF m 27 #[.val (.int p1), .val (.long q2), .second, .val (.long q3), .second, .val (.ref b1), .val (.ref b6), .unset, .unset, .unset, .unset, .unset, .unset, .unset, .unset] [(.long q2), (.ref b19), (.ref b19)])) _
    refine XS.lloadN X19.here hx rfl (hb hby at_27) rfl ?_
    exact k
  obtain ⟨_, _, ⟨T29, L29, k29, n29⟩, -, X29, ⟨Lc29, hQ29, l29, y29, z29⟩, st29⟩ := X19.specialBack hx (y := (⟨"com/example/urd/urd/time/DeadlineQueue$Bucket", "<init>", "(JJ)V"⟩ : MethodName)) rfl hown (mvT hZ (hw _ (List.mem_of_getElem? (i := 3) rfl))) (mvT hZ (hw _ (List.mem_of_getElem? (i := 4) rfl))) (mvT hZ (hw _ (List.mem_of_getElem? (i := 5) rfl))) (by decide) (backOf (W := 1) (rmBI l Z a0 hw [] b19 q2 q2  h19 n0 Z19 F19_15 F19_18 F19_21 F19_23 F19_25 F19_33 F19_35 F19_42 A19 g_b19) hZ (hw _ (List.mem_of_getElem? (i := 5) rfl)) (hw _ (List.mem_of_getElem? (i := 2) rfl)) (by decide) (by decide)) (g := (mkF m 28 #[.val (.int p1), .val (.long q2), .second, .val (.long q3), .second, .val (.ref b1), .val (.ref b6), .unset, .unset, .unset, .unset, .unset, .unset, .unset, .unset] [(.long q2), (.long q2), (.ref b19), (.ref b19)])) rfl (by rw [hml]; rfl) (Steps.refl _) (a := b19) (argsL := [(.long q2), (.long q2)]) (rest := [(.ref b19)]) (lenOf own_pd0 rfl) rfl (by show 2 * 0 + _ ≤ _; exact Nat.le_of_eq rfl) (hb hby at_28) (fun _ _ => ⟨rfl, e19, (by decide : 3 + 0 ≤ _), (by decide : 39 + 0 ≤ _)⟩)
  dsimp only [Pt.U, Pt.locs, Pt.cells, Pt.slots] at X29 l29 y29 z29 st29 hQ29
  subst l29 y29 z29
  obtain ⟨rfl, Nq29, Kc29, F_previous_c29, F_next_c29, F_bucket_c29⟩ := hQ29
  have N29 := Fr.app N12 Nq29
  have R29 : ∀ t, Steps p.tables e below (T29.setTop (mkF m 31 #[.val (.int p1), .val (.long q2), .second, .val (.long q3), .second, .val (.ref b1), .val (.ref b6), .unset, .unset, .unset, .unset, .unset, .unset, .unset, .unset] [(.ref b19)])) t → Steps p.tables e below (s₁.setTop (entryFrame m #[(.int p1), (.long q2), (.long q3)] maxLocals)) t := fun t k => R28 t (st29.trans k)
  have Z29 : n0 ≤ T29.heap.size := Nat.le_trans Z19 Kc29.1
  have K29 : Keep h0 T29.heap [] := K19.trans Kc29 (allS (Or.inr sz_b19) all0)
  have f30 : Exa Z T29.heap b1 "com/example/urd/urd/time/DeadlineQueue$Bucket" := f20.keep Kc29
  have f31 : Fld Z T29.heap b1 "com/example/urd/urd/time/Scheduled" "previous" "Lcom/example/urd/urd/time/Scheduled;" (.ref b1) := f21.keep Kc29 (ninS ne_b1_b19 nin0)
  have f32 : Fld Z T29.heap b1 "com/example/urd/urd/time/Scheduled" "next" "Lcom/example/urd/urd/time/Scheduled;" (.ref b1) := f22.keep Kc29 (ninS ne_b1_b19 nin0)
  have f33 : Fld Z T29.heap b1 "com/example/urd/urd/time/Scheduled" "bucket" "Lcom/example/urd/urd/time/DeadlineQueue$Bucket;" .null := f23.keep Kc29 (ninS ne_b1_b19 nin0)
  have f34 : Exa Z T29.heap b6 "com/example/urd/urd/time/DeadlineQueue$Bucket" := f24.keep Kc29
  have f35 : Fld Z T29.heap b6 "com/example/urd/urd/time/Scheduled" "previous" "Lcom/example/urd/urd/time/Scheduled;" (.ref b6) := f25.keep Kc29 (ninS ne_b6_b19 nin0)
  have f36 : Fld Z T29.heap b6 "com/example/urd/urd/time/Scheduled" "next" "Lcom/example/urd/urd/time/Scheduled;" (.ref b6) := f26.keep Kc29 (ninS ne_b6_b19 nin0)
  have f37 : Fld Z T29.heap b6 "com/example/urd/urd/time/Scheduled" "bucket" "Lcom/example/urd/urd/time/DeadlineQueue$Bucket;" .null := f27.keep Kc29 (ninS ne_b6_b19 nin0)
  have f38 : Exa Z T29.heap b19 "com/example/urd/urd/time/DeadlineQueue$Bucket" := A19.keep Kc29
  have R39 : ∀ t, Steps p.tables e below (T29.setTop (mkF m 37 #[.val (.int p1), .val (.long q2), .second, .val (.long q3), .second, .val (.ref b1), .val (.ref b6), .val (.ref b19), .unset, .unset, .unset, .unset, .unset, .unset, .unset] [(.ref b1), (.ref b6)])) t → Steps p.tables e below (s₁.setTop (entryFrame m #[(.int p1), (.long q2), (.long q3)] maxLocals)) t := by
    intro t k
    refine R29 t ?_
    show Steps p.tables e below (T29.setTop (mkF m 31 #[.val (.int p1), .val (.long q2), .second, .val (.long q3), .second, .val (.ref b1), .val (.ref b6), .unset, .unset, .unset, .unset, .unset, .unset, .unset, .unset] [(.ref b19)])) _
    refine XS.astore X29.here hx rfl (hb hby at_31) rfl rfl (l' := #[.val (.int p1), .val (.long q2), .second, .val (.long q3), .second, .val (.ref b1), .val (.ref b6), .val (.ref b19), .unset, .unset, .unset, .unset, .unset, .unset, .unset]) rfl ?_
    show Steps p.tables e below (T29.setTop (mkF m 33 #[.val (.int p1), .val (.long q2), .second, .val (.long q3), .second, .val (.ref b1), .val (.ref b6), .val (.ref b19), .unset, .unset, .unset, .unset, .unset, .unset, .unset] [])) _
    refine XS.aload X29.here hx rfl (hb hby at_33) rfl rfl ?_
    show Steps p.tables e below (T29.setTop (mkF m 35 #[.val (.int p1), .val (.long q2), .second, .val (.long q3), .second, .val (.ref b1), .val (.ref b6), .val (.ref b19), .unset, .unset, .unset, .unset, .unset, .unset, .unset] [(.ref b6)])) _
    refine XS.aload X29.here hx rfl (hb hby at_35) rfl rfl ?_
    exact k
  obtain ⟨cq40, kq40, q40a, q40b, q40c⟩ := isOf hZ rfl f34
  obtain ⟨_, _, ⟨T40, L40, k40, n40⟩, -, X40, ⟨Lc40, hQ40, l40, y40, z40⟩, st40⟩ := X29.virtualBack hx (y := (⟨"com/example/urd/urd/time/Scheduled", "linkInto", "(Lcom/example/urd/urd/time/DeadlineQueue$Bucket;)V"⟩ : MethodName)) (z := (⟨"com/example/urd/urd/time/Scheduled", "linkInto", "(Lcom/example/urd/urd/time/DeadlineQueue$Bucket;)V"⟩ : MethodName)) hown (mvT hZ (hw _ (List.mem_of_getElem? (i := 36) rfl))) (mvT hZ (hw _ (List.mem_of_getElem? (i := 37) rfl))) (notFace_of_selects (args := #[]) (mvT hZ (hw _ (List.mem_of_getElem? (i := 39) rfl)))) (mvT hZ (hw _ (List.mem_of_getElem? (i := 39) rfl))) (mvT hZ (hw _ (List.mem_of_getElem? (i := 38) rfl))) (by decide) (backOf (W := 0) (rmLA l Z a0 hw [] b6 b1 (.ref b6) (.ref b6) .null (.ref b1) .null T29.heap n0 Z29 f35 f36 f37 f31 f32 f33 f34 g_b6 f30 g_b1 (Ne.symm ne_b1_b6)) hZ (hw _ (List.mem_of_getElem? (i := 40) rfl)) (hw _ (List.mem_of_getElem? (i := 9) rfl)) (by decide) (by decide)) q40a q40c (g := (mkF m 37 #[.val (.int p1), .val (.long q2), .second, .val (.long q3), .second, .val (.ref b1), .val (.ref b6), .val (.ref b19), .unset, .unset, .unset, .unset, .unset, .unset, .unset] [(.ref b1), (.ref b6)])) rfl (by rw [hml]; rfl) (Steps.refl _) (argsL := [(.ref b1)]) (rest := []) (lenOf own_pd3 rfl) rfl (by show 2 * 0 + _ ≤ _; exact Nat.le_of_eq rfl) (hb hby at_37) (fun _ _ => ⟨rfl, rfl, (by decide : 3 + 0 ≤ _), (by decide : 39 + 0 ≤ _)⟩)
  dsimp only [Pt.U, Pt.locs, Pt.cells, Pt.slots] at X40 l40 y40 z40 st40 hQ40
  subst l40 y40 z40
  obtain ⟨rfl, Nq40, Kc40, Fo0_40, Fo1_40, Fo2_40, Fo3_40, Fo4_40, Fo5_40⟩ := hQ40
  have N40 := Fr.app N29 Nq40
  have R40 : ∀ t, Steps p.tables e below (T40.setTop (mkF m 40 #[.val (.int p1), .val (.long q2), .second, .val (.long q3), .second, .val (.ref b1), .val (.ref b6), .val (.ref b19), .unset, .unset, .unset, .unset, .unset, .unset, .unset] [])) t → Steps p.tables e below (s₁.setTop (entryFrame m #[(.int p1), (.long q2), (.long q3)] maxLocals)) t := fun t k => R39 t (st40.trans k)
  have Z40 : n0 ≤ T40.heap.size := Nat.le_trans Z29 Kc40.1
  have K40 : Keep h0 T40.heap [] := K29.trans Kc40 (allS (Or.inr sz_b6) (allS (Or.inr sz_b1) all0))
  have f41 : Exa Z T40.heap b1 "com/example/urd/urd/time/DeadlineQueue$Bucket" := f30.keep Kc40
  have f42 : Exa Z T40.heap b6 "com/example/urd/urd/time/DeadlineQueue$Bucket" := f34.keep Kc40
  have f43 : Exa Z T40.heap b19 "com/example/urd/urd/time/DeadlineQueue$Bucket" := f38.keep Kc40
  have f44 : Fld Z T40.heap b19 "com/example/urd/urd/time/Scheduled" "previous" "Lcom/example/urd/urd/time/Scheduled;" (.ref b19) := F_previous_c29.keep Kc40 (ninS (Ne.symm ne_b6_b19) (ninS (Ne.symm ne_b1_b19) nin0))
  have f45 : Fld Z T40.heap b19 "com/example/urd/urd/time/Scheduled" "next" "Lcom/example/urd/urd/time/Scheduled;" (.ref b19) := F_next_c29.keep Kc40 (ninS (Ne.symm ne_b6_b19) (ninS (Ne.symm ne_b1_b19) nin0))
  have f46 : Fld Z T40.heap b19 "com/example/urd/urd/time/Scheduled" "bucket" "Lcom/example/urd/urd/time/DeadlineQueue$Bucket;" .null := F_bucket_c29.keep Kc40 (ninS (Ne.symm ne_b6_b19) (ninS (Ne.symm ne_b1_b19) nin0))
  have R47 : ∀ t, Steps p.tables e below (T40.setTop (mkF m 44 #[.val (.int p1), .val (.long q2), .second, .val (.long q3), .second, .val (.ref b1), .val (.ref b6), .val (.ref b19), .unset, .unset, .unset, .unset, .unset, .unset, .unset] [(.ref b1), (.ref b19)])) t → Steps p.tables e below (s₁.setTop (entryFrame m #[(.int p1), (.long q2), (.long q3)] maxLocals)) t := by
    intro t k
    refine R40 t ?_
    show Steps p.tables e below (T40.setTop (mkF m 40 #[.val (.int p1), .val (.long q2), .second, .val (.long q3), .second, .val (.ref b1), .val (.ref b6), .val (.ref b19), .unset, .unset, .unset, .unset, .unset, .unset, .unset] [])) _
    refine XS.aload X40.here hx rfl (hb hby at_40) rfl rfl ?_
    show Steps p.tables e below (T40.setTop (mkF m 42 #[.val (.int p1), .val (.long q2), .second, .val (.long q3), .second, .val (.ref b1), .val (.ref b6), .val (.ref b19), .unset, .unset, .unset, .unset, .unset, .unset, .unset] [(.ref b19)])) _
    refine XS.aload X40.here hx rfl (hb hby at_42) rfl rfl ?_
    exact k
  obtain ⟨cq48, kq48, q48a, q48b, q48c⟩ := isOf hZ rfl f43
  obtain ⟨_, _, ⟨T48, L48, k48, n48⟩, -, X48, ⟨Lc48, hQ48, l48, y48, z48⟩, st48⟩ := X40.virtualBack hx (y := (⟨"com/example/urd/urd/time/Scheduled", "linkInto", "(Lcom/example/urd/urd/time/DeadlineQueue$Bucket;)V"⟩ : MethodName)) (z := (⟨"com/example/urd/urd/time/Scheduled", "linkInto", "(Lcom/example/urd/urd/time/DeadlineQueue$Bucket;)V"⟩ : MethodName)) hown (mvT hZ (hw _ (List.mem_of_getElem? (i := 36) rfl))) (mvT hZ (hw _ (List.mem_of_getElem? (i := 37) rfl))) (notFace_of_selects (args := #[]) (mvT hZ (hw _ (List.mem_of_getElem? (i := 39) rfl)))) (mvT hZ (hw _ (List.mem_of_getElem? (i := 39) rfl))) (mvT hZ (hw _ (List.mem_of_getElem? (i := 38) rfl))) (by decide) (backOf (W := 0) (rmLB l Z a0 hw [] b19 b1 b6 (.ref b19) (.ref b19) .null (.ref b6) .null (.ref b1) (.ref b1) (.ref b1) T40.heap n0 Z40 f44 f45 f46 Fo3_40 Fo4_40 Fo5_40 Fo0_40 Fo1_40 Fo2_40 f43 g_b19 f41 g_b1 f42 g_b6 (Ne.symm ne_b1_b19) (Ne.symm ne_b6_b19) ne_b1_b6) hZ (hw _ (List.mem_of_getElem? (i := 40) rfl)) (hw _ (List.mem_of_getElem? (i := 9) rfl)) (by decide) (by decide)) q48a q48c (g := (mkF m 44 #[.val (.int p1), .val (.long q2), .second, .val (.long q3), .second, .val (.ref b1), .val (.ref b6), .val (.ref b19), .unset, .unset, .unset, .unset, .unset, .unset, .unset] [(.ref b1), (.ref b19)])) rfl (by rw [hml]; rfl) (Steps.refl _) (argsL := [(.ref b1)]) (rest := []) (lenOf own_pd3 rfl) rfl (by show 2 * 0 + _ ≤ _; exact Nat.le_of_eq rfl) (hb hby at_44) (fun _ _ => ⟨rfl, rfl, (by decide : 3 + 0 ≤ _), (by decide : 39 + 0 ≤ _)⟩)
  dsimp only [Pt.U, Pt.locs, Pt.cells, Pt.slots] at X48 l48 y48 z48 st48 hQ48
  subst l48 y48 z48
  obtain ⟨rfl, Nq48, Kc48, Fo0_48, Fo1_48, Fo2_48, Fo3_48, Fo4_48, Fo5_48, Fo6_48, Fo7_48, Fo8_48⟩ := hQ48
  have N48 := Fr.app N40 Nq48
  have R48 : ∀ t, Steps p.tables e below (T48.setTop (mkF m 47 #[.val (.int p1), .val (.long q2), .second, .val (.long q3), .second, .val (.ref b1), .val (.ref b6), .val (.ref b19), .unset, .unset, .unset, .unset, .unset, .unset, .unset] [])) t → Steps p.tables e below (s₁.setTop (entryFrame m #[(.int p1), (.long q2), (.long q3)] maxLocals)) t := fun t k => R47 t (st48.trans k)
  have Z48 : n0 ≤ T48.heap.size := Nat.le_trans Z40 Kc48.1
  have K48 : Keep h0 T48.heap [] := K40.trans Kc48 (allS (Or.inr sz_b19) (allS (Or.inr sz_b1) (allS (Or.inr sz_b6) all0)))
  have f49 : Exa Z T48.heap b1 "com/example/urd/urd/time/DeadlineQueue$Bucket" := f41.keep Kc48
  have f50 : Exa Z T48.heap b6 "com/example/urd/urd/time/DeadlineQueue$Bucket" := f42.keep Kc48
  have f51 : Exa Z T48.heap b19 "com/example/urd/urd/time/DeadlineQueue$Bucket" := f43.keep Kc48
  have R52 : ∀ t, Steps p.tables e below (T48.setTop (mkF m 50 #[.val (.int p1), .val (.long q2), .second, .val (.long q3), .second, .val (.ref b1), .val (.ref b6), .val (.ref b19), .unset, .unset, .unset, .unset, .unset, .unset, .unset] [(.int (p1 &&& (1 : Int32)))])) t → Steps p.tables e below (s₁.setTop (entryFrame m #[(.int p1), (.long q2), (.long q3)] maxLocals)) t := by
    intro t k
    refine R48 t ?_
    show Steps p.tables e below (T48.setTop (mkF m 47 #[.val (.int p1), .val (.long q2), .second, .val (.long q3), .second, .val (.ref b1), .val (.ref b6), .val (.ref b19), .unset, .unset, .unset, .unset, .unset, .unset, .unset] [])) _
    refine XS.iloadN X48.here hx rfl (hb hby at_47) rfl ?_
    show Steps p.tables e below (T48.setTop (mkF m 48 #[.val (.int p1), .val (.long q2), .second, .val (.long q3), .second, .val (.ref b1), .val (.ref b6), .val (.ref b19), .unset, .unset, .unset, .unset, .unset, .unset, .unset] [(.int p1)])) _
    refine XS.iconst X48.here hx rfl (hb hby at_48) ?_
    show Steps p.tables e below (T48.setTop (mkF m 49 #[.val (.int p1), .val (.long q2), .second, .val (.long q3), .second, .val (.ref b1), .val (.ref b6), .val (.ref b19), .unset, .unset, .unset, .unset, .unset, .unset, .unset] [(.int (1 : Int32)), (.int p1)])) _
    refine XS.iand X48.here hx rfl (hb hby at_49) rfl ?_
    exact k
  by_cases hf : (p1 &&& (1 : Int32)) = (0 : Int32)
  · have R53 : ∀ t, Steps p.tables e below (T48.setTop (mkF m 90 #[.val (.int p1), .val (.long q2), .second, .val (.long q3), .second, .val (.ref b1), .val (.ref b6), .val (.ref b19), .val (.int (1 : Int32)), .val (.ref b6), .val (.ref b19), .unset, .unset, .unset, .unset] [(.ref b6)])) t → Steps p.tables e below (s₁.setTop (entryFrame m #[(.int p1), (.long q2), (.long q3)] maxLocals)) t := by
      intro t k
      refine R52 t ?_
      show Steps p.tables e below (T48.setTop (mkF m 50 #[.val (.int p1), .val (.long q2), .second, .val (.long q3), .second, .val (.ref b1), .val (.ref b6), .val (.ref b19), .unset, .unset, .unset, .unset, .unset, .unset, .unset] [(.int (p1 &&& (1 : Int32)))])) _
      refine XS.ifNo X48.here hx rfl (hb hby at_50) rfl ((if0 _ _).trans (teq hf).2) ?_
      show Steps p.tables e below (T48.setTop (mkF m 53 #[.val (.int p1), .val (.long q2), .second, .val (.long q3), .second, .val (.ref b1), .val (.ref b6), .val (.ref b19), .unset, .unset, .unset, .unset, .unset, .unset, .unset] [])) _
      refine XS.iconst X48.here hx rfl (hb hby at_53) ?_
      show Steps p.tables e below (T48.setTop (mkF m 54 #[.val (.int p1), .val (.long q2), .second, .val (.long q3), .second, .val (.ref b1), .val (.ref b6), .val (.ref b19), .unset, .unset, .unset, .unset, .unset, .unset, .unset] [(.int (1 : Int32))])) _
      refine XS.goto X48.here hx rfl (pc0 := 54) (pc' := 58) rfl (hb hby at_54) (by decide) (by decide) ?_
      show Steps p.tables e below (T48.setTop (mkF m 58 #[.val (.int p1), .val (.long q2), .second, .val (.long q3), .second, .val (.ref b1), .val (.ref b6), .val (.ref b19), .unset, .unset, .unset, .unset, .unset, .unset, .unset] [(.int (1 : Int32))])) _
      refine XS.istore X48.here hx rfl (hb hby at_58) rfl (l' := #[.val (.int p1), .val (.long q2), .second, .val (.long q3), .second, .val (.ref b1), .val (.ref b6), .val (.ref b19), .val (.int (1 : Int32)), .unset, .unset, .unset, .unset, .unset, .unset]) rfl ?_
      show Steps p.tables e below (T48.setTop (mkF m 60 #[.val (.int p1), .val (.long q2), .second, .val (.long q3), .second, .val (.ref b1), .val (.ref b6), .val (.ref b19), .val (.int (1 : Int32)), .unset, .unset, .unset, .unset, .unset, .unset] [])) _
      refine XS.iload X48.here hx rfl (hb hby at_60) rfl ?_
      show Steps p.tables e below (T48.setTop (mkF m 62 #[.val (.int p1), .val (.long q2), .second, .val (.long q3), .second, .val (.ref b1), .val (.ref b6), .val (.ref b19), .val (.int (1 : Int32)), .unset, .unset, .unset, .unset, .unset, .unset] [(.int (1 : Int32))])) _
      refine XS.ifNo X48.here hx rfl (hb hby at_62) rfl ((if0 _ _).trans (feq (by decide : ¬ ((1 : Int32) = (0 : Int32)))).1) ?_
      show Steps p.tables e below (T48.setTop (mkF m 65 #[.val (.int p1), .val (.long q2), .second, .val (.long q3), .second, .val (.ref b1), .val (.ref b6), .val (.ref b19), .val (.int (1 : Int32)), .unset, .unset, .unset, .unset, .unset, .unset] [])) _
      refine XS.aload X48.here hx rfl (hb hby at_65) rfl rfl ?_
      show Steps p.tables e below (T48.setTop (mkF m 67 #[.val (.int p1), .val (.long q2), .second, .val (.long q3), .second, .val (.ref b1), .val (.ref b6), .val (.ref b19), .val (.int (1 : Int32)), .unset, .unset, .unset, .unset, .unset, .unset] [(.ref b6)])) _
      refine XS.goto X48.here hx rfl (pc0 := 67) (pc' := 72) rfl (hb hby at_67) (by decide) (by decide) ?_
      show Steps p.tables e below (T48.setTop (mkF m 72 #[.val (.int p1), .val (.long q2), .second, .val (.long q3), .second, .val (.ref b1), .val (.ref b6), .val (.ref b19), .val (.int (1 : Int32)), .unset, .unset, .unset, .unset, .unset, .unset] [(.ref b6)])) _
      refine XS.astore X48.here hx rfl (hb hby at_72) rfl rfl (l' := #[.val (.int p1), .val (.long q2), .second, .val (.long q3), .second, .val (.ref b1), .val (.ref b6), .val (.ref b19), .val (.int (1 : Int32)), .val (.ref b6), .unset, .unset, .unset, .unset, .unset]) rfl ?_
      show Steps p.tables e below (T48.setTop (mkF m 74 #[.val (.int p1), .val (.long q2), .second, .val (.long q3), .second, .val (.ref b1), .val (.ref b6), .val (.ref b19), .val (.int (1 : Int32)), .val (.ref b6), .unset, .unset, .unset, .unset, .unset] [])) _
      refine XS.iload X48.here hx rfl (hb hby at_74) rfl ?_
      show Steps p.tables e below (T48.setTop (mkF m 76 #[.val (.int p1), .val (.long q2), .second, .val (.long q3), .second, .val (.ref b1), .val (.ref b6), .val (.ref b19), .val (.int (1 : Int32)), .val (.ref b6), .unset, .unset, .unset, .unset, .unset] [(.int (1 : Int32))])) _
      refine XS.ifNo X48.here hx rfl (hb hby at_76) rfl ((if0 _ _).trans (feq (by decide : ¬ ((1 : Int32) = (0 : Int32)))).1) ?_
      show Steps p.tables e below (T48.setTop (mkF m 79 #[.val (.int p1), .val (.long q2), .second, .val (.long q3), .second, .val (.ref b1), .val (.ref b6), .val (.ref b19), .val (.int (1 : Int32)), .val (.ref b6), .unset, .unset, .unset, .unset, .unset] [])) _
      refine XS.aload X48.here hx rfl (hb hby at_79) rfl rfl ?_
      show Steps p.tables e below (T48.setTop (mkF m 81 #[.val (.int p1), .val (.long q2), .second, .val (.long q3), .second, .val (.ref b1), .val (.ref b6), .val (.ref b19), .val (.int (1 : Int32)), .val (.ref b6), .unset, .unset, .unset, .unset, .unset] [(.ref b19)])) _
      refine XS.goto X48.here hx rfl (pc0 := 81) (pc' := 86) rfl (hb hby at_81) (by decide) (by decide) ?_
      show Steps p.tables e below (T48.setTop (mkF m 86 #[.val (.int p1), .val (.long q2), .second, .val (.long q3), .second, .val (.ref b1), .val (.ref b6), .val (.ref b19), .val (.int (1 : Int32)), .val (.ref b6), .unset, .unset, .unset, .unset, .unset] [(.ref b19)])) _
      refine XS.astore X48.here hx rfl (hb hby at_86) rfl rfl (l' := #[.val (.int p1), .val (.long q2), .second, .val (.long q3), .second, .val (.ref b1), .val (.ref b6), .val (.ref b19), .val (.int (1 : Int32)), .val (.ref b6), .val (.ref b19), .unset, .unset, .unset, .unset]) rfl ?_
      show Steps p.tables e below (T48.setTop (mkF m 88 #[.val (.int p1), .val (.long q2), .second, .val (.long q3), .second, .val (.ref b1), .val (.ref b6), .val (.ref b19), .val (.int (1 : Int32)), .val (.ref b6), .val (.ref b19), .unset, .unset, .unset, .unset] [])) _
      refine XS.aload X48.here hx rfl (hb hby at_88) rfl rfl ?_
      exact k
    obtain ⟨cq54, kq54, q54a, q54b, q54c⟩ := isOf hZ rfl f50
    obtain ⟨_, _, ⟨T54, L54, k54, n54⟩, -, X54, ⟨Lc54, hQ54, l54, y54, z54⟩, st54⟩ := X48.virtualBack hx (y := (⟨"com/example/urd/urd/time/Scheduled", "unlink", "()V"⟩ : MethodName)) (z := (⟨"com/example/urd/urd/time/Scheduled", "unlink", "()V"⟩ : MethodName)) hown (mvT hZ (hw _ (List.mem_of_getElem? (i := 43) rfl))) (mvT hZ (hw _ (List.mem_of_getElem? (i := 44) rfl))) (notFace_of_selects (args := #[]) (mvT hZ (hw _ (List.mem_of_getElem? (i := 46) rfl)))) (mvT hZ (hw _ (List.mem_of_getElem? (i := 46) rfl))) (mvT hZ (hw _ (List.mem_of_getElem? (i := 45) rfl))) (by decide) (backOf (W := 0) (rmU l Z a0 hw [] b6 b1 b19 (.ref b1) (.ref b19) (.ref b6) .null (.ref b6) (.ref b1) (.ref b1) T48.heap n0 Z48 Fo6_48 Fo7_48 Fo8_48 Fo3_48 Fo4_48 Fo5_48 Fo0_48 Fo1_48 Fo2_48 f50 g_b6 f49 g_b1 f51 g_b19 (Ne.symm ne_b1_b6) ne_b6_b19 ne_b1_b19) hZ (hw _ (List.mem_of_getElem? (i := 47) rfl)) (hw _ (List.mem_of_getElem? (i := 9) rfl)) (by decide) (by decide)) q54a q54c (g := (mkF m 90 #[.val (.int p1), .val (.long q2), .second, .val (.long q3), .second, .val (.ref b1), .val (.ref b6), .val (.ref b19), .val (.int (1 : Int32)), .val (.ref b6), .val (.ref b19), .unset, .unset, .unset, .unset] [(.ref b6)])) rfl (by rw [hml]; rfl) (Steps.refl _) (argsL := []) (rest := []) (lenOf own_pd2 rfl) rfl (by show 2 * 0 + _ ≤ _; exact Nat.le_of_eq rfl) (hb hby at_90) (fun _ _ => ⟨rfl, rfl, (by decide : 3 + 0 ≤ _), (by decide : 39 + 0 ≤ _)⟩)
    dsimp only [Pt.U, Pt.locs, Pt.cells, Pt.slots] at X54 l54 y54 z54 st54 hQ54
    subst l54 y54 z54
    obtain ⟨rfl, Nq54, Kc54, Fo0_54, Fo1_54, Fo2_54, Fo3_54, Fo4_54, Fo5_54, Fo6_54, Fo7_54, Fo8_54⟩ := hQ54
    have N54 := Fr.app N48 Nq54
    have R54 : ∀ t, Steps p.tables e below (T54.setTop (mkF m 93 #[.val (.int p1), .val (.long q2), .second, .val (.long q3), .second, .val (.ref b1), .val (.ref b6), .val (.ref b19), .val (.int (1 : Int32)), .val (.ref b6), .val (.ref b19), .unset, .unset, .unset, .unset] [])) t → Steps p.tables e below (s₁.setTop (entryFrame m #[(.int p1), (.long q2), (.long q3)] maxLocals)) t := fun t k => R53 t (st54.trans k)
    have Z54 : n0 ≤ T54.heap.size := Nat.le_trans Z48 Kc54.1
    have K54 : Keep h0 T54.heap [] := K48.trans Kc54 (allS (Or.inr sz_b6) (allS (Or.inr sz_b1) (allS (Or.inr sz_b19) all0)))
    have f55 : Exa Z T54.heap b1 "com/example/urd/urd/time/DeadlineQueue$Bucket" := f49.keep Kc54
    have f56 : Exa Z T54.heap b6 "com/example/urd/urd/time/DeadlineQueue$Bucket" := f50.keep Kc54
    have f57 : Exa Z T54.heap b19 "com/example/urd/urd/time/DeadlineQueue$Bucket" := f51.keep Kc54
    have R58 : ∀ t, Steps p.tables e below (T54.setTop (mkF m 95 #[.val (.int p1), .val (.long q2), .second, .val (.long q3), .second, .val (.ref b1), .val (.ref b6), .val (.ref b19), .val (.int (1 : Int32)), .val (.ref b6), .val (.ref b19), .unset, .unset, .unset, .unset] [(.ref b6)])) t → Steps p.tables e below (s₁.setTop (entryFrame m #[(.int p1), (.long q2), (.long q3)] maxLocals)) t := by
      intro t k
      refine R54 t ?_
      show Steps p.tables e below (T54.setTop (mkF m 93 #[.val (.int p1), .val (.long q2), .second, .val (.long q3), .second, .val (.ref b1), .val (.ref b6), .val (.ref b19), .val (.int (1 : Int32)), .val (.ref b6), .val (.ref b19), .unset, .unset, .unset, .unset] [])) _
      refine XS.aload X54.here hx rfl (hb hby at_93) rfl rfl ?_
      exact k
    obtain ⟨cq59, kq59, q59a, q59b, q59c⟩ := isOf hZ rfl f56
    obtain ⟨_, _, ⟨T59, L59, k59, n59⟩, -, X59, ⟨Lc59, hQ59, l59, y59, z59⟩, st59⟩ := X54.virtualBack hx (y := (⟨"com/example/urd/urd/time/Scheduled", "next", "()Lcom/example/urd/urd/time/Scheduled;"⟩ : MethodName)) (z := (⟨"com/example/urd/urd/time/Scheduled", "next", "()Lcom/example/urd/urd/time/Scheduled;"⟩ : MethodName)) hown (mvT hZ (hw _ (List.mem_of_getElem? (i := 48) rfl))) (mvT hZ (hw _ (List.mem_of_getElem? (i := 49) rfl))) (notFace_of_selects (args := #[]) (mvT hZ (hw _ (List.mem_of_getElem? (i := 51) rfl)))) (mvT hZ (hw _ (List.mem_of_getElem? (i := 51) rfl))) (mvT hZ (hw _ (List.mem_of_getElem? (i := 50) rfl))) (by decide) (backOf (W := 0) (rmGnext l Z a0 hw [] b6 .null T54.heap n0 Z54 Fo1_54 rfl) hZ (hw _ (List.mem_of_getElem? (i := 52) rfl)) (hw _ (List.mem_of_getElem? (i := 9) rfl)) (by decide) (by decide)) q59a q59c (g := (mkF m 95 #[.val (.int p1), .val (.long q2), .second, .val (.long q3), .second, .val (.ref b1), .val (.ref b6), .val (.ref b19), .val (.int (1 : Int32)), .val (.ref b6), .val (.ref b19), .unset, .unset, .unset, .unset] [(.ref b6)])) rfl (by rw [hml]; rfl) (Steps.refl _) (argsL := []) (rest := []) (lenOf own_pd4 rfl) rfl (by show 2 * 0 + _ ≤ _; exact Nat.le_of_eq rfl) (hb hby at_95) (fun _ _ => ⟨rfl, rfl, (by decide : 3 + 0 ≤ _), (by decide : 39 + 0 ≤ _)⟩)
    dsimp only [Pt.U, Pt.locs, Pt.cells, Pt.slots] at X59 l59 y59 z59 st59 hQ59
    subst l59 y59 z59
    obtain ⟨rfl, Nq59, eq59⟩ := hQ59
    have N59 := Fr.app N54 Nq59
    have R59 : ∀ t, Steps p.tables e below (T59.setTop (mkF m 98 #[.val (.int p1), .val (.long q2), .second, .val (.long q3), .second, .val (.ref b1), .val (.ref b6), .val (.ref b19), .val (.int (1 : Int32)), .val (.ref b6), .val (.ref b19), .unset, .unset, .unset, .unset] [.null])) t → Steps p.tables e below (s₁.setTop (entryFrame m #[(.int p1), (.long q2), (.long q3)] maxLocals)) t := fun t k => R58 t (st59.trans k)
    have R60 : ∀ t, Steps p.tables e below (T59.setTop (mkF m 103 #[.val (.int p1), .val (.long q2), .second, .val (.long q3), .second, .val (.ref b1), .val (.ref b6), .val (.ref b19), .val (.int (1 : Int32)), .val (.ref b6), .val (.ref b19), .unset, .unset, .unset, .unset] [(.ref b6)])) t → Steps p.tables e below (s₁.setTop (entryFrame m #[(.int p1), (.long q2), (.long q3)] maxLocals)) t := by
      intro t k
      refine R59 t ?_
      show Steps p.tables e below (T59.setTop (mkF m 98 #[.val (.int p1), .val (.long q2), .second, .val (.long q3), .second, .val (.ref b1), .val (.ref b6), .val (.ref b19), .val (.int (1 : Int32)), .val (.ref b6), .val (.ref b19), .unset, .unset, .unset, .unset] [.null])) _
      refine XS.ifnonnullNo X59.here hx rfl (hb hby at_98) rfl ?_
      show Steps p.tables e below (T59.setTop (mkF m 101 #[.val (.int p1), .val (.long q2), .second, .val (.long q3), .second, .val (.ref b1), .val (.ref b6), .val (.ref b19), .val (.int (1 : Int32)), .val (.ref b6), .val (.ref b19), .unset, .unset, .unset, .unset] [])) _
      refine XS.aload X59.here hx rfl (hb hby at_101) rfl rfl ?_
      exact k
    obtain ⟨cq61, kq61, q61a, q61b, q61c⟩ := isOf hZ eq59 f56
    obtain ⟨_, _, ⟨T61, L61, k61, n61⟩, -, X61, ⟨Lc61, hQ61, l61, y61, z61⟩, st61⟩ := X59.virtualBack hx (y := (⟨"com/example/urd/urd/time/Scheduled", "isQueued", "()Z"⟩ : MethodName)) (z := (⟨"com/example/urd/urd/time/Scheduled", "isQueued", "()Z"⟩ : MethodName)) hown (mvT hZ (hw _ (List.mem_of_getElem? (i := 53) rfl))) (mvT hZ (hw _ (List.mem_of_getElem? (i := 54) rfl))) (notFace_of_selects (args := #[]) (mvT hZ (hw _ (List.mem_of_getElem? (i := 56) rfl)))) (mvT hZ (hw _ (List.mem_of_getElem? (i := 56) rfl))) (mvT hZ (hw _ (List.mem_of_getElem? (i := 55) rfl))) (by decide) (backOf (W := 0) (rmQ l Z a0 hw [] b6  T54.heap n0 Z54 Fo2_54) hZ (hw _ (List.mem_of_getElem? (i := 57) rfl)) (hw _ (List.mem_of_getElem? (i := 9) rfl)) (by decide) (by decide)) q61a q61c (g := (mkF m 103 #[.val (.int p1), .val (.long q2), .second, .val (.long q3), .second, .val (.ref b1), .val (.ref b6), .val (.ref b19), .val (.int (1 : Int32)), .val (.ref b6), .val (.ref b19), .unset, .unset, .unset, .unset] [(.ref b6)])) rfl (by rw [hml]; rfl) (Steps.refl _) (argsL := []) (rest := []) (lenOf own_pd5 rfl) rfl (by show 2 * 0 + _ ≤ _; exact Nat.le_of_eq rfl) (hb hby at_103) (fun _ _ => ⟨rfl, eq59, (by decide : 3 + 0 ≤ _), (by decide : 39 + 0 ≤ _)⟩)
    dsimp only [Pt.U, Pt.locs, Pt.cells, Pt.slots] at X61 l61 y61 z61 st61 hQ61
    subst l61 y61 z61
    obtain ⟨rfl, Nq61, eq61⟩ := hQ61
    have N61 := Fr.app N59 Nq61
    have R61 : ∀ t, Steps p.tables e below (T61.setTop (mkF m 106 #[.val (.int p1), .val (.long q2), .second, .val (.long q3), .second, .val (.ref b1), .val (.ref b6), .val (.ref b19), .val (.int (1 : Int32)), .val (.ref b6), .val (.ref b19), .unset, .unset, .unset, .unset] [(.int (0 : Int32))])) t → Steps p.tables e below (s₁.setTop (entryFrame m #[(.int p1), (.long q2), (.long q3)] maxLocals)) t := fun t k => R60 t (st61.trans k)
    have R62 : ∀ t, Steps p.tables e below (T61.setTop (mkF m 118 #[.val (.int p1), .val (.long q2), .second, .val (.long q3), .second, .val (.ref b1), .val (.ref b6), .val (.ref b19), .val (.int (1 : Int32)), .val (.ref b6), .val (.ref b19), .val (.int (1 : Int32)), .unset, .unset, .unset] [(.ref b1)])) t → Steps p.tables e below (s₁.setTop (entryFrame m #[(.int p1), (.long q2), (.long q3)] maxLocals)) t := by
      intro t k
      refine R61 t ?_
      show Steps p.tables e below (T61.setTop (mkF m 106 #[.val (.int p1), .val (.long q2), .second, .val (.long q3), .second, .val (.ref b1), .val (.ref b6), .val (.ref b19), .val (.int (1 : Int32)), .val (.ref b6), .val (.ref b19), .unset, .unset, .unset, .unset] [(.int (0 : Int32))])) _
      refine XS.ifNo X61.here hx rfl (hb hby at_106) rfl ((if0 _ _).trans (teq (by decide : ((0 : Int32) = (0 : Int32)))).2) ?_
      show Steps p.tables e below (T61.setTop (mkF m 109 #[.val (.int p1), .val (.long q2), .second, .val (.long q3), .second, .val (.ref b1), .val (.ref b6), .val (.ref b19), .val (.int (1 : Int32)), .val (.ref b6), .val (.ref b19), .unset, .unset, .unset, .unset] [])) _
      refine XS.iconst X61.here hx rfl (hb hby at_109) ?_
      show Steps p.tables e below (T61.setTop (mkF m 110 #[.val (.int p1), .val (.long q2), .second, .val (.long q3), .second, .val (.ref b1), .val (.ref b6), .val (.ref b19), .val (.int (1 : Int32)), .val (.ref b6), .val (.ref b19), .unset, .unset, .unset, .unset] [(.int (1 : Int32))])) _
      refine XS.goto X61.here hx rfl (pc0 := 110) (pc' := 114) rfl (hb hby at_110) (by decide) (by decide) ?_
      show Steps p.tables e below (T61.setTop (mkF m 114 #[.val (.int p1), .val (.long q2), .second, .val (.long q3), .second, .val (.ref b1), .val (.ref b6), .val (.ref b19), .val (.int (1 : Int32)), .val (.ref b6), .val (.ref b19), .unset, .unset, .unset, .unset] [(.int (1 : Int32))])) _
      refine XS.istore X61.here hx rfl (hb hby at_114) rfl (l' := #[.val (.int p1), .val (.long q2), .second, .val (.long q3), .second, .val (.ref b1), .val (.ref b6), .val (.ref b19), .val (.int (1 : Int32)), .val (.ref b6), .val (.ref b19), .val (.int (1 : Int32)), .unset, .unset, .unset]) rfl ?_
      show Steps p.tables e below (T61.setTop (mkF m 116 #[.val (.int p1), .val (.long q2), .second, .val (.long q3), .second, .val (.ref b1), .val (.ref b6), .val (.ref b19), .val (.int (1 : Int32)), .val (.ref b6), .val (.ref b19), .val (.int (1 : Int32)), .unset, .unset, .unset] [])) _
      refine XS.aload X61.here hx rfl (hb hby at_116) rfl rfl ?_
      exact k
    obtain ⟨cq63, kq63, q63a, q63b, q63c⟩ := isOf hZ eq61 f55
    obtain ⟨_, _, ⟨T63, L63, k63, n63⟩, -, X63, ⟨Lc63, hQ63, l63, y63, z63⟩, st63⟩ := X61.virtualBackUp hx (x := (⟨"com/example/urd/urd/time/DeadlineQueue$Bucket", "next", "()Lcom/example/urd/urd/time/Scheduled;"⟩ : MethodName)) (y := (⟨"com/example/urd/urd/time/Scheduled", "next", "()Lcom/example/urd/urd/time/Scheduled;"⟩ : MethodName)) hown (mvT hZ (hw _ (List.mem_of_getElem? (i := 58) rfl))) (mvT hZ (hw _ (List.mem_of_getElem? (i := 59) rfl))) (mvT hZ (hw _ (List.mem_of_getElem? (i := 49) rfl))) (by decide) (mvT hZ (hw _ (List.mem_of_getElem? (i := 60) rfl))) (mvT hZ (hw _ (List.mem_of_getElem? (i := 50) rfl))) (backOf (W := 0) (rmGnext l Z a0 hw [] b1 (.ref b19) T54.heap n0 Z54 Fo4_54 rfl) hZ (hw _ (List.mem_of_getElem? (i := 52) rfl)) (hw _ (List.mem_of_getElem? (i := 9) rfl)) (by decide) (by decide)) q63a q63c (g := (mkF m 118 #[.val (.int p1), .val (.long q2), .second, .val (.long q3), .second, .val (.ref b1), .val (.ref b6), .val (.ref b19), .val (.int (1 : Int32)), .val (.ref b6), .val (.ref b19), .val (.int (1 : Int32)), .unset, .unset, .unset] [(.ref b1)])) rfl (by rw [hml]; rfl) (Steps.refl _) (argsL := []) (rest := []) (lenOf own_pd4 rfl) rfl (by show 2 * 0 + _ ≤ _; exact Nat.le_of_eq rfl) (hb hby at_118) (fun _ _ => ⟨rfl, eq61, (by decide : 3 + 0 ≤ _), (by decide : 39 + 0 ≤ _)⟩)
    dsimp only [Pt.U, Pt.locs, Pt.cells, Pt.slots] at X63 l63 y63 z63 st63 hQ63
    subst l63 y63 z63
    obtain ⟨rfl, Nq63, eq63⟩ := hQ63
    have N63 := Fr.app N61 Nq63
    have R63 : ∀ t, Steps p.tables e below (T63.setTop (mkF m 121 #[.val (.int p1), .val (.long q2), .second, .val (.long q3), .second, .val (.ref b1), .val (.ref b6), .val (.ref b19), .val (.int (1 : Int32)), .val (.ref b6), .val (.ref b19), .val (.int (1 : Int32)), .unset, .unset, .unset] [(.ref b19)])) t → Steps p.tables e below (s₁.setTop (entryFrame m #[(.int p1), (.long q2), (.long q3)] maxLocals)) t := fun t k => R62 t (st63.trans k)
    have R64 : ∀ t, Steps p.tables e below (T63.setTop (mkF m 128 #[.val (.int p1), .val (.long q2), .second, .val (.long q3), .second, .val (.ref b1), .val (.ref b6), .val (.ref b19), .val (.int (1 : Int32)), .val (.ref b6), .val (.ref b19), .val (.int (1 : Int32)), .unset, .unset, .unset] [(.ref b19)])) t → Steps p.tables e below (s₁.setTop (entryFrame m #[(.int p1), (.long q2), (.long q3)] maxLocals)) t := by
      intro t k
      refine R63 t ?_
      show Steps p.tables e below (T63.setTop (mkF m 121 #[.val (.int p1), .val (.long q2), .second, .val (.long q3), .second, .val (.ref b1), .val (.ref b6), .val (.ref b19), .val (.int (1 : Int32)), .val (.ref b6), .val (.ref b19), .val (.int (1 : Int32)), .unset, .unset, .unset] [(.ref b19)])) _
      refine XS.aload X63.here hx rfl (hb hby at_121) rfl rfl ?_
      show Steps p.tables e below (T63.setTop (mkF m 123 #[.val (.int p1), .val (.long q2), .second, .val (.long q3), .second, .val (.ref b1), .val (.ref b6), .val (.ref b19), .val (.int (1 : Int32)), .val (.ref b6), .val (.ref b19), .val (.int (1 : Int32)), .unset, .unset, .unset] [(.ref b19), (.ref b19)])) _
      refine Jvm.RoadKit.acmp (g := (mkF m 123 #[.val (.int p1), .val (.long q2), .second, .val (.long q3), .second, .val (.ref b1), .val (.ref b6), .val (.ref b19), .val (.int (1 : Int32)), .val (.ref b6), .val (.ref b19), .val (.int (1 : Int32)), .unset, .unset, .unset] [(.ref b19), (.ref b19)])) X63 hx rfl rfl rfl (pc0 := 123) (pc' := 126) (same := true) rfl (hb hby at_123) rfl (decide_eq_true rfl) (by decide) (by decide) ?_
      show Steps p.tables e below (T63.setTop (mkF m 126 #[.val (.int p1), .val (.long q2), .second, .val (.long q3), .second, .val (.ref b1), .val (.ref b6), .val (.ref b19), .val (.int (1 : Int32)), .val (.ref b6), .val (.ref b19), .val (.int (1 : Int32)), .unset, .unset, .unset] [])) _
      refine XS.aload X63.here hx rfl (hb hby at_126) rfl rfl ?_
      exact k
    obtain ⟨cq65, kq65, q65a, q65b, q65c⟩ := isOf hZ eq63 f57
    obtain ⟨_, _, ⟨T65, L65, k65, n65⟩, -, X65, ⟨Lc65, hQ65, l65, y65, z65⟩, st65⟩ := X63.virtualBack hx (y := (⟨"com/example/urd/urd/time/Scheduled", "next", "()Lcom/example/urd/urd/time/Scheduled;"⟩ : MethodName)) (z := (⟨"com/example/urd/urd/time/Scheduled", "next", "()Lcom/example/urd/urd/time/Scheduled;"⟩ : MethodName)) hown (mvT hZ (hw _ (List.mem_of_getElem? (i := 48) rfl))) (mvT hZ (hw _ (List.mem_of_getElem? (i := 49) rfl))) (notFace_of_selects (args := #[]) (mvT hZ (hw _ (List.mem_of_getElem? (i := 51) rfl)))) (mvT hZ (hw _ (List.mem_of_getElem? (i := 51) rfl))) (mvT hZ (hw _ (List.mem_of_getElem? (i := 50) rfl))) (by decide) (backOf (W := 0) (rmGnext l Z a0 hw [] b19 (.ref b1) T54.heap n0 Z54 Fo7_54 rfl) hZ (hw _ (List.mem_of_getElem? (i := 52) rfl)) (hw _ (List.mem_of_getElem? (i := 9) rfl)) (by decide) (by decide)) q65a q65c (g := (mkF m 128 #[.val (.int p1), .val (.long q2), .second, .val (.long q3), .second, .val (.ref b1), .val (.ref b6), .val (.ref b19), .val (.int (1 : Int32)), .val (.ref b6), .val (.ref b19), .val (.int (1 : Int32)), .unset, .unset, .unset] [(.ref b19)])) rfl (by rw [hml]; rfl) (Steps.refl _) (argsL := []) (rest := []) (lenOf own_pd4 rfl) rfl (by show 2 * 0 + _ ≤ _; exact Nat.le_of_eq rfl) (hb hby at_128) (fun _ _ => ⟨rfl, eq63, (by decide : 3 + 0 ≤ _), (by decide : 39 + 0 ≤ _)⟩)
    dsimp only [Pt.U, Pt.locs, Pt.cells, Pt.slots] at X65 l65 y65 z65 st65 hQ65
    subst l65 y65 z65
    obtain ⟨rfl, Nq65, eq65⟩ := hQ65
    have N65 := Fr.app N63 Nq65
    have R65 : ∀ t, Steps p.tables e below (T65.setTop (mkF m 131 #[.val (.int p1), .val (.long q2), .second, .val (.long q3), .second, .val (.ref b1), .val (.ref b6), .val (.ref b19), .val (.int (1 : Int32)), .val (.ref b6), .val (.ref b19), .val (.int (1 : Int32)), .unset, .unset, .unset] [(.ref b1)])) t → Steps p.tables e below (s₁.setTop (entryFrame m #[(.int p1), (.long q2), (.long q3)] maxLocals)) t := fun t k => R64 t (st65.trans k)
    have R66 : ∀ t, Steps p.tables e below (T65.setTop (mkF m 147 #[.val (.int p1), .val (.long q2), .second, .val (.long q3), .second, .val (.ref b1), .val (.ref b6), .val (.ref b19), .val (.int (1 : Int32)), .val (.ref b6), .val (.ref b19), .val (.int (1 : Int32)), .val (.int (1 : Int32)), .unset, .unset] [(.ref b1), (.ref b6)])) t → Steps p.tables e below (s₁.setTop (entryFrame m #[(.int p1), (.long q2), (.long q3)] maxLocals)) t := by
      intro t k
      refine R65 t ?_
      show Steps p.tables e below (T65.setTop (mkF m 131 #[.val (.int p1), .val (.long q2), .second, .val (.long q3), .second, .val (.ref b1), .val (.ref b6), .val (.ref b19), .val (.int (1 : Int32)), .val (.ref b6), .val (.ref b19), .val (.int (1 : Int32)), .unset, .unset, .unset] [(.ref b1)])) _
      refine XS.aload X65.here hx rfl (hb hby at_131) rfl rfl ?_
      show Steps p.tables e below (T65.setTop (mkF m 133 #[.val (.int p1), .val (.long q2), .second, .val (.long q3), .second, .val (.ref b1), .val (.ref b6), .val (.ref b19), .val (.int (1 : Int32)), .val (.ref b6), .val (.ref b19), .val (.int (1 : Int32)), .unset, .unset, .unset] [(.ref b1), (.ref b1)])) _
      refine Jvm.RoadKit.acmp (g := (mkF m 133 #[.val (.int p1), .val (.long q2), .second, .val (.long q3), .second, .val (.ref b1), .val (.ref b6), .val (.ref b19), .val (.int (1 : Int32)), .val (.ref b6), .val (.ref b19), .val (.int (1 : Int32)), .unset, .unset, .unset] [(.ref b1), (.ref b1)])) X65 hx rfl rfl rfl (pc0 := 133) (pc' := 136) (same := true) rfl (hb hby at_133) rfl (decide_eq_true rfl) (by decide) (by decide) ?_
      show Steps p.tables e below (T65.setTop (mkF m 136 #[.val (.int p1), .val (.long q2), .second, .val (.long q3), .second, .val (.ref b1), .val (.ref b6), .val (.ref b19), .val (.int (1 : Int32)), .val (.ref b6), .val (.ref b19), .val (.int (1 : Int32)), .unset, .unset, .unset] [])) _
      refine XS.iconst X65.here hx rfl (hb hby at_136) ?_
      show Steps p.tables e below (T65.setTop (mkF m 137 #[.val (.int p1), .val (.long q2), .second, .val (.long q3), .second, .val (.ref b1), .val (.ref b6), .val (.ref b19), .val (.int (1 : Int32)), .val (.ref b6), .val (.ref b19), .val (.int (1 : Int32)), .unset, .unset, .unset] [(.int (1 : Int32))])) _
      refine XS.goto X65.here hx rfl (pc0 := 137) (pc' := 141) rfl (hb hby at_137) (by decide) (by decide) ?_
      show Steps p.tables e below (T65.setTop (mkF m 141 #[.val (.int p1), .val (.long q2), .second, .val (.long q3), .second, .val (.ref b1), .val (.ref b6), .val (.ref b19), .val (.int (1 : Int32)), .val (.ref b6), .val (.ref b19), .val (.int (1 : Int32)), .unset, .unset, .unset] [(.int (1 : Int32))])) _
      refine XS.istore X65.here hx rfl (hb hby at_141) rfl (l' := #[.val (.int p1), .val (.long q2), .second, .val (.long q3), .second, .val (.ref b1), .val (.ref b6), .val (.ref b19), .val (.int (1 : Int32)), .val (.ref b6), .val (.ref b19), .val (.int (1 : Int32)), .val (.int (1 : Int32)), .unset, .unset]) rfl ?_
      show Steps p.tables e below (T65.setTop (mkF m 143 #[.val (.int p1), .val (.long q2), .second, .val (.long q3), .second, .val (.ref b1), .val (.ref b6), .val (.ref b19), .val (.int (1 : Int32)), .val (.ref b6), .val (.ref b19), .val (.int (1 : Int32)), .val (.int (1 : Int32)), .unset, .unset] [])) _
      refine XS.aload X65.here hx rfl (hb hby at_143) rfl rfl ?_
      show Steps p.tables e below (T65.setTop (mkF m 145 #[.val (.int p1), .val (.long q2), .second, .val (.long q3), .second, .val (.ref b1), .val (.ref b6), .val (.ref b19), .val (.int (1 : Int32)), .val (.ref b6), .val (.ref b19), .val (.int (1 : Int32)), .val (.int (1 : Int32)), .unset, .unset] [(.ref b6)])) _
      refine XS.aload X65.here hx rfl (hb hby at_145) rfl rfl ?_
      exact k
    obtain ⟨cq67, kq67, q67a, q67b, q67c⟩ := isOf hZ eq65 f56
    obtain ⟨_, _, ⟨T67, L67, k67, n67⟩, -, X67, ⟨Lc67, hQ67, l67, y67, z67⟩, st67⟩ := X65.virtualBack hx (y := (⟨"com/example/urd/urd/time/Scheduled", "linkInto", "(Lcom/example/urd/urd/time/DeadlineQueue$Bucket;)V"⟩ : MethodName)) (z := (⟨"com/example/urd/urd/time/Scheduled", "linkInto", "(Lcom/example/urd/urd/time/DeadlineQueue$Bucket;)V"⟩ : MethodName)) hown (mvT hZ (hw _ (List.mem_of_getElem? (i := 36) rfl))) (mvT hZ (hw _ (List.mem_of_getElem? (i := 37) rfl))) (notFace_of_selects (args := #[]) (mvT hZ (hw _ (List.mem_of_getElem? (i := 39) rfl)))) (mvT hZ (hw _ (List.mem_of_getElem? (i := 39) rfl))) (mvT hZ (hw _ (List.mem_of_getElem? (i := 38) rfl))) (by decide) (backOf (W := 0) (rmLB l Z a0 hw [] b6 b1 b19 .null .null .null (.ref b19) .null (.ref b1) (.ref b1) (.ref b1) T54.heap n0 Z54 Fo0_54 Fo1_54 Fo2_54 Fo3_54 Fo4_54 Fo5_54 Fo6_54 Fo7_54 Fo8_54 f56 g_b6 f55 g_b1 f57 g_b19 (Ne.symm ne_b1_b6) ne_b6_b19 ne_b1_b19) hZ (hw _ (List.mem_of_getElem? (i := 40) rfl)) (hw _ (List.mem_of_getElem? (i := 9) rfl)) (by decide) (by decide)) q67a q67c (g := (mkF m 147 #[.val (.int p1), .val (.long q2), .second, .val (.long q3), .second, .val (.ref b1), .val (.ref b6), .val (.ref b19), .val (.int (1 : Int32)), .val (.ref b6), .val (.ref b19), .val (.int (1 : Int32)), .val (.int (1 : Int32)), .unset, .unset] [(.ref b1), (.ref b6)])) rfl (by rw [hml]; rfl) (Steps.refl _) (argsL := [(.ref b1)]) (rest := []) (lenOf own_pd3 rfl) rfl (by show 2 * 0 + _ ≤ _; exact Nat.le_of_eq rfl) (hb hby at_147) (fun _ _ => ⟨rfl, eq65, (by decide : 3 + 0 ≤ _), (by decide : 39 + 0 ≤ _)⟩)
    dsimp only [Pt.U, Pt.locs, Pt.cells, Pt.slots] at X67 l67 y67 z67 st67 hQ67
    subst l67 y67 z67
    obtain ⟨rfl, Nq67, Kc67, Fo0_67, Fo1_67, Fo2_67, Fo3_67, Fo4_67, Fo5_67, Fo6_67, Fo7_67, Fo8_67⟩ := hQ67
    have N67 := Fr.app N65 Nq67
    have R67 : ∀ t, Steps p.tables e below (T67.setTop (mkF m 150 #[.val (.int p1), .val (.long q2), .second, .val (.long q3), .second, .val (.ref b1), .val (.ref b6), .val (.ref b19), .val (.int (1 : Int32)), .val (.ref b6), .val (.ref b19), .val (.int (1 : Int32)), .val (.int (1 : Int32)), .unset, .unset] [])) t → Steps p.tables e below (s₁.setTop (entryFrame m #[(.int p1), (.long q2), (.long q3)] maxLocals)) t := fun t k => R66 t (st67.trans k)
    have Z67 : n0 ≤ T67.heap.size := Nat.le_trans Z54 Kc67.1
    have K67 : Keep h0 T67.heap [] := K54.trans Kc67 (allS (Or.inr sz_b6) (allS (Or.inr sz_b1) (allS (Or.inr sz_b19) all0)))
    have f68 : Exa Z T67.heap b1 "com/example/urd/urd/time/DeadlineQueue$Bucket" := f55.keep Kc67
    have f69 : Exa Z T67.heap b6 "com/example/urd/urd/time/DeadlineQueue$Bucket" := f56.keep Kc67
    have f70 : Exa Z T67.heap b19 "com/example/urd/urd/time/DeadlineQueue$Bucket" := f57.keep Kc67
    have R71 : ∀ t, Steps p.tables e below (T67.setTop (mkF m 152 #[.val (.int p1), .val (.long q2), .second, .val (.long q3), .second, .val (.ref b1), .val (.ref b6), .val (.ref b19), .val (.int (1 : Int32)), .val (.ref b6), .val (.ref b19), .val (.int (1 : Int32)), .val (.int (1 : Int32)), .unset, .unset] [(.ref b19)])) t → Steps p.tables e below (s₁.setTop (entryFrame m #[(.int p1), (.long q2), (.long q3)] maxLocals)) t := by
      intro t k
      refine R67 t ?_
      show Steps p.tables e below (T67.setTop (mkF m 150 #[.val (.int p1), .val (.long q2), .second, .val (.long q3), .second, .val (.ref b1), .val (.ref b6), .val (.ref b19), .val (.int (1 : Int32)), .val (.ref b6), .val (.ref b19), .val (.int (1 : Int32)), .val (.int (1 : Int32)), .unset, .unset] [])) _
      refine XS.aload X67.here hx rfl (hb hby at_150) rfl rfl ?_
      exact k
    obtain ⟨cq72, kq72, q72a, q72b, q72c⟩ := isOf hZ rfl f70
    obtain ⟨_, _, ⟨T72, L72, k72, n72⟩, -, X72, ⟨Lc72, hQ72, l72, y72, z72⟩, st72⟩ := X67.virtualBack hx (y := (⟨"com/example/urd/urd/time/Scheduled", "next", "()Lcom/example/urd/urd/time/Scheduled;"⟩ : MethodName)) (z := (⟨"com/example/urd/urd/time/Scheduled", "next", "()Lcom/example/urd/urd/time/Scheduled;"⟩ : MethodName)) hown (mvT hZ (hw _ (List.mem_of_getElem? (i := 48) rfl))) (mvT hZ (hw _ (List.mem_of_getElem? (i := 49) rfl))) (notFace_of_selects (args := #[]) (mvT hZ (hw _ (List.mem_of_getElem? (i := 51) rfl)))) (mvT hZ (hw _ (List.mem_of_getElem? (i := 51) rfl))) (mvT hZ (hw _ (List.mem_of_getElem? (i := 50) rfl))) (by decide) (backOf (W := 0) (rmGnext l Z a0 hw [] b19 (.ref b6) T67.heap n0 Z67 Fo7_67 rfl) hZ (hw _ (List.mem_of_getElem? (i := 52) rfl)) (hw _ (List.mem_of_getElem? (i := 9) rfl)) (by decide) (by decide)) q72a q72c (g := (mkF m 152 #[.val (.int p1), .val (.long q2), .second, .val (.long q3), .second, .val (.ref b1), .val (.ref b6), .val (.ref b19), .val (.int (1 : Int32)), .val (.ref b6), .val (.ref b19), .val (.int (1 : Int32)), .val (.int (1 : Int32)), .unset, .unset] [(.ref b19)])) rfl (by rw [hml]; rfl) (Steps.refl _) (argsL := []) (rest := []) (lenOf own_pd4 rfl) rfl (by show 2 * 0 + _ ≤ _; exact Nat.le_of_eq rfl) (hb hby at_152) (fun _ _ => ⟨rfl, rfl, (by decide : 3 + 0 ≤ _), (by decide : 39 + 0 ≤ _)⟩)
    dsimp only [Pt.U, Pt.locs, Pt.cells, Pt.slots] at X72 l72 y72 z72 st72 hQ72
    subst l72 y72 z72
    obtain ⟨rfl, Nq72, eq72⟩ := hQ72
    have N72 := Fr.app N67 Nq72
    have R72 : ∀ t, Steps p.tables e below (T72.setTop (mkF m 155 #[.val (.int p1), .val (.long q2), .second, .val (.long q3), .second, .val (.ref b1), .val (.ref b6), .val (.ref b19), .val (.int (1 : Int32)), .val (.ref b6), .val (.ref b19), .val (.int (1 : Int32)), .val (.int (1 : Int32)), .unset, .unset] [(.ref b6)])) t → Steps p.tables e below (s₁.setTop (entryFrame m #[(.int p1), (.long q2), (.long q3)] maxLocals)) t := fun t k => R71 t (st72.trans k)
    have R73 : ∀ t, Steps p.tables e below (T72.setTop (mkF m 169 #[.val (.int p1), .val (.long q2), .second, .val (.long q3), .second, .val (.ref b1), .val (.ref b6), .val (.ref b19), .val (.int (1 : Int32)), .val (.ref b6), .val (.ref b19), .val (.int (1 : Int32)), .val (.int (1 : Int32)), .val (.int (1 : Int32)), .unset] [(.ref b19)])) t → Steps p.tables e below (s₁.setTop (entryFrame m #[(.int p1), (.long q2), (.long q3)] maxLocals)) t := by
      intro t k
      refine R72 t ?_
      show Steps p.tables e below (T72.setTop (mkF m 155 #[.val (.int p1), .val (.long q2), .second, .val (.long q3), .second, .val (.ref b1), .val (.ref b6), .val (.ref b19), .val (.int (1 : Int32)), .val (.ref b6), .val (.ref b19), .val (.int (1 : Int32)), .val (.int (1 : Int32)), .unset, .unset] [(.ref b6)])) _
      refine XS.aload X72.here hx rfl (hb hby at_155) rfl rfl ?_
      show Steps p.tables e below (T72.setTop (mkF m 157 #[.val (.int p1), .val (.long q2), .second, .val (.long q3), .second, .val (.ref b1), .val (.ref b6), .val (.ref b19), .val (.int (1 : Int32)), .val (.ref b6), .val (.ref b19), .val (.int (1 : Int32)), .val (.int (1 : Int32)), .unset, .unset] [(.ref b6), (.ref b6)])) _
      refine Jvm.RoadKit.acmp (g := (mkF m 157 #[.val (.int p1), .val (.long q2), .second, .val (.long q3), .second, .val (.ref b1), .val (.ref b6), .val (.ref b19), .val (.int (1 : Int32)), .val (.ref b6), .val (.ref b19), .val (.int (1 : Int32)), .val (.int (1 : Int32)), .unset, .unset] [(.ref b6), (.ref b6)])) X72 hx rfl rfl rfl (pc0 := 157) (pc' := 160) (same := true) rfl (hb hby at_157) rfl (decide_eq_true rfl) (by decide) (by decide) ?_
      show Steps p.tables e below (T72.setTop (mkF m 160 #[.val (.int p1), .val (.long q2), .second, .val (.long q3), .second, .val (.ref b1), .val (.ref b6), .val (.ref b19), .val (.int (1 : Int32)), .val (.ref b6), .val (.ref b19), .val (.int (1 : Int32)), .val (.int (1 : Int32)), .unset, .unset] [])) _
      refine XS.iconst X72.here hx rfl (hb hby at_160) ?_
      show Steps p.tables e below (T72.setTop (mkF m 161 #[.val (.int p1), .val (.long q2), .second, .val (.long q3), .second, .val (.ref b1), .val (.ref b6), .val (.ref b19), .val (.int (1 : Int32)), .val (.ref b6), .val (.ref b19), .val (.int (1 : Int32)), .val (.int (1 : Int32)), .unset, .unset] [(.int (1 : Int32))])) _
      refine XS.goto X72.here hx rfl (pc0 := 161) (pc' := 165) rfl (hb hby at_161) (by decide) (by decide) ?_
      show Steps p.tables e below (T72.setTop (mkF m 165 #[.val (.int p1), .val (.long q2), .second, .val (.long q3), .second, .val (.ref b1), .val (.ref b6), .val (.ref b19), .val (.int (1 : Int32)), .val (.ref b6), .val (.ref b19), .val (.int (1 : Int32)), .val (.int (1 : Int32)), .unset, .unset] [(.int (1 : Int32))])) _
      refine XS.istore X72.here hx rfl (hb hby at_165) rfl (l' := #[.val (.int p1), .val (.long q2), .second, .val (.long q3), .second, .val (.ref b1), .val (.ref b6), .val (.ref b19), .val (.int (1 : Int32)), .val (.ref b6), .val (.ref b19), .val (.int (1 : Int32)), .val (.int (1 : Int32)), .val (.int (1 : Int32)), .unset]) rfl ?_
      show Steps p.tables e below (T72.setTop (mkF m 167 #[.val (.int p1), .val (.long q2), .second, .val (.long q3), .second, .val (.ref b1), .val (.ref b6), .val (.ref b19), .val (.int (1 : Int32)), .val (.ref b6), .val (.ref b19), .val (.int (1 : Int32)), .val (.int (1 : Int32)), .val (.int (1 : Int32)), .unset] [])) _
      refine XS.aload X72.here hx rfl (hb hby at_167) rfl rfl ?_
      exact k
    obtain ⟨cq74, kq74, q74a, q74b, q74c⟩ := isOf hZ eq72 f70
    obtain ⟨_, _, ⟨T74, L74, k74, n74⟩, -, X74, ⟨Lc74, hQ74, l74, y74, z74⟩, st74⟩ := X72.virtualBack hx (y := (⟨"com/example/urd/urd/time/Scheduled", "unlink", "()V"⟩ : MethodName)) (z := (⟨"com/example/urd/urd/time/Scheduled", "unlink", "()V"⟩ : MethodName)) hown (mvT hZ (hw _ (List.mem_of_getElem? (i := 43) rfl))) (mvT hZ (hw _ (List.mem_of_getElem? (i := 44) rfl))) (notFace_of_selects (args := #[]) (mvT hZ (hw _ (List.mem_of_getElem? (i := 46) rfl)))) (mvT hZ (hw _ (List.mem_of_getElem? (i := 46) rfl))) (mvT hZ (hw _ (List.mem_of_getElem? (i := 45) rfl))) (by decide) (backOf (W := 0) (rmU l Z a0 hw [] b19 b1 b6 (.ref b1) (.ref b6) (.ref b19) .null (.ref b19) (.ref b1) (.ref b1) T67.heap n0 Z67 Fo6_67 Fo7_67 Fo8_67 Fo3_67 Fo4_67 Fo5_67 Fo0_67 Fo1_67 Fo2_67 f70 g_b19 f68 g_b1 f69 g_b6 (Ne.symm ne_b1_b19) (Ne.symm ne_b6_b19) ne_b1_b6) hZ (hw _ (List.mem_of_getElem? (i := 47) rfl)) (hw _ (List.mem_of_getElem? (i := 9) rfl)) (by decide) (by decide)) q74a q74c (g := (mkF m 169 #[.val (.int p1), .val (.long q2), .second, .val (.long q3), .second, .val (.ref b1), .val (.ref b6), .val (.ref b19), .val (.int (1 : Int32)), .val (.ref b6), .val (.ref b19), .val (.int (1 : Int32)), .val (.int (1 : Int32)), .val (.int (1 : Int32)), .unset] [(.ref b19)])) rfl (by rw [hml]; rfl) (Steps.refl _) (argsL := []) (rest := []) (lenOf own_pd2 rfl) rfl (by show 2 * 0 + _ ≤ _; exact Nat.le_of_eq rfl) (hb hby at_169) (fun _ _ => ⟨rfl, eq72, (by decide : 3 + 0 ≤ _), (by decide : 39 + 0 ≤ _)⟩)
    dsimp only [Pt.U, Pt.locs, Pt.cells, Pt.slots] at X74 l74 y74 z74 st74 hQ74
    subst l74 y74 z74
    obtain ⟨rfl, Nq74, Kc74, Fo0_74, Fo1_74, Fo2_74, Fo3_74, Fo4_74, Fo5_74, Fo6_74, Fo7_74, Fo8_74⟩ := hQ74
    have N74 := Fr.app N72 Nq74
    have R74 : ∀ t, Steps p.tables e below (T74.setTop (mkF m 172 #[.val (.int p1), .val (.long q2), .second, .val (.long q3), .second, .val (.ref b1), .val (.ref b6), .val (.ref b19), .val (.int (1 : Int32)), .val (.ref b6), .val (.ref b19), .val (.int (1 : Int32)), .val (.int (1 : Int32)), .val (.int (1 : Int32)), .unset] [])) t → Steps p.tables e below (s₁.setTop (entryFrame m #[(.int p1), (.long q2), (.long q3)] maxLocals)) t := fun t k => R73 t (st74.trans k)
    have Z74 : n0 ≤ T74.heap.size := Nat.le_trans Z67 Kc74.1
    have K74 : Keep h0 T74.heap [] := K67.trans Kc74 (allS (Or.inr sz_b19) (allS (Or.inr sz_b1) (allS (Or.inr sz_b6) all0)))
    have f75 : Exa Z T74.heap b1 "com/example/urd/urd/time/DeadlineQueue$Bucket" := f68.keep Kc74
    have f76 : Exa Z T74.heap b6 "com/example/urd/urd/time/DeadlineQueue$Bucket" := f69.keep Kc74
    have f77 : Exa Z T74.heap b19 "com/example/urd/urd/time/DeadlineQueue$Bucket" := f70.keep Kc74
    have R78 : ∀ t, Steps p.tables e below (T74.setTop (mkF m 174 #[.val (.int p1), .val (.long q2), .second, .val (.long q3), .second, .val (.ref b1), .val (.ref b6), .val (.ref b19), .val (.int (1 : Int32)), .val (.ref b6), .val (.ref b19), .val (.int (1 : Int32)), .val (.int (1 : Int32)), .val (.int (1 : Int32)), .unset] [(.ref b1)])) t → Steps p.tables e below (s₁.setTop (entryFrame m #[(.int p1), (.long q2), (.long q3)] maxLocals)) t := by
      intro t k
      refine R74 t ?_
      show Steps p.tables e below (T74.setTop (mkF m 172 #[.val (.int p1), .val (.long q2), .second, .val (.long q3), .second, .val (.ref b1), .val (.ref b6), .val (.ref b19), .val (.int (1 : Int32)), .val (.ref b6), .val (.ref b19), .val (.int (1 : Int32)), .val (.int (1 : Int32)), .val (.int (1 : Int32)), .unset] [])) _
      refine XS.aload X74.here hx rfl (hb hby at_172) rfl rfl ?_
      exact k
    obtain ⟨cq79, kq79, q79a, q79b, q79c⟩ := isOf hZ rfl f75
    obtain ⟨_, _, ⟨T79, L79, k79, n79⟩, -, X79, ⟨Lc79, hQ79, l79, y79, z79⟩, st79⟩ := X74.virtualBackUp hx (x := (⟨"com/example/urd/urd/time/DeadlineQueue$Bucket", "next", "()Lcom/example/urd/urd/time/Scheduled;"⟩ : MethodName)) (y := (⟨"com/example/urd/urd/time/Scheduled", "next", "()Lcom/example/urd/urd/time/Scheduled;"⟩ : MethodName)) hown (mvT hZ (hw _ (List.mem_of_getElem? (i := 58) rfl))) (mvT hZ (hw _ (List.mem_of_getElem? (i := 59) rfl))) (mvT hZ (hw _ (List.mem_of_getElem? (i := 49) rfl))) (by decide) (mvT hZ (hw _ (List.mem_of_getElem? (i := 60) rfl))) (mvT hZ (hw _ (List.mem_of_getElem? (i := 50) rfl))) (backOf (W := 0) (rmGnext l Z a0 hw [] b1 (.ref b6) T74.heap n0 Z74 Fo4_74 rfl) hZ (hw _ (List.mem_of_getElem? (i := 52) rfl)) (hw _ (List.mem_of_getElem? (i := 9) rfl)) (by decide) (by decide)) q79a q79c (g := (mkF m 174 #[.val (.int p1), .val (.long q2), .second, .val (.long q3), .second, .val (.ref b1), .val (.ref b6), .val (.ref b19), .val (.int (1 : Int32)), .val (.ref b6), .val (.ref b19), .val (.int (1 : Int32)), .val (.int (1 : Int32)), .val (.int (1 : Int32)), .unset] [(.ref b1)])) rfl (by rw [hml]; rfl) (Steps.refl _) (argsL := []) (rest := []) (lenOf own_pd4 rfl) rfl (by show 2 * 0 + _ ≤ _; exact Nat.le_of_eq rfl) (hb hby at_174) (fun _ _ => ⟨rfl, rfl, (by decide : 3 + 0 ≤ _), (by decide : 39 + 0 ≤ _)⟩)
    dsimp only [Pt.U, Pt.locs, Pt.cells, Pt.slots] at X79 l79 y79 z79 st79 hQ79
    subst l79 y79 z79
    obtain ⟨rfl, Nq79, eq79⟩ := hQ79
    have N79 := Fr.app N74 Nq79
    have R79 : ∀ t, Steps p.tables e below (T79.setTop (mkF m 177 #[.val (.int p1), .val (.long q2), .second, .val (.long q3), .second, .val (.ref b1), .val (.ref b6), .val (.ref b19), .val (.int (1 : Int32)), .val (.ref b6), .val (.ref b19), .val (.int (1 : Int32)), .val (.int (1 : Int32)), .val (.int (1 : Int32)), .unset] [(.ref b6)])) t → Steps p.tables e below (s₁.setTop (entryFrame m #[(.int p1), (.long q2), (.long q3)] maxLocals)) t := fun t k => R78 t (st79.trans k)
    have R80 : ∀ t, Steps p.tables e below (T79.setTop (mkF m 214 #[.val (.int p1), .val (.long q2), .second, .val (.long q3), .second, .val (.ref b1), .val (.ref b6), .val (.ref b19), .val (.int (1 : Int32)), .val (.ref b6), .val (.ref b19), .val (.int (1 : Int32)), .val (.int (1 : Int32)), .val (.int (1 : Int32)), .val (.int (1 : Int32))] [(.int (1 : Int32))])) t → Steps p.tables e below (s₁.setTop (entryFrame m #[(.int p1), (.long q2), (.long q3)] maxLocals)) t := by
      intro t k
      refine R79 t ?_
      show Steps p.tables e below (T79.setTop (mkF m 177 #[.val (.int p1), .val (.long q2), .second, .val (.long q3), .second, .val (.ref b1), .val (.ref b6), .val (.ref b19), .val (.int (1 : Int32)), .val (.ref b6), .val (.ref b19), .val (.int (1 : Int32)), .val (.int (1 : Int32)), .val (.int (1 : Int32)), .unset] [(.ref b6)])) _
      refine XS.aload X79.here hx rfl (hb hby at_177) rfl rfl ?_
      show Steps p.tables e below (T79.setTop (mkF m 179 #[.val (.int p1), .val (.long q2), .second, .val (.long q3), .second, .val (.ref b1), .val (.ref b6), .val (.ref b19), .val (.int (1 : Int32)), .val (.ref b6), .val (.ref b19), .val (.int (1 : Int32)), .val (.int (1 : Int32)), .val (.int (1 : Int32)), .unset] [(.ref b6), (.ref b6)])) _
      refine Jvm.RoadKit.acmp (g := (mkF m 179 #[.val (.int p1), .val (.long q2), .second, .val (.long q3), .second, .val (.ref b1), .val (.ref b6), .val (.ref b19), .val (.int (1 : Int32)), .val (.ref b6), .val (.ref b19), .val (.int (1 : Int32)), .val (.int (1 : Int32)), .val (.int (1 : Int32)), .unset] [(.ref b6), (.ref b6)])) X79 hx rfl rfl rfl (pc0 := 179) (pc' := 182) (same := true) rfl (hb hby at_179) rfl (decide_eq_true rfl) (by decide) (by decide) ?_
      show Steps p.tables e below (T79.setTop (mkF m 182 #[.val (.int p1), .val (.long q2), .second, .val (.long q3), .second, .val (.ref b1), .val (.ref b6), .val (.ref b19), .val (.int (1 : Int32)), .val (.ref b6), .val (.ref b19), .val (.int (1 : Int32)), .val (.int (1 : Int32)), .val (.int (1 : Int32)), .unset] [])) _
      refine XS.iconst X79.here hx rfl (hb hby at_182) ?_
      show Steps p.tables e below (T79.setTop (mkF m 183 #[.val (.int p1), .val (.long q2), .second, .val (.long q3), .second, .val (.ref b1), .val (.ref b6), .val (.ref b19), .val (.int (1 : Int32)), .val (.ref b6), .val (.ref b19), .val (.int (1 : Int32)), .val (.int (1 : Int32)), .val (.int (1 : Int32)), .unset] [(.int (1 : Int32))])) _
      refine XS.goto X79.here hx rfl (pc0 := 183) (pc' := 187) rfl (hb hby at_183) (by decide) (by decide) ?_
      show Steps p.tables e below (T79.setTop (mkF m 187 #[.val (.int p1), .val (.long q2), .second, .val (.long q3), .second, .val (.ref b1), .val (.ref b6), .val (.ref b19), .val (.int (1 : Int32)), .val (.ref b6), .val (.ref b19), .val (.int (1 : Int32)), .val (.int (1 : Int32)), .val (.int (1 : Int32)), .unset] [(.int (1 : Int32))])) _
      refine XS.istore X79.here hx rfl (hb hby at_187) rfl (l' := #[.val (.int p1), .val (.long q2), .second, .val (.long q3), .second, .val (.ref b1), .val (.ref b6), .val (.ref b19), .val (.int (1 : Int32)), .val (.ref b6), .val (.ref b19), .val (.int (1 : Int32)), .val (.int (1 : Int32)), .val (.int (1 : Int32)), .val (.int (1 : Int32))]) rfl ?_
      show Steps p.tables e below (T79.setTop (mkF m 189 #[.val (.int p1), .val (.long q2), .second, .val (.long q3), .second, .val (.ref b1), .val (.ref b6), .val (.ref b19), .val (.int (1 : Int32)), .val (.ref b6), .val (.ref b19), .val (.int (1 : Int32)), .val (.int (1 : Int32)), .val (.int (1 : Int32)), .val (.int (1 : Int32))] [])) _
      refine XS.iload X79.here hx rfl (hb hby at_189) rfl ?_
      show Steps p.tables e below (T79.setTop (mkF m 191 #[.val (.int p1), .val (.long q2), .second, .val (.long q3), .second, .val (.ref b1), .val (.ref b6), .val (.ref b19), .val (.int (1 : Int32)), .val (.ref b6), .val (.ref b19), .val (.int (1 : Int32)), .val (.int (1 : Int32)), .val (.int (1 : Int32)), .val (.int (1 : Int32))] [(.int (1 : Int32))])) _
      refine XS.ifNo X79.here hx rfl (hb hby at_191) rfl ((if0 _ _).trans (feq (by decide : ¬ ((1 : Int32) = (0 : Int32)))).1) ?_
      show Steps p.tables e below (T79.setTop (mkF m 194 #[.val (.int p1), .val (.long q2), .second, .val (.long q3), .second, .val (.ref b1), .val (.ref b6), .val (.ref b19), .val (.int (1 : Int32)), .val (.ref b6), .val (.ref b19), .val (.int (1 : Int32)), .val (.int (1 : Int32)), .val (.int (1 : Int32)), .val (.int (1 : Int32))] [])) _
      refine XS.iload X79.here hx rfl (hb hby at_194) rfl ?_
      show Steps p.tables e below (T79.setTop (mkF m 196 #[.val (.int p1), .val (.long q2), .second, .val (.long q3), .second, .val (.ref b1), .val (.ref b6), .val (.ref b19), .val (.int (1 : Int32)), .val (.ref b6), .val (.ref b19), .val (.int (1 : Int32)), .val (.int (1 : Int32)), .val (.int (1 : Int32)), .val (.int (1 : Int32))] [(.int (1 : Int32))])) _
      refine XS.ifNo X79.here hx rfl (hb hby at_196) rfl ((if0 _ _).trans (feq (by decide : ¬ ((1 : Int32) = (0 : Int32)))).1) ?_
      show Steps p.tables e below (T79.setTop (mkF m 199 #[.val (.int p1), .val (.long q2), .second, .val (.long q3), .second, .val (.ref b1), .val (.ref b6), .val (.ref b19), .val (.int (1 : Int32)), .val (.ref b6), .val (.ref b19), .val (.int (1 : Int32)), .val (.int (1 : Int32)), .val (.int (1 : Int32)), .val (.int (1 : Int32))] [])) _
      refine XS.iload X79.here hx rfl (hb hby at_199) rfl ?_
      show Steps p.tables e below (T79.setTop (mkF m 201 #[.val (.int p1), .val (.long q2), .second, .val (.long q3), .second, .val (.ref b1), .val (.ref b6), .val (.ref b19), .val (.int (1 : Int32)), .val (.ref b6), .val (.ref b19), .val (.int (1 : Int32)), .val (.int (1 : Int32)), .val (.int (1 : Int32)), .val (.int (1 : Int32))] [(.int (1 : Int32))])) _
      refine XS.ifNo X79.here hx rfl (hb hby at_201) rfl ((if0 _ _).trans (feq (by decide : ¬ ((1 : Int32) = (0 : Int32)))).1) ?_
      show Steps p.tables e below (T79.setTop (mkF m 204 #[.val (.int p1), .val (.long q2), .second, .val (.long q3), .second, .val (.ref b1), .val (.ref b6), .val (.ref b19), .val (.int (1 : Int32)), .val (.ref b6), .val (.ref b19), .val (.int (1 : Int32)), .val (.int (1 : Int32)), .val (.int (1 : Int32)), .val (.int (1 : Int32))] [])) _
      refine XS.iload X79.here hx rfl (hb hby at_204) rfl ?_
      show Steps p.tables e below (T79.setTop (mkF m 206 #[.val (.int p1), .val (.long q2), .second, .val (.long q3), .second, .val (.ref b1), .val (.ref b6), .val (.ref b19), .val (.int (1 : Int32)), .val (.ref b6), .val (.ref b19), .val (.int (1 : Int32)), .val (.int (1 : Int32)), .val (.int (1 : Int32)), .val (.int (1 : Int32))] [(.int (1 : Int32))])) _
      refine XS.ifNo X79.here hx rfl (hb hby at_206) rfl ((if0 _ _).trans (feq (by decide : ¬ ((1 : Int32) = (0 : Int32)))).1) ?_
      show Steps p.tables e below (T79.setTop (mkF m 209 #[.val (.int p1), .val (.long q2), .second, .val (.long q3), .second, .val (.ref b1), .val (.ref b6), .val (.ref b19), .val (.int (1 : Int32)), .val (.ref b6), .val (.ref b19), .val (.int (1 : Int32)), .val (.int (1 : Int32)), .val (.int (1 : Int32)), .val (.int (1 : Int32))] [])) _
      refine XS.iconst X79.here hx rfl (hb hby at_209) ?_
      show Steps p.tables e below (T79.setTop (mkF m 210 #[.val (.int p1), .val (.long q2), .second, .val (.long q3), .second, .val (.ref b1), .val (.ref b6), .val (.ref b19), .val (.int (1 : Int32)), .val (.ref b6), .val (.ref b19), .val (.int (1 : Int32)), .val (.int (1 : Int32)), .val (.int (1 : Int32)), .val (.int (1 : Int32))] [(.int (1 : Int32))])) _
      refine XS.goto X79.here hx rfl (pc0 := 210) (pc' := 214) rfl (hb hby at_210) (by decide) (by decide) ?_
      exact k
    obtain ⟨fs, hr, hrun, hended, hW, hsame⟩ := X79.leave (v := some (.int (1 : Int32))) (fun h => by rw [Bd.returns] at h; cases h)
    refine ⟨_, _, R80 _ ?_, hrun, hended, _, _, rfl, ?_, ⟨_, rfl⟩, hW, hsame.mono (by decide) (by decide)⟩
    · exact retN X79 hx (t := .boolean) Bd.returns (by simp) (hb hby at_214) hr
    · show Q_rm0 Z p1 q2 q3 h0 n0 _ T79.heap _
      rw [eq79]
      exact ⟨rfl, N79⟩
  · have R81 : ∀ t, Steps p.tables e below (T48.setTop (mkF m 90 #[.val (.int p1), .val (.long q2), .second, .val (.long q3), .second, .val (.ref b1), .val (.ref b6), .val (.ref b19), .val (.int (0 : Int32)), .val (.ref b19), .val (.ref b6), .unset, .unset, .unset, .unset] [(.ref b19)])) t → Steps p.tables e below (s₁.setTop (entryFrame m #[(.int p1), (.long q2), (.long q3)] maxLocals)) t := by
      intro t k
      refine R52 t ?_
      show Steps p.tables e below (T48.setTop (mkF m 50 #[.val (.int p1), .val (.long q2), .second, .val (.long q3), .second, .val (.ref b1), .val (.ref b6), .val (.ref b19), .unset, .unset, .unset, .unset, .unset, .unset, .unset] [(.int (p1 &&& (1 : Int32)))])) _
      refine XS.ifYes X48.here hx rfl (pc0 := 50) (pc' := 57) rfl (hb hby at_50) rfl ((if0 _ _).trans (feq hf).2) (by decide) (by decide) ?_
      show Steps p.tables e below (T48.setTop (mkF m 57 #[.val (.int p1), .val (.long q2), .second, .val (.long q3), .second, .val (.ref b1), .val (.ref b6), .val (.ref b19), .unset, .unset, .unset, .unset, .unset, .unset, .unset] [])) _
      refine XS.iconst X48.here hx rfl (hb hby at_57) ?_
      show Steps p.tables e below (T48.setTop (mkF m 58 #[.val (.int p1), .val (.long q2), .second, .val (.long q3), .second, .val (.ref b1), .val (.ref b6), .val (.ref b19), .unset, .unset, .unset, .unset, .unset, .unset, .unset] [(.int (0 : Int32))])) _
      refine XS.istore X48.here hx rfl (hb hby at_58) rfl (l' := #[.val (.int p1), .val (.long q2), .second, .val (.long q3), .second, .val (.ref b1), .val (.ref b6), .val (.ref b19), .val (.int (0 : Int32)), .unset, .unset, .unset, .unset, .unset, .unset]) rfl ?_
      show Steps p.tables e below (T48.setTop (mkF m 60 #[.val (.int p1), .val (.long q2), .second, .val (.long q3), .second, .val (.ref b1), .val (.ref b6), .val (.ref b19), .val (.int (0 : Int32)), .unset, .unset, .unset, .unset, .unset, .unset] [])) _
      refine XS.iload X48.here hx rfl (hb hby at_60) rfl ?_
      show Steps p.tables e below (T48.setTop (mkF m 62 #[.val (.int p1), .val (.long q2), .second, .val (.long q3), .second, .val (.ref b1), .val (.ref b6), .val (.ref b19), .val (.int (0 : Int32)), .unset, .unset, .unset, .unset, .unset, .unset] [(.int (0 : Int32))])) _
      refine XS.ifYes X48.here hx rfl (pc0 := 62) (pc' := 70) rfl (hb hby at_62) rfl ((if0 _ _).trans (teq (by decide : ((0 : Int32) = (0 : Int32)))).1) (by decide) (by decide) ?_
      show Steps p.tables e below (T48.setTop (mkF m 70 #[.val (.int p1), .val (.long q2), .second, .val (.long q3), .second, .val (.ref b1), .val (.ref b6), .val (.ref b19), .val (.int (0 : Int32)), .unset, .unset, .unset, .unset, .unset, .unset] [])) _
      refine XS.aload X48.here hx rfl (hb hby at_70) rfl rfl ?_
      show Steps p.tables e below (T48.setTop (mkF m 72 #[.val (.int p1), .val (.long q2), .second, .val (.long q3), .second, .val (.ref b1), .val (.ref b6), .val (.ref b19), .val (.int (0 : Int32)), .unset, .unset, .unset, .unset, .unset, .unset] [(.ref b19)])) _
      refine XS.astore X48.here hx rfl (hb hby at_72) rfl rfl (l' := #[.val (.int p1), .val (.long q2), .second, .val (.long q3), .second, .val (.ref b1), .val (.ref b6), .val (.ref b19), .val (.int (0 : Int32)), .val (.ref b19), .unset, .unset, .unset, .unset, .unset]) rfl ?_
      show Steps p.tables e below (T48.setTop (mkF m 74 #[.val (.int p1), .val (.long q2), .second, .val (.long q3), .second, .val (.ref b1), .val (.ref b6), .val (.ref b19), .val (.int (0 : Int32)), .val (.ref b19), .unset, .unset, .unset, .unset, .unset] [])) _
      refine XS.iload X48.here hx rfl (hb hby at_74) rfl ?_
      show Steps p.tables e below (T48.setTop (mkF m 76 #[.val (.int p1), .val (.long q2), .second, .val (.long q3), .second, .val (.ref b1), .val (.ref b6), .val (.ref b19), .val (.int (0 : Int32)), .val (.ref b19), .unset, .unset, .unset, .unset, .unset] [(.int (0 : Int32))])) _
      refine XS.ifYes X48.here hx rfl (pc0 := 76) (pc' := 84) rfl (hb hby at_76) rfl ((if0 _ _).trans (teq (by decide : ((0 : Int32) = (0 : Int32)))).1) (by decide) (by decide) ?_
      show Steps p.tables e below (T48.setTop (mkF m 84 #[.val (.int p1), .val (.long q2), .second, .val (.long q3), .second, .val (.ref b1), .val (.ref b6), .val (.ref b19), .val (.int (0 : Int32)), .val (.ref b19), .unset, .unset, .unset, .unset, .unset] [])) _
      refine XS.aload X48.here hx rfl (hb hby at_84) rfl rfl ?_
      show Steps p.tables e below (T48.setTop (mkF m 86 #[.val (.int p1), .val (.long q2), .second, .val (.long q3), .second, .val (.ref b1), .val (.ref b6), .val (.ref b19), .val (.int (0 : Int32)), .val (.ref b19), .unset, .unset, .unset, .unset, .unset] [(.ref b6)])) _
      refine XS.astore X48.here hx rfl (hb hby at_86) rfl rfl (l' := #[.val (.int p1), .val (.long q2), .second, .val (.long q3), .second, .val (.ref b1), .val (.ref b6), .val (.ref b19), .val (.int (0 : Int32)), .val (.ref b19), .val (.ref b6), .unset, .unset, .unset, .unset]) rfl ?_
      show Steps p.tables e below (T48.setTop (mkF m 88 #[.val (.int p1), .val (.long q2), .second, .val (.long q3), .second, .val (.ref b1), .val (.ref b6), .val (.ref b19), .val (.int (0 : Int32)), .val (.ref b19), .val (.ref b6), .unset, .unset, .unset, .unset] [])) _
      refine XS.aload X48.here hx rfl (hb hby at_88) rfl rfl ?_
      exact k
    obtain ⟨cq82, kq82, q82a, q82b, q82c⟩ := isOf hZ rfl f51
    obtain ⟨_, _, ⟨T82, L82, k82, n82⟩, -, X82, ⟨Lc82, hQ82, l82, y82, z82⟩, st82⟩ := X48.virtualBack hx (y := (⟨"com/example/urd/urd/time/Scheduled", "unlink", "()V"⟩ : MethodName)) (z := (⟨"com/example/urd/urd/time/Scheduled", "unlink", "()V"⟩ : MethodName)) hown (mvT hZ (hw _ (List.mem_of_getElem? (i := 43) rfl))) (mvT hZ (hw _ (List.mem_of_getElem? (i := 44) rfl))) (notFace_of_selects (args := #[]) (mvT hZ (hw _ (List.mem_of_getElem? (i := 46) rfl)))) (mvT hZ (hw _ (List.mem_of_getElem? (i := 46) rfl))) (mvT hZ (hw _ (List.mem_of_getElem? (i := 45) rfl))) (by decide) (backOf (W := 0) (rmU l Z a0 hw [] b19 b6 b1 (.ref b1) (.ref b1) (.ref b19) (.ref b1) (.ref b19) (.ref b6) .null T48.heap n0 Z48 Fo0_48 Fo1_48 Fo2_48 Fo6_48 Fo7_48 Fo8_48 Fo3_48 Fo4_48 Fo5_48 f51 g_b19 f50 g_b6 f49 g_b1 (Ne.symm ne_b6_b19) (Ne.symm ne_b1_b19) (Ne.symm ne_b1_b6)) hZ (hw _ (List.mem_of_getElem? (i := 47) rfl)) (hw _ (List.mem_of_getElem? (i := 9) rfl)) (by decide) (by decide)) q82a q82c (g := (mkF m 90 #[.val (.int p1), .val (.long q2), .second, .val (.long q3), .second, .val (.ref b1), .val (.ref b6), .val (.ref b19), .val (.int (0 : Int32)), .val (.ref b19), .val (.ref b6), .unset, .unset, .unset, .unset] [(.ref b19)])) rfl (by rw [hml]; rfl) (Steps.refl _) (argsL := []) (rest := []) (lenOf own_pd2 rfl) rfl (by show 2 * 0 + _ ≤ _; exact Nat.le_of_eq rfl) (hb hby at_90) (fun _ _ => ⟨rfl, rfl, (by decide : 3 + 0 ≤ _), (by decide : 39 + 0 ≤ _)⟩)
    dsimp only [Pt.U, Pt.locs, Pt.cells, Pt.slots] at X82 l82 y82 z82 st82 hQ82
    subst l82 y82 z82
    obtain ⟨rfl, Nq82, Kc82, Fo0_82, Fo1_82, Fo2_82, Fo3_82, Fo4_82, Fo5_82, Fo6_82, Fo7_82, Fo8_82⟩ := hQ82
    have N82 := Fr.app N48 Nq82
    have R82 : ∀ t, Steps p.tables e below (T82.setTop (mkF m 93 #[.val (.int p1), .val (.long q2), .second, .val (.long q3), .second, .val (.ref b1), .val (.ref b6), .val (.ref b19), .val (.int (0 : Int32)), .val (.ref b19), .val (.ref b6), .unset, .unset, .unset, .unset] [])) t → Steps p.tables e below (s₁.setTop (entryFrame m #[(.int p1), (.long q2), (.long q3)] maxLocals)) t := fun t k => R81 t (st82.trans k)
    have Z82 : n0 ≤ T82.heap.size := Nat.le_trans Z48 Kc82.1
    have K82 : Keep h0 T82.heap [] := K48.trans Kc82 (allS (Or.inr sz_b19) (allS (Or.inr sz_b6) (allS (Or.inr sz_b1) all0)))
    have f83 : Exa Z T82.heap b1 "com/example/urd/urd/time/DeadlineQueue$Bucket" := f49.keep Kc82
    have f84 : Exa Z T82.heap b6 "com/example/urd/urd/time/DeadlineQueue$Bucket" := f50.keep Kc82
    have f85 : Exa Z T82.heap b19 "com/example/urd/urd/time/DeadlineQueue$Bucket" := f51.keep Kc82
    have R86 : ∀ t, Steps p.tables e below (T82.setTop (mkF m 95 #[.val (.int p1), .val (.long q2), .second, .val (.long q3), .second, .val (.ref b1), .val (.ref b6), .val (.ref b19), .val (.int (0 : Int32)), .val (.ref b19), .val (.ref b6), .unset, .unset, .unset, .unset] [(.ref b19)])) t → Steps p.tables e below (s₁.setTop (entryFrame m #[(.int p1), (.long q2), (.long q3)] maxLocals)) t := by
      intro t k
      refine R82 t ?_
      show Steps p.tables e below (T82.setTop (mkF m 93 #[.val (.int p1), .val (.long q2), .second, .val (.long q3), .second, .val (.ref b1), .val (.ref b6), .val (.ref b19), .val (.int (0 : Int32)), .val (.ref b19), .val (.ref b6), .unset, .unset, .unset, .unset] [])) _
      refine XS.aload X82.here hx rfl (hb hby at_93) rfl rfl ?_
      exact k
    obtain ⟨cq87, kq87, q87a, q87b, q87c⟩ := isOf hZ rfl f85
    obtain ⟨_, _, ⟨T87, L87, k87, n87⟩, -, X87, ⟨Lc87, hQ87, l87, y87, z87⟩, st87⟩ := X82.virtualBack hx (y := (⟨"com/example/urd/urd/time/Scheduled", "next", "()Lcom/example/urd/urd/time/Scheduled;"⟩ : MethodName)) (z := (⟨"com/example/urd/urd/time/Scheduled", "next", "()Lcom/example/urd/urd/time/Scheduled;"⟩ : MethodName)) hown (mvT hZ (hw _ (List.mem_of_getElem? (i := 48) rfl))) (mvT hZ (hw _ (List.mem_of_getElem? (i := 49) rfl))) (notFace_of_selects (args := #[]) (mvT hZ (hw _ (List.mem_of_getElem? (i := 51) rfl)))) (mvT hZ (hw _ (List.mem_of_getElem? (i := 51) rfl))) (mvT hZ (hw _ (List.mem_of_getElem? (i := 50) rfl))) (by decide) (backOf (W := 0) (rmGnext l Z a0 hw [] b19 .null T82.heap n0 Z82 Fo1_82 rfl) hZ (hw _ (List.mem_of_getElem? (i := 52) rfl)) (hw _ (List.mem_of_getElem? (i := 9) rfl)) (by decide) (by decide)) q87a q87c (g := (mkF m 95 #[.val (.int p1), .val (.long q2), .second, .val (.long q3), .second, .val (.ref b1), .val (.ref b6), .val (.ref b19), .val (.int (0 : Int32)), .val (.ref b19), .val (.ref b6), .unset, .unset, .unset, .unset] [(.ref b19)])) rfl (by rw [hml]; rfl) (Steps.refl _) (argsL := []) (rest := []) (lenOf own_pd4 rfl) rfl (by show 2 * 0 + _ ≤ _; exact Nat.le_of_eq rfl) (hb hby at_95) (fun _ _ => ⟨rfl, rfl, (by decide : 3 + 0 ≤ _), (by decide : 39 + 0 ≤ _)⟩)
    dsimp only [Pt.U, Pt.locs, Pt.cells, Pt.slots] at X87 l87 y87 z87 st87 hQ87
    subst l87 y87 z87
    obtain ⟨rfl, Nq87, eq87⟩ := hQ87
    have N87 := Fr.app N82 Nq87
    have R87 : ∀ t, Steps p.tables e below (T87.setTop (mkF m 98 #[.val (.int p1), .val (.long q2), .second, .val (.long q3), .second, .val (.ref b1), .val (.ref b6), .val (.ref b19), .val (.int (0 : Int32)), .val (.ref b19), .val (.ref b6), .unset, .unset, .unset, .unset] [.null])) t → Steps p.tables e below (s₁.setTop (entryFrame m #[(.int p1), (.long q2), (.long q3)] maxLocals)) t := fun t k => R86 t (st87.trans k)
    have R88 : ∀ t, Steps p.tables e below (T87.setTop (mkF m 103 #[.val (.int p1), .val (.long q2), .second, .val (.long q3), .second, .val (.ref b1), .val (.ref b6), .val (.ref b19), .val (.int (0 : Int32)), .val (.ref b19), .val (.ref b6), .unset, .unset, .unset, .unset] [(.ref b19)])) t → Steps p.tables e below (s₁.setTop (entryFrame m #[(.int p1), (.long q2), (.long q3)] maxLocals)) t := by
      intro t k
      refine R87 t ?_
      show Steps p.tables e below (T87.setTop (mkF m 98 #[.val (.int p1), .val (.long q2), .second, .val (.long q3), .second, .val (.ref b1), .val (.ref b6), .val (.ref b19), .val (.int (0 : Int32)), .val (.ref b19), .val (.ref b6), .unset, .unset, .unset, .unset] [.null])) _
      refine XS.ifnonnullNo X87.here hx rfl (hb hby at_98) rfl ?_
      show Steps p.tables e below (T87.setTop (mkF m 101 #[.val (.int p1), .val (.long q2), .second, .val (.long q3), .second, .val (.ref b1), .val (.ref b6), .val (.ref b19), .val (.int (0 : Int32)), .val (.ref b19), .val (.ref b6), .unset, .unset, .unset, .unset] [])) _
      refine XS.aload X87.here hx rfl (hb hby at_101) rfl rfl ?_
      exact k
    obtain ⟨cq89, kq89, q89a, q89b, q89c⟩ := isOf hZ eq87 f85
    obtain ⟨_, _, ⟨T89, L89, k89, n89⟩, -, X89, ⟨Lc89, hQ89, l89, y89, z89⟩, st89⟩ := X87.virtualBack hx (y := (⟨"com/example/urd/urd/time/Scheduled", "isQueued", "()Z"⟩ : MethodName)) (z := (⟨"com/example/urd/urd/time/Scheduled", "isQueued", "()Z"⟩ : MethodName)) hown (mvT hZ (hw _ (List.mem_of_getElem? (i := 53) rfl))) (mvT hZ (hw _ (List.mem_of_getElem? (i := 54) rfl))) (notFace_of_selects (args := #[]) (mvT hZ (hw _ (List.mem_of_getElem? (i := 56) rfl)))) (mvT hZ (hw _ (List.mem_of_getElem? (i := 56) rfl))) (mvT hZ (hw _ (List.mem_of_getElem? (i := 55) rfl))) (by decide) (backOf (W := 0) (rmQ l Z a0 hw [] b19  T82.heap n0 Z82 Fo2_82) hZ (hw _ (List.mem_of_getElem? (i := 57) rfl)) (hw _ (List.mem_of_getElem? (i := 9) rfl)) (by decide) (by decide)) q89a q89c (g := (mkF m 103 #[.val (.int p1), .val (.long q2), .second, .val (.long q3), .second, .val (.ref b1), .val (.ref b6), .val (.ref b19), .val (.int (0 : Int32)), .val (.ref b19), .val (.ref b6), .unset, .unset, .unset, .unset] [(.ref b19)])) rfl (by rw [hml]; rfl) (Steps.refl _) (argsL := []) (rest := []) (lenOf own_pd5 rfl) rfl (by show 2 * 0 + _ ≤ _; exact Nat.le_of_eq rfl) (hb hby at_103) (fun _ _ => ⟨rfl, eq87, (by decide : 3 + 0 ≤ _), (by decide : 39 + 0 ≤ _)⟩)
    dsimp only [Pt.U, Pt.locs, Pt.cells, Pt.slots] at X89 l89 y89 z89 st89 hQ89
    subst l89 y89 z89
    obtain ⟨rfl, Nq89, eq89⟩ := hQ89
    have N89 := Fr.app N87 Nq89
    have R89 : ∀ t, Steps p.tables e below (T89.setTop (mkF m 106 #[.val (.int p1), .val (.long q2), .second, .val (.long q3), .second, .val (.ref b1), .val (.ref b6), .val (.ref b19), .val (.int (0 : Int32)), .val (.ref b19), .val (.ref b6), .unset, .unset, .unset, .unset] [(.int (0 : Int32))])) t → Steps p.tables e below (s₁.setTop (entryFrame m #[(.int p1), (.long q2), (.long q3)] maxLocals)) t := fun t k => R88 t (st89.trans k)
    have R90 : ∀ t, Steps p.tables e below (T89.setTop (mkF m 118 #[.val (.int p1), .val (.long q2), .second, .val (.long q3), .second, .val (.ref b1), .val (.ref b6), .val (.ref b19), .val (.int (0 : Int32)), .val (.ref b19), .val (.ref b6), .val (.int (1 : Int32)), .unset, .unset, .unset] [(.ref b1)])) t → Steps p.tables e below (s₁.setTop (entryFrame m #[(.int p1), (.long q2), (.long q3)] maxLocals)) t := by
      intro t k
      refine R89 t ?_
      show Steps p.tables e below (T89.setTop (mkF m 106 #[.val (.int p1), .val (.long q2), .second, .val (.long q3), .second, .val (.ref b1), .val (.ref b6), .val (.ref b19), .val (.int (0 : Int32)), .val (.ref b19), .val (.ref b6), .unset, .unset, .unset, .unset] [(.int (0 : Int32))])) _
      refine XS.ifNo X89.here hx rfl (hb hby at_106) rfl ((if0 _ _).trans (teq (by decide : ((0 : Int32) = (0 : Int32)))).2) ?_
      show Steps p.tables e below (T89.setTop (mkF m 109 #[.val (.int p1), .val (.long q2), .second, .val (.long q3), .second, .val (.ref b1), .val (.ref b6), .val (.ref b19), .val (.int (0 : Int32)), .val (.ref b19), .val (.ref b6), .unset, .unset, .unset, .unset] [])) _
      refine XS.iconst X89.here hx rfl (hb hby at_109) ?_
      show Steps p.tables e below (T89.setTop (mkF m 110 #[.val (.int p1), .val (.long q2), .second, .val (.long q3), .second, .val (.ref b1), .val (.ref b6), .val (.ref b19), .val (.int (0 : Int32)), .val (.ref b19), .val (.ref b6), .unset, .unset, .unset, .unset] [(.int (1 : Int32))])) _
      refine XS.goto X89.here hx rfl (pc0 := 110) (pc' := 114) rfl (hb hby at_110) (by decide) (by decide) ?_
      show Steps p.tables e below (T89.setTop (mkF m 114 #[.val (.int p1), .val (.long q2), .second, .val (.long q3), .second, .val (.ref b1), .val (.ref b6), .val (.ref b19), .val (.int (0 : Int32)), .val (.ref b19), .val (.ref b6), .unset, .unset, .unset, .unset] [(.int (1 : Int32))])) _
      refine XS.istore X89.here hx rfl (hb hby at_114) rfl (l' := #[.val (.int p1), .val (.long q2), .second, .val (.long q3), .second, .val (.ref b1), .val (.ref b6), .val (.ref b19), .val (.int (0 : Int32)), .val (.ref b19), .val (.ref b6), .val (.int (1 : Int32)), .unset, .unset, .unset]) rfl ?_
      show Steps p.tables e below (T89.setTop (mkF m 116 #[.val (.int p1), .val (.long q2), .second, .val (.long q3), .second, .val (.ref b1), .val (.ref b6), .val (.ref b19), .val (.int (0 : Int32)), .val (.ref b19), .val (.ref b6), .val (.int (1 : Int32)), .unset, .unset, .unset] [])) _
      refine XS.aload X89.here hx rfl (hb hby at_116) rfl rfl ?_
      exact k
    obtain ⟨cq91, kq91, q91a, q91b, q91c⟩ := isOf hZ eq89 f83
    obtain ⟨_, _, ⟨T91, L91, k91, n91⟩, -, X91, ⟨Lc91, hQ91, l91, y91, z91⟩, st91⟩ := X89.virtualBackUp hx (x := (⟨"com/example/urd/urd/time/DeadlineQueue$Bucket", "next", "()Lcom/example/urd/urd/time/Scheduled;"⟩ : MethodName)) (y := (⟨"com/example/urd/urd/time/Scheduled", "next", "()Lcom/example/urd/urd/time/Scheduled;"⟩ : MethodName)) hown (mvT hZ (hw _ (List.mem_of_getElem? (i := 58) rfl))) (mvT hZ (hw _ (List.mem_of_getElem? (i := 59) rfl))) (mvT hZ (hw _ (List.mem_of_getElem? (i := 49) rfl))) (by decide) (mvT hZ (hw _ (List.mem_of_getElem? (i := 60) rfl))) (mvT hZ (hw _ (List.mem_of_getElem? (i := 50) rfl))) (backOf (W := 0) (rmGnext l Z a0 hw [] b1 (.ref b6) T82.heap n0 Z82 Fo7_82 rfl) hZ (hw _ (List.mem_of_getElem? (i := 52) rfl)) (hw _ (List.mem_of_getElem? (i := 9) rfl)) (by decide) (by decide)) q91a q91c (g := (mkF m 118 #[.val (.int p1), .val (.long q2), .second, .val (.long q3), .second, .val (.ref b1), .val (.ref b6), .val (.ref b19), .val (.int (0 : Int32)), .val (.ref b19), .val (.ref b6), .val (.int (1 : Int32)), .unset, .unset, .unset] [(.ref b1)])) rfl (by rw [hml]; rfl) (Steps.refl _) (argsL := []) (rest := []) (lenOf own_pd4 rfl) rfl (by show 2 * 0 + _ ≤ _; exact Nat.le_of_eq rfl) (hb hby at_118) (fun _ _ => ⟨rfl, eq89, (by decide : 3 + 0 ≤ _), (by decide : 39 + 0 ≤ _)⟩)
    dsimp only [Pt.U, Pt.locs, Pt.cells, Pt.slots] at X91 l91 y91 z91 st91 hQ91
    subst l91 y91 z91
    obtain ⟨rfl, Nq91, eq91⟩ := hQ91
    have N91 := Fr.app N89 Nq91
    have R91 : ∀ t, Steps p.tables e below (T91.setTop (mkF m 121 #[.val (.int p1), .val (.long q2), .second, .val (.long q3), .second, .val (.ref b1), .val (.ref b6), .val (.ref b19), .val (.int (0 : Int32)), .val (.ref b19), .val (.ref b6), .val (.int (1 : Int32)), .unset, .unset, .unset] [(.ref b6)])) t → Steps p.tables e below (s₁.setTop (entryFrame m #[(.int p1), (.long q2), (.long q3)] maxLocals)) t := fun t k => R90 t (st91.trans k)
    have R92 : ∀ t, Steps p.tables e below (T91.setTop (mkF m 128 #[.val (.int p1), .val (.long q2), .second, .val (.long q3), .second, .val (.ref b1), .val (.ref b6), .val (.ref b19), .val (.int (0 : Int32)), .val (.ref b19), .val (.ref b6), .val (.int (1 : Int32)), .unset, .unset, .unset] [(.ref b6)])) t → Steps p.tables e below (s₁.setTop (entryFrame m #[(.int p1), (.long q2), (.long q3)] maxLocals)) t := by
      intro t k
      refine R91 t ?_
      show Steps p.tables e below (T91.setTop (mkF m 121 #[.val (.int p1), .val (.long q2), .second, .val (.long q3), .second, .val (.ref b1), .val (.ref b6), .val (.ref b19), .val (.int (0 : Int32)), .val (.ref b19), .val (.ref b6), .val (.int (1 : Int32)), .unset, .unset, .unset] [(.ref b6)])) _
      refine XS.aload X91.here hx rfl (hb hby at_121) rfl rfl ?_
      show Steps p.tables e below (T91.setTop (mkF m 123 #[.val (.int p1), .val (.long q2), .second, .val (.long q3), .second, .val (.ref b1), .val (.ref b6), .val (.ref b19), .val (.int (0 : Int32)), .val (.ref b19), .val (.ref b6), .val (.int (1 : Int32)), .unset, .unset, .unset] [(.ref b6), (.ref b6)])) _
      refine Jvm.RoadKit.acmp (g := (mkF m 123 #[.val (.int p1), .val (.long q2), .second, .val (.long q3), .second, .val (.ref b1), .val (.ref b6), .val (.ref b19), .val (.int (0 : Int32)), .val (.ref b19), .val (.ref b6), .val (.int (1 : Int32)), .unset, .unset, .unset] [(.ref b6), (.ref b6)])) X91 hx rfl rfl rfl (pc0 := 123) (pc' := 126) (same := true) rfl (hb hby at_123) rfl (decide_eq_true rfl) (by decide) (by decide) ?_
      show Steps p.tables e below (T91.setTop (mkF m 126 #[.val (.int p1), .val (.long q2), .second, .val (.long q3), .second, .val (.ref b1), .val (.ref b6), .val (.ref b19), .val (.int (0 : Int32)), .val (.ref b19), .val (.ref b6), .val (.int (1 : Int32)), .unset, .unset, .unset] [])) _
      refine XS.aload X91.here hx rfl (hb hby at_126) rfl rfl ?_
      exact k
    obtain ⟨cq93, kq93, q93a, q93b, q93c⟩ := isOf hZ eq91 f84
    obtain ⟨_, _, ⟨T93, L93, k93, n93⟩, -, X93, ⟨Lc93, hQ93, l93, y93, z93⟩, st93⟩ := X91.virtualBack hx (y := (⟨"com/example/urd/urd/time/Scheduled", "next", "()Lcom/example/urd/urd/time/Scheduled;"⟩ : MethodName)) (z := (⟨"com/example/urd/urd/time/Scheduled", "next", "()Lcom/example/urd/urd/time/Scheduled;"⟩ : MethodName)) hown (mvT hZ (hw _ (List.mem_of_getElem? (i := 48) rfl))) (mvT hZ (hw _ (List.mem_of_getElem? (i := 49) rfl))) (notFace_of_selects (args := #[]) (mvT hZ (hw _ (List.mem_of_getElem? (i := 51) rfl)))) (mvT hZ (hw _ (List.mem_of_getElem? (i := 51) rfl))) (mvT hZ (hw _ (List.mem_of_getElem? (i := 50) rfl))) (by decide) (backOf (W := 0) (rmGnext l Z a0 hw [] b6 (.ref b1) T82.heap n0 Z82 Fo4_82 rfl) hZ (hw _ (List.mem_of_getElem? (i := 52) rfl)) (hw _ (List.mem_of_getElem? (i := 9) rfl)) (by decide) (by decide)) q93a q93c (g := (mkF m 128 #[.val (.int p1), .val (.long q2), .second, .val (.long q3), .second, .val (.ref b1), .val (.ref b6), .val (.ref b19), .val (.int (0 : Int32)), .val (.ref b19), .val (.ref b6), .val (.int (1 : Int32)), .unset, .unset, .unset] [(.ref b6)])) rfl (by rw [hml]; rfl) (Steps.refl _) (argsL := []) (rest := []) (lenOf own_pd4 rfl) rfl (by show 2 * 0 + _ ≤ _; exact Nat.le_of_eq rfl) (hb hby at_128) (fun _ _ => ⟨rfl, eq91, (by decide : 3 + 0 ≤ _), (by decide : 39 + 0 ≤ _)⟩)
    dsimp only [Pt.U, Pt.locs, Pt.cells, Pt.slots] at X93 l93 y93 z93 st93 hQ93
    subst l93 y93 z93
    obtain ⟨rfl, Nq93, eq93⟩ := hQ93
    have N93 := Fr.app N91 Nq93
    have R93 : ∀ t, Steps p.tables e below (T93.setTop (mkF m 131 #[.val (.int p1), .val (.long q2), .second, .val (.long q3), .second, .val (.ref b1), .val (.ref b6), .val (.ref b19), .val (.int (0 : Int32)), .val (.ref b19), .val (.ref b6), .val (.int (1 : Int32)), .unset, .unset, .unset] [(.ref b1)])) t → Steps p.tables e below (s₁.setTop (entryFrame m #[(.int p1), (.long q2), (.long q3)] maxLocals)) t := fun t k => R92 t (st93.trans k)
    have R94 : ∀ t, Steps p.tables e below (T93.setTop (mkF m 147 #[.val (.int p1), .val (.long q2), .second, .val (.long q3), .second, .val (.ref b1), .val (.ref b6), .val (.ref b19), .val (.int (0 : Int32)), .val (.ref b19), .val (.ref b6), .val (.int (1 : Int32)), .val (.int (1 : Int32)), .unset, .unset] [(.ref b1), (.ref b19)])) t → Steps p.tables e below (s₁.setTop (entryFrame m #[(.int p1), (.long q2), (.long q3)] maxLocals)) t := by
      intro t k
      refine R93 t ?_
      show Steps p.tables e below (T93.setTop (mkF m 131 #[.val (.int p1), .val (.long q2), .second, .val (.long q3), .second, .val (.ref b1), .val (.ref b6), .val (.ref b19), .val (.int (0 : Int32)), .val (.ref b19), .val (.ref b6), .val (.int (1 : Int32)), .unset, .unset, .unset] [(.ref b1)])) _
      refine XS.aload X93.here hx rfl (hb hby at_131) rfl rfl ?_
      show Steps p.tables e below (T93.setTop (mkF m 133 #[.val (.int p1), .val (.long q2), .second, .val (.long q3), .second, .val (.ref b1), .val (.ref b6), .val (.ref b19), .val (.int (0 : Int32)), .val (.ref b19), .val (.ref b6), .val (.int (1 : Int32)), .unset, .unset, .unset] [(.ref b1), (.ref b1)])) _
      refine Jvm.RoadKit.acmp (g := (mkF m 133 #[.val (.int p1), .val (.long q2), .second, .val (.long q3), .second, .val (.ref b1), .val (.ref b6), .val (.ref b19), .val (.int (0 : Int32)), .val (.ref b19), .val (.ref b6), .val (.int (1 : Int32)), .unset, .unset, .unset] [(.ref b1), (.ref b1)])) X93 hx rfl rfl rfl (pc0 := 133) (pc' := 136) (same := true) rfl (hb hby at_133) rfl (decide_eq_true rfl) (by decide) (by decide) ?_
      show Steps p.tables e below (T93.setTop (mkF m 136 #[.val (.int p1), .val (.long q2), .second, .val (.long q3), .second, .val (.ref b1), .val (.ref b6), .val (.ref b19), .val (.int (0 : Int32)), .val (.ref b19), .val (.ref b6), .val (.int (1 : Int32)), .unset, .unset, .unset] [])) _
      refine XS.iconst X93.here hx rfl (hb hby at_136) ?_
      show Steps p.tables e below (T93.setTop (mkF m 137 #[.val (.int p1), .val (.long q2), .second, .val (.long q3), .second, .val (.ref b1), .val (.ref b6), .val (.ref b19), .val (.int (0 : Int32)), .val (.ref b19), .val (.ref b6), .val (.int (1 : Int32)), .unset, .unset, .unset] [(.int (1 : Int32))])) _
      refine XS.goto X93.here hx rfl (pc0 := 137) (pc' := 141) rfl (hb hby at_137) (by decide) (by decide) ?_
      show Steps p.tables e below (T93.setTop (mkF m 141 #[.val (.int p1), .val (.long q2), .second, .val (.long q3), .second, .val (.ref b1), .val (.ref b6), .val (.ref b19), .val (.int (0 : Int32)), .val (.ref b19), .val (.ref b6), .val (.int (1 : Int32)), .unset, .unset, .unset] [(.int (1 : Int32))])) _
      refine XS.istore X93.here hx rfl (hb hby at_141) rfl (l' := #[.val (.int p1), .val (.long q2), .second, .val (.long q3), .second, .val (.ref b1), .val (.ref b6), .val (.ref b19), .val (.int (0 : Int32)), .val (.ref b19), .val (.ref b6), .val (.int (1 : Int32)), .val (.int (1 : Int32)), .unset, .unset]) rfl ?_
      show Steps p.tables e below (T93.setTop (mkF m 143 #[.val (.int p1), .val (.long q2), .second, .val (.long q3), .second, .val (.ref b1), .val (.ref b6), .val (.ref b19), .val (.int (0 : Int32)), .val (.ref b19), .val (.ref b6), .val (.int (1 : Int32)), .val (.int (1 : Int32)), .unset, .unset] [])) _
      refine XS.aload X93.here hx rfl (hb hby at_143) rfl rfl ?_
      show Steps p.tables e below (T93.setTop (mkF m 145 #[.val (.int p1), .val (.long q2), .second, .val (.long q3), .second, .val (.ref b1), .val (.ref b6), .val (.ref b19), .val (.int (0 : Int32)), .val (.ref b19), .val (.ref b6), .val (.int (1 : Int32)), .val (.int (1 : Int32)), .unset, .unset] [(.ref b19)])) _
      refine XS.aload X93.here hx rfl (hb hby at_145) rfl rfl ?_
      exact k
    obtain ⟨cq95, kq95, q95a, q95b, q95c⟩ := isOf hZ eq93 f85
    obtain ⟨_, _, ⟨T95, L95, k95, n95⟩, -, X95, ⟨Lc95, hQ95, l95, y95, z95⟩, st95⟩ := X93.virtualBack hx (y := (⟨"com/example/urd/urd/time/Scheduled", "linkInto", "(Lcom/example/urd/urd/time/DeadlineQueue$Bucket;)V"⟩ : MethodName)) (z := (⟨"com/example/urd/urd/time/Scheduled", "linkInto", "(Lcom/example/urd/urd/time/DeadlineQueue$Bucket;)V"⟩ : MethodName)) hown (mvT hZ (hw _ (List.mem_of_getElem? (i := 36) rfl))) (mvT hZ (hw _ (List.mem_of_getElem? (i := 37) rfl))) (notFace_of_selects (args := #[]) (mvT hZ (hw _ (List.mem_of_getElem? (i := 39) rfl)))) (mvT hZ (hw _ (List.mem_of_getElem? (i := 39) rfl))) (mvT hZ (hw _ (List.mem_of_getElem? (i := 38) rfl))) (by decide) (backOf (W := 0) (rmLB l Z a0 hw [] b19 b1 b6 .null .null .null (.ref b6) .null (.ref b1) (.ref b1) (.ref b1) T82.heap n0 Z82 Fo0_82 Fo1_82 Fo2_82 Fo6_82 Fo7_82 Fo8_82 Fo3_82 Fo4_82 Fo5_82 f85 g_b19 f83 g_b1 f84 g_b6 (Ne.symm ne_b1_b19) (Ne.symm ne_b6_b19) ne_b1_b6) hZ (hw _ (List.mem_of_getElem? (i := 40) rfl)) (hw _ (List.mem_of_getElem? (i := 9) rfl)) (by decide) (by decide)) q95a q95c (g := (mkF m 147 #[.val (.int p1), .val (.long q2), .second, .val (.long q3), .second, .val (.ref b1), .val (.ref b6), .val (.ref b19), .val (.int (0 : Int32)), .val (.ref b19), .val (.ref b6), .val (.int (1 : Int32)), .val (.int (1 : Int32)), .unset, .unset] [(.ref b1), (.ref b19)])) rfl (by rw [hml]; rfl) (Steps.refl _) (argsL := [(.ref b1)]) (rest := []) (lenOf own_pd3 rfl) rfl (by show 2 * 0 + _ ≤ _; exact Nat.le_of_eq rfl) (hb hby at_147) (fun _ _ => ⟨rfl, eq93, (by decide : 3 + 0 ≤ _), (by decide : 39 + 0 ≤ _)⟩)
    dsimp only [Pt.U, Pt.locs, Pt.cells, Pt.slots] at X95 l95 y95 z95 st95 hQ95
    subst l95 y95 z95
    obtain ⟨rfl, Nq95, Kc95, Fo0_95, Fo1_95, Fo2_95, Fo3_95, Fo4_95, Fo5_95, Fo6_95, Fo7_95, Fo8_95⟩ := hQ95
    have N95 := Fr.app N93 Nq95
    have R95 : ∀ t, Steps p.tables e below (T95.setTop (mkF m 150 #[.val (.int p1), .val (.long q2), .second, .val (.long q3), .second, .val (.ref b1), .val (.ref b6), .val (.ref b19), .val (.int (0 : Int32)), .val (.ref b19), .val (.ref b6), .val (.int (1 : Int32)), .val (.int (1 : Int32)), .unset, .unset] [])) t → Steps p.tables e below (s₁.setTop (entryFrame m #[(.int p1), (.long q2), (.long q3)] maxLocals)) t := fun t k => R94 t (st95.trans k)
    have Z95 : n0 ≤ T95.heap.size := Nat.le_trans Z82 Kc95.1
    have K95 : Keep h0 T95.heap [] := K82.trans Kc95 (allS (Or.inr sz_b19) (allS (Or.inr sz_b1) (allS (Or.inr sz_b6) all0)))
    have f96 : Exa Z T95.heap b1 "com/example/urd/urd/time/DeadlineQueue$Bucket" := f83.keep Kc95
    have f97 : Exa Z T95.heap b6 "com/example/urd/urd/time/DeadlineQueue$Bucket" := f84.keep Kc95
    have f98 : Exa Z T95.heap b19 "com/example/urd/urd/time/DeadlineQueue$Bucket" := f85.keep Kc95
    have R99 : ∀ t, Steps p.tables e below (T95.setTop (mkF m 152 #[.val (.int p1), .val (.long q2), .second, .val (.long q3), .second, .val (.ref b1), .val (.ref b6), .val (.ref b19), .val (.int (0 : Int32)), .val (.ref b19), .val (.ref b6), .val (.int (1 : Int32)), .val (.int (1 : Int32)), .unset, .unset] [(.ref b6)])) t → Steps p.tables e below (s₁.setTop (entryFrame m #[(.int p1), (.long q2), (.long q3)] maxLocals)) t := by
      intro t k
      refine R95 t ?_
      show Steps p.tables e below (T95.setTop (mkF m 150 #[.val (.int p1), .val (.long q2), .second, .val (.long q3), .second, .val (.ref b1), .val (.ref b6), .val (.ref b19), .val (.int (0 : Int32)), .val (.ref b19), .val (.ref b6), .val (.int (1 : Int32)), .val (.int (1 : Int32)), .unset, .unset] [])) _
      refine XS.aload X95.here hx rfl (hb hby at_150) rfl rfl ?_
      exact k
    obtain ⟨cq100, kq100, q100a, q100b, q100c⟩ := isOf hZ rfl f97
    obtain ⟨_, _, ⟨T100, L100, k100, n100⟩, -, X100, ⟨Lc100, hQ100, l100, y100, z100⟩, st100⟩ := X95.virtualBack hx (y := (⟨"com/example/urd/urd/time/Scheduled", "next", "()Lcom/example/urd/urd/time/Scheduled;"⟩ : MethodName)) (z := (⟨"com/example/urd/urd/time/Scheduled", "next", "()Lcom/example/urd/urd/time/Scheduled;"⟩ : MethodName)) hown (mvT hZ (hw _ (List.mem_of_getElem? (i := 48) rfl))) (mvT hZ (hw _ (List.mem_of_getElem? (i := 49) rfl))) (notFace_of_selects (args := #[]) (mvT hZ (hw _ (List.mem_of_getElem? (i := 51) rfl)))) (mvT hZ (hw _ (List.mem_of_getElem? (i := 51) rfl))) (mvT hZ (hw _ (List.mem_of_getElem? (i := 50) rfl))) (by decide) (backOf (W := 0) (rmGnext l Z a0 hw [] b6 (.ref b19) T95.heap n0 Z95 Fo7_95 rfl) hZ (hw _ (List.mem_of_getElem? (i := 52) rfl)) (hw _ (List.mem_of_getElem? (i := 9) rfl)) (by decide) (by decide)) q100a q100c (g := (mkF m 152 #[.val (.int p1), .val (.long q2), .second, .val (.long q3), .second, .val (.ref b1), .val (.ref b6), .val (.ref b19), .val (.int (0 : Int32)), .val (.ref b19), .val (.ref b6), .val (.int (1 : Int32)), .val (.int (1 : Int32)), .unset, .unset] [(.ref b6)])) rfl (by rw [hml]; rfl) (Steps.refl _) (argsL := []) (rest := []) (lenOf own_pd4 rfl) rfl (by show 2 * 0 + _ ≤ _; exact Nat.le_of_eq rfl) (hb hby at_152) (fun _ _ => ⟨rfl, rfl, (by decide : 3 + 0 ≤ _), (by decide : 39 + 0 ≤ _)⟩)
    dsimp only [Pt.U, Pt.locs, Pt.cells, Pt.slots] at X100 l100 y100 z100 st100 hQ100
    subst l100 y100 z100
    obtain ⟨rfl, Nq100, eq100⟩ := hQ100
    have N100 := Fr.app N95 Nq100
    have R100 : ∀ t, Steps p.tables e below (T100.setTop (mkF m 155 #[.val (.int p1), .val (.long q2), .second, .val (.long q3), .second, .val (.ref b1), .val (.ref b6), .val (.ref b19), .val (.int (0 : Int32)), .val (.ref b19), .val (.ref b6), .val (.int (1 : Int32)), .val (.int (1 : Int32)), .unset, .unset] [(.ref b19)])) t → Steps p.tables e below (s₁.setTop (entryFrame m #[(.int p1), (.long q2), (.long q3)] maxLocals)) t := fun t k => R99 t (st100.trans k)
    have R101 : ∀ t, Steps p.tables e below (T100.setTop (mkF m 169 #[.val (.int p1), .val (.long q2), .second, .val (.long q3), .second, .val (.ref b1), .val (.ref b6), .val (.ref b19), .val (.int (0 : Int32)), .val (.ref b19), .val (.ref b6), .val (.int (1 : Int32)), .val (.int (1 : Int32)), .val (.int (1 : Int32)), .unset] [(.ref b6)])) t → Steps p.tables e below (s₁.setTop (entryFrame m #[(.int p1), (.long q2), (.long q3)] maxLocals)) t := by
      intro t k
      refine R100 t ?_
      show Steps p.tables e below (T100.setTop (mkF m 155 #[.val (.int p1), .val (.long q2), .second, .val (.long q3), .second, .val (.ref b1), .val (.ref b6), .val (.ref b19), .val (.int (0 : Int32)), .val (.ref b19), .val (.ref b6), .val (.int (1 : Int32)), .val (.int (1 : Int32)), .unset, .unset] [(.ref b19)])) _
      refine XS.aload X100.here hx rfl (hb hby at_155) rfl rfl ?_
      show Steps p.tables e below (T100.setTop (mkF m 157 #[.val (.int p1), .val (.long q2), .second, .val (.long q3), .second, .val (.ref b1), .val (.ref b6), .val (.ref b19), .val (.int (0 : Int32)), .val (.ref b19), .val (.ref b6), .val (.int (1 : Int32)), .val (.int (1 : Int32)), .unset, .unset] [(.ref b19), (.ref b19)])) _
      refine Jvm.RoadKit.acmp (g := (mkF m 157 #[.val (.int p1), .val (.long q2), .second, .val (.long q3), .second, .val (.ref b1), .val (.ref b6), .val (.ref b19), .val (.int (0 : Int32)), .val (.ref b19), .val (.ref b6), .val (.int (1 : Int32)), .val (.int (1 : Int32)), .unset, .unset] [(.ref b19), (.ref b19)])) X100 hx rfl rfl rfl (pc0 := 157) (pc' := 160) (same := true) rfl (hb hby at_157) rfl (decide_eq_true rfl) (by decide) (by decide) ?_
      show Steps p.tables e below (T100.setTop (mkF m 160 #[.val (.int p1), .val (.long q2), .second, .val (.long q3), .second, .val (.ref b1), .val (.ref b6), .val (.ref b19), .val (.int (0 : Int32)), .val (.ref b19), .val (.ref b6), .val (.int (1 : Int32)), .val (.int (1 : Int32)), .unset, .unset] [])) _
      refine XS.iconst X100.here hx rfl (hb hby at_160) ?_
      show Steps p.tables e below (T100.setTop (mkF m 161 #[.val (.int p1), .val (.long q2), .second, .val (.long q3), .second, .val (.ref b1), .val (.ref b6), .val (.ref b19), .val (.int (0 : Int32)), .val (.ref b19), .val (.ref b6), .val (.int (1 : Int32)), .val (.int (1 : Int32)), .unset, .unset] [(.int (1 : Int32))])) _
      refine XS.goto X100.here hx rfl (pc0 := 161) (pc' := 165) rfl (hb hby at_161) (by decide) (by decide) ?_
      show Steps p.tables e below (T100.setTop (mkF m 165 #[.val (.int p1), .val (.long q2), .second, .val (.long q3), .second, .val (.ref b1), .val (.ref b6), .val (.ref b19), .val (.int (0 : Int32)), .val (.ref b19), .val (.ref b6), .val (.int (1 : Int32)), .val (.int (1 : Int32)), .unset, .unset] [(.int (1 : Int32))])) _
      refine XS.istore X100.here hx rfl (hb hby at_165) rfl (l' := #[.val (.int p1), .val (.long q2), .second, .val (.long q3), .second, .val (.ref b1), .val (.ref b6), .val (.ref b19), .val (.int (0 : Int32)), .val (.ref b19), .val (.ref b6), .val (.int (1 : Int32)), .val (.int (1 : Int32)), .val (.int (1 : Int32)), .unset]) rfl ?_
      show Steps p.tables e below (T100.setTop (mkF m 167 #[.val (.int p1), .val (.long q2), .second, .val (.long q3), .second, .val (.ref b1), .val (.ref b6), .val (.ref b19), .val (.int (0 : Int32)), .val (.ref b19), .val (.ref b6), .val (.int (1 : Int32)), .val (.int (1 : Int32)), .val (.int (1 : Int32)), .unset] [])) _
      refine XS.aload X100.here hx rfl (hb hby at_167) rfl rfl ?_
      exact k
    obtain ⟨cq102, kq102, q102a, q102b, q102c⟩ := isOf hZ eq100 f97
    obtain ⟨_, _, ⟨T102, L102, k102, n102⟩, -, X102, ⟨Lc102, hQ102, l102, y102, z102⟩, st102⟩ := X100.virtualBack hx (y := (⟨"com/example/urd/urd/time/Scheduled", "unlink", "()V"⟩ : MethodName)) (z := (⟨"com/example/urd/urd/time/Scheduled", "unlink", "()V"⟩ : MethodName)) hown (mvT hZ (hw _ (List.mem_of_getElem? (i := 43) rfl))) (mvT hZ (hw _ (List.mem_of_getElem? (i := 44) rfl))) (notFace_of_selects (args := #[]) (mvT hZ (hw _ (List.mem_of_getElem? (i := 46) rfl)))) (mvT hZ (hw _ (List.mem_of_getElem? (i := 46) rfl))) (mvT hZ (hw _ (List.mem_of_getElem? (i := 45) rfl))) (by decide) (backOf (W := 0) (rmU l Z a0 hw [] b6 b1 b19 (.ref b1) (.ref b19) (.ref b6) .null (.ref b6) (.ref b1) (.ref b1) T95.heap n0 Z95 Fo6_95 Fo7_95 Fo8_95 Fo3_95 Fo4_95 Fo5_95 Fo0_95 Fo1_95 Fo2_95 f97 g_b6 f96 g_b1 f98 g_b19 (Ne.symm ne_b1_b6) ne_b6_b19 ne_b1_b19) hZ (hw _ (List.mem_of_getElem? (i := 47) rfl)) (hw _ (List.mem_of_getElem? (i := 9) rfl)) (by decide) (by decide)) q102a q102c (g := (mkF m 169 #[.val (.int p1), .val (.long q2), .second, .val (.long q3), .second, .val (.ref b1), .val (.ref b6), .val (.ref b19), .val (.int (0 : Int32)), .val (.ref b19), .val (.ref b6), .val (.int (1 : Int32)), .val (.int (1 : Int32)), .val (.int (1 : Int32)), .unset] [(.ref b6)])) rfl (by rw [hml]; rfl) (Steps.refl _) (argsL := []) (rest := []) (lenOf own_pd2 rfl) rfl (by show 2 * 0 + _ ≤ _; exact Nat.le_of_eq rfl) (hb hby at_169) (fun _ _ => ⟨rfl, eq100, (by decide : 3 + 0 ≤ _), (by decide : 39 + 0 ≤ _)⟩)
    dsimp only [Pt.U, Pt.locs, Pt.cells, Pt.slots] at X102 l102 y102 z102 st102 hQ102
    subst l102 y102 z102
    obtain ⟨rfl, Nq102, Kc102, Fo0_102, Fo1_102, Fo2_102, Fo3_102, Fo4_102, Fo5_102, Fo6_102, Fo7_102, Fo8_102⟩ := hQ102
    have N102 := Fr.app N100 Nq102
    have R102 : ∀ t, Steps p.tables e below (T102.setTop (mkF m 172 #[.val (.int p1), .val (.long q2), .second, .val (.long q3), .second, .val (.ref b1), .val (.ref b6), .val (.ref b19), .val (.int (0 : Int32)), .val (.ref b19), .val (.ref b6), .val (.int (1 : Int32)), .val (.int (1 : Int32)), .val (.int (1 : Int32)), .unset] [])) t → Steps p.tables e below (s₁.setTop (entryFrame m #[(.int p1), (.long q2), (.long q3)] maxLocals)) t := fun t k => R101 t (st102.trans k)
    have Z102 : n0 ≤ T102.heap.size := Nat.le_trans Z95 Kc102.1
    have K102 : Keep h0 T102.heap [] := K95.trans Kc102 (allS (Or.inr sz_b6) (allS (Or.inr sz_b1) (allS (Or.inr sz_b19) all0)))
    have f103 : Exa Z T102.heap b1 "com/example/urd/urd/time/DeadlineQueue$Bucket" := f96.keep Kc102
    have f104 : Exa Z T102.heap b6 "com/example/urd/urd/time/DeadlineQueue$Bucket" := f97.keep Kc102
    have f105 : Exa Z T102.heap b19 "com/example/urd/urd/time/DeadlineQueue$Bucket" := f98.keep Kc102
    have R106 : ∀ t, Steps p.tables e below (T102.setTop (mkF m 174 #[.val (.int p1), .val (.long q2), .second, .val (.long q3), .second, .val (.ref b1), .val (.ref b6), .val (.ref b19), .val (.int (0 : Int32)), .val (.ref b19), .val (.ref b6), .val (.int (1 : Int32)), .val (.int (1 : Int32)), .val (.int (1 : Int32)), .unset] [(.ref b1)])) t → Steps p.tables e below (s₁.setTop (entryFrame m #[(.int p1), (.long q2), (.long q3)] maxLocals)) t := by
      intro t k
      refine R102 t ?_
      show Steps p.tables e below (T102.setTop (mkF m 172 #[.val (.int p1), .val (.long q2), .second, .val (.long q3), .second, .val (.ref b1), .val (.ref b6), .val (.ref b19), .val (.int (0 : Int32)), .val (.ref b19), .val (.ref b6), .val (.int (1 : Int32)), .val (.int (1 : Int32)), .val (.int (1 : Int32)), .unset] [])) _
      refine XS.aload X102.here hx rfl (hb hby at_172) rfl rfl ?_
      exact k
    obtain ⟨cq107, kq107, q107a, q107b, q107c⟩ := isOf hZ rfl f103
    obtain ⟨_, _, ⟨T107, L107, k107, n107⟩, -, X107, ⟨Lc107, hQ107, l107, y107, z107⟩, st107⟩ := X102.virtualBackUp hx (x := (⟨"com/example/urd/urd/time/DeadlineQueue$Bucket", "next", "()Lcom/example/urd/urd/time/Scheduled;"⟩ : MethodName)) (y := (⟨"com/example/urd/urd/time/Scheduled", "next", "()Lcom/example/urd/urd/time/Scheduled;"⟩ : MethodName)) hown (mvT hZ (hw _ (List.mem_of_getElem? (i := 58) rfl))) (mvT hZ (hw _ (List.mem_of_getElem? (i := 59) rfl))) (mvT hZ (hw _ (List.mem_of_getElem? (i := 49) rfl))) (by decide) (mvT hZ (hw _ (List.mem_of_getElem? (i := 60) rfl))) (mvT hZ (hw _ (List.mem_of_getElem? (i := 50) rfl))) (backOf (W := 0) (rmGnext l Z a0 hw [] b1 (.ref b19) T102.heap n0 Z102 Fo4_102 rfl) hZ (hw _ (List.mem_of_getElem? (i := 52) rfl)) (hw _ (List.mem_of_getElem? (i := 9) rfl)) (by decide) (by decide)) q107a q107c (g := (mkF m 174 #[.val (.int p1), .val (.long q2), .second, .val (.long q3), .second, .val (.ref b1), .val (.ref b6), .val (.ref b19), .val (.int (0 : Int32)), .val (.ref b19), .val (.ref b6), .val (.int (1 : Int32)), .val (.int (1 : Int32)), .val (.int (1 : Int32)), .unset] [(.ref b1)])) rfl (by rw [hml]; rfl) (Steps.refl _) (argsL := []) (rest := []) (lenOf own_pd4 rfl) rfl (by show 2 * 0 + _ ≤ _; exact Nat.le_of_eq rfl) (hb hby at_174) (fun _ _ => ⟨rfl, rfl, (by decide : 3 + 0 ≤ _), (by decide : 39 + 0 ≤ _)⟩)
    dsimp only [Pt.U, Pt.locs, Pt.cells, Pt.slots] at X107 l107 y107 z107 st107 hQ107
    subst l107 y107 z107
    obtain ⟨rfl, Nq107, eq107⟩ := hQ107
    have N107 := Fr.app N102 Nq107
    have R107 : ∀ t, Steps p.tables e below (T107.setTop (mkF m 177 #[.val (.int p1), .val (.long q2), .second, .val (.long q3), .second, .val (.ref b1), .val (.ref b6), .val (.ref b19), .val (.int (0 : Int32)), .val (.ref b19), .val (.ref b6), .val (.int (1 : Int32)), .val (.int (1 : Int32)), .val (.int (1 : Int32)), .unset] [(.ref b19)])) t → Steps p.tables e below (s₁.setTop (entryFrame m #[(.int p1), (.long q2), (.long q3)] maxLocals)) t := fun t k => R106 t (st107.trans k)
    have R108 : ∀ t, Steps p.tables e below (T107.setTop (mkF m 214 #[.val (.int p1), .val (.long q2), .second, .val (.long q3), .second, .val (.ref b1), .val (.ref b6), .val (.ref b19), .val (.int (0 : Int32)), .val (.ref b19), .val (.ref b6), .val (.int (1 : Int32)), .val (.int (1 : Int32)), .val (.int (1 : Int32)), .val (.int (1 : Int32))] [(.int (1 : Int32))])) t → Steps p.tables e below (s₁.setTop (entryFrame m #[(.int p1), (.long q2), (.long q3)] maxLocals)) t := by
      intro t k
      refine R107 t ?_
      show Steps p.tables e below (T107.setTop (mkF m 177 #[.val (.int p1), .val (.long q2), .second, .val (.long q3), .second, .val (.ref b1), .val (.ref b6), .val (.ref b19), .val (.int (0 : Int32)), .val (.ref b19), .val (.ref b6), .val (.int (1 : Int32)), .val (.int (1 : Int32)), .val (.int (1 : Int32)), .unset] [(.ref b19)])) _
      refine XS.aload X107.here hx rfl (hb hby at_177) rfl rfl ?_
      show Steps p.tables e below (T107.setTop (mkF m 179 #[.val (.int p1), .val (.long q2), .second, .val (.long q3), .second, .val (.ref b1), .val (.ref b6), .val (.ref b19), .val (.int (0 : Int32)), .val (.ref b19), .val (.ref b6), .val (.int (1 : Int32)), .val (.int (1 : Int32)), .val (.int (1 : Int32)), .unset] [(.ref b19), (.ref b19)])) _
      refine Jvm.RoadKit.acmp (g := (mkF m 179 #[.val (.int p1), .val (.long q2), .second, .val (.long q3), .second, .val (.ref b1), .val (.ref b6), .val (.ref b19), .val (.int (0 : Int32)), .val (.ref b19), .val (.ref b6), .val (.int (1 : Int32)), .val (.int (1 : Int32)), .val (.int (1 : Int32)), .unset] [(.ref b19), (.ref b19)])) X107 hx rfl rfl rfl (pc0 := 179) (pc' := 182) (same := true) rfl (hb hby at_179) rfl (decide_eq_true rfl) (by decide) (by decide) ?_
      show Steps p.tables e below (T107.setTop (mkF m 182 #[.val (.int p1), .val (.long q2), .second, .val (.long q3), .second, .val (.ref b1), .val (.ref b6), .val (.ref b19), .val (.int (0 : Int32)), .val (.ref b19), .val (.ref b6), .val (.int (1 : Int32)), .val (.int (1 : Int32)), .val (.int (1 : Int32)), .unset] [])) _
      refine XS.iconst X107.here hx rfl (hb hby at_182) ?_
      show Steps p.tables e below (T107.setTop (mkF m 183 #[.val (.int p1), .val (.long q2), .second, .val (.long q3), .second, .val (.ref b1), .val (.ref b6), .val (.ref b19), .val (.int (0 : Int32)), .val (.ref b19), .val (.ref b6), .val (.int (1 : Int32)), .val (.int (1 : Int32)), .val (.int (1 : Int32)), .unset] [(.int (1 : Int32))])) _
      refine XS.goto X107.here hx rfl (pc0 := 183) (pc' := 187) rfl (hb hby at_183) (by decide) (by decide) ?_
      show Steps p.tables e below (T107.setTop (mkF m 187 #[.val (.int p1), .val (.long q2), .second, .val (.long q3), .second, .val (.ref b1), .val (.ref b6), .val (.ref b19), .val (.int (0 : Int32)), .val (.ref b19), .val (.ref b6), .val (.int (1 : Int32)), .val (.int (1 : Int32)), .val (.int (1 : Int32)), .unset] [(.int (1 : Int32))])) _
      refine XS.istore X107.here hx rfl (hb hby at_187) rfl (l' := #[.val (.int p1), .val (.long q2), .second, .val (.long q3), .second, .val (.ref b1), .val (.ref b6), .val (.ref b19), .val (.int (0 : Int32)), .val (.ref b19), .val (.ref b6), .val (.int (1 : Int32)), .val (.int (1 : Int32)), .val (.int (1 : Int32)), .val (.int (1 : Int32))]) rfl ?_
      show Steps p.tables e below (T107.setTop (mkF m 189 #[.val (.int p1), .val (.long q2), .second, .val (.long q3), .second, .val (.ref b1), .val (.ref b6), .val (.ref b19), .val (.int (0 : Int32)), .val (.ref b19), .val (.ref b6), .val (.int (1 : Int32)), .val (.int (1 : Int32)), .val (.int (1 : Int32)), .val (.int (1 : Int32))] [])) _
      refine XS.iload X107.here hx rfl (hb hby at_189) rfl ?_
      show Steps p.tables e below (T107.setTop (mkF m 191 #[.val (.int p1), .val (.long q2), .second, .val (.long q3), .second, .val (.ref b1), .val (.ref b6), .val (.ref b19), .val (.int (0 : Int32)), .val (.ref b19), .val (.ref b6), .val (.int (1 : Int32)), .val (.int (1 : Int32)), .val (.int (1 : Int32)), .val (.int (1 : Int32))] [(.int (1 : Int32))])) _
      refine XS.ifNo X107.here hx rfl (hb hby at_191) rfl ((if0 _ _).trans (feq (by decide : ¬ ((1 : Int32) = (0 : Int32)))).1) ?_
      show Steps p.tables e below (T107.setTop (mkF m 194 #[.val (.int p1), .val (.long q2), .second, .val (.long q3), .second, .val (.ref b1), .val (.ref b6), .val (.ref b19), .val (.int (0 : Int32)), .val (.ref b19), .val (.ref b6), .val (.int (1 : Int32)), .val (.int (1 : Int32)), .val (.int (1 : Int32)), .val (.int (1 : Int32))] [])) _
      refine XS.iload X107.here hx rfl (hb hby at_194) rfl ?_
      show Steps p.tables e below (T107.setTop (mkF m 196 #[.val (.int p1), .val (.long q2), .second, .val (.long q3), .second, .val (.ref b1), .val (.ref b6), .val (.ref b19), .val (.int (0 : Int32)), .val (.ref b19), .val (.ref b6), .val (.int (1 : Int32)), .val (.int (1 : Int32)), .val (.int (1 : Int32)), .val (.int (1 : Int32))] [(.int (1 : Int32))])) _
      refine XS.ifNo X107.here hx rfl (hb hby at_196) rfl ((if0 _ _).trans (feq (by decide : ¬ ((1 : Int32) = (0 : Int32)))).1) ?_
      show Steps p.tables e below (T107.setTop (mkF m 199 #[.val (.int p1), .val (.long q2), .second, .val (.long q3), .second, .val (.ref b1), .val (.ref b6), .val (.ref b19), .val (.int (0 : Int32)), .val (.ref b19), .val (.ref b6), .val (.int (1 : Int32)), .val (.int (1 : Int32)), .val (.int (1 : Int32)), .val (.int (1 : Int32))] [])) _
      refine XS.iload X107.here hx rfl (hb hby at_199) rfl ?_
      show Steps p.tables e below (T107.setTop (mkF m 201 #[.val (.int p1), .val (.long q2), .second, .val (.long q3), .second, .val (.ref b1), .val (.ref b6), .val (.ref b19), .val (.int (0 : Int32)), .val (.ref b19), .val (.ref b6), .val (.int (1 : Int32)), .val (.int (1 : Int32)), .val (.int (1 : Int32)), .val (.int (1 : Int32))] [(.int (1 : Int32))])) _
      refine XS.ifNo X107.here hx rfl (hb hby at_201) rfl ((if0 _ _).trans (feq (by decide : ¬ ((1 : Int32) = (0 : Int32)))).1) ?_
      show Steps p.tables e below (T107.setTop (mkF m 204 #[.val (.int p1), .val (.long q2), .second, .val (.long q3), .second, .val (.ref b1), .val (.ref b6), .val (.ref b19), .val (.int (0 : Int32)), .val (.ref b19), .val (.ref b6), .val (.int (1 : Int32)), .val (.int (1 : Int32)), .val (.int (1 : Int32)), .val (.int (1 : Int32))] [])) _
      refine XS.iload X107.here hx rfl (hb hby at_204) rfl ?_
      show Steps p.tables e below (T107.setTop (mkF m 206 #[.val (.int p1), .val (.long q2), .second, .val (.long q3), .second, .val (.ref b1), .val (.ref b6), .val (.ref b19), .val (.int (0 : Int32)), .val (.ref b19), .val (.ref b6), .val (.int (1 : Int32)), .val (.int (1 : Int32)), .val (.int (1 : Int32)), .val (.int (1 : Int32))] [(.int (1 : Int32))])) _
      refine XS.ifNo X107.here hx rfl (hb hby at_206) rfl ((if0 _ _).trans (feq (by decide : ¬ ((1 : Int32) = (0 : Int32)))).1) ?_
      show Steps p.tables e below (T107.setTop (mkF m 209 #[.val (.int p1), .val (.long q2), .second, .val (.long q3), .second, .val (.ref b1), .val (.ref b6), .val (.ref b19), .val (.int (0 : Int32)), .val (.ref b19), .val (.ref b6), .val (.int (1 : Int32)), .val (.int (1 : Int32)), .val (.int (1 : Int32)), .val (.int (1 : Int32))] [])) _
      refine XS.iconst X107.here hx rfl (hb hby at_209) ?_
      show Steps p.tables e below (T107.setTop (mkF m 210 #[.val (.int p1), .val (.long q2), .second, .val (.long q3), .second, .val (.ref b1), .val (.ref b6), .val (.ref b19), .val (.int (0 : Int32)), .val (.ref b19), .val (.ref b6), .val (.int (1 : Int32)), .val (.int (1 : Int32)), .val (.int (1 : Int32)), .val (.int (1 : Int32))] [(.int (1 : Int32))])) _
      refine XS.goto X107.here hx rfl (pc0 := 210) (pc' := 214) rfl (hb hby at_210) (by decide) (by decide) ?_
      exact k
    obtain ⟨fs, hr, hrun, hended, hW, hsame⟩ := X107.leave (v := some (.int (1 : Int32))) (fun h => by rw [Bd.returns] at h; cases h)
    refine ⟨_, _, R108 _ ?_, hrun, hended, _, _, rfl, ?_, ⟨_, rfl⟩, hW, hsame.mono (by decide) (by decide)⟩
    · exact retN X107 hx (t := .boolean) Bd.returns (by simp) (hb hby at_214) hr
    · show Q_rm0 Z p1 q2 q3 h0 n0 _ T107.heap _
      rw [eq107]
      exact ⟨rfl, N107⟩
set_option maxRecDepth 65536 in
set_option maxHeartbeats 40000000 in
theorem comes_1 {Post : Tables → Env → Array Value → State → Outcome → State → Prop} (hpost : ∀ tb e args s v u, (limb_1_1.after args s (.returned v) u = true ∧ limb_1_2.after args s (.returned v) u = true ∧ True) → FrameEnd s (.returned v) u (Jvm.fieldLocs frame_1_writes args s ++ Jvm.arrayLocs frame_1_arrays args s ++ Jvm.staticLocs frame_1_statics s) 16 192 → Post tb e args s (.returned v) u) :
    ArmFor flags0 classFile x code maxLocals ret World_1 tables_1 room_1 Calls_1 rest_1 Pre_1 Post := by
  intro l hfl _ _ p e ha hc hk s m args below hf hA hF happ hP
  obtain ⟨hcalls, hrest, hpre⟩ := hP
  obtain ⟨-, -, -, hnamed, -, -, -, hat⟩ := (Spec.applies_iff hf).mp happ
  obtain ⟨hg, hn⟩ := and_e (Cond.before_iff.mp (show (Jvm.Cond.and given_1 narrow_1).before args s = true from hpre))
  obtain ⟨g1, g2⟩ := and_e hg
  obtain ⟨g3, g4⟩ := and_e g2
  obtain ⟨g5, g6⟩ := and_e g4
  obtain ⟨w0, w1, w2, rfl⟩ : ∃ w0 w1 w2 : Value, args = #[w0, w1, w2] := by
    have hs : args.size = 3 := by simpa [Cond.value, given_1] using g1
    obtain ⟨L⟩ := args
    match L, hs with
    | [w0, w1, w2], _ => exact ⟨w0, w1, w2, rfl⟩
  have hw := fun d (hd : d ∈ tables_1) => atoms_spec (ws := Jvm.Cond.code x code maxLocals ret :: tables_1) hat d (List.mem_cons_of_mem _ hd)
  have hfit : Fit s := fun {y c} hc i hi => by
    obtain ⟨ha, rfl⟩ := Array.getElem?_eq_some_iff.mp hc
    have q := List.all_eq_true.mp ((Array.all_eq_true_iff_forall_mem.mp hF) _ (Array.getElem_mem ha)) i (List.mem_range.mpr hi)
    simpa [Array.getElem?_eq_getElem hi] using q
  obtain ⟨i0, ei0⟩ := is_v g3
  obtain rfl : w0 = (.int i0) := Option.some.inj ei0
  obtain ⟨i1, ei1⟩ := isL_v g5
  obtain rfl : w1 = (.long i1) := Option.some.inj ei1
  obtain ⟨i2, ei2⟩ := isL_v g6
  obtain rfl : w2 = (.long i2) := Option.some.inj ei2
  obtain ⟨n, o, h1, h2, h3, _, L, rfl, ⟨rfl, N⟩, hq⟩ := rm0 l s _ hw tables_1 i0 i1 i2  s.heap s.heap.size (Nat.le_refl _)  p e ha hc hk s m _ below hf ((Spec.applies_iff_loose hf).mp happ).1 ⟨rfl, State.Warmed39.refl s, rfl⟩ trivial
  refine ⟨n, _, h1, h2, h3, hpost _ _ _ _ _ _ ⟨Cond.after_iff.mpr rfl, Cond.after_iff.mpr (eq_i res_at (Term.int_eval (1)) rfl), trivial⟩ ⟨hq.1, hq.2.1, (hq.2.2.sift fun y hy => Or.inr (N y hy)).mono (by decide) (by decide)⟩⟩
theorem main_1_1 : Claimed_1_1 := comes_1 fun _ _ _ _ _ _ h hF => ⟨h.1, hF⟩
theorem main_1_2 : Claimed_1_2 := comes_1 fun _ _ _ _ _ _ h hF => ⟨h.2.1, hF⟩
end Jvm.Pilot.@@N@@
namespace Jvm.Pilot.@@N@@
open Jvm Jvm.ClassFile Sem Op Lib Jvm.Free Jvm.Stand Jvm.Pilot.@@N@@.Jvm.D
/-! MADE BY PROGRAM (witnessworld.py) out of the Statement's table words and the real class files: 10 classes; the members and pool entries that the words name. The judged class is class 1, her method 1. -/
namespace start1
open Jvm.ClassFile
def u (s : String) : CpInfo := .utf8 (stringToUtf16 s)
/-- a pool by its gaps: so many unusable entries, then the entry; so many at the end -/
def gap : Nat → List CpInfo → List CpInfo
  | 0, r => r
  | n + 1, r => .unusable :: gap n r
def poolList (es : List (Nat × CpInfo)) (last : Nat) : List CpInfo := es.foldr (fun e r => gap e.1 (e.2 :: r)) (gap last [])
def pool (es : List (Nat × CpInfo)) (last : Nat) : Array CpInfo := ⟨poolList es last⟩
def fileOf (pool : Array CpInfo) (this : Nat) (attrs : Array Attribute := #[]) (ms : Array MethodInfo := #[]) (fl : Nat := 33) (sup : Nat := 0) (ifs : Array Nat := #[]) (fds : Array FieldInfo := #[]) : ClassFile where
  minorVersion := 0
  majorVersion := 65
  constantPool := pool
  accessFlags := fl
  thisClass := this
  superClass := sup
  interfaces := ifs
  fields := fds
  methods := ms
  attributes := attrs
def plain (name : String) (sup : Option ClassId) : Class where
  name := name
  kind := .ordinary
  loader := none
  accessFlags := 33
  super := sup
  interfaces := #[]
  cf := none
  fields := #[]
  methods := #[]
  instanceTypes := #[]
  staticTypes := #[]
  resolved := #[]
  callSites := []
  init := .initialized
  statics := none
  mirror := none

def pool0 : Array CpInfo := pool [(5, u "<init>"), (0, u "()V"), (1, .class_ 10), (1, u "java/lang/Object")] 113

def k0c0 : Code := { maxStack := 0, maxLocals := 1, code := object_method_1_code, exceptionTable := #[], attributes := #[] }
def k0m0 : Method := { name := "<init>", desc := "()V", sig := { parameters := [], returnType := none }, accessFlags := 1, code := some k0c0 }
/-- java/lang/Object -/
def k0 : Class := { plain "java/lang/Object" none with
  accessFlags := 33
  interfaces := #[]
  cf := some (fileOf pool0 8 #[] #[{ accessFlags := 1, nameIndex := 5, descriptorIndex := 6, attributes := #[] }] 33 0 #[] #[])
  fields := #[]
  methods := #[k0m0]
  instanceTypes := #[]
  staticTypes := #[]
  resolved := Array.replicate 124 none
  statics := none }

def pool1 : Array CpInfo := pool [(2, .class_ 4), (1, u "java/lang/Object"), (0, u "<init>"), (0, u "()V"), (0, .class_ 8), (0, u "com/example/urd/urd/time/DeadlineQueue$Bucket"), (0, .methodref 7 10), (0, .nameAndType 5 11), (0, u "(JJ)V"), (0, .methodref 13 14), (0, .class_ 15), (0, .nameAndType 16 17), (0, u "com/example/urd/urd/time/Scheduled"), (0, u "linkInto"), (0, u "(Lcom/example/urd/urd/time/DeadlineQueue$Bucket;)V"), (0, .methodref 13 19), (0, .nameAndType 20 6), (0, u "unlink"), (0, .methodref 13 22), (0, .nameAndType 23 24), (0, u "next"), (0, u "()Lcom/example/urd/urd/time/Scheduled;"), (0, .methodref 13 26), (0, .nameAndType 27 28), (0, u "isQueued"), (0, u "()Z"), (0, .methodref 7 22), (0, .class_ 31), (0, u "com/example/urd/urd/time/ScheduledUnlinkPinLaw"), (2, u "law"), (0, u "(IJJ)Z")] 7

def k1m0 : Method := { name := "<init>", desc := "()V", sig := { parameters := [], returnType := none }, accessFlags := 1, code := none }
def k1c1 : Code := { maxStack := 6, maxLocals := 15, code := code, exceptionTable := #[], attributes := #[] }
def k1m1 : Method := { name := "law", desc := "(IJJ)Z", sig := { parameters := [.int, .long, .long], returnType := some .boolean }, accessFlags := 9, code := some k1c1 }
/-- com/example/urd/urd/time/ScheduledUnlinkPinLaw -/
def k1 : Class := { plain "com/example/urd/urd/time/ScheduledUnlinkPinLaw" (some 0) with
  accessFlags := 49
  interfaces := #[]
  cf := some (fileOf pool1 30 #[] #[{ accessFlags := 1, nameIndex := 5, descriptorIndex := 6, attributes := #[] }, { accessFlags := 9, nameIndex := 34, descriptorIndex := 35, attributes := #[] }] 49 2 #[] #[])
  fields := #[]
  methods := #[k1m0, k1m1]
  instanceTypes := #[]
  staticTypes := #[]
  resolved := Array.replicate 43 none
  statics := none }

def pool2 : Array CpInfo := pool [(1, .methodref 2 3), (0, .class_ 4), (0, .nameAndType 5 6), (0, u "java/lang/Object"), (0, u "<init>"), (0, u "()V"), (0, .fieldref 8 9), (0, .class_ 10), (0, .nameAndType 11 12), (0, u "com/example/urd/urd/time/Scheduled"), (0, u "deadline"), (0, u "J"), (2, u "DEADLINE"), (0, u "Ljava/lang/invoke/VarHandle;"), (12, u "FILED"), (9, .fieldref 8 40), (0, .nameAndType 41 42), (0, u "bucket"), (0, u "Lcom/example/urd/urd/time/DeadlineQueue$Bucket;"), (0, .fieldref 8 44), (0, .nameAndType 45 46), (0, u "next"), (0, u "Lcom/example/urd/urd/time/Scheduled;"), (0, .fieldref 8 48), (0, .nameAndType 49 46), (0, u "previous"), (20, u "filed"), (7, u "(J)V"), (3, u "()Z"), (2, u "isQueued"), (2, u "()Lcom/example/urd/urd/time/Scheduled;"), (0, u "startRing"), (0, u "linkInto"), (0, u "(Lcom/example/urd/urd/time/DeadlineQueue$Bucket;)V"), (0, u "unlink")] 10

def k2c0 : Code := { maxStack := 3, maxLocals := 3, code := prog_28_method_1_code, exceptionTable := #[], attributes := #[] }
def k2m0 : Method := { name := "<init>", desc := "(J)V", sig := { parameters := [.long], returnType := none }, accessFlags := 4, code := some k2c0 }
def k2c1 : Code := { maxStack := 1, maxLocals := 1, code := prog_28_method_7_code, exceptionTable := #[], attributes := #[] }
def k2m1 : Method := { name := "isQueued", desc := "()Z", sig := { parameters := [], returnType := some .boolean }, accessFlags := 16, code := some k2c1 }
def k2c2 : Code := { maxStack := 1, maxLocals := 1, code := prog_28_method_9_code, exceptionTable := #[], attributes := #[] }
def k2m2 : Method := { name := "next", desc := "()Lcom/example/urd/urd/time/Scheduled;", sig := { parameters := [], returnType := some (.object "com/example/urd/urd/time/Scheduled") }, accessFlags := 16, code := some k2c2 }
def k2c3 : Code := { maxStack := 2, maxLocals := 1, code := prog_28_method_10_code, exceptionTable := #[], attributes := #[] }
def k2m3 : Method := { name := "startRing", desc := "()V", sig := { parameters := [], returnType := none }, accessFlags := 16, code := some k2c3 }
def k2c4 : Code := { maxStack := 2, maxLocals := 3, code := prog_28_method_11_code, exceptionTable := #[], attributes := #[] }
def k2m4 : Method := { name := "linkInto", desc := "(Lcom/example/urd/urd/time/DeadlineQueue$Bucket;)V", sig := { parameters := [(.object "com/example/urd/urd/time/DeadlineQueue$Bucket")], returnType := none }, accessFlags := 16, code := some k2c4 }
def k2c5 : Code := { maxStack := 2, maxLocals := 1, code := prog_28_method_12_code, exceptionTable := #[], attributes := #[] }
def k2m5 : Method := { name := "unlink", desc := "()V", sig := { parameters := [], returnType := none }, accessFlags := 16, code := some k2c5 }
/-- com/example/urd/urd/time/Scheduled -/
def k2 : Class := { plain "com/example/urd/urd/time/Scheduled" (some 0) with
  accessFlags := 1057
  interfaces := #[]
  cf := some (fileOf pool2 8 #[] #[{ accessFlags := 4, nameIndex := 5, descriptorIndex := 78, attributes := #[] }, { accessFlags := 16, nameIndex := 85, descriptorIndex := 82, attributes := #[] }, { accessFlags := 16, nameIndex := 45, descriptorIndex := 88, attributes := #[] }, { accessFlags := 16, nameIndex := 89, descriptorIndex := 6, attributes := #[] }, { accessFlags := 16, nameIndex := 90, descriptorIndex := 91, attributes := #[] }, { accessFlags := 16, nameIndex := 92, descriptorIndex := 6, attributes := #[] }] 1057 2 #[] #[{ accessFlags := 26, nameIndex := 15, descriptorIndex := 16, attributes := #[] }, { accessFlags := 26, nameIndex := 29, descriptorIndex := 16, attributes := #[] }, { accessFlags := 2, nameIndex := 11, descriptorIndex := 12, attributes := #[] }, { accessFlags := 2, nameIndex := 70, descriptorIndex := 12, attributes := #[] }, { accessFlags := 2, nameIndex := 49, descriptorIndex := 46, attributes := #[] }, { accessFlags := 2, nameIndex := 45, descriptorIndex := 46, attributes := #[] }, { accessFlags := 2, nameIndex := 41, descriptorIndex := 42, attributes := #[] }])
  fields := #[{ name := "DEADLINE", type := (.object "java/lang/invoke/VarHandle"), accessFlags := 26, slot := 0, constantValue := 0 }, { name := "FILED", type := (.object "java/lang/invoke/VarHandle"), accessFlags := 26, slot := 1, constantValue := 0 }, { name := "deadline", type := .long, accessFlags := 2, slot := 0, constantValue := 0 }, { name := "filed", type := .long, accessFlags := 2, slot := 1, constantValue := 0 }, { name := "previous", type := (.object "com/example/urd/urd/time/Scheduled"), accessFlags := 2, slot := 2, constantValue := 0 }, { name := "next", type := (.object "com/example/urd/urd/time/Scheduled"), accessFlags := 2, slot := 3, constantValue := 0 }, { name := "bucket", type := (.object "com/example/urd/urd/time/DeadlineQueue$Bucket"), accessFlags := 2, slot := 4, constantValue := 0 }]
  methods := #[k2m0, k2m1, k2m2, k2m3, k2m4, k2m5]
  instanceTypes := #[.long, .long, (.object "com/example/urd/urd/time/Scheduled"), (.object "com/example/urd/urd/time/Scheduled"), (.object "com/example/urd/urd/time/DeadlineQueue$Bucket")]
  staticTypes := #[(.object "java/lang/invoke/VarHandle"), (.object "java/lang/invoke/VarHandle")]
  resolved := Array.replicate 103 none
  statics := none }

def pool3 : Array CpInfo := pool [(1, .methodref 2 3), (0, .class_ 4), (0, .nameAndType 5 6), (0, u "com/example/urd/urd/time/Scheduled"), (0, u "<init>"), (0, u "(J)V"), (2, .long 9223372036854775807), (1, .fieldref 12 13), (0, .class_ 14), (0, .nameAndType 15 16), (0, u "com/example/urd/urd/time/DeadlineQueue$Bucket"), (0, u "least"), (0, u "J"), (0, .long 9223372036854775808), (1, .fieldref 12 20), (0, .nameAndType 21 16), (0, u "greatest"), (0, .fieldref 12 23), (0, .nameAndType 24 16), (0, u "start"), (0, .fieldref 12 26), (0, .nameAndType 27 16), (0, u "last"), (0, .methodref 12 29), (0, .nameAndType 30 31), (0, u "startRing"), (0, u "()V"), (6, u "size"), (14, u "preceding"), (0, u "Lcom/example/urd/urd/time/DeadlineQueue$Bucket;"), (2, u "following"), (0, u "scanned"), (0, u "Z"), (0, u "(JJ)V"), (15, .class_ 77), (0, u "com/example/urd/urd/time/DeadlineQueue")] 2

def k3c0 : Code := { maxStack := 3, maxLocals := 5, code := prog_27_method_1_code, exceptionTable := #[], attributes := #[] }
def k3m0 : Method := { name := "<init>", desc := "(JJ)V", sig := { parameters := [.long, .long], returnType := none }, accessFlags := 0, code := some k3c0 }
/-- com/example/urd/urd/time/DeadlineQueue$Bucket -/
def k3 : Class := { plain "com/example/urd/urd/time/DeadlineQueue$Bucket" (some 2) with
  accessFlags := 48
  interfaces := #[]
  cf := some (fileOf pool3 12 #[.nestHost 76] #[{ accessFlags := 0, nameIndex := 5, descriptorIndex := 60, attributes := #[] }] 48 2 #[] #[{ accessFlags := 18, nameIndex := 24, descriptorIndex := 16, attributes := #[] }, { accessFlags := 2, nameIndex := 27, descriptorIndex := 16, attributes := #[] }, { accessFlags := 2, nameIndex := 15, descriptorIndex := 16, attributes := #[] }, { accessFlags := 2, nameIndex := 21, descriptorIndex := 16, attributes := #[] }, { accessFlags := 2, nameIndex := 38, descriptorIndex := 16, attributes := #[] }, { accessFlags := 2, nameIndex := 58, descriptorIndex := 59, attributes := #[] }, { accessFlags := 2, nameIndex := 53, descriptorIndex := 54, attributes := #[] }, { accessFlags := 2, nameIndex := 57, descriptorIndex := 54, attributes := #[] }])
  fields := #[{ name := "start", type := .long, accessFlags := 18, slot := 5, constantValue := 0 }, { name := "last", type := .long, accessFlags := 2, slot := 6, constantValue := 0 }, { name := "least", type := .long, accessFlags := 2, slot := 7, constantValue := 0 }, { name := "greatest", type := .long, accessFlags := 2, slot := 8, constantValue := 0 }, { name := "size", type := .long, accessFlags := 2, slot := 9, constantValue := 0 }, { name := "scanned", type := .boolean, accessFlags := 2, slot := 10, constantValue := 0 }, { name := "preceding", type := (.object "com/example/urd/urd/time/DeadlineQueue$Bucket"), accessFlags := 2, slot := 11, constantValue := 0 }, { name := "following", type := (.object "com/example/urd/urd/time/DeadlineQueue$Bucket"), accessFlags := 2, slot := 12, constantValue := 0 }]
  methods := #[k3m0]
  instanceTypes := #[.long, .long, (.object "com/example/urd/urd/time/Scheduled"), (.object "com/example/urd/urd/time/Scheduled"), (.object "com/example/urd/urd/time/DeadlineQueue$Bucket"), .long, .long, .long, .long, .long, .boolean, (.object "com/example/urd/urd/time/DeadlineQueue$Bucket"), (.object "com/example/urd/urd/time/DeadlineQueue$Bucket")]
  staticTypes := #[]
  resolved := Array.replicate 80 none
  statics := none }

def pool4 : Array CpInfo := pool [(1, u "java/lang/Cloneable"), (0, .class_ 1), (0, u "java/lang/Object"), (0, .class_ 3)] 3

/-- java/lang/Cloneable -/
def k4 : Class := { plain "java/lang/Cloneable" (some 0) with
  accessFlags := 1537
  interfaces := #[]
  cf := some (fileOf pool4 2 #[] #[] 1537 4 #[] #[])
  fields := #[]
  methods := #[]
  instanceTypes := #[]
  staticTypes := #[]
  resolved := Array.replicate 8 none
  statics := none }

def pool5 : Array CpInfo := pool [(1, u "java/io/Serializable"), (0, .class_ 1), (0, u "java/lang/Object"), (0, .class_ 3)] 3

/-- java/io/Serializable -/
def k5 : Class := { plain "java/io/Serializable" (some 0) with
  accessFlags := 1537
  interfaces := #[]
  cf := some (fileOf pool5 2 #[] #[] 1537 4 #[] #[])
  fields := #[]
  methods := #[]
  instanceTypes := #[]
  staticTypes := #[]
  resolved := Array.replicate 8 none
  statics := none }

/-- the primitive byte -/
def k6 : Class := { plain "byte" none with kind := .primitive 'B', accessFlags := 0x411 }
/-- [B -/
def k7 : Class := { plain "[B" (some 0) with kind := .array 6 .byte, interfaces := #[4, 5], accessFlags := 1041 }

/-- the primitive int -/
def k8 : Class := { plain "int" none with kind := .primitive 'I', accessFlags := 0x411 }
/-- [I -/
def k9 : Class := { plain "[I" (some 0) with kind := .array 8 .int, interfaces := #[4, 5], accessFlags := 1041 }

def heap : Heap := #[]
def classes : Array Class := #[k0, k1, k2, k3, k4, k5, k6, k7, k8, k9]
def interned : List (Array UInt16 × Addr) := []
def slotsUsed : Nat := 0
def theMethod : MethodId := ⟨1, 1⟩
def args0 : Array Value := #[.int 3, .long 120, .long 1]
def aboutOver (below : List Frame) : State where
  vm := { classes := classes, interned := interned.toArray }
  heap := heap
  slotsUsed := slotsUsed
  threads := #[{ frames := .invoking theMethod args0 :: below }]
def below0 : List Frame := [.native { method := ⟨0, 0⟩, args := #[] }]
def about1 : State := aboutOver below0
def p0 : Program := .bare "" "" ""
def e0 : Env := launch0.env 0 0 0
theorem w_frames : about1.frames = Frame.invoking theMethod args0 :: below0 := rfl
set_option maxRecDepth 65536 in
theorem w_args : argsFit about1.vm theMethod args0 = true := by decide +kernel
set_option maxRecDepth 65536 in
theorem w_heap : heapFits about1 = true := by decide +kernel
set_option maxRecDepth 65536 in
theorem w_runnable : about1.curStatus? = some .runnable := by decide +kernel
set_option maxRecDepth 65536 in
theorem w_alone : about1.alone = true := by decide +kernel
set_option maxRecDepth 65536 in
theorem w_named : about1.methodNamed? x = some theMethod := by decide +kernel
set_option maxRecDepth 65536 in
theorem w_hears : about1.hears theMethod below0 = true := by decide +kernel
set_option maxRecDepth 65536 in
theorem w_ripe : about1.ripe theMethod args0 below0 = true := by decide +kernel
theorem w_running : about1.status = .running := rfl
set_option maxRecDepth 65536 in
theorem w_room : about1.hasRoom e0.platform room_1 = true :=
  launch0.hasRoom_least _ room_1 (by decide +kernel) (by decide +kernel) (by decide +kernel) (by decide +kernel) (by decide +kernel) (by decide +kernel)
theorem allAtoms_all (ts : List Jvm.Cond) (a : Array Jvm.Value) (st : Jvm.State) : (allAtoms ts).before a st = ts.all (fun c => c.before a st) := by
  induction ts with
  | nil => rfl
  | cons c t ih =>
    show (Jvm.Cond.and c (allAtoms t)).before a st = _
    rw [Jvm.Cond.before_and, ih, List.all_cons]
def words1 : List Jvm.Cond := Jvm.Cond.code x code maxLocals ret :: tables_1
/-- a 'code' word, met by the world's own term for the bytes: nothing is compared byte by byte -/
theorem code_word {y : MethodName} {bytes : ByteArray} {mx : Nat} {rt : Option FieldType} {a : Array Value} {s : State} {m : MethodId} {meth : Method} {c : Code} (h1 : s.methodNamed? y = some m) (h2 : s.vm.method? m = some meth) (h3 : meth.code = some c) (h4 : c.code = bytes)
    (h5 : (c.maxLocals == mx && c.exceptionTable.isEmpty && decide (c.maxStack ≤ mostOperands) && decide (meth.sig.returnType = rt) && !meth.locks && decide (parseMethodDescriptor y.desc = some meth.sig)) = true) : (Jvm.Cond.code y bytes mx rt).before a s = true := by
  simp only [Bool.and_eq_true, beq_iff_eq, Bool.not_eq_true', decide_eq_true_eq] at h5
  obtain ⟨⟨⟨⟨⟨g1, g2⟩, g3⟩, g4⟩, g5⟩, g6⟩ := h5
  simp [Cond.before, Cond.holds, Cond.value, h1, h2, h3, h4, g1, g2, g3, g4, g5, g6]
def isCode : Jvm.Cond → Bool
  | .code _ _ _ _ => true
  | _ => false
theorem all_split {L : List Jvm.Cond} {P : Jvm.Cond → Bool} (h1 : L.all (fun c => isCode c || P c) = true) (h2 : ∀ c ∈ L.filter isCode, P c = true) : L.all P = true := by
  refine List.all_eq_true.mpr fun c hc => ?_
  have h := List.all_eq_true.mp h1 c hc
  rcases Bool.eq_false_or_eq_true (isCode c) with hi | hi
  · exact h2 c (List.mem_filter.mpr ⟨hc, hi⟩)
  · simpa [hi] using h
set_option maxRecDepth 65536 in
theorem w_c0 : (Jvm.Cond.code x code maxLocals ret).before args0 about1 = true := code_word (m := ⟨1, 1⟩) (meth := k1m1) (c := k1c1) (by decide +kernel) rfl rfl rfl (by decide +kernel)
set_option maxRecDepth 65536 in
theorem w_c1 : (Jvm.Cond.code ({ cls := "com/example/urd/urd/time/DeadlineQueue$Bucket", name := "<init>", desc := "(JJ)V" } : Jvm.MethodName) prog_27_method_1_code (5 : Nat) (Option.none : Option Jvm.ClassFile.FieldType)).before args0 about1 = true := code_word (m := ⟨3, 0⟩) (meth := k3m0) (c := k3c0) (by decide +kernel) rfl rfl rfl (by decide +kernel)
set_option maxRecDepth 65536 in
theorem w_c2 : (Jvm.Cond.code ({ cls := "com/example/urd/urd/time/Scheduled", name := "<init>", desc := "(J)V" } : Jvm.MethodName) prog_28_method_1_code (3 : Nat) (Option.none : Option Jvm.ClassFile.FieldType)).before args0 about1 = true := code_word (m := ⟨2, 0⟩) (meth := k2m0) (c := k2c0) (by decide +kernel) rfl rfl rfl (by decide +kernel)
set_option maxRecDepth 65536 in
theorem w_c3 : (Jvm.Cond.code ({ cls := "java/lang/Object", name := "<init>", desc := "()V" } : Jvm.MethodName) object_method_1_code (1 : Nat) (Option.none : Option Jvm.ClassFile.FieldType)).before args0 about1 = true := code_word (m := ⟨0, 0⟩) (meth := k0m0) (c := k0c0) (by decide +kernel) rfl rfl rfl (by decide +kernel)
set_option maxRecDepth 65536 in
theorem w_c4 : (Jvm.Cond.code ({ cls := "com/example/urd/urd/time/Scheduled", name := "startRing", desc := "()V" } : Jvm.MethodName) prog_28_method_10_code (1 : Nat) (Option.none : Option Jvm.ClassFile.FieldType)).before args0 about1 = true := code_word (m := ⟨2, 3⟩) (meth := k2m3) (c := k2c3) (by decide +kernel) rfl rfl rfl (by decide +kernel)
set_option maxRecDepth 65536 in
theorem w_c5 : (Jvm.Cond.code ({ cls := "com/example/urd/urd/time/Scheduled", name := "linkInto", desc := "(Lcom/example/urd/urd/time/DeadlineQueue$Bucket;)V" } : Jvm.MethodName) prog_28_method_11_code (3 : Nat) (Option.none : Option Jvm.ClassFile.FieldType)).before args0 about1 = true := code_word (m := ⟨2, 4⟩) (meth := k2m4) (c := k2c4) (by decide +kernel) rfl rfl rfl (by decide +kernel)
set_option maxRecDepth 65536 in
theorem w_c6 : (Jvm.Cond.code ({ cls := "com/example/urd/urd/time/Scheduled", name := "unlink", desc := "()V" } : Jvm.MethodName) prog_28_method_12_code (1 : Nat) (Option.none : Option Jvm.ClassFile.FieldType)).before args0 about1 = true := code_word (m := ⟨2, 5⟩) (meth := k2m5) (c := k2c5) (by decide +kernel) rfl rfl rfl (by decide +kernel)
set_option maxRecDepth 65536 in
theorem w_c7 : (Jvm.Cond.code ({ cls := "com/example/urd/urd/time/Scheduled", name := "next", desc := "()Lcom/example/urd/urd/time/Scheduled;" } : Jvm.MethodName) prog_28_method_9_code (1 : Nat) (Option.some (Jvm.ClassFile.FieldType.object "com/example/urd/urd/time/Scheduled"))).before args0 about1 = true := code_word (m := ⟨2, 2⟩) (meth := k2m2) (c := k2c2) (by decide +kernel) rfl rfl rfl (by decide +kernel)
set_option maxRecDepth 65536 in
theorem w_c8 : (Jvm.Cond.code ({ cls := "com/example/urd/urd/time/Scheduled", name := "isQueued", desc := "()Z" } : Jvm.MethodName) prog_28_method_7_code (1 : Nat) (Option.some Jvm.ClassFile.FieldType.boolean)).before args0 about1 = true := code_word (m := ⟨2, 1⟩) (meth := k2m1) (c := k2c1) (by decide +kernel) rfl rfl rfl (by decide +kernel)
def codes1 : List Jvm.Cond := [Jvm.Cond.code x code maxLocals ret, Jvm.Cond.code ({ cls := "com/example/urd/urd/time/DeadlineQueue$Bucket", name := "<init>", desc := "(JJ)V" } : Jvm.MethodName) prog_27_method_1_code (5 : Nat) (Option.none : Option Jvm.ClassFile.FieldType), Jvm.Cond.code ({ cls := "com/example/urd/urd/time/Scheduled", name := "<init>", desc := "(J)V" } : Jvm.MethodName) prog_28_method_1_code (3 : Nat) (Option.none : Option Jvm.ClassFile.FieldType), Jvm.Cond.code ({ cls := "java/lang/Object", name := "<init>", desc := "()V" } : Jvm.MethodName) object_method_1_code (1 : Nat) (Option.none : Option Jvm.ClassFile.FieldType), Jvm.Cond.code ({ cls := "com/example/urd/urd/time/Scheduled", name := "startRing", desc := "()V" } : Jvm.MethodName) prog_28_method_10_code (1 : Nat) (Option.none : Option Jvm.ClassFile.FieldType), Jvm.Cond.code ({ cls := "com/example/urd/urd/time/Scheduled", name := "linkInto", desc := "(Lcom/example/urd/urd/time/DeadlineQueue$Bucket;)V" } : Jvm.MethodName) prog_28_method_11_code (3 : Nat) (Option.none : Option Jvm.ClassFile.FieldType), Jvm.Cond.code ({ cls := "com/example/urd/urd/time/Scheduled", name := "unlink", desc := "()V" } : Jvm.MethodName) prog_28_method_12_code (1 : Nat) (Option.none : Option Jvm.ClassFile.FieldType), Jvm.Cond.code ({ cls := "com/example/urd/urd/time/Scheduled", name := "next", desc := "()Lcom/example/urd/urd/time/Scheduled;" } : Jvm.MethodName) prog_28_method_9_code (1 : Nat) (Option.some (Jvm.ClassFile.FieldType.object "com/example/urd/urd/time/Scheduled")), Jvm.Cond.code ({ cls := "com/example/urd/urd/time/Scheduled", name := "isQueued", desc := "()Z" } : Jvm.MethodName) prog_28_method_7_code (1 : Nat) (Option.some Jvm.ClassFile.FieldType.boolean)]
set_option maxRecDepth 65536 in
theorem codes_eq : words1.filter isCode = codes1 := rfl
theorem w_codes : ∀ c ∈ words1.filter isCode, c.before args0 about1 = true := by
  rw [codes_eq]
  intro c hc
  simp only [codes1, List.mem_cons, List.not_mem_nil, or_false] at hc
  rcases hc with rfl | rfl | rfl | rfl | rfl | rfl | rfl | rfl | rfl
  · exact w_c0
  · exact w_c1
  · exact w_c2
  · exact w_c3
  · exact w_c4
  · exact w_c5
  · exact w_c6
  · exact w_c7
  · exact w_c8
set_option maxRecDepth 65536 in
theorem w_t1 : (words1.take 24).all (fun c => isCode c || c.before args0 about1) = true := by decide +kernel
set_option maxRecDepth 65536 in
theorem w_t2 : ((words1.drop 24).take 24).all (fun c => isCode c || c.before args0 about1) = true := by decide +kernel
set_option maxRecDepth 65536 in
theorem w_t3 : ((words1.drop 24).drop 24).all (fun c => isCode c || c.before args0 about1) = true := by decide +kernel
theorem w_tables : (allAtoms (Jvm.Cond.code x code maxLocals ret :: tables_1)).before args0 about1 = true := by
  rw [allAtoms_all]
  show words1.all (fun c => c.before args0 about1) = true
  refine all_split ?_ w_codes
  rw [← List.take_append_drop 24 words1, List.all_append, w_t1, ← List.take_append_drop 24 (words1.drop 24), List.all_append, w_t2, w_t3]
  rfl
set_option maxRecDepth 65536 in
theorem w_case : (Jvm.Cond.and given_1 narrow_1).before args0 about1 = true := by decide +kernel
theorem w_applies : (headSpec (Jvm.Cond.code x code maxLocals ret :: tables_1) room_1).applies x e0.platform about1 = true :=
  (Spec.applies_iff w_frames).mpr ⟨w_running, w_runnable, w_alone, w_named, w_hears, w_ripe, w_room, w_tables⟩
theorem atStart : AtStart classFile x code maxLocals ret World_1 tables_1 room_1 Calls_1 rest_1 Pre_1 launch0 p0 e0 about1 theMethod args0 below0 :=
  ⟨lists_1, trivial, launch0.admits_env _ _ _, launch0.least_env, fairChoices_fair.cas, fairChoices_fair.clock, w_frames, w_args, w_heap, w_applies, trivial, trivial, w_case⟩
end start1
theorem witness_1 : WitnessClaimed_1 := ⟨start1.p0, start1.e0, start1.about1, start1.theMethod, start1.args0, start1.below0, start1.atStart⟩
end Jvm.Pilot.@@N@@
