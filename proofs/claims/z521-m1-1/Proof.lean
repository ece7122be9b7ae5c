import JvmDerived
import JvmDerived.Pilot.@@N@@Statement
import JvmDerived.Pilot.@@N@@Code
set_option linter.unusedVariables false
set_option linter.unusedSimpArgs false
namespace Jvm.Pilot.@@N@@
open Jvm Jvm.ClassFile Sem Op Lib Jvm.Free Jvm.Stand Jvm.LawKit Jvm.RoadKit Bundle Jvm.Pilot.@@N@@.Jvm.D
section OwnFP
open Jvm.FP Jvm.FP.Core
/-- a finite double of the sign + -/
def own_P (b : UInt64) : Prop := ∃ c q, val64 b = .fin false c q
/-- a double of the sign + that is no NaN -/
def own_N (b : UInt64) : Prop := (∃ c q, val64 b = .fin false c q) ∨ val64 b = .inf false
theorem own_Nn {b : UInt64} (h : own_N b) : val64 b ≠ .nan := by
  rcases h with ⟨c, q, e⟩ | e <;> rw [e] <;> intro z <;> cases z
theorem own_PN {b : UInt64} (h : own_P b) : own_N b := Or.inl h
def own_A (k : Nat) : UInt64 := UInt64.ofNat ((1023 + k) * 2 ^ 52)
def own_B (k : Nat) : UInt64 := UInt64.ofNat ((1023 - k) * 2 ^ 52)
theorem own_valA : ∀ k, k < 4 → val64 (own_A k) = .fin false (2 ^ 52) ((k : Int) - 52) := by decide +kernel
theorem own_valB : ∀ k, k < 4 → val64 (own_B k) = .fin false (2 ^ 52) (-52 - (k : Int)) := by decide +kernel
theorem own_inv : ∀ k, k < 4 → Core.ddiv 4607182418800017408 (own_A k) = own_B k := by decide +kernel
theorem own_zdiv : ∀ k, k < 4 → Core.ddiv 0 (own_A k) = 0 := by decide +kernel
theorem own_rr (A B : Nat) (e : Int) : (∃ c q, roundRatio b64 false A B e = .fin false c q) ∨ roundRatio b64 false A B e = .inf false := by
  unfold roundRatio roundAt settle bound
  (repeat' split) <;> first | exact Or.inl ⟨_, _, rfl⟩ | exact Or.inr rfl
theorem own_ratio {c k : Nat} {q : Int} : roundRatio b64 false (2 ^ 52 * c) 1 (-52 - (k : Int) + q) = roundRatio b64 false c (2 ^ 52) (q - ((k : Int) - 52)) := by
  refine roundRatio_congr (by decide) (Nat.two_pow_pos _) ?_
  have e1 : ((-52 - (k : Int) + q) - (q - ((k : Int) - 52))).toNat = 0 := by omega
  have e2 : ((q - ((k : Int) - 52)) - (-52 - (k : Int) + q)).toNat = 104 := by omega
  rw [e1, e2]
  omega
theorem own_quo {c k : Nat} {q : Int} : quotient b64 (.fin false c q) (.fin false (2 ^ 52) ((k : Int) - 52)) = roundRatio b64 false c (2 ^ 52) (q - ((k : Int) - 52)) := by
  show (if (2 ^ 52 : Nat) = 0 then (if c = 0 then Datum.nan else Datum.inf (false != false)) else roundRatio b64 (false != false) c (2 ^ 52) (q - ((k : Int) - 52))) = _
  rw [if_neg (by decide)]; rfl
theorem own_divN {b : UInt64} (h : own_P b) {k : Nat} (hk : k < 4) : own_N (Core.ddiv b (own_A k)) := by
  obtain ⟨c, q, e⟩ := h
  unfold own_N
  rw [val64_ddiv, own_valA k hk, e, own_quo]
  exact own_rr _ _ _
theorem own_mulinv {b : UInt64} (h : own_P b) {k : Nat} (hk : k < 4) : Core.dmul (own_B k) b = Core.ddiv b (own_A k) := by
  have hN := own_Nn (own_divN h hk)
  refine (val64_inj hN ?_).symm
  obtain ⟨c, q, e⟩ := h
  rw [val64_dmul, val64_ddiv, own_valB k hk, own_valA k hk, e, own_quo]
  exact own_ratio.symm
theorem own_i2d {x : Int32} (h : 0 ≤ x.toInt) : own_P (Core.i2d x) := by
  have w := i2d_int x
  unfold DInt at w
  cases hd : val64 (Core.i2d x) with
  | nan => rw [hd] at w; exact absurd w (by intro z; exact z)
  | inf s => rw [hd] at w; exact absurd w (by intro z; exact z)
  | fin s c q =>
    by_cases hz : x.toInt = 0
    · have hx : x = 0 := by rw [← Int32.toInt_inj, hz]; decide
      subst hx
      exact ⟨0, b64.qmin, by decide +kernel⟩
    · rw [hd] at w
      have hs := whole_sign w hz
      refine ⟨c, q, ?_⟩
      rw [hs] at hd
      rw [hd, decide_eq_false (by omega)]
theorem own_nz {b : UInt64} (h : own_N b) : b ≠ dzeroNeg := fun q => by
  subst q
  rcases h with ⟨c, r, e⟩ | e <;> rw [val64_dzeroNeg] at e <;> cases e
theorem own_add0 {b : UInt64} (h : own_N b) : Core.dadd b 0 = b := dadd_zero (own_Nn h) (own_nz h)
theorem own_0add {b : UInt64} (h : own_N b) : Core.dadd 0 b = b := by rw [dadd_comm]; exact own_add0 h
theorem own_mul0 {b : UInt64} (h : own_P b) : Core.dmul 0 b = 0 := by
  have hz : val64 0 = .fin false 0 b64.qmin := by decide +kernel
  refine (val64_inj (by rw [hz]; intro z; cases z) ?_).symm
  obtain ⟨c, q, e⟩ := h
  rw [val64_dmul, hz, e]
  show _ = roundRatio b64 false (0 * c) 1 (b64.qmin + q)
  rw [Nat.zero_mul]; rfl
end OwnFP
/-- a small power of two -/
def own_S (a : UInt64) : Prop := ∃ k, k < 4 ∧ a = own_A k
theorem own_n0 : Jvm.Free.Fl.NoNaN64 (0 : UInt64) := by unfold Jvm.Free.Fl.NoNaN64; decide
theorem own_n1 : Jvm.Free.Fl.NoNaN64 (4607182418800017408 : UInt64) := by unfold Jvm.Free.Fl.NoNaN64; decide
theorem own_abs0 : (0 : UInt64) &&& 0x7fffffffffffffff = 0 := by decide
theorem own_00 : (cmpValue (FP.dcmp (0 : UInt64) (0 : UInt64)) .l) = (0 : Int32) := by decide +kernel
theorem own_a00 : FP.dadd (0 : UInt64) (0 : UInt64) = (0 : UInt64) := by decide +kernel
theorem own_NN {b : UInt64} (h : own_N b) : Jvm.Free.Fl.NoNaN64 b := Jvm.Free.Fl.val64_no.mpr (own_Nn h)
theorem own_N0 : own_N (0 : UInt64) := Or.inl ⟨0, Jvm.FP.Core.b64.qmin, by decide +kernel⟩
theorem own_SP {a : UInt64} (h : own_S a) : own_P a := by obtain ⟨k, hk, rfl⟩ := h; exact ⟨_, _, own_valA k hk⟩
theorem own_Sn {a : UInt64} (h : own_S a) : Jvm.Free.Fl.NoNaN64 a := own_NN (own_PN (own_SP h))
theorem own_k1 : ∀ k, k < 4 → (own_A k &&& 0x7fffffffffffffff) = own_A k := by decide +kernel
theorem own_k2 : ∀ k, k < 4 → (cmpValue (FP.dcmp (own_A k) (0 : UInt64)) .l) = (1 : Int32) := by decide +kernel
theorem own_k3 : ∀ k, k < 4 → (cmpValue (FP.dcmp (0 : UInt64) (own_A k)) .l) = (-1 : Int32) := by decide +kernel
theorem own_k4 : ∀ k, k < 4 → (cmpValue (FP.dcmp (own_A k) (4427486594234968593 : UInt64)) .g) = (1 : Int32) := by decide +kernel
theorem own_k5 : ∀ k, k < 4 → FP.ddiv (own_A k) (own_A k) = (4607182418800017408 : UInt64) := by decide +kernel
theorem own_Sabs {a : UInt64} (h : own_S a) : (a &&& 0x7fffffffffffffff) = a := by obtain ⟨k, hk, rfl⟩ := h; exact own_k1 k hk
theorem own_Sgt0 {a : UInt64} (h : own_S a) : (cmpValue (FP.dcmp a (0 : UInt64)) .l) = (1 : Int32) := by obtain ⟨k, hk, rfl⟩ := h; exact own_k2 k hk
theorem own_S0lt {a : UInt64} (h : own_S a) : (cmpValue (FP.dcmp (0 : UInt64) a) .l) = (-1 : Int32) := by obtain ⟨k, hk, rfl⟩ := h; exact own_k3 k hk
theorem own_Stol {a : UInt64} (h : own_S a) : (cmpValue (FP.dcmp a (4427486594234968593 : UInt64)) .g) = (1 : Int32) := by obtain ⟨k, hk, rfl⟩ := h; exact own_k4 k hk
theorem own_Sself {a : UInt64} (h : own_S a) : FP.ddiv a a = (4607182418800017408 : UInt64) := by obtain ⟨k, hk, rfl⟩ := h; exact own_k5 k hk
theorem own_Sz {a : UInt64} (h : own_S a) : FP.ddiv (0 : UInt64) a = (0 : UInt64) := by obtain ⟨k, hk, rfl⟩ := h; exact own_zdiv k hk
theorem own_dN {a b : UInt64} (hb : own_P b) (h : own_S a) : own_N (FP.ddiv b a) := by obtain ⟨k, hk, rfl⟩ := h; exact own_divN hb hk
theorem own_1P : own_P (4607182418800017408 : UInt64) := ⟨2 ^ 52, -52, by decide +kernel⟩
theorem own_Sinv {a : UInt64} (h : own_S a) : Jvm.Free.Fl.NoNaN64 (FP.ddiv (4607182418800017408 : UInt64) a) := own_NN (own_dN own_1P h)
theorem own_mi {a b : UInt64} (hb : own_P b) (h : own_S a) : FP.dmul (FP.ddiv (4607182418800017408 : UInt64) a) b = FP.ddiv b a := by
  obtain ⟨k, hk, rfl⟩ := h
  have e : FP.ddiv (4607182418800017408 : UInt64) (own_A k) = own_B k := own_inv k hk
  rw [e]; exact own_mulinv hb hk
theorem own_mul0' {b : UInt64} (h : own_P b) : FP.dmul (0 : UInt64) b = (0 : UInt64) := own_mul0 h
theorem own_0add' {b : UInt64} (h : own_N b) : FP.dadd (0 : UInt64) b = b := own_0add h
theorem own_add0' {b : UInt64} (h : own_N b) : FP.dadd b (0 : UInt64) = b := own_add0 h
theorem own_i2dm (p : Int32) : own_P (FP.i2d (p &&& (2147483647 : Int32))) := own_i2d (by rw [c_mask p (2147483647 : Int32) 31 (by decide) (by decide)]; omega)
theorem own_k6 : ∀ k, k < 4 → FP.i2d ((1 : Int32) <<< ((Int32.ofNat k) &&& 31)) = own_A k := by decide +kernel
theorem own_Sk (p : Int32) : own_S (FP.i2d ((1 : Int32) <<< ((p &&& (3 : Int32)) &&& 31))) := by
  have h := c_mask p (3 : Int32) 2 (by decide) (by decide)
  have e : (p &&& (3 : Int32)) = Int32.ofNat (p &&& (3 : Int32)).toInt.toNat := by
    rw [← Int32.toInt_inj, Int32.toInt_ofNat_of_lt (by omega)]; omega
  refine ⟨(p &&& (3 : Int32)).toInt.toNat, by omega, ?_⟩
  rw [← own_k6 _ (by omega), ← e]
theorem own_sgn {n : Nat} {s : Bool} (h : (∃ c q, Jvm.FP.Core.decode Jvm.FP.Core.b64 n = .fin s c q) ∨ Jvm.FP.Core.decode Jvm.FP.Core.b64 n = .inf s) : Jvm.FP.Core.fieldS Jvm.FP.Core.b64 n = s := by
  unfold Jvm.FP.Core.decode at h
  (repeat' split at h) <;> rcases h with ⟨c, q, h⟩ | h <;> cases h <;> rfl
theorem own_top {n : Nat} (h : n < 2 ^ 64) : Jvm.FP.Core.fieldS Jvm.FP.Core.b64 n = decide (2 ^ 63 ≤ n) := by
  show (n / 4503599627370496 / 2048 % 2 == 1) = _
  by_cases q : 2 ^ 63 ≤ n
  · rw [decide_eq_true q]; have : n / 4503599627370496 / 2048 % 2 = 1 := by omega
    rw [this]; rfl
  · rw [decide_eq_false q]; have : n / 4503599627370496 / 2048 % 2 = 0 := by omega
    rw [this]; rfl
theorem own_low {b : UInt64} (h : own_N b) : b.toNat < 2 ^ 63 := by
  have q := own_sgn h
  rw [own_top b.toNat_lt] at q
  exact Nat.lt_of_not_le (of_decide_eq_false q)
theorem own_negv {y : UInt64} (h : own_N y) : (∃ c q, Jvm.FP.Core.val64 (FP.dneg y) = .fin true c q) ∨ Jvm.FP.Core.val64 (FP.dneg y) = .inf true := by
  have n := Jvm.Free.Fl.val64_no.mp ((Jvm.Free.Fl.dneg_iff y).mpr (own_NN h))
  have l := own_low h
  have t : 2 ^ 63 ≤ (FP.dneg y).toNat := by
    show 2 ^ 63 ≤ (y ^^^ 0x8000000000000000).toNat
    rw [UInt64.toNat_xor]
    apply Nat.ge_two_pow_of_testBit
    show (y.toNat ^^^ 2 ^ 63).testBit 63 = true
    rw [Nat.testBit_xor, Nat.testBit_two_pow_self, Nat.testBit_lt_two_pow l]; rfl
  have u := own_top (FP.dneg y).toNat_lt
  rw [decide_eq_true t] at u
  cases e : Jvm.FP.Core.val64 (FP.dneg y) with
  | nan => exact absurd e n
  | inf s => have := own_sgn (n := (FP.dneg y).toNat) (Or.inr e); rw [u] at this; subst this; exact Or.inr rfl
  | fin s c q => have := own_sgn (n := (FP.dneg y).toNat) (Or.inl ⟨c, q, e⟩); rw [u] at this; subst this; exact Or.inl ⟨c, q, rfl⟩
theorem own_Nabs {b : UInt64} (h : own_N b) : (b &&& 0x7fffffffffffffff) = b := by
  have q := own_low h
  rw [← UInt64.toNat_inj, UInt64.toNat_and]
  show b.toNat &&& (2 ^ 63 - 1) = _
  rw [Nat.and_two_pow_sub_one_eq_mod, Nat.mod_eq_of_lt q]
theorem own_pick {a b : UInt64} (ha : own_N a) (hb : own_N b) : own_N (Jvm.Native.java_lang_Math.nans.pick64 true a b) := by rcases Jvm.Free.Fl.pick64_or true a b with h | h <;> rw [h] <;> assumption
theorem own_self {b : UInt64} (h : own_N b) : (cmpValue (FP.dcmp b b) .l) = (0 : Int32) := by
  rw [show FP.dcmp b b = some .eq from Jvm.FP.Core.dcmp_self (own_Nn h)]; rfl
theorem own_tol {b : UInt64} (h : own_N b) : own_N (FP.dmul (4427486594234968593 : UInt64) b) := by
  have ht : Jvm.FP.Core.val64 (4427486594234968593 : UInt64) = .fin false 4951760157141521 (-92) := by decide +kernel
  unfold own_N
  rw [show Jvm.FP.Core.val64 (FP.dmul (4427486594234968593 : UInt64) b) = _ from Jvm.FP.Core.val64_dmul _ _, ht]
  rcases h with ⟨c, q, e⟩ | e <;> rw [e]
  · exact own_rr _ _ _
  · exact Or.inr rfl
theorem own_sg (s : Bool) (c : Nat) : (s = false → 0 ≤ Jvm.FP.Core.signed s c) ∧ (s = true → Jvm.FP.Core.signed s c ≤ 0) := by cases s <;> simp [Jvm.FP.Core.signed] <;> omega
theorem own_nlt {x y : UInt64} (hx : own_N x) (hy : own_N y) : ¬ (cmpValue (FP.dcmp x (FP.dneg y)) .g) < (0 : Int32) := by
  have k : ∀ a b : Int, b ≤ 0 → 0 ≤ a → ¬ (cmpValue (some (compare a b)) .g) < (0 : Int32) := by
    intro a b h1 h2
    rcases Int.lt_trichotomy a b with q | q | q
    · omega
    · subst q; rw [Int.compare_eq_eq.mpr rfl]; decide
    · rw [Int.compare_eq_gt.mpr q]; decide
  show ¬ (cmpValue (Jvm.FP.Core.order (Jvm.FP.Core.val64 x) (Jvm.FP.Core.val64 (FP.dneg y))) .g) < (0 : Int32)
  rcases hx with ⟨c, q, e⟩ | e <;> rcases own_negv hy with ⟨d, r, f⟩ | f <;> rw [e, f]
  · exact k _ _ ((own_sg true _).2 rfl) ((own_sg false _).1 rfl)
  · exact k _ _ ((own_sg true _).2 rfl) (Int.le_refl _)
  · exact k _ _ (Int.le_refl _) ((own_sg false _).1 rfl)
  · exact k _ _ ((own_sg true _).2 rfl) ((own_sg false _).1 rfl)
/-- a private method is its own choice -/
theorem own_selP {Z : State} {a0 : Array Value} {y : MethodName} {n : Nat} (wn : (Cond.instantiable y.cls n).before a0 Z = true) (wi : (Cond.instanceMethod y).before a0 Z = true) (wp : (Cond.privateMethod y).before a0 Z = true) (hy : y.cls ≠ "java/lang/invoke/MethodHandle" ∧ y.cls ≠ "java/lang/invoke/VarHandle") : (Cond.selects y.cls y y).before a0 Z = true := by
  obtain ⟨c, k, h1, h2, -, h3, -⟩ := Cond.instantiable_spec wn
  exact Jvm.Stand.selects_self_of_private h1 h2 (by revert h3; cases k.isInterface <;> intro h3; rfl; exact absurd h3 (by simp)) (Cond.privateMethod_at wp) wi hy
abbrev oF (Z : State) (h : Heap) (a : Addr) (n d : String) (v : Value) : Prop := Fld Z h a "com/example/trunkwright/trunkwright/traffic/RevisedSimplex" n d v
abbrev oN (n d : String) : MethodName := ⟨"com/example/trunkwright/trunkwright/traffic/RevisedSimplex", n, d⟩
abbrev oX (x : UInt64) : Prop := Jvm.Free.Fl.NoNaN64 x
theorem oL {n : Nat} : 2 * 0 + n ≤ n := Nat.le_of_eq (Nat.zero_add n)
abbrev oI (x : Int32) : Slot := .val (.int x)
abbrev oR (x : Addr) : Slot := .val (.ref x)
abbrev oD (x : UInt64) : Slot := .val (.double x)
abbrev oZ (x y z : Value) : List Value := [x, y, z, .int 0, .int 0, .int 0, .int 0, .int 0, .int 0, .int 0, .int 0, .int 0, .int 0, .int 0, .int 0, .int 0]
abbrev oU (x y z : Value) : List Value := [x, y, z, .null, .null, .null, .null, .null, .null, .null, .null, .null, .null, .null, .null, .null]
abbrev oC (x y z : Value) : List Value := [x, y, z, .double 0, .double 0, .double 0, .double 0, .double 0, .double 0, .double 0, .double 0, .double 0, .double 0, .double 0, .double 0, .double 0]
abbrev oG (p : Program) (e : Env) (below : List Frame) (T : State) (m : MethodId) (n : Nat) (L : Array Slot) (S : List Value) (t : State) : Prop := Steps p.tables e below (T.setTop (mkF m n L S)) t
theorem oW {a0 : Array Value} {Z : State} (hw : ∀ d ∈ tables_1, d.before a0 Z = true) (i : Nat) {d : Jvm.Cond} (h : tables_1[i]? = some d) : d.before a0 Z = true := hw _ (List.mem_of_getElem? h)
theorem own_pn0 : plainName "com/example/trunkwright/trunkwright/traffic/RevisedSimplex" = true := by first | (simp [plainName, overriddenIn]; done) | decide +kernel
theorem own_ef_rmSw00 (m : MethodId) (x0 : Addr) (x1 : Int32) (x2 : Int32) : entryFrame m #[(.ref x0), (.int x1), (.int x2)] 4 = mkF m 0 #[oR x0, oI x1, oI x2, .unset] [] := by first | (simp [entryFrame, mkF, argsToLocals, Value.category]; done) | rfl
theorem own_d7_0 : decode prog_82_method_20_code 0 = .ok (.aload_n 0, 1) := by decide +kernel
theorem own_d7_1 : decode prog_82_method_20_code 1 = .ok (.iload_n 1, 1) := by decide +kernel
theorem own_d7_2 : decode prog_82_method_20_code 2 = .ok (.aaload, 1) := by decide +kernel
theorem own_d7_3 : decode prog_82_method_20_code 3 = .ok (.astore_n 3, 1) := by decide +kernel
theorem own_d7_4 : decode prog_82_method_20_code 4 = .ok (.aload_n 0, 1) := by decide +kernel
theorem own_d7_5 : decode prog_82_method_20_code 5 = .ok (.iload_n 1, 1) := by decide +kernel
theorem own_d7_6 : decode prog_82_method_20_code 6 = .ok (.aload_n 0, 1) := by decide +kernel
theorem own_d7_7 : decode prog_82_method_20_code 7 = .ok (.iload_n 2, 1) := by decide +kernel
theorem own_d7_8 : decode prog_82_method_20_code 8 = .ok (.aaload, 1) := by decide +kernel
theorem own_d7_9 : decode prog_82_method_20_code 9 = .ok (.aastore, 1) := by decide +kernel
theorem own_d7_10 : decode prog_82_method_20_code 10 = .ok (.aload_n 0, 1) := by decide +kernel
theorem own_d7_11 : decode prog_82_method_20_code 11 = .ok (.iload_n 2, 1) := by decide +kernel
theorem own_d7_12 : decode prog_82_method_20_code 12 = .ok (.aload_n 3, 1) := by decide +kernel
theorem own_d7_13 : decode prog_82_method_20_code 13 = .ok (.aastore, 1) := by decide +kernel
theorem own_d7_14 : decode prog_82_method_20_code 14 = .ok (.return_, 1) := by decide +kernel
def Q_rmSw00 (Z : State) (mm r0 r1 : Addr) (ka : ClassId) (h0 : Heap) (n0 : Nat) (v : Option Value) (h : Heap) (L : List Loc) : Prop := v = none ∧ Fr n0 L ∧ Keep h0 h [mm] ∧ Arv Z h mm ka (.array .double) (2 : Int32) [(.ref r0), (.ref r1)] .null
set_option maxRecDepth 65536 in
set_option maxHeartbeats 40000000 in
theorem rmSw00 (l : Launch) (Z : State) (a0 : Array Value) (hw : ∀ d ∈ tables_1, d.before a0 Z = true) (ws : List Jvm.Cond) (mm r0 r1 : Addr) (ka : ClassId) (h0 : Heap) (n0 : Nat) (Z0 : n0 ≤ h0.size) (V_mm : Arv Z h0 mm ka (.array .double) (2 : Int32) [(.ref r0), (.ref r1)] .null) (Ov : OvrA Z ka .double "[D") (E_r0 : Exa Z h0 r0 "[D") (E_r1 : Exa Z h0 r1 "[D") (g_mm : n0 ≤ mm) :
    MetFree l (oN "swap" "([[DII)V") (head1 (Jvm.Cond.code (oN "swap" "([[DII)V") prog_82_method_20_code 4 none :: ws) ({ frames := 0, cells := 0, slots := 0, locals := 0 } : Room)) (fun a U => a = #[(.ref mm), (.int 0), (.int 0)] ∧ Z.Warmed39 U.vm ∧ U.heap = h0) (fun _ _ _ _ _ => True) (fun _ U o U' => ∃ v L, o = .returned v ∧ Q_rmSw00 Z mm r0 r1 ka h0 n0 v U'.heap L ∧ FrameEnd U o U' L ({ frames := 0, cells := 0, slots := 0, locals := 0 } : Room).cells ({ frames := 0, cells := 0, slots := 0, locals := 0 } : Room).slots) := by
  refine MetFree.of_bodySF (plainFor_of_name own_pn0) hisR ?_
  intro p e s m args below meth c s₁ Bd hml0 hP hK
  obtain ⟨rfl, hZ, hh⟩ := hP
  have hx := Bd.exec
  have hby := Bd.bytes
  have hml : c.maxLocals = 4 := hml0
  have hown : s.vm.findClass "com/example/trunkwright/trunkwright/traffic/RevisedSimplex" = some m.cls := findClass_of_methodNamed Bd.named
  have hnm := (name_of_methodNamed Bd.named Bd.method).1
  have X0 : Stand p l e ({ frames := 0, cells := 0, slots := 0, locals := 0 } : Room) s m #[(.ref mm), (.int 0), (.int 0)] below meth c s₁ [] 0 0 := Stand.of_body Bd
  have e0 : s₁.heap = h0 := by rw [← hh, Bd.state]; rfl
  have N0 := Fr.nil n0
  have R0 : ∀ t, oG p e below s₁ m 0 #[oR mm, oI 0, oI 0, .unset] [] t → Steps p.tables e below (s₁.setTop (entryFrame m #[(.ref mm), (.int 0), (.int 0)] 4)) t := fun t k => castTop (own_ef_rmSw00 m mm (0 : Int32) (0 : Int32)) k
  obtain ⟨AA, hAA⟩ : ∃ z, z = (s₁.setTop (entryFrame m #[(.ref mm), (.int 0), (.int 0)] 4)) := ⟨_, rfl⟩
  rw [← hAA] at R0
  have R1 : ∀ t, oG p e below s₁ m 2 #[oR mm, oI 0, oI 0, .unset] [(.int 0), (.ref mm)] t → Steps p.tables e below AA t := by
    intro t k
    refine R0 t ?_
    refine XS.aloadN X0.here hx rfl (hb hby own_d7_0) rfl rfl ?_
    refine XS.iloadN X0.here hx rfl (hb hby own_d7_1) rfl ?_
    exact k
  obtain ⟨cl2, Ar2, q2, S2, N2', H2, G2⟩ := id V_mm
  have hin2_0 : ¬ ((0 : Int32) < 0 ∨ cl2.slots.size ≤ ((0 : Int32)).toNatClampNeg) := inb_of S2 ⟨by decide, by decide⟩
  have hat2_0 : cl2.slots[((0 : Int32)).toNatClampNeg]? = some (.ref r0) := H2.at hin2_0 rfl
  have R3 : ∀ t, oG p e below s₁ m 9 #[oR mm, oI 0, oI 0, oR r0] [(.ref r0), (.int 0), (.ref mm)] t → Steps p.tables e below AA t := by
    intro t k
    refine R1 t ?_
    refine X0.aaload hx (j := (0 : Int32)) (v := (.ref r0)) (by rw [e0]; exact Ar2.1) (State.isArrayOf_alike hZ.alike Ar2.2.1) rfl Ar2.2.2 hin2_0 hat2_0 (g := (mkF m 2 #[oR mm, oI 0, oI 0, .unset] [(.int 0), (.ref mm)])) rfl rfl (hb hby own_d7_2) _ ?_
    refine XS.astoreN X0.here hx rfl (hb hby own_d7_3) rfl rfl (l' := #[oR mm, oI 0, oI 0, oR r0]) rfl ?_
    refine XS.aloadN X0.here hx rfl (hb hby own_d7_4) rfl rfl ?_
    refine XS.iloadN X0.here hx rfl (hb hby own_d7_5) rfl ?_
    refine XS.aloadN X0.here hx rfl (hb hby own_d7_6) rfl rfl ?_
    show oG p e below s₁ m 7 #[oR mm, oI 0, oI 0, oR r0] [(.ref mm), (.int 0), (.ref mm)] _
    refine XS.iloadN X0.here hx rfl (hb hby own_d7_7) rfl ?_
    refine X0.aaload hx (j := (0 : Int32)) (v := (.ref r0)) (by rw [e0]; exact Ar2.1) (State.isArrayOf_alike hZ.alike Ar2.2.1) rfl Ar2.2.2 hin2_0 hat2_0 (g := (mkF m 8 #[oR mm, oI 0, oI 0, oR r0] [(.int 0), (.ref mm), (.int 0), (.ref mm)])) rfl rfl (hb hby own_d7_8) _ ?_
    exact k
  clear R1
  obtain ⟨cl4, Ar4, q4, S4, N4', H4, G4⟩ := id V_mm
  have hin4 : ¬ ((0 : Int32) < 0 ∨ cl4.slots.size ≤ ((0 : Int32)).toNatClampNeg) := inb_of S4 ⟨by decide, by decide⟩
  obtain ⟨T5, h5, X5, e5, W5, st5⟩ := stR X0 hx hZ e0 Ar4 (j := (0 : Int32)) hin4 rfl (Sto.ofVA Ar4 q4 Ov (Ins.self E_r0)) (g := (mkF m 9 #[oR mm, oI 0, oI 0, oR r0] [(.ref r0), (.int 0), (.ref mm)])) rfl rfl (hb hby own_d7_9)
  have R5 := fun t k => R3 t (st5 t k)
  clear R3 st5
  have Z5 : n0 ≤ h5.size := Nat.le_trans Z0 (Keep.of_wr W5).1
  have K5 : Keep h0 h5 [mm] := (Keep.refl h0 [mm]).wr W5 (Or.inl (by simp))
  have N5 := Fr.snoc X5 N0 g_mm
  have f6 : Exa Z h5 r0 "[D" := E_r0.wr W5
  have f7 : Exa Z h5 r1 "[D" := E_r1.wr W5
  have V5 : Arv Z h5 mm ka (.array .double) (2 : Int32) [(.ref r0), (.ref r1)] .null := Arv.set Ar4 q4 S4 N4' H4 G4 rfl W5 0 rfl (Nat.le_of_ble_eq_true rfl)
  have R8 : ∀ t, oG p e below T5 m 13 #[oR mm, oI 0, oI 0, oR r0] [(.ref r0), (.int 0), (.ref mm)] t → Steps p.tables e below AA t := by
    intro t k
    refine R5 t ?_
    refine XS.aloadN X5.here hx rfl (hb hby own_d7_10) rfl rfl ?_
    refine XS.iloadN X5.here hx rfl (hb hby own_d7_11) rfl ?_
    refine XS.aloadN X5.here hx rfl (hb hby own_d7_12) rfl rfl ?_
    exact k
  clear R5
  obtain ⟨cl9, Ar9, q9, S9, N9', H9, G9⟩ := id V5
  have hin9 : ¬ ((0 : Int32) < 0 ∨ cl9.slots.size ≤ ((0 : Int32)).toNatClampNeg) := inb_of S9 ⟨by decide, by decide⟩
  obtain ⟨T10, h10, X10, e10, W10, st10⟩ := stR X5 hx hZ e5 Ar9 (j := (0 : Int32)) hin9 rfl (Sto.ofVA Ar9 q9 Ov (Ins.self f6)) (g := (mkF m 13 #[oR mm, oI 0, oI 0, oR r0] [(.ref r0), (.int 0), (.ref mm)])) rfl rfl (hb hby own_d7_13)
  have R10 := fun t k => R8 t (st10 t k)
  clear R8 st10 X5 e5
  have Z10 : n0 ≤ h10.size := Nat.le_trans Z5 (Keep.of_wr W10).1
  clear Z5
  have K10 : Keep h0 h10 [mm] := K5.wr W10 (Or.inl (by simp))
  have N10 := Fr.snoc X10 N5 g_mm
  clear K5
  clear N5
  have f11 : Exa Z h10 r0 "[D" := f6.wr W10
  clear f6
  have f12 : Exa Z h10 r1 "[D" := f7.wr W10
  clear f7
  have V10 : Arv Z h10 mm ka (.array .double) (2 : Int32) [(.ref r0), (.ref r1)] .null := Arv.set Ar9 q9 S9 N9' H9 G9 rfl W10 0 rfl (Nat.le_of_ble_eq_true rfl)
  subst hAA
  obtain ⟨fs, hr, hrun, hended, hW, hsame⟩ := X10.leave (v := none) (fun _ => rfl)
  refine ⟨_, _, R10 _ ?_, hrun, hended, _, _, rfl, ?_, ⟨_, rfl⟩, hW, hsame.mono (by decide) (by decide)⟩
  · exact X10.returnOut hx Bd.returns (hb hby own_d7_14) hr
  · show Q_rmSw00 Z mm r0 r1 ka h0 n0 _ T10.heap _
    rw [e10]
    exact ⟨rfl, N10, K10, V10⟩
theorem own_ef_rmSw11 (m : MethodId) (x0 : Addr) (x1 : Int32) (x2 : Int32) : entryFrame m #[(.ref x0), (.int x1), (.int x2)] 4 = mkF m 0 #[oR x0, oI x1, oI x2, .unset] [] := by first | (simp [entryFrame, mkF, argsToLocals, Value.category]; done) | rfl
def Q_rmSw11 (Z : State) (mm r0 r1 : Addr) (ka : ClassId) (h0 : Heap) (n0 : Nat) (v : Option Value) (h : Heap) (L : List Loc) : Prop := v = none ∧ Fr n0 L ∧ Keep h0 h [mm] ∧ Arv Z h mm ka (.array .double) (2 : Int32) [(.ref r0), (.ref r1)] .null
set_option maxRecDepth 65536 in
set_option maxHeartbeats 40000000 in
theorem rmSw11 (l : Launch) (Z : State) (a0 : Array Value) (hw : ∀ d ∈ tables_1, d.before a0 Z = true) (ws : List Jvm.Cond) (mm r0 r1 : Addr) (ka : ClassId) (h0 : Heap) (n0 : Nat) (Z0 : n0 ≤ h0.size) (V_mm : Arv Z h0 mm ka (.array .double) (2 : Int32) [(.ref r0), (.ref r1)] .null) (Ov : OvrA Z ka .double "[D") (E_r0 : Exa Z h0 r0 "[D") (E_r1 : Exa Z h0 r1 "[D") (g_mm : n0 ≤ mm) :
    MetFree l (oN "swap" "([[DII)V") (head1 (Jvm.Cond.code (oN "swap" "([[DII)V") prog_82_method_20_code 4 none :: ws) ({ frames := 0, cells := 0, slots := 0, locals := 0 } : Room)) (fun a U => a = #[(.ref mm), (.int 1), (.int 1)] ∧ Z.Warmed39 U.vm ∧ U.heap = h0) (fun _ _ _ _ _ => True) (fun _ U o U' => ∃ v L, o = .returned v ∧ Q_rmSw11 Z mm r0 r1 ka h0 n0 v U'.heap L ∧ FrameEnd U o U' L ({ frames := 0, cells := 0, slots := 0, locals := 0 } : Room).cells ({ frames := 0, cells := 0, slots := 0, locals := 0 } : Room).slots) := by
  refine MetFree.of_bodySF (plainFor_of_name own_pn0) hisR ?_
  intro p e s m args below meth c s₁ Bd hml0 hP hK
  obtain ⟨rfl, hZ, hh⟩ := hP
  have hx := Bd.exec
  have hby := Bd.bytes
  have hml : c.maxLocals = 4 := hml0
  have hown : s.vm.findClass "com/example/trunkwright/trunkwright/traffic/RevisedSimplex" = some m.cls := findClass_of_methodNamed Bd.named
  have hnm := (name_of_methodNamed Bd.named Bd.method).1
  have X0 : Stand p l e ({ frames := 0, cells := 0, slots := 0, locals := 0 } : Room) s m #[(.ref mm), (.int 1), (.int 1)] below meth c s₁ [] 0 0 := Stand.of_body Bd
  have e0 : s₁.heap = h0 := by rw [← hh, Bd.state]; rfl
  have N0 := Fr.nil n0
  have R0 : ∀ t, oG p e below s₁ m 0 #[oR mm, oI 1, oI 1, .unset] [] t → Steps p.tables e below (s₁.setTop (entryFrame m #[(.ref mm), (.int 1), (.int 1)] 4)) t := fun t k => castTop (own_ef_rmSw11 m mm (1 : Int32) (1 : Int32)) k
  obtain ⟨AA, hAA⟩ : ∃ z, z = (s₁.setTop (entryFrame m #[(.ref mm), (.int 1), (.int 1)] 4)) := ⟨_, rfl⟩
  rw [← hAA] at R0
  have R1 : ∀ t, oG p e below s₁ m 2 #[oR mm, oI 1, oI 1, .unset] [(.int 1), (.ref mm)] t → Steps p.tables e below AA t := by
    intro t k
    refine R0 t ?_
    refine XS.aloadN X0.here hx rfl (hb hby own_d7_0) rfl rfl ?_
    refine XS.iloadN X0.here hx rfl (hb hby own_d7_1) rfl ?_
    exact k
  obtain ⟨cl2, Ar2, q2, S2, N2', H2, G2⟩ := id V_mm
  have hin2_1 : ¬ ((1 : Int32) < 0 ∨ cl2.slots.size ≤ ((1 : Int32)).toNatClampNeg) := inb_of S2 ⟨by decide, by decide⟩
  have hat2_1 : cl2.slots[((1 : Int32)).toNatClampNeg]? = some (.ref r1) := H2.at hin2_1 rfl
  have R3 : ∀ t, oG p e below s₁ m 9 #[oR mm, oI 1, oI 1, oR r1] [(.ref r1), (.int 1), (.ref mm)] t → Steps p.tables e below AA t := by
    intro t k
    refine R1 t ?_
    refine X0.aaload hx (j := (1 : Int32)) (v := (.ref r1)) (by rw [e0]; exact Ar2.1) (State.isArrayOf_alike hZ.alike Ar2.2.1) rfl Ar2.2.2 hin2_1 hat2_1 (g := (mkF m 2 #[oR mm, oI 1, oI 1, .unset] [(.int 1), (.ref mm)])) rfl rfl (hb hby own_d7_2) _ ?_
    refine XS.astoreN X0.here hx rfl (hb hby own_d7_3) rfl rfl (l' := #[oR mm, oI 1, oI 1, oR r1]) rfl ?_
    refine XS.aloadN X0.here hx rfl (hb hby own_d7_4) rfl rfl ?_
    refine XS.iloadN X0.here hx rfl (hb hby own_d7_5) rfl ?_
    refine XS.aloadN X0.here hx rfl (hb hby own_d7_6) rfl rfl ?_
    show oG p e below s₁ m 7 #[oR mm, oI 1, oI 1, oR r1] [(.ref mm), (.int 1), (.ref mm)] _
    refine XS.iloadN X0.here hx rfl (hb hby own_d7_7) rfl ?_
    refine X0.aaload hx (j := (1 : Int32)) (v := (.ref r1)) (by rw [e0]; exact Ar2.1) (State.isArrayOf_alike hZ.alike Ar2.2.1) rfl Ar2.2.2 hin2_1 hat2_1 (g := (mkF m 8 #[oR mm, oI 1, oI 1, oR r1] [(.int 1), (.ref mm), (.int 1), (.ref mm)])) rfl rfl (hb hby own_d7_8) _ ?_
    exact k
  clear R1
  obtain ⟨cl4, Ar4, q4, S4, N4', H4, G4⟩ := id V_mm
  have hin4 : ¬ ((1 : Int32) < 0 ∨ cl4.slots.size ≤ ((1 : Int32)).toNatClampNeg) := inb_of S4 ⟨by decide, by decide⟩
  obtain ⟨T5, h5, X5, e5, W5, st5⟩ := stR X0 hx hZ e0 Ar4 (j := (1 : Int32)) hin4 rfl (Sto.ofVA Ar4 q4 Ov (Ins.self E_r1)) (g := (mkF m 9 #[oR mm, oI 1, oI 1, oR r1] [(.ref r1), (.int 1), (.ref mm)])) rfl rfl (hb hby own_d7_9)
  have R5 := fun t k => R3 t (st5 t k)
  clear R3 st5
  have Z5 : n0 ≤ h5.size := Nat.le_trans Z0 (Keep.of_wr W5).1
  have K5 : Keep h0 h5 [mm] := (Keep.refl h0 [mm]).wr W5 (Or.inl (by simp))
  have N5 := Fr.snoc X5 N0 g_mm
  have f6 : Exa Z h5 r0 "[D" := E_r0.wr W5
  have f7 : Exa Z h5 r1 "[D" := E_r1.wr W5
  have V5 : Arv Z h5 mm ka (.array .double) (2 : Int32) [(.ref r0), (.ref r1)] .null := Arv.set Ar4 q4 S4 N4' H4 G4 rfl W5 1 rfl (Nat.le_of_ble_eq_true rfl)
  have R8 : ∀ t, oG p e below T5 m 13 #[oR mm, oI 1, oI 1, oR r1] [(.ref r1), (.int 1), (.ref mm)] t → Steps p.tables e below AA t := by
    intro t k
    refine R5 t ?_
    refine XS.aloadN X5.here hx rfl (hb hby own_d7_10) rfl rfl ?_
    refine XS.iloadN X5.here hx rfl (hb hby own_d7_11) rfl ?_
    refine XS.aloadN X5.here hx rfl (hb hby own_d7_12) rfl rfl ?_
    exact k
  clear R5
  obtain ⟨cl9, Ar9, q9, S9, N9', H9, G9⟩ := id V5
  have hin9 : ¬ ((1 : Int32) < 0 ∨ cl9.slots.size ≤ ((1 : Int32)).toNatClampNeg) := inb_of S9 ⟨by decide, by decide⟩
  obtain ⟨T10, h10, X10, e10, W10, st10⟩ := stR X5 hx hZ e5 Ar9 (j := (1 : Int32)) hin9 rfl (Sto.ofVA Ar9 q9 Ov (Ins.self f7)) (g := (mkF m 13 #[oR mm, oI 1, oI 1, oR r1] [(.ref r1), (.int 1), (.ref mm)])) rfl rfl (hb hby own_d7_13)
  have R10 := fun t k => R8 t (st10 t k)
  clear R8 st10 X5 e5
  have Z10 : n0 ≤ h10.size := Nat.le_trans Z5 (Keep.of_wr W10).1
  clear Z5
  have K10 : Keep h0 h10 [mm] := K5.wr W10 (Or.inl (by simp))
  have N10 := Fr.snoc X10 N5 g_mm
  clear K5
  clear N5
  have f11 : Exa Z h10 r0 "[D" := f6.wr W10
  clear f6
  have f12 : Exa Z h10 r1 "[D" := f7.wr W10
  clear f7
  have V10 : Arv Z h10 mm ka (.array .double) (2 : Int32) [(.ref r0), (.ref r1)] .null := Arv.set Ar9 q9 S9 N9' H9 G9 rfl W10 1 rfl (Nat.le_of_ble_eq_true rfl)
  subst hAA
  obtain ⟨fs, hr, hrun, hended, hW, hsame⟩ := X10.leave (v := none) (fun _ => rfl)
  refine ⟨_, _, R10 _ ?_, hrun, hended, _, _, rfl, ?_, ⟨_, rfl⟩, hW, hsame.mono (by decide) (by decide)⟩
  · exact X10.returnOut hx Bd.returns (hb hby own_d7_14) hr
  · show Q_rmSw11 Z mm r0 r1 ka h0 n0 _ T10.heap _
    rw [e10]
    exact ⟨rfl, N10, K10, V10⟩
theorem own_ef_rmSw10 (m : MethodId) (x0 : Addr) (x1 : Int32) (x2 : Int32) : entryFrame m #[(.ref x0), (.int x1), (.int x2)] 4 = mkF m 0 #[oR x0, oI x1, oI x2, .unset] [] := by first | (simp [entryFrame, mkF, argsToLocals, Value.category]; done) | rfl
def Q_rmSw10 (Z : State) (mm r0 r1 : Addr) (ka : ClassId) (h0 : Heap) (n0 : Nat) (v : Option Value) (h : Heap) (L : List Loc) : Prop := v = none ∧ Fr n0 L ∧ Keep h0 h [mm] ∧ Arv Z h mm ka (.array .double) (2 : Int32) [(.ref r1), (.ref r0)] .null
set_option maxRecDepth 65536 in
set_option maxHeartbeats 40000000 in
theorem rmSw10 (l : Launch) (Z : State) (a0 : Array Value) (hw : ∀ d ∈ tables_1, d.before a0 Z = true) (ws : List Jvm.Cond) (mm r0 r1 : Addr) (ka : ClassId) (h0 : Heap) (n0 : Nat) (Z0 : n0 ≤ h0.size) (V_mm : Arv Z h0 mm ka (.array .double) (2 : Int32) [(.ref r0), (.ref r1)] .null) (Ov : OvrA Z ka .double "[D") (E_r0 : Exa Z h0 r0 "[D") (E_r1 : Exa Z h0 r1 "[D") (g_mm : n0 ≤ mm) :
    MetFree l (oN "swap" "([[DII)V") (head1 (Jvm.Cond.code (oN "swap" "([[DII)V") prog_82_method_20_code 4 none :: ws) ({ frames := 0, cells := 0, slots := 0, locals := 0 } : Room)) (fun a U => a = #[(.ref mm), (.int 1), (.int 0)] ∧ Z.Warmed39 U.vm ∧ U.heap = h0) (fun _ _ _ _ _ => True) (fun _ U o U' => ∃ v L, o = .returned v ∧ Q_rmSw10 Z mm r0 r1 ka h0 n0 v U'.heap L ∧ FrameEnd U o U' L ({ frames := 0, cells := 0, slots := 0, locals := 0 } : Room).cells ({ frames := 0, cells := 0, slots := 0, locals := 0 } : Room).slots) := by
  refine MetFree.of_bodySF (plainFor_of_name own_pn0) hisR ?_
  intro p e s m args below meth c s₁ Bd hml0 hP hK
  obtain ⟨rfl, hZ, hh⟩ := hP
  have hx := Bd.exec
  have hby := Bd.bytes
  have hml : c.maxLocals = 4 := hml0
  have hown : s.vm.findClass "com/example/trunkwright/trunkwright/traffic/RevisedSimplex" = some m.cls := findClass_of_methodNamed Bd.named
  have hnm := (name_of_methodNamed Bd.named Bd.method).1
  have X0 : Stand p l e ({ frames := 0, cells := 0, slots := 0, locals := 0 } : Room) s m #[(.ref mm), (.int 1), (.int 0)] below meth c s₁ [] 0 0 := Stand.of_body Bd
  have e0 : s₁.heap = h0 := by rw [← hh, Bd.state]; rfl
  have N0 := Fr.nil n0
  have R0 : ∀ t, oG p e below s₁ m 0 #[oR mm, oI 1, oI 0, .unset] [] t → Steps p.tables e below (s₁.setTop (entryFrame m #[(.ref mm), (.int 1), (.int 0)] 4)) t := fun t k => castTop (own_ef_rmSw10 m mm (1 : Int32) (0 : Int32)) k
  obtain ⟨AA, hAA⟩ : ∃ z, z = (s₁.setTop (entryFrame m #[(.ref mm), (.int 1), (.int 0)] 4)) := ⟨_, rfl⟩
  rw [← hAA] at R0
  have R1 : ∀ t, oG p e below s₁ m 2 #[oR mm, oI 1, oI 0, .unset] [(.int 1), (.ref mm)] t → Steps p.tables e below AA t := by
    intro t k
    refine R0 t ?_
    refine XS.aloadN X0.here hx rfl (hb hby own_d7_0) rfl rfl ?_
    refine XS.iloadN X0.here hx rfl (hb hby own_d7_1) rfl ?_
    exact k
  obtain ⟨cl2, Ar2, q2, S2, N2', H2, G2⟩ := id V_mm
  have hin2_1 : ¬ ((1 : Int32) < 0 ∨ cl2.slots.size ≤ ((1 : Int32)).toNatClampNeg) := inb_of S2 ⟨by decide, by decide⟩
  have hat2_1 : cl2.slots[((1 : Int32)).toNatClampNeg]? = some (.ref r1) := H2.at hin2_1 rfl
  have R3 : ∀ t, oG p e below s₁ m 8 #[oR mm, oI 1, oI 0, oR r1] [(.int 0), (.ref mm), (.int 1), (.ref mm)] t → Steps p.tables e below AA t := by
    intro t k
    refine R1 t ?_
    refine X0.aaload hx (j := (1 : Int32)) (v := (.ref r1)) (by rw [e0]; exact Ar2.1) (State.isArrayOf_alike hZ.alike Ar2.2.1) rfl Ar2.2.2 hin2_1 hat2_1 (g := (mkF m 2 #[oR mm, oI 1, oI 0, .unset] [(.int 1), (.ref mm)])) rfl rfl (hb hby own_d7_2) _ ?_
    refine XS.astoreN X0.here hx rfl (hb hby own_d7_3) rfl rfl (l' := #[oR mm, oI 1, oI 0, oR r1]) rfl ?_
    refine XS.aloadN X0.here hx rfl (hb hby own_d7_4) rfl rfl ?_
    refine XS.iloadN X0.here hx rfl (hb hby own_d7_5) rfl ?_
    refine XS.aloadN X0.here hx rfl (hb hby own_d7_6) rfl rfl ?_
    show oG p e below s₁ m 7 #[oR mm, oI 1, oI 0, oR r1] [(.ref mm), (.int 1), (.ref mm)] _
    refine XS.iloadN X0.here hx rfl (hb hby own_d7_7) rfl ?_
    exact k
  clear R1
  have hin2_0 : ¬ ((0 : Int32) < 0 ∨ cl2.slots.size ≤ ((0 : Int32)).toNatClampNeg) := inb_of S2 ⟨by decide, by decide⟩
  have hat2_0 : cl2.slots[((0 : Int32)).toNatClampNeg]? = some (.ref r0) := H2.at hin2_0 rfl
  have R4 : ∀ t, oG p e below s₁ m 9 #[oR mm, oI 1, oI 0, oR r1] [(.ref r0), (.int 1), (.ref mm)] t → Steps p.tables e below AA t := by
    intro t k
    refine R3 t ?_
    refine X0.aaload hx (j := (0 : Int32)) (v := (.ref r0)) (by rw [e0]; exact Ar2.1) (State.isArrayOf_alike hZ.alike Ar2.2.1) rfl Ar2.2.2 hin2_0 hat2_0 (g := (mkF m 8 #[oR mm, oI 1, oI 0, oR r1] [(.int 0), (.ref mm), (.int 1), (.ref mm)])) rfl rfl (hb hby own_d7_8) _ ?_
    exact k
  clear R3
  obtain ⟨cl5, Ar5, q5, S5, N5', H5, G5⟩ := id V_mm
  have hin5 : ¬ ((1 : Int32) < 0 ∨ cl5.slots.size ≤ ((1 : Int32)).toNatClampNeg) := inb_of S5 ⟨by decide, by decide⟩
  obtain ⟨T6, h6, X6, e6, W6, st6⟩ := stR X0 hx hZ e0 Ar5 (j := (1 : Int32)) hin5 rfl (Sto.ofVA Ar5 q5 Ov (Ins.self E_r0)) (g := (mkF m 9 #[oR mm, oI 1, oI 0, oR r1] [(.ref r0), (.int 1), (.ref mm)])) rfl rfl (hb hby own_d7_9)
  have R6 := fun t k => R4 t (st6 t k)
  clear R4 st6
  have Z6 : n0 ≤ h6.size := Nat.le_trans Z0 (Keep.of_wr W6).1
  have K6 : Keep h0 h6 [mm] := (Keep.refl h0 [mm]).wr W6 (Or.inl (by simp))
  have N6 := Fr.snoc X6 N0 g_mm
  have f7 : Exa Z h6 r0 "[D" := E_r0.wr W6
  have f8 : Exa Z h6 r1 "[D" := E_r1.wr W6
  have V6 : Arv Z h6 mm ka (.array .double) (2 : Int32) [(.ref r0), (.ref r0)] .null := Arv.set Ar5 q5 S5 N5' H5 G5 rfl W6 1 rfl (Nat.le_of_ble_eq_true rfl)
  have R9 : ∀ t, oG p e below T6 m 13 #[oR mm, oI 1, oI 0, oR r1] [(.ref r1), (.int 0), (.ref mm)] t → Steps p.tables e below AA t := by
    intro t k
    refine R6 t ?_
    refine XS.aloadN X6.here hx rfl (hb hby own_d7_10) rfl rfl ?_
    refine XS.iloadN X6.here hx rfl (hb hby own_d7_11) rfl ?_
    refine XS.aloadN X6.here hx rfl (hb hby own_d7_12) rfl rfl ?_
    exact k
  clear R6
  obtain ⟨cl10, Ar10, q10, S10, N10', H10, G10⟩ := id V6
  have hin10 : ¬ ((0 : Int32) < 0 ∨ cl10.slots.size ≤ ((0 : Int32)).toNatClampNeg) := inb_of S10 ⟨by decide, by decide⟩
  obtain ⟨T11, h11, X11, e11, W11, st11⟩ := stR X6 hx hZ e6 Ar10 (j := (0 : Int32)) hin10 rfl (Sto.ofVA Ar10 q10 Ov (Ins.self f8)) (g := (mkF m 13 #[oR mm, oI 1, oI 0, oR r1] [(.ref r1), (.int 0), (.ref mm)])) rfl rfl (hb hby own_d7_13)
  have R11 := fun t k => R9 t (st11 t k)
  clear R9 st11 X6 e6
  have Z11 : n0 ≤ h11.size := Nat.le_trans Z6 (Keep.of_wr W11).1
  clear Z6
  have K11 : Keep h0 h11 [mm] := K6.wr W11 (Or.inl (by simp))
  have N11 := Fr.snoc X11 N6 g_mm
  clear K6
  clear N6
  have f12 : Exa Z h11 r0 "[D" := f7.wr W11
  clear f7
  have f13 : Exa Z h11 r1 "[D" := f8.wr W11
  clear f8
  have V11 : Arv Z h11 mm ka (.array .double) (2 : Int32) [(.ref r1), (.ref r0)] .null := Arv.set Ar10 q10 S10 N10' H10 G10 rfl W11 0 rfl (Nat.le_of_ble_eq_true rfl)
  subst hAA
  obtain ⟨fs, hr, hrun, hended, hW, hsame⟩ := X11.leave (v := none) (fun _ => rfl)
  refine ⟨_, _, R11 _ ?_, hrun, hended, _, _, rfl, ?_, ⟨_, rfl⟩, hW, hsame.mono (by decide) (by decide)⟩
  · exact X11.returnOut hx Bd.returns (hb hby own_d7_14) hr
  · show Q_rmSw10 Z mm r0 r1 ka h0 n0 _ T11.heap _
    rw [e11]
    exact ⟨rfl, N11, K11, V11⟩
theorem own_ef_rmEl0 (m : MethodId) (x0 : Addr) (x1 : Addr) (x2 : Addr) (x3 : Int32) : entryFrame m #[(.ref x0), (.ref x1), (.ref x2), (.int x3)] 14 = mkF m 0 #[oR x0, oR x1, oR x2, oI x3, .unset, .unset, .unset, .unset, .unset, .unset, .unset, .unset, .unset, .unset] [] := by first | (simp [entryFrame, mkF, argsToLocals, Value.category]; done) | rfl
theorem own_d8_0 : decode prog_82_method_19_code 0 = .ok (.aload_n 1, 1) := by decide +kernel
theorem own_d8_1 : decode prog_82_method_19_code 1 = .ok (.iload_n 3, 1) := by decide +kernel
theorem own_d8_2 : decode prog_82_method_19_code 2 = .ok (.aaload, 1) := by decide +kernel
theorem own_d8_3 : decode prog_82_method_19_code 3 = .ok (.astore 4, 2) := by decide +kernel
theorem own_d8_5 : decode prog_82_method_19_code 5 = .ok (.aload_n 2, 1) := by decide +kernel
theorem own_d8_6 : decode prog_82_method_19_code 6 = .ok (.iload_n 3, 1) := by decide +kernel
theorem own_d8_7 : decode prog_82_method_19_code 7 = .ok (.aaload, 1) := by decide +kernel
theorem own_d8_8 : decode prog_82_method_19_code 8 = .ok (.astore 5, 2) := by decide +kernel
theorem own_d8_10 : decode prog_82_method_19_code 10 = .ok (.aload 4, 2) := by decide +kernel
theorem own_d8_12 : decode prog_82_method_19_code 12 = .ok (.iload_n 3, 1) := by decide +kernel
theorem own_d8_13 : decode prog_82_method_19_code 13 = .ok (.daload, 1) := by decide +kernel
theorem own_d8_14 : decode prog_82_method_19_code 14 = .ok (.dstore 6, 2) := by decide +kernel
theorem own_d8_16 : decode prog_82_method_19_code 16 = .ok (.iconst 0, 1) := by decide +kernel
theorem own_d8_17 : decode prog_82_method_19_code 17 = .ok (.istore 8, 2) := by decide +kernel
theorem own_d8_19 : decode prog_82_method_19_code 19 = .ok (.iload 8, 2) := by decide +kernel
theorem own_d8_21 : decode prog_82_method_19_code 21 = .ok (.aload_n 0, 1) := by decide +kernel
theorem own_d8_22 : decode prog_82_method_19_code 22 = .ok (.getfield 27, 3) := by decide +kernel
theorem own_d8_25 : decode prog_82_method_19_code 25 = .ok (.if_icmp .ge 29, 3) := by decide +kernel
theorem own_d8_28 : decode prog_82_method_19_code 28 = .ok (.aload 4, 2) := by decide +kernel
theorem own_d8_30 : decode prog_82_method_19_code 30 = .ok (.iload 8, 2) := by decide +kernel
theorem own_d8_32 : decode prog_82_method_19_code 32 = .ok (.dup2, 1) := by decide +kernel
theorem own_d8_33 : decode prog_82_method_19_code 33 = .ok (.daload, 1) := by decide +kernel
theorem own_d8_34 : decode prog_82_method_19_code 34 = .ok (.dload 6, 2) := by decide +kernel
theorem own_d8_36 : decode prog_82_method_19_code 36 = .ok (.ddiv, 1) := by decide +kernel
theorem own_d8_37 : decode prog_82_method_19_code 37 = .ok (.dastore, 1) := by decide +kernel
theorem own_d8_38 : decode prog_82_method_19_code 38 = .ok (.aload 5, 2) := by decide +kernel
theorem own_d8_40 : decode prog_82_method_19_code 40 = .ok (.iload 8, 2) := by decide +kernel
theorem own_d8_42 : decode prog_82_method_19_code 42 = .ok (.dup2, 1) := by decide +kernel
theorem own_d8_43 : decode prog_82_method_19_code 43 = .ok (.daload, 1) := by decide +kernel
theorem own_d8_44 : decode prog_82_method_19_code 44 = .ok (.dload 6, 2) := by decide +kernel
theorem own_d8_46 : decode prog_82_method_19_code 46 = .ok (.ddiv, 1) := by decide +kernel
theorem own_d8_47 : decode prog_82_method_19_code 47 = .ok (.dastore, 1) := by decide +kernel
theorem own_d8_48 : decode prog_82_method_19_code 48 = .ok (.iinc 8 1, 3) := by decide +kernel
theorem own_d8_51 : decode prog_82_method_19_code 51 = .ok (.goto (-32), 3) := by decide +kernel
theorem own_d8_54 : decode prog_82_method_19_code 54 = .ok (.iconst 0, 1) := by decide +kernel
theorem own_d8_55 : decode prog_82_method_19_code 55 = .ok (.istore 8, 2) := by decide +kernel
theorem own_d8_57 : decode prog_82_method_19_code 57 = .ok (.iload 8, 2) := by decide +kernel
theorem own_d8_59 : decode prog_82_method_19_code 59 = .ok (.aload_n 0, 1) := by decide +kernel
theorem own_d8_60 : decode prog_82_method_19_code 60 = .ok (.getfield 27, 3) := by decide +kernel
theorem own_d8_63 : decode prog_82_method_19_code 63 = .ok (.if_icmp .ge 92, 3) := by decide +kernel
theorem own_d8_66 : decode prog_82_method_19_code 66 = .ok (.aload_n 1, 1) := by decide +kernel
theorem own_d8_67 : decode prog_82_method_19_code 67 = .ok (.iload 8, 2) := by decide +kernel
theorem own_d8_69 : decode prog_82_method_19_code 69 = .ok (.aaload, 1) := by decide +kernel
theorem own_d8_70 : decode prog_82_method_19_code 70 = .ok (.iload_n 3, 1) := by decide +kernel
theorem own_d8_71 : decode prog_82_method_19_code 71 = .ok (.daload, 1) := by decide +kernel
theorem own_d8_72 : decode prog_82_method_19_code 72 = .ok (.dstore 9, 2) := by decide +kernel
theorem own_d8_74 : decode prog_82_method_19_code 74 = .ok (.iload 8, 2) := by decide +kernel
theorem own_d8_76 : decode prog_82_method_19_code 76 = .ok (.iload_n 3, 1) := by decide +kernel
theorem own_d8_77 : decode prog_82_method_19_code 77 = .ok (.if_icmp .eq 72, 3) := by decide +kernel
theorem own_d8_149 : decode prog_82_method_19_code 149 = .ok (.iinc 8 1, 3) := by decide +kernel
theorem own_d8_152 : decode prog_82_method_19_code 152 = .ok (.goto (-95), 3) := by decide +kernel
theorem own_d8_80 : decode prog_82_method_19_code 80 = .ok (.dload 9, 2) := by decide +kernel
theorem own_d8_82 : decode prog_82_method_19_code 82 = .ok (.dconst 0, 1) := by decide +kernel
theorem own_d8_83 : decode prog_82_method_19_code 83 = .ok (.dcmp .l, 1) := by decide +kernel
theorem own_d8_84 : decode prog_82_method_19_code 84 = .ok (.ifCond .eq 65, 3) := by decide +kernel
theorem own_d8_155 : decode prog_82_method_19_code 155 = .ok (.return_, 1) := by decide +kernel
def Q_rmEl0 (Z : State) (a1 mm rr m0 m1 r0 : Addr) (r1 : Addr) (ka kb kc kd ke : ClassId) (u0 u1 w0 w1 zo ea eb fa fb : UInt64) (h0 : Heap) (n0 : Nat) (v : Option Value) (h : Heap) (L : List Loc) : Prop := v = none ∧ Fr n0 L ∧ Keep h0 h [m0, r0] ∧ Arv Z h m0 kc .double (2 : Int32) [(.double ea), (.double eb)] (.double 0) ∧ Arv Z h r0 kd .double (2 : Int32) [(.double fa), (.double fb)] (.double 0)
set_option maxRecDepth 65536 in
set_option maxHeartbeats 40000000 in
theorem rmEl0 (l : Launch) (Z : State) (a0 : Array Value) (hw : ∀ d ∈ tables_1, d.before a0 Z = true) (ws : List Jvm.Cond) (a1 mm rr m0 m1 r0 : Addr) (r1 : Addr) (ka kb kc kd ke : ClassId) (u0 u1 w0 w1 zo ea eb fa fb : UInt64) (h0 : Heap) (n0 : Nat) (Z0 : n0 ≤ h0.size) (F_a1_rows : oF Z h0 a1 "rows" "I" (.int 2)) (V_mm : Arv Z h0 mm ka (.array .double) (2 : Int32) [(.ref m0), (.ref m1)] .null) (V_rr : Arv Z h0 rr kb (.array .double) (2 : Int32) [(.ref r0), (.ref r1)] .null) (V_m0 : Arv Z h0 m0 kc .double (2 : Int32) [(.double u0), (.double u1)] (.double 0)) (V_r0 : Arv Z h0 r0 kd .double (2 : Int32) [(.double w0), (.double w1)] (.double 0)) (V_m1 : Arv Z h0 m1 ke .double (2 : Int32) [(.double 0), (.double zo)] (.double 0)) (ne_a1_m0 : a1 ≠ m0) (ne_a1_r0 : a1 ≠ r0) (ne_mm_m0 : mm ≠ m0) (ne_mm_r0 : mm ≠ r0) (ne_rr_m0 : rr ≠ m0) (ne_rr_r0 : rr ≠ r0) (ne_m1_m0 : m1 ≠ m0) (ne_m1_r0 : m1 ≠ r0) (ne_m0_r0 : m0 ≠ r0) (g_m0 : n0 ≤ m0) (g_r0 : n0 ≤ r0) (hea : FP.ddiv u0 u0 = ea) (nea : oX ea) (heb : FP.ddiv u1 u0 = eb) (neb : oX eb) (hfa : FP.ddiv w0 u0 = fa) (nfa : oX fa) (hfb : FP.ddiv w1 u0 = fb) (nfb : oX fb) :
    MetFree l (oN "eliminate" "([[D[[DI)V") (head1 (Jvm.Cond.code (oN "eliminate" "([[D[[DI)V") prog_82_method_19_code 14 none :: ws) ({ frames := 0, cells := 0, slots := 0, locals := 0 } : Room)) (fun a U => a = #[(.ref a1), (.ref mm), (.ref rr), (.int 0)] ∧ Z.Warmed39 U.vm ∧ U.heap = h0) (fun _ _ _ _ _ => True) (fun _ U o U' => ∃ v L, o = .returned v ∧ Q_rmEl0 Z a1 mm rr m0 m1 r0 r1 ka kb kc kd ke u0 u1 w0 w1 zo ea eb fa fb h0 n0 v U'.heap L ∧ FrameEnd U o U' L ({ frames := 0, cells := 0, slots := 0, locals := 0 } : Room).cells ({ frames := 0, cells := 0, slots := 0, locals := 0 } : Room).slots) := by
  refine MetFree.of_bodySF (plainFor_of_name own_pn0) hisR ?_
  intro p e s m args below meth c s₁ Bd hml0 hP hK
  obtain ⟨rfl, hZ, hh⟩ := hP
  have hx := Bd.exec
  have hby := Bd.bytes
  have hml : c.maxLocals = 14 := hml0
  have hown : s.vm.findClass "com/example/trunkwright/trunkwright/traffic/RevisedSimplex" = some m.cls := findClass_of_methodNamed Bd.named
  have hnm := (name_of_methodNamed Bd.named Bd.method).1
  have X0 : Stand p l e ({ frames := 0, cells := 0, slots := 0, locals := 0 } : Room) s m #[(.ref a1), (.ref mm), (.ref rr), (.int 0)] below meth c s₁ [] 0 0 := Stand.of_body Bd
  have e0 : s₁.heap = h0 := by rw [← hh, Bd.state]; rfl
  have N0 := Fr.nil n0
  have R0 : ∀ t, oG p e below s₁ m 0 #[oR a1, oR mm, oR rr, oI 0, .unset, .unset, .unset, .unset, .unset, .unset, .unset, .unset, .unset, .unset] [] t → Steps p.tables e below (s₁.setTop (entryFrame m #[(.ref a1), (.ref mm), (.ref rr), (.int 0)] 14)) t := fun t k => castTop (own_ef_rmEl0 m a1 mm rr (0 : Int32)) k
  obtain ⟨AA, hAA⟩ : ∃ z, z = (s₁.setTop (entryFrame m #[(.ref a1), (.ref mm), (.ref rr), (.int 0)] 14)) := ⟨_, rfl⟩
  rw [← hAA] at R0
  have R1 : ∀ t, oG p e below s₁ m 2 #[oR a1, oR mm, oR rr, oI 0, .unset, .unset, .unset, .unset, .unset, .unset, .unset, .unset, .unset, .unset] [(.int 0), (.ref mm)] t → Steps p.tables e below AA t := by
    intro t k
    refine R0 t ?_
    refine XS.aloadN X0.here hx rfl (hb hby own_d8_0) rfl rfl ?_
    refine XS.iloadN X0.here hx rfl (hb hby own_d8_1) rfl ?_
    exact k
  obtain ⟨cl2, Ar2, q2, S2, N2', H2, G2⟩ := id V_mm
  have hin2_0 : ¬ ((0 : Int32) < 0 ∨ cl2.slots.size ≤ ((0 : Int32)).toNatClampNeg) := inb_of S2 ⟨by decide, by decide⟩
  have hat2_0 : cl2.slots[((0 : Int32)).toNatClampNeg]? = some (.ref m0) := H2.at hin2_0 rfl
  have R3 : ∀ t, oG p e below s₁ m 7 #[oR a1, oR mm, oR rr, oI 0, oR m0, .unset, .unset, .unset, .unset, .unset, .unset, .unset, .unset, .unset] [(.int 0), (.ref rr)] t → Steps p.tables e below AA t := by
    intro t k
    refine R1 t ?_
    refine X0.aaload hx (j := (0 : Int32)) (v := (.ref m0)) (by rw [e0]; exact Ar2.1) (State.isArrayOf_alike hZ.alike Ar2.2.1) rfl Ar2.2.2 hin2_0 hat2_0 (g := (mkF m 2 #[oR a1, oR mm, oR rr, oI 0, .unset, .unset, .unset, .unset, .unset, .unset, .unset, .unset, .unset, .unset] [(.int 0), (.ref mm)])) rfl rfl (hb hby own_d8_2) _ ?_
    refine XS.astore X0.here hx rfl (hb hby own_d8_3) rfl rfl (l' := #[oR a1, oR mm, oR rr, oI 0, oR m0, .unset, .unset, .unset, .unset, .unset, .unset, .unset, .unset, .unset]) rfl ?_
    refine XS.aloadN X0.here hx rfl (hb hby own_d8_5) rfl rfl ?_
    refine XS.iloadN X0.here hx rfl (hb hby own_d8_6) rfl ?_
    exact k
  clear R1
  obtain ⟨cl4, Ar4, q4, S4, N4', H4, G4⟩ := id V_rr
  have hin4_0 : ¬ ((0 : Int32) < 0 ∨ cl4.slots.size ≤ ((0 : Int32)).toNatClampNeg) := inb_of S4 ⟨by decide, by decide⟩
  have hat4_0 : cl4.slots[((0 : Int32)).toNatClampNeg]? = some (.ref r0) := H4.at hin4_0 rfl
  have R5 : ∀ t, oG p e below s₁ m 13 #[oR a1, oR mm, oR rr, oI 0, oR m0, oR r0, .unset, .unset, .unset, .unset, .unset, .unset, .unset, .unset] [(.int 0), (.ref m0)] t → Steps p.tables e below AA t := by
    intro t k
    refine R3 t ?_
    refine X0.aaload hx (j := (0 : Int32)) (v := (.ref r0)) (by rw [e0]; exact Ar4.1) (State.isArrayOf_alike hZ.alike Ar4.2.1) rfl Ar4.2.2 hin4_0 hat4_0 (g := (mkF m 7 #[oR a1, oR mm, oR rr, oI 0, oR m0, .unset, .unset, .unset, .unset, .unset, .unset, .unset, .unset, .unset] [(.int 0), (.ref rr)])) rfl rfl (hb hby own_d8_7) _ ?_
    refine XS.astore X0.here hx rfl (hb hby own_d8_8) rfl rfl (l' := #[oR a1, oR mm, oR rr, oI 0, oR m0, oR r0, .unset, .unset, .unset, .unset, .unset, .unset, .unset, .unset]) rfl ?_
    refine XS.aload X0.here hx rfl (hb hby own_d8_10) rfl rfl ?_
    refine XS.iloadN X0.here hx rfl (hb hby own_d8_12) rfl ?_
    exact k
  clear R3
  obtain ⟨cl6, Ar6, q6, S6, N6', H6, G6⟩ := id V_m0
  have hin6_0 : ¬ ((0 : Int32) < 0 ∨ cl6.slots.size ≤ ((0 : Int32)).toNatClampNeg) := inb_of S6 ⟨by decide, by decide⟩
  have hat6_0 : cl6.slots[((0 : Int32)).toNatClampNeg]? = some (.double u0) := H6.at hin6_0 rfl
  have R7 : ∀ t, oG p e below s₁ m 22 #[oR a1, oR mm, oR rr, oI 0, oR m0, oR r0, oD u0, .second, oI 0, .unset, .unset, .unset, .unset, .unset] [(.ref a1), (.int 0)] t → Steps p.tables e below AA t := by
    intro t k
    refine R5 t ?_
    refine X0.daload hx (j := (0 : Int32)) (v := (.double u0)) (by rw [e0]; exact Ar6.1) (State.isArrayOf_alike hZ.alike Ar6.2.1) Ar6.2.2 hin6_0 hat6_0 (g := (mkF m 13 #[oR a1, oR mm, oR rr, oI 0, oR m0, oR r0, .unset, .unset, .unset, .unset, .unset, .unset, .unset, .unset] [(.int 0), (.ref m0)])) rfl rfl (hb hby own_d8_13) _ ?_
    refine XS.dstore X0.here hx rfl (hb hby own_d8_14) rfl (l' := #[oR a1, oR mm, oR rr, oI 0, oR m0, oR r0, oD u0, .second, .unset, .unset, .unset, .unset, .unset, .unset]) rfl ?_
    refine XS.iconst X0.here hx rfl (hb hby own_d8_16) ?_
    refine XS.istore X0.here hx rfl (hb hby own_d8_17) rfl (l' := #[oR a1, oR mm, oR rr, oI 0, oR m0, oR r0, oD u0, .second, oI 0, .unset, .unset, .unset, .unset, .unset]) rfl ?_
    refine XS.iload X0.here hx rfl (hb hby own_d8_19) rfl ?_
    show oG p e below s₁ m 21 #[oR a1, oR mm, oR rr, oI 0, oR m0, oR r0, oD u0, .second, oI 0, .unset, .unset, .unset, .unset, .unset] [(.int 0)] _
    refine XS.aloadN X0.here hx rfl (hb hby own_d8_21) rfl rfl ?_
    exact k
  clear R5
  obtain ⟨T8, X8, e8, st8⟩ := getF X0 hx hZ hown (host := "") (Or.inl (oW hw 24 rfl)) Via.refl e0 F_a1_rows (g := (mkF m 22 #[oR a1, oR mm, oR rr, oI 0, oR m0, oR r0, oD u0, .second, oI 0, .unset, .unset, .unset, .unset, .unset] [(.ref a1), (.int 0)])) rfl rfl (hb hby own_d8_22)
  have R8 := fun t k => R7 t (st8 t k)
  clear R7 st8
  have R9 : ∀ t, oG p e below T8 m 37 #[oR a1, oR mm, oR rr, oI 0, oR m0, oR r0, oD u0, .second, oI 0, .unset, .unset, .unset, .unset, .unset] [(.double ea), (.int 0), (.ref m0)] t → Steps p.tables e below AA t := by
    intro t k
    refine R8 t ?_
    refine XS.icmpNo X8.here hx rfl (hb hby own_d8_25) rfl (tlt (by decide : ((0 : Int32) < (2 : Int32)))).2.1 ?_
    refine XS.aload X8.here hx rfl (hb hby own_d8_28) rfl rfl ?_
    refine XS.iload X8.here hx rfl (hb hby own_d8_30) rfl ?_
    refine Jvm.Free.XT.dup2 X8.here hx rfl (hb hby own_d8_32) rfl rfl rfl ?_
    refine X8.daload hx (j := (0 : Int32)) (v := (.double u0)) (by rw [e8]; exact Ar6.1) (State.isArrayOf_alike hZ.alike Ar6.2.1) Ar6.2.2 hin6_0 hat6_0 (g := (mkF m 33 #[oR a1, oR mm, oR rr, oI 0, oR m0, oR r0, oD u0, .second, oI 0, .unset, .unset, .unset, .unset, .unset] [(.int 0), (.ref m0), (.int 0), (.ref m0)])) rfl rfl (hb hby own_d8_33) _ ?_
    show oG p e below T8 m 34 #[oR a1, oR mm, oR rr, oI 0, oR m0, oR r0, oD u0, .second, oI 0, .unset, .unset, .unset, .unset, .unset] [(.double u0), (.int 0), (.ref m0)] _
    refine XS.dload X8.here hx rfl (hb hby own_d8_34) rfl ?_
    refine XS.ddivS X8.here hx rfl (hb hby own_d8_36) rfl (by rw [hea]; exact nea) hea ?_
    exact k
  clear R8
  obtain ⟨cl10, Ar10, q10, S10, N10', H10, G10⟩ := id V_m0
  have hin10 : ¬ ((0 : Int32) < 0 ∨ cl10.slots.size ≤ ((0 : Int32)).toNatClampNeg) := inb_of S10 ⟨by decide, by decide⟩
  obtain ⟨T11, h11, X11, e11, W11, st11⟩ := stD X8 hx hZ e8 Ar10 (j := (0 : Int32)) hin10 (g := (mkF m 37 #[oR a1, oR mm, oR rr, oI 0, oR m0, oR r0, oD u0, .second, oI 0, .unset, .unset, .unset, .unset, .unset] [(.double ea), (.int 0), (.ref m0)])) rfl rfl (hb hby own_d8_37)
  have R11 := fun t k => R9 t (st11 t k)
  clear R9 st11 X8 e8
  have Z11 : n0 ≤ h11.size := Nat.le_trans Z0 (Keep.of_wr W11).1
  have K11 : Keep h0 h11 [m0, r0] := (Keep.refl h0 [m0, r0]).wr W11 (Or.inl (by simp))
  have N11 := Fr.snoc X11 N0 g_m0
  have f12 : oF Z h11 a1 "rows" "I" (.int 2) := F_a1_rows.other W11 (Or.inl ne_a1_m0)
  have f13 : Arv Z h11 mm ka (.array .double) (2 : Int32) [(.ref m0), (.ref m1)] .null := V_mm.other W11 ne_mm_m0
  have f14 : Arv Z h11 rr kb (.array .double) (2 : Int32) [(.ref r0), (.ref r1)] .null := V_rr.other W11 ne_rr_m0
  have f15 : Arv Z h11 r0 kd .double (2 : Int32) [(.double w0), (.double w1)] (.double 0) := V_r0.other W11 (Ne.symm ne_m0_r0)
  have f16 : Arv Z h11 m1 ke .double (2 : Int32) [(.double 0), (.double zo)] (.double 0) := V_m1.other W11 ne_m1_m0
  have V11 : Arv Z h11 m0 kc .double (2 : Int32) [(.double ea), (.double u1)] (.double 0) := Arv.set Ar10 q10 S10 N10' H10 G10 rfl W11 0 rfl (Nat.le_of_ble_eq_true rfl)
  clear Ar10 q10 S10 N10' H10 G10 hin10 W11
  have R17 : ∀ t, oG p e below T11 m 43 #[oR a1, oR mm, oR rr, oI 0, oR m0, oR r0, oD u0, .second, oI 0, .unset, .unset, .unset, .unset, .unset] [(.int 0), (.ref r0), (.int 0), (.ref r0)] t → Steps p.tables e below AA t := by
    intro t k
    refine R11 t ?_
    refine XS.aload X11.here hx rfl (hb hby own_d8_38) rfl rfl ?_
    refine XS.iload X11.here hx rfl (hb hby own_d8_40) rfl ?_
    refine Jvm.Free.XT.dup2 X11.here hx rfl (hb hby own_d8_42) rfl rfl rfl ?_
    exact k
  clear R11
  obtain ⟨cl18, Ar18, q18, S18, N18', H18, G18⟩ := id f15
  have hin18_0 : ¬ ((0 : Int32) < 0 ∨ cl18.slots.size ≤ ((0 : Int32)).toNatClampNeg) := inb_of S18 ⟨by decide, by decide⟩
  have hat18_0 : cl18.slots[((0 : Int32)).toNatClampNeg]? = some (.double w0) := H18.at hin18_0 rfl
  have R19 : ∀ t, oG p e below T11 m 47 #[oR a1, oR mm, oR rr, oI 0, oR m0, oR r0, oD u0, .second, oI 0, .unset, .unset, .unset, .unset, .unset] [(.double fa), (.int 0), (.ref r0)] t → Steps p.tables e below AA t := by
    intro t k
    refine R17 t ?_
    refine X11.daload hx (j := (0 : Int32)) (v := (.double w0)) (by rw [e11]; exact Ar18.1) (State.isArrayOf_alike hZ.alike Ar18.2.1) Ar18.2.2 hin18_0 hat18_0 (g := (mkF m 43 #[oR a1, oR mm, oR rr, oI 0, oR m0, oR r0, oD u0, .second, oI 0, .unset, .unset, .unset, .unset, .unset] [(.int 0), (.ref r0), (.int 0), (.ref r0)])) rfl rfl (hb hby own_d8_43) _ ?_
    refine XS.dload X11.here hx rfl (hb hby own_d8_44) rfl ?_
    refine XS.ddivS X11.here hx rfl (hb hby own_d8_46) rfl (by rw [hfa]; exact nfa) hfa ?_
    exact k
  clear R17
  obtain ⟨cl20, Ar20, q20, S20, N20', H20, G20⟩ := id f15
  have hin20 : ¬ ((0 : Int32) < 0 ∨ cl20.slots.size ≤ ((0 : Int32)).toNatClampNeg) := inb_of S20 ⟨by decide, by decide⟩
  obtain ⟨T21, h21, X21, e21, W21, st21⟩ := stD X11 hx hZ e11 Ar20 (j := (0 : Int32)) hin20 (g := (mkF m 47 #[oR a1, oR mm, oR rr, oI 0, oR m0, oR r0, oD u0, .second, oI 0, .unset, .unset, .unset, .unset, .unset] [(.double fa), (.int 0), (.ref r0)])) rfl rfl (hb hby own_d8_47)
  have R21 := fun t k => R19 t (st21 t k)
  clear R19 st21 X11 e11
  have Z21 : n0 ≤ h21.size := Nat.le_trans Z11 (Keep.of_wr W21).1
  clear Z11
  have K21 : Keep h0 h21 [m0, r0] := K11.wr W21 (Or.inl (by simp))
  have N21 := Fr.snoc X21 N11 g_r0
  clear K11
  clear N11
  have f22 : oF Z h21 a1 "rows" "I" (.int 2) := f12.other W21 (Or.inl ne_a1_r0)
  clear f12
  have f23 : Arv Z h21 mm ka (.array .double) (2 : Int32) [(.ref m0), (.ref m1)] .null := f13.other W21 ne_mm_r0
  clear f13
  have f24 : Arv Z h21 rr kb (.array .double) (2 : Int32) [(.ref r0), (.ref r1)] .null := f14.other W21 ne_rr_r0
  clear f14
  have f25 : Arv Z h21 m1 ke .double (2 : Int32) [(.double 0), (.double zo)] (.double 0) := f16.other W21 ne_m1_r0
  clear f16
  have f26 : Arv Z h21 m0 kc .double (2 : Int32) [(.double ea), (.double u1)] (.double 0) := V11.other W21 ne_m0_r0
  clear V11
  have V21 : Arv Z h21 r0 kd .double (2 : Int32) [(.double fa), (.double w1)] (.double 0) := Arv.set Ar20 q20 S20 N20' H20 G20 rfl W21 0 rfl (Nat.le_of_ble_eq_true rfl)
  clear Ar20 q20 S20 N20' H20 G20 hin20 W21 f15
  have R27 : ∀ t, oG p e below T21 m 22 #[oR a1, oR mm, oR rr, oI 0, oR m0, oR r0, oD u0, .second, oI 1, .unset, .unset, .unset, .unset, .unset] [(.ref a1), (.int 1)] t → Steps p.tables e below AA t := by
    intro t k
    refine R21 t ?_
    refine XS.iinc X21.here hx rfl (hb hby own_d8_48) rfl (l' := #[oR a1, oR mm, oR rr, oI 0, oR m0, oR r0, oD u0, .second, oI 1, .unset, .unset, .unset, .unset, .unset]) rfl ?_
    refine XS.goto X21.here hx rfl (pc0 := 51) (pc' := 19) rfl (hb hby own_d8_51) (by decide) (by decide) ?_
    refine XS.iload X21.here hx rfl (hb hby own_d8_19) rfl ?_
    refine XS.aloadN X21.here hx rfl (hb hby own_d8_21) rfl rfl ?_
    exact k
  clear R21
  obtain ⟨T28, X28, e28, st28⟩ := getF X21 hx hZ hown (host := "") (Or.inl (oW hw 24 rfl)) Via.refl e21 f22 (g := (mkF m 22 #[oR a1, oR mm, oR rr, oI 0, oR m0, oR r0, oD u0, .second, oI 1, .unset, .unset, .unset, .unset, .unset] [(.ref a1), (.int 1)])) rfl rfl (hb hby own_d8_22)
  have R28 := fun t k => R27 t (st28 t k)
  clear R27 st28 X21 e21
  have R29 : ∀ t, oG p e below T28 m 33 #[oR a1, oR mm, oR rr, oI 0, oR m0, oR r0, oD u0, .second, oI 1, .unset, .unset, .unset, .unset, .unset] [(.int 1), (.ref m0), (.int 1), (.ref m0)] t → Steps p.tables e below AA t := by
    intro t k
    refine R28 t ?_
    refine XS.icmpNo X28.here hx rfl (hb hby own_d8_25) rfl (tlt (by decide : ((1 : Int32) < (2 : Int32)))).2.1 ?_
    refine XS.aload X28.here hx rfl (hb hby own_d8_28) rfl rfl ?_
    refine XS.iload X28.here hx rfl (hb hby own_d8_30) rfl ?_
    refine Jvm.Free.XT.dup2 X28.here hx rfl (hb hby own_d8_32) rfl rfl rfl ?_
    exact k
  clear R28
  obtain ⟨cl30, Ar30, q30, S30, N30', H30, G30⟩ := id f26
  have hin30_1 : ¬ ((1 : Int32) < 0 ∨ cl30.slots.size ≤ ((1 : Int32)).toNatClampNeg) := inb_of S30 ⟨by decide, by decide⟩
  have hat30_1 : cl30.slots[((1 : Int32)).toNatClampNeg]? = some (.double u1) := H30.at hin30_1 rfl
  have R31 : ∀ t, oG p e below T28 m 37 #[oR a1, oR mm, oR rr, oI 0, oR m0, oR r0, oD u0, .second, oI 1, .unset, .unset, .unset, .unset, .unset] [(.double eb), (.int 1), (.ref m0)] t → Steps p.tables e below AA t := by
    intro t k
    refine R29 t ?_
    refine X28.daload hx (j := (1 : Int32)) (v := (.double u1)) (by rw [e28]; exact Ar30.1) (State.isArrayOf_alike hZ.alike Ar30.2.1) Ar30.2.2 hin30_1 hat30_1 (g := (mkF m 33 #[oR a1, oR mm, oR rr, oI 0, oR m0, oR r0, oD u0, .second, oI 1, .unset, .unset, .unset, .unset, .unset] [(.int 1), (.ref m0), (.int 1), (.ref m0)])) rfl rfl (hb hby own_d8_33) _ ?_
    refine XS.dload X28.here hx rfl (hb hby own_d8_34) rfl ?_
    refine XS.ddivS X28.here hx rfl (hb hby own_d8_36) rfl (by rw [heb]; exact neb) heb ?_
    exact k
  clear R29
  obtain ⟨cl32, Ar32, q32, S32, N32', H32, G32⟩ := id f26
  have hin32 : ¬ ((1 : Int32) < 0 ∨ cl32.slots.size ≤ ((1 : Int32)).toNatClampNeg) := inb_of S32 ⟨by decide, by decide⟩
  obtain ⟨T33, h33, X33, e33, W33, st33⟩ := stD X28 hx hZ e28 Ar32 (j := (1 : Int32)) hin32 (g := (mkF m 37 #[oR a1, oR mm, oR rr, oI 0, oR m0, oR r0, oD u0, .second, oI 1, .unset, .unset, .unset, .unset, .unset] [(.double eb), (.int 1), (.ref m0)])) rfl rfl (hb hby own_d8_37)
  have R33 := fun t k => R31 t (st33 t k)
  clear R31 st33 X28 e28
  have Z33 : n0 ≤ h33.size := Nat.le_trans Z21 (Keep.of_wr W33).1
  clear Z21
  have K33 : Keep h0 h33 [m0, r0] := K21.wr W33 (Or.inl (by simp))
  have N33 := Fr.snoc X33 N21 g_m0
  clear K21
  clear N21
  have f34 : oF Z h33 a1 "rows" "I" (.int 2) := f22.other W33 (Or.inl ne_a1_m0)
  clear f22
  have f35 : Arv Z h33 mm ka (.array .double) (2 : Int32) [(.ref m0), (.ref m1)] .null := f23.other W33 ne_mm_m0
  clear f23
  have f36 : Arv Z h33 rr kb (.array .double) (2 : Int32) [(.ref r0), (.ref r1)] .null := f24.other W33 ne_rr_m0
  clear f24
  have f37 : Arv Z h33 m1 ke .double (2 : Int32) [(.double 0), (.double zo)] (.double 0) := f25.other W33 ne_m1_m0
  clear f25
  have f38 : Arv Z h33 r0 kd .double (2 : Int32) [(.double fa), (.double w1)] (.double 0) := V21.other W33 (Ne.symm ne_m0_r0)
  clear V21
  have V33 : Arv Z h33 m0 kc .double (2 : Int32) [(.double ea), (.double eb)] (.double 0) := Arv.set Ar32 q32 S32 N32' H32 G32 rfl W33 1 rfl (Nat.le_of_ble_eq_true rfl)
  clear Ar32 q32 S32 N32' H32 G32 hin32 W33 f26
  have R39 : ∀ t, oG p e below T33 m 43 #[oR a1, oR mm, oR rr, oI 0, oR m0, oR r0, oD u0, .second, oI 1, .unset, .unset, .unset, .unset, .unset] [(.int 1), (.ref r0), (.int 1), (.ref r0)] t → Steps p.tables e below AA t := by
    intro t k
    refine R33 t ?_
    refine XS.aload X33.here hx rfl (hb hby own_d8_38) rfl rfl ?_
    refine XS.iload X33.here hx rfl (hb hby own_d8_40) rfl ?_
    refine Jvm.Free.XT.dup2 X33.here hx rfl (hb hby own_d8_42) rfl rfl rfl ?_
    exact k
  clear R33
  obtain ⟨cl40, Ar40, q40, S40, N40', H40, G40⟩ := id f38
  have hin40_1 : ¬ ((1 : Int32) < 0 ∨ cl40.slots.size ≤ ((1 : Int32)).toNatClampNeg) := inb_of S40 ⟨by decide, by decide⟩
  have hat40_1 : cl40.slots[((1 : Int32)).toNatClampNeg]? = some (.double w1) := H40.at hin40_1 rfl
  have R41 : ∀ t, oG p e below T33 m 47 #[oR a1, oR mm, oR rr, oI 0, oR m0, oR r0, oD u0, .second, oI 1, .unset, .unset, .unset, .unset, .unset] [(.double fb), (.int 1), (.ref r0)] t → Steps p.tables e below AA t := by
    intro t k
    refine R39 t ?_
    refine X33.daload hx (j := (1 : Int32)) (v := (.double w1)) (by rw [e33]; exact Ar40.1) (State.isArrayOf_alike hZ.alike Ar40.2.1) Ar40.2.2 hin40_1 hat40_1 (g := (mkF m 43 #[oR a1, oR mm, oR rr, oI 0, oR m0, oR r0, oD u0, .second, oI 1, .unset, .unset, .unset, .unset, .unset] [(.int 1), (.ref r0), (.int 1), (.ref r0)])) rfl rfl (hb hby own_d8_43) _ ?_
    refine XS.dload X33.here hx rfl (hb hby own_d8_44) rfl ?_
    refine XS.ddivS X33.here hx rfl (hb hby own_d8_46) rfl (by rw [hfb]; exact nfb) hfb ?_
    exact k
  clear R39
  obtain ⟨cl42, Ar42, q42, S42, N42', H42, G42⟩ := id f38
  have hin42 : ¬ ((1 : Int32) < 0 ∨ cl42.slots.size ≤ ((1 : Int32)).toNatClampNeg) := inb_of S42 ⟨by decide, by decide⟩
  obtain ⟨T43, h43, X43, e43, W43, st43⟩ := stD X33 hx hZ e33 Ar42 (j := (1 : Int32)) hin42 (g := (mkF m 47 #[oR a1, oR mm, oR rr, oI 0, oR m0, oR r0, oD u0, .second, oI 1, .unset, .unset, .unset, .unset, .unset] [(.double fb), (.int 1), (.ref r0)])) rfl rfl (hb hby own_d8_47)
  have R43 := fun t k => R41 t (st43 t k)
  clear R41 st43 X33 e33
  have Z43 : n0 ≤ h43.size := Nat.le_trans Z33 (Keep.of_wr W43).1
  clear Z33
  have K43 : Keep h0 h43 [m0, r0] := K33.wr W43 (Or.inl (by simp))
  have N43 := Fr.snoc X43 N33 g_r0
  clear K33
  clear N33
  have f44 : oF Z h43 a1 "rows" "I" (.int 2) := f34.other W43 (Or.inl ne_a1_r0)
  clear f34
  have f45 : Arv Z h43 mm ka (.array .double) (2 : Int32) [(.ref m0), (.ref m1)] .null := f35.other W43 ne_mm_r0
  clear f35
  have f46 : Arv Z h43 rr kb (.array .double) (2 : Int32) [(.ref r0), (.ref r1)] .null := f36.other W43 ne_rr_r0
  clear f36
  have f47 : Arv Z h43 m1 ke .double (2 : Int32) [(.double 0), (.double zo)] (.double 0) := f37.other W43 ne_m1_r0
  clear f37
  have f48 : Arv Z h43 m0 kc .double (2 : Int32) [(.double ea), (.double eb)] (.double 0) := V33.other W43 ne_m0_r0
  clear V33
  have V43 : Arv Z h43 r0 kd .double (2 : Int32) [(.double fa), (.double fb)] (.double 0) := Arv.set Ar42 q42 S42 N42' H42 G42 rfl W43 1 rfl (Nat.le_of_ble_eq_true rfl)
  clear Ar42 q42 S42 N42' H42 G42 hin42 W43 f38
  have R49 : ∀ t, oG p e below T43 m 22 #[oR a1, oR mm, oR rr, oI 0, oR m0, oR r0, oD u0, .second, oI 2, .unset, .unset, .unset, .unset, .unset] [(.ref a1), (.int 2)] t → Steps p.tables e below AA t := by
    intro t k
    refine R43 t ?_
    refine XS.iinc X43.here hx rfl (hb hby own_d8_48) rfl (l' := #[oR a1, oR mm, oR rr, oI 0, oR m0, oR r0, oD u0, .second, oI 2, .unset, .unset, .unset, .unset, .unset]) rfl ?_
    refine XS.goto X43.here hx rfl (pc0 := 51) (pc' := 19) rfl (hb hby own_d8_51) (by decide) (by decide) ?_
    refine XS.iload X43.here hx rfl (hb hby own_d8_19) rfl ?_
    refine XS.aloadN X43.here hx rfl (hb hby own_d8_21) rfl rfl ?_
    exact k
  clear R43
  obtain ⟨T50, X50, e50, st50⟩ := getF X43 hx hZ hown (host := "") (Or.inl (oW hw 24 rfl)) Via.refl e43 f44 (g := (mkF m 22 #[oR a1, oR mm, oR rr, oI 0, oR m0, oR r0, oD u0, .second, oI 2, .unset, .unset, .unset, .unset, .unset] [(.ref a1), (.int 2)])) rfl rfl (hb hby own_d8_22)
  have R50 := fun t k => R49 t (st50 t k)
  clear R49 st50 X43 e43
  have R51 : ∀ t, oG p e below T50 m 60 #[oR a1, oR mm, oR rr, oI 0, oR m0, oR r0, oD u0, .second, oI 0, .unset, .unset, .unset, .unset, .unset] [(.ref a1), (.int 0)] t → Steps p.tables e below AA t := by
    intro t k
    refine R50 t ?_
    refine XS.icmpYes X50.here hx rfl (pc0 := 25) (pc' := 54) rfl (hb hby own_d8_25) rfl (flt (by decide : ¬ ((2 : Int32) < (2 : Int32)))).2.1 (by decide) (by decide) ?_
    refine XS.iconst X50.here hx rfl (hb hby own_d8_54) ?_
    refine XS.istore X50.here hx rfl (hb hby own_d8_55) rfl (l' := #[oR a1, oR mm, oR rr, oI 0, oR m0, oR r0, oD u0, .second, oI 0, .unset, .unset, .unset, .unset, .unset]) rfl ?_
    refine XS.iload X50.here hx rfl (hb hby own_d8_57) rfl ?_
    refine XS.aloadN X50.here hx rfl (hb hby own_d8_59) rfl rfl ?_
    exact k
  clear R50
  obtain ⟨T52, X52, e52, st52⟩ := getF X50 hx hZ hown (host := "") (Or.inl (oW hw 24 rfl)) Via.refl e50 f44 (g := (mkF m 60 #[oR a1, oR mm, oR rr, oI 0, oR m0, oR r0, oD u0, .second, oI 0, .unset, .unset, .unset, .unset, .unset] [(.ref a1), (.int 0)])) rfl rfl (hb hby own_d8_60)
  have R52 := fun t k => R51 t (st52 t k)
  clear R51 st52 X50 e50
  have R53 : ∀ t, oG p e below T52 m 69 #[oR a1, oR mm, oR rr, oI 0, oR m0, oR r0, oD u0, .second, oI 0, .unset, .unset, .unset, .unset, .unset] [(.int 0), (.ref mm)] t → Steps p.tables e below AA t := by
    intro t k
    refine R52 t ?_
    refine XS.icmpNo X52.here hx rfl (hb hby own_d8_63) rfl (tlt (by decide : ((0 : Int32) < (2 : Int32)))).2.1 ?_
    refine XS.aloadN X52.here hx rfl (hb hby own_d8_66) rfl rfl ?_
    refine XS.iload X52.here hx rfl (hb hby own_d8_67) rfl ?_
    exact k
  clear R52
  obtain ⟨cl54, Ar54, q54, S54, N54', H54, G54⟩ := id f45
  have hin54_0 : ¬ ((0 : Int32) < 0 ∨ cl54.slots.size ≤ ((0 : Int32)).toNatClampNeg) := inb_of S54 ⟨by decide, by decide⟩
  have hat54_0 : cl54.slots[((0 : Int32)).toNatClampNeg]? = some (.ref m0) := H54.at hin54_0 rfl
  have R55 : ∀ t, oG p e below T52 m 71 #[oR a1, oR mm, oR rr, oI 0, oR m0, oR r0, oD u0, .second, oI 0, .unset, .unset, .unset, .unset, .unset] [(.int 0), (.ref m0)] t → Steps p.tables e below AA t := by
    intro t k
    refine R53 t ?_
    refine X52.aaload hx (j := (0 : Int32)) (v := (.ref m0)) (by rw [e52]; exact Ar54.1) (State.isArrayOf_alike hZ.alike Ar54.2.1) rfl Ar54.2.2 hin54_0 hat54_0 (g := (mkF m 69 #[oR a1, oR mm, oR rr, oI 0, oR m0, oR r0, oD u0, .second, oI 0, .unset, .unset, .unset, .unset, .unset] [(.int 0), (.ref mm)])) rfl rfl (hb hby own_d8_69) _ ?_
    refine XS.iloadN X52.here hx rfl (hb hby own_d8_70) rfl ?_
    exact k
  clear R53
  obtain ⟨cl56, Ar56, q56, S56, N56', H56, G56⟩ := id f48
  have hin56_0 : ¬ ((0 : Int32) < 0 ∨ cl56.slots.size ≤ ((0 : Int32)).toNatClampNeg) := inb_of S56 ⟨by decide, by decide⟩
  have hat56_0 : cl56.slots[((0 : Int32)).toNatClampNeg]? = some (.double ea) := H56.at hin56_0 rfl
  have R57 : ∀ t, oG p e below T52 m 60 #[oR a1, oR mm, oR rr, oI 0, oR m0, oR r0, oD u0, .second, oI 1, oD ea, .second, .unset, .unset, .unset] [(.ref a1), (.int 1)] t → Steps p.tables e below AA t := by
    intro t k
    refine R55 t ?_
    refine X52.daload hx (j := (0 : Int32)) (v := (.double ea)) (by rw [e52]; exact Ar56.1) (State.isArrayOf_alike hZ.alike Ar56.2.1) Ar56.2.2 hin56_0 hat56_0 (g := (mkF m 71 #[oR a1, oR mm, oR rr, oI 0, oR m0, oR r0, oD u0, .second, oI 0, .unset, .unset, .unset, .unset, .unset] [(.int 0), (.ref m0)])) rfl rfl (hb hby own_d8_71) _ ?_
    refine XS.dstore X52.here hx rfl (hb hby own_d8_72) rfl (l' := #[oR a1, oR mm, oR rr, oI 0, oR m0, oR r0, oD u0, .second, oI 0, oD ea, .second, .unset, .unset, .unset]) rfl ?_
    refine XS.iload X52.here hx rfl (hb hby own_d8_74) rfl ?_
    refine XS.iloadN X52.here hx rfl (hb hby own_d8_76) rfl ?_
    refine XS.icmpYes X52.here hx rfl (pc0 := 77) (pc' := 149) rfl (hb hby own_d8_77) rfl (teq (by decide : ((0 : Int32) = (0 : Int32)))).1 (by decide) (by decide) ?_
    show oG p e below T52 m 149 #[oR a1, oR mm, oR rr, oI 0, oR m0, oR r0, oD u0, .second, oI 0, oD ea, .second, .unset, .unset, .unset] [] _
    refine XS.iinc X52.here hx rfl (hb hby own_d8_149) rfl (l' := #[oR a1, oR mm, oR rr, oI 0, oR m0, oR r0, oD u0, .second, oI 1, oD ea, .second, .unset, .unset, .unset]) rfl ?_
    refine XS.goto X52.here hx rfl (pc0 := 152) (pc' := 57) rfl (hb hby own_d8_152) (by decide) (by decide) ?_
    refine XS.iload X52.here hx rfl (hb hby own_d8_57) rfl ?_
    refine XS.aloadN X52.here hx rfl (hb hby own_d8_59) rfl rfl ?_
    exact k
  clear R55
  obtain ⟨T58, X58, e58, st58⟩ := getF X52 hx hZ hown (host := "") (Or.inl (oW hw 24 rfl)) Via.refl e52 f44 (g := (mkF m 60 #[oR a1, oR mm, oR rr, oI 0, oR m0, oR r0, oD u0, .second, oI 1, oD ea, .second, .unset, .unset, .unset] [(.ref a1), (.int 1)])) rfl rfl (hb hby own_d8_60)
  have R58 := fun t k => R57 t (st58 t k)
  clear R57 st58 X52 e52
  have R59 : ∀ t, oG p e below T58 m 69 #[oR a1, oR mm, oR rr, oI 0, oR m0, oR r0, oD u0, .second, oI 1, oD ea, .second, .unset, .unset, .unset] [(.int 1), (.ref mm)] t → Steps p.tables e below AA t := by
    intro t k
    refine R58 t ?_
    refine XS.icmpNo X58.here hx rfl (hb hby own_d8_63) rfl (tlt (by decide : ((1 : Int32) < (2 : Int32)))).2.1 ?_
    refine XS.aloadN X58.here hx rfl (hb hby own_d8_66) rfl rfl ?_
    refine XS.iload X58.here hx rfl (hb hby own_d8_67) rfl ?_
    exact k
  clear R58
  have hin54_1 : ¬ ((1 : Int32) < 0 ∨ cl54.slots.size ≤ ((1 : Int32)).toNatClampNeg) := inb_of S54 ⟨by decide, by decide⟩
  have hat54_1 : cl54.slots[((1 : Int32)).toNatClampNeg]? = some (.ref m1) := H54.at hin54_1 rfl
  have R60 : ∀ t, oG p e below T58 m 71 #[oR a1, oR mm, oR rr, oI 0, oR m0, oR r0, oD u0, .second, oI 1, oD ea, .second, .unset, .unset, .unset] [(.int 0), (.ref m1)] t → Steps p.tables e below AA t := by
    intro t k
    refine R59 t ?_
    refine X58.aaload hx (j := (1 : Int32)) (v := (.ref m1)) (by rw [e58]; exact Ar54.1) (State.isArrayOf_alike hZ.alike Ar54.2.1) rfl Ar54.2.2 hin54_1 hat54_1 (g := (mkF m 69 #[oR a1, oR mm, oR rr, oI 0, oR m0, oR r0, oD u0, .second, oI 1, oD ea, .second, .unset, .unset, .unset] [(.int 1), (.ref mm)])) rfl rfl (hb hby own_d8_69) _ ?_
    refine XS.iloadN X58.here hx rfl (hb hby own_d8_70) rfl ?_
    exact k
  clear R59
  obtain ⟨cl61, Ar61, q61, S61, N61', H61, G61⟩ := id f47
  have hin61_0 : ¬ ((0 : Int32) < 0 ∨ cl61.slots.size ≤ ((0 : Int32)).toNatClampNeg) := inb_of S61 ⟨by decide, by decide⟩
  have hat61_0 : cl61.slots[((0 : Int32)).toNatClampNeg]? = some (.double 0) := H61.at hin61_0 rfl
  have R62 : ∀ t, oG p e below T58 m 60 #[oR a1, oR mm, oR rr, oI 0, oR m0, oR r0, oD u0, .second, oI 2, oD 0, .second, .unset, .unset, .unset] [(.ref a1), (.int 2)] t → Steps p.tables e below AA t := by
    intro t k
    refine R60 t ?_
    refine X58.daload hx (j := (0 : Int32)) (v := (.double 0)) (by rw [e58]; exact Ar61.1) (State.isArrayOf_alike hZ.alike Ar61.2.1) Ar61.2.2 hin61_0 hat61_0 (g := (mkF m 71 #[oR a1, oR mm, oR rr, oI 0, oR m0, oR r0, oD u0, .second, oI 1, oD ea, .second, .unset, .unset, .unset] [(.int 0), (.ref m1)])) rfl rfl (hb hby own_d8_71) _ ?_
    refine XS.dstore X58.here hx rfl (hb hby own_d8_72) rfl (l' := #[oR a1, oR mm, oR rr, oI 0, oR m0, oR r0, oD u0, .second, oI 1, oD 0, .second, .unset, .unset, .unset]) rfl ?_
    refine XS.iload X58.here hx rfl (hb hby own_d8_74) rfl ?_
    refine XS.iloadN X58.here hx rfl (hb hby own_d8_76) rfl ?_
    refine XS.icmpNo X58.here hx rfl (hb hby own_d8_77) rfl (feq (by decide : ¬ ((1 : Int32) = (0 : Int32)))).1 ?_
    show oG p e below T58 m 80 #[oR a1, oR mm, oR rr, oI 0, oR m0, oR r0, oD u0, .second, oI 1, oD 0, .second, .unset, .unset, .unset] [] _
    refine XS.dload X58.here hx rfl (hb hby own_d8_80) rfl ?_
    refine XS.dconst0 X58.here hx rfl (hb hby own_d8_82) (v := (0 : UInt64)) (by decide +kernel) ?_
    refine XS.dcmpS X58.here hx rfl (hb hby own_d8_83) rfl own_00 ?_
    refine XS.ifYes X58.here hx rfl (pc0 := 84) (pc' := 149) rfl (hb hby own_d8_84) rfl ((if0 _ _).trans (teq (by decide : ((0 : Int32) = (0 : Int32)))).1) (by decide) (by decide) ?_
    refine XS.iinc X58.here hx rfl (hb hby own_d8_149) rfl (l' := #[oR a1, oR mm, oR rr, oI 0, oR m0, oR r0, oD u0, .second, oI 2, oD 0, .second, .unset, .unset, .unset]) rfl ?_
    refine XS.goto X58.here hx rfl (pc0 := 152) (pc' := 57) rfl (hb hby own_d8_152) (by decide) (by decide) ?_
    show oG p e below T58 m 57 #[oR a1, oR mm, oR rr, oI 0, oR m0, oR r0, oD u0, .second, oI 2, oD 0, .second, .unset, .unset, .unset] [] _
    refine XS.iload X58.here hx rfl (hb hby own_d8_57) rfl ?_
    refine XS.aloadN X58.here hx rfl (hb hby own_d8_59) rfl rfl ?_
    exact k
  clear R60
  obtain ⟨T63, X63, e63, st63⟩ := getF X58 hx hZ hown (host := "") (Or.inl (oW hw 24 rfl)) Via.refl e58 f44 (g := (mkF m 60 #[oR a1, oR mm, oR rr, oI 0, oR m0, oR r0, oD u0, .second, oI 2, oD 0, .second, .unset, .unset, .unset] [(.ref a1), (.int 2)])) rfl rfl (hb hby own_d8_60)
  have R63 := fun t k => R62 t (st63 t k)
  clear R62 st63 X58 e58
  have R64 : ∀ t, oG p e below T63 m 155 #[oR a1, oR mm, oR rr, oI 0, oR m0, oR r0, oD u0, .second, oI 2, oD 0, .second, .unset, .unset, .unset] [] t → Steps p.tables e below AA t := by
    intro t k
    refine R63 t ?_
    refine XS.icmpYes X63.here hx rfl (pc0 := 63) (pc' := 155) rfl (hb hby own_d8_63) rfl (flt (by decide : ¬ ((2 : Int32) < (2 : Int32)))).2.1 (by decide) (by decide) ?_
    exact k
  clear R63
  subst hAA
  obtain ⟨fs, hr, hrun, hended, hW, hsame⟩ := X63.leave (v := none) (fun _ => rfl)
  refine ⟨_, _, R64 _ ?_, hrun, hended, _, _, rfl, ?_, ⟨_, rfl⟩, hW, hsame.mono (by decide) (by decide)⟩
  · exact X63.returnOut hx Bd.returns (hb hby own_d8_155) hr
  · show Q_rmEl0 Z a1 mm rr m0 m1 r0 r1 ka kb kc kd ke u0 u1 w0 w1 zo ea eb fa fb h0 n0 _ T63.heap _
    rw [e63]
    exact ⟨rfl, N43, K43, f48, V43⟩
theorem own_ef_rmEl1 (m : MethodId) (x0 : Addr) (x1 : Addr) (x2 : Addr) (x3 : Int32) : entryFrame m #[(.ref x0), (.ref x1), (.ref x2), (.int x3)] 14 = mkF m 0 #[oR x0, oR x1, oR x2, oI x3, .unset, .unset, .unset, .unset, .unset, .unset, .unset, .unset, .unset, .unset] [] := by first | (simp [entryFrame, mkF, argsToLocals, Value.category]; done) | rfl
def Q_rmEl1 (Z : State) (a1 mm rr m0 m1 r1 : Addr) (r0 : Addr) (ka kb kc kd ke : ClassId) (u0 u1 w0 w1 zo ea eb fa fb : UInt64) (h0 : Heap) (n0 : Nat) (v : Option Value) (h : Heap) (L : List Loc) : Prop := v = none ∧ Fr n0 L ∧ Keep h0 h [m1, r1] ∧ Arv Z h m1 kc .double (2 : Int32) [(.double ea), (.double eb)] (.double 0) ∧ Arv Z h r1 kd .double (2 : Int32) [(.double fa), (.double fb)] (.double 0)
set_option maxRecDepth 65536 in
set_option maxHeartbeats 40000000 in
theorem rmEl1 (l : Launch) (Z : State) (a0 : Array Value) (hw : ∀ d ∈ tables_1, d.before a0 Z = true) (ws : List Jvm.Cond) (a1 mm rr m0 m1 r1 : Addr) (r0 : Addr) (ka kb kc kd ke : ClassId) (u0 u1 w0 w1 zo ea eb fa fb : UInt64) (h0 : Heap) (n0 : Nat) (Z0 : n0 ≤ h0.size) (F_a1_rows : oF Z h0 a1 "rows" "I" (.int 2)) (V_mm : Arv Z h0 mm ka (.array .double) (2 : Int32) [(.ref m0), (.ref m1)] .null) (V_rr : Arv Z h0 rr kb (.array .double) (2 : Int32) [(.ref r0), (.ref r1)] .null) (V_m1 : Arv Z h0 m1 kc .double (2 : Int32) [(.double u0), (.double u1)] (.double 0)) (V_r1 : Arv Z h0 r1 kd .double (2 : Int32) [(.double w0), (.double w1)] (.double 0)) (V_m0 : Arv Z h0 m0 ke .double (2 : Int32) [(.double zo), (.double 0)] (.double 0)) (ne_a1_m1 : a1 ≠ m1) (ne_a1_r1 : a1 ≠ r1) (ne_mm_m1 : mm ≠ m1) (ne_mm_r1 : mm ≠ r1) (ne_rr_m1 : rr ≠ m1) (ne_rr_r1 : rr ≠ r1) (ne_m0_m1 : m0 ≠ m1) (ne_m0_r1 : m0 ≠ r1) (ne_m1_r1 : m1 ≠ r1) (g_m1 : n0 ≤ m1) (g_r1 : n0 ≤ r1) (hea : FP.ddiv u0 u1 = ea) (nea : oX ea) (heb : FP.ddiv u1 u1 = eb) (neb : oX eb) (hfa : FP.ddiv w0 u1 = fa) (nfa : oX fa) (hfb : FP.ddiv w1 u1 = fb) (nfb : oX fb) :
    MetFree l (oN "eliminate" "([[D[[DI)V") (head1 (Jvm.Cond.code (oN "eliminate" "([[D[[DI)V") prog_82_method_19_code 14 none :: ws) ({ frames := 0, cells := 0, slots := 0, locals := 0 } : Room)) (fun a U => a = #[(.ref a1), (.ref mm), (.ref rr), (.int 1)] ∧ Z.Warmed39 U.vm ∧ U.heap = h0) (fun _ _ _ _ _ => True) (fun _ U o U' => ∃ v L, o = .returned v ∧ Q_rmEl1 Z a1 mm rr m0 m1 r1 r0 ka kb kc kd ke u0 u1 w0 w1 zo ea eb fa fb h0 n0 v U'.heap L ∧ FrameEnd U o U' L ({ frames := 0, cells := 0, slots := 0, locals := 0 } : Room).cells ({ frames := 0, cells := 0, slots := 0, locals := 0 } : Room).slots) := by
  refine MetFree.of_bodySF (plainFor_of_name own_pn0) hisR ?_
  intro p e s m args below meth c s₁ Bd hml0 hP hK
  obtain ⟨rfl, hZ, hh⟩ := hP
  have hx := Bd.exec
  have hby := Bd.bytes
  have hml : c.maxLocals = 14 := hml0
  have hown : s.vm.findClass "com/example/trunkwright/trunkwright/traffic/RevisedSimplex" = some m.cls := findClass_of_methodNamed Bd.named
  have hnm := (name_of_methodNamed Bd.named Bd.method).1
  have X0 : Stand p l e ({ frames := 0, cells := 0, slots := 0, locals := 0 } : Room) s m #[(.ref a1), (.ref mm), (.ref rr), (.int 1)] below meth c s₁ [] 0 0 := Stand.of_body Bd
  have e0 : s₁.heap = h0 := by rw [← hh, Bd.state]; rfl
  have N0 := Fr.nil n0
  have R0 : ∀ t, oG p e below s₁ m 0 #[oR a1, oR mm, oR rr, oI 1, .unset, .unset, .unset, .unset, .unset, .unset, .unset, .unset, .unset, .unset] [] t → Steps p.tables e below (s₁.setTop (entryFrame m #[(.ref a1), (.ref mm), (.ref rr), (.int 1)] 14)) t := fun t k => castTop (own_ef_rmEl1 m a1 mm rr (1 : Int32)) k
  obtain ⟨AA, hAA⟩ : ∃ z, z = (s₁.setTop (entryFrame m #[(.ref a1), (.ref mm), (.ref rr), (.int 1)] 14)) := ⟨_, rfl⟩
  rw [← hAA] at R0
  have R1 : ∀ t, oG p e below s₁ m 2 #[oR a1, oR mm, oR rr, oI 1, .unset, .unset, .unset, .unset, .unset, .unset, .unset, .unset, .unset, .unset] [(.int 1), (.ref mm)] t → Steps p.tables e below AA t := by
    intro t k
    refine R0 t ?_
    refine XS.aloadN X0.here hx rfl (hb hby own_d8_0) rfl rfl ?_
    refine XS.iloadN X0.here hx rfl (hb hby own_d8_1) rfl ?_
    exact k
  obtain ⟨cl2, Ar2, q2, S2, N2', H2, G2⟩ := id V_mm
  have hin2_1 : ¬ ((1 : Int32) < 0 ∨ cl2.slots.size ≤ ((1 : Int32)).toNatClampNeg) := inb_of S2 ⟨by decide, by decide⟩
  have hat2_1 : cl2.slots[((1 : Int32)).toNatClampNeg]? = some (.ref m1) := H2.at hin2_1 rfl
  have R3 : ∀ t, oG p e below s₁ m 7 #[oR a1, oR mm, oR rr, oI 1, oR m1, .unset, .unset, .unset, .unset, .unset, .unset, .unset, .unset, .unset] [(.int 1), (.ref rr)] t → Steps p.tables e below AA t := by
    intro t k
    refine R1 t ?_
    refine X0.aaload hx (j := (1 : Int32)) (v := (.ref m1)) (by rw [e0]; exact Ar2.1) (State.isArrayOf_alike hZ.alike Ar2.2.1) rfl Ar2.2.2 hin2_1 hat2_1 (g := (mkF m 2 #[oR a1, oR mm, oR rr, oI 1, .unset, .unset, .unset, .unset, .unset, .unset, .unset, .unset, .unset, .unset] [(.int 1), (.ref mm)])) rfl rfl (hb hby own_d8_2) _ ?_
    refine XS.astore X0.here hx rfl (hb hby own_d8_3) rfl rfl (l' := #[oR a1, oR mm, oR rr, oI 1, oR m1, .unset, .unset, .unset, .unset, .unset, .unset, .unset, .unset, .unset]) rfl ?_
    refine XS.aloadN X0.here hx rfl (hb hby own_d8_5) rfl rfl ?_
    refine XS.iloadN X0.here hx rfl (hb hby own_d8_6) rfl ?_
    exact k
  clear R1
  obtain ⟨cl4, Ar4, q4, S4, N4', H4, G4⟩ := id V_rr
  have hin4_1 : ¬ ((1 : Int32) < 0 ∨ cl4.slots.size ≤ ((1 : Int32)).toNatClampNeg) := inb_of S4 ⟨by decide, by decide⟩
  have hat4_1 : cl4.slots[((1 : Int32)).toNatClampNeg]? = some (.ref r1) := H4.at hin4_1 rfl
  have R5 : ∀ t, oG p e below s₁ m 13 #[oR a1, oR mm, oR rr, oI 1, oR m1, oR r1, .unset, .unset, .unset, .unset, .unset, .unset, .unset, .unset] [(.int 1), (.ref m1)] t → Steps p.tables e below AA t := by
    intro t k
    refine R3 t ?_
    refine X0.aaload hx (j := (1 : Int32)) (v := (.ref r1)) (by rw [e0]; exact Ar4.1) (State.isArrayOf_alike hZ.alike Ar4.2.1) rfl Ar4.2.2 hin4_1 hat4_1 (g := (mkF m 7 #[oR a1, oR mm, oR rr, oI 1, oR m1, .unset, .unset, .unset, .unset, .unset, .unset, .unset, .unset, .unset] [(.int 1), (.ref rr)])) rfl rfl (hb hby own_d8_7) _ ?_
    refine XS.astore X0.here hx rfl (hb hby own_d8_8) rfl rfl (l' := #[oR a1, oR mm, oR rr, oI 1, oR m1, oR r1, .unset, .unset, .unset, .unset, .unset, .unset, .unset, .unset]) rfl ?_
    refine XS.aload X0.here hx rfl (hb hby own_d8_10) rfl rfl ?_
    refine XS.iloadN X0.here hx rfl (hb hby own_d8_12) rfl ?_
    exact k
  clear R3
  obtain ⟨cl6, Ar6, q6, S6, N6', H6, G6⟩ := id V_m1
  have hin6_1 : ¬ ((1 : Int32) < 0 ∨ cl6.slots.size ≤ ((1 : Int32)).toNatClampNeg) := inb_of S6 ⟨by decide, by decide⟩
  have hat6_1 : cl6.slots[((1 : Int32)).toNatClampNeg]? = some (.double u1) := H6.at hin6_1 rfl
  have R7 : ∀ t, oG p e below s₁ m 22 #[oR a1, oR mm, oR rr, oI 1, oR m1, oR r1, oD u1, .second, oI 0, .unset, .unset, .unset, .unset, .unset] [(.ref a1), (.int 0)] t → Steps p.tables e below AA t := by
    intro t k
    refine R5 t ?_
    refine X0.daload hx (j := (1 : Int32)) (v := (.double u1)) (by rw [e0]; exact Ar6.1) (State.isArrayOf_alike hZ.alike Ar6.2.1) Ar6.2.2 hin6_1 hat6_1 (g := (mkF m 13 #[oR a1, oR mm, oR rr, oI 1, oR m1, oR r1, .unset, .unset, .unset, .unset, .unset, .unset, .unset, .unset] [(.int 1), (.ref m1)])) rfl rfl (hb hby own_d8_13) _ ?_
    refine XS.dstore X0.here hx rfl (hb hby own_d8_14) rfl (l' := #[oR a1, oR mm, oR rr, oI 1, oR m1, oR r1, oD u1, .second, .unset, .unset, .unset, .unset, .unset, .unset]) rfl ?_
    refine XS.iconst X0.here hx rfl (hb hby own_d8_16) ?_
    refine XS.istore X0.here hx rfl (hb hby own_d8_17) rfl (l' := #[oR a1, oR mm, oR rr, oI 1, oR m1, oR r1, oD u1, .second, oI 0, .unset, .unset, .unset, .unset, .unset]) rfl ?_
    refine XS.iload X0.here hx rfl (hb hby own_d8_19) rfl ?_
    show oG p e below s₁ m 21 #[oR a1, oR mm, oR rr, oI 1, oR m1, oR r1, oD u1, .second, oI 0, .unset, .unset, .unset, .unset, .unset] [(.int 0)] _
    refine XS.aloadN X0.here hx rfl (hb hby own_d8_21) rfl rfl ?_
    exact k
  clear R5
  obtain ⟨T8, X8, e8, st8⟩ := getF X0 hx hZ hown (host := "") (Or.inl (oW hw 24 rfl)) Via.refl e0 F_a1_rows (g := (mkF m 22 #[oR a1, oR mm, oR rr, oI 1, oR m1, oR r1, oD u1, .second, oI 0, .unset, .unset, .unset, .unset, .unset] [(.ref a1), (.int 0)])) rfl rfl (hb hby own_d8_22)
  have R8 := fun t k => R7 t (st8 t k)
  clear R7 st8
  have R9 : ∀ t, oG p e below T8 m 33 #[oR a1, oR mm, oR rr, oI 1, oR m1, oR r1, oD u1, .second, oI 0, .unset, .unset, .unset, .unset, .unset] [(.int 0), (.ref m1), (.int 0), (.ref m1)] t → Steps p.tables e below AA t := by
    intro t k
    refine R8 t ?_
    refine XS.icmpNo X8.here hx rfl (hb hby own_d8_25) rfl (tlt (by decide : ((0 : Int32) < (2 : Int32)))).2.1 ?_
    refine XS.aload X8.here hx rfl (hb hby own_d8_28) rfl rfl ?_
    refine XS.iload X8.here hx rfl (hb hby own_d8_30) rfl ?_
    refine Jvm.Free.XT.dup2 X8.here hx rfl (hb hby own_d8_32) rfl rfl rfl ?_
    exact k
  clear R8
  have hin6_0 : ¬ ((0 : Int32) < 0 ∨ cl6.slots.size ≤ ((0 : Int32)).toNatClampNeg) := inb_of S6 ⟨by decide, by decide⟩
  have hat6_0 : cl6.slots[((0 : Int32)).toNatClampNeg]? = some (.double u0) := H6.at hin6_0 rfl
  have R10 : ∀ t, oG p e below T8 m 37 #[oR a1, oR mm, oR rr, oI 1, oR m1, oR r1, oD u1, .second, oI 0, .unset, .unset, .unset, .unset, .unset] [(.double ea), (.int 0), (.ref m1)] t → Steps p.tables e below AA t := by
    intro t k
    refine R9 t ?_
    refine X8.daload hx (j := (0 : Int32)) (v := (.double u0)) (by rw [e8]; exact Ar6.1) (State.isArrayOf_alike hZ.alike Ar6.2.1) Ar6.2.2 hin6_0 hat6_0 (g := (mkF m 33 #[oR a1, oR mm, oR rr, oI 1, oR m1, oR r1, oD u1, .second, oI 0, .unset, .unset, .unset, .unset, .unset] [(.int 0), (.ref m1), (.int 0), (.ref m1)])) rfl rfl (hb hby own_d8_33) _ ?_
    refine XS.dload X8.here hx rfl (hb hby own_d8_34) rfl ?_
    refine XS.ddivS X8.here hx rfl (hb hby own_d8_36) rfl (by rw [hea]; exact nea) hea ?_
    exact k
  clear R9
  obtain ⟨cl11, Ar11, q11, S11, N11', H11, G11⟩ := id V_m1
  have hin11 : ¬ ((0 : Int32) < 0 ∨ cl11.slots.size ≤ ((0 : Int32)).toNatClampNeg) := inb_of S11 ⟨by decide, by decide⟩
  obtain ⟨T12, h12, X12, e12, W12, st12⟩ := stD X8 hx hZ e8 Ar11 (j := (0 : Int32)) hin11 (g := (mkF m 37 #[oR a1, oR mm, oR rr, oI 1, oR m1, oR r1, oD u1, .second, oI 0, .unset, .unset, .unset, .unset, .unset] [(.double ea), (.int 0), (.ref m1)])) rfl rfl (hb hby own_d8_37)
  have R12 := fun t k => R10 t (st12 t k)
  clear R10 st12 X8 e8
  have Z12 : n0 ≤ h12.size := Nat.le_trans Z0 (Keep.of_wr W12).1
  have K12 : Keep h0 h12 [m1, r1] := (Keep.refl h0 [m1, r1]).wr W12 (Or.inl (by simp))
  have N12 := Fr.snoc X12 N0 g_m1
  have f13 : oF Z h12 a1 "rows" "I" (.int 2) := F_a1_rows.other W12 (Or.inl ne_a1_m1)
  have f14 : Arv Z h12 mm ka (.array .double) (2 : Int32) [(.ref m0), (.ref m1)] .null := V_mm.other W12 ne_mm_m1
  have f15 : Arv Z h12 rr kb (.array .double) (2 : Int32) [(.ref r0), (.ref r1)] .null := V_rr.other W12 ne_rr_m1
  have f16 : Arv Z h12 r1 kd .double (2 : Int32) [(.double w0), (.double w1)] (.double 0) := V_r1.other W12 (Ne.symm ne_m1_r1)
  have f17 : Arv Z h12 m0 ke .double (2 : Int32) [(.double zo), (.double 0)] (.double 0) := V_m0.other W12 ne_m0_m1
  have V12 : Arv Z h12 m1 kc .double (2 : Int32) [(.double ea), (.double u1)] (.double 0) := Arv.set Ar11 q11 S11 N11' H11 G11 rfl W12 0 rfl (Nat.le_of_ble_eq_true rfl)
  clear Ar11 q11 S11 N11' H11 G11 hin11 W12
  have R18 : ∀ t, oG p e below T12 m 43 #[oR a1, oR mm, oR rr, oI 1, oR m1, oR r1, oD u1, .second, oI 0, .unset, .unset, .unset, .unset, .unset] [(.int 0), (.ref r1), (.int 0), (.ref r1)] t → Steps p.tables e below AA t := by
    intro t k
    refine R12 t ?_
    refine XS.aload X12.here hx rfl (hb hby own_d8_38) rfl rfl ?_
    refine XS.iload X12.here hx rfl (hb hby own_d8_40) rfl ?_
    refine Jvm.Free.XT.dup2 X12.here hx rfl (hb hby own_d8_42) rfl rfl rfl ?_
    exact k
  clear R12
  obtain ⟨cl19, Ar19, q19, S19, N19', H19, G19⟩ := id f16
  have hin19_0 : ¬ ((0 : Int32) < 0 ∨ cl19.slots.size ≤ ((0 : Int32)).toNatClampNeg) := inb_of S19 ⟨by decide, by decide⟩
  have hat19_0 : cl19.slots[((0 : Int32)).toNatClampNeg]? = some (.double w0) := H19.at hin19_0 rfl
  have R20 : ∀ t, oG p e below T12 m 47 #[oR a1, oR mm, oR rr, oI 1, oR m1, oR r1, oD u1, .second, oI 0, .unset, .unset, .unset, .unset, .unset] [(.double fa), (.int 0), (.ref r1)] t → Steps p.tables e below AA t := by
    intro t k
    refine R18 t ?_
    refine X12.daload hx (j := (0 : Int32)) (v := (.double w0)) (by rw [e12]; exact Ar19.1) (State.isArrayOf_alike hZ.alike Ar19.2.1) Ar19.2.2 hin19_0 hat19_0 (g := (mkF m 43 #[oR a1, oR mm, oR rr, oI 1, oR m1, oR r1, oD u1, .second, oI 0, .unset, .unset, .unset, .unset, .unset] [(.int 0), (.ref r1), (.int 0), (.ref r1)])) rfl rfl (hb hby own_d8_43) _ ?_
    refine XS.dload X12.here hx rfl (hb hby own_d8_44) rfl ?_
    refine XS.ddivS X12.here hx rfl (hb hby own_d8_46) rfl (by rw [hfa]; exact nfa) hfa ?_
    exact k
  clear R18
  obtain ⟨cl21, Ar21, q21, S21, N21', H21, G21⟩ := id f16
  have hin21 : ¬ ((0 : Int32) < 0 ∨ cl21.slots.size ≤ ((0 : Int32)).toNatClampNeg) := inb_of S21 ⟨by decide, by decide⟩
  obtain ⟨T22, h22, X22, e22, W22, st22⟩ := stD X12 hx hZ e12 Ar21 (j := (0 : Int32)) hin21 (g := (mkF m 47 #[oR a1, oR mm, oR rr, oI 1, oR m1, oR r1, oD u1, .second, oI 0, .unset, .unset, .unset, .unset, .unset] [(.double fa), (.int 0), (.ref r1)])) rfl rfl (hb hby own_d8_47)
  have R22 := fun t k => R20 t (st22 t k)
  clear R20 st22 X12 e12
  have Z22 : n0 ≤ h22.size := Nat.le_trans Z12 (Keep.of_wr W22).1
  clear Z12
  have K22 : Keep h0 h22 [m1, r1] := K12.wr W22 (Or.inl (by simp))
  have N22 := Fr.snoc X22 N12 g_r1
  clear K12
  clear N12
  have f23 : oF Z h22 a1 "rows" "I" (.int 2) := f13.other W22 (Or.inl ne_a1_r1)
  clear f13
  have f24 : Arv Z h22 mm ka (.array .double) (2 : Int32) [(.ref m0), (.ref m1)] .null := f14.other W22 ne_mm_r1
  clear f14
  have f25 : Arv Z h22 rr kb (.array .double) (2 : Int32) [(.ref r0), (.ref r1)] .null := f15.other W22 ne_rr_r1
  clear f15
  have f26 : Arv Z h22 m0 ke .double (2 : Int32) [(.double zo), (.double 0)] (.double 0) := f17.other W22 ne_m0_r1
  clear f17
  have f27 : Arv Z h22 m1 kc .double (2 : Int32) [(.double ea), (.double u1)] (.double 0) := V12.other W22 ne_m1_r1
  clear V12
  have V22 : Arv Z h22 r1 kd .double (2 : Int32) [(.double fa), (.double w1)] (.double 0) := Arv.set Ar21 q21 S21 N21' H21 G21 rfl W22 0 rfl (Nat.le_of_ble_eq_true rfl)
  clear Ar21 q21 S21 N21' H21 G21 hin21 W22 f16
  have R28 : ∀ t, oG p e below T22 m 22 #[oR a1, oR mm, oR rr, oI 1, oR m1, oR r1, oD u1, .second, oI 1, .unset, .unset, .unset, .unset, .unset] [(.ref a1), (.int 1)] t → Steps p.tables e below AA t := by
    intro t k
    refine R22 t ?_
    refine XS.iinc X22.here hx rfl (hb hby own_d8_48) rfl (l' := #[oR a1, oR mm, oR rr, oI 1, oR m1, oR r1, oD u1, .second, oI 1, .unset, .unset, .unset, .unset, .unset]) rfl ?_
    refine XS.goto X22.here hx rfl (pc0 := 51) (pc' := 19) rfl (hb hby own_d8_51) (by decide) (by decide) ?_
    refine XS.iload X22.here hx rfl (hb hby own_d8_19) rfl ?_
    refine XS.aloadN X22.here hx rfl (hb hby own_d8_21) rfl rfl ?_
    exact k
  clear R22
  obtain ⟨T29, X29, e29, st29⟩ := getF X22 hx hZ hown (host := "") (Or.inl (oW hw 24 rfl)) Via.refl e22 f23 (g := (mkF m 22 #[oR a1, oR mm, oR rr, oI 1, oR m1, oR r1, oD u1, .second, oI 1, .unset, .unset, .unset, .unset, .unset] [(.ref a1), (.int 1)])) rfl rfl (hb hby own_d8_22)
  have R29 := fun t k => R28 t (st29 t k)
  clear R28 st29 X22 e22
  have R30 : ∀ t, oG p e below T29 m 33 #[oR a1, oR mm, oR rr, oI 1, oR m1, oR r1, oD u1, .second, oI 1, .unset, .unset, .unset, .unset, .unset] [(.int 1), (.ref m1), (.int 1), (.ref m1)] t → Steps p.tables e below AA t := by
    intro t k
    refine R29 t ?_
    refine XS.icmpNo X29.here hx rfl (hb hby own_d8_25) rfl (tlt (by decide : ((1 : Int32) < (2 : Int32)))).2.1 ?_
    refine XS.aload X29.here hx rfl (hb hby own_d8_28) rfl rfl ?_
    refine XS.iload X29.here hx rfl (hb hby own_d8_30) rfl ?_
    refine Jvm.Free.XT.dup2 X29.here hx rfl (hb hby own_d8_32) rfl rfl rfl ?_
    exact k
  clear R29
  obtain ⟨cl31, Ar31, q31, S31, N31', H31, G31⟩ := id f27
  have hin31_1 : ¬ ((1 : Int32) < 0 ∨ cl31.slots.size ≤ ((1 : Int32)).toNatClampNeg) := inb_of S31 ⟨by decide, by decide⟩
  have hat31_1 : cl31.slots[((1 : Int32)).toNatClampNeg]? = some (.double u1) := H31.at hin31_1 rfl
  have R32 : ∀ t, oG p e below T29 m 37 #[oR a1, oR mm, oR rr, oI 1, oR m1, oR r1, oD u1, .second, oI 1, .unset, .unset, .unset, .unset, .unset] [(.double eb), (.int 1), (.ref m1)] t → Steps p.tables e below AA t := by
    intro t k
    refine R30 t ?_
    refine X29.daload hx (j := (1 : Int32)) (v := (.double u1)) (by rw [e29]; exact Ar31.1) (State.isArrayOf_alike hZ.alike Ar31.2.1) Ar31.2.2 hin31_1 hat31_1 (g := (mkF m 33 #[oR a1, oR mm, oR rr, oI 1, oR m1, oR r1, oD u1, .second, oI 1, .unset, .unset, .unset, .unset, .unset] [(.int 1), (.ref m1), (.int 1), (.ref m1)])) rfl rfl (hb hby own_d8_33) _ ?_
    refine XS.dload X29.here hx rfl (hb hby own_d8_34) rfl ?_
    refine XS.ddivS X29.here hx rfl (hb hby own_d8_36) rfl (by rw [heb]; exact neb) heb ?_
    exact k
  clear R30
  obtain ⟨cl33, Ar33, q33, S33, N33', H33, G33⟩ := id f27
  have hin33 : ¬ ((1 : Int32) < 0 ∨ cl33.slots.size ≤ ((1 : Int32)).toNatClampNeg) := inb_of S33 ⟨by decide, by decide⟩
  obtain ⟨T34, h34, X34, e34, W34, st34⟩ := stD X29 hx hZ e29 Ar33 (j := (1 : Int32)) hin33 (g := (mkF m 37 #[oR a1, oR mm, oR rr, oI 1, oR m1, oR r1, oD u1, .second, oI 1, .unset, .unset, .unset, .unset, .unset] [(.double eb), (.int 1), (.ref m1)])) rfl rfl (hb hby own_d8_37)
  have R34 := fun t k => R32 t (st34 t k)
  clear R32 st34 X29 e29
  have Z34 : n0 ≤ h34.size := Nat.le_trans Z22 (Keep.of_wr W34).1
  clear Z22
  have K34 : Keep h0 h34 [m1, r1] := K22.wr W34 (Or.inl (by simp))
  have N34 := Fr.snoc X34 N22 g_m1
  clear K22
  clear N22
  have f35 : oF Z h34 a1 "rows" "I" (.int 2) := f23.other W34 (Or.inl ne_a1_m1)
  clear f23
  have f36 : Arv Z h34 mm ka (.array .double) (2 : Int32) [(.ref m0), (.ref m1)] .null := f24.other W34 ne_mm_m1
  clear f24
  have f37 : Arv Z h34 rr kb (.array .double) (2 : Int32) [(.ref r0), (.ref r1)] .null := f25.other W34 ne_rr_m1
  clear f25
  have f38 : Arv Z h34 m0 ke .double (2 : Int32) [(.double zo), (.double 0)] (.double 0) := f26.other W34 ne_m0_m1
  clear f26
  have f39 : Arv Z h34 r1 kd .double (2 : Int32) [(.double fa), (.double w1)] (.double 0) := V22.other W34 (Ne.symm ne_m1_r1)
  clear V22
  have V34 : Arv Z h34 m1 kc .double (2 : Int32) [(.double ea), (.double eb)] (.double 0) := Arv.set Ar33 q33 S33 N33' H33 G33 rfl W34 1 rfl (Nat.le_of_ble_eq_true rfl)
  clear Ar33 q33 S33 N33' H33 G33 hin33 W34 f27
  have R40 : ∀ t, oG p e below T34 m 43 #[oR a1, oR mm, oR rr, oI 1, oR m1, oR r1, oD u1, .second, oI 1, .unset, .unset, .unset, .unset, .unset] [(.int 1), (.ref r1), (.int 1), (.ref r1)] t → Steps p.tables e below AA t := by
    intro t k
    refine R34 t ?_
    refine XS.aload X34.here hx rfl (hb hby own_d8_38) rfl rfl ?_
    refine XS.iload X34.here hx rfl (hb hby own_d8_40) rfl ?_
    refine Jvm.Free.XT.dup2 X34.here hx rfl (hb hby own_d8_42) rfl rfl rfl ?_
    exact k
  clear R34
  obtain ⟨cl41, Ar41, q41, S41, N41', H41, G41⟩ := id f39
  have hin41_1 : ¬ ((1 : Int32) < 0 ∨ cl41.slots.size ≤ ((1 : Int32)).toNatClampNeg) := inb_of S41 ⟨by decide, by decide⟩
  have hat41_1 : cl41.slots[((1 : Int32)).toNatClampNeg]? = some (.double w1) := H41.at hin41_1 rfl
  have R42 : ∀ t, oG p e below T34 m 47 #[oR a1, oR mm, oR rr, oI 1, oR m1, oR r1, oD u1, .second, oI 1, .unset, .unset, .unset, .unset, .unset] [(.double fb), (.int 1), (.ref r1)] t → Steps p.tables e below AA t := by
    intro t k
    refine R40 t ?_
    refine X34.daload hx (j := (1 : Int32)) (v := (.double w1)) (by rw [e34]; exact Ar41.1) (State.isArrayOf_alike hZ.alike Ar41.2.1) Ar41.2.2 hin41_1 hat41_1 (g := (mkF m 43 #[oR a1, oR mm, oR rr, oI 1, oR m1, oR r1, oD u1, .second, oI 1, .unset, .unset, .unset, .unset, .unset] [(.int 1), (.ref r1), (.int 1), (.ref r1)])) rfl rfl (hb hby own_d8_43) _ ?_
    refine XS.dload X34.here hx rfl (hb hby own_d8_44) rfl ?_
    refine XS.ddivS X34.here hx rfl (hb hby own_d8_46) rfl (by rw [hfb]; exact nfb) hfb ?_
    exact k
  clear R40
  obtain ⟨cl43, Ar43, q43, S43, N43', H43, G43⟩ := id f39
  have hin43 : ¬ ((1 : Int32) < 0 ∨ cl43.slots.size ≤ ((1 : Int32)).toNatClampNeg) := inb_of S43 ⟨by decide, by decide⟩
  obtain ⟨T44, h44, X44, e44, W44, st44⟩ := stD X34 hx hZ e34 Ar43 (j := (1 : Int32)) hin43 (g := (mkF m 47 #[oR a1, oR mm, oR rr, oI 1, oR m1, oR r1, oD u1, .second, oI 1, .unset, .unset, .unset, .unset, .unset] [(.double fb), (.int 1), (.ref r1)])) rfl rfl (hb hby own_d8_47)
  have R44 := fun t k => R42 t (st44 t k)
  clear R42 st44 X34 e34
  have Z44 : n0 ≤ h44.size := Nat.le_trans Z34 (Keep.of_wr W44).1
  clear Z34
  have K44 : Keep h0 h44 [m1, r1] := K34.wr W44 (Or.inl (by simp))
  have N44 := Fr.snoc X44 N34 g_r1
  clear K34
  clear N34
  have f45 : oF Z h44 a1 "rows" "I" (.int 2) := f35.other W44 (Or.inl ne_a1_r1)
  clear f35
  have f46 : Arv Z h44 mm ka (.array .double) (2 : Int32) [(.ref m0), (.ref m1)] .null := f36.other W44 ne_mm_r1
  clear f36
  have f47 : Arv Z h44 rr kb (.array .double) (2 : Int32) [(.ref r0), (.ref r1)] .null := f37.other W44 ne_rr_r1
  clear f37
  have f48 : Arv Z h44 m0 ke .double (2 : Int32) [(.double zo), (.double 0)] (.double 0) := f38.other W44 ne_m0_r1
  clear f38
  have f49 : Arv Z h44 m1 kc .double (2 : Int32) [(.double ea), (.double eb)] (.double 0) := V34.other W44 ne_m1_r1
  clear V34
  have V44 : Arv Z h44 r1 kd .double (2 : Int32) [(.double fa), (.double fb)] (.double 0) := Arv.set Ar43 q43 S43 N43' H43 G43 rfl W44 1 rfl (Nat.le_of_ble_eq_true rfl)
  clear Ar43 q43 S43 N43' H43 G43 hin43 W44 f39
  have R50 : ∀ t, oG p e below T44 m 22 #[oR a1, oR mm, oR rr, oI 1, oR m1, oR r1, oD u1, .second, oI 2, .unset, .unset, .unset, .unset, .unset] [(.ref a1), (.int 2)] t → Steps p.tables e below AA t := by
    intro t k
    refine R44 t ?_
    refine XS.iinc X44.here hx rfl (hb hby own_d8_48) rfl (l' := #[oR a1, oR mm, oR rr, oI 1, oR m1, oR r1, oD u1, .second, oI 2, .unset, .unset, .unset, .unset, .unset]) rfl ?_
    refine XS.goto X44.here hx rfl (pc0 := 51) (pc' := 19) rfl (hb hby own_d8_51) (by decide) (by decide) ?_
    refine XS.iload X44.here hx rfl (hb hby own_d8_19) rfl ?_
    refine XS.aloadN X44.here hx rfl (hb hby own_d8_21) rfl rfl ?_
    exact k
  clear R44
  obtain ⟨T51, X51, e51, st51⟩ := getF X44 hx hZ hown (host := "") (Or.inl (oW hw 24 rfl)) Via.refl e44 f45 (g := (mkF m 22 #[oR a1, oR mm, oR rr, oI 1, oR m1, oR r1, oD u1, .second, oI 2, .unset, .unset, .unset, .unset, .unset] [(.ref a1), (.int 2)])) rfl rfl (hb hby own_d8_22)
  have R51 := fun t k => R50 t (st51 t k)
  clear R50 st51 X44 e44
  have R52 : ∀ t, oG p e below T51 m 60 #[oR a1, oR mm, oR rr, oI 1, oR m1, oR r1, oD u1, .second, oI 0, .unset, .unset, .unset, .unset, .unset] [(.ref a1), (.int 0)] t → Steps p.tables e below AA t := by
    intro t k
    refine R51 t ?_
    refine XS.icmpYes X51.here hx rfl (pc0 := 25) (pc' := 54) rfl (hb hby own_d8_25) rfl (flt (by decide : ¬ ((2 : Int32) < (2 : Int32)))).2.1 (by decide) (by decide) ?_
    refine XS.iconst X51.here hx rfl (hb hby own_d8_54) ?_
    refine XS.istore X51.here hx rfl (hb hby own_d8_55) rfl (l' := #[oR a1, oR mm, oR rr, oI 1, oR m1, oR r1, oD u1, .second, oI 0, .unset, .unset, .unset, .unset, .unset]) rfl ?_
    refine XS.iload X51.here hx rfl (hb hby own_d8_57) rfl ?_
    refine XS.aloadN X51.here hx rfl (hb hby own_d8_59) rfl rfl ?_
    exact k
  clear R51
  obtain ⟨T53, X53, e53, st53⟩ := getF X51 hx hZ hown (host := "") (Or.inl (oW hw 24 rfl)) Via.refl e51 f45 (g := (mkF m 60 #[oR a1, oR mm, oR rr, oI 1, oR m1, oR r1, oD u1, .second, oI 0, .unset, .unset, .unset, .unset, .unset] [(.ref a1), (.int 0)])) rfl rfl (hb hby own_d8_60)
  have R53 := fun t k => R52 t (st53 t k)
  clear R52 st53 X51 e51
  have R54 : ∀ t, oG p e below T53 m 69 #[oR a1, oR mm, oR rr, oI 1, oR m1, oR r1, oD u1, .second, oI 0, .unset, .unset, .unset, .unset, .unset] [(.int 0), (.ref mm)] t → Steps p.tables e below AA t := by
    intro t k
    refine R53 t ?_
    refine XS.icmpNo X53.here hx rfl (hb hby own_d8_63) rfl (tlt (by decide : ((0 : Int32) < (2 : Int32)))).2.1 ?_
    refine XS.aloadN X53.here hx rfl (hb hby own_d8_66) rfl rfl ?_
    refine XS.iload X53.here hx rfl (hb hby own_d8_67) rfl ?_
    exact k
  clear R53
  obtain ⟨cl55, Ar55, q55, S55, N55', H55, G55⟩ := id f46
  have hin55_0 : ¬ ((0 : Int32) < 0 ∨ cl55.slots.size ≤ ((0 : Int32)).toNatClampNeg) := inb_of S55 ⟨by decide, by decide⟩
  have hat55_0 : cl55.slots[((0 : Int32)).toNatClampNeg]? = some (.ref m0) := H55.at hin55_0 rfl
  have R56 : ∀ t, oG p e below T53 m 71 #[oR a1, oR mm, oR rr, oI 1, oR m1, oR r1, oD u1, .second, oI 0, .unset, .unset, .unset, .unset, .unset] [(.int 1), (.ref m0)] t → Steps p.tables e below AA t := by
    intro t k
    refine R54 t ?_
    refine X53.aaload hx (j := (0 : Int32)) (v := (.ref m0)) (by rw [e53]; exact Ar55.1) (State.isArrayOf_alike hZ.alike Ar55.2.1) rfl Ar55.2.2 hin55_0 hat55_0 (g := (mkF m 69 #[oR a1, oR mm, oR rr, oI 1, oR m1, oR r1, oD u1, .second, oI 0, .unset, .unset, .unset, .unset, .unset] [(.int 0), (.ref mm)])) rfl rfl (hb hby own_d8_69) _ ?_
    refine XS.iloadN X53.here hx rfl (hb hby own_d8_70) rfl ?_
    exact k
  clear R54
  obtain ⟨cl57, Ar57, q57, S57, N57', H57, G57⟩ := id f48
  have hin57_1 : ¬ ((1 : Int32) < 0 ∨ cl57.slots.size ≤ ((1 : Int32)).toNatClampNeg) := inb_of S57 ⟨by decide, by decide⟩
  have hat57_1 : cl57.slots[((1 : Int32)).toNatClampNeg]? = some (.double 0) := H57.at hin57_1 rfl
  have R58 : ∀ t, oG p e below T53 m 60 #[oR a1, oR mm, oR rr, oI 1, oR m1, oR r1, oD u1, .second, oI 1, oD 0, .second, .unset, .unset, .unset] [(.ref a1), (.int 1)] t → Steps p.tables e below AA t := by
    intro t k
    refine R56 t ?_
    refine X53.daload hx (j := (1 : Int32)) (v := (.double 0)) (by rw [e53]; exact Ar57.1) (State.isArrayOf_alike hZ.alike Ar57.2.1) Ar57.2.2 hin57_1 hat57_1 (g := (mkF m 71 #[oR a1, oR mm, oR rr, oI 1, oR m1, oR r1, oD u1, .second, oI 0, .unset, .unset, .unset, .unset, .unset] [(.int 1), (.ref m0)])) rfl rfl (hb hby own_d8_71) _ ?_
    refine XS.dstore X53.here hx rfl (hb hby own_d8_72) rfl (l' := #[oR a1, oR mm, oR rr, oI 1, oR m1, oR r1, oD u1, .second, oI 0, oD 0, .second, .unset, .unset, .unset]) rfl ?_
    refine XS.iload X53.here hx rfl (hb hby own_d8_74) rfl ?_
    refine XS.iloadN X53.here hx rfl (hb hby own_d8_76) rfl ?_
    refine XS.icmpNo X53.here hx rfl (hb hby own_d8_77) rfl (feq (by decide : ¬ ((0 : Int32) = (1 : Int32)))).1 ?_
    show oG p e below T53 m 80 #[oR a1, oR mm, oR rr, oI 1, oR m1, oR r1, oD u1, .second, oI 0, oD 0, .second, .unset, .unset, .unset] [] _
    refine XS.dload X53.here hx rfl (hb hby own_d8_80) rfl ?_
    refine XS.dconst0 X53.here hx rfl (hb hby own_d8_82) (v := (0 : UInt64)) (by decide +kernel) ?_
    refine XS.dcmpS X53.here hx rfl (hb hby own_d8_83) rfl own_00 ?_
    refine XS.ifYes X53.here hx rfl (pc0 := 84) (pc' := 149) rfl (hb hby own_d8_84) rfl ((if0 _ _).trans (teq (by decide : ((0 : Int32) = (0 : Int32)))).1) (by decide) (by decide) ?_
    refine XS.iinc X53.here hx rfl (hb hby own_d8_149) rfl (l' := #[oR a1, oR mm, oR rr, oI 1, oR m1, oR r1, oD u1, .second, oI 1, oD 0, .second, .unset, .unset, .unset]) rfl ?_
    refine XS.goto X53.here hx rfl (pc0 := 152) (pc' := 57) rfl (hb hby own_d8_152) (by decide) (by decide) ?_
    show oG p e below T53 m 57 #[oR a1, oR mm, oR rr, oI 1, oR m1, oR r1, oD u1, .second, oI 1, oD 0, .second, .unset, .unset, .unset] [] _
    refine XS.iload X53.here hx rfl (hb hby own_d8_57) rfl ?_
    refine XS.aloadN X53.here hx rfl (hb hby own_d8_59) rfl rfl ?_
    exact k
  clear R56
  obtain ⟨T59, X59, e59, st59⟩ := getF X53 hx hZ hown (host := "") (Or.inl (oW hw 24 rfl)) Via.refl e53 f45 (g := (mkF m 60 #[oR a1, oR mm, oR rr, oI 1, oR m1, oR r1, oD u1, .second, oI 1, oD 0, .second, .unset, .unset, .unset] [(.ref a1), (.int 1)])) rfl rfl (hb hby own_d8_60)
  have R59 := fun t k => R58 t (st59 t k)
  clear R58 st59 X53 e53
  have R60 : ∀ t, oG p e below T59 m 69 #[oR a1, oR mm, oR rr, oI 1, oR m1, oR r1, oD u1, .second, oI 1, oD 0, .second, .unset, .unset, .unset] [(.int 1), (.ref mm)] t → Steps p.tables e below AA t := by
    intro t k
    refine R59 t ?_
    refine XS.icmpNo X59.here hx rfl (hb hby own_d8_63) rfl (tlt (by decide : ((1 : Int32) < (2 : Int32)))).2.1 ?_
    refine XS.aloadN X59.here hx rfl (hb hby own_d8_66) rfl rfl ?_
    refine XS.iload X59.here hx rfl (hb hby own_d8_67) rfl ?_
    exact k
  clear R59
  have hin55_1 : ¬ ((1 : Int32) < 0 ∨ cl55.slots.size ≤ ((1 : Int32)).toNatClampNeg) := inb_of S55 ⟨by decide, by decide⟩
  have hat55_1 : cl55.slots[((1 : Int32)).toNatClampNeg]? = some (.ref m1) := H55.at hin55_1 rfl
  have R61 : ∀ t, oG p e below T59 m 71 #[oR a1, oR mm, oR rr, oI 1, oR m1, oR r1, oD u1, .second, oI 1, oD 0, .second, .unset, .unset, .unset] [(.int 1), (.ref m1)] t → Steps p.tables e below AA t := by
    intro t k
    refine R60 t ?_
    refine X59.aaload hx (j := (1 : Int32)) (v := (.ref m1)) (by rw [e59]; exact Ar55.1) (State.isArrayOf_alike hZ.alike Ar55.2.1) rfl Ar55.2.2 hin55_1 hat55_1 (g := (mkF m 69 #[oR a1, oR mm, oR rr, oI 1, oR m1, oR r1, oD u1, .second, oI 1, oD 0, .second, .unset, .unset, .unset] [(.int 1), (.ref mm)])) rfl rfl (hb hby own_d8_69) _ ?_
    refine XS.iloadN X59.here hx rfl (hb hby own_d8_70) rfl ?_
    exact k
  clear R60
  obtain ⟨cl62, Ar62, q62, S62, N62', H62, G62⟩ := id f49
  have hin62_1 : ¬ ((1 : Int32) < 0 ∨ cl62.slots.size ≤ ((1 : Int32)).toNatClampNeg) := inb_of S62 ⟨by decide, by decide⟩
  have hat62_1 : cl62.slots[((1 : Int32)).toNatClampNeg]? = some (.double eb) := H62.at hin62_1 rfl
  have R63 : ∀ t, oG p e below T59 m 60 #[oR a1, oR mm, oR rr, oI 1, oR m1, oR r1, oD u1, .second, oI 2, oD eb, .second, .unset, .unset, .unset] [(.ref a1), (.int 2)] t → Steps p.tables e below AA t := by
    intro t k
    refine R61 t ?_
    refine X59.daload hx (j := (1 : Int32)) (v := (.double eb)) (by rw [e59]; exact Ar62.1) (State.isArrayOf_alike hZ.alike Ar62.2.1) Ar62.2.2 hin62_1 hat62_1 (g := (mkF m 71 #[oR a1, oR mm, oR rr, oI 1, oR m1, oR r1, oD u1, .second, oI 1, oD 0, .second, .unset, .unset, .unset] [(.int 1), (.ref m1)])) rfl rfl (hb hby own_d8_71) _ ?_
    refine XS.dstore X59.here hx rfl (hb hby own_d8_72) rfl (l' := #[oR a1, oR mm, oR rr, oI 1, oR m1, oR r1, oD u1, .second, oI 1, oD eb, .second, .unset, .unset, .unset]) rfl ?_
    refine XS.iload X59.here hx rfl (hb hby own_d8_74) rfl ?_
    refine XS.iloadN X59.here hx rfl (hb hby own_d8_76) rfl ?_
    refine XS.icmpYes X59.here hx rfl (pc0 := 77) (pc' := 149) rfl (hb hby own_d8_77) rfl (teq (by decide : ((1 : Int32) = (1 : Int32)))).1 (by decide) (by decide) ?_
    show oG p e below T59 m 149 #[oR a1, oR mm, oR rr, oI 1, oR m1, oR r1, oD u1, .second, oI 1, oD eb, .second, .unset, .unset, .unset] [] _
    refine XS.iinc X59.here hx rfl (hb hby own_d8_149) rfl (l' := #[oR a1, oR mm, oR rr, oI 1, oR m1, oR r1, oD u1, .second, oI 2, oD eb, .second, .unset, .unset, .unset]) rfl ?_
    refine XS.goto X59.here hx rfl (pc0 := 152) (pc' := 57) rfl (hb hby own_d8_152) (by decide) (by decide) ?_
    refine XS.iload X59.here hx rfl (hb hby own_d8_57) rfl ?_
    refine XS.aloadN X59.here hx rfl (hb hby own_d8_59) rfl rfl ?_
    exact k
  clear R61
  obtain ⟨T64, X64, e64, st64⟩ := getF X59 hx hZ hown (host := "") (Or.inl (oW hw 24 rfl)) Via.refl e59 f45 (g := (mkF m 60 #[oR a1, oR mm, oR rr, oI 1, oR m1, oR r1, oD u1, .second, oI 2, oD eb, .second, .unset, .unset, .unset] [(.ref a1), (.int 2)])) rfl rfl (hb hby own_d8_60)
  have R64 := fun t k => R63 t (st64 t k)
  clear R63 st64 X59 e59
  have R65 : ∀ t, oG p e below T64 m 155 #[oR a1, oR mm, oR rr, oI 1, oR m1, oR r1, oD u1, .second, oI 2, oD eb, .second, .unset, .unset, .unset] [] t → Steps p.tables e below AA t := by
    intro t k
    refine R64 t ?_
    refine XS.icmpYes X64.here hx rfl (pc0 := 63) (pc' := 155) rfl (hb hby own_d8_63) rfl (flt (by decide : ¬ ((2 : Int32) < (2 : Int32)))).2.1 (by decide) (by decide) ?_
    exact k
  clear R64
  subst hAA
  obtain ⟨fs, hr, hrun, hended, hW, hsame⟩ := X64.leave (v := none) (fun _ => rfl)
  refine ⟨_, _, R65 _ ?_, hrun, hended, _, _, rfl, ?_, ⟨_, rfl⟩, hW, hsame.mono (by decide) (by decide)⟩
  · exact X64.returnOut hx Bd.returns (hb hby own_d8_155) hr
  · show Q_rmEl1 Z a1 mm rr m0 m1 r1 r0 ka kb kc kd ke u0 u1 w0 w1 zo ea eb fa fb h0 n0 _ T64.heap _
    rw [e64]
    exact ⟨rfl, N44, K44, f49, V44⟩
theorem own_ef_rmRfD (m : MethodId) (x0 : Addr) : entryFrame m #[(.ref x0)] 7 = mkF m 0 #[oR x0, .unset, .unset, .unset, .unset, .unset, .unset] [] := by first | (simp [entryFrame, mkF, argsToLocals, Value.category]; done) | rfl
theorem own_d5_0 : decode prog_82_method_18_code 0 = .ok (.aload_n 0, 1) := by decide +kernel
theorem own_d5_1 : decode prog_82_method_18_code 1 = .ok (.getfield 27, 3) := by decide +kernel
theorem own_d5_4 : decode prog_82_method_18_code 4 = .ok (.aload_n 0, 1) := by decide +kernel
theorem own_d5_5 : decode prog_82_method_18_code 5 = .ok (.getfield 27, 3) := by decide +kernel
theorem own_d5_8 : decode prog_82_method_18_code 8 = .ok (.multianewarray 51 2, 4) := by decide +kernel
theorem own_d5_12 : decode prog_82_method_18_code 12 = .ok (.astore_n 1, 1) := by decide +kernel
theorem own_d5_13 : decode prog_82_method_18_code 13 = .ok (.iconst 0, 1) := by decide +kernel
theorem own_d5_14 : decode prog_82_method_18_code 14 = .ok (.istore_n 2, 1) := by decide +kernel
theorem own_d5_15 : decode prog_82_method_18_code 15 = .ok (.iload_n 2, 1) := by decide +kernel
theorem own_d5_16 : decode prog_82_method_18_code 16 = .ok (.aload_n 0, 1) := by decide +kernel
theorem own_d5_17 : decode prog_82_method_18_code 17 = .ok (.getfield 27, 3) := by decide +kernel
theorem own_d5_20 : decode prog_82_method_18_code 20 = .ok (.if_icmp .ge 63, 3) := by decide +kernel
theorem own_d5_23 : decode prog_82_method_18_code 23 = .ok (.aload_n 0, 1) := by decide +kernel
theorem own_d5_24 : decode prog_82_method_18_code 24 = .ok (.getfield 15, 3) := by decide +kernel
theorem own_d5_27 : decode prog_82_method_18_code 27 = .ok (.aload_n 0, 1) := by decide +kernel
theorem own_d5_28 : decode prog_82_method_18_code 28 = .ok (.getfield 65, 3) := by decide +kernel
theorem own_d5_31 : decode prog_82_method_18_code 31 = .ok (.iload_n 2, 1) := by decide +kernel
theorem own_d5_32 : decode prog_82_method_18_code 32 = .ok (.iaload, 1) := by decide +kernel
theorem own_d5_33 : decode prog_82_method_18_code 33 = .ok (.aaload, 1) := by decide +kernel
theorem own_d5_34 : decode prog_82_method_18_code 34 = .ok (.astore_n 3, 1) := by decide +kernel
theorem own_d5_35 : decode prog_82_method_18_code 35 = .ok (.aload_n 0, 1) := by decide +kernel
theorem own_d5_36 : decode prog_82_method_18_code 36 = .ok (.getfield 20, 3) := by decide +kernel
theorem own_d5_39 : decode prog_82_method_18_code 39 = .ok (.aload_n 0, 1) := by decide +kernel
theorem own_d5_40 : decode prog_82_method_18_code 40 = .ok (.getfield 65, 3) := by decide +kernel
theorem own_d5_43 : decode prog_82_method_18_code 43 = .ok (.iload_n 2, 1) := by decide +kernel
theorem own_d5_44 : decode prog_82_method_18_code 44 = .ok (.iaload, 1) := by decide +kernel
theorem own_d5_45 : decode prog_82_method_18_code 45 = .ok (.aaload, 1) := by decide +kernel
theorem own_d5_46 : decode prog_82_method_18_code 46 = .ok (.astore 4, 2) := by decide +kernel
theorem own_d5_48 : decode prog_82_method_18_code 48 = .ok (.iconst 0, 1) := by decide +kernel
theorem own_d5_49 : decode prog_82_method_18_code 49 = .ok (.istore 5, 2) := by decide +kernel
theorem own_d5_51 : decode prog_82_method_18_code 51 = .ok (.iload 5, 2) := by decide +kernel
theorem own_d5_53 : decode prog_82_method_18_code 53 = .ok (.aload_n 3, 1) := by decide +kernel
theorem own_d5_54 : decode prog_82_method_18_code 54 = .ok (.arraylength, 1) := by decide +kernel
theorem own_d5_55 : decode prog_82_method_18_code 55 = .ok (.if_icmp .ge 22, 3) := by decide +kernel
theorem own_d5_58 : decode prog_82_method_18_code 58 = .ok (.aload_n 1, 1) := by decide +kernel
theorem own_d5_59 : decode prog_82_method_18_code 59 = .ok (.aload_n 3, 1) := by decide +kernel
theorem own_d5_60 : decode prog_82_method_18_code 60 = .ok (.iload 5, 2) := by decide +kernel
theorem own_d5_62 : decode prog_82_method_18_code 62 = .ok (.iaload, 1) := by decide +kernel
theorem own_d5_63 : decode prog_82_method_18_code 63 = .ok (.aaload, 1) := by decide +kernel
theorem own_d5_64 : decode prog_82_method_18_code 64 = .ok (.iload_n 2, 1) := by decide +kernel
theorem own_d5_65 : decode prog_82_method_18_code 65 = .ok (.aload 4, 2) := by decide +kernel
theorem own_d5_67 : decode prog_82_method_18_code 67 = .ok (.iload 5, 2) := by decide +kernel
theorem own_d5_69 : decode prog_82_method_18_code 69 = .ok (.daload, 1) := by decide +kernel
theorem own_d5_70 : decode prog_82_method_18_code 70 = .ok (.dastore, 1) := by decide +kernel
theorem own_d5_71 : decode prog_82_method_18_code 71 = .ok (.iinc 5 1, 3) := by decide +kernel
theorem own_d5_74 : decode prog_82_method_18_code 74 = .ok (.goto (-23), 3) := by decide +kernel
theorem own_d5_77 : decode prog_82_method_18_code 77 = .ok (.iinc 2 1, 3) := by decide +kernel
theorem own_d5_80 : decode prog_82_method_18_code 80 = .ok (.goto (-65), 3) := by decide +kernel
theorem own_d5_83 : decode prog_82_method_18_code 83 = .ok (.aload_n 0, 1) := by decide +kernel
theorem own_d5_84 : decode prog_82_method_18_code 84 = .ok (.getfield 27, 3) := by decide +kernel
theorem own_d5_87 : decode prog_82_method_18_code 87 = .ok (.aload_n 0, 1) := by decide +kernel
theorem own_d5_88 : decode prog_82_method_18_code 88 = .ok (.getfield 27, 3) := by decide +kernel
theorem own_d5_91 : decode prog_82_method_18_code 91 = .ok (.multianewarray 51 2, 4) := by decide +kernel
theorem own_d5_95 : decode prog_82_method_18_code 95 = .ok (.astore_n 2, 1) := by decide +kernel
theorem own_d5_96 : decode prog_82_method_18_code 96 = .ok (.iconst 0, 1) := by decide +kernel
theorem own_d5_97 : decode prog_82_method_18_code 97 = .ok (.istore_n 3, 1) := by decide +kernel
theorem own_d5_98 : decode prog_82_method_18_code 98 = .ok (.iload_n 3, 1) := by decide +kernel
theorem own_d5_99 : decode prog_82_method_18_code 99 = .ok (.aload_n 0, 1) := by decide +kernel
theorem own_d5_100 : decode prog_82_method_18_code 100 = .ok (.getfield 27, 3) := by decide +kernel
theorem own_d5_103 : decode prog_82_method_18_code 103 = .ok (.if_icmp .ge 15, 3) := by decide +kernel
theorem own_d5_106 : decode prog_82_method_18_code 106 = .ok (.aload_n 2, 1) := by decide +kernel
theorem own_d5_107 : decode prog_82_method_18_code 107 = .ok (.iload_n 3, 1) := by decide +kernel
theorem own_d5_108 : decode prog_82_method_18_code 108 = .ok (.aaload, 1) := by decide +kernel
theorem own_d5_109 : decode prog_82_method_18_code 109 = .ok (.iload_n 3, 1) := by decide +kernel
theorem own_d5_110 : decode prog_82_method_18_code 110 = .ok (.dconst 1, 1) := by decide +kernel
theorem own_d5_111 : decode prog_82_method_18_code 111 = .ok (.dastore, 1) := by decide +kernel
theorem own_d5_112 : decode prog_82_method_18_code 112 = .ok (.iinc 3 1, 3) := by decide +kernel
theorem own_d5_115 : decode prog_82_method_18_code 115 = .ok (.goto (-17), 3) := by decide +kernel
theorem own_d5_118 : decode prog_82_method_18_code 118 = .ok (.iconst 0, 1) := by decide +kernel
theorem own_d5_119 : decode prog_82_method_18_code 119 = .ok (.istore_n 3, 1) := by decide +kernel
theorem own_d5_120 : decode prog_82_method_18_code 120 = .ok (.iload_n 3, 1) := by decide +kernel
theorem own_d5_121 : decode prog_82_method_18_code 121 = .ok (.aload_n 0, 1) := by decide +kernel
theorem own_d5_122 : decode prog_82_method_18_code 122 = .ok (.getfield 27, 3) := by decide +kernel
theorem own_d5_125 : decode prog_82_method_18_code 125 = .ok (.if_icmp .ge 105, 3) := by decide +kernel
theorem own_d5_128 : decode prog_82_method_18_code 128 = .ok (.iload_n 3, 1) := by decide +kernel
theorem own_d5_129 : decode prog_82_method_18_code 129 = .ok (.istore 4, 2) := by decide +kernel
theorem own_d5_131 : decode prog_82_method_18_code 131 = .ok (.iload_n 3, 1) := by decide +kernel
theorem own_d5_132 : decode prog_82_method_18_code 132 = .ok (.iconst 1, 1) := by decide +kernel
theorem own_d5_133 : decode prog_82_method_18_code 133 = .ok (.iadd, 1) := by decide +kernel
theorem own_d5_134 : decode prog_82_method_18_code 134 = .ok (.istore 5, 2) := by decide +kernel
theorem own_d5_136 : decode prog_82_method_18_code 136 = .ok (.iload 5, 2) := by decide +kernel
theorem own_d5_138 : decode prog_82_method_18_code 138 = .ok (.aload_n 0, 1) := by decide +kernel
theorem own_d5_139 : decode prog_82_method_18_code 139 = .ok (.getfield 27, 3) := by decide +kernel
theorem own_d5_142 : decode prog_82_method_18_code 142 = .ok (.if_icmp .ge 35, 3) := by decide +kernel
theorem own_d5_145 : decode prog_82_method_18_code 145 = .ok (.aload_n 1, 1) := by decide +kernel
theorem own_d5_146 : decode prog_82_method_18_code 146 = .ok (.iload 5, 2) := by decide +kernel
theorem own_d5_148 : decode prog_82_method_18_code 148 = .ok (.aaload, 1) := by decide +kernel
theorem own_d5_149 : decode prog_82_method_18_code 149 = .ok (.iload_n 3, 1) := by decide +kernel
theorem own_d5_150 : decode prog_82_method_18_code 150 = .ok (.daload, 1) := by decide +kernel
theorem own_d5_151 : decode prog_82_method_18_code 151 = .ok (.invokestatic 77, 3) := by decide +kernel
theorem own_pd5 : parseMethodDescriptor "(D)D" = some ⟨[.double], some .double⟩ := by decide +kernel
theorem own_d5_154 : decode prog_82_method_18_code 154 = .ok (.aload_n 1, 1) := by decide +kernel
theorem own_d5_155 : decode prog_82_method_18_code 155 = .ok (.iload 4, 2) := by decide +kernel
theorem own_d5_157 : decode prog_82_method_18_code 157 = .ok (.aaload, 1) := by decide +kernel
theorem own_d5_158 : decode prog_82_method_18_code 158 = .ok (.iload_n 3, 1) := by decide +kernel
theorem own_d5_159 : decode prog_82_method_18_code 159 = .ok (.daload, 1) := by decide +kernel
theorem own_d5_160 : decode prog_82_method_18_code 160 = .ok (.invokestatic 77, 3) := by decide +kernel
theorem own_d5_163 : decode prog_82_method_18_code 163 = .ok (.dcmp .l, 1) := by decide +kernel
theorem own_d5_164 : decode prog_82_method_18_code 164 = .ok (.ifCond .le 7, 3) := by decide +kernel
theorem own_d5_171 : decode prog_82_method_18_code 171 = .ok (.iinc 5 1, 3) := by decide +kernel
theorem own_d5_174 : decode prog_82_method_18_code 174 = .ok (.goto (-38), 3) := by decide +kernel
theorem own_d5_177 : decode prog_82_method_18_code 177 = .ok (.aload_n 1, 1) := by decide +kernel
theorem own_d5_178 : decode prog_82_method_18_code 178 = .ok (.iload 4, 2) := by decide +kernel
theorem own_d5_180 : decode prog_82_method_18_code 180 = .ok (.aaload, 1) := by decide +kernel
theorem own_d5_181 : decode prog_82_method_18_code 181 = .ok (.iload_n 3, 1) := by decide +kernel
theorem own_d5_182 : decode prog_82_method_18_code 182 = .ok (.daload, 1) := by decide +kernel
theorem own_d5_183 : decode prog_82_method_18_code 183 = .ok (.invokestatic 77, 3) := by decide +kernel
theorem own_d5_186 : decode prog_82_method_18_code 186 = .ok (.ldc2_w 87, 3) := by decide +kernel
theorem own_d5_189 : decode prog_82_method_18_code 189 = .ok (.dcmp .g, 1) := by decide +kernel
theorem own_d5_190 : decode prog_82_method_18_code 190 = .ok (.ifCond .gt 13, 3) := by decide +kernel
theorem own_d5_203 : decode prog_82_method_18_code 203 = .ok (.aload_n 1, 1) := by decide +kernel
theorem own_d5_204 : decode prog_82_method_18_code 204 = .ok (.iload 4, 2) := by decide +kernel
theorem own_d5_206 : decode prog_82_method_18_code 206 = .ok (.iload_n 3, 1) := by decide +kernel
theorem own_d5_207 : decode prog_82_method_18_code 207 = .ok (.invokestatic 199, 3) := by decide +kernel
theorem own_pd6 : parseMethodDescriptor "([[DII)V" = some ⟨[(.array (.array .double)), .int, .int], none⟩ := by decide +kernel
theorem own_d5_210 : decode prog_82_method_18_code 210 = .ok (.aload_n 2, 1) := by decide +kernel
theorem own_d5_211 : decode prog_82_method_18_code 211 = .ok (.iload 4, 2) := by decide +kernel
theorem own_d5_213 : decode prog_82_method_18_code 213 = .ok (.iload_n 3, 1) := by decide +kernel
theorem own_d5_214 : decode prog_82_method_18_code 214 = .ok (.invokestatic 199, 3) := by decide +kernel
theorem own_d5_217 : decode prog_82_method_18_code 217 = .ok (.aload_n 0, 1) := by decide +kernel
theorem own_d5_218 : decode prog_82_method_18_code 218 = .ok (.aload_n 1, 1) := by decide +kernel
theorem own_d5_219 : decode prog_82_method_18_code 219 = .ok (.aload_n 2, 1) := by decide +kernel
theorem own_d5_220 : decode prog_82_method_18_code 220 = .ok (.iload_n 3, 1) := by decide +kernel
theorem own_d5_221 : decode prog_82_method_18_code 221 = .ok (.invokevirtual 203, 3) := by decide +kernel
theorem own_pd7 : parseMethodDescriptor "([[D[[DI)V" = some ⟨[(.array (.array .double)), (.array (.array .double)), .int], none⟩ := by decide +kernel
theorem own_d5_224 : decode prog_82_method_18_code 224 = .ok (.iinc 3 1, 3) := by decide +kernel
theorem own_d5_227 : decode prog_82_method_18_code 227 = .ok (.goto (-107), 3) := by decide +kernel
theorem own_d5_230 : decode prog_82_method_18_code 230 = .ok (.aload_n 0, 1) := by decide +kernel
theorem own_d5_231 : decode prog_82_method_18_code 231 = .ok (.aload_n 2, 1) := by decide +kernel
theorem own_d5_232 : decode prog_82_method_18_code 232 = .ok (.putfield 145, 3) := by decide +kernel
theorem own_d5_235 : decode prog_82_method_18_code 235 = .ok (.aload_n 0, 1) := by decide +kernel
theorem own_d5_236 : decode prog_82_method_18_code 236 = .ok (.aload_n 0, 1) := by decide +kernel
theorem own_d5_237 : decode prog_82_method_18_code 237 = .ok (.getfield 27, 3) := by decide +kernel
theorem own_d5_240 : decode prog_82_method_18_code 240 = .ok (.newarray .double, 2) := by decide +kernel
theorem own_d5_242 : decode prog_82_method_18_code 242 = .ok (.putfield 74, 3) := by decide +kernel
theorem own_d5_245 : decode prog_82_method_18_code 245 = .ok (.iconst 0, 1) := by decide +kernel
theorem own_d5_246 : decode prog_82_method_18_code 246 = .ok (.istore_n 3, 1) := by decide +kernel
theorem own_d5_247 : decode prog_82_method_18_code 247 = .ok (.iload_n 3, 1) := by decide +kernel
theorem own_d5_248 : decode prog_82_method_18_code 248 = .ok (.aload_n 0, 1) := by decide +kernel
theorem own_d5_249 : decode prog_82_method_18_code 249 = .ok (.getfield 27, 3) := by decide +kernel
theorem own_d5_252 : decode prog_82_method_18_code 252 = .ok (.if_icmp .ge 60, 3) := by decide +kernel
theorem own_d5_255 : decode prog_82_method_18_code 255 = .ok (.dconst 0, 1) := by decide +kernel
theorem own_d5_256 : decode prog_82_method_18_code 256 = .ok (.dstore 4, 2) := by decide +kernel
theorem own_d5_258 : decode prog_82_method_18_code 258 = .ok (.iconst 0, 1) := by decide +kernel
theorem own_d5_259 : decode prog_82_method_18_code 259 = .ok (.istore 6, 2) := by decide +kernel
theorem own_d5_261 : decode prog_82_method_18_code 261 = .ok (.iload 6, 2) := by decide +kernel
theorem own_d5_263 : decode prog_82_method_18_code 263 = .ok (.aload_n 0, 1) := by decide +kernel
theorem own_d5_264 : decode prog_82_method_18_code 264 = .ok (.getfield 27, 3) := by decide +kernel
theorem own_d5_267 : decode prog_82_method_18_code 267 = .ok (.if_icmp .ge 31, 3) := by decide +kernel
theorem own_d5_270 : decode prog_82_method_18_code 270 = .ok (.dload 4, 2) := by decide +kernel
theorem own_d5_272 : decode prog_82_method_18_code 272 = .ok (.aload_n 0, 1) := by decide +kernel
theorem own_d5_273 : decode prog_82_method_18_code 273 = .ok (.getfield 145, 3) := by decide +kernel
theorem own_d5_276 : decode prog_82_method_18_code 276 = .ok (.iload_n 3, 1) := by decide +kernel
theorem own_d5_277 : decode prog_82_method_18_code 277 = .ok (.aaload, 1) := by decide +kernel
theorem own_d5_278 : decode prog_82_method_18_code 278 = .ok (.iload 6, 2) := by decide +kernel
theorem own_d5_280 : decode prog_82_method_18_code 280 = .ok (.daload, 1) := by decide +kernel
theorem own_d5_281 : decode prog_82_method_18_code 281 = .ok (.aload_n 0, 1) := by decide +kernel
theorem own_d5_282 : decode prog_82_method_18_code 282 = .ok (.getfield 35, 3) := by decide +kernel
theorem own_d5_285 : decode prog_82_method_18_code 285 = .ok (.iload 6, 2) := by decide +kernel
theorem own_d5_287 : decode prog_82_method_18_code 287 = .ok (.daload, 1) := by decide +kernel
theorem own_d5_288 : decode prog_82_method_18_code 288 = .ok (.dmul, 1) := by decide +kernel
theorem own_d5_289 : decode prog_82_method_18_code 289 = .ok (.dadd, 1) := by decide +kernel
theorem own_d5_290 : decode prog_82_method_18_code 290 = .ok (.dstore 4, 2) := by decide +kernel
theorem own_d5_292 : decode prog_82_method_18_code 292 = .ok (.iinc 6 1, 3) := by decide +kernel
theorem own_d5_295 : decode prog_82_method_18_code 295 = .ok (.goto (-34), 3) := by decide +kernel
theorem own_d5_298 : decode prog_82_method_18_code 298 = .ok (.aload_n 0, 1) := by decide +kernel
theorem own_d5_299 : decode prog_82_method_18_code 299 = .ok (.getfield 74, 3) := by decide +kernel
theorem own_d5_302 : decode prog_82_method_18_code 302 = .ok (.iload_n 3, 1) := by decide +kernel
theorem own_d5_303 : decode prog_82_method_18_code 303 = .ok (.dload 4, 2) := by decide +kernel
theorem own_d5_305 : decode prog_82_method_18_code 305 = .ok (.dastore, 1) := by decide +kernel
theorem own_d5_306 : decode prog_82_method_18_code 306 = .ok (.iinc 3 1, 3) := by decide +kernel
theorem own_d5_309 : decode prog_82_method_18_code 309 = .ok (.goto (-62), 3) := by decide +kernel
theorem own_d5_312 : decode prog_82_method_18_code 312 = .ok (.aload_n 0, 1) := by decide +kernel
theorem own_d5_313 : decode prog_82_method_18_code 313 = .ok (.iconst 0, 1) := by decide +kernel
theorem own_d5_314 : decode prog_82_method_18_code 314 = .ok (.putfield 142, 3) := by decide +kernel
theorem own_d5_317 : decode prog_82_method_18_code 317 = .ok (.return_, 1) := by decide +kernel
def Q_rmRfD (Z : State) (a1 bs er ev r0 r1 va0 va1 rh po : Addr) (ka kb kc kd ke kf kg kh : ClassId) (j0 j1 : Int32) (ers evs : List Value) (u0 u1 d0 d1 x0 x1 : UInt64) (h0 : Heap) (n0 : Nat) (v : Option Value) (h : Heap) (L : List Loc) : Prop := v = none ∧ Fr n0 L ∧ ∃ (bp : Addr) (kp : ClassId), Keep h0 h [a1] ∧ h0.size ≤ bp ∧ oF Z h a1 "rows" "I" (.int 2) ∧ oF Z h a1 "position" "[I" (.ref po) ∧ oF Z h a1 "infeasibility" "D" (.double 0) ∧ oF Z h a1 "primal" "[D" (.ref bp) ∧ Arv Z h bp kp .double (2 : Int32) [(.double x0), (.double x1)] (.double 0)
set_option maxRecDepth 65536 in
set_option maxHeartbeats 40000000 in
theorem rmRfD (l : Launch) (Z : State) (a0 : Array Value) (hw : ∀ d ∈ tables_1, d.before a0 Z = true) (ws : List Jvm.Cond) (a1 bs er ev r0 r1 va0 va1 rh po : Addr) (ka kb kc kd ke kf kg kh : ClassId) (j0 j1 : Int32) (ers evs : List Value) (u0 u1 d0 d1 x0 x1 : UInt64) (h0 : Heap) (n0 : Nat) (Z0 : n0 ≤ h0.size) (F_a1_rows : oF Z h0 a1 "rows" "I" (.int 2)) (F_a1_entryRows : oF Z h0 a1 "entryRows" "[[I" (.ref er)) (F_a1_entryValues : oF Z h0 a1 "entryValues" "[[D" (.ref ev)) (F_a1_basis : oF Z h0 a1 "basis" "[I" (.ref bs)) (F_a1_rhs : oF Z h0 a1 "rhs" "[D" (.ref rh)) (F_a1_inverse : oF Z h0 a1 "inverse" "[[D" .null) (F_a1_primal : oF Z h0 a1 "primal" "[D" .null) (F_a1_pivotsSinceRefactor : oF Z h0 a1 "pivotsSinceRefactor" "I" (.int 0)) (F_a1_position : oF Z h0 a1 "position" "[I" (.ref po)) (F_a1_infeasibility : oF Z h0 a1 "infeasibility" "D" (.double 0)) (E_a1 : Exa Z h0 a1 "com/example/trunkwright/trunkwright/traffic/RevisedSimplex") (V_bs : Arv Z h0 bs ka .int (2 : Int32) [(.int j0), (.int j1)] (.int 0)) (V_er : Arv Z h0 er kb (.array .int) (16 : Int32) ers .null) (V_ev : Arv Z h0 ev kc (.array .double) (16 : Int32) evs .null) (V_r0 : Arv Z h0 r0 kd .int (1 : Int32) [(.int 0)] (.int 0)) (V_r1 : Arv Z h0 r1 ke .int (1 : Int32) [(.int 1)] (.int 0)) (V_va0 : Arv Z h0 va0 kf .double (1 : Int32) [(.double u0)] (.double 0)) (V_va1 : Arv Z h0 va1 kg .double (1 : Int32) [(.double u1)] (.double 0)) (V_rh : Arv Z h0 rh kh .double (2 : Int32) [(.double d0), (.double d1)] (.double 0)) (ne_rh_a1 : rh ≠ a1) (g_a1 : n0 ≤ a1) (hj0 : ¬ j0 < 0 ∧ j0 < (16 : Int32)) (ur0 : ers.getD j0.toNatClampNeg .null = .ref r0) (uv0 : evs.getD j0.toNatClampNeg .null = .ref va0) (su0 : own_S u0) (sd0 : own_P d0) (hx0 : x0 = FP.ddiv d0 u0) (hj1 : ¬ j1 < 0 ∧ j1 < (16 : Int32)) (ur1 : ers.getD j1.toNatClampNeg .null = .ref r1) (uv1 : evs.getD j1.toNatClampNeg .null = .ref va1) (su1 : own_S u1) (sd1 : own_P d1) (hx1 : x1 = FP.ddiv d1 u1) :
    MetFree l (oN "refactor" "()V") (head1 (Jvm.Cond.code (oN "refactor" "()V") prog_82_method_18_code 7 none :: ws) ({ frames := 1, cells := 7, slots := 14, locals := 25 } : Room)) (fun a U => a = #[(.ref a1)] ∧ Z.Warmed39 U.vm ∧ U.heap = h0) (fun _ _ _ _ _ => True) (fun _ U o U' => ∃ v L, o = .returned v ∧ Q_rmRfD Z a1 bs er ev r0 r1 va0 va1 rh po ka kb kc kd ke kf kg kh j0 j1 ers evs u0 u1 d0 d1 x0 x1 h0 n0 v U'.heap L ∧ FrameEnd U o U' L ({ frames := 1, cells := 7, slots := 14, locals := 25 } : Room).cells ({ frames := 1, cells := 7, slots := 14, locals := 25 } : Room).slots) := by
  refine MetFree.of_bodySF (plainFor_of_name own_pn0) hisR ?_
  intro p e s m args below meth c s₁ Bd hml0 hP hK
  obtain ⟨rfl, hZ, hh⟩ := hP
  have hx := Bd.exec
  have hby := Bd.bytes
  have hml : c.maxLocals = 7 := hml0
  have hown : s.vm.findClass "com/example/trunkwright/trunkwright/traffic/RevisedSimplex" = some m.cls := findClass_of_methodNamed Bd.named
  have hnm := (name_of_methodNamed Bd.named Bd.method).1
  have X0 : Stand p l e ({ frames := 1, cells := 7, slots := 14, locals := 25 } : Room) s m #[(.ref a1)] below meth c s₁ [] 0 0 := Stand.of_body Bd
  have e0 : s₁.heap = h0 := by rw [← hh, Bd.state]; rfl
  have N0 := Fr.nil n0
  have R0 : ∀ t, oG p e below s₁ m 0 #[oR a1, .unset, .unset, .unset, .unset, .unset, .unset] [] t → Steps p.tables e below (s₁.setTop (entryFrame m #[(.ref a1)] 7)) t := fun t k => castTop (own_ef_rmRfD m a1) k
  obtain ⟨AA, hAA⟩ : ∃ z, z = (s₁.setTop (entryFrame m #[(.ref a1)] 7)) := ⟨_, rfl⟩
  rw [← hAA] at R0
  obtain ⟨iv0, hiv0⟩ : ∃ z, z = FP.ddiv (4607182418800017408 : UInt64) u0 := ⟨_, rfl⟩
  have niv0 : oX iv0 := hiv0 ▸ own_Sinv su0
  have nx0 : own_N x0 := hx0 ▸ own_dN sd0 su0
  have mi0 : FP.dmul iv0 d0 = x0 := by rw [hiv0, hx0]; exact own_mi sd0 su0
  obtain ⟨iv1, hiv1⟩ : ∃ z, z = FP.ddiv (4607182418800017408 : UInt64) u1 := ⟨_, rfl⟩
  have niv1 : oX iv1 := hiv1 ▸ own_Sinv su1
  have nx1 : own_N x1 := hx1 ▸ own_dN sd1 su1
  have mi1 : FP.dmul iv1 d1 = x1 := by rw [hiv1, hx1]; exact own_mi sd1 su1
  have R1 : ∀ t, oG p e below s₁ m 1 #[oR a1, .unset, .unset, .unset, .unset, .unset, .unset] [(.ref a1)] t → Steps p.tables e below AA t := by
    intro t k
    refine R0 t ?_
    refine XS.aloadN X0.here hx rfl (hb hby own_d5_0) rfl rfl ?_
    exact k
  obtain ⟨T2, X2, e2, st2⟩ := getF X0 hx hZ hown (host := "") (Or.inl (oW hw 24 rfl)) Via.refl e0 F_a1_rows (g := (mkF m 1 #[oR a1, .unset, .unset, .unset, .unset, .unset, .unset] [(.ref a1)])) rfl rfl (hb hby own_d5_1)
  have R2 := fun t k => R1 t (st2 t k)
  clear R1 st2
  have R3 : ∀ t, oG p e below T2 m 5 #[oR a1, .unset, .unset, .unset, .unset, .unset, .unset] [(.ref a1), (.int 2)] t → Steps p.tables e below AA t := by
    intro t k
    refine R2 t ?_
    refine XS.aloadN X2.here hx rfl (hb hby own_d5_4) rfl rfl ?_
    exact k
  clear R2
  obtain ⟨T4, X4, e4, st4⟩ := getF X2 hx hZ hown (host := "") (Or.inl (oW hw 24 rfl)) Via.refl e2 F_a1_rows (g := (mkF m 5 #[oR a1, .unset, .unset, .unset, .unset, .unset, .unset] [(.ref a1), (.int 2)])) rfl rfl (hb hby own_d5_5)
  have R4 := fun t k => R3 t (st4 t k)
  clear R3 st4 X2 e2
  obtain ⟨x5_0, gx5_0⟩ : ∃ z, z = h0.size + 1 + 0 := ⟨_, rfl⟩
  obtain ⟨x5_1, gx5_1⟩ : ∃ z, z = h0.size + 1 + 1 := ⟨_, rfl⟩
  obtain ⟨T6, h6, k6, c6, X6, e6, E6, A6, O6, B6, I6, st6⟩ := gridM X4 hx hZ (C := "[D") (ad := "[[D") (ty := .double) hown (by decide) (by decide) (oW hw 61 rfl) (oW hw 18 rfl) (oW hw 4 rfl) e4 (g := (mkF m 8 #[oR a1, .unset, .unset, .unset, .unset, .unset, .unset] [(.int 2), (.int 2)])) rfl (hb hby own_d5_8) rfl (by decide) (by decide) (xs := [x5_0, x5_1]) (N := 2) rfl (by subst gx5_0 gx5_1; rfl) (cap := 2) (by decide) (by decide) (by decide) rfl (by decide) (by decide) (by decide)
  obtain ⟨b6, g6⟩ : ∃ z, z = h0.size := ⟨_, rfl⟩
  rw [← g6] at A6 B6 st6
  have R6 := fun t k => R4 t (st6 t k)
  clear R4 st6 X4 e4
  have ge_b6 : h0.size ≤ b6 := (Nat.le_of_eq g6.symm)
  have g_b6 : n0 ≤ b6 := Nat.le_trans Z0 ge_b6
  have sz_b6 : h0.size ≤ b6 := Nat.le_trans (Keep.refl h0 []).1 ge_b6
  have ge_x5_0 : h0.size ≤ x5_0 := (by omega : h0.size ≤ x5_0)
  have ne_b6_x5_0 : b6 ≠ x5_0 := by omega
  have g_x5_0 : n0 ≤ x5_0 := Nat.le_trans Z0 ge_x5_0
  have sz_x5_0 : h0.size ≤ x5_0 := Nat.le_trans (Keep.refl h0 []).1 ge_x5_0
  have ge_x5_1 : h0.size ≤ x5_1 := (by omega : h0.size ≤ x5_1)
  have ne_b6_x5_1 : b6 ≠ x5_1 := by omega
  have ne_x5_0_x5_1 : x5_0 ≠ x5_1 := by omega
  have g_x5_1 : n0 ≤ x5_1 := Nat.le_trans Z0 ge_x5_1
  have sz_x5_1 : h0.size ≤ x5_1 := Nat.le_trans (Keep.refl h0 []).1 ge_x5_1
  have Z6 : n0 ≤ h6.size := Nat.le_trans Z0 E6.1
  have K6 : Keep h0 h6 [] := (Keep.refl h0 []).ext E6
  clear E6
  have V6 : Arv Z h6 b6 k6 (.array .double) (2 : Int32) [(.ref x5_0), (.ref x5_1)] .null := A6
  have Bx5_0 : Exa Z h6 x5_0 "[D" := (I6 0 _ rfl).2
  have Vx5_0 : Arv Z h6 x5_0 c6 .double (2 : Int32) [(.double 0), (.double 0)] (.double 0) := (Arv.new (I6 0 _ rfl).1 (by decide)).pad (pad_rep [] (.double 0) 2)
  have Bx5_1 : Exa Z h6 x5_1 "[D" := (I6 1 _ rfl).2
  have Vx5_1 : Arv Z h6 x5_1 c6 .double (2 : Int32) [(.double 0), (.double 0)] (.double 0) := (Arv.new (I6 1 _ rfl).1 (by decide)).pad (pad_rep [] (.double 0) 2)
  have R7 : ∀ t, oG p e below T6 m 17 #[oR a1, oR b6, oI 0, .unset, .unset, .unset, .unset] [(.ref a1), (.int 0)] t → Steps p.tables e below AA t := by
    intro t k
    refine R6 t ?_
    refine XS.astoreN X6.here hx rfl (hb hby own_d5_12) rfl rfl (l' := #[oR a1, oR b6, .unset, .unset, .unset, .unset, .unset]) rfl ?_
    refine XS.iconst X6.here hx rfl (hb hby own_d5_13) ?_
    refine XS.istoreN X6.here hx rfl (hb hby own_d5_14) rfl (l' := #[oR a1, oR b6, oI 0, .unset, .unset, .unset, .unset]) rfl ?_
    refine XS.iloadN X6.here hx rfl (hb hby own_d5_15) rfl ?_
    refine XS.aloadN X6.here hx rfl (hb hby own_d5_16) rfl rfl ?_
    exact k
  clear R6
  have f8 : oF Z h6 a1 "rows" "I" (.int 2) := F_a1_rows.keep K6 nin0
  obtain ⟨T9, X9, e9, st9⟩ := getF X6 hx hZ hown (host := "") (Or.inl (oW hw 24 rfl)) Via.refl e6 f8 (g := (mkF m 17 #[oR a1, oR b6, oI 0, .unset, .unset, .unset, .unset] [(.ref a1), (.int 0)])) rfl rfl (hb hby own_d5_17)
  have R9 := fun t k => R7 t (st9 t k)
  clear R7 st9 X6 e6
  have R10 : ∀ t, oG p e below T9 m 24 #[oR a1, oR b6, oI 0, .unset, .unset, .unset, .unset] [(.ref a1)] t → Steps p.tables e below AA t := by
    intro t k
    refine R9 t ?_
    refine XS.icmpNo X9.here hx rfl (hb hby own_d5_20) rfl (tlt (by decide : ((0 : Int32) < (2 : Int32)))).2.1 ?_
    refine XS.aloadN X9.here hx rfl (hb hby own_d5_23) rfl rfl ?_
    exact k
  clear R9
  have f11 : oF Z h6 a1 "entryRows" "[[I" (.ref er) := F_a1_entryRows.keep K6 nin0
  obtain ⟨T12, X12, e12, st12⟩ := getF X9 hx hZ hown (host := "") (Or.inl (oW hw 15 rfl)) Via.refl e9 f11 (g := (mkF m 24 #[oR a1, oR b6, oI 0, .unset, .unset, .unset, .unset] [(.ref a1)])) rfl rfl (hb hby own_d5_24)
  have R12 := fun t k => R10 t (st12 t k)
  clear R10 st12 X9 e9
  have R13 : ∀ t, oG p e below T12 m 28 #[oR a1, oR b6, oI 0, .unset, .unset, .unset, .unset] [(.ref a1), (.ref er)] t → Steps p.tables e below AA t := by
    intro t k
    refine R12 t ?_
    refine XS.aloadN X12.here hx rfl (hb hby own_d5_27) rfl rfl ?_
    exact k
  clear R12
  have f14 : oF Z h6 a1 "basis" "[I" (.ref bs) := F_a1_basis.keep K6 nin0
  obtain ⟨T15, X15, e15, st15⟩ := getF X12 hx hZ hown (host := "") (Or.inl (oW hw 53 rfl)) Via.refl e12 f14 (g := (mkF m 28 #[oR a1, oR b6, oI 0, .unset, .unset, .unset, .unset] [(.ref a1), (.ref er)])) rfl rfl (hb hby own_d5_28)
  have R15 := fun t k => R13 t (st15 t k)
  clear R13 st15 X12 e12
  have R16 : ∀ t, oG p e below T15 m 32 #[oR a1, oR b6, oI 0, .unset, .unset, .unset, .unset] [(.int 0), (.ref bs), (.ref er)] t → Steps p.tables e below AA t := by
    intro t k
    refine R15 t ?_
    refine XS.iloadN X15.here hx rfl (hb hby own_d5_31) rfl ?_
    exact k
  clear R15
  have f17 : Arv Z h6 bs ka .int (2 : Int32) [(.int j0), (.int j1)] (.int 0) := V_bs.keep K6 nin0
  obtain ⟨cl18, Ar18, q18, S18, N18', H18, G18⟩ := id f17
  have hin18_0 : ¬ ((0 : Int32) < 0 ∨ cl18.slots.size ≤ ((0 : Int32)).toNatClampNeg) := inb_of S18 ⟨by decide, by decide⟩
  have hat18_0 : cl18.slots[((0 : Int32)).toNatClampNeg]? = some (.int j0) := H18.at hin18_0 rfl
  have R19 : ∀ t, oG p e below T15 m 33 #[oR a1, oR b6, oI 0, .unset, .unset, .unset, .unset] [(.int j0), (.ref er)] t → Steps p.tables e below AA t := by
    intro t k
    refine R16 t ?_
    refine X15.iaload hx (j := (0 : Int32)) (v := (.int j0)) (by rw [e15]; exact Ar18.1) (State.isArrayOf_alike hZ.alike Ar18.2.1) Ar18.2.2 hin18_0 hat18_0 (g := (mkF m 32 #[oR a1, oR b6, oI 0, .unset, .unset, .unset, .unset] [(.int 0), (.ref bs), (.ref er)])) rfl rfl (hb hby own_d5_32) _ ?_
    exact k
  clear R16
  have f20 : Arv Z h6 er kb (.array .int) (16 : Int32) ers .null := V_er.keep K6 nin0
  obtain ⟨cl21, Ar21, q21, S21, N21', H21, G21⟩ := id f20
  have hin21_j0 : ¬ (j0 < 0 ∨ cl21.slots.size ≤ (j0).toNatClampNeg) := inb_of S21 hj0
  have hat21_j0 : cl21.slots[(j0).toNatClampNeg]? = some (.ref r0) := H21.at hin21_j0 ur0
  have R22 : ∀ t, oG p e below T15 m 36 #[oR a1, oR b6, oI 0, oR r0, .unset, .unset, .unset] [(.ref a1)] t → Steps p.tables e below AA t := by
    intro t k
    refine R19 t ?_
    refine X15.aaload hx (j := j0) (v := (.ref r0)) (by rw [e15]; exact Ar21.1) (State.isArrayOf_alike hZ.alike Ar21.2.1) rfl Ar21.2.2 hin21_j0 hat21_j0 (g := (mkF m 33 #[oR a1, oR b6, oI 0, .unset, .unset, .unset, .unset] [(.int j0), (.ref er)])) rfl rfl (hb hby own_d5_33) _ ?_
    refine XS.astoreN X15.here hx rfl (hb hby own_d5_34) rfl rfl (l' := #[oR a1, oR b6, oI 0, oR r0, .unset, .unset, .unset]) rfl ?_
    refine XS.aloadN X15.here hx rfl (hb hby own_d5_35) rfl rfl ?_
    exact k
  clear R19
  have f23 : oF Z h6 a1 "entryValues" "[[D" (.ref ev) := F_a1_entryValues.keep K6 nin0
  obtain ⟨T24, X24, e24, st24⟩ := getF X15 hx hZ hown (host := "") (Or.inl (oW hw 19 rfl)) Via.refl e15 f23 (g := (mkF m 36 #[oR a1, oR b6, oI 0, oR r0, .unset, .unset, .unset] [(.ref a1)])) rfl rfl (hb hby own_d5_36)
  have R24 := fun t k => R22 t (st24 t k)
  clear R22 st24 X15 e15
  have R25 : ∀ t, oG p e below T24 m 40 #[oR a1, oR b6, oI 0, oR r0, .unset, .unset, .unset] [(.ref a1), (.ref ev)] t → Steps p.tables e below AA t := by
    intro t k
    refine R24 t ?_
    refine XS.aloadN X24.here hx rfl (hb hby own_d5_39) rfl rfl ?_
    exact k
  clear R24
  obtain ⟨T26, X26, e26, st26⟩ := getF X24 hx hZ hown (host := "") (Or.inl (oW hw 53 rfl)) Via.refl e24 f14 (g := (mkF m 40 #[oR a1, oR b6, oI 0, oR r0, .unset, .unset, .unset] [(.ref a1), (.ref ev)])) rfl rfl (hb hby own_d5_40)
  have R26 := fun t k => R25 t (st26 t k)
  clear R25 st26 X24 e24
  have R27 : ∀ t, oG p e below T26 m 45 #[oR a1, oR b6, oI 0, oR r0, .unset, .unset, .unset] [(.int j0), (.ref ev)] t → Steps p.tables e below AA t := by
    intro t k
    refine R26 t ?_
    refine XS.iloadN X26.here hx rfl (hb hby own_d5_43) rfl ?_
    refine X26.iaload hx (j := (0 : Int32)) (v := (.int j0)) (by rw [e26]; exact Ar18.1) (State.isArrayOf_alike hZ.alike Ar18.2.1) Ar18.2.2 hin18_0 hat18_0 (g := (mkF m 44 #[oR a1, oR b6, oI 0, oR r0, .unset, .unset, .unset] [(.int 0), (.ref bs), (.ref ev)])) rfl rfl (hb hby own_d5_44) _ ?_
    exact k
  clear R26
  have f28 : Arv Z h6 ev kc (.array .double) (16 : Int32) evs .null := V_ev.keep K6 nin0
  obtain ⟨cl29, Ar29, q29, S29, N29', H29, G29⟩ := id f28
  have hin29_j0 : ¬ (j0 < 0 ∨ cl29.slots.size ≤ (j0).toNatClampNeg) := inb_of S29 hj0
  have hat29_j0 : cl29.slots[(j0).toNatClampNeg]? = some (.ref va0) := H29.at hin29_j0 uv0
  have R30 : ∀ t, oG p e below T26 m 54 #[oR a1, oR b6, oI 0, oR r0, oR va0, oI 0, .unset] [(.ref r0), (.int 0)] t → Steps p.tables e below AA t := by
    intro t k
    refine R27 t ?_
    refine X26.aaload hx (j := j0) (v := (.ref va0)) (by rw [e26]; exact Ar29.1) (State.isArrayOf_alike hZ.alike Ar29.2.1) rfl Ar29.2.2 hin29_j0 hat29_j0 (g := (mkF m 45 #[oR a1, oR b6, oI 0, oR r0, .unset, .unset, .unset] [(.int j0), (.ref ev)])) rfl rfl (hb hby own_d5_45) _ ?_
    refine XS.astore X26.here hx rfl (hb hby own_d5_46) rfl rfl (l' := #[oR a1, oR b6, oI 0, oR r0, oR va0, .unset, .unset]) rfl ?_
    refine XS.iconst X26.here hx rfl (hb hby own_d5_48) ?_
    refine XS.istore X26.here hx rfl (hb hby own_d5_49) rfl (l' := #[oR a1, oR b6, oI 0, oR r0, oR va0, oI 0, .unset]) rfl ?_
    refine XS.iload X26.here hx rfl (hb hby own_d5_51) rfl ?_
    show oG p e below T26 m 53 #[oR a1, oR b6, oI 0, oR r0, oR va0, oI 0, .unset] [(.int 0)] _
    refine XS.aloadN X26.here hx rfl (hb hby own_d5_53) rfl rfl ?_
    exact k
  clear R27
  have f31 : Arv Z h6 r0 kd .int (1 : Int32) [(.int 0)] (.int 0) := V_r0.keep K6 nin0
  obtain ⟨cl32, Ar32, q32, S32, N32', H32, G32⟩ := id f31
  have R33 : ∀ t, oG p e below T26 m 62 #[oR a1, oR b6, oI 0, oR r0, oR va0, oI 0, .unset] [(.int 0), (.ref r0), (.ref b6)] t → Steps p.tables e below AA t := by
    intro t k
    refine R30 t ?_
    refine X26.arraylength hx (by rw [e26]; exact Ar32.1) (State.isArrayOf_alike hZ.alike Ar32.2.1) (g := (mkF m 54 #[oR a1, oR b6, oI 0, oR r0, oR va0, oI 0, .unset] [(.ref r0), (.int 0)])) rfl rfl (hb hby own_d5_54) _ ?_
    rw [len_of S32 N32']
    refine XS.icmpNo X26.here hx rfl (hb hby own_d5_55) rfl (tlt (by decide : ((0 : Int32) < (1 : Int32)))).2.1 ?_
    refine XS.aloadN X26.here hx rfl (hb hby own_d5_58) rfl rfl ?_
    refine XS.aloadN X26.here hx rfl (hb hby own_d5_59) rfl rfl ?_
    refine XS.iload X26.here hx rfl (hb hby own_d5_60) rfl ?_
    exact k
  clear R30
  have hin32_0 : ¬ ((0 : Int32) < 0 ∨ cl32.slots.size ≤ ((0 : Int32)).toNatClampNeg) := inb_of S32 ⟨by decide, by decide⟩
  have hat32_0 : cl32.slots[((0 : Int32)).toNatClampNeg]? = some (.int 0) := H32.at hin32_0 rfl
  have R34 : ∀ t, oG p e below T26 m 63 #[oR a1, oR b6, oI 0, oR r0, oR va0, oI 0, .unset] [(.int 0), (.ref b6)] t → Steps p.tables e below AA t := by
    intro t k
    refine R33 t ?_
    refine X26.iaload hx (j := (0 : Int32)) (v := (.int 0)) (by rw [e26]; exact Ar32.1) (State.isArrayOf_alike hZ.alike Ar32.2.1) Ar32.2.2 hin32_0 hat32_0 (g := (mkF m 62 #[oR a1, oR b6, oI 0, oR r0, oR va0, oI 0, .unset] [(.int 0), (.ref r0), (.ref b6)])) rfl rfl (hb hby own_d5_62) _ ?_
    exact k
  clear R33
  obtain ⟨cl35, Ar35, q35, S35, N35', H35, G35⟩ := id V6
  have hin35_0 : ¬ ((0 : Int32) < 0 ∨ cl35.slots.size ≤ ((0 : Int32)).toNatClampNeg) := inb_of S35 ⟨by decide, by decide⟩
  have hat35_0 : cl35.slots[((0 : Int32)).toNatClampNeg]? = some (.ref x5_0) := H35.at hin35_0 rfl
  have R36 : ∀ t, oG p e below T26 m 69 #[oR a1, oR b6, oI 0, oR r0, oR va0, oI 0, .unset] [(.int 0), (.ref va0), (.int 0), (.ref x5_0)] t → Steps p.tables e below AA t := by
    intro t k
    refine R34 t ?_
    refine X26.aaload hx (j := (0 : Int32)) (v := (.ref x5_0)) (by rw [e26]; exact Ar35.1) (State.isArrayOf_alike hZ.alike Ar35.2.1) rfl Ar35.2.2 hin35_0 hat35_0 (g := (mkF m 63 #[oR a1, oR b6, oI 0, oR r0, oR va0, oI 0, .unset] [(.int 0), (.ref b6)])) rfl rfl (hb hby own_d5_63) _ ?_
    refine XS.iloadN X26.here hx rfl (hb hby own_d5_64) rfl ?_
    refine XS.aload X26.here hx rfl (hb hby own_d5_65) rfl rfl ?_
    refine XS.iload X26.here hx rfl (hb hby own_d5_67) rfl ?_
    exact k
  clear R34
  have f37 : Arv Z h6 va0 kf .double (1 : Int32) [(.double u0)] (.double 0) := V_va0.keep K6 nin0
  obtain ⟨cl38, Ar38, q38, S38, N38', H38, G38⟩ := id f37
  have hin38_0 : ¬ ((0 : Int32) < 0 ∨ cl38.slots.size ≤ ((0 : Int32)).toNatClampNeg) := inb_of S38 ⟨by decide, by decide⟩
  have hat38_0 : cl38.slots[((0 : Int32)).toNatClampNeg]? = some (.double u0) := H38.at hin38_0 rfl
  have R39 : ∀ t, oG p e below T26 m 70 #[oR a1, oR b6, oI 0, oR r0, oR va0, oI 0, .unset] [(.double u0), (.int 0), (.ref x5_0)] t → Steps p.tables e below AA t := by
    intro t k
    refine R36 t ?_
    refine X26.daload hx (j := (0 : Int32)) (v := (.double u0)) (by rw [e26]; exact Ar38.1) (State.isArrayOf_alike hZ.alike Ar38.2.1) Ar38.2.2 hin38_0 hat38_0 (g := (mkF m 69 #[oR a1, oR b6, oI 0, oR r0, oR va0, oI 0, .unset] [(.int 0), (.ref va0), (.int 0), (.ref x5_0)])) rfl rfl (hb hby own_d5_69) _ ?_
    exact k
  clear R36
  obtain ⟨cl40, Ar40, q40, S40, N40', H40, G40⟩ := id Vx5_0
  have hin40 : ¬ ((0 : Int32) < 0 ∨ cl40.slots.size ≤ ((0 : Int32)).toNatClampNeg) := inb_of S40 ⟨by decide, by decide⟩
  obtain ⟨T41, h41, X41, e41, W41, st41⟩ := stD X26 hx hZ e26 Ar40 (j := (0 : Int32)) hin40 (g := (mkF m 70 #[oR a1, oR b6, oI 0, oR r0, oR va0, oI 0, .unset] [(.double u0), (.int 0), (.ref x5_0)])) rfl rfl (hb hby own_d5_70)
  have R41 := fun t k => R39 t (st41 t k)
  clear R39 st41 X26 e26
  have Z41 : n0 ≤ h41.size := Nat.le_trans Z6 (Keep.of_wr W41).1
  clear Z6
  have K41 : Keep h0 h41 [] := K6.wr W41 (Or.inr sz_x5_0)
  have N41 := Fr.snoc X41 N0 g_x5_0
  clear K6
  have f42 : Exa Z h41 b6 "[[D" := B6.wr W41
  have f43 : Arv Z h41 b6 k6 (.array .double) (2 : Int32) [(.ref x5_0), (.ref x5_1)] .null := V6.other W41 ne_b6_x5_0
  clear V6
  have f44 : Exa Z h41 x5_0 "[D" := Bx5_0.wr W41
  have f45 : Exa Z h41 x5_1 "[D" := Bx5_1.wr W41
  have f46 : Arv Z h41 x5_1 c6 .double (2 : Int32) [(.double 0), (.double 0)] (.double 0) := Vx5_1.other W41 (Ne.symm ne_x5_0_x5_1)
  have V41 : Arv Z h41 x5_0 c6 .double (2 : Int32) [(.double u0), (.double 0)] (.double 0) := Arv.set Ar40 q40 S40 N40' H40 G40 rfl W41 0 rfl (Nat.le_of_ble_eq_true rfl)
  clear Ar40 q40 S40 N40' H40 G40 hin40 W41
  have R47 : ∀ t, oG p e below T41 m 54 #[oR a1, oR b6, oI 0, oR r0, oR va0, oI 1, .unset] [(.ref r0), (.int 1)] t → Steps p.tables e below AA t := by
    intro t k
    refine R41 t ?_
    refine XS.iinc X41.here hx rfl (hb hby own_d5_71) rfl (l' := #[oR a1, oR b6, oI 0, oR r0, oR va0, oI 1, .unset]) rfl ?_
    refine XS.goto X41.here hx rfl (pc0 := 74) (pc' := 51) rfl (hb hby own_d5_74) (by decide) (by decide) ?_
    refine XS.iload X41.here hx rfl (hb hby own_d5_51) rfl ?_
    refine XS.aloadN X41.here hx rfl (hb hby own_d5_53) rfl rfl ?_
    exact k
  clear R41
  have f48 : Arv Z h41 r0 kd .int (1 : Int32) [(.int 0)] (.int 0) := V_r0.keep K41 nin0
  obtain ⟨cl49, Ar49, q49, S49, N49', H49, G49⟩ := id f48
  have R50 : ∀ t, oG p e below T41 m 17 #[oR a1, oR b6, oI 1, oR r0, oR va0, oI 1, .unset] [(.ref a1), (.int 1)] t → Steps p.tables e below AA t := by
    intro t k
    refine R47 t ?_
    refine X41.arraylength hx (by rw [e41]; exact Ar49.1) (State.isArrayOf_alike hZ.alike Ar49.2.1) (g := (mkF m 54 #[oR a1, oR b6, oI 0, oR r0, oR va0, oI 1, .unset] [(.ref r0), (.int 1)])) rfl rfl (hb hby own_d5_54) _ ?_
    rw [len_of S49 N49']
    refine XS.icmpYes X41.here hx rfl (pc0 := 55) (pc' := 77) rfl (hb hby own_d5_55) rfl (flt (by decide : ¬ ((1 : Int32) < (1 : Int32)))).2.1 (by decide) (by decide) ?_
    refine XS.iinc X41.here hx rfl (hb hby own_d5_77) rfl (l' := #[oR a1, oR b6, oI 1, oR r0, oR va0, oI 1, .unset]) rfl ?_
    refine XS.goto X41.here hx rfl (pc0 := 80) (pc' := 15) rfl (hb hby own_d5_80) (by decide) (by decide) ?_
    refine XS.iloadN X41.here hx rfl (hb hby own_d5_15) rfl ?_
    show oG p e below T41 m 16 #[oR a1, oR b6, oI 1, oR r0, oR va0, oI 1, .unset] [(.int 1)] _
    refine XS.aloadN X41.here hx rfl (hb hby own_d5_16) rfl rfl ?_
    exact k
  clear R47
  have f51 : oF Z h41 a1 "rows" "I" (.int 2) := F_a1_rows.keep K41 nin0
  obtain ⟨T52, X52, e52, st52⟩ := getF X41 hx hZ hown (host := "") (Or.inl (oW hw 24 rfl)) Via.refl e41 f51 (g := (mkF m 17 #[oR a1, oR b6, oI 1, oR r0, oR va0, oI 1, .unset] [(.ref a1), (.int 1)])) rfl rfl (hb hby own_d5_17)
  have R52 := fun t k => R50 t (st52 t k)
  clear R50 st52 X41 e41
  have R53 : ∀ t, oG p e below T52 m 24 #[oR a1, oR b6, oI 1, oR r0, oR va0, oI 1, .unset] [(.ref a1)] t → Steps p.tables e below AA t := by
    intro t k
    refine R52 t ?_
    refine XS.icmpNo X52.here hx rfl (hb hby own_d5_20) rfl (tlt (by decide : ((1 : Int32) < (2 : Int32)))).2.1 ?_
    refine XS.aloadN X52.here hx rfl (hb hby own_d5_23) rfl rfl ?_
    exact k
  clear R52
  have f54 : oF Z h41 a1 "entryRows" "[[I" (.ref er) := F_a1_entryRows.keep K41 nin0
  obtain ⟨T55, X55, e55, st55⟩ := getF X52 hx hZ hown (host := "") (Or.inl (oW hw 15 rfl)) Via.refl e52 f54 (g := (mkF m 24 #[oR a1, oR b6, oI 1, oR r0, oR va0, oI 1, .unset] [(.ref a1)])) rfl rfl (hb hby own_d5_24)
  have R55 := fun t k => R53 t (st55 t k)
  clear R53 st55 X52 e52
  have R56 : ∀ t, oG p e below T55 m 28 #[oR a1, oR b6, oI 1, oR r0, oR va0, oI 1, .unset] [(.ref a1), (.ref er)] t → Steps p.tables e below AA t := by
    intro t k
    refine R55 t ?_
    refine XS.aloadN X55.here hx rfl (hb hby own_d5_27) rfl rfl ?_
    exact k
  clear R55
  have f57 : oF Z h41 a1 "basis" "[I" (.ref bs) := F_a1_basis.keep K41 nin0
  obtain ⟨T58, X58, e58, st58⟩ := getF X55 hx hZ hown (host := "") (Or.inl (oW hw 53 rfl)) Via.refl e55 f57 (g := (mkF m 28 #[oR a1, oR b6, oI 1, oR r0, oR va0, oI 1, .unset] [(.ref a1), (.ref er)])) rfl rfl (hb hby own_d5_28)
  have R58 := fun t k => R56 t (st58 t k)
  clear R56 st58 X55 e55
  have R59 : ∀ t, oG p e below T58 m 32 #[oR a1, oR b6, oI 1, oR r0, oR va0, oI 1, .unset] [(.int 1), (.ref bs), (.ref er)] t → Steps p.tables e below AA t := by
    intro t k
    refine R58 t ?_
    refine XS.iloadN X58.here hx rfl (hb hby own_d5_31) rfl ?_
    exact k
  clear R58
  have f60 : Arv Z h41 bs ka .int (2 : Int32) [(.int j0), (.int j1)] (.int 0) := V_bs.keep K41 nin0
  obtain ⟨cl61, Ar61, q61, S61, N61', H61, G61⟩ := id f60
  have hin61_1 : ¬ ((1 : Int32) < 0 ∨ cl61.slots.size ≤ ((1 : Int32)).toNatClampNeg) := inb_of S61 ⟨by decide, by decide⟩
  have hat61_1 : cl61.slots[((1 : Int32)).toNatClampNeg]? = some (.int j1) := H61.at hin61_1 rfl
  have R62 : ∀ t, oG p e below T58 m 33 #[oR a1, oR b6, oI 1, oR r0, oR va0, oI 1, .unset] [(.int j1), (.ref er)] t → Steps p.tables e below AA t := by
    intro t k
    refine R59 t ?_
    refine X58.iaload hx (j := (1 : Int32)) (v := (.int j1)) (by rw [e58]; exact Ar61.1) (State.isArrayOf_alike hZ.alike Ar61.2.1) Ar61.2.2 hin61_1 hat61_1 (g := (mkF m 32 #[oR a1, oR b6, oI 1, oR r0, oR va0, oI 1, .unset] [(.int 1), (.ref bs), (.ref er)])) rfl rfl (hb hby own_d5_32) _ ?_
    exact k
  clear R59
  have f63 : Arv Z h41 er kb (.array .int) (16 : Int32) ers .null := V_er.keep K41 nin0
  obtain ⟨cl64, Ar64, q64, S64, N64', H64, G64⟩ := id f63
  have hin64_j1 : ¬ (j1 < 0 ∨ cl64.slots.size ≤ (j1).toNatClampNeg) := inb_of S64 hj1
  have hat64_j1 : cl64.slots[(j1).toNatClampNeg]? = some (.ref r1) := H64.at hin64_j1 ur1
  have R65 : ∀ t, oG p e below T58 m 36 #[oR a1, oR b6, oI 1, oR r1, oR va0, oI 1, .unset] [(.ref a1)] t → Steps p.tables e below AA t := by
    intro t k
    refine R62 t ?_
    refine X58.aaload hx (j := j1) (v := (.ref r1)) (by rw [e58]; exact Ar64.1) (State.isArrayOf_alike hZ.alike Ar64.2.1) rfl Ar64.2.2 hin64_j1 hat64_j1 (g := (mkF m 33 #[oR a1, oR b6, oI 1, oR r0, oR va0, oI 1, .unset] [(.int j1), (.ref er)])) rfl rfl (hb hby own_d5_33) _ ?_
    refine XS.astoreN X58.here hx rfl (hb hby own_d5_34) rfl rfl (l' := #[oR a1, oR b6, oI 1, oR r1, oR va0, oI 1, .unset]) rfl ?_
    refine XS.aloadN X58.here hx rfl (hb hby own_d5_35) rfl rfl ?_
    exact k
  clear R62
  have f66 : oF Z h41 a1 "entryValues" "[[D" (.ref ev) := F_a1_entryValues.keep K41 nin0
  obtain ⟨T67, X67, e67, st67⟩ := getF X58 hx hZ hown (host := "") (Or.inl (oW hw 19 rfl)) Via.refl e58 f66 (g := (mkF m 36 #[oR a1, oR b6, oI 1, oR r1, oR va0, oI 1, .unset] [(.ref a1)])) rfl rfl (hb hby own_d5_36)
  have R67 := fun t k => R65 t (st67 t k)
  clear R65 st67 X58 e58
  have R68 : ∀ t, oG p e below T67 m 40 #[oR a1, oR b6, oI 1, oR r1, oR va0, oI 1, .unset] [(.ref a1), (.ref ev)] t → Steps p.tables e below AA t := by
    intro t k
    refine R67 t ?_
    refine XS.aloadN X67.here hx rfl (hb hby own_d5_39) rfl rfl ?_
    exact k
  clear R67
  obtain ⟨T69, X69, e69, st69⟩ := getF X67 hx hZ hown (host := "") (Or.inl (oW hw 53 rfl)) Via.refl e67 f57 (g := (mkF m 40 #[oR a1, oR b6, oI 1, oR r1, oR va0, oI 1, .unset] [(.ref a1), (.ref ev)])) rfl rfl (hb hby own_d5_40)
  have R69 := fun t k => R68 t (st69 t k)
  clear R68 st69 X67 e67
  have R70 : ∀ t, oG p e below T69 m 45 #[oR a1, oR b6, oI 1, oR r1, oR va0, oI 1, .unset] [(.int j1), (.ref ev)] t → Steps p.tables e below AA t := by
    intro t k
    refine R69 t ?_
    refine XS.iloadN X69.here hx rfl (hb hby own_d5_43) rfl ?_
    refine X69.iaload hx (j := (1 : Int32)) (v := (.int j1)) (by rw [e69]; exact Ar61.1) (State.isArrayOf_alike hZ.alike Ar61.2.1) Ar61.2.2 hin61_1 hat61_1 (g := (mkF m 44 #[oR a1, oR b6, oI 1, oR r1, oR va0, oI 1, .unset] [(.int 1), (.ref bs), (.ref ev)])) rfl rfl (hb hby own_d5_44) _ ?_
    exact k
  clear R69
  have f71 : Arv Z h41 ev kc (.array .double) (16 : Int32) evs .null := V_ev.keep K41 nin0
  obtain ⟨cl72, Ar72, q72, S72, N72', H72, G72⟩ := id f71
  have hin72_j1 : ¬ (j1 < 0 ∨ cl72.slots.size ≤ (j1).toNatClampNeg) := inb_of S72 hj1
  have hat72_j1 : cl72.slots[(j1).toNatClampNeg]? = some (.ref va1) := H72.at hin72_j1 uv1
  have R73 : ∀ t, oG p e below T69 m 54 #[oR a1, oR b6, oI 1, oR r1, oR va1, oI 0, .unset] [(.ref r1), (.int 0)] t → Steps p.tables e below AA t := by
    intro t k
    refine R70 t ?_
    refine X69.aaload hx (j := j1) (v := (.ref va1)) (by rw [e69]; exact Ar72.1) (State.isArrayOf_alike hZ.alike Ar72.2.1) rfl Ar72.2.2 hin72_j1 hat72_j1 (g := (mkF m 45 #[oR a1, oR b6, oI 1, oR r1, oR va0, oI 1, .unset] [(.int j1), (.ref ev)])) rfl rfl (hb hby own_d5_45) _ ?_
    refine XS.astore X69.here hx rfl (hb hby own_d5_46) rfl rfl (l' := #[oR a1, oR b6, oI 1, oR r1, oR va1, oI 1, .unset]) rfl ?_
    refine XS.iconst X69.here hx rfl (hb hby own_d5_48) ?_
    refine XS.istore X69.here hx rfl (hb hby own_d5_49) rfl (l' := #[oR a1, oR b6, oI 1, oR r1, oR va1, oI 0, .unset]) rfl ?_
    refine XS.iload X69.here hx rfl (hb hby own_d5_51) rfl ?_
    show oG p e below T69 m 53 #[oR a1, oR b6, oI 1, oR r1, oR va1, oI 0, .unset] [(.int 0)] _
    refine XS.aloadN X69.here hx rfl (hb hby own_d5_53) rfl rfl ?_
    exact k
  clear R70
  have f74 : Arv Z h41 r1 ke .int (1 : Int32) [(.int 1)] (.int 0) := V_r1.keep K41 nin0
  obtain ⟨cl75, Ar75, q75, S75, N75', H75, G75⟩ := id f74
  have R76 : ∀ t, oG p e below T69 m 62 #[oR a1, oR b6, oI 1, oR r1, oR va1, oI 0, .unset] [(.int 0), (.ref r1), (.ref b6)] t → Steps p.tables e below AA t := by
    intro t k
    refine R73 t ?_
    refine X69.arraylength hx (by rw [e69]; exact Ar75.1) (State.isArrayOf_alike hZ.alike Ar75.2.1) (g := (mkF m 54 #[oR a1, oR b6, oI 1, oR r1, oR va1, oI 0, .unset] [(.ref r1), (.int 0)])) rfl rfl (hb hby own_d5_54) _ ?_
    rw [len_of S75 N75']
    refine XS.icmpNo X69.here hx rfl (hb hby own_d5_55) rfl (tlt (by decide : ((0 : Int32) < (1 : Int32)))).2.1 ?_
    refine XS.aloadN X69.here hx rfl (hb hby own_d5_58) rfl rfl ?_
    refine XS.aloadN X69.here hx rfl (hb hby own_d5_59) rfl rfl ?_
    refine XS.iload X69.here hx rfl (hb hby own_d5_60) rfl ?_
    exact k
  clear R73
  have hin75_0 : ¬ ((0 : Int32) < 0 ∨ cl75.slots.size ≤ ((0 : Int32)).toNatClampNeg) := inb_of S75 ⟨by decide, by decide⟩
  have hat75_0 : cl75.slots[((0 : Int32)).toNatClampNeg]? = some (.int 1) := H75.at hin75_0 rfl
  have R77 : ∀ t, oG p e below T69 m 63 #[oR a1, oR b6, oI 1, oR r1, oR va1, oI 0, .unset] [(.int 1), (.ref b6)] t → Steps p.tables e below AA t := by
    intro t k
    refine R76 t ?_
    refine X69.iaload hx (j := (0 : Int32)) (v := (.int 1)) (by rw [e69]; exact Ar75.1) (State.isArrayOf_alike hZ.alike Ar75.2.1) Ar75.2.2 hin75_0 hat75_0 (g := (mkF m 62 #[oR a1, oR b6, oI 1, oR r1, oR va1, oI 0, .unset] [(.int 0), (.ref r1), (.ref b6)])) rfl rfl (hb hby own_d5_62) _ ?_
    exact k
  clear R76
  obtain ⟨cl78, Ar78, q78, S78, N78', H78, G78⟩ := id f43
  have hin78_1 : ¬ ((1 : Int32) < 0 ∨ cl78.slots.size ≤ ((1 : Int32)).toNatClampNeg) := inb_of S78 ⟨by decide, by decide⟩
  have hat78_1 : cl78.slots[((1 : Int32)).toNatClampNeg]? = some (.ref x5_1) := H78.at hin78_1 rfl
  have R79 : ∀ t, oG p e below T69 m 69 #[oR a1, oR b6, oI 1, oR r1, oR va1, oI 0, .unset] [(.int 0), (.ref va1), (.int 1), (.ref x5_1)] t → Steps p.tables e below AA t := by
    intro t k
    refine R77 t ?_
    refine X69.aaload hx (j := (1 : Int32)) (v := (.ref x5_1)) (by rw [e69]; exact Ar78.1) (State.isArrayOf_alike hZ.alike Ar78.2.1) rfl Ar78.2.2 hin78_1 hat78_1 (g := (mkF m 63 #[oR a1, oR b6, oI 1, oR r1, oR va1, oI 0, .unset] [(.int 1), (.ref b6)])) rfl rfl (hb hby own_d5_63) _ ?_
    refine XS.iloadN X69.here hx rfl (hb hby own_d5_64) rfl ?_
    refine XS.aload X69.here hx rfl (hb hby own_d5_65) rfl rfl ?_
    refine XS.iload X69.here hx rfl (hb hby own_d5_67) rfl ?_
    exact k
  clear R77
  have f80 : Arv Z h41 va1 kg .double (1 : Int32) [(.double u1)] (.double 0) := V_va1.keep K41 nin0
  obtain ⟨cl81, Ar81, q81, S81, N81', H81, G81⟩ := id f80
  have hin81_0 : ¬ ((0 : Int32) < 0 ∨ cl81.slots.size ≤ ((0 : Int32)).toNatClampNeg) := inb_of S81 ⟨by decide, by decide⟩
  have hat81_0 : cl81.slots[((0 : Int32)).toNatClampNeg]? = some (.double u1) := H81.at hin81_0 rfl
  have R82 : ∀ t, oG p e below T69 m 70 #[oR a1, oR b6, oI 1, oR r1, oR va1, oI 0, .unset] [(.double u1), (.int 1), (.ref x5_1)] t → Steps p.tables e below AA t := by
    intro t k
    refine R79 t ?_
    refine X69.daload hx (j := (0 : Int32)) (v := (.double u1)) (by rw [e69]; exact Ar81.1) (State.isArrayOf_alike hZ.alike Ar81.2.1) Ar81.2.2 hin81_0 hat81_0 (g := (mkF m 69 #[oR a1, oR b6, oI 1, oR r1, oR va1, oI 0, .unset] [(.int 0), (.ref va1), (.int 1), (.ref x5_1)])) rfl rfl (hb hby own_d5_69) _ ?_
    exact k
  clear R79
  obtain ⟨cl83, Ar83, q83, S83, N83', H83, G83⟩ := id f46
  have hin83 : ¬ ((1 : Int32) < 0 ∨ cl83.slots.size ≤ ((1 : Int32)).toNatClampNeg) := inb_of S83 ⟨by decide, by decide⟩
  obtain ⟨T84, h84, X84, e84, W84, st84⟩ := stD X69 hx hZ e69 Ar83 (j := (1 : Int32)) hin83 (g := (mkF m 70 #[oR a1, oR b6, oI 1, oR r1, oR va1, oI 0, .unset] [(.double u1), (.int 1), (.ref x5_1)])) rfl rfl (hb hby own_d5_70)
  have R84 := fun t k => R82 t (st84 t k)
  clear R82 st84 X69 e69
  have Z84 : n0 ≤ h84.size := Nat.le_trans Z41 (Keep.of_wr W84).1
  clear Z41
  have K84 : Keep h0 h84 [] := K41.wr W84 (Or.inr sz_x5_1)
  have N84 := Fr.snoc X84 N41 g_x5_1
  clear K41
  clear N41
  have f85 : Exa Z h84 b6 "[[D" := f42.wr W84
  clear f42
  have f86 : Arv Z h84 b6 k6 (.array .double) (2 : Int32) [(.ref x5_0), (.ref x5_1)] .null := f43.other W84 ne_b6_x5_1
  clear f43
  have f87 : Exa Z h84 x5_0 "[D" := f44.wr W84
  clear f44
  have f88 : Exa Z h84 x5_1 "[D" := f45.wr W84
  clear f45
  have f89 : Arv Z h84 x5_0 c6 .double (2 : Int32) [(.double u0), (.double 0)] (.double 0) := V41.other W84 ne_x5_0_x5_1
  clear V41
  have V84 : Arv Z h84 x5_1 c6 .double (2 : Int32) [(.double 0), (.double u1)] (.double 0) := Arv.set Ar83 q83 S83 N83' H83 G83 rfl W84 1 rfl (Nat.le_of_ble_eq_true rfl)
  clear Ar83 q83 S83 N83' H83 G83 hin83 W84 f46
  have R90 : ∀ t, oG p e below T84 m 54 #[oR a1, oR b6, oI 1, oR r1, oR va1, oI 1, .unset] [(.ref r1), (.int 1)] t → Steps p.tables e below AA t := by
    intro t k
    refine R84 t ?_
    refine XS.iinc X84.here hx rfl (hb hby own_d5_71) rfl (l' := #[oR a1, oR b6, oI 1, oR r1, oR va1, oI 1, .unset]) rfl ?_
    refine XS.goto X84.here hx rfl (pc0 := 74) (pc' := 51) rfl (hb hby own_d5_74) (by decide) (by decide) ?_
    refine XS.iload X84.here hx rfl (hb hby own_d5_51) rfl ?_
    refine XS.aloadN X84.here hx rfl (hb hby own_d5_53) rfl rfl ?_
    exact k
  clear R84
  have f91 : Arv Z h84 r1 ke .int (1 : Int32) [(.int 1)] (.int 0) := V_r1.keep K84 nin0
  obtain ⟨cl92, Ar92, q92, S92, N92', H92, G92⟩ := id f91
  have R93 : ∀ t, oG p e below T84 m 17 #[oR a1, oR b6, oI 2, oR r1, oR va1, oI 1, .unset] [(.ref a1), (.int 2)] t → Steps p.tables e below AA t := by
    intro t k
    refine R90 t ?_
    refine X84.arraylength hx (by rw [e84]; exact Ar92.1) (State.isArrayOf_alike hZ.alike Ar92.2.1) (g := (mkF m 54 #[oR a1, oR b6, oI 1, oR r1, oR va1, oI 1, .unset] [(.ref r1), (.int 1)])) rfl rfl (hb hby own_d5_54) _ ?_
    rw [len_of S92 N92']
    refine XS.icmpYes X84.here hx rfl (pc0 := 55) (pc' := 77) rfl (hb hby own_d5_55) rfl (flt (by decide : ¬ ((1 : Int32) < (1 : Int32)))).2.1 (by decide) (by decide) ?_
    refine XS.iinc X84.here hx rfl (hb hby own_d5_77) rfl (l' := #[oR a1, oR b6, oI 2, oR r1, oR va1, oI 1, .unset]) rfl ?_
    refine XS.goto X84.here hx rfl (pc0 := 80) (pc' := 15) rfl (hb hby own_d5_80) (by decide) (by decide) ?_
    refine XS.iloadN X84.here hx rfl (hb hby own_d5_15) rfl ?_
    show oG p e below T84 m 16 #[oR a1, oR b6, oI 2, oR r1, oR va1, oI 1, .unset] [(.int 2)] _
    refine XS.aloadN X84.here hx rfl (hb hby own_d5_16) rfl rfl ?_
    exact k
  clear R90
  have f94 : oF Z h84 a1 "rows" "I" (.int 2) := F_a1_rows.keep K84 nin0
  obtain ⟨T95, X95, e95, st95⟩ := getF X84 hx hZ hown (host := "") (Or.inl (oW hw 24 rfl)) Via.refl e84 f94 (g := (mkF m 17 #[oR a1, oR b6, oI 2, oR r1, oR va1, oI 1, .unset] [(.ref a1), (.int 2)])) rfl rfl (hb hby own_d5_17)
  have R95 := fun t k => R93 t (st95 t k)
  clear R93 st95 X84 e84
  have R96 : ∀ t, oG p e below T95 m 84 #[oR a1, oR b6, oI 2, oR r1, oR va1, oI 1, .unset] [(.ref a1)] t → Steps p.tables e below AA t := by
    intro t k
    refine R95 t ?_
    refine XS.icmpYes X95.here hx rfl (pc0 := 20) (pc' := 83) rfl (hb hby own_d5_20) rfl (flt (by decide : ¬ ((2 : Int32) < (2 : Int32)))).2.1 (by decide) (by decide) ?_
    refine XS.aloadN X95.here hx rfl (hb hby own_d5_83) rfl rfl ?_
    exact k
  clear R95
  obtain ⟨T97, X97, e97, st97⟩ := getF X95 hx hZ hown (host := "") (Or.inl (oW hw 24 rfl)) Via.refl e95 f94 (g := (mkF m 84 #[oR a1, oR b6, oI 2, oR r1, oR va1, oI 1, .unset] [(.ref a1)])) rfl rfl (hb hby own_d5_84)
  have R97 := fun t k => R96 t (st97 t k)
  clear R96 st97 X95 e95
  have R98 : ∀ t, oG p e below T97 m 88 #[oR a1, oR b6, oI 2, oR r1, oR va1, oI 1, .unset] [(.ref a1), (.int 2)] t → Steps p.tables e below AA t := by
    intro t k
    refine R97 t ?_
    refine XS.aloadN X97.here hx rfl (hb hby own_d5_87) rfl rfl ?_
    exact k
  clear R97
  obtain ⟨T99, X99, e99, st99⟩ := getF X97 hx hZ hown (host := "") (Or.inl (oW hw 24 rfl)) Via.refl e97 f94 (g := (mkF m 88 #[oR a1, oR b6, oI 2, oR r1, oR va1, oI 1, .unset] [(.ref a1), (.int 2)])) rfl rfl (hb hby own_d5_88)
  have R99 := fun t k => R98 t (st99 t k)
  clear R98 st99 X97 e97
  obtain ⟨x100_0, gx100_0⟩ : ∃ z, z = h84.size + 1 + 0 := ⟨_, rfl⟩
  obtain ⟨x100_1, gx100_1⟩ : ∃ z, z = h84.size + 1 + 1 := ⟨_, rfl⟩
  obtain ⟨T101, h101, k101, c101, X101, e101, E101, A101, O101, B101, I101, st101⟩ := gridM X99 hx hZ (C := "[D") (ad := "[[D") (ty := .double) hown (by decide) (by decide) (oW hw 61 rfl) (oW hw 18 rfl) (oW hw 4 rfl) e99 (g := (mkF m 91 #[oR a1, oR b6, oI 2, oR r1, oR va1, oI 1, .unset] [(.int 2), (.int 2)])) rfl (hb hby own_d5_91) rfl (by decide) (by decide) (xs := [x100_0, x100_1]) (N := 2) rfl (by subst gx100_0 gx100_1; rfl) (cap := 2) (by decide) (by decide) (by decide) rfl (by decide) (by decide) (by decide)
  obtain ⟨b101, g101⟩ : ∃ z, z = h84.size := ⟨_, rfl⟩
  rw [← g101] at A101 B101 st101
  have R101 := fun t k => R99 t (st101 t k)
  clear R99 st101 X99 e99
  have ge_b101 : h84.size ≤ b101 := (Nat.le_of_eq g101.symm)
  have ne_b6_b101 : b6 ≠ b101 := Nat.ne_of_lt (Nat.lt_of_lt_of_le f85.lt ge_b101)
  have ne_x5_0_b101 : x5_0 ≠ b101 := Nat.ne_of_lt (Nat.lt_of_lt_of_le f87.lt ge_b101)
  have ne_x5_1_b101 : x5_1 ≠ b101 := Nat.ne_of_lt (Nat.lt_of_lt_of_le f88.lt ge_b101)
  have g_b101 : n0 ≤ b101 := Nat.le_trans Z84 ge_b101
  have sz_b101 : h0.size ≤ b101 := Nat.le_trans K84.1 ge_b101
  have ge_x100_0 : h84.size ≤ x100_0 := (by omega : h84.size ≤ x100_0)
  have ne_b6_x100_0 : b6 ≠ x100_0 := Nat.ne_of_lt (Nat.lt_of_lt_of_le f85.lt ge_x100_0)
  have ne_x5_0_x100_0 : x5_0 ≠ x100_0 := Nat.ne_of_lt (Nat.lt_of_lt_of_le f87.lt ge_x100_0)
  have ne_x5_1_x100_0 : x5_1 ≠ x100_0 := Nat.ne_of_lt (Nat.lt_of_lt_of_le f88.lt ge_x100_0)
  have ne_b101_x100_0 : b101 ≠ x100_0 := by omega
  have g_x100_0 : n0 ≤ x100_0 := Nat.le_trans Z84 ge_x100_0
  have sz_x100_0 : h0.size ≤ x100_0 := Nat.le_trans K84.1 ge_x100_0
  have ge_x100_1 : h84.size ≤ x100_1 := (by omega : h84.size ≤ x100_1)
  have ne_b6_x100_1 : b6 ≠ x100_1 := Nat.ne_of_lt (Nat.lt_of_lt_of_le f85.lt ge_x100_1)
  have ne_x5_0_x100_1 : x5_0 ≠ x100_1 := Nat.ne_of_lt (Nat.lt_of_lt_of_le f87.lt ge_x100_1)
  have ne_x5_1_x100_1 : x5_1 ≠ x100_1 := Nat.ne_of_lt (Nat.lt_of_lt_of_le f88.lt ge_x100_1)
  have ne_b101_x100_1 : b101 ≠ x100_1 := by omega
  have ne_x100_0_x100_1 : x100_0 ≠ x100_1 := by omega
  have g_x100_1 : n0 ≤ x100_1 := Nat.le_trans Z84 ge_x100_1
  have sz_x100_1 : h0.size ≤ x100_1 := Nat.le_trans K84.1 ge_x100_1
  have Z101 : n0 ≤ h101.size := Nat.le_trans Z84 E101.1
  clear Z84
  have K101 : Keep h0 h101 [] := K84.ext E101
  clear K84
  have f102 : Exa Z h101 b6 "[[D" := f85.ext E101
  clear f85
  have f103 : Arv Z h101 b6 k6 (.array .double) (2 : Int32) [(.ref x5_0), (.ref x5_1)] .null := f86.ext E101
  clear f86
  have f104 : Exa Z h101 x5_0 "[D" := f87.ext E101
  clear f87
  have f105 : Exa Z h101 x5_1 "[D" := f88.ext E101
  clear f88
  have f106 : Arv Z h101 x5_0 c6 .double (2 : Int32) [(.double u0), (.double 0)] (.double 0) := f89.ext E101
  clear f89
  have f107 : Arv Z h101 x5_1 c6 .double (2 : Int32) [(.double 0), (.double u1)] (.double 0) := V84.ext E101
  clear V84
  clear E101
  have V101 : Arv Z h101 b101 k101 (.array .double) (2 : Int32) [(.ref x100_0), (.ref x100_1)] .null := A101
  have Bx100_0 : Exa Z h101 x100_0 "[D" := (I101 0 _ rfl).2
  have Vx100_0 : Arv Z h101 x100_0 c101 .double (2 : Int32) [(.double 0), (.double 0)] (.double 0) := (Arv.new (I101 0 _ rfl).1 (by decide)).pad (pad_rep [] (.double 0) 2)
  have Bx100_1 : Exa Z h101 x100_1 "[D" := (I101 1 _ rfl).2
  have Vx100_1 : Arv Z h101 x100_1 c101 .double (2 : Int32) [(.double 0), (.double 0)] (.double 0) := (Arv.new (I101 1 _ rfl).1 (by decide)).pad (pad_rep [] (.double 0) 2)
  have R108 : ∀ t, oG p e below T101 m 100 #[oR a1, oR b6, oR b101, oI 0, oR va1, oI 1, .unset] [(.ref a1), (.int 0)] t → Steps p.tables e below AA t := by
    intro t k
    refine R101 t ?_
    refine XS.astoreN X101.here hx rfl (hb hby own_d5_95) rfl rfl (l' := #[oR a1, oR b6, oR b101, oR r1, oR va1, oI 1, .unset]) rfl ?_
    refine XS.iconst X101.here hx rfl (hb hby own_d5_96) ?_
    refine XS.istoreN X101.here hx rfl (hb hby own_d5_97) rfl (l' := #[oR a1, oR b6, oR b101, oI 0, oR va1, oI 1, .unset]) rfl ?_
    refine XS.iloadN X101.here hx rfl (hb hby own_d5_98) rfl ?_
    refine XS.aloadN X101.here hx rfl (hb hby own_d5_99) rfl rfl ?_
    exact k
  clear R101
  have f109 : oF Z h101 a1 "rows" "I" (.int 2) := F_a1_rows.keep K101 nin0
  obtain ⟨T110, X110, e110, st110⟩ := getF X101 hx hZ hown (host := "") (Or.inl (oW hw 24 rfl)) Via.refl e101 f109 (g := (mkF m 100 #[oR a1, oR b6, oR b101, oI 0, oR va1, oI 1, .unset] [(.ref a1), (.int 0)])) rfl rfl (hb hby own_d5_100)
  have R110 := fun t k => R108 t (st110 t k)
  clear R108 st110 X101 e101
  have R111 : ∀ t, oG p e below T110 m 108 #[oR a1, oR b6, oR b101, oI 0, oR va1, oI 1, .unset] [(.int 0), (.ref b101)] t → Steps p.tables e below AA t := by
    intro t k
    refine R110 t ?_
    refine XS.icmpNo X110.here hx rfl (hb hby own_d5_103) rfl (tlt (by decide : ((0 : Int32) < (2 : Int32)))).2.1 ?_
    refine XS.aloadN X110.here hx rfl (hb hby own_d5_106) rfl rfl ?_
    refine XS.iloadN X110.here hx rfl (hb hby own_d5_107) rfl ?_
    exact k
  clear R110
  obtain ⟨cl112, Ar112, q112, S112, N112', H112, G112⟩ := id V101
  have hin112_0 : ¬ ((0 : Int32) < 0 ∨ cl112.slots.size ≤ ((0 : Int32)).toNatClampNeg) := inb_of S112 ⟨by decide, by decide⟩
  have hat112_0 : cl112.slots[((0 : Int32)).toNatClampNeg]? = some (.ref x100_0) := H112.at hin112_0 rfl
  have R113 : ∀ t, oG p e below T110 m 111 #[oR a1, oR b6, oR b101, oI 0, oR va1, oI 1, .unset] [(.double 4607182418800017408), (.int 0), (.ref x100_0)] t → Steps p.tables e below AA t := by
    intro t k
    refine R111 t ?_
    refine X110.aaload hx (j := (0 : Int32)) (v := (.ref x100_0)) (by rw [e110]; exact Ar112.1) (State.isArrayOf_alike hZ.alike Ar112.2.1) rfl Ar112.2.2 hin112_0 hat112_0 (g := (mkF m 108 #[oR a1, oR b6, oR b101, oI 0, oR va1, oI 1, .unset] [(.int 0), (.ref b101)])) rfl rfl (hb hby own_d5_108) _ ?_
    refine XS.iloadN X110.here hx rfl (hb hby own_d5_109) rfl ?_
    refine XS.dconst1 X110.here hx rfl (hb hby own_d5_110) (v := (4607182418800017408 : UInt64)) (by decide +kernel) ?_
    exact k
  clear R111
  obtain ⟨cl114, Ar114, q114, S114, N114', H114, G114⟩ := id Vx100_0
  have hin114 : ¬ ((0 : Int32) < 0 ∨ cl114.slots.size ≤ ((0 : Int32)).toNatClampNeg) := inb_of S114 ⟨by decide, by decide⟩
  obtain ⟨T115, h115, X115, e115, W115, st115⟩ := stD X110 hx hZ e110 Ar114 (j := (0 : Int32)) hin114 (g := (mkF m 111 #[oR a1, oR b6, oR b101, oI 0, oR va1, oI 1, .unset] [(.double 4607182418800017408), (.int 0), (.ref x100_0)])) rfl rfl (hb hby own_d5_111)
  have R115 := fun t k => R113 t (st115 t k)
  clear R113 st115 X110 e110
  have Z115 : n0 ≤ h115.size := Nat.le_trans Z101 (Keep.of_wr W115).1
  clear Z101
  have K115 : Keep h0 h115 [] := K101.wr W115 (Or.inr sz_x100_0)
  have N115 := Fr.snoc X115 N84 g_x100_0
  clear K101
  clear N84
  have f116 : Exa Z h115 b6 "[[D" := f102.wr W115
  clear f102
  have f117 : Arv Z h115 b6 k6 (.array .double) (2 : Int32) [(.ref x5_0), (.ref x5_1)] .null := f103.other W115 ne_b6_x100_0
  clear f103
  have f118 : Exa Z h115 x5_0 "[D" := f104.wr W115
  clear f104
  have f119 : Exa Z h115 x5_1 "[D" := f105.wr W115
  clear f105
  have f120 : Arv Z h115 x5_0 c6 .double (2 : Int32) [(.double u0), (.double 0)] (.double 0) := f106.other W115 ne_x5_0_x100_0
  clear f106
  have f121 : Arv Z h115 x5_1 c6 .double (2 : Int32) [(.double 0), (.double u1)] (.double 0) := f107.other W115 ne_x5_1_x100_0
  clear f107
  have f122 : Exa Z h115 b101 "[[D" := B101.wr W115
  have f123 : Arv Z h115 b101 k101 (.array .double) (2 : Int32) [(.ref x100_0), (.ref x100_1)] .null := V101.other W115 ne_b101_x100_0
  clear V101
  have f124 : Exa Z h115 x100_0 "[D" := Bx100_0.wr W115
  have f125 : Exa Z h115 x100_1 "[D" := Bx100_1.wr W115
  have f126 : Arv Z h115 x100_1 c101 .double (2 : Int32) [(.double 0), (.double 0)] (.double 0) := Vx100_1.other W115 (Ne.symm ne_x100_0_x100_1)
  have V115 : Arv Z h115 x100_0 c101 .double (2 : Int32) [(.double 4607182418800017408), (.double 0)] (.double 0) := Arv.set Ar114 q114 S114 N114' H114 G114 rfl W115 0 rfl (Nat.le_of_ble_eq_true rfl)
  clear Ar114 q114 S114 N114' H114 G114 hin114 W115
  have R127 : ∀ t, oG p e below T115 m 100 #[oR a1, oR b6, oR b101, oI 1, oR va1, oI 1, .unset] [(.ref a1), (.int 1)] t → Steps p.tables e below AA t := by
    intro t k
    refine R115 t ?_
    refine XS.iinc X115.here hx rfl (hb hby own_d5_112) rfl (l' := #[oR a1, oR b6, oR b101, oI 1, oR va1, oI 1, .unset]) rfl ?_
    refine XS.goto X115.here hx rfl (pc0 := 115) (pc' := 98) rfl (hb hby own_d5_115) (by decide) (by decide) ?_
    refine XS.iloadN X115.here hx rfl (hb hby own_d5_98) rfl ?_
    refine XS.aloadN X115.here hx rfl (hb hby own_d5_99) rfl rfl ?_
    exact k
  clear R115
  have f128 : oF Z h115 a1 "rows" "I" (.int 2) := F_a1_rows.keep K115 nin0
  obtain ⟨T129, X129, e129, st129⟩ := getF X115 hx hZ hown (host := "") (Or.inl (oW hw 24 rfl)) Via.refl e115 f128 (g := (mkF m 100 #[oR a1, oR b6, oR b101, oI 1, oR va1, oI 1, .unset] [(.ref a1), (.int 1)])) rfl rfl (hb hby own_d5_100)
  have R129 := fun t k => R127 t (st129 t k)
  clear R127 st129 X115 e115
  have R130 : ∀ t, oG p e below T129 m 108 #[oR a1, oR b6, oR b101, oI 1, oR va1, oI 1, .unset] [(.int 1), (.ref b101)] t → Steps p.tables e below AA t := by
    intro t k
    refine R129 t ?_
    refine XS.icmpNo X129.here hx rfl (hb hby own_d5_103) rfl (tlt (by decide : ((1 : Int32) < (2 : Int32)))).2.1 ?_
    refine XS.aloadN X129.here hx rfl (hb hby own_d5_106) rfl rfl ?_
    refine XS.iloadN X129.here hx rfl (hb hby own_d5_107) rfl ?_
    exact k
  clear R129
  obtain ⟨cl131, Ar131, q131, S131, N131', H131, G131⟩ := id f123
  have hin131_1 : ¬ ((1 : Int32) < 0 ∨ cl131.slots.size ≤ ((1 : Int32)).toNatClampNeg) := inb_of S131 ⟨by decide, by decide⟩
  have hat131_1 : cl131.slots[((1 : Int32)).toNatClampNeg]? = some (.ref x100_1) := H131.at hin131_1 rfl
  have R132 : ∀ t, oG p e below T129 m 111 #[oR a1, oR b6, oR b101, oI 1, oR va1, oI 1, .unset] [(.double 4607182418800017408), (.int 1), (.ref x100_1)] t → Steps p.tables e below AA t := by
    intro t k
    refine R130 t ?_
    refine X129.aaload hx (j := (1 : Int32)) (v := (.ref x100_1)) (by rw [e129]; exact Ar131.1) (State.isArrayOf_alike hZ.alike Ar131.2.1) rfl Ar131.2.2 hin131_1 hat131_1 (g := (mkF m 108 #[oR a1, oR b6, oR b101, oI 1, oR va1, oI 1, .unset] [(.int 1), (.ref b101)])) rfl rfl (hb hby own_d5_108) _ ?_
    refine XS.iloadN X129.here hx rfl (hb hby own_d5_109) rfl ?_
    refine XS.dconst1 X129.here hx rfl (hb hby own_d5_110) (v := (4607182418800017408 : UInt64)) (by decide +kernel) ?_
    exact k
  clear R130
  obtain ⟨cl133, Ar133, q133, S133, N133', H133, G133⟩ := id f126
  have hin133 : ¬ ((1 : Int32) < 0 ∨ cl133.slots.size ≤ ((1 : Int32)).toNatClampNeg) := inb_of S133 ⟨by decide, by decide⟩
  obtain ⟨T134, h134, X134, e134, W134, st134⟩ := stD X129 hx hZ e129 Ar133 (j := (1 : Int32)) hin133 (g := (mkF m 111 #[oR a1, oR b6, oR b101, oI 1, oR va1, oI 1, .unset] [(.double 4607182418800017408), (.int 1), (.ref x100_1)])) rfl rfl (hb hby own_d5_111)
  have R134 := fun t k => R132 t (st134 t k)
  clear R132 st134 X129 e129
  have Z134 : n0 ≤ h134.size := Nat.le_trans Z115 (Keep.of_wr W134).1
  clear Z115
  have K134 : Keep h0 h134 [] := K115.wr W134 (Or.inr sz_x100_1)
  have N134 := Fr.snoc X134 N115 g_x100_1
  clear K115
  clear N115
  have f135 : Exa Z h134 b6 "[[D" := f116.wr W134
  clear f116
  have f136 : Arv Z h134 b6 k6 (.array .double) (2 : Int32) [(.ref x5_0), (.ref x5_1)] .null := f117.other W134 ne_b6_x100_1
  clear f117
  have f137 : Exa Z h134 x5_0 "[D" := f118.wr W134
  clear f118
  have f138 : Exa Z h134 x5_1 "[D" := f119.wr W134
  clear f119
  have f139 : Arv Z h134 x5_0 c6 .double (2 : Int32) [(.double u0), (.double 0)] (.double 0) := f120.other W134 ne_x5_0_x100_1
  clear f120
  have f140 : Arv Z h134 x5_1 c6 .double (2 : Int32) [(.double 0), (.double u1)] (.double 0) := f121.other W134 ne_x5_1_x100_1
  clear f121
  have f141 : Exa Z h134 b101 "[[D" := f122.wr W134
  clear f122
  have f142 : Arv Z h134 b101 k101 (.array .double) (2 : Int32) [(.ref x100_0), (.ref x100_1)] .null := f123.other W134 ne_b101_x100_1
  clear f123
  have f143 : Exa Z h134 x100_0 "[D" := f124.wr W134
  clear f124
  have f144 : Exa Z h134 x100_1 "[D" := f125.wr W134
  clear f125
  have f145 : Arv Z h134 x100_0 c101 .double (2 : Int32) [(.double 4607182418800017408), (.double 0)] (.double 0) := V115.other W134 ne_x100_0_x100_1
  clear V115
  have V134 : Arv Z h134 x100_1 c101 .double (2 : Int32) [(.double 0), (.double 4607182418800017408)] (.double 0) := Arv.set Ar133 q133 S133 N133' H133 G133 rfl W134 1 rfl (Nat.le_of_ble_eq_true rfl)
  clear Ar133 q133 S133 N133' H133 G133 hin133 W134 f126
  have R146 : ∀ t, oG p e below T134 m 100 #[oR a1, oR b6, oR b101, oI 2, oR va1, oI 1, .unset] [(.ref a1), (.int 2)] t → Steps p.tables e below AA t := by
    intro t k
    refine R134 t ?_
    refine XS.iinc X134.here hx rfl (hb hby own_d5_112) rfl (l' := #[oR a1, oR b6, oR b101, oI 2, oR va1, oI 1, .unset]) rfl ?_
    refine XS.goto X134.here hx rfl (pc0 := 115) (pc' := 98) rfl (hb hby own_d5_115) (by decide) (by decide) ?_
    refine XS.iloadN X134.here hx rfl (hb hby own_d5_98) rfl ?_
    refine XS.aloadN X134.here hx rfl (hb hby own_d5_99) rfl rfl ?_
    exact k
  clear R134
  have f147 : oF Z h134 a1 "rows" "I" (.int 2) := F_a1_rows.keep K134 nin0
  obtain ⟨T148, X148, e148, st148⟩ := getF X134 hx hZ hown (host := "") (Or.inl (oW hw 24 rfl)) Via.refl e134 f147 (g := (mkF m 100 #[oR a1, oR b6, oR b101, oI 2, oR va1, oI 1, .unset] [(.ref a1), (.int 2)])) rfl rfl (hb hby own_d5_100)
  have R148 := fun t k => R146 t (st148 t k)
  clear R146 st148 X134 e134
  have R149 : ∀ t, oG p e below T148 m 122 #[oR a1, oR b6, oR b101, oI 0, oR va1, oI 1, .unset] [(.ref a1), (.int 0)] t → Steps p.tables e below AA t := by
    intro t k
    refine R148 t ?_
    refine XS.icmpYes X148.here hx rfl (pc0 := 103) (pc' := 118) rfl (hb hby own_d5_103) rfl (flt (by decide : ¬ ((2 : Int32) < (2 : Int32)))).2.1 (by decide) (by decide) ?_
    refine XS.iconst X148.here hx rfl (hb hby own_d5_118) ?_
    refine XS.istoreN X148.here hx rfl (hb hby own_d5_119) rfl (l' := #[oR a1, oR b6, oR b101, oI 0, oR va1, oI 1, .unset]) rfl ?_
    refine XS.iloadN X148.here hx rfl (hb hby own_d5_120) rfl ?_
    refine XS.aloadN X148.here hx rfl (hb hby own_d5_121) rfl rfl ?_
    exact k
  clear R148
  obtain ⟨T150, X150, e150, st150⟩ := getF X148 hx hZ hown (host := "") (Or.inl (oW hw 24 rfl)) Via.refl e148 f147 (g := (mkF m 122 #[oR a1, oR b6, oR b101, oI 0, oR va1, oI 1, .unset] [(.ref a1), (.int 0)])) rfl rfl (hb hby own_d5_122)
  have R150 := fun t k => R149 t (st150 t k)
  clear R149 st150 X148 e148
  have R151 : ∀ t, oG p e below T150 m 139 #[oR a1, oR b6, oR b101, oI 0, oI 0, oI 1, .unset] [(.ref a1), (.int 1)] t → Steps p.tables e below AA t := by
    intro t k
    refine R150 t ?_
    refine XS.icmpNo X150.here hx rfl (hb hby own_d5_125) rfl (tlt (by decide : ((0 : Int32) < (2 : Int32)))).2.1 ?_
    refine XS.iloadN X150.here hx rfl (hb hby own_d5_128) rfl ?_
    refine XS.istore X150.here hx rfl (hb hby own_d5_129) rfl (l' := #[oR a1, oR b6, oR b101, oI 0, oI 0, oI 1, .unset]) rfl ?_
    refine XS.iloadN X150.here hx rfl (hb hby own_d5_131) rfl ?_
    refine XS.iconst X150.here hx rfl (hb hby own_d5_132) ?_
    show oG p e below T150 m 133 #[oR a1, oR b6, oR b101, oI 0, oI 0, oI 1, .unset] [(.int 1), (.int 0)] _
    refine XS.iadd X150.here hx rfl (hb hby own_d5_133) rfl ?_
    refine XS.istore X150.here hx rfl (hb hby own_d5_134) rfl (l' := #[oR a1, oR b6, oR b101, oI 0, oI 0, oI 1, .unset]) rfl ?_
    refine XS.iload X150.here hx rfl (hb hby own_d5_136) rfl ?_
    refine XS.aloadN X150.here hx rfl (hb hby own_d5_138) rfl rfl ?_
    exact k
  clear R150
  obtain ⟨T152, X152, e152, st152⟩ := getF X150 hx hZ hown (host := "") (Or.inl (oW hw 24 rfl)) Via.refl e150 f147 (g := (mkF m 139 #[oR a1, oR b6, oR b101, oI 0, oI 0, oI 1, .unset] [(.ref a1), (.int 1)])) rfl rfl (hb hby own_d5_139)
  have R152 := fun t k => R151 t (st152 t k)
  clear R151 st152 X150 e150
  have R153 : ∀ t, oG p e below T152 m 148 #[oR a1, oR b6, oR b101, oI 0, oI 0, oI 1, .unset] [(.int 1), (.ref b6)] t → Steps p.tables e below AA t := by
    intro t k
    refine R152 t ?_
    refine XS.icmpNo X152.here hx rfl (hb hby own_d5_142) rfl (tlt (by decide : ((1 : Int32) < (2 : Int32)))).2.1 ?_
    refine XS.aloadN X152.here hx rfl (hb hby own_d5_145) rfl rfl ?_
    refine XS.iload X152.here hx rfl (hb hby own_d5_146) rfl ?_
    exact k
  clear R152
  obtain ⟨cl154, Ar154, q154, S154, N154', H154, G154⟩ := id f136
  have hin154_1 : ¬ ((1 : Int32) < 0 ∨ cl154.slots.size ≤ ((1 : Int32)).toNatClampNeg) := inb_of S154 ⟨by decide, by decide⟩
  have hat154_1 : cl154.slots[((1 : Int32)).toNatClampNeg]? = some (.ref x5_1) := H154.at hin154_1 rfl
  have R155 : ∀ t, oG p e below T152 m 150 #[oR a1, oR b6, oR b101, oI 0, oI 0, oI 1, .unset] [(.int 0), (.ref x5_1)] t → Steps p.tables e below AA t := by
    intro t k
    refine R153 t ?_
    refine X152.aaload hx (j := (1 : Int32)) (v := (.ref x5_1)) (by rw [e152]; exact Ar154.1) (State.isArrayOf_alike hZ.alike Ar154.2.1) rfl Ar154.2.2 hin154_1 hat154_1 (g := (mkF m 148 #[oR a1, oR b6, oR b101, oI 0, oI 0, oI 1, .unset] [(.int 1), (.ref b6)])) rfl rfl (hb hby own_d5_148) _ ?_
    refine XS.iloadN X152.here hx rfl (hb hby own_d5_149) rfl ?_
    exact k
  clear R153
  obtain ⟨cl156, Ar156, q156, S156, N156', H156, G156⟩ := id f140
  have hin156_0 : ¬ ((0 : Int32) < 0 ∨ cl156.slots.size ≤ ((0 : Int32)).toNatClampNeg) := inb_of S156 ⟨by decide, by decide⟩
  have hat156_0 : cl156.slots[((0 : Int32)).toNatClampNeg]? = some (.double 0) := H156.at hin156_0 rfl
  have R157 : ∀ t, oG p e below T152 m 151 #[oR a1, oR b6, oR b101, oI 0, oI 0, oI 1, .unset] [(.double 0)] t → Steps p.tables e below AA t := by
    intro t k
    refine R155 t ?_
    refine X152.daload hx (j := (0 : Int32)) (v := (.double 0)) (by rw [e152]; exact Ar156.1) (State.isArrayOf_alike hZ.alike Ar156.2.1) Ar156.2.2 hin156_0 hat156_0 (g := (mkF m 150 #[oR a1, oR b6, oR b101, oI 0, oI 0, oI 1, .unset] [(.int 0), (.ref x5_1)])) rfl rfl (hb hby own_d5_150) _ ?_
    exact k
  clear R155
  obtain ⟨_, v158, _, -, X158, ⟨rfl, rfl⟩, st158⟩ := Jvm.LawKit.callS X152 hx (y := (⟨"java/lang/Math", "abs", "(D)D"⟩ : MethodName)) hown (mvT hZ (oW hw 62 rfl)) (mvT hZ (oW hw 63 rfl)) (mvT hZ (oW hw 64 rfl)) (mvT hZ (oW hw 65 rfl)) (by decide) (Jvm.Free.Fl.Abs.absD_pays (W := 0) (0 : UInt64) (mvT hZ (oW hw 65 rfl)) (by decide) (by decide)) (g := (mkF m 151 #[oR a1, oR b6, oR b101, oI 0, oI 0, oI 1, .unset] [(.double 0)])) rfl (by rw [hml]; rfl) (argsL := [(.double 0)]) (rest := []) (lenOf own_pd5 rfl) rfl oL (hb hby own_d5_151) (fun _ _ => ⟨(by decide : 6 ≤ _), (by decide : 12 ≤ _), rfl, own_n0⟩)
  dsimp only [Pt.U, Pt.locs, Pt.cells, Pt.slots] at X158 st158
  have e158 : (T152.setVm v158).heap = h134 := e152
  generalize T152.setVm v158 = T158 at X158 st158 e158
  rw [own_abs0] at st158
  have R158 := fun t k => R157 t (st158 t k)
  clear R157 st158 X152 e152
  have R159 : ∀ t, oG p e below T158 m 157 #[oR a1, oR b6, oR b101, oI 0, oI 0, oI 1, .unset] [(.int 0), (.ref b6), (.double 0)] t → Steps p.tables e below AA t := by
    intro t k
    refine R158 t ?_
    refine XS.aloadN X158.here hx rfl (hb hby own_d5_154) rfl rfl ?_
    refine XS.iload X158.here hx rfl (hb hby own_d5_155) rfl ?_
    exact k
  clear R158
  have hin154_0 : ¬ ((0 : Int32) < 0 ∨ cl154.slots.size ≤ ((0 : Int32)).toNatClampNeg) := inb_of S154 ⟨by decide, by decide⟩
  have hat154_0 : cl154.slots[((0 : Int32)).toNatClampNeg]? = some (.ref x5_0) := H154.at hin154_0 rfl
  have R160 : ∀ t, oG p e below T158 m 159 #[oR a1, oR b6, oR b101, oI 0, oI 0, oI 1, .unset] [(.int 0), (.ref x5_0), (.double 0)] t → Steps p.tables e below AA t := by
    intro t k
    refine R159 t ?_
    refine X158.aaload hx (j := (0 : Int32)) (v := (.ref x5_0)) (by rw [e158]; exact Ar154.1) (State.isArrayOf_alike hZ.alike Ar154.2.1) rfl Ar154.2.2 hin154_0 hat154_0 (g := (mkF m 157 #[oR a1, oR b6, oR b101, oI 0, oI 0, oI 1, .unset] [(.int 0), (.ref b6), (.double 0)])) rfl rfl (hb hby own_d5_157) _ ?_
    refine XS.iloadN X158.here hx rfl (hb hby own_d5_158) rfl ?_
    exact k
  clear R159
  obtain ⟨cl161, Ar161, q161, S161, N161', H161, G161⟩ := id f139
  have hin161_0 : ¬ ((0 : Int32) < 0 ∨ cl161.slots.size ≤ ((0 : Int32)).toNatClampNeg) := inb_of S161 ⟨by decide, by decide⟩
  have hat161_0 : cl161.slots[((0 : Int32)).toNatClampNeg]? = some (.double u0) := H161.at hin161_0 rfl
  have R162 : ∀ t, oG p e below T158 m 160 #[oR a1, oR b6, oR b101, oI 0, oI 0, oI 1, .unset] [(.double u0), (.double 0)] t → Steps p.tables e below AA t := by
    intro t k
    refine R160 t ?_
    refine X158.daload hx (j := (0 : Int32)) (v := (.double u0)) (by rw [e158]; exact Ar161.1) (State.isArrayOf_alike hZ.alike Ar161.2.1) Ar161.2.2 hin161_0 hat161_0 (g := (mkF m 159 #[oR a1, oR b6, oR b101, oI 0, oI 0, oI 1, .unset] [(.int 0), (.ref x5_0), (.double 0)])) rfl rfl (hb hby own_d5_159) _ ?_
    exact k
  clear R160
  obtain ⟨_, v163, _, -, X163, ⟨rfl, rfl⟩, st163⟩ := Jvm.LawKit.callS X158 hx (y := (⟨"java/lang/Math", "abs", "(D)D"⟩ : MethodName)) hown (mvT hZ (oW hw 62 rfl)) (mvT hZ (oW hw 63 rfl)) (mvT hZ (oW hw 64 rfl)) (mvT hZ (oW hw 65 rfl)) (by decide) (Jvm.Free.Fl.Abs.absD_pays (W := 2) u0 (mvT hZ (oW hw 65 rfl)) (by decide) (by decide)) (g := (mkF m 160 #[oR a1, oR b6, oR b101, oI 0, oI 0, oI 1, .unset] [(.double u0), (.double 0)])) rfl (by rw [hml]; rfl) (argsL := [(.double u0)]) (rest := [(.double 0)]) (lenOf own_pd5 rfl) rfl oL (hb hby own_d5_160) (fun _ _ => ⟨(by decide : 6 ≤ _), (by decide : 12 ≤ _), rfl, (own_Sn su0)⟩)
  dsimp only [Pt.U, Pt.locs, Pt.cells, Pt.slots] at X163 st163
  have e163 : (T158.setVm v163).heap = h134 := e158
  generalize T158.setVm v163 = T163 at X163 st163 e163
  rw [(own_Sabs su0)] at st163
  have R163 := fun t k => R162 t (st163 t k)
  clear R162 st163 X158 e158
  have R164 : ∀ t, oG p e below T163 m 139 #[oR a1, oR b6, oR b101, oI 0, oI 0, oI 2, .unset] [(.ref a1), (.int 2)] t → Steps p.tables e below AA t := by
    intro t k
    refine R163 t ?_
    refine XS.dcmpS X163.here hx rfl (hb hby own_d5_163) rfl (own_S0lt su0) ?_
    refine XS.ifYes X163.here hx rfl (pc0 := 164) (pc' := 171) rfl (hb hby own_d5_164) rfl ((if0 _ _).trans (flt (by decide : ¬ ((0 : Int32) < (-1 : Int32)))).2.2.2) (by decide) (by decide) ?_
    refine XS.iinc X163.here hx rfl (hb hby own_d5_171) rfl (l' := #[oR a1, oR b6, oR b101, oI 0, oI 0, oI 2, .unset]) rfl ?_
    refine XS.goto X163.here hx rfl (pc0 := 174) (pc' := 136) rfl (hb hby own_d5_174) (by decide) (by decide) ?_
    refine XS.iload X163.here hx rfl (hb hby own_d5_136) rfl ?_
    show oG p e below T163 m 138 #[oR a1, oR b6, oR b101, oI 0, oI 0, oI 2, .unset] [(.int 2)] _
    refine XS.aloadN X163.here hx rfl (hb hby own_d5_138) rfl rfl ?_
    exact k
  clear R163
  obtain ⟨T165, X165, e165, st165⟩ := getF X163 hx hZ hown (host := "") (Or.inl (oW hw 24 rfl)) Via.refl e163 f147 (g := (mkF m 139 #[oR a1, oR b6, oR b101, oI 0, oI 0, oI 2, .unset] [(.ref a1), (.int 2)])) rfl rfl (hb hby own_d5_139)
  have R165 := fun t k => R164 t (st165 t k)
  clear R164 st165 X163 e163
  have R166 : ∀ t, oG p e below T165 m 183 #[oR a1, oR b6, oR b101, oI 0, oI 0, oI 2, .unset] [(.double u0)] t → Steps p.tables e below AA t := by
    intro t k
    refine R165 t ?_
    refine XS.icmpYes X165.here hx rfl (pc0 := 142) (pc' := 177) rfl (hb hby own_d5_142) rfl (flt (by decide : ¬ ((2 : Int32) < (2 : Int32)))).2.1 (by decide) (by decide) ?_
    refine XS.aloadN X165.here hx rfl (hb hby own_d5_177) rfl rfl ?_
    refine XS.iload X165.here hx rfl (hb hby own_d5_178) rfl ?_
    refine X165.aaload hx (j := (0 : Int32)) (v := (.ref x5_0)) (by rw [e165]; exact Ar154.1) (State.isArrayOf_alike hZ.alike Ar154.2.1) rfl Ar154.2.2 hin154_0 hat154_0 (g := (mkF m 180 #[oR a1, oR b6, oR b101, oI 0, oI 0, oI 2, .unset] [(.int 0), (.ref b6)])) rfl rfl (hb hby own_d5_180) _ ?_
    refine XS.iloadN X165.here hx rfl (hb hby own_d5_181) rfl ?_
    show oG p e below T165 m 182 #[oR a1, oR b6, oR b101, oI 0, oI 0, oI 2, .unset] [(.int 0), (.ref x5_0)] _
    refine X165.daload hx (j := (0 : Int32)) (v := (.double u0)) (by rw [e165]; exact Ar161.1) (State.isArrayOf_alike hZ.alike Ar161.2.1) Ar161.2.2 hin161_0 hat161_0 (g := (mkF m 182 #[oR a1, oR b6, oR b101, oI 0, oI 0, oI 2, .unset] [(.int 0), (.ref x5_0)])) rfl rfl (hb hby own_d5_182) _ ?_
    exact k
  clear R165
  obtain ⟨_, v167, _, -, X167, ⟨rfl, rfl⟩, st167⟩ := Jvm.LawKit.callS X165 hx (y := (⟨"java/lang/Math", "abs", "(D)D"⟩ : MethodName)) hown (mvT hZ (oW hw 62 rfl)) (mvT hZ (oW hw 63 rfl)) (mvT hZ (oW hw 64 rfl)) (mvT hZ (oW hw 65 rfl)) (by decide) (Jvm.Free.Fl.Abs.absD_pays (W := 0) u0 (mvT hZ (oW hw 65 rfl)) (by decide) (by decide)) (g := (mkF m 183 #[oR a1, oR b6, oR b101, oI 0, oI 0, oI 2, .unset] [(.double u0)])) rfl (by rw [hml]; rfl) (argsL := [(.double u0)]) (rest := []) (lenOf own_pd5 rfl) rfl oL (hb hby own_d5_183) (fun _ _ => ⟨(by decide : 6 ≤ _), (by decide : 12 ≤ _), rfl, (own_Sn su0)⟩)
  dsimp only [Pt.U, Pt.locs, Pt.cells, Pt.slots] at X167 st167
  have e167 : (T165.setVm v167).heap = h134 := e165
  generalize T165.setVm v167 = T167 at X167 st167 e167
  rw [(own_Sabs su0)] at st167
  have R167 := fun t k => R166 t (st167 t k)
  clear R166 st167 X165 e165
  have R168 : ∀ t, oG p e below T167 m 207 #[oR a1, oR b6, oR b101, oI 0, oI 0, oI 2, .unset] [(.int 0), (.int 0), (.ref b6)] t → Steps p.tables e below AA t := by
    intro t k
    refine R167 t ?_
    refine X167.ldc2DoubleC hx hown (mvT hZ (oW hw 66 rfl)) (g := (mkF m 186 #[oR a1, oR b6, oR b101, oI 0, oI 0, oI 2, .unset] [(.double u0)])) rfl (hb hby own_d5_186) _ ?_
    refine XS.dcmpS X167.here hx rfl (hb hby own_d5_189) rfl (own_Stol su0) ?_
    refine XS.ifYes X167.here hx rfl (pc0 := 190) (pc' := 203) rfl (hb hby own_d5_190) rfl ((if0 _ _).trans (tlt (by decide : ((0 : Int32) < (1 : Int32)))).2.2.1) (by decide) (by decide) ?_
    refine XS.aloadN X167.here hx rfl (hb hby own_d5_203) rfl rfl ?_
    refine XS.iload X167.here hx rfl (hb hby own_d5_204) rfl ?_
    show oG p e below T167 m 206 #[oR a1, oR b6, oR b101, oI 0, oI 0, oI 2, .unset] [(.int 0), (.ref b6)] _
    refine XS.iloadN X167.here hx rfl (hb hby own_d5_206) rfl ?_
    exact k
  clear R167
  obtain ⟨_, _, ⟨T169, L169, k169, n169⟩, -, X169, ⟨Lc169, hQ169, l169, y169, z169⟩, st169⟩ := Jvm.LawKit.callS X167 hx (y := (oN "swap" "([[DII)V")) hown (mvT hZ (oW hw 67 rfl)) (mvT hZ (oW hw 68 rfl)) (mvT hZ (oW hw 3 rfl)) (mvT hZ (oW hw 69 rfl)) (by decide) (backOf (W := 0) (rmSw00 l Z a0 hw [] b6 x5_0 x5_1 _  h134 n0 Z134 f136 O6 f137 f138 g_b6) hZ (oW hw 69 rfl) (oW hw 3 rfl) (by decide) (by decide)) (g := (mkF m 207 #[oR a1, oR b6, oR b101, oI 0, oI 0, oI 2, .unset] [(.int 0), (.int 0), (.ref b6)])) rfl (by rw [hml]; rfl) (argsL := [(.ref b6), (.int 0), (.int 0)]) (rest := []) (lenOf own_pd6 rfl) rfl oL (hb hby own_d5_207) (fun _ _ => ⟨rfl, e167, (by decide : 6 + 0 ≤ _), (by decide : 12 + 0 ≤ _)⟩)
  dsimp only [Pt.U, Pt.locs, Pt.cells, Pt.slots] at X169 l169 y169 z169 st169 hQ169
  subst l169 y169 z169
  obtain ⟨rfl, Nq169, Kc169, Vc169⟩ := hQ169
  have N169 := Fr.app N134 Nq169
  clear N134
  have R169 := fun t k => R168 t (st169 t k)
  clear R168 st169 X167 e167
  have Z169 : n0 ≤ T169.heap.size := Nat.le_trans Z134 Kc169.1
  clear Z134
  have K169 : Keep h0 T169.heap [] := K134.trans Kc169 (allS (Or.inr sz_b6) all0)
  clear K134
  have f170 : Exa Z T169.heap b6 "[[D" := f135.keep Kc169
  clear f135
  have f171 : Exa Z T169.heap x5_0 "[D" := f137.keep Kc169
  clear f137
  have f172 : Exa Z T169.heap x5_1 "[D" := f138.keep Kc169
  clear f138
  have f173 : Arv Z T169.heap x5_0 c6 .double (2 : Int32) [(.double u0), (.double 0)] (.double 0) := f139.keep Kc169 (ninS (Ne.symm ne_b6_x5_0) nin0)
  clear f139
  have f174 : Arv Z T169.heap x5_1 c6 .double (2 : Int32) [(.double 0), (.double u1)] (.double 0) := f140.keep Kc169 (ninS (Ne.symm ne_b6_x5_1) nin0)
  clear f140
  have f175 : Exa Z T169.heap b101 "[[D" := f141.keep Kc169
  clear f141
  have f176 : Arv Z T169.heap b101 k101 (.array .double) (2 : Int32) [(.ref x100_0), (.ref x100_1)] .null := f142.keep Kc169 (ninS (Ne.symm ne_b6_b101) nin0)
  clear f142
  have f177 : Exa Z T169.heap x100_0 "[D" := f143.keep Kc169
  clear f143
  have f178 : Exa Z T169.heap x100_1 "[D" := f144.keep Kc169
  clear f144
  have f179 : Arv Z T169.heap x100_0 c101 .double (2 : Int32) [(.double 4607182418800017408), (.double 0)] (.double 0) := f145.keep Kc169 (ninS (Ne.symm ne_b6_x100_0) nin0)
  clear f145
  have f180 : Arv Z T169.heap x100_1 c101 .double (2 : Int32) [(.double 0), (.double 4607182418800017408)] (.double 0) := V134.keep Kc169 (ninS (Ne.symm ne_b6_x100_1) nin0)
  clear V134
  have R181 : ∀ t, oG p e below T169 m 214 #[oR a1, oR b6, oR b101, oI 0, oI 0, oI 2, .unset] [(.int 0), (.int 0), (.ref b101)] t → Steps p.tables e below AA t := by
    intro t k
    refine R169 t ?_
    refine XS.aloadN X169.here hx rfl (hb hby own_d5_210) rfl rfl ?_
    refine XS.iload X169.here hx rfl (hb hby own_d5_211) rfl ?_
    refine XS.iloadN X169.here hx rfl (hb hby own_d5_213) rfl ?_
    exact k
  clear R169
  obtain ⟨_, _, ⟨T182, L182, k182, n182⟩, -, X182, ⟨Lc182, hQ182, l182, y182, z182⟩, st182⟩ := Jvm.LawKit.callS X169 hx (y := (oN "swap" "([[DII)V")) hown (mvT hZ (oW hw 67 rfl)) (mvT hZ (oW hw 68 rfl)) (mvT hZ (oW hw 3 rfl)) (mvT hZ (oW hw 69 rfl)) (by decide) (backOf (W := 0) (rmSw00 l Z a0 hw [] b101 x100_0 x100_1 _  T169.heap n0 Z169 f176 O101 f177 f178 g_b101) hZ (oW hw 69 rfl) (oW hw 3 rfl) (by decide) (by decide)) (g := (mkF m 214 #[oR a1, oR b6, oR b101, oI 0, oI 0, oI 2, .unset] [(.int 0), (.int 0), (.ref b101)])) rfl (by rw [hml]; rfl) (argsL := [(.ref b101), (.int 0), (.int 0)]) (rest := []) (lenOf own_pd6 rfl) rfl oL (hb hby own_d5_214) (fun _ _ => ⟨rfl, rfl, (by decide : 6 + 0 ≤ _), (by decide : 12 + 0 ≤ _)⟩)
  dsimp only [Pt.U, Pt.locs, Pt.cells, Pt.slots] at X182 l182 y182 z182 st182 hQ182
  subst l182 y182 z182
  obtain ⟨rfl, Nq182, Kc182, Vc182⟩ := hQ182
  have N182 := Fr.app N169 Nq182
  clear N169
  have R182 := fun t k => R181 t (st182 t k)
  clear R181 st182 X169
  have Z182 : n0 ≤ T182.heap.size := Nat.le_trans Z169 Kc182.1
  clear Z169
  have K182 : Keep h0 T182.heap [] := K169.trans Kc182 (allS (Or.inr sz_b101) all0)
  clear K169
  have f183 : Exa Z T182.heap b6 "[[D" := f170.keep Kc182
  clear f170
  have f184 : Exa Z T182.heap x5_0 "[D" := f171.keep Kc182
  clear f171
  have f185 : Exa Z T182.heap x5_1 "[D" := f172.keep Kc182
  clear f172
  have f186 : Arv Z T182.heap x5_0 c6 .double (2 : Int32) [(.double u0), (.double 0)] (.double 0) := f173.keep Kc182 (ninS ne_x5_0_b101 nin0)
  clear f173
  have f187 : Arv Z T182.heap x5_1 c6 .double (2 : Int32) [(.double 0), (.double u1)] (.double 0) := f174.keep Kc182 (ninS ne_x5_1_b101 nin0)
  clear f174
  have f188 : Exa Z T182.heap b101 "[[D" := f175.keep Kc182
  clear f175
  have f189 : Exa Z T182.heap x100_0 "[D" := f177.keep Kc182
  clear f177
  have f190 : Exa Z T182.heap x100_1 "[D" := f178.keep Kc182
  clear f178
  have f191 : Arv Z T182.heap x100_0 c101 .double (2 : Int32) [(.double 4607182418800017408), (.double 0)] (.double 0) := f179.keep Kc182 (ninS (Ne.symm ne_b101_x100_0) nin0)
  clear f179
  have f192 : Arv Z T182.heap x100_1 c101 .double (2 : Int32) [(.double 0), (.double 4607182418800017408)] (.double 0) := f180.keep Kc182 (ninS (Ne.symm ne_b101_x100_1) nin0)
  clear f180
  have f193 : Arv Z T182.heap b6 k6 (.array .double) (2 : Int32) [(.ref x5_0), (.ref x5_1)] .null := Vc169.keep Kc182 (ninS ne_b6_b101 nin0)
  have R194 : ∀ t, oG p e below T182 m 221 #[oR a1, oR b6, oR b101, oI 0, oI 0, oI 2, .unset] [(.int 0), (.ref b101), (.ref b6), (.ref a1)] t → Steps p.tables e below AA t := by
    intro t k
    refine R182 t ?_
    refine XS.aloadN X182.here hx rfl (hb hby own_d5_217) rfl rfl ?_
    refine XS.aloadN X182.here hx rfl (hb hby own_d5_218) rfl rfl ?_
    refine XS.aloadN X182.here hx rfl (hb hby own_d5_219) rfl rfl ?_
    refine XS.iloadN X182.here hx rfl (hb hby own_d5_220) rfl ?_
    exact k
  clear R182
  have f195 : oF Z T182.heap a1 "rows" "I" (.int 2) := F_a1_rows.keep K182 nin0
  have f197 : Exa Z T182.heap a1 "com/example/trunkwright/trunkwright/traffic/RevisedSimplex" := E_a1.keep K182
  obtain ⟨cq196, q196a, q196b⟩ := f197.cell
  obtain ⟨_, _, ⟨T196, L196, k196, n196⟩, -, X196, ⟨Lc196, hQ196, l196, y196, z196⟩, st196⟩ := X182.privateBack hx (y := (oN "eliminate" "([[D[[DI)V")) hown (mvT hZ (oW hw 70 rfl)) (mvT hZ (oW hw 71 rfl)) (mvT hZ (own_selP (y := (oN "eliminate" "([[D[[DI)V")) (oW hw 2 rfl) (oW hw 71 rfl) (oW hw 72 rfl) (by decide))) (Cond.privateMethod_at (mvP hZ (oW hw 72 rfl) (args := #[]))) (mvT hZ (oW hw 73 rfl)) (by decide) (backOf (W := 0) (rmEl0 l Z a0 hw [] a1 b6 b101 x5_0 x5_1 x100_0 x100_1 _ _ _ _ _ _ _ _ _ _ _ _ _ _  T182.heap n0 Z182 f195 f193 Vc182 f186 f191 f187 (Nat.ne_of_lt (Nat.lt_of_lt_of_le E_a1.lt sz_x5_0)) (Nat.ne_of_lt (Nat.lt_of_lt_of_le E_a1.lt sz_x100_0)) ne_b6_x5_0 ne_b6_x100_0 (Ne.symm ne_x5_0_b101) ne_b101_x100_0 (Ne.symm ne_x5_0_x5_1) ne_x5_1_x100_0 ne_x5_0_x100_0 g_x5_0 g_x100_0 (own_Sself su0) own_n1 (own_Sz su0) own_n0 hiv0.symm niv0 (own_Sz su0) own_n0) hZ (oW hw 73 rfl) (oW hw 3 rfl) (by decide) (by decide)) (g := (mkF m 221 #[oR a1, oR b6, oR b101, oI 0, oI 0, oI 2, .unset] [(.int 0), (.ref b101), (.ref b6), (.ref a1)])) rfl (by rw [hml]; rfl) (Steps.refl _) (a := a1) q196a q196b (argsL := [(.ref b6), (.ref b101), (.int 0)]) (rest := []) (lenOf own_pd7 rfl) rfl oL (hb hby own_d5_221) (fun _ _ => ⟨rfl, rfl, (by decide : 6 + 0 ≤ _), (by decide : 12 + 0 ≤ _)⟩)
  dsimp only [Pt.U, Pt.locs, Pt.cells, Pt.slots] at X196 l196 y196 z196 st196 hQ196
  subst l196 y196 z196
  obtain ⟨rfl, Nq196, Kc196, Vc196, Vd196⟩ := hQ196
  have N196 := Fr.app N182 Nq196
  clear N182
  have R196 := fun t k => R194 t (st196.trans k)
  clear R194 st196 X182
  have Z196 : n0 ≤ T196.heap.size := Nat.le_trans Z182 Kc196.1
  clear Z182
  have K196 : Keep h0 T196.heap [] := K182.trans Kc196 (allS (Or.inr sz_x5_0) (allS (Or.inr sz_x100_0) all0))
  clear K182
  have f198 : Exa Z T196.heap b6 "[[D" := f183.keep Kc196
  clear f183
  have f199 : Exa Z T196.heap x5_0 "[D" := f184.keep Kc196
  clear f184
  have f200 : Exa Z T196.heap x5_1 "[D" := f185.keep Kc196
  clear f185
  have f201 : Arv Z T196.heap x5_1 c6 .double (2 : Int32) [(.double 0), (.double u1)] (.double 0) := f187.keep Kc196 (ninS (Ne.symm ne_x5_0_x5_1) (ninS ne_x5_1_x100_0 nin0))
  clear f187
  have f202 : Exa Z T196.heap b101 "[[D" := f188.keep Kc196
  clear f188
  have f203 : Exa Z T196.heap x100_0 "[D" := f189.keep Kc196
  clear f189
  have f204 : Exa Z T196.heap x100_1 "[D" := f190.keep Kc196
  clear f190
  have f205 : Arv Z T196.heap x100_1 c101 .double (2 : Int32) [(.double 0), (.double 4607182418800017408)] (.double 0) := f192.keep Kc196 (ninS (Ne.symm ne_x5_0_x100_1) (ninS (Ne.symm ne_x100_0_x100_1) nin0))
  clear f192
  have f206 : Arv Z T196.heap b6 k6 (.array .double) (2 : Int32) [(.ref x5_0), (.ref x5_1)] .null := f193.keep Kc196 (ninS ne_b6_x5_0 (ninS ne_b6_x100_0 nin0))
  clear f193
  have f207 : Arv Z T196.heap b101 k101 (.array .double) (2 : Int32) [(.ref x100_0), (.ref x100_1)] .null := Vc182.keep Kc196 (ninS (Ne.symm ne_x5_0_b101) (ninS ne_b101_x100_0 nin0))
  have R208 : ∀ t, oG p e below T196 m 122 #[oR a1, oR b6, oR b101, oI 1, oI 0, oI 2, .unset] [(.ref a1), (.int 1)] t → Steps p.tables e below AA t := by
    intro t k
    refine R196 t ?_
    refine XS.iinc X196.here hx rfl (hb hby own_d5_224) rfl (l' := #[oR a1, oR b6, oR b101, oI 1, oI 0, oI 2, .unset]) rfl ?_
    refine XS.goto X196.here hx rfl (pc0 := 227) (pc' := 120) rfl (hb hby own_d5_227) (by decide) (by decide) ?_
    refine XS.iloadN X196.here hx rfl (hb hby own_d5_120) rfl ?_
    refine XS.aloadN X196.here hx rfl (hb hby own_d5_121) rfl rfl ?_
    exact k
  clear R196
  have f209 : oF Z T196.heap a1 "rows" "I" (.int 2) := F_a1_rows.keep K196 nin0
  obtain ⟨T210, X210, e210, st210⟩ := getF X196 hx hZ hown (host := "") (Or.inl (oW hw 24 rfl)) Via.refl rfl f209 (g := (mkF m 122 #[oR a1, oR b6, oR b101, oI 1, oI 0, oI 2, .unset] [(.ref a1), (.int 1)])) rfl rfl (hb hby own_d5_122)
  have R210 := fun t k => R208 t (st210 t k)
  clear R208 st210 X196
  have R211 : ∀ t, oG p e below T210 m 139 #[oR a1, oR b6, oR b101, oI 1, oI 1, oI 2, .unset] [(.ref a1), (.int 2)] t → Steps p.tables e below AA t := by
    intro t k
    refine R210 t ?_
    refine XS.icmpNo X210.here hx rfl (hb hby own_d5_125) rfl (tlt (by decide : ((1 : Int32) < (2 : Int32)))).2.1 ?_
    refine XS.iloadN X210.here hx rfl (hb hby own_d5_128) rfl ?_
    refine XS.istore X210.here hx rfl (hb hby own_d5_129) rfl (l' := #[oR a1, oR b6, oR b101, oI 1, oI 1, oI 2, .unset]) rfl ?_
    refine XS.iloadN X210.here hx rfl (hb hby own_d5_131) rfl ?_
    refine XS.iconst X210.here hx rfl (hb hby own_d5_132) ?_
    show oG p e below T210 m 133 #[oR a1, oR b6, oR b101, oI 1, oI 1, oI 2, .unset] [(.int 1), (.int 1)] _
    refine XS.iadd X210.here hx rfl (hb hby own_d5_133) rfl ?_
    refine XS.istore X210.here hx rfl (hb hby own_d5_134) rfl (l' := #[oR a1, oR b6, oR b101, oI 1, oI 1, oI 2, .unset]) rfl ?_
    refine XS.iload X210.here hx rfl (hb hby own_d5_136) rfl ?_
    refine XS.aloadN X210.here hx rfl (hb hby own_d5_138) rfl rfl ?_
    exact k
  clear R210
  obtain ⟨T212, X212, e212, st212⟩ := getF X210 hx hZ hown (host := "") (Or.inl (oW hw 24 rfl)) Via.refl e210 f209 (g := (mkF m 139 #[oR a1, oR b6, oR b101, oI 1, oI 1, oI 2, .unset] [(.ref a1), (.int 2)])) rfl rfl (hb hby own_d5_139)
  have R212 := fun t k => R211 t (st212 t k)
  clear R211 st212 X210 e210
  have R213 : ∀ t, oG p e below T212 m 180 #[oR a1, oR b6, oR b101, oI 1, oI 1, oI 2, .unset] [(.int 1), (.ref b6)] t → Steps p.tables e below AA t := by
    intro t k
    refine R212 t ?_
    refine XS.icmpYes X212.here hx rfl (pc0 := 142) (pc' := 177) rfl (hb hby own_d5_142) rfl (flt (by decide : ¬ ((2 : Int32) < (2 : Int32)))).2.1 (by decide) (by decide) ?_
    refine XS.aloadN X212.here hx rfl (hb hby own_d5_177) rfl rfl ?_
    refine XS.iload X212.here hx rfl (hb hby own_d5_178) rfl ?_
    exact k
  clear R212
  obtain ⟨cl214, Ar214, q214, S214, N214', H214, G214⟩ := id f206
  have hin214_1 : ¬ ((1 : Int32) < 0 ∨ cl214.slots.size ≤ ((1 : Int32)).toNatClampNeg) := inb_of S214 ⟨by decide, by decide⟩
  have hat214_1 : cl214.slots[((1 : Int32)).toNatClampNeg]? = some (.ref x5_1) := H214.at hin214_1 rfl
  have R215 : ∀ t, oG p e below T212 m 182 #[oR a1, oR b6, oR b101, oI 1, oI 1, oI 2, .unset] [(.int 1), (.ref x5_1)] t → Steps p.tables e below AA t := by
    intro t k
    refine R213 t ?_
    refine X212.aaload hx (j := (1 : Int32)) (v := (.ref x5_1)) (by rw [e212]; exact Ar214.1) (State.isArrayOf_alike hZ.alike Ar214.2.1) rfl Ar214.2.2 hin214_1 hat214_1 (g := (mkF m 180 #[oR a1, oR b6, oR b101, oI 1, oI 1, oI 2, .unset] [(.int 1), (.ref b6)])) rfl rfl (hb hby own_d5_180) _ ?_
    refine XS.iloadN X212.here hx rfl (hb hby own_d5_181) rfl ?_
    exact k
  clear R213
  obtain ⟨cl216, Ar216, q216, S216, N216', H216, G216⟩ := id f201
  have hin216_1 : ¬ ((1 : Int32) < 0 ∨ cl216.slots.size ≤ ((1 : Int32)).toNatClampNeg) := inb_of S216 ⟨by decide, by decide⟩
  have hat216_1 : cl216.slots[((1 : Int32)).toNatClampNeg]? = some (.double u1) := H216.at hin216_1 rfl
  have R217 : ∀ t, oG p e below T212 m 183 #[oR a1, oR b6, oR b101, oI 1, oI 1, oI 2, .unset] [(.double u1)] t → Steps p.tables e below AA t := by
    intro t k
    refine R215 t ?_
    refine X212.daload hx (j := (1 : Int32)) (v := (.double u1)) (by rw [e212]; exact Ar216.1) (State.isArrayOf_alike hZ.alike Ar216.2.1) Ar216.2.2 hin216_1 hat216_1 (g := (mkF m 182 #[oR a1, oR b6, oR b101, oI 1, oI 1, oI 2, .unset] [(.int 1), (.ref x5_1)])) rfl rfl (hb hby own_d5_182) _ ?_
    exact k
  clear R215
  obtain ⟨_, v218, _, -, X218, ⟨rfl, rfl⟩, st218⟩ := Jvm.LawKit.callS X212 hx (y := (⟨"java/lang/Math", "abs", "(D)D"⟩ : MethodName)) hown (mvT hZ (oW hw 62 rfl)) (mvT hZ (oW hw 63 rfl)) (mvT hZ (oW hw 64 rfl)) (mvT hZ (oW hw 65 rfl)) (by decide) (Jvm.Free.Fl.Abs.absD_pays (W := 0) u1 (mvT hZ (oW hw 65 rfl)) (by decide) (by decide)) (g := (mkF m 183 #[oR a1, oR b6, oR b101, oI 1, oI 1, oI 2, .unset] [(.double u1)])) rfl (by rw [hml]; rfl) (argsL := [(.double u1)]) (rest := []) (lenOf own_pd5 rfl) rfl oL (hb hby own_d5_183) (fun _ _ => ⟨(by decide : 6 ≤ _), (by decide : 12 ≤ _), rfl, (own_Sn su1)⟩)
  dsimp only [Pt.U, Pt.locs, Pt.cells, Pt.slots] at X218 st218
  have e218 : (T212.setVm v218).heap = T196.heap := e212
  generalize T212.setVm v218 = T218 at X218 st218 e218
  rw [(own_Sabs su1)] at st218
  have R218 := fun t k => R217 t (st218 t k)
  clear R217 st218 X212 e212
  have R219 : ∀ t, oG p e below T218 m 207 #[oR a1, oR b6, oR b101, oI 1, oI 1, oI 2, .unset] [(.int 1), (.int 1), (.ref b6)] t → Steps p.tables e below AA t := by
    intro t k
    refine R218 t ?_
    refine X218.ldc2DoubleC hx hown (mvT hZ (oW hw 66 rfl)) (g := (mkF m 186 #[oR a1, oR b6, oR b101, oI 1, oI 1, oI 2, .unset] [(.double u1)])) rfl (hb hby own_d5_186) _ ?_
    refine XS.dcmpS X218.here hx rfl (hb hby own_d5_189) rfl (own_Stol su1) ?_
    refine XS.ifYes X218.here hx rfl (pc0 := 190) (pc' := 203) rfl (hb hby own_d5_190) rfl ((if0 _ _).trans (tlt (by decide : ((0 : Int32) < (1 : Int32)))).2.2.1) (by decide) (by decide) ?_
    refine XS.aloadN X218.here hx rfl (hb hby own_d5_203) rfl rfl ?_
    refine XS.iload X218.here hx rfl (hb hby own_d5_204) rfl ?_
    show oG p e below T218 m 206 #[oR a1, oR b6, oR b101, oI 1, oI 1, oI 2, .unset] [(.int 1), (.ref b6)] _
    refine XS.iloadN X218.here hx rfl (hb hby own_d5_206) rfl ?_
    exact k
  clear R218
  obtain ⟨_, _, ⟨T220, L220, k220, n220⟩, -, X220, ⟨Lc220, hQ220, l220, y220, z220⟩, st220⟩ := Jvm.LawKit.callS X218 hx (y := (oN "swap" "([[DII)V")) hown (mvT hZ (oW hw 67 rfl)) (mvT hZ (oW hw 68 rfl)) (mvT hZ (oW hw 3 rfl)) (mvT hZ (oW hw 69 rfl)) (by decide) (backOf (W := 0) (rmSw11 l Z a0 hw [] b6 x5_0 x5_1 _  T196.heap n0 Z196 f206 O6 f199 f200 g_b6) hZ (oW hw 69 rfl) (oW hw 3 rfl) (by decide) (by decide)) (g := (mkF m 207 #[oR a1, oR b6, oR b101, oI 1, oI 1, oI 2, .unset] [(.int 1), (.int 1), (.ref b6)])) rfl (by rw [hml]; rfl) (argsL := [(.ref b6), (.int 1), (.int 1)]) (rest := []) (lenOf own_pd6 rfl) rfl oL (hb hby own_d5_207) (fun _ _ => ⟨rfl, e218, (by decide : 6 + 0 ≤ _), (by decide : 12 + 0 ≤ _)⟩)
  dsimp only [Pt.U, Pt.locs, Pt.cells, Pt.slots] at X220 l220 y220 z220 st220 hQ220
  subst l220 y220 z220
  obtain ⟨rfl, Nq220, Kc220, Vc220⟩ := hQ220
  have N220 := Fr.app N196 Nq220
  clear N196
  have R220 := fun t k => R219 t (st220 t k)
  clear R219 st220 X218 e218
  have Z220 : n0 ≤ T220.heap.size := Nat.le_trans Z196 Kc220.1
  clear Z196
  have K220 : Keep h0 T220.heap [] := K196.trans Kc220 (allS (Or.inr sz_b6) all0)
  clear K196
  have f221 : Exa Z T220.heap b6 "[[D" := f198.keep Kc220
  clear f198
  have f222 : Exa Z T220.heap x5_0 "[D" := f199.keep Kc220
  clear f199
  have f223 : Exa Z T220.heap x5_1 "[D" := f200.keep Kc220
  clear f200
  have f224 : Arv Z T220.heap x5_1 c6 .double (2 : Int32) [(.double 0), (.double u1)] (.double 0) := f201.keep Kc220 (ninS (Ne.symm ne_b6_x5_1) nin0)
  clear f201
  have f225 : Exa Z T220.heap b101 "[[D" := f202.keep Kc220
  clear f202
  have f226 : Exa Z T220.heap x100_0 "[D" := f203.keep Kc220
  clear f203
  have f227 : Exa Z T220.heap x100_1 "[D" := f204.keep Kc220
  clear f204
  have f228 : Arv Z T220.heap x100_1 c101 .double (2 : Int32) [(.double 0), (.double 4607182418800017408)] (.double 0) := f205.keep Kc220 (ninS (Ne.symm ne_b6_x100_1) nin0)
  clear f205
  have f229 : Arv Z T220.heap b101 k101 (.array .double) (2 : Int32) [(.ref x100_0), (.ref x100_1)] .null := f207.keep Kc220 (ninS (Ne.symm ne_b6_b101) nin0)
  clear f207
  have f230 : Arv Z T220.heap x5_0 c6 .double (2 : Int32) [(.double 4607182418800017408), (.double 0)] (.double 0) := Vc196.keep Kc220 (ninS (Ne.symm ne_b6_x5_0) nin0)
  have f231 : Arv Z T220.heap x100_0 c101 .double (2 : Int32) [(.double iv0), (.double 0)] (.double 0) := Vd196.keep Kc220 (ninS (Ne.symm ne_b6_x100_0) nin0)
  have R232 : ∀ t, oG p e below T220 m 214 #[oR a1, oR b6, oR b101, oI 1, oI 1, oI 2, .unset] [(.int 1), (.int 1), (.ref b101)] t → Steps p.tables e below AA t := by
    intro t k
    refine R220 t ?_
    refine XS.aloadN X220.here hx rfl (hb hby own_d5_210) rfl rfl ?_
    refine XS.iload X220.here hx rfl (hb hby own_d5_211) rfl ?_
    refine XS.iloadN X220.here hx rfl (hb hby own_d5_213) rfl ?_
    exact k
  clear R220
  obtain ⟨_, _, ⟨T233, L233, k233, n233⟩, -, X233, ⟨Lc233, hQ233, l233, y233, z233⟩, st233⟩ := Jvm.LawKit.callS X220 hx (y := (oN "swap" "([[DII)V")) hown (mvT hZ (oW hw 67 rfl)) (mvT hZ (oW hw 68 rfl)) (mvT hZ (oW hw 3 rfl)) (mvT hZ (oW hw 69 rfl)) (by decide) (backOf (W := 0) (rmSw11 l Z a0 hw [] b101 x100_0 x100_1 _  T220.heap n0 Z220 f229 O101 f226 f227 g_b101) hZ (oW hw 69 rfl) (oW hw 3 rfl) (by decide) (by decide)) (g := (mkF m 214 #[oR a1, oR b6, oR b101, oI 1, oI 1, oI 2, .unset] [(.int 1), (.int 1), (.ref b101)])) rfl (by rw [hml]; rfl) (argsL := [(.ref b101), (.int 1), (.int 1)]) (rest := []) (lenOf own_pd6 rfl) rfl oL (hb hby own_d5_214) (fun _ _ => ⟨rfl, rfl, (by decide : 6 + 0 ≤ _), (by decide : 12 + 0 ≤ _)⟩)
  dsimp only [Pt.U, Pt.locs, Pt.cells, Pt.slots] at X233 l233 y233 z233 st233 hQ233
  subst l233 y233 z233
  obtain ⟨rfl, Nq233, Kc233, Vc233⟩ := hQ233
  have N233 := Fr.app N220 Nq233
  clear N220
  have R233 := fun t k => R232 t (st233 t k)
  clear R232 st233 X220
  have Z233 : n0 ≤ T233.heap.size := Nat.le_trans Z220 Kc233.1
  clear Z220
  have K233 : Keep h0 T233.heap [] := K220.trans Kc233 (allS (Or.inr sz_b101) all0)
  clear K220
  have f234 : Exa Z T233.heap b6 "[[D" := f221.keep Kc233
  clear f221
  have f235 : Exa Z T233.heap x5_0 "[D" := f222.keep Kc233
  clear f222
  have f236 : Exa Z T233.heap x5_1 "[D" := f223.keep Kc233
  clear f223
  have f237 : Arv Z T233.heap x5_1 c6 .double (2 : Int32) [(.double 0), (.double u1)] (.double 0) := f224.keep Kc233 (ninS ne_x5_1_b101 nin0)
  clear f224
  have f238 : Exa Z T233.heap b101 "[[D" := f225.keep Kc233
  clear f225
  have f239 : Exa Z T233.heap x100_0 "[D" := f226.keep Kc233
  clear f226
  have f240 : Exa Z T233.heap x100_1 "[D" := f227.keep Kc233
  clear f227
  have f241 : Arv Z T233.heap x100_1 c101 .double (2 : Int32) [(.double 0), (.double 4607182418800017408)] (.double 0) := f228.keep Kc233 (ninS (Ne.symm ne_b101_x100_1) nin0)
  clear f228
  have f242 : Arv Z T233.heap x5_0 c6 .double (2 : Int32) [(.double 4607182418800017408), (.double 0)] (.double 0) := f230.keep Kc233 (ninS ne_x5_0_b101 nin0)
  clear f230
  have f243 : Arv Z T233.heap x100_0 c101 .double (2 : Int32) [(.double iv0), (.double 0)] (.double 0) := f231.keep Kc233 (ninS (Ne.symm ne_b101_x100_0) nin0)
  clear f231
  have f244 : Arv Z T233.heap b6 k6 (.array .double) (2 : Int32) [(.ref x5_0), (.ref x5_1)] .null := Vc220.keep Kc233 (ninS ne_b6_b101 nin0)
  have R245 : ∀ t, oG p e below T233 m 221 #[oR a1, oR b6, oR b101, oI 1, oI 1, oI 2, .unset] [(.int 1), (.ref b101), (.ref b6), (.ref a1)] t → Steps p.tables e below AA t := by
    intro t k
    refine R233 t ?_
    refine XS.aloadN X233.here hx rfl (hb hby own_d5_217) rfl rfl ?_
    refine XS.aloadN X233.here hx rfl (hb hby own_d5_218) rfl rfl ?_
    refine XS.aloadN X233.here hx rfl (hb hby own_d5_219) rfl rfl ?_
    refine XS.iloadN X233.here hx rfl (hb hby own_d5_220) rfl ?_
    exact k
  clear R233
  have f246 : oF Z T233.heap a1 "rows" "I" (.int 2) := F_a1_rows.keep K233 nin0
  have f248 : Exa Z T233.heap a1 "com/example/trunkwright/trunkwright/traffic/RevisedSimplex" := E_a1.keep K233
  obtain ⟨cq247, q247a, q247b⟩ := f248.cell
  obtain ⟨_, _, ⟨T247, L247, k247, n247⟩, -, X247, ⟨Lc247, hQ247, l247, y247, z247⟩, st247⟩ := X233.privateBack hx (y := (oN "eliminate" "([[D[[DI)V")) hown (mvT hZ (oW hw 70 rfl)) (mvT hZ (oW hw 71 rfl)) (mvT hZ (own_selP (y := (oN "eliminate" "([[D[[DI)V")) (oW hw 2 rfl) (oW hw 71 rfl) (oW hw 72 rfl) (by decide))) (Cond.privateMethod_at (mvP hZ (oW hw 72 rfl) (args := #[]))) (mvT hZ (oW hw 73 rfl)) (by decide) (backOf (W := 0) (rmEl1 l Z a0 hw [] a1 b6 b101 x5_0 x5_1 x100_1 x100_0 _ _ _ _ _ _ _ _ _ _ _ _ _ _  T233.heap n0 Z233 f246 f244 Vc233 f237 f241 f242 (Nat.ne_of_lt (Nat.lt_of_lt_of_le E_a1.lt sz_x5_1)) (Nat.ne_of_lt (Nat.lt_of_lt_of_le E_a1.lt sz_x100_1)) ne_b6_x5_1 ne_b6_x100_1 (Ne.symm ne_x5_1_b101) ne_b101_x100_1 ne_x5_0_x5_1 ne_x5_0_x100_1 ne_x5_1_x100_1 g_x5_1 g_x100_1 (own_Sz su1) own_n0 (own_Sself su1) own_n1 (own_Sz su1) own_n0 hiv1.symm niv1) hZ (oW hw 73 rfl) (oW hw 3 rfl) (by decide) (by decide)) (g := (mkF m 221 #[oR a1, oR b6, oR b101, oI 1, oI 1, oI 2, .unset] [(.int 1), (.ref b101), (.ref b6), (.ref a1)])) rfl (by rw [hml]; rfl) (Steps.refl _) (a := a1) q247a q247b (argsL := [(.ref b6), (.ref b101), (.int 1)]) (rest := []) (lenOf own_pd7 rfl) rfl oL (hb hby own_d5_221) (fun _ _ => ⟨rfl, rfl, (by decide : 6 + 0 ≤ _), (by decide : 12 + 0 ≤ _)⟩)
  dsimp only [Pt.U, Pt.locs, Pt.cells, Pt.slots] at X247 l247 y247 z247 st247 hQ247
  subst l247 y247 z247
  obtain ⟨rfl, Nq247, Kc247, Vc247, Vd247⟩ := hQ247
  have N247 := Fr.app N233 Nq247
  clear N233
  have R247 := fun t k => R245 t (st247.trans k)
  clear R245 st247 X233
  have Z247 : n0 ≤ T247.heap.size := Nat.le_trans Z233 Kc247.1
  clear Z233
  have K247 : Keep h0 T247.heap [] := K233.trans Kc247 (allS (Or.inr sz_x5_1) (allS (Or.inr sz_x100_1) all0))
  clear K233
  have f249 : Exa Z T247.heap b6 "[[D" := f234.keep Kc247
  clear f234
  have f250 : Exa Z T247.heap x5_0 "[D" := f235.keep Kc247
  clear f235
  have f251 : Exa Z T247.heap x5_1 "[D" := f236.keep Kc247
  clear f236
  have f252 : Exa Z T247.heap b101 "[[D" := f238.keep Kc247
  clear f238
  have f253 : Exa Z T247.heap x100_0 "[D" := f239.keep Kc247
  clear f239
  have f254 : Exa Z T247.heap x100_1 "[D" := f240.keep Kc247
  clear f240
  have f255 : Arv Z T247.heap x5_0 c6 .double (2 : Int32) [(.double 4607182418800017408), (.double 0)] (.double 0) := f242.keep Kc247 (ninS ne_x5_0_x5_1 (ninS ne_x5_0_x100_1 nin0))
  clear f242
  have f256 : Arv Z T247.heap x100_0 c101 .double (2 : Int32) [(.double iv0), (.double 0)] (.double 0) := f243.keep Kc247 (ninS (Ne.symm ne_x5_1_x100_0) (ninS ne_x100_0_x100_1 nin0))
  clear f243
  have f257 : Arv Z T247.heap b6 k6 (.array .double) (2 : Int32) [(.ref x5_0), (.ref x5_1)] .null := f244.keep Kc247 (ninS ne_b6_x5_1 (ninS ne_b6_x100_1 nin0))
  clear f244
  have f258 : Arv Z T247.heap b101 k101 (.array .double) (2 : Int32) [(.ref x100_0), (.ref x100_1)] .null := Vc233.keep Kc247 (ninS (Ne.symm ne_x5_1_b101) (ninS ne_b101_x100_1 nin0))
  have R259 : ∀ t, oG p e below T247 m 122 #[oR a1, oR b6, oR b101, oI 2, oI 1, oI 2, .unset] [(.ref a1), (.int 2)] t → Steps p.tables e below AA t := by
    intro t k
    refine R247 t ?_
    refine XS.iinc X247.here hx rfl (hb hby own_d5_224) rfl (l' := #[oR a1, oR b6, oR b101, oI 2, oI 1, oI 2, .unset]) rfl ?_
    refine XS.goto X247.here hx rfl (pc0 := 227) (pc' := 120) rfl (hb hby own_d5_227) (by decide) (by decide) ?_
    refine XS.iloadN X247.here hx rfl (hb hby own_d5_120) rfl ?_
    refine XS.aloadN X247.here hx rfl (hb hby own_d5_121) rfl rfl ?_
    exact k
  clear R247
  have f260 : oF Z T247.heap a1 "rows" "I" (.int 2) := F_a1_rows.keep K247 nin0
  obtain ⟨T261, X261, e261, st261⟩ := getF X247 hx hZ hown (host := "") (Or.inl (oW hw 24 rfl)) Via.refl rfl f260 (g := (mkF m 122 #[oR a1, oR b6, oR b101, oI 2, oI 1, oI 2, .unset] [(.ref a1), (.int 2)])) rfl rfl (hb hby own_d5_122)
  have R261 := fun t k => R259 t (st261 t k)
  clear R259 st261 X247
  have R262 : ∀ t, oG p e below T261 m 230 #[oR a1, oR b6, oR b101, oI 2, oI 1, oI 2, .unset] [] t → Steps p.tables e below AA t := by
    intro t k
    refine R261 t ?_
    refine XS.icmpYes X261.here hx rfl (pc0 := 125) (pc' := 230) rfl (hb hby own_d5_125) rfl (flt (by decide : ¬ ((2 : Int32) < (2 : Int32)))).2.1 (by decide) (by decide) ?_
    exact k
  clear R261
  have f263 : oF Z T247.heap a1 "rhs" "[D" (.ref rh) := F_a1_rhs.keep K247 nin0
  have f264 : oF Z T247.heap a1 "inverse" "[[D" .null := F_a1_inverse.keep K247 nin0
  have f265 : oF Z T247.heap a1 "primal" "[D" .null := F_a1_primal.keep K247 nin0
  have f266 : oF Z T247.heap a1 "pivotsSinceRefactor" "I" (.int 0) := F_a1_pivotsSinceRefactor.keep K247 nin0
  have f267 : oF Z T247.heap a1 "position" "[I" (.ref po) := F_a1_position.keep K247 nin0
  have f268 : oF Z T247.heap a1 "infeasibility" "D" (.double 0) := F_a1_infeasibility.keep K247 nin0
  have f269 : Exa Z T247.heap a1 "com/example/trunkwright/trunkwright/traffic/RevisedSimplex" := E_a1.keep K247
  have f270 : Arv Z T247.heap rh kh .double (2 : Int32) [(.double d0), (.double d1)] (.double 0) := V_rh.keep K247 nin0
  have K271 : Keep h0 T247.heap [a1] := (Keep.refl h0 [a1]).trans K247 all0
  have R272 : ∀ t, oG p e below T261 m 232 #[oR a1, oR b6, oR b101, oI 2, oI 1, oI 2, .unset] [(.ref b101), (.ref a1)] t → Steps p.tables e below AA t := by
    intro t k
    refine R262 t ?_
    refine XS.aloadN X261.here hx rfl (hb hby own_d5_230) rfl rfl ?_
    refine XS.aloadN X261.here hx rfl (hb hby own_d5_231) rfl rfl ?_
    exact k
  clear R262
  obtain ⟨T273, h273, X273, e273, W273, st273⟩ := putF X261 hx hZ hown (host := "") (Or.inl (oW hw 74 rfl)) Via.refl e261 f264 f269 (Or.inl (oW hw 75 rfl)) (oW hw 2 rfl) (ty := (.array (.array .double))) (by decide) rfl rfl (g := (mkF m 232 #[oR a1, oR b6, oR b101, oI 2, oI 1, oI 2, .unset] [(.ref b101), (.ref a1)])) rfl rfl (hb hby own_d5_232)
  have R273 := fun t k => R272 t (st273 t k)
  clear R272 st273 X261 e261
  have Z273 : n0 ≤ h273.size := Nat.le_trans Z247 (Keep.of_wr W273).1
  clear Z247
  have K273 : Keep h0 h273 [a1] := K271.wr W273 (Or.inl (by simp))
  clear K271
  have N273 := Fr.snoc X273 N247 g_a1
  clear N247
  have f274 : Arv Z h273 x100_0 c101 .double (2 : Int32) [(.double iv0), (.double 0)] (.double 0) := f256.other W273 (Ne.symm (Nat.ne_of_lt (Nat.lt_of_lt_of_le E_a1.lt sz_x100_0)))
  clear f256
  have f275 : Arv Z h273 b101 k101 (.array .double) (2 : Int32) [(.ref x100_0), (.ref x100_1)] .null := f258.other W273 (Ne.symm (Nat.ne_of_lt (Nat.lt_of_lt_of_le E_a1.lt sz_b101)))
  clear f258
  have f276 : Arv Z h273 x100_1 c101 .double (2 : Int32) [(.double 0), (.double iv1)] (.double 0) := Vd247.other W273 (Ne.symm (Nat.ne_of_lt (Nat.lt_of_lt_of_le E_a1.lt sz_x100_1)))
  have f277 : oF Z h273 a1 "rows" "I" (.int 2) := f260.other W273 (Or.inr (slot_ne (Or.inr (oW hw 25 rfl)) (Or.inl (oW hw 75 rfl)) (by decide) (t := .int) (t' := (.array (.array .double))) (by decide) (by decide)))
  clear f260
  have f278 : oF Z h273 a1 "rhs" "[D" (.ref rh) := f263.other W273 (Or.inr (slot_ne (Or.inr (oW hw 35 rfl)) (Or.inl (oW hw 75 rfl)) (by decide) (t := (.array .double)) (t' := (.array (.array .double))) (by decide) (by decide)))
  clear f263
  have f279 : oF Z h273 a1 "primal" "[D" .null := f265.other W273 (Or.inr (slot_ne (Or.inl (oW hw 77 rfl)) (Or.inl (oW hw 75 rfl)) (by decide) (t := (.array .double)) (t' := (.array (.array .double))) (by decide) (by decide)))
  clear f265
  have f280 : oF Z h273 a1 "pivotsSinceRefactor" "I" (.int 0) := f266.other W273 (Or.inr (slot_ne (Or.inl (oW hw 79 rfl)) (Or.inl (oW hw 75 rfl)) (by decide) (t := .int) (t' := (.array (.array .double))) (by decide) (by decide)))
  clear f266
  have f281 : oF Z h273 a1 "position" "[I" (.ref po) := f267.other W273 (Or.inr (slot_ne (Or.inl (oW hw 23 rfl)) (Or.inl (oW hw 75 rfl)) (by decide) (t := (.array .int)) (t' := (.array (.array .double))) (by decide) (by decide)))
  clear f267
  have f282 : oF Z h273 a1 "infeasibility" "D" (.double 0) := f268.other W273 (Or.inr (slot_ne (Or.inl (oW hw 84 rfl)) (Or.inl (oW hw 75 rfl)) (by decide) (t := .double) (t' := (.array (.array .double))) (by decide) (by decide)))
  clear f268
  have f283 : Exa Z h273 a1 "com/example/trunkwright/trunkwright/traffic/RevisedSimplex" := f269.wr W273
  clear f269
  have f284 : Arv Z h273 rh kh .double (2 : Int32) [(.double d0), (.double d1)] (.double 0) := f270.other W273 ne_rh_a1
  clear f270
  have Fw273 : oF Z h273 a1 "inverse" "[[D" (.ref b101) := f264.same W273
  have R285 : ∀ t, oG p e below T273 m 237 #[oR a1, oR b6, oR b101, oI 2, oI 1, oI 2, .unset] [(.ref a1), (.ref a1)] t → Steps p.tables e below AA t := by
    intro t k
    refine R273 t ?_
    refine XS.aloadN X273.here hx rfl (hb hby own_d5_235) rfl rfl ?_
    refine XS.aloadN X273.here hx rfl (hb hby own_d5_236) rfl rfl ?_
    exact k
  clear R273
  obtain ⟨T286, X286, e286, st286⟩ := getF X273 hx hZ hown (host := "") (Or.inl (oW hw 24 rfl)) Via.refl e273 f277 (g := (mkF m 237 #[oR a1, oR b6, oR b101, oI 2, oI 1, oI 2, .unset] [(.ref a1), (.ref a1)])) rfl rfl (hb hby own_d5_237)
  have R286 := fun t k => R285 t (st286 t k)
  clear R285 st286 X273 e273
  obtain ⟨T287, h287, k287, X287, e287, E287, A287, B287, st287⟩ := newPE X286 hx hZ (oW hw 4 rfl) e286 (g := (mkF m 240 #[oR a1, oR b6, oR b101, oI 2, oI 1, oI 2, .unset] [(.int 2), (.ref a1)])) rfl (hb hby own_d5_240) rfl (by decide) (cap := 2) (by decide) (by decide) (by decide) (by decide) (ad := "[D") (by decide)
  obtain ⟨b287, g287⟩ : ∃ z, z = h273.size := ⟨_, rfl⟩
  rw [← g287] at A287 B287 st287
  have R287 := fun t k => R286 t (st287 t k)
  clear R286 st287 X286 e286
  have ne_a1_b287 : a1 ≠ b287 := Nat.ne_of_lt (Nat.lt_of_lt_of_le f277.lt (Nat.le_of_eq g287.symm))
  have ne_b101_b287 : b101 ≠ b287 := Nat.ne_of_lt (Nat.lt_of_lt_of_le f275.lt (Nat.le_of_eq g287.symm))
  have ne_rh_b287 : rh ≠ b287 := Nat.ne_of_lt (Nat.lt_of_lt_of_le f284.lt (Nat.le_of_eq g287.symm))
  have ne_x100_0_b287 : x100_0 ≠ b287 := Nat.ne_of_lt (Nat.lt_of_lt_of_le f274.lt (Nat.le_of_eq g287.symm))
  have ne_x100_1_b287 : x100_1 ≠ b287 := Nat.ne_of_lt (Nat.lt_of_lt_of_le f276.lt (Nat.le_of_eq g287.symm))
  have g_b287 : n0 ≤ b287 := Nat.le_trans Z273 (Nat.le_of_eq g287.symm)
  have sz_b287 : h0.size ≤ b287 := Nat.le_trans K273.1 (Nat.le_of_eq g287.symm)
  have Z287 : n0 ≤ h287.size := Nat.le_trans Z273 E287.1
  clear Z273
  have K287 : Keep h0 h287 [a1] := K273.ext E287
  clear K273
  have f288 : Arv Z h287 x100_0 c101 .double (2 : Int32) [(.double iv0), (.double 0)] (.double 0) := f274.ext E287
  clear f274
  have f289 : Arv Z h287 b101 k101 (.array .double) (2 : Int32) [(.ref x100_0), (.ref x100_1)] .null := f275.ext E287
  clear f275
  have f290 : Arv Z h287 x100_1 c101 .double (2 : Int32) [(.double 0), (.double iv1)] (.double 0) := f276.ext E287
  clear f276
  have f291 : oF Z h287 a1 "rows" "I" (.int 2) := f277.ext E287
  clear f277
  have f292 : oF Z h287 a1 "rhs" "[D" (.ref rh) := f278.ext E287
  clear f278
  have f293 : oF Z h287 a1 "primal" "[D" .null := f279.ext E287
  clear f279
  have f294 : oF Z h287 a1 "pivotsSinceRefactor" "I" (.int 0) := f280.ext E287
  clear f280
  have f295 : oF Z h287 a1 "position" "[I" (.ref po) := f281.ext E287
  clear f281
  have f296 : oF Z h287 a1 "infeasibility" "D" (.double 0) := f282.ext E287
  clear f282
  have f297 : Exa Z h287 a1 "com/example/trunkwright/trunkwright/traffic/RevisedSimplex" := f283.ext E287
  clear f283
  have f298 : Arv Z h287 rh kh .double (2 : Int32) [(.double d0), (.double d1)] (.double 0) := f284.ext E287
  clear f284
  have f299 : oF Z h287 a1 "inverse" "[[D" (.ref b101) := Fw273.ext E287
  clear Fw273
  clear E287
  have V287 : Arv Z h287 b287 k287 .double (2 : Int32) [(.double 0), (.double 0)] (.double 0) := (Arv.new A287 (by decide)).pad (pad_rep [] (.double 0) 2)
  obtain ⟨T300, h300, X300, e300, W300, st300⟩ := putF X287 hx hZ hown (host := "") (Or.inl (oW hw 76 rfl)) Via.refl e287 f293 f297 (Or.inl (oW hw 77 rfl)) (oW hw 2 rfl) (ty := (.array .double)) (by decide) rfl rfl (g := (mkF m 242 #[oR a1, oR b6, oR b101, oI 2, oI 1, oI 2, .unset] [(.ref b287), (.ref a1)])) rfl rfl (hb hby own_d5_242)
  have R300 := fun t k => R287 t (st300 t k)
  clear R287 st300 X287 e287
  have Z300 : n0 ≤ h300.size := Nat.le_trans Z287 (Keep.of_wr W300).1
  clear Z287
  have K300 : Keep h0 h300 [a1] := K287.wr W300 (Or.inl (by simp))
  clear K287
  have N300 := Fr.snoc X300 N273 g_a1
  clear N273
  have f301 : Arv Z h300 x100_0 c101 .double (2 : Int32) [(.double iv0), (.double 0)] (.double 0) := f288.other W300 (Ne.symm (Nat.ne_of_lt (Nat.lt_of_lt_of_le E_a1.lt sz_x100_0)))
  clear f288
  have f302 : Arv Z h300 b101 k101 (.array .double) (2 : Int32) [(.ref x100_0), (.ref x100_1)] .null := f289.other W300 (Ne.symm (Nat.ne_of_lt (Nat.lt_of_lt_of_le E_a1.lt sz_b101)))
  clear f289
  have f303 : Arv Z h300 x100_1 c101 .double (2 : Int32) [(.double 0), (.double iv1)] (.double 0) := f290.other W300 (Ne.symm (Nat.ne_of_lt (Nat.lt_of_lt_of_le E_a1.lt sz_x100_1)))
  clear f290
  have f304 : oF Z h300 a1 "rows" "I" (.int 2) := f291.other W300 (Or.inr (slot_ne (Or.inr (oW hw 25 rfl)) (Or.inl (oW hw 77 rfl)) (by decide) (t := .int) (t' := (.array .double)) (by decide) (by decide)))
  clear f291
  have f305 : oF Z h300 a1 "rhs" "[D" (.ref rh) := f292.other W300 (Or.inr (slot_ne (Or.inr (oW hw 35 rfl)) (Or.inl (oW hw 77 rfl)) (by decide) (t := (.array .double)) (t' := (.array .double)) (by decide) (by decide)))
  clear f292
  have f306 : oF Z h300 a1 "pivotsSinceRefactor" "I" (.int 0) := f294.other W300 (Or.inr (slot_ne (Or.inl (oW hw 79 rfl)) (Or.inl (oW hw 77 rfl)) (by decide) (t := .int) (t' := (.array .double)) (by decide) (by decide)))
  clear f294
  have f307 : oF Z h300 a1 "position" "[I" (.ref po) := f295.other W300 (Or.inr (slot_ne (Or.inl (oW hw 23 rfl)) (Or.inl (oW hw 77 rfl)) (by decide) (t := (.array .int)) (t' := (.array .double)) (by decide) (by decide)))
  clear f295
  have f308 : oF Z h300 a1 "infeasibility" "D" (.double 0) := f296.other W300 (Or.inr (slot_ne (Or.inl (oW hw 84 rfl)) (Or.inl (oW hw 77 rfl)) (by decide) (t := .double) (t' := (.array .double)) (by decide) (by decide)))
  clear f296
  have f309 : Exa Z h300 a1 "com/example/trunkwright/trunkwright/traffic/RevisedSimplex" := f297.wr W300
  clear f297
  have f310 : Arv Z h300 rh kh .double (2 : Int32) [(.double d0), (.double d1)] (.double 0) := f298.other W300 ne_rh_a1
  clear f298
  have f311 : oF Z h300 a1 "inverse" "[[D" (.ref b101) := f299.other W300 (Or.inr (slot_ne (Or.inl (oW hw 75 rfl)) (Or.inl (oW hw 77 rfl)) (by decide) (t := (.array (.array .double))) (t' := (.array .double)) (by decide) (by decide)))
  clear f299
  have f312 : Exa Z h300 b287 "[D" := B287.wr W300
  have f313 : Arv Z h300 b287 k287 .double (2 : Int32) [(.double 0), (.double 0)] (.double 0) := V287.other W300 (Ne.symm ne_a1_b287)
  clear V287
  have Fw300 : oF Z h300 a1 "primal" "[D" (.ref b287) := f293.same W300
  have R314 : ∀ t, oG p e below T300 m 249 #[oR a1, oR b6, oR b101, oI 0, oI 1, oI 2, .unset] [(.ref a1), (.int 0)] t → Steps p.tables e below AA t := by
    intro t k
    refine R300 t ?_
    refine XS.iconst X300.here hx rfl (hb hby own_d5_245) ?_
    refine XS.istoreN X300.here hx rfl (hb hby own_d5_246) rfl (l' := #[oR a1, oR b6, oR b101, oI 0, oI 1, oI 2, .unset]) rfl ?_
    refine XS.iloadN X300.here hx rfl (hb hby own_d5_247) rfl ?_
    refine XS.aloadN X300.here hx rfl (hb hby own_d5_248) rfl rfl ?_
    exact k
  clear R300
  obtain ⟨T315, X315, e315, st315⟩ := getF X300 hx hZ hown (host := "") (Or.inl (oW hw 24 rfl)) Via.refl e300 f304 (g := (mkF m 249 #[oR a1, oR b6, oR b101, oI 0, oI 1, oI 2, .unset] [(.ref a1), (.int 0)])) rfl rfl (hb hby own_d5_249)
  have R315 := fun t k => R314 t (st315 t k)
  clear R314 st315 X300 e300
  have R316 : ∀ t, oG p e below T315 m 264 #[oR a1, oR b6, oR b101, oI 0, oD 0, .second, oI 0] [(.ref a1), (.int 0)] t → Steps p.tables e below AA t := by
    intro t k
    refine R315 t ?_
    refine XS.icmpNo X315.here hx rfl (hb hby own_d5_252) rfl (tlt (by decide : ((0 : Int32) < (2 : Int32)))).2.1 ?_
    refine XS.dconst0 X315.here hx rfl (hb hby own_d5_255) (v := (0 : UInt64)) (by decide +kernel) ?_
    refine XS.dstore X315.here hx rfl (hb hby own_d5_256) rfl (l' := #[oR a1, oR b6, oR b101, oI 0, oD 0, .second, .unset]) rfl ?_
    refine XS.iconst X315.here hx rfl (hb hby own_d5_258) ?_
    refine XS.istore X315.here hx rfl (hb hby own_d5_259) rfl (l' := #[oR a1, oR b6, oR b101, oI 0, oD 0, .second, oI 0]) rfl ?_
    show oG p e below T315 m 261 #[oR a1, oR b6, oR b101, oI 0, oD 0, .second, oI 0] [] _
    refine XS.iload X315.here hx rfl (hb hby own_d5_261) rfl ?_
    refine XS.aloadN X315.here hx rfl (hb hby own_d5_263) rfl rfl ?_
    exact k
  clear R315
  obtain ⟨T317, X317, e317, st317⟩ := getF X315 hx hZ hown (host := "") (Or.inl (oW hw 24 rfl)) Via.refl e315 f304 (g := (mkF m 264 #[oR a1, oR b6, oR b101, oI 0, oD 0, .second, oI 0] [(.ref a1), (.int 0)])) rfl rfl (hb hby own_d5_264)
  have R317 := fun t k => R316 t (st317 t k)
  clear R316 st317 X315 e315
  have R318 : ∀ t, oG p e below T317 m 273 #[oR a1, oR b6, oR b101, oI 0, oD 0, .second, oI 0] [(.ref a1), (.double 0)] t → Steps p.tables e below AA t := by
    intro t k
    refine R317 t ?_
    refine XS.icmpNo X317.here hx rfl (hb hby own_d5_267) rfl (tlt (by decide : ((0 : Int32) < (2 : Int32)))).2.1 ?_
    refine XS.dload X317.here hx rfl (hb hby own_d5_270) rfl ?_
    refine XS.aloadN X317.here hx rfl (hb hby own_d5_272) rfl rfl ?_
    exact k
  clear R317
  obtain ⟨T319, X319, e319, st319⟩ := getF X317 hx hZ hown (host := "") (Or.inl (oW hw 74 rfl)) Via.refl e317 f311 (g := (mkF m 273 #[oR a1, oR b6, oR b101, oI 0, oD 0, .second, oI 0] [(.ref a1), (.double 0)])) rfl rfl (hb hby own_d5_273)
  have R319 := fun t k => R318 t (st319 t k)
  clear R318 st319 X317 e317
  have R320 : ∀ t, oG p e below T319 m 277 #[oR a1, oR b6, oR b101, oI 0, oD 0, .second, oI 0] [(.int 0), (.ref b101), (.double 0)] t → Steps p.tables e below AA t := by
    intro t k
    refine R319 t ?_
    refine XS.iloadN X319.here hx rfl (hb hby own_d5_276) rfl ?_
    exact k
  clear R319
  obtain ⟨cl321, Ar321, q321, S321, N321', H321, G321⟩ := id f302
  have hin321_0 : ¬ ((0 : Int32) < 0 ∨ cl321.slots.size ≤ ((0 : Int32)).toNatClampNeg) := inb_of S321 ⟨by decide, by decide⟩
  have hat321_0 : cl321.slots[((0 : Int32)).toNatClampNeg]? = some (.ref x100_0) := H321.at hin321_0 rfl
  have R322 : ∀ t, oG p e below T319 m 280 #[oR a1, oR b6, oR b101, oI 0, oD 0, .second, oI 0] [(.int 0), (.ref x100_0), (.double 0)] t → Steps p.tables e below AA t := by
    intro t k
    refine R320 t ?_
    refine X319.aaload hx (j := (0 : Int32)) (v := (.ref x100_0)) (by rw [e319]; exact Ar321.1) (State.isArrayOf_alike hZ.alike Ar321.2.1) rfl Ar321.2.2 hin321_0 hat321_0 (g := (mkF m 277 #[oR a1, oR b6, oR b101, oI 0, oD 0, .second, oI 0] [(.int 0), (.ref b101), (.double 0)])) rfl rfl (hb hby own_d5_277) _ ?_
    refine XS.iload X319.here hx rfl (hb hby own_d5_278) rfl ?_
    exact k
  clear R320
  obtain ⟨cl323, Ar323, q323, S323, N323', H323, G323⟩ := id f301
  have hin323_0 : ¬ ((0 : Int32) < 0 ∨ cl323.slots.size ≤ ((0 : Int32)).toNatClampNeg) := inb_of S323 ⟨by decide, by decide⟩
  have hat323_0 : cl323.slots[((0 : Int32)).toNatClampNeg]? = some (.double iv0) := H323.at hin323_0 rfl
  have R324 : ∀ t, oG p e below T319 m 282 #[oR a1, oR b6, oR b101, oI 0, oD 0, .second, oI 0] [(.ref a1), (.double iv0), (.double 0)] t → Steps p.tables e below AA t := by
    intro t k
    refine R322 t ?_
    refine X319.daload hx (j := (0 : Int32)) (v := (.double iv0)) (by rw [e319]; exact Ar323.1) (State.isArrayOf_alike hZ.alike Ar323.2.1) Ar323.2.2 hin323_0 hat323_0 (g := (mkF m 280 #[oR a1, oR b6, oR b101, oI 0, oD 0, .second, oI 0] [(.int 0), (.ref x100_0), (.double 0)])) rfl rfl (hb hby own_d5_280) _ ?_
    refine XS.aloadN X319.here hx rfl (hb hby own_d5_281) rfl rfl ?_
    exact k
  clear R322
  obtain ⟨T325, X325, e325, st325⟩ := getF X319 hx hZ hown (host := "") (Or.inl (oW hw 34 rfl)) Via.refl e319 f305 (g := (mkF m 282 #[oR a1, oR b6, oR b101, oI 0, oD 0, .second, oI 0] [(.ref a1), (.double iv0), (.double 0)])) rfl rfl (hb hby own_d5_282)
  have R325 := fun t k => R324 t (st325 t k)
  clear R324 st325 X319 e319
  have R326 : ∀ t, oG p e below T325 m 287 #[oR a1, oR b6, oR b101, oI 0, oD 0, .second, oI 0] [(.int 0), (.ref rh), (.double iv0), (.double 0)] t → Steps p.tables e below AA t := by
    intro t k
    refine R325 t ?_
    refine XS.iload X325.here hx rfl (hb hby own_d5_285) rfl ?_
    exact k
  clear R325
  obtain ⟨cl327, Ar327, q327, S327, N327', H327, G327⟩ := id f310
  have hin327_0 : ¬ ((0 : Int32) < 0 ∨ cl327.slots.size ≤ ((0 : Int32)).toNatClampNeg) := inb_of S327 ⟨by decide, by decide⟩
  have hat327_0 : cl327.slots[((0 : Int32)).toNatClampNeg]? = some (.double d0) := H327.at hin327_0 rfl
  have R328 : ∀ t, oG p e below T325 m 264 #[oR a1, oR b6, oR b101, oI 0, oD x0, .second, oI 1] [(.ref a1), (.int 1)] t → Steps p.tables e below AA t := by
    intro t k
    refine R326 t ?_
    refine X325.daload hx (j := (0 : Int32)) (v := (.double d0)) (by rw [e325]; exact Ar327.1) (State.isArrayOf_alike hZ.alike Ar327.2.1) Ar327.2.2 hin327_0 hat327_0 (g := (mkF m 287 #[oR a1, oR b6, oR b101, oI 0, oD 0, .second, oI 0] [(.int 0), (.ref rh), (.double iv0), (.double 0)])) rfl rfl (hb hby own_d5_287) _ ?_
    refine XS.dmulS X325.here hx rfl (hb hby own_d5_288) rfl (by rw [mi0]; exact own_NN nx0) mi0 ?_
    refine XS.daddS X325.here hx rfl (hb hby own_d5_289) rfl (by rw [own_0add' nx0]; exact own_NN nx0) (own_0add nx0) ?_
    refine XS.dstore X325.here hx rfl (hb hby own_d5_290) rfl (l' := #[oR a1, oR b6, oR b101, oI 0, oD x0, .second, oI 0]) rfl ?_
    refine XS.iinc X325.here hx rfl (hb hby own_d5_292) rfl (l' := #[oR a1, oR b6, oR b101, oI 0, oD x0, .second, oI 1]) rfl ?_
    show oG p e below T325 m 295 #[oR a1, oR b6, oR b101, oI 0, oD x0, .second, oI 1] [] _
    refine XS.goto X325.here hx rfl (pc0 := 295) (pc' := 261) rfl (hb hby own_d5_295) (by decide) (by decide) ?_
    refine XS.iload X325.here hx rfl (hb hby own_d5_261) rfl ?_
    refine XS.aloadN X325.here hx rfl (hb hby own_d5_263) rfl rfl ?_
    exact k
  clear R326
  obtain ⟨T329, X329, e329, st329⟩ := getF X325 hx hZ hown (host := "") (Or.inl (oW hw 24 rfl)) Via.refl e325 f304 (g := (mkF m 264 #[oR a1, oR b6, oR b101, oI 0, oD x0, .second, oI 1] [(.ref a1), (.int 1)])) rfl rfl (hb hby own_d5_264)
  have R329 := fun t k => R328 t (st329 t k)
  clear R328 st329 X325 e325
  have R330 : ∀ t, oG p e below T329 m 273 #[oR a1, oR b6, oR b101, oI 0, oD x0, .second, oI 1] [(.ref a1), (.double x0)] t → Steps p.tables e below AA t := by
    intro t k
    refine R329 t ?_
    refine XS.icmpNo X329.here hx rfl (hb hby own_d5_267) rfl (tlt (by decide : ((1 : Int32) < (2 : Int32)))).2.1 ?_
    refine XS.dload X329.here hx rfl (hb hby own_d5_270) rfl ?_
    refine XS.aloadN X329.here hx rfl (hb hby own_d5_272) rfl rfl ?_
    exact k
  clear R329
  obtain ⟨T331, X331, e331, st331⟩ := getF X329 hx hZ hown (host := "") (Or.inl (oW hw 74 rfl)) Via.refl e329 f311 (g := (mkF m 273 #[oR a1, oR b6, oR b101, oI 0, oD x0, .second, oI 1] [(.ref a1), (.double x0)])) rfl rfl (hb hby own_d5_273)
  have R331 := fun t k => R330 t (st331 t k)
  clear R330 st331 X329 e329
  have R332 : ∀ t, oG p e below T331 m 280 #[oR a1, oR b6, oR b101, oI 0, oD x0, .second, oI 1] [(.int 1), (.ref x100_0), (.double x0)] t → Steps p.tables e below AA t := by
    intro t k
    refine R331 t ?_
    refine XS.iloadN X331.here hx rfl (hb hby own_d5_276) rfl ?_
    refine X331.aaload hx (j := (0 : Int32)) (v := (.ref x100_0)) (by rw [e331]; exact Ar321.1) (State.isArrayOf_alike hZ.alike Ar321.2.1) rfl Ar321.2.2 hin321_0 hat321_0 (g := (mkF m 277 #[oR a1, oR b6, oR b101, oI 0, oD x0, .second, oI 1] [(.int 0), (.ref b101), (.double x0)])) rfl rfl (hb hby own_d5_277) _ ?_
    refine XS.iload X331.here hx rfl (hb hby own_d5_278) rfl ?_
    exact k
  clear R331
  have hin323_1 : ¬ ((1 : Int32) < 0 ∨ cl323.slots.size ≤ ((1 : Int32)).toNatClampNeg) := inb_of S323 ⟨by decide, by decide⟩
  have hat323_1 : cl323.slots[((1 : Int32)).toNatClampNeg]? = some (.double 0) := H323.at hin323_1 rfl
  have R333 : ∀ t, oG p e below T331 m 282 #[oR a1, oR b6, oR b101, oI 0, oD x0, .second, oI 1] [(.ref a1), (.double 0), (.double x0)] t → Steps p.tables e below AA t := by
    intro t k
    refine R332 t ?_
    refine X331.daload hx (j := (1 : Int32)) (v := (.double 0)) (by rw [e331]; exact Ar323.1) (State.isArrayOf_alike hZ.alike Ar323.2.1) Ar323.2.2 hin323_1 hat323_1 (g := (mkF m 280 #[oR a1, oR b6, oR b101, oI 0, oD x0, .second, oI 1] [(.int 1), (.ref x100_0), (.double x0)])) rfl rfl (hb hby own_d5_280) _ ?_
    refine XS.aloadN X331.here hx rfl (hb hby own_d5_281) rfl rfl ?_
    exact k
  clear R332
  obtain ⟨T334, X334, e334, st334⟩ := getF X331 hx hZ hown (host := "") (Or.inl (oW hw 34 rfl)) Via.refl e331 f305 (g := (mkF m 282 #[oR a1, oR b6, oR b101, oI 0, oD x0, .second, oI 1] [(.ref a1), (.double 0), (.double x0)])) rfl rfl (hb hby own_d5_282)
  have R334 := fun t k => R333 t (st334 t k)
  clear R333 st334 X331 e331
  have R335 : ∀ t, oG p e below T334 m 287 #[oR a1, oR b6, oR b101, oI 0, oD x0, .second, oI 1] [(.int 1), (.ref rh), (.double 0), (.double x0)] t → Steps p.tables e below AA t := by
    intro t k
    refine R334 t ?_
    refine XS.iload X334.here hx rfl (hb hby own_d5_285) rfl ?_
    exact k
  clear R334
  have hin327_1 : ¬ ((1 : Int32) < 0 ∨ cl327.slots.size ≤ ((1 : Int32)).toNatClampNeg) := inb_of S327 ⟨by decide, by decide⟩
  have hat327_1 : cl327.slots[((1 : Int32)).toNatClampNeg]? = some (.double d1) := H327.at hin327_1 rfl
  have R336 : ∀ t, oG p e below T334 m 264 #[oR a1, oR b6, oR b101, oI 0, oD x0, .second, oI 2] [(.ref a1), (.int 2)] t → Steps p.tables e below AA t := by
    intro t k
    refine R335 t ?_
    refine X334.daload hx (j := (1 : Int32)) (v := (.double d1)) (by rw [e334]; exact Ar327.1) (State.isArrayOf_alike hZ.alike Ar327.2.1) Ar327.2.2 hin327_1 hat327_1 (g := (mkF m 287 #[oR a1, oR b6, oR b101, oI 0, oD x0, .second, oI 1] [(.int 1), (.ref rh), (.double 0), (.double x0)])) rfl rfl (hb hby own_d5_287) _ ?_
    refine XS.dmulS X334.here hx rfl (hb hby own_d5_288) rfl (by rw [own_mul0' sd1]; exact own_n0) (own_mul0 sd1) ?_
    refine XS.daddS X334.here hx rfl (hb hby own_d5_289) rfl (by rw [own_add0' nx0]; exact own_NN nx0) (own_add0 nx0) ?_
    refine XS.dstore X334.here hx rfl (hb hby own_d5_290) rfl (l' := #[oR a1, oR b6, oR b101, oI 0, oD x0, .second, oI 1]) rfl ?_
    refine XS.iinc X334.here hx rfl (hb hby own_d5_292) rfl (l' := #[oR a1, oR b6, oR b101, oI 0, oD x0, .second, oI 2]) rfl ?_
    show oG p e below T334 m 295 #[oR a1, oR b6, oR b101, oI 0, oD x0, .second, oI 2] [] _
    refine XS.goto X334.here hx rfl (pc0 := 295) (pc' := 261) rfl (hb hby own_d5_295) (by decide) (by decide) ?_
    refine XS.iload X334.here hx rfl (hb hby own_d5_261) rfl ?_
    refine XS.aloadN X334.here hx rfl (hb hby own_d5_263) rfl rfl ?_
    exact k
  clear R335
  obtain ⟨T337, X337, e337, st337⟩ := getF X334 hx hZ hown (host := "") (Or.inl (oW hw 24 rfl)) Via.refl e334 f304 (g := (mkF m 264 #[oR a1, oR b6, oR b101, oI 0, oD x0, .second, oI 2] [(.ref a1), (.int 2)])) rfl rfl (hb hby own_d5_264)
  have R337 := fun t k => R336 t (st337 t k)
  clear R336 st337 X334 e334
  have R338 : ∀ t, oG p e below T337 m 299 #[oR a1, oR b6, oR b101, oI 0, oD x0, .second, oI 2] [(.ref a1)] t → Steps p.tables e below AA t := by
    intro t k
    refine R337 t ?_
    refine XS.icmpYes X337.here hx rfl (pc0 := 267) (pc' := 298) rfl (hb hby own_d5_267) rfl (flt (by decide : ¬ ((2 : Int32) < (2 : Int32)))).2.1 (by decide) (by decide) ?_
    refine XS.aloadN X337.here hx rfl (hb hby own_d5_298) rfl rfl ?_
    exact k
  clear R337
  obtain ⟨T339, X339, e339, st339⟩ := getF X337 hx hZ hown (host := "") (Or.inl (oW hw 76 rfl)) Via.refl e337 Fw300 (g := (mkF m 299 #[oR a1, oR b6, oR b101, oI 0, oD x0, .second, oI 2] [(.ref a1)])) rfl rfl (hb hby own_d5_299)
  have R339 := fun t k => R338 t (st339 t k)
  clear R338 st339 X337 e337
  have R340 : ∀ t, oG p e below T339 m 305 #[oR a1, oR b6, oR b101, oI 0, oD x0, .second, oI 2] [(.double x0), (.int 0), (.ref b287)] t → Steps p.tables e below AA t := by
    intro t k
    refine R339 t ?_
    refine XS.iloadN X339.here hx rfl (hb hby own_d5_302) rfl ?_
    refine XS.dload X339.here hx rfl (hb hby own_d5_303) rfl ?_
    exact k
  clear R339
  obtain ⟨cl341, Ar341, q341, S341, N341', H341, G341⟩ := id f313
  have hin341 : ¬ ((0 : Int32) < 0 ∨ cl341.slots.size ≤ ((0 : Int32)).toNatClampNeg) := inb_of S341 ⟨by decide, by decide⟩
  obtain ⟨T342, h342, X342, e342, W342, st342⟩ := stD X339 hx hZ e339 Ar341 (j := (0 : Int32)) hin341 (g := (mkF m 305 #[oR a1, oR b6, oR b101, oI 0, oD x0, .second, oI 2] [(.double x0), (.int 0), (.ref b287)])) rfl rfl (hb hby own_d5_305)
  have R342 := fun t k => R340 t (st342 t k)
  clear R340 st342 X339 e339
  have Z342 : n0 ≤ h342.size := Nat.le_trans Z300 (Keep.of_wr W342).1
  clear Z300
  have K342 : Keep h0 h342 [a1] := K300.wr W342 (Or.inr sz_b287)
  have N342 := Fr.snoc X342 N300 g_b287
  clear K300
  clear N300
  have f343 : Arv Z h342 x100_0 c101 .double (2 : Int32) [(.double iv0), (.double 0)] (.double 0) := f301.other W342 ne_x100_0_b287
  clear f301
  have f344 : Arv Z h342 b101 k101 (.array .double) (2 : Int32) [(.ref x100_0), (.ref x100_1)] .null := f302.other W342 ne_b101_b287
  clear f302
  have f345 : Arv Z h342 x100_1 c101 .double (2 : Int32) [(.double 0), (.double iv1)] (.double 0) := f303.other W342 ne_x100_1_b287
  clear f303
  have f346 : oF Z h342 a1 "rows" "I" (.int 2) := f304.other W342 (Or.inl ne_a1_b287)
  clear f304
  have f347 : oF Z h342 a1 "rhs" "[D" (.ref rh) := f305.other W342 (Or.inl ne_a1_b287)
  clear f305
  have f348 : oF Z h342 a1 "pivotsSinceRefactor" "I" (.int 0) := f306.other W342 (Or.inl ne_a1_b287)
  clear f306
  have f349 : oF Z h342 a1 "position" "[I" (.ref po) := f307.other W342 (Or.inl ne_a1_b287)
  clear f307
  have f350 : oF Z h342 a1 "infeasibility" "D" (.double 0) := f308.other W342 (Or.inl ne_a1_b287)
  clear f308
  have f351 : Exa Z h342 a1 "com/example/trunkwright/trunkwright/traffic/RevisedSimplex" := f309.wr W342
  clear f309
  have f352 : Arv Z h342 rh kh .double (2 : Int32) [(.double d0), (.double d1)] (.double 0) := f310.other W342 ne_rh_b287
  clear f310
  have f353 : oF Z h342 a1 "inverse" "[[D" (.ref b101) := f311.other W342 (Or.inl ne_a1_b287)
  clear f311
  have f354 : Exa Z h342 b287 "[D" := f312.wr W342
  clear f312
  have f355 : oF Z h342 a1 "primal" "[D" (.ref b287) := Fw300.other W342 (Or.inl ne_a1_b287)
  clear Fw300
  have V342 : Arv Z h342 b287 k287 .double (2 : Int32) [(.double x0), (.double 0)] (.double 0) := Arv.set Ar341 q341 S341 N341' H341 G341 rfl W342 0 rfl (Nat.le_of_ble_eq_true rfl)
  clear Ar341 q341 S341 N341' H341 G341 hin341 W342 f313
  have R356 : ∀ t, oG p e below T342 m 249 #[oR a1, oR b6, oR b101, oI 1, oD x0, .second, oI 2] [(.ref a1), (.int 1)] t → Steps p.tables e below AA t := by
    intro t k
    refine R342 t ?_
    refine XS.iinc X342.here hx rfl (hb hby own_d5_306) rfl (l' := #[oR a1, oR b6, oR b101, oI 1, oD x0, .second, oI 2]) rfl ?_
    refine XS.goto X342.here hx rfl (pc0 := 309) (pc' := 247) rfl (hb hby own_d5_309) (by decide) (by decide) ?_
    refine XS.iloadN X342.here hx rfl (hb hby own_d5_247) rfl ?_
    refine XS.aloadN X342.here hx rfl (hb hby own_d5_248) rfl rfl ?_
    exact k
  clear R342
  obtain ⟨T357, X357, e357, st357⟩ := getF X342 hx hZ hown (host := "") (Or.inl (oW hw 24 rfl)) Via.refl e342 f346 (g := (mkF m 249 #[oR a1, oR b6, oR b101, oI 1, oD x0, .second, oI 2] [(.ref a1), (.int 1)])) rfl rfl (hb hby own_d5_249)
  have R357 := fun t k => R356 t (st357 t k)
  clear R356 st357 X342 e342
  have R358 : ∀ t, oG p e below T357 m 264 #[oR a1, oR b6, oR b101, oI 1, oD 0, .second, oI 0] [(.ref a1), (.int 0)] t → Steps p.tables e below AA t := by
    intro t k
    refine R357 t ?_
    refine XS.icmpNo X357.here hx rfl (hb hby own_d5_252) rfl (tlt (by decide : ((1 : Int32) < (2 : Int32)))).2.1 ?_
    refine XS.dconst0 X357.here hx rfl (hb hby own_d5_255) (v := (0 : UInt64)) (by decide +kernel) ?_
    refine XS.dstore X357.here hx rfl (hb hby own_d5_256) rfl (l' := #[oR a1, oR b6, oR b101, oI 1, oD 0, .second, oI 2]) rfl ?_
    refine XS.iconst X357.here hx rfl (hb hby own_d5_258) ?_
    refine XS.istore X357.here hx rfl (hb hby own_d5_259) rfl (l' := #[oR a1, oR b6, oR b101, oI 1, oD 0, .second, oI 0]) rfl ?_
    show oG p e below T357 m 261 #[oR a1, oR b6, oR b101, oI 1, oD 0, .second, oI 0] [] _
    refine XS.iload X357.here hx rfl (hb hby own_d5_261) rfl ?_
    refine XS.aloadN X357.here hx rfl (hb hby own_d5_263) rfl rfl ?_
    exact k
  clear R357
  obtain ⟨T359, X359, e359, st359⟩ := getF X357 hx hZ hown (host := "") (Or.inl (oW hw 24 rfl)) Via.refl e357 f346 (g := (mkF m 264 #[oR a1, oR b6, oR b101, oI 1, oD 0, .second, oI 0] [(.ref a1), (.int 0)])) rfl rfl (hb hby own_d5_264)
  have R359 := fun t k => R358 t (st359 t k)
  clear R358 st359 X357 e357
  have R360 : ∀ t, oG p e below T359 m 273 #[oR a1, oR b6, oR b101, oI 1, oD 0, .second, oI 0] [(.ref a1), (.double 0)] t → Steps p.tables e below AA t := by
    intro t k
    refine R359 t ?_
    refine XS.icmpNo X359.here hx rfl (hb hby own_d5_267) rfl (tlt (by decide : ((0 : Int32) < (2 : Int32)))).2.1 ?_
    refine XS.dload X359.here hx rfl (hb hby own_d5_270) rfl ?_
    refine XS.aloadN X359.here hx rfl (hb hby own_d5_272) rfl rfl ?_
    exact k
  clear R359
  obtain ⟨T361, X361, e361, st361⟩ := getF X359 hx hZ hown (host := "") (Or.inl (oW hw 74 rfl)) Via.refl e359 f353 (g := (mkF m 273 #[oR a1, oR b6, oR b101, oI 1, oD 0, .second, oI 0] [(.ref a1), (.double 0)])) rfl rfl (hb hby own_d5_273)
  have R361 := fun t k => R360 t (st361 t k)
  clear R360 st361 X359 e359
  have R362 : ∀ t, oG p e below T361 m 277 #[oR a1, oR b6, oR b101, oI 1, oD 0, .second, oI 0] [(.int 1), (.ref b101), (.double 0)] t → Steps p.tables e below AA t := by
    intro t k
    refine R361 t ?_
    refine XS.iloadN X361.here hx rfl (hb hby own_d5_276) rfl ?_
    exact k
  clear R361
  obtain ⟨cl363, Ar363, q363, S363, N363', H363, G363⟩ := id f344
  have hin363_1 : ¬ ((1 : Int32) < 0 ∨ cl363.slots.size ≤ ((1 : Int32)).toNatClampNeg) := inb_of S363 ⟨by decide, by decide⟩
  have hat363_1 : cl363.slots[((1 : Int32)).toNatClampNeg]? = some (.ref x100_1) := H363.at hin363_1 rfl
  have R364 : ∀ t, oG p e below T361 m 280 #[oR a1, oR b6, oR b101, oI 1, oD 0, .second, oI 0] [(.int 0), (.ref x100_1), (.double 0)] t → Steps p.tables e below AA t := by
    intro t k
    refine R362 t ?_
    refine X361.aaload hx (j := (1 : Int32)) (v := (.ref x100_1)) (by rw [e361]; exact Ar363.1) (State.isArrayOf_alike hZ.alike Ar363.2.1) rfl Ar363.2.2 hin363_1 hat363_1 (g := (mkF m 277 #[oR a1, oR b6, oR b101, oI 1, oD 0, .second, oI 0] [(.int 1), (.ref b101), (.double 0)])) rfl rfl (hb hby own_d5_277) _ ?_
    refine XS.iload X361.here hx rfl (hb hby own_d5_278) rfl ?_
    exact k
  clear R362
  obtain ⟨cl365, Ar365, q365, S365, N365', H365, G365⟩ := id f345
  have hin365_0 : ¬ ((0 : Int32) < 0 ∨ cl365.slots.size ≤ ((0 : Int32)).toNatClampNeg) := inb_of S365 ⟨by decide, by decide⟩
  have hat365_0 : cl365.slots[((0 : Int32)).toNatClampNeg]? = some (.double 0) := H365.at hin365_0 rfl
  have R366 : ∀ t, oG p e below T361 m 282 #[oR a1, oR b6, oR b101, oI 1, oD 0, .second, oI 0] [(.ref a1), (.double 0), (.double 0)] t → Steps p.tables e below AA t := by
    intro t k
    refine R364 t ?_
    refine X361.daload hx (j := (0 : Int32)) (v := (.double 0)) (by rw [e361]; exact Ar365.1) (State.isArrayOf_alike hZ.alike Ar365.2.1) Ar365.2.2 hin365_0 hat365_0 (g := (mkF m 280 #[oR a1, oR b6, oR b101, oI 1, oD 0, .second, oI 0] [(.int 0), (.ref x100_1), (.double 0)])) rfl rfl (hb hby own_d5_280) _ ?_
    refine XS.aloadN X361.here hx rfl (hb hby own_d5_281) rfl rfl ?_
    exact k
  clear R364
  obtain ⟨T367, X367, e367, st367⟩ := getF X361 hx hZ hown (host := "") (Or.inl (oW hw 34 rfl)) Via.refl e361 f347 (g := (mkF m 282 #[oR a1, oR b6, oR b101, oI 1, oD 0, .second, oI 0] [(.ref a1), (.double 0), (.double 0)])) rfl rfl (hb hby own_d5_282)
  have R367 := fun t k => R366 t (st367 t k)
  clear R366 st367 X361 e361
  have R368 : ∀ t, oG p e below T367 m 287 #[oR a1, oR b6, oR b101, oI 1, oD 0, .second, oI 0] [(.int 0), (.ref rh), (.double 0), (.double 0)] t → Steps p.tables e below AA t := by
    intro t k
    refine R367 t ?_
    refine XS.iload X367.here hx rfl (hb hby own_d5_285) rfl ?_
    exact k
  clear R367
  obtain ⟨cl369, Ar369, q369, S369, N369', H369, G369⟩ := id f352
  have hin369_0 : ¬ ((0 : Int32) < 0 ∨ cl369.slots.size ≤ ((0 : Int32)).toNatClampNeg) := inb_of S369 ⟨by decide, by decide⟩
  have hat369_0 : cl369.slots[((0 : Int32)).toNatClampNeg]? = some (.double d0) := H369.at hin369_0 rfl
  have R370 : ∀ t, oG p e below T367 m 264 #[oR a1, oR b6, oR b101, oI 1, oD 0, .second, oI 1] [(.ref a1), (.int 1)] t → Steps p.tables e below AA t := by
    intro t k
    refine R368 t ?_
    refine X367.daload hx (j := (0 : Int32)) (v := (.double d0)) (by rw [e367]; exact Ar369.1) (State.isArrayOf_alike hZ.alike Ar369.2.1) Ar369.2.2 hin369_0 hat369_0 (g := (mkF m 287 #[oR a1, oR b6, oR b101, oI 1, oD 0, .second, oI 0] [(.int 0), (.ref rh), (.double 0), (.double 0)])) rfl rfl (hb hby own_d5_287) _ ?_
    refine XS.dmulS X367.here hx rfl (hb hby own_d5_288) rfl (by rw [own_mul0' sd0]; exact own_n0) (own_mul0 sd0) ?_
    refine XS.daddS X367.here hx rfl (hb hby own_d5_289) rfl (by rw [own_a00]; exact own_n0) own_a00 ?_
    refine XS.dstore X367.here hx rfl (hb hby own_d5_290) rfl (l' := #[oR a1, oR b6, oR b101, oI 1, oD 0, .second, oI 0]) rfl ?_
    refine XS.iinc X367.here hx rfl (hb hby own_d5_292) rfl (l' := #[oR a1, oR b6, oR b101, oI 1, oD 0, .second, oI 1]) rfl ?_
    show oG p e below T367 m 295 #[oR a1, oR b6, oR b101, oI 1, oD 0, .second, oI 1] [] _
    refine XS.goto X367.here hx rfl (pc0 := 295) (pc' := 261) rfl (hb hby own_d5_295) (by decide) (by decide) ?_
    refine XS.iload X367.here hx rfl (hb hby own_d5_261) rfl ?_
    refine XS.aloadN X367.here hx rfl (hb hby own_d5_263) rfl rfl ?_
    exact k
  clear R368
  obtain ⟨T371, X371, e371, st371⟩ := getF X367 hx hZ hown (host := "") (Or.inl (oW hw 24 rfl)) Via.refl e367 f346 (g := (mkF m 264 #[oR a1, oR b6, oR b101, oI 1, oD 0, .second, oI 1] [(.ref a1), (.int 1)])) rfl rfl (hb hby own_d5_264)
  have R371 := fun t k => R370 t (st371 t k)
  clear R370 st371 X367 e367
  have R372 : ∀ t, oG p e below T371 m 273 #[oR a1, oR b6, oR b101, oI 1, oD 0, .second, oI 1] [(.ref a1), (.double 0)] t → Steps p.tables e below AA t := by
    intro t k
    refine R371 t ?_
    refine XS.icmpNo X371.here hx rfl (hb hby own_d5_267) rfl (tlt (by decide : ((1 : Int32) < (2 : Int32)))).2.1 ?_
    refine XS.dload X371.here hx rfl (hb hby own_d5_270) rfl ?_
    refine XS.aloadN X371.here hx rfl (hb hby own_d5_272) rfl rfl ?_
    exact k
  clear R371
  obtain ⟨T373, X373, e373, st373⟩ := getF X371 hx hZ hown (host := "") (Or.inl (oW hw 74 rfl)) Via.refl e371 f353 (g := (mkF m 273 #[oR a1, oR b6, oR b101, oI 1, oD 0, .second, oI 1] [(.ref a1), (.double 0)])) rfl rfl (hb hby own_d5_273)
  have R373 := fun t k => R372 t (st373 t k)
  clear R372 st373 X371 e371
  have R374 : ∀ t, oG p e below T373 m 280 #[oR a1, oR b6, oR b101, oI 1, oD 0, .second, oI 1] [(.int 1), (.ref x100_1), (.double 0)] t → Steps p.tables e below AA t := by
    intro t k
    refine R373 t ?_
    refine XS.iloadN X373.here hx rfl (hb hby own_d5_276) rfl ?_
    refine X373.aaload hx (j := (1 : Int32)) (v := (.ref x100_1)) (by rw [e373]; exact Ar363.1) (State.isArrayOf_alike hZ.alike Ar363.2.1) rfl Ar363.2.2 hin363_1 hat363_1 (g := (mkF m 277 #[oR a1, oR b6, oR b101, oI 1, oD 0, .second, oI 1] [(.int 1), (.ref b101), (.double 0)])) rfl rfl (hb hby own_d5_277) _ ?_
    refine XS.iload X373.here hx rfl (hb hby own_d5_278) rfl ?_
    exact k
  clear R373
  have hin365_1 : ¬ ((1 : Int32) < 0 ∨ cl365.slots.size ≤ ((1 : Int32)).toNatClampNeg) := inb_of S365 ⟨by decide, by decide⟩
  have hat365_1 : cl365.slots[((1 : Int32)).toNatClampNeg]? = some (.double iv1) := H365.at hin365_1 rfl
  have R375 : ∀ t, oG p e below T373 m 282 #[oR a1, oR b6, oR b101, oI 1, oD 0, .second, oI 1] [(.ref a1), (.double iv1), (.double 0)] t → Steps p.tables e below AA t := by
    intro t k
    refine R374 t ?_
    refine X373.daload hx (j := (1 : Int32)) (v := (.double iv1)) (by rw [e373]; exact Ar365.1) (State.isArrayOf_alike hZ.alike Ar365.2.1) Ar365.2.2 hin365_1 hat365_1 (g := (mkF m 280 #[oR a1, oR b6, oR b101, oI 1, oD 0, .second, oI 1] [(.int 1), (.ref x100_1), (.double 0)])) rfl rfl (hb hby own_d5_280) _ ?_
    refine XS.aloadN X373.here hx rfl (hb hby own_d5_281) rfl rfl ?_
    exact k
  clear R374
  obtain ⟨T376, X376, e376, st376⟩ := getF X373 hx hZ hown (host := "") (Or.inl (oW hw 34 rfl)) Via.refl e373 f347 (g := (mkF m 282 #[oR a1, oR b6, oR b101, oI 1, oD 0, .second, oI 1] [(.ref a1), (.double iv1), (.double 0)])) rfl rfl (hb hby own_d5_282)
  have R376 := fun t k => R375 t (st376 t k)
  clear R375 st376 X373 e373
  have R377 : ∀ t, oG p e below T376 m 287 #[oR a1, oR b6, oR b101, oI 1, oD 0, .second, oI 1] [(.int 1), (.ref rh), (.double iv1), (.double 0)] t → Steps p.tables e below AA t := by
    intro t k
    refine R376 t ?_
    refine XS.iload X376.here hx rfl (hb hby own_d5_285) rfl ?_
    exact k
  clear R376
  have hin369_1 : ¬ ((1 : Int32) < 0 ∨ cl369.slots.size ≤ ((1 : Int32)).toNatClampNeg) := inb_of S369 ⟨by decide, by decide⟩
  have hat369_1 : cl369.slots[((1 : Int32)).toNatClampNeg]? = some (.double d1) := H369.at hin369_1 rfl
  have R378 : ∀ t, oG p e below T376 m 264 #[oR a1, oR b6, oR b101, oI 1, oD x1, .second, oI 2] [(.ref a1), (.int 2)] t → Steps p.tables e below AA t := by
    intro t k
    refine R377 t ?_
    refine X376.daload hx (j := (1 : Int32)) (v := (.double d1)) (by rw [e376]; exact Ar369.1) (State.isArrayOf_alike hZ.alike Ar369.2.1) Ar369.2.2 hin369_1 hat369_1 (g := (mkF m 287 #[oR a1, oR b6, oR b101, oI 1, oD 0, .second, oI 1] [(.int 1), (.ref rh), (.double iv1), (.double 0)])) rfl rfl (hb hby own_d5_287) _ ?_
    refine XS.dmulS X376.here hx rfl (hb hby own_d5_288) rfl (by rw [mi1]; exact own_NN nx1) mi1 ?_
    refine XS.daddS X376.here hx rfl (hb hby own_d5_289) rfl (by rw [own_0add' nx1]; exact own_NN nx1) (own_0add nx1) ?_
    refine XS.dstore X376.here hx rfl (hb hby own_d5_290) rfl (l' := #[oR a1, oR b6, oR b101, oI 1, oD x1, .second, oI 1]) rfl ?_
    refine XS.iinc X376.here hx rfl (hb hby own_d5_292) rfl (l' := #[oR a1, oR b6, oR b101, oI 1, oD x1, .second, oI 2]) rfl ?_
    show oG p e below T376 m 295 #[oR a1, oR b6, oR b101, oI 1, oD x1, .second, oI 2] [] _
    refine XS.goto X376.here hx rfl (pc0 := 295) (pc' := 261) rfl (hb hby own_d5_295) (by decide) (by decide) ?_
    refine XS.iload X376.here hx rfl (hb hby own_d5_261) rfl ?_
    refine XS.aloadN X376.here hx rfl (hb hby own_d5_263) rfl rfl ?_
    exact k
  clear R377
  obtain ⟨T379, X379, e379, st379⟩ := getF X376 hx hZ hown (host := "") (Or.inl (oW hw 24 rfl)) Via.refl e376 f346 (g := (mkF m 264 #[oR a1, oR b6, oR b101, oI 1, oD x1, .second, oI 2] [(.ref a1), (.int 2)])) rfl rfl (hb hby own_d5_264)
  have R379 := fun t k => R378 t (st379 t k)
  clear R378 st379 X376 e376
  have R380 : ∀ t, oG p e below T379 m 299 #[oR a1, oR b6, oR b101, oI 1, oD x1, .second, oI 2] [(.ref a1)] t → Steps p.tables e below AA t := by
    intro t k
    refine R379 t ?_
    refine XS.icmpYes X379.here hx rfl (pc0 := 267) (pc' := 298) rfl (hb hby own_d5_267) rfl (flt (by decide : ¬ ((2 : Int32) < (2 : Int32)))).2.1 (by decide) (by decide) ?_
    refine XS.aloadN X379.here hx rfl (hb hby own_d5_298) rfl rfl ?_
    exact k
  clear R379
  obtain ⟨T381, X381, e381, st381⟩ := getF X379 hx hZ hown (host := "") (Or.inl (oW hw 76 rfl)) Via.refl e379 f355 (g := (mkF m 299 #[oR a1, oR b6, oR b101, oI 1, oD x1, .second, oI 2] [(.ref a1)])) rfl rfl (hb hby own_d5_299)
  have R381 := fun t k => R380 t (st381 t k)
  clear R380 st381 X379 e379
  have R382 : ∀ t, oG p e below T381 m 305 #[oR a1, oR b6, oR b101, oI 1, oD x1, .second, oI 2] [(.double x1), (.int 1), (.ref b287)] t → Steps p.tables e below AA t := by
    intro t k
    refine R381 t ?_
    refine XS.iloadN X381.here hx rfl (hb hby own_d5_302) rfl ?_
    refine XS.dload X381.here hx rfl (hb hby own_d5_303) rfl ?_
    exact k
  clear R381
  obtain ⟨cl383, Ar383, q383, S383, N383', H383, G383⟩ := id V342
  have hin383 : ¬ ((1 : Int32) < 0 ∨ cl383.slots.size ≤ ((1 : Int32)).toNatClampNeg) := inb_of S383 ⟨by decide, by decide⟩
  obtain ⟨T384, h384, X384, e384, W384, st384⟩ := stD X381 hx hZ e381 Ar383 (j := (1 : Int32)) hin383 (g := (mkF m 305 #[oR a1, oR b6, oR b101, oI 1, oD x1, .second, oI 2] [(.double x1), (.int 1), (.ref b287)])) rfl rfl (hb hby own_d5_305)
  have R384 := fun t k => R382 t (st384 t k)
  clear R382 st384 X381 e381
  have Z384 : n0 ≤ h384.size := Nat.le_trans Z342 (Keep.of_wr W384).1
  clear Z342
  have K384 : Keep h0 h384 [a1] := K342.wr W384 (Or.inr sz_b287)
  have N384 := Fr.snoc X384 N342 g_b287
  clear K342
  clear N342
  have f385 : Arv Z h384 x100_0 c101 .double (2 : Int32) [(.double iv0), (.double 0)] (.double 0) := f343.other W384 ne_x100_0_b287
  clear f343
  have f386 : Arv Z h384 b101 k101 (.array .double) (2 : Int32) [(.ref x100_0), (.ref x100_1)] .null := f344.other W384 ne_b101_b287
  clear f344
  have f387 : Arv Z h384 x100_1 c101 .double (2 : Int32) [(.double 0), (.double iv1)] (.double 0) := f345.other W384 ne_x100_1_b287
  clear f345
  have f388 : oF Z h384 a1 "rows" "I" (.int 2) := f346.other W384 (Or.inl ne_a1_b287)
  clear f346
  have f389 : oF Z h384 a1 "rhs" "[D" (.ref rh) := f347.other W384 (Or.inl ne_a1_b287)
  clear f347
  have f390 : oF Z h384 a1 "pivotsSinceRefactor" "I" (.int 0) := f348.other W384 (Or.inl ne_a1_b287)
  clear f348
  have f391 : oF Z h384 a1 "position" "[I" (.ref po) := f349.other W384 (Or.inl ne_a1_b287)
  clear f349
  have f392 : oF Z h384 a1 "infeasibility" "D" (.double 0) := f350.other W384 (Or.inl ne_a1_b287)
  clear f350
  have f393 : Exa Z h384 a1 "com/example/trunkwright/trunkwright/traffic/RevisedSimplex" := f351.wr W384
  clear f351
  have f394 : Arv Z h384 rh kh .double (2 : Int32) [(.double d0), (.double d1)] (.double 0) := f352.other W384 ne_rh_b287
  clear f352
  have f395 : oF Z h384 a1 "inverse" "[[D" (.ref b101) := f353.other W384 (Or.inl ne_a1_b287)
  clear f353
  have f396 : Exa Z h384 b287 "[D" := f354.wr W384
  clear f354
  have f397 : oF Z h384 a1 "primal" "[D" (.ref b287) := f355.other W384 (Or.inl ne_a1_b287)
  clear f355
  have V384 : Arv Z h384 b287 k287 .double (2 : Int32) [(.double x0), (.double x1)] (.double 0) := Arv.set Ar383 q383 S383 N383' H383 G383 rfl W384 1 rfl (Nat.le_of_ble_eq_true rfl)
  clear Ar383 q383 S383 N383' H383 G383 hin383 W384 V342
  have R398 : ∀ t, oG p e below T384 m 249 #[oR a1, oR b6, oR b101, oI 2, oD x1, .second, oI 2] [(.ref a1), (.int 2)] t → Steps p.tables e below AA t := by
    intro t k
    refine R384 t ?_
    refine XS.iinc X384.here hx rfl (hb hby own_d5_306) rfl (l' := #[oR a1, oR b6, oR b101, oI 2, oD x1, .second, oI 2]) rfl ?_
    refine XS.goto X384.here hx rfl (pc0 := 309) (pc' := 247) rfl (hb hby own_d5_309) (by decide) (by decide) ?_
    refine XS.iloadN X384.here hx rfl (hb hby own_d5_247) rfl ?_
    refine XS.aloadN X384.here hx rfl (hb hby own_d5_248) rfl rfl ?_
    exact k
  clear R384
  obtain ⟨T399, X399, e399, st399⟩ := getF X384 hx hZ hown (host := "") (Or.inl (oW hw 24 rfl)) Via.refl e384 f388 (g := (mkF m 249 #[oR a1, oR b6, oR b101, oI 2, oD x1, .second, oI 2] [(.ref a1), (.int 2)])) rfl rfl (hb hby own_d5_249)
  have R399 := fun t k => R398 t (st399 t k)
  clear R398 st399 X384 e384
  have R400 : ∀ t, oG p e below T399 m 314 #[oR a1, oR b6, oR b101, oI 2, oD x1, .second, oI 2] [(.int 0), (.ref a1)] t → Steps p.tables e below AA t := by
    intro t k
    refine R399 t ?_
    refine XS.icmpYes X399.here hx rfl (pc0 := 252) (pc' := 312) rfl (hb hby own_d5_252) rfl (flt (by decide : ¬ ((2 : Int32) < (2 : Int32)))).2.1 (by decide) (by decide) ?_
    refine XS.aloadN X399.here hx rfl (hb hby own_d5_312) rfl rfl ?_
    refine XS.iconst X399.here hx rfl (hb hby own_d5_313) ?_
    exact k
  clear R399
  obtain ⟨T401, h401, X401, e401, W401, st401⟩ := putF X399 hx hZ hown (host := "") (Or.inl (oW hw 78 rfl)) Via.refl e399 f390 f393 (Or.inl (oW hw 79 rfl)) (oW hw 2 rfl) (ty := .int) (by decide) rfl rfl (g := (mkF m 314 #[oR a1, oR b6, oR b101, oI 2, oD x1, .second, oI 2] [(.int 0), (.ref a1)])) rfl rfl (hb hby own_d5_314)
  have R401 := fun t k => R400 t (st401 t k)
  clear R400 st401 X399 e399
  have Z401 : n0 ≤ h401.size := Nat.le_trans Z384 (Keep.of_wr W401).1
  clear Z384
  have K401 : Keep h0 h401 [a1] := K384.wr W401 (Or.inl (by simp))
  clear K384
  have N401 := Fr.snoc X401 N384 g_a1
  clear N384
  have f402 : Arv Z h401 x100_0 c101 .double (2 : Int32) [(.double iv0), (.double 0)] (.double 0) := f385.other W401 (Ne.symm (Nat.ne_of_lt (Nat.lt_of_lt_of_le E_a1.lt sz_x100_0)))
  clear f385
  have f403 : Arv Z h401 b101 k101 (.array .double) (2 : Int32) [(.ref x100_0), (.ref x100_1)] .null := f386.other W401 (Ne.symm (Nat.ne_of_lt (Nat.lt_of_lt_of_le E_a1.lt sz_b101)))
  clear f386
  have f404 : Arv Z h401 x100_1 c101 .double (2 : Int32) [(.double 0), (.double iv1)] (.double 0) := f387.other W401 (Ne.symm (Nat.ne_of_lt (Nat.lt_of_lt_of_le E_a1.lt sz_x100_1)))
  clear f387
  have f405 : oF Z h401 a1 "rows" "I" (.int 2) := f388.other W401 (Or.inr (slot_ne (Or.inr (oW hw 25 rfl)) (Or.inl (oW hw 79 rfl)) (by decide) (t := .int) (t' := .int) (by decide) (by decide)))
  clear f388
  have f406 : oF Z h401 a1 "rhs" "[D" (.ref rh) := f389.other W401 (Or.inr (slot_ne (Or.inr (oW hw 35 rfl)) (Or.inl (oW hw 79 rfl)) (by decide) (t := (.array .double)) (t' := .int) (by decide) (by decide)))
  clear f389
  have f407 : oF Z h401 a1 "position" "[I" (.ref po) := f391.other W401 (Or.inr (slot_ne (Or.inl (oW hw 23 rfl)) (Or.inl (oW hw 79 rfl)) (by decide) (t := (.array .int)) (t' := .int) (by decide) (by decide)))
  clear f391
  have f408 : oF Z h401 a1 "infeasibility" "D" (.double 0) := f392.other W401 (Or.inr (slot_ne (Or.inl (oW hw 84 rfl)) (Or.inl (oW hw 79 rfl)) (by decide) (t := .double) (t' := .int) (by decide) (by decide)))
  clear f392
  have f409 : Exa Z h401 a1 "com/example/trunkwright/trunkwright/traffic/RevisedSimplex" := f393.wr W401
  clear f393
  have f410 : Arv Z h401 rh kh .double (2 : Int32) [(.double d0), (.double d1)] (.double 0) := f394.other W401 ne_rh_a1
  clear f394
  have f411 : oF Z h401 a1 "inverse" "[[D" (.ref b101) := f395.other W401 (Or.inr (slot_ne (Or.inl (oW hw 75 rfl)) (Or.inl (oW hw 79 rfl)) (by decide) (t := (.array (.array .double))) (t' := .int) (by decide) (by decide)))
  clear f395
  have f412 : Exa Z h401 b287 "[D" := f396.wr W401
  clear f396
  have f413 : oF Z h401 a1 "primal" "[D" (.ref b287) := f397.other W401 (Or.inr (slot_ne (Or.inl (oW hw 77 rfl)) (Or.inl (oW hw 79 rfl)) (by decide) (t := (.array .double)) (t' := .int) (by decide) (by decide)))
  clear f397
  have f414 : Arv Z h401 b287 k287 .double (2 : Int32) [(.double x0), (.double x1)] (.double 0) := V384.other W401 (Ne.symm ne_a1_b287)
  clear V384
  have Fw401 : oF Z h401 a1 "pivotsSinceRefactor" "I" (.int 0) := f390.same W401
  subst hAA
  obtain ⟨fs, hr, hrun, hended, hW, hsame⟩ := X401.leave (v := none) (fun _ => rfl)
  refine ⟨_, _, R401 _ ?_, hrun, hended, _, _, rfl, ?_, ⟨_, rfl⟩, hW, hsame.mono (by decide) (by decide)⟩
  · exact X401.returnOut hx Bd.returns (hb hby own_d5_317) hr
  · show Q_rmRfD Z a1 bs er ev r0 r1 va0 va1 rh po ka kb kc kd ke kf kg kh j0 j1 ers evs u0 u1 d0 d1 x0 x1 h0 n0 _ T401.heap _
    rw [e401]
    exact ⟨rfl, N401, b287, _, K401, sz_b287, f405, f407, f408, f413, f414⟩
theorem own_ef_rmRfA (m : MethodId) (x0 : Addr) : entryFrame m #[(.ref x0)] 7 = mkF m 0 #[oR x0, .unset, .unset, .unset, .unset, .unset, .unset] [] := by first | (simp [entryFrame, mkF, argsToLocals, Value.category]; done) | rfl
theorem own_d5_167 : decode prog_82_method_18_code 167 = .ok (.iload 5, 2) := by decide +kernel
theorem own_d5_169 : decode prog_82_method_18_code 169 = .ok (.istore 4, 2) := by decide +kernel
def Q_rmRfA (Z : State) (a1 bs er ev r0 r1 va0 va1 rh po : Addr) (ka kb kc kd ke kf kg kh : ClassId) (j0 j1 : Int32) (ers evs : List Value) (u0 u1 d0 d1 x0 x1 : UInt64) (h0 : Heap) (n0 : Nat) (v : Option Value) (h : Heap) (L : List Loc) : Prop := v = none ∧ Fr n0 L ∧ ∃ (bp : Addr) (kp : ClassId), Keep h0 h [a1] ∧ h0.size ≤ bp ∧ oF Z h a1 "rows" "I" (.int 2) ∧ oF Z h a1 "position" "[I" (.ref po) ∧ oF Z h a1 "infeasibility" "D" (.double 0) ∧ oF Z h a1 "primal" "[D" (.ref bp) ∧ Arv Z h bp kp .double (2 : Int32) [(.double x0), (.double x1)] (.double 0)
set_option maxRecDepth 65536 in
set_option maxHeartbeats 40000000 in
theorem rmRfA (l : Launch) (Z : State) (a0 : Array Value) (hw : ∀ d ∈ tables_1, d.before a0 Z = true) (ws : List Jvm.Cond) (a1 bs er ev r0 r1 va0 va1 rh po : Addr) (ka kb kc kd ke kf kg kh : ClassId) (j0 j1 : Int32) (ers evs : List Value) (u0 u1 d0 d1 x0 x1 : UInt64) (h0 : Heap) (n0 : Nat) (Z0 : n0 ≤ h0.size) (F_a1_rows : oF Z h0 a1 "rows" "I" (.int 2)) (F_a1_entryRows : oF Z h0 a1 "entryRows" "[[I" (.ref er)) (F_a1_entryValues : oF Z h0 a1 "entryValues" "[[D" (.ref ev)) (F_a1_basis : oF Z h0 a1 "basis" "[I" (.ref bs)) (F_a1_rhs : oF Z h0 a1 "rhs" "[D" (.ref rh)) (F_a1_inverse : oF Z h0 a1 "inverse" "[[D" .null) (F_a1_primal : oF Z h0 a1 "primal" "[D" .null) (F_a1_pivotsSinceRefactor : oF Z h0 a1 "pivotsSinceRefactor" "I" (.int 0)) (F_a1_position : oF Z h0 a1 "position" "[I" (.ref po)) (F_a1_infeasibility : oF Z h0 a1 "infeasibility" "D" (.double 0)) (E_a1 : Exa Z h0 a1 "com/example/trunkwright/trunkwright/traffic/RevisedSimplex") (V_bs : Arv Z h0 bs ka .int (2 : Int32) [(.int j0), (.int j1)] (.int 0)) (V_er : Arv Z h0 er kb (.array .int) (16 : Int32) ers .null) (V_ev : Arv Z h0 ev kc (.array .double) (16 : Int32) evs .null) (V_r0 : Arv Z h0 r0 kd .int (1 : Int32) [(.int 1)] (.int 0)) (V_r1 : Arv Z h0 r1 ke .int (1 : Int32) [(.int 0)] (.int 0)) (V_va0 : Arv Z h0 va0 kf .double (1 : Int32) [(.double u0)] (.double 0)) (V_va1 : Arv Z h0 va1 kg .double (1 : Int32) [(.double u1)] (.double 0)) (V_rh : Arv Z h0 rh kh .double (2 : Int32) [(.double d0), (.double d1)] (.double 0)) (ne_rh_a1 : rh ≠ a1) (g_a1 : n0 ≤ a1) (hj0 : ¬ j0 < 0 ∧ j0 < (16 : Int32)) (ur0 : ers.getD j0.toNatClampNeg .null = .ref r0) (uv0 : evs.getD j0.toNatClampNeg .null = .ref va0) (su0 : own_S u0) (sd0 : own_P d0) (hx0 : x0 = FP.ddiv d1 u0) (hj1 : ¬ j1 < 0 ∧ j1 < (16 : Int32)) (ur1 : ers.getD j1.toNatClampNeg .null = .ref r1) (uv1 : evs.getD j1.toNatClampNeg .null = .ref va1) (su1 : own_S u1) (sd1 : own_P d1) (hx1 : x1 = FP.ddiv d0 u1) :
    MetFree l (oN "refactor" "()V") (head1 (Jvm.Cond.code (oN "refactor" "()V") prog_82_method_18_code 7 none :: ws) ({ frames := 1, cells := 7, slots := 14, locals := 25 } : Room)) (fun a U => a = #[(.ref a1)] ∧ Z.Warmed39 U.vm ∧ U.heap = h0) (fun _ _ _ _ _ => True) (fun _ U o U' => ∃ v L, o = .returned v ∧ Q_rmRfA Z a1 bs er ev r0 r1 va0 va1 rh po ka kb kc kd ke kf kg kh j0 j1 ers evs u0 u1 d0 d1 x0 x1 h0 n0 v U'.heap L ∧ FrameEnd U o U' L ({ frames := 1, cells := 7, slots := 14, locals := 25 } : Room).cells ({ frames := 1, cells := 7, slots := 14, locals := 25 } : Room).slots) := by
  refine MetFree.of_bodySF (plainFor_of_name own_pn0) hisR ?_
  intro p e s m args below meth c s₁ Bd hml0 hP hK
  obtain ⟨rfl, hZ, hh⟩ := hP
  have hx := Bd.exec
  have hby := Bd.bytes
  have hml : c.maxLocals = 7 := hml0
  have hown : s.vm.findClass "com/example/trunkwright/trunkwright/traffic/RevisedSimplex" = some m.cls := findClass_of_methodNamed Bd.named
  have hnm := (name_of_methodNamed Bd.named Bd.method).1
  have X0 : Stand p l e ({ frames := 1, cells := 7, slots := 14, locals := 25 } : Room) s m #[(.ref a1)] below meth c s₁ [] 0 0 := Stand.of_body Bd
  have e0 : s₁.heap = h0 := by rw [← hh, Bd.state]; rfl
  have N0 := Fr.nil n0
  have R0 : ∀ t, oG p e below s₁ m 0 #[oR a1, .unset, .unset, .unset, .unset, .unset, .unset] [] t → Steps p.tables e below (s₁.setTop (entryFrame m #[(.ref a1)] 7)) t := fun t k => castTop (own_ef_rmRfA m a1) k
  obtain ⟨AA, hAA⟩ : ∃ z, z = (s₁.setTop (entryFrame m #[(.ref a1)] 7)) := ⟨_, rfl⟩
  rw [← hAA] at R0
  obtain ⟨iv0, hiv0⟩ : ∃ z, z = FP.ddiv (4607182418800017408 : UInt64) u0 := ⟨_, rfl⟩
  have niv0 : oX iv0 := hiv0 ▸ own_Sinv su0
  have nx0 : own_N x0 := hx0 ▸ own_dN sd1 su0
  have mi0 : FP.dmul iv0 d1 = x0 := by rw [hiv0, hx0]; exact own_mi sd1 su0
  obtain ⟨iv1, hiv1⟩ : ∃ z, z = FP.ddiv (4607182418800017408 : UInt64) u1 := ⟨_, rfl⟩
  have niv1 : oX iv1 := hiv1 ▸ own_Sinv su1
  have nx1 : own_N x1 := hx1 ▸ own_dN sd0 su1
  have mi1 : FP.dmul iv1 d0 = x1 := by rw [hiv1, hx1]; exact own_mi sd0 su1
  have R1 : ∀ t, oG p e below s₁ m 1 #[oR a1, .unset, .unset, .unset, .unset, .unset, .unset] [(.ref a1)] t → Steps p.tables e below AA t := by
    intro t k
    refine R0 t ?_
    refine XS.aloadN X0.here hx rfl (hb hby own_d5_0) rfl rfl ?_
    exact k
  obtain ⟨T2, X2, e2, st2⟩ := getF X0 hx hZ hown (host := "") (Or.inl (oW hw 24 rfl)) Via.refl e0 F_a1_rows (g := (mkF m 1 #[oR a1, .unset, .unset, .unset, .unset, .unset, .unset] [(.ref a1)])) rfl rfl (hb hby own_d5_1)
  have R2 := fun t k => R1 t (st2 t k)
  clear R1 st2
  have R3 : ∀ t, oG p e below T2 m 5 #[oR a1, .unset, .unset, .unset, .unset, .unset, .unset] [(.ref a1), (.int 2)] t → Steps p.tables e below AA t := by
    intro t k
    refine R2 t ?_
    refine XS.aloadN X2.here hx rfl (hb hby own_d5_4) rfl rfl ?_
    exact k
  clear R2
  obtain ⟨T4, X4, e4, st4⟩ := getF X2 hx hZ hown (host := "") (Or.inl (oW hw 24 rfl)) Via.refl e2 F_a1_rows (g := (mkF m 5 #[oR a1, .unset, .unset, .unset, .unset, .unset, .unset] [(.ref a1), (.int 2)])) rfl rfl (hb hby own_d5_5)
  have R4 := fun t k => R3 t (st4 t k)
  clear R3 st4 X2 e2
  obtain ⟨x5_0, gx5_0⟩ : ∃ z, z = h0.size + 1 + 0 := ⟨_, rfl⟩
  obtain ⟨x5_1, gx5_1⟩ : ∃ z, z = h0.size + 1 + 1 := ⟨_, rfl⟩
  obtain ⟨T6, h6, k6, c6, X6, e6, E6, A6, O6, B6, I6, st6⟩ := gridM X4 hx hZ (C := "[D") (ad := "[[D") (ty := .double) hown (by decide) (by decide) (oW hw 61 rfl) (oW hw 18 rfl) (oW hw 4 rfl) e4 (g := (mkF m 8 #[oR a1, .unset, .unset, .unset, .unset, .unset, .unset] [(.int 2), (.int 2)])) rfl (hb hby own_d5_8) rfl (by decide) (by decide) (xs := [x5_0, x5_1]) (N := 2) rfl (by subst gx5_0 gx5_1; rfl) (cap := 2) (by decide) (by decide) (by decide) rfl (by decide) (by decide) (by decide)
  obtain ⟨b6, g6⟩ : ∃ z, z = h0.size := ⟨_, rfl⟩
  rw [← g6] at A6 B6 st6
  have R6 := fun t k => R4 t (st6 t k)
  clear R4 st6 X4 e4
  have ge_b6 : h0.size ≤ b6 := (Nat.le_of_eq g6.symm)
  have g_b6 : n0 ≤ b6 := Nat.le_trans Z0 ge_b6
  have sz_b6 : h0.size ≤ b6 := Nat.le_trans (Keep.refl h0 []).1 ge_b6
  have ge_x5_0 : h0.size ≤ x5_0 := (by omega : h0.size ≤ x5_0)
  have ne_b6_x5_0 : b6 ≠ x5_0 := by omega
  have g_x5_0 : n0 ≤ x5_0 := Nat.le_trans Z0 ge_x5_0
  have sz_x5_0 : h0.size ≤ x5_0 := Nat.le_trans (Keep.refl h0 []).1 ge_x5_0
  have ge_x5_1 : h0.size ≤ x5_1 := (by omega : h0.size ≤ x5_1)
  have ne_b6_x5_1 : b6 ≠ x5_1 := by omega
  have ne_x5_0_x5_1 : x5_0 ≠ x5_1 := by omega
  have g_x5_1 : n0 ≤ x5_1 := Nat.le_trans Z0 ge_x5_1
  have sz_x5_1 : h0.size ≤ x5_1 := Nat.le_trans (Keep.refl h0 []).1 ge_x5_1
  have Z6 : n0 ≤ h6.size := Nat.le_trans Z0 E6.1
  have K6 : Keep h0 h6 [] := (Keep.refl h0 []).ext E6
  clear E6
  have V6 : Arv Z h6 b6 k6 (.array .double) (2 : Int32) [(.ref x5_0), (.ref x5_1)] .null := A6
  have Bx5_0 : Exa Z h6 x5_0 "[D" := (I6 0 _ rfl).2
  have Vx5_0 : Arv Z h6 x5_0 c6 .double (2 : Int32) [(.double 0), (.double 0)] (.double 0) := (Arv.new (I6 0 _ rfl).1 (by decide)).pad (pad_rep [] (.double 0) 2)
  have Bx5_1 : Exa Z h6 x5_1 "[D" := (I6 1 _ rfl).2
  have Vx5_1 : Arv Z h6 x5_1 c6 .double (2 : Int32) [(.double 0), (.double 0)] (.double 0) := (Arv.new (I6 1 _ rfl).1 (by decide)).pad (pad_rep [] (.double 0) 2)
  have R7 : ∀ t, oG p e below T6 m 17 #[oR a1, oR b6, oI 0, .unset, .unset, .unset, .unset] [(.ref a1), (.int 0)] t → Steps p.tables e below AA t := by
    intro t k
    refine R6 t ?_
    refine XS.astoreN X6.here hx rfl (hb hby own_d5_12) rfl rfl (l' := #[oR a1, oR b6, .unset, .unset, .unset, .unset, .unset]) rfl ?_
    refine XS.iconst X6.here hx rfl (hb hby own_d5_13) ?_
    refine XS.istoreN X6.here hx rfl (hb hby own_d5_14) rfl (l' := #[oR a1, oR b6, oI 0, .unset, .unset, .unset, .unset]) rfl ?_
    refine XS.iloadN X6.here hx rfl (hb hby own_d5_15) rfl ?_
    refine XS.aloadN X6.here hx rfl (hb hby own_d5_16) rfl rfl ?_
    exact k
  clear R6
  have f8 : oF Z h6 a1 "rows" "I" (.int 2) := F_a1_rows.keep K6 nin0
  obtain ⟨T9, X9, e9, st9⟩ := getF X6 hx hZ hown (host := "") (Or.inl (oW hw 24 rfl)) Via.refl e6 f8 (g := (mkF m 17 #[oR a1, oR b6, oI 0, .unset, .unset, .unset, .unset] [(.ref a1), (.int 0)])) rfl rfl (hb hby own_d5_17)
  have R9 := fun t k => R7 t (st9 t k)
  clear R7 st9 X6 e6
  have R10 : ∀ t, oG p e below T9 m 24 #[oR a1, oR b6, oI 0, .unset, .unset, .unset, .unset] [(.ref a1)] t → Steps p.tables e below AA t := by
    intro t k
    refine R9 t ?_
    refine XS.icmpNo X9.here hx rfl (hb hby own_d5_20) rfl (tlt (by decide : ((0 : Int32) < (2 : Int32)))).2.1 ?_
    refine XS.aloadN X9.here hx rfl (hb hby own_d5_23) rfl rfl ?_
    exact k
  clear R9
  have f11 : oF Z h6 a1 "entryRows" "[[I" (.ref er) := F_a1_entryRows.keep K6 nin0
  obtain ⟨T12, X12, e12, st12⟩ := getF X9 hx hZ hown (host := "") (Or.inl (oW hw 15 rfl)) Via.refl e9 f11 (g := (mkF m 24 #[oR a1, oR b6, oI 0, .unset, .unset, .unset, .unset] [(.ref a1)])) rfl rfl (hb hby own_d5_24)
  have R12 := fun t k => R10 t (st12 t k)
  clear R10 st12 X9 e9
  have R13 : ∀ t, oG p e below T12 m 28 #[oR a1, oR b6, oI 0, .unset, .unset, .unset, .unset] [(.ref a1), (.ref er)] t → Steps p.tables e below AA t := by
    intro t k
    refine R12 t ?_
    refine XS.aloadN X12.here hx rfl (hb hby own_d5_27) rfl rfl ?_
    exact k
  clear R12
  have f14 : oF Z h6 a1 "basis" "[I" (.ref bs) := F_a1_basis.keep K6 nin0
  obtain ⟨T15, X15, e15, st15⟩ := getF X12 hx hZ hown (host := "") (Or.inl (oW hw 53 rfl)) Via.refl e12 f14 (g := (mkF m 28 #[oR a1, oR b6, oI 0, .unset, .unset, .unset, .unset] [(.ref a1), (.ref er)])) rfl rfl (hb hby own_d5_28)
  have R15 := fun t k => R13 t (st15 t k)
  clear R13 st15 X12 e12
  have R16 : ∀ t, oG p e below T15 m 32 #[oR a1, oR b6, oI 0, .unset, .unset, .unset, .unset] [(.int 0), (.ref bs), (.ref er)] t → Steps p.tables e below AA t := by
    intro t k
    refine R15 t ?_
    refine XS.iloadN X15.here hx rfl (hb hby own_d5_31) rfl ?_
    exact k
  clear R15
  have f17 : Arv Z h6 bs ka .int (2 : Int32) [(.int j0), (.int j1)] (.int 0) := V_bs.keep K6 nin0
  obtain ⟨cl18, Ar18, q18, S18, N18', H18, G18⟩ := id f17
  have hin18_0 : ¬ ((0 : Int32) < 0 ∨ cl18.slots.size ≤ ((0 : Int32)).toNatClampNeg) := inb_of S18 ⟨by decide, by decide⟩
  have hat18_0 : cl18.slots[((0 : Int32)).toNatClampNeg]? = some (.int j0) := H18.at hin18_0 rfl
  have R19 : ∀ t, oG p e below T15 m 33 #[oR a1, oR b6, oI 0, .unset, .unset, .unset, .unset] [(.int j0), (.ref er)] t → Steps p.tables e below AA t := by
    intro t k
    refine R16 t ?_
    refine X15.iaload hx (j := (0 : Int32)) (v := (.int j0)) (by rw [e15]; exact Ar18.1) (State.isArrayOf_alike hZ.alike Ar18.2.1) Ar18.2.2 hin18_0 hat18_0 (g := (mkF m 32 #[oR a1, oR b6, oI 0, .unset, .unset, .unset, .unset] [(.int 0), (.ref bs), (.ref er)])) rfl rfl (hb hby own_d5_32) _ ?_
    exact k
  clear R16
  have f20 : Arv Z h6 er kb (.array .int) (16 : Int32) ers .null := V_er.keep K6 nin0
  obtain ⟨cl21, Ar21, q21, S21, N21', H21, G21⟩ := id f20
  have hin21_j0 : ¬ (j0 < 0 ∨ cl21.slots.size ≤ (j0).toNatClampNeg) := inb_of S21 hj0
  have hat21_j0 : cl21.slots[(j0).toNatClampNeg]? = some (.ref r0) := H21.at hin21_j0 ur0
  have R22 : ∀ t, oG p e below T15 m 36 #[oR a1, oR b6, oI 0, oR r0, .unset, .unset, .unset] [(.ref a1)] t → Steps p.tables e below AA t := by
    intro t k
    refine R19 t ?_
    refine X15.aaload hx (j := j0) (v := (.ref r0)) (by rw [e15]; exact Ar21.1) (State.isArrayOf_alike hZ.alike Ar21.2.1) rfl Ar21.2.2 hin21_j0 hat21_j0 (g := (mkF m 33 #[oR a1, oR b6, oI 0, .unset, .unset, .unset, .unset] [(.int j0), (.ref er)])) rfl rfl (hb hby own_d5_33) _ ?_
    refine XS.astoreN X15.here hx rfl (hb hby own_d5_34) rfl rfl (l' := #[oR a1, oR b6, oI 0, oR r0, .unset, .unset, .unset]) rfl ?_
    refine XS.aloadN X15.here hx rfl (hb hby own_d5_35) rfl rfl ?_
    exact k
  clear R19
  have f23 : oF Z h6 a1 "entryValues" "[[D" (.ref ev) := F_a1_entryValues.keep K6 nin0
  obtain ⟨T24, X24, e24, st24⟩ := getF X15 hx hZ hown (host := "") (Or.inl (oW hw 19 rfl)) Via.refl e15 f23 (g := (mkF m 36 #[oR a1, oR b6, oI 0, oR r0, .unset, .unset, .unset] [(.ref a1)])) rfl rfl (hb hby own_d5_36)
  have R24 := fun t k => R22 t (st24 t k)
  clear R22 st24 X15 e15
  have R25 : ∀ t, oG p e below T24 m 40 #[oR a1, oR b6, oI 0, oR r0, .unset, .unset, .unset] [(.ref a1), (.ref ev)] t → Steps p.tables e below AA t := by
    intro t k
    refine R24 t ?_
    refine XS.aloadN X24.here hx rfl (hb hby own_d5_39) rfl rfl ?_
    exact k
  clear R24
  obtain ⟨T26, X26, e26, st26⟩ := getF X24 hx hZ hown (host := "") (Or.inl (oW hw 53 rfl)) Via.refl e24 f14 (g := (mkF m 40 #[oR a1, oR b6, oI 0, oR r0, .unset, .unset, .unset] [(.ref a1), (.ref ev)])) rfl rfl (hb hby own_d5_40)
  have R26 := fun t k => R25 t (st26 t k)
  clear R25 st26 X24 e24
  have R27 : ∀ t, oG p e below T26 m 45 #[oR a1, oR b6, oI 0, oR r0, .unset, .unset, .unset] [(.int j0), (.ref ev)] t → Steps p.tables e below AA t := by
    intro t k
    refine R26 t ?_
    refine XS.iloadN X26.here hx rfl (hb hby own_d5_43) rfl ?_
    refine X26.iaload hx (j := (0 : Int32)) (v := (.int j0)) (by rw [e26]; exact Ar18.1) (State.isArrayOf_alike hZ.alike Ar18.2.1) Ar18.2.2 hin18_0 hat18_0 (g := (mkF m 44 #[oR a1, oR b6, oI 0, oR r0, .unset, .unset, .unset] [(.int 0), (.ref bs), (.ref ev)])) rfl rfl (hb hby own_d5_44) _ ?_
    exact k
  clear R26
  have f28 : Arv Z h6 ev kc (.array .double) (16 : Int32) evs .null := V_ev.keep K6 nin0
  obtain ⟨cl29, Ar29, q29, S29, N29', H29, G29⟩ := id f28
  have hin29_j0 : ¬ (j0 < 0 ∨ cl29.slots.size ≤ (j0).toNatClampNeg) := inb_of S29 hj0
  have hat29_j0 : cl29.slots[(j0).toNatClampNeg]? = some (.ref va0) := H29.at hin29_j0 uv0
  have R30 : ∀ t, oG p e below T26 m 54 #[oR a1, oR b6, oI 0, oR r0, oR va0, oI 0, .unset] [(.ref r0), (.int 0)] t → Steps p.tables e below AA t := by
    intro t k
    refine R27 t ?_
    refine X26.aaload hx (j := j0) (v := (.ref va0)) (by rw [e26]; exact Ar29.1) (State.isArrayOf_alike hZ.alike Ar29.2.1) rfl Ar29.2.2 hin29_j0 hat29_j0 (g := (mkF m 45 #[oR a1, oR b6, oI 0, oR r0, .unset, .unset, .unset] [(.int j0), (.ref ev)])) rfl rfl (hb hby own_d5_45) _ ?_
    refine XS.astore X26.here hx rfl (hb hby own_d5_46) rfl rfl (l' := #[oR a1, oR b6, oI 0, oR r0, oR va0, .unset, .unset]) rfl ?_
    refine XS.iconst X26.here hx rfl (hb hby own_d5_48) ?_
    refine XS.istore X26.here hx rfl (hb hby own_d5_49) rfl (l' := #[oR a1, oR b6, oI 0, oR r0, oR va0, oI 0, .unset]) rfl ?_
    refine XS.iload X26.here hx rfl (hb hby own_d5_51) rfl ?_
    show oG p e below T26 m 53 #[oR a1, oR b6, oI 0, oR r0, oR va0, oI 0, .unset] [(.int 0)] _
    refine XS.aloadN X26.here hx rfl (hb hby own_d5_53) rfl rfl ?_
    exact k
  clear R27
  have f31 : Arv Z h6 r0 kd .int (1 : Int32) [(.int 1)] (.int 0) := V_r0.keep K6 nin0
  obtain ⟨cl32, Ar32, q32, S32, N32', H32, G32⟩ := id f31
  have R33 : ∀ t, oG p e below T26 m 62 #[oR a1, oR b6, oI 0, oR r0, oR va0, oI 0, .unset] [(.int 0), (.ref r0), (.ref b6)] t → Steps p.tables e below AA t := by
    intro t k
    refine R30 t ?_
    refine X26.arraylength hx (by rw [e26]; exact Ar32.1) (State.isArrayOf_alike hZ.alike Ar32.2.1) (g := (mkF m 54 #[oR a1, oR b6, oI 0, oR r0, oR va0, oI 0, .unset] [(.ref r0), (.int 0)])) rfl rfl (hb hby own_d5_54) _ ?_
    rw [len_of S32 N32']
    refine XS.icmpNo X26.here hx rfl (hb hby own_d5_55) rfl (tlt (by decide : ((0 : Int32) < (1 : Int32)))).2.1 ?_
    refine XS.aloadN X26.here hx rfl (hb hby own_d5_58) rfl rfl ?_
    refine XS.aloadN X26.here hx rfl (hb hby own_d5_59) rfl rfl ?_
    refine XS.iload X26.here hx rfl (hb hby own_d5_60) rfl ?_
    exact k
  clear R30
  have hin32_0 : ¬ ((0 : Int32) < 0 ∨ cl32.slots.size ≤ ((0 : Int32)).toNatClampNeg) := inb_of S32 ⟨by decide, by decide⟩
  have hat32_0 : cl32.slots[((0 : Int32)).toNatClampNeg]? = some (.int 1) := H32.at hin32_0 rfl
  have R34 : ∀ t, oG p e below T26 m 63 #[oR a1, oR b6, oI 0, oR r0, oR va0, oI 0, .unset] [(.int 1), (.ref b6)] t → Steps p.tables e below AA t := by
    intro t k
    refine R33 t ?_
    refine X26.iaload hx (j := (0 : Int32)) (v := (.int 1)) (by rw [e26]; exact Ar32.1) (State.isArrayOf_alike hZ.alike Ar32.2.1) Ar32.2.2 hin32_0 hat32_0 (g := (mkF m 62 #[oR a1, oR b6, oI 0, oR r0, oR va0, oI 0, .unset] [(.int 0), (.ref r0), (.ref b6)])) rfl rfl (hb hby own_d5_62) _ ?_
    exact k
  clear R33
  obtain ⟨cl35, Ar35, q35, S35, N35', H35, G35⟩ := id V6
  have hin35_1 : ¬ ((1 : Int32) < 0 ∨ cl35.slots.size ≤ ((1 : Int32)).toNatClampNeg) := inb_of S35 ⟨by decide, by decide⟩
  have hat35_1 : cl35.slots[((1 : Int32)).toNatClampNeg]? = some (.ref x5_1) := H35.at hin35_1 rfl
  have R36 : ∀ t, oG p e below T26 m 69 #[oR a1, oR b6, oI 0, oR r0, oR va0, oI 0, .unset] [(.int 0), (.ref va0), (.int 0), (.ref x5_1)] t → Steps p.tables e below AA t := by
    intro t k
    refine R34 t ?_
    refine X26.aaload hx (j := (1 : Int32)) (v := (.ref x5_1)) (by rw [e26]; exact Ar35.1) (State.isArrayOf_alike hZ.alike Ar35.2.1) rfl Ar35.2.2 hin35_1 hat35_1 (g := (mkF m 63 #[oR a1, oR b6, oI 0, oR r0, oR va0, oI 0, .unset] [(.int 1), (.ref b6)])) rfl rfl (hb hby own_d5_63) _ ?_
    refine XS.iloadN X26.here hx rfl (hb hby own_d5_64) rfl ?_
    refine XS.aload X26.here hx rfl (hb hby own_d5_65) rfl rfl ?_
    refine XS.iload X26.here hx rfl (hb hby own_d5_67) rfl ?_
    exact k
  clear R34
  have f37 : Arv Z h6 va0 kf .double (1 : Int32) [(.double u0)] (.double 0) := V_va0.keep K6 nin0
  obtain ⟨cl38, Ar38, q38, S38, N38', H38, G38⟩ := id f37
  have hin38_0 : ¬ ((0 : Int32) < 0 ∨ cl38.slots.size ≤ ((0 : Int32)).toNatClampNeg) := inb_of S38 ⟨by decide, by decide⟩
  have hat38_0 : cl38.slots[((0 : Int32)).toNatClampNeg]? = some (.double u0) := H38.at hin38_0 rfl
  have R39 : ∀ t, oG p e below T26 m 70 #[oR a1, oR b6, oI 0, oR r0, oR va0, oI 0, .unset] [(.double u0), (.int 0), (.ref x5_1)] t → Steps p.tables e below AA t := by
    intro t k
    refine R36 t ?_
    refine X26.daload hx (j := (0 : Int32)) (v := (.double u0)) (by rw [e26]; exact Ar38.1) (State.isArrayOf_alike hZ.alike Ar38.2.1) Ar38.2.2 hin38_0 hat38_0 (g := (mkF m 69 #[oR a1, oR b6, oI 0, oR r0, oR va0, oI 0, .unset] [(.int 0), (.ref va0), (.int 0), (.ref x5_1)])) rfl rfl (hb hby own_d5_69) _ ?_
    exact k
  clear R36
  obtain ⟨cl40, Ar40, q40, S40, N40', H40, G40⟩ := id Vx5_1
  have hin40 : ¬ ((0 : Int32) < 0 ∨ cl40.slots.size ≤ ((0 : Int32)).toNatClampNeg) := inb_of S40 ⟨by decide, by decide⟩
  obtain ⟨T41, h41, X41, e41, W41, st41⟩ := stD X26 hx hZ e26 Ar40 (j := (0 : Int32)) hin40 (g := (mkF m 70 #[oR a1, oR b6, oI 0, oR r0, oR va0, oI 0, .unset] [(.double u0), (.int 0), (.ref x5_1)])) rfl rfl (hb hby own_d5_70)
  have R41 := fun t k => R39 t (st41 t k)
  clear R39 st41 X26 e26
  have Z41 : n0 ≤ h41.size := Nat.le_trans Z6 (Keep.of_wr W41).1
  clear Z6
  have K41 : Keep h0 h41 [] := K6.wr W41 (Or.inr sz_x5_1)
  have N41 := Fr.snoc X41 N0 g_x5_1
  clear K6
  have f42 : Exa Z h41 b6 "[[D" := B6.wr W41
  have f43 : Arv Z h41 b6 k6 (.array .double) (2 : Int32) [(.ref x5_0), (.ref x5_1)] .null := V6.other W41 ne_b6_x5_1
  clear V6
  have f44 : Exa Z h41 x5_0 "[D" := Bx5_0.wr W41
  have f45 : Arv Z h41 x5_0 c6 .double (2 : Int32) [(.double 0), (.double 0)] (.double 0) := Vx5_0.other W41 ne_x5_0_x5_1
  have f46 : Exa Z h41 x5_1 "[D" := Bx5_1.wr W41
  have V41 : Arv Z h41 x5_1 c6 .double (2 : Int32) [(.double u0), (.double 0)] (.double 0) := Arv.set Ar40 q40 S40 N40' H40 G40 rfl W41 0 rfl (Nat.le_of_ble_eq_true rfl)
  clear Ar40 q40 S40 N40' H40 G40 hin40 W41
  have R47 : ∀ t, oG p e below T41 m 54 #[oR a1, oR b6, oI 0, oR r0, oR va0, oI 1, .unset] [(.ref r0), (.int 1)] t → Steps p.tables e below AA t := by
    intro t k
    refine R41 t ?_
    refine XS.iinc X41.here hx rfl (hb hby own_d5_71) rfl (l' := #[oR a1, oR b6, oI 0, oR r0, oR va0, oI 1, .unset]) rfl ?_
    refine XS.goto X41.here hx rfl (pc0 := 74) (pc' := 51) rfl (hb hby own_d5_74) (by decide) (by decide) ?_
    refine XS.iload X41.here hx rfl (hb hby own_d5_51) rfl ?_
    refine XS.aloadN X41.here hx rfl (hb hby own_d5_53) rfl rfl ?_
    exact k
  clear R41
  have f48 : Arv Z h41 r0 kd .int (1 : Int32) [(.int 1)] (.int 0) := V_r0.keep K41 nin0
  obtain ⟨cl49, Ar49, q49, S49, N49', H49, G49⟩ := id f48
  have R50 : ∀ t, oG p e below T41 m 17 #[oR a1, oR b6, oI 1, oR r0, oR va0, oI 1, .unset] [(.ref a1), (.int 1)] t → Steps p.tables e below AA t := by
    intro t k
    refine R47 t ?_
    refine X41.arraylength hx (by rw [e41]; exact Ar49.1) (State.isArrayOf_alike hZ.alike Ar49.2.1) (g := (mkF m 54 #[oR a1, oR b6, oI 0, oR r0, oR va0, oI 1, .unset] [(.ref r0), (.int 1)])) rfl rfl (hb hby own_d5_54) _ ?_
    rw [len_of S49 N49']
    refine XS.icmpYes X41.here hx rfl (pc0 := 55) (pc' := 77) rfl (hb hby own_d5_55) rfl (flt (by decide : ¬ ((1 : Int32) < (1 : Int32)))).2.1 (by decide) (by decide) ?_
    refine XS.iinc X41.here hx rfl (hb hby own_d5_77) rfl (l' := #[oR a1, oR b6, oI 1, oR r0, oR va0, oI 1, .unset]) rfl ?_
    refine XS.goto X41.here hx rfl (pc0 := 80) (pc' := 15) rfl (hb hby own_d5_80) (by decide) (by decide) ?_
    refine XS.iloadN X41.here hx rfl (hb hby own_d5_15) rfl ?_
    show oG p e below T41 m 16 #[oR a1, oR b6, oI 1, oR r0, oR va0, oI 1, .unset] [(.int 1)] _
    refine XS.aloadN X41.here hx rfl (hb hby own_d5_16) rfl rfl ?_
    exact k
  clear R47
  have f51 : oF Z h41 a1 "rows" "I" (.int 2) := F_a1_rows.keep K41 nin0
  obtain ⟨T52, X52, e52, st52⟩ := getF X41 hx hZ hown (host := "") (Or.inl (oW hw 24 rfl)) Via.refl e41 f51 (g := (mkF m 17 #[oR a1, oR b6, oI 1, oR r0, oR va0, oI 1, .unset] [(.ref a1), (.int 1)])) rfl rfl (hb hby own_d5_17)
  have R52 := fun t k => R50 t (st52 t k)
  clear R50 st52 X41 e41
  have R53 : ∀ t, oG p e below T52 m 24 #[oR a1, oR b6, oI 1, oR r0, oR va0, oI 1, .unset] [(.ref a1)] t → Steps p.tables e below AA t := by
    intro t k
    refine R52 t ?_
    refine XS.icmpNo X52.here hx rfl (hb hby own_d5_20) rfl (tlt (by decide : ((1 : Int32) < (2 : Int32)))).2.1 ?_
    refine XS.aloadN X52.here hx rfl (hb hby own_d5_23) rfl rfl ?_
    exact k
  clear R52
  have f54 : oF Z h41 a1 "entryRows" "[[I" (.ref er) := F_a1_entryRows.keep K41 nin0
  obtain ⟨T55, X55, e55, st55⟩ := getF X52 hx hZ hown (host := "") (Or.inl (oW hw 15 rfl)) Via.refl e52 f54 (g := (mkF m 24 #[oR a1, oR b6, oI 1, oR r0, oR va0, oI 1, .unset] [(.ref a1)])) rfl rfl (hb hby own_d5_24)
  have R55 := fun t k => R53 t (st55 t k)
  clear R53 st55 X52 e52
  have R56 : ∀ t, oG p e below T55 m 28 #[oR a1, oR b6, oI 1, oR r0, oR va0, oI 1, .unset] [(.ref a1), (.ref er)] t → Steps p.tables e below AA t := by
    intro t k
    refine R55 t ?_
    refine XS.aloadN X55.here hx rfl (hb hby own_d5_27) rfl rfl ?_
    exact k
  clear R55
  have f57 : oF Z h41 a1 "basis" "[I" (.ref bs) := F_a1_basis.keep K41 nin0
  obtain ⟨T58, X58, e58, st58⟩ := getF X55 hx hZ hown (host := "") (Or.inl (oW hw 53 rfl)) Via.refl e55 f57 (g := (mkF m 28 #[oR a1, oR b6, oI 1, oR r0, oR va0, oI 1, .unset] [(.ref a1), (.ref er)])) rfl rfl (hb hby own_d5_28)
  have R58 := fun t k => R56 t (st58 t k)
  clear R56 st58 X55 e55
  have R59 : ∀ t, oG p e below T58 m 32 #[oR a1, oR b6, oI 1, oR r0, oR va0, oI 1, .unset] [(.int 1), (.ref bs), (.ref er)] t → Steps p.tables e below AA t := by
    intro t k
    refine R58 t ?_
    refine XS.iloadN X58.here hx rfl (hb hby own_d5_31) rfl ?_
    exact k
  clear R58
  have f60 : Arv Z h41 bs ka .int (2 : Int32) [(.int j0), (.int j1)] (.int 0) := V_bs.keep K41 nin0
  obtain ⟨cl61, Ar61, q61, S61, N61', H61, G61⟩ := id f60
  have hin61_1 : ¬ ((1 : Int32) < 0 ∨ cl61.slots.size ≤ ((1 : Int32)).toNatClampNeg) := inb_of S61 ⟨by decide, by decide⟩
  have hat61_1 : cl61.slots[((1 : Int32)).toNatClampNeg]? = some (.int j1) := H61.at hin61_1 rfl
  have R62 : ∀ t, oG p e below T58 m 33 #[oR a1, oR b6, oI 1, oR r0, oR va0, oI 1, .unset] [(.int j1), (.ref er)] t → Steps p.tables e below AA t := by
    intro t k
    refine R59 t ?_
    refine X58.iaload hx (j := (1 : Int32)) (v := (.int j1)) (by rw [e58]; exact Ar61.1) (State.isArrayOf_alike hZ.alike Ar61.2.1) Ar61.2.2 hin61_1 hat61_1 (g := (mkF m 32 #[oR a1, oR b6, oI 1, oR r0, oR va0, oI 1, .unset] [(.int 1), (.ref bs), (.ref er)])) rfl rfl (hb hby own_d5_32) _ ?_
    exact k
  clear R59
  have f63 : Arv Z h41 er kb (.array .int) (16 : Int32) ers .null := V_er.keep K41 nin0
  obtain ⟨cl64, Ar64, q64, S64, N64', H64, G64⟩ := id f63
  have hin64_j1 : ¬ (j1 < 0 ∨ cl64.slots.size ≤ (j1).toNatClampNeg) := inb_of S64 hj1
  have hat64_j1 : cl64.slots[(j1).toNatClampNeg]? = some (.ref r1) := H64.at hin64_j1 ur1
  have R65 : ∀ t, oG p e below T58 m 36 #[oR a1, oR b6, oI 1, oR r1, oR va0, oI 1, .unset] [(.ref a1)] t → Steps p.tables e below AA t := by
    intro t k
    refine R62 t ?_
    refine X58.aaload hx (j := j1) (v := (.ref r1)) (by rw [e58]; exact Ar64.1) (State.isArrayOf_alike hZ.alike Ar64.2.1) rfl Ar64.2.2 hin64_j1 hat64_j1 (g := (mkF m 33 #[oR a1, oR b6, oI 1, oR r0, oR va0, oI 1, .unset] [(.int j1), (.ref er)])) rfl rfl (hb hby own_d5_33) _ ?_
    refine XS.astoreN X58.here hx rfl (hb hby own_d5_34) rfl rfl (l' := #[oR a1, oR b6, oI 1, oR r1, oR va0, oI 1, .unset]) rfl ?_
    refine XS.aloadN X58.here hx rfl (hb hby own_d5_35) rfl rfl ?_
    exact k
  clear R62
  have f66 : oF Z h41 a1 "entryValues" "[[D" (.ref ev) := F_a1_entryValues.keep K41 nin0
  obtain ⟨T67, X67, e67, st67⟩ := getF X58 hx hZ hown (host := "") (Or.inl (oW hw 19 rfl)) Via.refl e58 f66 (g := (mkF m 36 #[oR a1, oR b6, oI 1, oR r1, oR va0, oI 1, .unset] [(.ref a1)])) rfl rfl (hb hby own_d5_36)
  have R67 := fun t k => R65 t (st67 t k)
  clear R65 st67 X58 e58
  have R68 : ∀ t, oG p e below T67 m 40 #[oR a1, oR b6, oI 1, oR r1, oR va0, oI 1, .unset] [(.ref a1), (.ref ev)] t → Steps p.tables e below AA t := by
    intro t k
    refine R67 t ?_
    refine XS.aloadN X67.here hx rfl (hb hby own_d5_39) rfl rfl ?_
    exact k
  clear R67
  obtain ⟨T69, X69, e69, st69⟩ := getF X67 hx hZ hown (host := "") (Or.inl (oW hw 53 rfl)) Via.refl e67 f57 (g := (mkF m 40 #[oR a1, oR b6, oI 1, oR r1, oR va0, oI 1, .unset] [(.ref a1), (.ref ev)])) rfl rfl (hb hby own_d5_40)
  have R69 := fun t k => R68 t (st69 t k)
  clear R68 st69 X67 e67
  have R70 : ∀ t, oG p e below T69 m 45 #[oR a1, oR b6, oI 1, oR r1, oR va0, oI 1, .unset] [(.int j1), (.ref ev)] t → Steps p.tables e below AA t := by
    intro t k
    refine R69 t ?_
    refine XS.iloadN X69.here hx rfl (hb hby own_d5_43) rfl ?_
    refine X69.iaload hx (j := (1 : Int32)) (v := (.int j1)) (by rw [e69]; exact Ar61.1) (State.isArrayOf_alike hZ.alike Ar61.2.1) Ar61.2.2 hin61_1 hat61_1 (g := (mkF m 44 #[oR a1, oR b6, oI 1, oR r1, oR va0, oI 1, .unset] [(.int 1), (.ref bs), (.ref ev)])) rfl rfl (hb hby own_d5_44) _ ?_
    exact k
  clear R69
  have f71 : Arv Z h41 ev kc (.array .double) (16 : Int32) evs .null := V_ev.keep K41 nin0
  obtain ⟨cl72, Ar72, q72, S72, N72', H72, G72⟩ := id f71
  have hin72_j1 : ¬ (j1 < 0 ∨ cl72.slots.size ≤ (j1).toNatClampNeg) := inb_of S72 hj1
  have hat72_j1 : cl72.slots[(j1).toNatClampNeg]? = some (.ref va1) := H72.at hin72_j1 uv1
  have R73 : ∀ t, oG p e below T69 m 54 #[oR a1, oR b6, oI 1, oR r1, oR va1, oI 0, .unset] [(.ref r1), (.int 0)] t → Steps p.tables e below AA t := by
    intro t k
    refine R70 t ?_
    refine X69.aaload hx (j := j1) (v := (.ref va1)) (by rw [e69]; exact Ar72.1) (State.isArrayOf_alike hZ.alike Ar72.2.1) rfl Ar72.2.2 hin72_j1 hat72_j1 (g := (mkF m 45 #[oR a1, oR b6, oI 1, oR r1, oR va0, oI 1, .unset] [(.int j1), (.ref ev)])) rfl rfl (hb hby own_d5_45) _ ?_
    refine XS.astore X69.here hx rfl (hb hby own_d5_46) rfl rfl (l' := #[oR a1, oR b6, oI 1, oR r1, oR va1, oI 1, .unset]) rfl ?_
    refine XS.iconst X69.here hx rfl (hb hby own_d5_48) ?_
    refine XS.istore X69.here hx rfl (hb hby own_d5_49) rfl (l' := #[oR a1, oR b6, oI 1, oR r1, oR va1, oI 0, .unset]) rfl ?_
    refine XS.iload X69.here hx rfl (hb hby own_d5_51) rfl ?_
    show oG p e below T69 m 53 #[oR a1, oR b6, oI 1, oR r1, oR va1, oI 0, .unset] [(.int 0)] _
    refine XS.aloadN X69.here hx rfl (hb hby own_d5_53) rfl rfl ?_
    exact k
  clear R70
  have f74 : Arv Z h41 r1 ke .int (1 : Int32) [(.int 0)] (.int 0) := V_r1.keep K41 nin0
  obtain ⟨cl75, Ar75, q75, S75, N75', H75, G75⟩ := id f74
  have R76 : ∀ t, oG p e below T69 m 62 #[oR a1, oR b6, oI 1, oR r1, oR va1, oI 0, .unset] [(.int 0), (.ref r1), (.ref b6)] t → Steps p.tables e below AA t := by
    intro t k
    refine R73 t ?_
    refine X69.arraylength hx (by rw [e69]; exact Ar75.1) (State.isArrayOf_alike hZ.alike Ar75.2.1) (g := (mkF m 54 #[oR a1, oR b6, oI 1, oR r1, oR va1, oI 0, .unset] [(.ref r1), (.int 0)])) rfl rfl (hb hby own_d5_54) _ ?_
    rw [len_of S75 N75']
    refine XS.icmpNo X69.here hx rfl (hb hby own_d5_55) rfl (tlt (by decide : ((0 : Int32) < (1 : Int32)))).2.1 ?_
    refine XS.aloadN X69.here hx rfl (hb hby own_d5_58) rfl rfl ?_
    refine XS.aloadN X69.here hx rfl (hb hby own_d5_59) rfl rfl ?_
    refine XS.iload X69.here hx rfl (hb hby own_d5_60) rfl ?_
    exact k
  clear R73
  have hin75_0 : ¬ ((0 : Int32) < 0 ∨ cl75.slots.size ≤ ((0 : Int32)).toNatClampNeg) := inb_of S75 ⟨by decide, by decide⟩
  have hat75_0 : cl75.slots[((0 : Int32)).toNatClampNeg]? = some (.int 0) := H75.at hin75_0 rfl
  have R77 : ∀ t, oG p e below T69 m 63 #[oR a1, oR b6, oI 1, oR r1, oR va1, oI 0, .unset] [(.int 0), (.ref b6)] t → Steps p.tables e below AA t := by
    intro t k
    refine R76 t ?_
    refine X69.iaload hx (j := (0 : Int32)) (v := (.int 0)) (by rw [e69]; exact Ar75.1) (State.isArrayOf_alike hZ.alike Ar75.2.1) Ar75.2.2 hin75_0 hat75_0 (g := (mkF m 62 #[oR a1, oR b6, oI 1, oR r1, oR va1, oI 0, .unset] [(.int 0), (.ref r1), (.ref b6)])) rfl rfl (hb hby own_d5_62) _ ?_
    exact k
  clear R76
  obtain ⟨cl78, Ar78, q78, S78, N78', H78, G78⟩ := id f43
  have hin78_0 : ¬ ((0 : Int32) < 0 ∨ cl78.slots.size ≤ ((0 : Int32)).toNatClampNeg) := inb_of S78 ⟨by decide, by decide⟩
  have hat78_0 : cl78.slots[((0 : Int32)).toNatClampNeg]? = some (.ref x5_0) := H78.at hin78_0 rfl
  have R79 : ∀ t, oG p e below T69 m 69 #[oR a1, oR b6, oI 1, oR r1, oR va1, oI 0, .unset] [(.int 0), (.ref va1), (.int 1), (.ref x5_0)] t → Steps p.tables e below AA t := by
    intro t k
    refine R77 t ?_
    refine X69.aaload hx (j := (0 : Int32)) (v := (.ref x5_0)) (by rw [e69]; exact Ar78.1) (State.isArrayOf_alike hZ.alike Ar78.2.1) rfl Ar78.2.2 hin78_0 hat78_0 (g := (mkF m 63 #[oR a1, oR b6, oI 1, oR r1, oR va1, oI 0, .unset] [(.int 0), (.ref b6)])) rfl rfl (hb hby own_d5_63) _ ?_
    refine XS.iloadN X69.here hx rfl (hb hby own_d5_64) rfl ?_
    refine XS.aload X69.here hx rfl (hb hby own_d5_65) rfl rfl ?_
    refine XS.iload X69.here hx rfl (hb hby own_d5_67) rfl ?_
    exact k
  clear R77
  have f80 : Arv Z h41 va1 kg .double (1 : Int32) [(.double u1)] (.double 0) := V_va1.keep K41 nin0
  obtain ⟨cl81, Ar81, q81, S81, N81', H81, G81⟩ := id f80
  have hin81_0 : ¬ ((0 : Int32) < 0 ∨ cl81.slots.size ≤ ((0 : Int32)).toNatClampNeg) := inb_of S81 ⟨by decide, by decide⟩
  have hat81_0 : cl81.slots[((0 : Int32)).toNatClampNeg]? = some (.double u1) := H81.at hin81_0 rfl
  have R82 : ∀ t, oG p e below T69 m 70 #[oR a1, oR b6, oI 1, oR r1, oR va1, oI 0, .unset] [(.double u1), (.int 1), (.ref x5_0)] t → Steps p.tables e below AA t := by
    intro t k
    refine R79 t ?_
    refine X69.daload hx (j := (0 : Int32)) (v := (.double u1)) (by rw [e69]; exact Ar81.1) (State.isArrayOf_alike hZ.alike Ar81.2.1) Ar81.2.2 hin81_0 hat81_0 (g := (mkF m 69 #[oR a1, oR b6, oI 1, oR r1, oR va1, oI 0, .unset] [(.int 0), (.ref va1), (.int 1), (.ref x5_0)])) rfl rfl (hb hby own_d5_69) _ ?_
    exact k
  clear R79
  obtain ⟨cl83, Ar83, q83, S83, N83', H83, G83⟩ := id f45
  have hin83 : ¬ ((1 : Int32) < 0 ∨ cl83.slots.size ≤ ((1 : Int32)).toNatClampNeg) := inb_of S83 ⟨by decide, by decide⟩
  obtain ⟨T84, h84, X84, e84, W84, st84⟩ := stD X69 hx hZ e69 Ar83 (j := (1 : Int32)) hin83 (g := (mkF m 70 #[oR a1, oR b6, oI 1, oR r1, oR va1, oI 0, .unset] [(.double u1), (.int 1), (.ref x5_0)])) rfl rfl (hb hby own_d5_70)
  have R84 := fun t k => R82 t (st84 t k)
  clear R82 st84 X69 e69
  have Z84 : n0 ≤ h84.size := Nat.le_trans Z41 (Keep.of_wr W84).1
  clear Z41
  have K84 : Keep h0 h84 [] := K41.wr W84 (Or.inr sz_x5_0)
  have N84 := Fr.snoc X84 N41 g_x5_0
  clear K41
  clear N41
  have f85 : Exa Z h84 b6 "[[D" := f42.wr W84
  clear f42
  have f86 : Arv Z h84 b6 k6 (.array .double) (2 : Int32) [(.ref x5_0), (.ref x5_1)] .null := f43.other W84 ne_b6_x5_0
  clear f43
  have f87 : Exa Z h84 x5_0 "[D" := f44.wr W84
  clear f44
  have f88 : Exa Z h84 x5_1 "[D" := f46.wr W84
  clear f46
  have f89 : Arv Z h84 x5_1 c6 .double (2 : Int32) [(.double u0), (.double 0)] (.double 0) := V41.other W84 (Ne.symm ne_x5_0_x5_1)
  clear V41
  have V84 : Arv Z h84 x5_0 c6 .double (2 : Int32) [(.double 0), (.double u1)] (.double 0) := Arv.set Ar83 q83 S83 N83' H83 G83 rfl W84 1 rfl (Nat.le_of_ble_eq_true rfl)
  clear Ar83 q83 S83 N83' H83 G83 hin83 W84 f45
  have R90 : ∀ t, oG p e below T84 m 54 #[oR a1, oR b6, oI 1, oR r1, oR va1, oI 1, .unset] [(.ref r1), (.int 1)] t → Steps p.tables e below AA t := by
    intro t k
    refine R84 t ?_
    refine XS.iinc X84.here hx rfl (hb hby own_d5_71) rfl (l' := #[oR a1, oR b6, oI 1, oR r1, oR va1, oI 1, .unset]) rfl ?_
    refine XS.goto X84.here hx rfl (pc0 := 74) (pc' := 51) rfl (hb hby own_d5_74) (by decide) (by decide) ?_
    refine XS.iload X84.here hx rfl (hb hby own_d5_51) rfl ?_
    refine XS.aloadN X84.here hx rfl (hb hby own_d5_53) rfl rfl ?_
    exact k
  clear R84
  have f91 : Arv Z h84 r1 ke .int (1 : Int32) [(.int 0)] (.int 0) := V_r1.keep K84 nin0
  obtain ⟨cl92, Ar92, q92, S92, N92', H92, G92⟩ := id f91
  have R93 : ∀ t, oG p e below T84 m 17 #[oR a1, oR b6, oI 2, oR r1, oR va1, oI 1, .unset] [(.ref a1), (.int 2)] t → Steps p.tables e below AA t := by
    intro t k
    refine R90 t ?_
    refine X84.arraylength hx (by rw [e84]; exact Ar92.1) (State.isArrayOf_alike hZ.alike Ar92.2.1) (g := (mkF m 54 #[oR a1, oR b6, oI 1, oR r1, oR va1, oI 1, .unset] [(.ref r1), (.int 1)])) rfl rfl (hb hby own_d5_54) _ ?_
    rw [len_of S92 N92']
    refine XS.icmpYes X84.here hx rfl (pc0 := 55) (pc' := 77) rfl (hb hby own_d5_55) rfl (flt (by decide : ¬ ((1 : Int32) < (1 : Int32)))).2.1 (by decide) (by decide) ?_
    refine XS.iinc X84.here hx rfl (hb hby own_d5_77) rfl (l' := #[oR a1, oR b6, oI 2, oR r1, oR va1, oI 1, .unset]) rfl ?_
    refine XS.goto X84.here hx rfl (pc0 := 80) (pc' := 15) rfl (hb hby own_d5_80) (by decide) (by decide) ?_
    refine XS.iloadN X84.here hx rfl (hb hby own_d5_15) rfl ?_
    show oG p e below T84 m 16 #[oR a1, oR b6, oI 2, oR r1, oR va1, oI 1, .unset] [(.int 2)] _
    refine XS.aloadN X84.here hx rfl (hb hby own_d5_16) rfl rfl ?_
    exact k
  clear R90
  have f94 : oF Z h84 a1 "rows" "I" (.int 2) := F_a1_rows.keep K84 nin0
  obtain ⟨T95, X95, e95, st95⟩ := getF X84 hx hZ hown (host := "") (Or.inl (oW hw 24 rfl)) Via.refl e84 f94 (g := (mkF m 17 #[oR a1, oR b6, oI 2, oR r1, oR va1, oI 1, .unset] [(.ref a1), (.int 2)])) rfl rfl (hb hby own_d5_17)
  have R95 := fun t k => R93 t (st95 t k)
  clear R93 st95 X84 e84
  have R96 : ∀ t, oG p e below T95 m 84 #[oR a1, oR b6, oI 2, oR r1, oR va1, oI 1, .unset] [(.ref a1)] t → Steps p.tables e below AA t := by
    intro t k
    refine R95 t ?_
    refine XS.icmpYes X95.here hx rfl (pc0 := 20) (pc' := 83) rfl (hb hby own_d5_20) rfl (flt (by decide : ¬ ((2 : Int32) < (2 : Int32)))).2.1 (by decide) (by decide) ?_
    refine XS.aloadN X95.here hx rfl (hb hby own_d5_83) rfl rfl ?_
    exact k
  clear R95
  obtain ⟨T97, X97, e97, st97⟩ := getF X95 hx hZ hown (host := "") (Or.inl (oW hw 24 rfl)) Via.refl e95 f94 (g := (mkF m 84 #[oR a1, oR b6, oI 2, oR r1, oR va1, oI 1, .unset] [(.ref a1)])) rfl rfl (hb hby own_d5_84)
  have R97 := fun t k => R96 t (st97 t k)
  clear R96 st97 X95 e95
  have R98 : ∀ t, oG p e below T97 m 88 #[oR a1, oR b6, oI 2, oR r1, oR va1, oI 1, .unset] [(.ref a1), (.int 2)] t → Steps p.tables e below AA t := by
    intro t k
    refine R97 t ?_
    refine XS.aloadN X97.here hx rfl (hb hby own_d5_87) rfl rfl ?_
    exact k
  clear R97
  obtain ⟨T99, X99, e99, st99⟩ := getF X97 hx hZ hown (host := "") (Or.inl (oW hw 24 rfl)) Via.refl e97 f94 (g := (mkF m 88 #[oR a1, oR b6, oI 2, oR r1, oR va1, oI 1, .unset] [(.ref a1), (.int 2)])) rfl rfl (hb hby own_d5_88)
  have R99 := fun t k => R98 t (st99 t k)
  clear R98 st99 X97 e97
  obtain ⟨x100_0, gx100_0⟩ : ∃ z, z = h84.size + 1 + 0 := ⟨_, rfl⟩
  obtain ⟨x100_1, gx100_1⟩ : ∃ z, z = h84.size + 1 + 1 := ⟨_, rfl⟩
  obtain ⟨T101, h101, k101, c101, X101, e101, E101, A101, O101, B101, I101, st101⟩ := gridM X99 hx hZ (C := "[D") (ad := "[[D") (ty := .double) hown (by decide) (by decide) (oW hw 61 rfl) (oW hw 18 rfl) (oW hw 4 rfl) e99 (g := (mkF m 91 #[oR a1, oR b6, oI 2, oR r1, oR va1, oI 1, .unset] [(.int 2), (.int 2)])) rfl (hb hby own_d5_91) rfl (by decide) (by decide) (xs := [x100_0, x100_1]) (N := 2) rfl (by subst gx100_0 gx100_1; rfl) (cap := 2) (by decide) (by decide) (by decide) rfl (by decide) (by decide) (by decide)
  obtain ⟨b101, g101⟩ : ∃ z, z = h84.size := ⟨_, rfl⟩
  rw [← g101] at A101 B101 st101
  have R101 := fun t k => R99 t (st101 t k)
  clear R99 st101 X99 e99
  have ge_b101 : h84.size ≤ b101 := (Nat.le_of_eq g101.symm)
  have ne_b6_b101 : b6 ≠ b101 := Nat.ne_of_lt (Nat.lt_of_lt_of_le f85.lt ge_b101)
  have ne_x5_0_b101 : x5_0 ≠ b101 := Nat.ne_of_lt (Nat.lt_of_lt_of_le f87.lt ge_b101)
  have ne_x5_1_b101 : x5_1 ≠ b101 := Nat.ne_of_lt (Nat.lt_of_lt_of_le f88.lt ge_b101)
  have g_b101 : n0 ≤ b101 := Nat.le_trans Z84 ge_b101
  have sz_b101 : h0.size ≤ b101 := Nat.le_trans K84.1 ge_b101
  have ge_x100_0 : h84.size ≤ x100_0 := (by omega : h84.size ≤ x100_0)
  have ne_b6_x100_0 : b6 ≠ x100_0 := Nat.ne_of_lt (Nat.lt_of_lt_of_le f85.lt ge_x100_0)
  have ne_x5_0_x100_0 : x5_0 ≠ x100_0 := Nat.ne_of_lt (Nat.lt_of_lt_of_le f87.lt ge_x100_0)
  have ne_x5_1_x100_0 : x5_1 ≠ x100_0 := Nat.ne_of_lt (Nat.lt_of_lt_of_le f88.lt ge_x100_0)
  have ne_b101_x100_0 : b101 ≠ x100_0 := by omega
  have g_x100_0 : n0 ≤ x100_0 := Nat.le_trans Z84 ge_x100_0
  have sz_x100_0 : h0.size ≤ x100_0 := Nat.le_trans K84.1 ge_x100_0
  have ge_x100_1 : h84.size ≤ x100_1 := (by omega : h84.size ≤ x100_1)
  have ne_b6_x100_1 : b6 ≠ x100_1 := Nat.ne_of_lt (Nat.lt_of_lt_of_le f85.lt ge_x100_1)
  have ne_x5_0_x100_1 : x5_0 ≠ x100_1 := Nat.ne_of_lt (Nat.lt_of_lt_of_le f87.lt ge_x100_1)
  have ne_x5_1_x100_1 : x5_1 ≠ x100_1 := Nat.ne_of_lt (Nat.lt_of_lt_of_le f88.lt ge_x100_1)
  have ne_b101_x100_1 : b101 ≠ x100_1 := by omega
  have ne_x100_0_x100_1 : x100_0 ≠ x100_1 := by omega
  have g_x100_1 : n0 ≤ x100_1 := Nat.le_trans Z84 ge_x100_1
  have sz_x100_1 : h0.size ≤ x100_1 := Nat.le_trans K84.1 ge_x100_1
  have Z101 : n0 ≤ h101.size := Nat.le_trans Z84 E101.1
  clear Z84
  have K101 : Keep h0 h101 [] := K84.ext E101
  clear K84
  have f102 : Exa Z h101 b6 "[[D" := f85.ext E101
  clear f85
  have f103 : Arv Z h101 b6 k6 (.array .double) (2 : Int32) [(.ref x5_0), (.ref x5_1)] .null := f86.ext E101
  clear f86
  have f104 : Exa Z h101 x5_0 "[D" := f87.ext E101
  clear f87
  have f105 : Exa Z h101 x5_1 "[D" := f88.ext E101
  clear f88
  have f106 : Arv Z h101 x5_1 c6 .double (2 : Int32) [(.double u0), (.double 0)] (.double 0) := f89.ext E101
  clear f89
  have f107 : Arv Z h101 x5_0 c6 .double (2 : Int32) [(.double 0), (.double u1)] (.double 0) := V84.ext E101
  clear V84
  clear E101
  have V101 : Arv Z h101 b101 k101 (.array .double) (2 : Int32) [(.ref x100_0), (.ref x100_1)] .null := A101
  have Bx100_0 : Exa Z h101 x100_0 "[D" := (I101 0 _ rfl).2
  have Vx100_0 : Arv Z h101 x100_0 c101 .double (2 : Int32) [(.double 0), (.double 0)] (.double 0) := (Arv.new (I101 0 _ rfl).1 (by decide)).pad (pad_rep [] (.double 0) 2)
  have Bx100_1 : Exa Z h101 x100_1 "[D" := (I101 1 _ rfl).2
  have Vx100_1 : Arv Z h101 x100_1 c101 .double (2 : Int32) [(.double 0), (.double 0)] (.double 0) := (Arv.new (I101 1 _ rfl).1 (by decide)).pad (pad_rep [] (.double 0) 2)
  have R108 : ∀ t, oG p e below T101 m 100 #[oR a1, oR b6, oR b101, oI 0, oR va1, oI 1, .unset] [(.ref a1), (.int 0)] t → Steps p.tables e below AA t := by
    intro t k
    refine R101 t ?_
    refine XS.astoreN X101.here hx rfl (hb hby own_d5_95) rfl rfl (l' := #[oR a1, oR b6, oR b101, oR r1, oR va1, oI 1, .unset]) rfl ?_
    refine XS.iconst X101.here hx rfl (hb hby own_d5_96) ?_
    refine XS.istoreN X101.here hx rfl (hb hby own_d5_97) rfl (l' := #[oR a1, oR b6, oR b101, oI 0, oR va1, oI 1, .unset]) rfl ?_
    refine XS.iloadN X101.here hx rfl (hb hby own_d5_98) rfl ?_
    refine XS.aloadN X101.here hx rfl (hb hby own_d5_99) rfl rfl ?_
    exact k
  clear R101
  have f109 : oF Z h101 a1 "rows" "I" (.int 2) := F_a1_rows.keep K101 nin0
  obtain ⟨T110, X110, e110, st110⟩ := getF X101 hx hZ hown (host := "") (Or.inl (oW hw 24 rfl)) Via.refl e101 f109 (g := (mkF m 100 #[oR a1, oR b6, oR b101, oI 0, oR va1, oI 1, .unset] [(.ref a1), (.int 0)])) rfl rfl (hb hby own_d5_100)
  have R110 := fun t k => R108 t (st110 t k)
  clear R108 st110 X101 e101
  have R111 : ∀ t, oG p e below T110 m 108 #[oR a1, oR b6, oR b101, oI 0, oR va1, oI 1, .unset] [(.int 0), (.ref b101)] t → Steps p.tables e below AA t := by
    intro t k
    refine R110 t ?_
    refine XS.icmpNo X110.here hx rfl (hb hby own_d5_103) rfl (tlt (by decide : ((0 : Int32) < (2 : Int32)))).2.1 ?_
    refine XS.aloadN X110.here hx rfl (hb hby own_d5_106) rfl rfl ?_
    refine XS.iloadN X110.here hx rfl (hb hby own_d5_107) rfl ?_
    exact k
  clear R110
  obtain ⟨cl112, Ar112, q112, S112, N112', H112, G112⟩ := id V101
  have hin112_0 : ¬ ((0 : Int32) < 0 ∨ cl112.slots.size ≤ ((0 : Int32)).toNatClampNeg) := inb_of S112 ⟨by decide, by decide⟩
  have hat112_0 : cl112.slots[((0 : Int32)).toNatClampNeg]? = some (.ref x100_0) := H112.at hin112_0 rfl
  have R113 : ∀ t, oG p e below T110 m 111 #[oR a1, oR b6, oR b101, oI 0, oR va1, oI 1, .unset] [(.double 4607182418800017408), (.int 0), (.ref x100_0)] t → Steps p.tables e below AA t := by
    intro t k
    refine R111 t ?_
    refine X110.aaload hx (j := (0 : Int32)) (v := (.ref x100_0)) (by rw [e110]; exact Ar112.1) (State.isArrayOf_alike hZ.alike Ar112.2.1) rfl Ar112.2.2 hin112_0 hat112_0 (g := (mkF m 108 #[oR a1, oR b6, oR b101, oI 0, oR va1, oI 1, .unset] [(.int 0), (.ref b101)])) rfl rfl (hb hby own_d5_108) _ ?_
    refine XS.iloadN X110.here hx rfl (hb hby own_d5_109) rfl ?_
    refine XS.dconst1 X110.here hx rfl (hb hby own_d5_110) (v := (4607182418800017408 : UInt64)) (by decide +kernel) ?_
    exact k
  clear R111
  obtain ⟨cl114, Ar114, q114, S114, N114', H114, G114⟩ := id Vx100_0
  have hin114 : ¬ ((0 : Int32) < 0 ∨ cl114.slots.size ≤ ((0 : Int32)).toNatClampNeg) := inb_of S114 ⟨by decide, by decide⟩
  obtain ⟨T115, h115, X115, e115, W115, st115⟩ := stD X110 hx hZ e110 Ar114 (j := (0 : Int32)) hin114 (g := (mkF m 111 #[oR a1, oR b6, oR b101, oI 0, oR va1, oI 1, .unset] [(.double 4607182418800017408), (.int 0), (.ref x100_0)])) rfl rfl (hb hby own_d5_111)
  have R115 := fun t k => R113 t (st115 t k)
  clear R113 st115 X110 e110
  have Z115 : n0 ≤ h115.size := Nat.le_trans Z101 (Keep.of_wr W115).1
  clear Z101
  have K115 : Keep h0 h115 [] := K101.wr W115 (Or.inr sz_x100_0)
  have N115 := Fr.snoc X115 N84 g_x100_0
  clear K101
  clear N84
  have f116 : Exa Z h115 b6 "[[D" := f102.wr W115
  clear f102
  have f117 : Arv Z h115 b6 k6 (.array .double) (2 : Int32) [(.ref x5_0), (.ref x5_1)] .null := f103.other W115 ne_b6_x100_0
  clear f103
  have f118 : Exa Z h115 x5_0 "[D" := f104.wr W115
  clear f104
  have f119 : Exa Z h115 x5_1 "[D" := f105.wr W115
  clear f105
  have f120 : Arv Z h115 x5_1 c6 .double (2 : Int32) [(.double u0), (.double 0)] (.double 0) := f106.other W115 ne_x5_1_x100_0
  clear f106
  have f121 : Arv Z h115 x5_0 c6 .double (2 : Int32) [(.double 0), (.double u1)] (.double 0) := f107.other W115 ne_x5_0_x100_0
  clear f107
  have f122 : Exa Z h115 b101 "[[D" := B101.wr W115
  have f123 : Arv Z h115 b101 k101 (.array .double) (2 : Int32) [(.ref x100_0), (.ref x100_1)] .null := V101.other W115 ne_b101_x100_0
  clear V101
  have f124 : Exa Z h115 x100_0 "[D" := Bx100_0.wr W115
  have f125 : Exa Z h115 x100_1 "[D" := Bx100_1.wr W115
  have f126 : Arv Z h115 x100_1 c101 .double (2 : Int32) [(.double 0), (.double 0)] (.double 0) := Vx100_1.other W115 (Ne.symm ne_x100_0_x100_1)
  have V115 : Arv Z h115 x100_0 c101 .double (2 : Int32) [(.double 4607182418800017408), (.double 0)] (.double 0) := Arv.set Ar114 q114 S114 N114' H114 G114 rfl W115 0 rfl (Nat.le_of_ble_eq_true rfl)
  clear Ar114 q114 S114 N114' H114 G114 hin114 W115
  have R127 : ∀ t, oG p e below T115 m 100 #[oR a1, oR b6, oR b101, oI 1, oR va1, oI 1, .unset] [(.ref a1), (.int 1)] t → Steps p.tables e below AA t := by
    intro t k
    refine R115 t ?_
    refine XS.iinc X115.here hx rfl (hb hby own_d5_112) rfl (l' := #[oR a1, oR b6, oR b101, oI 1, oR va1, oI 1, .unset]) rfl ?_
    refine XS.goto X115.here hx rfl (pc0 := 115) (pc' := 98) rfl (hb hby own_d5_115) (by decide) (by decide) ?_
    refine XS.iloadN X115.here hx rfl (hb hby own_d5_98) rfl ?_
    refine XS.aloadN X115.here hx rfl (hb hby own_d5_99) rfl rfl ?_
    exact k
  clear R115
  have f128 : oF Z h115 a1 "rows" "I" (.int 2) := F_a1_rows.keep K115 nin0
  obtain ⟨T129, X129, e129, st129⟩ := getF X115 hx hZ hown (host := "") (Or.inl (oW hw 24 rfl)) Via.refl e115 f128 (g := (mkF m 100 #[oR a1, oR b6, oR b101, oI 1, oR va1, oI 1, .unset] [(.ref a1), (.int 1)])) rfl rfl (hb hby own_d5_100)
  have R129 := fun t k => R127 t (st129 t k)
  clear R127 st129 X115 e115
  have R130 : ∀ t, oG p e below T129 m 108 #[oR a1, oR b6, oR b101, oI 1, oR va1, oI 1, .unset] [(.int 1), (.ref b101)] t → Steps p.tables e below AA t := by
    intro t k
    refine R129 t ?_
    refine XS.icmpNo X129.here hx rfl (hb hby own_d5_103) rfl (tlt (by decide : ((1 : Int32) < (2 : Int32)))).2.1 ?_
    refine XS.aloadN X129.here hx rfl (hb hby own_d5_106) rfl rfl ?_
    refine XS.iloadN X129.here hx rfl (hb hby own_d5_107) rfl ?_
    exact k
  clear R129
  obtain ⟨cl131, Ar131, q131, S131, N131', H131, G131⟩ := id f123
  have hin131_1 : ¬ ((1 : Int32) < 0 ∨ cl131.slots.size ≤ ((1 : Int32)).toNatClampNeg) := inb_of S131 ⟨by decide, by decide⟩
  have hat131_1 : cl131.slots[((1 : Int32)).toNatClampNeg]? = some (.ref x100_1) := H131.at hin131_1 rfl
  have R132 : ∀ t, oG p e below T129 m 111 #[oR a1, oR b6, oR b101, oI 1, oR va1, oI 1, .unset] [(.double 4607182418800017408), (.int 1), (.ref x100_1)] t → Steps p.tables e below AA t := by
    intro t k
    refine R130 t ?_
    refine X129.aaload hx (j := (1 : Int32)) (v := (.ref x100_1)) (by rw [e129]; exact Ar131.1) (State.isArrayOf_alike hZ.alike Ar131.2.1) rfl Ar131.2.2 hin131_1 hat131_1 (g := (mkF m 108 #[oR a1, oR b6, oR b101, oI 1, oR va1, oI 1, .unset] [(.int 1), (.ref b101)])) rfl rfl (hb hby own_d5_108) _ ?_
    refine XS.iloadN X129.here hx rfl (hb hby own_d5_109) rfl ?_
    refine XS.dconst1 X129.here hx rfl (hb hby own_d5_110) (v := (4607182418800017408 : UInt64)) (by decide +kernel) ?_
    exact k
  clear R130
  obtain ⟨cl133, Ar133, q133, S133, N133', H133, G133⟩ := id f126
  have hin133 : ¬ ((1 : Int32) < 0 ∨ cl133.slots.size ≤ ((1 : Int32)).toNatClampNeg) := inb_of S133 ⟨by decide, by decide⟩
  obtain ⟨T134, h134, X134, e134, W134, st134⟩ := stD X129 hx hZ e129 Ar133 (j := (1 : Int32)) hin133 (g := (mkF m 111 #[oR a1, oR b6, oR b101, oI 1, oR va1, oI 1, .unset] [(.double 4607182418800017408), (.int 1), (.ref x100_1)])) rfl rfl (hb hby own_d5_111)
  have R134 := fun t k => R132 t (st134 t k)
  clear R132 st134 X129 e129
  have Z134 : n0 ≤ h134.size := Nat.le_trans Z115 (Keep.of_wr W134).1
  clear Z115
  have K134 : Keep h0 h134 [] := K115.wr W134 (Or.inr sz_x100_1)
  have N134 := Fr.snoc X134 N115 g_x100_1
  clear K115
  clear N115
  have f135 : Exa Z h134 b6 "[[D" := f116.wr W134
  clear f116
  have f136 : Arv Z h134 b6 k6 (.array .double) (2 : Int32) [(.ref x5_0), (.ref x5_1)] .null := f117.other W134 ne_b6_x100_1
  clear f117
  have f137 : Exa Z h134 x5_0 "[D" := f118.wr W134
  clear f118
  have f138 : Exa Z h134 x5_1 "[D" := f119.wr W134
  clear f119
  have f139 : Arv Z h134 x5_1 c6 .double (2 : Int32) [(.double u0), (.double 0)] (.double 0) := f120.other W134 ne_x5_1_x100_1
  clear f120
  have f140 : Arv Z h134 x5_0 c6 .double (2 : Int32) [(.double 0), (.double u1)] (.double 0) := f121.other W134 ne_x5_0_x100_1
  clear f121
  have f141 : Exa Z h134 b101 "[[D" := f122.wr W134
  clear f122
  have f142 : Arv Z h134 b101 k101 (.array .double) (2 : Int32) [(.ref x100_0), (.ref x100_1)] .null := f123.other W134 ne_b101_x100_1
  clear f123
  have f143 : Exa Z h134 x100_0 "[D" := f124.wr W134
  clear f124
  have f144 : Exa Z h134 x100_1 "[D" := f125.wr W134
  clear f125
  have f145 : Arv Z h134 x100_0 c101 .double (2 : Int32) [(.double 4607182418800017408), (.double 0)] (.double 0) := V115.other W134 ne_x100_0_x100_1
  clear V115
  have V134 : Arv Z h134 x100_1 c101 .double (2 : Int32) [(.double 0), (.double 4607182418800017408)] (.double 0) := Arv.set Ar133 q133 S133 N133' H133 G133 rfl W134 1 rfl (Nat.le_of_ble_eq_true rfl)
  clear Ar133 q133 S133 N133' H133 G133 hin133 W134 f126
  have R146 : ∀ t, oG p e below T134 m 100 #[oR a1, oR b6, oR b101, oI 2, oR va1, oI 1, .unset] [(.ref a1), (.int 2)] t → Steps p.tables e below AA t := by
    intro t k
    refine R134 t ?_
    refine XS.iinc X134.here hx rfl (hb hby own_d5_112) rfl (l' := #[oR a1, oR b6, oR b101, oI 2, oR va1, oI 1, .unset]) rfl ?_
    refine XS.goto X134.here hx rfl (pc0 := 115) (pc' := 98) rfl (hb hby own_d5_115) (by decide) (by decide) ?_
    refine XS.iloadN X134.here hx rfl (hb hby own_d5_98) rfl ?_
    refine XS.aloadN X134.here hx rfl (hb hby own_d5_99) rfl rfl ?_
    exact k
  clear R134
  have f147 : oF Z h134 a1 "rows" "I" (.int 2) := F_a1_rows.keep K134 nin0
  obtain ⟨T148, X148, e148, st148⟩ := getF X134 hx hZ hown (host := "") (Or.inl (oW hw 24 rfl)) Via.refl e134 f147 (g := (mkF m 100 #[oR a1, oR b6, oR b101, oI 2, oR va1, oI 1, .unset] [(.ref a1), (.int 2)])) rfl rfl (hb hby own_d5_100)
  have R148 := fun t k => R146 t (st148 t k)
  clear R146 st148 X134 e134
  have R149 : ∀ t, oG p e below T148 m 122 #[oR a1, oR b6, oR b101, oI 0, oR va1, oI 1, .unset] [(.ref a1), (.int 0)] t → Steps p.tables e below AA t := by
    intro t k
    refine R148 t ?_
    refine XS.icmpYes X148.here hx rfl (pc0 := 103) (pc' := 118) rfl (hb hby own_d5_103) rfl (flt (by decide : ¬ ((2 : Int32) < (2 : Int32)))).2.1 (by decide) (by decide) ?_
    refine XS.iconst X148.here hx rfl (hb hby own_d5_118) ?_
    refine XS.istoreN X148.here hx rfl (hb hby own_d5_119) rfl (l' := #[oR a1, oR b6, oR b101, oI 0, oR va1, oI 1, .unset]) rfl ?_
    refine XS.iloadN X148.here hx rfl (hb hby own_d5_120) rfl ?_
    refine XS.aloadN X148.here hx rfl (hb hby own_d5_121) rfl rfl ?_
    exact k
  clear R148
  obtain ⟨T150, X150, e150, st150⟩ := getF X148 hx hZ hown (host := "") (Or.inl (oW hw 24 rfl)) Via.refl e148 f147 (g := (mkF m 122 #[oR a1, oR b6, oR b101, oI 0, oR va1, oI 1, .unset] [(.ref a1), (.int 0)])) rfl rfl (hb hby own_d5_122)
  have R150 := fun t k => R149 t (st150 t k)
  clear R149 st150 X148 e148
  have R151 : ∀ t, oG p e below T150 m 139 #[oR a1, oR b6, oR b101, oI 0, oI 0, oI 1, .unset] [(.ref a1), (.int 1)] t → Steps p.tables e below AA t := by
    intro t k
    refine R150 t ?_
    refine XS.icmpNo X150.here hx rfl (hb hby own_d5_125) rfl (tlt (by decide : ((0 : Int32) < (2 : Int32)))).2.1 ?_
    refine XS.iloadN X150.here hx rfl (hb hby own_d5_128) rfl ?_
    refine XS.istore X150.here hx rfl (hb hby own_d5_129) rfl (l' := #[oR a1, oR b6, oR b101, oI 0, oI 0, oI 1, .unset]) rfl ?_
    refine XS.iloadN X150.here hx rfl (hb hby own_d5_131) rfl ?_
    refine XS.iconst X150.here hx rfl (hb hby own_d5_132) ?_
    show oG p e below T150 m 133 #[oR a1, oR b6, oR b101, oI 0, oI 0, oI 1, .unset] [(.int 1), (.int 0)] _
    refine XS.iadd X150.here hx rfl (hb hby own_d5_133) rfl ?_
    refine XS.istore X150.here hx rfl (hb hby own_d5_134) rfl (l' := #[oR a1, oR b6, oR b101, oI 0, oI 0, oI 1, .unset]) rfl ?_
    refine XS.iload X150.here hx rfl (hb hby own_d5_136) rfl ?_
    refine XS.aloadN X150.here hx rfl (hb hby own_d5_138) rfl rfl ?_
    exact k
  clear R150
  obtain ⟨T152, X152, e152, st152⟩ := getF X150 hx hZ hown (host := "") (Or.inl (oW hw 24 rfl)) Via.refl e150 f147 (g := (mkF m 139 #[oR a1, oR b6, oR b101, oI 0, oI 0, oI 1, .unset] [(.ref a1), (.int 1)])) rfl rfl (hb hby own_d5_139)
  have R152 := fun t k => R151 t (st152 t k)
  clear R151 st152 X150 e150
  have R153 : ∀ t, oG p e below T152 m 148 #[oR a1, oR b6, oR b101, oI 0, oI 0, oI 1, .unset] [(.int 1), (.ref b6)] t → Steps p.tables e below AA t := by
    intro t k
    refine R152 t ?_
    refine XS.icmpNo X152.here hx rfl (hb hby own_d5_142) rfl (tlt (by decide : ((1 : Int32) < (2 : Int32)))).2.1 ?_
    refine XS.aloadN X152.here hx rfl (hb hby own_d5_145) rfl rfl ?_
    refine XS.iload X152.here hx rfl (hb hby own_d5_146) rfl ?_
    exact k
  clear R152
  obtain ⟨cl154, Ar154, q154, S154, N154', H154, G154⟩ := id f136
  have hin154_1 : ¬ ((1 : Int32) < 0 ∨ cl154.slots.size ≤ ((1 : Int32)).toNatClampNeg) := inb_of S154 ⟨by decide, by decide⟩
  have hat154_1 : cl154.slots[((1 : Int32)).toNatClampNeg]? = some (.ref x5_1) := H154.at hin154_1 rfl
  have R155 : ∀ t, oG p e below T152 m 150 #[oR a1, oR b6, oR b101, oI 0, oI 0, oI 1, .unset] [(.int 0), (.ref x5_1)] t → Steps p.tables e below AA t := by
    intro t k
    refine R153 t ?_
    refine X152.aaload hx (j := (1 : Int32)) (v := (.ref x5_1)) (by rw [e152]; exact Ar154.1) (State.isArrayOf_alike hZ.alike Ar154.2.1) rfl Ar154.2.2 hin154_1 hat154_1 (g := (mkF m 148 #[oR a1, oR b6, oR b101, oI 0, oI 0, oI 1, .unset] [(.int 1), (.ref b6)])) rfl rfl (hb hby own_d5_148) _ ?_
    refine XS.iloadN X152.here hx rfl (hb hby own_d5_149) rfl ?_
    exact k
  clear R153
  obtain ⟨cl156, Ar156, q156, S156, N156', H156, G156⟩ := id f139
  have hin156_0 : ¬ ((0 : Int32) < 0 ∨ cl156.slots.size ≤ ((0 : Int32)).toNatClampNeg) := inb_of S156 ⟨by decide, by decide⟩
  have hat156_0 : cl156.slots[((0 : Int32)).toNatClampNeg]? = some (.double u0) := H156.at hin156_0 rfl
  have R157 : ∀ t, oG p e below T152 m 151 #[oR a1, oR b6, oR b101, oI 0, oI 0, oI 1, .unset] [(.double u0)] t → Steps p.tables e below AA t := by
    intro t k
    refine R155 t ?_
    refine X152.daload hx (j := (0 : Int32)) (v := (.double u0)) (by rw [e152]; exact Ar156.1) (State.isArrayOf_alike hZ.alike Ar156.2.1) Ar156.2.2 hin156_0 hat156_0 (g := (mkF m 150 #[oR a1, oR b6, oR b101, oI 0, oI 0, oI 1, .unset] [(.int 0), (.ref x5_1)])) rfl rfl (hb hby own_d5_150) _ ?_
    exact k
  clear R155
  obtain ⟨_, v158, _, -, X158, ⟨rfl, rfl⟩, st158⟩ := Jvm.LawKit.callS X152 hx (y := (⟨"java/lang/Math", "abs", "(D)D"⟩ : MethodName)) hown (mvT hZ (oW hw 62 rfl)) (mvT hZ (oW hw 63 rfl)) (mvT hZ (oW hw 64 rfl)) (mvT hZ (oW hw 65 rfl)) (by decide) (Jvm.Free.Fl.Abs.absD_pays (W := 0) u0 (mvT hZ (oW hw 65 rfl)) (by decide) (by decide)) (g := (mkF m 151 #[oR a1, oR b6, oR b101, oI 0, oI 0, oI 1, .unset] [(.double u0)])) rfl (by rw [hml]; rfl) (argsL := [(.double u0)]) (rest := []) (lenOf own_pd5 rfl) rfl oL (hb hby own_d5_151) (fun _ _ => ⟨(by decide : 6 ≤ _), (by decide : 12 ≤ _), rfl, (own_Sn su0)⟩)
  dsimp only [Pt.U, Pt.locs, Pt.cells, Pt.slots] at X158 st158
  have e158 : (T152.setVm v158).heap = h134 := e152
  generalize T152.setVm v158 = T158 at X158 st158 e158
  rw [(own_Sabs su0)] at st158
  have R158 := fun t k => R157 t (st158 t k)
  clear R157 st158 X152 e152
  have R159 : ∀ t, oG p e below T158 m 157 #[oR a1, oR b6, oR b101, oI 0, oI 0, oI 1, .unset] [(.int 0), (.ref b6), (.double u0)] t → Steps p.tables e below AA t := by
    intro t k
    refine R158 t ?_
    refine XS.aloadN X158.here hx rfl (hb hby own_d5_154) rfl rfl ?_
    refine XS.iload X158.here hx rfl (hb hby own_d5_155) rfl ?_
    exact k
  clear R158
  have hin154_0 : ¬ ((0 : Int32) < 0 ∨ cl154.slots.size ≤ ((0 : Int32)).toNatClampNeg) := inb_of S154 ⟨by decide, by decide⟩
  have hat154_0 : cl154.slots[((0 : Int32)).toNatClampNeg]? = some (.ref x5_0) := H154.at hin154_0 rfl
  have R160 : ∀ t, oG p e below T158 m 159 #[oR a1, oR b6, oR b101, oI 0, oI 0, oI 1, .unset] [(.int 0), (.ref x5_0), (.double u0)] t → Steps p.tables e below AA t := by
    intro t k
    refine R159 t ?_
    refine X158.aaload hx (j := (0 : Int32)) (v := (.ref x5_0)) (by rw [e158]; exact Ar154.1) (State.isArrayOf_alike hZ.alike Ar154.2.1) rfl Ar154.2.2 hin154_0 hat154_0 (g := (mkF m 157 #[oR a1, oR b6, oR b101, oI 0, oI 0, oI 1, .unset] [(.int 0), (.ref b6), (.double u0)])) rfl rfl (hb hby own_d5_157) _ ?_
    refine XS.iloadN X158.here hx rfl (hb hby own_d5_158) rfl ?_
    exact k
  clear R159
  obtain ⟨cl161, Ar161, q161, S161, N161', H161, G161⟩ := id f140
  have hin161_0 : ¬ ((0 : Int32) < 0 ∨ cl161.slots.size ≤ ((0 : Int32)).toNatClampNeg) := inb_of S161 ⟨by decide, by decide⟩
  have hat161_0 : cl161.slots[((0 : Int32)).toNatClampNeg]? = some (.double 0) := H161.at hin161_0 rfl
  have R162 : ∀ t, oG p e below T158 m 160 #[oR a1, oR b6, oR b101, oI 0, oI 0, oI 1, .unset] [(.double 0), (.double u0)] t → Steps p.tables e below AA t := by
    intro t k
    refine R160 t ?_
    refine X158.daload hx (j := (0 : Int32)) (v := (.double 0)) (by rw [e158]; exact Ar161.1) (State.isArrayOf_alike hZ.alike Ar161.2.1) Ar161.2.2 hin161_0 hat161_0 (g := (mkF m 159 #[oR a1, oR b6, oR b101, oI 0, oI 0, oI 1, .unset] [(.int 0), (.ref x5_0), (.double u0)])) rfl rfl (hb hby own_d5_159) _ ?_
    exact k
  clear R160
  obtain ⟨_, v163, _, -, X163, ⟨rfl, rfl⟩, st163⟩ := Jvm.LawKit.callS X158 hx (y := (⟨"java/lang/Math", "abs", "(D)D"⟩ : MethodName)) hown (mvT hZ (oW hw 62 rfl)) (mvT hZ (oW hw 63 rfl)) (mvT hZ (oW hw 64 rfl)) (mvT hZ (oW hw 65 rfl)) (by decide) (Jvm.Free.Fl.Abs.absD_pays (W := 2) (0 : UInt64) (mvT hZ (oW hw 65 rfl)) (by decide) (by decide)) (g := (mkF m 160 #[oR a1, oR b6, oR b101, oI 0, oI 0, oI 1, .unset] [(.double 0), (.double u0)])) rfl (by rw [hml]; rfl) (argsL := [(.double 0)]) (rest := [(.double u0)]) (lenOf own_pd5 rfl) rfl oL (hb hby own_d5_160) (fun _ _ => ⟨(by decide : 6 ≤ _), (by decide : 12 ≤ _), rfl, own_n0⟩)
  dsimp only [Pt.U, Pt.locs, Pt.cells, Pt.slots] at X163 st163
  have e163 : (T158.setVm v163).heap = h134 := e158
  generalize T158.setVm v163 = T163 at X163 st163 e163
  rw [own_abs0] at st163
  have R163 := fun t k => R162 t (st163 t k)
  clear R162 st163 X158 e158
  have R164 : ∀ t, oG p e below T163 m 139 #[oR a1, oR b6, oR b101, oI 0, oI 1, oI 2, .unset] [(.ref a1), (.int 2)] t → Steps p.tables e below AA t := by
    intro t k
    refine R163 t ?_
    refine XS.dcmpS X163.here hx rfl (hb hby own_d5_163) rfl (own_Sgt0 su0) ?_
    refine XS.ifNo X163.here hx rfl (hb hby own_d5_164) rfl ((if0 _ _).trans (tlt (by decide : ((0 : Int32) < (1 : Int32)))).2.2.2) ?_
    refine XS.iload X163.here hx rfl (hb hby own_d5_167) rfl ?_
    refine XS.istore X163.here hx rfl (hb hby own_d5_169) rfl (l' := #[oR a1, oR b6, oR b101, oI 0, oI 1, oI 1, .unset]) rfl ?_
    refine XS.iinc X163.here hx rfl (hb hby own_d5_171) rfl (l' := #[oR a1, oR b6, oR b101, oI 0, oI 1, oI 2, .unset]) rfl ?_
    show oG p e below T163 m 174 #[oR a1, oR b6, oR b101, oI 0, oI 1, oI 2, .unset] [] _
    refine XS.goto X163.here hx rfl (pc0 := 174) (pc' := 136) rfl (hb hby own_d5_174) (by decide) (by decide) ?_
    refine XS.iload X163.here hx rfl (hb hby own_d5_136) rfl ?_
    refine XS.aloadN X163.here hx rfl (hb hby own_d5_138) rfl rfl ?_
    exact k
  clear R163
  obtain ⟨T165, X165, e165, st165⟩ := getF X163 hx hZ hown (host := "") (Or.inl (oW hw 24 rfl)) Via.refl e163 f147 (g := (mkF m 139 #[oR a1, oR b6, oR b101, oI 0, oI 1, oI 2, .unset] [(.ref a1), (.int 2)])) rfl rfl (hb hby own_d5_139)
  have R165 := fun t k => R164 t (st165 t k)
  clear R164 st165 X163 e163
  have R166 : ∀ t, oG p e below T165 m 183 #[oR a1, oR b6, oR b101, oI 0, oI 1, oI 2, .unset] [(.double u0)] t → Steps p.tables e below AA t := by
    intro t k
    refine R165 t ?_
    refine XS.icmpYes X165.here hx rfl (pc0 := 142) (pc' := 177) rfl (hb hby own_d5_142) rfl (flt (by decide : ¬ ((2 : Int32) < (2 : Int32)))).2.1 (by decide) (by decide) ?_
    refine XS.aloadN X165.here hx rfl (hb hby own_d5_177) rfl rfl ?_
    refine XS.iload X165.here hx rfl (hb hby own_d5_178) rfl ?_
    refine X165.aaload hx (j := (1 : Int32)) (v := (.ref x5_1)) (by rw [e165]; exact Ar154.1) (State.isArrayOf_alike hZ.alike Ar154.2.1) rfl Ar154.2.2 hin154_1 hat154_1 (g := (mkF m 180 #[oR a1, oR b6, oR b101, oI 0, oI 1, oI 2, .unset] [(.int 1), (.ref b6)])) rfl rfl (hb hby own_d5_180) _ ?_
    refine XS.iloadN X165.here hx rfl (hb hby own_d5_181) rfl ?_
    show oG p e below T165 m 182 #[oR a1, oR b6, oR b101, oI 0, oI 1, oI 2, .unset] [(.int 0), (.ref x5_1)] _
    refine X165.daload hx (j := (0 : Int32)) (v := (.double u0)) (by rw [e165]; exact Ar156.1) (State.isArrayOf_alike hZ.alike Ar156.2.1) Ar156.2.2 hin156_0 hat156_0 (g := (mkF m 182 #[oR a1, oR b6, oR b101, oI 0, oI 1, oI 2, .unset] [(.int 0), (.ref x5_1)])) rfl rfl (hb hby own_d5_182) _ ?_
    exact k
  clear R165
  obtain ⟨_, v167, _, -, X167, ⟨rfl, rfl⟩, st167⟩ := Jvm.LawKit.callS X165 hx (y := (⟨"java/lang/Math", "abs", "(D)D"⟩ : MethodName)) hown (mvT hZ (oW hw 62 rfl)) (mvT hZ (oW hw 63 rfl)) (mvT hZ (oW hw 64 rfl)) (mvT hZ (oW hw 65 rfl)) (by decide) (Jvm.Free.Fl.Abs.absD_pays (W := 0) u0 (mvT hZ (oW hw 65 rfl)) (by decide) (by decide)) (g := (mkF m 183 #[oR a1, oR b6, oR b101, oI 0, oI 1, oI 2, .unset] [(.double u0)])) rfl (by rw [hml]; rfl) (argsL := [(.double u0)]) (rest := []) (lenOf own_pd5 rfl) rfl oL (hb hby own_d5_183) (fun _ _ => ⟨(by decide : 6 ≤ _), (by decide : 12 ≤ _), rfl, (own_Sn su0)⟩)
  dsimp only [Pt.U, Pt.locs, Pt.cells, Pt.slots] at X167 st167
  have e167 : (T165.setVm v167).heap = h134 := e165
  generalize T165.setVm v167 = T167 at X167 st167 e167
  rw [(own_Sabs su0)] at st167
  have R167 := fun t k => R166 t (st167 t k)
  clear R166 st167 X165 e165
  have R168 : ∀ t, oG p e below T167 m 207 #[oR a1, oR b6, oR b101, oI 0, oI 1, oI 2, .unset] [(.int 0), (.int 1), (.ref b6)] t → Steps p.tables e below AA t := by
    intro t k
    refine R167 t ?_
    refine X167.ldc2DoubleC hx hown (mvT hZ (oW hw 66 rfl)) (g := (mkF m 186 #[oR a1, oR b6, oR b101, oI 0, oI 1, oI 2, .unset] [(.double u0)])) rfl (hb hby own_d5_186) _ ?_
    refine XS.dcmpS X167.here hx rfl (hb hby own_d5_189) rfl (own_Stol su0) ?_
    refine XS.ifYes X167.here hx rfl (pc0 := 190) (pc' := 203) rfl (hb hby own_d5_190) rfl ((if0 _ _).trans (tlt (by decide : ((0 : Int32) < (1 : Int32)))).2.2.1) (by decide) (by decide) ?_
    refine XS.aloadN X167.here hx rfl (hb hby own_d5_203) rfl rfl ?_
    refine XS.iload X167.here hx rfl (hb hby own_d5_204) rfl ?_
    show oG p e below T167 m 206 #[oR a1, oR b6, oR b101, oI 0, oI 1, oI 2, .unset] [(.int 1), (.ref b6)] _
    refine XS.iloadN X167.here hx rfl (hb hby own_d5_206) rfl ?_
    exact k
  clear R167
  obtain ⟨_, _, ⟨T169, L169, k169, n169⟩, -, X169, ⟨Lc169, hQ169, l169, y169, z169⟩, st169⟩ := Jvm.LawKit.callS X167 hx (y := (oN "swap" "([[DII)V")) hown (mvT hZ (oW hw 67 rfl)) (mvT hZ (oW hw 68 rfl)) (mvT hZ (oW hw 3 rfl)) (mvT hZ (oW hw 69 rfl)) (by decide) (backOf (W := 0) (rmSw10 l Z a0 hw [] b6 x5_0 x5_1 _  h134 n0 Z134 f136 O6 f137 f138 g_b6) hZ (oW hw 69 rfl) (oW hw 3 rfl) (by decide) (by decide)) (g := (mkF m 207 #[oR a1, oR b6, oR b101, oI 0, oI 1, oI 2, .unset] [(.int 0), (.int 1), (.ref b6)])) rfl (by rw [hml]; rfl) (argsL := [(.ref b6), (.int 1), (.int 0)]) (rest := []) (lenOf own_pd6 rfl) rfl oL (hb hby own_d5_207) (fun _ _ => ⟨rfl, e167, (by decide : 6 + 0 ≤ _), (by decide : 12 + 0 ≤ _)⟩)
  dsimp only [Pt.U, Pt.locs, Pt.cells, Pt.slots] at X169 l169 y169 z169 st169 hQ169
  subst l169 y169 z169
  obtain ⟨rfl, Nq169, Kc169, Vc169⟩ := hQ169
  have N169 := Fr.app N134 Nq169
  clear N134
  have R169 := fun t k => R168 t (st169 t k)
  clear R168 st169 X167 e167
  have Z169 : n0 ≤ T169.heap.size := Nat.le_trans Z134 Kc169.1
  clear Z134
  have K169 : Keep h0 T169.heap [] := K134.trans Kc169 (allS (Or.inr sz_b6) all0)
  clear K134
  have f170 : Exa Z T169.heap b6 "[[D" := f135.keep Kc169
  clear f135
  have f171 : Exa Z T169.heap x5_0 "[D" := f137.keep Kc169
  clear f137
  have f172 : Exa Z T169.heap x5_1 "[D" := f138.keep Kc169
  clear f138
  have f173 : Arv Z T169.heap x5_1 c6 .double (2 : Int32) [(.double u0), (.double 0)] (.double 0) := f139.keep Kc169 (ninS (Ne.symm ne_b6_x5_1) nin0)
  clear f139
  have f174 : Arv Z T169.heap x5_0 c6 .double (2 : Int32) [(.double 0), (.double u1)] (.double 0) := f140.keep Kc169 (ninS (Ne.symm ne_b6_x5_0) nin0)
  clear f140
  have f175 : Exa Z T169.heap b101 "[[D" := f141.keep Kc169
  clear f141
  have f176 : Arv Z T169.heap b101 k101 (.array .double) (2 : Int32) [(.ref x100_0), (.ref x100_1)] .null := f142.keep Kc169 (ninS (Ne.symm ne_b6_b101) nin0)
  clear f142
  have f177 : Exa Z T169.heap x100_0 "[D" := f143.keep Kc169
  clear f143
  have f178 : Exa Z T169.heap x100_1 "[D" := f144.keep Kc169
  clear f144
  have f179 : Arv Z T169.heap x100_0 c101 .double (2 : Int32) [(.double 4607182418800017408), (.double 0)] (.double 0) := f145.keep Kc169 (ninS (Ne.symm ne_b6_x100_0) nin0)
  clear f145
  have f180 : Arv Z T169.heap x100_1 c101 .double (2 : Int32) [(.double 0), (.double 4607182418800017408)] (.double 0) := V134.keep Kc169 (ninS (Ne.symm ne_b6_x100_1) nin0)
  clear V134
  have R181 : ∀ t, oG p e below T169 m 214 #[oR a1, oR b6, oR b101, oI 0, oI 1, oI 2, .unset] [(.int 0), (.int 1), (.ref b101)] t → Steps p.tables e below AA t := by
    intro t k
    refine R169 t ?_
    refine XS.aloadN X169.here hx rfl (hb hby own_d5_210) rfl rfl ?_
    refine XS.iload X169.here hx rfl (hb hby own_d5_211) rfl ?_
    refine XS.iloadN X169.here hx rfl (hb hby own_d5_213) rfl ?_
    exact k
  clear R169
  obtain ⟨_, _, ⟨T182, L182, k182, n182⟩, -, X182, ⟨Lc182, hQ182, l182, y182, z182⟩, st182⟩ := Jvm.LawKit.callS X169 hx (y := (oN "swap" "([[DII)V")) hown (mvT hZ (oW hw 67 rfl)) (mvT hZ (oW hw 68 rfl)) (mvT hZ (oW hw 3 rfl)) (mvT hZ (oW hw 69 rfl)) (by decide) (backOf (W := 0) (rmSw10 l Z a0 hw [] b101 x100_0 x100_1 _  T169.heap n0 Z169 f176 O101 f177 f178 g_b101) hZ (oW hw 69 rfl) (oW hw 3 rfl) (by decide) (by decide)) (g := (mkF m 214 #[oR a1, oR b6, oR b101, oI 0, oI 1, oI 2, .unset] [(.int 0), (.int 1), (.ref b101)])) rfl (by rw [hml]; rfl) (argsL := [(.ref b101), (.int 1), (.int 0)]) (rest := []) (lenOf own_pd6 rfl) rfl oL (hb hby own_d5_214) (fun _ _ => ⟨rfl, rfl, (by decide : 6 + 0 ≤ _), (by decide : 12 + 0 ≤ _)⟩)
  dsimp only [Pt.U, Pt.locs, Pt.cells, Pt.slots] at X182 l182 y182 z182 st182 hQ182
  subst l182 y182 z182
  obtain ⟨rfl, Nq182, Kc182, Vc182⟩ := hQ182
  have N182 := Fr.app N169 Nq182
  clear N169
  have R182 := fun t k => R181 t (st182 t k)
  clear R181 st182 X169
  have Z182 : n0 ≤ T182.heap.size := Nat.le_trans Z169 Kc182.1
  clear Z169
  have K182 : Keep h0 T182.heap [] := K169.trans Kc182 (allS (Or.inr sz_b101) all0)
  clear K169
  have f183 : Exa Z T182.heap b6 "[[D" := f170.keep Kc182
  clear f170
  have f184 : Exa Z T182.heap x5_0 "[D" := f171.keep Kc182
  clear f171
  have f185 : Exa Z T182.heap x5_1 "[D" := f172.keep Kc182
  clear f172
  have f186 : Arv Z T182.heap x5_1 c6 .double (2 : Int32) [(.double u0), (.double 0)] (.double 0) := f173.keep Kc182 (ninS ne_x5_1_b101 nin0)
  clear f173
  have f187 : Arv Z T182.heap x5_0 c6 .double (2 : Int32) [(.double 0), (.double u1)] (.double 0) := f174.keep Kc182 (ninS ne_x5_0_b101 nin0)
  clear f174
  have f188 : Exa Z T182.heap b101 "[[D" := f175.keep Kc182
  clear f175
  have f189 : Exa Z T182.heap x100_0 "[D" := f177.keep Kc182
  clear f177
  have f190 : Exa Z T182.heap x100_1 "[D" := f178.keep Kc182
  clear f178
  have f191 : Arv Z T182.heap x100_0 c101 .double (2 : Int32) [(.double 4607182418800017408), (.double 0)] (.double 0) := f179.keep Kc182 (ninS (Ne.symm ne_b101_x100_0) nin0)
  clear f179
  have f192 : Arv Z T182.heap x100_1 c101 .double (2 : Int32) [(.double 0), (.double 4607182418800017408)] (.double 0) := f180.keep Kc182 (ninS (Ne.symm ne_b101_x100_1) nin0)
  clear f180
  have f193 : Arv Z T182.heap b6 k6 (.array .double) (2 : Int32) [(.ref x5_1), (.ref x5_0)] .null := Vc169.keep Kc182 (ninS ne_b6_b101 nin0)
  have R194 : ∀ t, oG p e below T182 m 221 #[oR a1, oR b6, oR b101, oI 0, oI 1, oI 2, .unset] [(.int 0), (.ref b101), (.ref b6), (.ref a1)] t → Steps p.tables e below AA t := by
    intro t k
    refine R182 t ?_
    refine XS.aloadN X182.here hx rfl (hb hby own_d5_217) rfl rfl ?_
    refine XS.aloadN X182.here hx rfl (hb hby own_d5_218) rfl rfl ?_
    refine XS.aloadN X182.here hx rfl (hb hby own_d5_219) rfl rfl ?_
    refine XS.iloadN X182.here hx rfl (hb hby own_d5_220) rfl ?_
    exact k
  clear R182
  have f195 : oF Z T182.heap a1 "rows" "I" (.int 2) := F_a1_rows.keep K182 nin0
  have f197 : Exa Z T182.heap a1 "com/example/trunkwright/trunkwright/traffic/RevisedSimplex" := E_a1.keep K182
  obtain ⟨cq196, q196a, q196b⟩ := f197.cell
  obtain ⟨_, _, ⟨T196, L196, k196, n196⟩, -, X196, ⟨Lc196, hQ196, l196, y196, z196⟩, st196⟩ := X182.privateBack hx (y := (oN "eliminate" "([[D[[DI)V")) hown (mvT hZ (oW hw 70 rfl)) (mvT hZ (oW hw 71 rfl)) (mvT hZ (own_selP (y := (oN "eliminate" "([[D[[DI)V")) (oW hw 2 rfl) (oW hw 71 rfl) (oW hw 72 rfl) (by decide))) (Cond.privateMethod_at (mvP hZ (oW hw 72 rfl) (args := #[]))) (mvT hZ (oW hw 73 rfl)) (by decide) (backOf (W := 0) (rmEl0 l Z a0 hw [] a1 b6 b101 x5_1 x5_0 x100_1 x100_0 _ _ _ _ _ _ _ _ _ _ _ _ _ _  T182.heap n0 Z182 f195 f193 Vc182 f186 f192 f187 (Nat.ne_of_lt (Nat.lt_of_lt_of_le E_a1.lt sz_x5_1)) (Nat.ne_of_lt (Nat.lt_of_lt_of_le E_a1.lt sz_x100_1)) ne_b6_x5_1 ne_b6_x100_1 (Ne.symm ne_x5_1_b101) ne_b101_x100_1 ne_x5_0_x5_1 ne_x5_0_x100_1 ne_x5_1_x100_1 g_x5_1 g_x100_1 (own_Sself su0) own_n1 (own_Sz su0) own_n0 (own_Sz su0) own_n0 hiv0.symm niv0) hZ (oW hw 73 rfl) (oW hw 3 rfl) (by decide) (by decide)) (g := (mkF m 221 #[oR a1, oR b6, oR b101, oI 0, oI 1, oI 2, .unset] [(.int 0), (.ref b101), (.ref b6), (.ref a1)])) rfl (by rw [hml]; rfl) (Steps.refl _) (a := a1) q196a q196b (argsL := [(.ref b6), (.ref b101), (.int 0)]) (rest := []) (lenOf own_pd7 rfl) rfl oL (hb hby own_d5_221) (fun _ _ => ⟨rfl, rfl, (by decide : 6 + 0 ≤ _), (by decide : 12 + 0 ≤ _)⟩)
  dsimp only [Pt.U, Pt.locs, Pt.cells, Pt.slots] at X196 l196 y196 z196 st196 hQ196
  subst l196 y196 z196
  obtain ⟨rfl, Nq196, Kc196, Vc196, Vd196⟩ := hQ196
  have N196 := Fr.app N182 Nq196
  clear N182
  have R196 := fun t k => R194 t (st196.trans k)
  clear R194 st196 X182
  have Z196 : n0 ≤ T196.heap.size := Nat.le_trans Z182 Kc196.1
  clear Z182
  have K196 : Keep h0 T196.heap [] := K182.trans Kc196 (allS (Or.inr sz_x5_1) (allS (Or.inr sz_x100_1) all0))
  clear K182
  have f198 : Exa Z T196.heap b6 "[[D" := f183.keep Kc196
  clear f183
  have f199 : Exa Z T196.heap x5_0 "[D" := f184.keep Kc196
  clear f184
  have f200 : Exa Z T196.heap x5_1 "[D" := f185.keep Kc196
  clear f185
  have f201 : Arv Z T196.heap x5_0 c6 .double (2 : Int32) [(.double 0), (.double u1)] (.double 0) := f187.keep Kc196 (ninS ne_x5_0_x5_1 (ninS ne_x5_0_x100_1 nin0))
  clear f187
  have f202 : Exa Z T196.heap b101 "[[D" := f188.keep Kc196
  clear f188
  have f203 : Exa Z T196.heap x100_0 "[D" := f189.keep Kc196
  clear f189
  have f204 : Exa Z T196.heap x100_1 "[D" := f190.keep Kc196
  clear f190
  have f205 : Arv Z T196.heap x100_0 c101 .double (2 : Int32) [(.double 4607182418800017408), (.double 0)] (.double 0) := f191.keep Kc196 (ninS (Ne.symm ne_x5_1_x100_0) (ninS ne_x100_0_x100_1 nin0))
  clear f191
  have f206 : Arv Z T196.heap b6 k6 (.array .double) (2 : Int32) [(.ref x5_1), (.ref x5_0)] .null := f193.keep Kc196 (ninS ne_b6_x5_1 (ninS ne_b6_x100_1 nin0))
  clear f193
  have f207 : Arv Z T196.heap b101 k101 (.array .double) (2 : Int32) [(.ref x100_1), (.ref x100_0)] .null := Vc182.keep Kc196 (ninS (Ne.symm ne_x5_1_b101) (ninS ne_b101_x100_1 nin0))
  have R208 : ∀ t, oG p e below T196 m 122 #[oR a1, oR b6, oR b101, oI 1, oI 1, oI 2, .unset] [(.ref a1), (.int 1)] t → Steps p.tables e below AA t := by
    intro t k
    refine R196 t ?_
    refine XS.iinc X196.here hx rfl (hb hby own_d5_224) rfl (l' := #[oR a1, oR b6, oR b101, oI 1, oI 1, oI 2, .unset]) rfl ?_
    refine XS.goto X196.here hx rfl (pc0 := 227) (pc' := 120) rfl (hb hby own_d5_227) (by decide) (by decide) ?_
    refine XS.iloadN X196.here hx rfl (hb hby own_d5_120) rfl ?_
    refine XS.aloadN X196.here hx rfl (hb hby own_d5_121) rfl rfl ?_
    exact k
  clear R196
  have f209 : oF Z T196.heap a1 "rows" "I" (.int 2) := F_a1_rows.keep K196 nin0
  obtain ⟨T210, X210, e210, st210⟩ := getF X196 hx hZ hown (host := "") (Or.inl (oW hw 24 rfl)) Via.refl rfl f209 (g := (mkF m 122 #[oR a1, oR b6, oR b101, oI 1, oI 1, oI 2, .unset] [(.ref a1), (.int 1)])) rfl rfl (hb hby own_d5_122)
  have R210 := fun t k => R208 t (st210 t k)
  clear R208 st210 X196
  have R211 : ∀ t, oG p e below T210 m 139 #[oR a1, oR b6, oR b101, oI 1, oI 1, oI 2, .unset] [(.ref a1), (.int 2)] t → Steps p.tables e below AA t := by
    intro t k
    refine R210 t ?_
    refine XS.icmpNo X210.here hx rfl (hb hby own_d5_125) rfl (tlt (by decide : ((1 : Int32) < (2 : Int32)))).2.1 ?_
    refine XS.iloadN X210.here hx rfl (hb hby own_d5_128) rfl ?_
    refine XS.istore X210.here hx rfl (hb hby own_d5_129) rfl (l' := #[oR a1, oR b6, oR b101, oI 1, oI 1, oI 2, .unset]) rfl ?_
    refine XS.iloadN X210.here hx rfl (hb hby own_d5_131) rfl ?_
    refine XS.iconst X210.here hx rfl (hb hby own_d5_132) ?_
    show oG p e below T210 m 133 #[oR a1, oR b6, oR b101, oI 1, oI 1, oI 2, .unset] [(.int 1), (.int 1)] _
    refine XS.iadd X210.here hx rfl (hb hby own_d5_133) rfl ?_
    refine XS.istore X210.here hx rfl (hb hby own_d5_134) rfl (l' := #[oR a1, oR b6, oR b101, oI 1, oI 1, oI 2, .unset]) rfl ?_
    refine XS.iload X210.here hx rfl (hb hby own_d5_136) rfl ?_
    refine XS.aloadN X210.here hx rfl (hb hby own_d5_138) rfl rfl ?_
    exact k
  clear R210
  obtain ⟨T212, X212, e212, st212⟩ := getF X210 hx hZ hown (host := "") (Or.inl (oW hw 24 rfl)) Via.refl e210 f209 (g := (mkF m 139 #[oR a1, oR b6, oR b101, oI 1, oI 1, oI 2, .unset] [(.ref a1), (.int 2)])) rfl rfl (hb hby own_d5_139)
  have R212 := fun t k => R211 t (st212 t k)
  clear R211 st212 X210 e210
  have R213 : ∀ t, oG p e below T212 m 180 #[oR a1, oR b6, oR b101, oI 1, oI 1, oI 2, .unset] [(.int 1), (.ref b6)] t → Steps p.tables e below AA t := by
    intro t k
    refine R212 t ?_
    refine XS.icmpYes X212.here hx rfl (pc0 := 142) (pc' := 177) rfl (hb hby own_d5_142) rfl (flt (by decide : ¬ ((2 : Int32) < (2 : Int32)))).2.1 (by decide) (by decide) ?_
    refine XS.aloadN X212.here hx rfl (hb hby own_d5_177) rfl rfl ?_
    refine XS.iload X212.here hx rfl (hb hby own_d5_178) rfl ?_
    exact k
  clear R212
  obtain ⟨cl214, Ar214, q214, S214, N214', H214, G214⟩ := id f206
  have hin214_1 : ¬ ((1 : Int32) < 0 ∨ cl214.slots.size ≤ ((1 : Int32)).toNatClampNeg) := inb_of S214 ⟨by decide, by decide⟩
  have hat214_1 : cl214.slots[((1 : Int32)).toNatClampNeg]? = some (.ref x5_0) := H214.at hin214_1 rfl
  have R215 : ∀ t, oG p e below T212 m 182 #[oR a1, oR b6, oR b101, oI 1, oI 1, oI 2, .unset] [(.int 1), (.ref x5_0)] t → Steps p.tables e below AA t := by
    intro t k
    refine R213 t ?_
    refine X212.aaload hx (j := (1 : Int32)) (v := (.ref x5_0)) (by rw [e212]; exact Ar214.1) (State.isArrayOf_alike hZ.alike Ar214.2.1) rfl Ar214.2.2 hin214_1 hat214_1 (g := (mkF m 180 #[oR a1, oR b6, oR b101, oI 1, oI 1, oI 2, .unset] [(.int 1), (.ref b6)])) rfl rfl (hb hby own_d5_180) _ ?_
    refine XS.iloadN X212.here hx rfl (hb hby own_d5_181) rfl ?_
    exact k
  clear R213
  obtain ⟨cl216, Ar216, q216, S216, N216', H216, G216⟩ := id f201
  have hin216_1 : ¬ ((1 : Int32) < 0 ∨ cl216.slots.size ≤ ((1 : Int32)).toNatClampNeg) := inb_of S216 ⟨by decide, by decide⟩
  have hat216_1 : cl216.slots[((1 : Int32)).toNatClampNeg]? = some (.double u1) := H216.at hin216_1 rfl
  have R217 : ∀ t, oG p e below T212 m 183 #[oR a1, oR b6, oR b101, oI 1, oI 1, oI 2, .unset] [(.double u1)] t → Steps p.tables e below AA t := by
    intro t k
    refine R215 t ?_
    refine X212.daload hx (j := (1 : Int32)) (v := (.double u1)) (by rw [e212]; exact Ar216.1) (State.isArrayOf_alike hZ.alike Ar216.2.1) Ar216.2.2 hin216_1 hat216_1 (g := (mkF m 182 #[oR a1, oR b6, oR b101, oI 1, oI 1, oI 2, .unset] [(.int 1), (.ref x5_0)])) rfl rfl (hb hby own_d5_182) _ ?_
    exact k
  clear R215
  obtain ⟨_, v218, _, -, X218, ⟨rfl, rfl⟩, st218⟩ := Jvm.LawKit.callS X212 hx (y := (⟨"java/lang/Math", "abs", "(D)D"⟩ : MethodName)) hown (mvT hZ (oW hw 62 rfl)) (mvT hZ (oW hw 63 rfl)) (mvT hZ (oW hw 64 rfl)) (mvT hZ (oW hw 65 rfl)) (by decide) (Jvm.Free.Fl.Abs.absD_pays (W := 0) u1 (mvT hZ (oW hw 65 rfl)) (by decide) (by decide)) (g := (mkF m 183 #[oR a1, oR b6, oR b101, oI 1, oI 1, oI 2, .unset] [(.double u1)])) rfl (by rw [hml]; rfl) (argsL := [(.double u1)]) (rest := []) (lenOf own_pd5 rfl) rfl oL (hb hby own_d5_183) (fun _ _ => ⟨(by decide : 6 ≤ _), (by decide : 12 ≤ _), rfl, (own_Sn su1)⟩)
  dsimp only [Pt.U, Pt.locs, Pt.cells, Pt.slots] at X218 st218
  have e218 : (T212.setVm v218).heap = T196.heap := e212
  generalize T212.setVm v218 = T218 at X218 st218 e218
  rw [(own_Sabs su1)] at st218
  have R218 := fun t k => R217 t (st218 t k)
  clear R217 st218 X212 e212
  have R219 : ∀ t, oG p e below T218 m 207 #[oR a1, oR b6, oR b101, oI 1, oI 1, oI 2, .unset] [(.int 1), (.int 1), (.ref b6)] t → Steps p.tables e below AA t := by
    intro t k
    refine R218 t ?_
    refine X218.ldc2DoubleC hx hown (mvT hZ (oW hw 66 rfl)) (g := (mkF m 186 #[oR a1, oR b6, oR b101, oI 1, oI 1, oI 2, .unset] [(.double u1)])) rfl (hb hby own_d5_186) _ ?_
    refine XS.dcmpS X218.here hx rfl (hb hby own_d5_189) rfl (own_Stol su1) ?_
    refine XS.ifYes X218.here hx rfl (pc0 := 190) (pc' := 203) rfl (hb hby own_d5_190) rfl ((if0 _ _).trans (tlt (by decide : ((0 : Int32) < (1 : Int32)))).2.2.1) (by decide) (by decide) ?_
    refine XS.aloadN X218.here hx rfl (hb hby own_d5_203) rfl rfl ?_
    refine XS.iload X218.here hx rfl (hb hby own_d5_204) rfl ?_
    show oG p e below T218 m 206 #[oR a1, oR b6, oR b101, oI 1, oI 1, oI 2, .unset] [(.int 1), (.ref b6)] _
    refine XS.iloadN X218.here hx rfl (hb hby own_d5_206) rfl ?_
    exact k
  clear R218
  obtain ⟨_, _, ⟨T220, L220, k220, n220⟩, -, X220, ⟨Lc220, hQ220, l220, y220, z220⟩, st220⟩ := Jvm.LawKit.callS X218 hx (y := (oN "swap" "([[DII)V")) hown (mvT hZ (oW hw 67 rfl)) (mvT hZ (oW hw 68 rfl)) (mvT hZ (oW hw 3 rfl)) (mvT hZ (oW hw 69 rfl)) (by decide) (backOf (W := 0) (rmSw11 l Z a0 hw [] b6 x5_1 x5_0 _  T196.heap n0 Z196 f206 O6 f200 f199 g_b6) hZ (oW hw 69 rfl) (oW hw 3 rfl) (by decide) (by decide)) (g := (mkF m 207 #[oR a1, oR b6, oR b101, oI 1, oI 1, oI 2, .unset] [(.int 1), (.int 1), (.ref b6)])) rfl (by rw [hml]; rfl) (argsL := [(.ref b6), (.int 1), (.int 1)]) (rest := []) (lenOf own_pd6 rfl) rfl oL (hb hby own_d5_207) (fun _ _ => ⟨rfl, e218, (by decide : 6 + 0 ≤ _), (by decide : 12 + 0 ≤ _)⟩)
  dsimp only [Pt.U, Pt.locs, Pt.cells, Pt.slots] at X220 l220 y220 z220 st220 hQ220
  subst l220 y220 z220
  obtain ⟨rfl, Nq220, Kc220, Vc220⟩ := hQ220
  have N220 := Fr.app N196 Nq220
  clear N196
  have R220 := fun t k => R219 t (st220 t k)
  clear R219 st220 X218 e218
  have Z220 : n0 ≤ T220.heap.size := Nat.le_trans Z196 Kc220.1
  clear Z196
  have K220 : Keep h0 T220.heap [] := K196.trans Kc220 (allS (Or.inr sz_b6) all0)
  clear K196
  have f221 : Exa Z T220.heap b6 "[[D" := f198.keep Kc220
  clear f198
  have f222 : Exa Z T220.heap x5_0 "[D" := f199.keep Kc220
  clear f199
  have f223 : Exa Z T220.heap x5_1 "[D" := f200.keep Kc220
  clear f200
  have f224 : Arv Z T220.heap x5_0 c6 .double (2 : Int32) [(.double 0), (.double u1)] (.double 0) := f201.keep Kc220 (ninS (Ne.symm ne_b6_x5_0) nin0)
  clear f201
  have f225 : Exa Z T220.heap b101 "[[D" := f202.keep Kc220
  clear f202
  have f226 : Exa Z T220.heap x100_0 "[D" := f203.keep Kc220
  clear f203
  have f227 : Exa Z T220.heap x100_1 "[D" := f204.keep Kc220
  clear f204
  have f228 : Arv Z T220.heap x100_0 c101 .double (2 : Int32) [(.double 4607182418800017408), (.double 0)] (.double 0) := f205.keep Kc220 (ninS (Ne.symm ne_b6_x100_0) nin0)
  clear f205
  have f229 : Arv Z T220.heap b101 k101 (.array .double) (2 : Int32) [(.ref x100_1), (.ref x100_0)] .null := f207.keep Kc220 (ninS (Ne.symm ne_b6_b101) nin0)
  clear f207
  have f230 : Arv Z T220.heap x5_1 c6 .double (2 : Int32) [(.double 4607182418800017408), (.double 0)] (.double 0) := Vc196.keep Kc220 (ninS (Ne.symm ne_b6_x5_1) nin0)
  have f231 : Arv Z T220.heap x100_1 c101 .double (2 : Int32) [(.double 0), (.double iv0)] (.double 0) := Vd196.keep Kc220 (ninS (Ne.symm ne_b6_x100_1) nin0)
  have R232 : ∀ t, oG p e below T220 m 214 #[oR a1, oR b6, oR b101, oI 1, oI 1, oI 2, .unset] [(.int 1), (.int 1), (.ref b101)] t → Steps p.tables e below AA t := by
    intro t k
    refine R220 t ?_
    refine XS.aloadN X220.here hx rfl (hb hby own_d5_210) rfl rfl ?_
    refine XS.iload X220.here hx rfl (hb hby own_d5_211) rfl ?_
    refine XS.iloadN X220.here hx rfl (hb hby own_d5_213) rfl ?_
    exact k
  clear R220
  obtain ⟨_, _, ⟨T233, L233, k233, n233⟩, -, X233, ⟨Lc233, hQ233, l233, y233, z233⟩, st233⟩ := Jvm.LawKit.callS X220 hx (y := (oN "swap" "([[DII)V")) hown (mvT hZ (oW hw 67 rfl)) (mvT hZ (oW hw 68 rfl)) (mvT hZ (oW hw 3 rfl)) (mvT hZ (oW hw 69 rfl)) (by decide) (backOf (W := 0) (rmSw11 l Z a0 hw [] b101 x100_1 x100_0 _  T220.heap n0 Z220 f229 O101 f227 f226 g_b101) hZ (oW hw 69 rfl) (oW hw 3 rfl) (by decide) (by decide)) (g := (mkF m 214 #[oR a1, oR b6, oR b101, oI 1, oI 1, oI 2, .unset] [(.int 1), (.int 1), (.ref b101)])) rfl (by rw [hml]; rfl) (argsL := [(.ref b101), (.int 1), (.int 1)]) (rest := []) (lenOf own_pd6 rfl) rfl oL (hb hby own_d5_214) (fun _ _ => ⟨rfl, rfl, (by decide : 6 + 0 ≤ _), (by decide : 12 + 0 ≤ _)⟩)
  dsimp only [Pt.U, Pt.locs, Pt.cells, Pt.slots] at X233 l233 y233 z233 st233 hQ233
  subst l233 y233 z233
  obtain ⟨rfl, Nq233, Kc233, Vc233⟩ := hQ233
  have N233 := Fr.app N220 Nq233
  clear N220
  have R233 := fun t k => R232 t (st233 t k)
  clear R232 st233 X220
  have Z233 : n0 ≤ T233.heap.size := Nat.le_trans Z220 Kc233.1
  clear Z220
  have K233 : Keep h0 T233.heap [] := K220.trans Kc233 (allS (Or.inr sz_b101) all0)
  clear K220
  have f234 : Exa Z T233.heap b6 "[[D" := f221.keep Kc233
  clear f221
  have f235 : Exa Z T233.heap x5_0 "[D" := f222.keep Kc233
  clear f222
  have f236 : Exa Z T233.heap x5_1 "[D" := f223.keep Kc233
  clear f223
  have f237 : Arv Z T233.heap x5_0 c6 .double (2 : Int32) [(.double 0), (.double u1)] (.double 0) := f224.keep Kc233 (ninS ne_x5_0_b101 nin0)
  clear f224
  have f238 : Exa Z T233.heap b101 "[[D" := f225.keep Kc233
  clear f225
  have f239 : Exa Z T233.heap x100_0 "[D" := f226.keep Kc233
  clear f226
  have f240 : Exa Z T233.heap x100_1 "[D" := f227.keep Kc233
  clear f227
  have f241 : Arv Z T233.heap x100_0 c101 .double (2 : Int32) [(.double 4607182418800017408), (.double 0)] (.double 0) := f228.keep Kc233 (ninS (Ne.symm ne_b101_x100_0) nin0)
  clear f228
  have f242 : Arv Z T233.heap x5_1 c6 .double (2 : Int32) [(.double 4607182418800017408), (.double 0)] (.double 0) := f230.keep Kc233 (ninS ne_x5_1_b101 nin0)
  clear f230
  have f243 : Arv Z T233.heap x100_1 c101 .double (2 : Int32) [(.double 0), (.double iv0)] (.double 0) := f231.keep Kc233 (ninS (Ne.symm ne_b101_x100_1) nin0)
  clear f231
  have f244 : Arv Z T233.heap b6 k6 (.array .double) (2 : Int32) [(.ref x5_1), (.ref x5_0)] .null := Vc220.keep Kc233 (ninS ne_b6_b101 nin0)
  have R245 : ∀ t, oG p e below T233 m 221 #[oR a1, oR b6, oR b101, oI 1, oI 1, oI 2, .unset] [(.int 1), (.ref b101), (.ref b6), (.ref a1)] t → Steps p.tables e below AA t := by
    intro t k
    refine R233 t ?_
    refine XS.aloadN X233.here hx rfl (hb hby own_d5_217) rfl rfl ?_
    refine XS.aloadN X233.here hx rfl (hb hby own_d5_218) rfl rfl ?_
    refine XS.aloadN X233.here hx rfl (hb hby own_d5_219) rfl rfl ?_
    refine XS.iloadN X233.here hx rfl (hb hby own_d5_220) rfl ?_
    exact k
  clear R233
  have f246 : oF Z T233.heap a1 "rows" "I" (.int 2) := F_a1_rows.keep K233 nin0
  have f248 : Exa Z T233.heap a1 "com/example/trunkwright/trunkwright/traffic/RevisedSimplex" := E_a1.keep K233
  obtain ⟨cq247, q247a, q247b⟩ := f248.cell
  obtain ⟨_, _, ⟨T247, L247, k247, n247⟩, -, X247, ⟨Lc247, hQ247, l247, y247, z247⟩, st247⟩ := X233.privateBack hx (y := (oN "eliminate" "([[D[[DI)V")) hown (mvT hZ (oW hw 70 rfl)) (mvT hZ (oW hw 71 rfl)) (mvT hZ (own_selP (y := (oN "eliminate" "([[D[[DI)V")) (oW hw 2 rfl) (oW hw 71 rfl) (oW hw 72 rfl) (by decide))) (Cond.privateMethod_at (mvP hZ (oW hw 72 rfl) (args := #[]))) (mvT hZ (oW hw 73 rfl)) (by decide) (backOf (W := 0) (rmEl1 l Z a0 hw [] a1 b6 b101 x5_1 x5_0 x100_0 x100_1 _ _ _ _ _ _ _ _ _ _ _ _ _ _  T233.heap n0 Z233 f246 f244 Vc233 f237 f241 f242 (Nat.ne_of_lt (Nat.lt_of_lt_of_le E_a1.lt sz_x5_0)) (Nat.ne_of_lt (Nat.lt_of_lt_of_le E_a1.lt sz_x100_0)) ne_b6_x5_0 ne_b6_x100_0 (Ne.symm ne_x5_0_b101) ne_b101_x100_0 (Ne.symm ne_x5_0_x5_1) ne_x5_1_x100_0 ne_x5_0_x100_0 g_x5_0 g_x100_0 (own_Sz su1) own_n0 (own_Sself su1) own_n1 hiv1.symm niv1 (own_Sz su1) own_n0) hZ (oW hw 73 rfl) (oW hw 3 rfl) (by decide) (by decide)) (g := (mkF m 221 #[oR a1, oR b6, oR b101, oI 1, oI 1, oI 2, .unset] [(.int 1), (.ref b101), (.ref b6), (.ref a1)])) rfl (by rw [hml]; rfl) (Steps.refl _) (a := a1) q247a q247b (argsL := [(.ref b6), (.ref b101), (.int 1)]) (rest := []) (lenOf own_pd7 rfl) rfl oL (hb hby own_d5_221) (fun _ _ => ⟨rfl, rfl, (by decide : 6 + 0 ≤ _), (by decide : 12 + 0 ≤ _)⟩)
  dsimp only [Pt.U, Pt.locs, Pt.cells, Pt.slots] at X247 l247 y247 z247 st247 hQ247
  subst l247 y247 z247
  obtain ⟨rfl, Nq247, Kc247, Vc247, Vd247⟩ := hQ247
  have N247 := Fr.app N233 Nq247
  clear N233
  have R247 := fun t k => R245 t (st247.trans k)
  clear R245 st247 X233
  have Z247 : n0 ≤ T247.heap.size := Nat.le_trans Z233 Kc247.1
  clear Z233
  have K247 : Keep h0 T247.heap [] := K233.trans Kc247 (allS (Or.inr sz_x5_0) (allS (Or.inr sz_x100_0) all0))
  clear K233
  have f249 : Exa Z T247.heap b6 "[[D" := f234.keep Kc247
  clear f234
  have f250 : Exa Z T247.heap x5_0 "[D" := f235.keep Kc247
  clear f235
  have f251 : Exa Z T247.heap x5_1 "[D" := f236.keep Kc247
  clear f236
  have f252 : Exa Z T247.heap b101 "[[D" := f238.keep Kc247
  clear f238
  have f253 : Exa Z T247.heap x100_0 "[D" := f239.keep Kc247
  clear f239
  have f254 : Exa Z T247.heap x100_1 "[D" := f240.keep Kc247
  clear f240
  have f255 : Arv Z T247.heap x5_1 c6 .double (2 : Int32) [(.double 4607182418800017408), (.double 0)] (.double 0) := f242.keep Kc247 (ninS (Ne.symm ne_x5_0_x5_1) (ninS ne_x5_1_x100_0 nin0))
  clear f242
  have f256 : Arv Z T247.heap x100_1 c101 .double (2 : Int32) [(.double 0), (.double iv0)] (.double 0) := f243.keep Kc247 (ninS (Ne.symm ne_x5_0_x100_1) (ninS (Ne.symm ne_x100_0_x100_1) nin0))
  clear f243
  have f257 : Arv Z T247.heap b6 k6 (.array .double) (2 : Int32) [(.ref x5_1), (.ref x5_0)] .null := f244.keep Kc247 (ninS ne_b6_x5_0 (ninS ne_b6_x100_0 nin0))
  clear f244
  have f258 : Arv Z T247.heap b101 k101 (.array .double) (2 : Int32) [(.ref x100_1), (.ref x100_0)] .null := Vc233.keep Kc247 (ninS (Ne.symm ne_x5_0_b101) (ninS ne_b101_x100_0 nin0))
  have R259 : ∀ t, oG p e below T247 m 122 #[oR a1, oR b6, oR b101, oI 2, oI 1, oI 2, .unset] [(.ref a1), (.int 2)] t → Steps p.tables e below AA t := by
    intro t k
    refine R247 t ?_
    refine XS.iinc X247.here hx rfl (hb hby own_d5_224) rfl (l' := #[oR a1, oR b6, oR b101, oI 2, oI 1, oI 2, .unset]) rfl ?_
    refine XS.goto X247.here hx rfl (pc0 := 227) (pc' := 120) rfl (hb hby own_d5_227) (by decide) (by decide) ?_
    refine XS.iloadN X247.here hx rfl (hb hby own_d5_120) rfl ?_
    refine XS.aloadN X247.here hx rfl (hb hby own_d5_121) rfl rfl ?_
    exact k
  clear R247
  have f260 : oF Z T247.heap a1 "rows" "I" (.int 2) := F_a1_rows.keep K247 nin0
  obtain ⟨T261, X261, e261, st261⟩ := getF X247 hx hZ hown (host := "") (Or.inl (oW hw 24 rfl)) Via.refl rfl f260 (g := (mkF m 122 #[oR a1, oR b6, oR b101, oI 2, oI 1, oI 2, .unset] [(.ref a1), (.int 2)])) rfl rfl (hb hby own_d5_122)
  have R261 := fun t k => R259 t (st261 t k)
  clear R259 st261 X247
  have R262 : ∀ t, oG p e below T261 m 230 #[oR a1, oR b6, oR b101, oI 2, oI 1, oI 2, .unset] [] t → Steps p.tables e below AA t := by
    intro t k
    refine R261 t ?_
    refine XS.icmpYes X261.here hx rfl (pc0 := 125) (pc' := 230) rfl (hb hby own_d5_125) rfl (flt (by decide : ¬ ((2 : Int32) < (2 : Int32)))).2.1 (by decide) (by decide) ?_
    exact k
  clear R261
  have f263 : oF Z T247.heap a1 "rhs" "[D" (.ref rh) := F_a1_rhs.keep K247 nin0
  have f264 : oF Z T247.heap a1 "inverse" "[[D" .null := F_a1_inverse.keep K247 nin0
  have f265 : oF Z T247.heap a1 "primal" "[D" .null := F_a1_primal.keep K247 nin0
  have f266 : oF Z T247.heap a1 "pivotsSinceRefactor" "I" (.int 0) := F_a1_pivotsSinceRefactor.keep K247 nin0
  have f267 : oF Z T247.heap a1 "position" "[I" (.ref po) := F_a1_position.keep K247 nin0
  have f268 : oF Z T247.heap a1 "infeasibility" "D" (.double 0) := F_a1_infeasibility.keep K247 nin0
  have f269 : Exa Z T247.heap a1 "com/example/trunkwright/trunkwright/traffic/RevisedSimplex" := E_a1.keep K247
  have f270 : Arv Z T247.heap rh kh .double (2 : Int32) [(.double d0), (.double d1)] (.double 0) := V_rh.keep K247 nin0
  have K271 : Keep h0 T247.heap [a1] := (Keep.refl h0 [a1]).trans K247 all0
  have R272 : ∀ t, oG p e below T261 m 232 #[oR a1, oR b6, oR b101, oI 2, oI 1, oI 2, .unset] [(.ref b101), (.ref a1)] t → Steps p.tables e below AA t := by
    intro t k
    refine R262 t ?_
    refine XS.aloadN X261.here hx rfl (hb hby own_d5_230) rfl rfl ?_
    refine XS.aloadN X261.here hx rfl (hb hby own_d5_231) rfl rfl ?_
    exact k
  clear R262
  obtain ⟨T273, h273, X273, e273, W273, st273⟩ := putF X261 hx hZ hown (host := "") (Or.inl (oW hw 74 rfl)) Via.refl e261 f264 f269 (Or.inl (oW hw 75 rfl)) (oW hw 2 rfl) (ty := (.array (.array .double))) (by decide) rfl rfl (g := (mkF m 232 #[oR a1, oR b6, oR b101, oI 2, oI 1, oI 2, .unset] [(.ref b101), (.ref a1)])) rfl rfl (hb hby own_d5_232)
  have R273 := fun t k => R272 t (st273 t k)
  clear R272 st273 X261 e261
  have Z273 : n0 ≤ h273.size := Nat.le_trans Z247 (Keep.of_wr W273).1
  clear Z247
  have K273 : Keep h0 h273 [a1] := K271.wr W273 (Or.inl (by simp))
  clear K271
  have N273 := Fr.snoc X273 N247 g_a1
  clear N247
  have f274 : Arv Z h273 x100_1 c101 .double (2 : Int32) [(.double 0), (.double iv0)] (.double 0) := f256.other W273 (Ne.symm (Nat.ne_of_lt (Nat.lt_of_lt_of_le E_a1.lt sz_x100_1)))
  clear f256
  have f275 : Arv Z h273 b101 k101 (.array .double) (2 : Int32) [(.ref x100_1), (.ref x100_0)] .null := f258.other W273 (Ne.symm (Nat.ne_of_lt (Nat.lt_of_lt_of_le E_a1.lt sz_b101)))
  clear f258
  have f276 : Arv Z h273 x100_0 c101 .double (2 : Int32) [(.double iv1), (.double 0)] (.double 0) := Vd247.other W273 (Ne.symm (Nat.ne_of_lt (Nat.lt_of_lt_of_le E_a1.lt sz_x100_0)))
  have f277 : oF Z h273 a1 "rows" "I" (.int 2) := f260.other W273 (Or.inr (slot_ne (Or.inr (oW hw 25 rfl)) (Or.inl (oW hw 75 rfl)) (by decide) (t := .int) (t' := (.array (.array .double))) (by decide) (by decide)))
  clear f260
  have f278 : oF Z h273 a1 "rhs" "[D" (.ref rh) := f263.other W273 (Or.inr (slot_ne (Or.inr (oW hw 35 rfl)) (Or.inl (oW hw 75 rfl)) (by decide) (t := (.array .double)) (t' := (.array (.array .double))) (by decide) (by decide)))
  clear f263
  have f279 : oF Z h273 a1 "primal" "[D" .null := f265.other W273 (Or.inr (slot_ne (Or.inl (oW hw 77 rfl)) (Or.inl (oW hw 75 rfl)) (by decide) (t := (.array .double)) (t' := (.array (.array .double))) (by decide) (by decide)))
  clear f265
  have f280 : oF Z h273 a1 "pivotsSinceRefactor" "I" (.int 0) := f266.other W273 (Or.inr (slot_ne (Or.inl (oW hw 79 rfl)) (Or.inl (oW hw 75 rfl)) (by decide) (t := .int) (t' := (.array (.array .double))) (by decide) (by decide)))
  clear f266
  have f281 : oF Z h273 a1 "position" "[I" (.ref po) := f267.other W273 (Or.inr (slot_ne (Or.inl (oW hw 23 rfl)) (Or.inl (oW hw 75 rfl)) (by decide) (t := (.array .int)) (t' := (.array (.array .double))) (by decide) (by decide)))
  clear f267
  have f282 : oF Z h273 a1 "infeasibility" "D" (.double 0) := f268.other W273 (Or.inr (slot_ne (Or.inl (oW hw 84 rfl)) (Or.inl (oW hw 75 rfl)) (by decide) (t := .double) (t' := (.array (.array .double))) (by decide) (by decide)))
  clear f268
  have f283 : Exa Z h273 a1 "com/example/trunkwright/trunkwright/traffic/RevisedSimplex" := f269.wr W273
  clear f269
  have f284 : Arv Z h273 rh kh .double (2 : Int32) [(.double d0), (.double d1)] (.double 0) := f270.other W273 ne_rh_a1
  clear f270
  have Fw273 : oF Z h273 a1 "inverse" "[[D" (.ref b101) := f264.same W273
  have R285 : ∀ t, oG p e below T273 m 237 #[oR a1, oR b6, oR b101, oI 2, oI 1, oI 2, .unset] [(.ref a1), (.ref a1)] t → Steps p.tables e below AA t := by
    intro t k
    refine R273 t ?_
    refine XS.aloadN X273.here hx rfl (hb hby own_d5_235) rfl rfl ?_
    refine XS.aloadN X273.here hx rfl (hb hby own_d5_236) rfl rfl ?_
    exact k
  clear R273
  obtain ⟨T286, X286, e286, st286⟩ := getF X273 hx hZ hown (host := "") (Or.inl (oW hw 24 rfl)) Via.refl e273 f277 (g := (mkF m 237 #[oR a1, oR b6, oR b101, oI 2, oI 1, oI 2, .unset] [(.ref a1), (.ref a1)])) rfl rfl (hb hby own_d5_237)
  have R286 := fun t k => R285 t (st286 t k)
  clear R285 st286 X273 e273
  obtain ⟨T287, h287, k287, X287, e287, E287, A287, B287, st287⟩ := newPE X286 hx hZ (oW hw 4 rfl) e286 (g := (mkF m 240 #[oR a1, oR b6, oR b101, oI 2, oI 1, oI 2, .unset] [(.int 2), (.ref a1)])) rfl (hb hby own_d5_240) rfl (by decide) (cap := 2) (by decide) (by decide) (by decide) (by decide) (ad := "[D") (by decide)
  obtain ⟨b287, g287⟩ : ∃ z, z = h273.size := ⟨_, rfl⟩
  rw [← g287] at A287 B287 st287
  have R287 := fun t k => R286 t (st287 t k)
  clear R286 st287 X286 e286
  have ne_a1_b287 : a1 ≠ b287 := Nat.ne_of_lt (Nat.lt_of_lt_of_le f277.lt (Nat.le_of_eq g287.symm))
  have ne_b101_b287 : b101 ≠ b287 := Nat.ne_of_lt (Nat.lt_of_lt_of_le f275.lt (Nat.le_of_eq g287.symm))
  have ne_rh_b287 : rh ≠ b287 := Nat.ne_of_lt (Nat.lt_of_lt_of_le f284.lt (Nat.le_of_eq g287.symm))
  have ne_x100_0_b287 : x100_0 ≠ b287 := Nat.ne_of_lt (Nat.lt_of_lt_of_le f276.lt (Nat.le_of_eq g287.symm))
  have ne_x100_1_b287 : x100_1 ≠ b287 := Nat.ne_of_lt (Nat.lt_of_lt_of_le f274.lt (Nat.le_of_eq g287.symm))
  have g_b287 : n0 ≤ b287 := Nat.le_trans Z273 (Nat.le_of_eq g287.symm)
  have sz_b287 : h0.size ≤ b287 := Nat.le_trans K273.1 (Nat.le_of_eq g287.symm)
  have Z287 : n0 ≤ h287.size := Nat.le_trans Z273 E287.1
  clear Z273
  have K287 : Keep h0 h287 [a1] := K273.ext E287
  clear K273
  have f288 : Arv Z h287 x100_1 c101 .double (2 : Int32) [(.double 0), (.double iv0)] (.double 0) := f274.ext E287
  clear f274
  have f289 : Arv Z h287 b101 k101 (.array .double) (2 : Int32) [(.ref x100_1), (.ref x100_0)] .null := f275.ext E287
  clear f275
  have f290 : Arv Z h287 x100_0 c101 .double (2 : Int32) [(.double iv1), (.double 0)] (.double 0) := f276.ext E287
  clear f276
  have f291 : oF Z h287 a1 "rows" "I" (.int 2) := f277.ext E287
  clear f277
  have f292 : oF Z h287 a1 "rhs" "[D" (.ref rh) := f278.ext E287
  clear f278
  have f293 : oF Z h287 a1 "primal" "[D" .null := f279.ext E287
  clear f279
  have f294 : oF Z h287 a1 "pivotsSinceRefactor" "I" (.int 0) := f280.ext E287
  clear f280
  have f295 : oF Z h287 a1 "position" "[I" (.ref po) := f281.ext E287
  clear f281
  have f296 : oF Z h287 a1 "infeasibility" "D" (.double 0) := f282.ext E287
  clear f282
  have f297 : Exa Z h287 a1 "com/example/trunkwright/trunkwright/traffic/RevisedSimplex" := f283.ext E287
  clear f283
  have f298 : Arv Z h287 rh kh .double (2 : Int32) [(.double d0), (.double d1)] (.double 0) := f284.ext E287
  clear f284
  have f299 : oF Z h287 a1 "inverse" "[[D" (.ref b101) := Fw273.ext E287
  clear Fw273
  clear E287
  have V287 : Arv Z h287 b287 k287 .double (2 : Int32) [(.double 0), (.double 0)] (.double 0) := (Arv.new A287 (by decide)).pad (pad_rep [] (.double 0) 2)
  obtain ⟨T300, h300, X300, e300, W300, st300⟩ := putF X287 hx hZ hown (host := "") (Or.inl (oW hw 76 rfl)) Via.refl e287 f293 f297 (Or.inl (oW hw 77 rfl)) (oW hw 2 rfl) (ty := (.array .double)) (by decide) rfl rfl (g := (mkF m 242 #[oR a1, oR b6, oR b101, oI 2, oI 1, oI 2, .unset] [(.ref b287), (.ref a1)])) rfl rfl (hb hby own_d5_242)
  have R300 := fun t k => R287 t (st300 t k)
  clear R287 st300 X287 e287
  have Z300 : n0 ≤ h300.size := Nat.le_trans Z287 (Keep.of_wr W300).1
  clear Z287
  have K300 : Keep h0 h300 [a1] := K287.wr W300 (Or.inl (by simp))
  clear K287
  have N300 := Fr.snoc X300 N273 g_a1
  clear N273
  have f301 : Arv Z h300 x100_1 c101 .double (2 : Int32) [(.double 0), (.double iv0)] (.double 0) := f288.other W300 (Ne.symm (Nat.ne_of_lt (Nat.lt_of_lt_of_le E_a1.lt sz_x100_1)))
  clear f288
  have f302 : Arv Z h300 b101 k101 (.array .double) (2 : Int32) [(.ref x100_1), (.ref x100_0)] .null := f289.other W300 (Ne.symm (Nat.ne_of_lt (Nat.lt_of_lt_of_le E_a1.lt sz_b101)))
  clear f289
  have f303 : Arv Z h300 x100_0 c101 .double (2 : Int32) [(.double iv1), (.double 0)] (.double 0) := f290.other W300 (Ne.symm (Nat.ne_of_lt (Nat.lt_of_lt_of_le E_a1.lt sz_x100_0)))
  clear f290
  have f304 : oF Z h300 a1 "rows" "I" (.int 2) := f291.other W300 (Or.inr (slot_ne (Or.inr (oW hw 25 rfl)) (Or.inl (oW hw 77 rfl)) (by decide) (t := .int) (t' := (.array .double)) (by decide) (by decide)))
  clear f291
  have f305 : oF Z h300 a1 "rhs" "[D" (.ref rh) := f292.other W300 (Or.inr (slot_ne (Or.inr (oW hw 35 rfl)) (Or.inl (oW hw 77 rfl)) (by decide) (t := (.array .double)) (t' := (.array .double)) (by decide) (by decide)))
  clear f292
  have f306 : oF Z h300 a1 "pivotsSinceRefactor" "I" (.int 0) := f294.other W300 (Or.inr (slot_ne (Or.inl (oW hw 79 rfl)) (Or.inl (oW hw 77 rfl)) (by decide) (t := .int) (t' := (.array .double)) (by decide) (by decide)))
  clear f294
  have f307 : oF Z h300 a1 "position" "[I" (.ref po) := f295.other W300 (Or.inr (slot_ne (Or.inl (oW hw 23 rfl)) (Or.inl (oW hw 77 rfl)) (by decide) (t := (.array .int)) (t' := (.array .double)) (by decide) (by decide)))
  clear f295
  have f308 : oF Z h300 a1 "infeasibility" "D" (.double 0) := f296.other W300 (Or.inr (slot_ne (Or.inl (oW hw 84 rfl)) (Or.inl (oW hw 77 rfl)) (by decide) (t := .double) (t' := (.array .double)) (by decide) (by decide)))
  clear f296
  have f309 : Exa Z h300 a1 "com/example/trunkwright/trunkwright/traffic/RevisedSimplex" := f297.wr W300
  clear f297
  have f310 : Arv Z h300 rh kh .double (2 : Int32) [(.double d0), (.double d1)] (.double 0) := f298.other W300 ne_rh_a1
  clear f298
  have f311 : oF Z h300 a1 "inverse" "[[D" (.ref b101) := f299.other W300 (Or.inr (slot_ne (Or.inl (oW hw 75 rfl)) (Or.inl (oW hw 77 rfl)) (by decide) (t := (.array (.array .double))) (t' := (.array .double)) (by decide) (by decide)))
  clear f299
  have f312 : Exa Z h300 b287 "[D" := B287.wr W300
  have f313 : Arv Z h300 b287 k287 .double (2 : Int32) [(.double 0), (.double 0)] (.double 0) := V287.other W300 (Ne.symm ne_a1_b287)
  clear V287
  have Fw300 : oF Z h300 a1 "primal" "[D" (.ref b287) := f293.same W300
  have R314 : ∀ t, oG p e below T300 m 249 #[oR a1, oR b6, oR b101, oI 0, oI 1, oI 2, .unset] [(.ref a1), (.int 0)] t → Steps p.tables e below AA t := by
    intro t k
    refine R300 t ?_
    refine XS.iconst X300.here hx rfl (hb hby own_d5_245) ?_
    refine XS.istoreN X300.here hx rfl (hb hby own_d5_246) rfl (l' := #[oR a1, oR b6, oR b101, oI 0, oI 1, oI 2, .unset]) rfl ?_
    refine XS.iloadN X300.here hx rfl (hb hby own_d5_247) rfl ?_
    refine XS.aloadN X300.here hx rfl (hb hby own_d5_248) rfl rfl ?_
    exact k
  clear R300
  obtain ⟨T315, X315, e315, st315⟩ := getF X300 hx hZ hown (host := "") (Or.inl (oW hw 24 rfl)) Via.refl e300 f304 (g := (mkF m 249 #[oR a1, oR b6, oR b101, oI 0, oI 1, oI 2, .unset] [(.ref a1), (.int 0)])) rfl rfl (hb hby own_d5_249)
  have R315 := fun t k => R314 t (st315 t k)
  clear R314 st315 X300 e300
  have R316 : ∀ t, oG p e below T315 m 264 #[oR a1, oR b6, oR b101, oI 0, oD 0, .second, oI 0] [(.ref a1), (.int 0)] t → Steps p.tables e below AA t := by
    intro t k
    refine R315 t ?_
    refine XS.icmpNo X315.here hx rfl (hb hby own_d5_252) rfl (tlt (by decide : ((0 : Int32) < (2 : Int32)))).2.1 ?_
    refine XS.dconst0 X315.here hx rfl (hb hby own_d5_255) (v := (0 : UInt64)) (by decide +kernel) ?_
    refine XS.dstore X315.here hx rfl (hb hby own_d5_256) rfl (l' := #[oR a1, oR b6, oR b101, oI 0, oD 0, .second, .unset]) rfl ?_
    refine XS.iconst X315.here hx rfl (hb hby own_d5_258) ?_
    refine XS.istore X315.here hx rfl (hb hby own_d5_259) rfl (l' := #[oR a1, oR b6, oR b101, oI 0, oD 0, .second, oI 0]) rfl ?_
    show oG p e below T315 m 261 #[oR a1, oR b6, oR b101, oI 0, oD 0, .second, oI 0] [] _
    refine XS.iload X315.here hx rfl (hb hby own_d5_261) rfl ?_
    refine XS.aloadN X315.here hx rfl (hb hby own_d5_263) rfl rfl ?_
    exact k
  clear R315
  obtain ⟨T317, X317, e317, st317⟩ := getF X315 hx hZ hown (host := "") (Or.inl (oW hw 24 rfl)) Via.refl e315 f304 (g := (mkF m 264 #[oR a1, oR b6, oR b101, oI 0, oD 0, .second, oI 0] [(.ref a1), (.int 0)])) rfl rfl (hb hby own_d5_264)
  have R317 := fun t k => R316 t (st317 t k)
  clear R316 st317 X315 e315
  have R318 : ∀ t, oG p e below T317 m 273 #[oR a1, oR b6, oR b101, oI 0, oD 0, .second, oI 0] [(.ref a1), (.double 0)] t → Steps p.tables e below AA t := by
    intro t k
    refine R317 t ?_
    refine XS.icmpNo X317.here hx rfl (hb hby own_d5_267) rfl (tlt (by decide : ((0 : Int32) < (2 : Int32)))).2.1 ?_
    refine XS.dload X317.here hx rfl (hb hby own_d5_270) rfl ?_
    refine XS.aloadN X317.here hx rfl (hb hby own_d5_272) rfl rfl ?_
    exact k
  clear R317
  obtain ⟨T319, X319, e319, st319⟩ := getF X317 hx hZ hown (host := "") (Or.inl (oW hw 74 rfl)) Via.refl e317 f311 (g := (mkF m 273 #[oR a1, oR b6, oR b101, oI 0, oD 0, .second, oI 0] [(.ref a1), (.double 0)])) rfl rfl (hb hby own_d5_273)
  have R319 := fun t k => R318 t (st319 t k)
  clear R318 st319 X317 e317
  have R320 : ∀ t, oG p e below T319 m 277 #[oR a1, oR b6, oR b101, oI 0, oD 0, .second, oI 0] [(.int 0), (.ref b101), (.double 0)] t → Steps p.tables e below AA t := by
    intro t k
    refine R319 t ?_
    refine XS.iloadN X319.here hx rfl (hb hby own_d5_276) rfl ?_
    exact k
  clear R319
  obtain ⟨cl321, Ar321, q321, S321, N321', H321, G321⟩ := id f302
  have hin321_0 : ¬ ((0 : Int32) < 0 ∨ cl321.slots.size ≤ ((0 : Int32)).toNatClampNeg) := inb_of S321 ⟨by decide, by decide⟩
  have hat321_0 : cl321.slots[((0 : Int32)).toNatClampNeg]? = some (.ref x100_1) := H321.at hin321_0 rfl
  have R322 : ∀ t, oG p e below T319 m 280 #[oR a1, oR b6, oR b101, oI 0, oD 0, .second, oI 0] [(.int 0), (.ref x100_1), (.double 0)] t → Steps p.tables e below AA t := by
    intro t k
    refine R320 t ?_
    refine X319.aaload hx (j := (0 : Int32)) (v := (.ref x100_1)) (by rw [e319]; exact Ar321.1) (State.isArrayOf_alike hZ.alike Ar321.2.1) rfl Ar321.2.2 hin321_0 hat321_0 (g := (mkF m 277 #[oR a1, oR b6, oR b101, oI 0, oD 0, .second, oI 0] [(.int 0), (.ref b101), (.double 0)])) rfl rfl (hb hby own_d5_277) _ ?_
    refine XS.iload X319.here hx rfl (hb hby own_d5_278) rfl ?_
    exact k
  clear R320
  obtain ⟨cl323, Ar323, q323, S323, N323', H323, G323⟩ := id f301
  have hin323_0 : ¬ ((0 : Int32) < 0 ∨ cl323.slots.size ≤ ((0 : Int32)).toNatClampNeg) := inb_of S323 ⟨by decide, by decide⟩
  have hat323_0 : cl323.slots[((0 : Int32)).toNatClampNeg]? = some (.double 0) := H323.at hin323_0 rfl
  have R324 : ∀ t, oG p e below T319 m 282 #[oR a1, oR b6, oR b101, oI 0, oD 0, .second, oI 0] [(.ref a1), (.double 0), (.double 0)] t → Steps p.tables e below AA t := by
    intro t k
    refine R322 t ?_
    refine X319.daload hx (j := (0 : Int32)) (v := (.double 0)) (by rw [e319]; exact Ar323.1) (State.isArrayOf_alike hZ.alike Ar323.2.1) Ar323.2.2 hin323_0 hat323_0 (g := (mkF m 280 #[oR a1, oR b6, oR b101, oI 0, oD 0, .second, oI 0] [(.int 0), (.ref x100_1), (.double 0)])) rfl rfl (hb hby own_d5_280) _ ?_
    refine XS.aloadN X319.here hx rfl (hb hby own_d5_281) rfl rfl ?_
    exact k
  clear R322
  obtain ⟨T325, X325, e325, st325⟩ := getF X319 hx hZ hown (host := "") (Or.inl (oW hw 34 rfl)) Via.refl e319 f305 (g := (mkF m 282 #[oR a1, oR b6, oR b101, oI 0, oD 0, .second, oI 0] [(.ref a1), (.double 0), (.double 0)])) rfl rfl (hb hby own_d5_282)
  have R325 := fun t k => R324 t (st325 t k)
  clear R324 st325 X319 e319
  have R326 : ∀ t, oG p e below T325 m 287 #[oR a1, oR b6, oR b101, oI 0, oD 0, .second, oI 0] [(.int 0), (.ref rh), (.double 0), (.double 0)] t → Steps p.tables e below AA t := by
    intro t k
    refine R325 t ?_
    refine XS.iload X325.here hx rfl (hb hby own_d5_285) rfl ?_
    exact k
  clear R325
  obtain ⟨cl327, Ar327, q327, S327, N327', H327, G327⟩ := id f310
  have hin327_0 : ¬ ((0 : Int32) < 0 ∨ cl327.slots.size ≤ ((0 : Int32)).toNatClampNeg) := inb_of S327 ⟨by decide, by decide⟩
  have hat327_0 : cl327.slots[((0 : Int32)).toNatClampNeg]? = some (.double d0) := H327.at hin327_0 rfl
  have R328 : ∀ t, oG p e below T325 m 264 #[oR a1, oR b6, oR b101, oI 0, oD 0, .second, oI 1] [(.ref a1), (.int 1)] t → Steps p.tables e below AA t := by
    intro t k
    refine R326 t ?_
    refine X325.daload hx (j := (0 : Int32)) (v := (.double d0)) (by rw [e325]; exact Ar327.1) (State.isArrayOf_alike hZ.alike Ar327.2.1) Ar327.2.2 hin327_0 hat327_0 (g := (mkF m 287 #[oR a1, oR b6, oR b101, oI 0, oD 0, .second, oI 0] [(.int 0), (.ref rh), (.double 0), (.double 0)])) rfl rfl (hb hby own_d5_287) _ ?_
    refine XS.dmulS X325.here hx rfl (hb hby own_d5_288) rfl (by rw [own_mul0' sd0]; exact own_n0) (own_mul0 sd0) ?_
    refine XS.daddS X325.here hx rfl (hb hby own_d5_289) rfl (by rw [own_a00]; exact own_n0) own_a00 ?_
    refine XS.dstore X325.here hx rfl (hb hby own_d5_290) rfl (l' := #[oR a1, oR b6, oR b101, oI 0, oD 0, .second, oI 0]) rfl ?_
    refine XS.iinc X325.here hx rfl (hb hby own_d5_292) rfl (l' := #[oR a1, oR b6, oR b101, oI 0, oD 0, .second, oI 1]) rfl ?_
    show oG p e below T325 m 295 #[oR a1, oR b6, oR b101, oI 0, oD 0, .second, oI 1] [] _
    refine XS.goto X325.here hx rfl (pc0 := 295) (pc' := 261) rfl (hb hby own_d5_295) (by decide) (by decide) ?_
    refine XS.iload X325.here hx rfl (hb hby own_d5_261) rfl ?_
    refine XS.aloadN X325.here hx rfl (hb hby own_d5_263) rfl rfl ?_
    exact k
  clear R326
  obtain ⟨T329, X329, e329, st329⟩ := getF X325 hx hZ hown (host := "") (Or.inl (oW hw 24 rfl)) Via.refl e325 f304 (g := (mkF m 264 #[oR a1, oR b6, oR b101, oI 0, oD 0, .second, oI 1] [(.ref a1), (.int 1)])) rfl rfl (hb hby own_d5_264)
  have R329 := fun t k => R328 t (st329 t k)
  clear R328 st329 X325 e325
  have R330 : ∀ t, oG p e below T329 m 273 #[oR a1, oR b6, oR b101, oI 0, oD 0, .second, oI 1] [(.ref a1), (.double 0)] t → Steps p.tables e below AA t := by
    intro t k
    refine R329 t ?_
    refine XS.icmpNo X329.here hx rfl (hb hby own_d5_267) rfl (tlt (by decide : ((1 : Int32) < (2 : Int32)))).2.1 ?_
    refine XS.dload X329.here hx rfl (hb hby own_d5_270) rfl ?_
    refine XS.aloadN X329.here hx rfl (hb hby own_d5_272) rfl rfl ?_
    exact k
  clear R329
  obtain ⟨T331, X331, e331, st331⟩ := getF X329 hx hZ hown (host := "") (Or.inl (oW hw 74 rfl)) Via.refl e329 f311 (g := (mkF m 273 #[oR a1, oR b6, oR b101, oI 0, oD 0, .second, oI 1] [(.ref a1), (.double 0)])) rfl rfl (hb hby own_d5_273)
  have R331 := fun t k => R330 t (st331 t k)
  clear R330 st331 X329 e329
  have R332 : ∀ t, oG p e below T331 m 280 #[oR a1, oR b6, oR b101, oI 0, oD 0, .second, oI 1] [(.int 1), (.ref x100_1), (.double 0)] t → Steps p.tables e below AA t := by
    intro t k
    refine R331 t ?_
    refine XS.iloadN X331.here hx rfl (hb hby own_d5_276) rfl ?_
    refine X331.aaload hx (j := (0 : Int32)) (v := (.ref x100_1)) (by rw [e331]; exact Ar321.1) (State.isArrayOf_alike hZ.alike Ar321.2.1) rfl Ar321.2.2 hin321_0 hat321_0 (g := (mkF m 277 #[oR a1, oR b6, oR b101, oI 0, oD 0, .second, oI 1] [(.int 0), (.ref b101), (.double 0)])) rfl rfl (hb hby own_d5_277) _ ?_
    refine XS.iload X331.here hx rfl (hb hby own_d5_278) rfl ?_
    exact k
  clear R331
  have hin323_1 : ¬ ((1 : Int32) < 0 ∨ cl323.slots.size ≤ ((1 : Int32)).toNatClampNeg) := inb_of S323 ⟨by decide, by decide⟩
  have hat323_1 : cl323.slots[((1 : Int32)).toNatClampNeg]? = some (.double iv0) := H323.at hin323_1 rfl
  have R333 : ∀ t, oG p e below T331 m 282 #[oR a1, oR b6, oR b101, oI 0, oD 0, .second, oI 1] [(.ref a1), (.double iv0), (.double 0)] t → Steps p.tables e below AA t := by
    intro t k
    refine R332 t ?_
    refine X331.daload hx (j := (1 : Int32)) (v := (.double iv0)) (by rw [e331]; exact Ar323.1) (State.isArrayOf_alike hZ.alike Ar323.2.1) Ar323.2.2 hin323_1 hat323_1 (g := (mkF m 280 #[oR a1, oR b6, oR b101, oI 0, oD 0, .second, oI 1] [(.int 1), (.ref x100_1), (.double 0)])) rfl rfl (hb hby own_d5_280) _ ?_
    refine XS.aloadN X331.here hx rfl (hb hby own_d5_281) rfl rfl ?_
    exact k
  clear R332
  obtain ⟨T334, X334, e334, st334⟩ := getF X331 hx hZ hown (host := "") (Or.inl (oW hw 34 rfl)) Via.refl e331 f305 (g := (mkF m 282 #[oR a1, oR b6, oR b101, oI 0, oD 0, .second, oI 1] [(.ref a1), (.double iv0), (.double 0)])) rfl rfl (hb hby own_d5_282)
  have R334 := fun t k => R333 t (st334 t k)
  clear R333 st334 X331 e331
  have R335 : ∀ t, oG p e below T334 m 287 #[oR a1, oR b6, oR b101, oI 0, oD 0, .second, oI 1] [(.int 1), (.ref rh), (.double iv0), (.double 0)] t → Steps p.tables e below AA t := by
    intro t k
    refine R334 t ?_
    refine XS.iload X334.here hx rfl (hb hby own_d5_285) rfl ?_
    exact k
  clear R334
  have hin327_1 : ¬ ((1 : Int32) < 0 ∨ cl327.slots.size ≤ ((1 : Int32)).toNatClampNeg) := inb_of S327 ⟨by decide, by decide⟩
  have hat327_1 : cl327.slots[((1 : Int32)).toNatClampNeg]? = some (.double d1) := H327.at hin327_1 rfl
  have R336 : ∀ t, oG p e below T334 m 264 #[oR a1, oR b6, oR b101, oI 0, oD x0, .second, oI 2] [(.ref a1), (.int 2)] t → Steps p.tables e below AA t := by
    intro t k
    refine R335 t ?_
    refine X334.daload hx (j := (1 : Int32)) (v := (.double d1)) (by rw [e334]; exact Ar327.1) (State.isArrayOf_alike hZ.alike Ar327.2.1) Ar327.2.2 hin327_1 hat327_1 (g := (mkF m 287 #[oR a1, oR b6, oR b101, oI 0, oD 0, .second, oI 1] [(.int 1), (.ref rh), (.double iv0), (.double 0)])) rfl rfl (hb hby own_d5_287) _ ?_
    refine XS.dmulS X334.here hx rfl (hb hby own_d5_288) rfl (by rw [mi0]; exact own_NN nx0) mi0 ?_
    refine XS.daddS X334.here hx rfl (hb hby own_d5_289) rfl (by rw [own_0add' nx0]; exact own_NN nx0) (own_0add nx0) ?_
    refine XS.dstore X334.here hx rfl (hb hby own_d5_290) rfl (l' := #[oR a1, oR b6, oR b101, oI 0, oD x0, .second, oI 1]) rfl ?_
    refine XS.iinc X334.here hx rfl (hb hby own_d5_292) rfl (l' := #[oR a1, oR b6, oR b101, oI 0, oD x0, .second, oI 2]) rfl ?_
    show oG p e below T334 m 295 #[oR a1, oR b6, oR b101, oI 0, oD x0, .second, oI 2] [] _
    refine XS.goto X334.here hx rfl (pc0 := 295) (pc' := 261) rfl (hb hby own_d5_295) (by decide) (by decide) ?_
    refine XS.iload X334.here hx rfl (hb hby own_d5_261) rfl ?_
    refine XS.aloadN X334.here hx rfl (hb hby own_d5_263) rfl rfl ?_
    exact k
  clear R335
  obtain ⟨T337, X337, e337, st337⟩ := getF X334 hx hZ hown (host := "") (Or.inl (oW hw 24 rfl)) Via.refl e334 f304 (g := (mkF m 264 #[oR a1, oR b6, oR b101, oI 0, oD x0, .second, oI 2] [(.ref a1), (.int 2)])) rfl rfl (hb hby own_d5_264)
  have R337 := fun t k => R336 t (st337 t k)
  clear R336 st337 X334 e334
  have R338 : ∀ t, oG p e below T337 m 299 #[oR a1, oR b6, oR b101, oI 0, oD x0, .second, oI 2] [(.ref a1)] t → Steps p.tables e below AA t := by
    intro t k
    refine R337 t ?_
    refine XS.icmpYes X337.here hx rfl (pc0 := 267) (pc' := 298) rfl (hb hby own_d5_267) rfl (flt (by decide : ¬ ((2 : Int32) < (2 : Int32)))).2.1 (by decide) (by decide) ?_
    refine XS.aloadN X337.here hx rfl (hb hby own_d5_298) rfl rfl ?_
    exact k
  clear R337
  obtain ⟨T339, X339, e339, st339⟩ := getF X337 hx hZ hown (host := "") (Or.inl (oW hw 76 rfl)) Via.refl e337 Fw300 (g := (mkF m 299 #[oR a1, oR b6, oR b101, oI 0, oD x0, .second, oI 2] [(.ref a1)])) rfl rfl (hb hby own_d5_299)
  have R339 := fun t k => R338 t (st339 t k)
  clear R338 st339 X337 e337
  have R340 : ∀ t, oG p e below T339 m 305 #[oR a1, oR b6, oR b101, oI 0, oD x0, .second, oI 2] [(.double x0), (.int 0), (.ref b287)] t → Steps p.tables e below AA t := by
    intro t k
    refine R339 t ?_
    refine XS.iloadN X339.here hx rfl (hb hby own_d5_302) rfl ?_
    refine XS.dload X339.here hx rfl (hb hby own_d5_303) rfl ?_
    exact k
  clear R339
  obtain ⟨cl341, Ar341, q341, S341, N341', H341, G341⟩ := id f313
  have hin341 : ¬ ((0 : Int32) < 0 ∨ cl341.slots.size ≤ ((0 : Int32)).toNatClampNeg) := inb_of S341 ⟨by decide, by decide⟩
  obtain ⟨T342, h342, X342, e342, W342, st342⟩ := stD X339 hx hZ e339 Ar341 (j := (0 : Int32)) hin341 (g := (mkF m 305 #[oR a1, oR b6, oR b101, oI 0, oD x0, .second, oI 2] [(.double x0), (.int 0), (.ref b287)])) rfl rfl (hb hby own_d5_305)
  have R342 := fun t k => R340 t (st342 t k)
  clear R340 st342 X339 e339
  have Z342 : n0 ≤ h342.size := Nat.le_trans Z300 (Keep.of_wr W342).1
  clear Z300
  have K342 : Keep h0 h342 [a1] := K300.wr W342 (Or.inr sz_b287)
  have N342 := Fr.snoc X342 N300 g_b287
  clear K300
  clear N300
  have f343 : Arv Z h342 x100_1 c101 .double (2 : Int32) [(.double 0), (.double iv0)] (.double 0) := f301.other W342 ne_x100_1_b287
  clear f301
  have f344 : Arv Z h342 b101 k101 (.array .double) (2 : Int32) [(.ref x100_1), (.ref x100_0)] .null := f302.other W342 ne_b101_b287
  clear f302
  have f345 : Arv Z h342 x100_0 c101 .double (2 : Int32) [(.double iv1), (.double 0)] (.double 0) := f303.other W342 ne_x100_0_b287
  clear f303
  have f346 : oF Z h342 a1 "rows" "I" (.int 2) := f304.other W342 (Or.inl ne_a1_b287)
  clear f304
  have f347 : oF Z h342 a1 "rhs" "[D" (.ref rh) := f305.other W342 (Or.inl ne_a1_b287)
  clear f305
  have f348 : oF Z h342 a1 "pivotsSinceRefactor" "I" (.int 0) := f306.other W342 (Or.inl ne_a1_b287)
  clear f306
  have f349 : oF Z h342 a1 "position" "[I" (.ref po) := f307.other W342 (Or.inl ne_a1_b287)
  clear f307
  have f350 : oF Z h342 a1 "infeasibility" "D" (.double 0) := f308.other W342 (Or.inl ne_a1_b287)
  clear f308
  have f351 : Exa Z h342 a1 "com/example/trunkwright/trunkwright/traffic/RevisedSimplex" := f309.wr W342
  clear f309
  have f352 : Arv Z h342 rh kh .double (2 : Int32) [(.double d0), (.double d1)] (.double 0) := f310.other W342 ne_rh_b287
  clear f310
  have f353 : oF Z h342 a1 "inverse" "[[D" (.ref b101) := f311.other W342 (Or.inl ne_a1_b287)
  clear f311
  have f354 : Exa Z h342 b287 "[D" := f312.wr W342
  clear f312
  have f355 : oF Z h342 a1 "primal" "[D" (.ref b287) := Fw300.other W342 (Or.inl ne_a1_b287)
  clear Fw300
  have V342 : Arv Z h342 b287 k287 .double (2 : Int32) [(.double x0), (.double 0)] (.double 0) := Arv.set Ar341 q341 S341 N341' H341 G341 rfl W342 0 rfl (Nat.le_of_ble_eq_true rfl)
  clear Ar341 q341 S341 N341' H341 G341 hin341 W342 f313
  have R356 : ∀ t, oG p e below T342 m 249 #[oR a1, oR b6, oR b101, oI 1, oD x0, .second, oI 2] [(.ref a1), (.int 1)] t → Steps p.tables e below AA t := by
    intro t k
    refine R342 t ?_
    refine XS.iinc X342.here hx rfl (hb hby own_d5_306) rfl (l' := #[oR a1, oR b6, oR b101, oI 1, oD x0, .second, oI 2]) rfl ?_
    refine XS.goto X342.here hx rfl (pc0 := 309) (pc' := 247) rfl (hb hby own_d5_309) (by decide) (by decide) ?_
    refine XS.iloadN X342.here hx rfl (hb hby own_d5_247) rfl ?_
    refine XS.aloadN X342.here hx rfl (hb hby own_d5_248) rfl rfl ?_
    exact k
  clear R342
  obtain ⟨T357, X357, e357, st357⟩ := getF X342 hx hZ hown (host := "") (Or.inl (oW hw 24 rfl)) Via.refl e342 f346 (g := (mkF m 249 #[oR a1, oR b6, oR b101, oI 1, oD x0, .second, oI 2] [(.ref a1), (.int 1)])) rfl rfl (hb hby own_d5_249)
  have R357 := fun t k => R356 t (st357 t k)
  clear R356 st357 X342 e342
  have R358 : ∀ t, oG p e below T357 m 264 #[oR a1, oR b6, oR b101, oI 1, oD 0, .second, oI 0] [(.ref a1), (.int 0)] t → Steps p.tables e below AA t := by
    intro t k
    refine R357 t ?_
    refine XS.icmpNo X357.here hx rfl (hb hby own_d5_252) rfl (tlt (by decide : ((1 : Int32) < (2 : Int32)))).2.1 ?_
    refine XS.dconst0 X357.here hx rfl (hb hby own_d5_255) (v := (0 : UInt64)) (by decide +kernel) ?_
    refine XS.dstore X357.here hx rfl (hb hby own_d5_256) rfl (l' := #[oR a1, oR b6, oR b101, oI 1, oD 0, .second, oI 2]) rfl ?_
    refine XS.iconst X357.here hx rfl (hb hby own_d5_258) ?_
    refine XS.istore X357.here hx rfl (hb hby own_d5_259) rfl (l' := #[oR a1, oR b6, oR b101, oI 1, oD 0, .second, oI 0]) rfl ?_
    show oG p e below T357 m 261 #[oR a1, oR b6, oR b101, oI 1, oD 0, .second, oI 0] [] _
    refine XS.iload X357.here hx rfl (hb hby own_d5_261) rfl ?_
    refine XS.aloadN X357.here hx rfl (hb hby own_d5_263) rfl rfl ?_
    exact k
  clear R357
  obtain ⟨T359, X359, e359, st359⟩ := getF X357 hx hZ hown (host := "") (Or.inl (oW hw 24 rfl)) Via.refl e357 f346 (g := (mkF m 264 #[oR a1, oR b6, oR b101, oI 1, oD 0, .second, oI 0] [(.ref a1), (.int 0)])) rfl rfl (hb hby own_d5_264)
  have R359 := fun t k => R358 t (st359 t k)
  clear R358 st359 X357 e357
  have R360 : ∀ t, oG p e below T359 m 273 #[oR a1, oR b6, oR b101, oI 1, oD 0, .second, oI 0] [(.ref a1), (.double 0)] t → Steps p.tables e below AA t := by
    intro t k
    refine R359 t ?_
    refine XS.icmpNo X359.here hx rfl (hb hby own_d5_267) rfl (tlt (by decide : ((0 : Int32) < (2 : Int32)))).2.1 ?_
    refine XS.dload X359.here hx rfl (hb hby own_d5_270) rfl ?_
    refine XS.aloadN X359.here hx rfl (hb hby own_d5_272) rfl rfl ?_
    exact k
  clear R359
  obtain ⟨T361, X361, e361, st361⟩ := getF X359 hx hZ hown (host := "") (Or.inl (oW hw 74 rfl)) Via.refl e359 f353 (g := (mkF m 273 #[oR a1, oR b6, oR b101, oI 1, oD 0, .second, oI 0] [(.ref a1), (.double 0)])) rfl rfl (hb hby own_d5_273)
  have R361 := fun t k => R360 t (st361 t k)
  clear R360 st361 X359 e359
  have R362 : ∀ t, oG p e below T361 m 277 #[oR a1, oR b6, oR b101, oI 1, oD 0, .second, oI 0] [(.int 1), (.ref b101), (.double 0)] t → Steps p.tables e below AA t := by
    intro t k
    refine R361 t ?_
    refine XS.iloadN X361.here hx rfl (hb hby own_d5_276) rfl ?_
    exact k
  clear R361
  obtain ⟨cl363, Ar363, q363, S363, N363', H363, G363⟩ := id f344
  have hin363_1 : ¬ ((1 : Int32) < 0 ∨ cl363.slots.size ≤ ((1 : Int32)).toNatClampNeg) := inb_of S363 ⟨by decide, by decide⟩
  have hat363_1 : cl363.slots[((1 : Int32)).toNatClampNeg]? = some (.ref x100_0) := H363.at hin363_1 rfl
  have R364 : ∀ t, oG p e below T361 m 280 #[oR a1, oR b6, oR b101, oI 1, oD 0, .second, oI 0] [(.int 0), (.ref x100_0), (.double 0)] t → Steps p.tables e below AA t := by
    intro t k
    refine R362 t ?_
    refine X361.aaload hx (j := (1 : Int32)) (v := (.ref x100_0)) (by rw [e361]; exact Ar363.1) (State.isArrayOf_alike hZ.alike Ar363.2.1) rfl Ar363.2.2 hin363_1 hat363_1 (g := (mkF m 277 #[oR a1, oR b6, oR b101, oI 1, oD 0, .second, oI 0] [(.int 1), (.ref b101), (.double 0)])) rfl rfl (hb hby own_d5_277) _ ?_
    refine XS.iload X361.here hx rfl (hb hby own_d5_278) rfl ?_
    exact k
  clear R362
  obtain ⟨cl365, Ar365, q365, S365, N365', H365, G365⟩ := id f345
  have hin365_0 : ¬ ((0 : Int32) < 0 ∨ cl365.slots.size ≤ ((0 : Int32)).toNatClampNeg) := inb_of S365 ⟨by decide, by decide⟩
  have hat365_0 : cl365.slots[((0 : Int32)).toNatClampNeg]? = some (.double iv1) := H365.at hin365_0 rfl
  have R366 : ∀ t, oG p e below T361 m 282 #[oR a1, oR b6, oR b101, oI 1, oD 0, .second, oI 0] [(.ref a1), (.double iv1), (.double 0)] t → Steps p.tables e below AA t := by
    intro t k
    refine R364 t ?_
    refine X361.daload hx (j := (0 : Int32)) (v := (.double iv1)) (by rw [e361]; exact Ar365.1) (State.isArrayOf_alike hZ.alike Ar365.2.1) Ar365.2.2 hin365_0 hat365_0 (g := (mkF m 280 #[oR a1, oR b6, oR b101, oI 1, oD 0, .second, oI 0] [(.int 0), (.ref x100_0), (.double 0)])) rfl rfl (hb hby own_d5_280) _ ?_
    refine XS.aloadN X361.here hx rfl (hb hby own_d5_281) rfl rfl ?_
    exact k
  clear R364
  obtain ⟨T367, X367, e367, st367⟩ := getF X361 hx hZ hown (host := "") (Or.inl (oW hw 34 rfl)) Via.refl e361 f347 (g := (mkF m 282 #[oR a1, oR b6, oR b101, oI 1, oD 0, .second, oI 0] [(.ref a1), (.double iv1), (.double 0)])) rfl rfl (hb hby own_d5_282)
  have R367 := fun t k => R366 t (st367 t k)
  clear R366 st367 X361 e361
  have R368 : ∀ t, oG p e below T367 m 287 #[oR a1, oR b6, oR b101, oI 1, oD 0, .second, oI 0] [(.int 0), (.ref rh), (.double iv1), (.double 0)] t → Steps p.tables e below AA t := by
    intro t k
    refine R367 t ?_
    refine XS.iload X367.here hx rfl (hb hby own_d5_285) rfl ?_
    exact k
  clear R367
  obtain ⟨cl369, Ar369, q369, S369, N369', H369, G369⟩ := id f352
  have hin369_0 : ¬ ((0 : Int32) < 0 ∨ cl369.slots.size ≤ ((0 : Int32)).toNatClampNeg) := inb_of S369 ⟨by decide, by decide⟩
  have hat369_0 : cl369.slots[((0 : Int32)).toNatClampNeg]? = some (.double d0) := H369.at hin369_0 rfl
  have R370 : ∀ t, oG p e below T367 m 264 #[oR a1, oR b6, oR b101, oI 1, oD x1, .second, oI 1] [(.ref a1), (.int 1)] t → Steps p.tables e below AA t := by
    intro t k
    refine R368 t ?_
    refine X367.daload hx (j := (0 : Int32)) (v := (.double d0)) (by rw [e367]; exact Ar369.1) (State.isArrayOf_alike hZ.alike Ar369.2.1) Ar369.2.2 hin369_0 hat369_0 (g := (mkF m 287 #[oR a1, oR b6, oR b101, oI 1, oD 0, .second, oI 0] [(.int 0), (.ref rh), (.double iv1), (.double 0)])) rfl rfl (hb hby own_d5_287) _ ?_
    refine XS.dmulS X367.here hx rfl (hb hby own_d5_288) rfl (by rw [mi1]; exact own_NN nx1) mi1 ?_
    refine XS.daddS X367.here hx rfl (hb hby own_d5_289) rfl (by rw [own_0add' nx1]; exact own_NN nx1) (own_0add nx1) ?_
    refine XS.dstore X367.here hx rfl (hb hby own_d5_290) rfl (l' := #[oR a1, oR b6, oR b101, oI 1, oD x1, .second, oI 0]) rfl ?_
    refine XS.iinc X367.here hx rfl (hb hby own_d5_292) rfl (l' := #[oR a1, oR b6, oR b101, oI 1, oD x1, .second, oI 1]) rfl ?_
    show oG p e below T367 m 295 #[oR a1, oR b6, oR b101, oI 1, oD x1, .second, oI 1] [] _
    refine XS.goto X367.here hx rfl (pc0 := 295) (pc' := 261) rfl (hb hby own_d5_295) (by decide) (by decide) ?_
    refine XS.iload X367.here hx rfl (hb hby own_d5_261) rfl ?_
    refine XS.aloadN X367.here hx rfl (hb hby own_d5_263) rfl rfl ?_
    exact k
  clear R368
  obtain ⟨T371, X371, e371, st371⟩ := getF X367 hx hZ hown (host := "") (Or.inl (oW hw 24 rfl)) Via.refl e367 f346 (g := (mkF m 264 #[oR a1, oR b6, oR b101, oI 1, oD x1, .second, oI 1] [(.ref a1), (.int 1)])) rfl rfl (hb hby own_d5_264)
  have R371 := fun t k => R370 t (st371 t k)
  clear R370 st371 X367 e367
  have R372 : ∀ t, oG p e below T371 m 273 #[oR a1, oR b6, oR b101, oI 1, oD x1, .second, oI 1] [(.ref a1), (.double x1)] t → Steps p.tables e below AA t := by
    intro t k
    refine R371 t ?_
    refine XS.icmpNo X371.here hx rfl (hb hby own_d5_267) rfl (tlt (by decide : ((1 : Int32) < (2 : Int32)))).2.1 ?_
    refine XS.dload X371.here hx rfl (hb hby own_d5_270) rfl ?_
    refine XS.aloadN X371.here hx rfl (hb hby own_d5_272) rfl rfl ?_
    exact k
  clear R371
  obtain ⟨T373, X373, e373, st373⟩ := getF X371 hx hZ hown (host := "") (Or.inl (oW hw 74 rfl)) Via.refl e371 f353 (g := (mkF m 273 #[oR a1, oR b6, oR b101, oI 1, oD x1, .second, oI 1] [(.ref a1), (.double x1)])) rfl rfl (hb hby own_d5_273)
  have R373 := fun t k => R372 t (st373 t k)
  clear R372 st373 X371 e371
  have R374 : ∀ t, oG p e below T373 m 280 #[oR a1, oR b6, oR b101, oI 1, oD x1, .second, oI 1] [(.int 1), (.ref x100_0), (.double x1)] t → Steps p.tables e below AA t := by
    intro t k
    refine R373 t ?_
    refine XS.iloadN X373.here hx rfl (hb hby own_d5_276) rfl ?_
    refine X373.aaload hx (j := (1 : Int32)) (v := (.ref x100_0)) (by rw [e373]; exact Ar363.1) (State.isArrayOf_alike hZ.alike Ar363.2.1) rfl Ar363.2.2 hin363_1 hat363_1 (g := (mkF m 277 #[oR a1, oR b6, oR b101, oI 1, oD x1, .second, oI 1] [(.int 1), (.ref b101), (.double x1)])) rfl rfl (hb hby own_d5_277) _ ?_
    refine XS.iload X373.here hx rfl (hb hby own_d5_278) rfl ?_
    exact k
  clear R373
  have hin365_1 : ¬ ((1 : Int32) < 0 ∨ cl365.slots.size ≤ ((1 : Int32)).toNatClampNeg) := inb_of S365 ⟨by decide, by decide⟩
  have hat365_1 : cl365.slots[((1 : Int32)).toNatClampNeg]? = some (.double 0) := H365.at hin365_1 rfl
  have R375 : ∀ t, oG p e below T373 m 282 #[oR a1, oR b6, oR b101, oI 1, oD x1, .second, oI 1] [(.ref a1), (.double 0), (.double x1)] t → Steps p.tables e below AA t := by
    intro t k
    refine R374 t ?_
    refine X373.daload hx (j := (1 : Int32)) (v := (.double 0)) (by rw [e373]; exact Ar365.1) (State.isArrayOf_alike hZ.alike Ar365.2.1) Ar365.2.2 hin365_1 hat365_1 (g := (mkF m 280 #[oR a1, oR b6, oR b101, oI 1, oD x1, .second, oI 1] [(.int 1), (.ref x100_0), (.double x1)])) rfl rfl (hb hby own_d5_280) _ ?_
    refine XS.aloadN X373.here hx rfl (hb hby own_d5_281) rfl rfl ?_
    exact k
  clear R374
  obtain ⟨T376, X376, e376, st376⟩ := getF X373 hx hZ hown (host := "") (Or.inl (oW hw 34 rfl)) Via.refl e373 f347 (g := (mkF m 282 #[oR a1, oR b6, oR b101, oI 1, oD x1, .second, oI 1] [(.ref a1), (.double 0), (.double x1)])) rfl rfl (hb hby own_d5_282)
  have R376 := fun t k => R375 t (st376 t k)
  clear R375 st376 X373 e373
  have R377 : ∀ t, oG p e below T376 m 287 #[oR a1, oR b6, oR b101, oI 1, oD x1, .second, oI 1] [(.int 1), (.ref rh), (.double 0), (.double x1)] t → Steps p.tables e below AA t := by
    intro t k
    refine R376 t ?_
    refine XS.iload X376.here hx rfl (hb hby own_d5_285) rfl ?_
    exact k
  clear R376
  have hin369_1 : ¬ ((1 : Int32) < 0 ∨ cl369.slots.size ≤ ((1 : Int32)).toNatClampNeg) := inb_of S369 ⟨by decide, by decide⟩
  have hat369_1 : cl369.slots[((1 : Int32)).toNatClampNeg]? = some (.double d1) := H369.at hin369_1 rfl
  have R378 : ∀ t, oG p e below T376 m 264 #[oR a1, oR b6, oR b101, oI 1, oD x1, .second, oI 2] [(.ref a1), (.int 2)] t → Steps p.tables e below AA t := by
    intro t k
    refine R377 t ?_
    refine X376.daload hx (j := (1 : Int32)) (v := (.double d1)) (by rw [e376]; exact Ar369.1) (State.isArrayOf_alike hZ.alike Ar369.2.1) Ar369.2.2 hin369_1 hat369_1 (g := (mkF m 287 #[oR a1, oR b6, oR b101, oI 1, oD x1, .second, oI 1] [(.int 1), (.ref rh), (.double 0), (.double x1)])) rfl rfl (hb hby own_d5_287) _ ?_
    refine XS.dmulS X376.here hx rfl (hb hby own_d5_288) rfl (by rw [own_mul0' sd1]; exact own_n0) (own_mul0 sd1) ?_
    refine XS.daddS X376.here hx rfl (hb hby own_d5_289) rfl (by rw [own_add0' nx1]; exact own_NN nx1) (own_add0 nx1) ?_
    refine XS.dstore X376.here hx rfl (hb hby own_d5_290) rfl (l' := #[oR a1, oR b6, oR b101, oI 1, oD x1, .second, oI 1]) rfl ?_
    refine XS.iinc X376.here hx rfl (hb hby own_d5_292) rfl (l' := #[oR a1, oR b6, oR b101, oI 1, oD x1, .second, oI 2]) rfl ?_
    show oG p e below T376 m 295 #[oR a1, oR b6, oR b101, oI 1, oD x1, .second, oI 2] [] _
    refine XS.goto X376.here hx rfl (pc0 := 295) (pc' := 261) rfl (hb hby own_d5_295) (by decide) (by decide) ?_
    refine XS.iload X376.here hx rfl (hb hby own_d5_261) rfl ?_
    refine XS.aloadN X376.here hx rfl (hb hby own_d5_263) rfl rfl ?_
    exact k
  clear R377
  obtain ⟨T379, X379, e379, st379⟩ := getF X376 hx hZ hown (host := "") (Or.inl (oW hw 24 rfl)) Via.refl e376 f346 (g := (mkF m 264 #[oR a1, oR b6, oR b101, oI 1, oD x1, .second, oI 2] [(.ref a1), (.int 2)])) rfl rfl (hb hby own_d5_264)
  have R379 := fun t k => R378 t (st379 t k)
  clear R378 st379 X376 e376
  have R380 : ∀ t, oG p e below T379 m 299 #[oR a1, oR b6, oR b101, oI 1, oD x1, .second, oI 2] [(.ref a1)] t → Steps p.tables e below AA t := by
    intro t k
    refine R379 t ?_
    refine XS.icmpYes X379.here hx rfl (pc0 := 267) (pc' := 298) rfl (hb hby own_d5_267) rfl (flt (by decide : ¬ ((2 : Int32) < (2 : Int32)))).2.1 (by decide) (by decide) ?_
    refine XS.aloadN X379.here hx rfl (hb hby own_d5_298) rfl rfl ?_
    exact k
  clear R379
  obtain ⟨T381, X381, e381, st381⟩ := getF X379 hx hZ hown (host := "") (Or.inl (oW hw 76 rfl)) Via.refl e379 f355 (g := (mkF m 299 #[oR a1, oR b6, oR b101, oI 1, oD x1, .second, oI 2] [(.ref a1)])) rfl rfl (hb hby own_d5_299)
  have R381 := fun t k => R380 t (st381 t k)
  clear R380 st381 X379 e379
  have R382 : ∀ t, oG p e below T381 m 305 #[oR a1, oR b6, oR b101, oI 1, oD x1, .second, oI 2] [(.double x1), (.int 1), (.ref b287)] t → Steps p.tables e below AA t := by
    intro t k
    refine R381 t ?_
    refine XS.iloadN X381.here hx rfl (hb hby own_d5_302) rfl ?_
    refine XS.dload X381.here hx rfl (hb hby own_d5_303) rfl ?_
    exact k
  clear R381
  obtain ⟨cl383, Ar383, q383, S383, N383', H383, G383⟩ := id V342
  have hin383 : ¬ ((1 : Int32) < 0 ∨ cl383.slots.size ≤ ((1 : Int32)).toNatClampNeg) := inb_of S383 ⟨by decide, by decide⟩
  obtain ⟨T384, h384, X384, e384, W384, st384⟩ := stD X381 hx hZ e381 Ar383 (j := (1 : Int32)) hin383 (g := (mkF m 305 #[oR a1, oR b6, oR b101, oI 1, oD x1, .second, oI 2] [(.double x1), (.int 1), (.ref b287)])) rfl rfl (hb hby own_d5_305)
  have R384 := fun t k => R382 t (st384 t k)
  clear R382 st384 X381 e381
  have Z384 : n0 ≤ h384.size := Nat.le_trans Z342 (Keep.of_wr W384).1
  clear Z342
  have K384 : Keep h0 h384 [a1] := K342.wr W384 (Or.inr sz_b287)
  have N384 := Fr.snoc X384 N342 g_b287
  clear K342
  clear N342
  have f385 : Arv Z h384 x100_1 c101 .double (2 : Int32) [(.double 0), (.double iv0)] (.double 0) := f343.other W384 ne_x100_1_b287
  clear f343
  have f386 : Arv Z h384 b101 k101 (.array .double) (2 : Int32) [(.ref x100_1), (.ref x100_0)] .null := f344.other W384 ne_b101_b287
  clear f344
  have f387 : Arv Z h384 x100_0 c101 .double (2 : Int32) [(.double iv1), (.double 0)] (.double 0) := f345.other W384 ne_x100_0_b287
  clear f345
  have f388 : oF Z h384 a1 "rows" "I" (.int 2) := f346.other W384 (Or.inl ne_a1_b287)
  clear f346
  have f389 : oF Z h384 a1 "rhs" "[D" (.ref rh) := f347.other W384 (Or.inl ne_a1_b287)
  clear f347
  have f390 : oF Z h384 a1 "pivotsSinceRefactor" "I" (.int 0) := f348.other W384 (Or.inl ne_a1_b287)
  clear f348
  have f391 : oF Z h384 a1 "position" "[I" (.ref po) := f349.other W384 (Or.inl ne_a1_b287)
  clear f349
  have f392 : oF Z h384 a1 "infeasibility" "D" (.double 0) := f350.other W384 (Or.inl ne_a1_b287)
  clear f350
  have f393 : Exa Z h384 a1 "com/example/trunkwright/trunkwright/traffic/RevisedSimplex" := f351.wr W384
  clear f351
  have f394 : Arv Z h384 rh kh .double (2 : Int32) [(.double d0), (.double d1)] (.double 0) := f352.other W384 ne_rh_b287
  clear f352
  have f395 : oF Z h384 a1 "inverse" "[[D" (.ref b101) := f353.other W384 (Or.inl ne_a1_b287)
  clear f353
  have f396 : Exa Z h384 b287 "[D" := f354.wr W384
  clear f354
  have f397 : oF Z h384 a1 "primal" "[D" (.ref b287) := f355.other W384 (Or.inl ne_a1_b287)
  clear f355
  have V384 : Arv Z h384 b287 k287 .double (2 : Int32) [(.double x0), (.double x1)] (.double 0) := Arv.set Ar383 q383 S383 N383' H383 G383 rfl W384 1 rfl (Nat.le_of_ble_eq_true rfl)
  clear Ar383 q383 S383 N383' H383 G383 hin383 W384 V342
  have R398 : ∀ t, oG p e below T384 m 249 #[oR a1, oR b6, oR b101, oI 2, oD x1, .second, oI 2] [(.ref a1), (.int 2)] t → Steps p.tables e below AA t := by
    intro t k
    refine R384 t ?_
    refine XS.iinc X384.here hx rfl (hb hby own_d5_306) rfl (l' := #[oR a1, oR b6, oR b101, oI 2, oD x1, .second, oI 2]) rfl ?_
    refine XS.goto X384.here hx rfl (pc0 := 309) (pc' := 247) rfl (hb hby own_d5_309) (by decide) (by decide) ?_
    refine XS.iloadN X384.here hx rfl (hb hby own_d5_247) rfl ?_
    refine XS.aloadN X384.here hx rfl (hb hby own_d5_248) rfl rfl ?_
    exact k
  clear R384
  obtain ⟨T399, X399, e399, st399⟩ := getF X384 hx hZ hown (host := "") (Or.inl (oW hw 24 rfl)) Via.refl e384 f388 (g := (mkF m 249 #[oR a1, oR b6, oR b101, oI 2, oD x1, .second, oI 2] [(.ref a1), (.int 2)])) rfl rfl (hb hby own_d5_249)
  have R399 := fun t k => R398 t (st399 t k)
  clear R398 st399 X384 e384
  have R400 : ∀ t, oG p e below T399 m 314 #[oR a1, oR b6, oR b101, oI 2, oD x1, .second, oI 2] [(.int 0), (.ref a1)] t → Steps p.tables e below AA t := by
    intro t k
    refine R399 t ?_
    refine XS.icmpYes X399.here hx rfl (pc0 := 252) (pc' := 312) rfl (hb hby own_d5_252) rfl (flt (by decide : ¬ ((2 : Int32) < (2 : Int32)))).2.1 (by decide) (by decide) ?_
    refine XS.aloadN X399.here hx rfl (hb hby own_d5_312) rfl rfl ?_
    refine XS.iconst X399.here hx rfl (hb hby own_d5_313) ?_
    exact k
  clear R399
  obtain ⟨T401, h401, X401, e401, W401, st401⟩ := putF X399 hx hZ hown (host := "") (Or.inl (oW hw 78 rfl)) Via.refl e399 f390 f393 (Or.inl (oW hw 79 rfl)) (oW hw 2 rfl) (ty := .int) (by decide) rfl rfl (g := (mkF m 314 #[oR a1, oR b6, oR b101, oI 2, oD x1, .second, oI 2] [(.int 0), (.ref a1)])) rfl rfl (hb hby own_d5_314)
  have R401 := fun t k => R400 t (st401 t k)
  clear R400 st401 X399 e399
  have Z401 : n0 ≤ h401.size := Nat.le_trans Z384 (Keep.of_wr W401).1
  clear Z384
  have K401 : Keep h0 h401 [a1] := K384.wr W401 (Or.inl (by simp))
  clear K384
  have N401 := Fr.snoc X401 N384 g_a1
  clear N384
  have f402 : Arv Z h401 x100_1 c101 .double (2 : Int32) [(.double 0), (.double iv0)] (.double 0) := f385.other W401 (Ne.symm (Nat.ne_of_lt (Nat.lt_of_lt_of_le E_a1.lt sz_x100_1)))
  clear f385
  have f403 : Arv Z h401 b101 k101 (.array .double) (2 : Int32) [(.ref x100_1), (.ref x100_0)] .null := f386.other W401 (Ne.symm (Nat.ne_of_lt (Nat.lt_of_lt_of_le E_a1.lt sz_b101)))
  clear f386
  have f404 : Arv Z h401 x100_0 c101 .double (2 : Int32) [(.double iv1), (.double 0)] (.double 0) := f387.other W401 (Ne.symm (Nat.ne_of_lt (Nat.lt_of_lt_of_le E_a1.lt sz_x100_0)))
  clear f387
  have f405 : oF Z h401 a1 "rows" "I" (.int 2) := f388.other W401 (Or.inr (slot_ne (Or.inr (oW hw 25 rfl)) (Or.inl (oW hw 79 rfl)) (by decide) (t := .int) (t' := .int) (by decide) (by decide)))
  clear f388
  have f406 : oF Z h401 a1 "rhs" "[D" (.ref rh) := f389.other W401 (Or.inr (slot_ne (Or.inr (oW hw 35 rfl)) (Or.inl (oW hw 79 rfl)) (by decide) (t := (.array .double)) (t' := .int) (by decide) (by decide)))
  clear f389
  have f407 : oF Z h401 a1 "position" "[I" (.ref po) := f391.other W401 (Or.inr (slot_ne (Or.inl (oW hw 23 rfl)) (Or.inl (oW hw 79 rfl)) (by decide) (t := (.array .int)) (t' := .int) (by decide) (by decide)))
  clear f391
  have f408 : oF Z h401 a1 "infeasibility" "D" (.double 0) := f392.other W401 (Or.inr (slot_ne (Or.inl (oW hw 84 rfl)) (Or.inl (oW hw 79 rfl)) (by decide) (t := .double) (t' := .int) (by decide) (by decide)))
  clear f392
  have f409 : Exa Z h401 a1 "com/example/trunkwright/trunkwright/traffic/RevisedSimplex" := f393.wr W401
  clear f393
  have f410 : Arv Z h401 rh kh .double (2 : Int32) [(.double d0), (.double d1)] (.double 0) := f394.other W401 ne_rh_a1
  clear f394
  have f411 : oF Z h401 a1 "inverse" "[[D" (.ref b101) := f395.other W401 (Or.inr (slot_ne (Or.inl (oW hw 75 rfl)) (Or.inl (oW hw 79 rfl)) (by decide) (t := (.array (.array .double))) (t' := .int) (by decide) (by decide)))
  clear f395
  have f412 : Exa Z h401 b287 "[D" := f396.wr W401
  clear f396
  have f413 : oF Z h401 a1 "primal" "[D" (.ref b287) := f397.other W401 (Or.inr (slot_ne (Or.inl (oW hw 77 rfl)) (Or.inl (oW hw 79 rfl)) (by decide) (t := (.array .double)) (t' := .int) (by decide) (by decide)))
  clear f397
  have f414 : Arv Z h401 b287 k287 .double (2 : Int32) [(.double x0), (.double x1)] (.double 0) := V384.other W401 (Ne.symm ne_a1_b287)
  clear V384
  have Fw401 : oF Z h401 a1 "pivotsSinceRefactor" "I" (.int 0) := f390.same W401
  subst hAA
  obtain ⟨fs, hr, hrun, hended, hW, hsame⟩ := X401.leave (v := none) (fun _ => rfl)
  refine ⟨_, _, R401 _ ?_, hrun, hended, _, _, rfl, ?_, ⟨_, rfl⟩, hW, hsame.mono (by decide) (by decide)⟩
  · exact X401.returnOut hx Bd.returns (hb hby own_d5_317) hr
  · show Q_rmRfA Z a1 bs er ev r0 r1 va0 va1 rh po ka kb kc kd ke kf kg kh j0 j1 ers evs u0 u1 d0 d1 x0 x1 h0 n0 _ T401.heap _
    rw [e401]
    exact ⟨rfl, N401, b287, _, K401, sz_b287, f405, f407, f408, f413, f414⟩
theorem own_ef_rmStD (m : MethodId) (x0 : Addr) (x1 : Addr) : entryFrame m #[(.ref x0), (.ref x1)] 9 = mkF m 0 #[oR x0, oR x1, .unset, .unset, .unset, .unset, .unset, .unset, .unset] [] := by first | (simp [entryFrame, mkF, argsToLocals, Value.category]; done) | rfl
theorem own_d4_0 : decode prog_82_method_3_code 0 = .ok (.aload_n 1, 1) := by decide +kernel
theorem own_d4_1 : decode prog_82_method_3_code 1 = .ok (.arraylength, 1) := by decide +kernel
theorem own_d4_2 : decode prog_82_method_3_code 2 = .ok (.aload_n 0, 1) := by decide +kernel
theorem own_d4_3 : decode prog_82_method_3_code 3 = .ok (.getfield 27, 3) := by decide +kernel
theorem own_d4_6 : decode prog_82_method_3_code 6 = .ok (.if_icmp .eq 22, 3) := by decide +kernel
theorem own_d4_28 : decode prog_82_method_3_code 28 = .ok (.aload_n 0, 1) := by decide +kernel
theorem own_d4_29 : decode prog_82_method_3_code 29 = .ok (.aload_n 1, 1) := by decide +kernel
theorem own_d4_30 : decode prog_82_method_3_code 30 = .ok (.invokevirtual 55, 3) := by decide +kernel
theorem own_d4_33 : decode prog_82_method_3_code 33 = .ok (.checkcast 13, 3) := by decide +kernel
theorem own_d4_36 : decode prog_82_method_3_code 36 = .ok (.putfield 65, 3) := by decide +kernel
theorem own_d4_39 : decode prog_82_method_3_code 39 = .ok (.aload_n 0, 1) := by decide +kernel
theorem own_d4_40 : decode prog_82_method_3_code 40 = .ok (.aload_n 1, 1) := by decide +kernel
theorem own_d4_41 : decode prog_82_method_3_code 41 = .ok (.invokevirtual 55, 3) := by decide +kernel
theorem own_d4_44 : decode prog_82_method_3_code 44 = .ok (.checkcast 13, 3) := by decide +kernel
theorem own_d4_47 : decode prog_82_method_3_code 47 = .ok (.putfield 68, 3) := by decide +kernel
theorem own_d4_50 : decode prog_82_method_3_code 50 = .ok (.iconst 0, 1) := by decide +kernel
theorem own_d4_51 : decode prog_82_method_3_code 51 = .ok (.istore_n 2, 1) := by decide +kernel
theorem own_d4_52 : decode prog_82_method_3_code 52 = .ok (.iload_n 2, 1) := by decide +kernel
theorem own_d4_53 : decode prog_82_method_3_code 53 = .ok (.aload_n 0, 1) := by decide +kernel
theorem own_d4_54 : decode prog_82_method_3_code 54 = .ok (.getfield 27, 3) := by decide +kernel
theorem own_d4_57 : decode prog_82_method_3_code 57 = .ok (.if_icmp .ge 21, 3) := by decide +kernel
theorem own_d4_60 : decode prog_82_method_3_code 60 = .ok (.aload_n 0, 1) := by decide +kernel
theorem own_d4_61 : decode prog_82_method_3_code 61 = .ok (.getfield 24, 3) := by decide +kernel
theorem own_d4_64 : decode prog_82_method_3_code 64 = .ok (.aload_n 0, 1) := by decide +kernel
theorem own_d4_65 : decode prog_82_method_3_code 65 = .ok (.getfield 65, 3) := by decide +kernel
theorem own_d4_68 : decode prog_82_method_3_code 68 = .ok (.iload_n 2, 1) := by decide +kernel
theorem own_d4_69 : decode prog_82_method_3_code 69 = .ok (.iaload, 1) := by decide +kernel
theorem own_d4_70 : decode prog_82_method_3_code 70 = .ok (.iload_n 2, 1) := by decide +kernel
theorem own_d4_71 : decode prog_82_method_3_code 71 = .ok (.iastore, 1) := by decide +kernel
theorem own_d4_72 : decode prog_82_method_3_code 72 = .ok (.iinc 2 1, 3) := by decide +kernel
theorem own_d4_75 : decode prog_82_method_3_code 75 = .ok (.goto (-23), 3) := by decide +kernel
theorem own_d4_78 : decode prog_82_method_3_code 78 = .ok (.aload_n 0, 1) := by decide +kernel
theorem own_d4_79 : decode prog_82_method_3_code 79 = .ok (.invokevirtual 71, 3) := by decide +kernel
theorem own_pd1 : parseMethodDescriptor "()V" = some ⟨[], none⟩ := by decide +kernel
theorem own_d4_82 : decode prog_82_method_3_code 82 = .ok (.dconst 0, 1) := by decide +kernel
theorem own_d4_83 : decode prog_82_method_3_code 83 = .ok (.dstore_n 2, 1) := by decide +kernel
theorem own_d4_84 : decode prog_82_method_3_code 84 = .ok (.aload_n 0, 1) := by decide +kernel
theorem own_d4_85 : decode prog_82_method_3_code 85 = .ok (.getfield 74, 3) := by decide +kernel
theorem own_d4_88 : decode prog_82_method_3_code 88 = .ok (.astore 4, 2) := by decide +kernel
theorem own_d4_90 : decode prog_82_method_3_code 90 = .ok (.aload 4, 2) := by decide +kernel
theorem own_d4_92 : decode prog_82_method_3_code 92 = .ok (.arraylength, 1) := by decide +kernel
theorem own_d4_93 : decode prog_82_method_3_code 93 = .ok (.istore 5, 2) := by decide +kernel
theorem own_d4_95 : decode prog_82_method_3_code 95 = .ok (.iconst 0, 1) := by decide +kernel
theorem own_d4_96 : decode prog_82_method_3_code 96 = .ok (.istore 6, 2) := by decide +kernel
theorem own_d4_98 : decode prog_82_method_3_code 98 = .ok (.iload 6, 2) := by decide +kernel
theorem own_d4_100 : decode prog_82_method_3_code 100 = .ok (.iload 5, 2) := by decide +kernel
theorem own_d4_102 : decode prog_82_method_3_code 102 = .ok (.if_icmp .ge 26, 3) := by decide +kernel
theorem own_d4_105 : decode prog_82_method_3_code 105 = .ok (.aload 4, 2) := by decide +kernel
theorem own_d4_107 : decode prog_82_method_3_code 107 = .ok (.iload 6, 2) := by decide +kernel
theorem own_d4_109 : decode prog_82_method_3_code 109 = .ok (.daload, 1) := by decide +kernel
theorem own_d4_110 : decode prog_82_method_3_code 110 = .ok (.dstore 7, 2) := by decide +kernel
theorem own_d4_112 : decode prog_82_method_3_code 112 = .ok (.dload_n 2, 1) := by decide +kernel
theorem own_d4_113 : decode prog_82_method_3_code 113 = .ok (.dload 7, 2) := by decide +kernel
theorem own_d4_115 : decode prog_82_method_3_code 115 = .ok (.invokestatic 77, 3) := by decide +kernel
theorem own_d4_118 : decode prog_82_method_3_code 118 = .ok (.invokestatic 83, 3) := by decide +kernel
theorem own_pd8 : parseMethodDescriptor "(DD)D" = some ⟨[.double, .double], some .double⟩ := by decide +kernel
theorem own_d4_121 : decode prog_82_method_3_code 121 = .ok (.dstore_n 2, 1) := by decide +kernel
theorem own_d4_122 : decode prog_82_method_3_code 122 = .ok (.iinc 6 1, 3) := by decide +kernel
theorem own_d4_125 : decode prog_82_method_3_code 125 = .ok (.goto (-27), 3) := by decide +kernel
theorem own_d4_128 : decode prog_82_method_3_code 128 = .ok (.aload_n 0, 1) := by decide +kernel
theorem own_d4_129 : decode prog_82_method_3_code 129 = .ok (.ldc2_w 87, 3) := by decide +kernel
theorem own_d4_132 : decode prog_82_method_3_code 132 = .ok (.dload_n 2, 1) := by decide +kernel
theorem own_d4_133 : decode prog_82_method_3_code 133 = .ok (.dmul, 1) := by decide +kernel
theorem own_d4_134 : decode prog_82_method_3_code 134 = .ok (.putfield 89, 3) := by decide +kernel
theorem own_d4_137 : decode prog_82_method_3_code 137 = .ok (.iconst 0, 1) := by decide +kernel
theorem own_d4_138 : decode prog_82_method_3_code 138 = .ok (.istore 4, 2) := by decide +kernel
theorem own_d4_140 : decode prog_82_method_3_code 140 = .ok (.iload 4, 2) := by decide +kernel
theorem own_d4_142 : decode prog_82_method_3_code 142 = .ok (.aload_n 0, 1) := by decide +kernel
theorem own_d4_143 : decode prog_82_method_3_code 143 = .ok (.getfield 27, 3) := by decide +kernel
theorem own_d4_146 : decode prog_82_method_3_code 146 = .ok (.if_icmp .ge 52, 3) := by decide +kernel
theorem own_d4_149 : decode prog_82_method_3_code 149 = .ok (.aload_n 0, 1) := by decide +kernel
theorem own_d4_150 : decode prog_82_method_3_code 150 = .ok (.getfield 74, 3) := by decide +kernel
theorem own_d4_153 : decode prog_82_method_3_code 153 = .ok (.iload 4, 2) := by decide +kernel
theorem own_d4_155 : decode prog_82_method_3_code 155 = .ok (.daload, 1) := by decide +kernel
theorem own_d4_156 : decode prog_82_method_3_code 156 = .ok (.aload_n 0, 1) := by decide +kernel
theorem own_d4_157 : decode prog_82_method_3_code 157 = .ok (.getfield 89, 3) := by decide +kernel
theorem own_d4_160 : decode prog_82_method_3_code 160 = .ok (.dneg, 1) := by decide +kernel
theorem own_d4_161 : decode prog_82_method_3_code 161 = .ok (.dcmp .g, 1) := by decide +kernel
theorem own_d4_162 : decode prog_82_method_3_code 162 = .ok (.ifCond .ge 30, 3) := by decide +kernel
theorem own_d4_192 : decode prog_82_method_3_code 192 = .ok (.iinc 4 1, 3) := by decide +kernel
theorem own_d4_195 : decode prog_82_method_3_code 195 = .ok (.goto (-55), 3) := by decide +kernel
theorem own_d4_198 : decode prog_82_method_3_code 198 = .ok (.return_, 1) := by decide +kernel
def Q_rmStD (Z : State) (a1 a2 po er ev r0 r1 va0 va1 rh : Addr) (ka kb kc kd ke kf kg kh ki : ClassId) (j0 j1 : Int32) (ers evs pl : List Value) (u0 u1 d0 d1 x0 x1 : UInt64) (h0 : Heap) (n0 : Nat) (v : Option Value) (h : Heap) (L : List Loc) : Prop := v = none ∧ Fr n0 L ∧ ∃ (bp : Addr) (kp : ClassId), Keep h0 h [a1, po] ∧ oF Z h a1 "position" "[I" (.ref po) ∧ oF Z h a1 "primal" "[D" (.ref bp) ∧ Arv Z h po kb .int (16 : Int32) ((pl.set j0.toNatClampNeg (.int 0)).set j1.toNatClampNeg (.int 1)) (.int 0) ∧ Arv Z h bp kp .double (2 : Int32) [(.double x0), (.double x1)] (.double 0)
set_option maxRecDepth 65536 in
set_option maxHeartbeats 40000000 in
theorem rmStD (l : Launch) (Z : State) (a0 : Array Value) (hw : ∀ d ∈ tables_1, d.before a0 Z = true) (ws : List Jvm.Cond) (a1 a2 po er ev r0 r1 va0 va1 rh : Addr) (ka kb kc kd ke kf kg kh ki : ClassId) (j0 j1 : Int32) (ers evs pl : List Value) (u0 u1 d0 d1 x0 x1 : UInt64) (h0 : Heap) (n0 : Nat) (Z0 : n0 ≤ h0.size) (F_a1_rows : oF Z h0 a1 "rows" "I" (.int 2)) (F_a1_entryRows : oF Z h0 a1 "entryRows" "[[I" (.ref er)) (F_a1_entryValues : oF Z h0 a1 "entryValues" "[[D" (.ref ev)) (F_a1_basis : oF Z h0 a1 "basis" "[I" .null) (F_a1_rhs : oF Z h0 a1 "rhs" "[D" (.ref rh)) (F_a1_inverse : oF Z h0 a1 "inverse" "[[D" .null) (F_a1_primal : oF Z h0 a1 "primal" "[D" .null) (F_a1_pivotsSinceRefactor : oF Z h0 a1 "pivotsSinceRefactor" "I" (.int 0)) (F_a1_position : oF Z h0 a1 "position" "[I" (.ref po)) (F_a1_infeasibility : oF Z h0 a1 "infeasibility" "D" (.double 0)) (F_a1_start : oF Z h0 a1 "start" "[I" .null) (E_a1 : Exa Z h0 a1 "com/example/trunkwright/trunkwright/traffic/RevisedSimplex") (V_a2 : Arv Z h0 a2 ka .int (2 : Int32) [(.int j0), (.int j1)] (.int 0)) (E_a2 : Exa Z h0 a2 "[I") (V_po : Arv Z h0 po kb .int (16 : Int32) pl (.int 0)) (V_er : Arv Z h0 er kc (.array .int) (16 : Int32) ers .null) (V_ev : Arv Z h0 ev kd (.array .double) (16 : Int32) evs .null) (V_r0 : Arv Z h0 r0 ke .int (1 : Int32) [(.int 0)] (.int 0)) (V_r1 : Arv Z h0 r1 kf .int (1 : Int32) [(.int 1)] (.int 0)) (V_va0 : Arv Z h0 va0 kg .double (1 : Int32) [(.double u0)] (.double 0)) (V_va1 : Arv Z h0 va1 kh .double (1 : Int32) [(.double u1)] (.double 0)) (V_rh : Arv Z h0 rh ki .double (2 : Int32) [(.double d0), (.double d1)] (.double 0)) (ne_a2_a1 : a2 ≠ a1) (ne_po_a1 : po ≠ a1) (ne_er_a1 : er ≠ a1) (ne_ev_a1 : ev ≠ a1) (ne_r0_a1 : r0 ≠ a1) (ne_r1_a1 : r1 ≠ a1) (ne_va0_a1 : va0 ≠ a1) (ne_va1_a1 : va1 ≠ a1) (ne_rh_a1 : rh ≠ a1) (ne_er_po : er ≠ po) (ne_ev_po : ev ≠ po) (ne_r0_po : r0 ≠ po) (ne_r1_po : r1 ≠ po) (ne_va0_po : va0 ≠ po) (ne_va1_po : va1 ≠ po) (ne_rh_po : rh ≠ po) (g_a1 : n0 ≤ a1) (g_po : n0 ≤ po) (hj0 : ¬ j0 < 0 ∧ j0 < (16 : Int32)) (ur0 : ers.getD j0.toNatClampNeg .null = .ref r0) (uv0 : evs.getD j0.toNatClampNeg .null = .ref va0) (hl0 : j0.toNatClampNeg < pl.length) (su0 : own_S u0) (sd0 : own_P d0) (hx0 : x0 = FP.ddiv d0 u0) (hj1 : ¬ j1 < 0 ∧ j1 < (16 : Int32)) (ur1 : ers.getD j1.toNatClampNeg .null = .ref r1) (uv1 : evs.getD j1.toNatClampNeg .null = .ref va1) (hl1 : j1.toNatClampNeg < (pl.set j0.toNatClampNeg (.int 0)).length) (su1 : own_S u1) (sd1 : own_P d1) (hx1 : x1 = FP.ddiv d1 u1) :
    MetFree l (oN "start" "([I)V") (head1 (Jvm.Cond.code (oN "start" "([I)V") prog_82_method_3_code 9 none :: ws) ({ frames := 2, cells := 9, slots := 18, locals := 43 } : Room)) (fun a U => a = #[(.ref a1), (.ref a2)] ∧ Z.Warmed39 U.vm ∧ U.heap = h0) (fun _ _ _ _ _ => True) (fun _ U o U' => ∃ v L, o = .returned v ∧ Q_rmStD Z a1 a2 po er ev r0 r1 va0 va1 rh ka kb kc kd ke kf kg kh ki j0 j1 ers evs pl u0 u1 d0 d1 x0 x1 h0 n0 v U'.heap L ∧ FrameEnd U o U' L ({ frames := 2, cells := 9, slots := 18, locals := 43 } : Room).cells ({ frames := 2, cells := 9, slots := 18, locals := 43 } : Room).slots) := by
  refine MetFree.of_bodySF (plainFor_of_name own_pn0) hisR ?_
  intro p e s m args below meth c s₁ Bd hml0 hP hK
  obtain ⟨rfl, hZ, hh⟩ := hP
  have hx := Bd.exec
  have hby := Bd.bytes
  have hml : c.maxLocals = 9 := hml0
  have hown : s.vm.findClass "com/example/trunkwright/trunkwright/traffic/RevisedSimplex" = some m.cls := findClass_of_methodNamed Bd.named
  have hnm := (name_of_methodNamed Bd.named Bd.method).1
  have X0 : Stand p l e ({ frames := 2, cells := 9, slots := 18, locals := 43 } : Room) s m #[(.ref a1), (.ref a2)] below meth c s₁ [] 0 0 := Stand.of_body Bd
  have e0 : s₁.heap = h0 := by rw [← hh, Bd.state]; rfl
  have N0 := Fr.nil n0
  have R0 : ∀ t, oG p e below s₁ m 0 #[oR a1, oR a2, .unset, .unset, .unset, .unset, .unset, .unset, .unset] [] t → Steps p.tables e below (s₁.setTop (entryFrame m #[(.ref a1), (.ref a2)] 9)) t := fun t k => castTop (own_ef_rmStD m a1 a2) k
  obtain ⟨AA, hAA⟩ : ∃ z, z = (s₁.setTop (entryFrame m #[(.ref a1), (.ref a2)] 9)) := ⟨_, rfl⟩
  rw [← hAA] at R0
  have R1 : ∀ t, oG p e below s₁ m 1 #[oR a1, oR a2, .unset, .unset, .unset, .unset, .unset, .unset, .unset] [(.ref a2)] t → Steps p.tables e below AA t := by
    intro t k
    refine R0 t ?_
    refine XS.aloadN X0.here hx rfl (hb hby own_d4_0) rfl rfl ?_
    exact k
  obtain ⟨cl2, Ar2, q2, S2, N2', H2, G2⟩ := id V_a2
  have R3 : ∀ t, oG p e below s₁ m 3 #[oR a1, oR a2, .unset, .unset, .unset, .unset, .unset, .unset, .unset] [(.ref a1), (.int 2)] t → Steps p.tables e below AA t := by
    intro t k
    refine R1 t ?_
    refine X0.arraylength hx (by rw [e0]; exact Ar2.1) (State.isArrayOf_alike hZ.alike Ar2.2.1) (g := (mkF m 1 #[oR a1, oR a2, .unset, .unset, .unset, .unset, .unset, .unset, .unset] [(.ref a2)])) rfl rfl (hb hby own_d4_1) _ ?_
    rw [len_of S2 N2']
    refine XS.aloadN X0.here hx rfl (hb hby own_d4_2) rfl rfl ?_
    exact k
  clear R1
  obtain ⟨T4, X4, e4, st4⟩ := getF X0 hx hZ hown (host := "") (Or.inl (oW hw 24 rfl)) Via.refl e0 F_a1_rows (g := (mkF m 3 #[oR a1, oR a2, .unset, .unset, .unset, .unset, .unset, .unset, .unset] [(.ref a1), (.int 2)])) rfl rfl (hb hby own_d4_3)
  have R4 := fun t k => R3 t (st4 t k)
  clear R3 st4
  have R5 : ∀ t, oG p e below T4 m 30 #[oR a1, oR a2, .unset, .unset, .unset, .unset, .unset, .unset, .unset] [(.ref a2), (.ref a1)] t → Steps p.tables e below AA t := by
    intro t k
    refine R4 t ?_
    refine XS.icmpYes X4.here hx rfl (pc0 := 6) (pc' := 28) rfl (hb hby own_d4_6) rfl (teq (by decide : ((2 : Int32) = (2 : Int32)))).1 (by decide) (by decide) ?_
    refine XS.aloadN X4.here hx rfl (hb hby own_d4_28) rfl rfl ?_
    refine XS.aloadN X4.here hx rfl (hb hby own_d4_29) rfl rfl ?_
    exact k
  clear R4
  obtain ⟨T6, h6, X6, e6, E6, A6, B6, st6⟩ := cloneH X4 hx hZ (ad := "[I") hown (oW hw 43 rfl) (oW hw 44 rfl) (oW hw 31 rfl) (oW hw 29 rfl) (oW hw 45 rfl) (oW hw 46 rfl) e4 (Arv.arh V_a2) E_a2 (g := (mkF m 30 #[oR a1, oR a2, .unset, .unset, .unset, .unset, .unset, .unset, .unset] [(.ref a2), (.ref a1)])) rfl (by rw [hml]; rfl) rfl (hb hby own_d4_30) (by decide) (W := 1) (cap := 2) oL (by decide) (by decide) (by decide) (by decide)
  obtain ⟨b6, g6⟩ : ∃ z, z = h0.size := ⟨_, rfl⟩
  rw [← g6] at A6 B6 st6
  have R6 := fun t k => R5 t (st6 t k)
  clear R5 st6 X4 e4
  have ne_a1_b6 : a1 ≠ b6 := Nat.ne_of_lt (Nat.lt_of_lt_of_le F_a1_rows.lt (Nat.le_of_eq g6.symm))
  have ne_a2_b6 : a2 ≠ b6 := Nat.ne_of_lt (Nat.lt_of_lt_of_le V_a2.lt (Nat.le_of_eq g6.symm))
  have ne_po_b6 : po ≠ b6 := Nat.ne_of_lt (Nat.lt_of_lt_of_le V_po.lt (Nat.le_of_eq g6.symm))
  have g_b6 : n0 ≤ b6 := Nat.le_trans Z0 (Nat.le_of_eq g6.symm)
  have sz_b6 : h0.size ≤ b6 := Nat.le_trans (Keep.refl h0 [a1, po]).1 (Nat.le_of_eq g6.symm)
  have Z6 : n0 ≤ h6.size := Nat.le_trans Z0 E6.1
  have K6 : Keep h0 h6 [a1, po] := (Keep.refl h0 [a1, po]).ext E6
  have f7 : oF Z h6 a1 "rows" "I" (.int 2) := F_a1_rows.ext E6
  have f8 : oF Z h6 a1 "entryRows" "[[I" (.ref er) := F_a1_entryRows.ext E6
  have f9 : oF Z h6 a1 "entryValues" "[[D" (.ref ev) := F_a1_entryValues.ext E6
  have f10 : oF Z h6 a1 "basis" "[I" .null := F_a1_basis.ext E6
  have f11 : oF Z h6 a1 "rhs" "[D" (.ref rh) := F_a1_rhs.ext E6
  have f12 : oF Z h6 a1 "inverse" "[[D" .null := F_a1_inverse.ext E6
  have f13 : oF Z h6 a1 "primal" "[D" .null := F_a1_primal.ext E6
  have f14 : oF Z h6 a1 "pivotsSinceRefactor" "I" (.int 0) := F_a1_pivotsSinceRefactor.ext E6
  have f15 : oF Z h6 a1 "position" "[I" (.ref po) := F_a1_position.ext E6
  have f16 : oF Z h6 a1 "infeasibility" "D" (.double 0) := F_a1_infeasibility.ext E6
  have f17 : oF Z h6 a1 "start" "[I" .null := F_a1_start.ext E6
  have f18 : Exa Z h6 a1 "com/example/trunkwright/trunkwright/traffic/RevisedSimplex" := E_a1.ext E6
  have f19 : Arv Z h6 a2 ka .int (2 : Int32) [(.int j0), (.int j1)] (.int 0) := V_a2.ext E6
  have f20 : Exa Z h6 a2 "[I" := E_a2.ext E6
  have f21 : Arv Z h6 po kb .int (16 : Int32) pl (.int 0) := V_po.ext E6
  clear E6
  have V6 : Arv Z h6 b6 ka .int (2 : Int32) [(.int j0), (.int j1)] (.int 0) := A6
  obtain ⟨T22, X22, e22, st22⟩ := castY X6 hx hZ hown (oW hw 13 rfl) e6 (Ins.self B6) (g := (mkF m 33 #[oR a1, oR a2, .unset, .unset, .unset, .unset, .unset, .unset, .unset] [(.ref b6), (.ref a1)])) rfl rfl (hb hby own_d4_33)
  have R22 := fun t k => R6 t (st22 t k)
  clear R6 st22 X6 e6
  obtain ⟨T23, h23, X23, e23, W23, st23⟩ := putF X22 hx hZ hown (host := "") (Or.inl (oW hw 53 rfl)) Via.refl e22 f10 f18 (Or.inl (oW hw 54 rfl)) (oW hw 2 rfl) (ty := (.array .int)) (by decide) rfl rfl (g := (mkF m 36 #[oR a1, oR a2, .unset, .unset, .unset, .unset, .unset, .unset, .unset] [(.ref b6), (.ref a1)])) rfl rfl (hb hby own_d4_36)
  have R23 := fun t k => R22 t (st23 t k)
  clear R22 st23 X22 e22
  have Z23 : n0 ≤ h23.size := Nat.le_trans Z6 (Keep.of_wr W23).1
  clear Z6
  have K23 : Keep h0 h23 [a1, po] := K6.wr W23 (Or.inl (by simp))
  clear K6
  have N23 := Fr.snoc X23 N0 g_a1
  have f24 : oF Z h23 a1 "rows" "I" (.int 2) := f7.other W23 (Or.inr (slot_ne (Or.inr (oW hw 25 rfl)) (Or.inl (oW hw 54 rfl)) (by decide) (t := .int) (t' := (.array .int)) (by decide) (by decide)))
  clear f7
  have f25 : oF Z h23 a1 "entryRows" "[[I" (.ref er) := f8.other W23 (Or.inr (slot_ne (Or.inl (oW hw 16 rfl)) (Or.inl (oW hw 54 rfl)) (by decide) (t := (.array (.array .int))) (t' := (.array .int)) (by decide) (by decide)))
  clear f8
  have f26 : oF Z h23 a1 "entryValues" "[[D" (.ref ev) := f9.other W23 (Or.inr (slot_ne (Or.inl (oW hw 20 rfl)) (Or.inl (oW hw 54 rfl)) (by decide) (t := (.array (.array .double))) (t' := (.array .int)) (by decide) (by decide)))
  clear f9
  have f27 : oF Z h23 a1 "rhs" "[D" (.ref rh) := f11.other W23 (Or.inr (slot_ne (Or.inr (oW hw 35 rfl)) (Or.inl (oW hw 54 rfl)) (by decide) (t := (.array .double)) (t' := (.array .int)) (by decide) (by decide)))
  clear f11
  have f28 : oF Z h23 a1 "inverse" "[[D" .null := f12.other W23 (Or.inr (slot_ne (Or.inl (oW hw 75 rfl)) (Or.inl (oW hw 54 rfl)) (by decide) (t := (.array (.array .double))) (t' := (.array .int)) (by decide) (by decide)))
  clear f12
  have f29 : oF Z h23 a1 "primal" "[D" .null := f13.other W23 (Or.inr (slot_ne (Or.inl (oW hw 77 rfl)) (Or.inl (oW hw 54 rfl)) (by decide) (t := (.array .double)) (t' := (.array .int)) (by decide) (by decide)))
  clear f13
  have f30 : oF Z h23 a1 "pivotsSinceRefactor" "I" (.int 0) := f14.other W23 (Or.inr (slot_ne (Or.inl (oW hw 79 rfl)) (Or.inl (oW hw 54 rfl)) (by decide) (t := .int) (t' := (.array .int)) (by decide) (by decide)))
  clear f14
  have f31 : oF Z h23 a1 "position" "[I" (.ref po) := f15.other W23 (Or.inr (slot_ne (Or.inl (oW hw 23 rfl)) (Or.inl (oW hw 54 rfl)) (by decide) (t := (.array .int)) (t' := (.array .int)) (by decide) (by decide)))
  clear f15
  have f32 : oF Z h23 a1 "infeasibility" "D" (.double 0) := f16.other W23 (Or.inr (slot_ne (Or.inl (oW hw 84 rfl)) (Or.inl (oW hw 54 rfl)) (by decide) (t := .double) (t' := (.array .int)) (by decide) (by decide)))
  clear f16
  have f33 : oF Z h23 a1 "start" "[I" .null := f17.other W23 (Or.inr (slot_ne (Or.inl (oW hw 56 rfl)) (Or.inl (oW hw 54 rfl)) (by decide) (t := (.array .int)) (t' := (.array .int)) (by decide) (by decide)))
  clear f17
  have f34 : Exa Z h23 a1 "com/example/trunkwright/trunkwright/traffic/RevisedSimplex" := f18.wr W23
  clear f18
  have f35 : Arv Z h23 a2 ka .int (2 : Int32) [(.int j0), (.int j1)] (.int 0) := f19.other W23 ne_a2_a1
  clear f19
  have f36 : Exa Z h23 a2 "[I" := f20.wr W23
  clear f20
  have f37 : Arv Z h23 po kb .int (16 : Int32) pl (.int 0) := f21.other W23 ne_po_a1
  clear f21
  have f38 : Exa Z h23 b6 "[I" := B6.wr W23
  have f39 : Arv Z h23 b6 ka .int (2 : Int32) [(.int j0), (.int j1)] (.int 0) := V6.other W23 (Ne.symm ne_a1_b6)
  clear V6
  have Fw23 : oF Z h23 a1 "basis" "[I" (.ref b6) := f10.same W23
  have R40 : ∀ t, oG p e below T23 m 41 #[oR a1, oR a2, .unset, .unset, .unset, .unset, .unset, .unset, .unset] [(.ref a2), (.ref a1)] t → Steps p.tables e below AA t := by
    intro t k
    refine R23 t ?_
    refine XS.aloadN X23.here hx rfl (hb hby own_d4_39) rfl rfl ?_
    refine XS.aloadN X23.here hx rfl (hb hby own_d4_40) rfl rfl ?_
    exact k
  clear R23
  obtain ⟨T41, h41, X41, e41, E41, A41, B41, st41⟩ := cloneH X23 hx hZ (ad := "[I") hown (oW hw 43 rfl) (oW hw 44 rfl) (oW hw 31 rfl) (oW hw 29 rfl) (oW hw 45 rfl) (oW hw 46 rfl) e23 (Arv.arh f35) f36 (g := (mkF m 41 #[oR a1, oR a2, .unset, .unset, .unset, .unset, .unset, .unset, .unset] [(.ref a2), (.ref a1)])) rfl (by rw [hml]; rfl) rfl (hb hby own_d4_41) (by decide) (W := 1) (cap := 2) oL (by decide) (by decide) (by decide) (by decide)
  obtain ⟨b41, g41⟩ : ∃ z, z = h23.size := ⟨_, rfl⟩
  rw [← g41] at A41 B41 st41
  have R41 := fun t k => R40 t (st41 t k)
  clear R40 st41 X23 e23
  have ne_a1_b41 : a1 ≠ b41 := Nat.ne_of_lt (Nat.lt_of_lt_of_le f24.lt (Nat.le_of_eq g41.symm))
  have ne_a2_b41 : a2 ≠ b41 := Nat.ne_of_lt (Nat.lt_of_lt_of_le f35.lt (Nat.le_of_eq g41.symm))
  have ne_b6_b41 : b6 ≠ b41 := Nat.ne_of_lt (Nat.lt_of_lt_of_le f38.lt (Nat.le_of_eq g41.symm))
  have ne_po_b41 : po ≠ b41 := Nat.ne_of_lt (Nat.lt_of_lt_of_le f37.lt (Nat.le_of_eq g41.symm))
  have g_b41 : n0 ≤ b41 := Nat.le_trans Z23 (Nat.le_of_eq g41.symm)
  have sz_b41 : h0.size ≤ b41 := Nat.le_trans K23.1 (Nat.le_of_eq g41.symm)
  have Z41 : n0 ≤ h41.size := Nat.le_trans Z23 E41.1
  clear Z23
  have K41 : Keep h0 h41 [a1, po] := K23.ext E41
  clear K23
  have f42 : oF Z h41 a1 "rows" "I" (.int 2) := f24.ext E41
  clear f24
  have f43 : oF Z h41 a1 "entryRows" "[[I" (.ref er) := f25.ext E41
  clear f25
  have f44 : oF Z h41 a1 "entryValues" "[[D" (.ref ev) := f26.ext E41
  clear f26
  have f45 : oF Z h41 a1 "rhs" "[D" (.ref rh) := f27.ext E41
  clear f27
  have f46 : oF Z h41 a1 "inverse" "[[D" .null := f28.ext E41
  clear f28
  have f47 : oF Z h41 a1 "primal" "[D" .null := f29.ext E41
  clear f29
  have f48 : oF Z h41 a1 "pivotsSinceRefactor" "I" (.int 0) := f30.ext E41
  clear f30
  have f49 : oF Z h41 a1 "position" "[I" (.ref po) := f31.ext E41
  clear f31
  have f50 : oF Z h41 a1 "infeasibility" "D" (.double 0) := f32.ext E41
  clear f32
  have f51 : oF Z h41 a1 "start" "[I" .null := f33.ext E41
  clear f33
  have f52 : Exa Z h41 a1 "com/example/trunkwright/trunkwright/traffic/RevisedSimplex" := f34.ext E41
  clear f34
  have f53 : Arv Z h41 a2 ka .int (2 : Int32) [(.int j0), (.int j1)] (.int 0) := f35.ext E41
  clear f35
  have f54 : Exa Z h41 a2 "[I" := f36.ext E41
  clear f36
  have f55 : Arv Z h41 po kb .int (16 : Int32) pl (.int 0) := f37.ext E41
  clear f37
  have f56 : Exa Z h41 b6 "[I" := f38.ext E41
  clear f38
  have f57 : Arv Z h41 b6 ka .int (2 : Int32) [(.int j0), (.int j1)] (.int 0) := f39.ext E41
  clear f39
  have f58 : oF Z h41 a1 "basis" "[I" (.ref b6) := Fw23.ext E41
  clear Fw23
  clear E41
  have V41 : Arv Z h41 b41 ka .int (2 : Int32) [(.int j0), (.int j1)] (.int 0) := A41
  obtain ⟨T59, X59, e59, st59⟩ := castY X41 hx hZ hown (oW hw 13 rfl) e41 (Ins.self B41) (g := (mkF m 44 #[oR a1, oR a2, .unset, .unset, .unset, .unset, .unset, .unset, .unset] [(.ref b41), (.ref a1)])) rfl rfl (hb hby own_d4_44)
  have R59 := fun t k => R41 t (st59 t k)
  clear R41 st59 X41 e41
  obtain ⟨T60, h60, X60, e60, W60, st60⟩ := putF X59 hx hZ hown (host := "") (Or.inl (oW hw 55 rfl)) Via.refl e59 f51 f52 (Or.inl (oW hw 56 rfl)) (oW hw 2 rfl) (ty := (.array .int)) (by decide) rfl rfl (g := (mkF m 47 #[oR a1, oR a2, .unset, .unset, .unset, .unset, .unset, .unset, .unset] [(.ref b41), (.ref a1)])) rfl rfl (hb hby own_d4_47)
  have R60 := fun t k => R59 t (st60 t k)
  clear R59 st60 X59 e59
  have Z60 : n0 ≤ h60.size := Nat.le_trans Z41 (Keep.of_wr W60).1
  clear Z41
  have K60 : Keep h0 h60 [a1, po] := K41.wr W60 (Or.inl (by simp))
  clear K41
  have N60 := Fr.snoc X60 N23 g_a1
  clear N23
  have f61 : oF Z h60 a1 "rows" "I" (.int 2) := f42.other W60 (Or.inr (slot_ne (Or.inr (oW hw 25 rfl)) (Or.inl (oW hw 56 rfl)) (by decide) (t := .int) (t' := (.array .int)) (by decide) (by decide)))
  clear f42
  have f62 : oF Z h60 a1 "entryRows" "[[I" (.ref er) := f43.other W60 (Or.inr (slot_ne (Or.inl (oW hw 16 rfl)) (Or.inl (oW hw 56 rfl)) (by decide) (t := (.array (.array .int))) (t' := (.array .int)) (by decide) (by decide)))
  clear f43
  have f63 : oF Z h60 a1 "entryValues" "[[D" (.ref ev) := f44.other W60 (Or.inr (slot_ne (Or.inl (oW hw 20 rfl)) (Or.inl (oW hw 56 rfl)) (by decide) (t := (.array (.array .double))) (t' := (.array .int)) (by decide) (by decide)))
  clear f44
  have f64 : oF Z h60 a1 "rhs" "[D" (.ref rh) := f45.other W60 (Or.inr (slot_ne (Or.inr (oW hw 35 rfl)) (Or.inl (oW hw 56 rfl)) (by decide) (t := (.array .double)) (t' := (.array .int)) (by decide) (by decide)))
  clear f45
  have f65 : oF Z h60 a1 "inverse" "[[D" .null := f46.other W60 (Or.inr (slot_ne (Or.inl (oW hw 75 rfl)) (Or.inl (oW hw 56 rfl)) (by decide) (t := (.array (.array .double))) (t' := (.array .int)) (by decide) (by decide)))
  clear f46
  have f66 : oF Z h60 a1 "primal" "[D" .null := f47.other W60 (Or.inr (slot_ne (Or.inl (oW hw 77 rfl)) (Or.inl (oW hw 56 rfl)) (by decide) (t := (.array .double)) (t' := (.array .int)) (by decide) (by decide)))
  clear f47
  have f67 : oF Z h60 a1 "pivotsSinceRefactor" "I" (.int 0) := f48.other W60 (Or.inr (slot_ne (Or.inl (oW hw 79 rfl)) (Or.inl (oW hw 56 rfl)) (by decide) (t := .int) (t' := (.array .int)) (by decide) (by decide)))
  clear f48
  have f68 : oF Z h60 a1 "position" "[I" (.ref po) := f49.other W60 (Or.inr (slot_ne (Or.inl (oW hw 23 rfl)) (Or.inl (oW hw 56 rfl)) (by decide) (t := (.array .int)) (t' := (.array .int)) (by decide) (by decide)))
  clear f49
  have f69 : oF Z h60 a1 "infeasibility" "D" (.double 0) := f50.other W60 (Or.inr (slot_ne (Or.inl (oW hw 84 rfl)) (Or.inl (oW hw 56 rfl)) (by decide) (t := .double) (t' := (.array .int)) (by decide) (by decide)))
  clear f50
  have f70 : Exa Z h60 a1 "com/example/trunkwright/trunkwright/traffic/RevisedSimplex" := f52.wr W60
  clear f52
  have f71 : Arv Z h60 po kb .int (16 : Int32) pl (.int 0) := f55.other W60 ne_po_a1
  clear f55
  have f72 : Exa Z h60 b6 "[I" := f56.wr W60
  clear f56
  have f73 : Arv Z h60 b6 ka .int (2 : Int32) [(.int j0), (.int j1)] (.int 0) := f57.other W60 (Ne.symm ne_a1_b6)
  clear f57
  have f74 : oF Z h60 a1 "basis" "[I" (.ref b6) := f58.other W60 (Or.inr (slot_ne (Or.inl (oW hw 54 rfl)) (Or.inl (oW hw 56 rfl)) (by decide) (t := (.array .int)) (t' := (.array .int)) (by decide) (by decide)))
  clear f58
  have f75 : Exa Z h60 b41 "[I" := B41.wr W60
  have f76 : Arv Z h60 b41 ka .int (2 : Int32) [(.int j0), (.int j1)] (.int 0) := V41.other W60 (Ne.symm ne_a1_b41)
  clear V41
  have Fw60 : oF Z h60 a1 "start" "[I" (.ref b41) := f51.same W60
  have R77 : ∀ t, oG p e below T60 m 54 #[oR a1, oR a2, oI 0, .unset, .unset, .unset, .unset, .unset, .unset] [(.ref a1), (.int 0)] t → Steps p.tables e below AA t := by
    intro t k
    refine R60 t ?_
    refine XS.iconst X60.here hx rfl (hb hby own_d4_50) ?_
    refine XS.istoreN X60.here hx rfl (hb hby own_d4_51) rfl (l' := #[oR a1, oR a2, oI 0, .unset, .unset, .unset, .unset, .unset, .unset]) rfl ?_
    refine XS.iloadN X60.here hx rfl (hb hby own_d4_52) rfl ?_
    refine XS.aloadN X60.here hx rfl (hb hby own_d4_53) rfl rfl ?_
    exact k
  clear R60
  obtain ⟨T78, X78, e78, st78⟩ := getF X60 hx hZ hown (host := "") (Or.inl (oW hw 24 rfl)) Via.refl e60 f61 (g := (mkF m 54 #[oR a1, oR a2, oI 0, .unset, .unset, .unset, .unset, .unset, .unset] [(.ref a1), (.int 0)])) rfl rfl (hb hby own_d4_54)
  have R78 := fun t k => R77 t (st78 t k)
  clear R77 st78 X60 e60
  have R79 : ∀ t, oG p e below T78 m 61 #[oR a1, oR a2, oI 0, .unset, .unset, .unset, .unset, .unset, .unset] [(.ref a1)] t → Steps p.tables e below AA t := by
    intro t k
    refine R78 t ?_
    refine XS.icmpNo X78.here hx rfl (hb hby own_d4_57) rfl (tlt (by decide : ((0 : Int32) < (2 : Int32)))).2.1 ?_
    refine XS.aloadN X78.here hx rfl (hb hby own_d4_60) rfl rfl ?_
    exact k
  clear R78
  obtain ⟨T80, X80, e80, st80⟩ := getF X78 hx hZ hown (host := "") (Or.inl (oW hw 22 rfl)) Via.refl e78 f68 (g := (mkF m 61 #[oR a1, oR a2, oI 0, .unset, .unset, .unset, .unset, .unset, .unset] [(.ref a1)])) rfl rfl (hb hby own_d4_61)
  have R80 := fun t k => R79 t (st80 t k)
  clear R79 st80 X78 e78
  have R81 : ∀ t, oG p e below T80 m 65 #[oR a1, oR a2, oI 0, .unset, .unset, .unset, .unset, .unset, .unset] [(.ref a1), (.ref po)] t → Steps p.tables e below AA t := by
    intro t k
    refine R80 t ?_
    refine XS.aloadN X80.here hx rfl (hb hby own_d4_64) rfl rfl ?_
    exact k
  clear R80
  obtain ⟨T82, X82, e82, st82⟩ := getF X80 hx hZ hown (host := "") (Or.inl (oW hw 53 rfl)) Via.refl e80 f74 (g := (mkF m 65 #[oR a1, oR a2, oI 0, .unset, .unset, .unset, .unset, .unset, .unset] [(.ref a1), (.ref po)])) rfl rfl (hb hby own_d4_65)
  have R82 := fun t k => R81 t (st82 t k)
  clear R81 st82 X80 e80
  have R83 : ∀ t, oG p e below T82 m 69 #[oR a1, oR a2, oI 0, .unset, .unset, .unset, .unset, .unset, .unset] [(.int 0), (.ref b6), (.ref po)] t → Steps p.tables e below AA t := by
    intro t k
    refine R82 t ?_
    refine XS.iloadN X82.here hx rfl (hb hby own_d4_68) rfl ?_
    exact k
  clear R82
  obtain ⟨cl84, Ar84, q84, S84, N84', H84, G84⟩ := id f73
  have hin84_0 : ¬ ((0 : Int32) < 0 ∨ cl84.slots.size ≤ ((0 : Int32)).toNatClampNeg) := inb_of S84 ⟨by decide, by decide⟩
  have hat84_0 : cl84.slots[((0 : Int32)).toNatClampNeg]? = some (.int j0) := H84.at hin84_0 rfl
  have R85 : ∀ t, oG p e below T82 m 71 #[oR a1, oR a2, oI 0, .unset, .unset, .unset, .unset, .unset, .unset] [(.int 0), (.int j0), (.ref po)] t → Steps p.tables e below AA t := by
    intro t k
    refine R83 t ?_
    refine X82.iaload hx (j := (0 : Int32)) (v := (.int j0)) (by rw [e82]; exact Ar84.1) (State.isArrayOf_alike hZ.alike Ar84.2.1) Ar84.2.2 hin84_0 hat84_0 (g := (mkF m 69 #[oR a1, oR a2, oI 0, .unset, .unset, .unset, .unset, .unset, .unset] [(.int 0), (.ref b6), (.ref po)])) rfl rfl (hb hby own_d4_69) _ ?_
    refine XS.iloadN X82.here hx rfl (hb hby own_d4_70) rfl ?_
    exact k
  clear R83
  obtain ⟨cl86, Ar86, q86, S86, N86', H86, G86⟩ := id f71
  have hin86 : ¬ (j0 < 0 ∨ cl86.slots.size ≤ (j0).toNatClampNeg) := inb_of S86 hj0
  obtain ⟨T87, h87, X87, e87, W87, st87⟩ := stI X82 hx hZ e82 Ar86 (j := j0) hin86 (g := (mkF m 71 #[oR a1, oR a2, oI 0, .unset, .unset, .unset, .unset, .unset, .unset] [(.int 0), (.int j0), (.ref po)])) rfl rfl (hb hby own_d4_71)
  have R87 := fun t k => R85 t (st87 t k)
  clear R85 st87 X82 e82
  have Z87 : n0 ≤ h87.size := Nat.le_trans Z60 (Keep.of_wr W87).1
  clear Z60
  have K87 : Keep h0 h87 [a1, po] := K60.wr W87 (Or.inl (by simp))
  have N87 := Fr.snoc X87 N60 g_po
  clear K60
  clear N60
  have f88 : oF Z h87 a1 "rows" "I" (.int 2) := f61.other W87 (Or.inl (Ne.symm ne_po_a1))
  clear f61
  have f89 : oF Z h87 a1 "entryRows" "[[I" (.ref er) := f62.other W87 (Or.inl (Ne.symm ne_po_a1))
  clear f62
  have f90 : oF Z h87 a1 "entryValues" "[[D" (.ref ev) := f63.other W87 (Or.inl (Ne.symm ne_po_a1))
  clear f63
  have f91 : oF Z h87 a1 "rhs" "[D" (.ref rh) := f64.other W87 (Or.inl (Ne.symm ne_po_a1))
  clear f64
  have f92 : oF Z h87 a1 "inverse" "[[D" .null := f65.other W87 (Or.inl (Ne.symm ne_po_a1))
  clear f65
  have f93 : oF Z h87 a1 "primal" "[D" .null := f66.other W87 (Or.inl (Ne.symm ne_po_a1))
  clear f66
  have f94 : oF Z h87 a1 "pivotsSinceRefactor" "I" (.int 0) := f67.other W87 (Or.inl (Ne.symm ne_po_a1))
  clear f67
  have f95 : oF Z h87 a1 "position" "[I" (.ref po) := f68.other W87 (Or.inl (Ne.symm ne_po_a1))
  clear f68
  have f96 : oF Z h87 a1 "infeasibility" "D" (.double 0) := f69.other W87 (Or.inl (Ne.symm ne_po_a1))
  clear f69
  have f97 : Exa Z h87 a1 "com/example/trunkwright/trunkwright/traffic/RevisedSimplex" := f70.wr W87
  clear f70
  have f98 : Exa Z h87 b6 "[I" := f72.wr W87
  clear f72
  have f99 : Arv Z h87 b6 ka .int (2 : Int32) [(.int j0), (.int j1)] (.int 0) := f73.other W87 (Ne.symm ne_po_b6)
  clear f73
  have f100 : oF Z h87 a1 "basis" "[I" (.ref b6) := f74.other W87 (Or.inl (Ne.symm ne_po_a1))
  clear f74
  have f101 : Exa Z h87 b41 "[I" := f75.wr W87
  clear f75
  have f102 : Arv Z h87 b41 ka .int (2 : Int32) [(.int j0), (.int j1)] (.int 0) := f76.other W87 (Ne.symm ne_po_b41)
  clear f76
  have f103 : oF Z h87 a1 "start" "[I" (.ref b41) := Fw60.other W87 (Or.inl (Ne.symm ne_po_a1))
  clear Fw60
  have V87 : Arv Z h87 po kb .int (16 : Int32) (pl.set j0.toNatClampNeg (.int 0)) (.int 0) := Arv.set Ar86 q86 S86 N86' H86 G86 rfl W87 j0.toNatClampNeg rfl hl0
  clear Ar86 q86 S86 N86' H86 G86 hin86 W87 f71
  have R104 : ∀ t, oG p e below T87 m 54 #[oR a1, oR a2, oI 1, .unset, .unset, .unset, .unset, .unset, .unset] [(.ref a1), (.int 1)] t → Steps p.tables e below AA t := by
    intro t k
    refine R87 t ?_
    refine XS.iinc X87.here hx rfl (hb hby own_d4_72) rfl (l' := #[oR a1, oR a2, oI 1, .unset, .unset, .unset, .unset, .unset, .unset]) rfl ?_
    refine XS.goto X87.here hx rfl (pc0 := 75) (pc' := 52) rfl (hb hby own_d4_75) (by decide) (by decide) ?_
    refine XS.iloadN X87.here hx rfl (hb hby own_d4_52) rfl ?_
    refine XS.aloadN X87.here hx rfl (hb hby own_d4_53) rfl rfl ?_
    exact k
  clear R87
  obtain ⟨T105, X105, e105, st105⟩ := getF X87 hx hZ hown (host := "") (Or.inl (oW hw 24 rfl)) Via.refl e87 f88 (g := (mkF m 54 #[oR a1, oR a2, oI 1, .unset, .unset, .unset, .unset, .unset, .unset] [(.ref a1), (.int 1)])) rfl rfl (hb hby own_d4_54)
  have R105 := fun t k => R104 t (st105 t k)
  clear R104 st105 X87 e87
  have R106 : ∀ t, oG p e below T105 m 61 #[oR a1, oR a2, oI 1, .unset, .unset, .unset, .unset, .unset, .unset] [(.ref a1)] t → Steps p.tables e below AA t := by
    intro t k
    refine R105 t ?_
    refine XS.icmpNo X105.here hx rfl (hb hby own_d4_57) rfl (tlt (by decide : ((1 : Int32) < (2 : Int32)))).2.1 ?_
    refine XS.aloadN X105.here hx rfl (hb hby own_d4_60) rfl rfl ?_
    exact k
  clear R105
  obtain ⟨T107, X107, e107, st107⟩ := getF X105 hx hZ hown (host := "") (Or.inl (oW hw 22 rfl)) Via.refl e105 f95 (g := (mkF m 61 #[oR a1, oR a2, oI 1, .unset, .unset, .unset, .unset, .unset, .unset] [(.ref a1)])) rfl rfl (hb hby own_d4_61)
  have R107 := fun t k => R106 t (st107 t k)
  clear R106 st107 X105 e105
  have R108 : ∀ t, oG p e below T107 m 65 #[oR a1, oR a2, oI 1, .unset, .unset, .unset, .unset, .unset, .unset] [(.ref a1), (.ref po)] t → Steps p.tables e below AA t := by
    intro t k
    refine R107 t ?_
    refine XS.aloadN X107.here hx rfl (hb hby own_d4_64) rfl rfl ?_
    exact k
  clear R107
  obtain ⟨T109, X109, e109, st109⟩ := getF X107 hx hZ hown (host := "") (Or.inl (oW hw 53 rfl)) Via.refl e107 f100 (g := (mkF m 65 #[oR a1, oR a2, oI 1, .unset, .unset, .unset, .unset, .unset, .unset] [(.ref a1), (.ref po)])) rfl rfl (hb hby own_d4_65)
  have R109 := fun t k => R108 t (st109 t k)
  clear R108 st109 X107 e107
  have R110 : ∀ t, oG p e below T109 m 69 #[oR a1, oR a2, oI 1, .unset, .unset, .unset, .unset, .unset, .unset] [(.int 1), (.ref b6), (.ref po)] t → Steps p.tables e below AA t := by
    intro t k
    refine R109 t ?_
    refine XS.iloadN X109.here hx rfl (hb hby own_d4_68) rfl ?_
    exact k
  clear R109
  obtain ⟨cl111, Ar111, q111, S111, N111', H111, G111⟩ := id f99
  have hin111_1 : ¬ ((1 : Int32) < 0 ∨ cl111.slots.size ≤ ((1 : Int32)).toNatClampNeg) := inb_of S111 ⟨by decide, by decide⟩
  have hat111_1 : cl111.slots[((1 : Int32)).toNatClampNeg]? = some (.int j1) := H111.at hin111_1 rfl
  have R112 : ∀ t, oG p e below T109 m 71 #[oR a1, oR a2, oI 1, .unset, .unset, .unset, .unset, .unset, .unset] [(.int 1), (.int j1), (.ref po)] t → Steps p.tables e below AA t := by
    intro t k
    refine R110 t ?_
    refine X109.iaload hx (j := (1 : Int32)) (v := (.int j1)) (by rw [e109]; exact Ar111.1) (State.isArrayOf_alike hZ.alike Ar111.2.1) Ar111.2.2 hin111_1 hat111_1 (g := (mkF m 69 #[oR a1, oR a2, oI 1, .unset, .unset, .unset, .unset, .unset, .unset] [(.int 1), (.ref b6), (.ref po)])) rfl rfl (hb hby own_d4_69) _ ?_
    refine XS.iloadN X109.here hx rfl (hb hby own_d4_70) rfl ?_
    exact k
  clear R110
  obtain ⟨cl113, Ar113, q113, S113, N113', H113, G113⟩ := id V87
  have hin113 : ¬ (j1 < 0 ∨ cl113.slots.size ≤ (j1).toNatClampNeg) := inb_of S113 hj1
  obtain ⟨T114, h114, X114, e114, W114, st114⟩ := stI X109 hx hZ e109 Ar113 (j := j1) hin113 (g := (mkF m 71 #[oR a1, oR a2, oI 1, .unset, .unset, .unset, .unset, .unset, .unset] [(.int 1), (.int j1), (.ref po)])) rfl rfl (hb hby own_d4_71)
  have R114 := fun t k => R112 t (st114 t k)
  clear R112 st114 X109 e109
  have Z114 : n0 ≤ h114.size := Nat.le_trans Z87 (Keep.of_wr W114).1
  clear Z87
  have K114 : Keep h0 h114 [a1, po] := K87.wr W114 (Or.inl (by simp))
  have N114 := Fr.snoc X114 N87 g_po
  clear K87
  clear N87
  have f115 : oF Z h114 a1 "rows" "I" (.int 2) := f88.other W114 (Or.inl (Ne.symm ne_po_a1))
  clear f88
  have f116 : oF Z h114 a1 "entryRows" "[[I" (.ref er) := f89.other W114 (Or.inl (Ne.symm ne_po_a1))
  clear f89
  have f117 : oF Z h114 a1 "entryValues" "[[D" (.ref ev) := f90.other W114 (Or.inl (Ne.symm ne_po_a1))
  clear f90
  have f118 : oF Z h114 a1 "rhs" "[D" (.ref rh) := f91.other W114 (Or.inl (Ne.symm ne_po_a1))
  clear f91
  have f119 : oF Z h114 a1 "inverse" "[[D" .null := f92.other W114 (Or.inl (Ne.symm ne_po_a1))
  clear f92
  have f120 : oF Z h114 a1 "primal" "[D" .null := f93.other W114 (Or.inl (Ne.symm ne_po_a1))
  clear f93
  have f121 : oF Z h114 a1 "pivotsSinceRefactor" "I" (.int 0) := f94.other W114 (Or.inl (Ne.symm ne_po_a1))
  clear f94
  have f122 : oF Z h114 a1 "position" "[I" (.ref po) := f95.other W114 (Or.inl (Ne.symm ne_po_a1))
  clear f95
  have f123 : oF Z h114 a1 "infeasibility" "D" (.double 0) := f96.other W114 (Or.inl (Ne.symm ne_po_a1))
  clear f96
  have f124 : Exa Z h114 a1 "com/example/trunkwright/trunkwright/traffic/RevisedSimplex" := f97.wr W114
  clear f97
  have f125 : Exa Z h114 b6 "[I" := f98.wr W114
  clear f98
  have f126 : Arv Z h114 b6 ka .int (2 : Int32) [(.int j0), (.int j1)] (.int 0) := f99.other W114 (Ne.symm ne_po_b6)
  clear f99
  have f127 : oF Z h114 a1 "basis" "[I" (.ref b6) := f100.other W114 (Or.inl (Ne.symm ne_po_a1))
  clear f100
  have f128 : Exa Z h114 b41 "[I" := f101.wr W114
  clear f101
  have f129 : Arv Z h114 b41 ka .int (2 : Int32) [(.int j0), (.int j1)] (.int 0) := f102.other W114 (Ne.symm ne_po_b41)
  clear f102
  have f130 : oF Z h114 a1 "start" "[I" (.ref b41) := f103.other W114 (Or.inl (Ne.symm ne_po_a1))
  clear f103
  have V114 : Arv Z h114 po kb .int (16 : Int32) ((pl.set j0.toNatClampNeg (.int 0)).set j1.toNatClampNeg (.int 1)) (.int 0) := Arv.set Ar113 q113 S113 N113' H113 G113 rfl W114 j1.toNatClampNeg rfl hl1
  clear Ar113 q113 S113 N113' H113 G113 hin113 W114 V87
  have R131 : ∀ t, oG p e below T114 m 54 #[oR a1, oR a2, oI 2, .unset, .unset, .unset, .unset, .unset, .unset] [(.ref a1), (.int 2)] t → Steps p.tables e below AA t := by
    intro t k
    refine R114 t ?_
    refine XS.iinc X114.here hx rfl (hb hby own_d4_72) rfl (l' := #[oR a1, oR a2, oI 2, .unset, .unset, .unset, .unset, .unset, .unset]) rfl ?_
    refine XS.goto X114.here hx rfl (pc0 := 75) (pc' := 52) rfl (hb hby own_d4_75) (by decide) (by decide) ?_
    refine XS.iloadN X114.here hx rfl (hb hby own_d4_52) rfl ?_
    refine XS.aloadN X114.here hx rfl (hb hby own_d4_53) rfl rfl ?_
    exact k
  clear R114
  obtain ⟨T132, X132, e132, st132⟩ := getF X114 hx hZ hown (host := "") (Or.inl (oW hw 24 rfl)) Via.refl e114 f115 (g := (mkF m 54 #[oR a1, oR a2, oI 2, .unset, .unset, .unset, .unset, .unset, .unset] [(.ref a1), (.int 2)])) rfl rfl (hb hby own_d4_54)
  have R132 := fun t k => R131 t (st132 t k)
  clear R131 st132 X114 e114
  have R133 : ∀ t, oG p e below T132 m 79 #[oR a1, oR a2, oI 2, .unset, .unset, .unset, .unset, .unset, .unset] [(.ref a1)] t → Steps p.tables e below AA t := by
    intro t k
    refine R132 t ?_
    refine XS.icmpYes X132.here hx rfl (pc0 := 57) (pc' := 78) rfl (hb hby own_d4_57) rfl (flt (by decide : ¬ ((2 : Int32) < (2 : Int32)))).2.1 (by decide) (by decide) ?_
    refine XS.aloadN X132.here hx rfl (hb hby own_d4_78) rfl rfl ?_
    exact k
  clear R132
  have f134 : Arv Z h114 er kc (.array .int) (16 : Int32) ers .null := V_er.keep K114 (ninS ne_er_a1 (ninS ne_er_po nin0))
  have f135 : Arv Z h114 ev kd (.array .double) (16 : Int32) evs .null := V_ev.keep K114 (ninS ne_ev_a1 (ninS ne_ev_po nin0))
  have f136 : Arv Z h114 r0 ke .int (1 : Int32) [(.int 0)] (.int 0) := V_r0.keep K114 (ninS ne_r0_a1 (ninS ne_r0_po nin0))
  have f137 : Arv Z h114 r1 kf .int (1 : Int32) [(.int 1)] (.int 0) := V_r1.keep K114 (ninS ne_r1_a1 (ninS ne_r1_po nin0))
  have f138 : Arv Z h114 va0 kg .double (1 : Int32) [(.double u0)] (.double 0) := V_va0.keep K114 (ninS ne_va0_a1 (ninS ne_va0_po nin0))
  have f139 : Arv Z h114 va1 kh .double (1 : Int32) [(.double u1)] (.double 0) := V_va1.keep K114 (ninS ne_va1_a1 (ninS ne_va1_po nin0))
  have f140 : Arv Z h114 rh ki .double (2 : Int32) [(.double d0), (.double d1)] (.double 0) := V_rh.keep K114 (ninS ne_rh_a1 (ninS ne_rh_po nin0))
  obtain ⟨cq141, q141a, q141b⟩ := f124.cell
  obtain ⟨_, _, ⟨T141, L141, k141, n141⟩, -, X141, ⟨Lc141, hQ141, l141, y141, z141⟩, st141⟩ := X132.privateBack hx (y := (oN "refactor" "()V")) hown (mvT hZ (oW hw 57 rfl)) (mvT hZ (oW hw 58 rfl)) (mvT hZ (own_selP (y := (oN "refactor" "()V")) (oW hw 2 rfl) (oW hw 58 rfl) (oW hw 59 rfl) (by decide))) (Cond.privateMethod_at (mvP hZ (oW hw 59 rfl) (args := #[]))) (mvT hZ (oW hw 60 rfl)) (by decide) (backOf (W := 0) (rmRfD l Z a0 hw [] a1 b6 er ev r0 r1 va0 va1 rh po _ _ _ _ _ _ _ _ j0 j1 _ _ _ _ _ _ _ _  h114 n0 Z114 f115 f116 f117 f127 f118 f119 f120 f121 f122 f123 f124 f126 f134 f135 f136 f137 f138 f139 f140 ne_rh_a1 g_a1 hj0 ur0 uv0 su0 sd0 hx0 hj1 ur1 uv1 su1 sd1 hx1) hZ (oW hw 60 rfl) (oW hw 3 rfl) (by decide) (by decide)) (g := (mkF m 79 #[oR a1, oR a2, oI 2, .unset, .unset, .unset, .unset, .unset, .unset] [(.ref a1)])) rfl (by rw [hml]; rfl) (Steps.refl _) (a := a1) (by rw [e132]; exact q141a) q141b (argsL := []) (rest := []) (lenOf own_pd1 rfl) rfl oL (hb hby own_d4_79) (fun _ _ => ⟨rfl, e132, (by decide : 2 + 7 ≤ _), (by decide : 4 + 14 ≤ _)⟩)
  dsimp only [Pt.U, Pt.locs, Pt.cells, Pt.slots] at X141 l141 y141 z141 st141 hQ141
  subst l141 y141 z141
  obtain ⟨rfl, Nq141, bp141, kp141, Kc141, sz141, Fa141, Fb141, Fc141, Fd141, Vc141⟩ := hQ141
  have N141 := Fr.app N114 Nq141
  clear N114
  have R141 := fun t k => R133 t (st141.trans k)
  clear R133 st141 X132 e132
  have ne_a1_bp141 : a1 ≠ bp141 := Nat.ne_of_lt (Nat.lt_of_lt_of_le f115.lt sz141)
  have ne_po_bp141 : po ≠ bp141 := Nat.ne_of_lt (Nat.lt_of_lt_of_le V114.lt sz141)
  have Z141 : n0 ≤ T141.heap.size := Nat.le_trans Z114 Kc141.1
  clear Z114
  have K141 : Keep h0 T141.heap [a1, po] := K114.trans Kc141 (allS (Or.inl (by simp)) all0)
  clear K114
  have f142 : Exa Z T141.heap a1 "com/example/trunkwright/trunkwright/traffic/RevisedSimplex" := f124.keep Kc141
  clear f124
  have f143 : Arv Z T141.heap po kb .int (16 : Int32) ((pl.set j0.toNatClampNeg (.int 0)).set j1.toNatClampNeg (.int 1)) (.int 0) := V114.keep Kc141 (ninS ne_po_a1 nin0)
  clear V114
  have nx0 : own_N x0 := hx0 ▸ own_dN sd0 su0
  have nx1 : own_N x1 := hx1 ▸ own_dN sd1 su1
  have R144 : ∀ t, oG p e below T141 m 85 #[oR a1, oR a2, oD 0, .second, .unset, .unset, .unset, .unset, .unset] [(.ref a1)] t → Steps p.tables e below AA t := by
    intro t k
    refine R141 t ?_
    refine XS.dconst0 X141.here hx rfl (hb hby own_d4_82) (v := (0 : UInt64)) (by decide +kernel) ?_
    refine XS.dstoreN X141.here hx rfl (hb hby own_d4_83) rfl (l' := #[oR a1, oR a2, oD 0, .second, .unset, .unset, .unset, .unset, .unset]) rfl ?_
    refine XS.aloadN X141.here hx rfl (hb hby own_d4_84) rfl rfl ?_
    exact k
  clear R141
  obtain ⟨T145, X145, e145, st145⟩ := getF X141 hx hZ hown (host := "") (Or.inl (oW hw 76 rfl)) Via.refl rfl Fd141 (g := (mkF m 85 #[oR a1, oR a2, oD 0, .second, .unset, .unset, .unset, .unset, .unset] [(.ref a1)])) rfl rfl (hb hby own_d4_85)
  have R145 := fun t k => R144 t (st145 t k)
  clear R144 st145 X141
  have R146 : ∀ t, oG p e below T145 m 92 #[oR a1, oR a2, oD 0, .second, oR bp141, .unset, .unset, .unset, .unset] [(.ref bp141)] t → Steps p.tables e below AA t := by
    intro t k
    refine R145 t ?_
    refine XS.astore X145.here hx rfl (hb hby own_d4_88) rfl rfl (l' := #[oR a1, oR a2, oD 0, .second, oR bp141, .unset, .unset, .unset, .unset]) rfl ?_
    refine XS.aload X145.here hx rfl (hb hby own_d4_90) rfl rfl ?_
    exact k
  clear R145
  obtain ⟨cl147, Ar147, q147, S147, N147', H147, G147⟩ := id Vc141
  have R148 : ∀ t, oG p e below T145 m 109 #[oR a1, oR a2, oD 0, .second, oR bp141, oI 2, oI 0, .unset, .unset] [(.int 0), (.ref bp141)] t → Steps p.tables e below AA t := by
    intro t k
    refine R146 t ?_
    refine X145.arraylength hx (by rw [e145]; exact Ar147.1) (State.isArrayOf_alike hZ.alike Ar147.2.1) (g := (mkF m 92 #[oR a1, oR a2, oD 0, .second, oR bp141, .unset, .unset, .unset, .unset] [(.ref bp141)])) rfl rfl (hb hby own_d4_92) _ ?_
    rw [len_of S147 N147']
    refine XS.istore X145.here hx rfl (hb hby own_d4_93) rfl (l' := #[oR a1, oR a2, oD 0, .second, oR bp141, oI 2, .unset, .unset, .unset]) rfl ?_
    refine XS.iconst X145.here hx rfl (hb hby own_d4_95) ?_
    refine XS.istore X145.here hx rfl (hb hby own_d4_96) rfl (l' := #[oR a1, oR a2, oD 0, .second, oR bp141, oI 2, oI 0, .unset, .unset]) rfl ?_
    refine XS.iload X145.here hx rfl (hb hby own_d4_98) rfl ?_
    show oG p e below T145 m 100 #[oR a1, oR a2, oD 0, .second, oR bp141, oI 2, oI 0, .unset, .unset] [(.int 0)] _
    refine XS.iload X145.here hx rfl (hb hby own_d4_100) rfl ?_
    refine XS.icmpNo X145.here hx rfl (hb hby own_d4_102) rfl (tlt (by decide : ((0 : Int32) < (2 : Int32)))).2.1 ?_
    refine XS.aload X145.here hx rfl (hb hby own_d4_105) rfl rfl ?_
    refine XS.iload X145.here hx rfl (hb hby own_d4_107) rfl ?_
    exact k
  clear R146
  have hin147_0 : ¬ ((0 : Int32) < 0 ∨ cl147.slots.size ≤ ((0 : Int32)).toNatClampNeg) := inb_of S147 ⟨by decide, by decide⟩
  have hat147_0 : cl147.slots[((0 : Int32)).toNatClampNeg]? = some (.double x0) := H147.at hin147_0 rfl
  have R149 : ∀ t, oG p e below T145 m 115 #[oR a1, oR a2, oD 0, .second, oR bp141, oI 2, oI 0, oD x0, .second] [(.double x0), (.double 0)] t → Steps p.tables e below AA t := by
    intro t k
    refine R148 t ?_
    refine X145.daload hx (j := (0 : Int32)) (v := (.double x0)) (by rw [e145]; exact Ar147.1) (State.isArrayOf_alike hZ.alike Ar147.2.1) Ar147.2.2 hin147_0 hat147_0 (g := (mkF m 109 #[oR a1, oR a2, oD 0, .second, oR bp141, oI 2, oI 0, .unset, .unset] [(.int 0), (.ref bp141)])) rfl rfl (hb hby own_d4_109) _ ?_
    refine XS.dstore X145.here hx rfl (hb hby own_d4_110) rfl (l' := #[oR a1, oR a2, oD 0, .second, oR bp141, oI 2, oI 0, oD x0, .second]) rfl ?_
    refine XS.dloadN X145.here hx rfl (hb hby own_d4_112) rfl ?_
    refine XS.dload X145.here hx rfl (hb hby own_d4_113) rfl ?_
    exact k
  clear R148
  obtain ⟨_, v150, _, -, X150, ⟨rfl, rfl⟩, st150⟩ := Jvm.LawKit.callS X145 hx (y := (⟨"java/lang/Math", "abs", "(D)D"⟩ : MethodName)) hown (mvT hZ (oW hw 62 rfl)) (mvT hZ (oW hw 63 rfl)) (mvT hZ (oW hw 64 rfl)) (mvT hZ (oW hw 65 rfl)) (by decide) (Jvm.Free.Fl.Abs.absD_pays (W := 2) x0 (mvT hZ (oW hw 65 rfl)) (by decide) (by decide)) (g := (mkF m 115 #[oR a1, oR a2, oD 0, .second, oR bp141, oI 2, oI 0, oD x0, .second] [(.double x0), (.double 0)])) rfl (by rw [hml]; rfl) (argsL := [(.double x0)]) (rest := [(.double 0)]) (lenOf own_pd5 rfl) rfl oL (hb hby own_d4_115) (fun _ _ => ⟨(by decide : 9 ≤ _), (by decide : 18 ≤ _), rfl, own_NN nx0⟩)
  dsimp only [Pt.U, Pt.locs, Pt.cells, Pt.slots] at X150 st150
  have e150 : (T145.setVm v150).heap = T141.heap := e145
  generalize T145.setVm v150 = T150 at X150 st150 e150
  rw [(own_Nabs nx0)] at st150
  have R150 := fun t k => R149 t (st150 t k)
  clear R149 st150 X145 e145
  obtain ⟨_, v151, _, -, X151, ⟨rfl, rfl⟩, st151⟩ := Jvm.LawKit.callS X150 hx (y := (⟨"java/lang/Math", "max", "(DD)D"⟩ : MethodName)) hown (mvT hZ (oW hw 80 rfl)) (mvT hZ (oW hw 81 rfl)) (mvT hZ (oW hw 64 rfl)) (mvT hZ (oW hw 82 rfl)) (by decide) (Jvm.Free.Fl.Abs.maxD_pays (W := 0) (0 : UInt64) x0 (mvT hZ (oW hw 82 rfl)) (by decide) (by decide)) (g := (mkF m 118 #[oR a1, oR a2, oD 0, .second, oR bp141, oI 2, oI 0, oD x0, .second] [(.double x0), (.double 0)])) rfl (by rw [hml]; rfl) (argsL := [(.double 0), (.double x0)]) (rest := []) (lenOf own_pd8 rfl) rfl oL (hb hby own_d4_118) (fun _ _ => ⟨(by decide : 9 ≤ _), (by decide : 18 ≤ _), rfl, own_NN own_N0, own_NN nx0⟩)
  dsimp only [Pt.U, Pt.locs, Pt.cells, Pt.slots] at X151 st151
  have e151 : (T150.setVm v151).heap = T141.heap := e150
  generalize T150.setVm v151 = T151 at X151 st151 e151
  have R151 := fun t k => R150 t (st151 t k)
  clear R150 st151 X150 e150
  obtain ⟨mx0, hmx0⟩ : ∃ z : UInt64, z = (Jvm.Native.java_lang_Math.nans.pick64 true (0 : UInt64) x0) := ⟨_, rfl⟩
  have R152 : ∀ t, oG p e below T151 m 121 #[oR a1, oR a2, oD 0, .second, oR bp141, oI 2, oI 0, oD x0, .second] [(.double mx0)] t → Steps p.tables e below AA t := by rw [hmx0]; exact R151
  clear R151
  have nm0 : own_N mx0 := hmx0 ▸ own_pick own_N0 nx0
  have R153 : ∀ t, oG p e below T151 m 109 #[oR a1, oR a2, oD mx0, .second, oR bp141, oI 2, oI 1, oD x0, .second] [(.int 1), (.ref bp141)] t → Steps p.tables e below AA t := by
    intro t k
    refine R152 t ?_
    refine XS.dstoreN X151.here hx rfl (hb hby own_d4_121) rfl (l' := #[oR a1, oR a2, oD mx0, .second, oR bp141, oI 2, oI 0, oD x0, .second]) rfl ?_
    refine XS.iinc X151.here hx rfl (hb hby own_d4_122) rfl (l' := #[oR a1, oR a2, oD mx0, .second, oR bp141, oI 2, oI 1, oD x0, .second]) rfl ?_
    refine XS.goto X151.here hx rfl (pc0 := 125) (pc' := 98) rfl (hb hby own_d4_125) (by decide) (by decide) ?_
    refine XS.iload X151.here hx rfl (hb hby own_d4_98) rfl ?_
    refine XS.iload X151.here hx rfl (hb hby own_d4_100) rfl ?_
    show oG p e below T151 m 102 #[oR a1, oR a2, oD mx0, .second, oR bp141, oI 2, oI 1, oD x0, .second] [(.int 2), (.int 1)] _
    refine XS.icmpNo X151.here hx rfl (hb hby own_d4_102) rfl (tlt (by decide : ((1 : Int32) < (2 : Int32)))).2.1 ?_
    refine XS.aload X151.here hx rfl (hb hby own_d4_105) rfl rfl ?_
    refine XS.iload X151.here hx rfl (hb hby own_d4_107) rfl ?_
    exact k
  clear R152
  have hin147_1 : ¬ ((1 : Int32) < 0 ∨ cl147.slots.size ≤ ((1 : Int32)).toNatClampNeg) := inb_of S147 ⟨by decide, by decide⟩
  have hat147_1 : cl147.slots[((1 : Int32)).toNatClampNeg]? = some (.double x1) := H147.at hin147_1 rfl
  have R154 : ∀ t, oG p e below T151 m 115 #[oR a1, oR a2, oD mx0, .second, oR bp141, oI 2, oI 1, oD x1, .second] [(.double x1), (.double mx0)] t → Steps p.tables e below AA t := by
    intro t k
    refine R153 t ?_
    refine X151.daload hx (j := (1 : Int32)) (v := (.double x1)) (by rw [e151]; exact Ar147.1) (State.isArrayOf_alike hZ.alike Ar147.2.1) Ar147.2.2 hin147_1 hat147_1 (g := (mkF m 109 #[oR a1, oR a2, oD mx0, .second, oR bp141, oI 2, oI 1, oD x0, .second] [(.int 1), (.ref bp141)])) rfl rfl (hb hby own_d4_109) _ ?_
    refine XS.dstore X151.here hx rfl (hb hby own_d4_110) rfl (l' := #[oR a1, oR a2, oD mx0, .second, oR bp141, oI 2, oI 1, oD x1, .second]) rfl ?_
    refine XS.dloadN X151.here hx rfl (hb hby own_d4_112) rfl ?_
    refine XS.dload X151.here hx rfl (hb hby own_d4_113) rfl ?_
    exact k
  clear R153
  obtain ⟨_, v155, _, -, X155, ⟨rfl, rfl⟩, st155⟩ := Jvm.LawKit.callS X151 hx (y := (⟨"java/lang/Math", "abs", "(D)D"⟩ : MethodName)) hown (mvT hZ (oW hw 62 rfl)) (mvT hZ (oW hw 63 rfl)) (mvT hZ (oW hw 64 rfl)) (mvT hZ (oW hw 65 rfl)) (by decide) (Jvm.Free.Fl.Abs.absD_pays (W := 2) x1 (mvT hZ (oW hw 65 rfl)) (by decide) (by decide)) (g := (mkF m 115 #[oR a1, oR a2, oD mx0, .second, oR bp141, oI 2, oI 1, oD x1, .second] [(.double x1), (.double mx0)])) rfl (by rw [hml]; rfl) (argsL := [(.double x1)]) (rest := [(.double mx0)]) (lenOf own_pd5 rfl) rfl oL (hb hby own_d4_115) (fun _ _ => ⟨(by decide : 9 ≤ _), (by decide : 18 ≤ _), rfl, own_NN nx1⟩)
  dsimp only [Pt.U, Pt.locs, Pt.cells, Pt.slots] at X155 st155
  have e155 : (T151.setVm v155).heap = T141.heap := e151
  generalize T151.setVm v155 = T155 at X155 st155 e155
  rw [(own_Nabs nx1)] at st155
  have R155 := fun t k => R154 t (st155 t k)
  clear R154 st155 X151 e151
  obtain ⟨_, v156, _, -, X156, ⟨rfl, rfl⟩, st156⟩ := Jvm.LawKit.callS X155 hx (y := (⟨"java/lang/Math", "max", "(DD)D"⟩ : MethodName)) hown (mvT hZ (oW hw 80 rfl)) (mvT hZ (oW hw 81 rfl)) (mvT hZ (oW hw 64 rfl)) (mvT hZ (oW hw 82 rfl)) (by decide) (Jvm.Free.Fl.Abs.maxD_pays (W := 0) mx0 x1 (mvT hZ (oW hw 82 rfl)) (by decide) (by decide)) (g := (mkF m 118 #[oR a1, oR a2, oD mx0, .second, oR bp141, oI 2, oI 1, oD x1, .second] [(.double x1), (.double mx0)])) rfl (by rw [hml]; rfl) (argsL := [(.double mx0), (.double x1)]) (rest := []) (lenOf own_pd8 rfl) rfl oL (hb hby own_d4_118) (fun _ _ => ⟨(by decide : 9 ≤ _), (by decide : 18 ≤ _), rfl, own_NN nm0, own_NN nx1⟩)
  dsimp only [Pt.U, Pt.locs, Pt.cells, Pt.slots] at X156 st156
  have e156 : (T155.setVm v156).heap = T141.heap := e155
  generalize T155.setVm v156 = T156 at X156 st156 e156
  have R156 := fun t k => R155 t (st156 t k)
  clear R155 st156 X155 e155
  obtain ⟨mx1, hmx1⟩ : ∃ z : UInt64, z = (Jvm.Native.java_lang_Math.nans.pick64 true mx0 x1) := ⟨_, rfl⟩
  have R157 : ∀ t, oG p e below T156 m 121 #[oR a1, oR a2, oD mx0, .second, oR bp141, oI 2, oI 1, oD x1, .second] [(.double mx1)] t → Steps p.tables e below AA t := by rw [hmx1]; exact R156
  clear R156
  have nm1 : own_N mx1 := hmx1 ▸ own_pick nm0 nx1
  have R158 : ∀ t, oG p e below T156 m 134 #[oR a1, oR a2, oD mx1, .second, oR bp141, oI 2, oI 2, oD x1, .second] [(.double (FP.dmul (4427486594234968593 : UInt64) mx1)), (.ref a1)] t → Steps p.tables e below AA t := by
    intro t k
    refine R157 t ?_
    refine XS.dstoreN X156.here hx rfl (hb hby own_d4_121) rfl (l' := #[oR a1, oR a2, oD mx1, .second, oR bp141, oI 2, oI 1, oD x1, .second]) rfl ?_
    refine XS.iinc X156.here hx rfl (hb hby own_d4_122) rfl (l' := #[oR a1, oR a2, oD mx1, .second, oR bp141, oI 2, oI 2, oD x1, .second]) rfl ?_
    refine XS.goto X156.here hx rfl (pc0 := 125) (pc' := 98) rfl (hb hby own_d4_125) (by decide) (by decide) ?_
    refine XS.iload X156.here hx rfl (hb hby own_d4_98) rfl ?_
    refine XS.iload X156.here hx rfl (hb hby own_d4_100) rfl ?_
    show oG p e below T156 m 102 #[oR a1, oR a2, oD mx1, .second, oR bp141, oI 2, oI 2, oD x1, .second] [(.int 2), (.int 2)] _
    refine XS.icmpYes X156.here hx rfl (pc0 := 102) (pc' := 128) rfl (hb hby own_d4_102) rfl (flt (by decide : ¬ ((2 : Int32) < (2 : Int32)))).2.1 (by decide) (by decide) ?_
    refine XS.aloadN X156.here hx rfl (hb hby own_d4_128) rfl rfl ?_
    refine X156.ldc2DoubleC hx hown (mvT hZ (oW hw 66 rfl)) (g := (mkF m 129 #[oR a1, oR a2, oD mx1, .second, oR bp141, oI 2, oI 2, oD x1, .second] [(.ref a1)])) rfl (hb hby own_d4_129) _ ?_
    refine XS.dloadN X156.here hx rfl (hb hby own_d4_132) rfl ?_
    refine XS.dmulS X156.here hx rfl (hb hby own_d4_133) rfl (own_NN (own_tol nm1)) rfl ?_
    exact k
  clear R157
  obtain ⟨inf, hinf⟩ : ∃ z : UInt64, z = (FP.dmul (4427486594234968593 : UInt64) mx1) := ⟨_, rfl⟩
  have R159 : ∀ t, oG p e below T156 m 134 #[oR a1, oR a2, oD mx1, .second, oR bp141, oI 2, oI 2, oD x1, .second] [(.double inf), (.ref a1)] t → Steps p.tables e below AA t := by rw [hinf]; exact R158
  clear R158
  have ninf : own_N inf := hinf ▸ own_tol nm1
  obtain ⟨T160, h160, X160, e160, W160, st160⟩ := putF X156 hx hZ hown (host := "") (Or.inl (oW hw 83 rfl)) Via.refl e156 Fc141 f142 (Or.inl (oW hw 84 rfl)) (oW hw 2 rfl) (ty := .double) (by decide) rfl rfl (g := (mkF m 134 #[oR a1, oR a2, oD mx1, .second, oR bp141, oI 2, oI 2, oD x1, .second] [(.double inf), (.ref a1)])) rfl rfl (hb hby own_d4_134)
  have R160 := fun t k => R159 t (st160 t k)
  clear R159 st160 X156 e156
  have Z160 : n0 ≤ h160.size := Nat.le_trans Z141 (Keep.of_wr W160).1
  clear Z141
  have K160 : Keep h0 h160 [a1, po] := K141.wr W160 (Or.inl (by simp))
  clear K141
  have N160 := Fr.snoc X160 N141 g_a1
  clear N141
  have f161 : Exa Z h160 a1 "com/example/trunkwright/trunkwright/traffic/RevisedSimplex" := f142.wr W160
  clear f142
  have f162 : Arv Z h160 po kb .int (16 : Int32) ((pl.set j0.toNatClampNeg (.int 0)).set j1.toNatClampNeg (.int 1)) (.int 0) := f143.other W160 ne_po_a1
  clear f143
  have f163 : oF Z h160 a1 "rows" "I" (.int 2) := Fa141.other W160 (Or.inr (slot_ne (Or.inr (oW hw 25 rfl)) (Or.inl (oW hw 84 rfl)) (by decide) (t := .int) (t' := .double) (by decide) (by decide)))
  have f164 : oF Z h160 a1 "position" "[I" (.ref po) := Fb141.other W160 (Or.inr (slot_ne (Or.inl (oW hw 23 rfl)) (Or.inl (oW hw 84 rfl)) (by decide) (t := (.array .int)) (t' := .double) (by decide) (by decide)))
  have f165 : oF Z h160 a1 "primal" "[D" (.ref bp141) := Fd141.other W160 (Or.inr (slot_ne (Or.inl (oW hw 77 rfl)) (Or.inl (oW hw 84 rfl)) (by decide) (t := (.array .double)) (t' := .double) (by decide) (by decide)))
  have f166 : Arv Z h160 bp141 kp141 .double (2 : Int32) [(.double x0), (.double x1)] (.double 0) := Vc141.other W160 (Ne.symm ne_a1_bp141)
  have Fw160 : oF Z h160 a1 "infeasibility" "D" (.double inf) := Fc141.same W160
  have R167 : ∀ t, oG p e below T160 m 143 #[oR a1, oR a2, oD mx1, .second, oI 0, oI 2, oI 2, oD x1, .second] [(.ref a1), (.int 0)] t → Steps p.tables e below AA t := by
    intro t k
    refine R160 t ?_
    refine XS.iconst X160.here hx rfl (hb hby own_d4_137) ?_
    refine XS.istore X160.here hx rfl (hb hby own_d4_138) rfl (l' := #[oR a1, oR a2, oD mx1, .second, oI 0, oI 2, oI 2, oD x1, .second]) rfl ?_
    refine XS.iload X160.here hx rfl (hb hby own_d4_140) rfl ?_
    refine XS.aloadN X160.here hx rfl (hb hby own_d4_142) rfl rfl ?_
    exact k
  clear R160
  obtain ⟨T168, X168, e168, st168⟩ := getF X160 hx hZ hown (host := "") (Or.inl (oW hw 24 rfl)) Via.refl e160 f163 (g := (mkF m 143 #[oR a1, oR a2, oD mx1, .second, oI 0, oI 2, oI 2, oD x1, .second] [(.ref a1), (.int 0)])) rfl rfl (hb hby own_d4_143)
  have R168 := fun t k => R167 t (st168 t k)
  clear R167 st168 X160 e160
  have R169 : ∀ t, oG p e below T168 m 150 #[oR a1, oR a2, oD mx1, .second, oI 0, oI 2, oI 2, oD x1, .second] [(.ref a1)] t → Steps p.tables e below AA t := by
    intro t k
    refine R168 t ?_
    refine XS.icmpNo X168.here hx rfl (hb hby own_d4_146) rfl (tlt (by decide : ((0 : Int32) < (2 : Int32)))).2.1 ?_
    refine XS.aloadN X168.here hx rfl (hb hby own_d4_149) rfl rfl ?_
    exact k
  clear R168
  obtain ⟨T170, X170, e170, st170⟩ := getF X168 hx hZ hown (host := "") (Or.inl (oW hw 76 rfl)) Via.refl e168 f165 (g := (mkF m 150 #[oR a1, oR a2, oD mx1, .second, oI 0, oI 2, oI 2, oD x1, .second] [(.ref a1)])) rfl rfl (hb hby own_d4_150)
  have R170 := fun t k => R169 t (st170 t k)
  clear R169 st170 X168 e168
  have R171 : ∀ t, oG p e below T170 m 155 #[oR a1, oR a2, oD mx1, .second, oI 0, oI 2, oI 2, oD x1, .second] [(.int 0), (.ref bp141)] t → Steps p.tables e below AA t := by
    intro t k
    refine R170 t ?_
    refine XS.iload X170.here hx rfl (hb hby own_d4_153) rfl ?_
    exact k
  clear R170
  obtain ⟨cl172, Ar172, q172, S172, N172', H172, G172⟩ := id f166
  have hin172_0 : ¬ ((0 : Int32) < 0 ∨ cl172.slots.size ≤ ((0 : Int32)).toNatClampNeg) := inb_of S172 ⟨by decide, by decide⟩
  have hat172_0 : cl172.slots[((0 : Int32)).toNatClampNeg]? = some (.double x0) := H172.at hin172_0 rfl
  have R173 : ∀ t, oG p e below T170 m 157 #[oR a1, oR a2, oD mx1, .second, oI 0, oI 2, oI 2, oD x1, .second] [(.ref a1), (.double x0)] t → Steps p.tables e below AA t := by
    intro t k
    refine R171 t ?_
    refine X170.daload hx (j := (0 : Int32)) (v := (.double x0)) (by rw [e170]; exact Ar172.1) (State.isArrayOf_alike hZ.alike Ar172.2.1) Ar172.2.2 hin172_0 hat172_0 (g := (mkF m 155 #[oR a1, oR a2, oD mx1, .second, oI 0, oI 2, oI 2, oD x1, .second] [(.int 0), (.ref bp141)])) rfl rfl (hb hby own_d4_155) _ ?_
    refine XS.aloadN X170.here hx rfl (hb hby own_d4_156) rfl rfl ?_
    exact k
  clear R171
  obtain ⟨T174, X174, e174, st174⟩ := getF X170 hx hZ hown (host := "") (Or.inl (oW hw 83 rfl)) Via.refl e170 Fw160 (g := (mkF m 157 #[oR a1, oR a2, oD mx1, .second, oI 0, oI 2, oI 2, oD x1, .second] [(.ref a1), (.double x0)])) rfl rfl (hb hby own_d4_157)
  have R174 := fun t k => R173 t (st174 t k)
  clear R173 st174 X170 e170
  have R175 : ∀ t, oG p e below T174 m 143 #[oR a1, oR a2, oD mx1, .second, oI 1, oI 2, oI 2, oD x1, .second] [(.ref a1), (.int 1)] t → Steps p.tables e below AA t := by
    intro t k
    refine R174 t ?_
    refine XS.dnegS X174.here hx rfl (hb hby own_d4_160) rfl rfl ?_
    refine XS.dcmpS X174.here hx rfl (hb hby own_d4_161) rfl rfl ?_
    refine XS.ifYes X174.here hx rfl (pc0 := 162) (pc' := 192) rfl (hb hby own_d4_162) rfl ((if0 _ _).trans (flt (own_nlt nx0 ninf)).2.1) (by decide) (by decide) ?_
    refine XS.iinc X174.here hx rfl (hb hby own_d4_192) rfl (l' := #[oR a1, oR a2, oD mx1, .second, oI 1, oI 2, oI 2, oD x1, .second]) rfl ?_
    refine XS.goto X174.here hx rfl (pc0 := 195) (pc' := 140) rfl (hb hby own_d4_195) (by decide) (by decide) ?_
    show oG p e below T174 m 140 #[oR a1, oR a2, oD mx1, .second, oI 1, oI 2, oI 2, oD x1, .second] [] _
    refine XS.iload X174.here hx rfl (hb hby own_d4_140) rfl ?_
    refine XS.aloadN X174.here hx rfl (hb hby own_d4_142) rfl rfl ?_
    exact k
  clear R174
  obtain ⟨T176, X176, e176, st176⟩ := getF X174 hx hZ hown (host := "") (Or.inl (oW hw 24 rfl)) Via.refl e174 f163 (g := (mkF m 143 #[oR a1, oR a2, oD mx1, .second, oI 1, oI 2, oI 2, oD x1, .second] [(.ref a1), (.int 1)])) rfl rfl (hb hby own_d4_143)
  have R176 := fun t k => R175 t (st176 t k)
  clear R175 st176 X174 e174
  have R177 : ∀ t, oG p e below T176 m 150 #[oR a1, oR a2, oD mx1, .second, oI 1, oI 2, oI 2, oD x1, .second] [(.ref a1)] t → Steps p.tables e below AA t := by
    intro t k
    refine R176 t ?_
    refine XS.icmpNo X176.here hx rfl (hb hby own_d4_146) rfl (tlt (by decide : ((1 : Int32) < (2 : Int32)))).2.1 ?_
    refine XS.aloadN X176.here hx rfl (hb hby own_d4_149) rfl rfl ?_
    exact k
  clear R176
  obtain ⟨T178, X178, e178, st178⟩ := getF X176 hx hZ hown (host := "") (Or.inl (oW hw 76 rfl)) Via.refl e176 f165 (g := (mkF m 150 #[oR a1, oR a2, oD mx1, .second, oI 1, oI 2, oI 2, oD x1, .second] [(.ref a1)])) rfl rfl (hb hby own_d4_150)
  have R178 := fun t k => R177 t (st178 t k)
  clear R177 st178 X176 e176
  have R179 : ∀ t, oG p e below T178 m 155 #[oR a1, oR a2, oD mx1, .second, oI 1, oI 2, oI 2, oD x1, .second] [(.int 1), (.ref bp141)] t → Steps p.tables e below AA t := by
    intro t k
    refine R178 t ?_
    refine XS.iload X178.here hx rfl (hb hby own_d4_153) rfl ?_
    exact k
  clear R178
  have hin172_1 : ¬ ((1 : Int32) < 0 ∨ cl172.slots.size ≤ ((1 : Int32)).toNatClampNeg) := inb_of S172 ⟨by decide, by decide⟩
  have hat172_1 : cl172.slots[((1 : Int32)).toNatClampNeg]? = some (.double x1) := H172.at hin172_1 rfl
  have R180 : ∀ t, oG p e below T178 m 157 #[oR a1, oR a2, oD mx1, .second, oI 1, oI 2, oI 2, oD x1, .second] [(.ref a1), (.double x1)] t → Steps p.tables e below AA t := by
    intro t k
    refine R179 t ?_
    refine X178.daload hx (j := (1 : Int32)) (v := (.double x1)) (by rw [e178]; exact Ar172.1) (State.isArrayOf_alike hZ.alike Ar172.2.1) Ar172.2.2 hin172_1 hat172_1 (g := (mkF m 155 #[oR a1, oR a2, oD mx1, .second, oI 1, oI 2, oI 2, oD x1, .second] [(.int 1), (.ref bp141)])) rfl rfl (hb hby own_d4_155) _ ?_
    refine XS.aloadN X178.here hx rfl (hb hby own_d4_156) rfl rfl ?_
    exact k
  clear R179
  obtain ⟨T181, X181, e181, st181⟩ := getF X178 hx hZ hown (host := "") (Or.inl (oW hw 83 rfl)) Via.refl e178 Fw160 (g := (mkF m 157 #[oR a1, oR a2, oD mx1, .second, oI 1, oI 2, oI 2, oD x1, .second] [(.ref a1), (.double x1)])) rfl rfl (hb hby own_d4_157)
  have R181 := fun t k => R180 t (st181 t k)
  clear R180 st181 X178 e178
  have R182 : ∀ t, oG p e below T181 m 143 #[oR a1, oR a2, oD mx1, .second, oI 2, oI 2, oI 2, oD x1, .second] [(.ref a1), (.int 2)] t → Steps p.tables e below AA t := by
    intro t k
    refine R181 t ?_
    refine XS.dnegS X181.here hx rfl (hb hby own_d4_160) rfl rfl ?_
    refine XS.dcmpS X181.here hx rfl (hb hby own_d4_161) rfl rfl ?_
    refine XS.ifYes X181.here hx rfl (pc0 := 162) (pc' := 192) rfl (hb hby own_d4_162) rfl ((if0 _ _).trans (flt (own_nlt nx1 ninf)).2.1) (by decide) (by decide) ?_
    refine XS.iinc X181.here hx rfl (hb hby own_d4_192) rfl (l' := #[oR a1, oR a2, oD mx1, .second, oI 2, oI 2, oI 2, oD x1, .second]) rfl ?_
    refine XS.goto X181.here hx rfl (pc0 := 195) (pc' := 140) rfl (hb hby own_d4_195) (by decide) (by decide) ?_
    show oG p e below T181 m 140 #[oR a1, oR a2, oD mx1, .second, oI 2, oI 2, oI 2, oD x1, .second] [] _
    refine XS.iload X181.here hx rfl (hb hby own_d4_140) rfl ?_
    refine XS.aloadN X181.here hx rfl (hb hby own_d4_142) rfl rfl ?_
    exact k
  clear R181
  obtain ⟨T183, X183, e183, st183⟩ := getF X181 hx hZ hown (host := "") (Or.inl (oW hw 24 rfl)) Via.refl e181 f163 (g := (mkF m 143 #[oR a1, oR a2, oD mx1, .second, oI 2, oI 2, oI 2, oD x1, .second] [(.ref a1), (.int 2)])) rfl rfl (hb hby own_d4_143)
  have R183 := fun t k => R182 t (st183 t k)
  clear R182 st183 X181 e181
  have R184 : ∀ t, oG p e below T183 m 198 #[oR a1, oR a2, oD mx1, .second, oI 2, oI 2, oI 2, oD x1, .second] [] t → Steps p.tables e below AA t := by
    intro t k
    refine R183 t ?_
    refine XS.icmpYes X183.here hx rfl (pc0 := 146) (pc' := 198) rfl (hb hby own_d4_146) rfl (flt (by decide : ¬ ((2 : Int32) < (2 : Int32)))).2.1 (by decide) (by decide) ?_
    exact k
  clear R183
  subst hAA
  obtain ⟨fs, hr, hrun, hended, hW, hsame⟩ := X183.leave (v := none) (fun _ => rfl)
  refine ⟨_, _, R184 _ ?_, hrun, hended, _, _, rfl, ?_, ⟨_, rfl⟩, hW, hsame.mono (by decide) (by decide)⟩
  · exact X183.returnOut hx Bd.returns (hb hby own_d4_198) hr
  · show Q_rmStD Z a1 a2 po er ev r0 r1 va0 va1 rh ka kb kc kd ke kf kg kh ki j0 j1 ers evs pl u0 u1 d0 d1 x0 x1 h0 n0 _ T183.heap _
    rw [e183]
    exact ⟨rfl, N160, bp141, _, K160, f164, f165, f162, f166⟩
theorem own_ef_rmStA (m : MethodId) (x0 : Addr) (x1 : Addr) : entryFrame m #[(.ref x0), (.ref x1)] 9 = mkF m 0 #[oR x0, oR x1, .unset, .unset, .unset, .unset, .unset, .unset, .unset] [] := by first | (simp [entryFrame, mkF, argsToLocals, Value.category]; done) | rfl
def Q_rmStA (Z : State) (a1 a2 po er ev r0 r1 va0 va1 rh : Addr) (ka kb kc kd ke kf kg kh ki : ClassId) (j0 j1 : Int32) (ers evs pl : List Value) (u0 u1 d0 d1 x0 x1 : UInt64) (h0 : Heap) (n0 : Nat) (v : Option Value) (h : Heap) (L : List Loc) : Prop := v = none ∧ Fr n0 L ∧ ∃ (bp : Addr) (kp : ClassId), Keep h0 h [a1, po] ∧ oF Z h a1 "position" "[I" (.ref po) ∧ oF Z h a1 "primal" "[D" (.ref bp) ∧ Arv Z h po kb .int (16 : Int32) ((pl.set j0.toNatClampNeg (.int 0)).set j1.toNatClampNeg (.int 1)) (.int 0) ∧ Arv Z h bp kp .double (2 : Int32) [(.double x0), (.double x1)] (.double 0)
set_option maxRecDepth 65536 in
set_option maxHeartbeats 40000000 in
theorem rmStA (l : Launch) (Z : State) (a0 : Array Value) (hw : ∀ d ∈ tables_1, d.before a0 Z = true) (ws : List Jvm.Cond) (a1 a2 po er ev r0 r1 va0 va1 rh : Addr) (ka kb kc kd ke kf kg kh ki : ClassId) (j0 j1 : Int32) (ers evs pl : List Value) (u0 u1 d0 d1 x0 x1 : UInt64) (h0 : Heap) (n0 : Nat) (Z0 : n0 ≤ h0.size) (F_a1_rows : oF Z h0 a1 "rows" "I" (.int 2)) (F_a1_entryRows : oF Z h0 a1 "entryRows" "[[I" (.ref er)) (F_a1_entryValues : oF Z h0 a1 "entryValues" "[[D" (.ref ev)) (F_a1_basis : oF Z h0 a1 "basis" "[I" .null) (F_a1_rhs : oF Z h0 a1 "rhs" "[D" (.ref rh)) (F_a1_inverse : oF Z h0 a1 "inverse" "[[D" .null) (F_a1_primal : oF Z h0 a1 "primal" "[D" .null) (F_a1_pivotsSinceRefactor : oF Z h0 a1 "pivotsSinceRefactor" "I" (.int 0)) (F_a1_position : oF Z h0 a1 "position" "[I" (.ref po)) (F_a1_infeasibility : oF Z h0 a1 "infeasibility" "D" (.double 0)) (F_a1_start : oF Z h0 a1 "start" "[I" .null) (E_a1 : Exa Z h0 a1 "com/example/trunkwright/trunkwright/traffic/RevisedSimplex") (V_a2 : Arv Z h0 a2 ka .int (2 : Int32) [(.int j0), (.int j1)] (.int 0)) (E_a2 : Exa Z h0 a2 "[I") (V_po : Arv Z h0 po kb .int (16 : Int32) pl (.int 0)) (V_er : Arv Z h0 er kc (.array .int) (16 : Int32) ers .null) (V_ev : Arv Z h0 ev kd (.array .double) (16 : Int32) evs .null) (V_r0 : Arv Z h0 r0 ke .int (1 : Int32) [(.int 1)] (.int 0)) (V_r1 : Arv Z h0 r1 kf .int (1 : Int32) [(.int 0)] (.int 0)) (V_va0 : Arv Z h0 va0 kg .double (1 : Int32) [(.double u0)] (.double 0)) (V_va1 : Arv Z h0 va1 kh .double (1 : Int32) [(.double u1)] (.double 0)) (V_rh : Arv Z h0 rh ki .double (2 : Int32) [(.double d0), (.double d1)] (.double 0)) (ne_a2_a1 : a2 ≠ a1) (ne_po_a1 : po ≠ a1) (ne_er_a1 : er ≠ a1) (ne_ev_a1 : ev ≠ a1) (ne_r0_a1 : r0 ≠ a1) (ne_r1_a1 : r1 ≠ a1) (ne_va0_a1 : va0 ≠ a1) (ne_va1_a1 : va1 ≠ a1) (ne_rh_a1 : rh ≠ a1) (ne_er_po : er ≠ po) (ne_ev_po : ev ≠ po) (ne_r0_po : r0 ≠ po) (ne_r1_po : r1 ≠ po) (ne_va0_po : va0 ≠ po) (ne_va1_po : va1 ≠ po) (ne_rh_po : rh ≠ po) (g_a1 : n0 ≤ a1) (g_po : n0 ≤ po) (hj0 : ¬ j0 < 0 ∧ j0 < (16 : Int32)) (ur0 : ers.getD j0.toNatClampNeg .null = .ref r0) (uv0 : evs.getD j0.toNatClampNeg .null = .ref va0) (hl0 : j0.toNatClampNeg < pl.length) (su0 : own_S u0) (sd0 : own_P d0) (hx0 : x0 = FP.ddiv d1 u0) (hj1 : ¬ j1 < 0 ∧ j1 < (16 : Int32)) (ur1 : ers.getD j1.toNatClampNeg .null = .ref r1) (uv1 : evs.getD j1.toNatClampNeg .null = .ref va1) (hl1 : j1.toNatClampNeg < (pl.set j0.toNatClampNeg (.int 0)).length) (su1 : own_S u1) (sd1 : own_P d1) (hx1 : x1 = FP.ddiv d0 u1) :
    MetFree l (oN "start" "([I)V") (head1 (Jvm.Cond.code (oN "start" "([I)V") prog_82_method_3_code 9 none :: ws) ({ frames := 2, cells := 9, slots := 18, locals := 43 } : Room)) (fun a U => a = #[(.ref a1), (.ref a2)] ∧ Z.Warmed39 U.vm ∧ U.heap = h0) (fun _ _ _ _ _ => True) (fun _ U o U' => ∃ v L, o = .returned v ∧ Q_rmStA Z a1 a2 po er ev r0 r1 va0 va1 rh ka kb kc kd ke kf kg kh ki j0 j1 ers evs pl u0 u1 d0 d1 x0 x1 h0 n0 v U'.heap L ∧ FrameEnd U o U' L ({ frames := 2, cells := 9, slots := 18, locals := 43 } : Room).cells ({ frames := 2, cells := 9, slots := 18, locals := 43 } : Room).slots) := by
  refine MetFree.of_bodySF (plainFor_of_name own_pn0) hisR ?_
  intro p e s m args below meth c s₁ Bd hml0 hP hK
  obtain ⟨rfl, hZ, hh⟩ := hP
  have hx := Bd.exec
  have hby := Bd.bytes
  have hml : c.maxLocals = 9 := hml0
  have hown : s.vm.findClass "com/example/trunkwright/trunkwright/traffic/RevisedSimplex" = some m.cls := findClass_of_methodNamed Bd.named
  have hnm := (name_of_methodNamed Bd.named Bd.method).1
  have X0 : Stand p l e ({ frames := 2, cells := 9, slots := 18, locals := 43 } : Room) s m #[(.ref a1), (.ref a2)] below meth c s₁ [] 0 0 := Stand.of_body Bd
  have e0 : s₁.heap = h0 := by rw [← hh, Bd.state]; rfl
  have N0 := Fr.nil n0
  have R0 : ∀ t, oG p e below s₁ m 0 #[oR a1, oR a2, .unset, .unset, .unset, .unset, .unset, .unset, .unset] [] t → Steps p.tables e below (s₁.setTop (entryFrame m #[(.ref a1), (.ref a2)] 9)) t := fun t k => castTop (own_ef_rmStA m a1 a2) k
  obtain ⟨AA, hAA⟩ : ∃ z, z = (s₁.setTop (entryFrame m #[(.ref a1), (.ref a2)] 9)) := ⟨_, rfl⟩
  rw [← hAA] at R0
  have R1 : ∀ t, oG p e below s₁ m 1 #[oR a1, oR a2, .unset, .unset, .unset, .unset, .unset, .unset, .unset] [(.ref a2)] t → Steps p.tables e below AA t := by
    intro t k
    refine R0 t ?_
    refine XS.aloadN X0.here hx rfl (hb hby own_d4_0) rfl rfl ?_
    exact k
  obtain ⟨cl2, Ar2, q2, S2, N2', H2, G2⟩ := id V_a2
  have R3 : ∀ t, oG p e below s₁ m 3 #[oR a1, oR a2, .unset, .unset, .unset, .unset, .unset, .unset, .unset] [(.ref a1), (.int 2)] t → Steps p.tables e below AA t := by
    intro t k
    refine R1 t ?_
    refine X0.arraylength hx (by rw [e0]; exact Ar2.1) (State.isArrayOf_alike hZ.alike Ar2.2.1) (g := (mkF m 1 #[oR a1, oR a2, .unset, .unset, .unset, .unset, .unset, .unset, .unset] [(.ref a2)])) rfl rfl (hb hby own_d4_1) _ ?_
    rw [len_of S2 N2']
    refine XS.aloadN X0.here hx rfl (hb hby own_d4_2) rfl rfl ?_
    exact k
  clear R1
  obtain ⟨T4, X4, e4, st4⟩ := getF X0 hx hZ hown (host := "") (Or.inl (oW hw 24 rfl)) Via.refl e0 F_a1_rows (g := (mkF m 3 #[oR a1, oR a2, .unset, .unset, .unset, .unset, .unset, .unset, .unset] [(.ref a1), (.int 2)])) rfl rfl (hb hby own_d4_3)
  have R4 := fun t k => R3 t (st4 t k)
  clear R3 st4
  have R5 : ∀ t, oG p e below T4 m 30 #[oR a1, oR a2, .unset, .unset, .unset, .unset, .unset, .unset, .unset] [(.ref a2), (.ref a1)] t → Steps p.tables e below AA t := by
    intro t k
    refine R4 t ?_
    refine XS.icmpYes X4.here hx rfl (pc0 := 6) (pc' := 28) rfl (hb hby own_d4_6) rfl (teq (by decide : ((2 : Int32) = (2 : Int32)))).1 (by decide) (by decide) ?_
    refine XS.aloadN X4.here hx rfl (hb hby own_d4_28) rfl rfl ?_
    refine XS.aloadN X4.here hx rfl (hb hby own_d4_29) rfl rfl ?_
    exact k
  clear R4
  obtain ⟨T6, h6, X6, e6, E6, A6, B6, st6⟩ := cloneH X4 hx hZ (ad := "[I") hown (oW hw 43 rfl) (oW hw 44 rfl) (oW hw 31 rfl) (oW hw 29 rfl) (oW hw 45 rfl) (oW hw 46 rfl) e4 (Arv.arh V_a2) E_a2 (g := (mkF m 30 #[oR a1, oR a2, .unset, .unset, .unset, .unset, .unset, .unset, .unset] [(.ref a2), (.ref a1)])) rfl (by rw [hml]; rfl) rfl (hb hby own_d4_30) (by decide) (W := 1) (cap := 2) oL (by decide) (by decide) (by decide) (by decide)
  obtain ⟨b6, g6⟩ : ∃ z, z = h0.size := ⟨_, rfl⟩
  rw [← g6] at A6 B6 st6
  have R6 := fun t k => R5 t (st6 t k)
  clear R5 st6 X4 e4
  have ne_a1_b6 : a1 ≠ b6 := Nat.ne_of_lt (Nat.lt_of_lt_of_le F_a1_rows.lt (Nat.le_of_eq g6.symm))
  have ne_a2_b6 : a2 ≠ b6 := Nat.ne_of_lt (Nat.lt_of_lt_of_le V_a2.lt (Nat.le_of_eq g6.symm))
  have ne_po_b6 : po ≠ b6 := Nat.ne_of_lt (Nat.lt_of_lt_of_le V_po.lt (Nat.le_of_eq g6.symm))
  have g_b6 : n0 ≤ b6 := Nat.le_trans Z0 (Nat.le_of_eq g6.symm)
  have sz_b6 : h0.size ≤ b6 := Nat.le_trans (Keep.refl h0 [a1, po]).1 (Nat.le_of_eq g6.symm)
  have Z6 : n0 ≤ h6.size := Nat.le_trans Z0 E6.1
  have K6 : Keep h0 h6 [a1, po] := (Keep.refl h0 [a1, po]).ext E6
  have f7 : oF Z h6 a1 "rows" "I" (.int 2) := F_a1_rows.ext E6
  have f8 : oF Z h6 a1 "entryRows" "[[I" (.ref er) := F_a1_entryRows.ext E6
  have f9 : oF Z h6 a1 "entryValues" "[[D" (.ref ev) := F_a1_entryValues.ext E6
  have f10 : oF Z h6 a1 "basis" "[I" .null := F_a1_basis.ext E6
  have f11 : oF Z h6 a1 "rhs" "[D" (.ref rh) := F_a1_rhs.ext E6
  have f12 : oF Z h6 a1 "inverse" "[[D" .null := F_a1_inverse.ext E6
  have f13 : oF Z h6 a1 "primal" "[D" .null := F_a1_primal.ext E6
  have f14 : oF Z h6 a1 "pivotsSinceRefactor" "I" (.int 0) := F_a1_pivotsSinceRefactor.ext E6
  have f15 : oF Z h6 a1 "position" "[I" (.ref po) := F_a1_position.ext E6
  have f16 : oF Z h6 a1 "infeasibility" "D" (.double 0) := F_a1_infeasibility.ext E6
  have f17 : oF Z h6 a1 "start" "[I" .null := F_a1_start.ext E6
  have f18 : Exa Z h6 a1 "com/example/trunkwright/trunkwright/traffic/RevisedSimplex" := E_a1.ext E6
  have f19 : Arv Z h6 a2 ka .int (2 : Int32) [(.int j0), (.int j1)] (.int 0) := V_a2.ext E6
  have f20 : Exa Z h6 a2 "[I" := E_a2.ext E6
  have f21 : Arv Z h6 po kb .int (16 : Int32) pl (.int 0) := V_po.ext E6
  clear E6
  have V6 : Arv Z h6 b6 ka .int (2 : Int32) [(.int j0), (.int j1)] (.int 0) := A6
  obtain ⟨T22, X22, e22, st22⟩ := castY X6 hx hZ hown (oW hw 13 rfl) e6 (Ins.self B6) (g := (mkF m 33 #[oR a1, oR a2, .unset, .unset, .unset, .unset, .unset, .unset, .unset] [(.ref b6), (.ref a1)])) rfl rfl (hb hby own_d4_33)
  have R22 := fun t k => R6 t (st22 t k)
  clear R6 st22 X6 e6
  obtain ⟨T23, h23, X23, e23, W23, st23⟩ := putF X22 hx hZ hown (host := "") (Or.inl (oW hw 53 rfl)) Via.refl e22 f10 f18 (Or.inl (oW hw 54 rfl)) (oW hw 2 rfl) (ty := (.array .int)) (by decide) rfl rfl (g := (mkF m 36 #[oR a1, oR a2, .unset, .unset, .unset, .unset, .unset, .unset, .unset] [(.ref b6), (.ref a1)])) rfl rfl (hb hby own_d4_36)
  have R23 := fun t k => R22 t (st23 t k)
  clear R22 st23 X22 e22
  have Z23 : n0 ≤ h23.size := Nat.le_trans Z6 (Keep.of_wr W23).1
  clear Z6
  have K23 : Keep h0 h23 [a1, po] := K6.wr W23 (Or.inl (by simp))
  clear K6
  have N23 := Fr.snoc X23 N0 g_a1
  have f24 : oF Z h23 a1 "rows" "I" (.int 2) := f7.other W23 (Or.inr (slot_ne (Or.inr (oW hw 25 rfl)) (Or.inl (oW hw 54 rfl)) (by decide) (t := .int) (t' := (.array .int)) (by decide) (by decide)))
  clear f7
  have f25 : oF Z h23 a1 "entryRows" "[[I" (.ref er) := f8.other W23 (Or.inr (slot_ne (Or.inl (oW hw 16 rfl)) (Or.inl (oW hw 54 rfl)) (by decide) (t := (.array (.array .int))) (t' := (.array .int)) (by decide) (by decide)))
  clear f8
  have f26 : oF Z h23 a1 "entryValues" "[[D" (.ref ev) := f9.other W23 (Or.inr (slot_ne (Or.inl (oW hw 20 rfl)) (Or.inl (oW hw 54 rfl)) (by decide) (t := (.array (.array .double))) (t' := (.array .int)) (by decide) (by decide)))
  clear f9
  have f27 : oF Z h23 a1 "rhs" "[D" (.ref rh) := f11.other W23 (Or.inr (slot_ne (Or.inr (oW hw 35 rfl)) (Or.inl (oW hw 54 rfl)) (by decide) (t := (.array .double)) (t' := (.array .int)) (by decide) (by decide)))
  clear f11
  have f28 : oF Z h23 a1 "inverse" "[[D" .null := f12.other W23 (Or.inr (slot_ne (Or.inl (oW hw 75 rfl)) (Or.inl (oW hw 54 rfl)) (by decide) (t := (.array (.array .double))) (t' := (.array .int)) (by decide) (by decide)))
  clear f12
  have f29 : oF Z h23 a1 "primal" "[D" .null := f13.other W23 (Or.inr (slot_ne (Or.inl (oW hw 77 rfl)) (Or.inl (oW hw 54 rfl)) (by decide) (t := (.array .double)) (t' := (.array .int)) (by decide) (by decide)))
  clear f13
  have f30 : oF Z h23 a1 "pivotsSinceRefactor" "I" (.int 0) := f14.other W23 (Or.inr (slot_ne (Or.inl (oW hw 79 rfl)) (Or.inl (oW hw 54 rfl)) (by decide) (t := .int) (t' := (.array .int)) (by decide) (by decide)))
  clear f14
  have f31 : oF Z h23 a1 "position" "[I" (.ref po) := f15.other W23 (Or.inr (slot_ne (Or.inl (oW hw 23 rfl)) (Or.inl (oW hw 54 rfl)) (by decide) (t := (.array .int)) (t' := (.array .int)) (by decide) (by decide)))
  clear f15
  have f32 : oF Z h23 a1 "infeasibility" "D" (.double 0) := f16.other W23 (Or.inr (slot_ne (Or.inl (oW hw 84 rfl)) (Or.inl (oW hw 54 rfl)) (by decide) (t := .double) (t' := (.array .int)) (by decide) (by decide)))
  clear f16
  have f33 : oF Z h23 a1 "start" "[I" .null := f17.other W23 (Or.inr (slot_ne (Or.inl (oW hw 56 rfl)) (Or.inl (oW hw 54 rfl)) (by decide) (t := (.array .int)) (t' := (.array .int)) (by decide) (by decide)))
  clear f17
  have f34 : Exa Z h23 a1 "com/example/trunkwright/trunkwright/traffic/RevisedSimplex" := f18.wr W23
  clear f18
  have f35 : Arv Z h23 a2 ka .int (2 : Int32) [(.int j0), (.int j1)] (.int 0) := f19.other W23 ne_a2_a1
  clear f19
  have f36 : Exa Z h23 a2 "[I" := f20.wr W23
  clear f20
  have f37 : Arv Z h23 po kb .int (16 : Int32) pl (.int 0) := f21.other W23 ne_po_a1
  clear f21
  have f38 : Exa Z h23 b6 "[I" := B6.wr W23
  have f39 : Arv Z h23 b6 ka .int (2 : Int32) [(.int j0), (.int j1)] (.int 0) := V6.other W23 (Ne.symm ne_a1_b6)
  clear V6
  have Fw23 : oF Z h23 a1 "basis" "[I" (.ref b6) := f10.same W23
  have R40 : ∀ t, oG p e below T23 m 41 #[oR a1, oR a2, .unset, .unset, .unset, .unset, .unset, .unset, .unset] [(.ref a2), (.ref a1)] t → Steps p.tables e below AA t := by
    intro t k
    refine R23 t ?_
    refine XS.aloadN X23.here hx rfl (hb hby own_d4_39) rfl rfl ?_
    refine XS.aloadN X23.here hx rfl (hb hby own_d4_40) rfl rfl ?_
    exact k
  clear R23
  obtain ⟨T41, h41, X41, e41, E41, A41, B41, st41⟩ := cloneH X23 hx hZ (ad := "[I") hown (oW hw 43 rfl) (oW hw 44 rfl) (oW hw 31 rfl) (oW hw 29 rfl) (oW hw 45 rfl) (oW hw 46 rfl) e23 (Arv.arh f35) f36 (g := (mkF m 41 #[oR a1, oR a2, .unset, .unset, .unset, .unset, .unset, .unset, .unset] [(.ref a2), (.ref a1)])) rfl (by rw [hml]; rfl) rfl (hb hby own_d4_41) (by decide) (W := 1) (cap := 2) oL (by decide) (by decide) (by decide) (by decide)
  obtain ⟨b41, g41⟩ : ∃ z, z = h23.size := ⟨_, rfl⟩
  rw [← g41] at A41 B41 st41
  have R41 := fun t k => R40 t (st41 t k)
  clear R40 st41 X23 e23
  have ne_a1_b41 : a1 ≠ b41 := Nat.ne_of_lt (Nat.lt_of_lt_of_le f24.lt (Nat.le_of_eq g41.symm))
  have ne_a2_b41 : a2 ≠ b41 := Nat.ne_of_lt (Nat.lt_of_lt_of_le f35.lt (Nat.le_of_eq g41.symm))
  have ne_b6_b41 : b6 ≠ b41 := Nat.ne_of_lt (Nat.lt_of_lt_of_le f38.lt (Nat.le_of_eq g41.symm))
  have ne_po_b41 : po ≠ b41 := Nat.ne_of_lt (Nat.lt_of_lt_of_le f37.lt (Nat.le_of_eq g41.symm))
  have g_b41 : n0 ≤ b41 := Nat.le_trans Z23 (Nat.le_of_eq g41.symm)
  have sz_b41 : h0.size ≤ b41 := Nat.le_trans K23.1 (Nat.le_of_eq g41.symm)
  have Z41 : n0 ≤ h41.size := Nat.le_trans Z23 E41.1
  clear Z23
  have K41 : Keep h0 h41 [a1, po] := K23.ext E41
  clear K23
  have f42 : oF Z h41 a1 "rows" "I" (.int 2) := f24.ext E41
  clear f24
  have f43 : oF Z h41 a1 "entryRows" "[[I" (.ref er) := f25.ext E41
  clear f25
  have f44 : oF Z h41 a1 "entryValues" "[[D" (.ref ev) := f26.ext E41
  clear f26
  have f45 : oF Z h41 a1 "rhs" "[D" (.ref rh) := f27.ext E41
  clear f27
  have f46 : oF Z h41 a1 "inverse" "[[D" .null := f28.ext E41
  clear f28
  have f47 : oF Z h41 a1 "primal" "[D" .null := f29.ext E41
  clear f29
  have f48 : oF Z h41 a1 "pivotsSinceRefactor" "I" (.int 0) := f30.ext E41
  clear f30
  have f49 : oF Z h41 a1 "position" "[I" (.ref po) := f31.ext E41
  clear f31
  have f50 : oF Z h41 a1 "infeasibility" "D" (.double 0) := f32.ext E41
  clear f32
  have f51 : oF Z h41 a1 "start" "[I" .null := f33.ext E41
  clear f33
  have f52 : Exa Z h41 a1 "com/example/trunkwright/trunkwright/traffic/RevisedSimplex" := f34.ext E41
  clear f34
  have f53 : Arv Z h41 a2 ka .int (2 : Int32) [(.int j0), (.int j1)] (.int 0) := f35.ext E41
  clear f35
  have f54 : Exa Z h41 a2 "[I" := f36.ext E41
  clear f36
  have f55 : Arv Z h41 po kb .int (16 : Int32) pl (.int 0) := f37.ext E41
  clear f37
  have f56 : Exa Z h41 b6 "[I" := f38.ext E41
  clear f38
  have f57 : Arv Z h41 b6 ka .int (2 : Int32) [(.int j0), (.int j1)] (.int 0) := f39.ext E41
  clear f39
  have f58 : oF Z h41 a1 "basis" "[I" (.ref b6) := Fw23.ext E41
  clear Fw23
  clear E41
  have V41 : Arv Z h41 b41 ka .int (2 : Int32) [(.int j0), (.int j1)] (.int 0) := A41
  obtain ⟨T59, X59, e59, st59⟩ := castY X41 hx hZ hown (oW hw 13 rfl) e41 (Ins.self B41) (g := (mkF m 44 #[oR a1, oR a2, .unset, .unset, .unset, .unset, .unset, .unset, .unset] [(.ref b41), (.ref a1)])) rfl rfl (hb hby own_d4_44)
  have R59 := fun t k => R41 t (st59 t k)
  clear R41 st59 X41 e41
  obtain ⟨T60, h60, X60, e60, W60, st60⟩ := putF X59 hx hZ hown (host := "") (Or.inl (oW hw 55 rfl)) Via.refl e59 f51 f52 (Or.inl (oW hw 56 rfl)) (oW hw 2 rfl) (ty := (.array .int)) (by decide) rfl rfl (g := (mkF m 47 #[oR a1, oR a2, .unset, .unset, .unset, .unset, .unset, .unset, .unset] [(.ref b41), (.ref a1)])) rfl rfl (hb hby own_d4_47)
  have R60 := fun t k => R59 t (st60 t k)
  clear R59 st60 X59 e59
  have Z60 : n0 ≤ h60.size := Nat.le_trans Z41 (Keep.of_wr W60).1
  clear Z41
  have K60 : Keep h0 h60 [a1, po] := K41.wr W60 (Or.inl (by simp))
  clear K41
  have N60 := Fr.snoc X60 N23 g_a1
  clear N23
  have f61 : oF Z h60 a1 "rows" "I" (.int 2) := f42.other W60 (Or.inr (slot_ne (Or.inr (oW hw 25 rfl)) (Or.inl (oW hw 56 rfl)) (by decide) (t := .int) (t' := (.array .int)) (by decide) (by decide)))
  clear f42
  have f62 : oF Z h60 a1 "entryRows" "[[I" (.ref er) := f43.other W60 (Or.inr (slot_ne (Or.inl (oW hw 16 rfl)) (Or.inl (oW hw 56 rfl)) (by decide) (t := (.array (.array .int))) (t' := (.array .int)) (by decide) (by decide)))
  clear f43
  have f63 : oF Z h60 a1 "entryValues" "[[D" (.ref ev) := f44.other W60 (Or.inr (slot_ne (Or.inl (oW hw 20 rfl)) (Or.inl (oW hw 56 rfl)) (by decide) (t := (.array (.array .double))) (t' := (.array .int)) (by decide) (by decide)))
  clear f44
  have f64 : oF Z h60 a1 "rhs" "[D" (.ref rh) := f45.other W60 (Or.inr (slot_ne (Or.inr (oW hw 35 rfl)) (Or.inl (oW hw 56 rfl)) (by decide) (t := (.array .double)) (t' := (.array .int)) (by decide) (by decide)))
  clear f45
  have f65 : oF Z h60 a1 "inverse" "[[D" .null := f46.other W60 (Or.inr (slot_ne (Or.inl (oW hw 75 rfl)) (Or.inl (oW hw 56 rfl)) (by decide) (t := (.array (.array .double))) (t' := (.array .int)) (by decide) (by decide)))
  clear f46
  have f66 : oF Z h60 a1 "primal" "[D" .null := f47.other W60 (Or.inr (slot_ne (Or.inl (oW hw 77 rfl)) (Or.inl (oW hw 56 rfl)) (by decide) (t := (.array .double)) (t' := (.array .int)) (by decide) (by decide)))
  clear f47
  have f67 : oF Z h60 a1 "pivotsSinceRefactor" "I" (.int 0) := f48.other W60 (Or.inr (slot_ne (Or.inl (oW hw 79 rfl)) (Or.inl (oW hw 56 rfl)) (by decide) (t := .int) (t' := (.array .int)) (by decide) (by decide)))
  clear f48
  have f68 : oF Z h60 a1 "position" "[I" (.ref po) := f49.other W60 (Or.inr (slot_ne (Or.inl (oW hw 23 rfl)) (Or.inl (oW hw 56 rfl)) (by decide) (t := (.array .int)) (t' := (.array .int)) (by decide) (by decide)))
  clear f49
  have f69 : oF Z h60 a1 "infeasibility" "D" (.double 0) := f50.other W60 (Or.inr (slot_ne (Or.inl (oW hw 84 rfl)) (Or.inl (oW hw 56 rfl)) (by decide) (t := .double) (t' := (.array .int)) (by decide) (by decide)))
  clear f50
  have f70 : Exa Z h60 a1 "com/example/trunkwright/trunkwright/traffic/RevisedSimplex" := f52.wr W60
  clear f52
  have f71 : Arv Z h60 po kb .int (16 : Int32) pl (.int 0) := f55.other W60 ne_po_a1
  clear f55
  have f72 : Exa Z h60 b6 "[I" := f56.wr W60
  clear f56
  have f73 : Arv Z h60 b6 ka .int (2 : Int32) [(.int j0), (.int j1)] (.int 0) := f57.other W60 (Ne.symm ne_a1_b6)
  clear f57
  have f74 : oF Z h60 a1 "basis" "[I" (.ref b6) := f58.other W60 (Or.inr (slot_ne (Or.inl (oW hw 54 rfl)) (Or.inl (oW hw 56 rfl)) (by decide) (t := (.array .int)) (t' := (.array .int)) (by decide) (by decide)))
  clear f58
  have f75 : Exa Z h60 b41 "[I" := B41.wr W60
  have f76 : Arv Z h60 b41 ka .int (2 : Int32) [(.int j0), (.int j1)] (.int 0) := V41.other W60 (Ne.symm ne_a1_b41)
  clear V41
  have Fw60 : oF Z h60 a1 "start" "[I" (.ref b41) := f51.same W60
  have R77 : ∀ t, oG p e below T60 m 54 #[oR a1, oR a2, oI 0, .unset, .unset, .unset, .unset, .unset, .unset] [(.ref a1), (.int 0)] t → Steps p.tables e below AA t := by
    intro t k
    refine R60 t ?_
    refine XS.iconst X60.here hx rfl (hb hby own_d4_50) ?_
    refine XS.istoreN X60.here hx rfl (hb hby own_d4_51) rfl (l' := #[oR a1, oR a2, oI 0, .unset, .unset, .unset, .unset, .unset, .unset]) rfl ?_
    refine XS.iloadN X60.here hx rfl (hb hby own_d4_52) rfl ?_
    refine XS.aloadN X60.here hx rfl (hb hby own_d4_53) rfl rfl ?_
    exact k
  clear R60
  obtain ⟨T78, X78, e78, st78⟩ := getF X60 hx hZ hown (host := "") (Or.inl (oW hw 24 rfl)) Via.refl e60 f61 (g := (mkF m 54 #[oR a1, oR a2, oI 0, .unset, .unset, .unset, .unset, .unset, .unset] [(.ref a1), (.int 0)])) rfl rfl (hb hby own_d4_54)
  have R78 := fun t k => R77 t (st78 t k)
  clear R77 st78 X60 e60
  have R79 : ∀ t, oG p e below T78 m 61 #[oR a1, oR a2, oI 0, .unset, .unset, .unset, .unset, .unset, .unset] [(.ref a1)] t → Steps p.tables e below AA t := by
    intro t k
    refine R78 t ?_
    refine XS.icmpNo X78.here hx rfl (hb hby own_d4_57) rfl (tlt (by decide : ((0 : Int32) < (2 : Int32)))).2.1 ?_
    refine XS.aloadN X78.here hx rfl (hb hby own_d4_60) rfl rfl ?_
    exact k
  clear R78
  obtain ⟨T80, X80, e80, st80⟩ := getF X78 hx hZ hown (host := "") (Or.inl (oW hw 22 rfl)) Via.refl e78 f68 (g := (mkF m 61 #[oR a1, oR a2, oI 0, .unset, .unset, .unset, .unset, .unset, .unset] [(.ref a1)])) rfl rfl (hb hby own_d4_61)
  have R80 := fun t k => R79 t (st80 t k)
  clear R79 st80 X78 e78
  have R81 : ∀ t, oG p e below T80 m 65 #[oR a1, oR a2, oI 0, .unset, .unset, .unset, .unset, .unset, .unset] [(.ref a1), (.ref po)] t → Steps p.tables e below AA t := by
    intro t k
    refine R80 t ?_
    refine XS.aloadN X80.here hx rfl (hb hby own_d4_64) rfl rfl ?_
    exact k
  clear R80
  obtain ⟨T82, X82, e82, st82⟩ := getF X80 hx hZ hown (host := "") (Or.inl (oW hw 53 rfl)) Via.refl e80 f74 (g := (mkF m 65 #[oR a1, oR a2, oI 0, .unset, .unset, .unset, .unset, .unset, .unset] [(.ref a1), (.ref po)])) rfl rfl (hb hby own_d4_65)
  have R82 := fun t k => R81 t (st82 t k)
  clear R81 st82 X80 e80
  have R83 : ∀ t, oG p e below T82 m 69 #[oR a1, oR a2, oI 0, .unset, .unset, .unset, .unset, .unset, .unset] [(.int 0), (.ref b6), (.ref po)] t → Steps p.tables e below AA t := by
    intro t k
    refine R82 t ?_
    refine XS.iloadN X82.here hx rfl (hb hby own_d4_68) rfl ?_
    exact k
  clear R82
  obtain ⟨cl84, Ar84, q84, S84, N84', H84, G84⟩ := id f73
  have hin84_0 : ¬ ((0 : Int32) < 0 ∨ cl84.slots.size ≤ ((0 : Int32)).toNatClampNeg) := inb_of S84 ⟨by decide, by decide⟩
  have hat84_0 : cl84.slots[((0 : Int32)).toNatClampNeg]? = some (.int j0) := H84.at hin84_0 rfl
  have R85 : ∀ t, oG p e below T82 m 71 #[oR a1, oR a2, oI 0, .unset, .unset, .unset, .unset, .unset, .unset] [(.int 0), (.int j0), (.ref po)] t → Steps p.tables e below AA t := by
    intro t k
    refine R83 t ?_
    refine X82.iaload hx (j := (0 : Int32)) (v := (.int j0)) (by rw [e82]; exact Ar84.1) (State.isArrayOf_alike hZ.alike Ar84.2.1) Ar84.2.2 hin84_0 hat84_0 (g := (mkF m 69 #[oR a1, oR a2, oI 0, .unset, .unset, .unset, .unset, .unset, .unset] [(.int 0), (.ref b6), (.ref po)])) rfl rfl (hb hby own_d4_69) _ ?_
    refine XS.iloadN X82.here hx rfl (hb hby own_d4_70) rfl ?_
    exact k
  clear R83
  obtain ⟨cl86, Ar86, q86, S86, N86', H86, G86⟩ := id f71
  have hin86 : ¬ (j0 < 0 ∨ cl86.slots.size ≤ (j0).toNatClampNeg) := inb_of S86 hj0
  obtain ⟨T87, h87, X87, e87, W87, st87⟩ := stI X82 hx hZ e82 Ar86 (j := j0) hin86 (g := (mkF m 71 #[oR a1, oR a2, oI 0, .unset, .unset, .unset, .unset, .unset, .unset] [(.int 0), (.int j0), (.ref po)])) rfl rfl (hb hby own_d4_71)
  have R87 := fun t k => R85 t (st87 t k)
  clear R85 st87 X82 e82
  have Z87 : n0 ≤ h87.size := Nat.le_trans Z60 (Keep.of_wr W87).1
  clear Z60
  have K87 : Keep h0 h87 [a1, po] := K60.wr W87 (Or.inl (by simp))
  have N87 := Fr.snoc X87 N60 g_po
  clear K60
  clear N60
  have f88 : oF Z h87 a1 "rows" "I" (.int 2) := f61.other W87 (Or.inl (Ne.symm ne_po_a1))
  clear f61
  have f89 : oF Z h87 a1 "entryRows" "[[I" (.ref er) := f62.other W87 (Or.inl (Ne.symm ne_po_a1))
  clear f62
  have f90 : oF Z h87 a1 "entryValues" "[[D" (.ref ev) := f63.other W87 (Or.inl (Ne.symm ne_po_a1))
  clear f63
  have f91 : oF Z h87 a1 "rhs" "[D" (.ref rh) := f64.other W87 (Or.inl (Ne.symm ne_po_a1))
  clear f64
  have f92 : oF Z h87 a1 "inverse" "[[D" .null := f65.other W87 (Or.inl (Ne.symm ne_po_a1))
  clear f65
  have f93 : oF Z h87 a1 "primal" "[D" .null := f66.other W87 (Or.inl (Ne.symm ne_po_a1))
  clear f66
  have f94 : oF Z h87 a1 "pivotsSinceRefactor" "I" (.int 0) := f67.other W87 (Or.inl (Ne.symm ne_po_a1))
  clear f67
  have f95 : oF Z h87 a1 "position" "[I" (.ref po) := f68.other W87 (Or.inl (Ne.symm ne_po_a1))
  clear f68
  have f96 : oF Z h87 a1 "infeasibility" "D" (.double 0) := f69.other W87 (Or.inl (Ne.symm ne_po_a1))
  clear f69
  have f97 : Exa Z h87 a1 "com/example/trunkwright/trunkwright/traffic/RevisedSimplex" := f70.wr W87
  clear f70
  have f98 : Exa Z h87 b6 "[I" := f72.wr W87
  clear f72
  have f99 : Arv Z h87 b6 ka .int (2 : Int32) [(.int j0), (.int j1)] (.int 0) := f73.other W87 (Ne.symm ne_po_b6)
  clear f73
  have f100 : oF Z h87 a1 "basis" "[I" (.ref b6) := f74.other W87 (Or.inl (Ne.symm ne_po_a1))
  clear f74
  have f101 : Exa Z h87 b41 "[I" := f75.wr W87
  clear f75
  have f102 : Arv Z h87 b41 ka .int (2 : Int32) [(.int j0), (.int j1)] (.int 0) := f76.other W87 (Ne.symm ne_po_b41)
  clear f76
  have f103 : oF Z h87 a1 "start" "[I" (.ref b41) := Fw60.other W87 (Or.inl (Ne.symm ne_po_a1))
  clear Fw60
  have V87 : Arv Z h87 po kb .int (16 : Int32) (pl.set j0.toNatClampNeg (.int 0)) (.int 0) := Arv.set Ar86 q86 S86 N86' H86 G86 rfl W87 j0.toNatClampNeg rfl hl0
  clear Ar86 q86 S86 N86' H86 G86 hin86 W87 f71
  have R104 : ∀ t, oG p e below T87 m 54 #[oR a1, oR a2, oI 1, .unset, .unset, .unset, .unset, .unset, .unset] [(.ref a1), (.int 1)] t → Steps p.tables e below AA t := by
    intro t k
    refine R87 t ?_
    refine XS.iinc X87.here hx rfl (hb hby own_d4_72) rfl (l' := #[oR a1, oR a2, oI 1, .unset, .unset, .unset, .unset, .unset, .unset]) rfl ?_
    refine XS.goto X87.here hx rfl (pc0 := 75) (pc' := 52) rfl (hb hby own_d4_75) (by decide) (by decide) ?_
    refine XS.iloadN X87.here hx rfl (hb hby own_d4_52) rfl ?_
    refine XS.aloadN X87.here hx rfl (hb hby own_d4_53) rfl rfl ?_
    exact k
  clear R87
  obtain ⟨T105, X105, e105, st105⟩ := getF X87 hx hZ hown (host := "") (Or.inl (oW hw 24 rfl)) Via.refl e87 f88 (g := (mkF m 54 #[oR a1, oR a2, oI 1, .unset, .unset, .unset, .unset, .unset, .unset] [(.ref a1), (.int 1)])) rfl rfl (hb hby own_d4_54)
  have R105 := fun t k => R104 t (st105 t k)
  clear R104 st105 X87 e87
  have R106 : ∀ t, oG p e below T105 m 61 #[oR a1, oR a2, oI 1, .unset, .unset, .unset, .unset, .unset, .unset] [(.ref a1)] t → Steps p.tables e below AA t := by
    intro t k
    refine R105 t ?_
    refine XS.icmpNo X105.here hx rfl (hb hby own_d4_57) rfl (tlt (by decide : ((1 : Int32) < (2 : Int32)))).2.1 ?_
    refine XS.aloadN X105.here hx rfl (hb hby own_d4_60) rfl rfl ?_
    exact k
  clear R105
  obtain ⟨T107, X107, e107, st107⟩ := getF X105 hx hZ hown (host := "") (Or.inl (oW hw 22 rfl)) Via.refl e105 f95 (g := (mkF m 61 #[oR a1, oR a2, oI 1, .unset, .unset, .unset, .unset, .unset, .unset] [(.ref a1)])) rfl rfl (hb hby own_d4_61)
  have R107 := fun t k => R106 t (st107 t k)
  clear R106 st107 X105 e105
  have R108 : ∀ t, oG p e below T107 m 65 #[oR a1, oR a2, oI 1, .unset, .unset, .unset, .unset, .unset, .unset] [(.ref a1), (.ref po)] t → Steps p.tables e below AA t := by
    intro t k
    refine R107 t ?_
    refine XS.aloadN X107.here hx rfl (hb hby own_d4_64) rfl rfl ?_
    exact k
  clear R107
  obtain ⟨T109, X109, e109, st109⟩ := getF X107 hx hZ hown (host := "") (Or.inl (oW hw 53 rfl)) Via.refl e107 f100 (g := (mkF m 65 #[oR a1, oR a2, oI 1, .unset, .unset, .unset, .unset, .unset, .unset] [(.ref a1), (.ref po)])) rfl rfl (hb hby own_d4_65)
  have R109 := fun t k => R108 t (st109 t k)
  clear R108 st109 X107 e107
  have R110 : ∀ t, oG p e below T109 m 69 #[oR a1, oR a2, oI 1, .unset, .unset, .unset, .unset, .unset, .unset] [(.int 1), (.ref b6), (.ref po)] t → Steps p.tables e below AA t := by
    intro t k
    refine R109 t ?_
    refine XS.iloadN X109.here hx rfl (hb hby own_d4_68) rfl ?_
    exact k
  clear R109
  obtain ⟨cl111, Ar111, q111, S111, N111', H111, G111⟩ := id f99
  have hin111_1 : ¬ ((1 : Int32) < 0 ∨ cl111.slots.size ≤ ((1 : Int32)).toNatClampNeg) := inb_of S111 ⟨by decide, by decide⟩
  have hat111_1 : cl111.slots[((1 : Int32)).toNatClampNeg]? = some (.int j1) := H111.at hin111_1 rfl
  have R112 : ∀ t, oG p e below T109 m 71 #[oR a1, oR a2, oI 1, .unset, .unset, .unset, .unset, .unset, .unset] [(.int 1), (.int j1), (.ref po)] t → Steps p.tables e below AA t := by
    intro t k
    refine R110 t ?_
    refine X109.iaload hx (j := (1 : Int32)) (v := (.int j1)) (by rw [e109]; exact Ar111.1) (State.isArrayOf_alike hZ.alike Ar111.2.1) Ar111.2.2 hin111_1 hat111_1 (g := (mkF m 69 #[oR a1, oR a2, oI 1, .unset, .unset, .unset, .unset, .unset, .unset] [(.int 1), (.ref b6), (.ref po)])) rfl rfl (hb hby own_d4_69) _ ?_
    refine XS.iloadN X109.here hx rfl (hb hby own_d4_70) rfl ?_
    exact k
  clear R110
  obtain ⟨cl113, Ar113, q113, S113, N113', H113, G113⟩ := id V87
  have hin113 : ¬ (j1 < 0 ∨ cl113.slots.size ≤ (j1).toNatClampNeg) := inb_of S113 hj1
  obtain ⟨T114, h114, X114, e114, W114, st114⟩ := stI X109 hx hZ e109 Ar113 (j := j1) hin113 (g := (mkF m 71 #[oR a1, oR a2, oI 1, .unset, .unset, .unset, .unset, .unset, .unset] [(.int 1), (.int j1), (.ref po)])) rfl rfl (hb hby own_d4_71)
  have R114 := fun t k => R112 t (st114 t k)
  clear R112 st114 X109 e109
  have Z114 : n0 ≤ h114.size := Nat.le_trans Z87 (Keep.of_wr W114).1
  clear Z87
  have K114 : Keep h0 h114 [a1, po] := K87.wr W114 (Or.inl (by simp))
  have N114 := Fr.snoc X114 N87 g_po
  clear K87
  clear N87
  have f115 : oF Z h114 a1 "rows" "I" (.int 2) := f88.other W114 (Or.inl (Ne.symm ne_po_a1))
  clear f88
  have f116 : oF Z h114 a1 "entryRows" "[[I" (.ref er) := f89.other W114 (Or.inl (Ne.symm ne_po_a1))
  clear f89
  have f117 : oF Z h114 a1 "entryValues" "[[D" (.ref ev) := f90.other W114 (Or.inl (Ne.symm ne_po_a1))
  clear f90
  have f118 : oF Z h114 a1 "rhs" "[D" (.ref rh) := f91.other W114 (Or.inl (Ne.symm ne_po_a1))
  clear f91
  have f119 : oF Z h114 a1 "inverse" "[[D" .null := f92.other W114 (Or.inl (Ne.symm ne_po_a1))
  clear f92
  have f120 : oF Z h114 a1 "primal" "[D" .null := f93.other W114 (Or.inl (Ne.symm ne_po_a1))
  clear f93
  have f121 : oF Z h114 a1 "pivotsSinceRefactor" "I" (.int 0) := f94.other W114 (Or.inl (Ne.symm ne_po_a1))
  clear f94
  have f122 : oF Z h114 a1 "position" "[I" (.ref po) := f95.other W114 (Or.inl (Ne.symm ne_po_a1))
  clear f95
  have f123 : oF Z h114 a1 "infeasibility" "D" (.double 0) := f96.other W114 (Or.inl (Ne.symm ne_po_a1))
  clear f96
  have f124 : Exa Z h114 a1 "com/example/trunkwright/trunkwright/traffic/RevisedSimplex" := f97.wr W114
  clear f97
  have f125 : Exa Z h114 b6 "[I" := f98.wr W114
  clear f98
  have f126 : Arv Z h114 b6 ka .int (2 : Int32) [(.int j0), (.int j1)] (.int 0) := f99.other W114 (Ne.symm ne_po_b6)
  clear f99
  have f127 : oF Z h114 a1 "basis" "[I" (.ref b6) := f100.other W114 (Or.inl (Ne.symm ne_po_a1))
  clear f100
  have f128 : Exa Z h114 b41 "[I" := f101.wr W114
  clear f101
  have f129 : Arv Z h114 b41 ka .int (2 : Int32) [(.int j0), (.int j1)] (.int 0) := f102.other W114 (Ne.symm ne_po_b41)
  clear f102
  have f130 : oF Z h114 a1 "start" "[I" (.ref b41) := f103.other W114 (Or.inl (Ne.symm ne_po_a1))
  clear f103
  have V114 : Arv Z h114 po kb .int (16 : Int32) ((pl.set j0.toNatClampNeg (.int 0)).set j1.toNatClampNeg (.int 1)) (.int 0) := Arv.set Ar113 q113 S113 N113' H113 G113 rfl W114 j1.toNatClampNeg rfl hl1
  clear Ar113 q113 S113 N113' H113 G113 hin113 W114 V87
  have R131 : ∀ t, oG p e below T114 m 54 #[oR a1, oR a2, oI 2, .unset, .unset, .unset, .unset, .unset, .unset] [(.ref a1), (.int 2)] t → Steps p.tables e below AA t := by
    intro t k
    refine R114 t ?_
    refine XS.iinc X114.here hx rfl (hb hby own_d4_72) rfl (l' := #[oR a1, oR a2, oI 2, .unset, .unset, .unset, .unset, .unset, .unset]) rfl ?_
    refine XS.goto X114.here hx rfl (pc0 := 75) (pc' := 52) rfl (hb hby own_d4_75) (by decide) (by decide) ?_
    refine XS.iloadN X114.here hx rfl (hb hby own_d4_52) rfl ?_
    refine XS.aloadN X114.here hx rfl (hb hby own_d4_53) rfl rfl ?_
    exact k
  clear R114
  obtain ⟨T132, X132, e132, st132⟩ := getF X114 hx hZ hown (host := "") (Or.inl (oW hw 24 rfl)) Via.refl e114 f115 (g := (mkF m 54 #[oR a1, oR a2, oI 2, .unset, .unset, .unset, .unset, .unset, .unset] [(.ref a1), (.int 2)])) rfl rfl (hb hby own_d4_54)
  have R132 := fun t k => R131 t (st132 t k)
  clear R131 st132 X114 e114
  have R133 : ∀ t, oG p e below T132 m 79 #[oR a1, oR a2, oI 2, .unset, .unset, .unset, .unset, .unset, .unset] [(.ref a1)] t → Steps p.tables e below AA t := by
    intro t k
    refine R132 t ?_
    refine XS.icmpYes X132.here hx rfl (pc0 := 57) (pc' := 78) rfl (hb hby own_d4_57) rfl (flt (by decide : ¬ ((2 : Int32) < (2 : Int32)))).2.1 (by decide) (by decide) ?_
    refine XS.aloadN X132.here hx rfl (hb hby own_d4_78) rfl rfl ?_
    exact k
  clear R132
  have f134 : Arv Z h114 er kc (.array .int) (16 : Int32) ers .null := V_er.keep K114 (ninS ne_er_a1 (ninS ne_er_po nin0))
  have f135 : Arv Z h114 ev kd (.array .double) (16 : Int32) evs .null := V_ev.keep K114 (ninS ne_ev_a1 (ninS ne_ev_po nin0))
  have f136 : Arv Z h114 r0 ke .int (1 : Int32) [(.int 1)] (.int 0) := V_r0.keep K114 (ninS ne_r0_a1 (ninS ne_r0_po nin0))
  have f137 : Arv Z h114 r1 kf .int (1 : Int32) [(.int 0)] (.int 0) := V_r1.keep K114 (ninS ne_r1_a1 (ninS ne_r1_po nin0))
  have f138 : Arv Z h114 va0 kg .double (1 : Int32) [(.double u0)] (.double 0) := V_va0.keep K114 (ninS ne_va0_a1 (ninS ne_va0_po nin0))
  have f139 : Arv Z h114 va1 kh .double (1 : Int32) [(.double u1)] (.double 0) := V_va1.keep K114 (ninS ne_va1_a1 (ninS ne_va1_po nin0))
  have f140 : Arv Z h114 rh ki .double (2 : Int32) [(.double d0), (.double d1)] (.double 0) := V_rh.keep K114 (ninS ne_rh_a1 (ninS ne_rh_po nin0))
  obtain ⟨cq141, q141a, q141b⟩ := f124.cell
  obtain ⟨_, _, ⟨T141, L141, k141, n141⟩, -, X141, ⟨Lc141, hQ141, l141, y141, z141⟩, st141⟩ := X132.privateBack hx (y := (oN "refactor" "()V")) hown (mvT hZ (oW hw 57 rfl)) (mvT hZ (oW hw 58 rfl)) (mvT hZ (own_selP (y := (oN "refactor" "()V")) (oW hw 2 rfl) (oW hw 58 rfl) (oW hw 59 rfl) (by decide))) (Cond.privateMethod_at (mvP hZ (oW hw 59 rfl) (args := #[]))) (mvT hZ (oW hw 60 rfl)) (by decide) (backOf (W := 0) (rmRfA l Z a0 hw [] a1 b6 er ev r0 r1 va0 va1 rh po _ _ _ _ _ _ _ _ j0 j1 _ _ _ _ _ _ _ _  h114 n0 Z114 f115 f116 f117 f127 f118 f119 f120 f121 f122 f123 f124 f126 f134 f135 f136 f137 f138 f139 f140 ne_rh_a1 g_a1 hj0 ur0 uv0 su0 sd0 hx0 hj1 ur1 uv1 su1 sd1 hx1) hZ (oW hw 60 rfl) (oW hw 3 rfl) (by decide) (by decide)) (g := (mkF m 79 #[oR a1, oR a2, oI 2, .unset, .unset, .unset, .unset, .unset, .unset] [(.ref a1)])) rfl (by rw [hml]; rfl) (Steps.refl _) (a := a1) (by rw [e132]; exact q141a) q141b (argsL := []) (rest := []) (lenOf own_pd1 rfl) rfl oL (hb hby own_d4_79) (fun _ _ => ⟨rfl, e132, (by decide : 2 + 7 ≤ _), (by decide : 4 + 14 ≤ _)⟩)
  dsimp only [Pt.U, Pt.locs, Pt.cells, Pt.slots] at X141 l141 y141 z141 st141 hQ141
  subst l141 y141 z141
  obtain ⟨rfl, Nq141, bp141, kp141, Kc141, sz141, Fa141, Fb141, Fc141, Fd141, Vc141⟩ := hQ141
  have N141 := Fr.app N114 Nq141
  clear N114
  have R141 := fun t k => R133 t (st141.trans k)
  clear R133 st141 X132 e132
  have ne_a1_bp141 : a1 ≠ bp141 := Nat.ne_of_lt (Nat.lt_of_lt_of_le f115.lt sz141)
  have ne_po_bp141 : po ≠ bp141 := Nat.ne_of_lt (Nat.lt_of_lt_of_le V114.lt sz141)
  have Z141 : n0 ≤ T141.heap.size := Nat.le_trans Z114 Kc141.1
  clear Z114
  have K141 : Keep h0 T141.heap [a1, po] := K114.trans Kc141 (allS (Or.inl (by simp)) all0)
  clear K114
  have f142 : Exa Z T141.heap a1 "com/example/trunkwright/trunkwright/traffic/RevisedSimplex" := f124.keep Kc141
  clear f124
  have f143 : Arv Z T141.heap po kb .int (16 : Int32) ((pl.set j0.toNatClampNeg (.int 0)).set j1.toNatClampNeg (.int 1)) (.int 0) := V114.keep Kc141 (ninS ne_po_a1 nin0)
  clear V114
  have nx0 : own_N x0 := hx0 ▸ own_dN sd1 su0
  have nx1 : own_N x1 := hx1 ▸ own_dN sd0 su1
  have R144 : ∀ t, oG p e below T141 m 85 #[oR a1, oR a2, oD 0, .second, .unset, .unset, .unset, .unset, .unset] [(.ref a1)] t → Steps p.tables e below AA t := by
    intro t k
    refine R141 t ?_
    refine XS.dconst0 X141.here hx rfl (hb hby own_d4_82) (v := (0 : UInt64)) (by decide +kernel) ?_
    refine XS.dstoreN X141.here hx rfl (hb hby own_d4_83) rfl (l' := #[oR a1, oR a2, oD 0, .second, .unset, .unset, .unset, .unset, .unset]) rfl ?_
    refine XS.aloadN X141.here hx rfl (hb hby own_d4_84) rfl rfl ?_
    exact k
  clear R141
  obtain ⟨T145, X145, e145, st145⟩ := getF X141 hx hZ hown (host := "") (Or.inl (oW hw 76 rfl)) Via.refl rfl Fd141 (g := (mkF m 85 #[oR a1, oR a2, oD 0, .second, .unset, .unset, .unset, .unset, .unset] [(.ref a1)])) rfl rfl (hb hby own_d4_85)
  have R145 := fun t k => R144 t (st145 t k)
  clear R144 st145 X141
  have R146 : ∀ t, oG p e below T145 m 92 #[oR a1, oR a2, oD 0, .second, oR bp141, .unset, .unset, .unset, .unset] [(.ref bp141)] t → Steps p.tables e below AA t := by
    intro t k
    refine R145 t ?_
    refine XS.astore X145.here hx rfl (hb hby own_d4_88) rfl rfl (l' := #[oR a1, oR a2, oD 0, .second, oR bp141, .unset, .unset, .unset, .unset]) rfl ?_
    refine XS.aload X145.here hx rfl (hb hby own_d4_90) rfl rfl ?_
    exact k
  clear R145
  obtain ⟨cl147, Ar147, q147, S147, N147', H147, G147⟩ := id Vc141
  have R148 : ∀ t, oG p e below T145 m 109 #[oR a1, oR a2, oD 0, .second, oR bp141, oI 2, oI 0, .unset, .unset] [(.int 0), (.ref bp141)] t → Steps p.tables e below AA t := by
    intro t k
    refine R146 t ?_
    refine X145.arraylength hx (by rw [e145]; exact Ar147.1) (State.isArrayOf_alike hZ.alike Ar147.2.1) (g := (mkF m 92 #[oR a1, oR a2, oD 0, .second, oR bp141, .unset, .unset, .unset, .unset] [(.ref bp141)])) rfl rfl (hb hby own_d4_92) _ ?_
    rw [len_of S147 N147']
    refine XS.istore X145.here hx rfl (hb hby own_d4_93) rfl (l' := #[oR a1, oR a2, oD 0, .second, oR bp141, oI 2, .unset, .unset, .unset]) rfl ?_
    refine XS.iconst X145.here hx rfl (hb hby own_d4_95) ?_
    refine XS.istore X145.here hx rfl (hb hby own_d4_96) rfl (l' := #[oR a1, oR a2, oD 0, .second, oR bp141, oI 2, oI 0, .unset, .unset]) rfl ?_
    refine XS.iload X145.here hx rfl (hb hby own_d4_98) rfl ?_
    show oG p e below T145 m 100 #[oR a1, oR a2, oD 0, .second, oR bp141, oI 2, oI 0, .unset, .unset] [(.int 0)] _
    refine XS.iload X145.here hx rfl (hb hby own_d4_100) rfl ?_
    refine XS.icmpNo X145.here hx rfl (hb hby own_d4_102) rfl (tlt (by decide : ((0 : Int32) < (2 : Int32)))).2.1 ?_
    refine XS.aload X145.here hx rfl (hb hby own_d4_105) rfl rfl ?_
    refine XS.iload X145.here hx rfl (hb hby own_d4_107) rfl ?_
    exact k
  clear R146
  have hin147_0 : ¬ ((0 : Int32) < 0 ∨ cl147.slots.size ≤ ((0 : Int32)).toNatClampNeg) := inb_of S147 ⟨by decide, by decide⟩
  have hat147_0 : cl147.slots[((0 : Int32)).toNatClampNeg]? = some (.double x0) := H147.at hin147_0 rfl
  have R149 : ∀ t, oG p e below T145 m 115 #[oR a1, oR a2, oD 0, .second, oR bp141, oI 2, oI 0, oD x0, .second] [(.double x0), (.double 0)] t → Steps p.tables e below AA t := by
    intro t k
    refine R148 t ?_
    refine X145.daload hx (j := (0 : Int32)) (v := (.double x0)) (by rw [e145]; exact Ar147.1) (State.isArrayOf_alike hZ.alike Ar147.2.1) Ar147.2.2 hin147_0 hat147_0 (g := (mkF m 109 #[oR a1, oR a2, oD 0, .second, oR bp141, oI 2, oI 0, .unset, .unset] [(.int 0), (.ref bp141)])) rfl rfl (hb hby own_d4_109) _ ?_
    refine XS.dstore X145.here hx rfl (hb hby own_d4_110) rfl (l' := #[oR a1, oR a2, oD 0, .second, oR bp141, oI 2, oI 0, oD x0, .second]) rfl ?_
    refine XS.dloadN X145.here hx rfl (hb hby own_d4_112) rfl ?_
    refine XS.dload X145.here hx rfl (hb hby own_d4_113) rfl ?_
    exact k
  clear R148
  obtain ⟨_, v150, _, -, X150, ⟨rfl, rfl⟩, st150⟩ := Jvm.LawKit.callS X145 hx (y := (⟨"java/lang/Math", "abs", "(D)D"⟩ : MethodName)) hown (mvT hZ (oW hw 62 rfl)) (mvT hZ (oW hw 63 rfl)) (mvT hZ (oW hw 64 rfl)) (mvT hZ (oW hw 65 rfl)) (by decide) (Jvm.Free.Fl.Abs.absD_pays (W := 2) x0 (mvT hZ (oW hw 65 rfl)) (by decide) (by decide)) (g := (mkF m 115 #[oR a1, oR a2, oD 0, .second, oR bp141, oI 2, oI 0, oD x0, .second] [(.double x0), (.double 0)])) rfl (by rw [hml]; rfl) (argsL := [(.double x0)]) (rest := [(.double 0)]) (lenOf own_pd5 rfl) rfl oL (hb hby own_d4_115) (fun _ _ => ⟨(by decide : 9 ≤ _), (by decide : 18 ≤ _), rfl, own_NN nx0⟩)
  dsimp only [Pt.U, Pt.locs, Pt.cells, Pt.slots] at X150 st150
  have e150 : (T145.setVm v150).heap = T141.heap := e145
  generalize T145.setVm v150 = T150 at X150 st150 e150
  rw [(own_Nabs nx0)] at st150
  have R150 := fun t k => R149 t (st150 t k)
  clear R149 st150 X145 e145
  obtain ⟨_, v151, _, -, X151, ⟨rfl, rfl⟩, st151⟩ := Jvm.LawKit.callS X150 hx (y := (⟨"java/lang/Math", "max", "(DD)D"⟩ : MethodName)) hown (mvT hZ (oW hw 80 rfl)) (mvT hZ (oW hw 81 rfl)) (mvT hZ (oW hw 64 rfl)) (mvT hZ (oW hw 82 rfl)) (by decide) (Jvm.Free.Fl.Abs.maxD_pays (W := 0) (0 : UInt64) x0 (mvT hZ (oW hw 82 rfl)) (by decide) (by decide)) (g := (mkF m 118 #[oR a1, oR a2, oD 0, .second, oR bp141, oI 2, oI 0, oD x0, .second] [(.double x0), (.double 0)])) rfl (by rw [hml]; rfl) (argsL := [(.double 0), (.double x0)]) (rest := []) (lenOf own_pd8 rfl) rfl oL (hb hby own_d4_118) (fun _ _ => ⟨(by decide : 9 ≤ _), (by decide : 18 ≤ _), rfl, own_NN own_N0, own_NN nx0⟩)
  dsimp only [Pt.U, Pt.locs, Pt.cells, Pt.slots] at X151 st151
  have e151 : (T150.setVm v151).heap = T141.heap := e150
  generalize T150.setVm v151 = T151 at X151 st151 e151
  have R151 := fun t k => R150 t (st151 t k)
  clear R150 st151 X150 e150
  obtain ⟨mx0, hmx0⟩ : ∃ z : UInt64, z = (Jvm.Native.java_lang_Math.nans.pick64 true (0 : UInt64) x0) := ⟨_, rfl⟩
  have R152 : ∀ t, oG p e below T151 m 121 #[oR a1, oR a2, oD 0, .second, oR bp141, oI 2, oI 0, oD x0, .second] [(.double mx0)] t → Steps p.tables e below AA t := by rw [hmx0]; exact R151
  clear R151
  have nm0 : own_N mx0 := hmx0 ▸ own_pick own_N0 nx0
  have R153 : ∀ t, oG p e below T151 m 109 #[oR a1, oR a2, oD mx0, .second, oR bp141, oI 2, oI 1, oD x0, .second] [(.int 1), (.ref bp141)] t → Steps p.tables e below AA t := by
    intro t k
    refine R152 t ?_
    refine XS.dstoreN X151.here hx rfl (hb hby own_d4_121) rfl (l' := #[oR a1, oR a2, oD mx0, .second, oR bp141, oI 2, oI 0, oD x0, .second]) rfl ?_
    refine XS.iinc X151.here hx rfl (hb hby own_d4_122) rfl (l' := #[oR a1, oR a2, oD mx0, .second, oR bp141, oI 2, oI 1, oD x0, .second]) rfl ?_
    refine XS.goto X151.here hx rfl (pc0 := 125) (pc' := 98) rfl (hb hby own_d4_125) (by decide) (by decide) ?_
    refine XS.iload X151.here hx rfl (hb hby own_d4_98) rfl ?_
    refine XS.iload X151.here hx rfl (hb hby own_d4_100) rfl ?_
    show oG p e below T151 m 102 #[oR a1, oR a2, oD mx0, .second, oR bp141, oI 2, oI 1, oD x0, .second] [(.int 2), (.int 1)] _
    refine XS.icmpNo X151.here hx rfl (hb hby own_d4_102) rfl (tlt (by decide : ((1 : Int32) < (2 : Int32)))).2.1 ?_
    refine XS.aload X151.here hx rfl (hb hby own_d4_105) rfl rfl ?_
    refine XS.iload X151.here hx rfl (hb hby own_d4_107) rfl ?_
    exact k
  clear R152
  have hin147_1 : ¬ ((1 : Int32) < 0 ∨ cl147.slots.size ≤ ((1 : Int32)).toNatClampNeg) := inb_of S147 ⟨by decide, by decide⟩
  have hat147_1 : cl147.slots[((1 : Int32)).toNatClampNeg]? = some (.double x1) := H147.at hin147_1 rfl
  have R154 : ∀ t, oG p e below T151 m 115 #[oR a1, oR a2, oD mx0, .second, oR bp141, oI 2, oI 1, oD x1, .second] [(.double x1), (.double mx0)] t → Steps p.tables e below AA t := by
    intro t k
    refine R153 t ?_
    refine X151.daload hx (j := (1 : Int32)) (v := (.double x1)) (by rw [e151]; exact Ar147.1) (State.isArrayOf_alike hZ.alike Ar147.2.1) Ar147.2.2 hin147_1 hat147_1 (g := (mkF m 109 #[oR a1, oR a2, oD mx0, .second, oR bp141, oI 2, oI 1, oD x0, .second] [(.int 1), (.ref bp141)])) rfl rfl (hb hby own_d4_109) _ ?_
    refine XS.dstore X151.here hx rfl (hb hby own_d4_110) rfl (l' := #[oR a1, oR a2, oD mx0, .second, oR bp141, oI 2, oI 1, oD x1, .second]) rfl ?_
    refine XS.dloadN X151.here hx rfl (hb hby own_d4_112) rfl ?_
    refine XS.dload X151.here hx rfl (hb hby own_d4_113) rfl ?_
    exact k
  clear R153
  obtain ⟨_, v155, _, -, X155, ⟨rfl, rfl⟩, st155⟩ := Jvm.LawKit.callS X151 hx (y := (⟨"java/lang/Math", "abs", "(D)D"⟩ : MethodName)) hown (mvT hZ (oW hw 62 rfl)) (mvT hZ (oW hw 63 rfl)) (mvT hZ (oW hw 64 rfl)) (mvT hZ (oW hw 65 rfl)) (by decide) (Jvm.Free.Fl.Abs.absD_pays (W := 2) x1 (mvT hZ (oW hw 65 rfl)) (by decide) (by decide)) (g := (mkF m 115 #[oR a1, oR a2, oD mx0, .second, oR bp141, oI 2, oI 1, oD x1, .second] [(.double x1), (.double mx0)])) rfl (by rw [hml]; rfl) (argsL := [(.double x1)]) (rest := [(.double mx0)]) (lenOf own_pd5 rfl) rfl oL (hb hby own_d4_115) (fun _ _ => ⟨(by decide : 9 ≤ _), (by decide : 18 ≤ _), rfl, own_NN nx1⟩)
  dsimp only [Pt.U, Pt.locs, Pt.cells, Pt.slots] at X155 st155
  have e155 : (T151.setVm v155).heap = T141.heap := e151
  generalize T151.setVm v155 = T155 at X155 st155 e155
  rw [(own_Nabs nx1)] at st155
  have R155 := fun t k => R154 t (st155 t k)
  clear R154 st155 X151 e151
  obtain ⟨_, v156, _, -, X156, ⟨rfl, rfl⟩, st156⟩ := Jvm.LawKit.callS X155 hx (y := (⟨"java/lang/Math", "max", "(DD)D"⟩ : MethodName)) hown (mvT hZ (oW hw 80 rfl)) (mvT hZ (oW hw 81 rfl)) (mvT hZ (oW hw 64 rfl)) (mvT hZ (oW hw 82 rfl)) (by decide) (Jvm.Free.Fl.Abs.maxD_pays (W := 0) mx0 x1 (mvT hZ (oW hw 82 rfl)) (by decide) (by decide)) (g := (mkF m 118 #[oR a1, oR a2, oD mx0, .second, oR bp141, oI 2, oI 1, oD x1, .second] [(.double x1), (.double mx0)])) rfl (by rw [hml]; rfl) (argsL := [(.double mx0), (.double x1)]) (rest := []) (lenOf own_pd8 rfl) rfl oL (hb hby own_d4_118) (fun _ _ => ⟨(by decide : 9 ≤ _), (by decide : 18 ≤ _), rfl, own_NN nm0, own_NN nx1⟩)
  dsimp only [Pt.U, Pt.locs, Pt.cells, Pt.slots] at X156 st156
  have e156 : (T155.setVm v156).heap = T141.heap := e155
  generalize T155.setVm v156 = T156 at X156 st156 e156
  have R156 := fun t k => R155 t (st156 t k)
  clear R155 st156 X155 e155
  obtain ⟨mx1, hmx1⟩ : ∃ z : UInt64, z = (Jvm.Native.java_lang_Math.nans.pick64 true mx0 x1) := ⟨_, rfl⟩
  have R157 : ∀ t, oG p e below T156 m 121 #[oR a1, oR a2, oD mx0, .second, oR bp141, oI 2, oI 1, oD x1, .second] [(.double mx1)] t → Steps p.tables e below AA t := by rw [hmx1]; exact R156
  clear R156
  have nm1 : own_N mx1 := hmx1 ▸ own_pick nm0 nx1
  have R158 : ∀ t, oG p e below T156 m 134 #[oR a1, oR a2, oD mx1, .second, oR bp141, oI 2, oI 2, oD x1, .second] [(.double (FP.dmul (4427486594234968593 : UInt64) mx1)), (.ref a1)] t → Steps p.tables e below AA t := by
    intro t k
    refine R157 t ?_
    refine XS.dstoreN X156.here hx rfl (hb hby own_d4_121) rfl (l' := #[oR a1, oR a2, oD mx1, .second, oR bp141, oI 2, oI 1, oD x1, .second]) rfl ?_
    refine XS.iinc X156.here hx rfl (hb hby own_d4_122) rfl (l' := #[oR a1, oR a2, oD mx1, .second, oR bp141, oI 2, oI 2, oD x1, .second]) rfl ?_
    refine XS.goto X156.here hx rfl (pc0 := 125) (pc' := 98) rfl (hb hby own_d4_125) (by decide) (by decide) ?_
    refine XS.iload X156.here hx rfl (hb hby own_d4_98) rfl ?_
    refine XS.iload X156.here hx rfl (hb hby own_d4_100) rfl ?_
    show oG p e below T156 m 102 #[oR a1, oR a2, oD mx1, .second, oR bp141, oI 2, oI 2, oD x1, .second] [(.int 2), (.int 2)] _
    refine XS.icmpYes X156.here hx rfl (pc0 := 102) (pc' := 128) rfl (hb hby own_d4_102) rfl (flt (by decide : ¬ ((2 : Int32) < (2 : Int32)))).2.1 (by decide) (by decide) ?_
    refine XS.aloadN X156.here hx rfl (hb hby own_d4_128) rfl rfl ?_
    refine X156.ldc2DoubleC hx hown (mvT hZ (oW hw 66 rfl)) (g := (mkF m 129 #[oR a1, oR a2, oD mx1, .second, oR bp141, oI 2, oI 2, oD x1, .second] [(.ref a1)])) rfl (hb hby own_d4_129) _ ?_
    refine XS.dloadN X156.here hx rfl (hb hby own_d4_132) rfl ?_
    refine XS.dmulS X156.here hx rfl (hb hby own_d4_133) rfl (own_NN (own_tol nm1)) rfl ?_
    exact k
  clear R157
  obtain ⟨inf, hinf⟩ : ∃ z : UInt64, z = (FP.dmul (4427486594234968593 : UInt64) mx1) := ⟨_, rfl⟩
  have R159 : ∀ t, oG p e below T156 m 134 #[oR a1, oR a2, oD mx1, .second, oR bp141, oI 2, oI 2, oD x1, .second] [(.double inf), (.ref a1)] t → Steps p.tables e below AA t := by rw [hinf]; exact R158
  clear R158
  have ninf : own_N inf := hinf ▸ own_tol nm1
  obtain ⟨T160, h160, X160, e160, W160, st160⟩ := putF X156 hx hZ hown (host := "") (Or.inl (oW hw 83 rfl)) Via.refl e156 Fc141 f142 (Or.inl (oW hw 84 rfl)) (oW hw 2 rfl) (ty := .double) (by decide) rfl rfl (g := (mkF m 134 #[oR a1, oR a2, oD mx1, .second, oR bp141, oI 2, oI 2, oD x1, .second] [(.double inf), (.ref a1)])) rfl rfl (hb hby own_d4_134)
  have R160 := fun t k => R159 t (st160 t k)
  clear R159 st160 X156 e156
  have Z160 : n0 ≤ h160.size := Nat.le_trans Z141 (Keep.of_wr W160).1
  clear Z141
  have K160 : Keep h0 h160 [a1, po] := K141.wr W160 (Or.inl (by simp))
  clear K141
  have N160 := Fr.snoc X160 N141 g_a1
  clear N141
  have f161 : Exa Z h160 a1 "com/example/trunkwright/trunkwright/traffic/RevisedSimplex" := f142.wr W160
  clear f142
  have f162 : Arv Z h160 po kb .int (16 : Int32) ((pl.set j0.toNatClampNeg (.int 0)).set j1.toNatClampNeg (.int 1)) (.int 0) := f143.other W160 ne_po_a1
  clear f143
  have f163 : oF Z h160 a1 "rows" "I" (.int 2) := Fa141.other W160 (Or.inr (slot_ne (Or.inr (oW hw 25 rfl)) (Or.inl (oW hw 84 rfl)) (by decide) (t := .int) (t' := .double) (by decide) (by decide)))
  have f164 : oF Z h160 a1 "position" "[I" (.ref po) := Fb141.other W160 (Or.inr (slot_ne (Or.inl (oW hw 23 rfl)) (Or.inl (oW hw 84 rfl)) (by decide) (t := (.array .int)) (t' := .double) (by decide) (by decide)))
  have f165 : oF Z h160 a1 "primal" "[D" (.ref bp141) := Fd141.other W160 (Or.inr (slot_ne (Or.inl (oW hw 77 rfl)) (Or.inl (oW hw 84 rfl)) (by decide) (t := (.array .double)) (t' := .double) (by decide) (by decide)))
  have f166 : Arv Z h160 bp141 kp141 .double (2 : Int32) [(.double x0), (.double x1)] (.double 0) := Vc141.other W160 (Ne.symm ne_a1_bp141)
  have Fw160 : oF Z h160 a1 "infeasibility" "D" (.double inf) := Fc141.same W160
  have R167 : ∀ t, oG p e below T160 m 143 #[oR a1, oR a2, oD mx1, .second, oI 0, oI 2, oI 2, oD x1, .second] [(.ref a1), (.int 0)] t → Steps p.tables e below AA t := by
    intro t k
    refine R160 t ?_
    refine XS.iconst X160.here hx rfl (hb hby own_d4_137) ?_
    refine XS.istore X160.here hx rfl (hb hby own_d4_138) rfl (l' := #[oR a1, oR a2, oD mx1, .second, oI 0, oI 2, oI 2, oD x1, .second]) rfl ?_
    refine XS.iload X160.here hx rfl (hb hby own_d4_140) rfl ?_
    refine XS.aloadN X160.here hx rfl (hb hby own_d4_142) rfl rfl ?_
    exact k
  clear R160
  obtain ⟨T168, X168, e168, st168⟩ := getF X160 hx hZ hown (host := "") (Or.inl (oW hw 24 rfl)) Via.refl e160 f163 (g := (mkF m 143 #[oR a1, oR a2, oD mx1, .second, oI 0, oI 2, oI 2, oD x1, .second] [(.ref a1), (.int 0)])) rfl rfl (hb hby own_d4_143)
  have R168 := fun t k => R167 t (st168 t k)
  clear R167 st168 X160 e160
  have R169 : ∀ t, oG p e below T168 m 150 #[oR a1, oR a2, oD mx1, .second, oI 0, oI 2, oI 2, oD x1, .second] [(.ref a1)] t → Steps p.tables e below AA t := by
    intro t k
    refine R168 t ?_
    refine XS.icmpNo X168.here hx rfl (hb hby own_d4_146) rfl (tlt (by decide : ((0 : Int32) < (2 : Int32)))).2.1 ?_
    refine XS.aloadN X168.here hx rfl (hb hby own_d4_149) rfl rfl ?_
    exact k
  clear R168
  obtain ⟨T170, X170, e170, st170⟩ := getF X168 hx hZ hown (host := "") (Or.inl (oW hw 76 rfl)) Via.refl e168 f165 (g := (mkF m 150 #[oR a1, oR a2, oD mx1, .second, oI 0, oI 2, oI 2, oD x1, .second] [(.ref a1)])) rfl rfl (hb hby own_d4_150)
  have R170 := fun t k => R169 t (st170 t k)
  clear R169 st170 X168 e168
  have R171 : ∀ t, oG p e below T170 m 155 #[oR a1, oR a2, oD mx1, .second, oI 0, oI 2, oI 2, oD x1, .second] [(.int 0), (.ref bp141)] t → Steps p.tables e below AA t := by
    intro t k
    refine R170 t ?_
    refine XS.iload X170.here hx rfl (hb hby own_d4_153) rfl ?_
    exact k
  clear R170
  obtain ⟨cl172, Ar172, q172, S172, N172', H172, G172⟩ := id f166
  have hin172_0 : ¬ ((0 : Int32) < 0 ∨ cl172.slots.size ≤ ((0 : Int32)).toNatClampNeg) := inb_of S172 ⟨by decide, by decide⟩
  have hat172_0 : cl172.slots[((0 : Int32)).toNatClampNeg]? = some (.double x0) := H172.at hin172_0 rfl
  have R173 : ∀ t, oG p e below T170 m 157 #[oR a1, oR a2, oD mx1, .second, oI 0, oI 2, oI 2, oD x1, .second] [(.ref a1), (.double x0)] t → Steps p.tables e below AA t := by
    intro t k
    refine R171 t ?_
    refine X170.daload hx (j := (0 : Int32)) (v := (.double x0)) (by rw [e170]; exact Ar172.1) (State.isArrayOf_alike hZ.alike Ar172.2.1) Ar172.2.2 hin172_0 hat172_0 (g := (mkF m 155 #[oR a1, oR a2, oD mx1, .second, oI 0, oI 2, oI 2, oD x1, .second] [(.int 0), (.ref bp141)])) rfl rfl (hb hby own_d4_155) _ ?_
    refine XS.aloadN X170.here hx rfl (hb hby own_d4_156) rfl rfl ?_
    exact k
  clear R171
  obtain ⟨T174, X174, e174, st174⟩ := getF X170 hx hZ hown (host := "") (Or.inl (oW hw 83 rfl)) Via.refl e170 Fw160 (g := (mkF m 157 #[oR a1, oR a2, oD mx1, .second, oI 0, oI 2, oI 2, oD x1, .second] [(.ref a1), (.double x0)])) rfl rfl (hb hby own_d4_157)
  have R174 := fun t k => R173 t (st174 t k)
  clear R173 st174 X170 e170
  have R175 : ∀ t, oG p e below T174 m 143 #[oR a1, oR a2, oD mx1, .second, oI 1, oI 2, oI 2, oD x1, .second] [(.ref a1), (.int 1)] t → Steps p.tables e below AA t := by
    intro t k
    refine R174 t ?_
    refine XS.dnegS X174.here hx rfl (hb hby own_d4_160) rfl rfl ?_
    refine XS.dcmpS X174.here hx rfl (hb hby own_d4_161) rfl rfl ?_
    refine XS.ifYes X174.here hx rfl (pc0 := 162) (pc' := 192) rfl (hb hby own_d4_162) rfl ((if0 _ _).trans (flt (own_nlt nx0 ninf)).2.1) (by decide) (by decide) ?_
    refine XS.iinc X174.here hx rfl (hb hby own_d4_192) rfl (l' := #[oR a1, oR a2, oD mx1, .second, oI 1, oI 2, oI 2, oD x1, .second]) rfl ?_
    refine XS.goto X174.here hx rfl (pc0 := 195) (pc' := 140) rfl (hb hby own_d4_195) (by decide) (by decide) ?_
    show oG p e below T174 m 140 #[oR a1, oR a2, oD mx1, .second, oI 1, oI 2, oI 2, oD x1, .second] [] _
    refine XS.iload X174.here hx rfl (hb hby own_d4_140) rfl ?_
    refine XS.aloadN X174.here hx rfl (hb hby own_d4_142) rfl rfl ?_
    exact k
  clear R174
  obtain ⟨T176, X176, e176, st176⟩ := getF X174 hx hZ hown (host := "") (Or.inl (oW hw 24 rfl)) Via.refl e174 f163 (g := (mkF m 143 #[oR a1, oR a2, oD mx1, .second, oI 1, oI 2, oI 2, oD x1, .second] [(.ref a1), (.int 1)])) rfl rfl (hb hby own_d4_143)
  have R176 := fun t k => R175 t (st176 t k)
  clear R175 st176 X174 e174
  have R177 : ∀ t, oG p e below T176 m 150 #[oR a1, oR a2, oD mx1, .second, oI 1, oI 2, oI 2, oD x1, .second] [(.ref a1)] t → Steps p.tables e below AA t := by
    intro t k
    refine R176 t ?_
    refine XS.icmpNo X176.here hx rfl (hb hby own_d4_146) rfl (tlt (by decide : ((1 : Int32) < (2 : Int32)))).2.1 ?_
    refine XS.aloadN X176.here hx rfl (hb hby own_d4_149) rfl rfl ?_
    exact k
  clear R176
  obtain ⟨T178, X178, e178, st178⟩ := getF X176 hx hZ hown (host := "") (Or.inl (oW hw 76 rfl)) Via.refl e176 f165 (g := (mkF m 150 #[oR a1, oR a2, oD mx1, .second, oI 1, oI 2, oI 2, oD x1, .second] [(.ref a1)])) rfl rfl (hb hby own_d4_150)
  have R178 := fun t k => R177 t (st178 t k)
  clear R177 st178 X176 e176
  have R179 : ∀ t, oG p e below T178 m 155 #[oR a1, oR a2, oD mx1, .second, oI 1, oI 2, oI 2, oD x1, .second] [(.int 1), (.ref bp141)] t → Steps p.tables e below AA t := by
    intro t k
    refine R178 t ?_
    refine XS.iload X178.here hx rfl (hb hby own_d4_153) rfl ?_
    exact k
  clear R178
  have hin172_1 : ¬ ((1 : Int32) < 0 ∨ cl172.slots.size ≤ ((1 : Int32)).toNatClampNeg) := inb_of S172 ⟨by decide, by decide⟩
  have hat172_1 : cl172.slots[((1 : Int32)).toNatClampNeg]? = some (.double x1) := H172.at hin172_1 rfl
  have R180 : ∀ t, oG p e below T178 m 157 #[oR a1, oR a2, oD mx1, .second, oI 1, oI 2, oI 2, oD x1, .second] [(.ref a1), (.double x1)] t → Steps p.tables e below AA t := by
    intro t k
    refine R179 t ?_
    refine X178.daload hx (j := (1 : Int32)) (v := (.double x1)) (by rw [e178]; exact Ar172.1) (State.isArrayOf_alike hZ.alike Ar172.2.1) Ar172.2.2 hin172_1 hat172_1 (g := (mkF m 155 #[oR a1, oR a2, oD mx1, .second, oI 1, oI 2, oI 2, oD x1, .second] [(.int 1), (.ref bp141)])) rfl rfl (hb hby own_d4_155) _ ?_
    refine XS.aloadN X178.here hx rfl (hb hby own_d4_156) rfl rfl ?_
    exact k
  clear R179
  obtain ⟨T181, X181, e181, st181⟩ := getF X178 hx hZ hown (host := "") (Or.inl (oW hw 83 rfl)) Via.refl e178 Fw160 (g := (mkF m 157 #[oR a1, oR a2, oD mx1, .second, oI 1, oI 2, oI 2, oD x1, .second] [(.ref a1), (.double x1)])) rfl rfl (hb hby own_d4_157)
  have R181 := fun t k => R180 t (st181 t k)
  clear R180 st181 X178 e178
  have R182 : ∀ t, oG p e below T181 m 143 #[oR a1, oR a2, oD mx1, .second, oI 2, oI 2, oI 2, oD x1, .second] [(.ref a1), (.int 2)] t → Steps p.tables e below AA t := by
    intro t k
    refine R181 t ?_
    refine XS.dnegS X181.here hx rfl (hb hby own_d4_160) rfl rfl ?_
    refine XS.dcmpS X181.here hx rfl (hb hby own_d4_161) rfl rfl ?_
    refine XS.ifYes X181.here hx rfl (pc0 := 162) (pc' := 192) rfl (hb hby own_d4_162) rfl ((if0 _ _).trans (flt (own_nlt nx1 ninf)).2.1) (by decide) (by decide) ?_
    refine XS.iinc X181.here hx rfl (hb hby own_d4_192) rfl (l' := #[oR a1, oR a2, oD mx1, .second, oI 2, oI 2, oI 2, oD x1, .second]) rfl ?_
    refine XS.goto X181.here hx rfl (pc0 := 195) (pc' := 140) rfl (hb hby own_d4_195) (by decide) (by decide) ?_
    show oG p e below T181 m 140 #[oR a1, oR a2, oD mx1, .second, oI 2, oI 2, oI 2, oD x1, .second] [] _
    refine XS.iload X181.here hx rfl (hb hby own_d4_140) rfl ?_
    refine XS.aloadN X181.here hx rfl (hb hby own_d4_142) rfl rfl ?_
    exact k
  clear R181
  obtain ⟨T183, X183, e183, st183⟩ := getF X181 hx hZ hown (host := "") (Or.inl (oW hw 24 rfl)) Via.refl e181 f163 (g := (mkF m 143 #[oR a1, oR a2, oD mx1, .second, oI 2, oI 2, oI 2, oD x1, .second] [(.ref a1), (.int 2)])) rfl rfl (hb hby own_d4_143)
  have R183 := fun t k => R182 t (st183 t k)
  clear R182 st183 X181 e181
  have R184 : ∀ t, oG p e below T183 m 198 #[oR a1, oR a2, oD mx1, .second, oI 2, oI 2, oI 2, oD x1, .second] [] t → Steps p.tables e below AA t := by
    intro t k
    refine R183 t ?_
    refine XS.icmpYes X183.here hx rfl (pc0 := 146) (pc' := 198) rfl (hb hby own_d4_146) rfl (flt (by decide : ¬ ((2 : Int32) < (2 : Int32)))).2.1 (by decide) (by decide) ?_
    exact k
  clear R183
  subst hAA
  obtain ⟨fs, hr, hrun, hended, hW, hsame⟩ := X183.leave (v := none) (fun _ => rfl)
  refine ⟨_, _, R184 _ ?_, hrun, hended, _, _, rfl, ?_, ⟨_, rfl⟩, hW, hsame.mono (by decide) (by decide)⟩
  · exact X183.returnOut hx Bd.returns (hb hby own_d4_198) hr
  · show Q_rmStA Z a1 a2 po er ev r0 r1 va0 va1 rh ka kb kc kd ke kf kg kh ki j0 j1 ers evs pl u0 u1 d0 d1 x0 x1 h0 n0 _ T183.heap _
    rw [e183]
    exact ⟨rfl, N160, bp141, _, K160, f164, f165, f162, f166⟩
theorem own_ef_rmV0n (m : MethodId) (x0 : Addr) (x1 : Int32) : entryFrame m #[(.ref x0), (.int x1)] 2 = mkF m 0 #[oR x0, oI x1] [] := by first | (simp [entryFrame, mkF, argsToLocals, Value.category]; done) | rfl
theorem own_d10_0 : decode prog_82_method_7_code 0 = .ok (.aload_n 0, 1) := by decide +kernel
theorem own_d10_1 : decode prog_82_method_7_code 1 = .ok (.getfield 24, 3) := by decide +kernel
theorem own_d10_4 : decode prog_82_method_7_code 4 = .ok (.iload_n 1, 1) := by decide +kernel
theorem own_d10_5 : decode prog_82_method_7_code 5 = .ok (.iaload, 1) := by decide +kernel
theorem own_d10_6 : decode prog_82_method_7_code 6 = .ok (.iconst (-1), 1) := by decide +kernel
theorem own_d10_7 : decode prog_82_method_7_code 7 = .ok (.if_icmp .ne 7, 3) := by decide +kernel
theorem own_d10_10 : decode prog_82_method_7_code 10 = .ok (.dconst 0, 1) := by decide +kernel
theorem own_d10_11 : decode prog_82_method_7_code 11 = .ok (.goto 14, 3) := by decide +kernel
theorem own_d10_25 : decode prog_82_method_7_code 25 = .ok (.dreturn, 1) := by decide +kernel
def Q_rmV0n (Z : State) (a1 po bp : Addr) (ka kb : ClassId) (qa qb qc : Int32) (x0 x1 : UInt64) (h0 : Heap) (n0 : Nat) (v : Option Value) (h : Heap) (L : List Loc) : Prop := v = some (.double 0) ∧ Fr n0 L ∧ h = h0
set_option maxRecDepth 65536 in
set_option maxHeartbeats 40000000 in
theorem rmV0n (l : Launch) (Z : State) (a0 : Array Value) (hw : ∀ d ∈ tables_1, d.before a0 Z = true) (ws : List Jvm.Cond) (a1 po bp : Addr) (ka kb : ClassId) (qa qb qc : Int32) (x0 x1 : UInt64) (h0 : Heap) (n0 : Nat) (Z0 : n0 ≤ h0.size) (F_a1_position : oF Z h0 a1 "position" "[I" (.ref po)) (F_a1_primal : oF Z h0 a1 "primal" "[D" (.ref bp)) (V_po : Arv Z h0 po ka .int (16 : Int32) (oZ (.int (-1)) (.int qb) (.int qc)) (.int 0)) (V_bp : Arv Z h0 bp kb .double (2 : Int32) [(.double x0), (.double x1)] (.double 0)) :
    MetFree l (oN "value" "(I)D") (head1 (Jvm.Cond.code (oN "value" "(I)D") prog_82_method_7_code 2 (some .double) :: ws) ({ frames := 0, cells := 0, slots := 0, locals := 0 } : Room)) (fun a U => a = #[(.ref a1), (.int 0)] ∧ Z.Warmed39 U.vm ∧ U.heap = h0) (fun _ _ _ _ _ => True) (fun _ U o U' => ∃ v L, o = .returned v ∧ Q_rmV0n Z a1 po bp ka kb qa qb qc x0 x1 h0 n0 v U'.heap L ∧ FrameEnd U o U' L ({ frames := 0, cells := 0, slots := 0, locals := 0 } : Room).cells ({ frames := 0, cells := 0, slots := 0, locals := 0 } : Room).slots) := by
  refine MetFree.of_bodySF (plainFor_of_name own_pn0) hisR ?_
  intro p e s m args below meth c s₁ Bd hml0 hP hK
  obtain ⟨rfl, hZ, hh⟩ := hP
  have hx := Bd.exec
  have hby := Bd.bytes
  have hml : c.maxLocals = 2 := hml0
  have hown : s.vm.findClass "com/example/trunkwright/trunkwright/traffic/RevisedSimplex" = some m.cls := findClass_of_methodNamed Bd.named
  have hnm := (name_of_methodNamed Bd.named Bd.method).1
  have X0 : Stand p l e ({ frames := 0, cells := 0, slots := 0, locals := 0 } : Room) s m #[(.ref a1), (.int 0)] below meth c s₁ [] 0 0 := Stand.of_body Bd
  have e0 : s₁.heap = h0 := by rw [← hh, Bd.state]; rfl
  have N0 := Fr.nil n0
  have R0 : ∀ t, oG p e below s₁ m 0 #[oR a1, oI 0] [] t → Steps p.tables e below (s₁.setTop (entryFrame m #[(.ref a1), (.int 0)] 2)) t := fun t k => castTop (own_ef_rmV0n m a1 (0 : Int32)) k
  obtain ⟨AA, hAA⟩ : ∃ z, z = (s₁.setTop (entryFrame m #[(.ref a1), (.int 0)] 2)) := ⟨_, rfl⟩
  rw [← hAA] at R0
  have R1 : ∀ t, oG p e below s₁ m 1 #[oR a1, oI 0] [(.ref a1)] t → Steps p.tables e below AA t := by
    intro t k
    refine R0 t ?_
    refine XS.aloadN X0.here hx rfl (hb hby own_d10_0) rfl rfl ?_
    exact k
  obtain ⟨T2, X2, e2, st2⟩ := getF X0 hx hZ hown (host := "") (Or.inl (oW hw 22 rfl)) Via.refl e0 F_a1_position (g := (mkF m 1 #[oR a1, oI 0] [(.ref a1)])) rfl rfl (hb hby own_d10_1)
  have R2 := fun t k => R1 t (st2 t k)
  clear R1 st2
  have R3 : ∀ t, oG p e below T2 m 5 #[oR a1, oI 0] [(.int 0), (.ref po)] t → Steps p.tables e below AA t := by
    intro t k
    refine R2 t ?_
    refine XS.iloadN X2.here hx rfl (hb hby own_d10_4) rfl ?_
    exact k
  clear R2
  obtain ⟨cl4, Ar4, q4, S4, N4', H4, G4⟩ := id V_po
  have hin4_0 : ¬ ((0 : Int32) < 0 ∨ cl4.slots.size ≤ ((0 : Int32)).toNatClampNeg) := inb_of S4 ⟨by decide, by decide⟩
  have hat4_0 : cl4.slots[((0 : Int32)).toNatClampNeg]? = some (.int (-1)) := H4.at hin4_0 rfl
  have R5 : ∀ t, oG p e below T2 m 25 #[oR a1, oI 0] [(.double 0)] t → Steps p.tables e below AA t := by
    intro t k
    refine R3 t ?_
    refine X2.iaload hx (j := (0 : Int32)) (v := (.int (-1))) (by rw [e2]; exact Ar4.1) (State.isArrayOf_alike hZ.alike Ar4.2.1) Ar4.2.2 hin4_0 hat4_0 (g := (mkF m 5 #[oR a1, oI 0] [(.int 0), (.ref po)])) rfl rfl (hb hby own_d10_5) _ ?_
    refine XS.iconst X2.here hx rfl (hb hby own_d10_6) ?_
    refine XS.icmpNo X2.here hx rfl (hb hby own_d10_7) rfl (teq (by decide : ((-1 : Int32) = (-1 : Int32)))).2 ?_
    refine XS.dconst0 X2.here hx rfl (hb hby own_d10_10) (v := (0 : UInt64)) (by decide +kernel) ?_
    refine XS.goto X2.here hx rfl (pc0 := 11) (pc' := 25) rfl (hb hby own_d10_11) (by decide) (by decide) ?_
    exact k
  clear R3
  subst hAA
  obtain ⟨fs, hr, hrun, hended, hW, hsame⟩ := X2.leave (v := some (.double 0)) (fun h => by rw [Bd.returns] at h; cases h)
  refine ⟨_, _, R5 _ ?_, hrun, hended, _, _, rfl, ?_, ⟨_, rfl⟩, hW, hsame.mono (by decide) (by decide)⟩
  · exact retOut X2 hx Bd.returns rfl (Or.inr (Or.inr (Or.inl ⟨rfl, rfl, _, rfl⟩))) (hb hby own_d10_25) hr
  · show Q_rmV0n Z a1 po bp ka kb qa qb qc x0 x1 h0 n0 _ T2.heap _
    rw [e2]
    exact ⟨rfl, N0, rfl⟩
theorem own_ef_rmV00 (m : MethodId) (x0 : Addr) (x1 : Int32) : entryFrame m #[(.ref x0), (.int x1)] 2 = mkF m 0 #[oR x0, oI x1] [] := by first | (simp [entryFrame, mkF, argsToLocals, Value.category]; done) | rfl
theorem own_d10_14 : decode prog_82_method_7_code 14 = .ok (.aload_n 0, 1) := by decide +kernel
theorem own_d10_15 : decode prog_82_method_7_code 15 = .ok (.getfield 74, 3) := by decide +kernel
theorem own_d10_18 : decode prog_82_method_7_code 18 = .ok (.aload_n 0, 1) := by decide +kernel
theorem own_d10_19 : decode prog_82_method_7_code 19 = .ok (.getfield 24, 3) := by decide +kernel
theorem own_d10_22 : decode prog_82_method_7_code 22 = .ok (.iload_n 1, 1) := by decide +kernel
theorem own_d10_23 : decode prog_82_method_7_code 23 = .ok (.iaload, 1) := by decide +kernel
theorem own_d10_24 : decode prog_82_method_7_code 24 = .ok (.daload, 1) := by decide +kernel
def Q_rmV00 (Z : State) (a1 po bp : Addr) (ka kb : ClassId) (qa qb qc : Int32) (x0 x1 : UInt64) (h0 : Heap) (n0 : Nat) (v : Option Value) (h : Heap) (L : List Loc) : Prop := v = some (.double x0) ∧ Fr n0 L ∧ h = h0
set_option maxRecDepth 65536 in
set_option maxHeartbeats 40000000 in
theorem rmV00 (l : Launch) (Z : State) (a0 : Array Value) (hw : ∀ d ∈ tables_1, d.before a0 Z = true) (ws : List Jvm.Cond) (a1 po bp : Addr) (ka kb : ClassId) (qa qb qc : Int32) (x0 x1 : UInt64) (h0 : Heap) (n0 : Nat) (Z0 : n0 ≤ h0.size) (F_a1_position : oF Z h0 a1 "position" "[I" (.ref po)) (F_a1_primal : oF Z h0 a1 "primal" "[D" (.ref bp)) (V_po : Arv Z h0 po ka .int (16 : Int32) (oZ (.int 0) (.int qb) (.int qc)) (.int 0)) (V_bp : Arv Z h0 bp kb .double (2 : Int32) [(.double x0), (.double x1)] (.double 0)) :
    MetFree l (oN "value" "(I)D") (head1 (Jvm.Cond.code (oN "value" "(I)D") prog_82_method_7_code 2 (some .double) :: ws) ({ frames := 0, cells := 0, slots := 0, locals := 0 } : Room)) (fun a U => a = #[(.ref a1), (.int 0)] ∧ Z.Warmed39 U.vm ∧ U.heap = h0) (fun _ _ _ _ _ => True) (fun _ U o U' => ∃ v L, o = .returned v ∧ Q_rmV00 Z a1 po bp ka kb qa qb qc x0 x1 h0 n0 v U'.heap L ∧ FrameEnd U o U' L ({ frames := 0, cells := 0, slots := 0, locals := 0 } : Room).cells ({ frames := 0, cells := 0, slots := 0, locals := 0 } : Room).slots) := by
  refine MetFree.of_bodySF (plainFor_of_name own_pn0) hisR ?_
  intro p e s m args below meth c s₁ Bd hml0 hP hK
  obtain ⟨rfl, hZ, hh⟩ := hP
  have hx := Bd.exec
  have hby := Bd.bytes
  have hml : c.maxLocals = 2 := hml0
  have hown : s.vm.findClass "com/example/trunkwright/trunkwright/traffic/RevisedSimplex" = some m.cls := findClass_of_methodNamed Bd.named
  have hnm := (name_of_methodNamed Bd.named Bd.method).1
  have X0 : Stand p l e ({ frames := 0, cells := 0, slots := 0, locals := 0 } : Room) s m #[(.ref a1), (.int 0)] below meth c s₁ [] 0 0 := Stand.of_body Bd
  have e0 : s₁.heap = h0 := by rw [← hh, Bd.state]; rfl
  have N0 := Fr.nil n0
  have R0 : ∀ t, oG p e below s₁ m 0 #[oR a1, oI 0] [] t → Steps p.tables e below (s₁.setTop (entryFrame m #[(.ref a1), (.int 0)] 2)) t := fun t k => castTop (own_ef_rmV00 m a1 (0 : Int32)) k
  obtain ⟨AA, hAA⟩ : ∃ z, z = (s₁.setTop (entryFrame m #[(.ref a1), (.int 0)] 2)) := ⟨_, rfl⟩
  rw [← hAA] at R0
  have R1 : ∀ t, oG p e below s₁ m 1 #[oR a1, oI 0] [(.ref a1)] t → Steps p.tables e below AA t := by
    intro t k
    refine R0 t ?_
    refine XS.aloadN X0.here hx rfl (hb hby own_d10_0) rfl rfl ?_
    exact k
  obtain ⟨T2, X2, e2, st2⟩ := getF X0 hx hZ hown (host := "") (Or.inl (oW hw 22 rfl)) Via.refl e0 F_a1_position (g := (mkF m 1 #[oR a1, oI 0] [(.ref a1)])) rfl rfl (hb hby own_d10_1)
  have R2 := fun t k => R1 t (st2 t k)
  clear R1 st2
  have R3 : ∀ t, oG p e below T2 m 5 #[oR a1, oI 0] [(.int 0), (.ref po)] t → Steps p.tables e below AA t := by
    intro t k
    refine R2 t ?_
    refine XS.iloadN X2.here hx rfl (hb hby own_d10_4) rfl ?_
    exact k
  clear R2
  obtain ⟨cl4, Ar4, q4, S4, N4', H4, G4⟩ := id V_po
  have hin4_0 : ¬ ((0 : Int32) < 0 ∨ cl4.slots.size ≤ ((0 : Int32)).toNatClampNeg) := inb_of S4 ⟨by decide, by decide⟩
  have hat4_0 : cl4.slots[((0 : Int32)).toNatClampNeg]? = some (.int 0) := H4.at hin4_0 rfl
  have R5 : ∀ t, oG p e below T2 m 15 #[oR a1, oI 0] [(.ref a1)] t → Steps p.tables e below AA t := by
    intro t k
    refine R3 t ?_
    refine X2.iaload hx (j := (0 : Int32)) (v := (.int 0)) (by rw [e2]; exact Ar4.1) (State.isArrayOf_alike hZ.alike Ar4.2.1) Ar4.2.2 hin4_0 hat4_0 (g := (mkF m 5 #[oR a1, oI 0] [(.int 0), (.ref po)])) rfl rfl (hb hby own_d10_5) _ ?_
    refine XS.iconst X2.here hx rfl (hb hby own_d10_6) ?_
    refine XS.icmpYes X2.here hx rfl (pc0 := 7) (pc' := 14) rfl (hb hby own_d10_7) rfl (feq (by decide : ¬ ((0 : Int32) = (-1 : Int32)))).2 (by decide) (by decide) ?_
    refine XS.aloadN X2.here hx rfl (hb hby own_d10_14) rfl rfl ?_
    exact k
  clear R3
  obtain ⟨T6, X6, e6, st6⟩ := getF X2 hx hZ hown (host := "") (Or.inl (oW hw 76 rfl)) Via.refl e2 F_a1_primal (g := (mkF m 15 #[oR a1, oI 0] [(.ref a1)])) rfl rfl (hb hby own_d10_15)
  have R6 := fun t k => R5 t (st6 t k)
  clear R5 st6 X2 e2
  have R7 : ∀ t, oG p e below T6 m 19 #[oR a1, oI 0] [(.ref a1), (.ref bp)] t → Steps p.tables e below AA t := by
    intro t k
    refine R6 t ?_
    refine XS.aloadN X6.here hx rfl (hb hby own_d10_18) rfl rfl ?_
    exact k
  clear R6
  obtain ⟨T8, X8, e8, st8⟩ := getF X6 hx hZ hown (host := "") (Or.inl (oW hw 22 rfl)) Via.refl e6 F_a1_position (g := (mkF m 19 #[oR a1, oI 0] [(.ref a1), (.ref bp)])) rfl rfl (hb hby own_d10_19)
  have R8 := fun t k => R7 t (st8 t k)
  clear R7 st8 X6 e6
  have R9 : ∀ t, oG p e below T8 m 24 #[oR a1, oI 0] [(.int 0), (.ref bp)] t → Steps p.tables e below AA t := by
    intro t k
    refine R8 t ?_
    refine XS.iloadN X8.here hx rfl (hb hby own_d10_22) rfl ?_
    refine X8.iaload hx (j := (0 : Int32)) (v := (.int 0)) (by rw [e8]; exact Ar4.1) (State.isArrayOf_alike hZ.alike Ar4.2.1) Ar4.2.2 hin4_0 hat4_0 (g := (mkF m 23 #[oR a1, oI 0] [(.int 0), (.ref po), (.ref bp)])) rfl rfl (hb hby own_d10_23) _ ?_
    exact k
  clear R8
  obtain ⟨cl10, Ar10, q10, S10, N10', H10, G10⟩ := id V_bp
  have hin10_0 : ¬ ((0 : Int32) < 0 ∨ cl10.slots.size ≤ ((0 : Int32)).toNatClampNeg) := inb_of S10 ⟨by decide, by decide⟩
  have hat10_0 : cl10.slots[((0 : Int32)).toNatClampNeg]? = some (.double x0) := H10.at hin10_0 rfl
  have R11 : ∀ t, oG p e below T8 m 25 #[oR a1, oI 0] [(.double x0)] t → Steps p.tables e below AA t := by
    intro t k
    refine R9 t ?_
    refine X8.daload hx (j := (0 : Int32)) (v := (.double x0)) (by rw [e8]; exact Ar10.1) (State.isArrayOf_alike hZ.alike Ar10.2.1) Ar10.2.2 hin10_0 hat10_0 (g := (mkF m 24 #[oR a1, oI 0] [(.int 0), (.ref bp)])) rfl rfl (hb hby own_d10_24) _ ?_
    exact k
  clear R9
  subst hAA
  obtain ⟨fs, hr, hrun, hended, hW, hsame⟩ := X8.leave (v := some (.double x0)) (fun h => by rw [Bd.returns] at h; cases h)
  refine ⟨_, _, R11 _ ?_, hrun, hended, _, _, rfl, ?_, ⟨_, rfl⟩, hW, hsame.mono (by decide) (by decide)⟩
  · exact retOut X8 hx Bd.returns rfl (Or.inr (Or.inr (Or.inl ⟨rfl, rfl, _, rfl⟩))) (hb hby own_d10_25) hr
  · show Q_rmV00 Z a1 po bp ka kb qa qb qc x0 x1 h0 n0 _ T8.heap _
    rw [e8]
    exact ⟨rfl, N0, rfl⟩
theorem own_ef_rmV01 (m : MethodId) (x0 : Addr) (x1 : Int32) : entryFrame m #[(.ref x0), (.int x1)] 2 = mkF m 0 #[oR x0, oI x1] [] := by first | (simp [entryFrame, mkF, argsToLocals, Value.category]; done) | rfl
def Q_rmV01 (Z : State) (a1 po bp : Addr) (ka kb : ClassId) (qa qb qc : Int32) (x0 x1 : UInt64) (h0 : Heap) (n0 : Nat) (v : Option Value) (h : Heap) (L : List Loc) : Prop := v = some (.double x1) ∧ Fr n0 L ∧ h = h0
set_option maxRecDepth 65536 in
set_option maxHeartbeats 40000000 in
theorem rmV01 (l : Launch) (Z : State) (a0 : Array Value) (hw : ∀ d ∈ tables_1, d.before a0 Z = true) (ws : List Jvm.Cond) (a1 po bp : Addr) (ka kb : ClassId) (qa qb qc : Int32) (x0 x1 : UInt64) (h0 : Heap) (n0 : Nat) (Z0 : n0 ≤ h0.size) (F_a1_position : oF Z h0 a1 "position" "[I" (.ref po)) (F_a1_primal : oF Z h0 a1 "primal" "[D" (.ref bp)) (V_po : Arv Z h0 po ka .int (16 : Int32) (oZ (.int 1) (.int qb) (.int qc)) (.int 0)) (V_bp : Arv Z h0 bp kb .double (2 : Int32) [(.double x0), (.double x1)] (.double 0)) :
    MetFree l (oN "value" "(I)D") (head1 (Jvm.Cond.code (oN "value" "(I)D") prog_82_method_7_code 2 (some .double) :: ws) ({ frames := 0, cells := 0, slots := 0, locals := 0 } : Room)) (fun a U => a = #[(.ref a1), (.int 0)] ∧ Z.Warmed39 U.vm ∧ U.heap = h0) (fun _ _ _ _ _ => True) (fun _ U o U' => ∃ v L, o = .returned v ∧ Q_rmV01 Z a1 po bp ka kb qa qb qc x0 x1 h0 n0 v U'.heap L ∧ FrameEnd U o U' L ({ frames := 0, cells := 0, slots := 0, locals := 0 } : Room).cells ({ frames := 0, cells := 0, slots := 0, locals := 0 } : Room).slots) := by
  refine MetFree.of_bodySF (plainFor_of_name own_pn0) hisR ?_
  intro p e s m args below meth c s₁ Bd hml0 hP hK
  obtain ⟨rfl, hZ, hh⟩ := hP
  have hx := Bd.exec
  have hby := Bd.bytes
  have hml : c.maxLocals = 2 := hml0
  have hown : s.vm.findClass "com/example/trunkwright/trunkwright/traffic/RevisedSimplex" = some m.cls := findClass_of_methodNamed Bd.named
  have hnm := (name_of_methodNamed Bd.named Bd.method).1
  have X0 : Stand p l e ({ frames := 0, cells := 0, slots := 0, locals := 0 } : Room) s m #[(.ref a1), (.int 0)] below meth c s₁ [] 0 0 := Stand.of_body Bd
  have e0 : s₁.heap = h0 := by rw [← hh, Bd.state]; rfl
  have N0 := Fr.nil n0
  have R0 : ∀ t, oG p e below s₁ m 0 #[oR a1, oI 0] [] t → Steps p.tables e below (s₁.setTop (entryFrame m #[(.ref a1), (.int 0)] 2)) t := fun t k => castTop (own_ef_rmV01 m a1 (0 : Int32)) k
  obtain ⟨AA, hAA⟩ : ∃ z, z = (s₁.setTop (entryFrame m #[(.ref a1), (.int 0)] 2)) := ⟨_, rfl⟩
  rw [← hAA] at R0
  have R1 : ∀ t, oG p e below s₁ m 1 #[oR a1, oI 0] [(.ref a1)] t → Steps p.tables e below AA t := by
    intro t k
    refine R0 t ?_
    refine XS.aloadN X0.here hx rfl (hb hby own_d10_0) rfl rfl ?_
    exact k
  obtain ⟨T2, X2, e2, st2⟩ := getF X0 hx hZ hown (host := "") (Or.inl (oW hw 22 rfl)) Via.refl e0 F_a1_position (g := (mkF m 1 #[oR a1, oI 0] [(.ref a1)])) rfl rfl (hb hby own_d10_1)
  have R2 := fun t k => R1 t (st2 t k)
  clear R1 st2
  have R3 : ∀ t, oG p e below T2 m 5 #[oR a1, oI 0] [(.int 0), (.ref po)] t → Steps p.tables e below AA t := by
    intro t k
    refine R2 t ?_
    refine XS.iloadN X2.here hx rfl (hb hby own_d10_4) rfl ?_
    exact k
  clear R2
  obtain ⟨cl4, Ar4, q4, S4, N4', H4, G4⟩ := id V_po
  have hin4_0 : ¬ ((0 : Int32) < 0 ∨ cl4.slots.size ≤ ((0 : Int32)).toNatClampNeg) := inb_of S4 ⟨by decide, by decide⟩
  have hat4_0 : cl4.slots[((0 : Int32)).toNatClampNeg]? = some (.int 1) := H4.at hin4_0 rfl
  have R5 : ∀ t, oG p e below T2 m 15 #[oR a1, oI 0] [(.ref a1)] t → Steps p.tables e below AA t := by
    intro t k
    refine R3 t ?_
    refine X2.iaload hx (j := (0 : Int32)) (v := (.int 1)) (by rw [e2]; exact Ar4.1) (State.isArrayOf_alike hZ.alike Ar4.2.1) Ar4.2.2 hin4_0 hat4_0 (g := (mkF m 5 #[oR a1, oI 0] [(.int 0), (.ref po)])) rfl rfl (hb hby own_d10_5) _ ?_
    refine XS.iconst X2.here hx rfl (hb hby own_d10_6) ?_
    refine XS.icmpYes X2.here hx rfl (pc0 := 7) (pc' := 14) rfl (hb hby own_d10_7) rfl (feq (by decide : ¬ ((1 : Int32) = (-1 : Int32)))).2 (by decide) (by decide) ?_
    refine XS.aloadN X2.here hx rfl (hb hby own_d10_14) rfl rfl ?_
    exact k
  clear R3
  obtain ⟨T6, X6, e6, st6⟩ := getF X2 hx hZ hown (host := "") (Or.inl (oW hw 76 rfl)) Via.refl e2 F_a1_primal (g := (mkF m 15 #[oR a1, oI 0] [(.ref a1)])) rfl rfl (hb hby own_d10_15)
  have R6 := fun t k => R5 t (st6 t k)
  clear R5 st6 X2 e2
  have R7 : ∀ t, oG p e below T6 m 19 #[oR a1, oI 0] [(.ref a1), (.ref bp)] t → Steps p.tables e below AA t := by
    intro t k
    refine R6 t ?_
    refine XS.aloadN X6.here hx rfl (hb hby own_d10_18) rfl rfl ?_
    exact k
  clear R6
  obtain ⟨T8, X8, e8, st8⟩ := getF X6 hx hZ hown (host := "") (Or.inl (oW hw 22 rfl)) Via.refl e6 F_a1_position (g := (mkF m 19 #[oR a1, oI 0] [(.ref a1), (.ref bp)])) rfl rfl (hb hby own_d10_19)
  have R8 := fun t k => R7 t (st8 t k)
  clear R7 st8 X6 e6
  have R9 : ∀ t, oG p e below T8 m 24 #[oR a1, oI 0] [(.int 1), (.ref bp)] t → Steps p.tables e below AA t := by
    intro t k
    refine R8 t ?_
    refine XS.iloadN X8.here hx rfl (hb hby own_d10_22) rfl ?_
    refine X8.iaload hx (j := (0 : Int32)) (v := (.int 1)) (by rw [e8]; exact Ar4.1) (State.isArrayOf_alike hZ.alike Ar4.2.1) Ar4.2.2 hin4_0 hat4_0 (g := (mkF m 23 #[oR a1, oI 0] [(.int 0), (.ref po), (.ref bp)])) rfl rfl (hb hby own_d10_23) _ ?_
    exact k
  clear R8
  obtain ⟨cl10, Ar10, q10, S10, N10', H10, G10⟩ := id V_bp
  have hin10_1 : ¬ ((1 : Int32) < 0 ∨ cl10.slots.size ≤ ((1 : Int32)).toNatClampNeg) := inb_of S10 ⟨by decide, by decide⟩
  have hat10_1 : cl10.slots[((1 : Int32)).toNatClampNeg]? = some (.double x1) := H10.at hin10_1 rfl
  have R11 : ∀ t, oG p e below T8 m 25 #[oR a1, oI 0] [(.double x1)] t → Steps p.tables e below AA t := by
    intro t k
    refine R9 t ?_
    refine X8.daload hx (j := (1 : Int32)) (v := (.double x1)) (by rw [e8]; exact Ar10.1) (State.isArrayOf_alike hZ.alike Ar10.2.1) Ar10.2.2 hin10_1 hat10_1 (g := (mkF m 24 #[oR a1, oI 0] [(.int 1), (.ref bp)])) rfl rfl (hb hby own_d10_24) _ ?_
    exact k
  clear R9
  subst hAA
  obtain ⟨fs, hr, hrun, hended, hW, hsame⟩ := X8.leave (v := some (.double x1)) (fun h => by rw [Bd.returns] at h; cases h)
  refine ⟨_, _, R11 _ ?_, hrun, hended, _, _, rfl, ?_, ⟨_, rfl⟩, hW, hsame.mono (by decide) (by decide)⟩
  · exact retOut X8 hx Bd.returns rfl (Or.inr (Or.inr (Or.inl ⟨rfl, rfl, _, rfl⟩))) (hb hby own_d10_25) hr
  · show Q_rmV01 Z a1 po bp ka kb qa qb qc x0 x1 h0 n0 _ T8.heap _
    rw [e8]
    exact ⟨rfl, N0, rfl⟩
theorem own_ef_rmV10 (m : MethodId) (x0 : Addr) (x1 : Int32) : entryFrame m #[(.ref x0), (.int x1)] 2 = mkF m 0 #[oR x0, oI x1] [] := by first | (simp [entryFrame, mkF, argsToLocals, Value.category]; done) | rfl
def Q_rmV10 (Z : State) (a1 po bp : Addr) (ka kb : ClassId) (qa qb qc : Int32) (x0 x1 : UInt64) (h0 : Heap) (n0 : Nat) (v : Option Value) (h : Heap) (L : List Loc) : Prop := v = some (.double x0) ∧ Fr n0 L ∧ h = h0
set_option maxRecDepth 65536 in
set_option maxHeartbeats 40000000 in
theorem rmV10 (l : Launch) (Z : State) (a0 : Array Value) (hw : ∀ d ∈ tables_1, d.before a0 Z = true) (ws : List Jvm.Cond) (a1 po bp : Addr) (ka kb : ClassId) (qa qb qc : Int32) (x0 x1 : UInt64) (h0 : Heap) (n0 : Nat) (Z0 : n0 ≤ h0.size) (F_a1_position : oF Z h0 a1 "position" "[I" (.ref po)) (F_a1_primal : oF Z h0 a1 "primal" "[D" (.ref bp)) (V_po : Arv Z h0 po ka .int (16 : Int32) (oZ (.int qa) (.int 0) (.int qc)) (.int 0)) (V_bp : Arv Z h0 bp kb .double (2 : Int32) [(.double x0), (.double x1)] (.double 0)) :
    MetFree l (oN "value" "(I)D") (head1 (Jvm.Cond.code (oN "value" "(I)D") prog_82_method_7_code 2 (some .double) :: ws) ({ frames := 0, cells := 0, slots := 0, locals := 0 } : Room)) (fun a U => a = #[(.ref a1), (.int 1)] ∧ Z.Warmed39 U.vm ∧ U.heap = h0) (fun _ _ _ _ _ => True) (fun _ U o U' => ∃ v L, o = .returned v ∧ Q_rmV10 Z a1 po bp ka kb qa qb qc x0 x1 h0 n0 v U'.heap L ∧ FrameEnd U o U' L ({ frames := 0, cells := 0, slots := 0, locals := 0 } : Room).cells ({ frames := 0, cells := 0, slots := 0, locals := 0 } : Room).slots) := by
  refine MetFree.of_bodySF (plainFor_of_name own_pn0) hisR ?_
  intro p e s m args below meth c s₁ Bd hml0 hP hK
  obtain ⟨rfl, hZ, hh⟩ := hP
  have hx := Bd.exec
  have hby := Bd.bytes
  have hml : c.maxLocals = 2 := hml0
  have hown : s.vm.findClass "com/example/trunkwright/trunkwright/traffic/RevisedSimplex" = some m.cls := findClass_of_methodNamed Bd.named
  have hnm := (name_of_methodNamed Bd.named Bd.method).1
  have X0 : Stand p l e ({ frames := 0, cells := 0, slots := 0, locals := 0 } : Room) s m #[(.ref a1), (.int 1)] below meth c s₁ [] 0 0 := Stand.of_body Bd
  have e0 : s₁.heap = h0 := by rw [← hh, Bd.state]; rfl
  have N0 := Fr.nil n0
  have R0 : ∀ t, oG p e below s₁ m 0 #[oR a1, oI 1] [] t → Steps p.tables e below (s₁.setTop (entryFrame m #[(.ref a1), (.int 1)] 2)) t := fun t k => castTop (own_ef_rmV10 m a1 (1 : Int32)) k
  obtain ⟨AA, hAA⟩ : ∃ z, z = (s₁.setTop (entryFrame m #[(.ref a1), (.int 1)] 2)) := ⟨_, rfl⟩
  rw [← hAA] at R0
  have R1 : ∀ t, oG p e below s₁ m 1 #[oR a1, oI 1] [(.ref a1)] t → Steps p.tables e below AA t := by
    intro t k
    refine R0 t ?_
    refine XS.aloadN X0.here hx rfl (hb hby own_d10_0) rfl rfl ?_
    exact k
  obtain ⟨T2, X2, e2, st2⟩ := getF X0 hx hZ hown (host := "") (Or.inl (oW hw 22 rfl)) Via.refl e0 F_a1_position (g := (mkF m 1 #[oR a1, oI 1] [(.ref a1)])) rfl rfl (hb hby own_d10_1)
  have R2 := fun t k => R1 t (st2 t k)
  clear R1 st2
  have R3 : ∀ t, oG p e below T2 m 5 #[oR a1, oI 1] [(.int 1), (.ref po)] t → Steps p.tables e below AA t := by
    intro t k
    refine R2 t ?_
    refine XS.iloadN X2.here hx rfl (hb hby own_d10_4) rfl ?_
    exact k
  clear R2
  obtain ⟨cl4, Ar4, q4, S4, N4', H4, G4⟩ := id V_po
  have hin4_1 : ¬ ((1 : Int32) < 0 ∨ cl4.slots.size ≤ ((1 : Int32)).toNatClampNeg) := inb_of S4 ⟨by decide, by decide⟩
  have hat4_1 : cl4.slots[((1 : Int32)).toNatClampNeg]? = some (.int 0) := H4.at hin4_1 rfl
  have R5 : ∀ t, oG p e below T2 m 15 #[oR a1, oI 1] [(.ref a1)] t → Steps p.tables e below AA t := by
    intro t k
    refine R3 t ?_
    refine X2.iaload hx (j := (1 : Int32)) (v := (.int 0)) (by rw [e2]; exact Ar4.1) (State.isArrayOf_alike hZ.alike Ar4.2.1) Ar4.2.2 hin4_1 hat4_1 (g := (mkF m 5 #[oR a1, oI 1] [(.int 1), (.ref po)])) rfl rfl (hb hby own_d10_5) _ ?_
    refine XS.iconst X2.here hx rfl (hb hby own_d10_6) ?_
    refine XS.icmpYes X2.here hx rfl (pc0 := 7) (pc' := 14) rfl (hb hby own_d10_7) rfl (feq (by decide : ¬ ((0 : Int32) = (-1 : Int32)))).2 (by decide) (by decide) ?_
    refine XS.aloadN X2.here hx rfl (hb hby own_d10_14) rfl rfl ?_
    exact k
  clear R3
  obtain ⟨T6, X6, e6, st6⟩ := getF X2 hx hZ hown (host := "") (Or.inl (oW hw 76 rfl)) Via.refl e2 F_a1_primal (g := (mkF m 15 #[oR a1, oI 1] [(.ref a1)])) rfl rfl (hb hby own_d10_15)
  have R6 := fun t k => R5 t (st6 t k)
  clear R5 st6 X2 e2
  have R7 : ∀ t, oG p e below T6 m 19 #[oR a1, oI 1] [(.ref a1), (.ref bp)] t → Steps p.tables e below AA t := by
    intro t k
    refine R6 t ?_
    refine XS.aloadN X6.here hx rfl (hb hby own_d10_18) rfl rfl ?_
    exact k
  clear R6
  obtain ⟨T8, X8, e8, st8⟩ := getF X6 hx hZ hown (host := "") (Or.inl (oW hw 22 rfl)) Via.refl e6 F_a1_position (g := (mkF m 19 #[oR a1, oI 1] [(.ref a1), (.ref bp)])) rfl rfl (hb hby own_d10_19)
  have R8 := fun t k => R7 t (st8 t k)
  clear R7 st8 X6 e6
  have R9 : ∀ t, oG p e below T8 m 24 #[oR a1, oI 1] [(.int 0), (.ref bp)] t → Steps p.tables e below AA t := by
    intro t k
    refine R8 t ?_
    refine XS.iloadN X8.here hx rfl (hb hby own_d10_22) rfl ?_
    refine X8.iaload hx (j := (1 : Int32)) (v := (.int 0)) (by rw [e8]; exact Ar4.1) (State.isArrayOf_alike hZ.alike Ar4.2.1) Ar4.2.2 hin4_1 hat4_1 (g := (mkF m 23 #[oR a1, oI 1] [(.int 1), (.ref po), (.ref bp)])) rfl rfl (hb hby own_d10_23) _ ?_
    exact k
  clear R8
  obtain ⟨cl10, Ar10, q10, S10, N10', H10, G10⟩ := id V_bp
  have hin10_0 : ¬ ((0 : Int32) < 0 ∨ cl10.slots.size ≤ ((0 : Int32)).toNatClampNeg) := inb_of S10 ⟨by decide, by decide⟩
  have hat10_0 : cl10.slots[((0 : Int32)).toNatClampNeg]? = some (.double x0) := H10.at hin10_0 rfl
  have R11 : ∀ t, oG p e below T8 m 25 #[oR a1, oI 1] [(.double x0)] t → Steps p.tables e below AA t := by
    intro t k
    refine R9 t ?_
    refine X8.daload hx (j := (0 : Int32)) (v := (.double x0)) (by rw [e8]; exact Ar10.1) (State.isArrayOf_alike hZ.alike Ar10.2.1) Ar10.2.2 hin10_0 hat10_0 (g := (mkF m 24 #[oR a1, oI 1] [(.int 0), (.ref bp)])) rfl rfl (hb hby own_d10_24) _ ?_
    exact k
  clear R9
  subst hAA
  obtain ⟨fs, hr, hrun, hended, hW, hsame⟩ := X8.leave (v := some (.double x0)) (fun h => by rw [Bd.returns] at h; cases h)
  refine ⟨_, _, R11 _ ?_, hrun, hended, _, _, rfl, ?_, ⟨_, rfl⟩, hW, hsame.mono (by decide) (by decide)⟩
  · exact retOut X8 hx Bd.returns rfl (Or.inr (Or.inr (Or.inl ⟨rfl, rfl, _, rfl⟩))) (hb hby own_d10_25) hr
  · show Q_rmV10 Z a1 po bp ka kb qa qb qc x0 x1 h0 n0 _ T8.heap _
    rw [e8]
    exact ⟨rfl, N0, rfl⟩
theorem own_ef_rmV11 (m : MethodId) (x0 : Addr) (x1 : Int32) : entryFrame m #[(.ref x0), (.int x1)] 2 = mkF m 0 #[oR x0, oI x1] [] := by first | (simp [entryFrame, mkF, argsToLocals, Value.category]; done) | rfl
def Q_rmV11 (Z : State) (a1 po bp : Addr) (ka kb : ClassId) (qa qb qc : Int32) (x0 x1 : UInt64) (h0 : Heap) (n0 : Nat) (v : Option Value) (h : Heap) (L : List Loc) : Prop := v = some (.double x1) ∧ Fr n0 L ∧ h = h0
set_option maxRecDepth 65536 in
set_option maxHeartbeats 40000000 in
theorem rmV11 (l : Launch) (Z : State) (a0 : Array Value) (hw : ∀ d ∈ tables_1, d.before a0 Z = true) (ws : List Jvm.Cond) (a1 po bp : Addr) (ka kb : ClassId) (qa qb qc : Int32) (x0 x1 : UInt64) (h0 : Heap) (n0 : Nat) (Z0 : n0 ≤ h0.size) (F_a1_position : oF Z h0 a1 "position" "[I" (.ref po)) (F_a1_primal : oF Z h0 a1 "primal" "[D" (.ref bp)) (V_po : Arv Z h0 po ka .int (16 : Int32) (oZ (.int qa) (.int 1) (.int qc)) (.int 0)) (V_bp : Arv Z h0 bp kb .double (2 : Int32) [(.double x0), (.double x1)] (.double 0)) :
    MetFree l (oN "value" "(I)D") (head1 (Jvm.Cond.code (oN "value" "(I)D") prog_82_method_7_code 2 (some .double) :: ws) ({ frames := 0, cells := 0, slots := 0, locals := 0 } : Room)) (fun a U => a = #[(.ref a1), (.int 1)] ∧ Z.Warmed39 U.vm ∧ U.heap = h0) (fun _ _ _ _ _ => True) (fun _ U o U' => ∃ v L, o = .returned v ∧ Q_rmV11 Z a1 po bp ka kb qa qb qc x0 x1 h0 n0 v U'.heap L ∧ FrameEnd U o U' L ({ frames := 0, cells := 0, slots := 0, locals := 0 } : Room).cells ({ frames := 0, cells := 0, slots := 0, locals := 0 } : Room).slots) := by
  refine MetFree.of_bodySF (plainFor_of_name own_pn0) hisR ?_
  intro p e s m args below meth c s₁ Bd hml0 hP hK
  obtain ⟨rfl, hZ, hh⟩ := hP
  have hx := Bd.exec
  have hby := Bd.bytes
  have hml : c.maxLocals = 2 := hml0
  have hown : s.vm.findClass "com/example/trunkwright/trunkwright/traffic/RevisedSimplex" = some m.cls := findClass_of_methodNamed Bd.named
  have hnm := (name_of_methodNamed Bd.named Bd.method).1
  have X0 : Stand p l e ({ frames := 0, cells := 0, slots := 0, locals := 0 } : Room) s m #[(.ref a1), (.int 1)] below meth c s₁ [] 0 0 := Stand.of_body Bd
  have e0 : s₁.heap = h0 := by rw [← hh, Bd.state]; rfl
  have N0 := Fr.nil n0
  have R0 : ∀ t, oG p e below s₁ m 0 #[oR a1, oI 1] [] t → Steps p.tables e below (s₁.setTop (entryFrame m #[(.ref a1), (.int 1)] 2)) t := fun t k => castTop (own_ef_rmV11 m a1 (1 : Int32)) k
  obtain ⟨AA, hAA⟩ : ∃ z, z = (s₁.setTop (entryFrame m #[(.ref a1), (.int 1)] 2)) := ⟨_, rfl⟩
  rw [← hAA] at R0
  have R1 : ∀ t, oG p e below s₁ m 1 #[oR a1, oI 1] [(.ref a1)] t → Steps p.tables e below AA t := by
    intro t k
    refine R0 t ?_
    refine XS.aloadN X0.here hx rfl (hb hby own_d10_0) rfl rfl ?_
    exact k
  obtain ⟨T2, X2, e2, st2⟩ := getF X0 hx hZ hown (host := "") (Or.inl (oW hw 22 rfl)) Via.refl e0 F_a1_position (g := (mkF m 1 #[oR a1, oI 1] [(.ref a1)])) rfl rfl (hb hby own_d10_1)
  have R2 := fun t k => R1 t (st2 t k)
  clear R1 st2
  have R3 : ∀ t, oG p e below T2 m 5 #[oR a1, oI 1] [(.int 1), (.ref po)] t → Steps p.tables e below AA t := by
    intro t k
    refine R2 t ?_
    refine XS.iloadN X2.here hx rfl (hb hby own_d10_4) rfl ?_
    exact k
  clear R2
  obtain ⟨cl4, Ar4, q4, S4, N4', H4, G4⟩ := id V_po
  have hin4_1 : ¬ ((1 : Int32) < 0 ∨ cl4.slots.size ≤ ((1 : Int32)).toNatClampNeg) := inb_of S4 ⟨by decide, by decide⟩
  have hat4_1 : cl4.slots[((1 : Int32)).toNatClampNeg]? = some (.int 1) := H4.at hin4_1 rfl
  have R5 : ∀ t, oG p e below T2 m 15 #[oR a1, oI 1] [(.ref a1)] t → Steps p.tables e below AA t := by
    intro t k
    refine R3 t ?_
    refine X2.iaload hx (j := (1 : Int32)) (v := (.int 1)) (by rw [e2]; exact Ar4.1) (State.isArrayOf_alike hZ.alike Ar4.2.1) Ar4.2.2 hin4_1 hat4_1 (g := (mkF m 5 #[oR a1, oI 1] [(.int 1), (.ref po)])) rfl rfl (hb hby own_d10_5) _ ?_
    refine XS.iconst X2.here hx rfl (hb hby own_d10_6) ?_
    refine XS.icmpYes X2.here hx rfl (pc0 := 7) (pc' := 14) rfl (hb hby own_d10_7) rfl (feq (by decide : ¬ ((1 : Int32) = (-1 : Int32)))).2 (by decide) (by decide) ?_
    refine XS.aloadN X2.here hx rfl (hb hby own_d10_14) rfl rfl ?_
    exact k
  clear R3
  obtain ⟨T6, X6, e6, st6⟩ := getF X2 hx hZ hown (host := "") (Or.inl (oW hw 76 rfl)) Via.refl e2 F_a1_primal (g := (mkF m 15 #[oR a1, oI 1] [(.ref a1)])) rfl rfl (hb hby own_d10_15)
  have R6 := fun t k => R5 t (st6 t k)
  clear R5 st6 X2 e2
  have R7 : ∀ t, oG p e below T6 m 19 #[oR a1, oI 1] [(.ref a1), (.ref bp)] t → Steps p.tables e below AA t := by
    intro t k
    refine R6 t ?_
    refine XS.aloadN X6.here hx rfl (hb hby own_d10_18) rfl rfl ?_
    exact k
  clear R6
  obtain ⟨T8, X8, e8, st8⟩ := getF X6 hx hZ hown (host := "") (Or.inl (oW hw 22 rfl)) Via.refl e6 F_a1_position (g := (mkF m 19 #[oR a1, oI 1] [(.ref a1), (.ref bp)])) rfl rfl (hb hby own_d10_19)
  have R8 := fun t k => R7 t (st8 t k)
  clear R7 st8 X6 e6
  have R9 : ∀ t, oG p e below T8 m 24 #[oR a1, oI 1] [(.int 1), (.ref bp)] t → Steps p.tables e below AA t := by
    intro t k
    refine R8 t ?_
    refine XS.iloadN X8.here hx rfl (hb hby own_d10_22) rfl ?_
    refine X8.iaload hx (j := (1 : Int32)) (v := (.int 1)) (by rw [e8]; exact Ar4.1) (State.isArrayOf_alike hZ.alike Ar4.2.1) Ar4.2.2 hin4_1 hat4_1 (g := (mkF m 23 #[oR a1, oI 1] [(.int 1), (.ref po), (.ref bp)])) rfl rfl (hb hby own_d10_23) _ ?_
    exact k
  clear R8
  obtain ⟨cl10, Ar10, q10, S10, N10', H10, G10⟩ := id V_bp
  have hin10_1 : ¬ ((1 : Int32) < 0 ∨ cl10.slots.size ≤ ((1 : Int32)).toNatClampNeg) := inb_of S10 ⟨by decide, by decide⟩
  have hat10_1 : cl10.slots[((1 : Int32)).toNatClampNeg]? = some (.double x1) := H10.at hin10_1 rfl
  have R11 : ∀ t, oG p e below T8 m 25 #[oR a1, oI 1] [(.double x1)] t → Steps p.tables e below AA t := by
    intro t k
    refine R9 t ?_
    refine X8.daload hx (j := (1 : Int32)) (v := (.double x1)) (by rw [e8]; exact Ar10.1) (State.isArrayOf_alike hZ.alike Ar10.2.1) Ar10.2.2 hin10_1 hat10_1 (g := (mkF m 24 #[oR a1, oI 1] [(.int 1), (.ref bp)])) rfl rfl (hb hby own_d10_24) _ ?_
    exact k
  clear R9
  subst hAA
  obtain ⟨fs, hr, hrun, hended, hW, hsame⟩ := X8.leave (v := some (.double x1)) (fun h => by rw [Bd.returns] at h; cases h)
  refine ⟨_, _, R11 _ ?_, hrun, hended, _, _, rfl, ?_, ⟨_, rfl⟩, hW, hsame.mono (by decide) (by decide)⟩
  · exact retOut X8 hx Bd.returns rfl (Or.inr (Or.inr (Or.inl ⟨rfl, rfl, _, rfl⟩))) (hb hby own_d10_25) hr
  · show Q_rmV11 Z a1 po bp ka kb qa qb qc x0 x1 h0 n0 _ T8.heap _
    rw [e8]
    exact ⟨rfl, N0, rfl⟩
theorem own_ef_rmV2n (m : MethodId) (x0 : Addr) (x1 : Int32) : entryFrame m #[(.ref x0), (.int x1)] 2 = mkF m 0 #[oR x0, oI x1] [] := by first | (simp [entryFrame, mkF, argsToLocals, Value.category]; done) | rfl
def Q_rmV2n (Z : State) (a1 po bp : Addr) (ka kb : ClassId) (qa qb qc : Int32) (x0 x1 : UInt64) (h0 : Heap) (n0 : Nat) (v : Option Value) (h : Heap) (L : List Loc) : Prop := v = some (.double 0) ∧ Fr n0 L ∧ h = h0
set_option maxRecDepth 65536 in
set_option maxHeartbeats 40000000 in
theorem rmV2n (l : Launch) (Z : State) (a0 : Array Value) (hw : ∀ d ∈ tables_1, d.before a0 Z = true) (ws : List Jvm.Cond) (a1 po bp : Addr) (ka kb : ClassId) (qa qb qc : Int32) (x0 x1 : UInt64) (h0 : Heap) (n0 : Nat) (Z0 : n0 ≤ h0.size) (F_a1_position : oF Z h0 a1 "position" "[I" (.ref po)) (F_a1_primal : oF Z h0 a1 "primal" "[D" (.ref bp)) (V_po : Arv Z h0 po ka .int (16 : Int32) (oZ (.int qa) (.int qb) (.int (-1))) (.int 0)) (V_bp : Arv Z h0 bp kb .double (2 : Int32) [(.double x0), (.double x1)] (.double 0)) :
    MetFree l (oN "value" "(I)D") (head1 (Jvm.Cond.code (oN "value" "(I)D") prog_82_method_7_code 2 (some .double) :: ws) ({ frames := 0, cells := 0, slots := 0, locals := 0 } : Room)) (fun a U => a = #[(.ref a1), (.int 2)] ∧ Z.Warmed39 U.vm ∧ U.heap = h0) (fun _ _ _ _ _ => True) (fun _ U o U' => ∃ v L, o = .returned v ∧ Q_rmV2n Z a1 po bp ka kb qa qb qc x0 x1 h0 n0 v U'.heap L ∧ FrameEnd U o U' L ({ frames := 0, cells := 0, slots := 0, locals := 0 } : Room).cells ({ frames := 0, cells := 0, slots := 0, locals := 0 } : Room).slots) := by
  refine MetFree.of_bodySF (plainFor_of_name own_pn0) hisR ?_
  intro p e s m args below meth c s₁ Bd hml0 hP hK
  obtain ⟨rfl, hZ, hh⟩ := hP
  have hx := Bd.exec
  have hby := Bd.bytes
  have hml : c.maxLocals = 2 := hml0
  have hown : s.vm.findClass "com/example/trunkwright/trunkwright/traffic/RevisedSimplex" = some m.cls := findClass_of_methodNamed Bd.named
  have hnm := (name_of_methodNamed Bd.named Bd.method).1
  have X0 : Stand p l e ({ frames := 0, cells := 0, slots := 0, locals := 0 } : Room) s m #[(.ref a1), (.int 2)] below meth c s₁ [] 0 0 := Stand.of_body Bd
  have e0 : s₁.heap = h0 := by rw [← hh, Bd.state]; rfl
  have N0 := Fr.nil n0
  have R0 : ∀ t, oG p e below s₁ m 0 #[oR a1, oI 2] [] t → Steps p.tables e below (s₁.setTop (entryFrame m #[(.ref a1), (.int 2)] 2)) t := fun t k => castTop (own_ef_rmV2n m a1 (2 : Int32)) k
  obtain ⟨AA, hAA⟩ : ∃ z, z = (s₁.setTop (entryFrame m #[(.ref a1), (.int 2)] 2)) := ⟨_, rfl⟩
  rw [← hAA] at R0
  have R1 : ∀ t, oG p e below s₁ m 1 #[oR a1, oI 2] [(.ref a1)] t → Steps p.tables e below AA t := by
    intro t k
    refine R0 t ?_
    refine XS.aloadN X0.here hx rfl (hb hby own_d10_0) rfl rfl ?_
    exact k
  obtain ⟨T2, X2, e2, st2⟩ := getF X0 hx hZ hown (host := "") (Or.inl (oW hw 22 rfl)) Via.refl e0 F_a1_position (g := (mkF m 1 #[oR a1, oI 2] [(.ref a1)])) rfl rfl (hb hby own_d10_1)
  have R2 := fun t k => R1 t (st2 t k)
  clear R1 st2
  have R3 : ∀ t, oG p e below T2 m 5 #[oR a1, oI 2] [(.int 2), (.ref po)] t → Steps p.tables e below AA t := by
    intro t k
    refine R2 t ?_
    refine XS.iloadN X2.here hx rfl (hb hby own_d10_4) rfl ?_
    exact k
  clear R2
  obtain ⟨cl4, Ar4, q4, S4, N4', H4, G4⟩ := id V_po
  have hin4_2 : ¬ ((2 : Int32) < 0 ∨ cl4.slots.size ≤ ((2 : Int32)).toNatClampNeg) := inb_of S4 ⟨by decide, by decide⟩
  have hat4_2 : cl4.slots[((2 : Int32)).toNatClampNeg]? = some (.int (-1)) := H4.at hin4_2 rfl
  have R5 : ∀ t, oG p e below T2 m 25 #[oR a1, oI 2] [(.double 0)] t → Steps p.tables e below AA t := by
    intro t k
    refine R3 t ?_
    refine X2.iaload hx (j := (2 : Int32)) (v := (.int (-1))) (by rw [e2]; exact Ar4.1) (State.isArrayOf_alike hZ.alike Ar4.2.1) Ar4.2.2 hin4_2 hat4_2 (g := (mkF m 5 #[oR a1, oI 2] [(.int 2), (.ref po)])) rfl rfl (hb hby own_d10_5) _ ?_
    refine XS.iconst X2.here hx rfl (hb hby own_d10_6) ?_
    refine XS.icmpNo X2.here hx rfl (hb hby own_d10_7) rfl (teq (by decide : ((-1 : Int32) = (-1 : Int32)))).2 ?_
    refine XS.dconst0 X2.here hx rfl (hb hby own_d10_10) (v := (0 : UInt64)) (by decide +kernel) ?_
    refine XS.goto X2.here hx rfl (pc0 := 11) (pc' := 25) rfl (hb hby own_d10_11) (by decide) (by decide) ?_
    exact k
  clear R3
  subst hAA
  obtain ⟨fs, hr, hrun, hended, hW, hsame⟩ := X2.leave (v := some (.double 0)) (fun h => by rw [Bd.returns] at h; cases h)
  refine ⟨_, _, R5 _ ?_, hrun, hended, _, _, rfl, ?_, ⟨_, rfl⟩, hW, hsame.mono (by decide) (by decide)⟩
  · exact retOut X2 hx Bd.returns rfl (Or.inr (Or.inr (Or.inl ⟨rfl, rfl, _, rfl⟩))) (hb hby own_d10_25) hr
  · show Q_rmV2n Z a1 po bp ka kb qa qb qc x0 x1 h0 n0 _ T2.heap _
    rw [e2]
    exact ⟨rfl, N0, rfl⟩
theorem own_ef_rmV20 (m : MethodId) (x0 : Addr) (x1 : Int32) : entryFrame m #[(.ref x0), (.int x1)] 2 = mkF m 0 #[oR x0, oI x1] [] := by first | (simp [entryFrame, mkF, argsToLocals, Value.category]; done) | rfl
def Q_rmV20 (Z : State) (a1 po bp : Addr) (ka kb : ClassId) (qa qb qc : Int32) (x0 x1 : UInt64) (h0 : Heap) (n0 : Nat) (v : Option Value) (h : Heap) (L : List Loc) : Prop := v = some (.double x0) ∧ Fr n0 L ∧ h = h0
set_option maxRecDepth 65536 in
set_option maxHeartbeats 40000000 in
theorem rmV20 (l : Launch) (Z : State) (a0 : Array Value) (hw : ∀ d ∈ tables_1, d.before a0 Z = true) (ws : List Jvm.Cond) (a1 po bp : Addr) (ka kb : ClassId) (qa qb qc : Int32) (x0 x1 : UInt64) (h0 : Heap) (n0 : Nat) (Z0 : n0 ≤ h0.size) (F_a1_position : oF Z h0 a1 "position" "[I" (.ref po)) (F_a1_primal : oF Z h0 a1 "primal" "[D" (.ref bp)) (V_po : Arv Z h0 po ka .int (16 : Int32) (oZ (.int qa) (.int qb) (.int 0)) (.int 0)) (V_bp : Arv Z h0 bp kb .double (2 : Int32) [(.double x0), (.double x1)] (.double 0)) :
    MetFree l (oN "value" "(I)D") (head1 (Jvm.Cond.code (oN "value" "(I)D") prog_82_method_7_code 2 (some .double) :: ws) ({ frames := 0, cells := 0, slots := 0, locals := 0 } : Room)) (fun a U => a = #[(.ref a1), (.int 2)] ∧ Z.Warmed39 U.vm ∧ U.heap = h0) (fun _ _ _ _ _ => True) (fun _ U o U' => ∃ v L, o = .returned v ∧ Q_rmV20 Z a1 po bp ka kb qa qb qc x0 x1 h0 n0 v U'.heap L ∧ FrameEnd U o U' L ({ frames := 0, cells := 0, slots := 0, locals := 0 } : Room).cells ({ frames := 0, cells := 0, slots := 0, locals := 0 } : Room).slots) := by
  refine MetFree.of_bodySF (plainFor_of_name own_pn0) hisR ?_
  intro p e s m args below meth c s₁ Bd hml0 hP hK
  obtain ⟨rfl, hZ, hh⟩ := hP
  have hx := Bd.exec
  have hby := Bd.bytes
  have hml : c.maxLocals = 2 := hml0
  have hown : s.vm.findClass "com/example/trunkwright/trunkwright/traffic/RevisedSimplex" = some m.cls := findClass_of_methodNamed Bd.named
  have hnm := (name_of_methodNamed Bd.named Bd.method).1
  have X0 : Stand p l e ({ frames := 0, cells := 0, slots := 0, locals := 0 } : Room) s m #[(.ref a1), (.int 2)] below meth c s₁ [] 0 0 := Stand.of_body Bd
  have e0 : s₁.heap = h0 := by rw [← hh, Bd.state]; rfl
  have N0 := Fr.nil n0
  have R0 : ∀ t, oG p e below s₁ m 0 #[oR a1, oI 2] [] t → Steps p.tables e below (s₁.setTop (entryFrame m #[(.ref a1), (.int 2)] 2)) t := fun t k => castTop (own_ef_rmV20 m a1 (2 : Int32)) k
  obtain ⟨AA, hAA⟩ : ∃ z, z = (s₁.setTop (entryFrame m #[(.ref a1), (.int 2)] 2)) := ⟨_, rfl⟩
  rw [← hAA] at R0
  have R1 : ∀ t, oG p e below s₁ m 1 #[oR a1, oI 2] [(.ref a1)] t → Steps p.tables e below AA t := by
    intro t k
    refine R0 t ?_
    refine XS.aloadN X0.here hx rfl (hb hby own_d10_0) rfl rfl ?_
    exact k
  obtain ⟨T2, X2, e2, st2⟩ := getF X0 hx hZ hown (host := "") (Or.inl (oW hw 22 rfl)) Via.refl e0 F_a1_position (g := (mkF m 1 #[oR a1, oI 2] [(.ref a1)])) rfl rfl (hb hby own_d10_1)
  have R2 := fun t k => R1 t (st2 t k)
  clear R1 st2
  have R3 : ∀ t, oG p e below T2 m 5 #[oR a1, oI 2] [(.int 2), (.ref po)] t → Steps p.tables e below AA t := by
    intro t k
    refine R2 t ?_
    refine XS.iloadN X2.here hx rfl (hb hby own_d10_4) rfl ?_
    exact k
  clear R2
  obtain ⟨cl4, Ar4, q4, S4, N4', H4, G4⟩ := id V_po
  have hin4_2 : ¬ ((2 : Int32) < 0 ∨ cl4.slots.size ≤ ((2 : Int32)).toNatClampNeg) := inb_of S4 ⟨by decide, by decide⟩
  have hat4_2 : cl4.slots[((2 : Int32)).toNatClampNeg]? = some (.int 0) := H4.at hin4_2 rfl
  have R5 : ∀ t, oG p e below T2 m 15 #[oR a1, oI 2] [(.ref a1)] t → Steps p.tables e below AA t := by
    intro t k
    refine R3 t ?_
    refine X2.iaload hx (j := (2 : Int32)) (v := (.int 0)) (by rw [e2]; exact Ar4.1) (State.isArrayOf_alike hZ.alike Ar4.2.1) Ar4.2.2 hin4_2 hat4_2 (g := (mkF m 5 #[oR a1, oI 2] [(.int 2), (.ref po)])) rfl rfl (hb hby own_d10_5) _ ?_
    refine XS.iconst X2.here hx rfl (hb hby own_d10_6) ?_
    refine XS.icmpYes X2.here hx rfl (pc0 := 7) (pc' := 14) rfl (hb hby own_d10_7) rfl (feq (by decide : ¬ ((0 : Int32) = (-1 : Int32)))).2 (by decide) (by decide) ?_
    refine XS.aloadN X2.here hx rfl (hb hby own_d10_14) rfl rfl ?_
    exact k
  clear R3
  obtain ⟨T6, X6, e6, st6⟩ := getF X2 hx hZ hown (host := "") (Or.inl (oW hw 76 rfl)) Via.refl e2 F_a1_primal (g := (mkF m 15 #[oR a1, oI 2] [(.ref a1)])) rfl rfl (hb hby own_d10_15)
  have R6 := fun t k => R5 t (st6 t k)
  clear R5 st6 X2 e2
  have R7 : ∀ t, oG p e below T6 m 19 #[oR a1, oI 2] [(.ref a1), (.ref bp)] t → Steps p.tables e below AA t := by
    intro t k
    refine R6 t ?_
    refine XS.aloadN X6.here hx rfl (hb hby own_d10_18) rfl rfl ?_
    exact k
  clear R6
  obtain ⟨T8, X8, e8, st8⟩ := getF X6 hx hZ hown (host := "") (Or.inl (oW hw 22 rfl)) Via.refl e6 F_a1_position (g := (mkF m 19 #[oR a1, oI 2] [(.ref a1), (.ref bp)])) rfl rfl (hb hby own_d10_19)
  have R8 := fun t k => R7 t (st8 t k)
  clear R7 st8 X6 e6
  have R9 : ∀ t, oG p e below T8 m 24 #[oR a1, oI 2] [(.int 0), (.ref bp)] t → Steps p.tables e below AA t := by
    intro t k
    refine R8 t ?_
    refine XS.iloadN X8.here hx rfl (hb hby own_d10_22) rfl ?_
    refine X8.iaload hx (j := (2 : Int32)) (v := (.int 0)) (by rw [e8]; exact Ar4.1) (State.isArrayOf_alike hZ.alike Ar4.2.1) Ar4.2.2 hin4_2 hat4_2 (g := (mkF m 23 #[oR a1, oI 2] [(.int 2), (.ref po), (.ref bp)])) rfl rfl (hb hby own_d10_23) _ ?_
    exact k
  clear R8
  obtain ⟨cl10, Ar10, q10, S10, N10', H10, G10⟩ := id V_bp
  have hin10_0 : ¬ ((0 : Int32) < 0 ∨ cl10.slots.size ≤ ((0 : Int32)).toNatClampNeg) := inb_of S10 ⟨by decide, by decide⟩
  have hat10_0 : cl10.slots[((0 : Int32)).toNatClampNeg]? = some (.double x0) := H10.at hin10_0 rfl
  have R11 : ∀ t, oG p e below T8 m 25 #[oR a1, oI 2] [(.double x0)] t → Steps p.tables e below AA t := by
    intro t k
    refine R9 t ?_
    refine X8.daload hx (j := (0 : Int32)) (v := (.double x0)) (by rw [e8]; exact Ar10.1) (State.isArrayOf_alike hZ.alike Ar10.2.1) Ar10.2.2 hin10_0 hat10_0 (g := (mkF m 24 #[oR a1, oI 2] [(.int 0), (.ref bp)])) rfl rfl (hb hby own_d10_24) _ ?_
    exact k
  clear R9
  subst hAA
  obtain ⟨fs, hr, hrun, hended, hW, hsame⟩ := X8.leave (v := some (.double x0)) (fun h => by rw [Bd.returns] at h; cases h)
  refine ⟨_, _, R11 _ ?_, hrun, hended, _, _, rfl, ?_, ⟨_, rfl⟩, hW, hsame.mono (by decide) (by decide)⟩
  · exact retOut X8 hx Bd.returns rfl (Or.inr (Or.inr (Or.inl ⟨rfl, rfl, _, rfl⟩))) (hb hby own_d10_25) hr
  · show Q_rmV20 Z a1 po bp ka kb qa qb qc x0 x1 h0 n0 _ T8.heap _
    rw [e8]
    exact ⟨rfl, N0, rfl⟩
theorem own_ef_rmV21 (m : MethodId) (x0 : Addr) (x1 : Int32) : entryFrame m #[(.ref x0), (.int x1)] 2 = mkF m 0 #[oR x0, oI x1] [] := by first | (simp [entryFrame, mkF, argsToLocals, Value.category]; done) | rfl
def Q_rmV21 (Z : State) (a1 po bp : Addr) (ka kb : ClassId) (qa qb qc : Int32) (x0 x1 : UInt64) (h0 : Heap) (n0 : Nat) (v : Option Value) (h : Heap) (L : List Loc) : Prop := v = some (.double x1) ∧ Fr n0 L ∧ h = h0
set_option maxRecDepth 65536 in
set_option maxHeartbeats 40000000 in
theorem rmV21 (l : Launch) (Z : State) (a0 : Array Value) (hw : ∀ d ∈ tables_1, d.before a0 Z = true) (ws : List Jvm.Cond) (a1 po bp : Addr) (ka kb : ClassId) (qa qb qc : Int32) (x0 x1 : UInt64) (h0 : Heap) (n0 : Nat) (Z0 : n0 ≤ h0.size) (F_a1_position : oF Z h0 a1 "position" "[I" (.ref po)) (F_a1_primal : oF Z h0 a1 "primal" "[D" (.ref bp)) (V_po : Arv Z h0 po ka .int (16 : Int32) (oZ (.int qa) (.int qb) (.int 1)) (.int 0)) (V_bp : Arv Z h0 bp kb .double (2 : Int32) [(.double x0), (.double x1)] (.double 0)) :
    MetFree l (oN "value" "(I)D") (head1 (Jvm.Cond.code (oN "value" "(I)D") prog_82_method_7_code 2 (some .double) :: ws) ({ frames := 0, cells := 0, slots := 0, locals := 0 } : Room)) (fun a U => a = #[(.ref a1), (.int 2)] ∧ Z.Warmed39 U.vm ∧ U.heap = h0) (fun _ _ _ _ _ => True) (fun _ U o U' => ∃ v L, o = .returned v ∧ Q_rmV21 Z a1 po bp ka kb qa qb qc x0 x1 h0 n0 v U'.heap L ∧ FrameEnd U o U' L ({ frames := 0, cells := 0, slots := 0, locals := 0 } : Room).cells ({ frames := 0, cells := 0, slots := 0, locals := 0 } : Room).slots) := by
  refine MetFree.of_bodySF (plainFor_of_name own_pn0) hisR ?_
  intro p e s m args below meth c s₁ Bd hml0 hP hK
  obtain ⟨rfl, hZ, hh⟩ := hP
  have hx := Bd.exec
  have hby := Bd.bytes
  have hml : c.maxLocals = 2 := hml0
  have hown : s.vm.findClass "com/example/trunkwright/trunkwright/traffic/RevisedSimplex" = some m.cls := findClass_of_methodNamed Bd.named
  have hnm := (name_of_methodNamed Bd.named Bd.method).1
  have X0 : Stand p l e ({ frames := 0, cells := 0, slots := 0, locals := 0 } : Room) s m #[(.ref a1), (.int 2)] below meth c s₁ [] 0 0 := Stand.of_body Bd
  have e0 : s₁.heap = h0 := by rw [← hh, Bd.state]; rfl
  have N0 := Fr.nil n0
  have R0 : ∀ t, oG p e below s₁ m 0 #[oR a1, oI 2] [] t → Steps p.tables e below (s₁.setTop (entryFrame m #[(.ref a1), (.int 2)] 2)) t := fun t k => castTop (own_ef_rmV21 m a1 (2 : Int32)) k
  obtain ⟨AA, hAA⟩ : ∃ z, z = (s₁.setTop (entryFrame m #[(.ref a1), (.int 2)] 2)) := ⟨_, rfl⟩
  rw [← hAA] at R0
  have R1 : ∀ t, oG p e below s₁ m 1 #[oR a1, oI 2] [(.ref a1)] t → Steps p.tables e below AA t := by
    intro t k
    refine R0 t ?_
    refine XS.aloadN X0.here hx rfl (hb hby own_d10_0) rfl rfl ?_
    exact k
  obtain ⟨T2, X2, e2, st2⟩ := getF X0 hx hZ hown (host := "") (Or.inl (oW hw 22 rfl)) Via.refl e0 F_a1_position (g := (mkF m 1 #[oR a1, oI 2] [(.ref a1)])) rfl rfl (hb hby own_d10_1)
  have R2 := fun t k => R1 t (st2 t k)
  clear R1 st2
  have R3 : ∀ t, oG p e below T2 m 5 #[oR a1, oI 2] [(.int 2), (.ref po)] t → Steps p.tables e below AA t := by
    intro t k
    refine R2 t ?_
    refine XS.iloadN X2.here hx rfl (hb hby own_d10_4) rfl ?_
    exact k
  clear R2
  obtain ⟨cl4, Ar4, q4, S4, N4', H4, G4⟩ := id V_po
  have hin4_2 : ¬ ((2 : Int32) < 0 ∨ cl4.slots.size ≤ ((2 : Int32)).toNatClampNeg) := inb_of S4 ⟨by decide, by decide⟩
  have hat4_2 : cl4.slots[((2 : Int32)).toNatClampNeg]? = some (.int 1) := H4.at hin4_2 rfl
  have R5 : ∀ t, oG p e below T2 m 15 #[oR a1, oI 2] [(.ref a1)] t → Steps p.tables e below AA t := by
    intro t k
    refine R3 t ?_
    refine X2.iaload hx (j := (2 : Int32)) (v := (.int 1)) (by rw [e2]; exact Ar4.1) (State.isArrayOf_alike hZ.alike Ar4.2.1) Ar4.2.2 hin4_2 hat4_2 (g := (mkF m 5 #[oR a1, oI 2] [(.int 2), (.ref po)])) rfl rfl (hb hby own_d10_5) _ ?_
    refine XS.iconst X2.here hx rfl (hb hby own_d10_6) ?_
    refine XS.icmpYes X2.here hx rfl (pc0 := 7) (pc' := 14) rfl (hb hby own_d10_7) rfl (feq (by decide : ¬ ((1 : Int32) = (-1 : Int32)))).2 (by decide) (by decide) ?_
    refine XS.aloadN X2.here hx rfl (hb hby own_d10_14) rfl rfl ?_
    exact k
  clear R3
  obtain ⟨T6, X6, e6, st6⟩ := getF X2 hx hZ hown (host := "") (Or.inl (oW hw 76 rfl)) Via.refl e2 F_a1_primal (g := (mkF m 15 #[oR a1, oI 2] [(.ref a1)])) rfl rfl (hb hby own_d10_15)
  have R6 := fun t k => R5 t (st6 t k)
  clear R5 st6 X2 e2
  have R7 : ∀ t, oG p e below T6 m 19 #[oR a1, oI 2] [(.ref a1), (.ref bp)] t → Steps p.tables e below AA t := by
    intro t k
    refine R6 t ?_
    refine XS.aloadN X6.here hx rfl (hb hby own_d10_18) rfl rfl ?_
    exact k
  clear R6
  obtain ⟨T8, X8, e8, st8⟩ := getF X6 hx hZ hown (host := "") (Or.inl (oW hw 22 rfl)) Via.refl e6 F_a1_position (g := (mkF m 19 #[oR a1, oI 2] [(.ref a1), (.ref bp)])) rfl rfl (hb hby own_d10_19)
  have R8 := fun t k => R7 t (st8 t k)
  clear R7 st8 X6 e6
  have R9 : ∀ t, oG p e below T8 m 24 #[oR a1, oI 2] [(.int 1), (.ref bp)] t → Steps p.tables e below AA t := by
    intro t k
    refine R8 t ?_
    refine XS.iloadN X8.here hx rfl (hb hby own_d10_22) rfl ?_
    refine X8.iaload hx (j := (2 : Int32)) (v := (.int 1)) (by rw [e8]; exact Ar4.1) (State.isArrayOf_alike hZ.alike Ar4.2.1) Ar4.2.2 hin4_2 hat4_2 (g := (mkF m 23 #[oR a1, oI 2] [(.int 2), (.ref po), (.ref bp)])) rfl rfl (hb hby own_d10_23) _ ?_
    exact k
  clear R8
  obtain ⟨cl10, Ar10, q10, S10, N10', H10, G10⟩ := id V_bp
  have hin10_1 : ¬ ((1 : Int32) < 0 ∨ cl10.slots.size ≤ ((1 : Int32)).toNatClampNeg) := inb_of S10 ⟨by decide, by decide⟩
  have hat10_1 : cl10.slots[((1 : Int32)).toNatClampNeg]? = some (.double x1) := H10.at hin10_1 rfl
  have R11 : ∀ t, oG p e below T8 m 25 #[oR a1, oI 2] [(.double x1)] t → Steps p.tables e below AA t := by
    intro t k
    refine R9 t ?_
    refine X8.daload hx (j := (1 : Int32)) (v := (.double x1)) (by rw [e8]; exact Ar10.1) (State.isArrayOf_alike hZ.alike Ar10.2.1) Ar10.2.2 hin10_1 hat10_1 (g := (mkF m 24 #[oR a1, oI 2] [(.int 1), (.ref bp)])) rfl rfl (hb hby own_d10_24) _ ?_
    exact k
  clear R9
  subst hAA
  obtain ⟨fs, hr, hrun, hended, hW, hsame⟩ := X8.leave (v := some (.double x1)) (fun h => by rw [Bd.returns] at h; cases h)
  refine ⟨_, _, R11 _ ?_, hrun, hended, _, _, rfl, ?_, ⟨_, rfl⟩, hW, hsame.mono (by decide) (by decide)⟩
  · exact retOut X8 hx Bd.returns rfl (Or.inr (Or.inr (Or.inl ⟨rfl, rfl, _, rfl⟩))) (hb hby own_d10_25) hr
  · show Q_rmV21 Z a1 po bp ka kb qa qb qc x0 x1 h0 n0 _ T8.heap _
    rw [e8]
    exact ⟨rfl, N0, rfl⟩
theorem own_ef_rmAd0 (m : MethodId) (x0 : Addr) (x1 : UInt64) (x2 : Addr) (x3 : Addr) : entryFrame m #[(.ref x0), (.double x1), (.ref x2), (.ref x3)] 6 = mkF m 0 #[oR x0, oD x1, .second, oR x2, oR x3, .unset] [] := by first | (simp [entryFrame, mkF, argsToLocals, Value.category]; done) | rfl
theorem own_d3_0 : decode prog_82_method_2_code 0 = .ok (.aload_n 0, 1) := by decide +kernel
theorem own_d3_1 : decode prog_82_method_2_code 1 = .ok (.getfield 38, 3) := by decide +kernel
theorem own_d3_4 : decode prog_82_method_2_code 4 = .ok (.aload_n 0, 1) := by decide +kernel
theorem own_d3_5 : decode prog_82_method_2_code 5 = .ok (.getfield 7, 3) := by decide +kernel
theorem own_d3_8 : decode prog_82_method_2_code 8 = .ok (.arraylength, 1) := by decide +kernel
theorem own_d3_9 : decode prog_82_method_2_code 9 = .ok (.if_icmp .ne 69, 3) := by decide +kernel
theorem own_d3_78 : decode prog_82_method_2_code 78 = .ok (.aload_n 0, 1) := by decide +kernel
theorem own_d3_79 : decode prog_82_method_2_code 79 = .ok (.getfield 7, 3) := by decide +kernel
theorem own_d3_82 : decode prog_82_method_2_code 82 = .ok (.aload_n 0, 1) := by decide +kernel
theorem own_d3_83 : decode prog_82_method_2_code 83 = .ok (.getfield 38, 3) := by decide +kernel
theorem own_d3_86 : decode prog_82_method_2_code 86 = .ok (.dload_n 1, 1) := by decide +kernel
theorem own_d3_87 : decode prog_82_method_2_code 87 = .ok (.dastore, 1) := by decide +kernel
theorem own_d3_88 : decode prog_82_method_2_code 88 = .ok (.aload_n 0, 1) := by decide +kernel
theorem own_d3_89 : decode prog_82_method_2_code 89 = .ok (.getfield 15, 3) := by decide +kernel
theorem own_d3_92 : decode prog_82_method_2_code 92 = .ok (.aload_n 0, 1) := by decide +kernel
theorem own_d3_93 : decode prog_82_method_2_code 93 = .ok (.getfield 38, 3) := by decide +kernel
theorem own_d3_96 : decode prog_82_method_2_code 96 = .ok (.aload_n 3, 1) := by decide +kernel
theorem own_d3_97 : decode prog_82_method_2_code 97 = .ok (.invokevirtual 55, 3) := by decide +kernel
theorem own_d3_100 : decode prog_82_method_2_code 100 = .ok (.checkcast 13, 3) := by decide +kernel
theorem own_d3_103 : decode prog_82_method_2_code 103 = .ok (.aastore, 1) := by decide +kernel
theorem own_d3_104 : decode prog_82_method_2_code 104 = .ok (.aload_n 0, 1) := by decide +kernel
theorem own_d3_105 : decode prog_82_method_2_code 105 = .ok (.getfield 20, 3) := by decide +kernel
theorem own_d3_108 : decode prog_82_method_2_code 108 = .ok (.aload_n 0, 1) := by decide +kernel
theorem own_d3_109 : decode prog_82_method_2_code 109 = .ok (.getfield 38, 3) := by decide +kernel
theorem own_d3_112 : decode prog_82_method_2_code 112 = .ok (.aload 4, 2) := by decide +kernel
theorem own_d3_114 : decode prog_82_method_2_code 114 = .ok (.invokevirtual 31, 3) := by decide +kernel
theorem own_d3_117 : decode prog_82_method_2_code 117 = .ok (.checkcast 19, 3) := by decide +kernel
theorem own_d3_120 : decode prog_82_method_2_code 120 = .ok (.aastore, 1) := by decide +kernel
theorem own_d3_121 : decode prog_82_method_2_code 121 = .ok (.aload_n 0, 1) := by decide +kernel
theorem own_d3_122 : decode prog_82_method_2_code 122 = .ok (.getfield 24, 3) := by decide +kernel
theorem own_d3_125 : decode prog_82_method_2_code 125 = .ok (.aload_n 0, 1) := by decide +kernel
theorem own_d3_126 : decode prog_82_method_2_code 126 = .ok (.getfield 38, 3) := by decide +kernel
theorem own_d3_129 : decode prog_82_method_2_code 129 = .ok (.iconst (-1), 1) := by decide +kernel
theorem own_d3_130 : decode prog_82_method_2_code 130 = .ok (.iastore, 1) := by decide +kernel
theorem own_d3_131 : decode prog_82_method_2_code 131 = .ok (.aload_n 0, 1) := by decide +kernel
theorem own_d3_132 : decode prog_82_method_2_code 132 = .ok (.dup, 1) := by decide +kernel
theorem own_d3_133 : decode prog_82_method_2_code 133 = .ok (.getfield 38, 3) := by decide +kernel
theorem own_d3_136 : decode prog_82_method_2_code 136 = .ok (.dup_x1, 1) := by decide +kernel
theorem own_d3_137 : decode prog_82_method_2_code 137 = .ok (.iconst 1, 1) := by decide +kernel
theorem own_d3_138 : decode prog_82_method_2_code 138 = .ok (.iadd, 1) := by decide +kernel
theorem own_d3_139 : decode prog_82_method_2_code 139 = .ok (.putfield 38, 3) := by decide +kernel
theorem own_d3_142 : decode prog_82_method_2_code 142 = .ok (.ireturn, 1) := by decide +kernel
def Q_rmAd0 (Z : State) (a1 a3 a4 co er ev po rh  : Addr) (ka kb kc kd ke kf : ClassId) (rw : Int32) (av : UInt64) (h0 : Heap) (n0 : Nat) (v : Option Value) (h : Heap) (L : List Loc) : Prop := v = some (.int 0) ∧ Fr n0 L ∧ ∃ (nr nv : Addr), Keep h0 h [a1, co, er, ev, po] ∧ h0.size ≤ nr ∧ h0.size ≤ nv ∧ nr ≠ nv ∧ oF Z h a1 "rows" "I" (.int 2) ∧ oF Z h a1 "costs" "[D" (.ref co) ∧ oF Z h a1 "entryRows" "[[I" (.ref er) ∧ oF Z h a1 "entryValues" "[[D" (.ref ev) ∧ oF Z h a1 "position" "[I" (.ref po) ∧ oF Z h a1 "rhs" "[D" (.ref rh) ∧ oF Z h a1 "basis" "[I" .null ∧ oF Z h a1 "start" "[I" .null ∧ oF Z h a1 "inverse" "[[D" .null ∧ oF Z h a1 "primal" "[D" .null ∧ oF Z h a1 "pivotsSinceRefactor" "I" (.int 0) ∧ oF Z h a1 "infeasibility" "D" (.double 0) ∧ oF Z h a1 "columns" "I" (.int 1) ∧ Arv Z h co ka .double (16 : Int32) (oC (.double 0) (.double 0) (.double 0)) (.double 0) ∧ Arv Z h er kb (.array .int) (16 : Int32) (oU (.ref nr) .null .null) .null ∧ Arv Z h ev kc (.array .double) (16 : Int32) (oU (.ref nv) .null .null) .null ∧ Arv Z h po kd .int (16 : Int32) (oZ (.int (-1)) (.int 0) (.int 0)) (.int 0) ∧ Arv Z h nr ke .int (1 : Int32) [(.int rw)] (.int 0) ∧ Arv Z h nv kf .double (1 : Int32) [(.double av)] (.double 0)
set_option maxRecDepth 65536 in
set_option maxHeartbeats 40000000 in
theorem rmAd0 (l : Launch) (Z : State) (a0 : Array Value) (hw : ∀ d ∈ tables_1, d.before a0 Z = true) (ws : List Jvm.Cond) (a1 a3 a4 co er ev po rh  : Addr) (ka kb kc kd ke kf : ClassId) (rw : Int32) (av : UInt64) (h0 : Heap) (n0 : Nat) (Z0 : n0 ≤ h0.size) (F_a1_rows : oF Z h0 a1 "rows" "I" (.int 2)) (F_a1_costs : oF Z h0 a1 "costs" "[D" (.ref co)) (F_a1_entryRows : oF Z h0 a1 "entryRows" "[[I" (.ref er)) (F_a1_entryValues : oF Z h0 a1 "entryValues" "[[D" (.ref ev)) (F_a1_position : oF Z h0 a1 "position" "[I" (.ref po)) (F_a1_rhs : oF Z h0 a1 "rhs" "[D" (.ref rh)) (F_a1_basis : oF Z h0 a1 "basis" "[I" .null) (F_a1_start : oF Z h0 a1 "start" "[I" .null) (F_a1_inverse : oF Z h0 a1 "inverse" "[[D" .null) (F_a1_primal : oF Z h0 a1 "primal" "[D" .null) (F_a1_pivotsSinceRefactor : oF Z h0 a1 "pivotsSinceRefactor" "I" (.int 0)) (F_a1_infeasibility : oF Z h0 a1 "infeasibility" "D" (.double 0)) (F_a1_columns : oF Z h0 a1 "columns" "I" (.int 0)) (E_a1 : Exa Z h0 a1 "com/example/trunkwright/trunkwright/traffic/RevisedSimplex") (V_co : Arv Z h0 co ka .double (16 : Int32) (oC (.double 0) (.double 0) (.double 0)) (.double 0)) (V_er : Arv Z h0 er kb (.array .int) (16 : Int32) (oU .null .null .null) .null) (V_ev : Arv Z h0 ev kc (.array .double) (16 : Int32) (oU .null .null .null) .null) (V_po : Arv Z h0 po kd .int (16 : Int32) (oZ (.int 0) (.int 0) (.int 0)) (.int 0)) (V_a3 : Arv Z h0 a3 ke .int (1 : Int32) [(.int rw)] (.int 0)) (E_a3 : Exa Z h0 a3 "[I") (V_a4 : Arv Z h0 a4 kf .double (1 : Int32) [(.double av)] (.double 0)) (E_a4 : Exa Z h0 a4 "[D") (Oer : OvrA Z kb .int "[I") (Oev : OvrA Z kc .double "[D") (g_a1 : n0 ≤ a1) (g_co : n0 ≤ co) (g_er : n0 ≤ er) (g_ev : n0 ≤ ev) (g_po : n0 ≤ po) (ne_co_a1 : co ≠ a1) (ne_er_a1 : er ≠ a1) (ne_er_co : er ≠ co) (ne_ev_a1 : ev ≠ a1) (ne_ev_co : ev ≠ co) (ne_ev_er : ev ≠ er) (ne_po_a1 : po ≠ a1) (ne_po_co : po ≠ co) (ne_po_er : po ≠ er) (ne_po_ev : po ≠ ev) (ne_a3_a1 : a3 ≠ a1) (ne_a3_co : a3 ≠ co) (ne_a3_er : a3 ≠ er) (ne_a3_ev : a3 ≠ ev) (ne_a3_po : a3 ≠ po) (ne_a4_a1 : a4 ≠ a1) (ne_a4_co : a4 ≠ co) (ne_a4_er : a4 ≠ er) (ne_a4_ev : a4 ≠ ev) (ne_a4_po : a4 ≠ po) :
    MetFree l (oN "add" "(D[I[D)I") (head1 (Jvm.Cond.code (oN "add" "(D[I[D)I") prog_82_method_2_code 6 (some .int) :: ws) ({ frames := 1, cells := 2, slots := 2, locals := 16 } : Room)) (fun a U => a = #[(.ref a1), (.double 0), (.ref a3), (.ref a4)] ∧ Z.Warmed39 U.vm ∧ U.heap = h0) (fun _ _ _ _ _ => True) (fun _ U o U' => ∃ v L, o = .returned v ∧ Q_rmAd0 Z a1 a3 a4 co er ev po rh ka kb kc kd ke kf rw av h0 n0 v U'.heap L ∧ FrameEnd U o U' L ({ frames := 1, cells := 2, slots := 2, locals := 16 } : Room).cells ({ frames := 1, cells := 2, slots := 2, locals := 16 } : Room).slots) := by
  refine MetFree.of_bodySF (plainFor_of_name own_pn0) hisR ?_
  intro p e s m args below meth c s₁ Bd hml0 hP hK
  obtain ⟨rfl, hZ, hh⟩ := hP
  have hx := Bd.exec
  have hby := Bd.bytes
  have hml : c.maxLocals = 6 := hml0
  have hown : s.vm.findClass "com/example/trunkwright/trunkwright/traffic/RevisedSimplex" = some m.cls := findClass_of_methodNamed Bd.named
  have hnm := (name_of_methodNamed Bd.named Bd.method).1
  have X0 : Stand p l e ({ frames := 1, cells := 2, slots := 2, locals := 16 } : Room) s m #[(.ref a1), (.double 0), (.ref a3), (.ref a4)] below meth c s₁ [] 0 0 := Stand.of_body Bd
  have e0 : s₁.heap = h0 := by rw [← hh, Bd.state]; rfl
  have N0 := Fr.nil n0
  have R0 : ∀ t, oG p e below s₁ m 0 #[oR a1, oD 0, .second, oR a3, oR a4, .unset] [] t → Steps p.tables e below (s₁.setTop (entryFrame m #[(.ref a1), (.double 0), (.ref a3), (.ref a4)] 6)) t := fun t k => castTop (own_ef_rmAd0 m a1 (0 : UInt64) a3 a4) k
  obtain ⟨AA, hAA⟩ : ∃ z, z = (s₁.setTop (entryFrame m #[(.ref a1), (.double 0), (.ref a3), (.ref a4)] 6)) := ⟨_, rfl⟩
  rw [← hAA] at R0
  have R1 : ∀ t, oG p e below s₁ m 1 #[oR a1, oD 0, .second, oR a3, oR a4, .unset] [(.ref a1)] t → Steps p.tables e below AA t := by
    intro t k
    refine R0 t ?_
    refine XS.aloadN X0.here hx rfl (hb hby own_d3_0) rfl rfl ?_
    exact k
  obtain ⟨T2, X2, e2, st2⟩ := getF X0 hx hZ hown (host := "") (Or.inl (oW hw 41 rfl)) Via.refl e0 F_a1_columns (g := (mkF m 1 #[oR a1, oD 0, .second, oR a3, oR a4, .unset] [(.ref a1)])) rfl rfl (hb hby own_d3_1)
  have R2 := fun t k => R1 t (st2 t k)
  clear R1 st2
  have R3 : ∀ t, oG p e below T2 m 5 #[oR a1, oD 0, .second, oR a3, oR a4, .unset] [(.ref a1), (.int 0)] t → Steps p.tables e below AA t := by
    intro t k
    refine R2 t ?_
    refine XS.aloadN X2.here hx rfl (hb hby own_d3_4) rfl rfl ?_
    exact k
  clear R2
  obtain ⟨T4, X4, e4, st4⟩ := getF X2 hx hZ hown (host := "") (Or.inl (oW hw 11 rfl)) Via.refl e2 F_a1_costs (g := (mkF m 5 #[oR a1, oD 0, .second, oR a3, oR a4, .unset] [(.ref a1), (.int 0)])) rfl rfl (hb hby own_d3_5)
  have R4 := fun t k => R3 t (st4 t k)
  clear R3 st4 X2 e2
  obtain ⟨cl5, Ar5, q5, S5, N5', H5, G5⟩ := id V_co
  have R6 : ∀ t, oG p e below T4 m 79 #[oR a1, oD 0, .second, oR a3, oR a4, .unset] [(.ref a1)] t → Steps p.tables e below AA t := by
    intro t k
    refine R4 t ?_
    refine X4.arraylength hx (by rw [e4]; exact Ar5.1) (State.isArrayOf_alike hZ.alike Ar5.2.1) (g := (mkF m 8 #[oR a1, oD 0, .second, oR a3, oR a4, .unset] [(.ref co), (.int 0)])) rfl rfl (hb hby own_d3_8) _ ?_
    rw [len_of S5 N5']
    refine XS.icmpYes X4.here hx rfl (pc0 := 9) (pc' := 78) rfl (hb hby own_d3_9) rfl (feq (by decide : ¬ ((0 : Int32) = (16 : Int32)))).2 (by decide) (by decide) ?_
    refine XS.aloadN X4.here hx rfl (hb hby own_d3_78) rfl rfl ?_
    exact k
  clear R4
  obtain ⟨T7, X7, e7, st7⟩ := getF X4 hx hZ hown (host := "") (Or.inl (oW hw 11 rfl)) Via.refl e4 F_a1_costs (g := (mkF m 79 #[oR a1, oD 0, .second, oR a3, oR a4, .unset] [(.ref a1)])) rfl rfl (hb hby own_d3_79)
  have R7 := fun t k => R6 t (st7 t k)
  clear R6 st7 X4 e4
  have R8 : ∀ t, oG p e below T7 m 83 #[oR a1, oD 0, .second, oR a3, oR a4, .unset] [(.ref a1), (.ref co)] t → Steps p.tables e below AA t := by
    intro t k
    refine R7 t ?_
    refine XS.aloadN X7.here hx rfl (hb hby own_d3_82) rfl rfl ?_
    exact k
  clear R7
  obtain ⟨T9, X9, e9, st9⟩ := getF X7 hx hZ hown (host := "") (Or.inl (oW hw 41 rfl)) Via.refl e7 F_a1_columns (g := (mkF m 83 #[oR a1, oD 0, .second, oR a3, oR a4, .unset] [(.ref a1), (.ref co)])) rfl rfl (hb hby own_d3_83)
  have R9 := fun t k => R8 t (st9 t k)
  clear R8 st9 X7 e7
  have R10 : ∀ t, oG p e below T9 m 87 #[oR a1, oD 0, .second, oR a3, oR a4, .unset] [(.double 0), (.int 0), (.ref co)] t → Steps p.tables e below AA t := by
    intro t k
    refine R9 t ?_
    refine XS.dloadN X9.here hx rfl (hb hby own_d3_86) rfl ?_
    exact k
  clear R9
  obtain ⟨cl11, Ar11, q11, S11, N11', H11, G11⟩ := id V_co
  have hin11 : ¬ ((0 : Int32) < 0 ∨ cl11.slots.size ≤ ((0 : Int32)).toNatClampNeg) := inb_of S11 ⟨by decide, by decide⟩
  obtain ⟨T12, h12, X12, e12, W12, st12⟩ := stD X9 hx hZ e9 Ar11 (j := (0 : Int32)) hin11 (g := (mkF m 87 #[oR a1, oD 0, .second, oR a3, oR a4, .unset] [(.double 0), (.int 0), (.ref co)])) rfl rfl (hb hby own_d3_87)
  have R12 := fun t k => R10 t (st12 t k)
  clear R10 st12 X9 e9
  have Z12 : n0 ≤ h12.size := Nat.le_trans Z0 (Keep.of_wr W12).1
  have K12 : Keep h0 h12 [a1, co, er, ev, po] := (Keep.refl h0 [a1, co, er, ev, po]).wr W12 (Or.inl (by simp))
  have N12 := Fr.snoc X12 N0 g_co
  have f13 : oF Z h12 a1 "rows" "I" (.int 2) := F_a1_rows.other W12 (Or.inl (Ne.symm ne_co_a1))
  have f14 : oF Z h12 a1 "costs" "[D" (.ref co) := F_a1_costs.other W12 (Or.inl (Ne.symm ne_co_a1))
  have f15 : oF Z h12 a1 "entryRows" "[[I" (.ref er) := F_a1_entryRows.other W12 (Or.inl (Ne.symm ne_co_a1))
  have f16 : oF Z h12 a1 "entryValues" "[[D" (.ref ev) := F_a1_entryValues.other W12 (Or.inl (Ne.symm ne_co_a1))
  have f17 : oF Z h12 a1 "position" "[I" (.ref po) := F_a1_position.other W12 (Or.inl (Ne.symm ne_co_a1))
  have f18 : oF Z h12 a1 "rhs" "[D" (.ref rh) := F_a1_rhs.other W12 (Or.inl (Ne.symm ne_co_a1))
  have f19 : oF Z h12 a1 "basis" "[I" .null := F_a1_basis.other W12 (Or.inl (Ne.symm ne_co_a1))
  have f20 : oF Z h12 a1 "start" "[I" .null := F_a1_start.other W12 (Or.inl (Ne.symm ne_co_a1))
  have f21 : oF Z h12 a1 "inverse" "[[D" .null := F_a1_inverse.other W12 (Or.inl (Ne.symm ne_co_a1))
  have f22 : oF Z h12 a1 "primal" "[D" .null := F_a1_primal.other W12 (Or.inl (Ne.symm ne_co_a1))
  have f23 : oF Z h12 a1 "pivotsSinceRefactor" "I" (.int 0) := F_a1_pivotsSinceRefactor.other W12 (Or.inl (Ne.symm ne_co_a1))
  have f24 : oF Z h12 a1 "infeasibility" "D" (.double 0) := F_a1_infeasibility.other W12 (Or.inl (Ne.symm ne_co_a1))
  have f25 : oF Z h12 a1 "columns" "I" (.int 0) := F_a1_columns.other W12 (Or.inl (Ne.symm ne_co_a1))
  have f26 : Exa Z h12 a1 "com/example/trunkwright/trunkwright/traffic/RevisedSimplex" := E_a1.wr W12
  have f27 : Arv Z h12 er kb (.array .int) (16 : Int32) (oU .null .null .null) .null := V_er.other W12 ne_er_co
  have f28 : Arv Z h12 ev kc (.array .double) (16 : Int32) (oU .null .null .null) .null := V_ev.other W12 ne_ev_co
  have f29 : Arv Z h12 po kd .int (16 : Int32) (oZ (.int 0) (.int 0) (.int 0)) (.int 0) := V_po.other W12 ne_po_co
  have f30 : Arv Z h12 a3 ke .int (1 : Int32) [(.int rw)] (.int 0) := V_a3.other W12 ne_a3_co
  have f31 : Exa Z h12 a3 "[I" := E_a3.wr W12
  have f32 : Arv Z h12 a4 kf .double (1 : Int32) [(.double av)] (.double 0) := V_a4.other W12 ne_a4_co
  have f33 : Exa Z h12 a4 "[D" := E_a4.wr W12
  have V12 : Arv Z h12 co ka .double (16 : Int32) (oC (.double 0) (.double 0) (.double 0)) (.double 0) := Arv.set Ar11 q11 S11 N11' H11 G11 rfl W12 0 rfl (Nat.le_of_ble_eq_true rfl)
  clear Ar11 q11 S11 N11' H11 G11 hin11 W12
  have R34 : ∀ t, oG p e below T12 m 89 #[oR a1, oD 0, .second, oR a3, oR a4, .unset] [(.ref a1)] t → Steps p.tables e below AA t := by
    intro t k
    refine R12 t ?_
    refine XS.aloadN X12.here hx rfl (hb hby own_d3_88) rfl rfl ?_
    exact k
  clear R12
  obtain ⟨T35, X35, e35, st35⟩ := getF X12 hx hZ hown (host := "") (Or.inl (oW hw 15 rfl)) Via.refl e12 f15 (g := (mkF m 89 #[oR a1, oD 0, .second, oR a3, oR a4, .unset] [(.ref a1)])) rfl rfl (hb hby own_d3_89)
  have R35 := fun t k => R34 t (st35 t k)
  clear R34 st35 X12 e12
  have R36 : ∀ t, oG p e below T35 m 93 #[oR a1, oD 0, .second, oR a3, oR a4, .unset] [(.ref a1), (.ref er)] t → Steps p.tables e below AA t := by
    intro t k
    refine R35 t ?_
    refine XS.aloadN X35.here hx rfl (hb hby own_d3_92) rfl rfl ?_
    exact k
  clear R35
  obtain ⟨T37, X37, e37, st37⟩ := getF X35 hx hZ hown (host := "") (Or.inl (oW hw 41 rfl)) Via.refl e35 f25 (g := (mkF m 93 #[oR a1, oD 0, .second, oR a3, oR a4, .unset] [(.ref a1), (.ref er)])) rfl rfl (hb hby own_d3_93)
  have R37 := fun t k => R36 t (st37 t k)
  clear R36 st37 X35 e35
  have R38 : ∀ t, oG p e below T37 m 97 #[oR a1, oD 0, .second, oR a3, oR a4, .unset] [(.ref a3), (.int 0), (.ref er)] t → Steps p.tables e below AA t := by
    intro t k
    refine R37 t ?_
    refine XS.aloadN X37.here hx rfl (hb hby own_d3_96) rfl rfl ?_
    exact k
  clear R37
  obtain ⟨T39, h39, X39, e39, E39, A39, B39, st39⟩ := cloneH X37 hx hZ (ad := "[I") hown (oW hw 43 rfl) (oW hw 44 rfl) (oW hw 31 rfl) (oW hw 29 rfl) (oW hw 45 rfl) (oW hw 46 rfl) e37 (Arv.arh f30) f31 (g := (mkF m 97 #[oR a1, oD 0, .second, oR a3, oR a4, .unset] [(.ref a3), (.int 0), (.ref er)])) rfl (by rw [hml]; rfl) rfl (hb hby own_d3_97) (by decide) (W := 2) (cap := 1) oL (by decide) (by decide) (by decide) (by decide)
  obtain ⟨b39, g39⟩ : ∃ z, z = h12.size := ⟨_, rfl⟩
  rw [← g39] at A39 B39 st39
  have R39 := fun t k => R38 t (st39 t k)
  clear R38 st39 X37 e37
  have ne_a1_b39 : a1 ≠ b39 := Nat.ne_of_lt (Nat.lt_of_lt_of_le f13.lt (Nat.le_of_eq g39.symm))
  have ne_a3_b39 : a3 ≠ b39 := Nat.ne_of_lt (Nat.lt_of_lt_of_le f30.lt (Nat.le_of_eq g39.symm))
  have ne_a4_b39 : a4 ≠ b39 := Nat.ne_of_lt (Nat.lt_of_lt_of_le f32.lt (Nat.le_of_eq g39.symm))
  have ne_co_b39 : co ≠ b39 := Nat.ne_of_lt (Nat.lt_of_lt_of_le V12.lt (Nat.le_of_eq g39.symm))
  have ne_er_b39 : er ≠ b39 := Nat.ne_of_lt (Nat.lt_of_lt_of_le f27.lt (Nat.le_of_eq g39.symm))
  have ne_ev_b39 : ev ≠ b39 := Nat.ne_of_lt (Nat.lt_of_lt_of_le f28.lt (Nat.le_of_eq g39.symm))
  have ne_po_b39 : po ≠ b39 := Nat.ne_of_lt (Nat.lt_of_lt_of_le f29.lt (Nat.le_of_eq g39.symm))
  have g_b39 : n0 ≤ b39 := Nat.le_trans Z12 (Nat.le_of_eq g39.symm)
  have sz_b39 : h0.size ≤ b39 := Nat.le_trans K12.1 (Nat.le_of_eq g39.symm)
  have Z39 : n0 ≤ h39.size := Nat.le_trans Z12 E39.1
  clear Z12
  have K39 : Keep h0 h39 [a1, co, er, ev, po] := K12.ext E39
  clear K12
  have f40 : oF Z h39 a1 "rows" "I" (.int 2) := f13.ext E39
  clear f13
  have f41 : oF Z h39 a1 "costs" "[D" (.ref co) := f14.ext E39
  clear f14
  have f42 : oF Z h39 a1 "entryRows" "[[I" (.ref er) := f15.ext E39
  clear f15
  have f43 : oF Z h39 a1 "entryValues" "[[D" (.ref ev) := f16.ext E39
  clear f16
  have f44 : oF Z h39 a1 "position" "[I" (.ref po) := f17.ext E39
  clear f17
  have f45 : oF Z h39 a1 "rhs" "[D" (.ref rh) := f18.ext E39
  clear f18
  have f46 : oF Z h39 a1 "basis" "[I" .null := f19.ext E39
  clear f19
  have f47 : oF Z h39 a1 "start" "[I" .null := f20.ext E39
  clear f20
  have f48 : oF Z h39 a1 "inverse" "[[D" .null := f21.ext E39
  clear f21
  have f49 : oF Z h39 a1 "primal" "[D" .null := f22.ext E39
  clear f22
  have f50 : oF Z h39 a1 "pivotsSinceRefactor" "I" (.int 0) := f23.ext E39
  clear f23
  have f51 : oF Z h39 a1 "infeasibility" "D" (.double 0) := f24.ext E39
  clear f24
  have f52 : oF Z h39 a1 "columns" "I" (.int 0) := f25.ext E39
  clear f25
  have f53 : Exa Z h39 a1 "com/example/trunkwright/trunkwright/traffic/RevisedSimplex" := f26.ext E39
  clear f26
  have f54 : Arv Z h39 er kb (.array .int) (16 : Int32) (oU .null .null .null) .null := f27.ext E39
  clear f27
  have f55 : Arv Z h39 ev kc (.array .double) (16 : Int32) (oU .null .null .null) .null := f28.ext E39
  clear f28
  have f56 : Arv Z h39 po kd .int (16 : Int32) (oZ (.int 0) (.int 0) (.int 0)) (.int 0) := f29.ext E39
  clear f29
  have f57 : Arv Z h39 a3 ke .int (1 : Int32) [(.int rw)] (.int 0) := f30.ext E39
  clear f30
  have f58 : Exa Z h39 a3 "[I" := f31.ext E39
  clear f31
  have f59 : Arv Z h39 a4 kf .double (1 : Int32) [(.double av)] (.double 0) := f32.ext E39
  clear f32
  have f60 : Exa Z h39 a4 "[D" := f33.ext E39
  clear f33
  have f61 : Arv Z h39 co ka .double (16 : Int32) (oC (.double 0) (.double 0) (.double 0)) (.double 0) := V12.ext E39
  clear V12
  clear E39
  have V39 : Arv Z h39 b39 ke .int (1 : Int32) [(.int rw)] (.int 0) := A39
  obtain ⟨T62, X62, e62, st62⟩ := castY X39 hx hZ hown (oW hw 13 rfl) e39 (Ins.self B39) (g := (mkF m 100 #[oR a1, oD 0, .second, oR a3, oR a4, .unset] [(.ref b39), (.int 0), (.ref er)])) rfl rfl (hb hby own_d3_100)
  have R62 := fun t k => R39 t (st62 t k)
  clear R39 st62 X39 e39
  obtain ⟨cl63, Ar63, q63, S63, N63', H63, G63⟩ := id f54
  have hin63 : ¬ ((0 : Int32) < 0 ∨ cl63.slots.size ≤ ((0 : Int32)).toNatClampNeg) := inb_of S63 ⟨by decide, by decide⟩
  obtain ⟨T64, h64, X64, e64, W64, st64⟩ := stR X62 hx hZ e62 Ar63 (j := (0 : Int32)) hin63 rfl (Sto.ofVA Ar63 q63 Oer (Ins.self B39)) (g := (mkF m 103 #[oR a1, oD 0, .second, oR a3, oR a4, .unset] [(.ref b39), (.int 0), (.ref er)])) rfl rfl (hb hby own_d3_103)
  have R64 := fun t k => R62 t (st64 t k)
  clear R62 st64 X62 e62
  have Z64 : n0 ≤ h64.size := Nat.le_trans Z39 (Keep.of_wr W64).1
  clear Z39
  have K64 : Keep h0 h64 [a1, co, er, ev, po] := K39.wr W64 (Or.inl (by simp))
  have N64 := Fr.snoc X64 N12 g_er
  clear K39
  clear N12
  have f65 : oF Z h64 a1 "rows" "I" (.int 2) := f40.other W64 (Or.inl (Ne.symm ne_er_a1))
  clear f40
  have f66 : oF Z h64 a1 "costs" "[D" (.ref co) := f41.other W64 (Or.inl (Ne.symm ne_er_a1))
  clear f41
  have f67 : oF Z h64 a1 "entryRows" "[[I" (.ref er) := f42.other W64 (Or.inl (Ne.symm ne_er_a1))
  clear f42
  have f68 : oF Z h64 a1 "entryValues" "[[D" (.ref ev) := f43.other W64 (Or.inl (Ne.symm ne_er_a1))
  clear f43
  have f69 : oF Z h64 a1 "position" "[I" (.ref po) := f44.other W64 (Or.inl (Ne.symm ne_er_a1))
  clear f44
  have f70 : oF Z h64 a1 "rhs" "[D" (.ref rh) := f45.other W64 (Or.inl (Ne.symm ne_er_a1))
  clear f45
  have f71 : oF Z h64 a1 "basis" "[I" .null := f46.other W64 (Or.inl (Ne.symm ne_er_a1))
  clear f46
  have f72 : oF Z h64 a1 "start" "[I" .null := f47.other W64 (Or.inl (Ne.symm ne_er_a1))
  clear f47
  have f73 : oF Z h64 a1 "inverse" "[[D" .null := f48.other W64 (Or.inl (Ne.symm ne_er_a1))
  clear f48
  have f74 : oF Z h64 a1 "primal" "[D" .null := f49.other W64 (Or.inl (Ne.symm ne_er_a1))
  clear f49
  have f75 : oF Z h64 a1 "pivotsSinceRefactor" "I" (.int 0) := f50.other W64 (Or.inl (Ne.symm ne_er_a1))
  clear f50
  have f76 : oF Z h64 a1 "infeasibility" "D" (.double 0) := f51.other W64 (Or.inl (Ne.symm ne_er_a1))
  clear f51
  have f77 : oF Z h64 a1 "columns" "I" (.int 0) := f52.other W64 (Or.inl (Ne.symm ne_er_a1))
  clear f52
  have f78 : Exa Z h64 a1 "com/example/trunkwright/trunkwright/traffic/RevisedSimplex" := f53.wr W64
  clear f53
  have f79 : Arv Z h64 ev kc (.array .double) (16 : Int32) (oU .null .null .null) .null := f55.other W64 ne_ev_er
  clear f55
  have f80 : Arv Z h64 po kd .int (16 : Int32) (oZ (.int 0) (.int 0) (.int 0)) (.int 0) := f56.other W64 ne_po_er
  clear f56
  have f81 : Arv Z h64 a4 kf .double (1 : Int32) [(.double av)] (.double 0) := f59.other W64 ne_a4_er
  clear f59
  have f82 : Exa Z h64 a4 "[D" := f60.wr W64
  clear f60
  have f83 : Arv Z h64 co ka .double (16 : Int32) (oC (.double 0) (.double 0) (.double 0)) (.double 0) := f61.other W64 (Ne.symm ne_er_co)
  clear f61
  have f84 : Exa Z h64 b39 "[I" := B39.wr W64
  have f85 : Arv Z h64 b39 ke .int (1 : Int32) [(.int rw)] (.int 0) := V39.other W64 (Ne.symm ne_er_b39)
  clear V39
  have V64 : Arv Z h64 er kb (.array .int) (16 : Int32) (oU (.ref b39) .null .null) .null := Arv.set Ar63 q63 S63 N63' H63 G63 rfl W64 0 rfl (Nat.le_of_ble_eq_true rfl)
  have R86 : ∀ t, oG p e below T64 m 105 #[oR a1, oD 0, .second, oR a3, oR a4, .unset] [(.ref a1)] t → Steps p.tables e below AA t := by
    intro t k
    refine R64 t ?_
    refine XS.aloadN X64.here hx rfl (hb hby own_d3_104) rfl rfl ?_
    exact k
  clear R64
  obtain ⟨T87, X87, e87, st87⟩ := getF X64 hx hZ hown (host := "") (Or.inl (oW hw 19 rfl)) Via.refl e64 f68 (g := (mkF m 105 #[oR a1, oD 0, .second, oR a3, oR a4, .unset] [(.ref a1)])) rfl rfl (hb hby own_d3_105)
  have R87 := fun t k => R86 t (st87 t k)
  clear R86 st87 X64 e64
  have R88 : ∀ t, oG p e below T87 m 109 #[oR a1, oD 0, .second, oR a3, oR a4, .unset] [(.ref a1), (.ref ev)] t → Steps p.tables e below AA t := by
    intro t k
    refine R87 t ?_
    refine XS.aloadN X87.here hx rfl (hb hby own_d3_108) rfl rfl ?_
    exact k
  clear R87
  obtain ⟨T89, X89, e89, st89⟩ := getF X87 hx hZ hown (host := "") (Or.inl (oW hw 41 rfl)) Via.refl e87 f77 (g := (mkF m 109 #[oR a1, oD 0, .second, oR a3, oR a4, .unset] [(.ref a1), (.ref ev)])) rfl rfl (hb hby own_d3_109)
  have R89 := fun t k => R88 t (st89 t k)
  clear R88 st89 X87 e87
  have R90 : ∀ t, oG p e below T89 m 114 #[oR a1, oD 0, .second, oR a3, oR a4, .unset] [(.ref a4), (.int 0), (.ref ev)] t → Steps p.tables e below AA t := by
    intro t k
    refine R89 t ?_
    refine XS.aload X89.here hx rfl (hb hby own_d3_112) rfl rfl ?_
    exact k
  clear R89
  obtain ⟨T91, h91, X91, e91, E91, A91, B91, st91⟩ := cloneH X89 hx hZ (ad := "[D") hown (oW hw 26 rfl) (oW hw 27 rfl) (oW hw 31 rfl) (oW hw 29 rfl) (oW hw 30 rfl) (oW hw 32 rfl) e89 (Arv.arh f81) f82 (g := (mkF m 114 #[oR a1, oD 0, .second, oR a3, oR a4, .unset] [(.ref a4), (.int 0), (.ref ev)])) rfl (by rw [hml]; rfl) rfl (hb hby own_d3_114) (by decide) (W := 2) (cap := 1) oL (by decide) (by decide) (by decide) (by decide)
  obtain ⟨b91, g91⟩ : ∃ z, z = h64.size := ⟨_, rfl⟩
  rw [← g91] at A91 B91 st91
  have R91 := fun t k => R90 t (st91 t k)
  clear R90 st91 X89 e89
  have ne_a1_b91 : a1 ≠ b91 := Nat.ne_of_lt (Nat.lt_of_lt_of_le f65.lt (Nat.le_of_eq g91.symm))
  have ne_a4_b91 : a4 ≠ b91 := Nat.ne_of_lt (Nat.lt_of_lt_of_le f81.lt (Nat.le_of_eq g91.symm))
  have ne_b39_b91 : b39 ≠ b91 := Nat.ne_of_lt (Nat.lt_of_lt_of_le f84.lt (Nat.le_of_eq g91.symm))
  have ne_co_b91 : co ≠ b91 := Nat.ne_of_lt (Nat.lt_of_lt_of_le f83.lt (Nat.le_of_eq g91.symm))
  have ne_er_b91 : er ≠ b91 := Nat.ne_of_lt (Nat.lt_of_lt_of_le V64.lt (Nat.le_of_eq g91.symm))
  have ne_ev_b91 : ev ≠ b91 := Nat.ne_of_lt (Nat.lt_of_lt_of_le f79.lt (Nat.le_of_eq g91.symm))
  have ne_po_b91 : po ≠ b91 := Nat.ne_of_lt (Nat.lt_of_lt_of_le f80.lt (Nat.le_of_eq g91.symm))
  have g_b91 : n0 ≤ b91 := Nat.le_trans Z64 (Nat.le_of_eq g91.symm)
  have sz_b91 : h0.size ≤ b91 := Nat.le_trans K64.1 (Nat.le_of_eq g91.symm)
  have Z91 : n0 ≤ h91.size := Nat.le_trans Z64 E91.1
  clear Z64
  have K91 : Keep h0 h91 [a1, co, er, ev, po] := K64.ext E91
  clear K64
  have f92 : oF Z h91 a1 "rows" "I" (.int 2) := f65.ext E91
  clear f65
  have f93 : oF Z h91 a1 "costs" "[D" (.ref co) := f66.ext E91
  clear f66
  have f94 : oF Z h91 a1 "entryRows" "[[I" (.ref er) := f67.ext E91
  clear f67
  have f95 : oF Z h91 a1 "entryValues" "[[D" (.ref ev) := f68.ext E91
  clear f68
  have f96 : oF Z h91 a1 "position" "[I" (.ref po) := f69.ext E91
  clear f69
  have f97 : oF Z h91 a1 "rhs" "[D" (.ref rh) := f70.ext E91
  clear f70
  have f98 : oF Z h91 a1 "basis" "[I" .null := f71.ext E91
  clear f71
  have f99 : oF Z h91 a1 "start" "[I" .null := f72.ext E91
  clear f72
  have f100 : oF Z h91 a1 "inverse" "[[D" .null := f73.ext E91
  clear f73
  have f101 : oF Z h91 a1 "primal" "[D" .null := f74.ext E91
  clear f74
  have f102 : oF Z h91 a1 "pivotsSinceRefactor" "I" (.int 0) := f75.ext E91
  clear f75
  have f103 : oF Z h91 a1 "infeasibility" "D" (.double 0) := f76.ext E91
  clear f76
  have f104 : oF Z h91 a1 "columns" "I" (.int 0) := f77.ext E91
  clear f77
  have f105 : Exa Z h91 a1 "com/example/trunkwright/trunkwright/traffic/RevisedSimplex" := f78.ext E91
  clear f78
  have f106 : Arv Z h91 ev kc (.array .double) (16 : Int32) (oU .null .null .null) .null := f79.ext E91
  clear f79
  have f107 : Arv Z h91 po kd .int (16 : Int32) (oZ (.int 0) (.int 0) (.int 0)) (.int 0) := f80.ext E91
  clear f80
  have f108 : Arv Z h91 a4 kf .double (1 : Int32) [(.double av)] (.double 0) := f81.ext E91
  clear f81
  have f109 : Exa Z h91 a4 "[D" := f82.ext E91
  clear f82
  have f110 : Arv Z h91 co ka .double (16 : Int32) (oC (.double 0) (.double 0) (.double 0)) (.double 0) := f83.ext E91
  clear f83
  have f111 : Exa Z h91 b39 "[I" := f84.ext E91
  clear f84
  have f112 : Arv Z h91 b39 ke .int (1 : Int32) [(.int rw)] (.int 0) := f85.ext E91
  clear f85
  have f113 : Arv Z h91 er kb (.array .int) (16 : Int32) (oU (.ref b39) .null .null) .null := V64.ext E91
  clear V64
  clear E91
  have V91 : Arv Z h91 b91 kf .double (1 : Int32) [(.double av)] (.double 0) := A91
  obtain ⟨T114, X114, e114, st114⟩ := castY X91 hx hZ hown (oW hw 17 rfl) e91 (Ins.self B91) (g := (mkF m 117 #[oR a1, oD 0, .second, oR a3, oR a4, .unset] [(.ref b91), (.int 0), (.ref ev)])) rfl rfl (hb hby own_d3_117)
  have R114 := fun t k => R91 t (st114 t k)
  clear R91 st114 X91 e91
  obtain ⟨cl115, Ar115, q115, S115, N115', H115, G115⟩ := id f106
  have hin115 : ¬ ((0 : Int32) < 0 ∨ cl115.slots.size ≤ ((0 : Int32)).toNatClampNeg) := inb_of S115 ⟨by decide, by decide⟩
  obtain ⟨T116, h116, X116, e116, W116, st116⟩ := stR X114 hx hZ e114 Ar115 (j := (0 : Int32)) hin115 rfl (Sto.ofVA Ar115 q115 Oev (Ins.self B91)) (g := (mkF m 120 #[oR a1, oD 0, .second, oR a3, oR a4, .unset] [(.ref b91), (.int 0), (.ref ev)])) rfl rfl (hb hby own_d3_120)
  have R116 := fun t k => R114 t (st116 t k)
  clear R114 st116 X114 e114
  have Z116 : n0 ≤ h116.size := Nat.le_trans Z91 (Keep.of_wr W116).1
  clear Z91
  have K116 : Keep h0 h116 [a1, co, er, ev, po] := K91.wr W116 (Or.inl (by simp))
  have N116 := Fr.snoc X116 N64 g_ev
  clear K91
  clear N64
  have f117 : oF Z h116 a1 "rows" "I" (.int 2) := f92.other W116 (Or.inl (Ne.symm ne_ev_a1))
  clear f92
  have f118 : oF Z h116 a1 "costs" "[D" (.ref co) := f93.other W116 (Or.inl (Ne.symm ne_ev_a1))
  clear f93
  have f119 : oF Z h116 a1 "entryRows" "[[I" (.ref er) := f94.other W116 (Or.inl (Ne.symm ne_ev_a1))
  clear f94
  have f120 : oF Z h116 a1 "entryValues" "[[D" (.ref ev) := f95.other W116 (Or.inl (Ne.symm ne_ev_a1))
  clear f95
  have f121 : oF Z h116 a1 "position" "[I" (.ref po) := f96.other W116 (Or.inl (Ne.symm ne_ev_a1))
  clear f96
  have f122 : oF Z h116 a1 "rhs" "[D" (.ref rh) := f97.other W116 (Or.inl (Ne.symm ne_ev_a1))
  clear f97
  have f123 : oF Z h116 a1 "basis" "[I" .null := f98.other W116 (Or.inl (Ne.symm ne_ev_a1))
  clear f98
  have f124 : oF Z h116 a1 "start" "[I" .null := f99.other W116 (Or.inl (Ne.symm ne_ev_a1))
  clear f99
  have f125 : oF Z h116 a1 "inverse" "[[D" .null := f100.other W116 (Or.inl (Ne.symm ne_ev_a1))
  clear f100
  have f126 : oF Z h116 a1 "primal" "[D" .null := f101.other W116 (Or.inl (Ne.symm ne_ev_a1))
  clear f101
  have f127 : oF Z h116 a1 "pivotsSinceRefactor" "I" (.int 0) := f102.other W116 (Or.inl (Ne.symm ne_ev_a1))
  clear f102
  have f128 : oF Z h116 a1 "infeasibility" "D" (.double 0) := f103.other W116 (Or.inl (Ne.symm ne_ev_a1))
  clear f103
  have f129 : oF Z h116 a1 "columns" "I" (.int 0) := f104.other W116 (Or.inl (Ne.symm ne_ev_a1))
  clear f104
  have f130 : Exa Z h116 a1 "com/example/trunkwright/trunkwright/traffic/RevisedSimplex" := f105.wr W116
  clear f105
  have f131 : Arv Z h116 po kd .int (16 : Int32) (oZ (.int 0) (.int 0) (.int 0)) (.int 0) := f107.other W116 ne_po_ev
  clear f107
  have f132 : Arv Z h116 co ka .double (16 : Int32) (oC (.double 0) (.double 0) (.double 0)) (.double 0) := f110.other W116 (Ne.symm ne_ev_co)
  clear f110
  have f133 : Exa Z h116 b39 "[I" := f111.wr W116
  clear f111
  have f134 : Arv Z h116 b39 ke .int (1 : Int32) [(.int rw)] (.int 0) := f112.other W116 (Ne.symm ne_ev_b39)
  clear f112
  have f135 : Arv Z h116 er kb (.array .int) (16 : Int32) (oU (.ref b39) .null .null) .null := f113.other W116 (Ne.symm ne_ev_er)
  clear f113
  have f136 : Exa Z h116 b91 "[D" := B91.wr W116
  have f137 : Arv Z h116 b91 kf .double (1 : Int32) [(.double av)] (.double 0) := V91.other W116 (Ne.symm ne_ev_b91)
  clear V91
  have V116 : Arv Z h116 ev kc (.array .double) (16 : Int32) (oU (.ref b91) .null .null) .null := Arv.set Ar115 q115 S115 N115' H115 G115 rfl W116 0 rfl (Nat.le_of_ble_eq_true rfl)
  have R138 : ∀ t, oG p e below T116 m 122 #[oR a1, oD 0, .second, oR a3, oR a4, .unset] [(.ref a1)] t → Steps p.tables e below AA t := by
    intro t k
    refine R116 t ?_
    refine XS.aloadN X116.here hx rfl (hb hby own_d3_121) rfl rfl ?_
    exact k
  clear R116
  obtain ⟨T139, X139, e139, st139⟩ := getF X116 hx hZ hown (host := "") (Or.inl (oW hw 22 rfl)) Via.refl e116 f121 (g := (mkF m 122 #[oR a1, oD 0, .second, oR a3, oR a4, .unset] [(.ref a1)])) rfl rfl (hb hby own_d3_122)
  have R139 := fun t k => R138 t (st139 t k)
  clear R138 st139 X116 e116
  have R140 : ∀ t, oG p e below T139 m 126 #[oR a1, oD 0, .second, oR a3, oR a4, .unset] [(.ref a1), (.ref po)] t → Steps p.tables e below AA t := by
    intro t k
    refine R139 t ?_
    refine XS.aloadN X139.here hx rfl (hb hby own_d3_125) rfl rfl ?_
    exact k
  clear R139
  obtain ⟨T141, X141, e141, st141⟩ := getF X139 hx hZ hown (host := "") (Or.inl (oW hw 41 rfl)) Via.refl e139 f129 (g := (mkF m 126 #[oR a1, oD 0, .second, oR a3, oR a4, .unset] [(.ref a1), (.ref po)])) rfl rfl (hb hby own_d3_126)
  have R141 := fun t k => R140 t (st141 t k)
  clear R140 st141 X139 e139
  have R142 : ∀ t, oG p e below T141 m 130 #[oR a1, oD 0, .second, oR a3, oR a4, .unset] [(.int (-1)), (.int 0), (.ref po)] t → Steps p.tables e below AA t := by
    intro t k
    refine R141 t ?_
    refine XS.iconst X141.here hx rfl (hb hby own_d3_129) ?_
    exact k
  clear R141
  obtain ⟨cl143, Ar143, q143, S143, N143', H143, G143⟩ := id f131
  have hin143 : ¬ ((0 : Int32) < 0 ∨ cl143.slots.size ≤ ((0 : Int32)).toNatClampNeg) := inb_of S143 ⟨by decide, by decide⟩
  obtain ⟨T144, h144, X144, e144, W144, st144⟩ := stI X141 hx hZ e141 Ar143 (j := (0 : Int32)) hin143 (g := (mkF m 130 #[oR a1, oD 0, .second, oR a3, oR a4, .unset] [(.int (-1)), (.int 0), (.ref po)])) rfl rfl (hb hby own_d3_130)
  have R144 := fun t k => R142 t (st144 t k)
  clear R142 st144 X141 e141
  have Z144 : n0 ≤ h144.size := Nat.le_trans Z116 (Keep.of_wr W144).1
  clear Z116
  have K144 : Keep h0 h144 [a1, co, er, ev, po] := K116.wr W144 (Or.inl (by simp))
  have N144 := Fr.snoc X144 N116 g_po
  clear K116
  clear N116
  have f145 : oF Z h144 a1 "rows" "I" (.int 2) := f117.other W144 (Or.inl (Ne.symm ne_po_a1))
  clear f117
  have f146 : oF Z h144 a1 "costs" "[D" (.ref co) := f118.other W144 (Or.inl (Ne.symm ne_po_a1))
  clear f118
  have f147 : oF Z h144 a1 "entryRows" "[[I" (.ref er) := f119.other W144 (Or.inl (Ne.symm ne_po_a1))
  clear f119
  have f148 : oF Z h144 a1 "entryValues" "[[D" (.ref ev) := f120.other W144 (Or.inl (Ne.symm ne_po_a1))
  clear f120
  have f149 : oF Z h144 a1 "position" "[I" (.ref po) := f121.other W144 (Or.inl (Ne.symm ne_po_a1))
  clear f121
  have f150 : oF Z h144 a1 "rhs" "[D" (.ref rh) := f122.other W144 (Or.inl (Ne.symm ne_po_a1))
  clear f122
  have f151 : oF Z h144 a1 "basis" "[I" .null := f123.other W144 (Or.inl (Ne.symm ne_po_a1))
  clear f123
  have f152 : oF Z h144 a1 "start" "[I" .null := f124.other W144 (Or.inl (Ne.symm ne_po_a1))
  clear f124
  have f153 : oF Z h144 a1 "inverse" "[[D" .null := f125.other W144 (Or.inl (Ne.symm ne_po_a1))
  clear f125
  have f154 : oF Z h144 a1 "primal" "[D" .null := f126.other W144 (Or.inl (Ne.symm ne_po_a1))
  clear f126
  have f155 : oF Z h144 a1 "pivotsSinceRefactor" "I" (.int 0) := f127.other W144 (Or.inl (Ne.symm ne_po_a1))
  clear f127
  have f156 : oF Z h144 a1 "infeasibility" "D" (.double 0) := f128.other W144 (Or.inl (Ne.symm ne_po_a1))
  clear f128
  have f157 : oF Z h144 a1 "columns" "I" (.int 0) := f129.other W144 (Or.inl (Ne.symm ne_po_a1))
  clear f129
  have f158 : Exa Z h144 a1 "com/example/trunkwright/trunkwright/traffic/RevisedSimplex" := f130.wr W144
  clear f130
  have f159 : Arv Z h144 co ka .double (16 : Int32) (oC (.double 0) (.double 0) (.double 0)) (.double 0) := f132.other W144 (Ne.symm ne_po_co)
  clear f132
  have f160 : Exa Z h144 b39 "[I" := f133.wr W144
  clear f133
  have f161 : Arv Z h144 b39 ke .int (1 : Int32) [(.int rw)] (.int 0) := f134.other W144 (Ne.symm ne_po_b39)
  clear f134
  have f162 : Arv Z h144 er kb (.array .int) (16 : Int32) (oU (.ref b39) .null .null) .null := f135.other W144 (Ne.symm ne_po_er)
  clear f135
  have f163 : Exa Z h144 b91 "[D" := f136.wr W144
  clear f136
  have f164 : Arv Z h144 b91 kf .double (1 : Int32) [(.double av)] (.double 0) := f137.other W144 (Ne.symm ne_po_b91)
  clear f137
  have f165 : Arv Z h144 ev kc (.array .double) (16 : Int32) (oU (.ref b91) .null .null) .null := V116.other W144 (Ne.symm ne_po_ev)
  clear V116
  have V144 : Arv Z h144 po kd .int (16 : Int32) (oZ (.int (-1)) (.int 0) (.int 0)) (.int 0) := Arv.set Ar143 q143 S143 N143' H143 G143 rfl W144 0 rfl (Nat.le_of_ble_eq_true rfl)
  clear Ar143 q143 S143 N143' H143 G143 hin143 W144 f131
  have R166 : ∀ t, oG p e below T144 m 133 #[oR a1, oD 0, .second, oR a3, oR a4, .unset] [(.ref a1), (.ref a1)] t → Steps p.tables e below AA t := by
    intro t k
    refine R144 t ?_
    refine XS.aloadN X144.here hx rfl (hb hby own_d3_131) rfl rfl ?_
    refine XS.dup X144.here hx rfl (hb hby own_d3_132) rfl rfl ?_
    exact k
  clear R144
  obtain ⟨T167, X167, e167, st167⟩ := getF X144 hx hZ hown (host := "") (Or.inl (oW hw 41 rfl)) Via.refl e144 f157 (g := (mkF m 133 #[oR a1, oD 0, .second, oR a3, oR a4, .unset] [(.ref a1), (.ref a1)])) rfl rfl (hb hby own_d3_133)
  have R167 := fun t k => R166 t (st167 t k)
  clear R166 st167 X144 e144
  have R168 : ∀ t, oG p e below T167 m 139 #[oR a1, oD 0, .second, oR a3, oR a4, .unset] [(.int 1), (.ref a1), (.int 0)] t → Steps p.tables e below AA t := by
    intro t k
    refine R167 t ?_
    refine XS.dupX1 X167.here hx rfl (hb hby own_d3_136) rfl rfl rfl ?_
    refine XS.iconst X167.here hx rfl (hb hby own_d3_137) ?_
    refine XS.iadd X167.here hx rfl (hb hby own_d3_138) rfl ?_
    exact k
  clear R167
  obtain ⟨T169, h169, X169, e169, W169, st169⟩ := putF X167 hx hZ hown (host := "") (Or.inl (oW hw 41 rfl)) Via.refl e167 f157 f158 (Or.inl (oW hw 42 rfl)) (oW hw 2 rfl) (ty := .int) (by decide) rfl rfl (g := (mkF m 139 #[oR a1, oD 0, .second, oR a3, oR a4, .unset] [(.int 1), (.ref a1), (.int 0)])) rfl rfl (hb hby own_d3_139)
  have R169 := fun t k => R168 t (st169 t k)
  clear R168 st169 X167 e167
  have Z169 : n0 ≤ h169.size := Nat.le_trans Z144 (Keep.of_wr W169).1
  clear Z144
  have K169 : Keep h0 h169 [a1, co, er, ev, po] := K144.wr W169 (Or.inl (by simp))
  clear K144
  have N169 := Fr.snoc X169 N144 g_a1
  clear N144
  have f170 : oF Z h169 a1 "rows" "I" (.int 2) := f145.other W169 (Or.inr (slot_ne (Or.inr (oW hw 25 rfl)) (Or.inl (oW hw 42 rfl)) (by decide) (t := .int) (t' := .int) (by decide) (by decide)))
  clear f145
  have f171 : oF Z h169 a1 "costs" "[D" (.ref co) := f146.other W169 (Or.inr (slot_ne (Or.inl (oW hw 12 rfl)) (Or.inl (oW hw 42 rfl)) (by decide) (t := (.array .double)) (t' := .int) (by decide) (by decide)))
  clear f146
  have f172 : oF Z h169 a1 "entryRows" "[[I" (.ref er) := f147.other W169 (Or.inr (slot_ne (Or.inl (oW hw 16 rfl)) (Or.inl (oW hw 42 rfl)) (by decide) (t := (.array (.array .int))) (t' := .int) (by decide) (by decide)))
  clear f147
  have f173 : oF Z h169 a1 "entryValues" "[[D" (.ref ev) := f148.other W169 (Or.inr (slot_ne (Or.inl (oW hw 20 rfl)) (Or.inl (oW hw 42 rfl)) (by decide) (t := (.array (.array .double))) (t' := .int) (by decide) (by decide)))
  clear f148
  have f174 : oF Z h169 a1 "position" "[I" (.ref po) := f149.other W169 (Or.inr (slot_ne (Or.inl (oW hw 23 rfl)) (Or.inl (oW hw 42 rfl)) (by decide) (t := (.array .int)) (t' := .int) (by decide) (by decide)))
  clear f149
  have f175 : oF Z h169 a1 "rhs" "[D" (.ref rh) := f150.other W169 (Or.inr (slot_ne (Or.inr (oW hw 35 rfl)) (Or.inl (oW hw 42 rfl)) (by decide) (t := (.array .double)) (t' := .int) (by decide) (by decide)))
  clear f150
  have f176 : oF Z h169 a1 "basis" "[I" .null := f151.other W169 (Or.inr (slot_ne (Or.inl (oW hw 54 rfl)) (Or.inl (oW hw 42 rfl)) (by decide) (t := (.array .int)) (t' := .int) (by decide) (by decide)))
  clear f151
  have f177 : oF Z h169 a1 "start" "[I" .null := f152.other W169 (Or.inr (slot_ne (Or.inl (oW hw 56 rfl)) (Or.inl (oW hw 42 rfl)) (by decide) (t := (.array .int)) (t' := .int) (by decide) (by decide)))
  clear f152
  have f178 : oF Z h169 a1 "inverse" "[[D" .null := f153.other W169 (Or.inr (slot_ne (Or.inl (oW hw 75 rfl)) (Or.inl (oW hw 42 rfl)) (by decide) (t := (.array (.array .double))) (t' := .int) (by decide) (by decide)))
  clear f153
  have f179 : oF Z h169 a1 "primal" "[D" .null := f154.other W169 (Or.inr (slot_ne (Or.inl (oW hw 77 rfl)) (Or.inl (oW hw 42 rfl)) (by decide) (t := (.array .double)) (t' := .int) (by decide) (by decide)))
  clear f154
  have f180 : oF Z h169 a1 "pivotsSinceRefactor" "I" (.int 0) := f155.other W169 (Or.inr (slot_ne (Or.inl (oW hw 79 rfl)) (Or.inl (oW hw 42 rfl)) (by decide) (t := .int) (t' := .int) (by decide) (by decide)))
  clear f155
  have f181 : oF Z h169 a1 "infeasibility" "D" (.double 0) := f156.other W169 (Or.inr (slot_ne (Or.inl (oW hw 84 rfl)) (Or.inl (oW hw 42 rfl)) (by decide) (t := .double) (t' := .int) (by decide) (by decide)))
  clear f156
  have f182 : Exa Z h169 a1 "com/example/trunkwright/trunkwright/traffic/RevisedSimplex" := f158.wr W169
  clear f158
  have f183 : Arv Z h169 co ka .double (16 : Int32) (oC (.double 0) (.double 0) (.double 0)) (.double 0) := f159.other W169 ne_co_a1
  clear f159
  have f184 : Exa Z h169 b39 "[I" := f160.wr W169
  clear f160
  have f185 : Arv Z h169 b39 ke .int (1 : Int32) [(.int rw)] (.int 0) := f161.other W169 (Ne.symm ne_a1_b39)
  clear f161
  have f186 : Arv Z h169 er kb (.array .int) (16 : Int32) (oU (.ref b39) .null .null) .null := f162.other W169 ne_er_a1
  clear f162
  have f187 : Exa Z h169 b91 "[D" := f163.wr W169
  clear f163
  have f188 : Arv Z h169 b91 kf .double (1 : Int32) [(.double av)] (.double 0) := f164.other W169 (Ne.symm ne_a1_b91)
  clear f164
  have f189 : Arv Z h169 ev kc (.array .double) (16 : Int32) (oU (.ref b91) .null .null) .null := f165.other W169 ne_ev_a1
  clear f165
  have f190 : Arv Z h169 po kd .int (16 : Int32) (oZ (.int (-1)) (.int 0) (.int 0)) (.int 0) := V144.other W169 ne_po_a1
  clear V144
  have Fw169 : oF Z h169 a1 "columns" "I" (.int 1) := f157.same W169
  subst hAA
  obtain ⟨fs, hr, hrun, hended, hW, hsame⟩ := X169.leave (v := some (.int 0)) (fun h => by rw [Bd.returns] at h; cases h)
  refine ⟨_, _, R169 _ ?_, hrun, hended, _, _, rfl, ?_, ⟨_, rfl⟩, hW, hsame.mono (by decide) (by decide)⟩
  · exact retOut X169 hx Bd.returns rfl (Or.inl ⟨rfl, Or.inl rfl, _, rfl⟩) (hb hby own_d3_142) hr
  · show Q_rmAd0 Z a1 a3 a4 co er ev po rh ka kb kc kd ke kf rw av h0 n0 _ T169.heap _
    rw [e169]
    exact ⟨rfl, N169, b39, b91, K169, sz_b39, sz_b91, ne_b39_b91, f170, f171, f172, f173, f174, f175, f176, f177, f178, f179, f180, f181, Fw169, f183, f186, f189, f190, f185, f188⟩
theorem own_ef_rmAd1 (m : MethodId) (x0 : Addr) (x1 : UInt64) (x2 : Addr) (x3 : Addr) : entryFrame m #[(.ref x0), (.double x1), (.ref x2), (.ref x3)] 6 = mkF m 0 #[oR x0, oD x1, .second, oR x2, oR x3, .unset] [] := by first | (simp [entryFrame, mkF, argsToLocals, Value.category]; done) | rfl
def Q_rmAd1 (Z : State) (a1 a3 a4 co er ev po rh en0 vn0 : Addr) (ka kb kc kd ke kf : ClassId) (rw : Int32) (av : UInt64) (h0 : Heap) (n0 : Nat) (v : Option Value) (h : Heap) (L : List Loc) : Prop := v = some (.int 1) ∧ Fr n0 L ∧ ∃ (nr nv : Addr), Keep h0 h [a1, co, er, ev, po] ∧ h0.size ≤ nr ∧ h0.size ≤ nv ∧ nr ≠ nv ∧ oF Z h a1 "rows" "I" (.int 2) ∧ oF Z h a1 "costs" "[D" (.ref co) ∧ oF Z h a1 "entryRows" "[[I" (.ref er) ∧ oF Z h a1 "entryValues" "[[D" (.ref ev) ∧ oF Z h a1 "position" "[I" (.ref po) ∧ oF Z h a1 "rhs" "[D" (.ref rh) ∧ oF Z h a1 "basis" "[I" .null ∧ oF Z h a1 "start" "[I" .null ∧ oF Z h a1 "inverse" "[[D" .null ∧ oF Z h a1 "primal" "[D" .null ∧ oF Z h a1 "pivotsSinceRefactor" "I" (.int 0) ∧ oF Z h a1 "infeasibility" "D" (.double 0) ∧ oF Z h a1 "columns" "I" (.int 2) ∧ Arv Z h co ka .double (16 : Int32) (oC (.double 0) (.double 0) (.double 0)) (.double 0) ∧ Arv Z h er kb (.array .int) (16 : Int32) (oU (.ref en0) (.ref nr) .null) .null ∧ Arv Z h ev kc (.array .double) (16 : Int32) (oU (.ref vn0) (.ref nv) .null) .null ∧ Arv Z h po kd .int (16 : Int32) (oZ (.int (-1)) (.int (-1)) (.int 0)) (.int 0) ∧ Arv Z h nr ke .int (1 : Int32) [(.int rw)] (.int 0) ∧ Arv Z h nv kf .double (1 : Int32) [(.double av)] (.double 0)
set_option maxRecDepth 65536 in
set_option maxHeartbeats 40000000 in
theorem rmAd1 (l : Launch) (Z : State) (a0 : Array Value) (hw : ∀ d ∈ tables_1, d.before a0 Z = true) (ws : List Jvm.Cond) (a1 a3 a4 co er ev po rh en0 vn0 : Addr) (ka kb kc kd ke kf : ClassId) (rw : Int32) (av : UInt64) (h0 : Heap) (n0 : Nat) (Z0 : n0 ≤ h0.size) (F_a1_rows : oF Z h0 a1 "rows" "I" (.int 2)) (F_a1_costs : oF Z h0 a1 "costs" "[D" (.ref co)) (F_a1_entryRows : oF Z h0 a1 "entryRows" "[[I" (.ref er)) (F_a1_entryValues : oF Z h0 a1 "entryValues" "[[D" (.ref ev)) (F_a1_position : oF Z h0 a1 "position" "[I" (.ref po)) (F_a1_rhs : oF Z h0 a1 "rhs" "[D" (.ref rh)) (F_a1_basis : oF Z h0 a1 "basis" "[I" .null) (F_a1_start : oF Z h0 a1 "start" "[I" .null) (F_a1_inverse : oF Z h0 a1 "inverse" "[[D" .null) (F_a1_primal : oF Z h0 a1 "primal" "[D" .null) (F_a1_pivotsSinceRefactor : oF Z h0 a1 "pivotsSinceRefactor" "I" (.int 0)) (F_a1_infeasibility : oF Z h0 a1 "infeasibility" "D" (.double 0)) (F_a1_columns : oF Z h0 a1 "columns" "I" (.int 1)) (E_a1 : Exa Z h0 a1 "com/example/trunkwright/trunkwright/traffic/RevisedSimplex") (V_co : Arv Z h0 co ka .double (16 : Int32) (oC (.double 0) (.double 0) (.double 0)) (.double 0)) (V_er : Arv Z h0 er kb (.array .int) (16 : Int32) (oU (.ref en0) .null .null) .null) (V_ev : Arv Z h0 ev kc (.array .double) (16 : Int32) (oU (.ref vn0) .null .null) .null) (V_po : Arv Z h0 po kd .int (16 : Int32) (oZ (.int (-1)) (.int 0) (.int 0)) (.int 0)) (V_a3 : Arv Z h0 a3 ke .int (1 : Int32) [(.int rw)] (.int 0)) (E_a3 : Exa Z h0 a3 "[I") (V_a4 : Arv Z h0 a4 kf .double (1 : Int32) [(.double av)] (.double 0)) (E_a4 : Exa Z h0 a4 "[D") (Oer : OvrA Z kb .int "[I") (Oev : OvrA Z kc .double "[D") (g_a1 : n0 ≤ a1) (g_co : n0 ≤ co) (g_er : n0 ≤ er) (g_ev : n0 ≤ ev) (g_po : n0 ≤ po) (ne_co_a1 : co ≠ a1) (ne_er_a1 : er ≠ a1) (ne_er_co : er ≠ co) (ne_ev_a1 : ev ≠ a1) (ne_ev_co : ev ≠ co) (ne_ev_er : ev ≠ er) (ne_po_a1 : po ≠ a1) (ne_po_co : po ≠ co) (ne_po_er : po ≠ er) (ne_po_ev : po ≠ ev) (ne_a3_a1 : a3 ≠ a1) (ne_a3_co : a3 ≠ co) (ne_a3_er : a3 ≠ er) (ne_a3_ev : a3 ≠ ev) (ne_a3_po : a3 ≠ po) (ne_a4_a1 : a4 ≠ a1) (ne_a4_co : a4 ≠ co) (ne_a4_er : a4 ≠ er) (ne_a4_ev : a4 ≠ ev) (ne_a4_po : a4 ≠ po) :
    MetFree l (oN "add" "(D[I[D)I") (head1 (Jvm.Cond.code (oN "add" "(D[I[D)I") prog_82_method_2_code 6 (some .int) :: ws) ({ frames := 1, cells := 2, slots := 2, locals := 16 } : Room)) (fun a U => a = #[(.ref a1), (.double 0), (.ref a3), (.ref a4)] ∧ Z.Warmed39 U.vm ∧ U.heap = h0) (fun _ _ _ _ _ => True) (fun _ U o U' => ∃ v L, o = .returned v ∧ Q_rmAd1 Z a1 a3 a4 co er ev po rh en0 vn0 ka kb kc kd ke kf rw av h0 n0 v U'.heap L ∧ FrameEnd U o U' L ({ frames := 1, cells := 2, slots := 2, locals := 16 } : Room).cells ({ frames := 1, cells := 2, slots := 2, locals := 16 } : Room).slots) := by
  refine MetFree.of_bodySF (plainFor_of_name own_pn0) hisR ?_
  intro p e s m args below meth c s₁ Bd hml0 hP hK
  obtain ⟨rfl, hZ, hh⟩ := hP
  have hx := Bd.exec
  have hby := Bd.bytes
  have hml : c.maxLocals = 6 := hml0
  have hown : s.vm.findClass "com/example/trunkwright/trunkwright/traffic/RevisedSimplex" = some m.cls := findClass_of_methodNamed Bd.named
  have hnm := (name_of_methodNamed Bd.named Bd.method).1
  have X0 : Stand p l e ({ frames := 1, cells := 2, slots := 2, locals := 16 } : Room) s m #[(.ref a1), (.double 0), (.ref a3), (.ref a4)] below meth c s₁ [] 0 0 := Stand.of_body Bd
  have e0 : s₁.heap = h0 := by rw [← hh, Bd.state]; rfl
  have N0 := Fr.nil n0
  have R0 : ∀ t, oG p e below s₁ m 0 #[oR a1, oD 0, .second, oR a3, oR a4, .unset] [] t → Steps p.tables e below (s₁.setTop (entryFrame m #[(.ref a1), (.double 0), (.ref a3), (.ref a4)] 6)) t := fun t k => castTop (own_ef_rmAd1 m a1 (0 : UInt64) a3 a4) k
  obtain ⟨AA, hAA⟩ : ∃ z, z = (s₁.setTop (entryFrame m #[(.ref a1), (.double 0), (.ref a3), (.ref a4)] 6)) := ⟨_, rfl⟩
  rw [← hAA] at R0
  have R1 : ∀ t, oG p e below s₁ m 1 #[oR a1, oD 0, .second, oR a3, oR a4, .unset] [(.ref a1)] t → Steps p.tables e below AA t := by
    intro t k
    refine R0 t ?_
    refine XS.aloadN X0.here hx rfl (hb hby own_d3_0) rfl rfl ?_
    exact k
  obtain ⟨T2, X2, e2, st2⟩ := getF X0 hx hZ hown (host := "") (Or.inl (oW hw 41 rfl)) Via.refl e0 F_a1_columns (g := (mkF m 1 #[oR a1, oD 0, .second, oR a3, oR a4, .unset] [(.ref a1)])) rfl rfl (hb hby own_d3_1)
  have R2 := fun t k => R1 t (st2 t k)
  clear R1 st2
  have R3 : ∀ t, oG p e below T2 m 5 #[oR a1, oD 0, .second, oR a3, oR a4, .unset] [(.ref a1), (.int 1)] t → Steps p.tables e below AA t := by
    intro t k
    refine R2 t ?_
    refine XS.aloadN X2.here hx rfl (hb hby own_d3_4) rfl rfl ?_
    exact k
  clear R2
  obtain ⟨T4, X4, e4, st4⟩ := getF X2 hx hZ hown (host := "") (Or.inl (oW hw 11 rfl)) Via.refl e2 F_a1_costs (g := (mkF m 5 #[oR a1, oD 0, .second, oR a3, oR a4, .unset] [(.ref a1), (.int 1)])) rfl rfl (hb hby own_d3_5)
  have R4 := fun t k => R3 t (st4 t k)
  clear R3 st4 X2 e2
  obtain ⟨cl5, Ar5, q5, S5, N5', H5, G5⟩ := id V_co
  have R6 : ∀ t, oG p e below T4 m 79 #[oR a1, oD 0, .second, oR a3, oR a4, .unset] [(.ref a1)] t → Steps p.tables e below AA t := by
    intro t k
    refine R4 t ?_
    refine X4.arraylength hx (by rw [e4]; exact Ar5.1) (State.isArrayOf_alike hZ.alike Ar5.2.1) (g := (mkF m 8 #[oR a1, oD 0, .second, oR a3, oR a4, .unset] [(.ref co), (.int 1)])) rfl rfl (hb hby own_d3_8) _ ?_
    rw [len_of S5 N5']
    refine XS.icmpYes X4.here hx rfl (pc0 := 9) (pc' := 78) rfl (hb hby own_d3_9) rfl (feq (by decide : ¬ ((1 : Int32) = (16 : Int32)))).2 (by decide) (by decide) ?_
    refine XS.aloadN X4.here hx rfl (hb hby own_d3_78) rfl rfl ?_
    exact k
  clear R4
  obtain ⟨T7, X7, e7, st7⟩ := getF X4 hx hZ hown (host := "") (Or.inl (oW hw 11 rfl)) Via.refl e4 F_a1_costs (g := (mkF m 79 #[oR a1, oD 0, .second, oR a3, oR a4, .unset] [(.ref a1)])) rfl rfl (hb hby own_d3_79)
  have R7 := fun t k => R6 t (st7 t k)
  clear R6 st7 X4 e4
  have R8 : ∀ t, oG p e below T7 m 83 #[oR a1, oD 0, .second, oR a3, oR a4, .unset] [(.ref a1), (.ref co)] t → Steps p.tables e below AA t := by
    intro t k
    refine R7 t ?_
    refine XS.aloadN X7.here hx rfl (hb hby own_d3_82) rfl rfl ?_
    exact k
  clear R7
  obtain ⟨T9, X9, e9, st9⟩ := getF X7 hx hZ hown (host := "") (Or.inl (oW hw 41 rfl)) Via.refl e7 F_a1_columns (g := (mkF m 83 #[oR a1, oD 0, .second, oR a3, oR a4, .unset] [(.ref a1), (.ref co)])) rfl rfl (hb hby own_d3_83)
  have R9 := fun t k => R8 t (st9 t k)
  clear R8 st9 X7 e7
  have R10 : ∀ t, oG p e below T9 m 87 #[oR a1, oD 0, .second, oR a3, oR a4, .unset] [(.double 0), (.int 1), (.ref co)] t → Steps p.tables e below AA t := by
    intro t k
    refine R9 t ?_
    refine XS.dloadN X9.here hx rfl (hb hby own_d3_86) rfl ?_
    exact k
  clear R9
  obtain ⟨cl11, Ar11, q11, S11, N11', H11, G11⟩ := id V_co
  have hin11 : ¬ ((1 : Int32) < 0 ∨ cl11.slots.size ≤ ((1 : Int32)).toNatClampNeg) := inb_of S11 ⟨by decide, by decide⟩
  obtain ⟨T12, h12, X12, e12, W12, st12⟩ := stD X9 hx hZ e9 Ar11 (j := (1 : Int32)) hin11 (g := (mkF m 87 #[oR a1, oD 0, .second, oR a3, oR a4, .unset] [(.double 0), (.int 1), (.ref co)])) rfl rfl (hb hby own_d3_87)
  have R12 := fun t k => R10 t (st12 t k)
  clear R10 st12 X9 e9
  have Z12 : n0 ≤ h12.size := Nat.le_trans Z0 (Keep.of_wr W12).1
  have K12 : Keep h0 h12 [a1, co, er, ev, po] := (Keep.refl h0 [a1, co, er, ev, po]).wr W12 (Or.inl (by simp))
  have N12 := Fr.snoc X12 N0 g_co
  have f13 : oF Z h12 a1 "rows" "I" (.int 2) := F_a1_rows.other W12 (Or.inl (Ne.symm ne_co_a1))
  have f14 : oF Z h12 a1 "costs" "[D" (.ref co) := F_a1_costs.other W12 (Or.inl (Ne.symm ne_co_a1))
  have f15 : oF Z h12 a1 "entryRows" "[[I" (.ref er) := F_a1_entryRows.other W12 (Or.inl (Ne.symm ne_co_a1))
  have f16 : oF Z h12 a1 "entryValues" "[[D" (.ref ev) := F_a1_entryValues.other W12 (Or.inl (Ne.symm ne_co_a1))
  have f17 : oF Z h12 a1 "position" "[I" (.ref po) := F_a1_position.other W12 (Or.inl (Ne.symm ne_co_a1))
  have f18 : oF Z h12 a1 "rhs" "[D" (.ref rh) := F_a1_rhs.other W12 (Or.inl (Ne.symm ne_co_a1))
  have f19 : oF Z h12 a1 "basis" "[I" .null := F_a1_basis.other W12 (Or.inl (Ne.symm ne_co_a1))
  have f20 : oF Z h12 a1 "start" "[I" .null := F_a1_start.other W12 (Or.inl (Ne.symm ne_co_a1))
  have f21 : oF Z h12 a1 "inverse" "[[D" .null := F_a1_inverse.other W12 (Or.inl (Ne.symm ne_co_a1))
  have f22 : oF Z h12 a1 "primal" "[D" .null := F_a1_primal.other W12 (Or.inl (Ne.symm ne_co_a1))
  have f23 : oF Z h12 a1 "pivotsSinceRefactor" "I" (.int 0) := F_a1_pivotsSinceRefactor.other W12 (Or.inl (Ne.symm ne_co_a1))
  have f24 : oF Z h12 a1 "infeasibility" "D" (.double 0) := F_a1_infeasibility.other W12 (Or.inl (Ne.symm ne_co_a1))
  have f25 : oF Z h12 a1 "columns" "I" (.int 1) := F_a1_columns.other W12 (Or.inl (Ne.symm ne_co_a1))
  have f26 : Exa Z h12 a1 "com/example/trunkwright/trunkwright/traffic/RevisedSimplex" := E_a1.wr W12
  have f27 : Arv Z h12 er kb (.array .int) (16 : Int32) (oU (.ref en0) .null .null) .null := V_er.other W12 ne_er_co
  have f28 : Arv Z h12 ev kc (.array .double) (16 : Int32) (oU (.ref vn0) .null .null) .null := V_ev.other W12 ne_ev_co
  have f29 : Arv Z h12 po kd .int (16 : Int32) (oZ (.int (-1)) (.int 0) (.int 0)) (.int 0) := V_po.other W12 ne_po_co
  have f30 : Arv Z h12 a3 ke .int (1 : Int32) [(.int rw)] (.int 0) := V_a3.other W12 ne_a3_co
  have f31 : Exa Z h12 a3 "[I" := E_a3.wr W12
  have f32 : Arv Z h12 a4 kf .double (1 : Int32) [(.double av)] (.double 0) := V_a4.other W12 ne_a4_co
  have f33 : Exa Z h12 a4 "[D" := E_a4.wr W12
  have V12 : Arv Z h12 co ka .double (16 : Int32) (oC (.double 0) (.double 0) (.double 0)) (.double 0) := Arv.set Ar11 q11 S11 N11' H11 G11 rfl W12 1 rfl (Nat.le_of_ble_eq_true rfl)
  clear Ar11 q11 S11 N11' H11 G11 hin11 W12
  have R34 : ∀ t, oG p e below T12 m 89 #[oR a1, oD 0, .second, oR a3, oR a4, .unset] [(.ref a1)] t → Steps p.tables e below AA t := by
    intro t k
    refine R12 t ?_
    refine XS.aloadN X12.here hx rfl (hb hby own_d3_88) rfl rfl ?_
    exact k
  clear R12
  obtain ⟨T35, X35, e35, st35⟩ := getF X12 hx hZ hown (host := "") (Or.inl (oW hw 15 rfl)) Via.refl e12 f15 (g := (mkF m 89 #[oR a1, oD 0, .second, oR a3, oR a4, .unset] [(.ref a1)])) rfl rfl (hb hby own_d3_89)
  have R35 := fun t k => R34 t (st35 t k)
  clear R34 st35 X12 e12
  have R36 : ∀ t, oG p e below T35 m 93 #[oR a1, oD 0, .second, oR a3, oR a4, .unset] [(.ref a1), (.ref er)] t → Steps p.tables e below AA t := by
    intro t k
    refine R35 t ?_
    refine XS.aloadN X35.here hx rfl (hb hby own_d3_92) rfl rfl ?_
    exact k
  clear R35
  obtain ⟨T37, X37, e37, st37⟩ := getF X35 hx hZ hown (host := "") (Or.inl (oW hw 41 rfl)) Via.refl e35 f25 (g := (mkF m 93 #[oR a1, oD 0, .second, oR a3, oR a4, .unset] [(.ref a1), (.ref er)])) rfl rfl (hb hby own_d3_93)
  have R37 := fun t k => R36 t (st37 t k)
  clear R36 st37 X35 e35
  have R38 : ∀ t, oG p e below T37 m 97 #[oR a1, oD 0, .second, oR a3, oR a4, .unset] [(.ref a3), (.int 1), (.ref er)] t → Steps p.tables e below AA t := by
    intro t k
    refine R37 t ?_
    refine XS.aloadN X37.here hx rfl (hb hby own_d3_96) rfl rfl ?_
    exact k
  clear R37
  obtain ⟨T39, h39, X39, e39, E39, A39, B39, st39⟩ := cloneH X37 hx hZ (ad := "[I") hown (oW hw 43 rfl) (oW hw 44 rfl) (oW hw 31 rfl) (oW hw 29 rfl) (oW hw 45 rfl) (oW hw 46 rfl) e37 (Arv.arh f30) f31 (g := (mkF m 97 #[oR a1, oD 0, .second, oR a3, oR a4, .unset] [(.ref a3), (.int 1), (.ref er)])) rfl (by rw [hml]; rfl) rfl (hb hby own_d3_97) (by decide) (W := 2) (cap := 1) oL (by decide) (by decide) (by decide) (by decide)
  obtain ⟨b39, g39⟩ : ∃ z, z = h12.size := ⟨_, rfl⟩
  rw [← g39] at A39 B39 st39
  have R39 := fun t k => R38 t (st39 t k)
  clear R38 st39 X37 e37
  have ne_a1_b39 : a1 ≠ b39 := Nat.ne_of_lt (Nat.lt_of_lt_of_le f13.lt (Nat.le_of_eq g39.symm))
  have ne_a3_b39 : a3 ≠ b39 := Nat.ne_of_lt (Nat.lt_of_lt_of_le f30.lt (Nat.le_of_eq g39.symm))
  have ne_a4_b39 : a4 ≠ b39 := Nat.ne_of_lt (Nat.lt_of_lt_of_le f32.lt (Nat.le_of_eq g39.symm))
  have ne_co_b39 : co ≠ b39 := Nat.ne_of_lt (Nat.lt_of_lt_of_le V12.lt (Nat.le_of_eq g39.symm))
  have ne_er_b39 : er ≠ b39 := Nat.ne_of_lt (Nat.lt_of_lt_of_le f27.lt (Nat.le_of_eq g39.symm))
  have ne_ev_b39 : ev ≠ b39 := Nat.ne_of_lt (Nat.lt_of_lt_of_le f28.lt (Nat.le_of_eq g39.symm))
  have ne_po_b39 : po ≠ b39 := Nat.ne_of_lt (Nat.lt_of_lt_of_le f29.lt (Nat.le_of_eq g39.symm))
  have g_b39 : n0 ≤ b39 := Nat.le_trans Z12 (Nat.le_of_eq g39.symm)
  have sz_b39 : h0.size ≤ b39 := Nat.le_trans K12.1 (Nat.le_of_eq g39.symm)
  have Z39 : n0 ≤ h39.size := Nat.le_trans Z12 E39.1
  clear Z12
  have K39 : Keep h0 h39 [a1, co, er, ev, po] := K12.ext E39
  clear K12
  have f40 : oF Z h39 a1 "rows" "I" (.int 2) := f13.ext E39
  clear f13
  have f41 : oF Z h39 a1 "costs" "[D" (.ref co) := f14.ext E39
  clear f14
  have f42 : oF Z h39 a1 "entryRows" "[[I" (.ref er) := f15.ext E39
  clear f15
  have f43 : oF Z h39 a1 "entryValues" "[[D" (.ref ev) := f16.ext E39
  clear f16
  have f44 : oF Z h39 a1 "position" "[I" (.ref po) := f17.ext E39
  clear f17
  have f45 : oF Z h39 a1 "rhs" "[D" (.ref rh) := f18.ext E39
  clear f18
  have f46 : oF Z h39 a1 "basis" "[I" .null := f19.ext E39
  clear f19
  have f47 : oF Z h39 a1 "start" "[I" .null := f20.ext E39
  clear f20
  have f48 : oF Z h39 a1 "inverse" "[[D" .null := f21.ext E39
  clear f21
  have f49 : oF Z h39 a1 "primal" "[D" .null := f22.ext E39
  clear f22
  have f50 : oF Z h39 a1 "pivotsSinceRefactor" "I" (.int 0) := f23.ext E39
  clear f23
  have f51 : oF Z h39 a1 "infeasibility" "D" (.double 0) := f24.ext E39
  clear f24
  have f52 : oF Z h39 a1 "columns" "I" (.int 1) := f25.ext E39
  clear f25
  have f53 : Exa Z h39 a1 "com/example/trunkwright/trunkwright/traffic/RevisedSimplex" := f26.ext E39
  clear f26
  have f54 : Arv Z h39 er kb (.array .int) (16 : Int32) (oU (.ref en0) .null .null) .null := f27.ext E39
  clear f27
  have f55 : Arv Z h39 ev kc (.array .double) (16 : Int32) (oU (.ref vn0) .null .null) .null := f28.ext E39
  clear f28
  have f56 : Arv Z h39 po kd .int (16 : Int32) (oZ (.int (-1)) (.int 0) (.int 0)) (.int 0) := f29.ext E39
  clear f29
  have f57 : Arv Z h39 a3 ke .int (1 : Int32) [(.int rw)] (.int 0) := f30.ext E39
  clear f30
  have f58 : Exa Z h39 a3 "[I" := f31.ext E39
  clear f31
  have f59 : Arv Z h39 a4 kf .double (1 : Int32) [(.double av)] (.double 0) := f32.ext E39
  clear f32
  have f60 : Exa Z h39 a4 "[D" := f33.ext E39
  clear f33
  have f61 : Arv Z h39 co ka .double (16 : Int32) (oC (.double 0) (.double 0) (.double 0)) (.double 0) := V12.ext E39
  clear V12
  clear E39
  have V39 : Arv Z h39 b39 ke .int (1 : Int32) [(.int rw)] (.int 0) := A39
  obtain ⟨T62, X62, e62, st62⟩ := castY X39 hx hZ hown (oW hw 13 rfl) e39 (Ins.self B39) (g := (mkF m 100 #[oR a1, oD 0, .second, oR a3, oR a4, .unset] [(.ref b39), (.int 1), (.ref er)])) rfl rfl (hb hby own_d3_100)
  have R62 := fun t k => R39 t (st62 t k)
  clear R39 st62 X39 e39
  obtain ⟨cl63, Ar63, q63, S63, N63', H63, G63⟩ := id f54
  have hin63 : ¬ ((1 : Int32) < 0 ∨ cl63.slots.size ≤ ((1 : Int32)).toNatClampNeg) := inb_of S63 ⟨by decide, by decide⟩
  obtain ⟨T64, h64, X64, e64, W64, st64⟩ := stR X62 hx hZ e62 Ar63 (j := (1 : Int32)) hin63 rfl (Sto.ofVA Ar63 q63 Oer (Ins.self B39)) (g := (mkF m 103 #[oR a1, oD 0, .second, oR a3, oR a4, .unset] [(.ref b39), (.int 1), (.ref er)])) rfl rfl (hb hby own_d3_103)
  have R64 := fun t k => R62 t (st64 t k)
  clear R62 st64 X62 e62
  have Z64 : n0 ≤ h64.size := Nat.le_trans Z39 (Keep.of_wr W64).1
  clear Z39
  have K64 : Keep h0 h64 [a1, co, er, ev, po] := K39.wr W64 (Or.inl (by simp))
  have N64 := Fr.snoc X64 N12 g_er
  clear K39
  clear N12
  have f65 : oF Z h64 a1 "rows" "I" (.int 2) := f40.other W64 (Or.inl (Ne.symm ne_er_a1))
  clear f40
  have f66 : oF Z h64 a1 "costs" "[D" (.ref co) := f41.other W64 (Or.inl (Ne.symm ne_er_a1))
  clear f41
  have f67 : oF Z h64 a1 "entryRows" "[[I" (.ref er) := f42.other W64 (Or.inl (Ne.symm ne_er_a1))
  clear f42
  have f68 : oF Z h64 a1 "entryValues" "[[D" (.ref ev) := f43.other W64 (Or.inl (Ne.symm ne_er_a1))
  clear f43
  have f69 : oF Z h64 a1 "position" "[I" (.ref po) := f44.other W64 (Or.inl (Ne.symm ne_er_a1))
  clear f44
  have f70 : oF Z h64 a1 "rhs" "[D" (.ref rh) := f45.other W64 (Or.inl (Ne.symm ne_er_a1))
  clear f45
  have f71 : oF Z h64 a1 "basis" "[I" .null := f46.other W64 (Or.inl (Ne.symm ne_er_a1))
  clear f46
  have f72 : oF Z h64 a1 "start" "[I" .null := f47.other W64 (Or.inl (Ne.symm ne_er_a1))
  clear f47
  have f73 : oF Z h64 a1 "inverse" "[[D" .null := f48.other W64 (Or.inl (Ne.symm ne_er_a1))
  clear f48
  have f74 : oF Z h64 a1 "primal" "[D" .null := f49.other W64 (Or.inl (Ne.symm ne_er_a1))
  clear f49
  have f75 : oF Z h64 a1 "pivotsSinceRefactor" "I" (.int 0) := f50.other W64 (Or.inl (Ne.symm ne_er_a1))
  clear f50
  have f76 : oF Z h64 a1 "infeasibility" "D" (.double 0) := f51.other W64 (Or.inl (Ne.symm ne_er_a1))
  clear f51
  have f77 : oF Z h64 a1 "columns" "I" (.int 1) := f52.other W64 (Or.inl (Ne.symm ne_er_a1))
  clear f52
  have f78 : Exa Z h64 a1 "com/example/trunkwright/trunkwright/traffic/RevisedSimplex" := f53.wr W64
  clear f53
  have f79 : Arv Z h64 ev kc (.array .double) (16 : Int32) (oU (.ref vn0) .null .null) .null := f55.other W64 ne_ev_er
  clear f55
  have f80 : Arv Z h64 po kd .int (16 : Int32) (oZ (.int (-1)) (.int 0) (.int 0)) (.int 0) := f56.other W64 ne_po_er
  clear f56
  have f81 : Arv Z h64 a4 kf .double (1 : Int32) [(.double av)] (.double 0) := f59.other W64 ne_a4_er
  clear f59
  have f82 : Exa Z h64 a4 "[D" := f60.wr W64
  clear f60
  have f83 : Arv Z h64 co ka .double (16 : Int32) (oC (.double 0) (.double 0) (.double 0)) (.double 0) := f61.other W64 (Ne.symm ne_er_co)
  clear f61
  have f84 : Exa Z h64 b39 "[I" := B39.wr W64
  have f85 : Arv Z h64 b39 ke .int (1 : Int32) [(.int rw)] (.int 0) := V39.other W64 (Ne.symm ne_er_b39)
  clear V39
  have V64 : Arv Z h64 er kb (.array .int) (16 : Int32) (oU (.ref en0) (.ref b39) .null) .null := Arv.set Ar63 q63 S63 N63' H63 G63 rfl W64 1 rfl (Nat.le_of_ble_eq_true rfl)
  have R86 : ∀ t, oG p e below T64 m 105 #[oR a1, oD 0, .second, oR a3, oR a4, .unset] [(.ref a1)] t → Steps p.tables e below AA t := by
    intro t k
    refine R64 t ?_
    refine XS.aloadN X64.here hx rfl (hb hby own_d3_104) rfl rfl ?_
    exact k
  clear R64
  obtain ⟨T87, X87, e87, st87⟩ := getF X64 hx hZ hown (host := "") (Or.inl (oW hw 19 rfl)) Via.refl e64 f68 (g := (mkF m 105 #[oR a1, oD 0, .second, oR a3, oR a4, .unset] [(.ref a1)])) rfl rfl (hb hby own_d3_105)
  have R87 := fun t k => R86 t (st87 t k)
  clear R86 st87 X64 e64
  have R88 : ∀ t, oG p e below T87 m 109 #[oR a1, oD 0, .second, oR a3, oR a4, .unset] [(.ref a1), (.ref ev)] t → Steps p.tables e below AA t := by
    intro t k
    refine R87 t ?_
    refine XS.aloadN X87.here hx rfl (hb hby own_d3_108) rfl rfl ?_
    exact k
  clear R87
  obtain ⟨T89, X89, e89, st89⟩ := getF X87 hx hZ hown (host := "") (Or.inl (oW hw 41 rfl)) Via.refl e87 f77 (g := (mkF m 109 #[oR a1, oD 0, .second, oR a3, oR a4, .unset] [(.ref a1), (.ref ev)])) rfl rfl (hb hby own_d3_109)
  have R89 := fun t k => R88 t (st89 t k)
  clear R88 st89 X87 e87
  have R90 : ∀ t, oG p e below T89 m 114 #[oR a1, oD 0, .second, oR a3, oR a4, .unset] [(.ref a4), (.int 1), (.ref ev)] t → Steps p.tables e below AA t := by
    intro t k
    refine R89 t ?_
    refine XS.aload X89.here hx rfl (hb hby own_d3_112) rfl rfl ?_
    exact k
  clear R89
  obtain ⟨T91, h91, X91, e91, E91, A91, B91, st91⟩ := cloneH X89 hx hZ (ad := "[D") hown (oW hw 26 rfl) (oW hw 27 rfl) (oW hw 31 rfl) (oW hw 29 rfl) (oW hw 30 rfl) (oW hw 32 rfl) e89 (Arv.arh f81) f82 (g := (mkF m 114 #[oR a1, oD 0, .second, oR a3, oR a4, .unset] [(.ref a4), (.int 1), (.ref ev)])) rfl (by rw [hml]; rfl) rfl (hb hby own_d3_114) (by decide) (W := 2) (cap := 1) oL (by decide) (by decide) (by decide) (by decide)
  obtain ⟨b91, g91⟩ : ∃ z, z = h64.size := ⟨_, rfl⟩
  rw [← g91] at A91 B91 st91
  have R91 := fun t k => R90 t (st91 t k)
  clear R90 st91 X89 e89
  have ne_a1_b91 : a1 ≠ b91 := Nat.ne_of_lt (Nat.lt_of_lt_of_le f65.lt (Nat.le_of_eq g91.symm))
  have ne_a4_b91 : a4 ≠ b91 := Nat.ne_of_lt (Nat.lt_of_lt_of_le f81.lt (Nat.le_of_eq g91.symm))
  have ne_b39_b91 : b39 ≠ b91 := Nat.ne_of_lt (Nat.lt_of_lt_of_le f84.lt (Nat.le_of_eq g91.symm))
  have ne_co_b91 : co ≠ b91 := Nat.ne_of_lt (Nat.lt_of_lt_of_le f83.lt (Nat.le_of_eq g91.symm))
  have ne_er_b91 : er ≠ b91 := Nat.ne_of_lt (Nat.lt_of_lt_of_le V64.lt (Nat.le_of_eq g91.symm))
  have ne_ev_b91 : ev ≠ b91 := Nat.ne_of_lt (Nat.lt_of_lt_of_le f79.lt (Nat.le_of_eq g91.symm))
  have ne_po_b91 : po ≠ b91 := Nat.ne_of_lt (Nat.lt_of_lt_of_le f80.lt (Nat.le_of_eq g91.symm))
  have g_b91 : n0 ≤ b91 := Nat.le_trans Z64 (Nat.le_of_eq g91.symm)
  have sz_b91 : h0.size ≤ b91 := Nat.le_trans K64.1 (Nat.le_of_eq g91.symm)
  have Z91 : n0 ≤ h91.size := Nat.le_trans Z64 E91.1
  clear Z64
  have K91 : Keep h0 h91 [a1, co, er, ev, po] := K64.ext E91
  clear K64
  have f92 : oF Z h91 a1 "rows" "I" (.int 2) := f65.ext E91
  clear f65
  have f93 : oF Z h91 a1 "costs" "[D" (.ref co) := f66.ext E91
  clear f66
  have f94 : oF Z h91 a1 "entryRows" "[[I" (.ref er) := f67.ext E91
  clear f67
  have f95 : oF Z h91 a1 "entryValues" "[[D" (.ref ev) := f68.ext E91
  clear f68
  have f96 : oF Z h91 a1 "position" "[I" (.ref po) := f69.ext E91
  clear f69
  have f97 : oF Z h91 a1 "rhs" "[D" (.ref rh) := f70.ext E91
  clear f70
  have f98 : oF Z h91 a1 "basis" "[I" .null := f71.ext E91
  clear f71
  have f99 : oF Z h91 a1 "start" "[I" .null := f72.ext E91
  clear f72
  have f100 : oF Z h91 a1 "inverse" "[[D" .null := f73.ext E91
  clear f73
  have f101 : oF Z h91 a1 "primal" "[D" .null := f74.ext E91
  clear f74
  have f102 : oF Z h91 a1 "pivotsSinceRefactor" "I" (.int 0) := f75.ext E91
  clear f75
  have f103 : oF Z h91 a1 "infeasibility" "D" (.double 0) := f76.ext E91
  clear f76
  have f104 : oF Z h91 a1 "columns" "I" (.int 1) := f77.ext E91
  clear f77
  have f105 : Exa Z h91 a1 "com/example/trunkwright/trunkwright/traffic/RevisedSimplex" := f78.ext E91
  clear f78
  have f106 : Arv Z h91 ev kc (.array .double) (16 : Int32) (oU (.ref vn0) .null .null) .null := f79.ext E91
  clear f79
  have f107 : Arv Z h91 po kd .int (16 : Int32) (oZ (.int (-1)) (.int 0) (.int 0)) (.int 0) := f80.ext E91
  clear f80
  have f108 : Arv Z h91 a4 kf .double (1 : Int32) [(.double av)] (.double 0) := f81.ext E91
  clear f81
  have f109 : Exa Z h91 a4 "[D" := f82.ext E91
  clear f82
  have f110 : Arv Z h91 co ka .double (16 : Int32) (oC (.double 0) (.double 0) (.double 0)) (.double 0) := f83.ext E91
  clear f83
  have f111 : Exa Z h91 b39 "[I" := f84.ext E91
  clear f84
  have f112 : Arv Z h91 b39 ke .int (1 : Int32) [(.int rw)] (.int 0) := f85.ext E91
  clear f85
  have f113 : Arv Z h91 er kb (.array .int) (16 : Int32) (oU (.ref en0) (.ref b39) .null) .null := V64.ext E91
  clear V64
  clear E91
  have V91 : Arv Z h91 b91 kf .double (1 : Int32) [(.double av)] (.double 0) := A91
  obtain ⟨T114, X114, e114, st114⟩ := castY X91 hx hZ hown (oW hw 17 rfl) e91 (Ins.self B91) (g := (mkF m 117 #[oR a1, oD 0, .second, oR a3, oR a4, .unset] [(.ref b91), (.int 1), (.ref ev)])) rfl rfl (hb hby own_d3_117)
  have R114 := fun t k => R91 t (st114 t k)
  clear R91 st114 X91 e91
  obtain ⟨cl115, Ar115, q115, S115, N115', H115, G115⟩ := id f106
  have hin115 : ¬ ((1 : Int32) < 0 ∨ cl115.slots.size ≤ ((1 : Int32)).toNatClampNeg) := inb_of S115 ⟨by decide, by decide⟩
  obtain ⟨T116, h116, X116, e116, W116, st116⟩ := stR X114 hx hZ e114 Ar115 (j := (1 : Int32)) hin115 rfl (Sto.ofVA Ar115 q115 Oev (Ins.self B91)) (g := (mkF m 120 #[oR a1, oD 0, .second, oR a3, oR a4, .unset] [(.ref b91), (.int 1), (.ref ev)])) rfl rfl (hb hby own_d3_120)
  have R116 := fun t k => R114 t (st116 t k)
  clear R114 st116 X114 e114
  have Z116 : n0 ≤ h116.size := Nat.le_trans Z91 (Keep.of_wr W116).1
  clear Z91
  have K116 : Keep h0 h116 [a1, co, er, ev, po] := K91.wr W116 (Or.inl (by simp))
  have N116 := Fr.snoc X116 N64 g_ev
  clear K91
  clear N64
  have f117 : oF Z h116 a1 "rows" "I" (.int 2) := f92.other W116 (Or.inl (Ne.symm ne_ev_a1))
  clear f92
  have f118 : oF Z h116 a1 "costs" "[D" (.ref co) := f93.other W116 (Or.inl (Ne.symm ne_ev_a1))
  clear f93
  have f119 : oF Z h116 a1 "entryRows" "[[I" (.ref er) := f94.other W116 (Or.inl (Ne.symm ne_ev_a1))
  clear f94
  have f120 : oF Z h116 a1 "entryValues" "[[D" (.ref ev) := f95.other W116 (Or.inl (Ne.symm ne_ev_a1))
  clear f95
  have f121 : oF Z h116 a1 "position" "[I" (.ref po) := f96.other W116 (Or.inl (Ne.symm ne_ev_a1))
  clear f96
  have f122 : oF Z h116 a1 "rhs" "[D" (.ref rh) := f97.other W116 (Or.inl (Ne.symm ne_ev_a1))
  clear f97
  have f123 : oF Z h116 a1 "basis" "[I" .null := f98.other W116 (Or.inl (Ne.symm ne_ev_a1))
  clear f98
  have f124 : oF Z h116 a1 "start" "[I" .null := f99.other W116 (Or.inl (Ne.symm ne_ev_a1))
  clear f99
  have f125 : oF Z h116 a1 "inverse" "[[D" .null := f100.other W116 (Or.inl (Ne.symm ne_ev_a1))
  clear f100
  have f126 : oF Z h116 a1 "primal" "[D" .null := f101.other W116 (Or.inl (Ne.symm ne_ev_a1))
  clear f101
  have f127 : oF Z h116 a1 "pivotsSinceRefactor" "I" (.int 0) := f102.other W116 (Or.inl (Ne.symm ne_ev_a1))
  clear f102
  have f128 : oF Z h116 a1 "infeasibility" "D" (.double 0) := f103.other W116 (Or.inl (Ne.symm ne_ev_a1))
  clear f103
  have f129 : oF Z h116 a1 "columns" "I" (.int 1) := f104.other W116 (Or.inl (Ne.symm ne_ev_a1))
  clear f104
  have f130 : Exa Z h116 a1 "com/example/trunkwright/trunkwright/traffic/RevisedSimplex" := f105.wr W116
  clear f105
  have f131 : Arv Z h116 po kd .int (16 : Int32) (oZ (.int (-1)) (.int 0) (.int 0)) (.int 0) := f107.other W116 ne_po_ev
  clear f107
  have f132 : Arv Z h116 co ka .double (16 : Int32) (oC (.double 0) (.double 0) (.double 0)) (.double 0) := f110.other W116 (Ne.symm ne_ev_co)
  clear f110
  have f133 : Exa Z h116 b39 "[I" := f111.wr W116
  clear f111
  have f134 : Arv Z h116 b39 ke .int (1 : Int32) [(.int rw)] (.int 0) := f112.other W116 (Ne.symm ne_ev_b39)
  clear f112
  have f135 : Arv Z h116 er kb (.array .int) (16 : Int32) (oU (.ref en0) (.ref b39) .null) .null := f113.other W116 (Ne.symm ne_ev_er)
  clear f113
  have f136 : Exa Z h116 b91 "[D" := B91.wr W116
  have f137 : Arv Z h116 b91 kf .double (1 : Int32) [(.double av)] (.double 0) := V91.other W116 (Ne.symm ne_ev_b91)
  clear V91
  have V116 : Arv Z h116 ev kc (.array .double) (16 : Int32) (oU (.ref vn0) (.ref b91) .null) .null := Arv.set Ar115 q115 S115 N115' H115 G115 rfl W116 1 rfl (Nat.le_of_ble_eq_true rfl)
  have R138 : ∀ t, oG p e below T116 m 122 #[oR a1, oD 0, .second, oR a3, oR a4, .unset] [(.ref a1)] t → Steps p.tables e below AA t := by
    intro t k
    refine R116 t ?_
    refine XS.aloadN X116.here hx rfl (hb hby own_d3_121) rfl rfl ?_
    exact k
  clear R116
  obtain ⟨T139, X139, e139, st139⟩ := getF X116 hx hZ hown (host := "") (Or.inl (oW hw 22 rfl)) Via.refl e116 f121 (g := (mkF m 122 #[oR a1, oD 0, .second, oR a3, oR a4, .unset] [(.ref a1)])) rfl rfl (hb hby own_d3_122)
  have R139 := fun t k => R138 t (st139 t k)
  clear R138 st139 X116 e116
  have R140 : ∀ t, oG p e below T139 m 126 #[oR a1, oD 0, .second, oR a3, oR a4, .unset] [(.ref a1), (.ref po)] t → Steps p.tables e below AA t := by
    intro t k
    refine R139 t ?_
    refine XS.aloadN X139.here hx rfl (hb hby own_d3_125) rfl rfl ?_
    exact k
  clear R139
  obtain ⟨T141, X141, e141, st141⟩ := getF X139 hx hZ hown (host := "") (Or.inl (oW hw 41 rfl)) Via.refl e139 f129 (g := (mkF m 126 #[oR a1, oD 0, .second, oR a3, oR a4, .unset] [(.ref a1), (.ref po)])) rfl rfl (hb hby own_d3_126)
  have R141 := fun t k => R140 t (st141 t k)
  clear R140 st141 X139 e139
  have R142 : ∀ t, oG p e below T141 m 130 #[oR a1, oD 0, .second, oR a3, oR a4, .unset] [(.int (-1)), (.int 1), (.ref po)] t → Steps p.tables e below AA t := by
    intro t k
    refine R141 t ?_
    refine XS.iconst X141.here hx rfl (hb hby own_d3_129) ?_
    exact k
  clear R141
  obtain ⟨cl143, Ar143, q143, S143, N143', H143, G143⟩ := id f131
  have hin143 : ¬ ((1 : Int32) < 0 ∨ cl143.slots.size ≤ ((1 : Int32)).toNatClampNeg) := inb_of S143 ⟨by decide, by decide⟩
  obtain ⟨T144, h144, X144, e144, W144, st144⟩ := stI X141 hx hZ e141 Ar143 (j := (1 : Int32)) hin143 (g := (mkF m 130 #[oR a1, oD 0, .second, oR a3, oR a4, .unset] [(.int (-1)), (.int 1), (.ref po)])) rfl rfl (hb hby own_d3_130)
  have R144 := fun t k => R142 t (st144 t k)
  clear R142 st144 X141 e141
  have Z144 : n0 ≤ h144.size := Nat.le_trans Z116 (Keep.of_wr W144).1
  clear Z116
  have K144 : Keep h0 h144 [a1, co, er, ev, po] := K116.wr W144 (Or.inl (by simp))
  have N144 := Fr.snoc X144 N116 g_po
  clear K116
  clear N116
  have f145 : oF Z h144 a1 "rows" "I" (.int 2) := f117.other W144 (Or.inl (Ne.symm ne_po_a1))
  clear f117
  have f146 : oF Z h144 a1 "costs" "[D" (.ref co) := f118.other W144 (Or.inl (Ne.symm ne_po_a1))
  clear f118
  have f147 : oF Z h144 a1 "entryRows" "[[I" (.ref er) := f119.other W144 (Or.inl (Ne.symm ne_po_a1))
  clear f119
  have f148 : oF Z h144 a1 "entryValues" "[[D" (.ref ev) := f120.other W144 (Or.inl (Ne.symm ne_po_a1))
  clear f120
  have f149 : oF Z h144 a1 "position" "[I" (.ref po) := f121.other W144 (Or.inl (Ne.symm ne_po_a1))
  clear f121
  have f150 : oF Z h144 a1 "rhs" "[D" (.ref rh) := f122.other W144 (Or.inl (Ne.symm ne_po_a1))
  clear f122
  have f151 : oF Z h144 a1 "basis" "[I" .null := f123.other W144 (Or.inl (Ne.symm ne_po_a1))
  clear f123
  have f152 : oF Z h144 a1 "start" "[I" .null := f124.other W144 (Or.inl (Ne.symm ne_po_a1))
  clear f124
  have f153 : oF Z h144 a1 "inverse" "[[D" .null := f125.other W144 (Or.inl (Ne.symm ne_po_a1))
  clear f125
  have f154 : oF Z h144 a1 "primal" "[D" .null := f126.other W144 (Or.inl (Ne.symm ne_po_a1))
  clear f126
  have f155 : oF Z h144 a1 "pivotsSinceRefactor" "I" (.int 0) := f127.other W144 (Or.inl (Ne.symm ne_po_a1))
  clear f127
  have f156 : oF Z h144 a1 "infeasibility" "D" (.double 0) := f128.other W144 (Or.inl (Ne.symm ne_po_a1))
  clear f128
  have f157 : oF Z h144 a1 "columns" "I" (.int 1) := f129.other W144 (Or.inl (Ne.symm ne_po_a1))
  clear f129
  have f158 : Exa Z h144 a1 "com/example/trunkwright/trunkwright/traffic/RevisedSimplex" := f130.wr W144
  clear f130
  have f159 : Arv Z h144 co ka .double (16 : Int32) (oC (.double 0) (.double 0) (.double 0)) (.double 0) := f132.other W144 (Ne.symm ne_po_co)
  clear f132
  have f160 : Exa Z h144 b39 "[I" := f133.wr W144
  clear f133
  have f161 : Arv Z h144 b39 ke .int (1 : Int32) [(.int rw)] (.int 0) := f134.other W144 (Ne.symm ne_po_b39)
  clear f134
  have f162 : Arv Z h144 er kb (.array .int) (16 : Int32) (oU (.ref en0) (.ref b39) .null) .null := f135.other W144 (Ne.symm ne_po_er)
  clear f135
  have f163 : Exa Z h144 b91 "[D" := f136.wr W144
  clear f136
  have f164 : Arv Z h144 b91 kf .double (1 : Int32) [(.double av)] (.double 0) := f137.other W144 (Ne.symm ne_po_b91)
  clear f137
  have f165 : Arv Z h144 ev kc (.array .double) (16 : Int32) (oU (.ref vn0) (.ref b91) .null) .null := V116.other W144 (Ne.symm ne_po_ev)
  clear V116
  have V144 : Arv Z h144 po kd .int (16 : Int32) (oZ (.int (-1)) (.int (-1)) (.int 0)) (.int 0) := Arv.set Ar143 q143 S143 N143' H143 G143 rfl W144 1 rfl (Nat.le_of_ble_eq_true rfl)
  clear Ar143 q143 S143 N143' H143 G143 hin143 W144 f131
  have R166 : ∀ t, oG p e below T144 m 133 #[oR a1, oD 0, .second, oR a3, oR a4, .unset] [(.ref a1), (.ref a1)] t → Steps p.tables e below AA t := by
    intro t k
    refine R144 t ?_
    refine XS.aloadN X144.here hx rfl (hb hby own_d3_131) rfl rfl ?_
    refine XS.dup X144.here hx rfl (hb hby own_d3_132) rfl rfl ?_
    exact k
  clear R144
  obtain ⟨T167, X167, e167, st167⟩ := getF X144 hx hZ hown (host := "") (Or.inl (oW hw 41 rfl)) Via.refl e144 f157 (g := (mkF m 133 #[oR a1, oD 0, .second, oR a3, oR a4, .unset] [(.ref a1), (.ref a1)])) rfl rfl (hb hby own_d3_133)
  have R167 := fun t k => R166 t (st167 t k)
  clear R166 st167 X144 e144
  have R168 : ∀ t, oG p e below T167 m 139 #[oR a1, oD 0, .second, oR a3, oR a4, .unset] [(.int 2), (.ref a1), (.int 1)] t → Steps p.tables e below AA t := by
    intro t k
    refine R167 t ?_
    refine XS.dupX1 X167.here hx rfl (hb hby own_d3_136) rfl rfl rfl ?_
    refine XS.iconst X167.here hx rfl (hb hby own_d3_137) ?_
    refine XS.iadd X167.here hx rfl (hb hby own_d3_138) rfl ?_
    exact k
  clear R167
  obtain ⟨T169, h169, X169, e169, W169, st169⟩ := putF X167 hx hZ hown (host := "") (Or.inl (oW hw 41 rfl)) Via.refl e167 f157 f158 (Or.inl (oW hw 42 rfl)) (oW hw 2 rfl) (ty := .int) (by decide) rfl rfl (g := (mkF m 139 #[oR a1, oD 0, .second, oR a3, oR a4, .unset] [(.int 2), (.ref a1), (.int 1)])) rfl rfl (hb hby own_d3_139)
  have R169 := fun t k => R168 t (st169 t k)
  clear R168 st169 X167 e167
  have Z169 : n0 ≤ h169.size := Nat.le_trans Z144 (Keep.of_wr W169).1
  clear Z144
  have K169 : Keep h0 h169 [a1, co, er, ev, po] := K144.wr W169 (Or.inl (by simp))
  clear K144
  have N169 := Fr.snoc X169 N144 g_a1
  clear N144
  have f170 : oF Z h169 a1 "rows" "I" (.int 2) := f145.other W169 (Or.inr (slot_ne (Or.inr (oW hw 25 rfl)) (Or.inl (oW hw 42 rfl)) (by decide) (t := .int) (t' := .int) (by decide) (by decide)))
  clear f145
  have f171 : oF Z h169 a1 "costs" "[D" (.ref co) := f146.other W169 (Or.inr (slot_ne (Or.inl (oW hw 12 rfl)) (Or.inl (oW hw 42 rfl)) (by decide) (t := (.array .double)) (t' := .int) (by decide) (by decide)))
  clear f146
  have f172 : oF Z h169 a1 "entryRows" "[[I" (.ref er) := f147.other W169 (Or.inr (slot_ne (Or.inl (oW hw 16 rfl)) (Or.inl (oW hw 42 rfl)) (by decide) (t := (.array (.array .int))) (t' := .int) (by decide) (by decide)))
  clear f147
  have f173 : oF Z h169 a1 "entryValues" "[[D" (.ref ev) := f148.other W169 (Or.inr (slot_ne (Or.inl (oW hw 20 rfl)) (Or.inl (oW hw 42 rfl)) (by decide) (t := (.array (.array .double))) (t' := .int) (by decide) (by decide)))
  clear f148
  have f174 : oF Z h169 a1 "position" "[I" (.ref po) := f149.other W169 (Or.inr (slot_ne (Or.inl (oW hw 23 rfl)) (Or.inl (oW hw 42 rfl)) (by decide) (t := (.array .int)) (t' := .int) (by decide) (by decide)))
  clear f149
  have f175 : oF Z h169 a1 "rhs" "[D" (.ref rh) := f150.other W169 (Or.inr (slot_ne (Or.inr (oW hw 35 rfl)) (Or.inl (oW hw 42 rfl)) (by decide) (t := (.array .double)) (t' := .int) (by decide) (by decide)))
  clear f150
  have f176 : oF Z h169 a1 "basis" "[I" .null := f151.other W169 (Or.inr (slot_ne (Or.inl (oW hw 54 rfl)) (Or.inl (oW hw 42 rfl)) (by decide) (t := (.array .int)) (t' := .int) (by decide) (by decide)))
  clear f151
  have f177 : oF Z h169 a1 "start" "[I" .null := f152.other W169 (Or.inr (slot_ne (Or.inl (oW hw 56 rfl)) (Or.inl (oW hw 42 rfl)) (by decide) (t := (.array .int)) (t' := .int) (by decide) (by decide)))
  clear f152
  have f178 : oF Z h169 a1 "inverse" "[[D" .null := f153.other W169 (Or.inr (slot_ne (Or.inl (oW hw 75 rfl)) (Or.inl (oW hw 42 rfl)) (by decide) (t := (.array (.array .double))) (t' := .int) (by decide) (by decide)))
  clear f153
  have f179 : oF Z h169 a1 "primal" "[D" .null := f154.other W169 (Or.inr (slot_ne (Or.inl (oW hw 77 rfl)) (Or.inl (oW hw 42 rfl)) (by decide) (t := (.array .double)) (t' := .int) (by decide) (by decide)))
  clear f154
  have f180 : oF Z h169 a1 "pivotsSinceRefactor" "I" (.int 0) := f155.other W169 (Or.inr (slot_ne (Or.inl (oW hw 79 rfl)) (Or.inl (oW hw 42 rfl)) (by decide) (t := .int) (t' := .int) (by decide) (by decide)))
  clear f155
  have f181 : oF Z h169 a1 "infeasibility" "D" (.double 0) := f156.other W169 (Or.inr (slot_ne (Or.inl (oW hw 84 rfl)) (Or.inl (oW hw 42 rfl)) (by decide) (t := .double) (t' := .int) (by decide) (by decide)))
  clear f156
  have f182 : Exa Z h169 a1 "com/example/trunkwright/trunkwright/traffic/RevisedSimplex" := f158.wr W169
  clear f158
  have f183 : Arv Z h169 co ka .double (16 : Int32) (oC (.double 0) (.double 0) (.double 0)) (.double 0) := f159.other W169 ne_co_a1
  clear f159
  have f184 : Exa Z h169 b39 "[I" := f160.wr W169
  clear f160
  have f185 : Arv Z h169 b39 ke .int (1 : Int32) [(.int rw)] (.int 0) := f161.other W169 (Ne.symm ne_a1_b39)
  clear f161
  have f186 : Arv Z h169 er kb (.array .int) (16 : Int32) (oU (.ref en0) (.ref b39) .null) .null := f162.other W169 ne_er_a1
  clear f162
  have f187 : Exa Z h169 b91 "[D" := f163.wr W169
  clear f163
  have f188 : Arv Z h169 b91 kf .double (1 : Int32) [(.double av)] (.double 0) := f164.other W169 (Ne.symm ne_a1_b91)
  clear f164
  have f189 : Arv Z h169 ev kc (.array .double) (16 : Int32) (oU (.ref vn0) (.ref b91) .null) .null := f165.other W169 ne_ev_a1
  clear f165
  have f190 : Arv Z h169 po kd .int (16 : Int32) (oZ (.int (-1)) (.int (-1)) (.int 0)) (.int 0) := V144.other W169 ne_po_a1
  clear V144
  have Fw169 : oF Z h169 a1 "columns" "I" (.int 2) := f157.same W169
  subst hAA
  obtain ⟨fs, hr, hrun, hended, hW, hsame⟩ := X169.leave (v := some (.int 1)) (fun h => by rw [Bd.returns] at h; cases h)
  refine ⟨_, _, R169 _ ?_, hrun, hended, _, _, rfl, ?_, ⟨_, rfl⟩, hW, hsame.mono (by decide) (by decide)⟩
  · exact retOut X169 hx Bd.returns rfl (Or.inl ⟨rfl, Or.inl rfl, _, rfl⟩) (hb hby own_d3_142) hr
  · show Q_rmAd1 Z a1 a3 a4 co er ev po rh en0 vn0 ka kb kc kd ke kf rw av h0 n0 _ T169.heap _
    rw [e169]
    exact ⟨rfl, N169, b39, b91, K169, sz_b39, sz_b91, ne_b39_b91, f170, f171, f172, f173, f174, f175, f176, f177, f178, f179, f180, f181, Fw169, f183, f186, f189, f190, f185, f188⟩
theorem own_ef_rmAd2 (m : MethodId) (x0 : Addr) (x1 : UInt64) (x2 : Addr) (x3 : Addr) : entryFrame m #[(.ref x0), (.double x1), (.ref x2), (.ref x3)] 6 = mkF m 0 #[oR x0, oD x1, .second, oR x2, oR x3, .unset] [] := by first | (simp [entryFrame, mkF, argsToLocals, Value.category]; done) | rfl
def Q_rmAd2 (Z : State) (a1 a3 a4 co er ev po rh en0 en1 vn0 vn1 : Addr) (ka kb kc kd ke kf : ClassId) (rw : Int32) (av : UInt64) (h0 : Heap) (n0 : Nat) (v : Option Value) (h : Heap) (L : List Loc) : Prop := v = some (.int 2) ∧ Fr n0 L ∧ ∃ (nr nv : Addr), Keep h0 h [a1, co, er, ev, po] ∧ h0.size ≤ nr ∧ h0.size ≤ nv ∧ nr ≠ nv ∧ oF Z h a1 "rows" "I" (.int 2) ∧ oF Z h a1 "costs" "[D" (.ref co) ∧ oF Z h a1 "entryRows" "[[I" (.ref er) ∧ oF Z h a1 "entryValues" "[[D" (.ref ev) ∧ oF Z h a1 "position" "[I" (.ref po) ∧ oF Z h a1 "rhs" "[D" (.ref rh) ∧ oF Z h a1 "basis" "[I" .null ∧ oF Z h a1 "start" "[I" .null ∧ oF Z h a1 "inverse" "[[D" .null ∧ oF Z h a1 "primal" "[D" .null ∧ oF Z h a1 "pivotsSinceRefactor" "I" (.int 0) ∧ oF Z h a1 "infeasibility" "D" (.double 0) ∧ oF Z h a1 "columns" "I" (.int 3) ∧ Arv Z h co ka .double (16 : Int32) (oC (.double 0) (.double 0) (.double 0)) (.double 0) ∧ Arv Z h er kb (.array .int) (16 : Int32) (oU (.ref en0) (.ref en1) (.ref nr)) .null ∧ Arv Z h ev kc (.array .double) (16 : Int32) (oU (.ref vn0) (.ref vn1) (.ref nv)) .null ∧ Arv Z h po kd .int (16 : Int32) (oZ (.int (-1)) (.int (-1)) (.int (-1))) (.int 0) ∧ Arv Z h nr ke .int (1 : Int32) [(.int rw)] (.int 0) ∧ Arv Z h nv kf .double (1 : Int32) [(.double av)] (.double 0)
set_option maxRecDepth 65536 in
set_option maxHeartbeats 40000000 in
theorem rmAd2 (l : Launch) (Z : State) (a0 : Array Value) (hw : ∀ d ∈ tables_1, d.before a0 Z = true) (ws : List Jvm.Cond) (a1 a3 a4 co er ev po rh en0 en1 vn0 vn1 : Addr) (ka kb kc kd ke kf : ClassId) (rw : Int32) (av : UInt64) (h0 : Heap) (n0 : Nat) (Z0 : n0 ≤ h0.size) (F_a1_rows : oF Z h0 a1 "rows" "I" (.int 2)) (F_a1_costs : oF Z h0 a1 "costs" "[D" (.ref co)) (F_a1_entryRows : oF Z h0 a1 "entryRows" "[[I" (.ref er)) (F_a1_entryValues : oF Z h0 a1 "entryValues" "[[D" (.ref ev)) (F_a1_position : oF Z h0 a1 "position" "[I" (.ref po)) (F_a1_rhs : oF Z h0 a1 "rhs" "[D" (.ref rh)) (F_a1_basis : oF Z h0 a1 "basis" "[I" .null) (F_a1_start : oF Z h0 a1 "start" "[I" .null) (F_a1_inverse : oF Z h0 a1 "inverse" "[[D" .null) (F_a1_primal : oF Z h0 a1 "primal" "[D" .null) (F_a1_pivotsSinceRefactor : oF Z h0 a1 "pivotsSinceRefactor" "I" (.int 0)) (F_a1_infeasibility : oF Z h0 a1 "infeasibility" "D" (.double 0)) (F_a1_columns : oF Z h0 a1 "columns" "I" (.int 2)) (E_a1 : Exa Z h0 a1 "com/example/trunkwright/trunkwright/traffic/RevisedSimplex") (V_co : Arv Z h0 co ka .double (16 : Int32) (oC (.double 0) (.double 0) (.double 0)) (.double 0)) (V_er : Arv Z h0 er kb (.array .int) (16 : Int32) (oU (.ref en0) (.ref en1) .null) .null) (V_ev : Arv Z h0 ev kc (.array .double) (16 : Int32) (oU (.ref vn0) (.ref vn1) .null) .null) (V_po : Arv Z h0 po kd .int (16 : Int32) (oZ (.int (-1)) (.int (-1)) (.int 0)) (.int 0)) (V_a3 : Arv Z h0 a3 ke .int (1 : Int32) [(.int rw)] (.int 0)) (E_a3 : Exa Z h0 a3 "[I") (V_a4 : Arv Z h0 a4 kf .double (1 : Int32) [(.double av)] (.double 0)) (E_a4 : Exa Z h0 a4 "[D") (Oer : OvrA Z kb .int "[I") (Oev : OvrA Z kc .double "[D") (g_a1 : n0 ≤ a1) (g_co : n0 ≤ co) (g_er : n0 ≤ er) (g_ev : n0 ≤ ev) (g_po : n0 ≤ po) (ne_co_a1 : co ≠ a1) (ne_er_a1 : er ≠ a1) (ne_er_co : er ≠ co) (ne_ev_a1 : ev ≠ a1) (ne_ev_co : ev ≠ co) (ne_ev_er : ev ≠ er) (ne_po_a1 : po ≠ a1) (ne_po_co : po ≠ co) (ne_po_er : po ≠ er) (ne_po_ev : po ≠ ev) (ne_a3_a1 : a3 ≠ a1) (ne_a3_co : a3 ≠ co) (ne_a3_er : a3 ≠ er) (ne_a3_ev : a3 ≠ ev) (ne_a3_po : a3 ≠ po) (ne_a4_a1 : a4 ≠ a1) (ne_a4_co : a4 ≠ co) (ne_a4_er : a4 ≠ er) (ne_a4_ev : a4 ≠ ev) (ne_a4_po : a4 ≠ po) :
    MetFree l (oN "add" "(D[I[D)I") (head1 (Jvm.Cond.code (oN "add" "(D[I[D)I") prog_82_method_2_code 6 (some .int) :: ws) ({ frames := 1, cells := 2, slots := 2, locals := 16 } : Room)) (fun a U => a = #[(.ref a1), (.double 0), (.ref a3), (.ref a4)] ∧ Z.Warmed39 U.vm ∧ U.heap = h0) (fun _ _ _ _ _ => True) (fun _ U o U' => ∃ v L, o = .returned v ∧ Q_rmAd2 Z a1 a3 a4 co er ev po rh en0 en1 vn0 vn1 ka kb kc kd ke kf rw av h0 n0 v U'.heap L ∧ FrameEnd U o U' L ({ frames := 1, cells := 2, slots := 2, locals := 16 } : Room).cells ({ frames := 1, cells := 2, slots := 2, locals := 16 } : Room).slots) := by
  refine MetFree.of_bodySF (plainFor_of_name own_pn0) hisR ?_
  intro p e s m args below meth c s₁ Bd hml0 hP hK
  obtain ⟨rfl, hZ, hh⟩ := hP
  have hx := Bd.exec
  have hby := Bd.bytes
  have hml : c.maxLocals = 6 := hml0
  have hown : s.vm.findClass "com/example/trunkwright/trunkwright/traffic/RevisedSimplex" = some m.cls := findClass_of_methodNamed Bd.named
  have hnm := (name_of_methodNamed Bd.named Bd.method).1
  have X0 : Stand p l e ({ frames := 1, cells := 2, slots := 2, locals := 16 } : Room) s m #[(.ref a1), (.double 0), (.ref a3), (.ref a4)] below meth c s₁ [] 0 0 := Stand.of_body Bd
  have e0 : s₁.heap = h0 := by rw [← hh, Bd.state]; rfl
  have N0 := Fr.nil n0
  have R0 : ∀ t, oG p e below s₁ m 0 #[oR a1, oD 0, .second, oR a3, oR a4, .unset] [] t → Steps p.tables e below (s₁.setTop (entryFrame m #[(.ref a1), (.double 0), (.ref a3), (.ref a4)] 6)) t := fun t k => castTop (own_ef_rmAd2 m a1 (0 : UInt64) a3 a4) k
  obtain ⟨AA, hAA⟩ : ∃ z, z = (s₁.setTop (entryFrame m #[(.ref a1), (.double 0), (.ref a3), (.ref a4)] 6)) := ⟨_, rfl⟩
  rw [← hAA] at R0
  have R1 : ∀ t, oG p e below s₁ m 1 #[oR a1, oD 0, .second, oR a3, oR a4, .unset] [(.ref a1)] t → Steps p.tables e below AA t := by
    intro t k
    refine R0 t ?_
    refine XS.aloadN X0.here hx rfl (hb hby own_d3_0) rfl rfl ?_
    exact k
  obtain ⟨T2, X2, e2, st2⟩ := getF X0 hx hZ hown (host := "") (Or.inl (oW hw 41 rfl)) Via.refl e0 F_a1_columns (g := (mkF m 1 #[oR a1, oD 0, .second, oR a3, oR a4, .unset] [(.ref a1)])) rfl rfl (hb hby own_d3_1)
  have R2 := fun t k => R1 t (st2 t k)
  clear R1 st2
  have R3 : ∀ t, oG p e below T2 m 5 #[oR a1, oD 0, .second, oR a3, oR a4, .unset] [(.ref a1), (.int 2)] t → Steps p.tables e below AA t := by
    intro t k
    refine R2 t ?_
    refine XS.aloadN X2.here hx rfl (hb hby own_d3_4) rfl rfl ?_
    exact k
  clear R2
  obtain ⟨T4, X4, e4, st4⟩ := getF X2 hx hZ hown (host := "") (Or.inl (oW hw 11 rfl)) Via.refl e2 F_a1_costs (g := (mkF m 5 #[oR a1, oD 0, .second, oR a3, oR a4, .unset] [(.ref a1), (.int 2)])) rfl rfl (hb hby own_d3_5)
  have R4 := fun t k => R3 t (st4 t k)
  clear R3 st4 X2 e2
  obtain ⟨cl5, Ar5, q5, S5, N5', H5, G5⟩ := id V_co
  have R6 : ∀ t, oG p e below T4 m 79 #[oR a1, oD 0, .second, oR a3, oR a4, .unset] [(.ref a1)] t → Steps p.tables e below AA t := by
    intro t k
    refine R4 t ?_
    refine X4.arraylength hx (by rw [e4]; exact Ar5.1) (State.isArrayOf_alike hZ.alike Ar5.2.1) (g := (mkF m 8 #[oR a1, oD 0, .second, oR a3, oR a4, .unset] [(.ref co), (.int 2)])) rfl rfl (hb hby own_d3_8) _ ?_
    rw [len_of S5 N5']
    refine XS.icmpYes X4.here hx rfl (pc0 := 9) (pc' := 78) rfl (hb hby own_d3_9) rfl (feq (by decide : ¬ ((2 : Int32) = (16 : Int32)))).2 (by decide) (by decide) ?_
    refine XS.aloadN X4.here hx rfl (hb hby own_d3_78) rfl rfl ?_
    exact k
  clear R4
  obtain ⟨T7, X7, e7, st7⟩ := getF X4 hx hZ hown (host := "") (Or.inl (oW hw 11 rfl)) Via.refl e4 F_a1_costs (g := (mkF m 79 #[oR a1, oD 0, .second, oR a3, oR a4, .unset] [(.ref a1)])) rfl rfl (hb hby own_d3_79)
  have R7 := fun t k => R6 t (st7 t k)
  clear R6 st7 X4 e4
  have R8 : ∀ t, oG p e below T7 m 83 #[oR a1, oD 0, .second, oR a3, oR a4, .unset] [(.ref a1), (.ref co)] t → Steps p.tables e below AA t := by
    intro t k
    refine R7 t ?_
    refine XS.aloadN X7.here hx rfl (hb hby own_d3_82) rfl rfl ?_
    exact k
  clear R7
  obtain ⟨T9, X9, e9, st9⟩ := getF X7 hx hZ hown (host := "") (Or.inl (oW hw 41 rfl)) Via.refl e7 F_a1_columns (g := (mkF m 83 #[oR a1, oD 0, .second, oR a3, oR a4, .unset] [(.ref a1), (.ref co)])) rfl rfl (hb hby own_d3_83)
  have R9 := fun t k => R8 t (st9 t k)
  clear R8 st9 X7 e7
  have R10 : ∀ t, oG p e below T9 m 87 #[oR a1, oD 0, .second, oR a3, oR a4, .unset] [(.double 0), (.int 2), (.ref co)] t → Steps p.tables e below AA t := by
    intro t k
    refine R9 t ?_
    refine XS.dloadN X9.here hx rfl (hb hby own_d3_86) rfl ?_
    exact k
  clear R9
  obtain ⟨cl11, Ar11, q11, S11, N11', H11, G11⟩ := id V_co
  have hin11 : ¬ ((2 : Int32) < 0 ∨ cl11.slots.size ≤ ((2 : Int32)).toNatClampNeg) := inb_of S11 ⟨by decide, by decide⟩
  obtain ⟨T12, h12, X12, e12, W12, st12⟩ := stD X9 hx hZ e9 Ar11 (j := (2 : Int32)) hin11 (g := (mkF m 87 #[oR a1, oD 0, .second, oR a3, oR a4, .unset] [(.double 0), (.int 2), (.ref co)])) rfl rfl (hb hby own_d3_87)
  have R12 := fun t k => R10 t (st12 t k)
  clear R10 st12 X9 e9
  have Z12 : n0 ≤ h12.size := Nat.le_trans Z0 (Keep.of_wr W12).1
  have K12 : Keep h0 h12 [a1, co, er, ev, po] := (Keep.refl h0 [a1, co, er, ev, po]).wr W12 (Or.inl (by simp))
  have N12 := Fr.snoc X12 N0 g_co
  have f13 : oF Z h12 a1 "rows" "I" (.int 2) := F_a1_rows.other W12 (Or.inl (Ne.symm ne_co_a1))
  have f14 : oF Z h12 a1 "costs" "[D" (.ref co) := F_a1_costs.other W12 (Or.inl (Ne.symm ne_co_a1))
  have f15 : oF Z h12 a1 "entryRows" "[[I" (.ref er) := F_a1_entryRows.other W12 (Or.inl (Ne.symm ne_co_a1))
  have f16 : oF Z h12 a1 "entryValues" "[[D" (.ref ev) := F_a1_entryValues.other W12 (Or.inl (Ne.symm ne_co_a1))
  have f17 : oF Z h12 a1 "position" "[I" (.ref po) := F_a1_position.other W12 (Or.inl (Ne.symm ne_co_a1))
  have f18 : oF Z h12 a1 "rhs" "[D" (.ref rh) := F_a1_rhs.other W12 (Or.inl (Ne.symm ne_co_a1))
  have f19 : oF Z h12 a1 "basis" "[I" .null := F_a1_basis.other W12 (Or.inl (Ne.symm ne_co_a1))
  have f20 : oF Z h12 a1 "start" "[I" .null := F_a1_start.other W12 (Or.inl (Ne.symm ne_co_a1))
  have f21 : oF Z h12 a1 "inverse" "[[D" .null := F_a1_inverse.other W12 (Or.inl (Ne.symm ne_co_a1))
  have f22 : oF Z h12 a1 "primal" "[D" .null := F_a1_primal.other W12 (Or.inl (Ne.symm ne_co_a1))
  have f23 : oF Z h12 a1 "pivotsSinceRefactor" "I" (.int 0) := F_a1_pivotsSinceRefactor.other W12 (Or.inl (Ne.symm ne_co_a1))
  have f24 : oF Z h12 a1 "infeasibility" "D" (.double 0) := F_a1_infeasibility.other W12 (Or.inl (Ne.symm ne_co_a1))
  have f25 : oF Z h12 a1 "columns" "I" (.int 2) := F_a1_columns.other W12 (Or.inl (Ne.symm ne_co_a1))
  have f26 : Exa Z h12 a1 "com/example/trunkwright/trunkwright/traffic/RevisedSimplex" := E_a1.wr W12
  have f27 : Arv Z h12 er kb (.array .int) (16 : Int32) (oU (.ref en0) (.ref en1) .null) .null := V_er.other W12 ne_er_co
  have f28 : Arv Z h12 ev kc (.array .double) (16 : Int32) (oU (.ref vn0) (.ref vn1) .null) .null := V_ev.other W12 ne_ev_co
  have f29 : Arv Z h12 po kd .int (16 : Int32) (oZ (.int (-1)) (.int (-1)) (.int 0)) (.int 0) := V_po.other W12 ne_po_co
  have f30 : Arv Z h12 a3 ke .int (1 : Int32) [(.int rw)] (.int 0) := V_a3.other W12 ne_a3_co
  have f31 : Exa Z h12 a3 "[I" := E_a3.wr W12
  have f32 : Arv Z h12 a4 kf .double (1 : Int32) [(.double av)] (.double 0) := V_a4.other W12 ne_a4_co
  have f33 : Exa Z h12 a4 "[D" := E_a4.wr W12
  have V12 : Arv Z h12 co ka .double (16 : Int32) (oC (.double 0) (.double 0) (.double 0)) (.double 0) := Arv.set Ar11 q11 S11 N11' H11 G11 rfl W12 2 rfl (Nat.le_of_ble_eq_true rfl)
  clear Ar11 q11 S11 N11' H11 G11 hin11 W12
  have R34 : ∀ t, oG p e below T12 m 89 #[oR a1, oD 0, .second, oR a3, oR a4, .unset] [(.ref a1)] t → Steps p.tables e below AA t := by
    intro t k
    refine R12 t ?_
    refine XS.aloadN X12.here hx rfl (hb hby own_d3_88) rfl rfl ?_
    exact k
  clear R12
  obtain ⟨T35, X35, e35, st35⟩ := getF X12 hx hZ hown (host := "") (Or.inl (oW hw 15 rfl)) Via.refl e12 f15 (g := (mkF m 89 #[oR a1, oD 0, .second, oR a3, oR a4, .unset] [(.ref a1)])) rfl rfl (hb hby own_d3_89)
  have R35 := fun t k => R34 t (st35 t k)
  clear R34 st35 X12 e12
  have R36 : ∀ t, oG p e below T35 m 93 #[oR a1, oD 0, .second, oR a3, oR a4, .unset] [(.ref a1), (.ref er)] t → Steps p.tables e below AA t := by
    intro t k
    refine R35 t ?_
    refine XS.aloadN X35.here hx rfl (hb hby own_d3_92) rfl rfl ?_
    exact k
  clear R35
  obtain ⟨T37, X37, e37, st37⟩ := getF X35 hx hZ hown (host := "") (Or.inl (oW hw 41 rfl)) Via.refl e35 f25 (g := (mkF m 93 #[oR a1, oD 0, .second, oR a3, oR a4, .unset] [(.ref a1), (.ref er)])) rfl rfl (hb hby own_d3_93)
  have R37 := fun t k => R36 t (st37 t k)
  clear R36 st37 X35 e35
  have R38 : ∀ t, oG p e below T37 m 97 #[oR a1, oD 0, .second, oR a3, oR a4, .unset] [(.ref a3), (.int 2), (.ref er)] t → Steps p.tables e below AA t := by
    intro t k
    refine R37 t ?_
    refine XS.aloadN X37.here hx rfl (hb hby own_d3_96) rfl rfl ?_
    exact k
  clear R37
  obtain ⟨T39, h39, X39, e39, E39, A39, B39, st39⟩ := cloneH X37 hx hZ (ad := "[I") hown (oW hw 43 rfl) (oW hw 44 rfl) (oW hw 31 rfl) (oW hw 29 rfl) (oW hw 45 rfl) (oW hw 46 rfl) e37 (Arv.arh f30) f31 (g := (mkF m 97 #[oR a1, oD 0, .second, oR a3, oR a4, .unset] [(.ref a3), (.int 2), (.ref er)])) rfl (by rw [hml]; rfl) rfl (hb hby own_d3_97) (by decide) (W := 2) (cap := 1) oL (by decide) (by decide) (by decide) (by decide)
  obtain ⟨b39, g39⟩ : ∃ z, z = h12.size := ⟨_, rfl⟩
  rw [← g39] at A39 B39 st39
  have R39 := fun t k => R38 t (st39 t k)
  clear R38 st39 X37 e37
  have ne_a1_b39 : a1 ≠ b39 := Nat.ne_of_lt (Nat.lt_of_lt_of_le f13.lt (Nat.le_of_eq g39.symm))
  have ne_a3_b39 : a3 ≠ b39 := Nat.ne_of_lt (Nat.lt_of_lt_of_le f30.lt (Nat.le_of_eq g39.symm))
  have ne_a4_b39 : a4 ≠ b39 := Nat.ne_of_lt (Nat.lt_of_lt_of_le f32.lt (Nat.le_of_eq g39.symm))
  have ne_co_b39 : co ≠ b39 := Nat.ne_of_lt (Nat.lt_of_lt_of_le V12.lt (Nat.le_of_eq g39.symm))
  have ne_er_b39 : er ≠ b39 := Nat.ne_of_lt (Nat.lt_of_lt_of_le f27.lt (Nat.le_of_eq g39.symm))
  have ne_ev_b39 : ev ≠ b39 := Nat.ne_of_lt (Nat.lt_of_lt_of_le f28.lt (Nat.le_of_eq g39.symm))
  have ne_po_b39 : po ≠ b39 := Nat.ne_of_lt (Nat.lt_of_lt_of_le f29.lt (Nat.le_of_eq g39.symm))
  have g_b39 : n0 ≤ b39 := Nat.le_trans Z12 (Nat.le_of_eq g39.symm)
  have sz_b39 : h0.size ≤ b39 := Nat.le_trans K12.1 (Nat.le_of_eq g39.symm)
  have Z39 : n0 ≤ h39.size := Nat.le_trans Z12 E39.1
  clear Z12
  have K39 : Keep h0 h39 [a1, co, er, ev, po] := K12.ext E39
  clear K12
  have f40 : oF Z h39 a1 "rows" "I" (.int 2) := f13.ext E39
  clear f13
  have f41 : oF Z h39 a1 "costs" "[D" (.ref co) := f14.ext E39
  clear f14
  have f42 : oF Z h39 a1 "entryRows" "[[I" (.ref er) := f15.ext E39
  clear f15
  have f43 : oF Z h39 a1 "entryValues" "[[D" (.ref ev) := f16.ext E39
  clear f16
  have f44 : oF Z h39 a1 "position" "[I" (.ref po) := f17.ext E39
  clear f17
  have f45 : oF Z h39 a1 "rhs" "[D" (.ref rh) := f18.ext E39
  clear f18
  have f46 : oF Z h39 a1 "basis" "[I" .null := f19.ext E39
  clear f19
  have f47 : oF Z h39 a1 "start" "[I" .null := f20.ext E39
  clear f20
  have f48 : oF Z h39 a1 "inverse" "[[D" .null := f21.ext E39
  clear f21
  have f49 : oF Z h39 a1 "primal" "[D" .null := f22.ext E39
  clear f22
  have f50 : oF Z h39 a1 "pivotsSinceRefactor" "I" (.int 0) := f23.ext E39
  clear f23
  have f51 : oF Z h39 a1 "infeasibility" "D" (.double 0) := f24.ext E39
  clear f24
  have f52 : oF Z h39 a1 "columns" "I" (.int 2) := f25.ext E39
  clear f25
  have f53 : Exa Z h39 a1 "com/example/trunkwright/trunkwright/traffic/RevisedSimplex" := f26.ext E39
  clear f26
  have f54 : Arv Z h39 er kb (.array .int) (16 : Int32) (oU (.ref en0) (.ref en1) .null) .null := f27.ext E39
  clear f27
  have f55 : Arv Z h39 ev kc (.array .double) (16 : Int32) (oU (.ref vn0) (.ref vn1) .null) .null := f28.ext E39
  clear f28
  have f56 : Arv Z h39 po kd .int (16 : Int32) (oZ (.int (-1)) (.int (-1)) (.int 0)) (.int 0) := f29.ext E39
  clear f29
  have f57 : Arv Z h39 a3 ke .int (1 : Int32) [(.int rw)] (.int 0) := f30.ext E39
  clear f30
  have f58 : Exa Z h39 a3 "[I" := f31.ext E39
  clear f31
  have f59 : Arv Z h39 a4 kf .double (1 : Int32) [(.double av)] (.double 0) := f32.ext E39
  clear f32
  have f60 : Exa Z h39 a4 "[D" := f33.ext E39
  clear f33
  have f61 : Arv Z h39 co ka .double (16 : Int32) (oC (.double 0) (.double 0) (.double 0)) (.double 0) := V12.ext E39
  clear V12
  clear E39
  have V39 : Arv Z h39 b39 ke .int (1 : Int32) [(.int rw)] (.int 0) := A39
  obtain ⟨T62, X62, e62, st62⟩ := castY X39 hx hZ hown (oW hw 13 rfl) e39 (Ins.self B39) (g := (mkF m 100 #[oR a1, oD 0, .second, oR a3, oR a4, .unset] [(.ref b39), (.int 2), (.ref er)])) rfl rfl (hb hby own_d3_100)
  have R62 := fun t k => R39 t (st62 t k)
  clear R39 st62 X39 e39
  obtain ⟨cl63, Ar63, q63, S63, N63', H63, G63⟩ := id f54
  have hin63 : ¬ ((2 : Int32) < 0 ∨ cl63.slots.size ≤ ((2 : Int32)).toNatClampNeg) := inb_of S63 ⟨by decide, by decide⟩
  obtain ⟨T64, h64, X64, e64, W64, st64⟩ := stR X62 hx hZ e62 Ar63 (j := (2 : Int32)) hin63 rfl (Sto.ofVA Ar63 q63 Oer (Ins.self B39)) (g := (mkF m 103 #[oR a1, oD 0, .second, oR a3, oR a4, .unset] [(.ref b39), (.int 2), (.ref er)])) rfl rfl (hb hby own_d3_103)
  have R64 := fun t k => R62 t (st64 t k)
  clear R62 st64 X62 e62
  have Z64 : n0 ≤ h64.size := Nat.le_trans Z39 (Keep.of_wr W64).1
  clear Z39
  have K64 : Keep h0 h64 [a1, co, er, ev, po] := K39.wr W64 (Or.inl (by simp))
  have N64 := Fr.snoc X64 N12 g_er
  clear K39
  clear N12
  have f65 : oF Z h64 a1 "rows" "I" (.int 2) := f40.other W64 (Or.inl (Ne.symm ne_er_a1))
  clear f40
  have f66 : oF Z h64 a1 "costs" "[D" (.ref co) := f41.other W64 (Or.inl (Ne.symm ne_er_a1))
  clear f41
  have f67 : oF Z h64 a1 "entryRows" "[[I" (.ref er) := f42.other W64 (Or.inl (Ne.symm ne_er_a1))
  clear f42
  have f68 : oF Z h64 a1 "entryValues" "[[D" (.ref ev) := f43.other W64 (Or.inl (Ne.symm ne_er_a1))
  clear f43
  have f69 : oF Z h64 a1 "position" "[I" (.ref po) := f44.other W64 (Or.inl (Ne.symm ne_er_a1))
  clear f44
  have f70 : oF Z h64 a1 "rhs" "[D" (.ref rh) := f45.other W64 (Or.inl (Ne.symm ne_er_a1))
  clear f45
  have f71 : oF Z h64 a1 "basis" "[I" .null := f46.other W64 (Or.inl (Ne.symm ne_er_a1))
  clear f46
  have f72 : oF Z h64 a1 "start" "[I" .null := f47.other W64 (Or.inl (Ne.symm ne_er_a1))
  clear f47
  have f73 : oF Z h64 a1 "inverse" "[[D" .null := f48.other W64 (Or.inl (Ne.symm ne_er_a1))
  clear f48
  have f74 : oF Z h64 a1 "primal" "[D" .null := f49.other W64 (Or.inl (Ne.symm ne_er_a1))
  clear f49
  have f75 : oF Z h64 a1 "pivotsSinceRefactor" "I" (.int 0) := f50.other W64 (Or.inl (Ne.symm ne_er_a1))
  clear f50
  have f76 : oF Z h64 a1 "infeasibility" "D" (.double 0) := f51.other W64 (Or.inl (Ne.symm ne_er_a1))
  clear f51
  have f77 : oF Z h64 a1 "columns" "I" (.int 2) := f52.other W64 (Or.inl (Ne.symm ne_er_a1))
  clear f52
  have f78 : Exa Z h64 a1 "com/example/trunkwright/trunkwright/traffic/RevisedSimplex" := f53.wr W64
  clear f53
  have f79 : Arv Z h64 ev kc (.array .double) (16 : Int32) (oU (.ref vn0) (.ref vn1) .null) .null := f55.other W64 ne_ev_er
  clear f55
  have f80 : Arv Z h64 po kd .int (16 : Int32) (oZ (.int (-1)) (.int (-1)) (.int 0)) (.int 0) := f56.other W64 ne_po_er
  clear f56
  have f81 : Arv Z h64 a4 kf .double (1 : Int32) [(.double av)] (.double 0) := f59.other W64 ne_a4_er
  clear f59
  have f82 : Exa Z h64 a4 "[D" := f60.wr W64
  clear f60
  have f83 : Arv Z h64 co ka .double (16 : Int32) (oC (.double 0) (.double 0) (.double 0)) (.double 0) := f61.other W64 (Ne.symm ne_er_co)
  clear f61
  have f84 : Exa Z h64 b39 "[I" := B39.wr W64
  have f85 : Arv Z h64 b39 ke .int (1 : Int32) [(.int rw)] (.int 0) := V39.other W64 (Ne.symm ne_er_b39)
  clear V39
  have V64 : Arv Z h64 er kb (.array .int) (16 : Int32) (oU (.ref en0) (.ref en1) (.ref b39)) .null := Arv.set Ar63 q63 S63 N63' H63 G63 rfl W64 2 rfl (Nat.le_of_ble_eq_true rfl)
  have R86 : ∀ t, oG p e below T64 m 105 #[oR a1, oD 0, .second, oR a3, oR a4, .unset] [(.ref a1)] t → Steps p.tables e below AA t := by
    intro t k
    refine R64 t ?_
    refine XS.aloadN X64.here hx rfl (hb hby own_d3_104) rfl rfl ?_
    exact k
  clear R64
  obtain ⟨T87, X87, e87, st87⟩ := getF X64 hx hZ hown (host := "") (Or.inl (oW hw 19 rfl)) Via.refl e64 f68 (g := (mkF m 105 #[oR a1, oD 0, .second, oR a3, oR a4, .unset] [(.ref a1)])) rfl rfl (hb hby own_d3_105)
  have R87 := fun t k => R86 t (st87 t k)
  clear R86 st87 X64 e64
  have R88 : ∀ t, oG p e below T87 m 109 #[oR a1, oD 0, .second, oR a3, oR a4, .unset] [(.ref a1), (.ref ev)] t → Steps p.tables e below AA t := by
    intro t k
    refine R87 t ?_
    refine XS.aloadN X87.here hx rfl (hb hby own_d3_108) rfl rfl ?_
    exact k
  clear R87
  obtain ⟨T89, X89, e89, st89⟩ := getF X87 hx hZ hown (host := "") (Or.inl (oW hw 41 rfl)) Via.refl e87 f77 (g := (mkF m 109 #[oR a1, oD 0, .second, oR a3, oR a4, .unset] [(.ref a1), (.ref ev)])) rfl rfl (hb hby own_d3_109)
  have R89 := fun t k => R88 t (st89 t k)
  clear R88 st89 X87 e87
  have R90 : ∀ t, oG p e below T89 m 114 #[oR a1, oD 0, .second, oR a3, oR a4, .unset] [(.ref a4), (.int 2), (.ref ev)] t → Steps p.tables e below AA t := by
    intro t k
    refine R89 t ?_
    refine XS.aload X89.here hx rfl (hb hby own_d3_112) rfl rfl ?_
    exact k
  clear R89
  obtain ⟨T91, h91, X91, e91, E91, A91, B91, st91⟩ := cloneH X89 hx hZ (ad := "[D") hown (oW hw 26 rfl) (oW hw 27 rfl) (oW hw 31 rfl) (oW hw 29 rfl) (oW hw 30 rfl) (oW hw 32 rfl) e89 (Arv.arh f81) f82 (g := (mkF m 114 #[oR a1, oD 0, .second, oR a3, oR a4, .unset] [(.ref a4), (.int 2), (.ref ev)])) rfl (by rw [hml]; rfl) rfl (hb hby own_d3_114) (by decide) (W := 2) (cap := 1) oL (by decide) (by decide) (by decide) (by decide)
  obtain ⟨b91, g91⟩ : ∃ z, z = h64.size := ⟨_, rfl⟩
  rw [← g91] at A91 B91 st91
  have R91 := fun t k => R90 t (st91 t k)
  clear R90 st91 X89 e89
  have ne_a1_b91 : a1 ≠ b91 := Nat.ne_of_lt (Nat.lt_of_lt_of_le f65.lt (Nat.le_of_eq g91.symm))
  have ne_a4_b91 : a4 ≠ b91 := Nat.ne_of_lt (Nat.lt_of_lt_of_le f81.lt (Nat.le_of_eq g91.symm))
  have ne_b39_b91 : b39 ≠ b91 := Nat.ne_of_lt (Nat.lt_of_lt_of_le f84.lt (Nat.le_of_eq g91.symm))
  have ne_co_b91 : co ≠ b91 := Nat.ne_of_lt (Nat.lt_of_lt_of_le f83.lt (Nat.le_of_eq g91.symm))
  have ne_er_b91 : er ≠ b91 := Nat.ne_of_lt (Nat.lt_of_lt_of_le V64.lt (Nat.le_of_eq g91.symm))
  have ne_ev_b91 : ev ≠ b91 := Nat.ne_of_lt (Nat.lt_of_lt_of_le f79.lt (Nat.le_of_eq g91.symm))
  have ne_po_b91 : po ≠ b91 := Nat.ne_of_lt (Nat.lt_of_lt_of_le f80.lt (Nat.le_of_eq g91.symm))
  have g_b91 : n0 ≤ b91 := Nat.le_trans Z64 (Nat.le_of_eq g91.symm)
  have sz_b91 : h0.size ≤ b91 := Nat.le_trans K64.1 (Nat.le_of_eq g91.symm)
  have Z91 : n0 ≤ h91.size := Nat.le_trans Z64 E91.1
  clear Z64
  have K91 : Keep h0 h91 [a1, co, er, ev, po] := K64.ext E91
  clear K64
  have f92 : oF Z h91 a1 "rows" "I" (.int 2) := f65.ext E91
  clear f65
  have f93 : oF Z h91 a1 "costs" "[D" (.ref co) := f66.ext E91
  clear f66
  have f94 : oF Z h91 a1 "entryRows" "[[I" (.ref er) := f67.ext E91
  clear f67
  have f95 : oF Z h91 a1 "entryValues" "[[D" (.ref ev) := f68.ext E91
  clear f68
  have f96 : oF Z h91 a1 "position" "[I" (.ref po) := f69.ext E91
  clear f69
  have f97 : oF Z h91 a1 "rhs" "[D" (.ref rh) := f70.ext E91
  clear f70
  have f98 : oF Z h91 a1 "basis" "[I" .null := f71.ext E91
  clear f71
  have f99 : oF Z h91 a1 "start" "[I" .null := f72.ext E91
  clear f72
  have f100 : oF Z h91 a1 "inverse" "[[D" .null := f73.ext E91
  clear f73
  have f101 : oF Z h91 a1 "primal" "[D" .null := f74.ext E91
  clear f74
  have f102 : oF Z h91 a1 "pivotsSinceRefactor" "I" (.int 0) := f75.ext E91
  clear f75
  have f103 : oF Z h91 a1 "infeasibility" "D" (.double 0) := f76.ext E91
  clear f76
  have f104 : oF Z h91 a1 "columns" "I" (.int 2) := f77.ext E91
  clear f77
  have f105 : Exa Z h91 a1 "com/example/trunkwright/trunkwright/traffic/RevisedSimplex" := f78.ext E91
  clear f78
  have f106 : Arv Z h91 ev kc (.array .double) (16 : Int32) (oU (.ref vn0) (.ref vn1) .null) .null := f79.ext E91
  clear f79
  have f107 : Arv Z h91 po kd .int (16 : Int32) (oZ (.int (-1)) (.int (-1)) (.int 0)) (.int 0) := f80.ext E91
  clear f80
  have f108 : Arv Z h91 a4 kf .double (1 : Int32) [(.double av)] (.double 0) := f81.ext E91
  clear f81
  have f109 : Exa Z h91 a4 "[D" := f82.ext E91
  clear f82
  have f110 : Arv Z h91 co ka .double (16 : Int32) (oC (.double 0) (.double 0) (.double 0)) (.double 0) := f83.ext E91
  clear f83
  have f111 : Exa Z h91 b39 "[I" := f84.ext E91
  clear f84
  have f112 : Arv Z h91 b39 ke .int (1 : Int32) [(.int rw)] (.int 0) := f85.ext E91
  clear f85
  have f113 : Arv Z h91 er kb (.array .int) (16 : Int32) (oU (.ref en0) (.ref en1) (.ref b39)) .null := V64.ext E91
  clear V64
  clear E91
  have V91 : Arv Z h91 b91 kf .double (1 : Int32) [(.double av)] (.double 0) := A91
  obtain ⟨T114, X114, e114, st114⟩ := castY X91 hx hZ hown (oW hw 17 rfl) e91 (Ins.self B91) (g := (mkF m 117 #[oR a1, oD 0, .second, oR a3, oR a4, .unset] [(.ref b91), (.int 2), (.ref ev)])) rfl rfl (hb hby own_d3_117)
  have R114 := fun t k => R91 t (st114 t k)
  clear R91 st114 X91 e91
  obtain ⟨cl115, Ar115, q115, S115, N115', H115, G115⟩ := id f106
  have hin115 : ¬ ((2 : Int32) < 0 ∨ cl115.slots.size ≤ ((2 : Int32)).toNatClampNeg) := inb_of S115 ⟨by decide, by decide⟩
  obtain ⟨T116, h116, X116, e116, W116, st116⟩ := stR X114 hx hZ e114 Ar115 (j := (2 : Int32)) hin115 rfl (Sto.ofVA Ar115 q115 Oev (Ins.self B91)) (g := (mkF m 120 #[oR a1, oD 0, .second, oR a3, oR a4, .unset] [(.ref b91), (.int 2), (.ref ev)])) rfl rfl (hb hby own_d3_120)
  have R116 := fun t k => R114 t (st116 t k)
  clear R114 st116 X114 e114
  have Z116 : n0 ≤ h116.size := Nat.le_trans Z91 (Keep.of_wr W116).1
  clear Z91
  have K116 : Keep h0 h116 [a1, co, er, ev, po] := K91.wr W116 (Or.inl (by simp))
  have N116 := Fr.snoc X116 N64 g_ev
  clear K91
  clear N64
  have f117 : oF Z h116 a1 "rows" "I" (.int 2) := f92.other W116 (Or.inl (Ne.symm ne_ev_a1))
  clear f92
  have f118 : oF Z h116 a1 "costs" "[D" (.ref co) := f93.other W116 (Or.inl (Ne.symm ne_ev_a1))
  clear f93
  have f119 : oF Z h116 a1 "entryRows" "[[I" (.ref er) := f94.other W116 (Or.inl (Ne.symm ne_ev_a1))
  clear f94
  have f120 : oF Z h116 a1 "entryValues" "[[D" (.ref ev) := f95.other W116 (Or.inl (Ne.symm ne_ev_a1))
  clear f95
  have f121 : oF Z h116 a1 "position" "[I" (.ref po) := f96.other W116 (Or.inl (Ne.symm ne_ev_a1))
  clear f96
  have f122 : oF Z h116 a1 "rhs" "[D" (.ref rh) := f97.other W116 (Or.inl (Ne.symm ne_ev_a1))
  clear f97
  have f123 : oF Z h116 a1 "basis" "[I" .null := f98.other W116 (Or.inl (Ne.symm ne_ev_a1))
  clear f98
  have f124 : oF Z h116 a1 "start" "[I" .null := f99.other W116 (Or.inl (Ne.symm ne_ev_a1))
  clear f99
  have f125 : oF Z h116 a1 "inverse" "[[D" .null := f100.other W116 (Or.inl (Ne.symm ne_ev_a1))
  clear f100
  have f126 : oF Z h116 a1 "primal" "[D" .null := f101.other W116 (Or.inl (Ne.symm ne_ev_a1))
  clear f101
  have f127 : oF Z h116 a1 "pivotsSinceRefactor" "I" (.int 0) := f102.other W116 (Or.inl (Ne.symm ne_ev_a1))
  clear f102
  have f128 : oF Z h116 a1 "infeasibility" "D" (.double 0) := f103.other W116 (Or.inl (Ne.symm ne_ev_a1))
  clear f103
  have f129 : oF Z h116 a1 "columns" "I" (.int 2) := f104.other W116 (Or.inl (Ne.symm ne_ev_a1))
  clear f104
  have f130 : Exa Z h116 a1 "com/example/trunkwright/trunkwright/traffic/RevisedSimplex" := f105.wr W116
  clear f105
  have f131 : Arv Z h116 po kd .int (16 : Int32) (oZ (.int (-1)) (.int (-1)) (.int 0)) (.int 0) := f107.other W116 ne_po_ev
  clear f107
  have f132 : Arv Z h116 co ka .double (16 : Int32) (oC (.double 0) (.double 0) (.double 0)) (.double 0) := f110.other W116 (Ne.symm ne_ev_co)
  clear f110
  have f133 : Exa Z h116 b39 "[I" := f111.wr W116
  clear f111
  have f134 : Arv Z h116 b39 ke .int (1 : Int32) [(.int rw)] (.int 0) := f112.other W116 (Ne.symm ne_ev_b39)
  clear f112
  have f135 : Arv Z h116 er kb (.array .int) (16 : Int32) (oU (.ref en0) (.ref en1) (.ref b39)) .null := f113.other W116 (Ne.symm ne_ev_er)
  clear f113
  have f136 : Exa Z h116 b91 "[D" := B91.wr W116
  have f137 : Arv Z h116 b91 kf .double (1 : Int32) [(.double av)] (.double 0) := V91.other W116 (Ne.symm ne_ev_b91)
  clear V91
  have V116 : Arv Z h116 ev kc (.array .double) (16 : Int32) (oU (.ref vn0) (.ref vn1) (.ref b91)) .null := Arv.set Ar115 q115 S115 N115' H115 G115 rfl W116 2 rfl (Nat.le_of_ble_eq_true rfl)
  have R138 : ∀ t, oG p e below T116 m 122 #[oR a1, oD 0, .second, oR a3, oR a4, .unset] [(.ref a1)] t → Steps p.tables e below AA t := by
    intro t k
    refine R116 t ?_
    refine XS.aloadN X116.here hx rfl (hb hby own_d3_121) rfl rfl ?_
    exact k
  clear R116
  obtain ⟨T139, X139, e139, st139⟩ := getF X116 hx hZ hown (host := "") (Or.inl (oW hw 22 rfl)) Via.refl e116 f121 (g := (mkF m 122 #[oR a1, oD 0, .second, oR a3, oR a4, .unset] [(.ref a1)])) rfl rfl (hb hby own_d3_122)
  have R139 := fun t k => R138 t (st139 t k)
  clear R138 st139 X116 e116
  have R140 : ∀ t, oG p e below T139 m 126 #[oR a1, oD 0, .second, oR a3, oR a4, .unset] [(.ref a1), (.ref po)] t → Steps p.tables e below AA t := by
    intro t k
    refine R139 t ?_
    refine XS.aloadN X139.here hx rfl (hb hby own_d3_125) rfl rfl ?_
    exact k
  clear R139
  obtain ⟨T141, X141, e141, st141⟩ := getF X139 hx hZ hown (host := "") (Or.inl (oW hw 41 rfl)) Via.refl e139 f129 (g := (mkF m 126 #[oR a1, oD 0, .second, oR a3, oR a4, .unset] [(.ref a1), (.ref po)])) rfl rfl (hb hby own_d3_126)
  have R141 := fun t k => R140 t (st141 t k)
  clear R140 st141 X139 e139
  have R142 : ∀ t, oG p e below T141 m 130 #[oR a1, oD 0, .second, oR a3, oR a4, .unset] [(.int (-1)), (.int 2), (.ref po)] t → Steps p.tables e below AA t := by
    intro t k
    refine R141 t ?_
    refine XS.iconst X141.here hx rfl (hb hby own_d3_129) ?_
    exact k
  clear R141
  obtain ⟨cl143, Ar143, q143, S143, N143', H143, G143⟩ := id f131
  have hin143 : ¬ ((2 : Int32) < 0 ∨ cl143.slots.size ≤ ((2 : Int32)).toNatClampNeg) := inb_of S143 ⟨by decide, by decide⟩
  obtain ⟨T144, h144, X144, e144, W144, st144⟩ := stI X141 hx hZ e141 Ar143 (j := (2 : Int32)) hin143 (g := (mkF m 130 #[oR a1, oD 0, .second, oR a3, oR a4, .unset] [(.int (-1)), (.int 2), (.ref po)])) rfl rfl (hb hby own_d3_130)
  have R144 := fun t k => R142 t (st144 t k)
  clear R142 st144 X141 e141
  have Z144 : n0 ≤ h144.size := Nat.le_trans Z116 (Keep.of_wr W144).1
  clear Z116
  have K144 : Keep h0 h144 [a1, co, er, ev, po] := K116.wr W144 (Or.inl (by simp))
  have N144 := Fr.snoc X144 N116 g_po
  clear K116
  clear N116
  have f145 : oF Z h144 a1 "rows" "I" (.int 2) := f117.other W144 (Or.inl (Ne.symm ne_po_a1))
  clear f117
  have f146 : oF Z h144 a1 "costs" "[D" (.ref co) := f118.other W144 (Or.inl (Ne.symm ne_po_a1))
  clear f118
  have f147 : oF Z h144 a1 "entryRows" "[[I" (.ref er) := f119.other W144 (Or.inl (Ne.symm ne_po_a1))
  clear f119
  have f148 : oF Z h144 a1 "entryValues" "[[D" (.ref ev) := f120.other W144 (Or.inl (Ne.symm ne_po_a1))
  clear f120
  have f149 : oF Z h144 a1 "position" "[I" (.ref po) := f121.other W144 (Or.inl (Ne.symm ne_po_a1))
  clear f121
  have f150 : oF Z h144 a1 "rhs" "[D" (.ref rh) := f122.other W144 (Or.inl (Ne.symm ne_po_a1))
  clear f122
  have f151 : oF Z h144 a1 "basis" "[I" .null := f123.other W144 (Or.inl (Ne.symm ne_po_a1))
  clear f123
  have f152 : oF Z h144 a1 "start" "[I" .null := f124.other W144 (Or.inl (Ne.symm ne_po_a1))
  clear f124
  have f153 : oF Z h144 a1 "inverse" "[[D" .null := f125.other W144 (Or.inl (Ne.symm ne_po_a1))
  clear f125
  have f154 : oF Z h144 a1 "primal" "[D" .null := f126.other W144 (Or.inl (Ne.symm ne_po_a1))
  clear f126
  have f155 : oF Z h144 a1 "pivotsSinceRefactor" "I" (.int 0) := f127.other W144 (Or.inl (Ne.symm ne_po_a1))
  clear f127
  have f156 : oF Z h144 a1 "infeasibility" "D" (.double 0) := f128.other W144 (Or.inl (Ne.symm ne_po_a1))
  clear f128
  have f157 : oF Z h144 a1 "columns" "I" (.int 2) := f129.other W144 (Or.inl (Ne.symm ne_po_a1))
  clear f129
  have f158 : Exa Z h144 a1 "com/example/trunkwright/trunkwright/traffic/RevisedSimplex" := f130.wr W144
  clear f130
  have f159 : Arv Z h144 co ka .double (16 : Int32) (oC (.double 0) (.double 0) (.double 0)) (.double 0) := f132.other W144 (Ne.symm ne_po_co)
  clear f132
  have f160 : Exa Z h144 b39 "[I" := f133.wr W144
  clear f133
  have f161 : Arv Z h144 b39 ke .int (1 : Int32) [(.int rw)] (.int 0) := f134.other W144 (Ne.symm ne_po_b39)
  clear f134
  have f162 : Arv Z h144 er kb (.array .int) (16 : Int32) (oU (.ref en0) (.ref en1) (.ref b39)) .null := f135.other W144 (Ne.symm ne_po_er)
  clear f135
  have f163 : Exa Z h144 b91 "[D" := f136.wr W144
  clear f136
  have f164 : Arv Z h144 b91 kf .double (1 : Int32) [(.double av)] (.double 0) := f137.other W144 (Ne.symm ne_po_b91)
  clear f137
  have f165 : Arv Z h144 ev kc (.array .double) (16 : Int32) (oU (.ref vn0) (.ref vn1) (.ref b91)) .null := V116.other W144 (Ne.symm ne_po_ev)
  clear V116
  have V144 : Arv Z h144 po kd .int (16 : Int32) (oZ (.int (-1)) (.int (-1)) (.int (-1))) (.int 0) := Arv.set Ar143 q143 S143 N143' H143 G143 rfl W144 2 rfl (Nat.le_of_ble_eq_true rfl)
  clear Ar143 q143 S143 N143' H143 G143 hin143 W144 f131
  have R166 : ∀ t, oG p e below T144 m 133 #[oR a1, oD 0, .second, oR a3, oR a4, .unset] [(.ref a1), (.ref a1)] t → Steps p.tables e below AA t := by
    intro t k
    refine R144 t ?_
    refine XS.aloadN X144.here hx rfl (hb hby own_d3_131) rfl rfl ?_
    refine XS.dup X144.here hx rfl (hb hby own_d3_132) rfl rfl ?_
    exact k
  clear R144
  obtain ⟨T167, X167, e167, st167⟩ := getF X144 hx hZ hown (host := "") (Or.inl (oW hw 41 rfl)) Via.refl e144 f157 (g := (mkF m 133 #[oR a1, oD 0, .second, oR a3, oR a4, .unset] [(.ref a1), (.ref a1)])) rfl rfl (hb hby own_d3_133)
  have R167 := fun t k => R166 t (st167 t k)
  clear R166 st167 X144 e144
  have R168 : ∀ t, oG p e below T167 m 139 #[oR a1, oD 0, .second, oR a3, oR a4, .unset] [(.int 3), (.ref a1), (.int 2)] t → Steps p.tables e below AA t := by
    intro t k
    refine R167 t ?_
    refine XS.dupX1 X167.here hx rfl (hb hby own_d3_136) rfl rfl rfl ?_
    refine XS.iconst X167.here hx rfl (hb hby own_d3_137) ?_
    refine XS.iadd X167.here hx rfl (hb hby own_d3_138) rfl ?_
    exact k
  clear R167
  obtain ⟨T169, h169, X169, e169, W169, st169⟩ := putF X167 hx hZ hown (host := "") (Or.inl (oW hw 41 rfl)) Via.refl e167 f157 f158 (Or.inl (oW hw 42 rfl)) (oW hw 2 rfl) (ty := .int) (by decide) rfl rfl (g := (mkF m 139 #[oR a1, oD 0, .second, oR a3, oR a4, .unset] [(.int 3), (.ref a1), (.int 2)])) rfl rfl (hb hby own_d3_139)
  have R169 := fun t k => R168 t (st169 t k)
  clear R168 st169 X167 e167
  have Z169 : n0 ≤ h169.size := Nat.le_trans Z144 (Keep.of_wr W169).1
  clear Z144
  have K169 : Keep h0 h169 [a1, co, er, ev, po] := K144.wr W169 (Or.inl (by simp))
  clear K144
  have N169 := Fr.snoc X169 N144 g_a1
  clear N144
  have f170 : oF Z h169 a1 "rows" "I" (.int 2) := f145.other W169 (Or.inr (slot_ne (Or.inr (oW hw 25 rfl)) (Or.inl (oW hw 42 rfl)) (by decide) (t := .int) (t' := .int) (by decide) (by decide)))
  clear f145
  have f171 : oF Z h169 a1 "costs" "[D" (.ref co) := f146.other W169 (Or.inr (slot_ne (Or.inl (oW hw 12 rfl)) (Or.inl (oW hw 42 rfl)) (by decide) (t := (.array .double)) (t' := .int) (by decide) (by decide)))
  clear f146
  have f172 : oF Z h169 a1 "entryRows" "[[I" (.ref er) := f147.other W169 (Or.inr (slot_ne (Or.inl (oW hw 16 rfl)) (Or.inl (oW hw 42 rfl)) (by decide) (t := (.array (.array .int))) (t' := .int) (by decide) (by decide)))
  clear f147
  have f173 : oF Z h169 a1 "entryValues" "[[D" (.ref ev) := f148.other W169 (Or.inr (slot_ne (Or.inl (oW hw 20 rfl)) (Or.inl (oW hw 42 rfl)) (by decide) (t := (.array (.array .double))) (t' := .int) (by decide) (by decide)))
  clear f148
  have f174 : oF Z h169 a1 "position" "[I" (.ref po) := f149.other W169 (Or.inr (slot_ne (Or.inl (oW hw 23 rfl)) (Or.inl (oW hw 42 rfl)) (by decide) (t := (.array .int)) (t' := .int) (by decide) (by decide)))
  clear f149
  have f175 : oF Z h169 a1 "rhs" "[D" (.ref rh) := f150.other W169 (Or.inr (slot_ne (Or.inr (oW hw 35 rfl)) (Or.inl (oW hw 42 rfl)) (by decide) (t := (.array .double)) (t' := .int) (by decide) (by decide)))
  clear f150
  have f176 : oF Z h169 a1 "basis" "[I" .null := f151.other W169 (Or.inr (slot_ne (Or.inl (oW hw 54 rfl)) (Or.inl (oW hw 42 rfl)) (by decide) (t := (.array .int)) (t' := .int) (by decide) (by decide)))
  clear f151
  have f177 : oF Z h169 a1 "start" "[I" .null := f152.other W169 (Or.inr (slot_ne (Or.inl (oW hw 56 rfl)) (Or.inl (oW hw 42 rfl)) (by decide) (t := (.array .int)) (t' := .int) (by decide) (by decide)))
  clear f152
  have f178 : oF Z h169 a1 "inverse" "[[D" .null := f153.other W169 (Or.inr (slot_ne (Or.inl (oW hw 75 rfl)) (Or.inl (oW hw 42 rfl)) (by decide) (t := (.array (.array .double))) (t' := .int) (by decide) (by decide)))
  clear f153
  have f179 : oF Z h169 a1 "primal" "[D" .null := f154.other W169 (Or.inr (slot_ne (Or.inl (oW hw 77 rfl)) (Or.inl (oW hw 42 rfl)) (by decide) (t := (.array .double)) (t' := .int) (by decide) (by decide)))
  clear f154
  have f180 : oF Z h169 a1 "pivotsSinceRefactor" "I" (.int 0) := f155.other W169 (Or.inr (slot_ne (Or.inl (oW hw 79 rfl)) (Or.inl (oW hw 42 rfl)) (by decide) (t := .int) (t' := .int) (by decide) (by decide)))
  clear f155
  have f181 : oF Z h169 a1 "infeasibility" "D" (.double 0) := f156.other W169 (Or.inr (slot_ne (Or.inl (oW hw 84 rfl)) (Or.inl (oW hw 42 rfl)) (by decide) (t := .double) (t' := .int) (by decide) (by decide)))
  clear f156
  have f182 : Exa Z h169 a1 "com/example/trunkwright/trunkwright/traffic/RevisedSimplex" := f158.wr W169
  clear f158
  have f183 : Arv Z h169 co ka .double (16 : Int32) (oC (.double 0) (.double 0) (.double 0)) (.double 0) := f159.other W169 ne_co_a1
  clear f159
  have f184 : Exa Z h169 b39 "[I" := f160.wr W169
  clear f160
  have f185 : Arv Z h169 b39 ke .int (1 : Int32) [(.int rw)] (.int 0) := f161.other W169 (Ne.symm ne_a1_b39)
  clear f161
  have f186 : Arv Z h169 er kb (.array .int) (16 : Int32) (oU (.ref en0) (.ref en1) (.ref b39)) .null := f162.other W169 ne_er_a1
  clear f162
  have f187 : Exa Z h169 b91 "[D" := f163.wr W169
  clear f163
  have f188 : Arv Z h169 b91 kf .double (1 : Int32) [(.double av)] (.double 0) := f164.other W169 (Ne.symm ne_a1_b91)
  clear f164
  have f189 : Arv Z h169 ev kc (.array .double) (16 : Int32) (oU (.ref vn0) (.ref vn1) (.ref b91)) .null := f165.other W169 ne_ev_a1
  clear f165
  have f190 : Arv Z h169 po kd .int (16 : Int32) (oZ (.int (-1)) (.int (-1)) (.int (-1))) (.int 0) := V144.other W169 ne_po_a1
  clear V144
  have Fw169 : oF Z h169 a1 "columns" "I" (.int 3) := f157.same W169
  subst hAA
  obtain ⟨fs, hr, hrun, hended, hW, hsame⟩ := X169.leave (v := some (.int 2)) (fun h => by rw [Bd.returns] at h; cases h)
  refine ⟨_, _, R169 _ ?_, hrun, hended, _, _, rfl, ?_, ⟨_, rfl⟩, hW, hsame.mono (by decide) (by decide)⟩
  · exact retOut X169 hx Bd.returns rfl (Or.inl ⟨rfl, Or.inl rfl, _, rfl⟩) (hb hby own_d3_142) hr
  · show Q_rmAd2 Z a1 a3 a4 co er ev po rh en0 en1 vn0 vn1 ka kb kc kd ke kf rw av h0 n0 _ T169.heap _
    rw [e169]
    exact ⟨rfl, N169, b39, b91, K169, sz_b39, sz_b91, ne_b39_b91, f170, f171, f172, f173, f174, f175, f176, f177, f178, f179, f180, f181, Fw169, f183, f186, f189, f190, f185, f188⟩
theorem own_ef_rmIn (m : MethodId) (x0 : Addr) (x1 : Addr) : entryFrame m #[(.ref x0), (.ref x1)] 2 = mkF m 0 #[oR x0, oR x1] [] := by first | (simp [entryFrame, mkF, argsToLocals, Value.category]; done) | rfl
theorem own_d1_0 : decode prog_82_method_1_code 0 = .ok (.aload_n 0, 1) := by decide +kernel
theorem own_d1_1 : decode prog_82_method_1_code 1 = .ok (.invokespecial 1, 3) := by decide +kernel
theorem own_d1_4 : decode prog_82_method_1_code 4 = .ok (.aload_n 0, 1) := by decide +kernel
theorem own_d1_5 : decode prog_82_method_1_code 5 = .ok (.bipush 16, 2) := by decide +kernel
theorem own_d1_7 : decode prog_82_method_1_code 7 = .ok (.newarray .double, 2) := by decide +kernel
theorem own_d1_9 : decode prog_82_method_1_code 9 = .ok (.putfield 7, 3) := by decide +kernel
theorem own_d1_12 : decode prog_82_method_1_code 12 = .ok (.aload_n 0, 1) := by decide +kernel
theorem own_d1_13 : decode prog_82_method_1_code 13 = .ok (.bipush 16, 2) := by decide +kernel
theorem own_d1_15 : decode prog_82_method_1_code 15 = .ok (.anewarray 13, 3) := by decide +kernel
theorem own_d1_18 : decode prog_82_method_1_code 18 = .ok (.putfield 15, 3) := by decide +kernel
theorem own_d1_21 : decode prog_82_method_1_code 21 = .ok (.aload_n 0, 1) := by decide +kernel
theorem own_d1_22 : decode prog_82_method_1_code 22 = .ok (.bipush 16, 2) := by decide +kernel
theorem own_d1_24 : decode prog_82_method_1_code 24 = .ok (.anewarray 19, 3) := by decide +kernel
theorem own_d1_27 : decode prog_82_method_1_code 27 = .ok (.putfield 20, 3) := by decide +kernel
theorem own_d1_30 : decode prog_82_method_1_code 30 = .ok (.aload_n 0, 1) := by decide +kernel
theorem own_d1_31 : decode prog_82_method_1_code 31 = .ok (.bipush 16, 2) := by decide +kernel
theorem own_d1_33 : decode prog_82_method_1_code 33 = .ok (.newarray .int, 2) := by decide +kernel
theorem own_d1_35 : decode prog_82_method_1_code 35 = .ok (.putfield 24, 3) := by decide +kernel
theorem own_d1_38 : decode prog_82_method_1_code 38 = .ok (.aload_n 0, 1) := by decide +kernel
theorem own_d1_39 : decode prog_82_method_1_code 39 = .ok (.aload_n 1, 1) := by decide +kernel
theorem own_d1_40 : decode prog_82_method_1_code 40 = .ok (.arraylength, 1) := by decide +kernel
theorem own_d1_41 : decode prog_82_method_1_code 41 = .ok (.putfield 27, 3) := by decide +kernel
theorem own_d1_44 : decode prog_82_method_1_code 44 = .ok (.aload_n 0, 1) := by decide +kernel
theorem own_d1_45 : decode prog_82_method_1_code 45 = .ok (.aload_n 1, 1) := by decide +kernel
theorem own_d1_46 : decode prog_82_method_1_code 46 = .ok (.invokevirtual 31, 3) := by decide +kernel
theorem own_d1_49 : decode prog_82_method_1_code 49 = .ok (.checkcast 19, 3) := by decide +kernel
theorem own_d1_52 : decode prog_82_method_1_code 52 = .ok (.putfield 35, 3) := by decide +kernel
theorem own_d1_55 : decode prog_82_method_1_code 55 = .ok (.return_, 1) := by decide +kernel
def Q_rmIn (Z : State) (a1 a2 : Addr) (ka : ClassId) (d0 d1 : UInt64) (h0 : Heap) (n0 : Nat) (v : Option Value) (h : Heap) (L : List Loc) : Prop := v = none ∧ Fr n0 L ∧ ∃ (co er ev po rh : Addr) (kco ker kev kpo : ClassId), Keep h0 h [a1] ∧ h0.size ≤ co ∧ h0.size ≤ er ∧ h0.size ≤ ev ∧ h0.size ≤ po ∧ h0.size ≤ rh ∧ co ≠ er ∧ co ≠ ev ∧ co ≠ po ∧ co ≠ rh ∧ er ≠ ev ∧ er ≠ po ∧ er ≠ rh ∧ ev ≠ po ∧ ev ≠ rh ∧ po ≠ rh ∧ oF Z h a1 "costs" "[D" (.ref co) ∧ oF Z h a1 "entryRows" "[[I" (.ref er) ∧ oF Z h a1 "entryValues" "[[D" (.ref ev) ∧ oF Z h a1 "position" "[I" (.ref po) ∧ oF Z h a1 "rows" "I" (.int 2) ∧ oF Z h a1 "rhs" "[D" (.ref rh) ∧ oF Z h a1 "columns" "I" (.int 0) ∧ oF Z h a1 "basis" "[I" .null ∧ oF Z h a1 "start" "[I" .null ∧ oF Z h a1 "inverse" "[[D" .null ∧ oF Z h a1 "primal" "[D" .null ∧ oF Z h a1 "pivotsSinceRefactor" "I" (.int 0) ∧ oF Z h a1 "infeasibility" "D" (.double 0) ∧ Arv Z h co kco .double (16 : Int32) (oC (.double 0) (.double 0) (.double 0)) (.double 0) ∧ Arv Z h er ker (.array .int) (16 : Int32) (oU .null .null .null) .null ∧ Arv Z h ev kev (.array .double) (16 : Int32) (oU .null .null .null) .null ∧ Arv Z h po kpo .int (16 : Int32) (oZ (.int 0) (.int 0) (.int 0)) (.int 0) ∧ Arv Z h rh ka .double (2 : Int32) [(.double d0), (.double d1)] (.double 0) ∧ OvrA Z ker .int "[I" ∧ OvrA Z kev .double "[D"
set_option maxRecDepth 65536 in
set_option maxHeartbeats 40000000 in
theorem rmIn (l : Launch) (Z : State) (a0 : Array Value) (hw : ∀ d ∈ tables_1, d.before a0 Z = true) (ws : List Jvm.Cond) (a1 a2 : Addr) (ka : ClassId) (d0 d1 : UInt64) (h0 : Heap) (n0 : Nat) (Z0 : n0 ≤ h0.size) (F_a1_costs : oF Z h0 a1 "costs" "[D" .null) (F_a1_entryRows : oF Z h0 a1 "entryRows" "[[I" .null) (F_a1_entryValues : oF Z h0 a1 "entryValues" "[[D" .null) (F_a1_position : oF Z h0 a1 "position" "[I" .null) (F_a1_rows : oF Z h0 a1 "rows" "I" (.int 0)) (F_a1_rhs : oF Z h0 a1 "rhs" "[D" .null) (F_a1_columns : oF Z h0 a1 "columns" "I" (.int 0)) (F_a1_basis : oF Z h0 a1 "basis" "[I" .null) (F_a1_start : oF Z h0 a1 "start" "[I" .null) (F_a1_inverse : oF Z h0 a1 "inverse" "[[D" .null) (F_a1_primal : oF Z h0 a1 "primal" "[D" .null) (F_a1_pivotsSinceRefactor : oF Z h0 a1 "pivotsSinceRefactor" "I" (.int 0)) (F_a1_infeasibility : oF Z h0 a1 "infeasibility" "D" (.double 0)) (E_a1 : Exa Z h0 a1 "com/example/trunkwright/trunkwright/traffic/RevisedSimplex") (V_a2 : Arv Z h0 a2 ka .double (2 : Int32) [(.double d0), (.double d1)] (.double 0)) (E_a2 : Exa Z h0 a2 "[D") (ne_a2_a1 : a2 ≠ a1) (g_a1 : n0 ≤ a1) :
    MetFree l (oN "<init>" "([D)V") (head1 (Jvm.Cond.code (oN "<init>" "([D)V") prog_82_method_1_code 2 none :: ws) ({ frames := 1, cells := 5, slots := 66, locals := 15 } : Room)) (fun a U => a = #[(.ref a1), (.ref a2)] ∧ Z.Warmed39 U.vm ∧ U.heap = h0) (fun _ _ _ _ _ => True) (fun _ U o U' => ∃ v L, o = .returned v ∧ Q_rmIn Z a1 a2 ka d0 d1 h0 n0 v U'.heap L ∧ FrameEnd U o U' L ({ frames := 1, cells := 5, slots := 66, locals := 15 } : Room).cells ({ frames := 1, cells := 5, slots := 66, locals := 15 } : Room).slots) := by
  refine MetFree.of_bodySF (plainFor_of_name own_pn0) hisR ?_
  intro p e s m args below meth c s₁ Bd hml0 hP hK
  obtain ⟨rfl, hZ, hh⟩ := hP
  have hx := Bd.exec
  have hby := Bd.bytes
  have hml : c.maxLocals = 2 := hml0
  have hown : s.vm.findClass "com/example/trunkwright/trunkwright/traffic/RevisedSimplex" = some m.cls := findClass_of_methodNamed Bd.named
  have hnm := (name_of_methodNamed Bd.named Bd.method).1
  have X0 : Stand p l e ({ frames := 1, cells := 5, slots := 66, locals := 15 } : Room) s m #[(.ref a1), (.ref a2)] below meth c s₁ [] 0 0 := Stand.of_body Bd
  have e0 : s₁.heap = h0 := by rw [← hh, Bd.state]; rfl
  have N0 := Fr.nil n0
  have R0 : ∀ t, oG p e below s₁ m 0 #[oR a1, oR a2] [] t → Steps p.tables e below (s₁.setTop (entryFrame m #[(.ref a1), (.ref a2)] 2)) t := fun t k => castTop (own_ef_rmIn m a1 a2) k
  obtain ⟨AA, hAA⟩ : ∃ z, z = (s₁.setTop (entryFrame m #[(.ref a1), (.ref a2)] 2)) := ⟨_, rfl⟩
  rw [← hAA] at R0
  have R1 : ∀ t, oG p e below s₁ m 1 #[oR a1, oR a2] [(.ref a1)] t → Steps p.tables e below AA t := by
    intro t k
    refine R0 t ?_
    refine XS.aloadN X0.here hx rfl (hb hby own_d1_0) rfl rfl ?_
    exact k
  obtain ⟨T2, X2, e2, st2⟩ := initO X0 hx hZ hown (oW hw 8 rfl) (oW hw 9 rfl) (oW hw 10 rfl) e0 (g := (mkF m 1 #[oR a1, oR a2] [(.ref a1)])) rfl (by rw [hml]; rfl) rfl (hb hby own_d1_1) (by decide) (W := 0) oL (by decide)
  have R2 := fun t k => R1 t (st2 t k)
  clear R1 st2
  have R3 : ∀ t, oG p e below T2 m 7 #[oR a1, oR a2] [(.int 16), (.ref a1)] t → Steps p.tables e below AA t := by
    intro t k
    refine R2 t ?_
    refine XS.aloadN X2.here hx rfl (hb hby own_d1_4) rfl rfl ?_
    refine XS.bipush X2.here hx rfl (hb hby own_d1_5) ?_
    exact k
  clear R2
  obtain ⟨T4, h4, k4, X4, e4, E4, A4, B4, st4⟩ := newPE X2 hx hZ (oW hw 4 rfl) e2 (g := (mkF m 7 #[oR a1, oR a2] [(.int 16), (.ref a1)])) rfl (hb hby own_d1_7) rfl (by decide) (cap := 16) (by decide) (by decide) (by decide) (by decide) (ad := "[D") (by decide)
  obtain ⟨b4, g4⟩ : ∃ z, z = h0.size := ⟨_, rfl⟩
  rw [← g4] at A4 B4 st4
  have R4 := fun t k => R3 t (st4 t k)
  clear R3 st4 X2 e2
  have ne_a1_b4 : a1 ≠ b4 := Nat.ne_of_lt (Nat.lt_of_lt_of_le F_a1_costs.lt (Nat.le_of_eq g4.symm))
  have ne_a2_b4 : a2 ≠ b4 := Nat.ne_of_lt (Nat.lt_of_lt_of_le V_a2.lt (Nat.le_of_eq g4.symm))
  have g_b4 : n0 ≤ b4 := Nat.le_trans Z0 (Nat.le_of_eq g4.symm)
  have sz_b4 : h0.size ≤ b4 := Nat.le_trans (Keep.refl h0 [a1]).1 (Nat.le_of_eq g4.symm)
  have Z4 : n0 ≤ h4.size := Nat.le_trans Z0 E4.1
  have K4 : Keep h0 h4 [a1] := (Keep.refl h0 [a1]).ext E4
  have f5 : oF Z h4 a1 "costs" "[D" .null := F_a1_costs.ext E4
  have f6 : oF Z h4 a1 "entryRows" "[[I" .null := F_a1_entryRows.ext E4
  have f7 : oF Z h4 a1 "entryValues" "[[D" .null := F_a1_entryValues.ext E4
  have f8 : oF Z h4 a1 "position" "[I" .null := F_a1_position.ext E4
  have f9 : oF Z h4 a1 "rows" "I" (.int 0) := F_a1_rows.ext E4
  have f10 : oF Z h4 a1 "rhs" "[D" .null := F_a1_rhs.ext E4
  have f11 : oF Z h4 a1 "columns" "I" (.int 0) := F_a1_columns.ext E4
  have f12 : oF Z h4 a1 "basis" "[I" .null := F_a1_basis.ext E4
  have f13 : oF Z h4 a1 "start" "[I" .null := F_a1_start.ext E4
  have f14 : oF Z h4 a1 "inverse" "[[D" .null := F_a1_inverse.ext E4
  have f15 : oF Z h4 a1 "primal" "[D" .null := F_a1_primal.ext E4
  have f16 : oF Z h4 a1 "pivotsSinceRefactor" "I" (.int 0) := F_a1_pivotsSinceRefactor.ext E4
  have f17 : oF Z h4 a1 "infeasibility" "D" (.double 0) := F_a1_infeasibility.ext E4
  have f18 : Exa Z h4 a1 "com/example/trunkwright/trunkwright/traffic/RevisedSimplex" := E_a1.ext E4
  have f19 : Arv Z h4 a2 ka .double (2 : Int32) [(.double d0), (.double d1)] (.double 0) := V_a2.ext E4
  have f20 : Exa Z h4 a2 "[D" := E_a2.ext E4
  clear E4
  have V4 : Arv Z h4 b4 k4 .double (16 : Int32) (oC (.double 0) (.double 0) (.double 0)) (.double 0) := (Arv.new A4 (by decide)).pad (pad_rep [] (.double 0) 16)
  obtain ⟨T21, h21, X21, e21, W21, st21⟩ := putF X4 hx hZ hown (host := "") (Or.inl (oW hw 11 rfl)) Via.refl e4 f5 f18 (Or.inl (oW hw 12 rfl)) (oW hw 2 rfl) (ty := (.array .double)) (by decide) rfl rfl (g := (mkF m 9 #[oR a1, oR a2] [(.ref b4), (.ref a1)])) rfl rfl (hb hby own_d1_9)
  have R21 := fun t k => R4 t (st21 t k)
  clear R4 st21 X4 e4
  have Z21 : n0 ≤ h21.size := Nat.le_trans Z4 (Keep.of_wr W21).1
  clear Z4
  have K21 : Keep h0 h21 [a1] := K4.wr W21 (Or.inl (by simp))
  clear K4
  have N21 := Fr.snoc X21 N0 g_a1
  have f22 : oF Z h21 a1 "entryRows" "[[I" .null := f6.other W21 (Or.inr (slot_ne (Or.inl (oW hw 16 rfl)) (Or.inl (oW hw 12 rfl)) (by decide) (t := (.array (.array .int))) (t' := (.array .double)) (by decide) (by decide)))
  clear f6
  have f23 : oF Z h21 a1 "entryValues" "[[D" .null := f7.other W21 (Or.inr (slot_ne (Or.inl (oW hw 20 rfl)) (Or.inl (oW hw 12 rfl)) (by decide) (t := (.array (.array .double))) (t' := (.array .double)) (by decide) (by decide)))
  clear f7
  have f24 : oF Z h21 a1 "position" "[I" .null := f8.other W21 (Or.inr (slot_ne (Or.inl (oW hw 23 rfl)) (Or.inl (oW hw 12 rfl)) (by decide) (t := (.array .int)) (t' := (.array .double)) (by decide) (by decide)))
  clear f8
  have f25 : oF Z h21 a1 "rows" "I" (.int 0) := f9.other W21 (Or.inr (slot_ne (Or.inr (oW hw 25 rfl)) (Or.inl (oW hw 12 rfl)) (by decide) (t := .int) (t' := (.array .double)) (by decide) (by decide)))
  clear f9
  have f26 : oF Z h21 a1 "rhs" "[D" .null := f10.other W21 (Or.inr (slot_ne (Or.inr (oW hw 35 rfl)) (Or.inl (oW hw 12 rfl)) (by decide) (t := (.array .double)) (t' := (.array .double)) (by decide) (by decide)))
  clear f10
  have f27 : oF Z h21 a1 "columns" "I" (.int 0) := f11.other W21 (Or.inr (slot_ne (Or.inl (oW hw 42 rfl)) (Or.inl (oW hw 12 rfl)) (by decide) (t := .int) (t' := (.array .double)) (by decide) (by decide)))
  clear f11
  have f28 : oF Z h21 a1 "basis" "[I" .null := f12.other W21 (Or.inr (slot_ne (Or.inl (oW hw 54 rfl)) (Or.inl (oW hw 12 rfl)) (by decide) (t := (.array .int)) (t' := (.array .double)) (by decide) (by decide)))
  clear f12
  have f29 : oF Z h21 a1 "start" "[I" .null := f13.other W21 (Or.inr (slot_ne (Or.inl (oW hw 56 rfl)) (Or.inl (oW hw 12 rfl)) (by decide) (t := (.array .int)) (t' := (.array .double)) (by decide) (by decide)))
  clear f13
  have f30 : oF Z h21 a1 "inverse" "[[D" .null := f14.other W21 (Or.inr (slot_ne (Or.inl (oW hw 75 rfl)) (Or.inl (oW hw 12 rfl)) (by decide) (t := (.array (.array .double))) (t' := (.array .double)) (by decide) (by decide)))
  clear f14
  have f31 : oF Z h21 a1 "primal" "[D" .null := f15.other W21 (Or.inr (slot_ne (Or.inl (oW hw 77 rfl)) (Or.inl (oW hw 12 rfl)) (by decide) (t := (.array .double)) (t' := (.array .double)) (by decide) (by decide)))
  clear f15
  have f32 : oF Z h21 a1 "pivotsSinceRefactor" "I" (.int 0) := f16.other W21 (Or.inr (slot_ne (Or.inl (oW hw 79 rfl)) (Or.inl (oW hw 12 rfl)) (by decide) (t := .int) (t' := (.array .double)) (by decide) (by decide)))
  clear f16
  have f33 : oF Z h21 a1 "infeasibility" "D" (.double 0) := f17.other W21 (Or.inr (slot_ne (Or.inl (oW hw 84 rfl)) (Or.inl (oW hw 12 rfl)) (by decide) (t := .double) (t' := (.array .double)) (by decide) (by decide)))
  clear f17
  have f34 : Exa Z h21 a1 "com/example/trunkwright/trunkwright/traffic/RevisedSimplex" := f18.wr W21
  clear f18
  have f35 : Arv Z h21 a2 ka .double (2 : Int32) [(.double d0), (.double d1)] (.double 0) := f19.other W21 ne_a2_a1
  clear f19
  have f36 : Exa Z h21 a2 "[D" := f20.wr W21
  clear f20
  have f37 : Exa Z h21 b4 "[D" := B4.wr W21
  have f38 : Arv Z h21 b4 k4 .double (16 : Int32) (oC (.double 0) (.double 0) (.double 0)) (.double 0) := V4.other W21 (Ne.symm ne_a1_b4)
  clear V4
  have Fw21 : oF Z h21 a1 "costs" "[D" (.ref b4) := f5.same W21
  have R39 : ∀ t, oG p e below T21 m 15 #[oR a1, oR a2] [(.int 16), (.ref a1)] t → Steps p.tables e below AA t := by
    intro t k
    refine R21 t ?_
    refine XS.aloadN X21.here hx rfl (hb hby own_d1_12) rfl rfl ?_
    refine XS.bipush X21.here hx rfl (hb hby own_d1_13) ?_
    exact k
  clear R21
  obtain ⟨T40, h40, k40, X40, e40, E40, A40, B40, O40, st40⟩ := newRA X21 hx hZ (C := "[I") (ty := .int) hown (by decide) (oW hw 13 rfl) (oW hw 14 rfl) e21 (g := (mkF m 15 #[oR a1, oR a2] [(.int 16), (.ref a1)])) rfl (hb hby own_d1_15) rfl (by decide) (cap := 16) (by decide) (by decide) (by decide) (by decide) (ad := "[[I") (by decide)
  obtain ⟨b40, g40⟩ : ∃ z, z = h21.size := ⟨_, rfl⟩
  rw [← g40] at A40 B40 st40
  have R40 := fun t k => R39 t (st40 t k)
  clear R39 st40 X21 e21
  have ne_a1_b40 : a1 ≠ b40 := Nat.ne_of_lt (Nat.lt_of_lt_of_le f22.lt (Nat.le_of_eq g40.symm))
  have ne_a2_b40 : a2 ≠ b40 := Nat.ne_of_lt (Nat.lt_of_lt_of_le f35.lt (Nat.le_of_eq g40.symm))
  have ne_b4_b40 : b4 ≠ b40 := Nat.ne_of_lt (Nat.lt_of_lt_of_le f37.lt (Nat.le_of_eq g40.symm))
  have g_b40 : n0 ≤ b40 := Nat.le_trans Z21 (Nat.le_of_eq g40.symm)
  have sz_b40 : h0.size ≤ b40 := Nat.le_trans K21.1 (Nat.le_of_eq g40.symm)
  have Z40 : n0 ≤ h40.size := Nat.le_trans Z21 E40.1
  clear Z21
  have K40 : Keep h0 h40 [a1] := K21.ext E40
  clear K21
  have f41 : oF Z h40 a1 "entryRows" "[[I" .null := f22.ext E40
  clear f22
  have f42 : oF Z h40 a1 "entryValues" "[[D" .null := f23.ext E40
  clear f23
  have f43 : oF Z h40 a1 "position" "[I" .null := f24.ext E40
  clear f24
  have f44 : oF Z h40 a1 "rows" "I" (.int 0) := f25.ext E40
  clear f25
  have f45 : oF Z h40 a1 "rhs" "[D" .null := f26.ext E40
  clear f26
  have f46 : oF Z h40 a1 "columns" "I" (.int 0) := f27.ext E40
  clear f27
  have f47 : oF Z h40 a1 "basis" "[I" .null := f28.ext E40
  clear f28
  have f48 : oF Z h40 a1 "start" "[I" .null := f29.ext E40
  clear f29
  have f49 : oF Z h40 a1 "inverse" "[[D" .null := f30.ext E40
  clear f30
  have f50 : oF Z h40 a1 "primal" "[D" .null := f31.ext E40
  clear f31
  have f51 : oF Z h40 a1 "pivotsSinceRefactor" "I" (.int 0) := f32.ext E40
  clear f32
  have f52 : oF Z h40 a1 "infeasibility" "D" (.double 0) := f33.ext E40
  clear f33
  have f53 : Exa Z h40 a1 "com/example/trunkwright/trunkwright/traffic/RevisedSimplex" := f34.ext E40
  clear f34
  have f54 : Arv Z h40 a2 ka .double (2 : Int32) [(.double d0), (.double d1)] (.double 0) := f35.ext E40
  clear f35
  have f55 : Exa Z h40 a2 "[D" := f36.ext E40
  clear f36
  have f56 : Exa Z h40 b4 "[D" := f37.ext E40
  clear f37
  have f57 : Arv Z h40 b4 k4 .double (16 : Int32) (oC (.double 0) (.double 0) (.double 0)) (.double 0) := f38.ext E40
  clear f38
  have f58 : oF Z h40 a1 "costs" "[D" (.ref b4) := Fw21.ext E40
  clear Fw21
  clear E40
  have V40 : Arv Z h40 b40 k40 (.array .int) (16 : Int32) (oU .null .null .null) .null := (Arv.new A40 (by decide)).pad (pad_rep [] .null 16)
  obtain ⟨T59, h59, X59, e59, W59, st59⟩ := putF X40 hx hZ hown (host := "") (Or.inl (oW hw 15 rfl)) Via.refl e40 f41 f53 (Or.inl (oW hw 16 rfl)) (oW hw 2 rfl) (ty := (.array (.array .int))) (by decide) rfl rfl (g := (mkF m 18 #[oR a1, oR a2] [(.ref b40), (.ref a1)])) rfl rfl (hb hby own_d1_18)
  have R59 := fun t k => R40 t (st59 t k)
  clear R40 st59 X40 e40
  have Z59 : n0 ≤ h59.size := Nat.le_trans Z40 (Keep.of_wr W59).1
  clear Z40
  have K59 : Keep h0 h59 [a1] := K40.wr W59 (Or.inl (by simp))
  clear K40
  have N59 := Fr.snoc X59 N21 g_a1
  clear N21
  have f60 : oF Z h59 a1 "entryValues" "[[D" .null := f42.other W59 (Or.inr (slot_ne (Or.inl (oW hw 20 rfl)) (Or.inl (oW hw 16 rfl)) (by decide) (t := (.array (.array .double))) (t' := (.array (.array .int))) (by decide) (by decide)))
  clear f42
  have f61 : oF Z h59 a1 "position" "[I" .null := f43.other W59 (Or.inr (slot_ne (Or.inl (oW hw 23 rfl)) (Or.inl (oW hw 16 rfl)) (by decide) (t := (.array .int)) (t' := (.array (.array .int))) (by decide) (by decide)))
  clear f43
  have f62 : oF Z h59 a1 "rows" "I" (.int 0) := f44.other W59 (Or.inr (slot_ne (Or.inr (oW hw 25 rfl)) (Or.inl (oW hw 16 rfl)) (by decide) (t := .int) (t' := (.array (.array .int))) (by decide) (by decide)))
  clear f44
  have f63 : oF Z h59 a1 "rhs" "[D" .null := f45.other W59 (Or.inr (slot_ne (Or.inr (oW hw 35 rfl)) (Or.inl (oW hw 16 rfl)) (by decide) (t := (.array .double)) (t' := (.array (.array .int))) (by decide) (by decide)))
  clear f45
  have f64 : oF Z h59 a1 "columns" "I" (.int 0) := f46.other W59 (Or.inr (slot_ne (Or.inl (oW hw 42 rfl)) (Or.inl (oW hw 16 rfl)) (by decide) (t := .int) (t' := (.array (.array .int))) (by decide) (by decide)))
  clear f46
  have f65 : oF Z h59 a1 "basis" "[I" .null := f47.other W59 (Or.inr (slot_ne (Or.inl (oW hw 54 rfl)) (Or.inl (oW hw 16 rfl)) (by decide) (t := (.array .int)) (t' := (.array (.array .int))) (by decide) (by decide)))
  clear f47
  have f66 : oF Z h59 a1 "start" "[I" .null := f48.other W59 (Or.inr (slot_ne (Or.inl (oW hw 56 rfl)) (Or.inl (oW hw 16 rfl)) (by decide) (t := (.array .int)) (t' := (.array (.array .int))) (by decide) (by decide)))
  clear f48
  have f67 : oF Z h59 a1 "inverse" "[[D" .null := f49.other W59 (Or.inr (slot_ne (Or.inl (oW hw 75 rfl)) (Or.inl (oW hw 16 rfl)) (by decide) (t := (.array (.array .double))) (t' := (.array (.array .int))) (by decide) (by decide)))
  clear f49
  have f68 : oF Z h59 a1 "primal" "[D" .null := f50.other W59 (Or.inr (slot_ne (Or.inl (oW hw 77 rfl)) (Or.inl (oW hw 16 rfl)) (by decide) (t := (.array .double)) (t' := (.array (.array .int))) (by decide) (by decide)))
  clear f50
  have f69 : oF Z h59 a1 "pivotsSinceRefactor" "I" (.int 0) := f51.other W59 (Or.inr (slot_ne (Or.inl (oW hw 79 rfl)) (Or.inl (oW hw 16 rfl)) (by decide) (t := .int) (t' := (.array (.array .int))) (by decide) (by decide)))
  clear f51
  have f70 : oF Z h59 a1 "infeasibility" "D" (.double 0) := f52.other W59 (Or.inr (slot_ne (Or.inl (oW hw 84 rfl)) (Or.inl (oW hw 16 rfl)) (by decide) (t := .double) (t' := (.array (.array .int))) (by decide) (by decide)))
  clear f52
  have f71 : Exa Z h59 a1 "com/example/trunkwright/trunkwright/traffic/RevisedSimplex" := f53.wr W59
  clear f53
  have f72 : Arv Z h59 a2 ka .double (2 : Int32) [(.double d0), (.double d1)] (.double 0) := f54.other W59 ne_a2_a1
  clear f54
  have f73 : Exa Z h59 a2 "[D" := f55.wr W59
  clear f55
  have f74 : Exa Z h59 b4 "[D" := f56.wr W59
  clear f56
  have f75 : Arv Z h59 b4 k4 .double (16 : Int32) (oC (.double 0) (.double 0) (.double 0)) (.double 0) := f57.other W59 (Ne.symm ne_a1_b4)
  clear f57
  have f76 : oF Z h59 a1 "costs" "[D" (.ref b4) := f58.other W59 (Or.inr (slot_ne (Or.inl (oW hw 12 rfl)) (Or.inl (oW hw 16 rfl)) (by decide) (t := (.array .double)) (t' := (.array (.array .int))) (by decide) (by decide)))
  clear f58
  have f77 : Exa Z h59 b40 "[[I" := B40.wr W59
  have f78 : Arv Z h59 b40 k40 (.array .int) (16 : Int32) (oU .null .null .null) .null := V40.other W59 (Ne.symm ne_a1_b40)
  clear V40
  have Fw59 : oF Z h59 a1 "entryRows" "[[I" (.ref b40) := f41.same W59
  have R79 : ∀ t, oG p e below T59 m 24 #[oR a1, oR a2] [(.int 16), (.ref a1)] t → Steps p.tables e below AA t := by
    intro t k
    refine R59 t ?_
    refine XS.aloadN X59.here hx rfl (hb hby own_d1_21) rfl rfl ?_
    refine XS.bipush X59.here hx rfl (hb hby own_d1_22) ?_
    exact k
  clear R59
  obtain ⟨T80, h80, k80, X80, e80, E80, A80, B80, O80, st80⟩ := newRA X59 hx hZ (C := "[D") (ty := .double) hown (by decide) (oW hw 17 rfl) (oW hw 18 rfl) e59 (g := (mkF m 24 #[oR a1, oR a2] [(.int 16), (.ref a1)])) rfl (hb hby own_d1_24) rfl (by decide) (cap := 16) (by decide) (by decide) (by decide) (by decide) (ad := "[[D") (by decide)
  obtain ⟨b80, g80⟩ : ∃ z, z = h59.size := ⟨_, rfl⟩
  rw [← g80] at A80 B80 st80
  have R80 := fun t k => R79 t (st80 t k)
  clear R79 st80 X59 e59
  have ne_a1_b80 : a1 ≠ b80 := Nat.ne_of_lt (Nat.lt_of_lt_of_le f60.lt (Nat.le_of_eq g80.symm))
  have ne_a2_b80 : a2 ≠ b80 := Nat.ne_of_lt (Nat.lt_of_lt_of_le f72.lt (Nat.le_of_eq g80.symm))
  have ne_b4_b80 : b4 ≠ b80 := Nat.ne_of_lt (Nat.lt_of_lt_of_le f74.lt (Nat.le_of_eq g80.symm))
  have ne_b40_b80 : b40 ≠ b80 := Nat.ne_of_lt (Nat.lt_of_lt_of_le f77.lt (Nat.le_of_eq g80.symm))
  have g_b80 : n0 ≤ b80 := Nat.le_trans Z59 (Nat.le_of_eq g80.symm)
  have sz_b80 : h0.size ≤ b80 := Nat.le_trans K59.1 (Nat.le_of_eq g80.symm)
  have Z80 : n0 ≤ h80.size := Nat.le_trans Z59 E80.1
  clear Z59
  have K80 : Keep h0 h80 [a1] := K59.ext E80
  clear K59
  have f81 : oF Z h80 a1 "entryValues" "[[D" .null := f60.ext E80
  clear f60
  have f82 : oF Z h80 a1 "position" "[I" .null := f61.ext E80
  clear f61
  have f83 : oF Z h80 a1 "rows" "I" (.int 0) := f62.ext E80
  clear f62
  have f84 : oF Z h80 a1 "rhs" "[D" .null := f63.ext E80
  clear f63
  have f85 : oF Z h80 a1 "columns" "I" (.int 0) := f64.ext E80
  clear f64
  have f86 : oF Z h80 a1 "basis" "[I" .null := f65.ext E80
  clear f65
  have f87 : oF Z h80 a1 "start" "[I" .null := f66.ext E80
  clear f66
  have f88 : oF Z h80 a1 "inverse" "[[D" .null := f67.ext E80
  clear f67
  have f89 : oF Z h80 a1 "primal" "[D" .null := f68.ext E80
  clear f68
  have f90 : oF Z h80 a1 "pivotsSinceRefactor" "I" (.int 0) := f69.ext E80
  clear f69
  have f91 : oF Z h80 a1 "infeasibility" "D" (.double 0) := f70.ext E80
  clear f70
  have f92 : Exa Z h80 a1 "com/example/trunkwright/trunkwright/traffic/RevisedSimplex" := f71.ext E80
  clear f71
  have f93 : Arv Z h80 a2 ka .double (2 : Int32) [(.double d0), (.double d1)] (.double 0) := f72.ext E80
  clear f72
  have f94 : Exa Z h80 a2 "[D" := f73.ext E80
  clear f73
  have f95 : Exa Z h80 b4 "[D" := f74.ext E80
  clear f74
  have f96 : Arv Z h80 b4 k4 .double (16 : Int32) (oC (.double 0) (.double 0) (.double 0)) (.double 0) := f75.ext E80
  clear f75
  have f97 : oF Z h80 a1 "costs" "[D" (.ref b4) := f76.ext E80
  clear f76
  have f98 : Exa Z h80 b40 "[[I" := f77.ext E80
  clear f77
  have f99 : Arv Z h80 b40 k40 (.array .int) (16 : Int32) (oU .null .null .null) .null := f78.ext E80
  clear f78
  have f100 : oF Z h80 a1 "entryRows" "[[I" (.ref b40) := Fw59.ext E80
  clear Fw59
  clear E80
  have V80 : Arv Z h80 b80 k80 (.array .double) (16 : Int32) (oU .null .null .null) .null := (Arv.new A80 (by decide)).pad (pad_rep [] .null 16)
  obtain ⟨T101, h101, X101, e101, W101, st101⟩ := putF X80 hx hZ hown (host := "") (Or.inl (oW hw 19 rfl)) Via.refl e80 f81 f92 (Or.inl (oW hw 20 rfl)) (oW hw 2 rfl) (ty := (.array (.array .double))) (by decide) rfl rfl (g := (mkF m 27 #[oR a1, oR a2] [(.ref b80), (.ref a1)])) rfl rfl (hb hby own_d1_27)
  have R101 := fun t k => R80 t (st101 t k)
  clear R80 st101 X80 e80
  have Z101 : n0 ≤ h101.size := Nat.le_trans Z80 (Keep.of_wr W101).1
  clear Z80
  have K101 : Keep h0 h101 [a1] := K80.wr W101 (Or.inl (by simp))
  clear K80
  have N101 := Fr.snoc X101 N59 g_a1
  clear N59
  have f102 : oF Z h101 a1 "position" "[I" .null := f82.other W101 (Or.inr (slot_ne (Or.inl (oW hw 23 rfl)) (Or.inl (oW hw 20 rfl)) (by decide) (t := (.array .int)) (t' := (.array (.array .double))) (by decide) (by decide)))
  clear f82
  have f103 : oF Z h101 a1 "rows" "I" (.int 0) := f83.other W101 (Or.inr (slot_ne (Or.inr (oW hw 25 rfl)) (Or.inl (oW hw 20 rfl)) (by decide) (t := .int) (t' := (.array (.array .double))) (by decide) (by decide)))
  clear f83
  have f104 : oF Z h101 a1 "rhs" "[D" .null := f84.other W101 (Or.inr (slot_ne (Or.inr (oW hw 35 rfl)) (Or.inl (oW hw 20 rfl)) (by decide) (t := (.array .double)) (t' := (.array (.array .double))) (by decide) (by decide)))
  clear f84
  have f105 : oF Z h101 a1 "columns" "I" (.int 0) := f85.other W101 (Or.inr (slot_ne (Or.inl (oW hw 42 rfl)) (Or.inl (oW hw 20 rfl)) (by decide) (t := .int) (t' := (.array (.array .double))) (by decide) (by decide)))
  clear f85
  have f106 : oF Z h101 a1 "basis" "[I" .null := f86.other W101 (Or.inr (slot_ne (Or.inl (oW hw 54 rfl)) (Or.inl (oW hw 20 rfl)) (by decide) (t := (.array .int)) (t' := (.array (.array .double))) (by decide) (by decide)))
  clear f86
  have f107 : oF Z h101 a1 "start" "[I" .null := f87.other W101 (Or.inr (slot_ne (Or.inl (oW hw 56 rfl)) (Or.inl (oW hw 20 rfl)) (by decide) (t := (.array .int)) (t' := (.array (.array .double))) (by decide) (by decide)))
  clear f87
  have f108 : oF Z h101 a1 "inverse" "[[D" .null := f88.other W101 (Or.inr (slot_ne (Or.inl (oW hw 75 rfl)) (Or.inl (oW hw 20 rfl)) (by decide) (t := (.array (.array .double))) (t' := (.array (.array .double))) (by decide) (by decide)))
  clear f88
  have f109 : oF Z h101 a1 "primal" "[D" .null := f89.other W101 (Or.inr (slot_ne (Or.inl (oW hw 77 rfl)) (Or.inl (oW hw 20 rfl)) (by decide) (t := (.array .double)) (t' := (.array (.array .double))) (by decide) (by decide)))
  clear f89
  have f110 : oF Z h101 a1 "pivotsSinceRefactor" "I" (.int 0) := f90.other W101 (Or.inr (slot_ne (Or.inl (oW hw 79 rfl)) (Or.inl (oW hw 20 rfl)) (by decide) (t := .int) (t' := (.array (.array .double))) (by decide) (by decide)))
  clear f90
  have f111 : oF Z h101 a1 "infeasibility" "D" (.double 0) := f91.other W101 (Or.inr (slot_ne (Or.inl (oW hw 84 rfl)) (Or.inl (oW hw 20 rfl)) (by decide) (t := .double) (t' := (.array (.array .double))) (by decide) (by decide)))
  clear f91
  have f112 : Exa Z h101 a1 "com/example/trunkwright/trunkwright/traffic/RevisedSimplex" := f92.wr W101
  clear f92
  have f113 : Arv Z h101 a2 ka .double (2 : Int32) [(.double d0), (.double d1)] (.double 0) := f93.other W101 ne_a2_a1
  clear f93
  have f114 : Exa Z h101 a2 "[D" := f94.wr W101
  clear f94
  have f115 : Exa Z h101 b4 "[D" := f95.wr W101
  clear f95
  have f116 : Arv Z h101 b4 k4 .double (16 : Int32) (oC (.double 0) (.double 0) (.double 0)) (.double 0) := f96.other W101 (Ne.symm ne_a1_b4)
  clear f96
  have f117 : oF Z h101 a1 "costs" "[D" (.ref b4) := f97.other W101 (Or.inr (slot_ne (Or.inl (oW hw 12 rfl)) (Or.inl (oW hw 20 rfl)) (by decide) (t := (.array .double)) (t' := (.array (.array .double))) (by decide) (by decide)))
  clear f97
  have f118 : Exa Z h101 b40 "[[I" := f98.wr W101
  clear f98
  have f119 : Arv Z h101 b40 k40 (.array .int) (16 : Int32) (oU .null .null .null) .null := f99.other W101 (Ne.symm ne_a1_b40)
  clear f99
  have f120 : oF Z h101 a1 "entryRows" "[[I" (.ref b40) := f100.other W101 (Or.inr (slot_ne (Or.inl (oW hw 16 rfl)) (Or.inl (oW hw 20 rfl)) (by decide) (t := (.array (.array .int))) (t' := (.array (.array .double))) (by decide) (by decide)))
  clear f100
  have f121 : Exa Z h101 b80 "[[D" := B80.wr W101
  have f122 : Arv Z h101 b80 k80 (.array .double) (16 : Int32) (oU .null .null .null) .null := V80.other W101 (Ne.symm ne_a1_b80)
  clear V80
  have Fw101 : oF Z h101 a1 "entryValues" "[[D" (.ref b80) := f81.same W101
  have R123 : ∀ t, oG p e below T101 m 33 #[oR a1, oR a2] [(.int 16), (.ref a1)] t → Steps p.tables e below AA t := by
    intro t k
    refine R101 t ?_
    refine XS.aloadN X101.here hx rfl (hb hby own_d1_30) rfl rfl ?_
    refine XS.bipush X101.here hx rfl (hb hby own_d1_31) ?_
    exact k
  clear R101
  obtain ⟨T124, h124, k124, X124, e124, E124, A124, B124, st124⟩ := newPE X101 hx hZ (oW hw 21 rfl) e101 (g := (mkF m 33 #[oR a1, oR a2] [(.int 16), (.ref a1)])) rfl (hb hby own_d1_33) rfl (by decide) (cap := 16) (by decide) (by decide) (by decide) (by decide) (ad := "[I") (by decide)
  obtain ⟨b124, g124⟩ : ∃ z, z = h101.size := ⟨_, rfl⟩
  rw [← g124] at A124 B124 st124
  have R124 := fun t k => R123 t (st124 t k)
  clear R123 st124 X101 e101
  have ne_a1_b124 : a1 ≠ b124 := Nat.ne_of_lt (Nat.lt_of_lt_of_le f102.lt (Nat.le_of_eq g124.symm))
  have ne_a2_b124 : a2 ≠ b124 := Nat.ne_of_lt (Nat.lt_of_lt_of_le f113.lt (Nat.le_of_eq g124.symm))
  have ne_b4_b124 : b4 ≠ b124 := Nat.ne_of_lt (Nat.lt_of_lt_of_le f115.lt (Nat.le_of_eq g124.symm))
  have ne_b40_b124 : b40 ≠ b124 := Nat.ne_of_lt (Nat.lt_of_lt_of_le f118.lt (Nat.le_of_eq g124.symm))
  have ne_b80_b124 : b80 ≠ b124 := Nat.ne_of_lt (Nat.lt_of_lt_of_le f121.lt (Nat.le_of_eq g124.symm))
  have g_b124 : n0 ≤ b124 := Nat.le_trans Z101 (Nat.le_of_eq g124.symm)
  have sz_b124 : h0.size ≤ b124 := Nat.le_trans K101.1 (Nat.le_of_eq g124.symm)
  have Z124 : n0 ≤ h124.size := Nat.le_trans Z101 E124.1
  clear Z101
  have K124 : Keep h0 h124 [a1] := K101.ext E124
  clear K101
  have f125 : oF Z h124 a1 "position" "[I" .null := f102.ext E124
  clear f102
  have f126 : oF Z h124 a1 "rows" "I" (.int 0) := f103.ext E124
  clear f103
  have f127 : oF Z h124 a1 "rhs" "[D" .null := f104.ext E124
  clear f104
  have f128 : oF Z h124 a1 "columns" "I" (.int 0) := f105.ext E124
  clear f105
  have f129 : oF Z h124 a1 "basis" "[I" .null := f106.ext E124
  clear f106
  have f130 : oF Z h124 a1 "start" "[I" .null := f107.ext E124
  clear f107
  have f131 : oF Z h124 a1 "inverse" "[[D" .null := f108.ext E124
  clear f108
  have f132 : oF Z h124 a1 "primal" "[D" .null := f109.ext E124
  clear f109
  have f133 : oF Z h124 a1 "pivotsSinceRefactor" "I" (.int 0) := f110.ext E124
  clear f110
  have f134 : oF Z h124 a1 "infeasibility" "D" (.double 0) := f111.ext E124
  clear f111
  have f135 : Exa Z h124 a1 "com/example/trunkwright/trunkwright/traffic/RevisedSimplex" := f112.ext E124
  clear f112
  have f136 : Arv Z h124 a2 ka .double (2 : Int32) [(.double d0), (.double d1)] (.double 0) := f113.ext E124
  clear f113
  have f137 : Exa Z h124 a2 "[D" := f114.ext E124
  clear f114
  have f138 : Exa Z h124 b4 "[D" := f115.ext E124
  clear f115
  have f139 : Arv Z h124 b4 k4 .double (16 : Int32) (oC (.double 0) (.double 0) (.double 0)) (.double 0) := f116.ext E124
  clear f116
  have f140 : oF Z h124 a1 "costs" "[D" (.ref b4) := f117.ext E124
  clear f117
  have f141 : Exa Z h124 b40 "[[I" := f118.ext E124
  clear f118
  have f142 : Arv Z h124 b40 k40 (.array .int) (16 : Int32) (oU .null .null .null) .null := f119.ext E124
  clear f119
  have f143 : oF Z h124 a1 "entryRows" "[[I" (.ref b40) := f120.ext E124
  clear f120
  have f144 : Exa Z h124 b80 "[[D" := f121.ext E124
  clear f121
  have f145 : Arv Z h124 b80 k80 (.array .double) (16 : Int32) (oU .null .null .null) .null := f122.ext E124
  clear f122
  have f146 : oF Z h124 a1 "entryValues" "[[D" (.ref b80) := Fw101.ext E124
  clear Fw101
  clear E124
  have V124 : Arv Z h124 b124 k124 .int (16 : Int32) (oZ (.int 0) (.int 0) (.int 0)) (.int 0) := (Arv.new A124 (by decide)).pad (pad_rep [] (.int 0) 16)
  obtain ⟨T147, h147, X147, e147, W147, st147⟩ := putF X124 hx hZ hown (host := "") (Or.inl (oW hw 22 rfl)) Via.refl e124 f125 f135 (Or.inl (oW hw 23 rfl)) (oW hw 2 rfl) (ty := (.array .int)) (by decide) rfl rfl (g := (mkF m 35 #[oR a1, oR a2] [(.ref b124), (.ref a1)])) rfl rfl (hb hby own_d1_35)
  have R147 := fun t k => R124 t (st147 t k)
  clear R124 st147 X124 e124
  have Z147 : n0 ≤ h147.size := Nat.le_trans Z124 (Keep.of_wr W147).1
  clear Z124
  have K147 : Keep h0 h147 [a1] := K124.wr W147 (Or.inl (by simp))
  clear K124
  have N147 := Fr.snoc X147 N101 g_a1
  clear N101
  have f148 : oF Z h147 a1 "rows" "I" (.int 0) := f126.other W147 (Or.inr (slot_ne (Or.inr (oW hw 25 rfl)) (Or.inl (oW hw 23 rfl)) (by decide) (t := .int) (t' := (.array .int)) (by decide) (by decide)))
  clear f126
  have f149 : oF Z h147 a1 "rhs" "[D" .null := f127.other W147 (Or.inr (slot_ne (Or.inr (oW hw 35 rfl)) (Or.inl (oW hw 23 rfl)) (by decide) (t := (.array .double)) (t' := (.array .int)) (by decide) (by decide)))
  clear f127
  have f150 : oF Z h147 a1 "columns" "I" (.int 0) := f128.other W147 (Or.inr (slot_ne (Or.inl (oW hw 42 rfl)) (Or.inl (oW hw 23 rfl)) (by decide) (t := .int) (t' := (.array .int)) (by decide) (by decide)))
  clear f128
  have f151 : oF Z h147 a1 "basis" "[I" .null := f129.other W147 (Or.inr (slot_ne (Or.inl (oW hw 54 rfl)) (Or.inl (oW hw 23 rfl)) (by decide) (t := (.array .int)) (t' := (.array .int)) (by decide) (by decide)))
  clear f129
  have f152 : oF Z h147 a1 "start" "[I" .null := f130.other W147 (Or.inr (slot_ne (Or.inl (oW hw 56 rfl)) (Or.inl (oW hw 23 rfl)) (by decide) (t := (.array .int)) (t' := (.array .int)) (by decide) (by decide)))
  clear f130
  have f153 : oF Z h147 a1 "inverse" "[[D" .null := f131.other W147 (Or.inr (slot_ne (Or.inl (oW hw 75 rfl)) (Or.inl (oW hw 23 rfl)) (by decide) (t := (.array (.array .double))) (t' := (.array .int)) (by decide) (by decide)))
  clear f131
  have f154 : oF Z h147 a1 "primal" "[D" .null := f132.other W147 (Or.inr (slot_ne (Or.inl (oW hw 77 rfl)) (Or.inl (oW hw 23 rfl)) (by decide) (t := (.array .double)) (t' := (.array .int)) (by decide) (by decide)))
  clear f132
  have f155 : oF Z h147 a1 "pivotsSinceRefactor" "I" (.int 0) := f133.other W147 (Or.inr (slot_ne (Or.inl (oW hw 79 rfl)) (Or.inl (oW hw 23 rfl)) (by decide) (t := .int) (t' := (.array .int)) (by decide) (by decide)))
  clear f133
  have f156 : oF Z h147 a1 "infeasibility" "D" (.double 0) := f134.other W147 (Or.inr (slot_ne (Or.inl (oW hw 84 rfl)) (Or.inl (oW hw 23 rfl)) (by decide) (t := .double) (t' := (.array .int)) (by decide) (by decide)))
  clear f134
  have f157 : Exa Z h147 a1 "com/example/trunkwright/trunkwright/traffic/RevisedSimplex" := f135.wr W147
  clear f135
  have f158 : Arv Z h147 a2 ka .double (2 : Int32) [(.double d0), (.double d1)] (.double 0) := f136.other W147 ne_a2_a1
  clear f136
  have f159 : Exa Z h147 a2 "[D" := f137.wr W147
  clear f137
  have f160 : Exa Z h147 b4 "[D" := f138.wr W147
  clear f138
  have f161 : Arv Z h147 b4 k4 .double (16 : Int32) (oC (.double 0) (.double 0) (.double 0)) (.double 0) := f139.other W147 (Ne.symm ne_a1_b4)
  clear f139
  have f162 : oF Z h147 a1 "costs" "[D" (.ref b4) := f140.other W147 (Or.inr (slot_ne (Or.inl (oW hw 12 rfl)) (Or.inl (oW hw 23 rfl)) (by decide) (t := (.array .double)) (t' := (.array .int)) (by decide) (by decide)))
  clear f140
  have f163 : Exa Z h147 b40 "[[I" := f141.wr W147
  clear f141
  have f164 : Arv Z h147 b40 k40 (.array .int) (16 : Int32) (oU .null .null .null) .null := f142.other W147 (Ne.symm ne_a1_b40)
  clear f142
  have f165 : oF Z h147 a1 "entryRows" "[[I" (.ref b40) := f143.other W147 (Or.inr (slot_ne (Or.inl (oW hw 16 rfl)) (Or.inl (oW hw 23 rfl)) (by decide) (t := (.array (.array .int))) (t' := (.array .int)) (by decide) (by decide)))
  clear f143
  have f166 : Exa Z h147 b80 "[[D" := f144.wr W147
  clear f144
  have f167 : Arv Z h147 b80 k80 (.array .double) (16 : Int32) (oU .null .null .null) .null := f145.other W147 (Ne.symm ne_a1_b80)
  clear f145
  have f168 : oF Z h147 a1 "entryValues" "[[D" (.ref b80) := f146.other W147 (Or.inr (slot_ne (Or.inl (oW hw 20 rfl)) (Or.inl (oW hw 23 rfl)) (by decide) (t := (.array (.array .double))) (t' := (.array .int)) (by decide) (by decide)))
  clear f146
  have f169 : Exa Z h147 b124 "[I" := B124.wr W147
  have f170 : Arv Z h147 b124 k124 .int (16 : Int32) (oZ (.int 0) (.int 0) (.int 0)) (.int 0) := V124.other W147 (Ne.symm ne_a1_b124)
  clear V124
  have Fw147 : oF Z h147 a1 "position" "[I" (.ref b124) := f125.same W147
  have R171 : ∀ t, oG p e below T147 m 40 #[oR a1, oR a2] [(.ref a2), (.ref a1)] t → Steps p.tables e below AA t := by
    intro t k
    refine R147 t ?_
    refine XS.aloadN X147.here hx rfl (hb hby own_d1_38) rfl rfl ?_
    refine XS.aloadN X147.here hx rfl (hb hby own_d1_39) rfl rfl ?_
    exact k
  clear R147
  obtain ⟨cl172, Ar172, q172, S172, N172', H172, G172⟩ := id f158
  have R173 : ∀ t, oG p e below T147 m 41 #[oR a1, oR a2] [(.int 2), (.ref a1)] t → Steps p.tables e below AA t := by
    intro t k
    refine R171 t ?_
    refine X147.arraylength hx (by rw [e147]; exact Ar172.1) (State.isArrayOf_alike hZ.alike Ar172.2.1) (g := (mkF m 40 #[oR a1, oR a2] [(.ref a2), (.ref a1)])) rfl rfl (hb hby own_d1_40) _ ?_
    rw [len_of S172 N172']
    exact k
  clear R171
  obtain ⟨T174, h174, X174, e174, W174, st174⟩ := putF X147 hx hZ hown (host := "") (Or.inl (oW hw 24 rfl)) Via.refl e147 f148 f157 (Or.inr ⟨(oW hw 25 rfl), rfl, hnm⟩) (oW hw 2 rfl) (ty := .int) (by decide) rfl rfl (g := (mkF m 41 #[oR a1, oR a2] [(.int 2), (.ref a1)])) rfl rfl (hb hby own_d1_41)
  have R174 := fun t k => R173 t (st174 t k)
  clear R173 st174 X147 e147
  have Z174 : n0 ≤ h174.size := Nat.le_trans Z147 (Keep.of_wr W174).1
  clear Z147
  have K174 : Keep h0 h174 [a1] := K147.wr W174 (Or.inl (by simp))
  clear K147
  have N174 := Fr.snoc X174 N147 g_a1
  clear N147
  have f175 : oF Z h174 a1 "rhs" "[D" .null := f149.other W174 (Or.inr (slot_ne (Or.inr (oW hw 35 rfl)) (Or.inr (oW hw 25 rfl)) (by decide) (t := (.array .double)) (t' := .int) (by decide) (by decide)))
  clear f149
  have f176 : oF Z h174 a1 "columns" "I" (.int 0) := f150.other W174 (Or.inr (slot_ne (Or.inl (oW hw 42 rfl)) (Or.inr (oW hw 25 rfl)) (by decide) (t := .int) (t' := .int) (by decide) (by decide)))
  clear f150
  have f177 : oF Z h174 a1 "basis" "[I" .null := f151.other W174 (Or.inr (slot_ne (Or.inl (oW hw 54 rfl)) (Or.inr (oW hw 25 rfl)) (by decide) (t := (.array .int)) (t' := .int) (by decide) (by decide)))
  clear f151
  have f178 : oF Z h174 a1 "start" "[I" .null := f152.other W174 (Or.inr (slot_ne (Or.inl (oW hw 56 rfl)) (Or.inr (oW hw 25 rfl)) (by decide) (t := (.array .int)) (t' := .int) (by decide) (by decide)))
  clear f152
  have f179 : oF Z h174 a1 "inverse" "[[D" .null := f153.other W174 (Or.inr (slot_ne (Or.inl (oW hw 75 rfl)) (Or.inr (oW hw 25 rfl)) (by decide) (t := (.array (.array .double))) (t' := .int) (by decide) (by decide)))
  clear f153
  have f180 : oF Z h174 a1 "primal" "[D" .null := f154.other W174 (Or.inr (slot_ne (Or.inl (oW hw 77 rfl)) (Or.inr (oW hw 25 rfl)) (by decide) (t := (.array .double)) (t' := .int) (by decide) (by decide)))
  clear f154
  have f181 : oF Z h174 a1 "pivotsSinceRefactor" "I" (.int 0) := f155.other W174 (Or.inr (slot_ne (Or.inl (oW hw 79 rfl)) (Or.inr (oW hw 25 rfl)) (by decide) (t := .int) (t' := .int) (by decide) (by decide)))
  clear f155
  have f182 : oF Z h174 a1 "infeasibility" "D" (.double 0) := f156.other W174 (Or.inr (slot_ne (Or.inl (oW hw 84 rfl)) (Or.inr (oW hw 25 rfl)) (by decide) (t := .double) (t' := .int) (by decide) (by decide)))
  clear f156
  have f183 : Exa Z h174 a1 "com/example/trunkwright/trunkwright/traffic/RevisedSimplex" := f157.wr W174
  clear f157
  have f184 : Arv Z h174 a2 ka .double (2 : Int32) [(.double d0), (.double d1)] (.double 0) := f158.other W174 ne_a2_a1
  clear f158
  have f185 : Exa Z h174 a2 "[D" := f159.wr W174
  clear f159
  have f186 : Exa Z h174 b4 "[D" := f160.wr W174
  clear f160
  have f187 : Arv Z h174 b4 k4 .double (16 : Int32) (oC (.double 0) (.double 0) (.double 0)) (.double 0) := f161.other W174 (Ne.symm ne_a1_b4)
  clear f161
  have f188 : oF Z h174 a1 "costs" "[D" (.ref b4) := f162.other W174 (Or.inr (slot_ne (Or.inl (oW hw 12 rfl)) (Or.inr (oW hw 25 rfl)) (by decide) (t := (.array .double)) (t' := .int) (by decide) (by decide)))
  clear f162
  have f189 : Exa Z h174 b40 "[[I" := f163.wr W174
  clear f163
  have f190 : Arv Z h174 b40 k40 (.array .int) (16 : Int32) (oU .null .null .null) .null := f164.other W174 (Ne.symm ne_a1_b40)
  clear f164
  have f191 : oF Z h174 a1 "entryRows" "[[I" (.ref b40) := f165.other W174 (Or.inr (slot_ne (Or.inl (oW hw 16 rfl)) (Or.inr (oW hw 25 rfl)) (by decide) (t := (.array (.array .int))) (t' := .int) (by decide) (by decide)))
  clear f165
  have f192 : Exa Z h174 b80 "[[D" := f166.wr W174
  clear f166
  have f193 : Arv Z h174 b80 k80 (.array .double) (16 : Int32) (oU .null .null .null) .null := f167.other W174 (Ne.symm ne_a1_b80)
  clear f167
  have f194 : oF Z h174 a1 "entryValues" "[[D" (.ref b80) := f168.other W174 (Or.inr (slot_ne (Or.inl (oW hw 20 rfl)) (Or.inr (oW hw 25 rfl)) (by decide) (t := (.array (.array .double))) (t' := .int) (by decide) (by decide)))
  clear f168
  have f195 : Exa Z h174 b124 "[I" := f169.wr W174
  clear f169
  have f196 : Arv Z h174 b124 k124 .int (16 : Int32) (oZ (.int 0) (.int 0) (.int 0)) (.int 0) := f170.other W174 (Ne.symm ne_a1_b124)
  clear f170
  have f197 : oF Z h174 a1 "position" "[I" (.ref b124) := Fw147.other W174 (Or.inr (slot_ne (Or.inl (oW hw 23 rfl)) (Or.inr (oW hw 25 rfl)) (by decide) (t := (.array .int)) (t' := .int) (by decide) (by decide)))
  clear Fw147
  have Fw174 : oF Z h174 a1 "rows" "I" (.int 2) := f148.same W174
  have R198 : ∀ t, oG p e below T174 m 46 #[oR a1, oR a2] [(.ref a2), (.ref a1)] t → Steps p.tables e below AA t := by
    intro t k
    refine R174 t ?_
    refine XS.aloadN X174.here hx rfl (hb hby own_d1_44) rfl rfl ?_
    refine XS.aloadN X174.here hx rfl (hb hby own_d1_45) rfl rfl ?_
    exact k
  clear R174
  obtain ⟨T199, h199, X199, e199, E199, A199, B199, st199⟩ := cloneH X174 hx hZ (ad := "[D") hown (oW hw 26 rfl) (oW hw 27 rfl) (oW hw 31 rfl) (oW hw 29 rfl) (oW hw 30 rfl) (oW hw 32 rfl) e174 (Arv.arh f184) f185 (g := (mkF m 46 #[oR a1, oR a2] [(.ref a2), (.ref a1)])) rfl (by rw [hml]; rfl) rfl (hb hby own_d1_46) (by decide) (W := 1) (cap := 2) oL (by decide) (by decide) (by decide) (by decide)
  obtain ⟨b199, g199⟩ : ∃ z, z = h174.size := ⟨_, rfl⟩
  rw [← g199] at A199 B199 st199
  have R199 := fun t k => R198 t (st199 t k)
  clear R198 st199 X174 e174
  have ne_a1_b199 : a1 ≠ b199 := Nat.ne_of_lt (Nat.lt_of_lt_of_le f175.lt (Nat.le_of_eq g199.symm))
  have ne_a2_b199 : a2 ≠ b199 := Nat.ne_of_lt (Nat.lt_of_lt_of_le f184.lt (Nat.le_of_eq g199.symm))
  have ne_b124_b199 : b124 ≠ b199 := Nat.ne_of_lt (Nat.lt_of_lt_of_le f195.lt (Nat.le_of_eq g199.symm))
  have ne_b4_b199 : b4 ≠ b199 := Nat.ne_of_lt (Nat.lt_of_lt_of_le f186.lt (Nat.le_of_eq g199.symm))
  have ne_b40_b199 : b40 ≠ b199 := Nat.ne_of_lt (Nat.lt_of_lt_of_le f189.lt (Nat.le_of_eq g199.symm))
  have ne_b80_b199 : b80 ≠ b199 := Nat.ne_of_lt (Nat.lt_of_lt_of_le f192.lt (Nat.le_of_eq g199.symm))
  have g_b199 : n0 ≤ b199 := Nat.le_trans Z174 (Nat.le_of_eq g199.symm)
  have sz_b199 : h0.size ≤ b199 := Nat.le_trans K174.1 (Nat.le_of_eq g199.symm)
  have Z199 : n0 ≤ h199.size := Nat.le_trans Z174 E199.1
  clear Z174
  have K199 : Keep h0 h199 [a1] := K174.ext E199
  clear K174
  have f200 : oF Z h199 a1 "rhs" "[D" .null := f175.ext E199
  clear f175
  have f201 : oF Z h199 a1 "columns" "I" (.int 0) := f176.ext E199
  clear f176
  have f202 : oF Z h199 a1 "basis" "[I" .null := f177.ext E199
  clear f177
  have f203 : oF Z h199 a1 "start" "[I" .null := f178.ext E199
  clear f178
  have f204 : oF Z h199 a1 "inverse" "[[D" .null := f179.ext E199
  clear f179
  have f205 : oF Z h199 a1 "primal" "[D" .null := f180.ext E199
  clear f180
  have f206 : oF Z h199 a1 "pivotsSinceRefactor" "I" (.int 0) := f181.ext E199
  clear f181
  have f207 : oF Z h199 a1 "infeasibility" "D" (.double 0) := f182.ext E199
  clear f182
  have f208 : Exa Z h199 a1 "com/example/trunkwright/trunkwright/traffic/RevisedSimplex" := f183.ext E199
  clear f183
  have f209 : Arv Z h199 a2 ka .double (2 : Int32) [(.double d0), (.double d1)] (.double 0) := f184.ext E199
  clear f184
  have f210 : Exa Z h199 a2 "[D" := f185.ext E199
  clear f185
  have f211 : Exa Z h199 b4 "[D" := f186.ext E199
  clear f186
  have f212 : Arv Z h199 b4 k4 .double (16 : Int32) (oC (.double 0) (.double 0) (.double 0)) (.double 0) := f187.ext E199
  clear f187
  have f213 : oF Z h199 a1 "costs" "[D" (.ref b4) := f188.ext E199
  clear f188
  have f214 : Exa Z h199 b40 "[[I" := f189.ext E199
  clear f189
  have f215 : Arv Z h199 b40 k40 (.array .int) (16 : Int32) (oU .null .null .null) .null := f190.ext E199
  clear f190
  have f216 : oF Z h199 a1 "entryRows" "[[I" (.ref b40) := f191.ext E199
  clear f191
  have f217 : Exa Z h199 b80 "[[D" := f192.ext E199
  clear f192
  have f218 : Arv Z h199 b80 k80 (.array .double) (16 : Int32) (oU .null .null .null) .null := f193.ext E199
  clear f193
  have f219 : oF Z h199 a1 "entryValues" "[[D" (.ref b80) := f194.ext E199
  clear f194
  have f220 : Exa Z h199 b124 "[I" := f195.ext E199
  clear f195
  have f221 : Arv Z h199 b124 k124 .int (16 : Int32) (oZ (.int 0) (.int 0) (.int 0)) (.int 0) := f196.ext E199
  clear f196
  have f222 : oF Z h199 a1 "position" "[I" (.ref b124) := f197.ext E199
  clear f197
  have f223 : oF Z h199 a1 "rows" "I" (.int 2) := Fw174.ext E199
  clear Fw174
  clear E199
  have V199 : Arv Z h199 b199 ka .double (2 : Int32) [(.double d0), (.double d1)] (.double 0) := A199
  obtain ⟨T224, X224, e224, st224⟩ := castY X199 hx hZ hown (oW hw 17 rfl) e199 (Ins.self B199) (g := (mkF m 49 #[oR a1, oR a2] [(.ref b199), (.ref a1)])) rfl rfl (hb hby own_d1_49)
  have R224 := fun t k => R199 t (st224 t k)
  clear R199 st224 X199 e199
  obtain ⟨T225, h225, X225, e225, W225, st225⟩ := putF X224 hx hZ hown (host := "") (Or.inl (oW hw 34 rfl)) Via.refl e224 f200 f208 (Or.inr ⟨(oW hw 35 rfl), rfl, hnm⟩) (oW hw 2 rfl) (ty := (.array .double)) (by decide) rfl rfl (g := (mkF m 52 #[oR a1, oR a2] [(.ref b199), (.ref a1)])) rfl rfl (hb hby own_d1_52)
  have R225 := fun t k => R224 t (st225 t k)
  clear R224 st225 X224 e224
  have Z225 : n0 ≤ h225.size := Nat.le_trans Z199 (Keep.of_wr W225).1
  clear Z199
  have K225 : Keep h0 h225 [a1] := K199.wr W225 (Or.inl (by simp))
  clear K199
  have N225 := Fr.snoc X225 N174 g_a1
  clear N174
  have f226 : oF Z h225 a1 "columns" "I" (.int 0) := f201.other W225 (Or.inr (slot_ne (Or.inl (oW hw 42 rfl)) (Or.inr (oW hw 35 rfl)) (by decide) (t := .int) (t' := (.array .double)) (by decide) (by decide)))
  clear f201
  have f227 : oF Z h225 a1 "basis" "[I" .null := f202.other W225 (Or.inr (slot_ne (Or.inl (oW hw 54 rfl)) (Or.inr (oW hw 35 rfl)) (by decide) (t := (.array .int)) (t' := (.array .double)) (by decide) (by decide)))
  clear f202
  have f228 : oF Z h225 a1 "start" "[I" .null := f203.other W225 (Or.inr (slot_ne (Or.inl (oW hw 56 rfl)) (Or.inr (oW hw 35 rfl)) (by decide) (t := (.array .int)) (t' := (.array .double)) (by decide) (by decide)))
  clear f203
  have f229 : oF Z h225 a1 "inverse" "[[D" .null := f204.other W225 (Or.inr (slot_ne (Or.inl (oW hw 75 rfl)) (Or.inr (oW hw 35 rfl)) (by decide) (t := (.array (.array .double))) (t' := (.array .double)) (by decide) (by decide)))
  clear f204
  have f230 : oF Z h225 a1 "primal" "[D" .null := f205.other W225 (Or.inr (slot_ne (Or.inl (oW hw 77 rfl)) (Or.inr (oW hw 35 rfl)) (by decide) (t := (.array .double)) (t' := (.array .double)) (by decide) (by decide)))
  clear f205
  have f231 : oF Z h225 a1 "pivotsSinceRefactor" "I" (.int 0) := f206.other W225 (Or.inr (slot_ne (Or.inl (oW hw 79 rfl)) (Or.inr (oW hw 35 rfl)) (by decide) (t := .int) (t' := (.array .double)) (by decide) (by decide)))
  clear f206
  have f232 : oF Z h225 a1 "infeasibility" "D" (.double 0) := f207.other W225 (Or.inr (slot_ne (Or.inl (oW hw 84 rfl)) (Or.inr (oW hw 35 rfl)) (by decide) (t := .double) (t' := (.array .double)) (by decide) (by decide)))
  clear f207
  have f233 : Exa Z h225 a1 "com/example/trunkwright/trunkwright/traffic/RevisedSimplex" := f208.wr W225
  clear f208
  have f234 : Arv Z h225 a2 ka .double (2 : Int32) [(.double d0), (.double d1)] (.double 0) := f209.other W225 ne_a2_a1
  clear f209
  have f235 : Exa Z h225 a2 "[D" := f210.wr W225
  clear f210
  have f236 : Exa Z h225 b4 "[D" := f211.wr W225
  clear f211
  have f237 : Arv Z h225 b4 k4 .double (16 : Int32) (oC (.double 0) (.double 0) (.double 0)) (.double 0) := f212.other W225 (Ne.symm ne_a1_b4)
  clear f212
  have f238 : oF Z h225 a1 "costs" "[D" (.ref b4) := f213.other W225 (Or.inr (slot_ne (Or.inl (oW hw 12 rfl)) (Or.inr (oW hw 35 rfl)) (by decide) (t := (.array .double)) (t' := (.array .double)) (by decide) (by decide)))
  clear f213
  have f239 : Exa Z h225 b40 "[[I" := f214.wr W225
  clear f214
  have f240 : Arv Z h225 b40 k40 (.array .int) (16 : Int32) (oU .null .null .null) .null := f215.other W225 (Ne.symm ne_a1_b40)
  clear f215
  have f241 : oF Z h225 a1 "entryRows" "[[I" (.ref b40) := f216.other W225 (Or.inr (slot_ne (Or.inl (oW hw 16 rfl)) (Or.inr (oW hw 35 rfl)) (by decide) (t := (.array (.array .int))) (t' := (.array .double)) (by decide) (by decide)))
  clear f216
  have f242 : Exa Z h225 b80 "[[D" := f217.wr W225
  clear f217
  have f243 : Arv Z h225 b80 k80 (.array .double) (16 : Int32) (oU .null .null .null) .null := f218.other W225 (Ne.symm ne_a1_b80)
  clear f218
  have f244 : oF Z h225 a1 "entryValues" "[[D" (.ref b80) := f219.other W225 (Or.inr (slot_ne (Or.inl (oW hw 20 rfl)) (Or.inr (oW hw 35 rfl)) (by decide) (t := (.array (.array .double))) (t' := (.array .double)) (by decide) (by decide)))
  clear f219
  have f245 : Exa Z h225 b124 "[I" := f220.wr W225
  clear f220
  have f246 : Arv Z h225 b124 k124 .int (16 : Int32) (oZ (.int 0) (.int 0) (.int 0)) (.int 0) := f221.other W225 (Ne.symm ne_a1_b124)
  clear f221
  have f247 : oF Z h225 a1 "position" "[I" (.ref b124) := f222.other W225 (Or.inr (slot_ne (Or.inl (oW hw 23 rfl)) (Or.inr (oW hw 35 rfl)) (by decide) (t := (.array .int)) (t' := (.array .double)) (by decide) (by decide)))
  clear f222
  have f248 : oF Z h225 a1 "rows" "I" (.int 2) := f223.other W225 (Or.inr (slot_ne (Or.inr (oW hw 25 rfl)) (Or.inr (oW hw 35 rfl)) (by decide) (t := .int) (t' := (.array .double)) (by decide) (by decide)))
  clear f223
  have f249 : Exa Z h225 b199 "[D" := B199.wr W225
  have f250 : Arv Z h225 b199 ka .double (2 : Int32) [(.double d0), (.double d1)] (.double 0) := V199.other W225 (Ne.symm ne_a1_b199)
  clear V199
  have Fw225 : oF Z h225 a1 "rhs" "[D" (.ref b199) := f200.same W225
  subst hAA
  obtain ⟨fs, hr, hrun, hended, hW, hsame⟩ := X225.leave (v := none) (fun _ => rfl)
  refine ⟨_, _, R225 _ ?_, hrun, hended, _, _, rfl, ?_, ⟨_, rfl⟩, hW, hsame.mono (by decide) (by decide)⟩
  · exact X225.returnOut hx Bd.returns (hb hby own_d1_55) hr
  · show Q_rmIn Z a1 a2 ka d0 d1 h0 n0 _ T225.heap _
    rw [e225]
    exact ⟨rfl, N225, b4, b40, b80, b124, b199, _, _, _, _, K225, sz_b4, sz_b40, sz_b80, sz_b124, sz_b199, ne_b4_b40, ne_b4_b80, ne_b4_b124, ne_b4_b199, ne_b40_b80, ne_b40_b124, ne_b40_b199, ne_b80_b124, ne_b80_b199, ne_b124_b199, f238, f241, f244, f247, f248, Fw225, f226, f227, f228, f229, f230, f231, f232, f237, f240, f243, f246, f250, O40, O80⟩
theorem own_pn1 : plainName "com/example/trunkwright/trunkwright/traffic/RevisedSimplexValuePinLaw" = true := by first | (simp [plainName, overriddenIn]; done) | decide +kernel
theorem own_ef_rm0 (m : MethodId) (x0 : Int32) (x1 : Int32) (x2 : Int32) (x3 : Int32) (x4 : Int32) (x5 : Int32) : entryFrame m #[(.int x0), (.int x1), (.int x2), (.int x3), (.int x4), (.int x5)] maxLocals = mkF m 0 #[oI x0, oI x1, oI x2, oI x3, oI x4, oI x5, .unset, .unset, .unset, .unset, .unset, .unset, .unset, .unset, .unset, .unset, .unset, .unset, .unset, .unset, .unset, .unset, .unset, .unset, .unset, .unset, .unset, .unset, .unset, .unset] [] := by first | (simp [entryFrame, mkF, argsToLocals, Value.category, maxLocals]; done) | rfl
theorem own_pd0 : parseMethodDescriptor "([D)V" = some ⟨[(.array .double)], none⟩ := by decide +kernel
theorem own_pd3 : parseMethodDescriptor "(D[I[D)I" = some ⟨[.double, (.array .int), (.array .double)], some .int⟩ := by decide +kernel
theorem own_pd4 : parseMethodDescriptor "([I)V" = some ⟨[(.array .int)], none⟩ := by decide +kernel
theorem own_pd9 : parseMethodDescriptor "(I)D" = some ⟨[.int], some .double⟩ := by decide +kernel
def Q_rm0 (Z : State) (p1 p2 p3 p4 p5 p6 : Int32) (h0 : Heap) (n0 : Nat) (v : Option Value) (h : Heap) (L : List Loc) : Prop := v = some (.int 1) ∧ Fr n0 L
set_option maxRecDepth 65536 in
set_option maxHeartbeats 40000000 in
theorem rm0 (l : Launch) (Z : State) (a0 : Array Value) (hw : ∀ d ∈ tables_1, d.before a0 Z = true) (ws : List Jvm.Cond) (p1 p2 p3 p4 p5 p6 : Int32) (h0 : Heap) (n0 : Nat) (Z0 : n0 ≤ h0.size)  :
    MetFree l x (head1 (Jvm.Cond.code x code maxLocals ret :: ws) room_1) (fun a U => a = #[(.int p1), (.int p2), (.int p3), (.int p4), (.int p5), (.int p6)] ∧ Z.Warmed39 U.vm ∧ U.heap = h0) (fun _ _ _ _ _ => True) (fun _ U o U' => ∃ v L, o = .returned v ∧ Q_rm0 Z p1 p2 p3 p4 p5 p6 h0 n0 v U'.heap L ∧ FrameEnd U o U' L room_1.cells room_1.slots) := by
  refine MetFree.of_bodySF (plainFor_of_name own_pn1) hisR ?_
  intro p e s m args below meth c s₁ Bd hml0 hP hK
  obtain ⟨rfl, hZ, hh⟩ := hP
  have hx := Bd.exec
  have hby := Bd.bytes
  have hml : c.maxLocals = 30 := hml0
  have hown : s.vm.findClass "com/example/trunkwright/trunkwright/traffic/RevisedSimplexValuePinLaw" = some m.cls := findClass_of_methodNamed Bd.named
  have hnm := (name_of_methodNamed Bd.named Bd.method).1
  have X0 : Stand p l e room_1 s m #[(.int p1), (.int p2), (.int p3), (.int p4), (.int p5), (.int p6)] below meth c s₁ [] 0 0 := Stand.of_body Bd
  have e0 : s₁.heap = h0 := by rw [← hh, Bd.state]; rfl
  have N0 := Fr.nil n0
  have R0 : ∀ t, oG p e below s₁ m 0 #[oI p1, oI p2, oI p3, oI p4, oI p5, oI p6, .unset, .unset, .unset, .unset, .unset, .unset, .unset, .unset, .unset, .unset, .unset, .unset, .unset, .unset, .unset, .unset, .unset, .unset, .unset, .unset, .unset, .unset, .unset, .unset] [] t → Steps p.tables e below (s₁.setTop (entryFrame m #[(.int p1), (.int p2), (.int p3), (.int p4), (.int p5), (.int p6)] maxLocals)) t := fun t k => castTop (own_ef_rm0 m p1 p2 p3 p4 p5 p6) k
  obtain ⟨AA, hAA⟩ : ∃ z, z = (s₁.setTop (entryFrame m #[(.int p1), (.int p2), (.int p3), (.int p4), (.int p5), (.int p6)] maxLocals)) := ⟨_, rfl⟩
  rw [← hAA] at R0
  have R1 : ∀ t, oG p e below s₁ m 39 #[oI p1, oI p2, oI p3, oI p4, oI p5, oI p6, oD (FP.i2d (p1 &&& (2147483647 : Int32))), .second, oD (FP.i2d (p2 &&& (2147483647 : Int32))), .second, oD (FP.i2d ((1 : Int32) <<< ((p3 &&& (3 : Int32)) &&& 31))), .second, oD (FP.i2d ((1 : Int32) <<< ((p4 &&& (3 : Int32)) &&& 31))), .second, oD (FP.i2d ((1 : Int32) <<< ((p5 &&& (3 : Int32)) &&& 31))), .second, .unset, .unset, .unset, .unset, .unset, .unset, .unset, .unset, .unset, .unset, .unset, .unset, .unset, .unset] [] t → Steps p.tables e below AA t := by
    intro t k
    refine R0 t ?_
    refine XS.iloadN X0.here hx rfl (hb hby at_0) rfl ?_
    refine X0.ldcInt hx hown (mvT hZ (oW hw 0 rfl)) (g := (mkF m 1 #[oI p1, oI p2, oI p3, oI p4, oI p5, oI p6, .unset, .unset, .unset, .unset, .unset, .unset, .unset, .unset, .unset, .unset, .unset, .unset, .unset, .unset, .unset, .unset, .unset, .unset, .unset, .unset, .unset, .unset, .unset, .unset] [(.int p1)])) rfl (hb hby at_1) _ ?_
    refine XS.iand X0.here hx rfl (hb hby at_3) rfl ?_
    refine XS.i2dS X0.here hx rfl (hb hby at_4) rfl rfl ?_
    refine XS.dstore X0.here hx rfl (hb hby at_5) rfl (l' := #[oI p1, oI p2, oI p3, oI p4, oI p5, oI p6, oD (FP.i2d (p1 &&& (2147483647 : Int32))), .second, .unset, .unset, .unset, .unset, .unset, .unset, .unset, .unset, .unset, .unset, .unset, .unset, .unset, .unset, .unset, .unset, .unset, .unset, .unset, .unset, .unset, .unset]) rfl ?_
    show oG p e below s₁ m 7 #[oI p1, oI p2, oI p3, oI p4, oI p5, oI p6, oD (FP.i2d (p1 &&& (2147483647 : Int32))), .second, .unset, .unset, .unset, .unset, .unset, .unset, .unset, .unset, .unset, .unset, .unset, .unset, .unset, .unset, .unset, .unset, .unset, .unset, .unset, .unset, .unset, .unset] [] _
    refine XS.iloadN X0.here hx rfl (hb hby at_7) rfl ?_
    refine X0.ldcInt hx hown (mvT hZ (oW hw 0 rfl)) (g := (mkF m 8 #[oI p1, oI p2, oI p3, oI p4, oI p5, oI p6, oD (FP.i2d (p1 &&& (2147483647 : Int32))), .second, .unset, .unset, .unset, .unset, .unset, .unset, .unset, .unset, .unset, .unset, .unset, .unset, .unset, .unset, .unset, .unset, .unset, .unset, .unset, .unset, .unset, .unset] [(.int p2)])) rfl (hb hby at_8) _ ?_
    refine XS.iand X0.here hx rfl (hb hby at_10) rfl ?_
    refine XS.i2dS X0.here hx rfl (hb hby at_11) rfl rfl ?_
    refine XS.dstore X0.here hx rfl (hb hby at_12) rfl (l' := #[oI p1, oI p2, oI p3, oI p4, oI p5, oI p6, oD (FP.i2d (p1 &&& (2147483647 : Int32))), .second, oD (FP.i2d (p2 &&& (2147483647 : Int32))), .second, .unset, .unset, .unset, .unset, .unset, .unset, .unset, .unset, .unset, .unset, .unset, .unset, .unset, .unset, .unset, .unset, .unset, .unset, .unset, .unset]) rfl ?_
    refine XS.iconst X0.here hx rfl (hb hby at_14) ?_
    show oG p e below s₁ m 15 #[oI p1, oI p2, oI p3, oI p4, oI p5, oI p6, oD (FP.i2d (p1 &&& (2147483647 : Int32))), .second, oD (FP.i2d (p2 &&& (2147483647 : Int32))), .second, .unset, .unset, .unset, .unset, .unset, .unset, .unset, .unset, .unset, .unset, .unset, .unset, .unset, .unset, .unset, .unset, .unset, .unset, .unset, .unset] [(.int 1)] _
    refine XS.iloadN X0.here hx rfl (hb hby at_15) rfl ?_
    refine XS.iconst X0.here hx rfl (hb hby at_16) ?_
    refine XS.iand X0.here hx rfl (hb hby at_17) rfl ?_
    refine XS.ishl X0.here hx rfl (hb hby at_18) rfl ?_
    refine XS.i2dS X0.here hx rfl (hb hby at_19) rfl rfl ?_
    refine XS.dstore X0.here hx rfl (hb hby at_20) rfl (l' := #[oI p1, oI p2, oI p3, oI p4, oI p5, oI p6, oD (FP.i2d (p1 &&& (2147483647 : Int32))), .second, oD (FP.i2d (p2 &&& (2147483647 : Int32))), .second, oD (FP.i2d ((1 : Int32) <<< ((p3 &&& (3 : Int32)) &&& 31))), .second, .unset, .unset, .unset, .unset, .unset, .unset, .unset, .unset, .unset, .unset, .unset, .unset, .unset, .unset, .unset, .unset, .unset, .unset]) rfl ?_
    show oG p e below s₁ m 22 #[oI p1, oI p2, oI p3, oI p4, oI p5, oI p6, oD (FP.i2d (p1 &&& (2147483647 : Int32))), .second, oD (FP.i2d (p2 &&& (2147483647 : Int32))), .second, oD (FP.i2d ((1 : Int32) <<< ((p3 &&& (3 : Int32)) &&& 31))), .second, .unset, .unset, .unset, .unset, .unset, .unset, .unset, .unset, .unset, .unset, .unset, .unset, .unset, .unset, .unset, .unset, .unset, .unset] [] _
    refine XS.iconst X0.here hx rfl (hb hby at_22) ?_
    refine XS.iloadN X0.here hx rfl (hb hby at_23) rfl ?_
    refine XS.iconst X0.here hx rfl (hb hby at_24) ?_
    refine XS.iand X0.here hx rfl (hb hby at_25) rfl ?_
    refine XS.ishl X0.here hx rfl (hb hby at_26) rfl ?_
    refine XS.i2dS X0.here hx rfl (hb hby at_27) rfl rfl ?_
    show oG p e below s₁ m 28 #[oI p1, oI p2, oI p3, oI p4, oI p5, oI p6, oD (FP.i2d (p1 &&& (2147483647 : Int32))), .second, oD (FP.i2d (p2 &&& (2147483647 : Int32))), .second, oD (FP.i2d ((1 : Int32) <<< ((p3 &&& (3 : Int32)) &&& 31))), .second, .unset, .unset, .unset, .unset, .unset, .unset, .unset, .unset, .unset, .unset, .unset, .unset, .unset, .unset, .unset, .unset, .unset, .unset] [(.double (FP.i2d ((1 : Int32) <<< ((p4 &&& (3 : Int32)) &&& 31))))] _
    refine XS.dstore X0.here hx rfl (hb hby at_28) rfl (l' := #[oI p1, oI p2, oI p3, oI p4, oI p5, oI p6, oD (FP.i2d (p1 &&& (2147483647 : Int32))), .second, oD (FP.i2d (p2 &&& (2147483647 : Int32))), .second, oD (FP.i2d ((1 : Int32) <<< ((p3 &&& (3 : Int32)) &&& 31))), .second, oD (FP.i2d ((1 : Int32) <<< ((p4 &&& (3 : Int32)) &&& 31))), .second, .unset, .unset, .unset, .unset, .unset, .unset, .unset, .unset, .unset, .unset, .unset, .unset, .unset, .unset, .unset, .unset]) rfl ?_
    refine XS.iconst X0.here hx rfl (hb hby at_30) ?_
    refine XS.iload X0.here hx rfl (hb hby at_31) rfl ?_
    refine XS.iconst X0.here hx rfl (hb hby at_33) ?_
    refine XS.iand X0.here hx rfl (hb hby at_34) rfl ?_
    refine XS.ishl X0.here hx rfl (hb hby at_35) rfl ?_
    show oG p e below s₁ m 36 #[oI p1, oI p2, oI p3, oI p4, oI p5, oI p6, oD (FP.i2d (p1 &&& (2147483647 : Int32))), .second, oD (FP.i2d (p2 &&& (2147483647 : Int32))), .second, oD (FP.i2d ((1 : Int32) <<< ((p3 &&& (3 : Int32)) &&& 31))), .second, oD (FP.i2d ((1 : Int32) <<< ((p4 &&& (3 : Int32)) &&& 31))), .second, .unset, .unset, .unset, .unset, .unset, .unset, .unset, .unset, .unset, .unset, .unset, .unset, .unset, .unset, .unset, .unset] [(.int ((1 : Int32) <<< ((p5 &&& (3 : Int32)) &&& 31)))] _
    refine XS.i2dS X0.here hx rfl (hb hby at_36) rfl rfl ?_
    refine XS.dstore X0.here hx rfl (hb hby at_37) rfl (l' := #[oI p1, oI p2, oI p3, oI p4, oI p5, oI p6, oD (FP.i2d (p1 &&& (2147483647 : Int32))), .second, oD (FP.i2d (p2 &&& (2147483647 : Int32))), .second, oD (FP.i2d ((1 : Int32) <<< ((p3 &&& (3 : Int32)) &&& 31))), .second, oD (FP.i2d ((1 : Int32) <<< ((p4 &&& (3 : Int32)) &&& 31))), .second, oD (FP.i2d ((1 : Int32) <<< ((p5 &&& (3 : Int32)) &&& 31))), .second, .unset, .unset, .unset, .unset, .unset, .unset, .unset, .unset, .unset, .unset, .unset, .unset, .unset, .unset]) rfl ?_
    exact k
  obtain ⟨dp, hdp⟩ : ∃ z : UInt64, z = (FP.i2d (p1 &&& (2147483647 : Int32))) := ⟨_, rfl⟩
  have R2 : ∀ t, oG p e below s₁ m 39 #[oI p1, oI p2, oI p3, oI p4, oI p5, oI p6, oD dp, .second, oD (FP.i2d (p2 &&& (2147483647 : Int32))), .second, oD (FP.i2d ((1 : Int32) <<< ((p3 &&& (3 : Int32)) &&& 31))), .second, oD (FP.i2d ((1 : Int32) <<< ((p4 &&& (3 : Int32)) &&& 31))), .second, oD (FP.i2d ((1 : Int32) <<< ((p5 &&& (3 : Int32)) &&& 31))), .second, .unset, .unset, .unset, .unset, .unset, .unset, .unset, .unset, .unset, .unset, .unset, .unset, .unset, .unset] [] t → Steps p.tables e below AA t := by rw [hdp]; exact R1
  clear R1
  obtain ⟨dq, hdq⟩ : ∃ z : UInt64, z = (FP.i2d (p2 &&& (2147483647 : Int32))) := ⟨_, rfl⟩
  have R3 : ∀ t, oG p e below s₁ m 39 #[oI p1, oI p2, oI p3, oI p4, oI p5, oI p6, oD dp, .second, oD dq, .second, oD (FP.i2d ((1 : Int32) <<< ((p3 &&& (3 : Int32)) &&& 31))), .second, oD (FP.i2d ((1 : Int32) <<< ((p4 &&& (3 : Int32)) &&& 31))), .second, oD (FP.i2d ((1 : Int32) <<< ((p5 &&& (3 : Int32)) &&& 31))), .second, .unset, .unset, .unset, .unset, .unset, .unset, .unset, .unset, .unset, .unset, .unset, .unset, .unset, .unset] [] t → Steps p.tables e below AA t := by rw [hdq]; exact R2
  clear R2
  obtain ⟨ak0, hak0⟩ : ∃ z : UInt64, z = (FP.i2d ((1 : Int32) <<< ((p3 &&& (3 : Int32)) &&& 31))) := ⟨_, rfl⟩
  have R4 : ∀ t, oG p e below s₁ m 39 #[oI p1, oI p2, oI p3, oI p4, oI p5, oI p6, oD dp, .second, oD dq, .second, oD ak0, .second, oD (FP.i2d ((1 : Int32) <<< ((p4 &&& (3 : Int32)) &&& 31))), .second, oD (FP.i2d ((1 : Int32) <<< ((p5 &&& (3 : Int32)) &&& 31))), .second, .unset, .unset, .unset, .unset, .unset, .unset, .unset, .unset, .unset, .unset, .unset, .unset, .unset, .unset] [] t → Steps p.tables e below AA t := by rw [hak0]; exact R3
  clear R3
  obtain ⟨ak1, hak1⟩ : ∃ z : UInt64, z = (FP.i2d ((1 : Int32) <<< ((p4 &&& (3 : Int32)) &&& 31))) := ⟨_, rfl⟩
  have R5 : ∀ t, oG p e below s₁ m 39 #[oI p1, oI p2, oI p3, oI p4, oI p5, oI p6, oD dp, .second, oD dq, .second, oD ak0, .second, oD ak1, .second, oD (FP.i2d ((1 : Int32) <<< ((p5 &&& (3 : Int32)) &&& 31))), .second, .unset, .unset, .unset, .unset, .unset, .unset, .unset, .unset, .unset, .unset, .unset, .unset, .unset, .unset] [] t → Steps p.tables e below AA t := by rw [hak1]; exact R4
  clear R4
  obtain ⟨ak2, hak2⟩ : ∃ z : UInt64, z = (FP.i2d ((1 : Int32) <<< ((p5 &&& (3 : Int32)) &&& 31))) := ⟨_, rfl⟩
  have R6 : ∀ t, oG p e below s₁ m 39 #[oI p1, oI p2, oI p3, oI p4, oI p5, oI p6, oD dp, .second, oD dq, .second, oD ak0, .second, oD ak1, .second, oD ak2, .second, .unset, .unset, .unset, .unset, .unset, .unset, .unset, .unset, .unset, .unset, .unset, .unset, .unset, .unset] [] t → Steps p.tables e below AA t := by rw [hak2]; exact R5
  clear R5
  have sdp : own_P dp := hdp ▸ own_i2dm p1
  have sdq : own_P dq := hdq ▸ own_i2dm p2
  have sak0 : own_S ak0 := hak0 ▸ own_Sk p3
  have sak1 : own_S ak1 := hak1 ▸ own_Sk p4
  have sak2 : own_S ak2 := hak2 ▸ own_Sk p5
  obtain ⟨yy0, hyy0⟩ : ∃ z, z = FP.ddiv dp ak0 := ⟨_, rfl⟩
  have nyy0 : own_N yy0 := hyy0 ▸ own_dN sdp sak0
  obtain ⟨yy1, hyy1⟩ : ∃ z, z = FP.ddiv dq ak1 := ⟨_, rfl⟩
  have nyy1 : own_N yy1 := hyy1 ▸ own_dN sdq sak1
  obtain ⟨yy2, hyy2⟩ : ∃ z, z = FP.ddiv dp ak2 := ⟨_, rfl⟩
  have nyy2 : own_N yy2 := hyy2 ▸ own_dN sdp sak2
  obtain ⟨T7, h7, X7, e7, E7, A7, D7, -, st7⟩ := newO X0 hx hZ hown (oW hw 1 rfl) (oW hw 2 rfl) (oW hw 3 rfl) e0 (g := (mkF m 39 #[oI p1, oI p2, oI p3, oI p4, oI p5, oI p6, oD dp, .second, oD dq, .second, oD ak0, .second, oD ak1, .second, oD ak2, .second, .unset, .unset, .unset, .unset, .unset, .unset, .unset, .unset, .unset, .unset, .unset, .unset, .unset, .unset] [])) rfl (hb hby at_39) (by decide) (by decide)
  obtain ⟨b7, g7⟩ : ∃ z, z = h0.size := ⟨_, rfl⟩
  rw [← g7] at A7 D7 st7
  have R7 := fun t k => R6 t (st7 t k)
  clear R6 st7
  have g_b7 : n0 ≤ b7 := Nat.le_trans Z0 (Nat.le_of_eq g7.symm)
  have sz_b7 : h0.size ≤ b7 := Nat.le_trans (Keep.refl h0 []).1 (Nat.le_of_eq g7.symm)
  have Z7 : n0 ≤ h7.size := Nat.le_trans Z0 E7.1
  have K7 : Keep h0 h7 [] := (Keep.refl h0 []).ext E7
  clear E7
  have F7_12 : oF Z h7 b7 "costs" "[D" .null := D7 (Or.inl (oW hw 12 rfl)) (ty := (.array .double)) (by decide)
  have F7_16 : oF Z h7 b7 "entryRows" "[[I" .null := D7 (Or.inl (oW hw 16 rfl)) (ty := (.array (.array .int))) (by decide)
  have F7_20 : oF Z h7 b7 "entryValues" "[[D" .null := D7 (Or.inl (oW hw 20 rfl)) (ty := (.array (.array .double))) (by decide)
  have F7_23 : oF Z h7 b7 "position" "[I" .null := D7 (Or.inl (oW hw 23 rfl)) (ty := (.array .int)) (by decide)
  have F7_25 : oF Z h7 b7 "rows" "I" (.int 0) := D7 (Or.inr (oW hw 25 rfl)) (ty := .int) (by decide)
  have F7_35 : oF Z h7 b7 "rhs" "[D" .null := D7 (Or.inr (oW hw 35 rfl)) (ty := (.array .double)) (by decide)
  have F7_42 : oF Z h7 b7 "columns" "I" (.int 0) := D7 (Or.inl (oW hw 42 rfl)) (ty := .int) (by decide)
  have F7_54 : oF Z h7 b7 "basis" "[I" .null := D7 (Or.inl (oW hw 54 rfl)) (ty := (.array .int)) (by decide)
  have F7_56 : oF Z h7 b7 "start" "[I" .null := D7 (Or.inl (oW hw 56 rfl)) (ty := (.array .int)) (by decide)
  have F7_75 : oF Z h7 b7 "inverse" "[[D" .null := D7 (Or.inl (oW hw 75 rfl)) (ty := (.array (.array .double))) (by decide)
  have F7_77 : oF Z h7 b7 "primal" "[D" .null := D7 (Or.inl (oW hw 77 rfl)) (ty := (.array .double)) (by decide)
  have F7_79 : oF Z h7 b7 "pivotsSinceRefactor" "I" (.int 0) := D7 (Or.inl (oW hw 79 rfl)) (ty := .int) (by decide)
  have F7_84 : oF Z h7 b7 "infeasibility" "D" (.double 0) := D7 (Or.inl (oW hw 84 rfl)) (ty := .double) (by decide)
  have R8 : ∀ t, oG p e below T7 m 44 #[oI p1, oI p2, oI p3, oI p4, oI p5, oI p6, oD dp, .second, oD dq, .second, oD ak0, .second, oD ak1, .second, oD ak2, .second, .unset, .unset, .unset, .unset, .unset, .unset, .unset, .unset, .unset, .unset, .unset, .unset, .unset, .unset] [(.int 2), (.ref b7), (.ref b7)] t → Steps p.tables e below AA t := by
    intro t k
    refine R7 t ?_
    refine XS.dup X7.here hx rfl (hb hby at_42) rfl rfl ?_
    refine XS.iconst X7.here hx rfl (hb hby at_43) ?_
    exact k
  clear R7
  obtain ⟨T9, h9, k9, X9, e9, E9, A9, B9, st9⟩ := newPE X7 hx hZ (oW hw 4 rfl) e7 (g := (mkF m 44 #[oI p1, oI p2, oI p3, oI p4, oI p5, oI p6, oD dp, .second, oD dq, .second, oD ak0, .second, oD ak1, .second, oD ak2, .second, .unset, .unset, .unset, .unset, .unset, .unset, .unset, .unset, .unset, .unset, .unset, .unset, .unset, .unset] [(.int 2), (.ref b7), (.ref b7)])) rfl (hb hby at_44) rfl (by decide) (cap := 2) (by decide) (by decide) (by decide) (by decide) (ad := "[D") (by decide)
  obtain ⟨b9, g9⟩ : ∃ z, z = h7.size := ⟨_, rfl⟩
  rw [← g9] at A9 B9 st9
  have R9 := fun t k => R8 t (st9 t k)
  clear R8 st9 X7 e7
  have ne_b7_b9 : b7 ≠ b9 := Nat.ne_of_lt (Nat.lt_of_lt_of_le A7.lt (Nat.le_of_eq g9.symm))
  have g_b9 : n0 ≤ b9 := Nat.le_trans Z7 (Nat.le_of_eq g9.symm)
  have sz_b9 : h0.size ≤ b9 := Nat.le_trans K7.1 (Nat.le_of_eq g9.symm)
  have Z9 : n0 ≤ h9.size := Nat.le_trans Z7 E9.1
  clear Z7
  have K9 : Keep h0 h9 [] := K7.ext E9
  clear K7
  have f10 : Exa Z h9 b7 "com/example/trunkwright/trunkwright/traffic/RevisedSimplex" := A7.ext E9
  have f11 : oF Z h9 b7 "costs" "[D" .null := F7_12.ext E9
  have f12 : oF Z h9 b7 "entryRows" "[[I" .null := F7_16.ext E9
  have f13 : oF Z h9 b7 "entryValues" "[[D" .null := F7_20.ext E9
  have f14 : oF Z h9 b7 "position" "[I" .null := F7_23.ext E9
  have f15 : oF Z h9 b7 "rows" "I" (.int 0) := F7_25.ext E9
  have f16 : oF Z h9 b7 "rhs" "[D" .null := F7_35.ext E9
  have f17 : oF Z h9 b7 "columns" "I" (.int 0) := F7_42.ext E9
  have f18 : oF Z h9 b7 "basis" "[I" .null := F7_54.ext E9
  have f19 : oF Z h9 b7 "start" "[I" .null := F7_56.ext E9
  have f20 : oF Z h9 b7 "inverse" "[[D" .null := F7_75.ext E9
  have f21 : oF Z h9 b7 "primal" "[D" .null := F7_77.ext E9
  have f22 : oF Z h9 b7 "pivotsSinceRefactor" "I" (.int 0) := F7_79.ext E9
  have f23 : oF Z h9 b7 "infeasibility" "D" (.double 0) := F7_84.ext E9
  clear E9
  have V9 : Arv Z h9 b9 k9 .double (2 : Int32) [(.double 0), (.double 0)] (.double 0) := (Arv.new A9 (by decide)).pad (pad_rep [] (.double 0) 2)
  have R24 : ∀ t, oG p e below T9 m 50 #[oI p1, oI p2, oI p3, oI p4, oI p5, oI p6, oD dp, .second, oD dq, .second, oD ak0, .second, oD ak1, .second, oD ak2, .second, .unset, .unset, .unset, .unset, .unset, .unset, .unset, .unset, .unset, .unset, .unset, .unset, .unset, .unset] [(.double dp), (.int 0), (.ref b9), (.ref b9), (.ref b7), (.ref b7)] t → Steps p.tables e below AA t := by
    intro t k
    refine R9 t ?_
    refine XS.dup X9.here hx rfl (hb hby at_46) rfl rfl ?_
    refine XS.iconst X9.here hx rfl (hb hby at_47) ?_
    refine XS.dload X9.here hx rfl (hb hby at_48) rfl ?_
    exact k
  clear R9
  obtain ⟨cl25, Ar25, q25, S25, N25', H25, G25⟩ := id V9
  have hin25 : ¬ ((0 : Int32) < 0 ∨ cl25.slots.size ≤ ((0 : Int32)).toNatClampNeg) := inb_of S25 ⟨by decide, by decide⟩
  obtain ⟨T26, h26, X26, e26, W26, st26⟩ := stD X9 hx hZ e9 Ar25 (j := (0 : Int32)) hin25 (g := (mkF m 50 #[oI p1, oI p2, oI p3, oI p4, oI p5, oI p6, oD dp, .second, oD dq, .second, oD ak0, .second, oD ak1, .second, oD ak2, .second, .unset, .unset, .unset, .unset, .unset, .unset, .unset, .unset, .unset, .unset, .unset, .unset, .unset, .unset] [(.double dp), (.int 0), (.ref b9), (.ref b9), (.ref b7), (.ref b7)])) rfl rfl (hb hby at_50)
  have R26 := fun t k => R24 t (st26 t k)
  clear R24 st26 X9 e9
  have Z26 : n0 ≤ h26.size := Nat.le_trans Z9 (Keep.of_wr W26).1
  clear Z9
  have K26 : Keep h0 h26 [] := K9.wr W26 (Or.inr sz_b9)
  have N26 := Fr.snoc X26 N0 g_b9
  clear K9
  have f27 : Exa Z h26 b7 "com/example/trunkwright/trunkwright/traffic/RevisedSimplex" := f10.wr W26
  clear f10
  have f28 : oF Z h26 b7 "costs" "[D" .null := f11.other W26 (Or.inl ne_b7_b9)
  clear f11
  have f29 : oF Z h26 b7 "entryRows" "[[I" .null := f12.other W26 (Or.inl ne_b7_b9)
  clear f12
  have f30 : oF Z h26 b7 "entryValues" "[[D" .null := f13.other W26 (Or.inl ne_b7_b9)
  clear f13
  have f31 : oF Z h26 b7 "position" "[I" .null := f14.other W26 (Or.inl ne_b7_b9)
  clear f14
  have f32 : oF Z h26 b7 "rows" "I" (.int 0) := f15.other W26 (Or.inl ne_b7_b9)
  clear f15
  have f33 : oF Z h26 b7 "rhs" "[D" .null := f16.other W26 (Or.inl ne_b7_b9)
  clear f16
  have f34 : oF Z h26 b7 "columns" "I" (.int 0) := f17.other W26 (Or.inl ne_b7_b9)
  clear f17
  have f35 : oF Z h26 b7 "basis" "[I" .null := f18.other W26 (Or.inl ne_b7_b9)
  clear f18
  have f36 : oF Z h26 b7 "start" "[I" .null := f19.other W26 (Or.inl ne_b7_b9)
  clear f19
  have f37 : oF Z h26 b7 "inverse" "[[D" .null := f20.other W26 (Or.inl ne_b7_b9)
  clear f20
  have f38 : oF Z h26 b7 "primal" "[D" .null := f21.other W26 (Or.inl ne_b7_b9)
  clear f21
  have f39 : oF Z h26 b7 "pivotsSinceRefactor" "I" (.int 0) := f22.other W26 (Or.inl ne_b7_b9)
  clear f22
  have f40 : oF Z h26 b7 "infeasibility" "D" (.double 0) := f23.other W26 (Or.inl ne_b7_b9)
  clear f23
  have f41 : Exa Z h26 b9 "[D" := B9.wr W26
  have V26 : Arv Z h26 b9 k9 .double (2 : Int32) [(.double dp), (.double 0)] (.double 0) := Arv.set Ar25 q25 S25 N25' H25 G25 rfl W26 0 rfl (Nat.le_of_ble_eq_true rfl)
  clear Ar25 q25 S25 N25' H25 G25 hin25 W26 V9
  have R42 : ∀ t, oG p e below T26 m 55 #[oI p1, oI p2, oI p3, oI p4, oI p5, oI p6, oD dp, .second, oD dq, .second, oD ak0, .second, oD ak1, .second, oD ak2, .second, .unset, .unset, .unset, .unset, .unset, .unset, .unset, .unset, .unset, .unset, .unset, .unset, .unset, .unset] [(.double dq), (.int 1), (.ref b9), (.ref b9), (.ref b7), (.ref b7)] t → Steps p.tables e below AA t := by
    intro t k
    refine R26 t ?_
    refine XS.dup X26.here hx rfl (hb hby at_51) rfl rfl ?_
    refine XS.iconst X26.here hx rfl (hb hby at_52) ?_
    refine XS.dload X26.here hx rfl (hb hby at_53) rfl ?_
    exact k
  clear R26
  obtain ⟨cl43, Ar43, q43, S43, N43', H43, G43⟩ := id V26
  have hin43 : ¬ ((1 : Int32) < 0 ∨ cl43.slots.size ≤ ((1 : Int32)).toNatClampNeg) := inb_of S43 ⟨by decide, by decide⟩
  obtain ⟨T44, h44, X44, e44, W44, st44⟩ := stD X26 hx hZ e26 Ar43 (j := (1 : Int32)) hin43 (g := (mkF m 55 #[oI p1, oI p2, oI p3, oI p4, oI p5, oI p6, oD dp, .second, oD dq, .second, oD ak0, .second, oD ak1, .second, oD ak2, .second, .unset, .unset, .unset, .unset, .unset, .unset, .unset, .unset, .unset, .unset, .unset, .unset, .unset, .unset] [(.double dq), (.int 1), (.ref b9), (.ref b9), (.ref b7), (.ref b7)])) rfl rfl (hb hby at_55)
  have R44 := fun t k => R42 t (st44 t k)
  clear R42 st44 X26 e26
  have Z44 : n0 ≤ h44.size := Nat.le_trans Z26 (Keep.of_wr W44).1
  clear Z26
  have K44 : Keep h0 h44 [] := K26.wr W44 (Or.inr sz_b9)
  have N44 := Fr.snoc X44 N26 g_b9
  clear K26
  clear N26
  have f45 : Exa Z h44 b7 "com/example/trunkwright/trunkwright/traffic/RevisedSimplex" := f27.wr W44
  clear f27
  have f46 : oF Z h44 b7 "costs" "[D" .null := f28.other W44 (Or.inl ne_b7_b9)
  clear f28
  have f47 : oF Z h44 b7 "entryRows" "[[I" .null := f29.other W44 (Or.inl ne_b7_b9)
  clear f29
  have f48 : oF Z h44 b7 "entryValues" "[[D" .null := f30.other W44 (Or.inl ne_b7_b9)
  clear f30
  have f49 : oF Z h44 b7 "position" "[I" .null := f31.other W44 (Or.inl ne_b7_b9)
  clear f31
  have f50 : oF Z h44 b7 "rows" "I" (.int 0) := f32.other W44 (Or.inl ne_b7_b9)
  clear f32
  have f51 : oF Z h44 b7 "rhs" "[D" .null := f33.other W44 (Or.inl ne_b7_b9)
  clear f33
  have f52 : oF Z h44 b7 "columns" "I" (.int 0) := f34.other W44 (Or.inl ne_b7_b9)
  clear f34
  have f53 : oF Z h44 b7 "basis" "[I" .null := f35.other W44 (Or.inl ne_b7_b9)
  clear f35
  have f54 : oF Z h44 b7 "start" "[I" .null := f36.other W44 (Or.inl ne_b7_b9)
  clear f36
  have f55 : oF Z h44 b7 "inverse" "[[D" .null := f37.other W44 (Or.inl ne_b7_b9)
  clear f37
  have f56 : oF Z h44 b7 "primal" "[D" .null := f38.other W44 (Or.inl ne_b7_b9)
  clear f38
  have f57 : oF Z h44 b7 "pivotsSinceRefactor" "I" (.int 0) := f39.other W44 (Or.inl ne_b7_b9)
  clear f39
  have f58 : oF Z h44 b7 "infeasibility" "D" (.double 0) := f40.other W44 (Or.inl ne_b7_b9)
  clear f40
  have f59 : Exa Z h44 b9 "[D" := f41.wr W44
  clear f41
  have V44 : Arv Z h44 b9 k9 .double (2 : Int32) [(.double dp), (.double dq)] (.double 0) := Arv.set Ar43 q43 S43 N43' H43 G43 rfl W44 1 rfl (Nat.le_of_ble_eq_true rfl)
  clear Ar43 q43 S43 N43' H43 G43 hin43 W44 V26
  obtain ⟨_, _, ⟨T60, L60, k60, n60⟩, -, X60, ⟨Lc60, hQ60, l60, y60, z60⟩, st60⟩ := X44.specialBack hx (y := (oN "<init>" "([D)V")) rfl hown (mvT hZ (oW hw 5 rfl)) (mvT hZ (oW hw 6 rfl)) (mvT hZ (oW hw 7 rfl)) (by decide) (backOf (W := 1) (rmIn l Z a0 hw [] b7 b9 _ _ _  h44 n0 Z44 f46 f47 f48 f49 f50 f51 f52 f53 f54 f55 f56 f57 f58 f45 V44 f59 (Ne.symm ne_b7_b9) g_b7) hZ (oW hw 7 rfl) (oW hw 3 rfl) (by decide) (by decide)) (g := (mkF m 56 #[oI p1, oI p2, oI p3, oI p4, oI p5, oI p6, oD dp, .second, oD dq, .second, oD ak0, .second, oD ak1, .second, oD ak2, .second, .unset, .unset, .unset, .unset, .unset, .unset, .unset, .unset, .unset, .unset, .unset, .unset, .unset, .unset] [(.ref b9), (.ref b7), (.ref b7)])) rfl (by rw [hml]; rfl) (Steps.refl _) (a := b7) (argsL := [(.ref b9)]) (rest := [(.ref b7)]) (lenOf own_pd0 rfl) rfl oL (hb hby at_56) (fun _ _ => ⟨rfl, e44, (by decide : 2 + 5 ≤ _), (by decide : 16 + 66 ≤ _)⟩)
  dsimp only [Pt.U, Pt.locs, Pt.cells, Pt.slots] at X60 l60 y60 z60 st60 hQ60
  subst l60 y60 z60
  obtain ⟨rfl, Nq60, co60, er60, ev60, po60, rh60, kco60, ker60, kev60, kpo60, Kc60, sco60, ser60, sev60, spo60, srh60, dcoer60, dcoev60, dcopo60, dcorh60, derev60, derpo60, derrh60, devpo60, devrh60, dporh60, Fcosts60, FentryRows60, FentryValues60, Fposition60, Frows60, Frhs60, Fcolumns60, Fbasis60, Fstart60, Finverse60, Fprimal60, FpivotsSinceRefactor60, Finfeasibility60, Vco60, Ver60, Vev60, Vpo60, Vrh60, Oer60, Oev60⟩ := hQ60
  have N60 := Fr.app N44 Nq60
  clear N44
  have R60 := fun t k => R44 t (st60.trans k)
  clear R44 st60 X44 e44
  have ne_b7_co60 : b7 ≠ co60 := Nat.ne_of_lt (Nat.lt_of_lt_of_le f45.lt sco60)
  have g_co60 : n0 ≤ co60 := Nat.le_trans Z44 sco60
  have sz_co60 : h0.size ≤ co60 := Nat.le_trans K44.1 sco60
  have ne_b7_er60 : b7 ≠ er60 := Nat.ne_of_lt (Nat.lt_of_lt_of_le f45.lt ser60)
  have g_er60 : n0 ≤ er60 := Nat.le_trans Z44 ser60
  have sz_er60 : h0.size ≤ er60 := Nat.le_trans K44.1 ser60
  have ne_b7_ev60 : b7 ≠ ev60 := Nat.ne_of_lt (Nat.lt_of_lt_of_le f45.lt sev60)
  have g_ev60 : n0 ≤ ev60 := Nat.le_trans Z44 sev60
  have sz_ev60 : h0.size ≤ ev60 := Nat.le_trans K44.1 sev60
  have ne_b7_po60 : b7 ≠ po60 := Nat.ne_of_lt (Nat.lt_of_lt_of_le f45.lt spo60)
  have g_po60 : n0 ≤ po60 := Nat.le_trans Z44 spo60
  have sz_po60 : h0.size ≤ po60 := Nat.le_trans K44.1 spo60
  have ne_b7_rh60 : b7 ≠ rh60 := Nat.ne_of_lt (Nat.lt_of_lt_of_le f45.lt srh60)
  have g_rh60 : n0 ≤ rh60 := Nat.le_trans Z44 srh60
  have sz_rh60 : h0.size ≤ rh60 := Nat.le_trans K44.1 srh60
  have Z60 : n0 ≤ T60.heap.size := Nat.le_trans Z44 Kc60.1
  clear Z44
  have K60 : Keep h0 T60.heap [] := K44.trans Kc60 (allS (Or.inr sz_b7) all0)
  clear K44
  have f61 : Exa Z T60.heap b7 "com/example/trunkwright/trunkwright/traffic/RevisedSimplex" := f45.keep Kc60
  clear f45
  have R62 : ∀ t, oG p e below T60 m 65 #[oI p1, oI p2, oI p3, oI p4, oI p5, oI p6, oD dp, .second, oD dq, .second, oD ak0, .second, oD ak1, .second, oD ak2, .second, oR b7, .unset, .unset, .unset, .unset, .unset, .unset, .unset, .unset, .unset, .unset, .unset, .unset, .unset] [(.int 1), (.double 0), (.ref b7)] t → Steps p.tables e below AA t := by
    intro t k
    refine R60 t ?_
    refine XS.astore X60.here hx rfl (hb hby at_59) rfl rfl (l' := #[oI p1, oI p2, oI p3, oI p4, oI p5, oI p6, oD dp, .second, oD dq, .second, oD ak0, .second, oD ak1, .second, oD ak2, .second, oR b7, .unset, .unset, .unset, .unset, .unset, .unset, .unset, .unset, .unset, .unset, .unset, .unset, .unset]) rfl ?_
    refine XS.aload X60.here hx rfl (hb hby at_61) rfl rfl ?_
    refine XS.dconst0 X60.here hx rfl (hb hby at_63) (v := (0 : UInt64)) (by decide +kernel) ?_
    refine XS.iconst X60.here hx rfl (hb hby at_64) ?_
    exact k
  clear R60
  obtain ⟨T63, h63, k63, X63, e63, E63, A63, B63, st63⟩ := newPE X60 hx hZ (oW hw 21 rfl) rfl (g := (mkF m 65 #[oI p1, oI p2, oI p3, oI p4, oI p5, oI p6, oD dp, .second, oD dq, .second, oD ak0, .second, oD ak1, .second, oD ak2, .second, oR b7, .unset, .unset, .unset, .unset, .unset, .unset, .unset, .unset, .unset, .unset, .unset, .unset, .unset] [(.int 1), (.double 0), (.ref b7)])) rfl (hb hby at_65) rfl (by decide) (cap := 1) (by decide) (by decide) (by decide) (by decide) (ad := "[I") (by decide)
  obtain ⟨b63, g63⟩ : ∃ z, z = T60.heap.size := ⟨_, rfl⟩
  rw [← g63] at A63 B63 st63
  have R63 := fun t k => R62 t (st63 t k)
  clear R62 st63 X60
  have g_b63 : n0 ≤ b63 := Nat.le_trans Z60 (Nat.le_of_eq g63.symm)
  have sz_b63 : h0.size ≤ b63 := Nat.le_trans K60.1 (Nat.le_of_eq g63.symm)
  have szB_b63 : T60.heap.size ≤ b63 := Nat.le_trans (Keep.refl T60.heap []).1 (Nat.le_of_eq g63.symm)
  have KB63 := (Keep.refl T60.heap []).ext E63
  have Z63 : n0 ≤ h63.size := Nat.le_trans Z60 E63.1
  clear Z60
  have K63 : Keep h0 h63 [] := K60.ext E63
  clear K60
  clear E63
  have V63 : Arv Z h63 b63 k63 .int (1 : Int32) [(.int 0)] (.int 0) := (Arv.new A63 (by decide)).pad (pad_rep [] (.int 0) 1)
  have R64 : ∀ t, oG p e below T63 m 70 #[oI p1, oI p2, oI p3, oI p4, oI p5, oI p6, oD dp, .second, oD dq, .second, oD ak0, .second, oD ak1, .second, oD ak2, .second, oR b7, .unset, .unset, .unset, .unset, .unset, .unset, .unset, .unset, .unset, .unset, .unset, .unset, .unset] [(.int 0), (.int 0), (.ref b63), (.ref b63), (.double 0), (.ref b7)] t → Steps p.tables e below AA t := by
    intro t k
    refine R63 t ?_
    refine XS.dup X63.here hx rfl (hb hby at_67) rfl rfl ?_
    refine XS.iconst X63.here hx rfl (hb hby at_68) ?_
    refine XS.iconst X63.here hx rfl (hb hby at_69) ?_
    exact k
  clear R63
  obtain ⟨cl65, Ar65, q65, S65, N65', H65, G65⟩ := id V63
  have hin65 : ¬ ((0 : Int32) < 0 ∨ cl65.slots.size ≤ ((0 : Int32)).toNatClampNeg) := inb_of S65 ⟨by decide, by decide⟩
  obtain ⟨T66, h66, X66, e66, W66, st66⟩ := stI X63 hx hZ e63 Ar65 (j := (0 : Int32)) hin65 (g := (mkF m 70 #[oI p1, oI p2, oI p3, oI p4, oI p5, oI p6, oD dp, .second, oD dq, .second, oD ak0, .second, oD ak1, .second, oD ak2, .second, oR b7, .unset, .unset, .unset, .unset, .unset, .unset, .unset, .unset, .unset, .unset, .unset, .unset, .unset] [(.int 0), (.int 0), (.ref b63), (.ref b63), (.double 0), (.ref b7)])) rfl rfl (hb hby at_70)
  have R66 := fun t k => R64 t (st66 t k)
  clear R64 st66 X63 e63
  have Z66 : n0 ≤ h66.size := Nat.le_trans Z63 (Keep.of_wr W66).1
  clear Z63
  have KB66 := KB63.wr W66 (Or.inr szB_b63)
  have K66 : Keep h0 h66 [] := K63.wr W66 (Or.inr sz_b63)
  have N66 := Fr.snoc X66 N60 g_b63
  clear K63
  clear N60
  have f67 : Exa Z h66 b63 "[I" := B63.wr W66
  have V66 : Arv Z h66 b63 k63 .int (1 : Int32) [(.int 0)] (.int 0) := Arv.set Ar65 q65 S65 N65' H65 G65 rfl W66 0 rfl (Nat.le_of_ble_eq_true rfl)
  clear Ar65 q65 S65 N65' H65 G65 hin65 W66 V63
  have R68 : ∀ t, oG p e below T66 m 72 #[oI p1, oI p2, oI p3, oI p4, oI p5, oI p6, oD dp, .second, oD dq, .second, oD ak0, .second, oD ak1, .second, oD ak2, .second, oR b7, .unset, .unset, .unset, .unset, .unset, .unset, .unset, .unset, .unset, .unset, .unset, .unset, .unset] [(.int 1), (.ref b63), (.double 0), (.ref b7)] t → Steps p.tables e below AA t := by
    intro t k
    refine R66 t ?_
    refine XS.iconst X66.here hx rfl (hb hby at_71) ?_
    exact k
  clear R66
  obtain ⟨T69, h69, k69, X69, e69, E69, A69, B69, st69⟩ := newPE X66 hx hZ (oW hw 4 rfl) e66 (g := (mkF m 72 #[oI p1, oI p2, oI p3, oI p4, oI p5, oI p6, oD dp, .second, oD dq, .second, oD ak0, .second, oD ak1, .second, oD ak2, .second, oR b7, .unset, .unset, .unset, .unset, .unset, .unset, .unset, .unset, .unset, .unset, .unset, .unset, .unset] [(.int 1), (.ref b63), (.double 0), (.ref b7)])) rfl (hb hby at_72) rfl (by decide) (cap := 1) (by decide) (by decide) (by decide) (by decide) (ad := "[D") (by decide)
  obtain ⟨b69, g69⟩ : ∃ z, z = h66.size := ⟨_, rfl⟩
  rw [← g69] at A69 B69 st69
  have R69 := fun t k => R68 t (st69 t k)
  clear R68 st69 X66 e66
  have ne_b63_b69 : b63 ≠ b69 := Nat.ne_of_lt (Nat.lt_of_lt_of_le f67.lt (Nat.le_of_eq g69.symm))
  have g_b69 : n0 ≤ b69 := Nat.le_trans Z66 (Nat.le_of_eq g69.symm)
  have sz_b69 : h0.size ≤ b69 := Nat.le_trans K66.1 (Nat.le_of_eq g69.symm)
  have szB_b69 : T60.heap.size ≤ b69 := Nat.le_trans KB66.1 (Nat.le_of_eq g69.symm)
  have KB69 := KB66.ext E69
  have Z69 : n0 ≤ h69.size := Nat.le_trans Z66 E69.1
  clear Z66
  have K69 : Keep h0 h69 [] := K66.ext E69
  clear K66
  have f70 : Exa Z h69 b63 "[I" := f67.ext E69
  clear f67
  have f71 : Arv Z h69 b63 k63 .int (1 : Int32) [(.int 0)] (.int 0) := V66.ext E69
  clear V66
  clear E69
  have V69 : Arv Z h69 b69 k69 .double (1 : Int32) [(.double 0)] (.double 0) := (Arv.new A69 (by decide)).pad (pad_rep [] (.double 0) 1)
  have R72 : ∀ t, oG p e below T69 m 78 #[oI p1, oI p2, oI p3, oI p4, oI p5, oI p6, oD dp, .second, oD dq, .second, oD ak0, .second, oD ak1, .second, oD ak2, .second, oR b7, .unset, .unset, .unset, .unset, .unset, .unset, .unset, .unset, .unset, .unset, .unset, .unset, .unset] [(.double ak0), (.int 0), (.ref b69), (.ref b69), (.ref b63), (.double 0), (.ref b7)] t → Steps p.tables e below AA t := by
    intro t k
    refine R69 t ?_
    refine XS.dup X69.here hx rfl (hb hby at_74) rfl rfl ?_
    refine XS.iconst X69.here hx rfl (hb hby at_75) ?_
    refine XS.dload X69.here hx rfl (hb hby at_76) rfl ?_
    exact k
  clear R69
  obtain ⟨cl73, Ar73, q73, S73, N73', H73, G73⟩ := id V69
  have hin73 : ¬ ((0 : Int32) < 0 ∨ cl73.slots.size ≤ ((0 : Int32)).toNatClampNeg) := inb_of S73 ⟨by decide, by decide⟩
  obtain ⟨T74, h74, X74, e74, W74, st74⟩ := stD X69 hx hZ e69 Ar73 (j := (0 : Int32)) hin73 (g := (mkF m 78 #[oI p1, oI p2, oI p3, oI p4, oI p5, oI p6, oD dp, .second, oD dq, .second, oD ak0, .second, oD ak1, .second, oD ak2, .second, oR b7, .unset, .unset, .unset, .unset, .unset, .unset, .unset, .unset, .unset, .unset, .unset, .unset, .unset] [(.double ak0), (.int 0), (.ref b69), (.ref b69), (.ref b63), (.double 0), (.ref b7)])) rfl rfl (hb hby at_78)
  have R74 := fun t k => R72 t (st74 t k)
  clear R72 st74 X69 e69
  have Z74 : n0 ≤ h74.size := Nat.le_trans Z69 (Keep.of_wr W74).1
  clear Z69
  have KB74 := KB69.wr W74 (Or.inr szB_b69)
  have K74 : Keep h0 h74 [] := K69.wr W74 (Or.inr sz_b69)
  have N74 := Fr.snoc X74 N66 g_b69
  clear K69
  clear N66
  have f75 : Exa Z h74 b63 "[I" := f70.wr W74
  clear f70
  have f76 : Arv Z h74 b63 k63 .int (1 : Int32) [(.int 0)] (.int 0) := f71.other W74 ne_b63_b69
  clear f71
  have f77 : Exa Z h74 b69 "[D" := B69.wr W74
  have V74 : Arv Z h74 b69 k69 .double (1 : Int32) [(.double ak0)] (.double 0) := Arv.set Ar73 q73 S73 N73' H73 G73 rfl W74 0 rfl (Nat.le_of_ble_eq_true rfl)
  clear Ar73 q73 S73 N73' H73 G73 hin73 W74 V69
  have f78 : oF Z h74 b7 "rows" "I" (.int 2) := Frows60.keep KB74 nin0
  have f79 : oF Z h74 b7 "costs" "[D" (.ref co60) := Fcosts60.keep KB74 nin0
  have f80 : oF Z h74 b7 "entryRows" "[[I" (.ref er60) := FentryRows60.keep KB74 nin0
  have f81 : oF Z h74 b7 "entryValues" "[[D" (.ref ev60) := FentryValues60.keep KB74 nin0
  have f82 : oF Z h74 b7 "position" "[I" (.ref po60) := Fposition60.keep KB74 nin0
  have f83 : oF Z h74 b7 "rhs" "[D" (.ref rh60) := Frhs60.keep KB74 nin0
  have f84 : oF Z h74 b7 "basis" "[I" .null := Fbasis60.keep KB74 nin0
  have f85 : oF Z h74 b7 "start" "[I" .null := Fstart60.keep KB74 nin0
  have f86 : oF Z h74 b7 "inverse" "[[D" .null := Finverse60.keep KB74 nin0
  have f87 : oF Z h74 b7 "primal" "[D" .null := Fprimal60.keep KB74 nin0
  have f88 : oF Z h74 b7 "pivotsSinceRefactor" "I" (.int 0) := FpivotsSinceRefactor60.keep KB74 nin0
  have f89 : oF Z h74 b7 "infeasibility" "D" (.double 0) := Finfeasibility60.keep KB74 nin0
  have f90 : oF Z h74 b7 "columns" "I" (.int 0) := Fcolumns60.keep KB74 nin0
  have f91 : Exa Z h74 b7 "com/example/trunkwright/trunkwright/traffic/RevisedSimplex" := f61.keep KB74
  have f92 : Arv Z h74 co60 kco60 .double (16 : Int32) (oC (.double 0) (.double 0) (.double 0)) (.double 0) := Vco60.keep KB74 nin0
  have f93 : Arv Z h74 er60 ker60 (.array .int) (16 : Int32) (oU .null .null .null) .null := Ver60.keep KB74 nin0
  have f94 : Arv Z h74 ev60 kev60 (.array .double) (16 : Int32) (oU .null .null .null) .null := Vev60.keep KB74 nin0
  have f95 : Arv Z h74 po60 kpo60 .int (16 : Int32) (oZ (.int 0) (.int 0) (.int 0)) (.int 0) := Vpo60.keep KB74 nin0
  obtain ⟨cq96, kq96, q96a, q96b, q96c⟩ := isOf hZ e74 f91
  obtain ⟨_, _, ⟨T96, L96, k96, n96⟩, -, X96, ⟨Lc96, hQ96, l96, y96, z96⟩, st96⟩ := X74.virtualBack hx (y := (oN "add" "(D[I[D)I")) (z := (oN "add" "(D[I[D)I")) hown (mvT hZ (oW hw 36 rfl)) (mvT hZ (oW hw 37 rfl)) (notFace_of_selects (args := #[]) (mvT hZ (oW hw 39 rfl))) (mvT hZ (oW hw 39 rfl)) (mvT hZ (oW hw 38 rfl)) (by decide) (backOf (W := 0) (rmAd0 l Z a0 hw [] b7 b63 b69 co60 er60 ev60 po60 rh60 _ _ _ _ _ _ _ _  h74 n0 Z74 f78 f79 f80 f81 f82 f83 f84 f85 f86 f87 f88 f89 f90 f91 f92 f93 f94 f95 f76 f75 V74 f77 Oer60 Oev60 g_b7 g_co60 g_er60 g_ev60 g_po60 (Ne.symm ne_b7_co60) (Ne.symm ne_b7_er60) (Ne.symm dcoer60) (Ne.symm ne_b7_ev60) (Ne.symm dcoev60) (Ne.symm derev60) (Ne.symm ne_b7_po60) (Ne.symm dcopo60) (Ne.symm derpo60) (Ne.symm devpo60) (Ne.symm (Nat.ne_of_lt (Nat.lt_of_lt_of_le f61.lt szB_b63))) (Ne.symm (Nat.ne_of_lt (Nat.lt_of_lt_of_le Vco60.lt szB_b63))) (Ne.symm (Nat.ne_of_lt (Nat.lt_of_lt_of_le Ver60.lt szB_b63))) (Ne.symm (Nat.ne_of_lt (Nat.lt_of_lt_of_le Vev60.lt szB_b63))) (Ne.symm (Nat.ne_of_lt (Nat.lt_of_lt_of_le Vpo60.lt szB_b63))) (Ne.symm (Nat.ne_of_lt (Nat.lt_of_lt_of_le f61.lt szB_b69))) (Ne.symm (Nat.ne_of_lt (Nat.lt_of_lt_of_le Vco60.lt szB_b69))) (Ne.symm (Nat.ne_of_lt (Nat.lt_of_lt_of_le Ver60.lt szB_b69))) (Ne.symm (Nat.ne_of_lt (Nat.lt_of_lt_of_le Vev60.lt szB_b69))) (Ne.symm (Nat.ne_of_lt (Nat.lt_of_lt_of_le Vpo60.lt szB_b69)))) hZ (oW hw 40 rfl) (oW hw 3 rfl) (by decide) (by decide)) q96a q96c (g := (mkF m 79 #[oI p1, oI p2, oI p3, oI p4, oI p5, oI p6, oD dp, .second, oD dq, .second, oD ak0, .second, oD ak1, .second, oD ak2, .second, oR b7, .unset, .unset, .unset, .unset, .unset, .unset, .unset, .unset, .unset, .unset, .unset, .unset, .unset] [(.ref b69), (.ref b63), (.double 0), (.ref b7)])) rfl (by rw [hml]; rfl) (Steps.refl _) (argsL := [(.double 0), (.ref b63), (.ref b69)]) (rest := []) (lenOf own_pd3 rfl) rfl oL (hb hby at_79) (fun _ _ => ⟨rfl, e74, (by decide : 9 + 2 ≤ _), (by decide : 84 + 2 ≤ _)⟩)
  dsimp only [Pt.U, Pt.locs, Pt.cells, Pt.slots] at X96 l96 y96 z96 st96 hQ96
  subst l96 y96 z96
  obtain ⟨rfl, Nq96, nr96, nv96, Kc96, sr96, sv96, dn96, Frows96, Fcosts96, FentryRows96, FentryValues96, Fposition96, Frhs96, Fbasis96, Fstart96, Finverse96, Fprimal96, FpivotsSinceRefactor96, Finfeasibility96, Fcolumns96, Vco96, Ver96, Vev96, Vpo96, Vnr96, Vnv96⟩ := hQ96
  have N96 := Fr.app N74 Nq96
  clear N74
  have R96 := fun t k => R74 t (st96.trans k)
  clear R74 st96 X74 e74
  have szB_nr96 : T60.heap.size ≤ nr96 := Nat.le_trans KB74.1 sr96
  have g_nr96 : n0 ≤ nr96 := Nat.le_trans Z74 sr96
  have sz_nr96 : h0.size ≤ nr96 := Nat.le_trans K74.1 sr96
  have szB_nv96 : T60.heap.size ≤ nv96 := Nat.le_trans KB74.1 sv96
  have g_nv96 : n0 ≤ nv96 := Nat.le_trans Z74 sv96
  have sz_nv96 : h0.size ≤ nv96 := Nat.le_trans K74.1 sv96
  have Z96 : n0 ≤ T96.heap.size := Nat.le_trans Z74 Kc96.1
  clear Z74
  have K96 : Keep h0 T96.heap [] := K74.trans Kc96 (allS (Or.inr sz_b7) (allS (Or.inr sz_co60) (allS (Or.inr sz_er60) (allS (Or.inr sz_ev60) (allS (Or.inr sz_po60) all0)))))
  clear K74
  have f97 : Exa Z T96.heap b7 "com/example/trunkwright/trunkwright/traffic/RevisedSimplex" := (f61.keep KB74).keep Kc96
  have f98 : Arv Z T96.heap rh60 k9 .double (2 : Int32) [(.double dp), (.double dq)] (.double 0) := (Vrh60.keep KB74 nin0).keep Kc96 (ninS (Ne.symm ne_b7_rh60) (ninS (Ne.symm dcorh60) (ninS (Ne.symm derrh60) (ninS (Ne.symm devrh60) (ninS (Ne.symm dporh60) nin0)))))
  have R99 : ∀ t, oG p e below T96 m 88 #[oI p1, oI p2, oI p3, oI p4, oI p5, oI p6, oD dp, .second, oD dq, .second, oD ak0, .second, oD ak1, .second, oD ak2, .second, oR b7, oI 0, .unset, .unset, .unset, .unset, .unset, .unset, .unset, .unset, .unset, .unset, .unset, .unset] [(.int 1), (.double 0), (.ref b7)] t → Steps p.tables e below AA t := by
    intro t k
    refine R96 t ?_
    refine XS.istore X96.here hx rfl (hb hby at_82) rfl (l' := #[oI p1, oI p2, oI p3, oI p4, oI p5, oI p6, oD dp, .second, oD dq, .second, oD ak0, .second, oD ak1, .second, oD ak2, .second, oR b7, oI 0, .unset, .unset, .unset, .unset, .unset, .unset, .unset, .unset, .unset, .unset, .unset, .unset]) rfl ?_
    refine XS.aload X96.here hx rfl (hb hby at_84) rfl rfl ?_
    refine XS.dconst0 X96.here hx rfl (hb hby at_86) (v := (0 : UInt64)) (by decide +kernel) ?_
    refine XS.iconst X96.here hx rfl (hb hby at_87) ?_
    exact k
  clear R96
  obtain ⟨T100, h100, k100, X100, e100, E100, A100, B100, st100⟩ := newPE X96 hx hZ (oW hw 21 rfl) rfl (g := (mkF m 88 #[oI p1, oI p2, oI p3, oI p4, oI p5, oI p6, oD dp, .second, oD dq, .second, oD ak0, .second, oD ak1, .second, oD ak2, .second, oR b7, oI 0, .unset, .unset, .unset, .unset, .unset, .unset, .unset, .unset, .unset, .unset, .unset, .unset] [(.int 1), (.double 0), (.ref b7)])) rfl (hb hby at_88) rfl (by decide) (cap := 1) (by decide) (by decide) (by decide) (by decide) (ad := "[I") (by decide)
  obtain ⟨b100, g100⟩ : ∃ z, z = T96.heap.size := ⟨_, rfl⟩
  rw [← g100] at A100 B100 st100
  have R100 := fun t k => R99 t (st100 t k)
  clear R99 st100 X96
  have g_b100 : n0 ≤ b100 := Nat.le_trans Z96 (Nat.le_of_eq g100.symm)
  have sz_b100 : h0.size ≤ b100 := Nat.le_trans K96.1 (Nat.le_of_eq g100.symm)
  have szB_b100 : T96.heap.size ≤ b100 := Nat.le_trans (Keep.refl T96.heap []).1 (Nat.le_of_eq g100.symm)
  have KB100 := (Keep.refl T96.heap []).ext E100
  have Z100 : n0 ≤ h100.size := Nat.le_trans Z96 E100.1
  clear Z96
  have K100 : Keep h0 h100 [] := K96.ext E100
  clear K96
  clear E100
  have V100 : Arv Z h100 b100 k100 .int (1 : Int32) [(.int 0)] (.int 0) := (Arv.new A100 (by decide)).pad (pad_rep [] (.int 0) 1)
  have R101 : ∀ t, oG p e below T100 m 93 #[oI p1, oI p2, oI p3, oI p4, oI p5, oI p6, oD dp, .second, oD dq, .second, oD ak0, .second, oD ak1, .second, oD ak2, .second, oR b7, oI 0, .unset, .unset, .unset, .unset, .unset, .unset, .unset, .unset, .unset, .unset, .unset, .unset] [(.int 1), (.int 0), (.ref b100), (.ref b100), (.double 0), (.ref b7)] t → Steps p.tables e below AA t := by
    intro t k
    refine R100 t ?_
    refine XS.dup X100.here hx rfl (hb hby at_90) rfl rfl ?_
    refine XS.iconst X100.here hx rfl (hb hby at_91) ?_
    refine XS.iconst X100.here hx rfl (hb hby at_92) ?_
    exact k
  clear R100
  obtain ⟨cl102, Ar102, q102, S102, N102', H102, G102⟩ := id V100
  have hin102 : ¬ ((0 : Int32) < 0 ∨ cl102.slots.size ≤ ((0 : Int32)).toNatClampNeg) := inb_of S102 ⟨by decide, by decide⟩
  obtain ⟨T103, h103, X103, e103, W103, st103⟩ := stI X100 hx hZ e100 Ar102 (j := (0 : Int32)) hin102 (g := (mkF m 93 #[oI p1, oI p2, oI p3, oI p4, oI p5, oI p6, oD dp, .second, oD dq, .second, oD ak0, .second, oD ak1, .second, oD ak2, .second, oR b7, oI 0, .unset, .unset, .unset, .unset, .unset, .unset, .unset, .unset, .unset, .unset, .unset, .unset] [(.int 1), (.int 0), (.ref b100), (.ref b100), (.double 0), (.ref b7)])) rfl rfl (hb hby at_93)
  have R103 := fun t k => R101 t (st103 t k)
  clear R101 st103 X100 e100
  have Z103 : n0 ≤ h103.size := Nat.le_trans Z100 (Keep.of_wr W103).1
  clear Z100
  have KB103 := KB100.wr W103 (Or.inr szB_b100)
  have K103 : Keep h0 h103 [] := K100.wr W103 (Or.inr sz_b100)
  have N103 := Fr.snoc X103 N96 g_b100
  clear K100
  clear N96
  have f104 : Exa Z h103 b100 "[I" := B100.wr W103
  have V103 : Arv Z h103 b100 k100 .int (1 : Int32) [(.int 1)] (.int 0) := Arv.set Ar102 q102 S102 N102' H102 G102 rfl W103 0 rfl (Nat.le_of_ble_eq_true rfl)
  clear Ar102 q102 S102 N102' H102 G102 hin102 W103 V100
  have R105 : ∀ t, oG p e below T103 m 95 #[oI p1, oI p2, oI p3, oI p4, oI p5, oI p6, oD dp, .second, oD dq, .second, oD ak0, .second, oD ak1, .second, oD ak2, .second, oR b7, oI 0, .unset, .unset, .unset, .unset, .unset, .unset, .unset, .unset, .unset, .unset, .unset, .unset] [(.int 1), (.ref b100), (.double 0), (.ref b7)] t → Steps p.tables e below AA t := by
    intro t k
    refine R103 t ?_
    refine XS.iconst X103.here hx rfl (hb hby at_94) ?_
    exact k
  clear R103
  obtain ⟨T106, h106, k106, X106, e106, E106, A106, B106, st106⟩ := newPE X103 hx hZ (oW hw 4 rfl) e103 (g := (mkF m 95 #[oI p1, oI p2, oI p3, oI p4, oI p5, oI p6, oD dp, .second, oD dq, .second, oD ak0, .second, oD ak1, .second, oD ak2, .second, oR b7, oI 0, .unset, .unset, .unset, .unset, .unset, .unset, .unset, .unset, .unset, .unset, .unset, .unset] [(.int 1), (.ref b100), (.double 0), (.ref b7)])) rfl (hb hby at_95) rfl (by decide) (cap := 1) (by decide) (by decide) (by decide) (by decide) (ad := "[D") (by decide)
  obtain ⟨b106, g106⟩ : ∃ z, z = h103.size := ⟨_, rfl⟩
  rw [← g106] at A106 B106 st106
  have R106 := fun t k => R105 t (st106 t k)
  clear R105 st106 X103 e103
  have ne_b100_b106 : b100 ≠ b106 := Nat.ne_of_lt (Nat.lt_of_lt_of_le f104.lt (Nat.le_of_eq g106.symm))
  have g_b106 : n0 ≤ b106 := Nat.le_trans Z103 (Nat.le_of_eq g106.symm)
  have sz_b106 : h0.size ≤ b106 := Nat.le_trans K103.1 (Nat.le_of_eq g106.symm)
  have szB_b106 : T96.heap.size ≤ b106 := Nat.le_trans KB103.1 (Nat.le_of_eq g106.symm)
  have KB106 := KB103.ext E106
  have Z106 : n0 ≤ h106.size := Nat.le_trans Z103 E106.1
  clear Z103
  have K106 : Keep h0 h106 [] := K103.ext E106
  clear K103
  have f107 : Exa Z h106 b100 "[I" := f104.ext E106
  clear f104
  have f108 : Arv Z h106 b100 k100 .int (1 : Int32) [(.int 1)] (.int 0) := V103.ext E106
  clear V103
  clear E106
  have V106 : Arv Z h106 b106 k106 .double (1 : Int32) [(.double 0)] (.double 0) := (Arv.new A106 (by decide)).pad (pad_rep [] (.double 0) 1)
  have R109 : ∀ t, oG p e below T106 m 101 #[oI p1, oI p2, oI p3, oI p4, oI p5, oI p6, oD dp, .second, oD dq, .second, oD ak0, .second, oD ak1, .second, oD ak2, .second, oR b7, oI 0, .unset, .unset, .unset, .unset, .unset, .unset, .unset, .unset, .unset, .unset, .unset, .unset] [(.double ak1), (.int 0), (.ref b106), (.ref b106), (.ref b100), (.double 0), (.ref b7)] t → Steps p.tables e below AA t := by
    intro t k
    refine R106 t ?_
    refine XS.dup X106.here hx rfl (hb hby at_97) rfl rfl ?_
    refine XS.iconst X106.here hx rfl (hb hby at_98) ?_
    refine XS.dload X106.here hx rfl (hb hby at_99) rfl ?_
    exact k
  clear R106
  obtain ⟨cl110, Ar110, q110, S110, N110', H110, G110⟩ := id V106
  have hin110 : ¬ ((0 : Int32) < 0 ∨ cl110.slots.size ≤ ((0 : Int32)).toNatClampNeg) := inb_of S110 ⟨by decide, by decide⟩
  obtain ⟨T111, h111, X111, e111, W111, st111⟩ := stD X106 hx hZ e106 Ar110 (j := (0 : Int32)) hin110 (g := (mkF m 101 #[oI p1, oI p2, oI p3, oI p4, oI p5, oI p6, oD dp, .second, oD dq, .second, oD ak0, .second, oD ak1, .second, oD ak2, .second, oR b7, oI 0, .unset, .unset, .unset, .unset, .unset, .unset, .unset, .unset, .unset, .unset, .unset, .unset] [(.double ak1), (.int 0), (.ref b106), (.ref b106), (.ref b100), (.double 0), (.ref b7)])) rfl rfl (hb hby at_101)
  have R111 := fun t k => R109 t (st111 t k)
  clear R109 st111 X106 e106
  have Z111 : n0 ≤ h111.size := Nat.le_trans Z106 (Keep.of_wr W111).1
  clear Z106
  have KB111 := KB106.wr W111 (Or.inr szB_b106)
  have K111 : Keep h0 h111 [] := K106.wr W111 (Or.inr sz_b106)
  have N111 := Fr.snoc X111 N103 g_b106
  clear K106
  clear N103
  have f112 : Exa Z h111 b100 "[I" := f107.wr W111
  clear f107
  have f113 : Arv Z h111 b100 k100 .int (1 : Int32) [(.int 1)] (.int 0) := f108.other W111 ne_b100_b106
  clear f108
  have f114 : Exa Z h111 b106 "[D" := B106.wr W111
  have V111 : Arv Z h111 b106 k106 .double (1 : Int32) [(.double ak1)] (.double 0) := Arv.set Ar110 q110 S110 N110' H110 G110 rfl W111 0 rfl (Nat.le_of_ble_eq_true rfl)
  clear Ar110 q110 S110 N110' H110 G110 hin110 W111 V106
  have f115 : oF Z h111 b7 "rows" "I" (.int 2) := Frows96.keep KB111 nin0
  have f116 : oF Z h111 b7 "costs" "[D" (.ref co60) := Fcosts96.keep KB111 nin0
  have f117 : oF Z h111 b7 "entryRows" "[[I" (.ref er60) := FentryRows96.keep KB111 nin0
  have f118 : oF Z h111 b7 "entryValues" "[[D" (.ref ev60) := FentryValues96.keep KB111 nin0
  have f119 : oF Z h111 b7 "position" "[I" (.ref po60) := Fposition96.keep KB111 nin0
  have f120 : oF Z h111 b7 "rhs" "[D" (.ref rh60) := Frhs96.keep KB111 nin0
  have f121 : oF Z h111 b7 "basis" "[I" .null := Fbasis96.keep KB111 nin0
  have f122 : oF Z h111 b7 "start" "[I" .null := Fstart96.keep KB111 nin0
  have f123 : oF Z h111 b7 "inverse" "[[D" .null := Finverse96.keep KB111 nin0
  have f124 : oF Z h111 b7 "primal" "[D" .null := Fprimal96.keep KB111 nin0
  have f125 : oF Z h111 b7 "pivotsSinceRefactor" "I" (.int 0) := FpivotsSinceRefactor96.keep KB111 nin0
  have f126 : oF Z h111 b7 "infeasibility" "D" (.double 0) := Finfeasibility96.keep KB111 nin0
  have f127 : oF Z h111 b7 "columns" "I" (.int 1) := Fcolumns96.keep KB111 nin0
  have f128 : Exa Z h111 b7 "com/example/trunkwright/trunkwright/traffic/RevisedSimplex" := f97.keep KB111
  have f129 : Arv Z h111 co60 kco60 .double (16 : Int32) (oC (.double 0) (.double 0) (.double 0)) (.double 0) := Vco96.keep KB111 nin0
  have f130 : Arv Z h111 er60 ker60 (.array .int) (16 : Int32) (oU (.ref nr96) .null .null) .null := Ver96.keep KB111 nin0
  have f131 : Arv Z h111 ev60 kev60 (.array .double) (16 : Int32) (oU (.ref nv96) .null .null) .null := Vev96.keep KB111 nin0
  have f132 : Arv Z h111 po60 kpo60 .int (16 : Int32) (oZ (.int (-1)) (.int 0) (.int 0)) (.int 0) := Vpo96.keep KB111 nin0
  obtain ⟨cq133, kq133, q133a, q133b, q133c⟩ := isOf hZ e111 f128
  obtain ⟨_, _, ⟨T133, L133, k133, n133⟩, -, X133, ⟨Lc133, hQ133, l133, y133, z133⟩, st133⟩ := X111.virtualBack hx (y := (oN "add" "(D[I[D)I")) (z := (oN "add" "(D[I[D)I")) hown (mvT hZ (oW hw 36 rfl)) (mvT hZ (oW hw 37 rfl)) (notFace_of_selects (args := #[]) (mvT hZ (oW hw 39 rfl))) (mvT hZ (oW hw 39 rfl)) (mvT hZ (oW hw 38 rfl)) (by decide) (backOf (W := 0) (rmAd1 l Z a0 hw [] b7 b100 b106 co60 er60 ev60 po60 rh60 nr96 nv96 _ _ _ _ _ _ _ _  h111 n0 Z111 f115 f116 f117 f118 f119 f120 f121 f122 f123 f124 f125 f126 f127 f128 f129 f130 f131 f132 f113 f112 V111 f114 Oer60 Oev60 g_b7 g_co60 g_er60 g_ev60 g_po60 (Ne.symm ne_b7_co60) (Ne.symm ne_b7_er60) (Ne.symm dcoer60) (Ne.symm ne_b7_ev60) (Ne.symm dcoev60) (Ne.symm derev60) (Ne.symm ne_b7_po60) (Ne.symm dcopo60) (Ne.symm derpo60) (Ne.symm devpo60) (Ne.symm (Nat.ne_of_lt (Nat.lt_of_lt_of_le f97.lt szB_b100))) (Ne.symm (Nat.ne_of_lt (Nat.lt_of_lt_of_le Vco96.lt szB_b100))) (Ne.symm (Nat.ne_of_lt (Nat.lt_of_lt_of_le Ver96.lt szB_b100))) (Ne.symm (Nat.ne_of_lt (Nat.lt_of_lt_of_le Vev96.lt szB_b100))) (Ne.symm (Nat.ne_of_lt (Nat.lt_of_lt_of_le Vpo96.lt szB_b100))) (Ne.symm (Nat.ne_of_lt (Nat.lt_of_lt_of_le f97.lt szB_b106))) (Ne.symm (Nat.ne_of_lt (Nat.lt_of_lt_of_le Vco96.lt szB_b106))) (Ne.symm (Nat.ne_of_lt (Nat.lt_of_lt_of_le Ver96.lt szB_b106))) (Ne.symm (Nat.ne_of_lt (Nat.lt_of_lt_of_le Vev96.lt szB_b106))) (Ne.symm (Nat.ne_of_lt (Nat.lt_of_lt_of_le Vpo96.lt szB_b106)))) hZ (oW hw 40 rfl) (oW hw 3 rfl) (by decide) (by decide)) q133a q133c (g := (mkF m 102 #[oI p1, oI p2, oI p3, oI p4, oI p5, oI p6, oD dp, .second, oD dq, .second, oD ak0, .second, oD ak1, .second, oD ak2, .second, oR b7, oI 0, .unset, .unset, .unset, .unset, .unset, .unset, .unset, .unset, .unset, .unset, .unset, .unset] [(.ref b106), (.ref b100), (.double 0), (.ref b7)])) rfl (by rw [hml]; rfl) (Steps.refl _) (argsL := [(.double 0), (.ref b100), (.ref b106)]) (rest := []) (lenOf own_pd3 rfl) rfl oL (hb hby at_102) (fun _ _ => ⟨rfl, e111, (by decide : 13 + 2 ≤ _), (by decide : 88 + 2 ≤ _)⟩)
  dsimp only [Pt.U, Pt.locs, Pt.cells, Pt.slots] at X133 l133 y133 z133 st133 hQ133
  subst l133 y133 z133
  obtain ⟨rfl, Nq133, nr133, nv133, Kc133, sr133, sv133, dn133, Frows133, Fcosts133, FentryRows133, FentryValues133, Fposition133, Frhs133, Fbasis133, Fstart133, Finverse133, Fprimal133, FpivotsSinceRefactor133, Finfeasibility133, Fcolumns133, Vco133, Ver133, Vev133, Vpo133, Vnr133, Vnv133⟩ := hQ133
  have N133 := Fr.app N111 Nq133
  clear N111
  have R133 := fun t k => R111 t (st133.trans k)
  clear R111 st133 X111 e111
  have szB_nr133 : T96.heap.size ≤ nr133 := Nat.le_trans KB111.1 sr133
  have g_nr133 : n0 ≤ nr133 := Nat.le_trans Z111 sr133
  have sz_nr133 : h0.size ≤ nr133 := Nat.le_trans K111.1 sr133
  have szB_nv133 : T96.heap.size ≤ nv133 := Nat.le_trans KB111.1 sv133
  have g_nv133 : n0 ≤ nv133 := Nat.le_trans Z111 sv133
  have sz_nv133 : h0.size ≤ nv133 := Nat.le_trans K111.1 sv133
  have Z133 : n0 ≤ T133.heap.size := Nat.le_trans Z111 Kc133.1
  clear Z111
  have K133 : Keep h0 T133.heap [] := K111.trans Kc133 (allS (Or.inr sz_b7) (allS (Or.inr sz_co60) (allS (Or.inr sz_er60) (allS (Or.inr sz_ev60) (allS (Or.inr sz_po60) all0)))))
  clear K111
  have f134 : Exa Z T133.heap b7 "com/example/trunkwright/trunkwright/traffic/RevisedSimplex" := (f97.keep KB111).keep Kc133
  have f135 : Arv Z T133.heap rh60 k9 .double (2 : Int32) [(.double dp), (.double dq)] (.double 0) := (f98.keep KB111 nin0).keep Kc133 (ninS (Ne.symm ne_b7_rh60) (ninS (Ne.symm dcorh60) (ninS (Ne.symm derrh60) (ninS (Ne.symm devrh60) (ninS (Ne.symm dporh60) nin0)))))
  have f136 : Arv Z T133.heap nr96 k63 .int (1 : Int32) [(.int 0)] (.int 0) := (Vnr96.keep KB111 nin0).keep Kc133 (ninS (Ne.symm (Nat.ne_of_lt (Nat.lt_of_lt_of_le f61.lt szB_nr96))) (ninS (Ne.symm (Nat.ne_of_lt (Nat.lt_of_lt_of_le Vco60.lt szB_nr96))) (ninS (Ne.symm (Nat.ne_of_lt (Nat.lt_of_lt_of_le Ver60.lt szB_nr96))) (ninS (Ne.symm (Nat.ne_of_lt (Nat.lt_of_lt_of_le Vev60.lt szB_nr96))) (ninS (Ne.symm (Nat.ne_of_lt (Nat.lt_of_lt_of_le Vpo60.lt szB_nr96))) nin0)))))
  have f137 : Arv Z T133.heap nv96 k69 .double (1 : Int32) [(.double ak0)] (.double 0) := (Vnv96.keep KB111 nin0).keep Kc133 (ninS (Ne.symm (Nat.ne_of_lt (Nat.lt_of_lt_of_le f61.lt szB_nv96))) (ninS (Ne.symm (Nat.ne_of_lt (Nat.lt_of_lt_of_le Vco60.lt szB_nv96))) (ninS (Ne.symm (Nat.ne_of_lt (Nat.lt_of_lt_of_le Ver60.lt szB_nv96))) (ninS (Ne.symm (Nat.ne_of_lt (Nat.lt_of_lt_of_le Vev60.lt szB_nv96))) (ninS (Ne.symm (Nat.ne_of_lt (Nat.lt_of_lt_of_le Vpo60.lt szB_nv96))) nin0)))))
  have R138 : ∀ t, oG p e below T133 m 111 #[oI p1, oI p2, oI p3, oI p4, oI p5, oI p6, oD dp, .second, oD dq, .second, oD ak0, .second, oD ak1, .second, oD ak2, .second, oR b7, oI 0, oI 1, .unset, .unset, .unset, .unset, .unset, .unset, .unset, .unset, .unset, .unset, .unset] [(.int 1), (.double 0), (.ref b7)] t → Steps p.tables e below AA t := by
    intro t k
    refine R133 t ?_
    refine XS.istore X133.here hx rfl (hb hby at_105) rfl (l' := #[oI p1, oI p2, oI p3, oI p4, oI p5, oI p6, oD dp, .second, oD dq, .second, oD ak0, .second, oD ak1, .second, oD ak2, .second, oR b7, oI 0, oI 1, .unset, .unset, .unset, .unset, .unset, .unset, .unset, .unset, .unset, .unset, .unset]) rfl ?_
    refine XS.aload X133.here hx rfl (hb hby at_107) rfl rfl ?_
    refine XS.dconst0 X133.here hx rfl (hb hby at_109) (v := (0 : UInt64)) (by decide +kernel) ?_
    refine XS.iconst X133.here hx rfl (hb hby at_110) ?_
    exact k
  clear R133
  obtain ⟨T139, h139, k139, X139, e139, E139, A139, B139, st139⟩ := newPE X133 hx hZ (oW hw 21 rfl) rfl (g := (mkF m 111 #[oI p1, oI p2, oI p3, oI p4, oI p5, oI p6, oD dp, .second, oD dq, .second, oD ak0, .second, oD ak1, .second, oD ak2, .second, oR b7, oI 0, oI 1, .unset, .unset, .unset, .unset, .unset, .unset, .unset, .unset, .unset, .unset, .unset] [(.int 1), (.double 0), (.ref b7)])) rfl (hb hby at_111) rfl (by decide) (cap := 1) (by decide) (by decide) (by decide) (by decide) (ad := "[I") (by decide)
  obtain ⟨b139, g139⟩ : ∃ z, z = T133.heap.size := ⟨_, rfl⟩
  rw [← g139] at A139 B139 st139
  have R139 := fun t k => R138 t (st139 t k)
  clear R138 st139 X133
  have g_b139 : n0 ≤ b139 := Nat.le_trans Z133 (Nat.le_of_eq g139.symm)
  have sz_b139 : h0.size ≤ b139 := Nat.le_trans K133.1 (Nat.le_of_eq g139.symm)
  have szB_b139 : T133.heap.size ≤ b139 := Nat.le_trans (Keep.refl T133.heap []).1 (Nat.le_of_eq g139.symm)
  have KB139 := (Keep.refl T133.heap []).ext E139
  have Z139 : n0 ≤ h139.size := Nat.le_trans Z133 E139.1
  clear Z133
  have K139 : Keep h0 h139 [] := K133.ext E139
  clear K133
  clear E139
  have V139 : Arv Z h139 b139 k139 .int (1 : Int32) [(.int 0)] (.int 0) := (Arv.new A139 (by decide)).pad (pad_rep [] (.int 0) 1)
  have R140 : ∀ t, oG p e below T139 m 116 #[oI p1, oI p2, oI p3, oI p4, oI p5, oI p6, oD dp, .second, oD dq, .second, oD ak0, .second, oD ak1, .second, oD ak2, .second, oR b7, oI 0, oI 1, .unset, .unset, .unset, .unset, .unset, .unset, .unset, .unset, .unset, .unset, .unset] [(.int 0), (.int 0), (.ref b139), (.ref b139), (.double 0), (.ref b7)] t → Steps p.tables e below AA t := by
    intro t k
    refine R139 t ?_
    refine XS.dup X139.here hx rfl (hb hby at_113) rfl rfl ?_
    refine XS.iconst X139.here hx rfl (hb hby at_114) ?_
    refine XS.iconst X139.here hx rfl (hb hby at_115) ?_
    exact k
  clear R139
  obtain ⟨cl141, Ar141, q141, S141, N141', H141, G141⟩ := id V139
  have hin141 : ¬ ((0 : Int32) < 0 ∨ cl141.slots.size ≤ ((0 : Int32)).toNatClampNeg) := inb_of S141 ⟨by decide, by decide⟩
  obtain ⟨T142, h142, X142, e142, W142, st142⟩ := stI X139 hx hZ e139 Ar141 (j := (0 : Int32)) hin141 (g := (mkF m 116 #[oI p1, oI p2, oI p3, oI p4, oI p5, oI p6, oD dp, .second, oD dq, .second, oD ak0, .second, oD ak1, .second, oD ak2, .second, oR b7, oI 0, oI 1, .unset, .unset, .unset, .unset, .unset, .unset, .unset, .unset, .unset, .unset, .unset] [(.int 0), (.int 0), (.ref b139), (.ref b139), (.double 0), (.ref b7)])) rfl rfl (hb hby at_116)
  have R142 := fun t k => R140 t (st142 t k)
  clear R140 st142 X139 e139
  have Z142 : n0 ≤ h142.size := Nat.le_trans Z139 (Keep.of_wr W142).1
  clear Z139
  have KB142 := KB139.wr W142 (Or.inr szB_b139)
  have K142 : Keep h0 h142 [] := K139.wr W142 (Or.inr sz_b139)
  have N142 := Fr.snoc X142 N133 g_b139
  clear K139
  clear N133
  have f143 : Exa Z h142 b139 "[I" := B139.wr W142
  have V142 : Arv Z h142 b139 k139 .int (1 : Int32) [(.int 0)] (.int 0) := Arv.set Ar141 q141 S141 N141' H141 G141 rfl W142 0 rfl (Nat.le_of_ble_eq_true rfl)
  clear Ar141 q141 S141 N141' H141 G141 hin141 W142 V139
  have R144 : ∀ t, oG p e below T142 m 118 #[oI p1, oI p2, oI p3, oI p4, oI p5, oI p6, oD dp, .second, oD dq, .second, oD ak0, .second, oD ak1, .second, oD ak2, .second, oR b7, oI 0, oI 1, .unset, .unset, .unset, .unset, .unset, .unset, .unset, .unset, .unset, .unset, .unset] [(.int 1), (.ref b139), (.double 0), (.ref b7)] t → Steps p.tables e below AA t := by
    intro t k
    refine R142 t ?_
    refine XS.iconst X142.here hx rfl (hb hby at_117) ?_
    exact k
  clear R142
  obtain ⟨T145, h145, k145, X145, e145, E145, A145, B145, st145⟩ := newPE X142 hx hZ (oW hw 4 rfl) e142 (g := (mkF m 118 #[oI p1, oI p2, oI p3, oI p4, oI p5, oI p6, oD dp, .second, oD dq, .second, oD ak0, .second, oD ak1, .second, oD ak2, .second, oR b7, oI 0, oI 1, .unset, .unset, .unset, .unset, .unset, .unset, .unset, .unset, .unset, .unset, .unset] [(.int 1), (.ref b139), (.double 0), (.ref b7)])) rfl (hb hby at_118) rfl (by decide) (cap := 1) (by decide) (by decide) (by decide) (by decide) (ad := "[D") (by decide)
  obtain ⟨b145, g145⟩ : ∃ z, z = h142.size := ⟨_, rfl⟩
  rw [← g145] at A145 B145 st145
  have R145 := fun t k => R144 t (st145 t k)
  clear R144 st145 X142 e142
  have ne_b139_b145 : b139 ≠ b145 := Nat.ne_of_lt (Nat.lt_of_lt_of_le f143.lt (Nat.le_of_eq g145.symm))
  have g_b145 : n0 ≤ b145 := Nat.le_trans Z142 (Nat.le_of_eq g145.symm)
  have sz_b145 : h0.size ≤ b145 := Nat.le_trans K142.1 (Nat.le_of_eq g145.symm)
  have szB_b145 : T133.heap.size ≤ b145 := Nat.le_trans KB142.1 (Nat.le_of_eq g145.symm)
  have KB145 := KB142.ext E145
  have Z145 : n0 ≤ h145.size := Nat.le_trans Z142 E145.1
  clear Z142
  have K145 : Keep h0 h145 [] := K142.ext E145
  clear K142
  have f146 : Exa Z h145 b139 "[I" := f143.ext E145
  clear f143
  have f147 : Arv Z h145 b139 k139 .int (1 : Int32) [(.int 0)] (.int 0) := V142.ext E145
  clear V142
  clear E145
  have V145 : Arv Z h145 b145 k145 .double (1 : Int32) [(.double 0)] (.double 0) := (Arv.new A145 (by decide)).pad (pad_rep [] (.double 0) 1)
  have R148 : ∀ t, oG p e below T145 m 124 #[oI p1, oI p2, oI p3, oI p4, oI p5, oI p6, oD dp, .second, oD dq, .second, oD ak0, .second, oD ak1, .second, oD ak2, .second, oR b7, oI 0, oI 1, .unset, .unset, .unset, .unset, .unset, .unset, .unset, .unset, .unset, .unset, .unset] [(.double ak2), (.int 0), (.ref b145), (.ref b145), (.ref b139), (.double 0), (.ref b7)] t → Steps p.tables e below AA t := by
    intro t k
    refine R145 t ?_
    refine XS.dup X145.here hx rfl (hb hby at_120) rfl rfl ?_
    refine XS.iconst X145.here hx rfl (hb hby at_121) ?_
    refine XS.dload X145.here hx rfl (hb hby at_122) rfl ?_
    exact k
  clear R145
  obtain ⟨cl149, Ar149, q149, S149, N149', H149, G149⟩ := id V145
  have hin149 : ¬ ((0 : Int32) < 0 ∨ cl149.slots.size ≤ ((0 : Int32)).toNatClampNeg) := inb_of S149 ⟨by decide, by decide⟩
  obtain ⟨T150, h150, X150, e150, W150, st150⟩ := stD X145 hx hZ e145 Ar149 (j := (0 : Int32)) hin149 (g := (mkF m 124 #[oI p1, oI p2, oI p3, oI p4, oI p5, oI p6, oD dp, .second, oD dq, .second, oD ak0, .second, oD ak1, .second, oD ak2, .second, oR b7, oI 0, oI 1, .unset, .unset, .unset, .unset, .unset, .unset, .unset, .unset, .unset, .unset, .unset] [(.double ak2), (.int 0), (.ref b145), (.ref b145), (.ref b139), (.double 0), (.ref b7)])) rfl rfl (hb hby at_124)
  have R150 := fun t k => R148 t (st150 t k)
  clear R148 st150 X145 e145
  have Z150 : n0 ≤ h150.size := Nat.le_trans Z145 (Keep.of_wr W150).1
  clear Z145
  have KB150 := KB145.wr W150 (Or.inr szB_b145)
  have K150 : Keep h0 h150 [] := K145.wr W150 (Or.inr sz_b145)
  have N150 := Fr.snoc X150 N142 g_b145
  clear K145
  clear N142
  have f151 : Exa Z h150 b139 "[I" := f146.wr W150
  clear f146
  have f152 : Arv Z h150 b139 k139 .int (1 : Int32) [(.int 0)] (.int 0) := f147.other W150 ne_b139_b145
  clear f147
  have f153 : Exa Z h150 b145 "[D" := B145.wr W150
  have V150 : Arv Z h150 b145 k145 .double (1 : Int32) [(.double ak2)] (.double 0) := Arv.set Ar149 q149 S149 N149' H149 G149 rfl W150 0 rfl (Nat.le_of_ble_eq_true rfl)
  clear Ar149 q149 S149 N149' H149 G149 hin149 W150 V145
  have f154 : oF Z h150 b7 "rows" "I" (.int 2) := Frows133.keep KB150 nin0
  have f155 : oF Z h150 b7 "costs" "[D" (.ref co60) := Fcosts133.keep KB150 nin0
  have f156 : oF Z h150 b7 "entryRows" "[[I" (.ref er60) := FentryRows133.keep KB150 nin0
  have f157 : oF Z h150 b7 "entryValues" "[[D" (.ref ev60) := FentryValues133.keep KB150 nin0
  have f158 : oF Z h150 b7 "position" "[I" (.ref po60) := Fposition133.keep KB150 nin0
  have f159 : oF Z h150 b7 "rhs" "[D" (.ref rh60) := Frhs133.keep KB150 nin0
  have f160 : oF Z h150 b7 "basis" "[I" .null := Fbasis133.keep KB150 nin0
  have f161 : oF Z h150 b7 "start" "[I" .null := Fstart133.keep KB150 nin0
  have f162 : oF Z h150 b7 "inverse" "[[D" .null := Finverse133.keep KB150 nin0
  have f163 : oF Z h150 b7 "primal" "[D" .null := Fprimal133.keep KB150 nin0
  have f164 : oF Z h150 b7 "pivotsSinceRefactor" "I" (.int 0) := FpivotsSinceRefactor133.keep KB150 nin0
  have f165 : oF Z h150 b7 "infeasibility" "D" (.double 0) := Finfeasibility133.keep KB150 nin0
  have f166 : oF Z h150 b7 "columns" "I" (.int 2) := Fcolumns133.keep KB150 nin0
  have f167 : Exa Z h150 b7 "com/example/trunkwright/trunkwright/traffic/RevisedSimplex" := f134.keep KB150
  have f168 : Arv Z h150 co60 kco60 .double (16 : Int32) (oC (.double 0) (.double 0) (.double 0)) (.double 0) := Vco133.keep KB150 nin0
  have f169 : Arv Z h150 er60 ker60 (.array .int) (16 : Int32) (oU (.ref nr96) (.ref nr133) .null) .null := Ver133.keep KB150 nin0
  have f170 : Arv Z h150 ev60 kev60 (.array .double) (16 : Int32) (oU (.ref nv96) (.ref nv133) .null) .null := Vev133.keep KB150 nin0
  have f171 : Arv Z h150 po60 kpo60 .int (16 : Int32) (oZ (.int (-1)) (.int (-1)) (.int 0)) (.int 0) := Vpo133.keep KB150 nin0
  obtain ⟨cq172, kq172, q172a, q172b, q172c⟩ := isOf hZ e150 f167
  obtain ⟨_, _, ⟨T172, L172, k172, n172⟩, -, X172, ⟨Lc172, hQ172, l172, y172, z172⟩, st172⟩ := X150.virtualBack hx (y := (oN "add" "(D[I[D)I")) (z := (oN "add" "(D[I[D)I")) hown (mvT hZ (oW hw 36 rfl)) (mvT hZ (oW hw 37 rfl)) (notFace_of_selects (args := #[]) (mvT hZ (oW hw 39 rfl))) (mvT hZ (oW hw 39 rfl)) (mvT hZ (oW hw 38 rfl)) (by decide) (backOf (W := 0) (rmAd2 l Z a0 hw [] b7 b139 b145 co60 er60 ev60 po60 rh60 nr96 nr133 nv96 nv133 _ _ _ _ _ _ _ _  h150 n0 Z150 f154 f155 f156 f157 f158 f159 f160 f161 f162 f163 f164 f165 f166 f167 f168 f169 f170 f171 f152 f151 V150 f153 Oer60 Oev60 g_b7 g_co60 g_er60 g_ev60 g_po60 (Ne.symm ne_b7_co60) (Ne.symm ne_b7_er60) (Ne.symm dcoer60) (Ne.symm ne_b7_ev60) (Ne.symm dcoev60) (Ne.symm derev60) (Ne.symm ne_b7_po60) (Ne.symm dcopo60) (Ne.symm derpo60) (Ne.symm devpo60) (Ne.symm (Nat.ne_of_lt (Nat.lt_of_lt_of_le f134.lt szB_b139))) (Ne.symm (Nat.ne_of_lt (Nat.lt_of_lt_of_le Vco133.lt szB_b139))) (Ne.symm (Nat.ne_of_lt (Nat.lt_of_lt_of_le Ver133.lt szB_b139))) (Ne.symm (Nat.ne_of_lt (Nat.lt_of_lt_of_le Vev133.lt szB_b139))) (Ne.symm (Nat.ne_of_lt (Nat.lt_of_lt_of_le Vpo133.lt szB_b139))) (Ne.symm (Nat.ne_of_lt (Nat.lt_of_lt_of_le f134.lt szB_b145))) (Ne.symm (Nat.ne_of_lt (Nat.lt_of_lt_of_le Vco133.lt szB_b145))) (Ne.symm (Nat.ne_of_lt (Nat.lt_of_lt_of_le Ver133.lt szB_b145))) (Ne.symm (Nat.ne_of_lt (Nat.lt_of_lt_of_le Vev133.lt szB_b145))) (Ne.symm (Nat.ne_of_lt (Nat.lt_of_lt_of_le Vpo133.lt szB_b145)))) hZ (oW hw 40 rfl) (oW hw 3 rfl) (by decide) (by decide)) q172a q172c (g := (mkF m 125 #[oI p1, oI p2, oI p3, oI p4, oI p5, oI p6, oD dp, .second, oD dq, .second, oD ak0, .second, oD ak1, .second, oD ak2, .second, oR b7, oI 0, oI 1, .unset, .unset, .unset, .unset, .unset, .unset, .unset, .unset, .unset, .unset, .unset] [(.ref b145), (.ref b139), (.double 0), (.ref b7)])) rfl (by rw [hml]; rfl) (Steps.refl _) (argsL := [(.double 0), (.ref b139), (.ref b145)]) (rest := []) (lenOf own_pd3 rfl) rfl oL (hb hby at_125) (fun _ _ => ⟨rfl, e150, (by decide : 17 + 2 ≤ _), (by decide : 92 + 2 ≤ _)⟩)
  dsimp only [Pt.U, Pt.locs, Pt.cells, Pt.slots] at X172 l172 y172 z172 st172 hQ172
  subst l172 y172 z172
  obtain ⟨rfl, Nq172, nr172, nv172, Kc172, sr172, sv172, dn172, Frows172, Fcosts172, FentryRows172, FentryValues172, Fposition172, Frhs172, Fbasis172, Fstart172, Finverse172, Fprimal172, FpivotsSinceRefactor172, Finfeasibility172, Fcolumns172, Vco172, Ver172, Vev172, Vpo172, Vnr172, Vnv172⟩ := hQ172
  have N172 := Fr.app N150 Nq172
  clear N150
  have R172 := fun t k => R150 t (st172.trans k)
  clear R150 st172 X150 e150
  have szB_nr172 : T133.heap.size ≤ nr172 := Nat.le_trans KB150.1 sr172
  have g_nr172 : n0 ≤ nr172 := Nat.le_trans Z150 sr172
  have sz_nr172 : h0.size ≤ nr172 := Nat.le_trans K150.1 sr172
  have szB_nv172 : T133.heap.size ≤ nv172 := Nat.le_trans KB150.1 sv172
  have g_nv172 : n0 ≤ nv172 := Nat.le_trans Z150 sv172
  have sz_nv172 : h0.size ≤ nv172 := Nat.le_trans K150.1 sv172
  have Z172 : n0 ≤ T172.heap.size := Nat.le_trans Z150 Kc172.1
  clear Z150
  have K172 : Keep h0 T172.heap [] := K150.trans Kc172 (allS (Or.inr sz_b7) (allS (Or.inr sz_co60) (allS (Or.inr sz_er60) (allS (Or.inr sz_ev60) (allS (Or.inr sz_po60) all0)))))
  clear K150
  have f173 : Exa Z T172.heap b7 "com/example/trunkwright/trunkwright/traffic/RevisedSimplex" := (f134.keep KB150).keep Kc172
  have f174 : Arv Z T172.heap rh60 k9 .double (2 : Int32) [(.double dp), (.double dq)] (.double 0) := (f135.keep KB150 nin0).keep Kc172 (ninS (Ne.symm ne_b7_rh60) (ninS (Ne.symm dcorh60) (ninS (Ne.symm derrh60) (ninS (Ne.symm devrh60) (ninS (Ne.symm dporh60) nin0)))))
  have f175 : Arv Z T172.heap nr96 k63 .int (1 : Int32) [(.int 0)] (.int 0) := (f136.keep KB150 nin0).keep Kc172 (ninS (Ne.symm (Nat.ne_of_lt (Nat.lt_of_lt_of_le f61.lt szB_nr96))) (ninS (Ne.symm (Nat.ne_of_lt (Nat.lt_of_lt_of_le Vco60.lt szB_nr96))) (ninS (Ne.symm (Nat.ne_of_lt (Nat.lt_of_lt_of_le Ver60.lt szB_nr96))) (ninS (Ne.symm (Nat.ne_of_lt (Nat.lt_of_lt_of_le Vev60.lt szB_nr96))) (ninS (Ne.symm (Nat.ne_of_lt (Nat.lt_of_lt_of_le Vpo60.lt szB_nr96))) nin0)))))
  have f176 : Arv Z T172.heap nv96 k69 .double (1 : Int32) [(.double ak0)] (.double 0) := (f137.keep KB150 nin0).keep Kc172 (ninS (Ne.symm (Nat.ne_of_lt (Nat.lt_of_lt_of_le f61.lt szB_nv96))) (ninS (Ne.symm (Nat.ne_of_lt (Nat.lt_of_lt_of_le Vco60.lt szB_nv96))) (ninS (Ne.symm (Nat.ne_of_lt (Nat.lt_of_lt_of_le Ver60.lt szB_nv96))) (ninS (Ne.symm (Nat.ne_of_lt (Nat.lt_of_lt_of_le Vev60.lt szB_nv96))) (ninS (Ne.symm (Nat.ne_of_lt (Nat.lt_of_lt_of_le Vpo60.lt szB_nv96))) nin0)))))
  have f177 : Arv Z T172.heap nr133 k100 .int (1 : Int32) [(.int 1)] (.int 0) := (Vnr133.keep KB150 nin0).keep Kc172 (ninS (Ne.symm (Nat.ne_of_lt (Nat.lt_of_lt_of_le f97.lt szB_nr133))) (ninS (Ne.symm (Nat.ne_of_lt (Nat.lt_of_lt_of_le Vco96.lt szB_nr133))) (ninS (Ne.symm (Nat.ne_of_lt (Nat.lt_of_lt_of_le Ver96.lt szB_nr133))) (ninS (Ne.symm (Nat.ne_of_lt (Nat.lt_of_lt_of_le Vev96.lt szB_nr133))) (ninS (Ne.symm (Nat.ne_of_lt (Nat.lt_of_lt_of_le Vpo96.lt szB_nr133))) nin0)))))
  have f178 : Arv Z T172.heap nv133 k106 .double (1 : Int32) [(.double ak1)] (.double 0) := (Vnv133.keep KB150 nin0).keep Kc172 (ninS (Ne.symm (Nat.ne_of_lt (Nat.lt_of_lt_of_le f97.lt szB_nv133))) (ninS (Ne.symm (Nat.ne_of_lt (Nat.lt_of_lt_of_le Vco96.lt szB_nv133))) (ninS (Ne.symm (Nat.ne_of_lt (Nat.lt_of_lt_of_le Ver96.lt szB_nv133))) (ninS (Ne.symm (Nat.ne_of_lt (Nat.lt_of_lt_of_le Vev96.lt szB_nv133))) (ninS (Ne.symm (Nat.ne_of_lt (Nat.lt_of_lt_of_le Vpo96.lt szB_nv133))) nin0)))))
  have R179 : ∀ t, oG p e below T172 m 153 #[oI p1, oI p2, oI p3, oI p4, oI p5, oI p6, oD dp, .second, oD dq, .second, oD ak0, .second, oD ak1, .second, oD ak2, .second, oR b7, oI 0, oI 1, oI 2, .unset, .unset, .unset, .unset, .unset, .unset, .unset, .unset, .unset, .unset] [(.int (p6 &&& (1 : Int32)))] t → Steps p.tables e below AA t := by
    intro t k
    refine R172 t ?_
    refine XS.istore X172.here hx rfl (hb hby at_128) rfl (l' := #[oI p1, oI p2, oI p3, oI p4, oI p5, oI p6, oD dp, .second, oD dq, .second, oD ak0, .second, oD ak1, .second, oD ak2, .second, oR b7, oI 0, oI 1, oI 2, .unset, .unset, .unset, .unset, .unset, .unset, .unset, .unset, .unset, .unset]) rfl ?_
    refine XS.iload X172.here hx rfl (hb hby at_130) rfl ?_
    refine XS.ifNo X172.here hx rfl (hb hby at_132) rfl ((if0 _ _).trans (teq (by decide : ((0 : Int32) = (0 : Int32)))).2) ?_
    refine XS.iload X172.here hx rfl (hb hby at_135) rfl ?_
    refine XS.iconst X172.here hx rfl (hb hby at_137) ?_
    show oG p e below T172 m 138 #[oI p1, oI p2, oI p3, oI p4, oI p5, oI p6, oD dp, .second, oD dq, .second, oD ak0, .second, oD ak1, .second, oD ak2, .second, oR b7, oI 0, oI 1, oI 2, .unset, .unset, .unset, .unset, .unset, .unset, .unset, .unset, .unset, .unset] [(.int 1), (.int 1)] _
    refine XS.icmpNo X172.here hx rfl (hb hby at_138) rfl (teq (by decide : ((1 : Int32) = (1 : Int32)))).2 ?_
    refine XS.iload X172.here hx rfl (hb hby at_141) rfl ?_
    refine XS.iconst X172.here hx rfl (hb hby at_143) ?_
    refine XS.icmpYes X172.here hx rfl (pc0 := 144) (pc' := 149) rfl (hb hby at_144) rfl (teq (by decide : ((2 : Int32) = (2 : Int32)))).1 (by decide) (by decide) ?_
    refine XS.iload X172.here hx rfl (hb hby at_149) rfl ?_
    refine XS.iconst X172.here hx rfl (hb hby at_151) ?_
    show oG p e below T172 m 152 #[oI p1, oI p2, oI p3, oI p4, oI p5, oI p6, oD dp, .second, oD dq, .second, oD ak0, .second, oD ak1, .second, oD ak2, .second, oR b7, oI 0, oI 1, oI 2, .unset, .unset, .unset, .unset, .unset, .unset, .unset, .unset, .unset, .unset] [(.int 1), (.int p6)] _
    refine XS.iand X172.here hx rfl (hb hby at_152) rfl ?_
    exact k
  clear R172
  by_cases hu : (p6 &&& (1 : Int32)) = (0 : Int32)
  · have R180 : ∀ t, oG p e below T172 m 167 #[oI p1, oI p2, oI p3, oI p4, oI p5, oI p6, oD dp, .second, oD dq, .second, oD ak0, .second, oD ak1, .second, oD ak2, .second, oR b7, oI 0, oI 1, oI 2, oI 0, .unset, .unset, .unset, .unset, .unset, .unset, .unset, .unset, .unset] [(.int (p6 &&& (2 : Int32)))] t → Steps p.tables e below AA t := by
      intro t k
      refine R179 t ?_
      refine XS.ifYes X172.here hx rfl (pc0 := 153) (pc' := 160) rfl (hb hby at_153) rfl ((if0 _ _).trans (teq hu).1) (by decide) (by decide) ?_
      refine XS.iconst X172.here hx rfl (hb hby at_160) ?_
      refine XS.istore X172.here hx rfl (hb hby at_161) rfl (l' := #[oI p1, oI p2, oI p3, oI p4, oI p5, oI p6, oD dp, .second, oD dq, .second, oD ak0, .second, oD ak1, .second, oD ak2, .second, oR b7, oI 0, oI 1, oI 2, oI 0, .unset, .unset, .unset, .unset, .unset, .unset, .unset, .unset, .unset]) rfl ?_
      refine XS.iload X172.here hx rfl (hb hby at_163) rfl ?_
      refine XS.iconst X172.here hx rfl (hb hby at_165) ?_
      show oG p e below T172 m 166 #[oI p1, oI p2, oI p3, oI p4, oI p5, oI p6, oD dp, .second, oD dq, .second, oD ak0, .second, oD ak1, .second, oD ak2, .second, oR b7, oI 0, oI 1, oI 2, oI 0, .unset, .unset, .unset, .unset, .unset, .unset, .unset, .unset, .unset] [(.int 2), (.int p6)] _
      refine XS.iand X172.here hx rfl (hb hby at_166) rfl ?_
      exact k
    clear R179
    by_cases hs : (p6 &&& (2 : Int32)) = (0 : Int32)
    · have R181 : ∀ t, oG p e below T172 m 190 #[oI p1, oI p2, oI p3, oI p4, oI p5, oI p6, oD dp, .second, oD dq, .second, oD ak0, .second, oD ak1, .second, oD ak2, .second, oR b7, oI 0, oI 1, oI 2, oI 0, oI 0, oI 0, .unset, .unset, .unset, .unset, .unset, .unset, .unset] [(.int 2)] t → Steps p.tables e below AA t := by
        intro t k
        refine R180 t ?_
        refine XS.ifYes X172.here hx rfl (pc0 := 167) (pc' := 174) rfl (hb hby at_167) rfl ((if0 _ _).trans (teq hs).1) (by decide) (by decide) ?_
        refine XS.iconst X172.here hx rfl (hb hby at_174) ?_
        refine XS.istore X172.here hx rfl (hb hby at_175) rfl (l' := #[oI p1, oI p2, oI p3, oI p4, oI p5, oI p6, oD dp, .second, oD dq, .second, oD ak0, .second, oD ak1, .second, oD ak2, .second, oR b7, oI 0, oI 1, oI 2, oI 0, oI 0, .unset, .unset, .unset, .unset, .unset, .unset, .unset, .unset]) rfl ?_
        refine XS.iload X172.here hx rfl (hb hby at_177) rfl ?_
        refine XS.ifYes X172.here hx rfl (pc0 := 179) (pc' := 186) rfl (hb hby at_179) rfl ((if0 _ _).trans (teq (by decide : ((0 : Int32) = (0 : Int32)))).1) (by decide) (by decide) ?_
        show oG p e below T172 m 186 #[oI p1, oI p2, oI p3, oI p4, oI p5, oI p6, oD dp, .second, oD dq, .second, oD ak0, .second, oD ak1, .second, oD ak2, .second, oR b7, oI 0, oI 1, oI 2, oI 0, oI 0, .unset, .unset, .unset, .unset, .unset, .unset, .unset, .unset] [] _
        refine XS.iconst X172.here hx rfl (hb hby at_186) ?_
        refine XS.istore X172.here hx rfl (hb hby at_187) rfl (l' := #[oI p1, oI p2, oI p3, oI p4, oI p5, oI p6, oD dp, .second, oD dq, .second, oD ak0, .second, oD ak1, .second, oD ak2, .second, oR b7, oI 0, oI 1, oI 2, oI 0, oI 0, oI 0, .unset, .unset, .unset, .unset, .unset, .unset, .unset]) rfl ?_
        refine XS.iconst X172.here hx rfl (hb hby at_189) ?_
        exact k
      clear R180
      obtain ⟨T182, h182, k182, X182, e182, E182, A182, B182, st182⟩ := newPE X172 hx hZ (oW hw 21 rfl) rfl (g := (mkF m 190 #[oI p1, oI p2, oI p3, oI p4, oI p5, oI p6, oD dp, .second, oD dq, .second, oD ak0, .second, oD ak1, .second, oD ak2, .second, oR b7, oI 0, oI 1, oI 2, oI 0, oI 0, oI 0, .unset, .unset, .unset, .unset, .unset, .unset, .unset] [(.int 2)])) rfl (hb hby at_190) rfl (by decide) (cap := 2) (by decide) (by decide) (by decide) (by decide) (ad := "[I") (by decide)
      obtain ⟨b182, g182⟩ : ∃ z, z = T172.heap.size := ⟨_, rfl⟩
      rw [← g182] at A182 B182 st182
      have R182 := fun t k => R181 t (st182 t k)
      clear R181 st182 X172
      have g_b182 : n0 ≤ b182 := Nat.le_trans Z172 (Nat.le_of_eq g182.symm)
      have sz_b182 : h0.size ≤ b182 := Nat.le_trans K172.1 (Nat.le_of_eq g182.symm)
      have szB_b182 : T172.heap.size ≤ b182 := Nat.le_trans (Keep.refl T172.heap []).1 (Nat.le_of_eq g182.symm)
      have KB182 := (Keep.refl T172.heap []).ext E182
      have Z182 : n0 ≤ h182.size := Nat.le_trans Z172 E182.1
      clear Z172
      have K182 : Keep h0 h182 [] := K172.ext E182
      clear K172
      clear E182
      have V182 : Arv Z h182 b182 k182 .int (2 : Int32) [(.int 0), (.int 0)] (.int 0) := (Arv.new A182 (by decide)).pad (pad_rep [] (.int 0) 2)
      have R183 : ∀ t, oG p e below T182 m 218 #[oI p1, oI p2, oI p3, oI p4, oI p5, oI p6, oD dp, .second, oD dq, .second, oD ak0, .second, oD ak1, .second, oD ak2, .second, oR b7, oI 0, oI 1, oI 2, oI 0, oI 0, oI 0, oR b182, .unset, .unset, .unset, .unset, .unset, .unset] [(.int 0), (.int 0), (.ref b182)] t → Steps p.tables e below AA t := by
        intro t k
        refine R182 t ?_
        refine XS.astore X182.here hx rfl (hb hby at_192) rfl rfl (l' := #[oI p1, oI p2, oI p3, oI p4, oI p5, oI p6, oD dp, .second, oD dq, .second, oD ak0, .second, oD ak1, .second, oD ak2, .second, oR b7, oI 0, oI 1, oI 2, oI 0, oI 0, oI 0, oR b182, .unset, .unset, .unset, .unset, .unset, .unset]) rfl ?_
        refine XS.iload X182.here hx rfl (hb hby at_194) rfl ?_
        refine XS.ifYes X182.here hx rfl (pc0 := 196) (pc' := 213) rfl (hb hby at_196) rfl ((if0 _ _).trans (teq (by decide : ((0 : Int32) = (0 : Int32)))).1) (by decide) (by decide) ?_
        refine XS.aload X182.here hx rfl (hb hby at_213) rfl rfl ?_
        refine XS.iconst X182.here hx rfl (hb hby at_215) ?_
        show oG p e below T182 m 216 #[oI p1, oI p2, oI p3, oI p4, oI p5, oI p6, oD dp, .second, oD dq, .second, oD ak0, .second, oD ak1, .second, oD ak2, .second, oR b7, oI 0, oI 1, oI 2, oI 0, oI 0, oI 0, oR b182, .unset, .unset, .unset, .unset, .unset, .unset] [(.int 0), (.ref b182)] _
        refine XS.iload X182.here hx rfl (hb hby at_216) rfl ?_
        exact k
      clear R182
      obtain ⟨cl184, Ar184, q184, S184, N184', H184, G184⟩ := id V182
      have hin184 : ¬ ((0 : Int32) < 0 ∨ cl184.slots.size ≤ ((0 : Int32)).toNatClampNeg) := inb_of S184 ⟨by decide, by decide⟩
      obtain ⟨T185, h185, X185, e185, W185, st185⟩ := stI X182 hx hZ e182 Ar184 (j := (0 : Int32)) hin184 (g := (mkF m 218 #[oI p1, oI p2, oI p3, oI p4, oI p5, oI p6, oD dp, .second, oD dq, .second, oD ak0, .second, oD ak1, .second, oD ak2, .second, oR b7, oI 0, oI 1, oI 2, oI 0, oI 0, oI 0, oR b182, .unset, .unset, .unset, .unset, .unset, .unset] [(.int 0), (.int 0), (.ref b182)])) rfl rfl (hb hby at_218)
      have R185 := fun t k => R183 t (st185 t k)
      clear R183 st185 X182 e182
      have Z185 : n0 ≤ h185.size := Nat.le_trans Z182 (Keep.of_wr W185).1
      clear Z182
      have KB185 := KB182.wr W185 (Or.inr szB_b182)
      have K185 : Keep h0 h185 [] := K182.wr W185 (Or.inr sz_b182)
      have N185 := Fr.snoc X185 N172 g_b182
      clear K182
      clear N172
      have f186 : Exa Z h185 b182 "[I" := B182.wr W185
      have V185 : Arv Z h185 b182 k182 .int (2 : Int32) [(.int 0), (.int 0)] (.int 0) := Arv.set Ar184 q184 S184 N184' H184 G184 rfl W185 0 rfl (Nat.le_of_ble_eq_true rfl)
      clear Ar184 q184 S184 N184' H184 G184 hin184 W185 V182
      have R187 : ∀ t, oG p e below T185 m 223 #[oI p1, oI p2, oI p3, oI p4, oI p5, oI p6, oD dp, .second, oD dq, .second, oD ak0, .second, oD ak1, .second, oD ak2, .second, oR b7, oI 0, oI 1, oI 2, oI 0, oI 0, oI 0, oR b182, .unset, .unset, .unset, .unset, .unset, .unset] [(.int 1), (.int 1), (.ref b182)] t → Steps p.tables e below AA t := by
        intro t k
        refine R185 t ?_
        refine XS.aload X185.here hx rfl (hb hby at_219) rfl rfl ?_
        refine XS.iconst X185.here hx rfl (hb hby at_221) ?_
        refine XS.iconst X185.here hx rfl (hb hby at_222) ?_
        exact k
      clear R185
      obtain ⟨cl188, Ar188, q188, S188, N188', H188, G188⟩ := id V185
      have hin188 : ¬ ((1 : Int32) < 0 ∨ cl188.slots.size ≤ ((1 : Int32)).toNatClampNeg) := inb_of S188 ⟨by decide, by decide⟩
      obtain ⟨T189, h189, X189, e189, W189, st189⟩ := stI X185 hx hZ e185 Ar188 (j := (1 : Int32)) hin188 (g := (mkF m 223 #[oI p1, oI p2, oI p3, oI p4, oI p5, oI p6, oD dp, .second, oD dq, .second, oD ak0, .second, oD ak1, .second, oD ak2, .second, oR b7, oI 0, oI 1, oI 2, oI 0, oI 0, oI 0, oR b182, .unset, .unset, .unset, .unset, .unset, .unset] [(.int 1), (.int 1), (.ref b182)])) rfl rfl (hb hby at_223)
      have R189 := fun t k => R187 t (st189 t k)
      clear R187 st189 X185 e185
      have Z189 : n0 ≤ h189.size := Nat.le_trans Z185 (Keep.of_wr W189).1
      clear Z185
      have KB189 := KB185.wr W189 (Or.inr szB_b182)
      have K189 : Keep h0 h189 [] := K185.wr W189 (Or.inr sz_b182)
      have N189 := Fr.snoc X189 N185 g_b182
      clear K185
      clear N185
      have f190 : Exa Z h189 b182 "[I" := f186.wr W189
      clear f186
      have V189 : Arv Z h189 b182 k182 .int (2 : Int32) [(.int 0), (.int 1)] (.int 0) := Arv.set Ar188 q188 S188 N188' H188 G188 rfl W189 1 rfl (Nat.le_of_ble_eq_true rfl)
      clear Ar188 q188 S188 N188' H188 G188 hin188 W189 V185
      have R191 : ∀ t, oG p e below T189 m 228 #[oI p1, oI p2, oI p3, oI p4, oI p5, oI p6, oD dp, .second, oD dq, .second, oD ak0, .second, oD ak1, .second, oD ak2, .second, oR b7, oI 0, oI 1, oI 2, oI 0, oI 0, oI 0, oR b182, .unset, .unset, .unset, .unset, .unset, .unset] [(.ref b182), (.ref b7)] t → Steps p.tables e below AA t := by
        intro t k
        refine R189 t ?_
        refine XS.aload X189.here hx rfl (hb hby at_224) rfl rfl ?_
        refine XS.aload X189.here hx rfl (hb hby at_226) rfl rfl ?_
        exact k
      clear R189
      have f192 : oF Z h189 b7 "rows" "I" (.int 2) := Frows172.keep KB189 nin0
      have f193 : oF Z h189 b7 "entryRows" "[[I" (.ref er60) := FentryRows172.keep KB189 nin0
      have f194 : oF Z h189 b7 "entryValues" "[[D" (.ref ev60) := FentryValues172.keep KB189 nin0
      have f195 : oF Z h189 b7 "basis" "[I" .null := Fbasis172.keep KB189 nin0
      have f196 : oF Z h189 b7 "rhs" "[D" (.ref rh60) := Frhs172.keep KB189 nin0
      have f197 : oF Z h189 b7 "inverse" "[[D" .null := Finverse172.keep KB189 nin0
      have f198 : oF Z h189 b7 "primal" "[D" .null := Fprimal172.keep KB189 nin0
      have f199 : oF Z h189 b7 "pivotsSinceRefactor" "I" (.int 0) := FpivotsSinceRefactor172.keep KB189 nin0
      have f200 : oF Z h189 b7 "position" "[I" (.ref po60) := Fposition172.keep KB189 nin0
      have f201 : oF Z h189 b7 "infeasibility" "D" (.double 0) := Finfeasibility172.keep KB189 nin0
      have f202 : oF Z h189 b7 "start" "[I" .null := Fstart172.keep KB189 nin0
      have f203 : Exa Z h189 b7 "com/example/trunkwright/trunkwright/traffic/RevisedSimplex" := f173.keep KB189
      have f204 : Arv Z h189 po60 kpo60 .int (16 : Int32) (oZ (.int (-1)) (.int (-1)) (.int (-1))) (.int 0) := Vpo172.keep KB189 nin0
      have f205 : Arv Z h189 er60 ker60 (.array .int) (16 : Int32) (oU (.ref nr96) (.ref nr133) (.ref nr172)) .null := Ver172.keep KB189 nin0
      have f206 : Arv Z h189 ev60 kev60 (.array .double) (16 : Int32) (oU (.ref nv96) (.ref nv133) (.ref nv172)) .null := Vev172.keep KB189 nin0
      have f207 : Arv Z h189 nr96 k63 .int (1 : Int32) [(.int 0)] (.int 0) := f175.keep KB189 nin0
      have f208 : Arv Z h189 nr133 k100 .int (1 : Int32) [(.int 1)] (.int 0) := f177.keep KB189 nin0
      have f209 : Arv Z h189 nv96 k69 .double (1 : Int32) [(.double ak0)] (.double 0) := f176.keep KB189 nin0
      have f210 : Arv Z h189 nv133 k106 .double (1 : Int32) [(.double ak1)] (.double 0) := f178.keep KB189 nin0
      have f211 : Arv Z h189 rh60 k9 .double (2 : Int32) [(.double dp), (.double dq)] (.double 0) := f174.keep KB189 nin0
      obtain ⟨cq212, kq212, q212a, q212b, q212c⟩ := isOf hZ e189 f203
      obtain ⟨_, _, ⟨T212, L212, k212, n212⟩, -, X212, ⟨Lc212, hQ212, l212, y212, z212⟩, st212⟩ := X189.virtualBack hx (y := (oN "start" "([I)V")) (z := (oN "start" "([I)V")) hown (mvT hZ (oW hw 48 rfl)) (mvT hZ (oW hw 49 rfl)) (notFace_of_selects (args := #[]) (mvT hZ (oW hw 51 rfl))) (mvT hZ (oW hw 51 rfl)) (mvT hZ (oW hw 50 rfl)) (by decide) (backOf (W := 0) (rmStD l Z a0 hw [] b7 b182 po60 er60 ev60 nr96 nr133 nv96 nv133 rh60 _ _ _ _ _ _ _ _ _ (0 : Int32) (1 : Int32) (oU (.ref nr96) (.ref nr133) (.ref nr172)) (oU (.ref nv96) (.ref nv133) (.ref nv172)) (oZ (.int (-1)) (.int (-1)) (.int (-1))) _ _ _ _ _ _  h189 n0 Z189 f192 f193 f194 f195 f196 f197 f198 f199 f200 f201 f202 f203 V189 f190 f204 f205 f206 f207 f208 f209 f210 f211 (Ne.symm (Nat.ne_of_lt (Nat.lt_of_lt_of_le f173.lt szB_b182))) (Ne.symm ne_b7_po60) (Ne.symm ne_b7_er60) (Ne.symm ne_b7_ev60) (Ne.symm (Nat.ne_of_lt (Nat.lt_of_lt_of_le f61.lt szB_nr96))) (Ne.symm (Nat.ne_of_lt (Nat.lt_of_lt_of_le f97.lt szB_nr133))) (Ne.symm (Nat.ne_of_lt (Nat.lt_of_lt_of_le f61.lt szB_nv96))) (Ne.symm (Nat.ne_of_lt (Nat.lt_of_lt_of_le f97.lt szB_nv133))) (Ne.symm ne_b7_rh60) derpo60 devpo60 (Ne.symm (Nat.ne_of_lt (Nat.lt_of_lt_of_le Vpo60.lt szB_nr96))) (Ne.symm (Nat.ne_of_lt (Nat.lt_of_lt_of_le Vpo96.lt szB_nr133))) (Ne.symm (Nat.ne_of_lt (Nat.lt_of_lt_of_le Vpo60.lt szB_nv96))) (Ne.symm (Nat.ne_of_lt (Nat.lt_of_lt_of_le Vpo96.lt szB_nv133))) (Ne.symm dporh60) g_b7 g_po60 ⟨by decide, by decide⟩ rfl rfl (Nat.le_of_ble_eq_true rfl) sak0 sdp hyy0 ⟨by decide, by decide⟩ rfl rfl (Nat.le_of_ble_eq_true rfl) sak1 sdq hyy1) hZ (oW hw 52 rfl) (oW hw 3 rfl) (by decide) (by decide)) q212a q212c (g := (mkF m 228 #[oI p1, oI p2, oI p3, oI p4, oI p5, oI p6, oD dp, .second, oD dq, .second, oD ak0, .second, oD ak1, .second, oD ak2, .second, oR b7, oI 0, oI 1, oI 2, oI 0, oI 0, oI 0, oR b182, .unset, .unset, .unset, .unset, .unset, .unset] [(.ref b182), (.ref b7)])) rfl (by rw [hml]; rfl) (Steps.refl _) (argsL := [(.ref b182)]) (rest := []) (lenOf own_pd4 rfl) rfl oL (hb hby at_228) (fun _ _ => ⟨rfl, e189, (by decide : 20 + 9 ≤ _), (by decide : 96 + 18 ≤ _)⟩)
      dsimp only [Pt.U, Pt.locs, Pt.cells, Pt.slots] at X212 l212 y212 z212 st212 hQ212
      subst l212 y212 z212
      obtain ⟨rfl, Nq212, bp212, kp212, Kc212, Fa212, Fb212, Vc212, Vd212⟩ := hQ212
      have N212 := Fr.app N189 Nq212
      clear N189
      have R212 := fun t k => R191 t (st212.trans k)
      clear R191 st212 X189 e189
      have Z212 : n0 ≤ T212.heap.size := Nat.le_trans Z189 Kc212.1
      clear Z189
      have K212 : Keep h0 T212.heap [] := K189.trans Kc212 (allS (Or.inr sz_b7) (allS (Or.inr sz_po60) all0))
      clear K189
      have f213 : Exa Z T212.heap b7 "com/example/trunkwright/trunkwright/traffic/RevisedSimplex" := (f173.keep KB189).keep Kc212
      have Vp212 : Arv Z T212.heap po60 kpo60 .int (16 : Int32) (oZ (.int 0) (.int 1) (.int (-1))) (.int 0) := Vc212
      have R214 : ∀ t, oG p e below T212 m 273 #[oI p1, oI p2, oI p3, oI p4, oI p5, oI p6, oD dp, .second, oD dq, .second, oD ak0, .second, oD ak1, .second, oD ak2, .second, oR b7, oI 0, oI 1, oI 2, oI 0, oI 0, oI 0, oR b182, oD yy0, .second, oD yy1, .second, oD 0, .second] [(.int 0), (.ref b7)] t → Steps p.tables e below AA t := by
        intro t k
        refine R212 t ?_
        refine XS.iload X212.here hx rfl (hb hby at_231) rfl ?_
        refine XS.ifYes X212.here hx rfl (pc0 := 233) (pc' := 240) rfl (hb hby at_233) rfl ((if0 _ _).trans (teq (by decide : ((0 : Int32) = (0 : Int32)))).1) (by decide) (by decide) ?_
        refine XS.dload X212.here hx rfl (hb hby at_240) rfl ?_
        refine XS.dload X212.here hx rfl (hb hby at_242) rfl ?_
        refine XS.ddivS X212.here hx rfl (hb hby at_244) rfl (by rw [← hyy0]; exact own_NN nyy0) hyy0.symm ?_
        show oG p e below T212 m 245 #[oI p1, oI p2, oI p3, oI p4, oI p5, oI p6, oD dp, .second, oD dq, .second, oD ak0, .second, oD ak1, .second, oD ak2, .second, oR b7, oI 0, oI 1, oI 2, oI 0, oI 0, oI 0, oR b182, .unset, .unset, .unset, .unset, .unset, .unset] [(.double yy0)] _
        refine XS.dstore X212.here hx rfl (hb hby at_245) rfl (l' := #[oI p1, oI p2, oI p3, oI p4, oI p5, oI p6, oD dp, .second, oD dq, .second, oD ak0, .second, oD ak1, .second, oD ak2, .second, oR b7, oI 0, oI 1, oI 2, oI 0, oI 0, oI 0, oR b182, oD yy0, .second, .unset, .unset, .unset, .unset]) rfl ?_
        refine XS.dload X212.here hx rfl (hb hby at_247) rfl ?_
        refine XS.dload X212.here hx rfl (hb hby at_249) rfl ?_
        refine XS.ddivS X212.here hx rfl (hb hby at_251) rfl (by rw [← hyy1]; exact own_NN nyy1) hyy1.symm ?_
        refine XS.dstore X212.here hx rfl (hb hby at_252) rfl (l' := #[oI p1, oI p2, oI p3, oI p4, oI p5, oI p6, oD dp, .second, oD dq, .second, oD ak0, .second, oD ak1, .second, oD ak2, .second, oR b7, oI 0, oI 1, oI 2, oI 0, oI 0, oI 0, oR b182, oD yy0, .second, oD yy1, .second, .unset, .unset]) rfl ?_
        refine XS.iload X212.here hx rfl (hb hby at_254) rfl ?_
        show oG p e below T212 m 256 #[oI p1, oI p2, oI p3, oI p4, oI p5, oI p6, oD dp, .second, oD dq, .second, oD ak0, .second, oD ak1, .second, oD ak2, .second, oR b7, oI 0, oI 1, oI 2, oI 0, oI 0, oI 0, oR b182, oD yy0, .second, oD yy1, .second, .unset, .unset] [(.int 0)] _
        refine XS.ifYes X212.here hx rfl (pc0 := 256) (pc' := 267) rfl (hb hby at_256) rfl ((if0 _ _).trans (teq (by decide : ((0 : Int32) = (0 : Int32)))).1) (by decide) (by decide) ?_
        refine XS.dconst0 X212.here hx rfl (hb hby at_267) (v := (0 : UInt64)) (by decide +kernel) ?_
        refine XS.dstore X212.here hx rfl (hb hby at_268) rfl (l' := #[oI p1, oI p2, oI p3, oI p4, oI p5, oI p6, oD dp, .second, oD dq, .second, oD ak0, .second, oD ak1, .second, oD ak2, .second, oR b7, oI 0, oI 1, oI 2, oI 0, oI 0, oI 0, oR b182, oD yy0, .second, oD yy1, .second, oD 0, .second]) rfl ?_
        refine XS.aload X212.here hx rfl (hb hby at_270) rfl rfl ?_
        refine XS.iconst X212.here hx rfl (hb hby at_272) ?_
        exact k
      clear R212
      obtain ⟨cq215, kq215, q215a, q215b, q215c⟩ := isOf hZ rfl f213
      obtain ⟨_, _, ⟨T215, L215, k215, n215⟩, -, X215, ⟨Lc215, hQ215, l215, y215, z215⟩, st215⟩ := X212.virtualBack hx (y := (oN "value" "(I)D")) (z := (oN "value" "(I)D")) hown (mvT hZ (oW hw 85 rfl)) (mvT hZ (oW hw 86 rfl)) (notFace_of_selects (args := #[]) (mvT hZ (oW hw 88 rfl))) (mvT hZ (oW hw 88 rfl)) (mvT hZ (oW hw 87 rfl)) (by decide) (backOf (W := 0) (rmV00 l Z a0 hw [] b7 po60 bp212 _ _ (0 : Int32) (1 : Int32) (-1 : Int32) _ _  T212.heap n0 Z212 Fa212 Fb212 Vp212 Vd212) hZ (oW hw 89 rfl) (oW hw 3 rfl) (by decide) (by decide)) q215a q215c (g := (mkF m 273 #[oI p1, oI p2, oI p3, oI p4, oI p5, oI p6, oD dp, .second, oD dq, .second, oD ak0, .second, oD ak1, .second, oD ak2, .second, oR b7, oI 0, oI 1, oI 2, oI 0, oI 0, oI 0, oR b182, oD yy0, .second, oD yy1, .second, oD 0, .second] [(.int 0), (.ref b7)])) rfl (by rw [hml]; rfl) (Steps.refl _) (argsL := [(.int 0)]) (rest := []) (lenOf own_pd9 rfl) rfl oL (hb hby at_273) (fun _ _ => ⟨rfl, rfl, (by decide : 29 + 0 ≤ _), (by decide : 114 + 0 ≤ _)⟩)
      dsimp only [Pt.U, Pt.locs, Pt.cells, Pt.slots] at X215 l215 y215 z215 st215 hQ215
      subst l215 y215 z215
      obtain ⟨rfl, Nq215, eq215⟩ := hQ215
      have N215 := Fr.app N212 Nq215
      clear N212
      have R215 := fun t k => R214 t (st215.trans k)
      clear R214 st215 X212
      have R216 : ∀ t, oG p e below T215 m 285 #[oI p1, oI p2, oI p3, oI p4, oI p5, oI p6, oD dp, .second, oD dq, .second, oD ak0, .second, oD ak1, .second, oD ak2, .second, oR b7, oI 0, oI 1, oI 2, oI 0, oI 0, oI 0, oR b182, oD yy0, .second, oD yy1, .second, oD 0, .second] [(.int 1), (.ref b7)] t → Steps p.tables e below AA t := by
        intro t k
        refine R215 t ?_
        refine XS.dload X215.here hx rfl (hb hby at_276) rfl ?_
        refine XS.dcmpS X215.here hx rfl (hb hby at_278) rfl (own_self nyy0) ?_
        refine XS.ifNo X215.here hx rfl (hb hby at_279) rfl ((if0 _ _).trans (teq (by decide : ((0 : Int32) = (0 : Int32)))).2) ?_
        refine XS.aload X215.here hx rfl (hb hby at_282) rfl rfl ?_
        refine XS.iconst X215.here hx rfl (hb hby at_284) ?_
        exact k
      clear R215
      obtain ⟨cq217, kq217, q217a, q217b, q217c⟩ := isOf hZ eq215 f213
      obtain ⟨_, _, ⟨T217, L217, k217, n217⟩, -, X217, ⟨Lc217, hQ217, l217, y217, z217⟩, st217⟩ := X215.virtualBack hx (y := (oN "value" "(I)D")) (z := (oN "value" "(I)D")) hown (mvT hZ (oW hw 85 rfl)) (mvT hZ (oW hw 86 rfl)) (notFace_of_selects (args := #[]) (mvT hZ (oW hw 88 rfl))) (mvT hZ (oW hw 88 rfl)) (mvT hZ (oW hw 87 rfl)) (by decide) (backOf (W := 0) (rmV11 l Z a0 hw [] b7 po60 bp212 _ _ (0 : Int32) (1 : Int32) (-1 : Int32) _ _  T212.heap n0 Z212 Fa212 Fb212 Vp212 Vd212) hZ (oW hw 89 rfl) (oW hw 3 rfl) (by decide) (by decide)) q217a q217c (g := (mkF m 285 #[oI p1, oI p2, oI p3, oI p4, oI p5, oI p6, oD dp, .second, oD dq, .second, oD ak0, .second, oD ak1, .second, oD ak2, .second, oR b7, oI 0, oI 1, oI 2, oI 0, oI 0, oI 0, oR b182, oD yy0, .second, oD yy1, .second, oD 0, .second] [(.int 1), (.ref b7)])) rfl (by rw [hml]; rfl) (Steps.refl _) (argsL := [(.int 1)]) (rest := []) (lenOf own_pd9 rfl) rfl oL (hb hby at_285) (fun _ _ => ⟨rfl, eq215, (by decide : 29 + 0 ≤ _), (by decide : 114 + 0 ≤ _)⟩)
      dsimp only [Pt.U, Pt.locs, Pt.cells, Pt.slots] at X217 l217 y217 z217 st217 hQ217
      subst l217 y217 z217
      obtain ⟨rfl, Nq217, eq217⟩ := hQ217
      have N217 := Fr.app N215 Nq217
      clear N215
      have R217 := fun t k => R216 t (st217.trans k)
      clear R216 st217 X215 eq215
      have R218 : ∀ t, oG p e below T217 m 297 #[oI p1, oI p2, oI p3, oI p4, oI p5, oI p6, oD dp, .second, oD dq, .second, oD ak0, .second, oD ak1, .second, oD ak2, .second, oR b7, oI 0, oI 1, oI 2, oI 0, oI 0, oI 0, oR b182, oD yy0, .second, oD yy1, .second, oD 0, .second] [(.int 2), (.ref b7)] t → Steps p.tables e below AA t := by
        intro t k
        refine R217 t ?_
        refine XS.dload X217.here hx rfl (hb hby at_288) rfl ?_
        refine XS.dcmpS X217.here hx rfl (hb hby at_290) rfl (own_self nyy1) ?_
        refine XS.ifNo X217.here hx rfl (hb hby at_291) rfl ((if0 _ _).trans (teq (by decide : ((0 : Int32) = (0 : Int32)))).2) ?_
        refine XS.aload X217.here hx rfl (hb hby at_294) rfl rfl ?_
        refine XS.iconst X217.here hx rfl (hb hby at_296) ?_
        exact k
      clear R217
      obtain ⟨cq219, kq219, q219a, q219b, q219c⟩ := isOf hZ eq217 f213
      obtain ⟨_, _, ⟨T219, L219, k219, n219⟩, -, X219, ⟨Lc219, hQ219, l219, y219, z219⟩, st219⟩ := X217.virtualBack hx (y := (oN "value" "(I)D")) (z := (oN "value" "(I)D")) hown (mvT hZ (oW hw 85 rfl)) (mvT hZ (oW hw 86 rfl)) (notFace_of_selects (args := #[]) (mvT hZ (oW hw 88 rfl))) (mvT hZ (oW hw 88 rfl)) (mvT hZ (oW hw 87 rfl)) (by decide) (backOf (W := 0) (rmV2n l Z a0 hw [] b7 po60 bp212 _ _ (0 : Int32) (1 : Int32) (-1 : Int32) _ _  T212.heap n0 Z212 Fa212 Fb212 Vp212 Vd212) hZ (oW hw 89 rfl) (oW hw 3 rfl) (by decide) (by decide)) q219a q219c (g := (mkF m 297 #[oI p1, oI p2, oI p3, oI p4, oI p5, oI p6, oD dp, .second, oD dq, .second, oD ak0, .second, oD ak1, .second, oD ak2, .second, oR b7, oI 0, oI 1, oI 2, oI 0, oI 0, oI 0, oR b182, oD yy0, .second, oD yy1, .second, oD 0, .second] [(.int 2), (.ref b7)])) rfl (by rw [hml]; rfl) (Steps.refl _) (argsL := [(.int 2)]) (rest := []) (lenOf own_pd9 rfl) rfl oL (hb hby at_297) (fun _ _ => ⟨rfl, eq217, (by decide : 29 + 0 ≤ _), (by decide : 114 + 0 ≤ _)⟩)
      dsimp only [Pt.U, Pt.locs, Pt.cells, Pt.slots] at X219 l219 y219 z219 st219 hQ219
      subst l219 y219 z219
      obtain ⟨rfl, Nq219, eq219⟩ := hQ219
      have N219 := Fr.app N217 Nq219
      clear N217
      have R219 := fun t k => R218 t (st219.trans k)
      clear R218 st219 X217 eq217
      have R220 : ∀ t, oG p e below T219 m 311 #[oI p1, oI p2, oI p3, oI p4, oI p5, oI p6, oD dp, .second, oD dq, .second, oD ak0, .second, oD ak1, .second, oD ak2, .second, oR b7, oI 0, oI 1, oI 2, oI 0, oI 0, oI 0, oR b182, oD yy0, .second, oD yy1, .second, oD 0, .second] [(.int 1)] t → Steps p.tables e below AA t := by
        intro t k
        refine R219 t ?_
        refine XS.dload X219.here hx rfl (hb hby at_300) rfl ?_
        refine XS.dcmpS X219.here hx rfl (hb hby at_302) rfl own_00 ?_
        refine XS.ifNo X219.here hx rfl (hb hby at_303) rfl ((if0 _ _).trans (teq (by decide : ((0 : Int32) = (0 : Int32)))).2) ?_
        refine XS.iconst X219.here hx rfl (hb hby at_306) ?_
        refine XS.goto X219.here hx rfl (pc0 := 307) (pc' := 311) rfl (hb hby at_307) (by decide) (by decide) ?_
        exact k
      clear R219
      subst hAA
      obtain ⟨fs, hr, hrun, hended, hW, hsame⟩ := X219.leave (v := some (.int 1)) (fun h => by rw [Bd.returns] at h; cases h)
      refine ⟨_, _, R220 _ ?_, hrun, hended, _, _, rfl, ?_, ⟨_, rfl⟩, hW, hsame.mono (by decide) (by decide)⟩
      · exact retN X219 hx (t := .boolean) Bd.returns (by simp) (hb hby at_311) hr
      · show Q_rm0 Z p1 p2 p3 p4 p5 p6 h0 n0 _ T219.heap _
        rw [eq219]
        exact ⟨rfl, N219⟩
    · have R221 : ∀ t, oG p e below T172 m 190 #[oI p1, oI p2, oI p3, oI p4, oI p5, oI p6, oD dp, .second, oD dq, .second, oD ak0, .second, oD ak1, .second, oD ak2, .second, oR b7, oI 0, oI 1, oI 2, oI 0, oI 1, oI 0, .unset, .unset, .unset, .unset, .unset, .unset, .unset] [(.int 2)] t → Steps p.tables e below AA t := by
        intro t k
        refine R180 t ?_
        refine XS.ifNo X172.here hx rfl (hb hby at_167) rfl ((if0 _ _).trans (feq hs).1) ?_
        refine XS.iconst X172.here hx rfl (hb hby at_170) ?_
        refine XS.goto X172.here hx rfl (pc0 := 171) (pc' := 175) rfl (hb hby at_171) (by decide) (by decide) ?_
        refine XS.istore X172.here hx rfl (hb hby at_175) rfl (l' := #[oI p1, oI p2, oI p3, oI p4, oI p5, oI p6, oD dp, .second, oD dq, .second, oD ak0, .second, oD ak1, .second, oD ak2, .second, oR b7, oI 0, oI 1, oI 2, oI 0, oI 1, .unset, .unset, .unset, .unset, .unset, .unset, .unset, .unset]) rfl ?_
        refine XS.iload X172.here hx rfl (hb hby at_177) rfl ?_
        show oG p e below T172 m 179 #[oI p1, oI p2, oI p3, oI p4, oI p5, oI p6, oD dp, .second, oD dq, .second, oD ak0, .second, oD ak1, .second, oD ak2, .second, oR b7, oI 0, oI 1, oI 2, oI 0, oI 1, .unset, .unset, .unset, .unset, .unset, .unset, .unset, .unset] [(.int 0)] _
        refine XS.ifYes X172.here hx rfl (pc0 := 179) (pc' := 186) rfl (hb hby at_179) rfl ((if0 _ _).trans (teq (by decide : ((0 : Int32) = (0 : Int32)))).1) (by decide) (by decide) ?_
        refine XS.iconst X172.here hx rfl (hb hby at_186) ?_
        refine XS.istore X172.here hx rfl (hb hby at_187) rfl (l' := #[oI p1, oI p2, oI p3, oI p4, oI p5, oI p6, oD dp, .second, oD dq, .second, oD ak0, .second, oD ak1, .second, oD ak2, .second, oR b7, oI 0, oI 1, oI 2, oI 0, oI 1, oI 0, .unset, .unset, .unset, .unset, .unset, .unset, .unset]) rfl ?_
        refine XS.iconst X172.here hx rfl (hb hby at_189) ?_
        exact k
      clear R180
      obtain ⟨T222, h222, k222, X222, e222, E222, A222, B222, st222⟩ := newPE X172 hx hZ (oW hw 21 rfl) rfl (g := (mkF m 190 #[oI p1, oI p2, oI p3, oI p4, oI p5, oI p6, oD dp, .second, oD dq, .second, oD ak0, .second, oD ak1, .second, oD ak2, .second, oR b7, oI 0, oI 1, oI 2, oI 0, oI 1, oI 0, .unset, .unset, .unset, .unset, .unset, .unset, .unset] [(.int 2)])) rfl (hb hby at_190) rfl (by decide) (cap := 2) (by decide) (by decide) (by decide) (by decide) (ad := "[I") (by decide)
      obtain ⟨b222, g222⟩ : ∃ z, z = T172.heap.size := ⟨_, rfl⟩
      rw [← g222] at A222 B222 st222
      have R222 := fun t k => R221 t (st222 t k)
      clear R221 st222 X172
      have g_b222 : n0 ≤ b222 := Nat.le_trans Z172 (Nat.le_of_eq g222.symm)
      have sz_b222 : h0.size ≤ b222 := Nat.le_trans K172.1 (Nat.le_of_eq g222.symm)
      have szB_b222 : T172.heap.size ≤ b222 := Nat.le_trans (Keep.refl T172.heap []).1 (Nat.le_of_eq g222.symm)
      have KB222 := (Keep.refl T172.heap []).ext E222
      have Z222 : n0 ≤ h222.size := Nat.le_trans Z172 E222.1
      clear Z172
      have K222 : Keep h0 h222 [] := K172.ext E222
      clear K172
      clear E222
      have V222 : Arv Z h222 b222 k222 .int (2 : Int32) [(.int 0), (.int 0)] (.int 0) := (Arv.new A222 (by decide)).pad (pad_rep [] (.int 0) 2)
      have R223 : ∀ t, oG p e below T222 m 203 #[oI p1, oI p2, oI p3, oI p4, oI p5, oI p6, oD dp, .second, oD dq, .second, oD ak0, .second, oD ak1, .second, oD ak2, .second, oR b7, oI 0, oI 1, oI 2, oI 0, oI 1, oI 0, oR b222, .unset, .unset, .unset, .unset, .unset, .unset] [(.int 1), (.int 0), (.ref b222)] t → Steps p.tables e below AA t := by
        intro t k
        refine R222 t ?_
        refine XS.astore X222.here hx rfl (hb hby at_192) rfl rfl (l' := #[oI p1, oI p2, oI p3, oI p4, oI p5, oI p6, oD dp, .second, oD dq, .second, oD ak0, .second, oD ak1, .second, oD ak2, .second, oR b7, oI 0, oI 1, oI 2, oI 0, oI 1, oI 0, oR b222, .unset, .unset, .unset, .unset, .unset, .unset]) rfl ?_
        refine XS.iload X222.here hx rfl (hb hby at_194) rfl ?_
        refine XS.ifNo X222.here hx rfl (hb hby at_196) rfl ((if0 _ _).trans (feq (by decide : ¬ ((1 : Int32) = (0 : Int32)))).1) ?_
        refine XS.aload X222.here hx rfl (hb hby at_199) rfl rfl ?_
        refine XS.iconst X222.here hx rfl (hb hby at_201) ?_
        show oG p e below T222 m 202 #[oI p1, oI p2, oI p3, oI p4, oI p5, oI p6, oD dp, .second, oD dq, .second, oD ak0, .second, oD ak1, .second, oD ak2, .second, oR b7, oI 0, oI 1, oI 2, oI 0, oI 1, oI 0, oR b222, .unset, .unset, .unset, .unset, .unset, .unset] [(.int 0), (.ref b222)] _
        refine XS.iconst X222.here hx rfl (hb hby at_202) ?_
        exact k
      clear R222
      obtain ⟨cl224, Ar224, q224, S224, N224', H224, G224⟩ := id V222
      have hin224 : ¬ ((0 : Int32) < 0 ∨ cl224.slots.size ≤ ((0 : Int32)).toNatClampNeg) := inb_of S224 ⟨by decide, by decide⟩
      obtain ⟨T225, h225, X225, e225, W225, st225⟩ := stI X222 hx hZ e222 Ar224 (j := (0 : Int32)) hin224 (g := (mkF m 203 #[oI p1, oI p2, oI p3, oI p4, oI p5, oI p6, oD dp, .second, oD dq, .second, oD ak0, .second, oD ak1, .second, oD ak2, .second, oR b7, oI 0, oI 1, oI 2, oI 0, oI 1, oI 0, oR b222, .unset, .unset, .unset, .unset, .unset, .unset] [(.int 1), (.int 0), (.ref b222)])) rfl rfl (hb hby at_203)
      have R225 := fun t k => R223 t (st225 t k)
      clear R223 st225 X222 e222
      have Z225 : n0 ≤ h225.size := Nat.le_trans Z222 (Keep.of_wr W225).1
      clear Z222
      have KB225 := KB222.wr W225 (Or.inr szB_b222)
      have K225 : Keep h0 h225 [] := K222.wr W225 (Or.inr sz_b222)
      have N225 := Fr.snoc X225 N172 g_b222
      clear K222
      clear N172
      have f226 : Exa Z h225 b222 "[I" := B222.wr W225
      have V225 : Arv Z h225 b222 k222 .int (2 : Int32) [(.int 1), (.int 0)] (.int 0) := Arv.set Ar224 q224 S224 N224' H224 G224 rfl W225 0 rfl (Nat.le_of_ble_eq_true rfl)
      clear Ar224 q224 S224 N224' H224 G224 hin224 W225 V222
      have R227 : ∀ t, oG p e below T225 m 209 #[oI p1, oI p2, oI p3, oI p4, oI p5, oI p6, oD dp, .second, oD dq, .second, oD ak0, .second, oD ak1, .second, oD ak2, .second, oR b7, oI 0, oI 1, oI 2, oI 0, oI 1, oI 0, oR b222, .unset, .unset, .unset, .unset, .unset, .unset] [(.int 0), (.int 1), (.ref b222)] t → Steps p.tables e below AA t := by
        intro t k
        refine R225 t ?_
        refine XS.aload X225.here hx rfl (hb hby at_204) rfl rfl ?_
        refine XS.iconst X225.here hx rfl (hb hby at_206) ?_
        refine XS.iload X225.here hx rfl (hb hby at_207) rfl ?_
        exact k
      clear R225
      obtain ⟨cl228, Ar228, q228, S228, N228', H228, G228⟩ := id V225
      have hin228 : ¬ ((1 : Int32) < 0 ∨ cl228.slots.size ≤ ((1 : Int32)).toNatClampNeg) := inb_of S228 ⟨by decide, by decide⟩
      obtain ⟨T229, h229, X229, e229, W229, st229⟩ := stI X225 hx hZ e225 Ar228 (j := (1 : Int32)) hin228 (g := (mkF m 209 #[oI p1, oI p2, oI p3, oI p4, oI p5, oI p6, oD dp, .second, oD dq, .second, oD ak0, .second, oD ak1, .second, oD ak2, .second, oR b7, oI 0, oI 1, oI 2, oI 0, oI 1, oI 0, oR b222, .unset, .unset, .unset, .unset, .unset, .unset] [(.int 0), (.int 1), (.ref b222)])) rfl rfl (hb hby at_209)
      have R229 := fun t k => R227 t (st229 t k)
      clear R227 st229 X225 e225
      have Z229 : n0 ≤ h229.size := Nat.le_trans Z225 (Keep.of_wr W229).1
      clear Z225
      have KB229 := KB225.wr W229 (Or.inr szB_b222)
      have K229 : Keep h0 h229 [] := K225.wr W229 (Or.inr sz_b222)
      have N229 := Fr.snoc X229 N225 g_b222
      clear K225
      clear N225
      have f230 : Exa Z h229 b222 "[I" := f226.wr W229
      clear f226
      have V229 : Arv Z h229 b222 k222 .int (2 : Int32) [(.int 1), (.int 0)] (.int 0) := Arv.set Ar228 q228 S228 N228' H228 G228 rfl W229 1 rfl (Nat.le_of_ble_eq_true rfl)
      clear Ar228 q228 S228 N228' H228 G228 hin228 W229 V225
      have R231 : ∀ t, oG p e below T229 m 228 #[oI p1, oI p2, oI p3, oI p4, oI p5, oI p6, oD dp, .second, oD dq, .second, oD ak0, .second, oD ak1, .second, oD ak2, .second, oR b7, oI 0, oI 1, oI 2, oI 0, oI 1, oI 0, oR b222, .unset, .unset, .unset, .unset, .unset, .unset] [(.ref b222), (.ref b7)] t → Steps p.tables e below AA t := by
        intro t k
        refine R229 t ?_
        refine XS.goto X229.here hx rfl (pc0 := 210) (pc' := 224) rfl (hb hby at_210) (by decide) (by decide) ?_
        refine XS.aload X229.here hx rfl (hb hby at_224) rfl rfl ?_
        refine XS.aload X229.here hx rfl (hb hby at_226) rfl rfl ?_
        exact k
      clear R229
      have f232 : oF Z h229 b7 "rows" "I" (.int 2) := Frows172.keep KB229 nin0
      have f233 : oF Z h229 b7 "entryRows" "[[I" (.ref er60) := FentryRows172.keep KB229 nin0
      have f234 : oF Z h229 b7 "entryValues" "[[D" (.ref ev60) := FentryValues172.keep KB229 nin0
      have f235 : oF Z h229 b7 "basis" "[I" .null := Fbasis172.keep KB229 nin0
      have f236 : oF Z h229 b7 "rhs" "[D" (.ref rh60) := Frhs172.keep KB229 nin0
      have f237 : oF Z h229 b7 "inverse" "[[D" .null := Finverse172.keep KB229 nin0
      have f238 : oF Z h229 b7 "primal" "[D" .null := Fprimal172.keep KB229 nin0
      have f239 : oF Z h229 b7 "pivotsSinceRefactor" "I" (.int 0) := FpivotsSinceRefactor172.keep KB229 nin0
      have f240 : oF Z h229 b7 "position" "[I" (.ref po60) := Fposition172.keep KB229 nin0
      have f241 : oF Z h229 b7 "infeasibility" "D" (.double 0) := Finfeasibility172.keep KB229 nin0
      have f242 : oF Z h229 b7 "start" "[I" .null := Fstart172.keep KB229 nin0
      have f243 : Exa Z h229 b7 "com/example/trunkwright/trunkwright/traffic/RevisedSimplex" := f173.keep KB229
      have f244 : Arv Z h229 po60 kpo60 .int (16 : Int32) (oZ (.int (-1)) (.int (-1)) (.int (-1))) (.int 0) := Vpo172.keep KB229 nin0
      have f245 : Arv Z h229 er60 ker60 (.array .int) (16 : Int32) (oU (.ref nr96) (.ref nr133) (.ref nr172)) .null := Ver172.keep KB229 nin0
      have f246 : Arv Z h229 ev60 kev60 (.array .double) (16 : Int32) (oU (.ref nv96) (.ref nv133) (.ref nv172)) .null := Vev172.keep KB229 nin0
      have f247 : Arv Z h229 nr133 k100 .int (1 : Int32) [(.int 1)] (.int 0) := f177.keep KB229 nin0
      have f248 : Arv Z h229 nr96 k63 .int (1 : Int32) [(.int 0)] (.int 0) := f175.keep KB229 nin0
      have f249 : Arv Z h229 nv133 k106 .double (1 : Int32) [(.double ak1)] (.double 0) := f178.keep KB229 nin0
      have f250 : Arv Z h229 nv96 k69 .double (1 : Int32) [(.double ak0)] (.double 0) := f176.keep KB229 nin0
      have f251 : Arv Z h229 rh60 k9 .double (2 : Int32) [(.double dp), (.double dq)] (.double 0) := f174.keep KB229 nin0
      obtain ⟨cq252, kq252, q252a, q252b, q252c⟩ := isOf hZ e229 f243
      obtain ⟨_, _, ⟨T252, L252, k252, n252⟩, -, X252, ⟨Lc252, hQ252, l252, y252, z252⟩, st252⟩ := X229.virtualBack hx (y := (oN "start" "([I)V")) (z := (oN "start" "([I)V")) hown (mvT hZ (oW hw 48 rfl)) (mvT hZ (oW hw 49 rfl)) (notFace_of_selects (args := #[]) (mvT hZ (oW hw 51 rfl))) (mvT hZ (oW hw 51 rfl)) (mvT hZ (oW hw 50 rfl)) (by decide) (backOf (W := 0) (rmStA l Z a0 hw [] b7 b222 po60 er60 ev60 nr133 nr96 nv133 nv96 rh60 _ _ _ _ _ _ _ _ _ (1 : Int32) (0 : Int32) (oU (.ref nr96) (.ref nr133) (.ref nr172)) (oU (.ref nv96) (.ref nv133) (.ref nv172)) (oZ (.int (-1)) (.int (-1)) (.int (-1))) _ _ _ _ _ _  h229 n0 Z229 f232 f233 f234 f235 f236 f237 f238 f239 f240 f241 f242 f243 V229 f230 f244 f245 f246 f247 f248 f249 f250 f251 (Ne.symm (Nat.ne_of_lt (Nat.lt_of_lt_of_le f173.lt szB_b222))) (Ne.symm ne_b7_po60) (Ne.symm ne_b7_er60) (Ne.symm ne_b7_ev60) (Ne.symm (Nat.ne_of_lt (Nat.lt_of_lt_of_le f97.lt szB_nr133))) (Ne.symm (Nat.ne_of_lt (Nat.lt_of_lt_of_le f61.lt szB_nr96))) (Ne.symm (Nat.ne_of_lt (Nat.lt_of_lt_of_le f97.lt szB_nv133))) (Ne.symm (Nat.ne_of_lt (Nat.lt_of_lt_of_le f61.lt szB_nv96))) (Ne.symm ne_b7_rh60) derpo60 devpo60 (Ne.symm (Nat.ne_of_lt (Nat.lt_of_lt_of_le Vpo96.lt szB_nr133))) (Ne.symm (Nat.ne_of_lt (Nat.lt_of_lt_of_le Vpo60.lt szB_nr96))) (Ne.symm (Nat.ne_of_lt (Nat.lt_of_lt_of_le Vpo96.lt szB_nv133))) (Ne.symm (Nat.ne_of_lt (Nat.lt_of_lt_of_le Vpo60.lt szB_nv96))) (Ne.symm dporh60) g_b7 g_po60 ⟨by decide, by decide⟩ rfl rfl (Nat.le_of_ble_eq_true rfl) sak1 sdp hyy1 ⟨by decide, by decide⟩ rfl rfl (Nat.le_of_ble_eq_true rfl) sak0 sdq hyy0) hZ (oW hw 52 rfl) (oW hw 3 rfl) (by decide) (by decide)) q252a q252c (g := (mkF m 228 #[oI p1, oI p2, oI p3, oI p4, oI p5, oI p6, oD dp, .second, oD dq, .second, oD ak0, .second, oD ak1, .second, oD ak2, .second, oR b7, oI 0, oI 1, oI 2, oI 0, oI 1, oI 0, oR b222, .unset, .unset, .unset, .unset, .unset, .unset] [(.ref b222), (.ref b7)])) rfl (by rw [hml]; rfl) (Steps.refl _) (argsL := [(.ref b222)]) (rest := []) (lenOf own_pd4 rfl) rfl oL (hb hby at_228) (fun _ _ => ⟨rfl, e229, (by decide : 20 + 9 ≤ _), (by decide : 96 + 18 ≤ _)⟩)
      dsimp only [Pt.U, Pt.locs, Pt.cells, Pt.slots] at X252 l252 y252 z252 st252 hQ252
      subst l252 y252 z252
      obtain ⟨rfl, Nq252, bp252, kp252, Kc252, Fa252, Fb252, Vc252, Vd252⟩ := hQ252
      have N252 := Fr.app N229 Nq252
      clear N229
      have R252 := fun t k => R231 t (st252.trans k)
      clear R231 st252 X229 e229
      have Z252 : n0 ≤ T252.heap.size := Nat.le_trans Z229 Kc252.1
      clear Z229
      have K252 : Keep h0 T252.heap [] := K229.trans Kc252 (allS (Or.inr sz_b7) (allS (Or.inr sz_po60) all0))
      clear K229
      have f253 : Exa Z T252.heap b7 "com/example/trunkwright/trunkwright/traffic/RevisedSimplex" := (f173.keep KB229).keep Kc252
      have Vp252 : Arv Z T252.heap po60 kpo60 .int (16 : Int32) (oZ (.int 1) (.int 0) (.int (-1))) (.int 0) := Vc252
      have R254 : ∀ t, oG p e below T252 m 273 #[oI p1, oI p2, oI p3, oI p4, oI p5, oI p6, oD dp, .second, oD dq, .second, oD ak0, .second, oD ak1, .second, oD ak2, .second, oR b7, oI 0, oI 1, oI 2, oI 0, oI 1, oI 0, oR b222, oD yy0, .second, oD yy1, .second, oD 0, .second] [(.int 0), (.ref b7)] t → Steps p.tables e below AA t := by
        intro t k
        refine R252 t ?_
        refine XS.iload X252.here hx rfl (hb hby at_231) rfl ?_
        refine XS.ifYes X252.here hx rfl (pc0 := 233) (pc' := 240) rfl (hb hby at_233) rfl ((if0 _ _).trans (teq (by decide : ((0 : Int32) = (0 : Int32)))).1) (by decide) (by decide) ?_
        refine XS.dload X252.here hx rfl (hb hby at_240) rfl ?_
        refine XS.dload X252.here hx rfl (hb hby at_242) rfl ?_
        refine XS.ddivS X252.here hx rfl (hb hby at_244) rfl (by rw [← hyy0]; exact own_NN nyy0) hyy0.symm ?_
        show oG p e below T252 m 245 #[oI p1, oI p2, oI p3, oI p4, oI p5, oI p6, oD dp, .second, oD dq, .second, oD ak0, .second, oD ak1, .second, oD ak2, .second, oR b7, oI 0, oI 1, oI 2, oI 0, oI 1, oI 0, oR b222, .unset, .unset, .unset, .unset, .unset, .unset] [(.double yy0)] _
        refine XS.dstore X252.here hx rfl (hb hby at_245) rfl (l' := #[oI p1, oI p2, oI p3, oI p4, oI p5, oI p6, oD dp, .second, oD dq, .second, oD ak0, .second, oD ak1, .second, oD ak2, .second, oR b7, oI 0, oI 1, oI 2, oI 0, oI 1, oI 0, oR b222, oD yy0, .second, .unset, .unset, .unset, .unset]) rfl ?_
        refine XS.dload X252.here hx rfl (hb hby at_247) rfl ?_
        refine XS.dload X252.here hx rfl (hb hby at_249) rfl ?_
        refine XS.ddivS X252.here hx rfl (hb hby at_251) rfl (by rw [← hyy1]; exact own_NN nyy1) hyy1.symm ?_
        refine XS.dstore X252.here hx rfl (hb hby at_252) rfl (l' := #[oI p1, oI p2, oI p3, oI p4, oI p5, oI p6, oD dp, .second, oD dq, .second, oD ak0, .second, oD ak1, .second, oD ak2, .second, oR b7, oI 0, oI 1, oI 2, oI 0, oI 1, oI 0, oR b222, oD yy0, .second, oD yy1, .second, .unset, .unset]) rfl ?_
        refine XS.iload X252.here hx rfl (hb hby at_254) rfl ?_
        show oG p e below T252 m 256 #[oI p1, oI p2, oI p3, oI p4, oI p5, oI p6, oD dp, .second, oD dq, .second, oD ak0, .second, oD ak1, .second, oD ak2, .second, oR b7, oI 0, oI 1, oI 2, oI 0, oI 1, oI 0, oR b222, oD yy0, .second, oD yy1, .second, .unset, .unset] [(.int 0)] _
        refine XS.ifYes X252.here hx rfl (pc0 := 256) (pc' := 267) rfl (hb hby at_256) rfl ((if0 _ _).trans (teq (by decide : ((0 : Int32) = (0 : Int32)))).1) (by decide) (by decide) ?_
        refine XS.dconst0 X252.here hx rfl (hb hby at_267) (v := (0 : UInt64)) (by decide +kernel) ?_
        refine XS.dstore X252.here hx rfl (hb hby at_268) rfl (l' := #[oI p1, oI p2, oI p3, oI p4, oI p5, oI p6, oD dp, .second, oD dq, .second, oD ak0, .second, oD ak1, .second, oD ak2, .second, oR b7, oI 0, oI 1, oI 2, oI 0, oI 1, oI 0, oR b222, oD yy0, .second, oD yy1, .second, oD 0, .second]) rfl ?_
        refine XS.aload X252.here hx rfl (hb hby at_270) rfl rfl ?_
        refine XS.iconst X252.here hx rfl (hb hby at_272) ?_
        exact k
      clear R252
      obtain ⟨cq255, kq255, q255a, q255b, q255c⟩ := isOf hZ rfl f253
      obtain ⟨_, _, ⟨T255, L255, k255, n255⟩, -, X255, ⟨Lc255, hQ255, l255, y255, z255⟩, st255⟩ := X252.virtualBack hx (y := (oN "value" "(I)D")) (z := (oN "value" "(I)D")) hown (mvT hZ (oW hw 85 rfl)) (mvT hZ (oW hw 86 rfl)) (notFace_of_selects (args := #[]) (mvT hZ (oW hw 88 rfl))) (mvT hZ (oW hw 88 rfl)) (mvT hZ (oW hw 87 rfl)) (by decide) (backOf (W := 0) (rmV01 l Z a0 hw [] b7 po60 bp252 _ _ (1 : Int32) (0 : Int32) (-1 : Int32) _ _  T252.heap n0 Z252 Fa252 Fb252 Vp252 Vd252) hZ (oW hw 89 rfl) (oW hw 3 rfl) (by decide) (by decide)) q255a q255c (g := (mkF m 273 #[oI p1, oI p2, oI p3, oI p4, oI p5, oI p6, oD dp, .second, oD dq, .second, oD ak0, .second, oD ak1, .second, oD ak2, .second, oR b7, oI 0, oI 1, oI 2, oI 0, oI 1, oI 0, oR b222, oD yy0, .second, oD yy1, .second, oD 0, .second] [(.int 0), (.ref b7)])) rfl (by rw [hml]; rfl) (Steps.refl _) (argsL := [(.int 0)]) (rest := []) (lenOf own_pd9 rfl) rfl oL (hb hby at_273) (fun _ _ => ⟨rfl, rfl, (by decide : 29 + 0 ≤ _), (by decide : 114 + 0 ≤ _)⟩)
      dsimp only [Pt.U, Pt.locs, Pt.cells, Pt.slots] at X255 l255 y255 z255 st255 hQ255
      subst l255 y255 z255
      obtain ⟨rfl, Nq255, eq255⟩ := hQ255
      have N255 := Fr.app N252 Nq255
      clear N252
      have R255 := fun t k => R254 t (st255.trans k)
      clear R254 st255 X252
      have R256 : ∀ t, oG p e below T255 m 285 #[oI p1, oI p2, oI p3, oI p4, oI p5, oI p6, oD dp, .second, oD dq, .second, oD ak0, .second, oD ak1, .second, oD ak2, .second, oR b7, oI 0, oI 1, oI 2, oI 0, oI 1, oI 0, oR b222, oD yy0, .second, oD yy1, .second, oD 0, .second] [(.int 1), (.ref b7)] t → Steps p.tables e below AA t := by
        intro t k
        refine R255 t ?_
        refine XS.dload X255.here hx rfl (hb hby at_276) rfl ?_
        refine XS.dcmpS X255.here hx rfl (hb hby at_278) rfl (own_self nyy0) ?_
        refine XS.ifNo X255.here hx rfl (hb hby at_279) rfl ((if0 _ _).trans (teq (by decide : ((0 : Int32) = (0 : Int32)))).2) ?_
        refine XS.aload X255.here hx rfl (hb hby at_282) rfl rfl ?_
        refine XS.iconst X255.here hx rfl (hb hby at_284) ?_
        exact k
      clear R255
      obtain ⟨cq257, kq257, q257a, q257b, q257c⟩ := isOf hZ eq255 f253
      obtain ⟨_, _, ⟨T257, L257, k257, n257⟩, -, X257, ⟨Lc257, hQ257, l257, y257, z257⟩, st257⟩ := X255.virtualBack hx (y := (oN "value" "(I)D")) (z := (oN "value" "(I)D")) hown (mvT hZ (oW hw 85 rfl)) (mvT hZ (oW hw 86 rfl)) (notFace_of_selects (args := #[]) (mvT hZ (oW hw 88 rfl))) (mvT hZ (oW hw 88 rfl)) (mvT hZ (oW hw 87 rfl)) (by decide) (backOf (W := 0) (rmV10 l Z a0 hw [] b7 po60 bp252 _ _ (1 : Int32) (0 : Int32) (-1 : Int32) _ _  T252.heap n0 Z252 Fa252 Fb252 Vp252 Vd252) hZ (oW hw 89 rfl) (oW hw 3 rfl) (by decide) (by decide)) q257a q257c (g := (mkF m 285 #[oI p1, oI p2, oI p3, oI p4, oI p5, oI p6, oD dp, .second, oD dq, .second, oD ak0, .second, oD ak1, .second, oD ak2, .second, oR b7, oI 0, oI 1, oI 2, oI 0, oI 1, oI 0, oR b222, oD yy0, .second, oD yy1, .second, oD 0, .second] [(.int 1), (.ref b7)])) rfl (by rw [hml]; rfl) (Steps.refl _) (argsL := [(.int 1)]) (rest := []) (lenOf own_pd9 rfl) rfl oL (hb hby at_285) (fun _ _ => ⟨rfl, eq255, (by decide : 29 + 0 ≤ _), (by decide : 114 + 0 ≤ _)⟩)
      dsimp only [Pt.U, Pt.locs, Pt.cells, Pt.slots] at X257 l257 y257 z257 st257 hQ257
      subst l257 y257 z257
      obtain ⟨rfl, Nq257, eq257⟩ := hQ257
      have N257 := Fr.app N255 Nq257
      clear N255
      have R257 := fun t k => R256 t (st257.trans k)
      clear R256 st257 X255 eq255
      have R258 : ∀ t, oG p e below T257 m 297 #[oI p1, oI p2, oI p3, oI p4, oI p5, oI p6, oD dp, .second, oD dq, .second, oD ak0, .second, oD ak1, .second, oD ak2, .second, oR b7, oI 0, oI 1, oI 2, oI 0, oI 1, oI 0, oR b222, oD yy0, .second, oD yy1, .second, oD 0, .second] [(.int 2), (.ref b7)] t → Steps p.tables e below AA t := by
        intro t k
        refine R257 t ?_
        refine XS.dload X257.here hx rfl (hb hby at_288) rfl ?_
        refine XS.dcmpS X257.here hx rfl (hb hby at_290) rfl (own_self nyy1) ?_
        refine XS.ifNo X257.here hx rfl (hb hby at_291) rfl ((if0 _ _).trans (teq (by decide : ((0 : Int32) = (0 : Int32)))).2) ?_
        refine XS.aload X257.here hx rfl (hb hby at_294) rfl rfl ?_
        refine XS.iconst X257.here hx rfl (hb hby at_296) ?_
        exact k
      clear R257
      obtain ⟨cq259, kq259, q259a, q259b, q259c⟩ := isOf hZ eq257 f253
      obtain ⟨_, _, ⟨T259, L259, k259, n259⟩, -, X259, ⟨Lc259, hQ259, l259, y259, z259⟩, st259⟩ := X257.virtualBack hx (y := (oN "value" "(I)D")) (z := (oN "value" "(I)D")) hown (mvT hZ (oW hw 85 rfl)) (mvT hZ (oW hw 86 rfl)) (notFace_of_selects (args := #[]) (mvT hZ (oW hw 88 rfl))) (mvT hZ (oW hw 88 rfl)) (mvT hZ (oW hw 87 rfl)) (by decide) (backOf (W := 0) (rmV2n l Z a0 hw [] b7 po60 bp252 _ _ (1 : Int32) (0 : Int32) (-1 : Int32) _ _  T252.heap n0 Z252 Fa252 Fb252 Vp252 Vd252) hZ (oW hw 89 rfl) (oW hw 3 rfl) (by decide) (by decide)) q259a q259c (g := (mkF m 297 #[oI p1, oI p2, oI p3, oI p4, oI p5, oI p6, oD dp, .second, oD dq, .second, oD ak0, .second, oD ak1, .second, oD ak2, .second, oR b7, oI 0, oI 1, oI 2, oI 0, oI 1, oI 0, oR b222, oD yy0, .second, oD yy1, .second, oD 0, .second] [(.int 2), (.ref b7)])) rfl (by rw [hml]; rfl) (Steps.refl _) (argsL := [(.int 2)]) (rest := []) (lenOf own_pd9 rfl) rfl oL (hb hby at_297) (fun _ _ => ⟨rfl, eq257, (by decide : 29 + 0 ≤ _), (by decide : 114 + 0 ≤ _)⟩)
      dsimp only [Pt.U, Pt.locs, Pt.cells, Pt.slots] at X259 l259 y259 z259 st259 hQ259
      subst l259 y259 z259
      obtain ⟨rfl, Nq259, eq259⟩ := hQ259
      have N259 := Fr.app N257 Nq259
      clear N257
      have R259 := fun t k => R258 t (st259.trans k)
      clear R258 st259 X257 eq257
      have R260 : ∀ t, oG p e below T259 m 311 #[oI p1, oI p2, oI p3, oI p4, oI p5, oI p6, oD dp, .second, oD dq, .second, oD ak0, .second, oD ak1, .second, oD ak2, .second, oR b7, oI 0, oI 1, oI 2, oI 0, oI 1, oI 0, oR b222, oD yy0, .second, oD yy1, .second, oD 0, .second] [(.int 1)] t → Steps p.tables e below AA t := by
        intro t k
        refine R259 t ?_
        refine XS.dload X259.here hx rfl (hb hby at_300) rfl ?_
        refine XS.dcmpS X259.here hx rfl (hb hby at_302) rfl own_00 ?_
        refine XS.ifNo X259.here hx rfl (hb hby at_303) rfl ((if0 _ _).trans (teq (by decide : ((0 : Int32) = (0 : Int32)))).2) ?_
        refine XS.iconst X259.here hx rfl (hb hby at_306) ?_
        refine XS.goto X259.here hx rfl (pc0 := 307) (pc' := 311) rfl (hb hby at_307) (by decide) (by decide) ?_
        exact k
      clear R259
      subst hAA
      obtain ⟨fs, hr, hrun, hended, hW, hsame⟩ := X259.leave (v := some (.int 1)) (fun h => by rw [Bd.returns] at h; cases h)
      refine ⟨_, _, R260 _ ?_, hrun, hended, _, _, rfl, ?_, ⟨_, rfl⟩, hW, hsame.mono (by decide) (by decide)⟩
      · exact retN X259 hx (t := .boolean) Bd.returns (by simp) (hb hby at_311) hr
      · show Q_rm0 Z p1 p2 p3 p4 p5 p6 h0 n0 _ T259.heap _
        rw [eq259]
        exact ⟨rfl, N259⟩
  · have R261 : ∀ t, oG p e below T172 m 167 #[oI p1, oI p2, oI p3, oI p4, oI p5, oI p6, oD dp, .second, oD dq, .second, oD ak0, .second, oD ak1, .second, oD ak2, .second, oR b7, oI 0, oI 1, oI 2, oI 1, .unset, .unset, .unset, .unset, .unset, .unset, .unset, .unset, .unset] [(.int (p6 &&& (2 : Int32)))] t → Steps p.tables e below AA t := by
      intro t k
      refine R179 t ?_
      refine XS.ifNo X172.here hx rfl (hb hby at_153) rfl ((if0 _ _).trans (feq hu).1) ?_
      refine XS.iconst X172.here hx rfl (hb hby at_156) ?_
      refine XS.goto X172.here hx rfl (pc0 := 157) (pc' := 161) rfl (hb hby at_157) (by decide) (by decide) ?_
      refine XS.istore X172.here hx rfl (hb hby at_161) rfl (l' := #[oI p1, oI p2, oI p3, oI p4, oI p5, oI p6, oD dp, .second, oD dq, .second, oD ak0, .second, oD ak1, .second, oD ak2, .second, oR b7, oI 0, oI 1, oI 2, oI 1, .unset, .unset, .unset, .unset, .unset, .unset, .unset, .unset, .unset]) rfl ?_
      refine XS.iload X172.here hx rfl (hb hby at_163) rfl ?_
      show oG p e below T172 m 165 #[oI p1, oI p2, oI p3, oI p4, oI p5, oI p6, oD dp, .second, oD dq, .second, oD ak0, .second, oD ak1, .second, oD ak2, .second, oR b7, oI 0, oI 1, oI 2, oI 1, .unset, .unset, .unset, .unset, .unset, .unset, .unset, .unset, .unset] [(.int p6)] _
      refine XS.iconst X172.here hx rfl (hb hby at_165) ?_
      refine XS.iand X172.here hx rfl (hb hby at_166) rfl ?_
      exact k
    clear R179
    by_cases hs : (p6 &&& (2 : Int32)) = (0 : Int32)
    · have R262 : ∀ t, oG p e below T172 m 190 #[oI p1, oI p2, oI p3, oI p4, oI p5, oI p6, oD dp, .second, oD dq, .second, oD ak0, .second, oD ak1, .second, oD ak2, .second, oR b7, oI 0, oI 1, oI 2, oI 1, oI 0, oI 2, .unset, .unset, .unset, .unset, .unset, .unset, .unset] [(.int 2)] t → Steps p.tables e below AA t := by
        intro t k
        refine R261 t ?_
        refine XS.ifYes X172.here hx rfl (pc0 := 167) (pc' := 174) rfl (hb hby at_167) rfl ((if0 _ _).trans (teq hs).1) (by decide) (by decide) ?_
        refine XS.iconst X172.here hx rfl (hb hby at_174) ?_
        refine XS.istore X172.here hx rfl (hb hby at_175) rfl (l' := #[oI p1, oI p2, oI p3, oI p4, oI p5, oI p6, oD dp, .second, oD dq, .second, oD ak0, .second, oD ak1, .second, oD ak2, .second, oR b7, oI 0, oI 1, oI 2, oI 1, oI 0, .unset, .unset, .unset, .unset, .unset, .unset, .unset, .unset]) rfl ?_
        refine XS.iload X172.here hx rfl (hb hby at_177) rfl ?_
        refine XS.ifNo X172.here hx rfl (hb hby at_179) rfl ((if0 _ _).trans (feq (by decide : ¬ ((1 : Int32) = (0 : Int32)))).1) ?_
        show oG p e below T172 m 182 #[oI p1, oI p2, oI p3, oI p4, oI p5, oI p6, oD dp, .second, oD dq, .second, oD ak0, .second, oD ak1, .second, oD ak2, .second, oR b7, oI 0, oI 1, oI 2, oI 1, oI 0, .unset, .unset, .unset, .unset, .unset, .unset, .unset, .unset] [] _
        refine XS.iconst X172.here hx rfl (hb hby at_182) ?_
        refine XS.goto X172.here hx rfl (pc0 := 183) (pc' := 187) rfl (hb hby at_183) (by decide) (by decide) ?_
        refine XS.istore X172.here hx rfl (hb hby at_187) rfl (l' := #[oI p1, oI p2, oI p3, oI p4, oI p5, oI p6, oD dp, .second, oD dq, .second, oD ak0, .second, oD ak1, .second, oD ak2, .second, oR b7, oI 0, oI 1, oI 2, oI 1, oI 0, oI 2, .unset, .unset, .unset, .unset, .unset, .unset, .unset]) rfl ?_
        refine XS.iconst X172.here hx rfl (hb hby at_189) ?_
        exact k
      clear R261
      obtain ⟨T263, h263, k263, X263, e263, E263, A263, B263, st263⟩ := newPE X172 hx hZ (oW hw 21 rfl) rfl (g := (mkF m 190 #[oI p1, oI p2, oI p3, oI p4, oI p5, oI p6, oD dp, .second, oD dq, .second, oD ak0, .second, oD ak1, .second, oD ak2, .second, oR b7, oI 0, oI 1, oI 2, oI 1, oI 0, oI 2, .unset, .unset, .unset, .unset, .unset, .unset, .unset] [(.int 2)])) rfl (hb hby at_190) rfl (by decide) (cap := 2) (by decide) (by decide) (by decide) (by decide) (ad := "[I") (by decide)
      obtain ⟨b263, g263⟩ : ∃ z, z = T172.heap.size := ⟨_, rfl⟩
      rw [← g263] at A263 B263 st263
      have R263 := fun t k => R262 t (st263 t k)
      clear R262 st263 X172
      have g_b263 : n0 ≤ b263 := Nat.le_trans Z172 (Nat.le_of_eq g263.symm)
      have sz_b263 : h0.size ≤ b263 := Nat.le_trans K172.1 (Nat.le_of_eq g263.symm)
      have szB_b263 : T172.heap.size ≤ b263 := Nat.le_trans (Keep.refl T172.heap []).1 (Nat.le_of_eq g263.symm)
      have KB263 := (Keep.refl T172.heap []).ext E263
      have Z263 : n0 ≤ h263.size := Nat.le_trans Z172 E263.1
      clear Z172
      have K263 : Keep h0 h263 [] := K172.ext E263
      clear K172
      clear E263
      have V263 : Arv Z h263 b263 k263 .int (2 : Int32) [(.int 0), (.int 0)] (.int 0) := (Arv.new A263 (by decide)).pad (pad_rep [] (.int 0) 2)
      have R264 : ∀ t, oG p e below T263 m 218 #[oI p1, oI p2, oI p3, oI p4, oI p5, oI p6, oD dp, .second, oD dq, .second, oD ak0, .second, oD ak1, .second, oD ak2, .second, oR b7, oI 0, oI 1, oI 2, oI 1, oI 0, oI 2, oR b263, .unset, .unset, .unset, .unset, .unset, .unset] [(.int 2), (.int 0), (.ref b263)] t → Steps p.tables e below AA t := by
        intro t k
        refine R263 t ?_
        refine XS.astore X263.here hx rfl (hb hby at_192) rfl rfl (l' := #[oI p1, oI p2, oI p3, oI p4, oI p5, oI p6, oD dp, .second, oD dq, .second, oD ak0, .second, oD ak1, .second, oD ak2, .second, oR b7, oI 0, oI 1, oI 2, oI 1, oI 0, oI 2, oR b263, .unset, .unset, .unset, .unset, .unset, .unset]) rfl ?_
        refine XS.iload X263.here hx rfl (hb hby at_194) rfl ?_
        refine XS.ifYes X263.here hx rfl (pc0 := 196) (pc' := 213) rfl (hb hby at_196) rfl ((if0 _ _).trans (teq (by decide : ((0 : Int32) = (0 : Int32)))).1) (by decide) (by decide) ?_
        refine XS.aload X263.here hx rfl (hb hby at_213) rfl rfl ?_
        refine XS.iconst X263.here hx rfl (hb hby at_215) ?_
        show oG p e below T263 m 216 #[oI p1, oI p2, oI p3, oI p4, oI p5, oI p6, oD dp, .second, oD dq, .second, oD ak0, .second, oD ak1, .second, oD ak2, .second, oR b7, oI 0, oI 1, oI 2, oI 1, oI 0, oI 2, oR b263, .unset, .unset, .unset, .unset, .unset, .unset] [(.int 0), (.ref b263)] _
        refine XS.iload X263.here hx rfl (hb hby at_216) rfl ?_
        exact k
      clear R263
      obtain ⟨cl265, Ar265, q265, S265, N265', H265, G265⟩ := id V263
      have hin265 : ¬ ((0 : Int32) < 0 ∨ cl265.slots.size ≤ ((0 : Int32)).toNatClampNeg) := inb_of S265 ⟨by decide, by decide⟩
      obtain ⟨T266, h266, X266, e266, W266, st266⟩ := stI X263 hx hZ e263 Ar265 (j := (0 : Int32)) hin265 (g := (mkF m 218 #[oI p1, oI p2, oI p3, oI p4, oI p5, oI p6, oD dp, .second, oD dq, .second, oD ak0, .second, oD ak1, .second, oD ak2, .second, oR b7, oI 0, oI 1, oI 2, oI 1, oI 0, oI 2, oR b263, .unset, .unset, .unset, .unset, .unset, .unset] [(.int 2), (.int 0), (.ref b263)])) rfl rfl (hb hby at_218)
      have R266 := fun t k => R264 t (st266 t k)
      clear R264 st266 X263 e263
      have Z266 : n0 ≤ h266.size := Nat.le_trans Z263 (Keep.of_wr W266).1
      clear Z263
      have KB266 := KB263.wr W266 (Or.inr szB_b263)
      have K266 : Keep h0 h266 [] := K263.wr W266 (Or.inr sz_b263)
      have N266 := Fr.snoc X266 N172 g_b263
      clear K263
      clear N172
      have f267 : Exa Z h266 b263 "[I" := B263.wr W266
      have V266 : Arv Z h266 b263 k263 .int (2 : Int32) [(.int 2), (.int 0)] (.int 0) := Arv.set Ar265 q265 S265 N265' H265 G265 rfl W266 0 rfl (Nat.le_of_ble_eq_true rfl)
      clear Ar265 q265 S265 N265' H265 G265 hin265 W266 V263
      have R268 : ∀ t, oG p e below T266 m 223 #[oI p1, oI p2, oI p3, oI p4, oI p5, oI p6, oD dp, .second, oD dq, .second, oD ak0, .second, oD ak1, .second, oD ak2, .second, oR b7, oI 0, oI 1, oI 2, oI 1, oI 0, oI 2, oR b263, .unset, .unset, .unset, .unset, .unset, .unset] [(.int 1), (.int 1), (.ref b263)] t → Steps p.tables e below AA t := by
        intro t k
        refine R266 t ?_
        refine XS.aload X266.here hx rfl (hb hby at_219) rfl rfl ?_
        refine XS.iconst X266.here hx rfl (hb hby at_221) ?_
        refine XS.iconst X266.here hx rfl (hb hby at_222) ?_
        exact k
      clear R266
      obtain ⟨cl269, Ar269, q269, S269, N269', H269, G269⟩ := id V266
      have hin269 : ¬ ((1 : Int32) < 0 ∨ cl269.slots.size ≤ ((1 : Int32)).toNatClampNeg) := inb_of S269 ⟨by decide, by decide⟩
      obtain ⟨T270, h270, X270, e270, W270, st270⟩ := stI X266 hx hZ e266 Ar269 (j := (1 : Int32)) hin269 (g := (mkF m 223 #[oI p1, oI p2, oI p3, oI p4, oI p5, oI p6, oD dp, .second, oD dq, .second, oD ak0, .second, oD ak1, .second, oD ak2, .second, oR b7, oI 0, oI 1, oI 2, oI 1, oI 0, oI 2, oR b263, .unset, .unset, .unset, .unset, .unset, .unset] [(.int 1), (.int 1), (.ref b263)])) rfl rfl (hb hby at_223)
      have R270 := fun t k => R268 t (st270 t k)
      clear R268 st270 X266 e266
      have Z270 : n0 ≤ h270.size := Nat.le_trans Z266 (Keep.of_wr W270).1
      clear Z266
      have KB270 := KB266.wr W270 (Or.inr szB_b263)
      have K270 : Keep h0 h270 [] := K266.wr W270 (Or.inr sz_b263)
      have N270 := Fr.snoc X270 N266 g_b263
      clear K266
      clear N266
      have f271 : Exa Z h270 b263 "[I" := f267.wr W270
      clear f267
      have V270 : Arv Z h270 b263 k263 .int (2 : Int32) [(.int 2), (.int 1)] (.int 0) := Arv.set Ar269 q269 S269 N269' H269 G269 rfl W270 1 rfl (Nat.le_of_ble_eq_true rfl)
      clear Ar269 q269 S269 N269' H269 G269 hin269 W270 V266
      have R272 : ∀ t, oG p e below T270 m 228 #[oI p1, oI p2, oI p3, oI p4, oI p5, oI p6, oD dp, .second, oD dq, .second, oD ak0, .second, oD ak1, .second, oD ak2, .second, oR b7, oI 0, oI 1, oI 2, oI 1, oI 0, oI 2, oR b263, .unset, .unset, .unset, .unset, .unset, .unset] [(.ref b263), (.ref b7)] t → Steps p.tables e below AA t := by
        intro t k
        refine R270 t ?_
        refine XS.aload X270.here hx rfl (hb hby at_224) rfl rfl ?_
        refine XS.aload X270.here hx rfl (hb hby at_226) rfl rfl ?_
        exact k
      clear R270
      have f273 : oF Z h270 b7 "rows" "I" (.int 2) := Frows172.keep KB270 nin0
      have f274 : oF Z h270 b7 "entryRows" "[[I" (.ref er60) := FentryRows172.keep KB270 nin0
      have f275 : oF Z h270 b7 "entryValues" "[[D" (.ref ev60) := FentryValues172.keep KB270 nin0
      have f276 : oF Z h270 b7 "basis" "[I" .null := Fbasis172.keep KB270 nin0
      have f277 : oF Z h270 b7 "rhs" "[D" (.ref rh60) := Frhs172.keep KB270 nin0
      have f278 : oF Z h270 b7 "inverse" "[[D" .null := Finverse172.keep KB270 nin0
      have f279 : oF Z h270 b7 "primal" "[D" .null := Fprimal172.keep KB270 nin0
      have f280 : oF Z h270 b7 "pivotsSinceRefactor" "I" (.int 0) := FpivotsSinceRefactor172.keep KB270 nin0
      have f281 : oF Z h270 b7 "position" "[I" (.ref po60) := Fposition172.keep KB270 nin0
      have f282 : oF Z h270 b7 "infeasibility" "D" (.double 0) := Finfeasibility172.keep KB270 nin0
      have f283 : oF Z h270 b7 "start" "[I" .null := Fstart172.keep KB270 nin0
      have f284 : Exa Z h270 b7 "com/example/trunkwright/trunkwright/traffic/RevisedSimplex" := f173.keep KB270
      have f285 : Arv Z h270 po60 kpo60 .int (16 : Int32) (oZ (.int (-1)) (.int (-1)) (.int (-1))) (.int 0) := Vpo172.keep KB270 nin0
      have f286 : Arv Z h270 er60 ker60 (.array .int) (16 : Int32) (oU (.ref nr96) (.ref nr133) (.ref nr172)) .null := Ver172.keep KB270 nin0
      have f287 : Arv Z h270 ev60 kev60 (.array .double) (16 : Int32) (oU (.ref nv96) (.ref nv133) (.ref nv172)) .null := Vev172.keep KB270 nin0
      have f288 : Arv Z h270 nr172 k139 .int (1 : Int32) [(.int 0)] (.int 0) := Vnr172.keep KB270 nin0
      have f289 : Arv Z h270 nr133 k100 .int (1 : Int32) [(.int 1)] (.int 0) := f177.keep KB270 nin0
      have f290 : Arv Z h270 nv172 k145 .double (1 : Int32) [(.double ak2)] (.double 0) := Vnv172.keep KB270 nin0
      have f291 : Arv Z h270 nv133 k106 .double (1 : Int32) [(.double ak1)] (.double 0) := f178.keep KB270 nin0
      have f292 : Arv Z h270 rh60 k9 .double (2 : Int32) [(.double dp), (.double dq)] (.double 0) := f174.keep KB270 nin0
      obtain ⟨cq293, kq293, q293a, q293b, q293c⟩ := isOf hZ e270 f284
      obtain ⟨_, _, ⟨T293, L293, k293, n293⟩, -, X293, ⟨Lc293, hQ293, l293, y293, z293⟩, st293⟩ := X270.virtualBack hx (y := (oN "start" "([I)V")) (z := (oN "start" "([I)V")) hown (mvT hZ (oW hw 48 rfl)) (mvT hZ (oW hw 49 rfl)) (notFace_of_selects (args := #[]) (mvT hZ (oW hw 51 rfl))) (mvT hZ (oW hw 51 rfl)) (mvT hZ (oW hw 50 rfl)) (by decide) (backOf (W := 0) (rmStD l Z a0 hw [] b7 b263 po60 er60 ev60 nr172 nr133 nv172 nv133 rh60 _ _ _ _ _ _ _ _ _ (2 : Int32) (1 : Int32) (oU (.ref nr96) (.ref nr133) (.ref nr172)) (oU (.ref nv96) (.ref nv133) (.ref nv172)) (oZ (.int (-1)) (.int (-1)) (.int (-1))) _ _ _ _ _ _  h270 n0 Z270 f273 f274 f275 f276 f277 f278 f279 f280 f281 f282 f283 f284 V270 f271 f285 f286 f287 f288 f289 f290 f291 f292 (Ne.symm (Nat.ne_of_lt (Nat.lt_of_lt_of_le f173.lt szB_b263))) (Ne.symm ne_b7_po60) (Ne.symm ne_b7_er60) (Ne.symm ne_b7_ev60) (Ne.symm (Nat.ne_of_lt (Nat.lt_of_lt_of_le f134.lt szB_nr172))) (Ne.symm (Nat.ne_of_lt (Nat.lt_of_lt_of_le f97.lt szB_nr133))) (Ne.symm (Nat.ne_of_lt (Nat.lt_of_lt_of_le f134.lt szB_nv172))) (Ne.symm (Nat.ne_of_lt (Nat.lt_of_lt_of_le f97.lt szB_nv133))) (Ne.symm ne_b7_rh60) derpo60 devpo60 (Ne.symm (Nat.ne_of_lt (Nat.lt_of_lt_of_le Vpo133.lt szB_nr172))) (Ne.symm (Nat.ne_of_lt (Nat.lt_of_lt_of_le Vpo96.lt szB_nr133))) (Ne.symm (Nat.ne_of_lt (Nat.lt_of_lt_of_le Vpo133.lt szB_nv172))) (Ne.symm (Nat.ne_of_lt (Nat.lt_of_lt_of_le Vpo96.lt szB_nv133))) (Ne.symm dporh60) g_b7 g_po60 ⟨by decide, by decide⟩ rfl rfl (Nat.le_of_ble_eq_true rfl) sak2 sdp hyy2 ⟨by decide, by decide⟩ rfl rfl (Nat.le_of_ble_eq_true rfl) sak1 sdq hyy1) hZ (oW hw 52 rfl) (oW hw 3 rfl) (by decide) (by decide)) q293a q293c (g := (mkF m 228 #[oI p1, oI p2, oI p3, oI p4, oI p5, oI p6, oD dp, .second, oD dq, .second, oD ak0, .second, oD ak1, .second, oD ak2, .second, oR b7, oI 0, oI 1, oI 2, oI 1, oI 0, oI 2, oR b263, .unset, .unset, .unset, .unset, .unset, .unset] [(.ref b263), (.ref b7)])) rfl (by rw [hml]; rfl) (Steps.refl _) (argsL := [(.ref b263)]) (rest := []) (lenOf own_pd4 rfl) rfl oL (hb hby at_228) (fun _ _ => ⟨rfl, e270, (by decide : 20 + 9 ≤ _), (by decide : 96 + 18 ≤ _)⟩)
      dsimp only [Pt.U, Pt.locs, Pt.cells, Pt.slots] at X293 l293 y293 z293 st293 hQ293
      subst l293 y293 z293
      obtain ⟨rfl, Nq293, bp293, kp293, Kc293, Fa293, Fb293, Vc293, Vd293⟩ := hQ293
      have N293 := Fr.app N270 Nq293
      clear N270
      have R293 := fun t k => R272 t (st293.trans k)
      clear R272 st293 X270 e270
      have Z293 : n0 ≤ T293.heap.size := Nat.le_trans Z270 Kc293.1
      clear Z270
      have K293 : Keep h0 T293.heap [] := K270.trans Kc293 (allS (Or.inr sz_b7) (allS (Or.inr sz_po60) all0))
      clear K270
      have f294 : Exa Z T293.heap b7 "com/example/trunkwright/trunkwright/traffic/RevisedSimplex" := (f173.keep KB270).keep Kc293
      have Vp293 : Arv Z T293.heap po60 kpo60 .int (16 : Int32) (oZ (.int (-1)) (.int 1) (.int 0)) (.int 0) := Vc293
      have R295 : ∀ t, oG p e below T293 m 273 #[oI p1, oI p2, oI p3, oI p4, oI p5, oI p6, oD dp, .second, oD dq, .second, oD ak0, .second, oD ak1, .second, oD ak2, .second, oR b7, oI 0, oI 1, oI 2, oI 1, oI 0, oI 2, oR b263, oD 0, .second, oD yy1, .second, oD yy2, .second] [(.int 0), (.ref b7)] t → Steps p.tables e below AA t := by
        intro t k
        refine R293 t ?_
        refine XS.iload X293.here hx rfl (hb hby at_231) rfl ?_
        refine XS.ifNo X293.here hx rfl (hb hby at_233) rfl ((if0 _ _).trans (feq (by decide : ¬ ((1 : Int32) = (0 : Int32)))).1) ?_
        refine XS.dconst0 X293.here hx rfl (hb hby at_236) (v := (0 : UInt64)) (by decide +kernel) ?_
        refine XS.goto X293.here hx rfl (pc0 := 237) (pc' := 245) rfl (hb hby at_237) (by decide) (by decide) ?_
        refine XS.dstore X293.here hx rfl (hb hby at_245) rfl (l' := #[oI p1, oI p2, oI p3, oI p4, oI p5, oI p6, oD dp, .second, oD dq, .second, oD ak0, .second, oD ak1, .second, oD ak2, .second, oR b7, oI 0, oI 1, oI 2, oI 1, oI 0, oI 2, oR b263, oD 0, .second, .unset, .unset, .unset, .unset]) rfl ?_
        show oG p e below T293 m 247 #[oI p1, oI p2, oI p3, oI p4, oI p5, oI p6, oD dp, .second, oD dq, .second, oD ak0, .second, oD ak1, .second, oD ak2, .second, oR b7, oI 0, oI 1, oI 2, oI 1, oI 0, oI 2, oR b263, oD 0, .second, .unset, .unset, .unset, .unset] [] _
        refine XS.dload X293.here hx rfl (hb hby at_247) rfl ?_
        refine XS.dload X293.here hx rfl (hb hby at_249) rfl ?_
        refine XS.ddivS X293.here hx rfl (hb hby at_251) rfl (by rw [← hyy1]; exact own_NN nyy1) hyy1.symm ?_
        refine XS.dstore X293.here hx rfl (hb hby at_252) rfl (l' := #[oI p1, oI p2, oI p3, oI p4, oI p5, oI p6, oD dp, .second, oD dq, .second, oD ak0, .second, oD ak1, .second, oD ak2, .second, oR b7, oI 0, oI 1, oI 2, oI 1, oI 0, oI 2, oR b263, oD 0, .second, oD yy1, .second, .unset, .unset]) rfl ?_
        refine XS.iload X293.here hx rfl (hb hby at_254) rfl ?_
        refine XS.ifNo X293.here hx rfl (hb hby at_256) rfl ((if0 _ _).trans (feq (by decide : ¬ ((1 : Int32) = (0 : Int32)))).1) ?_
        show oG p e below T293 m 259 #[oI p1, oI p2, oI p3, oI p4, oI p5, oI p6, oD dp, .second, oD dq, .second, oD ak0, .second, oD ak1, .second, oD ak2, .second, oR b7, oI 0, oI 1, oI 2, oI 1, oI 0, oI 2, oR b263, oD 0, .second, oD yy1, .second, .unset, .unset] [] _
        refine XS.dload X293.here hx rfl (hb hby at_259) rfl ?_
        refine XS.dload X293.here hx rfl (hb hby at_261) rfl ?_
        refine XS.ddivS X293.here hx rfl (hb hby at_263) rfl (by rw [← hyy2]; exact own_NN nyy2) hyy2.symm ?_
        refine XS.goto X293.here hx rfl (pc0 := 264) (pc' := 268) rfl (hb hby at_264) (by decide) (by decide) ?_
        refine XS.dstore X293.here hx rfl (hb hby at_268) rfl (l' := #[oI p1, oI p2, oI p3, oI p4, oI p5, oI p6, oD dp, .second, oD dq, .second, oD ak0, .second, oD ak1, .second, oD ak2, .second, oR b7, oI 0, oI 1, oI 2, oI 1, oI 0, oI 2, oR b263, oD 0, .second, oD yy1, .second, oD yy2, .second]) rfl ?_
        refine XS.aload X293.here hx rfl (hb hby at_270) rfl rfl ?_
        show oG p e below T293 m 272 #[oI p1, oI p2, oI p3, oI p4, oI p5, oI p6, oD dp, .second, oD dq, .second, oD ak0, .second, oD ak1, .second, oD ak2, .second, oR b7, oI 0, oI 1, oI 2, oI 1, oI 0, oI 2, oR b263, oD 0, .second, oD yy1, .second, oD yy2, .second] [(.ref b7)] _
        refine XS.iconst X293.here hx rfl (hb hby at_272) ?_
        exact k
      clear R293
      obtain ⟨cq296, kq296, q296a, q296b, q296c⟩ := isOf hZ rfl f294
      obtain ⟨_, _, ⟨T296, L296, k296, n296⟩, -, X296, ⟨Lc296, hQ296, l296, y296, z296⟩, st296⟩ := X293.virtualBack hx (y := (oN "value" "(I)D")) (z := (oN "value" "(I)D")) hown (mvT hZ (oW hw 85 rfl)) (mvT hZ (oW hw 86 rfl)) (notFace_of_selects (args := #[]) (mvT hZ (oW hw 88 rfl))) (mvT hZ (oW hw 88 rfl)) (mvT hZ (oW hw 87 rfl)) (by decide) (backOf (W := 0) (rmV0n l Z a0 hw [] b7 po60 bp293 _ _ (-1 : Int32) (1 : Int32) (0 : Int32) _ _  T293.heap n0 Z293 Fa293 Fb293 Vp293 Vd293) hZ (oW hw 89 rfl) (oW hw 3 rfl) (by decide) (by decide)) q296a q296c (g := (mkF m 273 #[oI p1, oI p2, oI p3, oI p4, oI p5, oI p6, oD dp, .second, oD dq, .second, oD ak0, .second, oD ak1, .second, oD ak2, .second, oR b7, oI 0, oI 1, oI 2, oI 1, oI 0, oI 2, oR b263, oD 0, .second, oD yy1, .second, oD yy2, .second] [(.int 0), (.ref b7)])) rfl (by rw [hml]; rfl) (Steps.refl _) (argsL := [(.int 0)]) (rest := []) (lenOf own_pd9 rfl) rfl oL (hb hby at_273) (fun _ _ => ⟨rfl, rfl, (by decide : 29 + 0 ≤ _), (by decide : 114 + 0 ≤ _)⟩)
      dsimp only [Pt.U, Pt.locs, Pt.cells, Pt.slots] at X296 l296 y296 z296 st296 hQ296
      subst l296 y296 z296
      obtain ⟨rfl, Nq296, eq296⟩ := hQ296
      have N296 := Fr.app N293 Nq296
      clear N293
      have R296 := fun t k => R295 t (st296.trans k)
      clear R295 st296 X293
      have R297 : ∀ t, oG p e below T296 m 285 #[oI p1, oI p2, oI p3, oI p4, oI p5, oI p6, oD dp, .second, oD dq, .second, oD ak0, .second, oD ak1, .second, oD ak2, .second, oR b7, oI 0, oI 1, oI 2, oI 1, oI 0, oI 2, oR b263, oD 0, .second, oD yy1, .second, oD yy2, .second] [(.int 1), (.ref b7)] t → Steps p.tables e below AA t := by
        intro t k
        refine R296 t ?_
        refine XS.dload X296.here hx rfl (hb hby at_276) rfl ?_
        refine XS.dcmpS X296.here hx rfl (hb hby at_278) rfl own_00 ?_
        refine XS.ifNo X296.here hx rfl (hb hby at_279) rfl ((if0 _ _).trans (teq (by decide : ((0 : Int32) = (0 : Int32)))).2) ?_
        refine XS.aload X296.here hx rfl (hb hby at_282) rfl rfl ?_
        refine XS.iconst X296.here hx rfl (hb hby at_284) ?_
        exact k
      clear R296
      obtain ⟨cq298, kq298, q298a, q298b, q298c⟩ := isOf hZ eq296 f294
      obtain ⟨_, _, ⟨T298, L298, k298, n298⟩, -, X298, ⟨Lc298, hQ298, l298, y298, z298⟩, st298⟩ := X296.virtualBack hx (y := (oN "value" "(I)D")) (z := (oN "value" "(I)D")) hown (mvT hZ (oW hw 85 rfl)) (mvT hZ (oW hw 86 rfl)) (notFace_of_selects (args := #[]) (mvT hZ (oW hw 88 rfl))) (mvT hZ (oW hw 88 rfl)) (mvT hZ (oW hw 87 rfl)) (by decide) (backOf (W := 0) (rmV11 l Z a0 hw [] b7 po60 bp293 _ _ (-1 : Int32) (1 : Int32) (0 : Int32) _ _  T293.heap n0 Z293 Fa293 Fb293 Vp293 Vd293) hZ (oW hw 89 rfl) (oW hw 3 rfl) (by decide) (by decide)) q298a q298c (g := (mkF m 285 #[oI p1, oI p2, oI p3, oI p4, oI p5, oI p6, oD dp, .second, oD dq, .second, oD ak0, .second, oD ak1, .second, oD ak2, .second, oR b7, oI 0, oI 1, oI 2, oI 1, oI 0, oI 2, oR b263, oD 0, .second, oD yy1, .second, oD yy2, .second] [(.int 1), (.ref b7)])) rfl (by rw [hml]; rfl) (Steps.refl _) (argsL := [(.int 1)]) (rest := []) (lenOf own_pd9 rfl) rfl oL (hb hby at_285) (fun _ _ => ⟨rfl, eq296, (by decide : 29 + 0 ≤ _), (by decide : 114 + 0 ≤ _)⟩)
      dsimp only [Pt.U, Pt.locs, Pt.cells, Pt.slots] at X298 l298 y298 z298 st298 hQ298
      subst l298 y298 z298
      obtain ⟨rfl, Nq298, eq298⟩ := hQ298
      have N298 := Fr.app N296 Nq298
      clear N296
      have R298 := fun t k => R297 t (st298.trans k)
      clear R297 st298 X296 eq296
      have R299 : ∀ t, oG p e below T298 m 297 #[oI p1, oI p2, oI p3, oI p4, oI p5, oI p6, oD dp, .second, oD dq, .second, oD ak0, .second, oD ak1, .second, oD ak2, .second, oR b7, oI 0, oI 1, oI 2, oI 1, oI 0, oI 2, oR b263, oD 0, .second, oD yy1, .second, oD yy2, .second] [(.int 2), (.ref b7)] t → Steps p.tables e below AA t := by
        intro t k
        refine R298 t ?_
        refine XS.dload X298.here hx rfl (hb hby at_288) rfl ?_
        refine XS.dcmpS X298.here hx rfl (hb hby at_290) rfl (own_self nyy1) ?_
        refine XS.ifNo X298.here hx rfl (hb hby at_291) rfl ((if0 _ _).trans (teq (by decide : ((0 : Int32) = (0 : Int32)))).2) ?_
        refine XS.aload X298.here hx rfl (hb hby at_294) rfl rfl ?_
        refine XS.iconst X298.here hx rfl (hb hby at_296) ?_
        exact k
      clear R298
      obtain ⟨cq300, kq300, q300a, q300b, q300c⟩ := isOf hZ eq298 f294
      obtain ⟨_, _, ⟨T300, L300, k300, n300⟩, -, X300, ⟨Lc300, hQ300, l300, y300, z300⟩, st300⟩ := X298.virtualBack hx (y := (oN "value" "(I)D")) (z := (oN "value" "(I)D")) hown (mvT hZ (oW hw 85 rfl)) (mvT hZ (oW hw 86 rfl)) (notFace_of_selects (args := #[]) (mvT hZ (oW hw 88 rfl))) (mvT hZ (oW hw 88 rfl)) (mvT hZ (oW hw 87 rfl)) (by decide) (backOf (W := 0) (rmV20 l Z a0 hw [] b7 po60 bp293 _ _ (-1 : Int32) (1 : Int32) (0 : Int32) _ _  T293.heap n0 Z293 Fa293 Fb293 Vp293 Vd293) hZ (oW hw 89 rfl) (oW hw 3 rfl) (by decide) (by decide)) q300a q300c (g := (mkF m 297 #[oI p1, oI p2, oI p3, oI p4, oI p5, oI p6, oD dp, .second, oD dq, .second, oD ak0, .second, oD ak1, .second, oD ak2, .second, oR b7, oI 0, oI 1, oI 2, oI 1, oI 0, oI 2, oR b263, oD 0, .second, oD yy1, .second, oD yy2, .second] [(.int 2), (.ref b7)])) rfl (by rw [hml]; rfl) (Steps.refl _) (argsL := [(.int 2)]) (rest := []) (lenOf own_pd9 rfl) rfl oL (hb hby at_297) (fun _ _ => ⟨rfl, eq298, (by decide : 29 + 0 ≤ _), (by decide : 114 + 0 ≤ _)⟩)
      dsimp only [Pt.U, Pt.locs, Pt.cells, Pt.slots] at X300 l300 y300 z300 st300 hQ300
      subst l300 y300 z300
      obtain ⟨rfl, Nq300, eq300⟩ := hQ300
      have N300 := Fr.app N298 Nq300
      clear N298
      have R300 := fun t k => R299 t (st300.trans k)
      clear R299 st300 X298 eq298
      have R301 : ∀ t, oG p e below T300 m 311 #[oI p1, oI p2, oI p3, oI p4, oI p5, oI p6, oD dp, .second, oD dq, .second, oD ak0, .second, oD ak1, .second, oD ak2, .second, oR b7, oI 0, oI 1, oI 2, oI 1, oI 0, oI 2, oR b263, oD 0, .second, oD yy1, .second, oD yy2, .second] [(.int 1)] t → Steps p.tables e below AA t := by
        intro t k
        refine R300 t ?_
        refine XS.dload X300.here hx rfl (hb hby at_300) rfl ?_
        refine XS.dcmpS X300.here hx rfl (hb hby at_302) rfl (own_self nyy2) ?_
        refine XS.ifNo X300.here hx rfl (hb hby at_303) rfl ((if0 _ _).trans (teq (by decide : ((0 : Int32) = (0 : Int32)))).2) ?_
        refine XS.iconst X300.here hx rfl (hb hby at_306) ?_
        refine XS.goto X300.here hx rfl (pc0 := 307) (pc' := 311) rfl (hb hby at_307) (by decide) (by decide) ?_
        exact k
      clear R300
      subst hAA
      obtain ⟨fs, hr, hrun, hended, hW, hsame⟩ := X300.leave (v := some (.int 1)) (fun h => by rw [Bd.returns] at h; cases h)
      refine ⟨_, _, R301 _ ?_, hrun, hended, _, _, rfl, ?_, ⟨_, rfl⟩, hW, hsame.mono (by decide) (by decide)⟩
      · exact retN X300 hx (t := .boolean) Bd.returns (by simp) (hb hby at_311) hr
      · show Q_rm0 Z p1 p2 p3 p4 p5 p6 h0 n0 _ T300.heap _
        rw [eq300]
        exact ⟨rfl, N300⟩
    · have R302 : ∀ t, oG p e below T172 m 190 #[oI p1, oI p2, oI p3, oI p4, oI p5, oI p6, oD dp, .second, oD dq, .second, oD ak0, .second, oD ak1, .second, oD ak2, .second, oR b7, oI 0, oI 1, oI 2, oI 1, oI 1, oI 2, .unset, .unset, .unset, .unset, .unset, .unset, .unset] [(.int 2)] t → Steps p.tables e below AA t := by
        intro t k
        refine R261 t ?_
        refine XS.ifNo X172.here hx rfl (hb hby at_167) rfl ((if0 _ _).trans (feq hs).1) ?_
        refine XS.iconst X172.here hx rfl (hb hby at_170) ?_
        refine XS.goto X172.here hx rfl (pc0 := 171) (pc' := 175) rfl (hb hby at_171) (by decide) (by decide) ?_
        refine XS.istore X172.here hx rfl (hb hby at_175) rfl (l' := #[oI p1, oI p2, oI p3, oI p4, oI p5, oI p6, oD dp, .second, oD dq, .second, oD ak0, .second, oD ak1, .second, oD ak2, .second, oR b7, oI 0, oI 1, oI 2, oI 1, oI 1, .unset, .unset, .unset, .unset, .unset, .unset, .unset, .unset]) rfl ?_
        refine XS.iload X172.here hx rfl (hb hby at_177) rfl ?_
        show oG p e below T172 m 179 #[oI p1, oI p2, oI p3, oI p4, oI p5, oI p6, oD dp, .second, oD dq, .second, oD ak0, .second, oD ak1, .second, oD ak2, .second, oR b7, oI 0, oI 1, oI 2, oI 1, oI 1, .unset, .unset, .unset, .unset, .unset, .unset, .unset, .unset] [(.int 1)] _
        refine XS.ifNo X172.here hx rfl (hb hby at_179) rfl ((if0 _ _).trans (feq (by decide : ¬ ((1 : Int32) = (0 : Int32)))).1) ?_
        refine XS.iconst X172.here hx rfl (hb hby at_182) ?_
        refine XS.goto X172.here hx rfl (pc0 := 183) (pc' := 187) rfl (hb hby at_183) (by decide) (by decide) ?_
        refine XS.istore X172.here hx rfl (hb hby at_187) rfl (l' := #[oI p1, oI p2, oI p3, oI p4, oI p5, oI p6, oD dp, .second, oD dq, .second, oD ak0, .second, oD ak1, .second, oD ak2, .second, oR b7, oI 0, oI 1, oI 2, oI 1, oI 1, oI 2, .unset, .unset, .unset, .unset, .unset, .unset, .unset]) rfl ?_
        refine XS.iconst X172.here hx rfl (hb hby at_189) ?_
        exact k
      clear R261
      obtain ⟨T303, h303, k303, X303, e303, E303, A303, B303, st303⟩ := newPE X172 hx hZ (oW hw 21 rfl) rfl (g := (mkF m 190 #[oI p1, oI p2, oI p3, oI p4, oI p5, oI p6, oD dp, .second, oD dq, .second, oD ak0, .second, oD ak1, .second, oD ak2, .second, oR b7, oI 0, oI 1, oI 2, oI 1, oI 1, oI 2, .unset, .unset, .unset, .unset, .unset, .unset, .unset] [(.int 2)])) rfl (hb hby at_190) rfl (by decide) (cap := 2) (by decide) (by decide) (by decide) (by decide) (ad := "[I") (by decide)
      obtain ⟨b303, g303⟩ : ∃ z, z = T172.heap.size := ⟨_, rfl⟩
      rw [← g303] at A303 B303 st303
      have R303 := fun t k => R302 t (st303 t k)
      clear R302 st303 X172
      have g_b303 : n0 ≤ b303 := Nat.le_trans Z172 (Nat.le_of_eq g303.symm)
      have sz_b303 : h0.size ≤ b303 := Nat.le_trans K172.1 (Nat.le_of_eq g303.symm)
      have szB_b303 : T172.heap.size ≤ b303 := Nat.le_trans (Keep.refl T172.heap []).1 (Nat.le_of_eq g303.symm)
      have KB303 := (Keep.refl T172.heap []).ext E303
      have Z303 : n0 ≤ h303.size := Nat.le_trans Z172 E303.1
      clear Z172
      have K303 : Keep h0 h303 [] := K172.ext E303
      clear K172
      clear E303
      have V303 : Arv Z h303 b303 k303 .int (2 : Int32) [(.int 0), (.int 0)] (.int 0) := (Arv.new A303 (by decide)).pad (pad_rep [] (.int 0) 2)
      have R304 : ∀ t, oG p e below T303 m 203 #[oI p1, oI p2, oI p3, oI p4, oI p5, oI p6, oD dp, .second, oD dq, .second, oD ak0, .second, oD ak1, .second, oD ak2, .second, oR b7, oI 0, oI 1, oI 2, oI 1, oI 1, oI 2, oR b303, .unset, .unset, .unset, .unset, .unset, .unset] [(.int 1), (.int 0), (.ref b303)] t → Steps p.tables e below AA t := by
        intro t k
        refine R303 t ?_
        refine XS.astore X303.here hx rfl (hb hby at_192) rfl rfl (l' := #[oI p1, oI p2, oI p3, oI p4, oI p5, oI p6, oD dp, .second, oD dq, .second, oD ak0, .second, oD ak1, .second, oD ak2, .second, oR b7, oI 0, oI 1, oI 2, oI 1, oI 1, oI 2, oR b303, .unset, .unset, .unset, .unset, .unset, .unset]) rfl ?_
        refine XS.iload X303.here hx rfl (hb hby at_194) rfl ?_
        refine XS.ifNo X303.here hx rfl (hb hby at_196) rfl ((if0 _ _).trans (feq (by decide : ¬ ((1 : Int32) = (0 : Int32)))).1) ?_
        refine XS.aload X303.here hx rfl (hb hby at_199) rfl rfl ?_
        refine XS.iconst X303.here hx rfl (hb hby at_201) ?_
        show oG p e below T303 m 202 #[oI p1, oI p2, oI p3, oI p4, oI p5, oI p6, oD dp, .second, oD dq, .second, oD ak0, .second, oD ak1, .second, oD ak2, .second, oR b7, oI 0, oI 1, oI 2, oI 1, oI 1, oI 2, oR b303, .unset, .unset, .unset, .unset, .unset, .unset] [(.int 0), (.ref b303)] _
        refine XS.iconst X303.here hx rfl (hb hby at_202) ?_
        exact k
      clear R303
      obtain ⟨cl305, Ar305, q305, S305, N305', H305, G305⟩ := id V303
      have hin305 : ¬ ((0 : Int32) < 0 ∨ cl305.slots.size ≤ ((0 : Int32)).toNatClampNeg) := inb_of S305 ⟨by decide, by decide⟩
      obtain ⟨T306, h306, X306, e306, W306, st306⟩ := stI X303 hx hZ e303 Ar305 (j := (0 : Int32)) hin305 (g := (mkF m 203 #[oI p1, oI p2, oI p3, oI p4, oI p5, oI p6, oD dp, .second, oD dq, .second, oD ak0, .second, oD ak1, .second, oD ak2, .second, oR b7, oI 0, oI 1, oI 2, oI 1, oI 1, oI 2, oR b303, .unset, .unset, .unset, .unset, .unset, .unset] [(.int 1), (.int 0), (.ref b303)])) rfl rfl (hb hby at_203)
      have R306 := fun t k => R304 t (st306 t k)
      clear R304 st306 X303 e303
      have Z306 : n0 ≤ h306.size := Nat.le_trans Z303 (Keep.of_wr W306).1
      clear Z303
      have KB306 := KB303.wr W306 (Or.inr szB_b303)
      have K306 : Keep h0 h306 [] := K303.wr W306 (Or.inr sz_b303)
      have N306 := Fr.snoc X306 N172 g_b303
      clear K303
      clear N172
      have f307 : Exa Z h306 b303 "[I" := B303.wr W306
      have V306 : Arv Z h306 b303 k303 .int (2 : Int32) [(.int 1), (.int 0)] (.int 0) := Arv.set Ar305 q305 S305 N305' H305 G305 rfl W306 0 rfl (Nat.le_of_ble_eq_true rfl)
      clear Ar305 q305 S305 N305' H305 G305 hin305 W306 V303
      have R308 : ∀ t, oG p e below T306 m 209 #[oI p1, oI p2, oI p3, oI p4, oI p5, oI p6, oD dp, .second, oD dq, .second, oD ak0, .second, oD ak1, .second, oD ak2, .second, oR b7, oI 0, oI 1, oI 2, oI 1, oI 1, oI 2, oR b303, .unset, .unset, .unset, .unset, .unset, .unset] [(.int 2), (.int 1), (.ref b303)] t → Steps p.tables e below AA t := by
        intro t k
        refine R306 t ?_
        refine XS.aload X306.here hx rfl (hb hby at_204) rfl rfl ?_
        refine XS.iconst X306.here hx rfl (hb hby at_206) ?_
        refine XS.iload X306.here hx rfl (hb hby at_207) rfl ?_
        exact k
      clear R306
      obtain ⟨cl309, Ar309, q309, S309, N309', H309, G309⟩ := id V306
      have hin309 : ¬ ((1 : Int32) < 0 ∨ cl309.slots.size ≤ ((1 : Int32)).toNatClampNeg) := inb_of S309 ⟨by decide, by decide⟩
      obtain ⟨T310, h310, X310, e310, W310, st310⟩ := stI X306 hx hZ e306 Ar309 (j := (1 : Int32)) hin309 (g := (mkF m 209 #[oI p1, oI p2, oI p3, oI p4, oI p5, oI p6, oD dp, .second, oD dq, .second, oD ak0, .second, oD ak1, .second, oD ak2, .second, oR b7, oI 0, oI 1, oI 2, oI 1, oI 1, oI 2, oR b303, .unset, .unset, .unset, .unset, .unset, .unset] [(.int 2), (.int 1), (.ref b303)])) rfl rfl (hb hby at_209)
      have R310 := fun t k => R308 t (st310 t k)
      clear R308 st310 X306 e306
      have Z310 : n0 ≤ h310.size := Nat.le_trans Z306 (Keep.of_wr W310).1
      clear Z306
      have KB310 := KB306.wr W310 (Or.inr szB_b303)
      have K310 : Keep h0 h310 [] := K306.wr W310 (Or.inr sz_b303)
      have N310 := Fr.snoc X310 N306 g_b303
      clear K306
      clear N306
      have f311 : Exa Z h310 b303 "[I" := f307.wr W310
      clear f307
      have V310 : Arv Z h310 b303 k303 .int (2 : Int32) [(.int 1), (.int 2)] (.int 0) := Arv.set Ar309 q309 S309 N309' H309 G309 rfl W310 1 rfl (Nat.le_of_ble_eq_true rfl)
      clear Ar309 q309 S309 N309' H309 G309 hin309 W310 V306
      have R312 : ∀ t, oG p e below T310 m 228 #[oI p1, oI p2, oI p3, oI p4, oI p5, oI p6, oD dp, .second, oD dq, .second, oD ak0, .second, oD ak1, .second, oD ak2, .second, oR b7, oI 0, oI 1, oI 2, oI 1, oI 1, oI 2, oR b303, .unset, .unset, .unset, .unset, .unset, .unset] [(.ref b303), (.ref b7)] t → Steps p.tables e below AA t := by
        intro t k
        refine R310 t ?_
        refine XS.goto X310.here hx rfl (pc0 := 210) (pc' := 224) rfl (hb hby at_210) (by decide) (by decide) ?_
        refine XS.aload X310.here hx rfl (hb hby at_224) rfl rfl ?_
        refine XS.aload X310.here hx rfl (hb hby at_226) rfl rfl ?_
        exact k
      clear R310
      have f313 : oF Z h310 b7 "rows" "I" (.int 2) := Frows172.keep KB310 nin0
      have f314 : oF Z h310 b7 "entryRows" "[[I" (.ref er60) := FentryRows172.keep KB310 nin0
      have f315 : oF Z h310 b7 "entryValues" "[[D" (.ref ev60) := FentryValues172.keep KB310 nin0
      have f316 : oF Z h310 b7 "basis" "[I" .null := Fbasis172.keep KB310 nin0
      have f317 : oF Z h310 b7 "rhs" "[D" (.ref rh60) := Frhs172.keep KB310 nin0
      have f318 : oF Z h310 b7 "inverse" "[[D" .null := Finverse172.keep KB310 nin0
      have f319 : oF Z h310 b7 "primal" "[D" .null := Fprimal172.keep KB310 nin0
      have f320 : oF Z h310 b7 "pivotsSinceRefactor" "I" (.int 0) := FpivotsSinceRefactor172.keep KB310 nin0
      have f321 : oF Z h310 b7 "position" "[I" (.ref po60) := Fposition172.keep KB310 nin0
      have f322 : oF Z h310 b7 "infeasibility" "D" (.double 0) := Finfeasibility172.keep KB310 nin0
      have f323 : oF Z h310 b7 "start" "[I" .null := Fstart172.keep KB310 nin0
      have f324 : Exa Z h310 b7 "com/example/trunkwright/trunkwright/traffic/RevisedSimplex" := f173.keep KB310
      have f325 : Arv Z h310 po60 kpo60 .int (16 : Int32) (oZ (.int (-1)) (.int (-1)) (.int (-1))) (.int 0) := Vpo172.keep KB310 nin0
      have f326 : Arv Z h310 er60 ker60 (.array .int) (16 : Int32) (oU (.ref nr96) (.ref nr133) (.ref nr172)) .null := Ver172.keep KB310 nin0
      have f327 : Arv Z h310 ev60 kev60 (.array .double) (16 : Int32) (oU (.ref nv96) (.ref nv133) (.ref nv172)) .null := Vev172.keep KB310 nin0
      have f328 : Arv Z h310 nr133 k100 .int (1 : Int32) [(.int 1)] (.int 0) := f177.keep KB310 nin0
      have f329 : Arv Z h310 nr172 k139 .int (1 : Int32) [(.int 0)] (.int 0) := Vnr172.keep KB310 nin0
      have f330 : Arv Z h310 nv133 k106 .double (1 : Int32) [(.double ak1)] (.double 0) := f178.keep KB310 nin0
      have f331 : Arv Z h310 nv172 k145 .double (1 : Int32) [(.double ak2)] (.double 0) := Vnv172.keep KB310 nin0
      have f332 : Arv Z h310 rh60 k9 .double (2 : Int32) [(.double dp), (.double dq)] (.double 0) := f174.keep KB310 nin0
      obtain ⟨cq333, kq333, q333a, q333b, q333c⟩ := isOf hZ e310 f324
      obtain ⟨_, _, ⟨T333, L333, k333, n333⟩, -, X333, ⟨Lc333, hQ333, l333, y333, z333⟩, st333⟩ := X310.virtualBack hx (y := (oN "start" "([I)V")) (z := (oN "start" "([I)V")) hown (mvT hZ (oW hw 48 rfl)) (mvT hZ (oW hw 49 rfl)) (notFace_of_selects (args := #[]) (mvT hZ (oW hw 51 rfl))) (mvT hZ (oW hw 51 rfl)) (mvT hZ (oW hw 50 rfl)) (by decide) (backOf (W := 0) (rmStA l Z a0 hw [] b7 b303 po60 er60 ev60 nr133 nr172 nv133 nv172 rh60 _ _ _ _ _ _ _ _ _ (1 : Int32) (2 : Int32) (oU (.ref nr96) (.ref nr133) (.ref nr172)) (oU (.ref nv96) (.ref nv133) (.ref nv172)) (oZ (.int (-1)) (.int (-1)) (.int (-1))) _ _ _ _ _ _  h310 n0 Z310 f313 f314 f315 f316 f317 f318 f319 f320 f321 f322 f323 f324 V310 f311 f325 f326 f327 f328 f329 f330 f331 f332 (Ne.symm (Nat.ne_of_lt (Nat.lt_of_lt_of_le f173.lt szB_b303))) (Ne.symm ne_b7_po60) (Ne.symm ne_b7_er60) (Ne.symm ne_b7_ev60) (Ne.symm (Nat.ne_of_lt (Nat.lt_of_lt_of_le f97.lt szB_nr133))) (Ne.symm (Nat.ne_of_lt (Nat.lt_of_lt_of_le f134.lt szB_nr172))) (Ne.symm (Nat.ne_of_lt (Nat.lt_of_lt_of_le f97.lt szB_nv133))) (Ne.symm (Nat.ne_of_lt (Nat.lt_of_lt_of_le f134.lt szB_nv172))) (Ne.symm ne_b7_rh60) derpo60 devpo60 (Ne.symm (Nat.ne_of_lt (Nat.lt_of_lt_of_le Vpo96.lt szB_nr133))) (Ne.symm (Nat.ne_of_lt (Nat.lt_of_lt_of_le Vpo133.lt szB_nr172))) (Ne.symm (Nat.ne_of_lt (Nat.lt_of_lt_of_le Vpo96.lt szB_nv133))) (Ne.symm (Nat.ne_of_lt (Nat.lt_of_lt_of_le Vpo133.lt szB_nv172))) (Ne.symm dporh60) g_b7 g_po60 ⟨by decide, by decide⟩ rfl rfl (Nat.le_of_ble_eq_true rfl) sak1 sdp hyy1 ⟨by decide, by decide⟩ rfl rfl (Nat.le_of_ble_eq_true rfl) sak2 sdq hyy2) hZ (oW hw 52 rfl) (oW hw 3 rfl) (by decide) (by decide)) q333a q333c (g := (mkF m 228 #[oI p1, oI p2, oI p3, oI p4, oI p5, oI p6, oD dp, .second, oD dq, .second, oD ak0, .second, oD ak1, .second, oD ak2, .second, oR b7, oI 0, oI 1, oI 2, oI 1, oI 1, oI 2, oR b303, .unset, .unset, .unset, .unset, .unset, .unset] [(.ref b303), (.ref b7)])) rfl (by rw [hml]; rfl) (Steps.refl _) (argsL := [(.ref b303)]) (rest := []) (lenOf own_pd4 rfl) rfl oL (hb hby at_228) (fun _ _ => ⟨rfl, e310, (by decide : 20 + 9 ≤ _), (by decide : 96 + 18 ≤ _)⟩)
      dsimp only [Pt.U, Pt.locs, Pt.cells, Pt.slots] at X333 l333 y333 z333 st333 hQ333
      subst l333 y333 z333
      obtain ⟨rfl, Nq333, bp333, kp333, Kc333, Fa333, Fb333, Vc333, Vd333⟩ := hQ333
      have N333 := Fr.app N310 Nq333
      clear N310
      have R333 := fun t k => R312 t (st333.trans k)
      clear R312 st333 X310 e310
      have Z333 : n0 ≤ T333.heap.size := Nat.le_trans Z310 Kc333.1
      clear Z310
      have K333 : Keep h0 T333.heap [] := K310.trans Kc333 (allS (Or.inr sz_b7) (allS (Or.inr sz_po60) all0))
      clear K310
      have f334 : Exa Z T333.heap b7 "com/example/trunkwright/trunkwright/traffic/RevisedSimplex" := (f173.keep KB310).keep Kc333
      have Vp333 : Arv Z T333.heap po60 kpo60 .int (16 : Int32) (oZ (.int (-1)) (.int 0) (.int 1)) (.int 0) := Vc333
      have R335 : ∀ t, oG p e below T333 m 273 #[oI p1, oI p2, oI p3, oI p4, oI p5, oI p6, oD dp, .second, oD dq, .second, oD ak0, .second, oD ak1, .second, oD ak2, .second, oR b7, oI 0, oI 1, oI 2, oI 1, oI 1, oI 2, oR b303, oD 0, .second, oD yy1, .second, oD yy2, .second] [(.int 0), (.ref b7)] t → Steps p.tables e below AA t := by
        intro t k
        refine R333 t ?_
        refine XS.iload X333.here hx rfl (hb hby at_231) rfl ?_
        refine XS.ifNo X333.here hx rfl (hb hby at_233) rfl ((if0 _ _).trans (feq (by decide : ¬ ((1 : Int32) = (0 : Int32)))).1) ?_
        refine XS.dconst0 X333.here hx rfl (hb hby at_236) (v := (0 : UInt64)) (by decide +kernel) ?_
        refine XS.goto X333.here hx rfl (pc0 := 237) (pc' := 245) rfl (hb hby at_237) (by decide) (by decide) ?_
        refine XS.dstore X333.here hx rfl (hb hby at_245) rfl (l' := #[oI p1, oI p2, oI p3, oI p4, oI p5, oI p6, oD dp, .second, oD dq, .second, oD ak0, .second, oD ak1, .second, oD ak2, .second, oR b7, oI 0, oI 1, oI 2, oI 1, oI 1, oI 2, oR b303, oD 0, .second, .unset, .unset, .unset, .unset]) rfl ?_
        show oG p e below T333 m 247 #[oI p1, oI p2, oI p3, oI p4, oI p5, oI p6, oD dp, .second, oD dq, .second, oD ak0, .second, oD ak1, .second, oD ak2, .second, oR b7, oI 0, oI 1, oI 2, oI 1, oI 1, oI 2, oR b303, oD 0, .second, .unset, .unset, .unset, .unset] [] _
        refine XS.dload X333.here hx rfl (hb hby at_247) rfl ?_
        refine XS.dload X333.here hx rfl (hb hby at_249) rfl ?_
        refine XS.ddivS X333.here hx rfl (hb hby at_251) rfl (by rw [← hyy1]; exact own_NN nyy1) hyy1.symm ?_
        refine XS.dstore X333.here hx rfl (hb hby at_252) rfl (l' := #[oI p1, oI p2, oI p3, oI p4, oI p5, oI p6, oD dp, .second, oD dq, .second, oD ak0, .second, oD ak1, .second, oD ak2, .second, oR b7, oI 0, oI 1, oI 2, oI 1, oI 1, oI 2, oR b303, oD 0, .second, oD yy1, .second, .unset, .unset]) rfl ?_
        refine XS.iload X333.here hx rfl (hb hby at_254) rfl ?_
        refine XS.ifNo X333.here hx rfl (hb hby at_256) rfl ((if0 _ _).trans (feq (by decide : ¬ ((1 : Int32) = (0 : Int32)))).1) ?_
        show oG p e below T333 m 259 #[oI p1, oI p2, oI p3, oI p4, oI p5, oI p6, oD dp, .second, oD dq, .second, oD ak0, .second, oD ak1, .second, oD ak2, .second, oR b7, oI 0, oI 1, oI 2, oI 1, oI 1, oI 2, oR b303, oD 0, .second, oD yy1, .second, .unset, .unset] [] _
        refine XS.dload X333.here hx rfl (hb hby at_259) rfl ?_
        refine XS.dload X333.here hx rfl (hb hby at_261) rfl ?_
        refine XS.ddivS X333.here hx rfl (hb hby at_263) rfl (by rw [← hyy2]; exact own_NN nyy2) hyy2.symm ?_
        refine XS.goto X333.here hx rfl (pc0 := 264) (pc' := 268) rfl (hb hby at_264) (by decide) (by decide) ?_
        refine XS.dstore X333.here hx rfl (hb hby at_268) rfl (l' := #[oI p1, oI p2, oI p3, oI p4, oI p5, oI p6, oD dp, .second, oD dq, .second, oD ak0, .second, oD ak1, .second, oD ak2, .second, oR b7, oI 0, oI 1, oI 2, oI 1, oI 1, oI 2, oR b303, oD 0, .second, oD yy1, .second, oD yy2, .second]) rfl ?_
        refine XS.aload X333.here hx rfl (hb hby at_270) rfl rfl ?_
        show oG p e below T333 m 272 #[oI p1, oI p2, oI p3, oI p4, oI p5, oI p6, oD dp, .second, oD dq, .second, oD ak0, .second, oD ak1, .second, oD ak2, .second, oR b7, oI 0, oI 1, oI 2, oI 1, oI 1, oI 2, oR b303, oD 0, .second, oD yy1, .second, oD yy2, .second] [(.ref b7)] _
        refine XS.iconst X333.here hx rfl (hb hby at_272) ?_
        exact k
      clear R333
      obtain ⟨cq336, kq336, q336a, q336b, q336c⟩ := isOf hZ rfl f334
      obtain ⟨_, _, ⟨T336, L336, k336, n336⟩, -, X336, ⟨Lc336, hQ336, l336, y336, z336⟩, st336⟩ := X333.virtualBack hx (y := (oN "value" "(I)D")) (z := (oN "value" "(I)D")) hown (mvT hZ (oW hw 85 rfl)) (mvT hZ (oW hw 86 rfl)) (notFace_of_selects (args := #[]) (mvT hZ (oW hw 88 rfl))) (mvT hZ (oW hw 88 rfl)) (mvT hZ (oW hw 87 rfl)) (by decide) (backOf (W := 0) (rmV0n l Z a0 hw [] b7 po60 bp333 _ _ (-1 : Int32) (0 : Int32) (1 : Int32) _ _  T333.heap n0 Z333 Fa333 Fb333 Vp333 Vd333) hZ (oW hw 89 rfl) (oW hw 3 rfl) (by decide) (by decide)) q336a q336c (g := (mkF m 273 #[oI p1, oI p2, oI p3, oI p4, oI p5, oI p6, oD dp, .second, oD dq, .second, oD ak0, .second, oD ak1, .second, oD ak2, .second, oR b7, oI 0, oI 1, oI 2, oI 1, oI 1, oI 2, oR b303, oD 0, .second, oD yy1, .second, oD yy2, .second] [(.int 0), (.ref b7)])) rfl (by rw [hml]; rfl) (Steps.refl _) (argsL := [(.int 0)]) (rest := []) (lenOf own_pd9 rfl) rfl oL (hb hby at_273) (fun _ _ => ⟨rfl, rfl, (by decide : 29 + 0 ≤ _), (by decide : 114 + 0 ≤ _)⟩)
      dsimp only [Pt.U, Pt.locs, Pt.cells, Pt.slots] at X336 l336 y336 z336 st336 hQ336
      subst l336 y336 z336
      obtain ⟨rfl, Nq336, eq336⟩ := hQ336
      have N336 := Fr.app N333 Nq336
      clear N333
      have R336 := fun t k => R335 t (st336.trans k)
      clear R335 st336 X333
      have R337 : ∀ t, oG p e below T336 m 285 #[oI p1, oI p2, oI p3, oI p4, oI p5, oI p6, oD dp, .second, oD dq, .second, oD ak0, .second, oD ak1, .second, oD ak2, .second, oR b7, oI 0, oI 1, oI 2, oI 1, oI 1, oI 2, oR b303, oD 0, .second, oD yy1, .second, oD yy2, .second] [(.int 1), (.ref b7)] t → Steps p.tables e below AA t := by
        intro t k
        refine R336 t ?_
        refine XS.dload X336.here hx rfl (hb hby at_276) rfl ?_
        refine XS.dcmpS X336.here hx rfl (hb hby at_278) rfl own_00 ?_
        refine XS.ifNo X336.here hx rfl (hb hby at_279) rfl ((if0 _ _).trans (teq (by decide : ((0 : Int32) = (0 : Int32)))).2) ?_
        refine XS.aload X336.here hx rfl (hb hby at_282) rfl rfl ?_
        refine XS.iconst X336.here hx rfl (hb hby at_284) ?_
        exact k
      clear R336
      obtain ⟨cq338, kq338, q338a, q338b, q338c⟩ := isOf hZ eq336 f334
      obtain ⟨_, _, ⟨T338, L338, k338, n338⟩, -, X338, ⟨Lc338, hQ338, l338, y338, z338⟩, st338⟩ := X336.virtualBack hx (y := (oN "value" "(I)D")) (z := (oN "value" "(I)D")) hown (mvT hZ (oW hw 85 rfl)) (mvT hZ (oW hw 86 rfl)) (notFace_of_selects (args := #[]) (mvT hZ (oW hw 88 rfl))) (mvT hZ (oW hw 88 rfl)) (mvT hZ (oW hw 87 rfl)) (by decide) (backOf (W := 0) (rmV10 l Z a0 hw [] b7 po60 bp333 _ _ (-1 : Int32) (0 : Int32) (1 : Int32) _ _  T333.heap n0 Z333 Fa333 Fb333 Vp333 Vd333) hZ (oW hw 89 rfl) (oW hw 3 rfl) (by decide) (by decide)) q338a q338c (g := (mkF m 285 #[oI p1, oI p2, oI p3, oI p4, oI p5, oI p6, oD dp, .second, oD dq, .second, oD ak0, .second, oD ak1, .second, oD ak2, .second, oR b7, oI 0, oI 1, oI 2, oI 1, oI 1, oI 2, oR b303, oD 0, .second, oD yy1, .second, oD yy2, .second] [(.int 1), (.ref b7)])) rfl (by rw [hml]; rfl) (Steps.refl _) (argsL := [(.int 1)]) (rest := []) (lenOf own_pd9 rfl) rfl oL (hb hby at_285) (fun _ _ => ⟨rfl, eq336, (by decide : 29 + 0 ≤ _), (by decide : 114 + 0 ≤ _)⟩)
      dsimp only [Pt.U, Pt.locs, Pt.cells, Pt.slots] at X338 l338 y338 z338 st338 hQ338
      subst l338 y338 z338
      obtain ⟨rfl, Nq338, eq338⟩ := hQ338
      have N338 := Fr.app N336 Nq338
      clear N336
      have R338 := fun t k => R337 t (st338.trans k)
      clear R337 st338 X336 eq336
      have R339 : ∀ t, oG p e below T338 m 297 #[oI p1, oI p2, oI p3, oI p4, oI p5, oI p6, oD dp, .second, oD dq, .second, oD ak0, .second, oD ak1, .second, oD ak2, .second, oR b7, oI 0, oI 1, oI 2, oI 1, oI 1, oI 2, oR b303, oD 0, .second, oD yy1, .second, oD yy2, .second] [(.int 2), (.ref b7)] t → Steps p.tables e below AA t := by
        intro t k
        refine R338 t ?_
        refine XS.dload X338.here hx rfl (hb hby at_288) rfl ?_
        refine XS.dcmpS X338.here hx rfl (hb hby at_290) rfl (own_self nyy1) ?_
        refine XS.ifNo X338.here hx rfl (hb hby at_291) rfl ((if0 _ _).trans (teq (by decide : ((0 : Int32) = (0 : Int32)))).2) ?_
        refine XS.aload X338.here hx rfl (hb hby at_294) rfl rfl ?_
        refine XS.iconst X338.here hx rfl (hb hby at_296) ?_
        exact k
      clear R338
      obtain ⟨cq340, kq340, q340a, q340b, q340c⟩ := isOf hZ eq338 f334
      obtain ⟨_, _, ⟨T340, L340, k340, n340⟩, -, X340, ⟨Lc340, hQ340, l340, y340, z340⟩, st340⟩ := X338.virtualBack hx (y := (oN "value" "(I)D")) (z := (oN "value" "(I)D")) hown (mvT hZ (oW hw 85 rfl)) (mvT hZ (oW hw 86 rfl)) (notFace_of_selects (args := #[]) (mvT hZ (oW hw 88 rfl))) (mvT hZ (oW hw 88 rfl)) (mvT hZ (oW hw 87 rfl)) (by decide) (backOf (W := 0) (rmV21 l Z a0 hw [] b7 po60 bp333 _ _ (-1 : Int32) (0 : Int32) (1 : Int32) _ _  T333.heap n0 Z333 Fa333 Fb333 Vp333 Vd333) hZ (oW hw 89 rfl) (oW hw 3 rfl) (by decide) (by decide)) q340a q340c (g := (mkF m 297 #[oI p1, oI p2, oI p3, oI p4, oI p5, oI p6, oD dp, .second, oD dq, .second, oD ak0, .second, oD ak1, .second, oD ak2, .second, oR b7, oI 0, oI 1, oI 2, oI 1, oI 1, oI 2, oR b303, oD 0, .second, oD yy1, .second, oD yy2, .second] [(.int 2), (.ref b7)])) rfl (by rw [hml]; rfl) (Steps.refl _) (argsL := [(.int 2)]) (rest := []) (lenOf own_pd9 rfl) rfl oL (hb hby at_297) (fun _ _ => ⟨rfl, eq338, (by decide : 29 + 0 ≤ _), (by decide : 114 + 0 ≤ _)⟩)
      dsimp only [Pt.U, Pt.locs, Pt.cells, Pt.slots] at X340 l340 y340 z340 st340 hQ340
      subst l340 y340 z340
      obtain ⟨rfl, Nq340, eq340⟩ := hQ340
      have N340 := Fr.app N338 Nq340
      clear N338
      have R340 := fun t k => R339 t (st340.trans k)
      clear R339 st340 X338 eq338
      have R341 : ∀ t, oG p e below T340 m 311 #[oI p1, oI p2, oI p3, oI p4, oI p5, oI p6, oD dp, .second, oD dq, .second, oD ak0, .second, oD ak1, .second, oD ak2, .second, oR b7, oI 0, oI 1, oI 2, oI 1, oI 1, oI 2, oR b303, oD 0, .second, oD yy1, .second, oD yy2, .second] [(.int 1)] t → Steps p.tables e below AA t := by
        intro t k
        refine R340 t ?_
        refine XS.dload X340.here hx rfl (hb hby at_300) rfl ?_
        refine XS.dcmpS X340.here hx rfl (hb hby at_302) rfl (own_self nyy2) ?_
        refine XS.ifNo X340.here hx rfl (hb hby at_303) rfl ((if0 _ _).trans (teq (by decide : ((0 : Int32) = (0 : Int32)))).2) ?_
        refine XS.iconst X340.here hx rfl (hb hby at_306) ?_
        refine XS.goto X340.here hx rfl (pc0 := 307) (pc' := 311) rfl (hb hby at_307) (by decide) (by decide) ?_
        exact k
      clear R340
      subst hAA
      obtain ⟨fs, hr, hrun, hended, hW, hsame⟩ := X340.leave (v := some (.int 1)) (fun h => by rw [Bd.returns] at h; cases h)
      refine ⟨_, _, R341 _ ?_, hrun, hended, _, _, rfl, ?_, ⟨_, rfl⟩, hW, hsame.mono (by decide) (by decide)⟩
      · exact retN X340 hx (t := .boolean) Bd.returns (by simp) (hb hby at_311) hr
      · show Q_rm0 Z p1 p2 p3 p4 p5 p6 h0 n0 _ T340.heap _
        rw [eq340]
        exact ⟨rfl, N340⟩
set_option maxRecDepth 65536 in
set_option maxHeartbeats 40000000 in
theorem comes_1 {Post : Tables → Env → Array Value → State → Outcome → State → Prop} (hpost : ∀ tb e args s v u, (limb_1_1.after args s (.returned v) u = true ∧ limb_1_2.after args s (.returned v) u = true ∧ True) → FrameEnd s (.returned v) u (Jvm.fieldLocs frame_1_writes args s ++ Jvm.arrayLocs frame_1_arrays args s ++ Jvm.staticLocs frame_1_statics s) 72 320 → Post tb e args s (.returned v) u) :
    ArmFor flags0 classFile x code maxLocals ret World_1 tables_1 room_1 Calls_1 rest_1 Pre_1 Post := by
  intro l hfl _ _ p e ha hc hk s m args below hf hA hF happ hP
  obtain ⟨hcalls, hrest, hpre⟩ := hP
  obtain ⟨-, -, -, hnamed, -, -, -, hat⟩ := (Spec.applies_iff hf).mp happ
  obtain ⟨hg, hn⟩ := and_e (Cond.before_iff.mp (show (Jvm.Cond.and given_1 narrow_1).before args s = true from hpre))
  obtain ⟨g1, g2⟩ := and_e hg
  obtain ⟨g3, g4⟩ := and_e g2
  obtain ⟨g5, g6⟩ := and_e g4
  obtain ⟨g7, g8⟩ := and_e g6
  obtain ⟨g9, g10⟩ := and_e g8
  obtain ⟨g11, g12⟩ := and_e g10
  obtain ⟨w0, w1, w2, w3, w4, w5, rfl⟩ : ∃ w0 w1 w2 w3 w4 w5 : Value, args = #[w0, w1, w2, w3, w4, w5] := by
    have hs : args.size = 6 := by simpa [Cond.value, given_1] using g1
    obtain ⟨L⟩ := args
    match L, hs with
    | [w0, w1, w2, w3, w4, w5], _ => exact ⟨w0, w1, w2, w3, w4, w5, rfl⟩
  have hw := fun d (hd : d ∈ tables_1) => atoms_spec (ws := Jvm.Cond.code x code maxLocals ret :: tables_1) hat d (List.mem_cons_of_mem _ hd)
  have hfit : Fit s := fun {y c} hc i hi => by
    obtain ⟨ha, rfl⟩ := Array.getElem?_eq_some_iff.mp hc
    have q := List.all_eq_true.mp ((Array.all_eq_true_iff_forall_mem.mp hF) _ (Array.getElem_mem ha)) i (List.mem_range.mpr hi)
    simpa [Array.getElem?_eq_getElem hi] using q
  obtain ⟨i0, ei0⟩ := is_v g3
  obtain rfl : w0 = (.int i0) := Option.some.inj ei0
  obtain ⟨i1, ei1⟩ := is_v g5
  obtain rfl : w1 = (.int i1) := Option.some.inj ei1
  obtain ⟨i2, ei2⟩ := is_v g7
  obtain rfl : w2 = (.int i2) := Option.some.inj ei2
  obtain ⟨i3, ei3⟩ := is_v g9
  obtain rfl : w3 = (.int i3) := Option.some.inj ei3
  obtain ⟨i4, ei4⟩ := is_v g11
  obtain rfl : w4 = (.int i4) := Option.some.inj ei4
  obtain ⟨i5, ei5⟩ := is_v g12
  obtain rfl : w5 = (.int i5) := Option.some.inj ei5
  obtain ⟨n, o, h1, h2, h3, _, L, rfl, ⟨rfl, N⟩, hq⟩ := rm0 l s _ hw tables_1 i0 i1 i2 i3 i4 i5  s.heap s.heap.size (Nat.le_refl _)  p e ha hc hk s m _ below hf ((Spec.applies_iff_loose hf).mp happ).1 ⟨rfl, State.Warmed39.refl s, rfl⟩ trivial
  refine ⟨n, _, h1, h2, h3, hpost _ _ _ _ _ _ ⟨Cond.after_iff.mpr rfl, Cond.after_iff.mpr (eq_i res_at (Term.int_eval (1)) rfl), trivial⟩ ⟨hq.1, hq.2.1, (hq.2.2.sift fun y hy => Or.inr (N y hy)).mono (by decide) (by decide)⟩⟩
theorem main_1_1 : Claimed_1_1 := comes_1 fun _ _ _ _ _ _ h hF => ⟨h.1, hF⟩
theorem main_1_2 : Claimed_1_2 := comes_1 fun _ _ _ _ _ _ h hF => ⟨h.2.1, hF⟩
end Jvm.Pilot.@@N@@
namespace Jvm.Pilot.@@N@@
open Jvm Jvm.ClassFile Sem Op Lib Jvm.Free Jvm.Stand Jvm.Pilot.@@N@@.Jvm.D
/-! MADE BY PROGRAM (witnessworld.py) out of the Statement's table words and the real class files: 10 classes; the members and pool entries that the words name. The judged class is class 1, her method 1. -/
namespace start1
open Jvm.ClassFile
def u (s : String) : CpInfo := .utf8 (stringToUtf16 s)
/-- a pool by its gaps: so many unusable entries, then the entry; so many at the end -/
def gap : Nat → List CpInfo → List CpInfo
  | 0, r => r
  | n + 1, r => .unusable :: gap n r
def poolList (es : List (Nat × CpInfo)) (last : Nat) : List CpInfo := es.foldr (fun e r => gap e.1 (e.2 :: r)) (gap last [])
def pool (es : List (Nat × CpInfo)) (last : Nat) : Array CpInfo := ⟨poolList es last⟩
def fileOf (pool : Array CpInfo) (this : Nat) (attrs : Array Attribute := #[]) (ms : Array MethodInfo := #[]) (fl : Nat := 33) (sup : Nat := 0) (ifs : Array Nat := #[]) (fds : Array FieldInfo := #[]) : ClassFile where
  minorVersion := 0
  majorVersion := 65
  constantPool := pool
  accessFlags := fl
  thisClass := this
  superClass := sup
  interfaces := ifs
  fields := fds
  methods := ms
  attributes := attrs
def plain (name : String) (sup : Option ClassId) : Class where
  name := name
  kind := .ordinary
  loader := none
  accessFlags := 33
  super := sup
  interfaces := #[]
  cf := none
  fields := #[]
  methods := #[]
  instanceTypes := #[]
  staticTypes := #[]
  resolved := #[]
  callSites := []
  init := .initialized
  statics := none
  mirror := none

def pool0 : Array CpInfo := pool [(5, u "<init>"), (0, u "()V"), (1, .class_ 10), (1, u "java/lang/Object"), (85, u "clone"), (0, u "()Ljava/lang/Object;")] 26

def k0c0 : Code := { maxStack := 0, maxLocals := 1, code := object_method_1_code, exceptionTable := #[], attributes := #[] }
def k0m0 : Method := { name := "<init>", desc := "()V", sig := { parameters := [], returnType := none }, accessFlags := 1, code := some k0c0 }
def k0m1 : Method := { name := "clone", desc := "()Ljava/lang/Object;", sig := { parameters := [], returnType := some (.object "java/lang/Object") }, accessFlags := 260, code := none }
/-- java/lang/Object -/
def k0 : Class := { plain "java/lang/Object" none with
  accessFlags := 33
  interfaces := #[]
  cf := some (fileOf pool0 8 #[] #[{ accessFlags := 1, nameIndex := 5, descriptorIndex := 6, attributes := #[] }, { accessFlags := 260, nameIndex := 96, descriptorIndex := 97, attributes := #[] }] 33 0 #[] #[])
  fields := #[]
  methods := #[k0m0, k0m1]
  instanceTypes := #[]
  staticTypes := #[]
  resolved := Array.replicate 124 none
  statics := none }

def pool1 : Array CpInfo := pool [(2, .class_ 4), (1, u "java/lang/Object"), (0, u "<init>"), (0, u "()V"), (0, .integer 2147483647), (0, .class_ 9), (0, u "com/example/trunkwright/trunkwright/traffic/RevisedSimplex"), (0, .methodref 8 11), (0, .nameAndType 5 12), (0, u "([D)V"), (0, .methodref 8 14), (0, .nameAndType 15 16), (0, u "add"), (0, u "(D[I[D)I"), (0, .methodref 8 18), (0, .nameAndType 19 20), (0, u "start"), (0, u "([I)V"), (0, .methodref 8 22), (0, .nameAndType 23 24), (0, u "value"), (0, u "(I)D"), (0, .class_ 26), (0, u "com/example/trunkwright/trunkwright/traffic/RevisedSimplexValuePinLaw"), (2, u "law"), (0, u "(IIIIII)Z")] 5

def k1m0 : Method := { name := "<init>", desc := "()V", sig := { parameters := [], returnType := none }, accessFlags := 1, code := none }
def k1c1 : Code := { maxStack := 9, maxLocals := 30, code := code, exceptionTable := #[], attributes := #[] }
def k1m1 : Method := { name := "law", desc := "(IIIIII)Z", sig := { parameters := [.int, .int, .int, .int, .int, .int], returnType := some .boolean }, accessFlags := 9, code := some k1c1 }
/-- com/example/trunkwright/trunkwright/traffic/RevisedSimplexValuePinLaw -/
def k1 : Class := { plain "com/example/trunkwright/trunkwright/traffic/RevisedSimplexValuePinLaw" (some 0) with
  accessFlags := 49
  interfaces := #[]
  cf := some (fileOf pool1 25 #[] #[{ accessFlags := 1, nameIndex := 5, descriptorIndex := 6, attributes := #[] }, { accessFlags := 9, nameIndex := 29, descriptorIndex := 30, attributes := #[] }] 49 2 #[] #[])
  fields := #[]
  methods := #[k1m0, k1m1]
  instanceTypes := #[]
  staticTypes := #[]
  resolved := Array.replicate 36 none
  statics := none }

def pool2 : Array CpInfo := pool [(1, .methodref 2 3), (0, .class_ 4), (0, .nameAndType 5 6), (0, u "java/lang/Object"), (0, u "<init>"), (0, u "()V"), (0, .fieldref 8 9), (0, .class_ 10), (0, .nameAndType 11 12), (0, u "com/example/trunkwright/trunkwright/traffic/RevisedSimplex"), (0, u "costs"), (0, u "[D"), (0, .class_ 14), (0, u "[I"), (0, .fieldref 8 16), (0, .nameAndType 17 18), (0, u "entryRows"), (0, u "[[I"), (0, .class_ 12), (0, .fieldref 8 21), (0, .nameAndType 22 23), (0, u "entryValues"), (0, u "[[D"), (0, .fieldref 8 25), (0, .nameAndType 26 14), (0, u "position"), (0, .fieldref 8 28), (0, .nameAndType 29 30), (0, u "rows"), (0, u "I"), (0, .methodref 19 32), (0, .nameAndType 33 34), (0, u "clone"), (0, u "()Ljava/lang/Object;"), (0, .fieldref 8 36), (0, .nameAndType 37 12), (0, u "rhs"), (0, .fieldref 8 39), (0, .nameAndType 40 30), (0, u "columns"), (10, .class_ 23), (3, .methodref 13 32), (9, .fieldref 8 66), (0, .nameAndType 67 14), (0, u "basis"), (0, .fieldref 8 69), (0, .nameAndType 70 14), (0, u "start"), (0, .methodref 8 72), (0, .nameAndType 73 6), (0, u "refactor"), (0, .fieldref 8 75), (0, .nameAndType 76 12), (0, u "primal"), (0, .methodref 78 79), (0, .class_ 80), (0, .nameAndType 81 82), (0, u "java/lang/Math"), (0, u "abs"), (0, u "(D)D"), (0, .methodref 78 84), (0, .nameAndType 85 86), (0, u "max"), (0, u "(DD)D"), (0, .double 4427486594234968593), (1, .fieldref 8 90), (0, .nameAndType 91 92), (0, u "infeasibility"), (0, u "D"), (49, .fieldref 8 143), (0, .nameAndType 144 30), (0, u "pivotsSinceRefactor"), (0, .fieldref 8 146), (0, .nameAndType 147 23), (0, u "inverse"), (0, .class_ 149), (0, u "com/example/trunkwright/trunkwright/traffic/RevisedSimplex$Duals"), (21, u "cursor"), (27, .methodref 8 200), (0, .nameAndType 201 202), (0, u "swap"), (0, u "([[DII)V"), (0, .methodref 8 204), (0, .nameAndType 205 206), (0, u "eliminate"), (0, u "([[D[[DI)V"), (0, u "REFACTOR_INTERVAL"), (2, u "BLOCK"), (1, u "PIVOT_TOLERANCE"), (0, u "PIVOT_SHARE"), (0, u "FEASIBILITY_TOLERANCE"), (0, u "OPTIMALITY_TOLERANCE"), (0, u "TIE_TOLERANCE"), (0, u "SINGULAR"), (0, u "NONE"), (1, u "([D)V"), (2, u "add"), (0, u "(D[I[D)I"), (1, u "([I)V"), (3, u "value"), (0, u "(I)D")] 23

def k2c0 : Code := { maxStack := 2, maxLocals := 2, code := prog_82_method_1_code, exceptionTable := #[], attributes := #[] }
def k2m0 : Method := { name := "<init>", desc := "([D)V", sig := { parameters := [(.array .double)], returnType := none }, accessFlags := 0, code := some k2c0 }
def k2c1 : Code := { maxStack := 4, maxLocals := 6, code := prog_82_method_2_code, exceptionTable := #[], attributes := #[] }
def k2m1 : Method := { name := "add", desc := "(D[I[D)I", sig := { parameters := [.double, (.array .int), (.array .double)], returnType := some .int }, accessFlags := 0, code := some k2c1 }
def k2c2 : Code := { maxStack := 5, maxLocals := 9, code := prog_82_method_3_code, exceptionTable := #[], attributes := #[] }
def k2m2 : Method := { name := "start", desc := "([I)V", sig := { parameters := [(.array .int)], returnType := none }, accessFlags := 0, code := some k2c2 }
def k2c3 : Code := { maxStack := 3, maxLocals := 2, code := prog_82_method_7_code, exceptionTable := #[], attributes := #[] }
def k2m3 : Method := { name := "value", desc := "(I)D", sig := { parameters := [.int], returnType := some .double }, accessFlags := 0, code := some k2c3 }
def k2c4 : Code := { maxStack := 6, maxLocals := 7, code := prog_82_method_18_code, exceptionTable := #[], attributes := #[] }
def k2m4 : Method := { name := "refactor", desc := "()V", sig := { parameters := [], returnType := none }, accessFlags := 2, code := some k2c4 }
def k2c5 : Code := { maxStack := 8, maxLocals := 14, code := prog_82_method_19_code, exceptionTable := #[], attributes := #[] }
def k2m5 : Method := { name := "eliminate", desc := "([[D[[DI)V", sig := { parameters := [(.array (.array .double)), (.array (.array .double)), .int], returnType := none }, accessFlags := 2, code := some k2c5 }
def k2c6 : Code := { maxStack := 4, maxLocals := 4, code := prog_82_method_20_code, exceptionTable := #[], attributes := #[] }
def k2m6 : Method := { name := "swap", desc := "([[DII)V", sig := { parameters := [(.array (.array .double)), .int, .int], returnType := none }, accessFlags := 10, code := some k2c6 }
/-- com/example/trunkwright/trunkwright/traffic/RevisedSimplex -/
def k2 : Class := { plain "com/example/trunkwright/trunkwright/traffic/RevisedSimplex" (some 0) with
  accessFlags := 48
  interfaces := #[]
  cf := some (fileOf pool2 8 #[.nestMembers #[148]] #[{ accessFlags := 0, nameIndex := 5, descriptorIndex := 220, attributes := #[] }, { accessFlags := 0, nameIndex := 223, descriptorIndex := 224, attributes := #[] }, { accessFlags := 0, nameIndex := 70, descriptorIndex := 226, attributes := #[] }, { accessFlags := 0, nameIndex := 230, descriptorIndex := 231, attributes := #[] }, { accessFlags := 2, nameIndex := 73, descriptorIndex := 6, attributes := #[] }, { accessFlags := 2, nameIndex := 205, descriptorIndex := 206, attributes := #[] }, { accessFlags := 10, nameIndex := 201, descriptorIndex := 202, attributes := #[] }] 48 2 #[] #[{ accessFlags := 26, nameIndex := 207, descriptorIndex := 30, attributes := #[] }, { accessFlags := 26, nameIndex := 210, descriptorIndex := 30, attributes := #[] }, { accessFlags := 26, nameIndex := 212, descriptorIndex := 92, attributes := #[] }, { accessFlags := 26, nameIndex := 213, descriptorIndex := 92, attributes := #[] }, { accessFlags := 26, nameIndex := 214, descriptorIndex := 92, attributes := #[] }, { accessFlags := 26, nameIndex := 215, descriptorIndex := 92, attributes := #[] }, { accessFlags := 26, nameIndex := 216, descriptorIndex := 92, attributes := #[] }, { accessFlags := 26, nameIndex := 217, descriptorIndex := 92, attributes := #[] }, { accessFlags := 26, nameIndex := 218, descriptorIndex := 30, attributes := #[] }, { accessFlags := 18, nameIndex := 29, descriptorIndex := 30, attributes := #[] }, { accessFlags := 18, nameIndex := 37, descriptorIndex := 12, attributes := #[] }, { accessFlags := 2, nameIndex := 40, descriptorIndex := 30, attributes := #[] }, { accessFlags := 2, nameIndex := 11, descriptorIndex := 12, attributes := #[] }, { accessFlags := 2, nameIndex := 17, descriptorIndex := 18, attributes := #[] }, { accessFlags := 2, nameIndex := 22, descriptorIndex := 23, attributes := #[] }, { accessFlags := 2, nameIndex := 26, descriptorIndex := 14, attributes := #[] }, { accessFlags := 2, nameIndex := 67, descriptorIndex := 14, attributes := #[] }, { accessFlags := 2, nameIndex := 70, descriptorIndex := 14, attributes := #[] }, { accessFlags := 2, nameIndex := 147, descriptorIndex := 23, attributes := #[] }, { accessFlags := 2, nameIndex := 76, descriptorIndex := 12, attributes := #[] }, { accessFlags := 2, nameIndex := 144, descriptorIndex := 30, attributes := #[] }, { accessFlags := 2, nameIndex := 91, descriptorIndex := 92, attributes := #[] }, { accessFlags := 2, nameIndex := 171, descriptorIndex := 30, attributes := #[] }])
  fields := #[{ name := "REFACTOR_INTERVAL", type := .int, accessFlags := 26, slot := 0, constantValue := 0 }, { name := "BLOCK", type := .int, accessFlags := 26, slot := 1, constantValue := 0 }, { name := "PIVOT_TOLERANCE", type := .double, accessFlags := 26, slot := 2, constantValue := 0 }, { name := "PIVOT_SHARE", type := .double, accessFlags := 26, slot := 3, constantValue := 0 }, { name := "FEASIBILITY_TOLERANCE", type := .double, accessFlags := 26, slot := 4, constantValue := 0 }, { name := "OPTIMALITY_TOLERANCE", type := .double, accessFlags := 26, slot := 5, constantValue := 0 }, { name := "TIE_TOLERANCE", type := .double, accessFlags := 26, slot := 6, constantValue := 0 }, { name := "SINGULAR", type := .double, accessFlags := 26, slot := 7, constantValue := 0 }, { name := "NONE", type := .int, accessFlags := 26, slot := 8, constantValue := 0 }, { name := "rows", type := .int, accessFlags := 18, slot := 0, constantValue := 0 }, { name := "rhs", type := (.array .double), accessFlags := 18, slot := 1, constantValue := 0 }, { name := "columns", type := .int, accessFlags := 2, slot := 2, constantValue := 0 }, { name := "costs", type := (.array .double), accessFlags := 2, slot := 3, constantValue := 0 }, { name := "entryRows", type := (.array (.array .int)), accessFlags := 2, slot := 4, constantValue := 0 }, { name := "entryValues", type := (.array (.array .double)), accessFlags := 2, slot := 5, constantValue := 0 }, { name := "position", type := (.array .int), accessFlags := 2, slot := 6, constantValue := 0 }, { name := "basis", type := (.array .int), accessFlags := 2, slot := 7, constantValue := 0 }, { name := "start", type := (.array .int), accessFlags := 2, slot := 8, constantValue := 0 }, { name := "inverse", type := (.array (.array .double)), accessFlags := 2, slot := 9, constantValue := 0 }, { name := "primal", type := (.array .double), accessFlags := 2, slot := 10, constantValue := 0 }, { name := "pivotsSinceRefactor", type := .int, accessFlags := 2, slot := 11, constantValue := 0 }, { name := "infeasibility", type := .double, accessFlags := 2, slot := 12, constantValue := 0 }, { name := "cursor", type := .int, accessFlags := 2, slot := 13, constantValue := 0 }]
  methods := #[k2m0, k2m1, k2m2, k2m3, k2m4, k2m5, k2m6]
  instanceTypes := #[.int, (.array .double), .int, (.array .double), (.array (.array .int)), (.array (.array .double)), (.array .int), (.array .int), (.array .int), (.array (.array .double)), (.array .double), .int, .double, .int]
  staticTypes := #[.int, .int, .double, .double, .double, .double, .double, .double, .int]
  resolved := Array.replicate 255 none
  statics := none }

def pool3 : Array CpInfo := pool [(1, .class_ 2), (0, u "java/lang/Cloneable"), (0, .class_ 4), (0, u "java/lang/Object")] 2

/-- java/lang/Cloneable -/
def k3 : Class := { plain "java/lang/Cloneable" (some 0) with
  accessFlags := 1537
  interfaces := #[]
  cf := some (fileOf pool3 1 #[] #[] 1537 3 #[] #[])
  fields := #[]
  methods := #[]
  instanceTypes := #[]
  staticTypes := #[]
  resolved := Array.replicate 7 none
  statics := none }

def pool4 : Array CpInfo := pool [(1, .class_ 2), (0, u "java/lang/Math"), (1, .class_ 6), (1, u "java/lang/Object"), (0, u "<init>"), (0, u "()V"), (5, u "(D)D"), (37, u "(DD)D"), (45, .class_ 100), (1, u "java/lang/Math$RandomNumberGeneratorHolder"), (23, u "abs"), (47, u "negativeZeroFloatBits"), (0, u "J"), (2, u "negativeZeroDoubleBits"), (21, u "max"), (46, u "$assertionsDisabled"), (0, u "Z"), (91, u "twoToTheDoubleScaleDown"), (0, u "D"), (4, u "twoToTheDoubleScaleUp"), (9, u "E"), (3, u "PI"), (2, u "TAU"), (2, u "DEGREES_TO_RADIANS"), (0, u "RADIANS_TO_DEGREES")] 94

def k4m0 : Method := { name := "<init>", desc := "()V", sig := { parameters := [], returnType := none }, accessFlags := 2, code := none }
def k4c1 : Code := { maxStack := 4, maxLocals := 2, code := jdk_29_method_64_code, exceptionTable := #[], attributes := #[] }
def k4m1 : Method := { name := "abs", desc := "(D)D", sig := { parameters := [.double], returnType := some .double }, accessFlags := 9, code := some k4c1 }
def k4c2 : Code := { maxStack := 4, maxLocals := 4, code := jdk_29_method_68_code, exceptionTable := #[], attributes := #[] }
def k4m2 : Method := { name := "max", desc := "(DD)D", sig := { parameters := [.double, .double], returnType := some .double }, accessFlags := 9, code := some k4c2 }
/-- java/lang/Math -/
def k4 : Class := { plain "java/lang/Math" (some 0) with
  accessFlags := 49
  interfaces := #[]
  cf := some (fileOf pool4 1 #[.nestMembers #[98]] #[{ accessFlags := 2, nameIndex := 7, descriptorIndex := 8, attributes := #[] }, { accessFlags := 9, nameIndex := 124, descriptorIndex := 14, attributes := #[] }, { accessFlags := 9, nameIndex := 198, descriptorIndex := 52, attributes := #[] }] 49 4 #[] #[{ accessFlags := 25, nameIndex := 354, descriptorIndex := 339, attributes := #[] }, { accessFlags := 25, nameIndex := 358, descriptorIndex := 339, attributes := #[] }, { accessFlags := 25, nameIndex := 361, descriptorIndex := 339, attributes := #[] }, { accessFlags := 26, nameIndex := 364, descriptorIndex := 339, attributes := #[] }, { accessFlags := 26, nameIndex := 365, descriptorIndex := 339, attributes := #[] }, { accessFlags := 26, nameIndex := 172, descriptorIndex := 173, attributes := #[] }, { accessFlags := 26, nameIndex := 176, descriptorIndex := 173, attributes := #[] }, { accessFlags := 8, nameIndex := 344, descriptorIndex := 339, attributes := #[] }, { accessFlags := 8, nameIndex := 338, descriptorIndex := 339, attributes := #[] }, { accessFlags := 4120, nameIndex := 245, descriptorIndex := 246, attributes := #[] }])
  fields := #[{ name := "E", type := .double, accessFlags := 25, slot := 0, constantValue := 0 }, { name := "PI", type := .double, accessFlags := 25, slot := 1, constantValue := 0 }, { name := "TAU", type := .double, accessFlags := 25, slot := 2, constantValue := 0 }, { name := "DEGREES_TO_RADIANS", type := .double, accessFlags := 26, slot := 3, constantValue := 0 }, { name := "RADIANS_TO_DEGREES", type := .double, accessFlags := 26, slot := 4, constantValue := 0 }, { name := "negativeZeroFloatBits", type := .long, accessFlags := 26, slot := 5, constantValue := 0 }, { name := "negativeZeroDoubleBits", type := .long, accessFlags := 26, slot := 6, constantValue := 0 }, { name := "twoToTheDoubleScaleUp", type := .double, accessFlags := 8, slot := 7, constantValue := 0 }, { name := "twoToTheDoubleScaleDown", type := .double, accessFlags := 8, slot := 8, constantValue := 0 }, { name := "$assertionsDisabled", type := .boolean, accessFlags := 4120, slot := 9, constantValue := 0 }]
  methods := #[k4m0, k4m1, k4m2]
  instanceTypes := #[]
  staticTypes := #[.double, .double, .double, .double, .double, .long, .long, .double, .double, .boolean]
  resolved := Array.replicate 460 none
  statics := none }

def pool5 : Array CpInfo := pool [(1, u "java/io/Serializable"), (0, .class_ 1), (0, u "java/lang/Object"), (0, .class_ 3)] 3

/-- java/io/Serializable -/
def k5 : Class := { plain "java/io/Serializable" (some 0) with
  accessFlags := 1537
  interfaces := #[]
  cf := some (fileOf pool5 2 #[] #[] 1537 4 #[] #[])
  fields := #[]
  methods := #[]
  instanceTypes := #[]
  staticTypes := #[]
  resolved := Array.replicate 8 none
  statics := none }

/-- the primitive byte -/
def k6 : Class := { plain "byte" none with kind := .primitive 'B', accessFlags := 0x411 }
/-- [B -/
def k7 : Class := { plain "[B" (some 0) with kind := .array 6 .byte, interfaces := #[3, 5], accessFlags := 1041 }

/-- the primitive int -/
def k8 : Class := { plain "int" none with kind := .primitive 'I', accessFlags := 0x411 }
/-- [I -/
def k9 : Class := { plain "[I" (some 0) with kind := .array 8 .int, interfaces := #[3, 5], accessFlags := 1041 }

/-- the primitive double -/
def k10 : Class := { plain "double" none with kind := .primitive 'D', accessFlags := 0x411 }
/-- [D -/
def k11 : Class := { plain "[D" (some 0) with kind := .array 10 .double, interfaces := #[3, 5], accessFlags := 1041 }
/-- [[I -/
def k12 : Class := { plain "[[I" (some 0) with kind := .array 9 (.array .int), interfaces := #[3, 5], accessFlags := 1041 }
/-- [[D -/
def k13 : Class := { plain "[[D" (some 0) with kind := .array 11 (.array .double), interfaces := #[3, 5], accessFlags := 1041 }

def heap : Heap := #[]
def classes : Array Class := #[k0, k1, k2, k3, k4, k5, k6, k7, k8, k9, k10, k11, k12, k13]
def interned : List (Array UInt16 × Addr) := []
def slotsUsed : Nat := 0
def theMethod : MethodId := ⟨1, 1⟩
def args0 : Array Value := #[.int 5, .int 7, .int 1, .int 2, .int 3, .int 3]
def aboutOver (below : List Frame) : State where
  vm := { classes := classes, interned := interned.toArray }
  heap := heap
  slotsUsed := slotsUsed
  threads := #[{ frames := .invoking theMethod args0 :: below }]
def below0 : List Frame := [.native { method := ⟨0, 0⟩, args := #[] }]
def about1 : State := aboutOver below0
def p0 : Program := .bare "" "" ""
def e0 : Env := launch0.env 0 0 0
theorem w_frames : about1.frames = Frame.invoking theMethod args0 :: below0 := rfl
set_option maxRecDepth 65536 in
theorem w_args : argsFit about1.vm theMethod args0 = true := by decide +kernel
set_option maxRecDepth 65536 in
theorem w_heap : heapFits about1 = true := by decide +kernel
set_option maxRecDepth 65536 in
theorem w_runnable : about1.curStatus? = some .runnable := by decide +kernel
set_option maxRecDepth 65536 in
theorem w_alone : about1.alone = true := by decide +kernel
set_option maxRecDepth 65536 in
theorem w_named : about1.methodNamed? x = some theMethod := by decide +kernel
set_option maxRecDepth 65536 in
theorem w_hears : about1.hears theMethod below0 = true := by decide +kernel
set_option maxRecDepth 65536 in
theorem w_ripe : about1.ripe theMethod args0 below0 = true := by decide +kernel
theorem w_running : about1.status = .running := rfl
set_option maxRecDepth 65536 in
theorem w_room : about1.hasRoom e0.platform room_1 = true :=
  launch0.hasRoom_least _ room_1 (by decide +kernel) (by decide +kernel) (by decide +kernel) (by decide +kernel) (by decide +kernel) (by decide +kernel)
theorem allAtoms_all (ts : List Jvm.Cond) (a : Array Jvm.Value) (st : Jvm.State) : (allAtoms ts).before a st = ts.all (fun c => c.before a st) := by
  induction ts with
  | nil => rfl
  | cons c t ih =>
    show (Jvm.Cond.and c (allAtoms t)).before a st = _
    rw [Jvm.Cond.before_and, ih, List.all_cons]
def words1 : List Jvm.Cond := Jvm.Cond.code x code maxLocals ret :: tables_1
/-- a 'code' word, met by the world's own term for the bytes: nothing is compared byte by byte -/
theorem code_word {y : MethodName} {bytes : ByteArray} {mx : Nat} {rt : Option FieldType} {a : Array Value} {s : State} {m : MethodId} {meth : Method} {c : Code} (h1 : s.methodNamed? y = some m) (h2 : s.vm.method? m = some meth) (h3 : meth.code = some c) (h4 : c.code = bytes)
    (h5 : (c.maxLocals == mx && c.exceptionTable.isEmpty && decide (c.maxStack ≤ mostOperands) && decide (meth.sig.returnType = rt) && !meth.locks && decide (parseMethodDescriptor y.desc = some meth.sig)) = true) : (Jvm.Cond.code y bytes mx rt).before a s = true := by
  simp only [Bool.and_eq_true, beq_iff_eq, Bool.not_eq_true', decide_eq_true_eq] at h5
  obtain ⟨⟨⟨⟨⟨g1, g2⟩, g3⟩, g4⟩, g5⟩, g6⟩ := h5
  simp [Cond.before, Cond.holds, Cond.value, h1, h2, h3, h4, g1, g2, g3, g4, g5, g6]
def isCode : Jvm.Cond → Bool
  | .code _ _ _ _ => true
  | _ => false
theorem all_split {L : List Jvm.Cond} {P : Jvm.Cond → Bool} (h1 : L.all (fun c => isCode c || P c) = true) (h2 : ∀ c ∈ L.filter isCode, P c = true) : L.all P = true := by
  refine List.all_eq_true.mpr fun c hc => ?_
  have h := List.all_eq_true.mp h1 c hc
  rcases Bool.eq_false_or_eq_true (isCode c) with hi | hi
  · exact h2 c (List.mem_filter.mpr ⟨hc, hi⟩)
  · simpa [hi] using h
set_option maxRecDepth 65536 in
theorem w_c0 : (Jvm.Cond.code x code maxLocals ret).before args0 about1 = true := code_word (m := ⟨1, 1⟩) (meth := k1m1) (c := k1c1) (by decide +kernel) rfl rfl rfl (by decide +kernel)
set_option maxRecDepth 65536 in
theorem w_c1 : (Jvm.Cond.code ({ cls := "com/example/trunkwright/trunkwright/traffic/RevisedSimplex", name := "<init>", desc := "([D)V" } : Jvm.MethodName) prog_82_method_1_code (2 : Nat) (Option.none : Option Jvm.ClassFile.FieldType)).before args0 about1 = true := code_word (m := ⟨2, 0⟩) (meth := k2m0) (c := k2c0) (by decide +kernel) rfl rfl rfl (by decide +kernel)
set_option maxRecDepth 65536 in
theorem w_c2 : (Jvm.Cond.code ({ cls := "java/lang/Object", name := "<init>", desc := "()V" } : Jvm.MethodName) object_method_1_code (1 : Nat) (Option.none : Option Jvm.ClassFile.FieldType)).before args0 about1 = true := code_word (m := ⟨0, 0⟩) (meth := k0m0) (c := k0c0) (by decide +kernel) rfl rfl rfl (by decide +kernel)
set_option maxRecDepth 65536 in
theorem w_c3 : (Jvm.Cond.code ({ cls := "com/example/trunkwright/trunkwright/traffic/RevisedSimplex", name := "add", desc := "(D[I[D)I" } : Jvm.MethodName) prog_82_method_2_code (6 : Nat) (Option.some Jvm.ClassFile.FieldType.int)).before args0 about1 = true := code_word (m := ⟨2, 1⟩) (meth := k2m1) (c := k2c1) (by decide +kernel) rfl rfl rfl (by decide +kernel)
set_option maxRecDepth 65536 in
theorem w_c4 : (Jvm.Cond.code ({ cls := "com/example/trunkwright/trunkwright/traffic/RevisedSimplex", name := "start", desc := "([I)V" } : Jvm.MethodName) prog_82_method_3_code (9 : Nat) (Option.none : Option Jvm.ClassFile.FieldType)).before args0 about1 = true := code_word (m := ⟨2, 2⟩) (meth := k2m2) (c := k2c2) (by decide +kernel) rfl rfl rfl (by decide +kernel)
set_option maxRecDepth 65536 in
theorem w_c5 : (Jvm.Cond.code ({ cls := "com/example/trunkwright/trunkwright/traffic/RevisedSimplex", name := "refactor", desc := "()V" } : Jvm.MethodName) prog_82_method_18_code (7 : Nat) (Option.none : Option Jvm.ClassFile.FieldType)).before args0 about1 = true := code_word (m := ⟨2, 4⟩) (meth := k2m4) (c := k2c4) (by decide +kernel) rfl rfl rfl (by decide +kernel)
set_option maxRecDepth 65536 in
theorem w_c6 : (Jvm.Cond.code ({ cls := "java/lang/Math", name := "abs", desc := "(D)D" } : Jvm.MethodName) jdk_29_method_64_code (2 : Nat) (Option.some Jvm.ClassFile.FieldType.double)).before args0 about1 = true := code_word (m := ⟨4, 1⟩) (meth := k4m1) (c := k4c1) (by decide +kernel) rfl rfl rfl (by decide +kernel)
set_option maxRecDepth 65536 in
theorem w_c7 : (Jvm.Cond.code ({ cls := "com/example/trunkwright/trunkwright/traffic/RevisedSimplex", name := "swap", desc := "([[DII)V" } : Jvm.MethodName) prog_82_method_20_code (4 : Nat) (Option.none : Option Jvm.ClassFile.FieldType)).before args0 about1 = true := code_word (m := ⟨2, 6⟩) (meth := k2m6) (c := k2c6) (by decide +kernel) rfl rfl rfl (by decide +kernel)
set_option maxRecDepth 65536 in
theorem w_c8 : (Jvm.Cond.code ({ cls := "com/example/trunkwright/trunkwright/traffic/RevisedSimplex", name := "eliminate", desc := "([[D[[DI)V" } : Jvm.MethodName) prog_82_method_19_code (14 : Nat) (Option.none : Option Jvm.ClassFile.FieldType)).before args0 about1 = true := code_word (m := ⟨2, 5⟩) (meth := k2m5) (c := k2c5) (by decide +kernel) rfl rfl rfl (by decide +kernel)
set_option maxRecDepth 65536 in
theorem w_c9 : (Jvm.Cond.code ({ cls := "java/lang/Math", name := "max", desc := "(DD)D" } : Jvm.MethodName) jdk_29_method_68_code (4 : Nat) (Option.some Jvm.ClassFile.FieldType.double)).before args0 about1 = true := code_word (m := ⟨4, 2⟩) (meth := k4m2) (c := k4c2) (by decide +kernel) rfl rfl rfl (by decide +kernel)
set_option maxRecDepth 65536 in
theorem w_c10 : (Jvm.Cond.code ({ cls := "com/example/trunkwright/trunkwright/traffic/RevisedSimplex", name := "value", desc := "(I)D" } : Jvm.MethodName) prog_82_method_7_code (2 : Nat) (Option.some Jvm.ClassFile.FieldType.double)).before args0 about1 = true := code_word (m := ⟨2, 3⟩) (meth := k2m3) (c := k2c3) (by decide +kernel) rfl rfl rfl (by decide +kernel)
def codes1 : List Jvm.Cond := [Jvm.Cond.code x code maxLocals ret, Jvm.Cond.code ({ cls := "com/example/trunkwright/trunkwright/traffic/RevisedSimplex", name := "<init>", desc := "([D)V" } : Jvm.MethodName) prog_82_method_1_code (2 : Nat) (Option.none : Option Jvm.ClassFile.FieldType), Jvm.Cond.code ({ cls := "java/lang/Object", name := "<init>", desc := "()V" } : Jvm.MethodName) object_method_1_code (1 : Nat) (Option.none : Option Jvm.ClassFile.FieldType), Jvm.Cond.code ({ cls := "com/example/trunkwright/trunkwright/traffic/RevisedSimplex", name := "add", desc := "(D[I[D)I" } : Jvm.MethodName) prog_82_method_2_code (6 : Nat) (Option.some Jvm.ClassFile.FieldType.int), Jvm.Cond.code ({ cls := "com/example/trunkwright/trunkwright/traffic/RevisedSimplex", name := "start", desc := "([I)V" } : Jvm.MethodName) prog_82_method_3_code (9 : Nat) (Option.none : Option Jvm.ClassFile.FieldType), Jvm.Cond.code ({ cls := "com/example/trunkwright/trunkwright/traffic/RevisedSimplex", name := "refactor", desc := "()V" } : Jvm.MethodName) prog_82_method_18_code (7 : Nat) (Option.none : Option Jvm.ClassFile.FieldType), Jvm.Cond.code ({ cls := "java/lang/Math", name := "abs", desc := "(D)D" } : Jvm.MethodName) jdk_29_method_64_code (2 : Nat) (Option.some Jvm.ClassFile.FieldType.double), Jvm.Cond.code ({ cls := "com/example/trunkwright/trunkwright/traffic/RevisedSimplex", name := "swap", desc := "([[DII)V" } : Jvm.MethodName) prog_82_method_20_code (4 : Nat) (Option.none : Option Jvm.ClassFile.FieldType), Jvm.Cond.code ({ cls := "com/example/trunkwright/trunkwright/traffic/RevisedSimplex", name := "eliminate", desc := "([[D[[DI)V" } : Jvm.MethodName) prog_82_method_19_code (14 : Nat) (Option.none : Option Jvm.ClassFile.FieldType), Jvm.Cond.code ({ cls := "java/lang/Math", name := "max", desc := "(DD)D" } : Jvm.MethodName) jdk_29_method_68_code (4 : Nat) (Option.some Jvm.ClassFile.FieldType.double), Jvm.Cond.code ({ cls := "com/example/trunkwright/trunkwright/traffic/RevisedSimplex", name := "value", desc := "(I)D" } : Jvm.MethodName) prog_82_method_7_code (2 : Nat) (Option.some Jvm.ClassFile.FieldType.double)]
set_option maxRecDepth 65536 in
theorem codes_eq : words1.filter isCode = codes1 := rfl
theorem w_codes : ∀ c ∈ words1.filter isCode, c.before args0 about1 = true := by
  rw [codes_eq]
  intro c hc
  simp only [codes1, List.mem_cons, List.not_mem_nil, or_false] at hc
  rcases hc with rfl | rfl | rfl | rfl | rfl | rfl | rfl | rfl | rfl | rfl | rfl
  · exact w_c0
  · exact w_c1
  · exact w_c2
  · exact w_c3
  · exact w_c4
  · exact w_c5
  · exact w_c6
  · exact w_c7
  · exact w_c8
  · exact w_c9
  · exact w_c10
set_option maxRecDepth 65536 in
theorem w_t1 : (words1.take 24).all (fun c => isCode c || c.before args0 about1) = true := by decide +kernel
set_option maxRecDepth 65536 in
theorem w_t2 : ((words1.drop 24).take 24).all (fun c => isCode c || c.before args0 about1) = true := by decide +kernel
set_option maxRecDepth 65536 in
theorem w_t3 : (((words1.drop 24).drop 24).take 24).all (fun c => isCode c || c.before args0 about1) = true := by decide +kernel
set_option maxRecDepth 65536 in
theorem w_t4 : (((words1.drop 24).drop 24).drop 24).all (fun c => isCode c || c.before args0 about1) = true := by decide +kernel
theorem w_tables : (allAtoms (Jvm.Cond.code x code maxLocals ret :: tables_1)).before args0 about1 = true := by
  rw [allAtoms_all]
  show words1.all (fun c => c.before args0 about1) = true
  refine all_split ?_ w_codes
  rw [← List.take_append_drop 24 words1, List.all_append, w_t1, ← List.take_append_drop 24 (words1.drop 24), List.all_append, w_t2, ← List.take_append_drop 24 ((words1.drop 24).drop 24), List.all_append, w_t3, w_t4]
  rfl
set_option maxRecDepth 65536 in
theorem w_case : (Jvm.Cond.and given_1 narrow_1).before args0 about1 = true := by decide +kernel
theorem w_applies : (headSpec (Jvm.Cond.code x code maxLocals ret :: tables_1) room_1).applies x e0.platform about1 = true :=
  (Spec.applies_iff w_frames).mpr ⟨w_running, w_runnable, w_alone, w_named, w_hears, w_ripe, w_room, w_tables⟩
theorem atStart : AtStart classFile x code maxLocals ret World_1 tables_1 room_1 Calls_1 rest_1 Pre_1 launch0 p0 e0 about1 theMethod args0 below0 :=
  ⟨lists_1, trivial, launch0.admits_env _ _ _, launch0.least_env, fairChoices_fair.cas, fairChoices_fair.clock, w_frames, w_args, w_heap, w_applies, trivial, trivial, w_case⟩
end start1
theorem witness_1 : WitnessClaimed_1 := ⟨start1.p0, start1.e0, start1.about1, start1.theMethod, start1.args0, start1.below0, start1.atStart⟩
end Jvm.Pilot.@@N@@
