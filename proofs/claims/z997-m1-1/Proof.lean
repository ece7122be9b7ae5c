import JvmDerived
import JvmDerived.Pilot.@@N@@Statement
import JvmDerived.Pilot.@@N@@Code
set_option linter.unusedVariables false
set_option linter.unusedSimpArgs false
namespace Jvm.Pilot.@@N@@
open Jvm Jvm.ClassFile Sem Op Lib Jvm.Free Jvm.Stand Jvm.LawKit Jvm.RoadKit Bundle Jvm.Pilot.@@N@@.Jvm.D
abbrev own_E := List (Int32 × Int32)
def own_n (es : own_E) : Int32 := Int32.ofNat es.length
def own_cs (es : own_E) : List Value := es.map fun q => Value.int q.1
def own_vs (es : own_E) : List Value := es.map fun q => Value.int q.2
def own_ctx (x : Int32) : Int32 := ((((x.toUInt32 >>> ((1 : Int32) &&& 31).toUInt32).toInt32) &&& (255 : Int32)) % (3 : Int32))
def own_pick (c x0 x1 x2 : Int32) : Int32 := if c = 0 then x0 else if c = 1 then x1 else x2
def own_sym (x x0 x1 x2 : Int32) : Int32 := ((((x.toUInt32 >>> ((9 : Int32) &&& 31).toUInt32).toInt32) &&& (255 : Int32)) % (own_pick (own_ctx x) x0 x1 x2))
def own_off (c x0 x1 : Int32) : Int32 := if c = (0 : Int32) then (0 : Int32) else if c = (1 : Int32) then x0 else (x0 + x1)
def own_hit (x i x0 x1 x2 : Int32) : Int64 := if (x &&& (1 : Int32)) = (0 : Int32) then (0 : Int64) else if ((own_off (own_ctx x) x0 x1) + (own_sym x x0 x1 x2)) = i then (1 : Int64) else (0 : Int64)
def own_low (q : Int64) (b : Int32) : Int32 := ((q &&& (((1 : Int64) <<< (b &&& 0x3f).toInt64) - (1 : Int64))).toInt32)
def own_bits (q : Int64) (b : Int32) : own_E := if (0 : Int32) < b then [(-b, own_low q b)] else []
def own_ent (x x0 x1 x2 : Int32) : own_E := if (x &&& (1 : Int32)) = (0 : Int32) then own_bits x.toInt64 (((x.toUInt32 >>> ((1 : Int32) &&& 31).toUInt32).toInt32) &&& (31 : Int32)) else [(own_ctx x, own_sym x x0 x1 x2)]
def own_step (x0 x1 : Int32) (cl : List Int64) (q : Int32 × Int32) : List Int64 := if q.1 < (0 : Int32) then cl else cl.set (own_off q.1 x0 x1 + q.2).toNatClampNeg (cl.getD (own_off q.1 x0 x1 + q.2).toNatClampNeg 0 + (1 : Int64))
theorem own_n_nat {n : Nat} (h : n < 2147483648) : (Int32.ofNat n).toInt = n := Int32.toInt_ofNat_of_lt h
theorem own_n_clamp {es : own_E} (h : es.length < 2147483648) : (own_n es).toNatClampNeg = es.length := by
  have := own_n_nat h
  show (Int32.ofNat es.length).toInt.toNat = _
  rw [this]; rfl
theorem own_n_in {es : own_E} (h : es.length < 256) : ¬ own_n es < (0 : Int32) ∧ own_n es < (256 : Int32) := by
  have h1 : (own_n es).toInt = es.length := own_n_nat (by omega)
  have e0 : (0 : Int32).toInt = 0 := by decide
  have e1 : (256 : Int32).toInt = 256 := by decide
  rw [Int32.lt_iff_toInt_lt, Int32.lt_iff_toInt_lt, h1, e0, e1]; omega
theorem own_n_ne {es : own_E} (h : es.length < 256) : ¬ own_n es = (256 : Int32) := by
  have h1 : (own_n es).toInt = es.length := own_n_nat (by omega)
  have e1 : (256 : Int32).toInt = 256 := by decide
  rw [← Int32.toInt_inj, h1, e1]; omega
theorem own_n_lt {es fs : own_E} (h : es.length < fs.length) (h' : fs.length < 2147483648) : own_n es < own_n fs := by
  have h1 : (own_n es).toInt = es.length := own_n_nat (by omega)
  have h2 : (own_n fs).toInt = fs.length := own_n_nat (by omega)
  rw [Int32.lt_iff_toInt_lt, h1, h2]; omega
theorem own_n_snoc (es : own_E) (q : Int32 × Int32) (h : es.length < 256) : own_n es + (1 : Int32) = own_n (es ++ [q]) := by
  have h1 : (own_n es).toInt = es.length := own_n_nat (by omega)
  have h2 : (own_n (es ++ [q])).toInt = (es ++ [q]).length := own_n_nat (by simp; omega)
  have h3 := c_iadd (own_n es) (1 : Int32)
  have h4 := rng32 (own_n es + (1 : Int32))
  have e1 : (1 : Int32).toInt = 1 := by decide
  have e2 : (es ++ [q]).length = es.length + 1 := by simp
  rw [← Int32.toInt_inj]; omega
theorem own_cs_snoc (es : own_E) (q : Int32 × Int32) : own_cs (es ++ [q]) = own_cs es ++ [Value.int q.1] := by simp [own_cs]
theorem own_vs_snoc (es : own_E) (q : Int32 × Int32) : own_vs (es ++ [q]) = own_vs es ++ [Value.int q.2] := by simp [own_vs]
theorem own_len_cs (es : own_E) : (own_cs es).length = es.length := by simp [own_cs]
theorem own_len_vs (es : own_E) : (own_vs es).length = es.length := by simp [own_vs]
theorem own_mid {α : Type} {dn rs : List α} {q : α} {f : α → Value} {d : Value} : ((dn ++ q :: rs).map f).getD dn.length d = f q := by simp
theorem own_cs_at {dn rs : own_E} {q : Int32 × Int32} {d : Value} (h : dn.length < 256) : (own_cs (dn ++ q :: rs)).getD (own_n dn).toNatClampNeg d = Value.int q.1 := by
  rw [own_n_clamp (by omega)]; exact own_mid
theorem own_vs_at {dn rs : own_E} {q : Int32 × Int32} {d : Value} (h : dn.length < 256) : (own_vs (dn ++ q :: rs)).getD (own_n dn).toNatClampNeg d = Value.int q.2 := by
  rw [own_n_clamp (by omega)]; exact own_mid
theorem own_push {Z : State} {h h' : Heap} {a : Addr} {k : ClassId} {ty : FieldType} {z j : Int32} {vs : List Value} {v dv : Value} {c : Cell} (A : Arr Z h a c ty) (q1 : c.cls = k) (S : c.slots.size = z.toNatClampNeg) (q3 : ¬ z < 0) (H : Has c vs dv) (G : ∀ i, i < c.slots.size → fits ty (vs.getD i dv) = true) (hv : fits ty v = true) (W : Wr h h' a j.toNatClampNeg v) (hj : j.toNatClampNeg = vs.length) : Arv Z h' a k ty z (vs ++ [v]) dv := by
  have V : Arv Z h a k ty z vs dv := ⟨c, A, q1, S, q3, H, G⟩
  obtain ⟨c', A', r1, r2, r3, H', G'⟩ := V.pad (vs' := vs ++ [dv]) (pad_rep vs dv 1)
  have r := Arv.set A' r1 r2 r3 H' G' hv W vs.length hj (by simp)
  have e : (vs ++ [dv]).set vs.length v = vs ++ [v] := by simp
  rw [e] at r; exact r
theorem own_ctx3 (x : Int32) : own_ctx x = (0 : Int32) ∨ own_ctx x = (1 : Int32) ∨ own_ctx x = (2 : Int32) := by
  unfold own_ctx
  have h1 := c_mask ((x.toUInt32 >>> ((1 : Int32) &&& 31).toUInt32).toInt32) (255 : Int32) 8 (by decide) (by decide)
  have h2 := (c_irem (((x.toUInt32 >>> ((1 : Int32) &&& 31).toUInt32).toInt32) &&& (255 : Int32)) (3 : Int32) 3 (by decide)).1 (by omega)
  have e0 : (0 : Int32).toInt = 0 := by decide
  have e1 : (1 : Int32).toInt = 1 := by decide
  have e2 : (2 : Int32).toInt = 2 := by decide
  simp only [← Int32.toInt_inj]
  omega
theorem own_ctx_in (x : Int32) : ¬ own_ctx x < (0 : Int32) ∧ own_ctx x < (3 : Int32) := by
  rcases own_ctx3 x with h | h | h <;> rw [h] <;> decide
theorem own_pick_at {x x0 x1 x2 : Int32} {d : Value} : [Value.int x0, Value.int x1, Value.int x2].getD (own_ctx x).toNatClampNeg d = Value.int (own_pick (own_ctx x) x0 x1 x2) := by
  rcases own_ctx3 x with h | h | h <;> rw [h] <;> rfl
theorem own_off_at {c x0 x1 : Int32} {d : Value} (h : c = (0 : Int32) ∨ c = (1 : Int32) ∨ c = (2 : Int32)) : [Value.int (0 : Int32), Value.int x0, Value.int (x0 + x1)].getD c.toNatClampNeg d = Value.int (own_off c x0 x1) := by
  rcases h with h | h | h <;> rw [h] <;> rfl
theorem own_c3_in {c : Int32} (h : c = (0 : Int32) ∨ c = (1 : Int32) ∨ c = (2 : Int32)) : ¬ c < (0 : Int32) ∧ c < (3 : Int32) := by
  rcases h with h | h | h <;> rw [h] <;> decide
theorem own_pick_nz {x x0 x1 x2 : Int32} (h0 : ¬ x0 = (0 : Int32)) (h1 : ¬ x1 = (0 : Int32)) (h2 : ¬ x2 = (0 : Int32)) : own_pick (own_ctx x) x0 x1 x2 ≠ 0 := by
  rcases own_ctx3 x with h | h | h <;> rw [h] <;> assumption
theorem own_getL {cl : List Int64} {i : Nat} : (cl.map Value.long).getD i (.long (0 : Int64)) = Value.long (cl.getD i 0) := by
  simp only [List.getD_eq_getElem?_getD, List.getElem?_map]
  cases cl[i]? <;> rfl
theorem own_step_map {x0 x1 : Int32} {cl : List Int64} {q : Int32 × Int32} (h : ¬ q.1 < (0 : Int32)) : (own_step x0 x1 cl q).map Value.long = (cl.map Value.long).set (own_off q.1 x0 x1 + q.2).toNatClampNeg (.long (cl.getD (own_off q.1 x0 x1 + q.2).toNatClampNeg 0 + (1 : Int64))) := by
  unfold own_step; rw [if_neg h, List.map_set]
theorem own_step_len {x0 x1 : Int32} {cl : List Int64} {q : Int32 × Int32} : (own_step x0 x1 cl q).length = cl.length := by
  unfold own_step; split <;> simp
/-- an entry that countInto may meet -/
def own_good (x0 x1 : Int32) (q : Int32 × Int32) : Prop := q.1 < (0 : Int32) ∨ ((q.1 = (0 : Int32) ∨ q.1 = (1 : Int32) ∨ q.1 = (2 : Int32)) ∧ ¬ (own_off q.1 x0 x1 + q.2) < (0 : Int32) ∧ (own_off q.1 x0 x1 + q.2) < (12 : Int32))
theorem own_lt12 {j : Int32} (h : ¬ j < (0 : Int32)) (h' : j < (12 : Int32)) : j.toNatClampNeg < 12 ∧ (j.toNatClampNeg : Int) = j.toInt := by
  have e0 : (0 : Int32).toInt = 0 := by decide
  have e1 : (12 : Int32).toInt = 12 := by decide
  rw [Int32.lt_iff_toInt_lt] at h h'
  show j.toInt.toNat < 12 ∧ ((j.toInt.toNat : Nat) : Int) = j.toInt
  omega
theorem own_bound {x x0 x1 x2 : Int32} (h0 : 1 ≤ x0.toInt ∧ x0.toInt ≤ 4) (h1 : 1 ≤ x1.toInt ∧ x1.toInt ≤ 4) (h2 : 1 ≤ x2.toInt ∧ x2.toInt ≤ 4) : ¬ (own_off (own_ctx x) x0 x1 + own_sym x x0 x1 x2) < (0 : Int32) ∧ (own_off (own_ctx x) x0 x1 + own_sym x x0 x1 x2) < (12 : Int32) := by
  have m := c_mask ((x.toUInt32 >>> ((9 : Int32) &&& 31).toUInt32).toInt32) (255 : Int32) 8 (by decide) (by decide)
  have hs : own_sym x x0 x1 x2 = ((((x.toUInt32 >>> ((9 : Int32) &&& 31).toUInt32).toInt32) &&& (255 : Int32)) % (own_pick (own_ctx x) x0 x1 x2)) := rfl
  have e0 : (0 : Int32).toInt = 0 := by decide
  have e1 : (12 : Int32).toInt = 12 := by decide
  rw [Int32.lt_iff_toInt_lt, Int32.lt_iff_toInt_lt, e0, e1]
  generalize (((x.toUInt32 >>> ((9 : Int32) &&& 31).toUInt32).toInt32) &&& (255 : Int32)) = y at *
  rcases own_ctx3 x with h | h | h
  · rw [h] at hs ⊢
    have q := (c_iremV y x0).1 (by omega) (by omega)
    have o : own_off (0 : Int32) x0 x1 = (0 : Int32) := rfl
    have pk : own_pick (0 : Int32) x0 x1 x2 = x0 := rfl
    rw [pk] at hs; rw [← hs] at q; rw [o]
    have a := c_iadd (0 : Int32) (own_sym x x0 x1 x2)
    have r := rng32 ((0 : Int32) + own_sym x x0 x1 x2)
    omega
  · rw [h] at hs ⊢
    have q := (c_iremV y x1).1 (by omega) (by omega)
    have o : own_off (1 : Int32) x0 x1 = x0 := rfl
    have pk : own_pick (1 : Int32) x0 x1 x2 = x1 := rfl
    rw [pk] at hs; rw [← hs] at q; rw [o]
    have a := c_iadd x0 (own_sym x x0 x1 x2)
    have r := rng32 (x0 + own_sym x x0 x1 x2)
    omega
  · rw [h] at hs ⊢
    have q := (c_iremV y x2).1 (by omega) (by omega)
    have o : own_off (2 : Int32) x0 x1 = x0 + x1 := rfl
    have pk : own_pick (2 : Int32) x0 x1 x2 = x2 := rfl
    rw [pk] at hs; rw [← hs] at q; rw [o]
    have b := c_iadd x0 x1
    have rb := rng32 (x0 + x1)
    have a := c_iadd (x0 + x1) (own_sym x x0 x1 x2)
    have r := rng32 (x0 + x1 + own_sym x x0 x1 x2)
    omega
theorem own_negb {x : Int32} (h : (0 : Int32) < (((x.toUInt32 >>> ((1 : Int32) &&& 31).toUInt32).toInt32) &&& (31 : Int32))) : -(((x.toUInt32 >>> ((1 : Int32) &&& 31).toUInt32).toInt32) &&& (31 : Int32)) < (0 : Int32) := by
  have m := c_mask ((x.toUInt32 >>> ((1 : Int32) &&& 31).toUInt32).toInt32) (31 : Int32) 5 (by decide) (by decide)
  generalize (((x.toUInt32 >>> ((1 : Int32) &&& 31).toUInt32).toInt32) &&& (31 : Int32)) = y at *
  have e0 : (0 : Int32).toInt = 0 := by decide
  have n := c_ineg y
  have r := rng32 (-y)
  rw [Int32.lt_iff_toInt_lt] at *
  omega
theorem own_ent_good {x x0 x1 x2 : Int32} (h0 : 1 ≤ x0.toInt ∧ x0.toInt ≤ 4) (h1 : 1 ≤ x1.toInt ∧ x1.toInt ≤ 4) (h2 : 1 ≤ x2.toInt ∧ x2.toInt ≤ 4) : ∀ q ∈ own_ent x x0 x1 x2, own_good x0 x1 q := by
  unfold own_ent
  split
  · unfold own_bits
    split
    · rename_i hb
      intro q hq
      rw [List.mem_singleton] at hq; subst hq
      exact Or.inl (own_negb hb)
    · intro q hq; exact absurd hq List.not_mem_nil
  · intro q hq
    rw [List.mem_singleton] at hq; subst hq
    exact Or.inr ⟨own_ctx3 x, own_bound h0 h1 h2⟩
theorem own_ent_len {x x0 x1 x2 : Int32} : (own_ent x x0 x1 x2).length ≤ 1 := by
  unfold own_ent own_bits
  split
  · split <;> simp
  · simp
theorem own_one {x x0 x1 x2 i : Int32} {cl : List Int64} (h0 : 1 ≤ x0.toInt ∧ x0.toInt ≤ 4) (h1 : 1 ≤ x1.toInt ∧ x1.toInt ≤ 4) (h2 : 1 ≤ x2.toInt ∧ x2.toInt ≤ 4) (hl : cl.length = 12) (hi : ¬ i < (0 : Int32)) (hi' : i < (12 : Int32)) :
    ((own_ent x x0 x1 x2).foldl (own_step x0 x1) cl).getD i.toNatClampNeg 0 = cl.getD i.toNatClampNeg 0 + own_hit x i x0 x1 x2 := by
  unfold own_ent own_hit
  by_cases hx : (x &&& (1 : Int32)) = (0 : Int32)
  · rw [if_pos hx, if_pos hx, Int64.add_zero]
    unfold own_bits
    split
    · rename_i hb
      show (own_step x0 x1 cl _).getD _ _ = _
      unfold own_step
      rw [if_pos (own_negb hb)]
    · rfl
  · rw [if_neg hx, if_neg hx]
    show (own_step x0 x1 cl _).getD _ _ = _
    have hb := own_bound (x := x) h0 h1 h2
    have hc := (own_ctx_in x).1
    unfold own_step
    rw [if_neg hc]
    show (cl.set (own_off (own_ctx x) x0 x1 + own_sym x x0 x1 x2).toNatClampNeg (cl.getD (own_off (own_ctx x) x0 x1 + own_sym x x0 x1 x2).toNatClampNeg 0 + 1)).getD i.toNatClampNeg 0 = _
    generalize own_off (own_ctx x) x0 x1 + own_sym x x0 x1 x2 = j at *
    have hj := own_lt12 hb.1 hb.2
    have hk := own_lt12 hi hi'
    by_cases he : j = i
    · subst he
      rw [if_pos rfl]
      simp only [List.getD_eq_getElem?_getD, List.getElem?_set_self (show j.toNatClampNeg < cl.length by omega), Option.getD_some]
    · rw [if_neg he, Int64.add_zero]
      have ne : j.toNatClampNeg ≠ i.toNatClampNeg := fun q => he (by rw [← Int32.toInt_inj]; omega)
      simp only [List.getD_eq_getElem?_getD, List.getElem?_set_ne ne]
theorem own_fold_len {x0 x1 : Int32} : ∀ (es : own_E) (cl : List Int64), (es.foldl (own_step x0 x1) cl).length = cl.length
  | [], _ => rfl
  | q :: es, cl => by rw [List.foldl_cons, own_fold_len es, own_step_len]
theorem own_all {y0 y1 y2 y3 x0 x1 x2 i : Int32} {cl : List Int64} (h0 : 1 ≤ x0.toInt ∧ x0.toInt ≤ 4) (h1 : 1 ≤ x1.toInt ∧ x1.toInt ≤ 4) (h2 : 1 ≤ x2.toInt ∧ x2.toInt ≤ 4) (hl : cl.length = 12) (hi : ¬ i < (0 : Int32)) (hi' : i < (12 : Int32)) :
    ((((([] ++ own_ent y0 x0 x1 x2) ++ own_ent y1 x0 x1 x2) ++ own_ent y2 x0 x1 x2) ++ own_ent y3 x0 x1 x2).foldl (own_step x0 x1) cl).getD i.toNatClampNeg 0 = (((cl.getD i.toNatClampNeg 0 + own_hit y0 i x0 x1 x2) + own_hit y1 i x0 x1 x2) + own_hit y2 i x0 x1 x2) + own_hit y3 i x0 x1 x2 := by
  rw [List.nil_append, List.foldl_append, List.foldl_append, List.foldl_append]
  rw [own_one h0 h1 h2 (by rw [own_fold_len, own_fold_len, own_fold_len]; exact hl) hi hi', own_one h0 h1 h2 (by rw [own_fold_len, own_fold_len]; exact hl) hi hi', own_one h0 h1 h2 (by rw [own_fold_len]; exact hl) hi hi', own_one h0 h1 h2 hl hi hi']
theorem own_x0 (x : Int32) : 1 ≤ ((1 : Int32) + (x &&& (3 : Int32))).toInt ∧ ((1 : Int32) + (x &&& (3 : Int32))).toInt ≤ 4 := by
  have m := c_mask x (3 : Int32) 2 (by decide) (by decide)
  have a := c_iadd (1 : Int32) (x &&& (3 : Int32))
  have r := rng32 ((1 : Int32) + (x &&& (3 : Int32)))
  have e1 : (1 : Int32).toInt = 1 := by decide
  omega
theorem own_x_nz {x : Int32} (h : 1 ≤ x.toInt ∧ x.toInt ≤ 4) : ¬ x = (0 : Int32) := fun q => by
  rw [q] at h; exact absurd h.1 (by decide)
def own_Wr (Z : State) (h : Heap) (a ac av : Addr) (kc kv : ClassId) (es : own_E) : Prop := Fld Z h a "com/example/terse_graph/tersegraph/PrefixWriter" "contexts" "[I" (.ref ac) ∧ Fld Z h a "com/example/terse_graph/tersegraph/PrefixWriter" "values" "[I" (.ref av) ∧ Fld Z h a "com/example/terse_graph/tersegraph/PrefixWriter" "count" "I" (.int (own_n es)) ∧ Exa Z h a "com/example/terse_graph/tersegraph/PrefixWriter" ∧ Arv Z h ac kc .int (256 : Int32) (own_cs es) (.int (0 : Int32)) ∧ Arv Z h av kv .int (256 : Int32) (own_vs es) (.int (0 : Int32))
theorem own_Wr.keep {Z : State} {h h' : Heap} {a ac av : Addr} {kc kv : ClassId} {es : own_E} {ws : List Addr} (H : own_Wr Z h a ac av kc kv es) (K : Keep h h' ws) (q1 : a ∉ ws) (q2 : ac ∉ ws) (q3 : av ∉ ws) : own_Wr Z h' a ac av kc kv es := by
  obtain ⟨f1, f2, f3, e1, v1, v2⟩ := H
  exact ⟨f1.keep K q1, f2.keep K q1, f3.keep K q1, e1.keep K, v1.keep K q2, v2.keep K q3⟩
theorem own_pn0 : plainName "java/io/OutputStream" = true := by first | (simp [plainName, overriddenIn]; done) | decide +kernel
theorem own_ef_rmOS (m : MethodId) (x0 : Addr) : entryFrame m #[(.ref x0)] 1 = mkF m 0 #[.val (.ref x0)] [] := by first | (simp [entryFrame, mkF, argsToLocals, Value.category]; done) | rfl
theorem own_d5_0 : decode jdk_2038_method_1_code 0 = .ok (.aload_n 0, 1) := by decide +kernel
theorem own_d5_1 : decode jdk_2038_method_1_code 1 = .ok (.invokespecial 1, 3) := by decide +kernel
theorem own_d5_4 : decode jdk_2038_method_1_code 4 = .ok (.return_, 1) := by decide +kernel
def Q_rmOS (Z : State) (a1 : Addr) (h0 : Heap) (n0 : Nat) (v : Option Value) (h : Heap) (L : List Loc) : Prop := v = none ∧ Fr n0 L ∧ h = h0
set_option maxRecDepth 65536 in
set_option maxHeartbeats 40000000 in
theorem rmOS (l : Launch) (Z : State) (a0 : Array Value) (hw : ∀ d ∈ tables_1, d.before a0 Z = true) (ws : List Jvm.Cond) (a1 : Addr) (h0 : Heap) (n0 : Nat) (Z0 : n0 ≤ h0.size)  :
    MetFree l (⟨"java/io/OutputStream", "<init>", "()V"⟩ : MethodName) (head1 (Jvm.Cond.code (⟨"java/io/OutputStream", "<init>", "()V"⟩ : MethodName) jdk_2038_method_1_code 1 none :: ws) ({ frames := 1, cells := 0, slots := 0, locals := 12 } : Room)) (fun a U => a = #[(.ref a1)] ∧ Z.Warmed39 U.vm ∧ U.heap = h0) (fun _ _ _ _ _ => True) (fun _ U o U' => ∃ v L, o = .returned v ∧ Q_rmOS Z a1 h0 n0 v U'.heap L ∧ FrameEnd U o U' L ({ frames := 1, cells := 0, slots := 0, locals := 12 } : Room).cells ({ frames := 1, cells := 0, slots := 0, locals := 12 } : Room).slots) := by
  refine MetFree.of_bodySF (plainFor_of_name own_pn0) hisR ?_
  intro p e s m args below meth c s₁ Bd hml0 hP hK
  obtain ⟨rfl, hZ, hh⟩ := hP
  have hx := Bd.exec
  have hby := Bd.bytes
  have hml : c.maxLocals = 1 := hml0
  have hown : s.vm.findClass "java/io/OutputStream" = some m.cls := findClass_of_methodNamed Bd.named
  have hnm := (name_of_methodNamed Bd.named Bd.method).1
  have X0 : Stand p l e ({ frames := 1, cells := 0, slots := 0, locals := 12 } : Room) s m #[(.ref a1)] below meth c s₁ [] 0 0 := Stand.of_body Bd
  have e0 : s₁.heap = h0 := by rw [← hh, Bd.state]; rfl
  have N0 := Fr.nil n0
  have R0 : ∀ t, Steps p.tables e below (s₁.setTop (mkF m 0 #[.val (.ref a1)] [])) t → Steps p.tables e below (s₁.setTop (entryFrame m #[(.ref a1)] 1)) t := fun t k => castTop (own_ef_rmOS m a1) k
  have R1 : ∀ t, Steps p.tables e below (s₁.setTop (mkF m 1 #[.val (.ref a1)] [(.ref a1)])) t → Steps p.tables e below (s₁.setTop (entryFrame m #[(.ref a1)] 1)) t := by
    intro t k
    refine R0 t ?_
    show Steps p.tables e below (s₁.setTop (mkF m 0 #[.val (.ref a1)] [])) _
    refine XS.aloadN X0.here hx rfl (hb hby own_d5_0) rfl rfl ?_
    exact k
  obtain ⟨T2, X2, e2, st2⟩ := initO X0 hx hZ hown (hw _ (List.mem_of_getElem? (i := 41) rfl)) (hw _ (List.mem_of_getElem? (i := 19) rfl)) (hw _ (List.mem_of_getElem? (i := 20) rfl)) e0 (g := (mkF m 1 #[.val (.ref a1)] [(.ref a1)])) rfl (by rw [hml]; rfl) rfl (hb hby own_d5_1) (by decide) (W := 0) (by show 2 * 0 + _ ≤ _; exact Nat.le_of_eq rfl) (by decide)
  have R2 : ∀ t, Steps p.tables e below (T2.setTop (mkF m 4 #[.val (.ref a1)] [])) t → Steps p.tables e below (s₁.setTop (entryFrame m #[(.ref a1)] 1)) t := fun t k => R1 t (st2 t k)
  obtain ⟨fs, hr, hrun, hended, hW, hsame⟩ := X2.leave (v := none) (fun _ => rfl)
  refine ⟨_, _, R2 _ ?_, hrun, hended, _, _, rfl, ?_, ⟨_, rfl⟩, hW, hsame.mono (by decide) (by decide)⟩
  · exact X2.returnOut hx Bd.returns (hb hby own_d5_4) hr
  · show Q_rmOS Z a1 h0 n0 _ T2.heap _
    rw [e2]
    exact ⟨rfl, N0, rfl⟩
theorem own_pn1 : plainName "java/io/ByteArrayOutputStream" = true := by first | (simp [plainName, overriddenIn]; done) | decide +kernel
theorem own_ef_rmBA1 (m : MethodId) (x0 : Addr) (x1 : Int32) : entryFrame m #[(.ref x0), (.int x1)] 2 = mkF m 0 #[.val (.ref x0), .val (.int x1)] [] := by first | (simp [entryFrame, mkF, argsToLocals, Value.category]; done) | rfl
theorem own_d4_0 : decode jdk_2005_method_2_code 0 = .ok (.aload_n 0, 1) := by decide +kernel
theorem own_d4_1 : decode jdk_2005_method_2_code 1 = .ok (.invokespecial 7, 3) := by decide +kernel
theorem own_pd0 : parseMethodDescriptor "()V" = some ⟨[], none⟩ := by decide +kernel
theorem own_d4_4 : decode jdk_2005_method_2_code 4 = .ok (.iload_n 1, 1) := by decide +kernel
theorem own_d4_5 : decode jdk_2005_method_2_code 5 = .ok (.ifCond .ge 30, 3) := by decide +kernel
theorem own_d4_35 : decode jdk_2005_method_2_code 35 = .ok (.aload_n 0, 1) := by decide +kernel
theorem own_d4_36 : decode jdk_2005_method_2_code 36 = .ok (.iload_n 1, 1) := by decide +kernel
theorem own_d4_37 : decode jdk_2005_method_2_code 37 = .ok (.newarray .byte, 2) := by decide +kernel
theorem own_d4_39 : decode jdk_2005_method_2_code 39 = .ok (.putfield 33, 3) := by decide +kernel
theorem own_d4_42 : decode jdk_2005_method_2_code 42 = .ok (.return_, 1) := by decide +kernel
def Q_rmBA1 (Z : State) (a1 : Addr) (h0 : Heap) (n0 : Nat) (v : Option Value) (h : Heap) (L : List Loc) : Prop := v = none ∧ Fr n0 L ∧ Keep h0 h [a1]
set_option maxRecDepth 65536 in
set_option maxHeartbeats 40000000 in
theorem rmBA1 (l : Launch) (Z : State) (a0 : Array Value) (hw : ∀ d ∈ tables_1, d.before a0 Z = true) (ws : List Jvm.Cond) (a1 : Addr) (h0 : Heap) (n0 : Nat) (Z0 : n0 ≤ h0.size) (Fb : Fld Z h0 a1 "java/io/ByteArrayOutputStream" "buf" "[B" .null) (Ea : Exa Z h0 a1 "java/io/ByteArrayOutputStream") (g_a1 : n0 ≤ a1) :
    MetFree l (⟨"java/io/ByteArrayOutputStream", "<init>", "(I)V"⟩ : MethodName) (head1 (Jvm.Cond.code (⟨"java/io/ByteArrayOutputStream", "<init>", "(I)V"⟩ : MethodName) jdk_2005_method_2_code 2 none :: ws) ({ frames := 2, cells := 1, slots := 32, locals := 24 } : Room)) (fun a U => a = #[(.ref a1), (.int (32 : Int32))] ∧ Z.Warmed39 U.vm ∧ U.heap = h0) (fun _ _ _ _ _ => True) (fun _ U o U' => ∃ v L, o = .returned v ∧ Q_rmBA1 Z a1 h0 n0 v U'.heap L ∧ FrameEnd U o U' L ({ frames := 2, cells := 1, slots := 32, locals := 24 } : Room).cells ({ frames := 2, cells := 1, slots := 32, locals := 24 } : Room).slots) := by
  refine MetFree.of_bodySF (plainFor_of_name own_pn1) hisR ?_
  intro p e s m args below meth c s₁ Bd hml0 hP hK
  obtain ⟨rfl, hZ, hh⟩ := hP
  have hx := Bd.exec
  have hby := Bd.bytes
  have hml : c.maxLocals = 2 := hml0
  have hown : s.vm.findClass "java/io/ByteArrayOutputStream" = some m.cls := findClass_of_methodNamed Bd.named
  have hnm := (name_of_methodNamed Bd.named Bd.method).1
  have X0 : Stand p l e ({ frames := 2, cells := 1, slots := 32, locals := 24 } : Room) s m #[(.ref a1), (.int (32 : Int32))] below meth c s₁ [] 0 0 := Stand.of_body Bd
  have e0 : s₁.heap = h0 := by rw [← hh, Bd.state]; rfl
  have N0 := Fr.nil n0
  have R0 : ∀ t, Steps p.tables e below (s₁.setTop (mkF m 0 #[.val (.ref a1), .val (.int (32 : Int32))] [])) t → Steps p.tables e below (s₁.setTop (entryFrame m #[(.ref a1), (.int (32 : Int32))] 2)) t := fun t k => castTop (own_ef_rmBA1 m a1 (32 : Int32)) k
  have R1 : ∀ t, Steps p.tables e below (s₁.setTop (mkF m 1 #[.val (.ref a1), .val (.int (32 : Int32))] [(.ref a1)])) t → Steps p.tables e below (s₁.setTop (entryFrame m #[(.ref a1), (.int (32 : Int32))] 2)) t := by
    intro t k
    refine R0 t ?_
    show Steps p.tables e below (s₁.setTop (mkF m 0 #[.val (.ref a1), .val (.int (32 : Int32))] [])) _
    refine XS.aloadN X0.here hx rfl (hb hby own_d4_0) rfl rfl ?_
    exact k
  obtain ⟨_, _, ⟨T2, L2, k2, n2⟩, -, X2, ⟨Lc2, hQ2, l2, y2, z2⟩, st2⟩ := X0.specialBack hx (y := (⟨"java/io/OutputStream", "<init>", "()V"⟩ : MethodName)) rfl hown (mvT hZ (hw _ (List.mem_of_getElem? (i := 35) rfl))) (mvT hZ (hw _ (List.mem_of_getElem? (i := 36) rfl))) (mvT hZ (hw _ (List.mem_of_getElem? (i := 40) rfl))) (by decide) (backOf (W := 0) (rmOS l Z a0 hw [] a1  h0 n0 Z0 ) hZ (hw _ (List.mem_of_getElem? (i := 40) rfl)) (hw _ (List.mem_of_getElem? (i := 39) rfl)) (by decide) (by decide)) (g := (mkF m 1 #[.val (.ref a1), .val (.int (32 : Int32))] [(.ref a1)])) rfl (by rw [hml]; rfl) (Steps.refl _) (a := a1) (argsL := []) (rest := []) (lenOf own_pd0 rfl) rfl (by show 2 * 0 + _ ≤ _; exact Nat.le_of_eq rfl) (hb hby own_d4_1) (fun _ _ => ⟨rfl, e0, (by decide : 0 + 0 ≤ _), (by decide : 0 + 0 ≤ _)⟩)
  dsimp only [Pt.U, Pt.locs, Pt.cells, Pt.slots] at X2 l2 y2 z2 st2 hQ2
  subst l2 y2 z2
  obtain ⟨rfl, Nq2, eq2⟩ := hQ2
  have N2 := Fr.app N0 Nq2
  have R2 : ∀ t, Steps p.tables e below (T2.setTop (mkF m 4 #[.val (.ref a1), .val (.int (32 : Int32))] [])) t → Steps p.tables e below (s₁.setTop (entryFrame m #[(.ref a1), (.int (32 : Int32))] 2)) t := fun t k => R1 t (st2.trans k)
  have R3 : ∀ t, Steps p.tables e below (T2.setTop (mkF m 37 #[.val (.ref a1), .val (.int (32 : Int32))] [(.int (32 : Int32)), (.ref a1)])) t → Steps p.tables e below (s₁.setTop (entryFrame m #[(.ref a1), (.int (32 : Int32))] 2)) t := by
    intro t k
    refine R2 t ?_
    show Steps p.tables e below (T2.setTop (mkF m 4 #[.val (.ref a1), .val (.int (32 : Int32))] [])) _
    refine XS.iloadN X2.here hx rfl (hb hby own_d4_4) rfl ?_
    show Steps p.tables e below (T2.setTop (mkF m 5 #[.val (.ref a1), .val (.int (32 : Int32))] [(.int (32 : Int32))])) _
    refine XS.ifYes X2.here hx rfl (pc0 := 5) (pc' := 35) rfl (hb hby own_d4_5) rfl ((if0 _ _).trans (flt (by decide : ¬ ((32 : Int32) < (0 : Int32)))).2.1) (by decide) (by decide) ?_
    show Steps p.tables e below (T2.setTop (mkF m 35 #[.val (.ref a1), .val (.int (32 : Int32))] [])) _
    refine XS.aloadN X2.here hx rfl (hb hby own_d4_35) rfl rfl ?_
    show Steps p.tables e below (T2.setTop (mkF m 36 #[.val (.ref a1), .val (.int (32 : Int32))] [(.ref a1)])) _
    refine XS.iloadN X2.here hx rfl (hb hby own_d4_36) rfl ?_
    exact k
  obtain ⟨T4, h4, k4, X4, e4, E4, A4, st4⟩ := newP X2 hx hZ (hw _ (List.mem_of_getElem? (i := 42) rfl)) eq2 (g := (mkF m 37 #[.val (.ref a1), .val (.int (32 : Int32))] [(.int (32 : Int32)), (.ref a1)])) rfl (hb hby own_d4_37) rfl (by decide) (cap := 32) (by decide) (by decide) (by decide) (by decide)
  obtain ⟨b4, g4⟩ : ∃ z, z = h0.size := ⟨_, rfl⟩
  rw [← g4] at A4 st4
  have R4 : ∀ t, Steps p.tables e below (T4.setTop (mkF m 39 #[.val (.ref a1), .val (.int (32 : Int32))] [(.ref b4), (.ref a1)])) t → Steps p.tables e below (s₁.setTop (entryFrame m #[(.ref a1), (.int (32 : Int32))] 2)) t := fun t k => R3 t (st4 t k)
  have ne_a1_b4 : a1 ≠ b4 := Nat.ne_of_lt (Nat.lt_of_lt_of_le Fb.lt (Nat.le_of_eq g4.symm))
  have g_b4 : n0 ≤ b4 := Nat.le_trans Z0 (Nat.le_of_eq g4.symm)
  have sz_b4 : h0.size ≤ b4 := Nat.le_trans (Keep.refl h0 [a1]).1 (Nat.le_of_eq g4.symm)
  have Z4 : n0 ≤ h4.size := Nat.le_trans Z0 E4.1
  have K4 : Keep h0 h4 [a1] := (Keep.refl h0 [a1]).ext E4
  have f5 : Fld Z h4 a1 "java/io/ByteArrayOutputStream" "buf" "[B" .null := Fb.ext E4
  have f6 : Exa Z h4 a1 "java/io/ByteArrayOutputStream" := Ea.ext E4
  have V4 : Arv Z h4 b4 k4 .byte (32 : Int32) [(.int (0 : Int32)), (.int (0 : Int32)), (.int (0 : Int32)), (.int (0 : Int32)), (.int (0 : Int32)), (.int (0 : Int32)), (.int (0 : Int32)), (.int (0 : Int32)), (.int (0 : Int32)), (.int (0 : Int32)), (.int (0 : Int32)), (.int (0 : Int32)), (.int (0 : Int32)), (.int (0 : Int32)), (.int (0 : Int32)), (.int (0 : Int32)), (.int (0 : Int32)), (.int (0 : Int32)), (.int (0 : Int32)), (.int (0 : Int32)), (.int (0 : Int32)), (.int (0 : Int32)), (.int (0 : Int32)), (.int (0 : Int32)), (.int (0 : Int32)), (.int (0 : Int32)), (.int (0 : Int32)), (.int (0 : Int32)), (.int (0 : Int32)), (.int (0 : Int32)), (.int (0 : Int32)), (.int (0 : Int32))] (.int (0 : Int32)) := (Arv.new A4 (by decide)).pad (pad_rep [] (.int (0 : Int32)) 32)
  obtain ⟨T7, h7, X7, e7, W7, st7⟩ := putF X4 hx hZ hown (host := "") (Or.inl (hw _ (List.mem_of_getElem? (i := 43) rfl))) Via.refl e4 f5 f6 (Or.inl (hw _ (List.mem_of_getElem? (i := 44) rfl))) (hw _ (List.mem_of_getElem? (i := 26) rfl)) (ty := (.array .byte)) (by decide) rfl rfl (g := (mkF m 39 #[.val (.ref a1), .val (.int (32 : Int32))] [(.ref b4), (.ref a1)])) rfl rfl (hb hby own_d4_39)
  have R7 : ∀ t, Steps p.tables e below (T7.setTop (mkF m 42 #[.val (.ref a1), .val (.int (32 : Int32))] [])) t → Steps p.tables e below (s₁.setTop (entryFrame m #[(.ref a1), (.int (32 : Int32))] 2)) t := fun t k => R4 t (st7 t k)
  have Z7 : n0 ≤ h7.size := Nat.le_trans Z4 (Keep.of_wr W7).1
  have K7 : Keep h0 h7 [a1] := K4.wr W7 (Or.inl (by simp))
  have N7 := Fr.snoc X7 N2 g_a1
  have f8 : Exa Z h7 a1 "java/io/ByteArrayOutputStream" := f6.wr W7
  have f9 : Arv Z h7 b4 k4 .byte (32 : Int32) [(.int (0 : Int32)), (.int (0 : Int32)), (.int (0 : Int32)), (.int (0 : Int32)), (.int (0 : Int32)), (.int (0 : Int32)), (.int (0 : Int32)), (.int (0 : Int32)), (.int (0 : Int32)), (.int (0 : Int32)), (.int (0 : Int32)), (.int (0 : Int32)), (.int (0 : Int32)), (.int (0 : Int32)), (.int (0 : Int32)), (.int (0 : Int32)), (.int (0 : Int32)), (.int (0 : Int32)), (.int (0 : Int32)), (.int (0 : Int32)), (.int (0 : Int32)), (.int (0 : Int32)), (.int (0 : Int32)), (.int (0 : Int32)), (.int (0 : Int32)), (.int (0 : Int32)), (.int (0 : Int32)), (.int (0 : Int32)), (.int (0 : Int32)), (.int (0 : Int32)), (.int (0 : Int32)), (.int (0 : Int32))] (.int (0 : Int32)) := V4.other W7 (Ne.symm ne_a1_b4)
  have Fw7 : Fld Z h7 a1 "java/io/ByteArrayOutputStream" "buf" "[B" (.ref b4) := f5.same W7
  obtain ⟨fs, hr, hrun, hended, hW, hsame⟩ := X7.leave (v := none) (fun _ => rfl)
  refine ⟨_, _, R7 _ ?_, hrun, hended, _, _, rfl, ?_, ⟨_, rfl⟩, hW, hsame.mono (by decide) (by decide)⟩
  · exact X7.returnOut hx Bd.returns (hb hby own_d4_42) hr
  · show Q_rmBA1 Z a1 h0 n0 _ T7.heap _
    rw [e7]
    exact ⟨rfl, N7, K7⟩
theorem own_ef_rmBA0 (m : MethodId) (x0 : Addr) : entryFrame m #[(.ref x0)] 1 = mkF m 0 #[.val (.ref x0)] [] := by first | (simp [entryFrame, mkF, argsToLocals, Value.category]; done) | rfl
theorem own_d3_0 : decode jdk_2005_method_1_code 0 = .ok (.aload_n 0, 1) := by decide +kernel
theorem own_d3_1 : decode jdk_2005_method_1_code 1 = .ok (.bipush 32, 2) := by decide +kernel
theorem own_d3_3 : decode jdk_2005_method_1_code 3 = .ok (.invokespecial 1, 3) := by decide +kernel
theorem own_pd1 : parseMethodDescriptor "(I)V" = some ⟨[.int], none⟩ := by decide +kernel
theorem own_d3_6 : decode jdk_2005_method_1_code 6 = .ok (.return_, 1) := by decide +kernel
def Q_rmBA0 (Z : State) (a1 : Addr) (h0 : Heap) (n0 : Nat) (v : Option Value) (h : Heap) (L : List Loc) : Prop := v = none ∧ Fr n0 L ∧ Keep h0 h [a1]
set_option maxRecDepth 65536 in
set_option maxHeartbeats 40000000 in
theorem rmBA0 (l : Launch) (Z : State) (a0 : Array Value) (hw : ∀ d ∈ tables_1, d.before a0 Z = true) (ws : List Jvm.Cond) (a1 : Addr) (h0 : Heap) (n0 : Nat) (Z0 : n0 ≤ h0.size) (Fb : Fld Z h0 a1 "java/io/ByteArrayOutputStream" "buf" "[B" .null) (Ea : Exa Z h0 a1 "java/io/ByteArrayOutputStream") (g_a1 : n0 ≤ a1) :
    MetFree l (⟨"java/io/ByteArrayOutputStream", "<init>", "()V"⟩ : MethodName) (head1 (Jvm.Cond.code (⟨"java/io/ByteArrayOutputStream", "<init>", "()V"⟩ : MethodName) jdk_2005_method_1_code 1 none :: ws) ({ frames := 3, cells := 1, slots := 32, locals := 37 } : Room)) (fun a U => a = #[(.ref a1)] ∧ Z.Warmed39 U.vm ∧ U.heap = h0) (fun _ _ _ _ _ => True) (fun _ U o U' => ∃ v L, o = .returned v ∧ Q_rmBA0 Z a1 h0 n0 v U'.heap L ∧ FrameEnd U o U' L ({ frames := 3, cells := 1, slots := 32, locals := 37 } : Room).cells ({ frames := 3, cells := 1, slots := 32, locals := 37 } : Room).slots) := by
  refine MetFree.of_bodySF (plainFor_of_name own_pn1) hisR ?_
  intro p e s m args below meth c s₁ Bd hml0 hP hK
  obtain ⟨rfl, hZ, hh⟩ := hP
  have hx := Bd.exec
  have hby := Bd.bytes
  have hml : c.maxLocals = 1 := hml0
  have hown : s.vm.findClass "java/io/ByteArrayOutputStream" = some m.cls := findClass_of_methodNamed Bd.named
  have hnm := (name_of_methodNamed Bd.named Bd.method).1
  have X0 : Stand p l e ({ frames := 3, cells := 1, slots := 32, locals := 37 } : Room) s m #[(.ref a1)] below meth c s₁ [] 0 0 := Stand.of_body Bd
  have e0 : s₁.heap = h0 := by rw [← hh, Bd.state]; rfl
  have N0 := Fr.nil n0
  have R0 : ∀ t, Steps p.tables e below (s₁.setTop (mkF m 0 #[.val (.ref a1)] [])) t → Steps p.tables e below (s₁.setTop (entryFrame m #[(.ref a1)] 1)) t := fun t k => castTop (own_ef_rmBA0 m a1) k
  have R1 : ∀ t, Steps p.tables e below (s₁.setTop (mkF m 3 #[.val (.ref a1)] [(.int (32 : Int32)), (.ref a1)])) t → Steps p.tables e below (s₁.setTop (entryFrame m #[(.ref a1)] 1)) t := by
    intro t k
    refine R0 t ?_
    show Steps p.tables e below (s₁.setTop (mkF m 0 #[.val (.ref a1)] [])) _
    refine XS.aloadN X0.here hx rfl (hb hby own_d3_0) rfl rfl ?_
    show Steps p.tables e below (s₁.setTop (mkF m 1 #[.val (.ref a1)] [(.ref a1)])) _
    refine XS.bipush X0.here hx rfl (hb hby own_d3_1) ?_
    exact k
  obtain ⟨_, _, ⟨T2, L2, k2, n2⟩, -, X2, ⟨Lc2, hQ2, l2, y2, z2⟩, st2⟩ := X0.specialBack hx (y := (⟨"java/io/ByteArrayOutputStream", "<init>", "(I)V"⟩ : MethodName)) rfl hown (mvT hZ (hw _ (List.mem_of_getElem? (i := 31) rfl))) (mvT hZ (hw _ (List.mem_of_getElem? (i := 32) rfl))) (mvT hZ (hw _ (List.mem_of_getElem? (i := 34) rfl))) (by decide) (backOf (W := 0) (rmBA1 l Z a0 hw [] a1 h0 n0 Z0 Fb Ea g_a1) hZ (hw _ (List.mem_of_getElem? (i := 34) rfl)) (hw _ (List.mem_of_getElem? (i := 27) rfl)) (by decide) (by decide)) (g := (mkF m 3 #[.val (.ref a1)] [(.int (32 : Int32)), (.ref a1)])) rfl (by rw [hml]; rfl) (Steps.refl _) (a := a1) (argsL := [(.int (32 : Int32))]) (rest := []) (lenOf own_pd1 rfl) rfl (by show 2 * 0 + _ ≤ _; exact Nat.le_of_eq rfl) (hb hby own_d3_3) (fun _ _ => ⟨rfl, e0, (by decide : 0 + 1 ≤ _), (by decide : 0 + 32 ≤ _)⟩)
  dsimp only [Pt.U, Pt.locs, Pt.cells, Pt.slots] at X2 l2 y2 z2 st2 hQ2
  subst l2 y2 z2
  obtain ⟨rfl, Nq2, Kc2⟩ := hQ2
  have N2 := Fr.app N0 Nq2
  have R2 : ∀ t, Steps p.tables e below (T2.setTop (mkF m 6 #[.val (.ref a1)] [])) t → Steps p.tables e below (s₁.setTop (entryFrame m #[(.ref a1)] 1)) t := fun t k => R1 t (st2.trans k)
  have Z2 : n0 ≤ T2.heap.size := Nat.le_trans Z0 Kc2.1
  have K2 : Keep h0 T2.heap [a1] := (Keep.refl h0 [a1]).trans Kc2 (allS (Or.inl (by simp)) all0)
  have f3 : Exa Z T2.heap a1 "java/io/ByteArrayOutputStream" := Ea.keep Kc2
  obtain ⟨fs, hr, hrun, hended, hW, hsame⟩ := X2.leave (v := none) (fun _ => rfl)
  refine ⟨_, _, R2 _ ?_, hrun, hended, _, _, rfl, ?_, ⟨_, rfl⟩, hW, hsame.mono (by decide) (by decide)⟩
  · exact X2.returnOut hx Bd.returns (hb hby own_d3_6) hr
  · show Q_rmBA0 Z a1 h0 n0 _ T2.heap _
    exact ⟨rfl, N2, K2⟩
theorem own_pn2 : plainName "com/example/terse_graph/tersegraph/PrefixWriter" = true := by first | (simp [plainName, overriddenIn]; done) | decide +kernel
theorem own_ef_rmPI (m : MethodId) (x0 : Addr) : entryFrame m #[(.ref x0)] 1 = mkF m 0 #[.val (.ref x0)] [] := by first | (simp [entryFrame, mkF, argsToLocals, Value.category]; done) | rfl
theorem own_d1_0 : decode prog_127_method_1_code 0 = .ok (.aload_n 0, 1) := by decide +kernel
theorem own_d1_1 : decode prog_127_method_1_code 1 = .ok (.invokespecial 1, 3) := by decide +kernel
theorem own_d1_4 : decode prog_127_method_1_code 4 = .ok (.aload_n 0, 1) := by decide +kernel
theorem own_d1_5 : decode prog_127_method_1_code 5 = .ok (.sipush 256, 3) := by decide +kernel
theorem own_d1_8 : decode prog_127_method_1_code 8 = .ok (.newarray .int, 2) := by decide +kernel
theorem own_d1_10 : decode prog_127_method_1_code 10 = .ok (.putfield 7, 3) := by decide +kernel
theorem own_d1_13 : decode prog_127_method_1_code 13 = .ok (.aload_n 0, 1) := by decide +kernel
theorem own_d1_14 : decode prog_127_method_1_code 14 = .ok (.sipush 256, 3) := by decide +kernel
theorem own_d1_17 : decode prog_127_method_1_code 17 = .ok (.newarray .int, 2) := by decide +kernel
theorem own_d1_19 : decode prog_127_method_1_code 19 = .ok (.putfield 13, 3) := by decide +kernel
theorem own_d1_22 : decode prog_127_method_1_code 22 = .ok (.aload_n 0, 1) := by decide +kernel
theorem own_d1_23 : decode prog_127_method_1_code 23 = .ok (.new 16, 3) := by decide +kernel
theorem own_d1_26 : decode prog_127_method_1_code 26 = .ok (.dup, 1) := by decide +kernel
theorem own_d1_27 : decode prog_127_method_1_code 27 = .ok (.invokespecial 18, 3) := by decide +kernel
theorem own_d1_30 : decode prog_127_method_1_code 30 = .ok (.putfield 19, 3) := by decide +kernel
theorem own_d1_33 : decode prog_127_method_1_code 33 = .ok (.return_, 1) := by decide +kernel
def Q_rmPI (Z : State) (a1 : Addr) (h0 : Heap) (n0 : Nat) (v : Option Value) (h : Heap) (L : List Loc) : Prop := ∃ (ac av : Addr) (kc kv : ClassId), v = none ∧ Fr n0 L ∧ Keep h0 h [a1] ∧ h0.size ≤ ac ∧ h0.size ≤ av ∧ ac ≠ av ∧ own_Wr Z h a1 ac av kc kv []
set_option maxRecDepth 65536 in
set_option maxHeartbeats 40000000 in
theorem rmPI (l : Launch) (Z : State) (a0 : Array Value) (hw : ∀ d ∈ tables_1, d.before a0 Z = true) (ws : List Jvm.Cond) (a1 : Addr) (h0 : Heap) (n0 : Nat) (Z0 : n0 ≤ h0.size) (F_contexts : Fld Z h0 a1 "com/example/terse_graph/tersegraph/PrefixWriter" "contexts" "[I" .null) (F_values : Fld Z h0 a1 "com/example/terse_graph/tersegraph/PrefixWriter" "values" "[I" .null) (F_count : Fld Z h0 a1 "com/example/terse_graph/tersegraph/PrefixWriter" "count" "I" (.int (0 : Int32))) (F_coded : Fld Z h0 a1 "com/example/terse_graph/tersegraph/PrefixWriter" "coded" "Ljava/io/ByteArrayOutputStream;" .null) (Ea : Exa Z h0 a1 "com/example/terse_graph/tersegraph/PrefixWriter") (g_a1 : n0 ≤ a1) :
    MetFree l (⟨"com/example/terse_graph/tersegraph/PrefixWriter", "<init>", "()V"⟩ : MethodName) (head1 (Jvm.Cond.code (⟨"com/example/terse_graph/tersegraph/PrefixWriter", "<init>", "()V"⟩ : MethodName) prog_127_method_1_code 1 none :: ws) ({ frames := 4, cells := 4, slots := 546, locals := 51 } : Room)) (fun a U => a = #[(.ref a1)] ∧ Z.Warmed39 U.vm ∧ U.heap = h0) (fun _ _ _ _ _ => True) (fun _ U o U' => ∃ v L, o = .returned v ∧ Q_rmPI Z a1 h0 n0 v U'.heap L ∧ FrameEnd U o U' L ({ frames := 4, cells := 4, slots := 546, locals := 51 } : Room).cells ({ frames := 4, cells := 4, slots := 546, locals := 51 } : Room).slots) := by
  refine MetFree.of_bodySF (plainFor_of_name own_pn2) hisR ?_
  intro p e s m args below meth c s₁ Bd hml0 hP hK
  obtain ⟨rfl, hZ, hh⟩ := hP
  have hx := Bd.exec
  have hby := Bd.bytes
  have hml : c.maxLocals = 1 := hml0
  have hown : s.vm.findClass "com/example/terse_graph/tersegraph/PrefixWriter" = some m.cls := findClass_of_methodNamed Bd.named
  have hnm := (name_of_methodNamed Bd.named Bd.method).1
  have X0 : Stand p l e ({ frames := 4, cells := 4, slots := 546, locals := 51 } : Room) s m #[(.ref a1)] below meth c s₁ [] 0 0 := Stand.of_body Bd
  have e0 : s₁.heap = h0 := by rw [← hh, Bd.state]; rfl
  have N0 := Fr.nil n0
  have R0 : ∀ t, Steps p.tables e below (s₁.setTop (mkF m 0 #[.val (.ref a1)] [])) t → Steps p.tables e below (s₁.setTop (entryFrame m #[(.ref a1)] 1)) t := fun t k => castTop (own_ef_rmPI m a1) k
  have R1 : ∀ t, Steps p.tables e below (s₁.setTop (mkF m 1 #[.val (.ref a1)] [(.ref a1)])) t → Steps p.tables e below (s₁.setTop (entryFrame m #[(.ref a1)] 1)) t := by
    intro t k
    refine R0 t ?_
    show Steps p.tables e below (s₁.setTop (mkF m 0 #[.val (.ref a1)] [])) _
    refine XS.aloadN X0.here hx rfl (hb hby own_d1_0) rfl rfl ?_
    exact k
  obtain ⟨T2, X2, e2, st2⟩ := initO X0 hx hZ hown (hw _ (List.mem_of_getElem? (i := 18) rfl)) (hw _ (List.mem_of_getElem? (i := 19) rfl)) (hw _ (List.mem_of_getElem? (i := 20) rfl)) e0 (g := (mkF m 1 #[.val (.ref a1)] [(.ref a1)])) rfl (by rw [hml]; rfl) rfl (hb hby own_d1_1) (by decide) (W := 0) (by show 2 * 0 + _ ≤ _; exact Nat.le_of_eq rfl) (by decide)
  have R2 : ∀ t, Steps p.tables e below (T2.setTop (mkF m 4 #[.val (.ref a1)] [])) t → Steps p.tables e below (s₁.setTop (entryFrame m #[(.ref a1)] 1)) t := fun t k => R1 t (st2 t k)
  have R3 : ∀ t, Steps p.tables e below (T2.setTop (mkF m 8 #[.val (.ref a1)] [(.int (256 : Int32)), (.ref a1)])) t → Steps p.tables e below (s₁.setTop (entryFrame m #[(.ref a1)] 1)) t := by
    intro t k
    refine R2 t ?_
    show Steps p.tables e below (T2.setTop (mkF m 4 #[.val (.ref a1)] [])) _
    refine XS.aloadN X2.here hx rfl (hb hby own_d1_4) rfl rfl ?_
    show Steps p.tables e below (T2.setTop (mkF m 5 #[.val (.ref a1)] [(.ref a1)])) _
    refine XS.sipush X2.here hx rfl (hb hby own_d1_5) ?_
    exact k
  obtain ⟨T4, h4, k4, X4, e4, E4, A4, st4⟩ := newP X2 hx hZ (hw _ (List.mem_of_getElem? (i := 0) rfl)) e2 (g := (mkF m 8 #[.val (.ref a1)] [(.int (256 : Int32)), (.ref a1)])) rfl (hb hby own_d1_8) rfl (by decide) (cap := 256) (by decide) (by decide) (by decide) (by decide)
  obtain ⟨b4, g4⟩ : ∃ z, z = h0.size := ⟨_, rfl⟩
  rw [← g4] at A4 st4
  have R4 : ∀ t, Steps p.tables e below (T4.setTop (mkF m 10 #[.val (.ref a1)] [(.ref b4), (.ref a1)])) t → Steps p.tables e below (s₁.setTop (entryFrame m #[(.ref a1)] 1)) t := fun t k => R3 t (st4 t k)
  have ne_a1_b4 : a1 ≠ b4 := Nat.ne_of_lt (Nat.lt_of_lt_of_le F_contexts.lt (Nat.le_of_eq g4.symm))
  have g_b4 : n0 ≤ b4 := Nat.le_trans Z0 (Nat.le_of_eq g4.symm)
  have sz_b4 : h0.size ≤ b4 := Nat.le_trans (Keep.refl h0 [a1]).1 (Nat.le_of_eq g4.symm)
  have Z4 : n0 ≤ h4.size := Nat.le_trans Z0 E4.1
  have K4 : Keep h0 h4 [a1] := (Keep.refl h0 [a1]).ext E4
  have f5 : Fld Z h4 a1 "com/example/terse_graph/tersegraph/PrefixWriter" "contexts" "[I" .null := F_contexts.ext E4
  have f6 : Fld Z h4 a1 "com/example/terse_graph/tersegraph/PrefixWriter" "values" "[I" .null := F_values.ext E4
  have f7 : Fld Z h4 a1 "com/example/terse_graph/tersegraph/PrefixWriter" "count" "I" (.int (0 : Int32)) := F_count.ext E4
  have f8 : Fld Z h4 a1 "com/example/terse_graph/tersegraph/PrefixWriter" "coded" "Ljava/io/ByteArrayOutputStream;" .null := F_coded.ext E4
  have f9 : Exa Z h4 a1 "com/example/terse_graph/tersegraph/PrefixWriter" := Ea.ext E4
  have V4 : Arv Z h4 b4 k4 .int (256 : Int32) [] (.int (0 : Int32)) := Arv.new A4 (by decide)
  obtain ⟨T10, h10, X10, e10, W10, st10⟩ := putF X4 hx hZ hown (host := "") (Or.inl (hw _ (List.mem_of_getElem? (i := 21) rfl))) Via.refl e4 f5 f9 (Or.inl (hw _ (List.mem_of_getElem? (i := 22) rfl))) (hw _ (List.mem_of_getElem? (i := 13) rfl)) (ty := (.array .int)) (by decide) rfl rfl (g := (mkF m 10 #[.val (.ref a1)] [(.ref b4), (.ref a1)])) rfl rfl (hb hby own_d1_10)
  have R10 : ∀ t, Steps p.tables e below (T10.setTop (mkF m 13 #[.val (.ref a1)] [])) t → Steps p.tables e below (s₁.setTop (entryFrame m #[(.ref a1)] 1)) t := fun t k => R4 t (st10 t k)
  have Z10 : n0 ≤ h10.size := Nat.le_trans Z4 (Keep.of_wr W10).1
  have K10 : Keep h0 h10 [a1] := K4.wr W10 (Or.inl (by simp))
  have N10 := Fr.snoc X10 N0 g_a1
  have f11 : Fld Z h10 a1 "com/example/terse_graph/tersegraph/PrefixWriter" "values" "[I" .null := f6.other W10 (Or.inr (slot_ne (Or.inl (hw _ (List.mem_of_getElem? (i := 24) rfl))) (Or.inl (hw _ (List.mem_of_getElem? (i := 22) rfl))) (by decide) (t := (.array .int)) (t' := (.array .int)) (by decide) (by decide)))
  have f12 : Fld Z h10 a1 "com/example/terse_graph/tersegraph/PrefixWriter" "count" "I" (.int (0 : Int32)) := f7.other W10 (Or.inr (slot_ne (Or.inl (hw _ (List.mem_of_getElem? (i := 63) rfl))) (Or.inl (hw _ (List.mem_of_getElem? (i := 22) rfl))) (by decide) (t := .int) (t' := (.array .int)) (by decide) (by decide)))
  have f13 : Fld Z h10 a1 "com/example/terse_graph/tersegraph/PrefixWriter" "coded" "Ljava/io/ByteArrayOutputStream;" .null := f8.other W10 (Or.inr (slot_ne (Or.inr (hw _ (List.mem_of_getElem? (i := 46) rfl))) (Or.inl (hw _ (List.mem_of_getElem? (i := 22) rfl))) (by decide) (t := (.object "java/io/ByteArrayOutputStream")) (t' := (.array .int)) (by decide) (by decide)))
  have f14 : Exa Z h10 a1 "com/example/terse_graph/tersegraph/PrefixWriter" := f9.wr W10
  have f15 : Arv Z h10 b4 k4 .int (256 : Int32) [] (.int (0 : Int32)) := V4.other W10 (Ne.symm ne_a1_b4)
  have Fw10 : Fld Z h10 a1 "com/example/terse_graph/tersegraph/PrefixWriter" "contexts" "[I" (.ref b4) := f5.same W10
  have R16 : ∀ t, Steps p.tables e below (T10.setTop (mkF m 17 #[.val (.ref a1)] [(.int (256 : Int32)), (.ref a1)])) t → Steps p.tables e below (s₁.setTop (entryFrame m #[(.ref a1)] 1)) t := by
    intro t k
    refine R10 t ?_
    show Steps p.tables e below (T10.setTop (mkF m 13 #[.val (.ref a1)] [])) _
    refine XS.aloadN X10.here hx rfl (hb hby own_d1_13) rfl rfl ?_
    show Steps p.tables e below (T10.setTop (mkF m 14 #[.val (.ref a1)] [(.ref a1)])) _
    refine XS.sipush X10.here hx rfl (hb hby own_d1_14) ?_
    exact k
  obtain ⟨T17, h17, k17, X17, e17, E17, A17, st17⟩ := newP X10 hx hZ (hw _ (List.mem_of_getElem? (i := 0) rfl)) e10 (g := (mkF m 17 #[.val (.ref a1)] [(.int (256 : Int32)), (.ref a1)])) rfl (hb hby own_d1_17) rfl (by decide) (cap := 256) (by decide) (by decide) (by decide) (by decide)
  obtain ⟨b17, g17⟩ : ∃ z, z = h10.size := ⟨_, rfl⟩
  rw [← g17] at A17 st17
  have R17 : ∀ t, Steps p.tables e below (T17.setTop (mkF m 19 #[.val (.ref a1)] [(.ref b17), (.ref a1)])) t → Steps p.tables e below (s₁.setTop (entryFrame m #[(.ref a1)] 1)) t := fun t k => R16 t (st17 t k)
  have ne_a1_b17 : a1 ≠ b17 := Nat.ne_of_lt (Nat.lt_of_lt_of_le f11.lt (Nat.le_of_eq g17.symm))
  have ne_b4_b17 : b4 ≠ b17 := Nat.ne_of_lt (Nat.lt_of_lt_of_le f15.lt (Nat.le_of_eq g17.symm))
  have g_b17 : n0 ≤ b17 := Nat.le_trans Z10 (Nat.le_of_eq g17.symm)
  have sz_b17 : h0.size ≤ b17 := Nat.le_trans K10.1 (Nat.le_of_eq g17.symm)
  have Z17 : n0 ≤ h17.size := Nat.le_trans Z10 E17.1
  have K17 : Keep h0 h17 [a1] := K10.ext E17
  have f18 : Fld Z h17 a1 "com/example/terse_graph/tersegraph/PrefixWriter" "values" "[I" .null := f11.ext E17
  have f19 : Fld Z h17 a1 "com/example/terse_graph/tersegraph/PrefixWriter" "count" "I" (.int (0 : Int32)) := f12.ext E17
  have f20 : Fld Z h17 a1 "com/example/terse_graph/tersegraph/PrefixWriter" "coded" "Ljava/io/ByteArrayOutputStream;" .null := f13.ext E17
  have f21 : Exa Z h17 a1 "com/example/terse_graph/tersegraph/PrefixWriter" := f14.ext E17
  have f22 : Arv Z h17 b4 k4 .int (256 : Int32) [] (.int (0 : Int32)) := f15.ext E17
  have f23 : Fld Z h17 a1 "com/example/terse_graph/tersegraph/PrefixWriter" "contexts" "[I" (.ref b4) := Fw10.ext E17
  have V17 : Arv Z h17 b17 k17 .int (256 : Int32) [] (.int (0 : Int32)) := Arv.new A17 (by decide)
  obtain ⟨T24, h24, X24, e24, W24, st24⟩ := putF X17 hx hZ hown (host := "") (Or.inl (hw _ (List.mem_of_getElem? (i := 23) rfl))) Via.refl e17 f18 f21 (Or.inl (hw _ (List.mem_of_getElem? (i := 24) rfl))) (hw _ (List.mem_of_getElem? (i := 13) rfl)) (ty := (.array .int)) (by decide) rfl rfl (g := (mkF m 19 #[.val (.ref a1)] [(.ref b17), (.ref a1)])) rfl rfl (hb hby own_d1_19)
  have R24 : ∀ t, Steps p.tables e below (T24.setTop (mkF m 22 #[.val (.ref a1)] [])) t → Steps p.tables e below (s₁.setTop (entryFrame m #[(.ref a1)] 1)) t := fun t k => R17 t (st24 t k)
  have Z24 : n0 ≤ h24.size := Nat.le_trans Z17 (Keep.of_wr W24).1
  have K24 : Keep h0 h24 [a1] := K17.wr W24 (Or.inl (by simp))
  have N24 := Fr.snoc X24 N10 g_a1
  have f25 : Fld Z h24 a1 "com/example/terse_graph/tersegraph/PrefixWriter" "count" "I" (.int (0 : Int32)) := f19.other W24 (Or.inr (slot_ne (Or.inl (hw _ (List.mem_of_getElem? (i := 63) rfl))) (Or.inl (hw _ (List.mem_of_getElem? (i := 24) rfl))) (by decide) (t := .int) (t' := (.array .int)) (by decide) (by decide)))
  have f26 : Fld Z h24 a1 "com/example/terse_graph/tersegraph/PrefixWriter" "coded" "Ljava/io/ByteArrayOutputStream;" .null := f20.other W24 (Or.inr (slot_ne (Or.inr (hw _ (List.mem_of_getElem? (i := 46) rfl))) (Or.inl (hw _ (List.mem_of_getElem? (i := 24) rfl))) (by decide) (t := (.object "java/io/ByteArrayOutputStream")) (t' := (.array .int)) (by decide) (by decide)))
  have f27 : Exa Z h24 a1 "com/example/terse_graph/tersegraph/PrefixWriter" := f21.wr W24
  have f28 : Arv Z h24 b4 k4 .int (256 : Int32) [] (.int (0 : Int32)) := f22.other W24 (Ne.symm ne_a1_b4)
  have f29 : Fld Z h24 a1 "com/example/terse_graph/tersegraph/PrefixWriter" "contexts" "[I" (.ref b4) := f23.other W24 (Or.inr (slot_ne (Or.inl (hw _ (List.mem_of_getElem? (i := 22) rfl))) (Or.inl (hw _ (List.mem_of_getElem? (i := 24) rfl))) (by decide) (t := (.array .int)) (t' := (.array .int)) (by decide) (by decide)))
  have f30 : Arv Z h24 b17 k17 .int (256 : Int32) [] (.int (0 : Int32)) := V17.other W24 (Ne.symm ne_a1_b17)
  have Fw24 : Fld Z h24 a1 "com/example/terse_graph/tersegraph/PrefixWriter" "values" "[I" (.ref b17) := f18.same W24
  have R31 : ∀ t, Steps p.tables e below (T24.setTop (mkF m 23 #[.val (.ref a1)] [(.ref a1)])) t → Steps p.tables e below (s₁.setTop (entryFrame m #[(.ref a1)] 1)) t := by
    intro t k
    refine R24 t ?_
    show Steps p.tables e below (T24.setTop (mkF m 22 #[.val (.ref a1)] [])) _
    refine XS.aloadN X24.here hx rfl (hb hby own_d1_22) rfl rfl ?_
    exact k
  obtain ⟨T32, h32, X32, e32, E32, A32, D32, -, st32⟩ := newO X24 hx hZ hown (hw _ (List.mem_of_getElem? (i := 25) rfl)) (hw _ (List.mem_of_getElem? (i := 26) rfl)) (hw _ (List.mem_of_getElem? (i := 27) rfl)) e24 (g := (mkF m 23 #[.val (.ref a1)] [(.ref a1)])) rfl (hb hby own_d1_23) (by decide) (by decide)
  obtain ⟨b32, g32⟩ : ∃ z, z = h24.size := ⟨_, rfl⟩
  rw [← g32] at A32 D32 st32
  have R32 : ∀ t, Steps p.tables e below (T32.setTop (mkF m 26 #[.val (.ref a1)] [(.ref b32), (.ref a1)])) t → Steps p.tables e below (s₁.setTop (entryFrame m #[(.ref a1)] 1)) t := fun t k => R31 t (st32 t k)
  have ne_a1_b32 : a1 ≠ b32 := Nat.ne_of_lt (Nat.lt_of_lt_of_le f25.lt (Nat.le_of_eq g32.symm))
  have ne_b17_b32 : b17 ≠ b32 := Nat.ne_of_lt (Nat.lt_of_lt_of_le f30.lt (Nat.le_of_eq g32.symm))
  have ne_b4_b32 : b4 ≠ b32 := Nat.ne_of_lt (Nat.lt_of_lt_of_le f28.lt (Nat.le_of_eq g32.symm))
  have g_b32 : n0 ≤ b32 := Nat.le_trans Z24 (Nat.le_of_eq g32.symm)
  have sz_b32 : h0.size ≤ b32 := Nat.le_trans K24.1 (Nat.le_of_eq g32.symm)
  have Z32 : n0 ≤ h32.size := Nat.le_trans Z24 E32.1
  have K32 : Keep h0 h32 [a1] := K24.ext E32
  have f33 : Fld Z h32 a1 "com/example/terse_graph/tersegraph/PrefixWriter" "count" "I" (.int (0 : Int32)) := f25.ext E32
  have f34 : Fld Z h32 a1 "com/example/terse_graph/tersegraph/PrefixWriter" "coded" "Ljava/io/ByteArrayOutputStream;" .null := f26.ext E32
  have f35 : Exa Z h32 a1 "com/example/terse_graph/tersegraph/PrefixWriter" := f27.ext E32
  have f36 : Arv Z h32 b4 k4 .int (256 : Int32) [] (.int (0 : Int32)) := f28.ext E32
  have f37 : Fld Z h32 a1 "com/example/terse_graph/tersegraph/PrefixWriter" "contexts" "[I" (.ref b4) := f29.ext E32
  have f38 : Arv Z h32 b17 k17 .int (256 : Int32) [] (.int (0 : Int32)) := f30.ext E32
  have f39 : Fld Z h32 a1 "com/example/terse_graph/tersegraph/PrefixWriter" "values" "[I" (.ref b17) := Fw24.ext E32
  have F32_44 : Fld Z h32 b32 "java/io/ByteArrayOutputStream" "buf" "[B" .null := D32 (Or.inl (hw _ (List.mem_of_getElem? (i := 44) rfl))) (ty := (.array .byte)) (by decide)
  have R40 : ∀ t, Steps p.tables e below (T32.setTop (mkF m 27 #[.val (.ref a1)] [(.ref b32), (.ref b32), (.ref a1)])) t → Steps p.tables e below (s₁.setTop (entryFrame m #[(.ref a1)] 1)) t := by
    intro t k
    refine R32 t ?_
    show Steps p.tables e below (T32.setTop (mkF m 26 #[.val (.ref a1)] [(.ref b32), (.ref a1)])) _
    refine XS.dup X32.here hx rfl (hb hby own_d1_26) rfl rfl ?_
    exact k
  obtain ⟨_, _, ⟨T41, L41, k41, n41⟩, -, X41, ⟨Lc41, hQ41, l41, y41, z41⟩, st41⟩ := X32.specialBack hx (y := (⟨"java/io/ByteArrayOutputStream", "<init>", "()V"⟩ : MethodName)) rfl hown (mvT hZ (hw _ (List.mem_of_getElem? (i := 28) rfl))) (mvT hZ (hw _ (List.mem_of_getElem? (i := 29) rfl))) (mvT hZ (hw _ (List.mem_of_getElem? (i := 30) rfl))) (by decide) (backOf (W := 2) (rmBA0 l Z a0 hw [] b32  h32 n0 Z32 F32_44 A32 g_b32) hZ (hw _ (List.mem_of_getElem? (i := 30) rfl)) (hw _ (List.mem_of_getElem? (i := 27) rfl)) (by decide) (by decide)) (g := (mkF m 27 #[.val (.ref a1)] [(.ref b32), (.ref b32), (.ref a1)])) rfl (by rw [hml]; rfl) (Steps.refl _) (a := b32) (argsL := []) (rest := [(.ref b32), (.ref a1)]) (lenOf own_pd0 rfl) rfl (by show 2 * 0 + _ ≤ _; exact Nat.le_of_eq rfl) (hb hby own_d1_27) (fun _ _ => ⟨rfl, e32, (by decide : 3 + 1 ≤ _), (by decide : 514 + 32 ≤ _)⟩)
  dsimp only [Pt.U, Pt.locs, Pt.cells, Pt.slots] at X41 l41 y41 z41 st41 hQ41
  subst l41 y41 z41
  obtain ⟨rfl, Nq41, Kc41⟩ := hQ41
  have N41 := Fr.app N24 Nq41
  have R41 : ∀ t, Steps p.tables e below (T41.setTop (mkF m 30 #[.val (.ref a1)] [(.ref b32), (.ref a1)])) t → Steps p.tables e below (s₁.setTop (entryFrame m #[(.ref a1)] 1)) t := fun t k => R40 t (st41.trans k)
  have Z41 : n0 ≤ T41.heap.size := Nat.le_trans Z32 Kc41.1
  have K41 : Keep h0 T41.heap [a1] := K32.trans Kc41 (allS (Or.inr sz_b32) all0)
  have f42 : Fld Z T41.heap a1 "com/example/terse_graph/tersegraph/PrefixWriter" "count" "I" (.int (0 : Int32)) := f33.keep Kc41 (ninS ne_a1_b32 nin0)
  have f43 : Fld Z T41.heap a1 "com/example/terse_graph/tersegraph/PrefixWriter" "coded" "Ljava/io/ByteArrayOutputStream;" .null := f34.keep Kc41 (ninS ne_a1_b32 nin0)
  have f44 : Exa Z T41.heap a1 "com/example/terse_graph/tersegraph/PrefixWriter" := f35.keep Kc41
  have f45 : Arv Z T41.heap b4 k4 .int (256 : Int32) [] (.int (0 : Int32)) := f36.keep Kc41 (ninS ne_b4_b32 nin0)
  have f46 : Fld Z T41.heap a1 "com/example/terse_graph/tersegraph/PrefixWriter" "contexts" "[I" (.ref b4) := f37.keep Kc41 (ninS ne_a1_b32 nin0)
  have f47 : Arv Z T41.heap b17 k17 .int (256 : Int32) [] (.int (0 : Int32)) := f38.keep Kc41 (ninS ne_b17_b32 nin0)
  have f48 : Fld Z T41.heap a1 "com/example/terse_graph/tersegraph/PrefixWriter" "values" "[I" (.ref b17) := f39.keep Kc41 (ninS ne_a1_b32 nin0)
  have f49 : Exa Z T41.heap b32 "java/io/ByteArrayOutputStream" := A32.keep Kc41
  obtain ⟨T50, h50, X50, e50, W50, st50⟩ := putF X41 hx hZ hown (host := "") (Or.inl (hw _ (List.mem_of_getElem? (i := 45) rfl))) Via.refl rfl f43 f44 (Or.inr ⟨(hw _ (List.mem_of_getElem? (i := 46) rfl)), rfl, hnm⟩) (hw _ (List.mem_of_getElem? (i := 13) rfl)) (ty := (.object "java/io/ByteArrayOutputStream")) (by decide) rfl rfl (g := (mkF m 30 #[.val (.ref a1)] [(.ref b32), (.ref a1)])) rfl rfl (hb hby own_d1_30)
  have R50 : ∀ t, Steps p.tables e below (T50.setTop (mkF m 33 #[.val (.ref a1)] [])) t → Steps p.tables e below (s₁.setTop (entryFrame m #[(.ref a1)] 1)) t := fun t k => R41 t (st50 t k)
  have Z50 : n0 ≤ h50.size := Nat.le_trans Z41 (Keep.of_wr W50).1
  have K50 : Keep h0 h50 [a1] := K41.wr W50 (Or.inl (by simp))
  have N50 := Fr.snoc X50 N41 g_a1
  have f51 : Fld Z h50 a1 "com/example/terse_graph/tersegraph/PrefixWriter" "count" "I" (.int (0 : Int32)) := f42.other W50 (Or.inr (slot_ne (Or.inl (hw _ (List.mem_of_getElem? (i := 63) rfl))) (Or.inr (hw _ (List.mem_of_getElem? (i := 46) rfl))) (by decide) (t := .int) (t' := (.object "java/io/ByteArrayOutputStream")) (by decide) (by decide)))
  have f52 : Exa Z h50 a1 "com/example/terse_graph/tersegraph/PrefixWriter" := f44.wr W50
  have f53 : Arv Z h50 b4 k4 .int (256 : Int32) [] (.int (0 : Int32)) := f45.other W50 (Ne.symm ne_a1_b4)
  have f54 : Fld Z h50 a1 "com/example/terse_graph/tersegraph/PrefixWriter" "contexts" "[I" (.ref b4) := f46.other W50 (Or.inr (slot_ne (Or.inl (hw _ (List.mem_of_getElem? (i := 22) rfl))) (Or.inr (hw _ (List.mem_of_getElem? (i := 46) rfl))) (by decide) (t := (.array .int)) (t' := (.object "java/io/ByteArrayOutputStream")) (by decide) (by decide)))
  have f55 : Arv Z h50 b17 k17 .int (256 : Int32) [] (.int (0 : Int32)) := f47.other W50 (Ne.symm ne_a1_b17)
  have f56 : Fld Z h50 a1 "com/example/terse_graph/tersegraph/PrefixWriter" "values" "[I" (.ref b17) := f48.other W50 (Or.inr (slot_ne (Or.inl (hw _ (List.mem_of_getElem? (i := 24) rfl))) (Or.inr (hw _ (List.mem_of_getElem? (i := 46) rfl))) (by decide) (t := (.array .int)) (t' := (.object "java/io/ByteArrayOutputStream")) (by decide) (by decide)))
  have f57 : Exa Z h50 b32 "java/io/ByteArrayOutputStream" := f49.wr W50
  have Fw50 : Fld Z h50 a1 "com/example/terse_graph/tersegraph/PrefixWriter" "coded" "Ljava/io/ByteArrayOutputStream;" (.ref b32) := f43.same W50
  obtain ⟨fs, hr, hrun, hended, hW, hsame⟩ := X50.leave (v := none) (fun _ => rfl)
  refine ⟨_, _, R50 _ ?_, hrun, hended, _, _, rfl, ?_, ⟨_, rfl⟩, hW, hsame.mono (by decide) (by decide)⟩
  · exact X50.returnOut hx Bd.returns (hb hby own_d1_33) hr
  · show Q_rmPI Z a1 h0 n0 _ T50.heap _
    rw [e50]
    exact ⟨b4, b17, k4, k17, rfl, N50, K50, sz_b4, sz_b17, ne_b4_b17, f54, f56, f51, f52, f53, f55⟩
theorem own_ef_rmAdd (m : MethodId) (x0 : Addr) (x1 : Int32) (x2 : Int32) : entryFrame m #[(.ref x0), (.int x1), (.int x2)] 3 = mkF m 0 #[.val (.ref x0), .val (.int x1), .val (.int x2)] [] := by first | (simp [entryFrame, mkF, argsToLocals, Value.category]; done) | rfl
theorem own_d9_0 : decode prog_127_method_3_code 0 = .ok (.aload_n 0, 1) := by decide +kernel
theorem own_d9_1 : decode prog_127_method_3_code 1 = .ok (.getfield 23, 3) := by decide +kernel
theorem own_d9_4 : decode prog_127_method_3_code 4 = .ok (.aload_n 0, 1) := by decide +kernel
theorem own_d9_5 : decode prog_127_method_3_code 5 = .ok (.getfield 7, 3) := by decide +kernel
theorem own_d9_8 : decode prog_127_method_3_code 8 = .ok (.arraylength, 1) := by decide +kernel
theorem own_d9_9 : decode prog_127_method_3_code 9 = .ok (.if_icmp .ne 37, 3) := by decide +kernel
theorem own_d9_46 : decode prog_127_method_3_code 46 = .ok (.aload_n 0, 1) := by decide +kernel
theorem own_d9_47 : decode prog_127_method_3_code 47 = .ok (.getfield 7, 3) := by decide +kernel
theorem own_d9_50 : decode prog_127_method_3_code 50 = .ok (.aload_n 0, 1) := by decide +kernel
theorem own_d9_51 : decode prog_127_method_3_code 51 = .ok (.getfield 23, 3) := by decide +kernel
theorem own_d9_54 : decode prog_127_method_3_code 54 = .ok (.iload_n 1, 1) := by decide +kernel
theorem own_d9_55 : decode prog_127_method_3_code 55 = .ok (.iastore, 1) := by decide +kernel
theorem own_d9_56 : decode prog_127_method_3_code 56 = .ok (.aload_n 0, 1) := by decide +kernel
theorem own_d9_57 : decode prog_127_method_3_code 57 = .ok (.getfield 13, 3) := by decide +kernel
theorem own_d9_60 : decode prog_127_method_3_code 60 = .ok (.aload_n 0, 1) := by decide +kernel
theorem own_d9_61 : decode prog_127_method_3_code 61 = .ok (.getfield 23, 3) := by decide +kernel
theorem own_d9_64 : decode prog_127_method_3_code 64 = .ok (.iload_n 2, 1) := by decide +kernel
theorem own_d9_65 : decode prog_127_method_3_code 65 = .ok (.iastore, 1) := by decide +kernel
theorem own_d9_66 : decode prog_127_method_3_code 66 = .ok (.aload_n 0, 1) := by decide +kernel
theorem own_d9_67 : decode prog_127_method_3_code 67 = .ok (.dup, 1) := by decide +kernel
theorem own_d9_68 : decode prog_127_method_3_code 68 = .ok (.getfield 23, 3) := by decide +kernel
theorem own_d9_71 : decode prog_127_method_3_code 71 = .ok (.iconst 1, 1) := by decide +kernel
theorem own_d9_72 : decode prog_127_method_3_code 72 = .ok (.iadd, 1) := by decide +kernel
theorem own_d9_73 : decode prog_127_method_3_code 73 = .ok (.putfield 23, 3) := by decide +kernel
theorem own_d9_76 : decode prog_127_method_3_code 76 = .ok (.return_, 1) := by decide +kernel
def Q_rmAdd (Z : State) (a1 : Addr) (p2 p3 : Int32) (ac av : Addr) (kc kv : ClassId) (es : own_E) (h0 : Heap) (n0 : Nat) (v : Option Value) (h : Heap) (L : List Loc) : Prop := v = none ∧ Fr n0 L ∧ Keep h0 h [a1, ac, av] ∧ own_Wr Z h a1 ac av kc kv (es ++ [(p2, p3)])
set_option maxRecDepth 65536 in
set_option maxHeartbeats 40000000 in
theorem rmAdd (l : Launch) (Z : State) (a0 : Array Value) (hw : ∀ d ∈ tables_1, d.before a0 Z = true) (ws : List Jvm.Cond) (a1 : Addr) (p2 p3 : Int32) (ac av : Addr) (kc kv : ClassId) (es : own_E) (h0 : Heap) (n0 : Nat) (Z0 : n0 ≤ h0.size) (Hw : own_Wr Z h0 a1 ac av kc kv es) (g_a1 : n0 ≤ a1) (g_ac : n0 ≤ ac) (g_av : n0 ≤ av) (ne_a1_ac : a1 ≠ ac) (ne_a1_av : a1 ≠ av) (ne_ac_av : ac ≠ av) (hl : es.length < 256) :
    MetFree l (⟨"com/example/terse_graph/tersegraph/PrefixWriter", "add", "(II)V"⟩ : MethodName) (head1 (Jvm.Cond.code (⟨"com/example/terse_graph/tersegraph/PrefixWriter", "add", "(II)V"⟩ : MethodName) prog_127_method_3_code 3 none :: ws) ({ frames := 0, cells := 0, slots := 0, locals := 0 } : Room)) (fun a U => a = #[(.ref a1), (.int p2), (.int p3)] ∧ Z.Warmed39 U.vm ∧ U.heap = h0) (fun _ _ _ _ _ => True) (fun _ U o U' => ∃ v L, o = .returned v ∧ Q_rmAdd Z a1 p2 p3 ac av kc kv es h0 n0 v U'.heap L ∧ FrameEnd U o U' L ({ frames := 0, cells := 0, slots := 0, locals := 0 } : Room).cells ({ frames := 0, cells := 0, slots := 0, locals := 0 } : Room).slots) := by
  refine MetFree.of_bodySF (plainFor_of_name own_pn2) hisR ?_
  intro p e s m args below meth c s₁ Bd hml0 hP hK
  obtain ⟨rfl, hZ, hh⟩ := hP
  have hx := Bd.exec
  have hby := Bd.bytes
  have hml : c.maxLocals = 3 := hml0
  have hown : s.vm.findClass "com/example/terse_graph/tersegraph/PrefixWriter" = some m.cls := findClass_of_methodNamed Bd.named
  have hnm := (name_of_methodNamed Bd.named Bd.method).1
  have X0 : Stand p l e ({ frames := 0, cells := 0, slots := 0, locals := 0 } : Room) s m #[(.ref a1), (.int p2), (.int p3)] below meth c s₁ [] 0 0 := Stand.of_body Bd
  have e0 : s₁.heap = h0 := by rw [← hh, Bd.state]; rfl
  have N0 := Fr.nil n0
  have R0 : ∀ t, Steps p.tables e below (s₁.setTop (mkF m 0 #[.val (.ref a1), .val (.int p2), .val (.int p3)] [])) t → Steps p.tables e below (s₁.setTop (entryFrame m #[(.ref a1), (.int p2), (.int p3)] 3)) t := fun t k => castTop (own_ef_rmAdd m a1 p2 p3) k
  obtain ⟨fa1, fb1, fc1, fe1, va1, vb1⟩ := id Hw
  have R2 : ∀ t, Steps p.tables e below (s₁.setTop (mkF m 1 #[.val (.ref a1), .val (.int p2), .val (.int p3)] [(.ref a1)])) t → Steps p.tables e below (s₁.setTop (entryFrame m #[(.ref a1), (.int p2), (.int p3)] 3)) t := by
    intro t k
    refine R0 t ?_
    show Steps p.tables e below (s₁.setTop (mkF m 0 #[.val (.ref a1), .val (.int p2), .val (.int p3)] [])) _
    refine XS.aloadN X0.here hx rfl (hb hby own_d9_0) rfl rfl ?_
    exact k
  obtain ⟨T3, X3, e3, st3⟩ := getF X0 hx hZ hown (host := "") (Or.inl (hw _ (List.mem_of_getElem? (i := 62) rfl))) Via.refl e0 fc1 (g := (mkF m 1 #[.val (.ref a1), .val (.int p2), .val (.int p3)] [(.ref a1)])) rfl rfl (hb hby own_d9_1)
  have R3 : ∀ t, Steps p.tables e below (T3.setTop (mkF m 4 #[.val (.ref a1), .val (.int p2), .val (.int p3)] [(.int (own_n es))])) t → Steps p.tables e below (s₁.setTop (entryFrame m #[(.ref a1), (.int p2), (.int p3)] 3)) t := fun t k => R2 t (st3 t k)
  have R4 : ∀ t, Steps p.tables e below (T3.setTop (mkF m 5 #[.val (.ref a1), .val (.int p2), .val (.int p3)] [(.ref a1), (.int (own_n es))])) t → Steps p.tables e below (s₁.setTop (entryFrame m #[(.ref a1), (.int p2), (.int p3)] 3)) t := by
    intro t k
    refine R3 t ?_
    show Steps p.tables e below (T3.setTop (mkF m 4 #[.val (.ref a1), .val (.int p2), .val (.int p3)] [(.int (own_n es))])) _
    refine XS.aloadN X3.here hx rfl (hb hby own_d9_4) rfl rfl ?_
    exact k
  obtain ⟨T5, X5, e5, st5⟩ := getF X3 hx hZ hown (host := "") (Or.inl (hw _ (List.mem_of_getElem? (i := 21) rfl))) Via.refl e3 fa1 (g := (mkF m 5 #[.val (.ref a1), .val (.int p2), .val (.int p3)] [(.ref a1), (.int (own_n es))])) rfl rfl (hb hby own_d9_5)
  have R5 : ∀ t, Steps p.tables e below (T5.setTop (mkF m 8 #[.val (.ref a1), .val (.int p2), .val (.int p3)] [(.ref ac), (.int (own_n es))])) t → Steps p.tables e below (s₁.setTop (entryFrame m #[(.ref a1), (.int p2), (.int p3)] 3)) t := fun t k => R4 t (st5 t k)
  obtain ⟨cl6, Ar6, q6, S6, N6', H6, G6⟩ := id va1
  have R7 : ∀ t, Steps p.tables e below (T5.setTop (mkF m 47 #[.val (.ref a1), .val (.int p2), .val (.int p3)] [(.ref a1)])) t → Steps p.tables e below (s₁.setTop (entryFrame m #[(.ref a1), (.int p2), (.int p3)] 3)) t := by
    intro t k
    refine R5 t ?_
    show Steps p.tables e below (T5.setTop (mkF m 8 #[.val (.ref a1), .val (.int p2), .val (.int p3)] [(.ref ac), (.int (own_n es))])) _
    refine X5.arraylength hx (by rw [e5]; exact Ar6.1) (State.isArrayOf_alike hZ.alike Ar6.2.1) (g := (mkF m 8 #[.val (.ref a1), .val (.int p2), .val (.int p3)] [(.ref ac), (.int (own_n es))])) rfl rfl (hb hby own_d9_8) _ ?_
    rw [len_of S6 N6']
    show Steps p.tables e below (T5.setTop (mkF m 9 #[.val (.ref a1), .val (.int p2), .val (.int p3)] [(.int (256 : Int32)), (.int (own_n es))])) _
    refine XS.icmpYes X5.here hx rfl (pc0 := 9) (pc' := 46) rfl (hb hby own_d9_9) rfl (feq (own_n_ne hl)).2 (by decide) (by decide) ?_
    show Steps p.tables e below (T5.setTop (mkF m 46 #[.val (.ref a1), .val (.int p2), .val (.int p3)] [])) _
    refine XS.aloadN X5.here hx rfl (hb hby own_d9_46) rfl rfl ?_
    exact k
  obtain ⟨T8, X8, e8, st8⟩ := getF X5 hx hZ hown (host := "") (Or.inl (hw _ (List.mem_of_getElem? (i := 21) rfl))) Via.refl e5 fa1 (g := (mkF m 47 #[.val (.ref a1), .val (.int p2), .val (.int p3)] [(.ref a1)])) rfl rfl (hb hby own_d9_47)
  have R8 : ∀ t, Steps p.tables e below (T8.setTop (mkF m 50 #[.val (.ref a1), .val (.int p2), .val (.int p3)] [(.ref ac)])) t → Steps p.tables e below (s₁.setTop (entryFrame m #[(.ref a1), (.int p2), (.int p3)] 3)) t := fun t k => R7 t (st8 t k)
  have R9 : ∀ t, Steps p.tables e below (T8.setTop (mkF m 51 #[.val (.ref a1), .val (.int p2), .val (.int p3)] [(.ref a1), (.ref ac)])) t → Steps p.tables e below (s₁.setTop (entryFrame m #[(.ref a1), (.int p2), (.int p3)] 3)) t := by
    intro t k
    refine R8 t ?_
    show Steps p.tables e below (T8.setTop (mkF m 50 #[.val (.ref a1), .val (.int p2), .val (.int p3)] [(.ref ac)])) _
    refine XS.aloadN X8.here hx rfl (hb hby own_d9_50) rfl rfl ?_
    exact k
  obtain ⟨T10, X10, e10, st10⟩ := getF X8 hx hZ hown (host := "") (Or.inl (hw _ (List.mem_of_getElem? (i := 62) rfl))) Via.refl e8 fc1 (g := (mkF m 51 #[.val (.ref a1), .val (.int p2), .val (.int p3)] [(.ref a1), (.ref ac)])) rfl rfl (hb hby own_d9_51)
  have R10 : ∀ t, Steps p.tables e below (T10.setTop (mkF m 54 #[.val (.ref a1), .val (.int p2), .val (.int p3)] [(.int (own_n es)), (.ref ac)])) t → Steps p.tables e below (s₁.setTop (entryFrame m #[(.ref a1), (.int p2), (.int p3)] 3)) t := fun t k => R9 t (st10 t k)
  have R11 : ∀ t, Steps p.tables e below (T10.setTop (mkF m 55 #[.val (.ref a1), .val (.int p2), .val (.int p3)] [(.int p2), (.int (own_n es)), (.ref ac)])) t → Steps p.tables e below (s₁.setTop (entryFrame m #[(.ref a1), (.int p2), (.int p3)] 3)) t := by
    intro t k
    refine R10 t ?_
    show Steps p.tables e below (T10.setTop (mkF m 54 #[.val (.ref a1), .val (.int p2), .val (.int p3)] [(.int (own_n es)), (.ref ac)])) _
    refine XS.iloadN X10.here hx rfl (hb hby own_d9_54) rfl ?_
    exact k
  obtain ⟨cl12, Ar12, q12, S12, N12', H12, G12⟩ := id va1
  have hin12 : ¬ ((own_n es) < 0 ∨ cl12.slots.size ≤ ((own_n es)).toNatClampNeg) := inb_of S12 (own_n_in hl)
  obtain ⟨T13, h13, X13, e13, W13, st13⟩ := stI X10 hx hZ e10 Ar12 (j := (own_n es)) hin12 (g := (mkF m 55 #[.val (.ref a1), .val (.int p2), .val (.int p3)] [(.int p2), (.int (own_n es)), (.ref ac)])) rfl rfl (hb hby own_d9_55)
  have R13 : ∀ t, Steps p.tables e below (T13.setTop (mkF m 56 #[.val (.ref a1), .val (.int p2), .val (.int p3)] [])) t → Steps p.tables e below (s₁.setTop (entryFrame m #[(.ref a1), (.int p2), (.int p3)] 3)) t := fun t k => R11 t (st13 t k)
  have Z13 : n0 ≤ h13.size := Nat.le_trans Z0 (Keep.of_wr W13).1
  have K13 : Keep h0 h13 [a1, ac, av] := (Keep.refl h0 [a1, ac, av]).wr W13 (Or.inl (by simp))
  have N13 := Fr.snoc X13 N0 g_ac
  have f14 : Fld Z h13 a1 "com/example/terse_graph/tersegraph/PrefixWriter" "contexts" "[I" (.ref ac) := fa1.other W13 (Or.inl ne_a1_ac)
  have f15 : Fld Z h13 a1 "com/example/terse_graph/tersegraph/PrefixWriter" "values" "[I" (.ref av) := fb1.other W13 (Or.inl ne_a1_ac)
  have f16 : Fld Z h13 a1 "com/example/terse_graph/tersegraph/PrefixWriter" "count" "I" (.int (own_n es)) := fc1.other W13 (Or.inl ne_a1_ac)
  have f17 : Exa Z h13 a1 "com/example/terse_graph/tersegraph/PrefixWriter" := fe1.wr W13
  have f18 : Arv Z h13 av kv .int (256 : Int32) (own_vs es) (.int (0 : Int32)) := vb1.other W13 (Ne.symm ne_ac_av)
  have V13 : Arv Z h13 ac kc .int (256 : Int32) (own_cs (es ++ [(p2, p3)])) (.int (0 : Int32)) := by rw [own_cs_snoc]; exact own_push Ar12 q12 S12 N12' H12 G12 rfl W13 (by rw [own_len_cs]; exact own_n_clamp (by omega))
  have R19 : ∀ t, Steps p.tables e below (T13.setTop (mkF m 57 #[.val (.ref a1), .val (.int p2), .val (.int p3)] [(.ref a1)])) t → Steps p.tables e below (s₁.setTop (entryFrame m #[(.ref a1), (.int p2), (.int p3)] 3)) t := by
    intro t k
    refine R13 t ?_
    show Steps p.tables e below (T13.setTop (mkF m 56 #[.val (.ref a1), .val (.int p2), .val (.int p3)] [])) _
    refine XS.aloadN X13.here hx rfl (hb hby own_d9_56) rfl rfl ?_
    exact k
  obtain ⟨T20, X20, e20, st20⟩ := getF X13 hx hZ hown (host := "") (Or.inl (hw _ (List.mem_of_getElem? (i := 23) rfl))) Via.refl e13 f15 (g := (mkF m 57 #[.val (.ref a1), .val (.int p2), .val (.int p3)] [(.ref a1)])) rfl rfl (hb hby own_d9_57)
  have R20 : ∀ t, Steps p.tables e below (T20.setTop (mkF m 60 #[.val (.ref a1), .val (.int p2), .val (.int p3)] [(.ref av)])) t → Steps p.tables e below (s₁.setTop (entryFrame m #[(.ref a1), (.int p2), (.int p3)] 3)) t := fun t k => R19 t (st20 t k)
  have R21 : ∀ t, Steps p.tables e below (T20.setTop (mkF m 61 #[.val (.ref a1), .val (.int p2), .val (.int p3)] [(.ref a1), (.ref av)])) t → Steps p.tables e below (s₁.setTop (entryFrame m #[(.ref a1), (.int p2), (.int p3)] 3)) t := by
    intro t k
    refine R20 t ?_
    show Steps p.tables e below (T20.setTop (mkF m 60 #[.val (.ref a1), .val (.int p2), .val (.int p3)] [(.ref av)])) _
    refine XS.aloadN X20.here hx rfl (hb hby own_d9_60) rfl rfl ?_
    exact k
  obtain ⟨T22, X22, e22, st22⟩ := getF X20 hx hZ hown (host := "") (Or.inl (hw _ (List.mem_of_getElem? (i := 62) rfl))) Via.refl e20 f16 (g := (mkF m 61 #[.val (.ref a1), .val (.int p2), .val (.int p3)] [(.ref a1), (.ref av)])) rfl rfl (hb hby own_d9_61)
  have R22 : ∀ t, Steps p.tables e below (T22.setTop (mkF m 64 #[.val (.ref a1), .val (.int p2), .val (.int p3)] [(.int (own_n es)), (.ref av)])) t → Steps p.tables e below (s₁.setTop (entryFrame m #[(.ref a1), (.int p2), (.int p3)] 3)) t := fun t k => R21 t (st22 t k)
  have R23 : ∀ t, Steps p.tables e below (T22.setTop (mkF m 65 #[.val (.ref a1), .val (.int p2), .val (.int p3)] [(.int p3), (.int (own_n es)), (.ref av)])) t → Steps p.tables e below (s₁.setTop (entryFrame m #[(.ref a1), (.int p2), (.int p3)] 3)) t := by
    intro t k
    refine R22 t ?_
    show Steps p.tables e below (T22.setTop (mkF m 64 #[.val (.ref a1), .val (.int p2), .val (.int p3)] [(.int (own_n es)), (.ref av)])) _
    refine XS.iloadN X22.here hx rfl (hb hby own_d9_64) rfl ?_
    exact k
  obtain ⟨cl24, Ar24, q24, S24, N24', H24, G24⟩ := id f18
  have hin24 : ¬ ((own_n es) < 0 ∨ cl24.slots.size ≤ ((own_n es)).toNatClampNeg) := inb_of S24 (own_n_in hl)
  obtain ⟨T25, h25, X25, e25, W25, st25⟩ := stI X22 hx hZ e22 Ar24 (j := (own_n es)) hin24 (g := (mkF m 65 #[.val (.ref a1), .val (.int p2), .val (.int p3)] [(.int p3), (.int (own_n es)), (.ref av)])) rfl rfl (hb hby own_d9_65)
  have R25 : ∀ t, Steps p.tables e below (T25.setTop (mkF m 66 #[.val (.ref a1), .val (.int p2), .val (.int p3)] [])) t → Steps p.tables e below (s₁.setTop (entryFrame m #[(.ref a1), (.int p2), (.int p3)] 3)) t := fun t k => R23 t (st25 t k)
  have Z25 : n0 ≤ h25.size := Nat.le_trans Z13 (Keep.of_wr W25).1
  have K25 : Keep h0 h25 [a1, ac, av] := K13.wr W25 (Or.inl (by simp))
  have N25 := Fr.snoc X25 N13 g_av
  have f26 : Fld Z h25 a1 "com/example/terse_graph/tersegraph/PrefixWriter" "contexts" "[I" (.ref ac) := f14.other W25 (Or.inl ne_a1_av)
  have f27 : Fld Z h25 a1 "com/example/terse_graph/tersegraph/PrefixWriter" "values" "[I" (.ref av) := f15.other W25 (Or.inl ne_a1_av)
  have f28 : Fld Z h25 a1 "com/example/terse_graph/tersegraph/PrefixWriter" "count" "I" (.int (own_n es)) := f16.other W25 (Or.inl ne_a1_av)
  have f29 : Exa Z h25 a1 "com/example/terse_graph/tersegraph/PrefixWriter" := f17.wr W25
  have f30 : Arv Z h25 ac kc .int (256 : Int32) (own_cs (es ++ [(p2, p3)])) (.int (0 : Int32)) := V13.other W25 ne_ac_av
  have V25 : Arv Z h25 av kv .int (256 : Int32) (own_vs (es ++ [(p2, p3)])) (.int (0 : Int32)) := by rw [own_vs_snoc]; exact own_push Ar24 q24 S24 N24' H24 G24 rfl W25 (by rw [own_len_vs]; exact own_n_clamp (by omega))
  have R31 : ∀ t, Steps p.tables e below (T25.setTop (mkF m 68 #[.val (.ref a1), .val (.int p2), .val (.int p3)] [(.ref a1), (.ref a1)])) t → Steps p.tables e below (s₁.setTop (entryFrame m #[(.ref a1), (.int p2), (.int p3)] 3)) t := by
    intro t k
    refine R25 t ?_
    show Steps p.tables e below (T25.setTop (mkF m 66 #[.val (.ref a1), .val (.int p2), .val (.int p3)] [])) _
    refine XS.aloadN X25.here hx rfl (hb hby own_d9_66) rfl rfl ?_
    show Steps p.tables e below (T25.setTop (mkF m 67 #[.val (.ref a1), .val (.int p2), .val (.int p3)] [(.ref a1)])) _
    refine XS.dup X25.here hx rfl (hb hby own_d9_67) rfl rfl ?_
    exact k
  obtain ⟨T32, X32, e32, st32⟩ := getF X25 hx hZ hown (host := "") (Or.inl (hw _ (List.mem_of_getElem? (i := 62) rfl))) Via.refl e25 f28 (g := (mkF m 68 #[.val (.ref a1), .val (.int p2), .val (.int p3)] [(.ref a1), (.ref a1)])) rfl rfl (hb hby own_d9_68)
  have R32 : ∀ t, Steps p.tables e below (T32.setTop (mkF m 71 #[.val (.ref a1), .val (.int p2), .val (.int p3)] [(.int (own_n es)), (.ref a1)])) t → Steps p.tables e below (s₁.setTop (entryFrame m #[(.ref a1), (.int p2), (.int p3)] 3)) t := fun t k => R31 t (st32 t k)
  have R33 : ∀ t, Steps p.tables e below (T32.setTop (mkF m 73 #[.val (.ref a1), .val (.int p2), .val (.int p3)] [(.int ((own_n es) + (1 : Int32))), (.ref a1)])) t → Steps p.tables e below (s₁.setTop (entryFrame m #[(.ref a1), (.int p2), (.int p3)] 3)) t := by
    intro t k
    refine R32 t ?_
    show Steps p.tables e below (T32.setTop (mkF m 71 #[.val (.ref a1), .val (.int p2), .val (.int p3)] [(.int (own_n es)), (.ref a1)])) _
    refine XS.iconst X32.here hx rfl (hb hby own_d9_71) ?_
    show Steps p.tables e below (T32.setTop (mkF m 72 #[.val (.ref a1), .val (.int p2), .val (.int p3)] [(.int (1 : Int32)), (.int (own_n es)), (.ref a1)])) _
    refine XS.iadd X32.here hx rfl (hb hby own_d9_72) rfl ?_
    exact k
  have R34 : ∀ t, Steps p.tables e below (T32.setTop (mkF m 73 #[.val (.ref a1), .val (.int p2), .val (.int p3)] [(.int (own_n (es ++ [(p2, p3)]))), (.ref a1)])) t → Steps p.tables e below (s₁.setTop (entryFrame m #[(.ref a1), (.int p2), (.int p3)] 3)) t := by rw [(own_n_snoc es (p2, p3) hl : ((own_n es) + (1 : Int32)) = (own_n (es ++ [(p2, p3)])))] at R33; exact R33
  obtain ⟨T35, h35, X35, e35, W35, st35⟩ := putF X32 hx hZ hown (host := "") (Or.inl (hw _ (List.mem_of_getElem? (i := 62) rfl))) Via.refl e32 f28 f29 (Or.inl (hw _ (List.mem_of_getElem? (i := 63) rfl))) (hw _ (List.mem_of_getElem? (i := 13) rfl)) (ty := .int) (by decide) rfl rfl (g := (mkF m 73 #[.val (.ref a1), .val (.int p2), .val (.int p3)] [(.int (own_n (es ++ [(p2, p3)]))), (.ref a1)])) rfl rfl (hb hby own_d9_73)
  have R35 : ∀ t, Steps p.tables e below (T35.setTop (mkF m 76 #[.val (.ref a1), .val (.int p2), .val (.int p3)] [])) t → Steps p.tables e below (s₁.setTop (entryFrame m #[(.ref a1), (.int p2), (.int p3)] 3)) t := fun t k => R34 t (st35 t k)
  have Z35 : n0 ≤ h35.size := Nat.le_trans Z25 (Keep.of_wr W35).1
  have K35 : Keep h0 h35 [a1, ac, av] := K25.wr W35 (Or.inl (by simp))
  have N35 := Fr.snoc X35 N25 g_a1
  have f36 : Fld Z h35 a1 "com/example/terse_graph/tersegraph/PrefixWriter" "contexts" "[I" (.ref ac) := f26.other W35 (Or.inr (slot_ne (Or.inl (hw _ (List.mem_of_getElem? (i := 22) rfl))) (Or.inl (hw _ (List.mem_of_getElem? (i := 63) rfl))) (by decide) (t := (.array .int)) (t' := .int) (by decide) (by decide)))
  have f37 : Fld Z h35 a1 "com/example/terse_graph/tersegraph/PrefixWriter" "values" "[I" (.ref av) := f27.other W35 (Or.inr (slot_ne (Or.inl (hw _ (List.mem_of_getElem? (i := 24) rfl))) (Or.inl (hw _ (List.mem_of_getElem? (i := 63) rfl))) (by decide) (t := (.array .int)) (t' := .int) (by decide) (by decide)))
  have f38 : Exa Z h35 a1 "com/example/terse_graph/tersegraph/PrefixWriter" := f29.wr W35
  have f39 : Arv Z h35 ac kc .int (256 : Int32) (own_cs (es ++ [(p2, p3)])) (.int (0 : Int32)) := f30.other W35 (Ne.symm ne_a1_ac)
  have f40 : Arv Z h35 av kv .int (256 : Int32) (own_vs (es ++ [(p2, p3)])) (.int (0 : Int32)) := V25.other W35 (Ne.symm ne_a1_av)
  have Fw35 : Fld Z h35 a1 "com/example/terse_graph/tersegraph/PrefixWriter" "count" "I" (.int (own_n (es ++ [(p2, p3)]))) := f28.same W35
  obtain ⟨fs, hr, hrun, hended, hW, hsame⟩ := X35.leave (v := none) (fun _ => rfl)
  refine ⟨_, _, R35 _ ?_, hrun, hended, _, _, rfl, ?_, ⟨_, rfl⟩, hW, hsame.mono (by decide) (by decide)⟩
  · exact X35.returnOut hx Bd.returns (hb hby own_d9_76) hr
  · show Q_rmAdd Z a1 p2 p3 ac av kc kv es h0 n0 _ T35.heap _
    rw [e35]
    exact ⟨rfl, N35, K35, ⟨f36, f37, Fw35, f38, f39, f40⟩⟩
theorem own_ef_rmBits (m : MethodId) (x0 : Addr) (x1 : Int64) (x2 : Int32) : entryFrame m #[(.ref x0), (.long x1), (.int x2)] 4 = mkF m 0 #[.val (.ref x0), .val (.long x1), .second, .val (.int x2)] [] := by first | (simp [entryFrame, mkF, argsToLocals, Value.category]; done) | rfl
theorem own_d10_0 : decode prog_127_method_4_code 0 = .ok (.iload_n 3, 1) := by decide +kernel
theorem own_d10_1 : decode prog_127_method_4_code 1 = .ok (.ifCond .le 17, 3) := by decide +kernel
theorem own_d10_4 : decode prog_127_method_4_code 4 = .ok (.aload_n 0, 1) := by decide +kernel
theorem own_d10_5 : decode prog_127_method_4_code 5 = .ok (.iload_n 3, 1) := by decide +kernel
theorem own_d10_6 : decode prog_127_method_4_code 6 = .ok (.ineg, 1) := by decide +kernel
theorem own_d10_7 : decode prog_127_method_4_code 7 = .ok (.lload_n 1, 1) := by decide +kernel
theorem own_d10_8 : decode prog_127_method_4_code 8 = .ok (.lconst 1, 1) := by decide +kernel
theorem own_d10_9 : decode prog_127_method_4_code 9 = .ok (.iload_n 3, 1) := by decide +kernel
theorem own_d10_10 : decode prog_127_method_4_code 10 = .ok (.lshl, 1) := by decide +kernel
theorem own_d10_11 : decode prog_127_method_4_code 11 = .ok (.lconst 1, 1) := by decide +kernel
theorem own_d10_12 : decode prog_127_method_4_code 12 = .ok (.lsub, 1) := by decide +kernel
theorem own_d10_13 : decode prog_127_method_4_code 13 = .ok (.land, 1) := by decide +kernel
theorem own_d10_14 : decode prog_127_method_4_code 14 = .ok (.l2i, 1) := by decide +kernel
theorem own_d10_15 : decode prog_127_method_4_code 15 = .ok (.invokevirtual 33, 3) := by decide +kernel
theorem own_pd5 : parseMethodDescriptor "(II)V" = some ⟨[.int, .int], none⟩ := by decide +kernel
theorem own_d10_18 : decode prog_127_method_4_code 18 = .ok (.return_, 1) := by decide +kernel
def Q_rmBits (Z : State) (a1 : Addr) (q2 : Int64) (p3 : Int32) (ac av : Addr) (kc kv : ClassId) (es : own_E) (h0 : Heap) (n0 : Nat) (v : Option Value) (h : Heap) (L : List Loc) : Prop := v = none ∧ Fr n0 L ∧ Keep h0 h [a1, ac, av] ∧ own_Wr Z h a1 ac av kc kv (es ++ own_bits q2 p3)
set_option maxRecDepth 65536 in
set_option maxHeartbeats 40000000 in
theorem rmBits (l : Launch) (Z : State) (a0 : Array Value) (hw : ∀ d ∈ tables_1, d.before a0 Z = true) (ws : List Jvm.Cond) (a1 : Addr) (q2 : Int64) (p3 : Int32) (ac av : Addr) (kc kv : ClassId) (es : own_E) (h0 : Heap) (n0 : Nat) (Z0 : n0 ≤ h0.size) (Hw : own_Wr Z h0 a1 ac av kc kv es) (g_a1 : n0 ≤ a1) (g_ac : n0 ≤ ac) (g_av : n0 ≤ av) (ne_a1_ac : a1 ≠ ac) (ne_a1_av : a1 ≠ av) (ne_ac_av : ac ≠ av) (hl : es.length < 256) :
    MetFree l (⟨"com/example/terse_graph/tersegraph/PrefixWriter", "addBits", "(JI)V"⟩ : MethodName) (head1 (Jvm.Cond.code (⟨"com/example/terse_graph/tersegraph/PrefixWriter", "addBits", "(JI)V"⟩ : MethodName) prog_127_method_4_code 4 none :: ws) ({ frames := 1, cells := 0, slots := 0, locals := 14 } : Room)) (fun a U => a = #[(.ref a1), (.long q2), (.int p3)] ∧ Z.Warmed39 U.vm ∧ U.heap = h0) (fun _ _ _ _ _ => True) (fun _ U o U' => ∃ v L, o = .returned v ∧ Q_rmBits Z a1 q2 p3 ac av kc kv es h0 n0 v U'.heap L ∧ FrameEnd U o U' L ({ frames := 1, cells := 0, slots := 0, locals := 14 } : Room).cells ({ frames := 1, cells := 0, slots := 0, locals := 14 } : Room).slots) := by
  refine MetFree.of_bodySF (plainFor_of_name own_pn2) hisR ?_
  intro p e s m args below meth c s₁ Bd hml0 hP hK
  obtain ⟨rfl, hZ, hh⟩ := hP
  have hx := Bd.exec
  have hby := Bd.bytes
  have hml : c.maxLocals = 4 := hml0
  have hown : s.vm.findClass "com/example/terse_graph/tersegraph/PrefixWriter" = some m.cls := findClass_of_methodNamed Bd.named
  have hnm := (name_of_methodNamed Bd.named Bd.method).1
  have X0 : Stand p l e ({ frames := 1, cells := 0, slots := 0, locals := 14 } : Room) s m #[(.ref a1), (.long q2), (.int p3)] below meth c s₁ [] 0 0 := Stand.of_body Bd
  have e0 : s₁.heap = h0 := by rw [← hh, Bd.state]; rfl
  have N0 := Fr.nil n0
  have R0 : ∀ t, Steps p.tables e below (s₁.setTop (mkF m 0 #[.val (.ref a1), .val (.long q2), .second, .val (.int p3)] [])) t → Steps p.tables e below (s₁.setTop (entryFrame m #[(.ref a1), (.long q2), (.int p3)] 4)) t := fun t k => castTop (own_ef_rmBits m a1 q2 p3) k
  have R1 : ∀ t, Steps p.tables e below (s₁.setTop (mkF m 1 #[.val (.ref a1), .val (.long q2), .second, .val (.int p3)] [(.int p3)])) t → Steps p.tables e below (s₁.setTop (entryFrame m #[(.ref a1), (.long q2), (.int p3)] 4)) t := by
    intro t k
    refine R0 t ?_
    show Steps p.tables e below (s₁.setTop (mkF m 0 #[.val (.ref a1), .val (.long q2), .second, .val (.int p3)] [])) _
    refine XS.iloadN X0.here hx rfl (hb hby own_d10_0) rfl ?_
    exact k
  by_cases hc : (0 : Int32) < p3
  · have R2 : ∀ t, Steps p.tables e below (s₁.setTop (mkF m 15 #[.val (.ref a1), .val (.long q2), .second, .val (.int p3)] [(.int ((q2 &&& (((1 : Int64) <<< (p3 &&& 0x3f).toInt64) - (1 : Int64))).toInt32)), (.int (-p3)), (.ref a1)])) t → Steps p.tables e below (s₁.setTop (entryFrame m #[(.ref a1), (.long q2), (.int p3)] 4)) t := by
      intro t k
      refine R1 t ?_
      show Steps p.tables e below (s₁.setTop (mkF m 1 #[.val (.ref a1), .val (.long q2), .second, .val (.int p3)] [(.int p3)])) _
      refine XS.ifNo X0.here hx rfl (hb hby own_d10_1) rfl ((if0 _ _).trans (tlt hc).2.2.2) ?_
      show Steps p.tables e below (s₁.setTop (mkF m 4 #[.val (.ref a1), .val (.long q2), .second, .val (.int p3)] [])) _
      refine XS.aloadN X0.here hx rfl (hb hby own_d10_4) rfl rfl ?_
      show Steps p.tables e below (s₁.setTop (mkF m 5 #[.val (.ref a1), .val (.long q2), .second, .val (.int p3)] [(.ref a1)])) _
      refine XS.iloadN X0.here hx rfl (hb hby own_d10_5) rfl ?_
      show Steps p.tables e below (s₁.setTop (mkF m 6 #[.val (.ref a1), .val (.long q2), .second, .val (.int p3)] [(.int p3), (.ref a1)])) _
      refine XS.ineg X0.here hx rfl (hb hby own_d10_6) rfl ?_
      show Steps p.tables e below (s₁.setTop (mkF m 7 #[.val (.ref a1), .val (.long q2), .second, .val (.int p3)] [(.int (-p3)), (.ref a1)])) _
      refine XS.lloadN X0.here hx rfl (hb hby own_d10_7) rfl ?_
      show Steps p.tables e below (s₁.setTop (mkF m 8 #[.val (.ref a1), .val (.long q2), .second, .val (.int p3)] [(.long q2), (.int (-p3)), (.ref a1)])) _
      refine XS.lconst X0.here hx rfl (hb hby own_d10_8) ?_
      show Steps p.tables e below (s₁.setTop (mkF m 9 #[.val (.ref a1), .val (.long q2), .second, .val (.int p3)] [(.long (1 : Int64)), (.long q2), (.int (-p3)), (.ref a1)])) _
      refine XS.iloadN X0.here hx rfl (hb hby own_d10_9) rfl ?_
      show Steps p.tables e below (s₁.setTop (mkF m 10 #[.val (.ref a1), .val (.long q2), .second, .val (.int p3)] [(.int p3), (.long (1 : Int64)), (.long q2), (.int (-p3)), (.ref a1)])) _
      refine XS.lshl X0.here hx rfl (hb hby own_d10_10) rfl ?_
      show Steps p.tables e below (s₁.setTop (mkF m 11 #[.val (.ref a1), .val (.long q2), .second, .val (.int p3)] [(.long ((1 : Int64) <<< (p3 &&& 0x3f).toInt64)), (.long q2), (.int (-p3)), (.ref a1)])) _
      refine XS.lconst X0.here hx rfl (hb hby own_d10_11) ?_
      show Steps p.tables e below (s₁.setTop (mkF m 12 #[.val (.ref a1), .val (.long q2), .second, .val (.int p3)] [(.long (1 : Int64)), (.long ((1 : Int64) <<< (p3 &&& 0x3f).toInt64)), (.long q2), (.int (-p3)), (.ref a1)])) _
      refine XS.lsub X0.here hx rfl (hb hby own_d10_12) rfl ?_
      show Steps p.tables e below (s₁.setTop (mkF m 13 #[.val (.ref a1), .val (.long q2), .second, .val (.int p3)] [(.long (((1 : Int64) <<< (p3 &&& 0x3f).toInt64) - (1 : Int64))), (.long q2), (.int (-p3)), (.ref a1)])) _
      refine XS.land X0.here hx rfl (hb hby own_d10_13) rfl ?_
      show Steps p.tables e below (s₁.setTop (mkF m 14 #[.val (.ref a1), .val (.long q2), .second, .val (.int p3)] [(.long (q2 &&& (((1 : Int64) <<< (p3 &&& 0x3f).toInt64) - (1 : Int64)))), (.int (-p3)), (.ref a1)])) _
      refine XS.l2i X0.here hx rfl (hb hby own_d10_14) rfl ?_
      exact k
    have hes : own_bits q2 p3 = [(-p3, own_low q2 p3)] := if_pos hc
    obtain ⟨cq3, kq3, q3a, q3b, q3c⟩ := isOf hZ e0 Hw.2.2.2.1
    obtain ⟨_, _, ⟨T3, L3, k3, n3⟩, -, X3, ⟨Lc3, hQ3, l3, y3, z3⟩, st3⟩ := X0.virtualBack hx (y := (⟨"com/example/terse_graph/tersegraph/PrefixWriter", "add", "(II)V"⟩ : MethodName)) (z := (⟨"com/example/terse_graph/tersegraph/PrefixWriter", "add", "(II)V"⟩ : MethodName)) hown (mvT hZ (hw _ (List.mem_of_getElem? (i := 69) rfl))) (mvT hZ (hw _ (List.mem_of_getElem? (i := 58) rfl))) (notFace_of_selects (args := #[]) (mvT hZ (hw _ (List.mem_of_getElem? (i := 60) rfl)))) (mvT hZ (hw _ (List.mem_of_getElem? (i := 60) rfl))) (mvT hZ (hw _ (List.mem_of_getElem? (i := 59) rfl))) (by decide) (backOf (W := 0) (rmAdd l Z a0 hw [] a1 (-p3) ((q2 &&& (((1 : Int64) <<< (p3 &&& 0x3f).toInt64) - (1 : Int64))).toInt32) ac av kc kv es h0 n0 Z0 Hw g_a1 g_ac g_av ne_a1_ac ne_a1_av ne_ac_av hl) hZ (hw _ (List.mem_of_getElem? (i := 61) rfl)) (hw _ (List.mem_of_getElem? (i := 14) rfl)) (by decide) (by decide)) q3a q3c (g := (mkF m 15 #[.val (.ref a1), .val (.long q2), .second, .val (.int p3)] [(.int ((q2 &&& (((1 : Int64) <<< (p3 &&& 0x3f).toInt64) - (1 : Int64))).toInt32)), (.int (-p3)), (.ref a1)])) rfl (by rw [hml]; rfl) (Steps.refl _) (argsL := [(.int (-p3)), (.int ((q2 &&& (((1 : Int64) <<< (p3 &&& 0x3f).toInt64) - (1 : Int64))).toInt32))]) (rest := []) (lenOf own_pd5 rfl) rfl (by show 2 * 0 + _ ≤ _; exact Nat.le_of_eq rfl) (hb hby own_d10_15) (fun _ _ => ⟨rfl, e0, (by decide : 0 + 0 ≤ _), (by decide : 0 + 0 ≤ _)⟩)
    dsimp only [Pt.U, Pt.locs, Pt.cells, Pt.slots] at X3 l3 y3 z3 st3 hQ3
    subst l3 y3 z3
    obtain ⟨rfl, Nq3, Kc3, Hw3⟩ := hQ3
    have N3 := Fr.app N0 Nq3
    have R3 : ∀ t, Steps p.tables e below (T3.setTop (mkF m 18 #[.val (.ref a1), .val (.long q2), .second, .val (.int p3)] [])) t → Steps p.tables e below (s₁.setTop (entryFrame m #[(.ref a1), (.long q2), (.int p3)] 4)) t := fun t k => R2 t (st3.trans k)
    have Z3 : n0 ≤ T3.heap.size := Nat.le_trans Z0 Kc3.1
    have K3 : Keep h0 T3.heap [a1, ac, av] := (Keep.refl h0 [a1, ac, av]).trans Kc3 (allS (Or.inl (by simp)) (allS (Or.inl (by simp)) (allS (Or.inl (by simp)) all0)))
    have f4 : Exa Z T3.heap a1 "com/example/terse_graph/tersegraph/PrefixWriter" := Hw.2.2.2.1.keep Kc3
    obtain ⟨fs, hr, hrun, hended, hW, hsame⟩ := X3.leave (v := none) (fun _ => rfl)
    refine ⟨_, _, R3 _ ?_, hrun, hended, _, _, rfl, ?_, ⟨_, rfl⟩, hW, hsame.mono (by decide) (by decide)⟩
    · exact X3.returnOut hx Bd.returns (hb hby own_d10_18) hr
    · show Q_rmBits Z a1 q2 p3 ac av kc kv es h0 n0 _ T3.heap _
      exact ⟨rfl, N3, K3, by rw [hes]; exact Hw3⟩
  · have R5 : ∀ t, Steps p.tables e below (s₁.setTop (mkF m 18 #[.val (.ref a1), .val (.long q2), .second, .val (.int p3)] [])) t → Steps p.tables e below (s₁.setTop (entryFrame m #[(.ref a1), (.long q2), (.int p3)] 4)) t := by
      intro t k
      refine R1 t ?_
      show Steps p.tables e below (s₁.setTop (mkF m 1 #[.val (.ref a1), .val (.long q2), .second, .val (.int p3)] [(.int p3)])) _
      refine XS.ifYes X0.here hx rfl (pc0 := 1) (pc' := 18) rfl (hb hby own_d10_1) rfl ((if0 _ _).trans (flt hc).2.2.2) (by decide) (by decide) ?_
      exact k
    have hes : own_bits q2 p3 = [] := if_neg hc
    obtain ⟨fs, hr, hrun, hended, hW, hsame⟩ := X0.leave (v := none) (fun _ => rfl)
    refine ⟨_, _, R5 _ ?_, hrun, hended, _, _, rfl, ?_, ⟨_, rfl⟩, hW, hsame.mono (by decide) (by decide)⟩
    · exact X0.returnOut hx Bd.returns (hb hby own_d10_18) hr
    · show Q_rmBits Z a1 q2 p3 ac av kc kv es h0 n0 _ s₁.heap _
      rw [e0]
      exact ⟨rfl, N0, (Keep.refl h0 [a1, ac, av]), by rw [hes, List.append_nil]; exact Hw⟩
theorem own_pn3 : plainName "com/example/terse_graph/tersegraph/PrefixWriterCountIntoPinLaw" = true := by first | (simp [plainName, overriddenIn]; done) | decide +kernel
theorem own_ef_rmCtx (m : MethodId) (x0 : Int32) : entryFrame m #[(.int x0)] 1 = mkF m 0 #[.val (.int x0)] [] := by first | (simp [entryFrame, mkF, argsToLocals, Value.category]; done) | rfl
theorem own_d7_0 : decode method_3_code 0 = .ok (.iload_n 0, 1) := by decide +kernel
theorem own_d7_1 : decode method_3_code 1 = .ok (.iconst 1, 1) := by decide +kernel
theorem own_d7_2 : decode method_3_code 2 = .ok (.iushr, 1) := by decide +kernel
theorem own_d7_3 : decode method_3_code 3 = .ok (.sipush 255, 3) := by decide +kernel
theorem own_d7_6 : decode method_3_code 6 = .ok (.iand, 1) := by decide +kernel
theorem own_d7_7 : decode method_3_code 7 = .ok (.iconst 3, 1) := by decide +kernel
theorem own_d7_8 : decode method_3_code 8 = .ok (.irem, 1) := by decide +kernel
theorem own_d7_9 : decode method_3_code 9 = .ok (.ireturn, 1) := by decide +kernel
def Q_rmCtx (Z : State) (p1 : Int32) (h0 : Heap) (n0 : Nat) (v : Option Value) (h : Heap) (L : List Loc) : Prop := v = some (.int (own_ctx p1)) ∧ Fr n0 L ∧ h = h0
set_option maxRecDepth 65536 in
set_option maxHeartbeats 40000000 in
theorem rmCtx (l : Launch) (Z : State) (a0 : Array Value) (hw : ∀ d ∈ tables_1, d.before a0 Z = true) (ws : List Jvm.Cond) (p1 : Int32) (h0 : Heap) (n0 : Nat) (Z0 : n0 ≤ h0.size)  :
    MetFree l (⟨"com/example/terse_graph/tersegraph/PrefixWriterCountIntoPinLaw", "ctx", "(I)I"⟩ : MethodName) (head1 (Jvm.Cond.code (⟨"com/example/terse_graph/tersegraph/PrefixWriterCountIntoPinLaw", "ctx", "(I)I"⟩ : MethodName) method_3_code 1 (some .int) :: ws) ({ frames := 0, cells := 0, slots := 0, locals := 0 } : Room)) (fun a U => a = #[(.int p1)] ∧ Z.Warmed39 U.vm ∧ U.heap = h0) (fun _ _ _ _ _ => True) (fun _ U o U' => ∃ v L, o = .returned v ∧ Q_rmCtx Z p1 h0 n0 v U'.heap L ∧ FrameEnd U o U' L ({ frames := 0, cells := 0, slots := 0, locals := 0 } : Room).cells ({ frames := 0, cells := 0, slots := 0, locals := 0 } : Room).slots) := by
  refine MetFree.of_bodySF (plainFor_of_name own_pn3) hisR ?_
  intro p e s m args below meth c s₁ Bd hml0 hP hK
  obtain ⟨rfl, hZ, hh⟩ := hP
  have hx := Bd.exec
  have hby := Bd.bytes
  have hml : c.maxLocals = 1 := hml0
  have hown : s.vm.findClass "com/example/terse_graph/tersegraph/PrefixWriterCountIntoPinLaw" = some m.cls := findClass_of_methodNamed Bd.named
  have hnm := (name_of_methodNamed Bd.named Bd.method).1
  have X0 : Stand p l e ({ frames := 0, cells := 0, slots := 0, locals := 0 } : Room) s m #[(.int p1)] below meth c s₁ [] 0 0 := Stand.of_body Bd
  have e0 : s₁.heap = h0 := by rw [← hh, Bd.state]; rfl
  have N0 := Fr.nil n0
  have R0 : ∀ t, Steps p.tables e below (s₁.setTop (mkF m 0 #[.val (.int p1)] [])) t → Steps p.tables e below (s₁.setTop (entryFrame m #[(.int p1)] 1)) t := fun t k => castTop (own_ef_rmCtx m p1) k
  have R1 : ∀ t, Steps p.tables e below (s₁.setTop (mkF m 9 #[.val (.int p1)] [(.int ((((p1.toUInt32 >>> ((1 : Int32) &&& 31).toUInt32).toInt32) &&& (255 : Int32)) % (3 : Int32)))])) t → Steps p.tables e below (s₁.setTop (entryFrame m #[(.int p1)] 1)) t := by
    intro t k
    refine R0 t ?_
    show Steps p.tables e below (s₁.setTop (mkF m 0 #[.val (.int p1)] [])) _
    refine XS.iloadN X0.here hx rfl (hb hby own_d7_0) rfl ?_
    show Steps p.tables e below (s₁.setTop (mkF m 1 #[.val (.int p1)] [(.int p1)])) _
    refine XS.iconst X0.here hx rfl (hb hby own_d7_1) ?_
    show Steps p.tables e below (s₁.setTop (mkF m 2 #[.val (.int p1)] [(.int (1 : Int32)), (.int p1)])) _
    refine XS.iushr X0.here hx rfl (hb hby own_d7_2) rfl ?_
    show Steps p.tables e below (s₁.setTop (mkF m 3 #[.val (.int p1)] [(.int ((p1.toUInt32 >>> ((1 : Int32) &&& 31).toUInt32).toInt32))])) _
    refine XS.sipush X0.here hx rfl (hb hby own_d7_3) ?_
    show Steps p.tables e below (s₁.setTop (mkF m 6 #[.val (.int p1)] [(.int (255 : Int32)), (.int ((p1.toUInt32 >>> ((1 : Int32) &&& 31).toUInt32).toInt32))])) _
    refine XS.iand X0.here hx rfl (hb hby own_d7_6) rfl ?_
    show Steps p.tables e below (s₁.setTop (mkF m 7 #[.val (.int p1)] [(.int (((p1.toUInt32 >>> ((1 : Int32) &&& 31).toUInt32).toInt32) &&& (255 : Int32)))])) _
    refine XS.iconst X0.here hx rfl (hb hby own_d7_7) ?_
    show Steps p.tables e below (s₁.setTop (mkF m 8 #[.val (.int p1)] [(.int (3 : Int32)), (.int (((p1.toUInt32 >>> ((1 : Int32) &&& 31).toUInt32).toInt32) &&& (255 : Int32)))])) _
    refine iremM X0 hx rfl (hb hby own_d7_8) rfl (by decide) ?_
    exact k
  obtain ⟨fs, hr, hrun, hended, hW, hsame⟩ := X0.leave (v := some (.int ((((p1.toUInt32 >>> ((1 : Int32) &&& 31).toUInt32).toInt32) &&& (255 : Int32)) % (3 : Int32)))) (fun h => by rw [Bd.returns] at h; cases h)
  refine ⟨_, _, R1 _ ?_, hrun, hended, _, _, rfl, ?_, ⟨_, rfl⟩, hW, hsame.mono (by decide) (by decide)⟩
  · exact retOut X0 hx Bd.returns rfl (Or.inl ⟨rfl, Or.inl rfl, _, rfl⟩) (hb hby own_d7_9) hr
  · show Q_rmCtx Z p1 h0 n0 _ s₁.heap _
    rw [e0]
    exact ⟨rfl, N0, rfl⟩
theorem own_ef_rmSym (m : MethodId) (x0 : Int32) (x1 : Addr) : entryFrame m #[(.int x0), (.ref x1)] 2 = mkF m 0 #[.val (.int x0), .val (.ref x1)] [] := by first | (simp [entryFrame, mkF, argsToLocals, Value.category]; done) | rfl
theorem own_d8_0 : decode method_4_code 0 = .ok (.iload_n 0, 1) := by decide +kernel
theorem own_d8_1 : decode method_4_code 1 = .ok (.bipush 9, 2) := by decide +kernel
theorem own_d8_3 : decode method_4_code 3 = .ok (.iushr, 1) := by decide +kernel
theorem own_d8_4 : decode method_4_code 4 = .ok (.sipush 255, 3) := by decide +kernel
theorem own_d8_7 : decode method_4_code 7 = .ok (.iand, 1) := by decide +kernel
theorem own_d8_8 : decode method_4_code 8 = .ok (.aload_n 1, 1) := by decide +kernel
theorem own_d8_9 : decode method_4_code 9 = .ok (.iload_n 0, 1) := by decide +kernel
theorem own_d8_10 : decode method_4_code 10 = .ok (.invokestatic 44, 3) := by decide +kernel
theorem own_pd3 : parseMethodDescriptor "(I)I" = some ⟨[.int], some .int⟩ := by decide +kernel
theorem own_d8_13 : decode method_4_code 13 = .ok (.iaload, 1) := by decide +kernel
theorem own_d8_14 : decode method_4_code 14 = .ok (.irem, 1) := by decide +kernel
theorem own_d8_15 : decode method_4_code 15 = .ok (.ireturn, 1) := by decide +kernel
def Q_rmSym (Z : State) (p1 : Int32) (a2 : Addr) (k3 : ClassId) (x0 x1 x2 : Int32) (h0 : Heap) (n0 : Nat) (v : Option Value) (h : Heap) (L : List Loc) : Prop := v = some (.int (own_sym p1 x0 x1 x2)) ∧ Fr n0 L ∧ h = h0
set_option maxRecDepth 65536 in
set_option maxHeartbeats 40000000 in
theorem rmSym (l : Launch) (Z : State) (a0 : Array Value) (hw : ∀ d ∈ tables_1, d.before a0 Z = true) (ws : List Jvm.Cond) (p1 : Int32) (a2 : Addr) (k3 : ClassId) (x0 x1 x2 : Int32) (h0 : Heap) (n0 : Nat) (Z0 : n0 ≤ h0.size) (Va : Arv Z h0 a2 k3 .int (3 : Int32) [Value.int x0, Value.int x1, Value.int x2] (.int (0 : Int32))) (z0 : ¬ x0 = (0 : Int32)) (z1 : ¬ x1 = (0 : Int32)) (z2 : ¬ x2 = (0 : Int32)) :
    MetFree l (⟨"com/example/terse_graph/tersegraph/PrefixWriterCountIntoPinLaw", "sym", "(I[I)I"⟩ : MethodName) (head1 (Jvm.Cond.code (⟨"com/example/terse_graph/tersegraph/PrefixWriterCountIntoPinLaw", "sym", "(I[I)I"⟩ : MethodName) method_4_code 2 (some .int) :: ws) ({ frames := 1, cells := 0, slots := 0, locals := 14 } : Room)) (fun a U => a = #[(.int p1), (.ref a2)] ∧ Z.Warmed39 U.vm ∧ U.heap = h0) (fun _ _ _ _ _ => True) (fun _ U o U' => ∃ v L, o = .returned v ∧ Q_rmSym Z p1 a2 k3 x0 x1 x2 h0 n0 v U'.heap L ∧ FrameEnd U o U' L ({ frames := 1, cells := 0, slots := 0, locals := 14 } : Room).cells ({ frames := 1, cells := 0, slots := 0, locals := 14 } : Room).slots) := by
  refine MetFree.of_bodySF (plainFor_of_name own_pn3) hisR ?_
  intro p e s m args below meth c s₁ Bd hml0 hP hK
  obtain ⟨rfl, hZ, hh⟩ := hP
  have hx := Bd.exec
  have hby := Bd.bytes
  have hml : c.maxLocals = 2 := hml0
  have hown : s.vm.findClass "com/example/terse_graph/tersegraph/PrefixWriterCountIntoPinLaw" = some m.cls := findClass_of_methodNamed Bd.named
  have hnm := (name_of_methodNamed Bd.named Bd.method).1
  have X0 : Stand p l e ({ frames := 1, cells := 0, slots := 0, locals := 14 } : Room) s m #[(.int p1), (.ref a2)] below meth c s₁ [] 0 0 := Stand.of_body Bd
  have e0 : s₁.heap = h0 := by rw [← hh, Bd.state]; rfl
  have N0 := Fr.nil n0
  have R0 : ∀ t, Steps p.tables e below (s₁.setTop (mkF m 0 #[.val (.int p1), .val (.ref a2)] [])) t → Steps p.tables e below (s₁.setTop (entryFrame m #[(.int p1), (.ref a2)] 2)) t := fun t k => castTop (own_ef_rmSym m p1 a2) k
  have R1 : ∀ t, Steps p.tables e below (s₁.setTop (mkF m 10 #[.val (.int p1), .val (.ref a2)] [(.int p1), (.ref a2), (.int (((p1.toUInt32 >>> ((9 : Int32) &&& 31).toUInt32).toInt32) &&& (255 : Int32)))])) t → Steps p.tables e below (s₁.setTop (entryFrame m #[(.int p1), (.ref a2)] 2)) t := by
    intro t k
    refine R0 t ?_
    show Steps p.tables e below (s₁.setTop (mkF m 0 #[.val (.int p1), .val (.ref a2)] [])) _
    refine XS.iloadN X0.here hx rfl (hb hby own_d8_0) rfl ?_
    show Steps p.tables e below (s₁.setTop (mkF m 1 #[.val (.int p1), .val (.ref a2)] [(.int p1)])) _
    refine XS.bipush X0.here hx rfl (hb hby own_d8_1) ?_
    show Steps p.tables e below (s₁.setTop (mkF m 3 #[.val (.int p1), .val (.ref a2)] [(.int (9 : Int32)), (.int p1)])) _
    refine XS.iushr X0.here hx rfl (hb hby own_d8_3) rfl ?_
    show Steps p.tables e below (s₁.setTop (mkF m 4 #[.val (.int p1), .val (.ref a2)] [(.int ((p1.toUInt32 >>> ((9 : Int32) &&& 31).toUInt32).toInt32))])) _
    refine XS.sipush X0.here hx rfl (hb hby own_d8_4) ?_
    show Steps p.tables e below (s₁.setTop (mkF m 7 #[.val (.int p1), .val (.ref a2)] [(.int (255 : Int32)), (.int ((p1.toUInt32 >>> ((9 : Int32) &&& 31).toUInt32).toInt32))])) _
    refine XS.iand X0.here hx rfl (hb hby own_d8_7) rfl ?_
    show Steps p.tables e below (s₁.setTop (mkF m 8 #[.val (.int p1), .val (.ref a2)] [(.int (((p1.toUInt32 >>> ((9 : Int32) &&& 31).toUInt32).toInt32) &&& (255 : Int32)))])) _
    refine XS.aloadN X0.here hx rfl (hb hby own_d8_8) rfl rfl ?_
    show Steps p.tables e below (s₁.setTop (mkF m 9 #[.val (.int p1), .val (.ref a2)] [(.ref a2), (.int (((p1.toUInt32 >>> ((9 : Int32) &&& 31).toUInt32).toInt32) &&& (255 : Int32)))])) _
    refine XS.iloadN X0.here hx rfl (hb hby own_d8_9) rfl ?_
    exact k
  obtain ⟨_, _, ⟨T2, L2, k2, n2⟩, -, X2, ⟨Lc2, hQ2, l2, y2, z2⟩, st2⟩ := Jvm.LawKit.callS X0 hx (y := (⟨"com/example/terse_graph/tersegraph/PrefixWriterCountIntoPinLaw", "ctx", "(I)I"⟩ : MethodName)) hown (mvT hZ (hw _ (List.mem_of_getElem? (i := 51) rfl))) (mvT hZ (hw _ (List.mem_of_getElem? (i := 52) rfl))) (mvT hZ (hw _ (List.mem_of_getElem? (i := 49) rfl))) (mvT hZ (hw _ (List.mem_of_getElem? (i := 53) rfl))) (by decide) (backOf (W := 2) (rmCtx l Z a0 hw [] p1  h0 n0 Z0 ) hZ (hw _ (List.mem_of_getElem? (i := 53) rfl)) (hw _ (List.mem_of_getElem? (i := 49) rfl)) (by decide) (by decide)) (g := (mkF m 10 #[.val (.int p1), .val (.ref a2)] [(.int p1), (.ref a2), (.int (((p1.toUInt32 >>> ((9 : Int32) &&& 31).toUInt32).toInt32) &&& (255 : Int32)))])) rfl (by rw [hml]; rfl) (argsL := [(.int p1)]) (rest := [(.ref a2), (.int (((p1.toUInt32 >>> ((9 : Int32) &&& 31).toUInt32).toInt32) &&& (255 : Int32)))]) (lenOf own_pd3 rfl) rfl (by show 2 * 0 + _ ≤ _; exact Nat.le_of_eq rfl) (hb hby own_d8_10) (fun _ _ => ⟨rfl, e0, (by decide : 0 + 0 ≤ _), (by decide : 0 + 0 ≤ _)⟩)
  dsimp only [Pt.U, Pt.locs, Pt.cells, Pt.slots] at X2 l2 y2 z2 st2 hQ2
  subst l2 y2 z2
  obtain ⟨rfl, Nq2, eq2⟩ := hQ2
  have N2 := Fr.app N0 Nq2
  have R2 : ∀ t, Steps p.tables e below (T2.setTop (mkF m 13 #[.val (.int p1), .val (.ref a2)] [(.int (own_ctx p1)), (.ref a2), (.int (((p1.toUInt32 >>> ((9 : Int32) &&& 31).toUInt32).toInt32) &&& (255 : Int32)))])) t → Steps p.tables e below (s₁.setTop (entryFrame m #[(.int p1), (.ref a2)] 2)) t := fun t k => R1 t (st2 t k)
  obtain ⟨cl3, Ar3, q3, S3, N3', H3, G3⟩ := id Va
  have hin3__own_ctx_p1_ : ¬ ((own_ctx p1) < 0 ∨ cl3.slots.size ≤ ((own_ctx p1)).toNatClampNeg) := inb_of S3 (own_ctx_in p1)
  have hat3__own_ctx_p1_ : cl3.slots[((own_ctx p1)).toNatClampNeg]? = some (.int (own_pick (own_ctx p1) x0 x1 x2)) := H3.at hin3__own_ctx_p1_ own_pick_at
  have R4 : ∀ t, Steps p.tables e below (T2.setTop (mkF m 15 #[.val (.int p1), .val (.ref a2)] [(.int ((((p1.toUInt32 >>> ((9 : Int32) &&& 31).toUInt32).toInt32) &&& (255 : Int32)) % (own_pick (own_ctx p1) x0 x1 x2)))])) t → Steps p.tables e below (s₁.setTop (entryFrame m #[(.int p1), (.ref a2)] 2)) t := by
    intro t k
    refine R2 t ?_
    show Steps p.tables e below (T2.setTop (mkF m 13 #[.val (.int p1), .val (.ref a2)] [(.int (own_ctx p1)), (.ref a2), (.int (((p1.toUInt32 >>> ((9 : Int32) &&& 31).toUInt32).toInt32) &&& (255 : Int32)))])) _
    refine X2.iaload hx (j := (own_ctx p1)) (v := (.int (own_pick (own_ctx p1) x0 x1 x2))) (by rw [eq2]; exact Ar3.1) (State.isArrayOf_alike hZ.alike Ar3.2.1) Ar3.2.2 hin3__own_ctx_p1_ hat3__own_ctx_p1_ (g := (mkF m 13 #[.val (.int p1), .val (.ref a2)] [(.int (own_ctx p1)), (.ref a2), (.int (((p1.toUInt32 >>> ((9 : Int32) &&& 31).toUInt32).toInt32) &&& (255 : Int32)))])) rfl rfl (hb hby own_d8_13) _ ?_
    show Steps p.tables e below (T2.setTop (mkF m 14 #[.val (.int p1), .val (.ref a2)] [(.int (own_pick (own_ctx p1) x0 x1 x2)), (.int (((p1.toUInt32 >>> ((9 : Int32) &&& 31).toUInt32).toInt32) &&& (255 : Int32)))])) _
    refine iremM X2 hx rfl (hb hby own_d8_14) rfl (own_pick_nz z0 z1 z2) ?_
    exact k
  obtain ⟨fs, hr, hrun, hended, hW, hsame⟩ := X2.leave (v := some (.int ((((p1.toUInt32 >>> ((9 : Int32) &&& 31).toUInt32).toInt32) &&& (255 : Int32)) % (own_pick (own_ctx p1) x0 x1 x2)))) (fun h => by rw [Bd.returns] at h; cases h)
  refine ⟨_, _, R4 _ ?_, hrun, hended, _, _, rfl, ?_, ⟨_, rfl⟩, hW, hsame.mono (by decide) (by decide)⟩
  · exact retOut X2 hx Bd.returns rfl (Or.inl ⟨rfl, Or.inl rfl, _, rfl⟩) (hb hby own_d8_15) hr
  · show Q_rmSym Z p1 a2 k3 x0 x1 x2 h0 n0 _ T2.heap _
    rw [eq2]
    exact ⟨rfl, N2, rfl⟩
theorem own_ef_rmOff (m : MethodId) (x0 : Int32) (x1 : Addr) : entryFrame m #[(.int x0), (.ref x1)] 2 = mkF m 0 #[.val (.int x0), .val (.ref x1)] [] := by first | (simp [entryFrame, mkF, argsToLocals, Value.category]; done) | rfl
theorem own_d14_0 : decode method_5_code 0 = .ok (.iload_n 0, 1) := by decide +kernel
theorem own_d14_1 : decode method_5_code 1 = .ok (.ifCond .ne 5, 3) := by decide +kernel
theorem own_d14_4 : decode method_5_code 4 = .ok (.iconst 0, 1) := by decide +kernel
theorem own_d14_5 : decode method_5_code 5 = .ok (.ireturn, 1) := by decide +kernel
theorem own_d14_6 : decode method_5_code 6 = .ok (.iload_n 0, 1) := by decide +kernel
theorem own_d14_7 : decode method_5_code 7 = .ok (.iconst 1, 1) := by decide +kernel
theorem own_d14_8 : decode method_5_code 8 = .ok (.if_icmp .ne 7, 3) := by decide +kernel
theorem own_d14_11 : decode method_5_code 11 = .ok (.aload_n 1, 1) := by decide +kernel
theorem own_d14_12 : decode method_5_code 12 = .ok (.iconst 0, 1) := by decide +kernel
theorem own_d14_13 : decode method_5_code 13 = .ok (.iaload, 1) := by decide +kernel
theorem own_d14_14 : decode method_5_code 14 = .ok (.ireturn, 1) := by decide +kernel
theorem own_d14_15 : decode method_5_code 15 = .ok (.aload_n 1, 1) := by decide +kernel
theorem own_d14_16 : decode method_5_code 16 = .ok (.iconst 0, 1) := by decide +kernel
theorem own_d14_17 : decode method_5_code 17 = .ok (.iaload, 1) := by decide +kernel
theorem own_d14_18 : decode method_5_code 18 = .ok (.aload_n 1, 1) := by decide +kernel
theorem own_d14_19 : decode method_5_code 19 = .ok (.iconst 1, 1) := by decide +kernel
theorem own_d14_20 : decode method_5_code 20 = .ok (.iaload, 1) := by decide +kernel
theorem own_d14_21 : decode method_5_code 21 = .ok (.iadd, 1) := by decide +kernel
theorem own_d14_22 : decode method_5_code 22 = .ok (.ireturn, 1) := by decide +kernel
def Q_rmOff (Z : State) (p1 : Int32) (a2 : Addr) (k3 : ClassId) (x0 x1 x2 : Int32) (h0 : Heap) (n0 : Nat) (v : Option Value) (h : Heap) (L : List Loc) : Prop := v = some (.int (own_off p1 x0 x1)) ∧ Fr n0 L ∧ h = h0
set_option maxRecDepth 65536 in
set_option maxHeartbeats 40000000 in
theorem rmOff (l : Launch) (Z : State) (a0 : Array Value) (hw : ∀ d ∈ tables_1, d.before a0 Z = true) (ws : List Jvm.Cond) (p1 : Int32) (a2 : Addr) (k3 : ClassId) (x0 x1 x2 : Int32) (h0 : Heap) (n0 : Nat) (Z0 : n0 ≤ h0.size) (Va : Arv Z h0 a2 k3 .int (3 : Int32) [Value.int x0, Value.int x1, Value.int x2] (.int (0 : Int32))) :
    MetFree l (⟨"com/example/terse_graph/tersegraph/PrefixWriterCountIntoPinLaw", "offset", "(I[I)I"⟩ : MethodName) (head1 (Jvm.Cond.code (⟨"com/example/terse_graph/tersegraph/PrefixWriterCountIntoPinLaw", "offset", "(I[I)I"⟩ : MethodName) method_5_code 2 (some .int) :: ws) ({ frames := 0, cells := 0, slots := 0, locals := 0 } : Room)) (fun a U => a = #[(.int p1), (.ref a2)] ∧ Z.Warmed39 U.vm ∧ U.heap = h0) (fun _ _ _ _ _ => True) (fun _ U o U' => ∃ v L, o = .returned v ∧ Q_rmOff Z p1 a2 k3 x0 x1 x2 h0 n0 v U'.heap L ∧ FrameEnd U o U' L ({ frames := 0, cells := 0, slots := 0, locals := 0 } : Room).cells ({ frames := 0, cells := 0, slots := 0, locals := 0 } : Room).slots) := by
  refine MetFree.of_bodySF (plainFor_of_name own_pn3) hisR ?_
  intro p e s m args below meth c s₁ Bd hml0 hP hK
  obtain ⟨rfl, hZ, hh⟩ := hP
  have hx := Bd.exec
  have hby := Bd.bytes
  have hml : c.maxLocals = 2 := hml0
  have hown : s.vm.findClass "com/example/terse_graph/tersegraph/PrefixWriterCountIntoPinLaw" = some m.cls := findClass_of_methodNamed Bd.named
  have hnm := (name_of_methodNamed Bd.named Bd.method).1
  have X0 : Stand p l e ({ frames := 0, cells := 0, slots := 0, locals := 0 } : Room) s m #[(.int p1), (.ref a2)] below meth c s₁ [] 0 0 := Stand.of_body Bd
  have e0 : s₁.heap = h0 := by rw [← hh, Bd.state]; rfl
  have N0 := Fr.nil n0
  have R0 : ∀ t, Steps p.tables e below (s₁.setTop (mkF m 0 #[.val (.int p1), .val (.ref a2)] [])) t → Steps p.tables e below (s₁.setTop (entryFrame m #[(.int p1), (.ref a2)] 2)) t := fun t k => castTop (own_ef_rmOff m p1 a2) k
  obtain ⟨cl1, Ar1, q1, S1, N1', H1, G1⟩ := id Va
  have hin1_0 : ¬ ((0 : Int32) < 0 ∨ cl1.slots.size ≤ ((0 : Int32)).toNatClampNeg) := inb_of S1 ⟨by decide, by decide⟩
  have hat1_0 : cl1.slots[((0 : Int32)).toNatClampNeg]? = some (.int x0) := H1.at hin1_0 rfl
  have hin1_1 : ¬ ((1 : Int32) < 0 ∨ cl1.slots.size ≤ ((1 : Int32)).toNatClampNeg) := inb_of S1 ⟨by decide, by decide⟩
  have hat1_1 : cl1.slots[((1 : Int32)).toNatClampNeg]? = some (.int x1) := H1.at hin1_1 rfl
  have R2 : ∀ t, Steps p.tables e below (s₁.setTop (mkF m 1 #[.val (.int p1), .val (.ref a2)] [(.int p1)])) t → Steps p.tables e below (s₁.setTop (entryFrame m #[(.int p1), (.ref a2)] 2)) t := by
    intro t k
    refine R0 t ?_
    show Steps p.tables e below (s₁.setTop (mkF m 0 #[.val (.int p1), .val (.ref a2)] [])) _
    refine XS.iloadN X0.here hx rfl (hb hby own_d14_0) rfl ?_
    exact k
  by_cases hc : p1 = (0 : Int32)
  · have R3 : ∀ t, Steps p.tables e below (s₁.setTop (mkF m 5 #[.val (.int p1), .val (.ref a2)] [(.int (0 : Int32))])) t → Steps p.tables e below (s₁.setTop (entryFrame m #[(.int p1), (.ref a2)] 2)) t := by
      intro t k
      refine R2 t ?_
      show Steps p.tables e below (s₁.setTop (mkF m 1 #[.val (.int p1), .val (.ref a2)] [(.int p1)])) _
      refine XS.ifNo X0.here hx rfl (hb hby own_d14_1) rfl ((if0 _ _).trans (teq hc).2) ?_
      show Steps p.tables e below (s₁.setTop (mkF m 4 #[.val (.int p1), .val (.ref a2)] [])) _
      refine XS.iconst X0.here hx rfl (hb hby own_d14_4) ?_
      exact k
    have ho : own_off p1 x0 x1 = (0 : Int32) := if_pos hc
    obtain ⟨fs, hr, hrun, hended, hW, hsame⟩ := X0.leave (v := some (.int (0 : Int32))) (fun h => by rw [Bd.returns] at h; cases h)
    refine ⟨_, _, R3 _ ?_, hrun, hended, _, _, rfl, ?_, ⟨_, rfl⟩, hW, hsame.mono (by decide) (by decide)⟩
    · exact retOut X0 hx Bd.returns rfl (Or.inl ⟨rfl, Or.inl rfl, _, rfl⟩) (hb hby own_d14_5) hr
    · show Q_rmOff Z p1 a2 k3 x0 x1 x2 h0 n0 _ s₁.heap _
      rw [e0]
      exact ⟨by rw [ho], N0, rfl⟩
  · have R4 : ∀ t, Steps p.tables e below (s₁.setTop (mkF m 8 #[.val (.int p1), .val (.ref a2)] [(.int (1 : Int32)), (.int p1)])) t → Steps p.tables e below (s₁.setTop (entryFrame m #[(.int p1), (.ref a2)] 2)) t := by
      intro t k
      refine R2 t ?_
      show Steps p.tables e below (s₁.setTop (mkF m 1 #[.val (.int p1), .val (.ref a2)] [(.int p1)])) _
      refine XS.ifYes X0.here hx rfl (pc0 := 1) (pc' := 6) rfl (hb hby own_d14_1) rfl ((if0 _ _).trans (feq hc).2) (by decide) (by decide) ?_
      show Steps p.tables e below (s₁.setTop (mkF m 6 #[.val (.int p1), .val (.ref a2)] [])) _
      refine XS.iloadN X0.here hx rfl (hb hby own_d14_6) rfl ?_
      show Steps p.tables e below (s₁.setTop (mkF m 7 #[.val (.int p1), .val (.ref a2)] [(.int p1)])) _
      refine XS.iconst X0.here hx rfl (hb hby own_d14_7) ?_
      exact k
    by_cases hd : p1 = (1 : Int32)
    · have R5 : ∀ t, Steps p.tables e below (s₁.setTop (mkF m 14 #[.val (.int p1), .val (.ref a2)] [(.int x0)])) t → Steps p.tables e below (s₁.setTop (entryFrame m #[(.int p1), (.ref a2)] 2)) t := by
        intro t k
        refine R4 t ?_
        show Steps p.tables e below (s₁.setTop (mkF m 8 #[.val (.int p1), .val (.ref a2)] [(.int (1 : Int32)), (.int p1)])) _
        refine XS.icmpNo X0.here hx rfl (hb hby own_d14_8) rfl (teq hd).2 ?_
        show Steps p.tables e below (s₁.setTop (mkF m 11 #[.val (.int p1), .val (.ref a2)] [])) _
        refine XS.aloadN X0.here hx rfl (hb hby own_d14_11) rfl rfl ?_
        show Steps p.tables e below (s₁.setTop (mkF m 12 #[.val (.int p1), .val (.ref a2)] [(.ref a2)])) _
        refine XS.iconst X0.here hx rfl (hb hby own_d14_12) ?_
        show Steps p.tables e below (s₁.setTop (mkF m 13 #[.val (.int p1), .val (.ref a2)] [(.int (0 : Int32)), (.ref a2)])) _
        refine X0.iaload hx (j := (0 : Int32)) (v := (.int x0)) (by rw [e0]; exact Ar1.1) (State.isArrayOf_alike hZ.alike Ar1.2.1) Ar1.2.2 hin1_0 hat1_0 (g := (mkF m 13 #[.val (.int p1), .val (.ref a2)] [(.int (0 : Int32)), (.ref a2)])) rfl rfl (hb hby own_d14_13) _ ?_
        exact k
      have ho : own_off p1 x0 x1 = x0 := (if_neg hc).trans (if_pos hd)
      obtain ⟨fs, hr, hrun, hended, hW, hsame⟩ := X0.leave (v := some (.int x0)) (fun h => by rw [Bd.returns] at h; cases h)
      refine ⟨_, _, R5 _ ?_, hrun, hended, _, _, rfl, ?_, ⟨_, rfl⟩, hW, hsame.mono (by decide) (by decide)⟩
      · exact retOut X0 hx Bd.returns rfl (Or.inl ⟨rfl, Or.inl rfl, _, rfl⟩) (hb hby own_d14_14) hr
      · show Q_rmOff Z p1 a2 k3 x0 x1 x2 h0 n0 _ s₁.heap _
        rw [e0]
        exact ⟨by rw [ho], N0, rfl⟩
    · have R6 : ∀ t, Steps p.tables e below (s₁.setTop (mkF m 22 #[.val (.int p1), .val (.ref a2)] [(.int (x0 + x1))])) t → Steps p.tables e below (s₁.setTop (entryFrame m #[(.int p1), (.ref a2)] 2)) t := by
        intro t k
        refine R4 t ?_
        show Steps p.tables e below (s₁.setTop (mkF m 8 #[.val (.int p1), .val (.ref a2)] [(.int (1 : Int32)), (.int p1)])) _
        refine XS.icmpYes X0.here hx rfl (pc0 := 8) (pc' := 15) rfl (hb hby own_d14_8) rfl (feq hd).2 (by decide) (by decide) ?_
        show Steps p.tables e below (s₁.setTop (mkF m 15 #[.val (.int p1), .val (.ref a2)] [])) _
        refine XS.aloadN X0.here hx rfl (hb hby own_d14_15) rfl rfl ?_
        show Steps p.tables e below (s₁.setTop (mkF m 16 #[.val (.int p1), .val (.ref a2)] [(.ref a2)])) _
        refine XS.iconst X0.here hx rfl (hb hby own_d14_16) ?_
        show Steps p.tables e below (s₁.setTop (mkF m 17 #[.val (.int p1), .val (.ref a2)] [(.int (0 : Int32)), (.ref a2)])) _
        refine X0.iaload hx (j := (0 : Int32)) (v := (.int x0)) (by rw [e0]; exact Ar1.1) (State.isArrayOf_alike hZ.alike Ar1.2.1) Ar1.2.2 hin1_0 hat1_0 (g := (mkF m 17 #[.val (.int p1), .val (.ref a2)] [(.int (0 : Int32)), (.ref a2)])) rfl rfl (hb hby own_d14_17) _ ?_
        show Steps p.tables e below (s₁.setTop (mkF m 18 #[.val (.int p1), .val (.ref a2)] [(.int x0)])) _
        refine XS.aloadN X0.here hx rfl (hb hby own_d14_18) rfl rfl ?_
        show Steps p.tables e below (s₁.setTop (mkF m 19 #[.val (.int p1), .val (.ref a2)] [(.ref a2), (.int x0)])) _
        refine XS.iconst X0.here hx rfl (hb hby own_d14_19) ?_
        show Steps p.tables e below (s₁.setTop (mkF m 20 #[.val (.int p1), .val (.ref a2)] [(.int (1 : Int32)), (.ref a2), (.int x0)])) _
        refine X0.iaload hx (j := (1 : Int32)) (v := (.int x1)) (by rw [e0]; exact Ar1.1) (State.isArrayOf_alike hZ.alike Ar1.2.1) Ar1.2.2 hin1_1 hat1_1 (g := (mkF m 20 #[.val (.int p1), .val (.ref a2)] [(.int (1 : Int32)), (.ref a2), (.int x0)])) rfl rfl (hb hby own_d14_20) _ ?_
        show Steps p.tables e below (s₁.setTop (mkF m 21 #[.val (.int p1), .val (.ref a2)] [(.int x1), (.int x0)])) _
        refine XS.iadd X0.here hx rfl (hb hby own_d14_21) rfl ?_
        exact k
      have ho : own_off p1 x0 x1 = (x0 + x1) := (if_neg hc).trans (if_neg hd)
      obtain ⟨fs, hr, hrun, hended, hW, hsame⟩ := X0.leave (v := some (.int (x0 + x1))) (fun h => by rw [Bd.returns] at h; cases h)
      refine ⟨_, _, R6 _ ?_, hrun, hended, _, _, rfl, ?_, ⟨_, rfl⟩, hW, hsame.mono (by decide) (by decide)⟩
      · exact retOut X0 hx Bd.returns rfl (Or.inl ⟨rfl, Or.inl rfl, _, rfl⟩) (hb hby own_d14_22) hr
      · show Q_rmOff Z p1 a2 k3 x0 x1 x2 h0 n0 _ s₁.heap _
        rw [e0]
        exact ⟨by rw [ho], N0, rfl⟩
theorem own_ef_rmHit (m : MethodId) (x0 : Int32) (x1 : Int32) (x2 : Addr) : entryFrame m #[(.int x0), (.int x1), (.ref x2)] 3 = mkF m 0 #[.val (.int x0), .val (.int x1), .val (.ref x2)] [] := by first | (simp [entryFrame, mkF, argsToLocals, Value.category]; done) | rfl
theorem own_d13_0 : decode method_7_code 0 = .ok (.iload_n 0, 1) := by decide +kernel
theorem own_d13_1 : decode method_7_code 1 = .ok (.iconst 1, 1) := by decide +kernel
theorem own_d13_2 : decode method_7_code 2 = .ok (.iand, 1) := by decide +kernel
theorem own_d13_3 : decode method_7_code 3 = .ok (.ifCond .ne 5, 3) := by decide +kernel
theorem own_d13_6 : decode method_7_code 6 = .ok (.lconst 0, 1) := by decide +kernel
theorem own_d13_7 : decode method_7_code 7 = .ok (.lreturn, 1) := by decide +kernel
theorem own_d13_8 : decode method_7_code 8 = .ok (.iload_n 0, 1) := by decide +kernel
theorem own_d13_9 : decode method_7_code 9 = .ok (.invokestatic 44, 3) := by decide +kernel
theorem own_d13_12 : decode method_7_code 12 = .ok (.aload_n 2, 1) := by decide +kernel
theorem own_d13_13 : decode method_7_code 13 = .ok (.invokestatic 60, 3) := by decide +kernel
theorem own_pd4 : parseMethodDescriptor "(I[I)I" = some ⟨[.int, (.array .int)], some .int⟩ := by decide +kernel
theorem own_d13_16 : decode method_7_code 16 = .ok (.iload_n 0, 1) := by decide +kernel
theorem own_d13_17 : decode method_7_code 17 = .ok (.aload_n 2, 1) := by decide +kernel
theorem own_d13_18 : decode method_7_code 18 = .ok (.invokestatic 48, 3) := by decide +kernel
theorem own_d13_21 : decode method_7_code 21 = .ok (.iadd, 1) := by decide +kernel
theorem own_d13_22 : decode method_7_code 22 = .ok (.iload_n 1, 1) := by decide +kernel
theorem own_d13_23 : decode method_7_code 23 = .ok (.if_icmp .ne 7, 3) := by decide +kernel
theorem own_d13_26 : decode method_7_code 26 = .ok (.lconst 1, 1) := by decide +kernel
theorem own_d13_27 : decode method_7_code 27 = .ok (.goto 4, 3) := by decide +kernel
theorem own_d13_30 : decode method_7_code 30 = .ok (.lconst 0, 1) := by decide +kernel
theorem own_d13_31 : decode method_7_code 31 = .ok (.lreturn, 1) := by decide +kernel
def Q_rmHit (Z : State) (p1 p2 : Int32) (a3 : Addr) (k3 : ClassId) (x0 x1 x2 : Int32) (h0 : Heap) (n0 : Nat) (v : Option Value) (h : Heap) (L : List Loc) : Prop := v = some (.long (own_hit p1 p2 x0 x1 x2)) ∧ Fr n0 L ∧ h = h0
set_option maxRecDepth 65536 in
set_option maxHeartbeats 40000000 in
theorem rmHit (l : Launch) (Z : State) (a0 : Array Value) (hw : ∀ d ∈ tables_1, d.before a0 Z = true) (ws : List Jvm.Cond) (p1 p2 : Int32) (a3 : Addr) (k3 : ClassId) (x0 x1 x2 : Int32) (h0 : Heap) (n0 : Nat) (Z0 : n0 ≤ h0.size) (Va : Arv Z h0 a3 k3 .int (3 : Int32) [Value.int x0, Value.int x1, Value.int x2] (.int (0 : Int32))) (z0 : ¬ x0 = (0 : Int32)) (z1 : ¬ x1 = (0 : Int32)) (z2 : ¬ x2 = (0 : Int32)) :
    MetFree l (⟨"com/example/terse_graph/tersegraph/PrefixWriterCountIntoPinLaw", "hit", "(II[I)J"⟩ : MethodName) (head1 (Jvm.Cond.code (⟨"com/example/terse_graph/tersegraph/PrefixWriterCountIntoPinLaw", "hit", "(II[I)J"⟩ : MethodName) method_7_code 3 (some .long) :: ws) ({ frames := 2, cells := 0, slots := 0, locals := 28 } : Room)) (fun a U => a = #[(.int p1), (.int p2), (.ref a3)] ∧ Z.Warmed39 U.vm ∧ U.heap = h0) (fun _ _ _ _ _ => True) (fun _ U o U' => ∃ v L, o = .returned v ∧ Q_rmHit Z p1 p2 a3 k3 x0 x1 x2 h0 n0 v U'.heap L ∧ FrameEnd U o U' L ({ frames := 2, cells := 0, slots := 0, locals := 28 } : Room).cells ({ frames := 2, cells := 0, slots := 0, locals := 28 } : Room).slots) := by
  refine MetFree.of_bodySF (plainFor_of_name own_pn3) hisR ?_
  intro p e s m args below meth c s₁ Bd hml0 hP hK
  obtain ⟨rfl, hZ, hh⟩ := hP
  have hx := Bd.exec
  have hby := Bd.bytes
  have hml : c.maxLocals = 3 := hml0
  have hown : s.vm.findClass "com/example/terse_graph/tersegraph/PrefixWriterCountIntoPinLaw" = some m.cls := findClass_of_methodNamed Bd.named
  have hnm := (name_of_methodNamed Bd.named Bd.method).1
  have X0 : Stand p l e ({ frames := 2, cells := 0, slots := 0, locals := 28 } : Room) s m #[(.int p1), (.int p2), (.ref a3)] below meth c s₁ [] 0 0 := Stand.of_body Bd
  have e0 : s₁.heap = h0 := by rw [← hh, Bd.state]; rfl
  have N0 := Fr.nil n0
  have R0 : ∀ t, Steps p.tables e below (s₁.setTop (mkF m 0 #[.val (.int p1), .val (.int p2), .val (.ref a3)] [])) t → Steps p.tables e below (s₁.setTop (entryFrame m #[(.int p1), (.int p2), (.ref a3)] 3)) t := fun t k => castTop (own_ef_rmHit m p1 p2 a3) k
  have R1 : ∀ t, Steps p.tables e below (s₁.setTop (mkF m 3 #[.val (.int p1), .val (.int p2), .val (.ref a3)] [(.int (p1 &&& (1 : Int32)))])) t → Steps p.tables e below (s₁.setTop (entryFrame m #[(.int p1), (.int p2), (.ref a3)] 3)) t := by
    intro t k
    refine R0 t ?_
    show Steps p.tables e below (s₁.setTop (mkF m 0 #[.val (.int p1), .val (.int p2), .val (.ref a3)] [])) _
    refine XS.iloadN X0.here hx rfl (hb hby own_d13_0) rfl ?_
    show Steps p.tables e below (s₁.setTop (mkF m 1 #[.val (.int p1), .val (.int p2), .val (.ref a3)] [(.int p1)])) _
    refine XS.iconst X0.here hx rfl (hb hby own_d13_1) ?_
    show Steps p.tables e below (s₁.setTop (mkF m 2 #[.val (.int p1), .val (.int p2), .val (.ref a3)] [(.int (1 : Int32)), (.int p1)])) _
    refine XS.iand X0.here hx rfl (hb hby own_d13_2) rfl ?_
    exact k
  by_cases hc : (p1 &&& (1 : Int32)) = (0 : Int32)
  · have R2 : ∀ t, Steps p.tables e below (s₁.setTop (mkF m 7 #[.val (.int p1), .val (.int p2), .val (.ref a3)] [(.long (0 : Int64))])) t → Steps p.tables e below (s₁.setTop (entryFrame m #[(.int p1), (.int p2), (.ref a3)] 3)) t := by
      intro t k
      refine R1 t ?_
      show Steps p.tables e below (s₁.setTop (mkF m 3 #[.val (.int p1), .val (.int p2), .val (.ref a3)] [(.int (p1 &&& (1 : Int32)))])) _
      refine XS.ifNo X0.here hx rfl (hb hby own_d13_3) rfl ((if0 _ _).trans (teq hc).2) ?_
      show Steps p.tables e below (s₁.setTop (mkF m 6 #[.val (.int p1), .val (.int p2), .val (.ref a3)] [])) _
      refine XS.lconst X0.here hx rfl (hb hby own_d13_6) ?_
      exact k
    have ho : own_hit p1 p2 x0 x1 x2 = (0 : Int64) := if_pos hc
    obtain ⟨fs, hr, hrun, hended, hW, hsame⟩ := X0.leave (v := some (.long (0 : Int64))) (fun h => by rw [Bd.returns] at h; cases h)
    refine ⟨_, _, R2 _ ?_, hrun, hended, _, _, rfl, ?_, ⟨_, rfl⟩, hW, hsame.mono (by decide) (by decide)⟩
    · exact retOut X0 hx Bd.returns rfl (Or.inr (Or.inl ⟨rfl, rfl, _, rfl⟩)) (hb hby own_d13_7) hr
    · show Q_rmHit Z p1 p2 a3 k3 x0 x1 x2 h0 n0 _ s₁.heap _
      rw [e0]
      exact ⟨by rw [ho], N0, rfl⟩
  · have R3 : ∀ t, Steps p.tables e below (s₁.setTop (mkF m 9 #[.val (.int p1), .val (.int p2), .val (.ref a3)] [(.int p1)])) t → Steps p.tables e below (s₁.setTop (entryFrame m #[(.int p1), (.int p2), (.ref a3)] 3)) t := by
      intro t k
      refine R1 t ?_
      show Steps p.tables e below (s₁.setTop (mkF m 3 #[.val (.int p1), .val (.int p2), .val (.ref a3)] [(.int (p1 &&& (1 : Int32)))])) _
      refine XS.ifYes X0.here hx rfl (pc0 := 3) (pc' := 8) rfl (hb hby own_d13_3) rfl ((if0 _ _).trans (feq hc).2) (by decide) (by decide) ?_
      show Steps p.tables e below (s₁.setTop (mkF m 8 #[.val (.int p1), .val (.int p2), .val (.ref a3)] [])) _
      refine XS.iloadN X0.here hx rfl (hb hby own_d13_8) rfl ?_
      exact k
    obtain ⟨_, _, ⟨T4, L4, k4, n4⟩, -, X4, ⟨Lc4, hQ4, l4, y4, z4⟩, st4⟩ := Jvm.LawKit.callS X0 hx (y := (⟨"com/example/terse_graph/tersegraph/PrefixWriterCountIntoPinLaw", "ctx", "(I)I"⟩ : MethodName)) hown (mvT hZ (hw _ (List.mem_of_getElem? (i := 51) rfl))) (mvT hZ (hw _ (List.mem_of_getElem? (i := 52) rfl))) (mvT hZ (hw _ (List.mem_of_getElem? (i := 49) rfl))) (mvT hZ (hw _ (List.mem_of_getElem? (i := 53) rfl))) (by decide) (backOf (W := 0) (rmCtx l Z a0 hw [] p1  h0 n0 Z0 ) hZ (hw _ (List.mem_of_getElem? (i := 53) rfl)) (hw _ (List.mem_of_getElem? (i := 49) rfl)) (by decide) (by decide)) (g := (mkF m 9 #[.val (.int p1), .val (.int p2), .val (.ref a3)] [(.int p1)])) rfl (by rw [hml]; rfl) (argsL := [(.int p1)]) (rest := []) (lenOf own_pd3 rfl) rfl (by show 2 * 0 + _ ≤ _; exact Nat.le_of_eq rfl) (hb hby own_d13_9) (fun _ _ => ⟨rfl, e0, (by decide : 0 + 0 ≤ _), (by decide : 0 + 0 ≤ _)⟩)
    dsimp only [Pt.U, Pt.locs, Pt.cells, Pt.slots] at X4 l4 y4 z4 st4 hQ4
    subst l4 y4 z4
    obtain ⟨rfl, Nq4, eq4⟩ := hQ4
    have N4 := Fr.app N0 Nq4
    have R4 : ∀ t, Steps p.tables e below (T4.setTop (mkF m 12 #[.val (.int p1), .val (.int p2), .val (.ref a3)] [(.int (own_ctx p1))])) t → Steps p.tables e below (s₁.setTop (entryFrame m #[(.int p1), (.int p2), (.ref a3)] 3)) t := fun t k => R3 t (st4 t k)
    have R5 : ∀ t, Steps p.tables e below (T4.setTop (mkF m 13 #[.val (.int p1), .val (.int p2), .val (.ref a3)] [(.ref a3), (.int (own_ctx p1))])) t → Steps p.tables e below (s₁.setTop (entryFrame m #[(.int p1), (.int p2), (.ref a3)] 3)) t := by
      intro t k
      refine R4 t ?_
      show Steps p.tables e below (T4.setTop (mkF m 12 #[.val (.int p1), .val (.int p2), .val (.ref a3)] [(.int (own_ctx p1))])) _
      refine XS.aloadN X4.here hx rfl (hb hby own_d13_12) rfl rfl ?_
      exact k
    obtain ⟨_, _, ⟨T6, L6, k6, n6⟩, -, X6, ⟨Lc6, hQ6, l6, y6, z6⟩, st6⟩ := Jvm.LawKit.callS X4 hx (y := (⟨"com/example/terse_graph/tersegraph/PrefixWriterCountIntoPinLaw", "offset", "(I[I)I"⟩ : MethodName)) hown (mvT hZ (hw _ (List.mem_of_getElem? (i := 81) rfl))) (mvT hZ (hw _ (List.mem_of_getElem? (i := 82) rfl))) (mvT hZ (hw _ (List.mem_of_getElem? (i := 49) rfl))) (mvT hZ (hw _ (List.mem_of_getElem? (i := 83) rfl))) (by decide) (backOf (W := 0) (rmOff l Z a0 hw [] (own_ctx p1) a3 k3 x0 x1 x2 h0 n0 Z0 Va) hZ (hw _ (List.mem_of_getElem? (i := 83) rfl)) (hw _ (List.mem_of_getElem? (i := 49) rfl)) (by decide) (by decide)) (g := (mkF m 13 #[.val (.int p1), .val (.int p2), .val (.ref a3)] [(.ref a3), (.int (own_ctx p1))])) rfl (by rw [hml]; rfl) (argsL := [(.int (own_ctx p1)), (.ref a3)]) (rest := []) (lenOf own_pd4 rfl) rfl (by show 2 * 0 + _ ≤ _; exact Nat.le_of_eq rfl) (hb hby own_d13_13) (fun _ _ => ⟨rfl, eq4, (by decide : 0 + 0 ≤ _), (by decide : 0 + 0 ≤ _)⟩)
    dsimp only [Pt.U, Pt.locs, Pt.cells, Pt.slots] at X6 l6 y6 z6 st6 hQ6
    subst l6 y6 z6
    obtain ⟨rfl, Nq6, eq6⟩ := hQ6
    have N6 := Fr.app N4 Nq6
    have R6 : ∀ t, Steps p.tables e below (T6.setTop (mkF m 16 #[.val (.int p1), .val (.int p2), .val (.ref a3)] [(.int (own_off (own_ctx p1) x0 x1))])) t → Steps p.tables e below (s₁.setTop (entryFrame m #[(.int p1), (.int p2), (.ref a3)] 3)) t := fun t k => R5 t (st6 t k)
    have R7 : ∀ t, Steps p.tables e below (T6.setTop (mkF m 18 #[.val (.int p1), .val (.int p2), .val (.ref a3)] [(.ref a3), (.int p1), (.int (own_off (own_ctx p1) x0 x1))])) t → Steps p.tables e below (s₁.setTop (entryFrame m #[(.int p1), (.int p2), (.ref a3)] 3)) t := by
      intro t k
      refine R6 t ?_
      show Steps p.tables e below (T6.setTop (mkF m 16 #[.val (.int p1), .val (.int p2), .val (.ref a3)] [(.int (own_off (own_ctx p1) x0 x1))])) _
      refine XS.iloadN X6.here hx rfl (hb hby own_d13_16) rfl ?_
      show Steps p.tables e below (T6.setTop (mkF m 17 #[.val (.int p1), .val (.int p2), .val (.ref a3)] [(.int p1), (.int (own_off (own_ctx p1) x0 x1))])) _
      refine XS.aloadN X6.here hx rfl (hb hby own_d13_17) rfl rfl ?_
      exact k
    obtain ⟨_, _, ⟨T8, L8, k8, n8⟩, -, X8, ⟨Lc8, hQ8, l8, y8, z8⟩, st8⟩ := Jvm.LawKit.callS X6 hx (y := (⟨"com/example/terse_graph/tersegraph/PrefixWriterCountIntoPinLaw", "sym", "(I[I)I"⟩ : MethodName)) hown (mvT hZ (hw _ (List.mem_of_getElem? (i := 54) rfl))) (mvT hZ (hw _ (List.mem_of_getElem? (i := 55) rfl))) (mvT hZ (hw _ (List.mem_of_getElem? (i := 49) rfl))) (mvT hZ (hw _ (List.mem_of_getElem? (i := 56) rfl))) (by decide) (backOf (W := 1) (rmSym l Z a0 hw [] p1 a3 k3 x0 x1 x2 h0 n0 Z0 Va z0 z1 z2) hZ (hw _ (List.mem_of_getElem? (i := 56) rfl)) (hw _ (List.mem_of_getElem? (i := 49) rfl)) (by decide) (by decide)) (g := (mkF m 18 #[.val (.int p1), .val (.int p2), .val (.ref a3)] [(.ref a3), (.int p1), (.int (own_off (own_ctx p1) x0 x1))])) rfl (by rw [hml]; rfl) (argsL := [(.int p1), (.ref a3)]) (rest := [(.int (own_off (own_ctx p1) x0 x1))]) (lenOf own_pd4 rfl) rfl (by show 2 * 0 + _ ≤ _; exact Nat.le_of_eq rfl) (hb hby own_d13_18) (fun _ _ => ⟨rfl, eq6, (by decide : 0 + 0 ≤ _), (by decide : 0 + 0 ≤ _)⟩)
    dsimp only [Pt.U, Pt.locs, Pt.cells, Pt.slots] at X8 l8 y8 z8 st8 hQ8
    subst l8 y8 z8
    obtain ⟨rfl, Nq8, eq8⟩ := hQ8
    have N8 := Fr.app N6 Nq8
    have R8 : ∀ t, Steps p.tables e below (T8.setTop (mkF m 21 #[.val (.int p1), .val (.int p2), .val (.ref a3)] [(.int (own_sym p1 x0 x1 x2)), (.int (own_off (own_ctx p1) x0 x1))])) t → Steps p.tables e below (s₁.setTop (entryFrame m #[(.int p1), (.int p2), (.ref a3)] 3)) t := fun t k => R7 t (st8 t k)
    have R9 : ∀ t, Steps p.tables e below (T8.setTop (mkF m 23 #[.val (.int p1), .val (.int p2), .val (.ref a3)] [(.int p2), (.int ((own_off (own_ctx p1) x0 x1) + (own_sym p1 x0 x1 x2)))])) t → Steps p.tables e below (s₁.setTop (entryFrame m #[(.int p1), (.int p2), (.ref a3)] 3)) t := by
      intro t k
      refine R8 t ?_
      show Steps p.tables e below (T8.setTop (mkF m 21 #[.val (.int p1), .val (.int p2), .val (.ref a3)] [(.int (own_sym p1 x0 x1 x2)), (.int (own_off (own_ctx p1) x0 x1))])) _
      refine XS.iadd X8.here hx rfl (hb hby own_d13_21) rfl ?_
      show Steps p.tables e below (T8.setTop (mkF m 22 #[.val (.int p1), .val (.int p2), .val (.ref a3)] [(.int ((own_off (own_ctx p1) x0 x1) + (own_sym p1 x0 x1 x2)))])) _
      refine XS.iloadN X8.here hx rfl (hb hby own_d13_22) rfl ?_
      exact k
    obtain ⟨res, hres, R10⟩ : ∃ (res : Int64), res = (if ((own_off (own_ctx p1) x0 x1) + (own_sym p1 x0 x1 x2)) = p2 then (1 : Int64) else (0 : Int64)) ∧ (∀ t, Steps p.tables e below (T8.setTop (mkF m 31 #[.val (.int p1), .val (.int p2), .val (.ref a3)] [(.long res)])) t → Steps p.tables e below (s₁.setTop (entryFrame m #[(.int p1), (.int p2), (.ref a3)] 3)) t) := by
      by_cases hc23_0 : ((own_off (own_ctx p1) x0 x1) + (own_sym p1 x0 x1 x2)) = p2
      · refine ⟨(1 : Int64), (by simp only [if_pos hc23_0]), ?_⟩
        intro t k
        refine R9 t ?_
        show Steps p.tables e below (T8.setTop (mkF m 23 #[.val (.int p1), .val (.int p2), .val (.ref a3)] [(.int p2), (.int ((own_off (own_ctx p1) x0 x1) + (own_sym p1 x0 x1 x2)))])) _
        refine XS.icmpNo X8.here hx rfl (hb hby own_d13_23) rfl (teq hc23_0).2 ?_
        show Steps p.tables e below (T8.setTop (mkF m 26 #[.val (.int p1), .val (.int p2), .val (.ref a3)] [])) _
        refine XS.lconst X8.here hx rfl (hb hby own_d13_26) ?_
        show Steps p.tables e below (T8.setTop (mkF m 27 #[.val (.int p1), .val (.int p2), .val (.ref a3)] [(.long (1 : Int64))])) _
        refine XS.goto X8.here hx rfl (pc0 := 27) (pc' := 31) rfl (hb hby own_d13_27) (by decide) (by decide) ?_
        exact k
      · refine ⟨(0 : Int64), (by simp only [if_neg hc23_0]), ?_⟩
        intro t k
        refine R9 t ?_
        show Steps p.tables e below (T8.setTop (mkF m 23 #[.val (.int p1), .val (.int p2), .val (.ref a3)] [(.int p2), (.int ((own_off (own_ctx p1) x0 x1) + (own_sym p1 x0 x1 x2)))])) _
        refine XS.icmpYes X8.here hx rfl (pc0 := 23) (pc' := 30) rfl (hb hby own_d13_23) rfl (feq hc23_0).2 (by decide) (by decide) ?_
        show Steps p.tables e below (T8.setTop (mkF m 30 #[.val (.int p1), .val (.int p2), .val (.ref a3)] [])) _
        refine XS.lconst X8.here hx rfl (hb hby own_d13_30) ?_
        exact k
    have ho : own_hit p1 p2 x0 x1 x2 = res := (if_neg hc).trans hres.symm
    obtain ⟨fs, hr, hrun, hended, hW, hsame⟩ := X8.leave (v := some (.long res)) (fun h => by rw [Bd.returns] at h; cases h)
    refine ⟨_, _, R10 _ ?_, hrun, hended, _, _, rfl, ?_, ⟨_, rfl⟩, hW, hsame.mono (by decide) (by decide)⟩
    · exact retOut X8 hx Bd.returns rfl (Or.inr (Or.inl ⟨rfl, rfl, _, rfl⟩)) (hb hby own_d13_31) hr
    · show Q_rmHit Z p1 p2 a3 k3 x0 x1 x2 h0 n0 _ T8.heap _
      rw [eq8]
      exact ⟨by rw [ho], N8, rfl⟩
theorem own_ef_rmPut (m : MethodId) (x0 : Addr) (x1 : Int32) (x2 : Addr) : entryFrame m #[(.ref x0), (.int x1), (.ref x2)] 3 = mkF m 0 #[.val (.ref x0), .val (.int x1), .val (.ref x2)] [] := by first | (simp [entryFrame, mkF, argsToLocals, Value.category]; done) | rfl
theorem own_d6_0 : decode method_6_code 0 = .ok (.iload_n 1, 1) := by decide +kernel
theorem own_d6_1 : decode method_6_code 1 = .ok (.iconst 1, 1) := by decide +kernel
theorem own_d6_2 : decode method_6_code 2 = .ok (.iand, 1) := by decide +kernel
theorem own_d6_3 : decode method_6_code 3 = .ok (.ifCond .eq 19, 3) := by decide +kernel
theorem own_d6_22 : decode method_6_code 22 = .ok (.aload_n 0, 1) := by decide +kernel
theorem own_d6_23 : decode method_6_code 23 = .ok (.iload_n 1, 1) := by decide +kernel
theorem own_d6_24 : decode method_6_code 24 = .ok (.i2l, 1) := by decide +kernel
theorem own_d6_25 : decode method_6_code 25 = .ok (.iload_n 1, 1) := by decide +kernel
theorem own_d6_26 : decode method_6_code 26 = .ok (.iconst 1, 1) := by decide +kernel
theorem own_d6_27 : decode method_6_code 27 = .ok (.iushr, 1) := by decide +kernel
theorem own_d6_28 : decode method_6_code 28 = .ok (.bipush 31, 2) := by decide +kernel
theorem own_d6_30 : decode method_6_code 30 = .ok (.iand, 1) := by decide +kernel
theorem own_d6_31 : decode method_6_code 31 = .ok (.invokevirtual 56, 3) := by decide +kernel
theorem own_pd6 : parseMethodDescriptor "(JI)V" = some ⟨[.long, .int], none⟩ := by decide +kernel
theorem own_d6_34 : decode method_6_code 34 = .ok (.return_, 1) := by decide +kernel
theorem own_d6_6 : decode method_6_code 6 = .ok (.aload_n 0, 1) := by decide +kernel
theorem own_d6_7 : decode method_6_code 7 = .ok (.iload_n 1, 1) := by decide +kernel
theorem own_d6_8 : decode method_6_code 8 = .ok (.invokestatic 44, 3) := by decide +kernel
theorem own_d6_11 : decode method_6_code 11 = .ok (.iload_n 1, 1) := by decide +kernel
theorem own_d6_12 : decode method_6_code 12 = .ok (.aload_n 2, 1) := by decide +kernel
theorem own_d6_13 : decode method_6_code 13 = .ok (.invokestatic 48, 3) := by decide +kernel
theorem own_d6_16 : decode method_6_code 16 = .ok (.invokevirtual 52, 3) := by decide +kernel
theorem own_d6_19 : decode method_6_code 19 = .ok (.goto 15, 3) := by decide +kernel
def Q_rmPut (Z : State) (a1 : Addr) (p2 : Int32) (a3 : Addr) (k3 : ClassId) (x0 x1 x2 : Int32) (ac av : Addr) (kc kv : ClassId) (es : own_E) (h0 : Heap) (n0 : Nat) (v : Option Value) (h : Heap) (L : List Loc) : Prop := v = none ∧ Fr n0 L ∧ Keep h0 h [a1, ac, av] ∧ own_Wr Z h a1 ac av kc kv (es ++ own_ent p2 x0 x1 x2)
set_option maxRecDepth 65536 in
set_option maxHeartbeats 40000000 in
theorem rmPut (l : Launch) (Z : State) (a0 : Array Value) (hw : ∀ d ∈ tables_1, d.before a0 Z = true) (ws : List Jvm.Cond) (a1 : Addr) (p2 : Int32) (a3 : Addr) (k3 : ClassId) (x0 x1 x2 : Int32) (ac av : Addr) (kc kv : ClassId) (es : own_E) (h0 : Heap) (n0 : Nat) (Z0 : n0 ≤ h0.size) (Va : Arv Z h0 a3 k3 .int (3 : Int32) [Value.int x0, Value.int x1, Value.int x2] (.int (0 : Int32))) (z0 : ¬ x0 = (0 : Int32)) (z1 : ¬ x1 = (0 : Int32)) (z2 : ¬ x2 = (0 : Int32)) (Hw : own_Wr Z h0 a1 ac av kc kv es) (g_a1 : n0 ≤ a1) (g_ac : n0 ≤ ac) (g_av : n0 ≤ av) (ne_a1_ac : a1 ≠ ac) (ne_a1_av : a1 ≠ av) (ne_ac_av : ac ≠ av) (hl : es.length < 256) :
    MetFree l (⟨"com/example/terse_graph/tersegraph/PrefixWriterCountIntoPinLaw", "put", "(Lcom/example/terse_graph/tersegraph/PrefixWriter;I[I)V"⟩ : MethodName) (head1 (Jvm.Cond.code (⟨"com/example/terse_graph/tersegraph/PrefixWriterCountIntoPinLaw", "put", "(Lcom/example/terse_graph/tersegraph/PrefixWriter;I[I)V"⟩ : MethodName) method_6_code 3 none :: ws) ({ frames := 2, cells := 0, slots := 0, locals := 29 } : Room)) (fun a U => a = #[(.ref a1), (.int p2), (.ref a3)] ∧ Z.Warmed39 U.vm ∧ U.heap = h0) (fun _ _ _ _ _ => True) (fun _ U o U' => ∃ v L, o = .returned v ∧ Q_rmPut Z a1 p2 a3 k3 x0 x1 x2 ac av kc kv es h0 n0 v U'.heap L ∧ FrameEnd U o U' L ({ frames := 2, cells := 0, slots := 0, locals := 29 } : Room).cells ({ frames := 2, cells := 0, slots := 0, locals := 29 } : Room).slots) := by
  refine MetFree.of_bodySF (plainFor_of_name own_pn3) hisR ?_
  intro p e s m args below meth c s₁ Bd hml0 hP hK
  obtain ⟨rfl, hZ, hh⟩ := hP
  have hx := Bd.exec
  have hby := Bd.bytes
  have hml : c.maxLocals = 3 := hml0
  have hown : s.vm.findClass "com/example/terse_graph/tersegraph/PrefixWriterCountIntoPinLaw" = some m.cls := findClass_of_methodNamed Bd.named
  have hnm := (name_of_methodNamed Bd.named Bd.method).1
  have X0 : Stand p l e ({ frames := 2, cells := 0, slots := 0, locals := 29 } : Room) s m #[(.ref a1), (.int p2), (.ref a3)] below meth c s₁ [] 0 0 := Stand.of_body Bd
  have e0 : s₁.heap = h0 := by rw [← hh, Bd.state]; rfl
  have N0 := Fr.nil n0
  have R0 : ∀ t, Steps p.tables e below (s₁.setTop (mkF m 0 #[.val (.ref a1), .val (.int p2), .val (.ref a3)] [])) t → Steps p.tables e below (s₁.setTop (entryFrame m #[(.ref a1), (.int p2), (.ref a3)] 3)) t := fun t k => castTop (own_ef_rmPut m a1 p2 a3) k
  have R1 : ∀ t, Steps p.tables e below (s₁.setTop (mkF m 3 #[.val (.ref a1), .val (.int p2), .val (.ref a3)] [(.int (p2 &&& (1 : Int32)))])) t → Steps p.tables e below (s₁.setTop (entryFrame m #[(.ref a1), (.int p2), (.ref a3)] 3)) t := by
    intro t k
    refine R0 t ?_
    show Steps p.tables e below (s₁.setTop (mkF m 0 #[.val (.ref a1), .val (.int p2), .val (.ref a3)] [])) _
    refine XS.iloadN X0.here hx rfl (hb hby own_d6_0) rfl ?_
    show Steps p.tables e below (s₁.setTop (mkF m 1 #[.val (.ref a1), .val (.int p2), .val (.ref a3)] [(.int p2)])) _
    refine XS.iconst X0.here hx rfl (hb hby own_d6_1) ?_
    show Steps p.tables e below (s₁.setTop (mkF m 2 #[.val (.ref a1), .val (.int p2), .val (.ref a3)] [(.int (1 : Int32)), (.int p2)])) _
    refine XS.iand X0.here hx rfl (hb hby own_d6_2) rfl ?_
    exact k
  by_cases hc : (p2 &&& (1 : Int32)) = (0 : Int32)
  · have R2 : ∀ t, Steps p.tables e below (s₁.setTop (mkF m 31 #[.val (.ref a1), .val (.int p2), .val (.ref a3)] [(.int (((p2.toUInt32 >>> ((1 : Int32) &&& 31).toUInt32).toInt32) &&& (31 : Int32))), (.long (p2.toInt64)), (.ref a1)])) t → Steps p.tables e below (s₁.setTop (entryFrame m #[(.ref a1), (.int p2), (.ref a3)] 3)) t := by
      intro t k
      refine R1 t ?_
      show Steps p.tables e below (s₁.setTop (mkF m 3 #[.val (.ref a1), .val (.int p2), .val (.ref a3)] [(.int (p2 &&& (1 : Int32)))])) _
      refine XS.ifYes X0.here hx rfl (pc0 := 3) (pc' := 22) rfl (hb hby own_d6_3) rfl ((if0 _ _).trans (teq hc).1) (by decide) (by decide) ?_
      show Steps p.tables e below (s₁.setTop (mkF m 22 #[.val (.ref a1), .val (.int p2), .val (.ref a3)] [])) _
      refine XS.aloadN X0.here hx rfl (hb hby own_d6_22) rfl rfl ?_
      show Steps p.tables e below (s₁.setTop (mkF m 23 #[.val (.ref a1), .val (.int p2), .val (.ref a3)] [(.ref a1)])) _
      refine XS.iloadN X0.here hx rfl (hb hby own_d6_23) rfl ?_
      show Steps p.tables e below (s₁.setTop (mkF m 24 #[.val (.ref a1), .val (.int p2), .val (.ref a3)] [(.int p2), (.ref a1)])) _
      refine XS.i2l X0.here hx rfl (hb hby own_d6_24) rfl ?_
      show Steps p.tables e below (s₁.setTop (mkF m 25 #[.val (.ref a1), .val (.int p2), .val (.ref a3)] [(.long (p2.toInt64)), (.ref a1)])) _
      refine XS.iloadN X0.here hx rfl (hb hby own_d6_25) rfl ?_
      show Steps p.tables e below (s₁.setTop (mkF m 26 #[.val (.ref a1), .val (.int p2), .val (.ref a3)] [(.int p2), (.long (p2.toInt64)), (.ref a1)])) _
      refine XS.iconst X0.here hx rfl (hb hby own_d6_26) ?_
      show Steps p.tables e below (s₁.setTop (mkF m 27 #[.val (.ref a1), .val (.int p2), .val (.ref a3)] [(.int (1 : Int32)), (.int p2), (.long (p2.toInt64)), (.ref a1)])) _
      refine XS.iushr X0.here hx rfl (hb hby own_d6_27) rfl ?_
      show Steps p.tables e below (s₁.setTop (mkF m 28 #[.val (.ref a1), .val (.int p2), .val (.ref a3)] [(.int ((p2.toUInt32 >>> ((1 : Int32) &&& 31).toUInt32).toInt32)), (.long (p2.toInt64)), (.ref a1)])) _
      refine XS.bipush X0.here hx rfl (hb hby own_d6_28) ?_
      show Steps p.tables e below (s₁.setTop (mkF m 30 #[.val (.ref a1), .val (.int p2), .val (.ref a3)] [(.int (31 : Int32)), (.int ((p2.toUInt32 >>> ((1 : Int32) &&& 31).toUInt32).toInt32)), (.long (p2.toInt64)), (.ref a1)])) _
      refine XS.iand X0.here hx rfl (hb hby own_d6_30) rfl ?_
      exact k
    have hes : own_ent p2 x0 x1 x2 = own_bits p2.toInt64 (((p2.toUInt32 >>> ((1 : Int32) &&& 31).toUInt32).toInt32) &&& (31 : Int32)) := if_pos hc
    obtain ⟨cq3, kq3, q3a, q3b, q3c⟩ := isOf hZ e0 Hw.2.2.2.1
    obtain ⟨_, _, ⟨T3, L3, k3, n3⟩, -, X3, ⟨Lc3, hQ3, l3, y3, z3⟩, st3⟩ := X0.virtualBack hx (y := (⟨"com/example/terse_graph/tersegraph/PrefixWriter", "addBits", "(JI)V"⟩ : MethodName)) (z := (⟨"com/example/terse_graph/tersegraph/PrefixWriter", "addBits", "(JI)V"⟩ : MethodName)) hown (mvT hZ (hw _ (List.mem_of_getElem? (i := 64) rfl))) (mvT hZ (hw _ (List.mem_of_getElem? (i := 65) rfl))) (notFace_of_selects (args := #[]) (mvT hZ (hw _ (List.mem_of_getElem? (i := 67) rfl)))) (mvT hZ (hw _ (List.mem_of_getElem? (i := 67) rfl))) (mvT hZ (hw _ (List.mem_of_getElem? (i := 66) rfl))) (by decide) (backOf (W := 0) (rmBits l Z a0 hw [] a1 (p2.toInt64) (((p2.toUInt32 >>> ((1 : Int32) &&& 31).toUInt32).toInt32) &&& (31 : Int32)) ac av kc kv es h0 n0 Z0 Hw g_a1 g_ac g_av ne_a1_ac ne_a1_av ne_ac_av hl) hZ (hw _ (List.mem_of_getElem? (i := 68) rfl)) (hw _ (List.mem_of_getElem? (i := 14) rfl)) (by decide) (by decide)) q3a q3c (g := (mkF m 31 #[.val (.ref a1), .val (.int p2), .val (.ref a3)] [(.int (((p2.toUInt32 >>> ((1 : Int32) &&& 31).toUInt32).toInt32) &&& (31 : Int32))), (.long (p2.toInt64)), (.ref a1)])) rfl (by rw [hml]; rfl) (Steps.refl _) (argsL := [(.long (p2.toInt64)), (.int (((p2.toUInt32 >>> ((1 : Int32) &&& 31).toUInt32).toInt32) &&& (31 : Int32)))]) (rest := []) (lenOf own_pd6 rfl) rfl (by show 2 * 0 + _ ≤ _; exact Nat.le_of_eq rfl) (hb hby own_d6_31) (fun _ _ => ⟨rfl, e0, (by decide : 0 + 0 ≤ _), (by decide : 0 + 0 ≤ _)⟩)
    dsimp only [Pt.U, Pt.locs, Pt.cells, Pt.slots] at X3 l3 y3 z3 st3 hQ3
    subst l3 y3 z3
    obtain ⟨rfl, Nq3, Kc3, Hw3⟩ := hQ3
    have N3 := Fr.app N0 Nq3
    have R3 : ∀ t, Steps p.tables e below (T3.setTop (mkF m 34 #[.val (.ref a1), .val (.int p2), .val (.ref a3)] [])) t → Steps p.tables e below (s₁.setTop (entryFrame m #[(.ref a1), (.int p2), (.ref a3)] 3)) t := fun t k => R2 t (st3.trans k)
    have Z3 : n0 ≤ T3.heap.size := Nat.le_trans Z0 Kc3.1
    have K3 : Keep h0 T3.heap [a1, ac, av] := (Keep.refl h0 [a1, ac, av]).trans Kc3 (allS (Or.inl (by simp)) (allS (Or.inl (by simp)) (allS (Or.inl (by simp)) all0)))
    have f4 : Exa Z T3.heap a1 "com/example/terse_graph/tersegraph/PrefixWriter" := Hw.2.2.2.1.keep Kc3
    obtain ⟨fs, hr, hrun, hended, hW, hsame⟩ := X3.leave (v := none) (fun _ => rfl)
    refine ⟨_, _, R3 _ ?_, hrun, hended, _, _, rfl, ?_, ⟨_, rfl⟩, hW, hsame.mono (by decide) (by decide)⟩
    · exact X3.returnOut hx Bd.returns (hb hby own_d6_34) hr
    · show Q_rmPut Z a1 p2 a3 k3 x0 x1 x2 ac av kc kv es h0 n0 _ T3.heap _
      exact ⟨rfl, N3, K3, by rw [hes]; exact Hw3⟩
  · have R5 : ∀ t, Steps p.tables e below (s₁.setTop (mkF m 8 #[.val (.ref a1), .val (.int p2), .val (.ref a3)] [(.int p2), (.ref a1)])) t → Steps p.tables e below (s₁.setTop (entryFrame m #[(.ref a1), (.int p2), (.ref a3)] 3)) t := by
      intro t k
      refine R1 t ?_
      show Steps p.tables e below (s₁.setTop (mkF m 3 #[.val (.ref a1), .val (.int p2), .val (.ref a3)] [(.int (p2 &&& (1 : Int32)))])) _
      refine XS.ifNo X0.here hx rfl (hb hby own_d6_3) rfl ((if0 _ _).trans (feq hc).1) ?_
      show Steps p.tables e below (s₁.setTop (mkF m 6 #[.val (.ref a1), .val (.int p2), .val (.ref a3)] [])) _
      refine XS.aloadN X0.here hx rfl (hb hby own_d6_6) rfl rfl ?_
      show Steps p.tables e below (s₁.setTop (mkF m 7 #[.val (.ref a1), .val (.int p2), .val (.ref a3)] [(.ref a1)])) _
      refine XS.iloadN X0.here hx rfl (hb hby own_d6_7) rfl ?_
      exact k
    have hes : own_ent p2 x0 x1 x2 = [(own_ctx p2, own_sym p2 x0 x1 x2)] := if_neg hc
    obtain ⟨_, _, ⟨T6, L6, k6, n6⟩, -, X6, ⟨Lc6, hQ6, l6, y6, z6⟩, st6⟩ := Jvm.LawKit.callS X0 hx (y := (⟨"com/example/terse_graph/tersegraph/PrefixWriterCountIntoPinLaw", "ctx", "(I)I"⟩ : MethodName)) hown (mvT hZ (hw _ (List.mem_of_getElem? (i := 51) rfl))) (mvT hZ (hw _ (List.mem_of_getElem? (i := 52) rfl))) (mvT hZ (hw _ (List.mem_of_getElem? (i := 49) rfl))) (mvT hZ (hw _ (List.mem_of_getElem? (i := 53) rfl))) (by decide) (backOf (W := 1) (rmCtx l Z a0 hw [] p2  h0 n0 Z0 ) hZ (hw _ (List.mem_of_getElem? (i := 53) rfl)) (hw _ (List.mem_of_getElem? (i := 49) rfl)) (by decide) (by decide)) (g := (mkF m 8 #[.val (.ref a1), .val (.int p2), .val (.ref a3)] [(.int p2), (.ref a1)])) rfl (by rw [hml]; rfl) (argsL := [(.int p2)]) (rest := [(.ref a1)]) (lenOf own_pd3 rfl) rfl (by show 2 * 0 + _ ≤ _; exact Nat.le_of_eq rfl) (hb hby own_d6_8) (fun _ _ => ⟨rfl, e0, (by decide : 0 + 0 ≤ _), (by decide : 0 + 0 ≤ _)⟩)
    dsimp only [Pt.U, Pt.locs, Pt.cells, Pt.slots] at X6 l6 y6 z6 st6 hQ6
    subst l6 y6 z6
    obtain ⟨rfl, Nq6, eq6⟩ := hQ6
    have N6 := Fr.app N0 Nq6
    have R6 : ∀ t, Steps p.tables e below (T6.setTop (mkF m 11 #[.val (.ref a1), .val (.int p2), .val (.ref a3)] [(.int (own_ctx p2)), (.ref a1)])) t → Steps p.tables e below (s₁.setTop (entryFrame m #[(.ref a1), (.int p2), (.ref a3)] 3)) t := fun t k => R5 t (st6 t k)
    have R7 : ∀ t, Steps p.tables e below (T6.setTop (mkF m 13 #[.val (.ref a1), .val (.int p2), .val (.ref a3)] [(.ref a3), (.int p2), (.int (own_ctx p2)), (.ref a1)])) t → Steps p.tables e below (s₁.setTop (entryFrame m #[(.ref a1), (.int p2), (.ref a3)] 3)) t := by
      intro t k
      refine R6 t ?_
      show Steps p.tables e below (T6.setTop (mkF m 11 #[.val (.ref a1), .val (.int p2), .val (.ref a3)] [(.int (own_ctx p2)), (.ref a1)])) _
      refine XS.iloadN X6.here hx rfl (hb hby own_d6_11) rfl ?_
      show Steps p.tables e below (T6.setTop (mkF m 12 #[.val (.ref a1), .val (.int p2), .val (.ref a3)] [(.int p2), (.int (own_ctx p2)), (.ref a1)])) _
      refine XS.aloadN X6.here hx rfl (hb hby own_d6_12) rfl rfl ?_
      exact k
    obtain ⟨_, _, ⟨T8, L8, k8, n8⟩, -, X8, ⟨Lc8, hQ8, l8, y8, z8⟩, st8⟩ := Jvm.LawKit.callS X6 hx (y := (⟨"com/example/terse_graph/tersegraph/PrefixWriterCountIntoPinLaw", "sym", "(I[I)I"⟩ : MethodName)) hown (mvT hZ (hw _ (List.mem_of_getElem? (i := 54) rfl))) (mvT hZ (hw _ (List.mem_of_getElem? (i := 55) rfl))) (mvT hZ (hw _ (List.mem_of_getElem? (i := 49) rfl))) (mvT hZ (hw _ (List.mem_of_getElem? (i := 56) rfl))) (by decide) (backOf (W := 2) (rmSym l Z a0 hw [] p2 a3 k3 x0 x1 x2 h0 n0 Z0 Va z0 z1 z2) hZ (hw _ (List.mem_of_getElem? (i := 56) rfl)) (hw _ (List.mem_of_getElem? (i := 49) rfl)) (by decide) (by decide)) (g := (mkF m 13 #[.val (.ref a1), .val (.int p2), .val (.ref a3)] [(.ref a3), (.int p2), (.int (own_ctx p2)), (.ref a1)])) rfl (by rw [hml]; rfl) (argsL := [(.int p2), (.ref a3)]) (rest := [(.int (own_ctx p2)), (.ref a1)]) (lenOf own_pd4 rfl) rfl (by show 2 * 0 + _ ≤ _; exact Nat.le_of_eq rfl) (hb hby own_d6_13) (fun _ _ => ⟨rfl, eq6, (by decide : 0 + 0 ≤ _), (by decide : 0 + 0 ≤ _)⟩)
    dsimp only [Pt.U, Pt.locs, Pt.cells, Pt.slots] at X8 l8 y8 z8 st8 hQ8
    subst l8 y8 z8
    obtain ⟨rfl, Nq8, eq8⟩ := hQ8
    have N8 := Fr.app N6 Nq8
    have R8 : ∀ t, Steps p.tables e below (T8.setTop (mkF m 16 #[.val (.ref a1), .val (.int p2), .val (.ref a3)] [(.int (own_sym p2 x0 x1 x2)), (.int (own_ctx p2)), (.ref a1)])) t → Steps p.tables e below (s₁.setTop (entryFrame m #[(.ref a1), (.int p2), (.ref a3)] 3)) t := fun t k => R7 t (st8 t k)
    obtain ⟨cq9, kq9, q9a, q9b, q9c⟩ := isOf hZ eq8 Hw.2.2.2.1
    obtain ⟨_, _, ⟨T9, L9, k9, n9⟩, -, X9, ⟨Lc9, hQ9, l9, y9, z9⟩, st9⟩ := X8.virtualBack hx (y := (⟨"com/example/terse_graph/tersegraph/PrefixWriter", "add", "(II)V"⟩ : MethodName)) (z := (⟨"com/example/terse_graph/tersegraph/PrefixWriter", "add", "(II)V"⟩ : MethodName)) hown (mvT hZ (hw _ (List.mem_of_getElem? (i := 57) rfl))) (mvT hZ (hw _ (List.mem_of_getElem? (i := 58) rfl))) (notFace_of_selects (args := #[]) (mvT hZ (hw _ (List.mem_of_getElem? (i := 60) rfl)))) (mvT hZ (hw _ (List.mem_of_getElem? (i := 60) rfl))) (mvT hZ (hw _ (List.mem_of_getElem? (i := 59) rfl))) (by decide) (backOf (W := 0) (rmAdd l Z a0 hw [] a1 (own_ctx p2) (own_sym p2 x0 x1 x2) ac av kc kv es h0 n0 Z0 Hw g_a1 g_ac g_av ne_a1_ac ne_a1_av ne_ac_av hl) hZ (hw _ (List.mem_of_getElem? (i := 61) rfl)) (hw _ (List.mem_of_getElem? (i := 14) rfl)) (by decide) (by decide)) q9a q9c (g := (mkF m 16 #[.val (.ref a1), .val (.int p2), .val (.ref a3)] [(.int (own_sym p2 x0 x1 x2)), (.int (own_ctx p2)), (.ref a1)])) rfl (by rw [hml]; rfl) (Steps.refl _) (argsL := [(.int (own_ctx p2)), (.int (own_sym p2 x0 x1 x2))]) (rest := []) (lenOf own_pd5 rfl) rfl (by show 2 * 0 + _ ≤ _; exact Nat.le_of_eq rfl) (hb hby own_d6_16) (fun _ _ => ⟨rfl, eq8, (by decide : 0 + 0 ≤ _), (by decide : 0 + 0 ≤ _)⟩)
    dsimp only [Pt.U, Pt.locs, Pt.cells, Pt.slots] at X9 l9 y9 z9 st9 hQ9
    subst l9 y9 z9
    obtain ⟨rfl, Nq9, Kc9, Hw9⟩ := hQ9
    have N9 := Fr.app N8 Nq9
    have R9 : ∀ t, Steps p.tables e below (T9.setTop (mkF m 19 #[.val (.ref a1), .val (.int p2), .val (.ref a3)] [])) t → Steps p.tables e below (s₁.setTop (entryFrame m #[(.ref a1), (.int p2), (.ref a3)] 3)) t := fun t k => R8 t (st9.trans k)
    have Z9 : n0 ≤ T9.heap.size := Nat.le_trans Z0 Kc9.1
    have K9 : Keep h0 T9.heap [a1, ac, av] := (Keep.refl h0 [a1, ac, av]).trans Kc9 (allS (Or.inl (by simp)) (allS (Or.inl (by simp)) (allS (Or.inl (by simp)) all0)))
    have f10 : Exa Z T9.heap a1 "com/example/terse_graph/tersegraph/PrefixWriter" := Hw.2.2.2.1.keep Kc9
    have R11 : ∀ t, Steps p.tables e below (T9.setTop (mkF m 34 #[.val (.ref a1), .val (.int p2), .val (.ref a3)] [])) t → Steps p.tables e below (s₁.setTop (entryFrame m #[(.ref a1), (.int p2), (.ref a3)] 3)) t := by
      intro t k
      refine R9 t ?_
      show Steps p.tables e below (T9.setTop (mkF m 19 #[.val (.ref a1), .val (.int p2), .val (.ref a3)] [])) _
      refine XS.goto X9.here hx rfl (pc0 := 19) (pc' := 34) rfl (hb hby own_d6_19) (by decide) (by decide) ?_
      exact k
    obtain ⟨fs, hr, hrun, hended, hW, hsame⟩ := X9.leave (v := none) (fun _ => rfl)
    refine ⟨_, _, R11 _ ?_, hrun, hended, _, _, rfl, ?_, ⟨_, rfl⟩, hW, hsame.mono (by decide) (by decide)⟩
    · exact X9.returnOut hx Bd.returns (hb hby own_d6_34) hr
    · show Q_rmPut Z a1 p2 a3 k3 x0 x1 x2 ac av kc kv es h0 n0 _ T9.heap _
      exact ⟨rfl, N9, K9, by rw [hes]; exact Hw9⟩
theorem own_d11_41 : decode prog_127_method_5_code 41 = .ok (.iload 4, 2) := by decide +kernel
theorem own_d11_43 : decode prog_127_method_5_code 43 = .ok (.aload_n 0, 1) := by decide +kernel
theorem own_d11_44 : decode prog_127_method_5_code 44 = .ok (.getfield 23, 3) := by decide +kernel
theorem own_d11_47 : decode prog_127_method_5_code 47 = .ok (.if_icmp .ge 42, 3) := by decide +kernel
theorem own_d11_50 : decode prog_127_method_5_code 50 = .ok (.aload_n 0, 1) := by decide +kernel
theorem own_d11_51 : decode prog_127_method_5_code 51 = .ok (.getfield 7, 3) := by decide +kernel
theorem own_d11_54 : decode prog_127_method_5_code 54 = .ok (.iload 4, 2) := by decide +kernel
theorem own_d11_56 : decode prog_127_method_5_code 56 = .ok (.iaload, 1) := by decide +kernel
theorem own_d11_57 : decode prog_127_method_5_code 57 = .ok (.ifCond .lt 26, 3) := by decide +kernel
theorem own_d11_83 : decode prog_127_method_5_code 83 = .ok (.iinc 4 1, 3) := by decide +kernel
theorem own_d11_86 : decode prog_127_method_5_code 86 = .ok (.goto (-45), 3) := by decide +kernel
theorem own_d11_60 : decode prog_127_method_5_code 60 = .ok (.aload_n 1, 1) := by decide +kernel
theorem own_d11_61 : decode prog_127_method_5_code 61 = .ok (.aload_n 3, 1) := by decide +kernel
theorem own_d11_62 : decode prog_127_method_5_code 62 = .ok (.aload_n 0, 1) := by decide +kernel
theorem own_d11_63 : decode prog_127_method_5_code 63 = .ok (.getfield 7, 3) := by decide +kernel
theorem own_d11_66 : decode prog_127_method_5_code 66 = .ok (.iload 4, 2) := by decide +kernel
theorem own_d11_68 : decode prog_127_method_5_code 68 = .ok (.iaload, 1) := by decide +kernel
theorem own_d11_69 : decode prog_127_method_5_code 69 = .ok (.iaload, 1) := by decide +kernel
theorem own_d11_70 : decode prog_127_method_5_code 70 = .ok (.aload_n 0, 1) := by decide +kernel
theorem own_d11_71 : decode prog_127_method_5_code 71 = .ok (.getfield 13, 3) := by decide +kernel
theorem own_d11_74 : decode prog_127_method_5_code 74 = .ok (.iload 4, 2) := by decide +kernel
theorem own_d11_76 : decode prog_127_method_5_code 76 = .ok (.iaload, 1) := by decide +kernel
theorem own_d11_77 : decode prog_127_method_5_code 77 = .ok (.iadd, 1) := by decide +kernel
theorem own_d11_78 : decode prog_127_method_5_code 78 = .ok (.dup2, 1) := by decide +kernel
theorem own_d11_79 : decode prog_127_method_5_code 79 = .ok (.laload, 1) := by decide +kernel
theorem own_d11_80 : decode prog_127_method_5_code 80 = .ok (.lconst 1, 1) := by decide +kernel
theorem own_d11_81 : decode prog_127_method_5_code 81 = .ok (.ladd, 1) := by decide +kernel
theorem own_d11_82 : decode prog_127_method_5_code 82 = .ok (.lastore, 1) := by decide +kernel
set_option maxRecDepth 65536 in
set_option maxHeartbeats 40000000 in
theorem own_loop {p : Program} {l : Launch} {e : Env} {R : Room} {s : State} {m : MethodId} {args : Array Value} {below : List Frame} {meth : Method} {c : Code} {cells slots : Nat} {Z : State} {a0 : Array Value} {a1 a2 a3 a6 ac av : Addr} {kc kv k2 k6 : ClassId} {x0 x1 : Int32} {n0 : Nat}
    (hx : p.tables.exec = Jvm.exec) (hZ : Z.Warmed39 s.vm) (hw : ∀ d ∈ tables_1, d.before a0 Z = true) (hby : c.code = prog_127_method_5_code) (hown : s.vm.findClass "com/example/terse_graph/tersegraph/PrefixWriter" = some m.cls) (g_a2 : n0 ≤ a2) (ne_a2_a1 : a2 ≠ a1) (ne_a2_ac : a2 ≠ ac) (ne_a2_av : a2 ≠ av) (ne_a2_a6 : a2 ≠ a6) :
    ∀ (rs dn : own_E) {T0 : State} {locs : List Loc} {h0 : Heap} {cl : List Int64} (X0 : Stand p l e R s m args below meth c T0 locs cells slots) (e0 : T0.heap = h0) (Z0 : n0 ≤ h0.size) (N0 : Fr n0 locs) (Hw : own_Wr Z h0 a1 ac av kc kv (dn ++ rs)) (Vo : Arv Z h0 a6 k6 .int (3 : Int32) [Value.int (0 : Int32), Value.int x0, Value.int (x0 + x1)] (.int (0 : Int32))) (Vc : Arv Z h0 a2 k2 .long (12 : Int32) (cl.map Value.long) (.long (0 : Int64))) (hcl : cl.length = 12) (hl : (dn ++ rs).length < 256) (hg : ∀ q ∈ rs, own_good x0 x1 q),
    ∃ (T' : State) (h' : Heap) (locs' : List Loc), Stand p l e R s m args below meth c T' locs' cells slots ∧ T'.heap = h' ∧ Fr n0 locs' ∧ Keep h0 h' [a2] ∧ (Arv Z h' a2 k2 .long (12 : Int32) ((rs.foldl (own_step x0 x1) cl).map Value.long) (.long (0 : Int64))) ∧ ∀ t, Steps p.tables e below (T'.setTop (mkF m 89 #[.val (.ref a1), .val (.ref a2), .val (.ref a3), .val (.ref a6), .val (.int (own_n (dn ++ rs)))] [])) t → Steps p.tables e below (T0.setTop (mkF m 41 #[.val (.ref a1), .val (.ref a2), .val (.ref a3), .val (.ref a6), .val (.int (own_n dn))] [])) t := by
  intro rs
  induction rs with
  | nil =>
    intro dn T0 locs h0 cl X0 e0 Z0 N0 Hw Vo Vc hcl hl hg
    have R0 : ∀ t, Steps p.tables e below (T0.setTop (mkF m 41 #[.val (.ref a1), .val (.ref a2), .val (.ref a3), .val (.ref a6), .val (.int (own_n dn))] [])) t → Steps p.tables e below (T0.setTop (mkF m 41 #[.val (.ref a1), .val (.ref a2), .val (.ref a3), .val (.ref a6), .val (.int (own_n dn))] [])) t := fun t k => k
    obtain ⟨fa1, fb1, fc1, fe1, va1, vb1⟩ := id Hw
    have hnn : ¬ own_n dn < own_n (dn ++ []) := by rw [List.append_nil]; exact Int32.lt_irrefl
    have R2 : ∀ t, Steps p.tables e below (T0.setTop (mkF m 44 #[.val (.ref a1), .val (.ref a2), .val (.ref a3), .val (.ref a6), .val (.int (own_n dn))] [(.ref a1), (.int (own_n dn))])) t → Steps p.tables e below (T0.setTop (mkF m 41 #[.val (.ref a1), .val (.ref a2), .val (.ref a3), .val (.ref a6), .val (.int (own_n dn))] [])) t := by
      intro t k
      refine R0 t ?_
      show Steps p.tables e below (T0.setTop (mkF m 41 #[.val (.ref a1), .val (.ref a2), .val (.ref a3), .val (.ref a6), .val (.int (own_n dn))] [])) _
      refine XS.iload X0.here hx rfl (hb hby own_d11_41) rfl ?_
      show Steps p.tables e below (T0.setTop (mkF m 43 #[.val (.ref a1), .val (.ref a2), .val (.ref a3), .val (.ref a6), .val (.int (own_n dn))] [(.int (own_n dn))])) _
      refine XS.aloadN X0.here hx rfl (hb hby own_d11_43) rfl rfl ?_
      exact k
    obtain ⟨T3, X3, e3, st3⟩ := getF X0 hx hZ hown (host := "") (Or.inl (hw _ (List.mem_of_getElem? (i := 62) rfl))) Via.refl e0 fc1 (g := (mkF m 44 #[.val (.ref a1), .val (.ref a2), .val (.ref a3), .val (.ref a6), .val (.int (own_n dn))] [(.ref a1), (.int (own_n dn))])) rfl rfl (hb hby own_d11_44)
    have R3 : ∀ t, Steps p.tables e below (T3.setTop (mkF m 47 #[.val (.ref a1), .val (.ref a2), .val (.ref a3), .val (.ref a6), .val (.int (own_n dn))] [(.int (own_n (dn ++ []))), (.int (own_n dn))])) t → Steps p.tables e below (T0.setTop (mkF m 41 #[.val (.ref a1), .val (.ref a2), .val (.ref a3), .val (.ref a6), .val (.int (own_n dn))] [])) t := fun t k => R2 t (st3 t k)
    have R4 : ∀ t, Steps p.tables e below (T3.setTop (mkF m 89 #[.val (.ref a1), .val (.ref a2), .val (.ref a3), .val (.ref a6), .val (.int (own_n dn))] [])) t → Steps p.tables e below (T0.setTop (mkF m 41 #[.val (.ref a1), .val (.ref a2), .val (.ref a3), .val (.ref a6), .val (.int (own_n dn))] [])) t := by
      intro t k
      refine R3 t ?_
      show Steps p.tables e below (T3.setTop (mkF m 47 #[.val (.ref a1), .val (.ref a2), .val (.ref a3), .val (.ref a6), .val (.int (own_n dn))] [(.int (own_n (dn ++ []))), (.int (own_n dn))])) _
      refine XS.icmpYes X3.here hx rfl (pc0 := 47) (pc' := 89) rfl (hb hby own_d11_47) rfl (flt hnn).2.1 (by decide) (by decide) ?_
      exact k
    exact ⟨T3, h0, locs, X3, e3, N0, Keep.refl h0 [a2], Vc, by rw [List.append_nil]; exact R4⟩
  | cons q rs ih =>
    intro dn T0 locs h0 cl X0 e0 Z0 N0 Hw Vo Vc hcl hl hg
    have R0 : ∀ t, Steps p.tables e below (T0.setTop (mkF m 41 #[.val (.ref a1), .val (.ref a2), .val (.ref a3), .val (.ref a6), .val (.int (own_n dn))] [])) t → Steps p.tables e below (T0.setTop (mkF m 41 #[.val (.ref a1), .val (.ref a2), .val (.ref a3), .val (.ref a6), .val (.int (own_n dn))] [])) t := fun t k => k
    obtain ⟨fa1, fb1, fc1, fe1, va1, vb1⟩ := id Hw
    have hd : dn.length < 256 := by rw [List.length_append] at hl; omega
    have hlt : own_n dn < own_n (dn ++ q :: rs) := own_n_lt (by simp) (by omega)
    have hin : ¬ own_n dn < (0 : Int32) ∧ own_n dn < (256 : Int32) := own_n_in hd
    have hq := hg q (List.mem_cons_self ..)
    have happ : dn ++ q :: rs = (dn ++ [q]) ++ rs := by simp
    have hsn := own_n_snoc dn q hd
    have R2 : ∀ t, Steps p.tables e below (T0.setTop (mkF m 44 #[.val (.ref a1), .val (.ref a2), .val (.ref a3), .val (.ref a6), .val (.int (own_n dn))] [(.ref a1), (.int (own_n dn))])) t → Steps p.tables e below (T0.setTop (mkF m 41 #[.val (.ref a1), .val (.ref a2), .val (.ref a3), .val (.ref a6), .val (.int (own_n dn))] [])) t := by
      intro t k
      refine R0 t ?_
      show Steps p.tables e below (T0.setTop (mkF m 41 #[.val (.ref a1), .val (.ref a2), .val (.ref a3), .val (.ref a6), .val (.int (own_n dn))] [])) _
      refine XS.iload X0.here hx rfl (hb hby own_d11_41) rfl ?_
      show Steps p.tables e below (T0.setTop (mkF m 43 #[.val (.ref a1), .val (.ref a2), .val (.ref a3), .val (.ref a6), .val (.int (own_n dn))] [(.int (own_n dn))])) _
      refine XS.aloadN X0.here hx rfl (hb hby own_d11_43) rfl rfl ?_
      exact k
    obtain ⟨T3, X3, e3, st3⟩ := getF X0 hx hZ hown (host := "") (Or.inl (hw _ (List.mem_of_getElem? (i := 62) rfl))) Via.refl e0 fc1 (g := (mkF m 44 #[.val (.ref a1), .val (.ref a2), .val (.ref a3), .val (.ref a6), .val (.int (own_n dn))] [(.ref a1), (.int (own_n dn))])) rfl rfl (hb hby own_d11_44)
    have R3 : ∀ t, Steps p.tables e below (T3.setTop (mkF m 47 #[.val (.ref a1), .val (.ref a2), .val (.ref a3), .val (.ref a6), .val (.int (own_n dn))] [(.int (own_n (dn ++ q :: rs))), (.int (own_n dn))])) t → Steps p.tables e below (T0.setTop (mkF m 41 #[.val (.ref a1), .val (.ref a2), .val (.ref a3), .val (.ref a6), .val (.int (own_n dn))] [])) t := fun t k => R2 t (st3 t k)
    have R4 : ∀ t, Steps p.tables e below (T3.setTop (mkF m 51 #[.val (.ref a1), .val (.ref a2), .val (.ref a3), .val (.ref a6), .val (.int (own_n dn))] [(.ref a1)])) t → Steps p.tables e below (T0.setTop (mkF m 41 #[.val (.ref a1), .val (.ref a2), .val (.ref a3), .val (.ref a6), .val (.int (own_n dn))] [])) t := by
      intro t k
      refine R3 t ?_
      show Steps p.tables e below (T3.setTop (mkF m 47 #[.val (.ref a1), .val (.ref a2), .val (.ref a3), .val (.ref a6), .val (.int (own_n dn))] [(.int (own_n (dn ++ q :: rs))), (.int (own_n dn))])) _
      refine XS.icmpNo X3.here hx rfl (hb hby own_d11_47) rfl (tlt hlt).2.1 ?_
      show Steps p.tables e below (T3.setTop (mkF m 50 #[.val (.ref a1), .val (.ref a2), .val (.ref a3), .val (.ref a6), .val (.int (own_n dn))] [])) _
      refine XS.aloadN X3.here hx rfl (hb hby own_d11_50) rfl rfl ?_
      exact k
    obtain ⟨T5, X5, e5, st5⟩ := getF X3 hx hZ hown (host := "") (Or.inl (hw _ (List.mem_of_getElem? (i := 21) rfl))) Via.refl e3 fa1 (g := (mkF m 51 #[.val (.ref a1), .val (.ref a2), .val (.ref a3), .val (.ref a6), .val (.int (own_n dn))] [(.ref a1)])) rfl rfl (hb hby own_d11_51)
    have R5 : ∀ t, Steps p.tables e below (T5.setTop (mkF m 54 #[.val (.ref a1), .val (.ref a2), .val (.ref a3), .val (.ref a6), .val (.int (own_n dn))] [(.ref ac)])) t → Steps p.tables e below (T0.setTop (mkF m 41 #[.val (.ref a1), .val (.ref a2), .val (.ref a3), .val (.ref a6), .val (.int (own_n dn))] [])) t := fun t k => R4 t (st5 t k)
    have R6 : ∀ t, Steps p.tables e below (T5.setTop (mkF m 56 #[.val (.ref a1), .val (.ref a2), .val (.ref a3), .val (.ref a6), .val (.int (own_n dn))] [(.int (own_n dn)), (.ref ac)])) t → Steps p.tables e below (T0.setTop (mkF m 41 #[.val (.ref a1), .val (.ref a2), .val (.ref a3), .val (.ref a6), .val (.int (own_n dn))] [])) t := by
      intro t k
      refine R5 t ?_
      show Steps p.tables e below (T5.setTop (mkF m 54 #[.val (.ref a1), .val (.ref a2), .val (.ref a3), .val (.ref a6), .val (.int (own_n dn))] [(.ref ac)])) _
      refine XS.iload X5.here hx rfl (hb hby own_d11_54) rfl ?_
      exact k
    obtain ⟨cl7, Ar7, q7, S7, N7', H7, G7⟩ := id va1
    have hin7__own_n_dn_ : ¬ ((own_n dn) < 0 ∨ cl7.slots.size ≤ ((own_n dn)).toNatClampNeg) := inb_of S7 hin
    have hat7__own_n_dn_ : cl7.slots[((own_n dn)).toNatClampNeg]? = some (.int q.1) := H7.at hin7__own_n_dn_ (own_cs_at hd)
    have R8 : ∀ t, Steps p.tables e below (T5.setTop (mkF m 57 #[.val (.ref a1), .val (.ref a2), .val (.ref a3), .val (.ref a6), .val (.int (own_n dn))] [(.int q.1)])) t → Steps p.tables e below (T0.setTop (mkF m 41 #[.val (.ref a1), .val (.ref a2), .val (.ref a3), .val (.ref a6), .val (.int (own_n dn))] [])) t := by
      intro t k
      refine R6 t ?_
      show Steps p.tables e below (T5.setTop (mkF m 56 #[.val (.ref a1), .val (.ref a2), .val (.ref a3), .val (.ref a6), .val (.int (own_n dn))] [(.int (own_n dn)), (.ref ac)])) _
      refine X5.iaload hx (j := (own_n dn)) (v := (.int q.1)) (by rw [e5]; exact Ar7.1) (State.isArrayOf_alike hZ.alike Ar7.2.1) Ar7.2.2 hin7__own_n_dn_ hat7__own_n_dn_ (g := (mkF m 56 #[.val (.ref a1), .val (.ref a2), .val (.ref a3), .val (.ref a6), .val (.int (own_n dn))] [(.int (own_n dn)), (.ref ac)])) rfl rfl (hb hby own_d11_56) _ ?_
      exact k
    by_cases hc : q.1 < (0 : Int32)
    · have R9 : ∀ t, Steps p.tables e below (T5.setTop (mkF m 41 #[.val (.ref a1), .val (.ref a2), .val (.ref a3), .val (.ref a6), .val (.int ((own_n dn) + (1 : Int32)))] [])) t → Steps p.tables e below (T0.setTop (mkF m 41 #[.val (.ref a1), .val (.ref a2), .val (.ref a3), .val (.ref a6), .val (.int (own_n dn))] [])) t := by
        intro t k
        refine R8 t ?_
        show Steps p.tables e below (T5.setTop (mkF m 57 #[.val (.ref a1), .val (.ref a2), .val (.ref a3), .val (.ref a6), .val (.int (own_n dn))] [(.int q.1)])) _
        refine XS.ifYes X5.here hx rfl (pc0 := 57) (pc' := 83) rfl (hb hby own_d11_57) rfl ((if0 _ _).trans (tlt hc).1) (by decide) (by decide) ?_
        show Steps p.tables e below (T5.setTop (mkF m 83 #[.val (.ref a1), .val (.ref a2), .val (.ref a3), .val (.ref a6), .val (.int (own_n dn))] [])) _
        refine XS.iinc X5.here hx rfl (hb hby own_d11_83) rfl (l' := #[.val (.ref a1), .val (.ref a2), .val (.ref a3), .val (.ref a6), .val (.int ((own_n dn) + (1 : Int32)))]) rfl ?_
        show Steps p.tables e below (T5.setTop (mkF m 86 #[.val (.ref a1), .val (.ref a2), .val (.ref a3), .val (.ref a6), .val (.int ((own_n dn) + (1 : Int32)))] [])) _
        refine XS.goto X5.here hx rfl (pc0 := 86) (pc' := 41) rfl (hb hby own_d11_86) (by decide) (by decide) ?_
        exact k
      have R10 : ∀ t, Steps p.tables e below (T5.setTop (mkF m 41 #[.val (.ref a1), .val (.ref a2), .val (.ref a3), .val (.ref a6), .val (.int (own_n (dn ++ [q])))] [])) t → Steps p.tables e below (T0.setTop (mkF m 41 #[.val (.ref a1), .val (.ref a2), .val (.ref a3), .val (.ref a6), .val (.int (own_n dn))] [])) t := by rw [(hsn : ((own_n dn) + (1 : Int32)) = (own_n (dn ++ [q])))] at R9; exact R9
      have hst : own_step x0 x1 cl q = cl := if_pos hc
      rw [happ] at Hw hl
      obtain ⟨T', h', locs', Y1, Y2, Y3, Y4, Y5, Y6⟩ := ih (dn ++ [q]) X5 e5 Z0 N0 Hw Vo Vc hcl hl (fun z hz => hg z (List.mem_cons_of_mem _ hz))
      refine ⟨T', h', locs', Y1, Y2, Y3, Y4, ?_, ?_⟩
      · rw [List.foldl_cons, hst]; exact Y5
      · rw [happ]; exact fun t k => R10 t (Y6 t k)
    · obtain ⟨hq3, hj0, hj1⟩ := hq.resolve_left hc
      have R11 : ∀ t, Steps p.tables e below (T5.setTop (mkF m 63 #[.val (.ref a1), .val (.ref a2), .val (.ref a3), .val (.ref a6), .val (.int (own_n dn))] [(.ref a1), (.ref a6), (.ref a2)])) t → Steps p.tables e below (T0.setTop (mkF m 41 #[.val (.ref a1), .val (.ref a2), .val (.ref a3), .val (.ref a6), .val (.int (own_n dn))] [])) t := by
        intro t k
        refine R8 t ?_
        show Steps p.tables e below (T5.setTop (mkF m 57 #[.val (.ref a1), .val (.ref a2), .val (.ref a3), .val (.ref a6), .val (.int (own_n dn))] [(.int q.1)])) _
        refine XS.ifNo X5.here hx rfl (hb hby own_d11_57) rfl ((if0 _ _).trans (flt hc).1) ?_
        show Steps p.tables e below (T5.setTop (mkF m 60 #[.val (.ref a1), .val (.ref a2), .val (.ref a3), .val (.ref a6), .val (.int (own_n dn))] [])) _
        refine XS.aloadN X5.here hx rfl (hb hby own_d11_60) rfl rfl ?_
        show Steps p.tables e below (T5.setTop (mkF m 61 #[.val (.ref a1), .val (.ref a2), .val (.ref a3), .val (.ref a6), .val (.int (own_n dn))] [(.ref a2)])) _
        refine XS.aloadN X5.here hx rfl (hb hby own_d11_61) rfl rfl ?_
        show Steps p.tables e below (T5.setTop (mkF m 62 #[.val (.ref a1), .val (.ref a2), .val (.ref a3), .val (.ref a6), .val (.int (own_n dn))] [(.ref a6), (.ref a2)])) _
        refine XS.aloadN X5.here hx rfl (hb hby own_d11_62) rfl rfl ?_
        exact k
      obtain ⟨T12, X12, e12, st12⟩ := getF X5 hx hZ hown (host := "") (Or.inl (hw _ (List.mem_of_getElem? (i := 21) rfl))) Via.refl e5 fa1 (g := (mkF m 63 #[.val (.ref a1), .val (.ref a2), .val (.ref a3), .val (.ref a6), .val (.int (own_n dn))] [(.ref a1), (.ref a6), (.ref a2)])) rfl rfl (hb hby own_d11_63)
      have R12 : ∀ t, Steps p.tables e below (T12.setTop (mkF m 66 #[.val (.ref a1), .val (.ref a2), .val (.ref a3), .val (.ref a6), .val (.int (own_n dn))] [(.ref ac), (.ref a6), (.ref a2)])) t → Steps p.tables e below (T0.setTop (mkF m 41 #[.val (.ref a1), .val (.ref a2), .val (.ref a3), .val (.ref a6), .val (.int (own_n dn))] [])) t := fun t k => R11 t (st12 t k)
      have R13 : ∀ t, Steps p.tables e below (T12.setTop (mkF m 69 #[.val (.ref a1), .val (.ref a2), .val (.ref a3), .val (.ref a6), .val (.int (own_n dn))] [(.int q.1), (.ref a6), (.ref a2)])) t → Steps p.tables e below (T0.setTop (mkF m 41 #[.val (.ref a1), .val (.ref a2), .val (.ref a3), .val (.ref a6), .val (.int (own_n dn))] [])) t := by
        intro t k
        refine R12 t ?_
        show Steps p.tables e below (T12.setTop (mkF m 66 #[.val (.ref a1), .val (.ref a2), .val (.ref a3), .val (.ref a6), .val (.int (own_n dn))] [(.ref ac), (.ref a6), (.ref a2)])) _
        refine XS.iload X12.here hx rfl (hb hby own_d11_66) rfl ?_
        show Steps p.tables e below (T12.setTop (mkF m 68 #[.val (.ref a1), .val (.ref a2), .val (.ref a3), .val (.ref a6), .val (.int (own_n dn))] [(.int (own_n dn)), (.ref ac), (.ref a6), (.ref a2)])) _
        refine X12.iaload hx (j := (own_n dn)) (v := (.int q.1)) (by rw [e12]; exact Ar7.1) (State.isArrayOf_alike hZ.alike Ar7.2.1) Ar7.2.2 hin7__own_n_dn_ hat7__own_n_dn_ (g := (mkF m 68 #[.val (.ref a1), .val (.ref a2), .val (.ref a3), .val (.ref a6), .val (.int (own_n dn))] [(.int (own_n dn)), (.ref ac), (.ref a6), (.ref a2)])) rfl rfl (hb hby own_d11_68) _ ?_
        exact k
      obtain ⟨cl14, Ar14, q14, S14, N14', H14, G14⟩ := id Vo
      have hin14_q_1 : ¬ (q.1 < 0 ∨ cl14.slots.size ≤ (q.1).toNatClampNeg) := inb_of S14 (own_c3_in hq3)
      have hat14_q_1 : cl14.slots[(q.1).toNatClampNeg]? = some (.int (own_off q.1 x0 x1)) := H14.at hin14_q_1 (own_off_at hq3)
      have R15 : ∀ t, Steps p.tables e below (T12.setTop (mkF m 71 #[.val (.ref a1), .val (.ref a2), .val (.ref a3), .val (.ref a6), .val (.int (own_n dn))] [(.ref a1), (.int (own_off q.1 x0 x1)), (.ref a2)])) t → Steps p.tables e below (T0.setTop (mkF m 41 #[.val (.ref a1), .val (.ref a2), .val (.ref a3), .val (.ref a6), .val (.int (own_n dn))] [])) t := by
        intro t k
        refine R13 t ?_
        show Steps p.tables e below (T12.setTop (mkF m 69 #[.val (.ref a1), .val (.ref a2), .val (.ref a3), .val (.ref a6), .val (.int (own_n dn))] [(.int q.1), (.ref a6), (.ref a2)])) _
        refine X12.iaload hx (j := q.1) (v := (.int (own_off q.1 x0 x1))) (by rw [e12]; exact Ar14.1) (State.isArrayOf_alike hZ.alike Ar14.2.1) Ar14.2.2 hin14_q_1 hat14_q_1 (g := (mkF m 69 #[.val (.ref a1), .val (.ref a2), .val (.ref a3), .val (.ref a6), .val (.int (own_n dn))] [(.int q.1), (.ref a6), (.ref a2)])) rfl rfl (hb hby own_d11_69) _ ?_
        show Steps p.tables e below (T12.setTop (mkF m 70 #[.val (.ref a1), .val (.ref a2), .val (.ref a3), .val (.ref a6), .val (.int (own_n dn))] [(.int (own_off q.1 x0 x1)), (.ref a2)])) _
        refine XS.aloadN X12.here hx rfl (hb hby own_d11_70) rfl rfl ?_
        exact k
      obtain ⟨T16, X16, e16, st16⟩ := getF X12 hx hZ hown (host := "") (Or.inl (hw _ (List.mem_of_getElem? (i := 23) rfl))) Via.refl e12 fb1 (g := (mkF m 71 #[.val (.ref a1), .val (.ref a2), .val (.ref a3), .val (.ref a6), .val (.int (own_n dn))] [(.ref a1), (.int (own_off q.1 x0 x1)), (.ref a2)])) rfl rfl (hb hby own_d11_71)
      have R16 : ∀ t, Steps p.tables e below (T16.setTop (mkF m 74 #[.val (.ref a1), .val (.ref a2), .val (.ref a3), .val (.ref a6), .val (.int (own_n dn))] [(.ref av), (.int (own_off q.1 x0 x1)), (.ref a2)])) t → Steps p.tables e below (T0.setTop (mkF m 41 #[.val (.ref a1), .val (.ref a2), .val (.ref a3), .val (.ref a6), .val (.int (own_n dn))] [])) t := fun t k => R15 t (st16 t k)
      have R17 : ∀ t, Steps p.tables e below (T16.setTop (mkF m 76 #[.val (.ref a1), .val (.ref a2), .val (.ref a3), .val (.ref a6), .val (.int (own_n dn))] [(.int (own_n dn)), (.ref av), (.int (own_off q.1 x0 x1)), (.ref a2)])) t → Steps p.tables e below (T0.setTop (mkF m 41 #[.val (.ref a1), .val (.ref a2), .val (.ref a3), .val (.ref a6), .val (.int (own_n dn))] [])) t := by
        intro t k
        refine R16 t ?_
        show Steps p.tables e below (T16.setTop (mkF m 74 #[.val (.ref a1), .val (.ref a2), .val (.ref a3), .val (.ref a6), .val (.int (own_n dn))] [(.ref av), (.int (own_off q.1 x0 x1)), (.ref a2)])) _
        refine XS.iload X16.here hx rfl (hb hby own_d11_74) rfl ?_
        exact k
      obtain ⟨cl18, Ar18, q18, S18, N18', H18, G18⟩ := id vb1
      have hin18__own_n_dn_ : ¬ ((own_n dn) < 0 ∨ cl18.slots.size ≤ ((own_n dn)).toNatClampNeg) := inb_of S18 hin
      have hat18__own_n_dn_ : cl18.slots[((own_n dn)).toNatClampNeg]? = some (.int q.2) := H18.at hin18__own_n_dn_ (own_vs_at hd)
      have R19 : ∀ t, Steps p.tables e below (T16.setTop (mkF m 79 #[.val (.ref a1), .val (.ref a2), .val (.ref a3), .val (.ref a6), .val (.int (own_n dn))] [(.int ((own_off q.1 x0 x1) + q.2)), (.ref a2), (.int ((own_off q.1 x0 x1) + q.2)), (.ref a2)])) t → Steps p.tables e below (T0.setTop (mkF m 41 #[.val (.ref a1), .val (.ref a2), .val (.ref a3), .val (.ref a6), .val (.int (own_n dn))] [])) t := by
        intro t k
        refine R17 t ?_
        show Steps p.tables e below (T16.setTop (mkF m 76 #[.val (.ref a1), .val (.ref a2), .val (.ref a3), .val (.ref a6), .val (.int (own_n dn))] [(.int (own_n dn)), (.ref av), (.int (own_off q.1 x0 x1)), (.ref a2)])) _
        refine X16.iaload hx (j := (own_n dn)) (v := (.int q.2)) (by rw [e16]; exact Ar18.1) (State.isArrayOf_alike hZ.alike Ar18.2.1) Ar18.2.2 hin18__own_n_dn_ hat18__own_n_dn_ (g := (mkF m 76 #[.val (.ref a1), .val (.ref a2), .val (.ref a3), .val (.ref a6), .val (.int (own_n dn))] [(.int (own_n dn)), (.ref av), (.int (own_off q.1 x0 x1)), (.ref a2)])) rfl rfl (hb hby own_d11_76) _ ?_
        show Steps p.tables e below (T16.setTop (mkF m 77 #[.val (.ref a1), .val (.ref a2), .val (.ref a3), .val (.ref a6), .val (.int (own_n dn))] [(.int q.2), (.int (own_off q.1 x0 x1)), (.ref a2)])) _
        refine XS.iadd X16.here hx rfl (hb hby own_d11_77) rfl ?_
        show Steps p.tables e below (T16.setTop (mkF m 78 #[.val (.ref a1), .val (.ref a2), .val (.ref a3), .val (.ref a6), .val (.int (own_n dn))] [(.int ((own_off q.1 x0 x1) + q.2)), (.ref a2)])) _
        refine Jvm.Free.XT.dup2 X16.here hx rfl (hb hby own_d11_78) rfl rfl rfl ?_
        exact k
      obtain ⟨cl20, Ar20, q20, S20, N20', H20, G20⟩ := id Vc
      have hin20___own_off_q_1_x0_x1____q_2_ : ¬ (((own_off q.1 x0 x1) + q.2) < 0 ∨ cl20.slots.size ≤ (((own_off q.1 x0 x1) + q.2)).toNatClampNeg) := inb_of S20 ⟨hj0, hj1⟩
      have hat20___own_off_q_1_x0_x1____q_2_ : cl20.slots[(((own_off q.1 x0 x1) + q.2)).toNatClampNeg]? = some (.long (cl.getD ((own_off q.1 x0 x1) + q.2).toNatClampNeg 0)) := H20.at hin20___own_off_q_1_x0_x1____q_2_ own_getL
      have R21 : ∀ t, Steps p.tables e below (T16.setTop (mkF m 82 #[.val (.ref a1), .val (.ref a2), .val (.ref a3), .val (.ref a6), .val (.int (own_n dn))] [(.long ((cl.getD ((own_off q.1 x0 x1) + q.2).toNatClampNeg 0) + (1 : Int64))), (.int ((own_off q.1 x0 x1) + q.2)), (.ref a2)])) t → Steps p.tables e below (T0.setTop (mkF m 41 #[.val (.ref a1), .val (.ref a2), .val (.ref a3), .val (.ref a6), .val (.int (own_n dn))] [])) t := by
        intro t k
        refine R19 t ?_
        show Steps p.tables e below (T16.setTop (mkF m 79 #[.val (.ref a1), .val (.ref a2), .val (.ref a3), .val (.ref a6), .val (.int (own_n dn))] [(.int ((own_off q.1 x0 x1) + q.2)), (.ref a2), (.int ((own_off q.1 x0 x1) + q.2)), (.ref a2)])) _
        refine X16.laload hx (j := ((own_off q.1 x0 x1) + q.2)) (v := (.long (cl.getD ((own_off q.1 x0 x1) + q.2).toNatClampNeg 0))) (by rw [e16]; exact Ar20.1) (State.isArrayOf_alike hZ.alike Ar20.2.1) Ar20.2.2 hin20___own_off_q_1_x0_x1____q_2_ hat20___own_off_q_1_x0_x1____q_2_ (g := (mkF m 79 #[.val (.ref a1), .val (.ref a2), .val (.ref a3), .val (.ref a6), .val (.int (own_n dn))] [(.int ((own_off q.1 x0 x1) + q.2)), (.ref a2), (.int ((own_off q.1 x0 x1) + q.2)), (.ref a2)])) rfl rfl (hb hby own_d11_79) _ ?_
        show Steps p.tables e below (T16.setTop (mkF m 80 #[.val (.ref a1), .val (.ref a2), .val (.ref a3), .val (.ref a6), .val (.int (own_n dn))] [(.long (cl.getD ((own_off q.1 x0 x1) + q.2).toNatClampNeg 0)), (.int ((own_off q.1 x0 x1) + q.2)), (.ref a2)])) _
        refine XS.lconst X16.here hx rfl (hb hby own_d11_80) ?_
        show Steps p.tables e below (T16.setTop (mkF m 81 #[.val (.ref a1), .val (.ref a2), .val (.ref a3), .val (.ref a6), .val (.int (own_n dn))] [(.long (1 : Int64)), (.long (cl.getD ((own_off q.1 x0 x1) + q.2).toNatClampNeg 0)), (.int ((own_off q.1 x0 x1) + q.2)), (.ref a2)])) _
        refine XS.ladd X16.here hx rfl (hb hby own_d11_81) rfl ?_
        exact k
      obtain ⟨cl22, Ar22, q22, S22, N22', H22, G22⟩ := id Vc
      have hin22 : ¬ (((own_off q.1 x0 x1) + q.2) < 0 ∨ cl22.slots.size ≤ (((own_off q.1 x0 x1) + q.2)).toNatClampNeg) := inb_of S22 ⟨hj0, hj1⟩
      obtain ⟨T23, h23, X23, e23, W23, st23⟩ := stJ X16 hx hZ e16 Ar22 (j := ((own_off q.1 x0 x1) + q.2)) hin22 (g := (mkF m 82 #[.val (.ref a1), .val (.ref a2), .val (.ref a3), .val (.ref a6), .val (.int (own_n dn))] [(.long ((cl.getD ((own_off q.1 x0 x1) + q.2).toNatClampNeg 0) + (1 : Int64))), (.int ((own_off q.1 x0 x1) + q.2)), (.ref a2)])) rfl rfl (hb hby own_d11_82)
      have R23 : ∀ t, Steps p.tables e below (T23.setTop (mkF m 83 #[.val (.ref a1), .val (.ref a2), .val (.ref a3), .val (.ref a6), .val (.int (own_n dn))] [])) t → Steps p.tables e below (T0.setTop (mkF m 41 #[.val (.ref a1), .val (.ref a2), .val (.ref a3), .val (.ref a6), .val (.int (own_n dn))] [])) t := fun t k => R21 t (st23 t k)
      have Z23 : n0 ≤ h23.size := Nat.le_trans Z0 (Keep.of_wr W23).1
      have K23 : Keep h0 h23 [a2] := (Keep.refl h0 [a2]).wr W23 (Or.inl (by simp))
      have N23 := Fr.snoc X23 N0 g_a2
      have f24 : Fld Z h23 a1 "com/example/terse_graph/tersegraph/PrefixWriter" "contexts" "[I" (.ref ac) := fa1.other W23 (Or.inl (Ne.symm ne_a2_a1))
      have f25 : Fld Z h23 a1 "com/example/terse_graph/tersegraph/PrefixWriter" "values" "[I" (.ref av) := fb1.other W23 (Or.inl (Ne.symm ne_a2_a1))
      have f26 : Fld Z h23 a1 "com/example/terse_graph/tersegraph/PrefixWriter" "count" "I" (.int (own_n (dn ++ q :: rs))) := fc1.other W23 (Or.inl (Ne.symm ne_a2_a1))
      have f27 : Exa Z h23 a1 "com/example/terse_graph/tersegraph/PrefixWriter" := fe1.wr W23
      have f28 : Arv Z h23 ac kc .int (256 : Int32) (own_cs (dn ++ q :: rs)) (.int (0 : Int32)) := va1.other W23 (Ne.symm ne_a2_ac)
      have f29 : Arv Z h23 av kv .int (256 : Int32) (own_vs (dn ++ q :: rs)) (.int (0 : Int32)) := vb1.other W23 (Ne.symm ne_a2_av)
      have f30 : Arv Z h23 a6 k6 .int (3 : Int32) [Value.int (0 : Int32), Value.int x0, Value.int (x0 + x1)] (.int (0 : Int32)) := Vo.other W23 (Ne.symm ne_a2_a6)
      have V23 : Arv Z h23 a2 k2 .long (12 : Int32) ((own_step x0 x1 cl q).map Value.long) (.long (0 : Int64)) := by rw [own_step_map hc]; exact Arv.set Ar22 q22 S22 N22' H22 G22 rfl W23 ((own_off q.1 x0 x1) + q.2).toNatClampNeg rfl (by rw [List.length_map, hcl]; exact (own_lt12 hj0 hj1).1)
      have R31 : ∀ t, Steps p.tables e below (T23.setTop (mkF m 41 #[.val (.ref a1), .val (.ref a2), .val (.ref a3), .val (.ref a6), .val (.int ((own_n dn) + (1 : Int32)))] [])) t → Steps p.tables e below (T0.setTop (mkF m 41 #[.val (.ref a1), .val (.ref a2), .val (.ref a3), .val (.ref a6), .val (.int (own_n dn))] [])) t := by
        intro t k
        refine R23 t ?_
        show Steps p.tables e below (T23.setTop (mkF m 83 #[.val (.ref a1), .val (.ref a2), .val (.ref a3), .val (.ref a6), .val (.int (own_n dn))] [])) _
        refine XS.iinc X23.here hx rfl (hb hby own_d11_83) rfl (l' := #[.val (.ref a1), .val (.ref a2), .val (.ref a3), .val (.ref a6), .val (.int ((own_n dn) + (1 : Int32)))]) rfl ?_
        show Steps p.tables e below (T23.setTop (mkF m 86 #[.val (.ref a1), .val (.ref a2), .val (.ref a3), .val (.ref a6), .val (.int ((own_n dn) + (1 : Int32)))] [])) _
        refine XS.goto X23.here hx rfl (pc0 := 86) (pc' := 41) rfl (hb hby own_d11_86) (by decide) (by decide) ?_
        exact k
      have R32 : ∀ t, Steps p.tables e below (T23.setTop (mkF m 41 #[.val (.ref a1), .val (.ref a2), .val (.ref a3), .val (.ref a6), .val (.int (own_n (dn ++ [q])))] [])) t → Steps p.tables e below (T0.setTop (mkF m 41 #[.val (.ref a1), .val (.ref a2), .val (.ref a3), .val (.ref a6), .val (.int (own_n dn))] [])) t := by rw [(hsn : ((own_n dn) + (1 : Int32)) = (own_n (dn ++ [q])))] at R31; exact R31
      have Hw2 : own_Wr Z h23 a1 ac av kc kv ((dn ++ [q]) ++ rs) := by rw [← happ]; exact ⟨f24, f25, f26, f27, f28, f29⟩
      rw [happ] at hl
      obtain ⟨T', h', locs', Y1, Y2, Y3, Y4, Y5, Y6⟩ := ih (dn ++ [q]) X23 e23 Z23 N23 Hw2 f30 V23 (own_step_len.trans hcl) hl (fun z hz => hg z (List.mem_cons_of_mem _ hz))
      refine ⟨T', h', locs', Y1, Y2, Y3, K23.trans Y4 (allS (Or.inl (by simp)) all0), ?_, ?_⟩
      · rw [List.foldl_cons]; exact Y5
      · rw [happ]; exact fun t k => R32 t (Y6 t k)
theorem own_ef_rmCnt (m : MethodId) (x0 : Addr) (x1 : Addr) (x2 : Addr) : entryFrame m #[(.ref x0), (.ref x1), (.ref x2)] 5 = mkF m 0 #[.val (.ref x0), .val (.ref x1), .val (.ref x2), .unset, .unset] [] := by first | (simp [entryFrame, mkF, argsToLocals, Value.category]; done) | rfl
theorem own_d11_0 : decode prog_127_method_5_code 0 = .ok (.aload_n 2, 1) := by decide +kernel
theorem own_d11_1 : decode prog_127_method_5_code 1 = .ok (.arraylength, 1) := by decide +kernel
theorem own_d11_2 : decode prog_127_method_5_code 2 = .ok (.newarray .int, 2) := by decide +kernel
theorem own_d11_4 : decode prog_127_method_5_code 4 = .ok (.astore_n 3, 1) := by decide +kernel
theorem own_d11_5 : decode prog_127_method_5_code 5 = .ok (.iconst 1, 1) := by decide +kernel
theorem own_d11_6 : decode prog_127_method_5_code 6 = .ok (.istore 4, 2) := by decide +kernel
theorem own_d11_8 : decode prog_127_method_5_code 8 = .ok (.iload 4, 2) := by decide +kernel
theorem own_d11_10 : decode prog_127_method_5_code 10 = .ok (.aload_n 2, 1) := by decide +kernel
theorem own_d11_11 : decode prog_127_method_5_code 11 = .ok (.arraylength, 1) := by decide +kernel
theorem own_d11_12 : decode prog_127_method_5_code 12 = .ok (.if_icmp .ge 26, 3) := by decide +kernel
theorem own_d11_15 : decode prog_127_method_5_code 15 = .ok (.aload_n 3, 1) := by decide +kernel
theorem own_d11_16 : decode prog_127_method_5_code 16 = .ok (.iload 4, 2) := by decide +kernel
theorem own_d11_18 : decode prog_127_method_5_code 18 = .ok (.aload_n 3, 1) := by decide +kernel
theorem own_d11_19 : decode prog_127_method_5_code 19 = .ok (.iload 4, 2) := by decide +kernel
theorem own_d11_21 : decode prog_127_method_5_code 21 = .ok (.iconst 1, 1) := by decide +kernel
theorem own_d11_22 : decode prog_127_method_5_code 22 = .ok (.isub, 1) := by decide +kernel
theorem own_d11_23 : decode prog_127_method_5_code 23 = .ok (.iaload, 1) := by decide +kernel
theorem own_d11_24 : decode prog_127_method_5_code 24 = .ok (.aload_n 2, 1) := by decide +kernel
theorem own_d11_25 : decode prog_127_method_5_code 25 = .ok (.iload 4, 2) := by decide +kernel
theorem own_d11_27 : decode prog_127_method_5_code 27 = .ok (.iconst 1, 1) := by decide +kernel
theorem own_d11_28 : decode prog_127_method_5_code 28 = .ok (.isub, 1) := by decide +kernel
theorem own_d11_29 : decode prog_127_method_5_code 29 = .ok (.iaload, 1) := by decide +kernel
theorem own_d11_30 : decode prog_127_method_5_code 30 = .ok (.iadd, 1) := by decide +kernel
theorem own_d11_31 : decode prog_127_method_5_code 31 = .ok (.iastore, 1) := by decide +kernel
theorem own_d11_32 : decode prog_127_method_5_code 32 = .ok (.iinc 4 1, 3) := by decide +kernel
theorem own_d11_35 : decode prog_127_method_5_code 35 = .ok (.goto (-27), 3) := by decide +kernel
theorem own_d11_38 : decode prog_127_method_5_code 38 = .ok (.iconst 0, 1) := by decide +kernel
theorem own_d11_39 : decode prog_127_method_5_code 39 = .ok (.istore 4, 2) := by decide +kernel
theorem own_d11_89 : decode prog_127_method_5_code 89 = .ok (.return_, 1) := by decide +kernel
def Q_rmCnt (Z : State) (a1 a2 a3 : Addr) (k3 : ClassId) (x0 x1 x2 : Int32) (k2 : ClassId) (cl : List Int64) (ac av : Addr) (kc kv : ClassId) (es : own_E) (h0 : Heap) (n0 : Nat) (v : Option Value) (h : Heap) (L : List Loc) : Prop := v = none ∧ Fr n0 L ∧ Keep h0 h [a2] ∧ Arv Z h a2 k2 .long (12 : Int32) ((es.foldl (own_step x0 x1) cl).map Value.long) (.long (0 : Int64))
set_option maxRecDepth 65536 in
set_option maxHeartbeats 40000000 in
theorem rmCnt (l : Launch) (Z : State) (a0 : Array Value) (hw : ∀ d ∈ tables_1, d.before a0 Z = true) (ws : List Jvm.Cond) (a1 a2 a3 : Addr) (k3 : ClassId) (x0 x1 x2 : Int32) (k2 : ClassId) (cl : List Int64) (ac av : Addr) (kc kv : ClassId) (es : own_E) (h0 : Heap) (n0 : Nat) (Z0 : n0 ≤ h0.size) (Va : Arv Z h0 a3 k3 .int (3 : Int32) [Value.int x0, Value.int x1, Value.int x2] (.int (0 : Int32))) (Vc : Arv Z h0 a2 k2 .long (12 : Int32) (cl.map Value.long) (.long (0 : Int64))) (Hw : own_Wr Z h0 a1 ac av kc kv es) (g_a2 : n0 ≤ a2) (hcl : cl.length = 12) (hl : es.length < 256) (hg : ∀ q ∈ es, own_good x0 x1 q) (ne_a2_a1 : a2 ≠ a1) (ne_a2_ac : a2 ≠ ac) (ne_a2_av : a2 ≠ av) :
    MetFree l (⟨"com/example/terse_graph/tersegraph/PrefixWriter", "countInto", "([J[I)V"⟩ : MethodName) (head1 (Jvm.Cond.code (⟨"com/example/terse_graph/tersegraph/PrefixWriter", "countInto", "([J[I)V"⟩ : MethodName) prog_127_method_5_code 5 none :: ws) ({ frames := 0, cells := 1, slots := 3, locals := 0 } : Room)) (fun a U => a = #[(.ref a1), (.ref a2), (.ref a3)] ∧ Z.Warmed39 U.vm ∧ U.heap = h0) (fun _ _ _ _ _ => True) (fun _ U o U' => ∃ v L, o = .returned v ∧ Q_rmCnt Z a1 a2 a3 k3 x0 x1 x2 k2 cl ac av kc kv es h0 n0 v U'.heap L ∧ FrameEnd U o U' L ({ frames := 0, cells := 1, slots := 3, locals := 0 } : Room).cells ({ frames := 0, cells := 1, slots := 3, locals := 0 } : Room).slots) := by
  refine MetFree.of_bodySF (plainFor_of_name own_pn2) hisR ?_
  intro p e s m args below meth c s₁ Bd hml0 hP hK
  obtain ⟨rfl, hZ, hh⟩ := hP
  have hx := Bd.exec
  have hby := Bd.bytes
  have hml : c.maxLocals = 5 := hml0
  have hown : s.vm.findClass "com/example/terse_graph/tersegraph/PrefixWriter" = some m.cls := findClass_of_methodNamed Bd.named
  have hnm := (name_of_methodNamed Bd.named Bd.method).1
  have X0 : Stand p l e ({ frames := 0, cells := 1, slots := 3, locals := 0 } : Room) s m #[(.ref a1), (.ref a2), (.ref a3)] below meth c s₁ [] 0 0 := Stand.of_body Bd
  have e0 : s₁.heap = h0 := by rw [← hh, Bd.state]; rfl
  have N0 := Fr.nil n0
  have R0 : ∀ t, Steps p.tables e below (s₁.setTop (mkF m 0 #[.val (.ref a1), .val (.ref a2), .val (.ref a3), .unset, .unset] [])) t → Steps p.tables e below (s₁.setTop (entryFrame m #[(.ref a1), (.ref a2), (.ref a3)] 5)) t := fun t k => castTop (own_ef_rmCnt m a1 a2 a3) k
  obtain ⟨fa1, fb1, fc1, fe1, va1, vb1⟩ := id Hw
  have R2 : ∀ t, Steps p.tables e below (s₁.setTop (mkF m 1 #[.val (.ref a1), .val (.ref a2), .val (.ref a3), .unset, .unset] [(.ref a3)])) t → Steps p.tables e below (s₁.setTop (entryFrame m #[(.ref a1), (.ref a2), (.ref a3)] 5)) t := by
    intro t k
    refine R0 t ?_
    show Steps p.tables e below (s₁.setTop (mkF m 0 #[.val (.ref a1), .val (.ref a2), .val (.ref a3), .unset, .unset] [])) _
    refine XS.aloadN X0.here hx rfl (hb hby own_d11_0) rfl rfl ?_
    exact k
  obtain ⟨cl3, Ar3, q3, S3, N3', H3, G3⟩ := id Va
  have R4 : ∀ t, Steps p.tables e below (s₁.setTop (mkF m 2 #[.val (.ref a1), .val (.ref a2), .val (.ref a3), .unset, .unset] [(.int (3 : Int32))])) t → Steps p.tables e below (s₁.setTop (entryFrame m #[(.ref a1), (.ref a2), (.ref a3)] 5)) t := by
    intro t k
    refine R2 t ?_
    show Steps p.tables e below (s₁.setTop (mkF m 1 #[.val (.ref a1), .val (.ref a2), .val (.ref a3), .unset, .unset] [(.ref a3)])) _
    refine X0.arraylength hx (by rw [e0]; exact Ar3.1) (State.isArrayOf_alike hZ.alike Ar3.2.1) (g := (mkF m 1 #[.val (.ref a1), .val (.ref a2), .val (.ref a3), .unset, .unset] [(.ref a3)])) rfl rfl (hb hby own_d11_1) _ ?_
    rw [len_of S3 N3']
    exact k
  obtain ⟨T5, h5, k5, X5, e5, E5, A5, st5⟩ := newP X0 hx hZ (hw _ (List.mem_of_getElem? (i := 0) rfl)) e0 (g := (mkF m 2 #[.val (.ref a1), .val (.ref a2), .val (.ref a3), .unset, .unset] [(.int (3 : Int32))])) rfl (hb hby own_d11_2) rfl (by decide) (cap := 3) (by decide) (by decide) (by decide) (by decide)
  obtain ⟨b5, g5⟩ : ∃ z, z = h0.size := ⟨_, rfl⟩
  rw [← g5] at A5 st5
  have R5 : ∀ t, Steps p.tables e below (T5.setTop (mkF m 4 #[.val (.ref a1), .val (.ref a2), .val (.ref a3), .unset, .unset] [(.ref b5)])) t → Steps p.tables e below (s₁.setTop (entryFrame m #[(.ref a1), (.ref a2), (.ref a3)] 5)) t := fun t k => R4 t (st5 t k)
  have ne_a1_b5 : a1 ≠ b5 := Nat.ne_of_lt (Nat.lt_of_lt_of_le fa1.lt (Nat.le_of_eq g5.symm))
  have ne_a2_b5 : a2 ≠ b5 := Nat.ne_of_lt (Nat.lt_of_lt_of_le Vc.lt (Nat.le_of_eq g5.symm))
  have ne_a3_b5 : a3 ≠ b5 := Nat.ne_of_lt (Nat.lt_of_lt_of_le Va.lt (Nat.le_of_eq g5.symm))
  have ne_ac_b5 : ac ≠ b5 := Nat.ne_of_lt (Nat.lt_of_lt_of_le va1.lt (Nat.le_of_eq g5.symm))
  have ne_av_b5 : av ≠ b5 := Nat.ne_of_lt (Nat.lt_of_lt_of_le vb1.lt (Nat.le_of_eq g5.symm))
  have g_b5 : n0 ≤ b5 := Nat.le_trans Z0 (Nat.le_of_eq g5.symm)
  have sz_b5 : h0.size ≤ b5 := Nat.le_trans (Keep.refl h0 [a2]).1 (Nat.le_of_eq g5.symm)
  have Z5 : n0 ≤ h5.size := Nat.le_trans Z0 E5.1
  have K5 : Keep h0 h5 [a2] := (Keep.refl h0 [a2]).ext E5
  have f6 : Arv Z h5 a3 k3 .int (3 : Int32) [Value.int x0, Value.int x1, Value.int x2] (.int (0 : Int32)) := Va.ext E5
  have f7 : Arv Z h5 a2 k2 .long (12 : Int32) (cl.map Value.long) (.long (0 : Int64)) := Vc.ext E5
  have f8 : Fld Z h5 a1 "com/example/terse_graph/tersegraph/PrefixWriter" "contexts" "[I" (.ref ac) := fa1.ext E5
  have f9 : Fld Z h5 a1 "com/example/terse_graph/tersegraph/PrefixWriter" "values" "[I" (.ref av) := fb1.ext E5
  have f10 : Fld Z h5 a1 "com/example/terse_graph/tersegraph/PrefixWriter" "count" "I" (.int (own_n es)) := fc1.ext E5
  have f11 : Exa Z h5 a1 "com/example/terse_graph/tersegraph/PrefixWriter" := fe1.ext E5
  have f12 : Arv Z h5 ac kc .int (256 : Int32) (own_cs es) (.int (0 : Int32)) := va1.ext E5
  have f13 : Arv Z h5 av kv .int (256 : Int32) (own_vs es) (.int (0 : Int32)) := vb1.ext E5
  have V5 : Arv Z h5 b5 k5 .int (3 : Int32) [(.int (0 : Int32)), (.int (0 : Int32)), (.int (0 : Int32))] (.int (0 : Int32)) := (Arv.new A5 (by decide)).pad (pad_rep [] (.int (0 : Int32)) 3)
  have R14 : ∀ t, Steps p.tables e below (T5.setTop (mkF m 11 #[.val (.ref a1), .val (.ref a2), .val (.ref a3), .val (.ref b5), .val (.int (1 : Int32))] [(.ref a3), (.int (1 : Int32))])) t → Steps p.tables e below (s₁.setTop (entryFrame m #[(.ref a1), (.ref a2), (.ref a3)] 5)) t := by
    intro t k
    refine R5 t ?_
    show Steps p.tables e below (T5.setTop (mkF m 4 #[.val (.ref a1), .val (.ref a2), .val (.ref a3), .unset, .unset] [(.ref b5)])) _
    refine XS.astoreN X5.here hx rfl (hb hby own_d11_4) rfl rfl (l' := #[.val (.ref a1), .val (.ref a2), .val (.ref a3), .val (.ref b5), .unset]) rfl ?_
    show Steps p.tables e below (T5.setTop (mkF m 5 #[.val (.ref a1), .val (.ref a2), .val (.ref a3), .val (.ref b5), .unset] [])) _
    refine XS.iconst X5.here hx rfl (hb hby own_d11_5) ?_
    show Steps p.tables e below (T5.setTop (mkF m 6 #[.val (.ref a1), .val (.ref a2), .val (.ref a3), .val (.ref b5), .unset] [(.int (1 : Int32))])) _
    refine XS.istore X5.here hx rfl (hb hby own_d11_6) rfl (l' := #[.val (.ref a1), .val (.ref a2), .val (.ref a3), .val (.ref b5), .val (.int (1 : Int32))]) rfl ?_
    show Steps p.tables e below (T5.setTop (mkF m 8 #[.val (.ref a1), .val (.ref a2), .val (.ref a3), .val (.ref b5), .val (.int (1 : Int32))] [])) _
    refine XS.iload X5.here hx rfl (hb hby own_d11_8) rfl ?_
    show Steps p.tables e below (T5.setTop (mkF m 10 #[.val (.ref a1), .val (.ref a2), .val (.ref a3), .val (.ref b5), .val (.int (1 : Int32))] [(.int (1 : Int32))])) _
    refine XS.aloadN X5.here hx rfl (hb hby own_d11_10) rfl rfl ?_
    exact k
  obtain ⟨cl15, Ar15, q15, S15, N15', H15, G15⟩ := id f6
  have R16 : ∀ t, Steps p.tables e below (T5.setTop (mkF m 23 #[.val (.ref a1), .val (.ref a2), .val (.ref a3), .val (.ref b5), .val (.int (1 : Int32))] [(.int (0 : Int32)), (.ref b5), (.int (1 : Int32)), (.ref b5)])) t → Steps p.tables e below (s₁.setTop (entryFrame m #[(.ref a1), (.ref a2), (.ref a3)] 5)) t := by
    intro t k
    refine R14 t ?_
    show Steps p.tables e below (T5.setTop (mkF m 11 #[.val (.ref a1), .val (.ref a2), .val (.ref a3), .val (.ref b5), .val (.int (1 : Int32))] [(.ref a3), (.int (1 : Int32))])) _
    refine X5.arraylength hx (by rw [e5]; exact Ar15.1) (State.isArrayOf_alike hZ.alike Ar15.2.1) (g := (mkF m 11 #[.val (.ref a1), .val (.ref a2), .val (.ref a3), .val (.ref b5), .val (.int (1 : Int32))] [(.ref a3), (.int (1 : Int32))])) rfl rfl (hb hby own_d11_11) _ ?_
    rw [len_of S15 N15']
    show Steps p.tables e below (T5.setTop (mkF m 12 #[.val (.ref a1), .val (.ref a2), .val (.ref a3), .val (.ref b5), .val (.int (1 : Int32))] [(.int (3 : Int32)), (.int (1 : Int32))])) _
    refine XS.icmpNo X5.here hx rfl (hb hby own_d11_12) rfl (tlt (by decide : ((1 : Int32) < (3 : Int32)))).2.1 ?_
    show Steps p.tables e below (T5.setTop (mkF m 15 #[.val (.ref a1), .val (.ref a2), .val (.ref a3), .val (.ref b5), .val (.int (1 : Int32))] [])) _
    refine XS.aloadN X5.here hx rfl (hb hby own_d11_15) rfl rfl ?_
    show Steps p.tables e below (T5.setTop (mkF m 16 #[.val (.ref a1), .val (.ref a2), .val (.ref a3), .val (.ref b5), .val (.int (1 : Int32))] [(.ref b5)])) _
    refine XS.iload X5.here hx rfl (hb hby own_d11_16) rfl ?_
    show Steps p.tables e below (T5.setTop (mkF m 18 #[.val (.ref a1), .val (.ref a2), .val (.ref a3), .val (.ref b5), .val (.int (1 : Int32))] [(.int (1 : Int32)), (.ref b5)])) _
    refine XS.aloadN X5.here hx rfl (hb hby own_d11_18) rfl rfl ?_
    show Steps p.tables e below (T5.setTop (mkF m 19 #[.val (.ref a1), .val (.ref a2), .val (.ref a3), .val (.ref b5), .val (.int (1 : Int32))] [(.ref b5), (.int (1 : Int32)), (.ref b5)])) _
    refine XS.iload X5.here hx rfl (hb hby own_d11_19) rfl ?_
    show Steps p.tables e below (T5.setTop (mkF m 21 #[.val (.ref a1), .val (.ref a2), .val (.ref a3), .val (.ref b5), .val (.int (1 : Int32))] [(.int (1 : Int32)), (.ref b5), (.int (1 : Int32)), (.ref b5)])) _
    refine XS.iconst X5.here hx rfl (hb hby own_d11_21) ?_
    show Steps p.tables e below (T5.setTop (mkF m 22 #[.val (.ref a1), .val (.ref a2), .val (.ref a3), .val (.ref b5), .val (.int (1 : Int32))] [(.int (1 : Int32)), (.int (1 : Int32)), (.ref b5), (.int (1 : Int32)), (.ref b5)])) _
    refine XS.isub X5.here hx rfl (hb hby own_d11_22) rfl ?_
    exact k
  obtain ⟨cl17, Ar17, q17, S17, N17', H17, G17⟩ := id V5
  have hin17_0 : ¬ ((0 : Int32) < 0 ∨ cl17.slots.size ≤ ((0 : Int32)).toNatClampNeg) := inb_of S17 ⟨by decide, by decide⟩
  have hat17_0 : cl17.slots[((0 : Int32)).toNatClampNeg]? = some (.int (0 : Int32)) := H17.at hin17_0 rfl
  have R18 : ∀ t, Steps p.tables e below (T5.setTop (mkF m 29 #[.val (.ref a1), .val (.ref a2), .val (.ref a3), .val (.ref b5), .val (.int (1 : Int32))] [(.int (0 : Int32)), (.ref a3), (.int (0 : Int32)), (.int (1 : Int32)), (.ref b5)])) t → Steps p.tables e below (s₁.setTop (entryFrame m #[(.ref a1), (.ref a2), (.ref a3)] 5)) t := by
    intro t k
    refine R16 t ?_
    show Steps p.tables e below (T5.setTop (mkF m 23 #[.val (.ref a1), .val (.ref a2), .val (.ref a3), .val (.ref b5), .val (.int (1 : Int32))] [(.int (0 : Int32)), (.ref b5), (.int (1 : Int32)), (.ref b5)])) _
    refine X5.iaload hx (j := (0 : Int32)) (v := (.int (0 : Int32))) (by rw [e5]; exact Ar17.1) (State.isArrayOf_alike hZ.alike Ar17.2.1) Ar17.2.2 hin17_0 hat17_0 (g := (mkF m 23 #[.val (.ref a1), .val (.ref a2), .val (.ref a3), .val (.ref b5), .val (.int (1 : Int32))] [(.int (0 : Int32)), (.ref b5), (.int (1 : Int32)), (.ref b5)])) rfl rfl (hb hby own_d11_23) _ ?_
    show Steps p.tables e below (T5.setTop (mkF m 24 #[.val (.ref a1), .val (.ref a2), .val (.ref a3), .val (.ref b5), .val (.int (1 : Int32))] [(.int (0 : Int32)), (.int (1 : Int32)), (.ref b5)])) _
    refine XS.aloadN X5.here hx rfl (hb hby own_d11_24) rfl rfl ?_
    show Steps p.tables e below (T5.setTop (mkF m 25 #[.val (.ref a1), .val (.ref a2), .val (.ref a3), .val (.ref b5), .val (.int (1 : Int32))] [(.ref a3), (.int (0 : Int32)), (.int (1 : Int32)), (.ref b5)])) _
    refine XS.iload X5.here hx rfl (hb hby own_d11_25) rfl ?_
    show Steps p.tables e below (T5.setTop (mkF m 27 #[.val (.ref a1), .val (.ref a2), .val (.ref a3), .val (.ref b5), .val (.int (1 : Int32))] [(.int (1 : Int32)), (.ref a3), (.int (0 : Int32)), (.int (1 : Int32)), (.ref b5)])) _
    refine XS.iconst X5.here hx rfl (hb hby own_d11_27) ?_
    show Steps p.tables e below (T5.setTop (mkF m 28 #[.val (.ref a1), .val (.ref a2), .val (.ref a3), .val (.ref b5), .val (.int (1 : Int32))] [(.int (1 : Int32)), (.int (1 : Int32)), (.ref a3), (.int (0 : Int32)), (.int (1 : Int32)), (.ref b5)])) _
    refine XS.isub X5.here hx rfl (hb hby own_d11_28) rfl ?_
    exact k
  have hin15_0 : ¬ ((0 : Int32) < 0 ∨ cl15.slots.size ≤ ((0 : Int32)).toNatClampNeg) := inb_of S15 ⟨by decide, by decide⟩
  have hat15_0 : cl15.slots[((0 : Int32)).toNatClampNeg]? = some (.int x0) := H15.at hin15_0 rfl
  have R19 : ∀ t, Steps p.tables e below (T5.setTop (mkF m 31 #[.val (.ref a1), .val (.ref a2), .val (.ref a3), .val (.ref b5), .val (.int (1 : Int32))] [(.int ((0 : Int32) + x0)), (.int (1 : Int32)), (.ref b5)])) t → Steps p.tables e below (s₁.setTop (entryFrame m #[(.ref a1), (.ref a2), (.ref a3)] 5)) t := by
    intro t k
    refine R18 t ?_
    show Steps p.tables e below (T5.setTop (mkF m 29 #[.val (.ref a1), .val (.ref a2), .val (.ref a3), .val (.ref b5), .val (.int (1 : Int32))] [(.int (0 : Int32)), (.ref a3), (.int (0 : Int32)), (.int (1 : Int32)), (.ref b5)])) _
    refine X5.iaload hx (j := (0 : Int32)) (v := (.int x0)) (by rw [e5]; exact Ar15.1) (State.isArrayOf_alike hZ.alike Ar15.2.1) Ar15.2.2 hin15_0 hat15_0 (g := (mkF m 29 #[.val (.ref a1), .val (.ref a2), .val (.ref a3), .val (.ref b5), .val (.int (1 : Int32))] [(.int (0 : Int32)), (.ref a3), (.int (0 : Int32)), (.int (1 : Int32)), (.ref b5)])) rfl rfl (hb hby own_d11_29) _ ?_
    show Steps p.tables e below (T5.setTop (mkF m 30 #[.val (.ref a1), .val (.ref a2), .val (.ref a3), .val (.ref b5), .val (.int (1 : Int32))] [(.int x0), (.int (0 : Int32)), (.int (1 : Int32)), (.ref b5)])) _
    refine XS.iadd X5.here hx rfl (hb hby own_d11_30) rfl ?_
    exact k
  obtain ⟨cl20, Ar20, q20, S20, N20', H20, G20⟩ := id V5
  have hin20 : ¬ ((1 : Int32) < 0 ∨ cl20.slots.size ≤ ((1 : Int32)).toNatClampNeg) := inb_of S20 ⟨by decide, by decide⟩
  obtain ⟨T21, h21, X21, e21, W21, st21⟩ := stI X5 hx hZ e5 Ar20 (j := (1 : Int32)) hin20 (g := (mkF m 31 #[.val (.ref a1), .val (.ref a2), .val (.ref a3), .val (.ref b5), .val (.int (1 : Int32))] [(.int ((0 : Int32) + x0)), (.int (1 : Int32)), (.ref b5)])) rfl rfl (hb hby own_d11_31)
  have R21 : ∀ t, Steps p.tables e below (T21.setTop (mkF m 32 #[.val (.ref a1), .val (.ref a2), .val (.ref a3), .val (.ref b5), .val (.int (1 : Int32))] [])) t → Steps p.tables e below (s₁.setTop (entryFrame m #[(.ref a1), (.ref a2), (.ref a3)] 5)) t := fun t k => R19 t (st21 t k)
  have Z21 : n0 ≤ h21.size := Nat.le_trans Z5 (Keep.of_wr W21).1
  have K21 : Keep h0 h21 [a2] := K5.wr W21 (Or.inr sz_b5)
  have N21 := Fr.snoc X21 N0 g_b5
  have f22 : Arv Z h21 a3 k3 .int (3 : Int32) [Value.int x0, Value.int x1, Value.int x2] (.int (0 : Int32)) := f6.other W21 ne_a3_b5
  have f23 : Arv Z h21 a2 k2 .long (12 : Int32) (cl.map Value.long) (.long (0 : Int64)) := f7.other W21 ne_a2_b5
  have f24 : Fld Z h21 a1 "com/example/terse_graph/tersegraph/PrefixWriter" "contexts" "[I" (.ref ac) := f8.other W21 (Or.inl ne_a1_b5)
  have f25 : Fld Z h21 a1 "com/example/terse_graph/tersegraph/PrefixWriter" "values" "[I" (.ref av) := f9.other W21 (Or.inl ne_a1_b5)
  have f26 : Fld Z h21 a1 "com/example/terse_graph/tersegraph/PrefixWriter" "count" "I" (.int (own_n es)) := f10.other W21 (Or.inl ne_a1_b5)
  have f27 : Exa Z h21 a1 "com/example/terse_graph/tersegraph/PrefixWriter" := f11.wr W21
  have f28 : Arv Z h21 ac kc .int (256 : Int32) (own_cs es) (.int (0 : Int32)) := f12.other W21 ne_ac_b5
  have f29 : Arv Z h21 av kv .int (256 : Int32) (own_vs es) (.int (0 : Int32)) := f13.other W21 ne_av_b5
  have V21 : Arv Z h21 b5 k5 .int (3 : Int32) [(.int (0 : Int32)), (.int ((0 : Int32) + x0)), (.int (0 : Int32))] (.int (0 : Int32)) := Arv.set Ar20 q20 S20 N20' H20 G20 rfl W21 1 rfl (Nat.le_of_ble_eq_true rfl)
  have R30 : ∀ t, Steps p.tables e below (T21.setTop (mkF m 11 #[.val (.ref a1), .val (.ref a2), .val (.ref a3), .val (.ref b5), .val (.int (2 : Int32))] [(.ref a3), (.int (2 : Int32))])) t → Steps p.tables e below (s₁.setTop (entryFrame m #[(.ref a1), (.ref a2), (.ref a3)] 5)) t := by
    intro t k
    refine R21 t ?_
    show Steps p.tables e below (T21.setTop (mkF m 32 #[.val (.ref a1), .val (.ref a2), .val (.ref a3), .val (.ref b5), .val (.int (1 : Int32))] [])) _
    refine XS.iinc X21.here hx rfl (hb hby own_d11_32) rfl (l' := #[.val (.ref a1), .val (.ref a2), .val (.ref a3), .val (.ref b5), .val (.int (2 : Int32))]) rfl ?_
    show Steps p.tables e below (T21.setTop (mkF m 35 #[.val (.ref a1), .val (.ref a2), .val (.ref a3), .val (.ref b5), .val (.int (2 : Int32))] [])) _
    refine XS.goto X21.here hx rfl (pc0 := 35) (pc' := 8) rfl (hb hby own_d11_35) (by decide) (by decide) ?_
    show Steps p.tables e below (T21.setTop (mkF m 8 #[.val (.ref a1), .val (.ref a2), .val (.ref a3), .val (.ref b5), .val (.int (2 : Int32))] [])) _
    refine XS.iload X21.here hx rfl (hb hby own_d11_8) rfl ?_
    show Steps p.tables e below (T21.setTop (mkF m 10 #[.val (.ref a1), .val (.ref a2), .val (.ref a3), .val (.ref b5), .val (.int (2 : Int32))] [(.int (2 : Int32))])) _
    refine XS.aloadN X21.here hx rfl (hb hby own_d11_10) rfl rfl ?_
    exact k
  obtain ⟨cl31, Ar31, q31, S31, N31', H31, G31⟩ := id f22
  have R32 : ∀ t, Steps p.tables e below (T21.setTop (mkF m 23 #[.val (.ref a1), .val (.ref a2), .val (.ref a3), .val (.ref b5), .val (.int (2 : Int32))] [(.int (1 : Int32)), (.ref b5), (.int (2 : Int32)), (.ref b5)])) t → Steps p.tables e below (s₁.setTop (entryFrame m #[(.ref a1), (.ref a2), (.ref a3)] 5)) t := by
    intro t k
    refine R30 t ?_
    show Steps p.tables e below (T21.setTop (mkF m 11 #[.val (.ref a1), .val (.ref a2), .val (.ref a3), .val (.ref b5), .val (.int (2 : Int32))] [(.ref a3), (.int (2 : Int32))])) _
    refine X21.arraylength hx (by rw [e21]; exact Ar31.1) (State.isArrayOf_alike hZ.alike Ar31.2.1) (g := (mkF m 11 #[.val (.ref a1), .val (.ref a2), .val (.ref a3), .val (.ref b5), .val (.int (2 : Int32))] [(.ref a3), (.int (2 : Int32))])) rfl rfl (hb hby own_d11_11) _ ?_
    rw [len_of S31 N31']
    show Steps p.tables e below (T21.setTop (mkF m 12 #[.val (.ref a1), .val (.ref a2), .val (.ref a3), .val (.ref b5), .val (.int (2 : Int32))] [(.int (3 : Int32)), (.int (2 : Int32))])) _
    refine XS.icmpNo X21.here hx rfl (hb hby own_d11_12) rfl (tlt (by decide : ((2 : Int32) < (3 : Int32)))).2.1 ?_
    show Steps p.tables e below (T21.setTop (mkF m 15 #[.val (.ref a1), .val (.ref a2), .val (.ref a3), .val (.ref b5), .val (.int (2 : Int32))] [])) _
    refine XS.aloadN X21.here hx rfl (hb hby own_d11_15) rfl rfl ?_
    show Steps p.tables e below (T21.setTop (mkF m 16 #[.val (.ref a1), .val (.ref a2), .val (.ref a3), .val (.ref b5), .val (.int (2 : Int32))] [(.ref b5)])) _
    refine XS.iload X21.here hx rfl (hb hby own_d11_16) rfl ?_
    show Steps p.tables e below (T21.setTop (mkF m 18 #[.val (.ref a1), .val (.ref a2), .val (.ref a3), .val (.ref b5), .val (.int (2 : Int32))] [(.int (2 : Int32)), (.ref b5)])) _
    refine XS.aloadN X21.here hx rfl (hb hby own_d11_18) rfl rfl ?_
    show Steps p.tables e below (T21.setTop (mkF m 19 #[.val (.ref a1), .val (.ref a2), .val (.ref a3), .val (.ref b5), .val (.int (2 : Int32))] [(.ref b5), (.int (2 : Int32)), (.ref b5)])) _
    refine XS.iload X21.here hx rfl (hb hby own_d11_19) rfl ?_
    show Steps p.tables e below (T21.setTop (mkF m 21 #[.val (.ref a1), .val (.ref a2), .val (.ref a3), .val (.ref b5), .val (.int (2 : Int32))] [(.int (2 : Int32)), (.ref b5), (.int (2 : Int32)), (.ref b5)])) _
    refine XS.iconst X21.here hx rfl (hb hby own_d11_21) ?_
    show Steps p.tables e below (T21.setTop (mkF m 22 #[.val (.ref a1), .val (.ref a2), .val (.ref a3), .val (.ref b5), .val (.int (2 : Int32))] [(.int (1 : Int32)), (.int (2 : Int32)), (.ref b5), (.int (2 : Int32)), (.ref b5)])) _
    refine XS.isub X21.here hx rfl (hb hby own_d11_22) rfl ?_
    exact k
  obtain ⟨cl33, Ar33, q33, S33, N33', H33, G33⟩ := id V21
  have hin33_1 : ¬ ((1 : Int32) < 0 ∨ cl33.slots.size ≤ ((1 : Int32)).toNatClampNeg) := inb_of S33 ⟨by decide, by decide⟩
  have hat33_1 : cl33.slots[((1 : Int32)).toNatClampNeg]? = some (.int ((0 : Int32) + x0)) := H33.at hin33_1 rfl
  have R34 : ∀ t, Steps p.tables e below (T21.setTop (mkF m 29 #[.val (.ref a1), .val (.ref a2), .val (.ref a3), .val (.ref b5), .val (.int (2 : Int32))] [(.int (1 : Int32)), (.ref a3), (.int ((0 : Int32) + x0)), (.int (2 : Int32)), (.ref b5)])) t → Steps p.tables e below (s₁.setTop (entryFrame m #[(.ref a1), (.ref a2), (.ref a3)] 5)) t := by
    intro t k
    refine R32 t ?_
    show Steps p.tables e below (T21.setTop (mkF m 23 #[.val (.ref a1), .val (.ref a2), .val (.ref a3), .val (.ref b5), .val (.int (2 : Int32))] [(.int (1 : Int32)), (.ref b5), (.int (2 : Int32)), (.ref b5)])) _
    refine X21.iaload hx (j := (1 : Int32)) (v := (.int ((0 : Int32) + x0))) (by rw [e21]; exact Ar33.1) (State.isArrayOf_alike hZ.alike Ar33.2.1) Ar33.2.2 hin33_1 hat33_1 (g := (mkF m 23 #[.val (.ref a1), .val (.ref a2), .val (.ref a3), .val (.ref b5), .val (.int (2 : Int32))] [(.int (1 : Int32)), (.ref b5), (.int (2 : Int32)), (.ref b5)])) rfl rfl (hb hby own_d11_23) _ ?_
    show Steps p.tables e below (T21.setTop (mkF m 24 #[.val (.ref a1), .val (.ref a2), .val (.ref a3), .val (.ref b5), .val (.int (2 : Int32))] [(.int ((0 : Int32) + x0)), (.int (2 : Int32)), (.ref b5)])) _
    refine XS.aloadN X21.here hx rfl (hb hby own_d11_24) rfl rfl ?_
    show Steps p.tables e below (T21.setTop (mkF m 25 #[.val (.ref a1), .val (.ref a2), .val (.ref a3), .val (.ref b5), .val (.int (2 : Int32))] [(.ref a3), (.int ((0 : Int32) + x0)), (.int (2 : Int32)), (.ref b5)])) _
    refine XS.iload X21.here hx rfl (hb hby own_d11_25) rfl ?_
    show Steps p.tables e below (T21.setTop (mkF m 27 #[.val (.ref a1), .val (.ref a2), .val (.ref a3), .val (.ref b5), .val (.int (2 : Int32))] [(.int (2 : Int32)), (.ref a3), (.int ((0 : Int32) + x0)), (.int (2 : Int32)), (.ref b5)])) _
    refine XS.iconst X21.here hx rfl (hb hby own_d11_27) ?_
    show Steps p.tables e below (T21.setTop (mkF m 28 #[.val (.ref a1), .val (.ref a2), .val (.ref a3), .val (.ref b5), .val (.int (2 : Int32))] [(.int (1 : Int32)), (.int (2 : Int32)), (.ref a3), (.int ((0 : Int32) + x0)), (.int (2 : Int32)), (.ref b5)])) _
    refine XS.isub X21.here hx rfl (hb hby own_d11_28) rfl ?_
    exact k
  have hin31_1 : ¬ ((1 : Int32) < 0 ∨ cl31.slots.size ≤ ((1 : Int32)).toNatClampNeg) := inb_of S31 ⟨by decide, by decide⟩
  have hat31_1 : cl31.slots[((1 : Int32)).toNatClampNeg]? = some (.int x1) := H31.at hin31_1 rfl
  have R35 : ∀ t, Steps p.tables e below (T21.setTop (mkF m 31 #[.val (.ref a1), .val (.ref a2), .val (.ref a3), .val (.ref b5), .val (.int (2 : Int32))] [(.int (((0 : Int32) + x0) + x1)), (.int (2 : Int32)), (.ref b5)])) t → Steps p.tables e below (s₁.setTop (entryFrame m #[(.ref a1), (.ref a2), (.ref a3)] 5)) t := by
    intro t k
    refine R34 t ?_
    show Steps p.tables e below (T21.setTop (mkF m 29 #[.val (.ref a1), .val (.ref a2), .val (.ref a3), .val (.ref b5), .val (.int (2 : Int32))] [(.int (1 : Int32)), (.ref a3), (.int ((0 : Int32) + x0)), (.int (2 : Int32)), (.ref b5)])) _
    refine X21.iaload hx (j := (1 : Int32)) (v := (.int x1)) (by rw [e21]; exact Ar31.1) (State.isArrayOf_alike hZ.alike Ar31.2.1) Ar31.2.2 hin31_1 hat31_1 (g := (mkF m 29 #[.val (.ref a1), .val (.ref a2), .val (.ref a3), .val (.ref b5), .val (.int (2 : Int32))] [(.int (1 : Int32)), (.ref a3), (.int ((0 : Int32) + x0)), (.int (2 : Int32)), (.ref b5)])) rfl rfl (hb hby own_d11_29) _ ?_
    show Steps p.tables e below (T21.setTop (mkF m 30 #[.val (.ref a1), .val (.ref a2), .val (.ref a3), .val (.ref b5), .val (.int (2 : Int32))] [(.int x1), (.int ((0 : Int32) + x0)), (.int (2 : Int32)), (.ref b5)])) _
    refine XS.iadd X21.here hx rfl (hb hby own_d11_30) rfl ?_
    exact k
  obtain ⟨cl36, Ar36, q36, S36, N36', H36, G36⟩ := id V21
  have hin36 : ¬ ((2 : Int32) < 0 ∨ cl36.slots.size ≤ ((2 : Int32)).toNatClampNeg) := inb_of S36 ⟨by decide, by decide⟩
  obtain ⟨T37, h37, X37, e37, W37, st37⟩ := stI X21 hx hZ e21 Ar36 (j := (2 : Int32)) hin36 (g := (mkF m 31 #[.val (.ref a1), .val (.ref a2), .val (.ref a3), .val (.ref b5), .val (.int (2 : Int32))] [(.int (((0 : Int32) + x0) + x1)), (.int (2 : Int32)), (.ref b5)])) rfl rfl (hb hby own_d11_31)
  have R37 : ∀ t, Steps p.tables e below (T37.setTop (mkF m 32 #[.val (.ref a1), .val (.ref a2), .val (.ref a3), .val (.ref b5), .val (.int (2 : Int32))] [])) t → Steps p.tables e below (s₁.setTop (entryFrame m #[(.ref a1), (.ref a2), (.ref a3)] 5)) t := fun t k => R35 t (st37 t k)
  have Z37 : n0 ≤ h37.size := Nat.le_trans Z21 (Keep.of_wr W37).1
  have K37 : Keep h0 h37 [a2] := K21.wr W37 (Or.inr sz_b5)
  have N37 := Fr.snoc X37 N21 g_b5
  have f38 : Arv Z h37 a3 k3 .int (3 : Int32) [Value.int x0, Value.int x1, Value.int x2] (.int (0 : Int32)) := f22.other W37 ne_a3_b5
  have f39 : Arv Z h37 a2 k2 .long (12 : Int32) (cl.map Value.long) (.long (0 : Int64)) := f23.other W37 ne_a2_b5
  have f40 : Fld Z h37 a1 "com/example/terse_graph/tersegraph/PrefixWriter" "contexts" "[I" (.ref ac) := f24.other W37 (Or.inl ne_a1_b5)
  have f41 : Fld Z h37 a1 "com/example/terse_graph/tersegraph/PrefixWriter" "values" "[I" (.ref av) := f25.other W37 (Or.inl ne_a1_b5)
  have f42 : Fld Z h37 a1 "com/example/terse_graph/tersegraph/PrefixWriter" "count" "I" (.int (own_n es)) := f26.other W37 (Or.inl ne_a1_b5)
  have f43 : Exa Z h37 a1 "com/example/terse_graph/tersegraph/PrefixWriter" := f27.wr W37
  have f44 : Arv Z h37 ac kc .int (256 : Int32) (own_cs es) (.int (0 : Int32)) := f28.other W37 ne_ac_b5
  have f45 : Arv Z h37 av kv .int (256 : Int32) (own_vs es) (.int (0 : Int32)) := f29.other W37 ne_av_b5
  have V37 : Arv Z h37 b5 k5 .int (3 : Int32) [(.int (0 : Int32)), (.int ((0 : Int32) + x0)), (.int (((0 : Int32) + x0) + x1))] (.int (0 : Int32)) := Arv.set Ar36 q36 S36 N36' H36 G36 rfl W37 2 rfl (Nat.le_of_ble_eq_true rfl)
  have R46 : ∀ t, Steps p.tables e below (T37.setTop (mkF m 11 #[.val (.ref a1), .val (.ref a2), .val (.ref a3), .val (.ref b5), .val (.int (3 : Int32))] [(.ref a3), (.int (3 : Int32))])) t → Steps p.tables e below (s₁.setTop (entryFrame m #[(.ref a1), (.ref a2), (.ref a3)] 5)) t := by
    intro t k
    refine R37 t ?_
    show Steps p.tables e below (T37.setTop (mkF m 32 #[.val (.ref a1), .val (.ref a2), .val (.ref a3), .val (.ref b5), .val (.int (2 : Int32))] [])) _
    refine XS.iinc X37.here hx rfl (hb hby own_d11_32) rfl (l' := #[.val (.ref a1), .val (.ref a2), .val (.ref a3), .val (.ref b5), .val (.int (3 : Int32))]) rfl ?_
    show Steps p.tables e below (T37.setTop (mkF m 35 #[.val (.ref a1), .val (.ref a2), .val (.ref a3), .val (.ref b5), .val (.int (3 : Int32))] [])) _
    refine XS.goto X37.here hx rfl (pc0 := 35) (pc' := 8) rfl (hb hby own_d11_35) (by decide) (by decide) ?_
    show Steps p.tables e below (T37.setTop (mkF m 8 #[.val (.ref a1), .val (.ref a2), .val (.ref a3), .val (.ref b5), .val (.int (3 : Int32))] [])) _
    refine XS.iload X37.here hx rfl (hb hby own_d11_8) rfl ?_
    show Steps p.tables e below (T37.setTop (mkF m 10 #[.val (.ref a1), .val (.ref a2), .val (.ref a3), .val (.ref b5), .val (.int (3 : Int32))] [(.int (3 : Int32))])) _
    refine XS.aloadN X37.here hx rfl (hb hby own_d11_10) rfl rfl ?_
    exact k
  obtain ⟨cl47, Ar47, q47, S47, N47', H47, G47⟩ := id f38
  have R48 : ∀ t, Steps p.tables e below (T37.setTop (mkF m 41 #[.val (.ref a1), .val (.ref a2), .val (.ref a3), .val (.ref b5), .val (.int (0 : Int32))] [])) t → Steps p.tables e below (s₁.setTop (entryFrame m #[(.ref a1), (.ref a2), (.ref a3)] 5)) t := by
    intro t k
    refine R46 t ?_
    show Steps p.tables e below (T37.setTop (mkF m 11 #[.val (.ref a1), .val (.ref a2), .val (.ref a3), .val (.ref b5), .val (.int (3 : Int32))] [(.ref a3), (.int (3 : Int32))])) _
    refine X37.arraylength hx (by rw [e37]; exact Ar47.1) (State.isArrayOf_alike hZ.alike Ar47.2.1) (g := (mkF m 11 #[.val (.ref a1), .val (.ref a2), .val (.ref a3), .val (.ref b5), .val (.int (3 : Int32))] [(.ref a3), (.int (3 : Int32))])) rfl rfl (hb hby own_d11_11) _ ?_
    rw [len_of S47 N47']
    show Steps p.tables e below (T37.setTop (mkF m 12 #[.val (.ref a1), .val (.ref a2), .val (.ref a3), .val (.ref b5), .val (.int (3 : Int32))] [(.int (3 : Int32)), (.int (3 : Int32))])) _
    refine XS.icmpYes X37.here hx rfl (pc0 := 12) (pc' := 38) rfl (hb hby own_d11_12) rfl (flt (by decide : ¬ ((3 : Int32) < (3 : Int32)))).2.1 (by decide) (by decide) ?_
    show Steps p.tables e below (T37.setTop (mkF m 38 #[.val (.ref a1), .val (.ref a2), .val (.ref a3), .val (.ref b5), .val (.int (3 : Int32))] [])) _
    refine XS.iconst X37.here hx rfl (hb hby own_d11_38) ?_
    show Steps p.tables e below (T37.setTop (mkF m 39 #[.val (.ref a1), .val (.ref a2), .val (.ref a3), .val (.ref b5), .val (.int (3 : Int32))] [(.int (0 : Int32))])) _
    refine XS.istore X37.here hx rfl (hb hby own_d11_39) rfl (l' := #[.val (.ref a1), .val (.ref a2), .val (.ref a3), .val (.ref b5), .val (.int (0 : Int32))]) rfl ?_
    exact k
  have hz0 : (0 : Int32) + x0 = x0 := Int32.zero_add _
  have Vo : Arv Z h37 b5 k5 .int (3 : Int32) [Value.int (0 : Int32), Value.int x0, Value.int (x0 + x1)] (.int (0 : Int32)) := by
    have q := V37
    rw [hz0] at q; exact q
  have Hw2 : own_Wr Z h37 a1 ac av kc kv ([] ++ es) := ⟨f40, f41, f42, f43, f44, f45⟩
  have h0n : own_n [] = (0 : Int32) := rfl
  obtain ⟨T', h', locs', Y1, Y2, Y3, Y4, Y5, Y6⟩ := own_loop hx hZ hw hby hown (a3 := a3) g_a2 ne_a2_a1 ne_a2_ac ne_a2_av ne_a2_b5 es [] X37 e37 Z37 N37 Hw2 Vo f39 hcl hl hg
  have K' : Keep h0 h' [a2] := K37.trans Y4 (allS (Or.inl (by simp)) all0)
  have RL : ∀ t, Steps p.tables e below (T'.setTop (mkF m 89 #[.val (.ref a1), .val (.ref a2), .val (.ref a3), .val (.ref b5), .val (.int (own_n es))] [])) t → Steps p.tables e below (s₁.setTop (entryFrame m #[(.ref a1), (.ref a2), (.ref a3)] 5)) t := fun t k => R48 t (Y6 t k)
  obtain ⟨fs, hr, hrun, hended, hW, hsame⟩ := Y1.leave (v := none) (fun _ => rfl)
  refine ⟨_, _, RL _ ?_, hrun, hended, _, _, rfl, ?_, ⟨_, rfl⟩, hW, hsame.mono (by decide) (by decide)⟩
  · exact Y1.returnOut hx Bd.returns (hb hby own_d11_89) hr
  · show Q_rmCnt Z a1 a2 a3 k3 x0 x1 x2 k2 cl ac av kc kv es h0 n0 _ T'.heap _
    rw [Y2]
    exact ⟨rfl, Y3, K', Y5⟩
theorem own_ef_rmCell (m : MethodId) (x0 : Addr) (x1 : Int32) (x2 : Int64) (x3 : Addr) (x4 : Addr) : entryFrame m #[(.ref x0), (.int x1), (.long x2), (.ref x3), (.ref x4)] 8 = mkF m 0 #[.val (.ref x0), .val (.int x1), .val (.long x2), .second, .val (.ref x3), .val (.ref x4), .unset, .unset] [] := by first | (simp [entryFrame, mkF, argsToLocals, Value.category]; done) | rfl
theorem own_d12_0 : decode method_8_code 0 = .ok (.lload_n 2, 1) := by decide +kernel
theorem own_d12_1 : decode method_8_code 1 = .ok (.iload_n 1, 1) := by decide +kernel
theorem own_d12_2 : decode method_8_code 2 = .ok (.i2l, 1) := by decide +kernel
theorem own_d12_3 : decode method_8_code 3 = .ok (.ladd, 1) := by decide +kernel
theorem own_d12_4 : decode method_8_code 4 = .ok (.aload 4, 2) := by decide +kernel
theorem own_d12_6 : decode method_8_code 6 = .ok (.iconst 0, 1) := by decide +kernel
theorem own_d12_7 : decode method_8_code 7 = .ok (.iaload, 1) := by decide +kernel
theorem own_d12_8 : decode method_8_code 8 = .ok (.iload_n 1, 1) := by decide +kernel
theorem own_d12_9 : decode method_8_code 9 = .ok (.aload 5, 2) := by decide +kernel
theorem own_d12_11 : decode method_8_code 11 = .ok (.invokestatic 63, 3) := by decide +kernel
theorem own_pd9 : parseMethodDescriptor "(II[I)J" = some ⟨[.int, .int, (.array .int)], some .long⟩ := by decide +kernel
theorem own_d12_14 : decode method_8_code 14 = .ok (.ladd, 1) := by decide +kernel
theorem own_d12_15 : decode method_8_code 15 = .ok (.aload 4, 2) := by decide +kernel
theorem own_d12_17 : decode method_8_code 17 = .ok (.iconst 1, 1) := by decide +kernel
theorem own_d12_18 : decode method_8_code 18 = .ok (.iaload, 1) := by decide +kernel
theorem own_d12_19 : decode method_8_code 19 = .ok (.iload_n 1, 1) := by decide +kernel
theorem own_d12_20 : decode method_8_code 20 = .ok (.aload 5, 2) := by decide +kernel
theorem own_d12_22 : decode method_8_code 22 = .ok (.invokestatic 63, 3) := by decide +kernel
theorem own_d12_25 : decode method_8_code 25 = .ok (.ladd, 1) := by decide +kernel
theorem own_d12_26 : decode method_8_code 26 = .ok (.aload 4, 2) := by decide +kernel
theorem own_d12_28 : decode method_8_code 28 = .ok (.iconst 2, 1) := by decide +kernel
theorem own_d12_29 : decode method_8_code 29 = .ok (.iaload, 1) := by decide +kernel
theorem own_d12_30 : decode method_8_code 30 = .ok (.iload_n 1, 1) := by decide +kernel
theorem own_d12_31 : decode method_8_code 31 = .ok (.aload 5, 2) := by decide +kernel
theorem own_d12_33 : decode method_8_code 33 = .ok (.invokestatic 63, 3) := by decide +kernel
theorem own_d12_36 : decode method_8_code 36 = .ok (.ladd, 1) := by decide +kernel
theorem own_d12_37 : decode method_8_code 37 = .ok (.aload 4, 2) := by decide +kernel
theorem own_d12_39 : decode method_8_code 39 = .ok (.iconst 3, 1) := by decide +kernel
theorem own_d12_40 : decode method_8_code 40 = .ok (.iaload, 1) := by decide +kernel
theorem own_d12_41 : decode method_8_code 41 = .ok (.iload_n 1, 1) := by decide +kernel
theorem own_d12_42 : decode method_8_code 42 = .ok (.aload 5, 2) := by decide +kernel
theorem own_d12_44 : decode method_8_code 44 = .ok (.invokestatic 63, 3) := by decide +kernel
theorem own_d12_47 : decode method_8_code 47 = .ok (.ladd, 1) := by decide +kernel
theorem own_d12_48 : decode method_8_code 48 = .ok (.lstore 6, 2) := by decide +kernel
theorem own_d12_50 : decode method_8_code 50 = .ok (.aload_n 0, 1) := by decide +kernel
theorem own_d12_51 : decode method_8_code 51 = .ok (.iload_n 1, 1) := by decide +kernel
theorem own_d12_52 : decode method_8_code 52 = .ok (.laload, 1) := by decide +kernel
theorem own_d12_53 : decode method_8_code 53 = .ok (.lload 6, 2) := by decide +kernel
theorem own_d12_55 : decode method_8_code 55 = .ok (.lcmp, 1) := by decide +kernel
theorem own_d12_56 : decode method_8_code 56 = .ok (.ifCond .ne 7, 3) := by decide +kernel
theorem own_d12_59 : decode method_8_code 59 = .ok (.iconst 1, 1) := by decide +kernel
theorem own_d12_60 : decode method_8_code 60 = .ok (.goto 4, 3) := by decide +kernel
theorem own_d12_64 : decode method_8_code 64 = .ok (.ireturn, 1) := by decide +kernel
def Q_rmCell (Z : State) (a1 : Addr) (p2 : Int32) (q3 : Int64) (a4 a5 : Addr) (k3 : ClassId) (x0 x1 x2 : Int32) (k1 k4 : ClassId) (cl : List Int64) (y0 y1 y2 y3 : Int32) (h0 : Heap) (n0 : Nat) (v : Option Value) (h : Heap) (L : List Loc) : Prop := v = some (.int (1 : Int32)) ∧ Fr n0 L ∧ h = h0
set_option maxRecDepth 65536 in
set_option maxHeartbeats 40000000 in
theorem rmCell (l : Launch) (Z : State) (a0 : Array Value) (hw : ∀ d ∈ tables_1, d.before a0 Z = true) (ws : List Jvm.Cond) (a1 : Addr) (p2 : Int32) (q3 : Int64) (a4 a5 : Addr) (k3 : ClassId) (x0 x1 x2 : Int32) (k1 k4 : ClassId) (cl : List Int64) (y0 y1 y2 y3 : Int32) (h0 : Heap) (n0 : Nat) (Z0 : n0 ≤ h0.size) (Va : Arv Z h0 a5 k3 .int (3 : Int32) [Value.int x0, Value.int x1, Value.int x2] (.int (0 : Int32))) (z0 : ¬ x0 = (0 : Int32)) (z1 : ¬ x1 = (0 : Int32)) (z2 : ¬ x2 = (0 : Int32)) (Vc : Arv Z h0 a1 k1 .long (12 : Int32) (cl.map Value.long) (.long (0 : Int64))) (Ve : Arv Z h0 a4 k4 .int (4 : Int32) [Value.int y0, Value.int y1, Value.int y2, Value.int y3] (.int (0 : Int32))) (hi : ¬ p2 < (0 : Int32) ∧ p2 < (12 : Int32)) (hv : cl.getD p2.toNatClampNeg 0 = ((((q3 + p2.toInt64) + own_hit y0 p2 x0 x1 x2) + own_hit y1 p2 x0 x1 x2) + own_hit y2 p2 x0 x1 x2) + own_hit y3 p2 x0 x1 x2) :
    MetFree l (⟨"com/example/terse_graph/tersegraph/PrefixWriterCountIntoPinLaw", "cell", "([JIJ[I[I)Z"⟩ : MethodName) (head1 (Jvm.Cond.code (⟨"com/example/terse_graph/tersegraph/PrefixWriterCountIntoPinLaw", "cell", "([JIJ[I[I)Z"⟩ : MethodName) method_8_code 8 (some .boolean) :: ws) ({ frames := 3, cells := 0, slots := 0, locals := 44 } : Room)) (fun a U => a = #[(.ref a1), (.int p2), (.long q3), (.ref a4), (.ref a5)] ∧ Z.Warmed39 U.vm ∧ U.heap = h0) (fun _ _ _ _ _ => True) (fun _ U o U' => ∃ v L, o = .returned v ∧ Q_rmCell Z a1 p2 q3 a4 a5 k3 x0 x1 x2 k1 k4 cl y0 y1 y2 y3 h0 n0 v U'.heap L ∧ FrameEnd U o U' L ({ frames := 3, cells := 0, slots := 0, locals := 44 } : Room).cells ({ frames := 3, cells := 0, slots := 0, locals := 44 } : Room).slots) := by
  refine MetFree.of_bodySF (plainFor_of_name own_pn3) hisR ?_
  intro p e s m args below meth c s₁ Bd hml0 hP hK
  obtain ⟨rfl, hZ, hh⟩ := hP
  have hx := Bd.exec
  have hby := Bd.bytes
  have hml : c.maxLocals = 8 := hml0
  have hown : s.vm.findClass "com/example/terse_graph/tersegraph/PrefixWriterCountIntoPinLaw" = some m.cls := findClass_of_methodNamed Bd.named
  have hnm := (name_of_methodNamed Bd.named Bd.method).1
  have X0 : Stand p l e ({ frames := 3, cells := 0, slots := 0, locals := 44 } : Room) s m #[(.ref a1), (.int p2), (.long q3), (.ref a4), (.ref a5)] below meth c s₁ [] 0 0 := Stand.of_body Bd
  have e0 : s₁.heap = h0 := by rw [← hh, Bd.state]; rfl
  have N0 := Fr.nil n0
  have R0 : ∀ t, Steps p.tables e below (s₁.setTop (mkF m 0 #[.val (.ref a1), .val (.int p2), .val (.long q3), .second, .val (.ref a4), .val (.ref a5), .unset, .unset] [])) t → Steps p.tables e below (s₁.setTop (entryFrame m #[(.ref a1), (.int p2), (.long q3), (.ref a4), (.ref a5)] 8)) t := fun t k => castTop (own_ef_rmCell m a1 p2 q3 a4 a5) k
  have R1 : ∀ t, Steps p.tables e below (s₁.setTop (mkF m 7 #[.val (.ref a1), .val (.int p2), .val (.long q3), .second, .val (.ref a4), .val (.ref a5), .unset, .unset] [(.int (0 : Int32)), (.ref a4), (.long (q3 + (p2.toInt64)))])) t → Steps p.tables e below (s₁.setTop (entryFrame m #[(.ref a1), (.int p2), (.long q3), (.ref a4), (.ref a5)] 8)) t := by
    intro t k
    refine R0 t ?_
    show Steps p.tables e below (s₁.setTop (mkF m 0 #[.val (.ref a1), .val (.int p2), .val (.long q3), .second, .val (.ref a4), .val (.ref a5), .unset, .unset] [])) _
    refine XS.lloadN X0.here hx rfl (hb hby own_d12_0) rfl ?_
    show Steps p.tables e below (s₁.setTop (mkF m 1 #[.val (.ref a1), .val (.int p2), .val (.long q3), .second, .val (.ref a4), .val (.ref a5), .unset, .unset] [(.long q3)])) _
    refine XS.iloadN X0.here hx rfl (hb hby own_d12_1) rfl ?_
    show Steps p.tables e below (s₁.setTop (mkF m 2 #[.val (.ref a1), .val (.int p2), .val (.long q3), .second, .val (.ref a4), .val (.ref a5), .unset, .unset] [(.int p2), (.long q3)])) _
    refine XS.i2l X0.here hx rfl (hb hby own_d12_2) rfl ?_
    show Steps p.tables e below (s₁.setTop (mkF m 3 #[.val (.ref a1), .val (.int p2), .val (.long q3), .second, .val (.ref a4), .val (.ref a5), .unset, .unset] [(.long (p2.toInt64)), (.long q3)])) _
    refine XS.ladd X0.here hx rfl (hb hby own_d12_3) rfl ?_
    show Steps p.tables e below (s₁.setTop (mkF m 4 #[.val (.ref a1), .val (.int p2), .val (.long q3), .second, .val (.ref a4), .val (.ref a5), .unset, .unset] [(.long (q3 + (p2.toInt64)))])) _
    refine XS.aload X0.here hx rfl (hb hby own_d12_4) rfl rfl ?_
    show Steps p.tables e below (s₁.setTop (mkF m 6 #[.val (.ref a1), .val (.int p2), .val (.long q3), .second, .val (.ref a4), .val (.ref a5), .unset, .unset] [(.ref a4), (.long (q3 + (p2.toInt64)))])) _
    refine XS.iconst X0.here hx rfl (hb hby own_d12_6) ?_
    exact k
  obtain ⟨cl2, Ar2, q2, S2, N2', H2, G2⟩ := id Ve
  have hin2_0 : ¬ ((0 : Int32) < 0 ∨ cl2.slots.size ≤ ((0 : Int32)).toNatClampNeg) := inb_of S2 ⟨by decide, by decide⟩
  have hat2_0 : cl2.slots[((0 : Int32)).toNatClampNeg]? = some (.int y0) := H2.at hin2_0 rfl
  have R3 : ∀ t, Steps p.tables e below (s₁.setTop (mkF m 11 #[.val (.ref a1), .val (.int p2), .val (.long q3), .second, .val (.ref a4), .val (.ref a5), .unset, .unset] [(.ref a5), (.int p2), (.int y0), (.long (q3 + (p2.toInt64)))])) t → Steps p.tables e below (s₁.setTop (entryFrame m #[(.ref a1), (.int p2), (.long q3), (.ref a4), (.ref a5)] 8)) t := by
    intro t k
    refine R1 t ?_
    show Steps p.tables e below (s₁.setTop (mkF m 7 #[.val (.ref a1), .val (.int p2), .val (.long q3), .second, .val (.ref a4), .val (.ref a5), .unset, .unset] [(.int (0 : Int32)), (.ref a4), (.long (q3 + (p2.toInt64)))])) _
    refine X0.iaload hx (j := (0 : Int32)) (v := (.int y0)) (by rw [e0]; exact Ar2.1) (State.isArrayOf_alike hZ.alike Ar2.2.1) Ar2.2.2 hin2_0 hat2_0 (g := (mkF m 7 #[.val (.ref a1), .val (.int p2), .val (.long q3), .second, .val (.ref a4), .val (.ref a5), .unset, .unset] [(.int (0 : Int32)), (.ref a4), (.long (q3 + (p2.toInt64)))])) rfl rfl (hb hby own_d12_7) _ ?_
    show Steps p.tables e below (s₁.setTop (mkF m 8 #[.val (.ref a1), .val (.int p2), .val (.long q3), .second, .val (.ref a4), .val (.ref a5), .unset, .unset] [(.int y0), (.long (q3 + (p2.toInt64)))])) _
    refine XS.iloadN X0.here hx rfl (hb hby own_d12_8) rfl ?_
    show Steps p.tables e below (s₁.setTop (mkF m 9 #[.val (.ref a1), .val (.int p2), .val (.long q3), .second, .val (.ref a4), .val (.ref a5), .unset, .unset] [(.int p2), (.int y0), (.long (q3 + (p2.toInt64)))])) _
    refine XS.aload X0.here hx rfl (hb hby own_d12_9) rfl rfl ?_
    exact k
  obtain ⟨_, _, ⟨T4, L4, k4, n4⟩, -, X4, ⟨Lc4, hQ4, l4, y4, z4⟩, st4⟩ := Jvm.LawKit.callS X0 hx (y := (⟨"com/example/terse_graph/tersegraph/PrefixWriterCountIntoPinLaw", "hit", "(II[I)J"⟩ : MethodName)) hown (mvT hZ (hw _ (List.mem_of_getElem? (i := 78) rfl))) (mvT hZ (hw _ (List.mem_of_getElem? (i := 79) rfl))) (mvT hZ (hw _ (List.mem_of_getElem? (i := 49) rfl))) (mvT hZ (hw _ (List.mem_of_getElem? (i := 80) rfl))) (by decide) (backOf (W := 2) (rmHit l Z a0 hw [] y0 p2 a5 k3 x0 x1 x2 h0 n0 Z0 Va z0 z1 z2) hZ (hw _ (List.mem_of_getElem? (i := 80) rfl)) (hw _ (List.mem_of_getElem? (i := 49) rfl)) (by decide) (by decide)) (g := (mkF m 11 #[.val (.ref a1), .val (.int p2), .val (.long q3), .second, .val (.ref a4), .val (.ref a5), .unset, .unset] [(.ref a5), (.int p2), (.int y0), (.long (q3 + (p2.toInt64)))])) rfl (by rw [hml]; rfl) (argsL := [(.int y0), (.int p2), (.ref a5)]) (rest := [(.long (q3 + (p2.toInt64)))]) (lenOf own_pd9 rfl) rfl (by show 2 * 0 + _ ≤ _; exact Nat.le_of_eq rfl) (hb hby own_d12_11) (fun _ _ => ⟨rfl, e0, (by decide : 0 + 0 ≤ _), (by decide : 0 + 0 ≤ _)⟩)
  dsimp only [Pt.U, Pt.locs, Pt.cells, Pt.slots] at X4 l4 y4 z4 st4 hQ4
  subst l4 y4 z4
  obtain ⟨rfl, Nq4, eq4⟩ := hQ4
  have N4 := Fr.app N0 Nq4
  have R4 : ∀ t, Steps p.tables e below (T4.setTop (mkF m 14 #[.val (.ref a1), .val (.int p2), .val (.long q3), .second, .val (.ref a4), .val (.ref a5), .unset, .unset] [(.long (own_hit y0 p2 x0 x1 x2)), (.long (q3 + (p2.toInt64)))])) t → Steps p.tables e below (s₁.setTop (entryFrame m #[(.ref a1), (.int p2), (.long q3), (.ref a4), (.ref a5)] 8)) t := fun t k => R3 t (st4 t k)
  have R5 : ∀ t, Steps p.tables e below (T4.setTop (mkF m 18 #[.val (.ref a1), .val (.int p2), .val (.long q3), .second, .val (.ref a4), .val (.ref a5), .unset, .unset] [(.int (1 : Int32)), (.ref a4), (.long ((q3 + (p2.toInt64)) + (own_hit y0 p2 x0 x1 x2)))])) t → Steps p.tables e below (s₁.setTop (entryFrame m #[(.ref a1), (.int p2), (.long q3), (.ref a4), (.ref a5)] 8)) t := by
    intro t k
    refine R4 t ?_
    show Steps p.tables e below (T4.setTop (mkF m 14 #[.val (.ref a1), .val (.int p2), .val (.long q3), .second, .val (.ref a4), .val (.ref a5), .unset, .unset] [(.long (own_hit y0 p2 x0 x1 x2)), (.long (q3 + (p2.toInt64)))])) _
    refine XS.ladd X4.here hx rfl (hb hby own_d12_14) rfl ?_
    show Steps p.tables e below (T4.setTop (mkF m 15 #[.val (.ref a1), .val (.int p2), .val (.long q3), .second, .val (.ref a4), .val (.ref a5), .unset, .unset] [(.long ((q3 + (p2.toInt64)) + (own_hit y0 p2 x0 x1 x2)))])) _
    refine XS.aload X4.here hx rfl (hb hby own_d12_15) rfl rfl ?_
    show Steps p.tables e below (T4.setTop (mkF m 17 #[.val (.ref a1), .val (.int p2), .val (.long q3), .second, .val (.ref a4), .val (.ref a5), .unset, .unset] [(.ref a4), (.long ((q3 + (p2.toInt64)) + (own_hit y0 p2 x0 x1 x2)))])) _
    refine XS.iconst X4.here hx rfl (hb hby own_d12_17) ?_
    exact k
  have hin2_1 : ¬ ((1 : Int32) < 0 ∨ cl2.slots.size ≤ ((1 : Int32)).toNatClampNeg) := inb_of S2 ⟨by decide, by decide⟩
  have hat2_1 : cl2.slots[((1 : Int32)).toNatClampNeg]? = some (.int y1) := H2.at hin2_1 rfl
  have R6 : ∀ t, Steps p.tables e below (T4.setTop (mkF m 22 #[.val (.ref a1), .val (.int p2), .val (.long q3), .second, .val (.ref a4), .val (.ref a5), .unset, .unset] [(.ref a5), (.int p2), (.int y1), (.long ((q3 + (p2.toInt64)) + (own_hit y0 p2 x0 x1 x2)))])) t → Steps p.tables e below (s₁.setTop (entryFrame m #[(.ref a1), (.int p2), (.long q3), (.ref a4), (.ref a5)] 8)) t := by
    intro t k
    refine R5 t ?_
    show Steps p.tables e below (T4.setTop (mkF m 18 #[.val (.ref a1), .val (.int p2), .val (.long q3), .second, .val (.ref a4), .val (.ref a5), .unset, .unset] [(.int (1 : Int32)), (.ref a4), (.long ((q3 + (p2.toInt64)) + (own_hit y0 p2 x0 x1 x2)))])) _
    refine X4.iaload hx (j := (1 : Int32)) (v := (.int y1)) (by rw [eq4]; exact Ar2.1) (State.isArrayOf_alike hZ.alike Ar2.2.1) Ar2.2.2 hin2_1 hat2_1 (g := (mkF m 18 #[.val (.ref a1), .val (.int p2), .val (.long q3), .second, .val (.ref a4), .val (.ref a5), .unset, .unset] [(.int (1 : Int32)), (.ref a4), (.long ((q3 + (p2.toInt64)) + (own_hit y0 p2 x0 x1 x2)))])) rfl rfl (hb hby own_d12_18) _ ?_
    show Steps p.tables e below (T4.setTop (mkF m 19 #[.val (.ref a1), .val (.int p2), .val (.long q3), .second, .val (.ref a4), .val (.ref a5), .unset, .unset] [(.int y1), (.long ((q3 + (p2.toInt64)) + (own_hit y0 p2 x0 x1 x2)))])) _
    refine XS.iloadN X4.here hx rfl (hb hby own_d12_19) rfl ?_
    show Steps p.tables e below (T4.setTop (mkF m 20 #[.val (.ref a1), .val (.int p2), .val (.long q3), .second, .val (.ref a4), .val (.ref a5), .unset, .unset] [(.int p2), (.int y1), (.long ((q3 + (p2.toInt64)) + (own_hit y0 p2 x0 x1 x2)))])) _
    refine XS.aload X4.here hx rfl (hb hby own_d12_20) rfl rfl ?_
    exact k
  obtain ⟨_, _, ⟨T7, L7, k7, n7⟩, -, X7, ⟨Lc7, hQ7, l7, y7, z7⟩, st7⟩ := Jvm.LawKit.callS X4 hx (y := (⟨"com/example/terse_graph/tersegraph/PrefixWriterCountIntoPinLaw", "hit", "(II[I)J"⟩ : MethodName)) hown (mvT hZ (hw _ (List.mem_of_getElem? (i := 78) rfl))) (mvT hZ (hw _ (List.mem_of_getElem? (i := 79) rfl))) (mvT hZ (hw _ (List.mem_of_getElem? (i := 49) rfl))) (mvT hZ (hw _ (List.mem_of_getElem? (i := 80) rfl))) (by decide) (backOf (W := 2) (rmHit l Z a0 hw [] y1 p2 a5 k3 x0 x1 x2 h0 n0 Z0 Va z0 z1 z2) hZ (hw _ (List.mem_of_getElem? (i := 80) rfl)) (hw _ (List.mem_of_getElem? (i := 49) rfl)) (by decide) (by decide)) (g := (mkF m 22 #[.val (.ref a1), .val (.int p2), .val (.long q3), .second, .val (.ref a4), .val (.ref a5), .unset, .unset] [(.ref a5), (.int p2), (.int y1), (.long ((q3 + (p2.toInt64)) + (own_hit y0 p2 x0 x1 x2)))])) rfl (by rw [hml]; rfl) (argsL := [(.int y1), (.int p2), (.ref a5)]) (rest := [(.long ((q3 + (p2.toInt64)) + (own_hit y0 p2 x0 x1 x2)))]) (lenOf own_pd9 rfl) rfl (by show 2 * 0 + _ ≤ _; exact Nat.le_of_eq rfl) (hb hby own_d12_22) (fun _ _ => ⟨rfl, eq4, (by decide : 0 + 0 ≤ _), (by decide : 0 + 0 ≤ _)⟩)
  dsimp only [Pt.U, Pt.locs, Pt.cells, Pt.slots] at X7 l7 y7 z7 st7 hQ7
  subst l7 y7 z7
  obtain ⟨rfl, Nq7, eq7⟩ := hQ7
  have N7 := Fr.app N4 Nq7
  have R7 : ∀ t, Steps p.tables e below (T7.setTop (mkF m 25 #[.val (.ref a1), .val (.int p2), .val (.long q3), .second, .val (.ref a4), .val (.ref a5), .unset, .unset] [(.long (own_hit y1 p2 x0 x1 x2)), (.long ((q3 + (p2.toInt64)) + (own_hit y0 p2 x0 x1 x2)))])) t → Steps p.tables e below (s₁.setTop (entryFrame m #[(.ref a1), (.int p2), (.long q3), (.ref a4), (.ref a5)] 8)) t := fun t k => R6 t (st7 t k)
  have R8 : ∀ t, Steps p.tables e below (T7.setTop (mkF m 29 #[.val (.ref a1), .val (.int p2), .val (.long q3), .second, .val (.ref a4), .val (.ref a5), .unset, .unset] [(.int (2 : Int32)), (.ref a4), (.long (((q3 + (p2.toInt64)) + (own_hit y0 p2 x0 x1 x2)) + (own_hit y1 p2 x0 x1 x2)))])) t → Steps p.tables e below (s₁.setTop (entryFrame m #[(.ref a1), (.int p2), (.long q3), (.ref a4), (.ref a5)] 8)) t := by
    intro t k
    refine R7 t ?_
    show Steps p.tables e below (T7.setTop (mkF m 25 #[.val (.ref a1), .val (.int p2), .val (.long q3), .second, .val (.ref a4), .val (.ref a5), .unset, .unset] [(.long (own_hit y1 p2 x0 x1 x2)), (.long ((q3 + (p2.toInt64)) + (own_hit y0 p2 x0 x1 x2)))])) _
    refine XS.ladd X7.here hx rfl (hb hby own_d12_25) rfl ?_
    show Steps p.tables e below (T7.setTop (mkF m 26 #[.val (.ref a1), .val (.int p2), .val (.long q3), .second, .val (.ref a4), .val (.ref a5), .unset, .unset] [(.long (((q3 + (p2.toInt64)) + (own_hit y0 p2 x0 x1 x2)) + (own_hit y1 p2 x0 x1 x2)))])) _
    refine XS.aload X7.here hx rfl (hb hby own_d12_26) rfl rfl ?_
    show Steps p.tables e below (T7.setTop (mkF m 28 #[.val (.ref a1), .val (.int p2), .val (.long q3), .second, .val (.ref a4), .val (.ref a5), .unset, .unset] [(.ref a4), (.long (((q3 + (p2.toInt64)) + (own_hit y0 p2 x0 x1 x2)) + (own_hit y1 p2 x0 x1 x2)))])) _
    refine XS.iconst X7.here hx rfl (hb hby own_d12_28) ?_
    exact k
  have hin2_2 : ¬ ((2 : Int32) < 0 ∨ cl2.slots.size ≤ ((2 : Int32)).toNatClampNeg) := inb_of S2 ⟨by decide, by decide⟩
  have hat2_2 : cl2.slots[((2 : Int32)).toNatClampNeg]? = some (.int y2) := H2.at hin2_2 rfl
  have R9 : ∀ t, Steps p.tables e below (T7.setTop (mkF m 33 #[.val (.ref a1), .val (.int p2), .val (.long q3), .second, .val (.ref a4), .val (.ref a5), .unset, .unset] [(.ref a5), (.int p2), (.int y2), (.long (((q3 + (p2.toInt64)) + (own_hit y0 p2 x0 x1 x2)) + (own_hit y1 p2 x0 x1 x2)))])) t → Steps p.tables e below (s₁.setTop (entryFrame m #[(.ref a1), (.int p2), (.long q3), (.ref a4), (.ref a5)] 8)) t := by
    intro t k
    refine R8 t ?_
    show Steps p.tables e below (T7.setTop (mkF m 29 #[.val (.ref a1), .val (.int p2), .val (.long q3), .second, .val (.ref a4), .val (.ref a5), .unset, .unset] [(.int (2 : Int32)), (.ref a4), (.long (((q3 + (p2.toInt64)) + (own_hit y0 p2 x0 x1 x2)) + (own_hit y1 p2 x0 x1 x2)))])) _
    refine X7.iaload hx (j := (2 : Int32)) (v := (.int y2)) (by rw [eq7]; exact Ar2.1) (State.isArrayOf_alike hZ.alike Ar2.2.1) Ar2.2.2 hin2_2 hat2_2 (g := (mkF m 29 #[.val (.ref a1), .val (.int p2), .val (.long q3), .second, .val (.ref a4), .val (.ref a5), .unset, .unset] [(.int (2 : Int32)), (.ref a4), (.long (((q3 + (p2.toInt64)) + (own_hit y0 p2 x0 x1 x2)) + (own_hit y1 p2 x0 x1 x2)))])) rfl rfl (hb hby own_d12_29) _ ?_
    show Steps p.tables e below (T7.setTop (mkF m 30 #[.val (.ref a1), .val (.int p2), .val (.long q3), .second, .val (.ref a4), .val (.ref a5), .unset, .unset] [(.int y2), (.long (((q3 + (p2.toInt64)) + (own_hit y0 p2 x0 x1 x2)) + (own_hit y1 p2 x0 x1 x2)))])) _
    refine XS.iloadN X7.here hx rfl (hb hby own_d12_30) rfl ?_
    show Steps p.tables e below (T7.setTop (mkF m 31 #[.val (.ref a1), .val (.int p2), .val (.long q3), .second, .val (.ref a4), .val (.ref a5), .unset, .unset] [(.int p2), (.int y2), (.long (((q3 + (p2.toInt64)) + (own_hit y0 p2 x0 x1 x2)) + (own_hit y1 p2 x0 x1 x2)))])) _
    refine XS.aload X7.here hx rfl (hb hby own_d12_31) rfl rfl ?_
    exact k
  obtain ⟨_, _, ⟨T10, L10, k10, n10⟩, -, X10, ⟨Lc10, hQ10, l10, y10, z10⟩, st10⟩ := Jvm.LawKit.callS X7 hx (y := (⟨"com/example/terse_graph/tersegraph/PrefixWriterCountIntoPinLaw", "hit", "(II[I)J"⟩ : MethodName)) hown (mvT hZ (hw _ (List.mem_of_getElem? (i := 78) rfl))) (mvT hZ (hw _ (List.mem_of_getElem? (i := 79) rfl))) (mvT hZ (hw _ (List.mem_of_getElem? (i := 49) rfl))) (mvT hZ (hw _ (List.mem_of_getElem? (i := 80) rfl))) (by decide) (backOf (W := 2) (rmHit l Z a0 hw [] y2 p2 a5 k3 x0 x1 x2 h0 n0 Z0 Va z0 z1 z2) hZ (hw _ (List.mem_of_getElem? (i := 80) rfl)) (hw _ (List.mem_of_getElem? (i := 49) rfl)) (by decide) (by decide)) (g := (mkF m 33 #[.val (.ref a1), .val (.int p2), .val (.long q3), .second, .val (.ref a4), .val (.ref a5), .unset, .unset] [(.ref a5), (.int p2), (.int y2), (.long (((q3 + (p2.toInt64)) + (own_hit y0 p2 x0 x1 x2)) + (own_hit y1 p2 x0 x1 x2)))])) rfl (by rw [hml]; rfl) (argsL := [(.int y2), (.int p2), (.ref a5)]) (rest := [(.long (((q3 + (p2.toInt64)) + (own_hit y0 p2 x0 x1 x2)) + (own_hit y1 p2 x0 x1 x2)))]) (lenOf own_pd9 rfl) rfl (by show 2 * 0 + _ ≤ _; exact Nat.le_of_eq rfl) (hb hby own_d12_33) (fun _ _ => ⟨rfl, eq7, (by decide : 0 + 0 ≤ _), (by decide : 0 + 0 ≤ _)⟩)
  dsimp only [Pt.U, Pt.locs, Pt.cells, Pt.slots] at X10 l10 y10 z10 st10 hQ10
  subst l10 y10 z10
  obtain ⟨rfl, Nq10, eq10⟩ := hQ10
  have N10 := Fr.app N7 Nq10
  have R10 : ∀ t, Steps p.tables e below (T10.setTop (mkF m 36 #[.val (.ref a1), .val (.int p2), .val (.long q3), .second, .val (.ref a4), .val (.ref a5), .unset, .unset] [(.long (own_hit y2 p2 x0 x1 x2)), (.long (((q3 + (p2.toInt64)) + (own_hit y0 p2 x0 x1 x2)) + (own_hit y1 p2 x0 x1 x2)))])) t → Steps p.tables e below (s₁.setTop (entryFrame m #[(.ref a1), (.int p2), (.long q3), (.ref a4), (.ref a5)] 8)) t := fun t k => R9 t (st10 t k)
  have R11 : ∀ t, Steps p.tables e below (T10.setTop (mkF m 40 #[.val (.ref a1), .val (.int p2), .val (.long q3), .second, .val (.ref a4), .val (.ref a5), .unset, .unset] [(.int (3 : Int32)), (.ref a4), (.long ((((q3 + (p2.toInt64)) + (own_hit y0 p2 x0 x1 x2)) + (own_hit y1 p2 x0 x1 x2)) + (own_hit y2 p2 x0 x1 x2)))])) t → Steps p.tables e below (s₁.setTop (entryFrame m #[(.ref a1), (.int p2), (.long q3), (.ref a4), (.ref a5)] 8)) t := by
    intro t k
    refine R10 t ?_
    show Steps p.tables e below (T10.setTop (mkF m 36 #[.val (.ref a1), .val (.int p2), .val (.long q3), .second, .val (.ref a4), .val (.ref a5), .unset, .unset] [(.long (own_hit y2 p2 x0 x1 x2)), (.long (((q3 + (p2.toInt64)) + (own_hit y0 p2 x0 x1 x2)) + (own_hit y1 p2 x0 x1 x2)))])) _
    refine XS.ladd X10.here hx rfl (hb hby own_d12_36) rfl ?_
    show Steps p.tables e below (T10.setTop (mkF m 37 #[.val (.ref a1), .val (.int p2), .val (.long q3), .second, .val (.ref a4), .val (.ref a5), .unset, .unset] [(.long ((((q3 + (p2.toInt64)) + (own_hit y0 p2 x0 x1 x2)) + (own_hit y1 p2 x0 x1 x2)) + (own_hit y2 p2 x0 x1 x2)))])) _
    refine XS.aload X10.here hx rfl (hb hby own_d12_37) rfl rfl ?_
    show Steps p.tables e below (T10.setTop (mkF m 39 #[.val (.ref a1), .val (.int p2), .val (.long q3), .second, .val (.ref a4), .val (.ref a5), .unset, .unset] [(.ref a4), (.long ((((q3 + (p2.toInt64)) + (own_hit y0 p2 x0 x1 x2)) + (own_hit y1 p2 x0 x1 x2)) + (own_hit y2 p2 x0 x1 x2)))])) _
    refine XS.iconst X10.here hx rfl (hb hby own_d12_39) ?_
    exact k
  have hin2_3 : ¬ ((3 : Int32) < 0 ∨ cl2.slots.size ≤ ((3 : Int32)).toNatClampNeg) := inb_of S2 ⟨by decide, by decide⟩
  have hat2_3 : cl2.slots[((3 : Int32)).toNatClampNeg]? = some (.int y3) := H2.at hin2_3 rfl
  have R12 : ∀ t, Steps p.tables e below (T10.setTop (mkF m 44 #[.val (.ref a1), .val (.int p2), .val (.long q3), .second, .val (.ref a4), .val (.ref a5), .unset, .unset] [(.ref a5), (.int p2), (.int y3), (.long ((((q3 + (p2.toInt64)) + (own_hit y0 p2 x0 x1 x2)) + (own_hit y1 p2 x0 x1 x2)) + (own_hit y2 p2 x0 x1 x2)))])) t → Steps p.tables e below (s₁.setTop (entryFrame m #[(.ref a1), (.int p2), (.long q3), (.ref a4), (.ref a5)] 8)) t := by
    intro t k
    refine R11 t ?_
    show Steps p.tables e below (T10.setTop (mkF m 40 #[.val (.ref a1), .val (.int p2), .val (.long q3), .second, .val (.ref a4), .val (.ref a5), .unset, .unset] [(.int (3 : Int32)), (.ref a4), (.long ((((q3 + (p2.toInt64)) + (own_hit y0 p2 x0 x1 x2)) + (own_hit y1 p2 x0 x1 x2)) + (own_hit y2 p2 x0 x1 x2)))])) _
    refine X10.iaload hx (j := (3 : Int32)) (v := (.int y3)) (by rw [eq10]; exact Ar2.1) (State.isArrayOf_alike hZ.alike Ar2.2.1) Ar2.2.2 hin2_3 hat2_3 (g := (mkF m 40 #[.val (.ref a1), .val (.int p2), .val (.long q3), .second, .val (.ref a4), .val (.ref a5), .unset, .unset] [(.int (3 : Int32)), (.ref a4), (.long ((((q3 + (p2.toInt64)) + (own_hit y0 p2 x0 x1 x2)) + (own_hit y1 p2 x0 x1 x2)) + (own_hit y2 p2 x0 x1 x2)))])) rfl rfl (hb hby own_d12_40) _ ?_
    show Steps p.tables e below (T10.setTop (mkF m 41 #[.val (.ref a1), .val (.int p2), .val (.long q3), .second, .val (.ref a4), .val (.ref a5), .unset, .unset] [(.int y3), (.long ((((q3 + (p2.toInt64)) + (own_hit y0 p2 x0 x1 x2)) + (own_hit y1 p2 x0 x1 x2)) + (own_hit y2 p2 x0 x1 x2)))])) _
    refine XS.iloadN X10.here hx rfl (hb hby own_d12_41) rfl ?_
    show Steps p.tables e below (T10.setTop (mkF m 42 #[.val (.ref a1), .val (.int p2), .val (.long q3), .second, .val (.ref a4), .val (.ref a5), .unset, .unset] [(.int p2), (.int y3), (.long ((((q3 + (p2.toInt64)) + (own_hit y0 p2 x0 x1 x2)) + (own_hit y1 p2 x0 x1 x2)) + (own_hit y2 p2 x0 x1 x2)))])) _
    refine XS.aload X10.here hx rfl (hb hby own_d12_42) rfl rfl ?_
    exact k
  obtain ⟨_, _, ⟨T13, L13, k13, n13⟩, -, X13, ⟨Lc13, hQ13, l13, y13, z13⟩, st13⟩ := Jvm.LawKit.callS X10 hx (y := (⟨"com/example/terse_graph/tersegraph/PrefixWriterCountIntoPinLaw", "hit", "(II[I)J"⟩ : MethodName)) hown (mvT hZ (hw _ (List.mem_of_getElem? (i := 78) rfl))) (mvT hZ (hw _ (List.mem_of_getElem? (i := 79) rfl))) (mvT hZ (hw _ (List.mem_of_getElem? (i := 49) rfl))) (mvT hZ (hw _ (List.mem_of_getElem? (i := 80) rfl))) (by decide) (backOf (W := 2) (rmHit l Z a0 hw [] y3 p2 a5 k3 x0 x1 x2 h0 n0 Z0 Va z0 z1 z2) hZ (hw _ (List.mem_of_getElem? (i := 80) rfl)) (hw _ (List.mem_of_getElem? (i := 49) rfl)) (by decide) (by decide)) (g := (mkF m 44 #[.val (.ref a1), .val (.int p2), .val (.long q3), .second, .val (.ref a4), .val (.ref a5), .unset, .unset] [(.ref a5), (.int p2), (.int y3), (.long ((((q3 + (p2.toInt64)) + (own_hit y0 p2 x0 x1 x2)) + (own_hit y1 p2 x0 x1 x2)) + (own_hit y2 p2 x0 x1 x2)))])) rfl (by rw [hml]; rfl) (argsL := [(.int y3), (.int p2), (.ref a5)]) (rest := [(.long ((((q3 + (p2.toInt64)) + (own_hit y0 p2 x0 x1 x2)) + (own_hit y1 p2 x0 x1 x2)) + (own_hit y2 p2 x0 x1 x2)))]) (lenOf own_pd9 rfl) rfl (by show 2 * 0 + _ ≤ _; exact Nat.le_of_eq rfl) (hb hby own_d12_44) (fun _ _ => ⟨rfl, eq10, (by decide : 0 + 0 ≤ _), (by decide : 0 + 0 ≤ _)⟩)
  dsimp only [Pt.U, Pt.locs, Pt.cells, Pt.slots] at X13 l13 y13 z13 st13 hQ13
  subst l13 y13 z13
  obtain ⟨rfl, Nq13, eq13⟩ := hQ13
  have N13 := Fr.app N10 Nq13
  have R13 : ∀ t, Steps p.tables e below (T13.setTop (mkF m 47 #[.val (.ref a1), .val (.int p2), .val (.long q3), .second, .val (.ref a4), .val (.ref a5), .unset, .unset] [(.long (own_hit y3 p2 x0 x1 x2)), (.long ((((q3 + (p2.toInt64)) + (own_hit y0 p2 x0 x1 x2)) + (own_hit y1 p2 x0 x1 x2)) + (own_hit y2 p2 x0 x1 x2)))])) t → Steps p.tables e below (s₁.setTop (entryFrame m #[(.ref a1), (.int p2), (.long q3), (.ref a4), (.ref a5)] 8)) t := fun t k => R12 t (st13 t k)
  have R14 : ∀ t, Steps p.tables e below (T13.setTop (mkF m 52 #[.val (.ref a1), .val (.int p2), .val (.long q3), .second, .val (.ref a4), .val (.ref a5), .val (.long (((((q3 + (p2.toInt64)) + (own_hit y0 p2 x0 x1 x2)) + (own_hit y1 p2 x0 x1 x2)) + (own_hit y2 p2 x0 x1 x2)) + (own_hit y3 p2 x0 x1 x2))), .second] [(.int p2), (.ref a1)])) t → Steps p.tables e below (s₁.setTop (entryFrame m #[(.ref a1), (.int p2), (.long q3), (.ref a4), (.ref a5)] 8)) t := by
    intro t k
    refine R13 t ?_
    show Steps p.tables e below (T13.setTop (mkF m 47 #[.val (.ref a1), .val (.int p2), .val (.long q3), .second, .val (.ref a4), .val (.ref a5), .unset, .unset] [(.long (own_hit y3 p2 x0 x1 x2)), (.long ((((q3 + (p2.toInt64)) + (own_hit y0 p2 x0 x1 x2)) + (own_hit y1 p2 x0 x1 x2)) + (own_hit y2 p2 x0 x1 x2)))])) _
    refine XS.ladd X13.here hx rfl (hb hby own_d12_47) rfl ?_
    show Steps p.tables e below (T13.setTop (mkF m 48 #[.val (.ref a1), .val (.int p2), .val (.long q3), .second, .val (.ref a4), .val (.ref a5), .unset, .unset] [(.long (((((q3 + (p2.toInt64)) + (own_hit y0 p2 x0 x1 x2)) + (own_hit y1 p2 x0 x1 x2)) + (own_hit y2 p2 x0 x1 x2)) + (own_hit y3 p2 x0 x1 x2)))])) _
    refine XS.lstore X13.here hx rfl (hb hby own_d12_48) rfl (l' := #[.val (.ref a1), .val (.int p2), .val (.long q3), .second, .val (.ref a4), .val (.ref a5), .val (.long (((((q3 + (p2.toInt64)) + (own_hit y0 p2 x0 x1 x2)) + (own_hit y1 p2 x0 x1 x2)) + (own_hit y2 p2 x0 x1 x2)) + (own_hit y3 p2 x0 x1 x2))), .second]) rfl ?_
    show Steps p.tables e below (T13.setTop (mkF m 50 #[.val (.ref a1), .val (.int p2), .val (.long q3), .second, .val (.ref a4), .val (.ref a5), .val (.long (((((q3 + (p2.toInt64)) + (own_hit y0 p2 x0 x1 x2)) + (own_hit y1 p2 x0 x1 x2)) + (own_hit y2 p2 x0 x1 x2)) + (own_hit y3 p2 x0 x1 x2))), .second] [])) _
    refine XS.aloadN X13.here hx rfl (hb hby own_d12_50) rfl rfl ?_
    show Steps p.tables e below (T13.setTop (mkF m 51 #[.val (.ref a1), .val (.int p2), .val (.long q3), .second, .val (.ref a4), .val (.ref a5), .val (.long (((((q3 + (p2.toInt64)) + (own_hit y0 p2 x0 x1 x2)) + (own_hit y1 p2 x0 x1 x2)) + (own_hit y2 p2 x0 x1 x2)) + (own_hit y3 p2 x0 x1 x2))), .second] [(.ref a1)])) _
    refine XS.iloadN X13.here hx rfl (hb hby own_d12_51) rfl ?_
    exact k
  obtain ⟨cl15, Ar15, q15, S15, N15', H15, G15⟩ := id Vc
  have hin15_p2 : ¬ (p2 < 0 ∨ cl15.slots.size ≤ (p2).toNatClampNeg) := inb_of S15 hi
  have hat15_p2 : cl15.slots[(p2).toNatClampNeg]? = some (.long (cl.getD p2.toNatClampNeg 0)) := H15.at hin15_p2 own_getL
  have R16 : ∀ t, Steps p.tables e below (T13.setTop (mkF m 56 #[.val (.ref a1), .val (.int p2), .val (.long q3), .second, .val (.ref a4), .val (.ref a5), .val (.long (((((q3 + (p2.toInt64)) + (own_hit y0 p2 x0 x1 x2)) + (own_hit y1 p2 x0 x1 x2)) + (own_hit y2 p2 x0 x1 x2)) + (own_hit y3 p2 x0 x1 x2))), .second] [(.int (lcmpW (cl.getD p2.toNatClampNeg 0) (((((q3 + (p2.toInt64)) + (own_hit y0 p2 x0 x1 x2)) + (own_hit y1 p2 x0 x1 x2)) + (own_hit y2 p2 x0 x1 x2)) + (own_hit y3 p2 x0 x1 x2))))])) t → Steps p.tables e below (s₁.setTop (entryFrame m #[(.ref a1), (.int p2), (.long q3), (.ref a4), (.ref a5)] 8)) t := by
    intro t k
    refine R14 t ?_
    show Steps p.tables e below (T13.setTop (mkF m 52 #[.val (.ref a1), .val (.int p2), .val (.long q3), .second, .val (.ref a4), .val (.ref a5), .val (.long (((((q3 + (p2.toInt64)) + (own_hit y0 p2 x0 x1 x2)) + (own_hit y1 p2 x0 x1 x2)) + (own_hit y2 p2 x0 x1 x2)) + (own_hit y3 p2 x0 x1 x2))), .second] [(.int p2), (.ref a1)])) _
    refine X13.laload hx (j := p2) (v := (.long (cl.getD p2.toNatClampNeg 0))) (by rw [eq13]; exact Ar15.1) (State.isArrayOf_alike hZ.alike Ar15.2.1) Ar15.2.2 hin15_p2 hat15_p2 (g := (mkF m 52 #[.val (.ref a1), .val (.int p2), .val (.long q3), .second, .val (.ref a4), .val (.ref a5), .val (.long (((((q3 + (p2.toInt64)) + (own_hit y0 p2 x0 x1 x2)) + (own_hit y1 p2 x0 x1 x2)) + (own_hit y2 p2 x0 x1 x2)) + (own_hit y3 p2 x0 x1 x2))), .second] [(.int p2), (.ref a1)])) rfl rfl (hb hby own_d12_52) _ ?_
    show Steps p.tables e below (T13.setTop (mkF m 53 #[.val (.ref a1), .val (.int p2), .val (.long q3), .second, .val (.ref a4), .val (.ref a5), .val (.long (((((q3 + (p2.toInt64)) + (own_hit y0 p2 x0 x1 x2)) + (own_hit y1 p2 x0 x1 x2)) + (own_hit y2 p2 x0 x1 x2)) + (own_hit y3 p2 x0 x1 x2))), .second] [(.long (cl.getD p2.toNatClampNeg 0))])) _
    refine XS.lload X13.here hx rfl (hb hby own_d12_53) rfl ?_
    show Steps p.tables e below (T13.setTop (mkF m 55 #[.val (.ref a1), .val (.int p2), .val (.long q3), .second, .val (.ref a4), .val (.ref a5), .val (.long (((((q3 + (p2.toInt64)) + (own_hit y0 p2 x0 x1 x2)) + (own_hit y1 p2 x0 x1 x2)) + (own_hit y2 p2 x0 x1 x2)) + (own_hit y3 p2 x0 x1 x2))), .second] [(.long (((((q3 + (p2.toInt64)) + (own_hit y0 p2 x0 x1 x2)) + (own_hit y1 p2 x0 x1 x2)) + (own_hit y2 p2 x0 x1 x2)) + (own_hit y3 p2 x0 x1 x2))), (.long (cl.getD p2.toNatClampNeg 0))])) _
    refine XS.lcmp X13.here hx rfl (hb hby own_d12_55) rfl ?_
    exact k
  have hc : (lcmpW (cl.getD p2.toNatClampNeg 0) (((((q3 + (p2.toInt64)) + (own_hit y0 p2 x0 x1 x2)) + (own_hit y1 p2 x0 x1 x2)) + (own_hit y2 p2 x0 x1 x2)) + (own_hit y3 p2 x0 x1 x2))) = (0 : Int32) := (lw_eq _ _).mpr hv
  have R17 : ∀ t, Steps p.tables e below (T13.setTop (mkF m 64 #[.val (.ref a1), .val (.int p2), .val (.long q3), .second, .val (.ref a4), .val (.ref a5), .val (.long (((((q3 + (p2.toInt64)) + (own_hit y0 p2 x0 x1 x2)) + (own_hit y1 p2 x0 x1 x2)) + (own_hit y2 p2 x0 x1 x2)) + (own_hit y3 p2 x0 x1 x2))), .second] [(.int (1 : Int32))])) t → Steps p.tables e below (s₁.setTop (entryFrame m #[(.ref a1), (.int p2), (.long q3), (.ref a4), (.ref a5)] 8)) t := by
    intro t k
    refine R16 t ?_
    show Steps p.tables e below (T13.setTop (mkF m 56 #[.val (.ref a1), .val (.int p2), .val (.long q3), .second, .val (.ref a4), .val (.ref a5), .val (.long (((((q3 + (p2.toInt64)) + (own_hit y0 p2 x0 x1 x2)) + (own_hit y1 p2 x0 x1 x2)) + (own_hit y2 p2 x0 x1 x2)) + (own_hit y3 p2 x0 x1 x2))), .second] [(.int (lcmpW (cl.getD p2.toNatClampNeg 0) (((((q3 + (p2.toInt64)) + (own_hit y0 p2 x0 x1 x2)) + (own_hit y1 p2 x0 x1 x2)) + (own_hit y2 p2 x0 x1 x2)) + (own_hit y3 p2 x0 x1 x2))))])) _
    refine XS.ifNo X13.here hx rfl (hb hby own_d12_56) rfl ((if0 _ _).trans (teq hc).2) ?_
    show Steps p.tables e below (T13.setTop (mkF m 59 #[.val (.ref a1), .val (.int p2), .val (.long q3), .second, .val (.ref a4), .val (.ref a5), .val (.long (((((q3 + (p2.toInt64)) + (own_hit y0 p2 x0 x1 x2)) + (own_hit y1 p2 x0 x1 x2)) + (own_hit y2 p2 x0 x1 x2)) + (own_hit y3 p2 x0 x1 x2))), .second] [])) _
    refine XS.iconst X13.here hx rfl (hb hby own_d12_59) ?_
    show Steps p.tables e below (T13.setTop (mkF m 60 #[.val (.ref a1), .val (.int p2), .val (.long q3), .second, .val (.ref a4), .val (.ref a5), .val (.long (((((q3 + (p2.toInt64)) + (own_hit y0 p2 x0 x1 x2)) + (own_hit y1 p2 x0 x1 x2)) + (own_hit y2 p2 x0 x1 x2)) + (own_hit y3 p2 x0 x1 x2))), .second] [(.int (1 : Int32))])) _
    refine XS.goto X13.here hx rfl (pc0 := 60) (pc' := 64) rfl (hb hby own_d12_60) (by decide) (by decide) ?_
    exact k
  obtain ⟨fs, hr, hrun, hended, hW, hsame⟩ := X13.leave (v := some (.int (1 : Int32))) (fun h => by rw [Bd.returns] at h; cases h)
  refine ⟨_, _, R17 _ ?_, hrun, hended, _, _, rfl, ?_, ⟨_, rfl⟩, hW, hsame.mono (by decide) (by decide)⟩
  · exact retN X13 hx (t := .boolean) Bd.returns (by simp) (hb hby own_d12_64) hr
  · show Q_rmCell Z a1 p2 q3 a4 a5 k3 x0 x1 x2 k1 k4 cl y0 y1 y2 y3 h0 n0 _ T13.heap _
    rw [eq13]
    exact ⟨rfl, N13, rfl⟩
theorem own_ef_rm0 (m : MethodId) (x0 : Int32) (x1 : Int32) (x2 : Int32) (x3 : Int32) (x4 : Int32) (x5 : Int64) : entryFrame m #[(.int x0), (.int x1), (.int x2), (.int x3), (.int x4), (.long x5)] maxLocals = mkF m 0 #[.val (.int x0), .val (.int x1), .val (.int x2), .val (.int x3), .val (.int x4), .val (.long x5), .second, .unset, .unset, .unset, .unset, .unset, .unset, .unset] [] := by first | (simp [entryFrame, mkF, argsToLocals, Value.category, maxLocals]; done) | rfl
theorem own_pd2 : parseMethodDescriptor "(Lcom/example/terse_graph/tersegraph/PrefixWriter;I[I)V" = some ⟨[(.object "com/example/terse_graph/tersegraph/PrefixWriter"), .int, (.array .int)], none⟩ := by decide +kernel
theorem own_pd7 : parseMethodDescriptor "([J[I)V" = some ⟨[(.array .long), (.array .int)], none⟩ := by decide +kernel
theorem own_pd8 : parseMethodDescriptor "([JIJ[I[I)Z" = some ⟨[(.array .long), .int, .long, (.array .int), (.array .int)], some .boolean⟩ := by decide +kernel
def Q_rm0 (Z : State) (p1 p2 p3 p4 p5 : Int32) (q6 : Int64) (h0 : Heap) (n0 : Nat) (v : Option Value) (h : Heap) (L : List Loc) : Prop := v = some (.int 1) ∧ Fr n0 L
set_option maxRecDepth 65536 in
set_option maxHeartbeats 40000000 in
theorem rm0 (l : Launch) (Z : State) (a0 : Array Value) (hw : ∀ d ∈ tables_1, d.before a0 Z = true) (ws : List Jvm.Cond) (p1 p2 p3 p4 p5 : Int32) (q6 : Int64) (h0 : Heap) (n0 : Nat) (Z0 : n0 ≤ h0.size)  :
    MetFree l x (head1 (Jvm.Cond.code x code maxLocals ret :: ws) room_1) (fun a U => a = #[(.int p1), (.int p2), (.int p3), (.int p4), (.int p5), (.long q6)] ∧ Z.Warmed39 U.vm ∧ U.heap = h0) (fun _ _ _ _ _ => True) (fun _ U o U' => ∃ v L, o = .returned v ∧ Q_rm0 Z p1 p2 p3 p4 p5 q6 h0 n0 v U'.heap L ∧ FrameEnd U o U' L room_1.cells room_1.slots) := by
  refine MetFree.of_bodySF (plainFor_of_name own_pn3) hisR ?_
  intro p e s m args below meth c s₁ Bd hml0 hP hK
  obtain ⟨rfl, hZ, hh⟩ := hP
  have hx := Bd.exec
  have hby := Bd.bytes
  have hml : c.maxLocals = 14 := hml0
  have hown : s.vm.findClass "com/example/terse_graph/tersegraph/PrefixWriterCountIntoPinLaw" = some m.cls := findClass_of_methodNamed Bd.named
  have hnm := (name_of_methodNamed Bd.named Bd.method).1
  have X0 : Stand p l e room_1 s m #[(.int p1), (.int p2), (.int p3), (.int p4), (.int p5), (.long q6)] below meth c s₁ [] 0 0 := Stand.of_body Bd
  have e0 : s₁.heap = h0 := by rw [← hh, Bd.state]; rfl
  have N0 := Fr.nil n0
  have R0 : ∀ t, Steps p.tables e below (s₁.setTop (mkF m 0 #[.val (.int p1), .val (.int p2), .val (.int p3), .val (.int p4), .val (.int p5), .val (.long q6), .second, .unset, .unset, .unset, .unset, .unset, .unset, .unset] [])) t → Steps p.tables e below (s₁.setTop (entryFrame m #[(.int p1), (.int p2), (.int p3), (.int p4), (.int p5), (.long q6)] maxLocals)) t := fun t k => castTop (own_ef_rm0 m p1 p2 p3 p4 p5 q6) k
  have R1 : ∀ t, Steps p.tables e below (s₁.setTop (mkF m 25 #[.val (.int p1), .val (.int p2), .val (.int p3), .val (.int p4), .val (.int p5), .val (.long q6), .second, .val (.int ((1 : Int32) + (p1 &&& (3 : Int32)))), .val (.int ((1 : Int32) + (((p1.toUInt32 >>> ((2 : Int32) &&& 31).toUInt32).toInt32) &&& (3 : Int32)))), .val (.int ((1 : Int32) + (((p1.toUInt32 >>> ((4 : Int32) &&& 31).toUInt32).toInt32) &&& (3 : Int32)))), .unset, .unset, .unset, .unset] [])) t → Steps p.tables e below (s₁.setTop (entryFrame m #[(.int p1), (.int p2), (.int p3), (.int p4), (.int p5), (.long q6)] maxLocals)) t := by
    intro t k
    refine R0 t ?_
    show Steps p.tables e below (s₁.setTop (mkF m 0 #[.val (.int p1), .val (.int p2), .val (.int p3), .val (.int p4), .val (.int p5), .val (.long q6), .second, .unset, .unset, .unset, .unset, .unset, .unset, .unset] [])) _
    refine XS.iconst X0.here hx rfl (hb hby at_0) ?_
    show Steps p.tables e below (s₁.setTop (mkF m 1 #[.val (.int p1), .val (.int p2), .val (.int p3), .val (.int p4), .val (.int p5), .val (.long q6), .second, .unset, .unset, .unset, .unset, .unset, .unset, .unset] [(.int (1 : Int32))])) _
    refine XS.iloadN X0.here hx rfl (hb hby at_1) rfl ?_
    show Steps p.tables e below (s₁.setTop (mkF m 2 #[.val (.int p1), .val (.int p2), .val (.int p3), .val (.int p4), .val (.int p5), .val (.long q6), .second, .unset, .unset, .unset, .unset, .unset, .unset, .unset] [(.int p1), (.int (1 : Int32))])) _
    refine XS.iconst X0.here hx rfl (hb hby at_2) ?_
    show Steps p.tables e below (s₁.setTop (mkF m 3 #[.val (.int p1), .val (.int p2), .val (.int p3), .val (.int p4), .val (.int p5), .val (.long q6), .second, .unset, .unset, .unset, .unset, .unset, .unset, .unset] [(.int (3 : Int32)), (.int p1), (.int (1 : Int32))])) _
    refine XS.iand X0.here hx rfl (hb hby at_3) rfl ?_
    show Steps p.tables e below (s₁.setTop (mkF m 4 #[.val (.int p1), .val (.int p2), .val (.int p3), .val (.int p4), .val (.int p5), .val (.long q6), .second, .unset, .unset, .unset, .unset, .unset, .unset, .unset] [(.int (p1 &&& (3 : Int32))), (.int (1 : Int32))])) _
    refine XS.iadd X0.here hx rfl (hb hby at_4) rfl ?_
    show Steps p.tables e below (s₁.setTop (mkF m 5 #[.val (.int p1), .val (.int p2), .val (.int p3), .val (.int p4), .val (.int p5), .val (.long q6), .second, .unset, .unset, .unset, .unset, .unset, .unset, .unset] [(.int ((1 : Int32) + (p1 &&& (3 : Int32))))])) _
    refine XS.istore X0.here hx rfl (hb hby at_5) rfl (l' := #[.val (.int p1), .val (.int p2), .val (.int p3), .val (.int p4), .val (.int p5), .val (.long q6), .second, .val (.int ((1 : Int32) + (p1 &&& (3 : Int32)))), .unset, .unset, .unset, .unset, .unset, .unset]) rfl ?_
    show Steps p.tables e below (s₁.setTop (mkF m 7 #[.val (.int p1), .val (.int p2), .val (.int p3), .val (.int p4), .val (.int p5), .val (.long q6), .second, .val (.int ((1 : Int32) + (p1 &&& (3 : Int32)))), .unset, .unset, .unset, .unset, .unset, .unset] [])) _
    refine XS.iconst X0.here hx rfl (hb hby at_7) ?_
    show Steps p.tables e below (s₁.setTop (mkF m 8 #[.val (.int p1), .val (.int p2), .val (.int p3), .val (.int p4), .val (.int p5), .val (.long q6), .second, .val (.int ((1 : Int32) + (p1 &&& (3 : Int32)))), .unset, .unset, .unset, .unset, .unset, .unset] [(.int (1 : Int32))])) _
    refine XS.iloadN X0.here hx rfl (hb hby at_8) rfl ?_
    show Steps p.tables e below (s₁.setTop (mkF m 9 #[.val (.int p1), .val (.int p2), .val (.int p3), .val (.int p4), .val (.int p5), .val (.long q6), .second, .val (.int ((1 : Int32) + (p1 &&& (3 : Int32)))), .unset, .unset, .unset, .unset, .unset, .unset] [(.int p1), (.int (1 : Int32))])) _
    refine XS.iconst X0.here hx rfl (hb hby at_9) ?_
    show Steps p.tables e below (s₁.setTop (mkF m 10 #[.val (.int p1), .val (.int p2), .val (.int p3), .val (.int p4), .val (.int p5), .val (.long q6), .second, .val (.int ((1 : Int32) + (p1 &&& (3 : Int32)))), .unset, .unset, .unset, .unset, .unset, .unset] [(.int (2 : Int32)), (.int p1), (.int (1 : Int32))])) _
    refine XS.iushr X0.here hx rfl (hb hby at_10) rfl ?_
    show Steps p.tables e below (s₁.setTop (mkF m 11 #[.val (.int p1), .val (.int p2), .val (.int p3), .val (.int p4), .val (.int p5), .val (.long q6), .second, .val (.int ((1 : Int32) + (p1 &&& (3 : Int32)))), .unset, .unset, .unset, .unset, .unset, .unset] [(.int ((p1.toUInt32 >>> ((2 : Int32) &&& 31).toUInt32).toInt32)), (.int (1 : Int32))])) _
    refine XS.iconst X0.here hx rfl (hb hby at_11) ?_
    show Steps p.tables e below (s₁.setTop (mkF m 12 #[.val (.int p1), .val (.int p2), .val (.int p3), .val (.int p4), .val (.int p5), .val (.long q6), .second, .val (.int ((1 : Int32) + (p1 &&& (3 : Int32)))), .unset, .unset, .unset, .unset, .unset, .unset] [(.int (3 : Int32)), (.int ((p1.toUInt32 >>> ((2 : Int32) &&& 31).toUInt32).toInt32)), (.int (1 : Int32))])) _
    refine XS.iand X0.here hx rfl (hb hby at_12) rfl ?_
    show Steps p.tables e below (s₁.setTop (mkF m 13 #[.val (.int p1), .val (.int p2), .val (.int p3), .val (.int p4), .val (.int p5), .val (.long q6), .second, .val (.int ((1 : Int32) + (p1 &&& (3 : Int32)))), .unset, .unset, .unset, .unset, .unset, .unset] [(.int (((p1.toUInt32 >>> ((2 : Int32) &&& 31).toUInt32).toInt32) &&& (3 : Int32))), (.int (1 : Int32))])) _
    refine XS.iadd X0.here hx rfl (hb hby at_13) rfl ?_
    show Steps p.tables e below (s₁.setTop (mkF m 14 #[.val (.int p1), .val (.int p2), .val (.int p3), .val (.int p4), .val (.int p5), .val (.long q6), .second, .val (.int ((1 : Int32) + (p1 &&& (3 : Int32)))), .unset, .unset, .unset, .unset, .unset, .unset] [(.int ((1 : Int32) + (((p1.toUInt32 >>> ((2 : Int32) &&& 31).toUInt32).toInt32) &&& (3 : Int32))))])) _
    refine XS.istore X0.here hx rfl (hb hby at_14) rfl (l' := #[.val (.int p1), .val (.int p2), .val (.int p3), .val (.int p4), .val (.int p5), .val (.long q6), .second, .val (.int ((1 : Int32) + (p1 &&& (3 : Int32)))), .val (.int ((1 : Int32) + (((p1.toUInt32 >>> ((2 : Int32) &&& 31).toUInt32).toInt32) &&& (3 : Int32)))), .unset, .unset, .unset, .unset, .unset]) rfl ?_
    show Steps p.tables e below (s₁.setTop (mkF m 16 #[.val (.int p1), .val (.int p2), .val (.int p3), .val (.int p4), .val (.int p5), .val (.long q6), .second, .val (.int ((1 : Int32) + (p1 &&& (3 : Int32)))), .val (.int ((1 : Int32) + (((p1.toUInt32 >>> ((2 : Int32) &&& 31).toUInt32).toInt32) &&& (3 : Int32)))), .unset, .unset, .unset, .unset, .unset] [])) _
    refine XS.iconst X0.here hx rfl (hb hby at_16) ?_
    show Steps p.tables e below (s₁.setTop (mkF m 17 #[.val (.int p1), .val (.int p2), .val (.int p3), .val (.int p4), .val (.int p5), .val (.long q6), .second, .val (.int ((1 : Int32) + (p1 &&& (3 : Int32)))), .val (.int ((1 : Int32) + (((p1.toUInt32 >>> ((2 : Int32) &&& 31).toUInt32).toInt32) &&& (3 : Int32)))), .unset, .unset, .unset, .unset, .unset] [(.int (1 : Int32))])) _
    refine XS.iloadN X0.here hx rfl (hb hby at_17) rfl ?_
    show Steps p.tables e below (s₁.setTop (mkF m 18 #[.val (.int p1), .val (.int p2), .val (.int p3), .val (.int p4), .val (.int p5), .val (.long q6), .second, .val (.int ((1 : Int32) + (p1 &&& (3 : Int32)))), .val (.int ((1 : Int32) + (((p1.toUInt32 >>> ((2 : Int32) &&& 31).toUInt32).toInt32) &&& (3 : Int32)))), .unset, .unset, .unset, .unset, .unset] [(.int p1), (.int (1 : Int32))])) _
    refine XS.iconst X0.here hx rfl (hb hby at_18) ?_
    show Steps p.tables e below (s₁.setTop (mkF m 19 #[.val (.int p1), .val (.int p2), .val (.int p3), .val (.int p4), .val (.int p5), .val (.long q6), .second, .val (.int ((1 : Int32) + (p1 &&& (3 : Int32)))), .val (.int ((1 : Int32) + (((p1.toUInt32 >>> ((2 : Int32) &&& 31).toUInt32).toInt32) &&& (3 : Int32)))), .unset, .unset, .unset, .unset, .unset] [(.int (4 : Int32)), (.int p1), (.int (1 : Int32))])) _
    refine XS.iushr X0.here hx rfl (hb hby at_19) rfl ?_
    show Steps p.tables e below (s₁.setTop (mkF m 20 #[.val (.int p1), .val (.int p2), .val (.int p3), .val (.int p4), .val (.int p5), .val (.long q6), .second, .val (.int ((1 : Int32) + (p1 &&& (3 : Int32)))), .val (.int ((1 : Int32) + (((p1.toUInt32 >>> ((2 : Int32) &&& 31).toUInt32).toInt32) &&& (3 : Int32)))), .unset, .unset, .unset, .unset, .unset] [(.int ((p1.toUInt32 >>> ((4 : Int32) &&& 31).toUInt32).toInt32)), (.int (1 : Int32))])) _
    refine XS.iconst X0.here hx rfl (hb hby at_20) ?_
    show Steps p.tables e below (s₁.setTop (mkF m 21 #[.val (.int p1), .val (.int p2), .val (.int p3), .val (.int p4), .val (.int p5), .val (.long q6), .second, .val (.int ((1 : Int32) + (p1 &&& (3 : Int32)))), .val (.int ((1 : Int32) + (((p1.toUInt32 >>> ((2 : Int32) &&& 31).toUInt32).toInt32) &&& (3 : Int32)))), .unset, .unset, .unset, .unset, .unset] [(.int (3 : Int32)), (.int ((p1.toUInt32 >>> ((4 : Int32) &&& 31).toUInt32).toInt32)), (.int (1 : Int32))])) _
    refine XS.iand X0.here hx rfl (hb hby at_21) rfl ?_
    show Steps p.tables e below (s₁.setTop (mkF m 22 #[.val (.int p1), .val (.int p2), .val (.int p3), .val (.int p4), .val (.int p5), .val (.long q6), .second, .val (.int ((1 : Int32) + (p1 &&& (3 : Int32)))), .val (.int ((1 : Int32) + (((p1.toUInt32 >>> ((2 : Int32) &&& 31).toUInt32).toInt32) &&& (3 : Int32)))), .unset, .unset, .unset, .unset, .unset] [(.int (((p1.toUInt32 >>> ((4 : Int32) &&& 31).toUInt32).toInt32) &&& (3 : Int32))), (.int (1 : Int32))])) _
    refine XS.iadd X0.here hx rfl (hb hby at_22) rfl ?_
    show Steps p.tables e below (s₁.setTop (mkF m 23 #[.val (.int p1), .val (.int p2), .val (.int p3), .val (.int p4), .val (.int p5), .val (.long q6), .second, .val (.int ((1 : Int32) + (p1 &&& (3 : Int32)))), .val (.int ((1 : Int32) + (((p1.toUInt32 >>> ((2 : Int32) &&& 31).toUInt32).toInt32) &&& (3 : Int32)))), .unset, .unset, .unset, .unset, .unset] [(.int ((1 : Int32) + (((p1.toUInt32 >>> ((4 : Int32) &&& 31).toUInt32).toInt32) &&& (3 : Int32))))])) _
    refine XS.istore X0.here hx rfl (hb hby at_23) rfl (l' := #[.val (.int p1), .val (.int p2), .val (.int p3), .val (.int p4), .val (.int p5), .val (.long q6), .second, .val (.int ((1 : Int32) + (p1 &&& (3 : Int32)))), .val (.int ((1 : Int32) + (((p1.toUInt32 >>> ((2 : Int32) &&& 31).toUInt32).toInt32) &&& (3 : Int32)))), .val (.int ((1 : Int32) + (((p1.toUInt32 >>> ((4 : Int32) &&& 31).toUInt32).toInt32) &&& (3 : Int32)))), .unset, .unset, .unset, .unset]) rfl ?_
    exact k
  obtain ⟨x0, hx0⟩ : ∃ z : Int32, z = ((1 : Int32) + (p1 &&& (3 : Int32))) := ⟨_, rfl⟩
  have R2 : ∀ t, Steps p.tables e below (s₁.setTop (mkF m 25 #[.val (.int p1), .val (.int p2), .val (.int p3), .val (.int p4), .val (.int p5), .val (.long q6), .second, .val (.int x0), .val (.int ((1 : Int32) + (((p1.toUInt32 >>> ((2 : Int32) &&& 31).toUInt32).toInt32) &&& (3 : Int32)))), .val (.int ((1 : Int32) + (((p1.toUInt32 >>> ((4 : Int32) &&& 31).toUInt32).toInt32) &&& (3 : Int32)))), .unset, .unset, .unset, .unset] [])) t → Steps p.tables e below (s₁.setTop (entryFrame m #[(.int p1), (.int p2), (.int p3), (.int p4), (.int p5), (.long q6)] maxLocals)) t := by rw [hx0]; exact R1
  clear R1
  obtain ⟨x1, hx1⟩ : ∃ z : Int32, z = ((1 : Int32) + (((p1.toUInt32 >>> ((2 : Int32) &&& 31).toUInt32).toInt32) &&& (3 : Int32))) := ⟨_, rfl⟩
  have R3 : ∀ t, Steps p.tables e below (s₁.setTop (mkF m 25 #[.val (.int p1), .val (.int p2), .val (.int p3), .val (.int p4), .val (.int p5), .val (.long q6), .second, .val (.int x0), .val (.int x1), .val (.int ((1 : Int32) + (((p1.toUInt32 >>> ((4 : Int32) &&& 31).toUInt32).toInt32) &&& (3 : Int32)))), .unset, .unset, .unset, .unset] [])) t → Steps p.tables e below (s₁.setTop (entryFrame m #[(.int p1), (.int p2), (.int p3), (.int p4), (.int p5), (.long q6)] maxLocals)) t := by rw [hx1]; exact R2
  clear R2
  obtain ⟨x2, hx2⟩ : ∃ z : Int32, z = ((1 : Int32) + (((p1.toUInt32 >>> ((4 : Int32) &&& 31).toUInt32).toInt32) &&& (3 : Int32))) := ⟨_, rfl⟩
  have R4 : ∀ t, Steps p.tables e below (s₁.setTop (mkF m 25 #[.val (.int p1), .val (.int p2), .val (.int p3), .val (.int p4), .val (.int p5), .val (.long q6), .second, .val (.int x0), .val (.int x1), .val (.int x2), .unset, .unset, .unset, .unset] [])) t → Steps p.tables e below (s₁.setTop (entryFrame m #[(.int p1), (.int p2), (.int p3), (.int p4), (.int p5), (.long q6)] maxLocals)) t := by rw [hx2]; exact R3
  clear R3
  have b0 : 1 ≤ x0.toInt ∧ x0.toInt ≤ 4 := by rw [hx0]; exact own_x0 _
  have b1 : 1 ≤ x1.toInt ∧ x1.toInt ≤ 4 := by rw [hx1]; exact own_x0 _
  have b2 : 1 ≤ x2.toInt ∧ x2.toInt ≤ 4 := by rw [hx2]; exact own_x0 _
  have z0 := own_x_nz b0
  have z1 := own_x_nz b1
  have z2 := own_x_nz b2
  have R5 : ∀ t, Steps p.tables e below (s₁.setTop (mkF m 26 #[.val (.int p1), .val (.int p2), .val (.int p3), .val (.int p4), .val (.int p5), .val (.long q6), .second, .val (.int x0), .val (.int x1), .val (.int x2), .unset, .unset, .unset, .unset] [(.int (3 : Int32))])) t → Steps p.tables e below (s₁.setTop (entryFrame m #[(.int p1), (.int p2), (.int p3), (.int p4), (.int p5), (.long q6)] maxLocals)) t := by
    intro t k
    refine R4 t ?_
    show Steps p.tables e below (s₁.setTop (mkF m 25 #[.val (.int p1), .val (.int p2), .val (.int p3), .val (.int p4), .val (.int p5), .val (.long q6), .second, .val (.int x0), .val (.int x1), .val (.int x2), .unset, .unset, .unset, .unset] [])) _
    refine XS.iconst X0.here hx rfl (hb hby at_25) ?_
    exact k
  clear R4
  obtain ⟨T6, h6, k6, X6, e6, E6, A6, st6⟩ := newP X0 hx hZ (hw _ (List.mem_of_getElem? (i := 0) rfl)) e0 (g := (mkF m 26 #[.val (.int p1), .val (.int p2), .val (.int p3), .val (.int p4), .val (.int p5), .val (.long q6), .second, .val (.int x0), .val (.int x1), .val (.int x2), .unset, .unset, .unset, .unset] [(.int (3 : Int32))])) rfl (hb hby at_26) rfl (by decide) (cap := 3) (by decide) (by decide) (by decide) (by decide)
  obtain ⟨b6, g6⟩ : ∃ z, z = h0.size := ⟨_, rfl⟩
  rw [← g6] at A6 st6
  have R6 : ∀ t, Steps p.tables e below (T6.setTop (mkF m 28 #[.val (.int p1), .val (.int p2), .val (.int p3), .val (.int p4), .val (.int p5), .val (.long q6), .second, .val (.int x0), .val (.int x1), .val (.int x2), .unset, .unset, .unset, .unset] [(.ref b6)])) t → Steps p.tables e below (s₁.setTop (entryFrame m #[(.int p1), (.int p2), (.int p3), (.int p4), (.int p5), (.long q6)] maxLocals)) t := fun t k => R5 t (st6 t k)
  clear R5 st6
  have g_b6 : n0 ≤ b6 := Nat.le_trans Z0 (Nat.le_of_eq g6.symm)
  have sz_b6 : h0.size ≤ b6 := Nat.le_trans (Keep.refl h0 []).1 (Nat.le_of_eq g6.symm)
  have Z6 : n0 ≤ h6.size := Nat.le_trans Z0 E6.1
  have K6 : Keep h0 h6 [] := (Keep.refl h0 []).ext E6
  clear E6
  have V6 : Arv Z h6 b6 k6 .int (3 : Int32) [(.int (0 : Int32)), (.int (0 : Int32)), (.int (0 : Int32))] (.int (0 : Int32)) := (Arv.new A6 (by decide)).pad (pad_rep [] (.int (0 : Int32)) 3)
  have R7 : ∀ t, Steps p.tables e below (T6.setTop (mkF m 32 #[.val (.int p1), .val (.int p2), .val (.int p3), .val (.int p4), .val (.int p5), .val (.long q6), .second, .val (.int x0), .val (.int x1), .val (.int x2), .unset, .unset, .unset, .unset] [(.int x0), (.int (0 : Int32)), (.ref b6), (.ref b6)])) t → Steps p.tables e below (s₁.setTop (entryFrame m #[(.int p1), (.int p2), (.int p3), (.int p4), (.int p5), (.long q6)] maxLocals)) t := by
    intro t k
    refine R6 t ?_
    show Steps p.tables e below (T6.setTop (mkF m 28 #[.val (.int p1), .val (.int p2), .val (.int p3), .val (.int p4), .val (.int p5), .val (.long q6), .second, .val (.int x0), .val (.int x1), .val (.int x2), .unset, .unset, .unset, .unset] [(.ref b6)])) _
    refine XS.dup X6.here hx rfl (hb hby at_28) rfl rfl ?_
    show Steps p.tables e below (T6.setTop (mkF m 29 #[.val (.int p1), .val (.int p2), .val (.int p3), .val (.int p4), .val (.int p5), .val (.long q6), .second, .val (.int x0), .val (.int x1), .val (.int x2), .unset, .unset, .unset, .unset] [(.ref b6), (.ref b6)])) _
    refine XS.iconst X6.here hx rfl (hb hby at_29) ?_
    show Steps p.tables e below (T6.setTop (mkF m 30 #[.val (.int p1), .val (.int p2), .val (.int p3), .val (.int p4), .val (.int p5), .val (.long q6), .second, .val (.int x0), .val (.int x1), .val (.int x2), .unset, .unset, .unset, .unset] [(.int (0 : Int32)), (.ref b6), (.ref b6)])) _
    refine XS.iload X6.here hx rfl (hb hby at_30) rfl ?_
    exact k
  clear R6
  obtain ⟨cl8, Ar8, q8, S8, N8', H8, G8⟩ := id V6
  have hin8 : ¬ ((0 : Int32) < 0 ∨ cl8.slots.size ≤ ((0 : Int32)).toNatClampNeg) := inb_of S8 ⟨by decide, by decide⟩
  obtain ⟨T9, h9, X9, e9, W9, st9⟩ := stI X6 hx hZ e6 Ar8 (j := (0 : Int32)) hin8 (g := (mkF m 32 #[.val (.int p1), .val (.int p2), .val (.int p3), .val (.int p4), .val (.int p5), .val (.long q6), .second, .val (.int x0), .val (.int x1), .val (.int x2), .unset, .unset, .unset, .unset] [(.int x0), (.int (0 : Int32)), (.ref b6), (.ref b6)])) rfl rfl (hb hby at_32)
  have R9 : ∀ t, Steps p.tables e below (T9.setTop (mkF m 33 #[.val (.int p1), .val (.int p2), .val (.int p3), .val (.int p4), .val (.int p5), .val (.long q6), .second, .val (.int x0), .val (.int x1), .val (.int x2), .unset, .unset, .unset, .unset] [(.ref b6)])) t → Steps p.tables e below (s₁.setTop (entryFrame m #[(.int p1), (.int p2), (.int p3), (.int p4), (.int p5), (.long q6)] maxLocals)) t := fun t k => R7 t (st9 t k)
  clear R7 st9 X6 e6
  have Z9 : n0 ≤ h9.size := Nat.le_trans Z6 (Keep.of_wr W9).1
  clear Z6
  have K9 : Keep h0 h9 [] := K6.wr W9 (Or.inr sz_b6)
  have N9 := Fr.snoc X9 N0 g_b6
  clear K6
  have V9 : Arv Z h9 b6 k6 .int (3 : Int32) [(.int x0), (.int (0 : Int32)), (.int (0 : Int32))] (.int (0 : Int32)) := Arv.set Ar8 q8 S8 N8' H8 G8 rfl W9 0 rfl (Nat.le_of_ble_eq_true rfl)
  clear Ar8 q8 S8 N8' H8 G8 hin8 W9 V6
  have R10 : ∀ t, Steps p.tables e below (T9.setTop (mkF m 37 #[.val (.int p1), .val (.int p2), .val (.int p3), .val (.int p4), .val (.int p5), .val (.long q6), .second, .val (.int x0), .val (.int x1), .val (.int x2), .unset, .unset, .unset, .unset] [(.int x1), (.int (1 : Int32)), (.ref b6), (.ref b6)])) t → Steps p.tables e below (s₁.setTop (entryFrame m #[(.int p1), (.int p2), (.int p3), (.int p4), (.int p5), (.long q6)] maxLocals)) t := by
    intro t k
    refine R9 t ?_
    show Steps p.tables e below (T9.setTop (mkF m 33 #[.val (.int p1), .val (.int p2), .val (.int p3), .val (.int p4), .val (.int p5), .val (.long q6), .second, .val (.int x0), .val (.int x1), .val (.int x2), .unset, .unset, .unset, .unset] [(.ref b6)])) _
    refine XS.dup X9.here hx rfl (hb hby at_33) rfl rfl ?_
    show Steps p.tables e below (T9.setTop (mkF m 34 #[.val (.int p1), .val (.int p2), .val (.int p3), .val (.int p4), .val (.int p5), .val (.long q6), .second, .val (.int x0), .val (.int x1), .val (.int x2), .unset, .unset, .unset, .unset] [(.ref b6), (.ref b6)])) _
    refine XS.iconst X9.here hx rfl (hb hby at_34) ?_
    show Steps p.tables e below (T9.setTop (mkF m 35 #[.val (.int p1), .val (.int p2), .val (.int p3), .val (.int p4), .val (.int p5), .val (.long q6), .second, .val (.int x0), .val (.int x1), .val (.int x2), .unset, .unset, .unset, .unset] [(.int (1 : Int32)), (.ref b6), (.ref b6)])) _
    refine XS.iload X9.here hx rfl (hb hby at_35) rfl ?_
    exact k
  clear R9
  obtain ⟨cl11, Ar11, q11, S11, N11', H11, G11⟩ := id V9
  have hin11 : ¬ ((1 : Int32) < 0 ∨ cl11.slots.size ≤ ((1 : Int32)).toNatClampNeg) := inb_of S11 ⟨by decide, by decide⟩
  obtain ⟨T12, h12, X12, e12, W12, st12⟩ := stI X9 hx hZ e9 Ar11 (j := (1 : Int32)) hin11 (g := (mkF m 37 #[.val (.int p1), .val (.int p2), .val (.int p3), .val (.int p4), .val (.int p5), .val (.long q6), .second, .val (.int x0), .val (.int x1), .val (.int x2), .unset, .unset, .unset, .unset] [(.int x1), (.int (1 : Int32)), (.ref b6), (.ref b6)])) rfl rfl (hb hby at_37)
  have R12 : ∀ t, Steps p.tables e below (T12.setTop (mkF m 38 #[.val (.int p1), .val (.int p2), .val (.int p3), .val (.int p4), .val (.int p5), .val (.long q6), .second, .val (.int x0), .val (.int x1), .val (.int x2), .unset, .unset, .unset, .unset] [(.ref b6)])) t → Steps p.tables e below (s₁.setTop (entryFrame m #[(.int p1), (.int p2), (.int p3), (.int p4), (.int p5), (.long q6)] maxLocals)) t := fun t k => R10 t (st12 t k)
  clear R10 st12 X9 e9
  have Z12 : n0 ≤ h12.size := Nat.le_trans Z9 (Keep.of_wr W12).1
  clear Z9
  have K12 : Keep h0 h12 [] := K9.wr W12 (Or.inr sz_b6)
  have N12 := Fr.snoc X12 N9 g_b6
  clear K9
  clear N9
  have V12 : Arv Z h12 b6 k6 .int (3 : Int32) [(.int x0), (.int x1), (.int (0 : Int32))] (.int (0 : Int32)) := Arv.set Ar11 q11 S11 N11' H11 G11 rfl W12 1 rfl (Nat.le_of_ble_eq_true rfl)
  clear Ar11 q11 S11 N11' H11 G11 hin11 W12 V9
  have R13 : ∀ t, Steps p.tables e below (T12.setTop (mkF m 42 #[.val (.int p1), .val (.int p2), .val (.int p3), .val (.int p4), .val (.int p5), .val (.long q6), .second, .val (.int x0), .val (.int x1), .val (.int x2), .unset, .unset, .unset, .unset] [(.int x2), (.int (2 : Int32)), (.ref b6), (.ref b6)])) t → Steps p.tables e below (s₁.setTop (entryFrame m #[(.int p1), (.int p2), (.int p3), (.int p4), (.int p5), (.long q6)] maxLocals)) t := by
    intro t k
    refine R12 t ?_
    show Steps p.tables e below (T12.setTop (mkF m 38 #[.val (.int p1), .val (.int p2), .val (.int p3), .val (.int p4), .val (.int p5), .val (.long q6), .second, .val (.int x0), .val (.int x1), .val (.int x2), .unset, .unset, .unset, .unset] [(.ref b6)])) _
    refine XS.dup X12.here hx rfl (hb hby at_38) rfl rfl ?_
    show Steps p.tables e below (T12.setTop (mkF m 39 #[.val (.int p1), .val (.int p2), .val (.int p3), .val (.int p4), .val (.int p5), .val (.long q6), .second, .val (.int x0), .val (.int x1), .val (.int x2), .unset, .unset, .unset, .unset] [(.ref b6), (.ref b6)])) _
    refine XS.iconst X12.here hx rfl (hb hby at_39) ?_
    show Steps p.tables e below (T12.setTop (mkF m 40 #[.val (.int p1), .val (.int p2), .val (.int p3), .val (.int p4), .val (.int p5), .val (.long q6), .second, .val (.int x0), .val (.int x1), .val (.int x2), .unset, .unset, .unset, .unset] [(.int (2 : Int32)), (.ref b6), (.ref b6)])) _
    refine XS.iload X12.here hx rfl (hb hby at_40) rfl ?_
    exact k
  clear R12
  obtain ⟨cl14, Ar14, q14, S14, N14', H14, G14⟩ := id V12
  have hin14 : ¬ ((2 : Int32) < 0 ∨ cl14.slots.size ≤ ((2 : Int32)).toNatClampNeg) := inb_of S14 ⟨by decide, by decide⟩
  obtain ⟨T15, h15, X15, e15, W15, st15⟩ := stI X12 hx hZ e12 Ar14 (j := (2 : Int32)) hin14 (g := (mkF m 42 #[.val (.int p1), .val (.int p2), .val (.int p3), .val (.int p4), .val (.int p5), .val (.long q6), .second, .val (.int x0), .val (.int x1), .val (.int x2), .unset, .unset, .unset, .unset] [(.int x2), (.int (2 : Int32)), (.ref b6), (.ref b6)])) rfl rfl (hb hby at_42)
  have R15 : ∀ t, Steps p.tables e below (T15.setTop (mkF m 43 #[.val (.int p1), .val (.int p2), .val (.int p3), .val (.int p4), .val (.int p5), .val (.long q6), .second, .val (.int x0), .val (.int x1), .val (.int x2), .unset, .unset, .unset, .unset] [(.ref b6)])) t → Steps p.tables e below (s₁.setTop (entryFrame m #[(.int p1), (.int p2), (.int p3), (.int p4), (.int p5), (.long q6)] maxLocals)) t := fun t k => R13 t (st15 t k)
  clear R13 st15 X12 e12
  have Z15 : n0 ≤ h15.size := Nat.le_trans Z12 (Keep.of_wr W15).1
  clear Z12
  have K15 : Keep h0 h15 [] := K12.wr W15 (Or.inr sz_b6)
  have N15 := Fr.snoc X15 N12 g_b6
  clear K12
  clear N12
  have V15 : Arv Z h15 b6 k6 .int (3 : Int32) [(.int x0), (.int x1), (.int x2)] (.int (0 : Int32)) := Arv.set Ar14 q14 S14 N14' H14 G14 rfl W15 2 rfl (Nat.le_of_ble_eq_true rfl)
  clear Ar14 q14 S14 N14' H14 G14 hin14 W15 V12
  have R16 : ∀ t, Steps p.tables e below (T15.setTop (mkF m 46 #[.val (.int p1), .val (.int p2), .val (.int p3), .val (.int p4), .val (.int p5), .val (.long q6), .second, .val (.int x0), .val (.int x1), .val (.int x2), .val (.ref b6), .unset, .unset, .unset] [(.int (4 : Int32))])) t → Steps p.tables e below (s₁.setTop (entryFrame m #[(.int p1), (.int p2), (.int p3), (.int p4), (.int p5), (.long q6)] maxLocals)) t := by
    intro t k
    refine R15 t ?_
    show Steps p.tables e below (T15.setTop (mkF m 43 #[.val (.int p1), .val (.int p2), .val (.int p3), .val (.int p4), .val (.int p5), .val (.long q6), .second, .val (.int x0), .val (.int x1), .val (.int x2), .unset, .unset, .unset, .unset] [(.ref b6)])) _
    refine XS.astore X15.here hx rfl (hb hby at_43) rfl rfl (l' := #[.val (.int p1), .val (.int p2), .val (.int p3), .val (.int p4), .val (.int p5), .val (.long q6), .second, .val (.int x0), .val (.int x1), .val (.int x2), .val (.ref b6), .unset, .unset, .unset]) rfl ?_
    show Steps p.tables e below (T15.setTop (mkF m 45 #[.val (.int p1), .val (.int p2), .val (.int p3), .val (.int p4), .val (.int p5), .val (.long q6), .second, .val (.int x0), .val (.int x1), .val (.int x2), .val (.ref b6), .unset, .unset, .unset] [])) _
    refine XS.iconst X15.here hx rfl (hb hby at_45) ?_
    exact k
  clear R15
  obtain ⟨T17, h17, k17, X17, e17, E17, A17, st17⟩ := newP X15 hx hZ (hw _ (List.mem_of_getElem? (i := 0) rfl)) e15 (g := (mkF m 46 #[.val (.int p1), .val (.int p2), .val (.int p3), .val (.int p4), .val (.int p5), .val (.long q6), .second, .val (.int x0), .val (.int x1), .val (.int x2), .val (.ref b6), .unset, .unset, .unset] [(.int (4 : Int32))])) rfl (hb hby at_46) rfl (by decide) (cap := 4) (by decide) (by decide) (by decide) (by decide)
  obtain ⟨b17, g17⟩ : ∃ z, z = h15.size := ⟨_, rfl⟩
  rw [← g17] at A17 st17
  have R17 : ∀ t, Steps p.tables e below (T17.setTop (mkF m 48 #[.val (.int p1), .val (.int p2), .val (.int p3), .val (.int p4), .val (.int p5), .val (.long q6), .second, .val (.int x0), .val (.int x1), .val (.int x2), .val (.ref b6), .unset, .unset, .unset] [(.ref b17)])) t → Steps p.tables e below (s₁.setTop (entryFrame m #[(.int p1), (.int p2), (.int p3), (.int p4), (.int p5), (.long q6)] maxLocals)) t := fun t k => R16 t (st17 t k)
  clear R16 st17 X15 e15
  have ne_b6_b17 : b6 ≠ b17 := Nat.ne_of_lt (Nat.lt_of_lt_of_le V15.lt (Nat.le_of_eq g17.symm))
  have g_b17 : n0 ≤ b17 := Nat.le_trans Z15 (Nat.le_of_eq g17.symm)
  have sz_b17 : h0.size ≤ b17 := Nat.le_trans K15.1 (Nat.le_of_eq g17.symm)
  have Z17 : n0 ≤ h17.size := Nat.le_trans Z15 E17.1
  clear Z15
  have K17 : Keep h0 h17 [] := K15.ext E17
  clear K15
  have f18 : Arv Z h17 b6 k6 .int (3 : Int32) [(.int x0), (.int x1), (.int x2)] (.int (0 : Int32)) := V15.ext E17
  clear V15
  clear E17
  have V17 : Arv Z h17 b17 k17 .int (4 : Int32) [(.int (0 : Int32)), (.int (0 : Int32)), (.int (0 : Int32)), (.int (0 : Int32))] (.int (0 : Int32)) := (Arv.new A17 (by decide)).pad (pad_rep [] (.int (0 : Int32)) 4)
  have R19 : ∀ t, Steps p.tables e below (T17.setTop (mkF m 51 #[.val (.int p1), .val (.int p2), .val (.int p3), .val (.int p4), .val (.int p5), .val (.long q6), .second, .val (.int x0), .val (.int x1), .val (.int x2), .val (.ref b6), .unset, .unset, .unset] [(.int p2), (.int (0 : Int32)), (.ref b17), (.ref b17)])) t → Steps p.tables e below (s₁.setTop (entryFrame m #[(.int p1), (.int p2), (.int p3), (.int p4), (.int p5), (.long q6)] maxLocals)) t := by
    intro t k
    refine R17 t ?_
    show Steps p.tables e below (T17.setTop (mkF m 48 #[.val (.int p1), .val (.int p2), .val (.int p3), .val (.int p4), .val (.int p5), .val (.long q6), .second, .val (.int x0), .val (.int x1), .val (.int x2), .val (.ref b6), .unset, .unset, .unset] [(.ref b17)])) _
    refine XS.dup X17.here hx rfl (hb hby at_48) rfl rfl ?_
    show Steps p.tables e below (T17.setTop (mkF m 49 #[.val (.int p1), .val (.int p2), .val (.int p3), .val (.int p4), .val (.int p5), .val (.long q6), .second, .val (.int x0), .val (.int x1), .val (.int x2), .val (.ref b6), .unset, .unset, .unset] [(.ref b17), (.ref b17)])) _
    refine XS.iconst X17.here hx rfl (hb hby at_49) ?_
    show Steps p.tables e below (T17.setTop (mkF m 50 #[.val (.int p1), .val (.int p2), .val (.int p3), .val (.int p4), .val (.int p5), .val (.long q6), .second, .val (.int x0), .val (.int x1), .val (.int x2), .val (.ref b6), .unset, .unset, .unset] [(.int (0 : Int32)), (.ref b17), (.ref b17)])) _
    refine XS.iloadN X17.here hx rfl (hb hby at_50) rfl ?_
    exact k
  clear R17
  obtain ⟨cl20, Ar20, q20, S20, N20', H20, G20⟩ := id V17
  have hin20 : ¬ ((0 : Int32) < 0 ∨ cl20.slots.size ≤ ((0 : Int32)).toNatClampNeg) := inb_of S20 ⟨by decide, by decide⟩
  obtain ⟨T21, h21, X21, e21, W21, st21⟩ := stI X17 hx hZ e17 Ar20 (j := (0 : Int32)) hin20 (g := (mkF m 51 #[.val (.int p1), .val (.int p2), .val (.int p3), .val (.int p4), .val (.int p5), .val (.long q6), .second, .val (.int x0), .val (.int x1), .val (.int x2), .val (.ref b6), .unset, .unset, .unset] [(.int p2), (.int (0 : Int32)), (.ref b17), (.ref b17)])) rfl rfl (hb hby at_51)
  have R21 : ∀ t, Steps p.tables e below (T21.setTop (mkF m 52 #[.val (.int p1), .val (.int p2), .val (.int p3), .val (.int p4), .val (.int p5), .val (.long q6), .second, .val (.int x0), .val (.int x1), .val (.int x2), .val (.ref b6), .unset, .unset, .unset] [(.ref b17)])) t → Steps p.tables e below (s₁.setTop (entryFrame m #[(.int p1), (.int p2), (.int p3), (.int p4), (.int p5), (.long q6)] maxLocals)) t := fun t k => R19 t (st21 t k)
  clear R19 st21 X17 e17
  have Z21 : n0 ≤ h21.size := Nat.le_trans Z17 (Keep.of_wr W21).1
  clear Z17
  have K21 : Keep h0 h21 [] := K17.wr W21 (Or.inr sz_b17)
  have N21 := Fr.snoc X21 N15 g_b17
  clear K17
  clear N15
  have f22 : Arv Z h21 b6 k6 .int (3 : Int32) [(.int x0), (.int x1), (.int x2)] (.int (0 : Int32)) := f18.other W21 ne_b6_b17
  clear f18
  have V21 : Arv Z h21 b17 k17 .int (4 : Int32) [(.int p2), (.int (0 : Int32)), (.int (0 : Int32)), (.int (0 : Int32))] (.int (0 : Int32)) := Arv.set Ar20 q20 S20 N20' H20 G20 rfl W21 0 rfl (Nat.le_of_ble_eq_true rfl)
  clear Ar20 q20 S20 N20' H20 G20 hin20 W21 V17
  have R23 : ∀ t, Steps p.tables e below (T21.setTop (mkF m 55 #[.val (.int p1), .val (.int p2), .val (.int p3), .val (.int p4), .val (.int p5), .val (.long q6), .second, .val (.int x0), .val (.int x1), .val (.int x2), .val (.ref b6), .unset, .unset, .unset] [(.int p3), (.int (1 : Int32)), (.ref b17), (.ref b17)])) t → Steps p.tables e below (s₁.setTop (entryFrame m #[(.int p1), (.int p2), (.int p3), (.int p4), (.int p5), (.long q6)] maxLocals)) t := by
    intro t k
    refine R21 t ?_
    show Steps p.tables e below (T21.setTop (mkF m 52 #[.val (.int p1), .val (.int p2), .val (.int p3), .val (.int p4), .val (.int p5), .val (.long q6), .second, .val (.int x0), .val (.int x1), .val (.int x2), .val (.ref b6), .unset, .unset, .unset] [(.ref b17)])) _
    refine XS.dup X21.here hx rfl (hb hby at_52) rfl rfl ?_
    show Steps p.tables e below (T21.setTop (mkF m 53 #[.val (.int p1), .val (.int p2), .val (.int p3), .val (.int p4), .val (.int p5), .val (.long q6), .second, .val (.int x0), .val (.int x1), .val (.int x2), .val (.ref b6), .unset, .unset, .unset] [(.ref b17), (.ref b17)])) _
    refine XS.iconst X21.here hx rfl (hb hby at_53) ?_
    show Steps p.tables e below (T21.setTop (mkF m 54 #[.val (.int p1), .val (.int p2), .val (.int p3), .val (.int p4), .val (.int p5), .val (.long q6), .second, .val (.int x0), .val (.int x1), .val (.int x2), .val (.ref b6), .unset, .unset, .unset] [(.int (1 : Int32)), (.ref b17), (.ref b17)])) _
    refine XS.iloadN X21.here hx rfl (hb hby at_54) rfl ?_
    exact k
  clear R21
  obtain ⟨cl24, Ar24, q24, S24, N24', H24, G24⟩ := id V21
  have hin24 : ¬ ((1 : Int32) < 0 ∨ cl24.slots.size ≤ ((1 : Int32)).toNatClampNeg) := inb_of S24 ⟨by decide, by decide⟩
  obtain ⟨T25, h25, X25, e25, W25, st25⟩ := stI X21 hx hZ e21 Ar24 (j := (1 : Int32)) hin24 (g := (mkF m 55 #[.val (.int p1), .val (.int p2), .val (.int p3), .val (.int p4), .val (.int p5), .val (.long q6), .second, .val (.int x0), .val (.int x1), .val (.int x2), .val (.ref b6), .unset, .unset, .unset] [(.int p3), (.int (1 : Int32)), (.ref b17), (.ref b17)])) rfl rfl (hb hby at_55)
  have R25 : ∀ t, Steps p.tables e below (T25.setTop (mkF m 56 #[.val (.int p1), .val (.int p2), .val (.int p3), .val (.int p4), .val (.int p5), .val (.long q6), .second, .val (.int x0), .val (.int x1), .val (.int x2), .val (.ref b6), .unset, .unset, .unset] [(.ref b17)])) t → Steps p.tables e below (s₁.setTop (entryFrame m #[(.int p1), (.int p2), (.int p3), (.int p4), (.int p5), (.long q6)] maxLocals)) t := fun t k => R23 t (st25 t k)
  clear R23 st25 X21 e21
  have Z25 : n0 ≤ h25.size := Nat.le_trans Z21 (Keep.of_wr W25).1
  clear Z21
  have K25 : Keep h0 h25 [] := K21.wr W25 (Or.inr sz_b17)
  have N25 := Fr.snoc X25 N21 g_b17
  clear K21
  clear N21
  have f26 : Arv Z h25 b6 k6 .int (3 : Int32) [(.int x0), (.int x1), (.int x2)] (.int (0 : Int32)) := f22.other W25 ne_b6_b17
  clear f22
  have V25 : Arv Z h25 b17 k17 .int (4 : Int32) [(.int p2), (.int p3), (.int (0 : Int32)), (.int (0 : Int32))] (.int (0 : Int32)) := Arv.set Ar24 q24 S24 N24' H24 G24 rfl W25 1 rfl (Nat.le_of_ble_eq_true rfl)
  clear Ar24 q24 S24 N24' H24 G24 hin24 W25 V21
  have R27 : ∀ t, Steps p.tables e below (T25.setTop (mkF m 59 #[.val (.int p1), .val (.int p2), .val (.int p3), .val (.int p4), .val (.int p5), .val (.long q6), .second, .val (.int x0), .val (.int x1), .val (.int x2), .val (.ref b6), .unset, .unset, .unset] [(.int p4), (.int (2 : Int32)), (.ref b17), (.ref b17)])) t → Steps p.tables e below (s₁.setTop (entryFrame m #[(.int p1), (.int p2), (.int p3), (.int p4), (.int p5), (.long q6)] maxLocals)) t := by
    intro t k
    refine R25 t ?_
    show Steps p.tables e below (T25.setTop (mkF m 56 #[.val (.int p1), .val (.int p2), .val (.int p3), .val (.int p4), .val (.int p5), .val (.long q6), .second, .val (.int x0), .val (.int x1), .val (.int x2), .val (.ref b6), .unset, .unset, .unset] [(.ref b17)])) _
    refine XS.dup X25.here hx rfl (hb hby at_56) rfl rfl ?_
    show Steps p.tables e below (T25.setTop (mkF m 57 #[.val (.int p1), .val (.int p2), .val (.int p3), .val (.int p4), .val (.int p5), .val (.long q6), .second, .val (.int x0), .val (.int x1), .val (.int x2), .val (.ref b6), .unset, .unset, .unset] [(.ref b17), (.ref b17)])) _
    refine XS.iconst X25.here hx rfl (hb hby at_57) ?_
    show Steps p.tables e below (T25.setTop (mkF m 58 #[.val (.int p1), .val (.int p2), .val (.int p3), .val (.int p4), .val (.int p5), .val (.long q6), .second, .val (.int x0), .val (.int x1), .val (.int x2), .val (.ref b6), .unset, .unset, .unset] [(.int (2 : Int32)), (.ref b17), (.ref b17)])) _
    refine XS.iloadN X25.here hx rfl (hb hby at_58) rfl ?_
    exact k
  clear R25
  obtain ⟨cl28, Ar28, q28, S28, N28', H28, G28⟩ := id V25
  have hin28 : ¬ ((2 : Int32) < 0 ∨ cl28.slots.size ≤ ((2 : Int32)).toNatClampNeg) := inb_of S28 ⟨by decide, by decide⟩
  obtain ⟨T29, h29, X29, e29, W29, st29⟩ := stI X25 hx hZ e25 Ar28 (j := (2 : Int32)) hin28 (g := (mkF m 59 #[.val (.int p1), .val (.int p2), .val (.int p3), .val (.int p4), .val (.int p5), .val (.long q6), .second, .val (.int x0), .val (.int x1), .val (.int x2), .val (.ref b6), .unset, .unset, .unset] [(.int p4), (.int (2 : Int32)), (.ref b17), (.ref b17)])) rfl rfl (hb hby at_59)
  have R29 : ∀ t, Steps p.tables e below (T29.setTop (mkF m 60 #[.val (.int p1), .val (.int p2), .val (.int p3), .val (.int p4), .val (.int p5), .val (.long q6), .second, .val (.int x0), .val (.int x1), .val (.int x2), .val (.ref b6), .unset, .unset, .unset] [(.ref b17)])) t → Steps p.tables e below (s₁.setTop (entryFrame m #[(.int p1), (.int p2), (.int p3), (.int p4), (.int p5), (.long q6)] maxLocals)) t := fun t k => R27 t (st29 t k)
  clear R27 st29 X25 e25
  have Z29 : n0 ≤ h29.size := Nat.le_trans Z25 (Keep.of_wr W29).1
  clear Z25
  have K29 : Keep h0 h29 [] := K25.wr W29 (Or.inr sz_b17)
  have N29 := Fr.snoc X29 N25 g_b17
  clear K25
  clear N25
  have f30 : Arv Z h29 b6 k6 .int (3 : Int32) [(.int x0), (.int x1), (.int x2)] (.int (0 : Int32)) := f26.other W29 ne_b6_b17
  clear f26
  have V29 : Arv Z h29 b17 k17 .int (4 : Int32) [(.int p2), (.int p3), (.int p4), (.int (0 : Int32))] (.int (0 : Int32)) := Arv.set Ar28 q28 S28 N28' H28 G28 rfl W29 2 rfl (Nat.le_of_ble_eq_true rfl)
  clear Ar28 q28 S28 N28' H28 G28 hin28 W29 V25
  have R31 : ∀ t, Steps p.tables e below (T29.setTop (mkF m 64 #[.val (.int p1), .val (.int p2), .val (.int p3), .val (.int p4), .val (.int p5), .val (.long q6), .second, .val (.int x0), .val (.int x1), .val (.int x2), .val (.ref b6), .unset, .unset, .unset] [(.int p5), (.int (3 : Int32)), (.ref b17), (.ref b17)])) t → Steps p.tables e below (s₁.setTop (entryFrame m #[(.int p1), (.int p2), (.int p3), (.int p4), (.int p5), (.long q6)] maxLocals)) t := by
    intro t k
    refine R29 t ?_
    show Steps p.tables e below (T29.setTop (mkF m 60 #[.val (.int p1), .val (.int p2), .val (.int p3), .val (.int p4), .val (.int p5), .val (.long q6), .second, .val (.int x0), .val (.int x1), .val (.int x2), .val (.ref b6), .unset, .unset, .unset] [(.ref b17)])) _
    refine XS.dup X29.here hx rfl (hb hby at_60) rfl rfl ?_
    show Steps p.tables e below (T29.setTop (mkF m 61 #[.val (.int p1), .val (.int p2), .val (.int p3), .val (.int p4), .val (.int p5), .val (.long q6), .second, .val (.int x0), .val (.int x1), .val (.int x2), .val (.ref b6), .unset, .unset, .unset] [(.ref b17), (.ref b17)])) _
    refine XS.iconst X29.here hx rfl (hb hby at_61) ?_
    show Steps p.tables e below (T29.setTop (mkF m 62 #[.val (.int p1), .val (.int p2), .val (.int p3), .val (.int p4), .val (.int p5), .val (.long q6), .second, .val (.int x0), .val (.int x1), .val (.int x2), .val (.ref b6), .unset, .unset, .unset] [(.int (3 : Int32)), (.ref b17), (.ref b17)])) _
    refine XS.iload X29.here hx rfl (hb hby at_62) rfl ?_
    exact k
  clear R29
  obtain ⟨cl32, Ar32, q32, S32, N32', H32, G32⟩ := id V29
  have hin32 : ¬ ((3 : Int32) < 0 ∨ cl32.slots.size ≤ ((3 : Int32)).toNatClampNeg) := inb_of S32 ⟨by decide, by decide⟩
  obtain ⟨T33, h33, X33, e33, W33, st33⟩ := stI X29 hx hZ e29 Ar32 (j := (3 : Int32)) hin32 (g := (mkF m 64 #[.val (.int p1), .val (.int p2), .val (.int p3), .val (.int p4), .val (.int p5), .val (.long q6), .second, .val (.int x0), .val (.int x1), .val (.int x2), .val (.ref b6), .unset, .unset, .unset] [(.int p5), (.int (3 : Int32)), (.ref b17), (.ref b17)])) rfl rfl (hb hby at_64)
  have R33 : ∀ t, Steps p.tables e below (T33.setTop (mkF m 65 #[.val (.int p1), .val (.int p2), .val (.int p3), .val (.int p4), .val (.int p5), .val (.long q6), .second, .val (.int x0), .val (.int x1), .val (.int x2), .val (.ref b6), .unset, .unset, .unset] [(.ref b17)])) t → Steps p.tables e below (s₁.setTop (entryFrame m #[(.int p1), (.int p2), (.int p3), (.int p4), (.int p5), (.long q6)] maxLocals)) t := fun t k => R31 t (st33 t k)
  clear R31 st33 X29 e29
  have Z33 : n0 ≤ h33.size := Nat.le_trans Z29 (Keep.of_wr W33).1
  clear Z29
  have K33 : Keep h0 h33 [] := K29.wr W33 (Or.inr sz_b17)
  have N33 := Fr.snoc X33 N29 g_b17
  clear K29
  clear N29
  have f34 : Arv Z h33 b6 k6 .int (3 : Int32) [(.int x0), (.int x1), (.int x2)] (.int (0 : Int32)) := f30.other W33 ne_b6_b17
  clear f30
  have V33 : Arv Z h33 b17 k17 .int (4 : Int32) [(.int p2), (.int p3), (.int p4), (.int p5)] (.int (0 : Int32)) := Arv.set Ar32 q32 S32 N32' H32 G32 rfl W33 3 rfl (Nat.le_of_ble_eq_true rfl)
  clear Ar32 q32 S32 N32' H32 G32 hin32 W33 V29
  have R35 : ∀ t, Steps p.tables e below (T33.setTop (mkF m 69 #[.val (.int p1), .val (.int p2), .val (.int p3), .val (.int p4), .val (.int p5), .val (.long q6), .second, .val (.int x0), .val (.int x1), .val (.int x2), .val (.ref b6), .val (.ref b17), .unset, .unset] [(.int (12 : Int32))])) t → Steps p.tables e below (s₁.setTop (entryFrame m #[(.int p1), (.int p2), (.int p3), (.int p4), (.int p5), (.long q6)] maxLocals)) t := by
    intro t k
    refine R33 t ?_
    show Steps p.tables e below (T33.setTop (mkF m 65 #[.val (.int p1), .val (.int p2), .val (.int p3), .val (.int p4), .val (.int p5), .val (.long q6), .second, .val (.int x0), .val (.int x1), .val (.int x2), .val (.ref b6), .unset, .unset, .unset] [(.ref b17)])) _
    refine XS.astore X33.here hx rfl (hb hby at_65) rfl rfl (l' := #[.val (.int p1), .val (.int p2), .val (.int p3), .val (.int p4), .val (.int p5), .val (.long q6), .second, .val (.int x0), .val (.int x1), .val (.int x2), .val (.ref b6), .val (.ref b17), .unset, .unset]) rfl ?_
    show Steps p.tables e below (T33.setTop (mkF m 67 #[.val (.int p1), .val (.int p2), .val (.int p3), .val (.int p4), .val (.int p5), .val (.long q6), .second, .val (.int x0), .val (.int x1), .val (.int x2), .val (.ref b6), .val (.ref b17), .unset, .unset] [])) _
    refine XS.bipush X33.here hx rfl (hb hby at_67) ?_
    exact k
  clear R33
  obtain ⟨T36, h36, k36, X36, e36, E36, A36, st36⟩ := newP X33 hx hZ (hw _ (List.mem_of_getElem? (i := 1) rfl)) e33 (g := (mkF m 69 #[.val (.int p1), .val (.int p2), .val (.int p3), .val (.int p4), .val (.int p5), .val (.long q6), .second, .val (.int x0), .val (.int x1), .val (.int x2), .val (.ref b6), .val (.ref b17), .unset, .unset] [(.int (12 : Int32))])) rfl (hb hby at_69) rfl (by decide) (cap := 12) (by decide) (by decide) (by decide) (by decide)
  obtain ⟨b36, g36⟩ : ∃ z, z = h33.size := ⟨_, rfl⟩
  rw [← g36] at A36 st36
  have R36 : ∀ t, Steps p.tables e below (T36.setTop (mkF m 71 #[.val (.int p1), .val (.int p2), .val (.int p3), .val (.int p4), .val (.int p5), .val (.long q6), .second, .val (.int x0), .val (.int x1), .val (.int x2), .val (.ref b6), .val (.ref b17), .unset, .unset] [(.ref b36)])) t → Steps p.tables e below (s₁.setTop (entryFrame m #[(.int p1), (.int p2), (.int p3), (.int p4), (.int p5), (.long q6)] maxLocals)) t := fun t k => R35 t (st36 t k)
  clear R35 st36 X33 e33
  have ne_b17_b36 : b17 ≠ b36 := Nat.ne_of_lt (Nat.lt_of_lt_of_le V33.lt (Nat.le_of_eq g36.symm))
  have ne_b6_b36 : b6 ≠ b36 := Nat.ne_of_lt (Nat.lt_of_lt_of_le f34.lt (Nat.le_of_eq g36.symm))
  have g_b36 : n0 ≤ b36 := Nat.le_trans Z33 (Nat.le_of_eq g36.symm)
  have sz_b36 : h0.size ≤ b36 := Nat.le_trans K33.1 (Nat.le_of_eq g36.symm)
  have Z36 : n0 ≤ h36.size := Nat.le_trans Z33 E36.1
  clear Z33
  have K36 : Keep h0 h36 [] := K33.ext E36
  clear K33
  have f37 : Arv Z h36 b6 k6 .int (3 : Int32) [(.int x0), (.int x1), (.int x2)] (.int (0 : Int32)) := f34.ext E36
  clear f34
  have f38 : Arv Z h36 b17 k17 .int (4 : Int32) [(.int p2), (.int p3), (.int p4), (.int p5)] (.int (0 : Int32)) := V33.ext E36
  clear V33
  clear E36
  have V36 : Arv Z h36 b36 k36 .long (12 : Int32) [(.long (0 : Int64)), (.long (0 : Int64)), (.long (0 : Int64)), (.long (0 : Int64)), (.long (0 : Int64)), (.long (0 : Int64)), (.long (0 : Int64)), (.long (0 : Int64)), (.long (0 : Int64)), (.long (0 : Int64)), (.long (0 : Int64)), (.long (0 : Int64))] (.long (0 : Int64)) := (Arv.new A36 (by decide)).pad (pad_rep [] (.long (0 : Int64)) 12)
  have R39 : ∀ t, Steps p.tables e below (T36.setTop (mkF m 78 #[.val (.int p1), .val (.int p2), .val (.int p3), .val (.int p4), .val (.int p5), .val (.long q6), .second, .val (.int x0), .val (.int x1), .val (.int x2), .val (.ref b6), .val (.ref b17), .val (.ref b36), .unset] [(.long q6), (.int (0 : Int32)), (.ref b36)])) t → Steps p.tables e below (s₁.setTop (entryFrame m #[(.int p1), (.int p2), (.int p3), (.int p4), (.int p5), (.long q6)] maxLocals)) t := by
    intro t k
    refine R36 t ?_
    show Steps p.tables e below (T36.setTop (mkF m 71 #[.val (.int p1), .val (.int p2), .val (.int p3), .val (.int p4), .val (.int p5), .val (.long q6), .second, .val (.int x0), .val (.int x1), .val (.int x2), .val (.ref b6), .val (.ref b17), .unset, .unset] [(.ref b36)])) _
    refine XS.astore X36.here hx rfl (hb hby at_71) rfl rfl (l' := #[.val (.int p1), .val (.int p2), .val (.int p3), .val (.int p4), .val (.int p5), .val (.long q6), .second, .val (.int x0), .val (.int x1), .val (.int x2), .val (.ref b6), .val (.ref b17), .val (.ref b36), .unset]) rfl ?_
    show Steps p.tables e below (T36.setTop (mkF m 73 #[.val (.int p1), .val (.int p2), .val (.int p3), .val (.int p4), .val (.int p5), .val (.long q6), .second, .val (.int x0), .val (.int x1), .val (.int x2), .val (.ref b6), .val (.ref b17), .val (.ref b36), .unset] [])) _
    refine XS.aload X36.here hx rfl (hb hby at_73) rfl rfl ?_
    show Steps p.tables e below (T36.setTop (mkF m 75 #[.val (.int p1), .val (.int p2), .val (.int p3), .val (.int p4), .val (.int p5), .val (.long q6), .second, .val (.int x0), .val (.int x1), .val (.int x2), .val (.ref b6), .val (.ref b17), .val (.ref b36), .unset] [(.ref b36)])) _
    refine XS.iconst X36.here hx rfl (hb hby at_75) ?_
    show Steps p.tables e below (T36.setTop (mkF m 76 #[.val (.int p1), .val (.int p2), .val (.int p3), .val (.int p4), .val (.int p5), .val (.long q6), .second, .val (.int x0), .val (.int x1), .val (.int x2), .val (.ref b6), .val (.ref b17), .val (.ref b36), .unset] [(.int (0 : Int32)), (.ref b36)])) _
    refine XS.lload X36.here hx rfl (hb hby at_76) rfl ?_
    exact k
  clear R36
  obtain ⟨cl40, Ar40, q40, S40, N40', H40, G40⟩ := id V36
  have hin40 : ¬ ((0 : Int32) < 0 ∨ cl40.slots.size ≤ ((0 : Int32)).toNatClampNeg) := inb_of S40 ⟨by decide, by decide⟩
  obtain ⟨T41, h41, X41, e41, W41, st41⟩ := stJ X36 hx hZ e36 Ar40 (j := (0 : Int32)) hin40 (g := (mkF m 78 #[.val (.int p1), .val (.int p2), .val (.int p3), .val (.int p4), .val (.int p5), .val (.long q6), .second, .val (.int x0), .val (.int x1), .val (.int x2), .val (.ref b6), .val (.ref b17), .val (.ref b36), .unset] [(.long q6), (.int (0 : Int32)), (.ref b36)])) rfl rfl (hb hby at_78)
  have R41 : ∀ t, Steps p.tables e below (T41.setTop (mkF m 79 #[.val (.int p1), .val (.int p2), .val (.int p3), .val (.int p4), .val (.int p5), .val (.long q6), .second, .val (.int x0), .val (.int x1), .val (.int x2), .val (.ref b6), .val (.ref b17), .val (.ref b36), .unset] [])) t → Steps p.tables e below (s₁.setTop (entryFrame m #[(.int p1), (.int p2), (.int p3), (.int p4), (.int p5), (.long q6)] maxLocals)) t := fun t k => R39 t (st41 t k)
  clear R39 st41 X36 e36
  have Z41 : n0 ≤ h41.size := Nat.le_trans Z36 (Keep.of_wr W41).1
  clear Z36
  have K41 : Keep h0 h41 [] := K36.wr W41 (Or.inr sz_b36)
  have N41 := Fr.snoc X41 N33 g_b36
  clear K36
  clear N33
  have f42 : Arv Z h41 b6 k6 .int (3 : Int32) [(.int x0), (.int x1), (.int x2)] (.int (0 : Int32)) := f37.other W41 ne_b6_b36
  clear f37
  have f43 : Arv Z h41 b17 k17 .int (4 : Int32) [(.int p2), (.int p3), (.int p4), (.int p5)] (.int (0 : Int32)) := f38.other W41 ne_b17_b36
  clear f38
  have V41 : Arv Z h41 b36 k36 .long (12 : Int32) [(.long q6), (.long (0 : Int64)), (.long (0 : Int64)), (.long (0 : Int64)), (.long (0 : Int64)), (.long (0 : Int64)), (.long (0 : Int64)), (.long (0 : Int64)), (.long (0 : Int64)), (.long (0 : Int64)), (.long (0 : Int64)), (.long (0 : Int64))] (.long (0 : Int64)) := Arv.set Ar40 q40 S40 N40' H40 G40 rfl W41 0 rfl (Nat.le_of_ble_eq_true rfl)
  clear Ar40 q40 S40 N40' H40 G40 hin40 W41 V36
  have R44 : ∀ t, Steps p.tables e below (T41.setTop (mkF m 86 #[.val (.int p1), .val (.int p2), .val (.int p3), .val (.int p4), .val (.int p5), .val (.long q6), .second, .val (.int x0), .val (.int x1), .val (.int x2), .val (.ref b6), .val (.ref b17), .val (.ref b36), .unset] [(.long (q6 + (1 : Int64))), (.int (1 : Int32)), (.ref b36)])) t → Steps p.tables e below (s₁.setTop (entryFrame m #[(.int p1), (.int p2), (.int p3), (.int p4), (.int p5), (.long q6)] maxLocals)) t := by
    intro t k
    refine R41 t ?_
    show Steps p.tables e below (T41.setTop (mkF m 79 #[.val (.int p1), .val (.int p2), .val (.int p3), .val (.int p4), .val (.int p5), .val (.long q6), .second, .val (.int x0), .val (.int x1), .val (.int x2), .val (.ref b6), .val (.ref b17), .val (.ref b36), .unset] [])) _
    refine XS.aload X41.here hx rfl (hb hby at_79) rfl rfl ?_
    show Steps p.tables e below (T41.setTop (mkF m 81 #[.val (.int p1), .val (.int p2), .val (.int p3), .val (.int p4), .val (.int p5), .val (.long q6), .second, .val (.int x0), .val (.int x1), .val (.int x2), .val (.ref b6), .val (.ref b17), .val (.ref b36), .unset] [(.ref b36)])) _
    refine XS.iconst X41.here hx rfl (hb hby at_81) ?_
    show Steps p.tables e below (T41.setTop (mkF m 82 #[.val (.int p1), .val (.int p2), .val (.int p3), .val (.int p4), .val (.int p5), .val (.long q6), .second, .val (.int x0), .val (.int x1), .val (.int x2), .val (.ref b6), .val (.ref b17), .val (.ref b36), .unset] [(.int (1 : Int32)), (.ref b36)])) _
    refine XS.lload X41.here hx rfl (hb hby at_82) rfl ?_
    show Steps p.tables e below (T41.setTop (mkF m 84 #[.val (.int p1), .val (.int p2), .val (.int p3), .val (.int p4), .val (.int p5), .val (.long q6), .second, .val (.int x0), .val (.int x1), .val (.int x2), .val (.ref b6), .val (.ref b17), .val (.ref b36), .unset] [(.long q6), (.int (1 : Int32)), (.ref b36)])) _
    refine XS.lconst X41.here hx rfl (hb hby at_84) ?_
    show Steps p.tables e below (T41.setTop (mkF m 85 #[.val (.int p1), .val (.int p2), .val (.int p3), .val (.int p4), .val (.int p5), .val (.long q6), .second, .val (.int x0), .val (.int x1), .val (.int x2), .val (.ref b6), .val (.ref b17), .val (.ref b36), .unset] [(.long (1 : Int64)), (.long q6), (.int (1 : Int32)), (.ref b36)])) _
    refine XS.ladd X41.here hx rfl (hb hby at_85) rfl ?_
    exact k
  clear R41
  obtain ⟨cl45, Ar45, q45, S45, N45', H45, G45⟩ := id V41
  have hin45 : ¬ ((1 : Int32) < 0 ∨ cl45.slots.size ≤ ((1 : Int32)).toNatClampNeg) := inb_of S45 ⟨by decide, by decide⟩
  obtain ⟨T46, h46, X46, e46, W46, st46⟩ := stJ X41 hx hZ e41 Ar45 (j := (1 : Int32)) hin45 (g := (mkF m 86 #[.val (.int p1), .val (.int p2), .val (.int p3), .val (.int p4), .val (.int p5), .val (.long q6), .second, .val (.int x0), .val (.int x1), .val (.int x2), .val (.ref b6), .val (.ref b17), .val (.ref b36), .unset] [(.long (q6 + (1 : Int64))), (.int (1 : Int32)), (.ref b36)])) rfl rfl (hb hby at_86)
  have R46 : ∀ t, Steps p.tables e below (T46.setTop (mkF m 87 #[.val (.int p1), .val (.int p2), .val (.int p3), .val (.int p4), .val (.int p5), .val (.long q6), .second, .val (.int x0), .val (.int x1), .val (.int x2), .val (.ref b6), .val (.ref b17), .val (.ref b36), .unset] [])) t → Steps p.tables e below (s₁.setTop (entryFrame m #[(.int p1), (.int p2), (.int p3), (.int p4), (.int p5), (.long q6)] maxLocals)) t := fun t k => R44 t (st46 t k)
  clear R44 st46 X41 e41
  have Z46 : n0 ≤ h46.size := Nat.le_trans Z41 (Keep.of_wr W46).1
  clear Z41
  have K46 : Keep h0 h46 [] := K41.wr W46 (Or.inr sz_b36)
  have N46 := Fr.snoc X46 N41 g_b36
  clear K41
  clear N41
  have f47 : Arv Z h46 b6 k6 .int (3 : Int32) [(.int x0), (.int x1), (.int x2)] (.int (0 : Int32)) := f42.other W46 ne_b6_b36
  clear f42
  have f48 : Arv Z h46 b17 k17 .int (4 : Int32) [(.int p2), (.int p3), (.int p4), (.int p5)] (.int (0 : Int32)) := f43.other W46 ne_b17_b36
  clear f43
  have V46 : Arv Z h46 b36 k36 .long (12 : Int32) [(.long q6), (.long (q6 + (1 : Int64))), (.long (0 : Int64)), (.long (0 : Int64)), (.long (0 : Int64)), (.long (0 : Int64)), (.long (0 : Int64)), (.long (0 : Int64)), (.long (0 : Int64)), (.long (0 : Int64)), (.long (0 : Int64)), (.long (0 : Int64))] (.long (0 : Int64)) := Arv.set Ar45 q45 S45 N45' H45 G45 rfl W46 1 rfl (Nat.le_of_ble_eq_true rfl)
  clear Ar45 q45 S45 N45' H45 G45 hin45 W46 V41
  have R49 : ∀ t, Steps p.tables e below (T46.setTop (mkF m 96 #[.val (.int p1), .val (.int p2), .val (.int p3), .val (.int p4), .val (.int p5), .val (.long q6), .second, .val (.int x0), .val (.int x1), .val (.int x2), .val (.ref b6), .val (.ref b17), .val (.ref b36), .unset] [(.long (q6 + (2 : Int64))), (.int (2 : Int32)), (.ref b36)])) t → Steps p.tables e below (s₁.setTop (entryFrame m #[(.int p1), (.int p2), (.int p3), (.int p4), (.int p5), (.long q6)] maxLocals)) t := by
    intro t k
    refine R46 t ?_
    show Steps p.tables e below (T46.setTop (mkF m 87 #[.val (.int p1), .val (.int p2), .val (.int p3), .val (.int p4), .val (.int p5), .val (.long q6), .second, .val (.int x0), .val (.int x1), .val (.int x2), .val (.ref b6), .val (.ref b17), .val (.ref b36), .unset] [])) _
    refine XS.aload X46.here hx rfl (hb hby at_87) rfl rfl ?_
    show Steps p.tables e below (T46.setTop (mkF m 89 #[.val (.int p1), .val (.int p2), .val (.int p3), .val (.int p4), .val (.int p5), .val (.long q6), .second, .val (.int x0), .val (.int x1), .val (.int x2), .val (.ref b6), .val (.ref b17), .val (.ref b36), .unset] [(.ref b36)])) _
    refine XS.iconst X46.here hx rfl (hb hby at_89) ?_
    show Steps p.tables e below (T46.setTop (mkF m 90 #[.val (.int p1), .val (.int p2), .val (.int p3), .val (.int p4), .val (.int p5), .val (.long q6), .second, .val (.int x0), .val (.int x1), .val (.int x2), .val (.ref b6), .val (.ref b17), .val (.ref b36), .unset] [(.int (2 : Int32)), (.ref b36)])) _
    refine XS.lload X46.here hx rfl (hb hby at_90) rfl ?_
    show Steps p.tables e below (T46.setTop (mkF m 92 #[.val (.int p1), .val (.int p2), .val (.int p3), .val (.int p4), .val (.int p5), .val (.long q6), .second, .val (.int x0), .val (.int x1), .val (.int x2), .val (.ref b6), .val (.ref b17), .val (.ref b36), .unset] [(.long q6), (.int (2 : Int32)), (.ref b36)])) _
    refine X46.ldc2Long hx hown (mvT hZ (hw _ (List.mem_of_getElem? (i := 2) rfl))) (g := (mkF m 92 #[.val (.int p1), .val (.int p2), .val (.int p3), .val (.int p4), .val (.int p5), .val (.long q6), .second, .val (.int x0), .val (.int x1), .val (.int x2), .val (.ref b6), .val (.ref b17), .val (.ref b36), .unset] [(.long q6), (.int (2 : Int32)), (.ref b36)])) rfl (hb hby at_92) _ ?_
    show Steps p.tables e below (T46.setTop (mkF m 95 #[.val (.int p1), .val (.int p2), .val (.int p3), .val (.int p4), .val (.int p5), .val (.long q6), .second, .val (.int x0), .val (.int x1), .val (.int x2), .val (.ref b6), .val (.ref b17), .val (.ref b36), .unset] [(.long (2 : Int64)), (.long q6), (.int (2 : Int32)), (.ref b36)])) _
    refine XS.ladd X46.here hx rfl (hb hby at_95) rfl ?_
    exact k
  clear R46
  obtain ⟨cl50, Ar50, q50, S50, N50', H50, G50⟩ := id V46
  have hin50 : ¬ ((2 : Int32) < 0 ∨ cl50.slots.size ≤ ((2 : Int32)).toNatClampNeg) := inb_of S50 ⟨by decide, by decide⟩
  obtain ⟨T51, h51, X51, e51, W51, st51⟩ := stJ X46 hx hZ e46 Ar50 (j := (2 : Int32)) hin50 (g := (mkF m 96 #[.val (.int p1), .val (.int p2), .val (.int p3), .val (.int p4), .val (.int p5), .val (.long q6), .second, .val (.int x0), .val (.int x1), .val (.int x2), .val (.ref b6), .val (.ref b17), .val (.ref b36), .unset] [(.long (q6 + (2 : Int64))), (.int (2 : Int32)), (.ref b36)])) rfl rfl (hb hby at_96)
  have R51 : ∀ t, Steps p.tables e below (T51.setTop (mkF m 97 #[.val (.int p1), .val (.int p2), .val (.int p3), .val (.int p4), .val (.int p5), .val (.long q6), .second, .val (.int x0), .val (.int x1), .val (.int x2), .val (.ref b6), .val (.ref b17), .val (.ref b36), .unset] [])) t → Steps p.tables e below (s₁.setTop (entryFrame m #[(.int p1), (.int p2), (.int p3), (.int p4), (.int p5), (.long q6)] maxLocals)) t := fun t k => R49 t (st51 t k)
  clear R49 st51 X46 e46
  have Z51 : n0 ≤ h51.size := Nat.le_trans Z46 (Keep.of_wr W51).1
  clear Z46
  have K51 : Keep h0 h51 [] := K46.wr W51 (Or.inr sz_b36)
  have N51 := Fr.snoc X51 N46 g_b36
  clear K46
  clear N46
  have f52 : Arv Z h51 b6 k6 .int (3 : Int32) [(.int x0), (.int x1), (.int x2)] (.int (0 : Int32)) := f47.other W51 ne_b6_b36
  clear f47
  have f53 : Arv Z h51 b17 k17 .int (4 : Int32) [(.int p2), (.int p3), (.int p4), (.int p5)] (.int (0 : Int32)) := f48.other W51 ne_b17_b36
  clear f48
  have V51 : Arv Z h51 b36 k36 .long (12 : Int32) [(.long q6), (.long (q6 + (1 : Int64))), (.long (q6 + (2 : Int64))), (.long (0 : Int64)), (.long (0 : Int64)), (.long (0 : Int64)), (.long (0 : Int64)), (.long (0 : Int64)), (.long (0 : Int64)), (.long (0 : Int64)), (.long (0 : Int64)), (.long (0 : Int64))] (.long (0 : Int64)) := Arv.set Ar50 q50 S50 N50' H50 G50 rfl W51 2 rfl (Nat.le_of_ble_eq_true rfl)
  clear Ar50 q50 S50 N50' H50 G50 hin50 W51 V46
  have R54 : ∀ t, Steps p.tables e below (T51.setTop (mkF m 106 #[.val (.int p1), .val (.int p2), .val (.int p3), .val (.int p4), .val (.int p5), .val (.long q6), .second, .val (.int x0), .val (.int x1), .val (.int x2), .val (.ref b6), .val (.ref b17), .val (.ref b36), .unset] [(.long (q6 + (3 : Int64))), (.int (3 : Int32)), (.ref b36)])) t → Steps p.tables e below (s₁.setTop (entryFrame m #[(.int p1), (.int p2), (.int p3), (.int p4), (.int p5), (.long q6)] maxLocals)) t := by
    intro t k
    refine R51 t ?_
    show Steps p.tables e below (T51.setTop (mkF m 97 #[.val (.int p1), .val (.int p2), .val (.int p3), .val (.int p4), .val (.int p5), .val (.long q6), .second, .val (.int x0), .val (.int x1), .val (.int x2), .val (.ref b6), .val (.ref b17), .val (.ref b36), .unset] [])) _
    refine XS.aload X51.here hx rfl (hb hby at_97) rfl rfl ?_
    show Steps p.tables e below (T51.setTop (mkF m 99 #[.val (.int p1), .val (.int p2), .val (.int p3), .val (.int p4), .val (.int p5), .val (.long q6), .second, .val (.int x0), .val (.int x1), .val (.int x2), .val (.ref b6), .val (.ref b17), .val (.ref b36), .unset] [(.ref b36)])) _
    refine XS.iconst X51.here hx rfl (hb hby at_99) ?_
    show Steps p.tables e below (T51.setTop (mkF m 100 #[.val (.int p1), .val (.int p2), .val (.int p3), .val (.int p4), .val (.int p5), .val (.long q6), .second, .val (.int x0), .val (.int x1), .val (.int x2), .val (.ref b6), .val (.ref b17), .val (.ref b36), .unset] [(.int (3 : Int32)), (.ref b36)])) _
    refine XS.lload X51.here hx rfl (hb hby at_100) rfl ?_
    show Steps p.tables e below (T51.setTop (mkF m 102 #[.val (.int p1), .val (.int p2), .val (.int p3), .val (.int p4), .val (.int p5), .val (.long q6), .second, .val (.int x0), .val (.int x1), .val (.int x2), .val (.ref b6), .val (.ref b17), .val (.ref b36), .unset] [(.long q6), (.int (3 : Int32)), (.ref b36)])) _
    refine X51.ldc2Long hx hown (mvT hZ (hw _ (List.mem_of_getElem? (i := 3) rfl))) (g := (mkF m 102 #[.val (.int p1), .val (.int p2), .val (.int p3), .val (.int p4), .val (.int p5), .val (.long q6), .second, .val (.int x0), .val (.int x1), .val (.int x2), .val (.ref b6), .val (.ref b17), .val (.ref b36), .unset] [(.long q6), (.int (3 : Int32)), (.ref b36)])) rfl (hb hby at_102) _ ?_
    show Steps p.tables e below (T51.setTop (mkF m 105 #[.val (.int p1), .val (.int p2), .val (.int p3), .val (.int p4), .val (.int p5), .val (.long q6), .second, .val (.int x0), .val (.int x1), .val (.int x2), .val (.ref b6), .val (.ref b17), .val (.ref b36), .unset] [(.long (3 : Int64)), (.long q6), (.int (3 : Int32)), (.ref b36)])) _
    refine XS.ladd X51.here hx rfl (hb hby at_105) rfl ?_
    exact k
  clear R51
  obtain ⟨cl55, Ar55, q55, S55, N55', H55, G55⟩ := id V51
  have hin55 : ¬ ((3 : Int32) < 0 ∨ cl55.slots.size ≤ ((3 : Int32)).toNatClampNeg) := inb_of S55 ⟨by decide, by decide⟩
  obtain ⟨T56, h56, X56, e56, W56, st56⟩ := stJ X51 hx hZ e51 Ar55 (j := (3 : Int32)) hin55 (g := (mkF m 106 #[.val (.int p1), .val (.int p2), .val (.int p3), .val (.int p4), .val (.int p5), .val (.long q6), .second, .val (.int x0), .val (.int x1), .val (.int x2), .val (.ref b6), .val (.ref b17), .val (.ref b36), .unset] [(.long (q6 + (3 : Int64))), (.int (3 : Int32)), (.ref b36)])) rfl rfl (hb hby at_106)
  have R56 : ∀ t, Steps p.tables e below (T56.setTop (mkF m 107 #[.val (.int p1), .val (.int p2), .val (.int p3), .val (.int p4), .val (.int p5), .val (.long q6), .second, .val (.int x0), .val (.int x1), .val (.int x2), .val (.ref b6), .val (.ref b17), .val (.ref b36), .unset] [])) t → Steps p.tables e below (s₁.setTop (entryFrame m #[(.int p1), (.int p2), (.int p3), (.int p4), (.int p5), (.long q6)] maxLocals)) t := fun t k => R54 t (st56 t k)
  clear R54 st56 X51 e51
  have Z56 : n0 ≤ h56.size := Nat.le_trans Z51 (Keep.of_wr W56).1
  clear Z51
  have K56 : Keep h0 h56 [] := K51.wr W56 (Or.inr sz_b36)
  have N56 := Fr.snoc X56 N51 g_b36
  clear K51
  clear N51
  have f57 : Arv Z h56 b6 k6 .int (3 : Int32) [(.int x0), (.int x1), (.int x2)] (.int (0 : Int32)) := f52.other W56 ne_b6_b36
  clear f52
  have f58 : Arv Z h56 b17 k17 .int (4 : Int32) [(.int p2), (.int p3), (.int p4), (.int p5)] (.int (0 : Int32)) := f53.other W56 ne_b17_b36
  clear f53
  have V56 : Arv Z h56 b36 k36 .long (12 : Int32) [(.long q6), (.long (q6 + (1 : Int64))), (.long (q6 + (2 : Int64))), (.long (q6 + (3 : Int64))), (.long (0 : Int64)), (.long (0 : Int64)), (.long (0 : Int64)), (.long (0 : Int64)), (.long (0 : Int64)), (.long (0 : Int64)), (.long (0 : Int64)), (.long (0 : Int64))] (.long (0 : Int64)) := Arv.set Ar55 q55 S55 N55' H55 G55 rfl W56 3 rfl (Nat.le_of_ble_eq_true rfl)
  clear Ar55 q55 S55 N55' H55 G55 hin55 W56 V51
  have R59 : ∀ t, Steps p.tables e below (T56.setTop (mkF m 116 #[.val (.int p1), .val (.int p2), .val (.int p3), .val (.int p4), .val (.int p5), .val (.long q6), .second, .val (.int x0), .val (.int x1), .val (.int x2), .val (.ref b6), .val (.ref b17), .val (.ref b36), .unset] [(.long (q6 + (4 : Int64))), (.int (4 : Int32)), (.ref b36)])) t → Steps p.tables e below (s₁.setTop (entryFrame m #[(.int p1), (.int p2), (.int p3), (.int p4), (.int p5), (.long q6)] maxLocals)) t := by
    intro t k
    refine R56 t ?_
    show Steps p.tables e below (T56.setTop (mkF m 107 #[.val (.int p1), .val (.int p2), .val (.int p3), .val (.int p4), .val (.int p5), .val (.long q6), .second, .val (.int x0), .val (.int x1), .val (.int x2), .val (.ref b6), .val (.ref b17), .val (.ref b36), .unset] [])) _
    refine XS.aload X56.here hx rfl (hb hby at_107) rfl rfl ?_
    show Steps p.tables e below (T56.setTop (mkF m 109 #[.val (.int p1), .val (.int p2), .val (.int p3), .val (.int p4), .val (.int p5), .val (.long q6), .second, .val (.int x0), .val (.int x1), .val (.int x2), .val (.ref b6), .val (.ref b17), .val (.ref b36), .unset] [(.ref b36)])) _
    refine XS.iconst X56.here hx rfl (hb hby at_109) ?_
    show Steps p.tables e below (T56.setTop (mkF m 110 #[.val (.int p1), .val (.int p2), .val (.int p3), .val (.int p4), .val (.int p5), .val (.long q6), .second, .val (.int x0), .val (.int x1), .val (.int x2), .val (.ref b6), .val (.ref b17), .val (.ref b36), .unset] [(.int (4 : Int32)), (.ref b36)])) _
    refine XS.lload X56.here hx rfl (hb hby at_110) rfl ?_
    show Steps p.tables e below (T56.setTop (mkF m 112 #[.val (.int p1), .val (.int p2), .val (.int p3), .val (.int p4), .val (.int p5), .val (.long q6), .second, .val (.int x0), .val (.int x1), .val (.int x2), .val (.ref b6), .val (.ref b17), .val (.ref b36), .unset] [(.long q6), (.int (4 : Int32)), (.ref b36)])) _
    refine X56.ldc2Long hx hown (mvT hZ (hw _ (List.mem_of_getElem? (i := 4) rfl))) (g := (mkF m 112 #[.val (.int p1), .val (.int p2), .val (.int p3), .val (.int p4), .val (.int p5), .val (.long q6), .second, .val (.int x0), .val (.int x1), .val (.int x2), .val (.ref b6), .val (.ref b17), .val (.ref b36), .unset] [(.long q6), (.int (4 : Int32)), (.ref b36)])) rfl (hb hby at_112) _ ?_
    show Steps p.tables e below (T56.setTop (mkF m 115 #[.val (.int p1), .val (.int p2), .val (.int p3), .val (.int p4), .val (.int p5), .val (.long q6), .second, .val (.int x0), .val (.int x1), .val (.int x2), .val (.ref b6), .val (.ref b17), .val (.ref b36), .unset] [(.long (4 : Int64)), (.long q6), (.int (4 : Int32)), (.ref b36)])) _
    refine XS.ladd X56.here hx rfl (hb hby at_115) rfl ?_
    exact k
  clear R56
  obtain ⟨cl60, Ar60, q60, S60, N60', H60, G60⟩ := id V56
  have hin60 : ¬ ((4 : Int32) < 0 ∨ cl60.slots.size ≤ ((4 : Int32)).toNatClampNeg) := inb_of S60 ⟨by decide, by decide⟩
  obtain ⟨T61, h61, X61, e61, W61, st61⟩ := stJ X56 hx hZ e56 Ar60 (j := (4 : Int32)) hin60 (g := (mkF m 116 #[.val (.int p1), .val (.int p2), .val (.int p3), .val (.int p4), .val (.int p5), .val (.long q6), .second, .val (.int x0), .val (.int x1), .val (.int x2), .val (.ref b6), .val (.ref b17), .val (.ref b36), .unset] [(.long (q6 + (4 : Int64))), (.int (4 : Int32)), (.ref b36)])) rfl rfl (hb hby at_116)
  have R61 : ∀ t, Steps p.tables e below (T61.setTop (mkF m 117 #[.val (.int p1), .val (.int p2), .val (.int p3), .val (.int p4), .val (.int p5), .val (.long q6), .second, .val (.int x0), .val (.int x1), .val (.int x2), .val (.ref b6), .val (.ref b17), .val (.ref b36), .unset] [])) t → Steps p.tables e below (s₁.setTop (entryFrame m #[(.int p1), (.int p2), (.int p3), (.int p4), (.int p5), (.long q6)] maxLocals)) t := fun t k => R59 t (st61 t k)
  clear R59 st61 X56 e56
  have Z61 : n0 ≤ h61.size := Nat.le_trans Z56 (Keep.of_wr W61).1
  clear Z56
  have K61 : Keep h0 h61 [] := K56.wr W61 (Or.inr sz_b36)
  have N61 := Fr.snoc X61 N56 g_b36
  clear K56
  clear N56
  have f62 : Arv Z h61 b6 k6 .int (3 : Int32) [(.int x0), (.int x1), (.int x2)] (.int (0 : Int32)) := f57.other W61 ne_b6_b36
  clear f57
  have f63 : Arv Z h61 b17 k17 .int (4 : Int32) [(.int p2), (.int p3), (.int p4), (.int p5)] (.int (0 : Int32)) := f58.other W61 ne_b17_b36
  clear f58
  have V61 : Arv Z h61 b36 k36 .long (12 : Int32) [(.long q6), (.long (q6 + (1 : Int64))), (.long (q6 + (2 : Int64))), (.long (q6 + (3 : Int64))), (.long (q6 + (4 : Int64))), (.long (0 : Int64)), (.long (0 : Int64)), (.long (0 : Int64)), (.long (0 : Int64)), (.long (0 : Int64)), (.long (0 : Int64)), (.long (0 : Int64))] (.long (0 : Int64)) := Arv.set Ar60 q60 S60 N60' H60 G60 rfl W61 4 rfl (Nat.le_of_ble_eq_true rfl)
  clear Ar60 q60 S60 N60' H60 G60 hin60 W61 V56
  have R64 : ∀ t, Steps p.tables e below (T61.setTop (mkF m 126 #[.val (.int p1), .val (.int p2), .val (.int p3), .val (.int p4), .val (.int p5), .val (.long q6), .second, .val (.int x0), .val (.int x1), .val (.int x2), .val (.ref b6), .val (.ref b17), .val (.ref b36), .unset] [(.long (q6 + (5 : Int64))), (.int (5 : Int32)), (.ref b36)])) t → Steps p.tables e below (s₁.setTop (entryFrame m #[(.int p1), (.int p2), (.int p3), (.int p4), (.int p5), (.long q6)] maxLocals)) t := by
    intro t k
    refine R61 t ?_
    show Steps p.tables e below (T61.setTop (mkF m 117 #[.val (.int p1), .val (.int p2), .val (.int p3), .val (.int p4), .val (.int p5), .val (.long q6), .second, .val (.int x0), .val (.int x1), .val (.int x2), .val (.ref b6), .val (.ref b17), .val (.ref b36), .unset] [])) _
    refine XS.aload X61.here hx rfl (hb hby at_117) rfl rfl ?_
    show Steps p.tables e below (T61.setTop (mkF m 119 #[.val (.int p1), .val (.int p2), .val (.int p3), .val (.int p4), .val (.int p5), .val (.long q6), .second, .val (.int x0), .val (.int x1), .val (.int x2), .val (.ref b6), .val (.ref b17), .val (.ref b36), .unset] [(.ref b36)])) _
    refine XS.iconst X61.here hx rfl (hb hby at_119) ?_
    show Steps p.tables e below (T61.setTop (mkF m 120 #[.val (.int p1), .val (.int p2), .val (.int p3), .val (.int p4), .val (.int p5), .val (.long q6), .second, .val (.int x0), .val (.int x1), .val (.int x2), .val (.ref b6), .val (.ref b17), .val (.ref b36), .unset] [(.int (5 : Int32)), (.ref b36)])) _
    refine XS.lload X61.here hx rfl (hb hby at_120) rfl ?_
    show Steps p.tables e below (T61.setTop (mkF m 122 #[.val (.int p1), .val (.int p2), .val (.int p3), .val (.int p4), .val (.int p5), .val (.long q6), .second, .val (.int x0), .val (.int x1), .val (.int x2), .val (.ref b6), .val (.ref b17), .val (.ref b36), .unset] [(.long q6), (.int (5 : Int32)), (.ref b36)])) _
    refine X61.ldc2Long hx hown (mvT hZ (hw _ (List.mem_of_getElem? (i := 5) rfl))) (g := (mkF m 122 #[.val (.int p1), .val (.int p2), .val (.int p3), .val (.int p4), .val (.int p5), .val (.long q6), .second, .val (.int x0), .val (.int x1), .val (.int x2), .val (.ref b6), .val (.ref b17), .val (.ref b36), .unset] [(.long q6), (.int (5 : Int32)), (.ref b36)])) rfl (hb hby at_122) _ ?_
    show Steps p.tables e below (T61.setTop (mkF m 125 #[.val (.int p1), .val (.int p2), .val (.int p3), .val (.int p4), .val (.int p5), .val (.long q6), .second, .val (.int x0), .val (.int x1), .val (.int x2), .val (.ref b6), .val (.ref b17), .val (.ref b36), .unset] [(.long (5 : Int64)), (.long q6), (.int (5 : Int32)), (.ref b36)])) _
    refine XS.ladd X61.here hx rfl (hb hby at_125) rfl ?_
    exact k
  clear R61
  obtain ⟨cl65, Ar65, q65, S65, N65', H65, G65⟩ := id V61
  have hin65 : ¬ ((5 : Int32) < 0 ∨ cl65.slots.size ≤ ((5 : Int32)).toNatClampNeg) := inb_of S65 ⟨by decide, by decide⟩
  obtain ⟨T66, h66, X66, e66, W66, st66⟩ := stJ X61 hx hZ e61 Ar65 (j := (5 : Int32)) hin65 (g := (mkF m 126 #[.val (.int p1), .val (.int p2), .val (.int p3), .val (.int p4), .val (.int p5), .val (.long q6), .second, .val (.int x0), .val (.int x1), .val (.int x2), .val (.ref b6), .val (.ref b17), .val (.ref b36), .unset] [(.long (q6 + (5 : Int64))), (.int (5 : Int32)), (.ref b36)])) rfl rfl (hb hby at_126)
  have R66 : ∀ t, Steps p.tables e below (T66.setTop (mkF m 127 #[.val (.int p1), .val (.int p2), .val (.int p3), .val (.int p4), .val (.int p5), .val (.long q6), .second, .val (.int x0), .val (.int x1), .val (.int x2), .val (.ref b6), .val (.ref b17), .val (.ref b36), .unset] [])) t → Steps p.tables e below (s₁.setTop (entryFrame m #[(.int p1), (.int p2), (.int p3), (.int p4), (.int p5), (.long q6)] maxLocals)) t := fun t k => R64 t (st66 t k)
  clear R64 st66 X61 e61
  have Z66 : n0 ≤ h66.size := Nat.le_trans Z61 (Keep.of_wr W66).1
  clear Z61
  have K66 : Keep h0 h66 [] := K61.wr W66 (Or.inr sz_b36)
  have N66 := Fr.snoc X66 N61 g_b36
  clear K61
  clear N61
  have f67 : Arv Z h66 b6 k6 .int (3 : Int32) [(.int x0), (.int x1), (.int x2)] (.int (0 : Int32)) := f62.other W66 ne_b6_b36
  clear f62
  have f68 : Arv Z h66 b17 k17 .int (4 : Int32) [(.int p2), (.int p3), (.int p4), (.int p5)] (.int (0 : Int32)) := f63.other W66 ne_b17_b36
  clear f63
  have V66 : Arv Z h66 b36 k36 .long (12 : Int32) [(.long q6), (.long (q6 + (1 : Int64))), (.long (q6 + (2 : Int64))), (.long (q6 + (3 : Int64))), (.long (q6 + (4 : Int64))), (.long (q6 + (5 : Int64))), (.long (0 : Int64)), (.long (0 : Int64)), (.long (0 : Int64)), (.long (0 : Int64)), (.long (0 : Int64)), (.long (0 : Int64))] (.long (0 : Int64)) := Arv.set Ar65 q65 S65 N65' H65 G65 rfl W66 5 rfl (Nat.le_of_ble_eq_true rfl)
  clear Ar65 q65 S65 N65' H65 G65 hin65 W66 V61
  have R69 : ∀ t, Steps p.tables e below (T66.setTop (mkF m 137 #[.val (.int p1), .val (.int p2), .val (.int p3), .val (.int p4), .val (.int p5), .val (.long q6), .second, .val (.int x0), .val (.int x1), .val (.int x2), .val (.ref b6), .val (.ref b17), .val (.ref b36), .unset] [(.long (q6 + (6 : Int64))), (.int (6 : Int32)), (.ref b36)])) t → Steps p.tables e below (s₁.setTop (entryFrame m #[(.int p1), (.int p2), (.int p3), (.int p4), (.int p5), (.long q6)] maxLocals)) t := by
    intro t k
    refine R66 t ?_
    show Steps p.tables e below (T66.setTop (mkF m 127 #[.val (.int p1), .val (.int p2), .val (.int p3), .val (.int p4), .val (.int p5), .val (.long q6), .second, .val (.int x0), .val (.int x1), .val (.int x2), .val (.ref b6), .val (.ref b17), .val (.ref b36), .unset] [])) _
    refine XS.aload X66.here hx rfl (hb hby at_127) rfl rfl ?_
    show Steps p.tables e below (T66.setTop (mkF m 129 #[.val (.int p1), .val (.int p2), .val (.int p3), .val (.int p4), .val (.int p5), .val (.long q6), .second, .val (.int x0), .val (.int x1), .val (.int x2), .val (.ref b6), .val (.ref b17), .val (.ref b36), .unset] [(.ref b36)])) _
    refine XS.bipush X66.here hx rfl (hb hby at_129) ?_
    show Steps p.tables e below (T66.setTop (mkF m 131 #[.val (.int p1), .val (.int p2), .val (.int p3), .val (.int p4), .val (.int p5), .val (.long q6), .second, .val (.int x0), .val (.int x1), .val (.int x2), .val (.ref b6), .val (.ref b17), .val (.ref b36), .unset] [(.int (6 : Int32)), (.ref b36)])) _
    refine XS.lload X66.here hx rfl (hb hby at_131) rfl ?_
    show Steps p.tables e below (T66.setTop (mkF m 133 #[.val (.int p1), .val (.int p2), .val (.int p3), .val (.int p4), .val (.int p5), .val (.long q6), .second, .val (.int x0), .val (.int x1), .val (.int x2), .val (.ref b6), .val (.ref b17), .val (.ref b36), .unset] [(.long q6), (.int (6 : Int32)), (.ref b36)])) _
    refine X66.ldc2Long hx hown (mvT hZ (hw _ (List.mem_of_getElem? (i := 6) rfl))) (g := (mkF m 133 #[.val (.int p1), .val (.int p2), .val (.int p3), .val (.int p4), .val (.int p5), .val (.long q6), .second, .val (.int x0), .val (.int x1), .val (.int x2), .val (.ref b6), .val (.ref b17), .val (.ref b36), .unset] [(.long q6), (.int (6 : Int32)), (.ref b36)])) rfl (hb hby at_133) _ ?_
    show Steps p.tables e below (T66.setTop (mkF m 136 #[.val (.int p1), .val (.int p2), .val (.int p3), .val (.int p4), .val (.int p5), .val (.long q6), .second, .val (.int x0), .val (.int x1), .val (.int x2), .val (.ref b6), .val (.ref b17), .val (.ref b36), .unset] [(.long (6 : Int64)), (.long q6), (.int (6 : Int32)), (.ref b36)])) _
    refine XS.ladd X66.here hx rfl (hb hby at_136) rfl ?_
    exact k
  clear R66
  obtain ⟨cl70, Ar70, q70, S70, N70', H70, G70⟩ := id V66
  have hin70 : ¬ ((6 : Int32) < 0 ∨ cl70.slots.size ≤ ((6 : Int32)).toNatClampNeg) := inb_of S70 ⟨by decide, by decide⟩
  obtain ⟨T71, h71, X71, e71, W71, st71⟩ := stJ X66 hx hZ e66 Ar70 (j := (6 : Int32)) hin70 (g := (mkF m 137 #[.val (.int p1), .val (.int p2), .val (.int p3), .val (.int p4), .val (.int p5), .val (.long q6), .second, .val (.int x0), .val (.int x1), .val (.int x2), .val (.ref b6), .val (.ref b17), .val (.ref b36), .unset] [(.long (q6 + (6 : Int64))), (.int (6 : Int32)), (.ref b36)])) rfl rfl (hb hby at_137)
  have R71 : ∀ t, Steps p.tables e below (T71.setTop (mkF m 138 #[.val (.int p1), .val (.int p2), .val (.int p3), .val (.int p4), .val (.int p5), .val (.long q6), .second, .val (.int x0), .val (.int x1), .val (.int x2), .val (.ref b6), .val (.ref b17), .val (.ref b36), .unset] [])) t → Steps p.tables e below (s₁.setTop (entryFrame m #[(.int p1), (.int p2), (.int p3), (.int p4), (.int p5), (.long q6)] maxLocals)) t := fun t k => R69 t (st71 t k)
  clear R69 st71 X66 e66
  have Z71 : n0 ≤ h71.size := Nat.le_trans Z66 (Keep.of_wr W71).1
  clear Z66
  have K71 : Keep h0 h71 [] := K66.wr W71 (Or.inr sz_b36)
  have N71 := Fr.snoc X71 N66 g_b36
  clear K66
  clear N66
  have f72 : Arv Z h71 b6 k6 .int (3 : Int32) [(.int x0), (.int x1), (.int x2)] (.int (0 : Int32)) := f67.other W71 ne_b6_b36
  clear f67
  have f73 : Arv Z h71 b17 k17 .int (4 : Int32) [(.int p2), (.int p3), (.int p4), (.int p5)] (.int (0 : Int32)) := f68.other W71 ne_b17_b36
  clear f68
  have V71 : Arv Z h71 b36 k36 .long (12 : Int32) [(.long q6), (.long (q6 + (1 : Int64))), (.long (q6 + (2 : Int64))), (.long (q6 + (3 : Int64))), (.long (q6 + (4 : Int64))), (.long (q6 + (5 : Int64))), (.long (q6 + (6 : Int64))), (.long (0 : Int64)), (.long (0 : Int64)), (.long (0 : Int64)), (.long (0 : Int64)), (.long (0 : Int64))] (.long (0 : Int64)) := Arv.set Ar70 q70 S70 N70' H70 G70 rfl W71 6 rfl (Nat.le_of_ble_eq_true rfl)
  clear Ar70 q70 S70 N70' H70 G70 hin70 W71 V66
  have R74 : ∀ t, Steps p.tables e below (T71.setTop (mkF m 148 #[.val (.int p1), .val (.int p2), .val (.int p3), .val (.int p4), .val (.int p5), .val (.long q6), .second, .val (.int x0), .val (.int x1), .val (.int x2), .val (.ref b6), .val (.ref b17), .val (.ref b36), .unset] [(.long (q6 + (7 : Int64))), (.int (7 : Int32)), (.ref b36)])) t → Steps p.tables e below (s₁.setTop (entryFrame m #[(.int p1), (.int p2), (.int p3), (.int p4), (.int p5), (.long q6)] maxLocals)) t := by
    intro t k
    refine R71 t ?_
    show Steps p.tables e below (T71.setTop (mkF m 138 #[.val (.int p1), .val (.int p2), .val (.int p3), .val (.int p4), .val (.int p5), .val (.long q6), .second, .val (.int x0), .val (.int x1), .val (.int x2), .val (.ref b6), .val (.ref b17), .val (.ref b36), .unset] [])) _
    refine XS.aload X71.here hx rfl (hb hby at_138) rfl rfl ?_
    show Steps p.tables e below (T71.setTop (mkF m 140 #[.val (.int p1), .val (.int p2), .val (.int p3), .val (.int p4), .val (.int p5), .val (.long q6), .second, .val (.int x0), .val (.int x1), .val (.int x2), .val (.ref b6), .val (.ref b17), .val (.ref b36), .unset] [(.ref b36)])) _
    refine XS.bipush X71.here hx rfl (hb hby at_140) ?_
    show Steps p.tables e below (T71.setTop (mkF m 142 #[.val (.int p1), .val (.int p2), .val (.int p3), .val (.int p4), .val (.int p5), .val (.long q6), .second, .val (.int x0), .val (.int x1), .val (.int x2), .val (.ref b6), .val (.ref b17), .val (.ref b36), .unset] [(.int (7 : Int32)), (.ref b36)])) _
    refine XS.lload X71.here hx rfl (hb hby at_142) rfl ?_
    show Steps p.tables e below (T71.setTop (mkF m 144 #[.val (.int p1), .val (.int p2), .val (.int p3), .val (.int p4), .val (.int p5), .val (.long q6), .second, .val (.int x0), .val (.int x1), .val (.int x2), .val (.ref b6), .val (.ref b17), .val (.ref b36), .unset] [(.long q6), (.int (7 : Int32)), (.ref b36)])) _
    refine X71.ldc2Long hx hown (mvT hZ (hw _ (List.mem_of_getElem? (i := 7) rfl))) (g := (mkF m 144 #[.val (.int p1), .val (.int p2), .val (.int p3), .val (.int p4), .val (.int p5), .val (.long q6), .second, .val (.int x0), .val (.int x1), .val (.int x2), .val (.ref b6), .val (.ref b17), .val (.ref b36), .unset] [(.long q6), (.int (7 : Int32)), (.ref b36)])) rfl (hb hby at_144) _ ?_
    show Steps p.tables e below (T71.setTop (mkF m 147 #[.val (.int p1), .val (.int p2), .val (.int p3), .val (.int p4), .val (.int p5), .val (.long q6), .second, .val (.int x0), .val (.int x1), .val (.int x2), .val (.ref b6), .val (.ref b17), .val (.ref b36), .unset] [(.long (7 : Int64)), (.long q6), (.int (7 : Int32)), (.ref b36)])) _
    refine XS.ladd X71.here hx rfl (hb hby at_147) rfl ?_
    exact k
  clear R71
  obtain ⟨cl75, Ar75, q75, S75, N75', H75, G75⟩ := id V71
  have hin75 : ¬ ((7 : Int32) < 0 ∨ cl75.slots.size ≤ ((7 : Int32)).toNatClampNeg) := inb_of S75 ⟨by decide, by decide⟩
  obtain ⟨T76, h76, X76, e76, W76, st76⟩ := stJ X71 hx hZ e71 Ar75 (j := (7 : Int32)) hin75 (g := (mkF m 148 #[.val (.int p1), .val (.int p2), .val (.int p3), .val (.int p4), .val (.int p5), .val (.long q6), .second, .val (.int x0), .val (.int x1), .val (.int x2), .val (.ref b6), .val (.ref b17), .val (.ref b36), .unset] [(.long (q6 + (7 : Int64))), (.int (7 : Int32)), (.ref b36)])) rfl rfl (hb hby at_148)
  have R76 : ∀ t, Steps p.tables e below (T76.setTop (mkF m 149 #[.val (.int p1), .val (.int p2), .val (.int p3), .val (.int p4), .val (.int p5), .val (.long q6), .second, .val (.int x0), .val (.int x1), .val (.int x2), .val (.ref b6), .val (.ref b17), .val (.ref b36), .unset] [])) t → Steps p.tables e below (s₁.setTop (entryFrame m #[(.int p1), (.int p2), (.int p3), (.int p4), (.int p5), (.long q6)] maxLocals)) t := fun t k => R74 t (st76 t k)
  clear R74 st76 X71 e71
  have Z76 : n0 ≤ h76.size := Nat.le_trans Z71 (Keep.of_wr W76).1
  clear Z71
  have K76 : Keep h0 h76 [] := K71.wr W76 (Or.inr sz_b36)
  have N76 := Fr.snoc X76 N71 g_b36
  clear K71
  clear N71
  have f77 : Arv Z h76 b6 k6 .int (3 : Int32) [(.int x0), (.int x1), (.int x2)] (.int (0 : Int32)) := f72.other W76 ne_b6_b36
  clear f72
  have f78 : Arv Z h76 b17 k17 .int (4 : Int32) [(.int p2), (.int p3), (.int p4), (.int p5)] (.int (0 : Int32)) := f73.other W76 ne_b17_b36
  clear f73
  have V76 : Arv Z h76 b36 k36 .long (12 : Int32) [(.long q6), (.long (q6 + (1 : Int64))), (.long (q6 + (2 : Int64))), (.long (q6 + (3 : Int64))), (.long (q6 + (4 : Int64))), (.long (q6 + (5 : Int64))), (.long (q6 + (6 : Int64))), (.long (q6 + (7 : Int64))), (.long (0 : Int64)), (.long (0 : Int64)), (.long (0 : Int64)), (.long (0 : Int64))] (.long (0 : Int64)) := Arv.set Ar75 q75 S75 N75' H75 G75 rfl W76 7 rfl (Nat.le_of_ble_eq_true rfl)
  clear Ar75 q75 S75 N75' H75 G75 hin75 W76 V71
  have R79 : ∀ t, Steps p.tables e below (T76.setTop (mkF m 159 #[.val (.int p1), .val (.int p2), .val (.int p3), .val (.int p4), .val (.int p5), .val (.long q6), .second, .val (.int x0), .val (.int x1), .val (.int x2), .val (.ref b6), .val (.ref b17), .val (.ref b36), .unset] [(.long (q6 + (8 : Int64))), (.int (8 : Int32)), (.ref b36)])) t → Steps p.tables e below (s₁.setTop (entryFrame m #[(.int p1), (.int p2), (.int p3), (.int p4), (.int p5), (.long q6)] maxLocals)) t := by
    intro t k
    refine R76 t ?_
    show Steps p.tables e below (T76.setTop (mkF m 149 #[.val (.int p1), .val (.int p2), .val (.int p3), .val (.int p4), .val (.int p5), .val (.long q6), .second, .val (.int x0), .val (.int x1), .val (.int x2), .val (.ref b6), .val (.ref b17), .val (.ref b36), .unset] [])) _
    refine XS.aload X76.here hx rfl (hb hby at_149) rfl rfl ?_
    show Steps p.tables e below (T76.setTop (mkF m 151 #[.val (.int p1), .val (.int p2), .val (.int p3), .val (.int p4), .val (.int p5), .val (.long q6), .second, .val (.int x0), .val (.int x1), .val (.int x2), .val (.ref b6), .val (.ref b17), .val (.ref b36), .unset] [(.ref b36)])) _
    refine XS.bipush X76.here hx rfl (hb hby at_151) ?_
    show Steps p.tables e below (T76.setTop (mkF m 153 #[.val (.int p1), .val (.int p2), .val (.int p3), .val (.int p4), .val (.int p5), .val (.long q6), .second, .val (.int x0), .val (.int x1), .val (.int x2), .val (.ref b6), .val (.ref b17), .val (.ref b36), .unset] [(.int (8 : Int32)), (.ref b36)])) _
    refine XS.lload X76.here hx rfl (hb hby at_153) rfl ?_
    show Steps p.tables e below (T76.setTop (mkF m 155 #[.val (.int p1), .val (.int p2), .val (.int p3), .val (.int p4), .val (.int p5), .val (.long q6), .second, .val (.int x0), .val (.int x1), .val (.int x2), .val (.ref b6), .val (.ref b17), .val (.ref b36), .unset] [(.long q6), (.int (8 : Int32)), (.ref b36)])) _
    refine X76.ldc2Long hx hown (mvT hZ (hw _ (List.mem_of_getElem? (i := 8) rfl))) (g := (mkF m 155 #[.val (.int p1), .val (.int p2), .val (.int p3), .val (.int p4), .val (.int p5), .val (.long q6), .second, .val (.int x0), .val (.int x1), .val (.int x2), .val (.ref b6), .val (.ref b17), .val (.ref b36), .unset] [(.long q6), (.int (8 : Int32)), (.ref b36)])) rfl (hb hby at_155) _ ?_
    show Steps p.tables e below (T76.setTop (mkF m 158 #[.val (.int p1), .val (.int p2), .val (.int p3), .val (.int p4), .val (.int p5), .val (.long q6), .second, .val (.int x0), .val (.int x1), .val (.int x2), .val (.ref b6), .val (.ref b17), .val (.ref b36), .unset] [(.long (8 : Int64)), (.long q6), (.int (8 : Int32)), (.ref b36)])) _
    refine XS.ladd X76.here hx rfl (hb hby at_158) rfl ?_
    exact k
  clear R76
  obtain ⟨cl80, Ar80, q80, S80, N80', H80, G80⟩ := id V76
  have hin80 : ¬ ((8 : Int32) < 0 ∨ cl80.slots.size ≤ ((8 : Int32)).toNatClampNeg) := inb_of S80 ⟨by decide, by decide⟩
  obtain ⟨T81, h81, X81, e81, W81, st81⟩ := stJ X76 hx hZ e76 Ar80 (j := (8 : Int32)) hin80 (g := (mkF m 159 #[.val (.int p1), .val (.int p2), .val (.int p3), .val (.int p4), .val (.int p5), .val (.long q6), .second, .val (.int x0), .val (.int x1), .val (.int x2), .val (.ref b6), .val (.ref b17), .val (.ref b36), .unset] [(.long (q6 + (8 : Int64))), (.int (8 : Int32)), (.ref b36)])) rfl rfl (hb hby at_159)
  have R81 : ∀ t, Steps p.tables e below (T81.setTop (mkF m 160 #[.val (.int p1), .val (.int p2), .val (.int p3), .val (.int p4), .val (.int p5), .val (.long q6), .second, .val (.int x0), .val (.int x1), .val (.int x2), .val (.ref b6), .val (.ref b17), .val (.ref b36), .unset] [])) t → Steps p.tables e below (s₁.setTop (entryFrame m #[(.int p1), (.int p2), (.int p3), (.int p4), (.int p5), (.long q6)] maxLocals)) t := fun t k => R79 t (st81 t k)
  clear R79 st81 X76 e76
  have Z81 : n0 ≤ h81.size := Nat.le_trans Z76 (Keep.of_wr W81).1
  clear Z76
  have K81 : Keep h0 h81 [] := K76.wr W81 (Or.inr sz_b36)
  have N81 := Fr.snoc X81 N76 g_b36
  clear K76
  clear N76
  have f82 : Arv Z h81 b6 k6 .int (3 : Int32) [(.int x0), (.int x1), (.int x2)] (.int (0 : Int32)) := f77.other W81 ne_b6_b36
  clear f77
  have f83 : Arv Z h81 b17 k17 .int (4 : Int32) [(.int p2), (.int p3), (.int p4), (.int p5)] (.int (0 : Int32)) := f78.other W81 ne_b17_b36
  clear f78
  have V81 : Arv Z h81 b36 k36 .long (12 : Int32) [(.long q6), (.long (q6 + (1 : Int64))), (.long (q6 + (2 : Int64))), (.long (q6 + (3 : Int64))), (.long (q6 + (4 : Int64))), (.long (q6 + (5 : Int64))), (.long (q6 + (6 : Int64))), (.long (q6 + (7 : Int64))), (.long (q6 + (8 : Int64))), (.long (0 : Int64)), (.long (0 : Int64)), (.long (0 : Int64))] (.long (0 : Int64)) := Arv.set Ar80 q80 S80 N80' H80 G80 rfl W81 8 rfl (Nat.le_of_ble_eq_true rfl)
  clear Ar80 q80 S80 N80' H80 G80 hin80 W81 V76
  have R84 : ∀ t, Steps p.tables e below (T81.setTop (mkF m 170 #[.val (.int p1), .val (.int p2), .val (.int p3), .val (.int p4), .val (.int p5), .val (.long q6), .second, .val (.int x0), .val (.int x1), .val (.int x2), .val (.ref b6), .val (.ref b17), .val (.ref b36), .unset] [(.long (q6 + (9 : Int64))), (.int (9 : Int32)), (.ref b36)])) t → Steps p.tables e below (s₁.setTop (entryFrame m #[(.int p1), (.int p2), (.int p3), (.int p4), (.int p5), (.long q6)] maxLocals)) t := by
    intro t k
    refine R81 t ?_
    show Steps p.tables e below (T81.setTop (mkF m 160 #[.val (.int p1), .val (.int p2), .val (.int p3), .val (.int p4), .val (.int p5), .val (.long q6), .second, .val (.int x0), .val (.int x1), .val (.int x2), .val (.ref b6), .val (.ref b17), .val (.ref b36), .unset] [])) _
    refine XS.aload X81.here hx rfl (hb hby at_160) rfl rfl ?_
    show Steps p.tables e below (T81.setTop (mkF m 162 #[.val (.int p1), .val (.int p2), .val (.int p3), .val (.int p4), .val (.int p5), .val (.long q6), .second, .val (.int x0), .val (.int x1), .val (.int x2), .val (.ref b6), .val (.ref b17), .val (.ref b36), .unset] [(.ref b36)])) _
    refine XS.bipush X81.here hx rfl (hb hby at_162) ?_
    show Steps p.tables e below (T81.setTop (mkF m 164 #[.val (.int p1), .val (.int p2), .val (.int p3), .val (.int p4), .val (.int p5), .val (.long q6), .second, .val (.int x0), .val (.int x1), .val (.int x2), .val (.ref b6), .val (.ref b17), .val (.ref b36), .unset] [(.int (9 : Int32)), (.ref b36)])) _
    refine XS.lload X81.here hx rfl (hb hby at_164) rfl ?_
    show Steps p.tables e below (T81.setTop (mkF m 166 #[.val (.int p1), .val (.int p2), .val (.int p3), .val (.int p4), .val (.int p5), .val (.long q6), .second, .val (.int x0), .val (.int x1), .val (.int x2), .val (.ref b6), .val (.ref b17), .val (.ref b36), .unset] [(.long q6), (.int (9 : Int32)), (.ref b36)])) _
    refine X81.ldc2Long hx hown (mvT hZ (hw _ (List.mem_of_getElem? (i := 9) rfl))) (g := (mkF m 166 #[.val (.int p1), .val (.int p2), .val (.int p3), .val (.int p4), .val (.int p5), .val (.long q6), .second, .val (.int x0), .val (.int x1), .val (.int x2), .val (.ref b6), .val (.ref b17), .val (.ref b36), .unset] [(.long q6), (.int (9 : Int32)), (.ref b36)])) rfl (hb hby at_166) _ ?_
    show Steps p.tables e below (T81.setTop (mkF m 169 #[.val (.int p1), .val (.int p2), .val (.int p3), .val (.int p4), .val (.int p5), .val (.long q6), .second, .val (.int x0), .val (.int x1), .val (.int x2), .val (.ref b6), .val (.ref b17), .val (.ref b36), .unset] [(.long (9 : Int64)), (.long q6), (.int (9 : Int32)), (.ref b36)])) _
    refine XS.ladd X81.here hx rfl (hb hby at_169) rfl ?_
    exact k
  clear R81
  obtain ⟨cl85, Ar85, q85, S85, N85', H85, G85⟩ := id V81
  have hin85 : ¬ ((9 : Int32) < 0 ∨ cl85.slots.size ≤ ((9 : Int32)).toNatClampNeg) := inb_of S85 ⟨by decide, by decide⟩
  obtain ⟨T86, h86, X86, e86, W86, st86⟩ := stJ X81 hx hZ e81 Ar85 (j := (9 : Int32)) hin85 (g := (mkF m 170 #[.val (.int p1), .val (.int p2), .val (.int p3), .val (.int p4), .val (.int p5), .val (.long q6), .second, .val (.int x0), .val (.int x1), .val (.int x2), .val (.ref b6), .val (.ref b17), .val (.ref b36), .unset] [(.long (q6 + (9 : Int64))), (.int (9 : Int32)), (.ref b36)])) rfl rfl (hb hby at_170)
  have R86 : ∀ t, Steps p.tables e below (T86.setTop (mkF m 171 #[.val (.int p1), .val (.int p2), .val (.int p3), .val (.int p4), .val (.int p5), .val (.long q6), .second, .val (.int x0), .val (.int x1), .val (.int x2), .val (.ref b6), .val (.ref b17), .val (.ref b36), .unset] [])) t → Steps p.tables e below (s₁.setTop (entryFrame m #[(.int p1), (.int p2), (.int p3), (.int p4), (.int p5), (.long q6)] maxLocals)) t := fun t k => R84 t (st86 t k)
  clear R84 st86 X81 e81
  have Z86 : n0 ≤ h86.size := Nat.le_trans Z81 (Keep.of_wr W86).1
  clear Z81
  have K86 : Keep h0 h86 [] := K81.wr W86 (Or.inr sz_b36)
  have N86 := Fr.snoc X86 N81 g_b36
  clear K81
  clear N81
  have f87 : Arv Z h86 b6 k6 .int (3 : Int32) [(.int x0), (.int x1), (.int x2)] (.int (0 : Int32)) := f82.other W86 ne_b6_b36
  clear f82
  have f88 : Arv Z h86 b17 k17 .int (4 : Int32) [(.int p2), (.int p3), (.int p4), (.int p5)] (.int (0 : Int32)) := f83.other W86 ne_b17_b36
  clear f83
  have V86 : Arv Z h86 b36 k36 .long (12 : Int32) [(.long q6), (.long (q6 + (1 : Int64))), (.long (q6 + (2 : Int64))), (.long (q6 + (3 : Int64))), (.long (q6 + (4 : Int64))), (.long (q6 + (5 : Int64))), (.long (q6 + (6 : Int64))), (.long (q6 + (7 : Int64))), (.long (q6 + (8 : Int64))), (.long (q6 + (9 : Int64))), (.long (0 : Int64)), (.long (0 : Int64))] (.long (0 : Int64)) := Arv.set Ar85 q85 S85 N85' H85 G85 rfl W86 9 rfl (Nat.le_of_ble_eq_true rfl)
  clear Ar85 q85 S85 N85' H85 G85 hin85 W86 V81
  have R89 : ∀ t, Steps p.tables e below (T86.setTop (mkF m 181 #[.val (.int p1), .val (.int p2), .val (.int p3), .val (.int p4), .val (.int p5), .val (.long q6), .second, .val (.int x0), .val (.int x1), .val (.int x2), .val (.ref b6), .val (.ref b17), .val (.ref b36), .unset] [(.long (q6 + (10 : Int64))), (.int (10 : Int32)), (.ref b36)])) t → Steps p.tables e below (s₁.setTop (entryFrame m #[(.int p1), (.int p2), (.int p3), (.int p4), (.int p5), (.long q6)] maxLocals)) t := by
    intro t k
    refine R86 t ?_
    show Steps p.tables e below (T86.setTop (mkF m 171 #[.val (.int p1), .val (.int p2), .val (.int p3), .val (.int p4), .val (.int p5), .val (.long q6), .second, .val (.int x0), .val (.int x1), .val (.int x2), .val (.ref b6), .val (.ref b17), .val (.ref b36), .unset] [])) _
    refine XS.aload X86.here hx rfl (hb hby at_171) rfl rfl ?_
    show Steps p.tables e below (T86.setTop (mkF m 173 #[.val (.int p1), .val (.int p2), .val (.int p3), .val (.int p4), .val (.int p5), .val (.long q6), .second, .val (.int x0), .val (.int x1), .val (.int x2), .val (.ref b6), .val (.ref b17), .val (.ref b36), .unset] [(.ref b36)])) _
    refine XS.bipush X86.here hx rfl (hb hby at_173) ?_
    show Steps p.tables e below (T86.setTop (mkF m 175 #[.val (.int p1), .val (.int p2), .val (.int p3), .val (.int p4), .val (.int p5), .val (.long q6), .second, .val (.int x0), .val (.int x1), .val (.int x2), .val (.ref b6), .val (.ref b17), .val (.ref b36), .unset] [(.int (10 : Int32)), (.ref b36)])) _
    refine XS.lload X86.here hx rfl (hb hby at_175) rfl ?_
    show Steps p.tables e below (T86.setTop (mkF m 177 #[.val (.int p1), .val (.int p2), .val (.int p3), .val (.int p4), .val (.int p5), .val (.long q6), .second, .val (.int x0), .val (.int x1), .val (.int x2), .val (.ref b6), .val (.ref b17), .val (.ref b36), .unset] [(.long q6), (.int (10 : Int32)), (.ref b36)])) _
    refine X86.ldc2Long hx hown (mvT hZ (hw _ (List.mem_of_getElem? (i := 10) rfl))) (g := (mkF m 177 #[.val (.int p1), .val (.int p2), .val (.int p3), .val (.int p4), .val (.int p5), .val (.long q6), .second, .val (.int x0), .val (.int x1), .val (.int x2), .val (.ref b6), .val (.ref b17), .val (.ref b36), .unset] [(.long q6), (.int (10 : Int32)), (.ref b36)])) rfl (hb hby at_177) _ ?_
    show Steps p.tables e below (T86.setTop (mkF m 180 #[.val (.int p1), .val (.int p2), .val (.int p3), .val (.int p4), .val (.int p5), .val (.long q6), .second, .val (.int x0), .val (.int x1), .val (.int x2), .val (.ref b6), .val (.ref b17), .val (.ref b36), .unset] [(.long (10 : Int64)), (.long q6), (.int (10 : Int32)), (.ref b36)])) _
    refine XS.ladd X86.here hx rfl (hb hby at_180) rfl ?_
    exact k
  clear R86
  obtain ⟨cl90, Ar90, q90, S90, N90', H90, G90⟩ := id V86
  have hin90 : ¬ ((10 : Int32) < 0 ∨ cl90.slots.size ≤ ((10 : Int32)).toNatClampNeg) := inb_of S90 ⟨by decide, by decide⟩
  obtain ⟨T91, h91, X91, e91, W91, st91⟩ := stJ X86 hx hZ e86 Ar90 (j := (10 : Int32)) hin90 (g := (mkF m 181 #[.val (.int p1), .val (.int p2), .val (.int p3), .val (.int p4), .val (.int p5), .val (.long q6), .second, .val (.int x0), .val (.int x1), .val (.int x2), .val (.ref b6), .val (.ref b17), .val (.ref b36), .unset] [(.long (q6 + (10 : Int64))), (.int (10 : Int32)), (.ref b36)])) rfl rfl (hb hby at_181)
  have R91 : ∀ t, Steps p.tables e below (T91.setTop (mkF m 182 #[.val (.int p1), .val (.int p2), .val (.int p3), .val (.int p4), .val (.int p5), .val (.long q6), .second, .val (.int x0), .val (.int x1), .val (.int x2), .val (.ref b6), .val (.ref b17), .val (.ref b36), .unset] [])) t → Steps p.tables e below (s₁.setTop (entryFrame m #[(.int p1), (.int p2), (.int p3), (.int p4), (.int p5), (.long q6)] maxLocals)) t := fun t k => R89 t (st91 t k)
  clear R89 st91 X86 e86
  have Z91 : n0 ≤ h91.size := Nat.le_trans Z86 (Keep.of_wr W91).1
  clear Z86
  have K91 : Keep h0 h91 [] := K86.wr W91 (Or.inr sz_b36)
  have N91 := Fr.snoc X91 N86 g_b36
  clear K86
  clear N86
  have f92 : Arv Z h91 b6 k6 .int (3 : Int32) [(.int x0), (.int x1), (.int x2)] (.int (0 : Int32)) := f87.other W91 ne_b6_b36
  clear f87
  have f93 : Arv Z h91 b17 k17 .int (4 : Int32) [(.int p2), (.int p3), (.int p4), (.int p5)] (.int (0 : Int32)) := f88.other W91 ne_b17_b36
  clear f88
  have V91 : Arv Z h91 b36 k36 .long (12 : Int32) [(.long q6), (.long (q6 + (1 : Int64))), (.long (q6 + (2 : Int64))), (.long (q6 + (3 : Int64))), (.long (q6 + (4 : Int64))), (.long (q6 + (5 : Int64))), (.long (q6 + (6 : Int64))), (.long (q6 + (7 : Int64))), (.long (q6 + (8 : Int64))), (.long (q6 + (9 : Int64))), (.long (q6 + (10 : Int64))), (.long (0 : Int64))] (.long (0 : Int64)) := Arv.set Ar90 q90 S90 N90' H90 G90 rfl W91 10 rfl (Nat.le_of_ble_eq_true rfl)
  clear Ar90 q90 S90 N90' H90 G90 hin90 W91 V86
  have R94 : ∀ t, Steps p.tables e below (T91.setTop (mkF m 192 #[.val (.int p1), .val (.int p2), .val (.int p3), .val (.int p4), .val (.int p5), .val (.long q6), .second, .val (.int x0), .val (.int x1), .val (.int x2), .val (.ref b6), .val (.ref b17), .val (.ref b36), .unset] [(.long (q6 + (11 : Int64))), (.int (11 : Int32)), (.ref b36)])) t → Steps p.tables e below (s₁.setTop (entryFrame m #[(.int p1), (.int p2), (.int p3), (.int p4), (.int p5), (.long q6)] maxLocals)) t := by
    intro t k
    refine R91 t ?_
    show Steps p.tables e below (T91.setTop (mkF m 182 #[.val (.int p1), .val (.int p2), .val (.int p3), .val (.int p4), .val (.int p5), .val (.long q6), .second, .val (.int x0), .val (.int x1), .val (.int x2), .val (.ref b6), .val (.ref b17), .val (.ref b36), .unset] [])) _
    refine XS.aload X91.here hx rfl (hb hby at_182) rfl rfl ?_
    show Steps p.tables e below (T91.setTop (mkF m 184 #[.val (.int p1), .val (.int p2), .val (.int p3), .val (.int p4), .val (.int p5), .val (.long q6), .second, .val (.int x0), .val (.int x1), .val (.int x2), .val (.ref b6), .val (.ref b17), .val (.ref b36), .unset] [(.ref b36)])) _
    refine XS.bipush X91.here hx rfl (hb hby at_184) ?_
    show Steps p.tables e below (T91.setTop (mkF m 186 #[.val (.int p1), .val (.int p2), .val (.int p3), .val (.int p4), .val (.int p5), .val (.long q6), .second, .val (.int x0), .val (.int x1), .val (.int x2), .val (.ref b6), .val (.ref b17), .val (.ref b36), .unset] [(.int (11 : Int32)), (.ref b36)])) _
    refine XS.lload X91.here hx rfl (hb hby at_186) rfl ?_
    show Steps p.tables e below (T91.setTop (mkF m 188 #[.val (.int p1), .val (.int p2), .val (.int p3), .val (.int p4), .val (.int p5), .val (.long q6), .second, .val (.int x0), .val (.int x1), .val (.int x2), .val (.ref b6), .val (.ref b17), .val (.ref b36), .unset] [(.long q6), (.int (11 : Int32)), (.ref b36)])) _
    refine X91.ldc2Long hx hown (mvT hZ (hw _ (List.mem_of_getElem? (i := 11) rfl))) (g := (mkF m 188 #[.val (.int p1), .val (.int p2), .val (.int p3), .val (.int p4), .val (.int p5), .val (.long q6), .second, .val (.int x0), .val (.int x1), .val (.int x2), .val (.ref b6), .val (.ref b17), .val (.ref b36), .unset] [(.long q6), (.int (11 : Int32)), (.ref b36)])) rfl (hb hby at_188) _ ?_
    show Steps p.tables e below (T91.setTop (mkF m 191 #[.val (.int p1), .val (.int p2), .val (.int p3), .val (.int p4), .val (.int p5), .val (.long q6), .second, .val (.int x0), .val (.int x1), .val (.int x2), .val (.ref b6), .val (.ref b17), .val (.ref b36), .unset] [(.long (11 : Int64)), (.long q6), (.int (11 : Int32)), (.ref b36)])) _
    refine XS.ladd X91.here hx rfl (hb hby at_191) rfl ?_
    exact k
  clear R91
  obtain ⟨cl95, Ar95, q95, S95, N95', H95, G95⟩ := id V91
  have hin95 : ¬ ((11 : Int32) < 0 ∨ cl95.slots.size ≤ ((11 : Int32)).toNatClampNeg) := inb_of S95 ⟨by decide, by decide⟩
  obtain ⟨T96, h96, X96, e96, W96, st96⟩ := stJ X91 hx hZ e91 Ar95 (j := (11 : Int32)) hin95 (g := (mkF m 192 #[.val (.int p1), .val (.int p2), .val (.int p3), .val (.int p4), .val (.int p5), .val (.long q6), .second, .val (.int x0), .val (.int x1), .val (.int x2), .val (.ref b6), .val (.ref b17), .val (.ref b36), .unset] [(.long (q6 + (11 : Int64))), (.int (11 : Int32)), (.ref b36)])) rfl rfl (hb hby at_192)
  have R96 : ∀ t, Steps p.tables e below (T96.setTop (mkF m 193 #[.val (.int p1), .val (.int p2), .val (.int p3), .val (.int p4), .val (.int p5), .val (.long q6), .second, .val (.int x0), .val (.int x1), .val (.int x2), .val (.ref b6), .val (.ref b17), .val (.ref b36), .unset] [])) t → Steps p.tables e below (s₁.setTop (entryFrame m #[(.int p1), (.int p2), (.int p3), (.int p4), (.int p5), (.long q6)] maxLocals)) t := fun t k => R94 t (st96 t k)
  clear R94 st96 X91 e91
  have Z96 : n0 ≤ h96.size := Nat.le_trans Z91 (Keep.of_wr W96).1
  clear Z91
  have K96 : Keep h0 h96 [] := K91.wr W96 (Or.inr sz_b36)
  have N96 := Fr.snoc X96 N91 g_b36
  clear K91
  clear N91
  have f97 : Arv Z h96 b6 k6 .int (3 : Int32) [(.int x0), (.int x1), (.int x2)] (.int (0 : Int32)) := f92.other W96 ne_b6_b36
  clear f92
  have f98 : Arv Z h96 b17 k17 .int (4 : Int32) [(.int p2), (.int p3), (.int p4), (.int p5)] (.int (0 : Int32)) := f93.other W96 ne_b17_b36
  clear f93
  have V96 : Arv Z h96 b36 k36 .long (12 : Int32) [(.long q6), (.long (q6 + (1 : Int64))), (.long (q6 + (2 : Int64))), (.long (q6 + (3 : Int64))), (.long (q6 + (4 : Int64))), (.long (q6 + (5 : Int64))), (.long (q6 + (6 : Int64))), (.long (q6 + (7 : Int64))), (.long (q6 + (8 : Int64))), (.long (q6 + (9 : Int64))), (.long (q6 + (10 : Int64))), (.long (q6 + (11 : Int64)))] (.long (0 : Int64)) := Arv.set Ar95 q95 S95 N95' H95 G95 rfl W96 11 rfl (Nat.le_of_ble_eq_true rfl)
  clear Ar95 q95 S95 N95' H95 G95 hin95 W96 V91
  obtain ⟨T99, h99, X99, e99, E99, A99, D99, -, st99⟩ := newO X96 hx hZ hown (hw _ (List.mem_of_getElem? (i := 12) rfl)) (hw _ (List.mem_of_getElem? (i := 13) rfl)) (hw _ (List.mem_of_getElem? (i := 14) rfl)) e96 (g := (mkF m 193 #[.val (.int p1), .val (.int p2), .val (.int p3), .val (.int p4), .val (.int p5), .val (.long q6), .second, .val (.int x0), .val (.int x1), .val (.int x2), .val (.ref b6), .val (.ref b17), .val (.ref b36), .unset] [])) rfl (hb hby at_193) (by decide) (by decide)
  obtain ⟨b99, g99⟩ : ∃ z, z = h96.size := ⟨_, rfl⟩
  rw [← g99] at A99 D99 st99
  have R99 : ∀ t, Steps p.tables e below (T99.setTop (mkF m 196 #[.val (.int p1), .val (.int p2), .val (.int p3), .val (.int p4), .val (.int p5), .val (.long q6), .second, .val (.int x0), .val (.int x1), .val (.int x2), .val (.ref b6), .val (.ref b17), .val (.ref b36), .unset] [(.ref b99)])) t → Steps p.tables e below (s₁.setTop (entryFrame m #[(.int p1), (.int p2), (.int p3), (.int p4), (.int p5), (.long q6)] maxLocals)) t := fun t k => R96 t (st99 t k)
  clear R96 st99 X96 e96
  have ne_b17_b99 : b17 ≠ b99 := Nat.ne_of_lt (Nat.lt_of_lt_of_le f98.lt (Nat.le_of_eq g99.symm))
  have ne_b36_b99 : b36 ≠ b99 := Nat.ne_of_lt (Nat.lt_of_lt_of_le V96.lt (Nat.le_of_eq g99.symm))
  have ne_b6_b99 : b6 ≠ b99 := Nat.ne_of_lt (Nat.lt_of_lt_of_le f97.lt (Nat.le_of_eq g99.symm))
  have g_b99 : n0 ≤ b99 := Nat.le_trans Z96 (Nat.le_of_eq g99.symm)
  have sz_b99 : h0.size ≤ b99 := Nat.le_trans K96.1 (Nat.le_of_eq g99.symm)
  have Z99 : n0 ≤ h99.size := Nat.le_trans Z96 E99.1
  clear Z96
  have K99 : Keep h0 h99 [] := K96.ext E99
  clear K96
  have f100 : Arv Z h99 b6 k6 .int (3 : Int32) [(.int x0), (.int x1), (.int x2)] (.int (0 : Int32)) := f97.ext E99
  clear f97
  have f101 : Arv Z h99 b17 k17 .int (4 : Int32) [(.int p2), (.int p3), (.int p4), (.int p5)] (.int (0 : Int32)) := f98.ext E99
  clear f98
  have f102 : Arv Z h99 b36 k36 .long (12 : Int32) [(.long q6), (.long (q6 + (1 : Int64))), (.long (q6 + (2 : Int64))), (.long (q6 + (3 : Int64))), (.long (q6 + (4 : Int64))), (.long (q6 + (5 : Int64))), (.long (q6 + (6 : Int64))), (.long (q6 + (7 : Int64))), (.long (q6 + (8 : Int64))), (.long (q6 + (9 : Int64))), (.long (q6 + (10 : Int64))), (.long (q6 + (11 : Int64)))] (.long (0 : Int64)) := V96.ext E99
  clear V96
  clear E99
  have F99_22 : Fld Z h99 b99 "com/example/terse_graph/tersegraph/PrefixWriter" "contexts" "[I" .null := D99 (Or.inl (hw _ (List.mem_of_getElem? (i := 22) rfl))) (ty := (.array .int)) (by decide)
  have F99_24 : Fld Z h99 b99 "com/example/terse_graph/tersegraph/PrefixWriter" "values" "[I" .null := D99 (Or.inl (hw _ (List.mem_of_getElem? (i := 24) rfl))) (ty := (.array .int)) (by decide)
  have F99_46 : Fld Z h99 b99 "com/example/terse_graph/tersegraph/PrefixWriter" "coded" "Ljava/io/ByteArrayOutputStream;" .null := D99 (Or.inr (hw _ (List.mem_of_getElem? (i := 46) rfl))) (ty := (.object "java/io/ByteArrayOutputStream")) (by decide)
  have F99_63 : Fld Z h99 b99 "com/example/terse_graph/tersegraph/PrefixWriter" "count" "I" (.int (0 : Int32)) := D99 (Or.inl (hw _ (List.mem_of_getElem? (i := 63) rfl))) (ty := .int) (by decide)
  have R103 : ∀ t, Steps p.tables e below (T99.setTop (mkF m 197 #[.val (.int p1), .val (.int p2), .val (.int p3), .val (.int p4), .val (.int p5), .val (.long q6), .second, .val (.int x0), .val (.int x1), .val (.int x2), .val (.ref b6), .val (.ref b17), .val (.ref b36), .unset] [(.ref b99), (.ref b99)])) t → Steps p.tables e below (s₁.setTop (entryFrame m #[(.int p1), (.int p2), (.int p3), (.int p4), (.int p5), (.long q6)] maxLocals)) t := by
    intro t k
    refine R99 t ?_
    show Steps p.tables e below (T99.setTop (mkF m 196 #[.val (.int p1), .val (.int p2), .val (.int p3), .val (.int p4), .val (.int p5), .val (.long q6), .second, .val (.int x0), .val (.int x1), .val (.int x2), .val (.ref b6), .val (.ref b17), .val (.ref b36), .unset] [(.ref b99)])) _
    refine XS.dup X99.here hx rfl (hb hby at_196) rfl rfl ?_
    exact k
  clear R99
  obtain ⟨_, _, ⟨T104, L104, k104, n104⟩, -, X104, ⟨Lc104, hQ104, l104, y104, z104⟩, st104⟩ := X99.specialBack hx (y := (⟨"com/example/terse_graph/tersegraph/PrefixWriter", "<init>", "()V"⟩ : MethodName)) rfl hown (mvT hZ (hw _ (List.mem_of_getElem? (i := 15) rfl))) (mvT hZ (hw _ (List.mem_of_getElem? (i := 16) rfl))) (mvT hZ (hw _ (List.mem_of_getElem? (i := 17) rfl))) (by decide) (backOf (W := 1) (rmPI l Z a0 hw [] b99  h99 n0 Z99 F99_22 F99_24 F99_63 F99_46 A99 g_b99) hZ (hw _ (List.mem_of_getElem? (i := 17) rfl)) (hw _ (List.mem_of_getElem? (i := 14) rfl)) (by decide) (by decide)) (g := (mkF m 197 #[.val (.int p1), .val (.int p2), .val (.int p3), .val (.int p4), .val (.int p5), .val (.long q6), .second, .val (.int x0), .val (.int x1), .val (.int x2), .val (.ref b6), .val (.ref b17), .val (.ref b36), .unset] [(.ref b99), (.ref b99)])) rfl (by rw [hml]; rfl) (Steps.refl _) (a := b99) (argsL := []) (rest := [(.ref b99)]) (lenOf own_pd0 rfl) rfl (by show 2 * 0 + _ ≤ _; exact Nat.le_of_eq rfl) (hb hby at_197) (fun _ _ => ⟨rfl, e99, (by decide : 4 + 4 ≤ _), (by decide : 23 + 546 ≤ _)⟩)
  dsimp only [Pt.U, Pt.locs, Pt.cells, Pt.slots] at X104 l104 y104 z104 st104 hQ104
  rw [l104, y104, z104] at X104
  obtain ⟨ac, av, kc, kv, rfl, Nq104, Kc104, sc104, sv104, ne_ac_av, Hw104⟩ := hQ104
  have N104 := Fr.app N96 Nq104
  clear N96
  have R104 : ∀ t, Steps p.tables e below (T104.setTop (mkF m 200 #[.val (.int p1), .val (.int p2), .val (.int p3), .val (.int p4), .val (.int p5), .val (.long q6), .second, .val (.int x0), .val (.int x1), .val (.int x2), .val (.ref b6), .val (.ref b17), .val (.ref b36), .unset] [(.ref b99)])) t → Steps p.tables e below (s₁.setTop (entryFrame m #[(.int p1), (.int p2), (.int p3), (.int p4), (.int p5), (.long q6)] maxLocals)) t := fun t k => R103 t (st104.trans k)
  clear R103 st104 X99 e99
  have ne_b6_ac : b6 ≠ ac := Nat.ne_of_lt (Nat.lt_of_lt_of_le f100.lt sc104)
  have ne_b6_av : b6 ≠ av := Nat.ne_of_lt (Nat.lt_of_lt_of_le f100.lt sv104)
  have ne_b17_ac : b17 ≠ ac := Nat.ne_of_lt (Nat.lt_of_lt_of_le f101.lt sc104)
  have ne_b17_av : b17 ≠ av := Nat.ne_of_lt (Nat.lt_of_lt_of_le f101.lt sv104)
  have ne_b36_ac : b36 ≠ ac := Nat.ne_of_lt (Nat.lt_of_lt_of_le f102.lt sc104)
  have ne_b36_av : b36 ≠ av := Nat.ne_of_lt (Nat.lt_of_lt_of_le f102.lt sv104)
  have ne_b99_ac : b99 ≠ ac := Nat.ne_of_lt (Nat.lt_of_lt_of_le A99.lt sc104)
  have ne_b99_av : b99 ≠ av := Nat.ne_of_lt (Nat.lt_of_lt_of_le A99.lt sv104)
  have g_ac : n0 ≤ ac := Nat.le_trans Z99 sc104
  have g_av : n0 ≤ av := Nat.le_trans Z99 sv104
  have sz_ac : h0.size ≤ ac := Nat.le_trans K99.1 sc104
  have sz_av : h0.size ≤ av := Nat.le_trans K99.1 sv104
  have Z104 : n0 ≤ T104.heap.size := Nat.le_trans Z99 Kc104.1
  clear Z99
  have K104 : Keep h0 T104.heap [] := K99.trans Kc104 (allS (Or.inr sz_b99) all0)
  clear K99
  have f105 : Arv Z T104.heap b6 k6 .int (3 : Int32) [(.int x0), (.int x1), (.int x2)] (.int (0 : Int32)) := f100.keep Kc104 (ninS ne_b6_b99 nin0)
  clear f100
  have f106 : Arv Z T104.heap b17 k17 .int (4 : Int32) [(.int p2), (.int p3), (.int p4), (.int p5)] (.int (0 : Int32)) := f101.keep Kc104 (ninS ne_b17_b99 nin0)
  clear f101
  have f107 : Arv Z T104.heap b36 k36 .long (12 : Int32) [(.long q6), (.long (q6 + (1 : Int64))), (.long (q6 + (2 : Int64))), (.long (q6 + (3 : Int64))), (.long (q6 + (4 : Int64))), (.long (q6 + (5 : Int64))), (.long (q6 + (6 : Int64))), (.long (q6 + (7 : Int64))), (.long (q6 + (8 : Int64))), (.long (q6 + (9 : Int64))), (.long (q6 + (10 : Int64))), (.long (q6 + (11 : Int64)))] (.long (0 : Int64)) := f102.keep Kc104 (ninS ne_b36_b99 nin0)
  clear f102
  have f108 : Exa Z T104.heap b99 "com/example/terse_graph/tersegraph/PrefixWriter" := A99.keep Kc104
  have R109 : ∀ t, Steps p.tables e below (T104.setTop (mkF m 207 #[.val (.int p1), .val (.int p2), .val (.int p3), .val (.int p4), .val (.int p5), .val (.long q6), .second, .val (.int x0), .val (.int x1), .val (.int x2), .val (.ref b6), .val (.ref b17), .val (.ref b36), .val (.ref b99)] [(.ref b6), (.int p2), (.ref b99)])) t → Steps p.tables e below (s₁.setTop (entryFrame m #[(.int p1), (.int p2), (.int p3), (.int p4), (.int p5), (.long q6)] maxLocals)) t := by
    intro t k
    refine R104 t ?_
    show Steps p.tables e below (T104.setTop (mkF m 200 #[.val (.int p1), .val (.int p2), .val (.int p3), .val (.int p4), .val (.int p5), .val (.long q6), .second, .val (.int x0), .val (.int x1), .val (.int x2), .val (.ref b6), .val (.ref b17), .val (.ref b36), .unset] [(.ref b99)])) _
    refine XS.astore X104.here hx rfl (hb hby at_200) rfl rfl (l' := #[.val (.int p1), .val (.int p2), .val (.int p3), .val (.int p4), .val (.int p5), .val (.long q6), .second, .val (.int x0), .val (.int x1), .val (.int x2), .val (.ref b6), .val (.ref b17), .val (.ref b36), .val (.ref b99)]) rfl ?_
    show Steps p.tables e below (T104.setTop (mkF m 202 #[.val (.int p1), .val (.int p2), .val (.int p3), .val (.int p4), .val (.int p5), .val (.long q6), .second, .val (.int x0), .val (.int x1), .val (.int x2), .val (.ref b6), .val (.ref b17), .val (.ref b36), .val (.ref b99)] [])) _
    refine XS.aload X104.here hx rfl (hb hby at_202) rfl rfl ?_
    show Steps p.tables e below (T104.setTop (mkF m 204 #[.val (.int p1), .val (.int p2), .val (.int p3), .val (.int p4), .val (.int p5), .val (.long q6), .second, .val (.int x0), .val (.int x1), .val (.int x2), .val (.ref b6), .val (.ref b17), .val (.ref b36), .val (.ref b99)] [(.ref b99)])) _
    refine XS.iloadN X104.here hx rfl (hb hby at_204) rfl ?_
    show Steps p.tables e below (T104.setTop (mkF m 205 #[.val (.int p1), .val (.int p2), .val (.int p3), .val (.int p4), .val (.int p5), .val (.long q6), .second, .val (.int x0), .val (.int x1), .val (.int x2), .val (.ref b6), .val (.ref b17), .val (.ref b36), .val (.ref b99)] [(.int p2), (.ref b99)])) _
    refine XS.aload X104.here hx rfl (hb hby at_205) rfl rfl ?_
    exact k
  clear R104
  have hl0 : ([] : own_E).length < 256 := by decide
  obtain ⟨_, _, ⟨T110, L110, k110, n110⟩, -, X110, ⟨Lc110, hQ110, l110, y110, z110⟩, st110⟩ := Jvm.LawKit.callS X104 hx (y := (⟨"com/example/terse_graph/tersegraph/PrefixWriterCountIntoPinLaw", "put", "(Lcom/example/terse_graph/tersegraph/PrefixWriter;I[I)V"⟩ : MethodName)) hown (mvT hZ (hw _ (List.mem_of_getElem? (i := 47) rfl))) (mvT hZ (hw _ (List.mem_of_getElem? (i := 48) rfl))) (mvT hZ (hw _ (List.mem_of_getElem? (i := 49) rfl))) (mvT hZ (hw _ (List.mem_of_getElem? (i := 50) rfl))) (by decide) (backOf (W := 0) (rmPut l Z a0 hw [] b99 p2 b6 k6 x0 x1 x2 ac av kc kv [] T104.heap n0 Z104 f105 z0 z1 z2 Hw104 g_b99 g_ac g_av ne_b99_ac ne_b99_av ne_ac_av hl0) hZ (hw _ (List.mem_of_getElem? (i := 50) rfl)) (hw _ (List.mem_of_getElem? (i := 49) rfl)) (by decide) (by decide)) (g := (mkF m 207 #[.val (.int p1), .val (.int p2), .val (.int p3), .val (.int p4), .val (.int p5), .val (.long q6), .second, .val (.int x0), .val (.int x1), .val (.int x2), .val (.ref b6), .val (.ref b17), .val (.ref b36), .val (.ref b99)] [(.ref b6), (.int p2), (.ref b99)])) rfl (by rw [hml]; rfl) (argsL := [(.ref b99), (.int p2), (.ref b6)]) (rest := []) (lenOf own_pd2 rfl) rfl (by show 2 * 0 + _ ≤ _; exact Nat.le_of_eq rfl) (hb hby at_207) (fun _ _ => ⟨rfl, rfl, (by decide : 8 + 0 ≤ _), (by decide : 569 + 0 ≤ _)⟩)
  dsimp only [Pt.U, Pt.locs, Pt.cells, Pt.slots] at X110 l110 y110 z110 st110 hQ110
  rw [l110, y110, z110] at X110
  obtain ⟨rfl, Nq110, Kc110, Hw110⟩ := hQ110
  have N110 := Fr.app N104 Nq110
  clear N104
  have R110 : ∀ t, Steps p.tables e below (T110.setTop (mkF m 210 #[.val (.int p1), .val (.int p2), .val (.int p3), .val (.int p4), .val (.int p5), .val (.long q6), .second, .val (.int x0), .val (.int x1), .val (.int x2), .val (.ref b6), .val (.ref b17), .val (.ref b36), .val (.ref b99)] [])) t → Steps p.tables e below (s₁.setTop (entryFrame m #[(.int p1), (.int p2), (.int p3), (.int p4), (.int p5), (.long q6)] maxLocals)) t := fun t k => R109 t (st110 t k)
  clear R109 st110 X104
  have Z110 : n0 ≤ T110.heap.size := Nat.le_trans Z104 Kc110.1
  clear Z104
  have K110 : Keep h0 T110.heap [] := K104.trans Kc110 (allS (Or.inr sz_b99) (allS (Or.inr sz_ac) (allS (Or.inr sz_av) all0)))
  clear K104
  have f111 : Arv Z T110.heap b6 k6 .int (3 : Int32) [(.int x0), (.int x1), (.int x2)] (.int (0 : Int32)) := f105.keep Kc110 (ninS ne_b6_b99 (ninS ne_b6_ac (ninS ne_b6_av nin0)))
  clear f105
  have f112 : Arv Z T110.heap b17 k17 .int (4 : Int32) [(.int p2), (.int p3), (.int p4), (.int p5)] (.int (0 : Int32)) := f106.keep Kc110 (ninS ne_b17_b99 (ninS ne_b17_ac (ninS ne_b17_av nin0)))
  clear f106
  have f113 : Arv Z T110.heap b36 k36 .long (12 : Int32) [(.long q6), (.long (q6 + (1 : Int64))), (.long (q6 + (2 : Int64))), (.long (q6 + (3 : Int64))), (.long (q6 + (4 : Int64))), (.long (q6 + (5 : Int64))), (.long (q6 + (6 : Int64))), (.long (q6 + (7 : Int64))), (.long (q6 + (8 : Int64))), (.long (q6 + (9 : Int64))), (.long (q6 + (10 : Int64))), (.long (q6 + (11 : Int64)))] (.long (0 : Int64)) := f107.keep Kc110 (ninS ne_b36_b99 (ninS ne_b36_ac (ninS ne_b36_av nin0)))
  clear f107
  have f114 : Exa Z T110.heap b99 "com/example/terse_graph/tersegraph/PrefixWriter" := f108.keep Kc110
  clear f108
  have R115 : ∀ t, Steps p.tables e below (T110.setTop (mkF m 215 #[.val (.int p1), .val (.int p2), .val (.int p3), .val (.int p4), .val (.int p5), .val (.long q6), .second, .val (.int x0), .val (.int x1), .val (.int x2), .val (.ref b6), .val (.ref b17), .val (.ref b36), .val (.ref b99)] [(.ref b6), (.int p3), (.ref b99)])) t → Steps p.tables e below (s₁.setTop (entryFrame m #[(.int p1), (.int p2), (.int p3), (.int p4), (.int p5), (.long q6)] maxLocals)) t := by
    intro t k
    refine R110 t ?_
    show Steps p.tables e below (T110.setTop (mkF m 210 #[.val (.int p1), .val (.int p2), .val (.int p3), .val (.int p4), .val (.int p5), .val (.long q6), .second, .val (.int x0), .val (.int x1), .val (.int x2), .val (.ref b6), .val (.ref b17), .val (.ref b36), .val (.ref b99)] [])) _
    refine XS.aload X110.here hx rfl (hb hby at_210) rfl rfl ?_
    show Steps p.tables e below (T110.setTop (mkF m 212 #[.val (.int p1), .val (.int p2), .val (.int p3), .val (.int p4), .val (.int p5), .val (.long q6), .second, .val (.int x0), .val (.int x1), .val (.int x2), .val (.ref b6), .val (.ref b17), .val (.ref b36), .val (.ref b99)] [(.ref b99)])) _
    refine XS.iloadN X110.here hx rfl (hb hby at_212) rfl ?_
    show Steps p.tables e below (T110.setTop (mkF m 213 #[.val (.int p1), .val (.int p2), .val (.int p3), .val (.int p4), .val (.int p5), .val (.long q6), .second, .val (.int x0), .val (.int x1), .val (.int x2), .val (.ref b6), .val (.ref b17), .val (.ref b36), .val (.ref b99)] [(.int p3), (.ref b99)])) _
    refine XS.aload X110.here hx rfl (hb hby at_213) rfl rfl ?_
    exact k
  clear R110
  have hl1 : (([] ++ own_ent p2 x0 x1 x2) : own_E).length < 256 := by simp only [List.length_append, List.length_nil]; have := own_ent_len (x := p2) (x0 := x0) (x1 := x1) (x2 := x2); omega
  obtain ⟨_, _, ⟨T116, L116, k116, n116⟩, -, X116, ⟨Lc116, hQ116, l116, y116, z116⟩, st116⟩ := Jvm.LawKit.callS X110 hx (y := (⟨"com/example/terse_graph/tersegraph/PrefixWriterCountIntoPinLaw", "put", "(Lcom/example/terse_graph/tersegraph/PrefixWriter;I[I)V"⟩ : MethodName)) hown (mvT hZ (hw _ (List.mem_of_getElem? (i := 47) rfl))) (mvT hZ (hw _ (List.mem_of_getElem? (i := 48) rfl))) (mvT hZ (hw _ (List.mem_of_getElem? (i := 49) rfl))) (mvT hZ (hw _ (List.mem_of_getElem? (i := 50) rfl))) (by decide) (backOf (W := 0) (rmPut l Z a0 hw [] b99 p3 b6 k6 x0 x1 x2 ac av kc kv ([] ++ own_ent p2 x0 x1 x2) T110.heap n0 Z110 f111 z0 z1 z2 Hw110 g_b99 g_ac g_av ne_b99_ac ne_b99_av ne_ac_av hl1) hZ (hw _ (List.mem_of_getElem? (i := 50) rfl)) (hw _ (List.mem_of_getElem? (i := 49) rfl)) (by decide) (by decide)) (g := (mkF m 215 #[.val (.int p1), .val (.int p2), .val (.int p3), .val (.int p4), .val (.int p5), .val (.long q6), .second, .val (.int x0), .val (.int x1), .val (.int x2), .val (.ref b6), .val (.ref b17), .val (.ref b36), .val (.ref b99)] [(.ref b6), (.int p3), (.ref b99)])) rfl (by rw [hml]; rfl) (argsL := [(.ref b99), (.int p3), (.ref b6)]) (rest := []) (lenOf own_pd2 rfl) rfl (by show 2 * 0 + _ ≤ _; exact Nat.le_of_eq rfl) (hb hby at_215) (fun _ _ => ⟨rfl, rfl, (by decide : 8 + 0 ≤ _), (by decide : 569 + 0 ≤ _)⟩)
  dsimp only [Pt.U, Pt.locs, Pt.cells, Pt.slots] at X116 l116 y116 z116 st116 hQ116
  rw [l116, y116, z116] at X116
  obtain ⟨rfl, Nq116, Kc116, Hw116⟩ := hQ116
  have N116 := Fr.app N110 Nq116
  clear N110
  have R116 : ∀ t, Steps p.tables e below (T116.setTop (mkF m 218 #[.val (.int p1), .val (.int p2), .val (.int p3), .val (.int p4), .val (.int p5), .val (.long q6), .second, .val (.int x0), .val (.int x1), .val (.int x2), .val (.ref b6), .val (.ref b17), .val (.ref b36), .val (.ref b99)] [])) t → Steps p.tables e below (s₁.setTop (entryFrame m #[(.int p1), (.int p2), (.int p3), (.int p4), (.int p5), (.long q6)] maxLocals)) t := fun t k => R115 t (st116 t k)
  clear R115 st116 X110
  have Z116 : n0 ≤ T116.heap.size := Nat.le_trans Z110 Kc116.1
  clear Z110
  have K116 : Keep h0 T116.heap [] := K110.trans Kc116 (allS (Or.inr sz_b99) (allS (Or.inr sz_ac) (allS (Or.inr sz_av) all0)))
  clear K110
  have f117 : Arv Z T116.heap b6 k6 .int (3 : Int32) [(.int x0), (.int x1), (.int x2)] (.int (0 : Int32)) := f111.keep Kc116 (ninS ne_b6_b99 (ninS ne_b6_ac (ninS ne_b6_av nin0)))
  clear f111
  have f118 : Arv Z T116.heap b17 k17 .int (4 : Int32) [(.int p2), (.int p3), (.int p4), (.int p5)] (.int (0 : Int32)) := f112.keep Kc116 (ninS ne_b17_b99 (ninS ne_b17_ac (ninS ne_b17_av nin0)))
  clear f112
  have f119 : Arv Z T116.heap b36 k36 .long (12 : Int32) [(.long q6), (.long (q6 + (1 : Int64))), (.long (q6 + (2 : Int64))), (.long (q6 + (3 : Int64))), (.long (q6 + (4 : Int64))), (.long (q6 + (5 : Int64))), (.long (q6 + (6 : Int64))), (.long (q6 + (7 : Int64))), (.long (q6 + (8 : Int64))), (.long (q6 + (9 : Int64))), (.long (q6 + (10 : Int64))), (.long (q6 + (11 : Int64)))] (.long (0 : Int64)) := f113.keep Kc116 (ninS ne_b36_b99 (ninS ne_b36_ac (ninS ne_b36_av nin0)))
  clear f113
  have f120 : Exa Z T116.heap b99 "com/example/terse_graph/tersegraph/PrefixWriter" := f114.keep Kc116
  clear f114
  have R121 : ∀ t, Steps p.tables e below (T116.setTop (mkF m 223 #[.val (.int p1), .val (.int p2), .val (.int p3), .val (.int p4), .val (.int p5), .val (.long q6), .second, .val (.int x0), .val (.int x1), .val (.int x2), .val (.ref b6), .val (.ref b17), .val (.ref b36), .val (.ref b99)] [(.ref b6), (.int p4), (.ref b99)])) t → Steps p.tables e below (s₁.setTop (entryFrame m #[(.int p1), (.int p2), (.int p3), (.int p4), (.int p5), (.long q6)] maxLocals)) t := by
    intro t k
    refine R116 t ?_
    show Steps p.tables e below (T116.setTop (mkF m 218 #[.val (.int p1), .val (.int p2), .val (.int p3), .val (.int p4), .val (.int p5), .val (.long q6), .second, .val (.int x0), .val (.int x1), .val (.int x2), .val (.ref b6), .val (.ref b17), .val (.ref b36), .val (.ref b99)] [])) _
    refine XS.aload X116.here hx rfl (hb hby at_218) rfl rfl ?_
    show Steps p.tables e below (T116.setTop (mkF m 220 #[.val (.int p1), .val (.int p2), .val (.int p3), .val (.int p4), .val (.int p5), .val (.long q6), .second, .val (.int x0), .val (.int x1), .val (.int x2), .val (.ref b6), .val (.ref b17), .val (.ref b36), .val (.ref b99)] [(.ref b99)])) _
    refine XS.iloadN X116.here hx rfl (hb hby at_220) rfl ?_
    show Steps p.tables e below (T116.setTop (mkF m 221 #[.val (.int p1), .val (.int p2), .val (.int p3), .val (.int p4), .val (.int p5), .val (.long q6), .second, .val (.int x0), .val (.int x1), .val (.int x2), .val (.ref b6), .val (.ref b17), .val (.ref b36), .val (.ref b99)] [(.int p4), (.ref b99)])) _
    refine XS.aload X116.here hx rfl (hb hby at_221) rfl rfl ?_
    exact k
  clear R116
  have hl2 : ((([] ++ own_ent p2 x0 x1 x2) ++ own_ent p3 x0 x1 x2) : own_E).length < 256 := by simp only [List.length_append, List.length_nil]; have := own_ent_len (x := p2) (x0 := x0) (x1 := x1) (x2 := x2); have := own_ent_len (x := p3) (x0 := x0) (x1 := x1) (x2 := x2); omega
  obtain ⟨_, _, ⟨T122, L122, k122, n122⟩, -, X122, ⟨Lc122, hQ122, l122, y122, z122⟩, st122⟩ := Jvm.LawKit.callS X116 hx (y := (⟨"com/example/terse_graph/tersegraph/PrefixWriterCountIntoPinLaw", "put", "(Lcom/example/terse_graph/tersegraph/PrefixWriter;I[I)V"⟩ : MethodName)) hown (mvT hZ (hw _ (List.mem_of_getElem? (i := 47) rfl))) (mvT hZ (hw _ (List.mem_of_getElem? (i := 48) rfl))) (mvT hZ (hw _ (List.mem_of_getElem? (i := 49) rfl))) (mvT hZ (hw _ (List.mem_of_getElem? (i := 50) rfl))) (by decide) (backOf (W := 0) (rmPut l Z a0 hw [] b99 p4 b6 k6 x0 x1 x2 ac av kc kv (([] ++ own_ent p2 x0 x1 x2) ++ own_ent p3 x0 x1 x2) T116.heap n0 Z116 f117 z0 z1 z2 Hw116 g_b99 g_ac g_av ne_b99_ac ne_b99_av ne_ac_av hl2) hZ (hw _ (List.mem_of_getElem? (i := 50) rfl)) (hw _ (List.mem_of_getElem? (i := 49) rfl)) (by decide) (by decide)) (g := (mkF m 223 #[.val (.int p1), .val (.int p2), .val (.int p3), .val (.int p4), .val (.int p5), .val (.long q6), .second, .val (.int x0), .val (.int x1), .val (.int x2), .val (.ref b6), .val (.ref b17), .val (.ref b36), .val (.ref b99)] [(.ref b6), (.int p4), (.ref b99)])) rfl (by rw [hml]; rfl) (argsL := [(.ref b99), (.int p4), (.ref b6)]) (rest := []) (lenOf own_pd2 rfl) rfl (by show 2 * 0 + _ ≤ _; exact Nat.le_of_eq rfl) (hb hby at_223) (fun _ _ => ⟨rfl, rfl, (by decide : 8 + 0 ≤ _), (by decide : 569 + 0 ≤ _)⟩)
  dsimp only [Pt.U, Pt.locs, Pt.cells, Pt.slots] at X122 l122 y122 z122 st122 hQ122
  rw [l122, y122, z122] at X122
  obtain ⟨rfl, Nq122, Kc122, Hw122⟩ := hQ122
  have N122 := Fr.app N116 Nq122
  clear N116
  have R122 : ∀ t, Steps p.tables e below (T122.setTop (mkF m 226 #[.val (.int p1), .val (.int p2), .val (.int p3), .val (.int p4), .val (.int p5), .val (.long q6), .second, .val (.int x0), .val (.int x1), .val (.int x2), .val (.ref b6), .val (.ref b17), .val (.ref b36), .val (.ref b99)] [])) t → Steps p.tables e below (s₁.setTop (entryFrame m #[(.int p1), (.int p2), (.int p3), (.int p4), (.int p5), (.long q6)] maxLocals)) t := fun t k => R121 t (st122 t k)
  clear R121 st122 X116
  have Z122 : n0 ≤ T122.heap.size := Nat.le_trans Z116 Kc122.1
  clear Z116
  have K122 : Keep h0 T122.heap [] := K116.trans Kc122 (allS (Or.inr sz_b99) (allS (Or.inr sz_ac) (allS (Or.inr sz_av) all0)))
  clear K116
  have f123 : Arv Z T122.heap b6 k6 .int (3 : Int32) [(.int x0), (.int x1), (.int x2)] (.int (0 : Int32)) := f117.keep Kc122 (ninS ne_b6_b99 (ninS ne_b6_ac (ninS ne_b6_av nin0)))
  clear f117
  have f124 : Arv Z T122.heap b17 k17 .int (4 : Int32) [(.int p2), (.int p3), (.int p4), (.int p5)] (.int (0 : Int32)) := f118.keep Kc122 (ninS ne_b17_b99 (ninS ne_b17_ac (ninS ne_b17_av nin0)))
  clear f118
  have f125 : Arv Z T122.heap b36 k36 .long (12 : Int32) [(.long q6), (.long (q6 + (1 : Int64))), (.long (q6 + (2 : Int64))), (.long (q6 + (3 : Int64))), (.long (q6 + (4 : Int64))), (.long (q6 + (5 : Int64))), (.long (q6 + (6 : Int64))), (.long (q6 + (7 : Int64))), (.long (q6 + (8 : Int64))), (.long (q6 + (9 : Int64))), (.long (q6 + (10 : Int64))), (.long (q6 + (11 : Int64)))] (.long (0 : Int64)) := f119.keep Kc122 (ninS ne_b36_b99 (ninS ne_b36_ac (ninS ne_b36_av nin0)))
  clear f119
  have f126 : Exa Z T122.heap b99 "com/example/terse_graph/tersegraph/PrefixWriter" := f120.keep Kc122
  clear f120
  have R127 : ∀ t, Steps p.tables e below (T122.setTop (mkF m 232 #[.val (.int p1), .val (.int p2), .val (.int p3), .val (.int p4), .val (.int p5), .val (.long q6), .second, .val (.int x0), .val (.int x1), .val (.int x2), .val (.ref b6), .val (.ref b17), .val (.ref b36), .val (.ref b99)] [(.ref b6), (.int p5), (.ref b99)])) t → Steps p.tables e below (s₁.setTop (entryFrame m #[(.int p1), (.int p2), (.int p3), (.int p4), (.int p5), (.long q6)] maxLocals)) t := by
    intro t k
    refine R122 t ?_
    show Steps p.tables e below (T122.setTop (mkF m 226 #[.val (.int p1), .val (.int p2), .val (.int p3), .val (.int p4), .val (.int p5), .val (.long q6), .second, .val (.int x0), .val (.int x1), .val (.int x2), .val (.ref b6), .val (.ref b17), .val (.ref b36), .val (.ref b99)] [])) _
    refine XS.aload X122.here hx rfl (hb hby at_226) rfl rfl ?_
    show Steps p.tables e below (T122.setTop (mkF m 228 #[.val (.int p1), .val (.int p2), .val (.int p3), .val (.int p4), .val (.int p5), .val (.long q6), .second, .val (.int x0), .val (.int x1), .val (.int x2), .val (.ref b6), .val (.ref b17), .val (.ref b36), .val (.ref b99)] [(.ref b99)])) _
    refine XS.iload X122.here hx rfl (hb hby at_228) rfl ?_
    show Steps p.tables e below (T122.setTop (mkF m 230 #[.val (.int p1), .val (.int p2), .val (.int p3), .val (.int p4), .val (.int p5), .val (.long q6), .second, .val (.int x0), .val (.int x1), .val (.int x2), .val (.ref b6), .val (.ref b17), .val (.ref b36), .val (.ref b99)] [(.int p5), (.ref b99)])) _
    refine XS.aload X122.here hx rfl (hb hby at_230) rfl rfl ?_
    exact k
  clear R122
  have hl3 : (((([] ++ own_ent p2 x0 x1 x2) ++ own_ent p3 x0 x1 x2) ++ own_ent p4 x0 x1 x2) : own_E).length < 256 := by simp only [List.length_append, List.length_nil]; have := own_ent_len (x := p2) (x0 := x0) (x1 := x1) (x2 := x2); have := own_ent_len (x := p3) (x0 := x0) (x1 := x1) (x2 := x2); have := own_ent_len (x := p4) (x0 := x0) (x1 := x1) (x2 := x2); omega
  obtain ⟨_, _, ⟨T128, L128, k128, n128⟩, -, X128, ⟨Lc128, hQ128, l128, y128, z128⟩, st128⟩ := Jvm.LawKit.callS X122 hx (y := (⟨"com/example/terse_graph/tersegraph/PrefixWriterCountIntoPinLaw", "put", "(Lcom/example/terse_graph/tersegraph/PrefixWriter;I[I)V"⟩ : MethodName)) hown (mvT hZ (hw _ (List.mem_of_getElem? (i := 47) rfl))) (mvT hZ (hw _ (List.mem_of_getElem? (i := 48) rfl))) (mvT hZ (hw _ (List.mem_of_getElem? (i := 49) rfl))) (mvT hZ (hw _ (List.mem_of_getElem? (i := 50) rfl))) (by decide) (backOf (W := 0) (rmPut l Z a0 hw [] b99 p5 b6 k6 x0 x1 x2 ac av kc kv ((([] ++ own_ent p2 x0 x1 x2) ++ own_ent p3 x0 x1 x2) ++ own_ent p4 x0 x1 x2) T122.heap n0 Z122 f123 z0 z1 z2 Hw122 g_b99 g_ac g_av ne_b99_ac ne_b99_av ne_ac_av hl3) hZ (hw _ (List.mem_of_getElem? (i := 50) rfl)) (hw _ (List.mem_of_getElem? (i := 49) rfl)) (by decide) (by decide)) (g := (mkF m 232 #[.val (.int p1), .val (.int p2), .val (.int p3), .val (.int p4), .val (.int p5), .val (.long q6), .second, .val (.int x0), .val (.int x1), .val (.int x2), .val (.ref b6), .val (.ref b17), .val (.ref b36), .val (.ref b99)] [(.ref b6), (.int p5), (.ref b99)])) rfl (by rw [hml]; rfl) (argsL := [(.ref b99), (.int p5), (.ref b6)]) (rest := []) (lenOf own_pd2 rfl) rfl (by show 2 * 0 + _ ≤ _; exact Nat.le_of_eq rfl) (hb hby at_232) (fun _ _ => ⟨rfl, rfl, (by decide : 8 + 0 ≤ _), (by decide : 569 + 0 ≤ _)⟩)
  dsimp only [Pt.U, Pt.locs, Pt.cells, Pt.slots] at X128 l128 y128 z128 st128 hQ128
  rw [l128, y128, z128] at X128
  obtain ⟨rfl, Nq128, Kc128, Hw128⟩ := hQ128
  have N128 := Fr.app N122 Nq128
  clear N122
  have R128 : ∀ t, Steps p.tables e below (T128.setTop (mkF m 235 #[.val (.int p1), .val (.int p2), .val (.int p3), .val (.int p4), .val (.int p5), .val (.long q6), .second, .val (.int x0), .val (.int x1), .val (.int x2), .val (.ref b6), .val (.ref b17), .val (.ref b36), .val (.ref b99)] [])) t → Steps p.tables e below (s₁.setTop (entryFrame m #[(.int p1), (.int p2), (.int p3), (.int p4), (.int p5), (.long q6)] maxLocals)) t := fun t k => R127 t (st128 t k)
  clear R127 st128 X122
  have Z128 : n0 ≤ T128.heap.size := Nat.le_trans Z122 Kc128.1
  clear Z122
  have K128 : Keep h0 T128.heap [] := K122.trans Kc128 (allS (Or.inr sz_b99) (allS (Or.inr sz_ac) (allS (Or.inr sz_av) all0)))
  clear K122
  have f129 : Arv Z T128.heap b6 k6 .int (3 : Int32) [(.int x0), (.int x1), (.int x2)] (.int (0 : Int32)) := f123.keep Kc128 (ninS ne_b6_b99 (ninS ne_b6_ac (ninS ne_b6_av nin0)))
  clear f123
  have f130 : Arv Z T128.heap b17 k17 .int (4 : Int32) [(.int p2), (.int p3), (.int p4), (.int p5)] (.int (0 : Int32)) := f124.keep Kc128 (ninS ne_b17_b99 (ninS ne_b17_ac (ninS ne_b17_av nin0)))
  clear f124
  have f131 : Arv Z T128.heap b36 k36 .long (12 : Int32) [(.long q6), (.long (q6 + (1 : Int64))), (.long (q6 + (2 : Int64))), (.long (q6 + (3 : Int64))), (.long (q6 + (4 : Int64))), (.long (q6 + (5 : Int64))), (.long (q6 + (6 : Int64))), (.long (q6 + (7 : Int64))), (.long (q6 + (8 : Int64))), (.long (q6 + (9 : Int64))), (.long (q6 + (10 : Int64))), (.long (q6 + (11 : Int64)))] (.long (0 : Int64)) := f125.keep Kc128 (ninS ne_b36_b99 (ninS ne_b36_ac (ninS ne_b36_av nin0)))
  clear f125
  have f132 : Exa Z T128.heap b99 "com/example/terse_graph/tersegraph/PrefixWriter" := f126.keep Kc128
  clear f126
  have R133 : ∀ t, Steps p.tables e below (T128.setTop (mkF m 241 #[.val (.int p1), .val (.int p2), .val (.int p3), .val (.int p4), .val (.int p5), .val (.long q6), .second, .val (.int x0), .val (.int x1), .val (.int x2), .val (.ref b6), .val (.ref b17), .val (.ref b36), .val (.ref b99)] [(.ref b6), (.ref b36), (.ref b99)])) t → Steps p.tables e below (s₁.setTop (entryFrame m #[(.int p1), (.int p2), (.int p3), (.int p4), (.int p5), (.long q6)] maxLocals)) t := by
    intro t k
    refine R128 t ?_
    show Steps p.tables e below (T128.setTop (mkF m 235 #[.val (.int p1), .val (.int p2), .val (.int p3), .val (.int p4), .val (.int p5), .val (.long q6), .second, .val (.int x0), .val (.int x1), .val (.int x2), .val (.ref b6), .val (.ref b17), .val (.ref b36), .val (.ref b99)] [])) _
    refine XS.aload X128.here hx rfl (hb hby at_235) rfl rfl ?_
    show Steps p.tables e below (T128.setTop (mkF m 237 #[.val (.int p1), .val (.int p2), .val (.int p3), .val (.int p4), .val (.int p5), .val (.long q6), .second, .val (.int x0), .val (.int x1), .val (.int x2), .val (.ref b6), .val (.ref b17), .val (.ref b36), .val (.ref b99)] [(.ref b99)])) _
    refine XS.aload X128.here hx rfl (hb hby at_237) rfl rfl ?_
    show Steps p.tables e below (T128.setTop (mkF m 239 #[.val (.int p1), .val (.int p2), .val (.int p3), .val (.int p4), .val (.int p5), .val (.long q6), .second, .val (.int x0), .val (.int x1), .val (.int x2), .val (.ref b6), .val (.ref b17), .val (.ref b36), .val (.ref b99)] [(.ref b36), (.ref b99)])) _
    refine XS.aload X128.here hx rfl (hb hby at_239) rfl rfl ?_
    exact k
  clear R128
  have hl4 : ((((([] ++ own_ent p2 x0 x1 x2) ++ own_ent p3 x0 x1 x2) ++ own_ent p4 x0 x1 x2) ++ own_ent p5 x0 x1 x2) : own_E).length < 256 := by simp only [List.length_append, List.length_nil]; have := own_ent_len (x := p2) (x0 := x0) (x1 := x1) (x2 := x2); have := own_ent_len (x := p3) (x0 := x0) (x1 := x1) (x2 := x2); have := own_ent_len (x := p4) (x0 := x0) (x1 := x1) (x2 := x2); have := own_ent_len (x := p5) (x0 := x0) (x1 := x1) (x2 := x2); omega
  have hgood : ∀ q ∈ (((([] ++ own_ent p2 x0 x1 x2) ++ own_ent p3 x0 x1 x2) ++ own_ent p4 x0 x1 x2) ++ own_ent p5 x0 x1 x2), own_good x0 x1 q := by
    intro q hq
    simp only [List.mem_append, List.not_mem_nil, false_or] at hq
    rcases hq with ((hq | hq) | hq) | hq <;> exact own_ent_good b0 b1 b2 q hq
  obtain ⟨cq134, kq134, q134a, q134b, q134c⟩ := isOf hZ rfl Hw128.2.2.2.1
  obtain ⟨_, _, ⟨T134, L134, k134, n134⟩, -, X134, ⟨Lc134, hQ134, l134, y134, z134⟩, st134⟩ := X128.virtualBack hx (y := (⟨"com/example/terse_graph/tersegraph/PrefixWriter", "countInto", "([J[I)V"⟩ : MethodName)) (z := (⟨"com/example/terse_graph/tersegraph/PrefixWriter", "countInto", "([J[I)V"⟩ : MethodName)) hown (mvT hZ (hw _ (List.mem_of_getElem? (i := 70) rfl))) (mvT hZ (hw _ (List.mem_of_getElem? (i := 71) rfl))) (notFace_of_selects (args := #[]) (mvT hZ (hw _ (List.mem_of_getElem? (i := 73) rfl)))) (mvT hZ (hw _ (List.mem_of_getElem? (i := 73) rfl))) (mvT hZ (hw _ (List.mem_of_getElem? (i := 72) rfl))) (by decide) (backOf (W := 0) (rmCnt l Z a0 hw [] b99 b36 b6 k6 x0 x1 x2 k36 [q6, (q6 + (1 : Int64)), (q6 + (2 : Int64)), (q6 + (3 : Int64)), (q6 + (4 : Int64)), (q6 + (5 : Int64)), (q6 + (6 : Int64)), (q6 + (7 : Int64)), (q6 + (8 : Int64)), (q6 + (9 : Int64)), (q6 + (10 : Int64)), (q6 + (11 : Int64))] ac av kc kv (((([] ++ own_ent p2 x0 x1 x2) ++ own_ent p3 x0 x1 x2) ++ own_ent p4 x0 x1 x2) ++ own_ent p5 x0 x1 x2) T128.heap n0 Z128 f129 f131 Hw128 g_b36 rfl hl4 hgood ne_b36_b99 ne_b36_ac ne_b36_av) hZ (hw _ (List.mem_of_getElem? (i := 74) rfl)) (hw _ (List.mem_of_getElem? (i := 14) rfl)) (by decide) (by decide)) q134a q134c (g := (mkF m 241 #[.val (.int p1), .val (.int p2), .val (.int p3), .val (.int p4), .val (.int p5), .val (.long q6), .second, .val (.int x0), .val (.int x1), .val (.int x2), .val (.ref b6), .val (.ref b17), .val (.ref b36), .val (.ref b99)] [(.ref b6), (.ref b36), (.ref b99)])) rfl (by rw [hml]; rfl) (Steps.refl _) (argsL := [(.ref b36), (.ref b6)]) (rest := []) (lenOf own_pd7 rfl) rfl (by show 2 * 0 + _ ≤ _; exact Nat.le_of_eq rfl) (hb hby at_241) (fun _ _ => ⟨rfl, rfl, (by decide : 8 + 1 ≤ _), (by decide : 569 + 3 ≤ _)⟩)
  dsimp only [Pt.U, Pt.locs, Pt.cells, Pt.slots] at X134 l134 y134 z134 st134 hQ134
  rw [l134, y134, z134] at X134
  obtain ⟨rfl, Nq134, Kc134, Vn134⟩ := hQ134
  have N134 := Fr.app N128 Nq134
  clear N128
  have R134 : ∀ t, Steps p.tables e below (T134.setTop (mkF m 244 #[.val (.int p1), .val (.int p2), .val (.int p3), .val (.int p4), .val (.int p5), .val (.long q6), .second, .val (.int x0), .val (.int x1), .val (.int x2), .val (.ref b6), .val (.ref b17), .val (.ref b36), .val (.ref b99)] [])) t → Steps p.tables e below (s₁.setTop (entryFrame m #[(.int p1), (.int p2), (.int p3), (.int p4), (.int p5), (.long q6)] maxLocals)) t := fun t k => R133 t (st134.trans k)
  clear R133 st134 X128
  have Z134 : n0 ≤ T134.heap.size := Nat.le_trans Z128 Kc134.1
  clear Z128
  have K134 : Keep h0 T134.heap [] := K128.trans Kc134 (allS (Or.inr sz_b36) all0)
  clear K128
  have f135 : Arv Z T134.heap b6 k6 .int (3 : Int32) [(.int x0), (.int x1), (.int x2)] (.int (0 : Int32)) := f129.keep Kc134 (ninS ne_b6_b36 nin0)
  clear f129
  have f136 : Arv Z T134.heap b17 k17 .int (4 : Int32) [(.int p2), (.int p3), (.int p4), (.int p5)] (.int (0 : Int32)) := f130.keep Kc134 (ninS ne_b17_b36 nin0)
  clear f130
  have f137 : Exa Z T134.heap b99 "com/example/terse_graph/tersegraph/PrefixWriter" := f132.keep Kc134
  clear f132
  obtain ⟨fin, hfin⟩ : ∃ z, z = ((((([] ++ own_ent p2 x0 x1 x2) ++ own_ent p3 x0 x1 x2) ++ own_ent p4 x0 x1 x2) ++ own_ent p5 x0 x1 x2).foldl (own_step x0 x1) [q6, (q6 + (1 : Int64)), (q6 + (2 : Int64)), (q6 + (3 : Int64)), (q6 + (4 : Int64)), (q6 + (5 : Int64)), (q6 + (6 : Int64)), (q6 + (7 : Int64)), (q6 + (8 : Int64)), (q6 + (9 : Int64)), (q6 + (10 : Int64)), (q6 + (11 : Int64))]) := ⟨_, rfl⟩
  rw [← hfin] at Vn134
  have R138 : ∀ t, Steps p.tables e below (T134.setTop (mkF m 253 #[.val (.int p1), .val (.int p2), .val (.int p3), .val (.int p4), .val (.int p5), .val (.long q6), .second, .val (.int x0), .val (.int x1), .val (.int x2), .val (.ref b6), .val (.ref b17), .val (.ref b36), .val (.ref b99)] [(.ref b6), (.ref b17), (.long q6), (.int (0 : Int32)), (.ref b36)])) t → Steps p.tables e below (s₁.setTop (entryFrame m #[(.int p1), (.int p2), (.int p3), (.int p4), (.int p5), (.long q6)] maxLocals)) t := by
    intro t k
    refine R134 t ?_
    show Steps p.tables e below (T134.setTop (mkF m 244 #[.val (.int p1), .val (.int p2), .val (.int p3), .val (.int p4), .val (.int p5), .val (.long q6), .second, .val (.int x0), .val (.int x1), .val (.int x2), .val (.ref b6), .val (.ref b17), .val (.ref b36), .val (.ref b99)] [])) _
    refine XS.aload X134.here hx rfl (hb hby at_244) rfl rfl ?_
    show Steps p.tables e below (T134.setTop (mkF m 246 #[.val (.int p1), .val (.int p2), .val (.int p3), .val (.int p4), .val (.int p5), .val (.long q6), .second, .val (.int x0), .val (.int x1), .val (.int x2), .val (.ref b6), .val (.ref b17), .val (.ref b36), .val (.ref b99)] [(.ref b36)])) _
    refine XS.iconst X134.here hx rfl (hb hby at_246) ?_
    show Steps p.tables e below (T134.setTop (mkF m 247 #[.val (.int p1), .val (.int p2), .val (.int p3), .val (.int p4), .val (.int p5), .val (.long q6), .second, .val (.int x0), .val (.int x1), .val (.int x2), .val (.ref b6), .val (.ref b17), .val (.ref b36), .val (.ref b99)] [(.int (0 : Int32)), (.ref b36)])) _
    refine XS.lload X134.here hx rfl (hb hby at_247) rfl ?_
    show Steps p.tables e below (T134.setTop (mkF m 249 #[.val (.int p1), .val (.int p2), .val (.int p3), .val (.int p4), .val (.int p5), .val (.long q6), .second, .val (.int x0), .val (.int x1), .val (.int x2), .val (.ref b6), .val (.ref b17), .val (.ref b36), .val (.ref b99)] [(.long q6), (.int (0 : Int32)), (.ref b36)])) _
    refine XS.aload X134.here hx rfl (hb hby at_249) rfl rfl ?_
    show Steps p.tables e below (T134.setTop (mkF m 251 #[.val (.int p1), .val (.int p2), .val (.int p3), .val (.int p4), .val (.int p5), .val (.long q6), .second, .val (.int x0), .val (.int x1), .val (.int x2), .val (.ref b6), .val (.ref b17), .val (.ref b36), .val (.ref b99)] [(.ref b17), (.long q6), (.int (0 : Int32)), (.ref b36)])) _
    refine XS.aload X134.here hx rfl (hb hby at_251) rfl rfl ?_
    exact k
  clear R134
  have hv0 : fin.getD (0 : Int32).toNatClampNeg 0 = ((((q6 + (0 : Int32).toInt64) + own_hit p2 (0 : Int32) x0 x1 x2) + own_hit p3 (0 : Int32) x0 x1 x2) + own_hit p4 (0 : Int32) x0 x1 x2) + own_hit p5 (0 : Int32) x0 x1 x2 := by
    rw [hfin, own_all b0 b1 b2 rfl (by decide) (by decide)]
    have hg : ([q6, (q6 + (1 : Int64)), (q6 + (2 : Int64)), (q6 + (3 : Int64)), (q6 + (4 : Int64)), (q6 + (5 : Int64)), (q6 + (6 : Int64)), (q6 + (7 : Int64)), (q6 + (8 : Int64)), (q6 + (9 : Int64)), (q6 + (10 : Int64)), (q6 + (11 : Int64))] : List Int64).getD (0 : Int32).toNatClampNeg 0 = q6 + (0 : Int32).toInt64 := (Int64.add_zero q6).symm
    rw [hg]
  obtain ⟨_, _, ⟨T139, L139, k139, n139⟩, -, X139, ⟨Lc139, hQ139, l139, y139, z139⟩, st139⟩ := Jvm.LawKit.callS X134 hx (y := (⟨"com/example/terse_graph/tersegraph/PrefixWriterCountIntoPinLaw", "cell", "([JIJ[I[I)Z"⟩ : MethodName)) hown (mvT hZ (hw _ (List.mem_of_getElem? (i := 75) rfl))) (mvT hZ (hw _ (List.mem_of_getElem? (i := 76) rfl))) (mvT hZ (hw _ (List.mem_of_getElem? (i := 49) rfl))) (mvT hZ (hw _ (List.mem_of_getElem? (i := 77) rfl))) (by decide) (backOf (W := 0) (rmCell l Z a0 hw [] b36 (0 : Int32) q6 b17 b6 k6 x0 x1 x2 k36 k17 fin p2 p3 p4 p5 T134.heap n0 Z134 f135 z0 z1 z2 Vn134 f136 ⟨by decide, by decide⟩ hv0) hZ (hw _ (List.mem_of_getElem? (i := 77) rfl)) (hw _ (List.mem_of_getElem? (i := 49) rfl)) (by decide) (by decide)) (g := (mkF m 253 #[.val (.int p1), .val (.int p2), .val (.int p3), .val (.int p4), .val (.int p5), .val (.long q6), .second, .val (.int x0), .val (.int x1), .val (.int x2), .val (.ref b6), .val (.ref b17), .val (.ref b36), .val (.ref b99)] [(.ref b6), (.ref b17), (.long q6), (.int (0 : Int32)), (.ref b36)])) rfl (by rw [hml]; rfl) (argsL := [(.ref b36), (.int (0 : Int32)), (.long q6), (.ref b17), (.ref b6)]) (rest := []) (lenOf own_pd8 rfl) rfl (by show 2 * 0 + _ ≤ _; exact Nat.le_of_eq rfl) (hb hby at_253) (fun _ _ => ⟨rfl, rfl, (by decide : 9 + 0 ≤ _), (by decide : 572 + 0 ≤ _)⟩)
  dsimp only [Pt.U, Pt.locs, Pt.cells, Pt.slots] at X139 l139 y139 z139 st139 hQ139
  rw [l139, y139, z139] at X139
  obtain ⟨rfl, Nq139, eq139⟩ := hQ139
  have N139 := Fr.app N134 Nq139
  clear N134
  have R139 : ∀ t, Steps p.tables e below (T139.setTop (mkF m 256 #[.val (.int p1), .val (.int p2), .val (.int p3), .val (.int p4), .val (.int p5), .val (.long q6), .second, .val (.int x0), .val (.int x1), .val (.int x2), .val (.ref b6), .val (.ref b17), .val (.ref b36), .val (.ref b99)] [(.int (1 : Int32))])) t → Steps p.tables e below (s₁.setTop (entryFrame m #[(.int p1), (.int p2), (.int p3), (.int p4), (.int p5), (.long q6)] maxLocals)) t := fun t k => R138 t (st139 t k)
  clear R138 st139 X134
  have R140 : ∀ t, Steps p.tables e below (T139.setTop (mkF m 268 #[.val (.int p1), .val (.int p2), .val (.int p3), .val (.int p4), .val (.int p5), .val (.long q6), .second, .val (.int x0), .val (.int x1), .val (.int x2), .val (.ref b6), .val (.ref b17), .val (.ref b36), .val (.ref b99)] [(.ref b6), (.ref b17), (.long q6), (.int (1 : Int32)), (.ref b36)])) t → Steps p.tables e below (s₁.setTop (entryFrame m #[(.int p1), (.int p2), (.int p3), (.int p4), (.int p5), (.long q6)] maxLocals)) t := by
    intro t k
    refine R139 t ?_
    show Steps p.tables e below (T139.setTop (mkF m 256 #[.val (.int p1), .val (.int p2), .val (.int p3), .val (.int p4), .val (.int p5), .val (.long q6), .second, .val (.int x0), .val (.int x1), .val (.int x2), .val (.ref b6), .val (.ref b17), .val (.ref b36), .val (.ref b99)] [(.int (1 : Int32))])) _
    refine XS.ifNo X139.here hx rfl (hb hby at_256) rfl ((if0 _ _).trans (feq (by decide : ¬ ((1 : Int32) = (0 : Int32)))).1) ?_
    show Steps p.tables e below (T139.setTop (mkF m 259 #[.val (.int p1), .val (.int p2), .val (.int p3), .val (.int p4), .val (.int p5), .val (.long q6), .second, .val (.int x0), .val (.int x1), .val (.int x2), .val (.ref b6), .val (.ref b17), .val (.ref b36), .val (.ref b99)] [])) _
    refine XS.aload X139.here hx rfl (hb hby at_259) rfl rfl ?_
    show Steps p.tables e below (T139.setTop (mkF m 261 #[.val (.int p1), .val (.int p2), .val (.int p3), .val (.int p4), .val (.int p5), .val (.long q6), .second, .val (.int x0), .val (.int x1), .val (.int x2), .val (.ref b6), .val (.ref b17), .val (.ref b36), .val (.ref b99)] [(.ref b36)])) _
    refine XS.iconst X139.here hx rfl (hb hby at_261) ?_
    show Steps p.tables e below (T139.setTop (mkF m 262 #[.val (.int p1), .val (.int p2), .val (.int p3), .val (.int p4), .val (.int p5), .val (.long q6), .second, .val (.int x0), .val (.int x1), .val (.int x2), .val (.ref b6), .val (.ref b17), .val (.ref b36), .val (.ref b99)] [(.int (1 : Int32)), (.ref b36)])) _
    refine XS.lload X139.here hx rfl (hb hby at_262) rfl ?_
    show Steps p.tables e below (T139.setTop (mkF m 264 #[.val (.int p1), .val (.int p2), .val (.int p3), .val (.int p4), .val (.int p5), .val (.long q6), .second, .val (.int x0), .val (.int x1), .val (.int x2), .val (.ref b6), .val (.ref b17), .val (.ref b36), .val (.ref b99)] [(.long q6), (.int (1 : Int32)), (.ref b36)])) _
    refine XS.aload X139.here hx rfl (hb hby at_264) rfl rfl ?_
    show Steps p.tables e below (T139.setTop (mkF m 266 #[.val (.int p1), .val (.int p2), .val (.int p3), .val (.int p4), .val (.int p5), .val (.long q6), .second, .val (.int x0), .val (.int x1), .val (.int x2), .val (.ref b6), .val (.ref b17), .val (.ref b36), .val (.ref b99)] [(.ref b17), (.long q6), (.int (1 : Int32)), (.ref b36)])) _
    refine XS.aload X139.here hx rfl (hb hby at_266) rfl rfl ?_
    exact k
  clear R139
  have hv1 : fin.getD (1 : Int32).toNatClampNeg 0 = ((((q6 + (1 : Int32).toInt64) + own_hit p2 (1 : Int32) x0 x1 x2) + own_hit p3 (1 : Int32) x0 x1 x2) + own_hit p4 (1 : Int32) x0 x1 x2) + own_hit p5 (1 : Int32) x0 x1 x2 := by
    rw [hfin, own_all b0 b1 b2 rfl (by decide) (by decide)]
    have hg : ([q6, (q6 + (1 : Int64)), (q6 + (2 : Int64)), (q6 + (3 : Int64)), (q6 + (4 : Int64)), (q6 + (5 : Int64)), (q6 + (6 : Int64)), (q6 + (7 : Int64)), (q6 + (8 : Int64)), (q6 + (9 : Int64)), (q6 + (10 : Int64)), (q6 + (11 : Int64))] : List Int64).getD (1 : Int32).toNatClampNeg 0 = q6 + (1 : Int32).toInt64 := rfl
    rw [hg]
  obtain ⟨_, _, ⟨T141, L141, k141, n141⟩, -, X141, ⟨Lc141, hQ141, l141, y141, z141⟩, st141⟩ := Jvm.LawKit.callS X139 hx (y := (⟨"com/example/terse_graph/tersegraph/PrefixWriterCountIntoPinLaw", "cell", "([JIJ[I[I)Z"⟩ : MethodName)) hown (mvT hZ (hw _ (List.mem_of_getElem? (i := 75) rfl))) (mvT hZ (hw _ (List.mem_of_getElem? (i := 76) rfl))) (mvT hZ (hw _ (List.mem_of_getElem? (i := 49) rfl))) (mvT hZ (hw _ (List.mem_of_getElem? (i := 77) rfl))) (by decide) (backOf (W := 0) (rmCell l Z a0 hw [] b36 (1 : Int32) q6 b17 b6 k6 x0 x1 x2 k36 k17 fin p2 p3 p4 p5 T134.heap n0 Z134 f135 z0 z1 z2 Vn134 f136 ⟨by decide, by decide⟩ hv1) hZ (hw _ (List.mem_of_getElem? (i := 77) rfl)) (hw _ (List.mem_of_getElem? (i := 49) rfl)) (by decide) (by decide)) (g := (mkF m 268 #[.val (.int p1), .val (.int p2), .val (.int p3), .val (.int p4), .val (.int p5), .val (.long q6), .second, .val (.int x0), .val (.int x1), .val (.int x2), .val (.ref b6), .val (.ref b17), .val (.ref b36), .val (.ref b99)] [(.ref b6), (.ref b17), (.long q6), (.int (1 : Int32)), (.ref b36)])) rfl (by rw [hml]; rfl) (argsL := [(.ref b36), (.int (1 : Int32)), (.long q6), (.ref b17), (.ref b6)]) (rest := []) (lenOf own_pd8 rfl) rfl (by show 2 * 0 + _ ≤ _; exact Nat.le_of_eq rfl) (hb hby at_268) (fun _ _ => ⟨rfl, eq139, (by decide : 9 + 0 ≤ _), (by decide : 572 + 0 ≤ _)⟩)
  dsimp only [Pt.U, Pt.locs, Pt.cells, Pt.slots] at X141 l141 y141 z141 st141 hQ141
  rw [l141, y141, z141] at X141
  obtain ⟨rfl, Nq141, eq141⟩ := hQ141
  have N141 := Fr.app N139 Nq141
  clear N139
  have R141 : ∀ t, Steps p.tables e below (T141.setTop (mkF m 271 #[.val (.int p1), .val (.int p2), .val (.int p3), .val (.int p4), .val (.int p5), .val (.long q6), .second, .val (.int x0), .val (.int x1), .val (.int x2), .val (.ref b6), .val (.ref b17), .val (.ref b36), .val (.ref b99)] [(.int (1 : Int32))])) t → Steps p.tables e below (s₁.setTop (entryFrame m #[(.int p1), (.int p2), (.int p3), (.int p4), (.int p5), (.long q6)] maxLocals)) t := fun t k => R140 t (st141 t k)
  clear R140 st141 X139 eq139
  have R142 : ∀ t, Steps p.tables e below (T141.setTop (mkF m 283 #[.val (.int p1), .val (.int p2), .val (.int p3), .val (.int p4), .val (.int p5), .val (.long q6), .second, .val (.int x0), .val (.int x1), .val (.int x2), .val (.ref b6), .val (.ref b17), .val (.ref b36), .val (.ref b99)] [(.ref b6), (.ref b17), (.long q6), (.int (2 : Int32)), (.ref b36)])) t → Steps p.tables e below (s₁.setTop (entryFrame m #[(.int p1), (.int p2), (.int p3), (.int p4), (.int p5), (.long q6)] maxLocals)) t := by
    intro t k
    refine R141 t ?_
    show Steps p.tables e below (T141.setTop (mkF m 271 #[.val (.int p1), .val (.int p2), .val (.int p3), .val (.int p4), .val (.int p5), .val (.long q6), .second, .val (.int x0), .val (.int x1), .val (.int x2), .val (.ref b6), .val (.ref b17), .val (.ref b36), .val (.ref b99)] [(.int (1 : Int32))])) _
    refine XS.ifNo X141.here hx rfl (hb hby at_271) rfl ((if0 _ _).trans (feq (by decide : ¬ ((1 : Int32) = (0 : Int32)))).1) ?_
    show Steps p.tables e below (T141.setTop (mkF m 274 #[.val (.int p1), .val (.int p2), .val (.int p3), .val (.int p4), .val (.int p5), .val (.long q6), .second, .val (.int x0), .val (.int x1), .val (.int x2), .val (.ref b6), .val (.ref b17), .val (.ref b36), .val (.ref b99)] [])) _
    refine XS.aload X141.here hx rfl (hb hby at_274) rfl rfl ?_
    show Steps p.tables e below (T141.setTop (mkF m 276 #[.val (.int p1), .val (.int p2), .val (.int p3), .val (.int p4), .val (.int p5), .val (.long q6), .second, .val (.int x0), .val (.int x1), .val (.int x2), .val (.ref b6), .val (.ref b17), .val (.ref b36), .val (.ref b99)] [(.ref b36)])) _
    refine XS.iconst X141.here hx rfl (hb hby at_276) ?_
    show Steps p.tables e below (T141.setTop (mkF m 277 #[.val (.int p1), .val (.int p2), .val (.int p3), .val (.int p4), .val (.int p5), .val (.long q6), .second, .val (.int x0), .val (.int x1), .val (.int x2), .val (.ref b6), .val (.ref b17), .val (.ref b36), .val (.ref b99)] [(.int (2 : Int32)), (.ref b36)])) _
    refine XS.lload X141.here hx rfl (hb hby at_277) rfl ?_
    show Steps p.tables e below (T141.setTop (mkF m 279 #[.val (.int p1), .val (.int p2), .val (.int p3), .val (.int p4), .val (.int p5), .val (.long q6), .second, .val (.int x0), .val (.int x1), .val (.int x2), .val (.ref b6), .val (.ref b17), .val (.ref b36), .val (.ref b99)] [(.long q6), (.int (2 : Int32)), (.ref b36)])) _
    refine XS.aload X141.here hx rfl (hb hby at_279) rfl rfl ?_
    show Steps p.tables e below (T141.setTop (mkF m 281 #[.val (.int p1), .val (.int p2), .val (.int p3), .val (.int p4), .val (.int p5), .val (.long q6), .second, .val (.int x0), .val (.int x1), .val (.int x2), .val (.ref b6), .val (.ref b17), .val (.ref b36), .val (.ref b99)] [(.ref b17), (.long q6), (.int (2 : Int32)), (.ref b36)])) _
    refine XS.aload X141.here hx rfl (hb hby at_281) rfl rfl ?_
    exact k
  clear R141
  have hv2 : fin.getD (2 : Int32).toNatClampNeg 0 = ((((q6 + (2 : Int32).toInt64) + own_hit p2 (2 : Int32) x0 x1 x2) + own_hit p3 (2 : Int32) x0 x1 x2) + own_hit p4 (2 : Int32) x0 x1 x2) + own_hit p5 (2 : Int32) x0 x1 x2 := by
    rw [hfin, own_all b0 b1 b2 rfl (by decide) (by decide)]
    have hg : ([q6, (q6 + (1 : Int64)), (q6 + (2 : Int64)), (q6 + (3 : Int64)), (q6 + (4 : Int64)), (q6 + (5 : Int64)), (q6 + (6 : Int64)), (q6 + (7 : Int64)), (q6 + (8 : Int64)), (q6 + (9 : Int64)), (q6 + (10 : Int64)), (q6 + (11 : Int64))] : List Int64).getD (2 : Int32).toNatClampNeg 0 = q6 + (2 : Int32).toInt64 := rfl
    rw [hg]
  obtain ⟨_, _, ⟨T143, L143, k143, n143⟩, -, X143, ⟨Lc143, hQ143, l143, y143, z143⟩, st143⟩ := Jvm.LawKit.callS X141 hx (y := (⟨"com/example/terse_graph/tersegraph/PrefixWriterCountIntoPinLaw", "cell", "([JIJ[I[I)Z"⟩ : MethodName)) hown (mvT hZ (hw _ (List.mem_of_getElem? (i := 75) rfl))) (mvT hZ (hw _ (List.mem_of_getElem? (i := 76) rfl))) (mvT hZ (hw _ (List.mem_of_getElem? (i := 49) rfl))) (mvT hZ (hw _ (List.mem_of_getElem? (i := 77) rfl))) (by decide) (backOf (W := 0) (rmCell l Z a0 hw [] b36 (2 : Int32) q6 b17 b6 k6 x0 x1 x2 k36 k17 fin p2 p3 p4 p5 T134.heap n0 Z134 f135 z0 z1 z2 Vn134 f136 ⟨by decide, by decide⟩ hv2) hZ (hw _ (List.mem_of_getElem? (i := 77) rfl)) (hw _ (List.mem_of_getElem? (i := 49) rfl)) (by decide) (by decide)) (g := (mkF m 283 #[.val (.int p1), .val (.int p2), .val (.int p3), .val (.int p4), .val (.int p5), .val (.long q6), .second, .val (.int x0), .val (.int x1), .val (.int x2), .val (.ref b6), .val (.ref b17), .val (.ref b36), .val (.ref b99)] [(.ref b6), (.ref b17), (.long q6), (.int (2 : Int32)), (.ref b36)])) rfl (by rw [hml]; rfl) (argsL := [(.ref b36), (.int (2 : Int32)), (.long q6), (.ref b17), (.ref b6)]) (rest := []) (lenOf own_pd8 rfl) rfl (by show 2 * 0 + _ ≤ _; exact Nat.le_of_eq rfl) (hb hby at_283) (fun _ _ => ⟨rfl, eq141, (by decide : 9 + 0 ≤ _), (by decide : 572 + 0 ≤ _)⟩)
  dsimp only [Pt.U, Pt.locs, Pt.cells, Pt.slots] at X143 l143 y143 z143 st143 hQ143
  rw [l143, y143, z143] at X143
  obtain ⟨rfl, Nq143, eq143⟩ := hQ143
  have N143 := Fr.app N141 Nq143
  clear N141
  have R143 : ∀ t, Steps p.tables e below (T143.setTop (mkF m 286 #[.val (.int p1), .val (.int p2), .val (.int p3), .val (.int p4), .val (.int p5), .val (.long q6), .second, .val (.int x0), .val (.int x1), .val (.int x2), .val (.ref b6), .val (.ref b17), .val (.ref b36), .val (.ref b99)] [(.int (1 : Int32))])) t → Steps p.tables e below (s₁.setTop (entryFrame m #[(.int p1), (.int p2), (.int p3), (.int p4), (.int p5), (.long q6)] maxLocals)) t := fun t k => R142 t (st143 t k)
  clear R142 st143 X141 eq141
  have R144 : ∀ t, Steps p.tables e below (T143.setTop (mkF m 298 #[.val (.int p1), .val (.int p2), .val (.int p3), .val (.int p4), .val (.int p5), .val (.long q6), .second, .val (.int x0), .val (.int x1), .val (.int x2), .val (.ref b6), .val (.ref b17), .val (.ref b36), .val (.ref b99)] [(.ref b6), (.ref b17), (.long q6), (.int (3 : Int32)), (.ref b36)])) t → Steps p.tables e below (s₁.setTop (entryFrame m #[(.int p1), (.int p2), (.int p3), (.int p4), (.int p5), (.long q6)] maxLocals)) t := by
    intro t k
    refine R143 t ?_
    show Steps p.tables e below (T143.setTop (mkF m 286 #[.val (.int p1), .val (.int p2), .val (.int p3), .val (.int p4), .val (.int p5), .val (.long q6), .second, .val (.int x0), .val (.int x1), .val (.int x2), .val (.ref b6), .val (.ref b17), .val (.ref b36), .val (.ref b99)] [(.int (1 : Int32))])) _
    refine XS.ifNo X143.here hx rfl (hb hby at_286) rfl ((if0 _ _).trans (feq (by decide : ¬ ((1 : Int32) = (0 : Int32)))).1) ?_
    show Steps p.tables e below (T143.setTop (mkF m 289 #[.val (.int p1), .val (.int p2), .val (.int p3), .val (.int p4), .val (.int p5), .val (.long q6), .second, .val (.int x0), .val (.int x1), .val (.int x2), .val (.ref b6), .val (.ref b17), .val (.ref b36), .val (.ref b99)] [])) _
    refine XS.aload X143.here hx rfl (hb hby at_289) rfl rfl ?_
    show Steps p.tables e below (T143.setTop (mkF m 291 #[.val (.int p1), .val (.int p2), .val (.int p3), .val (.int p4), .val (.int p5), .val (.long q6), .second, .val (.int x0), .val (.int x1), .val (.int x2), .val (.ref b6), .val (.ref b17), .val (.ref b36), .val (.ref b99)] [(.ref b36)])) _
    refine XS.iconst X143.here hx rfl (hb hby at_291) ?_
    show Steps p.tables e below (T143.setTop (mkF m 292 #[.val (.int p1), .val (.int p2), .val (.int p3), .val (.int p4), .val (.int p5), .val (.long q6), .second, .val (.int x0), .val (.int x1), .val (.int x2), .val (.ref b6), .val (.ref b17), .val (.ref b36), .val (.ref b99)] [(.int (3 : Int32)), (.ref b36)])) _
    refine XS.lload X143.here hx rfl (hb hby at_292) rfl ?_
    show Steps p.tables e below (T143.setTop (mkF m 294 #[.val (.int p1), .val (.int p2), .val (.int p3), .val (.int p4), .val (.int p5), .val (.long q6), .second, .val (.int x0), .val (.int x1), .val (.int x2), .val (.ref b6), .val (.ref b17), .val (.ref b36), .val (.ref b99)] [(.long q6), (.int (3 : Int32)), (.ref b36)])) _
    refine XS.aload X143.here hx rfl (hb hby at_294) rfl rfl ?_
    show Steps p.tables e below (T143.setTop (mkF m 296 #[.val (.int p1), .val (.int p2), .val (.int p3), .val (.int p4), .val (.int p5), .val (.long q6), .second, .val (.int x0), .val (.int x1), .val (.int x2), .val (.ref b6), .val (.ref b17), .val (.ref b36), .val (.ref b99)] [(.ref b17), (.long q6), (.int (3 : Int32)), (.ref b36)])) _
    refine XS.aload X143.here hx rfl (hb hby at_296) rfl rfl ?_
    exact k
  clear R143
  have hv3 : fin.getD (3 : Int32).toNatClampNeg 0 = ((((q6 + (3 : Int32).toInt64) + own_hit p2 (3 : Int32) x0 x1 x2) + own_hit p3 (3 : Int32) x0 x1 x2) + own_hit p4 (3 : Int32) x0 x1 x2) + own_hit p5 (3 : Int32) x0 x1 x2 := by
    rw [hfin, own_all b0 b1 b2 rfl (by decide) (by decide)]
    have hg : ([q6, (q6 + (1 : Int64)), (q6 + (2 : Int64)), (q6 + (3 : Int64)), (q6 + (4 : Int64)), (q6 + (5 : Int64)), (q6 + (6 : Int64)), (q6 + (7 : Int64)), (q6 + (8 : Int64)), (q6 + (9 : Int64)), (q6 + (10 : Int64)), (q6 + (11 : Int64))] : List Int64).getD (3 : Int32).toNatClampNeg 0 = q6 + (3 : Int32).toInt64 := rfl
    rw [hg]
  obtain ⟨_, _, ⟨T145, L145, k145, n145⟩, -, X145, ⟨Lc145, hQ145, l145, y145, z145⟩, st145⟩ := Jvm.LawKit.callS X143 hx (y := (⟨"com/example/terse_graph/tersegraph/PrefixWriterCountIntoPinLaw", "cell", "([JIJ[I[I)Z"⟩ : MethodName)) hown (mvT hZ (hw _ (List.mem_of_getElem? (i := 75) rfl))) (mvT hZ (hw _ (List.mem_of_getElem? (i := 76) rfl))) (mvT hZ (hw _ (List.mem_of_getElem? (i := 49) rfl))) (mvT hZ (hw _ (List.mem_of_getElem? (i := 77) rfl))) (by decide) (backOf (W := 0) (rmCell l Z a0 hw [] b36 (3 : Int32) q6 b17 b6 k6 x0 x1 x2 k36 k17 fin p2 p3 p4 p5 T134.heap n0 Z134 f135 z0 z1 z2 Vn134 f136 ⟨by decide, by decide⟩ hv3) hZ (hw _ (List.mem_of_getElem? (i := 77) rfl)) (hw _ (List.mem_of_getElem? (i := 49) rfl)) (by decide) (by decide)) (g := (mkF m 298 #[.val (.int p1), .val (.int p2), .val (.int p3), .val (.int p4), .val (.int p5), .val (.long q6), .second, .val (.int x0), .val (.int x1), .val (.int x2), .val (.ref b6), .val (.ref b17), .val (.ref b36), .val (.ref b99)] [(.ref b6), (.ref b17), (.long q6), (.int (3 : Int32)), (.ref b36)])) rfl (by rw [hml]; rfl) (argsL := [(.ref b36), (.int (3 : Int32)), (.long q6), (.ref b17), (.ref b6)]) (rest := []) (lenOf own_pd8 rfl) rfl (by show 2 * 0 + _ ≤ _; exact Nat.le_of_eq rfl) (hb hby at_298) (fun _ _ => ⟨rfl, eq143, (by decide : 9 + 0 ≤ _), (by decide : 572 + 0 ≤ _)⟩)
  dsimp only [Pt.U, Pt.locs, Pt.cells, Pt.slots] at X145 l145 y145 z145 st145 hQ145
  rw [l145, y145, z145] at X145
  obtain ⟨rfl, Nq145, eq145⟩ := hQ145
  have N145 := Fr.app N143 Nq145
  clear N143
  have R145 : ∀ t, Steps p.tables e below (T145.setTop (mkF m 301 #[.val (.int p1), .val (.int p2), .val (.int p3), .val (.int p4), .val (.int p5), .val (.long q6), .second, .val (.int x0), .val (.int x1), .val (.int x2), .val (.ref b6), .val (.ref b17), .val (.ref b36), .val (.ref b99)] [(.int (1 : Int32))])) t → Steps p.tables e below (s₁.setTop (entryFrame m #[(.int p1), (.int p2), (.int p3), (.int p4), (.int p5), (.long q6)] maxLocals)) t := fun t k => R144 t (st145 t k)
  clear R144 st145 X143 eq143
  have R146 : ∀ t, Steps p.tables e below (T145.setTop (mkF m 313 #[.val (.int p1), .val (.int p2), .val (.int p3), .val (.int p4), .val (.int p5), .val (.long q6), .second, .val (.int x0), .val (.int x1), .val (.int x2), .val (.ref b6), .val (.ref b17), .val (.ref b36), .val (.ref b99)] [(.ref b6), (.ref b17), (.long q6), (.int (4 : Int32)), (.ref b36)])) t → Steps p.tables e below (s₁.setTop (entryFrame m #[(.int p1), (.int p2), (.int p3), (.int p4), (.int p5), (.long q6)] maxLocals)) t := by
    intro t k
    refine R145 t ?_
    show Steps p.tables e below (T145.setTop (mkF m 301 #[.val (.int p1), .val (.int p2), .val (.int p3), .val (.int p4), .val (.int p5), .val (.long q6), .second, .val (.int x0), .val (.int x1), .val (.int x2), .val (.ref b6), .val (.ref b17), .val (.ref b36), .val (.ref b99)] [(.int (1 : Int32))])) _
    refine XS.ifNo X145.here hx rfl (hb hby at_301) rfl ((if0 _ _).trans (feq (by decide : ¬ ((1 : Int32) = (0 : Int32)))).1) ?_
    show Steps p.tables e below (T145.setTop (mkF m 304 #[.val (.int p1), .val (.int p2), .val (.int p3), .val (.int p4), .val (.int p5), .val (.long q6), .second, .val (.int x0), .val (.int x1), .val (.int x2), .val (.ref b6), .val (.ref b17), .val (.ref b36), .val (.ref b99)] [])) _
    refine XS.aload X145.here hx rfl (hb hby at_304) rfl rfl ?_
    show Steps p.tables e below (T145.setTop (mkF m 306 #[.val (.int p1), .val (.int p2), .val (.int p3), .val (.int p4), .val (.int p5), .val (.long q6), .second, .val (.int x0), .val (.int x1), .val (.int x2), .val (.ref b6), .val (.ref b17), .val (.ref b36), .val (.ref b99)] [(.ref b36)])) _
    refine XS.iconst X145.here hx rfl (hb hby at_306) ?_
    show Steps p.tables e below (T145.setTop (mkF m 307 #[.val (.int p1), .val (.int p2), .val (.int p3), .val (.int p4), .val (.int p5), .val (.long q6), .second, .val (.int x0), .val (.int x1), .val (.int x2), .val (.ref b6), .val (.ref b17), .val (.ref b36), .val (.ref b99)] [(.int (4 : Int32)), (.ref b36)])) _
    refine XS.lload X145.here hx rfl (hb hby at_307) rfl ?_
    show Steps p.tables e below (T145.setTop (mkF m 309 #[.val (.int p1), .val (.int p2), .val (.int p3), .val (.int p4), .val (.int p5), .val (.long q6), .second, .val (.int x0), .val (.int x1), .val (.int x2), .val (.ref b6), .val (.ref b17), .val (.ref b36), .val (.ref b99)] [(.long q6), (.int (4 : Int32)), (.ref b36)])) _
    refine XS.aload X145.here hx rfl (hb hby at_309) rfl rfl ?_
    show Steps p.tables e below (T145.setTop (mkF m 311 #[.val (.int p1), .val (.int p2), .val (.int p3), .val (.int p4), .val (.int p5), .val (.long q6), .second, .val (.int x0), .val (.int x1), .val (.int x2), .val (.ref b6), .val (.ref b17), .val (.ref b36), .val (.ref b99)] [(.ref b17), (.long q6), (.int (4 : Int32)), (.ref b36)])) _
    refine XS.aload X145.here hx rfl (hb hby at_311) rfl rfl ?_
    exact k
  clear R145
  have hv4 : fin.getD (4 : Int32).toNatClampNeg 0 = ((((q6 + (4 : Int32).toInt64) + own_hit p2 (4 : Int32) x0 x1 x2) + own_hit p3 (4 : Int32) x0 x1 x2) + own_hit p4 (4 : Int32) x0 x1 x2) + own_hit p5 (4 : Int32) x0 x1 x2 := by
    rw [hfin, own_all b0 b1 b2 rfl (by decide) (by decide)]
    have hg : ([q6, (q6 + (1 : Int64)), (q6 + (2 : Int64)), (q6 + (3 : Int64)), (q6 + (4 : Int64)), (q6 + (5 : Int64)), (q6 + (6 : Int64)), (q6 + (7 : Int64)), (q6 + (8 : Int64)), (q6 + (9 : Int64)), (q6 + (10 : Int64)), (q6 + (11 : Int64))] : List Int64).getD (4 : Int32).toNatClampNeg 0 = q6 + (4 : Int32).toInt64 := rfl
    rw [hg]
  obtain ⟨_, _, ⟨T147, L147, k147, n147⟩, -, X147, ⟨Lc147, hQ147, l147, y147, z147⟩, st147⟩ := Jvm.LawKit.callS X145 hx (y := (⟨"com/example/terse_graph/tersegraph/PrefixWriterCountIntoPinLaw", "cell", "([JIJ[I[I)Z"⟩ : MethodName)) hown (mvT hZ (hw _ (List.mem_of_getElem? (i := 75) rfl))) (mvT hZ (hw _ (List.mem_of_getElem? (i := 76) rfl))) (mvT hZ (hw _ (List.mem_of_getElem? (i := 49) rfl))) (mvT hZ (hw _ (List.mem_of_getElem? (i := 77) rfl))) (by decide) (backOf (W := 0) (rmCell l Z a0 hw [] b36 (4 : Int32) q6 b17 b6 k6 x0 x1 x2 k36 k17 fin p2 p3 p4 p5 T134.heap n0 Z134 f135 z0 z1 z2 Vn134 f136 ⟨by decide, by decide⟩ hv4) hZ (hw _ (List.mem_of_getElem? (i := 77) rfl)) (hw _ (List.mem_of_getElem? (i := 49) rfl)) (by decide) (by decide)) (g := (mkF m 313 #[.val (.int p1), .val (.int p2), .val (.int p3), .val (.int p4), .val (.int p5), .val (.long q6), .second, .val (.int x0), .val (.int x1), .val (.int x2), .val (.ref b6), .val (.ref b17), .val (.ref b36), .val (.ref b99)] [(.ref b6), (.ref b17), (.long q6), (.int (4 : Int32)), (.ref b36)])) rfl (by rw [hml]; rfl) (argsL := [(.ref b36), (.int (4 : Int32)), (.long q6), (.ref b17), (.ref b6)]) (rest := []) (lenOf own_pd8 rfl) rfl (by show 2 * 0 + _ ≤ _; exact Nat.le_of_eq rfl) (hb hby at_313) (fun _ _ => ⟨rfl, eq145, (by decide : 9 + 0 ≤ _), (by decide : 572 + 0 ≤ _)⟩)
  dsimp only [Pt.U, Pt.locs, Pt.cells, Pt.slots] at X147 l147 y147 z147 st147 hQ147
  rw [l147, y147, z147] at X147
  obtain ⟨rfl, Nq147, eq147⟩ := hQ147
  have N147 := Fr.app N145 Nq147
  clear N145
  have R147 : ∀ t, Steps p.tables e below (T147.setTop (mkF m 316 #[.val (.int p1), .val (.int p2), .val (.int p3), .val (.int p4), .val (.int p5), .val (.long q6), .second, .val (.int x0), .val (.int x1), .val (.int x2), .val (.ref b6), .val (.ref b17), .val (.ref b36), .val (.ref b99)] [(.int (1 : Int32))])) t → Steps p.tables e below (s₁.setTop (entryFrame m #[(.int p1), (.int p2), (.int p3), (.int p4), (.int p5), (.long q6)] maxLocals)) t := fun t k => R146 t (st147 t k)
  clear R146 st147 X145 eq145
  have R148 : ∀ t, Steps p.tables e below (T147.setTop (mkF m 328 #[.val (.int p1), .val (.int p2), .val (.int p3), .val (.int p4), .val (.int p5), .val (.long q6), .second, .val (.int x0), .val (.int x1), .val (.int x2), .val (.ref b6), .val (.ref b17), .val (.ref b36), .val (.ref b99)] [(.ref b6), (.ref b17), (.long q6), (.int (5 : Int32)), (.ref b36)])) t → Steps p.tables e below (s₁.setTop (entryFrame m #[(.int p1), (.int p2), (.int p3), (.int p4), (.int p5), (.long q6)] maxLocals)) t := by
    intro t k
    refine R147 t ?_
    show Steps p.tables e below (T147.setTop (mkF m 316 #[.val (.int p1), .val (.int p2), .val (.int p3), .val (.int p4), .val (.int p5), .val (.long q6), .second, .val (.int x0), .val (.int x1), .val (.int x2), .val (.ref b6), .val (.ref b17), .val (.ref b36), .val (.ref b99)] [(.int (1 : Int32))])) _
    refine XS.ifNo X147.here hx rfl (hb hby at_316) rfl ((if0 _ _).trans (feq (by decide : ¬ ((1 : Int32) = (0 : Int32)))).1) ?_
    show Steps p.tables e below (T147.setTop (mkF m 319 #[.val (.int p1), .val (.int p2), .val (.int p3), .val (.int p4), .val (.int p5), .val (.long q6), .second, .val (.int x0), .val (.int x1), .val (.int x2), .val (.ref b6), .val (.ref b17), .val (.ref b36), .val (.ref b99)] [])) _
    refine XS.aload X147.here hx rfl (hb hby at_319) rfl rfl ?_
    show Steps p.tables e below (T147.setTop (mkF m 321 #[.val (.int p1), .val (.int p2), .val (.int p3), .val (.int p4), .val (.int p5), .val (.long q6), .second, .val (.int x0), .val (.int x1), .val (.int x2), .val (.ref b6), .val (.ref b17), .val (.ref b36), .val (.ref b99)] [(.ref b36)])) _
    refine XS.iconst X147.here hx rfl (hb hby at_321) ?_
    show Steps p.tables e below (T147.setTop (mkF m 322 #[.val (.int p1), .val (.int p2), .val (.int p3), .val (.int p4), .val (.int p5), .val (.long q6), .second, .val (.int x0), .val (.int x1), .val (.int x2), .val (.ref b6), .val (.ref b17), .val (.ref b36), .val (.ref b99)] [(.int (5 : Int32)), (.ref b36)])) _
    refine XS.lload X147.here hx rfl (hb hby at_322) rfl ?_
    show Steps p.tables e below (T147.setTop (mkF m 324 #[.val (.int p1), .val (.int p2), .val (.int p3), .val (.int p4), .val (.int p5), .val (.long q6), .second, .val (.int x0), .val (.int x1), .val (.int x2), .val (.ref b6), .val (.ref b17), .val (.ref b36), .val (.ref b99)] [(.long q6), (.int (5 : Int32)), (.ref b36)])) _
    refine XS.aload X147.here hx rfl (hb hby at_324) rfl rfl ?_
    show Steps p.tables e below (T147.setTop (mkF m 326 #[.val (.int p1), .val (.int p2), .val (.int p3), .val (.int p4), .val (.int p5), .val (.long q6), .second, .val (.int x0), .val (.int x1), .val (.int x2), .val (.ref b6), .val (.ref b17), .val (.ref b36), .val (.ref b99)] [(.ref b17), (.long q6), (.int (5 : Int32)), (.ref b36)])) _
    refine XS.aload X147.here hx rfl (hb hby at_326) rfl rfl ?_
    exact k
  clear R147
  have hv5 : fin.getD (5 : Int32).toNatClampNeg 0 = ((((q6 + (5 : Int32).toInt64) + own_hit p2 (5 : Int32) x0 x1 x2) + own_hit p3 (5 : Int32) x0 x1 x2) + own_hit p4 (5 : Int32) x0 x1 x2) + own_hit p5 (5 : Int32) x0 x1 x2 := by
    rw [hfin, own_all b0 b1 b2 rfl (by decide) (by decide)]
    have hg : ([q6, (q6 + (1 : Int64)), (q6 + (2 : Int64)), (q6 + (3 : Int64)), (q6 + (4 : Int64)), (q6 + (5 : Int64)), (q6 + (6 : Int64)), (q6 + (7 : Int64)), (q6 + (8 : Int64)), (q6 + (9 : Int64)), (q6 + (10 : Int64)), (q6 + (11 : Int64))] : List Int64).getD (5 : Int32).toNatClampNeg 0 = q6 + (5 : Int32).toInt64 := rfl
    rw [hg]
  obtain ⟨_, _, ⟨T149, L149, k149, n149⟩, -, X149, ⟨Lc149, hQ149, l149, y149, z149⟩, st149⟩ := Jvm.LawKit.callS X147 hx (y := (⟨"com/example/terse_graph/tersegraph/PrefixWriterCountIntoPinLaw", "cell", "([JIJ[I[I)Z"⟩ : MethodName)) hown (mvT hZ (hw _ (List.mem_of_getElem? (i := 75) rfl))) (mvT hZ (hw _ (List.mem_of_getElem? (i := 76) rfl))) (mvT hZ (hw _ (List.mem_of_getElem? (i := 49) rfl))) (mvT hZ (hw _ (List.mem_of_getElem? (i := 77) rfl))) (by decide) (backOf (W := 0) (rmCell l Z a0 hw [] b36 (5 : Int32) q6 b17 b6 k6 x0 x1 x2 k36 k17 fin p2 p3 p4 p5 T134.heap n0 Z134 f135 z0 z1 z2 Vn134 f136 ⟨by decide, by decide⟩ hv5) hZ (hw _ (List.mem_of_getElem? (i := 77) rfl)) (hw _ (List.mem_of_getElem? (i := 49) rfl)) (by decide) (by decide)) (g := (mkF m 328 #[.val (.int p1), .val (.int p2), .val (.int p3), .val (.int p4), .val (.int p5), .val (.long q6), .second, .val (.int x0), .val (.int x1), .val (.int x2), .val (.ref b6), .val (.ref b17), .val (.ref b36), .val (.ref b99)] [(.ref b6), (.ref b17), (.long q6), (.int (5 : Int32)), (.ref b36)])) rfl (by rw [hml]; rfl) (argsL := [(.ref b36), (.int (5 : Int32)), (.long q6), (.ref b17), (.ref b6)]) (rest := []) (lenOf own_pd8 rfl) rfl (by show 2 * 0 + _ ≤ _; exact Nat.le_of_eq rfl) (hb hby at_328) (fun _ _ => ⟨rfl, eq147, (by decide : 9 + 0 ≤ _), (by decide : 572 + 0 ≤ _)⟩)
  dsimp only [Pt.U, Pt.locs, Pt.cells, Pt.slots] at X149 l149 y149 z149 st149 hQ149
  rw [l149, y149, z149] at X149
  obtain ⟨rfl, Nq149, eq149⟩ := hQ149
  have N149 := Fr.app N147 Nq149
  clear N147
  have R149 : ∀ t, Steps p.tables e below (T149.setTop (mkF m 331 #[.val (.int p1), .val (.int p2), .val (.int p3), .val (.int p4), .val (.int p5), .val (.long q6), .second, .val (.int x0), .val (.int x1), .val (.int x2), .val (.ref b6), .val (.ref b17), .val (.ref b36), .val (.ref b99)] [(.int (1 : Int32))])) t → Steps p.tables e below (s₁.setTop (entryFrame m #[(.int p1), (.int p2), (.int p3), (.int p4), (.int p5), (.long q6)] maxLocals)) t := fun t k => R148 t (st149 t k)
  clear R148 st149 X147 eq147
  have R150 : ∀ t, Steps p.tables e below (T149.setTop (mkF m 344 #[.val (.int p1), .val (.int p2), .val (.int p3), .val (.int p4), .val (.int p5), .val (.long q6), .second, .val (.int x0), .val (.int x1), .val (.int x2), .val (.ref b6), .val (.ref b17), .val (.ref b36), .val (.ref b99)] [(.ref b6), (.ref b17), (.long q6), (.int (6 : Int32)), (.ref b36)])) t → Steps p.tables e below (s₁.setTop (entryFrame m #[(.int p1), (.int p2), (.int p3), (.int p4), (.int p5), (.long q6)] maxLocals)) t := by
    intro t k
    refine R149 t ?_
    show Steps p.tables e below (T149.setTop (mkF m 331 #[.val (.int p1), .val (.int p2), .val (.int p3), .val (.int p4), .val (.int p5), .val (.long q6), .second, .val (.int x0), .val (.int x1), .val (.int x2), .val (.ref b6), .val (.ref b17), .val (.ref b36), .val (.ref b99)] [(.int (1 : Int32))])) _
    refine XS.ifNo X149.here hx rfl (hb hby at_331) rfl ((if0 _ _).trans (feq (by decide : ¬ ((1 : Int32) = (0 : Int32)))).1) ?_
    show Steps p.tables e below (T149.setTop (mkF m 334 #[.val (.int p1), .val (.int p2), .val (.int p3), .val (.int p4), .val (.int p5), .val (.long q6), .second, .val (.int x0), .val (.int x1), .val (.int x2), .val (.ref b6), .val (.ref b17), .val (.ref b36), .val (.ref b99)] [])) _
    refine XS.aload X149.here hx rfl (hb hby at_334) rfl rfl ?_
    show Steps p.tables e below (T149.setTop (mkF m 336 #[.val (.int p1), .val (.int p2), .val (.int p3), .val (.int p4), .val (.int p5), .val (.long q6), .second, .val (.int x0), .val (.int x1), .val (.int x2), .val (.ref b6), .val (.ref b17), .val (.ref b36), .val (.ref b99)] [(.ref b36)])) _
    refine XS.bipush X149.here hx rfl (hb hby at_336) ?_
    show Steps p.tables e below (T149.setTop (mkF m 338 #[.val (.int p1), .val (.int p2), .val (.int p3), .val (.int p4), .val (.int p5), .val (.long q6), .second, .val (.int x0), .val (.int x1), .val (.int x2), .val (.ref b6), .val (.ref b17), .val (.ref b36), .val (.ref b99)] [(.int (6 : Int32)), (.ref b36)])) _
    refine XS.lload X149.here hx rfl (hb hby at_338) rfl ?_
    show Steps p.tables e below (T149.setTop (mkF m 340 #[.val (.int p1), .val (.int p2), .val (.int p3), .val (.int p4), .val (.int p5), .val (.long q6), .second, .val (.int x0), .val (.int x1), .val (.int x2), .val (.ref b6), .val (.ref b17), .val (.ref b36), .val (.ref b99)] [(.long q6), (.int (6 : Int32)), (.ref b36)])) _
    refine XS.aload X149.here hx rfl (hb hby at_340) rfl rfl ?_
    show Steps p.tables e below (T149.setTop (mkF m 342 #[.val (.int p1), .val (.int p2), .val (.int p3), .val (.int p4), .val (.int p5), .val (.long q6), .second, .val (.int x0), .val (.int x1), .val (.int x2), .val (.ref b6), .val (.ref b17), .val (.ref b36), .val (.ref b99)] [(.ref b17), (.long q6), (.int (6 : Int32)), (.ref b36)])) _
    refine XS.aload X149.here hx rfl (hb hby at_342) rfl rfl ?_
    exact k
  clear R149
  have hv6 : fin.getD (6 : Int32).toNatClampNeg 0 = ((((q6 + (6 : Int32).toInt64) + own_hit p2 (6 : Int32) x0 x1 x2) + own_hit p3 (6 : Int32) x0 x1 x2) + own_hit p4 (6 : Int32) x0 x1 x2) + own_hit p5 (6 : Int32) x0 x1 x2 := by
    rw [hfin, own_all b0 b1 b2 rfl (by decide) (by decide)]
    have hg : ([q6, (q6 + (1 : Int64)), (q6 + (2 : Int64)), (q6 + (3 : Int64)), (q6 + (4 : Int64)), (q6 + (5 : Int64)), (q6 + (6 : Int64)), (q6 + (7 : Int64)), (q6 + (8 : Int64)), (q6 + (9 : Int64)), (q6 + (10 : Int64)), (q6 + (11 : Int64))] : List Int64).getD (6 : Int32).toNatClampNeg 0 = q6 + (6 : Int32).toInt64 := rfl
    rw [hg]
  obtain ⟨_, _, ⟨T151, L151, k151, n151⟩, -, X151, ⟨Lc151, hQ151, l151, y151, z151⟩, st151⟩ := Jvm.LawKit.callS X149 hx (y := (⟨"com/example/terse_graph/tersegraph/PrefixWriterCountIntoPinLaw", "cell", "([JIJ[I[I)Z"⟩ : MethodName)) hown (mvT hZ (hw _ (List.mem_of_getElem? (i := 75) rfl))) (mvT hZ (hw _ (List.mem_of_getElem? (i := 76) rfl))) (mvT hZ (hw _ (List.mem_of_getElem? (i := 49) rfl))) (mvT hZ (hw _ (List.mem_of_getElem? (i := 77) rfl))) (by decide) (backOf (W := 0) (rmCell l Z a0 hw [] b36 (6 : Int32) q6 b17 b6 k6 x0 x1 x2 k36 k17 fin p2 p3 p4 p5 T134.heap n0 Z134 f135 z0 z1 z2 Vn134 f136 ⟨by decide, by decide⟩ hv6) hZ (hw _ (List.mem_of_getElem? (i := 77) rfl)) (hw _ (List.mem_of_getElem? (i := 49) rfl)) (by decide) (by decide)) (g := (mkF m 344 #[.val (.int p1), .val (.int p2), .val (.int p3), .val (.int p4), .val (.int p5), .val (.long q6), .second, .val (.int x0), .val (.int x1), .val (.int x2), .val (.ref b6), .val (.ref b17), .val (.ref b36), .val (.ref b99)] [(.ref b6), (.ref b17), (.long q6), (.int (6 : Int32)), (.ref b36)])) rfl (by rw [hml]; rfl) (argsL := [(.ref b36), (.int (6 : Int32)), (.long q6), (.ref b17), (.ref b6)]) (rest := []) (lenOf own_pd8 rfl) rfl (by show 2 * 0 + _ ≤ _; exact Nat.le_of_eq rfl) (hb hby at_344) (fun _ _ => ⟨rfl, eq149, (by decide : 9 + 0 ≤ _), (by decide : 572 + 0 ≤ _)⟩)
  dsimp only [Pt.U, Pt.locs, Pt.cells, Pt.slots] at X151 l151 y151 z151 st151 hQ151
  rw [l151, y151, z151] at X151
  obtain ⟨rfl, Nq151, eq151⟩ := hQ151
  have N151 := Fr.app N149 Nq151
  clear N149
  have R151 : ∀ t, Steps p.tables e below (T151.setTop (mkF m 347 #[.val (.int p1), .val (.int p2), .val (.int p3), .val (.int p4), .val (.int p5), .val (.long q6), .second, .val (.int x0), .val (.int x1), .val (.int x2), .val (.ref b6), .val (.ref b17), .val (.ref b36), .val (.ref b99)] [(.int (1 : Int32))])) t → Steps p.tables e below (s₁.setTop (entryFrame m #[(.int p1), (.int p2), (.int p3), (.int p4), (.int p5), (.long q6)] maxLocals)) t := fun t k => R150 t (st151 t k)
  clear R150 st151 X149 eq149
  have R152 : ∀ t, Steps p.tables e below (T151.setTop (mkF m 360 #[.val (.int p1), .val (.int p2), .val (.int p3), .val (.int p4), .val (.int p5), .val (.long q6), .second, .val (.int x0), .val (.int x1), .val (.int x2), .val (.ref b6), .val (.ref b17), .val (.ref b36), .val (.ref b99)] [(.ref b6), (.ref b17), (.long q6), (.int (7 : Int32)), (.ref b36)])) t → Steps p.tables e below (s₁.setTop (entryFrame m #[(.int p1), (.int p2), (.int p3), (.int p4), (.int p5), (.long q6)] maxLocals)) t := by
    intro t k
    refine R151 t ?_
    show Steps p.tables e below (T151.setTop (mkF m 347 #[.val (.int p1), .val (.int p2), .val (.int p3), .val (.int p4), .val (.int p5), .val (.long q6), .second, .val (.int x0), .val (.int x1), .val (.int x2), .val (.ref b6), .val (.ref b17), .val (.ref b36), .val (.ref b99)] [(.int (1 : Int32))])) _
    refine XS.ifNo X151.here hx rfl (hb hby at_347) rfl ((if0 _ _).trans (feq (by decide : ¬ ((1 : Int32) = (0 : Int32)))).1) ?_
    show Steps p.tables e below (T151.setTop (mkF m 350 #[.val (.int p1), .val (.int p2), .val (.int p3), .val (.int p4), .val (.int p5), .val (.long q6), .second, .val (.int x0), .val (.int x1), .val (.int x2), .val (.ref b6), .val (.ref b17), .val (.ref b36), .val (.ref b99)] [])) _
    refine XS.aload X151.here hx rfl (hb hby at_350) rfl rfl ?_
    show Steps p.tables e below (T151.setTop (mkF m 352 #[.val (.int p1), .val (.int p2), .val (.int p3), .val (.int p4), .val (.int p5), .val (.long q6), .second, .val (.int x0), .val (.int x1), .val (.int x2), .val (.ref b6), .val (.ref b17), .val (.ref b36), .val (.ref b99)] [(.ref b36)])) _
    refine XS.bipush X151.here hx rfl (hb hby at_352) ?_
    show Steps p.tables e below (T151.setTop (mkF m 354 #[.val (.int p1), .val (.int p2), .val (.int p3), .val (.int p4), .val (.int p5), .val (.long q6), .second, .val (.int x0), .val (.int x1), .val (.int x2), .val (.ref b6), .val (.ref b17), .val (.ref b36), .val (.ref b99)] [(.int (7 : Int32)), (.ref b36)])) _
    refine XS.lload X151.here hx rfl (hb hby at_354) rfl ?_
    show Steps p.tables e below (T151.setTop (mkF m 356 #[.val (.int p1), .val (.int p2), .val (.int p3), .val (.int p4), .val (.int p5), .val (.long q6), .second, .val (.int x0), .val (.int x1), .val (.int x2), .val (.ref b6), .val (.ref b17), .val (.ref b36), .val (.ref b99)] [(.long q6), (.int (7 : Int32)), (.ref b36)])) _
    refine XS.aload X151.here hx rfl (hb hby at_356) rfl rfl ?_
    show Steps p.tables e below (T151.setTop (mkF m 358 #[.val (.int p1), .val (.int p2), .val (.int p3), .val (.int p4), .val (.int p5), .val (.long q6), .second, .val (.int x0), .val (.int x1), .val (.int x2), .val (.ref b6), .val (.ref b17), .val (.ref b36), .val (.ref b99)] [(.ref b17), (.long q6), (.int (7 : Int32)), (.ref b36)])) _
    refine XS.aload X151.here hx rfl (hb hby at_358) rfl rfl ?_
    exact k
  clear R151
  have hv7 : fin.getD (7 : Int32).toNatClampNeg 0 = ((((q6 + (7 : Int32).toInt64) + own_hit p2 (7 : Int32) x0 x1 x2) + own_hit p3 (7 : Int32) x0 x1 x2) + own_hit p4 (7 : Int32) x0 x1 x2) + own_hit p5 (7 : Int32) x0 x1 x2 := by
    rw [hfin, own_all b0 b1 b2 rfl (by decide) (by decide)]
    have hg : ([q6, (q6 + (1 : Int64)), (q6 + (2 : Int64)), (q6 + (3 : Int64)), (q6 + (4 : Int64)), (q6 + (5 : Int64)), (q6 + (6 : Int64)), (q6 + (7 : Int64)), (q6 + (8 : Int64)), (q6 + (9 : Int64)), (q6 + (10 : Int64)), (q6 + (11 : Int64))] : List Int64).getD (7 : Int32).toNatClampNeg 0 = q6 + (7 : Int32).toInt64 := rfl
    rw [hg]
  obtain ⟨_, _, ⟨T153, L153, k153, n153⟩, -, X153, ⟨Lc153, hQ153, l153, y153, z153⟩, st153⟩ := Jvm.LawKit.callS X151 hx (y := (⟨"com/example/terse_graph/tersegraph/PrefixWriterCountIntoPinLaw", "cell", "([JIJ[I[I)Z"⟩ : MethodName)) hown (mvT hZ (hw _ (List.mem_of_getElem? (i := 75) rfl))) (mvT hZ (hw _ (List.mem_of_getElem? (i := 76) rfl))) (mvT hZ (hw _ (List.mem_of_getElem? (i := 49) rfl))) (mvT hZ (hw _ (List.mem_of_getElem? (i := 77) rfl))) (by decide) (backOf (W := 0) (rmCell l Z a0 hw [] b36 (7 : Int32) q6 b17 b6 k6 x0 x1 x2 k36 k17 fin p2 p3 p4 p5 T134.heap n0 Z134 f135 z0 z1 z2 Vn134 f136 ⟨by decide, by decide⟩ hv7) hZ (hw _ (List.mem_of_getElem? (i := 77) rfl)) (hw _ (List.mem_of_getElem? (i := 49) rfl)) (by decide) (by decide)) (g := (mkF m 360 #[.val (.int p1), .val (.int p2), .val (.int p3), .val (.int p4), .val (.int p5), .val (.long q6), .second, .val (.int x0), .val (.int x1), .val (.int x2), .val (.ref b6), .val (.ref b17), .val (.ref b36), .val (.ref b99)] [(.ref b6), (.ref b17), (.long q6), (.int (7 : Int32)), (.ref b36)])) rfl (by rw [hml]; rfl) (argsL := [(.ref b36), (.int (7 : Int32)), (.long q6), (.ref b17), (.ref b6)]) (rest := []) (lenOf own_pd8 rfl) rfl (by show 2 * 0 + _ ≤ _; exact Nat.le_of_eq rfl) (hb hby at_360) (fun _ _ => ⟨rfl, eq151, (by decide : 9 + 0 ≤ _), (by decide : 572 + 0 ≤ _)⟩)
  dsimp only [Pt.U, Pt.locs, Pt.cells, Pt.slots] at X153 l153 y153 z153 st153 hQ153
  rw [l153, y153, z153] at X153
  obtain ⟨rfl, Nq153, eq153⟩ := hQ153
  have N153 := Fr.app N151 Nq153
  clear N151
  have R153 : ∀ t, Steps p.tables e below (T153.setTop (mkF m 363 #[.val (.int p1), .val (.int p2), .val (.int p3), .val (.int p4), .val (.int p5), .val (.long q6), .second, .val (.int x0), .val (.int x1), .val (.int x2), .val (.ref b6), .val (.ref b17), .val (.ref b36), .val (.ref b99)] [(.int (1 : Int32))])) t → Steps p.tables e below (s₁.setTop (entryFrame m #[(.int p1), (.int p2), (.int p3), (.int p4), (.int p5), (.long q6)] maxLocals)) t := fun t k => R152 t (st153 t k)
  clear R152 st153 X151 eq151
  have R154 : ∀ t, Steps p.tables e below (T153.setTop (mkF m 376 #[.val (.int p1), .val (.int p2), .val (.int p3), .val (.int p4), .val (.int p5), .val (.long q6), .second, .val (.int x0), .val (.int x1), .val (.int x2), .val (.ref b6), .val (.ref b17), .val (.ref b36), .val (.ref b99)] [(.ref b6), (.ref b17), (.long q6), (.int (8 : Int32)), (.ref b36)])) t → Steps p.tables e below (s₁.setTop (entryFrame m #[(.int p1), (.int p2), (.int p3), (.int p4), (.int p5), (.long q6)] maxLocals)) t := by
    intro t k
    refine R153 t ?_
    show Steps p.tables e below (T153.setTop (mkF m 363 #[.val (.int p1), .val (.int p2), .val (.int p3), .val (.int p4), .val (.int p5), .val (.long q6), .second, .val (.int x0), .val (.int x1), .val (.int x2), .val (.ref b6), .val (.ref b17), .val (.ref b36), .val (.ref b99)] [(.int (1 : Int32))])) _
    refine XS.ifNo X153.here hx rfl (hb hby at_363) rfl ((if0 _ _).trans (feq (by decide : ¬ ((1 : Int32) = (0 : Int32)))).1) ?_
    show Steps p.tables e below (T153.setTop (mkF m 366 #[.val (.int p1), .val (.int p2), .val (.int p3), .val (.int p4), .val (.int p5), .val (.long q6), .second, .val (.int x0), .val (.int x1), .val (.int x2), .val (.ref b6), .val (.ref b17), .val (.ref b36), .val (.ref b99)] [])) _
    refine XS.aload X153.here hx rfl (hb hby at_366) rfl rfl ?_
    show Steps p.tables e below (T153.setTop (mkF m 368 #[.val (.int p1), .val (.int p2), .val (.int p3), .val (.int p4), .val (.int p5), .val (.long q6), .second, .val (.int x0), .val (.int x1), .val (.int x2), .val (.ref b6), .val (.ref b17), .val (.ref b36), .val (.ref b99)] [(.ref b36)])) _
    refine XS.bipush X153.here hx rfl (hb hby at_368) ?_
    show Steps p.tables e below (T153.setTop (mkF m 370 #[.val (.int p1), .val (.int p2), .val (.int p3), .val (.int p4), .val (.int p5), .val (.long q6), .second, .val (.int x0), .val (.int x1), .val (.int x2), .val (.ref b6), .val (.ref b17), .val (.ref b36), .val (.ref b99)] [(.int (8 : Int32)), (.ref b36)])) _
    refine XS.lload X153.here hx rfl (hb hby at_370) rfl ?_
    show Steps p.tables e below (T153.setTop (mkF m 372 #[.val (.int p1), .val (.int p2), .val (.int p3), .val (.int p4), .val (.int p5), .val (.long q6), .second, .val (.int x0), .val (.int x1), .val (.int x2), .val (.ref b6), .val (.ref b17), .val (.ref b36), .val (.ref b99)] [(.long q6), (.int (8 : Int32)), (.ref b36)])) _
    refine XS.aload X153.here hx rfl (hb hby at_372) rfl rfl ?_
    show Steps p.tables e below (T153.setTop (mkF m 374 #[.val (.int p1), .val (.int p2), .val (.int p3), .val (.int p4), .val (.int p5), .val (.long q6), .second, .val (.int x0), .val (.int x1), .val (.int x2), .val (.ref b6), .val (.ref b17), .val (.ref b36), .val (.ref b99)] [(.ref b17), (.long q6), (.int (8 : Int32)), (.ref b36)])) _
    refine XS.aload X153.here hx rfl (hb hby at_374) rfl rfl ?_
    exact k
  clear R153
  have hv8 : fin.getD (8 : Int32).toNatClampNeg 0 = ((((q6 + (8 : Int32).toInt64) + own_hit p2 (8 : Int32) x0 x1 x2) + own_hit p3 (8 : Int32) x0 x1 x2) + own_hit p4 (8 : Int32) x0 x1 x2) + own_hit p5 (8 : Int32) x0 x1 x2 := by
    rw [hfin, own_all b0 b1 b2 rfl (by decide) (by decide)]
    have hg : ([q6, (q6 + (1 : Int64)), (q6 + (2 : Int64)), (q6 + (3 : Int64)), (q6 + (4 : Int64)), (q6 + (5 : Int64)), (q6 + (6 : Int64)), (q6 + (7 : Int64)), (q6 + (8 : Int64)), (q6 + (9 : Int64)), (q6 + (10 : Int64)), (q6 + (11 : Int64))] : List Int64).getD (8 : Int32).toNatClampNeg 0 = q6 + (8 : Int32).toInt64 := rfl
    rw [hg]
  obtain ⟨_, _, ⟨T155, L155, k155, n155⟩, -, X155, ⟨Lc155, hQ155, l155, y155, z155⟩, st155⟩ := Jvm.LawKit.callS X153 hx (y := (⟨"com/example/terse_graph/tersegraph/PrefixWriterCountIntoPinLaw", "cell", "([JIJ[I[I)Z"⟩ : MethodName)) hown (mvT hZ (hw _ (List.mem_of_getElem? (i := 75) rfl))) (mvT hZ (hw _ (List.mem_of_getElem? (i := 76) rfl))) (mvT hZ (hw _ (List.mem_of_getElem? (i := 49) rfl))) (mvT hZ (hw _ (List.mem_of_getElem? (i := 77) rfl))) (by decide) (backOf (W := 0) (rmCell l Z a0 hw [] b36 (8 : Int32) q6 b17 b6 k6 x0 x1 x2 k36 k17 fin p2 p3 p4 p5 T134.heap n0 Z134 f135 z0 z1 z2 Vn134 f136 ⟨by decide, by decide⟩ hv8) hZ (hw _ (List.mem_of_getElem? (i := 77) rfl)) (hw _ (List.mem_of_getElem? (i := 49) rfl)) (by decide) (by decide)) (g := (mkF m 376 #[.val (.int p1), .val (.int p2), .val (.int p3), .val (.int p4), .val (.int p5), .val (.long q6), .second, .val (.int x0), .val (.int x1), .val (.int x2), .val (.ref b6), .val (.ref b17), .val (.ref b36), .val (.ref b99)] [(.ref b6), (.ref b17), (.long q6), (.int (8 : Int32)), (.ref b36)])) rfl (by rw [hml]; rfl) (argsL := [(.ref b36), (.int (8 : Int32)), (.long q6), (.ref b17), (.ref b6)]) (rest := []) (lenOf own_pd8 rfl) rfl (by show 2 * 0 + _ ≤ _; exact Nat.le_of_eq rfl) (hb hby at_376) (fun _ _ => ⟨rfl, eq153, (by decide : 9 + 0 ≤ _), (by decide : 572 + 0 ≤ _)⟩)
  dsimp only [Pt.U, Pt.locs, Pt.cells, Pt.slots] at X155 l155 y155 z155 st155 hQ155
  rw [l155, y155, z155] at X155
  obtain ⟨rfl, Nq155, eq155⟩ := hQ155
  have N155 := Fr.app N153 Nq155
  clear N153
  have R155 : ∀ t, Steps p.tables e below (T155.setTop (mkF m 379 #[.val (.int p1), .val (.int p2), .val (.int p3), .val (.int p4), .val (.int p5), .val (.long q6), .second, .val (.int x0), .val (.int x1), .val (.int x2), .val (.ref b6), .val (.ref b17), .val (.ref b36), .val (.ref b99)] [(.int (1 : Int32))])) t → Steps p.tables e below (s₁.setTop (entryFrame m #[(.int p1), (.int p2), (.int p3), (.int p4), (.int p5), (.long q6)] maxLocals)) t := fun t k => R154 t (st155 t k)
  clear R154 st155 X153 eq153
  have R156 : ∀ t, Steps p.tables e below (T155.setTop (mkF m 392 #[.val (.int p1), .val (.int p2), .val (.int p3), .val (.int p4), .val (.int p5), .val (.long q6), .second, .val (.int x0), .val (.int x1), .val (.int x2), .val (.ref b6), .val (.ref b17), .val (.ref b36), .val (.ref b99)] [(.ref b6), (.ref b17), (.long q6), (.int (9 : Int32)), (.ref b36)])) t → Steps p.tables e below (s₁.setTop (entryFrame m #[(.int p1), (.int p2), (.int p3), (.int p4), (.int p5), (.long q6)] maxLocals)) t := by
    intro t k
    refine R155 t ?_
    show Steps p.tables e below (T155.setTop (mkF m 379 #[.val (.int p1), .val (.int p2), .val (.int p3), .val (.int p4), .val (.int p5), .val (.long q6), .second, .val (.int x0), .val (.int x1), .val (.int x2), .val (.ref b6), .val (.ref b17), .val (.ref b36), .val (.ref b99)] [(.int (1 : Int32))])) _
    refine XS.ifNo X155.here hx rfl (hb hby at_379) rfl ((if0 _ _).trans (feq (by decide : ¬ ((1 : Int32) = (0 : Int32)))).1) ?_
    show Steps p.tables e below (T155.setTop (mkF m 382 #[.val (.int p1), .val (.int p2), .val (.int p3), .val (.int p4), .val (.int p5), .val (.long q6), .second, .val (.int x0), .val (.int x1), .val (.int x2), .val (.ref b6), .val (.ref b17), .val (.ref b36), .val (.ref b99)] [])) _
    refine XS.aload X155.here hx rfl (hb hby at_382) rfl rfl ?_
    show Steps p.tables e below (T155.setTop (mkF m 384 #[.val (.int p1), .val (.int p2), .val (.int p3), .val (.int p4), .val (.int p5), .val (.long q6), .second, .val (.int x0), .val (.int x1), .val (.int x2), .val (.ref b6), .val (.ref b17), .val (.ref b36), .val (.ref b99)] [(.ref b36)])) _
    refine XS.bipush X155.here hx rfl (hb hby at_384) ?_
    show Steps p.tables e below (T155.setTop (mkF m 386 #[.val (.int p1), .val (.int p2), .val (.int p3), .val (.int p4), .val (.int p5), .val (.long q6), .second, .val (.int x0), .val (.int x1), .val (.int x2), .val (.ref b6), .val (.ref b17), .val (.ref b36), .val (.ref b99)] [(.int (9 : Int32)), (.ref b36)])) _
    refine XS.lload X155.here hx rfl (hb hby at_386) rfl ?_
    show Steps p.tables e below (T155.setTop (mkF m 388 #[.val (.int p1), .val (.int p2), .val (.int p3), .val (.int p4), .val (.int p5), .val (.long q6), .second, .val (.int x0), .val (.int x1), .val (.int x2), .val (.ref b6), .val (.ref b17), .val (.ref b36), .val (.ref b99)] [(.long q6), (.int (9 : Int32)), (.ref b36)])) _
    refine XS.aload X155.here hx rfl (hb hby at_388) rfl rfl ?_
    show Steps p.tables e below (T155.setTop (mkF m 390 #[.val (.int p1), .val (.int p2), .val (.int p3), .val (.int p4), .val (.int p5), .val (.long q6), .second, .val (.int x0), .val (.int x1), .val (.int x2), .val (.ref b6), .val (.ref b17), .val (.ref b36), .val (.ref b99)] [(.ref b17), (.long q6), (.int (9 : Int32)), (.ref b36)])) _
    refine XS.aload X155.here hx rfl (hb hby at_390) rfl rfl ?_
    exact k
  clear R155
  have hv9 : fin.getD (9 : Int32).toNatClampNeg 0 = ((((q6 + (9 : Int32).toInt64) + own_hit p2 (9 : Int32) x0 x1 x2) + own_hit p3 (9 : Int32) x0 x1 x2) + own_hit p4 (9 : Int32) x0 x1 x2) + own_hit p5 (9 : Int32) x0 x1 x2 := by
    rw [hfin, own_all b0 b1 b2 rfl (by decide) (by decide)]
    have hg : ([q6, (q6 + (1 : Int64)), (q6 + (2 : Int64)), (q6 + (3 : Int64)), (q6 + (4 : Int64)), (q6 + (5 : Int64)), (q6 + (6 : Int64)), (q6 + (7 : Int64)), (q6 + (8 : Int64)), (q6 + (9 : Int64)), (q6 + (10 : Int64)), (q6 + (11 : Int64))] : List Int64).getD (9 : Int32).toNatClampNeg 0 = q6 + (9 : Int32).toInt64 := rfl
    rw [hg]
  obtain ⟨_, _, ⟨T157, L157, k157, n157⟩, -, X157, ⟨Lc157, hQ157, l157, y157, z157⟩, st157⟩ := Jvm.LawKit.callS X155 hx (y := (⟨"com/example/terse_graph/tersegraph/PrefixWriterCountIntoPinLaw", "cell", "([JIJ[I[I)Z"⟩ : MethodName)) hown (mvT hZ (hw _ (List.mem_of_getElem? (i := 75) rfl))) (mvT hZ (hw _ (List.mem_of_getElem? (i := 76) rfl))) (mvT hZ (hw _ (List.mem_of_getElem? (i := 49) rfl))) (mvT hZ (hw _ (List.mem_of_getElem? (i := 77) rfl))) (by decide) (backOf (W := 0) (rmCell l Z a0 hw [] b36 (9 : Int32) q6 b17 b6 k6 x0 x1 x2 k36 k17 fin p2 p3 p4 p5 T134.heap n0 Z134 f135 z0 z1 z2 Vn134 f136 ⟨by decide, by decide⟩ hv9) hZ (hw _ (List.mem_of_getElem? (i := 77) rfl)) (hw _ (List.mem_of_getElem? (i := 49) rfl)) (by decide) (by decide)) (g := (mkF m 392 #[.val (.int p1), .val (.int p2), .val (.int p3), .val (.int p4), .val (.int p5), .val (.long q6), .second, .val (.int x0), .val (.int x1), .val (.int x2), .val (.ref b6), .val (.ref b17), .val (.ref b36), .val (.ref b99)] [(.ref b6), (.ref b17), (.long q6), (.int (9 : Int32)), (.ref b36)])) rfl (by rw [hml]; rfl) (argsL := [(.ref b36), (.int (9 : Int32)), (.long q6), (.ref b17), (.ref b6)]) (rest := []) (lenOf own_pd8 rfl) rfl (by show 2 * 0 + _ ≤ _; exact Nat.le_of_eq rfl) (hb hby at_392) (fun _ _ => ⟨rfl, eq155, (by decide : 9 + 0 ≤ _), (by decide : 572 + 0 ≤ _)⟩)
  dsimp only [Pt.U, Pt.locs, Pt.cells, Pt.slots] at X157 l157 y157 z157 st157 hQ157
  rw [l157, y157, z157] at X157
  obtain ⟨rfl, Nq157, eq157⟩ := hQ157
  have N157 := Fr.app N155 Nq157
  clear N155
  have R157 : ∀ t, Steps p.tables e below (T157.setTop (mkF m 395 #[.val (.int p1), .val (.int p2), .val (.int p3), .val (.int p4), .val (.int p5), .val (.long q6), .second, .val (.int x0), .val (.int x1), .val (.int x2), .val (.ref b6), .val (.ref b17), .val (.ref b36), .val (.ref b99)] [(.int (1 : Int32))])) t → Steps p.tables e below (s₁.setTop (entryFrame m #[(.int p1), (.int p2), (.int p3), (.int p4), (.int p5), (.long q6)] maxLocals)) t := fun t k => R156 t (st157 t k)
  clear R156 st157 X155 eq155
  have R158 : ∀ t, Steps p.tables e below (T157.setTop (mkF m 408 #[.val (.int p1), .val (.int p2), .val (.int p3), .val (.int p4), .val (.int p5), .val (.long q6), .second, .val (.int x0), .val (.int x1), .val (.int x2), .val (.ref b6), .val (.ref b17), .val (.ref b36), .val (.ref b99)] [(.ref b6), (.ref b17), (.long q6), (.int (10 : Int32)), (.ref b36)])) t → Steps p.tables e below (s₁.setTop (entryFrame m #[(.int p1), (.int p2), (.int p3), (.int p4), (.int p5), (.long q6)] maxLocals)) t := by
    intro t k
    refine R157 t ?_
    show Steps p.tables e below (T157.setTop (mkF m 395 #[.val (.int p1), .val (.int p2), .val (.int p3), .val (.int p4), .val (.int p5), .val (.long q6), .second, .val (.int x0), .val (.int x1), .val (.int x2), .val (.ref b6), .val (.ref b17), .val (.ref b36), .val (.ref b99)] [(.int (1 : Int32))])) _
    refine XS.ifNo X157.here hx rfl (hb hby at_395) rfl ((if0 _ _).trans (feq (by decide : ¬ ((1 : Int32) = (0 : Int32)))).1) ?_
    show Steps p.tables e below (T157.setTop (mkF m 398 #[.val (.int p1), .val (.int p2), .val (.int p3), .val (.int p4), .val (.int p5), .val (.long q6), .second, .val (.int x0), .val (.int x1), .val (.int x2), .val (.ref b6), .val (.ref b17), .val (.ref b36), .val (.ref b99)] [])) _
    refine XS.aload X157.here hx rfl (hb hby at_398) rfl rfl ?_
    show Steps p.tables e below (T157.setTop (mkF m 400 #[.val (.int p1), .val (.int p2), .val (.int p3), .val (.int p4), .val (.int p5), .val (.long q6), .second, .val (.int x0), .val (.int x1), .val (.int x2), .val (.ref b6), .val (.ref b17), .val (.ref b36), .val (.ref b99)] [(.ref b36)])) _
    refine XS.bipush X157.here hx rfl (hb hby at_400) ?_
    show Steps p.tables e below (T157.setTop (mkF m 402 #[.val (.int p1), .val (.int p2), .val (.int p3), .val (.int p4), .val (.int p5), .val (.long q6), .second, .val (.int x0), .val (.int x1), .val (.int x2), .val (.ref b6), .val (.ref b17), .val (.ref b36), .val (.ref b99)] [(.int (10 : Int32)), (.ref b36)])) _
    refine XS.lload X157.here hx rfl (hb hby at_402) rfl ?_
    show Steps p.tables e below (T157.setTop (mkF m 404 #[.val (.int p1), .val (.int p2), .val (.int p3), .val (.int p4), .val (.int p5), .val (.long q6), .second, .val (.int x0), .val (.int x1), .val (.int x2), .val (.ref b6), .val (.ref b17), .val (.ref b36), .val (.ref b99)] [(.long q6), (.int (10 : Int32)), (.ref b36)])) _
    refine XS.aload X157.here hx rfl (hb hby at_404) rfl rfl ?_
    show Steps p.tables e below (T157.setTop (mkF m 406 #[.val (.int p1), .val (.int p2), .val (.int p3), .val (.int p4), .val (.int p5), .val (.long q6), .second, .val (.int x0), .val (.int x1), .val (.int x2), .val (.ref b6), .val (.ref b17), .val (.ref b36), .val (.ref b99)] [(.ref b17), (.long q6), (.int (10 : Int32)), (.ref b36)])) _
    refine XS.aload X157.here hx rfl (hb hby at_406) rfl rfl ?_
    exact k
  clear R157
  have hv10 : fin.getD (10 : Int32).toNatClampNeg 0 = ((((q6 + (10 : Int32).toInt64) + own_hit p2 (10 : Int32) x0 x1 x2) + own_hit p3 (10 : Int32) x0 x1 x2) + own_hit p4 (10 : Int32) x0 x1 x2) + own_hit p5 (10 : Int32) x0 x1 x2 := by
    rw [hfin, own_all b0 b1 b2 rfl (by decide) (by decide)]
    have hg : ([q6, (q6 + (1 : Int64)), (q6 + (2 : Int64)), (q6 + (3 : Int64)), (q6 + (4 : Int64)), (q6 + (5 : Int64)), (q6 + (6 : Int64)), (q6 + (7 : Int64)), (q6 + (8 : Int64)), (q6 + (9 : Int64)), (q6 + (10 : Int64)), (q6 + (11 : Int64))] : List Int64).getD (10 : Int32).toNatClampNeg 0 = q6 + (10 : Int32).toInt64 := rfl
    rw [hg]
  obtain ⟨_, _, ⟨T159, L159, k159, n159⟩, -, X159, ⟨Lc159, hQ159, l159, y159, z159⟩, st159⟩ := Jvm.LawKit.callS X157 hx (y := (⟨"com/example/terse_graph/tersegraph/PrefixWriterCountIntoPinLaw", "cell", "([JIJ[I[I)Z"⟩ : MethodName)) hown (mvT hZ (hw _ (List.mem_of_getElem? (i := 75) rfl))) (mvT hZ (hw _ (List.mem_of_getElem? (i := 76) rfl))) (mvT hZ (hw _ (List.mem_of_getElem? (i := 49) rfl))) (mvT hZ (hw _ (List.mem_of_getElem? (i := 77) rfl))) (by decide) (backOf (W := 0) (rmCell l Z a0 hw [] b36 (10 : Int32) q6 b17 b6 k6 x0 x1 x2 k36 k17 fin p2 p3 p4 p5 T134.heap n0 Z134 f135 z0 z1 z2 Vn134 f136 ⟨by decide, by decide⟩ hv10) hZ (hw _ (List.mem_of_getElem? (i := 77) rfl)) (hw _ (List.mem_of_getElem? (i := 49) rfl)) (by decide) (by decide)) (g := (mkF m 408 #[.val (.int p1), .val (.int p2), .val (.int p3), .val (.int p4), .val (.int p5), .val (.long q6), .second, .val (.int x0), .val (.int x1), .val (.int x2), .val (.ref b6), .val (.ref b17), .val (.ref b36), .val (.ref b99)] [(.ref b6), (.ref b17), (.long q6), (.int (10 : Int32)), (.ref b36)])) rfl (by rw [hml]; rfl) (argsL := [(.ref b36), (.int (10 : Int32)), (.long q6), (.ref b17), (.ref b6)]) (rest := []) (lenOf own_pd8 rfl) rfl (by show 2 * 0 + _ ≤ _; exact Nat.le_of_eq rfl) (hb hby at_408) (fun _ _ => ⟨rfl, eq157, (by decide : 9 + 0 ≤ _), (by decide : 572 + 0 ≤ _)⟩)
  dsimp only [Pt.U, Pt.locs, Pt.cells, Pt.slots] at X159 l159 y159 z159 st159 hQ159
  rw [l159, y159, z159] at X159
  obtain ⟨rfl, Nq159, eq159⟩ := hQ159
  have N159 := Fr.app N157 Nq159
  clear N157
  have R159 : ∀ t, Steps p.tables e below (T159.setTop (mkF m 411 #[.val (.int p1), .val (.int p2), .val (.int p3), .val (.int p4), .val (.int p5), .val (.long q6), .second, .val (.int x0), .val (.int x1), .val (.int x2), .val (.ref b6), .val (.ref b17), .val (.ref b36), .val (.ref b99)] [(.int (1 : Int32))])) t → Steps p.tables e below (s₁.setTop (entryFrame m #[(.int p1), (.int p2), (.int p3), (.int p4), (.int p5), (.long q6)] maxLocals)) t := fun t k => R158 t (st159 t k)
  clear R158 st159 X157 eq157
  have R160 : ∀ t, Steps p.tables e below (T159.setTop (mkF m 424 #[.val (.int p1), .val (.int p2), .val (.int p3), .val (.int p4), .val (.int p5), .val (.long q6), .second, .val (.int x0), .val (.int x1), .val (.int x2), .val (.ref b6), .val (.ref b17), .val (.ref b36), .val (.ref b99)] [(.ref b6), (.ref b17), (.long q6), (.int (11 : Int32)), (.ref b36)])) t → Steps p.tables e below (s₁.setTop (entryFrame m #[(.int p1), (.int p2), (.int p3), (.int p4), (.int p5), (.long q6)] maxLocals)) t := by
    intro t k
    refine R159 t ?_
    show Steps p.tables e below (T159.setTop (mkF m 411 #[.val (.int p1), .val (.int p2), .val (.int p3), .val (.int p4), .val (.int p5), .val (.long q6), .second, .val (.int x0), .val (.int x1), .val (.int x2), .val (.ref b6), .val (.ref b17), .val (.ref b36), .val (.ref b99)] [(.int (1 : Int32))])) _
    refine XS.ifNo X159.here hx rfl (hb hby at_411) rfl ((if0 _ _).trans (feq (by decide : ¬ ((1 : Int32) = (0 : Int32)))).1) ?_
    show Steps p.tables e below (T159.setTop (mkF m 414 #[.val (.int p1), .val (.int p2), .val (.int p3), .val (.int p4), .val (.int p5), .val (.long q6), .second, .val (.int x0), .val (.int x1), .val (.int x2), .val (.ref b6), .val (.ref b17), .val (.ref b36), .val (.ref b99)] [])) _
    refine XS.aload X159.here hx rfl (hb hby at_414) rfl rfl ?_
    show Steps p.tables e below (T159.setTop (mkF m 416 #[.val (.int p1), .val (.int p2), .val (.int p3), .val (.int p4), .val (.int p5), .val (.long q6), .second, .val (.int x0), .val (.int x1), .val (.int x2), .val (.ref b6), .val (.ref b17), .val (.ref b36), .val (.ref b99)] [(.ref b36)])) _
    refine XS.bipush X159.here hx rfl (hb hby at_416) ?_
    show Steps p.tables e below (T159.setTop (mkF m 418 #[.val (.int p1), .val (.int p2), .val (.int p3), .val (.int p4), .val (.int p5), .val (.long q6), .second, .val (.int x0), .val (.int x1), .val (.int x2), .val (.ref b6), .val (.ref b17), .val (.ref b36), .val (.ref b99)] [(.int (11 : Int32)), (.ref b36)])) _
    refine XS.lload X159.here hx rfl (hb hby at_418) rfl ?_
    show Steps p.tables e below (T159.setTop (mkF m 420 #[.val (.int p1), .val (.int p2), .val (.int p3), .val (.int p4), .val (.int p5), .val (.long q6), .second, .val (.int x0), .val (.int x1), .val (.int x2), .val (.ref b6), .val (.ref b17), .val (.ref b36), .val (.ref b99)] [(.long q6), (.int (11 : Int32)), (.ref b36)])) _
    refine XS.aload X159.here hx rfl (hb hby at_420) rfl rfl ?_
    show Steps p.tables e below (T159.setTop (mkF m 422 #[.val (.int p1), .val (.int p2), .val (.int p3), .val (.int p4), .val (.int p5), .val (.long q6), .second, .val (.int x0), .val (.int x1), .val (.int x2), .val (.ref b6), .val (.ref b17), .val (.ref b36), .val (.ref b99)] [(.ref b17), (.long q6), (.int (11 : Int32)), (.ref b36)])) _
    refine XS.aload X159.here hx rfl (hb hby at_422) rfl rfl ?_
    exact k
  clear R159
  have hv11 : fin.getD (11 : Int32).toNatClampNeg 0 = ((((q6 + (11 : Int32).toInt64) + own_hit p2 (11 : Int32) x0 x1 x2) + own_hit p3 (11 : Int32) x0 x1 x2) + own_hit p4 (11 : Int32) x0 x1 x2) + own_hit p5 (11 : Int32) x0 x1 x2 := by
    rw [hfin, own_all b0 b1 b2 rfl (by decide) (by decide)]
    have hg : ([q6, (q6 + (1 : Int64)), (q6 + (2 : Int64)), (q6 + (3 : Int64)), (q6 + (4 : Int64)), (q6 + (5 : Int64)), (q6 + (6 : Int64)), (q6 + (7 : Int64)), (q6 + (8 : Int64)), (q6 + (9 : Int64)), (q6 + (10 : Int64)), (q6 + (11 : Int64))] : List Int64).getD (11 : Int32).toNatClampNeg 0 = q6 + (11 : Int32).toInt64 := rfl
    rw [hg]
  obtain ⟨_, _, ⟨T161, L161, k161, n161⟩, -, X161, ⟨Lc161, hQ161, l161, y161, z161⟩, st161⟩ := Jvm.LawKit.callS X159 hx (y := (⟨"com/example/terse_graph/tersegraph/PrefixWriterCountIntoPinLaw", "cell", "([JIJ[I[I)Z"⟩ : MethodName)) hown (mvT hZ (hw _ (List.mem_of_getElem? (i := 75) rfl))) (mvT hZ (hw _ (List.mem_of_getElem? (i := 76) rfl))) (mvT hZ (hw _ (List.mem_of_getElem? (i := 49) rfl))) (mvT hZ (hw _ (List.mem_of_getElem? (i := 77) rfl))) (by decide) (backOf (W := 0) (rmCell l Z a0 hw [] b36 (11 : Int32) q6 b17 b6 k6 x0 x1 x2 k36 k17 fin p2 p3 p4 p5 T134.heap n0 Z134 f135 z0 z1 z2 Vn134 f136 ⟨by decide, by decide⟩ hv11) hZ (hw _ (List.mem_of_getElem? (i := 77) rfl)) (hw _ (List.mem_of_getElem? (i := 49) rfl)) (by decide) (by decide)) (g := (mkF m 424 #[.val (.int p1), .val (.int p2), .val (.int p3), .val (.int p4), .val (.int p5), .val (.long q6), .second, .val (.int x0), .val (.int x1), .val (.int x2), .val (.ref b6), .val (.ref b17), .val (.ref b36), .val (.ref b99)] [(.ref b6), (.ref b17), (.long q6), (.int (11 : Int32)), (.ref b36)])) rfl (by rw [hml]; rfl) (argsL := [(.ref b36), (.int (11 : Int32)), (.long q6), (.ref b17), (.ref b6)]) (rest := []) (lenOf own_pd8 rfl) rfl (by show 2 * 0 + _ ≤ _; exact Nat.le_of_eq rfl) (hb hby at_424) (fun _ _ => ⟨rfl, eq159, (by decide : 9 + 0 ≤ _), (by decide : 572 + 0 ≤ _)⟩)
  dsimp only [Pt.U, Pt.locs, Pt.cells, Pt.slots] at X161 l161 y161 z161 st161 hQ161
  rw [l161, y161, z161] at X161
  obtain ⟨rfl, Nq161, eq161⟩ := hQ161
  have N161 := Fr.app N159 Nq161
  clear N159
  have R161 : ∀ t, Steps p.tables e below (T161.setTop (mkF m 427 #[.val (.int p1), .val (.int p2), .val (.int p3), .val (.int p4), .val (.int p5), .val (.long q6), .second, .val (.int x0), .val (.int x1), .val (.int x2), .val (.ref b6), .val (.ref b17), .val (.ref b36), .val (.ref b99)] [(.int (1 : Int32))])) t → Steps p.tables e below (s₁.setTop (entryFrame m #[(.int p1), (.int p2), (.int p3), (.int p4), (.int p5), (.long q6)] maxLocals)) t := fun t k => R160 t (st161 t k)
  clear R160 st161 X159 eq159
  have R162 : ∀ t, Steps p.tables e below (T161.setTop (mkF m 435 #[.val (.int p1), .val (.int p2), .val (.int p3), .val (.int p4), .val (.int p5), .val (.long q6), .second, .val (.int x0), .val (.int x1), .val (.int x2), .val (.ref b6), .val (.ref b17), .val (.ref b36), .val (.ref b99)] [(.int (1 : Int32))])) t → Steps p.tables e below (s₁.setTop (entryFrame m #[(.int p1), (.int p2), (.int p3), (.int p4), (.int p5), (.long q6)] maxLocals)) t := by
    intro t k
    refine R161 t ?_
    show Steps p.tables e below (T161.setTop (mkF m 427 #[.val (.int p1), .val (.int p2), .val (.int p3), .val (.int p4), .val (.int p5), .val (.long q6), .second, .val (.int x0), .val (.int x1), .val (.int x2), .val (.ref b6), .val (.ref b17), .val (.ref b36), .val (.ref b99)] [(.int (1 : Int32))])) _
    refine XS.ifNo X161.here hx rfl (hb hby at_427) rfl ((if0 _ _).trans (feq (by decide : ¬ ((1 : Int32) = (0 : Int32)))).1) ?_
    show Steps p.tables e below (T161.setTop (mkF m 430 #[.val (.int p1), .val (.int p2), .val (.int p3), .val (.int p4), .val (.int p5), .val (.long q6), .second, .val (.int x0), .val (.int x1), .val (.int x2), .val (.ref b6), .val (.ref b17), .val (.ref b36), .val (.ref b99)] [])) _
    refine XS.iconst X161.here hx rfl (hb hby at_430) ?_
    show Steps p.tables e below (T161.setTop (mkF m 431 #[.val (.int p1), .val (.int p2), .val (.int p3), .val (.int p4), .val (.int p5), .val (.long q6), .second, .val (.int x0), .val (.int x1), .val (.int x2), .val (.ref b6), .val (.ref b17), .val (.ref b36), .val (.ref b99)] [(.int (1 : Int32))])) _
    refine XS.goto X161.here hx rfl (pc0 := 431) (pc' := 435) rfl (hb hby at_431) (by decide) (by decide) ?_
    exact k
  clear R161
  obtain ⟨fs, hr, hrun, hended, hW, hsame⟩ := X161.leave (v := some (.int (1 : Int32))) (fun h => by rw [Bd.returns] at h; cases h)
  refine ⟨_, _, R162 _ ?_, hrun, hended, _, _, rfl, ?_, ⟨_, rfl⟩, hW, hsame.mono (by decide) (by decide)⟩
  · exact retN X161 hx (t := .boolean) Bd.returns (by simp) (hb hby at_435) hr
  · show Q_rm0 Z p1 p2 p3 p4 p5 q6 h0 n0 _ T161.heap _
    rw [eq161]
    exact ⟨rfl, N161⟩
set_option maxRecDepth 65536 in
set_option maxHeartbeats 40000000 in
theorem comes_1 {Post : Tables → Env → Array Value → State → Outcome → State → Prop} (hpost : ∀ tb e args s v u, (limb_1_1.after args s (.returned v) u = true ∧ limb_1_2.after args s (.returned v) u = true ∧ True) → FrameEnd s (.returned v) u (Jvm.fieldLocs frame_1_writes args s ++ Jvm.arrayLocs frame_1_arrays args s ++ Jvm.staticLocs frame_1_statics s) 32 1216 → Post tb e args s (.returned v) u) :
    ArmFor flags0 classFile x code maxLocals ret World_1 tables_1 room_1 Calls_1 rest_1 Pre_1 Post := by
  intro l hfl _ _ p e ha hc hk s m args below hf hA hF happ hP
  obtain ⟨hcalls, hrest, hpre⟩ := hP
  obtain ⟨-, -, -, hnamed, -, -, -, hat⟩ := (Spec.applies_iff hf).mp happ
  obtain ⟨hg, hn⟩ := and_e (Cond.before_iff.mp (show (Jvm.Cond.and given_1 narrow_1).before args s = true from hpre))
  obtain ⟨g1, g2⟩ := and_e hg
  obtain ⟨g3, g4⟩ := and_e g2
  obtain ⟨g5, g6⟩ := and_e g4
  obtain ⟨g7, g8⟩ := and_e g6
  obtain ⟨g9, g10⟩ := and_e g8
  obtain ⟨g11, g12⟩ := and_e g10
  obtain ⟨w0, w1, w2, w3, w4, w5, rfl⟩ : ∃ w0 w1 w2 w3 w4 w5 : Value, args = #[w0, w1, w2, w3, w4, w5] := by
    have hs : args.size = 6 := by simpa [Cond.value, given_1] using g1
    obtain ⟨L⟩ := args
    match L, hs with
    | [w0, w1, w2, w3, w4, w5], _ => exact ⟨w0, w1, w2, w3, w4, w5, rfl⟩
  have hw := fun d (hd : d ∈ tables_1) => atoms_spec (ws := Jvm.Cond.code x code maxLocals ret :: tables_1) hat d (List.mem_cons_of_mem _ hd)
  have hfit : Fit s := fun {y c} hc i hi => by
    obtain ⟨ha, rfl⟩ := Array.getElem?_eq_some_iff.mp hc
    have q := List.all_eq_true.mp ((Array.all_eq_true_iff_forall_mem.mp hF) _ (Array.getElem_mem ha)) i (List.mem_range.mpr hi)
    simpa [Array.getElem?_eq_getElem hi] using q
  obtain ⟨i0, ei0⟩ := is_v g3
  obtain rfl : w0 = (.int i0) := Option.some.inj ei0
  obtain ⟨i1, ei1⟩ := is_v g5
  obtain rfl : w1 = (.int i1) := Option.some.inj ei1
  obtain ⟨i2, ei2⟩ := is_v g7
  obtain rfl : w2 = (.int i2) := Option.some.inj ei2
  obtain ⟨i3, ei3⟩ := is_v g9
  obtain rfl : w3 = (.int i3) := Option.some.inj ei3
  obtain ⟨i4, ei4⟩ := is_v g11
  obtain rfl : w4 = (.int i4) := Option.some.inj ei4
  obtain ⟨i5, ei5⟩ := isL_v g12
  obtain rfl : w5 = (.long i5) := Option.some.inj ei5
  obtain ⟨n, o, h1, h2, h3, _, L, rfl, ⟨rfl, N⟩, hq⟩ := rm0 l s _ hw tables_1 i0 i1 i2 i3 i4 i5  s.heap s.heap.size (Nat.le_refl _)  p e ha hc hk s m _ below hf ((Spec.applies_iff_loose hf).mp happ).1 ⟨rfl, State.Warmed39.refl s, rfl⟩ trivial
  refine ⟨n, _, h1, h2, h3, hpost _ _ _ _ _ _ ⟨Cond.after_iff.mpr rfl, Cond.after_iff.mpr (eq_i res_at (Term.int_eval (1)) rfl), trivial⟩ ⟨hq.1, hq.2.1, (hq.2.2.sift fun y hy => Or.inr (N y hy)).mono (by decide) (by decide)⟩⟩
theorem main_1_1 : Claimed_1_1 := comes_1 fun _ _ _ _ _ _ h hF => ⟨h.1, hF⟩
theorem main_1_2 : Claimed_1_2 := comes_1 fun _ _ _ _ _ _ h hF => ⟨h.2.1, hF⟩
end Jvm.Pilot.@@N@@
namespace Jvm.Pilot.@@N@@
open Jvm Jvm.ClassFile Sem Op Lib Jvm.Free Jvm.Stand Jvm.Pilot.@@N@@.Jvm.D
/-! MADE BY PROGRAM (witnessworld.py) out of the Statement's table words and the real class files: 16 classes; the members and pool entries that the words name. The judged class is class 1, her method 1. -/
namespace start1
open Jvm.ClassFile
def u (s : String) : CpInfo := .utf8 (stringToUtf16 s)
/-- a pool by its gaps: so many unusable entries, then the entry; so many at the end -/
def gap : Nat → List CpInfo → List CpInfo
  | 0, r => r
  | n + 1, r => .unusable :: gap n r
def poolList (es : List (Nat × CpInfo)) (last : Nat) : List CpInfo := es.foldr (fun e r => gap e.1 (e.2 :: r)) (gap last [])
def pool (es : List (Nat × CpInfo)) (last : Nat) : Array CpInfo := ⟨poolList es last⟩
def fileOf (pool : Array CpInfo) (this : Nat) (attrs : Array Attribute := #[]) (ms : Array MethodInfo := #[]) (fl : Nat := 33) (sup : Nat := 0) (ifs : Array Nat := #[]) (fds : Array FieldInfo := #[]) : ClassFile where
  minorVersion := 0
  majorVersion := 65
  constantPool := pool
  accessFlags := fl
  thisClass := this
  superClass := sup
  interfaces := ifs
  fields := fds
  methods := ms
  attributes := attrs
def plain (name : String) (sup : Option ClassId) : Class where
  name := name
  kind := .ordinary
  loader := none
  accessFlags := 33
  super := sup
  interfaces := #[]
  cf := none
  fields := #[]
  methods := #[]
  instanceTypes := #[]
  staticTypes := #[]
  resolved := #[]
  callSites := []
  init := .initialized
  statics := none
  mirror := none

def pool0 : Array CpInfo := pool [(5, u "<init>"), (0, u "()V"), (1, .class_ 10), (1, u "java/lang/Object")] 113

def k0c0 : Code := { maxStack := 0, maxLocals := 1, code := object_method_1_code, exceptionTable := #[], attributes := #[] }
def k0m0 : Method := { name := "<init>", desc := "()V", sig := { parameters := [], returnType := none }, accessFlags := 1, code := some k0c0 }
/-- java/lang/Object -/
def k0 : Class := { plain "java/lang/Object" none with
  accessFlags := 33
  interfaces := #[]
  cf := some (fileOf pool0 8 #[] #[{ accessFlags := 1, nameIndex := 5, descriptorIndex := 6, attributes := #[] }] 33 0 #[] #[])
  fields := #[]
  methods := #[k0m0]
  instanceTypes := #[]
  staticTypes := #[]
  resolved := Array.replicate 124 none
  statics := none }

def pool1 : Array CpInfo := pool [(2, .class_ 4), (0, .nameAndType 5 6), (0, u "java/lang/Object"), (0, u "<init>"), (0, u "()V"), (0, .long 2), (1, .long 3), (1, .long 4), (1, .long 5), (1, .long 6), (1, .long 7), (1, .long 8), (1, .long 9), (1, .long 10), (1, .long 11), (1, .class_ 28), (0, u "com/example/terse_graph/tersegraph/PrefixWriter"), (0, .methodref 27 3), (0, .methodref 31 32), (0, .class_ 33), (0, .nameAndType 34 35), (0, u "com/example/terse_graph/tersegraph/PrefixWriterCountIntoPinLaw"), (0, u "put"), (0, u "(Lcom/example/terse_graph/tersegraph/PrefixWriter;I[I)V"), (0, .methodref 27 37), (0, .nameAndType 38 39), (0, u "countInto"), (0, u "([J[I)V"), (0, .methodref 31 41), (0, .nameAndType 42 43), (0, u "cell"), (0, u "([JIJ[I[I)Z"), (0, .methodref 31 45), (0, .nameAndType 46 47), (0, u "ctx"), (0, u "(I)I"), (0, .methodref 31 49), (0, .nameAndType 50 51), (0, u "sym"), (0, u "(I[I)I"), (0, .methodref 27 53), (0, .nameAndType 54 55), (0, u "add"), (0, u "(II)V"), (0, .methodref 27 57), (0, .nameAndType 58 59), (0, u "addBits"), (0, u "(JI)V"), (0, .methodref 31 61), (0, .nameAndType 62 51), (0, u "offset"), (0, .methodref 31 64), (0, .nameAndType 65 66), (0, u "hit"), (0, u "(II[I)J"), (2, u "law"), (0, u "(IIIIIJ)Z")] 7

def k1m0 : Method := { name := "<init>", desc := "()V", sig := { parameters := [], returnType := none }, accessFlags := 1, code := none }
def k1c1 : Code := { maxStack := 6, maxLocals := 14, code := code, exceptionTable := #[], attributes := #[] }
def k1m1 : Method := { name := "law", desc := "(IIIIIJ)Z", sig := { parameters := [.int, .int, .int, .int, .int, .long], returnType := some .boolean }, accessFlags := 9, code := some k1c1 }
def k1c2 : Code := { maxStack := 2, maxLocals := 1, code := method_3_code, exceptionTable := #[], attributes := #[] }
def k1m2 : Method := { name := "ctx", desc := "(I)I", sig := { parameters := [.int], returnType := some .int }, accessFlags := 10, code := some k1c2 }
def k1c3 : Code := { maxStack := 3, maxLocals := 2, code := method_4_code, exceptionTable := #[], attributes := #[] }
def k1m3 : Method := { name := "sym", desc := "(I[I)I", sig := { parameters := [.int, (.array .int)], returnType := some .int }, accessFlags := 10, code := some k1c3 }
def k1c4 : Code := { maxStack := 3, maxLocals := 2, code := method_5_code, exceptionTable := #[], attributes := #[] }
def k1m4 : Method := { name := "offset", desc := "(I[I)I", sig := { parameters := [.int, (.array .int)], returnType := some .int }, accessFlags := 10, code := some k1c4 }
def k1c5 : Code := { maxStack := 5, maxLocals := 3, code := method_6_code, exceptionTable := #[], attributes := #[] }
def k1m5 : Method := { name := "put", desc := "(Lcom/example/terse_graph/tersegraph/PrefixWriter;I[I)V", sig := { parameters := [(.object "com/example/terse_graph/tersegraph/PrefixWriter"), .int, (.array .int)], returnType := none }, accessFlags := 10, code := some k1c5 }
def k1c6 : Code := { maxStack := 3, maxLocals := 3, code := method_7_code, exceptionTable := #[], attributes := #[] }
def k1m6 : Method := { name := "hit", desc := "(II[I)J", sig := { parameters := [.int, .int, (.array .int)], returnType := some .long }, accessFlags := 10, code := some k1c6 }
def k1c7 : Code := { maxStack := 5, maxLocals := 8, code := method_8_code, exceptionTable := #[], attributes := #[] }
def k1m7 : Method := { name := "cell", desc := "([JIJ[I[I)Z", sig := { parameters := [(.array .long), .int, .long, (.array .int), (.array .int)], returnType := some .boolean }, accessFlags := 10, code := some k1c7 }
/-- com/example/terse_graph/tersegraph/PrefixWriterCountIntoPinLaw -/
def k1 : Class := { plain "com/example/terse_graph/tersegraph/PrefixWriterCountIntoPinLaw" (some 0) with
  accessFlags := 49
  interfaces := #[]
  cf := some (fileOf pool1 31 #[] #[{ accessFlags := 1, nameIndex := 5, descriptorIndex := 6, attributes := #[] }, { accessFlags := 9, nameIndex := 69, descriptorIndex := 70, attributes := #[] }, { accessFlags := 10, nameIndex := 46, descriptorIndex := 47, attributes := #[] }, { accessFlags := 10, nameIndex := 50, descriptorIndex := 51, attributes := #[] }, { accessFlags := 10, nameIndex := 62, descriptorIndex := 51, attributes := #[] }, { accessFlags := 10, nameIndex := 34, descriptorIndex := 35, attributes := #[] }, { accessFlags := 10, nameIndex := 65, descriptorIndex := 66, attributes := #[] }, { accessFlags := 10, nameIndex := 42, descriptorIndex := 43, attributes := #[] }] 49 2 #[] #[])
  fields := #[]
  methods := #[k1m0, k1m1, k1m2, k1m3, k1m4, k1m5, k1m6, k1m7]
  instanceTypes := #[]
  staticTypes := #[]
  resolved := Array.replicate 78 none
  statics := none }

def pool2 : Array CpInfo := pool [(1, .methodref 2 3), (0, .class_ 4), (0, .nameAndType 5 6), (0, u "java/lang/Object"), (0, u "<init>"), (0, u "()V"), (0, .fieldref 8 9), (0, .class_ 10), (0, .nameAndType 11 12), (0, u "com/example/terse_graph/tersegraph/PrefixWriter"), (0, u "contexts"), (0, u "[I"), (0, .fieldref 8 14), (0, .nameAndType 15 12), (0, u "values"), (0, .class_ 17), (0, u "java/io/ByteArrayOutputStream"), (0, .methodref 16 3), (0, .fieldref 8 20), (0, .nameAndType 21 22), (0, u "coded"), (0, u "Ljava/io/ByteArrayOutputStream;"), (0, .fieldref 8 24), (0, .nameAndType 25 26), (0, u "count"), (0, u "I"), (6, .methodref 8 34), (0, .nameAndType 35 36), (0, u "add"), (0, u "(II)V"), (30, u "(JI)V"), (22, u "LONGEST_BITS"), (6, u "addBits"), (0, u "countInto"), (0, u "([J[I)V")] 25

def k2c0 : Code := { maxStack := 3, maxLocals := 1, code := prog_127_method_1_code, exceptionTable := #[], attributes := #[] }
def k2m0 : Method := { name := "<init>", desc := "()V", sig := { parameters := [], returnType := none }, accessFlags := 0, code := some k2c0 }
def k2c1 : Code := { maxStack := 4, maxLocals := 3, code := prog_127_method_3_code, exceptionTable := #[], attributes := #[] }
def k2m1 : Method := { name := "add", desc := "(II)V", sig := { parameters := [.int, .int], returnType := none }, accessFlags := 0, code := some k2c1 }
def k2c2 : Code := { maxStack := 8, maxLocals := 4, code := prog_127_method_4_code, exceptionTable := #[], attributes := #[] }
def k2m2 : Method := { name := "addBits", desc := "(JI)V", sig := { parameters := [.long, .int], returnType := none }, accessFlags := 0, code := some k2c2 }
def k2c3 : Code := { maxStack := 6, maxLocals := 5, code := prog_127_method_5_code, exceptionTable := #[], attributes := #[] }
def k2m3 : Method := { name := "countInto", desc := "([J[I)V", sig := { parameters := [(.array .long), (.array .int)], returnType := none }, accessFlags := 0, code := some k2c3 }
/-- com/example/terse_graph/tersegraph/PrefixWriter -/
def k2 : Class := { plain "com/example/terse_graph/tersegraph/PrefixWriter" (some 0) with
  accessFlags := 48
  interfaces := #[]
  cf := some (fileOf pool2 8 #[] #[{ accessFlags := 0, nameIndex := 5, descriptorIndex := 6, attributes := #[] }, { accessFlags := 0, nameIndex := 35, descriptorIndex := 36, attributes := #[] }, { accessFlags := 0, nameIndex := 97, descriptorIndex := 67, attributes := #[] }, { accessFlags := 0, nameIndex := 98, descriptorIndex := 99, attributes := #[] }] 48 2 #[] #[{ accessFlags := 24, nameIndex := 90, descriptorIndex := 26, attributes := #[] }, { accessFlags := 2, nameIndex := 11, descriptorIndex := 12, attributes := #[] }, { accessFlags := 2, nameIndex := 15, descriptorIndex := 12, attributes := #[] }, { accessFlags := 2, nameIndex := 25, descriptorIndex := 26, attributes := #[] }, { accessFlags := 18, nameIndex := 21, descriptorIndex := 22, attributes := #[] }])
  fields := #[{ name := "LONGEST_BITS", type := .int, accessFlags := 24, slot := 0, constantValue := 0 }, { name := "contexts", type := (.array .int), accessFlags := 2, slot := 0, constantValue := 0 }, { name := "values", type := (.array .int), accessFlags := 2, slot := 1, constantValue := 0 }, { name := "count", type := .int, accessFlags := 2, slot := 2, constantValue := 0 }, { name := "coded", type := (.object "java/io/ByteArrayOutputStream"), accessFlags := 18, slot := 3, constantValue := 0 }]
  methods := #[k2m0, k2m1, k2m2, k2m3]
  instanceTypes := #[(.array .int), (.array .int), .int, (.object "java/io/ByteArrayOutputStream")]
  staticTypes := #[.int]
  resolved := Array.replicate 125 none
  statics := none }

def pool3 : Array CpInfo := pool [(1, .class_ 2), (0, u "java/lang/AutoCloseable"), (0, .class_ 4), (0, u "java/lang/Object")] 7

/-- java/lang/AutoCloseable -/
def k3 : Class := { plain "java/lang/AutoCloseable" (some 0) with
  accessFlags := 1537
  interfaces := #[]
  cf := some (fileOf pool3 1 #[] #[] 1537 3 #[] #[])
  fields := #[]
  methods := #[]
  instanceTypes := #[]
  staticTypes := #[]
  resolved := Array.replicate 12 none
  statics := none }

def pool4 : Array CpInfo := pool [(1, .class_ 2), (0, u "java/io/Closeable"), (0, .class_ 4), (0, u "java/lang/Object"), (0, .class_ 6), (0, u "java/lang/AutoCloseable")] 7

/-- java/io/Closeable -/
def k4 : Class := { plain "java/io/Closeable" (some 0) with
  accessFlags := 1537
  interfaces := #[3]
  cf := some (fileOf pool4 1 #[] #[] 1537 3 #[5] #[])
  fields := #[]
  methods := #[]
  instanceTypes := #[]
  staticTypes := #[]
  resolved := Array.replicate 14 none
  statics := none }

def pool5 : Array CpInfo := pool [(1, .class_ 2), (0, u "java/io/Flushable"), (0, .class_ 4), (0, u "java/lang/Object")] 7

/-- java/io/Flushable -/
def k5 : Class := { plain "java/io/Flushable" (some 0) with
  accessFlags := 1537
  interfaces := #[]
  cf := some (fileOf pool5 1 #[] #[] 1537 3 #[] #[])
  fields := #[]
  methods := #[]
  instanceTypes := #[]
  staticTypes := #[]
  resolved := Array.replicate 12 none
  statics := none }

def pool6 : Array CpInfo := pool [(1, .methodref 2 3), (0, .class_ 4), (0, .nameAndType 5 6), (0, u "java/lang/Object"), (0, u "<init>"), (0, u "()V"), (0, .class_ 8), (0, u "java/io/OutputStream$1"), (2, .class_ 13), (1, u "java/io/OutputStream"), (11, .class_ 26), (0, u "java/io/Closeable"), (0, .class_ 28), (0, u "java/io/Flushable")] 24

def k6c0 : Code := { maxStack := 1, maxLocals := 1, code := jdk_2038_method_1_code, exceptionTable := #[], attributes := #[] }
def k6m0 : Method := { name := "<init>", desc := "()V", sig := { parameters := [], returnType := none }, accessFlags := 1, code := some k6c0 }
/-- java/io/OutputStream -/
def k6 : Class := { plain "java/io/OutputStream" (some 0) with
  accessFlags := 1057
  interfaces := #[4, 5]
  cf := some (fileOf pool6 11 #[.nestMembers #[7]] #[{ accessFlags := 1, nameIndex := 5, descriptorIndex := 6, attributes := #[] }] 1057 2 #[25, 27] #[])
  fields := #[]
  methods := #[k6m0]
  instanceTypes := #[]
  staticTypes := #[]
  resolved := Array.replicate 53 none
  statics := none }

def pool7 : Array CpInfo := pool [(1, .methodref 2 3), (0, .class_ 4), (0, .nameAndType 5 6), (0, u "java/io/ByteArrayOutputStream"), (0, u "<init>"), (0, u "(I)V"), (0, .methodref 8 9), (0, .class_ 10), (0, .nameAndType 5 11), (0, u "java/io/OutputStream"), (0, u "()V"), (21, .fieldref 2 34), (0, .nameAndType 35 36), (0, u "buf"), (0, u "[B"), (14, u "count"), (0, u "I")] 92

def k7c0 : Code := { maxStack := 2, maxLocals := 1, code := jdk_2005_method_1_code, exceptionTable := #[], attributes := #[] }
def k7m0 : Method := { name := "<init>", desc := "()V", sig := { parameters := [], returnType := none }, accessFlags := 1, code := some k7c0 }
def k7c1 : Code := { maxStack := 4, maxLocals := 2, code := jdk_2005_method_2_code, exceptionTable := #[], attributes := #[] }
def k7m1 : Method := { name := "<init>", desc := "(I)V", sig := { parameters := [.int], returnType := none }, accessFlags := 1, code := some k7c1 }
/-- java/io/ByteArrayOutputStream -/
def k7 : Class := { plain "java/io/ByteArrayOutputStream" (some 6) with
  accessFlags := 33
  interfaces := #[]
  cf := some (fileOf pool7 2 #[] #[{ accessFlags := 1, nameIndex := 5, descriptorIndex := 11, attributes := #[] }, { accessFlags := 1, nameIndex := 5, descriptorIndex := 6, attributes := #[] }] 33 8 #[] #[{ accessFlags := 4, nameIndex := 35, descriptorIndex := 36, attributes := #[] }, { accessFlags := 4, nameIndex := 51, descriptorIndex := 52, attributes := #[] }])
  fields := #[{ name := "buf", type := (.array .byte), accessFlags := 4, slot := 0, constantValue := 0 }, { name := "count", type := .int, accessFlags := 4, slot := 1, constantValue := 0 }]
  methods := #[k7m0, k7m1]
  instanceTypes := #[(.array .byte), .int]
  staticTypes := #[]
  resolved := Array.replicate 145 none
  statics := none }

def pool8 : Array CpInfo := pool [(1, u "java/lang/Cloneable"), (0, .class_ 1), (0, u "java/lang/Object"), (0, .class_ 3)] 3

/-- java/lang/Cloneable -/
def k8 : Class := { plain "java/lang/Cloneable" (some 0) with
  accessFlags := 1537
  interfaces := #[]
  cf := some (fileOf pool8 2 #[] #[] 1537 4 #[] #[])
  fields := #[]
  methods := #[]
  instanceTypes := #[]
  staticTypes := #[]
  resolved := Array.replicate 8 none
  statics := none }

def pool9 : Array CpInfo := pool [(1, u "java/io/Serializable"), (0, .class_ 1), (0, u "java/lang/Object"), (0, .class_ 3)] 3

/-- java/io/Serializable -/
def k9 : Class := { plain "java/io/Serializable" (some 0) with
  accessFlags := 1537
  interfaces := #[]
  cf := some (fileOf pool9 2 #[] #[] 1537 4 #[] #[])
  fields := #[]
  methods := #[]
  instanceTypes := #[]
  staticTypes := #[]
  resolved := Array.replicate 8 none
  statics := none }

/-- the primitive byte -/
def k10 : Class := { plain "byte" none with kind := .primitive 'B', accessFlags := 0x411 }
/-- [B -/
def k11 : Class := { plain "[B" (some 0) with kind := .array 10 .byte, interfaces := #[8, 9], accessFlags := 1041 }

/-- the primitive int -/
def k12 : Class := { plain "int" none with kind := .primitive 'I', accessFlags := 0x411 }
/-- [I -/
def k13 : Class := { plain "[I" (some 0) with kind := .array 12 .int, interfaces := #[8, 9], accessFlags := 1041 }

/-- the primitive long -/
def k14 : Class := { plain "long" none with kind := .primitive 'J', accessFlags := 0x411 }
/-- [J -/
def k15 : Class := { plain "[J" (some 0) with kind := .array 14 .long, interfaces := #[8, 9], accessFlags := 1041 }

def heap : Heap := #[]
def classes : Array Class := #[k0, k1, k2, k3, k4, k5, k6, k7, k8, k9, k10, k11, k12, k13, k14, k15]
def interned : List (Array UInt16 × Addr) := []
def slotsUsed : Nat := 0
def theMethod : MethodId := ⟨1, 1⟩
def args0 : Array Value := #[.int 5, .int 6, .int 7, .int 8, .int 9, .long 10]
def aboutOver (below : List Frame) : State where
  vm := { classes := classes, interned := interned.toArray }
  heap := heap
  slotsUsed := slotsUsed
  threads := #[{ frames := .invoking theMethod args0 :: below }]
def below0 : List Frame := [.native { method := ⟨0, 0⟩, args := #[] }]
def about1 : State := aboutOver below0
def p0 : Program := .bare "" "" ""
def e0 : Env := launch0.env 0 0 0
theorem w_frames : about1.frames = Frame.invoking theMethod args0 :: below0 := rfl
set_option maxRecDepth 65536 in
theorem w_args : argsFit about1.vm theMethod args0 = true := by decide +kernel
set_option maxRecDepth 65536 in
theorem w_heap : heapFits about1 = true := by decide +kernel
set_option maxRecDepth 65536 in
theorem w_runnable : about1.curStatus? = some .runnable := by decide +kernel
set_option maxRecDepth 65536 in
theorem w_alone : about1.alone = true := by decide +kernel
set_option maxRecDepth 65536 in
theorem w_named : about1.methodNamed? x = some theMethod := by decide +kernel
set_option maxRecDepth 65536 in
theorem w_hears : about1.hears theMethod below0 = true := by decide +kernel
set_option maxRecDepth 65536 in
theorem w_ripe : about1.ripe theMethod args0 below0 = true := by decide +kernel
theorem w_running : about1.status = .running := rfl
set_option maxRecDepth 65536 in
theorem w_room : about1.hasRoom e0.platform room_1 = true :=
  launch0.hasRoom_least _ room_1 (by decide +kernel) (by decide +kernel) (by decide +kernel) (by decide +kernel) (by decide +kernel) (by decide +kernel)
theorem allAtoms_all (ts : List Jvm.Cond) (a : Array Jvm.Value) (st : Jvm.State) : (allAtoms ts).before a st = ts.all (fun c => c.before a st) := by
  induction ts with
  | nil => rfl
  | cons c t ih =>
    show (Jvm.Cond.and c (allAtoms t)).before a st = _
    rw [Jvm.Cond.before_and, ih, List.all_cons]
def words1 : List Jvm.Cond := Jvm.Cond.code x code maxLocals ret :: tables_1
/-- a 'code' word, met by the world's own term for the bytes: nothing is compared byte by byte -/
theorem code_word {y : MethodName} {bytes : ByteArray} {mx : Nat} {rt : Option FieldType} {a : Array Value} {s : State} {m : MethodId} {meth : Method} {c : Code} (h1 : s.methodNamed? y = some m) (h2 : s.vm.method? m = some meth) (h3 : meth.code = some c) (h4 : c.code = bytes)
    (h5 : (c.maxLocals == mx && c.exceptionTable.isEmpty && decide (c.maxStack ≤ mostOperands) && decide (meth.sig.returnType = rt) && !meth.locks && decide (parseMethodDescriptor y.desc = some meth.sig)) = true) : (Jvm.Cond.code y bytes mx rt).before a s = true := by
  simp only [Bool.and_eq_true, beq_iff_eq, Bool.not_eq_true', decide_eq_true_eq] at h5
  obtain ⟨⟨⟨⟨⟨g1, g2⟩, g3⟩, g4⟩, g5⟩, g6⟩ := h5
  simp [Cond.before, Cond.holds, Cond.value, h1, h2, h3, h4, g1, g2, g3, g4, g5, g6]
def isCode : Jvm.Cond → Bool
  | .code _ _ _ _ => true
  | _ => false
theorem all_split {L : List Jvm.Cond} {P : Jvm.Cond → Bool} (h1 : L.all (fun c => isCode c || P c) = true) (h2 : ∀ c ∈ L.filter isCode, P c = true) : L.all P = true := by
  refine List.all_eq_true.mpr fun c hc => ?_
  have h := List.all_eq_true.mp h1 c hc
  rcases Bool.eq_false_or_eq_true (isCode c) with hi | hi
  · exact h2 c (List.mem_filter.mpr ⟨hc, hi⟩)
  · simpa [hi] using h
set_option maxRecDepth 65536 in
theorem w_c0 : (Jvm.Cond.code x code maxLocals ret).before args0 about1 = true := code_word (m := ⟨1, 1⟩) (meth := k1m1) (c := k1c1) (by decide +kernel) rfl rfl rfl (by decide +kernel)
set_option maxRecDepth 65536 in
theorem w_c1 : (Jvm.Cond.code ({ cls := "com/example/terse_graph/tersegraph/PrefixWriter", name := "<init>", desc := "()V" } : Jvm.MethodName) prog_127_method_1_code (1 : Nat) (Option.none : Option Jvm.ClassFile.FieldType)).before args0 about1 = true := code_word (m := ⟨2, 0⟩) (meth := k2m0) (c := k2c0) (by decide +kernel) rfl rfl rfl (by decide +kernel)
set_option maxRecDepth 65536 in
theorem w_c2 : (Jvm.Cond.code ({ cls := "java/lang/Object", name := "<init>", desc := "()V" } : Jvm.MethodName) object_method_1_code (1 : Nat) (Option.none : Option Jvm.ClassFile.FieldType)).before args0 about1 = true := code_word (m := ⟨0, 0⟩) (meth := k0m0) (c := k0c0) (by decide +kernel) rfl rfl rfl (by decide +kernel)
set_option maxRecDepth 65536 in
theorem w_c3 : (Jvm.Cond.code ({ cls := "java/io/ByteArrayOutputStream", name := "<init>", desc := "()V" } : Jvm.MethodName) jdk_2005_method_1_code (1 : Nat) (Option.none : Option Jvm.ClassFile.FieldType)).before args0 about1 = true := code_word (m := ⟨7, 0⟩) (meth := k7m0) (c := k7c0) (by decide +kernel) rfl rfl rfl (by decide +kernel)
set_option maxRecDepth 65536 in
theorem w_c4 : (Jvm.Cond.code ({ cls := "java/io/ByteArrayOutputStream", name := "<init>", desc := "(I)V" } : Jvm.MethodName) jdk_2005_method_2_code (2 : Nat) (Option.none : Option Jvm.ClassFile.FieldType)).before args0 about1 = true := code_word (m := ⟨7, 1⟩) (meth := k7m1) (c := k7c1) (by decide +kernel) rfl rfl rfl (by decide +kernel)
set_option maxRecDepth 65536 in
theorem w_c5 : (Jvm.Cond.code ({ cls := "java/io/OutputStream", name := "<init>", desc := "()V" } : Jvm.MethodName) jdk_2038_method_1_code (1 : Nat) (Option.none : Option Jvm.ClassFile.FieldType)).before args0 about1 = true := code_word (m := ⟨6, 0⟩) (meth := k6m0) (c := k6c0) (by decide +kernel) rfl rfl rfl (by decide +kernel)
set_option maxRecDepth 65536 in
theorem w_c6 : (Jvm.Cond.code ({ cls := "com/example/terse_graph/tersegraph/PrefixWriterCountIntoPinLaw", name := "put", desc := "(Lcom/example/terse_graph/tersegraph/PrefixWriter;I[I)V" } : Jvm.MethodName) method_6_code (3 : Nat) (Option.none : Option Jvm.ClassFile.FieldType)).before args0 about1 = true := code_word (m := ⟨1, 5⟩) (meth := k1m5) (c := k1c5) (by decide +kernel) rfl rfl rfl (by decide +kernel)
set_option maxRecDepth 65536 in
theorem w_c7 : (Jvm.Cond.code ({ cls := "com/example/terse_graph/tersegraph/PrefixWriterCountIntoPinLaw", name := "ctx", desc := "(I)I" } : Jvm.MethodName) method_3_code (1 : Nat) (Option.some Jvm.ClassFile.FieldType.int)).before args0 about1 = true := code_word (m := ⟨1, 2⟩) (meth := k1m2) (c := k1c2) (by decide +kernel) rfl rfl rfl (by decide +kernel)
set_option maxRecDepth 65536 in
theorem w_c8 : (Jvm.Cond.code ({ cls := "com/example/terse_graph/tersegraph/PrefixWriterCountIntoPinLaw", name := "sym", desc := "(I[I)I" } : Jvm.MethodName) method_4_code (2 : Nat) (Option.some Jvm.ClassFile.FieldType.int)).before args0 about1 = true := code_word (m := ⟨1, 3⟩) (meth := k1m3) (c := k1c3) (by decide +kernel) rfl rfl rfl (by decide +kernel)
set_option maxRecDepth 65536 in
theorem w_c9 : (Jvm.Cond.code ({ cls := "com/example/terse_graph/tersegraph/PrefixWriter", name := "add", desc := "(II)V" } : Jvm.MethodName) prog_127_method_3_code (3 : Nat) (Option.none : Option Jvm.ClassFile.FieldType)).before args0 about1 = true := code_word (m := ⟨2, 1⟩) (meth := k2m1) (c := k2c1) (by decide +kernel) rfl rfl rfl (by decide +kernel)
set_option maxRecDepth 65536 in
theorem w_c10 : (Jvm.Cond.code ({ cls := "com/example/terse_graph/tersegraph/PrefixWriter", name := "addBits", desc := "(JI)V" } : Jvm.MethodName) prog_127_method_4_code (4 : Nat) (Option.none : Option Jvm.ClassFile.FieldType)).before args0 about1 = true := code_word (m := ⟨2, 2⟩) (meth := k2m2) (c := k2c2) (by decide +kernel) rfl rfl rfl (by decide +kernel)
set_option maxRecDepth 65536 in
theorem w_c11 : (Jvm.Cond.code ({ cls := "com/example/terse_graph/tersegraph/PrefixWriter", name := "countInto", desc := "([J[I)V" } : Jvm.MethodName) prog_127_method_5_code (5 : Nat) (Option.none : Option Jvm.ClassFile.FieldType)).before args0 about1 = true := code_word (m := ⟨2, 3⟩) (meth := k2m3) (c := k2c3) (by decide +kernel) rfl rfl rfl (by decide +kernel)
set_option maxRecDepth 65536 in
theorem w_c12 : (Jvm.Cond.code ({ cls := "com/example/terse_graph/tersegraph/PrefixWriterCountIntoPinLaw", name := "cell", desc := "([JIJ[I[I)Z" } : Jvm.MethodName) method_8_code (8 : Nat) (Option.some Jvm.ClassFile.FieldType.boolean)).before args0 about1 = true := code_word (m := ⟨1, 7⟩) (meth := k1m7) (c := k1c7) (by decide +kernel) rfl rfl rfl (by decide +kernel)
set_option maxRecDepth 65536 in
theorem w_c13 : (Jvm.Cond.code ({ cls := "com/example/terse_graph/tersegraph/PrefixWriterCountIntoPinLaw", name := "hit", desc := "(II[I)J" } : Jvm.MethodName) method_7_code (3 : Nat) (Option.some Jvm.ClassFile.FieldType.long)).before args0 about1 = true := code_word (m := ⟨1, 6⟩) (meth := k1m6) (c := k1c6) (by decide +kernel) rfl rfl rfl (by decide +kernel)
set_option maxRecDepth 65536 in
theorem w_c14 : (Jvm.Cond.code ({ cls := "com/example/terse_graph/tersegraph/PrefixWriterCountIntoPinLaw", name := "offset", desc := "(I[I)I" } : Jvm.MethodName) method_5_code (2 : Nat) (Option.some Jvm.ClassFile.FieldType.int)).before args0 about1 = true := code_word (m := ⟨1, 4⟩) (meth := k1m4) (c := k1c4) (by decide +kernel) rfl rfl rfl (by decide +kernel)
def codes1 : List Jvm.Cond := [Jvm.Cond.code x code maxLocals ret, Jvm.Cond.code ({ cls := "com/example/terse_graph/tersegraph/PrefixWriter", name := "<init>", desc := "()V" } : Jvm.MethodName) prog_127_method_1_code (1 : Nat) (Option.none : Option Jvm.ClassFile.FieldType), Jvm.Cond.code ({ cls := "java/lang/Object", name := "<init>", desc := "()V" } : Jvm.MethodName) object_method_1_code (1 : Nat) (Option.none : Option Jvm.ClassFile.FieldType), Jvm.Cond.code ({ cls := "java/io/ByteArrayOutputStream", name := "<init>", desc := "()V" } : Jvm.MethodName) jdk_2005_method_1_code (1 : Nat) (Option.none : Option Jvm.ClassFile.FieldType), Jvm.Cond.code ({ cls := "java/io/ByteArrayOutputStream", name := "<init>", desc := "(I)V" } : Jvm.MethodName) jdk_2005_method_2_code (2 : Nat) (Option.none : Option Jvm.ClassFile.FieldType), Jvm.Cond.code ({ cls := "java/io/OutputStream", name := "<init>", desc := "()V" } : Jvm.MethodName) jdk_2038_method_1_code (1 : Nat) (Option.none : Option Jvm.ClassFile.FieldType), Jvm.Cond.code ({ cls := "com/example/terse_graph/tersegraph/PrefixWriterCountIntoPinLaw", name := "put", desc := "(Lcom/example/terse_graph/tersegraph/PrefixWriter;I[I)V" } : Jvm.MethodName) method_6_code (3 : Nat) (Option.none : Option Jvm.ClassFile.FieldType), Jvm.Cond.code ({ cls := "com/example/terse_graph/tersegraph/PrefixWriterCountIntoPinLaw", name := "ctx", desc := "(I)I" } : Jvm.MethodName) method_3_code (1 : Nat) (Option.some Jvm.ClassFile.FieldType.int), Jvm.Cond.code ({ cls := "com/example/terse_graph/tersegraph/PrefixWriterCountIntoPinLaw", name := "sym", desc := "(I[I)I" } : Jvm.MethodName) method_4_code (2 : Nat) (Option.some Jvm.ClassFile.FieldType.int), Jvm.Cond.code ({ cls := "com/example/terse_graph/tersegraph/PrefixWriter", name := "add", desc := "(II)V" } : Jvm.MethodName) prog_127_method_3_code (3 : Nat) (Option.none : Option Jvm.ClassFile.FieldType), Jvm.Cond.code ({ cls := "com/example/terse_graph/tersegraph/PrefixWriter", name := "addBits", desc := "(JI)V" } : Jvm.MethodName) prog_127_method_4_code (4 : Nat) (Option.none : Option Jvm.ClassFile.FieldType), Jvm.Cond.code ({ cls := "com/example/terse_graph/tersegraph/PrefixWriter", name := "countInto", desc := "([J[I)V" } : Jvm.MethodName) prog_127_method_5_code (5 : Nat) (Option.none : Option Jvm.ClassFile.FieldType), Jvm.Cond.code ({ cls := "com/example/terse_graph/tersegraph/PrefixWriterCountIntoPinLaw", name := "cell", desc := "([JIJ[I[I)Z" } : Jvm.MethodName) method_8_code (8 : Nat) (Option.some Jvm.ClassFile.FieldType.boolean), Jvm.Cond.code ({ cls := "com/example/terse_graph/tersegraph/PrefixWriterCountIntoPinLaw", name := "hit", desc := "(II[I)J" } : Jvm.MethodName) method_7_code (3 : Nat) (Option.some Jvm.ClassFile.FieldType.long), Jvm.Cond.code ({ cls := "com/example/terse_graph/tersegraph/PrefixWriterCountIntoPinLaw", name := "offset", desc := "(I[I)I" } : Jvm.MethodName) method_5_code (2 : Nat) (Option.some Jvm.ClassFile.FieldType.int)]
set_option maxRecDepth 65536 in
theorem codes_eq : words1.filter isCode = codes1 := rfl
theorem w_codes : ∀ c ∈ words1.filter isCode, c.before args0 about1 = true := by
  rw [codes_eq]
  intro c hc
  simp only [codes1, List.mem_cons, List.not_mem_nil, or_false] at hc
  rcases hc with rfl | rfl | rfl | rfl | rfl | rfl | rfl | rfl | rfl | rfl | rfl | rfl | rfl | rfl | rfl
  · exact w_c0
  · exact w_c1
  · exact w_c2
  · exact w_c3
  · exact w_c4
  · exact w_c5
  · exact w_c6
  · exact w_c7
  · exact w_c8
  · exact w_c9
  · exact w_c10
  · exact w_c11
  · exact w_c12
  · exact w_c13
  · exact w_c14
set_option maxRecDepth 65536 in
theorem w_t1 : (words1.take 24).all (fun c => isCode c || c.before args0 about1) = true := by decide +kernel
set_option maxRecDepth 65536 in
theorem w_t2 : ((words1.drop 24).take 24).all (fun c => isCode c || c.before args0 about1) = true := by decide +kernel
set_option maxRecDepth 65536 in
theorem w_t3 : (((words1.drop 24).drop 24).take 24).all (fun c => isCode c || c.before args0 about1) = true := by decide +kernel
set_option maxRecDepth 65536 in
theorem w_t4 : (((words1.drop 24).drop 24).drop 24).all (fun c => isCode c || c.before args0 about1) = true := by decide +kernel
theorem w_tables : (allAtoms (Jvm.Cond.code x code maxLocals ret :: tables_1)).before args0 about1 = true := by
  rw [allAtoms_all]
  show words1.all (fun c => c.before args0 about1) = true
  refine all_split ?_ w_codes
  rw [← List.take_append_drop 24 words1, List.all_append, w_t1, ← List.take_append_drop 24 (words1.drop 24), List.all_append, w_t2, ← List.take_append_drop 24 ((words1.drop 24).drop 24), List.all_append, w_t3, w_t4]
  rfl
set_option maxRecDepth 65536 in
theorem w_case : (Jvm.Cond.and given_1 narrow_1).before args0 about1 = true := by decide +kernel
theorem w_applies : (headSpec (Jvm.Cond.code x code maxLocals ret :: tables_1) room_1).applies x e0.platform about1 = true :=
  (Spec.applies_iff w_frames).mpr ⟨w_running, w_runnable, w_alone, w_named, w_hears, w_ripe, w_room, w_tables⟩
theorem atStart : AtStart classFile x code maxLocals ret World_1 tables_1 room_1 Calls_1 rest_1 Pre_1 launch0 p0 e0 about1 theMethod args0 below0 :=
  ⟨lists_1, trivial, launch0.admits_env _ _ _, launch0.least_env, fairChoices_fair.cas, fairChoices_fair.clock, w_frames, w_args, w_heap, w_applies, trivial, trivial, w_case⟩
end start1
theorem witness_1 : WitnessClaimed_1 := ⟨start1.p0, start1.e0, start1.about1, start1.theMethod, start1.args0, start1.below0, start1.atStart⟩
end Jvm.Pilot.@@N@@
