import JvmDerived
import JvmDerived.Pilot.@@N@@Statement
import JvmDerived.Pilot.@@N@@Code
set_option linter.unusedVariables false
set_option linter.unusedSimpArgs false
namespace Jvm.Pilot.@@N@@
open Jvm Jvm.ClassFile Sem Op Lib Jvm.Free Jvm.Stand Jvm.LawKit Jvm.RoadKit Bundle Jvm.Free.Fl Jvm.Pilot.@@N@@.Jvm.D
theorem own_go {tb : Tables} {e : Env} {below : List Frame} {A B : State} {F : State → Outcome → Prop} (h : ∀ t, Steps tb e below A t → Steps tb e below B t) (k : ∃ s₂ o, Steps tb e below A s₂ ∧ F s₂ o) : ∃ s₂ o, Steps tb e below B s₂ ∧ F s₂ o := by
  obtain ⟨s₂, o, h1, h2⟩ := k
  exact ⟨s₂, o, h _ h1, h2⟩
theorem own_open {tb : Tables} {e : Env} {below : List Frame} {B : State} {F : State → Outcome → Prop} (h : ∀ G : State → Prop, (∀ A B, (∀ t, Steps tb e below A t → Steps tb e below B t) → G A → G B) → (∀ A, (∃ s₂ o, Steps tb e below A s₂ ∧ F s₂ o) → G A) → G B) : ∃ s₂ o, Steps tb e below B s₂ ∧ F s₂ o :=
  h (fun A => ∃ s₂ o, Steps tb e below A s₂ ∧ F s₂ o) (fun _ _ => own_go) (fun _ k => k)
/-! ### an array by its length and the value at each place -/
def own_A (Z : State) (h : Heap) (a : Addr) (ty : FieldType) (n : Nat) (f : Nat → Value) : Prop := ∃ cl : Cell, Arr Z h a cl ty ∧ cl.slots.size = n ∧ ∀ j, j < n → cl.slots[j]? = some (f j)
theorem own_A_lt {Z : State} {h : Heap} {a : Addr} {ty : FieldType} {n : Nat} {f : Nat → Value} (F : own_A Z h a ty n f) : a < h.size := by obtain ⟨_, A, -⟩ := F; exact A.lt
theorem own_A_ext {Z : State} {h h' : Heap} {a : Addr} {ty : FieldType} {n : Nat} {f : Nat → Value} (F : own_A Z h a ty n f) (E : Ext h h') : own_A Z h' a ty n f := by obtain ⟨c, A, r⟩ := F; exact ⟨c, A.ext E, r⟩
theorem own_A_other {Z : State} {h h' : Heap} {a b : Addr} {sl : Nat} {v : Value} {ty : FieldType} {n : Nat} {f : Nat → Value} (F : own_A Z h b ty n f) (W : Wr h h' a sl v) (q : b ≠ a) : own_A Z h' b ty n f := by obtain ⟨c, A, r⟩ := F; exact ⟨c, A.other W q, r⟩
theorem own_A_keep {Z : State} {h h' : Heap} {a : Addr} {ws : List Addr} {ty : FieldType} {n : Nat} {f : Nat → Value} (F : own_A Z h a ty n f) (K : Keep h h' ws) (q : a ∉ ws) : own_A Z h' a ty n f := by obtain ⟨c, A, r⟩ := F; exact ⟨c, ⟨K.2.1 a c A.1 q, A.2⟩, r⟩
theorem own_A_new {Z : State} {h : Heap} {a : Addr} {k : ClassId} {ty : FieldType} {z : Int32} {n : Nat} (A : Arr Z h a (newA k ty z) ty) (hz : z.toNatClampNeg = n) : own_A Z h a ty n (fun _ => defaultValue ty) :=
  ⟨_, A, (sz_new _ _ _).trans hz, fun j hj => by
    subst hz
    simp [newA, hj]⟩
theorem own_A_congr {Z : State} {h : Heap} {a : Addr} {ty : FieldType} {n : Nat} {f g : Nat → Value} (F : own_A Z h a ty n f) (q : ∀ j, j < n → f j = g j) : own_A Z h a ty n g := by
  obtain ⟨c, A, S, H⟩ := F
  exact ⟨c, A, S, fun j hj => by rw [← q j hj]; exact H j hj⟩
theorem own_A_set {Z : State} {h h' : Heap} {a : Addr} {cl : Cell} {ty : FieldType} {n : Nat} {f : Nat → Value} {i : Nat} {v : Value} (A : Arr Z h a cl ty) (S : cl.slots.size = n) (H : ∀ j, j < n → cl.slots[j]? = some (f j)) (W : Wr h h' a i v) (hi : i < n) : own_A Z h' a ty n (fun j => if j = i then v else f j) := by
  refine ⟨_, A.same W, (sz_set _ _ _).trans S, fun j hj => ?_⟩
  show (cl.slots.setIfInBounds i v)[j]? = some (if j = i then v else f j)
  by_cases q : j = i
  · subst q
    rw [if_pos rfl, Array.getElem?_setIfInBounds_self_of_lt (by omega)]
  · rw [if_neg q, Array.getElem?_setIfInBounds_ne (Ne.symm q)]
    exact H j hj
theorem own_hin {cl : Cell} {n : Nat} {j : Int32} (S : cl.slots.size = n) (h0 : ¬ j < 0) (h1 : j.toNatClampNeg < n) : ¬ (j < 0 ∨ cl.slots.size ≤ j.toNatClampNeg) := fun q => q.elim h0 (fun r => by omega)
theorem own_cps {G A : Prop} (h1 : A → G) (h2 : A) : G := h1 h2
theorem own_setf {α : Type} (c : α → Value) (g : Nat → α) (z : α) (i n : Nat) : ∀ j, j < n → (if j = i then c (g i) else c (if j < i then g j else z)) = c (if j < i + 1 then g j else z) := by
  intro j _
  by_cases h : j = i
  · subst h
    rw [if_pos rfl, if_pos (by omega)]
  · rw [if_neg h]
    by_cases h2 : j < i
    · rw [if_pos h2, if_pos (by omega)]
    · rw [if_neg h2, if_neg (by omega)]
theorem own_full {α : Type} (c : α → Value) (g : Nat → α) (z : α) (n : Nat) : ∀ j, j < n → c (if j < n then g j else z) = c (g j) := fun j hj => by rw [if_pos hj]
theorem own_zero {α : Type} (c : α → Value) (g : Nat → α) (z : α) (n : Nat) : ∀ j, j < n → c z = c (if j < 0 then g j else z) := fun j _ => by rw [if_neg (Nat.not_lt_zero j)]
/-- the j-th bit of p, as the law reads it -/
def own_bit (p : Int32) : Nat → Int32
  | 0 => if (p &&& (1 : Int32)) = (0 : Int32) then 0 else 1
  | 1 => if (p &&& (2 : Int32)) = (0 : Int32) then 0 else 1
  | 2 => if (p &&& (4 : Int32)) = (0 : Int32) then 0 else 1
  | 3 => if (p &&& (8 : Int32)) = (0 : Int32) then 0 else 1
  | 4 => if (p &&& (16 : Int32)) = (0 : Int32) then 0 else 1
  | 5 => if (p &&& (32 : Int32)) = (0 : Int32) then 0 else 1
  | _ => 0
theorem own_bit01 (p : Int32) (j : Nat) : own_bit p j = 0 ∨ own_bit p j = 1 := by
  unfold own_bit
  split <;> first | (split <;> simp) | simp
theorem own_nar (p : Int32) (j : Nat) : nar .boolean (own_bit p j) = own_bit p j := by
  rcases own_bit01 p j with h | h <;> rw [h] <;> rfl
theorem own_setbit (p : Int32) (i n : Nat) : ∀ j, j < n → (if j = i then Value.int (nar .boolean (own_bit p i)) else Value.int (if j < i then own_bit p j else 0)) = Value.int (if j < i + 1 then own_bit p j else 0) := by
  intro j _
  by_cases h : j = i
  · subst h
    rw [if_pos rfl, own_nar, if_pos (by omega)]
  · rw [if_neg h]
    by_cases h2 : j < i
    · rw [if_pos h2, if_pos (by omega)]
    · rw [if_neg h2, if_neg (by omega)]
/-! ### doubles as whole numbers of least units (2^-1074), and how the operations round them -/
abbrev own_z (a : UInt64) : Int := FP.Core.zval FP.Core.b64 (FP.Core.val64 a)
def own_M : Nat := 2 ^ 1074
theorem own_M_pos : 0 < own_M := Nat.two_pow_pos _
theorem own_qmin : (-FP.Core.b64.qmin).toNat = 1074 := by decide
theorem own_zcmp {a b : UInt64} (ha : NoNaN64 a) (hb : NoNaN64 b) : FP.dcmp a b = some (compare (own_z a) (own_z b)) := FP.Core.dcmp_zval (val64_no.mp ha) (val64_no.mp hb)
theorem own_zint {i : Int} {a : UInt64} (h : FP.Core.DInt i a) : own_z a = i * (own_M : Int) := by
  have q := FP.Core.whole_zval FP.Core.good_b64 (FP.Core.val64_fits a) h
  rw [own_qmin] at q
  exact q
theorem own_fin {a : UInt64} (h : Fin64 a) : ∃ s c q, FP.Core.val64 a = .fin s c q ∧ FP.Core.fits FP.Core.b64 (.fin s c q) := by
  obtain ⟨s, c, q, e⟩ := fin64_core.mp h
  have f := FP.Core.val64_fits a
  rw [e] at f
  exact ⟨s, c, q, e, f⟩
theorem own_sum_le {a b V : UInt64} (ha : Fin64 a) (hb : Fin64 b) (hV : NoNaN64 V) (h : own_z a + own_z b ≤ own_z V) : own_z (FP.dadd a b) ≤ own_z V := by
  obtain ⟨s, c, q, e1, f1⟩ := own_fin ha
  obtain ⟨t, d, r, e2, f2⟩ := own_fin hb
  obtain ⟨sg, n, e, hs, he, hu⟩ := FP.Core.sum_units f1 f2
  show FP.Core.zval _ (FP.Core.val64 (FP.Core.dadd a b)) ≤ _
  simp only [own_z, e1, e2] at h
  rw [FP.Core.val64_dadd, e1, e2, hs]
  refine FP.Core.zval_round_le FP.Core.good_b64 (FP.Core.val64_fits V) (val64_no.mp hV) (Int.le_refl _) he ?_
  rw [hu, Int.sub_self]
  simpa using h
theorem own_sum_ge {a b V : UInt64} (ha : Fin64 a) (hb : Fin64 b) (hV : NoNaN64 V) (h : own_z V ≤ own_z a + own_z b) : own_z V ≤ own_z (FP.dadd a b) := by
  obtain ⟨s, c, q, e1, f1⟩ := own_fin ha
  obtain ⟨t, d, r, e2, f2⟩ := own_fin hb
  obtain ⟨sg, n, e, hs, he, hu⟩ := FP.Core.sum_units f1 f2
  show _ ≤ FP.Core.zval _ (FP.Core.val64 (FP.Core.dadd a b))
  simp only [own_z, e1, e2] at h
  rw [FP.Core.val64_dadd, e1, e2, hs]
  refine FP.Core.zval_round_ge FP.Core.good_b64 (FP.Core.val64_fits V) (val64_no.mp hV) (Int.le_refl _) he ?_
  rw [hu, Int.sub_self]
  simpa using h
theorem own_signed (s t : Bool) (x y : Nat) : FP.Core.signed (s != t) (x * y) = FP.Core.signed s x * FP.Core.signed t y := by
  cases s <;> cases t <;> simp [FP.Core.signed, Int.mul_neg, Int.neg_mul]
theorem own_2qmin : (FP.Core.b64.qmin - 2 * FP.Core.b64.qmin).toNat = 1074 := by decide
theorem own_mul_le {a b V : UInt64} (ha : Fin64 a) (hb : Fin64 b) (hV : NoNaN64 V) (h : own_z a * own_z b ≤ own_z V * (own_M : Int)) : own_z (FP.dmul a b) ≤ own_z V := by
  obtain ⟨s, c, q, e1, f1⟩ := own_fin ha
  obtain ⟨t, d, r, e2, f2⟩ := own_fin hb
  obtain ⟨hp, he, hu⟩ := FP.Core.product_units f1 f2
  show FP.Core.zval _ (FP.Core.val64 (FP.Core.dmul a b)) ≤ _
  simp only [own_z, e1, e2] at h
  rw [FP.Core.val64_dmul, e1, e2, hp]
  refine FP.Core.zval_round_le FP.Core.good_b64 (e0 := 2 * FP.Core.b64.qmin) (FP.Core.val64_fits V) (val64_no.mp hV) (by decide) he ?_
  rw [hu, own_signed, own_2qmin]
  exact h
theorem own_mul_ge {a b V : UInt64} (ha : Fin64 a) (hb : Fin64 b) (hV : NoNaN64 V) (h : own_z V * (own_M : Int) ≤ own_z a * own_z b) : own_z V ≤ own_z (FP.dmul a b) := by
  obtain ⟨s, c, q, e1, f1⟩ := own_fin ha
  obtain ⟨t, d, r, e2, f2⟩ := own_fin hb
  obtain ⟨hp, he, hu⟩ := FP.Core.product_units f1 f2
  show _ ≤ FP.Core.zval _ (FP.Core.val64 (FP.Core.dmul a b))
  simp only [own_z, e1, e2] at h
  rw [FP.Core.val64_dmul, e1, e2, hp]
  refine FP.Core.zval_round_ge FP.Core.good_b64 (e0 := 2 * FP.Core.b64.qmin) (FP.Core.val64_fits V) (val64_no.mp hV) (by decide) he ?_
  rw [hu, own_signed, own_2qmin]
  exact h
/-- R is the rounding of the magnitude N / D (in least units), with the sign s -/
def own_Rd (s : Bool) (R : UInt64) (N D : Nat) : Prop := ∃ (A B : Nat) (e e0 : Int), 0 < B ∧ e0 ≤ FP.Core.b64.qmin ∧ e0 ≤ e ∧ FP.Core.val64 R = FP.Core.roundRatio FP.Core.b64 s A B e ∧ FP.Core.inUnits A e e0 = N ∧ 2 ^ (FP.Core.b64.qmin - e0).toNat * B = D
theorem own_Rd_le {s : Bool} {R V : UInt64} {N D : Nat} (H : own_Rd s R N D) (hV : NoNaN64 V) (h : N ≤ FP.Core.zmag FP.Core.b64 (FP.Core.val64 V) * D) : FP.Core.zmag FP.Core.b64 (FP.Core.val64 R) ≤ FP.Core.zmag FP.Core.b64 (FP.Core.val64 V) := by
  obtain ⟨A, B, e, e0, hB, h0, h0e, hR, hN, hD⟩ := H
  rw [hR]
  refine FP.Core.zmag_roundRatio_le FP.Core.good_b64 hB (FP.Core.val64_fits V) (val64_no.mp hV) h0 h0e ?_
  rw [hN, Nat.mul_assoc, hD]
  exact h
theorem own_Rd_ge {s : Bool} {R V : UInt64} {N D : Nat} (H : own_Rd s R N D) (h : FP.Core.zmag FP.Core.b64 (FP.Core.val64 V) * D ≤ N) : FP.Core.zmag FP.Core.b64 (FP.Core.val64 V) ≤ FP.Core.zmag FP.Core.b64 (FP.Core.val64 R) := by
  obtain ⟨A, B, e, e0, hB, h0, h0e, hR, hN, hD⟩ := H
  rw [hR]
  refine FP.Core.zmag_roundRatio_ge FP.Core.good_b64 hB (FP.Core.val64_fits V) h0 h0e ?_
  rw [hN, Nat.mul_assoc, hD]
  exact h
theorem own_Rd_sgn {s : Bool} {R : UInt64} {N D : Nat} (H : own_Rd s R N D) : FP.Core.sgn (FP.Core.val64 R) = s := by
  obtain ⟨A, B, e, e0, hB, h0, h0e, hR, hN, hD⟩ := H
  rw [hR, FP.Core.sgn_roundRatio]
theorem own_Rd_nn {s : Bool} {R : UInt64} {N D : Nat} (H : own_Rd s R N D) : NoNaN64 R := by
  obtain ⟨A, B, e, e0, hB, h0, h0e, hR, hN, hD⟩ := H
  exact val64_no.mpr (by rw [hR]; exact FP.Core.roundRatio_ne_nan _ _ _ _ _)
theorem own_Rd_z {R : UInt64} {N D : Nat} (H : own_Rd false R N D) : own_z R = (FP.Core.zmag FP.Core.b64 (FP.Core.val64 R) : Int) := by
  unfold own_z FP.Core.zval
  rw [own_Rd_sgn H]
  rfl
/-- what is no greater than a finite one is finite -/
theorem own_fin_le {R V : UInt64} (hR : NoNaN64 R) (hV : Fin64 V) (h : FP.Core.zmag FP.Core.b64 (FP.Core.val64 R) ≤ FP.Core.zmag FP.Core.b64 (FP.Core.val64 V)) : Fin64 R := by
  have h1 := FP.Core.DFin.zval_lt (fin64_core.mp hV)
  refine fin64_core.mpr ?_
  have h2 := val64_no.mp hR
  unfold FP.Core.DFin
  cases hv : FP.Core.val64 R with
  | nan => exact absurd hv h2
  | inf s =>
    rw [hv] at h
    have h3 : FP.Core.zmag FP.Core.b64 (.inf s) = FP.Core.b64.tails * 2 ^ (FP.Core.b64.exps - 2) := rfl
    rw [h3] at h
    exact absurd (Nat.lt_of_lt_of_le h1 h) (Nat.lt_irrefl _)
  | fin s c q => exact ⟨s, c, q, rfl⟩
/-- the relative error of a rounding that is no subnormal one: at most 2^-53 -/
theorem own_Rd_rel {s : Bool} {R : UInt64} {N D : Nat} (H : own_Rd s R N D) (hf : Fin64 R) (hn : 2 ^ 52 * D ≤ N) :
    2 ^ 53 * N ≤ 2 ^ 53 * (FP.Core.zmag FP.Core.b64 (FP.Core.val64 R) * D) + N ∧ 2 ^ 53 * (FP.Core.zmag FP.Core.b64 (FP.Core.val64 R) * D) ≤ 2 ^ 53 * N + N := by
  obtain ⟨A, B, e, e0, hB, h0, h0e, hR, hN, hD⟩ := H
  obtain ⟨t, c, q, ev, hfit⟩ := own_fin hf
  rw [ev] at hR
  have hA : A ≠ 0 := by
    rintro rfl
    have hD0 : 0 < D := by rw [← hD]; exact Nat.mul_pos (Nat.two_pow_pos _) hB
    have hN0 : N = 0 := by rw [← hN]; simp [FP.Core.inUnits]
    have : 0 < 2 ^ 52 * D := Nat.mul_pos (by decide) hD0
    omega
  have g1 := FP.Core.quantum_ge FP.Core.b64 A B e
  have g2 := FP.Core.nearest_units_le (f := FP.Core.b64) (Nat.pos_of_ne_zero hA) hB e
  have g3 := FP.Core.quantum_not_below (f := FP.Core.b64) (Nat.pos_of_ne_zero hA) hB e
  unfold FP.Core.roundRatio at hR
  rw [if_neg hA] at hR
  unfold FP.Core.roundAt at hR
  generalize FP.Core.quantum FP.Core.b64 A B e = r at hR g1 g2 g3
  have hv := (FP.Core.settle_value FP.Core.good_b64 (e0 := e0) g2 hR.symm (by omega)).2
  have hz := FP.Core.units_fin hfit h0
  have ha : FP.Core.inUnits A e e0 = FP.Core.unitsNum A e r * 2 ^ (min e r - e0).toNat := by
    unfold FP.Core.inUnits FP.Core.unitsNum
    rw [show (e - e0).toNat = (e - r).toNat + (min e r - e0).toNat by omega, Nat.pow_add, Nat.mul_assoc]
  have hDr : B * 2 ^ (r - e0).toNat = FP.Core.unitsDen B e r * 2 ^ (min e r - e0).toNat := by
    unfold FP.Core.unitsDen
    rw [show (r - e0).toNat = (r - e).toNat + (min e r - e0).toNat by omega, Nat.pow_add, Nat.mul_assoc]
  have hP := Nat.two_pow_pos (min e r - e0).toNat
  have hup := FP.Core.unitsDen_pos hB e r
  have hk : 2 ^ 52 * FP.Core.unitsDen B e r ≤ FP.Core.unitsNum A e r := by
    rcases g3 with g3 | g3
    · subst g3
      rw [← hN, ha, ← hD, Nat.mul_comm _ B, hDr, ← Nat.mul_assoc] at hn
      exact Nat.le_of_mul_le_mul_right hn hP
    · rw [show ((FP.Core.b64.p : Nat) : Int) - 1 = ((52 : Nat) : Int) by decide, ← FP.Core.units_below] at g3
      exact Nat.le_of_not_lt g3
  obtain ⟨n1, n2, -⟩ := FP.Core.nearest_spec (FP.Core.unitsNum A e r) (FP.Core.unitsDen B e r) hup
  have hX : FP.Core.zmag FP.Core.b64 (FP.Core.val64 R) * D = FP.Core.nearest (FP.Core.unitsNum A e r) (FP.Core.unitsDen B e r) * FP.Core.unitsDen B e r * 2 ^ (min e r - e0).toNat := by
    rw [ev, ← hD, ← Nat.mul_assoc, ← hz, hv]
    unfold FP.Core.inUnits
    rw [Nat.mul_assoc, Nat.mul_comm (2 ^ (r - e0).toNat) B, hDr, Nat.mul_assoc]
  rw [hX, ← hN, ha]
  generalize 2 ^ (min e r - e0).toNat = P at *
  generalize FP.Core.nearest (FP.Core.unitsNum A e r) (FP.Core.unitsDen B e r) = k at *
  generalize FP.Core.unitsNum A e r = n at *
  generalize FP.Core.unitsDen B e r = d at *
  have e1 : (2 * k + 1) * d = 2 * (k * d) + d := by rw [Nat.add_mul, Nat.one_mul, Nat.mul_assoc]
  have e2 : 2 * k * d = 2 * (k * d) := Nat.mul_assoc ..
  rw [e1] at n1
  rw [e2] at n2
  generalize k * d = kd at *
  have m1 : 2 ^ 53 * n ≤ 2 ^ 53 * kd + n := by omega
  have m2 : 2 ^ 53 * kd ≤ 2 ^ 53 * n + n := by omega
  have l1 := Nat.mul_le_mul_right P m1
  have l2 := Nat.mul_le_mul_right P m2
  rw [Nat.add_mul, Nat.mul_assoc, Nat.mul_assoc] at l1 l2
  exact ⟨l1, l2⟩
theorem own_sgn_pos {a : UInt64} (h : 0 < own_z a) : FP.Core.sgn (FP.Core.val64 a) = false := by
  unfold own_z FP.Core.zval at h
  cases hs : FP.Core.sgn (FP.Core.val64 a)
  · rfl
  · rw [hs] at h
    simp only [FP.Core.signed, if_true] at h
    omega
theorem own_zmag {a : UInt64} (h : FP.Core.sgn (FP.Core.val64 a) = false) : own_z a = (FP.Core.zmag FP.Core.b64 (FP.Core.val64 a) : Int) := by
  unfold own_z FP.Core.zval
  rw [h]
  rfl
theorem own_Rd_div {a b : UInt64} (ha : Fin64 a) (hb : Fin64 b) (pb : FP.Core.zmag FP.Core.b64 (FP.Core.val64 b) ≠ 0) :
    own_Rd (FP.Core.sgn (FP.Core.val64 a) != FP.Core.sgn (FP.Core.val64 b)) (FP.ddiv a b) (FP.Core.zmag FP.Core.b64 (FP.Core.val64 a) * own_M) (FP.Core.zmag FP.Core.b64 (FP.Core.val64 b)) := by
  obtain ⟨s, c, q, e1, f1⟩ := own_fin ha
  obtain ⟨t, d, r, e2, f2⟩ := own_fin hb
  have hq := f1.2.1
  have hr := f2.2.1
  have hqm : FP.Core.b64.qmin = -1074 := by decide
  rw [e2] at pb
  have hd : d ≠ 0 := by
    rintro rfl
    exact pb (by simp [FP.Core.zmag, FP.Core.inUnits])
  refine ⟨c, d, q - r, FP.Core.b64.qmin - (r - FP.Core.b64.qmin), Nat.pos_of_ne_zero hd, by omega, by omega, ?_, ?_, ?_⟩
  · show FP.Core.val64 (FP.Core.ddiv a b) = _
    rw [FP.Core.val64_ddiv, e1, e2]
    show (if d = 0 then _ else _) = _
    rw [if_neg hd]
    rfl
  · rw [e1]
    show _ = FP.Core.inUnits c q FP.Core.b64.qmin * own_M
    unfold FP.Core.inUnits own_M
    rw [show (q - r - (FP.Core.b64.qmin - (r - FP.Core.b64.qmin))).toNat = (q - FP.Core.b64.qmin).toNat + 1074 by omega, Nat.pow_add, Nat.mul_assoc]
  · rw [e2]
    show _ = FP.Core.inUnits d r FP.Core.b64.qmin
    unfold FP.Core.inUnits
    rw [show (FP.Core.b64.qmin - (FP.Core.b64.qmin - (r - FP.Core.b64.qmin))).toNat = (r - FP.Core.b64.qmin).toNat by omega, Nat.mul_comm]
theorem own_Rd_mul {a b : UInt64} (ha : Fin64 a) (hb : Fin64 b) :
    own_Rd (FP.Core.sgn (FP.Core.val64 a) != FP.Core.sgn (FP.Core.val64 b)) (FP.dmul a b) (FP.Core.zmag FP.Core.b64 (FP.Core.val64 a) * FP.Core.zmag FP.Core.b64 (FP.Core.val64 b)) own_M := by
  obtain ⟨s, c, q, e1, f1⟩ := own_fin ha
  obtain ⟨t, d, r, e2, f2⟩ := own_fin hb
  obtain ⟨hp, he, hu⟩ := FP.Core.product_units f1 f2
  refine ⟨c * d, 1, q + r, 2 * FP.Core.b64.qmin, by decide, by decide, he, ?_, ?_, ?_⟩
  · show FP.Core.val64 (FP.Core.dmul a b) = _
    rw [FP.Core.val64_dmul, e1, e2, hp]
    rfl
  · rw [e1, e2]; exact hu
  · rw [own_2qmin, Nat.mul_one]; rfl
theorem own_Rd_add {a b : UInt64} (ha : Fin64 a) (hb : Fin64 b) : ∃ s, own_Rd s (FP.dadd a b) (own_z a + own_z b).natAbs 1 ∧ (0 < own_z a + own_z b → s = false) := by
  obtain ⟨s, c, q, e1, f1⟩ := own_fin ha
  obtain ⟨t, d, r, e2, f2⟩ := own_fin hb
  obtain ⟨sg, n, e, hs, he, hu⟩ := FP.Core.sum_units f1 f2
  have hz : own_z a + own_z b = FP.Core.signed sg (FP.Core.inUnits n e FP.Core.b64.qmin) := by unfold own_z; rw [e1, e2, hu]
  refine ⟨sg, ⟨n, 1, e, FP.Core.b64.qmin, by decide, Int.le_refl _, he, ?_, ?_, ?_⟩, ?_⟩
  · show FP.Core.val64 (FP.Core.dadd a b) = _
    rw [FP.Core.val64_dadd, e1, e2, hs]
    rfl
  · rw [hz]; cases sg <;> simp [FP.Core.signed]
  · rw [Int.sub_self]; rfl
  · rw [hz]; cases sg <;> simp [FP.Core.signed] <;> omega
theorem own_Rd_sub {a b : UInt64} (ha : Fin64 a) (hb : Fin64 b) : ∃ s, own_Rd s (FP.dsub a b) (own_z a - own_z b).natAbs 1 ∧ (0 < own_z a - own_z b → s = false) := by
  obtain ⟨s, c, q, e1, f1⟩ := own_fin ha
  obtain ⟨t, d, r, e2, f2⟩ := own_fin hb
  obtain ⟨sg, n, e, hs, he, hu⟩ := FP.Core.sum_units f1 (t := !t) (d := d) (r := r) f2
  have hneg : FP.Core.zval FP.Core.b64 (.fin (!t) d r) = - FP.Core.zval FP.Core.b64 (.fin t d r) := FP.Core.zval_negate FP.Core.b64 (.fin t d r)
  have hz : own_z a - own_z b = FP.Core.signed sg (FP.Core.inUnits n e FP.Core.b64.qmin) := by
    unfold own_z
    rw [e1, e2, hu, hneg, Int.sub_eq_add_neg]
  refine ⟨sg, ⟨n, 1, e, FP.Core.b64.qmin, by decide, Int.le_refl _, he, ?_, ?_, ?_⟩, ?_⟩
  · show FP.Core.val64 (FP.Core.dsub a b) = _
    rw [FP.Core.val64_dsub, e1, e2]
    show FP.Core.round FP.Core.b64 (FP.Core.exactSum (.fin s c q) (.fin (!t) d r)) = _
    rw [hs]
    rfl
  · rw [hz]; cases sg <;> simp [FP.Core.signed]
  · rw [Int.sub_self]; rfl
  · rw [hz]; cases sg <;> simp [FP.Core.signed] <;> omega
theorem own_zmag_of {a : UInt64} {i : Nat} (h : own_z a = (i : Int)) (hi : 0 < i) : FP.Core.zmag FP.Core.b64 (FP.Core.val64 a) = i := by
  have := own_zmag (own_sgn_pos (a := a) (by rw [h]; omega))
  omega
/-! ### the numbers that the law and the method reckon, of the five flags -/
def own_h (x h : Int32) : Int32 := if x = (0 : Int32) then h else h + (1 : Int32)
def own_s (x h k : Int32) (s : UInt64) : UInt64 := if x = (0 : Int32) then s else FP.dadd s (FP.ddiv (FP.i2d (h + (1 : Int32))) (FP.i2d k))
def own_n (x h : Int32) (wt n : Int64) : Int64 := if x = (0 : Int32) then n else n + wt * (h + (1 : Int32)).toInt64
def own_C5 (x0 x1 x2 x3 x4 : Int32) : Int32 := own_h x4 (own_h x3 (own_h x2 (own_h x1 (own_h x0 0))))
def own_N5 (x0 x1 x2 x3 x4 : Int32) : Int64 := own_n x4 (own_h x3 (own_h x2 (own_h x1 (own_h x0 0)))) 12 (own_n x3 (own_h x2 (own_h x1 (own_h x0 0))) 15 (own_n x2 (own_h x1 (own_h x0 0)) 20 (own_n x1 (own_h x0 0) 30 (own_n x0 0 60 0))))
def own_S5 (x0 x1 x2 x3 x4 : Int32) : UInt64 := own_s x4 (own_h x3 (own_h x2 (own_h x1 (own_h x0 0)))) 5 (own_s x3 (own_h x2 (own_h x1 (own_h x0 0))) 4 (own_s x2 (own_h x1 (own_h x0 0)) 3 (own_s x1 (own_h x0 0) 2 (own_s x0 0 1 0))))
/-- all 32 patterns at once: the sum of the quotients is n / 60 but for 2^-50 -/
def own_ok (x0 x1 x2 x3 x4 : Int32) : Bool :=
  decide (0 ≤ (own_C5 x0 x1 x2 x3 x4).toInt) && (if (own_N5 x0 x1 x2 x3 x4).toInt = 0 then own_S5 x0 x1 x2 x3 x4 == 0 && own_N5 x0 x1 x2 x3 x4 == 0 else
    decide (1 ≤ (own_C5 x0 x1 x2 x3 x4).toInt) && decide (1 ≤ (own_N5 x0 x1 x2 x3 x4).toInt) && decide ((own_N5 x0 x1 x2 x3 x4).toInt ≤ 300) && decide (0 < own_z (own_S5 x0 x1 x2 x3 x4)) &&
    decide (2 ^ 50 * (60 * own_z (own_S5 x0 x1 x2 x3 x4)) ≤ (2 ^ 50 + 1) * ((own_N5 x0 x1 x2 x3 x4).toInt * (own_M : Int))) && decide ((2 ^ 50 - 1) * ((own_N5 x0 x1 x2 x3 x4).toInt * (own_M : Int)) ≤ 2 ^ 50 * (60 * own_z (own_S5 x0 x1 x2 x3 x4))))
theorem own_all {x0 x1 x2 x3 x4 : Int32} (h0 : x0 = 0 ∨ x0 = 1) (h1 : x1 = 0 ∨ x1 = 1) (h2 : x2 = 0 ∨ x2 = 1) (h3 : x3 = 0 ∨ x3 = 1) (h4 : x4 = 0 ∨ x4 = 1) : own_ok x0 x1 x2 x3 x4 = true := by
  rcases h0 with rfl | rfl <;> rcases h1 with rfl | rfl <;> rcases h2 with rfl | rfl <;> rcases h3 with rfl | rfl <;> rcases h4 with rfl | rfl <;> decide +kernel
theorem own_i2d_nz {v : Int32} (h : v ≠ 0) : Nz64 (FP.i2d v) := nz64_core.mpr (fun q => FP.Core.i2d_ne_zero h ((FP.Core.zero_bits2 _).mp q))
theorem own_i2d_big {v : Int32} (h : v ≠ 0) : Big64 1023 (FP.i2d v) := FP.Core.i2d_big (FP.Core.int32_ne h)
theorem own_q_mag (h k : Int32) (hk : k ≠ 0) : Mag64 1057 (FP.ddiv (FP.i2d h) (FP.i2d k)) := (ddiv_mag (i2d_mag h) (own_i2d_big hk) (by decide) (by decide)).mono (by decide)
theorem own_s_mag {K : Nat} {x h k : Int32} {s : UInt64} (hk : k ≠ 0) (hs : Mag64 K s) (hK : 1057 ≤ K) (hK2 : K ≤ 2000) : Mag64 (K + 2) (own_s x h k s) := by
  unfold own_s
  split
  · exact hs.mono (by omega)
  · exact dadd_mag hs ((own_q_mag _ k hk).mono hK) (by omega)
theorem own_d_mag {K : Nat} {h k : Int32} {s : UInt64} (hk : k ≠ 0) (hs : Mag64 K s) (hK : 1057 ≤ K) (hK2 : K ≤ 2000) : NoNaN64 (FP.dadd s (FP.ddiv (FP.i2d h) (FP.i2d k))) := ((dadd_mag hs ((own_q_mag h k hk).mono hK) (by omega)).fin (by omega)).noNaN
theorem own_zero_mag : Mag64 1057 0 := by unfold Mag64; decide
/-! ### the bound on the quotient -/
abbrev own_60 : UInt64 := 4633641066610819072
abbrev own_K : UInt64 := 4427486594234968593
theorem own_60_int : FP.Core.DInt 60 own_60 := by
  have h := FP.Core.i2d_int 60
  have e : FP.Core.i2d 60 = own_60 := by decide +kernel
  rw [e] at h
  exact h
theorem own_K_fin : Fin64 own_K := by unfold Fin64; decide
theorem own_K_mag : Mag64 1023 own_K := by unfold Mag64; decide
theorem own_K_lo : 0 < own_z own_K ∧ own_z own_K ≤ (own_M : Int) ∧ 9 * (own_M : Int) ≤ 10 ^ 13 * own_z own_K ∧ (2 ^ 900 : Int) ≤ own_z own_K := by decide +kernel
def own_e (n : Int64) (cnt : Int32) : UInt64 := FP.ddiv (FP.l2d n) (FP.dmul own_60 (FP.i2d cnt))
def own_t (n : Int64) (cnt : Int32) : UInt64 := FP.dmul (own_e n cnt) own_K
theorem own_den_int {cnt : Int32} (h : 0 < cnt.toInt) : FP.Core.DInt (60 * cnt.toInt) (FP.dmul own_60 (FP.i2d cnt)) := by
  have r := rng32 cnt
  exact FP.Core.dmul_int own_60_int (FP.Core.i2d_int cnt) (by omega)
theorem own_den_mag (cnt : Int32) : Mag64 1117 (FP.dmul own_60 (FP.i2d cnt)) := by
  have e : own_60 = FP.i2d 60 := by decide +kernel
  rw [e]
  exact (dmul_mag (i2d_mag 60) (i2d_mag cnt) (by decide) (by decide)).mono (by decide)
theorem own_den_big {cnt : Int32} (h : 0 < cnt.toInt) : Big64 1023 (FP.dmul own_60 (FP.i2d cnt)) := by
  have r := rng32 cnt
  have d := own_den_int h
  have e2 : ((60 : Int64) * cnt.toInt64).toInt = 60 * cnt.toInt := by
    have q := c_lmul 60 cnt.toInt64
    have r2 := rng64 ((60 : Int64) * cnt.toInt64)
    rw [c_i2l] at q
    have e60 : (60 : Int64).toInt = 60 := rfl
    rw [e60] at q
    omega
  have e3 : FP.dmul own_60 (FP.i2d cnt) = FP.l2d ((60 : Int64) * cnt.toInt64) := by
    have e : own_60 = FP.l2d 60 := by decide +kernel
    rw [e, i2d_w]
    refine dmul_w ⟨by decide, by decide⟩ ⟨by rw [c_i2l]; omega, by rw [c_i2l]; omega⟩ (by decide) (fun q => ?_) (by rw [c_i2l]; show _ ≤ (60 : Int) * _; omega) (by rw [c_i2l]; show (60 : Int) * _ < _; omega)
    have q2 : cnt.toInt64.toInt = 0 := by rw [q]; rfl
    rw [c_i2l] at q2
    omega
  rw [e3]
  refine l2d_big (fun q => ?_)
  rw [q] at e2
  have : (0 : Int64).toInt = 0 := rfl
  omega
theorem own_e_mag (n : Int64) {cnt : Int32} (h : 0 < cnt.toInt) : Mag64 1089 (own_e n cnt) := (ddiv_mag (l2d_mag n) (own_den_big h) (by decide) (by decide)).mono (by decide)
theorem own_t_mag (n : Int64) {cnt : Int32} (h : 0 < cnt.toInt) : Mag64 1090 (own_t n cnt) := (dmul_mag (own_e_mag n h) own_K_mag (by decide) (by decide)).mono (by decide)
/-- a rounding's relative error, over the integers -/
theorem own_lin {A E T Dm Dp c zS nM M K : Int} (hc : 0 < c) (hM : 0 < M) (hE : 0 ≤ E)
    (a1 : 2 ^ 53 * zS ≤ 2 ^ 53 * (A * c) + zS) (a2 : 2 ^ 53 * (A * c) ≤ 2 ^ 53 * zS + zS)
    (e1 : 2 ^ 53 * nM ≤ 2 ^ 53 * (E * (60 * c)) + nM) (e2 : 2 ^ 53 * (E * (60 * c)) ≤ 2 ^ 53 * nM + nM)
    (s1 : 2 ^ 50 * (60 * zS) ≤ (2 ^ 50 + 1) * nM) (s2 : (2 ^ 50 - 1) * nM ≤ 2 ^ 50 * (60 * zS)) (hn : 0 < nM)
    (t1 : 2 ^ 53 * (E * K) ≤ 2 ^ 53 * (T * M) + E * K) (k1 : 9 * M ≤ 10 ^ 13 * K)
    (d1 : 2 ^ 53 * Dm ≤ 2 ^ 53 * (E - T) + (E - T)) (p1 : 2 ^ 53 * (E + T) ≤ 2 ^ 53 * Dp + (E + T)) : Dm ≤ A ∧ A ≤ Dp := by
  have q1 : E * (60 * c) = 60 * (E * c) := by rw [Int.mul_left_comm]
  rw [q1] at e1 e2
  have lo : (2 ^ 49 - 1) * (E * c) ≤ 2 ^ 49 * (A * c) := by
    generalize E * c = Ec at *
    generalize A * c = Ac at *
    omega
  have hi : 2 ^ 49 * (A * c) ≤ (2 ^ 49 + 1) * (E * c) := by
    generalize E * c = Ec at *
    generalize A * c = Ac at *
    omega
  have lo' : (2 ^ 49 - 1) * E ≤ 2 ^ 49 * A := by
    rw [← Int.mul_assoc, ← Int.mul_assoc] at lo
    exact Int.le_of_mul_le_mul_right lo hc
  have hi' : 2 ^ 49 * A ≤ (2 ^ 49 + 1) * E := by
    rw [← Int.mul_assoc, ← Int.mul_assoc] at hi
    exact Int.le_of_mul_le_mul_right hi hc
  have tt : 8 * E ≤ 10 ^ 13 * T := by
    have z1 : (2 ^ 53 - 1) * (E * K) ≤ 2 ^ 53 * (T * M) := by generalize E * K = x at *; omega
    have z2 : E * (9 * M) ≤ E * (10 ^ 13 * K) := Int.mul_le_mul_of_nonneg_left k1 hE
    have z3 : E * (9 * M) = 9 * (E * M) := by rw [Int.mul_left_comm]
    have z4 : E * (10 ^ 13 * K) = 10 ^ 13 * (E * K) := by rw [Int.mul_left_comm]
    rw [z3, z4] at z2
    have z5 : 0 ≤ E * M := Int.mul_nonneg hE (Int.le_of_lt hM)
    have z6 : 8 * (E * M) ≤ 10 ^ 13 * (T * M) := by
      generalize E * K = x at *
      generalize E * M = y at *
      generalize T * M = z at *
      omega
    rw [← Int.mul_assoc, ← Int.mul_assoc] at z6
    exact Int.le_of_mul_le_mul_right z6 hM
  constructor <;> omega
theorem own_pows : ∃ P Q : Nat, 0 < P ∧ P * 549755813888 ≤ own_M ∧ 2 ^ 52 * own_M ≤ P * Q ∧ 2 ^ 200 ≤ P ∧ (Q : Int) ≤ own_z own_K := ⟨2 ^ 1030, 2 ^ 900, by decide +kernel, by decide +kernel, by decide +kernel, by decide +kernel, by decide +kernel⟩
theorem own_cancel {a b M : Nat} (hM : 0 < M) (h : 2 ^ 53 * (a * M) ≤ 2 ^ 53 * (b * M) + a * M) : 2 ^ 53 * a ≤ 2 ^ 53 * b + a := by
  refine Nat.le_of_mul_le_mul_right (c := M) ?_ hM
  rw [Nat.add_mul, Nat.mul_assoc, Nat.mul_assoc]
  exact h
theorem own_cancel' {a b M : Nat} (hM : 0 < M) (h : 2 ^ 53 * (b * M) ≤ 2 ^ 53 * (a * M) + a * M) : 2 ^ 53 * b ≤ 2 ^ 53 * a + a := by
  refine Nat.le_of_mul_le_mul_right (c := M) ?_ hM
  rw [Nat.add_mul, Nat.mul_assoc, Nat.mul_assoc]
  exact h
theorem own_close {S : UInt64} {n : Int64} {cnt : Int32} (hc : 0 < cnt.toInt) (hSm : Mag64 1067 S) (hn1 : 1 ≤ n.toInt) (hn2 : n.toInt ≤ 300) (zp : 0 < own_z S)
    (s1 : 2 ^ 50 * (60 * own_z S) ≤ (2 ^ 50 + 1) * (n.toInt * (own_M : Int))) (s2 : (2 ^ 50 - 1) * (n.toInt * (own_M : Int)) ≤ 2 ^ 50 * (60 * own_z S)) :
    own_z (FP.dsub (own_e n cnt) (own_t n cnt)) ≤ own_z (FP.ddiv S (FP.i2d cnt)) ∧ own_z (FP.ddiv S (FP.i2d cnt)) ≤ own_z (FP.dadd (own_e n cnt) (own_t n cnt)) := by
  have mp := own_M_pos
  have rc := rng32 cnt
  obtain ⟨P, Q, wp, w1, w2, w3, w4⟩ := own_pows
  obtain ⟨c, hcn⟩ := Int.eq_ofNat_of_zero_le (show 0 ≤ cnt.toInt by omega)
  obtain ⟨k, hk⟩ := Int.eq_ofNat_of_zero_le (show 0 ≤ n.toInt by omega)
  obtain ⟨zs, hzs⟩ := Int.eq_ofNat_of_zero_le (show 0 ≤ own_z S by omega)
  have cne : cnt ≠ 0 := by rintro rfl; exact absurd hc (by decide)
  have zc : own_z (FP.i2d cnt) = ((c * own_M : Nat) : Int) := by rw [own_zint (FP.Core.i2d_int cnt), hcn, Int.natCast_mul]
  have zd : own_z (FP.dmul own_60 (FP.i2d cnt)) = ((60 * c * own_M : Nat) : Int) := by rw [own_zint (own_den_int hc), hcn, Int.natCast_mul, Int.natCast_mul]; rfl
  have zn : own_z (FP.l2d n) = ((k * own_M : Nat) : Int) := by rw [own_zint (FP.Core.l2d_int (a := n) (by omega)), hk, Int.natCast_mul]
  have cp : 0 < c * own_M := Nat.mul_pos (by omega) mp
  have dp : 0 < 60 * c * own_M := Nat.mul_pos (by omega) mp
  have np : 0 < k * own_M := Nat.mul_pos (by omega) mp
  have mS := own_zmag_of hzs (by omega)
  have mc := own_zmag_of zc cp
  have md := own_zmag_of zd dp
  have mn := own_zmag_of zn np
  -- ap
  have H1 := own_Rd_div (hSm.fin (by decide)) (i2d_fin cnt) (by rw [mc]; omega)
  rw [own_sgn_pos zp, own_sgn_pos (a := FP.i2d cnt) (by rw [zc]; omega), mS, mc] at H1
  have H1 : own_Rd false (FP.ddiv S (FP.i2d cnt)) (zs * own_M) (c * own_M) := H1
  have f1 : Fin64 (FP.ddiv S (FP.i2d cnt)) := (ddiv_mag hSm (own_i2d_big cne) (by decide) (by decide)).fin (by decide)
  have kM : own_M ≤ k * own_M := Nat.le_mul_of_pos_left _ (by omega)
  have s2' : (2 ^ 50 - 1) * (k * own_M) ≤ 2 ^ 50 * (60 * zs) := by
    rw [hk, hzs, ← Int.natCast_mul] at s2
    omega
  have s1' : 2 ^ 50 * (60 * zs) ≤ (2 ^ 50 + 1) * (k * own_M) := by
    rw [hk, hzs, ← Int.natCast_mul] at s1
    omega
  have hzbig : 2 ^ 52 * c ≤ zs := by
    have : c ≤ 2147483648 := by omega
    generalize k * own_M = x at *
    omega
  obtain ⟨a1, a2⟩ := own_Rd_rel H1 f1 (by rw [← Nat.mul_assoc]; exact Nat.mul_le_mul_right _ hzbig)
  rw [← Nat.mul_assoc _ c own_M] at a1 a2
  have a1 := own_cancel mp a1
  have a2 := own_cancel' mp a2
  -- e
  have fd : Fin64 (FP.dmul own_60 (FP.i2d cnt)) := (own_den_mag cnt).fin (by decide)
  have H2 := own_Rd_div (l2d_fin n) fd (by rw [md]; omega)
  rw [own_sgn_pos (a := FP.l2d n) (by rw [zn]; omega), own_sgn_pos (a := FP.dmul own_60 (FP.i2d cnt)) (by rw [zd]; omega), mn, md] at H2
  have H2 : own_Rd false (own_e n cnt) (k * own_M * own_M) (60 * c * own_M) := H2
  have f2 : Fin64 (own_e n cnt) := (own_e_mag n hc).fin (by decide)
  obtain ⟨e1, e2⟩ := own_Rd_rel H2 f2 (by
    rw [← Nat.mul_assoc]
    refine Nat.mul_le_mul_right _ ?_
    have : c ≤ 2147483648 := by omega
    generalize k * own_M = x at *
    omega)
  rw [← Nat.mul_assoc _ (60 * c) own_M] at e1 e2
  have e1 := own_cancel mp e1
  have e2 := own_cancel' mp e2
  have zE := own_Rd_z H2
  have zA := own_Rd_z H1
  generalize hA : FP.Core.zmag FP.Core.b64 (FP.Core.val64 (FP.ddiv S (FP.i2d cnt))) = A at *
  generalize hE : FP.Core.zmag FP.Core.b64 (FP.Core.val64 (own_e n cnt)) = E at *
  have eb : E * (60 * c) ≤ E * 128849018880 := Nat.mul_le_mul_left _ (by omega)
  have eq60 : E * (60 * c) = E * (60 * c) := rfl
  have Ebig : P ≤ E := by
    refine Nat.le_of_not_lt fun hlt => ?_
    generalize E * (60 * c) = y at *
    generalize k * own_M = x at *
    omega
  -- tol
  obtain ⟨kp, kM1, k1, -⟩ := own_K_lo
  obtain ⟨K, hK⟩ := Int.eq_ofNat_of_zero_le (show 0 ≤ own_z own_K by omega)
  have mK := own_zmag_of hK (by omega)
  have H3 := own_Rd_mul f2 own_K_fin
  rw [own_sgn_pos (a := own_e n cnt) (by rw [zE]; omega), own_sgn_pos kp, hE, mK] at H3
  have H3 : own_Rd false (own_t n cnt) (E * K) own_M := H3
  have f3 : Fin64 (own_t n cnt) := (own_t_mag n hc).fin (by decide)
  have Kbig : Q ≤ K := by
    rw [hK] at w4
    omega
  obtain ⟨t1, t2⟩ := own_Rd_rel H3 f3 (Nat.le_trans w2 (Nat.mul_le_mul Ebig Kbig))
  have zT := own_Rd_z H3
  generalize hT : FP.Core.zmag FP.Core.b64 (FP.Core.val64 (own_t n cnt)) = T at *
  have K4 : 4 * K ≤ own_M := by
    rw [hK] at kM1
    have : 4 * own_z own_K ≤ (own_M : Int) := by decide +kernel
    omega
  have hTE : 2 * T ≤ E := by
    have u1 : E * (4 * K) ≤ E * own_M := Nat.mul_le_mul_left _ K4
    rw [Nat.mul_left_comm] at u1
    have u2 : 2 * T * own_M ≤ E * own_M := by
      rw [Nat.mul_assoc]
      generalize E * K = x at *
      generalize T * own_M = y at *
      generalize E * own_M = z at *
      omega
    exact Nat.le_of_mul_le_mul_right u2 mp
  -- e - tol, e + tol
  obtain ⟨sg, H4, hs4⟩ := own_Rd_sub f2 f3
  have pos4 : 0 < own_z (own_e n cnt) - own_z (own_t n cnt) := by
    rw [zE, zT]
    omega
  have hs4 := hs4 pos4
  subst hs4
  have n4 : (own_z (own_e n cnt) - own_z (own_t n cnt)).natAbs = E - T := by rw [zE, zT]; omega
  rw [n4] at H4
  have f4 : Fin64 (FP.dsub (own_e n cnt) (own_t n cnt)) := (dsub_mag ((own_e_mag n hc).mono (by decide)) (own_t_mag n hc) (by decide)).fin (by decide)
  obtain ⟨-, d2⟩ := own_Rd_rel H4 f4 (by omega)
  have zD := own_Rd_z H4
  obtain ⟨sg, H5, hs5⟩ := own_Rd_add f2 f3
  have hs5 := hs5 (by rw [zE, zT]; omega)
  subst hs5
  have n5 : (own_z (own_e n cnt) + own_z (own_t n cnt)).natAbs = E + T := by rw [zE, zT]; omega
  rw [n5] at H5
  have f5 : Fin64 (FP.dadd (own_e n cnt) (own_t n cnt)) := (dadd_mag ((own_e_mag n hc).mono (by decide)) (own_t_mag n hc) (by decide)).fin (by decide)
  obtain ⟨p1, -⟩ := own_Rd_rel H5 f5 (by omega)
  have zP := own_Rd_z H5
  rw [zA, zD, zP]
  generalize FP.Core.zmag FP.Core.b64 (FP.Core.val64 (FP.dsub (own_e n cnt) (own_t n cnt))) = Dm at *
  generalize FP.Core.zmag FP.Core.b64 (FP.Core.val64 (FP.dadd (own_e n cnt) (own_t n cnt))) = Dp at *
  rw [hK] at k1
  clear H1 H2 H3 H4 H5 mK w4 mS mc md mn zc zd zn
  generalize own_M = M at *
  have h60 := Nat.mul_left_comm E 60 c
  have i60 := Int.mul_left_comm (E : Int) 60 (c : Int)
  refine own_lin (A := A) (E := E) (T := T) (Dm := Dm) (Dp := Dp) (c := c) (zS := zs) (nM := (k * M : Nat)) (M := M) (K := K) (by omega) (by omega) (by omega) ?_ ?_ ?_ ?_ ?_ ?_ (by omega) ?_ k1 ?_ ?_

  all_goals omega
theorem own_Rd_zero {s : Bool} {R : UInt64} {D : Nat} (H : own_Rd s R 0 D) : own_z R = 0 := by
  have z0 : FP.Core.zmag FP.Core.b64 (FP.Core.val64 0) = 0 := by rw [FP.Core.val64_zero]; simp [FP.Core.zmag, FP.Core.inUnits]
  have q := own_Rd_le (V := 0) H (by unfold NoNaN64; decide) (Nat.zero_le _)
  rw [z0] at q
  unfold own_z FP.Core.zval
  rw [Nat.le_zero.mp q]
  cases FP.Core.sgn (FP.Core.val64 R) <;> rfl
theorem own_zmag0 {a : UInt64} (h : own_z a = 0) : FP.Core.zmag FP.Core.b64 (FP.Core.val64 a) = 0 := by
  unfold own_z FP.Core.zval at h
  cases hs : FP.Core.sgn (FP.Core.val64 a) <;> rw [hs] at h <;> simp only [FP.Core.signed, if_true] at h <;> simp at h <;> omega
/-- no flag is set: all is nought -/
theorem own_none {cnt : Int32} (hc : 0 < cnt.toInt) : own_z (FP.dsub (own_e 0 cnt) (own_t 0 cnt)) = 0 ∧ own_z (FP.ddiv 0 (FP.i2d cnt)) = 0 ∧ own_z (FP.dadd (own_e 0 cnt) (own_t 0 cnt)) = 0 := by
  have z0 : own_z 0 = 0 := FP.Core.zval64_zero
  have m0 := own_zmag0 z0
  have f0 : Fin64 0 := by unfold Fin64; decide
  have cne : cnt ≠ 0 := by rintro rfl; exact absurd hc (by decide)
  have rc := rng32 cnt
  have mp := own_M_pos
  obtain ⟨c, hcn⟩ := Int.eq_ofNat_of_zero_le (show 0 ≤ cnt.toInt by omega)
  have zc : own_z (FP.i2d cnt) = ((c * own_M : Nat) : Int) := by rw [own_zint (FP.Core.i2d_int cnt), hcn, Int.natCast_mul]
  have zd : own_z (FP.dmul own_60 (FP.i2d cnt)) = ((60 * c * own_M : Nat) : Int) := by rw [own_zint (own_den_int hc), hcn, Int.natCast_mul, Int.natCast_mul]; rfl
  have cp : 0 < c * own_M := Nat.mul_pos (by omega) mp
  have dp : 0 < 60 * c * own_M := Nat.mul_pos (by omega) mp
  have mc := own_zmag_of zc cp
  have md := own_zmag_of zd dp
  have l0 : FP.l2d 0 = 0 := by decide +kernel
  have H1 := own_Rd_div f0 (i2d_fin cnt) (by rw [mc]; omega)
  rw [m0, Nat.zero_mul] at H1
  have f2 : Fin64 (own_e 0 cnt) := (own_e_mag 0 hc).fin (by decide)
  have f3 : Fin64 (own_t 0 cnt) := (own_t_mag 0 hc).fin (by decide)
  have H2 := own_Rd_div f0 ((own_den_mag cnt).fin (by decide)) (by rw [md]; omega)
  rw [m0, Nat.zero_mul] at H2
  have ze : own_z (own_e 0 cnt) = 0 := by unfold own_e; rw [l0]; exact own_Rd_zero H2
  have H3 := own_Rd_mul f2 own_K_fin
  rw [own_zmag0 ze, Nat.zero_mul] at H3
  have zt : own_z (own_t 0 cnt) = 0 := own_Rd_zero H3
  obtain ⟨sg, H4, -⟩ := own_Rd_sub f2 f3
  obtain ⟨sg', H5, -⟩ := own_Rd_add f2 f3
  rw [ze, zt] at H4 H5
  exact ⟨own_Rd_zero H4, own_Rd_zero H1, own_Rd_zero H5⟩
theorem own_cmpdef (a b : Int) : compare a b = if a < b then .lt else if a = b then .eq else .gt := rfl
/-- ALL THAT THE LAW ASKS, for a count above 0 -/
theorem own_law {x0 x1 x2 x3 x4 : Int32} (h0 : x0 = 0 ∨ x0 = 1) (h1 : x1 = 0 ∨ x1 = 1) (h2 : x2 = 0 ∨ x2 = 1) (h3 : x3 = 0 ∨ x3 = 1) (h4 : x4 = 0 ∨ x4 = 1) {cnt : Int32} (hc : 0 < cnt.toInt) :
    NoNaN64 (FP.ddiv (own_S5 x0 x1 x2 x3 x4) (FP.i2d cnt)) ∧ NoNaN64 (own_e (own_N5 x0 x1 x2 x3 x4) cnt) ∧ NoNaN64 (own_t (own_N5 x0 x1 x2 x3 x4) cnt) ∧ NoNaN64 (FP.dsub (own_e (own_N5 x0 x1 x2 x3 x4) cnt) (own_t (own_N5 x0 x1 x2 x3 x4) cnt)) ∧ NoNaN64 (FP.dadd (own_e (own_N5 x0 x1 x2 x3 x4) cnt) (own_t (own_N5 x0 x1 x2 x3 x4) cnt)) ∧
    ¬ cmpValue (FP.dcmp (FP.ddiv (own_S5 x0 x1 x2 x3 x4) (FP.i2d cnt)) (FP.dsub (own_e (own_N5 x0 x1 x2 x3 x4) cnt) (own_t (own_N5 x0 x1 x2 x3 x4) cnt))) .l < (0 : Int32) ∧ ¬ (0 : Int32) < cmpValue (FP.dcmp (FP.ddiv (own_S5 x0 x1 x2 x3 x4) (FP.i2d cnt)) (FP.dadd (own_e (own_N5 x0 x1 x2 x3 x4) cnt) (own_t (own_N5 x0 x1 x2 x3 x4) cnt))) .g := by
  have ok := own_all h0 h1 h2 h3 h4
  have cne : cnt ≠ 0 := by rintro rfl; exact absurd hc (by decide)
  have hSm : Mag64 1067 (own_S5 x0 x1 x2 x3 x4) := own_s_mag (by decide) (own_s_mag (by decide) (own_s_mag (by decide) (own_s_mag (by decide) (own_s_mag (by decide) own_zero_mag (by decide) (by decide)) (by decide) (by decide)) (by decide) (by decide)) (by decide) (by decide)) (by decide) (by decide)
  unfold own_ok at ok
  generalize own_S5 x0 x1 x2 x3 x4 = S at *
  generalize own_N5 x0 x1 x2 x3 x4 = n at *
  have na : NoNaN64 (FP.ddiv S (FP.i2d cnt)) := ((ddiv_mag hSm (own_i2d_big cne) (by decide) (by decide)).fin (by decide)).noNaN
  have ne : NoNaN64 (own_e n cnt) := ((own_e_mag n hc).fin (by decide)).noNaN
  have nt : NoNaN64 (own_t n cnt) := ((own_t_mag n hc).fin (by decide)).noNaN
  have nd : NoNaN64 (FP.dsub (own_e n cnt) (own_t n cnt)) := ((dsub_mag ((own_e_mag n hc).mono (by decide)) (own_t_mag n hc) (by decide)).fin (by decide)).noNaN
  have nq : NoNaN64 (FP.dadd (own_e n cnt) (own_t n cnt)) := ((dadd_mag ((own_e_mag n hc).mono (by decide)) (own_t_mag n hc) (by decide)).fin (by decide)).noNaN
  have key : own_z (FP.dsub (own_e n cnt) (own_t n cnt)) ≤ own_z (FP.ddiv S (FP.i2d cnt)) ∧ own_z (FP.ddiv S (FP.i2d cnt)) ≤ own_z (FP.dadd (own_e n cnt) (own_t n cnt)) := by
    by_cases hz : n.toInt = 0
    · rw [if_pos hz] at ok
      simp only [Bool.and_eq_true, beq_iff_eq] at ok
      obtain ⟨-, rfl, rfl⟩ := ok
      obtain ⟨q1, q2, q3⟩ := own_none hc
      rw [q1, q2, q3]
      exact ⟨Int.le_refl _, Int.le_refl _⟩
    · rw [if_neg hz] at ok
      simp only [Bool.and_eq_true, decide_eq_true_eq] at ok
      obtain ⟨-, ⟨⟨⟨⟨-, b2⟩, b3⟩, b4⟩, b5⟩, b6⟩ := ok
      exact own_close hc hSm b2 b3 b4 b5 b6
  refine ⟨na, ne, nt, nd, nq, ?_, ?_⟩
  · rw [own_zcmp na nd, own_cmpdef, if_neg (by omega)]
    split <;> decide
  · rw [own_zcmp na nq, own_cmpdef]
    split
    · decide
    · rw [if_pos (by omega)]; decide
theorem own_C5_nn {x0 x1 x2 x3 x4 : Int32} (h0 : x0 = 0 ∨ x0 = 1) (h1 : x1 = 0 ∨ x1 = 1) (h2 : x2 = 0 ∨ x2 = 1) (h3 : x3 = 0 ∨ x3 = 1) (h4 : x4 = 0 ∨ x4 = 1) : 0 ≤ (own_C5 x0 x1 x2 x3 x4).toInt := by
  have ok := own_all h0 h1 h2 h3 h4
  unfold own_ok at ok
  rw [Bool.and_eq_true] at ok
  exact of_decide_eq_true ok.1
theorem ef_1 (m : MethodId) (x0 : Int32) (x1 : Int32) : entryFrame m #[(.int x0), (.int x1)] 2 = mkF m 0 #[.val (.int x0), .val (.int x1)] [] := by first | (simp [entryFrame, mkF, argsToLocals, Value.category]; done) | rfl
theorem d1_0 : decode jdk_29_method_65_code 0 = .ok (.iload_n 0, 1) := by decide +kernel
theorem d1_1 : decode jdk_29_method_65_code 1 = .ok (.iload_n 1, 1) := by decide +kernel
theorem d1_2 : decode jdk_29_method_65_code 2 = .ok (.if_icmp .lt 7, 3) := by decide +kernel
theorem d1_9 : decode jdk_29_method_65_code 9 = .ok (.iload_n 1, 1) := by decide +kernel
theorem d1_5 : decode jdk_29_method_65_code 5 = .ok (.iload_n 0, 1) := by decide +kernel
theorem d1_6 : decode jdk_29_method_65_code 6 = .ok (.goto 4, 3) := by decide +kernel
theorem d1_10 : decode jdk_29_method_65_code 10 = .ok (.ireturn, 1) := by decide +kernel
theorem ef_2 (m : MethodId) (x0 : Addr) (x1 : Addr) (x2 : Int32) : entryFrame m #[(.ref x0), (.ref x1), (.int x2)] 3 = mkF m 0 #[.val (.ref x0), .val (.ref x1), .val (.int x2)] [] := by first | (simp [entryFrame, mkF, argsToLocals, Value.category]; done) | rfl
theorem pn_com_example_vervet_vervet_core_RankedTopic : plainName "com/example/vervet/vervet/core/RankedTopic" = true := by first | (simp [plainName, overriddenIn]; done) | decide +kernel
theorem d2_0 : decode prog_33_method_1_code 0 = .ok (.aload_n 0, 1) := by decide +kernel
theorem d2_1 : decode prog_33_method_1_code 1 = .ok (.invokespecial 1, 3) := by decide +kernel
theorem d2_4 : decode prog_33_method_1_code 4 = .ok (.aload_n 0, 1) := by decide +kernel
theorem d2_5 : decode prog_33_method_1_code 5 = .ok (.aload_n 1, 1) := by decide +kernel
theorem d2_6 : decode prog_33_method_1_code 6 = .ok (.putfield 7, 3) := by decide +kernel
theorem d2_9 : decode prog_33_method_1_code 9 = .ok (.aload_n 0, 1) := by decide +kernel
theorem d2_10 : decode prog_33_method_1_code 10 = .ok (.iload_n 2, 1) := by decide +kernel
theorem d2_11 : decode prog_33_method_1_code 11 = .ok (.putfield 13, 3) := by decide +kernel
theorem d2_14 : decode prog_33_method_1_code 14 = .ok (.return_, 1) := by decide +kernel
theorem ef_4 (m : MethodId) (x0 : Addr) : entryFrame m #[(.ref x0)] 5 = mkF m 0 #[.val (.ref x0), .unset, .unset, .unset, .unset] [] := by first | (simp [entryFrame, mkF, argsToLocals, Value.category]; done) | rfl
theorem d4_0 : decode prog_33_method_5_code 0 = .ok (.aload_n 0, 1) := by decide +kernel
theorem d4_1 : decode prog_33_method_5_code 1 = .ok (.getfield 13, 3) := by decide +kernel
theorem d4_4 : decode prog_33_method_5_code 4 = .ok (.ifCond .ne 5, 3) := by decide +kernel
theorem d4_7 : decode prog_33_method_5_code 7 = .ok (.dconst 0, 1) := by decide +kernel
theorem d4_8 : decode prog_33_method_5_code 8 = .ok (.dreturn, 1) := by decide +kernel
theorem d4_9 : decode prog_33_method_5_code 9 = .ok (.dconst 0, 1) := by decide +kernel
theorem d4_10 : decode prog_33_method_5_code 10 = .ok (.dstore_n 1, 1) := by decide +kernel
theorem d4_11 : decode prog_33_method_5_code 11 = .ok (.iconst 0, 1) := by decide +kernel
theorem d4_12 : decode prog_33_method_5_code 12 = .ok (.istore_n 3, 1) := by decide +kernel
theorem d4_13 : decode prog_33_method_5_code 13 = .ok (.iconst 0, 1) := by decide +kernel
theorem d4_14 : decode prog_33_method_5_code 14 = .ok (.istore 4, 2) := by decide +kernel
theorem d4_16 : decode prog_33_method_5_code 16 = .ok (.iload 4, 2) := by decide +kernel
theorem d4_18 : decode prog_33_method_5_code 18 = .ok (.aload_n 0, 1) := by decide +kernel
theorem d4_19 : decode prog_33_method_5_code 19 = .ok (.getfield 7, 3) := by decide +kernel
theorem d4_22 : decode prog_33_method_5_code 22 = .ok (.arraylength, 1) := by decide +kernel
theorem d4_23 : decode prog_33_method_5_code 23 = .ok (.if_icmp .ge 33, 3) := by decide +kernel
theorem d4_26 : decode prog_33_method_5_code 26 = .ok (.aload_n 0, 1) := by decide +kernel
theorem d4_27 : decode prog_33_method_5_code 27 = .ok (.getfield 7, 3) := by decide +kernel
theorem d4_30 : decode prog_33_method_5_code 30 = .ok (.iload 4, 2) := by decide +kernel
theorem d4_32 : decode prog_33_method_5_code 32 = .ok (.baload, 1) := by decide +kernel
theorem d4_33 : decode prog_33_method_5_code 33 = .ok (.ifCond .eq 17, 3) := by decide +kernel
theorem d4_36 : decode prog_33_method_5_code 36 = .ok (.iinc 3 1, 3) := by decide +kernel
theorem d4_39 : decode prog_33_method_5_code 39 = .ok (.dload_n 1, 1) := by decide +kernel
theorem d4_40 : decode prog_33_method_5_code 40 = .ok (.iload_n 3, 1) := by decide +kernel
theorem d4_41 : decode prog_33_method_5_code 41 = .ok (.i2d, 1) := by decide +kernel
theorem d4_42 : decode prog_33_method_5_code 42 = .ok (.iload 4, 2) := by decide +kernel
theorem d4_44 : decode prog_33_method_5_code 44 = .ok (.iconst 1, 1) := by decide +kernel
theorem d4_45 : decode prog_33_method_5_code 45 = .ok (.iadd, 1) := by decide +kernel
theorem d4_46 : decode prog_33_method_5_code 46 = .ok (.i2d, 1) := by decide +kernel
theorem d4_47 : decode prog_33_method_5_code 47 = .ok (.ddiv, 1) := by decide +kernel
theorem d4_48 : decode prog_33_method_5_code 48 = .ok (.dadd, 1) := by decide +kernel
theorem d4_49 : decode prog_33_method_5_code 49 = .ok (.dstore_n 1, 1) := by decide +kernel
theorem d4_50 : decode prog_33_method_5_code 50 = .ok (.iinc 4 1, 3) := by decide +kernel
theorem d4_53 : decode prog_33_method_5_code 53 = .ok (.goto (-37), 3) := by decide +kernel
theorem d4_56 : decode prog_33_method_5_code 56 = .ok (.dload_n 1, 1) := by decide +kernel
theorem d4_57 : decode prog_33_method_5_code 57 = .ok (.aload_n 0, 1) := by decide +kernel
theorem d4_58 : decode prog_33_method_5_code 58 = .ok (.getfield 13, 3) := by decide +kernel
theorem d4_61 : decode prog_33_method_5_code 61 = .ok (.i2d, 1) := by decide +kernel
theorem d4_62 : decode prog_33_method_5_code 62 = .ok (.ddiv, 1) := by decide +kernel
theorem d4_63 : decode prog_33_method_5_code 63 = .ok (.dreturn, 1) := by decide +kernel
theorem ef_0 (m : MethodId) (x0 : Int32) (x1 : Int32) : entryFrame m #[(.int x0), (.int x1)] maxLocals = mkF m 0 #[.val (.int x0), .val (.int x1), .unset, .unset, .unset, .unset, .unset, .unset, .unset, .unset, .unset, .unset, .unset, .unset] [] := by first | (simp [entryFrame, mkF, argsToLocals, Value.category, maxLocals]; done) | rfl
theorem pn_com_example_vervet_vervet_core_RankedTopicAveragePrecisionPinLaw : plainName "com/example/vervet/vervet/core/RankedTopicAveragePrecisionPinLaw" = true := by first | (simp [plainName, overriddenIn]; done) | decide +kernel
theorem pd__28II_29I : parseMethodDescriptor "(II)I" = some ⟨[.int, .int], some .int⟩ := by decide +kernel
theorem pd__28_5bZI_29V : parseMethodDescriptor "([ZI)V" = some ⟨[(.array .boolean), .int], none⟩ := by decide +kernel
theorem pd__28_29D : parseMethodDescriptor "()D" = some ⟨[], some .double⟩ := by decide +kernel
def Q1 (Z : State) (p1 p2 : Int32) (h0 : Heap) (n0 : Nat) (v : Option Value) (h : Heap) (L : List Loc) : Prop := v = some (.int (if p1 < p2 then p2 else p1)) ∧ Fr n0 L ∧ h = h0
set_option maxRecDepth 65536 in
set_option maxHeartbeats 40000000 in
theorem rm1 (l : Launch) (Z : State) (a0 : Array Value) (hw : ∀ d ∈ tables_1, d.before a0 Z = true) (ws : List Jvm.Cond) (p1 : Int32) (p2 : Int32)  (h0 : Heap) (n0 : Nat) (Z0 : n0 ≤ h0.size)  :
    MetFree l (⟨"java/lang/Math", "max", "(II)I"⟩ : MethodName) (head1 (Jvm.Cond.code (⟨"java/lang/Math", "max", "(II)I"⟩ : MethodName) jdk_29_method_65_code 2 (some .int) :: ws) ({ frames := 0, cells := 0, slots := 0, locals := 0 } : Room)) (fun a U => a = #[(.int p1), (.int p2)] ∧ Z.Warmed39 U.vm ∧ U.heap = h0) (fun _ _ _ _ _ => True) (fun _ U ou U' => ∃ v L, ou = .returned v ∧ Q1 Z p1 p2 h0 n0 v U'.heap L ∧ FrameEnd U ou U' L ({ frames := 0, cells := 0, slots := 0, locals := 0 } : Room).cells ({ frames := 0, cells := 0, slots := 0, locals := 0 } : Room).slots) := by
  refine MetFree.of_bodySF (JP.mathPlain rfl (by decide +kernel)) hisR ?_
  intro p e s m args below meth c s₁ Bd hml0 hP hK
  obtain ⟨rfl, hZ, hh⟩ := hP
  have hlk : meth.locks = false := by first | exact BodyLoose.notSynchronized Bd | exact Body.notSynchronized Bd
  have hx := Bd.exec
  have hby := Bd.bytes
  have hml : c.maxLocals = 2 := hml0
  have hown : s.vm.findClass "java/lang/Math" = some m.cls := findClass_of_methodNamed Bd.named
  have hnm := (name_of_methodNamed Bd.named Bd.method).1
  have X0 : Stand p l e ({ frames := 0, cells := 0, slots := 0, locals := 0 } : Room) s m #[(.int p1), (.int p2)] below meth c s₁ [] 0 0 := Stand.of_body Bd
  have e0 : s₁.heap = h0 := by rw [← hh, Bd.state]; rfl
  have N0 := Fr.nil n0
  refine own_open (fun G go fin => ?_)
  refine go (s₁.setTop (mkF m 0 #[.val (.int p1), .val (.int p2)] [])) _ (fun t9 k9 => castTop (ef_1 m p1 p2) k9) ?_
  refine go (s₁.setTop (mkF m 2 #[.val (.int p1), .val (.int p2)] [(.int p2), (.int p1)])) _ (fun t9 k9 => ?_) ?_
  · show Steps p.tables e below (s₁.setTop (mkF m 0 #[.val (.int p1), .val (.int p2)] [])) _
    refine XS.iloadN X0.here hx rfl (hb hby d1_0) rfl ?_
    show Steps p.tables e below (s₁.setTop (mkF m 1 #[.val (.int p1), .val (.int p2)] [(.int p1)])) _
    refine XS.iloadN X0.here hx rfl (hb hby d1_1) rfl ?_
    exact k9
  refine go (s₁.setTop (mkF m 10 #[.val (.int p1), .val (.int p2)] [(.int (if p1 < p2 then p2 else p1))])) _ (fun t9 k9 => ?_) ?_
  · by_cases h2_1 : p1 < p2
    · try (simp only [if_pos h2_1] at k9)
      show Steps p.tables e below (s₁.setTop (mkF m 2 #[.val (.int p1), .val (.int p2)] [(.int p2), (.int p1)])) _
      refine XS.icmpYes X0.here hx rfl (pc0 := 2) (pc' := 9) rfl (hb hby d1_2) rfl (tlt h2_1).1 (by decide) (by decide) ?_
      show Steps p.tables e below (s₁.setTop (mkF m 9 #[.val (.int p1), .val (.int p2)] [])) _
      refine XS.iloadN X0.here hx rfl (hb hby d1_9) rfl ?_
      exact k9
    · try (simp only [if_neg h2_1] at k9)
      show Steps p.tables e below (s₁.setTop (mkF m 2 #[.val (.int p1), .val (.int p2)] [(.int p2), (.int p1)])) _
      refine XS.icmpNo X0.here hx rfl (hb hby d1_2) rfl (flt h2_1).1 ?_
      show Steps p.tables e below (s₁.setTop (mkF m 5 #[.val (.int p1), .val (.int p2)] [])) _
      refine XS.iloadN X0.here hx rfl (hb hby d1_5) rfl ?_
      show Steps p.tables e below (s₁.setTop (mkF m 6 #[.val (.int p1), .val (.int p2)] [(.int p1)])) _
      refine XS.goto X0.here hx rfl (pc0 := 6) (pc' := 10) rfl (hb hby d1_6) (by decide) (by decide) ?_
      exact k9
  obtain ⟨fs, hr, hrun, hended, hW, hsame⟩ := X0.leave (v := some (.int (if p1 < p2 then p2 else p1))) (fun h => by rw [Bd.returns] at h; cases h) hlk
  refine fin _ ⟨_, _, retOut X0 hx (t := .int) Bd.returns rfl (Or.inl ⟨rfl, Or.inl rfl, _, rfl⟩) (hb hby d1_10) hr, hrun, hended, _, _, rfl, ?_, ⟨_, rfl⟩, hW, hsame.mono (by decide) (by decide)⟩
  show Q1 Z p1 p2 h0 n0 _ s₁.heap _
  rw [e0]
  exact ⟨rfl, N0, rfl⟩
def Q2 (Z : State) (a1 a2 : Addr) (p3 : Int32) (h0 : Heap) (n0 : Nat) (v : Option Value) (h : Heap) (L : List Loc) : Prop := v = none ∧ Fr n0 L ∧ Keep h0 h [a1] ∧ Exa Z h a1 "com/example/vervet/vervet/core/RankedTopic" ∧ Fld Z h a1 "com/example/vervet/vervet/core/RankedTopic" "relevant" "[Z" (.ref a2) ∧ Fld Z h a1 "com/example/vervet/vervet/core/RankedTopic" "relevantCount" "I" (.int p3)
set_option maxRecDepth 65536 in
set_option maxHeartbeats 40000000 in
theorem rm2 (l : Launch) (Z : State) (a0 : Array Value) (hw : ∀ d ∈ tables_1, d.before a0 Z = true) (ws : List Jvm.Cond) (a1 : Addr) (a2 : Addr) (p3 : Int32)  (h0 : Heap) (n0 : Nat) (Z0 : n0 ≤ h0.size) (E_a1 : Exa Z h0 a1 "com/example/vervet/vervet/core/RankedTopic") (F1 : Fld Z h0 a1 "com/example/vervet/vervet/core/RankedTopic" "relevant" "[Z" .null) (F2 : Fld Z h0 a1 "com/example/vervet/vervet/core/RankedTopic" "relevantCount" "I" (.int (0 : Int32))) (g_a1 : n0 ≤ a1) :
    MetFree l (⟨"com/example/vervet/vervet/core/RankedTopic", "<init>", "([ZI)V"⟩ : MethodName) (head1 (Jvm.Cond.code (⟨"com/example/vervet/vervet/core/RankedTopic", "<init>", "([ZI)V"⟩ : MethodName) prog_33_method_1_code 3 none :: ws) ({ frames := 1, cells := 0, slots := 0, locals := 12 } : Room)) (fun a U => a = #[(.ref a1), (.ref a2), (.int p3)] ∧ Z.Warmed39 U.vm ∧ U.heap = h0) (fun _ _ _ _ _ => True) (fun _ U ou U' => ∃ v L, ou = .returned v ∧ Q2 Z a1 a2 p3 h0 n0 v U'.heap L ∧ FrameEnd U ou U' L ({ frames := 1, cells := 0, slots := 0, locals := 12 } : Room).cells ({ frames := 1, cells := 0, slots := 0, locals := 12 } : Room).slots) := by
  refine MetFree.of_bodySF (plainFor_of_name pn_com_example_vervet_vervet_core_RankedTopic) hisR ?_
  intro p e s m args below meth c s₁ Bd hml0 hP hK
  obtain ⟨rfl, hZ, hh⟩ := hP
  have hlk : meth.locks = false := by first | exact BodyLoose.notSynchronized Bd | exact Body.notSynchronized Bd
  have hx := Bd.exec
  have hby := Bd.bytes
  have hml : c.maxLocals = 3 := hml0
  have hown : s.vm.findClass "com/example/vervet/vervet/core/RankedTopic" = some m.cls := findClass_of_methodNamed Bd.named
  have hnm := (name_of_methodNamed Bd.named Bd.method).1
  have X0 : Stand p l e ({ frames := 1, cells := 0, slots := 0, locals := 12 } : Room) s m #[(.ref a1), (.ref a2), (.int p3)] below meth c s₁ [] 0 0 := Stand.of_body Bd
  have e0 : s₁.heap = h0 := by rw [← hh, Bd.state]; rfl
  have N0 := Fr.nil n0
  refine own_open (fun G go fin => ?_)
  refine go (s₁.setTop (mkF m 0 #[.val (.ref a1), .val (.ref a2), .val (.int p3)] [])) _ (fun t9 k9 => castTop (ef_2 m a1 a2 p3) k9) ?_
  refine go (s₁.setTop (mkF m 1 #[.val (.ref a1), .val (.ref a2), .val (.int p3)] [(.ref a1)])) _ (fun t9 k9 => ?_) ?_
  · show Steps p.tables e below (s₁.setTop (mkF m 0 #[.val (.ref a1), .val (.ref a2), .val (.int p3)] [])) _
    refine XS.aloadN X0.here hx rfl (hb hby d2_0) rfl rfl ?_
    exact k9
  obtain ⟨T1, X1, e1, st1⟩ := initO X0 hx hZ hown (hw _ (List.mem_of_getElem? (i := 12) rfl)) (hw _ (List.mem_of_getElem? (i := 13) rfl)) (hw _ (List.mem_of_getElem? (i := 14) rfl)) e0 (g := (mkF m 1 #[.val (.ref a1), .val (.ref a2), .val (.int p3)] [(.ref a1)])) rfl (by rw [hml]; rfl) rfl (hb hby d2_1) (by decide) (W := 0) (by show 2 * 0 + _ ≤ _; exact Nat.le_of_eq rfl) (by decide)
  refine go (T1.setTop (mkF m 4 #[.val (.ref a1), .val (.ref a2), .val (.int p3)] [])) _ (fun t9 k9 => st1 _ k9) ?_
  refine go (T1.setTop (mkF m 6 #[.val (.ref a1), .val (.ref a2), .val (.int p3)] [(.ref a2), (.ref a1)])) _ (fun t9 k9 => ?_) ?_
  · show Steps p.tables e below (T1.setTop (mkF m 4 #[.val (.ref a1), .val (.ref a2), .val (.int p3)] [])) _
    refine XS.aloadN X1.here hx rfl (hb hby d2_4) rfl rfl ?_
    show Steps p.tables e below (T1.setTop (mkF m 5 #[.val (.ref a1), .val (.ref a2), .val (.int p3)] [(.ref a1)])) _
    refine XS.aloadN X1.here hx rfl (hb hby d2_5) rfl rfl ?_
    exact k9
  obtain ⟨T2, h2, X2, e2, W2, st2⟩ := putF X1 hx hZ hown (host := "") (Or.inl (hw _ (List.mem_of_getElem? (i := 15) rfl))) Via.refl e1 F1 E_a1 (Or.inr ⟨(hw _ (List.mem_of_getElem? (i := 16) rfl)), rfl, hnm⟩) (hw _ (List.mem_of_getElem? (i := 7) rfl)) (ty := (.array .boolean)) (by decide) rfl rfl (g := (mkF m 6 #[.val (.ref a1), .val (.ref a2), .val (.int p3)] [(.ref a2), (.ref a1)])) rfl rfl (hb hby d2_6)
  have N2 := Fr.snoc X2 N0 g_a1
  refine go (T2.setTop (mkF m 9 #[.val (.ref a1), .val (.ref a2), .val (.int p3)] [])) _ (fun t9 k9 => st2 _ k9) ?_
  have u3 : Exa Z h2 a1 "com/example/vervet/vervet/core/RankedTopic" := E_a1.wr W2
  have u4 : Fld Z h2 a1 "com/example/vervet/vervet/core/RankedTopic" "relevant" "[Z" (.ref a2) := F1.same W2
  have u5 : Fld Z h2 a1 "com/example/vervet/vervet/core/RankedTopic" "relevantCount" "I" (.int (0 : Int32)) := F2.other W2 (Or.inr (slot_ne (Or.inr (hw _ (List.mem_of_getElem? (i := 18) rfl))) (Or.inr (hw _ (List.mem_of_getElem? (i := 16) rfl))) (by decide) (t := .int) (t' := (.array .boolean)) (by decide) (by decide)))
  have u6 : Keep h0 h2 [a1] := (Keep.refl h0 [a1]).wr W2 (Or.inl (List.mem_of_getElem? (i := 0) rfl))
  refine go (T2.setTop (mkF m 11 #[.val (.ref a1), .val (.ref a2), .val (.int p3)] [(.int p3), (.ref a1)])) _ (fun t9 k9 => ?_) ?_
  · show Steps p.tables e below (T2.setTop (mkF m 9 #[.val (.ref a1), .val (.ref a2), .val (.int p3)] [])) _
    refine XS.aloadN X2.here hx rfl (hb hby d2_9) rfl rfl ?_
    show Steps p.tables e below (T2.setTop (mkF m 10 #[.val (.ref a1), .val (.ref a2), .val (.int p3)] [(.ref a1)])) _
    refine XS.iloadN X2.here hx rfl (hb hby d2_10) rfl ?_
    exact k9
  obtain ⟨T7, h7, X7, e7, W7, st7⟩ := putF X2 hx hZ hown (host := "") (Or.inl (hw _ (List.mem_of_getElem? (i := 17) rfl))) Via.refl e2 u5 u3 (Or.inr ⟨(hw _ (List.mem_of_getElem? (i := 18) rfl)), rfl, hnm⟩) (hw _ (List.mem_of_getElem? (i := 7) rfl)) (ty := .int) (by decide) rfl rfl (g := (mkF m 11 #[.val (.ref a1), .val (.ref a2), .val (.int p3)] [(.int p3), (.ref a1)])) rfl rfl (hb hby d2_11)
  have N7 := Fr.snoc X7 N2 g_a1
  refine go (T7.setTop (mkF m 14 #[.val (.ref a1), .val (.ref a2), .val (.int p3)] [])) _ (fun t9 k9 => st7 _ k9) ?_
  have u8 : Exa Z h7 a1 "com/example/vervet/vervet/core/RankedTopic" := u3.wr W7
  have u9 : Fld Z h7 a1 "com/example/vervet/vervet/core/RankedTopic" "relevant" "[Z" (.ref a2) := u4.other W7 (Or.inr (slot_ne (Or.inr (hw _ (List.mem_of_getElem? (i := 16) rfl))) (Or.inr (hw _ (List.mem_of_getElem? (i := 18) rfl))) (by decide) (t := (.array .boolean)) (t' := .int) (by decide) (by decide)))
  have u10 : Fld Z h7 a1 "com/example/vervet/vervet/core/RankedTopic" "relevantCount" "I" (.int p3) := u5.same W7
  have u11 : Keep h0 h7 [a1] := u6.wr W7 (Or.inl (List.mem_of_getElem? (i := 0) rfl))
  obtain ⟨fs, hr, hrun, hended, hW, hsame⟩ := X7.leave (v := none) (fun h => by rfl) hlk
  refine fin _ ⟨_, _, X7.returnOut hx Bd.returns (hb hby d2_14) hr, hrun, hended, _, _, rfl, ?_, ⟨_, rfl⟩, hW, hsame.mono (by decide) (by decide)⟩
  show Q2 Z a1 a2 p3 h0 n0 _ T7.heap _
  rw [e7]
  exact ⟨rfl, N7, u11, u8, u9, u10⟩
def Q4 (Z : State) (f : Nat → Int32) (cnt : Int32) (h0 : Heap) (n0 : Nat) (v : Option Value) (h : Heap) (L : List Loc) : Prop := v = some (.double (if cnt = (0 : Int32) then (0 : UInt64) else (FP.ddiv (own_S5 (f 0) (f 1) (f 2) (f 3) (f 4)) (FP.i2d cnt)))) ∧ Fr n0 L ∧ h = h0
set_option maxRecDepth 65536 in
set_option maxHeartbeats 40000000 in
theorem rm4 (l : Launch) (Z : State) (a0 : Array Value) (hw : ∀ d ∈ tables_1, d.before a0 Z = true) (ws : List Jvm.Cond) (a1 : Addr) (b : Addr) (f : Nat → Int32) (cnt : Int32) (h0 : Heap) (n0 : Nat) (Z0 : n0 ≤ h0.size) (F1 : Fld Z h0 a1 "com/example/vervet/vervet/core/RankedTopic" "relevant" "[Z" (.ref b)) (F2 : Fld Z h0 a1 "com/example/vervet/vervet/core/RankedTopic" "relevantCount" "I" (.int cnt)) (V1 : own_A Z h0 b .boolean 5 (fun j => .int (f j))) :
    MetFree l (⟨"com/example/vervet/vervet/core/RankedTopic", "averagePrecision", "()D"⟩ : MethodName) (head1 (Jvm.Cond.code (⟨"com/example/vervet/vervet/core/RankedTopic", "averagePrecision", "()D"⟩ : MethodName) prog_33_method_5_code 5 (some .double) :: ws) ({ frames := 0, cells := 0, slots := 0, locals := 0 } : Room)) (fun a U => a = #[(.ref a1)] ∧ Z.Warmed39 U.vm ∧ U.heap = h0) (fun _ _ _ _ _ => True) (fun _ U ou U' => ∃ v L, ou = .returned v ∧ Q4 Z f cnt h0 n0 v U'.heap L ∧ FrameEnd U ou U' L ({ frames := 0, cells := 0, slots := 0, locals := 0 } : Room).cells ({ frames := 0, cells := 0, slots := 0, locals := 0 } : Room).slots) := by
  refine MetFree.of_bodySF (plainFor_of_name pn_com_example_vervet_vervet_core_RankedTopic) hisR ?_
  intro p e s m args below meth c s₁ Bd hml0 hP hK
  obtain ⟨rfl, hZ, hh⟩ := hP
  have hlk : meth.locks = false := by first | exact BodyLoose.notSynchronized Bd | exact Body.notSynchronized Bd
  have hx := Bd.exec
  have hby := Bd.bytes
  have hml : c.maxLocals = 5 := hml0
  have hown : s.vm.findClass "com/example/vervet/vervet/core/RankedTopic" = some m.cls := findClass_of_methodNamed Bd.named
  have hnm := (name_of_methodNamed Bd.named Bd.method).1
  have X0 : Stand p l e ({ frames := 0, cells := 0, slots := 0, locals := 0 } : Room) s m #[(.ref a1)] below meth c s₁ [] 0 0 := Stand.of_body Bd
  have e0 : s₁.heap = h0 := by rw [← hh, Bd.state]; rfl
  have N0 := Fr.nil n0
  refine own_open (fun G go fin => ?_)
  refine go (s₁.setTop (mkF m 0 #[.val (.ref a1), .unset, .unset, .unset, .unset] [])) _ (fun t9 k9 => castTop (ef_4 m a1) k9) ?_
  refine go (s₁.setTop (mkF m 1 #[.val (.ref a1), .unset, .unset, .unset, .unset] [(.ref a1)])) _ (fun t9 k9 => ?_) ?_
  · show Steps p.tables e below (s₁.setTop (mkF m 0 #[.val (.ref a1), .unset, .unset, .unset, .unset] [])) _
    refine XS.aloadN X0.here hx rfl (hb hby d4_0) rfl rfl ?_
    exact k9
  obtain ⟨T12, X12, e12, st12⟩ := getF X0 hx hZ hown (host := "") (Or.inl (hw _ (List.mem_of_getElem? (i := 17) rfl))) Via.refl e0 F2 (g := (mkF m 1 #[.val (.ref a1), .unset, .unset, .unset, .unset] [(.ref a1)])) rfl rfl (hb hby d4_1)
  refine go (T12.setTop (mkF m 4 #[.val (.ref a1), .unset, .unset, .unset, .unset] [(.int cnt)])) _ (fun t9 k9 => st12 _ k9) ?_
  by_cases hcz : cnt = (0 : Int32)
  · refine go (T12.setTop (mkF m 8 #[.val (.ref a1), .unset, .unset, .unset, .unset] [(.double (0 : UInt64))])) _ (fun t9 k9 => ?_) ?_
    · show Steps p.tables e below (T12.setTop (mkF m 4 #[.val (.ref a1), .unset, .unset, .unset, .unset] [(.int cnt)])) _
      refine XS.ifNo X12.here hx rfl (hb hby d4_4) rfl ((if0 _ _).trans (teq hcz).2) ?_
      show Steps p.tables e below (T12.setTop (mkF m 7 #[.val (.ref a1), .unset, .unset, .unset, .unset] [])) _
      refine XS.dconst0 X12.here hx rfl (hb hby d4_7) rfl ?_
      exact k9
    obtain ⟨fs, hr, hrun, hended, hW, hsame⟩ := X12.leave (v := some (.double (0 : UInt64))) (fun h => by rw [Bd.returns] at h; cases h) hlk
    refine fin _ ⟨_, _, retOut X12 hx (t := .double) Bd.returns rfl (Or.inr (Or.inr (Or.inl ⟨rfl, rfl, _, rfl⟩))) (hb hby d4_8) hr, hrun, hended, _, _, rfl, ?_, ⟨_, rfl⟩, hW, hsame.mono (by decide) (by decide)⟩
    show Q4 Z f cnt h0 n0 _ T12.heap _
    rw [e12]
    exact ⟨by rw [if_pos hcz], N0, rfl⟩
  · refine go (T12.setTop (mkF m 16 #[.val (.ref a1), .val (.double (0 : UInt64)), .second, .val (.int (0 : Int32)), .val (.int (0 : Int32))] [])) _ (fun t9 k9 => ?_) ?_
    · show Steps p.tables e below (T12.setTop (mkF m 4 #[.val (.ref a1), .unset, .unset, .unset, .unset] [(.int cnt)])) _
      refine XS.ifYes X12.here hx rfl (pc0 := 4) (pc' := 9) rfl (hb hby d4_4) rfl ((if0 _ _).trans (feq hcz).2) (by decide) (by decide) ?_
      show Steps p.tables e below (T12.setTop (mkF m 9 #[.val (.ref a1), .unset, .unset, .unset, .unset] [])) _
      refine XS.dconst0 X12.here hx rfl (hb hby d4_9) rfl ?_
      show Steps p.tables e below (T12.setTop (mkF m 10 #[.val (.ref a1), .unset, .unset, .unset, .unset] [(.double (0 : UInt64))])) _
      refine XS.dstoreN X12.here hx rfl (hb hby d4_10) rfl (l' := #[.val (.ref a1), .val (.double (0 : UInt64)), .second, .unset, .unset]) rfl ?_
      show Steps p.tables e below (T12.setTop (mkF m 11 #[.val (.ref a1), .val (.double (0 : UInt64)), .second, .unset, .unset] [])) _
      refine XS.iconst X12.here hx rfl (hb hby d4_11) ?_
      show Steps p.tables e below (T12.setTop (mkF m 12 #[.val (.ref a1), .val (.double (0 : UInt64)), .second, .unset, .unset] [(.int (0 : Int32))])) _
      refine XS.istoreN X12.here hx rfl (hb hby d4_12) rfl (l' := #[.val (.ref a1), .val (.double (0 : UInt64)), .second, .val (.int (0 : Int32)), .unset]) rfl ?_
      show Steps p.tables e below (T12.setTop (mkF m 13 #[.val (.ref a1), .val (.double (0 : UInt64)), .second, .val (.int (0 : Int32)), .unset] [])) _
      refine XS.iconst X12.here hx rfl (hb hby d4_13) ?_
      show Steps p.tables e below (T12.setTop (mkF m 14 #[.val (.ref a1), .val (.double (0 : UInt64)), .second, .val (.int (0 : Int32)), .unset] [(.int (0 : Int32))])) _
      refine XS.istore X12.here hx rfl (hb hby d4_14) rfl (l' := #[.val (.ref a1), .val (.double (0 : UInt64)), .second, .val (.int (0 : Int32)), .val (.int (0 : Int32))]) rfl ?_
      exact k9
    have hm0 := own_zero_mag
    refine go (T12.setTop (mkF m 19 #[.val (.ref a1), .val (.double (0 : UInt64)), .second, .val (.int (0 : Int32)), .val (.int (0 : Int32))] [(.ref a1), (.int (0 : Int32))])) _ (fun t9 k9 => ?_) ?_
    · show Steps p.tables e below (T12.setTop (mkF m 16 #[.val (.ref a1), .val (.double (0 : UInt64)), .second, .val (.int (0 : Int32)), .val (.int (0 : Int32))] [])) _
      refine XS.iload X12.here hx rfl (hb hby d4_16) rfl ?_
      show Steps p.tables e below (T12.setTop (mkF m 18 #[.val (.ref a1), .val (.double (0 : UInt64)), .second, .val (.int (0 : Int32)), .val (.int (0 : Int32))] [(.int (0 : Int32))])) _
      refine XS.aloadN X12.here hx rfl (hb hby d4_18) rfl rfl ?_
      exact k9
    obtain ⟨T13, X13, e13, st13⟩ := getF X12 hx hZ hown (host := "") (Or.inl (hw _ (List.mem_of_getElem? (i := 15) rfl))) Via.refl e12 F1 (g := (mkF m 19 #[.val (.ref a1), .val (.double (0 : UInt64)), .second, .val (.int (0 : Int32)), .val (.int (0 : Int32))] [(.ref a1), (.int (0 : Int32))])) rfl rfl (hb hby d4_19)
    refine go (T13.setTop (mkF m 22 #[.val (.ref a1), .val (.double (0 : UInt64)), .second, .val (.int (0 : Int32)), .val (.int (0 : Int32))] [(.ref b), (.int (0 : Int32))])) _ (fun t9 k9 => st13 _ k9) ?_
    obtain ⟨cl14, Ar14, Sz14, Hv14⟩ := V1
    have u15 : own_A Z h0 b .boolean 5 (fun j => .int (f j)) := ⟨cl14, Ar14, Sz14, Hv14⟩
    refine go (T13.setTop (mkF m 27 #[.val (.ref a1), .val (.double (0 : UInt64)), .second, .val (.int (0 : Int32)), .val (.int (0 : Int32))] [(.ref a1)])) _ (fun t9 k9 => ?_) ?_
    · show Steps p.tables e below (T13.setTop (mkF m 22 #[.val (.ref a1), .val (.double (0 : UInt64)), .second, .val (.int (0 : Int32)), .val (.int (0 : Int32))] [(.ref b), (.int (0 : Int32))])) _
      refine X13.arraylength hx (by rw [e13]; exact Ar14.1) (State.isArrayOf_alike hZ.alike Ar14.2.1) (g := (mkF m 22 #[.val (.ref a1), .val (.double (0 : UInt64)), .second, .val (.int (0 : Int32)), .val (.int (0 : Int32))] [(.ref b), (.int (0 : Int32))])) rfl (rest := [(.int (0 : Int32))]) rfl (hb hby d4_22) _ ?_
      rw [len_of (z := (5 : Int32)) (Sz14.trans rfl) (by decide)]
      show Steps p.tables e below (T13.setTop (mkF m 23 #[.val (.ref a1), .val (.double (0 : UInt64)), .second, .val (.int (0 : Int32)), .val (.int (0 : Int32))] [(.int (5 : Int32)), (.int (0 : Int32))])) _
      refine XS.icmpNo X13.here hx rfl (hb hby d4_23) rfl (tlt (by decide : (0 : Int32) < (5 : Int32))).2.1 ?_
      show Steps p.tables e below (T13.setTop (mkF m 26 #[.val (.ref a1), .val (.double (0 : UInt64)), .second, .val (.int (0 : Int32)), .val (.int (0 : Int32))] [])) _
      refine XS.aloadN X13.here hx rfl (hb hby d4_26) rfl rfl ?_
      exact k9
    obtain ⟨T16, X16, e16, st16⟩ := getF X13 hx hZ hown (host := "") (Or.inl (hw _ (List.mem_of_getElem? (i := 15) rfl))) Via.refl e13 F1 (g := (mkF m 27 #[.val (.ref a1), .val (.double (0 : UInt64)), .second, .val (.int (0 : Int32)), .val (.int (0 : Int32))] [(.ref a1)])) rfl rfl (hb hby d4_27)
    refine go (T16.setTop (mkF m 30 #[.val (.ref a1), .val (.double (0 : UInt64)), .second, .val (.int (0 : Int32)), .val (.int (0 : Int32))] [(.ref b)])) _ (fun t9 k9 => st16 _ k9) ?_
    refine go (T16.setTop (mkF m 32 #[.val (.ref a1), .val (.double (0 : UInt64)), .second, .val (.int (0 : Int32)), .val (.int (0 : Int32))] [(.int (0 : Int32)), (.ref b)])) _ (fun t9 k9 => ?_) ?_
    · show Steps p.tables e below (T16.setTop (mkF m 30 #[.val (.ref a1), .val (.double (0 : UInt64)), .second, .val (.int (0 : Int32)), .val (.int (0 : Int32))] [(.ref b)])) _
      refine XS.iload X16.here hx rfl (hb hby d4_30) rfl ?_
      exact k9
    obtain ⟨cl17, Ar17, Sz17, Hv17⟩ := u15
    have u18 : own_A Z h0 b .boolean 5 (fun j => .int (f j)) := ⟨cl17, Ar17, Sz17, Hv17⟩
    refine go (T16.setTop (mkF m 33 #[.val (.ref a1), .val (.double (0 : UInt64)), .second, .val (.int (0 : Int32)), .val (.int (0 : Int32))] [(.int (f 0))])) _ (fun t9 k9 => ?_) ?_
    · show Steps p.tables e below (T16.setTop (mkF m 32 #[.val (.ref a1), .val (.double (0 : UInt64)), .second, .val (.int (0 : Int32)), .val (.int (0 : Int32))] [(.int (0 : Int32)), (.ref b)])) _
      refine X16.baloadBooleans hx (j := (0 : Int32)) (v := (.int (f 0))) (by rw [e16]; exact Ar17.1) (State.isArrayOf_alike hZ.alike Ar17.2.1) Ar17.2.2 (own_hin Sz17 (by decide) (by decide)) ((Hv17 _ (by decide)).trans (congrArg some (rfl))) (g := (mkF m 32 #[.val (.ref a1), .val (.double (0 : UInt64)), .second, .val (.int (0 : Int32)), .val (.int (0 : Int32))] [(.int (0 : Int32)), (.ref b)])) rfl rfl (hb hby d4_32) _ ?_
      exact k9
    refine go (T16.setTop (mkF m 50 #[.val (.ref a1), .val (.double (if (f 0) = (0 : Int32) then (0 : UInt64) else (FP.dadd (0 : UInt64) (FP.ddiv (FP.i2d ((0 : Int32) + (1 : Int32))) (FP.i2d (1 : Int32)))))), .second, .val (.int (if (f 0) = (0 : Int32) then (0 : Int32) else ((0 : Int32) + (1 : Int32)))), .val (.int (0 : Int32))] [])) _ (fun t9 k9 => ?_) ?_
    · by_cases h33_1 : (f 0) = (0 : Int32)
      · try (simp only [if_pos h33_1] at k9)
        show Steps p.tables e below (T16.setTop (mkF m 33 #[.val (.ref a1), .val (.double (0 : UInt64)), .second, .val (.int (0 : Int32)), .val (.int (0 : Int32))] [(.int (f 0))])) _
        refine XS.ifYes X16.here hx rfl (pc0 := 33) (pc' := 50) rfl (hb hby d4_33) rfl ((if0 _ _).trans (teq h33_1).1) (by decide) (by decide) ?_
        exact k9
      · try (simp only [if_neg h33_1] at k9)
        show Steps p.tables e below (T16.setTop (mkF m 33 #[.val (.ref a1), .val (.double (0 : UInt64)), .second, .val (.int (0 : Int32)), .val (.int (0 : Int32))] [(.int (f 0))])) _
        refine XS.ifNo X16.here hx rfl (hb hby d4_33) rfl ((if0 _ _).trans (feq h33_1).1) ?_
        show Steps p.tables e below (T16.setTop (mkF m 36 #[.val (.ref a1), .val (.double (0 : UInt64)), .second, .val (.int (0 : Int32)), .val (.int (0 : Int32))] [])) _
        refine XS.iinc X16.here hx rfl (hb hby d4_36) rfl (l' := #[.val (.ref a1), .val (.double (0 : UInt64)), .second, .val (.int ((0 : Int32) + (1 : Int32))), .val (.int (0 : Int32))]) rfl ?_
        show Steps p.tables e below (T16.setTop (mkF m 39 #[.val (.ref a1), .val (.double (0 : UInt64)), .second, .val (.int ((0 : Int32) + (1 : Int32))), .val (.int (0 : Int32))] [])) _
        refine XS.dloadN X16.here hx rfl (hb hby d4_39) rfl ?_
        show Steps p.tables e below (T16.setTop (mkF m 40 #[.val (.ref a1), .val (.double (0 : UInt64)), .second, .val (.int ((0 : Int32) + (1 : Int32))), .val (.int (0 : Int32))] [(.double (0 : UInt64))])) _
        refine XS.iloadN X16.here hx rfl (hb hby d4_40) rfl ?_
        show Steps p.tables e below (T16.setTop (mkF m 41 #[.val (.ref a1), .val (.double (0 : UInt64)), .second, .val (.int ((0 : Int32) + (1 : Int32))), .val (.int (0 : Int32))] [(.int ((0 : Int32) + (1 : Int32))), (.double (0 : UInt64))])) _
        refine XS.i2dS X16.here hx rfl (hb hby d4_41) rfl rfl ?_
        show Steps p.tables e below (T16.setTop (mkF m 42 #[.val (.ref a1), .val (.double (0 : UInt64)), .second, .val (.int ((0 : Int32) + (1 : Int32))), .val (.int (0 : Int32))] [(.double (FP.i2d ((0 : Int32) + (1 : Int32)))), (.double (0 : UInt64))])) _
        refine XS.iload X16.here hx rfl (hb hby d4_42) rfl ?_
        show Steps p.tables e below (T16.setTop (mkF m 44 #[.val (.ref a1), .val (.double (0 : UInt64)), .second, .val (.int ((0 : Int32) + (1 : Int32))), .val (.int (0 : Int32))] [(.int (0 : Int32)), (.double (FP.i2d ((0 : Int32) + (1 : Int32)))), (.double (0 : UInt64))])) _
        refine XS.iconst X16.here hx rfl (hb hby d4_44) ?_
        show Steps p.tables e below (T16.setTop (mkF m 45 #[.val (.ref a1), .val (.double (0 : UInt64)), .second, .val (.int ((0 : Int32) + (1 : Int32))), .val (.int (0 : Int32))] [(.int (1 : Int32)), (.int (0 : Int32)), (.double (FP.i2d ((0 : Int32) + (1 : Int32)))), (.double (0 : UInt64))])) _
        refine XS.iadd X16.here hx rfl (hb hby d4_45) rfl ?_
        show Steps p.tables e below (T16.setTop (mkF m 46 #[.val (.ref a1), .val (.double (0 : UInt64)), .second, .val (.int ((0 : Int32) + (1 : Int32))), .val (.int (0 : Int32))] [(.int (1 : Int32)), (.double (FP.i2d ((0 : Int32) + (1 : Int32)))), (.double (0 : UInt64))])) _
        refine XS.i2dS X16.here hx rfl (hb hby d4_46) rfl rfl ?_
        show Steps p.tables e below (T16.setTop (mkF m 47 #[.val (.ref a1), .val (.double (0 : UInt64)), .second, .val (.int ((0 : Int32) + (1 : Int32))), .val (.int (0 : Int32))] [(.double (FP.i2d (1 : Int32))), (.double (FP.i2d ((0 : Int32) + (1 : Int32)))), (.double (0 : UInt64))])) _
        refine XS.ddivS X16.here hx rfl (hb hby d4_47) rfl ((own_q_mag _ (1 : Int32) (by decide)).fin (by decide)).noNaN rfl ?_
        show Steps p.tables e below (T16.setTop (mkF m 48 #[.val (.ref a1), .val (.double (0 : UInt64)), .second, .val (.int ((0 : Int32) + (1 : Int32))), .val (.int (0 : Int32))] [(.double (FP.ddiv (FP.i2d ((0 : Int32) + (1 : Int32))) (FP.i2d (1 : Int32)))), (.double (0 : UInt64))])) _
        refine XS.daddS X16.here hx rfl (hb hby d4_48) rfl (own_d_mag (by decide) hm0 (by decide) (by decide)) rfl ?_
        show Steps p.tables e below (T16.setTop (mkF m 49 #[.val (.ref a1), .val (.double (0 : UInt64)), .second, .val (.int ((0 : Int32) + (1 : Int32))), .val (.int (0 : Int32))] [(.double (FP.dadd (0 : UInt64) (FP.ddiv (FP.i2d ((0 : Int32) + (1 : Int32))) (FP.i2d (1 : Int32)))))])) _
        refine XS.dstoreN X16.here hx rfl (hb hby d4_49) rfl (l' := #[.val (.ref a1), .val (.double (FP.dadd (0 : UInt64) (FP.ddiv (FP.i2d ((0 : Int32) + (1 : Int32))) (FP.i2d (1 : Int32))))), .second, .val (.int ((0 : Int32) + (1 : Int32))), .val (.int (0 : Int32))]) rfl ?_
        exact k9
    generalize hs1 : (if (f 0) = (0 : Int32) then (0 : UInt64) else (FP.dadd (0 : UInt64) (FP.ddiv (FP.i2d ((0 : Int32) + (1 : Int32))) (FP.i2d (1 : Int32))))) = s1'
    generalize hh1 : (if (f 0) = (0 : Int32) then (0 : Int32) else ((0 : Int32) + (1 : Int32))) = h1'
    have ks1 : own_s (f 0) (0 : Int32) (1 : Int32) (0 : UInt64) = s1' := hs1
    have kh1 : own_h (f 0) (0 : Int32) = h1' := hh1
    have hm1 : Mag64 1059 s1' := by rw [← ks1]; exact own_s_mag (by decide) hm0 (by decide) (by decide)
    refine go (T16.setTop (mkF m 19 #[.val (.ref a1), .val (.double s1'), .second, .val (.int h1'), .val (.int (1 : Int32))] [(.ref a1), (.int (1 : Int32))])) _ (fun t9 k9 => ?_) ?_
    · show Steps p.tables e below (T16.setTop (mkF m 50 #[.val (.ref a1), .val (.double s1'), .second, .val (.int h1'), .val (.int (0 : Int32))] [])) _
      refine XS.iinc X16.here hx rfl (hb hby d4_50) rfl (l' := #[.val (.ref a1), .val (.double s1'), .second, .val (.int h1'), .val (.int (1 : Int32))]) rfl ?_
      show Steps p.tables e below (T16.setTop (mkF m 53 #[.val (.ref a1), .val (.double s1'), .second, .val (.int h1'), .val (.int (1 : Int32))] [])) _
      refine XS.goto X16.here hx rfl (pc0 := 53) (pc' := 16) rfl (hb hby d4_53) (by decide) (by decide) ?_
      show Steps p.tables e below (T16.setTop (mkF m 16 #[.val (.ref a1), .val (.double s1'), .second, .val (.int h1'), .val (.int (1 : Int32))] [])) _
      refine XS.iload X16.here hx rfl (hb hby d4_16) rfl ?_
      show Steps p.tables e below (T16.setTop (mkF m 18 #[.val (.ref a1), .val (.double s1'), .second, .val (.int h1'), .val (.int (1 : Int32))] [(.int (1 : Int32))])) _
      refine XS.aloadN X16.here hx rfl (hb hby d4_18) rfl rfl ?_
      exact k9
    obtain ⟨T19, X19, e19, st19⟩ := getF X16 hx hZ hown (host := "") (Or.inl (hw _ (List.mem_of_getElem? (i := 15) rfl))) Via.refl e16 F1 (g := (mkF m 19 #[.val (.ref a1), .val (.double s1'), .second, .val (.int h1'), .val (.int (1 : Int32))] [(.ref a1), (.int (1 : Int32))])) rfl rfl (hb hby d4_19)
    refine go (T19.setTop (mkF m 22 #[.val (.ref a1), .val (.double s1'), .second, .val (.int h1'), .val (.int (1 : Int32))] [(.ref b), (.int (1 : Int32))])) _ (fun t9 k9 => st19 _ k9) ?_
    obtain ⟨cl20, Ar20, Sz20, Hv20⟩ := u18
    have u21 : own_A Z h0 b .boolean 5 (fun j => .int (f j)) := ⟨cl20, Ar20, Sz20, Hv20⟩
    refine go (T19.setTop (mkF m 27 #[.val (.ref a1), .val (.double s1'), .second, .val (.int h1'), .val (.int (1 : Int32))] [(.ref a1)])) _ (fun t9 k9 => ?_) ?_
    · show Steps p.tables e below (T19.setTop (mkF m 22 #[.val (.ref a1), .val (.double s1'), .second, .val (.int h1'), .val (.int (1 : Int32))] [(.ref b), (.int (1 : Int32))])) _
      refine X19.arraylength hx (by rw [e19]; exact Ar20.1) (State.isArrayOf_alike hZ.alike Ar20.2.1) (g := (mkF m 22 #[.val (.ref a1), .val (.double s1'), .second, .val (.int h1'), .val (.int (1 : Int32))] [(.ref b), (.int (1 : Int32))])) rfl (rest := [(.int (1 : Int32))]) rfl (hb hby d4_22) _ ?_
      rw [len_of (z := (5 : Int32)) (Sz20.trans rfl) (by decide)]
      show Steps p.tables e below (T19.setTop (mkF m 23 #[.val (.ref a1), .val (.double s1'), .second, .val (.int h1'), .val (.int (1 : Int32))] [(.int (5 : Int32)), (.int (1 : Int32))])) _
      refine XS.icmpNo X19.here hx rfl (hb hby d4_23) rfl (tlt (by decide : (1 : Int32) < (5 : Int32))).2.1 ?_
      show Steps p.tables e below (T19.setTop (mkF m 26 #[.val (.ref a1), .val (.double s1'), .second, .val (.int h1'), .val (.int (1 : Int32))] [])) _
      refine XS.aloadN X19.here hx rfl (hb hby d4_26) rfl rfl ?_
      exact k9
    obtain ⟨T22, X22, e22, st22⟩ := getF X19 hx hZ hown (host := "") (Or.inl (hw _ (List.mem_of_getElem? (i := 15) rfl))) Via.refl e19 F1 (g := (mkF m 27 #[.val (.ref a1), .val (.double s1'), .second, .val (.int h1'), .val (.int (1 : Int32))] [(.ref a1)])) rfl rfl (hb hby d4_27)
    refine go (T22.setTop (mkF m 30 #[.val (.ref a1), .val (.double s1'), .second, .val (.int h1'), .val (.int (1 : Int32))] [(.ref b)])) _ (fun t9 k9 => st22 _ k9) ?_
    refine go (T22.setTop (mkF m 32 #[.val (.ref a1), .val (.double s1'), .second, .val (.int h1'), .val (.int (1 : Int32))] [(.int (1 : Int32)), (.ref b)])) _ (fun t9 k9 => ?_) ?_
    · show Steps p.tables e below (T22.setTop (mkF m 30 #[.val (.ref a1), .val (.double s1'), .second, .val (.int h1'), .val (.int (1 : Int32))] [(.ref b)])) _
      refine XS.iload X22.here hx rfl (hb hby d4_30) rfl ?_
      exact k9
    obtain ⟨cl23, Ar23, Sz23, Hv23⟩ := u21
    have u24 : own_A Z h0 b .boolean 5 (fun j => .int (f j)) := ⟨cl23, Ar23, Sz23, Hv23⟩
    refine go (T22.setTop (mkF m 33 #[.val (.ref a1), .val (.double s1'), .second, .val (.int h1'), .val (.int (1 : Int32))] [(.int (f 1))])) _ (fun t9 k9 => ?_) ?_
    · show Steps p.tables e below (T22.setTop (mkF m 32 #[.val (.ref a1), .val (.double s1'), .second, .val (.int h1'), .val (.int (1 : Int32))] [(.int (1 : Int32)), (.ref b)])) _
      refine X22.baloadBooleans hx (j := (1 : Int32)) (v := (.int (f 1))) (by rw [e22]; exact Ar23.1) (State.isArrayOf_alike hZ.alike Ar23.2.1) Ar23.2.2 (own_hin Sz23 (by decide) (by decide)) ((Hv23 _ (by decide)).trans (congrArg some (rfl))) (g := (mkF m 32 #[.val (.ref a1), .val (.double s1'), .second, .val (.int h1'), .val (.int (1 : Int32))] [(.int (1 : Int32)), (.ref b)])) rfl rfl (hb hby d4_32) _ ?_
      exact k9
    refine go (T22.setTop (mkF m 50 #[.val (.ref a1), .val (.double (if (f 1) = (0 : Int32) then s1' else (FP.dadd s1' (FP.ddiv (FP.i2d (h1' + (1 : Int32))) (FP.i2d (2 : Int32)))))), .second, .val (.int (if (f 1) = (0 : Int32) then h1' else (h1' + (1 : Int32)))), .val (.int (1 : Int32))] [])) _ (fun t9 k9 => ?_) ?_
    · by_cases h33_1 : (f 1) = (0 : Int32)
      · try (simp only [if_pos h33_1] at k9)
        show Steps p.tables e below (T22.setTop (mkF m 33 #[.val (.ref a1), .val (.double s1'), .second, .val (.int h1'), .val (.int (1 : Int32))] [(.int (f 1))])) _
        refine XS.ifYes X22.here hx rfl (pc0 := 33) (pc' := 50) rfl (hb hby d4_33) rfl ((if0 _ _).trans (teq h33_1).1) (by decide) (by decide) ?_
        exact k9
      · try (simp only [if_neg h33_1] at k9)
        show Steps p.tables e below (T22.setTop (mkF m 33 #[.val (.ref a1), .val (.double s1'), .second, .val (.int h1'), .val (.int (1 : Int32))] [(.int (f 1))])) _
        refine XS.ifNo X22.here hx rfl (hb hby d4_33) rfl ((if0 _ _).trans (feq h33_1).1) ?_
        show Steps p.tables e below (T22.setTop (mkF m 36 #[.val (.ref a1), .val (.double s1'), .second, .val (.int h1'), .val (.int (1 : Int32))] [])) _
        refine XS.iinc X22.here hx rfl (hb hby d4_36) rfl (l' := #[.val (.ref a1), .val (.double s1'), .second, .val (.int (h1' + (1 : Int32))), .val (.int (1 : Int32))]) rfl ?_
        show Steps p.tables e below (T22.setTop (mkF m 39 #[.val (.ref a1), .val (.double s1'), .second, .val (.int (h1' + (1 : Int32))), .val (.int (1 : Int32))] [])) _
        refine XS.dloadN X22.here hx rfl (hb hby d4_39) rfl ?_
        show Steps p.tables e below (T22.setTop (mkF m 40 #[.val (.ref a1), .val (.double s1'), .second, .val (.int (h1' + (1 : Int32))), .val (.int (1 : Int32))] [(.double s1')])) _
        refine XS.iloadN X22.here hx rfl (hb hby d4_40) rfl ?_
        show Steps p.tables e below (T22.setTop (mkF m 41 #[.val (.ref a1), .val (.double s1'), .second, .val (.int (h1' + (1 : Int32))), .val (.int (1 : Int32))] [(.int (h1' + (1 : Int32))), (.double s1')])) _
        refine XS.i2dS X22.here hx rfl (hb hby d4_41) rfl rfl ?_
        show Steps p.tables e below (T22.setTop (mkF m 42 #[.val (.ref a1), .val (.double s1'), .second, .val (.int (h1' + (1 : Int32))), .val (.int (1 : Int32))] [(.double (FP.i2d (h1' + (1 : Int32)))), (.double s1')])) _
        refine XS.iload X22.here hx rfl (hb hby d4_42) rfl ?_
        show Steps p.tables e below (T22.setTop (mkF m 44 #[.val (.ref a1), .val (.double s1'), .second, .val (.int (h1' + (1 : Int32))), .val (.int (1 : Int32))] [(.int (1 : Int32)), (.double (FP.i2d (h1' + (1 : Int32)))), (.double s1')])) _
        refine XS.iconst X22.here hx rfl (hb hby d4_44) ?_
        show Steps p.tables e below (T22.setTop (mkF m 45 #[.val (.ref a1), .val (.double s1'), .second, .val (.int (h1' + (1 : Int32))), .val (.int (1 : Int32))] [(.int (1 : Int32)), (.int (1 : Int32)), (.double (FP.i2d (h1' + (1 : Int32)))), (.double s1')])) _
        refine XS.iadd X22.here hx rfl (hb hby d4_45) rfl ?_
        show Steps p.tables e below (T22.setTop (mkF m 46 #[.val (.ref a1), .val (.double s1'), .second, .val (.int (h1' + (1 : Int32))), .val (.int (1 : Int32))] [(.int (2 : Int32)), (.double (FP.i2d (h1' + (1 : Int32)))), (.double s1')])) _
        refine XS.i2dS X22.here hx rfl (hb hby d4_46) rfl rfl ?_
        show Steps p.tables e below (T22.setTop (mkF m 47 #[.val (.ref a1), .val (.double s1'), .second, .val (.int (h1' + (1 : Int32))), .val (.int (1 : Int32))] [(.double (FP.i2d (2 : Int32))), (.double (FP.i2d (h1' + (1 : Int32)))), (.double s1')])) _
        refine XS.ddivS X22.here hx rfl (hb hby d4_47) rfl ((own_q_mag _ (2 : Int32) (by decide)).fin (by decide)).noNaN rfl ?_
        show Steps p.tables e below (T22.setTop (mkF m 48 #[.val (.ref a1), .val (.double s1'), .second, .val (.int (h1' + (1 : Int32))), .val (.int (1 : Int32))] [(.double (FP.ddiv (FP.i2d (h1' + (1 : Int32))) (FP.i2d (2 : Int32)))), (.double s1')])) _
        refine XS.daddS X22.here hx rfl (hb hby d4_48) rfl (own_d_mag (by decide) hm1 (by decide) (by decide)) rfl ?_
        show Steps p.tables e below (T22.setTop (mkF m 49 #[.val (.ref a1), .val (.double s1'), .second, .val (.int (h1' + (1 : Int32))), .val (.int (1 : Int32))] [(.double (FP.dadd s1' (FP.ddiv (FP.i2d (h1' + (1 : Int32))) (FP.i2d (2 : Int32)))))])) _
        refine XS.dstoreN X22.here hx rfl (hb hby d4_49) rfl (l' := #[.val (.ref a1), .val (.double (FP.dadd s1' (FP.ddiv (FP.i2d (h1' + (1 : Int32))) (FP.i2d (2 : Int32))))), .second, .val (.int (h1' + (1 : Int32))), .val (.int (1 : Int32))]) rfl ?_
        exact k9
    generalize hs2 : (if (f 1) = (0 : Int32) then s1' else (FP.dadd s1' (FP.ddiv (FP.i2d (h1' + (1 : Int32))) (FP.i2d (2 : Int32))))) = s2'
    generalize hh2 : (if (f 1) = (0 : Int32) then h1' else (h1' + (1 : Int32))) = h2'
    have ks2 : own_s (f 1) h1' (2 : Int32) s1' = s2' := hs2
    have kh2 : own_h (f 1) h1' = h2' := hh2
    have hm2 : Mag64 1061 s2' := by rw [← ks2]; exact own_s_mag (by decide) hm1 (by decide) (by decide)
    refine go (T22.setTop (mkF m 19 #[.val (.ref a1), .val (.double s2'), .second, .val (.int h2'), .val (.int (2 : Int32))] [(.ref a1), (.int (2 : Int32))])) _ (fun t9 k9 => ?_) ?_
    · show Steps p.tables e below (T22.setTop (mkF m 50 #[.val (.ref a1), .val (.double s2'), .second, .val (.int h2'), .val (.int (1 : Int32))] [])) _
      refine XS.iinc X22.here hx rfl (hb hby d4_50) rfl (l' := #[.val (.ref a1), .val (.double s2'), .second, .val (.int h2'), .val (.int (2 : Int32))]) rfl ?_
      show Steps p.tables e below (T22.setTop (mkF m 53 #[.val (.ref a1), .val (.double s2'), .second, .val (.int h2'), .val (.int (2 : Int32))] [])) _
      refine XS.goto X22.here hx rfl (pc0 := 53) (pc' := 16) rfl (hb hby d4_53) (by decide) (by decide) ?_
      show Steps p.tables e below (T22.setTop (mkF m 16 #[.val (.ref a1), .val (.double s2'), .second, .val (.int h2'), .val (.int (2 : Int32))] [])) _
      refine XS.iload X22.here hx rfl (hb hby d4_16) rfl ?_
      show Steps p.tables e below (T22.setTop (mkF m 18 #[.val (.ref a1), .val (.double s2'), .second, .val (.int h2'), .val (.int (2 : Int32))] [(.int (2 : Int32))])) _
      refine XS.aloadN X22.here hx rfl (hb hby d4_18) rfl rfl ?_
      exact k9
    obtain ⟨T25, X25, e25, st25⟩ := getF X22 hx hZ hown (host := "") (Or.inl (hw _ (List.mem_of_getElem? (i := 15) rfl))) Via.refl e22 F1 (g := (mkF m 19 #[.val (.ref a1), .val (.double s2'), .second, .val (.int h2'), .val (.int (2 : Int32))] [(.ref a1), (.int (2 : Int32))])) rfl rfl (hb hby d4_19)
    refine go (T25.setTop (mkF m 22 #[.val (.ref a1), .val (.double s2'), .second, .val (.int h2'), .val (.int (2 : Int32))] [(.ref b), (.int (2 : Int32))])) _ (fun t9 k9 => st25 _ k9) ?_
    obtain ⟨cl26, Ar26, Sz26, Hv26⟩ := u24
    have u27 : own_A Z h0 b .boolean 5 (fun j => .int (f j)) := ⟨cl26, Ar26, Sz26, Hv26⟩
    refine go (T25.setTop (mkF m 27 #[.val (.ref a1), .val (.double s2'), .second, .val (.int h2'), .val (.int (2 : Int32))] [(.ref a1)])) _ (fun t9 k9 => ?_) ?_
    · show Steps p.tables e below (T25.setTop (mkF m 22 #[.val (.ref a1), .val (.double s2'), .second, .val (.int h2'), .val (.int (2 : Int32))] [(.ref b), (.int (2 : Int32))])) _
      refine X25.arraylength hx (by rw [e25]; exact Ar26.1) (State.isArrayOf_alike hZ.alike Ar26.2.1) (g := (mkF m 22 #[.val (.ref a1), .val (.double s2'), .second, .val (.int h2'), .val (.int (2 : Int32))] [(.ref b), (.int (2 : Int32))])) rfl (rest := [(.int (2 : Int32))]) rfl (hb hby d4_22) _ ?_
      rw [len_of (z := (5 : Int32)) (Sz26.trans rfl) (by decide)]
      show Steps p.tables e below (T25.setTop (mkF m 23 #[.val (.ref a1), .val (.double s2'), .second, .val (.int h2'), .val (.int (2 : Int32))] [(.int (5 : Int32)), (.int (2 : Int32))])) _
      refine XS.icmpNo X25.here hx rfl (hb hby d4_23) rfl (tlt (by decide : (2 : Int32) < (5 : Int32))).2.1 ?_
      show Steps p.tables e below (T25.setTop (mkF m 26 #[.val (.ref a1), .val (.double s2'), .second, .val (.int h2'), .val (.int (2 : Int32))] [])) _
      refine XS.aloadN X25.here hx rfl (hb hby d4_26) rfl rfl ?_
      exact k9
    obtain ⟨T28, X28, e28, st28⟩ := getF X25 hx hZ hown (host := "") (Or.inl (hw _ (List.mem_of_getElem? (i := 15) rfl))) Via.refl e25 F1 (g := (mkF m 27 #[.val (.ref a1), .val (.double s2'), .second, .val (.int h2'), .val (.int (2 : Int32))] [(.ref a1)])) rfl rfl (hb hby d4_27)
    refine go (T28.setTop (mkF m 30 #[.val (.ref a1), .val (.double s2'), .second, .val (.int h2'), .val (.int (2 : Int32))] [(.ref b)])) _ (fun t9 k9 => st28 _ k9) ?_
    refine go (T28.setTop (mkF m 32 #[.val (.ref a1), .val (.double s2'), .second, .val (.int h2'), .val (.int (2 : Int32))] [(.int (2 : Int32)), (.ref b)])) _ (fun t9 k9 => ?_) ?_
    · show Steps p.tables e below (T28.setTop (mkF m 30 #[.val (.ref a1), .val (.double s2'), .second, .val (.int h2'), .val (.int (2 : Int32))] [(.ref b)])) _
      refine XS.iload X28.here hx rfl (hb hby d4_30) rfl ?_
      exact k9
    obtain ⟨cl29, Ar29, Sz29, Hv29⟩ := u27
    have u30 : own_A Z h0 b .boolean 5 (fun j => .int (f j)) := ⟨cl29, Ar29, Sz29, Hv29⟩
    refine go (T28.setTop (mkF m 33 #[.val (.ref a1), .val (.double s2'), .second, .val (.int h2'), .val (.int (2 : Int32))] [(.int (f 2))])) _ (fun t9 k9 => ?_) ?_
    · show Steps p.tables e below (T28.setTop (mkF m 32 #[.val (.ref a1), .val (.double s2'), .second, .val (.int h2'), .val (.int (2 : Int32))] [(.int (2 : Int32)), (.ref b)])) _
      refine X28.baloadBooleans hx (j := (2 : Int32)) (v := (.int (f 2))) (by rw [e28]; exact Ar29.1) (State.isArrayOf_alike hZ.alike Ar29.2.1) Ar29.2.2 (own_hin Sz29 (by decide) (by decide)) ((Hv29 _ (by decide)).trans (congrArg some (rfl))) (g := (mkF m 32 #[.val (.ref a1), .val (.double s2'), .second, .val (.int h2'), .val (.int (2 : Int32))] [(.int (2 : Int32)), (.ref b)])) rfl rfl (hb hby d4_32) _ ?_
      exact k9
    refine go (T28.setTop (mkF m 50 #[.val (.ref a1), .val (.double (if (f 2) = (0 : Int32) then s2' else (FP.dadd s2' (FP.ddiv (FP.i2d (h2' + (1 : Int32))) (FP.i2d (3 : Int32)))))), .second, .val (.int (if (f 2) = (0 : Int32) then h2' else (h2' + (1 : Int32)))), .val (.int (2 : Int32))] [])) _ (fun t9 k9 => ?_) ?_
    · by_cases h33_1 : (f 2) = (0 : Int32)
      · try (simp only [if_pos h33_1] at k9)
        show Steps p.tables e below (T28.setTop (mkF m 33 #[.val (.ref a1), .val (.double s2'), .second, .val (.int h2'), .val (.int (2 : Int32))] [(.int (f 2))])) _
        refine XS.ifYes X28.here hx rfl (pc0 := 33) (pc' := 50) rfl (hb hby d4_33) rfl ((if0 _ _).trans (teq h33_1).1) (by decide) (by decide) ?_
        exact k9
      · try (simp only [if_neg h33_1] at k9)
        show Steps p.tables e below (T28.setTop (mkF m 33 #[.val (.ref a1), .val (.double s2'), .second, .val (.int h2'), .val (.int (2 : Int32))] [(.int (f 2))])) _
        refine XS.ifNo X28.here hx rfl (hb hby d4_33) rfl ((if0 _ _).trans (feq h33_1).1) ?_
        show Steps p.tables e below (T28.setTop (mkF m 36 #[.val (.ref a1), .val (.double s2'), .second, .val (.int h2'), .val (.int (2 : Int32))] [])) _
        refine XS.iinc X28.here hx rfl (hb hby d4_36) rfl (l' := #[.val (.ref a1), .val (.double s2'), .second, .val (.int (h2' + (1 : Int32))), .val (.int (2 : Int32))]) rfl ?_
        show Steps p.tables e below (T28.setTop (mkF m 39 #[.val (.ref a1), .val (.double s2'), .second, .val (.int (h2' + (1 : Int32))), .val (.int (2 : Int32))] [])) _
        refine XS.dloadN X28.here hx rfl (hb hby d4_39) rfl ?_
        show Steps p.tables e below (T28.setTop (mkF m 40 #[.val (.ref a1), .val (.double s2'), .second, .val (.int (h2' + (1 : Int32))), .val (.int (2 : Int32))] [(.double s2')])) _
        refine XS.iloadN X28.here hx rfl (hb hby d4_40) rfl ?_
        show Steps p.tables e below (T28.setTop (mkF m 41 #[.val (.ref a1), .val (.double s2'), .second, .val (.int (h2' + (1 : Int32))), .val (.int (2 : Int32))] [(.int (h2' + (1 : Int32))), (.double s2')])) _
        refine XS.i2dS X28.here hx rfl (hb hby d4_41) rfl rfl ?_
        show Steps p.tables e below (T28.setTop (mkF m 42 #[.val (.ref a1), .val (.double s2'), .second, .val (.int (h2' + (1 : Int32))), .val (.int (2 : Int32))] [(.double (FP.i2d (h2' + (1 : Int32)))), (.double s2')])) _
        refine XS.iload X28.here hx rfl (hb hby d4_42) rfl ?_
        show Steps p.tables e below (T28.setTop (mkF m 44 #[.val (.ref a1), .val (.double s2'), .second, .val (.int (h2' + (1 : Int32))), .val (.int (2 : Int32))] [(.int (2 : Int32)), (.double (FP.i2d (h2' + (1 : Int32)))), (.double s2')])) _
        refine XS.iconst X28.here hx rfl (hb hby d4_44) ?_
        show Steps p.tables e below (T28.setTop (mkF m 45 #[.val (.ref a1), .val (.double s2'), .second, .val (.int (h2' + (1 : Int32))), .val (.int (2 : Int32))] [(.int (1 : Int32)), (.int (2 : Int32)), (.double (FP.i2d (h2' + (1 : Int32)))), (.double s2')])) _
        refine XS.iadd X28.here hx rfl (hb hby d4_45) rfl ?_
        show Steps p.tables e below (T28.setTop (mkF m 46 #[.val (.ref a1), .val (.double s2'), .second, .val (.int (h2' + (1 : Int32))), .val (.int (2 : Int32))] [(.int (3 : Int32)), (.double (FP.i2d (h2' + (1 : Int32)))), (.double s2')])) _
        refine XS.i2dS X28.here hx rfl (hb hby d4_46) rfl rfl ?_
        show Steps p.tables e below (T28.setTop (mkF m 47 #[.val (.ref a1), .val (.double s2'), .second, .val (.int (h2' + (1 : Int32))), .val (.int (2 : Int32))] [(.double (FP.i2d (3 : Int32))), (.double (FP.i2d (h2' + (1 : Int32)))), (.double s2')])) _
        refine XS.ddivS X28.here hx rfl (hb hby d4_47) rfl ((own_q_mag _ (3 : Int32) (by decide)).fin (by decide)).noNaN rfl ?_
        show Steps p.tables e below (T28.setTop (mkF m 48 #[.val (.ref a1), .val (.double s2'), .second, .val (.int (h2' + (1 : Int32))), .val (.int (2 : Int32))] [(.double (FP.ddiv (FP.i2d (h2' + (1 : Int32))) (FP.i2d (3 : Int32)))), (.double s2')])) _
        refine XS.daddS X28.here hx rfl (hb hby d4_48) rfl (own_d_mag (by decide) hm2 (by decide) (by decide)) rfl ?_
        show Steps p.tables e below (T28.setTop (mkF m 49 #[.val (.ref a1), .val (.double s2'), .second, .val (.int (h2' + (1 : Int32))), .val (.int (2 : Int32))] [(.double (FP.dadd s2' (FP.ddiv (FP.i2d (h2' + (1 : Int32))) (FP.i2d (3 : Int32)))))])) _
        refine XS.dstoreN X28.here hx rfl (hb hby d4_49) rfl (l' := #[.val (.ref a1), .val (.double (FP.dadd s2' (FP.ddiv (FP.i2d (h2' + (1 : Int32))) (FP.i2d (3 : Int32))))), .second, .val (.int (h2' + (1 : Int32))), .val (.int (2 : Int32))]) rfl ?_
        exact k9
    generalize hs3 : (if (f 2) = (0 : Int32) then s2' else (FP.dadd s2' (FP.ddiv (FP.i2d (h2' + (1 : Int32))) (FP.i2d (3 : Int32))))) = s3'
    generalize hh3 : (if (f 2) = (0 : Int32) then h2' else (h2' + (1 : Int32))) = h3'
    have ks3 : own_s (f 2) h2' (3 : Int32) s2' = s3' := hs3
    have kh3 : own_h (f 2) h2' = h3' := hh3
    have hm3 : Mag64 1063 s3' := by rw [← ks3]; exact own_s_mag (by decide) hm2 (by decide) (by decide)
    refine go (T28.setTop (mkF m 19 #[.val (.ref a1), .val (.double s3'), .second, .val (.int h3'), .val (.int (3 : Int32))] [(.ref a1), (.int (3 : Int32))])) _ (fun t9 k9 => ?_) ?_
    · show Steps p.tables e below (T28.setTop (mkF m 50 #[.val (.ref a1), .val (.double s3'), .second, .val (.int h3'), .val (.int (2 : Int32))] [])) _
      refine XS.iinc X28.here hx rfl (hb hby d4_50) rfl (l' := #[.val (.ref a1), .val (.double s3'), .second, .val (.int h3'), .val (.int (3 : Int32))]) rfl ?_
      show Steps p.tables e below (T28.setTop (mkF m 53 #[.val (.ref a1), .val (.double s3'), .second, .val (.int h3'), .val (.int (3 : Int32))] [])) _
      refine XS.goto X28.here hx rfl (pc0 := 53) (pc' := 16) rfl (hb hby d4_53) (by decide) (by decide) ?_
      show Steps p.tables e below (T28.setTop (mkF m 16 #[.val (.ref a1), .val (.double s3'), .second, .val (.int h3'), .val (.int (3 : Int32))] [])) _
      refine XS.iload X28.here hx rfl (hb hby d4_16) rfl ?_
      show Steps p.tables e below (T28.setTop (mkF m 18 #[.val (.ref a1), .val (.double s3'), .second, .val (.int h3'), .val (.int (3 : Int32))] [(.int (3 : Int32))])) _
      refine XS.aloadN X28.here hx rfl (hb hby d4_18) rfl rfl ?_
      exact k9
    obtain ⟨T31, X31, e31, st31⟩ := getF X28 hx hZ hown (host := "") (Or.inl (hw _ (List.mem_of_getElem? (i := 15) rfl))) Via.refl e28 F1 (g := (mkF m 19 #[.val (.ref a1), .val (.double s3'), .second, .val (.int h3'), .val (.int (3 : Int32))] [(.ref a1), (.int (3 : Int32))])) rfl rfl (hb hby d4_19)
    refine go (T31.setTop (mkF m 22 #[.val (.ref a1), .val (.double s3'), .second, .val (.int h3'), .val (.int (3 : Int32))] [(.ref b), (.int (3 : Int32))])) _ (fun t9 k9 => st31 _ k9) ?_
    obtain ⟨cl32, Ar32, Sz32, Hv32⟩ := u30
    have u33 : own_A Z h0 b .boolean 5 (fun j => .int (f j)) := ⟨cl32, Ar32, Sz32, Hv32⟩
    refine go (T31.setTop (mkF m 27 #[.val (.ref a1), .val (.double s3'), .second, .val (.int h3'), .val (.int (3 : Int32))] [(.ref a1)])) _ (fun t9 k9 => ?_) ?_
    · show Steps p.tables e below (T31.setTop (mkF m 22 #[.val (.ref a1), .val (.double s3'), .second, .val (.int h3'), .val (.int (3 : Int32))] [(.ref b), (.int (3 : Int32))])) _
      refine X31.arraylength hx (by rw [e31]; exact Ar32.1) (State.isArrayOf_alike hZ.alike Ar32.2.1) (g := (mkF m 22 #[.val (.ref a1), .val (.double s3'), .second, .val (.int h3'), .val (.int (3 : Int32))] [(.ref b), (.int (3 : Int32))])) rfl (rest := [(.int (3 : Int32))]) rfl (hb hby d4_22) _ ?_
      rw [len_of (z := (5 : Int32)) (Sz32.trans rfl) (by decide)]
      show Steps p.tables e below (T31.setTop (mkF m 23 #[.val (.ref a1), .val (.double s3'), .second, .val (.int h3'), .val (.int (3 : Int32))] [(.int (5 : Int32)), (.int (3 : Int32))])) _
      refine XS.icmpNo X31.here hx rfl (hb hby d4_23) rfl (tlt (by decide : (3 : Int32) < (5 : Int32))).2.1 ?_
      show Steps p.tables e below (T31.setTop (mkF m 26 #[.val (.ref a1), .val (.double s3'), .second, .val (.int h3'), .val (.int (3 : Int32))] [])) _
      refine XS.aloadN X31.here hx rfl (hb hby d4_26) rfl rfl ?_
      exact k9
    obtain ⟨T34, X34, e34, st34⟩ := getF X31 hx hZ hown (host := "") (Or.inl (hw _ (List.mem_of_getElem? (i := 15) rfl))) Via.refl e31 F1 (g := (mkF m 27 #[.val (.ref a1), .val (.double s3'), .second, .val (.int h3'), .val (.int (3 : Int32))] [(.ref a1)])) rfl rfl (hb hby d4_27)
    refine go (T34.setTop (mkF m 30 #[.val (.ref a1), .val (.double s3'), .second, .val (.int h3'), .val (.int (3 : Int32))] [(.ref b)])) _ (fun t9 k9 => st34 _ k9) ?_
    refine go (T34.setTop (mkF m 32 #[.val (.ref a1), .val (.double s3'), .second, .val (.int h3'), .val (.int (3 : Int32))] [(.int (3 : Int32)), (.ref b)])) _ (fun t9 k9 => ?_) ?_
    · show Steps p.tables e below (T34.setTop (mkF m 30 #[.val (.ref a1), .val (.double s3'), .second, .val (.int h3'), .val (.int (3 : Int32))] [(.ref b)])) _
      refine XS.iload X34.here hx rfl (hb hby d4_30) rfl ?_
      exact k9
    obtain ⟨cl35, Ar35, Sz35, Hv35⟩ := u33
    have u36 : own_A Z h0 b .boolean 5 (fun j => .int (f j)) := ⟨cl35, Ar35, Sz35, Hv35⟩
    refine go (T34.setTop (mkF m 33 #[.val (.ref a1), .val (.double s3'), .second, .val (.int h3'), .val (.int (3 : Int32))] [(.int (f 3))])) _ (fun t9 k9 => ?_) ?_
    · show Steps p.tables e below (T34.setTop (mkF m 32 #[.val (.ref a1), .val (.double s3'), .second, .val (.int h3'), .val (.int (3 : Int32))] [(.int (3 : Int32)), (.ref b)])) _
      refine X34.baloadBooleans hx (j := (3 : Int32)) (v := (.int (f 3))) (by rw [e34]; exact Ar35.1) (State.isArrayOf_alike hZ.alike Ar35.2.1) Ar35.2.2 (own_hin Sz35 (by decide) (by decide)) ((Hv35 _ (by decide)).trans (congrArg some (rfl))) (g := (mkF m 32 #[.val (.ref a1), .val (.double s3'), .second, .val (.int h3'), .val (.int (3 : Int32))] [(.int (3 : Int32)), (.ref b)])) rfl rfl (hb hby d4_32) _ ?_
      exact k9
    refine go (T34.setTop (mkF m 50 #[.val (.ref a1), .val (.double (if (f 3) = (0 : Int32) then s3' else (FP.dadd s3' (FP.ddiv (FP.i2d (h3' + (1 : Int32))) (FP.i2d (4 : Int32)))))), .second, .val (.int (if (f 3) = (0 : Int32) then h3' else (h3' + (1 : Int32)))), .val (.int (3 : Int32))] [])) _ (fun t9 k9 => ?_) ?_
    · by_cases h33_1 : (f 3) = (0 : Int32)
      · try (simp only [if_pos h33_1] at k9)
        show Steps p.tables e below (T34.setTop (mkF m 33 #[.val (.ref a1), .val (.double s3'), .second, .val (.int h3'), .val (.int (3 : Int32))] [(.int (f 3))])) _
        refine XS.ifYes X34.here hx rfl (pc0 := 33) (pc' := 50) rfl (hb hby d4_33) rfl ((if0 _ _).trans (teq h33_1).1) (by decide) (by decide) ?_
        exact k9
      · try (simp only [if_neg h33_1] at k9)
        show Steps p.tables e below (T34.setTop (mkF m 33 #[.val (.ref a1), .val (.double s3'), .second, .val (.int h3'), .val (.int (3 : Int32))] [(.int (f 3))])) _
        refine XS.ifNo X34.here hx rfl (hb hby d4_33) rfl ((if0 _ _).trans (feq h33_1).1) ?_
        show Steps p.tables e below (T34.setTop (mkF m 36 #[.val (.ref a1), .val (.double s3'), .second, .val (.int h3'), .val (.int (3 : Int32))] [])) _
        refine XS.iinc X34.here hx rfl (hb hby d4_36) rfl (l' := #[.val (.ref a1), .val (.double s3'), .second, .val (.int (h3' + (1 : Int32))), .val (.int (3 : Int32))]) rfl ?_
        show Steps p.tables e below (T34.setTop (mkF m 39 #[.val (.ref a1), .val (.double s3'), .second, .val (.int (h3' + (1 : Int32))), .val (.int (3 : Int32))] [])) _
        refine XS.dloadN X34.here hx rfl (hb hby d4_39) rfl ?_
        show Steps p.tables e below (T34.setTop (mkF m 40 #[.val (.ref a1), .val (.double s3'), .second, .val (.int (h3' + (1 : Int32))), .val (.int (3 : Int32))] [(.double s3')])) _
        refine XS.iloadN X34.here hx rfl (hb hby d4_40) rfl ?_
        show Steps p.tables e below (T34.setTop (mkF m 41 #[.val (.ref a1), .val (.double s3'), .second, .val (.int (h3' + (1 : Int32))), .val (.int (3 : Int32))] [(.int (h3' + (1 : Int32))), (.double s3')])) _
        refine XS.i2dS X34.here hx rfl (hb hby d4_41) rfl rfl ?_
        show Steps p.tables e below (T34.setTop (mkF m 42 #[.val (.ref a1), .val (.double s3'), .second, .val (.int (h3' + (1 : Int32))), .val (.int (3 : Int32))] [(.double (FP.i2d (h3' + (1 : Int32)))), (.double s3')])) _
        refine XS.iload X34.here hx rfl (hb hby d4_42) rfl ?_
        show Steps p.tables e below (T34.setTop (mkF m 44 #[.val (.ref a1), .val (.double s3'), .second, .val (.int (h3' + (1 : Int32))), .val (.int (3 : Int32))] [(.int (3 : Int32)), (.double (FP.i2d (h3' + (1 : Int32)))), (.double s3')])) _
        refine XS.iconst X34.here hx rfl (hb hby d4_44) ?_
        show Steps p.tables e below (T34.setTop (mkF m 45 #[.val (.ref a1), .val (.double s3'), .second, .val (.int (h3' + (1 : Int32))), .val (.int (3 : Int32))] [(.int (1 : Int32)), (.int (3 : Int32)), (.double (FP.i2d (h3' + (1 : Int32)))), (.double s3')])) _
        refine XS.iadd X34.here hx rfl (hb hby d4_45) rfl ?_
        show Steps p.tables e below (T34.setTop (mkF m 46 #[.val (.ref a1), .val (.double s3'), .second, .val (.int (h3' + (1 : Int32))), .val (.int (3 : Int32))] [(.int (4 : Int32)), (.double (FP.i2d (h3' + (1 : Int32)))), (.double s3')])) _
        refine XS.i2dS X34.here hx rfl (hb hby d4_46) rfl rfl ?_
        show Steps p.tables e below (T34.setTop (mkF m 47 #[.val (.ref a1), .val (.double s3'), .second, .val (.int (h3' + (1 : Int32))), .val (.int (3 : Int32))] [(.double (FP.i2d (4 : Int32))), (.double (FP.i2d (h3' + (1 : Int32)))), (.double s3')])) _
        refine XS.ddivS X34.here hx rfl (hb hby d4_47) rfl ((own_q_mag _ (4 : Int32) (by decide)).fin (by decide)).noNaN rfl ?_
        show Steps p.tables e below (T34.setTop (mkF m 48 #[.val (.ref a1), .val (.double s3'), .second, .val (.int (h3' + (1 : Int32))), .val (.int (3 : Int32))] [(.double (FP.ddiv (FP.i2d (h3' + (1 : Int32))) (FP.i2d (4 : Int32)))), (.double s3')])) _
        refine XS.daddS X34.here hx rfl (hb hby d4_48) rfl (own_d_mag (by decide) hm3 (by decide) (by decide)) rfl ?_
        show Steps p.tables e below (T34.setTop (mkF m 49 #[.val (.ref a1), .val (.double s3'), .second, .val (.int (h3' + (1 : Int32))), .val (.int (3 : Int32))] [(.double (FP.dadd s3' (FP.ddiv (FP.i2d (h3' + (1 : Int32))) (FP.i2d (4 : Int32)))))])) _
        refine XS.dstoreN X34.here hx rfl (hb hby d4_49) rfl (l' := #[.val (.ref a1), .val (.double (FP.dadd s3' (FP.ddiv (FP.i2d (h3' + (1 : Int32))) (FP.i2d (4 : Int32))))), .second, .val (.int (h3' + (1 : Int32))), .val (.int (3 : Int32))]) rfl ?_
        exact k9
    generalize hs4 : (if (f 3) = (0 : Int32) then s3' else (FP.dadd s3' (FP.ddiv (FP.i2d (h3' + (1 : Int32))) (FP.i2d (4 : Int32))))) = s4'
    generalize hh4 : (if (f 3) = (0 : Int32) then h3' else (h3' + (1 : Int32))) = h4'
    have ks4 : own_s (f 3) h3' (4 : Int32) s3' = s4' := hs4
    have kh4 : own_h (f 3) h3' = h4' := hh4
    have hm4 : Mag64 1065 s4' := by rw [← ks4]; exact own_s_mag (by decide) hm3 (by decide) (by decide)
    refine go (T34.setTop (mkF m 19 #[.val (.ref a1), .val (.double s4'), .second, .val (.int h4'), .val (.int (4 : Int32))] [(.ref a1), (.int (4 : Int32))])) _ (fun t9 k9 => ?_) ?_
    · show Steps p.tables e below (T34.setTop (mkF m 50 #[.val (.ref a1), .val (.double s4'), .second, .val (.int h4'), .val (.int (3 : Int32))] [])) _
      refine XS.iinc X34.here hx rfl (hb hby d4_50) rfl (l' := #[.val (.ref a1), .val (.double s4'), .second, .val (.int h4'), .val (.int (4 : Int32))]) rfl ?_
      show Steps p.tables e below (T34.setTop (mkF m 53 #[.val (.ref a1), .val (.double s4'), .second, .val (.int h4'), .val (.int (4 : Int32))] [])) _
      refine XS.goto X34.here hx rfl (pc0 := 53) (pc' := 16) rfl (hb hby d4_53) (by decide) (by decide) ?_
      show Steps p.tables e below (T34.setTop (mkF m 16 #[.val (.ref a1), .val (.double s4'), .second, .val (.int h4'), .val (.int (4 : Int32))] [])) _
      refine XS.iload X34.here hx rfl (hb hby d4_16) rfl ?_
      show Steps p.tables e below (T34.setTop (mkF m 18 #[.val (.ref a1), .val (.double s4'), .second, .val (.int h4'), .val (.int (4 : Int32))] [(.int (4 : Int32))])) _
      refine XS.aloadN X34.here hx rfl (hb hby d4_18) rfl rfl ?_
      exact k9
    obtain ⟨T37, X37, e37, st37⟩ := getF X34 hx hZ hown (host := "") (Or.inl (hw _ (List.mem_of_getElem? (i := 15) rfl))) Via.refl e34 F1 (g := (mkF m 19 #[.val (.ref a1), .val (.double s4'), .second, .val (.int h4'), .val (.int (4 : Int32))] [(.ref a1), (.int (4 : Int32))])) rfl rfl (hb hby d4_19)
    refine go (T37.setTop (mkF m 22 #[.val (.ref a1), .val (.double s4'), .second, .val (.int h4'), .val (.int (4 : Int32))] [(.ref b), (.int (4 : Int32))])) _ (fun t9 k9 => st37 _ k9) ?_
    obtain ⟨cl38, Ar38, Sz38, Hv38⟩ := u36
    have u39 : own_A Z h0 b .boolean 5 (fun j => .int (f j)) := ⟨cl38, Ar38, Sz38, Hv38⟩
    refine go (T37.setTop (mkF m 27 #[.val (.ref a1), .val (.double s4'), .second, .val (.int h4'), .val (.int (4 : Int32))] [(.ref a1)])) _ (fun t9 k9 => ?_) ?_
    · show Steps p.tables e below (T37.setTop (mkF m 22 #[.val (.ref a1), .val (.double s4'), .second, .val (.int h4'), .val (.int (4 : Int32))] [(.ref b), (.int (4 : Int32))])) _
      refine X37.arraylength hx (by rw [e37]; exact Ar38.1) (State.isArrayOf_alike hZ.alike Ar38.2.1) (g := (mkF m 22 #[.val (.ref a1), .val (.double s4'), .second, .val (.int h4'), .val (.int (4 : Int32))] [(.ref b), (.int (4 : Int32))])) rfl (rest := [(.int (4 : Int32))]) rfl (hb hby d4_22) _ ?_
      rw [len_of (z := (5 : Int32)) (Sz38.trans rfl) (by decide)]
      show Steps p.tables e below (T37.setTop (mkF m 23 #[.val (.ref a1), .val (.double s4'), .second, .val (.int h4'), .val (.int (4 : Int32))] [(.int (5 : Int32)), (.int (4 : Int32))])) _
      refine XS.icmpNo X37.here hx rfl (hb hby d4_23) rfl (tlt (by decide : (4 : Int32) < (5 : Int32))).2.1 ?_
      show Steps p.tables e below (T37.setTop (mkF m 26 #[.val (.ref a1), .val (.double s4'), .second, .val (.int h4'), .val (.int (4 : Int32))] [])) _
      refine XS.aloadN X37.here hx rfl (hb hby d4_26) rfl rfl ?_
      exact k9
    obtain ⟨T40, X40, e40, st40⟩ := getF X37 hx hZ hown (host := "") (Or.inl (hw _ (List.mem_of_getElem? (i := 15) rfl))) Via.refl e37 F1 (g := (mkF m 27 #[.val (.ref a1), .val (.double s4'), .second, .val (.int h4'), .val (.int (4 : Int32))] [(.ref a1)])) rfl rfl (hb hby d4_27)
    refine go (T40.setTop (mkF m 30 #[.val (.ref a1), .val (.double s4'), .second, .val (.int h4'), .val (.int (4 : Int32))] [(.ref b)])) _ (fun t9 k9 => st40 _ k9) ?_
    refine go (T40.setTop (mkF m 32 #[.val (.ref a1), .val (.double s4'), .second, .val (.int h4'), .val (.int (4 : Int32))] [(.int (4 : Int32)), (.ref b)])) _ (fun t9 k9 => ?_) ?_
    · show Steps p.tables e below (T40.setTop (mkF m 30 #[.val (.ref a1), .val (.double s4'), .second, .val (.int h4'), .val (.int (4 : Int32))] [(.ref b)])) _
      refine XS.iload X40.here hx rfl (hb hby d4_30) rfl ?_
      exact k9
    obtain ⟨cl41, Ar41, Sz41, Hv41⟩ := u39
    have u42 : own_A Z h0 b .boolean 5 (fun j => .int (f j)) := ⟨cl41, Ar41, Sz41, Hv41⟩
    refine go (T40.setTop (mkF m 33 #[.val (.ref a1), .val (.double s4'), .second, .val (.int h4'), .val (.int (4 : Int32))] [(.int (f 4))])) _ (fun t9 k9 => ?_) ?_
    · show Steps p.tables e below (T40.setTop (mkF m 32 #[.val (.ref a1), .val (.double s4'), .second, .val (.int h4'), .val (.int (4 : Int32))] [(.int (4 : Int32)), (.ref b)])) _
      refine X40.baloadBooleans hx (j := (4 : Int32)) (v := (.int (f 4))) (by rw [e40]; exact Ar41.1) (State.isArrayOf_alike hZ.alike Ar41.2.1) Ar41.2.2 (own_hin Sz41 (by decide) (by decide)) ((Hv41 _ (by decide)).trans (congrArg some (rfl))) (g := (mkF m 32 #[.val (.ref a1), .val (.double s4'), .second, .val (.int h4'), .val (.int (4 : Int32))] [(.int (4 : Int32)), (.ref b)])) rfl rfl (hb hby d4_32) _ ?_
      exact k9
    refine go (T40.setTop (mkF m 50 #[.val (.ref a1), .val (.double (if (f 4) = (0 : Int32) then s4' else (FP.dadd s4' (FP.ddiv (FP.i2d (h4' + (1 : Int32))) (FP.i2d (5 : Int32)))))), .second, .val (.int (if (f 4) = (0 : Int32) then h4' else (h4' + (1 : Int32)))), .val (.int (4 : Int32))] [])) _ (fun t9 k9 => ?_) ?_
    · by_cases h33_1 : (f 4) = (0 : Int32)
      · try (simp only [if_pos h33_1] at k9)
        show Steps p.tables e below (T40.setTop (mkF m 33 #[.val (.ref a1), .val (.double s4'), .second, .val (.int h4'), .val (.int (4 : Int32))] [(.int (f 4))])) _
        refine XS.ifYes X40.here hx rfl (pc0 := 33) (pc' := 50) rfl (hb hby d4_33) rfl ((if0 _ _).trans (teq h33_1).1) (by decide) (by decide) ?_
        exact k9
      · try (simp only [if_neg h33_1] at k9)
        show Steps p.tables e below (T40.setTop (mkF m 33 #[.val (.ref a1), .val (.double s4'), .second, .val (.int h4'), .val (.int (4 : Int32))] [(.int (f 4))])) _
        refine XS.ifNo X40.here hx rfl (hb hby d4_33) rfl ((if0 _ _).trans (feq h33_1).1) ?_
        show Steps p.tables e below (T40.setTop (mkF m 36 #[.val (.ref a1), .val (.double s4'), .second, .val (.int h4'), .val (.int (4 : Int32))] [])) _
        refine XS.iinc X40.here hx rfl (hb hby d4_36) rfl (l' := #[.val (.ref a1), .val (.double s4'), .second, .val (.int (h4' + (1 : Int32))), .val (.int (4 : Int32))]) rfl ?_
        show Steps p.tables e below (T40.setTop (mkF m 39 #[.val (.ref a1), .val (.double s4'), .second, .val (.int (h4' + (1 : Int32))), .val (.int (4 : Int32))] [])) _
        refine XS.dloadN X40.here hx rfl (hb hby d4_39) rfl ?_
        show Steps p.tables e below (T40.setTop (mkF m 40 #[.val (.ref a1), .val (.double s4'), .second, .val (.int (h4' + (1 : Int32))), .val (.int (4 : Int32))] [(.double s4')])) _
        refine XS.iloadN X40.here hx rfl (hb hby d4_40) rfl ?_
        show Steps p.tables e below (T40.setTop (mkF m 41 #[.val (.ref a1), .val (.double s4'), .second, .val (.int (h4' + (1 : Int32))), .val (.int (4 : Int32))] [(.int (h4' + (1 : Int32))), (.double s4')])) _
        refine XS.i2dS X40.here hx rfl (hb hby d4_41) rfl rfl ?_
        show Steps p.tables e below (T40.setTop (mkF m 42 #[.val (.ref a1), .val (.double s4'), .second, .val (.int (h4' + (1 : Int32))), .val (.int (4 : Int32))] [(.double (FP.i2d (h4' + (1 : Int32)))), (.double s4')])) _
        refine XS.iload X40.here hx rfl (hb hby d4_42) rfl ?_
        show Steps p.tables e below (T40.setTop (mkF m 44 #[.val (.ref a1), .val (.double s4'), .second, .val (.int (h4' + (1 : Int32))), .val (.int (4 : Int32))] [(.int (4 : Int32)), (.double (FP.i2d (h4' + (1 : Int32)))), (.double s4')])) _
        refine XS.iconst X40.here hx rfl (hb hby d4_44) ?_
        show Steps p.tables e below (T40.setTop (mkF m 45 #[.val (.ref a1), .val (.double s4'), .second, .val (.int (h4' + (1 : Int32))), .val (.int (4 : Int32))] [(.int (1 : Int32)), (.int (4 : Int32)), (.double (FP.i2d (h4' + (1 : Int32)))), (.double s4')])) _
        refine XS.iadd X40.here hx rfl (hb hby d4_45) rfl ?_
        show Steps p.tables e below (T40.setTop (mkF m 46 #[.val (.ref a1), .val (.double s4'), .second, .val (.int (h4' + (1 : Int32))), .val (.int (4 : Int32))] [(.int (5 : Int32)), (.double (FP.i2d (h4' + (1 : Int32)))), (.double s4')])) _
        refine XS.i2dS X40.here hx rfl (hb hby d4_46) rfl rfl ?_
        show Steps p.tables e below (T40.setTop (mkF m 47 #[.val (.ref a1), .val (.double s4'), .second, .val (.int (h4' + (1 : Int32))), .val (.int (4 : Int32))] [(.double (FP.i2d (5 : Int32))), (.double (FP.i2d (h4' + (1 : Int32)))), (.double s4')])) _
        refine XS.ddivS X40.here hx rfl (hb hby d4_47) rfl ((own_q_mag _ (5 : Int32) (by decide)).fin (by decide)).noNaN rfl ?_
        show Steps p.tables e below (T40.setTop (mkF m 48 #[.val (.ref a1), .val (.double s4'), .second, .val (.int (h4' + (1 : Int32))), .val (.int (4 : Int32))] [(.double (FP.ddiv (FP.i2d (h4' + (1 : Int32))) (FP.i2d (5 : Int32)))), (.double s4')])) _
        refine XS.daddS X40.here hx rfl (hb hby d4_48) rfl (own_d_mag (by decide) hm4 (by decide) (by decide)) rfl ?_
        show Steps p.tables e below (T40.setTop (mkF m 49 #[.val (.ref a1), .val (.double s4'), .second, .val (.int (h4' + (1 : Int32))), .val (.int (4 : Int32))] [(.double (FP.dadd s4' (FP.ddiv (FP.i2d (h4' + (1 : Int32))) (FP.i2d (5 : Int32)))))])) _
        refine XS.dstoreN X40.here hx rfl (hb hby d4_49) rfl (l' := #[.val (.ref a1), .val (.double (FP.dadd s4' (FP.ddiv (FP.i2d (h4' + (1 : Int32))) (FP.i2d (5 : Int32))))), .second, .val (.int (h4' + (1 : Int32))), .val (.int (4 : Int32))]) rfl ?_
        exact k9
    generalize hs5 : (if (f 4) = (0 : Int32) then s4' else (FP.dadd s4' (FP.ddiv (FP.i2d (h4' + (1 : Int32))) (FP.i2d (5 : Int32))))) = s5'
    generalize hh5 : (if (f 4) = (0 : Int32) then h4' else (h4' + (1 : Int32))) = h5'
    have ks5 : own_s (f 4) h4' (5 : Int32) s4' = s5' := hs5
    have kh5 : own_h (f 4) h4' = h5' := hh5
    have hm5 : Mag64 1067 s5' := by rw [← ks5]; exact own_s_mag (by decide) hm4 (by decide) (by decide)
    refine go (T40.setTop (mkF m 19 #[.val (.ref a1), .val (.double s5'), .second, .val (.int h5'), .val (.int (5 : Int32))] [(.ref a1), (.int (5 : Int32))])) _ (fun t9 k9 => ?_) ?_
    · show Steps p.tables e below (T40.setTop (mkF m 50 #[.val (.ref a1), .val (.double s5'), .second, .val (.int h5'), .val (.int (4 : Int32))] [])) _
      refine XS.iinc X40.here hx rfl (hb hby d4_50) rfl (l' := #[.val (.ref a1), .val (.double s5'), .second, .val (.int h5'), .val (.int (5 : Int32))]) rfl ?_
      show Steps p.tables e below (T40.setTop (mkF m 53 #[.val (.ref a1), .val (.double s5'), .second, .val (.int h5'), .val (.int (5 : Int32))] [])) _
      refine XS.goto X40.here hx rfl (pc0 := 53) (pc' := 16) rfl (hb hby d4_53) (by decide) (by decide) ?_
      show Steps p.tables e below (T40.setTop (mkF m 16 #[.val (.ref a1), .val (.double s5'), .second, .val (.int h5'), .val (.int (5 : Int32))] [])) _
      refine XS.iload X40.here hx rfl (hb hby d4_16) rfl ?_
      show Steps p.tables e below (T40.setTop (mkF m 18 #[.val (.ref a1), .val (.double s5'), .second, .val (.int h5'), .val (.int (5 : Int32))] [(.int (5 : Int32))])) _
      refine XS.aloadN X40.here hx rfl (hb hby d4_18) rfl rfl ?_
      exact k9
    obtain ⟨T43, X43, e43, st43⟩ := getF X40 hx hZ hown (host := "") (Or.inl (hw _ (List.mem_of_getElem? (i := 15) rfl))) Via.refl e40 F1 (g := (mkF m 19 #[.val (.ref a1), .val (.double s5'), .second, .val (.int h5'), .val (.int (5 : Int32))] [(.ref a1), (.int (5 : Int32))])) rfl rfl (hb hby d4_19)
    refine go (T43.setTop (mkF m 22 #[.val (.ref a1), .val (.double s5'), .second, .val (.int h5'), .val (.int (5 : Int32))] [(.ref b), (.int (5 : Int32))])) _ (fun t9 k9 => st43 _ k9) ?_
    obtain ⟨cl44, Ar44, Sz44, Hv44⟩ := u42
    have u45 : own_A Z h0 b .boolean 5 (fun j => .int (f j)) := ⟨cl44, Ar44, Sz44, Hv44⟩
    refine go (T43.setTop (mkF m 58 #[.val (.ref a1), .val (.double s5'), .second, .val (.int h5'), .val (.int (5 : Int32))] [(.ref a1), (.double s5')])) _ (fun t9 k9 => ?_) ?_
    · show Steps p.tables e below (T43.setTop (mkF m 22 #[.val (.ref a1), .val (.double s5'), .second, .val (.int h5'), .val (.int (5 : Int32))] [(.ref b), (.int (5 : Int32))])) _
      refine X43.arraylength hx (by rw [e43]; exact Ar44.1) (State.isArrayOf_alike hZ.alike Ar44.2.1) (g := (mkF m 22 #[.val (.ref a1), .val (.double s5'), .second, .val (.int h5'), .val (.int (5 : Int32))] [(.ref b), (.int (5 : Int32))])) rfl (rest := [(.int (5 : Int32))]) rfl (hb hby d4_22) _ ?_
      rw [len_of (z := (5 : Int32)) (Sz44.trans rfl) (by decide)]
      show Steps p.tables e below (T43.setTop (mkF m 23 #[.val (.ref a1), .val (.double s5'), .second, .val (.int h5'), .val (.int (5 : Int32))] [(.int (5 : Int32)), (.int (5 : Int32))])) _
      refine XS.icmpYes X43.here hx rfl (pc0 := 23) (pc' := 56) rfl (hb hby d4_23) rfl (flt (by decide : ¬ (5 : Int32) < (5 : Int32))).2.1 (by decide) (by decide) ?_
      show Steps p.tables e below (T43.setTop (mkF m 56 #[.val (.ref a1), .val (.double s5'), .second, .val (.int h5'), .val (.int (5 : Int32))] [])) _
      refine XS.dloadN X43.here hx rfl (hb hby d4_56) rfl ?_
      show Steps p.tables e below (T43.setTop (mkF m 57 #[.val (.ref a1), .val (.double s5'), .second, .val (.int h5'), .val (.int (5 : Int32))] [(.double s5')])) _
      refine XS.aloadN X43.here hx rfl (hb hby d4_57) rfl rfl ?_
      exact k9
    obtain ⟨T46, X46, e46, st46⟩ := getF X43 hx hZ hown (host := "") (Or.inl (hw _ (List.mem_of_getElem? (i := 17) rfl))) Via.refl e43 F2 (g := (mkF m 58 #[.val (.ref a1), .val (.double s5'), .second, .val (.int h5'), .val (.int (5 : Int32))] [(.ref a1), (.double s5')])) rfl rfl (hb hby d4_58)
    refine go (T46.setTop (mkF m 61 #[.val (.ref a1), .val (.double s5'), .second, .val (.int h5'), .val (.int (5 : Int32))] [(.int cnt), (.double s5')])) _ (fun t9 k9 => st46 _ k9) ?_
    refine go (T46.setTop (mkF m 63 #[.val (.ref a1), .val (.double s5'), .second, .val (.int h5'), .val (.int (5 : Int32))] [(.double (FP.ddiv s5' (FP.i2d cnt)))])) _ (fun t9 k9 => ?_) ?_
    · show Steps p.tables e below (T46.setTop (mkF m 61 #[.val (.ref a1), .val (.double s5'), .second, .val (.int h5'), .val (.int (5 : Int32))] [(.int cnt), (.double s5')])) _
      refine XS.i2dS X46.here hx rfl (hb hby d4_61) rfl rfl ?_
      show Steps p.tables e below (T46.setTop (mkF m 62 #[.val (.ref a1), .val (.double s5'), .second, .val (.int h5'), .val (.int (5 : Int32))] [(.double (FP.i2d cnt)), (.double s5')])) _
      refine XS.ddivS X46.here hx rfl (hb hby d4_62) rfl ((ddiv_mag hm5 (own_i2d_big hcz) (by decide) (by decide)).fin (by decide)).noNaN rfl ?_
      exact k9
    obtain ⟨fs, hr, hrun, hended, hW, hsame⟩ := X46.leave (v := some (.double (FP.ddiv s5' (FP.i2d cnt)))) (fun h => by rw [Bd.returns] at h; cases h) hlk
    refine fin _ ⟨_, _, retOut X46 hx (t := .double) Bd.returns rfl (Or.inr (Or.inr (Or.inl ⟨rfl, rfl, _, rfl⟩))) (hb hby d4_63) hr, hrun, hended, _, _, rfl, ?_, ⟨_, rfl⟩, hW, hsame.mono (by decide) (by decide)⟩
    show Q4 Z f cnt h0 n0 _ T46.heap _
    rw [e46]
    exact ⟨by rw [if_neg hcz, own_S5, kh1, kh2, kh3, kh4, ks1, ks2, ks3, ks4, ks5], N0, rfl⟩
def Q0 (Z : State) (p1 p2 : Int32) (h0 : Heap) (n0 : Nat) (v : Option Value) (h : Heap) (L : List Loc) : Prop := v = some (.int 1) ∧ Fr n0 L
set_option maxRecDepth 65536 in
set_option maxHeartbeats 40000000 in
theorem rm0 (l : Launch) (Z : State) (a0 : Array Value) (hw : ∀ d ∈ tables_1, d.before a0 Z = true) (ws : List Jvm.Cond) (p1 : Int32) (p2 : Int32)  (h0 : Heap) (n0 : Nat) (Z0 : n0 ≤ h0.size)  :
    MetFree l x (head1 (Jvm.Cond.code x code maxLocals ret :: ws) room_1) (fun a U => a = #[(.int p1), (.int p2)] ∧ Z.Warmed39 U.vm ∧ U.heap = h0) (fun _ _ _ _ _ => True) (fun _ U ou U' => ∃ v L, ou = .returned v ∧ Q0 Z p1 p2 h0 n0 v U'.heap L ∧ FrameEnd U ou U' L room_1.cells room_1.slots) := by
  refine MetFree.of_bodySF (plainFor_of_name pn_com_example_vervet_vervet_core_RankedTopicAveragePrecisionPinLaw) hisR ?_
  intro p e s m args below meth c s₁ Bd hml0 hP hK
  obtain ⟨rfl, hZ, hh⟩ := hP
  have hlk : meth.locks = false := by first | exact BodyLoose.notSynchronized Bd | exact Body.notSynchronized Bd
  have hx := Bd.exec
  have hby := Bd.bytes
  have hml : c.maxLocals = 14 := hml0
  have hown : s.vm.findClass "com/example/vervet/vervet/core/RankedTopicAveragePrecisionPinLaw" = some m.cls := findClass_of_methodNamed Bd.named
  have hnm := (name_of_methodNamed Bd.named Bd.method).1
  have X0 : Stand p l e room_1 s m #[(.int p1), (.int p2)] below meth c s₁ [] 0 0 := Stand.of_body Bd
  have e0 : s₁.heap = h0 := by rw [← hh, Bd.state]; rfl
  have N0 := Fr.nil n0
  refine own_open (fun G go fin => ?_)
  refine go (s₁.setTop (mkF m 0 #[.val (.int p1), .val (.int p2), .unset, .unset, .unset, .unset, .unset, .unset, .unset, .unset, .unset, .unset, .unset, .unset] [])) _ (fun t9 k9 => castTop (ef_0 m p1 p2) k9) ?_
  refine go (s₁.setTop (mkF m 1 #[.val (.int p1), .val (.int p2), .unset, .unset, .unset, .unset, .unset, .unset, .unset, .unset, .unset, .unset, .unset, .unset] [(.int (5 : Int32))])) _ (fun t9 k9 => ?_) ?_
  · show Steps p.tables e below (s₁.setTop (mkF m 0 #[.val (.int p1), .val (.int p2), .unset, .unset, .unset, .unset, .unset, .unset, .unset, .unset, .unset, .unset, .unset, .unset] [])) _
    refine XS.iconst X0.here hx rfl (hb hby at_0) ?_
    exact k9
  obtain ⟨T47, h47, k47, X47, e47, E47, A47, st47⟩ := newP X0 hx hZ (hw _ (List.mem_of_getElem? (i := 0) rfl)) e0 (g := (mkF m 1 #[.val (.int p1), .val (.int p2), .unset, .unset, .unset, .unset, .unset, .unset, .unset, .unset, .unset, .unset, .unset, .unset] [(.int (5 : Int32))])) rfl (hb hby at_1) rfl (by decide) (cap := 5) (by decide) (by decide) (by decide) (by decide)
  obtain ⟨b2, g47⟩ : ∃ z, z = h0.size := ⟨_, rfl⟩
  rw [← g47] at A47 st47
  refine go (T47.setTop (mkF m 3 #[.val (.int p1), .val (.int p2), .unset, .unset, .unset, .unset, .unset, .unset, .unset, .unset, .unset, .unset, .unset, .unset] [(.ref b2)])) _ (fun t9 k9 => st47 _ k9) ?_
  have sz_b2 : h0.size ≤ b2 := Nat.le_trans (Keep.refl h0 []).1 (Nat.le_of_eq g47.symm)
  have g_b2 : n0 ≤ b2 := Nat.le_trans Z0 sz_b2
  have u48 : Keep h0 h47 [] := (Keep.refl h0 []).ext E47
  have u49 : own_A Z h47 b2 .boolean 5 (fun _ => (.int 0)) := own_A_new A47 rfl
  have V0 : own_A Z h47 b2 .boolean 5 (fun j => .int (if j < 0 then own_bit p1 j else 0)) := own_A_congr u49 (own_zero Value.int (own_bit p1) 0 5)
  refine go (T47.setTop (mkF m 9 #[.val (.int p1), .val (.int p2), .val (.ref b2), .unset, .unset, .unset, .unset, .unset, .unset, .unset, .unset, .unset, .unset, .unset] [(.int (p1 &&& (1 : Int32))), (.int (0 : Int32)), (.ref b2)])) _ (fun t9 k9 => ?_) ?_
  · show Steps p.tables e below (T47.setTop (mkF m 3 #[.val (.int p1), .val (.int p2), .unset, .unset, .unset, .unset, .unset, .unset, .unset, .unset, .unset, .unset, .unset, .unset] [(.ref b2)])) _
    refine XS.astoreN X47.here hx rfl (hb hby at_3) rfl rfl (l' := #[.val (.int p1), .val (.int p2), .val (.ref b2), .unset, .unset, .unset, .unset, .unset, .unset, .unset, .unset, .unset, .unset, .unset]) rfl ?_
    show Steps p.tables e below (T47.setTop (mkF m 4 #[.val (.int p1), .val (.int p2), .val (.ref b2), .unset, .unset, .unset, .unset, .unset, .unset, .unset, .unset, .unset, .unset, .unset] [])) _
    refine XS.aloadN X47.here hx rfl (hb hby at_4) rfl rfl ?_
    show Steps p.tables e below (T47.setTop (mkF m 5 #[.val (.int p1), .val (.int p2), .val (.ref b2), .unset, .unset, .unset, .unset, .unset, .unset, .unset, .unset, .unset, .unset, .unset] [(.ref b2)])) _
    refine XS.iconst X47.here hx rfl (hb hby at_5) ?_
    show Steps p.tables e below (T47.setTop (mkF m 6 #[.val (.int p1), .val (.int p2), .val (.ref b2), .unset, .unset, .unset, .unset, .unset, .unset, .unset, .unset, .unset, .unset, .unset] [(.int (0 : Int32)), (.ref b2)])) _
    refine XS.iloadN X47.here hx rfl (hb hby at_6) rfl ?_
    show Steps p.tables e below (T47.setTop (mkF m 7 #[.val (.int p1), .val (.int p2), .val (.ref b2), .unset, .unset, .unset, .unset, .unset, .unset, .unset, .unset, .unset, .unset, .unset] [(.int p1), (.int (0 : Int32)), (.ref b2)])) _
    refine XS.iconst X47.here hx rfl (hb hby at_7) ?_
    show Steps p.tables e below (T47.setTop (mkF m 8 #[.val (.int p1), .val (.int p2), .val (.ref b2), .unset, .unset, .unset, .unset, .unset, .unset, .unset, .unset, .unset, .unset, .unset] [(.int (1 : Int32)), (.int p1), (.int (0 : Int32)), (.ref b2)])) _
    refine XS.iand X47.here hx rfl (hb hby at_8) rfl ?_
    exact k9
  refine go (T47.setTop (mkF m 17 #[.val (.int p1), .val (.int p2), .val (.ref b2), .unset, .unset, .unset, .unset, .unset, .unset, .unset, .unset, .unset, .unset, .unset] [(.int (if (p1 &&& (1 : Int32)) = (0 : Int32) then (0 : Int32) else (1 : Int32))), (.int (0 : Int32)), (.ref b2)])) _ (fun t9 k9 => ?_) ?_
  · by_cases h9_1 : (p1 &&& (1 : Int32)) = (0 : Int32)
    · try (simp only [if_pos h9_1] at k9)
      show Steps p.tables e below (T47.setTop (mkF m 9 #[.val (.int p1), .val (.int p2), .val (.ref b2), .unset, .unset, .unset, .unset, .unset, .unset, .unset, .unset, .unset, .unset, .unset] [(.int (p1 &&& (1 : Int32))), (.int (0 : Int32)), (.ref b2)])) _
      refine XS.ifYes X47.here hx rfl (pc0 := 9) (pc' := 16) rfl (hb hby at_9) rfl ((if0 _ _).trans (teq h9_1).1) (by decide) (by decide) ?_
      show Steps p.tables e below (T47.setTop (mkF m 16 #[.val (.int p1), .val (.int p2), .val (.ref b2), .unset, .unset, .unset, .unset, .unset, .unset, .unset, .unset, .unset, .unset, .unset] [(.int (0 : Int32)), (.ref b2)])) _
      refine XS.iconst X47.here hx rfl (hb hby at_16) ?_
      exact k9
    · try (simp only [if_neg h9_1] at k9)
      show Steps p.tables e below (T47.setTop (mkF m 9 #[.val (.int p1), .val (.int p2), .val (.ref b2), .unset, .unset, .unset, .unset, .unset, .unset, .unset, .unset, .unset, .unset, .unset] [(.int (p1 &&& (1 : Int32))), (.int (0 : Int32)), (.ref b2)])) _
      refine XS.ifNo X47.here hx rfl (hb hby at_9) rfl ((if0 _ _).trans (feq h9_1).1) ?_
      show Steps p.tables e below (T47.setTop (mkF m 12 #[.val (.int p1), .val (.int p2), .val (.ref b2), .unset, .unset, .unset, .unset, .unset, .unset, .unset, .unset, .unset, .unset, .unset] [(.int (0 : Int32)), (.ref b2)])) _
      refine XS.iconst X47.here hx rfl (hb hby at_12) ?_
      show Steps p.tables e below (T47.setTop (mkF m 13 #[.val (.int p1), .val (.int p2), .val (.ref b2), .unset, .unset, .unset, .unset, .unset, .unset, .unset, .unset, .unset, .unset, .unset] [(.int (1 : Int32)), (.int (0 : Int32)), (.ref b2)])) _
      refine XS.goto X47.here hx rfl (pc0 := 13) (pc' := 17) rfl (hb hby at_13) (by decide) (by decide) ?_
      exact k9
  obtain ⟨cl50, Ar50, Sz50, Hv50⟩ := V0
  have u51 : own_A Z h47 b2 .boolean 5 (fun j => .int (if j < 0 then own_bit p1 j else 0)) := ⟨cl50, Ar50, Sz50, Hv50⟩
  obtain ⟨T52, h52, X52, e52, W52, st52⟩ := stZ X47 hx hZ e47 Ar50 (j := (0 : Int32)) (own_hin Sz50 (by decide) (by decide)) (g := (mkF m 17 #[.val (.int p1), .val (.int p2), .val (.ref b2), .unset, .unset, .unset, .unset, .unset, .unset, .unset, .unset, .unset, .unset, .unset] [(.int (if (p1 &&& (1 : Int32)) = (0 : Int32) then (0 : Int32) else (1 : Int32))), (.int (0 : Int32)), (.ref b2)])) rfl rfl (hb hby at_17)
  have N52 := Fr.snoc X52 N0 g_b2
  refine go (T52.setTop (mkF m 18 #[.val (.int p1), .val (.int p2), .val (.ref b2), .unset, .unset, .unset, .unset, .unset, .unset, .unset, .unset, .unset, .unset, .unset] [])) _ (fun t9 k9 => st52 _ k9) ?_
  have u53 : Keep h0 h52 [] := u48.wr W52 (Or.inr sz_b2)
  have u54 : own_A Z h52 b2 .boolean 5 (fun j => .int (if j < 1 then own_bit p1 j else 0)) := own_A_congr (own_A_set Ar50 Sz50 Hv50 W52 (by decide)) (own_setbit p1 0 5)
  refine go (T52.setTop (mkF m 23 #[.val (.int p1), .val (.int p2), .val (.ref b2), .unset, .unset, .unset, .unset, .unset, .unset, .unset, .unset, .unset, .unset, .unset] [(.int (p1 &&& (2 : Int32))), (.int (1 : Int32)), (.ref b2)])) _ (fun t9 k9 => ?_) ?_
  · show Steps p.tables e below (T52.setTop (mkF m 18 #[.val (.int p1), .val (.int p2), .val (.ref b2), .unset, .unset, .unset, .unset, .unset, .unset, .unset, .unset, .unset, .unset, .unset] [])) _
    refine XS.aloadN X52.here hx rfl (hb hby at_18) rfl rfl ?_
    show Steps p.tables e below (T52.setTop (mkF m 19 #[.val (.int p1), .val (.int p2), .val (.ref b2), .unset, .unset, .unset, .unset, .unset, .unset, .unset, .unset, .unset, .unset, .unset] [(.ref b2)])) _
    refine XS.iconst X52.here hx rfl (hb hby at_19) ?_
    show Steps p.tables e below (T52.setTop (mkF m 20 #[.val (.int p1), .val (.int p2), .val (.ref b2), .unset, .unset, .unset, .unset, .unset, .unset, .unset, .unset, .unset, .unset, .unset] [(.int (1 : Int32)), (.ref b2)])) _
    refine XS.iloadN X52.here hx rfl (hb hby at_20) rfl ?_
    show Steps p.tables e below (T52.setTop (mkF m 21 #[.val (.int p1), .val (.int p2), .val (.ref b2), .unset, .unset, .unset, .unset, .unset, .unset, .unset, .unset, .unset, .unset, .unset] [(.int p1), (.int (1 : Int32)), (.ref b2)])) _
    refine XS.iconst X52.here hx rfl (hb hby at_21) ?_
    show Steps p.tables e below (T52.setTop (mkF m 22 #[.val (.int p1), .val (.int p2), .val (.ref b2), .unset, .unset, .unset, .unset, .unset, .unset, .unset, .unset, .unset, .unset, .unset] [(.int (2 : Int32)), (.int p1), (.int (1 : Int32)), (.ref b2)])) _
    refine XS.iand X52.here hx rfl (hb hby at_22) rfl ?_
    exact k9
  refine go (T52.setTop (mkF m 31 #[.val (.int p1), .val (.int p2), .val (.ref b2), .unset, .unset, .unset, .unset, .unset, .unset, .unset, .unset, .unset, .unset, .unset] [(.int (if (p1 &&& (2 : Int32)) = (0 : Int32) then (0 : Int32) else (1 : Int32))), (.int (1 : Int32)), (.ref b2)])) _ (fun t9 k9 => ?_) ?_
  · by_cases h23_1 : (p1 &&& (2 : Int32)) = (0 : Int32)
    · try (simp only [if_pos h23_1] at k9)
      show Steps p.tables e below (T52.setTop (mkF m 23 #[.val (.int p1), .val (.int p2), .val (.ref b2), .unset, .unset, .unset, .unset, .unset, .unset, .unset, .unset, .unset, .unset, .unset] [(.int (p1 &&& (2 : Int32))), (.int (1 : Int32)), (.ref b2)])) _
      refine XS.ifYes X52.here hx rfl (pc0 := 23) (pc' := 30) rfl (hb hby at_23) rfl ((if0 _ _).trans (teq h23_1).1) (by decide) (by decide) ?_
      show Steps p.tables e below (T52.setTop (mkF m 30 #[.val (.int p1), .val (.int p2), .val (.ref b2), .unset, .unset, .unset, .unset, .unset, .unset, .unset, .unset, .unset, .unset, .unset] [(.int (1 : Int32)), (.ref b2)])) _
      refine XS.iconst X52.here hx rfl (hb hby at_30) ?_
      exact k9
    · try (simp only [if_neg h23_1] at k9)
      show Steps p.tables e below (T52.setTop (mkF m 23 #[.val (.int p1), .val (.int p2), .val (.ref b2), .unset, .unset, .unset, .unset, .unset, .unset, .unset, .unset, .unset, .unset, .unset] [(.int (p1 &&& (2 : Int32))), (.int (1 : Int32)), (.ref b2)])) _
      refine XS.ifNo X52.here hx rfl (hb hby at_23) rfl ((if0 _ _).trans (feq h23_1).1) ?_
      show Steps p.tables e below (T52.setTop (mkF m 26 #[.val (.int p1), .val (.int p2), .val (.ref b2), .unset, .unset, .unset, .unset, .unset, .unset, .unset, .unset, .unset, .unset, .unset] [(.int (1 : Int32)), (.ref b2)])) _
      refine XS.iconst X52.here hx rfl (hb hby at_26) ?_
      show Steps p.tables e below (T52.setTop (mkF m 27 #[.val (.int p1), .val (.int p2), .val (.ref b2), .unset, .unset, .unset, .unset, .unset, .unset, .unset, .unset, .unset, .unset, .unset] [(.int (1 : Int32)), (.int (1 : Int32)), (.ref b2)])) _
      refine XS.goto X52.here hx rfl (pc0 := 27) (pc' := 31) rfl (hb hby at_27) (by decide) (by decide) ?_
      exact k9
  obtain ⟨cl55, Ar55, Sz55, Hv55⟩ := u54
  have u56 : own_A Z h52 b2 .boolean 5 (fun j => .int (if j < 1 then own_bit p1 j else 0)) := ⟨cl55, Ar55, Sz55, Hv55⟩
  obtain ⟨T57, h57, X57, e57, W57, st57⟩ := stZ X52 hx hZ e52 Ar55 (j := (1 : Int32)) (own_hin Sz55 (by decide) (by decide)) (g := (mkF m 31 #[.val (.int p1), .val (.int p2), .val (.ref b2), .unset, .unset, .unset, .unset, .unset, .unset, .unset, .unset, .unset, .unset, .unset] [(.int (if (p1 &&& (2 : Int32)) = (0 : Int32) then (0 : Int32) else (1 : Int32))), (.int (1 : Int32)), (.ref b2)])) rfl rfl (hb hby at_31)
  have N57 := Fr.snoc X57 N52 g_b2
  refine go (T57.setTop (mkF m 32 #[.val (.int p1), .val (.int p2), .val (.ref b2), .unset, .unset, .unset, .unset, .unset, .unset, .unset, .unset, .unset, .unset, .unset] [])) _ (fun t9 k9 => st57 _ k9) ?_
  have u58 : Keep h0 h57 [] := u53.wr W57 (Or.inr sz_b2)
  have u59 : own_A Z h57 b2 .boolean 5 (fun j => .int (if j < 2 then own_bit p1 j else 0)) := own_A_congr (own_A_set Ar55 Sz55 Hv55 W57 (by decide)) (own_setbit p1 1 5)
  refine go (T57.setTop (mkF m 37 #[.val (.int p1), .val (.int p2), .val (.ref b2), .unset, .unset, .unset, .unset, .unset, .unset, .unset, .unset, .unset, .unset, .unset] [(.int (p1 &&& (4 : Int32))), (.int (2 : Int32)), (.ref b2)])) _ (fun t9 k9 => ?_) ?_
  · show Steps p.tables e below (T57.setTop (mkF m 32 #[.val (.int p1), .val (.int p2), .val (.ref b2), .unset, .unset, .unset, .unset, .unset, .unset, .unset, .unset, .unset, .unset, .unset] [])) _
    refine XS.aloadN X57.here hx rfl (hb hby at_32) rfl rfl ?_
    show Steps p.tables e below (T57.setTop (mkF m 33 #[.val (.int p1), .val (.int p2), .val (.ref b2), .unset, .unset, .unset, .unset, .unset, .unset, .unset, .unset, .unset, .unset, .unset] [(.ref b2)])) _
    refine XS.iconst X57.here hx rfl (hb hby at_33) ?_
    show Steps p.tables e below (T57.setTop (mkF m 34 #[.val (.int p1), .val (.int p2), .val (.ref b2), .unset, .unset, .unset, .unset, .unset, .unset, .unset, .unset, .unset, .unset, .unset] [(.int (2 : Int32)), (.ref b2)])) _
    refine XS.iloadN X57.here hx rfl (hb hby at_34) rfl ?_
    show Steps p.tables e below (T57.setTop (mkF m 35 #[.val (.int p1), .val (.int p2), .val (.ref b2), .unset, .unset, .unset, .unset, .unset, .unset, .unset, .unset, .unset, .unset, .unset] [(.int p1), (.int (2 : Int32)), (.ref b2)])) _
    refine XS.iconst X57.here hx rfl (hb hby at_35) ?_
    show Steps p.tables e below (T57.setTop (mkF m 36 #[.val (.int p1), .val (.int p2), .val (.ref b2), .unset, .unset, .unset, .unset, .unset, .unset, .unset, .unset, .unset, .unset, .unset] [(.int (4 : Int32)), (.int p1), (.int (2 : Int32)), (.ref b2)])) _
    refine XS.iand X57.here hx rfl (hb hby at_36) rfl ?_
    exact k9
  refine go (T57.setTop (mkF m 45 #[.val (.int p1), .val (.int p2), .val (.ref b2), .unset, .unset, .unset, .unset, .unset, .unset, .unset, .unset, .unset, .unset, .unset] [(.int (if (p1 &&& (4 : Int32)) = (0 : Int32) then (0 : Int32) else (1 : Int32))), (.int (2 : Int32)), (.ref b2)])) _ (fun t9 k9 => ?_) ?_
  · by_cases h37_1 : (p1 &&& (4 : Int32)) = (0 : Int32)
    · try (simp only [if_pos h37_1] at k9)
      show Steps p.tables e below (T57.setTop (mkF m 37 #[.val (.int p1), .val (.int p2), .val (.ref b2), .unset, .unset, .unset, .unset, .unset, .unset, .unset, .unset, .unset, .unset, .unset] [(.int (p1 &&& (4 : Int32))), (.int (2 : Int32)), (.ref b2)])) _
      refine XS.ifYes X57.here hx rfl (pc0 := 37) (pc' := 44) rfl (hb hby at_37) rfl ((if0 _ _).trans (teq h37_1).1) (by decide) (by decide) ?_
      show Steps p.tables e below (T57.setTop (mkF m 44 #[.val (.int p1), .val (.int p2), .val (.ref b2), .unset, .unset, .unset, .unset, .unset, .unset, .unset, .unset, .unset, .unset, .unset] [(.int (2 : Int32)), (.ref b2)])) _
      refine XS.iconst X57.here hx rfl (hb hby at_44) ?_
      exact k9
    · try (simp only [if_neg h37_1] at k9)
      show Steps p.tables e below (T57.setTop (mkF m 37 #[.val (.int p1), .val (.int p2), .val (.ref b2), .unset, .unset, .unset, .unset, .unset, .unset, .unset, .unset, .unset, .unset, .unset] [(.int (p1 &&& (4 : Int32))), (.int (2 : Int32)), (.ref b2)])) _
      refine XS.ifNo X57.here hx rfl (hb hby at_37) rfl ((if0 _ _).trans (feq h37_1).1) ?_
      show Steps p.tables e below (T57.setTop (mkF m 40 #[.val (.int p1), .val (.int p2), .val (.ref b2), .unset, .unset, .unset, .unset, .unset, .unset, .unset, .unset, .unset, .unset, .unset] [(.int (2 : Int32)), (.ref b2)])) _
      refine XS.iconst X57.here hx rfl (hb hby at_40) ?_
      show Steps p.tables e below (T57.setTop (mkF m 41 #[.val (.int p1), .val (.int p2), .val (.ref b2), .unset, .unset, .unset, .unset, .unset, .unset, .unset, .unset, .unset, .unset, .unset] [(.int (1 : Int32)), (.int (2 : Int32)), (.ref b2)])) _
      refine XS.goto X57.here hx rfl (pc0 := 41) (pc' := 45) rfl (hb hby at_41) (by decide) (by decide) ?_
      exact k9
  obtain ⟨cl60, Ar60, Sz60, Hv60⟩ := u59
  have u61 : own_A Z h57 b2 .boolean 5 (fun j => .int (if j < 2 then own_bit p1 j else 0)) := ⟨cl60, Ar60, Sz60, Hv60⟩
  obtain ⟨T62, h62, X62, e62, W62, st62⟩ := stZ X57 hx hZ e57 Ar60 (j := (2 : Int32)) (own_hin Sz60 (by decide) (by decide)) (g := (mkF m 45 #[.val (.int p1), .val (.int p2), .val (.ref b2), .unset, .unset, .unset, .unset, .unset, .unset, .unset, .unset, .unset, .unset, .unset] [(.int (if (p1 &&& (4 : Int32)) = (0 : Int32) then (0 : Int32) else (1 : Int32))), (.int (2 : Int32)), (.ref b2)])) rfl rfl (hb hby at_45)
  have N62 := Fr.snoc X62 N57 g_b2
  refine go (T62.setTop (mkF m 46 #[.val (.int p1), .val (.int p2), .val (.ref b2), .unset, .unset, .unset, .unset, .unset, .unset, .unset, .unset, .unset, .unset, .unset] [])) _ (fun t9 k9 => st62 _ k9) ?_
  have u63 : Keep h0 h62 [] := u58.wr W62 (Or.inr sz_b2)
  have u64 : own_A Z h62 b2 .boolean 5 (fun j => .int (if j < 3 then own_bit p1 j else 0)) := own_A_congr (own_A_set Ar60 Sz60 Hv60 W62 (by decide)) (own_setbit p1 2 5)
  refine go (T62.setTop (mkF m 52 #[.val (.int p1), .val (.int p2), .val (.ref b2), .unset, .unset, .unset, .unset, .unset, .unset, .unset, .unset, .unset, .unset, .unset] [(.int (p1 &&& (8 : Int32))), (.int (3 : Int32)), (.ref b2)])) _ (fun t9 k9 => ?_) ?_
  · show Steps p.tables e below (T62.setTop (mkF m 46 #[.val (.int p1), .val (.int p2), .val (.ref b2), .unset, .unset, .unset, .unset, .unset, .unset, .unset, .unset, .unset, .unset, .unset] [])) _
    refine XS.aloadN X62.here hx rfl (hb hby at_46) rfl rfl ?_
    show Steps p.tables e below (T62.setTop (mkF m 47 #[.val (.int p1), .val (.int p2), .val (.ref b2), .unset, .unset, .unset, .unset, .unset, .unset, .unset, .unset, .unset, .unset, .unset] [(.ref b2)])) _
    refine XS.iconst X62.here hx rfl (hb hby at_47) ?_
    show Steps p.tables e below (T62.setTop (mkF m 48 #[.val (.int p1), .val (.int p2), .val (.ref b2), .unset, .unset, .unset, .unset, .unset, .unset, .unset, .unset, .unset, .unset, .unset] [(.int (3 : Int32)), (.ref b2)])) _
    refine XS.iloadN X62.here hx rfl (hb hby at_48) rfl ?_
    show Steps p.tables e below (T62.setTop (mkF m 49 #[.val (.int p1), .val (.int p2), .val (.ref b2), .unset, .unset, .unset, .unset, .unset, .unset, .unset, .unset, .unset, .unset, .unset] [(.int p1), (.int (3 : Int32)), (.ref b2)])) _
    refine XS.bipush X62.here hx rfl (hb hby at_49) ?_
    show Steps p.tables e below (T62.setTop (mkF m 51 #[.val (.int p1), .val (.int p2), .val (.ref b2), .unset, .unset, .unset, .unset, .unset, .unset, .unset, .unset, .unset, .unset, .unset] [(.int (8 : Int32)), (.int p1), (.int (3 : Int32)), (.ref b2)])) _
    refine XS.iand X62.here hx rfl (hb hby at_51) rfl ?_
    exact k9
  refine go (T62.setTop (mkF m 60 #[.val (.int p1), .val (.int p2), .val (.ref b2), .unset, .unset, .unset, .unset, .unset, .unset, .unset, .unset, .unset, .unset, .unset] [(.int (if (p1 &&& (8 : Int32)) = (0 : Int32) then (0 : Int32) else (1 : Int32))), (.int (3 : Int32)), (.ref b2)])) _ (fun t9 k9 => ?_) ?_
  · by_cases h52_1 : (p1 &&& (8 : Int32)) = (0 : Int32)
    · try (simp only [if_pos h52_1] at k9)
      show Steps p.tables e below (T62.setTop (mkF m 52 #[.val (.int p1), .val (.int p2), .val (.ref b2), .unset, .unset, .unset, .unset, .unset, .unset, .unset, .unset, .unset, .unset, .unset] [(.int (p1 &&& (8 : Int32))), (.int (3 : Int32)), (.ref b2)])) _
      refine XS.ifYes X62.here hx rfl (pc0 := 52) (pc' := 59) rfl (hb hby at_52) rfl ((if0 _ _).trans (teq h52_1).1) (by decide) (by decide) ?_
      show Steps p.tables e below (T62.setTop (mkF m 59 #[.val (.int p1), .val (.int p2), .val (.ref b2), .unset, .unset, .unset, .unset, .unset, .unset, .unset, .unset, .unset, .unset, .unset] [(.int (3 : Int32)), (.ref b2)])) _
      refine XS.iconst X62.here hx rfl (hb hby at_59) ?_
      exact k9
    · try (simp only [if_neg h52_1] at k9)
      show Steps p.tables e below (T62.setTop (mkF m 52 #[.val (.int p1), .val (.int p2), .val (.ref b2), .unset, .unset, .unset, .unset, .unset, .unset, .unset, .unset, .unset, .unset, .unset] [(.int (p1 &&& (8 : Int32))), (.int (3 : Int32)), (.ref b2)])) _
      refine XS.ifNo X62.here hx rfl (hb hby at_52) rfl ((if0 _ _).trans (feq h52_1).1) ?_
      show Steps p.tables e below (T62.setTop (mkF m 55 #[.val (.int p1), .val (.int p2), .val (.ref b2), .unset, .unset, .unset, .unset, .unset, .unset, .unset, .unset, .unset, .unset, .unset] [(.int (3 : Int32)), (.ref b2)])) _
      refine XS.iconst X62.here hx rfl (hb hby at_55) ?_
      show Steps p.tables e below (T62.setTop (mkF m 56 #[.val (.int p1), .val (.int p2), .val (.ref b2), .unset, .unset, .unset, .unset, .unset, .unset, .unset, .unset, .unset, .unset, .unset] [(.int (1 : Int32)), (.int (3 : Int32)), (.ref b2)])) _
      refine XS.goto X62.here hx rfl (pc0 := 56) (pc' := 60) rfl (hb hby at_56) (by decide) (by decide) ?_
      exact k9
  obtain ⟨cl65, Ar65, Sz65, Hv65⟩ := u64
  have u66 : own_A Z h62 b2 .boolean 5 (fun j => .int (if j < 3 then own_bit p1 j else 0)) := ⟨cl65, Ar65, Sz65, Hv65⟩
  obtain ⟨T67, h67, X67, e67, W67, st67⟩ := stZ X62 hx hZ e62 Ar65 (j := (3 : Int32)) (own_hin Sz65 (by decide) (by decide)) (g := (mkF m 60 #[.val (.int p1), .val (.int p2), .val (.ref b2), .unset, .unset, .unset, .unset, .unset, .unset, .unset, .unset, .unset, .unset, .unset] [(.int (if (p1 &&& (8 : Int32)) = (0 : Int32) then (0 : Int32) else (1 : Int32))), (.int (3 : Int32)), (.ref b2)])) rfl rfl (hb hby at_60)
  have N67 := Fr.snoc X67 N62 g_b2
  refine go (T67.setTop (mkF m 61 #[.val (.int p1), .val (.int p2), .val (.ref b2), .unset, .unset, .unset, .unset, .unset, .unset, .unset, .unset, .unset, .unset, .unset] [])) _ (fun t9 k9 => st67 _ k9) ?_
  have u68 : Keep h0 h67 [] := u63.wr W67 (Or.inr sz_b2)
  have u69 : own_A Z h67 b2 .boolean 5 (fun j => .int (if j < 4 then own_bit p1 j else 0)) := own_A_congr (own_A_set Ar65 Sz65 Hv65 W67 (by decide)) (own_setbit p1 3 5)
  refine go (T67.setTop (mkF m 67 #[.val (.int p1), .val (.int p2), .val (.ref b2), .unset, .unset, .unset, .unset, .unset, .unset, .unset, .unset, .unset, .unset, .unset] [(.int (p1 &&& (16 : Int32))), (.int (4 : Int32)), (.ref b2)])) _ (fun t9 k9 => ?_) ?_
  · show Steps p.tables e below (T67.setTop (mkF m 61 #[.val (.int p1), .val (.int p2), .val (.ref b2), .unset, .unset, .unset, .unset, .unset, .unset, .unset, .unset, .unset, .unset, .unset] [])) _
    refine XS.aloadN X67.here hx rfl (hb hby at_61) rfl rfl ?_
    show Steps p.tables e below (T67.setTop (mkF m 62 #[.val (.int p1), .val (.int p2), .val (.ref b2), .unset, .unset, .unset, .unset, .unset, .unset, .unset, .unset, .unset, .unset, .unset] [(.ref b2)])) _
    refine XS.iconst X67.here hx rfl (hb hby at_62) ?_
    show Steps p.tables e below (T67.setTop (mkF m 63 #[.val (.int p1), .val (.int p2), .val (.ref b2), .unset, .unset, .unset, .unset, .unset, .unset, .unset, .unset, .unset, .unset, .unset] [(.int (4 : Int32)), (.ref b2)])) _
    refine XS.iloadN X67.here hx rfl (hb hby at_63) rfl ?_
    show Steps p.tables e below (T67.setTop (mkF m 64 #[.val (.int p1), .val (.int p2), .val (.ref b2), .unset, .unset, .unset, .unset, .unset, .unset, .unset, .unset, .unset, .unset, .unset] [(.int p1), (.int (4 : Int32)), (.ref b2)])) _
    refine XS.bipush X67.here hx rfl (hb hby at_64) ?_
    show Steps p.tables e below (T67.setTop (mkF m 66 #[.val (.int p1), .val (.int p2), .val (.ref b2), .unset, .unset, .unset, .unset, .unset, .unset, .unset, .unset, .unset, .unset, .unset] [(.int (16 : Int32)), (.int p1), (.int (4 : Int32)), (.ref b2)])) _
    refine XS.iand X67.here hx rfl (hb hby at_66) rfl ?_
    exact k9
  refine go (T67.setTop (mkF m 75 #[.val (.int p1), .val (.int p2), .val (.ref b2), .unset, .unset, .unset, .unset, .unset, .unset, .unset, .unset, .unset, .unset, .unset] [(.int (if (p1 &&& (16 : Int32)) = (0 : Int32) then (0 : Int32) else (1 : Int32))), (.int (4 : Int32)), (.ref b2)])) _ (fun t9 k9 => ?_) ?_
  · by_cases h67_1 : (p1 &&& (16 : Int32)) = (0 : Int32)
    · try (simp only [if_pos h67_1] at k9)
      show Steps p.tables e below (T67.setTop (mkF m 67 #[.val (.int p1), .val (.int p2), .val (.ref b2), .unset, .unset, .unset, .unset, .unset, .unset, .unset, .unset, .unset, .unset, .unset] [(.int (p1 &&& (16 : Int32))), (.int (4 : Int32)), (.ref b2)])) _
      refine XS.ifYes X67.here hx rfl (pc0 := 67) (pc' := 74) rfl (hb hby at_67) rfl ((if0 _ _).trans (teq h67_1).1) (by decide) (by decide) ?_
      show Steps p.tables e below (T67.setTop (mkF m 74 #[.val (.int p1), .val (.int p2), .val (.ref b2), .unset, .unset, .unset, .unset, .unset, .unset, .unset, .unset, .unset, .unset, .unset] [(.int (4 : Int32)), (.ref b2)])) _
      refine XS.iconst X67.here hx rfl (hb hby at_74) ?_
      exact k9
    · try (simp only [if_neg h67_1] at k9)
      show Steps p.tables e below (T67.setTop (mkF m 67 #[.val (.int p1), .val (.int p2), .val (.ref b2), .unset, .unset, .unset, .unset, .unset, .unset, .unset, .unset, .unset, .unset, .unset] [(.int (p1 &&& (16 : Int32))), (.int (4 : Int32)), (.ref b2)])) _
      refine XS.ifNo X67.here hx rfl (hb hby at_67) rfl ((if0 _ _).trans (feq h67_1).1) ?_
      show Steps p.tables e below (T67.setTop (mkF m 70 #[.val (.int p1), .val (.int p2), .val (.ref b2), .unset, .unset, .unset, .unset, .unset, .unset, .unset, .unset, .unset, .unset, .unset] [(.int (4 : Int32)), (.ref b2)])) _
      refine XS.iconst X67.here hx rfl (hb hby at_70) ?_
      show Steps p.tables e below (T67.setTop (mkF m 71 #[.val (.int p1), .val (.int p2), .val (.ref b2), .unset, .unset, .unset, .unset, .unset, .unset, .unset, .unset, .unset, .unset, .unset] [(.int (1 : Int32)), (.int (4 : Int32)), (.ref b2)])) _
      refine XS.goto X67.here hx rfl (pc0 := 71) (pc' := 75) rfl (hb hby at_71) (by decide) (by decide) ?_
      exact k9
  obtain ⟨cl70, Ar70, Sz70, Hv70⟩ := u69
  have u71 : own_A Z h67 b2 .boolean 5 (fun j => .int (if j < 4 then own_bit p1 j else 0)) := ⟨cl70, Ar70, Sz70, Hv70⟩
  obtain ⟨T72, h72, X72, e72, W72, st72⟩ := stZ X67 hx hZ e67 Ar70 (j := (4 : Int32)) (own_hin Sz70 (by decide) (by decide)) (g := (mkF m 75 #[.val (.int p1), .val (.int p2), .val (.ref b2), .unset, .unset, .unset, .unset, .unset, .unset, .unset, .unset, .unset, .unset, .unset] [(.int (if (p1 &&& (16 : Int32)) = (0 : Int32) then (0 : Int32) else (1 : Int32))), (.int (4 : Int32)), (.ref b2)])) rfl rfl (hb hby at_75)
  have N72 := Fr.snoc X72 N67 g_b2
  refine go (T72.setTop (mkF m 76 #[.val (.int p1), .val (.int p2), .val (.ref b2), .unset, .unset, .unset, .unset, .unset, .unset, .unset, .unset, .unset, .unset, .unset] [])) _ (fun t9 k9 => st72 _ k9) ?_
  have u73 : Keep h0 h72 [] := u68.wr W72 (Or.inr sz_b2)
  have u74 : own_A Z h72 b2 .boolean 5 (fun j => .int (if j < 5 then own_bit p1 j else 0)) := own_A_congr (own_A_set Ar70 Sz70 Hv70 W72 (by decide)) (own_setbit p1 4 5)
  have V5 : own_A Z h72 b2 .boolean 5 (fun j => .int (own_bit p1 j)) := own_A_congr u74 (own_full Value.int (own_bit p1) 0 5)
  refine go (T72.setTop (mkF m 83 #[.val (.int p1), .val (.int p2), .val (.ref b2), .val (.int (0 : Int32)), .val (.long (0 : Int64)), .second, .unset, .unset, .unset, .unset, .unset, .unset, .unset, .unset] [(.int (0 : Int32)), (.ref b2)])) _ (fun t9 k9 => ?_) ?_
  · show Steps p.tables e below (T72.setTop (mkF m 76 #[.val (.int p1), .val (.int p2), .val (.ref b2), .unset, .unset, .unset, .unset, .unset, .unset, .unset, .unset, .unset, .unset, .unset] [])) _
    refine XS.iconst X72.here hx rfl (hb hby at_76) ?_
    show Steps p.tables e below (T72.setTop (mkF m 77 #[.val (.int p1), .val (.int p2), .val (.ref b2), .unset, .unset, .unset, .unset, .unset, .unset, .unset, .unset, .unset, .unset, .unset] [(.int (0 : Int32))])) _
    refine XS.istoreN X72.here hx rfl (hb hby at_77) rfl (l' := #[.val (.int p1), .val (.int p2), .val (.ref b2), .val (.int (0 : Int32)), .unset, .unset, .unset, .unset, .unset, .unset, .unset, .unset, .unset, .unset]) rfl ?_
    show Steps p.tables e below (T72.setTop (mkF m 78 #[.val (.int p1), .val (.int p2), .val (.ref b2), .val (.int (0 : Int32)), .unset, .unset, .unset, .unset, .unset, .unset, .unset, .unset, .unset, .unset] [])) _
    refine XS.lconst X72.here hx rfl (hb hby at_78) ?_
    show Steps p.tables e below (T72.setTop (mkF m 79 #[.val (.int p1), .val (.int p2), .val (.ref b2), .val (.int (0 : Int32)), .unset, .unset, .unset, .unset, .unset, .unset, .unset, .unset, .unset, .unset] [(.long (0 : Int64))])) _
    refine XS.lstore X72.here hx rfl (hb hby at_79) rfl (l' := #[.val (.int p1), .val (.int p2), .val (.ref b2), .val (.int (0 : Int32)), .val (.long (0 : Int64)), .second, .unset, .unset, .unset, .unset, .unset, .unset, .unset, .unset]) rfl ?_
    show Steps p.tables e below (T72.setTop (mkF m 81 #[.val (.int p1), .val (.int p2), .val (.ref b2), .val (.int (0 : Int32)), .val (.long (0 : Int64)), .second, .unset, .unset, .unset, .unset, .unset, .unset, .unset, .unset] [])) _
    refine XS.aloadN X72.here hx rfl (hb hby at_81) rfl rfl ?_
    show Steps p.tables e below (T72.setTop (mkF m 82 #[.val (.int p1), .val (.int p2), .val (.ref b2), .val (.int (0 : Int32)), .val (.long (0 : Int64)), .second, .unset, .unset, .unset, .unset, .unset, .unset, .unset, .unset] [(.ref b2)])) _
    refine XS.iconst X72.here hx rfl (hb hby at_82) ?_
    exact k9
  obtain ⟨cl75, Ar75, Sz75, Hv75⟩ := V5
  have u76 : own_A Z h72 b2 .boolean 5 (fun j => .int (own_bit p1 j)) := ⟨cl75, Ar75, Sz75, Hv75⟩
  refine go (T72.setTop (mkF m 84 #[.val (.int p1), .val (.int p2), .val (.ref b2), .val (.int (0 : Int32)), .val (.long (0 : Int64)), .second, .unset, .unset, .unset, .unset, .unset, .unset, .unset, .unset] [(.int (own_bit p1 0))])) _ (fun t9 k9 => ?_) ?_
  · show Steps p.tables e below (T72.setTop (mkF m 83 #[.val (.int p1), .val (.int p2), .val (.ref b2), .val (.int (0 : Int32)), .val (.long (0 : Int64)), .second, .unset, .unset, .unset, .unset, .unset, .unset, .unset, .unset] [(.int (0 : Int32)), (.ref b2)])) _
    refine X72.baloadBooleans hx (j := (0 : Int32)) (v := (.int (own_bit p1 0))) (by rw [e72]; exact Ar75.1) (State.isArrayOf_alike hZ.alike Ar75.2.1) Ar75.2.2 (own_hin Sz75 (by decide) (by decide)) (Hv75 _ (by decide)) (g := (mkF m 83 #[.val (.int p1), .val (.int p2), .val (.ref b2), .val (.int (0 : Int32)), .val (.long (0 : Int64)), .second, .unset, .unset, .unset, .unset, .unset, .unset, .unset, .unset] [(.int (0 : Int32)), (.ref b2)])) rfl rfl (hb hby at_83) _ ?_
    exact k9
  refine go (T72.setTop (mkF m 101 #[.val (.int p1), .val (.int p2), .val (.ref b2), .val (.int (if (own_bit p1 0) = (0 : Int32) then (0 : Int32) else ((0 : Int32) + (1 : Int32)))), .val (.long (if (own_bit p1 0) = (0 : Int32) then (0 : Int64) else ((0 : Int64) + ((60 : Int64) * (((0 : Int32) + (1 : Int32)).toInt64))))), .second, .unset, .unset, .unset, .unset, .unset, .unset, .unset, .unset] [])) _ (fun t9 k9 => ?_) ?_
  · by_cases h84_1 : (own_bit p1 0) = (0 : Int32)
    · try (simp only [if_pos h84_1] at k9)
      show Steps p.tables e below (T72.setTop (mkF m 84 #[.val (.int p1), .val (.int p2), .val (.ref b2), .val (.int (0 : Int32)), .val (.long (0 : Int64)), .second, .unset, .unset, .unset, .unset, .unset, .unset, .unset, .unset] [(.int (own_bit p1 0))])) _
      refine XS.ifYes X72.here hx rfl (pc0 := 84) (pc' := 101) rfl (hb hby at_84) rfl ((if0 _ _).trans (teq h84_1).1) (by decide) (by decide) ?_
      exact k9
    · try (simp only [if_neg h84_1] at k9)
      show Steps p.tables e below (T72.setTop (mkF m 84 #[.val (.int p1), .val (.int p2), .val (.ref b2), .val (.int (0 : Int32)), .val (.long (0 : Int64)), .second, .unset, .unset, .unset, .unset, .unset, .unset, .unset, .unset] [(.int (own_bit p1 0))])) _
      refine XS.ifNo X72.here hx rfl (hb hby at_84) rfl ((if0 _ _).trans (feq h84_1).1) ?_
      show Steps p.tables e below (T72.setTop (mkF m 87 #[.val (.int p1), .val (.int p2), .val (.ref b2), .val (.int (0 : Int32)), .val (.long (0 : Int64)), .second, .unset, .unset, .unset, .unset, .unset, .unset, .unset, .unset] [])) _
      refine XS.iinc X72.here hx rfl (hb hby at_87) rfl (l' := #[.val (.int p1), .val (.int p2), .val (.ref b2), .val (.int ((0 : Int32) + (1 : Int32))), .val (.long (0 : Int64)), .second, .unset, .unset, .unset, .unset, .unset, .unset, .unset, .unset]) rfl ?_
      show Steps p.tables e below (T72.setTop (mkF m 90 #[.val (.int p1), .val (.int p2), .val (.ref b2), .val (.int ((0 : Int32) + (1 : Int32))), .val (.long (0 : Int64)), .second, .unset, .unset, .unset, .unset, .unset, .unset, .unset, .unset] [])) _
      refine XS.lload X72.here hx rfl (hb hby at_90) rfl ?_
      show Steps p.tables e below (T72.setTop (mkF m 92 #[.val (.int p1), .val (.int p2), .val (.ref b2), .val (.int ((0 : Int32) + (1 : Int32))), .val (.long (0 : Int64)), .second, .unset, .unset, .unset, .unset, .unset, .unset, .unset, .unset] [(.long (0 : Int64))])) _
      refine X72.ldc2Long hx hown (mvT hZ (hw _ (List.mem_of_getElem? (i := 29) rfl))) (g := (mkF m 92 #[.val (.int p1), .val (.int p2), .val (.ref b2), .val (.int ((0 : Int32) + (1 : Int32))), .val (.long (0 : Int64)), .second, .unset, .unset, .unset, .unset, .unset, .unset, .unset, .unset] [(.long (0 : Int64))])) rfl (hb hby at_92) _ ?_
      show Steps p.tables e below (T72.setTop (mkF m 95 #[.val (.int p1), .val (.int p2), .val (.ref b2), .val (.int ((0 : Int32) + (1 : Int32))), .val (.long (0 : Int64)), .second, .unset, .unset, .unset, .unset, .unset, .unset, .unset, .unset] [(.long (60 : Int64)), (.long (0 : Int64))])) _
      refine XS.iloadN X72.here hx rfl (hb hby at_95) rfl ?_
      show Steps p.tables e below (T72.setTop (mkF m 96 #[.val (.int p1), .val (.int p2), .val (.ref b2), .val (.int ((0 : Int32) + (1 : Int32))), .val (.long (0 : Int64)), .second, .unset, .unset, .unset, .unset, .unset, .unset, .unset, .unset] [(.int ((0 : Int32) + (1 : Int32))), (.long (60 : Int64)), (.long (0 : Int64))])) _
      refine XS.i2l X72.here hx rfl (hb hby at_96) rfl ?_
      show Steps p.tables e below (T72.setTop (mkF m 97 #[.val (.int p1), .val (.int p2), .val (.ref b2), .val (.int ((0 : Int32) + (1 : Int32))), .val (.long (0 : Int64)), .second, .unset, .unset, .unset, .unset, .unset, .unset, .unset, .unset] [(.long (((0 : Int32) + (1 : Int32)).toInt64)), (.long (60 : Int64)), (.long (0 : Int64))])) _
      refine XS.lmul X72.here hx rfl (hb hby at_97) rfl ?_
      show Steps p.tables e below (T72.setTop (mkF m 98 #[.val (.int p1), .val (.int p2), .val (.ref b2), .val (.int ((0 : Int32) + (1 : Int32))), .val (.long (0 : Int64)), .second, .unset, .unset, .unset, .unset, .unset, .unset, .unset, .unset] [(.long ((60 : Int64) * (((0 : Int32) + (1 : Int32)).toInt64))), (.long (0 : Int64))])) _
      refine XS.ladd X72.here hx rfl (hb hby at_98) rfl ?_
      show Steps p.tables e below (T72.setTop (mkF m 99 #[.val (.int p1), .val (.int p2), .val (.ref b2), .val (.int ((0 : Int32) + (1 : Int32))), .val (.long (0 : Int64)), .second, .unset, .unset, .unset, .unset, .unset, .unset, .unset, .unset] [(.long ((0 : Int64) + ((60 : Int64) * (((0 : Int32) + (1 : Int32)).toInt64))))])) _
      refine XS.lstore X72.here hx rfl (hb hby at_99) rfl (l' := #[.val (.int p1), .val (.int p2), .val (.ref b2), .val (.int ((0 : Int32) + (1 : Int32))), .val (.long ((0 : Int64) + ((60 : Int64) * (((0 : Int32) + (1 : Int32)).toInt64)))), .second, .unset, .unset, .unset, .unset, .unset, .unset, .unset, .unset]) rfl ?_
      exact k9
  generalize hn1 : (if (own_bit p1 0) = (0 : Int32) then (0 : Int64) else ((0 : Int64) + ((60 : Int64) * (((0 : Int32) + (1 : Int32)).toInt64)))) = n1'
  generalize hc1 : (if (own_bit p1 0) = (0 : Int32) then (0 : Int32) else ((0 : Int32) + (1 : Int32))) = c1'
  have kn1 : own_n (own_bit p1 0) (0 : Int32) (60 : Int64) (0 : Int64) = n1' := hn1
  have kc1 : own_h (own_bit p1 0) (0 : Int32) = c1' := hc1
  refine go (T72.setTop (mkF m 104 #[.val (.int p1), .val (.int p2), .val (.ref b2), .val (.int c1'), .val (.long n1'), .second, .unset, .unset, .unset, .unset, .unset, .unset, .unset, .unset] [(.int (own_bit p1 1))])) _ (fun t9 k9 => ?_) ?_
  · show Steps p.tables e below (T72.setTop (mkF m 101 #[.val (.int p1), .val (.int p2), .val (.ref b2), .val (.int c1'), .val (.long n1'), .second, .unset, .unset, .unset, .unset, .unset, .unset, .unset, .unset] [])) _
    refine XS.aloadN X72.here hx rfl (hb hby at_101) rfl rfl ?_
    show Steps p.tables e below (T72.setTop (mkF m 102 #[.val (.int p1), .val (.int p2), .val (.ref b2), .val (.int c1'), .val (.long n1'), .second, .unset, .unset, .unset, .unset, .unset, .unset, .unset, .unset] [(.ref b2)])) _
    refine XS.iconst X72.here hx rfl (hb hby at_102) ?_
    show Steps p.tables e below (T72.setTop (mkF m 103 #[.val (.int p1), .val (.int p2), .val (.ref b2), .val (.int c1'), .val (.long n1'), .second, .unset, .unset, .unset, .unset, .unset, .unset, .unset, .unset] [(.int (1 : Int32)), (.ref b2)])) _
    refine X72.baloadBooleans hx (j := (1 : Int32)) (v := (.int (own_bit p1 1))) (by rw [e72]; exact Ar75.1) (State.isArrayOf_alike hZ.alike Ar75.2.1) Ar75.2.2 (own_hin Sz75 (by decide) (by decide)) (Hv75 _ (by decide)) (g := (mkF m 103 #[.val (.int p1), .val (.int p2), .val (.ref b2), .val (.int c1'), .val (.long n1'), .second, .unset, .unset, .unset, .unset, .unset, .unset, .unset, .unset] [(.int (1 : Int32)), (.ref b2)])) rfl rfl (hb hby at_103) _ ?_
    exact k9
  refine go (T72.setTop (mkF m 121 #[.val (.int p1), .val (.int p2), .val (.ref b2), .val (.int (if (own_bit p1 1) = (0 : Int32) then c1' else (c1' + (1 : Int32)))), .val (.long (if (own_bit p1 1) = (0 : Int32) then n1' else (n1' + ((30 : Int64) * ((c1' + (1 : Int32)).toInt64))))), .second, .unset, .unset, .unset, .unset, .unset, .unset, .unset, .unset] [])) _ (fun t9 k9 => ?_) ?_
  · by_cases h104_1 : (own_bit p1 1) = (0 : Int32)
    · try (simp only [if_pos h104_1] at k9)
      show Steps p.tables e below (T72.setTop (mkF m 104 #[.val (.int p1), .val (.int p2), .val (.ref b2), .val (.int c1'), .val (.long n1'), .second, .unset, .unset, .unset, .unset, .unset, .unset, .unset, .unset] [(.int (own_bit p1 1))])) _
      refine XS.ifYes X72.here hx rfl (pc0 := 104) (pc' := 121) rfl (hb hby at_104) rfl ((if0 _ _).trans (teq h104_1).1) (by decide) (by decide) ?_
      exact k9
    · try (simp only [if_neg h104_1] at k9)
      show Steps p.tables e below (T72.setTop (mkF m 104 #[.val (.int p1), .val (.int p2), .val (.ref b2), .val (.int c1'), .val (.long n1'), .second, .unset, .unset, .unset, .unset, .unset, .unset, .unset, .unset] [(.int (own_bit p1 1))])) _
      refine XS.ifNo X72.here hx rfl (hb hby at_104) rfl ((if0 _ _).trans (feq h104_1).1) ?_
      show Steps p.tables e below (T72.setTop (mkF m 107 #[.val (.int p1), .val (.int p2), .val (.ref b2), .val (.int c1'), .val (.long n1'), .second, .unset, .unset, .unset, .unset, .unset, .unset, .unset, .unset] [])) _
      refine XS.iinc X72.here hx rfl (hb hby at_107) rfl (l' := #[.val (.int p1), .val (.int p2), .val (.ref b2), .val (.int (c1' + (1 : Int32))), .val (.long n1'), .second, .unset, .unset, .unset, .unset, .unset, .unset, .unset, .unset]) rfl ?_
      show Steps p.tables e below (T72.setTop (mkF m 110 #[.val (.int p1), .val (.int p2), .val (.ref b2), .val (.int (c1' + (1 : Int32))), .val (.long n1'), .second, .unset, .unset, .unset, .unset, .unset, .unset, .unset, .unset] [])) _
      refine XS.lload X72.here hx rfl (hb hby at_110) rfl ?_
      show Steps p.tables e below (T72.setTop (mkF m 112 #[.val (.int p1), .val (.int p2), .val (.ref b2), .val (.int (c1' + (1 : Int32))), .val (.long n1'), .second, .unset, .unset, .unset, .unset, .unset, .unset, .unset, .unset] [(.long n1')])) _
      refine X72.ldc2Long hx hown (mvT hZ (hw _ (List.mem_of_getElem? (i := 26) rfl))) (g := (mkF m 112 #[.val (.int p1), .val (.int p2), .val (.ref b2), .val (.int (c1' + (1 : Int32))), .val (.long n1'), .second, .unset, .unset, .unset, .unset, .unset, .unset, .unset, .unset] [(.long n1')])) rfl (hb hby at_112) _ ?_
      show Steps p.tables e below (T72.setTop (mkF m 115 #[.val (.int p1), .val (.int p2), .val (.ref b2), .val (.int (c1' + (1 : Int32))), .val (.long n1'), .second, .unset, .unset, .unset, .unset, .unset, .unset, .unset, .unset] [(.long (30 : Int64)), (.long n1')])) _
      refine XS.iloadN X72.here hx rfl (hb hby at_115) rfl ?_
      show Steps p.tables e below (T72.setTop (mkF m 116 #[.val (.int p1), .val (.int p2), .val (.ref b2), .val (.int (c1' + (1 : Int32))), .val (.long n1'), .second, .unset, .unset, .unset, .unset, .unset, .unset, .unset, .unset] [(.int (c1' + (1 : Int32))), (.long (30 : Int64)), (.long n1')])) _
      refine XS.i2l X72.here hx rfl (hb hby at_116) rfl ?_
      show Steps p.tables e below (T72.setTop (mkF m 117 #[.val (.int p1), .val (.int p2), .val (.ref b2), .val (.int (c1' + (1 : Int32))), .val (.long n1'), .second, .unset, .unset, .unset, .unset, .unset, .unset, .unset, .unset] [(.long ((c1' + (1 : Int32)).toInt64)), (.long (30 : Int64)), (.long n1')])) _
      refine XS.lmul X72.here hx rfl (hb hby at_117) rfl ?_
      show Steps p.tables e below (T72.setTop (mkF m 118 #[.val (.int p1), .val (.int p2), .val (.ref b2), .val (.int (c1' + (1 : Int32))), .val (.long n1'), .second, .unset, .unset, .unset, .unset, .unset, .unset, .unset, .unset] [(.long ((30 : Int64) * ((c1' + (1 : Int32)).toInt64))), (.long n1')])) _
      refine XS.ladd X72.here hx rfl (hb hby at_118) rfl ?_
      show Steps p.tables e below (T72.setTop (mkF m 119 #[.val (.int p1), .val (.int p2), .val (.ref b2), .val (.int (c1' + (1 : Int32))), .val (.long n1'), .second, .unset, .unset, .unset, .unset, .unset, .unset, .unset, .unset] [(.long (n1' + ((30 : Int64) * ((c1' + (1 : Int32)).toInt64))))])) _
      refine XS.lstore X72.here hx rfl (hb hby at_119) rfl (l' := #[.val (.int p1), .val (.int p2), .val (.ref b2), .val (.int (c1' + (1 : Int32))), .val (.long (n1' + ((30 : Int64) * ((c1' + (1 : Int32)).toInt64)))), .second, .unset, .unset, .unset, .unset, .unset, .unset, .unset, .unset]) rfl ?_
      exact k9
  generalize hn2 : (if (own_bit p1 1) = (0 : Int32) then n1' else (n1' + ((30 : Int64) * ((c1' + (1 : Int32)).toInt64)))) = n2'
  generalize hc2 : (if (own_bit p1 1) = (0 : Int32) then c1' else (c1' + (1 : Int32))) = c2'
  have kn2 : own_n (own_bit p1 1) c1' (30 : Int64) n1' = n2' := hn2
  have kc2 : own_h (own_bit p1 1) c1' = c2' := hc2
  refine go (T72.setTop (mkF m 124 #[.val (.int p1), .val (.int p2), .val (.ref b2), .val (.int c2'), .val (.long n2'), .second, .unset, .unset, .unset, .unset, .unset, .unset, .unset, .unset] [(.int (own_bit p1 2))])) _ (fun t9 k9 => ?_) ?_
  · show Steps p.tables e below (T72.setTop (mkF m 121 #[.val (.int p1), .val (.int p2), .val (.ref b2), .val (.int c2'), .val (.long n2'), .second, .unset, .unset, .unset, .unset, .unset, .unset, .unset, .unset] [])) _
    refine XS.aloadN X72.here hx rfl (hb hby at_121) rfl rfl ?_
    show Steps p.tables e below (T72.setTop (mkF m 122 #[.val (.int p1), .val (.int p2), .val (.ref b2), .val (.int c2'), .val (.long n2'), .second, .unset, .unset, .unset, .unset, .unset, .unset, .unset, .unset] [(.ref b2)])) _
    refine XS.iconst X72.here hx rfl (hb hby at_122) ?_
    show Steps p.tables e below (T72.setTop (mkF m 123 #[.val (.int p1), .val (.int p2), .val (.ref b2), .val (.int c2'), .val (.long n2'), .second, .unset, .unset, .unset, .unset, .unset, .unset, .unset, .unset] [(.int (2 : Int32)), (.ref b2)])) _
    refine X72.baloadBooleans hx (j := (2 : Int32)) (v := (.int (own_bit p1 2))) (by rw [e72]; exact Ar75.1) (State.isArrayOf_alike hZ.alike Ar75.2.1) Ar75.2.2 (own_hin Sz75 (by decide) (by decide)) (Hv75 _ (by decide)) (g := (mkF m 123 #[.val (.int p1), .val (.int p2), .val (.ref b2), .val (.int c2'), .val (.long n2'), .second, .unset, .unset, .unset, .unset, .unset, .unset, .unset, .unset] [(.int (2 : Int32)), (.ref b2)])) rfl rfl (hb hby at_123) _ ?_
    exact k9
  refine go (T72.setTop (mkF m 141 #[.val (.int p1), .val (.int p2), .val (.ref b2), .val (.int (if (own_bit p1 2) = (0 : Int32) then c2' else (c2' + (1 : Int32)))), .val (.long (if (own_bit p1 2) = (0 : Int32) then n2' else (n2' + ((20 : Int64) * ((c2' + (1 : Int32)).toInt64))))), .second, .unset, .unset, .unset, .unset, .unset, .unset, .unset, .unset] [])) _ (fun t9 k9 => ?_) ?_
  · by_cases h124_1 : (own_bit p1 2) = (0 : Int32)
    · try (simp only [if_pos h124_1] at k9)
      show Steps p.tables e below (T72.setTop (mkF m 124 #[.val (.int p1), .val (.int p2), .val (.ref b2), .val (.int c2'), .val (.long n2'), .second, .unset, .unset, .unset, .unset, .unset, .unset, .unset, .unset] [(.int (own_bit p1 2))])) _
      refine XS.ifYes X72.here hx rfl (pc0 := 124) (pc' := 141) rfl (hb hby at_124) rfl ((if0 _ _).trans (teq h124_1).1) (by decide) (by decide) ?_
      exact k9
    · try (simp only [if_neg h124_1] at k9)
      show Steps p.tables e below (T72.setTop (mkF m 124 #[.val (.int p1), .val (.int p2), .val (.ref b2), .val (.int c2'), .val (.long n2'), .second, .unset, .unset, .unset, .unset, .unset, .unset, .unset, .unset] [(.int (own_bit p1 2))])) _
      refine XS.ifNo X72.here hx rfl (hb hby at_124) rfl ((if0 _ _).trans (feq h124_1).1) ?_
      show Steps p.tables e below (T72.setTop (mkF m 127 #[.val (.int p1), .val (.int p2), .val (.ref b2), .val (.int c2'), .val (.long n2'), .second, .unset, .unset, .unset, .unset, .unset, .unset, .unset, .unset] [])) _
      refine XS.iinc X72.here hx rfl (hb hby at_127) rfl (l' := #[.val (.int p1), .val (.int p2), .val (.ref b2), .val (.int (c2' + (1 : Int32))), .val (.long n2'), .second, .unset, .unset, .unset, .unset, .unset, .unset, .unset, .unset]) rfl ?_
      show Steps p.tables e below (T72.setTop (mkF m 130 #[.val (.int p1), .val (.int p2), .val (.ref b2), .val (.int (c2' + (1 : Int32))), .val (.long n2'), .second, .unset, .unset, .unset, .unset, .unset, .unset, .unset, .unset] [])) _
      refine XS.lload X72.here hx rfl (hb hby at_130) rfl ?_
      show Steps p.tables e below (T72.setTop (mkF m 132 #[.val (.int p1), .val (.int p2), .val (.ref b2), .val (.int (c2' + (1 : Int32))), .val (.long n2'), .second, .unset, .unset, .unset, .unset, .unset, .unset, .unset, .unset] [(.long n2')])) _
      refine X72.ldc2Long hx hown (mvT hZ (hw _ (List.mem_of_getElem? (i := 27) rfl))) (g := (mkF m 132 #[.val (.int p1), .val (.int p2), .val (.ref b2), .val (.int (c2' + (1 : Int32))), .val (.long n2'), .second, .unset, .unset, .unset, .unset, .unset, .unset, .unset, .unset] [(.long n2')])) rfl (hb hby at_132) _ ?_
      show Steps p.tables e below (T72.setTop (mkF m 135 #[.val (.int p1), .val (.int p2), .val (.ref b2), .val (.int (c2' + (1 : Int32))), .val (.long n2'), .second, .unset, .unset, .unset, .unset, .unset, .unset, .unset, .unset] [(.long (20 : Int64)), (.long n2')])) _
      refine XS.iloadN X72.here hx rfl (hb hby at_135) rfl ?_
      show Steps p.tables e below (T72.setTop (mkF m 136 #[.val (.int p1), .val (.int p2), .val (.ref b2), .val (.int (c2' + (1 : Int32))), .val (.long n2'), .second, .unset, .unset, .unset, .unset, .unset, .unset, .unset, .unset] [(.int (c2' + (1 : Int32))), (.long (20 : Int64)), (.long n2')])) _
      refine XS.i2l X72.here hx rfl (hb hby at_136) rfl ?_
      show Steps p.tables e below (T72.setTop (mkF m 137 #[.val (.int p1), .val (.int p2), .val (.ref b2), .val (.int (c2' + (1 : Int32))), .val (.long n2'), .second, .unset, .unset, .unset, .unset, .unset, .unset, .unset, .unset] [(.long ((c2' + (1 : Int32)).toInt64)), (.long (20 : Int64)), (.long n2')])) _
      refine XS.lmul X72.here hx rfl (hb hby at_137) rfl ?_
      show Steps p.tables e below (T72.setTop (mkF m 138 #[.val (.int p1), .val (.int p2), .val (.ref b2), .val (.int (c2' + (1 : Int32))), .val (.long n2'), .second, .unset, .unset, .unset, .unset, .unset, .unset, .unset, .unset] [(.long ((20 : Int64) * ((c2' + (1 : Int32)).toInt64))), (.long n2')])) _
      refine XS.ladd X72.here hx rfl (hb hby at_138) rfl ?_
      show Steps p.tables e below (T72.setTop (mkF m 139 #[.val (.int p1), .val (.int p2), .val (.ref b2), .val (.int (c2' + (1 : Int32))), .val (.long n2'), .second, .unset, .unset, .unset, .unset, .unset, .unset, .unset, .unset] [(.long (n2' + ((20 : Int64) * ((c2' + (1 : Int32)).toInt64))))])) _
      refine XS.lstore X72.here hx rfl (hb hby at_139) rfl (l' := #[.val (.int p1), .val (.int p2), .val (.ref b2), .val (.int (c2' + (1 : Int32))), .val (.long (n2' + ((20 : Int64) * ((c2' + (1 : Int32)).toInt64)))), .second, .unset, .unset, .unset, .unset, .unset, .unset, .unset, .unset]) rfl ?_
      exact k9
  generalize hn3 : (if (own_bit p1 2) = (0 : Int32) then n2' else (n2' + ((20 : Int64) * ((c2' + (1 : Int32)).toInt64)))) = n3'
  generalize hc3 : (if (own_bit p1 2) = (0 : Int32) then c2' else (c2' + (1 : Int32))) = c3'
  have kn3 : own_n (own_bit p1 2) c2' (20 : Int64) n2' = n3' := hn3
  have kc3 : own_h (own_bit p1 2) c2' = c3' := hc3
  refine go (T72.setTop (mkF m 144 #[.val (.int p1), .val (.int p2), .val (.ref b2), .val (.int c3'), .val (.long n3'), .second, .unset, .unset, .unset, .unset, .unset, .unset, .unset, .unset] [(.int (own_bit p1 3))])) _ (fun t9 k9 => ?_) ?_
  · show Steps p.tables e below (T72.setTop (mkF m 141 #[.val (.int p1), .val (.int p2), .val (.ref b2), .val (.int c3'), .val (.long n3'), .second, .unset, .unset, .unset, .unset, .unset, .unset, .unset, .unset] [])) _
    refine XS.aloadN X72.here hx rfl (hb hby at_141) rfl rfl ?_
    show Steps p.tables e below (T72.setTop (mkF m 142 #[.val (.int p1), .val (.int p2), .val (.ref b2), .val (.int c3'), .val (.long n3'), .second, .unset, .unset, .unset, .unset, .unset, .unset, .unset, .unset] [(.ref b2)])) _
    refine XS.iconst X72.here hx rfl (hb hby at_142) ?_
    show Steps p.tables e below (T72.setTop (mkF m 143 #[.val (.int p1), .val (.int p2), .val (.ref b2), .val (.int c3'), .val (.long n3'), .second, .unset, .unset, .unset, .unset, .unset, .unset, .unset, .unset] [(.int (3 : Int32)), (.ref b2)])) _
    refine X72.baloadBooleans hx (j := (3 : Int32)) (v := (.int (own_bit p1 3))) (by rw [e72]; exact Ar75.1) (State.isArrayOf_alike hZ.alike Ar75.2.1) Ar75.2.2 (own_hin Sz75 (by decide) (by decide)) (Hv75 _ (by decide)) (g := (mkF m 143 #[.val (.int p1), .val (.int p2), .val (.ref b2), .val (.int c3'), .val (.long n3'), .second, .unset, .unset, .unset, .unset, .unset, .unset, .unset, .unset] [(.int (3 : Int32)), (.ref b2)])) rfl rfl (hb hby at_143) _ ?_
    exact k9
  refine go (T72.setTop (mkF m 161 #[.val (.int p1), .val (.int p2), .val (.ref b2), .val (.int (if (own_bit p1 3) = (0 : Int32) then c3' else (c3' + (1 : Int32)))), .val (.long (if (own_bit p1 3) = (0 : Int32) then n3' else (n3' + ((15 : Int64) * ((c3' + (1 : Int32)).toInt64))))), .second, .unset, .unset, .unset, .unset, .unset, .unset, .unset, .unset] [])) _ (fun t9 k9 => ?_) ?_
  · by_cases h144_1 : (own_bit p1 3) = (0 : Int32)
    · try (simp only [if_pos h144_1] at k9)
      show Steps p.tables e below (T72.setTop (mkF m 144 #[.val (.int p1), .val (.int p2), .val (.ref b2), .val (.int c3'), .val (.long n3'), .second, .unset, .unset, .unset, .unset, .unset, .unset, .unset, .unset] [(.int (own_bit p1 3))])) _
      refine XS.ifYes X72.here hx rfl (pc0 := 144) (pc' := 161) rfl (hb hby at_144) rfl ((if0 _ _).trans (teq h144_1).1) (by decide) (by decide) ?_
      exact k9
    · try (simp only [if_neg h144_1] at k9)
      show Steps p.tables e below (T72.setTop (mkF m 144 #[.val (.int p1), .val (.int p2), .val (.ref b2), .val (.int c3'), .val (.long n3'), .second, .unset, .unset, .unset, .unset, .unset, .unset, .unset, .unset] [(.int (own_bit p1 3))])) _
      refine XS.ifNo X72.here hx rfl (hb hby at_144) rfl ((if0 _ _).trans (feq h144_1).1) ?_
      show Steps p.tables e below (T72.setTop (mkF m 147 #[.val (.int p1), .val (.int p2), .val (.ref b2), .val (.int c3'), .val (.long n3'), .second, .unset, .unset, .unset, .unset, .unset, .unset, .unset, .unset] [])) _
      refine XS.iinc X72.here hx rfl (hb hby at_147) rfl (l' := #[.val (.int p1), .val (.int p2), .val (.ref b2), .val (.int (c3' + (1 : Int32))), .val (.long n3'), .second, .unset, .unset, .unset, .unset, .unset, .unset, .unset, .unset]) rfl ?_
      show Steps p.tables e below (T72.setTop (mkF m 150 #[.val (.int p1), .val (.int p2), .val (.ref b2), .val (.int (c3' + (1 : Int32))), .val (.long n3'), .second, .unset, .unset, .unset, .unset, .unset, .unset, .unset, .unset] [])) _
      refine XS.lload X72.here hx rfl (hb hby at_150) rfl ?_
      show Steps p.tables e below (T72.setTop (mkF m 152 #[.val (.int p1), .val (.int p2), .val (.ref b2), .val (.int (c3' + (1 : Int32))), .val (.long n3'), .second, .unset, .unset, .unset, .unset, .unset, .unset, .unset, .unset] [(.long n3')])) _
      refine X72.ldc2Long hx hown (mvT hZ (hw _ (List.mem_of_getElem? (i := 28) rfl))) (g := (mkF m 152 #[.val (.int p1), .val (.int p2), .val (.ref b2), .val (.int (c3' + (1 : Int32))), .val (.long n3'), .second, .unset, .unset, .unset, .unset, .unset, .unset, .unset, .unset] [(.long n3')])) rfl (hb hby at_152) _ ?_
      show Steps p.tables e below (T72.setTop (mkF m 155 #[.val (.int p1), .val (.int p2), .val (.ref b2), .val (.int (c3' + (1 : Int32))), .val (.long n3'), .second, .unset, .unset, .unset, .unset, .unset, .unset, .unset, .unset] [(.long (15 : Int64)), (.long n3')])) _
      refine XS.iloadN X72.here hx rfl (hb hby at_155) rfl ?_
      show Steps p.tables e below (T72.setTop (mkF m 156 #[.val (.int p1), .val (.int p2), .val (.ref b2), .val (.int (c3' + (1 : Int32))), .val (.long n3'), .second, .unset, .unset, .unset, .unset, .unset, .unset, .unset, .unset] [(.int (c3' + (1 : Int32))), (.long (15 : Int64)), (.long n3')])) _
      refine XS.i2l X72.here hx rfl (hb hby at_156) rfl ?_
      show Steps p.tables e below (T72.setTop (mkF m 157 #[.val (.int p1), .val (.int p2), .val (.ref b2), .val (.int (c3' + (1 : Int32))), .val (.long n3'), .second, .unset, .unset, .unset, .unset, .unset, .unset, .unset, .unset] [(.long ((c3' + (1 : Int32)).toInt64)), (.long (15 : Int64)), (.long n3')])) _
      refine XS.lmul X72.here hx rfl (hb hby at_157) rfl ?_
      show Steps p.tables e below (T72.setTop (mkF m 158 #[.val (.int p1), .val (.int p2), .val (.ref b2), .val (.int (c3' + (1 : Int32))), .val (.long n3'), .second, .unset, .unset, .unset, .unset, .unset, .unset, .unset, .unset] [(.long ((15 : Int64) * ((c3' + (1 : Int32)).toInt64))), (.long n3')])) _
      refine XS.ladd X72.here hx rfl (hb hby at_158) rfl ?_
      show Steps p.tables e below (T72.setTop (mkF m 159 #[.val (.int p1), .val (.int p2), .val (.ref b2), .val (.int (c3' + (1 : Int32))), .val (.long n3'), .second, .unset, .unset, .unset, .unset, .unset, .unset, .unset, .unset] [(.long (n3' + ((15 : Int64) * ((c3' + (1 : Int32)).toInt64))))])) _
      refine XS.lstore X72.here hx rfl (hb hby at_159) rfl (l' := #[.val (.int p1), .val (.int p2), .val (.ref b2), .val (.int (c3' + (1 : Int32))), .val (.long (n3' + ((15 : Int64) * ((c3' + (1 : Int32)).toInt64)))), .second, .unset, .unset, .unset, .unset, .unset, .unset, .unset, .unset]) rfl ?_
      exact k9
  generalize hn4 : (if (own_bit p1 3) = (0 : Int32) then n3' else (n3' + ((15 : Int64) * ((c3' + (1 : Int32)).toInt64)))) = n4'
  generalize hc4 : (if (own_bit p1 3) = (0 : Int32) then c3' else (c3' + (1 : Int32))) = c4'
  have kn4 : own_n (own_bit p1 3) c3' (15 : Int64) n3' = n4' := hn4
  have kc4 : own_h (own_bit p1 3) c3' = c4' := hc4
  refine go (T72.setTop (mkF m 164 #[.val (.int p1), .val (.int p2), .val (.ref b2), .val (.int c4'), .val (.long n4'), .second, .unset, .unset, .unset, .unset, .unset, .unset, .unset, .unset] [(.int (own_bit p1 4))])) _ (fun t9 k9 => ?_) ?_
  · show Steps p.tables e below (T72.setTop (mkF m 161 #[.val (.int p1), .val (.int p2), .val (.ref b2), .val (.int c4'), .val (.long n4'), .second, .unset, .unset, .unset, .unset, .unset, .unset, .unset, .unset] [])) _
    refine XS.aloadN X72.here hx rfl (hb hby at_161) rfl rfl ?_
    show Steps p.tables e below (T72.setTop (mkF m 162 #[.val (.int p1), .val (.int p2), .val (.ref b2), .val (.int c4'), .val (.long n4'), .second, .unset, .unset, .unset, .unset, .unset, .unset, .unset, .unset] [(.ref b2)])) _
    refine XS.iconst X72.here hx rfl (hb hby at_162) ?_
    show Steps p.tables e below (T72.setTop (mkF m 163 #[.val (.int p1), .val (.int p2), .val (.ref b2), .val (.int c4'), .val (.long n4'), .second, .unset, .unset, .unset, .unset, .unset, .unset, .unset, .unset] [(.int (4 : Int32)), (.ref b2)])) _
    refine X72.baloadBooleans hx (j := (4 : Int32)) (v := (.int (own_bit p1 4))) (by rw [e72]; exact Ar75.1) (State.isArrayOf_alike hZ.alike Ar75.2.1) Ar75.2.2 (own_hin Sz75 (by decide) (by decide)) (Hv75 _ (by decide)) (g := (mkF m 163 #[.val (.int p1), .val (.int p2), .val (.ref b2), .val (.int c4'), .val (.long n4'), .second, .unset, .unset, .unset, .unset, .unset, .unset, .unset, .unset] [(.int (4 : Int32)), (.ref b2)])) rfl rfl (hb hby at_163) _ ?_
    exact k9
  refine go (T72.setTop (mkF m 181 #[.val (.int p1), .val (.int p2), .val (.ref b2), .val (.int (if (own_bit p1 4) = (0 : Int32) then c4' else (c4' + (1 : Int32)))), .val (.long (if (own_bit p1 4) = (0 : Int32) then n4' else (n4' + ((12 : Int64) * ((c4' + (1 : Int32)).toInt64))))), .second, .unset, .unset, .unset, .unset, .unset, .unset, .unset, .unset] [])) _ (fun t9 k9 => ?_) ?_
  · by_cases h164_1 : (own_bit p1 4) = (0 : Int32)
    · try (simp only [if_pos h164_1] at k9)
      show Steps p.tables e below (T72.setTop (mkF m 164 #[.val (.int p1), .val (.int p2), .val (.ref b2), .val (.int c4'), .val (.long n4'), .second, .unset, .unset, .unset, .unset, .unset, .unset, .unset, .unset] [(.int (own_bit p1 4))])) _
      refine XS.ifYes X72.here hx rfl (pc0 := 164) (pc' := 181) rfl (hb hby at_164) rfl ((if0 _ _).trans (teq h164_1).1) (by decide) (by decide) ?_
      exact k9
    · try (simp only [if_neg h164_1] at k9)
      show Steps p.tables e below (T72.setTop (mkF m 164 #[.val (.int p1), .val (.int p2), .val (.ref b2), .val (.int c4'), .val (.long n4'), .second, .unset, .unset, .unset, .unset, .unset, .unset, .unset, .unset] [(.int (own_bit p1 4))])) _
      refine XS.ifNo X72.here hx rfl (hb hby at_164) rfl ((if0 _ _).trans (feq h164_1).1) ?_
      show Steps p.tables e below (T72.setTop (mkF m 167 #[.val (.int p1), .val (.int p2), .val (.ref b2), .val (.int c4'), .val (.long n4'), .second, .unset, .unset, .unset, .unset, .unset, .unset, .unset, .unset] [])) _
      refine XS.iinc X72.here hx rfl (hb hby at_167) rfl (l' := #[.val (.int p1), .val (.int p2), .val (.ref b2), .val (.int (c4' + (1 : Int32))), .val (.long n4'), .second, .unset, .unset, .unset, .unset, .unset, .unset, .unset, .unset]) rfl ?_
      show Steps p.tables e below (T72.setTop (mkF m 170 #[.val (.int p1), .val (.int p2), .val (.ref b2), .val (.int (c4' + (1 : Int32))), .val (.long n4'), .second, .unset, .unset, .unset, .unset, .unset, .unset, .unset, .unset] [])) _
      refine XS.lload X72.here hx rfl (hb hby at_170) rfl ?_
      show Steps p.tables e below (T72.setTop (mkF m 172 #[.val (.int p1), .val (.int p2), .val (.ref b2), .val (.int (c4' + (1 : Int32))), .val (.long n4'), .second, .unset, .unset, .unset, .unset, .unset, .unset, .unset, .unset] [(.long n4')])) _
      refine X72.ldc2Long hx hown (mvT hZ (hw _ (List.mem_of_getElem? (i := 30) rfl))) (g := (mkF m 172 #[.val (.int p1), .val (.int p2), .val (.ref b2), .val (.int (c4' + (1 : Int32))), .val (.long n4'), .second, .unset, .unset, .unset, .unset, .unset, .unset, .unset, .unset] [(.long n4')])) rfl (hb hby at_172) _ ?_
      show Steps p.tables e below (T72.setTop (mkF m 175 #[.val (.int p1), .val (.int p2), .val (.ref b2), .val (.int (c4' + (1 : Int32))), .val (.long n4'), .second, .unset, .unset, .unset, .unset, .unset, .unset, .unset, .unset] [(.long (12 : Int64)), (.long n4')])) _
      refine XS.iloadN X72.here hx rfl (hb hby at_175) rfl ?_
      show Steps p.tables e below (T72.setTop (mkF m 176 #[.val (.int p1), .val (.int p2), .val (.ref b2), .val (.int (c4' + (1 : Int32))), .val (.long n4'), .second, .unset, .unset, .unset, .unset, .unset, .unset, .unset, .unset] [(.int (c4' + (1 : Int32))), (.long (12 : Int64)), (.long n4')])) _
      refine XS.i2l X72.here hx rfl (hb hby at_176) rfl ?_
      show Steps p.tables e below (T72.setTop (mkF m 177 #[.val (.int p1), .val (.int p2), .val (.ref b2), .val (.int (c4' + (1 : Int32))), .val (.long n4'), .second, .unset, .unset, .unset, .unset, .unset, .unset, .unset, .unset] [(.long ((c4' + (1 : Int32)).toInt64)), (.long (12 : Int64)), (.long n4')])) _
      refine XS.lmul X72.here hx rfl (hb hby at_177) rfl ?_
      show Steps p.tables e below (T72.setTop (mkF m 178 #[.val (.int p1), .val (.int p2), .val (.ref b2), .val (.int (c4' + (1 : Int32))), .val (.long n4'), .second, .unset, .unset, .unset, .unset, .unset, .unset, .unset, .unset] [(.long ((12 : Int64) * ((c4' + (1 : Int32)).toInt64))), (.long n4')])) _
      refine XS.ladd X72.here hx rfl (hb hby at_178) rfl ?_
      show Steps p.tables e below (T72.setTop (mkF m 179 #[.val (.int p1), .val (.int p2), .val (.ref b2), .val (.int (c4' + (1 : Int32))), .val (.long n4'), .second, .unset, .unset, .unset, .unset, .unset, .unset, .unset, .unset] [(.long (n4' + ((12 : Int64) * ((c4' + (1 : Int32)).toInt64))))])) _
      refine XS.lstore X72.here hx rfl (hb hby at_179) rfl (l' := #[.val (.int p1), .val (.int p2), .val (.ref b2), .val (.int (c4' + (1 : Int32))), .val (.long (n4' + ((12 : Int64) * ((c4' + (1 : Int32)).toInt64)))), .second, .unset, .unset, .unset, .unset, .unset, .unset, .unset, .unset]) rfl ?_
      exact k9
  generalize hn5 : (if (own_bit p1 4) = (0 : Int32) then n4' else (n4' + ((12 : Int64) * ((c4' + (1 : Int32)).toInt64)))) = n5'
  generalize hc5 : (if (own_bit p1 4) = (0 : Int32) then c4' else (c4' + (1 : Int32))) = c5'
  have kn5 : own_n (own_bit p1 4) c4' (12 : Int64) n4' = n5' := hn5
  have kc5 : own_h (own_bit p1 4) c4' = c5' := hc5
  have kC : own_C5 (own_bit p1 0) (own_bit p1 1) (own_bit p1 2) (own_bit p1 3) (own_bit p1 4) = c5' := by rw [own_C5, kc1, kc2, kc3, kc4, kc5]
  have kN : own_N5 (own_bit p1 0) (own_bit p1 1) (own_bit p1 2) (own_bit p1 3) (own_bit p1 4) = n5' := by rw [own_N5, kc1, kc2, kc3, kc4, kn1, kn2, kn3, kn4, kn5]
  have hC5 := own_C5_nn (own_bit01 p1 0) (own_bit01 p1 1) (own_bit01 p1 2) (own_bit01 p1 3) (own_bit01 p1 4)
  rw [kC] at hC5
  refine go (T72.setTop (mkF m 186 #[.val (.int p1), .val (.int p2), .val (.ref b2), .val (.int c5'), .val (.long n5'), .second, .unset, .unset, .unset, .unset, .unset, .unset, .unset, .unset] [(.int (p2 &&& (2147483647 : Int32))), (.int c5')])) _ (fun t9 k9 => ?_) ?_
  · show Steps p.tables e below (T72.setTop (mkF m 181 #[.val (.int p1), .val (.int p2), .val (.ref b2), .val (.int c5'), .val (.long n5'), .second, .unset, .unset, .unset, .unset, .unset, .unset, .unset, .unset] [])) _
    refine XS.iloadN X72.here hx rfl (hb hby at_181) rfl ?_
    show Steps p.tables e below (T72.setTop (mkF m 182 #[.val (.int p1), .val (.int p2), .val (.ref b2), .val (.int c5'), .val (.long n5'), .second, .unset, .unset, .unset, .unset, .unset, .unset, .unset, .unset] [(.int c5')])) _
    refine XS.iloadN X72.here hx rfl (hb hby at_182) rfl ?_
    show Steps p.tables e below (T72.setTop (mkF m 183 #[.val (.int p1), .val (.int p2), .val (.ref b2), .val (.int c5'), .val (.long n5'), .second, .unset, .unset, .unset, .unset, .unset, .unset, .unset, .unset] [(.int p2), (.int c5')])) _
    refine X72.ldcInt hx hown (mvT hZ (hw _ (List.mem_of_getElem? (i := 1) rfl))) (g := (mkF m 183 #[.val (.int p1), .val (.int p2), .val (.ref b2), .val (.int c5'), .val (.long n5'), .second, .unset, .unset, .unset, .unset, .unset, .unset, .unset, .unset] [(.int p2), (.int c5')])) rfl (hb hby at_183) _ ?_
    show Steps p.tables e below (T72.setTop (mkF m 185 #[.val (.int p1), .val (.int p2), .val (.ref b2), .val (.int c5'), .val (.long n5'), .second, .unset, .unset, .unset, .unset, .unset, .unset, .unset, .unset] [(.int (2147483647 : Int32)), (.int p2), (.int c5')])) _
    refine XS.iand X72.here hx rfl (hb hby at_185) rfl ?_
    exact k9
  obtain ⟨_, _, ⟨T77, L77, k77, n77⟩, -, X77, ⟨Lc77, hQ77, l77, y77, z77⟩, st77⟩ := Jvm.LawKit.callS X72 hx (y := (⟨"java/lang/Math", "max", "(II)I"⟩ : MethodName)) hown (mvT hZ (hw _ (List.mem_of_getElem? (i := 2) rfl))) (mvT hZ (hw _ (List.mem_of_getElem? (i := 3) rfl))) (mvT hZ (hw _ (List.mem_of_getElem? (i := 4) rfl))) (mvT hZ (hw _ (List.mem_of_getElem? (i := 5) rfl))) (by decide) (backOf (W := 0) (rm1 l Z a0 hw [] c5' (p2 &&& (2147483647 : Int32)) h72 n0 (Nat.le_trans Z0 u73.1)) hZ (hw _ (List.mem_of_getElem? (i := 5) rfl)) (hw _ (List.mem_of_getElem? (i := 4) rfl)) (by decide) (by decide)) (g := (mkF m 186 #[.val (.int p1), .val (.int p2), .val (.ref b2), .val (.int c5'), .val (.long n5'), .second, .unset, .unset, .unset, .unset, .unset, .unset, .unset, .unset] [(.int (p2 &&& (2147483647 : Int32))), (.int c5')])) rfl (by rw [hml]; rfl) (argsL := [(.int c5'), (.int (p2 &&& (2147483647 : Int32)))]) (rest := []) (lenOf pd__28II_29I rfl) rfl (by show 2 * 0 + _ ≤ _; exact Nat.le_of_eq rfl) (hb hby at_186) (fun _ _ => ⟨rfl, e72, (by decide : 1 + 0 ≤ _), (by decide : 5 + 0 ≤ _)⟩)
  dsimp only [Pt.U, Pt.locs, Pt.cells, Pt.slots] at X77 l77 y77 z77 st77 hQ77
  subst l77 y77 z77
  obtain ⟨rfl, N77q, e77q⟩ := hQ77
  have N77 := Fr.app N72 N77q
  refine go (T77.setTop (mkF m 189 #[.val (.int p1), .val (.int p2), .val (.ref b2), .val (.int c5'), .val (.long n5'), .second, .unset, .unset, .unset, .unset, .unset, .unset, .unset, .unset] [(.int (if c5' < (p2 &&& (2147483647 : Int32)) then (p2 &&& (2147483647 : Int32)) else c5'))])) _ (fun t9 k9 => st77 _ k9) ?_
  generalize hcnt : (if c5' < (p2 &&& (2147483647 : Int32)) then (p2 &&& (2147483647 : Int32)) else c5') = cnt
  have hcnn : 0 ≤ cnt.toInt := by
    have q := c_and p2 2147483647 (by decide)
    rw [← hcnt]
    split
    · exact q.1
    · exact hC5
  refine go (T77.setTop (mkF m 191 #[.val (.int p1), .val (.int p2), .val (.ref b2), .val (.int c5'), .val (.long n5'), .second, .val (.int cnt), .unset, .unset, .unset, .unset, .unset, .unset, .unset] [])) _ (fun t9 k9 => ?_) ?_
  · show Steps p.tables e below (T77.setTop (mkF m 189 #[.val (.int p1), .val (.int p2), .val (.ref b2), .val (.int c5'), .val (.long n5'), .second, .unset, .unset, .unset, .unset, .unset, .unset, .unset, .unset] [(.int cnt)])) _
    refine XS.istore X77.here hx rfl (hb hby at_189) rfl (l' := #[.val (.int p1), .val (.int p2), .val (.ref b2), .val (.int c5'), .val (.long n5'), .second, .val (.int cnt), .unset, .unset, .unset, .unset, .unset, .unset, .unset]) rfl ?_
    exact k9
  obtain ⟨T78, h78, X78, e78, E78, A78, D78, -, st78⟩ := newO X77 hx hZ hown (hw _ (List.mem_of_getElem? (i := 6) rfl)) (hw _ (List.mem_of_getElem? (i := 7) rfl)) (hw _ (List.mem_of_getElem? (i := 8) rfl)) e77q (g := (mkF m 191 #[.val (.int p1), .val (.int p2), .val (.ref b2), .val (.int c5'), .val (.long n5'), .second, .val (.int cnt), .unset, .unset, .unset, .unset, .unset, .unset, .unset] [])) rfl (hb hby at_191) (by decide) (by decide)
  obtain ⟨b7, g78⟩ : ∃ z, z = h72.size := ⟨_, rfl⟩
  rw [← g78] at A78 D78 st78
  refine go (T78.setTop (mkF m 194 #[.val (.int p1), .val (.int p2), .val (.ref b2), .val (.int c5'), .val (.long n5'), .second, .val (.int cnt), .unset, .unset, .unset, .unset, .unset, .unset, .unset] [(.ref b7)])) _ (fun t9 k9 => st78 _ k9) ?_
  have ne79 : b2 ≠ b7 := Nat.ne_of_lt (Nat.lt_of_lt_of_le (own_A_lt u76) (Nat.le_of_eq g78.symm))
  have sz_b7 : h0.size ≤ b7 := Nat.le_trans u73.1 (Nat.le_of_eq g78.symm)
  have g_b7 : n0 ≤ b7 := Nat.le_trans Z0 sz_b7
  have u80 : own_A Z h78 b2 .boolean 5 (fun j => .int (own_bit p1 j)) := own_A_ext u76 E78
  have u81 : Keep h0 h78 [] := u73.ext E78
  have u82 : Fld Z h78 b7 "com/example/vervet/vervet/core/RankedTopic" "relevant" "[Z" .null := D78 (Or.inr (hw _ (List.mem_of_getElem? (i := 16) rfl))) (ty := (.array .boolean)) (by decide)
  have u83 : Fld Z h78 b7 "com/example/vervet/vervet/core/RankedTopic" "relevantCount" "I" (.int (0 : Int32)) := D78 (Or.inr (hw _ (List.mem_of_getElem? (i := 18) rfl))) (ty := .int) (by decide)
  refine go (T78.setTop (mkF m 198 #[.val (.int p1), .val (.int p2), .val (.ref b2), .val (.int c5'), .val (.long n5'), .second, .val (.int cnt), .unset, .unset, .unset, .unset, .unset, .unset, .unset] [(.int cnt), (.ref b2), (.ref b7), (.ref b7)])) _ (fun t9 k9 => ?_) ?_
  · show Steps p.tables e below (T78.setTop (mkF m 194 #[.val (.int p1), .val (.int p2), .val (.ref b2), .val (.int c5'), .val (.long n5'), .second, .val (.int cnt), .unset, .unset, .unset, .unset, .unset, .unset, .unset] [(.ref b7)])) _
    refine XS.dup X78.here hx rfl (hb hby at_194) rfl rfl ?_
    show Steps p.tables e below (T78.setTop (mkF m 195 #[.val (.int p1), .val (.int p2), .val (.ref b2), .val (.int c5'), .val (.long n5'), .second, .val (.int cnt), .unset, .unset, .unset, .unset, .unset, .unset, .unset] [(.ref b7), (.ref b7)])) _
    refine XS.aloadN X78.here hx rfl (hb hby at_195) rfl rfl ?_
    show Steps p.tables e below (T78.setTop (mkF m 196 #[.val (.int p1), .val (.int p2), .val (.ref b2), .val (.int c5'), .val (.long n5'), .second, .val (.int cnt), .unset, .unset, .unset, .unset, .unset, .unset, .unset] [(.ref b2), (.ref b7), (.ref b7)])) _
    refine XS.iload X78.here hx rfl (hb hby at_196) rfl ?_
    exact k9
  obtain ⟨_, _, ⟨T84, L84, k84, n84⟩, -, X84, ⟨Lc84, hQ84, l84, y84, z84⟩, st84⟩ := X78.specialBack hx (y := (⟨"com/example/vervet/vervet/core/RankedTopic", "<init>", "([ZI)V"⟩ : MethodName)) rfl hown (mvT hZ (hw _ (List.mem_of_getElem? (i := 9) rfl))) (mvT hZ (hw _ (List.mem_of_getElem? (i := 10) rfl))) (mvT hZ (hw _ (List.mem_of_getElem? (i := 11) rfl))) (by decide) (backOf (W := 1) (rm2 l Z a0 hw [] b7 b2 cnt h78 n0 (Nat.le_trans Z0 u81.1) A78 u82 u83 g_b7) hZ (hw _ (List.mem_of_getElem? (i := 11) rfl)) (hw _ (List.mem_of_getElem? (i := 8) rfl)) (by decide) (by decide)) (g := (mkF m 198 #[.val (.int p1), .val (.int p2), .val (.ref b2), .val (.int c5'), .val (.long n5'), .second, .val (.int cnt), .unset, .unset, .unset, .unset, .unset, .unset, .unset] [(.int cnt), (.ref b2), (.ref b7), (.ref b7)])) rfl (by rw [hml]; rfl) (Steps.refl _) (a := b7) (argsL := [(.ref b2), (.int cnt)]) (rest := [(.ref b7)]) (lenOf pd__28_5bZI_29V rfl) rfl (by show 2 * 0 + _ ≤ _; exact Nat.le_of_eq rfl) (hb hby at_198) (fun _ _ => ⟨rfl, e78, (by decide : 2 + 0 ≤ _), (by decide : 7 + 0 ≤ _)⟩)
  dsimp only [Pt.U, Pt.locs, Pt.cells, Pt.slots] at X84 l84 y84 z84 st84 hQ84
  subst l84 y84 z84
  obtain ⟨rfl, N84q, Kq, Eq, Fq1, Fq2⟩ := hQ84
  have N84 := Fr.app N77 N84q
  refine go (T84.setTop (mkF m 201 #[.val (.int p1), .val (.int p2), .val (.ref b2), .val (.int c5'), .val (.long n5'), .second, .val (.int cnt), .unset, .unset, .unset, .unset, .unset, .unset, .unset] [(.ref b7)])) _ (fun t9 k9 => st84.trans k9) ?_
  have u85 : own_A Z T84.heap b2 .boolean 5 (fun j => .int (own_bit p1 j)) := own_A_keep u80 Kq (ninS ne79 nin0)
  have u86 : Exa Z T84.heap b7 "com/example/vervet/vervet/core/RankedTopic" := A78.keep Kq
  have u87 : Keep h0 T84.heap [] := u81.trans Kq (allS (Or.inr sz_b7) all0)
  refine go (T84.setTop (mkF m 205 #[.val (.int p1), .val (.int p2), .val (.ref b2), .val (.int c5'), .val (.long n5'), .second, .val (.int cnt), .val (.ref b7), .unset, .unset, .unset, .unset, .unset, .unset] [(.ref b7)])) _ (fun t9 k9 => ?_) ?_
  · show Steps p.tables e below (T84.setTop (mkF m 201 #[.val (.int p1), .val (.int p2), .val (.ref b2), .val (.int c5'), .val (.long n5'), .second, .val (.int cnt), .unset, .unset, .unset, .unset, .unset, .unset, .unset] [(.ref b7)])) _
    refine XS.astore X84.here hx rfl (hb hby at_201) rfl rfl (l' := #[.val (.int p1), .val (.int p2), .val (.ref b2), .val (.int c5'), .val (.long n5'), .second, .val (.int cnt), .val (.ref b7), .unset, .unset, .unset, .unset, .unset, .unset]) rfl ?_
    show Steps p.tables e below (T84.setTop (mkF m 203 #[.val (.int p1), .val (.int p2), .val (.ref b2), .val (.int c5'), .val (.long n5'), .second, .val (.int cnt), .val (.ref b7), .unset, .unset, .unset, .unset, .unset, .unset] [])) _
    refine XS.aload X84.here hx rfl (hb hby at_203) rfl rfl ?_
    exact k9
  obtain ⟨cq88, kq88, q88a, q88b, q88c⟩ := isOf hZ rfl Eq
  obtain ⟨_, _, ⟨T88, L88, k88, n88⟩, -, X88, ⟨Lc88, hQ88, l88, y88, z88⟩, st88⟩ := X84.virtualBack hx (y := (⟨"com/example/vervet/vervet/core/RankedTopic", "averagePrecision", "()D"⟩ : MethodName)) (z := (⟨"com/example/vervet/vervet/core/RankedTopic", "averagePrecision", "()D"⟩ : MethodName)) hown (mvT hZ (hw _ (List.mem_of_getElem? (i := 19) rfl))) (mvT hZ (hw _ (List.mem_of_getElem? (i := 20) rfl))) (notFace_of_selects (args := #[]) (mvT hZ (hw _ (List.mem_of_getElem? (i := 22) rfl)))) (mvT hZ (hw _ (List.mem_of_getElem? (i := 22) rfl))) (mvT hZ (hw _ (List.mem_of_getElem? (i := 21) rfl))) (by decide) (backOf (W := 0) (rm4 l Z a0 hw [] b7 b2 (own_bit p1) cnt T84.heap n0 (Nat.le_trans Z0 u87.1) Fq1 Fq2 u85) hZ (hw _ (List.mem_of_getElem? (i := 23) rfl)) (hw _ (List.mem_of_getElem? (i := 8) rfl)) (by decide) (by decide)) q88a q88c (g := (mkF m 205 #[.val (.int p1), .val (.int p2), .val (.ref b2), .val (.int c5'), .val (.long n5'), .second, .val (.int cnt), .val (.ref b7), .unset, .unset, .unset, .unset, .unset, .unset] [(.ref b7)])) rfl (by rw [hml]; rfl) (Steps.refl _) (argsL := []) (rest := []) (lenOf pd__28_29D rfl) rfl (by show 2 * 0 + _ ≤ _; exact Nat.le_of_eq rfl) (hb hby at_205) (fun _ _ => ⟨rfl, rfl, (by decide : 2 + 0 ≤ _), (by decide : 7 + 0 ≤ _)⟩)
  dsimp only [Pt.U, Pt.locs, Pt.cells, Pt.slots] at X88 l88 y88 z88 st88 hQ88
  subst l88 y88 z88
  obtain ⟨rfl, N88q, e88q⟩ := hQ88
  have N88 := Fr.app N84 N88q
  refine go (T88.setTop (mkF m 208 #[.val (.int p1), .val (.int p2), .val (.ref b2), .val (.int c5'), .val (.long n5'), .second, .val (.int cnt), .val (.ref b7), .unset, .unset, .unset, .unset, .unset, .unset] [(.double (if cnt = (0 : Int32) then (0 : UInt64) else (FP.ddiv (own_S5 (own_bit p1 0) (own_bit p1 1) (own_bit p1 2) (own_bit p1 3) (own_bit p1 4)) (FP.i2d cnt))))])) _ (fun t9 k9 => st88.trans k9) ?_
  generalize hap : (if cnt = (0 : Int32) then (0 : UInt64) else (FP.ddiv (own_S5 (own_bit p1 0) (own_bit p1 1) (own_bit p1 2) (own_bit p1 3) (own_bit p1 4)) (FP.i2d cnt))) = ap
  refine go (T88.setTop (mkF m 212 #[.val (.int p1), .val (.int p2), .val (.ref b2), .val (.int c5'), .val (.long n5'), .second, .val (.int cnt), .val (.ref b7), .val (.double ap), .second, .unset, .unset, .unset, .unset] [(.int cnt)])) _ (fun t9 k9 => ?_) ?_
  · show Steps p.tables e below (T88.setTop (mkF m 208 #[.val (.int p1), .val (.int p2), .val (.ref b2), .val (.int c5'), .val (.long n5'), .second, .val (.int cnt), .val (.ref b7), .unset, .unset, .unset, .unset, .unset, .unset] [(.double ap)])) _
    refine XS.dstore X88.here hx rfl (hb hby at_208) rfl (l' := #[.val (.int p1), .val (.int p2), .val (.ref b2), .val (.int c5'), .val (.long n5'), .second, .val (.int cnt), .val (.ref b7), .val (.double ap), .second, .unset, .unset, .unset, .unset]) rfl ?_
    show Steps p.tables e below (T88.setTop (mkF m 210 #[.val (.int p1), .val (.int p2), .val (.ref b2), .val (.int c5'), .val (.long n5'), .second, .val (.int cnt), .val (.ref b7), .val (.double ap), .second, .unset, .unset, .unset, .unset] [])) _
    refine XS.iload X88.here hx rfl (hb hby at_210) rfl ?_
    exact k9
  by_cases hcz : cnt = (0 : Int32)
  · rw [if_pos hcz] at hap
    refine go (T88.setTop (mkF m 227 #[.val (.int p1), .val (.int p2), .val (.ref b2), .val (.int c5'), .val (.long n5'), .second, .val (.int cnt), .val (.ref b7), .val (.double ap), .second, .unset, .unset, .unset, .unset] [(.int (1 : Int32))])) _ (fun t9 k9 => ?_) ?_
    · show Steps p.tables e below (T88.setTop (mkF m 212 #[.val (.int p1), .val (.int p2), .val (.ref b2), .val (.int c5'), .val (.long n5'), .second, .val (.int cnt), .val (.ref b7), .val (.double ap), .second, .unset, .unset, .unset, .unset] [(.int cnt)])) _
      refine XS.ifNo X88.here hx rfl (hb hby at_212) rfl ((if0 _ _).trans (teq hcz).2) ?_
      show Steps p.tables e below (T88.setTop (mkF m 215 #[.val (.int p1), .val (.int p2), .val (.ref b2), .val (.int c5'), .val (.long n5'), .second, .val (.int cnt), .val (.ref b7), .val (.double ap), .second, .unset, .unset, .unset, .unset] [])) _
      refine XS.dload X88.here hx rfl (hb hby at_215) rfl ?_
      show Steps p.tables e below (T88.setTop (mkF m 217 #[.val (.int p1), .val (.int p2), .val (.ref b2), .val (.int c5'), .val (.long n5'), .second, .val (.int cnt), .val (.ref b7), .val (.double ap), .second, .unset, .unset, .unset, .unset] [(.double ap)])) _
      refine XS.dconst0 X88.here hx rfl (hb hby at_217) rfl ?_
      show Steps p.tables e below (T88.setTop (mkF m 218 #[.val (.int p1), .val (.int p2), .val (.ref b2), .val (.int c5'), .val (.long n5'), .second, .val (.int cnt), .val (.ref b7), .val (.double ap), .second, .unset, .unset, .unset, .unset] [(.double (0 : UInt64)), (.double ap)])) _
      refine XS.dcmpS X88.here hx rfl (hb hby at_218) rfl (by rw [← hap]; first | done | decide +kernel) ?_
      show Steps p.tables e below (T88.setTop (mkF m 219 #[.val (.int p1), .val (.int p2), .val (.ref b2), .val (.int c5'), .val (.long n5'), .second, .val (.int cnt), .val (.ref b7), .val (.double ap), .second, .unset, .unset, .unset, .unset] [(.int (0 : Int32))])) _
      refine XS.ifNo X88.here hx rfl (hb hby at_219) rfl ((if0 _ _).trans (teq (rfl : (0 : Int32) = (0 : Int32))).2) ?_
      show Steps p.tables e below (T88.setTop (mkF m 222 #[.val (.int p1), .val (.int p2), .val (.ref b2), .val (.int c5'), .val (.long n5'), .second, .val (.int cnt), .val (.ref b7), .val (.double ap), .second, .unset, .unset, .unset, .unset] [])) _
      refine XS.iconst X88.here hx rfl (hb hby at_222) ?_
      show Steps p.tables e below (T88.setTop (mkF m 223 #[.val (.int p1), .val (.int p2), .val (.ref b2), .val (.int c5'), .val (.long n5'), .second, .val (.int cnt), .val (.ref b7), .val (.double ap), .second, .unset, .unset, .unset, .unset] [(.int (1 : Int32))])) _
      refine XS.goto X88.here hx rfl (pc0 := 223) (pc' := 227) rfl (hb hby at_223) (by decide) (by decide) ?_
      exact k9
    obtain ⟨fs, hr, hrun, hended, hW, hsame⟩ := X88.leave (v := some (.int (1 : Int32))) (fun h => by rw [Bd.returns] at h; cases h) hlk
    refine fin _ ⟨_, _, retN X88 hx (t := .boolean) Bd.returns (by simp) (hb hby at_227) hr, hrun, hended, _, _, rfl, ?_, ⟨_, rfl⟩, hW, hsame.mono (by decide) (by decide)⟩
    show Q0 Z p1 p2 h0 n0 _ T88.heap _
    exact ⟨rfl, N88⟩
  · refine go (T88.setTop (mkF m 228 #[.val (.int p1), .val (.int p2), .val (.ref b2), .val (.int c5'), .val (.long n5'), .second, .val (.int cnt), .val (.ref b7), .val (.double ap), .second, .unset, .unset, .unset, .unset] [])) _ (fun t9 k9 => ?_) ?_
    · show Steps p.tables e below (T88.setTop (mkF m 212 #[.val (.int p1), .val (.int p2), .val (.ref b2), .val (.int c5'), .val (.long n5'), .second, .val (.int cnt), .val (.ref b7), .val (.double ap), .second, .unset, .unset, .unset, .unset] [(.int cnt)])) _
      refine XS.ifYes X88.here hx rfl (pc0 := 212) (pc' := 228) rfl (hb hby at_212) rfl ((if0 _ _).trans (feq hcz).2) (by decide) (by decide) ?_
      exact k9
    have hpos : 0 < cnt.toInt := by
      have : cnt.toInt ≠ 0 := fun q => hcz (Int32.toInt_inj.mp (q.trans rfl))
      omega
    rw [if_neg hcz] at hap
    obtain ⟨g1, g2, g3, g4, g5, g6, g7⟩ := own_law (own_bit01 p1 0) (own_bit01 p1 1) (own_bit01 p1 2) (own_bit01 p1 3) (own_bit01 p1 4) hpos
    rw [hap] at g1 g6 g7
    rw [kN] at g2 g3 g4 g5 g6 g7
    simp only [own_t, own_e] at g2 g3 g4 g5 g6 g7
    refine go (T88.setTop (mkF m 276 #[.val (.int p1), .val (.int p2), .val (.ref b2), .val (.int c5'), .val (.long n5'), .second, .val (.int cnt), .val (.ref b7), .val (.double ap), .second, .val (.double (FP.ddiv (FP.l2d n5') (FP.dmul (4633641066610819072 : UInt64) (FP.i2d cnt)))), .second, .val (.double (FP.dmul (FP.ddiv (FP.l2d n5') (FP.dmul (4633641066610819072 : UInt64) (FP.i2d cnt))) (4427486594234968593 : UInt64))), .second] [(.int (1 : Int32))])) _ (fun t9 k9 => ?_) ?_
    · show Steps p.tables e below (T88.setTop (mkF m 228 #[.val (.int p1), .val (.int p2), .val (.ref b2), .val (.int c5'), .val (.long n5'), .second, .val (.int cnt), .val (.ref b7), .val (.double ap), .second, .unset, .unset, .unset, .unset] [])) _
      refine XS.lload X88.here hx rfl (hb hby at_228) rfl ?_
      show Steps p.tables e below (T88.setTop (mkF m 230 #[.val (.int p1), .val (.int p2), .val (.ref b2), .val (.int c5'), .val (.long n5'), .second, .val (.int cnt), .val (.ref b7), .val (.double ap), .second, .unset, .unset, .unset, .unset] [(.long n5')])) _
      refine XS.l2dS X88.here hx rfl (hb hby at_230) rfl rfl ?_
      show Steps p.tables e below (T88.setTop (mkF m 231 #[.val (.int p1), .val (.int p2), .val (.ref b2), .val (.int c5'), .val (.long n5'), .second, .val (.int cnt), .val (.ref b7), .val (.double ap), .second, .unset, .unset, .unset, .unset] [(.double (FP.l2d n5'))])) _
      refine X88.ldc2DoubleC hx hown (mvT hZ (hw _ (List.mem_of_getElem? (i := 24) rfl))) (g := (mkF m 231 #[.val (.int p1), .val (.int p2), .val (.ref b2), .val (.int c5'), .val (.long n5'), .second, .val (.int cnt), .val (.ref b7), .val (.double ap), .second, .unset, .unset, .unset, .unset] [(.double (FP.l2d n5'))])) rfl (hb hby at_231) _ ?_
      show Steps p.tables e below (T88.setTop (mkF m 234 #[.val (.int p1), .val (.int p2), .val (.ref b2), .val (.int c5'), .val (.long n5'), .second, .val (.int cnt), .val (.ref b7), .val (.double ap), .second, .unset, .unset, .unset, .unset] [(.double (4633641066610819072 : UInt64)), (.double (FP.l2d n5'))])) _
      refine XS.iload X88.here hx rfl (hb hby at_234) rfl ?_
      show Steps p.tables e below (T88.setTop (mkF m 236 #[.val (.int p1), .val (.int p2), .val (.ref b2), .val (.int c5'), .val (.long n5'), .second, .val (.int cnt), .val (.ref b7), .val (.double ap), .second, .unset, .unset, .unset, .unset] [(.int cnt), (.double (4633641066610819072 : UInt64)), (.double (FP.l2d n5'))])) _
      refine XS.i2dS X88.here hx rfl (hb hby at_236) rfl rfl ?_
      show Steps p.tables e below (T88.setTop (mkF m 237 #[.val (.int p1), .val (.int p2), .val (.ref b2), .val (.int c5'), .val (.long n5'), .second, .val (.int cnt), .val (.ref b7), .val (.double ap), .second, .unset, .unset, .unset, .unset] [(.double (FP.i2d cnt)), (.double (4633641066610819072 : UInt64)), (.double (FP.l2d n5'))])) _
      refine XS.dmulS X88.here hx rfl (hb hby at_237) rfl ((own_den_mag cnt).fin (by decide)).noNaN rfl ?_
      show Steps p.tables e below (T88.setTop (mkF m 238 #[.val (.int p1), .val (.int p2), .val (.ref b2), .val (.int c5'), .val (.long n5'), .second, .val (.int cnt), .val (.ref b7), .val (.double ap), .second, .unset, .unset, .unset, .unset] [(.double (FP.dmul (4633641066610819072 : UInt64) (FP.i2d cnt))), (.double (FP.l2d n5'))])) _
      refine XS.ddivS X88.here hx rfl (hb hby at_238) rfl g2 rfl ?_
      show Steps p.tables e below (T88.setTop (mkF m 239 #[.val (.int p1), .val (.int p2), .val (.ref b2), .val (.int c5'), .val (.long n5'), .second, .val (.int cnt), .val (.ref b7), .val (.double ap), .second, .unset, .unset, .unset, .unset] [(.double (FP.ddiv (FP.l2d n5') (FP.dmul (4633641066610819072 : UInt64) (FP.i2d cnt))))])) _
      refine XS.dstore X88.here hx rfl (hb hby at_239) rfl (l' := #[.val (.int p1), .val (.int p2), .val (.ref b2), .val (.int c5'), .val (.long n5'), .second, .val (.int cnt), .val (.ref b7), .val (.double ap), .second, .val (.double (FP.ddiv (FP.l2d n5') (FP.dmul (4633641066610819072 : UInt64) (FP.i2d cnt)))), .second, .unset, .unset]) rfl ?_
      show Steps p.tables e below (T88.setTop (mkF m 241 #[.val (.int p1), .val (.int p2), .val (.ref b2), .val (.int c5'), .val (.long n5'), .second, .val (.int cnt), .val (.ref b7), .val (.double ap), .second, .val (.double (FP.ddiv (FP.l2d n5') (FP.dmul (4633641066610819072 : UInt64) (FP.i2d cnt)))), .second, .unset, .unset] [])) _
      refine XS.dload X88.here hx rfl (hb hby at_241) rfl ?_
      show Steps p.tables e below (T88.setTop (mkF m 243 #[.val (.int p1), .val (.int p2), .val (.ref b2), .val (.int c5'), .val (.long n5'), .second, .val (.int cnt), .val (.ref b7), .val (.double ap), .second, .val (.double (FP.ddiv (FP.l2d n5') (FP.dmul (4633641066610819072 : UInt64) (FP.i2d cnt)))), .second, .unset, .unset] [(.double (FP.ddiv (FP.l2d n5') (FP.dmul (4633641066610819072 : UInt64) (FP.i2d cnt))))])) _
      refine X88.ldc2DoubleC hx hown (mvT hZ (hw _ (List.mem_of_getElem? (i := 25) rfl))) (g := (mkF m 243 #[.val (.int p1), .val (.int p2), .val (.ref b2), .val (.int c5'), .val (.long n5'), .second, .val (.int cnt), .val (.ref b7), .val (.double ap), .second, .val (.double (FP.ddiv (FP.l2d n5') (FP.dmul (4633641066610819072 : UInt64) (FP.i2d cnt)))), .second, .unset, .unset] [(.double (FP.ddiv (FP.l2d n5') (FP.dmul (4633641066610819072 : UInt64) (FP.i2d cnt))))])) rfl (hb hby at_243) _ ?_
      show Steps p.tables e below (T88.setTop (mkF m 246 #[.val (.int p1), .val (.int p2), .val (.ref b2), .val (.int c5'), .val (.long n5'), .second, .val (.int cnt), .val (.ref b7), .val (.double ap), .second, .val (.double (FP.ddiv (FP.l2d n5') (FP.dmul (4633641066610819072 : UInt64) (FP.i2d cnt)))), .second, .unset, .unset] [(.double (4427486594234968593 : UInt64)), (.double (FP.ddiv (FP.l2d n5') (FP.dmul (4633641066610819072 : UInt64) (FP.i2d cnt))))])) _
      refine XS.dmulS X88.here hx rfl (hb hby at_246) rfl g3 rfl ?_
      show Steps p.tables e below (T88.setTop (mkF m 247 #[.val (.int p1), .val (.int p2), .val (.ref b2), .val (.int c5'), .val (.long n5'), .second, .val (.int cnt), .val (.ref b7), .val (.double ap), .second, .val (.double (FP.ddiv (FP.l2d n5') (FP.dmul (4633641066610819072 : UInt64) (FP.i2d cnt)))), .second, .unset, .unset] [(.double (FP.dmul (FP.ddiv (FP.l2d n5') (FP.dmul (4633641066610819072 : UInt64) (FP.i2d cnt))) (4427486594234968593 : UInt64)))])) _
      refine XS.dstore X88.here hx rfl (hb hby at_247) rfl (l' := #[.val (.int p1), .val (.int p2), .val (.ref b2), .val (.int c5'), .val (.long n5'), .second, .val (.int cnt), .val (.ref b7), .val (.double ap), .second, .val (.double (FP.ddiv (FP.l2d n5') (FP.dmul (4633641066610819072 : UInt64) (FP.i2d cnt)))), .second, .val (.double (FP.dmul (FP.ddiv (FP.l2d n5') (FP.dmul (4633641066610819072 : UInt64) (FP.i2d cnt))) (4427486594234968593 : UInt64))), .second]) rfl ?_
      show Steps p.tables e below (T88.setTop (mkF m 249 #[.val (.int p1), .val (.int p2), .val (.ref b2), .val (.int c5'), .val (.long n5'), .second, .val (.int cnt), .val (.ref b7), .val (.double ap), .second, .val (.double (FP.ddiv (FP.l2d n5') (FP.dmul (4633641066610819072 : UInt64) (FP.i2d cnt)))), .second, .val (.double (FP.dmul (FP.ddiv (FP.l2d n5') (FP.dmul (4633641066610819072 : UInt64) (FP.i2d cnt))) (4427486594234968593 : UInt64))), .second] [])) _
      refine XS.dload X88.here hx rfl (hb hby at_249) rfl ?_
      show Steps p.tables e below (T88.setTop (mkF m 251 #[.val (.int p1), .val (.int p2), .val (.ref b2), .val (.int c5'), .val (.long n5'), .second, .val (.int cnt), .val (.ref b7), .val (.double ap), .second, .val (.double (FP.ddiv (FP.l2d n5') (FP.dmul (4633641066610819072 : UInt64) (FP.i2d cnt)))), .second, .val (.double (FP.dmul (FP.ddiv (FP.l2d n5') (FP.dmul (4633641066610819072 : UInt64) (FP.i2d cnt))) (4427486594234968593 : UInt64))), .second] [(.double ap)])) _
      refine XS.dload X88.here hx rfl (hb hby at_251) rfl ?_
      show Steps p.tables e below (T88.setTop (mkF m 253 #[.val (.int p1), .val (.int p2), .val (.ref b2), .val (.int c5'), .val (.long n5'), .second, .val (.int cnt), .val (.ref b7), .val (.double ap), .second, .val (.double (FP.ddiv (FP.l2d n5') (FP.dmul (4633641066610819072 : UInt64) (FP.i2d cnt)))), .second, .val (.double (FP.dmul (FP.ddiv (FP.l2d n5') (FP.dmul (4633641066610819072 : UInt64) (FP.i2d cnt))) (4427486594234968593 : UInt64))), .second] [(.double (FP.ddiv (FP.l2d n5') (FP.dmul (4633641066610819072 : UInt64) (FP.i2d cnt)))), (.double ap)])) _
      refine XS.dload X88.here hx rfl (hb hby at_253) rfl ?_
      show Steps p.tables e below (T88.setTop (mkF m 255 #[.val (.int p1), .val (.int p2), .val (.ref b2), .val (.int c5'), .val (.long n5'), .second, .val (.int cnt), .val (.ref b7), .val (.double ap), .second, .val (.double (FP.ddiv (FP.l2d n5') (FP.dmul (4633641066610819072 : UInt64) (FP.i2d cnt)))), .second, .val (.double (FP.dmul (FP.ddiv (FP.l2d n5') (FP.dmul (4633641066610819072 : UInt64) (FP.i2d cnt))) (4427486594234968593 : UInt64))), .second] [(.double (FP.dmul (FP.ddiv (FP.l2d n5') (FP.dmul (4633641066610819072 : UInt64) (FP.i2d cnt))) (4427486594234968593 : UInt64))), (.double (FP.ddiv (FP.l2d n5') (FP.dmul (4633641066610819072 : UInt64) (FP.i2d cnt)))), (.double ap)])) _
      refine XS.dsubS X88.here hx rfl (hb hby at_255) rfl g4 rfl ?_
      show Steps p.tables e below (T88.setTop (mkF m 256 #[.val (.int p1), .val (.int p2), .val (.ref b2), .val (.int c5'), .val (.long n5'), .second, .val (.int cnt), .val (.ref b7), .val (.double ap), .second, .val (.double (FP.ddiv (FP.l2d n5') (FP.dmul (4633641066610819072 : UInt64) (FP.i2d cnt)))), .second, .val (.double (FP.dmul (FP.ddiv (FP.l2d n5') (FP.dmul (4633641066610819072 : UInt64) (FP.i2d cnt))) (4427486594234968593 : UInt64))), .second] [(.double (FP.dsub (FP.ddiv (FP.l2d n5') (FP.dmul (4633641066610819072 : UInt64) (FP.i2d cnt))) (FP.dmul (FP.ddiv (FP.l2d n5') (FP.dmul (4633641066610819072 : UInt64) (FP.i2d cnt))) (4427486594234968593 : UInt64)))), (.double ap)])) _
      refine XS.dcmpS X88.here hx rfl (hb hby at_256) rfl rfl ?_
      show Steps p.tables e below (T88.setTop (mkF m 257 #[.val (.int p1), .val (.int p2), .val (.ref b2), .val (.int c5'), .val (.long n5'), .second, .val (.int cnt), .val (.ref b7), .val (.double ap), .second, .val (.double (FP.ddiv (FP.l2d n5') (FP.dmul (4633641066610819072 : UInt64) (FP.i2d cnt)))), .second, .val (.double (FP.dmul (FP.ddiv (FP.l2d n5') (FP.dmul (4633641066610819072 : UInt64) (FP.i2d cnt))) (4427486594234968593 : UInt64))), .second] [(.int (cmpValue (FP.dcmp ap (FP.dsub (FP.ddiv (FP.l2d n5') (FP.dmul (4633641066610819072 : UInt64) (FP.i2d cnt))) (FP.dmul (FP.ddiv (FP.l2d n5') (FP.dmul (4633641066610819072 : UInt64) (FP.i2d cnt))) (4427486594234968593 : UInt64)))) .l))])) _
      refine XS.ifNo X88.here hx rfl (hb hby at_257) rfl ((if0 _ _).trans (flt g6).1) ?_
      show Steps p.tables e below (T88.setTop (mkF m 260 #[.val (.int p1), .val (.int p2), .val (.ref b2), .val (.int c5'), .val (.long n5'), .second, .val (.int cnt), .val (.ref b7), .val (.double ap), .second, .val (.double (FP.ddiv (FP.l2d n5') (FP.dmul (4633641066610819072 : UInt64) (FP.i2d cnt)))), .second, .val (.double (FP.dmul (FP.ddiv (FP.l2d n5') (FP.dmul (4633641066610819072 : UInt64) (FP.i2d cnt))) (4427486594234968593 : UInt64))), .second] [])) _
      refine XS.dload X88.here hx rfl (hb hby at_260) rfl ?_
      show Steps p.tables e below (T88.setTop (mkF m 262 #[.val (.int p1), .val (.int p2), .val (.ref b2), .val (.int c5'), .val (.long n5'), .second, .val (.int cnt), .val (.ref b7), .val (.double ap), .second, .val (.double (FP.ddiv (FP.l2d n5') (FP.dmul (4633641066610819072 : UInt64) (FP.i2d cnt)))), .second, .val (.double (FP.dmul (FP.ddiv (FP.l2d n5') (FP.dmul (4633641066610819072 : UInt64) (FP.i2d cnt))) (4427486594234968593 : UInt64))), .second] [(.double ap)])) _
      refine XS.dload X88.here hx rfl (hb hby at_262) rfl ?_
      show Steps p.tables e below (T88.setTop (mkF m 264 #[.val (.int p1), .val (.int p2), .val (.ref b2), .val (.int c5'), .val (.long n5'), .second, .val (.int cnt), .val (.ref b7), .val (.double ap), .second, .val (.double (FP.ddiv (FP.l2d n5') (FP.dmul (4633641066610819072 : UInt64) (FP.i2d cnt)))), .second, .val (.double (FP.dmul (FP.ddiv (FP.l2d n5') (FP.dmul (4633641066610819072 : UInt64) (FP.i2d cnt))) (4427486594234968593 : UInt64))), .second] [(.double (FP.ddiv (FP.l2d n5') (FP.dmul (4633641066610819072 : UInt64) (FP.i2d cnt)))), (.double ap)])) _
      refine XS.dload X88.here hx rfl (hb hby at_264) rfl ?_
      show Steps p.tables e below (T88.setTop (mkF m 266 #[.val (.int p1), .val (.int p2), .val (.ref b2), .val (.int c5'), .val (.long n5'), .second, .val (.int cnt), .val (.ref b7), .val (.double ap), .second, .val (.double (FP.ddiv (FP.l2d n5') (FP.dmul (4633641066610819072 : UInt64) (FP.i2d cnt)))), .second, .val (.double (FP.dmul (FP.ddiv (FP.l2d n5') (FP.dmul (4633641066610819072 : UInt64) (FP.i2d cnt))) (4427486594234968593 : UInt64))), .second] [(.double (FP.dmul (FP.ddiv (FP.l2d n5') (FP.dmul (4633641066610819072 : UInt64) (FP.i2d cnt))) (4427486594234968593 : UInt64))), (.double (FP.ddiv (FP.l2d n5') (FP.dmul (4633641066610819072 : UInt64) (FP.i2d cnt)))), (.double ap)])) _
      refine XS.daddS X88.here hx rfl (hb hby at_266) rfl g5 rfl ?_
      show Steps p.tables e below (T88.setTop (mkF m 267 #[.val (.int p1), .val (.int p2), .val (.ref b2), .val (.int c5'), .val (.long n5'), .second, .val (.int cnt), .val (.ref b7), .val (.double ap), .second, .val (.double (FP.ddiv (FP.l2d n5') (FP.dmul (4633641066610819072 : UInt64) (FP.i2d cnt)))), .second, .val (.double (FP.dmul (FP.ddiv (FP.l2d n5') (FP.dmul (4633641066610819072 : UInt64) (FP.i2d cnt))) (4427486594234968593 : UInt64))), .second] [(.double (FP.dadd (FP.ddiv (FP.l2d n5') (FP.dmul (4633641066610819072 : UInt64) (FP.i2d cnt))) (FP.dmul (FP.ddiv (FP.l2d n5') (FP.dmul (4633641066610819072 : UInt64) (FP.i2d cnt))) (4427486594234968593 : UInt64)))), (.double ap)])) _
      refine XS.dcmpS X88.here hx rfl (hb hby at_267) rfl rfl ?_
      show Steps p.tables e below (T88.setTop (mkF m 268 #[.val (.int p1), .val (.int p2), .val (.ref b2), .val (.int c5'), .val (.long n5'), .second, .val (.int cnt), .val (.ref b7), .val (.double ap), .second, .val (.double (FP.ddiv (FP.l2d n5') (FP.dmul (4633641066610819072 : UInt64) (FP.i2d cnt)))), .second, .val (.double (FP.dmul (FP.ddiv (FP.l2d n5') (FP.dmul (4633641066610819072 : UInt64) (FP.i2d cnt))) (4427486594234968593 : UInt64))), .second] [(.int (cmpValue (FP.dcmp ap (FP.dadd (FP.ddiv (FP.l2d n5') (FP.dmul (4633641066610819072 : UInt64) (FP.i2d cnt))) (FP.dmul (FP.ddiv (FP.l2d n5') (FP.dmul (4633641066610819072 : UInt64) (FP.i2d cnt))) (4427486594234968593 : UInt64)))) .g))])) _
      refine XS.ifNo X88.here hx rfl (hb hby at_268) rfl ((if0 _ _).trans (flt g7).2.2.1) ?_
      show Steps p.tables e below (T88.setTop (mkF m 271 #[.val (.int p1), .val (.int p2), .val (.ref b2), .val (.int c5'), .val (.long n5'), .second, .val (.int cnt), .val (.ref b7), .val (.double ap), .second, .val (.double (FP.ddiv (FP.l2d n5') (FP.dmul (4633641066610819072 : UInt64) (FP.i2d cnt)))), .second, .val (.double (FP.dmul (FP.ddiv (FP.l2d n5') (FP.dmul (4633641066610819072 : UInt64) (FP.i2d cnt))) (4427486594234968593 : UInt64))), .second] [])) _
      refine XS.iconst X88.here hx rfl (hb hby at_271) ?_
      show Steps p.tables e below (T88.setTop (mkF m 272 #[.val (.int p1), .val (.int p2), .val (.ref b2), .val (.int c5'), .val (.long n5'), .second, .val (.int cnt), .val (.ref b7), .val (.double ap), .second, .val (.double (FP.ddiv (FP.l2d n5') (FP.dmul (4633641066610819072 : UInt64) (FP.i2d cnt)))), .second, .val (.double (FP.dmul (FP.ddiv (FP.l2d n5') (FP.dmul (4633641066610819072 : UInt64) (FP.i2d cnt))) (4427486594234968593 : UInt64))), .second] [(.int (1 : Int32))])) _
      refine XS.goto X88.here hx rfl (pc0 := 272) (pc' := 276) rfl (hb hby at_272) (by decide) (by decide) ?_
      exact k9
    obtain ⟨fs, hr, hrun, hended, hW, hsame⟩ := X88.leave (v := some (.int (1 : Int32))) (fun h => by rw [Bd.returns] at h; cases h) hlk
    refine fin _ ⟨_, _, retN X88 hx (t := .boolean) Bd.returns (by simp) (hb hby at_276) hr, hrun, hended, _, _, rfl, ?_, ⟨_, rfl⟩, hW, hsame.mono (by decide) (by decide)⟩
    show Q0 Z p1 p2 h0 n0 _ T88.heap _
    exact ⟨rfl, N88⟩
set_option maxRecDepth 65536 in
set_option maxHeartbeats 40000000 in
theorem comes_1 {Post : Tables → Env → Array Value → State → Outcome → State → Prop} (hpost : ∀ tb e args s v u, (limb_1_1.after args s (.returned v) u = true ∧ limb_1_2.after args s (.returned v) u = true ∧ True) → FrameEnd s (.returned v) u (Jvm.fieldLocs frame_1_writes args s ++ Jvm.arrayLocs frame_1_arrays args s ++ Jvm.staticLocs frame_1_statics s) 16 128 → Post tb e args s (.returned v) u) :
    ArmFor flags0 classFile x code maxLocals ret World_1 tables_1 room_1 Calls_1 rest_1 Pre_1 Post := by
  intro l hfl _ _ p e ha hc hk s m args below hf hA hF happ hP
  obtain ⟨hcalls, hrest, hpre⟩ := hP
  obtain ⟨-, -, -, hnamed, -, -, -, hat⟩ := (Spec.applies_iff hf).mp happ
  obtain ⟨hg, hn⟩ := and_e (Cond.before_iff.mp (show (Jvm.Cond.and given_1 narrow_1).before args s = true from hpre))
  obtain ⟨hcnt, hq0⟩ := and_e hg
  obtain ⟨ha0, hq1⟩ := and_e hq0
  obtain ⟨w0, w1, rfl⟩ : ∃ w0 w1 : Value, args = #[w0, w1] := by
    have hs : args.size = 2 := by simpa [Cond.value, given_1] using hcnt
    obtain ⟨L⟩ := args
    match L, hs with
    | [w0, w1], _ => exact ⟨w0, w1, rfl⟩
  have hw := fun d (hd : d ∈ tables_1) => atoms_spec (ws := Jvm.Cond.code x code maxLocals ret :: tables_1) hat d (List.mem_cons_of_mem _ hd)
  obtain ⟨i0, ei0⟩ := is_v ha0
  obtain rfl : w0 = (.int i0) := Option.some.inj ei0
  obtain ⟨i1, ei1⟩ := is_v hq1
  obtain rfl : w1 = (.int i1) := Option.some.inj ei1
  obtain ⟨n, o, h1, h2, h3, _, L, rfl, ⟨rfl, N⟩, hq⟩ := rm0 l s _ hw tables_1 i0 i1 s.heap s.heap.size (Nat.le_refl _) p e ha hc hk s m _ below hf ((Spec.applies_iff_loose hf).mp happ).1 ⟨rfl, State.Warmed39.refl s, rfl⟩ trivial
  refine ⟨n, _, h1, h2, h3, hpost _ _ _ _ _ _ ⟨Cond.after_iff.mpr rfl, Cond.after_iff.mpr (eq_i res_at (Term.int_eval (1)) rfl), trivial⟩ ⟨hq.1, hq.2.1, (hq.2.2.sift fun y hy => Or.inr (N y hy)).mono (by decide) (by decide)⟩⟩
theorem main_1_1 : Claimed_1_1 := comes_1 fun _ _ _ _ _ _ h hF => ⟨h.1, hF⟩
theorem main_1_2 : Claimed_1_2 := comes_1 fun _ _ _ _ _ _ h hF => ⟨h.2.1, hF⟩
end Jvm.Pilot.@@N@@
namespace Jvm.Pilot.@@N@@
open Jvm Jvm.ClassFile Sem Op Lib Jvm.Free Jvm.Stand Jvm.Pilot.@@N@@.Jvm.D
/-! MADE BY PROGRAM (witnessworld.py) out of the Statement's table words and the real class files: 12 classes; the members and pool entries that the words name. The judged class is class 1, her method 1. -/
namespace start1
open Jvm.ClassFile
def u (s : String) : CpInfo := .utf8 (stringToUtf16 s)
/-- a pool by its gaps: so many unusable entries, then the entry; so many at the end -/
def gap : Nat → List CpInfo → List CpInfo
  | 0, r => r
  | n + 1, r => .unusable :: gap n r
def poolList (es : List (Nat × CpInfo)) (last : Nat) : List CpInfo := es.foldr (fun e r => gap e.1 (e.2 :: r)) (gap last [])
def pool (es : List (Nat × CpInfo)) (last : Nat) : Array CpInfo := ⟨poolList es last⟩
def fileOf (pool : Array CpInfo) (this : Nat) (attrs : Array Attribute := #[]) (ms : Array MethodInfo := #[]) (fl : Nat := 33) (sup : Nat := 0) (ifs : Array Nat := #[]) (fds : Array FieldInfo := #[]) : ClassFile where
  minorVersion := 0
  majorVersion := 65
  constantPool := pool
  accessFlags := fl
  thisClass := this
  superClass := sup
  interfaces := ifs
  fields := fds
  methods := ms
  attributes := attrs
def plain (name : String) (sup : Option ClassId) : Class where
  name := name
  kind := .ordinary
  loader := none
  accessFlags := 33
  super := sup
  interfaces := #[]
  cf := none
  fields := #[]
  methods := #[]
  instanceTypes := #[]
  staticTypes := #[]
  resolved := #[]
  callSites := []
  init := .initialized
  statics := none
  mirror := none

def pool0 : Array CpInfo := pool [(5, u "<init>"), (0, u "()V"), (1, .class_ 10), (1, u "java/lang/Object")] 113

def k0c0 : Code := { maxStack := 0, maxLocals := 1, code := object_method_1_code, exceptionTable := #[], attributes := #[] }
def k0m0 : Method := { name := "<init>", desc := "()V", sig := { parameters := [], returnType := none }, accessFlags := 1, code := some k0c0 }
/-- java/lang/Object -/
def k0 : Class := { plain "java/lang/Object" none with
  accessFlags := 33
  interfaces := #[]
  cf := some (fileOf pool0 8 #[] #[{ accessFlags := 1, nameIndex := 5, descriptorIndex := 6, attributes := #[] }] 33 0 #[] #[])
  fields := #[]
  methods := #[k0m0]
  instanceTypes := #[]
  staticTypes := #[]
  resolved := Array.replicate 124 none
  statics := none }

def pool1 : Array CpInfo := pool [(2, .class_ 4), (1, u "java/lang/Object"), (0, u "<init>"), (0, u "()V"), (0, .long 60), (1, .long 30), (1, .long 20), (1, .long 15), (1, .long 12), (1, .integer 2147483647), (0, .methodref 19 20), (0, .class_ 21), (0, .nameAndType 22 23), (0, u "java/lang/Math"), (0, u "max"), (0, u "(II)I"), (0, .class_ 25), (0, u "com/example/vervet/vervet/core/RankedTopic"), (0, .methodref 24 27), (0, .nameAndType 5 28), (0, u "([ZI)V"), (0, .methodref 24 30), (0, .nameAndType 31 32), (0, u "averagePrecision"), (0, u "()D"), (0, .double 4633641066610819072), (1, .double 4427486594234968593), (1, .class_ 38), (0, u "com/example/vervet/vervet/core/RankedTopicAveragePrecisionPinLaw"), (2, u "law"), (0, u "(II)Z")] 5

def k1m0 : Method := { name := "<init>", desc := "()V", sig := { parameters := [], returnType := none }, accessFlags := 1, code := none }
def k1c1 : Code := { maxStack := 6, maxLocals := 14, code := code, exceptionTable := #[], attributes := #[] }
def k1m1 : Method := { name := "law", desc := "(II)Z", sig := { parameters := [.int, .int], returnType := some .boolean }, accessFlags := 9, code := some k1c1 }
/-- com/example/vervet/vervet/core/RankedTopicAveragePrecisionPinLaw -/
def k1 : Class := { plain "com/example/vervet/vervet/core/RankedTopicAveragePrecisionPinLaw" (some 0) with
  accessFlags := 49
  interfaces := #[]
  cf := some (fileOf pool1 37 #[] #[{ accessFlags := 1, nameIndex := 5, descriptorIndex := 6, attributes := #[] }, { accessFlags := 9, nameIndex := 41, descriptorIndex := 42, attributes := #[] }] 49 2 #[] #[])
  fields := #[]
  methods := #[k1m0, k1m1]
  instanceTypes := #[]
  staticTypes := #[]
  resolved := Array.replicate 48 none
  statics := none }

def pool2 : Array CpInfo := pool [(1, .class_ 2), (0, u "java/lang/Math"), (1, .class_ 6), (1, u "java/lang/Object"), (0, u "<init>"), (0, u "()V"), (89, .class_ 100), (1, u "java/lang/Math$RandomNumberGeneratorHolder"), (71, u "negativeZeroFloatBits"), (0, u "J"), (2, u "negativeZeroDoubleBits"), (21, u "max"), (46, u "$assertionsDisabled"), (0, u "Z"), (88, u "(II)I"), (2, u "twoToTheDoubleScaleDown"), (0, u "D"), (4, u "twoToTheDoubleScaleUp"), (9, u "E"), (3, u "PI"), (2, u "TAU"), (2, u "DEGREES_TO_RADIANS"), (0, u "RADIANS_TO_DEGREES")] 94

def k2m0 : Method := { name := "<init>", desc := "()V", sig := { parameters := [], returnType := none }, accessFlags := 2, code := none }
def k2c1 : Code := { maxStack := 2, maxLocals := 2, code := jdk_29_method_65_code, exceptionTable := #[], attributes := #[] }
def k2m1 : Method := { name := "max", desc := "(II)I", sig := { parameters := [.int, .int], returnType := some .int }, accessFlags := 9, code := some k2c1 }
/-- java/lang/Math -/
def k2 : Class := { plain "java/lang/Math" (some 0) with
  accessFlags := 49
  interfaces := #[]
  cf := some (fileOf pool2 1 #[.nestMembers #[98]] #[{ accessFlags := 2, nameIndex := 7, descriptorIndex := 8, attributes := #[] }, { accessFlags := 9, nameIndex := 198, descriptorIndex := 335, attributes := #[] }] 49 4 #[] #[{ accessFlags := 25, nameIndex := 354, descriptorIndex := 339, attributes := #[] }, { accessFlags := 25, nameIndex := 358, descriptorIndex := 339, attributes := #[] }, { accessFlags := 25, nameIndex := 361, descriptorIndex := 339, attributes := #[] }, { accessFlags := 26, nameIndex := 364, descriptorIndex := 339, attributes := #[] }, { accessFlags := 26, nameIndex := 365, descriptorIndex := 339, attributes := #[] }, { accessFlags := 26, nameIndex := 172, descriptorIndex := 173, attributes := #[] }, { accessFlags := 26, nameIndex := 176, descriptorIndex := 173, attributes := #[] }, { accessFlags := 8, nameIndex := 344, descriptorIndex := 339, attributes := #[] }, { accessFlags := 8, nameIndex := 338, descriptorIndex := 339, attributes := #[] }, { accessFlags := 4120, nameIndex := 245, descriptorIndex := 246, attributes := #[] }])
  fields := #[{ name := "E", type := .double, accessFlags := 25, slot := 0, constantValue := 0 }, { name := "PI", type := .double, accessFlags := 25, slot := 1, constantValue := 0 }, { name := "TAU", type := .double, accessFlags := 25, slot := 2, constantValue := 0 }, { name := "DEGREES_TO_RADIANS", type := .double, accessFlags := 26, slot := 3, constantValue := 0 }, { name := "RADIANS_TO_DEGREES", type := .double, accessFlags := 26, slot := 4, constantValue := 0 }, { name := "negativeZeroFloatBits", type := .long, accessFlags := 26, slot := 5, constantValue := 0 }, { name := "negativeZeroDoubleBits", type := .long, accessFlags := 26, slot := 6, constantValue := 0 }, { name := "twoToTheDoubleScaleUp", type := .double, accessFlags := 8, slot := 7, constantValue := 0 }, { name := "twoToTheDoubleScaleDown", type := .double, accessFlags := 8, slot := 8, constantValue := 0 }, { name := "$assertionsDisabled", type := .boolean, accessFlags := 4120, slot := 9, constantValue := 0 }]
  methods := #[k2m0, k2m1]
  instanceTypes := #[]
  staticTypes := #[.double, .double, .double, .double, .double, .long, .long, .double, .double, .boolean]
  resolved := Array.replicate 460 none
  statics := none }

def pool3 : Array CpInfo := pool [(1, .methodref 2 3), (0, .class_ 4), (0, .nameAndType 5 6), (0, u "java/lang/Object"), (0, u "<init>"), (0, u "()V"), (0, .fieldref 8 9), (0, .class_ 10), (0, .nameAndType 11 12), (0, u "com/example/vervet/vervet/core/RankedTopic"), (0, u "relevant"), (0, u "[Z"), (0, .fieldref 8 14), (0, .nameAndType 15 16), (0, u "relevantCount"), (0, u "I"), (10, u "([ZI)V"), (5, u "averagePrecision"), (0, u "()D")] 7

def k3c0 : Code := { maxStack := 2, maxLocals := 3, code := prog_33_method_1_code, exceptionTable := #[], attributes := #[] }
def k3m0 : Method := { name := "<init>", desc := "([ZI)V", sig := { parameters := [(.array .boolean), .int], returnType := none }, accessFlags := 0, code := some k3c0 }
def k3c1 : Code := { maxStack := 6, maxLocals := 5, code := prog_33_method_5_code, exceptionTable := #[], attributes := #[] }
def k3m1 : Method := { name := "averagePrecision", desc := "()D", sig := { parameters := [], returnType := some .double }, accessFlags := 0, code := some k3c1 }
/-- com/example/vervet/vervet/core/RankedTopic -/
def k3 : Class := { plain "com/example/vervet/vervet/core/RankedTopic" (some 0) with
  accessFlags := 48
  interfaces := #[]
  cf := some (fileOf pool3 8 #[] #[{ accessFlags := 0, nameIndex := 5, descriptorIndex := 27, attributes := #[] }, { accessFlags := 0, nameIndex := 33, descriptorIndex := 34, attributes := #[] }] 48 2 #[] #[{ accessFlags := 18, nameIndex := 11, descriptorIndex := 12, attributes := #[] }, { accessFlags := 18, nameIndex := 15, descriptorIndex := 16, attributes := #[] }])
  fields := #[{ name := "relevant", type := (.array .boolean), accessFlags := 18, slot := 0, constantValue := 0 }, { name := "relevantCount", type := .int, accessFlags := 18, slot := 1, constantValue := 0 }]
  methods := #[k3m0, k3m1]
  instanceTypes := #[(.array .boolean), .int]
  staticTypes := #[]
  resolved := Array.replicate 42 none
  statics := none }

def pool4 : Array CpInfo := pool [(1, u "java/lang/Cloneable"), (0, .class_ 1), (0, u "java/lang/Object"), (0, .class_ 3)] 3

/-- java/lang/Cloneable -/
def k4 : Class := { plain "java/lang/Cloneable" (some 0) with
  accessFlags := 1537
  interfaces := #[]
  cf := some (fileOf pool4 2 #[] #[] 1537 4 #[] #[])
  fields := #[]
  methods := #[]
  instanceTypes := #[]
  staticTypes := #[]
  resolved := Array.replicate 8 none
  statics := none }

def pool5 : Array CpInfo := pool [(1, u "java/io/Serializable"), (0, .class_ 1), (0, u "java/lang/Object"), (0, .class_ 3)] 3

/-- java/io/Serializable -/
def k5 : Class := { plain "java/io/Serializable" (some 0) with
  accessFlags := 1537
  interfaces := #[]
  cf := some (fileOf pool5 2 #[] #[] 1537 4 #[] #[])
  fields := #[]
  methods := #[]
  instanceTypes := #[]
  staticTypes := #[]
  resolved := Array.replicate 8 none
  statics := none }

/-- the primitive boolean -/
def k6 : Class := { plain "boolean" none with kind := .primitive 'Z', accessFlags := 0x411 }
/-- [Z -/
def k7 : Class := { plain "[Z" (some 0) with kind := .array 6 .boolean, interfaces := #[4, 5], accessFlags := 1041 }

/-- the primitive byte -/
def k8 : Class := { plain "byte" none with kind := .primitive 'B', accessFlags := 0x411 }
/-- [B -/
def k9 : Class := { plain "[B" (some 0) with kind := .array 8 .byte, interfaces := #[4, 5], accessFlags := 1041 }

/-- the primitive int -/
def k10 : Class := { plain "int" none with kind := .primitive 'I', accessFlags := 0x411 }
/-- [I -/
def k11 : Class := { plain "[I" (some 0) with kind := .array 10 .int, interfaces := #[4, 5], accessFlags := 1041 }

def heap : Heap := #[]
def classes : Array Class := #[k0, k1, k2, k3, k4, k5, k6, k7, k8, k9, k10, k11]
def interned : List (Array UInt16 × Addr) := []
def slotsUsed : Nat := 0
def theMethod : MethodId := ⟨1, 1⟩
def args0 : Array Value := #[.int 5, .int 6]
def aboutOver (below : List Frame) : State where
  vm := { classes := classes, interned := interned.toArray }
  heap := heap
  slotsUsed := slotsUsed
  threads := #[{ frames := .invoking theMethod args0 :: below }]
def below0 : List Frame := [.native { method := ⟨0, 0⟩, args := #[] }]
def about1 : State := aboutOver below0
def p0 : Program := .bare "" "" ""
def e0 : Env := launch0.env 0 0 0
theorem w_frames : about1.frames = Frame.invoking theMethod args0 :: below0 := rfl
set_option maxRecDepth 65536 in
theorem w_args : argsFit about1.vm theMethod args0 = true := by decide +kernel
set_option maxRecDepth 65536 in
theorem w_heap : heapFits about1 = true := by decide +kernel
set_option maxRecDepth 65536 in
theorem w_runnable : about1.curStatus? = some .runnable := by decide +kernel
set_option maxRecDepth 65536 in
theorem w_alone : about1.alone = true := by decide +kernel
set_option maxRecDepth 65536 in
theorem w_named : about1.methodNamed? x = some theMethod := by decide +kernel
set_option maxRecDepth 65536 in
theorem w_hears : about1.hears theMethod below0 = true := by decide +kernel
set_option maxRecDepth 65536 in
theorem w_ripe : about1.ripe theMethod args0 below0 = true := by decide +kernel
theorem w_running : about1.status = .running := rfl
set_option maxRecDepth 65536 in
theorem w_room : about1.hasRoom e0.platform room_1 = true :=
  launch0.hasRoom_least _ room_1 (by decide +kernel) (by decide +kernel) (by decide +kernel) (by decide +kernel) (by decide +kernel) (by decide +kernel)
theorem allAtoms_all (ts : List Jvm.Cond) (a : Array Jvm.Value) (st : Jvm.State) : (allAtoms ts).before a st = ts.all (fun c => c.before a st) := by
  induction ts with
  | nil => rfl
  | cons c t ih =>
    show (Jvm.Cond.and c (allAtoms t)).before a st = _
    rw [Jvm.Cond.before_and, ih, List.all_cons]
def words1 : List Jvm.Cond := Jvm.Cond.code x code maxLocals ret :: tables_1
/-- a 'code' word, met by the world's own term for the bytes: nothing is compared byte by byte -/
theorem code_word {y : MethodName} {bytes : ByteArray} {mx : Nat} {rt : Option FieldType} {a : Array Value} {s : State} {m : MethodId} {meth : Method} {c : Code} (h1 : s.methodNamed? y = some m) (h2 : s.vm.method? m = some meth) (h3 : meth.code = some c) (h4 : c.code = bytes)
    (h5 : (c.maxLocals == mx && c.exceptionTable.isEmpty && decide (c.maxStack ≤ mostOperands) && decide (meth.sig.returnType = rt) && !meth.locks && decide (parseMethodDescriptor y.desc = some meth.sig)) = true) : (Jvm.Cond.code y bytes mx rt).before a s = true := by
  simp only [Bool.and_eq_true, beq_iff_eq, Bool.not_eq_true', decide_eq_true_eq] at h5
  obtain ⟨⟨⟨⟨⟨g1, g2⟩, g3⟩, g4⟩, g5⟩, g6⟩ := h5
  simp [Cond.before, Cond.holds, Cond.value, h1, h2, h3, h4, g1, g2, g3, g4, g5, g6]
def isCode : Jvm.Cond → Bool
  | .code _ _ _ _ => true
  | _ => false
theorem all_split {L : List Jvm.Cond} {P : Jvm.Cond → Bool} (h1 : L.all (fun c => isCode c || P c) = true) (h2 : ∀ c ∈ L.filter isCode, P c = true) : L.all P = true := by
  refine List.all_eq_true.mpr fun c hc => ?_
  have h := List.all_eq_true.mp h1 c hc
  rcases Bool.eq_false_or_eq_true (isCode c) with hi | hi
  · exact h2 c (List.mem_filter.mpr ⟨hc, hi⟩)
  · simpa [hi] using h
set_option maxRecDepth 65536 in
theorem w_c0 : (Jvm.Cond.code x code maxLocals ret).before args0 about1 = true := code_word (m := ⟨1, 1⟩) (meth := k1m1) (c := k1c1) (by decide +kernel) rfl rfl rfl (by decide +kernel)
set_option maxRecDepth 65536 in
theorem w_c1 : (Jvm.Cond.code ({ cls := "java/lang/Math", name := "max", desc := "(II)I" } : Jvm.MethodName) jdk_29_method_65_code (2 : Nat) (Option.some Jvm.ClassFile.FieldType.int)).before args0 about1 = true := code_word (m := ⟨2, 1⟩) (meth := k2m1) (c := k2c1) (by decide +kernel) rfl rfl rfl (by decide +kernel)
set_option maxRecDepth 65536 in
theorem w_c2 : (Jvm.Cond.code ({ cls := "com/example/vervet/vervet/core/RankedTopic", name := "<init>", desc := "([ZI)V" } : Jvm.MethodName) prog_33_method_1_code (3 : Nat) (Option.none : Option Jvm.ClassFile.FieldType)).before args0 about1 = true := code_word (m := ⟨3, 0⟩) (meth := k3m0) (c := k3c0) (by decide +kernel) rfl rfl rfl (by decide +kernel)
set_option maxRecDepth 65536 in
theorem w_c3 : (Jvm.Cond.code ({ cls := "java/lang/Object", name := "<init>", desc := "()V" } : Jvm.MethodName) object_method_1_code (1 : Nat) (Option.none : Option Jvm.ClassFile.FieldType)).before args0 about1 = true := code_word (m := ⟨0, 0⟩) (meth := k0m0) (c := k0c0) (by decide +kernel) rfl rfl rfl (by decide +kernel)
set_option maxRecDepth 65536 in
theorem w_c4 : (Jvm.Cond.code ({ cls := "com/example/vervet/vervet/core/RankedTopic", name := "averagePrecision", desc := "()D" } : Jvm.MethodName) prog_33_method_5_code (5 : Nat) (Option.some Jvm.ClassFile.FieldType.double)).before args0 about1 = true := code_word (m := ⟨3, 1⟩) (meth := k3m1) (c := k3c1) (by decide +kernel) rfl rfl rfl (by decide +kernel)
def codes1 : List Jvm.Cond := [Jvm.Cond.code x code maxLocals ret, Jvm.Cond.code ({ cls := "java/lang/Math", name := "max", desc := "(II)I" } : Jvm.MethodName) jdk_29_method_65_code (2 : Nat) (Option.some Jvm.ClassFile.FieldType.int), Jvm.Cond.code ({ cls := "com/example/vervet/vervet/core/RankedTopic", name := "<init>", desc := "([ZI)V" } : Jvm.MethodName) prog_33_method_1_code (3 : Nat) (Option.none : Option Jvm.ClassFile.FieldType), Jvm.Cond.code ({ cls := "java/lang/Object", name := "<init>", desc := "()V" } : Jvm.MethodName) object_method_1_code (1 : Nat) (Option.none : Option Jvm.ClassFile.FieldType), Jvm.Cond.code ({ cls := "com/example/vervet/vervet/core/RankedTopic", name := "averagePrecision", desc := "()D" } : Jvm.MethodName) prog_33_method_5_code (5 : Nat) (Option.some Jvm.ClassFile.FieldType.double)]
set_option maxRecDepth 65536 in
theorem codes_eq : words1.filter isCode = codes1 := rfl
theorem w_codes : ∀ c ∈ words1.filter isCode, c.before args0 about1 = true := by
  rw [codes_eq]
  intro c hc
  simp only [codes1, List.mem_cons, List.not_mem_nil, or_false] at hc
  rcases hc with rfl | rfl | rfl | rfl | rfl
  · exact w_c0
  · exact w_c1
  · exact w_c2
  · exact w_c3
  · exact w_c4
set_option maxRecDepth 65536 in
theorem w_t1 : (words1.take 24).all (fun c => isCode c || c.before args0 about1) = true := by decide +kernel
set_option maxRecDepth 65536 in
theorem w_t2 : (words1.drop 24).all (fun c => isCode c || c.before args0 about1) = true := by decide +kernel
theorem w_tables : (allAtoms (Jvm.Cond.code x code maxLocals ret :: tables_1)).before args0 about1 = true := by
  rw [allAtoms_all]
  show words1.all (fun c => c.before args0 about1) = true
  refine all_split ?_ w_codes
  rw [← List.take_append_drop 24 words1, List.all_append, w_t1, w_t2]
  rfl
set_option maxRecDepth 65536 in
theorem w_case : (Jvm.Cond.and given_1 narrow_1).before args0 about1 = true := by decide +kernel
theorem w_applies : (headSpec (Jvm.Cond.code x code maxLocals ret :: tables_1) room_1).applies x e0.platform about1 = true :=
  (Spec.applies_iff w_frames).mpr ⟨w_running, w_runnable, w_alone, w_named, w_hears, w_ripe, w_room, w_tables⟩
theorem atStart : AtStart classFile x code maxLocals ret World_1 tables_1 room_1 Calls_1 rest_1 Pre_1 launch0 p0 e0 about1 theMethod args0 below0 :=
  ⟨lists_1, trivial, launch0.admits_env _ _ _, launch0.least_env, fairChoices_fair.cas, fairChoices_fair.clock, w_frames, w_args, w_heap, w_applies, trivial, trivial, w_case⟩
end start1
theorem witness_1 : WitnessClaimed_1 := ⟨start1.p0, start1.e0, start1.about1, start1.theMethod, start1.args0, start1.below0, start1.atStart⟩
end Jvm.Pilot.@@N@@
