import JvmDerived
import JvmDerived.Pilot.@@N@@Statement
import JvmDerived.Pilot.@@N@@Code
set_option linter.unusedVariables false
set_option linter.unusedSimpArgs false
namespace Jvm.Pilot.@@N@@
open Jvm Jvm.ClassFile Sem Op Lib Jvm.Free Jvm.Stand Jvm.LawKit Jvm.RoadKit Bundle Jvm.Free.Fl Jvm.Pilot.@@N@@.Jvm.D
theorem own_go {tb : Tables} {e : Env} {below : List Frame} {A B : State} {F : State → Outcome → Prop} (h : ∀ t, Steps tb e below A t → Steps tb e below B t) (k : ∃ s₂ o, Steps tb e below A s₂ ∧ F s₂ o) : ∃ s₂ o, Steps tb e below B s₂ ∧ F s₂ o := by
  obtain ⟨s₂, o, h1, h2⟩ := k
  exact ⟨s₂, o, h _ h1, h2⟩
theorem own_open {tb : Tables} {e : Env} {below : List Frame} {B : State} {F : State → Outcome → Prop} (h : ∀ G : State → Prop, (∀ A B, (∀ t, Steps tb e below A t → Steps tb e below B t) → G A → G B) → (∀ A, (∃ s₂ o, Steps tb e below A s₂ ∧ F s₂ o) → G A) → G B) : ∃ s₂ o, Steps tb e below B s₂ ∧ F s₂ o :=
  h (fun A => ∃ s₂ o, Steps tb e below A s₂ ∧ F s₂ o) (fun _ _ => own_go) (fun _ k => k)
/-! ### doubles as whole numbers of least units (2^-1074), and how the operations round them -/
abbrev own_z (a : UInt64) : Int := FP.Core.zval FP.Core.b64 (FP.Core.val64 a)
def own_M : Nat := 2 ^ 1074
theorem own_M_pos : 0 < own_M := Nat.two_pow_pos _
theorem own_qmin : (-FP.Core.b64.qmin).toNat = 1074 := by decide
theorem own_zcmp {a b : UInt64} (ha : NoNaN64 a) (hb : NoNaN64 b) : FP.dcmp a b = some (compare (own_z a) (own_z b)) := FP.Core.dcmp_zval (val64_no.mp ha) (val64_no.mp hb)
theorem own_zint {i : Int} {a : UInt64} (h : FP.Core.DInt i a) : own_z a = i * (own_M : Int) := by
  have q := FP.Core.whole_zval FP.Core.good_b64 (FP.Core.val64_fits a) h
  rw [own_qmin] at q
  exact q
theorem own_fin {a : UInt64} (h : Fin64 a) : ∃ s c q, FP.Core.val64 a = .fin s c q ∧ FP.Core.fits FP.Core.b64 (.fin s c q) := by
  obtain ⟨s, c, q, e⟩ := fin64_core.mp h
  have f := FP.Core.val64_fits a
  rw [e] at f
  exact ⟨s, c, q, e, f⟩
theorem own_sum_le {a b V : UInt64} (ha : Fin64 a) (hb : Fin64 b) (hV : NoNaN64 V) (h : own_z a + own_z b ≤ own_z V) : own_z (FP.dadd a b) ≤ own_z V := by
  obtain ⟨s, c, q, e1, f1⟩ := own_fin ha
  obtain ⟨t, d, r, e2, f2⟩ := own_fin hb
  obtain ⟨sg, n, e, hs, he, hu⟩ := FP.Core.sum_units f1 f2
  show FP.Core.zval _ (FP.Core.val64 (FP.Core.dadd a b)) ≤ _
  simp only [own_z, e1, e2] at h
  rw [FP.Core.val64_dadd, e1, e2, hs]
  refine FP.Core.zval_round_le FP.Core.good_b64 (FP.Core.val64_fits V) (val64_no.mp hV) (Int.le_refl _) he ?_
  rw [hu, Int.sub_self]
  simpa using h
theorem own_sum_ge {a b V : UInt64} (ha : Fin64 a) (hb : Fin64 b) (hV : NoNaN64 V) (h : own_z V ≤ own_z a + own_z b) : own_z V ≤ own_z (FP.dadd a b) := by
  obtain ⟨s, c, q, e1, f1⟩ := own_fin ha
  obtain ⟨t, d, r, e2, f2⟩ := own_fin hb
  obtain ⟨sg, n, e, hs, he, hu⟩ := FP.Core.sum_units f1 f2
  show _ ≤ FP.Core.zval _ (FP.Core.val64 (FP.Core.dadd a b))
  simp only [own_z, e1, e2] at h
  rw [FP.Core.val64_dadd, e1, e2, hs]
  refine FP.Core.zval_round_ge FP.Core.good_b64 (FP.Core.val64_fits V) (val64_no.mp hV) (Int.le_refl _) he ?_
  rw [hu, Int.sub_self]
  simpa using h
theorem own_signed (s t : Bool) (x y : Nat) : FP.Core.signed (s != t) (x * y) = FP.Core.signed s x * FP.Core.signed t y := by
  cases s <;> cases t <;> simp [FP.Core.signed, Int.mul_neg, Int.neg_mul]
theorem own_2qmin : (FP.Core.b64.qmin - 2 * FP.Core.b64.qmin).toNat = 1074 := by decide
theorem own_mul_le {a b V : UInt64} (ha : Fin64 a) (hb : Fin64 b) (hV : NoNaN64 V) (h : own_z a * own_z b ≤ own_z V * (own_M : Int)) : own_z (FP.dmul a b) ≤ own_z V := by
  obtain ⟨s, c, q, e1, f1⟩ := own_fin ha
  obtain ⟨t, d, r, e2, f2⟩ := own_fin hb
  obtain ⟨hp, he, hu⟩ := FP.Core.product_units f1 f2
  show FP.Core.zval _ (FP.Core.val64 (FP.Core.dmul a b)) ≤ _
  simp only [own_z, e1, e2] at h
  rw [FP.Core.val64_dmul, e1, e2, hp]
  refine FP.Core.zval_round_le FP.Core.good_b64 (e0 := 2 * FP.Core.b64.qmin) (FP.Core.val64_fits V) (val64_no.mp hV) (by decide) he ?_
  rw [hu, own_signed, own_2qmin]
  exact h
theorem own_mul_ge {a b V : UInt64} (ha : Fin64 a) (hb : Fin64 b) (hV : NoNaN64 V) (h : own_z V * (own_M : Int) ≤ own_z a * own_z b) : own_z V ≤ own_z (FP.dmul a b) := by
  obtain ⟨s, c, q, e1, f1⟩ := own_fin ha
  obtain ⟨t, d, r, e2, f2⟩ := own_fin hb
  obtain ⟨hp, he, hu⟩ := FP.Core.product_units f1 f2
  show _ ≤ FP.Core.zval _ (FP.Core.val64 (FP.Core.dmul a b))
  simp only [own_z, e1, e2] at h
  rw [FP.Core.val64_dmul, e1, e2, hp]
  refine FP.Core.zval_round_ge FP.Core.good_b64 (e0 := 2 * FP.Core.b64.qmin) (FP.Core.val64_fits V) (val64_no.mp hV) (by decide) he ?_
  rw [hu, own_signed, own_2qmin]
  exact h
/-- R is the rounding of the magnitude N / D (in least units), with the sign s -/
def own_Rd (s : Bool) (R : UInt64) (N D : Nat) : Prop := ∃ (A B : Nat) (e e0 : Int), 0 < B ∧ e0 ≤ FP.Core.b64.qmin ∧ e0 ≤ e ∧ FP.Core.val64 R = FP.Core.roundRatio FP.Core.b64 s A B e ∧ FP.Core.inUnits A e e0 = N ∧ 2 ^ (FP.Core.b64.qmin - e0).toNat * B = D
theorem own_Rd_le {s : Bool} {R V : UInt64} {N D : Nat} (H : own_Rd s R N D) (hV : NoNaN64 V) (h : N ≤ FP.Core.zmag FP.Core.b64 (FP.Core.val64 V) * D) : FP.Core.zmag FP.Core.b64 (FP.Core.val64 R) ≤ FP.Core.zmag FP.Core.b64 (FP.Core.val64 V) := by
  obtain ⟨A, B, e, e0, hB, h0, h0e, hR, hN, hD⟩ := H
  rw [hR]
  refine FP.Core.zmag_roundRatio_le FP.Core.good_b64 hB (FP.Core.val64_fits V) (val64_no.mp hV) h0 h0e ?_
  rw [hN, Nat.mul_assoc, hD]
  exact h
theorem own_Rd_ge {s : Bool} {R V : UInt64} {N D : Nat} (H : own_Rd s R N D) (h : FP.Core.zmag FP.Core.b64 (FP.Core.val64 V) * D ≤ N) : FP.Core.zmag FP.Core.b64 (FP.Core.val64 V) ≤ FP.Core.zmag FP.Core.b64 (FP.Core.val64 R) := by
  obtain ⟨A, B, e, e0, hB, h0, h0e, hR, hN, hD⟩ := H
  rw [hR]
  refine FP.Core.zmag_roundRatio_ge FP.Core.good_b64 hB (FP.Core.val64_fits V) h0 h0e ?_
  rw [hN, Nat.mul_assoc, hD]
  exact h
theorem own_Rd_sgn {s : Bool} {R : UInt64} {N D : Nat} (H : own_Rd s R N D) : FP.Core.sgn (FP.Core.val64 R) = s := by
  obtain ⟨A, B, e, e0, hB, h0, h0e, hR, hN, hD⟩ := H
  rw [hR, FP.Core.sgn_roundRatio]
theorem own_Rd_nn {s : Bool} {R : UInt64} {N D : Nat} (H : own_Rd s R N D) : NoNaN64 R := by
  obtain ⟨A, B, e, e0, hB, h0, h0e, hR, hN, hD⟩ := H
  exact val64_no.mpr (by rw [hR]; exact FP.Core.roundRatio_ne_nan _ _ _ _ _)
theorem own_Rd_z {R : UInt64} {N D : Nat} (H : own_Rd false R N D) : own_z R = (FP.Core.zmag FP.Core.b64 (FP.Core.val64 R) : Int) := by
  unfold own_z FP.Core.zval
  rw [own_Rd_sgn H]
  rfl
/-- what is no greater than a finite one is finite -/
theorem own_fin_le {R V : UInt64} (hR : NoNaN64 R) (hV : Fin64 V) (h : FP.Core.zmag FP.Core.b64 (FP.Core.val64 R) ≤ FP.Core.zmag FP.Core.b64 (FP.Core.val64 V)) : Fin64 R := by
  have h1 := FP.Core.DFin.zval_lt (fin64_core.mp hV)
  refine fin64_core.mpr ?_
  have h2 := val64_no.mp hR
  unfold FP.Core.DFin
  cases hv : FP.Core.val64 R with
  | nan => exact absurd hv h2
  | inf s =>
    rw [hv] at h
    have h3 : FP.Core.zmag FP.Core.b64 (.inf s) = FP.Core.b64.tails * 2 ^ (FP.Core.b64.exps - 2) := rfl
    rw [h3] at h
    exact absurd (Nat.lt_of_lt_of_le h1 h) (Nat.lt_irrefl _)
  | fin s c q => exact ⟨s, c, q, rfl⟩
/-- the relative error of a rounding that is no subnormal one: at most 2^-53 -/
theorem own_Rd_rel {s : Bool} {R : UInt64} {N D : Nat} (H : own_Rd s R N D) (hf : Fin64 R) (hn : 2 ^ 52 * D ≤ N) :
    2 ^ 53 * N ≤ 2 ^ 53 * (FP.Core.zmag FP.Core.b64 (FP.Core.val64 R) * D) + N ∧ 2 ^ 53 * (FP.Core.zmag FP.Core.b64 (FP.Core.val64 R) * D) ≤ 2 ^ 53 * N + N := by
  obtain ⟨A, B, e, e0, hB, h0, h0e, hR, hN, hD⟩ := H
  obtain ⟨t, c, q, ev, hfit⟩ := own_fin hf
  rw [ev] at hR
  have hA : A ≠ 0 := by
    rintro rfl
    have hD0 : 0 < D := by rw [← hD]; exact Nat.mul_pos (Nat.two_pow_pos _) hB
    have hN0 : N = 0 := by rw [← hN]; simp [FP.Core.inUnits]
    have : 0 < 2 ^ 52 * D := Nat.mul_pos (by decide) hD0
    omega
  have g1 := FP.Core.quantum_ge FP.Core.b64 A B e
  have g2 := FP.Core.nearest_units_le (f := FP.Core.b64) (Nat.pos_of_ne_zero hA) hB e
  have g3 := FP.Core.quantum_not_below (f := FP.Core.b64) (Nat.pos_of_ne_zero hA) hB e
  unfold FP.Core.roundRatio at hR
  rw [if_neg hA] at hR
  unfold FP.Core.roundAt at hR
  generalize FP.Core.quantum FP.Core.b64 A B e = r at hR g1 g2 g3
  have hv := (FP.Core.settle_value FP.Core.good_b64 (e0 := e0) g2 hR.symm (by omega)).2
  have hz := FP.Core.units_fin hfit h0
  have ha : FP.Core.inUnits A e e0 = FP.Core.unitsNum A e r * 2 ^ (min e r - e0).toNat := by
    unfold FP.Core.inUnits FP.Core.unitsNum
    rw [show (e - e0).toNat = (e - r).toNat + (min e r - e0).toNat by omega, Nat.pow_add, Nat.mul_assoc]
  have hDr : B * 2 ^ (r - e0).toNat = FP.Core.unitsDen B e r * 2 ^ (min e r - e0).toNat := by
    unfold FP.Core.unitsDen
    rw [show (r - e0).toNat = (r - e).toNat + (min e r - e0).toNat by omega, Nat.pow_add, Nat.mul_assoc]
  have hP := Nat.two_pow_pos (min e r - e0).toNat
  have hup := FP.Core.unitsDen_pos hB e r
  have hk : 2 ^ 52 * FP.Core.unitsDen B e r ≤ FP.Core.unitsNum A e r := by
    rcases g3 with g3 | g3
    · subst g3
      rw [← hN, ha, ← hD, Nat.mul_comm _ B, hDr, ← Nat.mul_assoc] at hn
      exact Nat.le_of_mul_le_mul_right hn hP
    · rw [show ((FP.Core.b64.p : Nat) : Int) - 1 = ((52 : Nat) : Int) by decide, ← FP.Core.units_below] at g3
      exact Nat.le_of_not_lt g3
  obtain ⟨n1, n2, -⟩ := FP.Core.nearest_spec (FP.Core.unitsNum A e r) (FP.Core.unitsDen B e r) hup
  have hX : FP.Core.zmag FP.Core.b64 (FP.Core.val64 R) * D = FP.Core.nearest (FP.Core.unitsNum A e r) (FP.Core.unitsDen B e r) * FP.Core.unitsDen B e r * 2 ^ (min e r - e0).toNat := by
    rw [ev, ← hD, ← Nat.mul_assoc, ← hz, hv]
    unfold FP.Core.inUnits
    rw [Nat.mul_assoc, Nat.mul_comm (2 ^ (r - e0).toNat) B, hDr, Nat.mul_assoc]
  rw [hX, ← hN, ha]
  generalize 2 ^ (min e r - e0).toNat = P at *
  generalize FP.Core.nearest (FP.Core.unitsNum A e r) (FP.Core.unitsDen B e r) = k at *
  generalize FP.Core.unitsNum A e r = n at *
  generalize FP.Core.unitsDen B e r = d at *
  have e1 : (2 * k + 1) * d = 2 * (k * d) + d := by rw [Nat.add_mul, Nat.one_mul, Nat.mul_assoc]
  have e2 : 2 * k * d = 2 * (k * d) := Nat.mul_assoc ..
  rw [e1] at n1
  rw [e2] at n2
  generalize k * d = kd at *
  have m1 : 2 ^ 53 * n ≤ 2 ^ 53 * kd + n := by omega
  have m2 : 2 ^ 53 * kd ≤ 2 ^ 53 * n + n := by omega
  have l1 := Nat.mul_le_mul_right P m1
  have l2 := Nat.mul_le_mul_right P m2
  rw [Nat.add_mul, Nat.mul_assoc, Nat.mul_assoc] at l1 l2
  exact ⟨l1, l2⟩
theorem own_sgn_pos {a : UInt64} (h : 0 < own_z a) : FP.Core.sgn (FP.Core.val64 a) = false := by
  unfold own_z FP.Core.zval at h
  cases hs : FP.Core.sgn (FP.Core.val64 a)
  · rfl
  · rw [hs] at h
    simp only [FP.Core.signed, if_true] at h
    omega
theorem own_zmag {a : UInt64} (h : FP.Core.sgn (FP.Core.val64 a) = false) : own_z a = (FP.Core.zmag FP.Core.b64 (FP.Core.val64 a) : Int) := by
  unfold own_z FP.Core.zval
  rw [h]
  rfl
theorem own_Rd_div {a b : UInt64} (ha : Fin64 a) (hb : Fin64 b) (pb : FP.Core.zmag FP.Core.b64 (FP.Core.val64 b) ≠ 0) :
    own_Rd (FP.Core.sgn (FP.Core.val64 a) != FP.Core.sgn (FP.Core.val64 b)) (FP.ddiv a b) (FP.Core.zmag FP.Core.b64 (FP.Core.val64 a) * own_M) (FP.Core.zmag FP.Core.b64 (FP.Core.val64 b)) := by
  obtain ⟨s, c, q, e1, f1⟩ := own_fin ha
  obtain ⟨t, d, r, e2, f2⟩ := own_fin hb
  have hq := f1.2.1
  have hr := f2.2.1
  have hqm : FP.Core.b64.qmin = -1074 := by decide
  rw [e2] at pb
  have hd : d ≠ 0 := by
    rintro rfl
    exact pb (by simp [FP.Core.zmag, FP.Core.inUnits])
  refine ⟨c, d, q - r, FP.Core.b64.qmin - (r - FP.Core.b64.qmin), Nat.pos_of_ne_zero hd, by omega, by omega, ?_, ?_, ?_⟩
  · show FP.Core.val64 (FP.Core.ddiv a b) = _
    rw [FP.Core.val64_ddiv, e1, e2]
    show (if d = 0 then _ else _) = _
    rw [if_neg hd]
    rfl
  · rw [e1]
    show _ = FP.Core.inUnits c q FP.Core.b64.qmin * own_M
    unfold FP.Core.inUnits own_M
    rw [show (q - r - (FP.Core.b64.qmin - (r - FP.Core.b64.qmin))).toNat = (q - FP.Core.b64.qmin).toNat + 1074 by omega, Nat.pow_add, Nat.mul_assoc]
  · rw [e2]
    show _ = FP.Core.inUnits d r FP.Core.b64.qmin
    unfold FP.Core.inUnits
    rw [show (FP.Core.b64.qmin - (FP.Core.b64.qmin - (r - FP.Core.b64.qmin))).toNat = (r - FP.Core.b64.qmin).toNat by omega, Nat.mul_comm]
theorem own_Rd_mul {a b : UInt64} (ha : Fin64 a) (hb : Fin64 b) :
    own_Rd (FP.Core.sgn (FP.Core.val64 a) != FP.Core.sgn (FP.Core.val64 b)) (FP.dmul a b) (FP.Core.zmag FP.Core.b64 (FP.Core.val64 a) * FP.Core.zmag FP.Core.b64 (FP.Core.val64 b)) own_M := by
  obtain ⟨s, c, q, e1, f1⟩ := own_fin ha
  obtain ⟨t, d, r, e2, f2⟩ := own_fin hb
  obtain ⟨hp, he, hu⟩ := FP.Core.product_units f1 f2
  refine ⟨c * d, 1, q + r, 2 * FP.Core.b64.qmin, by decide, by decide, he, ?_, ?_, ?_⟩
  · show FP.Core.val64 (FP.Core.dmul a b) = _
    rw [FP.Core.val64_dmul, e1, e2, hp]
    rfl
  · rw [e1, e2]; exact hu
  · rw [own_2qmin, Nat.mul_one]; rfl
theorem own_Rd_add {a b : UInt64} (ha : Fin64 a) (hb : Fin64 b) : ∃ s, own_Rd s (FP.dadd a b) (own_z a + own_z b).natAbs 1 ∧ (0 < own_z a + own_z b → s = false) := by
  obtain ⟨s, c, q, e1, f1⟩ := own_fin ha
  obtain ⟨t, d, r, e2, f2⟩ := own_fin hb
  obtain ⟨sg, n, e, hs, he, hu⟩ := FP.Core.sum_units f1 f2
  have hz : own_z a + own_z b = FP.Core.signed sg (FP.Core.inUnits n e FP.Core.b64.qmin) := by unfold own_z; rw [e1, e2, hu]
  refine ⟨sg, ⟨n, 1, e, FP.Core.b64.qmin, by decide, Int.le_refl _, he, ?_, ?_, ?_⟩, ?_⟩
  · show FP.Core.val64 (FP.Core.dadd a b) = _
    rw [FP.Core.val64_dadd, e1, e2, hs]
    rfl
  · rw [hz]; cases sg <;> simp [FP.Core.signed]
  · rw [Int.sub_self]; rfl
  · rw [hz]; cases sg <;> simp [FP.Core.signed] <;> omega
/-- 1.0 as a double -/
abbrev own_one : UInt64 := 4607182418800017408
theorem own_one_int : FP.Core.DInt 1 own_one := by
  have h := FP.Core.l2d_whole (a := 1) (by unfold FP.Core.Small53; decide)
  have e : FP.Core.l2d 1 = own_one := by decide +kernel
  rw [e] at h
  exact h
theorem own_one_fin : Fin64 own_one := by unfold Fin64; decide
theorem own_l2d {x : Int64} (h1 : -9007199254740992 < x.toInt) (h2 : x.toInt < 9007199254740992) : FP.Core.DInt x.toInt (FP.l2d x) := FP.Core.l2d_whole ⟨h1, h2⟩
theorem own_M_big : 2 ^ 52 * 2147483648 ≤ own_M := by
  have : own_M = 2 ^ 83 * 2 ^ 991 := by unfold own_M; rw [← Nat.pow_add]
  rw [this]
  exact Nat.le_trans (by decide : 2 ^ 52 * 2147483648 ≤ 2 ^ 83 * 1) (Nat.mul_le_mul_left _ (Nat.two_pow_pos _))
theorem own_zmag_of {a : UInt64} {i : Nat} (h : own_z a = (i : Int)) (hi : 0 < i) : FP.Core.zmag FP.Core.b64 (FP.Core.val64 a) = i := by
  have := own_zmag (own_sgn_pos (a := a) (by rw [h]; omega))
  omega
/-- 1.0 / n, for n from 1 to 2^31: a number whose product with n is 1 but for 2^-53 -/
theorem own_inv {n : Int64} {k : Nat} (hk : n.toInt = (k : Int)) (h1 : 1 ≤ k) (h2 : k ≤ 2147483648) :
    ∃ z : Nat, NoNaN64 (FP.ddiv own_one (FP.l2d n)) ∧ own_z (FP.ddiv own_one (FP.l2d n)) = (z : Int) ∧ 2 ^ 53 * own_M ≤ 2 ^ 53 * (z * k) + own_M ∧ 2 ^ 53 * (z * k) ≤ 2 ^ 53 * own_M + own_M := by
  have zb : own_z (FP.l2d n) = ((k * own_M : Nat) : Int) := by
    rw [own_zint (own_l2d (by omega) (by omega)), hk, Int.natCast_mul]
  have za : own_z own_one = ((own_M : Nat) : Int) := by rw [own_zint own_one_int, Int.one_mul]
  have mp := own_M_pos
  have kp : 0 < k * own_M := Nat.mul_pos h1 mp
  have ma := own_zmag_of za mp
  have mb := own_zmag_of zb kp
  have H := own_Rd_div own_one_fin (l2d_fin n) (by rw [mb]; omega)
  have sa := own_sgn_pos (a := own_one) (by rw [za]; omega)
  have sb := own_sgn_pos (a := FP.l2d n) (by rw [zb]; omega)
  rw [ma, mb, sa, sb] at H
  have H : own_Rd false (FP.ddiv own_one (FP.l2d n)) (own_M * own_M) (k * own_M) := H
  have le1 := own_Rd_le H own_one_fin.noNaN (by
    rw [ma]
    exact Nat.mul_le_mul_left _ (Nat.le_mul_of_pos_left _ h1))
  have fin := own_fin_le (own_Rd_nn H) own_one_fin le1
  have big := own_M_big
  obtain ⟨r1, r2⟩ := own_Rd_rel H fin (by
    rw [← Nat.mul_assoc]
    exact Nat.mul_le_mul_right _ (Nat.le_trans (Nat.mul_le_mul_left _ h2) big))
  refine ⟨_, own_Rd_nn H, own_Rd_z H, ?_, ?_⟩
  · refine Nat.le_of_mul_le_mul_right (c := own_M) ?_ mp
    rw [Nat.add_mul, Nat.mul_assoc, Nat.mul_assoc, Nat.mul_assoc]
    exact r1
  · refine Nat.le_of_mul_le_mul_right (c := own_M) ?_ mp
    rw [Nat.add_mul, Nat.mul_assoc, Nat.mul_assoc, Nat.mul_assoc]
    exact r2
/-- the smaller divisor has the greater quotient, strictly -/
theorem own_anti {z w k j M : Nat} (h1 : 2 ^ 53 * M ≤ 2 ^ 53 * (z * k) + M) (h2 : 2 ^ 53 * (w * j) ≤ 2 ^ 53 * M + M) (hM : 0 < M) (hk : k < j) (hj : j ≤ 2147483648) : w < z := by
  refine Nat.lt_of_not_le fun hzw => ?_
  have a1 : z * k * j ≤ w * j * k := by
    rw [Nat.mul_right_comm]
    exact Nat.mul_le_mul_right _ (Nat.mul_le_mul_right _ hzw)
  have b1 : (2 ^ 53 - 1) * M ≤ 2 ^ 53 * (z * k) := by rw [Nat.sub_mul]; omega
  have b2 : 2 ^ 53 * (w * j) ≤ (2 ^ 53 + 1) * M := by rw [Nat.add_mul]; omega
  have c1 := Nat.mul_le_mul_right j b1
  have c2 := Nat.mul_le_mul_right k b2
  rw [Nat.mul_assoc (2 ^ 53)] at c1 c2
  have d1 : (2 ^ 53 - 1) * M * j ≤ (2 ^ 53 + 1) * M * k := Nat.le_trans c1 (Nat.le_trans (Nat.mul_le_mul_left _ a1) c2)
  rw [Nat.mul_right_comm, Nat.mul_right_comm (2 ^ 53 + 1)] at d1
  have e1 := Nat.le_of_mul_le_mul_right d1 hM
  omega
theorem own_inv_cmp {n m : Int64} (h1 : 1 ≤ n.toInt) (h2 : n.toInt ≤ 2147483648) (h3 : 1 ≤ m.toInt) (h4 : m.toInt ≤ 2147483648) :
    FP.dcmp (FP.ddiv own_one (FP.l2d n)) (FP.ddiv own_one (FP.l2d m)) = some (compare m.toInt n.toInt) := by
  obtain ⟨k, hk⟩ := Int.eq_ofNat_of_zero_le (show 0 ≤ n.toInt by omega)
  obtain ⟨j, hj⟩ := Int.eq_ofNat_of_zero_le (show 0 ≤ m.toInt by omega)
  obtain ⟨z, nz, ez, z1, z2⟩ := own_inv hk (by omega) (by omega)
  obtain ⟨w, nw, ew, w1, w2⟩ := own_inv hj (by omega) (by omega)
  rw [own_zcmp nz nw, ez, ew, hk, hj]
  have e : ∀ a b : Int, compare a b = if a < b then .lt else if a = b then .eq else .gt := fun _ _ => rfl
  rw [e, e]
  rcases Nat.lt_trichotomy k j with h | h | h
  · have q := own_anti z1 w2 own_M_pos h (by omega)
    rw [if_neg (by omega), if_neg (by omega), if_neg (by omega), if_neg (by omega)]
  · subst h
    have hnm : n = m := Int64.toInt_inj.mp (by rw [hk, hj])
    subst hnm
    have hzw : z = w := by omega
    subst hzw
    simp
  · have q := own_anti w1 z2 own_M_pos h (by omega)
    rw [if_pos (by omega), if_pos (by omega)]
theorem own_inv_one : FP.ddiv own_one (FP.l2d 1) = own_one := by decide +kernel
/-- what Proximity.of returns -/
def own_of (d : Int32) : UInt64 := if d = (-1 : Int32) then 0 else FP.ddiv own_one (FP.l2d (1 + d.toInt64))
theorem own_add1 (d : Int32) : FP.dadd own_one (FP.i2d d) = FP.l2d (1 + d.toInt64) := by
  have e : own_one = FP.l2d 1 := by decide +kernel
  have r := rng32 d
  rw [e, i2d_w]
  exact dadd_w ⟨by decide, by decide⟩ ⟨by rw [c_i2l]; omega, by rw [c_i2l]; omega⟩
theorem own_succ (d : Int32) : (1 + d.toInt64 : Int64).toInt = 1 + d.toInt := by
  have q := c_ladd 1 d.toInt64
  have r := rng64 (1 + d.toInt64)
  have s := rng32 d
  rw [c_i2l] at q
  have o : (1 : Int64).toInt = 1 := rfl
  omega
theorem own_nnq (d : Int32) (h : ¬ d < 0) : NoNaN64 (FP.ddiv own_one (FP.l2d (1 + d.toInt64))) := by
  rw [Int32.lt_iff_toInt_lt] at h
  have s := rng32 d
  have o : (0 : Int32).toInt = 0 := rfl
  obtain ⟨k, hk⟩ := Int.eq_ofNat_of_zero_le (show 0 ≤ (1 + d.toInt64 : Int64).toInt by rw [own_succ]; omega)
  have t := own_succ d
  exact (own_inv hk (by omega) (by omega)).choose_spec.1
/-- ALL THAT THE LAW ASKS -/
theorem own_law {d e : Int32} (hd : ¬ d < 0) (he : ¬ e < 0) :
    (0 : Int32) < cmpValue (FP.dcmp (own_of d) 0) .l ∧ ¬ (0 : Int32) < cmpValue (FP.dcmp (own_of d) own_one) .g ∧ cmpValue (FP.dcmp 0 (own_of d)) .g < (0 : Int32) ∧ (d < e ↔ (0 : Int32) < cmpValue (FP.dcmp (own_of d) (own_of e)) .l) ∧ (d = e ↔ cmpValue (FP.dcmp (own_of d) (own_of e)) .l = (0 : Int32)) ∧
    own_of d = FP.ddiv own_one (FP.l2d (d.toInt64 + 1)) ∧ NoNaN64 (own_of d) := by
  have hd' := hd
  have he' := he
  rw [Int32.lt_iff_toInt_lt] at hd' he'
  have o : (0 : Int32).toInt = 0 := rfl
  have sd := rng32 d
  have se := rng32 e
  have td := own_succ d
  have te := own_succ e
  have nd : ¬ d = -1 := by rintro rfl; exact hd (by decide)
  have ne : ¬ e = -1 := by rintro rfl; exact he (by decide)
  have ed : own_of d = FP.ddiv own_one (FP.l2d (1 + d.toInt64)) := if_neg nd
  have ee : own_of e = FP.ddiv own_one (FP.l2d (1 + e.toInt64)) := if_neg ne
  have nn : NoNaN64 (own_of d) := by rw [ed]; exact own_nnq d hd
  obtain ⟨k, hk⟩ := Int.eq_ofNat_of_zero_le (show 0 ≤ (1 + d.toInt64 : Int64).toInt by omega)
  obtain ⟨z, nz, ez, z1, z2⟩ := own_inv hk (by omega) (by omega)
  have zp : 0 < z := by
    have mp := own_M_pos
    refine Nat.pos_of_ne_zero ?_
    rintro rfl
    rw [Nat.zero_mul] at z1
    omega
  have n0 : NoNaN64 0 := by unfold NoNaN64; decide
  have z0 : own_z 0 = 0 := FP.Core.zval64_zero
  have cmpdef : ∀ a b : Int, compare a b = if a < b then .lt else if a = b then .eq else .gt := fun _ _ => rfl
  have c0 : FP.dcmp (own_of d) 0 = some .gt := by
    rw [own_zcmp nn n0, z0, ed, ez, cmpdef, if_neg (by omega), if_neg (by omega)]
  have c0' : FP.dcmp 0 (own_of d) = some .lt := by
    rw [own_zcmp n0 nn, z0, ed, ez, cmpdef, if_pos (by omega)]
  have c1 : FP.dcmp (own_of d) own_one = some (compare 1 (1 + d.toInt64 : Int64).toInt) := by
    have q := own_inv_cmp (n := 1 + d.toInt64) (m := 1) (by omega) (by omega) (by decide) (by decide)
    rw [own_inv_one] at q
    rw [ed]; exact q
  have cc : FP.dcmp (own_of d) (own_of e) = some (compare (1 + e.toInt64 : Int64).toInt (1 + d.toInt64 : Int64).toInt) := by
    rw [ed, ee]; exact own_inv_cmp (by omega) (by omega) (by omega) (by omega)
  refine ⟨by rw [c0]; decide, ?_, by rw [c0']; decide, ?_, ?_, by rw [ed, Int64.add_comm], nn⟩
  · rw [c1, cmpdef]
    split
    · decide
    · split
      · decide
      · omega
  · rw [cc, cmpdef, Int32.lt_iff_toInt_lt]
    by_cases g1 : (1 + e.toInt64 : Int64).toInt < (1 + d.toInt64 : Int64).toInt
    · rw [if_pos g1]
      constructor
      · intro; omega
      · intro q; exact absurd q (by decide)
    · by_cases g2 : (1 + e.toInt64 : Int64).toInt = (1 + d.toInt64 : Int64).toInt
      · rw [if_neg g1, if_pos g2]
        constructor
        · intro; omega
        · intro q; exact absurd q (by decide)
      · rw [if_neg g1, if_neg g2]
        constructor
        · intro; decide
        · intro; omega
  · rw [cc, cmpdef, ← Int32.toInt_inj]
    by_cases g1 : (1 + e.toInt64 : Int64).toInt < (1 + d.toInt64 : Int64).toInt
    · rw [if_pos g1]
      constructor
      · intro; omega
      · intro q; exact absurd q (by decide)
    · by_cases g2 : (1 + e.toInt64 : Int64).toInt = (1 + d.toInt64 : Int64).toInt
      · rw [if_neg g1, if_pos g2]
        constructor
        · intro; decide
        · intro; omega
      · rw [if_neg g1, if_neg g2]
        constructor
        · intro; omega
        · intro q; exact absurd q (by decide)
theorem own_mask (p : Int32) : ¬ (p &&& (2147483647 : Int32)) < 0 := by
  have h := c_and p 2147483647 (by decide)
  rw [Int32.lt_iff_toInt_lt]
  have o : (0 : Int32).toInt = 0 := rfl
  omega
theorem ef_1 (m : MethodId) (x0 : Int32) : entryFrame m #[(.int x0)] 3 = mkF m 0 #[.val (.int x0), .unset, .unset] [] := by first | (simp [entryFrame, mkF, argsToLocals, Value.category]; done) | rfl
theorem pn_com_example_near_rank_nearrank_Proximity : plainName "com/example/near_rank/nearrank/Proximity" = true := by first | (simp [plainName, overriddenIn]; done) | decide +kernel
theorem d1_0 : decode prog_24_method_2_code 0 = .ok (.iload_n 0, 1) := by decide +kernel
theorem d1_1 : decode prog_24_method_2_code 1 = .ok (.ifCond .ge 22, 3) := by decide +kernel
theorem d1_4 : decode prog_24_method_2_code 4 = .ok (.iload_n 0, 1) := by decide +kernel
theorem d1_5 : decode prog_24_method_2_code 5 = .ok (.iconst (-1), 1) := by decide +kernel
theorem d1_6 : decode prog_24_method_2_code 6 = .ok (.if_icmp .eq 17, 3) := by decide +kernel
theorem d1_23 : decode prog_24_method_2_code 23 = .ok (.iload_n 0, 1) := by decide +kernel
theorem d1_24 : decode prog_24_method_2_code 24 = .ok (.iconst (-1), 1) := by decide +kernel
theorem d1_25 : decode prog_24_method_2_code 25 = .ok (.if_icmp .ne 8, 3) := by decide +kernel
theorem d1_28 : decode prog_24_method_2_code 28 = .ok (.dconst 0, 1) := by decide +kernel
theorem d1_29 : decode prog_24_method_2_code 29 = .ok (.dstore_n 1, 1) := by decide +kernel
theorem d1_30 : decode prog_24_method_2_code 30 = .ok (.goto 10, 3) := by decide +kernel
theorem d1_40 : decode prog_24_method_2_code 40 = .ok (.dload_n 1, 1) := by decide +kernel
theorem d1_41 : decode prog_24_method_2_code 41 = .ok (.dreturn, 1) := by decide +kernel
theorem d1_33 : decode prog_24_method_2_code 33 = .ok (.dconst 1, 1) := by decide +kernel
theorem d1_34 : decode prog_24_method_2_code 34 = .ok (.dconst 1, 1) := by decide +kernel
theorem d1_35 : decode prog_24_method_2_code 35 = .ok (.iload_n 0, 1) := by decide +kernel
theorem d1_36 : decode prog_24_method_2_code 36 = .ok (.i2d, 1) := by decide +kernel
theorem d1_37 : decode prog_24_method_2_code 37 = .ok (.dadd, 1) := by decide +kernel
theorem d1_38 : decode prog_24_method_2_code 38 = .ok (.ddiv, 1) := by decide +kernel
theorem d1_39 : decode prog_24_method_2_code 39 = .ok (.dstore_n 1, 1) := by decide +kernel
theorem ef_0 (m : MethodId) (x0 : Int32) (x1 : Int32) : entryFrame m #[(.int x0), (.int x1)] maxLocals = mkF m 0 #[.val (.int x0), .val (.int x1), .unset, .unset, .unset, .unset, .unset, .unset, .unset, .unset, .unset, .unset, .unset, .unset, .unset] [] := by first | (simp [entryFrame, mkF, argsToLocals, Value.category, maxLocals]; done) | rfl
theorem pn_com_example_near_rank_nearrank_ProximityOfPinLaw : plainName "com/example/near_rank/nearrank/ProximityOfPinLaw" = true := by first | (simp [plainName, overriddenIn]; done) | decide +kernel
theorem pd__28I_29D : parseMethodDescriptor "(I)D" = some ⟨[.int], some .double⟩ := by decide +kernel
def Q1 (Z : State) (p1 : Int32) (h0 : Heap) (n0 : Nat) (v : Option Value) (h : Heap) (L : List Loc) : Prop := v = some (.double (own_of p1)) ∧ Fr n0 L ∧ h = h0
set_option maxRecDepth 65536 in
set_option maxHeartbeats 40000000 in
theorem rm1 (l : Launch) (Z : State) (a0 : Array Value) (hw : ∀ d ∈ tables_1, d.before a0 Z = true) (ws : List Jvm.Cond) (p1 : Int32)  (h0 : Heap) (n0 : Nat) (Z0 : n0 ≤ h0.size) (hp : ¬ p1 < (0 : Int32) ∨ p1 = (-1 : Int32)) :
    MetFree l (⟨"com/example/near_rank/nearrank/Proximity", "of", "(I)D"⟩ : MethodName) (head1 (Jvm.Cond.code (⟨"com/example/near_rank/nearrank/Proximity", "of", "(I)D"⟩ : MethodName) prog_24_method_2_code 3 (some .double) :: ws) ({ frames := 0, cells := 0, slots := 0, locals := 0 } : Room)) (fun a U => a = #[(.int p1)] ∧ Z.Warmed39 U.vm ∧ U.heap = h0) (fun _ _ _ _ _ => True) (fun _ U o U' => ∃ v L, o = .returned v ∧ Q1 Z p1 h0 n0 v U'.heap L ∧ FrameEnd U o U' L ({ frames := 0, cells := 0, slots := 0, locals := 0 } : Room).cells ({ frames := 0, cells := 0, slots := 0, locals := 0 } : Room).slots) := by
  refine MetFree.of_bodySF (plainFor_of_name pn_com_example_near_rank_nearrank_Proximity) hisR ?_
  intro p e s m args below meth c s₁ Bd hml0 hP hK
  obtain ⟨rfl, hZ, hh⟩ := hP
  have hx := Bd.exec
  have hby := Bd.bytes
  have hml : c.maxLocals = 3 := hml0
  have hown : s.vm.findClass "com/example/near_rank/nearrank/Proximity" = some m.cls := findClass_of_methodNamed Bd.named
  have hnm := (name_of_methodNamed Bd.named Bd.method).1
  have X0 : Stand p l e ({ frames := 0, cells := 0, slots := 0, locals := 0 } : Room) s m #[(.int p1)] below meth c s₁ [] 0 0 := Stand.of_body Bd
  have e0 : s₁.heap = h0 := by rw [← hh, Bd.state]; rfl
  have N0 := Fr.nil n0
  refine own_open (fun G go fin => ?_)
  refine go (s₁.setTop (mkF m 0 #[.val (.int p1), .unset, .unset] [])) _ (fun t9 k9 => castTop (ef_1 m p1) k9) ?_
  refine go (s₁.setTop (mkF m 23 #[.val (.int p1), .unset, .unset] [])) _ (fun t9 k9 => ?_) ?_
  · rcases hp with hp | hp
    · show Steps p.tables e below (s₁.setTop (mkF m 0 #[.val (.int p1), .unset, .unset] [])) _
      refine XS.iloadN X0.here hx rfl (hb hby d1_0) rfl ?_
      show Steps p.tables e below (s₁.setTop (mkF m 1 #[.val (.int p1), .unset, .unset] [(.int p1)])) _
      refine XS.ifYes X0.here hx rfl (pc0 := 1) (pc' := 23) rfl (hb hby d1_1) rfl ((if0 _ _).trans (flt hp).2.1) (by decide) (by decide) ?_
      exact k9
    · show Steps p.tables e below (s₁.setTop (mkF m 0 #[.val (.int p1), .unset, .unset] [])) _
      refine XS.iloadN X0.here hx rfl (hb hby d1_0) rfl ?_
      show Steps p.tables e below (s₁.setTop (mkF m 1 #[.val (.int p1), .unset, .unset] [(.int p1)])) _
      refine XS.ifNo X0.here hx rfl (hb hby d1_1) rfl ((if0 _ _).trans (tlt (by rw [hp]; decide : p1 < (0 : Int32))).2.1) ?_
      show Steps p.tables e below (s₁.setTop (mkF m 4 #[.val (.int p1), .unset, .unset] [])) _
      refine XS.iloadN X0.here hx rfl (hb hby d1_4) rfl ?_
      show Steps p.tables e below (s₁.setTop (mkF m 5 #[.val (.int p1), .unset, .unset] [(.int p1)])) _
      refine XS.iconst X0.here hx rfl (hb hby d1_5) ?_
      show Steps p.tables e below (s₁.setTop (mkF m 6 #[.val (.int p1), .unset, .unset] [(.int (-1 : Int32)), (.int p1)])) _
      refine XS.icmpYes X0.here hx rfl (pc0 := 6) (pc' := 23) rfl (hb hby d1_6) rfl (teq hp).1 (by decide) (by decide) ?_
      exact k9
  refine go (s₁.setTop (mkF m 25 #[.val (.int p1), .unset, .unset] [(.int (-1 : Int32)), (.int p1)])) _ (fun t9 k9 => ?_) ?_
  · show Steps p.tables e below (s₁.setTop (mkF m 23 #[.val (.int p1), .unset, .unset] [])) _
    refine XS.iloadN X0.here hx rfl (hb hby d1_23) rfl ?_
    show Steps p.tables e below (s₁.setTop (mkF m 24 #[.val (.int p1), .unset, .unset] [(.int p1)])) _
    refine XS.iconst X0.here hx rfl (hb hby d1_24) ?_
    exact k9
  by_cases h25 : p1 = (-1 : Int32)
  · refine go (s₁.setTop (mkF m 41 #[.val (.int p1), .val (.double (0 : UInt64)), .second] [(.double (0 : UInt64))])) _ (fun t9 k9 => ?_) ?_
    · show Steps p.tables e below (s₁.setTop (mkF m 25 #[.val (.int p1), .unset, .unset] [(.int (-1 : Int32)), (.int p1)])) _
      refine XS.icmpNo X0.here hx rfl (hb hby d1_25) rfl (teq h25).2 ?_
      show Steps p.tables e below (s₁.setTop (mkF m 28 #[.val (.int p1), .unset, .unset] [])) _
      refine XS.dconst0 X0.here hx rfl (hb hby d1_28) rfl ?_
      show Steps p.tables e below (s₁.setTop (mkF m 29 #[.val (.int p1), .unset, .unset] [(.double (0 : UInt64))])) _
      refine XS.dstoreN X0.here hx rfl (hb hby d1_29) rfl (l' := #[.val (.int p1), .val (.double (0 : UInt64)), .second]) rfl ?_
      show Steps p.tables e below (s₁.setTop (mkF m 30 #[.val (.int p1), .val (.double (0 : UInt64)), .second] [])) _
      refine XS.goto X0.here hx rfl (pc0 := 30) (pc' := 40) rfl (hb hby d1_30) (by decide) (by decide) ?_
      show Steps p.tables e below (s₁.setTop (mkF m 40 #[.val (.int p1), .val (.double (0 : UInt64)), .second] [])) _
      refine XS.dloadN X0.here hx rfl (hb hby d1_40) rfl ?_
      exact k9
    obtain ⟨fs, hr, hrun, hended, hW, hsame⟩ := X0.leave (v := some (.double (0 : UInt64))) (fun h => by rw [Bd.returns] at h; cases h)
    refine fin _ ⟨_, _, retOut X0 hx (t := .double) Bd.returns rfl (Or.inr (Or.inr (Or.inl ⟨rfl, rfl, _, rfl⟩))) (hb hby d1_41) hr, hrun, hended, _, _, rfl, ?_, ⟨_, rfl⟩, hW, hsame.mono (by decide) (by decide)⟩
    show Q1 Z p1 h0 n0 _ s₁.heap _
    rw [e0]
    exact ⟨by rw [own_of, if_pos h25], N0, rfl⟩
  · have hge : ¬ p1 < (0 : Int32) := hp.elim id (fun q => absurd q h25)
    refine go (s₁.setTop (mkF m 41 #[.val (.int p1), .val (.double (FP.ddiv (4607182418800017408 : UInt64) (FP.l2d (1 + p1.toInt64)))), .second] [(.double (FP.ddiv (4607182418800017408 : UInt64) (FP.l2d (1 + p1.toInt64))))])) _ (fun t9 k9 => ?_) ?_
    · show Steps p.tables e below (s₁.setTop (mkF m 25 #[.val (.int p1), .unset, .unset] [(.int (-1 : Int32)), (.int p1)])) _
      refine XS.icmpYes X0.here hx rfl (pc0 := 25) (pc' := 33) rfl (hb hby d1_25) rfl (feq h25).2 (by decide) (by decide) ?_
      show Steps p.tables e below (s₁.setTop (mkF m 33 #[.val (.int p1), .unset, .unset] [])) _
      refine XS.dconst1 X0.here hx rfl (hb hby d1_33) rfl ?_
      show Steps p.tables e below (s₁.setTop (mkF m 34 #[.val (.int p1), .unset, .unset] [(.double (4607182418800017408 : UInt64))])) _
      refine XS.dconst1 X0.here hx rfl (hb hby d1_34) rfl ?_
      show Steps p.tables e below (s₁.setTop (mkF m 35 #[.val (.int p1), .unset, .unset] [(.double (4607182418800017408 : UInt64)), (.double (4607182418800017408 : UInt64))])) _
      refine XS.iloadN X0.here hx rfl (hb hby d1_35) rfl ?_
      show Steps p.tables e below (s₁.setTop (mkF m 36 #[.val (.int p1), .unset, .unset] [(.int p1), (.double (4607182418800017408 : UInt64)), (.double (4607182418800017408 : UInt64))])) _
      refine XS.i2dS X0.here hx rfl (hb hby d1_36) rfl rfl ?_
      show Steps p.tables e below (s₁.setTop (mkF m 37 #[.val (.int p1), .unset, .unset] [(.double (FP.i2d p1)), (.double (4607182418800017408 : UInt64)), (.double (4607182418800017408 : UInt64))])) _
      refine XS.daddS X0.here hx rfl (hb hby d1_37) rfl (nn_w (own_add1 p1)) (own_add1 p1) ?_
      show Steps p.tables e below (s₁.setTop (mkF m 38 #[.val (.int p1), .unset, .unset] [(.double (FP.l2d (1 + p1.toInt64))), (.double (4607182418800017408 : UInt64))])) _
      refine XS.ddivS X0.here hx rfl (hb hby d1_38) rfl (own_nnq p1 hge) rfl ?_
      show Steps p.tables e below (s₁.setTop (mkF m 39 #[.val (.int p1), .unset, .unset] [(.double (FP.ddiv (4607182418800017408 : UInt64) (FP.l2d (1 + p1.toInt64))))])) _
      refine XS.dstoreN X0.here hx rfl (hb hby d1_39) rfl (l' := #[.val (.int p1), .val (.double (FP.ddiv (4607182418800017408 : UInt64) (FP.l2d (1 + p1.toInt64)))), .second]) rfl ?_
      show Steps p.tables e below (s₁.setTop (mkF m 40 #[.val (.int p1), .val (.double (FP.ddiv (4607182418800017408 : UInt64) (FP.l2d (1 + p1.toInt64)))), .second] [])) _
      refine XS.dloadN X0.here hx rfl (hb hby d1_40) rfl ?_
      exact k9
    obtain ⟨fs, hr, hrun, hended, hW, hsame⟩ := X0.leave (v := some (.double (FP.ddiv (4607182418800017408 : UInt64) (FP.l2d (1 + p1.toInt64))))) (fun h => by rw [Bd.returns] at h; cases h)
    refine fin _ ⟨_, _, retOut X0 hx (t := .double) Bd.returns rfl (Or.inr (Or.inr (Or.inl ⟨rfl, rfl, _, rfl⟩))) (hb hby d1_41) hr, hrun, hended, _, _, rfl, ?_, ⟨_, rfl⟩, hW, hsame.mono (by decide) (by decide)⟩
    show Q1 Z p1 h0 n0 _ s₁.heap _
    rw [e0]
    exact ⟨by rw [own_of, if_neg h25], N0, rfl⟩
def Q0 (Z : State) (p1 p2 : Int32) (h0 : Heap) (n0 : Nat) (v : Option Value) (h : Heap) (L : List Loc) : Prop := v = some (.int 1) ∧ Fr n0 L
set_option maxRecDepth 65536 in
set_option maxHeartbeats 40000000 in
theorem rm0 (l : Launch) (Z : State) (a0 : Array Value) (hw : ∀ d ∈ tables_1, d.before a0 Z = true) (ws : List Jvm.Cond) (p1 : Int32) (p2 : Int32)  (h0 : Heap) (n0 : Nat) (Z0 : n0 ≤ h0.size)  :
    MetFree l x (head1 (Jvm.Cond.code x code maxLocals ret :: ws) room_1) (fun a U => a = #[(.int p1), (.int p2)] ∧ Z.Warmed39 U.vm ∧ U.heap = h0) (fun _ _ _ _ _ => True) (fun _ U o U' => ∃ v L, o = .returned v ∧ Q0 Z p1 p2 h0 n0 v U'.heap L ∧ FrameEnd U o U' L room_1.cells room_1.slots) := by
  refine MetFree.of_bodySF (plainFor_of_name pn_com_example_near_rank_nearrank_ProximityOfPinLaw) hisR ?_
  intro p e s m args below meth c s₁ Bd hml0 hP hK
  obtain ⟨rfl, hZ, hh⟩ := hP
  have hx := Bd.exec
  have hby := Bd.bytes
  have hml : c.maxLocals = 15 := hml0
  have hown : s.vm.findClass "com/example/near_rank/nearrank/ProximityOfPinLaw" = some m.cls := findClass_of_methodNamed Bd.named
  have hnm := (name_of_methodNamed Bd.named Bd.method).1
  have X0 : Stand p l e room_1 s m #[(.int p1), (.int p2)] below meth c s₁ [] 0 0 := Stand.of_body Bd
  have e0 : s₁.heap = h0 := by rw [← hh, Bd.state]; rfl
  have N0 := Fr.nil n0
  refine own_open (fun G go fin => ?_)
  refine go (s₁.setTop (mkF m 0 #[.val (.int p1), .val (.int p2), .unset, .unset, .unset, .unset, .unset, .unset, .unset, .unset, .unset, .unset, .unset, .unset, .unset] [])) _ (fun t9 k9 => castTop (ef_0 m p1 p2) k9) ?_
  refine go (s₁.setTop (mkF m 11 #[.val (.int p1), .val (.int p2), .val (.int (p1 &&& (2147483647 : Int32))), .val (.int (p2 &&& (2147483647 : Int32))), .unset, .unset, .unset, .unset, .unset, .unset, .unset, .unset, .unset, .unset, .unset] [(.int (p1 &&& (2147483647 : Int32)))])) _ (fun t9 k9 => ?_) ?_
  · show Steps p.tables e below (s₁.setTop (mkF m 0 #[.val (.int p1), .val (.int p2), .unset, .unset, .unset, .unset, .unset, .unset, .unset, .unset, .unset, .unset, .unset, .unset, .unset] [])) _
    refine XS.iloadN X0.here hx rfl (hb hby at_0) rfl ?_
    show Steps p.tables e below (s₁.setTop (mkF m 1 #[.val (.int p1), .val (.int p2), .unset, .unset, .unset, .unset, .unset, .unset, .unset, .unset, .unset, .unset, .unset, .unset, .unset] [(.int p1)])) _
    refine X0.ldcInt hx hown (mvT hZ (hw _ (List.mem_of_getElem? (i := 0) rfl))) (g := (mkF m 1 #[.val (.int p1), .val (.int p2), .unset, .unset, .unset, .unset, .unset, .unset, .unset, .unset, .unset, .unset, .unset, .unset, .unset] [(.int p1)])) rfl (hb hby at_1) _ ?_
    show Steps p.tables e below (s₁.setTop (mkF m 3 #[.val (.int p1), .val (.int p2), .unset, .unset, .unset, .unset, .unset, .unset, .unset, .unset, .unset, .unset, .unset, .unset, .unset] [(.int (2147483647 : Int32)), (.int p1)])) _
    refine XS.iand X0.here hx rfl (hb hby at_3) rfl ?_
    show Steps p.tables e below (s₁.setTop (mkF m 4 #[.val (.int p1), .val (.int p2), .unset, .unset, .unset, .unset, .unset, .unset, .unset, .unset, .unset, .unset, .unset, .unset, .unset] [(.int (p1 &&& (2147483647 : Int32)))])) _
    refine XS.istoreN X0.here hx rfl (hb hby at_4) rfl (l' := #[.val (.int p1), .val (.int p2), .val (.int (p1 &&& (2147483647 : Int32))), .unset, .unset, .unset, .unset, .unset, .unset, .unset, .unset, .unset, .unset, .unset, .unset]) rfl ?_
    show Steps p.tables e below (s₁.setTop (mkF m 5 #[.val (.int p1), .val (.int p2), .val (.int (p1 &&& (2147483647 : Int32))), .unset, .unset, .unset, .unset, .unset, .unset, .unset, .unset, .unset, .unset, .unset, .unset] [])) _
    refine XS.iloadN X0.here hx rfl (hb hby at_5) rfl ?_
    show Steps p.tables e below (s₁.setTop (mkF m 6 #[.val (.int p1), .val (.int p2), .val (.int (p1 &&& (2147483647 : Int32))), .unset, .unset, .unset, .unset, .unset, .unset, .unset, .unset, .unset, .unset, .unset, .unset] [(.int p2)])) _
    refine X0.ldcInt hx hown (mvT hZ (hw _ (List.mem_of_getElem? (i := 0) rfl))) (g := (mkF m 6 #[.val (.int p1), .val (.int p2), .val (.int (p1 &&& (2147483647 : Int32))), .unset, .unset, .unset, .unset, .unset, .unset, .unset, .unset, .unset, .unset, .unset, .unset] [(.int p2)])) rfl (hb hby at_6) _ ?_
    show Steps p.tables e below (s₁.setTop (mkF m 8 #[.val (.int p1), .val (.int p2), .val (.int (p1 &&& (2147483647 : Int32))), .unset, .unset, .unset, .unset, .unset, .unset, .unset, .unset, .unset, .unset, .unset, .unset] [(.int (2147483647 : Int32)), (.int p2)])) _
    refine XS.iand X0.here hx rfl (hb hby at_8) rfl ?_
    show Steps p.tables e below (s₁.setTop (mkF m 9 #[.val (.int p1), .val (.int p2), .val (.int (p1 &&& (2147483647 : Int32))), .unset, .unset, .unset, .unset, .unset, .unset, .unset, .unset, .unset, .unset, .unset, .unset] [(.int (p2 &&& (2147483647 : Int32)))])) _
    refine XS.istoreN X0.here hx rfl (hb hby at_9) rfl (l' := #[.val (.int p1), .val (.int p2), .val (.int (p1 &&& (2147483647 : Int32))), .val (.int (p2 &&& (2147483647 : Int32))), .unset, .unset, .unset, .unset, .unset, .unset, .unset, .unset, .unset, .unset, .unset]) rfl ?_
    show Steps p.tables e below (s₁.setTop (mkF m 10 #[.val (.int p1), .val (.int p2), .val (.int (p1 &&& (2147483647 : Int32))), .val (.int (p2 &&& (2147483647 : Int32))), .unset, .unset, .unset, .unset, .unset, .unset, .unset, .unset, .unset, .unset, .unset] [])) _
    refine XS.iloadN X0.here hx rfl (hb hby at_10) rfl ?_
    exact k9
  have hd := own_mask p1
  have he := own_mask p2
  generalize (p1 &&& (2147483647 : Int32)) = d at *
  generalize (p2 &&& (2147483647 : Int32)) = e' at *
  obtain ⟨f1, f2, f3, f4, f5, f6, f7⟩ := own_law hd he
  obtain ⟨_, _, ⟨T1, L1, k1, n1⟩, -, X1, ⟨Lc1, hQ1, l1, y1, z1⟩, st1⟩ := Jvm.LawKit.callS X0 hx (y := (⟨"com/example/near_rank/nearrank/Proximity", "of", "(I)D"⟩ : MethodName)) hown (mvT hZ (hw _ (List.mem_of_getElem? (i := 1) rfl))) (mvT hZ (hw _ (List.mem_of_getElem? (i := 2) rfl))) (mvT hZ (hw _ (List.mem_of_getElem? (i := 3) rfl))) (mvT hZ (hw _ (List.mem_of_getElem? (i := 4) rfl))) (by decide) (backOf (W := 0) (rm1 l Z a0 hw [] d h0 n0 Z0 (Or.inl hd)) hZ (hw _ (List.mem_of_getElem? (i := 4) rfl)) (hw _ (List.mem_of_getElem? (i := 3) rfl)) (by decide) (by decide)) (g := (mkF m 11 #[.val (.int p1), .val (.int p2), .val (.int d), .val (.int e'), .unset, .unset, .unset, .unset, .unset, .unset, .unset, .unset, .unset, .unset, .unset] [(.int d)])) rfl (by rw [hml]; rfl) (argsL := [(.int d)]) (rest := []) (lenOf pd__28I_29D rfl) rfl (by show 2 * 0 + _ ≤ _; exact Nat.le_of_eq rfl) (hb hby at_11) (fun _ _ => ⟨rfl, e0, (by decide : 0 + 0 ≤ _), (by decide : 0 + 0 ≤ _)⟩)
  dsimp only [Pt.U, Pt.locs, Pt.cells, Pt.slots] at X1 l1 y1 z1 st1 hQ1
  subst l1 y1 z1
  obtain ⟨rfl, N1q, e1q⟩ := hQ1
  have N1 := Fr.app N0 N1q
  refine go (T1.setTop (mkF m 14 #[.val (.int p1), .val (.int p2), .val (.int d), .val (.int e'), .unset, .unset, .unset, .unset, .unset, .unset, .unset, .unset, .unset, .unset, .unset] [(.double (own_of d))])) _ (fun t9 k9 => st1 _ k9) ?_
  refine go (T1.setTop (mkF m 17 #[.val (.int p1), .val (.int p2), .val (.int d), .val (.int e'), .val (.double (own_of d)), .second, .unset, .unset, .unset, .unset, .unset, .unset, .unset, .unset, .unset] [(.int e')])) _ (fun t9 k9 => ?_) ?_
  · show Steps p.tables e below (T1.setTop (mkF m 14 #[.val (.int p1), .val (.int p2), .val (.int d), .val (.int e'), .unset, .unset, .unset, .unset, .unset, .unset, .unset, .unset, .unset, .unset, .unset] [(.double (own_of d))])) _
    refine XS.dstore X1.here hx rfl (hb hby at_14) rfl (l' := #[.val (.int p1), .val (.int p2), .val (.int d), .val (.int e'), .val (.double (own_of d)), .second, .unset, .unset, .unset, .unset, .unset, .unset, .unset, .unset, .unset]) rfl ?_
    show Steps p.tables e below (T1.setTop (mkF m 16 #[.val (.int p1), .val (.int p2), .val (.int d), .val (.int e'), .val (.double (own_of d)), .second, .unset, .unset, .unset, .unset, .unset, .unset, .unset, .unset, .unset] [])) _
    refine XS.iloadN X1.here hx rfl (hb hby at_16) rfl ?_
    exact k9
  obtain ⟨_, _, ⟨T2, L2, k2, n2⟩, -, X2, ⟨Lc2, hQ2, l2, y2, z2⟩, st2⟩ := Jvm.LawKit.callS X1 hx (y := (⟨"com/example/near_rank/nearrank/Proximity", "of", "(I)D"⟩ : MethodName)) hown (mvT hZ (hw _ (List.mem_of_getElem? (i := 1) rfl))) (mvT hZ (hw _ (List.mem_of_getElem? (i := 2) rfl))) (mvT hZ (hw _ (List.mem_of_getElem? (i := 3) rfl))) (mvT hZ (hw _ (List.mem_of_getElem? (i := 4) rfl))) (by decide) (backOf (W := 0) (rm1 l Z a0 hw [] e' h0 n0 Z0 (Or.inl he)) hZ (hw _ (List.mem_of_getElem? (i := 4) rfl)) (hw _ (List.mem_of_getElem? (i := 3) rfl)) (by decide) (by decide)) (g := (mkF m 17 #[.val (.int p1), .val (.int p2), .val (.int d), .val (.int e'), .val (.double (own_of d)), .second, .unset, .unset, .unset, .unset, .unset, .unset, .unset, .unset, .unset] [(.int e')])) rfl (by rw [hml]; rfl) (argsL := [(.int e')]) (rest := []) (lenOf pd__28I_29D rfl) rfl (by show 2 * 0 + _ ≤ _; exact Nat.le_of_eq rfl) (hb hby at_17) (fun _ _ => ⟨rfl, e1q, (by decide : 0 + 0 ≤ _), (by decide : 0 + 0 ≤ _)⟩)
  dsimp only [Pt.U, Pt.locs, Pt.cells, Pt.slots] at X2 l2 y2 z2 st2 hQ2
  subst l2 y2 z2
  obtain ⟨rfl, N2q, e2q⟩ := hQ2
  have N2 := Fr.app N1 N2q
  refine go (T2.setTop (mkF m 20 #[.val (.int p1), .val (.int p2), .val (.int d), .val (.int e'), .val (.double (own_of d)), .second, .unset, .unset, .unset, .unset, .unset, .unset, .unset, .unset, .unset] [(.double (own_of e'))])) _ (fun t9 k9 => st2 _ k9) ?_
  refine go (T2.setTop (mkF m 23 #[.val (.int p1), .val (.int p2), .val (.int d), .val (.int e'), .val (.double (own_of d)), .second, .val (.double (own_of e')), .second, .unset, .unset, .unset, .unset, .unset, .unset, .unset] [(.int (-1 : Int32))])) _ (fun t9 k9 => ?_) ?_
  · show Steps p.tables e below (T2.setTop (mkF m 20 #[.val (.int p1), .val (.int p2), .val (.int d), .val (.int e'), .val (.double (own_of d)), .second, .unset, .unset, .unset, .unset, .unset, .unset, .unset, .unset, .unset] [(.double (own_of e'))])) _
    refine XS.dstore X2.here hx rfl (hb hby at_20) rfl (l' := #[.val (.int p1), .val (.int p2), .val (.int d), .val (.int e'), .val (.double (own_of d)), .second, .val (.double (own_of e')), .second, .unset, .unset, .unset, .unset, .unset, .unset, .unset]) rfl ?_
    show Steps p.tables e below (T2.setTop (mkF m 22 #[.val (.int p1), .val (.int p2), .val (.int d), .val (.int e'), .val (.double (own_of d)), .second, .val (.double (own_of e')), .second, .unset, .unset, .unset, .unset, .unset, .unset, .unset] [])) _
    refine XS.iconst X2.here hx rfl (hb hby at_22) ?_
    exact k9
  obtain ⟨_, _, ⟨T3, L3, k3, n3⟩, -, X3, ⟨Lc3, hQ3, l3, y3, z3⟩, st3⟩ := Jvm.LawKit.callS X2 hx (y := (⟨"com/example/near_rank/nearrank/Proximity", "of", "(I)D"⟩ : MethodName)) hown (mvT hZ (hw _ (List.mem_of_getElem? (i := 1) rfl))) (mvT hZ (hw _ (List.mem_of_getElem? (i := 2) rfl))) (mvT hZ (hw _ (List.mem_of_getElem? (i := 3) rfl))) (mvT hZ (hw _ (List.mem_of_getElem? (i := 4) rfl))) (by decide) (backOf (W := 0) (rm1 l Z a0 hw [] (-1 : Int32) h0 n0 Z0 (Or.inr rfl)) hZ (hw _ (List.mem_of_getElem? (i := 4) rfl)) (hw _ (List.mem_of_getElem? (i := 3) rfl)) (by decide) (by decide)) (g := (mkF m 23 #[.val (.int p1), .val (.int p2), .val (.int d), .val (.int e'), .val (.double (own_of d)), .second, .val (.double (own_of e')), .second, .unset, .unset, .unset, .unset, .unset, .unset, .unset] [(.int (-1 : Int32))])) rfl (by rw [hml]; rfl) (argsL := [(.int (-1 : Int32))]) (rest := []) (lenOf pd__28I_29D rfl) rfl (by show 2 * 0 + _ ≤ _; exact Nat.le_of_eq rfl) (hb hby at_23) (fun _ _ => ⟨rfl, e2q, (by decide : 0 + 0 ≤ _), (by decide : 0 + 0 ≤ _)⟩)
  dsimp only [Pt.U, Pt.locs, Pt.cells, Pt.slots] at X3 l3 y3 z3 st3 hQ3
  subst l3 y3 z3
  obtain ⟨rfl, N3q, e3q⟩ := hQ3
  have N3 := Fr.app N2 N3q
  refine go (T3.setTop (mkF m 26 #[.val (.int p1), .val (.int p2), .val (.int d), .val (.int e'), .val (.double (own_of d)), .second, .val (.double (own_of e')), .second, .unset, .unset, .unset, .unset, .unset, .unset, .unset] [(.double (0 : UInt64))])) _ (fun t9 k9 => st3 _ k9) ?_
  refine go (T3.setTop (mkF m 126 #[.val (.int p1), .val (.int p2), .val (.int d), .val (.int e'), .val (.double (own_of d)), .second, .val (.double (own_of e')), .second, .val (.double (0 : UInt64)), .second, .val (.int (1 : Int32)), .val (.long ((d.toInt64) + (1 : Int64))), .second, .val (.double (FP.ddiv (4607182418800017408 : UInt64) (FP.l2d ((d.toInt64) + (1 : Int64))))), .second] [])) _ (fun t9 k9 => ?_) ?_
  · show Steps p.tables e below (T3.setTop (mkF m 26 #[.val (.int p1), .val (.int p2), .val (.int d), .val (.int e'), .val (.double (own_of d)), .second, .val (.double (own_of e')), .second, .unset, .unset, .unset, .unset, .unset, .unset, .unset] [(.double (0 : UInt64))])) _
    refine XS.dstore X3.here hx rfl (hb hby at_26) rfl (l' := #[.val (.int p1), .val (.int p2), .val (.int d), .val (.int e'), .val (.double (own_of d)), .second, .val (.double (own_of e')), .second, .val (.double (0 : UInt64)), .second, .unset, .unset, .unset, .unset, .unset]) rfl ?_
    show Steps p.tables e below (T3.setTop (mkF m 28 #[.val (.int p1), .val (.int p2), .val (.int d), .val (.int e'), .val (.double (own_of d)), .second, .val (.double (own_of e')), .second, .val (.double (0 : UInt64)), .second, .unset, .unset, .unset, .unset, .unset] [])) _
    refine XS.dload X3.here hx rfl (hb hby at_28) rfl ?_
    show Steps p.tables e below (T3.setTop (mkF m 30 #[.val (.int p1), .val (.int p2), .val (.int d), .val (.int e'), .val (.double (own_of d)), .second, .val (.double (own_of e')), .second, .val (.double (0 : UInt64)), .second, .unset, .unset, .unset, .unset, .unset] [(.double (0 : UInt64))])) _
    refine XS.dconst0 X3.here hx rfl (hb hby at_30) rfl ?_
    show Steps p.tables e below (T3.setTop (mkF m 31 #[.val (.int p1), .val (.int p2), .val (.int d), .val (.int e'), .val (.double (own_of d)), .second, .val (.double (own_of e')), .second, .val (.double (0 : UInt64)), .second, .unset, .unset, .unset, .unset, .unset] [(.double (0 : UInt64)), (.double (0 : UInt64))])) _
    refine XS.dcmpS X3.here hx rfl (hb hby at_31) rfl (by decide +kernel : cmpValue (FP.dcmp 0 0) .l = (0 : Int32)) ?_
    show Steps p.tables e below (T3.setTop (mkF m 32 #[.val (.int p1), .val (.int p2), .val (.int d), .val (.int e'), .val (.double (own_of d)), .second, .val (.double (own_of e')), .second, .val (.double (0 : UInt64)), .second, .unset, .unset, .unset, .unset, .unset] [(.int (0 : Int32))])) _
    refine XS.ifNo X3.here hx rfl (hb hby at_32) rfl ((if0 _ _).trans (teq (rfl : (0 : Int32) = (0 : Int32))).2) ?_
    show Steps p.tables e below (T3.setTop (mkF m 35 #[.val (.int p1), .val (.int p2), .val (.int d), .val (.int e'), .val (.double (own_of d)), .second, .val (.double (own_of e')), .second, .val (.double (0 : UInt64)), .second, .unset, .unset, .unset, .unset, .unset] [])) _
    refine XS.iconst X3.here hx rfl (hb hby at_35) ?_
    show Steps p.tables e below (T3.setTop (mkF m 36 #[.val (.int p1), .val (.int p2), .val (.int d), .val (.int e'), .val (.double (own_of d)), .second, .val (.double (own_of e')), .second, .val (.double (0 : UInt64)), .second, .unset, .unset, .unset, .unset, .unset] [(.int (1 : Int32))])) _
    refine XS.goto X3.here hx rfl (pc0 := 36) (pc' := 40) rfl (hb hby at_36) (by decide) (by decide) ?_
    show Steps p.tables e below (T3.setTop (mkF m 40 #[.val (.int p1), .val (.int p2), .val (.int d), .val (.int e'), .val (.double (own_of d)), .second, .val (.double (own_of e')), .second, .val (.double (0 : UInt64)), .second, .unset, .unset, .unset, .unset, .unset] [(.int (1 : Int32))])) _
    refine XS.istore X3.here hx rfl (hb hby at_40) rfl (l' := #[.val (.int p1), .val (.int p2), .val (.int d), .val (.int e'), .val (.double (own_of d)), .second, .val (.double (own_of e')), .second, .val (.double (0 : UInt64)), .second, .val (.int (1 : Int32)), .unset, .unset, .unset, .unset]) rfl ?_
    show Steps p.tables e below (T3.setTop (mkF m 42 #[.val (.int p1), .val (.int p2), .val (.int d), .val (.int e'), .val (.double (own_of d)), .second, .val (.double (own_of e')), .second, .val (.double (0 : UInt64)), .second, .val (.int (1 : Int32)), .unset, .unset, .unset, .unset] [])) _
    refine XS.iload X3.here hx rfl (hb hby at_42) rfl ?_
    show Steps p.tables e below (T3.setTop (mkF m 44 #[.val (.int p1), .val (.int p2), .val (.int d), .val (.int e'), .val (.double (own_of d)), .second, .val (.double (own_of e')), .second, .val (.double (0 : UInt64)), .second, .val (.int (1 : Int32)), .unset, .unset, .unset, .unset] [(.int (1 : Int32))])) _
    refine XS.ifNo X3.here hx rfl (hb hby at_44) rfl ((if0 _ _).trans (feq (by decide : ¬ (1 : Int32) = (0 : Int32))).1) ?_
    show Steps p.tables e below (T3.setTop (mkF m 47 #[.val (.int p1), .val (.int p2), .val (.int d), .val (.int e'), .val (.double (own_of d)), .second, .val (.double (own_of e')), .second, .val (.double (0 : UInt64)), .second, .val (.int (1 : Int32)), .unset, .unset, .unset, .unset] [])) _
    refine XS.dload X3.here hx rfl (hb hby at_47) rfl ?_
    show Steps p.tables e below (T3.setTop (mkF m 49 #[.val (.int p1), .val (.int p2), .val (.int d), .val (.int e'), .val (.double (own_of d)), .second, .val (.double (own_of e')), .second, .val (.double (0 : UInt64)), .second, .val (.int (1 : Int32)), .unset, .unset, .unset, .unset] [(.double (own_of d))])) _
    refine XS.dconst0 X3.here hx rfl (hb hby at_49) rfl ?_
    show Steps p.tables e below (T3.setTop (mkF m 50 #[.val (.int p1), .val (.int p2), .val (.int d), .val (.int e'), .val (.double (own_of d)), .second, .val (.double (own_of e')), .second, .val (.double (0 : UInt64)), .second, .val (.int (1 : Int32)), .unset, .unset, .unset, .unset] [(.double (0 : UInt64)), (.double (own_of d))])) _
    refine XS.dcmpS X3.here hx rfl (hb hby at_50) rfl rfl ?_
    show Steps p.tables e below (T3.setTop (mkF m 51 #[.val (.int p1), .val (.int p2), .val (.int d), .val (.int e'), .val (.double (own_of d)), .second, .val (.double (own_of e')), .second, .val (.double (0 : UInt64)), .second, .val (.int (1 : Int32)), .unset, .unset, .unset, .unset] [(.int (cmpValue (FP.dcmp (own_of d) (0 : UInt64)) .l))])) _
    refine XS.ifNo X3.here hx rfl (hb hby at_51) rfl ((if0 _ _).trans (tlt f1).2.2.2) ?_
    show Steps p.tables e below (T3.setTop (mkF m 54 #[.val (.int p1), .val (.int p2), .val (.int d), .val (.int e'), .val (.double (own_of d)), .second, .val (.double (own_of e')), .second, .val (.double (0 : UInt64)), .second, .val (.int (1 : Int32)), .unset, .unset, .unset, .unset] [])) _
    refine XS.dload X3.here hx rfl (hb hby at_54) rfl ?_
    show Steps p.tables e below (T3.setTop (mkF m 56 #[.val (.int p1), .val (.int p2), .val (.int d), .val (.int e'), .val (.double (own_of d)), .second, .val (.double (own_of e')), .second, .val (.double (0 : UInt64)), .second, .val (.int (1 : Int32)), .unset, .unset, .unset, .unset] [(.double (own_of d))])) _
    refine XS.dconst1 X3.here hx rfl (hb hby at_56) rfl ?_
    show Steps p.tables e below (T3.setTop (mkF m 57 #[.val (.int p1), .val (.int p2), .val (.int d), .val (.int e'), .val (.double (own_of d)), .second, .val (.double (own_of e')), .second, .val (.double (0 : UInt64)), .second, .val (.int (1 : Int32)), .unset, .unset, .unset, .unset] [(.double (4607182418800017408 : UInt64)), (.double (own_of d))])) _
    refine XS.dcmpS X3.here hx rfl (hb hby at_57) rfl rfl ?_
    show Steps p.tables e below (T3.setTop (mkF m 58 #[.val (.int p1), .val (.int p2), .val (.int d), .val (.int e'), .val (.double (own_of d)), .second, .val (.double (own_of e')), .second, .val (.double (0 : UInt64)), .second, .val (.int (1 : Int32)), .unset, .unset, .unset, .unset] [(.int (cmpValue (FP.dcmp (own_of d) (4607182418800017408 : UInt64)) .g))])) _
    refine XS.ifNo X3.here hx rfl (hb hby at_58) rfl ((if0 _ _).trans (flt f2).2.2.1) ?_
    show Steps p.tables e below (T3.setTop (mkF m 61 #[.val (.int p1), .val (.int p2), .val (.int d), .val (.int e'), .val (.double (own_of d)), .second, .val (.double (own_of e')), .second, .val (.double (0 : UInt64)), .second, .val (.int (1 : Int32)), .unset, .unset, .unset, .unset] [])) _
    refine XS.iconst X3.here hx rfl (hb hby at_61) ?_
    show Steps p.tables e below (T3.setTop (mkF m 62 #[.val (.int p1), .val (.int p2), .val (.int d), .val (.int e'), .val (.double (own_of d)), .second, .val (.double (own_of e')), .second, .val (.double (0 : UInt64)), .second, .val (.int (1 : Int32)), .unset, .unset, .unset, .unset] [(.int (1 : Int32))])) _
    refine XS.goto X3.here hx rfl (pc0 := 62) (pc' := 66) rfl (hb hby at_62) (by decide) (by decide) ?_
    show Steps p.tables e below (T3.setTop (mkF m 66 #[.val (.int p1), .val (.int p2), .val (.int d), .val (.int e'), .val (.double (own_of d)), .second, .val (.double (own_of e')), .second, .val (.double (0 : UInt64)), .second, .val (.int (1 : Int32)), .unset, .unset, .unset, .unset] [(.int (1 : Int32))])) _
    refine XS.istore X3.here hx rfl (hb hby at_66) rfl (l' := #[.val (.int p1), .val (.int p2), .val (.int d), .val (.int e'), .val (.double (own_of d)), .second, .val (.double (own_of e')), .second, .val (.double (0 : UInt64)), .second, .val (.int (1 : Int32)), .unset, .unset, .unset, .unset]) rfl ?_
    show Steps p.tables e below (T3.setTop (mkF m 68 #[.val (.int p1), .val (.int p2), .val (.int d), .val (.int e'), .val (.double (own_of d)), .second, .val (.double (own_of e')), .second, .val (.double (0 : UInt64)), .second, .val (.int (1 : Int32)), .unset, .unset, .unset, .unset] [])) _
    refine XS.iload X3.here hx rfl (hb hby at_68) rfl ?_
    show Steps p.tables e below (T3.setTop (mkF m 70 #[.val (.int p1), .val (.int p2), .val (.int d), .val (.int e'), .val (.double (own_of d)), .second, .val (.double (own_of e')), .second, .val (.double (0 : UInt64)), .second, .val (.int (1 : Int32)), .unset, .unset, .unset, .unset] [(.int (1 : Int32))])) _
    refine XS.ifNo X3.here hx rfl (hb hby at_70) rfl ((if0 _ _).trans (feq (by decide : ¬ (1 : Int32) = (0 : Int32))).1) ?_
    show Steps p.tables e below (T3.setTop (mkF m 73 #[.val (.int p1), .val (.int p2), .val (.int d), .val (.int e'), .val (.double (own_of d)), .second, .val (.double (own_of e')), .second, .val (.double (0 : UInt64)), .second, .val (.int (1 : Int32)), .unset, .unset, .unset, .unset] [])) _
    refine XS.dload X3.here hx rfl (hb hby at_73) rfl ?_
    show Steps p.tables e below (T3.setTop (mkF m 75 #[.val (.int p1), .val (.int p2), .val (.int d), .val (.int e'), .val (.double (own_of d)), .second, .val (.double (own_of e')), .second, .val (.double (0 : UInt64)), .second, .val (.int (1 : Int32)), .unset, .unset, .unset, .unset] [(.double (0 : UInt64))])) _
    refine XS.dload X3.here hx rfl (hb hby at_75) rfl ?_
    show Steps p.tables e below (T3.setTop (mkF m 77 #[.val (.int p1), .val (.int p2), .val (.int d), .val (.int e'), .val (.double (own_of d)), .second, .val (.double (own_of e')), .second, .val (.double (0 : UInt64)), .second, .val (.int (1 : Int32)), .unset, .unset, .unset, .unset] [(.double (own_of d)), (.double (0 : UInt64))])) _
    refine XS.dcmpS X3.here hx rfl (hb hby at_77) rfl rfl ?_
    show Steps p.tables e below (T3.setTop (mkF m 78 #[.val (.int p1), .val (.int p2), .val (.int d), .val (.int e'), .val (.double (own_of d)), .second, .val (.double (own_of e')), .second, .val (.double (0 : UInt64)), .second, .val (.int (1 : Int32)), .unset, .unset, .unset, .unset] [(.int (cmpValue (FP.dcmp (0 : UInt64) (own_of d)) .g))])) _
    refine XS.ifNo X3.here hx rfl (hb hby at_78) rfl ((if0 _ _).trans (tlt f3).2.1) ?_
    show Steps p.tables e below (T3.setTop (mkF m 81 #[.val (.int p1), .val (.int p2), .val (.int d), .val (.int e'), .val (.double (own_of d)), .second, .val (.double (own_of e')), .second, .val (.double (0 : UInt64)), .second, .val (.int (1 : Int32)), .unset, .unset, .unset, .unset] [])) _
    refine XS.iconst X3.here hx rfl (hb hby at_81) ?_
    show Steps p.tables e below (T3.setTop (mkF m 82 #[.val (.int p1), .val (.int p2), .val (.int d), .val (.int e'), .val (.double (own_of d)), .second, .val (.double (own_of e')), .second, .val (.double (0 : UInt64)), .second, .val (.int (1 : Int32)), .unset, .unset, .unset, .unset] [(.int (1 : Int32))])) _
    refine XS.goto X3.here hx rfl (pc0 := 82) (pc' := 86) rfl (hb hby at_82) (by decide) (by decide) ?_
    show Steps p.tables e below (T3.setTop (mkF m 86 #[.val (.int p1), .val (.int p2), .val (.int d), .val (.int e'), .val (.double (own_of d)), .second, .val (.double (own_of e')), .second, .val (.double (0 : UInt64)), .second, .val (.int (1 : Int32)), .unset, .unset, .unset, .unset] [(.int (1 : Int32))])) _
    refine XS.istore X3.here hx rfl (hb hby at_86) rfl (l' := #[.val (.int p1), .val (.int p2), .val (.int d), .val (.int e'), .val (.double (own_of d)), .second, .val (.double (own_of e')), .second, .val (.double (0 : UInt64)), .second, .val (.int (1 : Int32)), .unset, .unset, .unset, .unset]) rfl ?_
    show Steps p.tables e below (T3.setTop (mkF m 88 #[.val (.int p1), .val (.int p2), .val (.int d), .val (.int e'), .val (.double (own_of d)), .second, .val (.double (own_of e')), .second, .val (.double (0 : UInt64)), .second, .val (.int (1 : Int32)), .unset, .unset, .unset, .unset] [])) _
    refine XS.iloadN X3.here hx rfl (hb hby at_88) rfl ?_
    show Steps p.tables e below (T3.setTop (mkF m 89 #[.val (.int p1), .val (.int p2), .val (.int d), .val (.int e'), .val (.double (own_of d)), .second, .val (.double (own_of e')), .second, .val (.double (0 : UInt64)), .second, .val (.int (1 : Int32)), .unset, .unset, .unset, .unset] [(.int d)])) _
    refine XS.i2l X3.here hx rfl (hb hby at_89) rfl ?_
    show Steps p.tables e below (T3.setTop (mkF m 90 #[.val (.int p1), .val (.int p2), .val (.int d), .val (.int e'), .val (.double (own_of d)), .second, .val (.double (own_of e')), .second, .val (.double (0 : UInt64)), .second, .val (.int (1 : Int32)), .unset, .unset, .unset, .unset] [(.long (d.toInt64))])) _
    refine XS.lconst X3.here hx rfl (hb hby at_90) ?_
    show Steps p.tables e below (T3.setTop (mkF m 91 #[.val (.int p1), .val (.int p2), .val (.int d), .val (.int e'), .val (.double (own_of d)), .second, .val (.double (own_of e')), .second, .val (.double (0 : UInt64)), .second, .val (.int (1 : Int32)), .unset, .unset, .unset, .unset] [(.long (1 : Int64)), (.long (d.toInt64))])) _
    refine XS.ladd X3.here hx rfl (hb hby at_91) rfl ?_
    show Steps p.tables e below (T3.setTop (mkF m 92 #[.val (.int p1), .val (.int p2), .val (.int d), .val (.int e'), .val (.double (own_of d)), .second, .val (.double (own_of e')), .second, .val (.double (0 : UInt64)), .second, .val (.int (1 : Int32)), .unset, .unset, .unset, .unset] [(.long ((d.toInt64) + (1 : Int64)))])) _
    refine XS.lstore X3.here hx rfl (hb hby at_92) rfl (l' := #[.val (.int p1), .val (.int p2), .val (.int d), .val (.int e'), .val (.double (own_of d)), .second, .val (.double (own_of e')), .second, .val (.double (0 : UInt64)), .second, .val (.int (1 : Int32)), .val (.long ((d.toInt64) + (1 : Int64))), .second, .unset, .unset]) rfl ?_
    show Steps p.tables e below (T3.setTop (mkF m 94 #[.val (.int p1), .val (.int p2), .val (.int d), .val (.int e'), .val (.double (own_of d)), .second, .val (.double (own_of e')), .second, .val (.double (0 : UInt64)), .second, .val (.int (1 : Int32)), .val (.long ((d.toInt64) + (1 : Int64))), .second, .unset, .unset] [])) _
    refine XS.dconst1 X3.here hx rfl (hb hby at_94) rfl ?_
    show Steps p.tables e below (T3.setTop (mkF m 95 #[.val (.int p1), .val (.int p2), .val (.int d), .val (.int e'), .val (.double (own_of d)), .second, .val (.double (own_of e')), .second, .val (.double (0 : UInt64)), .second, .val (.int (1 : Int32)), .val (.long ((d.toInt64) + (1 : Int64))), .second, .unset, .unset] [(.double (4607182418800017408 : UInt64))])) _
    refine XS.lload X3.here hx rfl (hb hby at_95) rfl ?_
    show Steps p.tables e below (T3.setTop (mkF m 97 #[.val (.int p1), .val (.int p2), .val (.int d), .val (.int e'), .val (.double (own_of d)), .second, .val (.double (own_of e')), .second, .val (.double (0 : UInt64)), .second, .val (.int (1 : Int32)), .val (.long ((d.toInt64) + (1 : Int64))), .second, .unset, .unset] [(.long ((d.toInt64) + (1 : Int64))), (.double (4607182418800017408 : UInt64))])) _
    refine XS.l2dS X3.here hx rfl (hb hby at_97) rfl rfl ?_
    show Steps p.tables e below (T3.setTop (mkF m 98 #[.val (.int p1), .val (.int p2), .val (.int d), .val (.int e'), .val (.double (own_of d)), .second, .val (.double (own_of e')), .second, .val (.double (0 : UInt64)), .second, .val (.int (1 : Int32)), .val (.long ((d.toInt64) + (1 : Int64))), .second, .unset, .unset] [(.double (FP.l2d ((d.toInt64) + (1 : Int64)))), (.double (4607182418800017408 : UInt64))])) _
    refine XS.ddivS X3.here hx rfl (hb hby at_98) rfl (f6 ▸ f7) rfl ?_
    show Steps p.tables e below (T3.setTop (mkF m 99 #[.val (.int p1), .val (.int p2), .val (.int d), .val (.int e'), .val (.double (own_of d)), .second, .val (.double (own_of e')), .second, .val (.double (0 : UInt64)), .second, .val (.int (1 : Int32)), .val (.long ((d.toInt64) + (1 : Int64))), .second, .unset, .unset] [(.double (FP.ddiv (4607182418800017408 : UInt64) (FP.l2d ((d.toInt64) + (1 : Int64)))))])) _
    refine XS.dstore X3.here hx rfl (hb hby at_99) rfl (l' := #[.val (.int p1), .val (.int p2), .val (.int d), .val (.int e'), .val (.double (own_of d)), .second, .val (.double (own_of e')), .second, .val (.double (0 : UInt64)), .second, .val (.int (1 : Int32)), .val (.long ((d.toInt64) + (1 : Int64))), .second, .val (.double (FP.ddiv (4607182418800017408 : UInt64) (FP.l2d ((d.toInt64) + (1 : Int64))))), .second]) rfl ?_
    show Steps p.tables e below (T3.setTop (mkF m 101 #[.val (.int p1), .val (.int p2), .val (.int d), .val (.int e'), .val (.double (own_of d)), .second, .val (.double (own_of e')), .second, .val (.double (0 : UInt64)), .second, .val (.int (1 : Int32)), .val (.long ((d.toInt64) + (1 : Int64))), .second, .val (.double (FP.ddiv (4607182418800017408 : UInt64) (FP.l2d ((d.toInt64) + (1 : Int64))))), .second] [])) _
    refine XS.iload X3.here hx rfl (hb hby at_101) rfl ?_
    show Steps p.tables e below (T3.setTop (mkF m 103 #[.val (.int p1), .val (.int p2), .val (.int d), .val (.int e'), .val (.double (own_of d)), .second, .val (.double (own_of e')), .second, .val (.double (0 : UInt64)), .second, .val (.int (1 : Int32)), .val (.long ((d.toInt64) + (1 : Int64))), .second, .val (.double (FP.ddiv (4607182418800017408 : UInt64) (FP.l2d ((d.toInt64) + (1 : Int64))))), .second] [(.int (1 : Int32))])) _
    refine XS.ifNo X3.here hx rfl (hb hby at_103) rfl ((if0 _ _).trans (feq (by decide : ¬ (1 : Int32) = (0 : Int32))).1) ?_
    show Steps p.tables e below (T3.setTop (mkF m 106 #[.val (.int p1), .val (.int p2), .val (.int d), .val (.int e'), .val (.double (own_of d)), .second, .val (.double (own_of e')), .second, .val (.double (0 : UInt64)), .second, .val (.int (1 : Int32)), .val (.long ((d.toInt64) + (1 : Int64))), .second, .val (.double (FP.ddiv (4607182418800017408 : UInt64) (FP.l2d ((d.toInt64) + (1 : Int64))))), .second] [])) _
    refine XS.dload X3.here hx rfl (hb hby at_106) rfl ?_
    show Steps p.tables e below (T3.setTop (mkF m 108 #[.val (.int p1), .val (.int p2), .val (.int d), .val (.int e'), .val (.double (own_of d)), .second, .val (.double (own_of e')), .second, .val (.double (0 : UInt64)), .second, .val (.int (1 : Int32)), .val (.long ((d.toInt64) + (1 : Int64))), .second, .val (.double (FP.ddiv (4607182418800017408 : UInt64) (FP.l2d ((d.toInt64) + (1 : Int64))))), .second] [(.double (own_of d))])) _
    refine XS.dload X3.here hx rfl (hb hby at_108) rfl ?_
    show Steps p.tables e below (T3.setTop (mkF m 110 #[.val (.int p1), .val (.int p2), .val (.int d), .val (.int e'), .val (.double (own_of d)), .second, .val (.double (own_of e')), .second, .val (.double (0 : UInt64)), .second, .val (.int (1 : Int32)), .val (.long ((d.toInt64) + (1 : Int64))), .second, .val (.double (FP.ddiv (4607182418800017408 : UInt64) (FP.l2d ((d.toInt64) + (1 : Int64))))), .second] [(.double (FP.ddiv (4607182418800017408 : UInt64) (FP.l2d ((d.toInt64) + (1 : Int64))))), (.double (own_of d))])) _
    refine XS.dcmpS X3.here hx rfl (hb hby at_110) rfl (dcmpV_eq f6 f7 .l) ?_
    show Steps p.tables e below (T3.setTop (mkF m 111 #[.val (.int p1), .val (.int p2), .val (.int d), .val (.int e'), .val (.double (own_of d)), .second, .val (.double (own_of e')), .second, .val (.double (0 : UInt64)), .second, .val (.int (1 : Int32)), .val (.long ((d.toInt64) + (1 : Int64))), .second, .val (.double (FP.ddiv (4607182418800017408 : UInt64) (FP.l2d ((d.toInt64) + (1 : Int64))))), .second] [(.int (0 : Int32))])) _
    refine XS.ifNo X3.here hx rfl (hb hby at_111) rfl ((if0 _ _).trans (teq (rfl : (0 : Int32) = (0 : Int32))).2) ?_
    show Steps p.tables e below (T3.setTop (mkF m 114 #[.val (.int p1), .val (.int p2), .val (.int d), .val (.int e'), .val (.double (own_of d)), .second, .val (.double (own_of e')), .second, .val (.double (0 : UInt64)), .second, .val (.int (1 : Int32)), .val (.long ((d.toInt64) + (1 : Int64))), .second, .val (.double (FP.ddiv (4607182418800017408 : UInt64) (FP.l2d ((d.toInt64) + (1 : Int64))))), .second] [])) _
    refine XS.iconst X3.here hx rfl (hb hby at_114) ?_
    show Steps p.tables e below (T3.setTop (mkF m 115 #[.val (.int p1), .val (.int p2), .val (.int d), .val (.int e'), .val (.double (own_of d)), .second, .val (.double (own_of e')), .second, .val (.double (0 : UInt64)), .second, .val (.int (1 : Int32)), .val (.long ((d.toInt64) + (1 : Int64))), .second, .val (.double (FP.ddiv (4607182418800017408 : UInt64) (FP.l2d ((d.toInt64) + (1 : Int64))))), .second] [(.int (1 : Int32))])) _
    refine XS.goto X3.here hx rfl (pc0 := 115) (pc' := 119) rfl (hb hby at_115) (by decide) (by decide) ?_
    show Steps p.tables e below (T3.setTop (mkF m 119 #[.val (.int p1), .val (.int p2), .val (.int d), .val (.int e'), .val (.double (own_of d)), .second, .val (.double (own_of e')), .second, .val (.double (0 : UInt64)), .second, .val (.int (1 : Int32)), .val (.long ((d.toInt64) + (1 : Int64))), .second, .val (.double (FP.ddiv (4607182418800017408 : UInt64) (FP.l2d ((d.toInt64) + (1 : Int64))))), .second] [(.int (1 : Int32))])) _
    refine XS.istore X3.here hx rfl (hb hby at_119) rfl (l' := #[.val (.int p1), .val (.int p2), .val (.int d), .val (.int e'), .val (.double (own_of d)), .second, .val (.double (own_of e')), .second, .val (.double (0 : UInt64)), .second, .val (.int (1 : Int32)), .val (.long ((d.toInt64) + (1 : Int64))), .second, .val (.double (FP.ddiv (4607182418800017408 : UInt64) (FP.l2d ((d.toInt64) + (1 : Int64))))), .second]) rfl ?_
    show Steps p.tables e below (T3.setTop (mkF m 121 #[.val (.int p1), .val (.int p2), .val (.int d), .val (.int e'), .val (.double (own_of d)), .second, .val (.double (own_of e')), .second, .val (.double (0 : UInt64)), .second, .val (.int (1 : Int32)), .val (.long ((d.toInt64) + (1 : Int64))), .second, .val (.double (FP.ddiv (4607182418800017408 : UInt64) (FP.l2d ((d.toInt64) + (1 : Int64))))), .second] [])) _
    refine XS.iload X3.here hx rfl (hb hby at_121) rfl ?_
    show Steps p.tables e below (T3.setTop (mkF m 123 #[.val (.int p1), .val (.int p2), .val (.int d), .val (.int e'), .val (.double (own_of d)), .second, .val (.double (own_of e')), .second, .val (.double (0 : UInt64)), .second, .val (.int (1 : Int32)), .val (.long ((d.toInt64) + (1 : Int64))), .second, .val (.double (FP.ddiv (4607182418800017408 : UInt64) (FP.l2d ((d.toInt64) + (1 : Int64))))), .second] [(.int (1 : Int32))])) _
    refine XS.ifNo X3.here hx rfl (hb hby at_123) rfl ((if0 _ _).trans (feq (by decide : ¬ (1 : Int32) = (0 : Int32))).1) ?_
    exact k9
  refine go (T3.setTop (mkF m 136 #[.val (.int p1), .val (.int p2), .val (.int d), .val (.int e'), .val (.double (own_of d)), .second, .val (.double (own_of e')), .second, .val (.double (0 : UInt64)), .second, .val (.int (1 : Int32)), .val (.long ((d.toInt64) + (1 : Int64))), .second, .val (.double (FP.ddiv (4607182418800017408 : UInt64) (FP.l2d ((d.toInt64) + (1 : Int64))))), .second] [(.int (if d < e' then (1 : Int32) else (0 : Int32)))])) _ (fun t9 k9 => ?_) ?_
  · show Steps p.tables e below (T3.setTop (mkF m 126 #[.val (.int p1), .val (.int p2), .val (.int d), .val (.int e'), .val (.double (own_of d)), .second, .val (.double (own_of e')), .second, .val (.double (0 : UInt64)), .second, .val (.int (1 : Int32)), .val (.long ((d.toInt64) + (1 : Int64))), .second, .val (.double (FP.ddiv (4607182418800017408 : UInt64) (FP.l2d ((d.toInt64) + (1 : Int64))))), .second] [])) _
    refine XS.iloadN X3.here hx rfl (hb hby at_126) rfl ?_
    show Steps p.tables e below (T3.setTop (mkF m 127 #[.val (.int p1), .val (.int p2), .val (.int d), .val (.int e'), .val (.double (own_of d)), .second, .val (.double (own_of e')), .second, .val (.double (0 : UInt64)), .second, .val (.int (1 : Int32)), .val (.long ((d.toInt64) + (1 : Int64))), .second, .val (.double (FP.ddiv (4607182418800017408 : UInt64) (FP.l2d ((d.toInt64) + (1 : Int64))))), .second] [(.int d)])) _
    refine XS.iloadN X3.here hx rfl (hb hby at_127) rfl ?_
    by_cases h128_1 : d < e'
    · try (simp only [if_pos h128_1] at k9)
      show Steps p.tables e below (T3.setTop (mkF m 128 #[.val (.int p1), .val (.int p2), .val (.int d), .val (.int e'), .val (.double (own_of d)), .second, .val (.double (own_of e')), .second, .val (.double (0 : UInt64)), .second, .val (.int (1 : Int32)), .val (.long ((d.toInt64) + (1 : Int64))), .second, .val (.double (FP.ddiv (4607182418800017408 : UInt64) (FP.l2d ((d.toInt64) + (1 : Int64))))), .second] [(.int e'), (.int d)])) _
      refine XS.icmpNo X3.here hx rfl (hb hby at_128) rfl (tlt h128_1).2.1 ?_
      show Steps p.tables e below (T3.setTop (mkF m 131 #[.val (.int p1), .val (.int p2), .val (.int d), .val (.int e'), .val (.double (own_of d)), .second, .val (.double (own_of e')), .second, .val (.double (0 : UInt64)), .second, .val (.int (1 : Int32)), .val (.long ((d.toInt64) + (1 : Int64))), .second, .val (.double (FP.ddiv (4607182418800017408 : UInt64) (FP.l2d ((d.toInt64) + (1 : Int64))))), .second] [])) _
      refine XS.iconst X3.here hx rfl (hb hby at_131) ?_
      show Steps p.tables e below (T3.setTop (mkF m 132 #[.val (.int p1), .val (.int p2), .val (.int d), .val (.int e'), .val (.double (own_of d)), .second, .val (.double (own_of e')), .second, .val (.double (0 : UInt64)), .second, .val (.int (1 : Int32)), .val (.long ((d.toInt64) + (1 : Int64))), .second, .val (.double (FP.ddiv (4607182418800017408 : UInt64) (FP.l2d ((d.toInt64) + (1 : Int64))))), .second] [(.int (1 : Int32))])) _
      refine XS.goto X3.here hx rfl (pc0 := 132) (pc' := 136) rfl (hb hby at_132) (by decide) (by decide) ?_
      exact k9
    · try (simp only [if_neg h128_1] at k9)
      show Steps p.tables e below (T3.setTop (mkF m 128 #[.val (.int p1), .val (.int p2), .val (.int d), .val (.int e'), .val (.double (own_of d)), .second, .val (.double (own_of e')), .second, .val (.double (0 : UInt64)), .second, .val (.int (1 : Int32)), .val (.long ((d.toInt64) + (1 : Int64))), .second, .val (.double (FP.ddiv (4607182418800017408 : UInt64) (FP.l2d ((d.toInt64) + (1 : Int64))))), .second] [(.int e'), (.int d)])) _
      refine XS.icmpYes X3.here hx rfl (pc0 := 128) (pc' := 135) rfl (hb hby at_128) rfl (flt h128_1).2.1 (by decide) (by decide) ?_
      show Steps p.tables e below (T3.setTop (mkF m 135 #[.val (.int p1), .val (.int p2), .val (.int d), .val (.int e'), .val (.double (own_of d)), .second, .val (.double (own_of e')), .second, .val (.double (0 : UInt64)), .second, .val (.int (1 : Int32)), .val (.long ((d.toInt64) + (1 : Int64))), .second, .val (.double (FP.ddiv (4607182418800017408 : UInt64) (FP.l2d ((d.toInt64) + (1 : Int64))))), .second] [])) _
      refine XS.iconst X3.here hx rfl (hb hby at_135) ?_
      exact k9
  refine go (T3.setTop (mkF m 149 #[.val (.int p1), .val (.int p2), .val (.int d), .val (.int e'), .val (.double (own_of d)), .second, .val (.double (own_of e')), .second, .val (.double (0 : UInt64)), .second, .val (.int (1 : Int32)), .val (.long ((d.toInt64) + (1 : Int64))), .second, .val (.double (FP.ddiv (4607182418800017408 : UInt64) (FP.l2d ((d.toInt64) + (1 : Int64))))), .second] [(.int (if (0 : Int32) < (cmpValue (FP.dcmp (own_of d) (own_of e')) .l) then (1 : Int32) else (0 : Int32))), (.int (if d < e' then (1 : Int32) else (0 : Int32)))])) _ (fun t9 k9 => ?_) ?_
  · show Steps p.tables e below (T3.setTop (mkF m 136 #[.val (.int p1), .val (.int p2), .val (.int d), .val (.int e'), .val (.double (own_of d)), .second, .val (.double (own_of e')), .second, .val (.double (0 : UInt64)), .second, .val (.int (1 : Int32)), .val (.long ((d.toInt64) + (1 : Int64))), .second, .val (.double (FP.ddiv (4607182418800017408 : UInt64) (FP.l2d ((d.toInt64) + (1 : Int64))))), .second] [(.int (if d < e' then (1 : Int32) else (0 : Int32)))])) _
    refine XS.dload X3.here hx rfl (hb hby at_136) rfl ?_
    show Steps p.tables e below (T3.setTop (mkF m 138 #[.val (.int p1), .val (.int p2), .val (.int d), .val (.int e'), .val (.double (own_of d)), .second, .val (.double (own_of e')), .second, .val (.double (0 : UInt64)), .second, .val (.int (1 : Int32)), .val (.long ((d.toInt64) + (1 : Int64))), .second, .val (.double (FP.ddiv (4607182418800017408 : UInt64) (FP.l2d ((d.toInt64) + (1 : Int64))))), .second] [(.double (own_of d)), (.int (if d < e' then (1 : Int32) else (0 : Int32)))])) _
    refine XS.dload X3.here hx rfl (hb hby at_138) rfl ?_
    show Steps p.tables e below (T3.setTop (mkF m 140 #[.val (.int p1), .val (.int p2), .val (.int d), .val (.int e'), .val (.double (own_of d)), .second, .val (.double (own_of e')), .second, .val (.double (0 : UInt64)), .second, .val (.int (1 : Int32)), .val (.long ((d.toInt64) + (1 : Int64))), .second, .val (.double (FP.ddiv (4607182418800017408 : UInt64) (FP.l2d ((d.toInt64) + (1 : Int64))))), .second] [(.double (own_of e')), (.double (own_of d)), (.int (if d < e' then (1 : Int32) else (0 : Int32)))])) _
    refine XS.dcmpS X3.here hx rfl (hb hby at_140) rfl rfl ?_
    by_cases h141_1 : (0 : Int32) < (cmpValue (FP.dcmp (own_of d) (own_of e')) .l)
    · try (simp only [if_pos h141_1] at k9)
      show Steps p.tables e below (T3.setTop (mkF m 141 #[.val (.int p1), .val (.int p2), .val (.int d), .val (.int e'), .val (.double (own_of d)), .second, .val (.double (own_of e')), .second, .val (.double (0 : UInt64)), .second, .val (.int (1 : Int32)), .val (.long ((d.toInt64) + (1 : Int64))), .second, .val (.double (FP.ddiv (4607182418800017408 : UInt64) (FP.l2d ((d.toInt64) + (1 : Int64))))), .second] [(.int (cmpValue (FP.dcmp (own_of d) (own_of e')) .l)), (.int (if d < e' then (1 : Int32) else (0 : Int32)))])) _
      refine XS.ifNo X3.here hx rfl (hb hby at_141) rfl ((if0 _ _).trans (tlt h141_1).2.2.2) ?_
      show Steps p.tables e below (T3.setTop (mkF m 144 #[.val (.int p1), .val (.int p2), .val (.int d), .val (.int e'), .val (.double (own_of d)), .second, .val (.double (own_of e')), .second, .val (.double (0 : UInt64)), .second, .val (.int (1 : Int32)), .val (.long ((d.toInt64) + (1 : Int64))), .second, .val (.double (FP.ddiv (4607182418800017408 : UInt64) (FP.l2d ((d.toInt64) + (1 : Int64))))), .second] [(.int (if d < e' then (1 : Int32) else (0 : Int32)))])) _
      refine XS.iconst X3.here hx rfl (hb hby at_144) ?_
      show Steps p.tables e below (T3.setTop (mkF m 145 #[.val (.int p1), .val (.int p2), .val (.int d), .val (.int e'), .val (.double (own_of d)), .second, .val (.double (own_of e')), .second, .val (.double (0 : UInt64)), .second, .val (.int (1 : Int32)), .val (.long ((d.toInt64) + (1 : Int64))), .second, .val (.double (FP.ddiv (4607182418800017408 : UInt64) (FP.l2d ((d.toInt64) + (1 : Int64))))), .second] [(.int (1 : Int32)), (.int (if d < e' then (1 : Int32) else (0 : Int32)))])) _
      refine XS.goto X3.here hx rfl (pc0 := 145) (pc' := 149) rfl (hb hby at_145) (by decide) (by decide) ?_
      exact k9
    · try (simp only [if_neg h141_1] at k9)
      show Steps p.tables e below (T3.setTop (mkF m 141 #[.val (.int p1), .val (.int p2), .val (.int d), .val (.int e'), .val (.double (own_of d)), .second, .val (.double (own_of e')), .second, .val (.double (0 : UInt64)), .second, .val (.int (1 : Int32)), .val (.long ((d.toInt64) + (1 : Int64))), .second, .val (.double (FP.ddiv (4607182418800017408 : UInt64) (FP.l2d ((d.toInt64) + (1 : Int64))))), .second] [(.int (cmpValue (FP.dcmp (own_of d) (own_of e')) .l)), (.int (if d < e' then (1 : Int32) else (0 : Int32)))])) _
      refine XS.ifYes X3.here hx rfl (pc0 := 141) (pc' := 148) rfl (hb hby at_141) rfl ((if0 _ _).trans (flt h141_1).2.2.2) (by decide) (by decide) ?_
      show Steps p.tables e below (T3.setTop (mkF m 148 #[.val (.int p1), .val (.int p2), .val (.int d), .val (.int e'), .val (.double (own_of d)), .second, .val (.double (own_of e')), .second, .val (.double (0 : UInt64)), .second, .val (.int (1 : Int32)), .val (.long ((d.toInt64) + (1 : Int64))), .second, .val (.double (FP.ddiv (4607182418800017408 : UInt64) (FP.l2d ((d.toInt64) + (1 : Int64))))), .second] [(.int (if d < e' then (1 : Int32) else (0 : Int32)))])) _
      refine XS.iconst X3.here hx rfl (hb hby at_148) ?_
      exact k9
  have h149 : (if d < e' then (1 : Int32) else (0 : Int32)) = (if (0 : Int32) < (cmpValue (FP.dcmp (own_of d) (own_of e')) .l) then (1 : Int32) else (0 : Int32)) := by
    by_cases q : d < e'
    · rw [if_pos q, if_pos (f4.mp q)]
    · rw [if_neg q, if_neg (fun z => q (f4.mpr z))]
  refine go (T3.setTop (mkF m 164 #[.val (.int p1), .val (.int p2), .val (.int d), .val (.int e'), .val (.double (own_of d)), .second, .val (.double (own_of e')), .second, .val (.double (0 : UInt64)), .second, .val (.int (1 : Int32)), .val (.long ((d.toInt64) + (1 : Int64))), .second, .val (.double (FP.ddiv (4607182418800017408 : UInt64) (FP.l2d ((d.toInt64) + (1 : Int64))))), .second] [])) _ (fun t9 k9 => ?_) ?_
  · show Steps p.tables e below (T3.setTop (mkF m 149 #[.val (.int p1), .val (.int p2), .val (.int d), .val (.int e'), .val (.double (own_of d)), .second, .val (.double (own_of e')), .second, .val (.double (0 : UInt64)), .second, .val (.int (1 : Int32)), .val (.long ((d.toInt64) + (1 : Int64))), .second, .val (.double (FP.ddiv (4607182418800017408 : UInt64) (FP.l2d ((d.toInt64) + (1 : Int64))))), .second] [(.int (if (0 : Int32) < (cmpValue (FP.dcmp (own_of d) (own_of e')) .l) then (1 : Int32) else (0 : Int32))), (.int (if d < e' then (1 : Int32) else (0 : Int32)))])) _
    refine XS.icmpNo X3.here hx rfl (hb hby at_149) rfl (teq h149).2 ?_
    show Steps p.tables e below (T3.setTop (mkF m 152 #[.val (.int p1), .val (.int p2), .val (.int d), .val (.int e'), .val (.double (own_of d)), .second, .val (.double (own_of e')), .second, .val (.double (0 : UInt64)), .second, .val (.int (1 : Int32)), .val (.long ((d.toInt64) + (1 : Int64))), .second, .val (.double (FP.ddiv (4607182418800017408 : UInt64) (FP.l2d ((d.toInt64) + (1 : Int64))))), .second] [])) _
    refine XS.iconst X3.here hx rfl (hb hby at_152) ?_
    show Steps p.tables e below (T3.setTop (mkF m 153 #[.val (.int p1), .val (.int p2), .val (.int d), .val (.int e'), .val (.double (own_of d)), .second, .val (.double (own_of e')), .second, .val (.double (0 : UInt64)), .second, .val (.int (1 : Int32)), .val (.long ((d.toInt64) + (1 : Int64))), .second, .val (.double (FP.ddiv (4607182418800017408 : UInt64) (FP.l2d ((d.toInt64) + (1 : Int64))))), .second] [(.int (1 : Int32))])) _
    refine XS.goto X3.here hx rfl (pc0 := 153) (pc' := 157) rfl (hb hby at_153) (by decide) (by decide) ?_
    show Steps p.tables e below (T3.setTop (mkF m 157 #[.val (.int p1), .val (.int p2), .val (.int d), .val (.int e'), .val (.double (own_of d)), .second, .val (.double (own_of e')), .second, .val (.double (0 : UInt64)), .second, .val (.int (1 : Int32)), .val (.long ((d.toInt64) + (1 : Int64))), .second, .val (.double (FP.ddiv (4607182418800017408 : UInt64) (FP.l2d ((d.toInt64) + (1 : Int64))))), .second] [(.int (1 : Int32))])) _
    refine XS.istore X3.here hx rfl (hb hby at_157) rfl (l' := #[.val (.int p1), .val (.int p2), .val (.int d), .val (.int e'), .val (.double (own_of d)), .second, .val (.double (own_of e')), .second, .val (.double (0 : UInt64)), .second, .val (.int (1 : Int32)), .val (.long ((d.toInt64) + (1 : Int64))), .second, .val (.double (FP.ddiv (4607182418800017408 : UInt64) (FP.l2d ((d.toInt64) + (1 : Int64))))), .second]) rfl ?_
    show Steps p.tables e below (T3.setTop (mkF m 159 #[.val (.int p1), .val (.int p2), .val (.int d), .val (.int e'), .val (.double (own_of d)), .second, .val (.double (own_of e')), .second, .val (.double (0 : UInt64)), .second, .val (.int (1 : Int32)), .val (.long ((d.toInt64) + (1 : Int64))), .second, .val (.double (FP.ddiv (4607182418800017408 : UInt64) (FP.l2d ((d.toInt64) + (1 : Int64))))), .second] [])) _
    refine XS.iload X3.here hx rfl (hb hby at_159) rfl ?_
    show Steps p.tables e below (T3.setTop (mkF m 161 #[.val (.int p1), .val (.int p2), .val (.int d), .val (.int e'), .val (.double (own_of d)), .second, .val (.double (own_of e')), .second, .val (.double (0 : UInt64)), .second, .val (.int (1 : Int32)), .val (.long ((d.toInt64) + (1 : Int64))), .second, .val (.double (FP.ddiv (4607182418800017408 : UInt64) (FP.l2d ((d.toInt64) + (1 : Int64))))), .second] [(.int (1 : Int32))])) _
    refine XS.ifNo X3.here hx rfl (hb hby at_161) rfl ((if0 _ _).trans (feq (by decide : ¬ (1 : Int32) = (0 : Int32))).1) ?_
    exact k9
  refine go (T3.setTop (mkF m 174 #[.val (.int p1), .val (.int p2), .val (.int d), .val (.int e'), .val (.double (own_of d)), .second, .val (.double (own_of e')), .second, .val (.double (0 : UInt64)), .second, .val (.int (1 : Int32)), .val (.long ((d.toInt64) + (1 : Int64))), .second, .val (.double (FP.ddiv (4607182418800017408 : UInt64) (FP.l2d ((d.toInt64) + (1 : Int64))))), .second] [(.int (if d = e' then (1 : Int32) else (0 : Int32)))])) _ (fun t9 k9 => ?_) ?_
  · show Steps p.tables e below (T3.setTop (mkF m 164 #[.val (.int p1), .val (.int p2), .val (.int d), .val (.int e'), .val (.double (own_of d)), .second, .val (.double (own_of e')), .second, .val (.double (0 : UInt64)), .second, .val (.int (1 : Int32)), .val (.long ((d.toInt64) + (1 : Int64))), .second, .val (.double (FP.ddiv (4607182418800017408 : UInt64) (FP.l2d ((d.toInt64) + (1 : Int64))))), .second] [])) _
    refine XS.iloadN X3.here hx rfl (hb hby at_164) rfl ?_
    show Steps p.tables e below (T3.setTop (mkF m 165 #[.val (.int p1), .val (.int p2), .val (.int d), .val (.int e'), .val (.double (own_of d)), .second, .val (.double (own_of e')), .second, .val (.double (0 : UInt64)), .second, .val (.int (1 : Int32)), .val (.long ((d.toInt64) + (1 : Int64))), .second, .val (.double (FP.ddiv (4607182418800017408 : UInt64) (FP.l2d ((d.toInt64) + (1 : Int64))))), .second] [(.int d)])) _
    refine XS.iloadN X3.here hx rfl (hb hby at_165) rfl ?_
    by_cases h166_1 : d = e'
    · try (simp only [if_pos h166_1] at k9)
      show Steps p.tables e below (T3.setTop (mkF m 166 #[.val (.int p1), .val (.int p2), .val (.int d), .val (.int e'), .val (.double (own_of d)), .second, .val (.double (own_of e')), .second, .val (.double (0 : UInt64)), .second, .val (.int (1 : Int32)), .val (.long ((d.toInt64) + (1 : Int64))), .second, .val (.double (FP.ddiv (4607182418800017408 : UInt64) (FP.l2d ((d.toInt64) + (1 : Int64))))), .second] [(.int e'), (.int d)])) _
      refine XS.icmpNo X3.here hx rfl (hb hby at_166) rfl (teq h166_1).2 ?_
      show Steps p.tables e below (T3.setTop (mkF m 169 #[.val (.int p1), .val (.int p2), .val (.int d), .val (.int e'), .val (.double (own_of d)), .second, .val (.double (own_of e')), .second, .val (.double (0 : UInt64)), .second, .val (.int (1 : Int32)), .val (.long ((d.toInt64) + (1 : Int64))), .second, .val (.double (FP.ddiv (4607182418800017408 : UInt64) (FP.l2d ((d.toInt64) + (1 : Int64))))), .second] [])) _
      refine XS.iconst X3.here hx rfl (hb hby at_169) ?_
      show Steps p.tables e below (T3.setTop (mkF m 170 #[.val (.int p1), .val (.int p2), .val (.int d), .val (.int e'), .val (.double (own_of d)), .second, .val (.double (own_of e')), .second, .val (.double (0 : UInt64)), .second, .val (.int (1 : Int32)), .val (.long ((d.toInt64) + (1 : Int64))), .second, .val (.double (FP.ddiv (4607182418800017408 : UInt64) (FP.l2d ((d.toInt64) + (1 : Int64))))), .second] [(.int (1 : Int32))])) _
      refine XS.goto X3.here hx rfl (pc0 := 170) (pc' := 174) rfl (hb hby at_170) (by decide) (by decide) ?_
      exact k9
    · try (simp only [if_neg h166_1] at k9)
      show Steps p.tables e below (T3.setTop (mkF m 166 #[.val (.int p1), .val (.int p2), .val (.int d), .val (.int e'), .val (.double (own_of d)), .second, .val (.double (own_of e')), .second, .val (.double (0 : UInt64)), .second, .val (.int (1 : Int32)), .val (.long ((d.toInt64) + (1 : Int64))), .second, .val (.double (FP.ddiv (4607182418800017408 : UInt64) (FP.l2d ((d.toInt64) + (1 : Int64))))), .second] [(.int e'), (.int d)])) _
      refine XS.icmpYes X3.here hx rfl (pc0 := 166) (pc' := 173) rfl (hb hby at_166) rfl (feq h166_1).2 (by decide) (by decide) ?_
      show Steps p.tables e below (T3.setTop (mkF m 173 #[.val (.int p1), .val (.int p2), .val (.int d), .val (.int e'), .val (.double (own_of d)), .second, .val (.double (own_of e')), .second, .val (.double (0 : UInt64)), .second, .val (.int (1 : Int32)), .val (.long ((d.toInt64) + (1 : Int64))), .second, .val (.double (FP.ddiv (4607182418800017408 : UInt64) (FP.l2d ((d.toInt64) + (1 : Int64))))), .second] [])) _
      refine XS.iconst X3.here hx rfl (hb hby at_173) ?_
      exact k9
  refine go (T3.setTop (mkF m 187 #[.val (.int p1), .val (.int p2), .val (.int d), .val (.int e'), .val (.double (own_of d)), .second, .val (.double (own_of e')), .second, .val (.double (0 : UInt64)), .second, .val (.int (1 : Int32)), .val (.long ((d.toInt64) + (1 : Int64))), .second, .val (.double (FP.ddiv (4607182418800017408 : UInt64) (FP.l2d ((d.toInt64) + (1 : Int64))))), .second] [(.int (if (cmpValue (FP.dcmp (own_of d) (own_of e')) .l) = (0 : Int32) then (1 : Int32) else (0 : Int32))), (.int (if d = e' then (1 : Int32) else (0 : Int32)))])) _ (fun t9 k9 => ?_) ?_
  · show Steps p.tables e below (T3.setTop (mkF m 174 #[.val (.int p1), .val (.int p2), .val (.int d), .val (.int e'), .val (.double (own_of d)), .second, .val (.double (own_of e')), .second, .val (.double (0 : UInt64)), .second, .val (.int (1 : Int32)), .val (.long ((d.toInt64) + (1 : Int64))), .second, .val (.double (FP.ddiv (4607182418800017408 : UInt64) (FP.l2d ((d.toInt64) + (1 : Int64))))), .second] [(.int (if d = e' then (1 : Int32) else (0 : Int32)))])) _
    refine XS.dload X3.here hx rfl (hb hby at_174) rfl ?_
    show Steps p.tables e below (T3.setTop (mkF m 176 #[.val (.int p1), .val (.int p2), .val (.int d), .val (.int e'), .val (.double (own_of d)), .second, .val (.double (own_of e')), .second, .val (.double (0 : UInt64)), .second, .val (.int (1 : Int32)), .val (.long ((d.toInt64) + (1 : Int64))), .second, .val (.double (FP.ddiv (4607182418800017408 : UInt64) (FP.l2d ((d.toInt64) + (1 : Int64))))), .second] [(.double (own_of d)), (.int (if d = e' then (1 : Int32) else (0 : Int32)))])) _
    refine XS.dload X3.here hx rfl (hb hby at_176) rfl ?_
    show Steps p.tables e below (T3.setTop (mkF m 178 #[.val (.int p1), .val (.int p2), .val (.int d), .val (.int e'), .val (.double (own_of d)), .second, .val (.double (own_of e')), .second, .val (.double (0 : UInt64)), .second, .val (.int (1 : Int32)), .val (.long ((d.toInt64) + (1 : Int64))), .second, .val (.double (FP.ddiv (4607182418800017408 : UInt64) (FP.l2d ((d.toInt64) + (1 : Int64))))), .second] [(.double (own_of e')), (.double (own_of d)), (.int (if d = e' then (1 : Int32) else (0 : Int32)))])) _
    refine XS.dcmpS X3.here hx rfl (hb hby at_178) rfl rfl ?_
    by_cases h179_1 : (cmpValue (FP.dcmp (own_of d) (own_of e')) .l) = (0 : Int32)
    · try (simp only [if_pos h179_1] at k9)
      show Steps p.tables e below (T3.setTop (mkF m 179 #[.val (.int p1), .val (.int p2), .val (.int d), .val (.int e'), .val (.double (own_of d)), .second, .val (.double (own_of e')), .second, .val (.double (0 : UInt64)), .second, .val (.int (1 : Int32)), .val (.long ((d.toInt64) + (1 : Int64))), .second, .val (.double (FP.ddiv (4607182418800017408 : UInt64) (FP.l2d ((d.toInt64) + (1 : Int64))))), .second] [(.int (cmpValue (FP.dcmp (own_of d) (own_of e')) .l)), (.int (if d = e' then (1 : Int32) else (0 : Int32)))])) _
      refine XS.ifNo X3.here hx rfl (hb hby at_179) rfl ((if0 _ _).trans (teq h179_1).2) ?_
      show Steps p.tables e below (T3.setTop (mkF m 182 #[.val (.int p1), .val (.int p2), .val (.int d), .val (.int e'), .val (.double (own_of d)), .second, .val (.double (own_of e')), .second, .val (.double (0 : UInt64)), .second, .val (.int (1 : Int32)), .val (.long ((d.toInt64) + (1 : Int64))), .second, .val (.double (FP.ddiv (4607182418800017408 : UInt64) (FP.l2d ((d.toInt64) + (1 : Int64))))), .second] [(.int (if d = e' then (1 : Int32) else (0 : Int32)))])) _
      refine XS.iconst X3.here hx rfl (hb hby at_182) ?_
      show Steps p.tables e below (T3.setTop (mkF m 183 #[.val (.int p1), .val (.int p2), .val (.int d), .val (.int e'), .val (.double (own_of d)), .second, .val (.double (own_of e')), .second, .val (.double (0 : UInt64)), .second, .val (.int (1 : Int32)), .val (.long ((d.toInt64) + (1 : Int64))), .second, .val (.double (FP.ddiv (4607182418800017408 : UInt64) (FP.l2d ((d.toInt64) + (1 : Int64))))), .second] [(.int (1 : Int32)), (.int (if d = e' then (1 : Int32) else (0 : Int32)))])) _
      refine XS.goto X3.here hx rfl (pc0 := 183) (pc' := 187) rfl (hb hby at_183) (by decide) (by decide) ?_
      exact k9
    · try (simp only [if_neg h179_1] at k9)
      show Steps p.tables e below (T3.setTop (mkF m 179 #[.val (.int p1), .val (.int p2), .val (.int d), .val (.int e'), .val (.double (own_of d)), .second, .val (.double (own_of e')), .second, .val (.double (0 : UInt64)), .second, .val (.int (1 : Int32)), .val (.long ((d.toInt64) + (1 : Int64))), .second, .val (.double (FP.ddiv (4607182418800017408 : UInt64) (FP.l2d ((d.toInt64) + (1 : Int64))))), .second] [(.int (cmpValue (FP.dcmp (own_of d) (own_of e')) .l)), (.int (if d = e' then (1 : Int32) else (0 : Int32)))])) _
      refine XS.ifYes X3.here hx rfl (pc0 := 179) (pc' := 186) rfl (hb hby at_179) rfl ((if0 _ _).trans (feq h179_1).2) (by decide) (by decide) ?_
      show Steps p.tables e below (T3.setTop (mkF m 186 #[.val (.int p1), .val (.int p2), .val (.int d), .val (.int e'), .val (.double (own_of d)), .second, .val (.double (own_of e')), .second, .val (.double (0 : UInt64)), .second, .val (.int (1 : Int32)), .val (.long ((d.toInt64) + (1 : Int64))), .second, .val (.double (FP.ddiv (4607182418800017408 : UInt64) (FP.l2d ((d.toInt64) + (1 : Int64))))), .second] [(.int (if d = e' then (1 : Int32) else (0 : Int32)))])) _
      refine XS.iconst X3.here hx rfl (hb hby at_186) ?_
      exact k9
  have h187 : (if d = e' then (1 : Int32) else (0 : Int32)) = (if (cmpValue (FP.dcmp (own_of d) (own_of e')) .l) = (0 : Int32) then (1 : Int32) else (0 : Int32)) := by
    by_cases q : d = e'
    · rw [if_pos q, if_pos (f5.mp q)]
    · rw [if_neg q, if_neg (fun z => q (f5.mpr z))]
  refine go (T3.setTop (mkF m 199 #[.val (.int p1), .val (.int p2), .val (.int d), .val (.int e'), .val (.double (own_of d)), .second, .val (.double (own_of e')), .second, .val (.double (0 : UInt64)), .second, .val (.int (1 : Int32)), .val (.long ((d.toInt64) + (1 : Int64))), .second, .val (.double (FP.ddiv (4607182418800017408 : UInt64) (FP.l2d ((d.toInt64) + (1 : Int64))))), .second] [(.int (1 : Int32))])) _ (fun t9 k9 => ?_) ?_
  · show Steps p.tables e below (T3.setTop (mkF m 187 #[.val (.int p1), .val (.int p2), .val (.int d), .val (.int e'), .val (.double (own_of d)), .second, .val (.double (own_of e')), .second, .val (.double (0 : UInt64)), .second, .val (.int (1 : Int32)), .val (.long ((d.toInt64) + (1 : Int64))), .second, .val (.double (FP.ddiv (4607182418800017408 : UInt64) (FP.l2d ((d.toInt64) + (1 : Int64))))), .second] [(.int (if (cmpValue (FP.dcmp (own_of d) (own_of e')) .l) = (0 : Int32) then (1 : Int32) else (0 : Int32))), (.int (if d = e' then (1 : Int32) else (0 : Int32)))])) _
    refine XS.icmpNo X3.here hx rfl (hb hby at_187) rfl (teq h187).2 ?_
    show Steps p.tables e below (T3.setTop (mkF m 190 #[.val (.int p1), .val (.int p2), .val (.int d), .val (.int e'), .val (.double (own_of d)), .second, .val (.double (own_of e')), .second, .val (.double (0 : UInt64)), .second, .val (.int (1 : Int32)), .val (.long ((d.toInt64) + (1 : Int64))), .second, .val (.double (FP.ddiv (4607182418800017408 : UInt64) (FP.l2d ((d.toInt64) + (1 : Int64))))), .second] [])) _
    refine XS.iconst X3.here hx rfl (hb hby at_190) ?_
    show Steps p.tables e below (T3.setTop (mkF m 191 #[.val (.int p1), .val (.int p2), .val (.int d), .val (.int e'), .val (.double (own_of d)), .second, .val (.double (own_of e')), .second, .val (.double (0 : UInt64)), .second, .val (.int (1 : Int32)), .val (.long ((d.toInt64) + (1 : Int64))), .second, .val (.double (FP.ddiv (4607182418800017408 : UInt64) (FP.l2d ((d.toInt64) + (1 : Int64))))), .second] [(.int (1 : Int32))])) _
    refine XS.goto X3.here hx rfl (pc0 := 191) (pc' := 195) rfl (hb hby at_191) (by decide) (by decide) ?_
    show Steps p.tables e below (T3.setTop (mkF m 195 #[.val (.int p1), .val (.int p2), .val (.int d), .val (.int e'), .val (.double (own_of d)), .second, .val (.double (own_of e')), .second, .val (.double (0 : UInt64)), .second, .val (.int (1 : Int32)), .val (.long ((d.toInt64) + (1 : Int64))), .second, .val (.double (FP.ddiv (4607182418800017408 : UInt64) (FP.l2d ((d.toInt64) + (1 : Int64))))), .second] [(.int (1 : Int32))])) _
    refine XS.istore X3.here hx rfl (hb hby at_195) rfl (l' := #[.val (.int p1), .val (.int p2), .val (.int d), .val (.int e'), .val (.double (own_of d)), .second, .val (.double (own_of e')), .second, .val (.double (0 : UInt64)), .second, .val (.int (1 : Int32)), .val (.long ((d.toInt64) + (1 : Int64))), .second, .val (.double (FP.ddiv (4607182418800017408 : UInt64) (FP.l2d ((d.toInt64) + (1 : Int64))))), .second]) rfl ?_
    show Steps p.tables e below (T3.setTop (mkF m 197 #[.val (.int p1), .val (.int p2), .val (.int d), .val (.int e'), .val (.double (own_of d)), .second, .val (.double (own_of e')), .second, .val (.double (0 : UInt64)), .second, .val (.int (1 : Int32)), .val (.long ((d.toInt64) + (1 : Int64))), .second, .val (.double (FP.ddiv (4607182418800017408 : UInt64) (FP.l2d ((d.toInt64) + (1 : Int64))))), .second] [])) _
    refine XS.iload X3.here hx rfl (hb hby at_197) rfl ?_
    exact k9
  obtain ⟨fs, hr, hrun, hended, hW, hsame⟩ := X3.leave (v := some (.int (1 : Int32))) (fun h => by rw [Bd.returns] at h; cases h)
  refine fin _ ⟨_, _, retN X3 hx (t := .boolean) Bd.returns (by simp) (hb hby at_199) hr, hrun, hended, _, _, rfl, ?_, ⟨_, rfl⟩, hW, hsame.mono (by decide) (by decide)⟩
  show Q0 Z p1 p2 h0 n0 _ T3.heap _
  exact ⟨rfl, N3⟩
set_option maxRecDepth 65536 in
set_option maxHeartbeats 40000000 in
theorem comes_1 {Post : Tables → Env → Array Value → State → Outcome → State → Prop} (hpost : ∀ tb e args s v u, (limb_1_1.after args s (.returned v) u = true ∧ limb_1_2.after args s (.returned v) u = true ∧ True) → FrameEnd s (.returned v) u (Jvm.fieldLocs frame_1_writes args s ++ Jvm.arrayLocs frame_1_arrays args s ++ Jvm.staticLocs frame_1_statics s) 0 0 → Post tb e args s (.returned v) u) :
    ArmFor flags0 classFile x code maxLocals ret World_1 tables_1 room_1 Calls_1 rest_1 Pre_1 Post := by
  intro l hfl _ _ p e ha hc hk s m args below hf hA hF happ hP
  obtain ⟨hcalls, hrest, hpre⟩ := hP
  obtain ⟨-, -, -, hnamed, -, -, -, hat⟩ := (Spec.applies_iff hf).mp happ
  obtain ⟨hg, hn⟩ := and_e (Cond.before_iff.mp (show (Jvm.Cond.and given_1 narrow_1).before args s = true from hpre))
  obtain ⟨hcnt, hq0⟩ := and_e hg
  obtain ⟨ha0, hq1⟩ := and_e hq0
  obtain ⟨w0, w1, rfl⟩ : ∃ w0 w1 : Value, args = #[w0, w1] := by
    have hs : args.size = 2 := by simpa [Cond.value, given_1] using hcnt
    obtain ⟨L⟩ := args
    match L, hs with
    | [w0, w1], _ => exact ⟨w0, w1, rfl⟩
  have hw := fun d (hd : d ∈ tables_1) => atoms_spec (ws := Jvm.Cond.code x code maxLocals ret :: tables_1) hat d (List.mem_cons_of_mem _ hd)
  obtain ⟨i0, ei0⟩ := is_v ha0
  obtain rfl : w0 = (.int i0) := Option.some.inj ei0
  obtain ⟨i1, ei1⟩ := is_v hq1
  obtain rfl : w1 = (.int i1) := Option.some.inj ei1
  obtain ⟨n, o, h1, h2, h3, _, L, rfl, ⟨rfl, N⟩, hq⟩ := rm0 l s _ hw tables_1 i0 i1 s.heap s.heap.size (Nat.le_refl _) p e ha hc hk s m _ below hf ((Spec.applies_iff_loose hf).mp happ).1 ⟨rfl, State.Warmed39.refl s, rfl⟩ trivial
  refine ⟨n, _, h1, h2, h3, hpost _ _ _ _ _ _ ⟨Cond.after_iff.mpr rfl, Cond.after_iff.mpr (eq_i res_at (Term.int_eval (1)) rfl), trivial⟩ ⟨hq.1, hq.2.1, (hq.2.2.sift fun y hy => Or.inr (N y hy)).mono (by decide) (by decide)⟩⟩
theorem main_1_1 : Claimed_1_1 := comes_1 fun _ _ _ _ _ _ h hF => ⟨h.1, hF⟩
theorem main_1_2 : Claimed_1_2 := comes_1 fun _ _ _ _ _ _ h hF => ⟨h.2.1, hF⟩
end Jvm.Pilot.@@N@@
namespace Jvm.Pilot.@@N@@
open Jvm Jvm.ClassFile Sem Op Lib Jvm.Free Jvm.Stand Jvm.Pilot.@@N@@.Jvm.D
/-! MADE BY PROGRAM (witnessworld.py) out of the Statement's table words and the real class files: 9 classes; the members and pool entries that the words name. The judged class is class 1, her method 1. -/
namespace start1
open Jvm.ClassFile
def u (s : String) : CpInfo := .utf8 (stringToUtf16 s)
/-- a pool by its gaps: so many unusable entries, then the entry; so many at the end -/
def gap : Nat → List CpInfo → List CpInfo
  | 0, r => r
  | n + 1, r => .unusable :: gap n r
def poolList (es : List (Nat × CpInfo)) (last : Nat) : List CpInfo := es.foldr (fun e r => gap e.1 (e.2 :: r)) (gap last [])
def pool (es : List (Nat × CpInfo)) (last : Nat) : Array CpInfo := ⟨poolList es last⟩
def fileOf (pool : Array CpInfo) (this : Nat) (attrs : Array Attribute := #[]) (ms : Array MethodInfo := #[]) (fl : Nat := 33) (sup : Nat := 0) (ifs : Array Nat := #[]) (fds : Array FieldInfo := #[]) : ClassFile where
  minorVersion := 0
  majorVersion := 65
  constantPool := pool
  accessFlags := fl
  thisClass := this
  superClass := sup
  interfaces := ifs
  fields := fds
  methods := ms
  attributes := attrs
def plain (name : String) (sup : Option ClassId) : Class where
  name := name
  kind := .ordinary
  loader := none
  accessFlags := 33
  super := sup
  interfaces := #[]
  cf := none
  fields := #[]
  methods := #[]
  instanceTypes := #[]
  staticTypes := #[]
  resolved := #[]
  callSites := []
  init := .initialized
  statics := none
  mirror := none

def pool0 : Array CpInfo := pool [(5, u "<init>"), (0, u "()V"), (1, .class_ 10), (1, u "java/lang/Object")] 113

def k0m0 : Method := { name := "<init>", desc := "()V", sig := { parameters := [], returnType := none }, accessFlags := 1, code := none }
/-- java/lang/Object -/
def k0 : Class := { plain "java/lang/Object" none with
  accessFlags := 33
  interfaces := #[]
  cf := some (fileOf pool0 8 #[] #[{ accessFlags := 1, nameIndex := 5, descriptorIndex := 6, attributes := #[] }] 33 0 #[] #[])
  fields := #[]
  methods := #[k0m0]
  instanceTypes := #[]
  staticTypes := #[]
  resolved := Array.replicate 124 none
  statics := none }

def pool1 : Array CpInfo := pool [(2, .class_ 4), (1, u "java/lang/Object"), (0, u "<init>"), (0, u "()V"), (0, .integer 2147483647), (0, .methodref 9 10), (0, .class_ 11), (0, .nameAndType 12 13), (0, u "com/example/near_rank/nearrank/Proximity"), (0, u "of"), (0, u "(I)D"), (0, .class_ 15), (0, u "com/example/near_rank/nearrank/ProximityOfPinLaw"), (2, u "law"), (0, u "(II)Z")] 3

def k1m0 : Method := { name := "<init>", desc := "()V", sig := { parameters := [], returnType := none }, accessFlags := 1, code := none }
def k1c1 : Code := { maxStack := 5, maxLocals := 15, code := code, exceptionTable := #[], attributes := #[] }
def k1m1 : Method := { name := "law", desc := "(II)Z", sig := { parameters := [.int, .int], returnType := some .boolean }, accessFlags := 9, code := some k1c1 }
/-- com/example/near_rank/nearrank/ProximityOfPinLaw -/
def k1 : Class := { plain "com/example/near_rank/nearrank/ProximityOfPinLaw" (some 0) with
  accessFlags := 49
  interfaces := #[]
  cf := some (fileOf pool1 14 #[] #[{ accessFlags := 1, nameIndex := 5, descriptorIndex := 6, attributes := #[] }, { accessFlags := 9, nameIndex := 18, descriptorIndex := 19, attributes := #[] }] 49 2 #[] #[])
  fields := #[]
  methods := #[k1m0, k1m1]
  instanceTypes := #[]
  staticTypes := #[]
  resolved := Array.replicate 23 none
  statics := none }

def pool2 : Array CpInfo := pool [(2, .class_ 4), (1, u "java/lang/Object"), (0, u "<init>"), (0, u "()V"), (0, .class_ 8), (0, u "com/example/near_rank/nearrank/Proximity"), (9, u "UNREACHABLE"), (0, u "I"), (4, u "of"), (0, u "(I)D")] 18

def k2m0 : Method := { name := "<init>", desc := "()V", sig := { parameters := [], returnType := none }, accessFlags := 2, code := none }
def k2c1 : Code := { maxStack := 6, maxLocals := 3, code := prog_24_method_2_code, exceptionTable := #[], attributes := #[] }
def k2m1 : Method := { name := "of", desc := "(I)D", sig := { parameters := [.int], returnType := some .double }, accessFlags := 9, code := some k2c1 }
/-- com/example/near_rank/nearrank/Proximity -/
def k2 : Class := { plain "com/example/near_rank/nearrank/Proximity" (some 0) with
  accessFlags := 33
  interfaces := #[]
  cf := some (fileOf pool2 7 #[] #[{ accessFlags := 2, nameIndex := 5, descriptorIndex := 6, attributes := #[] }, { accessFlags := 9, nameIndex := 24, descriptorIndex := 25, attributes := #[] }] 33 2 #[] #[{ accessFlags := 25, nameIndex := 18, descriptorIndex := 19, attributes := #[] }])
  fields := #[{ name := "UNREACHABLE", type := .int, accessFlags := 25, slot := 0, constantValue := 0 }]
  methods := #[k2m0, k2m1]
  instanceTypes := #[]
  staticTypes := #[.int]
  resolved := Array.replicate 44 none
  statics := none }

def pool3 : Array CpInfo := pool [(1, u "java/lang/Cloneable"), (0, .class_ 1), (0, u "java/lang/Object"), (0, .class_ 3)] 3

/-- java/lang/Cloneable -/
def k3 : Class := { plain "java/lang/Cloneable" (some 0) with
  accessFlags := 1537
  interfaces := #[]
  cf := some (fileOf pool3 2 #[] #[] 1537 4 #[] #[])
  fields := #[]
  methods := #[]
  instanceTypes := #[]
  staticTypes := #[]
  resolved := Array.replicate 8 none
  statics := none }

def pool4 : Array CpInfo := pool [(1, u "java/io/Serializable"), (0, .class_ 1), (0, u "java/lang/Object"), (0, .class_ 3)] 3

/-- java/io/Serializable -/
def k4 : Class := { plain "java/io/Serializable" (some 0) with
  accessFlags := 1537
  interfaces := #[]
  cf := some (fileOf pool4 2 #[] #[] 1537 4 #[] #[])
  fields := #[]
  methods := #[]
  instanceTypes := #[]
  staticTypes := #[]
  resolved := Array.replicate 8 none
  statics := none }

/-- the primitive byte -/
def k5 : Class := { plain "byte" none with kind := .primitive 'B', accessFlags := 0x411 }
/-- [B -/
def k6 : Class := { plain "[B" (some 0) with kind := .array 5 .byte, interfaces := #[3, 4], accessFlags := 1041 }

/-- the primitive int -/
def k7 : Class := { plain "int" none with kind := .primitive 'I', accessFlags := 0x411 }
/-- [I -/
def k8 : Class := { plain "[I" (some 0) with kind := .array 7 .int, interfaces := #[3, 4], accessFlags := 1041 }

def heap : Heap := #[]
def classes : Array Class := #[k0, k1, k2, k3, k4, k5, k6, k7, k8]
def interned : List (Array UInt16 × Addr) := []
def slotsUsed : Nat := 0
def theMethod : MethodId := ⟨1, 1⟩
def args0 : Array Value := #[.int 5, .int 6]
def aboutOver (below : List Frame) : State where
  vm := { classes := classes, interned := interned.toArray }
  heap := heap
  slotsUsed := slotsUsed
  threads := #[{ frames := .invoking theMethod args0 :: below }]
def below0 : List Frame := [.native { method := ⟨0, 0⟩, args := #[] }]
def about1 : State := aboutOver below0
def p0 : Program := .bare "" "" ""
def e0 : Env := launch0.env 0 0 0
theorem w_frames : about1.frames = Frame.invoking theMethod args0 :: below0 := rfl
set_option maxRecDepth 65536 in
theorem w_args : argsFit about1.vm theMethod args0 = true := by decide +kernel
set_option maxRecDepth 65536 in
theorem w_heap : heapFits about1 = true := by decide +kernel
set_option maxRecDepth 65536 in
theorem w_runnable : about1.curStatus? = some .runnable := by decide +kernel
set_option maxRecDepth 65536 in
theorem w_alone : about1.alone = true := by decide +kernel
set_option maxRecDepth 65536 in
theorem w_named : about1.methodNamed? x = some theMethod := by decide +kernel
set_option maxRecDepth 65536 in
theorem w_hears : about1.hears theMethod below0 = true := by decide +kernel
set_option maxRecDepth 65536 in
theorem w_ripe : about1.ripe theMethod args0 below0 = true := by decide +kernel
theorem w_running : about1.status = .running := rfl
set_option maxRecDepth 65536 in
theorem w_room : about1.hasRoom e0.platform room_1 = true :=
  launch0.hasRoom_least _ room_1 (by decide +kernel) (by decide +kernel) (by decide +kernel) (by decide +kernel) (by decide +kernel) (by decide +kernel)
theorem allAtoms_all (ts : List Jvm.Cond) (a : Array Jvm.Value) (st : Jvm.State) : (allAtoms ts).before a st = ts.all (fun c => c.before a st) := by
  induction ts with
  | nil => rfl
  | cons c t ih =>
    show (Jvm.Cond.and c (allAtoms t)).before a st = _
    rw [Jvm.Cond.before_and, ih, List.all_cons]
def words1 : List Jvm.Cond := Jvm.Cond.code x code maxLocals ret :: tables_1
/-- a 'code' word, met by the world's own term for the bytes: nothing is compared byte by byte -/
theorem code_word {y : MethodName} {bytes : ByteArray} {mx : Nat} {rt : Option FieldType} {a : Array Value} {s : State} {m : MethodId} {meth : Method} {c : Code} (h1 : s.methodNamed? y = some m) (h2 : s.vm.method? m = some meth) (h3 : meth.code = some c) (h4 : c.code = bytes)
    (h5 : (c.maxLocals == mx && c.exceptionTable.isEmpty && decide (c.maxStack ≤ mostOperands) && decide (meth.sig.returnType = rt) && !meth.locks && decide (parseMethodDescriptor y.desc = some meth.sig)) = true) : (Jvm.Cond.code y bytes mx rt).before a s = true := by
  simp only [Bool.and_eq_true, beq_iff_eq, Bool.not_eq_true', decide_eq_true_eq] at h5
  obtain ⟨⟨⟨⟨⟨g1, g2⟩, g3⟩, g4⟩, g5⟩, g6⟩ := h5
  simp [Cond.before, Cond.holds, Cond.value, h1, h2, h3, h4, g1, g2, g3, g4, g5, g6]
def isCode : Jvm.Cond → Bool
  | .code _ _ _ _ => true
  | _ => false
theorem all_split {L : List Jvm.Cond} {P : Jvm.Cond → Bool} (h1 : L.all (fun c => isCode c || P c) = true) (h2 : ∀ c ∈ L.filter isCode, P c = true) : L.all P = true := by
  refine List.all_eq_true.mpr fun c hc => ?_
  have h := List.all_eq_true.mp h1 c hc
  rcases Bool.eq_false_or_eq_true (isCode c) with hi | hi
  · exact h2 c (List.mem_filter.mpr ⟨hc, hi⟩)
  · simpa [hi] using h
set_option maxRecDepth 65536 in
theorem w_c0 : (Jvm.Cond.code x code maxLocals ret).before args0 about1 = true := code_word (m := ⟨1, 1⟩) (meth := k1m1) (c := k1c1) (by decide +kernel) rfl rfl rfl (by decide +kernel)
set_option maxRecDepth 65536 in
theorem w_c1 : (Jvm.Cond.code ({ cls := "com/example/near_rank/nearrank/Proximity", name := "of", desc := "(I)D" } : Jvm.MethodName) prog_24_method_2_code (3 : Nat) (Option.some Jvm.ClassFile.FieldType.double)).before args0 about1 = true := code_word (m := ⟨2, 1⟩) (meth := k2m1) (c := k2c1) (by decide +kernel) rfl rfl rfl (by decide +kernel)
def codes1 : List Jvm.Cond := [Jvm.Cond.code x code maxLocals ret, Jvm.Cond.code ({ cls := "com/example/near_rank/nearrank/Proximity", name := "of", desc := "(I)D" } : Jvm.MethodName) prog_24_method_2_code (3 : Nat) (Option.some Jvm.ClassFile.FieldType.double)]
set_option maxRecDepth 65536 in
theorem codes_eq : words1.filter isCode = codes1 := rfl
theorem w_codes : ∀ c ∈ words1.filter isCode, c.before args0 about1 = true := by
  rw [codes_eq]
  intro c hc
  simp only [codes1, List.mem_cons, List.not_mem_nil, or_false] at hc
  rcases hc with rfl | rfl
  · exact w_c0
  · exact w_c1
set_option maxRecDepth 65536 in
theorem w_t1 : words1.all (fun c => isCode c || c.before args0 about1) = true := by decide +kernel
theorem w_tables : (allAtoms (Jvm.Cond.code x code maxLocals ret :: tables_1)).before args0 about1 = true := by
  rw [allAtoms_all]
  show words1.all (fun c => c.before args0 about1) = true
  refine all_split ?_ w_codes
  rw [w_t1]
set_option maxRecDepth 65536 in
theorem w_case : (Jvm.Cond.and given_1 narrow_1).before args0 about1 = true := by decide +kernel
theorem w_applies : (headSpec (Jvm.Cond.code x code maxLocals ret :: tables_1) room_1).applies x e0.platform about1 = true :=
  (Spec.applies_iff w_frames).mpr ⟨w_running, w_runnable, w_alone, w_named, w_hears, w_ripe, w_room, w_tables⟩
theorem atStart : AtStart classFile x code maxLocals ret World_1 tables_1 room_1 Calls_1 rest_1 Pre_1 launch0 p0 e0 about1 theMethod args0 below0 :=
  ⟨lists_1, trivial, launch0.admits_env _ _ _, launch0.least_env, fairChoices_fair.cas, fairChoices_fair.clock, w_frames, w_args, w_heap, w_applies, trivial, trivial, w_case⟩
end start1
theorem witness_1 : WitnessClaimed_1 := ⟨start1.p0, start1.e0, start1.about1, start1.theMethod, start1.args0, start1.below0, start1.atStart⟩
end Jvm.Pilot.@@N@@
