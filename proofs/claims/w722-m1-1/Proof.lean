import JvmDerived
import JvmDerived.Pilot.@@N@@Statement
import JvmDerived.Pilot.@@N@@Code
set_option linter.unusedVariables false
set_option linter.unusedSimpArgs false
namespace Jvm.Pilot.@@N@@
open Jvm Jvm.ClassFile Sem Op Lib Jvm.Free Jvm.Stand Jvm.LawKit Jvm.RoadKit Bundle Jvm.Free.Fl Jvm.Pilot.@@N@@.Jvm.D
theorem own_go {tb : Tables} {e : Env} {below : List Frame} {A B : State} {F : State → Outcome → Prop} (h : ∀ t, Steps tb e below A t → Steps tb e below B t) (k : ∃ s₂ o, Steps tb e below A s₂ ∧ F s₂ o) : ∃ s₂ o, Steps tb e below B s₂ ∧ F s₂ o := by
  obtain ⟨s₂, o, h1, h2⟩ := k
  exact ⟨s₂, o, h _ h1, h2⟩
theorem own_open {tb : Tables} {e : Env} {below : List Frame} {B : State} {F : State → Outcome → Prop} (h : ∀ G : State → Prop, (∀ A B, (∀ t, Steps tb e below A t → Steps tb e below B t) → G A → G B) → (∀ A, (∃ s₂ o, Steps tb e below A s₂ ∧ F s₂ o) → G A) → G B) : ∃ s₂ o, Steps tb e below B s₂ ∧ F s₂ o :=
  h (fun A => ∃ s₂ o, Steps tb e below A s₂ ∧ F s₂ o) (fun _ _ => own_go) (fun _ k => k)
/-! ### doubles as whole numbers of least units (2^-1074), and how the operations round them -/
abbrev own_z (a : UInt64) : Int := FP.Core.zval FP.Core.b64 (FP.Core.val64 a)
def own_M : Nat := 2 ^ 1074
theorem own_M_pos : 0 < own_M := Nat.two_pow_pos _
theorem own_qmin : (-FP.Core.b64.qmin).toNat = 1074 := by decide
theorem own_zcmp {a b : UInt64} (ha : NoNaN64 a) (hb : NoNaN64 b) : FP.dcmp a b = some (compare (own_z a) (own_z b)) := FP.Core.dcmp_zval (val64_no.mp ha) (val64_no.mp hb)
theorem own_zint {i : Int} {a : UInt64} (h : FP.Core.DInt i a) : own_z a = i * (own_M : Int) := by
  have q := FP.Core.whole_zval FP.Core.good_b64 (FP.Core.val64_fits a) h
  rw [own_qmin] at q
  exact q
theorem own_fin {a : UInt64} (h : Fin64 a) : ∃ s c q, FP.Core.val64 a = .fin s c q ∧ FP.Core.fits FP.Core.b64 (.fin s c q) := by
  obtain ⟨s, c, q, e⟩ := fin64_core.mp h
  have f := FP.Core.val64_fits a
  rw [e] at f
  exact ⟨s, c, q, e, f⟩
theorem own_sum_le {a b V : UInt64} (ha : Fin64 a) (hb : Fin64 b) (hV : NoNaN64 V) (h : own_z a + own_z b ≤ own_z V) : own_z (FP.dadd a b) ≤ own_z V := by
  obtain ⟨s, c, q, e1, f1⟩ := own_fin ha
  obtain ⟨t, d, r, e2, f2⟩ := own_fin hb
  obtain ⟨sg, n, e, hs, he, hu⟩ := FP.Core.sum_units f1 f2
  show FP.Core.zval _ (FP.Core.val64 (FP.Core.dadd a b)) ≤ _
  simp only [own_z, e1, e2] at h
  rw [FP.Core.val64_dadd, e1, e2, hs]
  refine FP.Core.zval_round_le FP.Core.good_b64 (FP.Core.val64_fits V) (val64_no.mp hV) (Int.le_refl _) he ?_
  rw [hu, Int.sub_self]
  simpa using h
theorem own_sum_ge {a b V : UInt64} (ha : Fin64 a) (hb : Fin64 b) (hV : NoNaN64 V) (h : own_z V ≤ own_z a + own_z b) : own_z V ≤ own_z (FP.dadd a b) := by
  obtain ⟨s, c, q, e1, f1⟩ := own_fin ha
  obtain ⟨t, d, r, e2, f2⟩ := own_fin hb
  obtain ⟨sg, n, e, hs, he, hu⟩ := FP.Core.sum_units f1 f2
  show _ ≤ FP.Core.zval _ (FP.Core.val64 (FP.Core.dadd a b))
  simp only [own_z, e1, e2] at h
  rw [FP.Core.val64_dadd, e1, e2, hs]
  refine FP.Core.zval_round_ge FP.Core.good_b64 (FP.Core.val64_fits V) (val64_no.mp hV) (Int.le_refl _) he ?_
  rw [hu, Int.sub_self]
  simpa using h
theorem own_signed (s t : Bool) (x y : Nat) : FP.Core.signed (s != t) (x * y) = FP.Core.signed s x * FP.Core.signed t y := by
  cases s <;> cases t <;> simp [FP.Core.signed, Int.mul_neg, Int.neg_mul]
theorem own_2qmin : (FP.Core.b64.qmin - 2 * FP.Core.b64.qmin).toNat = 1074 := by decide
theorem own_mul_le {a b V : UInt64} (ha : Fin64 a) (hb : Fin64 b) (hV : NoNaN64 V) (h : own_z a * own_z b ≤ own_z V * (own_M : Int)) : own_z (FP.dmul a b) ≤ own_z V := by
  obtain ⟨s, c, q, e1, f1⟩ := own_fin ha
  obtain ⟨t, d, r, e2, f2⟩ := own_fin hb
  obtain ⟨hp, he, hu⟩ := FP.Core.product_units f1 f2
  show FP.Core.zval _ (FP.Core.val64 (FP.Core.dmul a b)) ≤ _
  simp only [own_z, e1, e2] at h
  rw [FP.Core.val64_dmul, e1, e2, hp]
  refine FP.Core.zval_round_le FP.Core.good_b64 (e0 := 2 * FP.Core.b64.qmin) (FP.Core.val64_fits V) (val64_no.mp hV) (by decide) he ?_
  rw [hu, own_signed, own_2qmin]
  exact h
theorem own_mul_ge {a b V : UInt64} (ha : Fin64 a) (hb : Fin64 b) (hV : NoNaN64 V) (h : own_z V * (own_M : Int) ≤ own_z a * own_z b) : own_z V ≤ own_z (FP.dmul a b) := by
  obtain ⟨s, c, q, e1, f1⟩ := own_fin ha
  obtain ⟨t, d, r, e2, f2⟩ := own_fin hb
  obtain ⟨hp, he, hu⟩ := FP.Core.product_units f1 f2
  show _ ≤ FP.Core.zval _ (FP.Core.val64 (FP.Core.dmul a b))
  simp only [own_z, e1, e2] at h
  rw [FP.Core.val64_dmul, e1, e2, hp]
  refine FP.Core.zval_round_ge FP.Core.good_b64 (e0 := 2 * FP.Core.b64.qmin) (FP.Core.val64_fits V) (val64_no.mp hV) (by decide) he ?_
  rw [hu, own_signed, own_2qmin]
  exact h
/-- R is the rounding of the magnitude N / D (in least units), with the sign s -/
def own_Rd (s : Bool) (R : UInt64) (N D : Nat) : Prop := ∃ (A B : Nat) (e e0 : Int), 0 < B ∧ e0 ≤ FP.Core.b64.qmin ∧ e0 ≤ e ∧ FP.Core.val64 R = FP.Core.roundRatio FP.Core.b64 s A B e ∧ FP.Core.inUnits A e e0 = N ∧ 2 ^ (FP.Core.b64.qmin - e0).toNat * B = D
theorem own_Rd_le {s : Bool} {R V : UInt64} {N D : Nat} (H : own_Rd s R N D) (hV : NoNaN64 V) (h : N ≤ FP.Core.zmag FP.Core.b64 (FP.Core.val64 V) * D) : FP.Core.zmag FP.Core.b64 (FP.Core.val64 R) ≤ FP.Core.zmag FP.Core.b64 (FP.Core.val64 V) := by
  obtain ⟨A, B, e, e0, hB, h0, h0e, hR, hN, hD⟩ := H
  rw [hR]
  refine FP.Core.zmag_roundRatio_le FP.Core.good_b64 hB (FP.Core.val64_fits V) (val64_no.mp hV) h0 h0e ?_
  rw [hN, Nat.mul_assoc, hD]
  exact h
theorem own_Rd_ge {s : Bool} {R V : UInt64} {N D : Nat} (H : own_Rd s R N D) (h : FP.Core.zmag FP.Core.b64 (FP.Core.val64 V) * D ≤ N) : FP.Core.zmag FP.Core.b64 (FP.Core.val64 V) ≤ FP.Core.zmag FP.Core.b64 (FP.Core.val64 R) := by
  obtain ⟨A, B, e, e0, hB, h0, h0e, hR, hN, hD⟩ := H
  rw [hR]
  refine FP.Core.zmag_roundRatio_ge FP.Core.good_b64 hB (FP.Core.val64_fits V) h0 h0e ?_
  rw [hN, Nat.mul_assoc, hD]
  exact h
theorem own_Rd_sgn {s : Bool} {R : UInt64} {N D : Nat} (H : own_Rd s R N D) : FP.Core.sgn (FP.Core.val64 R) = s := by
  obtain ⟨A, B, e, e0, hB, h0, h0e, hR, hN, hD⟩ := H
  rw [hR, FP.Core.sgn_roundRatio]
theorem own_Rd_nn {s : Bool} {R : UInt64} {N D : Nat} (H : own_Rd s R N D) : NoNaN64 R := by
  obtain ⟨A, B, e, e0, hB, h0, h0e, hR, hN, hD⟩ := H
  exact val64_no.mpr (by rw [hR]; exact FP.Core.roundRatio_ne_nan _ _ _ _ _)
theorem own_Rd_z {R : UInt64} {N D : Nat} (H : own_Rd false R N D) : own_z R = (FP.Core.zmag FP.Core.b64 (FP.Core.val64 R) : Int) := by
  unfold own_z FP.Core.zval
  rw [own_Rd_sgn H]
  rfl
/-- what is no greater than a finite one is finite -/
theorem own_fin_le {R V : UInt64} (hR : NoNaN64 R) (hV : Fin64 V) (h : FP.Core.zmag FP.Core.b64 (FP.Core.val64 R) ≤ FP.Core.zmag FP.Core.b64 (FP.Core.val64 V)) : Fin64 R := by
  have h1 := FP.Core.DFin.zval_lt (fin64_core.mp hV)
  refine fin64_core.mpr ?_
  have h2 := val64_no.mp hR
  unfold FP.Core.DFin
  cases hv : FP.Core.val64 R with
  | nan => exact absurd hv h2
  | inf s =>
    rw [hv] at h
    have h3 : FP.Core.zmag FP.Core.b64 (.inf s) = FP.Core.b64.tails * 2 ^ (FP.Core.b64.exps - 2) := rfl
    rw [h3] at h
    exact absurd (Nat.lt_of_lt_of_le h1 h) (Nat.lt_irrefl _)
  | fin s c q => exact ⟨s, c, q, rfl⟩
/-- the relative error of a rounding that is no subnormal one: at most 2^-53 -/
theorem own_Rd_rel {s : Bool} {R : UInt64} {N D : Nat} (H : own_Rd s R N D) (hf : Fin64 R) (hn : 2 ^ 52 * D ≤ N) :
    2 ^ 53 * N ≤ 2 ^ 53 * (FP.Core.zmag FP.Core.b64 (FP.Core.val64 R) * D) + N ∧ 2 ^ 53 * (FP.Core.zmag FP.Core.b64 (FP.Core.val64 R) * D) ≤ 2 ^ 53 * N + N := by
  obtain ⟨A, B, e, e0, hB, h0, h0e, hR, hN, hD⟩ := H
  obtain ⟨t, c, q, ev, hfit⟩ := own_fin hf
  rw [ev] at hR
  have hA : A ≠ 0 := by
    rintro rfl
    have hD0 : 0 < D := by rw [← hD]; exact Nat.mul_pos (Nat.two_pow_pos _) hB
    have hN0 : N = 0 := by rw [← hN]; simp [FP.Core.inUnits]
    have : 0 < 2 ^ 52 * D := Nat.mul_pos (by decide) hD0
    omega
  have g1 := FP.Core.quantum_ge FP.Core.b64 A B e
  have g2 := FP.Core.nearest_units_le (f := FP.Core.b64) (Nat.pos_of_ne_zero hA) hB e
  have g3 := FP.Core.quantum_not_below (f := FP.Core.b64) (Nat.pos_of_ne_zero hA) hB e
  unfold FP.Core.roundRatio at hR
  rw [if_neg hA] at hR
  unfold FP.Core.roundAt at hR
  generalize FP.Core.quantum FP.Core.b64 A B e = r at hR g1 g2 g3
  have hv := (FP.Core.settle_value FP.Core.good_b64 (e0 := e0) g2 hR.symm (by omega)).2
  have hz := FP.Core.units_fin hfit h0
  have ha : FP.Core.inUnits A e e0 = FP.Core.unitsNum A e r * 2 ^ (min e r - e0).toNat := by
    unfold FP.Core.inUnits FP.Core.unitsNum
    rw [show (e - e0).toNat = (e - r).toNat + (min e r - e0).toNat by omega, Nat.pow_add, Nat.mul_assoc]
  have hDr : B * 2 ^ (r - e0).toNat = FP.Core.unitsDen B e r * 2 ^ (min e r - e0).toNat := by
    unfold FP.Core.unitsDen
    rw [show (r - e0).toNat = (r - e).toNat + (min e r - e0).toNat by omega, Nat.pow_add, Nat.mul_assoc]
  have hP := Nat.two_pow_pos (min e r - e0).toNat
  have hup := FP.Core.unitsDen_pos hB e r
  have hk : 2 ^ 52 * FP.Core.unitsDen B e r ≤ FP.Core.unitsNum A e r := by
    rcases g3 with g3 | g3
    · subst g3
      rw [← hN, ha, ← hD, Nat.mul_comm _ B, hDr, ← Nat.mul_assoc] at hn
      exact Nat.le_of_mul_le_mul_right hn hP
    · rw [show ((FP.Core.b64.p : Nat) : Int) - 1 = ((52 : Nat) : Int) by decide, ← FP.Core.units_below] at g3
      exact Nat.le_of_not_lt g3
  obtain ⟨n1, n2, -⟩ := FP.Core.nearest_spec (FP.Core.unitsNum A e r) (FP.Core.unitsDen B e r) hup
  have hX : FP.Core.zmag FP.Core.b64 (FP.Core.val64 R) * D = FP.Core.nearest (FP.Core.unitsNum A e r) (FP.Core.unitsDen B e r) * FP.Core.unitsDen B e r * 2 ^ (min e r - e0).toNat := by
    rw [ev, ← hD, ← Nat.mul_assoc, ← hz, hv]
    unfold FP.Core.inUnits
    rw [Nat.mul_assoc, Nat.mul_comm (2 ^ (r - e0).toNat) B, hDr, Nat.mul_assoc]
  rw [hX, ← hN, ha]
  generalize 2 ^ (min e r - e0).toNat = P at *
  generalize FP.Core.nearest (FP.Core.unitsNum A e r) (FP.Core.unitsDen B e r) = k at *
  generalize FP.Core.unitsNum A e r = n at *
  generalize FP.Core.unitsDen B e r = d at *
  have e1 : (2 * k + 1) * d = 2 * (k * d) + d := by rw [Nat.add_mul, Nat.one_mul, Nat.mul_assoc]
  have e2 : 2 * k * d = 2 * (k * d) := Nat.mul_assoc ..
  rw [e1] at n1
  rw [e2] at n2
  generalize k * d = kd at *
  have m1 : 2 ^ 53 * n ≤ 2 ^ 53 * kd + n := by omega
  have m2 : 2 ^ 53 * kd ≤ 2 ^ 53 * n + n := by omega
  have l1 := Nat.mul_le_mul_right P m1
  have l2 := Nat.mul_le_mul_right P m2
  rw [Nat.add_mul, Nat.mul_assoc, Nat.mul_assoc] at l1 l2
  exact ⟨l1, l2⟩
theorem own_sgn_pos {a : UInt64} (h : 0 < own_z a) : FP.Core.sgn (FP.Core.val64 a) = false := by
  unfold own_z FP.Core.zval at h
  cases hs : FP.Core.sgn (FP.Core.val64 a)
  · rfl
  · rw [hs] at h
    simp only [FP.Core.signed, if_true] at h
    omega
theorem own_zmag {a : UInt64} (h : FP.Core.sgn (FP.Core.val64 a) = false) : own_z a = (FP.Core.zmag FP.Core.b64 (FP.Core.val64 a) : Int) := by
  unfold own_z FP.Core.zval
  rw [h]
  rfl
theorem own_Rd_div {a b : UInt64} (ha : Fin64 a) (hb : Fin64 b) (pb : FP.Core.zmag FP.Core.b64 (FP.Core.val64 b) ≠ 0) :
    own_Rd (FP.Core.sgn (FP.Core.val64 a) != FP.Core.sgn (FP.Core.val64 b)) (FP.ddiv a b) (FP.Core.zmag FP.Core.b64 (FP.Core.val64 a) * own_M) (FP.Core.zmag FP.Core.b64 (FP.Core.val64 b)) := by
  obtain ⟨s, c, q, e1, f1⟩ := own_fin ha
  obtain ⟨t, d, r, e2, f2⟩ := own_fin hb
  have hq := f1.2.1
  have hr := f2.2.1
  have hqm : FP.Core.b64.qmin = -1074 := by decide
  rw [e2] at pb
  have hd : d ≠ 0 := by
    rintro rfl
    exact pb (by simp [FP.Core.zmag, FP.Core.inUnits])
  refine ⟨c, d, q - r, FP.Core.b64.qmin - (r - FP.Core.b64.qmin), Nat.pos_of_ne_zero hd, by omega, by omega, ?_, ?_, ?_⟩
  · show FP.Core.val64 (FP.Core.ddiv a b) = _
    rw [FP.Core.val64_ddiv, e1, e2]
    show (if d = 0 then _ else _) = _
    rw [if_neg hd]
    rfl
  · rw [e1]
    show _ = FP.Core.inUnits c q FP.Core.b64.qmin * own_M
    unfold FP.Core.inUnits own_M
    rw [show (q - r - (FP.Core.b64.qmin - (r - FP.Core.b64.qmin))).toNat = (q - FP.Core.b64.qmin).toNat + 1074 by omega, Nat.pow_add, Nat.mul_assoc]
  · rw [e2]
    show _ = FP.Core.inUnits d r FP.Core.b64.qmin
    unfold FP.Core.inUnits
    rw [show (FP.Core.b64.qmin - (FP.Core.b64.qmin - (r - FP.Core.b64.qmin))).toNat = (r - FP.Core.b64.qmin).toNat by omega, Nat.mul_comm]
theorem own_Rd_mul {a b : UInt64} (ha : Fin64 a) (hb : Fin64 b) :
    own_Rd (FP.Core.sgn (FP.Core.val64 a) != FP.Core.sgn (FP.Core.val64 b)) (FP.dmul a b) (FP.Core.zmag FP.Core.b64 (FP.Core.val64 a) * FP.Core.zmag FP.Core.b64 (FP.Core.val64 b)) own_M := by
  obtain ⟨s, c, q, e1, f1⟩ := own_fin ha
  obtain ⟨t, d, r, e2, f2⟩ := own_fin hb
  obtain ⟨hp, he, hu⟩ := FP.Core.product_units f1 f2
  refine ⟨c * d, 1, q + r, 2 * FP.Core.b64.qmin, by decide, by decide, he, ?_, ?_, ?_⟩
  · show FP.Core.val64 (FP.Core.dmul a b) = _
    rw [FP.Core.val64_dmul, e1, e2, hp]
    rfl
  · rw [e1, e2]; exact hu
  · rw [own_2qmin, Nat.mul_one]; rfl
theorem own_Rd_add {a b : UInt64} (ha : Fin64 a) (hb : Fin64 b) : ∃ s, own_Rd s (FP.dadd a b) (own_z a + own_z b).natAbs 1 ∧ (0 < own_z a + own_z b → s = false) := by
  obtain ⟨s, c, q, e1, f1⟩ := own_fin ha
  obtain ⟨t, d, r, e2, f2⟩ := own_fin hb
  obtain ⟨sg, n, e, hs, he, hu⟩ := FP.Core.sum_units f1 f2
  have hz : own_z a + own_z b = FP.Core.signed sg (FP.Core.inUnits n e FP.Core.b64.qmin) := by unfold own_z; rw [e1, e2, hu]
  refine ⟨sg, ⟨n, 1, e, FP.Core.b64.qmin, by decide, Int.le_refl _, he, ?_, ?_, ?_⟩, ?_⟩
  · show FP.Core.val64 (FP.Core.dadd a b) = _
    rw [FP.Core.val64_dadd, e1, e2, hs]
    rfl
  · rw [hz]; cases sg <;> simp [FP.Core.signed]
  · rw [Int.sub_self]; rfl
  · rw [hz]; cases sg <;> simp [FP.Core.signed] <;> omega
/-! ### exact values in least units -/
theorem own_repu (s : Bool) (c k : Nat) (hc : c < 2 ^ 53) (hk : k ≤ 1900) : ∃ V : UInt64, Fin64 V ∧ own_z V = FP.Core.signed s (c * 2 ^ k) ∧ FP.Core.zmag FP.Core.b64 (FP.Core.val64 V) = c * 2 ^ k := by
  have hq : FP.Core.b64.qmin = -1074 := by decide
  have hm : FP.Core.b64.qmax = 971 := by decide
  obtain ⟨c', q', h1, h2⟩ := FP.Core.round_exact FP.Core.good_b64 s (c := c) (q := (k : Int) - 1074) hc (by omega) (by omega)
  have hf := FP.Core.round_fits FP.Core.good_b64 (.fin s c ((k : Int) - 1074))
  have hv := FP.Core.val64_of64 hf
  have hu : FP.Core.inUnits c' q' FP.Core.b64.qmin = c * 2 ^ k := by
    rw [h2]
    unfold FP.Core.inUnits
    rw [show ((k : Int) - 1074 - FP.Core.b64.qmin).toNat = k by omega]
  refine ⟨FP.Core.of64 (FP.Core.round FP.Core.b64 (.fin s c ((k : Int) - 1074))), fin64_core.mpr ⟨_, _, _, hv.trans h1⟩, ?_, ?_⟩
  · unfold own_z
    rw [hv, h1]
    show FP.Core.signed s (FP.Core.inUnits c' q' FP.Core.b64.qmin) = _
    rw [hu]
  · rw [hv, h1]
    exact hu
/-- a whole number of fewer than 54 digits, in units of 2^k -/
theorem own_repi (i : Int) (k : Nat) (h : i.natAbs < 2 ^ 53) (hk : k ≤ 1900) : ∃ V : UInt64, Fin64 V ∧ own_z V = i * ((2 ^ k : Nat) : Int) ∧ FP.Core.zmag FP.Core.b64 (FP.Core.val64 V) = i.natAbs * 2 ^ k := by
  obtain ⟨V, f, z, m⟩ := own_repu (decide (i < 0)) i.natAbs k h hk
  refine ⟨V, f, ?_, m⟩
  rw [z]
  unfold FP.Core.signed
  by_cases hi : i < 0
  · rw [if_pos (decide_eq_true hi), Int.natCast_mul, ← Int.neg_mul]
    congr 1
    omega
  · rw [if_neg (by simpa using hi), Int.natCast_mul]
    congr 1
    omega
theorem own_sum_eq {a b V : UInt64} (ha : Fin64 a) (hb : Fin64 b) (hV : Fin64 V) (h : own_z a + own_z b = own_z V) : own_z (FP.dadd a b) = own_z V :=
  Int.le_antisymm (own_sum_le ha hb hV.noNaN (Int.le_of_eq h)) (own_sum_ge ha hb hV.noNaN (Int.le_of_eq h.symm))
theorem own_zmag_abs (a : UInt64) : FP.Core.zmag FP.Core.b64 (FP.Core.val64 a) = (own_z a).natAbs := by
  unfold own_z FP.Core.zval
  cases FP.Core.sgn (FP.Core.val64 a) <;> simp [FP.Core.signed]
/-- a quotient that is exact -/
theorem own_div_eq {a b V : UInt64} (ha : Fin64 a) (hb : Fin64 b) (hV : Fin64 V) (pb : 0 < own_z b) (h : own_z a * (own_M : Int) = own_z V * own_z b) : own_z (FP.ddiv a b) = own_z V := by
  have mb : FP.Core.zmag FP.Core.b64 (FP.Core.val64 b) ≠ 0 := by rw [own_zmag_abs]; omega
  have H := own_Rd_div ha hb mb
  have sb := own_sgn_pos pb
  have hn : FP.Core.zmag FP.Core.b64 (FP.Core.val64 a) * own_M = FP.Core.zmag FP.Core.b64 (FP.Core.val64 V) * FP.Core.zmag FP.Core.b64 (FP.Core.val64 b) := by
    have q := congrArg Int.natAbs h
    rw [Int.natAbs_mul, Int.natAbs_mul, Int.natAbs_natCast] at q
    rw [own_zmag_abs, own_zmag_abs, own_zmag_abs]
    exact q
  have e1 := own_Rd_le H hV.noNaN (Nat.le_of_eq hn)
  have e2 := own_Rd_ge (V := V) H (Nat.le_of_eq hn.symm)
  have e3 : FP.Core.zmag FP.Core.b64 (FP.Core.val64 (FP.ddiv a b)) = FP.Core.zmag FP.Core.b64 (FP.Core.val64 V) := Nat.le_antisymm e1 e2
  have hs := own_Rd_sgn H
  rw [sb] at hs
  have mp := own_M_pos
  by_cases hz : own_z V = 0
  · have : FP.Core.zmag FP.Core.b64 (FP.Core.val64 (FP.ddiv a b)) = 0 := by rw [e3, own_zmag_abs, hz]; rfl
    rw [own_zmag_abs] at this
    omega
  · have hsv : FP.Core.sgn (FP.Core.val64 a) = FP.Core.sgn (FP.Core.val64 V) := by
      have za : own_z a = FP.Core.signed (FP.Core.sgn (FP.Core.val64 a)) (FP.Core.zmag FP.Core.b64 (FP.Core.val64 a)) := rfl
      have zv : own_z V = FP.Core.signed (FP.Core.sgn (FP.Core.val64 V)) (FP.Core.zmag FP.Core.b64 (FP.Core.val64 V)) := rfl
      rcases Int.lt_or_lt_of_ne hz with h1 | h1
      · have h2 : own_z a < 0 := by
          refine Int.lt_of_not_ge fun hge => ?_
          have := Int.mul_nonneg hge (Int.natCast_nonneg own_M)
          have h3 := Int.mul_neg_of_neg_of_pos h1 pb
          omega
        cases hsa : FP.Core.sgn (FP.Core.val64 a) <;> cases hsV : FP.Core.sgn (FP.Core.val64 V) <;> rw [hsa] at za <;> rw [hsV] at zv <;> simp only [FP.Core.signed, if_true] at za zv <;> simp at za zv ⊢ <;> omega
      · have h2 : 0 < own_z a := by
          refine Int.lt_of_not_ge fun hge => ?_
          have := Int.mul_nonpos_of_nonpos_of_nonneg hge (Int.natCast_nonneg own_M)
          have h3 := Int.mul_pos h1 pb
          omega
        rw [own_sgn_pos h1, own_sgn_pos h2]
    unfold own_z FP.Core.zval
    rw [hs, e3, hsv]
    simp
theorem own_sta {Z : State} {h h' : Heap} {C n d : String} {w : Value} (F : Sta Z h C n d w) (K : Keep h h' []) : Sta Z h' C n d w := by
  obtain ⟨cf, i, k, f, st, cell, h1, h2, h3, h4, h5, r⟩ := F
  exact ⟨cf, i, k, f, st, cell, h1, h2, h3, h4, K.2.1 _ _ h5 nin0, r⟩
theorem own_fldeq {args : Array Value} {s : State} {t : Term} {C n d : String} {k : Int32} {u : Addr} (ht : t.eval args s none [] s = some (.ref u)) (h : (Jvm.Cond.eq (Term.field t C n d) (Term.int k)).value args s none s [] = some true) : Fld s s.heap u C n d (.int k) := by
  obtain ⟨x, y, hx, hy, k1, k2⟩ := cmp_v (Or.inl h)
  rw [Term.int_eval] at hy
  cases hy
  obtain ⟨z, rfl⟩ := k2
  have q := gotT (Cond.eq_ints hx (Term.int_eval k)) h
  subst q
  exact Fld.start ((fld_at ht).symm.trans hx)
abbrev own_K : UInt64 := 4607182423303617035
abbrev own_C24 : UInt64 := 4715268809856909312
abbrev own_half : UInt64 := 4602678819172646912
def own_U : Nat := 2 ^ 1022
theorem own_U_pos : 0 < own_U := Nat.two_pow_pos _
theorem own_MU : (own_M : Int) = 4503599627370496 * (own_U : Int) := by decide +kernel
theorem own_K_z : own_z own_K = 4503604130970123 * (own_U : Int) := by decide +kernel
theorem own_K_fin : Fin64 own_K := by unfold Fin64; decide
theorem own_K_mag : Mag64 1024 own_K := by unfold Mag64; decide
theorem own_C24_z : own_z own_C24 = 16777216 * (own_M : Int) := by decide +kernel
theorem own_C24_fin : Fin64 own_C24 := by unfold Fin64; decide
theorem own_half_z : own_z own_half = 2251799813685248 * (own_U : Int) := by decide +kernel
theorem own_half_fin : Fin64 own_half := by unfold Fin64; decide
theorem own_zero_fin : Fin64 0 := by unfold Fin64; decide
theorem own_i2d_z (c : Int32) : own_z (FP.i2d c) = (c.toInt * 4503599627370496) * (own_U : Int) := by
  rw [own_zint (FP.Core.i2d_int c), own_MU, Int.mul_assoc]
theorem own_ltU {a b : Int} : a * (own_U : Int) < b * (own_U : Int) ↔ a < b := by
  have := own_U_pos
  exact Int.mul_lt_mul_right (by omega)
theorem own_leU {a b : Int} : a * (own_U : Int) ≤ b * (own_U : Int) ↔ a ≤ b := by
  have := own_U_pos
  exact Int.mul_le_mul_right (by omega)
/-- what exceeds answers, of either rule -/
def own_excA (d : UInt64) (c : Int32) : Int32 := if (0 : Int32) < cmpValue (FP.dcmp d (FP.i2d c)) .l then 1 else 0
def own_excE (d : UInt64) (c : Int32) : Int32 := if (0 : Int32) < cmpValue (FP.dcmp d (FP.dmul (FP.i2d c) own_K)) .l then 1 else 0
theorem own_cmpdef (a b : Int) : compare a b = if a < b then .lt else if a = b then .eq else .gt := rfl
theorem own_cmp1 {a b : UInt64} (ha : NoNaN64 a) (hb : NoNaN64 b) (h : own_z b < own_z a) : (if (0 : Int32) < cmpValue (FP.dcmp a b) .l then (1 : Int32) else 0) = 1 := by
  rw [own_zcmp ha hb, own_cmpdef, if_neg (show ¬ own_z a < own_z b by omega), if_neg (show ¬ own_z a = own_z b by omega)]
  rfl
theorem own_cmp0 {a b : UInt64} (ha : NoNaN64 a) (hb : NoNaN64 b) (h : own_z a ≤ own_z b) : (if (0 : Int32) < cmpValue (FP.dcmp a b) .l then (1 : Int32) else 0) = 0 := by
  rw [own_zcmp ha hb, own_cmpdef]
  by_cases q : own_z a < own_z b
  · rw [if_pos q]; rfl
  · rw [if_neg q, if_pos (show own_z a = own_z b by omega)]; rfl
theorem own_mul_mag (c : Int32) : Mag64 1058 (FP.dmul (FP.i2d c) own_K) := (dmul_mag (i2d_mag c) own_K_mag (by decide) (by decide)).mono (by decide)
theorem own_mul_nn (c : Int32) : NoNaN64 (FP.dmul (FP.i2d c) own_K) := ((own_mul_mag c).fin (by decide)).noNaN
/-- c * 1.000001, rounded, against a double's value -/
theorem own_mul_lo {c : Int32} {V : UInt64} {t : Int} (hV : NoNaN64 V) (zV : own_z V = t * (own_U : Int)) (h : t ≤ c.toInt * 4503604130970123) : t * (own_U : Int) ≤ own_z (FP.dmul (FP.i2d c) own_K) := by
  rw [← zV]
  refine own_mul_ge (i2d_fin c) own_K_fin hV ?_
  rw [zV, own_zint (FP.Core.i2d_int c), own_K_z]
  have e1 : t * (own_U : Int) * (own_M : Int) = t * ((own_U : Int) * (own_M : Int)) := Int.mul_assoc ..
  have e2 : c.toInt * (own_M : Int) * (4503604130970123 * (own_U : Int)) = c.toInt * 4503604130970123 * ((own_U : Int) * (own_M : Int)) := by
    rw [Int.mul_assoc, Int.mul_assoc, Int.mul_left_comm (own_M : Int), Int.mul_comm (own_M : Int)]
  rw [e1, e2]
  exact Int.mul_le_mul_of_nonneg_right h (Int.mul_nonneg (Int.natCast_nonneg _) (Int.natCast_nonneg _))
theorem own_mul_hi {c : Int32} {V : UInt64} {t : Int} (hV : NoNaN64 V) (zV : own_z V = t * (own_U : Int)) (h : c.toInt * 4503604130970123 ≤ t) : own_z (FP.dmul (FP.i2d c) own_K) ≤ t * (own_U : Int) := by
  rw [← zV]
  refine own_mul_le (i2d_fin c) own_K_fin hV ?_
  rw [zV, own_zint (FP.Core.i2d_int c), own_K_z]
  have e1 : t * (own_U : Int) * (own_M : Int) = t * ((own_U : Int) * (own_M : Int)) := Int.mul_assoc ..
  have e2 : c.toInt * (own_M : Int) * (4503604130970123 * (own_U : Int)) = c.toInt * 4503604130970123 * ((own_U : Int) * (own_M : Int)) := by
    rw [Int.mul_assoc, Int.mul_assoc, Int.mul_left_comm (own_M : Int), Int.mul_comm (own_M : Int)]
  rw [e1, e2]
  exact Int.mul_le_mul_of_nonneg_right h (Int.mul_nonneg (Int.natCast_nonneg _) (Int.natCast_nonneg _))
theorem own_Ubig : 2 ^ 52 ≤ own_U := by decide +kernel
/-- c * 1.000001, rounded, is below c * (1 + 17 / 2^24) -/
theorem own_mul_rel {c : Int32} (hc : 0 < c.toInt) {t : Int} (h : c.toInt * 4503604190773248 ≤ t) : own_z (FP.dmul (FP.i2d c) own_K) < t * (own_U : Int) := by
  obtain ⟨k, hk⟩ := Int.eq_ofNat_of_zero_le (show 0 ≤ c.toInt by omega)
  have mp := own_M_pos
  have up := own_U_pos
  have zc : own_z (FP.i2d c) = ((k * own_M : Nat) : Int) := by rw [own_zint (FP.Core.i2d_int c), hk, Int.natCast_mul]
  have zk : own_z own_K = ((4503604130970123 * own_U : Nat) : Int) := by rw [own_K_z, Int.natCast_mul]; rfl
  have pc : 0 < own_z (FP.i2d c) := by rw [zc]; have := Nat.mul_pos (show 0 < k by omega) mp; omega
  have pk : 0 < own_z own_K := by rw [zk]; omega
  have mc : FP.Core.zmag FP.Core.b64 (FP.Core.val64 (FP.i2d c)) = k * own_M := by rw [own_zmag_abs, zc]; rfl
  have mk : FP.Core.zmag FP.Core.b64 (FP.Core.val64 own_K) = 4503604130970123 * own_U := by rw [own_zmag_abs, zk]; rfl
  have H := own_Rd_mul (i2d_fin c) own_K_fin
  rw [own_sgn_pos pc, own_sgn_pos pk, mc, mk] at H
  have H : own_Rd false (FP.dmul (FP.i2d c) own_K) (k * own_M * (4503604130970123 * own_U)) own_M := H
  have e1 : k * own_M * (4503604130970123 * own_U) = 4503604130970123 * (k * own_U) * own_M := by
    rw [Nat.mul_right_comm, Nat.mul_left_comm k]
  rw [e1] at H
  have ub := own_Ubig
  have kU : own_U ≤ k * own_U := Nat.le_mul_of_pos_left _ (by omega)
  obtain ⟨-, r2⟩ := own_Rd_rel H ((own_mul_mag c).fin (by decide)) (Nat.mul_le_mul_right _ (by omega))
  have zR := own_Rd_z H
  rw [zR]
  generalize FP.Core.zmag FP.Core.b64 (FP.Core.val64 (FP.dmul (FP.i2d c) own_K)) = R at *
  have r3 : 2 ^ 53 * R ≤ 2 ^ 53 * (4503604130970123 * (k * own_U)) + 4503604130970123 * (k * own_U) := by
    refine Nat.le_of_mul_le_mul_right (c := own_M) ?_ mp
    rw [Nat.add_mul, Nat.mul_assoc (2 ^ 53), Nat.mul_assoc (2 ^ 53)]
    exact r2
  have h2 : c.toInt * 4503604190773248 * (own_U : Int) ≤ t * (own_U : Int) := own_leU.mpr h
  refine Int.lt_of_lt_of_le ?_ h2
  rw [hk]
  have e2 : (k : Int) * 4503604190773248 * (own_U : Int) = ((4503604190773248 * (k * own_U) : Nat) : Int) := by
    rw [Int.natCast_mul, Int.natCast_mul, Int.mul_comm (k : Int), Int.mul_assoc]
    rfl
  rw [e2]
  generalize k * own_U = x at *
  omega
/-- the load of the relative inputs: c + (c * j) / 2^24, exact -/
theorem own_load {c j : Int32} (h0 : 0 ≤ c.toInt) (h1 : c.toInt < 268435456) (j0 : -32 ≤ j.toInt) (j1 : j.toInt ≤ 31) :
    own_z (FP.dadd (FP.i2d c) (FP.ddiv (FP.l2d (c.toInt64 * j.toInt64)) own_C24)) = (c.toInt * (16777216 + j.toInt) * 268435456) * (own_U : Int) := by
  have e1 : (c.toInt64 * j.toInt64 : Int64).toInt = c.toInt * j.toInt := by
    have q := c_lmul c.toInt64 j.toInt64
    have r := rng64 (c.toInt64 * j.toInt64)
    rw [c_i2l, c_i2l] at q
    have b1 : c.toInt * j.toInt ≤ c.toInt * 31 := Int.mul_le_mul_of_nonneg_left j1 h0
    have b2 : c.toInt * (-32) ≤ c.toInt * j.toInt := Int.mul_le_mul_of_nonneg_left j0 h0
    generalize c.toInt * j.toInt = x at *
    omega
  have b1 : c.toInt * j.toInt ≤ c.toInt * 31 := Int.mul_le_mul_of_nonneg_left j1 h0
  have b2 : c.toInt * (-32) ≤ c.toInt * j.toInt := Int.mul_le_mul_of_nonneg_left j0 h0
  obtain ⟨V, fV, zV, -⟩ := own_repi (c.toInt * j.toInt) 1050 (by omega) (by decide)
  have u50 : ((2 ^ 1050 : Nat) : Int) = 268435456 * (own_U : Int) := by decide +kernel
  have zl : own_z (FP.l2d (c.toInt64 * j.toInt64)) = (c.toInt * j.toInt) * (own_M : Int) := by rw [own_zint (FP.Core.l2d_int (by rw [e1]; omega)), e1]
  have mp := own_M_pos
  have zq : own_z (FP.ddiv (FP.l2d (c.toInt64 * j.toInt64)) own_C24) = own_z V := by
    refine own_div_eq (l2d_fin _) own_C24_fin fV (by rw [own_C24_z]; omega) ?_
    rw [zl, zV, own_C24_z, u50]
    have : (own_M : Int) = 268435456 * (own_U : Int) * 16777216 := by rw [own_MU]; omega
    rw [Int.mul_assoc (c.toInt * j.toInt), Int.mul_assoc (c.toInt * j.toInt), ← Int.mul_assoc (268435456 * (own_U : Int)), ← this]
  have fq : Fin64 (FP.ddiv (FP.l2d (c.toInt64 * j.toInt64)) own_C24) := by
    refine own_fin_le (V := V) (ddiv_out (l2d_fin _).noNaN own_C24_fin (by unfold Nz64; decide)) fV ?_
    rw [own_zmag_abs, own_zmag_abs, zq]
    exact Nat.le_refl _
  have b3 : c.toInt * (16777216 + j.toInt) = c.toInt * 16777216 + c.toInt * j.toInt := Int.mul_add ..
  obtain ⟨W, fW, zW, -⟩ := own_repi (c.toInt * (16777216 + j.toInt)) 1050 (by rw [b3]; omega) (by decide)
  have es : own_z (FP.dadd (FP.i2d c) (FP.ddiv (FP.l2d (c.toInt64 * j.toInt64)) own_C24)) = own_z W := by
    refine own_sum_eq (i2d_fin c) fq fW ?_
    rw [zq, zV, zW, own_zint (FP.Core.i2d_int c), b3, Int.add_mul, u50, own_MU]
    have e : (16777216 : Int) * (268435456 * (own_U : Int)) = 4503599627370496 * (own_U : Int) := by omega
    rw [Int.mul_assoc c.toInt 16777216, e]
  rw [es, zW, u50, ← Int.mul_assoc]
theorem own_div_nn (c j : Int32) : NoNaN64 (FP.ddiv (FP.l2d (c.toInt64 * j.toInt64)) own_C24) := ddiv_out (l2d_fin _).noNaN own_C24_fin (by unfold Nz64; decide)
theorem own_load_nn (c j : Int32) : NoNaN64 (FP.dadd (FP.i2d c) (FP.ddiv (FP.l2d (c.toInt64 * j.toInt64)) own_C24)) := dadd_out' (i2d_fin c) (own_div_nn c j)
theorem own_relA {c j : Int32} (h0 : 0 ≤ c.toInt) (h1 : c.toInt < 268435456) (j0 : -32 ≤ j.toInt) (j1 : j.toInt ≤ 31) :
    own_excA (FP.dadd (FP.i2d c) (FP.ddiv (FP.l2d (c.toInt64 * j.toInt64)) own_C24)) c = (if (0 : Int32) < c then (if (0 : Int32) < j then (1 : Int32) else (0 : Int32)) else (0 : Int32)) := by
  have zl := own_load h0 h1 j0 j1
  have zi := own_i2d_z c
  have o : (0 : Int32).toInt = 0 := rfl
  have nl := own_load_nn c j
  have ni := (i2d_fin c).noNaN
  simp only [Int32.lt_iff_toInt_lt, o]
  have b3 : c.toInt * (16777216 + j.toInt) = c.toInt * 16777216 + c.toInt * j.toInt := Int.mul_add ..
  by_cases hc : 0 < c.toInt
  · rw [if_pos hc]
    by_cases hj : 0 < j.toInt
    · rw [if_pos hj]
      refine own_cmp1 nl ni ?_
      rw [zl, zi, own_ltU, b3]
      have := Int.mul_pos hc hj
      omega
    · rw [if_neg hj]
      refine own_cmp0 nl ni ?_
      rw [zl, zi, own_leU, b3]
      have : c.toInt * j.toInt ≤ c.toInt * 0 := Int.mul_le_mul_of_nonneg_left (by omega) h0
      omega
  · rw [if_neg hc]
    refine own_cmp0 nl ni ?_
    have hz : c.toInt = 0 := by omega
    rw [zl, zi, hz]
    simp
theorem own_relE {c j : Int32} (h0 : 0 ≤ c.toInt) (h1 : c.toInt < 268435456) (j0 : -32 ≤ j.toInt) (j1 : j.toInt ≤ 31) :
    own_excE (FP.dadd (FP.i2d c) (FP.ddiv (FP.l2d (c.toInt64 * j.toInt64)) own_C24)) c = (if (0 : Int32) < c then (if j < (17 : Int32) then (0 : Int32) else (1 : Int32)) else (0 : Int32)) := by
  have zl := own_load h0 h1 j0 j1
  have o : (0 : Int32).toInt = 0 := rfl
  have o17 : (17 : Int32).toInt = 17 := rfl
  have nl := own_load_nn c j
  have nm := own_mul_nn c
  simp only [Int32.lt_iff_toInt_lt, o, o17]
  have b3 : c.toInt * (16777216 + j.toInt) = c.toInt * 16777216 + c.toInt * j.toInt := Int.mul_add ..
  by_cases hc : 0 < c.toInt
  · rw [if_pos hc]
    by_cases hj : j.toInt < 17
    · rw [if_pos hj]
      refine own_cmp0 nl nm ?_
      rw [zl]
      refine own_mul_lo nl zl ?_
      rw [b3]
      have : c.toInt * j.toInt ≤ c.toInt * 16 := Int.mul_le_mul_of_nonneg_left (by omega) h0
      omega
    · rw [if_neg hj]
      refine own_cmp1 nl nm ?_
      rw [zl]
      refine own_mul_rel hc ?_
      rw [b3]
      have : c.toInt * 17 ≤ c.toInt * j.toInt := Int.mul_le_mul_of_nonneg_left (by omega) h0
      omega
  · rw [if_neg hc]
    refine own_cmp0 nl nm ?_
    rw [zl]
    refine own_mul_lo nl zl ?_
    have hz : c.toInt = 0 := by omega
    rw [hz]
    simp
/-- the plain loads: lo, and lo + 0.5 -/
theorem own_lo_z (lo : Int32) : own_z (FP.dadd (FP.i2d lo) 0) = (lo.toInt * 4503599627370496) * (own_U : Int) := by
  have z0 : own_z 0 = 0 := FP.Core.zval64_zero
  rw [own_sum_eq (V := FP.i2d lo) (i2d_fin lo) own_zero_fin (i2d_fin lo) (by rw [z0, Int.add_zero]), own_i2d_z]
theorem own_loh_z (lo : Int32) : own_z (FP.dadd (FP.i2d lo) own_half) = (lo.toInt * 4503599627370496 + 2251799813685248) * (own_U : Int) := by
  have r := rng32 lo
  obtain ⟨W, fW, zW, -⟩ := own_repi (2 * lo.toInt + 1) 1073 (by omega) (by decide)
  have u73 : ((2 ^ 1073 : Nat) : Int) = 2251799813685248 * (own_U : Int) := by decide +kernel
  have e : own_z W = (lo.toInt * 4503599627370496 + 2251799813685248) * (own_U : Int) := by
    rw [zW, u73, ← Int.mul_assoc]
    congr 1
    omega
  rw [own_sum_eq (i2d_fin lo) own_half_fin fW ?_, e]
  rw [own_i2d_z, own_half_z, e, Int.add_mul]
theorem own_lo_nn (lo : Int32) : NoNaN64 (FP.dadd (FP.i2d lo) 0) := dadd_out (i2d_fin lo).noNaN own_zero_fin
theorem own_loh_nn (lo : Int32) : NoNaN64 (FP.dadd (FP.i2d lo) own_half) := dadd_out (i2d_fin lo).noNaN own_half_fin
theorem own_absA (lo c : Int32) : own_excA (FP.dadd (FP.i2d lo) 0) c = (if c < lo then (1 : Int32) else (0 : Int32)) := by
  simp only [Int32.lt_iff_toInt_lt]
  by_cases h : c.toInt < lo.toInt
  · rw [if_pos h]
    exact own_cmp1 (own_lo_nn lo) (i2d_fin c).noNaN (by rw [own_lo_z, own_i2d_z, own_ltU]; omega)
  · rw [if_neg h]
    exact own_cmp0 (own_lo_nn lo) (i2d_fin c).noNaN (by rw [own_lo_z, own_i2d_z, own_leU]; omega)
theorem own_abshA (lo c : Int32) : own_excA (FP.dadd (FP.i2d lo) own_half) c = (if lo < c then (0 : Int32) else (1 : Int32)) := by
  simp only [Int32.lt_iff_toInt_lt]
  by_cases h : lo.toInt < c.toInt
  · rw [if_pos h]
    exact own_cmp0 (own_loh_nn lo) (i2d_fin c).noNaN (by rw [own_loh_z, own_i2d_z, own_leU]; omega)
  · rw [if_neg h]
    exact own_cmp1 (own_loh_nn lo) (i2d_fin c).noNaN (by rw [own_loh_z, own_i2d_z, own_ltU]; omega)
/-- for c below 500000: c <= c * 1.000001 < c + 0.5 -/
theorem own_mul_in {c : Int32} (h0 : 0 ≤ c.toInt) (h1 : c.toInt < 500000) : (c.toInt * 4503599627370496) * (own_U : Int) ≤ own_z (FP.dmul (FP.i2d c) own_K) ∧ own_z (FP.dmul (FP.i2d c) own_K) < (c.toInt * 4503599627370496 + 2251799813685248) * (own_U : Int) := by
  refine ⟨own_mul_lo (i2d_fin c).noNaN (own_i2d_z c) (by omega), ?_⟩
  obtain ⟨W, fW, zW, -⟩ := own_repi (c.toInt * 2097152 + 1048575) 1053 (by omega) (by decide)
  have u53 : ((2 ^ 1053 : Nat) : Int) = 2147483648 * (own_U : Int) := by decide +kernel
  have e : own_z W = (c.toInt * 4503599627370496 + 2251797666201600) * (own_U : Int) := by
    rw [zW, u53, ← Int.mul_assoc]
    congr 1
    omega
  refine Int.lt_of_le_of_lt (own_mul_hi fW.noNaN e (by omega)) ?_
  rw [own_ltU]
  omega
theorem own_absE {lo c : Int32} (h0 : 0 ≤ c.toInt) (h1 : c.toInt < 500000) : own_excE (FP.dadd (FP.i2d lo) 0) c = (if c < lo then (1 : Int32) else (0 : Int32)) := by
  obtain ⟨m1, m2⟩ := own_mul_in h0 h1
  have zl := own_lo_z lo
  simp only [Int32.lt_iff_toInt_lt]
  by_cases h : c.toInt < lo.toInt
  · rw [if_pos h]
    refine own_cmp1 (own_lo_nn lo) (own_mul_nn c) (Int.lt_of_lt_of_le m2 ?_)
    rw [zl, own_leU]; omega
  · rw [if_neg h]
    refine own_cmp0 (own_lo_nn lo) (own_mul_nn c) (Int.le_trans ?_ m1)
    rw [zl, own_leU]; omega
theorem own_abshE {lo c : Int32} (h0 : 0 ≤ c.toInt) (h1 : c.toInt < 500000) : own_excE (FP.dadd (FP.i2d lo) own_half) c = (if lo < c then (0 : Int32) else (1 : Int32)) := by
  obtain ⟨m1, m2⟩ := own_mul_in h0 h1
  have zl := own_loh_z lo
  simp only [Int32.lt_iff_toInt_lt]
  by_cases h : lo.toInt < c.toInt
  · rw [if_pos h]
    refine own_cmp0 (own_loh_nn lo) (own_mul_nn c) (Int.le_trans ?_ m1)
    rw [zl, own_leU]; omega
  · rw [if_neg h]
    refine own_cmp1 (own_loh_nn lo) (own_mul_nn c) (Int.lt_of_lt_of_le m2 ?_)
    rw [zl, own_leU]; omega
/-! ### the law's integers -/
theorem own_j (x : Int32) : -32 ≤ (((x >>> ((2 : Int32) &&& 31)) &&& (63 : Int32)) - (32 : Int32)).toInt ∧ (((x >>> ((2 : Int32) &&& 31)) &&& (63 : Int32)) - (32 : Int32)).toInt ≤ 31 := by
  have h1 := c_and (x >>> ((2 : Int32) &&& 31)) 63 (by decide)
  have h2 := c_isub ((x >>> ((2 : Int32) &&& 31)) &&& (63 : Int32)) 32
  have h3 := rng32 (((x >>> ((2 : Int32) &&& 31)) &&& (63 : Int32)) - (32 : Int32))
  have h4 : (63 : Int32).toInt = 63 := rfl
  have h5 : (32 : Int32).toInt = 32 := rfl
  omega
theorem own_c28 (x : Int32) : 0 ≤ (x &&& (268435455 : Int32)).toInt ∧ (x &&& (268435455 : Int32)).toInt < 268435456 := by
  have h1 := c_and x 268435455 (by decide)
  have h4 : (268435455 : Int32).toInt = 268435455 := rfl
  omega
theorem own_c500 (x : Int32) : 0 ≤ ((x &&& (2147483647 : Int32)) % (500000 : Int32)).toInt ∧ ((x &&& (2147483647 : Int32)) % (500000 : Int32)).toInt < 500000 := by
  have h1 := c_and x 2147483647 (by decide)
  have h2 := (c_irem (x &&& 2147483647) 500000 500000 rfl).1 h1.1
  omega
theorem ef_1 (m : MethodId) (x0 : Addr) (x1 : UInt64) (x2 : Int32) : entryFrame m #[(.ref x0), (.double x1), (.int x2)] 4 = mkF m 0 #[.val (.ref x0), .val (.double x1), .second, .val (.int x2)] [] := by first | (simp [entryFrame, mkF, argsToLocals, Value.category]; done) | rfl
theorem pn_com_example_cohortwise_cohortwise_plan_Attendance : plainName "com/example/cohortwise/cohortwise/plan/Attendance" = true := by first | (simp [plainName, overriddenIn]; done) | decide +kernel
theorem d1_0 : decode prog_19_method_5_code 0 = .ok (.aload_n 0, 1) := by decide +kernel
theorem d1_1 : decode prog_19_method_5_code 1 = .ok (.getstatic 3, 3) := by decide +kernel
theorem d1_4 : decode prog_19_method_5_code 4 = .ok (.if_acmp .ne 18, 3) := by decide +kernel
theorem d1_7 : decode prog_19_method_5_code 7 = .ok (.dload_n 1, 1) := by decide +kernel
theorem d1_8 : decode prog_19_method_5_code 8 = .ok (.iload_n 3, 1) := by decide +kernel
theorem d1_9 : decode prog_19_method_5_code 9 = .ok (.i2d, 1) := by decide +kernel
theorem d1_10 : decode prog_19_method_5_code 10 = .ok (.dcmp .l, 1) := by decide +kernel
theorem d1_11 : decode prog_19_method_5_code 11 = .ok (.ifCond .le 7, 3) := by decide +kernel
theorem d1_14 : decode prog_19_method_5_code 14 = .ok (.iconst 1, 1) := by decide +kernel
theorem d1_15 : decode prog_19_method_5_code 15 = .ok (.goto 23, 3) := by decide +kernel
theorem d1_38 : decode prog_19_method_5_code 38 = .ok (.ireturn, 1) := by decide +kernel
theorem d1_18 : decode prog_19_method_5_code 18 = .ok (.iconst 0, 1) := by decide +kernel
theorem d1_19 : decode prog_19_method_5_code 19 = .ok (.goto 19, 3) := by decide +kernel
theorem d1_22 : decode prog_19_method_5_code 22 = .ok (.dload_n 1, 1) := by decide +kernel
theorem d1_23 : decode prog_19_method_5_code 23 = .ok (.iload_n 3, 1) := by decide +kernel
theorem d1_24 : decode prog_19_method_5_code 24 = .ok (.i2d, 1) := by decide +kernel
theorem d1_25 : decode prog_19_method_5_code 25 = .ok (.ldc2_w 89, 3) := by decide +kernel
theorem d1_28 : decode prog_19_method_5_code 28 = .ok (.dmul, 1) := by decide +kernel
theorem d1_29 : decode prog_19_method_5_code 29 = .ok (.dcmp .l, 1) := by decide +kernel
theorem d1_30 : decode prog_19_method_5_code 30 = .ok (.ifCond .le 7, 3) := by decide +kernel
theorem d1_33 : decode prog_19_method_5_code 33 = .ok (.iconst 1, 1) := by decide +kernel
theorem d1_34 : decode prog_19_method_5_code 34 = .ok (.goto 4, 3) := by decide +kernel
theorem d1_37 : decode prog_19_method_5_code 37 = .ok (.iconst 0, 1) := by decide +kernel
theorem ef_0 (m : MethodId) (x0 : Int32) (x1 : Int32) (x2 : Int32) (x3 : Int32) : entryFrame m #[(.int x0), (.int x1), (.int x2), (.int x3)] maxLocals = mkF m 0 #[.val (.int x0), .val (.int x1), .val (.int x2), .val (.int x3), .unset, .unset, .unset, .unset, .unset, .unset, .unset, .unset, .unset] [] := by first | (simp [entryFrame, mkF, argsToLocals, Value.category, maxLocals]; done) | rfl
theorem pn_com_example_cohortwise_cohortwise_plan_AttendanceExceedsPinLaw : plainName "com/example/cohortwise/cohortwise/plan/AttendanceExceedsPinLaw" = true := by first | (simp [plainName, overriddenIn]; done) | decide +kernel
theorem pd__28DI_29Z : parseMethodDescriptor "(DI)Z" = some ⟨[.double, .int], some .boolean⟩ := by decide +kernel
def Q1 (Z : State) (a1 uA : Addr) (d1 : UInt64) (p1 : Int32) (h0 : Heap) (n0 : Nat) (v : Option Value) (h : Heap) (L : List Loc) : Prop := v = some (.int (if a1 = uA then own_excA d1 p1 else own_excE d1 p1)) ∧ Fr n0 L ∧ h = h0
set_option maxRecDepth 65536 in
set_option maxHeartbeats 40000000 in
theorem rm1 (l : Launch) (Z : State) (a0 : Array Value) (hw : ∀ d ∈ tables_1, d.before a0 Z = true) (ws : List Jvm.Cond) (a1 : Addr) (d1 : UInt64) (p1 : Int32) (uA : Addr) (h0 : Heap) (n0 : Nat) (Z0 : n0 ≤ h0.size) (StaA : Sta Z h0 "com/example/cohortwise/cohortwise/plan/Attendance" "ALLOCATED" "Lcom/example/cohortwise/cohortwise/plan/Attendance;" (.ref uA)) :
    MetFree l (⟨"com/example/cohortwise/cohortwise/plan/Attendance", "exceeds", "(DI)Z"⟩ : MethodName) (head1 (Jvm.Cond.code (⟨"com/example/cohortwise/cohortwise/plan/Attendance", "exceeds", "(DI)Z"⟩ : MethodName) prog_19_method_5_code 4 (some .boolean) :: ws) ({ frames := 0, cells := 0, slots := 0, locals := 0 } : Room)) (fun a U => a = #[(.ref a1), (.double d1), (.int p1)] ∧ Z.Warmed39 U.vm ∧ U.heap = h0) (fun _ _ _ _ _ => True) (fun _ U o U' => ∃ v L, o = .returned v ∧ Q1 Z a1 uA d1 p1 h0 n0 v U'.heap L ∧ FrameEnd U o U' L ({ frames := 0, cells := 0, slots := 0, locals := 0 } : Room).cells ({ frames := 0, cells := 0, slots := 0, locals := 0 } : Room).slots) := by
  refine MetFree.of_bodySF (plainFor_of_name pn_com_example_cohortwise_cohortwise_plan_Attendance) hisR ?_
  intro p e s m args below meth c s₁ Bd hml0 hP hK
  obtain ⟨rfl, hZ, hh⟩ := hP
  have hlk : meth.locks = false := by first | exact BodyLoose.notSynchronized Bd | exact Body.notSynchronized Bd
  have hx := Bd.exec
  have hby := Bd.bytes
  have hml : c.maxLocals = 4 := hml0
  have hown : s.vm.findClass "com/example/cohortwise/cohortwise/plan/Attendance" = some m.cls := findClass_of_methodNamed Bd.named
  have hnm := (name_of_methodNamed Bd.named Bd.method).1
  have X0 : Stand p l e ({ frames := 0, cells := 0, slots := 0, locals := 0 } : Room) s m #[(.ref a1), (.double d1), (.int p1)] below meth c s₁ [] 0 0 := Stand.of_body Bd
  have e0 : s₁.heap = h0 := by rw [← hh, Bd.state]; rfl
  have N0 := Fr.nil n0
  refine own_open (fun G go fin => ?_)
  refine go (s₁.setTop (mkF m 0 #[.val (.ref a1), .val (.double d1), .second, .val (.int p1)] [])) _ (fun t9 k9 => castTop (ef_1 m a1 d1 p1) k9) ?_
  refine go (s₁.setTop (mkF m 1 #[.val (.ref a1), .val (.double d1), .second, .val (.int p1)] [(.ref a1)])) _ (fun t9 k9 => ?_) ?_
  · show Steps p.tables e below (s₁.setTop (mkF m 0 #[.val (.ref a1), .val (.double d1), .second, .val (.int p1)] [])) _
    refine XS.aloadN X0.here hx rfl (hb hby d1_0) rfl rfl ?_
    exact k9
  obtain ⟨T1, X1, e1, st1⟩ := getS X0 hx hZ (host := "") hown (hw _ (List.mem_of_getElem? (i := 10) rfl)) Via.refl e0 StaA (g := (mkF m 1 #[.val (.ref a1), .val (.double d1), .second, .val (.int p1)] [(.ref a1)])) rfl (hb hby d1_1)
  refine go (T1.setTop (mkF m 4 #[.val (.ref a1), .val (.double d1), .second, .val (.int p1)] [(.ref uA), (.ref a1)])) _ (fun t9 k9 => st1 _ k9) ?_
  by_cases hu : (Value.ref a1) = (Value.ref uA)
  · refine go (T1.setTop (mkF m 11 #[.val (.ref a1), .val (.double d1), .second, .val (.int p1)] [(.int (cmpValue (FP.dcmp d1 (FP.i2d p1)) .l))])) _ (fun t9 k9 => ?_) ?_
    · show Steps p.tables e below (T1.setTop (mkF m 4 #[.val (.ref a1), .val (.double d1), .second, .val (.int p1)] [(.ref uA), (.ref a1)])) _
      refine acmp X1 hx rfl (pc0 := 4) (pc' := 7) rfl rfl rfl (hb hby d1_4) rfl (same := true) (decide_eq_true hu) (by decide) (by decide) ?_
      show Steps p.tables e below (T1.setTop (mkF m 7 #[.val (.ref a1), .val (.double d1), .second, .val (.int p1)] [])) _
      refine XS.dloadN X1.here hx rfl (hb hby d1_7) rfl ?_
      show Steps p.tables e below (T1.setTop (mkF m 8 #[.val (.ref a1), .val (.double d1), .second, .val (.int p1)] [(.double d1)])) _
      refine XS.iloadN X1.here hx rfl (hb hby d1_8) rfl ?_
      show Steps p.tables e below (T1.setTop (mkF m 9 #[.val (.ref a1), .val (.double d1), .second, .val (.int p1)] [(.int p1), (.double d1)])) _
      refine XS.i2dS X1.here hx rfl (hb hby d1_9) rfl rfl ?_
      show Steps p.tables e below (T1.setTop (mkF m 10 #[.val (.ref a1), .val (.double d1), .second, .val (.int p1)] [(.double (FP.i2d p1)), (.double d1)])) _
      refine XS.dcmpS X1.here hx rfl (hb hby d1_10) rfl rfl ?_
      exact k9
    by_cases hc : (0 : Int32) < (cmpValue (FP.dcmp d1 (FP.i2d p1)) .l)
    · refine go (T1.setTop (mkF m 38 #[.val (.ref a1), .val (.double d1), .second, .val (.int p1)] [(.int (1 : Int32))])) _ (fun t9 k9 => ?_) ?_
      · show Steps p.tables e below (T1.setTop (mkF m 11 #[.val (.ref a1), .val (.double d1), .second, .val (.int p1)] [(.int (cmpValue (FP.dcmp d1 (FP.i2d p1)) .l))])) _
        refine XS.ifNo X1.here hx rfl (hb hby d1_11) rfl ((if0 _ _).trans (tlt hc).2.2.2) ?_
        show Steps p.tables e below (T1.setTop (mkF m 14 #[.val (.ref a1), .val (.double d1), .second, .val (.int p1)] [])) _
        refine XS.iconst X1.here hx rfl (hb hby d1_14) ?_
        show Steps p.tables e below (T1.setTop (mkF m 15 #[.val (.ref a1), .val (.double d1), .second, .val (.int p1)] [(.int (1 : Int32))])) _
        refine XS.goto X1.here hx rfl (pc0 := 15) (pc' := 38) rfl (hb hby d1_15) (by decide) (by decide) ?_
        exact k9
      obtain ⟨fs, hr, hrun, hended, hW, hsame⟩ := X1.leave (v := some (.int (1 : Int32))) (fun h => by rw [Bd.returns] at h; cases h) hlk
      refine fin _ ⟨_, _, retN X1 hx (t := .boolean) Bd.returns (by simp) (hb hby d1_38) hr, hrun, hended, _, _, rfl, ?_, ⟨_, rfl⟩, hW, hsame.mono (by decide) (by decide)⟩
      show Q1 Z a1 uA d1 p1 h0 n0 _ T1.heap _
      rw [e1]
      exact ⟨congrArg (fun z => some (Value.int z)) ((if_pos (Value.ref.inj hu)).trans (if_pos hc : own_excA d1 p1 = 1)).symm, N0, rfl⟩
    · refine go (T1.setTop (mkF m 38 #[.val (.ref a1), .val (.double d1), .second, .val (.int p1)] [(.int (0 : Int32))])) _ (fun t9 k9 => ?_) ?_
      · show Steps p.tables e below (T1.setTop (mkF m 11 #[.val (.ref a1), .val (.double d1), .second, .val (.int p1)] [(.int (cmpValue (FP.dcmp d1 (FP.i2d p1)) .l))])) _
        refine XS.ifYes X1.here hx rfl (pc0 := 11) (pc' := 18) rfl (hb hby d1_11) rfl ((if0 _ _).trans (flt hc).2.2.2) (by decide) (by decide) ?_
        show Steps p.tables e below (T1.setTop (mkF m 18 #[.val (.ref a1), .val (.double d1), .second, .val (.int p1)] [])) _
        refine XS.iconst X1.here hx rfl (hb hby d1_18) ?_
        show Steps p.tables e below (T1.setTop (mkF m 19 #[.val (.ref a1), .val (.double d1), .second, .val (.int p1)] [(.int (0 : Int32))])) _
        refine XS.goto X1.here hx rfl (pc0 := 19) (pc' := 38) rfl (hb hby d1_19) (by decide) (by decide) ?_
        exact k9
      obtain ⟨fs, hr, hrun, hended, hW, hsame⟩ := X1.leave (v := some (.int (0 : Int32))) (fun h => by rw [Bd.returns] at h; cases h) hlk
      refine fin _ ⟨_, _, retN X1 hx (t := .boolean) Bd.returns (by simp) (hb hby d1_38) hr, hrun, hended, _, _, rfl, ?_, ⟨_, rfl⟩, hW, hsame.mono (by decide) (by decide)⟩
      show Q1 Z a1 uA d1 p1 h0 n0 _ T1.heap _
      rw [e1]
      exact ⟨congrArg (fun z => some (Value.int z)) ((if_pos (Value.ref.inj hu)).trans (if_neg hc : own_excA d1 p1 = 0)).symm, N0, rfl⟩
  · refine go (T1.setTop (mkF m 30 #[.val (.ref a1), .val (.double d1), .second, .val (.int p1)] [(.int (cmpValue (FP.dcmp d1 (FP.dmul (FP.i2d p1) (4607182423303617035 : UInt64))) .l))])) _ (fun t9 k9 => ?_) ?_
    · show Steps p.tables e below (T1.setTop (mkF m 4 #[.val (.ref a1), .val (.double d1), .second, .val (.int p1)] [(.ref uA), (.ref a1)])) _
      refine acmp X1 hx rfl (pc0 := 4) (pc' := 22) rfl rfl rfl (hb hby d1_4) rfl (same := false) (decide_eq_false hu) (by decide) (by decide) ?_
      show Steps p.tables e below (T1.setTop (mkF m 22 #[.val (.ref a1), .val (.double d1), .second, .val (.int p1)] [])) _
      refine XS.dloadN X1.here hx rfl (hb hby d1_22) rfl ?_
      show Steps p.tables e below (T1.setTop (mkF m 23 #[.val (.ref a1), .val (.double d1), .second, .val (.int p1)] [(.double d1)])) _
      refine XS.iloadN X1.here hx rfl (hb hby d1_23) rfl ?_
      show Steps p.tables e below (T1.setTop (mkF m 24 #[.val (.ref a1), .val (.double d1), .second, .val (.int p1)] [(.int p1), (.double d1)])) _
      refine XS.i2dS X1.here hx rfl (hb hby d1_24) rfl rfl ?_
      show Steps p.tables e below (T1.setTop (mkF m 25 #[.val (.ref a1), .val (.double d1), .second, .val (.int p1)] [(.double (FP.i2d p1)), (.double d1)])) _
      refine X1.ldc2DoubleC hx hown (mvT hZ (hw _ (List.mem_of_getElem? (i := 16) rfl))) (g := (mkF m 25 #[.val (.ref a1), .val (.double d1), .second, .val (.int p1)] [(.double (FP.i2d p1)), (.double d1)])) rfl (hb hby d1_25) _ ?_
      show Steps p.tables e below (T1.setTop (mkF m 28 #[.val (.ref a1), .val (.double d1), .second, .val (.int p1)] [(.double (4607182423303617035 : UInt64)), (.double (FP.i2d p1)), (.double d1)])) _
      refine XS.dmulS X1.here hx rfl (hb hby d1_28) rfl (own_mul_nn p1) rfl ?_
      show Steps p.tables e below (T1.setTop (mkF m 29 #[.val (.ref a1), .val (.double d1), .second, .val (.int p1)] [(.double (FP.dmul (FP.i2d p1) (4607182423303617035 : UInt64))), (.double d1)])) _
      refine XS.dcmpS X1.here hx rfl (hb hby d1_29) rfl rfl ?_
      exact k9
    by_cases hc : (0 : Int32) < (cmpValue (FP.dcmp d1 (FP.dmul (FP.i2d p1) (4607182423303617035 : UInt64))) .l)
    · refine go (T1.setTop (mkF m 38 #[.val (.ref a1), .val (.double d1), .second, .val (.int p1)] [(.int (1 : Int32))])) _ (fun t9 k9 => ?_) ?_
      · show Steps p.tables e below (T1.setTop (mkF m 30 #[.val (.ref a1), .val (.double d1), .second, .val (.int p1)] [(.int (cmpValue (FP.dcmp d1 (FP.dmul (FP.i2d p1) (4607182423303617035 : UInt64))) .l))])) _
        refine XS.ifNo X1.here hx rfl (hb hby d1_30) rfl ((if0 _ _).trans (tlt hc).2.2.2) ?_
        show Steps p.tables e below (T1.setTop (mkF m 33 #[.val (.ref a1), .val (.double d1), .second, .val (.int p1)] [])) _
        refine XS.iconst X1.here hx rfl (hb hby d1_33) ?_
        show Steps p.tables e below (T1.setTop (mkF m 34 #[.val (.ref a1), .val (.double d1), .second, .val (.int p1)] [(.int (1 : Int32))])) _
        refine XS.goto X1.here hx rfl (pc0 := 34) (pc' := 38) rfl (hb hby d1_34) (by decide) (by decide) ?_
        exact k9
      obtain ⟨fs, hr, hrun, hended, hW, hsame⟩ := X1.leave (v := some (.int (1 : Int32))) (fun h => by rw [Bd.returns] at h; cases h) hlk
      refine fin _ ⟨_, _, retN X1 hx (t := .boolean) Bd.returns (by simp) (hb hby d1_38) hr, hrun, hended, _, _, rfl, ?_, ⟨_, rfl⟩, hW, hsame.mono (by decide) (by decide)⟩
      show Q1 Z a1 uA d1 p1 h0 n0 _ T1.heap _
      rw [e1]
      exact ⟨congrArg (fun z => some (Value.int z)) ((if_neg (fun q => hu (congrArg Value.ref q))).trans (if_pos hc : own_excE d1 p1 = 1)).symm, N0, rfl⟩
    · refine go (T1.setTop (mkF m 38 #[.val (.ref a1), .val (.double d1), .second, .val (.int p1)] [(.int (0 : Int32))])) _ (fun t9 k9 => ?_) ?_
      · show Steps p.tables e below (T1.setTop (mkF m 30 #[.val (.ref a1), .val (.double d1), .second, .val (.int p1)] [(.int (cmpValue (FP.dcmp d1 (FP.dmul (FP.i2d p1) (4607182423303617035 : UInt64))) .l))])) _
        refine XS.ifYes X1.here hx rfl (pc0 := 30) (pc' := 37) rfl (hb hby d1_30) rfl ((if0 _ _).trans (flt hc).2.2.2) (by decide) (by decide) ?_
        show Steps p.tables e below (T1.setTop (mkF m 37 #[.val (.ref a1), .val (.double d1), .second, .val (.int p1)] [])) _
        refine XS.iconst X1.here hx rfl (hb hby d1_37) ?_
        exact k9
      obtain ⟨fs, hr, hrun, hended, hW, hsame⟩ := X1.leave (v := some (.int (0 : Int32))) (fun h => by rw [Bd.returns] at h; cases h) hlk
      refine fin _ ⟨_, _, retN X1 hx (t := .boolean) Bd.returns (by simp) (hb hby d1_38) hr, hrun, hended, _, _, rfl, ?_, ⟨_, rfl⟩, hW, hsame.mono (by decide) (by decide)⟩
      show Q1 Z a1 uA d1 p1 h0 n0 _ T1.heap _
      rw [e1]
      exact ⟨congrArg (fun z => some (Value.int z)) ((if_neg (fun q => hu (congrArg Value.ref q))).trans (if_neg hc : own_excE d1 p1 = 0)).symm, N0, rfl⟩
def Q0 (Z : State) (p1 p2 p3 p4 : Int32) (h0 : Heap) (n0 : Nat) (v : Option Value) (h : Heap) (L : List Loc) : Prop := v = some (.int 1) ∧ Fr n0 L
set_option maxRecDepth 65536 in
set_option maxHeartbeats 40000000 in
theorem rm0 (l : Launch) (Z : State) (a0 : Array Value) (hw : ∀ d ∈ tables_1, d.before a0 Z = true) (ws : List Jvm.Cond) (p1 : Int32) (p2 : Int32) (p3 : Int32) (p4 : Int32) (uA uE : Addr) (h0 : Heap) (n0 : Nat) (Z0 : n0 ≤ h0.size) (StaA : Sta Z h0 "com/example/cohortwise/cohortwise/plan/Attendance" "ALLOCATED" "Lcom/example/cohortwise/cohortwise/plan/Attendance;" (.ref uA)) (StaE : Sta Z h0 "com/example/cohortwise/cohortwise/plan/Attendance" "EXPECTED" "Lcom/example/cohortwise/cohortwise/plan/Attendance;" (.ref uE)) (ExaA : Exa Z h0 uA "com/example/cohortwise/cohortwise/plan/Attendance") (ExaE : Exa Z h0 uE "com/example/cohortwise/cohortwise/plan/Attendance") (hne : ¬ uE = uA) :
    MetFree l x (head1 (Jvm.Cond.code x code maxLocals ret :: ws) room_1) (fun a U => a = #[(.int p1), (.int p2), (.int p3), (.int p4)] ∧ Z.Warmed39 U.vm ∧ U.heap = h0) (fun _ _ _ _ _ => True) (fun _ U o U' => ∃ v L, o = .returned v ∧ Q0 Z p1 p2 p3 p4 h0 n0 v U'.heap L ∧ FrameEnd U o U' L room_1.cells room_1.slots) := by
  refine MetFree.of_bodySF (plainFor_of_name pn_com_example_cohortwise_cohortwise_plan_AttendanceExceedsPinLaw) hisR ?_
  intro p e s m args below meth c s₁ Bd hml0 hP hK
  obtain ⟨rfl, hZ, hh⟩ := hP
  have hlk : meth.locks = false := by first | exact BodyLoose.notSynchronized Bd | exact Body.notSynchronized Bd
  have hx := Bd.exec
  have hby := Bd.bytes
  have hml : c.maxLocals = 13 := hml0
  have hown : s.vm.findClass "com/example/cohortwise/cohortwise/plan/AttendanceExceedsPinLaw" = some m.cls := findClass_of_methodNamed Bd.named
  have hnm := (name_of_methodNamed Bd.named Bd.method).1
  have X0 : Stand p l e room_1 s m #[(.int p1), (.int p2), (.int p3), (.int p4)] below meth c s₁ [] 0 0 := Stand.of_body Bd
  have e0 : s₁.heap = h0 := by rw [← hh, Bd.state]; rfl
  have N0 := Fr.nil n0
  refine own_open (fun G go fin => ?_)
  refine go (s₁.setTop (mkF m 0 #[.val (.int p1), .val (.int p2), .val (.int p3), .val (.int p4), .unset, .unset, .unset, .unset, .unset, .unset, .unset, .unset, .unset] [])) _ (fun t9 k9 => castTop (ef_0 m p1 p2 p3 p4) k9) ?_
  refine go (s₁.setTop (mkF m 3 #[.val (.int p1), .val (.int p2), .val (.int p3), .val (.int p4), .unset, .unset, .unset, .unset, .unset, .unset, .unset, .unset, .unset] [(.int (p1 &&& (1 : Int32)))])) _ (fun t9 k9 => ?_) ?_
  · show Steps p.tables e below (s₁.setTop (mkF m 0 #[.val (.int p1), .val (.int p2), .val (.int p3), .val (.int p4), .unset, .unset, .unset, .unset, .unset, .unset, .unset, .unset, .unset] [])) _
    refine XS.iloadN X0.here hx rfl (hb hby at_0) rfl ?_
    show Steps p.tables e below (s₁.setTop (mkF m 1 #[.val (.int p1), .val (.int p2), .val (.int p3), .val (.int p4), .unset, .unset, .unset, .unset, .unset, .unset, .unset, .unset, .unset] [(.int p1)])) _
    refine XS.iconst X0.here hx rfl (hb hby at_1) ?_
    show Steps p.tables e below (s₁.setTop (mkF m 2 #[.val (.int p1), .val (.int p2), .val (.int p3), .val (.int p4), .unset, .unset, .unset, .unset, .unset, .unset, .unset, .unset, .unset] [(.int (1 : Int32)), (.int p1)])) _
    refine XS.iand X0.here hx rfl (hb hby at_2) rfl ?_
    exact k9
  by_cases hk : (p1 &&& (1 : Int32)) = (0 : Int32)
  · refine go (s₁.setTop (mkF m 24 #[.val (.int p1), .val (.int p2), .val (.int p3), .val (.int p4), .val (.int (0 : Int32)), .unset, .unset, .unset, .unset, .unset, .unset, .unset, .unset] [])) _ (fun t9 k9 => ?_) ?_
    · show Steps p.tables e below (s₁.setTop (mkF m 3 #[.val (.int p1), .val (.int p2), .val (.int p3), .val (.int p4), .unset, .unset, .unset, .unset, .unset, .unset, .unset, .unset, .unset] [(.int (p1 &&& (1 : Int32)))])) _
      refine XS.ifYes X0.here hx rfl (pc0 := 3) (pc' := 10) rfl (hb hby at_3) rfl ((if0 _ _).trans (teq hk).1) (by decide) (by decide) ?_
      show Steps p.tables e below (s₁.setTop (mkF m 10 #[.val (.int p1), .val (.int p2), .val (.int p3), .val (.int p4), .unset, .unset, .unset, .unset, .unset, .unset, .unset, .unset, .unset] [])) _
      refine XS.iconst X0.here hx rfl (hb hby at_10) ?_
      show Steps p.tables e below (s₁.setTop (mkF m 11 #[.val (.int p1), .val (.int p2), .val (.int p3), .val (.int p4), .unset, .unset, .unset, .unset, .unset, .unset, .unset, .unset, .unset] [(.int (0 : Int32))])) _
      refine XS.istore X0.here hx rfl (hb hby at_11) rfl (l' := #[.val (.int p1), .val (.int p2), .val (.int p3), .val (.int p4), .val (.int (0 : Int32)), .unset, .unset, .unset, .unset, .unset, .unset, .unset, .unset]) rfl ?_
      show Steps p.tables e below (s₁.setTop (mkF m 13 #[.val (.int p1), .val (.int p2), .val (.int p3), .val (.int p4), .val (.int (0 : Int32)), .unset, .unset, .unset, .unset, .unset, .unset, .unset, .unset] [])) _
      refine XS.iload X0.here hx rfl (hb hby at_13) rfl ?_
      show Steps p.tables e below (s₁.setTop (mkF m 15 #[.val (.int p1), .val (.int p2), .val (.int p3), .val (.int p4), .val (.int (0 : Int32)), .unset, .unset, .unset, .unset, .unset, .unset, .unset, .unset] [(.int (0 : Int32))])) _
      refine XS.ifYes X0.here hx rfl (pc0 := 15) (pc' := 24) rfl (hb hby at_15) rfl ((if0 _ _).trans (teq (by decide : (0 : Int32) = (0 : Int32))).1) (by decide) (by decide) ?_
      exact k9
    obtain ⟨T2, X2, e2, st2⟩ := getS X0 hx hZ (host := "") hown (hw _ (List.mem_of_getElem? (i := 0) rfl)) Via.refl e0 StaA (g := (mkF m 24 #[.val (.int p1), .val (.int p2), .val (.int p3), .val (.int p4), .val (.int (0 : Int32)), .unset, .unset, .unset, .unset, .unset, .unset, .unset, .unset] [])) rfl (hb hby at_24)
    refine go (T2.setTop (mkF m 27 #[.val (.int p1), .val (.int p2), .val (.int p3), .val (.int p4), .val (.int (0 : Int32)), .unset, .unset, .unset, .unset, .unset, .unset, .unset, .unset] [(.ref uA)])) _ (fun t9 k9 => st2 _ k9) ?_
    refine go (T2.setTop (mkF m 32 #[.val (.int p1), .val (.int p2), .val (.int p3), .val (.int p4), .val (.int (0 : Int32)), .val (.ref uA), .unset, .unset, .unset, .unset, .unset, .unset, .unset] [(.int (p4 &&& (1 : Int32)))])) _ (fun t9 k9 => ?_) ?_
    · show Steps p.tables e below (T2.setTop (mkF m 27 #[.val (.int p1), .val (.int p2), .val (.int p3), .val (.int p4), .val (.int (0 : Int32)), .unset, .unset, .unset, .unset, .unset, .unset, .unset, .unset] [(.ref uA)])) _
      refine XS.astore X2.here hx rfl (hb hby at_27) rfl rfl (l' := #[.val (.int p1), .val (.int p2), .val (.int p3), .val (.int p4), .val (.int (0 : Int32)), .val (.ref uA), .unset, .unset, .unset, .unset, .unset, .unset, .unset]) rfl ?_
      show Steps p.tables e below (T2.setTop (mkF m 29 #[.val (.int p1), .val (.int p2), .val (.int p3), .val (.int p4), .val (.int (0 : Int32)), .val (.ref uA), .unset, .unset, .unset, .unset, .unset, .unset, .unset] [])) _
      refine XS.iloadN X2.here hx rfl (hb hby at_29) rfl ?_
      show Steps p.tables e below (T2.setTop (mkF m 30 #[.val (.int p1), .val (.int p2), .val (.int p3), .val (.int p4), .val (.int (0 : Int32)), .val (.ref uA), .unset, .unset, .unset, .unset, .unset, .unset, .unset] [(.int p4)])) _
      refine XS.iconst X2.here hx rfl (hb hby at_30) ?_
      show Steps p.tables e below (T2.setTop (mkF m 31 #[.val (.int p1), .val (.int p2), .val (.int p3), .val (.int p4), .val (.int (0 : Int32)), .val (.ref uA), .unset, .unset, .unset, .unset, .unset, .unset, .unset] [(.int (1 : Int32)), (.int p4)])) _
      refine XS.iand X2.here hx rfl (hb hby at_31) rfl ?_
      exact k9
    by_cases hr : (p4 &&& (1 : Int32)) = (0 : Int32)
    · refine go (T2.setTop (mkF m 45 #[.val (.int p1), .val (.int p2), .val (.int p3), .val (.int p4), .val (.int (0 : Int32)), .val (.ref uA), .val (.int (0 : Int32)), .unset, .unset, .unset, .unset, .unset, .unset] [(.int (p4 &&& (2 : Int32)))])) _ (fun t9 k9 => ?_) ?_
      · show Steps p.tables e below (T2.setTop (mkF m 32 #[.val (.int p1), .val (.int p2), .val (.int p3), .val (.int p4), .val (.int (0 : Int32)), .val (.ref uA), .unset, .unset, .unset, .unset, .unset, .unset, .unset] [(.int (p4 &&& (1 : Int32)))])) _
        refine XS.ifYes X2.here hx rfl (pc0 := 32) (pc' := 39) rfl (hb hby at_32) rfl ((if0 _ _).trans (teq hr).1) (by decide) (by decide) ?_
        show Steps p.tables e below (T2.setTop (mkF m 39 #[.val (.int p1), .val (.int p2), .val (.int p3), .val (.int p4), .val (.int (0 : Int32)), .val (.ref uA), .unset, .unset, .unset, .unset, .unset, .unset, .unset] [])) _
        refine XS.iconst X2.here hx rfl (hb hby at_39) ?_
        show Steps p.tables e below (T2.setTop (mkF m 40 #[.val (.int p1), .val (.int p2), .val (.int p3), .val (.int p4), .val (.int (0 : Int32)), .val (.ref uA), .unset, .unset, .unset, .unset, .unset, .unset, .unset] [(.int (0 : Int32))])) _
        refine XS.istore X2.here hx rfl (hb hby at_40) rfl (l' := #[.val (.int p1), .val (.int p2), .val (.int p3), .val (.int p4), .val (.int (0 : Int32)), .val (.ref uA), .val (.int (0 : Int32)), .unset, .unset, .unset, .unset, .unset, .unset]) rfl ?_
        show Steps p.tables e below (T2.setTop (mkF m 42 #[.val (.int p1), .val (.int p2), .val (.int p3), .val (.int p4), .val (.int (0 : Int32)), .val (.ref uA), .val (.int (0 : Int32)), .unset, .unset, .unset, .unset, .unset, .unset] [])) _
        refine XS.iloadN X2.here hx rfl (hb hby at_42) rfl ?_
        show Steps p.tables e below (T2.setTop (mkF m 43 #[.val (.int p1), .val (.int p2), .val (.int p3), .val (.int p4), .val (.int (0 : Int32)), .val (.ref uA), .val (.int (0 : Int32)), .unset, .unset, .unset, .unset, .unset, .unset] [(.int p4)])) _
        refine XS.iconst X2.here hx rfl (hb hby at_43) ?_
        show Steps p.tables e below (T2.setTop (mkF m 44 #[.val (.int p1), .val (.int p2), .val (.int p3), .val (.int p4), .val (.int (0 : Int32)), .val (.ref uA), .val (.int (0 : Int32)), .unset, .unset, .unset, .unset, .unset, .unset] [(.int (2 : Int32)), (.int p4)])) _
        refine XS.iand X2.here hx rfl (hb hby at_44) rfl ?_
        exact k9
      by_cases hh : (p4 &&& (2 : Int32)) = (0 : Int32)
      · refine go (T2.setTop (mkF m 182 #[.val (.int p1), .val (.int p2), .val (.int p3), .val (.int p4), .val (.int (0 : Int32)), .val (.ref uA), .val (.int (0 : Int32)), .val (.int (0 : Int32)), .val (.int (((p4 >>> ((2 : Int32) &&& 31)) &&& (63 : Int32)) - (32 : Int32))), .val (.int p2), .val (.double (FP.dadd (FP.i2d p3) (0 : UInt64))), .second, .unset] [])) _ (fun t9 k9 => ?_) ?_
        · show Steps p.tables e below (T2.setTop (mkF m 45 #[.val (.int p1), .val (.int p2), .val (.int p3), .val (.int p4), .val (.int (0 : Int32)), .val (.ref uA), .val (.int (0 : Int32)), .unset, .unset, .unset, .unset, .unset, .unset] [(.int (p4 &&& (2 : Int32)))])) _
          refine XS.ifYes X2.here hx rfl (pc0 := 45) (pc' := 52) rfl (hb hby at_45) rfl ((if0 _ _).trans (teq hh).1) (by decide) (by decide) ?_
          show Steps p.tables e below (T2.setTop (mkF m 52 #[.val (.int p1), .val (.int p2), .val (.int p3), .val (.int p4), .val (.int (0 : Int32)), .val (.ref uA), .val (.int (0 : Int32)), .unset, .unset, .unset, .unset, .unset, .unset] [])) _
          refine XS.iconst X2.here hx rfl (hb hby at_52) ?_
          show Steps p.tables e below (T2.setTop (mkF m 53 #[.val (.int p1), .val (.int p2), .val (.int p3), .val (.int p4), .val (.int (0 : Int32)), .val (.ref uA), .val (.int (0 : Int32)), .unset, .unset, .unset, .unset, .unset, .unset] [(.int (0 : Int32))])) _
          refine XS.istore X2.here hx rfl (hb hby at_53) rfl (l' := #[.val (.int p1), .val (.int p2), .val (.int p3), .val (.int p4), .val (.int (0 : Int32)), .val (.ref uA), .val (.int (0 : Int32)), .val (.int (0 : Int32)), .unset, .unset, .unset, .unset, .unset]) rfl ?_
          show Steps p.tables e below (T2.setTop (mkF m 55 #[.val (.int p1), .val (.int p2), .val (.int p3), .val (.int p4), .val (.int (0 : Int32)), .val (.ref uA), .val (.int (0 : Int32)), .val (.int (0 : Int32)), .unset, .unset, .unset, .unset, .unset] [])) _
          refine XS.iloadN X2.here hx rfl (hb hby at_55) rfl ?_
          show Steps p.tables e below (T2.setTop (mkF m 56 #[.val (.int p1), .val (.int p2), .val (.int p3), .val (.int p4), .val (.int (0 : Int32)), .val (.ref uA), .val (.int (0 : Int32)), .val (.int (0 : Int32)), .unset, .unset, .unset, .unset, .unset] [(.int p4)])) _
          refine XS.iconst X2.here hx rfl (hb hby at_56) ?_
          show Steps p.tables e below (T2.setTop (mkF m 57 #[.val (.int p1), .val (.int p2), .val (.int p3), .val (.int p4), .val (.int (0 : Int32)), .val (.ref uA), .val (.int (0 : Int32)), .val (.int (0 : Int32)), .unset, .unset, .unset, .unset, .unset] [(.int (2 : Int32)), (.int p4)])) _
          refine XS.ishr X2.here hx rfl (hb hby at_57) rfl ?_
          show Steps p.tables e below (T2.setTop (mkF m 58 #[.val (.int p1), .val (.int p2), .val (.int p3), .val (.int p4), .val (.int (0 : Int32)), .val (.ref uA), .val (.int (0 : Int32)), .val (.int (0 : Int32)), .unset, .unset, .unset, .unset, .unset] [(.int (p4 >>> ((2 : Int32) &&& 31)))])) _
          refine XS.bipush X2.here hx rfl (hb hby at_58) ?_
          show Steps p.tables e below (T2.setTop (mkF m 60 #[.val (.int p1), .val (.int p2), .val (.int p3), .val (.int p4), .val (.int (0 : Int32)), .val (.ref uA), .val (.int (0 : Int32)), .val (.int (0 : Int32)), .unset, .unset, .unset, .unset, .unset] [(.int (63 : Int32)), (.int (p4 >>> ((2 : Int32) &&& 31)))])) _
          refine XS.iand X2.here hx rfl (hb hby at_60) rfl ?_
          show Steps p.tables e below (T2.setTop (mkF m 61 #[.val (.int p1), .val (.int p2), .val (.int p3), .val (.int p4), .val (.int (0 : Int32)), .val (.ref uA), .val (.int (0 : Int32)), .val (.int (0 : Int32)), .unset, .unset, .unset, .unset, .unset] [(.int ((p4 >>> ((2 : Int32) &&& 31)) &&& (63 : Int32)))])) _
          refine XS.bipush X2.here hx rfl (hb hby at_61) ?_
          show Steps p.tables e below (T2.setTop (mkF m 63 #[.val (.int p1), .val (.int p2), .val (.int p3), .val (.int p4), .val (.int (0 : Int32)), .val (.ref uA), .val (.int (0 : Int32)), .val (.int (0 : Int32)), .unset, .unset, .unset, .unset, .unset] [(.int (32 : Int32)), (.int ((p4 >>> ((2 : Int32) &&& 31)) &&& (63 : Int32)))])) _
          refine XS.isub X2.here hx rfl (hb hby at_63) rfl ?_
          show Steps p.tables e below (T2.setTop (mkF m 64 #[.val (.int p1), .val (.int p2), .val (.int p3), .val (.int p4), .val (.int (0 : Int32)), .val (.ref uA), .val (.int (0 : Int32)), .val (.int (0 : Int32)), .unset, .unset, .unset, .unset, .unset] [(.int (((p4 >>> ((2 : Int32) &&& 31)) &&& (63 : Int32)) - (32 : Int32)))])) _
          refine XS.istore X2.here hx rfl (hb hby at_64) rfl (l' := #[.val (.int p1), .val (.int p2), .val (.int p3), .val (.int p4), .val (.int (0 : Int32)), .val (.ref uA), .val (.int (0 : Int32)), .val (.int (0 : Int32)), .val (.int (((p4 >>> ((2 : Int32) &&& 31)) &&& (63 : Int32)) - (32 : Int32))), .unset, .unset, .unset, .unset]) rfl ?_
          show Steps p.tables e below (T2.setTop (mkF m 66 #[.val (.int p1), .val (.int p2), .val (.int p3), .val (.int p4), .val (.int (0 : Int32)), .val (.ref uA), .val (.int (0 : Int32)), .val (.int (0 : Int32)), .val (.int (((p4 >>> ((2 : Int32) &&& 31)) &&& (63 : Int32)) - (32 : Int32))), .unset, .unset, .unset, .unset] [])) _
          refine XS.iload X2.here hx rfl (hb hby at_66) rfl ?_
          show Steps p.tables e below (T2.setTop (mkF m 68 #[.val (.int p1), .val (.int p2), .val (.int p3), .val (.int p4), .val (.int (0 : Int32)), .val (.ref uA), .val (.int (0 : Int32)), .val (.int (0 : Int32)), .val (.int (((p4 >>> ((2 : Int32) &&& 31)) &&& (63 : Int32)) - (32 : Int32))), .unset, .unset, .unset, .unset] [(.int (0 : Int32))])) _
          refine XS.ifYes X2.here hx rfl (pc0 := 68) (pc' := 147) rfl (hb hby at_68) rfl ((if0 _ _).trans (teq (by decide : (0 : Int32) = (0 : Int32))).1) (by decide) (by decide) ?_
          show Steps p.tables e below (T2.setTop (mkF m 147 #[.val (.int p1), .val (.int p2), .val (.int p3), .val (.int p4), .val (.int (0 : Int32)), .val (.ref uA), .val (.int (0 : Int32)), .val (.int (0 : Int32)), .val (.int (((p4 >>> ((2 : Int32) &&& 31)) &&& (63 : Int32)) - (32 : Int32))), .unset, .unset, .unset, .unset] [])) _
          refine XS.iload X2.here hx rfl (hb hby at_147) rfl ?_
          show Steps p.tables e below (T2.setTop (mkF m 149 #[.val (.int p1), .val (.int p2), .val (.int p3), .val (.int p4), .val (.int (0 : Int32)), .val (.ref uA), .val (.int (0 : Int32)), .val (.int (0 : Int32)), .val (.int (((p4 >>> ((2 : Int32) &&& 31)) &&& (63 : Int32)) - (32 : Int32))), .unset, .unset, .unset, .unset] [(.int (0 : Int32))])) _
          refine XS.ifYes X2.here hx rfl (pc0 := 149) (pc' := 162) rfl (hb hby at_149) rfl ((if0 _ _).trans (teq (by decide : (0 : Int32) = (0 : Int32))).1) (by decide) (by decide) ?_
          show Steps p.tables e below (T2.setTop (mkF m 162 #[.val (.int p1), .val (.int p2), .val (.int p3), .val (.int p4), .val (.int (0 : Int32)), .val (.ref uA), .val (.int (0 : Int32)), .val (.int (0 : Int32)), .val (.int (((p4 >>> ((2 : Int32) &&& 31)) &&& (63 : Int32)) - (32 : Int32))), .unset, .unset, .unset, .unset] [])) _
          refine XS.iloadN X2.here hx rfl (hb hby at_162) rfl ?_
          show Steps p.tables e below (T2.setTop (mkF m 163 #[.val (.int p1), .val (.int p2), .val (.int p3), .val (.int p4), .val (.int (0 : Int32)), .val (.ref uA), .val (.int (0 : Int32)), .val (.int (0 : Int32)), .val (.int (((p4 >>> ((2 : Int32) &&& 31)) &&& (63 : Int32)) - (32 : Int32))), .unset, .unset, .unset, .unset] [(.int p2)])) _
          refine XS.istore X2.here hx rfl (hb hby at_163) rfl (l' := #[.val (.int p1), .val (.int p2), .val (.int p3), .val (.int p4), .val (.int (0 : Int32)), .val (.ref uA), .val (.int (0 : Int32)), .val (.int (0 : Int32)), .val (.int (((p4 >>> ((2 : Int32) &&& 31)) &&& (63 : Int32)) - (32 : Int32))), .val (.int p2), .unset, .unset, .unset]) rfl ?_
          show Steps p.tables e below (T2.setTop (mkF m 165 #[.val (.int p1), .val (.int p2), .val (.int p3), .val (.int p4), .val (.int (0 : Int32)), .val (.ref uA), .val (.int (0 : Int32)), .val (.int (0 : Int32)), .val (.int (((p4 >>> ((2 : Int32) &&& 31)) &&& (63 : Int32)) - (32 : Int32))), .val (.int p2), .unset, .unset, .unset] [])) _
          refine XS.iloadN X2.here hx rfl (hb hby at_165) rfl ?_
          show Steps p.tables e below (T2.setTop (mkF m 166 #[.val (.int p1), .val (.int p2), .val (.int p3), .val (.int p4), .val (.int (0 : Int32)), .val (.ref uA), .val (.int (0 : Int32)), .val (.int (0 : Int32)), .val (.int (((p4 >>> ((2 : Int32) &&& 31)) &&& (63 : Int32)) - (32 : Int32))), .val (.int p2), .unset, .unset, .unset] [(.int p3)])) _
          refine XS.i2dS X2.here hx rfl (hb hby at_166) rfl rfl ?_
          show Steps p.tables e below (T2.setTop (mkF m 167 #[.val (.int p1), .val (.int p2), .val (.int p3), .val (.int p4), .val (.int (0 : Int32)), .val (.ref uA), .val (.int (0 : Int32)), .val (.int (0 : Int32)), .val (.int (((p4 >>> ((2 : Int32) &&& 31)) &&& (63 : Int32)) - (32 : Int32))), .val (.int p2), .unset, .unset, .unset] [(.double (FP.i2d p3))])) _
          refine XS.iload X2.here hx rfl (hb hby at_167) rfl ?_
          show Steps p.tables e below (T2.setTop (mkF m 169 #[.val (.int p1), .val (.int p2), .val (.int p3), .val (.int p4), .val (.int (0 : Int32)), .val (.ref uA), .val (.int (0 : Int32)), .val (.int (0 : Int32)), .val (.int (((p4 >>> ((2 : Int32) &&& 31)) &&& (63 : Int32)) - (32 : Int32))), .val (.int p2), .unset, .unset, .unset] [(.int (0 : Int32)), (.double (FP.i2d p3))])) _
          refine XS.ifYes X2.here hx rfl (pc0 := 169) (pc' := 178) rfl (hb hby at_169) rfl ((if0 _ _).trans (teq (by decide : (0 : Int32) = (0 : Int32))).1) (by decide) (by decide) ?_
          show Steps p.tables e below (T2.setTop (mkF m 178 #[.val (.int p1), .val (.int p2), .val (.int p3), .val (.int p4), .val (.int (0 : Int32)), .val (.ref uA), .val (.int (0 : Int32)), .val (.int (0 : Int32)), .val (.int (((p4 >>> ((2 : Int32) &&& 31)) &&& (63 : Int32)) - (32 : Int32))), .val (.int p2), .unset, .unset, .unset] [(.double (FP.i2d p3))])) _
          refine XS.dconst0 X2.here hx rfl (hb hby at_178) rfl ?_
          show Steps p.tables e below (T2.setTop (mkF m 179 #[.val (.int p1), .val (.int p2), .val (.int p3), .val (.int p4), .val (.int (0 : Int32)), .val (.ref uA), .val (.int (0 : Int32)), .val (.int (0 : Int32)), .val (.int (((p4 >>> ((2 : Int32) &&& 31)) &&& (63 : Int32)) - (32 : Int32))), .val (.int p2), .unset, .unset, .unset] [(.double (0 : UInt64)), (.double (FP.i2d p3))])) _
          refine XS.daddS X2.here hx rfl (hb hby at_179) rfl (own_lo_nn p3) rfl ?_
          show Steps p.tables e below (T2.setTop (mkF m 180 #[.val (.int p1), .val (.int p2), .val (.int p3), .val (.int p4), .val (.int (0 : Int32)), .val (.ref uA), .val (.int (0 : Int32)), .val (.int (0 : Int32)), .val (.int (((p4 >>> ((2 : Int32) &&& 31)) &&& (63 : Int32)) - (32 : Int32))), .val (.int p2), .unset, .unset, .unset] [(.double (FP.dadd (FP.i2d p3) (0 : UInt64)))])) _
          refine XS.dstore X2.here hx rfl (hb hby at_180) rfl (l' := #[.val (.int p1), .val (.int p2), .val (.int p3), .val (.int p4), .val (.int (0 : Int32)), .val (.ref uA), .val (.int (0 : Int32)), .val (.int (0 : Int32)), .val (.int (((p4 >>> ((2 : Int32) &&& 31)) &&& (63 : Int32)) - (32 : Int32))), .val (.int p2), .val (.double (FP.dadd (FP.i2d p3) (0 : UInt64))), .second, .unset]) rfl ?_
          exact k9
        refine go (T2.setTop (mkF m 212 #[.val (.int p1), .val (.int p2), .val (.int p3), .val (.int p4), .val (.int (0 : Int32)), .val (.ref uA), .val (.int (0 : Int32)), .val (.int (0 : Int32)), .val (.int (((p4 >>> ((2 : Int32) &&& 31)) &&& (63 : Int32)) - (32 : Int32))), .val (.int p2), .val (.double (FP.dadd (FP.i2d p3) (0 : UInt64))), .second, .unset] [(.int (if p2 < p3 then (1 : Int32) else (0 : Int32)))])) _ (fun t9 k9 => ?_) ?_
        · show Steps p.tables e below (T2.setTop (mkF m 182 #[.val (.int p1), .val (.int p2), .val (.int p3), .val (.int p4), .val (.int (0 : Int32)), .val (.ref uA), .val (.int (0 : Int32)), .val (.int (0 : Int32)), .val (.int (((p4 >>> ((2 : Int32) &&& 31)) &&& (63 : Int32)) - (32 : Int32))), .val (.int p2), .val (.double (FP.dadd (FP.i2d p3) (0 : UInt64))), .second, .unset] [])) _
          refine XS.iload X2.here hx rfl (hb hby at_182) rfl ?_
          show Steps p.tables e below (T2.setTop (mkF m 184 #[.val (.int p1), .val (.int p2), .val (.int p3), .val (.int p4), .val (.int (0 : Int32)), .val (.ref uA), .val (.int (0 : Int32)), .val (.int (0 : Int32)), .val (.int (((p4 >>> ((2 : Int32) &&& 31)) &&& (63 : Int32)) - (32 : Int32))), .val (.int p2), .val (.double (FP.dadd (FP.i2d p3) (0 : UInt64))), .second, .unset] [(.int (0 : Int32))])) _
          refine XS.ifYes X2.here hx rfl (pc0 := 184) (pc' := 201) rfl (hb hby at_184) rfl ((if0 _ _).trans (teq (by decide : (0 : Int32) = (0 : Int32))).1) (by decide) (by decide) ?_
          show Steps p.tables e below (T2.setTop (mkF m 201 #[.val (.int p1), .val (.int p2), .val (.int p3), .val (.int p4), .val (.int (0 : Int32)), .val (.ref uA), .val (.int (0 : Int32)), .val (.int (0 : Int32)), .val (.int (((p4 >>> ((2 : Int32) &&& 31)) &&& (63 : Int32)) - (32 : Int32))), .val (.int p2), .val (.double (FP.dadd (FP.i2d p3) (0 : UInt64))), .second, .unset] [])) _
          refine XS.iloadN X2.here hx rfl (hb hby at_201) rfl ?_
          show Steps p.tables e below (T2.setTop (mkF m 202 #[.val (.int p1), .val (.int p2), .val (.int p3), .val (.int p4), .val (.int (0 : Int32)), .val (.ref uA), .val (.int (0 : Int32)), .val (.int (0 : Int32)), .val (.int (((p4 >>> ((2 : Int32) &&& 31)) &&& (63 : Int32)) - (32 : Int32))), .val (.int p2), .val (.double (FP.dadd (FP.i2d p3) (0 : UInt64))), .second, .unset] [(.int p3)])) _
          refine XS.iload X2.here hx rfl (hb hby at_202) rfl ?_
          by_cases h204_1 : p2 < p3
          · try (simp only [if_pos h204_1] at k9)
            show Steps p.tables e below (T2.setTop (mkF m 204 #[.val (.int p1), .val (.int p2), .val (.int p3), .val (.int p4), .val (.int (0 : Int32)), .val (.ref uA), .val (.int (0 : Int32)), .val (.int (0 : Int32)), .val (.int (((p4 >>> ((2 : Int32) &&& 31)) &&& (63 : Int32)) - (32 : Int32))), .val (.int p2), .val (.double (FP.dadd (FP.i2d p3) (0 : UInt64))), .second, .unset] [(.int p2), (.int p3)])) _
            refine XS.icmpNo X2.here hx rfl (hb hby at_204) rfl (tlt h204_1).2.2.2 ?_
            show Steps p.tables e below (T2.setTop (mkF m 207 #[.val (.int p1), .val (.int p2), .val (.int p3), .val (.int p4), .val (.int (0 : Int32)), .val (.ref uA), .val (.int (0 : Int32)), .val (.int (0 : Int32)), .val (.int (((p4 >>> ((2 : Int32) &&& 31)) &&& (63 : Int32)) - (32 : Int32))), .val (.int p2), .val (.double (FP.dadd (FP.i2d p3) (0 : UInt64))), .second, .unset] [])) _
            refine XS.iconst X2.here hx rfl (hb hby at_207) ?_
            show Steps p.tables e below (T2.setTop (mkF m 208 #[.val (.int p1), .val (.int p2), .val (.int p3), .val (.int p4), .val (.int (0 : Int32)), .val (.ref uA), .val (.int (0 : Int32)), .val (.int (0 : Int32)), .val (.int (((p4 >>> ((2 : Int32) &&& 31)) &&& (63 : Int32)) - (32 : Int32))), .val (.int p2), .val (.double (FP.dadd (FP.i2d p3) (0 : UInt64))), .second, .unset] [(.int (1 : Int32))])) _
            refine XS.goto X2.here hx rfl (pc0 := 208) (pc' := 212) rfl (hb hby at_208) (by decide) (by decide) ?_
            exact k9
          · try (simp only [if_neg h204_1] at k9)
            show Steps p.tables e below (T2.setTop (mkF m 204 #[.val (.int p1), .val (.int p2), .val (.int p3), .val (.int p4), .val (.int (0 : Int32)), .val (.ref uA), .val (.int (0 : Int32)), .val (.int (0 : Int32)), .val (.int (((p4 >>> ((2 : Int32) &&& 31)) &&& (63 : Int32)) - (32 : Int32))), .val (.int p2), .val (.double (FP.dadd (FP.i2d p3) (0 : UInt64))), .second, .unset] [(.int p2), (.int p3)])) _
            refine XS.icmpYes X2.here hx rfl (pc0 := 204) (pc' := 211) rfl (hb hby at_204) rfl (flt h204_1).2.2.2 (by decide) (by decide) ?_
            show Steps p.tables e below (T2.setTop (mkF m 211 #[.val (.int p1), .val (.int p2), .val (.int p3), .val (.int p4), .val (.int (0 : Int32)), .val (.ref uA), .val (.int (0 : Int32)), .val (.int (0 : Int32)), .val (.int (((p4 >>> ((2 : Int32) &&& 31)) &&& (63 : Int32)) - (32 : Int32))), .val (.int p2), .val (.double (FP.dadd (FP.i2d p3) (0 : UInt64))), .second, .unset] [])) _
            refine XS.iconst X2.here hx rfl (hb hby at_211) ?_
            exact k9
        refine go (T2.setTop (mkF m 220 #[.val (.int p1), .val (.int p2), .val (.int p3), .val (.int p4), .val (.int (0 : Int32)), .val (.ref uA), .val (.int (0 : Int32)), .val (.int (0 : Int32)), .val (.int (((p4 >>> ((2 : Int32) &&& 31)) &&& (63 : Int32)) - (32 : Int32))), .val (.int p2), .val (.double (FP.dadd (FP.i2d p3) (0 : UInt64))), .second, .val (.int (if p2 < p3 then (1 : Int32) else (0 : Int32)))] [(.int p2), (.double (FP.dadd (FP.i2d p3) (0 : UInt64))), (.ref uA)])) _ (fun t9 k9 => ?_) ?_
        · show Steps p.tables e below (T2.setTop (mkF m 212 #[.val (.int p1), .val (.int p2), .val (.int p3), .val (.int p4), .val (.int (0 : Int32)), .val (.ref uA), .val (.int (0 : Int32)), .val (.int (0 : Int32)), .val (.int (((p4 >>> ((2 : Int32) &&& 31)) &&& (63 : Int32)) - (32 : Int32))), .val (.int p2), .val (.double (FP.dadd (FP.i2d p3) (0 : UInt64))), .second, .unset] [(.int (if p2 < p3 then (1 : Int32) else (0 : Int32)))])) _
          refine XS.istore X2.here hx rfl (hb hby at_212) rfl (l' := #[.val (.int p1), .val (.int p2), .val (.int p3), .val (.int p4), .val (.int (0 : Int32)), .val (.ref uA), .val (.int (0 : Int32)), .val (.int (0 : Int32)), .val (.int (((p4 >>> ((2 : Int32) &&& 31)) &&& (63 : Int32)) - (32 : Int32))), .val (.int p2), .val (.double (FP.dadd (FP.i2d p3) (0 : UInt64))), .second, .val (.int (if p2 < p3 then (1 : Int32) else (0 : Int32)))]) rfl ?_
          show Steps p.tables e below (T2.setTop (mkF m 214 #[.val (.int p1), .val (.int p2), .val (.int p3), .val (.int p4), .val (.int (0 : Int32)), .val (.ref uA), .val (.int (0 : Int32)), .val (.int (0 : Int32)), .val (.int (((p4 >>> ((2 : Int32) &&& 31)) &&& (63 : Int32)) - (32 : Int32))), .val (.int p2), .val (.double (FP.dadd (FP.i2d p3) (0 : UInt64))), .second, .val (.int (if p2 < p3 then (1 : Int32) else (0 : Int32)))] [])) _
          refine XS.aload X2.here hx rfl (hb hby at_214) rfl rfl ?_
          show Steps p.tables e below (T2.setTop (mkF m 216 #[.val (.int p1), .val (.int p2), .val (.int p3), .val (.int p4), .val (.int (0 : Int32)), .val (.ref uA), .val (.int (0 : Int32)), .val (.int (0 : Int32)), .val (.int (((p4 >>> ((2 : Int32) &&& 31)) &&& (63 : Int32)) - (32 : Int32))), .val (.int p2), .val (.double (FP.dadd (FP.i2d p3) (0 : UInt64))), .second, .val (.int (if p2 < p3 then (1 : Int32) else (0 : Int32)))] [(.ref uA)])) _
          refine XS.dload X2.here hx rfl (hb hby at_216) rfl ?_
          show Steps p.tables e below (T2.setTop (mkF m 218 #[.val (.int p1), .val (.int p2), .val (.int p3), .val (.int p4), .val (.int (0 : Int32)), .val (.ref uA), .val (.int (0 : Int32)), .val (.int (0 : Int32)), .val (.int (((p4 >>> ((2 : Int32) &&& 31)) &&& (63 : Int32)) - (32 : Int32))), .val (.int p2), .val (.double (FP.dadd (FP.i2d p3) (0 : UInt64))), .second, .val (.int (if p2 < p3 then (1 : Int32) else (0 : Int32)))] [(.double (FP.dadd (FP.i2d p3) (0 : UInt64))), (.ref uA)])) _
          refine XS.iload X2.here hx rfl (hb hby at_218) rfl ?_
          exact k9
        obtain ⟨cq4, kq4, q4a, q4b, q4c⟩ := isOf hZ e2 ExaA
        obtain ⟨_, _, ⟨T4, L4, k4, n4⟩, -, X4, ⟨Lc4, hQ4, l4, y4, z4⟩, st4⟩ := X2.virtualBack hx (y := (⟨"com/example/cohortwise/cohortwise/plan/Attendance", "exceeds", "(DI)Z"⟩ : MethodName)) (z := (⟨"com/example/cohortwise/cohortwise/plan/Attendance", "exceeds", "(DI)Z"⟩ : MethodName)) hown (mvT hZ (hw _ (List.mem_of_getElem? (i := 5) rfl))) (mvT hZ (hw _ (List.mem_of_getElem? (i := 6) rfl))) (notFace_of_selects (args := #[]) (mvT hZ (hw _ (List.mem_of_getElem? (i := 8) rfl)))) (mvT hZ (hw _ (List.mem_of_getElem? (i := 8) rfl))) (mvT hZ (hw _ (List.mem_of_getElem? (i := 7) rfl))) (by decide) (backOf (W := 0) (rm1 l Z a0 hw [] uA (FP.dadd (FP.i2d p3) (0 : UInt64)) p2 uA h0 n0 Z0 StaA) hZ (hw _ (List.mem_of_getElem? (i := 9) rfl)) (hw _ (List.mem_of_getElem? (i := 1) rfl)) (by decide) (by decide)) q4a q4c (g := (mkF m 220 #[.val (.int p1), .val (.int p2), .val (.int p3), .val (.int p4), .val (.int (0 : Int32)), .val (.ref uA), .val (.int (0 : Int32)), .val (.int (0 : Int32)), .val (.int (((p4 >>> ((2 : Int32) &&& 31)) &&& (63 : Int32)) - (32 : Int32))), .val (.int p2), .val (.double (FP.dadd (FP.i2d p3) (0 : UInt64))), .second, .val (.int (if p2 < p3 then (1 : Int32) else (0 : Int32)))] [(.int p2), (.double (FP.dadd (FP.i2d p3) (0 : UInt64))), (.ref uA)])) rfl (by rw [hml]; rfl) (Steps.refl _) (argsL := [(.double (FP.dadd (FP.i2d p3) (0 : UInt64))), (.int p2)]) (rest := []) (lenOf pd__28DI_29Z rfl) rfl (by show 2 * 0 + _ ≤ _; exact Nat.le_of_eq rfl) (hb hby at_220) (fun _ _ => ⟨rfl, e2, (by decide : 0 + 0 ≤ _), (by decide : 0 + 0 ≤ _)⟩)
        dsimp only [Pt.U, Pt.locs, Pt.cells, Pt.slots] at X4 l4 y4 z4 st4 hQ4
        subst l4 y4 z4
        obtain ⟨rfl, N4q, e4q⟩ := hQ4
        have N4 := Fr.app N0 N4q
        refine go (T4.setTop (mkF m 223 #[.val (.int p1), .val (.int p2), .val (.int p3), .val (.int p4), .val (.int (0 : Int32)), .val (.ref uA), .val (.int (0 : Int32)), .val (.int (0 : Int32)), .val (.int (((p4 >>> ((2 : Int32) &&& 31)) &&& (63 : Int32)) - (32 : Int32))), .val (.int p2), .val (.double (FP.dadd (FP.i2d p3) (0 : UInt64))), .second, .val (.int (if p2 < p3 then (1 : Int32) else (0 : Int32)))] [(.int (if uA = uA then own_excA (FP.dadd (FP.i2d p3) (0 : UInt64)) p2 else own_excE (FP.dadd (FP.i2d p3) (0 : UInt64)) p2))])) _ (fun t9 k9 => st4.trans k9) ?_
        rw [if_pos rfl]
        refine go (T4.setTop (mkF m 225 #[.val (.int p1), .val (.int p2), .val (.int p3), .val (.int p4), .val (.int (0 : Int32)), .val (.ref uA), .val (.int (0 : Int32)), .val (.int (0 : Int32)), .val (.int (((p4 >>> ((2 : Int32) &&& 31)) &&& (63 : Int32)) - (32 : Int32))), .val (.int p2), .val (.double (FP.dadd (FP.i2d p3) (0 : UInt64))), .second, .val (.int (if p2 < p3 then (1 : Int32) else (0 : Int32)))] [(.int (if p2 < p3 then (1 : Int32) else (0 : Int32))), (.int (own_excA (FP.dadd (FP.i2d p3) (0 : UInt64)) p2))])) _ (fun t9 k9 => ?_) ?_
        · show Steps p.tables e below (T4.setTop (mkF m 223 #[.val (.int p1), .val (.int p2), .val (.int p3), .val (.int p4), .val (.int (0 : Int32)), .val (.ref uA), .val (.int (0 : Int32)), .val (.int (0 : Int32)), .val (.int (((p4 >>> ((2 : Int32) &&& 31)) &&& (63 : Int32)) - (32 : Int32))), .val (.int p2), .val (.double (FP.dadd (FP.i2d p3) (0 : UInt64))), .second, .val (.int (if p2 < p3 then (1 : Int32) else (0 : Int32)))] [(.int (own_excA (FP.dadd (FP.i2d p3) (0 : UInt64)) p2))])) _
          refine XS.iload X4.here hx rfl (hb hby at_223) rfl ?_
          exact k9
        have hfin : (own_excA (FP.dadd (FP.i2d p3) (0 : UInt64)) p2) = (if p2 < p3 then (1 : Int32) else (0 : Int32)) := own_absA p3 p2
        refine go (T4.setTop (mkF m 233 #[.val (.int p1), .val (.int p2), .val (.int p3), .val (.int p4), .val (.int (0 : Int32)), .val (.ref uA), .val (.int (0 : Int32)), .val (.int (0 : Int32)), .val (.int (((p4 >>> ((2 : Int32) &&& 31)) &&& (63 : Int32)) - (32 : Int32))), .val (.int p2), .val (.double (FP.dadd (FP.i2d p3) (0 : UInt64))), .second, .val (.int (if p2 < p3 then (1 : Int32) else (0 : Int32)))] [(.int (1 : Int32))])) _ (fun t9 k9 => ?_) ?_
        · show Steps p.tables e below (T4.setTop (mkF m 225 #[.val (.int p1), .val (.int p2), .val (.int p3), .val (.int p4), .val (.int (0 : Int32)), .val (.ref uA), .val (.int (0 : Int32)), .val (.int (0 : Int32)), .val (.int (((p4 >>> ((2 : Int32) &&& 31)) &&& (63 : Int32)) - (32 : Int32))), .val (.int p2), .val (.double (FP.dadd (FP.i2d p3) (0 : UInt64))), .second, .val (.int (if p2 < p3 then (1 : Int32) else (0 : Int32)))] [(.int (if p2 < p3 then (1 : Int32) else (0 : Int32))), (.int (own_excA (FP.dadd (FP.i2d p3) (0 : UInt64)) p2))])) _
          refine XS.icmpNo X4.here hx rfl (hb hby at_225) rfl (teq hfin).2 ?_
          show Steps p.tables e below (T4.setTop (mkF m 228 #[.val (.int p1), .val (.int p2), .val (.int p3), .val (.int p4), .val (.int (0 : Int32)), .val (.ref uA), .val (.int (0 : Int32)), .val (.int (0 : Int32)), .val (.int (((p4 >>> ((2 : Int32) &&& 31)) &&& (63 : Int32)) - (32 : Int32))), .val (.int p2), .val (.double (FP.dadd (FP.i2d p3) (0 : UInt64))), .second, .val (.int (if p2 < p3 then (1 : Int32) else (0 : Int32)))] [])) _
          refine XS.iconst X4.here hx rfl (hb hby at_228) ?_
          show Steps p.tables e below (T4.setTop (mkF m 229 #[.val (.int p1), .val (.int p2), .val (.int p3), .val (.int p4), .val (.int (0 : Int32)), .val (.ref uA), .val (.int (0 : Int32)), .val (.int (0 : Int32)), .val (.int (((p4 >>> ((2 : Int32) &&& 31)) &&& (63 : Int32)) - (32 : Int32))), .val (.int p2), .val (.double (FP.dadd (FP.i2d p3) (0 : UInt64))), .second, .val (.int (if p2 < p3 then (1 : Int32) else (0 : Int32)))] [(.int (1 : Int32))])) _
          refine XS.goto X4.here hx rfl (pc0 := 229) (pc' := 233) rfl (hb hby at_229) (by decide) (by decide) ?_
          exact k9
        obtain ⟨fs, hr, hrun, hended, hW, hsame⟩ := X4.leave (v := some (.int (1 : Int32))) (fun h => by rw [Bd.returns] at h; cases h) hlk
        refine fin _ ⟨_, _, retN X4 hx (t := .boolean) Bd.returns (by simp) (hb hby at_233) hr, hrun, hended, _, _, rfl, ?_, ⟨_, rfl⟩, hW, hsame.mono (by decide) (by decide)⟩
        show Q0 Z p1 p2 p3 p4 h0 n0 _ T4.heap _
        exact ⟨rfl, N4⟩
      · refine go (T2.setTop (mkF m 182 #[.val (.int p1), .val (.int p2), .val (.int p3), .val (.int p4), .val (.int (0 : Int32)), .val (.ref uA), .val (.int (0 : Int32)), .val (.int (1 : Int32)), .val (.int (((p4 >>> ((2 : Int32) &&& 31)) &&& (63 : Int32)) - (32 : Int32))), .val (.int p2), .val (.double (FP.dadd (FP.i2d p3) (4602678819172646912 : UInt64))), .second, .unset] [])) _ (fun t9 k9 => ?_) ?_
        · show Steps p.tables e below (T2.setTop (mkF m 45 #[.val (.int p1), .val (.int p2), .val (.int p3), .val (.int p4), .val (.int (0 : Int32)), .val (.ref uA), .val (.int (0 : Int32)), .unset, .unset, .unset, .unset, .unset, .unset] [(.int (p4 &&& (2 : Int32)))])) _
          refine XS.ifNo X2.here hx rfl (hb hby at_45) rfl ((if0 _ _).trans (feq hh).1) ?_
          show Steps p.tables e below (T2.setTop (mkF m 48 #[.val (.int p1), .val (.int p2), .val (.int p3), .val (.int p4), .val (.int (0 : Int32)), .val (.ref uA), .val (.int (0 : Int32)), .unset, .unset, .unset, .unset, .unset, .unset] [])) _
          refine XS.iconst X2.here hx rfl (hb hby at_48) ?_
          show Steps p.tables e below (T2.setTop (mkF m 49 #[.val (.int p1), .val (.int p2), .val (.int p3), .val (.int p4), .val (.int (0 : Int32)), .val (.ref uA), .val (.int (0 : Int32)), .unset, .unset, .unset, .unset, .unset, .unset] [(.int (1 : Int32))])) _
          refine XS.goto X2.here hx rfl (pc0 := 49) (pc' := 53) rfl (hb hby at_49) (by decide) (by decide) ?_
          show Steps p.tables e below (T2.setTop (mkF m 53 #[.val (.int p1), .val (.int p2), .val (.int p3), .val (.int p4), .val (.int (0 : Int32)), .val (.ref uA), .val (.int (0 : Int32)), .unset, .unset, .unset, .unset, .unset, .unset] [(.int (1 : Int32))])) _
          refine XS.istore X2.here hx rfl (hb hby at_53) rfl (l' := #[.val (.int p1), .val (.int p2), .val (.int p3), .val (.int p4), .val (.int (0 : Int32)), .val (.ref uA), .val (.int (0 : Int32)), .val (.int (1 : Int32)), .unset, .unset, .unset, .unset, .unset]) rfl ?_
          show Steps p.tables e below (T2.setTop (mkF m 55 #[.val (.int p1), .val (.int p2), .val (.int p3), .val (.int p4), .val (.int (0 : Int32)), .val (.ref uA), .val (.int (0 : Int32)), .val (.int (1 : Int32)), .unset, .unset, .unset, .unset, .unset] [])) _
          refine XS.iloadN X2.here hx rfl (hb hby at_55) rfl ?_
          show Steps p.tables e below (T2.setTop (mkF m 56 #[.val (.int p1), .val (.int p2), .val (.int p3), .val (.int p4), .val (.int (0 : Int32)), .val (.ref uA), .val (.int (0 : Int32)), .val (.int (1 : Int32)), .unset, .unset, .unset, .unset, .unset] [(.int p4)])) _
          refine XS.iconst X2.here hx rfl (hb hby at_56) ?_
          show Steps p.tables e below (T2.setTop (mkF m 57 #[.val (.int p1), .val (.int p2), .val (.int p3), .val (.int p4), .val (.int (0 : Int32)), .val (.ref uA), .val (.int (0 : Int32)), .val (.int (1 : Int32)), .unset, .unset, .unset, .unset, .unset] [(.int (2 : Int32)), (.int p4)])) _
          refine XS.ishr X2.here hx rfl (hb hby at_57) rfl ?_
          show Steps p.tables e below (T2.setTop (mkF m 58 #[.val (.int p1), .val (.int p2), .val (.int p3), .val (.int p4), .val (.int (0 : Int32)), .val (.ref uA), .val (.int (0 : Int32)), .val (.int (1 : Int32)), .unset, .unset, .unset, .unset, .unset] [(.int (p4 >>> ((2 : Int32) &&& 31)))])) _
          refine XS.bipush X2.here hx rfl (hb hby at_58) ?_
          show Steps p.tables e below (T2.setTop (mkF m 60 #[.val (.int p1), .val (.int p2), .val (.int p3), .val (.int p4), .val (.int (0 : Int32)), .val (.ref uA), .val (.int (0 : Int32)), .val (.int (1 : Int32)), .unset, .unset, .unset, .unset, .unset] [(.int (63 : Int32)), (.int (p4 >>> ((2 : Int32) &&& 31)))])) _
          refine XS.iand X2.here hx rfl (hb hby at_60) rfl ?_
          show Steps p.tables e below (T2.setTop (mkF m 61 #[.val (.int p1), .val (.int p2), .val (.int p3), .val (.int p4), .val (.int (0 : Int32)), .val (.ref uA), .val (.int (0 : Int32)), .val (.int (1 : Int32)), .unset, .unset, .unset, .unset, .unset] [(.int ((p4 >>> ((2 : Int32) &&& 31)) &&& (63 : Int32)))])) _
          refine XS.bipush X2.here hx rfl (hb hby at_61) ?_
          show Steps p.tables e below (T2.setTop (mkF m 63 #[.val (.int p1), .val (.int p2), .val (.int p3), .val (.int p4), .val (.int (0 : Int32)), .val (.ref uA), .val (.int (0 : Int32)), .val (.int (1 : Int32)), .unset, .unset, .unset, .unset, .unset] [(.int (32 : Int32)), (.int ((p4 >>> ((2 : Int32) &&& 31)) &&& (63 : Int32)))])) _
          refine XS.isub X2.here hx rfl (hb hby at_63) rfl ?_
          show Steps p.tables e below (T2.setTop (mkF m 64 #[.val (.int p1), .val (.int p2), .val (.int p3), .val (.int p4), .val (.int (0 : Int32)), .val (.ref uA), .val (.int (0 : Int32)), .val (.int (1 : Int32)), .unset, .unset, .unset, .unset, .unset] [(.int (((p4 >>> ((2 : Int32) &&& 31)) &&& (63 : Int32)) - (32 : Int32)))])) _
          refine XS.istore X2.here hx rfl (hb hby at_64) rfl (l' := #[.val (.int p1), .val (.int p2), .val (.int p3), .val (.int p4), .val (.int (0 : Int32)), .val (.ref uA), .val (.int (0 : Int32)), .val (.int (1 : Int32)), .val (.int (((p4 >>> ((2 : Int32) &&& 31)) &&& (63 : Int32)) - (32 : Int32))), .unset, .unset, .unset, .unset]) rfl ?_
          show Steps p.tables e below (T2.setTop (mkF m 66 #[.val (.int p1), .val (.int p2), .val (.int p3), .val (.int p4), .val (.int (0 : Int32)), .val (.ref uA), .val (.int (0 : Int32)), .val (.int (1 : Int32)), .val (.int (((p4 >>> ((2 : Int32) &&& 31)) &&& (63 : Int32)) - (32 : Int32))), .unset, .unset, .unset, .unset] [])) _
          refine XS.iload X2.here hx rfl (hb hby at_66) rfl ?_
          show Steps p.tables e below (T2.setTop (mkF m 68 #[.val (.int p1), .val (.int p2), .val (.int p3), .val (.int p4), .val (.int (0 : Int32)), .val (.ref uA), .val (.int (0 : Int32)), .val (.int (1 : Int32)), .val (.int (((p4 >>> ((2 : Int32) &&& 31)) &&& (63 : Int32)) - (32 : Int32))), .unset, .unset, .unset, .unset] [(.int (0 : Int32))])) _
          refine XS.ifYes X2.here hx rfl (pc0 := 68) (pc' := 147) rfl (hb hby at_68) rfl ((if0 _ _).trans (teq (by decide : (0 : Int32) = (0 : Int32))).1) (by decide) (by decide) ?_
          show Steps p.tables e below (T2.setTop (mkF m 147 #[.val (.int p1), .val (.int p2), .val (.int p3), .val (.int p4), .val (.int (0 : Int32)), .val (.ref uA), .val (.int (0 : Int32)), .val (.int (1 : Int32)), .val (.int (((p4 >>> ((2 : Int32) &&& 31)) &&& (63 : Int32)) - (32 : Int32))), .unset, .unset, .unset, .unset] [])) _
          refine XS.iload X2.here hx rfl (hb hby at_147) rfl ?_
          show Steps p.tables e below (T2.setTop (mkF m 149 #[.val (.int p1), .val (.int p2), .val (.int p3), .val (.int p4), .val (.int (0 : Int32)), .val (.ref uA), .val (.int (0 : Int32)), .val (.int (1 : Int32)), .val (.int (((p4 >>> ((2 : Int32) &&& 31)) &&& (63 : Int32)) - (32 : Int32))), .unset, .unset, .unset, .unset] [(.int (0 : Int32))])) _
          refine XS.ifYes X2.here hx rfl (pc0 := 149) (pc' := 162) rfl (hb hby at_149) rfl ((if0 _ _).trans (teq (by decide : (0 : Int32) = (0 : Int32))).1) (by decide) (by decide) ?_
          show Steps p.tables e below (T2.setTop (mkF m 162 #[.val (.int p1), .val (.int p2), .val (.int p3), .val (.int p4), .val (.int (0 : Int32)), .val (.ref uA), .val (.int (0 : Int32)), .val (.int (1 : Int32)), .val (.int (((p4 >>> ((2 : Int32) &&& 31)) &&& (63 : Int32)) - (32 : Int32))), .unset, .unset, .unset, .unset] [])) _
          refine XS.iloadN X2.here hx rfl (hb hby at_162) rfl ?_
          show Steps p.tables e below (T2.setTop (mkF m 163 #[.val (.int p1), .val (.int p2), .val (.int p3), .val (.int p4), .val (.int (0 : Int32)), .val (.ref uA), .val (.int (0 : Int32)), .val (.int (1 : Int32)), .val (.int (((p4 >>> ((2 : Int32) &&& 31)) &&& (63 : Int32)) - (32 : Int32))), .unset, .unset, .unset, .unset] [(.int p2)])) _
          refine XS.istore X2.here hx rfl (hb hby at_163) rfl (l' := #[.val (.int p1), .val (.int p2), .val (.int p3), .val (.int p4), .val (.int (0 : Int32)), .val (.ref uA), .val (.int (0 : Int32)), .val (.int (1 : Int32)), .val (.int (((p4 >>> ((2 : Int32) &&& 31)) &&& (63 : Int32)) - (32 : Int32))), .val (.int p2), .unset, .unset, .unset]) rfl ?_
          show Steps p.tables e below (T2.setTop (mkF m 165 #[.val (.int p1), .val (.int p2), .val (.int p3), .val (.int p4), .val (.int (0 : Int32)), .val (.ref uA), .val (.int (0 : Int32)), .val (.int (1 : Int32)), .val (.int (((p4 >>> ((2 : Int32) &&& 31)) &&& (63 : Int32)) - (32 : Int32))), .val (.int p2), .unset, .unset, .unset] [])) _
          refine XS.iloadN X2.here hx rfl (hb hby at_165) rfl ?_
          show Steps p.tables e below (T2.setTop (mkF m 166 #[.val (.int p1), .val (.int p2), .val (.int p3), .val (.int p4), .val (.int (0 : Int32)), .val (.ref uA), .val (.int (0 : Int32)), .val (.int (1 : Int32)), .val (.int (((p4 >>> ((2 : Int32) &&& 31)) &&& (63 : Int32)) - (32 : Int32))), .val (.int p2), .unset, .unset, .unset] [(.int p3)])) _
          refine XS.i2dS X2.here hx rfl (hb hby at_166) rfl rfl ?_
          show Steps p.tables e below (T2.setTop (mkF m 167 #[.val (.int p1), .val (.int p2), .val (.int p3), .val (.int p4), .val (.int (0 : Int32)), .val (.ref uA), .val (.int (0 : Int32)), .val (.int (1 : Int32)), .val (.int (((p4 >>> ((2 : Int32) &&& 31)) &&& (63 : Int32)) - (32 : Int32))), .val (.int p2), .unset, .unset, .unset] [(.double (FP.i2d p3))])) _
          refine XS.iload X2.here hx rfl (hb hby at_167) rfl ?_
          show Steps p.tables e below (T2.setTop (mkF m 169 #[.val (.int p1), .val (.int p2), .val (.int p3), .val (.int p4), .val (.int (0 : Int32)), .val (.ref uA), .val (.int (0 : Int32)), .val (.int (1 : Int32)), .val (.int (((p4 >>> ((2 : Int32) &&& 31)) &&& (63 : Int32)) - (32 : Int32))), .val (.int p2), .unset, .unset, .unset] [(.int (1 : Int32)), (.double (FP.i2d p3))])) _
          refine XS.ifNo X2.here hx rfl (hb hby at_169) rfl ((if0 _ _).trans (feq (by decide : ¬ (1 : Int32) = (0 : Int32))).1) ?_
          show Steps p.tables e below (T2.setTop (mkF m 172 #[.val (.int p1), .val (.int p2), .val (.int p3), .val (.int p4), .val (.int (0 : Int32)), .val (.ref uA), .val (.int (0 : Int32)), .val (.int (1 : Int32)), .val (.int (((p4 >>> ((2 : Int32) &&& 31)) &&& (63 : Int32)) - (32 : Int32))), .val (.int p2), .unset, .unset, .unset] [(.double (FP.i2d p3))])) _
          refine X2.ldc2DoubleC hx hown (mvT hZ (hw _ (List.mem_of_getElem? (i := 11) rfl))) (g := (mkF m 172 #[.val (.int p1), .val (.int p2), .val (.int p3), .val (.int p4), .val (.int (0 : Int32)), .val (.ref uA), .val (.int (0 : Int32)), .val (.int (1 : Int32)), .val (.int (((p4 >>> ((2 : Int32) &&& 31)) &&& (63 : Int32)) - (32 : Int32))), .val (.int p2), .unset, .unset, .unset] [(.double (FP.i2d p3))])) rfl (hb hby at_172) _ ?_
          show Steps p.tables e below (T2.setTop (mkF m 175 #[.val (.int p1), .val (.int p2), .val (.int p3), .val (.int p4), .val (.int (0 : Int32)), .val (.ref uA), .val (.int (0 : Int32)), .val (.int (1 : Int32)), .val (.int (((p4 >>> ((2 : Int32) &&& 31)) &&& (63 : Int32)) - (32 : Int32))), .val (.int p2), .unset, .unset, .unset] [(.double (4602678819172646912 : UInt64)), (.double (FP.i2d p3))])) _
          refine XS.goto X2.here hx rfl (pc0 := 175) (pc' := 179) rfl (hb hby at_175) (by decide) (by decide) ?_
          show Steps p.tables e below (T2.setTop (mkF m 179 #[.val (.int p1), .val (.int p2), .val (.int p3), .val (.int p4), .val (.int (0 : Int32)), .val (.ref uA), .val (.int (0 : Int32)), .val (.int (1 : Int32)), .val (.int (((p4 >>> ((2 : Int32) &&& 31)) &&& (63 : Int32)) - (32 : Int32))), .val (.int p2), .unset, .unset, .unset] [(.double (4602678819172646912 : UInt64)), (.double (FP.i2d p3))])) _
          refine XS.daddS X2.here hx rfl (hb hby at_179) rfl (own_loh_nn p3) rfl ?_
          show Steps p.tables e below (T2.setTop (mkF m 180 #[.val (.int p1), .val (.int p2), .val (.int p3), .val (.int p4), .val (.int (0 : Int32)), .val (.ref uA), .val (.int (0 : Int32)), .val (.int (1 : Int32)), .val (.int (((p4 >>> ((2 : Int32) &&& 31)) &&& (63 : Int32)) - (32 : Int32))), .val (.int p2), .unset, .unset, .unset] [(.double (FP.dadd (FP.i2d p3) (4602678819172646912 : UInt64)))])) _
          refine XS.dstore X2.here hx rfl (hb hby at_180) rfl (l' := #[.val (.int p1), .val (.int p2), .val (.int p3), .val (.int p4), .val (.int (0 : Int32)), .val (.ref uA), .val (.int (0 : Int32)), .val (.int (1 : Int32)), .val (.int (((p4 >>> ((2 : Int32) &&& 31)) &&& (63 : Int32)) - (32 : Int32))), .val (.int p2), .val (.double (FP.dadd (FP.i2d p3) (4602678819172646912 : UInt64))), .second, .unset]) rfl ?_
          exact k9
        refine go (T2.setTop (mkF m 212 #[.val (.int p1), .val (.int p2), .val (.int p3), .val (.int p4), .val (.int (0 : Int32)), .val (.ref uA), .val (.int (0 : Int32)), .val (.int (1 : Int32)), .val (.int (((p4 >>> ((2 : Int32) &&& 31)) &&& (63 : Int32)) - (32 : Int32))), .val (.int p2), .val (.double (FP.dadd (FP.i2d p3) (4602678819172646912 : UInt64))), .second, .unset] [(.int (if p3 < p2 then (0 : Int32) else (1 : Int32)))])) _ (fun t9 k9 => ?_) ?_
        · show Steps p.tables e below (T2.setTop (mkF m 182 #[.val (.int p1), .val (.int p2), .val (.int p3), .val (.int p4), .val (.int (0 : Int32)), .val (.ref uA), .val (.int (0 : Int32)), .val (.int (1 : Int32)), .val (.int (((p4 >>> ((2 : Int32) &&& 31)) &&& (63 : Int32)) - (32 : Int32))), .val (.int p2), .val (.double (FP.dadd (FP.i2d p3) (4602678819172646912 : UInt64))), .second, .unset] [])) _
          refine XS.iload X2.here hx rfl (hb hby at_182) rfl ?_
          show Steps p.tables e below (T2.setTop (mkF m 184 #[.val (.int p1), .val (.int p2), .val (.int p3), .val (.int p4), .val (.int (0 : Int32)), .val (.ref uA), .val (.int (0 : Int32)), .val (.int (1 : Int32)), .val (.int (((p4 >>> ((2 : Int32) &&& 31)) &&& (63 : Int32)) - (32 : Int32))), .val (.int p2), .val (.double (FP.dadd (FP.i2d p3) (4602678819172646912 : UInt64))), .second, .unset] [(.int (1 : Int32))])) _
          refine XS.ifNo X2.here hx rfl (hb hby at_184) rfl ((if0 _ _).trans (feq (by decide : ¬ (1 : Int32) = (0 : Int32))).1) ?_
          show Steps p.tables e below (T2.setTop (mkF m 187 #[.val (.int p1), .val (.int p2), .val (.int p3), .val (.int p4), .val (.int (0 : Int32)), .val (.ref uA), .val (.int (0 : Int32)), .val (.int (1 : Int32)), .val (.int (((p4 >>> ((2 : Int32) &&& 31)) &&& (63 : Int32)) - (32 : Int32))), .val (.int p2), .val (.double (FP.dadd (FP.i2d p3) (4602678819172646912 : UInt64))), .second, .unset] [])) _
          refine XS.iloadN X2.here hx rfl (hb hby at_187) rfl ?_
          show Steps p.tables e below (T2.setTop (mkF m 188 #[.val (.int p1), .val (.int p2), .val (.int p3), .val (.int p4), .val (.int (0 : Int32)), .val (.ref uA), .val (.int (0 : Int32)), .val (.int (1 : Int32)), .val (.int (((p4 >>> ((2 : Int32) &&& 31)) &&& (63 : Int32)) - (32 : Int32))), .val (.int p2), .val (.double (FP.dadd (FP.i2d p3) (4602678819172646912 : UInt64))), .second, .unset] [(.int p3)])) _
          refine XS.iload X2.here hx rfl (hb hby at_188) rfl ?_
          by_cases h190_1 : p3 < p2
          · try (simp only [if_pos h190_1] at k9)
            show Steps p.tables e below (T2.setTop (mkF m 190 #[.val (.int p1), .val (.int p2), .val (.int p3), .val (.int p4), .val (.int (0 : Int32)), .val (.ref uA), .val (.int (0 : Int32)), .val (.int (1 : Int32)), .val (.int (((p4 >>> ((2 : Int32) &&& 31)) &&& (63 : Int32)) - (32 : Int32))), .val (.int p2), .val (.double (FP.dadd (FP.i2d p3) (4602678819172646912 : UInt64))), .second, .unset] [(.int p2), (.int p3)])) _
            refine XS.icmpYes X2.here hx rfl (pc0 := 190) (pc' := 197) rfl (hb hby at_190) rfl (tlt h190_1).1 (by decide) (by decide) ?_
            show Steps p.tables e below (T2.setTop (mkF m 197 #[.val (.int p1), .val (.int p2), .val (.int p3), .val (.int p4), .val (.int (0 : Int32)), .val (.ref uA), .val (.int (0 : Int32)), .val (.int (1 : Int32)), .val (.int (((p4 >>> ((2 : Int32) &&& 31)) &&& (63 : Int32)) - (32 : Int32))), .val (.int p2), .val (.double (FP.dadd (FP.i2d p3) (4602678819172646912 : UInt64))), .second, .unset] [])) _
            refine XS.iconst X2.here hx rfl (hb hby at_197) ?_
            show Steps p.tables e below (T2.setTop (mkF m 198 #[.val (.int p1), .val (.int p2), .val (.int p3), .val (.int p4), .val (.int (0 : Int32)), .val (.ref uA), .val (.int (0 : Int32)), .val (.int (1 : Int32)), .val (.int (((p4 >>> ((2 : Int32) &&& 31)) &&& (63 : Int32)) - (32 : Int32))), .val (.int p2), .val (.double (FP.dadd (FP.i2d p3) (4602678819172646912 : UInt64))), .second, .unset] [(.int (0 : Int32))])) _
            refine XS.goto X2.here hx rfl (pc0 := 198) (pc' := 212) rfl (hb hby at_198) (by decide) (by decide) ?_
            exact k9
          · try (simp only [if_neg h190_1] at k9)
            show Steps p.tables e below (T2.setTop (mkF m 190 #[.val (.int p1), .val (.int p2), .val (.int p3), .val (.int p4), .val (.int (0 : Int32)), .val (.ref uA), .val (.int (0 : Int32)), .val (.int (1 : Int32)), .val (.int (((p4 >>> ((2 : Int32) &&& 31)) &&& (63 : Int32)) - (32 : Int32))), .val (.int p2), .val (.double (FP.dadd (FP.i2d p3) (4602678819172646912 : UInt64))), .second, .unset] [(.int p2), (.int p3)])) _
            refine XS.icmpNo X2.here hx rfl (hb hby at_190) rfl (flt h190_1).1 ?_
            show Steps p.tables e below (T2.setTop (mkF m 193 #[.val (.int p1), .val (.int p2), .val (.int p3), .val (.int p4), .val (.int (0 : Int32)), .val (.ref uA), .val (.int (0 : Int32)), .val (.int (1 : Int32)), .val (.int (((p4 >>> ((2 : Int32) &&& 31)) &&& (63 : Int32)) - (32 : Int32))), .val (.int p2), .val (.double (FP.dadd (FP.i2d p3) (4602678819172646912 : UInt64))), .second, .unset] [])) _
            refine XS.iconst X2.here hx rfl (hb hby at_193) ?_
            show Steps p.tables e below (T2.setTop (mkF m 194 #[.val (.int p1), .val (.int p2), .val (.int p3), .val (.int p4), .val (.int (0 : Int32)), .val (.ref uA), .val (.int (0 : Int32)), .val (.int (1 : Int32)), .val (.int (((p4 >>> ((2 : Int32) &&& 31)) &&& (63 : Int32)) - (32 : Int32))), .val (.int p2), .val (.double (FP.dadd (FP.i2d p3) (4602678819172646912 : UInt64))), .second, .unset] [(.int (1 : Int32))])) _
            refine XS.goto X2.here hx rfl (pc0 := 194) (pc' := 212) rfl (hb hby at_194) (by decide) (by decide) ?_
            exact k9
        refine go (T2.setTop (mkF m 220 #[.val (.int p1), .val (.int p2), .val (.int p3), .val (.int p4), .val (.int (0 : Int32)), .val (.ref uA), .val (.int (0 : Int32)), .val (.int (1 : Int32)), .val (.int (((p4 >>> ((2 : Int32) &&& 31)) &&& (63 : Int32)) - (32 : Int32))), .val (.int p2), .val (.double (FP.dadd (FP.i2d p3) (4602678819172646912 : UInt64))), .second, .val (.int (if p3 < p2 then (0 : Int32) else (1 : Int32)))] [(.int p2), (.double (FP.dadd (FP.i2d p3) (4602678819172646912 : UInt64))), (.ref uA)])) _ (fun t9 k9 => ?_) ?_
        · show Steps p.tables e below (T2.setTop (mkF m 212 #[.val (.int p1), .val (.int p2), .val (.int p3), .val (.int p4), .val (.int (0 : Int32)), .val (.ref uA), .val (.int (0 : Int32)), .val (.int (1 : Int32)), .val (.int (((p4 >>> ((2 : Int32) &&& 31)) &&& (63 : Int32)) - (32 : Int32))), .val (.int p2), .val (.double (FP.dadd (FP.i2d p3) (4602678819172646912 : UInt64))), .second, .unset] [(.int (if p3 < p2 then (0 : Int32) else (1 : Int32)))])) _
          refine XS.istore X2.here hx rfl (hb hby at_212) rfl (l' := #[.val (.int p1), .val (.int p2), .val (.int p3), .val (.int p4), .val (.int (0 : Int32)), .val (.ref uA), .val (.int (0 : Int32)), .val (.int (1 : Int32)), .val (.int (((p4 >>> ((2 : Int32) &&& 31)) &&& (63 : Int32)) - (32 : Int32))), .val (.int p2), .val (.double (FP.dadd (FP.i2d p3) (4602678819172646912 : UInt64))), .second, .val (.int (if p3 < p2 then (0 : Int32) else (1 : Int32)))]) rfl ?_
          show Steps p.tables e below (T2.setTop (mkF m 214 #[.val (.int p1), .val (.int p2), .val (.int p3), .val (.int p4), .val (.int (0 : Int32)), .val (.ref uA), .val (.int (0 : Int32)), .val (.int (1 : Int32)), .val (.int (((p4 >>> ((2 : Int32) &&& 31)) &&& (63 : Int32)) - (32 : Int32))), .val (.int p2), .val (.double (FP.dadd (FP.i2d p3) (4602678819172646912 : UInt64))), .second, .val (.int (if p3 < p2 then (0 : Int32) else (1 : Int32)))] [])) _
          refine XS.aload X2.here hx rfl (hb hby at_214) rfl rfl ?_
          show Steps p.tables e below (T2.setTop (mkF m 216 #[.val (.int p1), .val (.int p2), .val (.int p3), .val (.int p4), .val (.int (0 : Int32)), .val (.ref uA), .val (.int (0 : Int32)), .val (.int (1 : Int32)), .val (.int (((p4 >>> ((2 : Int32) &&& 31)) &&& (63 : Int32)) - (32 : Int32))), .val (.int p2), .val (.double (FP.dadd (FP.i2d p3) (4602678819172646912 : UInt64))), .second, .val (.int (if p3 < p2 then (0 : Int32) else (1 : Int32)))] [(.ref uA)])) _
          refine XS.dload X2.here hx rfl (hb hby at_216) rfl ?_
          show Steps p.tables e below (T2.setTop (mkF m 218 #[.val (.int p1), .val (.int p2), .val (.int p3), .val (.int p4), .val (.int (0 : Int32)), .val (.ref uA), .val (.int (0 : Int32)), .val (.int (1 : Int32)), .val (.int (((p4 >>> ((2 : Int32) &&& 31)) &&& (63 : Int32)) - (32 : Int32))), .val (.int p2), .val (.double (FP.dadd (FP.i2d p3) (4602678819172646912 : UInt64))), .second, .val (.int (if p3 < p2 then (0 : Int32) else (1 : Int32)))] [(.double (FP.dadd (FP.i2d p3) (4602678819172646912 : UInt64))), (.ref uA)])) _
          refine XS.iload X2.here hx rfl (hb hby at_218) rfl ?_
          exact k9
        obtain ⟨cq5, kq5, q5a, q5b, q5c⟩ := isOf hZ e2 ExaA
        obtain ⟨_, _, ⟨T5, L5, k5, n5⟩, -, X5, ⟨Lc5, hQ5, l5, y5, z5⟩, st5⟩ := X2.virtualBack hx (y := (⟨"com/example/cohortwise/cohortwise/plan/Attendance", "exceeds", "(DI)Z"⟩ : MethodName)) (z := (⟨"com/example/cohortwise/cohortwise/plan/Attendance", "exceeds", "(DI)Z"⟩ : MethodName)) hown (mvT hZ (hw _ (List.mem_of_getElem? (i := 5) rfl))) (mvT hZ (hw _ (List.mem_of_getElem? (i := 6) rfl))) (notFace_of_selects (args := #[]) (mvT hZ (hw _ (List.mem_of_getElem? (i := 8) rfl)))) (mvT hZ (hw _ (List.mem_of_getElem? (i := 8) rfl))) (mvT hZ (hw _ (List.mem_of_getElem? (i := 7) rfl))) (by decide) (backOf (W := 0) (rm1 l Z a0 hw [] uA (FP.dadd (FP.i2d p3) (4602678819172646912 : UInt64)) p2 uA h0 n0 Z0 StaA) hZ (hw _ (List.mem_of_getElem? (i := 9) rfl)) (hw _ (List.mem_of_getElem? (i := 1) rfl)) (by decide) (by decide)) q5a q5c (g := (mkF m 220 #[.val (.int p1), .val (.int p2), .val (.int p3), .val (.int p4), .val (.int (0 : Int32)), .val (.ref uA), .val (.int (0 : Int32)), .val (.int (1 : Int32)), .val (.int (((p4 >>> ((2 : Int32) &&& 31)) &&& (63 : Int32)) - (32 : Int32))), .val (.int p2), .val (.double (FP.dadd (FP.i2d p3) (4602678819172646912 : UInt64))), .second, .val (.int (if p3 < p2 then (0 : Int32) else (1 : Int32)))] [(.int p2), (.double (FP.dadd (FP.i2d p3) (4602678819172646912 : UInt64))), (.ref uA)])) rfl (by rw [hml]; rfl) (Steps.refl _) (argsL := [(.double (FP.dadd (FP.i2d p3) (4602678819172646912 : UInt64))), (.int p2)]) (rest := []) (lenOf pd__28DI_29Z rfl) rfl (by show 2 * 0 + _ ≤ _; exact Nat.le_of_eq rfl) (hb hby at_220) (fun _ _ => ⟨rfl, e2, (by decide : 0 + 0 ≤ _), (by decide : 0 + 0 ≤ _)⟩)
        dsimp only [Pt.U, Pt.locs, Pt.cells, Pt.slots] at X5 l5 y5 z5 st5 hQ5
        subst l5 y5 z5
        obtain ⟨rfl, N5q, e5q⟩ := hQ5
        have N5 := Fr.app N0 N5q
        refine go (T5.setTop (mkF m 223 #[.val (.int p1), .val (.int p2), .val (.int p3), .val (.int p4), .val (.int (0 : Int32)), .val (.ref uA), .val (.int (0 : Int32)), .val (.int (1 : Int32)), .val (.int (((p4 >>> ((2 : Int32) &&& 31)) &&& (63 : Int32)) - (32 : Int32))), .val (.int p2), .val (.double (FP.dadd (FP.i2d p3) (4602678819172646912 : UInt64))), .second, .val (.int (if p3 < p2 then (0 : Int32) else (1 : Int32)))] [(.int (if uA = uA then own_excA (FP.dadd (FP.i2d p3) (4602678819172646912 : UInt64)) p2 else own_excE (FP.dadd (FP.i2d p3) (4602678819172646912 : UInt64)) p2))])) _ (fun t9 k9 => st5.trans k9) ?_
        rw [if_pos rfl]
        refine go (T5.setTop (mkF m 225 #[.val (.int p1), .val (.int p2), .val (.int p3), .val (.int p4), .val (.int (0 : Int32)), .val (.ref uA), .val (.int (0 : Int32)), .val (.int (1 : Int32)), .val (.int (((p4 >>> ((2 : Int32) &&& 31)) &&& (63 : Int32)) - (32 : Int32))), .val (.int p2), .val (.double (FP.dadd (FP.i2d p3) (4602678819172646912 : UInt64))), .second, .val (.int (if p3 < p2 then (0 : Int32) else (1 : Int32)))] [(.int (if p3 < p2 then (0 : Int32) else (1 : Int32))), (.int (own_excA (FP.dadd (FP.i2d p3) (4602678819172646912 : UInt64)) p2))])) _ (fun t9 k9 => ?_) ?_
        · show Steps p.tables e below (T5.setTop (mkF m 223 #[.val (.int p1), .val (.int p2), .val (.int p3), .val (.int p4), .val (.int (0 : Int32)), .val (.ref uA), .val (.int (0 : Int32)), .val (.int (1 : Int32)), .val (.int (((p4 >>> ((2 : Int32) &&& 31)) &&& (63 : Int32)) - (32 : Int32))), .val (.int p2), .val (.double (FP.dadd (FP.i2d p3) (4602678819172646912 : UInt64))), .second, .val (.int (if p3 < p2 then (0 : Int32) else (1 : Int32)))] [(.int (own_excA (FP.dadd (FP.i2d p3) (4602678819172646912 : UInt64)) p2))])) _
          refine XS.iload X5.here hx rfl (hb hby at_223) rfl ?_
          exact k9
        have hfin : (own_excA (FP.dadd (FP.i2d p3) (4602678819172646912 : UInt64)) p2) = (if p3 < p2 then (0 : Int32) else (1 : Int32)) := own_abshA p3 p2
        refine go (T5.setTop (mkF m 233 #[.val (.int p1), .val (.int p2), .val (.int p3), .val (.int p4), .val (.int (0 : Int32)), .val (.ref uA), .val (.int (0 : Int32)), .val (.int (1 : Int32)), .val (.int (((p4 >>> ((2 : Int32) &&& 31)) &&& (63 : Int32)) - (32 : Int32))), .val (.int p2), .val (.double (FP.dadd (FP.i2d p3) (4602678819172646912 : UInt64))), .second, .val (.int (if p3 < p2 then (0 : Int32) else (1 : Int32)))] [(.int (1 : Int32))])) _ (fun t9 k9 => ?_) ?_
        · show Steps p.tables e below (T5.setTop (mkF m 225 #[.val (.int p1), .val (.int p2), .val (.int p3), .val (.int p4), .val (.int (0 : Int32)), .val (.ref uA), .val (.int (0 : Int32)), .val (.int (1 : Int32)), .val (.int (((p4 >>> ((2 : Int32) &&& 31)) &&& (63 : Int32)) - (32 : Int32))), .val (.int p2), .val (.double (FP.dadd (FP.i2d p3) (4602678819172646912 : UInt64))), .second, .val (.int (if p3 < p2 then (0 : Int32) else (1 : Int32)))] [(.int (if p3 < p2 then (0 : Int32) else (1 : Int32))), (.int (own_excA (FP.dadd (FP.i2d p3) (4602678819172646912 : UInt64)) p2))])) _
          refine XS.icmpNo X5.here hx rfl (hb hby at_225) rfl (teq hfin).2 ?_
          show Steps p.tables e below (T5.setTop (mkF m 228 #[.val (.int p1), .val (.int p2), .val (.int p3), .val (.int p4), .val (.int (0 : Int32)), .val (.ref uA), .val (.int (0 : Int32)), .val (.int (1 : Int32)), .val (.int (((p4 >>> ((2 : Int32) &&& 31)) &&& (63 : Int32)) - (32 : Int32))), .val (.int p2), .val (.double (FP.dadd (FP.i2d p3) (4602678819172646912 : UInt64))), .second, .val (.int (if p3 < p2 then (0 : Int32) else (1 : Int32)))] [])) _
          refine XS.iconst X5.here hx rfl (hb hby at_228) ?_
          show Steps p.tables e below (T5.setTop (mkF m 229 #[.val (.int p1), .val (.int p2), .val (.int p3), .val (.int p4), .val (.int (0 : Int32)), .val (.ref uA), .val (.int (0 : Int32)), .val (.int (1 : Int32)), .val (.int (((p4 >>> ((2 : Int32) &&& 31)) &&& (63 : Int32)) - (32 : Int32))), .val (.int p2), .val (.double (FP.dadd (FP.i2d p3) (4602678819172646912 : UInt64))), .second, .val (.int (if p3 < p2 then (0 : Int32) else (1 : Int32)))] [(.int (1 : Int32))])) _
          refine XS.goto X5.here hx rfl (pc0 := 229) (pc' := 233) rfl (hb hby at_229) (by decide) (by decide) ?_
          exact k9
        obtain ⟨fs, hr, hrun, hended, hW, hsame⟩ := X5.leave (v := some (.int (1 : Int32))) (fun h => by rw [Bd.returns] at h; cases h) hlk
        refine fin _ ⟨_, _, retN X5 hx (t := .boolean) Bd.returns (by simp) (hb hby at_233) hr, hrun, hended, _, _, rfl, ?_, ⟨_, rfl⟩, hW, hsame.mono (by decide) (by decide)⟩
        show Q0 Z p1 p2 p3 p4 h0 n0 _ T5.heap _
        exact ⟨rfl, N5⟩
    · refine go (T2.setTop (mkF m 45 #[.val (.int p1), .val (.int p2), .val (.int p3), .val (.int p4), .val (.int (0 : Int32)), .val (.ref uA), .val (.int (1 : Int32)), .unset, .unset, .unset, .unset, .unset, .unset] [(.int (p4 &&& (2 : Int32)))])) _ (fun t9 k9 => ?_) ?_
      · show Steps p.tables e below (T2.setTop (mkF m 32 #[.val (.int p1), .val (.int p2), .val (.int p3), .val (.int p4), .val (.int (0 : Int32)), .val (.ref uA), .unset, .unset, .unset, .unset, .unset, .unset, .unset] [(.int (p4 &&& (1 : Int32)))])) _
        refine XS.ifNo X2.here hx rfl (hb hby at_32) rfl ((if0 _ _).trans (feq hr).1) ?_
        show Steps p.tables e below (T2.setTop (mkF m 35 #[.val (.int p1), .val (.int p2), .val (.int p3), .val (.int p4), .val (.int (0 : Int32)), .val (.ref uA), .unset, .unset, .unset, .unset, .unset, .unset, .unset] [])) _
        refine XS.iconst X2.here hx rfl (hb hby at_35) ?_
        show Steps p.tables e below (T2.setTop (mkF m 36 #[.val (.int p1), .val (.int p2), .val (.int p3), .val (.int p4), .val (.int (0 : Int32)), .val (.ref uA), .unset, .unset, .unset, .unset, .unset, .unset, .unset] [(.int (1 : Int32))])) _
        refine XS.goto X2.here hx rfl (pc0 := 36) (pc' := 40) rfl (hb hby at_36) (by decide) (by decide) ?_
        show Steps p.tables e below (T2.setTop (mkF m 40 #[.val (.int p1), .val (.int p2), .val (.int p3), .val (.int p4), .val (.int (0 : Int32)), .val (.ref uA), .unset, .unset, .unset, .unset, .unset, .unset, .unset] [(.int (1 : Int32))])) _
        refine XS.istore X2.here hx rfl (hb hby at_40) rfl (l' := #[.val (.int p1), .val (.int p2), .val (.int p3), .val (.int p4), .val (.int (0 : Int32)), .val (.ref uA), .val (.int (1 : Int32)), .unset, .unset, .unset, .unset, .unset, .unset]) rfl ?_
        show Steps p.tables e below (T2.setTop (mkF m 42 #[.val (.int p1), .val (.int p2), .val (.int p3), .val (.int p4), .val (.int (0 : Int32)), .val (.ref uA), .val (.int (1 : Int32)), .unset, .unset, .unset, .unset, .unset, .unset] [])) _
        refine XS.iloadN X2.here hx rfl (hb hby at_42) rfl ?_
        show Steps p.tables e below (T2.setTop (mkF m 43 #[.val (.int p1), .val (.int p2), .val (.int p3), .val (.int p4), .val (.int (0 : Int32)), .val (.ref uA), .val (.int (1 : Int32)), .unset, .unset, .unset, .unset, .unset, .unset] [(.int p4)])) _
        refine XS.iconst X2.here hx rfl (hb hby at_43) ?_
        show Steps p.tables e below (T2.setTop (mkF m 44 #[.val (.int p1), .val (.int p2), .val (.int p3), .val (.int p4), .val (.int (0 : Int32)), .val (.ref uA), .val (.int (1 : Int32)), .unset, .unset, .unset, .unset, .unset, .unset] [(.int (2 : Int32)), (.int p4)])) _
        refine XS.iand X2.here hx rfl (hb hby at_44) rfl ?_
        exact k9
      refine go (T2.setTop (mkF m 53 #[.val (.int p1), .val (.int p2), .val (.int p3), .val (.int p4), .val (.int (0 : Int32)), .val (.ref uA), .val (.int (1 : Int32)), .unset, .unset, .unset, .unset, .unset, .unset] [(.int (if (p4 &&& (2 : Int32)) = (0 : Int32) then (0 : Int32) else (1 : Int32)))])) _ (fun t9 k9 => ?_) ?_
      · by_cases h45_1 : (p4 &&& (2 : Int32)) = (0 : Int32)
        · try (simp only [if_pos h45_1] at k9)
          show Steps p.tables e below (T2.setTop (mkF m 45 #[.val (.int p1), .val (.int p2), .val (.int p3), .val (.int p4), .val (.int (0 : Int32)), .val (.ref uA), .val (.int (1 : Int32)), .unset, .unset, .unset, .unset, .unset, .unset] [(.int (p4 &&& (2 : Int32)))])) _
          refine XS.ifYes X2.here hx rfl (pc0 := 45) (pc' := 52) rfl (hb hby at_45) rfl ((if0 _ _).trans (teq h45_1).1) (by decide) (by decide) ?_
          show Steps p.tables e below (T2.setTop (mkF m 52 #[.val (.int p1), .val (.int p2), .val (.int p3), .val (.int p4), .val (.int (0 : Int32)), .val (.ref uA), .val (.int (1 : Int32)), .unset, .unset, .unset, .unset, .unset, .unset] [])) _
          refine XS.iconst X2.here hx rfl (hb hby at_52) ?_
          exact k9
        · try (simp only [if_neg h45_1] at k9)
          show Steps p.tables e below (T2.setTop (mkF m 45 #[.val (.int p1), .val (.int p2), .val (.int p3), .val (.int p4), .val (.int (0 : Int32)), .val (.ref uA), .val (.int (1 : Int32)), .unset, .unset, .unset, .unset, .unset, .unset] [(.int (p4 &&& (2 : Int32)))])) _
          refine XS.ifNo X2.here hx rfl (hb hby at_45) rfl ((if0 _ _).trans (feq h45_1).1) ?_
          show Steps p.tables e below (T2.setTop (mkF m 48 #[.val (.int p1), .val (.int p2), .val (.int p3), .val (.int p4), .val (.int (0 : Int32)), .val (.ref uA), .val (.int (1 : Int32)), .unset, .unset, .unset, .unset, .unset, .unset] [])) _
          refine XS.iconst X2.here hx rfl (hb hby at_48) ?_
          show Steps p.tables e below (T2.setTop (mkF m 49 #[.val (.int p1), .val (.int p2), .val (.int p3), .val (.int p4), .val (.int (0 : Int32)), .val (.ref uA), .val (.int (1 : Int32)), .unset, .unset, .unset, .unset, .unset, .unset] [(.int (1 : Int32))])) _
          refine XS.goto X2.here hx rfl (pc0 := 49) (pc' := 53) rfl (hb hby at_49) (by decide) (by decide) ?_
          exact k9
      generalize hfe : (if (p4 &&& (2 : Int32)) = (0 : Int32) then (0 : Int32) else (1 : Int32)) = hf
      refine go (T2.setTop (mkF m 66 #[.val (.int p1), .val (.int p2), .val (.int p3), .val (.int p4), .val (.int (0 : Int32)), .val (.ref uA), .val (.int (1 : Int32)), .val (.int hf), .val (.int (((p4 >>> ((2 : Int32) &&& 31)) &&& (63 : Int32)) - (32 : Int32))), .unset, .unset, .unset, .unset] [])) _ (fun t9 k9 => ?_) ?_
      · show Steps p.tables e below (T2.setTop (mkF m 53 #[.val (.int p1), .val (.int p2), .val (.int p3), .val (.int p4), .val (.int (0 : Int32)), .val (.ref uA), .val (.int (1 : Int32)), .unset, .unset, .unset, .unset, .unset, .unset] [(.int hf)])) _
        refine XS.istore X2.here hx rfl (hb hby at_53) rfl (l' := #[.val (.int p1), .val (.int p2), .val (.int p3), .val (.int p4), .val (.int (0 : Int32)), .val (.ref uA), .val (.int (1 : Int32)), .val (.int hf), .unset, .unset, .unset, .unset, .unset]) rfl ?_
        show Steps p.tables e below (T2.setTop (mkF m 55 #[.val (.int p1), .val (.int p2), .val (.int p3), .val (.int p4), .val (.int (0 : Int32)), .val (.ref uA), .val (.int (1 : Int32)), .val (.int hf), .unset, .unset, .unset, .unset, .unset] [])) _
        refine XS.iloadN X2.here hx rfl (hb hby at_55) rfl ?_
        show Steps p.tables e below (T2.setTop (mkF m 56 #[.val (.int p1), .val (.int p2), .val (.int p3), .val (.int p4), .val (.int (0 : Int32)), .val (.ref uA), .val (.int (1 : Int32)), .val (.int hf), .unset, .unset, .unset, .unset, .unset] [(.int p4)])) _
        refine XS.iconst X2.here hx rfl (hb hby at_56) ?_
        show Steps p.tables e below (T2.setTop (mkF m 57 #[.val (.int p1), .val (.int p2), .val (.int p3), .val (.int p4), .val (.int (0 : Int32)), .val (.ref uA), .val (.int (1 : Int32)), .val (.int hf), .unset, .unset, .unset, .unset, .unset] [(.int (2 : Int32)), (.int p4)])) _
        refine XS.ishr X2.here hx rfl (hb hby at_57) rfl ?_
        show Steps p.tables e below (T2.setTop (mkF m 58 #[.val (.int p1), .val (.int p2), .val (.int p3), .val (.int p4), .val (.int (0 : Int32)), .val (.ref uA), .val (.int (1 : Int32)), .val (.int hf), .unset, .unset, .unset, .unset, .unset] [(.int (p4 >>> ((2 : Int32) &&& 31)))])) _
        refine XS.bipush X2.here hx rfl (hb hby at_58) ?_
        show Steps p.tables e below (T2.setTop (mkF m 60 #[.val (.int p1), .val (.int p2), .val (.int p3), .val (.int p4), .val (.int (0 : Int32)), .val (.ref uA), .val (.int (1 : Int32)), .val (.int hf), .unset, .unset, .unset, .unset, .unset] [(.int (63 : Int32)), (.int (p4 >>> ((2 : Int32) &&& 31)))])) _
        refine XS.iand X2.here hx rfl (hb hby at_60) rfl ?_
        show Steps p.tables e below (T2.setTop (mkF m 61 #[.val (.int p1), .val (.int p2), .val (.int p3), .val (.int p4), .val (.int (0 : Int32)), .val (.ref uA), .val (.int (1 : Int32)), .val (.int hf), .unset, .unset, .unset, .unset, .unset] [(.int ((p4 >>> ((2 : Int32) &&& 31)) &&& (63 : Int32)))])) _
        refine XS.bipush X2.here hx rfl (hb hby at_61) ?_
        show Steps p.tables e below (T2.setTop (mkF m 63 #[.val (.int p1), .val (.int p2), .val (.int p3), .val (.int p4), .val (.int (0 : Int32)), .val (.ref uA), .val (.int (1 : Int32)), .val (.int hf), .unset, .unset, .unset, .unset, .unset] [(.int (32 : Int32)), (.int ((p4 >>> ((2 : Int32) &&& 31)) &&& (63 : Int32)))])) _
        refine XS.isub X2.here hx rfl (hb hby at_63) rfl ?_
        show Steps p.tables e below (T2.setTop (mkF m 64 #[.val (.int p1), .val (.int p2), .val (.int p3), .val (.int p4), .val (.int (0 : Int32)), .val (.ref uA), .val (.int (1 : Int32)), .val (.int hf), .unset, .unset, .unset, .unset, .unset] [(.int (((p4 >>> ((2 : Int32) &&& 31)) &&& (63 : Int32)) - (32 : Int32)))])) _
        refine XS.istore X2.here hx rfl (hb hby at_64) rfl (l' := #[.val (.int p1), .val (.int p2), .val (.int p3), .val (.int p4), .val (.int (0 : Int32)), .val (.ref uA), .val (.int (1 : Int32)), .val (.int hf), .val (.int (((p4 >>> ((2 : Int32) &&& 31)) &&& (63 : Int32)) - (32 : Int32))), .unset, .unset, .unset, .unset]) rfl ?_
        exact k9
      have hj := own_j p4
      generalize hje : (((p4 >>> ((2 : Int32) &&& 31)) &&& (63 : Int32)) - (32 : Int32)) = jj
      rw [hje] at hj
      refine go (T2.setTop (mkF m 77 #[.val (.int p1), .val (.int p2), .val (.int p3), .val (.int p4), .val (.int (0 : Int32)), .val (.ref uA), .val (.int (1 : Int32)), .val (.int hf), .val (.int jj), .val (.int (p2 &&& (268435455 : Int32))), .unset, .unset, .unset] [])) _ (fun t9 k9 => ?_) ?_
      · show Steps p.tables e below (T2.setTop (mkF m 66 #[.val (.int p1), .val (.int p2), .val (.int p3), .val (.int p4), .val (.int (0 : Int32)), .val (.ref uA), .val (.int (1 : Int32)), .val (.int hf), .val (.int jj), .unset, .unset, .unset, .unset] [])) _
        refine XS.iload X2.here hx rfl (hb hby at_66) rfl ?_
        show Steps p.tables e below (T2.setTop (mkF m 68 #[.val (.int p1), .val (.int p2), .val (.int p3), .val (.int p4), .val (.int (0 : Int32)), .val (.ref uA), .val (.int (1 : Int32)), .val (.int hf), .val (.int jj), .unset, .unset, .unset, .unset] [(.int (1 : Int32))])) _
        refine XS.ifNo X2.here hx rfl (hb hby at_68) rfl ((if0 _ _).trans (feq (by decide : ¬ (1 : Int32) = (0 : Int32))).1) ?_
        show Steps p.tables e below (T2.setTop (mkF m 71 #[.val (.int p1), .val (.int p2), .val (.int p3), .val (.int p4), .val (.int (0 : Int32)), .val (.ref uA), .val (.int (1 : Int32)), .val (.int hf), .val (.int jj), .unset, .unset, .unset, .unset] [])) _
        refine XS.iloadN X2.here hx rfl (hb hby at_71) rfl ?_
        show Steps p.tables e below (T2.setTop (mkF m 72 #[.val (.int p1), .val (.int p2), .val (.int p3), .val (.int p4), .val (.int (0 : Int32)), .val (.ref uA), .val (.int (1 : Int32)), .val (.int hf), .val (.int jj), .unset, .unset, .unset, .unset] [(.int p2)])) _
        refine X2.ldcInt hx hown (mvT hZ (hw _ (List.mem_of_getElem? (i := 3) rfl))) (g := (mkF m 72 #[.val (.int p1), .val (.int p2), .val (.int p3), .val (.int p4), .val (.int (0 : Int32)), .val (.ref uA), .val (.int (1 : Int32)), .val (.int hf), .val (.int jj), .unset, .unset, .unset, .unset] [(.int p2)])) rfl (hb hby at_72) _ ?_
        show Steps p.tables e below (T2.setTop (mkF m 74 #[.val (.int p1), .val (.int p2), .val (.int p3), .val (.int p4), .val (.int (0 : Int32)), .val (.ref uA), .val (.int (1 : Int32)), .val (.int hf), .val (.int jj), .unset, .unset, .unset, .unset] [(.int (268435455 : Int32)), (.int p2)])) _
        refine XS.iand X2.here hx rfl (hb hby at_74) rfl ?_
        show Steps p.tables e below (T2.setTop (mkF m 75 #[.val (.int p1), .val (.int p2), .val (.int p3), .val (.int p4), .val (.int (0 : Int32)), .val (.ref uA), .val (.int (1 : Int32)), .val (.int hf), .val (.int jj), .unset, .unset, .unset, .unset] [(.int (p2 &&& (268435455 : Int32)))])) _
        refine XS.istore X2.here hx rfl (hb hby at_75) rfl (l' := #[.val (.int p1), .val (.int p2), .val (.int p3), .val (.int p4), .val (.int (0 : Int32)), .val (.ref uA), .val (.int (1 : Int32)), .val (.int hf), .val (.int jj), .val (.int (p2 &&& (268435455 : Int32))), .unset, .unset, .unset]) rfl ?_
        exact k9
      have hcc := own_c28 p2
      generalize hce : (p2 &&& (268435455 : Int32)) = cc
      rw [hce] at hcc
      refine go (T2.setTop (mkF m 95 #[.val (.int p1), .val (.int p2), .val (.int p3), .val (.int p4), .val (.int (0 : Int32)), .val (.ref uA), .val (.int (1 : Int32)), .val (.int hf), .val (.int jj), .val (.int cc), .val (.double (FP.dadd (FP.i2d cc) (FP.ddiv (FP.l2d ((cc.toInt64) * (jj.toInt64))) (4715268809856909312 : UInt64)))), .second, .unset] [])) _ (fun t9 k9 => ?_) ?_
      · show Steps p.tables e below (T2.setTop (mkF m 77 #[.val (.int p1), .val (.int p2), .val (.int p3), .val (.int p4), .val (.int (0 : Int32)), .val (.ref uA), .val (.int (1 : Int32)), .val (.int hf), .val (.int jj), .val (.int cc), .unset, .unset, .unset] [])) _
        refine XS.iload X2.here hx rfl (hb hby at_77) rfl ?_
        show Steps p.tables e below (T2.setTop (mkF m 79 #[.val (.int p1), .val (.int p2), .val (.int p3), .val (.int p4), .val (.int (0 : Int32)), .val (.ref uA), .val (.int (1 : Int32)), .val (.int hf), .val (.int jj), .val (.int cc), .unset, .unset, .unset] [(.int cc)])) _
        refine XS.i2dS X2.here hx rfl (hb hby at_79) rfl rfl ?_
        show Steps p.tables e below (T2.setTop (mkF m 80 #[.val (.int p1), .val (.int p2), .val (.int p3), .val (.int p4), .val (.int (0 : Int32)), .val (.ref uA), .val (.int (1 : Int32)), .val (.int hf), .val (.int jj), .val (.int cc), .unset, .unset, .unset] [(.double (FP.i2d cc))])) _
        refine XS.iload X2.here hx rfl (hb hby at_80) rfl ?_
        show Steps p.tables e below (T2.setTop (mkF m 82 #[.val (.int p1), .val (.int p2), .val (.int p3), .val (.int p4), .val (.int (0 : Int32)), .val (.ref uA), .val (.int (1 : Int32)), .val (.int hf), .val (.int jj), .val (.int cc), .unset, .unset, .unset] [(.int cc), (.double (FP.i2d cc))])) _
        refine XS.i2l X2.here hx rfl (hb hby at_82) rfl ?_
        show Steps p.tables e below (T2.setTop (mkF m 83 #[.val (.int p1), .val (.int p2), .val (.int p3), .val (.int p4), .val (.int (0 : Int32)), .val (.ref uA), .val (.int (1 : Int32)), .val (.int hf), .val (.int jj), .val (.int cc), .unset, .unset, .unset] [(.long (cc.toInt64)), (.double (FP.i2d cc))])) _
        refine XS.iload X2.here hx rfl (hb hby at_83) rfl ?_
        show Steps p.tables e below (T2.setTop (mkF m 85 #[.val (.int p1), .val (.int p2), .val (.int p3), .val (.int p4), .val (.int (0 : Int32)), .val (.ref uA), .val (.int (1 : Int32)), .val (.int hf), .val (.int jj), .val (.int cc), .unset, .unset, .unset] [(.int jj), (.long (cc.toInt64)), (.double (FP.i2d cc))])) _
        refine XS.i2l X2.here hx rfl (hb hby at_85) rfl ?_
        show Steps p.tables e below (T2.setTop (mkF m 86 #[.val (.int p1), .val (.int p2), .val (.int p3), .val (.int p4), .val (.int (0 : Int32)), .val (.ref uA), .val (.int (1 : Int32)), .val (.int hf), .val (.int jj), .val (.int cc), .unset, .unset, .unset] [(.long (jj.toInt64)), (.long (cc.toInt64)), (.double (FP.i2d cc))])) _
        refine XS.lmul X2.here hx rfl (hb hby at_86) rfl ?_
        show Steps p.tables e below (T2.setTop (mkF m 87 #[.val (.int p1), .val (.int p2), .val (.int p3), .val (.int p4), .val (.int (0 : Int32)), .val (.ref uA), .val (.int (1 : Int32)), .val (.int hf), .val (.int jj), .val (.int cc), .unset, .unset, .unset] [(.long ((cc.toInt64) * (jj.toInt64))), (.double (FP.i2d cc))])) _
        refine XS.l2dS X2.here hx rfl (hb hby at_87) rfl rfl ?_
        show Steps p.tables e below (T2.setTop (mkF m 88 #[.val (.int p1), .val (.int p2), .val (.int p3), .val (.int p4), .val (.int (0 : Int32)), .val (.ref uA), .val (.int (1 : Int32)), .val (.int hf), .val (.int jj), .val (.int cc), .unset, .unset, .unset] [(.double (FP.l2d ((cc.toInt64) * (jj.toInt64)))), (.double (FP.i2d cc))])) _
        refine X2.ldc2DoubleC hx hown (mvT hZ (hw _ (List.mem_of_getElem? (i := 4) rfl))) (g := (mkF m 88 #[.val (.int p1), .val (.int p2), .val (.int p3), .val (.int p4), .val (.int (0 : Int32)), .val (.ref uA), .val (.int (1 : Int32)), .val (.int hf), .val (.int jj), .val (.int cc), .unset, .unset, .unset] [(.double (FP.l2d ((cc.toInt64) * (jj.toInt64)))), (.double (FP.i2d cc))])) rfl (hb hby at_88) _ ?_
        show Steps p.tables e below (T2.setTop (mkF m 91 #[.val (.int p1), .val (.int p2), .val (.int p3), .val (.int p4), .val (.int (0 : Int32)), .val (.ref uA), .val (.int (1 : Int32)), .val (.int hf), .val (.int jj), .val (.int cc), .unset, .unset, .unset] [(.double (4715268809856909312 : UInt64)), (.double (FP.l2d ((cc.toInt64) * (jj.toInt64)))), (.double (FP.i2d cc))])) _
        refine XS.ddivS X2.here hx rfl (hb hby at_91) rfl (own_div_nn cc jj) rfl ?_
        show Steps p.tables e below (T2.setTop (mkF m 92 #[.val (.int p1), .val (.int p2), .val (.int p3), .val (.int p4), .val (.int (0 : Int32)), .val (.ref uA), .val (.int (1 : Int32)), .val (.int hf), .val (.int jj), .val (.int cc), .unset, .unset, .unset] [(.double (FP.ddiv (FP.l2d ((cc.toInt64) * (jj.toInt64))) (4715268809856909312 : UInt64))), (.double (FP.i2d cc))])) _
        refine XS.daddS X2.here hx rfl (hb hby at_92) rfl (own_load_nn cc jj) rfl ?_
        show Steps p.tables e below (T2.setTop (mkF m 93 #[.val (.int p1), .val (.int p2), .val (.int p3), .val (.int p4), .val (.int (0 : Int32)), .val (.ref uA), .val (.int (1 : Int32)), .val (.int hf), .val (.int jj), .val (.int cc), .unset, .unset, .unset] [(.double (FP.dadd (FP.i2d cc) (FP.ddiv (FP.l2d ((cc.toInt64) * (jj.toInt64))) (4715268809856909312 : UInt64))))])) _
        refine XS.dstore X2.here hx rfl (hb hby at_93) rfl (l' := #[.val (.int p1), .val (.int p2), .val (.int p3), .val (.int p4), .val (.int (0 : Int32)), .val (.ref uA), .val (.int (1 : Int32)), .val (.int hf), .val (.int jj), .val (.int cc), .val (.double (FP.dadd (FP.i2d cc) (FP.ddiv (FP.l2d ((cc.toInt64) * (jj.toInt64))) (4715268809856909312 : UInt64)))), .second, .unset]) rfl ?_
        exact k9
      refine go (T2.setTop (mkF m 125 #[.val (.int p1), .val (.int p2), .val (.int p3), .val (.int p4), .val (.int (0 : Int32)), .val (.ref uA), .val (.int (1 : Int32)), .val (.int hf), .val (.int jj), .val (.int cc), .val (.double (FP.dadd (FP.i2d cc) (FP.ddiv (FP.l2d ((cc.toInt64) * (jj.toInt64))) (4715268809856909312 : UInt64)))), .second, .unset] [(.int (if (0 : Int32) < cc then (if (0 : Int32) < jj then (1 : Int32) else (0 : Int32)) else (0 : Int32)))])) _ (fun t9 k9 => ?_) ?_
      · show Steps p.tables e below (T2.setTop (mkF m 95 #[.val (.int p1), .val (.int p2), .val (.int p3), .val (.int p4), .val (.int (0 : Int32)), .val (.ref uA), .val (.int (1 : Int32)), .val (.int hf), .val (.int jj), .val (.int cc), .val (.double (FP.dadd (FP.i2d cc) (FP.ddiv (FP.l2d ((cc.toInt64) * (jj.toInt64))) (4715268809856909312 : UInt64)))), .second, .unset] [])) _
        refine XS.iload X2.here hx rfl (hb hby at_95) rfl ?_
        by_cases h97_1 : (0 : Int32) < cc
        · try (simp only [if_pos h97_1] at k9)
          show Steps p.tables e below (T2.setTop (mkF m 97 #[.val (.int p1), .val (.int p2), .val (.int p3), .val (.int p4), .val (.int (0 : Int32)), .val (.ref uA), .val (.int (1 : Int32)), .val (.int hf), .val (.int jj), .val (.int cc), .val (.double (FP.dadd (FP.i2d cc) (FP.ddiv (FP.l2d ((cc.toInt64) * (jj.toInt64))) (4715268809856909312 : UInt64)))), .second, .unset] [(.int cc)])) _
          refine XS.ifNo X2.here hx rfl (hb hby at_97) rfl ((if0 _ _).trans (tlt h97_1).2.2.2) ?_
          show Steps p.tables e below (T2.setTop (mkF m 100 #[.val (.int p1), .val (.int p2), .val (.int p3), .val (.int p4), .val (.int (0 : Int32)), .val (.ref uA), .val (.int (1 : Int32)), .val (.int hf), .val (.int jj), .val (.int cc), .val (.double (FP.dadd (FP.i2d cc) (FP.ddiv (FP.l2d ((cc.toInt64) * (jj.toInt64))) (4715268809856909312 : UInt64)))), .second, .unset] [])) _
          refine XS.iload X2.here hx rfl (hb hby at_100) rfl ?_
          show Steps p.tables e below (T2.setTop (mkF m 102 #[.val (.int p1), .val (.int p2), .val (.int p3), .val (.int p4), .val (.int (0 : Int32)), .val (.ref uA), .val (.int (1 : Int32)), .val (.int hf), .val (.int jj), .val (.int cc), .val (.double (FP.dadd (FP.i2d cc) (FP.ddiv (FP.l2d ((cc.toInt64) * (jj.toInt64))) (4715268809856909312 : UInt64)))), .second, .unset] [(.int (0 : Int32))])) _
          refine XS.ifYes X2.here hx rfl (pc0 := 102) (pc' := 115) rfl (hb hby at_102) rfl ((if0 _ _).trans (teq (by decide : (0 : Int32) = (0 : Int32))).1) (by decide) (by decide) ?_
          show Steps p.tables e below (T2.setTop (mkF m 115 #[.val (.int p1), .val (.int p2), .val (.int p3), .val (.int p4), .val (.int (0 : Int32)), .val (.ref uA), .val (.int (1 : Int32)), .val (.int hf), .val (.int jj), .val (.int cc), .val (.double (FP.dadd (FP.i2d cc) (FP.ddiv (FP.l2d ((cc.toInt64) * (jj.toInt64))) (4715268809856909312 : UInt64)))), .second, .unset] [])) _
          refine XS.iload X2.here hx rfl (hb hby at_115) rfl ?_
          by_cases h117_2 : (0 : Int32) < jj
          · try (simp only [if_pos h117_2] at k9)
            show Steps p.tables e below (T2.setTop (mkF m 117 #[.val (.int p1), .val (.int p2), .val (.int p3), .val (.int p4), .val (.int (0 : Int32)), .val (.ref uA), .val (.int (1 : Int32)), .val (.int hf), .val (.int jj), .val (.int cc), .val (.double (FP.dadd (FP.i2d cc) (FP.ddiv (FP.l2d ((cc.toInt64) * (jj.toInt64))) (4715268809856909312 : UInt64)))), .second, .unset] [(.int jj)])) _
            refine XS.ifNo X2.here hx rfl (hb hby at_117) rfl ((if0 _ _).trans (tlt h117_2).2.2.2) ?_
            show Steps p.tables e below (T2.setTop (mkF m 120 #[.val (.int p1), .val (.int p2), .val (.int p3), .val (.int p4), .val (.int (0 : Int32)), .val (.ref uA), .val (.int (1 : Int32)), .val (.int hf), .val (.int jj), .val (.int cc), .val (.double (FP.dadd (FP.i2d cc) (FP.ddiv (FP.l2d ((cc.toInt64) * (jj.toInt64))) (4715268809856909312 : UInt64)))), .second, .unset] [])) _
            refine XS.iconst X2.here hx rfl (hb hby at_120) ?_
            show Steps p.tables e below (T2.setTop (mkF m 121 #[.val (.int p1), .val (.int p2), .val (.int p3), .val (.int p4), .val (.int (0 : Int32)), .val (.ref uA), .val (.int (1 : Int32)), .val (.int hf), .val (.int jj), .val (.int cc), .val (.double (FP.dadd (FP.i2d cc) (FP.ddiv (FP.l2d ((cc.toInt64) * (jj.toInt64))) (4715268809856909312 : UInt64)))), .second, .unset] [(.int (1 : Int32))])) _
            refine XS.goto X2.here hx rfl (pc0 := 121) (pc' := 125) rfl (hb hby at_121) (by decide) (by decide) ?_
            exact k9
          · try (simp only [if_neg h117_2] at k9)
            show Steps p.tables e below (T2.setTop (mkF m 117 #[.val (.int p1), .val (.int p2), .val (.int p3), .val (.int p4), .val (.int (0 : Int32)), .val (.ref uA), .val (.int (1 : Int32)), .val (.int hf), .val (.int jj), .val (.int cc), .val (.double (FP.dadd (FP.i2d cc) (FP.ddiv (FP.l2d ((cc.toInt64) * (jj.toInt64))) (4715268809856909312 : UInt64)))), .second, .unset] [(.int jj)])) _
            refine XS.ifYes X2.here hx rfl (pc0 := 117) (pc' := 124) rfl (hb hby at_117) rfl ((if0 _ _).trans (flt h117_2).2.2.2) (by decide) (by decide) ?_
            show Steps p.tables e below (T2.setTop (mkF m 124 #[.val (.int p1), .val (.int p2), .val (.int p3), .val (.int p4), .val (.int (0 : Int32)), .val (.ref uA), .val (.int (1 : Int32)), .val (.int hf), .val (.int jj), .val (.int cc), .val (.double (FP.dadd (FP.i2d cc) (FP.ddiv (FP.l2d ((cc.toInt64) * (jj.toInt64))) (4715268809856909312 : UInt64)))), .second, .unset] [])) _
            refine XS.iconst X2.here hx rfl (hb hby at_124) ?_
            exact k9
        · try (simp only [if_neg h97_1] at k9)
          show Steps p.tables e below (T2.setTop (mkF m 97 #[.val (.int p1), .val (.int p2), .val (.int p3), .val (.int p4), .val (.int (0 : Int32)), .val (.ref uA), .val (.int (1 : Int32)), .val (.int hf), .val (.int jj), .val (.int cc), .val (.double (FP.dadd (FP.i2d cc) (FP.ddiv (FP.l2d ((cc.toInt64) * (jj.toInt64))) (4715268809856909312 : UInt64)))), .second, .unset] [(.int cc)])) _
          refine XS.ifYes X2.here hx rfl (pc0 := 97) (pc' := 124) rfl (hb hby at_97) rfl ((if0 _ _).trans (flt h97_1).2.2.2) (by decide) (by decide) ?_
          show Steps p.tables e below (T2.setTop (mkF m 124 #[.val (.int p1), .val (.int p2), .val (.int p3), .val (.int p4), .val (.int (0 : Int32)), .val (.ref uA), .val (.int (1 : Int32)), .val (.int hf), .val (.int jj), .val (.int cc), .val (.double (FP.dadd (FP.i2d cc) (FP.ddiv (FP.l2d ((cc.toInt64) * (jj.toInt64))) (4715268809856909312 : UInt64)))), .second, .unset] [])) _
          refine XS.iconst X2.here hx rfl (hb hby at_124) ?_
          exact k9
      refine go (T2.setTop (mkF m 133 #[.val (.int p1), .val (.int p2), .val (.int p3), .val (.int p4), .val (.int (0 : Int32)), .val (.ref uA), .val (.int (1 : Int32)), .val (.int hf), .val (.int jj), .val (.int cc), .val (.double (FP.dadd (FP.i2d cc) (FP.ddiv (FP.l2d ((cc.toInt64) * (jj.toInt64))) (4715268809856909312 : UInt64)))), .second, .val (.int (if (0 : Int32) < cc then (if (0 : Int32) < jj then (1 : Int32) else (0 : Int32)) else (0 : Int32)))] [(.int cc), (.double (FP.dadd (FP.i2d cc) (FP.ddiv (FP.l2d ((cc.toInt64) * (jj.toInt64))) (4715268809856909312 : UInt64)))), (.ref uA)])) _ (fun t9 k9 => ?_) ?_
      · show Steps p.tables e below (T2.setTop (mkF m 125 #[.val (.int p1), .val (.int p2), .val (.int p3), .val (.int p4), .val (.int (0 : Int32)), .val (.ref uA), .val (.int (1 : Int32)), .val (.int hf), .val (.int jj), .val (.int cc), .val (.double (FP.dadd (FP.i2d cc) (FP.ddiv (FP.l2d ((cc.toInt64) * (jj.toInt64))) (4715268809856909312 : UInt64)))), .second, .unset] [(.int (if (0 : Int32) < cc then (if (0 : Int32) < jj then (1 : Int32) else (0 : Int32)) else (0 : Int32)))])) _
        refine XS.istore X2.here hx rfl (hb hby at_125) rfl (l' := #[.val (.int p1), .val (.int p2), .val (.int p3), .val (.int p4), .val (.int (0 : Int32)), .val (.ref uA), .val (.int (1 : Int32)), .val (.int hf), .val (.int jj), .val (.int cc), .val (.double (FP.dadd (FP.i2d cc) (FP.ddiv (FP.l2d ((cc.toInt64) * (jj.toInt64))) (4715268809856909312 : UInt64)))), .second, .val (.int (if (0 : Int32) < cc then (if (0 : Int32) < jj then (1 : Int32) else (0 : Int32)) else (0 : Int32)))]) rfl ?_
        show Steps p.tables e below (T2.setTop (mkF m 127 #[.val (.int p1), .val (.int p2), .val (.int p3), .val (.int p4), .val (.int (0 : Int32)), .val (.ref uA), .val (.int (1 : Int32)), .val (.int hf), .val (.int jj), .val (.int cc), .val (.double (FP.dadd (FP.i2d cc) (FP.ddiv (FP.l2d ((cc.toInt64) * (jj.toInt64))) (4715268809856909312 : UInt64)))), .second, .val (.int (if (0 : Int32) < cc then (if (0 : Int32) < jj then (1 : Int32) else (0 : Int32)) else (0 : Int32)))] [])) _
        refine XS.aload X2.here hx rfl (hb hby at_127) rfl rfl ?_
        show Steps p.tables e below (T2.setTop (mkF m 129 #[.val (.int p1), .val (.int p2), .val (.int p3), .val (.int p4), .val (.int (0 : Int32)), .val (.ref uA), .val (.int (1 : Int32)), .val (.int hf), .val (.int jj), .val (.int cc), .val (.double (FP.dadd (FP.i2d cc) (FP.ddiv (FP.l2d ((cc.toInt64) * (jj.toInt64))) (4715268809856909312 : UInt64)))), .second, .val (.int (if (0 : Int32) < cc then (if (0 : Int32) < jj then (1 : Int32) else (0 : Int32)) else (0 : Int32)))] [(.ref uA)])) _
        refine XS.dload X2.here hx rfl (hb hby at_129) rfl ?_
        show Steps p.tables e below (T2.setTop (mkF m 131 #[.val (.int p1), .val (.int p2), .val (.int p3), .val (.int p4), .val (.int (0 : Int32)), .val (.ref uA), .val (.int (1 : Int32)), .val (.int hf), .val (.int jj), .val (.int cc), .val (.double (FP.dadd (FP.i2d cc) (FP.ddiv (FP.l2d ((cc.toInt64) * (jj.toInt64))) (4715268809856909312 : UInt64)))), .second, .val (.int (if (0 : Int32) < cc then (if (0 : Int32) < jj then (1 : Int32) else (0 : Int32)) else (0 : Int32)))] [(.double (FP.dadd (FP.i2d cc) (FP.ddiv (FP.l2d ((cc.toInt64) * (jj.toInt64))) (4715268809856909312 : UInt64)))), (.ref uA)])) _
        refine XS.iload X2.here hx rfl (hb hby at_131) rfl ?_
        exact k9
      obtain ⟨cq3, kq3, q3a, q3b, q3c⟩ := isOf hZ e2 ExaA
      obtain ⟨_, _, ⟨T3, L3, k3, n3⟩, -, X3, ⟨Lc3, hQ3, l3, y3, z3⟩, st3⟩ := X2.virtualBack hx (y := (⟨"com/example/cohortwise/cohortwise/plan/Attendance", "exceeds", "(DI)Z"⟩ : MethodName)) (z := (⟨"com/example/cohortwise/cohortwise/plan/Attendance", "exceeds", "(DI)Z"⟩ : MethodName)) hown (mvT hZ (hw _ (List.mem_of_getElem? (i := 5) rfl))) (mvT hZ (hw _ (List.mem_of_getElem? (i := 6) rfl))) (notFace_of_selects (args := #[]) (mvT hZ (hw _ (List.mem_of_getElem? (i := 8) rfl)))) (mvT hZ (hw _ (List.mem_of_getElem? (i := 8) rfl))) (mvT hZ (hw _ (List.mem_of_getElem? (i := 7) rfl))) (by decide) (backOf (W := 0) (rm1 l Z a0 hw [] uA (FP.dadd (FP.i2d cc) (FP.ddiv (FP.l2d ((cc.toInt64) * (jj.toInt64))) (4715268809856909312 : UInt64))) cc uA h0 n0 Z0 StaA) hZ (hw _ (List.mem_of_getElem? (i := 9) rfl)) (hw _ (List.mem_of_getElem? (i := 1) rfl)) (by decide) (by decide)) q3a q3c (g := (mkF m 133 #[.val (.int p1), .val (.int p2), .val (.int p3), .val (.int p4), .val (.int (0 : Int32)), .val (.ref uA), .val (.int (1 : Int32)), .val (.int hf), .val (.int jj), .val (.int cc), .val (.double (FP.dadd (FP.i2d cc) (FP.ddiv (FP.l2d ((cc.toInt64) * (jj.toInt64))) (4715268809856909312 : UInt64)))), .second, .val (.int (if (0 : Int32) < cc then (if (0 : Int32) < jj then (1 : Int32) else (0 : Int32)) else (0 : Int32)))] [(.int cc), (.double (FP.dadd (FP.i2d cc) (FP.ddiv (FP.l2d ((cc.toInt64) * (jj.toInt64))) (4715268809856909312 : UInt64)))), (.ref uA)])) rfl (by rw [hml]; rfl) (Steps.refl _) (argsL := [(.double (FP.dadd (FP.i2d cc) (FP.ddiv (FP.l2d ((cc.toInt64) * (jj.toInt64))) (4715268809856909312 : UInt64)))), (.int cc)]) (rest := []) (lenOf pd__28DI_29Z rfl) rfl (by show 2 * 0 + _ ≤ _; exact Nat.le_of_eq rfl) (hb hby at_133) (fun _ _ => ⟨rfl, e2, (by decide : 0 + 0 ≤ _), (by decide : 0 + 0 ≤ _)⟩)
      dsimp only [Pt.U, Pt.locs, Pt.cells, Pt.slots] at X3 l3 y3 z3 st3 hQ3
      subst l3 y3 z3
      obtain ⟨rfl, N3q, e3q⟩ := hQ3
      have N3 := Fr.app N0 N3q
      refine go (T3.setTop (mkF m 136 #[.val (.int p1), .val (.int p2), .val (.int p3), .val (.int p4), .val (.int (0 : Int32)), .val (.ref uA), .val (.int (1 : Int32)), .val (.int hf), .val (.int jj), .val (.int cc), .val (.double (FP.dadd (FP.i2d cc) (FP.ddiv (FP.l2d ((cc.toInt64) * (jj.toInt64))) (4715268809856909312 : UInt64)))), .second, .val (.int (if (0 : Int32) < cc then (if (0 : Int32) < jj then (1 : Int32) else (0 : Int32)) else (0 : Int32)))] [(.int (if uA = uA then own_excA (FP.dadd (FP.i2d cc) (FP.ddiv (FP.l2d ((cc.toInt64) * (jj.toInt64))) (4715268809856909312 : UInt64))) cc else own_excE (FP.dadd (FP.i2d cc) (FP.ddiv (FP.l2d ((cc.toInt64) * (jj.toInt64))) (4715268809856909312 : UInt64))) cc))])) _ (fun t9 k9 => st3.trans k9) ?_
      rw [if_pos rfl]
      refine go (T3.setTop (mkF m 138 #[.val (.int p1), .val (.int p2), .val (.int p3), .val (.int p4), .val (.int (0 : Int32)), .val (.ref uA), .val (.int (1 : Int32)), .val (.int hf), .val (.int jj), .val (.int cc), .val (.double (FP.dadd (FP.i2d cc) (FP.ddiv (FP.l2d ((cc.toInt64) * (jj.toInt64))) (4715268809856909312 : UInt64)))), .second, .val (.int (if (0 : Int32) < cc then (if (0 : Int32) < jj then (1 : Int32) else (0 : Int32)) else (0 : Int32)))] [(.int (if (0 : Int32) < cc then (if (0 : Int32) < jj then (1 : Int32) else (0 : Int32)) else (0 : Int32))), (.int (own_excA (FP.dadd (FP.i2d cc) (FP.ddiv (FP.l2d ((cc.toInt64) * (jj.toInt64))) (4715268809856909312 : UInt64))) cc))])) _ (fun t9 k9 => ?_) ?_
      · show Steps p.tables e below (T3.setTop (mkF m 136 #[.val (.int p1), .val (.int p2), .val (.int p3), .val (.int p4), .val (.int (0 : Int32)), .val (.ref uA), .val (.int (1 : Int32)), .val (.int hf), .val (.int jj), .val (.int cc), .val (.double (FP.dadd (FP.i2d cc) (FP.ddiv (FP.l2d ((cc.toInt64) * (jj.toInt64))) (4715268809856909312 : UInt64)))), .second, .val (.int (if (0 : Int32) < cc then (if (0 : Int32) < jj then (1 : Int32) else (0 : Int32)) else (0 : Int32)))] [(.int (own_excA (FP.dadd (FP.i2d cc) (FP.ddiv (FP.l2d ((cc.toInt64) * (jj.toInt64))) (4715268809856909312 : UInt64))) cc))])) _
        refine XS.iload X3.here hx rfl (hb hby at_136) rfl ?_
        exact k9
      have hfin : (own_excA (FP.dadd (FP.i2d cc) (FP.ddiv (FP.l2d ((cc.toInt64) * (jj.toInt64))) (4715268809856909312 : UInt64))) cc) = (if (0 : Int32) < cc then (if (0 : Int32) < jj then (1 : Int32) else (0 : Int32)) else (0 : Int32)) := own_relA hcc.1 hcc.2 hj.1 hj.2
      refine go (T3.setTop (mkF m 146 #[.val (.int p1), .val (.int p2), .val (.int p3), .val (.int p4), .val (.int (0 : Int32)), .val (.ref uA), .val (.int (1 : Int32)), .val (.int hf), .val (.int jj), .val (.int cc), .val (.double (FP.dadd (FP.i2d cc) (FP.ddiv (FP.l2d ((cc.toInt64) * (jj.toInt64))) (4715268809856909312 : UInt64)))), .second, .val (.int (if (0 : Int32) < cc then (if (0 : Int32) < jj then (1 : Int32) else (0 : Int32)) else (0 : Int32)))] [(.int (1 : Int32))])) _ (fun t9 k9 => ?_) ?_
      · show Steps p.tables e below (T3.setTop (mkF m 138 #[.val (.int p1), .val (.int p2), .val (.int p3), .val (.int p4), .val (.int (0 : Int32)), .val (.ref uA), .val (.int (1 : Int32)), .val (.int hf), .val (.int jj), .val (.int cc), .val (.double (FP.dadd (FP.i2d cc) (FP.ddiv (FP.l2d ((cc.toInt64) * (jj.toInt64))) (4715268809856909312 : UInt64)))), .second, .val (.int (if (0 : Int32) < cc then (if (0 : Int32) < jj then (1 : Int32) else (0 : Int32)) else (0 : Int32)))] [(.int (if (0 : Int32) < cc then (if (0 : Int32) < jj then (1 : Int32) else (0 : Int32)) else (0 : Int32))), (.int (own_excA (FP.dadd (FP.i2d cc) (FP.ddiv (FP.l2d ((cc.toInt64) * (jj.toInt64))) (4715268809856909312 : UInt64))) cc))])) _
        refine XS.icmpNo X3.here hx rfl (hb hby at_138) rfl (teq hfin).2 ?_
        show Steps p.tables e below (T3.setTop (mkF m 141 #[.val (.int p1), .val (.int p2), .val (.int p3), .val (.int p4), .val (.int (0 : Int32)), .val (.ref uA), .val (.int (1 : Int32)), .val (.int hf), .val (.int jj), .val (.int cc), .val (.double (FP.dadd (FP.i2d cc) (FP.ddiv (FP.l2d ((cc.toInt64) * (jj.toInt64))) (4715268809856909312 : UInt64)))), .second, .val (.int (if (0 : Int32) < cc then (if (0 : Int32) < jj then (1 : Int32) else (0 : Int32)) else (0 : Int32)))] [])) _
        refine XS.iconst X3.here hx rfl (hb hby at_141) ?_
        show Steps p.tables e below (T3.setTop (mkF m 142 #[.val (.int p1), .val (.int p2), .val (.int p3), .val (.int p4), .val (.int (0 : Int32)), .val (.ref uA), .val (.int (1 : Int32)), .val (.int hf), .val (.int jj), .val (.int cc), .val (.double (FP.dadd (FP.i2d cc) (FP.ddiv (FP.l2d ((cc.toInt64) * (jj.toInt64))) (4715268809856909312 : UInt64)))), .second, .val (.int (if (0 : Int32) < cc then (if (0 : Int32) < jj then (1 : Int32) else (0 : Int32)) else (0 : Int32)))] [(.int (1 : Int32))])) _
        refine XS.goto X3.here hx rfl (pc0 := 142) (pc' := 146) rfl (hb hby at_142) (by decide) (by decide) ?_
        exact k9
      obtain ⟨fs, hr, hrun, hended, hW, hsame⟩ := X3.leave (v := some (.int (1 : Int32))) (fun h => by rw [Bd.returns] at h; cases h) hlk
      refine fin _ ⟨_, _, retN X3 hx (t := .boolean) Bd.returns (by simp) (hb hby at_146) hr, hrun, hended, _, _, rfl, ?_, ⟨_, rfl⟩, hW, hsame.mono (by decide) (by decide)⟩
      show Q0 Z p1 p2 p3 p4 h0 n0 _ T3.heap _
      exact ⟨rfl, N3⟩
  · refine go (s₁.setTop (mkF m 18 #[.val (.int p1), .val (.int p2), .val (.int p3), .val (.int p4), .val (.int (1 : Int32)), .unset, .unset, .unset, .unset, .unset, .unset, .unset, .unset] [])) _ (fun t9 k9 => ?_) ?_
    · show Steps p.tables e below (s₁.setTop (mkF m 3 #[.val (.int p1), .val (.int p2), .val (.int p3), .val (.int p4), .unset, .unset, .unset, .unset, .unset, .unset, .unset, .unset, .unset] [(.int (p1 &&& (1 : Int32)))])) _
      refine XS.ifNo X0.here hx rfl (hb hby at_3) rfl ((if0 _ _).trans (feq hk).1) ?_
      show Steps p.tables e below (s₁.setTop (mkF m 6 #[.val (.int p1), .val (.int p2), .val (.int p3), .val (.int p4), .unset, .unset, .unset, .unset, .unset, .unset, .unset, .unset, .unset] [])) _
      refine XS.iconst X0.here hx rfl (hb hby at_6) ?_
      show Steps p.tables e below (s₁.setTop (mkF m 7 #[.val (.int p1), .val (.int p2), .val (.int p3), .val (.int p4), .unset, .unset, .unset, .unset, .unset, .unset, .unset, .unset, .unset] [(.int (1 : Int32))])) _
      refine XS.goto X0.here hx rfl (pc0 := 7) (pc' := 11) rfl (hb hby at_7) (by decide) (by decide) ?_
      show Steps p.tables e below (s₁.setTop (mkF m 11 #[.val (.int p1), .val (.int p2), .val (.int p3), .val (.int p4), .unset, .unset, .unset, .unset, .unset, .unset, .unset, .unset, .unset] [(.int (1 : Int32))])) _
      refine XS.istore X0.here hx rfl (hb hby at_11) rfl (l' := #[.val (.int p1), .val (.int p2), .val (.int p3), .val (.int p4), .val (.int (1 : Int32)), .unset, .unset, .unset, .unset, .unset, .unset, .unset, .unset]) rfl ?_
      show Steps p.tables e below (s₁.setTop (mkF m 13 #[.val (.int p1), .val (.int p2), .val (.int p3), .val (.int p4), .val (.int (1 : Int32)), .unset, .unset, .unset, .unset, .unset, .unset, .unset, .unset] [])) _
      refine XS.iload X0.here hx rfl (hb hby at_13) rfl ?_
      show Steps p.tables e below (s₁.setTop (mkF m 15 #[.val (.int p1), .val (.int p2), .val (.int p3), .val (.int p4), .val (.int (1 : Int32)), .unset, .unset, .unset, .unset, .unset, .unset, .unset, .unset] [(.int (1 : Int32))])) _
      refine XS.ifNo X0.here hx rfl (hb hby at_15) rfl ((if0 _ _).trans (feq (by decide : ¬ (1 : Int32) = (0 : Int32))).1) ?_
      exact k9
    obtain ⟨T6, X6, e6, st6⟩ := getS X0 hx hZ (host := "") hown (hw _ (List.mem_of_getElem? (i := 12) rfl)) Via.refl e0 StaE (g := (mkF m 18 #[.val (.int p1), .val (.int p2), .val (.int p3), .val (.int p4), .val (.int (1 : Int32)), .unset, .unset, .unset, .unset, .unset, .unset, .unset, .unset] [])) rfl (hb hby at_18)
    refine go (T6.setTop (mkF m 21 #[.val (.int p1), .val (.int p2), .val (.int p3), .val (.int p4), .val (.int (1 : Int32)), .unset, .unset, .unset, .unset, .unset, .unset, .unset, .unset] [(.ref uE)])) _ (fun t9 k9 => st6 _ k9) ?_
    refine go (T6.setTop (mkF m 32 #[.val (.int p1), .val (.int p2), .val (.int p3), .val (.int p4), .val (.int (1 : Int32)), .val (.ref uE), .unset, .unset, .unset, .unset, .unset, .unset, .unset] [(.int (p4 &&& (1 : Int32)))])) _ (fun t9 k9 => ?_) ?_
    · show Steps p.tables e below (T6.setTop (mkF m 21 #[.val (.int p1), .val (.int p2), .val (.int p3), .val (.int p4), .val (.int (1 : Int32)), .unset, .unset, .unset, .unset, .unset, .unset, .unset, .unset] [(.ref uE)])) _
      refine XS.goto X6.here hx rfl (pc0 := 21) (pc' := 27) rfl (hb hby at_21) (by decide) (by decide) ?_
      show Steps p.tables e below (T6.setTop (mkF m 27 #[.val (.int p1), .val (.int p2), .val (.int p3), .val (.int p4), .val (.int (1 : Int32)), .unset, .unset, .unset, .unset, .unset, .unset, .unset, .unset] [(.ref uE)])) _
      refine XS.astore X6.here hx rfl (hb hby at_27) rfl rfl (l' := #[.val (.int p1), .val (.int p2), .val (.int p3), .val (.int p4), .val (.int (1 : Int32)), .val (.ref uE), .unset, .unset, .unset, .unset, .unset, .unset, .unset]) rfl ?_
      show Steps p.tables e below (T6.setTop (mkF m 29 #[.val (.int p1), .val (.int p2), .val (.int p3), .val (.int p4), .val (.int (1 : Int32)), .val (.ref uE), .unset, .unset, .unset, .unset, .unset, .unset, .unset] [])) _
      refine XS.iloadN X6.here hx rfl (hb hby at_29) rfl ?_
      show Steps p.tables e below (T6.setTop (mkF m 30 #[.val (.int p1), .val (.int p2), .val (.int p3), .val (.int p4), .val (.int (1 : Int32)), .val (.ref uE), .unset, .unset, .unset, .unset, .unset, .unset, .unset] [(.int p4)])) _
      refine XS.iconst X6.here hx rfl (hb hby at_30) ?_
      show Steps p.tables e below (T6.setTop (mkF m 31 #[.val (.int p1), .val (.int p2), .val (.int p3), .val (.int p4), .val (.int (1 : Int32)), .val (.ref uE), .unset, .unset, .unset, .unset, .unset, .unset, .unset] [(.int (1 : Int32)), (.int p4)])) _
      refine XS.iand X6.here hx rfl (hb hby at_31) rfl ?_
      exact k9
    by_cases hr : (p4 &&& (1 : Int32)) = (0 : Int32)
    · refine go (T6.setTop (mkF m 45 #[.val (.int p1), .val (.int p2), .val (.int p3), .val (.int p4), .val (.int (1 : Int32)), .val (.ref uE), .val (.int (0 : Int32)), .unset, .unset, .unset, .unset, .unset, .unset] [(.int (p4 &&& (2 : Int32)))])) _ (fun t9 k9 => ?_) ?_
      · show Steps p.tables e below (T6.setTop (mkF m 32 #[.val (.int p1), .val (.int p2), .val (.int p3), .val (.int p4), .val (.int (1 : Int32)), .val (.ref uE), .unset, .unset, .unset, .unset, .unset, .unset, .unset] [(.int (p4 &&& (1 : Int32)))])) _
        refine XS.ifYes X6.here hx rfl (pc0 := 32) (pc' := 39) rfl (hb hby at_32) rfl ((if0 _ _).trans (teq hr).1) (by decide) (by decide) ?_
        show Steps p.tables e below (T6.setTop (mkF m 39 #[.val (.int p1), .val (.int p2), .val (.int p3), .val (.int p4), .val (.int (1 : Int32)), .val (.ref uE), .unset, .unset, .unset, .unset, .unset, .unset, .unset] [])) _
        refine XS.iconst X6.here hx rfl (hb hby at_39) ?_
        show Steps p.tables e below (T6.setTop (mkF m 40 #[.val (.int p1), .val (.int p2), .val (.int p3), .val (.int p4), .val (.int (1 : Int32)), .val (.ref uE), .unset, .unset, .unset, .unset, .unset, .unset, .unset] [(.int (0 : Int32))])) _
        refine XS.istore X6.here hx rfl (hb hby at_40) rfl (l' := #[.val (.int p1), .val (.int p2), .val (.int p3), .val (.int p4), .val (.int (1 : Int32)), .val (.ref uE), .val (.int (0 : Int32)), .unset, .unset, .unset, .unset, .unset, .unset]) rfl ?_
        show Steps p.tables e below (T6.setTop (mkF m 42 #[.val (.int p1), .val (.int p2), .val (.int p3), .val (.int p4), .val (.int (1 : Int32)), .val (.ref uE), .val (.int (0 : Int32)), .unset, .unset, .unset, .unset, .unset, .unset] [])) _
        refine XS.iloadN X6.here hx rfl (hb hby at_42) rfl ?_
        show Steps p.tables e below (T6.setTop (mkF m 43 #[.val (.int p1), .val (.int p2), .val (.int p3), .val (.int p4), .val (.int (1 : Int32)), .val (.ref uE), .val (.int (0 : Int32)), .unset, .unset, .unset, .unset, .unset, .unset] [(.int p4)])) _
        refine XS.iconst X6.here hx rfl (hb hby at_43) ?_
        show Steps p.tables e below (T6.setTop (mkF m 44 #[.val (.int p1), .val (.int p2), .val (.int p3), .val (.int p4), .val (.int (1 : Int32)), .val (.ref uE), .val (.int (0 : Int32)), .unset, .unset, .unset, .unset, .unset, .unset] [(.int (2 : Int32)), (.int p4)])) _
        refine XS.iand X6.here hx rfl (hb hby at_44) rfl ?_
        exact k9
      by_cases hh : (p4 &&& (2 : Int32)) = (0 : Int32)
      · refine go (T6.setTop (mkF m 165 #[.val (.int p1), .val (.int p2), .val (.int p3), .val (.int p4), .val (.int (1 : Int32)), .val (.ref uE), .val (.int (0 : Int32)), .val (.int (0 : Int32)), .val (.int (((p4 >>> ((2 : Int32) &&& 31)) &&& (63 : Int32)) - (32 : Int32))), .val (.int ((p2 &&& (2147483647 : Int32)) % (500000 : Int32))), .unset, .unset, .unset] [])) _ (fun t9 k9 => ?_) ?_
        · show Steps p.tables e below (T6.setTop (mkF m 45 #[.val (.int p1), .val (.int p2), .val (.int p3), .val (.int p4), .val (.int (1 : Int32)), .val (.ref uE), .val (.int (0 : Int32)), .unset, .unset, .unset, .unset, .unset, .unset] [(.int (p4 &&& (2 : Int32)))])) _
          refine XS.ifYes X6.here hx rfl (pc0 := 45) (pc' := 52) rfl (hb hby at_45) rfl ((if0 _ _).trans (teq hh).1) (by decide) (by decide) ?_
          show Steps p.tables e below (T6.setTop (mkF m 52 #[.val (.int p1), .val (.int p2), .val (.int p3), .val (.int p4), .val (.int (1 : Int32)), .val (.ref uE), .val (.int (0 : Int32)), .unset, .unset, .unset, .unset, .unset, .unset] [])) _
          refine XS.iconst X6.here hx rfl (hb hby at_52) ?_
          show Steps p.tables e below (T6.setTop (mkF m 53 #[.val (.int p1), .val (.int p2), .val (.int p3), .val (.int p4), .val (.int (1 : Int32)), .val (.ref uE), .val (.int (0 : Int32)), .unset, .unset, .unset, .unset, .unset, .unset] [(.int (0 : Int32))])) _
          refine XS.istore X6.here hx rfl (hb hby at_53) rfl (l' := #[.val (.int p1), .val (.int p2), .val (.int p3), .val (.int p4), .val (.int (1 : Int32)), .val (.ref uE), .val (.int (0 : Int32)), .val (.int (0 : Int32)), .unset, .unset, .unset, .unset, .unset]) rfl ?_
          show Steps p.tables e below (T6.setTop (mkF m 55 #[.val (.int p1), .val (.int p2), .val (.int p3), .val (.int p4), .val (.int (1 : Int32)), .val (.ref uE), .val (.int (0 : Int32)), .val (.int (0 : Int32)), .unset, .unset, .unset, .unset, .unset] [])) _
          refine XS.iloadN X6.here hx rfl (hb hby at_55) rfl ?_
          show Steps p.tables e below (T6.setTop (mkF m 56 #[.val (.int p1), .val (.int p2), .val (.int p3), .val (.int p4), .val (.int (1 : Int32)), .val (.ref uE), .val (.int (0 : Int32)), .val (.int (0 : Int32)), .unset, .unset, .unset, .unset, .unset] [(.int p4)])) _
          refine XS.iconst X6.here hx rfl (hb hby at_56) ?_
          show Steps p.tables e below (T6.setTop (mkF m 57 #[.val (.int p1), .val (.int p2), .val (.int p3), .val (.int p4), .val (.int (1 : Int32)), .val (.ref uE), .val (.int (0 : Int32)), .val (.int (0 : Int32)), .unset, .unset, .unset, .unset, .unset] [(.int (2 : Int32)), (.int p4)])) _
          refine XS.ishr X6.here hx rfl (hb hby at_57) rfl ?_
          show Steps p.tables e below (T6.setTop (mkF m 58 #[.val (.int p1), .val (.int p2), .val (.int p3), .val (.int p4), .val (.int (1 : Int32)), .val (.ref uE), .val (.int (0 : Int32)), .val (.int (0 : Int32)), .unset, .unset, .unset, .unset, .unset] [(.int (p4 >>> ((2 : Int32) &&& 31)))])) _
          refine XS.bipush X6.here hx rfl (hb hby at_58) ?_
          show Steps p.tables e below (T6.setTop (mkF m 60 #[.val (.int p1), .val (.int p2), .val (.int p3), .val (.int p4), .val (.int (1 : Int32)), .val (.ref uE), .val (.int (0 : Int32)), .val (.int (0 : Int32)), .unset, .unset, .unset, .unset, .unset] [(.int (63 : Int32)), (.int (p4 >>> ((2 : Int32) &&& 31)))])) _
          refine XS.iand X6.here hx rfl (hb hby at_60) rfl ?_
          show Steps p.tables e below (T6.setTop (mkF m 61 #[.val (.int p1), .val (.int p2), .val (.int p3), .val (.int p4), .val (.int (1 : Int32)), .val (.ref uE), .val (.int (0 : Int32)), .val (.int (0 : Int32)), .unset, .unset, .unset, .unset, .unset] [(.int ((p4 >>> ((2 : Int32) &&& 31)) &&& (63 : Int32)))])) _
          refine XS.bipush X6.here hx rfl (hb hby at_61) ?_
          show Steps p.tables e below (T6.setTop (mkF m 63 #[.val (.int p1), .val (.int p2), .val (.int p3), .val (.int p4), .val (.int (1 : Int32)), .val (.ref uE), .val (.int (0 : Int32)), .val (.int (0 : Int32)), .unset, .unset, .unset, .unset, .unset] [(.int (32 : Int32)), (.int ((p4 >>> ((2 : Int32) &&& 31)) &&& (63 : Int32)))])) _
          refine XS.isub X6.here hx rfl (hb hby at_63) rfl ?_
          show Steps p.tables e below (T6.setTop (mkF m 64 #[.val (.int p1), .val (.int p2), .val (.int p3), .val (.int p4), .val (.int (1 : Int32)), .val (.ref uE), .val (.int (0 : Int32)), .val (.int (0 : Int32)), .unset, .unset, .unset, .unset, .unset] [(.int (((p4 >>> ((2 : Int32) &&& 31)) &&& (63 : Int32)) - (32 : Int32)))])) _
          refine XS.istore X6.here hx rfl (hb hby at_64) rfl (l' := #[.val (.int p1), .val (.int p2), .val (.int p3), .val (.int p4), .val (.int (1 : Int32)), .val (.ref uE), .val (.int (0 : Int32)), .val (.int (0 : Int32)), .val (.int (((p4 >>> ((2 : Int32) &&& 31)) &&& (63 : Int32)) - (32 : Int32))), .unset, .unset, .unset, .unset]) rfl ?_
          show Steps p.tables e below (T6.setTop (mkF m 66 #[.val (.int p1), .val (.int p2), .val (.int p3), .val (.int p4), .val (.int (1 : Int32)), .val (.ref uE), .val (.int (0 : Int32)), .val (.int (0 : Int32)), .val (.int (((p4 >>> ((2 : Int32) &&& 31)) &&& (63 : Int32)) - (32 : Int32))), .unset, .unset, .unset, .unset] [])) _
          refine XS.iload X6.here hx rfl (hb hby at_66) rfl ?_
          show Steps p.tables e below (T6.setTop (mkF m 68 #[.val (.int p1), .val (.int p2), .val (.int p3), .val (.int p4), .val (.int (1 : Int32)), .val (.ref uE), .val (.int (0 : Int32)), .val (.int (0 : Int32)), .val (.int (((p4 >>> ((2 : Int32) &&& 31)) &&& (63 : Int32)) - (32 : Int32))), .unset, .unset, .unset, .unset] [(.int (0 : Int32))])) _
          refine XS.ifYes X6.here hx rfl (pc0 := 68) (pc' := 147) rfl (hb hby at_68) rfl ((if0 _ _).trans (teq (by decide : (0 : Int32) = (0 : Int32))).1) (by decide) (by decide) ?_
          show Steps p.tables e below (T6.setTop (mkF m 147 #[.val (.int p1), .val (.int p2), .val (.int p3), .val (.int p4), .val (.int (1 : Int32)), .val (.ref uE), .val (.int (0 : Int32)), .val (.int (0 : Int32)), .val (.int (((p4 >>> ((2 : Int32) &&& 31)) &&& (63 : Int32)) - (32 : Int32))), .unset, .unset, .unset, .unset] [])) _
          refine XS.iload X6.here hx rfl (hb hby at_147) rfl ?_
          show Steps p.tables e below (T6.setTop (mkF m 149 #[.val (.int p1), .val (.int p2), .val (.int p3), .val (.int p4), .val (.int (1 : Int32)), .val (.ref uE), .val (.int (0 : Int32)), .val (.int (0 : Int32)), .val (.int (((p4 >>> ((2 : Int32) &&& 31)) &&& (63 : Int32)) - (32 : Int32))), .unset, .unset, .unset, .unset] [(.int (1 : Int32))])) _
          refine XS.ifNo X6.here hx rfl (hb hby at_149) rfl ((if0 _ _).trans (feq (by decide : ¬ (1 : Int32) = (0 : Int32))).1) ?_
          show Steps p.tables e below (T6.setTop (mkF m 152 #[.val (.int p1), .val (.int p2), .val (.int p3), .val (.int p4), .val (.int (1 : Int32)), .val (.ref uE), .val (.int (0 : Int32)), .val (.int (0 : Int32)), .val (.int (((p4 >>> ((2 : Int32) &&& 31)) &&& (63 : Int32)) - (32 : Int32))), .unset, .unset, .unset, .unset] [])) _
          refine XS.iloadN X6.here hx rfl (hb hby at_152) rfl ?_
          show Steps p.tables e below (T6.setTop (mkF m 153 #[.val (.int p1), .val (.int p2), .val (.int p3), .val (.int p4), .val (.int (1 : Int32)), .val (.ref uE), .val (.int (0 : Int32)), .val (.int (0 : Int32)), .val (.int (((p4 >>> ((2 : Int32) &&& 31)) &&& (63 : Int32)) - (32 : Int32))), .unset, .unset, .unset, .unset] [(.int p2)])) _
          refine X6.ldcInt hx hown (mvT hZ (hw _ (List.mem_of_getElem? (i := 14) rfl))) (g := (mkF m 153 #[.val (.int p1), .val (.int p2), .val (.int p3), .val (.int p4), .val (.int (1 : Int32)), .val (.ref uE), .val (.int (0 : Int32)), .val (.int (0 : Int32)), .val (.int (((p4 >>> ((2 : Int32) &&& 31)) &&& (63 : Int32)) - (32 : Int32))), .unset, .unset, .unset, .unset] [(.int p2)])) rfl (hb hby at_153) _ ?_
          show Steps p.tables e below (T6.setTop (mkF m 155 #[.val (.int p1), .val (.int p2), .val (.int p3), .val (.int p4), .val (.int (1 : Int32)), .val (.ref uE), .val (.int (0 : Int32)), .val (.int (0 : Int32)), .val (.int (((p4 >>> ((2 : Int32) &&& 31)) &&& (63 : Int32)) - (32 : Int32))), .unset, .unset, .unset, .unset] [(.int (2147483647 : Int32)), (.int p2)])) _
          refine XS.iand X6.here hx rfl (hb hby at_155) rfl ?_
          show Steps p.tables e below (T6.setTop (mkF m 156 #[.val (.int p1), .val (.int p2), .val (.int p3), .val (.int p4), .val (.int (1 : Int32)), .val (.ref uE), .val (.int (0 : Int32)), .val (.int (0 : Int32)), .val (.int (((p4 >>> ((2 : Int32) &&& 31)) &&& (63 : Int32)) - (32 : Int32))), .unset, .unset, .unset, .unset] [(.int (p2 &&& (2147483647 : Int32)))])) _
          refine X6.ldcInt hx hown (mvT hZ (hw _ (List.mem_of_getElem? (i := 15) rfl))) (g := (mkF m 156 #[.val (.int p1), .val (.int p2), .val (.int p3), .val (.int p4), .val (.int (1 : Int32)), .val (.ref uE), .val (.int (0 : Int32)), .val (.int (0 : Int32)), .val (.int (((p4 >>> ((2 : Int32) &&& 31)) &&& (63 : Int32)) - (32 : Int32))), .unset, .unset, .unset, .unset] [(.int (p2 &&& (2147483647 : Int32)))])) rfl (hb hby at_156) _ ?_
          show Steps p.tables e below (T6.setTop (mkF m 158 #[.val (.int p1), .val (.int p2), .val (.int p3), .val (.int p4), .val (.int (1 : Int32)), .val (.ref uE), .val (.int (0 : Int32)), .val (.int (0 : Int32)), .val (.int (((p4 >>> ((2 : Int32) &&& 31)) &&& (63 : Int32)) - (32 : Int32))), .unset, .unset, .unset, .unset] [(.int (500000 : Int32)), (.int (p2 &&& (2147483647 : Int32)))])) _
          refine iremM X6 hx rfl (hb hby at_158) rfl (by decide) ?_
          show Steps p.tables e below (T6.setTop (mkF m 159 #[.val (.int p1), .val (.int p2), .val (.int p3), .val (.int p4), .val (.int (1 : Int32)), .val (.ref uE), .val (.int (0 : Int32)), .val (.int (0 : Int32)), .val (.int (((p4 >>> ((2 : Int32) &&& 31)) &&& (63 : Int32)) - (32 : Int32))), .unset, .unset, .unset, .unset] [(.int ((p2 &&& (2147483647 : Int32)) % (500000 : Int32)))])) _
          refine XS.goto X6.here hx rfl (pc0 := 159) (pc' := 163) rfl (hb hby at_159) (by decide) (by decide) ?_
          show Steps p.tables e below (T6.setTop (mkF m 163 #[.val (.int p1), .val (.int p2), .val (.int p3), .val (.int p4), .val (.int (1 : Int32)), .val (.ref uE), .val (.int (0 : Int32)), .val (.int (0 : Int32)), .val (.int (((p4 >>> ((2 : Int32) &&& 31)) &&& (63 : Int32)) - (32 : Int32))), .unset, .unset, .unset, .unset] [(.int ((p2 &&& (2147483647 : Int32)) % (500000 : Int32)))])) _
          refine XS.istore X6.here hx rfl (hb hby at_163) rfl (l' := #[.val (.int p1), .val (.int p2), .val (.int p3), .val (.int p4), .val (.int (1 : Int32)), .val (.ref uE), .val (.int (0 : Int32)), .val (.int (0 : Int32)), .val (.int (((p4 >>> ((2 : Int32) &&& 31)) &&& (63 : Int32)) - (32 : Int32))), .val (.int ((p2 &&& (2147483647 : Int32)) % (500000 : Int32))), .unset, .unset, .unset]) rfl ?_
          exact k9
        have hcc := own_c500 p2
        generalize hce : ((p2 &&& (2147483647 : Int32)) % (500000 : Int32)) = cc
        rw [hce] at hcc
        refine go (T6.setTop (mkF m 182 #[.val (.int p1), .val (.int p2), .val (.int p3), .val (.int p4), .val (.int (1 : Int32)), .val (.ref uE), .val (.int (0 : Int32)), .val (.int (0 : Int32)), .val (.int (((p4 >>> ((2 : Int32) &&& 31)) &&& (63 : Int32)) - (32 : Int32))), .val (.int cc), .val (.double (FP.dadd (FP.i2d p3) (0 : UInt64))), .second, .unset] [])) _ (fun t9 k9 => ?_) ?_
        · show Steps p.tables e below (T6.setTop (mkF m 165 #[.val (.int p1), .val (.int p2), .val (.int p3), .val (.int p4), .val (.int (1 : Int32)), .val (.ref uE), .val (.int (0 : Int32)), .val (.int (0 : Int32)), .val (.int (((p4 >>> ((2 : Int32) &&& 31)) &&& (63 : Int32)) - (32 : Int32))), .val (.int cc), .unset, .unset, .unset] [])) _
          refine XS.iloadN X6.here hx rfl (hb hby at_165) rfl ?_
          show Steps p.tables e below (T6.setTop (mkF m 166 #[.val (.int p1), .val (.int p2), .val (.int p3), .val (.int p4), .val (.int (1 : Int32)), .val (.ref uE), .val (.int (0 : Int32)), .val (.int (0 : Int32)), .val (.int (((p4 >>> ((2 : Int32) &&& 31)) &&& (63 : Int32)) - (32 : Int32))), .val (.int cc), .unset, .unset, .unset] [(.int p3)])) _
          refine XS.i2dS X6.here hx rfl (hb hby at_166) rfl rfl ?_
          show Steps p.tables e below (T6.setTop (mkF m 167 #[.val (.int p1), .val (.int p2), .val (.int p3), .val (.int p4), .val (.int (1 : Int32)), .val (.ref uE), .val (.int (0 : Int32)), .val (.int (0 : Int32)), .val (.int (((p4 >>> ((2 : Int32) &&& 31)) &&& (63 : Int32)) - (32 : Int32))), .val (.int cc), .unset, .unset, .unset] [(.double (FP.i2d p3))])) _
          refine XS.iload X6.here hx rfl (hb hby at_167) rfl ?_
          show Steps p.tables e below (T6.setTop (mkF m 169 #[.val (.int p1), .val (.int p2), .val (.int p3), .val (.int p4), .val (.int (1 : Int32)), .val (.ref uE), .val (.int (0 : Int32)), .val (.int (0 : Int32)), .val (.int (((p4 >>> ((2 : Int32) &&& 31)) &&& (63 : Int32)) - (32 : Int32))), .val (.int cc), .unset, .unset, .unset] [(.int (0 : Int32)), (.double (FP.i2d p3))])) _
          refine XS.ifYes X6.here hx rfl (pc0 := 169) (pc' := 178) rfl (hb hby at_169) rfl ((if0 _ _).trans (teq (by decide : (0 : Int32) = (0 : Int32))).1) (by decide) (by decide) ?_
          show Steps p.tables e below (T6.setTop (mkF m 178 #[.val (.int p1), .val (.int p2), .val (.int p3), .val (.int p4), .val (.int (1 : Int32)), .val (.ref uE), .val (.int (0 : Int32)), .val (.int (0 : Int32)), .val (.int (((p4 >>> ((2 : Int32) &&& 31)) &&& (63 : Int32)) - (32 : Int32))), .val (.int cc), .unset, .unset, .unset] [(.double (FP.i2d p3))])) _
          refine XS.dconst0 X6.here hx rfl (hb hby at_178) rfl ?_
          show Steps p.tables e below (T6.setTop (mkF m 179 #[.val (.int p1), .val (.int p2), .val (.int p3), .val (.int p4), .val (.int (1 : Int32)), .val (.ref uE), .val (.int (0 : Int32)), .val (.int (0 : Int32)), .val (.int (((p4 >>> ((2 : Int32) &&& 31)) &&& (63 : Int32)) - (32 : Int32))), .val (.int cc), .unset, .unset, .unset] [(.double (0 : UInt64)), (.double (FP.i2d p3))])) _
          refine XS.daddS X6.here hx rfl (hb hby at_179) rfl (own_lo_nn p3) rfl ?_
          show Steps p.tables e below (T6.setTop (mkF m 180 #[.val (.int p1), .val (.int p2), .val (.int p3), .val (.int p4), .val (.int (1 : Int32)), .val (.ref uE), .val (.int (0 : Int32)), .val (.int (0 : Int32)), .val (.int (((p4 >>> ((2 : Int32) &&& 31)) &&& (63 : Int32)) - (32 : Int32))), .val (.int cc), .unset, .unset, .unset] [(.double (FP.dadd (FP.i2d p3) (0 : UInt64)))])) _
          refine XS.dstore X6.here hx rfl (hb hby at_180) rfl (l' := #[.val (.int p1), .val (.int p2), .val (.int p3), .val (.int p4), .val (.int (1 : Int32)), .val (.ref uE), .val (.int (0 : Int32)), .val (.int (0 : Int32)), .val (.int (((p4 >>> ((2 : Int32) &&& 31)) &&& (63 : Int32)) - (32 : Int32))), .val (.int cc), .val (.double (FP.dadd (FP.i2d p3) (0 : UInt64))), .second, .unset]) rfl ?_
          exact k9
        refine go (T6.setTop (mkF m 212 #[.val (.int p1), .val (.int p2), .val (.int p3), .val (.int p4), .val (.int (1 : Int32)), .val (.ref uE), .val (.int (0 : Int32)), .val (.int (0 : Int32)), .val (.int (((p4 >>> ((2 : Int32) &&& 31)) &&& (63 : Int32)) - (32 : Int32))), .val (.int cc), .val (.double (FP.dadd (FP.i2d p3) (0 : UInt64))), .second, .unset] [(.int (if cc < p3 then (1 : Int32) else (0 : Int32)))])) _ (fun t9 k9 => ?_) ?_
        · show Steps p.tables e below (T6.setTop (mkF m 182 #[.val (.int p1), .val (.int p2), .val (.int p3), .val (.int p4), .val (.int (1 : Int32)), .val (.ref uE), .val (.int (0 : Int32)), .val (.int (0 : Int32)), .val (.int (((p4 >>> ((2 : Int32) &&& 31)) &&& (63 : Int32)) - (32 : Int32))), .val (.int cc), .val (.double (FP.dadd (FP.i2d p3) (0 : UInt64))), .second, .unset] [])) _
          refine XS.iload X6.here hx rfl (hb hby at_182) rfl ?_
          show Steps p.tables e below (T6.setTop (mkF m 184 #[.val (.int p1), .val (.int p2), .val (.int p3), .val (.int p4), .val (.int (1 : Int32)), .val (.ref uE), .val (.int (0 : Int32)), .val (.int (0 : Int32)), .val (.int (((p4 >>> ((2 : Int32) &&& 31)) &&& (63 : Int32)) - (32 : Int32))), .val (.int cc), .val (.double (FP.dadd (FP.i2d p3) (0 : UInt64))), .second, .unset] [(.int (0 : Int32))])) _
          refine XS.ifYes X6.here hx rfl (pc0 := 184) (pc' := 201) rfl (hb hby at_184) rfl ((if0 _ _).trans (teq (by decide : (0 : Int32) = (0 : Int32))).1) (by decide) (by decide) ?_
          show Steps p.tables e below (T6.setTop (mkF m 201 #[.val (.int p1), .val (.int p2), .val (.int p3), .val (.int p4), .val (.int (1 : Int32)), .val (.ref uE), .val (.int (0 : Int32)), .val (.int (0 : Int32)), .val (.int (((p4 >>> ((2 : Int32) &&& 31)) &&& (63 : Int32)) - (32 : Int32))), .val (.int cc), .val (.double (FP.dadd (FP.i2d p3) (0 : UInt64))), .second, .unset] [])) _
          refine XS.iloadN X6.here hx rfl (hb hby at_201) rfl ?_
          show Steps p.tables e below (T6.setTop (mkF m 202 #[.val (.int p1), .val (.int p2), .val (.int p3), .val (.int p4), .val (.int (1 : Int32)), .val (.ref uE), .val (.int (0 : Int32)), .val (.int (0 : Int32)), .val (.int (((p4 >>> ((2 : Int32) &&& 31)) &&& (63 : Int32)) - (32 : Int32))), .val (.int cc), .val (.double (FP.dadd (FP.i2d p3) (0 : UInt64))), .second, .unset] [(.int p3)])) _
          refine XS.iload X6.here hx rfl (hb hby at_202) rfl ?_
          by_cases h204_1 : cc < p3
          · try (simp only [if_pos h204_1] at k9)
            show Steps p.tables e below (T6.setTop (mkF m 204 #[.val (.int p1), .val (.int p2), .val (.int p3), .val (.int p4), .val (.int (1 : Int32)), .val (.ref uE), .val (.int (0 : Int32)), .val (.int (0 : Int32)), .val (.int (((p4 >>> ((2 : Int32) &&& 31)) &&& (63 : Int32)) - (32 : Int32))), .val (.int cc), .val (.double (FP.dadd (FP.i2d p3) (0 : UInt64))), .second, .unset] [(.int cc), (.int p3)])) _
            refine XS.icmpNo X6.here hx rfl (hb hby at_204) rfl (tlt h204_1).2.2.2 ?_
            show Steps p.tables e below (T6.setTop (mkF m 207 #[.val (.int p1), .val (.int p2), .val (.int p3), .val (.int p4), .val (.int (1 : Int32)), .val (.ref uE), .val (.int (0 : Int32)), .val (.int (0 : Int32)), .val (.int (((p4 >>> ((2 : Int32) &&& 31)) &&& (63 : Int32)) - (32 : Int32))), .val (.int cc), .val (.double (FP.dadd (FP.i2d p3) (0 : UInt64))), .second, .unset] [])) _
            refine XS.iconst X6.here hx rfl (hb hby at_207) ?_
            show Steps p.tables e below (T6.setTop (mkF m 208 #[.val (.int p1), .val (.int p2), .val (.int p3), .val (.int p4), .val (.int (1 : Int32)), .val (.ref uE), .val (.int (0 : Int32)), .val (.int (0 : Int32)), .val (.int (((p4 >>> ((2 : Int32) &&& 31)) &&& (63 : Int32)) - (32 : Int32))), .val (.int cc), .val (.double (FP.dadd (FP.i2d p3) (0 : UInt64))), .second, .unset] [(.int (1 : Int32))])) _
            refine XS.goto X6.here hx rfl (pc0 := 208) (pc' := 212) rfl (hb hby at_208) (by decide) (by decide) ?_
            exact k9
          · try (simp only [if_neg h204_1] at k9)
            show Steps p.tables e below (T6.setTop (mkF m 204 #[.val (.int p1), .val (.int p2), .val (.int p3), .val (.int p4), .val (.int (1 : Int32)), .val (.ref uE), .val (.int (0 : Int32)), .val (.int (0 : Int32)), .val (.int (((p4 >>> ((2 : Int32) &&& 31)) &&& (63 : Int32)) - (32 : Int32))), .val (.int cc), .val (.double (FP.dadd (FP.i2d p3) (0 : UInt64))), .second, .unset] [(.int cc), (.int p3)])) _
            refine XS.icmpYes X6.here hx rfl (pc0 := 204) (pc' := 211) rfl (hb hby at_204) rfl (flt h204_1).2.2.2 (by decide) (by decide) ?_
            show Steps p.tables e below (T6.setTop (mkF m 211 #[.val (.int p1), .val (.int p2), .val (.int p3), .val (.int p4), .val (.int (1 : Int32)), .val (.ref uE), .val (.int (0 : Int32)), .val (.int (0 : Int32)), .val (.int (((p4 >>> ((2 : Int32) &&& 31)) &&& (63 : Int32)) - (32 : Int32))), .val (.int cc), .val (.double (FP.dadd (FP.i2d p3) (0 : UInt64))), .second, .unset] [])) _
            refine XS.iconst X6.here hx rfl (hb hby at_211) ?_
            exact k9
        refine go (T6.setTop (mkF m 220 #[.val (.int p1), .val (.int p2), .val (.int p3), .val (.int p4), .val (.int (1 : Int32)), .val (.ref uE), .val (.int (0 : Int32)), .val (.int (0 : Int32)), .val (.int (((p4 >>> ((2 : Int32) &&& 31)) &&& (63 : Int32)) - (32 : Int32))), .val (.int cc), .val (.double (FP.dadd (FP.i2d p3) (0 : UInt64))), .second, .val (.int (if cc < p3 then (1 : Int32) else (0 : Int32)))] [(.int cc), (.double (FP.dadd (FP.i2d p3) (0 : UInt64))), (.ref uE)])) _ (fun t9 k9 => ?_) ?_
        · show Steps p.tables e below (T6.setTop (mkF m 212 #[.val (.int p1), .val (.int p2), .val (.int p3), .val (.int p4), .val (.int (1 : Int32)), .val (.ref uE), .val (.int (0 : Int32)), .val (.int (0 : Int32)), .val (.int (((p4 >>> ((2 : Int32) &&& 31)) &&& (63 : Int32)) - (32 : Int32))), .val (.int cc), .val (.double (FP.dadd (FP.i2d p3) (0 : UInt64))), .second, .unset] [(.int (if cc < p3 then (1 : Int32) else (0 : Int32)))])) _
          refine XS.istore X6.here hx rfl (hb hby at_212) rfl (l' := #[.val (.int p1), .val (.int p2), .val (.int p3), .val (.int p4), .val (.int (1 : Int32)), .val (.ref uE), .val (.int (0 : Int32)), .val (.int (0 : Int32)), .val (.int (((p4 >>> ((2 : Int32) &&& 31)) &&& (63 : Int32)) - (32 : Int32))), .val (.int cc), .val (.double (FP.dadd (FP.i2d p3) (0 : UInt64))), .second, .val (.int (if cc < p3 then (1 : Int32) else (0 : Int32)))]) rfl ?_
          show Steps p.tables e below (T6.setTop (mkF m 214 #[.val (.int p1), .val (.int p2), .val (.int p3), .val (.int p4), .val (.int (1 : Int32)), .val (.ref uE), .val (.int (0 : Int32)), .val (.int (0 : Int32)), .val (.int (((p4 >>> ((2 : Int32) &&& 31)) &&& (63 : Int32)) - (32 : Int32))), .val (.int cc), .val (.double (FP.dadd (FP.i2d p3) (0 : UInt64))), .second, .val (.int (if cc < p3 then (1 : Int32) else (0 : Int32)))] [])) _
          refine XS.aload X6.here hx rfl (hb hby at_214) rfl rfl ?_
          show Steps p.tables e below (T6.setTop (mkF m 216 #[.val (.int p1), .val (.int p2), .val (.int p3), .val (.int p4), .val (.int (1 : Int32)), .val (.ref uE), .val (.int (0 : Int32)), .val (.int (0 : Int32)), .val (.int (((p4 >>> ((2 : Int32) &&& 31)) &&& (63 : Int32)) - (32 : Int32))), .val (.int cc), .val (.double (FP.dadd (FP.i2d p3) (0 : UInt64))), .second, .val (.int (if cc < p3 then (1 : Int32) else (0 : Int32)))] [(.ref uE)])) _
          refine XS.dload X6.here hx rfl (hb hby at_216) rfl ?_
          show Steps p.tables e below (T6.setTop (mkF m 218 #[.val (.int p1), .val (.int p2), .val (.int p3), .val (.int p4), .val (.int (1 : Int32)), .val (.ref uE), .val (.int (0 : Int32)), .val (.int (0 : Int32)), .val (.int (((p4 >>> ((2 : Int32) &&& 31)) &&& (63 : Int32)) - (32 : Int32))), .val (.int cc), .val (.double (FP.dadd (FP.i2d p3) (0 : UInt64))), .second, .val (.int (if cc < p3 then (1 : Int32) else (0 : Int32)))] [(.double (FP.dadd (FP.i2d p3) (0 : UInt64))), (.ref uE)])) _
          refine XS.iload X6.here hx rfl (hb hby at_218) rfl ?_
          exact k9
        obtain ⟨cq8, kq8, q8a, q8b, q8c⟩ := isOf hZ e6 ExaE
        obtain ⟨_, _, ⟨T8, L8, k8, n8⟩, -, X8, ⟨Lc8, hQ8, l8, y8, z8⟩, st8⟩ := X6.virtualBack hx (y := (⟨"com/example/cohortwise/cohortwise/plan/Attendance", "exceeds", "(DI)Z"⟩ : MethodName)) (z := (⟨"com/example/cohortwise/cohortwise/plan/Attendance", "exceeds", "(DI)Z"⟩ : MethodName)) hown (mvT hZ (hw _ (List.mem_of_getElem? (i := 5) rfl))) (mvT hZ (hw _ (List.mem_of_getElem? (i := 6) rfl))) (notFace_of_selects (args := #[]) (mvT hZ (hw _ (List.mem_of_getElem? (i := 8) rfl)))) (mvT hZ (hw _ (List.mem_of_getElem? (i := 8) rfl))) (mvT hZ (hw _ (List.mem_of_getElem? (i := 7) rfl))) (by decide) (backOf (W := 0) (rm1 l Z a0 hw [] uE (FP.dadd (FP.i2d p3) (0 : UInt64)) cc uA h0 n0 Z0 StaA) hZ (hw _ (List.mem_of_getElem? (i := 9) rfl)) (hw _ (List.mem_of_getElem? (i := 1) rfl)) (by decide) (by decide)) q8a q8c (g := (mkF m 220 #[.val (.int p1), .val (.int p2), .val (.int p3), .val (.int p4), .val (.int (1 : Int32)), .val (.ref uE), .val (.int (0 : Int32)), .val (.int (0 : Int32)), .val (.int (((p4 >>> ((2 : Int32) &&& 31)) &&& (63 : Int32)) - (32 : Int32))), .val (.int cc), .val (.double (FP.dadd (FP.i2d p3) (0 : UInt64))), .second, .val (.int (if cc < p3 then (1 : Int32) else (0 : Int32)))] [(.int cc), (.double (FP.dadd (FP.i2d p3) (0 : UInt64))), (.ref uE)])) rfl (by rw [hml]; rfl) (Steps.refl _) (argsL := [(.double (FP.dadd (FP.i2d p3) (0 : UInt64))), (.int cc)]) (rest := []) (lenOf pd__28DI_29Z rfl) rfl (by show 2 * 0 + _ ≤ _; exact Nat.le_of_eq rfl) (hb hby at_220) (fun _ _ => ⟨rfl, e6, (by decide : 0 + 0 ≤ _), (by decide : 0 + 0 ≤ _)⟩)
        dsimp only [Pt.U, Pt.locs, Pt.cells, Pt.slots] at X8 l8 y8 z8 st8 hQ8
        subst l8 y8 z8
        obtain ⟨rfl, N8q, e8q⟩ := hQ8
        have N8 := Fr.app N0 N8q
        refine go (T8.setTop (mkF m 223 #[.val (.int p1), .val (.int p2), .val (.int p3), .val (.int p4), .val (.int (1 : Int32)), .val (.ref uE), .val (.int (0 : Int32)), .val (.int (0 : Int32)), .val (.int (((p4 >>> ((2 : Int32) &&& 31)) &&& (63 : Int32)) - (32 : Int32))), .val (.int cc), .val (.double (FP.dadd (FP.i2d p3) (0 : UInt64))), .second, .val (.int (if cc < p3 then (1 : Int32) else (0 : Int32)))] [(.int (if uE = uA then own_excA (FP.dadd (FP.i2d p3) (0 : UInt64)) cc else own_excE (FP.dadd (FP.i2d p3) (0 : UInt64)) cc))])) _ (fun t9 k9 => st8.trans k9) ?_
        rw [if_neg hne]
        refine go (T8.setTop (mkF m 225 #[.val (.int p1), .val (.int p2), .val (.int p3), .val (.int p4), .val (.int (1 : Int32)), .val (.ref uE), .val (.int (0 : Int32)), .val (.int (0 : Int32)), .val (.int (((p4 >>> ((2 : Int32) &&& 31)) &&& (63 : Int32)) - (32 : Int32))), .val (.int cc), .val (.double (FP.dadd (FP.i2d p3) (0 : UInt64))), .second, .val (.int (if cc < p3 then (1 : Int32) else (0 : Int32)))] [(.int (if cc < p3 then (1 : Int32) else (0 : Int32))), (.int (own_excE (FP.dadd (FP.i2d p3) (0 : UInt64)) cc))])) _ (fun t9 k9 => ?_) ?_
        · show Steps p.tables e below (T8.setTop (mkF m 223 #[.val (.int p1), .val (.int p2), .val (.int p3), .val (.int p4), .val (.int (1 : Int32)), .val (.ref uE), .val (.int (0 : Int32)), .val (.int (0 : Int32)), .val (.int (((p4 >>> ((2 : Int32) &&& 31)) &&& (63 : Int32)) - (32 : Int32))), .val (.int cc), .val (.double (FP.dadd (FP.i2d p3) (0 : UInt64))), .second, .val (.int (if cc < p3 then (1 : Int32) else (0 : Int32)))] [(.int (own_excE (FP.dadd (FP.i2d p3) (0 : UInt64)) cc))])) _
          refine XS.iload X8.here hx rfl (hb hby at_223) rfl ?_
          exact k9
        have hfin : (own_excE (FP.dadd (FP.i2d p3) (0 : UInt64)) cc) = (if cc < p3 then (1 : Int32) else (0 : Int32)) := own_absE hcc.1 hcc.2
        refine go (T8.setTop (mkF m 233 #[.val (.int p1), .val (.int p2), .val (.int p3), .val (.int p4), .val (.int (1 : Int32)), .val (.ref uE), .val (.int (0 : Int32)), .val (.int (0 : Int32)), .val (.int (((p4 >>> ((2 : Int32) &&& 31)) &&& (63 : Int32)) - (32 : Int32))), .val (.int cc), .val (.double (FP.dadd (FP.i2d p3) (0 : UInt64))), .second, .val (.int (if cc < p3 then (1 : Int32) else (0 : Int32)))] [(.int (1 : Int32))])) _ (fun t9 k9 => ?_) ?_
        · show Steps p.tables e below (T8.setTop (mkF m 225 #[.val (.int p1), .val (.int p2), .val (.int p3), .val (.int p4), .val (.int (1 : Int32)), .val (.ref uE), .val (.int (0 : Int32)), .val (.int (0 : Int32)), .val (.int (((p4 >>> ((2 : Int32) &&& 31)) &&& (63 : Int32)) - (32 : Int32))), .val (.int cc), .val (.double (FP.dadd (FP.i2d p3) (0 : UInt64))), .second, .val (.int (if cc < p3 then (1 : Int32) else (0 : Int32)))] [(.int (if cc < p3 then (1 : Int32) else (0 : Int32))), (.int (own_excE (FP.dadd (FP.i2d p3) (0 : UInt64)) cc))])) _
          refine XS.icmpNo X8.here hx rfl (hb hby at_225) rfl (teq hfin).2 ?_
          show Steps p.tables e below (T8.setTop (mkF m 228 #[.val (.int p1), .val (.int p2), .val (.int p3), .val (.int p4), .val (.int (1 : Int32)), .val (.ref uE), .val (.int (0 : Int32)), .val (.int (0 : Int32)), .val (.int (((p4 >>> ((2 : Int32) &&& 31)) &&& (63 : Int32)) - (32 : Int32))), .val (.int cc), .val (.double (FP.dadd (FP.i2d p3) (0 : UInt64))), .second, .val (.int (if cc < p3 then (1 : Int32) else (0 : Int32)))] [])) _
          refine XS.iconst X8.here hx rfl (hb hby at_228) ?_
          show Steps p.tables e below (T8.setTop (mkF m 229 #[.val (.int p1), .val (.int p2), .val (.int p3), .val (.int p4), .val (.int (1 : Int32)), .val (.ref uE), .val (.int (0 : Int32)), .val (.int (0 : Int32)), .val (.int (((p4 >>> ((2 : Int32) &&& 31)) &&& (63 : Int32)) - (32 : Int32))), .val (.int cc), .val (.double (FP.dadd (FP.i2d p3) (0 : UInt64))), .second, .val (.int (if cc < p3 then (1 : Int32) else (0 : Int32)))] [(.int (1 : Int32))])) _
          refine XS.goto X8.here hx rfl (pc0 := 229) (pc' := 233) rfl (hb hby at_229) (by decide) (by decide) ?_
          exact k9
        obtain ⟨fs, hr, hrun, hended, hW, hsame⟩ := X8.leave (v := some (.int (1 : Int32))) (fun h => by rw [Bd.returns] at h; cases h) hlk
        refine fin _ ⟨_, _, retN X8 hx (t := .boolean) Bd.returns (by simp) (hb hby at_233) hr, hrun, hended, _, _, rfl, ?_, ⟨_, rfl⟩, hW, hsame.mono (by decide) (by decide)⟩
        show Q0 Z p1 p2 p3 p4 h0 n0 _ T8.heap _
        exact ⟨rfl, N8⟩
      · refine go (T6.setTop (mkF m 165 #[.val (.int p1), .val (.int p2), .val (.int p3), .val (.int p4), .val (.int (1 : Int32)), .val (.ref uE), .val (.int (0 : Int32)), .val (.int (1 : Int32)), .val (.int (((p4 >>> ((2 : Int32) &&& 31)) &&& (63 : Int32)) - (32 : Int32))), .val (.int ((p2 &&& (2147483647 : Int32)) % (500000 : Int32))), .unset, .unset, .unset] [])) _ (fun t9 k9 => ?_) ?_
        · show Steps p.tables e below (T6.setTop (mkF m 45 #[.val (.int p1), .val (.int p2), .val (.int p3), .val (.int p4), .val (.int (1 : Int32)), .val (.ref uE), .val (.int (0 : Int32)), .unset, .unset, .unset, .unset, .unset, .unset] [(.int (p4 &&& (2 : Int32)))])) _
          refine XS.ifNo X6.here hx rfl (hb hby at_45) rfl ((if0 _ _).trans (feq hh).1) ?_
          show Steps p.tables e below (T6.setTop (mkF m 48 #[.val (.int p1), .val (.int p2), .val (.int p3), .val (.int p4), .val (.int (1 : Int32)), .val (.ref uE), .val (.int (0 : Int32)), .unset, .unset, .unset, .unset, .unset, .unset] [])) _
          refine XS.iconst X6.here hx rfl (hb hby at_48) ?_
          show Steps p.tables e below (T6.setTop (mkF m 49 #[.val (.int p1), .val (.int p2), .val (.int p3), .val (.int p4), .val (.int (1 : Int32)), .val (.ref uE), .val (.int (0 : Int32)), .unset, .unset, .unset, .unset, .unset, .unset] [(.int (1 : Int32))])) _
          refine XS.goto X6.here hx rfl (pc0 := 49) (pc' := 53) rfl (hb hby at_49) (by decide) (by decide) ?_
          show Steps p.tables e below (T6.setTop (mkF m 53 #[.val (.int p1), .val (.int p2), .val (.int p3), .val (.int p4), .val (.int (1 : Int32)), .val (.ref uE), .val (.int (0 : Int32)), .unset, .unset, .unset, .unset, .unset, .unset] [(.int (1 : Int32))])) _
          refine XS.istore X6.here hx rfl (hb hby at_53) rfl (l' := #[.val (.int p1), .val (.int p2), .val (.int p3), .val (.int p4), .val (.int (1 : Int32)), .val (.ref uE), .val (.int (0 : Int32)), .val (.int (1 : Int32)), .unset, .unset, .unset, .unset, .unset]) rfl ?_
          show Steps p.tables e below (T6.setTop (mkF m 55 #[.val (.int p1), .val (.int p2), .val (.int p3), .val (.int p4), .val (.int (1 : Int32)), .val (.ref uE), .val (.int (0 : Int32)), .val (.int (1 : Int32)), .unset, .unset, .unset, .unset, .unset] [])) _
          refine XS.iloadN X6.here hx rfl (hb hby at_55) rfl ?_
          show Steps p.tables e below (T6.setTop (mkF m 56 #[.val (.int p1), .val (.int p2), .val (.int p3), .val (.int p4), .val (.int (1 : Int32)), .val (.ref uE), .val (.int (0 : Int32)), .val (.int (1 : Int32)), .unset, .unset, .unset, .unset, .unset] [(.int p4)])) _
          refine XS.iconst X6.here hx rfl (hb hby at_56) ?_
          show Steps p.tables e below (T6.setTop (mkF m 57 #[.val (.int p1), .val (.int p2), .val (.int p3), .val (.int p4), .val (.int (1 : Int32)), .val (.ref uE), .val (.int (0 : Int32)), .val (.int (1 : Int32)), .unset, .unset, .unset, .unset, .unset] [(.int (2 : Int32)), (.int p4)])) _
          refine XS.ishr X6.here hx rfl (hb hby at_57) rfl ?_
          show Steps p.tables e below (T6.setTop (mkF m 58 #[.val (.int p1), .val (.int p2), .val (.int p3), .val (.int p4), .val (.int (1 : Int32)), .val (.ref uE), .val (.int (0 : Int32)), .val (.int (1 : Int32)), .unset, .unset, .unset, .unset, .unset] [(.int (p4 >>> ((2 : Int32) &&& 31)))])) _
          refine XS.bipush X6.here hx rfl (hb hby at_58) ?_
          show Steps p.tables e below (T6.setTop (mkF m 60 #[.val (.int p1), .val (.int p2), .val (.int p3), .val (.int p4), .val (.int (1 : Int32)), .val (.ref uE), .val (.int (0 : Int32)), .val (.int (1 : Int32)), .unset, .unset, .unset, .unset, .unset] [(.int (63 : Int32)), (.int (p4 >>> ((2 : Int32) &&& 31)))])) _
          refine XS.iand X6.here hx rfl (hb hby at_60) rfl ?_
          show Steps p.tables e below (T6.setTop (mkF m 61 #[.val (.int p1), .val (.int p2), .val (.int p3), .val (.int p4), .val (.int (1 : Int32)), .val (.ref uE), .val (.int (0 : Int32)), .val (.int (1 : Int32)), .unset, .unset, .unset, .unset, .unset] [(.int ((p4 >>> ((2 : Int32) &&& 31)) &&& (63 : Int32)))])) _
          refine XS.bipush X6.here hx rfl (hb hby at_61) ?_
          show Steps p.tables e below (T6.setTop (mkF m 63 #[.val (.int p1), .val (.int p2), .val (.int p3), .val (.int p4), .val (.int (1 : Int32)), .val (.ref uE), .val (.int (0 : Int32)), .val (.int (1 : Int32)), .unset, .unset, .unset, .unset, .unset] [(.int (32 : Int32)), (.int ((p4 >>> ((2 : Int32) &&& 31)) &&& (63 : Int32)))])) _
          refine XS.isub X6.here hx rfl (hb hby at_63) rfl ?_
          show Steps p.tables e below (T6.setTop (mkF m 64 #[.val (.int p1), .val (.int p2), .val (.int p3), .val (.int p4), .val (.int (1 : Int32)), .val (.ref uE), .val (.int (0 : Int32)), .val (.int (1 : Int32)), .unset, .unset, .unset, .unset, .unset] [(.int (((p4 >>> ((2 : Int32) &&& 31)) &&& (63 : Int32)) - (32 : Int32)))])) _
          refine XS.istore X6.here hx rfl (hb hby at_64) rfl (l' := #[.val (.int p1), .val (.int p2), .val (.int p3), .val (.int p4), .val (.int (1 : Int32)), .val (.ref uE), .val (.int (0 : Int32)), .val (.int (1 : Int32)), .val (.int (((p4 >>> ((2 : Int32) &&& 31)) &&& (63 : Int32)) - (32 : Int32))), .unset, .unset, .unset, .unset]) rfl ?_
          show Steps p.tables e below (T6.setTop (mkF m 66 #[.val (.int p1), .val (.int p2), .val (.int p3), .val (.int p4), .val (.int (1 : Int32)), .val (.ref uE), .val (.int (0 : Int32)), .val (.int (1 : Int32)), .val (.int (((p4 >>> ((2 : Int32) &&& 31)) &&& (63 : Int32)) - (32 : Int32))), .unset, .unset, .unset, .unset] [])) _
          refine XS.iload X6.here hx rfl (hb hby at_66) rfl ?_
          show Steps p.tables e below (T6.setTop (mkF m 68 #[.val (.int p1), .val (.int p2), .val (.int p3), .val (.int p4), .val (.int (1 : Int32)), .val (.ref uE), .val (.int (0 : Int32)), .val (.int (1 : Int32)), .val (.int (((p4 >>> ((2 : Int32) &&& 31)) &&& (63 : Int32)) - (32 : Int32))), .unset, .unset, .unset, .unset] [(.int (0 : Int32))])) _
          refine XS.ifYes X6.here hx rfl (pc0 := 68) (pc' := 147) rfl (hb hby at_68) rfl ((if0 _ _).trans (teq (by decide : (0 : Int32) = (0 : Int32))).1) (by decide) (by decide) ?_
          show Steps p.tables e below (T6.setTop (mkF m 147 #[.val (.int p1), .val (.int p2), .val (.int p3), .val (.int p4), .val (.int (1 : Int32)), .val (.ref uE), .val (.int (0 : Int32)), .val (.int (1 : Int32)), .val (.int (((p4 >>> ((2 : Int32) &&& 31)) &&& (63 : Int32)) - (32 : Int32))), .unset, .unset, .unset, .unset] [])) _
          refine XS.iload X6.here hx rfl (hb hby at_147) rfl ?_
          show Steps p.tables e below (T6.setTop (mkF m 149 #[.val (.int p1), .val (.int p2), .val (.int p3), .val (.int p4), .val (.int (1 : Int32)), .val (.ref uE), .val (.int (0 : Int32)), .val (.int (1 : Int32)), .val (.int (((p4 >>> ((2 : Int32) &&& 31)) &&& (63 : Int32)) - (32 : Int32))), .unset, .unset, .unset, .unset] [(.int (1 : Int32))])) _
          refine XS.ifNo X6.here hx rfl (hb hby at_149) rfl ((if0 _ _).trans (feq (by decide : ¬ (1 : Int32) = (0 : Int32))).1) ?_
          show Steps p.tables e below (T6.setTop (mkF m 152 #[.val (.int p1), .val (.int p2), .val (.int p3), .val (.int p4), .val (.int (1 : Int32)), .val (.ref uE), .val (.int (0 : Int32)), .val (.int (1 : Int32)), .val (.int (((p4 >>> ((2 : Int32) &&& 31)) &&& (63 : Int32)) - (32 : Int32))), .unset, .unset, .unset, .unset] [])) _
          refine XS.iloadN X6.here hx rfl (hb hby at_152) rfl ?_
          show Steps p.tables e below (T6.setTop (mkF m 153 #[.val (.int p1), .val (.int p2), .val (.int p3), .val (.int p4), .val (.int (1 : Int32)), .val (.ref uE), .val (.int (0 : Int32)), .val (.int (1 : Int32)), .val (.int (((p4 >>> ((2 : Int32) &&& 31)) &&& (63 : Int32)) - (32 : Int32))), .unset, .unset, .unset, .unset] [(.int p2)])) _
          refine X6.ldcInt hx hown (mvT hZ (hw _ (List.mem_of_getElem? (i := 14) rfl))) (g := (mkF m 153 #[.val (.int p1), .val (.int p2), .val (.int p3), .val (.int p4), .val (.int (1 : Int32)), .val (.ref uE), .val (.int (0 : Int32)), .val (.int (1 : Int32)), .val (.int (((p4 >>> ((2 : Int32) &&& 31)) &&& (63 : Int32)) - (32 : Int32))), .unset, .unset, .unset, .unset] [(.int p2)])) rfl (hb hby at_153) _ ?_
          show Steps p.tables e below (T6.setTop (mkF m 155 #[.val (.int p1), .val (.int p2), .val (.int p3), .val (.int p4), .val (.int (1 : Int32)), .val (.ref uE), .val (.int (0 : Int32)), .val (.int (1 : Int32)), .val (.int (((p4 >>> ((2 : Int32) &&& 31)) &&& (63 : Int32)) - (32 : Int32))), .unset, .unset, .unset, .unset] [(.int (2147483647 : Int32)), (.int p2)])) _
          refine XS.iand X6.here hx rfl (hb hby at_155) rfl ?_
          show Steps p.tables e below (T6.setTop (mkF m 156 #[.val (.int p1), .val (.int p2), .val (.int p3), .val (.int p4), .val (.int (1 : Int32)), .val (.ref uE), .val (.int (0 : Int32)), .val (.int (1 : Int32)), .val (.int (((p4 >>> ((2 : Int32) &&& 31)) &&& (63 : Int32)) - (32 : Int32))), .unset, .unset, .unset, .unset] [(.int (p2 &&& (2147483647 : Int32)))])) _
          refine X6.ldcInt hx hown (mvT hZ (hw _ (List.mem_of_getElem? (i := 15) rfl))) (g := (mkF m 156 #[.val (.int p1), .val (.int p2), .val (.int p3), .val (.int p4), .val (.int (1 : Int32)), .val (.ref uE), .val (.int (0 : Int32)), .val (.int (1 : Int32)), .val (.int (((p4 >>> ((2 : Int32) &&& 31)) &&& (63 : Int32)) - (32 : Int32))), .unset, .unset, .unset, .unset] [(.int (p2 &&& (2147483647 : Int32)))])) rfl (hb hby at_156) _ ?_
          show Steps p.tables e below (T6.setTop (mkF m 158 #[.val (.int p1), .val (.int p2), .val (.int p3), .val (.int p4), .val (.int (1 : Int32)), .val (.ref uE), .val (.int (0 : Int32)), .val (.int (1 : Int32)), .val (.int (((p4 >>> ((2 : Int32) &&& 31)) &&& (63 : Int32)) - (32 : Int32))), .unset, .unset, .unset, .unset] [(.int (500000 : Int32)), (.int (p2 &&& (2147483647 : Int32)))])) _
          refine iremM X6 hx rfl (hb hby at_158) rfl (by decide) ?_
          show Steps p.tables e below (T6.setTop (mkF m 159 #[.val (.int p1), .val (.int p2), .val (.int p3), .val (.int p4), .val (.int (1 : Int32)), .val (.ref uE), .val (.int (0 : Int32)), .val (.int (1 : Int32)), .val (.int (((p4 >>> ((2 : Int32) &&& 31)) &&& (63 : Int32)) - (32 : Int32))), .unset, .unset, .unset, .unset] [(.int ((p2 &&& (2147483647 : Int32)) % (500000 : Int32)))])) _
          refine XS.goto X6.here hx rfl (pc0 := 159) (pc' := 163) rfl (hb hby at_159) (by decide) (by decide) ?_
          show Steps p.tables e below (T6.setTop (mkF m 163 #[.val (.int p1), .val (.int p2), .val (.int p3), .val (.int p4), .val (.int (1 : Int32)), .val (.ref uE), .val (.int (0 : Int32)), .val (.int (1 : Int32)), .val (.int (((p4 >>> ((2 : Int32) &&& 31)) &&& (63 : Int32)) - (32 : Int32))), .unset, .unset, .unset, .unset] [(.int ((p2 &&& (2147483647 : Int32)) % (500000 : Int32)))])) _
          refine XS.istore X6.here hx rfl (hb hby at_163) rfl (l' := #[.val (.int p1), .val (.int p2), .val (.int p3), .val (.int p4), .val (.int (1 : Int32)), .val (.ref uE), .val (.int (0 : Int32)), .val (.int (1 : Int32)), .val (.int (((p4 >>> ((2 : Int32) &&& 31)) &&& (63 : Int32)) - (32 : Int32))), .val (.int ((p2 &&& (2147483647 : Int32)) % (500000 : Int32))), .unset, .unset, .unset]) rfl ?_
          exact k9
        have hcc := own_c500 p2
        generalize hce : ((p2 &&& (2147483647 : Int32)) % (500000 : Int32)) = cc
        rw [hce] at hcc
        refine go (T6.setTop (mkF m 182 #[.val (.int p1), .val (.int p2), .val (.int p3), .val (.int p4), .val (.int (1 : Int32)), .val (.ref uE), .val (.int (0 : Int32)), .val (.int (1 : Int32)), .val (.int (((p4 >>> ((2 : Int32) &&& 31)) &&& (63 : Int32)) - (32 : Int32))), .val (.int cc), .val (.double (FP.dadd (FP.i2d p3) (4602678819172646912 : UInt64))), .second, .unset] [])) _ (fun t9 k9 => ?_) ?_
        · show Steps p.tables e below (T6.setTop (mkF m 165 #[.val (.int p1), .val (.int p2), .val (.int p3), .val (.int p4), .val (.int (1 : Int32)), .val (.ref uE), .val (.int (0 : Int32)), .val (.int (1 : Int32)), .val (.int (((p4 >>> ((2 : Int32) &&& 31)) &&& (63 : Int32)) - (32 : Int32))), .val (.int cc), .unset, .unset, .unset] [])) _
          refine XS.iloadN X6.here hx rfl (hb hby at_165) rfl ?_
          show Steps p.tables e below (T6.setTop (mkF m 166 #[.val (.int p1), .val (.int p2), .val (.int p3), .val (.int p4), .val (.int (1 : Int32)), .val (.ref uE), .val (.int (0 : Int32)), .val (.int (1 : Int32)), .val (.int (((p4 >>> ((2 : Int32) &&& 31)) &&& (63 : Int32)) - (32 : Int32))), .val (.int cc), .unset, .unset, .unset] [(.int p3)])) _
          refine XS.i2dS X6.here hx rfl (hb hby at_166) rfl rfl ?_
          show Steps p.tables e below (T6.setTop (mkF m 167 #[.val (.int p1), .val (.int p2), .val (.int p3), .val (.int p4), .val (.int (1 : Int32)), .val (.ref uE), .val (.int (0 : Int32)), .val (.int (1 : Int32)), .val (.int (((p4 >>> ((2 : Int32) &&& 31)) &&& (63 : Int32)) - (32 : Int32))), .val (.int cc), .unset, .unset, .unset] [(.double (FP.i2d p3))])) _
          refine XS.iload X6.here hx rfl (hb hby at_167) rfl ?_
          show Steps p.tables e below (T6.setTop (mkF m 169 #[.val (.int p1), .val (.int p2), .val (.int p3), .val (.int p4), .val (.int (1 : Int32)), .val (.ref uE), .val (.int (0 : Int32)), .val (.int (1 : Int32)), .val (.int (((p4 >>> ((2 : Int32) &&& 31)) &&& (63 : Int32)) - (32 : Int32))), .val (.int cc), .unset, .unset, .unset] [(.int (1 : Int32)), (.double (FP.i2d p3))])) _
          refine XS.ifNo X6.here hx rfl (hb hby at_169) rfl ((if0 _ _).trans (feq (by decide : ¬ (1 : Int32) = (0 : Int32))).1) ?_
          show Steps p.tables e below (T6.setTop (mkF m 172 #[.val (.int p1), .val (.int p2), .val (.int p3), .val (.int p4), .val (.int (1 : Int32)), .val (.ref uE), .val (.int (0 : Int32)), .val (.int (1 : Int32)), .val (.int (((p4 >>> ((2 : Int32) &&& 31)) &&& (63 : Int32)) - (32 : Int32))), .val (.int cc), .unset, .unset, .unset] [(.double (FP.i2d p3))])) _
          refine X6.ldc2DoubleC hx hown (mvT hZ (hw _ (List.mem_of_getElem? (i := 11) rfl))) (g := (mkF m 172 #[.val (.int p1), .val (.int p2), .val (.int p3), .val (.int p4), .val (.int (1 : Int32)), .val (.ref uE), .val (.int (0 : Int32)), .val (.int (1 : Int32)), .val (.int (((p4 >>> ((2 : Int32) &&& 31)) &&& (63 : Int32)) - (32 : Int32))), .val (.int cc), .unset, .unset, .unset] [(.double (FP.i2d p3))])) rfl (hb hby at_172) _ ?_
          show Steps p.tables e below (T6.setTop (mkF m 175 #[.val (.int p1), .val (.int p2), .val (.int p3), .val (.int p4), .val (.int (1 : Int32)), .val (.ref uE), .val (.int (0 : Int32)), .val (.int (1 : Int32)), .val (.int (((p4 >>> ((2 : Int32) &&& 31)) &&& (63 : Int32)) - (32 : Int32))), .val (.int cc), .unset, .unset, .unset] [(.double (4602678819172646912 : UInt64)), (.double (FP.i2d p3))])) _
          refine XS.goto X6.here hx rfl (pc0 := 175) (pc' := 179) rfl (hb hby at_175) (by decide) (by decide) ?_
          show Steps p.tables e below (T6.setTop (mkF m 179 #[.val (.int p1), .val (.int p2), .val (.int p3), .val (.int p4), .val (.int (1 : Int32)), .val (.ref uE), .val (.int (0 : Int32)), .val (.int (1 : Int32)), .val (.int (((p4 >>> ((2 : Int32) &&& 31)) &&& (63 : Int32)) - (32 : Int32))), .val (.int cc), .unset, .unset, .unset] [(.double (4602678819172646912 : UInt64)), (.double (FP.i2d p3))])) _
          refine XS.daddS X6.here hx rfl (hb hby at_179) rfl (own_loh_nn p3) rfl ?_
          show Steps p.tables e below (T6.setTop (mkF m 180 #[.val (.int p1), .val (.int p2), .val (.int p3), .val (.int p4), .val (.int (1 : Int32)), .val (.ref uE), .val (.int (0 : Int32)), .val (.int (1 : Int32)), .val (.int (((p4 >>> ((2 : Int32) &&& 31)) &&& (63 : Int32)) - (32 : Int32))), .val (.int cc), .unset, .unset, .unset] [(.double (FP.dadd (FP.i2d p3) (4602678819172646912 : UInt64)))])) _
          refine XS.dstore X6.here hx rfl (hb hby at_180) rfl (l' := #[.val (.int p1), .val (.int p2), .val (.int p3), .val (.int p4), .val (.int (1 : Int32)), .val (.ref uE), .val (.int (0 : Int32)), .val (.int (1 : Int32)), .val (.int (((p4 >>> ((2 : Int32) &&& 31)) &&& (63 : Int32)) - (32 : Int32))), .val (.int cc), .val (.double (FP.dadd (FP.i2d p3) (4602678819172646912 : UInt64))), .second, .unset]) rfl ?_
          exact k9
        refine go (T6.setTop (mkF m 212 #[.val (.int p1), .val (.int p2), .val (.int p3), .val (.int p4), .val (.int (1 : Int32)), .val (.ref uE), .val (.int (0 : Int32)), .val (.int (1 : Int32)), .val (.int (((p4 >>> ((2 : Int32) &&& 31)) &&& (63 : Int32)) - (32 : Int32))), .val (.int cc), .val (.double (FP.dadd (FP.i2d p3) (4602678819172646912 : UInt64))), .second, .unset] [(.int (if p3 < cc then (0 : Int32) else (1 : Int32)))])) _ (fun t9 k9 => ?_) ?_
        · show Steps p.tables e below (T6.setTop (mkF m 182 #[.val (.int p1), .val (.int p2), .val (.int p3), .val (.int p4), .val (.int (1 : Int32)), .val (.ref uE), .val (.int (0 : Int32)), .val (.int (1 : Int32)), .val (.int (((p4 >>> ((2 : Int32) &&& 31)) &&& (63 : Int32)) - (32 : Int32))), .val (.int cc), .val (.double (FP.dadd (FP.i2d p3) (4602678819172646912 : UInt64))), .second, .unset] [])) _
          refine XS.iload X6.here hx rfl (hb hby at_182) rfl ?_
          show Steps p.tables e below (T6.setTop (mkF m 184 #[.val (.int p1), .val (.int p2), .val (.int p3), .val (.int p4), .val (.int (1 : Int32)), .val (.ref uE), .val (.int (0 : Int32)), .val (.int (1 : Int32)), .val (.int (((p4 >>> ((2 : Int32) &&& 31)) &&& (63 : Int32)) - (32 : Int32))), .val (.int cc), .val (.double (FP.dadd (FP.i2d p3) (4602678819172646912 : UInt64))), .second, .unset] [(.int (1 : Int32))])) _
          refine XS.ifNo X6.here hx rfl (hb hby at_184) rfl ((if0 _ _).trans (feq (by decide : ¬ (1 : Int32) = (0 : Int32))).1) ?_
          show Steps p.tables e below (T6.setTop (mkF m 187 #[.val (.int p1), .val (.int p2), .val (.int p3), .val (.int p4), .val (.int (1 : Int32)), .val (.ref uE), .val (.int (0 : Int32)), .val (.int (1 : Int32)), .val (.int (((p4 >>> ((2 : Int32) &&& 31)) &&& (63 : Int32)) - (32 : Int32))), .val (.int cc), .val (.double (FP.dadd (FP.i2d p3) (4602678819172646912 : UInt64))), .second, .unset] [])) _
          refine XS.iloadN X6.here hx rfl (hb hby at_187) rfl ?_
          show Steps p.tables e below (T6.setTop (mkF m 188 #[.val (.int p1), .val (.int p2), .val (.int p3), .val (.int p4), .val (.int (1 : Int32)), .val (.ref uE), .val (.int (0 : Int32)), .val (.int (1 : Int32)), .val (.int (((p4 >>> ((2 : Int32) &&& 31)) &&& (63 : Int32)) - (32 : Int32))), .val (.int cc), .val (.double (FP.dadd (FP.i2d p3) (4602678819172646912 : UInt64))), .second, .unset] [(.int p3)])) _
          refine XS.iload X6.here hx rfl (hb hby at_188) rfl ?_
          by_cases h190_1 : p3 < cc
          · try (simp only [if_pos h190_1] at k9)
            show Steps p.tables e below (T6.setTop (mkF m 190 #[.val (.int p1), .val (.int p2), .val (.int p3), .val (.int p4), .val (.int (1 : Int32)), .val (.ref uE), .val (.int (0 : Int32)), .val (.int (1 : Int32)), .val (.int (((p4 >>> ((2 : Int32) &&& 31)) &&& (63 : Int32)) - (32 : Int32))), .val (.int cc), .val (.double (FP.dadd (FP.i2d p3) (4602678819172646912 : UInt64))), .second, .unset] [(.int cc), (.int p3)])) _
            refine XS.icmpYes X6.here hx rfl (pc0 := 190) (pc' := 197) rfl (hb hby at_190) rfl (tlt h190_1).1 (by decide) (by decide) ?_
            show Steps p.tables e below (T6.setTop (mkF m 197 #[.val (.int p1), .val (.int p2), .val (.int p3), .val (.int p4), .val (.int (1 : Int32)), .val (.ref uE), .val (.int (0 : Int32)), .val (.int (1 : Int32)), .val (.int (((p4 >>> ((2 : Int32) &&& 31)) &&& (63 : Int32)) - (32 : Int32))), .val (.int cc), .val (.double (FP.dadd (FP.i2d p3) (4602678819172646912 : UInt64))), .second, .unset] [])) _
            refine XS.iconst X6.here hx rfl (hb hby at_197) ?_
            show Steps p.tables e below (T6.setTop (mkF m 198 #[.val (.int p1), .val (.int p2), .val (.int p3), .val (.int p4), .val (.int (1 : Int32)), .val (.ref uE), .val (.int (0 : Int32)), .val (.int (1 : Int32)), .val (.int (((p4 >>> ((2 : Int32) &&& 31)) &&& (63 : Int32)) - (32 : Int32))), .val (.int cc), .val (.double (FP.dadd (FP.i2d p3) (4602678819172646912 : UInt64))), .second, .unset] [(.int (0 : Int32))])) _
            refine XS.goto X6.here hx rfl (pc0 := 198) (pc' := 212) rfl (hb hby at_198) (by decide) (by decide) ?_
            exact k9
          · try (simp only [if_neg h190_1] at k9)
            show Steps p.tables e below (T6.setTop (mkF m 190 #[.val (.int p1), .val (.int p2), .val (.int p3), .val (.int p4), .val (.int (1 : Int32)), .val (.ref uE), .val (.int (0 : Int32)), .val (.int (1 : Int32)), .val (.int (((p4 >>> ((2 : Int32) &&& 31)) &&& (63 : Int32)) - (32 : Int32))), .val (.int cc), .val (.double (FP.dadd (FP.i2d p3) (4602678819172646912 : UInt64))), .second, .unset] [(.int cc), (.int p3)])) _
            refine XS.icmpNo X6.here hx rfl (hb hby at_190) rfl (flt h190_1).1 ?_
            show Steps p.tables e below (T6.setTop (mkF m 193 #[.val (.int p1), .val (.int p2), .val (.int p3), .val (.int p4), .val (.int (1 : Int32)), .val (.ref uE), .val (.int (0 : Int32)), .val (.int (1 : Int32)), .val (.int (((p4 >>> ((2 : Int32) &&& 31)) &&& (63 : Int32)) - (32 : Int32))), .val (.int cc), .val (.double (FP.dadd (FP.i2d p3) (4602678819172646912 : UInt64))), .second, .unset] [])) _
            refine XS.iconst X6.here hx rfl (hb hby at_193) ?_
            show Steps p.tables e below (T6.setTop (mkF m 194 #[.val (.int p1), .val (.int p2), .val (.int p3), .val (.int p4), .val (.int (1 : Int32)), .val (.ref uE), .val (.int (0 : Int32)), .val (.int (1 : Int32)), .val (.int (((p4 >>> ((2 : Int32) &&& 31)) &&& (63 : Int32)) - (32 : Int32))), .val (.int cc), .val (.double (FP.dadd (FP.i2d p3) (4602678819172646912 : UInt64))), .second, .unset] [(.int (1 : Int32))])) _
            refine XS.goto X6.here hx rfl (pc0 := 194) (pc' := 212) rfl (hb hby at_194) (by decide) (by decide) ?_
            exact k9
        refine go (T6.setTop (mkF m 220 #[.val (.int p1), .val (.int p2), .val (.int p3), .val (.int p4), .val (.int (1 : Int32)), .val (.ref uE), .val (.int (0 : Int32)), .val (.int (1 : Int32)), .val (.int (((p4 >>> ((2 : Int32) &&& 31)) &&& (63 : Int32)) - (32 : Int32))), .val (.int cc), .val (.double (FP.dadd (FP.i2d p3) (4602678819172646912 : UInt64))), .second, .val (.int (if p3 < cc then (0 : Int32) else (1 : Int32)))] [(.int cc), (.double (FP.dadd (FP.i2d p3) (4602678819172646912 : UInt64))), (.ref uE)])) _ (fun t9 k9 => ?_) ?_
        · show Steps p.tables e below (T6.setTop (mkF m 212 #[.val (.int p1), .val (.int p2), .val (.int p3), .val (.int p4), .val (.int (1 : Int32)), .val (.ref uE), .val (.int (0 : Int32)), .val (.int (1 : Int32)), .val (.int (((p4 >>> ((2 : Int32) &&& 31)) &&& (63 : Int32)) - (32 : Int32))), .val (.int cc), .val (.double (FP.dadd (FP.i2d p3) (4602678819172646912 : UInt64))), .second, .unset] [(.int (if p3 < cc then (0 : Int32) else (1 : Int32)))])) _
          refine XS.istore X6.here hx rfl (hb hby at_212) rfl (l' := #[.val (.int p1), .val (.int p2), .val (.int p3), .val (.int p4), .val (.int (1 : Int32)), .val (.ref uE), .val (.int (0 : Int32)), .val (.int (1 : Int32)), .val (.int (((p4 >>> ((2 : Int32) &&& 31)) &&& (63 : Int32)) - (32 : Int32))), .val (.int cc), .val (.double (FP.dadd (FP.i2d p3) (4602678819172646912 : UInt64))), .second, .val (.int (if p3 < cc then (0 : Int32) else (1 : Int32)))]) rfl ?_
          show Steps p.tables e below (T6.setTop (mkF m 214 #[.val (.int p1), .val (.int p2), .val (.int p3), .val (.int p4), .val (.int (1 : Int32)), .val (.ref uE), .val (.int (0 : Int32)), .val (.int (1 : Int32)), .val (.int (((p4 >>> ((2 : Int32) &&& 31)) &&& (63 : Int32)) - (32 : Int32))), .val (.int cc), .val (.double (FP.dadd (FP.i2d p3) (4602678819172646912 : UInt64))), .second, .val (.int (if p3 < cc then (0 : Int32) else (1 : Int32)))] [])) _
          refine XS.aload X6.here hx rfl (hb hby at_214) rfl rfl ?_
          show Steps p.tables e below (T6.setTop (mkF m 216 #[.val (.int p1), .val (.int p2), .val (.int p3), .val (.int p4), .val (.int (1 : Int32)), .val (.ref uE), .val (.int (0 : Int32)), .val (.int (1 : Int32)), .val (.int (((p4 >>> ((2 : Int32) &&& 31)) &&& (63 : Int32)) - (32 : Int32))), .val (.int cc), .val (.double (FP.dadd (FP.i2d p3) (4602678819172646912 : UInt64))), .second, .val (.int (if p3 < cc then (0 : Int32) else (1 : Int32)))] [(.ref uE)])) _
          refine XS.dload X6.here hx rfl (hb hby at_216) rfl ?_
          show Steps p.tables e below (T6.setTop (mkF m 218 #[.val (.int p1), .val (.int p2), .val (.int p3), .val (.int p4), .val (.int (1 : Int32)), .val (.ref uE), .val (.int (0 : Int32)), .val (.int (1 : Int32)), .val (.int (((p4 >>> ((2 : Int32) &&& 31)) &&& (63 : Int32)) - (32 : Int32))), .val (.int cc), .val (.double (FP.dadd (FP.i2d p3) (4602678819172646912 : UInt64))), .second, .val (.int (if p3 < cc then (0 : Int32) else (1 : Int32)))] [(.double (FP.dadd (FP.i2d p3) (4602678819172646912 : UInt64))), (.ref uE)])) _
          refine XS.iload X6.here hx rfl (hb hby at_218) rfl ?_
          exact k9
        obtain ⟨cq9, kq9, q9a, q9b, q9c⟩ := isOf hZ e6 ExaE
        obtain ⟨_, _, ⟨T9, L9, k9, n9⟩, -, X9, ⟨Lc9, hQ9, l9, y9, z9⟩, st9⟩ := X6.virtualBack hx (y := (⟨"com/example/cohortwise/cohortwise/plan/Attendance", "exceeds", "(DI)Z"⟩ : MethodName)) (z := (⟨"com/example/cohortwise/cohortwise/plan/Attendance", "exceeds", "(DI)Z"⟩ : MethodName)) hown (mvT hZ (hw _ (List.mem_of_getElem? (i := 5) rfl))) (mvT hZ (hw _ (List.mem_of_getElem? (i := 6) rfl))) (notFace_of_selects (args := #[]) (mvT hZ (hw _ (List.mem_of_getElem? (i := 8) rfl)))) (mvT hZ (hw _ (List.mem_of_getElem? (i := 8) rfl))) (mvT hZ (hw _ (List.mem_of_getElem? (i := 7) rfl))) (by decide) (backOf (W := 0) (rm1 l Z a0 hw [] uE (FP.dadd (FP.i2d p3) (4602678819172646912 : UInt64)) cc uA h0 n0 Z0 StaA) hZ (hw _ (List.mem_of_getElem? (i := 9) rfl)) (hw _ (List.mem_of_getElem? (i := 1) rfl)) (by decide) (by decide)) q9a q9c (g := (mkF m 220 #[.val (.int p1), .val (.int p2), .val (.int p3), .val (.int p4), .val (.int (1 : Int32)), .val (.ref uE), .val (.int (0 : Int32)), .val (.int (1 : Int32)), .val (.int (((p4 >>> ((2 : Int32) &&& 31)) &&& (63 : Int32)) - (32 : Int32))), .val (.int cc), .val (.double (FP.dadd (FP.i2d p3) (4602678819172646912 : UInt64))), .second, .val (.int (if p3 < cc then (0 : Int32) else (1 : Int32)))] [(.int cc), (.double (FP.dadd (FP.i2d p3) (4602678819172646912 : UInt64))), (.ref uE)])) rfl (by rw [hml]; rfl) (Steps.refl _) (argsL := [(.double (FP.dadd (FP.i2d p3) (4602678819172646912 : UInt64))), (.int cc)]) (rest := []) (lenOf pd__28DI_29Z rfl) rfl (by show 2 * 0 + _ ≤ _; exact Nat.le_of_eq rfl) (hb hby at_220) (fun _ _ => ⟨rfl, e6, (by decide : 0 + 0 ≤ _), (by decide : 0 + 0 ≤ _)⟩)
        dsimp only [Pt.U, Pt.locs, Pt.cells, Pt.slots] at X9 l9 y9 z9 st9 hQ9
        subst l9 y9 z9
        obtain ⟨rfl, N9q, e9q⟩ := hQ9
        have N9 := Fr.app N0 N9q
        refine go (T9.setTop (mkF m 223 #[.val (.int p1), .val (.int p2), .val (.int p3), .val (.int p4), .val (.int (1 : Int32)), .val (.ref uE), .val (.int (0 : Int32)), .val (.int (1 : Int32)), .val (.int (((p4 >>> ((2 : Int32) &&& 31)) &&& (63 : Int32)) - (32 : Int32))), .val (.int cc), .val (.double (FP.dadd (FP.i2d p3) (4602678819172646912 : UInt64))), .second, .val (.int (if p3 < cc then (0 : Int32) else (1 : Int32)))] [(.int (if uE = uA then own_excA (FP.dadd (FP.i2d p3) (4602678819172646912 : UInt64)) cc else own_excE (FP.dadd (FP.i2d p3) (4602678819172646912 : UInt64)) cc))])) _ (fun t9 k9 => st9.trans k9) ?_
        rw [if_neg hne]
        refine go (T9.setTop (mkF m 225 #[.val (.int p1), .val (.int p2), .val (.int p3), .val (.int p4), .val (.int (1 : Int32)), .val (.ref uE), .val (.int (0 : Int32)), .val (.int (1 : Int32)), .val (.int (((p4 >>> ((2 : Int32) &&& 31)) &&& (63 : Int32)) - (32 : Int32))), .val (.int cc), .val (.double (FP.dadd (FP.i2d p3) (4602678819172646912 : UInt64))), .second, .val (.int (if p3 < cc then (0 : Int32) else (1 : Int32)))] [(.int (if p3 < cc then (0 : Int32) else (1 : Int32))), (.int (own_excE (FP.dadd (FP.i2d p3) (4602678819172646912 : UInt64)) cc))])) _ (fun t9 k9 => ?_) ?_
        · show Steps p.tables e below (T9.setTop (mkF m 223 #[.val (.int p1), .val (.int p2), .val (.int p3), .val (.int p4), .val (.int (1 : Int32)), .val (.ref uE), .val (.int (0 : Int32)), .val (.int (1 : Int32)), .val (.int (((p4 >>> ((2 : Int32) &&& 31)) &&& (63 : Int32)) - (32 : Int32))), .val (.int cc), .val (.double (FP.dadd (FP.i2d p3) (4602678819172646912 : UInt64))), .second, .val (.int (if p3 < cc then (0 : Int32) else (1 : Int32)))] [(.int (own_excE (FP.dadd (FP.i2d p3) (4602678819172646912 : UInt64)) cc))])) _
          refine XS.iload X9.here hx rfl (hb hby at_223) rfl ?_
          exact k9
        have hfin : (own_excE (FP.dadd (FP.i2d p3) (4602678819172646912 : UInt64)) cc) = (if p3 < cc then (0 : Int32) else (1 : Int32)) := own_abshE hcc.1 hcc.2
        refine go (T9.setTop (mkF m 233 #[.val (.int p1), .val (.int p2), .val (.int p3), .val (.int p4), .val (.int (1 : Int32)), .val (.ref uE), .val (.int (0 : Int32)), .val (.int (1 : Int32)), .val (.int (((p4 >>> ((2 : Int32) &&& 31)) &&& (63 : Int32)) - (32 : Int32))), .val (.int cc), .val (.double (FP.dadd (FP.i2d p3) (4602678819172646912 : UInt64))), .second, .val (.int (if p3 < cc then (0 : Int32) else (1 : Int32)))] [(.int (1 : Int32))])) _ (fun t9 k9 => ?_) ?_
        · show Steps p.tables e below (T9.setTop (mkF m 225 #[.val (.int p1), .val (.int p2), .val (.int p3), .val (.int p4), .val (.int (1 : Int32)), .val (.ref uE), .val (.int (0 : Int32)), .val (.int (1 : Int32)), .val (.int (((p4 >>> ((2 : Int32) &&& 31)) &&& (63 : Int32)) - (32 : Int32))), .val (.int cc), .val (.double (FP.dadd (FP.i2d p3) (4602678819172646912 : UInt64))), .second, .val (.int (if p3 < cc then (0 : Int32) else (1 : Int32)))] [(.int (if p3 < cc then (0 : Int32) else (1 : Int32))), (.int (own_excE (FP.dadd (FP.i2d p3) (4602678819172646912 : UInt64)) cc))])) _
          refine XS.icmpNo X9.here hx rfl (hb hby at_225) rfl (teq hfin).2 ?_
          show Steps p.tables e below (T9.setTop (mkF m 228 #[.val (.int p1), .val (.int p2), .val (.int p3), .val (.int p4), .val (.int (1 : Int32)), .val (.ref uE), .val (.int (0 : Int32)), .val (.int (1 : Int32)), .val (.int (((p4 >>> ((2 : Int32) &&& 31)) &&& (63 : Int32)) - (32 : Int32))), .val (.int cc), .val (.double (FP.dadd (FP.i2d p3) (4602678819172646912 : UInt64))), .second, .val (.int (if p3 < cc then (0 : Int32) else (1 : Int32)))] [])) _
          refine XS.iconst X9.here hx rfl (hb hby at_228) ?_
          show Steps p.tables e below (T9.setTop (mkF m 229 #[.val (.int p1), .val (.int p2), .val (.int p3), .val (.int p4), .val (.int (1 : Int32)), .val (.ref uE), .val (.int (0 : Int32)), .val (.int (1 : Int32)), .val (.int (((p4 >>> ((2 : Int32) &&& 31)) &&& (63 : Int32)) - (32 : Int32))), .val (.int cc), .val (.double (FP.dadd (FP.i2d p3) (4602678819172646912 : UInt64))), .second, .val (.int (if p3 < cc then (0 : Int32) else (1 : Int32)))] [(.int (1 : Int32))])) _
          refine XS.goto X9.here hx rfl (pc0 := 229) (pc' := 233) rfl (hb hby at_229) (by decide) (by decide) ?_
          exact k9
        obtain ⟨fs, hr, hrun, hended, hW, hsame⟩ := X9.leave (v := some (.int (1 : Int32))) (fun h => by rw [Bd.returns] at h; cases h) hlk
        refine fin _ ⟨_, _, retN X9 hx (t := .boolean) Bd.returns (by simp) (hb hby at_233) hr, hrun, hended, _, _, rfl, ?_, ⟨_, rfl⟩, hW, hsame.mono (by decide) (by decide)⟩
        show Q0 Z p1 p2 p3 p4 h0 n0 _ T9.heap _
        exact ⟨rfl, N9⟩
    · refine go (T6.setTop (mkF m 45 #[.val (.int p1), .val (.int p2), .val (.int p3), .val (.int p4), .val (.int (1 : Int32)), .val (.ref uE), .val (.int (1 : Int32)), .unset, .unset, .unset, .unset, .unset, .unset] [(.int (p4 &&& (2 : Int32)))])) _ (fun t9 k9 => ?_) ?_
      · show Steps p.tables e below (T6.setTop (mkF m 32 #[.val (.int p1), .val (.int p2), .val (.int p3), .val (.int p4), .val (.int (1 : Int32)), .val (.ref uE), .unset, .unset, .unset, .unset, .unset, .unset, .unset] [(.int (p4 &&& (1 : Int32)))])) _
        refine XS.ifNo X6.here hx rfl (hb hby at_32) rfl ((if0 _ _).trans (feq hr).1) ?_
        show Steps p.tables e below (T6.setTop (mkF m 35 #[.val (.int p1), .val (.int p2), .val (.int p3), .val (.int p4), .val (.int (1 : Int32)), .val (.ref uE), .unset, .unset, .unset, .unset, .unset, .unset, .unset] [])) _
        refine XS.iconst X6.here hx rfl (hb hby at_35) ?_
        show Steps p.tables e below (T6.setTop (mkF m 36 #[.val (.int p1), .val (.int p2), .val (.int p3), .val (.int p4), .val (.int (1 : Int32)), .val (.ref uE), .unset, .unset, .unset, .unset, .unset, .unset, .unset] [(.int (1 : Int32))])) _
        refine XS.goto X6.here hx rfl (pc0 := 36) (pc' := 40) rfl (hb hby at_36) (by decide) (by decide) ?_
        show Steps p.tables e below (T6.setTop (mkF m 40 #[.val (.int p1), .val (.int p2), .val (.int p3), .val (.int p4), .val (.int (1 : Int32)), .val (.ref uE), .unset, .unset, .unset, .unset, .unset, .unset, .unset] [(.int (1 : Int32))])) _
        refine XS.istore X6.here hx rfl (hb hby at_40) rfl (l' := #[.val (.int p1), .val (.int p2), .val (.int p3), .val (.int p4), .val (.int (1 : Int32)), .val (.ref uE), .val (.int (1 : Int32)), .unset, .unset, .unset, .unset, .unset, .unset]) rfl ?_
        show Steps p.tables e below (T6.setTop (mkF m 42 #[.val (.int p1), .val (.int p2), .val (.int p3), .val (.int p4), .val (.int (1 : Int32)), .val (.ref uE), .val (.int (1 : Int32)), .unset, .unset, .unset, .unset, .unset, .unset] [])) _
        refine XS.iloadN X6.here hx rfl (hb hby at_42) rfl ?_
        show Steps p.tables e below (T6.setTop (mkF m 43 #[.val (.int p1), .val (.int p2), .val (.int p3), .val (.int p4), .val (.int (1 : Int32)), .val (.ref uE), .val (.int (1 : Int32)), .unset, .unset, .unset, .unset, .unset, .unset] [(.int p4)])) _
        refine XS.iconst X6.here hx rfl (hb hby at_43) ?_
        show Steps p.tables e below (T6.setTop (mkF m 44 #[.val (.int p1), .val (.int p2), .val (.int p3), .val (.int p4), .val (.int (1 : Int32)), .val (.ref uE), .val (.int (1 : Int32)), .unset, .unset, .unset, .unset, .unset, .unset] [(.int (2 : Int32)), (.int p4)])) _
        refine XS.iand X6.here hx rfl (hb hby at_44) rfl ?_
        exact k9
      refine go (T6.setTop (mkF m 53 #[.val (.int p1), .val (.int p2), .val (.int p3), .val (.int p4), .val (.int (1 : Int32)), .val (.ref uE), .val (.int (1 : Int32)), .unset, .unset, .unset, .unset, .unset, .unset] [(.int (if (p4 &&& (2 : Int32)) = (0 : Int32) then (0 : Int32) else (1 : Int32)))])) _ (fun t9 k9 => ?_) ?_
      · by_cases h45_1 : (p4 &&& (2 : Int32)) = (0 : Int32)
        · try (simp only [if_pos h45_1] at k9)
          show Steps p.tables e below (T6.setTop (mkF m 45 #[.val (.int p1), .val (.int p2), .val (.int p3), .val (.int p4), .val (.int (1 : Int32)), .val (.ref uE), .val (.int (1 : Int32)), .unset, .unset, .unset, .unset, .unset, .unset] [(.int (p4 &&& (2 : Int32)))])) _
          refine XS.ifYes X6.here hx rfl (pc0 := 45) (pc' := 52) rfl (hb hby at_45) rfl ((if0 _ _).trans (teq h45_1).1) (by decide) (by decide) ?_
          show Steps p.tables e below (T6.setTop (mkF m 52 #[.val (.int p1), .val (.int p2), .val (.int p3), .val (.int p4), .val (.int (1 : Int32)), .val (.ref uE), .val (.int (1 : Int32)), .unset, .unset, .unset, .unset, .unset, .unset] [])) _
          refine XS.iconst X6.here hx rfl (hb hby at_52) ?_
          exact k9
        · try (simp only [if_neg h45_1] at k9)
          show Steps p.tables e below (T6.setTop (mkF m 45 #[.val (.int p1), .val (.int p2), .val (.int p3), .val (.int p4), .val (.int (1 : Int32)), .val (.ref uE), .val (.int (1 : Int32)), .unset, .unset, .unset, .unset, .unset, .unset] [(.int (p4 &&& (2 : Int32)))])) _
          refine XS.ifNo X6.here hx rfl (hb hby at_45) rfl ((if0 _ _).trans (feq h45_1).1) ?_
          show Steps p.tables e below (T6.setTop (mkF m 48 #[.val (.int p1), .val (.int p2), .val (.int p3), .val (.int p4), .val (.int (1 : Int32)), .val (.ref uE), .val (.int (1 : Int32)), .unset, .unset, .unset, .unset, .unset, .unset] [])) _
          refine XS.iconst X6.here hx rfl (hb hby at_48) ?_
          show Steps p.tables e below (T6.setTop (mkF m 49 #[.val (.int p1), .val (.int p2), .val (.int p3), .val (.int p4), .val (.int (1 : Int32)), .val (.ref uE), .val (.int (1 : Int32)), .unset, .unset, .unset, .unset, .unset, .unset] [(.int (1 : Int32))])) _
          refine XS.goto X6.here hx rfl (pc0 := 49) (pc' := 53) rfl (hb hby at_49) (by decide) (by decide) ?_
          exact k9
      generalize hfe : (if (p4 &&& (2 : Int32)) = (0 : Int32) then (0 : Int32) else (1 : Int32)) = hf
      refine go (T6.setTop (mkF m 66 #[.val (.int p1), .val (.int p2), .val (.int p3), .val (.int p4), .val (.int (1 : Int32)), .val (.ref uE), .val (.int (1 : Int32)), .val (.int hf), .val (.int (((p4 >>> ((2 : Int32) &&& 31)) &&& (63 : Int32)) - (32 : Int32))), .unset, .unset, .unset, .unset] [])) _ (fun t9 k9 => ?_) ?_
      · show Steps p.tables e below (T6.setTop (mkF m 53 #[.val (.int p1), .val (.int p2), .val (.int p3), .val (.int p4), .val (.int (1 : Int32)), .val (.ref uE), .val (.int (1 : Int32)), .unset, .unset, .unset, .unset, .unset, .unset] [(.int hf)])) _
        refine XS.istore X6.here hx rfl (hb hby at_53) rfl (l' := #[.val (.int p1), .val (.int p2), .val (.int p3), .val (.int p4), .val (.int (1 : Int32)), .val (.ref uE), .val (.int (1 : Int32)), .val (.int hf), .unset, .unset, .unset, .unset, .unset]) rfl ?_
        show Steps p.tables e below (T6.setTop (mkF m 55 #[.val (.int p1), .val (.int p2), .val (.int p3), .val (.int p4), .val (.int (1 : Int32)), .val (.ref uE), .val (.int (1 : Int32)), .val (.int hf), .unset, .unset, .unset, .unset, .unset] [])) _
        refine XS.iloadN X6.here hx rfl (hb hby at_55) rfl ?_
        show Steps p.tables e below (T6.setTop (mkF m 56 #[.val (.int p1), .val (.int p2), .val (.int p3), .val (.int p4), .val (.int (1 : Int32)), .val (.ref uE), .val (.int (1 : Int32)), .val (.int hf), .unset, .unset, .unset, .unset, .unset] [(.int p4)])) _
        refine XS.iconst X6.here hx rfl (hb hby at_56) ?_
        show Steps p.tables e below (T6.setTop (mkF m 57 #[.val (.int p1), .val (.int p2), .val (.int p3), .val (.int p4), .val (.int (1 : Int32)), .val (.ref uE), .val (.int (1 : Int32)), .val (.int hf), .unset, .unset, .unset, .unset, .unset] [(.int (2 : Int32)), (.int p4)])) _
        refine XS.ishr X6.here hx rfl (hb hby at_57) rfl ?_
        show Steps p.tables e below (T6.setTop (mkF m 58 #[.val (.int p1), .val (.int p2), .val (.int p3), .val (.int p4), .val (.int (1 : Int32)), .val (.ref uE), .val (.int (1 : Int32)), .val (.int hf), .unset, .unset, .unset, .unset, .unset] [(.int (p4 >>> ((2 : Int32) &&& 31)))])) _
        refine XS.bipush X6.here hx rfl (hb hby at_58) ?_
        show Steps p.tables e below (T6.setTop (mkF m 60 #[.val (.int p1), .val (.int p2), .val (.int p3), .val (.int p4), .val (.int (1 : Int32)), .val (.ref uE), .val (.int (1 : Int32)), .val (.int hf), .unset, .unset, .unset, .unset, .unset] [(.int (63 : Int32)), (.int (p4 >>> ((2 : Int32) &&& 31)))])) _
        refine XS.iand X6.here hx rfl (hb hby at_60) rfl ?_
        show Steps p.tables e below (T6.setTop (mkF m 61 #[.val (.int p1), .val (.int p2), .val (.int p3), .val (.int p4), .val (.int (1 : Int32)), .val (.ref uE), .val (.int (1 : Int32)), .val (.int hf), .unset, .unset, .unset, .unset, .unset] [(.int ((p4 >>> ((2 : Int32) &&& 31)) &&& (63 : Int32)))])) _
        refine XS.bipush X6.here hx rfl (hb hby at_61) ?_
        show Steps p.tables e below (T6.setTop (mkF m 63 #[.val (.int p1), .val (.int p2), .val (.int p3), .val (.int p4), .val (.int (1 : Int32)), .val (.ref uE), .val (.int (1 : Int32)), .val (.int hf), .unset, .unset, .unset, .unset, .unset] [(.int (32 : Int32)), (.int ((p4 >>> ((2 : Int32) &&& 31)) &&& (63 : Int32)))])) _
        refine XS.isub X6.here hx rfl (hb hby at_63) rfl ?_
        show Steps p.tables e below (T6.setTop (mkF m 64 #[.val (.int p1), .val (.int p2), .val (.int p3), .val (.int p4), .val (.int (1 : Int32)), .val (.ref uE), .val (.int (1 : Int32)), .val (.int hf), .unset, .unset, .unset, .unset, .unset] [(.int (((p4 >>> ((2 : Int32) &&& 31)) &&& (63 : Int32)) - (32 : Int32)))])) _
        refine XS.istore X6.here hx rfl (hb hby at_64) rfl (l' := #[.val (.int p1), .val (.int p2), .val (.int p3), .val (.int p4), .val (.int (1 : Int32)), .val (.ref uE), .val (.int (1 : Int32)), .val (.int hf), .val (.int (((p4 >>> ((2 : Int32) &&& 31)) &&& (63 : Int32)) - (32 : Int32))), .unset, .unset, .unset, .unset]) rfl ?_
        exact k9
      have hj := own_j p4
      generalize hje : (((p4 >>> ((2 : Int32) &&& 31)) &&& (63 : Int32)) - (32 : Int32)) = jj
      rw [hje] at hj
      refine go (T6.setTop (mkF m 77 #[.val (.int p1), .val (.int p2), .val (.int p3), .val (.int p4), .val (.int (1 : Int32)), .val (.ref uE), .val (.int (1 : Int32)), .val (.int hf), .val (.int jj), .val (.int (p2 &&& (268435455 : Int32))), .unset, .unset, .unset] [])) _ (fun t9 k9 => ?_) ?_
      · show Steps p.tables e below (T6.setTop (mkF m 66 #[.val (.int p1), .val (.int p2), .val (.int p3), .val (.int p4), .val (.int (1 : Int32)), .val (.ref uE), .val (.int (1 : Int32)), .val (.int hf), .val (.int jj), .unset, .unset, .unset, .unset] [])) _
        refine XS.iload X6.here hx rfl (hb hby at_66) rfl ?_
        show Steps p.tables e below (T6.setTop (mkF m 68 #[.val (.int p1), .val (.int p2), .val (.int p3), .val (.int p4), .val (.int (1 : Int32)), .val (.ref uE), .val (.int (1 : Int32)), .val (.int hf), .val (.int jj), .unset, .unset, .unset, .unset] [(.int (1 : Int32))])) _
        refine XS.ifNo X6.here hx rfl (hb hby at_68) rfl ((if0 _ _).trans (feq (by decide : ¬ (1 : Int32) = (0 : Int32))).1) ?_
        show Steps p.tables e below (T6.setTop (mkF m 71 #[.val (.int p1), .val (.int p2), .val (.int p3), .val (.int p4), .val (.int (1 : Int32)), .val (.ref uE), .val (.int (1 : Int32)), .val (.int hf), .val (.int jj), .unset, .unset, .unset, .unset] [])) _
        refine XS.iloadN X6.here hx rfl (hb hby at_71) rfl ?_
        show Steps p.tables e below (T6.setTop (mkF m 72 #[.val (.int p1), .val (.int p2), .val (.int p3), .val (.int p4), .val (.int (1 : Int32)), .val (.ref uE), .val (.int (1 : Int32)), .val (.int hf), .val (.int jj), .unset, .unset, .unset, .unset] [(.int p2)])) _
        refine X6.ldcInt hx hown (mvT hZ (hw _ (List.mem_of_getElem? (i := 3) rfl))) (g := (mkF m 72 #[.val (.int p1), .val (.int p2), .val (.int p3), .val (.int p4), .val (.int (1 : Int32)), .val (.ref uE), .val (.int (1 : Int32)), .val (.int hf), .val (.int jj), .unset, .unset, .unset, .unset] [(.int p2)])) rfl (hb hby at_72) _ ?_
        show Steps p.tables e below (T6.setTop (mkF m 74 #[.val (.int p1), .val (.int p2), .val (.int p3), .val (.int p4), .val (.int (1 : Int32)), .val (.ref uE), .val (.int (1 : Int32)), .val (.int hf), .val (.int jj), .unset, .unset, .unset, .unset] [(.int (268435455 : Int32)), (.int p2)])) _
        refine XS.iand X6.here hx rfl (hb hby at_74) rfl ?_
        show Steps p.tables e below (T6.setTop (mkF m 75 #[.val (.int p1), .val (.int p2), .val (.int p3), .val (.int p4), .val (.int (1 : Int32)), .val (.ref uE), .val (.int (1 : Int32)), .val (.int hf), .val (.int jj), .unset, .unset, .unset, .unset] [(.int (p2 &&& (268435455 : Int32)))])) _
        refine XS.istore X6.here hx rfl (hb hby at_75) rfl (l' := #[.val (.int p1), .val (.int p2), .val (.int p3), .val (.int p4), .val (.int (1 : Int32)), .val (.ref uE), .val (.int (1 : Int32)), .val (.int hf), .val (.int jj), .val (.int (p2 &&& (268435455 : Int32))), .unset, .unset, .unset]) rfl ?_
        exact k9
      have hcc := own_c28 p2
      generalize hce : (p2 &&& (268435455 : Int32)) = cc
      rw [hce] at hcc
      refine go (T6.setTop (mkF m 95 #[.val (.int p1), .val (.int p2), .val (.int p3), .val (.int p4), .val (.int (1 : Int32)), .val (.ref uE), .val (.int (1 : Int32)), .val (.int hf), .val (.int jj), .val (.int cc), .val (.double (FP.dadd (FP.i2d cc) (FP.ddiv (FP.l2d ((cc.toInt64) * (jj.toInt64))) (4715268809856909312 : UInt64)))), .second, .unset] [])) _ (fun t9 k9 => ?_) ?_
      · show Steps p.tables e below (T6.setTop (mkF m 77 #[.val (.int p1), .val (.int p2), .val (.int p3), .val (.int p4), .val (.int (1 : Int32)), .val (.ref uE), .val (.int (1 : Int32)), .val (.int hf), .val (.int jj), .val (.int cc), .unset, .unset, .unset] [])) _
        refine XS.iload X6.here hx rfl (hb hby at_77) rfl ?_
        show Steps p.tables e below (T6.setTop (mkF m 79 #[.val (.int p1), .val (.int p2), .val (.int p3), .val (.int p4), .val (.int (1 : Int32)), .val (.ref uE), .val (.int (1 : Int32)), .val (.int hf), .val (.int jj), .val (.int cc), .unset, .unset, .unset] [(.int cc)])) _
        refine XS.i2dS X6.here hx rfl (hb hby at_79) rfl rfl ?_
        show Steps p.tables e below (T6.setTop (mkF m 80 #[.val (.int p1), .val (.int p2), .val (.int p3), .val (.int p4), .val (.int (1 : Int32)), .val (.ref uE), .val (.int (1 : Int32)), .val (.int hf), .val (.int jj), .val (.int cc), .unset, .unset, .unset] [(.double (FP.i2d cc))])) _
        refine XS.iload X6.here hx rfl (hb hby at_80) rfl ?_
        show Steps p.tables e below (T6.setTop (mkF m 82 #[.val (.int p1), .val (.int p2), .val (.int p3), .val (.int p4), .val (.int (1 : Int32)), .val (.ref uE), .val (.int (1 : Int32)), .val (.int hf), .val (.int jj), .val (.int cc), .unset, .unset, .unset] [(.int cc), (.double (FP.i2d cc))])) _
        refine XS.i2l X6.here hx rfl (hb hby at_82) rfl ?_
        show Steps p.tables e below (T6.setTop (mkF m 83 #[.val (.int p1), .val (.int p2), .val (.int p3), .val (.int p4), .val (.int (1 : Int32)), .val (.ref uE), .val (.int (1 : Int32)), .val (.int hf), .val (.int jj), .val (.int cc), .unset, .unset, .unset] [(.long (cc.toInt64)), (.double (FP.i2d cc))])) _
        refine XS.iload X6.here hx rfl (hb hby at_83) rfl ?_
        show Steps p.tables e below (T6.setTop (mkF m 85 #[.val (.int p1), .val (.int p2), .val (.int p3), .val (.int p4), .val (.int (1 : Int32)), .val (.ref uE), .val (.int (1 : Int32)), .val (.int hf), .val (.int jj), .val (.int cc), .unset, .unset, .unset] [(.int jj), (.long (cc.toInt64)), (.double (FP.i2d cc))])) _
        refine XS.i2l X6.here hx rfl (hb hby at_85) rfl ?_
        show Steps p.tables e below (T6.setTop (mkF m 86 #[.val (.int p1), .val (.int p2), .val (.int p3), .val (.int p4), .val (.int (1 : Int32)), .val (.ref uE), .val (.int (1 : Int32)), .val (.int hf), .val (.int jj), .val (.int cc), .unset, .unset, .unset] [(.long (jj.toInt64)), (.long (cc.toInt64)), (.double (FP.i2d cc))])) _
        refine XS.lmul X6.here hx rfl (hb hby at_86) rfl ?_
        show Steps p.tables e below (T6.setTop (mkF m 87 #[.val (.int p1), .val (.int p2), .val (.int p3), .val (.int p4), .val (.int (1 : Int32)), .val (.ref uE), .val (.int (1 : Int32)), .val (.int hf), .val (.int jj), .val (.int cc), .unset, .unset, .unset] [(.long ((cc.toInt64) * (jj.toInt64))), (.double (FP.i2d cc))])) _
        refine XS.l2dS X6.here hx rfl (hb hby at_87) rfl rfl ?_
        show Steps p.tables e below (T6.setTop (mkF m 88 #[.val (.int p1), .val (.int p2), .val (.int p3), .val (.int p4), .val (.int (1 : Int32)), .val (.ref uE), .val (.int (1 : Int32)), .val (.int hf), .val (.int jj), .val (.int cc), .unset, .unset, .unset] [(.double (FP.l2d ((cc.toInt64) * (jj.toInt64)))), (.double (FP.i2d cc))])) _
        refine X6.ldc2DoubleC hx hown (mvT hZ (hw _ (List.mem_of_getElem? (i := 4) rfl))) (g := (mkF m 88 #[.val (.int p1), .val (.int p2), .val (.int p3), .val (.int p4), .val (.int (1 : Int32)), .val (.ref uE), .val (.int (1 : Int32)), .val (.int hf), .val (.int jj), .val (.int cc), .unset, .unset, .unset] [(.double (FP.l2d ((cc.toInt64) * (jj.toInt64)))), (.double (FP.i2d cc))])) rfl (hb hby at_88) _ ?_
        show Steps p.tables e below (T6.setTop (mkF m 91 #[.val (.int p1), .val (.int p2), .val (.int p3), .val (.int p4), .val (.int (1 : Int32)), .val (.ref uE), .val (.int (1 : Int32)), .val (.int hf), .val (.int jj), .val (.int cc), .unset, .unset, .unset] [(.double (4715268809856909312 : UInt64)), (.double (FP.l2d ((cc.toInt64) * (jj.toInt64)))), (.double (FP.i2d cc))])) _
        refine XS.ddivS X6.here hx rfl (hb hby at_91) rfl (own_div_nn cc jj) rfl ?_
        show Steps p.tables e below (T6.setTop (mkF m 92 #[.val (.int p1), .val (.int p2), .val (.int p3), .val (.int p4), .val (.int (1 : Int32)), .val (.ref uE), .val (.int (1 : Int32)), .val (.int hf), .val (.int jj), .val (.int cc), .unset, .unset, .unset] [(.double (FP.ddiv (FP.l2d ((cc.toInt64) * (jj.toInt64))) (4715268809856909312 : UInt64))), (.double (FP.i2d cc))])) _
        refine XS.daddS X6.here hx rfl (hb hby at_92) rfl (own_load_nn cc jj) rfl ?_
        show Steps p.tables e below (T6.setTop (mkF m 93 #[.val (.int p1), .val (.int p2), .val (.int p3), .val (.int p4), .val (.int (1 : Int32)), .val (.ref uE), .val (.int (1 : Int32)), .val (.int hf), .val (.int jj), .val (.int cc), .unset, .unset, .unset] [(.double (FP.dadd (FP.i2d cc) (FP.ddiv (FP.l2d ((cc.toInt64) * (jj.toInt64))) (4715268809856909312 : UInt64))))])) _
        refine XS.dstore X6.here hx rfl (hb hby at_93) rfl (l' := #[.val (.int p1), .val (.int p2), .val (.int p3), .val (.int p4), .val (.int (1 : Int32)), .val (.ref uE), .val (.int (1 : Int32)), .val (.int hf), .val (.int jj), .val (.int cc), .val (.double (FP.dadd (FP.i2d cc) (FP.ddiv (FP.l2d ((cc.toInt64) * (jj.toInt64))) (4715268809856909312 : UInt64)))), .second, .unset]) rfl ?_
        exact k9
      refine go (T6.setTop (mkF m 125 #[.val (.int p1), .val (.int p2), .val (.int p3), .val (.int p4), .val (.int (1 : Int32)), .val (.ref uE), .val (.int (1 : Int32)), .val (.int hf), .val (.int jj), .val (.int cc), .val (.double (FP.dadd (FP.i2d cc) (FP.ddiv (FP.l2d ((cc.toInt64) * (jj.toInt64))) (4715268809856909312 : UInt64)))), .second, .unset] [(.int (if (0 : Int32) < cc then (if jj < (17 : Int32) then (0 : Int32) else (1 : Int32)) else (0 : Int32)))])) _ (fun t9 k9 => ?_) ?_
      · show Steps p.tables e below (T6.setTop (mkF m 95 #[.val (.int p1), .val (.int p2), .val (.int p3), .val (.int p4), .val (.int (1 : Int32)), .val (.ref uE), .val (.int (1 : Int32)), .val (.int hf), .val (.int jj), .val (.int cc), .val (.double (FP.dadd (FP.i2d cc) (FP.ddiv (FP.l2d ((cc.toInt64) * (jj.toInt64))) (4715268809856909312 : UInt64)))), .second, .unset] [])) _
        refine XS.iload X6.here hx rfl (hb hby at_95) rfl ?_
        by_cases h97_1 : (0 : Int32) < cc
        · try (simp only [if_pos h97_1] at k9)
          show Steps p.tables e below (T6.setTop (mkF m 97 #[.val (.int p1), .val (.int p2), .val (.int p3), .val (.int p4), .val (.int (1 : Int32)), .val (.ref uE), .val (.int (1 : Int32)), .val (.int hf), .val (.int jj), .val (.int cc), .val (.double (FP.dadd (FP.i2d cc) (FP.ddiv (FP.l2d ((cc.toInt64) * (jj.toInt64))) (4715268809856909312 : UInt64)))), .second, .unset] [(.int cc)])) _
          refine XS.ifNo X6.here hx rfl (hb hby at_97) rfl ((if0 _ _).trans (tlt h97_1).2.2.2) ?_
          show Steps p.tables e below (T6.setTop (mkF m 100 #[.val (.int p1), .val (.int p2), .val (.int p3), .val (.int p4), .val (.int (1 : Int32)), .val (.ref uE), .val (.int (1 : Int32)), .val (.int hf), .val (.int jj), .val (.int cc), .val (.double (FP.dadd (FP.i2d cc) (FP.ddiv (FP.l2d ((cc.toInt64) * (jj.toInt64))) (4715268809856909312 : UInt64)))), .second, .unset] [])) _
          refine XS.iload X6.here hx rfl (hb hby at_100) rfl ?_
          show Steps p.tables e below (T6.setTop (mkF m 102 #[.val (.int p1), .val (.int p2), .val (.int p3), .val (.int p4), .val (.int (1 : Int32)), .val (.ref uE), .val (.int (1 : Int32)), .val (.int hf), .val (.int jj), .val (.int cc), .val (.double (FP.dadd (FP.i2d cc) (FP.ddiv (FP.l2d ((cc.toInt64) * (jj.toInt64))) (4715268809856909312 : UInt64)))), .second, .unset] [(.int (1 : Int32))])) _
          refine XS.ifNo X6.here hx rfl (hb hby at_102) rfl ((if0 _ _).trans (feq (by decide : ¬ (1 : Int32) = (0 : Int32))).1) ?_
          show Steps p.tables e below (T6.setTop (mkF m 105 #[.val (.int p1), .val (.int p2), .val (.int p3), .val (.int p4), .val (.int (1 : Int32)), .val (.ref uE), .val (.int (1 : Int32)), .val (.int hf), .val (.int jj), .val (.int cc), .val (.double (FP.dadd (FP.i2d cc) (FP.ddiv (FP.l2d ((cc.toInt64) * (jj.toInt64))) (4715268809856909312 : UInt64)))), .second, .unset] [])) _
          refine XS.iload X6.here hx rfl (hb hby at_105) rfl ?_
          show Steps p.tables e below (T6.setTop (mkF m 107 #[.val (.int p1), .val (.int p2), .val (.int p3), .val (.int p4), .val (.int (1 : Int32)), .val (.ref uE), .val (.int (1 : Int32)), .val (.int hf), .val (.int jj), .val (.int cc), .val (.double (FP.dadd (FP.i2d cc) (FP.ddiv (FP.l2d ((cc.toInt64) * (jj.toInt64))) (4715268809856909312 : UInt64)))), .second, .unset] [(.int jj)])) _
          refine XS.bipush X6.here hx rfl (hb hby at_107) ?_
          by_cases h109_2 : jj < (17 : Int32)
          · try (simp only [if_pos h109_2] at k9)
            show Steps p.tables e below (T6.setTop (mkF m 109 #[.val (.int p1), .val (.int p2), .val (.int p3), .val (.int p4), .val (.int (1 : Int32)), .val (.ref uE), .val (.int (1 : Int32)), .val (.int hf), .val (.int jj), .val (.int cc), .val (.double (FP.dadd (FP.i2d cc) (FP.ddiv (FP.l2d ((cc.toInt64) * (jj.toInt64))) (4715268809856909312 : UInt64)))), .second, .unset] [(.int (17 : Int32)), (.int jj)])) _
            refine XS.icmpYes X6.here hx rfl (pc0 := 109) (pc' := 124) rfl (hb hby at_109) rfl (tlt h109_2).1 (by decide) (by decide) ?_
            show Steps p.tables e below (T6.setTop (mkF m 124 #[.val (.int p1), .val (.int p2), .val (.int p3), .val (.int p4), .val (.int (1 : Int32)), .val (.ref uE), .val (.int (1 : Int32)), .val (.int hf), .val (.int jj), .val (.int cc), .val (.double (FP.dadd (FP.i2d cc) (FP.ddiv (FP.l2d ((cc.toInt64) * (jj.toInt64))) (4715268809856909312 : UInt64)))), .second, .unset] [])) _
            refine XS.iconst X6.here hx rfl (hb hby at_124) ?_
            exact k9
          · try (simp only [if_neg h109_2] at k9)
            show Steps p.tables e below (T6.setTop (mkF m 109 #[.val (.int p1), .val (.int p2), .val (.int p3), .val (.int p4), .val (.int (1 : Int32)), .val (.ref uE), .val (.int (1 : Int32)), .val (.int hf), .val (.int jj), .val (.int cc), .val (.double (FP.dadd (FP.i2d cc) (FP.ddiv (FP.l2d ((cc.toInt64) * (jj.toInt64))) (4715268809856909312 : UInt64)))), .second, .unset] [(.int (17 : Int32)), (.int jj)])) _
            refine XS.icmpNo X6.here hx rfl (hb hby at_109) rfl (flt h109_2).1 ?_
            show Steps p.tables e below (T6.setTop (mkF m 112 #[.val (.int p1), .val (.int p2), .val (.int p3), .val (.int p4), .val (.int (1 : Int32)), .val (.ref uE), .val (.int (1 : Int32)), .val (.int hf), .val (.int jj), .val (.int cc), .val (.double (FP.dadd (FP.i2d cc) (FP.ddiv (FP.l2d ((cc.toInt64) * (jj.toInt64))) (4715268809856909312 : UInt64)))), .second, .unset] [])) _
            refine XS.goto X6.here hx rfl (pc0 := 112) (pc' := 120) rfl (hb hby at_112) (by decide) (by decide) ?_
            show Steps p.tables e below (T6.setTop (mkF m 120 #[.val (.int p1), .val (.int p2), .val (.int p3), .val (.int p4), .val (.int (1 : Int32)), .val (.ref uE), .val (.int (1 : Int32)), .val (.int hf), .val (.int jj), .val (.int cc), .val (.double (FP.dadd (FP.i2d cc) (FP.ddiv (FP.l2d ((cc.toInt64) * (jj.toInt64))) (4715268809856909312 : UInt64)))), .second, .unset] [])) _
            refine XS.iconst X6.here hx rfl (hb hby at_120) ?_
            show Steps p.tables e below (T6.setTop (mkF m 121 #[.val (.int p1), .val (.int p2), .val (.int p3), .val (.int p4), .val (.int (1 : Int32)), .val (.ref uE), .val (.int (1 : Int32)), .val (.int hf), .val (.int jj), .val (.int cc), .val (.double (FP.dadd (FP.i2d cc) (FP.ddiv (FP.l2d ((cc.toInt64) * (jj.toInt64))) (4715268809856909312 : UInt64)))), .second, .unset] [(.int (1 : Int32))])) _
            refine XS.goto X6.here hx rfl (pc0 := 121) (pc' := 125) rfl (hb hby at_121) (by decide) (by decide) ?_
            exact k9
        · try (simp only [if_neg h97_1] at k9)
          show Steps p.tables e below (T6.setTop (mkF m 97 #[.val (.int p1), .val (.int p2), .val (.int p3), .val (.int p4), .val (.int (1 : Int32)), .val (.ref uE), .val (.int (1 : Int32)), .val (.int hf), .val (.int jj), .val (.int cc), .val (.double (FP.dadd (FP.i2d cc) (FP.ddiv (FP.l2d ((cc.toInt64) * (jj.toInt64))) (4715268809856909312 : UInt64)))), .second, .unset] [(.int cc)])) _
          refine XS.ifYes X6.here hx rfl (pc0 := 97) (pc' := 124) rfl (hb hby at_97) rfl ((if0 _ _).trans (flt h97_1).2.2.2) (by decide) (by decide) ?_
          show Steps p.tables e below (T6.setTop (mkF m 124 #[.val (.int p1), .val (.int p2), .val (.int p3), .val (.int p4), .val (.int (1 : Int32)), .val (.ref uE), .val (.int (1 : Int32)), .val (.int hf), .val (.int jj), .val (.int cc), .val (.double (FP.dadd (FP.i2d cc) (FP.ddiv (FP.l2d ((cc.toInt64) * (jj.toInt64))) (4715268809856909312 : UInt64)))), .second, .unset] [])) _
          refine XS.iconst X6.here hx rfl (hb hby at_124) ?_
          exact k9
      refine go (T6.setTop (mkF m 133 #[.val (.int p1), .val (.int p2), .val (.int p3), .val (.int p4), .val (.int (1 : Int32)), .val (.ref uE), .val (.int (1 : Int32)), .val (.int hf), .val (.int jj), .val (.int cc), .val (.double (FP.dadd (FP.i2d cc) (FP.ddiv (FP.l2d ((cc.toInt64) * (jj.toInt64))) (4715268809856909312 : UInt64)))), .second, .val (.int (if (0 : Int32) < cc then (if jj < (17 : Int32) then (0 : Int32) else (1 : Int32)) else (0 : Int32)))] [(.int cc), (.double (FP.dadd (FP.i2d cc) (FP.ddiv (FP.l2d ((cc.toInt64) * (jj.toInt64))) (4715268809856909312 : UInt64)))), (.ref uE)])) _ (fun t9 k9 => ?_) ?_
      · show Steps p.tables e below (T6.setTop (mkF m 125 #[.val (.int p1), .val (.int p2), .val (.int p3), .val (.int p4), .val (.int (1 : Int32)), .val (.ref uE), .val (.int (1 : Int32)), .val (.int hf), .val (.int jj), .val (.int cc), .val (.double (FP.dadd (FP.i2d cc) (FP.ddiv (FP.l2d ((cc.toInt64) * (jj.toInt64))) (4715268809856909312 : UInt64)))), .second, .unset] [(.int (if (0 : Int32) < cc then (if jj < (17 : Int32) then (0 : Int32) else (1 : Int32)) else (0 : Int32)))])) _
        refine XS.istore X6.here hx rfl (hb hby at_125) rfl (l' := #[.val (.int p1), .val (.int p2), .val (.int p3), .val (.int p4), .val (.int (1 : Int32)), .val (.ref uE), .val (.int (1 : Int32)), .val (.int hf), .val (.int jj), .val (.int cc), .val (.double (FP.dadd (FP.i2d cc) (FP.ddiv (FP.l2d ((cc.toInt64) * (jj.toInt64))) (4715268809856909312 : UInt64)))), .second, .val (.int (if (0 : Int32) < cc then (if jj < (17 : Int32) then (0 : Int32) else (1 : Int32)) else (0 : Int32)))]) rfl ?_
        show Steps p.tables e below (T6.setTop (mkF m 127 #[.val (.int p1), .val (.int p2), .val (.int p3), .val (.int p4), .val (.int (1 : Int32)), .val (.ref uE), .val (.int (1 : Int32)), .val (.int hf), .val (.int jj), .val (.int cc), .val (.double (FP.dadd (FP.i2d cc) (FP.ddiv (FP.l2d ((cc.toInt64) * (jj.toInt64))) (4715268809856909312 : UInt64)))), .second, .val (.int (if (0 : Int32) < cc then (if jj < (17 : Int32) then (0 : Int32) else (1 : Int32)) else (0 : Int32)))] [])) _
        refine XS.aload X6.here hx rfl (hb hby at_127) rfl rfl ?_
        show Steps p.tables e below (T6.setTop (mkF m 129 #[.val (.int p1), .val (.int p2), .val (.int p3), .val (.int p4), .val (.int (1 : Int32)), .val (.ref uE), .val (.int (1 : Int32)), .val (.int hf), .val (.int jj), .val (.int cc), .val (.double (FP.dadd (FP.i2d cc) (FP.ddiv (FP.l2d ((cc.toInt64) * (jj.toInt64))) (4715268809856909312 : UInt64)))), .second, .val (.int (if (0 : Int32) < cc then (if jj < (17 : Int32) then (0 : Int32) else (1 : Int32)) else (0 : Int32)))] [(.ref uE)])) _
        refine XS.dload X6.here hx rfl (hb hby at_129) rfl ?_
        show Steps p.tables e below (T6.setTop (mkF m 131 #[.val (.int p1), .val (.int p2), .val (.int p3), .val (.int p4), .val (.int (1 : Int32)), .val (.ref uE), .val (.int (1 : Int32)), .val (.int hf), .val (.int jj), .val (.int cc), .val (.double (FP.dadd (FP.i2d cc) (FP.ddiv (FP.l2d ((cc.toInt64) * (jj.toInt64))) (4715268809856909312 : UInt64)))), .second, .val (.int (if (0 : Int32) < cc then (if jj < (17 : Int32) then (0 : Int32) else (1 : Int32)) else (0 : Int32)))] [(.double (FP.dadd (FP.i2d cc) (FP.ddiv (FP.l2d ((cc.toInt64) * (jj.toInt64))) (4715268809856909312 : UInt64)))), (.ref uE)])) _
        refine XS.iload X6.here hx rfl (hb hby at_131) rfl ?_
        exact k9
      obtain ⟨cq7, kq7, q7a, q7b, q7c⟩ := isOf hZ e6 ExaE
      obtain ⟨_, _, ⟨T7, L7, k7, n7⟩, -, X7, ⟨Lc7, hQ7, l7, y7, z7⟩, st7⟩ := X6.virtualBack hx (y := (⟨"com/example/cohortwise/cohortwise/plan/Attendance", "exceeds", "(DI)Z"⟩ : MethodName)) (z := (⟨"com/example/cohortwise/cohortwise/plan/Attendance", "exceeds", "(DI)Z"⟩ : MethodName)) hown (mvT hZ (hw _ (List.mem_of_getElem? (i := 5) rfl))) (mvT hZ (hw _ (List.mem_of_getElem? (i := 6) rfl))) (notFace_of_selects (args := #[]) (mvT hZ (hw _ (List.mem_of_getElem? (i := 8) rfl)))) (mvT hZ (hw _ (List.mem_of_getElem? (i := 8) rfl))) (mvT hZ (hw _ (List.mem_of_getElem? (i := 7) rfl))) (by decide) (backOf (W := 0) (rm1 l Z a0 hw [] uE (FP.dadd (FP.i2d cc) (FP.ddiv (FP.l2d ((cc.toInt64) * (jj.toInt64))) (4715268809856909312 : UInt64))) cc uA h0 n0 Z0 StaA) hZ (hw _ (List.mem_of_getElem? (i := 9) rfl)) (hw _ (List.mem_of_getElem? (i := 1) rfl)) (by decide) (by decide)) q7a q7c (g := (mkF m 133 #[.val (.int p1), .val (.int p2), .val (.int p3), .val (.int p4), .val (.int (1 : Int32)), .val (.ref uE), .val (.int (1 : Int32)), .val (.int hf), .val (.int jj), .val (.int cc), .val (.double (FP.dadd (FP.i2d cc) (FP.ddiv (FP.l2d ((cc.toInt64) * (jj.toInt64))) (4715268809856909312 : UInt64)))), .second, .val (.int (if (0 : Int32) < cc then (if jj < (17 : Int32) then (0 : Int32) else (1 : Int32)) else (0 : Int32)))] [(.int cc), (.double (FP.dadd (FP.i2d cc) (FP.ddiv (FP.l2d ((cc.toInt64) * (jj.toInt64))) (4715268809856909312 : UInt64)))), (.ref uE)])) rfl (by rw [hml]; rfl) (Steps.refl _) (argsL := [(.double (FP.dadd (FP.i2d cc) (FP.ddiv (FP.l2d ((cc.toInt64) * (jj.toInt64))) (4715268809856909312 : UInt64)))), (.int cc)]) (rest := []) (lenOf pd__28DI_29Z rfl) rfl (by show 2 * 0 + _ ≤ _; exact Nat.le_of_eq rfl) (hb hby at_133) (fun _ _ => ⟨rfl, e6, (by decide : 0 + 0 ≤ _), (by decide : 0 + 0 ≤ _)⟩)
      dsimp only [Pt.U, Pt.locs, Pt.cells, Pt.slots] at X7 l7 y7 z7 st7 hQ7
      subst l7 y7 z7
      obtain ⟨rfl, N7q, e7q⟩ := hQ7
      have N7 := Fr.app N0 N7q
      refine go (T7.setTop (mkF m 136 #[.val (.int p1), .val (.int p2), .val (.int p3), .val (.int p4), .val (.int (1 : Int32)), .val (.ref uE), .val (.int (1 : Int32)), .val (.int hf), .val (.int jj), .val (.int cc), .val (.double (FP.dadd (FP.i2d cc) (FP.ddiv (FP.l2d ((cc.toInt64) * (jj.toInt64))) (4715268809856909312 : UInt64)))), .second, .val (.int (if (0 : Int32) < cc then (if jj < (17 : Int32) then (0 : Int32) else (1 : Int32)) else (0 : Int32)))] [(.int (if uE = uA then own_excA (FP.dadd (FP.i2d cc) (FP.ddiv (FP.l2d ((cc.toInt64) * (jj.toInt64))) (4715268809856909312 : UInt64))) cc else own_excE (FP.dadd (FP.i2d cc) (FP.ddiv (FP.l2d ((cc.toInt64) * (jj.toInt64))) (4715268809856909312 : UInt64))) cc))])) _ (fun t9 k9 => st7.trans k9) ?_
      rw [if_neg hne]
      refine go (T7.setTop (mkF m 138 #[.val (.int p1), .val (.int p2), .val (.int p3), .val (.int p4), .val (.int (1 : Int32)), .val (.ref uE), .val (.int (1 : Int32)), .val (.int hf), .val (.int jj), .val (.int cc), .val (.double (FP.dadd (FP.i2d cc) (FP.ddiv (FP.l2d ((cc.toInt64) * (jj.toInt64))) (4715268809856909312 : UInt64)))), .second, .val (.int (if (0 : Int32) < cc then (if jj < (17 : Int32) then (0 : Int32) else (1 : Int32)) else (0 : Int32)))] [(.int (if (0 : Int32) < cc then (if jj < (17 : Int32) then (0 : Int32) else (1 : Int32)) else (0 : Int32))), (.int (own_excE (FP.dadd (FP.i2d cc) (FP.ddiv (FP.l2d ((cc.toInt64) * (jj.toInt64))) (4715268809856909312 : UInt64))) cc))])) _ (fun t9 k9 => ?_) ?_
      · show Steps p.tables e below (T7.setTop (mkF m 136 #[.val (.int p1), .val (.int p2), .val (.int p3), .val (.int p4), .val (.int (1 : Int32)), .val (.ref uE), .val (.int (1 : Int32)), .val (.int hf), .val (.int jj), .val (.int cc), .val (.double (FP.dadd (FP.i2d cc) (FP.ddiv (FP.l2d ((cc.toInt64) * (jj.toInt64))) (4715268809856909312 : UInt64)))), .second, .val (.int (if (0 : Int32) < cc then (if jj < (17 : Int32) then (0 : Int32) else (1 : Int32)) else (0 : Int32)))] [(.int (own_excE (FP.dadd (FP.i2d cc) (FP.ddiv (FP.l2d ((cc.toInt64) * (jj.toInt64))) (4715268809856909312 : UInt64))) cc))])) _
        refine XS.iload X7.here hx rfl (hb hby at_136) rfl ?_
        exact k9
      have hfin : (own_excE (FP.dadd (FP.i2d cc) (FP.ddiv (FP.l2d ((cc.toInt64) * (jj.toInt64))) (4715268809856909312 : UInt64))) cc) = (if (0 : Int32) < cc then (if jj < (17 : Int32) then (0 : Int32) else (1 : Int32)) else (0 : Int32)) := own_relE hcc.1 hcc.2 hj.1 hj.2
      refine go (T7.setTop (mkF m 146 #[.val (.int p1), .val (.int p2), .val (.int p3), .val (.int p4), .val (.int (1 : Int32)), .val (.ref uE), .val (.int (1 : Int32)), .val (.int hf), .val (.int jj), .val (.int cc), .val (.double (FP.dadd (FP.i2d cc) (FP.ddiv (FP.l2d ((cc.toInt64) * (jj.toInt64))) (4715268809856909312 : UInt64)))), .second, .val (.int (if (0 : Int32) < cc then (if jj < (17 : Int32) then (0 : Int32) else (1 : Int32)) else (0 : Int32)))] [(.int (1 : Int32))])) _ (fun t9 k9 => ?_) ?_
      · show Steps p.tables e below (T7.setTop (mkF m 138 #[.val (.int p1), .val (.int p2), .val (.int p3), .val (.int p4), .val (.int (1 : Int32)), .val (.ref uE), .val (.int (1 : Int32)), .val (.int hf), .val (.int jj), .val (.int cc), .val (.double (FP.dadd (FP.i2d cc) (FP.ddiv (FP.l2d ((cc.toInt64) * (jj.toInt64))) (4715268809856909312 : UInt64)))), .second, .val (.int (if (0 : Int32) < cc then (if jj < (17 : Int32) then (0 : Int32) else (1 : Int32)) else (0 : Int32)))] [(.int (if (0 : Int32) < cc then (if jj < (17 : Int32) then (0 : Int32) else (1 : Int32)) else (0 : Int32))), (.int (own_excE (FP.dadd (FP.i2d cc) (FP.ddiv (FP.l2d ((cc.toInt64) * (jj.toInt64))) (4715268809856909312 : UInt64))) cc))])) _
        refine XS.icmpNo X7.here hx rfl (hb hby at_138) rfl (teq hfin).2 ?_
        show Steps p.tables e below (T7.setTop (mkF m 141 #[.val (.int p1), .val (.int p2), .val (.int p3), .val (.int p4), .val (.int (1 : Int32)), .val (.ref uE), .val (.int (1 : Int32)), .val (.int hf), .val (.int jj), .val (.int cc), .val (.double (FP.dadd (FP.i2d cc) (FP.ddiv (FP.l2d ((cc.toInt64) * (jj.toInt64))) (4715268809856909312 : UInt64)))), .second, .val (.int (if (0 : Int32) < cc then (if jj < (17 : Int32) then (0 : Int32) else (1 : Int32)) else (0 : Int32)))] [])) _
        refine XS.iconst X7.here hx rfl (hb hby at_141) ?_
        show Steps p.tables e below (T7.setTop (mkF m 142 #[.val (.int p1), .val (.int p2), .val (.int p3), .val (.int p4), .val (.int (1 : Int32)), .val (.ref uE), .val (.int (1 : Int32)), .val (.int hf), .val (.int jj), .val (.int cc), .val (.double (FP.dadd (FP.i2d cc) (FP.ddiv (FP.l2d ((cc.toInt64) * (jj.toInt64))) (4715268809856909312 : UInt64)))), .second, .val (.int (if (0 : Int32) < cc then (if jj < (17 : Int32) then (0 : Int32) else (1 : Int32)) else (0 : Int32)))] [(.int (1 : Int32))])) _
        refine XS.goto X7.here hx rfl (pc0 := 142) (pc' := 146) rfl (hb hby at_142) (by decide) (by decide) ?_
        exact k9
      obtain ⟨fs, hr, hrun, hended, hW, hsame⟩ := X7.leave (v := some (.int (1 : Int32))) (fun h => by rw [Bd.returns] at h; cases h) hlk
      refine fin _ ⟨_, _, retN X7 hx (t := .boolean) Bd.returns (by simp) (hb hby at_146) hr, hrun, hended, _, _, rfl, ?_, ⟨_, rfl⟩, hW, hsame.mono (by decide) (by decide)⟩
      show Q0 Z p1 p2 p3 p4 h0 n0 _ T7.heap _
      exact ⟨rfl, N7⟩
set_option maxRecDepth 65536 in
set_option maxHeartbeats 40000000 in
theorem comes_1 {Post : Tables → Env → Array Value → State → Outcome → State → Prop} (hpost : ∀ tb e args s v u, (limb_1_1.after args s (.returned v) u = true ∧ limb_1_2.after args s (.returned v) u = true ∧ True) → FrameEnd s (.returned v) u (Jvm.fieldLocs frame_1_writes args s ++ Jvm.arrayLocs frame_1_arrays args s ++ Jvm.staticLocs frame_1_statics s) 0 0 → Post tb e args s (.returned v) u) :
    ArmFor flags0 classFile x code maxLocals ret World_1 tables_1 room_1 Calls_1 rest_1 Pre_1 Post := by
  intro l hfl _ _ p e ha hc hk s m args below hf hA hF happ hP
  obtain ⟨hcalls, hrest, hpre⟩ := hP
  obtain ⟨-, -, -, hnamed, -, -, -, hat⟩ := (Spec.applies_iff hf).mp happ
  obtain ⟨hg, hn⟩ := and_e (Cond.before_iff.mp (show (Jvm.Cond.and given_1 narrow_1).before args s = true from hpre))
  obtain ⟨hcnt, hq0⟩ := and_e hg
  obtain ⟨ha0, hq1⟩ := and_e hq0
  obtain ⟨ha1, hq2⟩ := and_e hq1
  obtain ⟨ha2, hq3⟩ := and_e hq2
  obtain ⟨w0, w1, w2, w3, rfl⟩ : ∃ w0 w1 w2 w3 : Value, args = #[w0, w1, w2, w3] := by
    have hs : args.size = 4 := by simpa [Cond.value, given_1] using hcnt
    obtain ⟨L⟩ := args
    match L, hs with
    | [w0, w1, w2, w3], _ => exact ⟨w0, w1, w2, w3, rfl⟩
  have hw := fun d (hd : d ∈ tables_1) => atoms_spec (ws := Jvm.Cond.code x code maxLocals ret :: tables_1) hat d (List.mem_cons_of_mem _ hd)
  obtain ⟨i0, ei0⟩ := is_v ha0
  obtain rfl : w0 = (.int i0) := Option.some.inj ei0
  obtain ⟨i1, ei1⟩ := is_v ha1
  obtain rfl : w1 = (.int i1) := Option.some.inj ei1
  obtain ⟨i2, ei2⟩ := is_v ha2
  obtain rfl : w2 = (.int i2) := Option.some.inj ei2
  obtain ⟨i3, ei3⟩ := is_v hq3
  obtain rfl : w3 = (.int i3) := Option.some.inj ei3
  obtain ⟨mA, hn0⟩ := and_e hn
  obtain ⟨mE, hn1⟩ := and_e hn0
  obtain ⟨oE, oA⟩ := and_e hn1
  obtain ⟨uA, euA⟩ := exa_v mA
  have ExaA : Exa s s.heap uA "com/example/cohortwise/cohortwise/plan/Attendance" := exa_at euA mA
  have StaA : Sta s s.heap "com/example/cohortwise/cohortwise/plan/Attendance" "ALLOCATED" "Lcom/example/cohortwise/cohortwise/plan/Attendance;" (.ref uA) := Sta.start euA (Or.inr ⟨(hw _ (List.mem_of_getElem? (i := 1) rfl)), (hw _ (List.mem_of_getElem? (i := 2) rfl))⟩)
  have FoA : Fld s s.heap uA "java/lang/Enum" "ordinal" "I" (.int 0) := own_fldeq euA oA
  obtain ⟨uE, euE⟩ := exa_v mE
  have ExaE : Exa s s.heap uE "com/example/cohortwise/cohortwise/plan/Attendance" := exa_at euE mE
  have StaE : Sta s s.heap "com/example/cohortwise/cohortwise/plan/Attendance" "EXPECTED" "Lcom/example/cohortwise/cohortwise/plan/Attendance;" (.ref uE) := Sta.start euE (Or.inr ⟨(hw _ (List.mem_of_getElem? (i := 1) rfl)), (hw _ (List.mem_of_getElem? (i := 13) rfl))⟩)
  have FoE : Fld s s.heap uE "java/lang/Enum" "ordinal" "I" (.int 1) := own_fldeq euE oE
  have hne : ¬ uE = uA := fun q => absurd q (FoE.ne FoA (by decide))
  obtain ⟨n, o, h1, h2, h3, _, L, rfl, ⟨rfl, N⟩, hq⟩ := rm0 l s _ hw tables_1 i0 i1 i2 i3 uA uE s.heap s.heap.size (Nat.le_refl _) StaA StaE ExaA ExaE hne p e ha hc hk s m _ below hf ((Spec.applies_iff_loose hf).mp happ).1 ⟨rfl, State.Warmed39.refl s, rfl⟩ trivial
  refine ⟨n, _, h1, h2, h3, hpost _ _ _ _ _ _ ⟨Cond.after_iff.mpr rfl, Cond.after_iff.mpr (eq_i res_at (Term.int_eval (1)) rfl), trivial⟩ ⟨hq.1, hq.2.1, (hq.2.2.sift fun y hy => Or.inr (N y hy)).mono (by decide) (by decide)⟩⟩
theorem main_1_1 : Claimed_1_1 := comes_1 fun _ _ _ _ _ _ h hF => ⟨h.1, hF⟩
theorem main_1_2 : Claimed_1_2 := comes_1 fun _ _ _ _ _ _ h hF => ⟨h.2.1, hF⟩
end Jvm.Pilot.@@N@@
namespace Jvm.Pilot.@@N@@
open Jvm Jvm.ClassFile Sem Op Lib Jvm.Free Jvm.Stand Jvm.Pilot.@@N@@.Jvm.D
/-! MADE BY PROGRAM (witnessworld.py) out of the Statement's table words and the real class files: 12 classes; the members and pool entries that the words name. The judged class is class 1, her method 1. -/
namespace start1
open Jvm.ClassFile
def u (s : String) : CpInfo := .utf8 (stringToUtf16 s)
/-- a pool by its gaps: so many unusable entries, then the entry; so many at the end -/
def gap : Nat → List CpInfo → List CpInfo
  | 0, r => r
  | n + 1, r => .unusable :: gap n r
def poolList (es : List (Nat × CpInfo)) (last : Nat) : List CpInfo := es.foldr (fun e r => gap e.1 (e.2 :: r)) (gap last [])
def pool (es : List (Nat × CpInfo)) (last : Nat) : Array CpInfo := ⟨poolList es last⟩
def fileOf (pool : Array CpInfo) (this : Nat) (attrs : Array Attribute := #[]) (ms : Array MethodInfo := #[]) (fl : Nat := 33) (sup : Nat := 0) (ifs : Array Nat := #[]) (fds : Array FieldInfo := #[]) : ClassFile where
  minorVersion := 0
  majorVersion := 65
  constantPool := pool
  accessFlags := fl
  thisClass := this
  superClass := sup
  interfaces := ifs
  fields := fds
  methods := ms
  attributes := attrs
def plain (name : String) (sup : Option ClassId) : Class where
  name := name
  kind := .ordinary
  loader := none
  accessFlags := 33
  super := sup
  interfaces := #[]
  cf := none
  fields := #[]
  methods := #[]
  instanceTypes := #[]
  staticTypes := #[]
  resolved := #[]
  callSites := []
  init := .initialized
  statics := none
  mirror := none

def pool0 : Array CpInfo := pool [(5, u "<init>"), (0, u "()V"), (1, .class_ 10), (1, u "java/lang/Object")] 113

def k0m0 : Method := { name := "<init>", desc := "()V", sig := { parameters := [], returnType := none }, accessFlags := 1, code := none }
/-- java/lang/Object -/
def k0 : Class := { plain "java/lang/Object" none with
  accessFlags := 33
  interfaces := #[]
  cf := some (fileOf pool0 8 #[] #[{ accessFlags := 1, nameIndex := 5, descriptorIndex := 6, attributes := #[] }] 33 0 #[] #[])
  fields := #[]
  methods := #[k0m0]
  instanceTypes := #[]
  staticTypes := #[]
  resolved := Array.replicate 124 none
  statics := none }

def pool1 : Array CpInfo := pool [(2, .class_ 4), (1, u "java/lang/Object"), (0, u "<init>"), (0, u "()V"), (0, .fieldref 8 9), (0, .class_ 10), (0, .nameAndType 11 12), (0, u "com/example/cohortwise/cohortwise/plan/Attendance"), (0, u "EXPECTED"), (0, u "Lcom/example/cohortwise/cohortwise/plan/Attendance;"), (0, .fieldref 8 14), (0, .nameAndType 15 12), (0, u "ALLOCATED"), (0, .integer 268435455), (0, .double 4715268809856909312), (1, .methodref 8 20), (0, .nameAndType 21 22), (0, u "exceeds"), (0, u "(DI)Z"), (0, .integer 2147483647), (0, .integer 500000), (0, .double 4602678819172646912), (1, .class_ 28), (0, u "com/example/cohortwise/cohortwise/plan/AttendanceExceedsPinLaw"), (2, u "law"), (0, u "(IIII)Z")] 3

def k1m0 : Method := { name := "<init>", desc := "()V", sig := { parameters := [], returnType := none }, accessFlags := 2, code := none }
def k1c1 : Code := { maxStack := 6, maxLocals := 13, code := code, exceptionTable := #[], attributes := #[] }
def k1m1 : Method := { name := "law", desc := "(IIII)Z", sig := { parameters := [.int, .int, .int, .int], returnType := some .boolean }, accessFlags := 9, code := some k1c1 }
/-- com/example/cohortwise/cohortwise/plan/AttendanceExceedsPinLaw -/
def k1 : Class := { plain "com/example/cohortwise/cohortwise/plan/AttendanceExceedsPinLaw" (some 0) with
  accessFlags := 49
  interfaces := #[]
  cf := some (fileOf pool1 27 #[] #[{ accessFlags := 2, nameIndex := 5, descriptorIndex := 6, attributes := #[] }, { accessFlags := 9, nameIndex := 31, descriptorIndex := 32, attributes := #[] }] 49 2 #[] #[])
  fields := #[]
  methods := #[k1m0, k1m1]
  instanceTypes := #[]
  staticTypes := #[]
  resolved := Array.replicate 36 none
  statics := none }

def pool2 : Array CpInfo := pool [(1, .class_ 2), (0, u "java/lang/constant/Constable"), (0, .class_ 4), (0, u "java/lang/Object")] 6

/-- java/lang/constant/Constable -/
def k2 : Class := { plain "java/lang/constant/Constable" (some 0) with
  accessFlags := 1537
  interfaces := #[]
  cf := some (fileOf pool2 1 #[] #[] 1537 3 #[] #[])
  fields := #[]
  methods := #[]
  instanceTypes := #[]
  staticTypes := #[]
  resolved := Array.replicate 11 none
  statics := none }

def pool3 : Array CpInfo := pool [(1, .class_ 2), (0, u "java/lang/Comparable"), (0, .class_ 4), (0, u "java/lang/Object")] 7

/-- java/lang/Comparable -/
def k3 : Class := { plain "java/lang/Comparable" (some 0) with
  accessFlags := 1537
  interfaces := #[]
  cf := some (fileOf pool3 1 #[] #[] 1537 3 #[] #[])
  fields := #[]
  methods := #[]
  instanceTypes := #[]
  staticTypes := #[]
  resolved := Array.replicate 12 none
  statics := none }

def pool4 : Array CpInfo := pool [(1, .class_ 2), (0, u "java/io/Serializable"), (0, .class_ 4), (0, u "java/lang/Object")] 2

/-- java/io/Serializable -/
def k4 : Class := { plain "java/io/Serializable" (some 0) with
  accessFlags := 1537
  interfaces := #[]
  cf := some (fileOf pool4 1 #[] #[] 1537 3 #[] #[])
  fields := #[]
  methods := #[]
  instanceTypes := #[]
  staticTypes := #[]
  resolved := Array.replicate 7 none
  statics := none }

def pool5 : Array CpInfo := pool [(2, .class_ 4), (1, u "java/lang/Enum"), (0, u "name"), (0, u "Ljava/lang/String;"), (2, u "ordinal"), (0, u "I"), (1, .class_ 14), (1, u "java/lang/Object"), (4, u "hash"), (86, .class_ 108), (1, u "java/lang/Enum$EnumDesc"), (2, .class_ 112), (0, u "java/lang/constant/Constable"), (0, .class_ 114), (0, u "java/lang/Comparable"), (0, .class_ 116), (0, u "java/io/Serializable")] 87

/-- java/lang/Enum -/
def k5 : Class := { plain "java/lang/Enum" (some 0) with
  accessFlags := 1057
  interfaces := #[2, 3, 4]
  cf := some (fileOf pool5 2 #[.nestMembers #[106]] #[] 1057 12 #[111, 113, 115] #[{ accessFlags := 18, nameIndex := 5, descriptorIndex := 6, attributes := #[] }, { accessFlags := 18, nameIndex := 9, descriptorIndex := 10, attributes := #[] }, { accessFlags := 2, nameIndex := 19, descriptorIndex := 10, attributes := #[] }])
  fields := #[{ name := "name", type := (.object "java/lang/String"), accessFlags := 18, slot := 0, constantValue := 0 }, { name := "ordinal", type := .int, accessFlags := 18, slot := 1, constantValue := 0 }, { name := "hash", type := .int, accessFlags := 2, slot := 2, constantValue := 0 }]
  methods := #[]
  instanceTypes := #[(.object "java/lang/String"), .int, .int]
  staticTypes := #[]
  resolved := Array.replicate 204 none
  statics := none }

def pool6 : Array CpInfo := pool [(1, .class_ 2), (0, u "com/example/cohortwise/cohortwise/plan/Attendance"), (0, .fieldref 1 4), (0, .nameAndType 5 6), (0, u "ALLOCATED"), (0, u "Lcom/example/cohortwise/cohortwise/plan/Attendance;"), (2, u "EXPECTED"), (2, u "$VALUES"), (0, u "[Lcom/example/cohortwise/cohortwise/plan/Attendance;"), (6, .class_ 22), (1, u "java/lang/Enum"), (66, .double 4607182423303617035), (56, u "ROUNDING"), (0, u "D"), (13, u "exceeds"), (0, u "(DI)Z")] 31

def k6c0 : Code := { maxStack := 6, maxLocals := 4, code := prog_19_method_5_code, exceptionTable := #[], attributes := #[] }
def k6m0 : Method := { name := "exceeds", desc := "(DI)Z", sig := { parameters := [.double, .int], returnType := some .boolean }, accessFlags := 1, code := some k6c0 }
/-- com/example/cohortwise/cohortwise/plan/Attendance -/
def k6 : Class := { plain "com/example/cohortwise/cohortwise/plan/Attendance" (some 5) with
  accessFlags := 16433
  interfaces := #[]
  cf := some (fileOf pool6 1 #[] #[{ accessFlags := 1, nameIndex := 161, descriptorIndex := 162, attributes := #[] }] 16433 20 #[] #[{ accessFlags := 16409, nameIndex := 5, descriptorIndex := 6, attributes := #[] }, { accessFlags := 16409, nameIndex := 9, descriptorIndex := 6, attributes := #[] }, { accessFlags := 26, nameIndex := 146, descriptorIndex := 147, attributes := #[] }, { accessFlags := 4122, nameIndex := 12, descriptorIndex := 13, attributes := #[] }])
  fields := #[{ name := "ALLOCATED", type := (.object "com/example/cohortwise/cohortwise/plan/Attendance"), accessFlags := 16409, slot := 0, constantValue := 0 }, { name := "EXPECTED", type := (.object "com/example/cohortwise/cohortwise/plan/Attendance"), accessFlags := 16409, slot := 1, constantValue := 0 }, { name := "ROUNDING", type := .double, accessFlags := 26, slot := 2, constantValue := 0 }, { name := "$VALUES", type := (.array (.object "com/example/cohortwise/cohortwise/plan/Attendance")), accessFlags := 4122, slot := 3, constantValue := 0 }]
  methods := #[k6m0]
  instanceTypes := #[(.object "java/lang/String"), .int, .int]
  staticTypes := #[(.object "com/example/cohortwise/cohortwise/plan/Attendance"), (.object "com/example/cohortwise/cohortwise/plan/Attendance"), .double, (.array (.object "com/example/cohortwise/cohortwise/plan/Attendance"))]
  resolved := Array.replicate 194 none
  statics := some 0 }

def pool7 : Array CpInfo := pool [(1, u "java/lang/Cloneable"), (0, .class_ 1), (0, u "java/lang/Object"), (0, .class_ 3)] 3

/-- java/lang/Cloneable -/
def k7 : Class := { plain "java/lang/Cloneable" (some 0) with
  accessFlags := 1537
  interfaces := #[]
  cf := some (fileOf pool7 2 #[] #[] 1537 4 #[] #[])
  fields := #[]
  methods := #[]
  instanceTypes := #[]
  staticTypes := #[]
  resolved := Array.replicate 8 none
  statics := none }

/-- the primitive byte -/
def k8 : Class := { plain "byte" none with kind := .primitive 'B', accessFlags := 0x411 }
/-- [B -/
def k9 : Class := { plain "[B" (some 0) with kind := .array 8 .byte, interfaces := #[7, 4], accessFlags := 1041 }

/-- the primitive int -/
def k10 : Class := { plain "int" none with kind := .primitive 'I', accessFlags := 0x411 }
/-- [I -/
def k11 : Class := { plain "[I" (some 0) with kind := .array 10 .int, interfaces := #[7, 4], accessFlags := 1041 }

def heap : Heap := #[{ cls := 6, slots := #[.ref 1, .ref 2, .double 0, .null], vm := .statics 6 },
  { cls := 6, slots := #[.null, .int 0, .int 0], vm := .none },
  { cls := 6, slots := #[.null, .int 1, .int 0], vm := .none }]
def classes : Array Class := #[k0, k1, k2, k3, k4, k5, k6, k7, k8, k9, k10, k11]
def interned : List (Array UInt16 × Addr) := []
def slotsUsed : Nat := 10
def theMethod : MethodId := ⟨1, 1⟩
def args0 : Array Value := #[.int 5, .int 6, .int 1, .int 2]
def aboutOver (below : List Frame) : State where
  vm := { classes := classes, interned := interned.toArray }
  heap := heap
  slotsUsed := slotsUsed
  threads := #[{ frames := .invoking theMethod args0 :: below }]
def below0 : List Frame := [.native { method := ⟨0, 0⟩, args := #[] }]
def about1 : State := aboutOver below0
def p0 : Program := .bare "" "" ""
def e0 : Env := launch0.env 0 0 0
theorem w_frames : about1.frames = Frame.invoking theMethod args0 :: below0 := rfl
set_option maxRecDepth 65536 in
theorem w_args : argsFit about1.vm theMethod args0 = true := by decide +kernel
set_option maxRecDepth 65536 in
theorem w_heap : heapFits about1 = true := by decide +kernel
set_option maxRecDepth 65536 in
theorem w_runnable : about1.curStatus? = some .runnable := by decide +kernel
set_option maxRecDepth 65536 in
theorem w_alone : about1.alone = true := by decide +kernel
set_option maxRecDepth 65536 in
theorem w_named : about1.methodNamed? x = some theMethod := by decide +kernel
set_option maxRecDepth 65536 in
theorem w_hears : about1.hears theMethod below0 = true := by decide +kernel
set_option maxRecDepth 65536 in
theorem w_ripe : about1.ripe theMethod args0 below0 = true := by decide +kernel
theorem w_running : about1.status = .running := rfl
set_option maxRecDepth 65536 in
theorem w_room : about1.hasRoom e0.platform room_1 = true :=
  launch0.hasRoom_least _ room_1 (by decide +kernel) (by decide +kernel) (by decide +kernel) (by decide +kernel) (by decide +kernel) (by decide +kernel)
theorem allAtoms_all (ts : List Jvm.Cond) (a : Array Jvm.Value) (st : Jvm.State) : (allAtoms ts).before a st = ts.all (fun c => c.before a st) := by
  induction ts with
  | nil => rfl
  | cons c t ih =>
    show (Jvm.Cond.and c (allAtoms t)).before a st = _
    rw [Jvm.Cond.before_and, ih, List.all_cons]
def words1 : List Jvm.Cond := Jvm.Cond.code x code maxLocals ret :: tables_1
/-- a 'code' word, met by the world's own term for the bytes: nothing is compared byte by byte -/
theorem code_word {y : MethodName} {bytes : ByteArray} {mx : Nat} {rt : Option FieldType} {a : Array Value} {s : State} {m : MethodId} {meth : Method} {c : Code} (h1 : s.methodNamed? y = some m) (h2 : s.vm.method? m = some meth) (h3 : meth.code = some c) (h4 : c.code = bytes)
    (h5 : (c.maxLocals == mx && c.exceptionTable.isEmpty && decide (c.maxStack ≤ mostOperands) && decide (meth.sig.returnType = rt) && !meth.locks && decide (parseMethodDescriptor y.desc = some meth.sig)) = true) : (Jvm.Cond.code y bytes mx rt).before a s = true := by
  simp only [Bool.and_eq_true, beq_iff_eq, Bool.not_eq_true', decide_eq_true_eq] at h5
  obtain ⟨⟨⟨⟨⟨g1, g2⟩, g3⟩, g4⟩, g5⟩, g6⟩ := h5
  simp [Cond.before, Cond.holds, Cond.value, h1, h2, h3, h4, g1, g2, g3, g4, g5, g6]
def isCode : Jvm.Cond → Bool
  | .code _ _ _ _ => true
  | _ => false
theorem all_split {L : List Jvm.Cond} {P : Jvm.Cond → Bool} (h1 : L.all (fun c => isCode c || P c) = true) (h2 : ∀ c ∈ L.filter isCode, P c = true) : L.all P = true := by
  refine List.all_eq_true.mpr fun c hc => ?_
  have h := List.all_eq_true.mp h1 c hc
  rcases Bool.eq_false_or_eq_true (isCode c) with hi | hi
  · exact h2 c (List.mem_filter.mpr ⟨hc, hi⟩)
  · simpa [hi] using h
set_option maxRecDepth 65536 in
theorem w_c0 : (Jvm.Cond.code x code maxLocals ret).before args0 about1 = true := code_word (m := ⟨1, 1⟩) (meth := k1m1) (c := k1c1) (by decide +kernel) rfl rfl rfl (by decide +kernel)
set_option maxRecDepth 65536 in
theorem w_c1 : (Jvm.Cond.code ({ cls := "com/example/cohortwise/cohortwise/plan/Attendance", name := "exceeds", desc := "(DI)Z" } : Jvm.MethodName) prog_19_method_5_code (4 : Nat) (Option.some Jvm.ClassFile.FieldType.boolean)).before args0 about1 = true := code_word (m := ⟨6, 0⟩) (meth := k6m0) (c := k6c0) (by decide +kernel) rfl rfl rfl (by decide +kernel)
def codes1 : List Jvm.Cond := [Jvm.Cond.code x code maxLocals ret, Jvm.Cond.code ({ cls := "com/example/cohortwise/cohortwise/plan/Attendance", name := "exceeds", desc := "(DI)Z" } : Jvm.MethodName) prog_19_method_5_code (4 : Nat) (Option.some Jvm.ClassFile.FieldType.boolean)]
set_option maxRecDepth 65536 in
theorem codes_eq : words1.filter isCode = codes1 := rfl
theorem w_codes : ∀ c ∈ words1.filter isCode, c.before args0 about1 = true := by
  rw [codes_eq]
  intro c hc
  simp only [codes1, List.mem_cons, List.not_mem_nil, or_false] at hc
  rcases hc with rfl | rfl
  · exact w_c0
  · exact w_c1
set_option maxRecDepth 65536 in
theorem w_t1 : words1.all (fun c => isCode c || c.before args0 about1) = true := by decide +kernel
theorem w_tables : (allAtoms (Jvm.Cond.code x code maxLocals ret :: tables_1)).before args0 about1 = true := by
  rw [allAtoms_all]
  show words1.all (fun c => c.before args0 about1) = true
  refine all_split ?_ w_codes
  rw [w_t1]
set_option maxRecDepth 65536 in
theorem w_case : (Jvm.Cond.and given_1 narrow_1).before args0 about1 = true := by decide +kernel
theorem w_applies : (headSpec (Jvm.Cond.code x code maxLocals ret :: tables_1) room_1).applies x e0.platform about1 = true :=
  (Spec.applies_iff w_frames).mpr ⟨w_running, w_runnable, w_alone, w_named, w_hears, w_ripe, w_room, w_tables⟩
theorem atStart : AtStart classFile x code maxLocals ret World_1 tables_1 room_1 Calls_1 rest_1 Pre_1 launch0 p0 e0 about1 theMethod args0 below0 :=
  ⟨lists_1, trivial, launch0.admits_env _ _ _, launch0.least_env, fairChoices_fair.cas, fairChoices_fair.clock, w_frames, w_args, w_heap, w_applies, trivial, trivial, w_case⟩
end start1
theorem witness_1 : WitnessClaimed_1 := ⟨start1.p0, start1.e0, start1.about1, start1.theMethod, start1.args0, start1.below0, start1.atStart⟩
end Jvm.Pilot.@@N@@
