import JvmDerived
import JvmDerived.Pilot.@@N@@Statement
import JvmDerived.Pilot.@@N@@Code
set_option linter.unusedVariables false
set_option linter.unusedSimpArgs false
namespace Jvm.Pilot.@@N@@
open Jvm Jvm.ClassFile Sem Op Lib Jvm.Free Jvm.Stand Jvm.LawKit Jvm.RoadKit Bundle Jvm.Free.Fl Jvm.Pilot.@@N@@.Jvm.D
theorem own_go {tb : Tables} {e : Env} {below : List Frame} {A B : State} {F : State → Outcome → Prop} (h : ∀ t, Steps tb e below A t → Steps tb e below B t) (k : ∃ s₂ o, Steps tb e below A s₂ ∧ F s₂ o) : ∃ s₂ o, Steps tb e below B s₂ ∧ F s₂ o := by
  obtain ⟨s₂, o, h1, h2⟩ := k
  exact ⟨s₂, o, h _ h1, h2⟩
theorem own_open {tb : Tables} {e : Env} {below : List Frame} {B : State} {F : State → Outcome → Prop} (h : ∀ G : State → Prop, (∀ A B, (∀ t, Steps tb e below A t → Steps tb e below B t) → G A → G B) → (∀ A, (∃ s₂ o, Steps tb e below A s₂ ∧ F s₂ o) → G A) → G B) : ∃ s₂ o, Steps tb e below B s₂ ∧ F s₂ o :=
  h (fun A => ∃ s₂ o, Steps tb e below A s₂ ∧ F s₂ o) (fun _ _ => own_go) (fun _ k => k)
/-! ### doubles as whole numbers of least units (2^-1074), and how the operations round them -/
abbrev own_z (a : UInt64) : Int := FP.Core.zval FP.Core.b64 (FP.Core.val64 a)
def own_M : Nat := 2 ^ 1074
theorem own_M_pos : 0 < own_M := Nat.two_pow_pos _
theorem own_qmin : (-FP.Core.b64.qmin).toNat = 1074 := by decide
theorem own_zcmp {a b : UInt64} (ha : NoNaN64 a) (hb : NoNaN64 b) : FP.dcmp a b = some (compare (own_z a) (own_z b)) := FP.Core.dcmp_zval (val64_no.mp ha) (val64_no.mp hb)
theorem own_zint {i : Int} {a : UInt64} (h : FP.Core.DInt i a) : own_z a = i * (own_M : Int) := by
  have q := FP.Core.whole_zval FP.Core.good_b64 (FP.Core.val64_fits a) h
  rw [own_qmin] at q
  exact q
theorem own_fin {a : UInt64} (h : Fin64 a) : ∃ s c q, FP.Core.val64 a = .fin s c q ∧ FP.Core.fits FP.Core.b64 (.fin s c q) := by
  obtain ⟨s, c, q, e⟩ := fin64_core.mp h
  have f := FP.Core.val64_fits a
  rw [e] at f
  exact ⟨s, c, q, e, f⟩
theorem own_sum_le {a b V : UInt64} (ha : Fin64 a) (hb : Fin64 b) (hV : NoNaN64 V) (h : own_z a + own_z b ≤ own_z V) : own_z (FP.dadd a b) ≤ own_z V := by
  obtain ⟨s, c, q, e1, f1⟩ := own_fin ha
  obtain ⟨t, d, r, e2, f2⟩ := own_fin hb
  obtain ⟨sg, n, e, hs, he, hu⟩ := FP.Core.sum_units f1 f2
  show FP.Core.zval _ (FP.Core.val64 (FP.Core.dadd a b)) ≤ _
  simp only [own_z, e1, e2] at h
  rw [FP.Core.val64_dadd, e1, e2, hs]
  refine FP.Core.zval_round_le FP.Core.good_b64 (FP.Core.val64_fits V) (val64_no.mp hV) (Int.le_refl _) he ?_
  rw [hu, Int.sub_self]
  simpa using h
theorem own_sum_ge {a b V : UInt64} (ha : Fin64 a) (hb : Fin64 b) (hV : NoNaN64 V) (h : own_z V ≤ own_z a + own_z b) : own_z V ≤ own_z (FP.dadd a b) := by
  obtain ⟨s, c, q, e1, f1⟩ := own_fin ha
  obtain ⟨t, d, r, e2, f2⟩ := own_fin hb
  obtain ⟨sg, n, e, hs, he, hu⟩ := FP.Core.sum_units f1 f2
  show _ ≤ FP.Core.zval _ (FP.Core.val64 (FP.Core.dadd a b))
  simp only [own_z, e1, e2] at h
  rw [FP.Core.val64_dadd, e1, e2, hs]
  refine FP.Core.zval_round_ge FP.Core.good_b64 (FP.Core.val64_fits V) (val64_no.mp hV) (Int.le_refl _) he ?_
  rw [hu, Int.sub_self]
  simpa using h
theorem own_signed (s t : Bool) (x y : Nat) : FP.Core.signed (s != t) (x * y) = FP.Core.signed s x * FP.Core.signed t y := by
  cases s <;> cases t <;> simp [FP.Core.signed, Int.mul_neg, Int.neg_mul]
theorem own_2qmin : (FP.Core.b64.qmin - 2 * FP.Core.b64.qmin).toNat = 1074 := by decide
theorem own_mul_le {a b V : UInt64} (ha : Fin64 a) (hb : Fin64 b) (hV : NoNaN64 V) (h : own_z a * own_z b ≤ own_z V * (own_M : Int)) : own_z (FP.dmul a b) ≤ own_z V := by
  obtain ⟨s, c, q, e1, f1⟩ := own_fin ha
  obtain ⟨t, d, r, e2, f2⟩ := own_fin hb
  obtain ⟨hp, he, hu⟩ := FP.Core.product_units f1 f2
  show FP.Core.zval _ (FP.Core.val64 (FP.Core.dmul a b)) ≤ _
  simp only [own_z, e1, e2] at h
  rw [FP.Core.val64_dmul, e1, e2, hp]
  refine FP.Core.zval_round_le FP.Core.good_b64 (e0 := 2 * FP.Core.b64.qmin) (FP.Core.val64_fits V) (val64_no.mp hV) (by decide) he ?_
  rw [hu, own_signed, own_2qmin]
  exact h
theorem own_mul_ge {a b V : UInt64} (ha : Fin64 a) (hb : Fin64 b) (hV : NoNaN64 V) (h : own_z V * (own_M : Int) ≤ own_z a * own_z b) : own_z V ≤ own_z (FP.dmul a b) := by
  obtain ⟨s, c, q, e1, f1⟩ := own_fin ha
  obtain ⟨t, d, r, e2, f2⟩ := own_fin hb
  obtain ⟨hp, he, hu⟩ := FP.Core.product_units f1 f2
  show _ ≤ FP.Core.zval _ (FP.Core.val64 (FP.Core.dmul a b))
  simp only [own_z, e1, e2] at h
  rw [FP.Core.val64_dmul, e1, e2, hp]
  refine FP.Core.zval_round_ge FP.Core.good_b64 (e0 := 2 * FP.Core.b64.qmin) (FP.Core.val64_fits V) (val64_no.mp hV) (by decide) he ?_
  rw [hu, own_signed, own_2qmin]
  exact h
/-! ### whole numbers that a double holds, as bounds -/
/-- a whole number of 53 digits at the most, with noughts behind -/
def own_Rep (r : Int) : Prop := ∃ c k : Nat, c < 2 ^ 53 ∧ k ≤ 900 ∧ r = ((c * 2 ^ k : Nat) : Int)
theorem own_rep {r : Int} (h : own_Rep r) : ∃ V : UInt64, Fin64 V ∧ own_z V = r * (own_M : Int) := by
  obtain ⟨c, k, hc, hk, rfl⟩ := h
  have hq : FP.Core.b64.qmin = -1074 := by decide
  have hm : FP.Core.b64.qmax = 971 := by decide
  obtain ⟨c', q', h1, h2⟩ := FP.Core.round_exact FP.Core.good_b64 false (c := c) (q := (k : Int)) hc (by omega) (by omega)
  have hf := FP.Core.round_fits FP.Core.good_b64 (.fin false c (k : Int))
  have hv := FP.Core.val64_of64 hf
  refine ⟨FP.Core.of64 (FP.Core.round FP.Core.b64 (.fin false c (k : Int))), fin64_core.mpr ⟨_, _, _, hv.trans h1⟩, ?_⟩
  unfold own_z
  rw [hv, h1]
  show ((FP.Core.inUnits c' q' FP.Core.b64.qmin : Nat) : Int) = _
  rw [h2, ← Int.natCast_mul]
  unfold FP.Core.inUnits own_M
  rw [show ((k : Int) - FP.Core.b64.qmin).toNat = k + 1074 by omega, Nat.pow_add, Nat.mul_assoc]
theorem own_ofInt (i : Int) : FP.Core.signed (decide (i < 0)) (FP.Core.inUnits i.natAbs 0 FP.Core.b64.qmin) = i * (own_M : Int) := by
  unfold FP.Core.inUnits
  rw [Int.zero_sub, own_qmin]
  show FP.Core.signed (decide (i < 0)) (i.natAbs * own_M) = _
  unfold FP.Core.signed
  by_cases h : i < 0
  · rw [if_pos (decide_eq_true h), Int.natCast_mul, ← Int.neg_mul]
    congr 1
    omega
  · rw [if_neg (by simpa using h), Int.natCast_mul]
    congr 1
    omega
theorem own_l2d_le {x : Int64} {V : UInt64} (hV : NoNaN64 V) (h : x.toInt * (own_M : Int) ≤ own_z V) : own_z (FP.l2d x) ≤ own_z V := by
  show FP.Core.zval _ (FP.Core.val64 (FP.Core.l2d x)) ≤ _
  rw [FP.Core.val64_l2d]
  refine FP.Core.zval_round_le FP.Core.good_b64 (e0 := FP.Core.b64.qmin) (FP.Core.val64_fits V) (val64_no.mp hV) (Int.le_refl _) (by decide) ?_
  rw [own_ofInt, Int.sub_self]
  simpa using h
theorem own_l2d_ge {x : Int64} {V : UInt64} (hV : NoNaN64 V) (h : own_z V ≤ x.toInt * (own_M : Int)) : own_z V ≤ own_z (FP.l2d x) := by
  show _ ≤ FP.Core.zval _ (FP.Core.val64 (FP.Core.l2d x))
  rw [FP.Core.val64_l2d]
  refine FP.Core.zval_round_ge FP.Core.good_b64 (e0 := FP.Core.b64.qmin) (FP.Core.val64_fits V) (val64_no.mp hV) (Int.le_refl _) (by decide) ?_
  rw [own_ofInt, Int.sub_self]
  simpa using h
def own_Ub (a : UInt64) (r : Int) : Prop := own_z a ≤ r * (own_M : Int)
def own_Lb (a : UInt64) (r : Int) : Prop := r * (own_M : Int) ≤ own_z a
theorem own_mulM {a b : Int} (h : a ≤ b) : a * (own_M : Int) ≤ b * (own_M : Int) := Int.mul_le_mul_of_nonneg_right h (Int.natCast_nonneg _)
theorem own_ub_l2d {x : Int64} {r : Int} (hr : own_Rep r) (h : x.toInt ≤ r) : own_Ub (FP.l2d x) r := by
  obtain ⟨V, fV, zV⟩ := own_rep hr
  unfold own_Ub
  rw [← zV]
  exact own_l2d_le fV.noNaN (by rw [zV]; exact own_mulM h)
theorem own_lb_l2d {x : Int64} {r : Int} (hr : own_Rep r) (h : r ≤ x.toInt) : own_Lb (FP.l2d x) r := by
  obtain ⟨V, fV, zV⟩ := own_rep hr
  unfold own_Lb
  rw [← zV]
  exact own_l2d_ge fV.noNaN (by rw [zV]; exact own_mulM h)
theorem own_ub_add {a b : UInt64} {r1 r2 r : Int} (fa : Fin64 a) (fb : Fin64 b) (ha : own_Ub a r1) (hb : own_Ub b r2) (hr : own_Rep r) (h : r1 + r2 ≤ r) : own_Ub (FP.dadd a b) r := by
  obtain ⟨V, fV, zV⟩ := own_rep hr
  unfold own_Ub at *
  rw [← zV]
  refine own_sum_le fa fb fV.noNaN ?_
  have q := own_mulM h
  rw [Int.add_mul] at q
  rw [zV]
  omega
theorem own_lb_add {a b : UInt64} {r1 r2 r : Int} (fa : Fin64 a) (fb : Fin64 b) (ha : own_Lb a r1) (hb : own_Lb b r2) (hr : own_Rep r) (h : r ≤ r1 + r2) : own_Lb (FP.dadd a b) r := by
  obtain ⟨V, fV, zV⟩ := own_rep hr
  unfold own_Lb at *
  rw [← zV]
  refine own_sum_ge fa fb fV.noNaN ?_
  have q := own_mulM h
  rw [Int.add_mul] at q
  rw [zV]
  omega
theorem own_rep_dvd {r : Int} (k : Nat) (hk : k ≤ 900) (h0 : 0 ≤ r) (h1 : r % (2 ^ k : Nat) = 0) (h2 : r < (2 ^ k : Nat) * 9007199254740992) : own_Rep r := by
  obtain ⟨n, rfl⟩ := Int.eq_ofNat_of_zero_le h0
  have hp := Nat.two_pow_pos k
  have h1' : n % 2 ^ k = 0 := by
    rw [← Int.natCast_emod] at h1
    exact Int.natCast_eq_zero.mp h1
  have h2' : n < 2 ^ k * 9007199254740992 := by
    have : ((n : Nat) : Int) < ((2 ^ k * 9007199254740992 : Nat) : Int) := by rw [Int.natCast_mul]; exact h2
    exact Int.ofNat_lt.mp this
  refine ⟨n / 2 ^ k, k, ?_, hk, ?_⟩
  · rw [Nat.div_lt_iff_lt_mul hp, Nat.mul_comm]; exact h2'
  · rw [Nat.div_mul_cancel (Nat.dvd_of_mod_eq_zero h1')]
theorem own_r512 {r : Int} (h0 : 0 ≤ r) (h1 : r % 512 = 0) (h2 : r < 4611686018427387904) : own_Rep r := own_rep_dvd 9 (by decide) h0 h1 (by show r < 512 * 9007199254740992; omega)
theorem own_r1024 {r : Int} (h0 : 0 ≤ r) (h1 : r % 1024 = 0) (h2 : r < 9223372036854775808) : own_Rep r := own_rep_dvd 10 (by decide) h0 h1 (by show r < 1024 * 9007199254740992; omega)
/-- 2^62 as a double -/
abbrev own_C : UInt64 := 4886405595696988160
theorem own_C_fin : Fin64 own_C := by unfold Fin64; decide
theorem own_C_z : own_z own_C = 4611686018427387904 * (own_M : Int) := by
  have h1 := own_ub_l2d (x := 4611686018427387904) (r := 4611686018427387904) (own_r1024 (by decide) (by decide) (by decide)) (by decide)
  have h2 := own_lb_l2d (x := 4611686018427387904) (r := 4611686018427387904) (own_r1024 (by decide) (by decide) (by decide)) (by decide)
  have e : FP.l2d 4611686018427387904 = own_C := by decide +kernel
  rw [e] at h1 h2
  exact Int.le_antisymm h1 h2
abbrev own_37 : UInt64 := 4630404104378646528
theorem own_37_eq : own_37 = FP.l2d 37 := by decide +kernel
/-- the double that fit compares with 2^62 -/
def own_sum (m : UInt64) (ww hh : Int64) : UInt64 := FP.dadd (FP.dadd (FP.l2d hh) (FP.l2d ww)) (FP.dmul own_37 m)
def own_fit (m : UInt64) (ww hh : Int64) : Int32 := if cmpValue (FP.dcmp (own_sum m ww hh) own_C) .g < (0 : Int32) then 1 else 0
theorem own_s1_mag (ww hh : Int64) : Mag64 1090 (FP.dadd (FP.l2d hh) (FP.l2d ww)) := dadd_mag (l2d_mag hh) (l2d_mag ww) (by decide)
theorem own_p_mag (mi : Int32) : Mag64 1122 (FP.dmul own_37 (FP.i2d mi)) := by
  rw [own_37_eq]
  exact (dmul_mag (l2d_mag 37) (i2d_mag mi) (by decide) (by decide)).mono (by decide)
theorem own_sum_mag (mi : Int32) (ww hh : Int64) : Mag64 1124 (own_sum (FP.i2d mi) ww hh) := dadd_mag ((own_s1_mag ww hh).mono (by decide)) (own_p_mag mi) (by decide)
theorem own_fit01 (m : UInt64) (ww hh : Int64) : own_fit m ww hh = 0 ∨ own_fit m ww hh = 1 := by
  unfold own_fit; split <;> simp
theorem own_fit_lt {mi : Int32} {ww hh : Int64} (h : own_z (own_sum (FP.i2d mi) ww hh) < 4611686018427387904 * (own_M : Int)) : own_fit (FP.i2d mi) ww hh = 1 := by
  have n1 := ((own_sum_mag mi ww hh).fin (by decide)).noNaN
  have c : FP.dcmp (own_sum (FP.i2d mi) ww hh) own_C = some .lt := by
    rw [own_zcmp n1 own_C_fin.noNaN, own_C_z]
    show some (if _ then _ else _) = _
    rw [if_pos h]
  unfold own_fit
  rw [c]
  rfl
theorem own_fit_ge {mi : Int32} {ww hh : Int64} (h : 4611686018427387904 * (own_M : Int) ≤ own_z (own_sum (FP.i2d mi) ww hh)) : own_fit (FP.i2d mi) ww hh = 0 := by
  have n1 := ((own_sum_mag mi ww hh).fin (by decide)).noNaN
  have c : FP.dcmp (own_sum (FP.i2d mi) ww hh) own_C = some .eq ∨ FP.dcmp (own_sum (FP.i2d mi) ww hh) own_C = some .gt := by
    rw [own_zcmp n1 own_C_fin.noNaN, own_C_z]
    show some (if _ then _ else (if _ then _ else _)) = _ ∨ some (if _ then _ else (if _ then _ else _)) = _
    rw [if_neg (by omega)]
    split <;> simp
  unfold own_fit
  rcases c with c | c <;> rw [c] <;> rfl
/-- the product 37.0 * m is the whole number -/
theorem own_prod {mi : Int32} (h1 : 1 ≤ mi.toInt) (h2 : mi.toInt ≤ 1073741824) : own_z (FP.dmul own_37 (FP.i2d mi)) = (37 * mi.toInt) * (own_M : Int) := by
  have e1 : (37 : Int64).toInt = 37 := rfl
  have e2 : mi.toInt64.toInt = mi.toInt := c_i2l mi
  have e3 : (37 * mi.toInt64 : Int64).toInt = 37 * mi.toInt := by
    have q := c_lmul 37 mi.toInt64
    have r := rng64 (37 * mi.toInt64)
    rw [e1, e2] at q
    omega
  have d : FP.dmul own_37 (FP.i2d mi) = FP.l2d (37 * mi.toInt64) := by
    rw [own_37_eq, i2d_w]
    refine dmul_w ⟨by decide, by decide⟩ ⟨by omega, by omega⟩ (by decide) (fun q => ?_) (by rw [e1]; omega) (by rw [e1]; omega)
    rw [q] at e2
    have : (0 : Int64).toInt = 0 := rfl
    omega
  rw [d, own_zint (FP.Core.l2d_whole (a := 37 * mi.toInt64) ⟨by omega, by omega⟩), e3]
section Law
variable {mi : Int32} {ww hh : Int64}
theorem own_up (h0 : 0 ≤ hh.toInt) (w0 : 0 ≤ ww.toInt) (m1 : 1 ≤ mi.toInt) (m2 : mi.toInt ≤ 1073741824) (ht : hh.toInt + ww.toInt + 37 * mi.toInt + 2048 ≤ 4611686018427387904) : own_fit (FP.i2d mi) ww hh = 1 := by
  refine own_fit_lt ?_
  have f1 := (own_s1_mag ww hh).fin (by decide)
  have f2 := (own_p_mag mi).fin (by decide)
  have u1 := own_ub_l2d (x := hh) (r := (hh.toInt + 511) / 512 * 512) (own_r512 (by omega) (by omega) (by omega)) (by omega)
  have u2 := own_ub_l2d (x := ww) (r := (ww.toInt + 511) / 512 * 512) (own_r512 (by omega) (by omega) (by omega)) (by omega)
  have u3 := own_ub_add (l2d_fin hh) (l2d_fin ww) u1 u2 (r := (hh.toInt + 511) / 512 * 512 + (ww.toInt + 511) / 512 * 512) (own_r512 (by omega) (by omega) (by omega)) (Int.le_refl _)
  have u4 : own_Ub (FP.dmul own_37 (FP.i2d mi)) (37 * mi.toInt) := Int.le_of_eq (own_prod m1 m2)
  have u5 := own_ub_add f1 f2 u3 u4 (r := (hh.toInt + 511) / 512 * 512 + (ww.toInt + 511) / 512 * 512 + (37 * mi.toInt + 511) / 512 * 512) (own_r512 (by omega) (by omega) (by omega)) (by omega)
  refine Int.lt_of_le_of_lt u5 ?_
  refine Int.mul_lt_mul_of_pos_right (by omega) ?_
  have := own_M_pos
  omega
theorem own_down (h0 : 0 ≤ hh.toInt) (w0 : 0 ≤ ww.toInt) (h1 : hh.toInt < 4611686018427387904) (w1 : ww.toInt < 4611686018427387904) (m1 : 1 ≤ mi.toInt) (m2 : mi.toInt ≤ 1073741824) (ht : 4611686018427387904 + 2048 ≤ hh.toInt + ww.toInt + 37 * mi.toInt) : own_fit (FP.i2d mi) ww hh = 0 := by
  refine own_fit_ge ?_
  have f1 := (own_s1_mag ww hh).fin (by decide)
  have f2 := (own_p_mag mi).fin (by decide)
  have u1 := own_lb_l2d (x := hh) (r := hh.toInt / 512 * 512) (own_r512 (by omega) (by omega) (by omega)) (by omega)
  have u2 := own_lb_l2d (x := ww) (r := ww.toInt / 512 * 512) (own_r512 (by omega) (by omega) (by omega)) (by omega)
  have u3 := own_lb_add (l2d_fin hh) (l2d_fin ww) u1 u2 (r := (hh.toInt / 512 * 512 + ww.toInt / 512 * 512) / 1024 * 1024) (own_r1024 (by omega) (by omega) (by omega)) (by omega)
  have u4 : own_Lb (FP.dmul own_37 (FP.i2d mi)) (37 * mi.toInt) := Int.le_of_eq (own_prod m1 m2).symm
  exact own_lb_add f1 f2 u3 u4 (r := 4611686018427387904) (own_r1024 (by omega) (by omega) (by omega)) (by omega)
theorem own_great (h0 : 0 ≤ hh.toInt) (w0 : 0 ≤ ww.toInt) (m1 : 1 ≤ mi.toInt) (m2 : mi.toInt ≤ 1073741824) (ht : 4611686018427387904 ≤ hh.toInt ∨ 4611686018427387904 ≤ ww.toInt) : own_fit (FP.i2d mi) ww hh = 0 := by
  refine own_fit_ge ?_
  have f1 := (own_s1_mag ww hh).fin (by decide)
  have f2 := (own_p_mag mi).fin (by decide)
  have rz : own_Rep 0 := own_r1024 (by decide) (by decide) (by decide)
  have rC : own_Rep 4611686018427387904 := own_r1024 (by decide) (by decide) (by decide)
  have u3 : own_Lb (FP.dadd (FP.l2d hh) (FP.l2d ww)) 4611686018427387904 := by
    rcases ht with ht | ht
    · exact own_lb_add (l2d_fin hh) (l2d_fin ww) (own_lb_l2d rC ht) (own_lb_l2d rz w0) rC (by omega)
    · exact own_lb_add (l2d_fin hh) (l2d_fin ww) (own_lb_l2d rz h0) (own_lb_l2d rC ht) rC (by omega)
  have u4 : own_Lb (FP.dmul own_37 (FP.i2d mi)) (37 * mi.toInt) := Int.le_of_eq (own_prod m1 m2).symm
  exact own_lb_add f1 f2 u3 u4 (r := 4611686018427387904) rC (by omega)
/-- where all are multiples of 1024 nothing is rounded up to 2^62 -/
theorem own_even (h0 : 0 ≤ hh.toInt) (w0 : 0 ≤ ww.toInt) (h1 : hh.toInt < 4611686018427387904) (w1 : ww.toInt < 4611686018427387904) (h3 : hh.toInt % 1024 = 0) (w3 : ww.toInt % 1024 = 0) (m1 : 1 ≤ mi.toInt) (m2 : mi.toInt ≤ 1073741824) (m3 : mi.toInt % 1024 = 0) :
    own_fit (FP.i2d mi) ww hh = if hh.toInt + ww.toInt < 4611686018427387904 - 37 * mi.toInt then 1 else 0 := by
  have f1 := (own_s1_mag ww hh).fin (by decide)
  have f2 := (own_p_mag mi).fin (by decide)
  have rh : own_Rep hh.toInt := own_r1024 h0 h3 (by omega)
  have rw' : own_Rep ww.toInt := own_r1024 w0 w3 (by omega)
  have rs : own_Rep (hh.toInt + ww.toInt) := own_r1024 (by omega) (by omega) (by omega)
  by_cases ht : hh.toInt + ww.toInt < 4611686018427387904 - 37 * mi.toInt
  · rw [if_pos ht]
    refine own_fit_lt ?_
    have u3 := own_ub_add (l2d_fin hh) (l2d_fin ww) (own_ub_l2d rh (Int.le_refl _)) (own_ub_l2d rw' (Int.le_refl _)) rs (Int.le_refl _)
    have u4 : own_Ub (FP.dmul own_37 (FP.i2d mi)) (37 * mi.toInt) := Int.le_of_eq (own_prod m1 m2)
    have u5 := own_ub_add f1 f2 u3 u4 (r := hh.toInt + ww.toInt + 37 * mi.toInt) (own_r1024 (by omega) (by omega) (by omega)) (Int.le_refl _)
    refine Int.lt_of_le_of_lt u5 ?_
    refine Int.mul_lt_mul_of_pos_right (by omega) ?_
    have := own_M_pos
    omega
  · rw [if_neg ht]
    refine own_fit_ge ?_
    have u3 := own_lb_add (l2d_fin hh) (l2d_fin ww) (own_lb_l2d rh (Int.le_refl _)) (own_lb_l2d rw' (Int.le_refl _)) rs (Int.le_refl _)
    have u4 : own_Lb (FP.dmul own_37 (FP.i2d mi)) (37 * mi.toInt) := Int.le_of_eq (own_prod m1 m2).symm
    exact own_lb_add f1 f2 u3 u4 (r := 4611686018427387904) (own_r1024 (by decide) (by decide) (by decide)) (by omega)
end Law
/-! ### the law's integers -/
theorem own_maskA (h : Int64) : 0 ≤ (h &&& (9223372036854774784 : Int64)).toInt ∧ (h &&& (9223372036854774784 : Int64)).toInt < 9223372036854775808 ∧ (h &&& (9223372036854774784 : Int64)).toInt % 1024 = 0 := by
  have e1 : (h &&& (9223372036854774784 : Int64)).toBitVec = h.toBitVec &&& 9223372036854774784#64 := rfl
  have b : (h &&& (9223372036854774784 : Int64)).toInt = ((h &&& (9223372036854774784 : Int64)).toBitVec).toInt := rfl
  rw [b, e1]
  have n1 : (h.toBitVec &&& 9223372036854774784#64).toNat = h.toBitVec.toNat &&& 9223372036854774784 := BitVec.toNat_and ..
  have n2 : h.toBitVec.toNat &&& 9223372036854774784 ≤ 9223372036854774784 := Nat.and_le_right
  have n3 : (h.toBitVec.toNat &&& 9223372036854774784) % 1024 = 0 := by
    have := Nat.and_mod_two_pow (a := h.toBitVec.toNat) (b := 9223372036854774784) (n := 10)
    rw [show (2 : Nat) ^ 10 = 1024 by decide] at this
    rw [this, show 9223372036854774784 % 1024 = 0 by decide, Nat.and_zero]
  rw [BitVec.toInt_eq_toNat_of_lt (by rw [n1]; omega), n1]
  omega
theorem own_maskB (h : Int64) : 0 ≤ (h &&& (9223372036854775807 : Int64)).toInt ∧ (h &&& (9223372036854775807 : Int64)).toInt < 9223372036854775808 := by
  have q := c_maskL h 9223372036854775807 63 (by decide) (by decide)
  have r := rng64 (h &&& (9223372036854775807 : Int64))
  omega
theorem own_mA (k : Int32) : 1 ≤ ((((k &&& (1048575 : Int32)) + (1 : Int32)) <<< ((10 : Int32) &&& 31))).toInt ∧ ((((k &&& (1048575 : Int32)) + (1 : Int32)) <<< ((10 : Int32) &&& 31))).toInt ≤ 1073741824 ∧ ((((k &&& (1048575 : Int32)) + (1 : Int32)) <<< ((10 : Int32) &&& 31))).toInt % 1024 = 0 := by
  have h1 := c_and k 1048575 (by decide)
  have h2 : (1048575 : Int32).toInt = 1048575 := rfl
  have h3 := c_iadd (k &&& (1048575 : Int32)) 1
  have h4 := rng32 ((k &&& (1048575 : Int32)) + (1 : Int32))
  have h5 : (1 : Int32).toInt = 1 := rfl
  have h6 := c_ishl ((k &&& (1048575 : Int32)) + (1 : Int32)) 10 10 (by decide)
  have h7 := rng32 (((k &&& (1048575 : Int32)) + (1 : Int32)) <<< ((10 : Int32) &&& 31))
  rw [show ((2 ^ 10 : Nat) : Int) = 1024 by decide] at h6
  omega
theorem own_mB (k : Int32) : 1 ≤ ((k &&& (1073741823 : Int32)) + (1 : Int32)).toInt ∧ ((k &&& (1073741823 : Int32)) + (1 : Int32)).toInt ≤ 1073741824 := by
  have h1 := c_and k 1073741823 (by decide)
  have h2 : (1073741823 : Int32).toInt = 1073741823 := rfl
  have h3 := c_iadd (k &&& (1073741823 : Int32)) 1
  have h4 := rng32 ((k &&& (1073741823 : Int32)) + (1 : Int32))
  have h5 : (1 : Int32).toInt = 1 := rfl
  omega
theorem own_m37 {mi : Int32} (m1 : 1 ≤ mi.toInt) (m2 : mi.toInt ≤ 1073741824) : ((37 : Int64) * mi.toInt64).toInt = 37 * mi.toInt := by
  have e1 : (37 : Int64).toInt = 37 := rfl
  have e2 : mi.toInt64.toInt = mi.toInt := c_i2l mi
  have q := c_lmul 37 mi.toInt64
  have r := rng64 (37 * mi.toInt64)
  rw [e1, e2] at q
  omega
theorem own_lc (x y : Int64) : lcmpW x y < (0 : Int32) ↔ x.toInt < y.toInt := (lw_lt x y).trans Int64.lt_iff_toInt_lt
theorem own_addL {a b : Int64} (h1 : 0 ≤ a.toInt) (h2 : a.toInt < 4611686018427387904) (h3 : 0 ≤ b.toInt) (h4 : b.toInt < 4611686018427387904) : (a + b).toInt = a.toInt + b.toInt := by
  have q := c_ladd a b
  have r := rng64 (a + b)
  omega
theorem own_subL {k a : Int64} (h1 : 4000000000000000000 ≤ k.toInt) (h3 : 0 ≤ a.toInt) (h4 : a.toInt < 100000000000) : (k - a).toInt = k.toInt - a.toInt := by
  have q := c_lsub k a
  have r := rng64 (k - a)
  have s := rng64 k
  omega
theorem own_big0 : (4611686018427387904 : Int64).toInt = 4611686018427387904 := by decide
theorem own_big1 : (4611686018427385856 : Int64).toInt = 4611686018427385856 := by decide
theorem own_big2 : (4611686018427389952 : Int64).toInt = 4611686018427389952 := by decide
theorem own_aligned {mi : Int32} {ww hh : Int64} {g : Int32} (hg : own_fit (FP.i2d mi) ww hh = g) (h0 : 0 ≤ hh.toInt) (w0 : 0 ≤ ww.toInt) (h3 : hh.toInt % 1024 = 0) (w3 : ww.toInt % 1024 = 0) (m1 : 1 ≤ mi.toInt) (m2 : mi.toInt ≤ 1073741824) (m3 : mi.toInt % 1024 = 0) :
    g = (if (lcmpW hh (4611686018427387904 : Int64)) < (0 : Int32) then (if (lcmpW ww (4611686018427387904 : Int64)) < (0 : Int32) then (if (lcmpW (hh + ww) ((4611686018427387904 : Int64) - ((37 : Int64) * (mi.toInt64)))) < (0 : Int32) then (1 : Int32) else (0 : Int32)) else (0 : Int32)) else (0 : Int32)) := by
  have q := own_m37 m1 m2
  rw [← hg]
  by_cases hA : lcmpW hh (4611686018427387904 : Int64) < (0 : Int32)
  · rw [if_pos hA]
    rw [own_lc, own_big0] at hA
    by_cases hB : lcmpW ww (4611686018427387904 : Int64) < (0 : Int32)
    · rw [if_pos hB]
      rw [own_lc, own_big0] at hB
      have e1 := own_addL h0 hA w0 hB
      have e2 := own_subL (k := 4611686018427387904) (a := (37 : Int64) * (mi.toInt64)) (by decide) (by omega) (by omega)
      rw [own_even h0 w0 hA hB h3 w3 m1 m2 m3]
      by_cases hC : lcmpW (hh + ww) ((4611686018427387904 : Int64) - ((37 : Int64) * (mi.toInt64))) < (0 : Int32)
      · rw [if_pos hC]
        rw [own_lc, e1, e2, own_big0, q] at hC
        rw [if_pos hC]
      · rw [if_neg hC]
        rw [own_lc, e1, e2, own_big0, q] at hC
        rw [if_neg hC]
    · rw [if_neg hB]
      rw [own_lc, own_big0] at hB
      exact own_great h0 w0 m1 m2 (Or.inr (by omega))
  · rw [if_neg hA]
    rw [own_lc, own_big0] at hA
    exact own_great h0 w0 m1 m2 (Or.inl (by omega))
theorem ef_1 (m : MethodId) (x0 : UInt64) (x1 : Int64) (x2 : Int64) : entryFrame m #[(.double x0), (.long x1), (.long x2)] 6 = mkF m 0 #[.val (.double x0), .second, .val (.long x1), .second, .val (.long x2), .second] [] := by first | (simp [entryFrame, mkF, argsToLocals, Value.category]; done) | rfl
theorem pn_com_example_wavebook_wavebook_Traffic : plainName "com/example/wavebook/wavebook/Traffic" = true := by first | (simp [plainName, overriddenIn]; done) | decide +kernel
theorem d1_0 : decode prog_60_method_3_code 0 = .ok (.lload 4, 2) := by decide +kernel
theorem d1_2 : decode prog_60_method_3_code 2 = .ok (.l2d, 1) := by decide +kernel
theorem d1_3 : decode prog_60_method_3_code 3 = .ok (.lload_n 2, 1) := by decide +kernel
theorem d1_4 : decode prog_60_method_3_code 4 = .ok (.l2d, 1) := by decide +kernel
theorem d1_5 : decode prog_60_method_3_code 5 = .ok (.dadd, 1) := by decide +kernel
theorem d1_6 : decode prog_60_method_3_code 6 = .ok (.ldc2_w 49, 3) := by decide +kernel
theorem d1_9 : decode prog_60_method_3_code 9 = .ok (.dload_n 0, 1) := by decide +kernel
theorem d1_10 : decode prog_60_method_3_code 10 = .ok (.dmul, 1) := by decide +kernel
theorem d1_11 : decode prog_60_method_3_code 11 = .ok (.dadd, 1) := by decide +kernel
theorem d1_12 : decode prog_60_method_3_code 12 = .ok (.ldc2_w 51, 3) := by decide +kernel
theorem d1_15 : decode prog_60_method_3_code 15 = .ok (.dcmp .g, 1) := by decide +kernel
theorem d1_16 : decode prog_60_method_3_code 16 = .ok (.ifCond .ge 7, 3) := by decide +kernel
theorem d1_19 : decode prog_60_method_3_code 19 = .ok (.iconst 1, 1) := by decide +kernel
theorem d1_20 : decode prog_60_method_3_code 20 = .ok (.goto 4, 3) := by decide +kernel
theorem d1_24 : decode prog_60_method_3_code 24 = .ok (.ireturn, 1) := by decide +kernel
theorem d1_23 : decode prog_60_method_3_code 23 = .ok (.iconst 0, 1) := by decide +kernel
theorem ef_0 (m : MethodId) (x0 : Int64) (x1 : Int64) (x2 : Int32) (x3 : Int32) : entryFrame m #[(.long x0), (.long x1), (.int x2), (.int x3)] maxLocals = mkF m 0 #[.val (.long x0), .second, .val (.long x1), .second, .val (.int x2), .val (.int x3), .unset, .unset, .unset, .unset, .unset, .unset, .unset, .unset, .unset, .unset, .unset, .unset, .unset] [] := by first | (simp [entryFrame, mkF, argsToLocals, Value.category, maxLocals]; done) | rfl
theorem pn_com_example_wavebook_wavebook_TrafficFitPinLaw : plainName "com/example/wavebook/wavebook/TrafficFitPinLaw" = true := by first | (simp [plainName, overriddenIn]; done) | decide +kernel
theorem pd__28DJJ_29Z : parseMethodDescriptor "(DJJ)Z" = some ⟨[.double, .long, .long], some .boolean⟩ := by decide +kernel
def Q1 (Z : State) (d1 : UInt64) (q1 q2 : Int64) (h0 : Heap) (n0 : Nat) (v : Option Value) (h : Heap) (L : List Loc) : Prop := v = some (.int (own_fit d1 q1 q2)) ∧ Fr n0 L ∧ h = h0
set_option maxRecDepth 65536 in
set_option maxHeartbeats 40000000 in
theorem rm1 (l : Launch) (Z : State) (a0 : Array Value) (hw : ∀ d ∈ tables_1, d.before a0 Z = true) (ws : List Jvm.Cond) (d1 : UInt64) (q1 : Int64) (q2 : Int64)  (h0 : Heap) (n0 : Nat) (Z0 : n0 ≤ h0.size) (hp : NoNaN64 (FP.dmul own_37 d1)) (hs : NoNaN64 (own_sum d1 q1 q2)) :
    MetFree l (⟨"com/example/wavebook/wavebook/Traffic", "fit", "(DJJ)Z"⟩ : MethodName) (head1 (Jvm.Cond.code (⟨"com/example/wavebook/wavebook/Traffic", "fit", "(DJJ)Z"⟩ : MethodName) prog_60_method_3_code 6 (some .boolean) :: ws) ({ frames := 0, cells := 0, slots := 0, locals := 0 } : Room)) (fun a U => a = #[(.double d1), (.long q1), (.long q2)] ∧ Z.Warmed39 U.vm ∧ U.heap = h0) (fun _ _ _ _ _ => True) (fun _ U o U' => ∃ v L, o = .returned v ∧ Q1 Z d1 q1 q2 h0 n0 v U'.heap L ∧ FrameEnd U o U' L ({ frames := 0, cells := 0, slots := 0, locals := 0 } : Room).cells ({ frames := 0, cells := 0, slots := 0, locals := 0 } : Room).slots) := by
  refine MetFree.of_bodySF (plainFor_of_name pn_com_example_wavebook_wavebook_Traffic) hisR ?_
  intro p e s m args below meth c s₁ Bd hml0 hP hK
  obtain ⟨rfl, hZ, hh⟩ := hP
  have hlk : meth.locks = false := by first | exact BodyLoose.notSynchronized Bd | exact Body.notSynchronized Bd
  have hx := Bd.exec
  have hby := Bd.bytes
  have hml : c.maxLocals = 6 := hml0
  have hown : s.vm.findClass "com/example/wavebook/wavebook/Traffic" = some m.cls := findClass_of_methodNamed Bd.named
  have hnm := (name_of_methodNamed Bd.named Bd.method).1
  have X0 : Stand p l e ({ frames := 0, cells := 0, slots := 0, locals := 0 } : Room) s m #[(.double d1), (.long q1), (.long q2)] below meth c s₁ [] 0 0 := Stand.of_body Bd
  have e0 : s₁.heap = h0 := by rw [← hh, Bd.state]; rfl
  have N0 := Fr.nil n0
  refine own_open (fun G go fin => ?_)
  refine go (s₁.setTop (mkF m 0 #[.val (.double d1), .second, .val (.long q1), .second, .val (.long q2), .second] [])) _ (fun t9 k9 => castTop (ef_1 m d1 q1 q2) k9) ?_
  refine go (s₁.setTop (mkF m 16 #[.val (.double d1), .second, .val (.long q1), .second, .val (.long q2), .second] [(.int (cmpValue (FP.dcmp (FP.dadd (FP.dadd (FP.l2d q2) (FP.l2d q1)) (FP.dmul (4630404104378646528 : UInt64) d1)) (4886405595696988160 : UInt64)) .g))])) _ (fun t9 k9 => ?_) ?_
  · show Steps p.tables e below (s₁.setTop (mkF m 0 #[.val (.double d1), .second, .val (.long q1), .second, .val (.long q2), .second] [])) _
    refine XS.lload X0.here hx rfl (hb hby d1_0) rfl ?_
    show Steps p.tables e below (s₁.setTop (mkF m 2 #[.val (.double d1), .second, .val (.long q1), .second, .val (.long q2), .second] [(.long q2)])) _
    refine XS.l2dS X0.here hx rfl (hb hby d1_2) rfl rfl ?_
    show Steps p.tables e below (s₁.setTop (mkF m 3 #[.val (.double d1), .second, .val (.long q1), .second, .val (.long q2), .second] [(.double (FP.l2d q2))])) _
    refine XS.lloadN X0.here hx rfl (hb hby d1_3) rfl ?_
    show Steps p.tables e below (s₁.setTop (mkF m 4 #[.val (.double d1), .second, .val (.long q1), .second, .val (.long q2), .second] [(.long q1), (.double (FP.l2d q2))])) _
    refine XS.l2dS X0.here hx rfl (hb hby d1_4) rfl rfl ?_
    show Steps p.tables e below (s₁.setTop (mkF m 5 #[.val (.double d1), .second, .val (.long q1), .second, .val (.long q2), .second] [(.double (FP.l2d q1)), (.double (FP.l2d q2))])) _
    refine XS.daddS X0.here hx rfl (hb hby d1_5) rfl ((own_s1_mag q1 q2).fin (by decide)).noNaN rfl ?_
    show Steps p.tables e below (s₁.setTop (mkF m 6 #[.val (.double d1), .second, .val (.long q1), .second, .val (.long q2), .second] [(.double (FP.dadd (FP.l2d q2) (FP.l2d q1)))])) _
    refine X0.ldc2DoubleC hx hown (mvT hZ (hw _ (List.mem_of_getElem? (i := 8) rfl))) (g := (mkF m 6 #[.val (.double d1), .second, .val (.long q1), .second, .val (.long q2), .second] [(.double (FP.dadd (FP.l2d q2) (FP.l2d q1)))])) rfl (hb hby d1_6) _ ?_
    show Steps p.tables e below (s₁.setTop (mkF m 9 #[.val (.double d1), .second, .val (.long q1), .second, .val (.long q2), .second] [(.double (4630404104378646528 : UInt64)), (.double (FP.dadd (FP.l2d q2) (FP.l2d q1)))])) _
    refine XS.dloadN X0.here hx rfl (hb hby d1_9) rfl ?_
    show Steps p.tables e below (s₁.setTop (mkF m 10 #[.val (.double d1), .second, .val (.long q1), .second, .val (.long q2), .second] [(.double d1), (.double (4630404104378646528 : UInt64)), (.double (FP.dadd (FP.l2d q2) (FP.l2d q1)))])) _
    refine XS.dmulS X0.here hx rfl (hb hby d1_10) rfl hp rfl ?_
    show Steps p.tables e below (s₁.setTop (mkF m 11 #[.val (.double d1), .second, .val (.long q1), .second, .val (.long q2), .second] [(.double (FP.dmul (4630404104378646528 : UInt64) d1)), (.double (FP.dadd (FP.l2d q2) (FP.l2d q1)))])) _
    refine XS.daddS X0.here hx rfl (hb hby d1_11) rfl hs rfl ?_
    show Steps p.tables e below (s₁.setTop (mkF m 12 #[.val (.double d1), .second, .val (.long q1), .second, .val (.long q2), .second] [(.double (FP.dadd (FP.dadd (FP.l2d q2) (FP.l2d q1)) (FP.dmul (4630404104378646528 : UInt64) d1)))])) _
    refine X0.ldc2DoubleC hx hown (mvT hZ (hw _ (List.mem_of_getElem? (i := 9) rfl))) (g := (mkF m 12 #[.val (.double d1), .second, .val (.long q1), .second, .val (.long q2), .second] [(.double (FP.dadd (FP.dadd (FP.l2d q2) (FP.l2d q1)) (FP.dmul (4630404104378646528 : UInt64) d1)))])) rfl (hb hby d1_12) _ ?_
    show Steps p.tables e below (s₁.setTop (mkF m 15 #[.val (.double d1), .second, .val (.long q1), .second, .val (.long q2), .second] [(.double (4886405595696988160 : UInt64)), (.double (FP.dadd (FP.dadd (FP.l2d q2) (FP.l2d q1)) (FP.dmul (4630404104378646528 : UInt64) d1)))])) _
    refine XS.dcmpS X0.here hx rfl (hb hby d1_15) rfl rfl ?_
    exact k9
  by_cases h16 : (cmpValue (FP.dcmp (FP.dadd (FP.dadd (FP.l2d q2) (FP.l2d q1)) (FP.dmul (4630404104378646528 : UInt64) d1)) (4886405595696988160 : UInt64)) .g) < (0 : Int32)
  · refine go (s₁.setTop (mkF m 24 #[.val (.double d1), .second, .val (.long q1), .second, .val (.long q2), .second] [(.int (1 : Int32))])) _ (fun t9 k9 => ?_) ?_
    · show Steps p.tables e below (s₁.setTop (mkF m 16 #[.val (.double d1), .second, .val (.long q1), .second, .val (.long q2), .second] [(.int (cmpValue (FP.dcmp (FP.dadd (FP.dadd (FP.l2d q2) (FP.l2d q1)) (FP.dmul (4630404104378646528 : UInt64) d1)) (4886405595696988160 : UInt64)) .g))])) _
      refine XS.ifNo X0.here hx rfl (hb hby d1_16) rfl ((if0 _ _).trans (tlt h16).2.1) ?_
      show Steps p.tables e below (s₁.setTop (mkF m 19 #[.val (.double d1), .second, .val (.long q1), .second, .val (.long q2), .second] [])) _
      refine XS.iconst X0.here hx rfl (hb hby d1_19) ?_
      show Steps p.tables e below (s₁.setTop (mkF m 20 #[.val (.double d1), .second, .val (.long q1), .second, .val (.long q2), .second] [(.int (1 : Int32))])) _
      refine XS.goto X0.here hx rfl (pc0 := 20) (pc' := 24) rfl (hb hby d1_20) (by decide) (by decide) ?_
      exact k9
    obtain ⟨fs, hr, hrun, hended, hW, hsame⟩ := X0.leave (v := some (.int (1 : Int32))) (fun h => by rw [Bd.returns] at h; cases h) hlk
    refine fin _ ⟨_, _, retN X0 hx (t := .boolean) Bd.returns (by simp) (hb hby d1_24) hr, hrun, hended, _, _, rfl, ?_, ⟨_, rfl⟩, hW, hsame.mono (by decide) (by decide)⟩
    show Q1 Z d1 q1 q2 h0 n0 _ s₁.heap _
    rw [e0]
    exact ⟨congrArg (fun z => some (Value.int z)) (if_pos h16 : own_fit d1 q1 q2 = 1).symm, N0, rfl⟩
  · refine go (s₁.setTop (mkF m 24 #[.val (.double d1), .second, .val (.long q1), .second, .val (.long q2), .second] [(.int (0 : Int32))])) _ (fun t9 k9 => ?_) ?_
    · show Steps p.tables e below (s₁.setTop (mkF m 16 #[.val (.double d1), .second, .val (.long q1), .second, .val (.long q2), .second] [(.int (cmpValue (FP.dcmp (FP.dadd (FP.dadd (FP.l2d q2) (FP.l2d q1)) (FP.dmul (4630404104378646528 : UInt64) d1)) (4886405595696988160 : UInt64)) .g))])) _
      refine XS.ifYes X0.here hx rfl (pc0 := 16) (pc' := 23) rfl (hb hby d1_16) rfl ((if0 _ _).trans (flt h16).2.1) (by decide) (by decide) ?_
      show Steps p.tables e below (s₁.setTop (mkF m 23 #[.val (.double d1), .second, .val (.long q1), .second, .val (.long q2), .second] [])) _
      refine XS.iconst X0.here hx rfl (hb hby d1_23) ?_
      exact k9
    obtain ⟨fs, hr, hrun, hended, hW, hsame⟩ := X0.leave (v := some (.int (0 : Int32))) (fun h => by rw [Bd.returns] at h; cases h) hlk
    refine fin _ ⟨_, _, retN X0 hx (t := .boolean) Bd.returns (by simp) (hb hby d1_24) hr, hrun, hended, _, _, rfl, ?_, ⟨_, rfl⟩, hW, hsame.mono (by decide) (by decide)⟩
    show Q1 Z d1 q1 q2 h0 n0 _ s₁.heap _
    rw [e0]
    exact ⟨congrArg (fun z => some (Value.int z)) (if_neg h16 : own_fit d1 q1 q2 = 0).symm, N0, rfl⟩
def Q0 (Z : State) (q1 q2 : Int64) (p3 p4 : Int32) (h0 : Heap) (n0 : Nat) (v : Option Value) (h : Heap) (L : List Loc) : Prop := v = some (.int 1) ∧ Fr n0 L
set_option maxRecDepth 65536 in
set_option maxHeartbeats 40000000 in
theorem rm0 (l : Launch) (Z : State) (a0 : Array Value) (hw : ∀ d ∈ tables_1, d.before a0 Z = true) (ws : List Jvm.Cond) (q1 : Int64) (q2 : Int64) (p3 : Int32) (p4 : Int32)  (h0 : Heap) (n0 : Nat) (Z0 : n0 ≤ h0.size)  :
    MetFree l x (head1 (Jvm.Cond.code x code maxLocals ret :: ws) room_1) (fun a U => a = #[(.long q1), (.long q2), (.int p3), (.int p4)] ∧ Z.Warmed39 U.vm ∧ U.heap = h0) (fun _ _ _ _ _ => True) (fun _ U o U' => ∃ v L, o = .returned v ∧ Q0 Z q1 q2 p3 p4 h0 n0 v U'.heap L ∧ FrameEnd U o U' L room_1.cells room_1.slots) := by
  refine MetFree.of_bodySF (plainFor_of_name pn_com_example_wavebook_wavebook_TrafficFitPinLaw) hisR ?_
  intro p e s m args below meth c s₁ Bd hml0 hP hK
  obtain ⟨rfl, hZ, hh⟩ := hP
  have hlk : meth.locks = false := by first | exact BodyLoose.notSynchronized Bd | exact Body.notSynchronized Bd
  have hx := Bd.exec
  have hby := Bd.bytes
  have hml : c.maxLocals = 19 := hml0
  have hown : s.vm.findClass "com/example/wavebook/wavebook/TrafficFitPinLaw" = some m.cls := findClass_of_methodNamed Bd.named
  have hnm := (name_of_methodNamed Bd.named Bd.method).1
  have X0 : Stand p l e room_1 s m #[(.long q1), (.long q2), (.int p3), (.int p4)] below meth c s₁ [] 0 0 := Stand.of_body Bd
  have e0 : s₁.heap = h0 := by rw [← hh, Bd.state]; rfl
  have N0 := Fr.nil n0
  refine own_open (fun G go fin => ?_)
  refine go (s₁.setTop (mkF m 0 #[.val (.long q1), .second, .val (.long q2), .second, .val (.int p3), .val (.int p4), .unset, .unset, .unset, .unset, .unset, .unset, .unset, .unset, .unset, .unset, .unset, .unset, .unset] [])) _ (fun t9 k9 => castTop (ef_0 m q1 q2 p3 p4) k9) ?_
  refine go (s₁.setTop (mkF m 4 #[.val (.long q1), .second, .val (.long q2), .second, .val (.int p3), .val (.int p4), .unset, .unset, .unset, .unset, .unset, .unset, .unset, .unset, .unset, .unset, .unset, .unset, .unset] [(.int (p4 &&& (1 : Int32)))])) _ (fun t9 k9 => ?_) ?_
  · show Steps p.tables e below (s₁.setTop (mkF m 0 #[.val (.long q1), .second, .val (.long q2), .second, .val (.int p3), .val (.int p4), .unset, .unset, .unset, .unset, .unset, .unset, .unset, .unset, .unset, .unset, .unset, .unset, .unset] [])) _
    refine XS.iload X0.here hx rfl (hb hby at_0) rfl ?_
    show Steps p.tables e below (s₁.setTop (mkF m 2 #[.val (.long q1), .second, .val (.long q2), .second, .val (.int p3), .val (.int p4), .unset, .unset, .unset, .unset, .unset, .unset, .unset, .unset, .unset, .unset, .unset, .unset, .unset] [(.int p4)])) _
    refine XS.iconst X0.here hx rfl (hb hby at_2) ?_
    show Steps p.tables e below (s₁.setTop (mkF m 3 #[.val (.long q1), .second, .val (.long q2), .second, .val (.int p3), .val (.int p4), .unset, .unset, .unset, .unset, .unset, .unset, .unset, .unset, .unset, .unset, .unset, .unset, .unset] [(.int (1 : Int32)), (.int p4)])) _
    refine XS.iand X0.here hx rfl (hb hby at_3) rfl ?_
    exact k9
  by_cases h4 : (p4 &&& (1 : Int32)) = (0 : Int32)
  · refine go (s₁.setTop (mkF m 71 #[.val (.long q1), .second, .val (.long q2), .second, .val (.int p3), .val (.int p4), .val (.int (0 : Int32)), .val (.long (q1 &&& (9223372036854775807 : Int64))), .second, .unset, .unset, .unset, .unset, .unset, .unset, .unset, .unset, .unset, .unset] [(.int (lcmpW (q1 &&& (9223372036854775807 : Int64)) (0 : Int64)))])) _ (fun t9 k9 => ?_) ?_
    · show Steps p.tables e below (s₁.setTop (mkF m 4 #[.val (.long q1), .second, .val (.long q2), .second, .val (.int p3), .val (.int p4), .unset, .unset, .unset, .unset, .unset, .unset, .unset, .unset, .unset, .unset, .unset, .unset, .unset] [(.int (p4 &&& (1 : Int32)))])) _
      refine XS.ifYes X0.here hx rfl (pc0 := 4) (pc' := 11) rfl (hb hby at_4) rfl ((if0 _ _).trans (teq h4).1) (by decide) (by decide) ?_
      show Steps p.tables e below (s₁.setTop (mkF m 11 #[.val (.long q1), .second, .val (.long q2), .second, .val (.int p3), .val (.int p4), .unset, .unset, .unset, .unset, .unset, .unset, .unset, .unset, .unset, .unset, .unset, .unset, .unset] [])) _
      refine XS.iconst X0.here hx rfl (hb hby at_11) ?_
      show Steps p.tables e below (s₁.setTop (mkF m 12 #[.val (.long q1), .second, .val (.long q2), .second, .val (.int p3), .val (.int p4), .unset, .unset, .unset, .unset, .unset, .unset, .unset, .unset, .unset, .unset, .unset, .unset, .unset] [(.int (0 : Int32))])) _
      refine XS.istore X0.here hx rfl (hb hby at_12) rfl (l' := #[.val (.long q1), .second, .val (.long q2), .second, .val (.int p3), .val (.int p4), .val (.int (0 : Int32)), .unset, .unset, .unset, .unset, .unset, .unset, .unset, .unset, .unset, .unset, .unset, .unset]) rfl ?_
      show Steps p.tables e below (s₁.setTop (mkF m 14 #[.val (.long q1), .second, .val (.long q2), .second, .val (.int p3), .val (.int p4), .val (.int (0 : Int32)), .unset, .unset, .unset, .unset, .unset, .unset, .unset, .unset, .unset, .unset, .unset, .unset] [])) _
      refine XS.iload X0.here hx rfl (hb hby at_14) rfl ?_
      show Steps p.tables e below (s₁.setTop (mkF m 16 #[.val (.long q1), .second, .val (.long q2), .second, .val (.int p3), .val (.int p4), .val (.int (0 : Int32)), .unset, .unset, .unset, .unset, .unset, .unset, .unset, .unset, .unset, .unset, .unset, .unset] [(.int (0 : Int32))])) _
      refine XS.ifYes X0.here hx rfl (pc0 := 16) (pc' := 60) rfl (hb hby at_16) rfl ((if0 _ _).trans (teq (rfl : (0 : Int32) = (0 : Int32))).1) (by decide) (by decide) ?_
      show Steps p.tables e below (s₁.setTop (mkF m 60 #[.val (.long q1), .second, .val (.long q2), .second, .val (.int p3), .val (.int p4), .val (.int (0 : Int32)), .unset, .unset, .unset, .unset, .unset, .unset, .unset, .unset, .unset, .unset, .unset, .unset] [])) _
      refine XS.lloadN X0.here hx rfl (hb hby at_60) rfl ?_
      show Steps p.tables e below (s₁.setTop (mkF m 61 #[.val (.long q1), .second, .val (.long q2), .second, .val (.int p3), .val (.int p4), .val (.int (0 : Int32)), .unset, .unset, .unset, .unset, .unset, .unset, .unset, .unset, .unset, .unset, .unset, .unset] [(.long q1)])) _
      refine X0.ldc2Long hx hown (mvT hZ (hw _ (List.mem_of_getElem? (i := 11) rfl))) (g := (mkF m 61 #[.val (.long q1), .second, .val (.long q2), .second, .val (.int p3), .val (.int p4), .val (.int (0 : Int32)), .unset, .unset, .unset, .unset, .unset, .unset, .unset, .unset, .unset, .unset, .unset, .unset] [(.long q1)])) rfl (hb hby at_61) _ ?_
      show Steps p.tables e below (s₁.setTop (mkF m 64 #[.val (.long q1), .second, .val (.long q2), .second, .val (.int p3), .val (.int p4), .val (.int (0 : Int32)), .unset, .unset, .unset, .unset, .unset, .unset, .unset, .unset, .unset, .unset, .unset, .unset] [(.long (9223372036854775807 : Int64)), (.long q1)])) _
      refine XS.land X0.here hx rfl (hb hby at_64) rfl ?_
      show Steps p.tables e below (s₁.setTop (mkF m 65 #[.val (.long q1), .second, .val (.long q2), .second, .val (.int p3), .val (.int p4), .val (.int (0 : Int32)), .unset, .unset, .unset, .unset, .unset, .unset, .unset, .unset, .unset, .unset, .unset, .unset] [(.long (q1 &&& (9223372036854775807 : Int64)))])) _
      refine XS.lstore X0.here hx rfl (hb hby at_65) rfl (l' := #[.val (.long q1), .second, .val (.long q2), .second, .val (.int p3), .val (.int p4), .val (.int (0 : Int32)), .val (.long (q1 &&& (9223372036854775807 : Int64))), .second, .unset, .unset, .unset, .unset, .unset, .unset, .unset, .unset, .unset, .unset]) rfl ?_
      show Steps p.tables e below (s₁.setTop (mkF m 67 #[.val (.long q1), .second, .val (.long q2), .second, .val (.int p3), .val (.int p4), .val (.int (0 : Int32)), .val (.long (q1 &&& (9223372036854775807 : Int64))), .second, .unset, .unset, .unset, .unset, .unset, .unset, .unset, .unset, .unset, .unset] [])) _
      refine XS.lload X0.here hx rfl (hb hby at_67) rfl ?_
      show Steps p.tables e below (s₁.setTop (mkF m 69 #[.val (.long q1), .second, .val (.long q2), .second, .val (.int p3), .val (.int p4), .val (.int (0 : Int32)), .val (.long (q1 &&& (9223372036854775807 : Int64))), .second, .unset, .unset, .unset, .unset, .unset, .unset, .unset, .unset, .unset, .unset] [(.long (q1 &&& (9223372036854775807 : Int64)))])) _
      refine XS.lconst X0.here hx rfl (hb hby at_69) ?_
      show Steps p.tables e below (s₁.setTop (mkF m 70 #[.val (.long q1), .second, .val (.long q2), .second, .val (.int p3), .val (.int p4), .val (.int (0 : Int32)), .val (.long (q1 &&& (9223372036854775807 : Int64))), .second, .unset, .unset, .unset, .unset, .unset, .unset, .unset, .unset, .unset, .unset] [(.long (0 : Int64)), (.long (q1 &&& (9223372036854775807 : Int64)))])) _
      refine XS.lcmp X0.here hx rfl (hb hby at_70) rfl ?_
      exact k9
    refine go (s₁.setTop (mkF m 77 #[.val (.long q1), .second, .val (.long q2), .second, .val (.int p3), .val (.int p4), .val (.int (0 : Int32)), .val (.long (if (lcmpW (q1 &&& (9223372036854775807 : Int64)) (0 : Int64)) = (0 : Int32) then (1 : Int64) else (q1 &&& (9223372036854775807 : Int64)))), .second, .unset, .unset, .unset, .unset, .unset, .unset, .unset, .unset, .unset, .unset] [])) _ (fun t9 k9 => ?_) ?_
    · by_cases h71_1 : (lcmpW (q1 &&& (9223372036854775807 : Int64)) (0 : Int64)) = (0 : Int32)
      · try (simp only [if_pos h71_1] at k9)
        show Steps p.tables e below (s₁.setTop (mkF m 71 #[.val (.long q1), .second, .val (.long q2), .second, .val (.int p3), .val (.int p4), .val (.int (0 : Int32)), .val (.long (q1 &&& (9223372036854775807 : Int64))), .second, .unset, .unset, .unset, .unset, .unset, .unset, .unset, .unset, .unset, .unset] [(.int (lcmpW (q1 &&& (9223372036854775807 : Int64)) (0 : Int64)))])) _
        refine XS.ifNo X0.here hx rfl (hb hby at_71) rfl ((if0 _ _).trans (teq h71_1).2) ?_
        show Steps p.tables e below (s₁.setTop (mkF m 74 #[.val (.long q1), .second, .val (.long q2), .second, .val (.int p3), .val (.int p4), .val (.int (0 : Int32)), .val (.long (q1 &&& (9223372036854775807 : Int64))), .second, .unset, .unset, .unset, .unset, .unset, .unset, .unset, .unset, .unset, .unset] [])) _
        refine XS.lconst X0.here hx rfl (hb hby at_74) ?_
        show Steps p.tables e below (s₁.setTop (mkF m 75 #[.val (.long q1), .second, .val (.long q2), .second, .val (.int p3), .val (.int p4), .val (.int (0 : Int32)), .val (.long (q1 &&& (9223372036854775807 : Int64))), .second, .unset, .unset, .unset, .unset, .unset, .unset, .unset, .unset, .unset, .unset] [(.long (1 : Int64))])) _
        refine XS.lstore X0.here hx rfl (hb hby at_75) rfl (l' := #[.val (.long q1), .second, .val (.long q2), .second, .val (.int p3), .val (.int p4), .val (.int (0 : Int32)), .val (.long (1 : Int64)), .second, .unset, .unset, .unset, .unset, .unset, .unset, .unset, .unset, .unset, .unset]) rfl ?_
        exact k9
      · try (simp only [if_neg h71_1] at k9)
        show Steps p.tables e below (s₁.setTop (mkF m 71 #[.val (.long q1), .second, .val (.long q2), .second, .val (.int p3), .val (.int p4), .val (.int (0 : Int32)), .val (.long (q1 &&& (9223372036854775807 : Int64))), .second, .unset, .unset, .unset, .unset, .unset, .unset, .unset, .unset, .unset, .unset] [(.int (lcmpW (q1 &&& (9223372036854775807 : Int64)) (0 : Int64)))])) _
        refine XS.ifYes X0.here hx rfl (pc0 := 71) (pc' := 77) rfl (hb hby at_71) rfl ((if0 _ _).trans (feq h71_1).2) (by decide) (by decide) ?_
        exact k9
    generalize hhe : (if (lcmpW (q1 &&& (9223372036854775807 : Int64)) (0 : Int64)) = (0 : Int32) then (1 : Int64) else (q1 &&& (9223372036854775807 : Int64))) = hh
    have hh0 : 0 ≤ hh.toInt := by
      have q := own_maskB q1
      rw [← hhe]
      split
      · decide
      · exact q.1
    refine go (s₁.setTop (mkF m 84 #[.val (.long q1), .second, .val (.long q2), .second, .val (.int p3), .val (.int p4), .val (.int (0 : Int32)), .val (.long hh), .second, .val (.long (q2 &&& (9223372036854775807 : Int64))), .second, .unset, .unset, .unset, .unset, .unset, .unset, .unset, .unset] [])) _ (fun t9 k9 => ?_) ?_
    · show Steps p.tables e below (s₁.setTop (mkF m 77 #[.val (.long q1), .second, .val (.long q2), .second, .val (.int p3), .val (.int p4), .val (.int (0 : Int32)), .val (.long hh), .second, .unset, .unset, .unset, .unset, .unset, .unset, .unset, .unset, .unset, .unset] [])) _
      refine XS.lloadN X0.here hx rfl (hb hby at_77) rfl ?_
      show Steps p.tables e below (s₁.setTop (mkF m 78 #[.val (.long q1), .second, .val (.long q2), .second, .val (.int p3), .val (.int p4), .val (.int (0 : Int32)), .val (.long hh), .second, .unset, .unset, .unset, .unset, .unset, .unset, .unset, .unset, .unset, .unset] [(.long q2)])) _
      refine X0.ldc2Long hx hown (mvT hZ (hw _ (List.mem_of_getElem? (i := 11) rfl))) (g := (mkF m 78 #[.val (.long q1), .second, .val (.long q2), .second, .val (.int p3), .val (.int p4), .val (.int (0 : Int32)), .val (.long hh), .second, .unset, .unset, .unset, .unset, .unset, .unset, .unset, .unset, .unset, .unset] [(.long q2)])) rfl (hb hby at_78) _ ?_
      show Steps p.tables e below (s₁.setTop (mkF m 81 #[.val (.long q1), .second, .val (.long q2), .second, .val (.int p3), .val (.int p4), .val (.int (0 : Int32)), .val (.long hh), .second, .unset, .unset, .unset, .unset, .unset, .unset, .unset, .unset, .unset, .unset] [(.long (9223372036854775807 : Int64)), (.long q2)])) _
      refine XS.land X0.here hx rfl (hb hby at_81) rfl ?_
      show Steps p.tables e below (s₁.setTop (mkF m 82 #[.val (.long q1), .second, .val (.long q2), .second, .val (.int p3), .val (.int p4), .val (.int (0 : Int32)), .val (.long hh), .second, .unset, .unset, .unset, .unset, .unset, .unset, .unset, .unset, .unset, .unset] [(.long (q2 &&& (9223372036854775807 : Int64)))])) _
      refine XS.lstore X0.here hx rfl (hb hby at_82) rfl (l' := #[.val (.long q1), .second, .val (.long q2), .second, .val (.int p3), .val (.int p4), .val (.int (0 : Int32)), .val (.long hh), .second, .val (.long (q2 &&& (9223372036854775807 : Int64))), .second, .unset, .unset, .unset, .unset, .unset, .unset, .unset, .unset]) rfl ?_
      exact k9
    have wq := own_maskB q2
    generalize wwe : (q2 &&& (9223372036854775807 : Int64)) = ww
    rw [wwe] at wq
    refine go (s₁.setTop (mkF m 93 #[.val (.long q1), .second, .val (.long q2), .second, .val (.int p3), .val (.int p4), .val (.int (0 : Int32)), .val (.long hh), .second, .val (.long ww), .second, .val (.int ((p3 &&& (1073741823 : Int32)) + (1 : Int32))), .unset, .unset, .unset, .unset, .unset, .unset, .unset] [])) _ (fun t9 k9 => ?_) ?_
    · show Steps p.tables e below (s₁.setTop (mkF m 84 #[.val (.long q1), .second, .val (.long q2), .second, .val (.int p3), .val (.int p4), .val (.int (0 : Int32)), .val (.long hh), .second, .val (.long ww), .second, .unset, .unset, .unset, .unset, .unset, .unset, .unset, .unset] [])) _
      refine XS.iload X0.here hx rfl (hb hby at_84) rfl ?_
      show Steps p.tables e below (s₁.setTop (mkF m 86 #[.val (.long q1), .second, .val (.long q2), .second, .val (.int p3), .val (.int p4), .val (.int (0 : Int32)), .val (.long hh), .second, .val (.long ww), .second, .unset, .unset, .unset, .unset, .unset, .unset, .unset, .unset] [(.int p3)])) _
      refine X0.ldcInt hx hown (mvT hZ (hw _ (List.mem_of_getElem? (i := 12) rfl))) (g := (mkF m 86 #[.val (.long q1), .second, .val (.long q2), .second, .val (.int p3), .val (.int p4), .val (.int (0 : Int32)), .val (.long hh), .second, .val (.long ww), .second, .unset, .unset, .unset, .unset, .unset, .unset, .unset, .unset] [(.int p3)])) rfl (hb hby at_86) _ ?_
      show Steps p.tables e below (s₁.setTop (mkF m 88 #[.val (.long q1), .second, .val (.long q2), .second, .val (.int p3), .val (.int p4), .val (.int (0 : Int32)), .val (.long hh), .second, .val (.long ww), .second, .unset, .unset, .unset, .unset, .unset, .unset, .unset, .unset] [(.int (1073741823 : Int32)), (.int p3)])) _
      refine XS.iand X0.here hx rfl (hb hby at_88) rfl ?_
      show Steps p.tables e below (s₁.setTop (mkF m 89 #[.val (.long q1), .second, .val (.long q2), .second, .val (.int p3), .val (.int p4), .val (.int (0 : Int32)), .val (.long hh), .second, .val (.long ww), .second, .unset, .unset, .unset, .unset, .unset, .unset, .unset, .unset] [(.int (p3 &&& (1073741823 : Int32)))])) _
      refine XS.iconst X0.here hx rfl (hb hby at_89) ?_
      show Steps p.tables e below (s₁.setTop (mkF m 90 #[.val (.long q1), .second, .val (.long q2), .second, .val (.int p3), .val (.int p4), .val (.int (0 : Int32)), .val (.long hh), .second, .val (.long ww), .second, .unset, .unset, .unset, .unset, .unset, .unset, .unset, .unset] [(.int (1 : Int32)), (.int (p3 &&& (1073741823 : Int32)))])) _
      refine XS.iadd X0.here hx rfl (hb hby at_90) rfl ?_
      show Steps p.tables e below (s₁.setTop (mkF m 91 #[.val (.long q1), .second, .val (.long q2), .second, .val (.int p3), .val (.int p4), .val (.int (0 : Int32)), .val (.long hh), .second, .val (.long ww), .second, .unset, .unset, .unset, .unset, .unset, .unset, .unset, .unset] [(.int ((p3 &&& (1073741823 : Int32)) + (1 : Int32)))])) _
      refine XS.istore X0.here hx rfl (hb hby at_91) rfl (l' := #[.val (.long q1), .second, .val (.long q2), .second, .val (.int p3), .val (.int p4), .val (.int (0 : Int32)), .val (.long hh), .second, .val (.long ww), .second, .val (.int ((p3 &&& (1073741823 : Int32)) + (1 : Int32))), .unset, .unset, .unset, .unset, .unset, .unset, .unset]) rfl ?_
      exact k9
    have mq := own_mB p3
    generalize mie : ((p3 &&& (1073741823 : Int32)) + (1 : Int32)) = mi
    rw [mie] at mq
    refine go (s₁.setTop (mkF m 113 #[.val (.long q1), .second, .val (.long q2), .second, .val (.int p3), .val (.int p4), .val (.int (0 : Int32)), .val (.long hh), .second, .val (.long ww), .second, .val (.int mi), .val (.long ((37 : Int64) * (mi.toInt64))), .second, .val (.double (FP.i2d mi)), .second, .unset, .unset, .unset] [(.long hh), (.long ww), (.double (FP.i2d mi))])) _ (fun t9 k9 => ?_) ?_
    · show Steps p.tables e below (s₁.setTop (mkF m 93 #[.val (.long q1), .second, .val (.long q2), .second, .val (.int p3), .val (.int p4), .val (.int (0 : Int32)), .val (.long hh), .second, .val (.long ww), .second, .val (.int mi), .unset, .unset, .unset, .unset, .unset, .unset, .unset] [])) _
      refine X0.ldc2Long hx hown (mvT hZ (hw _ (List.mem_of_getElem? (i := 3) rfl))) (g := (mkF m 93 #[.val (.long q1), .second, .val (.long q2), .second, .val (.int p3), .val (.int p4), .val (.int (0 : Int32)), .val (.long hh), .second, .val (.long ww), .second, .val (.int mi), .unset, .unset, .unset, .unset, .unset, .unset, .unset] [])) rfl (hb hby at_93) _ ?_
      show Steps p.tables e below (s₁.setTop (mkF m 96 #[.val (.long q1), .second, .val (.long q2), .second, .val (.int p3), .val (.int p4), .val (.int (0 : Int32)), .val (.long hh), .second, .val (.long ww), .second, .val (.int mi), .unset, .unset, .unset, .unset, .unset, .unset, .unset] [(.long (37 : Int64))])) _
      refine XS.iload X0.here hx rfl (hb hby at_96) rfl ?_
      show Steps p.tables e below (s₁.setTop (mkF m 98 #[.val (.long q1), .second, .val (.long q2), .second, .val (.int p3), .val (.int p4), .val (.int (0 : Int32)), .val (.long hh), .second, .val (.long ww), .second, .val (.int mi), .unset, .unset, .unset, .unset, .unset, .unset, .unset] [(.int mi), (.long (37 : Int64))])) _
      refine XS.i2l X0.here hx rfl (hb hby at_98) rfl ?_
      show Steps p.tables e below (s₁.setTop (mkF m 99 #[.val (.long q1), .second, .val (.long q2), .second, .val (.int p3), .val (.int p4), .val (.int (0 : Int32)), .val (.long hh), .second, .val (.long ww), .second, .val (.int mi), .unset, .unset, .unset, .unset, .unset, .unset, .unset] [(.long (mi.toInt64)), (.long (37 : Int64))])) _
      refine XS.lmul X0.here hx rfl (hb hby at_99) rfl ?_
      show Steps p.tables e below (s₁.setTop (mkF m 100 #[.val (.long q1), .second, .val (.long q2), .second, .val (.int p3), .val (.int p4), .val (.int (0 : Int32)), .val (.long hh), .second, .val (.long ww), .second, .val (.int mi), .unset, .unset, .unset, .unset, .unset, .unset, .unset] [(.long ((37 : Int64) * (mi.toInt64)))])) _
      refine XS.lstore X0.here hx rfl (hb hby at_100) rfl (l' := #[.val (.long q1), .second, .val (.long q2), .second, .val (.int p3), .val (.int p4), .val (.int (0 : Int32)), .val (.long hh), .second, .val (.long ww), .second, .val (.int mi), .val (.long ((37 : Int64) * (mi.toInt64))), .second, .unset, .unset, .unset, .unset, .unset]) rfl ?_
      show Steps p.tables e below (s₁.setTop (mkF m 102 #[.val (.long q1), .second, .val (.long q2), .second, .val (.int p3), .val (.int p4), .val (.int (0 : Int32)), .val (.long hh), .second, .val (.long ww), .second, .val (.int mi), .val (.long ((37 : Int64) * (mi.toInt64))), .second, .unset, .unset, .unset, .unset, .unset] [])) _
      refine XS.iload X0.here hx rfl (hb hby at_102) rfl ?_
      show Steps p.tables e below (s₁.setTop (mkF m 104 #[.val (.long q1), .second, .val (.long q2), .second, .val (.int p3), .val (.int p4), .val (.int (0 : Int32)), .val (.long hh), .second, .val (.long ww), .second, .val (.int mi), .val (.long ((37 : Int64) * (mi.toInt64))), .second, .unset, .unset, .unset, .unset, .unset] [(.int mi)])) _
      refine XS.i2dS X0.here hx rfl (hb hby at_104) rfl rfl ?_
      show Steps p.tables e below (s₁.setTop (mkF m 105 #[.val (.long q1), .second, .val (.long q2), .second, .val (.int p3), .val (.int p4), .val (.int (0 : Int32)), .val (.long hh), .second, .val (.long ww), .second, .val (.int mi), .val (.long ((37 : Int64) * (mi.toInt64))), .second, .unset, .unset, .unset, .unset, .unset] [(.double (FP.i2d mi))])) _
      refine XS.dstore X0.here hx rfl (hb hby at_105) rfl (l' := #[.val (.long q1), .second, .val (.long q2), .second, .val (.int p3), .val (.int p4), .val (.int (0 : Int32)), .val (.long hh), .second, .val (.long ww), .second, .val (.int mi), .val (.long ((37 : Int64) * (mi.toInt64))), .second, .val (.double (FP.i2d mi)), .second, .unset, .unset, .unset]) rfl ?_
      show Steps p.tables e below (s₁.setTop (mkF m 107 #[.val (.long q1), .second, .val (.long q2), .second, .val (.int p3), .val (.int p4), .val (.int (0 : Int32)), .val (.long hh), .second, .val (.long ww), .second, .val (.int mi), .val (.long ((37 : Int64) * (mi.toInt64))), .second, .val (.double (FP.i2d mi)), .second, .unset, .unset, .unset] [])) _
      refine XS.dload X0.here hx rfl (hb hby at_107) rfl ?_
      show Steps p.tables e below (s₁.setTop (mkF m 109 #[.val (.long q1), .second, .val (.long q2), .second, .val (.int p3), .val (.int p4), .val (.int (0 : Int32)), .val (.long hh), .second, .val (.long ww), .second, .val (.int mi), .val (.long ((37 : Int64) * (mi.toInt64))), .second, .val (.double (FP.i2d mi)), .second, .unset, .unset, .unset] [(.double (FP.i2d mi))])) _
      refine XS.lload X0.here hx rfl (hb hby at_109) rfl ?_
      show Steps p.tables e below (s₁.setTop (mkF m 111 #[.val (.long q1), .second, .val (.long q2), .second, .val (.int p3), .val (.int p4), .val (.int (0 : Int32)), .val (.long hh), .second, .val (.long ww), .second, .val (.int mi), .val (.long ((37 : Int64) * (mi.toInt64))), .second, .val (.double (FP.i2d mi)), .second, .unset, .unset, .unset] [(.long ww), (.double (FP.i2d mi))])) _
      refine XS.lload X0.here hx rfl (hb hby at_111) rfl ?_
      exact k9
    obtain ⟨_, _, ⟨T2, L2, k2, n2⟩, -, X2, ⟨Lc2, hQ2, l2, y2, z2⟩, st2⟩ := Jvm.LawKit.callS X0 hx (y := (⟨"com/example/wavebook/wavebook/Traffic", "fit", "(DJJ)Z"⟩ : MethodName)) hown (mvT hZ (hw _ (List.mem_of_getElem? (i := 4) rfl))) (mvT hZ (hw _ (List.mem_of_getElem? (i := 5) rfl))) (mvT hZ (hw _ (List.mem_of_getElem? (i := 6) rfl))) (mvT hZ (hw _ (List.mem_of_getElem? (i := 7) rfl))) (by decide) (backOf (W := 0) (rm1 l Z a0 hw [] (FP.i2d mi) ww hh h0 n0 Z0 ((own_p_mag mi).fin (by decide)).noNaN ((own_sum_mag mi ww hh).fin (by decide)).noNaN) hZ (hw _ (List.mem_of_getElem? (i := 7) rfl)) (hw _ (List.mem_of_getElem? (i := 6) rfl)) (by decide) (by decide)) (g := (mkF m 113 #[.val (.long q1), .second, .val (.long q2), .second, .val (.int p3), .val (.int p4), .val (.int (0 : Int32)), .val (.long hh), .second, .val (.long ww), .second, .val (.int mi), .val (.long ((37 : Int64) * (mi.toInt64))), .second, .val (.double (FP.i2d mi)), .second, .unset, .unset, .unset] [(.long hh), (.long ww), (.double (FP.i2d mi))])) rfl (by rw [hml]; rfl) (argsL := [(.double (FP.i2d mi)), (.long ww), (.long hh)]) (rest := []) (lenOf pd__28DJJ_29Z rfl) rfl (by show 2 * 0 + _ ≤ _; exact Nat.le_of_eq rfl) (hb hby at_113) (fun _ _ => ⟨rfl, e0, (by decide : 0 + 0 ≤ _), (by decide : 0 + 0 ≤ _)⟩)
    dsimp only [Pt.U, Pt.locs, Pt.cells, Pt.slots] at X2 l2 y2 z2 st2 hQ2
    subst l2 y2 z2
    obtain ⟨rfl, N2q, e2q⟩ := hQ2
    have N2 := Fr.app N0 N2q
    refine go (T2.setTop (mkF m 116 #[.val (.long q1), .second, .val (.long q2), .second, .val (.int p3), .val (.int p4), .val (.int (0 : Int32)), .val (.long hh), .second, .val (.long ww), .second, .val (.int mi), .val (.long ((37 : Int64) * (mi.toInt64))), .second, .val (.double (FP.i2d mi)), .second, .unset, .unset, .unset] [(.int (own_fit (FP.i2d mi) ww hh))])) _ (fun t9 k9 => st2 _ k9) ?_
    generalize hg : (own_fit (FP.i2d mi) ww hh) = g
    refine go (T2.setTop (mkF m 176 #[.val (.long q1), .second, .val (.long q2), .second, .val (.int p3), .val (.int p4), .val (.int (0 : Int32)), .val (.long hh), .second, .val (.long ww), .second, .val (.int mi), .val (.long ((37 : Int64) * (mi.toInt64))), .second, .val (.double (FP.i2d mi)), .second, .val (.int g), .unset, .unset] [])) _ (fun t9 k9 => ?_) ?_
    · show Steps p.tables e below (T2.setTop (mkF m 116 #[.val (.long q1), .second, .val (.long q2), .second, .val (.int p3), .val (.int p4), .val (.int (0 : Int32)), .val (.long hh), .second, .val (.long ww), .second, .val (.int mi), .val (.long ((37 : Int64) * (mi.toInt64))), .second, .val (.double (FP.i2d mi)), .second, .unset, .unset, .unset] [(.int g)])) _
      refine XS.istore X2.here hx rfl (hb hby at_116) rfl (l' := #[.val (.long q1), .second, .val (.long q2), .second, .val (.int p3), .val (.int p4), .val (.int (0 : Int32)), .val (.long hh), .second, .val (.long ww), .second, .val (.int mi), .val (.long ((37 : Int64) * (mi.toInt64))), .second, .val (.double (FP.i2d mi)), .second, .val (.int g), .unset, .unset]) rfl ?_
      show Steps p.tables e below (T2.setTop (mkF m 118 #[.val (.long q1), .second, .val (.long q2), .second, .val (.int p3), .val (.int p4), .val (.int (0 : Int32)), .val (.long hh), .second, .val (.long ww), .second, .val (.int mi), .val (.long ((37 : Int64) * (mi.toInt64))), .second, .val (.double (FP.i2d mi)), .second, .val (.int g), .unset, .unset] [])) _
      refine XS.iload X2.here hx rfl (hb hby at_118) rfl ?_
      show Steps p.tables e below (T2.setTop (mkF m 120 #[.val (.long q1), .second, .val (.long q2), .second, .val (.int p3), .val (.int p4), .val (.int (0 : Int32)), .val (.long hh), .second, .val (.long ww), .second, .val (.int mi), .val (.long ((37 : Int64) * (mi.toInt64))), .second, .val (.double (FP.i2d mi)), .second, .val (.int g), .unset, .unset] [(.int (0 : Int32))])) _
      refine XS.ifYes X2.here hx rfl (pc0 := 120) (pc' := 176) rfl (hb hby at_120) rfl ((if0 _ _).trans (teq (rfl : (0 : Int32) = (0 : Int32))).1) (by decide) (by decide) ?_
      exact k9
    have q37 := own_m37 mq.1 mq.2
    refine go (T2.setTop (mkF m 182 #[.val (.long q1), .second, .val (.long q2), .second, .val (.int p3), .val (.int p4), .val (.int (0 : Int32)), .val (.long hh), .second, .val (.long ww), .second, .val (.int mi), .val (.long ((37 : Int64) * (mi.toInt64))), .second, .val (.double (FP.i2d mi)), .second, .val (.int g), .unset, .unset] [(.int (lcmpW hh (4611686018427387904 : Int64)))])) _ (fun t9 k9 => ?_) ?_
    · show Steps p.tables e below (T2.setTop (mkF m 176 #[.val (.long q1), .second, .val (.long q2), .second, .val (.int p3), .val (.int p4), .val (.int (0 : Int32)), .val (.long hh), .second, .val (.long ww), .second, .val (.int mi), .val (.long ((37 : Int64) * (mi.toInt64))), .second, .val (.double (FP.i2d mi)), .second, .val (.int g), .unset, .unset] [])) _
      refine XS.lload X2.here hx rfl (hb hby at_176) rfl ?_
      show Steps p.tables e below (T2.setTop (mkF m 178 #[.val (.long q1), .second, .val (.long q2), .second, .val (.int p3), .val (.int p4), .val (.int (0 : Int32)), .val (.long hh), .second, .val (.long ww), .second, .val (.int mi), .val (.long ((37 : Int64) * (mi.toInt64))), .second, .val (.double (FP.i2d mi)), .second, .val (.int g), .unset, .unset] [(.long hh)])) _
      refine X2.ldc2Long hx hown (mvT hZ (hw _ (List.mem_of_getElem? (i := 10) rfl))) (g := (mkF m 178 #[.val (.long q1), .second, .val (.long q2), .second, .val (.int p3), .val (.int p4), .val (.int (0 : Int32)), .val (.long hh), .second, .val (.long ww), .second, .val (.int mi), .val (.long ((37 : Int64) * (mi.toInt64))), .second, .val (.double (FP.i2d mi)), .second, .val (.int g), .unset, .unset] [(.long hh)])) rfl (hb hby at_178) _ ?_
      show Steps p.tables e below (T2.setTop (mkF m 181 #[.val (.long q1), .second, .val (.long q2), .second, .val (.int p3), .val (.int p4), .val (.int (0 : Int32)), .val (.long hh), .second, .val (.long ww), .second, .val (.int mi), .val (.long ((37 : Int64) * (mi.toInt64))), .second, .val (.double (FP.i2d mi)), .second, .val (.int g), .unset, .unset] [(.long (4611686018427387904 : Int64)), (.long hh)])) _
      refine XS.lcmp X2.here hx rfl (hb hby at_181) rfl ?_
      exact k9
    by_cases hA : (lcmpW hh (4611686018427387904 : Int64)) < (0 : Int32)
    · refine go (T2.setTop (mkF m 185 #[.val (.long q1), .second, .val (.long q2), .second, .val (.int p3), .val (.int p4), .val (.int (0 : Int32)), .val (.long hh), .second, .val (.long ww), .second, .val (.int mi), .val (.long ((37 : Int64) * (mi.toInt64))), .second, .val (.double (FP.i2d mi)), .second, .val (.int g), .unset, .unset] [])) _ (fun t9 k9 => ?_) ?_
      · show Steps p.tables e below (T2.setTop (mkF m 182 #[.val (.long q1), .second, .val (.long q2), .second, .val (.int p3), .val (.int p4), .val (.int (0 : Int32)), .val (.long hh), .second, .val (.long ww), .second, .val (.int mi), .val (.long ((37 : Int64) * (mi.toInt64))), .second, .val (.double (FP.i2d mi)), .second, .val (.int g), .unset, .unset] [(.int (lcmpW hh (4611686018427387904 : Int64)))])) _
        refine XS.ifNo X2.here hx rfl (hb hby at_182) rfl ((if0 _ _).trans (tlt hA).2.1) ?_
        exact k9
      rw [own_lc, own_big0] at hA
      refine go (T2.setTop (mkF m 191 #[.val (.long q1), .second, .val (.long q2), .second, .val (.int p3), .val (.int p4), .val (.int (0 : Int32)), .val (.long hh), .second, .val (.long ww), .second, .val (.int mi), .val (.long ((37 : Int64) * (mi.toInt64))), .second, .val (.double (FP.i2d mi)), .second, .val (.int g), .unset, .unset] [(.int (lcmpW ww (4611686018427387904 : Int64)))])) _ (fun t9 k9 => ?_) ?_
      · show Steps p.tables e below (T2.setTop (mkF m 185 #[.val (.long q1), .second, .val (.long q2), .second, .val (.int p3), .val (.int p4), .val (.int (0 : Int32)), .val (.long hh), .second, .val (.long ww), .second, .val (.int mi), .val (.long ((37 : Int64) * (mi.toInt64))), .second, .val (.double (FP.i2d mi)), .second, .val (.int g), .unset, .unset] [])) _
        refine XS.lload X2.here hx rfl (hb hby at_185) rfl ?_
        show Steps p.tables e below (T2.setTop (mkF m 187 #[.val (.long q1), .second, .val (.long q2), .second, .val (.int p3), .val (.int p4), .val (.int (0 : Int32)), .val (.long hh), .second, .val (.long ww), .second, .val (.int mi), .val (.long ((37 : Int64) * (mi.toInt64))), .second, .val (.double (FP.i2d mi)), .second, .val (.int g), .unset, .unset] [(.long ww)])) _
        refine X2.ldc2Long hx hown (mvT hZ (hw _ (List.mem_of_getElem? (i := 10) rfl))) (g := (mkF m 187 #[.val (.long q1), .second, .val (.long q2), .second, .val (.int p3), .val (.int p4), .val (.int (0 : Int32)), .val (.long hh), .second, .val (.long ww), .second, .val (.int mi), .val (.long ((37 : Int64) * (mi.toInt64))), .second, .val (.double (FP.i2d mi)), .second, .val (.int g), .unset, .unset] [(.long ww)])) rfl (hb hby at_187) _ ?_
        show Steps p.tables e below (T2.setTop (mkF m 190 #[.val (.long q1), .second, .val (.long q2), .second, .val (.int p3), .val (.int p4), .val (.int (0 : Int32)), .val (.long hh), .second, .val (.long ww), .second, .val (.int mi), .val (.long ((37 : Int64) * (mi.toInt64))), .second, .val (.double (FP.i2d mi)), .second, .val (.int g), .unset, .unset] [(.long (4611686018427387904 : Int64)), (.long ww)])) _
        refine XS.lcmp X2.here hx rfl (hb hby at_190) rfl ?_
        exact k9
      by_cases hB : (lcmpW ww (4611686018427387904 : Int64)) < (0 : Int32)
      · refine go (T2.setTop (mkF m 205 #[.val (.long q1), .second, .val (.long q2), .second, .val (.int p3), .val (.int p4), .val (.int (0 : Int32)), .val (.long hh), .second, .val (.long ww), .second, .val (.int mi), .val (.long ((37 : Int64) * (mi.toInt64))), .second, .val (.double (FP.i2d mi)), .second, .val (.int g), .unset, .unset] [])) _ (fun t9 k9 => ?_) ?_
        · show Steps p.tables e below (T2.setTop (mkF m 191 #[.val (.long q1), .second, .val (.long q2), .second, .val (.int p3), .val (.int p4), .val (.int (0 : Int32)), .val (.long hh), .second, .val (.long ww), .second, .val (.int mi), .val (.long ((37 : Int64) * (mi.toInt64))), .second, .val (.double (FP.i2d mi)), .second, .val (.int g), .unset, .unset] [(.int (lcmpW ww (4611686018427387904 : Int64)))])) _
          refine XS.ifYes X2.here hx rfl (pc0 := 191) (pc' := 205) rfl (hb hby at_191) rfl ((if0 _ _).trans (tlt hB).1) (by decide) (by decide) ?_
          exact k9
        rw [own_lc, own_big0] at hB
        have e1 := own_addL hh0 hA wq.1 hB
        have e2 := own_subL (k := 4611686018427385856) (a := (37 : Int64) * (mi.toInt64)) (by decide) (by omega) (by omega)
        have e3 := own_subL (k := 4611686018427389952) (a := (37 : Int64) * (mi.toInt64)) (by decide) (by omega) (by omega)
        refine go (T2.setTop (mkF m 221 #[.val (.long q1), .second, .val (.long q2), .second, .val (.int p3), .val (.int p4), .val (.int (0 : Int32)), .val (.long hh), .second, .val (.long ww), .second, .val (.int mi), .val (.long ((37 : Int64) * (mi.toInt64))), .second, .val (.double (FP.i2d mi)), .second, .val (.int g), .val (.long (hh + ww)), .second] [(.int (lcmpW (hh + ww) ((4611686018427385856 : Int64) - ((37 : Int64) * (mi.toInt64)))))])) _ (fun t9 k9 => ?_) ?_
        · show Steps p.tables e below (T2.setTop (mkF m 205 #[.val (.long q1), .second, .val (.long q2), .second, .val (.int p3), .val (.int p4), .val (.int (0 : Int32)), .val (.long hh), .second, .val (.long ww), .second, .val (.int mi), .val (.long ((37 : Int64) * (mi.toInt64))), .second, .val (.double (FP.i2d mi)), .second, .val (.int g), .unset, .unset] [])) _
          refine XS.lload X2.here hx rfl (hb hby at_205) rfl ?_
          show Steps p.tables e below (T2.setTop (mkF m 207 #[.val (.long q1), .second, .val (.long q2), .second, .val (.int p3), .val (.int p4), .val (.int (0 : Int32)), .val (.long hh), .second, .val (.long ww), .second, .val (.int mi), .val (.long ((37 : Int64) * (mi.toInt64))), .second, .val (.double (FP.i2d mi)), .second, .val (.int g), .unset, .unset] [(.long hh)])) _
          refine XS.lload X2.here hx rfl (hb hby at_207) rfl ?_
          show Steps p.tables e below (T2.setTop (mkF m 209 #[.val (.long q1), .second, .val (.long q2), .second, .val (.int p3), .val (.int p4), .val (.int (0 : Int32)), .val (.long hh), .second, .val (.long ww), .second, .val (.int mi), .val (.long ((37 : Int64) * (mi.toInt64))), .second, .val (.double (FP.i2d mi)), .second, .val (.int g), .unset, .unset] [(.long ww), (.long hh)])) _
          refine XS.ladd X2.here hx rfl (hb hby at_209) rfl ?_
          show Steps p.tables e below (T2.setTop (mkF m 210 #[.val (.long q1), .second, .val (.long q2), .second, .val (.int p3), .val (.int p4), .val (.int (0 : Int32)), .val (.long hh), .second, .val (.long ww), .second, .val (.int mi), .val (.long ((37 : Int64) * (mi.toInt64))), .second, .val (.double (FP.i2d mi)), .second, .val (.int g), .unset, .unset] [(.long (hh + ww))])) _
          refine XS.lstore X2.here hx rfl (hb hby at_210) rfl (l' := #[.val (.long q1), .second, .val (.long q2), .second, .val (.int p3), .val (.int p4), .val (.int (0 : Int32)), .val (.long hh), .second, .val (.long ww), .second, .val (.int mi), .val (.long ((37 : Int64) * (mi.toInt64))), .second, .val (.double (FP.i2d mi)), .second, .val (.int g), .val (.long (hh + ww)), .second]) rfl ?_
          show Steps p.tables e below (T2.setTop (mkF m 212 #[.val (.long q1), .second, .val (.long q2), .second, .val (.int p3), .val (.int p4), .val (.int (0 : Int32)), .val (.long hh), .second, .val (.long ww), .second, .val (.int mi), .val (.long ((37 : Int64) * (mi.toInt64))), .second, .val (.double (FP.i2d mi)), .second, .val (.int g), .val (.long (hh + ww)), .second] [])) _
          refine XS.lload X2.here hx rfl (hb hby at_212) rfl ?_
          show Steps p.tables e below (T2.setTop (mkF m 214 #[.val (.long q1), .second, .val (.long q2), .second, .val (.int p3), .val (.int p4), .val (.int (0 : Int32)), .val (.long hh), .second, .val (.long ww), .second, .val (.int mi), .val (.long ((37 : Int64) * (mi.toInt64))), .second, .val (.double (FP.i2d mi)), .second, .val (.int g), .val (.long (hh + ww)), .second] [(.long (hh + ww))])) _
          refine X2.ldc2Long hx hown (mvT hZ (hw _ (List.mem_of_getElem? (i := 13) rfl))) (g := (mkF m 214 #[.val (.long q1), .second, .val (.long q2), .second, .val (.int p3), .val (.int p4), .val (.int (0 : Int32)), .val (.long hh), .second, .val (.long ww), .second, .val (.int mi), .val (.long ((37 : Int64) * (mi.toInt64))), .second, .val (.double (FP.i2d mi)), .second, .val (.int g), .val (.long (hh + ww)), .second] [(.long (hh + ww))])) rfl (hb hby at_214) _ ?_
          show Steps p.tables e below (T2.setTop (mkF m 217 #[.val (.long q1), .second, .val (.long q2), .second, .val (.int p3), .val (.int p4), .val (.int (0 : Int32)), .val (.long hh), .second, .val (.long ww), .second, .val (.int mi), .val (.long ((37 : Int64) * (mi.toInt64))), .second, .val (.double (FP.i2d mi)), .second, .val (.int g), .val (.long (hh + ww)), .second] [(.long (4611686018427385856 : Int64)), (.long (hh + ww))])) _
          refine XS.lload X2.here hx rfl (hb hby at_217) rfl ?_
          show Steps p.tables e below (T2.setTop (mkF m 219 #[.val (.long q1), .second, .val (.long q2), .second, .val (.int p3), .val (.int p4), .val (.int (0 : Int32)), .val (.long hh), .second, .val (.long ww), .second, .val (.int mi), .val (.long ((37 : Int64) * (mi.toInt64))), .second, .val (.double (FP.i2d mi)), .second, .val (.int g), .val (.long (hh + ww)), .second] [(.long ((37 : Int64) * (mi.toInt64))), (.long (4611686018427385856 : Int64)), (.long (hh + ww))])) _
          refine XS.lsub X2.here hx rfl (hb hby at_219) rfl ?_
          show Steps p.tables e below (T2.setTop (mkF m 220 #[.val (.long q1), .second, .val (.long q2), .second, .val (.int p3), .val (.int p4), .val (.int (0 : Int32)), .val (.long hh), .second, .val (.long ww), .second, .val (.int mi), .val (.long ((37 : Int64) * (mi.toInt64))), .second, .val (.double (FP.i2d mi)), .second, .val (.int g), .val (.long (hh + ww)), .second] [(.long ((4611686018427385856 : Int64) - ((37 : Int64) * (mi.toInt64)))), (.long (hh + ww))])) _
          refine XS.lcmp X2.here hx rfl (hb hby at_220) rfl ?_
          exact k9
        by_cases hC : (lcmpW (hh + ww) ((4611686018427385856 : Int64) - ((37 : Int64) * (mi.toInt64)))) < (0 : Int32)
        · refine go (T2.setTop (mkF m 224 #[.val (.long q1), .second, .val (.long q2), .second, .val (.int p3), .val (.int p4), .val (.int (0 : Int32)), .val (.long hh), .second, .val (.long ww), .second, .val (.int mi), .val (.long ((37 : Int64) * (mi.toInt64))), .second, .val (.double (FP.i2d mi)), .second, .val (.int g), .val (.long (hh + ww)), .second] [])) _ (fun t9 k9 => ?_) ?_
          · show Steps p.tables e below (T2.setTop (mkF m 221 #[.val (.long q1), .second, .val (.long q2), .second, .val (.int p3), .val (.int p4), .val (.int (0 : Int32)), .val (.long hh), .second, .val (.long ww), .second, .val (.int mi), .val (.long ((37 : Int64) * (mi.toInt64))), .second, .val (.double (FP.i2d mi)), .second, .val (.int g), .val (.long (hh + ww)), .second] [(.int (lcmpW (hh + ww) ((4611686018427385856 : Int64) - ((37 : Int64) * (mi.toInt64)))))])) _
            refine XS.ifNo X2.here hx rfl (hb hby at_221) rfl ((if0 _ _).trans (tlt hC).2.1) ?_
            exact k9
          rw [own_lc, e1, e2, own_big1, q37] at hC
          have hg1 : g = (1 : Int32) := by rw [← hg]; exact own_up hh0 wq.1 mq.1 mq.2 (by omega)
          refine go (T2.setTop (mkF m 226 #[.val (.long q1), .second, .val (.long q2), .second, .val (.int p3), .val (.int p4), .val (.int (0 : Int32)), .val (.long hh), .second, .val (.long ww), .second, .val (.int mi), .val (.long ((37 : Int64) * (mi.toInt64))), .second, .val (.double (FP.i2d mi)), .second, .val (.int g), .val (.long (hh + ww)), .second] [(.int g)])) _ (fun t9 k9 => ?_) ?_
          · show Steps p.tables e below (T2.setTop (mkF m 224 #[.val (.long q1), .second, .val (.long q2), .second, .val (.int p3), .val (.int p4), .val (.int (0 : Int32)), .val (.long hh), .second, .val (.long ww), .second, .val (.int mi), .val (.long ((37 : Int64) * (mi.toInt64))), .second, .val (.double (FP.i2d mi)), .second, .val (.int g), .val (.long (hh + ww)), .second] [])) _
            refine XS.iload X2.here hx rfl (hb hby at_224) rfl ?_
            exact k9
          subst hg1
          obtain ⟨fs, hr, hrun, hended, hW, hsame⟩ := X2.leave (v := some (.int (1 : Int32))) (fun h => by rw [Bd.returns] at h; cases h) hlk
          refine fin _ ⟨_, _, retN X2 hx (t := .boolean) Bd.returns (by simp) (hb hby at_226) hr, hrun, hended, _, _, rfl, ?_, ⟨_, rfl⟩, hW, hsame.mono (by decide) (by decide)⟩
          show Q0 Z q1 q2 p3 p4 h0 n0 _ T2.heap _
          exact ⟨rfl, N2⟩
        · refine go (T2.setTop (mkF m 227 #[.val (.long q1), .second, .val (.long q2), .second, .val (.int p3), .val (.int p4), .val (.int (0 : Int32)), .val (.long hh), .second, .val (.long ww), .second, .val (.int mi), .val (.long ((37 : Int64) * (mi.toInt64))), .second, .val (.double (FP.i2d mi)), .second, .val (.int g), .val (.long (hh + ww)), .second] [])) _ (fun t9 k9 => ?_) ?_
          · show Steps p.tables e below (T2.setTop (mkF m 221 #[.val (.long q1), .second, .val (.long q2), .second, .val (.int p3), .val (.int p4), .val (.int (0 : Int32)), .val (.long hh), .second, .val (.long ww), .second, .val (.int mi), .val (.long ((37 : Int64) * (mi.toInt64))), .second, .val (.double (FP.i2d mi)), .second, .val (.int g), .val (.long (hh + ww)), .second] [(.int (lcmpW (hh + ww) ((4611686018427385856 : Int64) - ((37 : Int64) * (mi.toInt64)))))])) _
            refine XS.ifYes X2.here hx rfl (pc0 := 221) (pc' := 227) rfl (hb hby at_221) rfl ((if0 _ _).trans (flt hC).2.1) (by decide) (by decide) ?_
            exact k9
          rw [own_lc, e1, e2, own_big1, q37] at hC
          refine go (T2.setTop (mkF m 236 #[.val (.long q1), .second, .val (.long q2), .second, .val (.int p3), .val (.int p4), .val (.int (0 : Int32)), .val (.long hh), .second, .val (.long ww), .second, .val (.int mi), .val (.long ((37 : Int64) * (mi.toInt64))), .second, .val (.double (FP.i2d mi)), .second, .val (.int g), .val (.long (hh + ww)), .second] [(.int (lcmpW (hh + ww) ((4611686018427389952 : Int64) - ((37 : Int64) * (mi.toInt64)))))])) _ (fun t9 k9 => ?_) ?_
          · show Steps p.tables e below (T2.setTop (mkF m 227 #[.val (.long q1), .second, .val (.long q2), .second, .val (.int p3), .val (.int p4), .val (.int (0 : Int32)), .val (.long hh), .second, .val (.long ww), .second, .val (.int mi), .val (.long ((37 : Int64) * (mi.toInt64))), .second, .val (.double (FP.i2d mi)), .second, .val (.int g), .val (.long (hh + ww)), .second] [])) _
            refine XS.lload X2.here hx rfl (hb hby at_227) rfl ?_
            show Steps p.tables e below (T2.setTop (mkF m 229 #[.val (.long q1), .second, .val (.long q2), .second, .val (.int p3), .val (.int p4), .val (.int (0 : Int32)), .val (.long hh), .second, .val (.long ww), .second, .val (.int mi), .val (.long ((37 : Int64) * (mi.toInt64))), .second, .val (.double (FP.i2d mi)), .second, .val (.int g), .val (.long (hh + ww)), .second] [(.long (hh + ww))])) _
            refine X2.ldc2Long hx hown (mvT hZ (hw _ (List.mem_of_getElem? (i := 14) rfl))) (g := (mkF m 229 #[.val (.long q1), .second, .val (.long q2), .second, .val (.int p3), .val (.int p4), .val (.int (0 : Int32)), .val (.long hh), .second, .val (.long ww), .second, .val (.int mi), .val (.long ((37 : Int64) * (mi.toInt64))), .second, .val (.double (FP.i2d mi)), .second, .val (.int g), .val (.long (hh + ww)), .second] [(.long (hh + ww))])) rfl (hb hby at_229) _ ?_
            show Steps p.tables e below (T2.setTop (mkF m 232 #[.val (.long q1), .second, .val (.long q2), .second, .val (.int p3), .val (.int p4), .val (.int (0 : Int32)), .val (.long hh), .second, .val (.long ww), .second, .val (.int mi), .val (.long ((37 : Int64) * (mi.toInt64))), .second, .val (.double (FP.i2d mi)), .second, .val (.int g), .val (.long (hh + ww)), .second] [(.long (4611686018427389952 : Int64)), (.long (hh + ww))])) _
            refine XS.lload X2.here hx rfl (hb hby at_232) rfl ?_
            show Steps p.tables e below (T2.setTop (mkF m 234 #[.val (.long q1), .second, .val (.long q2), .second, .val (.int p3), .val (.int p4), .val (.int (0 : Int32)), .val (.long hh), .second, .val (.long ww), .second, .val (.int mi), .val (.long ((37 : Int64) * (mi.toInt64))), .second, .val (.double (FP.i2d mi)), .second, .val (.int g), .val (.long (hh + ww)), .second] [(.long ((37 : Int64) * (mi.toInt64))), (.long (4611686018427389952 : Int64)), (.long (hh + ww))])) _
            refine XS.lsub X2.here hx rfl (hb hby at_234) rfl ?_
            show Steps p.tables e below (T2.setTop (mkF m 235 #[.val (.long q1), .second, .val (.long q2), .second, .val (.int p3), .val (.int p4), .val (.int (0 : Int32)), .val (.long hh), .second, .val (.long ww), .second, .val (.int mi), .val (.long ((37 : Int64) * (mi.toInt64))), .second, .val (.double (FP.i2d mi)), .second, .val (.int g), .val (.long (hh + ww)), .second] [(.long ((4611686018427389952 : Int64) - ((37 : Int64) * (mi.toInt64)))), (.long (hh + ww))])) _
            refine XS.lcmp X2.here hx rfl (hb hby at_235) rfl ?_
            exact k9
          by_cases hD : (lcmpW (hh + ww) ((4611686018427389952 : Int64) - ((37 : Int64) * (mi.toInt64)))) < (0 : Int32)
          · refine go (T2.setTop (mkF m 251 #[.val (.long q1), .second, .val (.long q2), .second, .val (.int p3), .val (.int p4), .val (.int (0 : Int32)), .val (.long hh), .second, .val (.long ww), .second, .val (.int mi), .val (.long ((37 : Int64) * (mi.toInt64))), .second, .val (.double (FP.i2d mi)), .second, .val (.int g), .val (.long (hh + ww)), .second] [(.int (1 : Int32))])) _ (fun t9 k9 => ?_) ?_
            · show Steps p.tables e below (T2.setTop (mkF m 236 #[.val (.long q1), .second, .val (.long q2), .second, .val (.int p3), .val (.int p4), .val (.int (0 : Int32)), .val (.long hh), .second, .val (.long ww), .second, .val (.int mi), .val (.long ((37 : Int64) * (mi.toInt64))), .second, .val (.double (FP.i2d mi)), .second, .val (.int g), .val (.long (hh + ww)), .second] [(.int (lcmpW (hh + ww) ((4611686018427389952 : Int64) - ((37 : Int64) * (mi.toInt64)))))])) _
              refine XS.ifYes X2.here hx rfl (pc0 := 236) (pc' := 250) rfl (hb hby at_236) rfl ((if0 _ _).trans (tlt hD).1) (by decide) (by decide) ?_
              show Steps p.tables e below (T2.setTop (mkF m 250 #[.val (.long q1), .second, .val (.long q2), .second, .val (.int p3), .val (.int p4), .val (.int (0 : Int32)), .val (.long hh), .second, .val (.long ww), .second, .val (.int mi), .val (.long ((37 : Int64) * (mi.toInt64))), .second, .val (.double (FP.i2d mi)), .second, .val (.int g), .val (.long (hh + ww)), .second] [])) _
              refine XS.iconst X2.here hx rfl (hb hby at_250) ?_
              exact k9
            obtain ⟨fs, hr, hrun, hended, hW, hsame⟩ := X2.leave (v := some (.int (1 : Int32))) (fun h => by rw [Bd.returns] at h; cases h) hlk
            refine fin _ ⟨_, _, retN X2 hx (t := .boolean) Bd.returns (by simp) (hb hby at_251) hr, hrun, hended, _, _, rfl, ?_, ⟨_, rfl⟩, hW, hsame.mono (by decide) (by decide)⟩
            show Q0 Z q1 q2 p3 p4 h0 n0 _ T2.heap _
            exact ⟨rfl, N2⟩
          · refine go (T2.setTop (mkF m 239 #[.val (.long q1), .second, .val (.long q2), .second, .val (.int p3), .val (.int p4), .val (.int (0 : Int32)), .val (.long hh), .second, .val (.long ww), .second, .val (.int mi), .val (.long ((37 : Int64) * (mi.toInt64))), .second, .val (.double (FP.i2d mi)), .second, .val (.int g), .val (.long (hh + ww)), .second] [])) _ (fun t9 k9 => ?_) ?_
            · show Steps p.tables e below (T2.setTop (mkF m 236 #[.val (.long q1), .second, .val (.long q2), .second, .val (.int p3), .val (.int p4), .val (.int (0 : Int32)), .val (.long hh), .second, .val (.long ww), .second, .val (.int mi), .val (.long ((37 : Int64) * (mi.toInt64))), .second, .val (.double (FP.i2d mi)), .second, .val (.int g), .val (.long (hh + ww)), .second] [(.int (lcmpW (hh + ww) ((4611686018427389952 : Int64) - ((37 : Int64) * (mi.toInt64)))))])) _
              refine XS.ifNo X2.here hx rfl (hb hby at_236) rfl ((if0 _ _).trans (flt hD).1) ?_
              exact k9
            rw [own_lc, e1, e3, own_big2, q37] at hD
            have hg0 : g = (0 : Int32) := by rw [← hg]; exact own_down hh0 wq.1 hA hB mq.1 mq.2 (by omega)
            refine go (T2.setTop (mkF m 249 #[.val (.long q1), .second, .val (.long q2), .second, .val (.int p3), .val (.int p4), .val (.int (0 : Int32)), .val (.long hh), .second, .val (.long ww), .second, .val (.int mi), .val (.long ((37 : Int64) * (mi.toInt64))), .second, .val (.double (FP.i2d mi)), .second, .val (.int g), .val (.long (hh + ww)), .second] [(.int (1 : Int32))])) _ (fun t9 k9 => ?_) ?_
            · show Steps p.tables e below (T2.setTop (mkF m 239 #[.val (.long q1), .second, .val (.long q2), .second, .val (.int p3), .val (.int p4), .val (.int (0 : Int32)), .val (.long hh), .second, .val (.long ww), .second, .val (.int mi), .val (.long ((37 : Int64) * (mi.toInt64))), .second, .val (.double (FP.i2d mi)), .second, .val (.int g), .val (.long (hh + ww)), .second] [])) _
              refine XS.iload X2.here hx rfl (hb hby at_239) rfl ?_
              show Steps p.tables e below (T2.setTop (mkF m 241 #[.val (.long q1), .second, .val (.long q2), .second, .val (.int p3), .val (.int p4), .val (.int (0 : Int32)), .val (.long hh), .second, .val (.long ww), .second, .val (.int mi), .val (.long ((37 : Int64) * (mi.toInt64))), .second, .val (.double (FP.i2d mi)), .second, .val (.int g), .val (.long (hh + ww)), .second] [(.int g)])) _
              refine XS.ifNo X2.here hx rfl (hb hby at_241) rfl ((if0 _ _).trans (teq hg0).2) ?_
              show Steps p.tables e below (T2.setTop (mkF m 244 #[.val (.long q1), .second, .val (.long q2), .second, .val (.int p3), .val (.int p4), .val (.int (0 : Int32)), .val (.long hh), .second, .val (.long ww), .second, .val (.int mi), .val (.long ((37 : Int64) * (mi.toInt64))), .second, .val (.double (FP.i2d mi)), .second, .val (.int g), .val (.long (hh + ww)), .second] [])) _
              refine XS.iconst X2.here hx rfl (hb hby at_244) ?_
              show Steps p.tables e below (T2.setTop (mkF m 245 #[.val (.long q1), .second, .val (.long q2), .second, .val (.int p3), .val (.int p4), .val (.int (0 : Int32)), .val (.long hh), .second, .val (.long ww), .second, .val (.int mi), .val (.long ((37 : Int64) * (mi.toInt64))), .second, .val (.double (FP.i2d mi)), .second, .val (.int g), .val (.long (hh + ww)), .second] [(.int (1 : Int32))])) _
              refine XS.goto X2.here hx rfl (pc0 := 245) (pc' := 249) rfl (hb hby at_245) (by decide) (by decide) ?_
              exact k9
            obtain ⟨fs, hr, hrun, hended, hW, hsame⟩ := X2.leave (v := some (.int (1 : Int32))) (fun h => by rw [Bd.returns] at h; cases h) hlk
            refine fin _ ⟨_, _, retN X2 hx (t := .boolean) Bd.returns (by simp) (hb hby at_249) hr, hrun, hended, _, _, rfl, ?_, ⟨_, rfl⟩, hW, hsame.mono (by decide) (by decide)⟩
            show Q0 Z q1 q2 p3 p4 h0 n0 _ T2.heap _
            exact ⟨rfl, N2⟩
      · refine go (T2.setTop (mkF m 194 #[.val (.long q1), .second, .val (.long q2), .second, .val (.int p3), .val (.int p4), .val (.int (0 : Int32)), .val (.long hh), .second, .val (.long ww), .second, .val (.int mi), .val (.long ((37 : Int64) * (mi.toInt64))), .second, .val (.double (FP.i2d mi)), .second, .val (.int g), .unset, .unset] [])) _ (fun t9 k9 => ?_) ?_
        · show Steps p.tables e below (T2.setTop (mkF m 191 #[.val (.long q1), .second, .val (.long q2), .second, .val (.int p3), .val (.int p4), .val (.int (0 : Int32)), .val (.long hh), .second, .val (.long ww), .second, .val (.int mi), .val (.long ((37 : Int64) * (mi.toInt64))), .second, .val (.double (FP.i2d mi)), .second, .val (.int g), .unset, .unset] [(.int (lcmpW ww (4611686018427387904 : Int64)))])) _
          refine XS.ifNo X2.here hx rfl (hb hby at_191) rfl ((if0 _ _).trans (flt hB).1) ?_
          exact k9
        rw [own_lc, own_big0] at hB
        have hg0 : g = (0 : Int32) := by rw [← hg]; exact own_great hh0 wq.1 mq.1 mq.2 (Or.inr (by omega))
        refine go (T2.setTop (mkF m 204 #[.val (.long q1), .second, .val (.long q2), .second, .val (.int p3), .val (.int p4), .val (.int (0 : Int32)), .val (.long hh), .second, .val (.long ww), .second, .val (.int mi), .val (.long ((37 : Int64) * (mi.toInt64))), .second, .val (.double (FP.i2d mi)), .second, .val (.int g), .unset, .unset] [(.int (1 : Int32))])) _ (fun t9 k9 => ?_) ?_
        · show Steps p.tables e below (T2.setTop (mkF m 194 #[.val (.long q1), .second, .val (.long q2), .second, .val (.int p3), .val (.int p4), .val (.int (0 : Int32)), .val (.long hh), .second, .val (.long ww), .second, .val (.int mi), .val (.long ((37 : Int64) * (mi.toInt64))), .second, .val (.double (FP.i2d mi)), .second, .val (.int g), .unset, .unset] [])) _
          refine XS.iload X2.here hx rfl (hb hby at_194) rfl ?_
          show Steps p.tables e below (T2.setTop (mkF m 196 #[.val (.long q1), .second, .val (.long q2), .second, .val (.int p3), .val (.int p4), .val (.int (0 : Int32)), .val (.long hh), .second, .val (.long ww), .second, .val (.int mi), .val (.long ((37 : Int64) * (mi.toInt64))), .second, .val (.double (FP.i2d mi)), .second, .val (.int g), .unset, .unset] [(.int g)])) _
          refine XS.ifNo X2.here hx rfl (hb hby at_196) rfl ((if0 _ _).trans (teq hg0).2) ?_
          show Steps p.tables e below (T2.setTop (mkF m 199 #[.val (.long q1), .second, .val (.long q2), .second, .val (.int p3), .val (.int p4), .val (.int (0 : Int32)), .val (.long hh), .second, .val (.long ww), .second, .val (.int mi), .val (.long ((37 : Int64) * (mi.toInt64))), .second, .val (.double (FP.i2d mi)), .second, .val (.int g), .unset, .unset] [])) _
          refine XS.iconst X2.here hx rfl (hb hby at_199) ?_
          show Steps p.tables e below (T2.setTop (mkF m 200 #[.val (.long q1), .second, .val (.long q2), .second, .val (.int p3), .val (.int p4), .val (.int (0 : Int32)), .val (.long hh), .second, .val (.long ww), .second, .val (.int mi), .val (.long ((37 : Int64) * (mi.toInt64))), .second, .val (.double (FP.i2d mi)), .second, .val (.int g), .unset, .unset] [(.int (1 : Int32))])) _
          refine XS.goto X2.here hx rfl (pc0 := 200) (pc' := 204) rfl (hb hby at_200) (by decide) (by decide) ?_
          exact k9
        obtain ⟨fs, hr, hrun, hended, hW, hsame⟩ := X2.leave (v := some (.int (1 : Int32))) (fun h => by rw [Bd.returns] at h; cases h) hlk
        refine fin _ ⟨_, _, retN X2 hx (t := .boolean) Bd.returns (by simp) (hb hby at_204) hr, hrun, hended, _, _, rfl, ?_, ⟨_, rfl⟩, hW, hsame.mono (by decide) (by decide)⟩
        show Q0 Z q1 q2 p3 p4 h0 n0 _ T2.heap _
        exact ⟨rfl, N2⟩
    · refine go (T2.setTop (mkF m 194 #[.val (.long q1), .second, .val (.long q2), .second, .val (.int p3), .val (.int p4), .val (.int (0 : Int32)), .val (.long hh), .second, .val (.long ww), .second, .val (.int mi), .val (.long ((37 : Int64) * (mi.toInt64))), .second, .val (.double (FP.i2d mi)), .second, .val (.int g), .unset, .unset] [])) _ (fun t9 k9 => ?_) ?_
      · show Steps p.tables e below (T2.setTop (mkF m 182 #[.val (.long q1), .second, .val (.long q2), .second, .val (.int p3), .val (.int p4), .val (.int (0 : Int32)), .val (.long hh), .second, .val (.long ww), .second, .val (.int mi), .val (.long ((37 : Int64) * (mi.toInt64))), .second, .val (.double (FP.i2d mi)), .second, .val (.int g), .unset, .unset] [(.int (lcmpW hh (4611686018427387904 : Int64)))])) _
        refine XS.ifYes X2.here hx rfl (pc0 := 182) (pc' := 194) rfl (hb hby at_182) rfl ((if0 _ _).trans (flt hA).2.1) (by decide) (by decide) ?_
        exact k9
      rw [own_lc, own_big0] at hA
      have hg0 : g = (0 : Int32) := by rw [← hg]; exact own_great hh0 wq.1 mq.1 mq.2 (Or.inl (by omega))
      refine go (T2.setTop (mkF m 204 #[.val (.long q1), .second, .val (.long q2), .second, .val (.int p3), .val (.int p4), .val (.int (0 : Int32)), .val (.long hh), .second, .val (.long ww), .second, .val (.int mi), .val (.long ((37 : Int64) * (mi.toInt64))), .second, .val (.double (FP.i2d mi)), .second, .val (.int g), .unset, .unset] [(.int (1 : Int32))])) _ (fun t9 k9 => ?_) ?_
      · show Steps p.tables e below (T2.setTop (mkF m 194 #[.val (.long q1), .second, .val (.long q2), .second, .val (.int p3), .val (.int p4), .val (.int (0 : Int32)), .val (.long hh), .second, .val (.long ww), .second, .val (.int mi), .val (.long ((37 : Int64) * (mi.toInt64))), .second, .val (.double (FP.i2d mi)), .second, .val (.int g), .unset, .unset] [])) _
        refine XS.iload X2.here hx rfl (hb hby at_194) rfl ?_
        show Steps p.tables e below (T2.setTop (mkF m 196 #[.val (.long q1), .second, .val (.long q2), .second, .val (.int p3), .val (.int p4), .val (.int (0 : Int32)), .val (.long hh), .second, .val (.long ww), .second, .val (.int mi), .val (.long ((37 : Int64) * (mi.toInt64))), .second, .val (.double (FP.i2d mi)), .second, .val (.int g), .unset, .unset] [(.int g)])) _
        refine XS.ifNo X2.here hx rfl (hb hby at_196) rfl ((if0 _ _).trans (teq hg0).2) ?_
        show Steps p.tables e below (T2.setTop (mkF m 199 #[.val (.long q1), .second, .val (.long q2), .second, .val (.int p3), .val (.int p4), .val (.int (0 : Int32)), .val (.long hh), .second, .val (.long ww), .second, .val (.int mi), .val (.long ((37 : Int64) * (mi.toInt64))), .second, .val (.double (FP.i2d mi)), .second, .val (.int g), .unset, .unset] [])) _
        refine XS.iconst X2.here hx rfl (hb hby at_199) ?_
        show Steps p.tables e below (T2.setTop (mkF m 200 #[.val (.long q1), .second, .val (.long q2), .second, .val (.int p3), .val (.int p4), .val (.int (0 : Int32)), .val (.long hh), .second, .val (.long ww), .second, .val (.int mi), .val (.long ((37 : Int64) * (mi.toInt64))), .second, .val (.double (FP.i2d mi)), .second, .val (.int g), .unset, .unset] [(.int (1 : Int32))])) _
        refine XS.goto X2.here hx rfl (pc0 := 200) (pc' := 204) rfl (hb hby at_200) (by decide) (by decide) ?_
        exact k9
      obtain ⟨fs, hr, hrun, hended, hW, hsame⟩ := X2.leave (v := some (.int (1 : Int32))) (fun h => by rw [Bd.returns] at h; cases h) hlk
      refine fin _ ⟨_, _, retN X2 hx (t := .boolean) Bd.returns (by simp) (hb hby at_204) hr, hrun, hended, _, _, rfl, ?_, ⟨_, rfl⟩, hW, hsame.mono (by decide) (by decide)⟩
      show Q0 Z q1 q2 p3 p4 h0 n0 _ T2.heap _
      exact ⟨rfl, N2⟩
  · refine go (s₁.setTop (mkF m 30 #[.val (.long q1), .second, .val (.long q2), .second, .val (.int p3), .val (.int p4), .val (.int (1 : Int32)), .val (.long (q1 &&& (9223372036854774784 : Int64))), .second, .unset, .unset, .unset, .unset, .unset, .unset, .unset, .unset, .unset, .unset] [(.int (lcmpW (q1 &&& (9223372036854774784 : Int64)) (0 : Int64)))])) _ (fun t9 k9 => ?_) ?_
    · show Steps p.tables e below (s₁.setTop (mkF m 4 #[.val (.long q1), .second, .val (.long q2), .second, .val (.int p3), .val (.int p4), .unset, .unset, .unset, .unset, .unset, .unset, .unset, .unset, .unset, .unset, .unset, .unset, .unset] [(.int (p4 &&& (1 : Int32)))])) _
      refine XS.ifNo X0.here hx rfl (hb hby at_4) rfl ((if0 _ _).trans (feq h4).1) ?_
      show Steps p.tables e below (s₁.setTop (mkF m 7 #[.val (.long q1), .second, .val (.long q2), .second, .val (.int p3), .val (.int p4), .unset, .unset, .unset, .unset, .unset, .unset, .unset, .unset, .unset, .unset, .unset, .unset, .unset] [])) _
      refine XS.iconst X0.here hx rfl (hb hby at_7) ?_
      show Steps p.tables e below (s₁.setTop (mkF m 8 #[.val (.long q1), .second, .val (.long q2), .second, .val (.int p3), .val (.int p4), .unset, .unset, .unset, .unset, .unset, .unset, .unset, .unset, .unset, .unset, .unset, .unset, .unset] [(.int (1 : Int32))])) _
      refine XS.goto X0.here hx rfl (pc0 := 8) (pc' := 12) rfl (hb hby at_8) (by decide) (by decide) ?_
      show Steps p.tables e below (s₁.setTop (mkF m 12 #[.val (.long q1), .second, .val (.long q2), .second, .val (.int p3), .val (.int p4), .unset, .unset, .unset, .unset, .unset, .unset, .unset, .unset, .unset, .unset, .unset, .unset, .unset] [(.int (1 : Int32))])) _
      refine XS.istore X0.here hx rfl (hb hby at_12) rfl (l' := #[.val (.long q1), .second, .val (.long q2), .second, .val (.int p3), .val (.int p4), .val (.int (1 : Int32)), .unset, .unset, .unset, .unset, .unset, .unset, .unset, .unset, .unset, .unset, .unset, .unset]) rfl ?_
      show Steps p.tables e below (s₁.setTop (mkF m 14 #[.val (.long q1), .second, .val (.long q2), .second, .val (.int p3), .val (.int p4), .val (.int (1 : Int32)), .unset, .unset, .unset, .unset, .unset, .unset, .unset, .unset, .unset, .unset, .unset, .unset] [])) _
      refine XS.iload X0.here hx rfl (hb hby at_14) rfl ?_
      show Steps p.tables e below (s₁.setTop (mkF m 16 #[.val (.long q1), .second, .val (.long q2), .second, .val (.int p3), .val (.int p4), .val (.int (1 : Int32)), .unset, .unset, .unset, .unset, .unset, .unset, .unset, .unset, .unset, .unset, .unset, .unset] [(.int (1 : Int32))])) _
      refine XS.ifNo X0.here hx rfl (hb hby at_16) rfl ((if0 _ _).trans (feq (by decide : ¬ (1 : Int32) = (0 : Int32))).1) ?_
      show Steps p.tables e below (s₁.setTop (mkF m 19 #[.val (.long q1), .second, .val (.long q2), .second, .val (.int p3), .val (.int p4), .val (.int (1 : Int32)), .unset, .unset, .unset, .unset, .unset, .unset, .unset, .unset, .unset, .unset, .unset, .unset] [])) _
      refine XS.lloadN X0.here hx rfl (hb hby at_19) rfl ?_
      show Steps p.tables e below (s₁.setTop (mkF m 20 #[.val (.long q1), .second, .val (.long q2), .second, .val (.int p3), .val (.int p4), .val (.int (1 : Int32)), .unset, .unset, .unset, .unset, .unset, .unset, .unset, .unset, .unset, .unset, .unset, .unset] [(.long q1)])) _
      refine X0.ldc2Long hx hown (mvT hZ (hw _ (List.mem_of_getElem? (i := 0) rfl))) (g := (mkF m 20 #[.val (.long q1), .second, .val (.long q2), .second, .val (.int p3), .val (.int p4), .val (.int (1 : Int32)), .unset, .unset, .unset, .unset, .unset, .unset, .unset, .unset, .unset, .unset, .unset, .unset] [(.long q1)])) rfl (hb hby at_20) _ ?_
      show Steps p.tables e below (s₁.setTop (mkF m 23 #[.val (.long q1), .second, .val (.long q2), .second, .val (.int p3), .val (.int p4), .val (.int (1 : Int32)), .unset, .unset, .unset, .unset, .unset, .unset, .unset, .unset, .unset, .unset, .unset, .unset] [(.long (9223372036854774784 : Int64)), (.long q1)])) _
      refine XS.land X0.here hx rfl (hb hby at_23) rfl ?_
      show Steps p.tables e below (s₁.setTop (mkF m 24 #[.val (.long q1), .second, .val (.long q2), .second, .val (.int p3), .val (.int p4), .val (.int (1 : Int32)), .unset, .unset, .unset, .unset, .unset, .unset, .unset, .unset, .unset, .unset, .unset, .unset] [(.long (q1 &&& (9223372036854774784 : Int64)))])) _
      refine XS.lstore X0.here hx rfl (hb hby at_24) rfl (l' := #[.val (.long q1), .second, .val (.long q2), .second, .val (.int p3), .val (.int p4), .val (.int (1 : Int32)), .val (.long (q1 &&& (9223372036854774784 : Int64))), .second, .unset, .unset, .unset, .unset, .unset, .unset, .unset, .unset, .unset, .unset]) rfl ?_
      show Steps p.tables e below (s₁.setTop (mkF m 26 #[.val (.long q1), .second, .val (.long q2), .second, .val (.int p3), .val (.int p4), .val (.int (1 : Int32)), .val (.long (q1 &&& (9223372036854774784 : Int64))), .second, .unset, .unset, .unset, .unset, .unset, .unset, .unset, .unset, .unset, .unset] [])) _
      refine XS.lload X0.here hx rfl (hb hby at_26) rfl ?_
      show Steps p.tables e below (s₁.setTop (mkF m 28 #[.val (.long q1), .second, .val (.long q2), .second, .val (.int p3), .val (.int p4), .val (.int (1 : Int32)), .val (.long (q1 &&& (9223372036854774784 : Int64))), .second, .unset, .unset, .unset, .unset, .unset, .unset, .unset, .unset, .unset, .unset] [(.long (q1 &&& (9223372036854774784 : Int64)))])) _
      refine XS.lconst X0.here hx rfl (hb hby at_28) ?_
      show Steps p.tables e below (s₁.setTop (mkF m 29 #[.val (.long q1), .second, .val (.long q2), .second, .val (.int p3), .val (.int p4), .val (.int (1 : Int32)), .val (.long (q1 &&& (9223372036854774784 : Int64))), .second, .unset, .unset, .unset, .unset, .unset, .unset, .unset, .unset, .unset, .unset] [(.long (0 : Int64)), (.long (q1 &&& (9223372036854774784 : Int64)))])) _
      refine XS.lcmp X0.here hx rfl (hb hby at_29) rfl ?_
      exact k9
    refine go (s₁.setTop (mkF m 38 #[.val (.long q1), .second, .val (.long q2), .second, .val (.int p3), .val (.int p4), .val (.int (1 : Int32)), .val (.long (if (lcmpW (q1 &&& (9223372036854774784 : Int64)) (0 : Int64)) = (0 : Int32) then (1024 : Int64) else (q1 &&& (9223372036854774784 : Int64)))), .second, .unset, .unset, .unset, .unset, .unset, .unset, .unset, .unset, .unset, .unset] [])) _ (fun t9 k9 => ?_) ?_
    · by_cases h30_1 : (lcmpW (q1 &&& (9223372036854774784 : Int64)) (0 : Int64)) = (0 : Int32)
      · try (simp only [if_pos h30_1] at k9)
        show Steps p.tables e below (s₁.setTop (mkF m 30 #[.val (.long q1), .second, .val (.long q2), .second, .val (.int p3), .val (.int p4), .val (.int (1 : Int32)), .val (.long (q1 &&& (9223372036854774784 : Int64))), .second, .unset, .unset, .unset, .unset, .unset, .unset, .unset, .unset, .unset, .unset] [(.int (lcmpW (q1 &&& (9223372036854774784 : Int64)) (0 : Int64)))])) _
        refine XS.ifNo X0.here hx rfl (hb hby at_30) rfl ((if0 _ _).trans (teq h30_1).2) ?_
        show Steps p.tables e below (s₁.setTop (mkF m 33 #[.val (.long q1), .second, .val (.long q2), .second, .val (.int p3), .val (.int p4), .val (.int (1 : Int32)), .val (.long (q1 &&& (9223372036854774784 : Int64))), .second, .unset, .unset, .unset, .unset, .unset, .unset, .unset, .unset, .unset, .unset] [])) _
        refine X0.ldc2Long hx hown (mvT hZ (hw _ (List.mem_of_getElem? (i := 1) rfl))) (g := (mkF m 33 #[.val (.long q1), .second, .val (.long q2), .second, .val (.int p3), .val (.int p4), .val (.int (1 : Int32)), .val (.long (q1 &&& (9223372036854774784 : Int64))), .second, .unset, .unset, .unset, .unset, .unset, .unset, .unset, .unset, .unset, .unset] [])) rfl (hb hby at_33) _ ?_
        show Steps p.tables e below (s₁.setTop (mkF m 36 #[.val (.long q1), .second, .val (.long q2), .second, .val (.int p3), .val (.int p4), .val (.int (1 : Int32)), .val (.long (q1 &&& (9223372036854774784 : Int64))), .second, .unset, .unset, .unset, .unset, .unset, .unset, .unset, .unset, .unset, .unset] [(.long (1024 : Int64))])) _
        refine XS.lstore X0.here hx rfl (hb hby at_36) rfl (l' := #[.val (.long q1), .second, .val (.long q2), .second, .val (.int p3), .val (.int p4), .val (.int (1 : Int32)), .val (.long (1024 : Int64)), .second, .unset, .unset, .unset, .unset, .unset, .unset, .unset, .unset, .unset, .unset]) rfl ?_
        exact k9
      · try (simp only [if_neg h30_1] at k9)
        show Steps p.tables e below (s₁.setTop (mkF m 30 #[.val (.long q1), .second, .val (.long q2), .second, .val (.int p3), .val (.int p4), .val (.int (1 : Int32)), .val (.long (q1 &&& (9223372036854774784 : Int64))), .second, .unset, .unset, .unset, .unset, .unset, .unset, .unset, .unset, .unset, .unset] [(.int (lcmpW (q1 &&& (9223372036854774784 : Int64)) (0 : Int64)))])) _
        refine XS.ifYes X0.here hx rfl (pc0 := 30) (pc' := 38) rfl (hb hby at_30) rfl ((if0 _ _).trans (feq h30_1).2) (by decide) (by decide) ?_
        exact k9
    generalize hhe : (if (lcmpW (q1 &&& (9223372036854774784 : Int64)) (0 : Int64)) = (0 : Int32) then (1024 : Int64) else (q1 &&& (9223372036854774784 : Int64))) = hh
    have hh0 : 0 ≤ hh.toInt ∧ hh.toInt % 1024 = 0 := by
      have q := own_maskA q1
      rw [← hhe]
      split
      · exact ⟨by decide, by decide⟩
      · exact ⟨q.1, q.2.2⟩
    refine go (s₁.setTop (mkF m 45 #[.val (.long q1), .second, .val (.long q2), .second, .val (.int p3), .val (.int p4), .val (.int (1 : Int32)), .val (.long hh), .second, .val (.long (q2 &&& (9223372036854774784 : Int64))), .second, .unset, .unset, .unset, .unset, .unset, .unset, .unset, .unset] [])) _ (fun t9 k9 => ?_) ?_
    · show Steps p.tables e below (s₁.setTop (mkF m 38 #[.val (.long q1), .second, .val (.long q2), .second, .val (.int p3), .val (.int p4), .val (.int (1 : Int32)), .val (.long hh), .second, .unset, .unset, .unset, .unset, .unset, .unset, .unset, .unset, .unset, .unset] [])) _
      refine XS.lloadN X0.here hx rfl (hb hby at_38) rfl ?_
      show Steps p.tables e below (s₁.setTop (mkF m 39 #[.val (.long q1), .second, .val (.long q2), .second, .val (.int p3), .val (.int p4), .val (.int (1 : Int32)), .val (.long hh), .second, .unset, .unset, .unset, .unset, .unset, .unset, .unset, .unset, .unset, .unset] [(.long q2)])) _
      refine X0.ldc2Long hx hown (mvT hZ (hw _ (List.mem_of_getElem? (i := 0) rfl))) (g := (mkF m 39 #[.val (.long q1), .second, .val (.long q2), .second, .val (.int p3), .val (.int p4), .val (.int (1 : Int32)), .val (.long hh), .second, .unset, .unset, .unset, .unset, .unset, .unset, .unset, .unset, .unset, .unset] [(.long q2)])) rfl (hb hby at_39) _ ?_
      show Steps p.tables e below (s₁.setTop (mkF m 42 #[.val (.long q1), .second, .val (.long q2), .second, .val (.int p3), .val (.int p4), .val (.int (1 : Int32)), .val (.long hh), .second, .unset, .unset, .unset, .unset, .unset, .unset, .unset, .unset, .unset, .unset] [(.long (9223372036854774784 : Int64)), (.long q2)])) _
      refine XS.land X0.here hx rfl (hb hby at_42) rfl ?_
      show Steps p.tables e below (s₁.setTop (mkF m 43 #[.val (.long q1), .second, .val (.long q2), .second, .val (.int p3), .val (.int p4), .val (.int (1 : Int32)), .val (.long hh), .second, .unset, .unset, .unset, .unset, .unset, .unset, .unset, .unset, .unset, .unset] [(.long (q2 &&& (9223372036854774784 : Int64)))])) _
      refine XS.lstore X0.here hx rfl (hb hby at_43) rfl (l' := #[.val (.long q1), .second, .val (.long q2), .second, .val (.int p3), .val (.int p4), .val (.int (1 : Int32)), .val (.long hh), .second, .val (.long (q2 &&& (9223372036854774784 : Int64))), .second, .unset, .unset, .unset, .unset, .unset, .unset, .unset, .unset]) rfl ?_
      exact k9
    have wq := own_maskA q2
    generalize wwe : (q2 &&& (9223372036854774784 : Int64)) = ww
    rw [wwe] at wq
    refine go (s₁.setTop (mkF m 93 #[.val (.long q1), .second, .val (.long q2), .second, .val (.int p3), .val (.int p4), .val (.int (1 : Int32)), .val (.long hh), .second, .val (.long ww), .second, .val (.int (((p3 &&& (1048575 : Int32)) + (1 : Int32)) <<< ((10 : Int32) &&& 31))), .unset, .unset, .unset, .unset, .unset, .unset, .unset] [])) _ (fun t9 k9 => ?_) ?_
    · show Steps p.tables e below (s₁.setTop (mkF m 45 #[.val (.long q1), .second, .val (.long q2), .second, .val (.int p3), .val (.int p4), .val (.int (1 : Int32)), .val (.long hh), .second, .val (.long ww), .second, .unset, .unset, .unset, .unset, .unset, .unset, .unset, .unset] [])) _
      refine XS.iload X0.here hx rfl (hb hby at_45) rfl ?_
      show Steps p.tables e below (s₁.setTop (mkF m 47 #[.val (.long q1), .second, .val (.long q2), .second, .val (.int p3), .val (.int p4), .val (.int (1 : Int32)), .val (.long hh), .second, .val (.long ww), .second, .unset, .unset, .unset, .unset, .unset, .unset, .unset, .unset] [(.int p3)])) _
      refine X0.ldcInt hx hown (mvT hZ (hw _ (List.mem_of_getElem? (i := 2) rfl))) (g := (mkF m 47 #[.val (.long q1), .second, .val (.long q2), .second, .val (.int p3), .val (.int p4), .val (.int (1 : Int32)), .val (.long hh), .second, .val (.long ww), .second, .unset, .unset, .unset, .unset, .unset, .unset, .unset, .unset] [(.int p3)])) rfl (hb hby at_47) _ ?_
      show Steps p.tables e below (s₁.setTop (mkF m 49 #[.val (.long q1), .second, .val (.long q2), .second, .val (.int p3), .val (.int p4), .val (.int (1 : Int32)), .val (.long hh), .second, .val (.long ww), .second, .unset, .unset, .unset, .unset, .unset, .unset, .unset, .unset] [(.int (1048575 : Int32)), (.int p3)])) _
      refine XS.iand X0.here hx rfl (hb hby at_49) rfl ?_
      show Steps p.tables e below (s₁.setTop (mkF m 50 #[.val (.long q1), .second, .val (.long q2), .second, .val (.int p3), .val (.int p4), .val (.int (1 : Int32)), .val (.long hh), .second, .val (.long ww), .second, .unset, .unset, .unset, .unset, .unset, .unset, .unset, .unset] [(.int (p3 &&& (1048575 : Int32)))])) _
      refine XS.iconst X0.here hx rfl (hb hby at_50) ?_
      show Steps p.tables e below (s₁.setTop (mkF m 51 #[.val (.long q1), .second, .val (.long q2), .second, .val (.int p3), .val (.int p4), .val (.int (1 : Int32)), .val (.long hh), .second, .val (.long ww), .second, .unset, .unset, .unset, .unset, .unset, .unset, .unset, .unset] [(.int (1 : Int32)), (.int (p3 &&& (1048575 : Int32)))])) _
      refine XS.iadd X0.here hx rfl (hb hby at_51) rfl ?_
      show Steps p.tables e below (s₁.setTop (mkF m 52 #[.val (.long q1), .second, .val (.long q2), .second, .val (.int p3), .val (.int p4), .val (.int (1 : Int32)), .val (.long hh), .second, .val (.long ww), .second, .unset, .unset, .unset, .unset, .unset, .unset, .unset, .unset] [(.int ((p3 &&& (1048575 : Int32)) + (1 : Int32)))])) _
      refine XS.bipush X0.here hx rfl (hb hby at_52) ?_
      show Steps p.tables e below (s₁.setTop (mkF m 54 #[.val (.long q1), .second, .val (.long q2), .second, .val (.int p3), .val (.int p4), .val (.int (1 : Int32)), .val (.long hh), .second, .val (.long ww), .second, .unset, .unset, .unset, .unset, .unset, .unset, .unset, .unset] [(.int (10 : Int32)), (.int ((p3 &&& (1048575 : Int32)) + (1 : Int32)))])) _
      refine XS.ishl X0.here hx rfl (hb hby at_54) rfl ?_
      show Steps p.tables e below (s₁.setTop (mkF m 55 #[.val (.long q1), .second, .val (.long q2), .second, .val (.int p3), .val (.int p4), .val (.int (1 : Int32)), .val (.long hh), .second, .val (.long ww), .second, .unset, .unset, .unset, .unset, .unset, .unset, .unset, .unset] [(.int (((p3 &&& (1048575 : Int32)) + (1 : Int32)) <<< ((10 : Int32) &&& 31)))])) _
      refine XS.istore X0.here hx rfl (hb hby at_55) rfl (l' := #[.val (.long q1), .second, .val (.long q2), .second, .val (.int p3), .val (.int p4), .val (.int (1 : Int32)), .val (.long hh), .second, .val (.long ww), .second, .val (.int (((p3 &&& (1048575 : Int32)) + (1 : Int32)) <<< ((10 : Int32) &&& 31))), .unset, .unset, .unset, .unset, .unset, .unset, .unset]) rfl ?_
      show Steps p.tables e below (s₁.setTop (mkF m 57 #[.val (.long q1), .second, .val (.long q2), .second, .val (.int p3), .val (.int p4), .val (.int (1 : Int32)), .val (.long hh), .second, .val (.long ww), .second, .val (.int (((p3 &&& (1048575 : Int32)) + (1 : Int32)) <<< ((10 : Int32) &&& 31))), .unset, .unset, .unset, .unset, .unset, .unset, .unset] [])) _
      refine XS.goto X0.here hx rfl (pc0 := 57) (pc' := 93) rfl (hb hby at_57) (by decide) (by decide) ?_
      exact k9
    have mq := own_mA p3
    generalize mie : (((p3 &&& (1048575 : Int32)) + (1 : Int32)) <<< ((10 : Int32) &&& 31)) = mi
    rw [mie] at mq
    refine go (s₁.setTop (mkF m 113 #[.val (.long q1), .second, .val (.long q2), .second, .val (.int p3), .val (.int p4), .val (.int (1 : Int32)), .val (.long hh), .second, .val (.long ww), .second, .val (.int mi), .val (.long ((37 : Int64) * (mi.toInt64))), .second, .val (.double (FP.i2d mi)), .second, .unset, .unset, .unset] [(.long hh), (.long ww), (.double (FP.i2d mi))])) _ (fun t9 k9 => ?_) ?_
    · show Steps p.tables e below (s₁.setTop (mkF m 93 #[.val (.long q1), .second, .val (.long q2), .second, .val (.int p3), .val (.int p4), .val (.int (1 : Int32)), .val (.long hh), .second, .val (.long ww), .second, .val (.int mi), .unset, .unset, .unset, .unset, .unset, .unset, .unset] [])) _
      refine X0.ldc2Long hx hown (mvT hZ (hw _ (List.mem_of_getElem? (i := 3) rfl))) (g := (mkF m 93 #[.val (.long q1), .second, .val (.long q2), .second, .val (.int p3), .val (.int p4), .val (.int (1 : Int32)), .val (.long hh), .second, .val (.long ww), .second, .val (.int mi), .unset, .unset, .unset, .unset, .unset, .unset, .unset] [])) rfl (hb hby at_93) _ ?_
      show Steps p.tables e below (s₁.setTop (mkF m 96 #[.val (.long q1), .second, .val (.long q2), .second, .val (.int p3), .val (.int p4), .val (.int (1 : Int32)), .val (.long hh), .second, .val (.long ww), .second, .val (.int mi), .unset, .unset, .unset, .unset, .unset, .unset, .unset] [(.long (37 : Int64))])) _
      refine XS.iload X0.here hx rfl (hb hby at_96) rfl ?_
      show Steps p.tables e below (s₁.setTop (mkF m 98 #[.val (.long q1), .second, .val (.long q2), .second, .val (.int p3), .val (.int p4), .val (.int (1 : Int32)), .val (.long hh), .second, .val (.long ww), .second, .val (.int mi), .unset, .unset, .unset, .unset, .unset, .unset, .unset] [(.int mi), (.long (37 : Int64))])) _
      refine XS.i2l X0.here hx rfl (hb hby at_98) rfl ?_
      show Steps p.tables e below (s₁.setTop (mkF m 99 #[.val (.long q1), .second, .val (.long q2), .second, .val (.int p3), .val (.int p4), .val (.int (1 : Int32)), .val (.long hh), .second, .val (.long ww), .second, .val (.int mi), .unset, .unset, .unset, .unset, .unset, .unset, .unset] [(.long (mi.toInt64)), (.long (37 : Int64))])) _
      refine XS.lmul X0.here hx rfl (hb hby at_99) rfl ?_
      show Steps p.tables e below (s₁.setTop (mkF m 100 #[.val (.long q1), .second, .val (.long q2), .second, .val (.int p3), .val (.int p4), .val (.int (1 : Int32)), .val (.long hh), .second, .val (.long ww), .second, .val (.int mi), .unset, .unset, .unset, .unset, .unset, .unset, .unset] [(.long ((37 : Int64) * (mi.toInt64)))])) _
      refine XS.lstore X0.here hx rfl (hb hby at_100) rfl (l' := #[.val (.long q1), .second, .val (.long q2), .second, .val (.int p3), .val (.int p4), .val (.int (1 : Int32)), .val (.long hh), .second, .val (.long ww), .second, .val (.int mi), .val (.long ((37 : Int64) * (mi.toInt64))), .second, .unset, .unset, .unset, .unset, .unset]) rfl ?_
      show Steps p.tables e below (s₁.setTop (mkF m 102 #[.val (.long q1), .second, .val (.long q2), .second, .val (.int p3), .val (.int p4), .val (.int (1 : Int32)), .val (.long hh), .second, .val (.long ww), .second, .val (.int mi), .val (.long ((37 : Int64) * (mi.toInt64))), .second, .unset, .unset, .unset, .unset, .unset] [])) _
      refine XS.iload X0.here hx rfl (hb hby at_102) rfl ?_
      show Steps p.tables e below (s₁.setTop (mkF m 104 #[.val (.long q1), .second, .val (.long q2), .second, .val (.int p3), .val (.int p4), .val (.int (1 : Int32)), .val (.long hh), .second, .val (.long ww), .second, .val (.int mi), .val (.long ((37 : Int64) * (mi.toInt64))), .second, .unset, .unset, .unset, .unset, .unset] [(.int mi)])) _
      refine XS.i2dS X0.here hx rfl (hb hby at_104) rfl rfl ?_
      show Steps p.tables e below (s₁.setTop (mkF m 105 #[.val (.long q1), .second, .val (.long q2), .second, .val (.int p3), .val (.int p4), .val (.int (1 : Int32)), .val (.long hh), .second, .val (.long ww), .second, .val (.int mi), .val (.long ((37 : Int64) * (mi.toInt64))), .second, .unset, .unset, .unset, .unset, .unset] [(.double (FP.i2d mi))])) _
      refine XS.dstore X0.here hx rfl (hb hby at_105) rfl (l' := #[.val (.long q1), .second, .val (.long q2), .second, .val (.int p3), .val (.int p4), .val (.int (1 : Int32)), .val (.long hh), .second, .val (.long ww), .second, .val (.int mi), .val (.long ((37 : Int64) * (mi.toInt64))), .second, .val (.double (FP.i2d mi)), .second, .unset, .unset, .unset]) rfl ?_
      show Steps p.tables e below (s₁.setTop (mkF m 107 #[.val (.long q1), .second, .val (.long q2), .second, .val (.int p3), .val (.int p4), .val (.int (1 : Int32)), .val (.long hh), .second, .val (.long ww), .second, .val (.int mi), .val (.long ((37 : Int64) * (mi.toInt64))), .second, .val (.double (FP.i2d mi)), .second, .unset, .unset, .unset] [])) _
      refine XS.dload X0.here hx rfl (hb hby at_107) rfl ?_
      show Steps p.tables e below (s₁.setTop (mkF m 109 #[.val (.long q1), .second, .val (.long q2), .second, .val (.int p3), .val (.int p4), .val (.int (1 : Int32)), .val (.long hh), .second, .val (.long ww), .second, .val (.int mi), .val (.long ((37 : Int64) * (mi.toInt64))), .second, .val (.double (FP.i2d mi)), .second, .unset, .unset, .unset] [(.double (FP.i2d mi))])) _
      refine XS.lload X0.here hx rfl (hb hby at_109) rfl ?_
      show Steps p.tables e below (s₁.setTop (mkF m 111 #[.val (.long q1), .second, .val (.long q2), .second, .val (.int p3), .val (.int p4), .val (.int (1 : Int32)), .val (.long hh), .second, .val (.long ww), .second, .val (.int mi), .val (.long ((37 : Int64) * (mi.toInt64))), .second, .val (.double (FP.i2d mi)), .second, .unset, .unset, .unset] [(.long ww), (.double (FP.i2d mi))])) _
      refine XS.lload X0.here hx rfl (hb hby at_111) rfl ?_
      exact k9
    obtain ⟨_, _, ⟨T1, L1, k1, n1⟩, -, X1, ⟨Lc1, hQ1, l1, y1, z1⟩, st1⟩ := Jvm.LawKit.callS X0 hx (y := (⟨"com/example/wavebook/wavebook/Traffic", "fit", "(DJJ)Z"⟩ : MethodName)) hown (mvT hZ (hw _ (List.mem_of_getElem? (i := 4) rfl))) (mvT hZ (hw _ (List.mem_of_getElem? (i := 5) rfl))) (mvT hZ (hw _ (List.mem_of_getElem? (i := 6) rfl))) (mvT hZ (hw _ (List.mem_of_getElem? (i := 7) rfl))) (by decide) (backOf (W := 0) (rm1 l Z a0 hw [] (FP.i2d mi) ww hh h0 n0 Z0 ((own_p_mag mi).fin (by decide)).noNaN ((own_sum_mag mi ww hh).fin (by decide)).noNaN) hZ (hw _ (List.mem_of_getElem? (i := 7) rfl)) (hw _ (List.mem_of_getElem? (i := 6) rfl)) (by decide) (by decide)) (g := (mkF m 113 #[.val (.long q1), .second, .val (.long q2), .second, .val (.int p3), .val (.int p4), .val (.int (1 : Int32)), .val (.long hh), .second, .val (.long ww), .second, .val (.int mi), .val (.long ((37 : Int64) * (mi.toInt64))), .second, .val (.double (FP.i2d mi)), .second, .unset, .unset, .unset] [(.long hh), (.long ww), (.double (FP.i2d mi))])) rfl (by rw [hml]; rfl) (argsL := [(.double (FP.i2d mi)), (.long ww), (.long hh)]) (rest := []) (lenOf pd__28DJJ_29Z rfl) rfl (by show 2 * 0 + _ ≤ _; exact Nat.le_of_eq rfl) (hb hby at_113) (fun _ _ => ⟨rfl, e0, (by decide : 0 + 0 ≤ _), (by decide : 0 + 0 ≤ _)⟩)
    dsimp only [Pt.U, Pt.locs, Pt.cells, Pt.slots] at X1 l1 y1 z1 st1 hQ1
    subst l1 y1 z1
    obtain ⟨rfl, N1q, e1q⟩ := hQ1
    have N1 := Fr.app N0 N1q
    refine go (T1.setTop (mkF m 116 #[.val (.long q1), .second, .val (.long q2), .second, .val (.int p3), .val (.int p4), .val (.int (1 : Int32)), .val (.long hh), .second, .val (.long ww), .second, .val (.int mi), .val (.long ((37 : Int64) * (mi.toInt64))), .second, .val (.double (FP.i2d mi)), .second, .unset, .unset, .unset] [(.int (own_fit (FP.i2d mi) ww hh))])) _ (fun t9 k9 => st1 _ k9) ?_
    generalize hg : (own_fit (FP.i2d mi) ww hh) = g
    refine go (T1.setTop (mkF m 123 #[.val (.long q1), .second, .val (.long q2), .second, .val (.int p3), .val (.int p4), .val (.int (1 : Int32)), .val (.long hh), .second, .val (.long ww), .second, .val (.int mi), .val (.long ((37 : Int64) * (mi.toInt64))), .second, .val (.double (FP.i2d mi)), .second, .val (.int g), .unset, .unset] [])) _ (fun t9 k9 => ?_) ?_
    · show Steps p.tables e below (T1.setTop (mkF m 116 #[.val (.long q1), .second, .val (.long q2), .second, .val (.int p3), .val (.int p4), .val (.int (1 : Int32)), .val (.long hh), .second, .val (.long ww), .second, .val (.int mi), .val (.long ((37 : Int64) * (mi.toInt64))), .second, .val (.double (FP.i2d mi)), .second, .unset, .unset, .unset] [(.int g)])) _
      refine XS.istore X1.here hx rfl (hb hby at_116) rfl (l' := #[.val (.long q1), .second, .val (.long q2), .second, .val (.int p3), .val (.int p4), .val (.int (1 : Int32)), .val (.long hh), .second, .val (.long ww), .second, .val (.int mi), .val (.long ((37 : Int64) * (mi.toInt64))), .second, .val (.double (FP.i2d mi)), .second, .val (.int g), .unset, .unset]) rfl ?_
      show Steps p.tables e below (T1.setTop (mkF m 118 #[.val (.long q1), .second, .val (.long q2), .second, .val (.int p3), .val (.int p4), .val (.int (1 : Int32)), .val (.long hh), .second, .val (.long ww), .second, .val (.int mi), .val (.long ((37 : Int64) * (mi.toInt64))), .second, .val (.double (FP.i2d mi)), .second, .val (.int g), .unset, .unset] [])) _
      refine XS.iload X1.here hx rfl (hb hby at_118) rfl ?_
      show Steps p.tables e below (T1.setTop (mkF m 120 #[.val (.long q1), .second, .val (.long q2), .second, .val (.int p3), .val (.int p4), .val (.int (1 : Int32)), .val (.long hh), .second, .val (.long ww), .second, .val (.int mi), .val (.long ((37 : Int64) * (mi.toInt64))), .second, .val (.double (FP.i2d mi)), .second, .val (.int g), .unset, .unset] [(.int (1 : Int32))])) _
      refine XS.ifNo X1.here hx rfl (hb hby at_120) rfl ((if0 _ _).trans (feq (by decide : ¬ (1 : Int32) = (0 : Int32))).1) ?_
      exact k9
    refine go (T1.setTop (mkF m 161 #[.val (.long q1), .second, .val (.long q2), .second, .val (.int p3), .val (.int p4), .val (.int (1 : Int32)), .val (.long hh), .second, .val (.long ww), .second, .val (.int mi), .val (.long ((37 : Int64) * (mi.toInt64))), .second, .val (.double (FP.i2d mi)), .second, .val (.int g), .unset, .unset] [(.int (if (lcmpW hh (4611686018427387904 : Int64)) < (0 : Int32) then (if (lcmpW ww (4611686018427387904 : Int64)) < (0 : Int32) then (if (lcmpW (hh + ww) ((4611686018427387904 : Int64) - ((37 : Int64) * (mi.toInt64)))) < (0 : Int32) then (1 : Int32) else (0 : Int32)) else (0 : Int32)) else (0 : Int32)))])) _ (fun t9 k9 => ?_) ?_
    · show Steps p.tables e below (T1.setTop (mkF m 123 #[.val (.long q1), .second, .val (.long q2), .second, .val (.int p3), .val (.int p4), .val (.int (1 : Int32)), .val (.long hh), .second, .val (.long ww), .second, .val (.int mi), .val (.long ((37 : Int64) * (mi.toInt64))), .second, .val (.double (FP.i2d mi)), .second, .val (.int g), .unset, .unset] [])) _
      refine XS.lload X1.here hx rfl (hb hby at_123) rfl ?_
      show Steps p.tables e below (T1.setTop (mkF m 125 #[.val (.long q1), .second, .val (.long q2), .second, .val (.int p3), .val (.int p4), .val (.int (1 : Int32)), .val (.long hh), .second, .val (.long ww), .second, .val (.int mi), .val (.long ((37 : Int64) * (mi.toInt64))), .second, .val (.double (FP.i2d mi)), .second, .val (.int g), .unset, .unset] [(.long hh)])) _
      refine X1.ldc2Long hx hown (mvT hZ (hw _ (List.mem_of_getElem? (i := 10) rfl))) (g := (mkF m 125 #[.val (.long q1), .second, .val (.long q2), .second, .val (.int p3), .val (.int p4), .val (.int (1 : Int32)), .val (.long hh), .second, .val (.long ww), .second, .val (.int mi), .val (.long ((37 : Int64) * (mi.toInt64))), .second, .val (.double (FP.i2d mi)), .second, .val (.int g), .unset, .unset] [(.long hh)])) rfl (hb hby at_125) _ ?_
      show Steps p.tables e below (T1.setTop (mkF m 128 #[.val (.long q1), .second, .val (.long q2), .second, .val (.int p3), .val (.int p4), .val (.int (1 : Int32)), .val (.long hh), .second, .val (.long ww), .second, .val (.int mi), .val (.long ((37 : Int64) * (mi.toInt64))), .second, .val (.double (FP.i2d mi)), .second, .val (.int g), .unset, .unset] [(.long (4611686018427387904 : Int64)), (.long hh)])) _
      refine XS.lcmp X1.here hx rfl (hb hby at_128) rfl ?_
      by_cases h129_1 : (lcmpW hh (4611686018427387904 : Int64)) < (0 : Int32)
      · try (simp only [if_pos h129_1] at k9)
        show Steps p.tables e below (T1.setTop (mkF m 129 #[.val (.long q1), .second, .val (.long q2), .second, .val (.int p3), .val (.int p4), .val (.int (1 : Int32)), .val (.long hh), .second, .val (.long ww), .second, .val (.int mi), .val (.long ((37 : Int64) * (mi.toInt64))), .second, .val (.double (FP.i2d mi)), .second, .val (.int g), .unset, .unset] [(.int (lcmpW hh (4611686018427387904 : Int64)))])) _
        refine XS.ifNo X1.here hx rfl (hb hby at_129) rfl ((if0 _ _).trans (tlt h129_1).2.1) ?_
        show Steps p.tables e below (T1.setTop (mkF m 132 #[.val (.long q1), .second, .val (.long q2), .second, .val (.int p3), .val (.int p4), .val (.int (1 : Int32)), .val (.long hh), .second, .val (.long ww), .second, .val (.int mi), .val (.long ((37 : Int64) * (mi.toInt64))), .second, .val (.double (FP.i2d mi)), .second, .val (.int g), .unset, .unset] [])) _
        refine XS.lload X1.here hx rfl (hb hby at_132) rfl ?_
        show Steps p.tables e below (T1.setTop (mkF m 134 #[.val (.long q1), .second, .val (.long q2), .second, .val (.int p3), .val (.int p4), .val (.int (1 : Int32)), .val (.long hh), .second, .val (.long ww), .second, .val (.int mi), .val (.long ((37 : Int64) * (mi.toInt64))), .second, .val (.double (FP.i2d mi)), .second, .val (.int g), .unset, .unset] [(.long ww)])) _
        refine X1.ldc2Long hx hown (mvT hZ (hw _ (List.mem_of_getElem? (i := 10) rfl))) (g := (mkF m 134 #[.val (.long q1), .second, .val (.long q2), .second, .val (.int p3), .val (.int p4), .val (.int (1 : Int32)), .val (.long hh), .second, .val (.long ww), .second, .val (.int mi), .val (.long ((37 : Int64) * (mi.toInt64))), .second, .val (.double (FP.i2d mi)), .second, .val (.int g), .unset, .unset] [(.long ww)])) rfl (hb hby at_134) _ ?_
        show Steps p.tables e below (T1.setTop (mkF m 137 #[.val (.long q1), .second, .val (.long q2), .second, .val (.int p3), .val (.int p4), .val (.int (1 : Int32)), .val (.long hh), .second, .val (.long ww), .second, .val (.int mi), .val (.long ((37 : Int64) * (mi.toInt64))), .second, .val (.double (FP.i2d mi)), .second, .val (.int g), .unset, .unset] [(.long (4611686018427387904 : Int64)), (.long ww)])) _
        refine XS.lcmp X1.here hx rfl (hb hby at_137) rfl ?_
        by_cases h138_2 : (lcmpW ww (4611686018427387904 : Int64)) < (0 : Int32)
        · try (simp only [if_pos h138_2] at k9)
          show Steps p.tables e below (T1.setTop (mkF m 138 #[.val (.long q1), .second, .val (.long q2), .second, .val (.int p3), .val (.int p4), .val (.int (1 : Int32)), .val (.long hh), .second, .val (.long ww), .second, .val (.int mi), .val (.long ((37 : Int64) * (mi.toInt64))), .second, .val (.double (FP.i2d mi)), .second, .val (.int g), .unset, .unset] [(.int (lcmpW ww (4611686018427387904 : Int64)))])) _
          refine XS.ifNo X1.here hx rfl (hb hby at_138) rfl ((if0 _ _).trans (tlt h138_2).2.1) ?_
          show Steps p.tables e below (T1.setTop (mkF m 141 #[.val (.long q1), .second, .val (.long q2), .second, .val (.int p3), .val (.int p4), .val (.int (1 : Int32)), .val (.long hh), .second, .val (.long ww), .second, .val (.int mi), .val (.long ((37 : Int64) * (mi.toInt64))), .second, .val (.double (FP.i2d mi)), .second, .val (.int g), .unset, .unset] [])) _
          refine XS.lload X1.here hx rfl (hb hby at_141) rfl ?_
          show Steps p.tables e below (T1.setTop (mkF m 143 #[.val (.long q1), .second, .val (.long q2), .second, .val (.int p3), .val (.int p4), .val (.int (1 : Int32)), .val (.long hh), .second, .val (.long ww), .second, .val (.int mi), .val (.long ((37 : Int64) * (mi.toInt64))), .second, .val (.double (FP.i2d mi)), .second, .val (.int g), .unset, .unset] [(.long hh)])) _
          refine XS.lload X1.here hx rfl (hb hby at_143) rfl ?_
          show Steps p.tables e below (T1.setTop (mkF m 145 #[.val (.long q1), .second, .val (.long q2), .second, .val (.int p3), .val (.int p4), .val (.int (1 : Int32)), .val (.long hh), .second, .val (.long ww), .second, .val (.int mi), .val (.long ((37 : Int64) * (mi.toInt64))), .second, .val (.double (FP.i2d mi)), .second, .val (.int g), .unset, .unset] [(.long ww), (.long hh)])) _
          refine XS.ladd X1.here hx rfl (hb hby at_145) rfl ?_
          show Steps p.tables e below (T1.setTop (mkF m 146 #[.val (.long q1), .second, .val (.long q2), .second, .val (.int p3), .val (.int p4), .val (.int (1 : Int32)), .val (.long hh), .second, .val (.long ww), .second, .val (.int mi), .val (.long ((37 : Int64) * (mi.toInt64))), .second, .val (.double (FP.i2d mi)), .second, .val (.int g), .unset, .unset] [(.long (hh + ww))])) _
          refine X1.ldc2Long hx hown (mvT hZ (hw _ (List.mem_of_getElem? (i := 10) rfl))) (g := (mkF m 146 #[.val (.long q1), .second, .val (.long q2), .second, .val (.int p3), .val (.int p4), .val (.int (1 : Int32)), .val (.long hh), .second, .val (.long ww), .second, .val (.int mi), .val (.long ((37 : Int64) * (mi.toInt64))), .second, .val (.double (FP.i2d mi)), .second, .val (.int g), .unset, .unset] [(.long (hh + ww))])) rfl (hb hby at_146) _ ?_
          show Steps p.tables e below (T1.setTop (mkF m 149 #[.val (.long q1), .second, .val (.long q2), .second, .val (.int p3), .val (.int p4), .val (.int (1 : Int32)), .val (.long hh), .second, .val (.long ww), .second, .val (.int mi), .val (.long ((37 : Int64) * (mi.toInt64))), .second, .val (.double (FP.i2d mi)), .second, .val (.int g), .unset, .unset] [(.long (4611686018427387904 : Int64)), (.long (hh + ww))])) _
          refine XS.lload X1.here hx rfl (hb hby at_149) rfl ?_
          show Steps p.tables e below (T1.setTop (mkF m 151 #[.val (.long q1), .second, .val (.long q2), .second, .val (.int p3), .val (.int p4), .val (.int (1 : Int32)), .val (.long hh), .second, .val (.long ww), .second, .val (.int mi), .val (.long ((37 : Int64) * (mi.toInt64))), .second, .val (.double (FP.i2d mi)), .second, .val (.int g), .unset, .unset] [(.long ((37 : Int64) * (mi.toInt64))), (.long (4611686018427387904 : Int64)), (.long (hh + ww))])) _
          refine XS.lsub X1.here hx rfl (hb hby at_151) rfl ?_
          show Steps p.tables e below (T1.setTop (mkF m 152 #[.val (.long q1), .second, .val (.long q2), .second, .val (.int p3), .val (.int p4), .val (.int (1 : Int32)), .val (.long hh), .second, .val (.long ww), .second, .val (.int mi), .val (.long ((37 : Int64) * (mi.toInt64))), .second, .val (.double (FP.i2d mi)), .second, .val (.int g), .unset, .unset] [(.long ((4611686018427387904 : Int64) - ((37 : Int64) * (mi.toInt64)))), (.long (hh + ww))])) _
          refine XS.lcmp X1.here hx rfl (hb hby at_152) rfl ?_
          by_cases h153_3 : (lcmpW (hh + ww) ((4611686018427387904 : Int64) - ((37 : Int64) * (mi.toInt64)))) < (0 : Int32)
          · try (simp only [if_pos h153_3] at k9)
            show Steps p.tables e below (T1.setTop (mkF m 153 #[.val (.long q1), .second, .val (.long q2), .second, .val (.int p3), .val (.int p4), .val (.int (1 : Int32)), .val (.long hh), .second, .val (.long ww), .second, .val (.int mi), .val (.long ((37 : Int64) * (mi.toInt64))), .second, .val (.double (FP.i2d mi)), .second, .val (.int g), .unset, .unset] [(.int (lcmpW (hh + ww) ((4611686018427387904 : Int64) - ((37 : Int64) * (mi.toInt64)))))])) _
            refine XS.ifNo X1.here hx rfl (hb hby at_153) rfl ((if0 _ _).trans (tlt h153_3).2.1) ?_
            show Steps p.tables e below (T1.setTop (mkF m 156 #[.val (.long q1), .second, .val (.long q2), .second, .val (.int p3), .val (.int p4), .val (.int (1 : Int32)), .val (.long hh), .second, .val (.long ww), .second, .val (.int mi), .val (.long ((37 : Int64) * (mi.toInt64))), .second, .val (.double (FP.i2d mi)), .second, .val (.int g), .unset, .unset] [])) _
            refine XS.iconst X1.here hx rfl (hb hby at_156) ?_
            show Steps p.tables e below (T1.setTop (mkF m 157 #[.val (.long q1), .second, .val (.long q2), .second, .val (.int p3), .val (.int p4), .val (.int (1 : Int32)), .val (.long hh), .second, .val (.long ww), .second, .val (.int mi), .val (.long ((37 : Int64) * (mi.toInt64))), .second, .val (.double (FP.i2d mi)), .second, .val (.int g), .unset, .unset] [(.int (1 : Int32))])) _
            refine XS.goto X1.here hx rfl (pc0 := 157) (pc' := 161) rfl (hb hby at_157) (by decide) (by decide) ?_
            exact k9
          · try (simp only [if_neg h153_3] at k9)
            show Steps p.tables e below (T1.setTop (mkF m 153 #[.val (.long q1), .second, .val (.long q2), .second, .val (.int p3), .val (.int p4), .val (.int (1 : Int32)), .val (.long hh), .second, .val (.long ww), .second, .val (.int mi), .val (.long ((37 : Int64) * (mi.toInt64))), .second, .val (.double (FP.i2d mi)), .second, .val (.int g), .unset, .unset] [(.int (lcmpW (hh + ww) ((4611686018427387904 : Int64) - ((37 : Int64) * (mi.toInt64)))))])) _
            refine XS.ifYes X1.here hx rfl (pc0 := 153) (pc' := 160) rfl (hb hby at_153) rfl ((if0 _ _).trans (flt h153_3).2.1) (by decide) (by decide) ?_
            show Steps p.tables e below (T1.setTop (mkF m 160 #[.val (.long q1), .second, .val (.long q2), .second, .val (.int p3), .val (.int p4), .val (.int (1 : Int32)), .val (.long hh), .second, .val (.long ww), .second, .val (.int mi), .val (.long ((37 : Int64) * (mi.toInt64))), .second, .val (.double (FP.i2d mi)), .second, .val (.int g), .unset, .unset] [])) _
            refine XS.iconst X1.here hx rfl (hb hby at_160) ?_
            exact k9
        · try (simp only [if_neg h138_2] at k9)
          show Steps p.tables e below (T1.setTop (mkF m 138 #[.val (.long q1), .second, .val (.long q2), .second, .val (.int p3), .val (.int p4), .val (.int (1 : Int32)), .val (.long hh), .second, .val (.long ww), .second, .val (.int mi), .val (.long ((37 : Int64) * (mi.toInt64))), .second, .val (.double (FP.i2d mi)), .second, .val (.int g), .unset, .unset] [(.int (lcmpW ww (4611686018427387904 : Int64)))])) _
          refine XS.ifYes X1.here hx rfl (pc0 := 138) (pc' := 160) rfl (hb hby at_138) rfl ((if0 _ _).trans (flt h138_2).2.1) (by decide) (by decide) ?_
          show Steps p.tables e below (T1.setTop (mkF m 160 #[.val (.long q1), .second, .val (.long q2), .second, .val (.int p3), .val (.int p4), .val (.int (1 : Int32)), .val (.long hh), .second, .val (.long ww), .second, .val (.int mi), .val (.long ((37 : Int64) * (mi.toInt64))), .second, .val (.double (FP.i2d mi)), .second, .val (.int g), .unset, .unset] [])) _
          refine XS.iconst X1.here hx rfl (hb hby at_160) ?_
          exact k9
      · try (simp only [if_neg h129_1] at k9)
        show Steps p.tables e below (T1.setTop (mkF m 129 #[.val (.long q1), .second, .val (.long q2), .second, .val (.int p3), .val (.int p4), .val (.int (1 : Int32)), .val (.long hh), .second, .val (.long ww), .second, .val (.int mi), .val (.long ((37 : Int64) * (mi.toInt64))), .second, .val (.double (FP.i2d mi)), .second, .val (.int g), .unset, .unset] [(.int (lcmpW hh (4611686018427387904 : Int64)))])) _
        refine XS.ifYes X1.here hx rfl (pc0 := 129) (pc' := 160) rfl (hb hby at_129) rfl ((if0 _ _).trans (flt h129_1).2.1) (by decide) (by decide) ?_
        show Steps p.tables e below (T1.setTop (mkF m 160 #[.val (.long q1), .second, .val (.long q2), .second, .val (.int p3), .val (.int p4), .val (.int (1 : Int32)), .val (.long hh), .second, .val (.long ww), .second, .val (.int mi), .val (.long ((37 : Int64) * (mi.toInt64))), .second, .val (.double (FP.i2d mi)), .second, .val (.int g), .unset, .unset] [])) _
        refine XS.iconst X1.here hx rfl (hb hby at_160) ?_
        exact k9
    refine go (T1.setTop (mkF m 167 #[.val (.long q1), .second, .val (.long q2), .second, .val (.int p3), .val (.int p4), .val (.int (1 : Int32)), .val (.long hh), .second, .val (.long ww), .second, .val (.int mi), .val (.long ((37 : Int64) * (mi.toInt64))), .second, .val (.double (FP.i2d mi)), .second, .val (.int g), .val (.int (if (lcmpW hh (4611686018427387904 : Int64)) < (0 : Int32) then (if (lcmpW ww (4611686018427387904 : Int64)) < (0 : Int32) then (if (lcmpW (hh + ww) ((4611686018427387904 : Int64) - ((37 : Int64) * (mi.toInt64)))) < (0 : Int32) then (1 : Int32) else (0 : Int32)) else (0 : Int32)) else (0 : Int32))), .unset] [(.int (if (lcmpW hh (4611686018427387904 : Int64)) < (0 : Int32) then (if (lcmpW ww (4611686018427387904 : Int64)) < (0 : Int32) then (if (lcmpW (hh + ww) ((4611686018427387904 : Int64) - ((37 : Int64) * (mi.toInt64)))) < (0 : Int32) then (1 : Int32) else (0 : Int32)) else (0 : Int32)) else (0 : Int32))), (.int g)])) _ (fun t9 k9 => ?_) ?_
    · show Steps p.tables e below (T1.setTop (mkF m 161 #[.val (.long q1), .second, .val (.long q2), .second, .val (.int p3), .val (.int p4), .val (.int (1 : Int32)), .val (.long hh), .second, .val (.long ww), .second, .val (.int mi), .val (.long ((37 : Int64) * (mi.toInt64))), .second, .val (.double (FP.i2d mi)), .second, .val (.int g), .unset, .unset] [(.int (if (lcmpW hh (4611686018427387904 : Int64)) < (0 : Int32) then (if (lcmpW ww (4611686018427387904 : Int64)) < (0 : Int32) then (if (lcmpW (hh + ww) ((4611686018427387904 : Int64) - ((37 : Int64) * (mi.toInt64)))) < (0 : Int32) then (1 : Int32) else (0 : Int32)) else (0 : Int32)) else (0 : Int32)))])) _
      refine XS.istore X1.here hx rfl (hb hby at_161) rfl (l' := #[.val (.long q1), .second, .val (.long q2), .second, .val (.int p3), .val (.int p4), .val (.int (1 : Int32)), .val (.long hh), .second, .val (.long ww), .second, .val (.int mi), .val (.long ((37 : Int64) * (mi.toInt64))), .second, .val (.double (FP.i2d mi)), .second, .val (.int g), .val (.int (if (lcmpW hh (4611686018427387904 : Int64)) < (0 : Int32) then (if (lcmpW ww (4611686018427387904 : Int64)) < (0 : Int32) then (if (lcmpW (hh + ww) ((4611686018427387904 : Int64) - ((37 : Int64) * (mi.toInt64)))) < (0 : Int32) then (1 : Int32) else (0 : Int32)) else (0 : Int32)) else (0 : Int32))), .unset]) rfl ?_
      show Steps p.tables e below (T1.setTop (mkF m 163 #[.val (.long q1), .second, .val (.long q2), .second, .val (.int p3), .val (.int p4), .val (.int (1 : Int32)), .val (.long hh), .second, .val (.long ww), .second, .val (.int mi), .val (.long ((37 : Int64) * (mi.toInt64))), .second, .val (.double (FP.i2d mi)), .second, .val (.int g), .val (.int (if (lcmpW hh (4611686018427387904 : Int64)) < (0 : Int32) then (if (lcmpW ww (4611686018427387904 : Int64)) < (0 : Int32) then (if (lcmpW (hh + ww) ((4611686018427387904 : Int64) - ((37 : Int64) * (mi.toInt64)))) < (0 : Int32) then (1 : Int32) else (0 : Int32)) else (0 : Int32)) else (0 : Int32))), .unset] [])) _
      refine XS.iload X1.here hx rfl (hb hby at_163) rfl ?_
      show Steps p.tables e below (T1.setTop (mkF m 165 #[.val (.long q1), .second, .val (.long q2), .second, .val (.int p3), .val (.int p4), .val (.int (1 : Int32)), .val (.long hh), .second, .val (.long ww), .second, .val (.int mi), .val (.long ((37 : Int64) * (mi.toInt64))), .second, .val (.double (FP.i2d mi)), .second, .val (.int g), .val (.int (if (lcmpW hh (4611686018427387904 : Int64)) < (0 : Int32) then (if (lcmpW ww (4611686018427387904 : Int64)) < (0 : Int32) then (if (lcmpW (hh + ww) ((4611686018427387904 : Int64) - ((37 : Int64) * (mi.toInt64)))) < (0 : Int32) then (1 : Int32) else (0 : Int32)) else (0 : Int32)) else (0 : Int32))), .unset] [(.int g)])) _
      refine XS.iload X1.here hx rfl (hb hby at_165) rfl ?_
      exact k9
    have hge : g = (if (lcmpW hh (4611686018427387904 : Int64)) < (0 : Int32) then (if (lcmpW ww (4611686018427387904 : Int64)) < (0 : Int32) then (if (lcmpW (hh + ww) ((4611686018427387904 : Int64) - ((37 : Int64) * (mi.toInt64)))) < (0 : Int32) then (1 : Int32) else (0 : Int32)) else (0 : Int32)) else (0 : Int32)) := own_aligned hg hh0.1 wq.1 hh0.2 wq.2.2 mq.1 mq.2.1 mq.2.2
    refine go (T1.setTop (mkF m 175 #[.val (.long q1), .second, .val (.long q2), .second, .val (.int p3), .val (.int p4), .val (.int (1 : Int32)), .val (.long hh), .second, .val (.long ww), .second, .val (.int mi), .val (.long ((37 : Int64) * (mi.toInt64))), .second, .val (.double (FP.i2d mi)), .second, .val (.int g), .val (.int (if (lcmpW hh (4611686018427387904 : Int64)) < (0 : Int32) then (if (lcmpW ww (4611686018427387904 : Int64)) < (0 : Int32) then (if (lcmpW (hh + ww) ((4611686018427387904 : Int64) - ((37 : Int64) * (mi.toInt64)))) < (0 : Int32) then (1 : Int32) else (0 : Int32)) else (0 : Int32)) else (0 : Int32))), .unset] [(.int (1 : Int32))])) _ (fun t9 k9 => ?_) ?_
    · show Steps p.tables e below (T1.setTop (mkF m 167 #[.val (.long q1), .second, .val (.long q2), .second, .val (.int p3), .val (.int p4), .val (.int (1 : Int32)), .val (.long hh), .second, .val (.long ww), .second, .val (.int mi), .val (.long ((37 : Int64) * (mi.toInt64))), .second, .val (.double (FP.i2d mi)), .second, .val (.int g), .val (.int (if (lcmpW hh (4611686018427387904 : Int64)) < (0 : Int32) then (if (lcmpW ww (4611686018427387904 : Int64)) < (0 : Int32) then (if (lcmpW (hh + ww) ((4611686018427387904 : Int64) - ((37 : Int64) * (mi.toInt64)))) < (0 : Int32) then (1 : Int32) else (0 : Int32)) else (0 : Int32)) else (0 : Int32))), .unset] [(.int (if (lcmpW hh (4611686018427387904 : Int64)) < (0 : Int32) then (if (lcmpW ww (4611686018427387904 : Int64)) < (0 : Int32) then (if (lcmpW (hh + ww) ((4611686018427387904 : Int64) - ((37 : Int64) * (mi.toInt64)))) < (0 : Int32) then (1 : Int32) else (0 : Int32)) else (0 : Int32)) else (0 : Int32))), (.int g)])) _
      refine XS.icmpNo X1.here hx rfl (hb hby at_167) rfl (teq hge).2 ?_
      show Steps p.tables e below (T1.setTop (mkF m 170 #[.val (.long q1), .second, .val (.long q2), .second, .val (.int p3), .val (.int p4), .val (.int (1 : Int32)), .val (.long hh), .second, .val (.long ww), .second, .val (.int mi), .val (.long ((37 : Int64) * (mi.toInt64))), .second, .val (.double (FP.i2d mi)), .second, .val (.int g), .val (.int (if (lcmpW hh (4611686018427387904 : Int64)) < (0 : Int32) then (if (lcmpW ww (4611686018427387904 : Int64)) < (0 : Int32) then (if (lcmpW (hh + ww) ((4611686018427387904 : Int64) - ((37 : Int64) * (mi.toInt64)))) < (0 : Int32) then (1 : Int32) else (0 : Int32)) else (0 : Int32)) else (0 : Int32))), .unset] [])) _
      refine XS.iconst X1.here hx rfl (hb hby at_170) ?_
      show Steps p.tables e below (T1.setTop (mkF m 171 #[.val (.long q1), .second, .val (.long q2), .second, .val (.int p3), .val (.int p4), .val (.int (1 : Int32)), .val (.long hh), .second, .val (.long ww), .second, .val (.int mi), .val (.long ((37 : Int64) * (mi.toInt64))), .second, .val (.double (FP.i2d mi)), .second, .val (.int g), .val (.int (if (lcmpW hh (4611686018427387904 : Int64)) < (0 : Int32) then (if (lcmpW ww (4611686018427387904 : Int64)) < (0 : Int32) then (if (lcmpW (hh + ww) ((4611686018427387904 : Int64) - ((37 : Int64) * (mi.toInt64)))) < (0 : Int32) then (1 : Int32) else (0 : Int32)) else (0 : Int32)) else (0 : Int32))), .unset] [(.int (1 : Int32))])) _
      refine XS.goto X1.here hx rfl (pc0 := 171) (pc' := 175) rfl (hb hby at_171) (by decide) (by decide) ?_
      exact k9
    obtain ⟨fs, hr, hrun, hended, hW, hsame⟩ := X1.leave (v := some (.int (1 : Int32))) (fun h => by rw [Bd.returns] at h; cases h) hlk
    refine fin _ ⟨_, _, retN X1 hx (t := .boolean) Bd.returns (by simp) (hb hby at_175) hr, hrun, hended, _, _, rfl, ?_, ⟨_, rfl⟩, hW, hsame.mono (by decide) (by decide)⟩
    show Q0 Z q1 q2 p3 p4 h0 n0 _ T1.heap _
    exact ⟨rfl, N1⟩
set_option maxRecDepth 65536 in
set_option maxHeartbeats 40000000 in
theorem comes_1 {Post : Tables → Env → Array Value → State → Outcome → State → Prop} (hpost : ∀ tb e args s v u, (limb_1_1.after args s (.returned v) u = true ∧ limb_1_2.after args s (.returned v) u = true ∧ True) → FrameEnd s (.returned v) u (Jvm.fieldLocs frame_1_writes args s ++ Jvm.arrayLocs frame_1_arrays args s ++ Jvm.staticLocs frame_1_statics s) 0 0 → Post tb e args s (.returned v) u) :
    ArmFor flags0 classFile x code maxLocals ret World_1 tables_1 room_1 Calls_1 rest_1 Pre_1 Post := by
  intro l hfl _ _ p e ha hc hk s m args below hf hA hF happ hP
  obtain ⟨hcalls, hrest, hpre⟩ := hP
  obtain ⟨-, -, -, hnamed, -, -, -, hat⟩ := (Spec.applies_iff hf).mp happ
  obtain ⟨hg, hn⟩ := and_e (Cond.before_iff.mp (show (Jvm.Cond.and given_1 narrow_1).before args s = true from hpre))
  obtain ⟨hcnt, hq0⟩ := and_e hg
  obtain ⟨ha0, hq1⟩ := and_e hq0
  obtain ⟨ha1, hq2⟩ := and_e hq1
  obtain ⟨ha2, hq3⟩ := and_e hq2
  obtain ⟨w0, w1, w2, w3, rfl⟩ : ∃ w0 w1 w2 w3 : Value, args = #[w0, w1, w2, w3] := by
    have hs : args.size = 4 := by simpa [Cond.value, given_1] using hcnt
    obtain ⟨L⟩ := args
    match L, hs with
    | [w0, w1, w2, w3], _ => exact ⟨w0, w1, w2, w3, rfl⟩
  have hw := fun d (hd : d ∈ tables_1) => atoms_spec (ws := Jvm.Cond.code x code maxLocals ret :: tables_1) hat d (List.mem_cons_of_mem _ hd)
  obtain ⟨i0, ei0⟩ := isL_v ha0
  obtain rfl : w0 = (.long i0) := Option.some.inj ei0
  obtain ⟨i1, ei1⟩ := isL_v ha1
  obtain rfl : w1 = (.long i1) := Option.some.inj ei1
  obtain ⟨i2, ei2⟩ := is_v ha2
  obtain rfl : w2 = (.int i2) := Option.some.inj ei2
  obtain ⟨i3, ei3⟩ := is_v hq3
  obtain rfl : w3 = (.int i3) := Option.some.inj ei3
  obtain ⟨n, o, h1, h2, h3, _, L, rfl, ⟨rfl, N⟩, hq⟩ := rm0 l s _ hw tables_1 i0 i1 i2 i3 s.heap s.heap.size (Nat.le_refl _) p e ha hc hk s m _ below hf ((Spec.applies_iff_loose hf).mp happ).1 ⟨rfl, State.Warmed39.refl s, rfl⟩ trivial
  refine ⟨n, _, h1, h2, h3, hpost _ _ _ _ _ _ ⟨Cond.after_iff.mpr rfl, Cond.after_iff.mpr (eq_i res_at (Term.int_eval (1)) rfl), trivial⟩ ⟨hq.1, hq.2.1, (hq.2.2.sift fun y hy => Or.inr (N y hy)).mono (by decide) (by decide)⟩⟩
theorem main_1_1 : Claimed_1_1 := comes_1 fun _ _ _ _ _ _ h hF => ⟨h.1, hF⟩
theorem main_1_2 : Claimed_1_2 := comes_1 fun _ _ _ _ _ _ h hF => ⟨h.2.1, hF⟩
end Jvm.Pilot.@@N@@
namespace Jvm.Pilot.@@N@@
open Jvm Jvm.ClassFile Sem Op Lib Jvm.Free Jvm.Stand Jvm.Pilot.@@N@@.Jvm.D
/-! MADE BY PROGRAM (witnessworld.py) out of the Statement's table words and the real class files: 10 classes; the members and pool entries that the words name. The judged class is class 1, her method 1. -/
namespace start1
open Jvm.ClassFile
def u (s : String) : CpInfo := .utf8 (stringToUtf16 s)
/-- a pool by its gaps: so many unusable entries, then the entry; so many at the end -/
def gap : Nat → List CpInfo → List CpInfo
  | 0, r => r
  | n + 1, r => .unusable :: gap n r
def poolList (es : List (Nat × CpInfo)) (last : Nat) : List CpInfo := es.foldr (fun e r => gap e.1 (e.2 :: r)) (gap last [])
def pool (es : List (Nat × CpInfo)) (last : Nat) : Array CpInfo := ⟨poolList es last⟩
def fileOf (pool : Array CpInfo) (this : Nat) (attrs : Array Attribute := #[]) (ms : Array MethodInfo := #[]) (fl : Nat := 33) (sup : Nat := 0) (ifs : Array Nat := #[]) (fds : Array FieldInfo := #[]) : ClassFile where
  minorVersion := 0
  majorVersion := 65
  constantPool := pool
  accessFlags := fl
  thisClass := this
  superClass := sup
  interfaces := ifs
  fields := fds
  methods := ms
  attributes := attrs
def plain (name : String) (sup : Option ClassId) : Class where
  name := name
  kind := .ordinary
  loader := none
  accessFlags := 33
  super := sup
  interfaces := #[]
  cf := none
  fields := #[]
  methods := #[]
  instanceTypes := #[]
  staticTypes := #[]
  resolved := #[]
  callSites := []
  init := .initialized
  statics := none
  mirror := none

def pool0 : Array CpInfo := pool [(5, u "<init>"), (0, u "()V"), (1, .class_ 10), (1, u "java/lang/Object")] 113

def k0m0 : Method := { name := "<init>", desc := "()V", sig := { parameters := [], returnType := none }, accessFlags := 1, code := none }
/-- java/lang/Object -/
def k0 : Class := { plain "java/lang/Object" none with
  accessFlags := 33
  interfaces := #[]
  cf := some (fileOf pool0 8 #[] #[{ accessFlags := 1, nameIndex := 5, descriptorIndex := 6, attributes := #[] }] 33 0 #[] #[])
  fields := #[]
  methods := #[k0m0]
  instanceTypes := #[]
  staticTypes := #[]
  resolved := Array.replicate 124 none
  statics := none }

def pool1 : Array CpInfo := pool [(2, .class_ 4), (1, u "java/lang/Object"), (0, u "<init>"), (0, u "()V"), (0, .long 9223372036854774784), (1, .long 1024), (1, .integer 1048575), (2, .long 9223372036854775807), (1, .integer 1073741823), (0, .long 37), (1, .methodref 20 21), (0, .class_ 22), (0, .nameAndType 23 24), (0, u "com/example/wavebook/wavebook/Traffic"), (0, u "fit"), (0, u "(DJJ)Z"), (0, .long 4611686018427387904), (1, .long 4611686018427385856), (1, .long 4611686018427389952), (1, .class_ 32), (0, u "com/example/wavebook/wavebook/TrafficFitPinLaw"), (2, u "law"), (0, u "(JJII)Z")] 3

def k1m0 : Method := { name := "<init>", desc := "()V", sig := { parameters := [], returnType := none }, accessFlags := 2, code := none }
def k1c1 : Code := { maxStack := 6, maxLocals := 19, code := code, exceptionTable := #[], attributes := #[] }
def k1m1 : Method := { name := "law", desc := "(JJII)Z", sig := { parameters := [.long, .long, .int, .int], returnType := some .boolean }, accessFlags := 9, code := some k1c1 }
/-- com/example/wavebook/wavebook/TrafficFitPinLaw -/
def k1 : Class := { plain "com/example/wavebook/wavebook/TrafficFitPinLaw" (some 0) with
  accessFlags := 49
  interfaces := #[]
  cf := some (fileOf pool1 31 #[] #[{ accessFlags := 2, nameIndex := 5, descriptorIndex := 6, attributes := #[] }, { accessFlags := 9, nameIndex := 35, descriptorIndex := 36, attributes := #[] }] 49 2 #[] #[])
  fields := #[]
  methods := #[k1m0, k1m1]
  instanceTypes := #[]
  staticTypes := #[]
  resolved := Array.replicate 40 none
  statics := none }

def pool2 : Array CpInfo := pool [(2, .class_ 4), (1, u "java/lang/Object"), (0, u "<init>"), (0, u "()V"), (0, .class_ 8), (0, u "java/lang/Record")] 13

def k2m0 : Method := { name := "<init>", desc := "()V", sig := { parameters := [], returnType := none }, accessFlags := 4, code := none }
/-- java/lang/Record -/
def k2 : Class := { plain "java/lang/Record" (some 0) with
  accessFlags := 1057
  interfaces := #[]
  cf := some (fileOf pool2 7 #[] #[{ accessFlags := 4, nameIndex := 5, descriptorIndex := 6, attributes := #[] }] 1057 2 #[] #[])
  fields := #[]
  methods := #[k2m0]
  instanceTypes := #[]
  staticTypes := #[]
  resolved := Array.replicate 22 none
  statics := none }

def pool3 : Array CpInfo := pool [(2, .class_ 4), (1, u "java/lang/Record"), (3, .class_ 10), (1, u "com/example/wavebook/wavebook/Traffic"), (15, u "fit"), (0, u "(DJJ)Z"), (4, u "load"), (0, u "D"), (2, u "holdingMean"), (2, u "window"), (0, u "J"), (2, u "horizon"), (5, .double 4630404104378646528), (1, .double 4886405595696988160), (13, u "LONGEST_HOLDING"), (0, u "I")] 35

def k3c0 : Code := { maxStack := 6, maxLocals := 6, code := prog_60_method_3_code, exceptionTable := #[], attributes := #[] }
def k3m0 : Method := { name := "fit", desc := "(DJJ)Z", sig := { parameters := [.double, .long, .long], returnType := some .boolean }, accessFlags := 8, code := some k3c0 }
/-- com/example/wavebook/wavebook/Traffic -/
def k3 : Class := { plain "com/example/wavebook/wavebook/Traffic" (some 2) with
  accessFlags := 49
  interfaces := #[]
  cf := some (fileOf pool3 8 #[] #[{ accessFlags := 8, nameIndex := 26, descriptorIndex := 27, attributes := #[] }] 49 2 #[] #[{ accessFlags := 18, nameIndex := 32, descriptorIndex := 33, attributes := #[] }, { accessFlags := 18, nameIndex := 36, descriptorIndex := 33, attributes := #[] }, { accessFlags := 18, nameIndex := 39, descriptorIndex := 40, attributes := #[] }, { accessFlags := 18, nameIndex := 43, descriptorIndex := 40, attributes := #[] }, { accessFlags := 24, nameIndex := 65, descriptorIndex := 66, attributes := #[] }])
  fields := #[{ name := "load", type := .double, accessFlags := 18, slot := 0, constantValue := 0 }, { name := "holdingMean", type := .double, accessFlags := 18, slot := 1, constantValue := 0 }, { name := "window", type := .long, accessFlags := 18, slot := 2, constantValue := 0 }, { name := "horizon", type := .long, accessFlags := 18, slot := 3, constantValue := 0 }, { name := "LONGEST_HOLDING", type := .int, accessFlags := 24, slot := 0, constantValue := 0 }]
  methods := #[k3m0]
  instanceTypes := #[.double, .double, .long, .long]
  staticTypes := #[.int]
  resolved := Array.replicate 102 none
  statics := none }

def pool4 : Array CpInfo := pool [(1, u "java/lang/Cloneable"), (0, .class_ 1), (0, u "java/lang/Object"), (0, .class_ 3)] 3

/-- java/lang/Cloneable -/
def k4 : Class := { plain "java/lang/Cloneable" (some 0) with
  accessFlags := 1537
  interfaces := #[]
  cf := some (fileOf pool4 2 #[] #[] 1537 4 #[] #[])
  fields := #[]
  methods := #[]
  instanceTypes := #[]
  staticTypes := #[]
  resolved := Array.replicate 8 none
  statics := none }

def pool5 : Array CpInfo := pool [(1, u "java/io/Serializable"), (0, .class_ 1), (0, u "java/lang/Object"), (0, .class_ 3)] 3

/-- java/io/Serializable -/
def k5 : Class := { plain "java/io/Serializable" (some 0) with
  accessFlags := 1537
  interfaces := #[]
  cf := some (fileOf pool5 2 #[] #[] 1537 4 #[] #[])
  fields := #[]
  methods := #[]
  instanceTypes := #[]
  staticTypes := #[]
  resolved := Array.replicate 8 none
  statics := none }

/-- the primitive byte -/
def k6 : Class := { plain "byte" none with kind := .primitive 'B', accessFlags := 0x411 }
/-- [B -/
def k7 : Class := { plain "[B" (some 0) with kind := .array 6 .byte, interfaces := #[4, 5], accessFlags := 1041 }

/-- the primitive int -/
def k8 : Class := { plain "int" none with kind := .primitive 'I', accessFlags := 0x411 }
/-- [I -/
def k9 : Class := { plain "[I" (some 0) with kind := .array 8 .int, interfaces := #[4, 5], accessFlags := 1041 }

def heap : Heap := #[]
def classes : Array Class := #[k0, k1, k2, k3, k4, k5, k6, k7, k8, k9]
def interned : List (Array UInt16 × Addr) := []
def slotsUsed : Nat := 0
def theMethod : MethodId := ⟨1, 1⟩
def args0 : Array Value := #[.long 5, .long 6, .int 7, .int 8]
def aboutOver (below : List Frame) : State where
  vm := { classes := classes, interned := interned.toArray }
  heap := heap
  slotsUsed := slotsUsed
  threads := #[{ frames := .invoking theMethod args0 :: below }]
def below0 : List Frame := [.native { method := ⟨0, 0⟩, args := #[] }]
def about1 : State := aboutOver below0
def p0 : Program := .bare "" "" ""
def e0 : Env := launch0.env 0 0 0
theorem w_frames : about1.frames = Frame.invoking theMethod args0 :: below0 := rfl
set_option maxRecDepth 65536 in
theorem w_args : argsFit about1.vm theMethod args0 = true := by decide +kernel
set_option maxRecDepth 65536 in
theorem w_heap : heapFits about1 = true := by decide +kernel
set_option maxRecDepth 65536 in
theorem w_runnable : about1.curStatus? = some .runnable := by decide +kernel
set_option maxRecDepth 65536 in
theorem w_alone : about1.alone = true := by decide +kernel
set_option maxRecDepth 65536 in
theorem w_named : about1.methodNamed? x = some theMethod := by decide +kernel
set_option maxRecDepth 65536 in
theorem w_hears : about1.hears theMethod below0 = true := by decide +kernel
set_option maxRecDepth 65536 in
theorem w_ripe : about1.ripe theMethod args0 below0 = true := by decide +kernel
theorem w_running : about1.status = .running := rfl
set_option maxRecDepth 65536 in
theorem w_room : about1.hasRoom e0.platform room_1 = true :=
  launch0.hasRoom_least _ room_1 (by decide +kernel) (by decide +kernel) (by decide +kernel) (by decide +kernel) (by decide +kernel) (by decide +kernel)
theorem allAtoms_all (ts : List Jvm.Cond) (a : Array Jvm.Value) (st : Jvm.State) : (allAtoms ts).before a st = ts.all (fun c => c.before a st) := by
  induction ts with
  | nil => rfl
  | cons c t ih =>
    show (Jvm.Cond.and c (allAtoms t)).before a st = _
    rw [Jvm.Cond.before_and, ih, List.all_cons]
def words1 : List Jvm.Cond := Jvm.Cond.code x code maxLocals ret :: tables_1
/-- a 'code' word, met by the world's own term for the bytes: nothing is compared byte by byte -/
theorem code_word {y : MethodName} {bytes : ByteArray} {mx : Nat} {rt : Option FieldType} {a : Array Value} {s : State} {m : MethodId} {meth : Method} {c : Code} (h1 : s.methodNamed? y = some m) (h2 : s.vm.method? m = some meth) (h3 : meth.code = some c) (h4 : c.code = bytes)
    (h5 : (c.maxLocals == mx && c.exceptionTable.isEmpty && decide (c.maxStack ≤ mostOperands) && decide (meth.sig.returnType = rt) && !meth.locks && decide (parseMethodDescriptor y.desc = some meth.sig)) = true) : (Jvm.Cond.code y bytes mx rt).before a s = true := by
  simp only [Bool.and_eq_true, beq_iff_eq, Bool.not_eq_true', decide_eq_true_eq] at h5
  obtain ⟨⟨⟨⟨⟨g1, g2⟩, g3⟩, g4⟩, g5⟩, g6⟩ := h5
  simp [Cond.before, Cond.holds, Cond.value, h1, h2, h3, h4, g1, g2, g3, g4, g5, g6]
def isCode : Jvm.Cond → Bool
  | .code _ _ _ _ => true
  | _ => false
theorem all_split {L : List Jvm.Cond} {P : Jvm.Cond → Bool} (h1 : L.all (fun c => isCode c || P c) = true) (h2 : ∀ c ∈ L.filter isCode, P c = true) : L.all P = true := by
  refine List.all_eq_true.mpr fun c hc => ?_
  have h := List.all_eq_true.mp h1 c hc
  rcases Bool.eq_false_or_eq_true (isCode c) with hi | hi
  · exact h2 c (List.mem_filter.mpr ⟨hc, hi⟩)
  · simpa [hi] using h
set_option maxRecDepth 65536 in
theorem w_c0 : (Jvm.Cond.code x code maxLocals ret).before args0 about1 = true := code_word (m := ⟨1, 1⟩) (meth := k1m1) (c := k1c1) (by decide +kernel) rfl rfl rfl (by decide +kernel)
set_option maxRecDepth 65536 in
theorem w_c1 : (Jvm.Cond.code ({ cls := "com/example/wavebook/wavebook/Traffic", name := "fit", desc := "(DJJ)Z" } : Jvm.MethodName) prog_60_method_3_code (6 : Nat) (Option.some Jvm.ClassFile.FieldType.boolean)).before args0 about1 = true := code_word (m := ⟨3, 0⟩) (meth := k3m0) (c := k3c0) (by decide +kernel) rfl rfl rfl (by decide +kernel)
def codes1 : List Jvm.Cond := [Jvm.Cond.code x code maxLocals ret, Jvm.Cond.code ({ cls := "com/example/wavebook/wavebook/Traffic", name := "fit", desc := "(DJJ)Z" } : Jvm.MethodName) prog_60_method_3_code (6 : Nat) (Option.some Jvm.ClassFile.FieldType.boolean)]
set_option maxRecDepth 65536 in
theorem codes_eq : words1.filter isCode = codes1 := rfl
theorem w_codes : ∀ c ∈ words1.filter isCode, c.before args0 about1 = true := by
  rw [codes_eq]
  intro c hc
  simp only [codes1, List.mem_cons, List.not_mem_nil, or_false] at hc
  rcases hc with rfl | rfl
  · exact w_c0
  · exact w_c1
set_option maxRecDepth 65536 in
theorem w_t1 : words1.all (fun c => isCode c || c.before args0 about1) = true := by decide +kernel
theorem w_tables : (allAtoms (Jvm.Cond.code x code maxLocals ret :: tables_1)).before args0 about1 = true := by
  rw [allAtoms_all]
  show words1.all (fun c => c.before args0 about1) = true
  refine all_split ?_ w_codes
  rw [w_t1]
set_option maxRecDepth 65536 in
theorem w_case : (Jvm.Cond.and given_1 narrow_1).before args0 about1 = true := by decide +kernel
theorem w_applies : (headSpec (Jvm.Cond.code x code maxLocals ret :: tables_1) room_1).applies x e0.platform about1 = true :=
  (Spec.applies_iff w_frames).mpr ⟨w_running, w_runnable, w_alone, w_named, w_hears, w_ripe, w_room, w_tables⟩
theorem atStart : AtStart classFile x code maxLocals ret World_1 tables_1 room_1 Calls_1 rest_1 Pre_1 launch0 p0 e0 about1 theMethod args0 below0 :=
  ⟨lists_1, trivial, launch0.admits_env _ _ _, launch0.least_env, fairChoices_fair.cas, fairChoices_fair.clock, w_frames, w_args, w_heap, w_applies, trivial, trivial, w_case⟩
end start1
theorem witness_1 : WitnessClaimed_1 := ⟨start1.p0, start1.e0, start1.about1, start1.theMethod, start1.args0, start1.below0, start1.atStart⟩
end Jvm.Pilot.@@N@@
