import JvmDerived
import JvmDerived.Pilot.@@N@@Statement
import JvmDerived.Pilot.@@N@@Code
set_option linter.unusedVariables false
set_option linter.unusedSimpArgs false
namespace Jvm.Pilot.@@N@@
open Jvm Jvm.ClassFile Sem Op Lib Jvm.Free Jvm.Stand Jvm.LawKit Jvm.RoadKit Bundle Jvm.Free.Fl Jvm.Pilot.@@N@@.Jvm.D
theorem own_go {tb : Tables} {e : Env} {below : List Frame} {A B : State} {F : State → Outcome → Prop} (h : ∀ t, Steps tb e below A t → Steps tb e below B t) (k : ∃ s₂ o, Steps tb e below A s₂ ∧ F s₂ o) : ∃ s₂ o, Steps tb e below B s₂ ∧ F s₂ o := by
  obtain ⟨s₂, o, h1, h2⟩ := k
  exact ⟨s₂, o, h _ h1, h2⟩
theorem own_open {tb : Tables} {e : Env} {below : List Frame} {B : State} {F : State → Outcome → Prop} (h : ∀ G : State → Prop, (∀ A B, (∀ t, Steps tb e below A t → Steps tb e below B t) → G A → G B) → (∀ A, (∃ s₂ o, Steps tb e below A s₂ ∧ F s₂ o) → G A) → G B) : ∃ s₂ o, Steps tb e below B s₂ ∧ F s₂ o :=
  h (fun A => ∃ s₂ o, Steps tb e below A s₂ ∧ F s₂ o) (fun _ _ => own_go) (fun _ k => k)
/-! ### an array by its length and the value at each place -/
def own_A (Z : State) (h : Heap) (a : Addr) (ty : FieldType) (n : Nat) (f : Nat → Value) : Prop := ∃ cl : Cell, Arr Z h a cl ty ∧ cl.slots.size = n ∧ ∀ j, j < n → cl.slots[j]? = some (f j)
theorem own_A_lt {Z : State} {h : Heap} {a : Addr} {ty : FieldType} {n : Nat} {f : Nat → Value} (F : own_A Z h a ty n f) : a < h.size := by obtain ⟨_, A, -⟩ := F; exact A.lt
theorem own_A_ext {Z : State} {h h' : Heap} {a : Addr} {ty : FieldType} {n : Nat} {f : Nat → Value} (F : own_A Z h a ty n f) (E : Ext h h') : own_A Z h' a ty n f := by obtain ⟨c, A, r⟩ := F; exact ⟨c, A.ext E, r⟩
theorem own_A_other {Z : State} {h h' : Heap} {a b : Addr} {sl : Nat} {v : Value} {ty : FieldType} {n : Nat} {f : Nat → Value} (F : own_A Z h b ty n f) (W : Wr h h' a sl v) (q : b ≠ a) : own_A Z h' b ty n f := by obtain ⟨c, A, r⟩ := F; exact ⟨c, A.other W q, r⟩
theorem own_A_keep {Z : State} {h h' : Heap} {a : Addr} {ws : List Addr} {ty : FieldType} {n : Nat} {f : Nat → Value} (F : own_A Z h a ty n f) (K : Keep h h' ws) (q : a ∉ ws) : own_A Z h' a ty n f := by obtain ⟨c, A, r⟩ := F; exact ⟨c, ⟨K.2.1 a c A.1 q, A.2⟩, r⟩
theorem own_A_new {Z : State} {h : Heap} {a : Addr} {k : ClassId} {ty : FieldType} {z : Int32} {n : Nat} (A : Arr Z h a (newA k ty z) ty) (hz : z.toNatClampNeg = n) : own_A Z h a ty n (fun _ => defaultValue ty) :=
  ⟨_, A, (sz_new _ _ _).trans hz, fun j hj => by
    subst hz
    simp [newA, hj]⟩
theorem own_A_congr {Z : State} {h : Heap} {a : Addr} {ty : FieldType} {n : Nat} {f g : Nat → Value} (F : own_A Z h a ty n f) (q : ∀ j, j < n → f j = g j) : own_A Z h a ty n g := by
  obtain ⟨c, A, S, H⟩ := F
  exact ⟨c, A, S, fun j hj => by rw [← q j hj]; exact H j hj⟩
theorem own_A_set {Z : State} {h h' : Heap} {a : Addr} {cl : Cell} {ty : FieldType} {n : Nat} {f : Nat → Value} {i : Nat} {v : Value} (A : Arr Z h a cl ty) (S : cl.slots.size = n) (H : ∀ j, j < n → cl.slots[j]? = some (f j)) (W : Wr h h' a i v) (hi : i < n) : own_A Z h' a ty n (fun j => if j = i then v else f j) := by
  refine ⟨_, A.same W, (sz_set _ _ _).trans S, fun j hj => ?_⟩
  show (cl.slots.setIfInBounds i v)[j]? = some (if j = i then v else f j)
  by_cases q : j = i
  · subst q
    rw [if_pos rfl, Array.getElem?_setIfInBounds_self_of_lt (by omega)]
  · rw [if_neg q, Array.getElem?_setIfInBounds_ne (Ne.symm q)]
    exact H j hj
theorem own_hin {cl : Cell} {n : Nat} {j : Int32} (S : cl.slots.size = n) (h0 : ¬ j < 0) (h1 : j.toNatClampNeg < n) : ¬ (j < 0 ∨ cl.slots.size ≤ j.toNatClampNeg) := fun q => q.elim h0 (fun r => by omega)
theorem own_cps {G A : Prop} (h1 : A → G) (h2 : A) : G := h1 h2
theorem own_setf {α : Type} (c : α → Value) (g : Nat → α) (z : α) (i n : Nat) : ∀ j, j < n → (if j = i then c (g i) else c (if j < i then g j else z)) = c (if j < i + 1 then g j else z) := by
  intro j _
  by_cases h : j = i
  · subst h
    rw [if_pos rfl, if_pos (by omega)]
  · rw [if_neg h]
    by_cases h2 : j < i
    · rw [if_pos h2, if_pos (by omega)]
    · rw [if_neg h2, if_neg (by omega)]
theorem own_full {α : Type} (c : α → Value) (g : Nat → α) (z : α) (n : Nat) : ∀ j, j < n → c (if j < n then g j else z) = c (g j) := fun j hj => by rw [if_pos hj]
theorem own_zero {α : Type} (c : α → Value) (g : Nat → α) (z : α) (n : Nat) : ∀ j, j < n → c z = c (if j < 0 then g j else z) := fun j _ => by rw [if_neg (Nat.not_lt_zero j)]
theorem own_sta {Z : State} {h h' : Heap} {C n d : String} {w : Value} {ws : List Addr} (F : Sta Z h C n d w) (K : Keep h h' ws) (hs : ∀ x ∈ ws, ∀ cell : Cell, h[x]? = some cell → cell.vm.isStatics = false) : Sta Z h' C n d w := by
  obtain ⟨cf, i, k, f, st, cell, h1, h2, h3, h4, h5, h6, r⟩ := F
  exact ⟨cf, i, k, f, st, cell, h1, h2, h3, h4, K.2.1 _ _ h5 (fun q => by rw [hs _ q _ h5] at h6; cases h6), h6, r⟩
theorem own_abs {l : Launch} {R : Room} {p : Program} {e : Env} {below : List Frame} {s : State} {sargs : Array Value} {W : Nat} {bytes : ByteArray} {maxL : Nat} {x : UInt64} (hcode : (Jvm.Cond.code (⟨"java/lang/Math", "abs", "(D)D"⟩ : MethodName) bytes maxL (some .double)).before sargs s = true) (hstat : (Jvm.Cond.static (⟨"java/lang/Math", "abs", "(D)D"⟩ : MethodName)).before sargs s = true) (hfr : 1 ≤ R.frames) (hlo : W + (maxL + 11) ≤ R.locals) (nx : NoNaN64 x) :
    Back l R p e below s sargs (⟨"java/lang/Math", "abs", "(D)D"⟩ : MethodName) 3 W (fun A a => A.cells ≤ R.cells ∧ A.slots ≤ R.slots ∧ a = #[.double x]) (fun A _ v B => v = some (.double (x &&& 0x7fffffffffffffff)) ∧ B = A) :=
  (NT.Abs64.pays hcode hstat hfr hlo).mono (fun A a h => ⟨x, h.2.2, nx⟩) (fun A a v B h1 h2 => ⟨h2.2 x ⟨h1.2.2, nx⟩, h2.1⟩)
theorem own_n32 {k : Nat} (h : k ≤ 100000) : (Int32.ofNat k).toNatClampNeg = k := XT.n32 (by omega)
theorem own_nn {k : Nat} (h : k ≤ 100000) : ¬ Int32.ofNat k < 0 := XT.nlt32 (a := k) (b := 0) (by omega) (by omega)
theorem own_cmpdef (a b : Int) : compare a b = if a < b then .lt else if a = b then .eq else .gt := rfl
/-- the greatest absolute value is no less than a finite one's -/
theorem own_maxle {x : UInt64} (h : Fin64 x) : ¬ (0 : Int32) < cmpValue (FP.dcmp (x &&& 0x7fffffffffffffff) 9218868437227405311) .g := by
  have n1 : NoNaN64 (x &&& 0x7fffffffffffffff) := (abs_fin h).noNaN
  have n2 : NoNaN64 9218868437227405311 := by unfold NoNaN64; decide
  have q := (fin64_iff x).mp h
  have ha : (x &&& 0x7fffffffffffffff).toNat = x.toNat % 9223372036854775808 := abs_toNat x
  have hk := FP.Core.dcmp_key (val64_no.mp n1) (val64_no.mp n2)
  have k1 : FP.Core.dkey (x &&& 0x7fffffffffffffff) = ((x.toNat % 9223372036854775808 : Nat) : Int) := by
    unfold FP.Core.dkey
    rw [ha, if_neg (by omega)]
  have k2 : FP.Core.dkey 9218868437227405311 = 9218868437227405311 := by decide
  have hc : FP.dcmp (x &&& 0x7fffffffffffffff) 9218868437227405311 = some (compare ((x.toNat % 9223372036854775808 : Nat) : Int) 9218868437227405311) := by
    rw [← k1, ← k2]; exact hk
  rw [hc, own_cmpdef]
  split
  · decide
  · rw [if_pos (by omega)]; decide
theorem own_self0 {x : UInt64} (h : NoNaN64 x) : cmpValue (FP.dcmp x x) .l = (0 : Int32) := dcmpV_self h .l
theorem own_bits {x y : UInt64} : lcmpW x.toInt64 y.toInt64 = (0 : Int32) ↔ x = y := by
  rw [lw_eq]
  constructor
  · intro h
    have := congrArg Int64.toUInt64 h
    simpa using this
  · rintro rfl; rfl
def own_hash (p1 p2 p3 : Int32) (q : Int64) : Int32 :=
  let a : Int64 := p1.toInt64 * (-7046029254386353131 : Int64)
  let b : Int64 := (a ^^^ p2.toInt64) * (-4658895280553007687 : Int64)
  let c : Int64 := (b ^^^ p3.toInt64) * (-7723592293110705685 : Int64)
  let d : Int64 := (c ^^^ q) * (-7046029254386353131 : Int64)
  (d ^^^ ((d.toUInt64 >>> ((32 : Int32) &&& 0x3f).toInt64.toUInt64).toInt64)).toInt32
theorem own_mask11 (x : Int32) : ∃ i : Nat, i < 2048 ∧ x &&& (2047 : Int32) = Int32.ofNat i := by
  have h := c_and x 2047 (by decide)
  have h4 : (2047 : Int32).toInt = 2047 := rfl
  refine ⟨(x &&& (2047 : Int32)).toInt.toNat, by omega, ?_⟩
  rw [← Int32.toInt_inj, Int32.toInt_ofNat_of_lt (by omega)]
  omega
theorem own_next {i : Nat} (h : i < 2048) : (Int32.ofNat i + (1 : Int32)) &&& (2047 : Int32) = Int32.ofNat ((i + 1) % 2048) := by
  rw [XT.succ32]
  have q := c_mask (Int32.ofNat (i + 1)) 2047 11 (by decide) (by decide)
  rw [Int32.toInt_ofNat_of_lt (by omega)] at q
  rw [← Int32.toInt_inj, Int32.toInt_ofNat_of_lt (by omega), q, show ((2 ^ 11 : Nat) : Int) = 2048 by decide]
  omega
def own_upd {α : Type} (f : Nat → α) (i : Nat) (x : α) (j : Nat) : α := if j = i then x else f j
theorem own_upd_same {α : Type} (f : Nat → α) (i : Nat) (x : α) : own_upd f i x i = x := if_pos rfl
theorem own_upd_ne {α : Type} (f : Nat → α) {i j : Nat} (x : α) (h : j ≠ i) : own_upd f i x j = f j := if_neg h
theorem own_upd_val {α : Type} (c : α → Value) (f : Nat → α) (i : Nat) (x : α) (n : Nat) : ∀ j, j < n → (if j = i then c x else c (f j)) = c (own_upd f i x j) := by
  intro j _
  unfold own_upd
  split <;> rfl
/-- the table of slots, and the doubles of the nodes -/
def own_Ok (cnt : Nat) (sl : Nat → Int32) (dv : Nat → UInt64) : Prop := (∀ j, j < 2048 → sl j = (-1 : Int32) ∨ ∃ k, k < cnt ∧ sl j = Int32.ofNat k) ∧ (∃ occ : List Nat, occ.length ≤ cnt ∧ ∀ j, j < 2048 → sl j ≠ (-1 : Int32) → j ∈ occ) ∧ ∀ k, k < cnt → NoNaN64 (dv k)
theorem own_Ok0 (dv : Nat → UInt64) : own_Ok 0 (fun _ => (-1 : Int32)) dv := ⟨fun _ _ => Or.inl rfl, ⟨[], Nat.le_refl _, fun _ _ h => absurd rfl h⟩, fun k hk => absurd hk (Nat.not_lt_zero k)⟩
theorem own_Ok_new {cnt : Nat} {sl : Nat → Int32} {dv : Nat → UInt64} (H : own_Ok cnt sl dv) {i : Nat} {x : UInt64} (hx : NoNaN64 x) : own_Ok (cnt + 1) (own_upd sl i (Int32.ofNat cnt)) (own_upd dv cnt x) := by
  obtain ⟨h1, ⟨occ, h2, h3⟩, h4⟩ := H
  refine ⟨fun j hj => ?_, ⟨i :: occ, by simpa using h2, fun j hj hne => ?_⟩, fun k hk => ?_⟩
  · by_cases q : j = i
    · exact Or.inr ⟨cnt, by omega, by rw [q, own_upd_same]⟩
    · rw [own_upd_ne _ _ q]
      rcases h1 j hj with h | ⟨k, hk, hk2⟩
      · exact Or.inl h
      · exact Or.inr ⟨k, by omega, hk2⟩
  · by_cases q : j = i
    · rw [q]; exact List.mem_cons_self
    · rw [own_upd_ne _ _ q] at hne
      exact List.mem_cons_of_mem _ (h3 j hj hne)
  · by_cases q : k = cnt
    · rw [q, own_upd_same]; exact hx
    · rw [own_upd_ne _ _ q]; exact h4 k (by omega)
theorem own_pigeon : ∀ (n : Nat) (occ : List Nat) (g : Nat → Nat), (∀ i, i < n → g i ∈ occ) → (∀ i j, i < n → j < n → g i = g j → i = j) → n ≤ occ.length
  | 0, _, _, _, _ => Nat.zero_le _
  | n + 1, occ, g, h1, h2 => by
    have hm := h1 n (by omega)
    have ih := own_pigeon n (occ.erase (g n)) g (fun i hi => (List.mem_erase_of_ne (fun q => by have := h2 i n (by omega) (by omega) q; omega)).mpr (h1 i (by omega))) (fun i j hi hj => h2 i j (by omega) (by omega))
    rw [List.length_erase_of_mem hm] at ih
    have : 0 < occ.length := List.length_pos_of_mem hm
    omega
/-- so many full slots in a row are no more than the nodes -/
theorem own_probe {cnt : Nat} {sl : Nat → Int32} {dv : Nat → UInt64} (H : own_Ok cnt sl dv) {i0 t : Nat} (ht : t ≤ 2048) (h : ∀ u, u < t → sl ((i0 + u) % 2048) ≠ (-1 : Int32)) : t ≤ cnt := by
  obtain ⟨-, ⟨occ, h2, h3⟩, -⟩ := H
  refine Nat.le_trans (own_pigeon t occ (fun u => (i0 + u) % 2048) (fun u hu => h3 _ (Nat.mod_lt _ (by decide)) (h u hu)) (fun u w hu hw q => ?_)) h2
  have q : (i0 + u) % 2048 = (i0 + w) % 2048 := q
  omega
/-- what a node's making leaves: r is the node's number -/
def own_Rel (cnt cnt' r : Nat) (v lo hi v' lo' hi' : Nat → Int32) (dv dv' : Nat → UInt64) (p1 p2 p3 : Int32) (x : UInt64) : Prop :=
  cnt ≤ cnt' ∧ cnt' ≤ cnt + 1 ∧ r < cnt' ∧ (∀ j, j < cnt → v' j = v j ∧ lo' j = lo j ∧ hi' j = hi j ∧ dv' j = dv j) ∧ v' r = p1 ∧ lo' r = p2 ∧ hi' r = p3 ∧ dv' r = x
theorem own_Rel_new (cnt : Nat) (v lo hi : Nat → Int32) (dv : Nat → UInt64) (p1 p2 p3 : Int32) (x : UInt64) : own_Rel cnt (cnt + 1) cnt v lo hi (own_upd v cnt p1) (own_upd lo cnt p2) (own_upd hi cnt p3) dv (own_upd dv cnt x) p1 p2 p3 x :=
  ⟨by omega, by omega, by omega, fun j hj => ⟨own_upd_ne _ _ (by omega), own_upd_ne _ _ (by omega), own_upd_ne _ _ (by omega), own_upd_ne _ _ (by omega)⟩, own_upd_same _ _ _, own_upd_same _ _ _, own_upd_same _ _ _, own_upd_same _ _ _⟩
theorem own_selP {s : State} {args : Array Value} {y : MethodName} {n : Nat} (hi : (Jvm.Cond.instantiable y.cls n).before args s = true) (hp : (Jvm.Cond.privateMethod y).before args s = true) (hm : (Jvm.Cond.instanceMethod y).before args s = true) (hy : y.cls ≠ "java/lang/invoke/MethodHandle" ∧ y.cls ≠ "java/lang/invoke/VarHandle") : (Jvm.Cond.selects y.cls y y).before args s = true := by
  obtain ⟨c, k, h1, h2, -, h3, -⟩ := Cond.instantiable_spec hi
  have h4 : k.isInterface = false := by
    cases hq : k.isInterface with
    | false => rfl
    | true => rw [hq] at h3; cases h3
  exact Stand.selects_self_of_private h1 h2 h4 (Cond.privateMethod_at hp) hm hy
theorem own_nelt {cnt : Nat} (h : cnt ≤ 5) : ¬ Int32.ofNat cnt = (1024 : Int32) := by
  have : cnt = 0 ∨ cnt = 1 ∨ cnt = 2 ∨ cnt = 3 ∨ cnt = 4 ∨ cnt = 5 := by omega
  rcases this with rfl | rfl | rfl | rfl | rfl | rfl <;> decide
theorem own_small2 {cnt : Nat} (h : cnt ≤ 5) : ¬ (2048 : Int32) < ((2 : Int32) * (Int32.ofNat (cnt + 1))) := by
  have : cnt = 0 ∨ cnt = 1 ∨ cnt = 2 ∨ cnt = 3 ∨ cnt = 4 ∨ cnt = 5 := by omega
  rcases this with rfl | rfl | rfl | rfl | rfl | rfl <;> decide
theorem own_pred (cnt : Nat) : (Int32.ofNat (cnt + 1) - (1 : Int32)) = Int32.ofNat cnt := by
  rw [← XT.succ32, Int32.add_sub_cancel]
theorem own_nn0 : NoNaN64 (0 : UInt64) := by unfold NoNaN64; decide
theorem own_fin0 : Fin64 (0 : UInt64) := by unfold Fin64; decide
theorem own_fin1 : Fin64 (4607182418800017408 : UInt64) := by unfold Fin64; decide
theorem own_add0 : NoNaN64 (FP.dadd (0 : UInt64) (0 : UInt64)) := dadd_out own_nn0 own_fin0
theorem own_add1 : NoNaN64 (FP.dadd (4607182418800017408 : UInt64) (0 : UInt64)) := dadd_out own_fin1.noNaN own_fin0
theorem own_addi (p : Int32) : NoNaN64 (FP.dadd (FP.i2d p) (0 : UInt64)) := dadd_out (i2d_fin p).noNaN own_fin0
theorem own_01 : FP.dadd (0 : UInt64) (0 : UInt64) ≠ FP.dadd (4607182418800017408 : UInt64) (0 : UInt64) := by decide +kernel
/-- the second leaf is a second node -/
theorem own_one {a : UInt64} {dv : Nat → UInt64} {c r : Nat} (h1 : dv 0 = a) (h2 : a = FP.dadd (0 : UInt64) (0 : UInt64)) (h3 : dv r = FP.dadd (4607182418800017408 : UInt64) (0 : UInt64)) (h4 : 1 ≤ c) (h5 : c ≤ 1 + 1) (h6 : r < c) : r = 1 ∧ c = 2 := by
  have : r ≠ 0 := by
    rintro rfl
    exact own_01 (h2.symm.trans (h1.symm.trans h3))
  omega
theorem own_and30 (p : Int32) : 0 ≤ (p &&& (1073741823 : Int32)).toInt ∧ (p &&& (1073741823 : Int32)).toInt ≤ 1073741823 := by
  have h := c_and p 1073741823 (by decide)
  have h4 : (1073741823 : Int32).toInt = 1073741823 := rfl
  omega
theorem own_var0 (p : Int32) : ¬ (p &&& (1073741823 : Int32)) < (0 : Int32) := by
  rw [Int32.lt_iff_toInt_lt]
  have h := own_and30 p
  have h4 : (0 : Int32).toInt = 0 := rfl
  omega
theorem own_var1 (p : Int32) : (p &&& (1073741823 : Int32)) < (1073741824 : Int32) := by
  rw [Int32.lt_iff_toInt_lt]
  have h := own_and30 p
  have h4 : (1073741824 : Int32).toInt = 1073741824 := rfl
  omega
theorem own_var2 (p : Int32) : ¬ (p &&& (1073741823 : Int32)) = (2147483647 : Int32) := by
  intro q
  have h := own_and30 p
  rw [q] at h
  have h4 : (2147483647 : Int32).toInt = 2147483647 := rfl
  omega
def own_Dd (Z : State) (h : Heap) (dd bv bl bh bd bs : Addr) (cnt : Nat) (vv lo hi : Nat → Int32) (dv : Nat → UInt64) (sl : Nat → Int32) (zz oo : Int32) : Prop := Exa Z h dd "com/example/horizonte/horizonte/dd/DecisionDiagrams" ∧ Fld Z h dd "com/example/horizonte/horizonte/dd/DecisionDiagrams" "variables" "[I" (.ref bv) ∧ Fld Z h dd "com/example/horizonte/horizonte/dd/DecisionDiagrams" "lows" "[I" (.ref bl) ∧ Fld Z h dd "com/example/horizonte/horizonte/dd/DecisionDiagrams" "highs" "[I" (.ref bh) ∧ Fld Z h dd "com/example/horizonte/horizonte/dd/DecisionDiagrams" "values" "[D" (.ref bd) ∧ Fld Z h dd "com/example/horizonte/horizonte/dd/DecisionDiagrams" "slots" "[I" (.ref bs) ∧ Fld Z h dd "com/example/horizonte/horizonte/dd/DecisionDiagrams" "count" "I" (.int (Int32.ofNat cnt)) ∧ Fld Z h dd "com/example/horizonte/horizonte/dd/DecisionDiagrams" "zero" "I" (.int zz) ∧ Fld Z h dd "com/example/horizonte/horizonte/dd/DecisionDiagrams" "one" "I" (.int oo) ∧ own_A Z h bv .int 1024 (fun j => .int (vv j)) ∧ own_A Z h bl .int 1024 (fun j => .int (lo j)) ∧ own_A Z h bh .int 1024 (fun j => .int (hi j)) ∧ own_A Z h bd .double 1024 (fun j => .double (dv j)) ∧ own_A Z h bs .int 2048 (fun j => .int (sl j))
def own_Ne (dd bv bl bh bd bs : Addr) : Prop := dd ≠ bv ∧ dd ≠ bl ∧ dd ≠ bh ∧ dd ≠ bd ∧ dd ≠ bs ∧ bv ≠ bl ∧ bv ≠ bh ∧ bv ≠ bd ∧ bv ≠ bs ∧ bl ≠ bh ∧ bl ≠ bd ∧ bl ≠ bs ∧ bh ≠ bd ∧ bh ≠ bs ∧ bd ≠ bs
def own_Gs (n0 : Nat) (dd bv bl bh bd bs : Addr) : Prop := n0 ≤ dd ∧ n0 ≤ bv ∧ n0 ≤ bl ∧ n0 ≤ bh ∧ n0 ≤ bd ∧ n0 ≤ bs
def own_Q (Z : State) (dd bv bl bh bd bs : Addr) (cnt : Nat) (vv lo hi : Nat → Int32) (dv : Nat → UInt64) (zz oo p1 p2 p3 : Int32) (x : UInt64) (h0 : Heap) (n0 : Nat) (v : Option Value) (h : Heap) (L : List Loc) : Prop := ∃ (r c' : Nat) (v' lo' hi' : Nat → Int32) (dv' : Nat → UInt64) (sl' : Nat → Int32), v = some (.int (Int32.ofNat r)) ∧ Fr n0 L ∧ Keep h0 h [dd, bv, bl, bh, bd, bs] ∧ own_Dd Z h dd bv bl bh bd bs c' v' lo' hi' dv' sl' zz oo ∧ own_Ok c' sl' dv' ∧ own_Rel cnt c' r vv lo hi v' lo' hi' dv dv' p1 p2 p3 x
theorem ef_17 (m : MethodId) (x0 : UInt64) : entryFrame m #[(.double x0)] 2 = mkF m 0 #[.val (.double x0), .second] [] := by first | (simp [entryFrame, mkF, argsToLocals, Value.category]; done) | rfl
theorem pn_java_lang_Double : plainName "java/lang/Double" = true := by first | (simp [plainName, overriddenIn]; done) | decide +kernel
theorem d17_0 : decode jdk_117_method_6_code 0 = .ok (.dload_n 0, 1) := by decide +kernel
theorem d17_1 : decode jdk_117_method_6_code 1 = .ok (.dload_n 0, 1) := by decide +kernel
theorem d17_2 : decode jdk_117_method_6_code 2 = .ok (.dcmp .l, 1) := by decide +kernel
theorem d17_3 : decode jdk_117_method_6_code 3 = .ok (.ifCond .eq 7, 3) := by decide +kernel
theorem d17_10 : decode jdk_117_method_6_code 10 = .ok (.iconst 0, 1) := by decide +kernel
theorem d17_11 : decode jdk_117_method_6_code 11 = .ok (.ireturn, 1) := by decide +kernel
theorem ef_16 (m : MethodId) (x0 : UInt64) : entryFrame m #[(.double x0)] 2 = mkF m 0 #[.val (.double x0), .second] [] := by first | (simp [entryFrame, mkF, argsToLocals, Value.category]; done) | rfl
theorem d16_0 : decode jdk_117_method_23_code 0 = .ok (.dload_n 0, 1) := by decide +kernel
theorem d16_1 : decode jdk_117_method_23_code 1 = .ok (.invokestatic 122, 3) := by decide +kernel
theorem pd__28D_29Z : parseMethodDescriptor "(D)Z" = some ⟨[.double], some .boolean⟩ := by decide +kernel
theorem d16_4 : decode jdk_117_method_23_code 4 = .ok (.ifCond .ne 8, 3) := by decide +kernel
theorem d16_7 : decode jdk_117_method_23_code 7 = .ok (.dload_n 0, 1) := by decide +kernel
theorem d16_8 : decode jdk_117_method_23_code 8 = .ok (.invokestatic 134, 3) := by decide +kernel
theorem d16_11 : decode jdk_117_method_23_code 11 = .ok (.lreturn, 1) := by decide +kernel
theorem ef_18 (m : MethodId) (x0 : Int32) (x1 : Int32) (x2 : Int32) (x3 : Int64) : entryFrame m #[(.int x0), (.int x1), (.int x2), (.long x3)] 7 = mkF m 0 #[.val (.int x0), .val (.int x1), .val (.int x2), .val (.long x3), .second, .unset, .unset] [] := by first | (simp [entryFrame, mkF, argsToLocals, Value.category]; done) | rfl
theorem pn_com_example_horizonte_horizonte_dd_DecisionDiagrams : plainName "com/example/horizonte/horizonte/dd/DecisionDiagrams" = true := by first | (simp [plainName, overriddenIn]; done) | decide +kernel
theorem d18_0 : decode prog_4_method_81_code 0 = .ok (.iload_n 0, 1) := by decide +kernel
theorem d18_1 : decode prog_4_method_81_code 1 = .ok (.i2l, 1) := by decide +kernel
theorem d18_2 : decode prog_4_method_81_code 2 = .ok (.ldc2_w 750, 3) := by decide +kernel
theorem d18_5 : decode prog_4_method_81_code 5 = .ok (.lmul, 1) := by decide +kernel
theorem d18_6 : decode prog_4_method_81_code 6 = .ok (.lstore 5, 2) := by decide +kernel
theorem d18_8 : decode prog_4_method_81_code 8 = .ok (.lload 5, 2) := by decide +kernel
theorem d18_10 : decode prog_4_method_81_code 10 = .ok (.iload_n 1, 1) := by decide +kernel
theorem d18_11 : decode prog_4_method_81_code 11 = .ok (.i2l, 1) := by decide +kernel
theorem d18_12 : decode prog_4_method_81_code 12 = .ok (.lxor, 1) := by decide +kernel
theorem d18_13 : decode prog_4_method_81_code 13 = .ok (.ldc2_w 752, 3) := by decide +kernel
theorem d18_16 : decode prog_4_method_81_code 16 = .ok (.lmul, 1) := by decide +kernel
theorem d18_17 : decode prog_4_method_81_code 17 = .ok (.lstore 5, 2) := by decide +kernel
theorem d18_19 : decode prog_4_method_81_code 19 = .ok (.lload 5, 2) := by decide +kernel
theorem d18_21 : decode prog_4_method_81_code 21 = .ok (.iload_n 2, 1) := by decide +kernel
theorem d18_22 : decode prog_4_method_81_code 22 = .ok (.i2l, 1) := by decide +kernel
theorem d18_23 : decode prog_4_method_81_code 23 = .ok (.lxor, 1) := by decide +kernel
theorem d18_24 : decode prog_4_method_81_code 24 = .ok (.ldc2_w 754, 3) := by decide +kernel
theorem d18_27 : decode prog_4_method_81_code 27 = .ok (.lmul, 1) := by decide +kernel
theorem d18_28 : decode prog_4_method_81_code 28 = .ok (.lstore 5, 2) := by decide +kernel
theorem d18_30 : decode prog_4_method_81_code 30 = .ok (.lload 5, 2) := by decide +kernel
theorem d18_32 : decode prog_4_method_81_code 32 = .ok (.lload_n 3, 1) := by decide +kernel
theorem d18_33 : decode prog_4_method_81_code 33 = .ok (.lxor, 1) := by decide +kernel
theorem d18_34 : decode prog_4_method_81_code 34 = .ok (.ldc2_w 750, 3) := by decide +kernel
theorem d18_37 : decode prog_4_method_81_code 37 = .ok (.lmul, 1) := by decide +kernel
theorem d18_38 : decode prog_4_method_81_code 38 = .ok (.lstore 5, 2) := by decide +kernel
theorem d18_40 : decode prog_4_method_81_code 40 = .ok (.lload 5, 2) := by decide +kernel
theorem d18_42 : decode prog_4_method_81_code 42 = .ok (.lload 5, 2) := by decide +kernel
theorem d18_44 : decode prog_4_method_81_code 44 = .ok (.bipush 32, 2) := by decide +kernel
theorem d18_46 : decode prog_4_method_81_code 46 = .ok (.lushr, 1) := by decide +kernel
theorem d18_47 : decode prog_4_method_81_code 47 = .ok (.lxor, 1) := by decide +kernel
theorem d18_48 : decode prog_4_method_81_code 48 = .ok (.l2i, 1) := by decide +kernel
theorem d18_49 : decode prog_4_method_81_code 49 = .ok (.ireturn, 1) := by decide +kernel
theorem ef_19 (m : MethodId) (x0 : Addr) (x1 : Int32) (x2 : Int32) (x3 : Int32) (x4 : UInt64) : entryFrame m #[(.ref x0), (.int x1), (.int x2), (.int x3), (.double x4)] 6 = mkF m 0 #[.val (.ref x0), .val (.int x1), .val (.int x2), .val (.int x3), .val (.double x4), .second] [] := by first | (simp [entryFrame, mkF, argsToLocals, Value.category]; done) | rfl
theorem d19_0 : decode prog_4_method_69_code 0 = .ok (.aload_n 0, 1) := by decide +kernel
theorem d19_1 : decode prog_4_method_69_code 1 = .ok (.getfield 339, 3) := by decide +kernel
theorem d19_4 : decode prog_4_method_69_code 4 = .ok (.aload_n 0, 1) := by decide +kernel
theorem d19_5 : decode prog_4_method_69_code 5 = .ok (.getfield 11, 3) := by decide +kernel
theorem d19_8 : decode prog_4_method_69_code 8 = .ok (.arraylength, 1) := by decide +kernel
theorem d19_9 : decode prog_4_method_69_code 9 = .ok (.if_icmp .ne 7, 3) := by decide +kernel
theorem d19_16 : decode prog_4_method_69_code 16 = .ok (.aload_n 0, 1) := by decide +kernel
theorem d19_17 : decode prog_4_method_69_code 17 = .ok (.getfield 11, 3) := by decide +kernel
theorem d19_20 : decode prog_4_method_69_code 20 = .ok (.aload_n 0, 1) := by decide +kernel
theorem d19_21 : decode prog_4_method_69_code 21 = .ok (.getfield 339, 3) := by decide +kernel
theorem d19_24 : decode prog_4_method_69_code 24 = .ok (.iload_n 1, 1) := by decide +kernel
theorem d19_25 : decode prog_4_method_69_code 25 = .ok (.iastore, 1) := by decide +kernel
theorem d19_26 : decode prog_4_method_69_code 26 = .ok (.aload_n 0, 1) := by decide +kernel
theorem d19_27 : decode prog_4_method_69_code 27 = .ok (.getfield 15, 3) := by decide +kernel
theorem d19_30 : decode prog_4_method_69_code 30 = .ok (.aload_n 0, 1) := by decide +kernel
theorem d19_31 : decode prog_4_method_69_code 31 = .ok (.getfield 339, 3) := by decide +kernel
theorem d19_34 : decode prog_4_method_69_code 34 = .ok (.iload_n 2, 1) := by decide +kernel
theorem d19_35 : decode prog_4_method_69_code 35 = .ok (.iastore, 1) := by decide +kernel
theorem d19_36 : decode prog_4_method_69_code 36 = .ok (.aload_n 0, 1) := by decide +kernel
theorem d19_37 : decode prog_4_method_69_code 37 = .ok (.getfield 18, 3) := by decide +kernel
theorem d19_40 : decode prog_4_method_69_code 40 = .ok (.aload_n 0, 1) := by decide +kernel
theorem d19_41 : decode prog_4_method_69_code 41 = .ok (.getfield 339, 3) := by decide +kernel
theorem d19_44 : decode prog_4_method_69_code 44 = .ok (.iload_n 3, 1) := by decide +kernel
theorem d19_45 : decode prog_4_method_69_code 45 = .ok (.iastore, 1) := by decide +kernel
theorem d19_46 : decode prog_4_method_69_code 46 = .ok (.aload_n 0, 1) := by decide +kernel
theorem d19_47 : decode prog_4_method_69_code 47 = .ok (.getfield 21, 3) := by decide +kernel
theorem d19_50 : decode prog_4_method_69_code 50 = .ok (.aload_n 0, 1) := by decide +kernel
theorem d19_51 : decode prog_4_method_69_code 51 = .ok (.getfield 339, 3) := by decide +kernel
theorem d19_54 : decode prog_4_method_69_code 54 = .ok (.dload 4, 2) := by decide +kernel
theorem d19_56 : decode prog_4_method_69_code 56 = .ok (.dastore, 1) := by decide +kernel
theorem d19_57 : decode prog_4_method_69_code 57 = .ok (.aload_n 0, 1) := by decide +kernel
theorem d19_58 : decode prog_4_method_69_code 58 = .ok (.dup, 1) := by decide +kernel
theorem d19_59 : decode prog_4_method_69_code 59 = .ok (.getfield 339, 3) := by decide +kernel
theorem d19_62 : decode prog_4_method_69_code 62 = .ok (.iconst 1, 1) := by decide +kernel
theorem d19_63 : decode prog_4_method_69_code 63 = .ok (.iadd, 1) := by decide +kernel
theorem d19_64 : decode prog_4_method_69_code 64 = .ok (.putfield 339, 3) := by decide +kernel
theorem d19_67 : decode prog_4_method_69_code 67 = .ok (.aload_n 0, 1) := by decide +kernel
theorem d19_68 : decode prog_4_method_69_code 68 = .ok (.getfield 339, 3) := by decide +kernel
theorem d19_71 : decode prog_4_method_69_code 71 = .ok (.iconst 1, 1) := by decide +kernel
theorem d19_72 : decode prog_4_method_69_code 72 = .ok (.isub, 1) := by decide +kernel
theorem d19_73 : decode prog_4_method_69_code 73 = .ok (.ireturn, 1) := by decide +kernel
theorem ef_15 (m : MethodId) (x0 : Addr) (x1 : Int32) (x2 : Int32) (x3 : Int32) (x4 : UInt64) : entryFrame m #[(.ref x0), (.int x1), (.int x2), (.int x3), (.double x4)] 11 = mkF m 0 #[.val (.ref x0), .val (.int x1), .val (.int x2), .val (.int x3), .val (.double x4), .second, .unset, .unset, .unset, .unset, .unset] [] := by first | (simp [entryFrame, mkF, argsToLocals, Value.category]; done) | rfl
theorem d15_0 : decode prog_4_method_68_code 0 = .ok (.dload 4, 2) := by decide +kernel
theorem d15_2 : decode prog_4_method_68_code 2 = .ok (.invokestatic 708, 3) := by decide +kernel
theorem pd__28D_29J : parseMethodDescriptor "(D)J" = some ⟨[.double], some .long⟩ := by decide +kernel
theorem d15_5 : decode prog_4_method_68_code 5 = .ok (.lstore 6, 2) := by decide +kernel
theorem d15_7 : decode prog_4_method_68_code 7 = .ok (.aload_n 0, 1) := by decide +kernel
theorem d15_8 : decode prog_4_method_68_code 8 = .ok (.getfield 36, 3) := by decide +kernel
theorem d15_11 : decode prog_4_method_68_code 11 = .ok (.arraylength, 1) := by decide +kernel
theorem d15_12 : decode prog_4_method_68_code 12 = .ok (.iconst 1, 1) := by decide +kernel
theorem d15_13 : decode prog_4_method_68_code 13 = .ok (.isub, 1) := by decide +kernel
theorem d15_14 : decode prog_4_method_68_code 14 = .ok (.istore 8, 2) := by decide +kernel
theorem d15_16 : decode prog_4_method_68_code 16 = .ok (.iload_n 1, 1) := by decide +kernel
theorem d15_17 : decode prog_4_method_68_code 17 = .ok (.iload_n 2, 1) := by decide +kernel
theorem d15_18 : decode prog_4_method_68_code 18 = .ok (.iload_n 3, 1) := by decide +kernel
theorem d15_19 : decode prog_4_method_68_code 19 = .ok (.lload 6, 2) := by decide +kernel
theorem d15_21 : decode prog_4_method_68_code 21 = .ok (.invokestatic 712, 3) := by decide +kernel
theorem pd__28IIIJ_29I : parseMethodDescriptor "(IIIJ)I" = some ⟨[.int, .int, .int, .long], some .int⟩ := by decide +kernel
theorem d15_24 : decode prog_4_method_68_code 24 = .ok (.iload 8, 2) := by decide +kernel
theorem d15_26 : decode prog_4_method_68_code 26 = .ok (.iand, 1) := by decide +kernel
theorem d15_27 : decode prog_4_method_68_code 27 = .ok (.istore 9, 2) := by decide +kernel
theorem d15_29 : decode prog_4_method_68_code 29 = .ok (.aload_n 0, 1) := by decide +kernel
theorem d15_30 : decode prog_4_method_68_code 30 = .ok (.getfield 36, 3) := by decide +kernel
theorem d15_33 : decode prog_4_method_68_code 33 = .ok (.iload 9, 2) := by decide +kernel
theorem d15_35 : decode prog_4_method_68_code 35 = .ok (.iaload, 1) := by decide +kernel
theorem d15_36 : decode prog_4_method_68_code 36 = .ok (.iconst (-1), 1) := by decide +kernel
theorem d15_37 : decode prog_4_method_68_code 37 = .ok (.if_icmp .eq 76, 3) := by decide +kernel
theorem d15_113 : decode prog_4_method_68_code 113 = .ok (.aload_n 0, 1) := by decide +kernel
theorem d15_114 : decode prog_4_method_68_code 114 = .ok (.iload_n 1, 1) := by decide +kernel
theorem d15_115 : decode prog_4_method_68_code 115 = .ok (.iload_n 2, 1) := by decide +kernel
theorem d15_116 : decode prog_4_method_68_code 116 = .ok (.iload_n 3, 1) := by decide +kernel
theorem d15_117 : decode prog_4_method_68_code 117 = .ok (.dload 4, 2) := by decide +kernel
theorem d15_119 : decode prog_4_method_68_code 119 = .ok (.invokevirtual 716, 3) := by decide +kernel
theorem pd__28IIID_29I : parseMethodDescriptor "(IIID)I" = some ⟨[.int, .int, .int, .double], some .int⟩ := by decide +kernel
theorem d15_122 : decode prog_4_method_68_code 122 = .ok (.istore 10, 2) := by decide +kernel
theorem d15_124 : decode prog_4_method_68_code 124 = .ok (.aload_n 0, 1) := by decide +kernel
theorem d15_125 : decode prog_4_method_68_code 125 = .ok (.getfield 36, 3) := by decide +kernel
theorem d15_128 : decode prog_4_method_68_code 128 = .ok (.iload 9, 2) := by decide +kernel
theorem d15_130 : decode prog_4_method_68_code 130 = .ok (.iload 10, 2) := by decide +kernel
theorem d15_132 : decode prog_4_method_68_code 132 = .ok (.iastore, 1) := by decide +kernel
theorem d15_133 : decode prog_4_method_68_code 133 = .ok (.iconst 2, 1) := by decide +kernel
theorem d15_134 : decode prog_4_method_68_code 134 = .ok (.aload_n 0, 1) := by decide +kernel
theorem d15_135 : decode prog_4_method_68_code 135 = .ok (.getfield 339, 3) := by decide +kernel
theorem d15_138 : decode prog_4_method_68_code 138 = .ok (.imul, 1) := by decide +kernel
theorem d15_139 : decode prog_4_method_68_code 139 = .ok (.aload_n 0, 1) := by decide +kernel
theorem d15_140 : decode prog_4_method_68_code 140 = .ok (.getfield 36, 3) := by decide +kernel
theorem d15_143 : decode prog_4_method_68_code 143 = .ok (.arraylength, 1) := by decide +kernel
theorem d15_144 : decode prog_4_method_68_code 144 = .ok (.if_icmp .le 14, 3) := by decide +kernel
theorem d15_158 : decode prog_4_method_68_code 158 = .ok (.iload 10, 2) := by decide +kernel
theorem d15_160 : decode prog_4_method_68_code 160 = .ok (.ireturn, 1) := by decide +kernel
theorem d15_40 : decode prog_4_method_68_code 40 = .ok (.aload_n 0, 1) := by decide +kernel
theorem d15_41 : decode prog_4_method_68_code 41 = .ok (.getfield 36, 3) := by decide +kernel
theorem d15_44 : decode prog_4_method_68_code 44 = .ok (.iload 9, 2) := by decide +kernel
theorem d15_46 : decode prog_4_method_68_code 46 = .ok (.iaload, 1) := by decide +kernel
theorem d15_47 : decode prog_4_method_68_code 47 = .ok (.istore 10, 2) := by decide +kernel
theorem d15_49 : decode prog_4_method_68_code 49 = .ok (.aload_n 0, 1) := by decide +kernel
theorem d15_50 : decode prog_4_method_68_code 50 = .ok (.getfield 11, 3) := by decide +kernel
theorem d15_53 : decode prog_4_method_68_code 53 = .ok (.iload 10, 2) := by decide +kernel
theorem d15_55 : decode prog_4_method_68_code 55 = .ok (.iaload, 1) := by decide +kernel
theorem d15_56 : decode prog_4_method_68_code 56 = .ok (.iload_n 1, 1) := by decide +kernel
theorem d15_57 : decode prog_4_method_68_code 57 = .ok (.if_icmp .ne 44, 3) := by decide +kernel
theorem d15_101 : decode prog_4_method_68_code 101 = .ok (.iload 9, 2) := by decide +kernel
theorem d15_103 : decode prog_4_method_68_code 103 = .ok (.iconst 1, 1) := by decide +kernel
theorem d15_104 : decode prog_4_method_68_code 104 = .ok (.iadd, 1) := by decide +kernel
theorem d15_105 : decode prog_4_method_68_code 105 = .ok (.iload 8, 2) := by decide +kernel
theorem d15_107 : decode prog_4_method_68_code 107 = .ok (.iand, 1) := by decide +kernel
theorem d15_108 : decode prog_4_method_68_code 108 = .ok (.istore 9, 2) := by decide +kernel
theorem d15_110 : decode prog_4_method_68_code 110 = .ok (.goto (-81), 3) := by decide +kernel
theorem d15_60 : decode prog_4_method_68_code 60 = .ok (.aload_n 0, 1) := by decide +kernel
theorem d15_61 : decode prog_4_method_68_code 61 = .ok (.getfield 15, 3) := by decide +kernel
theorem d15_64 : decode prog_4_method_68_code 64 = .ok (.iload 10, 2) := by decide +kernel
theorem d15_66 : decode prog_4_method_68_code 66 = .ok (.iaload, 1) := by decide +kernel
theorem d15_67 : decode prog_4_method_68_code 67 = .ok (.iload_n 2, 1) := by decide +kernel
theorem d15_68 : decode prog_4_method_68_code 68 = .ok (.if_icmp .ne 33, 3) := by decide +kernel
theorem d15_71 : decode prog_4_method_68_code 71 = .ok (.aload_n 0, 1) := by decide +kernel
theorem d15_72 : decode prog_4_method_68_code 72 = .ok (.getfield 18, 3) := by decide +kernel
theorem d15_75 : decode prog_4_method_68_code 75 = .ok (.iload 10, 2) := by decide +kernel
theorem d15_77 : decode prog_4_method_68_code 77 = .ok (.iaload, 1) := by decide +kernel
theorem d15_78 : decode prog_4_method_68_code 78 = .ok (.iload_n 3, 1) := by decide +kernel
theorem d15_79 : decode prog_4_method_68_code 79 = .ok (.if_icmp .ne 22, 3) := by decide +kernel
theorem d15_82 : decode prog_4_method_68_code 82 = .ok (.aload_n 0, 1) := by decide +kernel
theorem d15_83 : decode prog_4_method_68_code 83 = .ok (.getfield 21, 3) := by decide +kernel
theorem d15_86 : decode prog_4_method_68_code 86 = .ok (.iload 10, 2) := by decide +kernel
theorem d15_88 : decode prog_4_method_68_code 88 = .ok (.daload, 1) := by decide +kernel
theorem d15_89 : decode prog_4_method_68_code 89 = .ok (.invokestatic 708, 3) := by decide +kernel
theorem d15_92 : decode prog_4_method_68_code 92 = .ok (.lload 6, 2) := by decide +kernel
theorem d15_94 : decode prog_4_method_68_code 94 = .ok (.lcmp, 1) := by decide +kernel
theorem d15_95 : decode prog_4_method_68_code 95 = .ok (.ifCond .ne 6, 3) := by decide +kernel
theorem d15_98 : decode prog_4_method_68_code 98 = .ok (.iload 10, 2) := by decide +kernel
theorem d15_100 : decode prog_4_method_68_code 100 = .ok (.ireturn, 1) := by decide +kernel
theorem ef_14 (m : MethodId) (x0 : Addr) (x1 : UInt64) : entryFrame m #[(.ref x0), (.double x1)] 3 = mkF m 0 #[.val (.ref x0), .val (.double x1), .second] [] := by first | (simp [entryFrame, mkF, argsToLocals, Value.category]; done) | rfl
theorem d14_0 : decode prog_4_method_66_code 0 = .ok (.aload_n 0, 1) := by decide +kernel
theorem d14_1 : decode prog_4_method_66_code 1 = .ok (.ldc 139, 2) := by decide +kernel
theorem d14_3 : decode prog_4_method_66_code 3 = .ok (.iconst (-1), 1) := by decide +kernel
theorem d14_4 : decode prog_4_method_66_code 4 = .ok (.iconst (-1), 1) := by decide +kernel
theorem d14_5 : decode prog_4_method_66_code 5 = .ok (.dload_n 1, 1) := by decide +kernel
theorem d14_6 : decode prog_4_method_66_code 6 = .ok (.dconst 0, 1) := by decide +kernel
theorem d14_7 : decode prog_4_method_66_code 7 = .ok (.dadd, 1) := by decide +kernel
theorem d14_8 : decode prog_4_method_66_code 8 = .ok (.invokevirtual 675, 3) := by decide +kernel
theorem d14_11 : decode prog_4_method_66_code 11 = .ok (.ireturn, 1) := by decide +kernel
theorem ef_12 (m : MethodId) (x0 : UInt64) : entryFrame m #[(.double x0)] 2 = mkF m 0 #[.val (.double x0), .second] [] := by first | (simp [entryFrame, mkF, argsToLocals, Value.category]; done) | rfl
theorem d12_0 : decode jdk_117_method_8_code 0 = .ok (.dload_n 0, 1) := by decide +kernel
theorem d12_1 : decode jdk_117_method_8_code 1 = .ok (.invokestatic 38, 3) := by decide +kernel
theorem pd__28D_29D : parseMethodDescriptor "(D)D" = some ⟨[.double], some .double⟩ := by decide +kernel
theorem d12_4 : decode jdk_117_method_8_code 4 = .ok (.ldc2_w 111, 3) := by decide +kernel
theorem d12_7 : decode jdk_117_method_8_code 7 = .ok (.dcmp .g, 1) := by decide +kernel
theorem d12_8 : decode jdk_117_method_8_code 8 = .ok (.ifCond .gt 7, 3) := by decide +kernel
theorem d12_11 : decode jdk_117_method_8_code 11 = .ok (.iconst 1, 1) := by decide +kernel
theorem d12_12 : decode jdk_117_method_8_code 12 = .ok (.goto 4, 3) := by decide +kernel
theorem d12_16 : decode jdk_117_method_8_code 16 = .ok (.ireturn, 1) := by decide +kernel
theorem ef_11 (m : MethodId) (x0 : Addr) (x1 : UInt64) : entryFrame m #[(.ref x0), (.double x1)] 3 = mkF m 0 #[.val (.ref x0), .val (.double x1), .second] [] := by first | (simp [entryFrame, mkF, argsToLocals, Value.category]; done) | rfl
theorem d11_0 : decode prog_4_method_2_code 0 = .ok (.dload_n 1, 1) := by decide +kernel
theorem d11_1 : decode prog_4_method_2_code 1 = .ok (.invokestatic 71, 3) := by decide +kernel
theorem d11_4 : decode prog_4_method_2_code 4 = .ok (.ifCond .ne 17, 3) := by decide +kernel
theorem d11_21 : decode prog_4_method_2_code 21 = .ok (.aload_n 0, 1) := by decide +kernel
theorem d11_22 : decode prog_4_method_2_code 22 = .ok (.dload_n 1, 1) := by decide +kernel
theorem d11_23 : decode prog_4_method_2_code 23 = .ok (.invokevirtual 86, 3) := by decide +kernel
theorem pd__28D_29I : parseMethodDescriptor "(D)I" = some ⟨[.double], some .int⟩ := by decide +kernel
theorem d11_26 : decode prog_4_method_2_code 26 = .ok (.ireturn, 1) := by decide +kernel
theorem ef_21 (m : MethodId) (x0 : Int32) : entryFrame m #[(.int x0)] 1 = mkF m 0 #[.val (.int x0)] [] := by first | (simp [entryFrame, mkF, argsToLocals, Value.category]; done) | rfl
theorem d21_0 : decode prog_4_method_76_code 0 = .ok (.iload_n 0, 1) := by decide +kernel
theorem d21_1 : decode prog_4_method_76_code 1 = .ok (.ifCond .lt 9, 3) := by decide +kernel
theorem d21_4 : decode prog_4_method_76_code 4 = .ok (.iload_n 0, 1) := by decide +kernel
theorem d21_5 : decode prog_4_method_76_code 5 = .ok (.ldc 192, 2) := by decide +kernel
theorem d21_7 : decode prog_4_method_76_code 7 = .ok (.if_icmp .lt 17, 3) := by decide +kernel
theorem d21_24 : decode prog_4_method_76_code 24 = .ok (.return_, 1) := by decide +kernel
theorem ef_22 (m : MethodId) (x0 : Addr) (x1 : Int32) (x2 : Int32) (x3 : Int32) : entryFrame m #[(.ref x0), (.int x1), (.int x2), (.int x3)] 4 = mkF m 0 #[.val (.ref x0), .val (.int x1), .val (.int x2), .val (.int x3)] [] := by first | (simp [entryFrame, mkF, argsToLocals, Value.category]; done) | rfl
theorem d22_0 : decode prog_4_method_67_code 0 = .ok (.iload_n 2, 1) := by decide +kernel
theorem d22_1 : decode prog_4_method_67_code 1 = .ok (.iload_n 3, 1) := by decide +kernel
theorem d22_2 : decode prog_4_method_67_code 2 = .ok (.if_icmp .ne 7, 3) := by decide +kernel
theorem d22_9 : decode prog_4_method_67_code 9 = .ok (.aload_n 0, 1) := by decide +kernel
theorem d22_10 : decode prog_4_method_67_code 10 = .ok (.iload_n 1, 1) := by decide +kernel
theorem d22_11 : decode prog_4_method_67_code 11 = .ok (.iload_n 2, 1) := by decide +kernel
theorem d22_12 : decode prog_4_method_67_code 12 = .ok (.iload_n 3, 1) := by decide +kernel
theorem d22_13 : decode prog_4_method_67_code 13 = .ok (.dconst 0, 1) := by decide +kernel
theorem d22_14 : decode prog_4_method_67_code 14 = .ok (.invokevirtual 675, 3) := by decide +kernel
theorem d22_17 : decode prog_4_method_67_code 17 = .ok (.ireturn, 1) := by decide +kernel
theorem ef_20 (m : MethodId) (x0 : Addr) (x1 : Int32) : entryFrame m #[(.ref x0), (.int x1)] 2 = mkF m 0 #[.val (.ref x0), .val (.int x1)] [] := by first | (simp [entryFrame, mkF, argsToLocals, Value.category]; done) | rfl
theorem d20_0 : decode prog_4_method_3_code 0 = .ok (.iload_n 1, 1) := by decide +kernel
theorem d20_1 : decode prog_4_method_3_code 1 = .ok (.invokestatic 89, 3) := by decide +kernel
theorem pd__28I_29V : parseMethodDescriptor "(I)V" = some ⟨[.int], none⟩ := by decide +kernel
theorem d20_4 : decode prog_4_method_3_code 4 = .ok (.aload_n 0, 1) := by decide +kernel
theorem d20_5 : decode prog_4_method_3_code 5 = .ok (.iload_n 1, 1) := by decide +kernel
theorem d20_6 : decode prog_4_method_3_code 6 = .ok (.aload_n 0, 1) := by decide +kernel
theorem d20_7 : decode prog_4_method_3_code 7 = .ok (.getfield 64, 3) := by decide +kernel
theorem d20_10 : decode prog_4_method_3_code 10 = .ok (.aload_n 0, 1) := by decide +kernel
theorem d20_11 : decode prog_4_method_3_code 11 = .ok (.getfield 68, 3) := by decide +kernel
theorem d20_14 : decode prog_4_method_3_code 14 = .ok (.invokevirtual 93, 3) := by decide +kernel
theorem pd__28III_29I : parseMethodDescriptor "(III)I" = some ⟨[.int, .int, .int], some .int⟩ := by decide +kernel
theorem d20_17 : decode prog_4_method_3_code 17 = .ok (.ireturn, 1) := by decide +kernel
theorem ef_23 (m : MethodId) (x0 : Addr) (x1 : Int32) : entryFrame m #[(.ref x0), (.int x1)] 2 = mkF m 0 #[.val (.ref x0), .val (.int x1)] [] := by first | (simp [entryFrame, mkF, argsToLocals, Value.category]; done) | rfl
theorem d23_0 : decode prog_4_method_58_code 0 = .ok (.aload_n 0, 1) := by decide +kernel
theorem d23_1 : decode prog_4_method_58_code 1 = .ok (.getfield 11, 3) := by decide +kernel
theorem d23_4 : decode prog_4_method_58_code 4 = .ok (.iload_n 1, 1) := by decide +kernel
theorem d23_5 : decode prog_4_method_58_code 5 = .ok (.iaload, 1) := by decide +kernel
theorem d23_6 : decode prog_4_method_58_code 6 = .ok (.ldc 139, 2) := by decide +kernel
theorem d23_8 : decode prog_4_method_58_code 8 = .ok (.if_icmp .ne 7, 3) := by decide +kernel
theorem d23_11 : decode prog_4_method_58_code 11 = .ok (.iconst 1, 1) := by decide +kernel
theorem d23_12 : decode prog_4_method_58_code 12 = .ok (.goto 4, 3) := by decide +kernel
theorem d23_16 : decode prog_4_method_58_code 16 = .ok (.ireturn, 1) := by decide +kernel
theorem d23_15 : decode prog_4_method_58_code 15 = .ok (.iconst 0, 1) := by decide +kernel
theorem ef_24 (m : MethodId) (x0 : Addr) (x1 : Int32) : entryFrame m #[(.ref x0), (.int x1)] 2 = mkF m 0 #[.val (.ref x0), .val (.int x1)] [] := by first | (simp [entryFrame, mkF, argsToLocals, Value.category]; done) | rfl
theorem d24_0 : decode prog_4_method_60_code 0 = .ok (.aload_n 0, 1) := by decide +kernel
theorem d24_1 : decode prog_4_method_60_code 1 = .ok (.getfield 15, 3) := by decide +kernel
theorem d24_4 : decode prog_4_method_60_code 4 = .ok (.iload_n 1, 1) := by decide +kernel
theorem d24_5 : decode prog_4_method_60_code 5 = .ok (.iaload, 1) := by decide +kernel
theorem d24_6 : decode prog_4_method_60_code 6 = .ok (.ireturn, 1) := by decide +kernel
theorem ef_25 (m : MethodId) (x0 : Addr) (x1 : Int32) : entryFrame m #[(.ref x0), (.int x1)] 2 = mkF m 0 #[.val (.ref x0), .val (.int x1)] [] := by first | (simp [entryFrame, mkF, argsToLocals, Value.category]; done) | rfl
theorem d25_0 : decode prog_4_method_61_code 0 = .ok (.aload_n 0, 1) := by decide +kernel
theorem d25_1 : decode prog_4_method_61_code 1 = .ok (.getfield 18, 3) := by decide +kernel
theorem d25_4 : decode prog_4_method_61_code 4 = .ok (.iload_n 1, 1) := by decide +kernel
theorem d25_5 : decode prog_4_method_61_code 5 = .ok (.iaload, 1) := by decide +kernel
theorem d25_6 : decode prog_4_method_61_code 6 = .ok (.ireturn, 1) := by decide +kernel
theorem ef_10 (m : MethodId) (x0 : Addr) (x1 : Int32) : entryFrame m #[(.ref x0), (.int x1)] 4 = mkF m 0 #[.val (.ref x0), .val (.int x1), .unset, .unset] [] := by first | (simp [entryFrame, mkF, argsToLocals, Value.category]; done) | rfl
theorem pn_java_util_Arrays : plainName "java/util/Arrays" = true := by first | (simp [plainName, overriddenIn]; done) | decide +kernel
theorem d10_0 : decode jdk_65_method_103_code 0 = .ok (.iconst 0, 1) := by decide +kernel
theorem d10_1 : decode jdk_65_method_103_code 1 = .ok (.istore_n 2, 1) := by decide +kernel
theorem d10_2 : decode jdk_65_method_103_code 2 = .ok (.aload_n 0, 1) := by decide +kernel
theorem d10_3 : decode jdk_65_method_103_code 3 = .ok (.arraylength, 1) := by decide +kernel
theorem d10_4 : decode jdk_65_method_103_code 4 = .ok (.istore_n 3, 1) := by decide +kernel
theorem d10_5 : decode jdk_65_method_103_code 5 = .ok (.iload_n 2, 1) := by decide +kernel
theorem d10_6 : decode jdk_65_method_103_code 6 = .ok (.iload_n 3, 1) := by decide +kernel
theorem d10_7 : decode jdk_65_method_103_code 7 = .ok (.if_icmp .ge 13, 3) := by decide +kernel
theorem d10_20 : decode jdk_65_method_103_code 20 = .ok (.return_, 1) := by decide +kernel
theorem d10_10 : decode jdk_65_method_103_code 10 = .ok (.aload_n 0, 1) := by decide +kernel
theorem d10_11 : decode jdk_65_method_103_code 11 = .ok (.iload_n 2, 1) := by decide +kernel
theorem d10_12 : decode jdk_65_method_103_code 12 = .ok (.iload_n 1, 1) := by decide +kernel
theorem d10_13 : decode jdk_65_method_103_code 13 = .ok (.iastore, 1) := by decide +kernel
theorem d10_14 : decode jdk_65_method_103_code 14 = .ok (.iinc 2 1, 3) := by decide +kernel
theorem d10_17 : decode jdk_65_method_103_code 17 = .ok (.goto (-12), 3) := by decide +kernel
theorem ef_9 (m : MethodId) (x0 : Int32) : entryFrame m #[(.int x0)] 2 = mkF m 0 #[.val (.int x0), .unset] [] := by first | (simp [entryFrame, mkF, argsToLocals, Value.category]; done) | rfl
theorem d9_0 : decode prog_4_method_82_code 0 = .ok (.iload_n 0, 1) := by decide +kernel
theorem d9_1 : decode prog_4_method_82_code 1 = .ok (.newarray .int, 2) := by decide +kernel
theorem d9_3 : decode prog_4_method_82_code 3 = .ok (.astore_n 1, 1) := by decide +kernel
theorem d9_4 : decode prog_4_method_82_code 4 = .ok (.aload_n 1, 1) := by decide +kernel
theorem d9_5 : decode prog_4_method_82_code 5 = .ok (.iconst (-1), 1) := by decide +kernel
theorem d9_6 : decode prog_4_method_82_code 6 = .ok (.invokestatic 360, 3) := by decide +kernel
theorem pd__28_5bII_29V : parseMethodDescriptor "([II)V" = some ⟨[(.array .int), .int], none⟩ := by decide +kernel
theorem d9_9 : decode prog_4_method_82_code 9 = .ok (.aload_n 1, 1) := by decide +kernel
theorem d9_10 : decode prog_4_method_82_code 10 = .ok (.areturn, 1) := by decide +kernel
theorem ef_6 (m : MethodId) (x0 : Addr) : entryFrame m #[(.ref x0)] 1 = mkF m 0 #[.val (.ref x0)] [] := by first | (simp [entryFrame, mkF, argsToLocals, Value.category]; done) | rfl
theorem pn_java_util_AbstractCollection : plainName "java/util/AbstractCollection" = true := by first | (simp [plainName, overriddenIn]; done) | decide +kernel
theorem d6_0 : decode jdk_22_method_1_code 0 = .ok (.aload_n 0, 1) := by decide +kernel
theorem d6_1 : decode jdk_22_method_1_code 1 = .ok (.invokespecial 1, 3) := by decide +kernel
theorem d6_4 : decode jdk_22_method_1_code 4 = .ok (.return_, 1) := by decide +kernel
theorem ef_8 (m : MethodId) (x0 : Addr) : entryFrame m #[(.ref x0)] 1 = mkF m 0 #[.val (.ref x0)] [] := by first | (simp [entryFrame, mkF, argsToLocals, Value.category]; done) | rfl
theorem pn_java_util_AbstractMap : plainName "java/util/AbstractMap" = true := by first | (simp [plainName, overriddenIn]; done) | decide +kernel
theorem d8_0 : decode jdk_71_method_1_code 0 = .ok (.aload_n 0, 1) := by decide +kernel
theorem d8_1 : decode jdk_71_method_1_code 1 = .ok (.invokespecial 1, 3) := by decide +kernel
theorem d8_4 : decode jdk_71_method_1_code 4 = .ok (.return_, 1) := by decide +kernel
theorem ef_5 (m : MethodId) (x0 : Addr) : entryFrame m #[(.ref x0)] 1 = mkF m 0 #[.val (.ref x0)] [] := by first | (simp [entryFrame, mkF, argsToLocals, Value.category]; done) | rfl
theorem pn_java_util_AbstractList : plainName "java/util/AbstractList" = true := by first | (simp [plainName, overriddenIn]; done) | decide +kernel
theorem d5_0 : decode jdk_39_method_1_code 0 = .ok (.aload_n 0, 1) := by decide +kernel
theorem d5_1 : decode jdk_39_method_1_code 1 = .ok (.invokespecial 1, 3) := by decide +kernel
theorem pd__28_29V : parseMethodDescriptor "()V" = some ⟨[], none⟩ := by decide +kernel
theorem d5_4 : decode jdk_39_method_1_code 4 = .ok (.aload_n 0, 1) := by decide +kernel
theorem d5_5 : decode jdk_39_method_1_code 5 = .ok (.iconst 0, 1) := by decide +kernel
theorem d5_6 : decode jdk_39_method_1_code 6 = .ok (.putfield 7, 3) := by decide +kernel
theorem d5_9 : decode jdk_39_method_1_code 9 = .ok (.return_, 1) := by decide +kernel
theorem ef_4 (m : MethodId) (x0 : Addr) : entryFrame m #[(.ref x0)] 1 = mkF m 0 #[.val (.ref x0)] [] := by first | (simp [entryFrame, mkF, argsToLocals, Value.category]; done) | rfl
theorem pn_java_util_ArrayList : plainName "java/util/ArrayList" = true := by first | (simp [plainName, overriddenIn]; done) | decide +kernel
theorem d4_0 : decode jdk_38_method_2_code 0 = .ok (.aload_n 0, 1) := by decide +kernel
theorem d4_1 : decode jdk_38_method_2_code 1 = .ok (.invokespecial 1, 3) := by decide +kernel
theorem d4_4 : decode jdk_38_method_2_code 4 = .ok (.aload_n 0, 1) := by decide +kernel
theorem d4_5 : decode jdk_38_method_2_code 5 = .ok (.getstatic 39, 3) := by decide +kernel
theorem d4_8 : decode jdk_38_method_2_code 8 = .ok (.putfield 9, 3) := by decide +kernel
theorem d4_11 : decode jdk_38_method_2_code 11 = .ok (.return_, 1) := by decide +kernel
theorem ef_7 (m : MethodId) (x0 : Addr) : entryFrame m #[(.ref x0)] 1 = mkF m 0 #[.val (.ref x0)] [] := by first | (simp [entryFrame, mkF, argsToLocals, Value.category]; done) | rfl
theorem pn_java_util_HashMap : plainName "java/util/HashMap" = true := by first | (simp [plainName, overriddenIn]; done) | decide +kernel
theorem d7_0 : decode jdk_69_method_7_code 0 = .ok (.aload_n 0, 1) := by decide +kernel
theorem d7_1 : decode jdk_69_method_7_code 1 = .ok (.invokespecial 43, 3) := by decide +kernel
theorem d7_4 : decode jdk_69_method_7_code 4 = .ok (.aload_n 0, 1) := by decide +kernel
theorem d7_5 : decode jdk_69_method_7_code 5 = .ok (.ldc 92, 2) := by decide +kernel
theorem d7_7 : decode jdk_69_method_7_code 7 = .ok (.putfield 81, 3) := by decide +kernel
theorem d7_10 : decode jdk_69_method_7_code 10 = .ok (.return_, 1) := by decide +kernel
theorem ef_3 (m : MethodId) (x0 : Addr) : entryFrame m #[(.ref x0)] 1 = mkF m 0 #[.val (.ref x0)] [] := by first | (simp [entryFrame, mkF, argsToLocals, Value.category]; done) | rfl
theorem pn_com_example_horizonte_horizonte_dd_Terms : plainName "com/example/horizonte/horizonte/dd/Terms" = true := by first | (simp [plainName, overriddenIn]; done) | decide +kernel
theorem d3_0 : decode prog_15_method_1_code 0 = .ok (.aload_n 0, 1) := by decide +kernel
theorem d3_1 : decode prog_15_method_1_code 1 = .ok (.invokespecial 1, 3) := by decide +kernel
theorem d3_4 : decode prog_15_method_1_code 4 = .ok (.aload_n 0, 1) := by decide +kernel
theorem d3_5 : decode prog_15_method_1_code 5 = .ok (.new 7, 3) := by decide +kernel
theorem d3_8 : decode prog_15_method_1_code 8 = .ok (.dup, 1) := by decide +kernel
theorem d3_9 : decode prog_15_method_1_code 9 = .ok (.invokespecial 9, 3) := by decide +kernel
theorem d3_12 : decode prog_15_method_1_code 12 = .ok (.putfield 10, 3) := by decide +kernel
theorem d3_15 : decode prog_15_method_1_code 15 = .ok (.aload_n 0, 1) := by decide +kernel
theorem d3_16 : decode prog_15_method_1_code 16 = .ok (.new 7, 3) := by decide +kernel
theorem d3_19 : decode prog_15_method_1_code 19 = .ok (.dup, 1) := by decide +kernel
theorem d3_20 : decode prog_15_method_1_code 20 = .ok (.invokespecial 9, 3) := by decide +kernel
theorem d3_23 : decode prog_15_method_1_code 23 = .ok (.putfield 16, 3) := by decide +kernel
theorem d3_26 : decode prog_15_method_1_code 26 = .ok (.aload_n 0, 1) := by decide +kernel
theorem d3_27 : decode prog_15_method_1_code 27 = .ok (.new 7, 3) := by decide +kernel
theorem d3_30 : decode prog_15_method_1_code 30 = .ok (.dup, 1) := by decide +kernel
theorem d3_31 : decode prog_15_method_1_code 31 = .ok (.invokespecial 9, 3) := by decide +kernel
theorem d3_34 : decode prog_15_method_1_code 34 = .ok (.putfield 19, 3) := by decide +kernel
theorem d3_37 : decode prog_15_method_1_code 37 = .ok (.aload_n 0, 1) := by decide +kernel
theorem d3_38 : decode prog_15_method_1_code 38 = .ok (.new 22, 3) := by decide +kernel
theorem d3_41 : decode prog_15_method_1_code 41 = .ok (.dup, 1) := by decide +kernel
theorem d3_42 : decode prog_15_method_1_code 42 = .ok (.invokespecial 24, 3) := by decide +kernel
theorem d3_45 : decode prog_15_method_1_code 45 = .ok (.putfield 25, 3) := by decide +kernel
theorem d3_48 : decode prog_15_method_1_code 48 = .ok (.aload_n 0, 1) := by decide +kernel
theorem d3_49 : decode prog_15_method_1_code 49 = .ok (.iconst 0, 1) := by decide +kernel
theorem d3_50 : decode prog_15_method_1_code 50 = .ok (.newarray .int, 2) := by decide +kernel
theorem d3_52 : decode prog_15_method_1_code 52 = .ok (.putfield 29, 3) := by decide +kernel
theorem d3_55 : decode prog_15_method_1_code 55 = .ok (.aload_n 0, 1) := by decide +kernel
theorem d3_56 : decode prog_15_method_1_code 56 = .ok (.new 7, 3) := by decide +kernel
theorem d3_59 : decode prog_15_method_1_code 59 = .ok (.dup, 1) := by decide +kernel
theorem d3_60 : decode prog_15_method_1_code 60 = .ok (.invokespecial 9, 3) := by decide +kernel
theorem d3_63 : decode prog_15_method_1_code 63 = .ok (.putfield 33, 3) := by decide +kernel
theorem d3_66 : decode prog_15_method_1_code 66 = .ok (.aload_n 0, 1) := by decide +kernel
theorem d3_67 : decode prog_15_method_1_code 67 = .ok (.new 22, 3) := by decide +kernel
theorem d3_70 : decode prog_15_method_1_code 70 = .ok (.dup, 1) := by decide +kernel
theorem d3_71 : decode prog_15_method_1_code 71 = .ok (.invokespecial 24, 3) := by decide +kernel
theorem d3_74 : decode prog_15_method_1_code 74 = .ok (.putfield 36, 3) := by decide +kernel
theorem d3_77 : decode prog_15_method_1_code 77 = .ok (.return_, 1) := by decide +kernel
theorem ef_1 (m : MethodId) (x0 : Addr) : entryFrame m #[(.ref x0)] 1 = mkF m 0 #[.val (.ref x0)] [] := by first | (simp [entryFrame, mkF, argsToLocals, Value.category]; done) | rfl
theorem d1_0 : decode prog_4_method_1_code 0 = .ok (.aload_n 0, 1) := by decide +kernel
theorem d1_1 : decode prog_4_method_1_code 1 = .ok (.invokespecial 3, 3) := by decide +kernel
theorem d1_4 : decode prog_4_method_1_code 4 = .ok (.aload_n 0, 1) := by decide +kernel
theorem d1_5 : decode prog_4_method_1_code 5 = .ok (.sipush 1024, 3) := by decide +kernel
theorem d1_8 : decode prog_4_method_1_code 8 = .ok (.newarray .int, 2) := by decide +kernel
theorem d1_10 : decode prog_4_method_1_code 10 = .ok (.putfield 11, 3) := by decide +kernel
theorem d1_13 : decode prog_4_method_1_code 13 = .ok (.aload_n 0, 1) := by decide +kernel
theorem d1_14 : decode prog_4_method_1_code 14 = .ok (.sipush 1024, 3) := by decide +kernel
theorem d1_17 : decode prog_4_method_1_code 17 = .ok (.newarray .int, 2) := by decide +kernel
theorem d1_19 : decode prog_4_method_1_code 19 = .ok (.putfield 15, 3) := by decide +kernel
theorem d1_22 : decode prog_4_method_1_code 22 = .ok (.aload_n 0, 1) := by decide +kernel
theorem d1_23 : decode prog_4_method_1_code 23 = .ok (.sipush 1024, 3) := by decide +kernel
theorem d1_26 : decode prog_4_method_1_code 26 = .ok (.newarray .int, 2) := by decide +kernel
theorem d1_28 : decode prog_4_method_1_code 28 = .ok (.putfield 18, 3) := by decide +kernel
theorem d1_31 : decode prog_4_method_1_code 31 = .ok (.aload_n 0, 1) := by decide +kernel
theorem d1_32 : decode prog_4_method_1_code 32 = .ok (.sipush 1024, 3) := by decide +kernel
theorem d1_35 : decode prog_4_method_1_code 35 = .ok (.newarray .double, 2) := by decide +kernel
theorem d1_37 : decode prog_4_method_1_code 37 = .ok (.putfield 21, 3) := by decide +kernel
theorem d1_40 : decode prog_4_method_1_code 40 = .ok (.aload_n 0, 1) := by decide +kernel
theorem d1_41 : decode prog_4_method_1_code 41 = .ok (.new 25, 3) := by decide +kernel
theorem d1_44 : decode prog_4_method_1_code 44 = .ok (.dup, 1) := by decide +kernel
theorem d1_45 : decode prog_4_method_1_code 45 = .ok (.invokespecial 27, 3) := by decide +kernel
theorem d1_48 : decode prog_4_method_1_code 48 = .ok (.putfield 28, 3) := by decide +kernel
theorem d1_51 : decode prog_4_method_1_code 51 = .ok (.aload_n 0, 1) := by decide +kernel
theorem d1_52 : decode prog_4_method_1_code 52 = .ok (.sipush 2048, 3) := by decide +kernel
theorem d1_55 : decode prog_4_method_1_code 55 = .ok (.invokestatic 32, 3) := by decide +kernel
theorem pd__28I_29_5bI : parseMethodDescriptor "(I)[I" = some ⟨[.int], some (.array .int)⟩ := by decide +kernel
theorem d1_58 : decode prog_4_method_1_code 58 = .ok (.putfield 36, 3) := by decide +kernel
theorem d1_61 : decode prog_4_method_1_code 61 = .ok (.aload_n 0, 1) := by decide +kernel
theorem d1_62 : decode prog_4_method_1_code 62 = .ok (.sipush 1024, 3) := by decide +kernel
theorem d1_65 : decode prog_4_method_1_code 65 = .ok (.invokestatic 32, 3) := by decide +kernel
theorem d1_68 : decode prog_4_method_1_code 68 = .ok (.putfield 39, 3) := by decide +kernel
theorem d1_71 : decode prog_4_method_1_code 71 = .ok (.aload_n 0, 1) := by decide +kernel
theorem d1_72 : decode prog_4_method_1_code 72 = .ok (.sipush 1024, 3) := by decide +kernel
theorem d1_75 : decode prog_4_method_1_code 75 = .ok (.newarray .int, 2) := by decide +kernel
theorem d1_77 : decode prog_4_method_1_code 77 = .ok (.putfield 42, 3) := by decide +kernel
theorem d1_80 : decode prog_4_method_1_code 80 = .ok (.aload_n 0, 1) := by decide +kernel
theorem d1_81 : decode prog_4_method_1_code 81 = .ok (.sipush 1024, 3) := by decide +kernel
theorem d1_84 : decode prog_4_method_1_code 84 = .ok (.newarray .int, 2) := by decide +kernel
theorem d1_86 : decode prog_4_method_1_code 86 = .ok (.putfield 45, 3) := by decide +kernel
theorem d1_89 : decode prog_4_method_1_code 89 = .ok (.aload_n 0, 1) := by decide +kernel
theorem d1_90 : decode prog_4_method_1_code 90 = .ok (.sipush 1024, 3) := by decide +kernel
theorem d1_93 : decode prog_4_method_1_code 93 = .ok (.newarray .int, 2) := by decide +kernel
theorem d1_95 : decode prog_4_method_1_code 95 = .ok (.putfield 48, 3) := by decide +kernel
theorem d1_98 : decode prog_4_method_1_code 98 = .ok (.aload_n 0, 1) := by decide +kernel
theorem d1_99 : decode prog_4_method_1_code 99 = .ok (.sipush 1024, 3) := by decide +kernel
theorem d1_102 : decode prog_4_method_1_code 102 = .ok (.newarray .int, 2) := by decide +kernel
theorem d1_104 : decode prog_4_method_1_code 104 = .ok (.putfield 51, 3) := by decide +kernel
theorem d1_107 : decode prog_4_method_1_code 107 = .ok (.aload_n 0, 1) := by decide +kernel
theorem d1_108 : decode prog_4_method_1_code 108 = .ok (.sipush 1024, 3) := by decide +kernel
theorem d1_111 : decode prog_4_method_1_code 111 = .ok (.newarray .double, 2) := by decide +kernel
theorem d1_113 : decode prog_4_method_1_code 113 = .ok (.putfield 54, 3) := by decide +kernel
theorem d1_116 : decode prog_4_method_1_code 116 = .ok (.aload_n 0, 1) := by decide +kernel
theorem d1_117 : decode prog_4_method_1_code 117 = .ok (.sipush 2048, 3) := by decide +kernel
theorem d1_120 : decode prog_4_method_1_code 120 = .ok (.newarray .int, 2) := by decide +kernel
theorem d1_122 : decode prog_4_method_1_code 122 = .ok (.putfield 57, 3) := by decide +kernel
theorem d1_125 : decode prog_4_method_1_code 125 = .ok (.aload_n 0, 1) := by decide +kernel
theorem d1_126 : decode prog_4_method_1_code 126 = .ok (.aload_n 0, 1) := by decide +kernel
theorem d1_127 : decode prog_4_method_1_code 127 = .ok (.dconst 0, 1) := by decide +kernel
theorem d1_128 : decode prog_4_method_1_code 128 = .ok (.invokevirtual 60, 3) := by decide +kernel
theorem d1_131 : decode prog_4_method_1_code 131 = .ok (.putfield 64, 3) := by decide +kernel
theorem d1_134 : decode prog_4_method_1_code 134 = .ok (.aload_n 0, 1) := by decide +kernel
theorem d1_135 : decode prog_4_method_1_code 135 = .ok (.aload_n 0, 1) := by decide +kernel
theorem d1_136 : decode prog_4_method_1_code 136 = .ok (.dconst 1, 1) := by decide +kernel
theorem d1_137 : decode prog_4_method_1_code 137 = .ok (.invokevirtual 60, 3) := by decide +kernel
theorem d1_140 : decode prog_4_method_1_code 140 = .ok (.putfield 68, 3) := by decide +kernel
theorem d1_143 : decode prog_4_method_1_code 143 = .ok (.return_, 1) := by decide +kernel
theorem ef_0 (m : MethodId) (x0 : Int32) (x1 : Int32) (x2 : Int32) : entryFrame m #[(.int x0), (.int x1), (.int x2)] maxLocals = mkF m 0 #[.val (.int x0), .val (.int x1), .val (.int x2), .unset, .unset, .unset, .unset, .unset, .unset, .unset] [] := by first | (simp [entryFrame, mkF, argsToLocals, Value.category, maxLocals]; done) | rfl
theorem pn_com_example_horizonte_horizonte_dd_DecisionDiagramsIsLeafPinLaw : plainName "com/example/horizonte/horizonte/dd/DecisionDiagramsIsLeafPinLaw" = true := by first | (simp [plainName, overriddenIn]; done) | decide +kernel
theorem pd__28I_29I : parseMethodDescriptor "(I)I" = some ⟨[.int], some .int⟩ := by decide +kernel
theorem pd__28I_29Z : parseMethodDescriptor "(I)Z" = some ⟨[.int], some .boolean⟩ := by decide +kernel
def Q17 (Z : State)  (h0 : Heap) (n0 : Nat) (v : Option Value) (h : Heap) (L : List Loc) : Prop := v = some (.int 0) ∧ Fr n0 L ∧ h = h0
set_option maxRecDepth 65536 in
set_option maxHeartbeats 40000000 in
theorem rm17 (l : Launch) (Z : State) (a0 : Array Value) (hw : ∀ d ∈ tables_1, d.before a0 Z = true) (ws : List Jvm.Cond) (d1 : UInt64)  (h0 : Heap) (n0 : Nat) (Z0 : n0 ≤ h0.size) (hx1 : NoNaN64 d1) :
    MetFree l (⟨"java/lang/Double", "isNaN", "(D)Z"⟩ : MethodName) (head1 (Jvm.Cond.code (⟨"java/lang/Double", "isNaN", "(D)Z"⟩ : MethodName) jdk_117_method_6_code 2 (some .boolean) :: ws) ({ frames := 0, cells := 0, slots := 0, locals := 0 } : Room)) (fun a U => a = #[(.double d1)] ∧ Z.Warmed39 U.vm ∧ U.heap = h0) (fun _ _ _ _ _ => True) (fun _ U o U' => ∃ v L, o = .returned v ∧ Q17 Z  h0 n0 v U'.heap L ∧ FrameEnd U o U' L ({ frames := 0, cells := 0, slots := 0, locals := 0 } : Room).cells ({ frames := 0, cells := 0, slots := 0, locals := 0 } : Room).slots) := by
  refine MetFree.of_bodySF (plainFor_of_name pn_java_lang_Double) hisR ?_
  intro p e s m args below meth c s₁ Bd hml0 hP hK
  obtain ⟨rfl, hZ, hh⟩ := hP
  have hlk : meth.locks = false := by first | exact BodyLoose.notSynchronized Bd | exact Body.notSynchronized Bd
  have hx := Bd.exec
  have hby := Bd.bytes
  have hml : c.maxLocals = 2 := hml0
  have hown : s.vm.findClass "java/lang/Double" = some m.cls := findClass_of_methodNamed Bd.named
  have hnm := (name_of_methodNamed Bd.named Bd.method).1
  have X0 : Stand p l e ({ frames := 0, cells := 0, slots := 0, locals := 0 } : Room) s m #[(.double d1)] below meth c s₁ [] 0 0 := Stand.of_body Bd
  have e0 : s₁.heap = h0 := by rw [← hh, Bd.state]; rfl
  have N0 := Fr.nil n0
  refine own_open (fun G go fin => ?_)
  refine go (s₁.setTop (mkF m 0 #[.val (.double d1), .second] [])) _ (fun t9 k9 => castTop (ef_17 m d1) k9) ?_
  refine go (s₁.setTop (mkF m 11 #[.val (.double d1), .second] [(.int (0 : Int32))])) _ (fun t9 k9 => ?_) ?_
  · show Steps p.tables e below (s₁.setTop (mkF m 0 #[.val (.double d1), .second] [])) _
    refine XS.dloadN X0.here hx rfl (hb hby d17_0) rfl ?_
    show Steps p.tables e below (s₁.setTop (mkF m 1 #[.val (.double d1), .second] [(.double d1)])) _
    refine XS.dloadN X0.here hx rfl (hb hby d17_1) rfl ?_
    show Steps p.tables e below (s₁.setTop (mkF m 2 #[.val (.double d1), .second] [(.double d1), (.double d1)])) _
    refine XS.dcmpS X0.here hx rfl (hb hby d17_2) rfl (own_self0 hx1) ?_
    show Steps p.tables e below (s₁.setTop (mkF m 3 #[.val (.double d1), .second] [(.int (0 : Int32))])) _
    refine XS.ifYes X0.here hx rfl (pc0 := 3) (pc' := 10) rfl (hb hby d17_3) rfl ((if0 _ _).trans (teq (by decide : (0 : Int32) = (0 : Int32))).1) (by decide) (by decide) ?_
    show Steps p.tables e below (s₁.setTop (mkF m 10 #[.val (.double d1), .second] [])) _
    refine XS.iconst X0.here hx rfl (hb hby d17_10) ?_
    exact k9
  obtain ⟨fs, hr, hrun, hended, hW, hsame⟩ := X0.leave (v := some (.int (0 : Int32))) (fun h => by rw [Bd.returns] at h; cases h) hlk
  refine fin _ ⟨_, _, retN X0 hx (t := .boolean) Bd.returns (by simp) (hb hby d17_11) hr, hrun, hended, _, _, rfl, ?_, ⟨_, rfl⟩, hW, hsame.mono (by decide) (by decide)⟩
  show Q17 Z  h0 n0 _ s₁.heap _
  rw [e0]
  exact ⟨rfl, N0, rfl⟩
def Q16 (Z : State) (d1 : UInt64) (h0 : Heap) (n0 : Nat) (v : Option Value) (h : Heap) (L : List Loc) : Prop := v = some (.long d1.toInt64) ∧ Fr n0 L ∧ h = h0
set_option maxRecDepth 65536 in
set_option maxHeartbeats 40000000 in
theorem rm16 (l : Launch) (Z : State) (a0 : Array Value) (hw : ∀ d ∈ tables_1, d.before a0 Z = true) (ws : List Jvm.Cond) (d1 : UInt64)  (h0 : Heap) (n0 : Nat) (Z0 : n0 ≤ h0.size) (hx1 : NoNaN64 d1) :
    MetFree l (⟨"java/lang/Double", "doubleToLongBits", "(D)J"⟩ : MethodName) (head1 (Jvm.Cond.code (⟨"java/lang/Double", "doubleToLongBits", "(D)J"⟩ : MethodName) jdk_117_method_23_code 2 (some .long) :: ws) ({ frames := 1, cells := 0, slots := 0, locals := 15 } : Room)) (fun a U => a = #[(.double d1)] ∧ Z.Warmed39 U.vm ∧ U.heap = h0) (fun _ _ _ _ _ => True) (fun _ U o U' => ∃ v L, o = .returned v ∧ Q16 Z d1 h0 n0 v U'.heap L ∧ FrameEnd U o U' L ({ frames := 1, cells := 0, slots := 0, locals := 15 } : Room).cells ({ frames := 1, cells := 0, slots := 0, locals := 15 } : Room).slots) := by
  refine MetFree.of_bodySF (plainFor_of_name pn_java_lang_Double) hisR ?_
  intro p e s m args below meth c s₁ Bd hml0 hP hK
  obtain ⟨rfl, hZ, hh⟩ := hP
  have hlk : meth.locks = false := by first | exact BodyLoose.notSynchronized Bd | exact Body.notSynchronized Bd
  have hx := Bd.exec
  have hby := Bd.bytes
  have hml : c.maxLocals = 2 := hml0
  have hown : s.vm.findClass "java/lang/Double" = some m.cls := findClass_of_methodNamed Bd.named
  have hnm := (name_of_methodNamed Bd.named Bd.method).1
  have X0 : Stand p l e ({ frames := 1, cells := 0, slots := 0, locals := 15 } : Room) s m #[(.double d1)] below meth c s₁ [] 0 0 := Stand.of_body Bd
  have e0 : s₁.heap = h0 := by rw [← hh, Bd.state]; rfl
  have N0 := Fr.nil n0
  refine own_open (fun G go fin => ?_)
  refine go (s₁.setTop (mkF m 0 #[.val (.double d1), .second] [])) _ (fun t9 k9 => castTop (ef_16 m d1) k9) ?_
  refine go (s₁.setTop (mkF m 1 #[.val (.double d1), .second] [(.double d1)])) _ (fun t9 k9 => ?_) ?_
  · show Steps p.tables e below (s₁.setTop (mkF m 0 #[.val (.double d1), .second] [])) _
    refine XS.dloadN X0.here hx rfl (hb hby d16_0) rfl ?_
    exact k9
  obtain ⟨_, _, ⟨T1, L1, k1, n1⟩, -, X1, ⟨Lc1, hQ1, l1, y1, z1⟩, st1⟩ := Jvm.LawKit.callS X0 hx (y := (⟨"java/lang/Double", "isNaN", "(D)Z"⟩ : MethodName)) hown (mvT hZ (hw _ (List.mem_of_getElem? (i := 131) rfl))) (mvT hZ (hw _ (List.mem_of_getElem? (i := 132) rfl))) (mvT hZ (hw _ (List.mem_of_getElem? (i := 112) rfl))) (mvT hZ (hw _ (List.mem_of_getElem? (i := 133) rfl))) (by decide) (backOf (W := 0) (rm17 l Z a0 hw [] d1 h0 n0 Z0 hx1) hZ (hw _ (List.mem_of_getElem? (i := 133) rfl)) (hw _ (List.mem_of_getElem? (i := 112) rfl)) (by decide) (by decide)) (g := (mkF m 1 #[.val (.double d1), .second] [(.double d1)])) rfl (by rw [hml]; rfl) (argsL := [(.double d1)]) (rest := []) (lenOf pd__28D_29Z rfl) rfl (by show 2 * 0 + _ ≤ _; exact Nat.le_of_eq rfl) (hb hby d16_1) (fun _ _ => ⟨rfl, e0, (by decide : 0 + 0 ≤ _), (by decide : 0 + 0 ≤ _)⟩)
  dsimp only [Pt.U, Pt.locs, Pt.cells, Pt.slots] at X1 l1 y1 z1 st1 hQ1
  subst l1 y1 z1
  obtain ⟨rfl, N1q, e1q⟩ := hQ1
  have N1 := Fr.app N0 N1q
  refine go (T1.setTop (mkF m 4 #[.val (.double d1), .second] [(.int (0 : Int32))])) _ (fun t9 k9 => st1 _ k9) ?_
  refine go (T1.setTop (mkF m 8 #[.val (.double d1), .second] [(.double d1)])) _ (fun t9 k9 => ?_) ?_
  · show Steps p.tables e below (T1.setTop (mkF m 4 #[.val (.double d1), .second] [(.int (0 : Int32))])) _
    refine XS.ifNo X1.here hx rfl (hb hby d16_4) rfl ((if0 _ _).trans (teq (by decide : (0 : Int32) = (0 : Int32))).2) ?_
    show Steps p.tables e below (T1.setTop (mkF m 7 #[.val (.double d1), .second] [])) _
    refine XS.dloadN X1.here hx rfl (hb hby d16_7) rfl ?_
    exact k9
  obtain ⟨vm2, X2, st2⟩ := X1.doubleToRawLongBits hx hown (mvT hZ (hw _ (List.mem_of_getElem? (i := 134) rfl))) (mvT hZ (hw _ (List.mem_of_getElem? (i := 136) rfl))) (mvT hZ (hw _ (List.mem_of_getElem? (i := 135) rfl))) (mvT hZ (hw _ (List.mem_of_getElem? (i := 112) rfl))) (g := (mkF m 8 #[.val (.double d1), .second] [(.double d1)])) rfl (by rw [hml]; rfl) (rest := []) (b := d1) rfl (hb hby d16_8) (by decide) (by show 2 * 0 + 0 + (nativeFrameWords "java/lang/Double" "doubleToRawLongBits" 2 + 11) ≤ 15; decide +kernel)
  obtain ⟨T2, hT2⟩ : ∃ T, T = T1.setVm vm2 := ⟨_, rfl⟩
  rw [← hT2] at X2 st2
  have e2 : T2.heap = h0 := by rw [hT2]; exact e1q
  refine go (T2.setTop (mkF m 11 #[.val (.double d1), .second] [(.long (d1.toInt64))])) _ (fun t9 k9 => st2 _ k9) ?_
  obtain ⟨fs, hr, hrun, hended, hW, hsame⟩ := X2.leave (v := some (.long (d1.toInt64))) (fun h => by rw [Bd.returns] at h; cases h) hlk
  refine fin _ ⟨_, _, retOut X2 hx (t := .long) Bd.returns rfl (Or.inr (Or.inl ⟨rfl, rfl, _, rfl⟩)) (hb hby d16_11) hr, hrun, hended, _, _, rfl, ?_, ⟨_, rfl⟩, hW, hsame.mono (by decide) (by decide)⟩
  show Q16 Z d1 h0 n0 _ T2.heap _
  rw [e2]
  exact ⟨rfl, N1, rfl⟩
def Q18 (Z : State)  (h0 : Heap) (n0 : Nat) (v : Option Value) (h : Heap) (L : List Loc) : Prop := (∃ k : Int32, v = some (.int k)) ∧ Fr n0 L ∧ h = h0
set_option maxRecDepth 65536 in
set_option maxHeartbeats 40000000 in
theorem rm18 (l : Launch) (Z : State) (a0 : Array Value) (hw : ∀ d ∈ tables_1, d.before a0 Z = true) (ws : List Jvm.Cond) (p1 : Int32) (p2 : Int32) (p3 : Int32) (q4 : Int64)  (h0 : Heap) (n0 : Nat) (Z0 : n0 ≤ h0.size)  :
    MetFree l (⟨"com/example/horizonte/horizonte/dd/DecisionDiagrams", "hash", "(IIIJ)I"⟩ : MethodName) (head1 (Jvm.Cond.code (⟨"com/example/horizonte/horizonte/dd/DecisionDiagrams", "hash", "(IIIJ)I"⟩ : MethodName) prog_4_method_81_code 7 (some .int) :: ws) ({ frames := 0, cells := 0, slots := 0, locals := 0 } : Room)) (fun a U => a = #[(.int p1), (.int p2), (.int p3), (.long q4)] ∧ Z.Warmed39 U.vm ∧ U.heap = h0) (fun _ _ _ _ _ => True) (fun _ U o U' => ∃ v L, o = .returned v ∧ Q18 Z  h0 n0 v U'.heap L ∧ FrameEnd U o U' L ({ frames := 0, cells := 0, slots := 0, locals := 0 } : Room).cells ({ frames := 0, cells := 0, slots := 0, locals := 0 } : Room).slots) := by
  refine MetFree.of_bodySF (plainFor_of_name pn_com_example_horizonte_horizonte_dd_DecisionDiagrams) hisR ?_
  intro p e s m args below meth c s₁ Bd hml0 hP hK
  obtain ⟨rfl, hZ, hh⟩ := hP
  have hlk : meth.locks = false := by first | exact BodyLoose.notSynchronized Bd | exact Body.notSynchronized Bd
  have hx := Bd.exec
  have hby := Bd.bytes
  have hml : c.maxLocals = 7 := hml0
  have hown : s.vm.findClass "com/example/horizonte/horizonte/dd/DecisionDiagrams" = some m.cls := findClass_of_methodNamed Bd.named
  have hnm := (name_of_methodNamed Bd.named Bd.method).1
  have X0 : Stand p l e ({ frames := 0, cells := 0, slots := 0, locals := 0 } : Room) s m #[(.int p1), (.int p2), (.int p3), (.long q4)] below meth c s₁ [] 0 0 := Stand.of_body Bd
  have e0 : s₁.heap = h0 := by rw [← hh, Bd.state]; rfl
  have N0 := Fr.nil n0
  refine own_open (fun G go fin => ?_)
  refine go (s₁.setTop (mkF m 0 #[.val (.int p1), .val (.int p2), .val (.int p3), .val (.long q4), .second, .unset, .unset] [])) _ (fun t9 k9 => castTop (ef_18 m p1 p2 p3 q4) k9) ?_
  refine go (s₁.setTop (mkF m 8 #[.val (.int p1), .val (.int p2), .val (.int p3), .val (.long q4), .second, .val (.long ((p1.toInt64) * (-7046029254386353131 : Int64))), .second] [])) _ (fun t9 k9 => ?_) ?_
  · show Steps p.tables e below (s₁.setTop (mkF m 0 #[.val (.int p1), .val (.int p2), .val (.int p3), .val (.long q4), .second, .unset, .unset] [])) _
    refine XS.iloadN X0.here hx rfl (hb hby d18_0) rfl ?_
    show Steps p.tables e below (s₁.setTop (mkF m 1 #[.val (.int p1), .val (.int p2), .val (.int p3), .val (.long q4), .second, .unset, .unset] [(.int p1)])) _
    refine XS.i2l X0.here hx rfl (hb hby d18_1) rfl ?_
    show Steps p.tables e below (s₁.setTop (mkF m 2 #[.val (.int p1), .val (.int p2), .val (.int p3), .val (.long q4), .second, .unset, .unset] [(.long (p1.toInt64))])) _
    refine X0.ldc2Long hx hown (mvT hZ (hw _ (List.mem_of_getElem? (i := 140) rfl))) (g := (mkF m 2 #[.val (.int p1), .val (.int p2), .val (.int p3), .val (.long q4), .second, .unset, .unset] [(.long (p1.toInt64))])) rfl (hb hby d18_2) _ ?_
    show Steps p.tables e below (s₁.setTop (mkF m 5 #[.val (.int p1), .val (.int p2), .val (.int p3), .val (.long q4), .second, .unset, .unset] [(.long (-7046029254386353131 : Int64)), (.long (p1.toInt64))])) _
    refine XS.lmul X0.here hx rfl (hb hby d18_5) rfl ?_
    show Steps p.tables e below (s₁.setTop (mkF m 6 #[.val (.int p1), .val (.int p2), .val (.int p3), .val (.long q4), .second, .unset, .unset] [(.long ((p1.toInt64) * (-7046029254386353131 : Int64)))])) _
    refine XS.lstore X0.here hx rfl (hb hby d18_6) rfl (l' := #[.val (.int p1), .val (.int p2), .val (.int p3), .val (.long q4), .second, .val (.long ((p1.toInt64) * (-7046029254386353131 : Int64))), .second]) rfl ?_
    exact k9
  generalize hx1 : ((p1.toInt64) * (-7046029254386353131 : Int64)) = x1
  refine go (s₁.setTop (mkF m 19 #[.val (.int p1), .val (.int p2), .val (.int p3), .val (.long q4), .second, .val (.long ((x1 ^^^ (p2.toInt64)) * (-4658895280553007687 : Int64))), .second] [])) _ (fun t9 k9 => ?_) ?_
  · show Steps p.tables e below (s₁.setTop (mkF m 8 #[.val (.int p1), .val (.int p2), .val (.int p3), .val (.long q4), .second, .val (.long x1), .second] [])) _
    refine XS.lload X0.here hx rfl (hb hby d18_8) rfl ?_
    show Steps p.tables e below (s₁.setTop (mkF m 10 #[.val (.int p1), .val (.int p2), .val (.int p3), .val (.long q4), .second, .val (.long x1), .second] [(.long x1)])) _
    refine XS.iloadN X0.here hx rfl (hb hby d18_10) rfl ?_
    show Steps p.tables e below (s₁.setTop (mkF m 11 #[.val (.int p1), .val (.int p2), .val (.int p3), .val (.long q4), .second, .val (.long x1), .second] [(.int p2), (.long x1)])) _
    refine XS.i2l X0.here hx rfl (hb hby d18_11) rfl ?_
    show Steps p.tables e below (s₁.setTop (mkF m 12 #[.val (.int p1), .val (.int p2), .val (.int p3), .val (.long q4), .second, .val (.long x1), .second] [(.long (p2.toInt64)), (.long x1)])) _
    refine XS.lxor X0.here hx rfl (hb hby d18_12) rfl ?_
    show Steps p.tables e below (s₁.setTop (mkF m 13 #[.val (.int p1), .val (.int p2), .val (.int p3), .val (.long q4), .second, .val (.long x1), .second] [(.long (x1 ^^^ (p2.toInt64)))])) _
    refine X0.ldc2Long hx hown (mvT hZ (hw _ (List.mem_of_getElem? (i := 141) rfl))) (g := (mkF m 13 #[.val (.int p1), .val (.int p2), .val (.int p3), .val (.long q4), .second, .val (.long x1), .second] [(.long (x1 ^^^ (p2.toInt64)))])) rfl (hb hby d18_13) _ ?_
    show Steps p.tables e below (s₁.setTop (mkF m 16 #[.val (.int p1), .val (.int p2), .val (.int p3), .val (.long q4), .second, .val (.long x1), .second] [(.long (-4658895280553007687 : Int64)), (.long (x1 ^^^ (p2.toInt64)))])) _
    refine XS.lmul X0.here hx rfl (hb hby d18_16) rfl ?_
    show Steps p.tables e below (s₁.setTop (mkF m 17 #[.val (.int p1), .val (.int p2), .val (.int p3), .val (.long q4), .second, .val (.long x1), .second] [(.long ((x1 ^^^ (p2.toInt64)) * (-4658895280553007687 : Int64)))])) _
    refine XS.lstore X0.here hx rfl (hb hby d18_17) rfl (l' := #[.val (.int p1), .val (.int p2), .val (.int p3), .val (.long q4), .second, .val (.long ((x1 ^^^ (p2.toInt64)) * (-4658895280553007687 : Int64))), .second]) rfl ?_
    exact k9
  generalize hx2 : ((x1 ^^^ (p2.toInt64)) * (-4658895280553007687 : Int64)) = x2
  refine go (s₁.setTop (mkF m 30 #[.val (.int p1), .val (.int p2), .val (.int p3), .val (.long q4), .second, .val (.long ((x2 ^^^ (p3.toInt64)) * (-7723592293110705685 : Int64))), .second] [])) _ (fun t9 k9 => ?_) ?_
  · show Steps p.tables e below (s₁.setTop (mkF m 19 #[.val (.int p1), .val (.int p2), .val (.int p3), .val (.long q4), .second, .val (.long x2), .second] [])) _
    refine XS.lload X0.here hx rfl (hb hby d18_19) rfl ?_
    show Steps p.tables e below (s₁.setTop (mkF m 21 #[.val (.int p1), .val (.int p2), .val (.int p3), .val (.long q4), .second, .val (.long x2), .second] [(.long x2)])) _
    refine XS.iloadN X0.here hx rfl (hb hby d18_21) rfl ?_
    show Steps p.tables e below (s₁.setTop (mkF m 22 #[.val (.int p1), .val (.int p2), .val (.int p3), .val (.long q4), .second, .val (.long x2), .second] [(.int p3), (.long x2)])) _
    refine XS.i2l X0.here hx rfl (hb hby d18_22) rfl ?_
    show Steps p.tables e below (s₁.setTop (mkF m 23 #[.val (.int p1), .val (.int p2), .val (.int p3), .val (.long q4), .second, .val (.long x2), .second] [(.long (p3.toInt64)), (.long x2)])) _
    refine XS.lxor X0.here hx rfl (hb hby d18_23) rfl ?_
    show Steps p.tables e below (s₁.setTop (mkF m 24 #[.val (.int p1), .val (.int p2), .val (.int p3), .val (.long q4), .second, .val (.long x2), .second] [(.long (x2 ^^^ (p3.toInt64)))])) _
    refine X0.ldc2Long hx hown (mvT hZ (hw _ (List.mem_of_getElem? (i := 142) rfl))) (g := (mkF m 24 #[.val (.int p1), .val (.int p2), .val (.int p3), .val (.long q4), .second, .val (.long x2), .second] [(.long (x2 ^^^ (p3.toInt64)))])) rfl (hb hby d18_24) _ ?_
    show Steps p.tables e below (s₁.setTop (mkF m 27 #[.val (.int p1), .val (.int p2), .val (.int p3), .val (.long q4), .second, .val (.long x2), .second] [(.long (-7723592293110705685 : Int64)), (.long (x2 ^^^ (p3.toInt64)))])) _
    refine XS.lmul X0.here hx rfl (hb hby d18_27) rfl ?_
    show Steps p.tables e below (s₁.setTop (mkF m 28 #[.val (.int p1), .val (.int p2), .val (.int p3), .val (.long q4), .second, .val (.long x2), .second] [(.long ((x2 ^^^ (p3.toInt64)) * (-7723592293110705685 : Int64)))])) _
    refine XS.lstore X0.here hx rfl (hb hby d18_28) rfl (l' := #[.val (.int p1), .val (.int p2), .val (.int p3), .val (.long q4), .second, .val (.long ((x2 ^^^ (p3.toInt64)) * (-7723592293110705685 : Int64))), .second]) rfl ?_
    exact k9
  generalize hx3 : ((x2 ^^^ (p3.toInt64)) * (-7723592293110705685 : Int64)) = x3
  refine go (s₁.setTop (mkF m 40 #[.val (.int p1), .val (.int p2), .val (.int p3), .val (.long q4), .second, .val (.long ((x3 ^^^ q4) * (-7046029254386353131 : Int64))), .second] [])) _ (fun t9 k9 => ?_) ?_
  · show Steps p.tables e below (s₁.setTop (mkF m 30 #[.val (.int p1), .val (.int p2), .val (.int p3), .val (.long q4), .second, .val (.long x3), .second] [])) _
    refine XS.lload X0.here hx rfl (hb hby d18_30) rfl ?_
    show Steps p.tables e below (s₁.setTop (mkF m 32 #[.val (.int p1), .val (.int p2), .val (.int p3), .val (.long q4), .second, .val (.long x3), .second] [(.long x3)])) _
    refine XS.lloadN X0.here hx rfl (hb hby d18_32) rfl ?_
    show Steps p.tables e below (s₁.setTop (mkF m 33 #[.val (.int p1), .val (.int p2), .val (.int p3), .val (.long q4), .second, .val (.long x3), .second] [(.long q4), (.long x3)])) _
    refine XS.lxor X0.here hx rfl (hb hby d18_33) rfl ?_
    show Steps p.tables e below (s₁.setTop (mkF m 34 #[.val (.int p1), .val (.int p2), .val (.int p3), .val (.long q4), .second, .val (.long x3), .second] [(.long (x3 ^^^ q4))])) _
    refine X0.ldc2Long hx hown (mvT hZ (hw _ (List.mem_of_getElem? (i := 140) rfl))) (g := (mkF m 34 #[.val (.int p1), .val (.int p2), .val (.int p3), .val (.long q4), .second, .val (.long x3), .second] [(.long (x3 ^^^ q4))])) rfl (hb hby d18_34) _ ?_
    show Steps p.tables e below (s₁.setTop (mkF m 37 #[.val (.int p1), .val (.int p2), .val (.int p3), .val (.long q4), .second, .val (.long x3), .second] [(.long (-7046029254386353131 : Int64)), (.long (x3 ^^^ q4))])) _
    refine XS.lmul X0.here hx rfl (hb hby d18_37) rfl ?_
    show Steps p.tables e below (s₁.setTop (mkF m 38 #[.val (.int p1), .val (.int p2), .val (.int p3), .val (.long q4), .second, .val (.long x3), .second] [(.long ((x3 ^^^ q4) * (-7046029254386353131 : Int64)))])) _
    refine XS.lstore X0.here hx rfl (hb hby d18_38) rfl (l' := #[.val (.int p1), .val (.int p2), .val (.int p3), .val (.long q4), .second, .val (.long ((x3 ^^^ q4) * (-7046029254386353131 : Int64))), .second]) rfl ?_
    exact k9
  generalize hx4 : ((x3 ^^^ q4) * (-7046029254386353131 : Int64)) = x4
  refine go (s₁.setTop (mkF m 49 #[.val (.int p1), .val (.int p2), .val (.int p3), .val (.long q4), .second, .val (.long x4), .second] [(.int ((x4 ^^^ ((x4.toUInt64 >>> ((32 : Int32) &&& 0x3f).toInt64.toUInt64).toInt64)).toInt32))])) _ (fun t9 k9 => ?_) ?_
  · show Steps p.tables e below (s₁.setTop (mkF m 40 #[.val (.int p1), .val (.int p2), .val (.int p3), .val (.long q4), .second, .val (.long x4), .second] [])) _
    refine XS.lload X0.here hx rfl (hb hby d18_40) rfl ?_
    show Steps p.tables e below (s₁.setTop (mkF m 42 #[.val (.int p1), .val (.int p2), .val (.int p3), .val (.long q4), .second, .val (.long x4), .second] [(.long x4)])) _
    refine XS.lload X0.here hx rfl (hb hby d18_42) rfl ?_
    show Steps p.tables e below (s₁.setTop (mkF m 44 #[.val (.int p1), .val (.int p2), .val (.int p3), .val (.long q4), .second, .val (.long x4), .second] [(.long x4), (.long x4)])) _
    refine XS.bipush X0.here hx rfl (hb hby d18_44) ?_
    show Steps p.tables e below (s₁.setTop (mkF m 46 #[.val (.int p1), .val (.int p2), .val (.int p3), .val (.long q4), .second, .val (.long x4), .second] [(.int (32 : Int32)), (.long x4), (.long x4)])) _
    refine XS.lushr X0.here hx rfl (hb hby d18_46) rfl ?_
    show Steps p.tables e below (s₁.setTop (mkF m 47 #[.val (.int p1), .val (.int p2), .val (.int p3), .val (.long q4), .second, .val (.long x4), .second] [(.long ((x4.toUInt64 >>> ((32 : Int32) &&& 0x3f).toInt64.toUInt64).toInt64)), (.long x4)])) _
    refine XS.lxor X0.here hx rfl (hb hby d18_47) rfl ?_
    show Steps p.tables e below (s₁.setTop (mkF m 48 #[.val (.int p1), .val (.int p2), .val (.int p3), .val (.long q4), .second, .val (.long x4), .second] [(.long (x4 ^^^ ((x4.toUInt64 >>> ((32 : Int32) &&& 0x3f).toInt64.toUInt64).toInt64)))])) _
    refine XS.l2i X0.here hx rfl (hb hby d18_48) rfl ?_
    exact k9
  obtain ⟨fs, hr, hrun, hended, hW, hsame⟩ := X0.leave (v := some (.int ((x4 ^^^ ((x4.toUInt64 >>> ((32 : Int32) &&& 0x3f).toInt64.toUInt64).toInt64)).toInt32))) (fun h => by rw [Bd.returns] at h; cases h) hlk
  refine fin _ ⟨_, _, retOut X0 hx (t := .int) Bd.returns rfl (Or.inl ⟨rfl, Or.inl rfl, _, rfl⟩) (hb hby d18_49) hr, hrun, hended, _, _, rfl, ?_, ⟨_, rfl⟩, hW, hsame.mono (by decide) (by decide)⟩
  show Q18 Z  h0 n0 _ s₁.heap _
  rw [e0]
  exact ⟨⟨_, rfl⟩, N0, rfl⟩
def Q19 (Z : State) (dd bv bl bh bd bs : Addr) (cnt : Nat) (vv lo hi : Nat → Int32) (dv : Nat → UInt64) (sl : Nat → Int32) (zz oo p1 p2 p3 : Int32) (dx : UInt64) (h0 : Heap) (n0 : Nat) (v : Option Value) (h : Heap) (L : List Loc) : Prop := v = some (.int (Int32.ofNat cnt)) ∧ Fr n0 L ∧ Keep h0 h [dd, bv, bl, bh, bd, bs] ∧ own_Dd Z h dd bv bl bh bd bs (cnt + 1) (own_upd vv cnt p1) (own_upd lo cnt p2) (own_upd hi cnt p3) (own_upd dv cnt dx) sl zz oo
set_option maxRecDepth 65536 in
set_option maxHeartbeats 40000000 in
theorem rm19 (l : Launch) (Z : State) (a0 : Array Value) (hw : ∀ d ∈ tables_1, d.before a0 Z = true) (ws : List Jvm.Cond) (dd : Addr) (p1 : Int32) (p2 : Int32) (p3 : Int32) (dx : UInt64) (bv bl bh bd bs : Addr) (cnt : Nat) (vv lo hi : Nat → Int32) (dv : Nat → UInt64) (sl : Nat → Int32) (zz oo : Int32) (h0 : Heap) (n0 : Nat) (Z0 : n0 ≤ h0.size) (HD : own_Dd Z h0 dd bv bl bh bd bs cnt vv lo hi dv sl zz oo) (HO : own_Ok cnt sl dv) (NE : own_Ne dd bv bl bh bd bs) (GS : own_Gs n0 dd bv bl bh bd bs) (hc : cnt ≤ 5) :
    MetFree l (⟨"com/example/horizonte/horizonte/dd/DecisionDiagrams", "add", "(IIID)I"⟩ : MethodName) (head1 (Jvm.Cond.code (⟨"com/example/horizonte/horizonte/dd/DecisionDiagrams", "add", "(IIID)I"⟩ : MethodName) prog_4_method_69_code 6 (some .int) :: ws) ({ frames := 0, cells := 0, slots := 0, locals := 0 } : Room)) (fun a U => a = #[(.ref dd), (.int p1), (.int p2), (.int p3), (.double dx)] ∧ Z.Warmed39 U.vm ∧ U.heap = h0) (fun _ _ _ _ _ => True) (fun _ U o U' => ∃ v L, o = .returned v ∧ Q19 Z dd bv bl bh bd bs cnt vv lo hi dv sl zz oo p1 p2 p3 dx h0 n0 v U'.heap L ∧ FrameEnd U o U' L ({ frames := 0, cells := 0, slots := 0, locals := 0 } : Room).cells ({ frames := 0, cells := 0, slots := 0, locals := 0 } : Room).slots) := by
  refine MetFree.of_bodySF (plainFor_of_name pn_com_example_horizonte_horizonte_dd_DecisionDiagrams) hisR ?_
  intro p e s m args below meth c s₁ Bd hml0 hP hK
  obtain ⟨rfl, hZ, hh⟩ := hP
  have hlk : meth.locks = false := by first | exact BodyLoose.notSynchronized Bd | exact Body.notSynchronized Bd
  have hx := Bd.exec
  have hby := Bd.bytes
  have hml : c.maxLocals = 6 := hml0
  have hown : s.vm.findClass "com/example/horizonte/horizonte/dd/DecisionDiagrams" = some m.cls := findClass_of_methodNamed Bd.named
  have hnm := (name_of_methodNamed Bd.named Bd.method).1
  have X0 : Stand p l e ({ frames := 0, cells := 0, slots := 0, locals := 0 } : Room) s m #[(.ref dd), (.int p1), (.int p2), (.int p3), (.double dx)] below meth c s₁ [] 0 0 := Stand.of_body Bd
  have e0 : s₁.heap = h0 := by rw [← hh, Bd.state]; rfl
  have N0 := Fr.nil n0
  refine own_open (fun G go fin => ?_)
  refine go (s₁.setTop (mkF m 0 #[.val (.ref dd), .val (.int p1), .val (.int p2), .val (.int p3), .val (.double dx), .second] [])) _ (fun t9 k9 => castTop (ef_19 m dd p1 p2 p3 dx) k9) ?_
  obtain ⟨m_dd_bv, m_dd_bl, m_dd_bh, m_dd_bd, m_dd_bs, m_bv_bl, m_bv_bh, m_bv_bd, m_bv_bs, m_bl_bh, m_bl_bd, m_bl_bs, m_bh_bd, m_bh_bs, m_bd_bs⟩ := id NE
  obtain ⟨k_dd, k_bv, k_bl, k_bh, k_bd, k_bs⟩ := id GS
  obtain ⟨y3_E, y3_F0, y3_F1, y3_F2, y3_F3, y3_F4, y3_F5, y3_F6, y3_F7, y3_A0, y3_A1, y3_A2, y3_A3, y3_A4⟩ := id HD
  have hne : ¬ (Int32.ofNat cnt) = (1024 : Int32) := own_nelt hc
  have hcn : (Int32.ofNat cnt).toNatClampNeg = cnt := own_n32 (by omega)
  have hcl : (Int32.ofNat cnt).toNatClampNeg < 1024 := by rw [hcn]; omega
  refine go (s₁.setTop (mkF m 1 #[.val (.ref dd), .val (.int p1), .val (.int p2), .val (.int p3), .val (.double dx), .second] [(.ref dd)])) _ (fun t9 k9 => ?_) ?_
  · show Steps p.tables e below (s₁.setTop (mkF m 0 #[.val (.ref dd), .val (.int p1), .val (.int p2), .val (.int p3), .val (.double dx), .second] [])) _
    refine XS.aloadN X0.here hx rfl (hb hby d19_0) rfl rfl ?_
    exact k9
  obtain ⟨T4, X4, e4, st4⟩ := getF X0 hx hZ hown (host := "") (Or.inl (hw _ (List.mem_of_getElem? (i := 147) rfl))) Via.refl e0 y3_F5 (g := (mkF m 1 #[.val (.ref dd), .val (.int p1), .val (.int p2), .val (.int p3), .val (.double dx), .second] [(.ref dd)])) rfl rfl (hb hby d19_1)
  refine go (T4.setTop (mkF m 4 #[.val (.ref dd), .val (.int p1), .val (.int p2), .val (.int p3), .val (.double dx), .second] [(.int (Int32.ofNat cnt))])) _ (fun t9 k9 => st4 _ k9) ?_
  refine go (T4.setTop (mkF m 5 #[.val (.ref dd), .val (.int p1), .val (.int p2), .val (.int p3), .val (.double dx), .second] [(.ref dd), (.int (Int32.ofNat cnt))])) _ (fun t9 k9 => ?_) ?_
  · show Steps p.tables e below (T4.setTop (mkF m 4 #[.val (.ref dd), .val (.int p1), .val (.int p2), .val (.int p3), .val (.double dx), .second] [(.int (Int32.ofNat cnt))])) _
    refine XS.aloadN X4.here hx rfl (hb hby d19_4) rfl rfl ?_
    exact k9
  obtain ⟨T5, X5, e5, st5⟩ := getF X4 hx hZ hown (host := "") (Or.inl (hw _ (List.mem_of_getElem? (i := 10) rfl))) Via.refl e4 y3_F0 (g := (mkF m 5 #[.val (.ref dd), .val (.int p1), .val (.int p2), .val (.int p3), .val (.double dx), .second] [(.ref dd), (.int (Int32.ofNat cnt))])) rfl rfl (hb hby d19_5)
  refine go (T5.setTop (mkF m 8 #[.val (.ref dd), .val (.int p1), .val (.int p2), .val (.int p3), .val (.double dx), .second] [(.ref bv), (.int (Int32.ofNat cnt))])) _ (fun t9 k9 => st5 _ k9) ?_
  obtain ⟨cl6, Ar6, Sz6, Hv6⟩ := y3_A0
  have u7 : own_A Z h0 bv .int 1024 (fun j => .int (vv j)) := ⟨cl6, Ar6, Sz6, Hv6⟩
  refine go (T5.setTop (mkF m 17 #[.val (.ref dd), .val (.int p1), .val (.int p2), .val (.int p3), .val (.double dx), .second] [(.ref dd)])) _ (fun t9 k9 => ?_) ?_
  · show Steps p.tables e below (T5.setTop (mkF m 8 #[.val (.ref dd), .val (.int p1), .val (.int p2), .val (.int p3), .val (.double dx), .second] [(.ref bv), (.int (Int32.ofNat cnt))])) _
    refine X5.arraylength hx (by rw [e5]; exact Ar6.1) (State.isArrayOf_alike hZ.alike Ar6.2.1) (g := (mkF m 8 #[.val (.ref dd), .val (.int p1), .val (.int p2), .val (.int p3), .val (.double dx), .second] [(.ref bv), (.int (Int32.ofNat cnt))])) rfl (rest := [(.int (Int32.ofNat cnt))]) rfl (hb hby d19_8) _ ?_
    rw [len_of (z := (1024 : Int32)) (Sz6.trans rfl) (by decide)]
    show Steps p.tables e below (T5.setTop (mkF m 9 #[.val (.ref dd), .val (.int p1), .val (.int p2), .val (.int p3), .val (.double dx), .second] [(.int (1024 : Int32)), (.int (Int32.ofNat cnt))])) _
    refine XS.icmpYes X5.here hx rfl (pc0 := 9) (pc' := 16) rfl (hb hby d19_9) rfl (feq hne).2 (by decide) (by decide) ?_
    show Steps p.tables e below (T5.setTop (mkF m 16 #[.val (.ref dd), .val (.int p1), .val (.int p2), .val (.int p3), .val (.double dx), .second] [])) _
    refine XS.aloadN X5.here hx rfl (hb hby d19_16) rfl rfl ?_
    exact k9
  obtain ⟨T8, X8, e8, st8⟩ := getF X5 hx hZ hown (host := "") (Or.inl (hw _ (List.mem_of_getElem? (i := 10) rfl))) Via.refl e5 y3_F0 (g := (mkF m 17 #[.val (.ref dd), .val (.int p1), .val (.int p2), .val (.int p3), .val (.double dx), .second] [(.ref dd)])) rfl rfl (hb hby d19_17)
  refine go (T8.setTop (mkF m 20 #[.val (.ref dd), .val (.int p1), .val (.int p2), .val (.int p3), .val (.double dx), .second] [(.ref bv)])) _ (fun t9 k9 => st8 _ k9) ?_
  refine go (T8.setTop (mkF m 21 #[.val (.ref dd), .val (.int p1), .val (.int p2), .val (.int p3), .val (.double dx), .second] [(.ref dd), (.ref bv)])) _ (fun t9 k9 => ?_) ?_
  · show Steps p.tables e below (T8.setTop (mkF m 20 #[.val (.ref dd), .val (.int p1), .val (.int p2), .val (.int p3), .val (.double dx), .second] [(.ref bv)])) _
    refine XS.aloadN X8.here hx rfl (hb hby d19_20) rfl rfl ?_
    exact k9
  obtain ⟨T9, X9, e9, st9⟩ := getF X8 hx hZ hown (host := "") (Or.inl (hw _ (List.mem_of_getElem? (i := 147) rfl))) Via.refl e8 y3_F5 (g := (mkF m 21 #[.val (.ref dd), .val (.int p1), .val (.int p2), .val (.int p3), .val (.double dx), .second] [(.ref dd), (.ref bv)])) rfl rfl (hb hby d19_21)
  refine go (T9.setTop (mkF m 24 #[.val (.ref dd), .val (.int p1), .val (.int p2), .val (.int p3), .val (.double dx), .second] [(.int (Int32.ofNat cnt)), (.ref bv)])) _ (fun t9 k9 => st9 _ k9) ?_
  refine go (T9.setTop (mkF m 25 #[.val (.ref dd), .val (.int p1), .val (.int p2), .val (.int p3), .val (.double dx), .second] [(.int p1), (.int (Int32.ofNat cnt)), (.ref bv)])) _ (fun t9 k9 => ?_) ?_
  · show Steps p.tables e below (T9.setTop (mkF m 24 #[.val (.ref dd), .val (.int p1), .val (.int p2), .val (.int p3), .val (.double dx), .second] [(.int (Int32.ofNat cnt)), (.ref bv)])) _
    refine XS.iloadN X9.here hx rfl (hb hby d19_24) rfl ?_
    exact k9
  obtain ⟨cl10, Ar10, Sz10, Hv10⟩ := u7
  have u11 : own_A Z h0 bv .int 1024 (fun j => .int (vv j)) := ⟨cl10, Ar10, Sz10, Hv10⟩
  obtain ⟨T12, h12, X12, e12, W12, st12⟩ := stI X9 hx hZ e9 Ar10 (j := (Int32.ofNat cnt)) (own_hin Sz10 (own_nn (by omega)) hcl) (g := (mkF m 25 #[.val (.ref dd), .val (.int p1), .val (.int p2), .val (.int p3), .val (.double dx), .second] [(.int p1), (.int (Int32.ofNat cnt)), (.ref bv)])) rfl rfl (hb hby d19_25)
  have N12 := Fr.snoc X12 N0 k_bv
  refine go (T12.setTop (mkF m 26 #[.val (.ref dd), .val (.int p1), .val (.int p2), .val (.int p3), .val (.double dx), .second] [])) _ (fun t9 k9 => st12 _ k9) ?_
  have u13 : Exa Z h12 dd "com/example/horizonte/horizonte/dd/DecisionDiagrams" := y3_E.wr W12
  have u14 : Fld Z h12 dd "com/example/horizonte/horizonte/dd/DecisionDiagrams" "variables" "[I" (.ref bv) := y3_F0.other W12 (Or.inl m_dd_bv)
  have u15 : Fld Z h12 dd "com/example/horizonte/horizonte/dd/DecisionDiagrams" "lows" "[I" (.ref bl) := y3_F1.other W12 (Or.inl m_dd_bv)
  have u16 : Fld Z h12 dd "com/example/horizonte/horizonte/dd/DecisionDiagrams" "highs" "[I" (.ref bh) := y3_F2.other W12 (Or.inl m_dd_bv)
  have u17 : Fld Z h12 dd "com/example/horizonte/horizonte/dd/DecisionDiagrams" "values" "[D" (.ref bd) := y3_F3.other W12 (Or.inl m_dd_bv)
  have u18 : Fld Z h12 dd "com/example/horizonte/horizonte/dd/DecisionDiagrams" "slots" "[I" (.ref bs) := y3_F4.other W12 (Or.inl m_dd_bv)
  have u19 : Fld Z h12 dd "com/example/horizonte/horizonte/dd/DecisionDiagrams" "count" "I" (.int (Int32.ofNat cnt)) := y3_F5.other W12 (Or.inl m_dd_bv)
  have u20 : Fld Z h12 dd "com/example/horizonte/horizonte/dd/DecisionDiagrams" "zero" "I" (.int zz) := y3_F6.other W12 (Or.inl m_dd_bv)
  have u21 : Fld Z h12 dd "com/example/horizonte/horizonte/dd/DecisionDiagrams" "one" "I" (.int oo) := y3_F7.other W12 (Or.inl m_dd_bv)
  have u22 : own_A Z h12 bl .int 1024 (fun j => .int (lo j)) := own_A_other y3_A1 W12 (Ne.symm m_bv_bl)
  have u23 : own_A Z h12 bh .int 1024 (fun j => .int (hi j)) := own_A_other y3_A2 W12 (Ne.symm m_bv_bh)
  have u24 : own_A Z h12 bd .double 1024 (fun j => .double (dv j)) := own_A_other y3_A3 W12 (Ne.symm m_bv_bd)
  have u25 : own_A Z h12 bs .int 2048 (fun j => .int (sl j)) := own_A_other y3_A4 W12 (Ne.symm m_bv_bs)
  have u26 : Keep h0 h12 [dd, bv, bl, bh, bd, bs] := (Keep.refl h0 [dd, bv, bl, bh, bd, bs]).wr W12 (Or.inl (List.mem_of_getElem? (i := 1) rfl))
  have u27 : own_A Z h12 bv .int 1024 (fun j => .int (own_upd vv cnt p1 j)) := own_A_congr (own_A_set Ar10 Sz10 Hv10 W12 hcl) (fun j hj => by rw [hcn]; exact own_upd_val Value.int vv cnt p1 1024 j hj)
  refine go (T12.setTop (mkF m 27 #[.val (.ref dd), .val (.int p1), .val (.int p2), .val (.int p3), .val (.double dx), .second] [(.ref dd)])) _ (fun t9 k9 => ?_) ?_
  · show Steps p.tables e below (T12.setTop (mkF m 26 #[.val (.ref dd), .val (.int p1), .val (.int p2), .val (.int p3), .val (.double dx), .second] [])) _
    refine XS.aloadN X12.here hx rfl (hb hby d19_26) rfl rfl ?_
    exact k9
  obtain ⟨T28, X28, e28, st28⟩ := getF X12 hx hZ hown (host := "") (Or.inl (hw _ (List.mem_of_getElem? (i := 12) rfl))) Via.refl e12 u15 (g := (mkF m 27 #[.val (.ref dd), .val (.int p1), .val (.int p2), .val (.int p3), .val (.double dx), .second] [(.ref dd)])) rfl rfl (hb hby d19_27)
  refine go (T28.setTop (mkF m 30 #[.val (.ref dd), .val (.int p1), .val (.int p2), .val (.int p3), .val (.double dx), .second] [(.ref bl)])) _ (fun t9 k9 => st28 _ k9) ?_
  refine go (T28.setTop (mkF m 31 #[.val (.ref dd), .val (.int p1), .val (.int p2), .val (.int p3), .val (.double dx), .second] [(.ref dd), (.ref bl)])) _ (fun t9 k9 => ?_) ?_
  · show Steps p.tables e below (T28.setTop (mkF m 30 #[.val (.ref dd), .val (.int p1), .val (.int p2), .val (.int p3), .val (.double dx), .second] [(.ref bl)])) _
    refine XS.aloadN X28.here hx rfl (hb hby d19_30) rfl rfl ?_
    exact k9
  obtain ⟨T29, X29, e29, st29⟩ := getF X28 hx hZ hown (host := "") (Or.inl (hw _ (List.mem_of_getElem? (i := 147) rfl))) Via.refl e28 u19 (g := (mkF m 31 #[.val (.ref dd), .val (.int p1), .val (.int p2), .val (.int p3), .val (.double dx), .second] [(.ref dd), (.ref bl)])) rfl rfl (hb hby d19_31)
  refine go (T29.setTop (mkF m 34 #[.val (.ref dd), .val (.int p1), .val (.int p2), .val (.int p3), .val (.double dx), .second] [(.int (Int32.ofNat cnt)), (.ref bl)])) _ (fun t9 k9 => st29 _ k9) ?_
  refine go (T29.setTop (mkF m 35 #[.val (.ref dd), .val (.int p1), .val (.int p2), .val (.int p3), .val (.double dx), .second] [(.int p2), (.int (Int32.ofNat cnt)), (.ref bl)])) _ (fun t9 k9 => ?_) ?_
  · show Steps p.tables e below (T29.setTop (mkF m 34 #[.val (.ref dd), .val (.int p1), .val (.int p2), .val (.int p3), .val (.double dx), .second] [(.int (Int32.ofNat cnt)), (.ref bl)])) _
    refine XS.iloadN X29.here hx rfl (hb hby d19_34) rfl ?_
    exact k9
  obtain ⟨cl30, Ar30, Sz30, Hv30⟩ := u22
  have u31 : own_A Z h12 bl .int 1024 (fun j => .int (lo j)) := ⟨cl30, Ar30, Sz30, Hv30⟩
  obtain ⟨T32, h32, X32, e32, W32, st32⟩ := stI X29 hx hZ e29 Ar30 (j := (Int32.ofNat cnt)) (own_hin Sz30 (own_nn (by omega)) hcl) (g := (mkF m 35 #[.val (.ref dd), .val (.int p1), .val (.int p2), .val (.int p3), .val (.double dx), .second] [(.int p2), (.int (Int32.ofNat cnt)), (.ref bl)])) rfl rfl (hb hby d19_35)
  have N32 := Fr.snoc X32 N12 k_bl
  refine go (T32.setTop (mkF m 36 #[.val (.ref dd), .val (.int p1), .val (.int p2), .val (.int p3), .val (.double dx), .second] [])) _ (fun t9 k9 => st32 _ k9) ?_
  have u33 : Exa Z h32 dd "com/example/horizonte/horizonte/dd/DecisionDiagrams" := u13.wr W32
  have u34 : Fld Z h32 dd "com/example/horizonte/horizonte/dd/DecisionDiagrams" "variables" "[I" (.ref bv) := u14.other W32 (Or.inl m_dd_bl)
  have u35 : Fld Z h32 dd "com/example/horizonte/horizonte/dd/DecisionDiagrams" "lows" "[I" (.ref bl) := u15.other W32 (Or.inl m_dd_bl)
  have u36 : Fld Z h32 dd "com/example/horizonte/horizonte/dd/DecisionDiagrams" "highs" "[I" (.ref bh) := u16.other W32 (Or.inl m_dd_bl)
  have u37 : Fld Z h32 dd "com/example/horizonte/horizonte/dd/DecisionDiagrams" "values" "[D" (.ref bd) := u17.other W32 (Or.inl m_dd_bl)
  have u38 : Fld Z h32 dd "com/example/horizonte/horizonte/dd/DecisionDiagrams" "slots" "[I" (.ref bs) := u18.other W32 (Or.inl m_dd_bl)
  have u39 : Fld Z h32 dd "com/example/horizonte/horizonte/dd/DecisionDiagrams" "count" "I" (.int (Int32.ofNat cnt)) := u19.other W32 (Or.inl m_dd_bl)
  have u40 : Fld Z h32 dd "com/example/horizonte/horizonte/dd/DecisionDiagrams" "zero" "I" (.int zz) := u20.other W32 (Or.inl m_dd_bl)
  have u41 : Fld Z h32 dd "com/example/horizonte/horizonte/dd/DecisionDiagrams" "one" "I" (.int oo) := u21.other W32 (Or.inl m_dd_bl)
  have u42 : own_A Z h32 bh .int 1024 (fun j => .int (hi j)) := own_A_other u23 W32 (Ne.symm m_bl_bh)
  have u43 : own_A Z h32 bd .double 1024 (fun j => .double (dv j)) := own_A_other u24 W32 (Ne.symm m_bl_bd)
  have u44 : own_A Z h32 bs .int 2048 (fun j => .int (sl j)) := own_A_other u25 W32 (Ne.symm m_bl_bs)
  have u45 : own_A Z h32 bv .int 1024 (fun j => .int (own_upd vv cnt p1 j)) := own_A_other u27 W32 m_bv_bl
  have u46 : Keep h0 h32 [dd, bv, bl, bh, bd, bs] := u26.wr W32 (Or.inl (List.mem_of_getElem? (i := 2) rfl))
  have u47 : own_A Z h32 bl .int 1024 (fun j => .int (own_upd lo cnt p2 j)) := own_A_congr (own_A_set Ar30 Sz30 Hv30 W32 hcl) (fun j hj => by rw [hcn]; exact own_upd_val Value.int lo cnt p2 1024 j hj)
  refine go (T32.setTop (mkF m 37 #[.val (.ref dd), .val (.int p1), .val (.int p2), .val (.int p3), .val (.double dx), .second] [(.ref dd)])) _ (fun t9 k9 => ?_) ?_
  · show Steps p.tables e below (T32.setTop (mkF m 36 #[.val (.ref dd), .val (.int p1), .val (.int p2), .val (.int p3), .val (.double dx), .second] [])) _
    refine XS.aloadN X32.here hx rfl (hb hby d19_36) rfl rfl ?_
    exact k9
  obtain ⟨T48, X48, e48, st48⟩ := getF X32 hx hZ hown (host := "") (Or.inl (hw _ (List.mem_of_getElem? (i := 14) rfl))) Via.refl e32 u36 (g := (mkF m 37 #[.val (.ref dd), .val (.int p1), .val (.int p2), .val (.int p3), .val (.double dx), .second] [(.ref dd)])) rfl rfl (hb hby d19_37)
  refine go (T48.setTop (mkF m 40 #[.val (.ref dd), .val (.int p1), .val (.int p2), .val (.int p3), .val (.double dx), .second] [(.ref bh)])) _ (fun t9 k9 => st48 _ k9) ?_
  refine go (T48.setTop (mkF m 41 #[.val (.ref dd), .val (.int p1), .val (.int p2), .val (.int p3), .val (.double dx), .second] [(.ref dd), (.ref bh)])) _ (fun t9 k9 => ?_) ?_
  · show Steps p.tables e below (T48.setTop (mkF m 40 #[.val (.ref dd), .val (.int p1), .val (.int p2), .val (.int p3), .val (.double dx), .second] [(.ref bh)])) _
    refine XS.aloadN X48.here hx rfl (hb hby d19_40) rfl rfl ?_
    exact k9
  obtain ⟨T49, X49, e49, st49⟩ := getF X48 hx hZ hown (host := "") (Or.inl (hw _ (List.mem_of_getElem? (i := 147) rfl))) Via.refl e48 u39 (g := (mkF m 41 #[.val (.ref dd), .val (.int p1), .val (.int p2), .val (.int p3), .val (.double dx), .second] [(.ref dd), (.ref bh)])) rfl rfl (hb hby d19_41)
  refine go (T49.setTop (mkF m 44 #[.val (.ref dd), .val (.int p1), .val (.int p2), .val (.int p3), .val (.double dx), .second] [(.int (Int32.ofNat cnt)), (.ref bh)])) _ (fun t9 k9 => st49 _ k9) ?_
  refine go (T49.setTop (mkF m 45 #[.val (.ref dd), .val (.int p1), .val (.int p2), .val (.int p3), .val (.double dx), .second] [(.int p3), (.int (Int32.ofNat cnt)), (.ref bh)])) _ (fun t9 k9 => ?_) ?_
  · show Steps p.tables e below (T49.setTop (mkF m 44 #[.val (.ref dd), .val (.int p1), .val (.int p2), .val (.int p3), .val (.double dx), .second] [(.int (Int32.ofNat cnt)), (.ref bh)])) _
    refine XS.iloadN X49.here hx rfl (hb hby d19_44) rfl ?_
    exact k9
  obtain ⟨cl50, Ar50, Sz50, Hv50⟩ := u42
  have u51 : own_A Z h32 bh .int 1024 (fun j => .int (hi j)) := ⟨cl50, Ar50, Sz50, Hv50⟩
  obtain ⟨T52, h52, X52, e52, W52, st52⟩ := stI X49 hx hZ e49 Ar50 (j := (Int32.ofNat cnt)) (own_hin Sz50 (own_nn (by omega)) hcl) (g := (mkF m 45 #[.val (.ref dd), .val (.int p1), .val (.int p2), .val (.int p3), .val (.double dx), .second] [(.int p3), (.int (Int32.ofNat cnt)), (.ref bh)])) rfl rfl (hb hby d19_45)
  have N52 := Fr.snoc X52 N32 k_bh
  refine go (T52.setTop (mkF m 46 #[.val (.ref dd), .val (.int p1), .val (.int p2), .val (.int p3), .val (.double dx), .second] [])) _ (fun t9 k9 => st52 _ k9) ?_
  have u53 : Exa Z h52 dd "com/example/horizonte/horizonte/dd/DecisionDiagrams" := u33.wr W52
  have u54 : Fld Z h52 dd "com/example/horizonte/horizonte/dd/DecisionDiagrams" "variables" "[I" (.ref bv) := u34.other W52 (Or.inl m_dd_bh)
  have u55 : Fld Z h52 dd "com/example/horizonte/horizonte/dd/DecisionDiagrams" "lows" "[I" (.ref bl) := u35.other W52 (Or.inl m_dd_bh)
  have u56 : Fld Z h52 dd "com/example/horizonte/horizonte/dd/DecisionDiagrams" "highs" "[I" (.ref bh) := u36.other W52 (Or.inl m_dd_bh)
  have u57 : Fld Z h52 dd "com/example/horizonte/horizonte/dd/DecisionDiagrams" "values" "[D" (.ref bd) := u37.other W52 (Or.inl m_dd_bh)
  have u58 : Fld Z h52 dd "com/example/horizonte/horizonte/dd/DecisionDiagrams" "slots" "[I" (.ref bs) := u38.other W52 (Or.inl m_dd_bh)
  have u59 : Fld Z h52 dd "com/example/horizonte/horizonte/dd/DecisionDiagrams" "count" "I" (.int (Int32.ofNat cnt)) := u39.other W52 (Or.inl m_dd_bh)
  have u60 : Fld Z h52 dd "com/example/horizonte/horizonte/dd/DecisionDiagrams" "zero" "I" (.int zz) := u40.other W52 (Or.inl m_dd_bh)
  have u61 : Fld Z h52 dd "com/example/horizonte/horizonte/dd/DecisionDiagrams" "one" "I" (.int oo) := u41.other W52 (Or.inl m_dd_bh)
  have u62 : own_A Z h52 bd .double 1024 (fun j => .double (dv j)) := own_A_other u43 W52 (Ne.symm m_bh_bd)
  have u63 : own_A Z h52 bs .int 2048 (fun j => .int (sl j)) := own_A_other u44 W52 (Ne.symm m_bh_bs)
  have u64 : own_A Z h52 bv .int 1024 (fun j => .int (own_upd vv cnt p1 j)) := own_A_other u45 W52 m_bv_bh
  have u65 : own_A Z h52 bl .int 1024 (fun j => .int (own_upd lo cnt p2 j)) := own_A_other u47 W52 m_bl_bh
  have u66 : Keep h0 h52 [dd, bv, bl, bh, bd, bs] := u46.wr W52 (Or.inl (List.mem_of_getElem? (i := 3) rfl))
  have u67 : own_A Z h52 bh .int 1024 (fun j => .int (own_upd hi cnt p3 j)) := own_A_congr (own_A_set Ar50 Sz50 Hv50 W52 hcl) (fun j hj => by rw [hcn]; exact own_upd_val Value.int hi cnt p3 1024 j hj)
  refine go (T52.setTop (mkF m 47 #[.val (.ref dd), .val (.int p1), .val (.int p2), .val (.int p3), .val (.double dx), .second] [(.ref dd)])) _ (fun t9 k9 => ?_) ?_
  · show Steps p.tables e below (T52.setTop (mkF m 46 #[.val (.ref dd), .val (.int p1), .val (.int p2), .val (.int p3), .val (.double dx), .second] [])) _
    refine XS.aloadN X52.here hx rfl (hb hby d19_46) rfl rfl ?_
    exact k9
  obtain ⟨T68, X68, e68, st68⟩ := getF X52 hx hZ hown (host := "") (Or.inl (hw _ (List.mem_of_getElem? (i := 17) rfl))) Via.refl e52 u57 (g := (mkF m 47 #[.val (.ref dd), .val (.int p1), .val (.int p2), .val (.int p3), .val (.double dx), .second] [(.ref dd)])) rfl rfl (hb hby d19_47)
  refine go (T68.setTop (mkF m 50 #[.val (.ref dd), .val (.int p1), .val (.int p2), .val (.int p3), .val (.double dx), .second] [(.ref bd)])) _ (fun t9 k9 => st68 _ k9) ?_
  refine go (T68.setTop (mkF m 51 #[.val (.ref dd), .val (.int p1), .val (.int p2), .val (.int p3), .val (.double dx), .second] [(.ref dd), (.ref bd)])) _ (fun t9 k9 => ?_) ?_
  · show Steps p.tables e below (T68.setTop (mkF m 50 #[.val (.ref dd), .val (.int p1), .val (.int p2), .val (.int p3), .val (.double dx), .second] [(.ref bd)])) _
    refine XS.aloadN X68.here hx rfl (hb hby d19_50) rfl rfl ?_
    exact k9
  obtain ⟨T69, X69, e69, st69⟩ := getF X68 hx hZ hown (host := "") (Or.inl (hw _ (List.mem_of_getElem? (i := 147) rfl))) Via.refl e68 u59 (g := (mkF m 51 #[.val (.ref dd), .val (.int p1), .val (.int p2), .val (.int p3), .val (.double dx), .second] [(.ref dd), (.ref bd)])) rfl rfl (hb hby d19_51)
  refine go (T69.setTop (mkF m 54 #[.val (.ref dd), .val (.int p1), .val (.int p2), .val (.int p3), .val (.double dx), .second] [(.int (Int32.ofNat cnt)), (.ref bd)])) _ (fun t9 k9 => st69 _ k9) ?_
  refine go (T69.setTop (mkF m 56 #[.val (.ref dd), .val (.int p1), .val (.int p2), .val (.int p3), .val (.double dx), .second] [(.double dx), (.int (Int32.ofNat cnt)), (.ref bd)])) _ (fun t9 k9 => ?_) ?_
  · show Steps p.tables e below (T69.setTop (mkF m 54 #[.val (.ref dd), .val (.int p1), .val (.int p2), .val (.int p3), .val (.double dx), .second] [(.int (Int32.ofNat cnt)), (.ref bd)])) _
    refine XS.dload X69.here hx rfl (hb hby d19_54) rfl ?_
    exact k9
  obtain ⟨cl70, Ar70, Sz70, Hv70⟩ := u62
  have u71 : own_A Z h52 bd .double 1024 (fun j => .double (dv j)) := ⟨cl70, Ar70, Sz70, Hv70⟩
  obtain ⟨T72, h72, X72, e72, W72, st72⟩ := stD X69 hx hZ e69 Ar70 (j := (Int32.ofNat cnt)) (own_hin Sz70 (own_nn (by omega)) hcl) (g := (mkF m 56 #[.val (.ref dd), .val (.int p1), .val (.int p2), .val (.int p3), .val (.double dx), .second] [(.double dx), (.int (Int32.ofNat cnt)), (.ref bd)])) rfl rfl (hb hby d19_56)
  have N72 := Fr.snoc X72 N52 k_bd
  refine go (T72.setTop (mkF m 57 #[.val (.ref dd), .val (.int p1), .val (.int p2), .val (.int p3), .val (.double dx), .second] [])) _ (fun t9 k9 => st72 _ k9) ?_
  have u73 : Exa Z h72 dd "com/example/horizonte/horizonte/dd/DecisionDiagrams" := u53.wr W72
  have u74 : Fld Z h72 dd "com/example/horizonte/horizonte/dd/DecisionDiagrams" "variables" "[I" (.ref bv) := u54.other W72 (Or.inl m_dd_bd)
  have u75 : Fld Z h72 dd "com/example/horizonte/horizonte/dd/DecisionDiagrams" "lows" "[I" (.ref bl) := u55.other W72 (Or.inl m_dd_bd)
  have u76 : Fld Z h72 dd "com/example/horizonte/horizonte/dd/DecisionDiagrams" "highs" "[I" (.ref bh) := u56.other W72 (Or.inl m_dd_bd)
  have u77 : Fld Z h72 dd "com/example/horizonte/horizonte/dd/DecisionDiagrams" "values" "[D" (.ref bd) := u57.other W72 (Or.inl m_dd_bd)
  have u78 : Fld Z h72 dd "com/example/horizonte/horizonte/dd/DecisionDiagrams" "slots" "[I" (.ref bs) := u58.other W72 (Or.inl m_dd_bd)
  have u79 : Fld Z h72 dd "com/example/horizonte/horizonte/dd/DecisionDiagrams" "count" "I" (.int (Int32.ofNat cnt)) := u59.other W72 (Or.inl m_dd_bd)
  have u80 : Fld Z h72 dd "com/example/horizonte/horizonte/dd/DecisionDiagrams" "zero" "I" (.int zz) := u60.other W72 (Or.inl m_dd_bd)
  have u81 : Fld Z h72 dd "com/example/horizonte/horizonte/dd/DecisionDiagrams" "one" "I" (.int oo) := u61.other W72 (Or.inl m_dd_bd)
  have u82 : own_A Z h72 bs .int 2048 (fun j => .int (sl j)) := own_A_other u63 W72 (Ne.symm m_bd_bs)
  have u83 : own_A Z h72 bv .int 1024 (fun j => .int (own_upd vv cnt p1 j)) := own_A_other u64 W72 m_bv_bd
  have u84 : own_A Z h72 bl .int 1024 (fun j => .int (own_upd lo cnt p2 j)) := own_A_other u65 W72 m_bl_bd
  have u85 : own_A Z h72 bh .int 1024 (fun j => .int (own_upd hi cnt p3 j)) := own_A_other u67 W72 m_bh_bd
  have u86 : Keep h0 h72 [dd, bv, bl, bh, bd, bs] := u66.wr W72 (Or.inl (List.mem_of_getElem? (i := 4) rfl))
  have u87 : own_A Z h72 bd .double 1024 (fun j => .double (own_upd dv cnt dx j)) := own_A_congr (own_A_set Ar70 Sz70 Hv70 W72 hcl) (fun j hj => by rw [hcn]; exact own_upd_val Value.double dv cnt dx 1024 j hj)
  refine go (T72.setTop (mkF m 59 #[.val (.ref dd), .val (.int p1), .val (.int p2), .val (.int p3), .val (.double dx), .second] [(.ref dd), (.ref dd)])) _ (fun t9 k9 => ?_) ?_
  · show Steps p.tables e below (T72.setTop (mkF m 57 #[.val (.ref dd), .val (.int p1), .val (.int p2), .val (.int p3), .val (.double dx), .second] [])) _
    refine XS.aloadN X72.here hx rfl (hb hby d19_57) rfl rfl ?_
    show Steps p.tables e below (T72.setTop (mkF m 58 #[.val (.ref dd), .val (.int p1), .val (.int p2), .val (.int p3), .val (.double dx), .second] [(.ref dd)])) _
    refine XS.dup X72.here hx rfl (hb hby d19_58) rfl rfl ?_
    exact k9
  obtain ⟨T88, X88, e88, st88⟩ := getF X72 hx hZ hown (host := "") (Or.inl (hw _ (List.mem_of_getElem? (i := 147) rfl))) Via.refl e72 u79 (g := (mkF m 59 #[.val (.ref dd), .val (.int p1), .val (.int p2), .val (.int p3), .val (.double dx), .second] [(.ref dd), (.ref dd)])) rfl rfl (hb hby d19_59)
  refine go (T88.setTop (mkF m 62 #[.val (.ref dd), .val (.int p1), .val (.int p2), .val (.int p3), .val (.double dx), .second] [(.int (Int32.ofNat cnt)), (.ref dd)])) _ (fun t9 k9 => st88 _ k9) ?_
  refine go (T88.setTop (mkF m 64 #[.val (.ref dd), .val (.int p1), .val (.int p2), .val (.int p3), .val (.double dx), .second] [(.int ((Int32.ofNat cnt) + (1 : Int32))), (.ref dd)])) _ (fun t9 k9 => ?_) ?_
  · show Steps p.tables e below (T88.setTop (mkF m 62 #[.val (.ref dd), .val (.int p1), .val (.int p2), .val (.int p3), .val (.double dx), .second] [(.int (Int32.ofNat cnt)), (.ref dd)])) _
    refine XS.iconst X88.here hx rfl (hb hby d19_62) ?_
    show Steps p.tables e below (T88.setTop (mkF m 63 #[.val (.ref dd), .val (.int p1), .val (.int p2), .val (.int p3), .val (.double dx), .second] [(.int (1 : Int32)), (.int (Int32.ofNat cnt)), (.ref dd)])) _
    refine XS.iadd X88.here hx rfl (hb hby d19_63) rfl ?_
    exact k9
  rw [XT.succ32]
  obtain ⟨T89, h89, X89, e89, W89, st89⟩ := putF X88 hx hZ hown (host := "") (Or.inl (hw _ (List.mem_of_getElem? (i := 147) rfl))) Via.refl e88 u79 u73 (Or.inl (hw _ (List.mem_of_getElem? (i := 148) rfl))) (hw _ (List.mem_of_getElem? (i := 1) rfl)) (ty := .int) (by decide) rfl rfl (g := (mkF m 64 #[.val (.ref dd), .val (.int p1), .val (.int p2), .val (.int p3), .val (.double dx), .second] [(.int (Int32.ofNat (cnt + 1))), (.ref dd)])) rfl rfl (hb hby d19_64)
  have N89 := Fr.snoc X89 N72 k_dd
  refine go (T89.setTop (mkF m 67 #[.val (.ref dd), .val (.int p1), .val (.int p2), .val (.int p3), .val (.double dx), .second] [])) _ (fun t9 k9 => st89 _ k9) ?_
  have u90 : Exa Z h89 dd "com/example/horizonte/horizonte/dd/DecisionDiagrams" := u73.wr W89
  have u91 : Fld Z h89 dd "com/example/horizonte/horizonte/dd/DecisionDiagrams" "variables" "[I" (.ref bv) := u74.other W89 (Or.inr (slot_ne (Or.inl (hw _ (List.mem_of_getElem? (i := 11) rfl))) (Or.inl (hw _ (List.mem_of_getElem? (i := 148) rfl))) (by decide) (t := (.array .int)) (t' := .int) (by decide) (by decide)))
  have u92 : Fld Z h89 dd "com/example/horizonte/horizonte/dd/DecisionDiagrams" "lows" "[I" (.ref bl) := u75.other W89 (Or.inr (slot_ne (Or.inl (hw _ (List.mem_of_getElem? (i := 13) rfl))) (Or.inl (hw _ (List.mem_of_getElem? (i := 148) rfl))) (by decide) (t := (.array .int)) (t' := .int) (by decide) (by decide)))
  have u93 : Fld Z h89 dd "com/example/horizonte/horizonte/dd/DecisionDiagrams" "highs" "[I" (.ref bh) := u76.other W89 (Or.inr (slot_ne (Or.inl (hw _ (List.mem_of_getElem? (i := 15) rfl))) (Or.inl (hw _ (List.mem_of_getElem? (i := 148) rfl))) (by decide) (t := (.array .int)) (t' := .int) (by decide) (by decide)))
  have u94 : Fld Z h89 dd "com/example/horizonte/horizonte/dd/DecisionDiagrams" "values" "[D" (.ref bd) := u77.other W89 (Or.inr (slot_ne (Or.inl (hw _ (List.mem_of_getElem? (i := 18) rfl))) (Or.inl (hw _ (List.mem_of_getElem? (i := 148) rfl))) (by decide) (t := (.array .double)) (t' := .int) (by decide) (by decide)))
  have u95 : Fld Z h89 dd "com/example/horizonte/horizonte/dd/DecisionDiagrams" "slots" "[I" (.ref bs) := u78.other W89 (Or.inr (slot_ne (Or.inl (hw _ (List.mem_of_getElem? (i := 90) rfl))) (Or.inl (hw _ (List.mem_of_getElem? (i := 148) rfl))) (by decide) (t := (.array .int)) (t' := .int) (by decide) (by decide)))
  have u96 : Fld Z h89 dd "com/example/horizonte/horizonte/dd/DecisionDiagrams" "count" "I" (.int (Int32.ofNat (cnt + 1))) := u79.same W89
  have u97 : Fld Z h89 dd "com/example/horizonte/horizonte/dd/DecisionDiagrams" "zero" "I" (.int zz) := u80.other W89 (Or.inr (slot_ne (Or.inr (hw _ (List.mem_of_getElem? (i := 150) rfl))) (Or.inl (hw _ (List.mem_of_getElem? (i := 148) rfl))) (by decide) (t := .int) (t' := .int) (by decide) (by decide)))
  have u98 : Fld Z h89 dd "com/example/horizonte/horizonte/dd/DecisionDiagrams" "one" "I" (.int oo) := u81.other W89 (Or.inr (slot_ne (Or.inr (hw _ (List.mem_of_getElem? (i := 152) rfl))) (Or.inl (hw _ (List.mem_of_getElem? (i := 148) rfl))) (by decide) (t := .int) (t' := .int) (by decide) (by decide)))
  have u99 : own_A Z h89 bs .int 2048 (fun j => .int (sl j)) := own_A_other u82 W89 (Ne.symm m_dd_bs)
  have u100 : own_A Z h89 bv .int 1024 (fun j => .int (own_upd vv cnt p1 j)) := own_A_other u83 W89 (Ne.symm m_dd_bv)
  have u101 : own_A Z h89 bl .int 1024 (fun j => .int (own_upd lo cnt p2 j)) := own_A_other u84 W89 (Ne.symm m_dd_bl)
  have u102 : own_A Z h89 bh .int 1024 (fun j => .int (own_upd hi cnt p3 j)) := own_A_other u85 W89 (Ne.symm m_dd_bh)
  have u103 : own_A Z h89 bd .double 1024 (fun j => .double (own_upd dv cnt dx j)) := own_A_other u87 W89 (Ne.symm m_dd_bd)
  have u104 : Keep h0 h89 [dd, bv, bl, bh, bd, bs] := u86.wr W89 (Or.inl (List.mem_of_getElem? (i := 0) rfl))
  refine go (T89.setTop (mkF m 68 #[.val (.ref dd), .val (.int p1), .val (.int p2), .val (.int p3), .val (.double dx), .second] [(.ref dd)])) _ (fun t9 k9 => ?_) ?_
  · show Steps p.tables e below (T89.setTop (mkF m 67 #[.val (.ref dd), .val (.int p1), .val (.int p2), .val (.int p3), .val (.double dx), .second] [])) _
    refine XS.aloadN X89.here hx rfl (hb hby d19_67) rfl rfl ?_
    exact k9
  obtain ⟨T105, X105, e105, st105⟩ := getF X89 hx hZ hown (host := "") (Or.inl (hw _ (List.mem_of_getElem? (i := 147) rfl))) Via.refl e89 u96 (g := (mkF m 68 #[.val (.ref dd), .val (.int p1), .val (.int p2), .val (.int p3), .val (.double dx), .second] [(.ref dd)])) rfl rfl (hb hby d19_68)
  refine go (T105.setTop (mkF m 71 #[.val (.ref dd), .val (.int p1), .val (.int p2), .val (.int p3), .val (.double dx), .second] [(.int (Int32.ofNat (cnt + 1)))])) _ (fun t9 k9 => st105 _ k9) ?_
  refine go (T105.setTop (mkF m 73 #[.val (.ref dd), .val (.int p1), .val (.int p2), .val (.int p3), .val (.double dx), .second] [(.int ((Int32.ofNat (cnt + 1)) - (1 : Int32)))])) _ (fun t9 k9 => ?_) ?_
  · show Steps p.tables e below (T105.setTop (mkF m 71 #[.val (.ref dd), .val (.int p1), .val (.int p2), .val (.int p3), .val (.double dx), .second] [(.int (Int32.ofNat (cnt + 1)))])) _
    refine XS.iconst X105.here hx rfl (hb hby d19_71) ?_
    show Steps p.tables e below (T105.setTop (mkF m 72 #[.val (.ref dd), .val (.int p1), .val (.int p2), .val (.int p3), .val (.double dx), .second] [(.int (1 : Int32)), (.int (Int32.ofNat (cnt + 1)))])) _
    refine XS.isub X105.here hx rfl (hb hby d19_72) rfl ?_
    exact k9
  rw [own_pred]
  obtain ⟨fs, hr, hrun, hended, hW, hsame⟩ := X105.leave (v := some (.int (Int32.ofNat cnt))) (fun h => by rw [Bd.returns] at h; cases h) hlk
  refine fin _ ⟨_, _, retOut X105 hx (t := .int) Bd.returns rfl (Or.inl ⟨rfl, Or.inl rfl, _, rfl⟩) (hb hby d19_73) hr, hrun, hended, _, _, rfl, ?_, ⟨_, rfl⟩, hW, hsame.mono (by decide) (by decide)⟩
  show Q19 Z dd bv bl bh bd bs cnt vv lo hi dv sl zz oo p1 p2 p3 dx h0 n0 _ T105.heap _
  rw [e105]
  exact ⟨rfl, N89, u104, ⟨u90, u91, u92, u93, u94, u95, u96, u97, u98, u100, u101, u102, u103, u99⟩⟩
set_option maxRecDepth 65536 in
set_option maxHeartbeats 40000000 in
theorem rm15 (l : Launch) (Z : State) (a0 : Array Value) (hw : ∀ d ∈ tables_1, d.before a0 Z = true) (ws : List Jvm.Cond) (dd : Addr) (p1 : Int32) (p2 : Int32) (p3 : Int32) (dx : UInt64) (bv bl bh bd bs : Addr) (cnt : Nat) (vv lo hi : Nat → Int32) (dv : Nat → UInt64) (sl : Nat → Int32) (zz oo : Int32) (h0 : Heap) (n0 : Nat) (Z0 : n0 ≤ h0.size) (HD : own_Dd Z h0 dd bv bl bh bd bs cnt vv lo hi dv sl zz oo) (HO : own_Ok cnt sl dv) (NE : own_Ne dd bv bl bh bd bs) (GS : own_Gs n0 dd bv bl bh bd bs) (hc : cnt ≤ 5) (hx1 : NoNaN64 dx) :
    MetFree l (⟨"com/example/horizonte/horizonte/dd/DecisionDiagrams", "make", "(IIID)I"⟩ : MethodName) (head1 (Jvm.Cond.code (⟨"com/example/horizonte/horizonte/dd/DecisionDiagrams", "make", "(IIID)I"⟩ : MethodName) prog_4_method_68_code 11 (some .int) :: ws) ({ frames := 2, cells := 0, slots := 0, locals := 28 } : Room)) (fun a U => a = #[(.ref dd), (.int p1), (.int p2), (.int p3), (.double dx)] ∧ Z.Warmed39 U.vm ∧ U.heap = h0) (fun _ _ _ _ _ => True) (fun _ U o U' => ∃ v L, o = .returned v ∧ own_Q Z dd bv bl bh bd bs cnt vv lo hi dv zz oo p1 p2 p3 dx h0 n0 v U'.heap L ∧ FrameEnd U o U' L ({ frames := 2, cells := 0, slots := 0, locals := 28 } : Room).cells ({ frames := 2, cells := 0, slots := 0, locals := 28 } : Room).slots) := by
  refine MetFree.of_bodySF (plainFor_of_name pn_com_example_horizonte_horizonte_dd_DecisionDiagrams) hisR ?_
  intro p e s m args below meth c s₁ Bd hml0 hP hK
  obtain ⟨rfl, hZ, hh⟩ := hP
  have hlk : meth.locks = false := by first | exact BodyLoose.notSynchronized Bd | exact Body.notSynchronized Bd
  have hx := Bd.exec
  have hby := Bd.bytes
  have hml : c.maxLocals = 11 := hml0
  have hown : s.vm.findClass "com/example/horizonte/horizonte/dd/DecisionDiagrams" = some m.cls := findClass_of_methodNamed Bd.named
  have hnm := (name_of_methodNamed Bd.named Bd.method).1
  have X0 : Stand p l e ({ frames := 2, cells := 0, slots := 0, locals := 28 } : Room) s m #[(.ref dd), (.int p1), (.int p2), (.int p3), (.double dx)] below meth c s₁ [] 0 0 := Stand.of_body Bd
  have e0 : s₁.heap = h0 := by rw [← hh, Bd.state]; rfl
  have N0 := Fr.nil n0
  refine own_open (fun G go fin => ?_)
  refine go (s₁.setTop (mkF m 0 #[.val (.ref dd), .val (.int p1), .val (.int p2), .val (.int p3), .val (.double dx), .second, .unset, .unset, .unset, .unset, .unset] [])) _ (fun t9 k9 => castTop (ef_15 m dd p1 p2 p3 dx) k9) ?_
  obtain ⟨m_dd_bv, m_dd_bl, m_dd_bh, m_dd_bd, m_dd_bs, m_bv_bl, m_bv_bh, m_bv_bd, m_bv_bs, m_bl_bh, m_bl_bd, m_bl_bs, m_bh_bd, m_bh_bs, m_bd_bs⟩ := id NE
  obtain ⟨k_dd, k_bv, k_bl, k_bh, k_bd, k_bs⟩ := id GS
  obtain ⟨y106_E, y106_F0, y106_F1, y106_F2, y106_F3, y106_F4, y106_F5, y106_F6, y106_F7, y106_A0, y106_A1, y106_A2, y106_A3, y106_A4⟩ := id HD
  refine go (s₁.setTop (mkF m 2 #[.val (.ref dd), .val (.int p1), .val (.int p2), .val (.int p3), .val (.double dx), .second, .unset, .unset, .unset, .unset, .unset] [(.double dx)])) _ (fun t9 k9 => ?_) ?_
  · show Steps p.tables e below (s₁.setTop (mkF m 0 #[.val (.ref dd), .val (.int p1), .val (.int p2), .val (.int p3), .val (.double dx), .second, .unset, .unset, .unset, .unset, .unset] [])) _
    refine XS.dload X0.here hx rfl (hb hby d15_0) rfl ?_
    exact k9
  obtain ⟨_, _, ⟨T107, L107, k107, n107⟩, -, X107, ⟨Lc107, hQ107, l107, y107, z107⟩, st107⟩ := Jvm.LawKit.callS X0 hx (y := (⟨"java/lang/Double", "doubleToLongBits", "(D)J"⟩ : MethodName)) hown (mvT hZ (hw _ (List.mem_of_getElem? (i := 128) rfl))) (mvT hZ (hw _ (List.mem_of_getElem? (i := 129) rfl))) (mvT hZ (hw _ (List.mem_of_getElem? (i := 112) rfl))) (mvT hZ (hw _ (List.mem_of_getElem? (i := 130) rfl))) (by decide) (backOf (W := 0) (rm16 l Z a0 hw [] dx h0 n0 Z0 hx1) hZ (hw _ (List.mem_of_getElem? (i := 130) rfl)) (hw _ (List.mem_of_getElem? (i := 112) rfl)) (by decide) (by decide)) (g := (mkF m 2 #[.val (.ref dd), .val (.int p1), .val (.int p2), .val (.int p3), .val (.double dx), .second, .unset, .unset, .unset, .unset, .unset] [(.double dx)])) rfl (by rw [hml]; rfl) (argsL := [(.double dx)]) (rest := []) (lenOf pd__28D_29J rfl) rfl (by show 2 * 0 + _ ≤ _; exact Nat.le_of_eq rfl) (hb hby d15_2) (fun _ _ => ⟨rfl, e0, (by decide : 0 + 0 ≤ _), (by decide : 0 + 0 ≤ _)⟩)
  dsimp only [Pt.U, Pt.locs, Pt.cells, Pt.slots] at X107 l107 y107 z107 st107 hQ107
  subst l107 y107 z107
  obtain ⟨rfl, N107q, e107q⟩ := hQ107
  have N107 := Fr.app N0 N107q
  refine go (T107.setTop (mkF m 5 #[.val (.ref dd), .val (.int p1), .val (.int p2), .val (.int p3), .val (.double dx), .second, .unset, .unset, .unset, .unset, .unset] [(.long (dx.toInt64))])) _ (fun t9 k9 => st107 _ k9) ?_
  refine go (T107.setTop (mkF m 8 #[.val (.ref dd), .val (.int p1), .val (.int p2), .val (.int p3), .val (.double dx), .second, .val (.long (dx.toInt64)), .second, .unset, .unset, .unset] [(.ref dd)])) _ (fun t9 k9 => ?_) ?_
  · show Steps p.tables e below (T107.setTop (mkF m 5 #[.val (.ref dd), .val (.int p1), .val (.int p2), .val (.int p3), .val (.double dx), .second, .unset, .unset, .unset, .unset, .unset] [(.long (dx.toInt64))])) _
    refine XS.lstore X107.here hx rfl (hb hby d15_5) rfl (l' := #[.val (.ref dd), .val (.int p1), .val (.int p2), .val (.int p3), .val (.double dx), .second, .val (.long (dx.toInt64)), .second, .unset, .unset, .unset]) rfl ?_
    show Steps p.tables e below (T107.setTop (mkF m 7 #[.val (.ref dd), .val (.int p1), .val (.int p2), .val (.int p3), .val (.double dx), .second, .val (.long (dx.toInt64)), .second, .unset, .unset, .unset] [])) _
    refine XS.aloadN X107.here hx rfl (hb hby d15_7) rfl rfl ?_
    exact k9
  obtain ⟨T108, X108, e108, st108⟩ := getF X107 hx hZ hown (host := "") (Or.inl (hw _ (List.mem_of_getElem? (i := 89) rfl))) Via.refl e107q y106_F4 (g := (mkF m 8 #[.val (.ref dd), .val (.int p1), .val (.int p2), .val (.int p3), .val (.double dx), .second, .val (.long (dx.toInt64)), .second, .unset, .unset, .unset] [(.ref dd)])) rfl rfl (hb hby d15_8)
  refine go (T108.setTop (mkF m 11 #[.val (.ref dd), .val (.int p1), .val (.int p2), .val (.int p3), .val (.double dx), .second, .val (.long (dx.toInt64)), .second, .unset, .unset, .unset] [(.ref bs)])) _ (fun t9 k9 => st108 _ k9) ?_
  obtain ⟨cl109, Ar109, Sz109, Hv109⟩ := y106_A4
  have u110 : own_A Z h0 bs .int 2048 (fun j => .int (sl j)) := ⟨cl109, Ar109, Sz109, Hv109⟩
  refine go (T108.setTop (mkF m 21 #[.val (.ref dd), .val (.int p1), .val (.int p2), .val (.int p3), .val (.double dx), .second, .val (.long (dx.toInt64)), .second, .val (.int (2047 : Int32)), .unset, .unset] [(.long (dx.toInt64)), (.int p3), (.int p2), (.int p1)])) _ (fun t9 k9 => ?_) ?_
  · show Steps p.tables e below (T108.setTop (mkF m 11 #[.val (.ref dd), .val (.int p1), .val (.int p2), .val (.int p3), .val (.double dx), .second, .val (.long (dx.toInt64)), .second, .unset, .unset, .unset] [(.ref bs)])) _
    refine X108.arraylength hx (by rw [e108]; exact Ar109.1) (State.isArrayOf_alike hZ.alike Ar109.2.1) (g := (mkF m 11 #[.val (.ref dd), .val (.int p1), .val (.int p2), .val (.int p3), .val (.double dx), .second, .val (.long (dx.toInt64)), .second, .unset, .unset, .unset] [(.ref bs)])) rfl (rest := []) rfl (hb hby d15_11) _ ?_
    rw [len_of (z := (2048 : Int32)) (Sz109.trans rfl) (by decide)]
    show Steps p.tables e below (T108.setTop (mkF m 12 #[.val (.ref dd), .val (.int p1), .val (.int p2), .val (.int p3), .val (.double dx), .second, .val (.long (dx.toInt64)), .second, .unset, .unset, .unset] [(.int (2048 : Int32))])) _
    refine XS.iconst X108.here hx rfl (hb hby d15_12) ?_
    show Steps p.tables e below (T108.setTop (mkF m 13 #[.val (.ref dd), .val (.int p1), .val (.int p2), .val (.int p3), .val (.double dx), .second, .val (.long (dx.toInt64)), .second, .unset, .unset, .unset] [(.int (1 : Int32)), (.int (2048 : Int32))])) _
    refine XS.isub X108.here hx rfl (hb hby d15_13) rfl ?_
    show Steps p.tables e below (T108.setTop (mkF m 14 #[.val (.ref dd), .val (.int p1), .val (.int p2), .val (.int p3), .val (.double dx), .second, .val (.long (dx.toInt64)), .second, .unset, .unset, .unset] [(.int (2047 : Int32))])) _
    refine XS.istore X108.here hx rfl (hb hby d15_14) rfl (l' := #[.val (.ref dd), .val (.int p1), .val (.int p2), .val (.int p3), .val (.double dx), .second, .val (.long (dx.toInt64)), .second, .val (.int (2047 : Int32)), .unset, .unset]) rfl ?_
    show Steps p.tables e below (T108.setTop (mkF m 16 #[.val (.ref dd), .val (.int p1), .val (.int p2), .val (.int p3), .val (.double dx), .second, .val (.long (dx.toInt64)), .second, .val (.int (2047 : Int32)), .unset, .unset] [])) _
    refine XS.iloadN X108.here hx rfl (hb hby d15_16) rfl ?_
    show Steps p.tables e below (T108.setTop (mkF m 17 #[.val (.ref dd), .val (.int p1), .val (.int p2), .val (.int p3), .val (.double dx), .second, .val (.long (dx.toInt64)), .second, .val (.int (2047 : Int32)), .unset, .unset] [(.int p1)])) _
    refine XS.iloadN X108.here hx rfl (hb hby d15_17) rfl ?_
    show Steps p.tables e below (T108.setTop (mkF m 18 #[.val (.ref dd), .val (.int p1), .val (.int p2), .val (.int p3), .val (.double dx), .second, .val (.long (dx.toInt64)), .second, .val (.int (2047 : Int32)), .unset, .unset] [(.int p2), (.int p1)])) _
    refine XS.iloadN X108.here hx rfl (hb hby d15_18) rfl ?_
    show Steps p.tables e below (T108.setTop (mkF m 19 #[.val (.ref dd), .val (.int p1), .val (.int p2), .val (.int p3), .val (.double dx), .second, .val (.long (dx.toInt64)), .second, .val (.int (2047 : Int32)), .unset, .unset] [(.int p3), (.int p2), (.int p1)])) _
    refine XS.lload X108.here hx rfl (hb hby d15_19) rfl ?_
    exact k9
  obtain ⟨_, _, ⟨T111, L111, k111, n111⟩, -, X111, ⟨Lc111, hQ111, l111, y111, z111⟩, st111⟩ := Jvm.LawKit.callS X108 hx (y := (⟨"com/example/horizonte/horizonte/dd/DecisionDiagrams", "hash", "(IIIJ)I"⟩ : MethodName)) hown (mvT hZ (hw _ (List.mem_of_getElem? (i := 137) rfl))) (mvT hZ (hw _ (List.mem_of_getElem? (i := 138) rfl))) (mvT hZ (hw _ (List.mem_of_getElem? (i := 2) rfl))) (mvT hZ (hw _ (List.mem_of_getElem? (i := 139) rfl))) (by decide) (backOf (W := 0) (rm18 l Z a0 hw [] p1 p2 p3 dx.toInt64 h0 n0 Z0) hZ (hw _ (List.mem_of_getElem? (i := 139) rfl)) (hw _ (List.mem_of_getElem? (i := 2) rfl)) (by decide) (by decide)) (g := (mkF m 21 #[.val (.ref dd), .val (.int p1), .val (.int p2), .val (.int p3), .val (.double dx), .second, .val (.long (dx.toInt64)), .second, .val (.int (2047 : Int32)), .unset, .unset] [(.long (dx.toInt64)), (.int p3), (.int p2), (.int p1)])) rfl (by rw [hml]; rfl) (argsL := [(.int p1), (.int p2), (.int p3), (.long (dx.toInt64))]) (rest := []) (lenOf pd__28IIIJ_29I rfl) rfl (by show 2 * 0 + _ ≤ _; exact Nat.le_of_eq rfl) (hb hby d15_21) (fun _ _ => ⟨rfl, e108, (by decide : 0 + 0 ≤ _), (by decide : 0 + 0 ≤ _)⟩)
  dsimp only [Pt.U, Pt.locs, Pt.cells, Pt.slots] at X111 l111 y111 z111 st111 hQ111
  subst l111 y111 z111
  obtain ⟨⟨hk, rfl⟩, N111q, e111q⟩ := hQ111
  have N111 := Fr.app N107 N111q
  refine go (T111.setTop (mkF m 24 #[.val (.ref dd), .val (.int p1), .val (.int p2), .val (.int p3), .val (.double dx), .second, .val (.long (dx.toInt64)), .second, .val (.int (2047 : Int32)), .unset, .unset] [(.int hk)])) _ (fun t9 k9 => st111 _ k9) ?_
  refine go (T111.setTop (mkF m 27 #[.val (.ref dd), .val (.int p1), .val (.int p2), .val (.int p3), .val (.double dx), .second, .val (.long (dx.toInt64)), .second, .val (.int (2047 : Int32)), .unset, .unset] [(.int (hk &&& (2047 : Int32)))])) _ (fun t9 k9 => ?_) ?_
  · show Steps p.tables e below (T111.setTop (mkF m 24 #[.val (.ref dd), .val (.int p1), .val (.int p2), .val (.int p3), .val (.double dx), .second, .val (.long (dx.toInt64)), .second, .val (.int (2047 : Int32)), .unset, .unset] [(.int hk)])) _
    refine XS.iload X111.here hx rfl (hb hby d15_24) rfl ?_
    show Steps p.tables e below (T111.setTop (mkF m 26 #[.val (.ref dd), .val (.int p1), .val (.int p2), .val (.int p3), .val (.double dx), .second, .val (.long (dx.toInt64)), .second, .val (.int (2047 : Int32)), .unset, .unset] [(.int (2047 : Int32)), (.int hk)])) _
    refine XS.iand X111.here hx rfl (hb hby d15_26) rfl ?_
    exact k9
  obtain ⟨i0, hi0, ei0⟩ := own_mask11 hk
  rw [ei0, (congrArg Int32.ofNat (by omega) : Int32.ofNat i0 = Int32.ofNat ((i0 + 0) % 2048))]
  refine go (T111.setTop (mkF m 29 #[.val (.ref dd), .val (.int p1), .val (.int p2), .val (.int p3), .val (.double dx), .second, .val (.long (dx.toInt64)), .second, .val (.int (2047 : Int32)), .val (.int (Int32.ofNat ((i0 + 0) % 2048))), .unset] [])) _ (fun t9 k9 => ?_) ?_
  · show Steps p.tables e below (T111.setTop (mkF m 27 #[.val (.ref dd), .val (.int p1), .val (.int p2), .val (.int p3), .val (.double dx), .second, .val (.long (dx.toInt64)), .second, .val (.int (2047 : Int32)), .unset, .unset] [(.int (Int32.ofNat ((i0 + 0) % 2048)))])) _
    refine XS.istore X111.here hx rfl (hb hby d15_27) rfl (l' := #[.val (.ref dd), .val (.int p1), .val (.int p2), .val (.int p3), .val (.double dx), .second, .val (.long (dx.toInt64)), .second, .val (.int (2047 : Int32)), .val (.int (Int32.ofNat ((i0 + 0) % 2048))), .unset]) rfl ?_
    exact k9
  have loop : ∀ (f t : Nat) (T1 : State) (L1 : List Loc) (os : Slot) (X1 : Stand p l e ({ frames := 2, cells := 0, slots := 0, locals := 28 } : Room) s m #[(.ref dd), (.int p1), (.int p2), (.int p3), (.double dx)] below meth c T1 L1 0 0) (e1 : T1.heap = h0) (N1 : Fr n0 L1) (hos : os = .unset ∨ ∃ q, os = .val (.int q)), t + f = 6 → (∀ u, u < t → sl ((i0 + u) % 2048) ≠ (-1 : Int32)) → G (T1.setTop (mkF m 29 #[.val (.ref dd), .val (.int p1), .val (.int p2), .val (.int p3), .val (.double dx), .second, .val (.long (dx.toInt64)), .second, .val (.int (2047 : Int32)), .val (.int (Int32.ofNat ((i0 + t) % 2048))), os] [])) := by
    intro f
    induction f with
    | zero =>
      intro t T1 L1 os X1 e1 N1 hos ht hall
      exact absurd (own_probe HO (i0 := i0) (t := t) (by omega) hall) (by omega)
    | succ f ih =>
      intro t T1 L1 os X1 e1 N1 hos ht hall
      obtain ⟨jj, ejj⟩ : ∃ jj, (i0 + t) % 2048 = jj := ⟨_, rfl⟩
      have hjj : jj < 2048 := by omega
      rw [ejj]
      have hjn : (Int32.ofNat jj).toNatClampNeg = jj := own_n32 (by omega)
      have hjl : (Int32.ofNat jj).toNatClampNeg < 2048 := by rw [hjn]; exact hjj
      refine go (T1.setTop (mkF m 30 #[.val (.ref dd), .val (.int p1), .val (.int p2), .val (.int p3), .val (.double dx), .second, .val (.long (dx.toInt64)), .second, .val (.int (2047 : Int32)), .val (.int (Int32.ofNat jj)), os] [(.ref dd)])) _ (fun t9 k9 => ?_) ?_
      · show Steps p.tables e below (T1.setTop (mkF m 29 #[.val (.ref dd), .val (.int p1), .val (.int p2), .val (.int p3), .val (.double dx), .second, .val (.long (dx.toInt64)), .second, .val (.int (2047 : Int32)), .val (.int (Int32.ofNat jj)), os] [])) _
        refine XS.aloadN X1.here hx rfl (hb hby d15_29) rfl rfl ?_
        exact k9
      obtain ⟨T112, X112, e112, st112⟩ := getF X1 hx hZ hown (host := "") (Or.inl (hw _ (List.mem_of_getElem? (i := 89) rfl))) Via.refl e1 y106_F4 (g := (mkF m 30 #[.val (.ref dd), .val (.int p1), .val (.int p2), .val (.int p3), .val (.double dx), .second, .val (.long (dx.toInt64)), .second, .val (.int (2047 : Int32)), .val (.int (Int32.ofNat jj)), os] [(.ref dd)])) rfl rfl (hb hby d15_30)
      refine go (T112.setTop (mkF m 33 #[.val (.ref dd), .val (.int p1), .val (.int p2), .val (.int p3), .val (.double dx), .second, .val (.long (dx.toInt64)), .second, .val (.int (2047 : Int32)), .val (.int (Int32.ofNat jj)), os] [(.ref bs)])) _ (fun t9 k9 => st112 _ k9) ?_
      refine go (T112.setTop (mkF m 35 #[.val (.ref dd), .val (.int p1), .val (.int p2), .val (.int p3), .val (.double dx), .second, .val (.long (dx.toInt64)), .second, .val (.int (2047 : Int32)), .val (.int (Int32.ofNat jj)), os] [(.int (Int32.ofNat jj)), (.ref bs)])) _ (fun t9 k9 => ?_) ?_
      · show Steps p.tables e below (T112.setTop (mkF m 33 #[.val (.ref dd), .val (.int p1), .val (.int p2), .val (.int p3), .val (.double dx), .second, .val (.long (dx.toInt64)), .second, .val (.int (2047 : Int32)), .val (.int (Int32.ofNat jj)), os] [(.ref bs)])) _
        refine XS.iload X112.here hx rfl (hb hby d15_33) rfl ?_
        exact k9
      obtain ⟨cl113, Ar113, Sz113, Hv113⟩ := u110
      have u114 : own_A Z h0 bs .int 2048 (fun j => .int (sl j)) := ⟨cl113, Ar113, Sz113, Hv113⟩
      refine go (T112.setTop (mkF m 37 #[.val (.ref dd), .val (.int p1), .val (.int p2), .val (.int p3), .val (.double dx), .second, .val (.long (dx.toInt64)), .second, .val (.int (2047 : Int32)), .val (.int (Int32.ofNat jj)), os] [(.int (-1 : Int32)), (.int (sl jj))])) _ (fun t9 k9 => ?_) ?_
      · show Steps p.tables e below (T112.setTop (mkF m 35 #[.val (.ref dd), .val (.int p1), .val (.int p2), .val (.int p3), .val (.double dx), .second, .val (.long (dx.toInt64)), .second, .val (.int (2047 : Int32)), .val (.int (Int32.ofNat jj)), os] [(.int (Int32.ofNat jj)), (.ref bs)])) _
        refine X112.iaload hx (j := (Int32.ofNat jj)) (v := (.int (sl jj))) (by rw [e112]; exact Ar113.1) (State.isArrayOf_alike hZ.alike Ar113.2.1) Ar113.2.2 (own_hin Sz113 (own_nn (by omega)) hjl) ((Hv113 _ hjl).trans (congrArg some (congrArg (fun j => Value.int (sl j)) hjn))) (g := (mkF m 35 #[.val (.ref dd), .val (.int p1), .val (.int p2), .val (.int p3), .val (.double dx), .second, .val (.long (dx.toInt64)), .second, .val (.int (2047 : Int32)), .val (.int (Int32.ofNat jj)), os] [(.int (Int32.ofNat jj)), (.ref bs)])) rfl rfl (hb hby d15_35) _ ?_
        show Steps p.tables e below (T112.setTop (mkF m 36 #[.val (.ref dd), .val (.int p1), .val (.int p2), .val (.int p3), .val (.double dx), .second, .val (.long (dx.toInt64)), .second, .val (.int (2047 : Int32)), .val (.int (Int32.ofNat jj)), os] [(.int (sl jj))])) _
        refine XS.iconst X112.here hx rfl (hb hby d15_36) ?_
        exact k9
      by_cases hsl : (sl jj) = (-1 : Int32)
      · refine go (T112.setTop (mkF m 119 #[.val (.ref dd), .val (.int p1), .val (.int p2), .val (.int p3), .val (.double dx), .second, .val (.long (dx.toInt64)), .second, .val (.int (2047 : Int32)), .val (.int (Int32.ofNat jj)), os] [(.double dx), (.int p3), (.int p2), (.int p1), (.ref dd)])) _ (fun t9 k9 => ?_) ?_
        · show Steps p.tables e below (T112.setTop (mkF m 37 #[.val (.ref dd), .val (.int p1), .val (.int p2), .val (.int p3), .val (.double dx), .second, .val (.long (dx.toInt64)), .second, .val (.int (2047 : Int32)), .val (.int (Int32.ofNat jj)), os] [(.int (-1 : Int32)), (.int (sl jj))])) _
          refine XS.icmpYes X112.here hx rfl (pc0 := 37) (pc' := 113) rfl (hb hby d15_37) rfl (teq hsl).1 (by decide) (by decide) ?_
          show Steps p.tables e below (T112.setTop (mkF m 113 #[.val (.ref dd), .val (.int p1), .val (.int p2), .val (.int p3), .val (.double dx), .second, .val (.long (dx.toInt64)), .second, .val (.int (2047 : Int32)), .val (.int (Int32.ofNat jj)), os] [])) _
          refine XS.aloadN X112.here hx rfl (hb hby d15_113) rfl rfl ?_
          show Steps p.tables e below (T112.setTop (mkF m 114 #[.val (.ref dd), .val (.int p1), .val (.int p2), .val (.int p3), .val (.double dx), .second, .val (.long (dx.toInt64)), .second, .val (.int (2047 : Int32)), .val (.int (Int32.ofNat jj)), os] [(.ref dd)])) _
          refine XS.iloadN X112.here hx rfl (hb hby d15_114) rfl ?_
          show Steps p.tables e below (T112.setTop (mkF m 115 #[.val (.ref dd), .val (.int p1), .val (.int p2), .val (.int p3), .val (.double dx), .second, .val (.long (dx.toInt64)), .second, .val (.int (2047 : Int32)), .val (.int (Int32.ofNat jj)), os] [(.int p1), (.ref dd)])) _
          refine XS.iloadN X112.here hx rfl (hb hby d15_115) rfl ?_
          show Steps p.tables e below (T112.setTop (mkF m 116 #[.val (.ref dd), .val (.int p1), .val (.int p2), .val (.int p3), .val (.double dx), .second, .val (.long (dx.toInt64)), .second, .val (.int (2047 : Int32)), .val (.int (Int32.ofNat jj)), os] [(.int p2), (.int p1), (.ref dd)])) _
          refine XS.iloadN X112.here hx rfl (hb hby d15_116) rfl ?_
          show Steps p.tables e below (T112.setTop (mkF m 117 #[.val (.ref dd), .val (.int p1), .val (.int p2), .val (.int p3), .val (.double dx), .second, .val (.long (dx.toInt64)), .second, .val (.int (2047 : Int32)), .val (.int (Int32.ofNat jj)), os] [(.int p3), (.int p2), (.int p1), (.ref dd)])) _
          refine XS.dload X112.here hx rfl (hb hby d15_117) rfl ?_
          exact k9
        obtain ⟨cq115, q115, q115'⟩ := (y106_E).cell
        obtain ⟨_, _, ⟨T115, L115, k115, n115⟩, -, X115, ⟨Lc115, hQ115, l115, y115, z115⟩, st115⟩ := X112.privateBack hx (y := (⟨"com/example/horizonte/horizonte/dd/DecisionDiagrams", "add", "(IIID)I"⟩ : MethodName)) hown (mvT hZ (hw _ (List.mem_of_getElem? (i := 143) rfl))) (mvT hZ (hw _ (List.mem_of_getElem? (i := 144) rfl))) (own_selP (mvT hZ (hw _ (List.mem_of_getElem? (i := 1) rfl))) (mvP hZ (hw _ (List.mem_of_getElem? (i := 145) rfl)) (args := #[])) (mvT hZ (hw _ (List.mem_of_getElem? (i := 144) rfl))) (by decide)) (Cond.privateMethod_at (mvP hZ (hw _ (List.mem_of_getElem? (i := 145) rfl)) (args := #[]))) (mvT hZ (hw _ (List.mem_of_getElem? (i := 146) rfl))) (by decide) (backOf (W := 0) (rm19 l Z a0 hw [] dd p1 p2 p3 dx bv bl bh bd bs cnt vv lo hi dv sl zz oo h0 n0 Z0 HD HO NE GS hc) hZ (hw _ (List.mem_of_getElem? (i := 146) rfl)) (hw _ (List.mem_of_getElem? (i := 2) rfl)) (by decide) (by decide)) (g := (mkF m 119 #[.val (.ref dd), .val (.int p1), .val (.int p2), .val (.int p3), .val (.double dx), .second, .val (.long (dx.toInt64)), .second, .val (.int (2047 : Int32)), .val (.int (Int32.ofNat jj)), os] [(.double dx), (.int p3), (.int p2), (.int p1), (.ref dd)])) rfl (by rw [hml]; rfl) (Steps.refl _) (a := dd) (by rw [e112]; exact q115) q115' (argsL := [(.int p1), (.int p2), (.int p3), (.double dx)]) (rest := []) (lenOf pd__28IIID_29I rfl) rfl (by show 2 * 0 + _ ≤ _; exact Nat.le_of_eq rfl) (hb hby d15_119) (fun _ _ => ⟨rfl, e112, (by decide : 0 + 0 ≤ _), (by decide : 0 + 0 ≤ _)⟩)
        dsimp only [Pt.U, Pt.locs, Pt.cells, Pt.slots] at X115 l115 y115 z115 st115 hQ115
        subst l115 y115 z115
        obtain ⟨rfl, N115q, Kq, Dq⟩ := hQ115
        have N115 := Fr.app N1 N115q
        refine go (T115.setTop (mkF m 122 #[.val (.ref dd), .val (.int p1), .val (.int p2), .val (.int p3), .val (.double dx), .second, .val (.long (dx.toInt64)), .second, .val (.int (2047 : Int32)), .val (.int (Int32.ofNat jj)), os] [(.int (Int32.ofNat cnt))])) _ (fun t9 k9 => st115.trans k9) ?_
        have u116 : Exa Z T115.heap dd "com/example/horizonte/horizonte/dd/DecisionDiagrams" := y106_E.keep Kq
        have u117 : Keep h0 T115.heap [dd, bv, bl, bh, bd, bs] := (Keep.refl h0 [dd, bv, bl, bh, bd, bs]).trans Kq (allS (Or.inl (List.mem_of_getElem? (i := 0) rfl)) (allS (Or.inl (List.mem_of_getElem? (i := 1) rfl)) (allS (Or.inl (List.mem_of_getElem? (i := 2) rfl)) (allS (Or.inl (List.mem_of_getElem? (i := 3) rfl)) (allS (Or.inl (List.mem_of_getElem? (i := 4) rfl)) (allS (Or.inl (List.mem_of_getElem? (i := 5) rfl)) all0))))))
        obtain ⟨y118_E, y118_F0, y118_F1, y118_F2, y118_F3, y118_F4, y118_F5, y118_F6, y118_F7, y118_A0, y118_A1, y118_A2, y118_A3, y118_A4⟩ := Dq
        refine go (T115.setTop (mkF m 125 #[.val (.ref dd), .val (.int p1), .val (.int p2), .val (.int p3), .val (.double dx), .second, .val (.long (dx.toInt64)), .second, .val (.int (2047 : Int32)), .val (.int (Int32.ofNat jj)), .val (.int (Int32.ofNat cnt))] [(.ref dd)])) _ (fun t9 k9 => ?_) ?_
        · show Steps p.tables e below (T115.setTop (mkF m 122 #[.val (.ref dd), .val (.int p1), .val (.int p2), .val (.int p3), .val (.double dx), .second, .val (.long (dx.toInt64)), .second, .val (.int (2047 : Int32)), .val (.int (Int32.ofNat jj)), os] [(.int (Int32.ofNat cnt))])) _
          refine XS.istore X115.here hx rfl (hb hby d15_122) rfl (l' := #[.val (.ref dd), .val (.int p1), .val (.int p2), .val (.int p3), .val (.double dx), .second, .val (.long (dx.toInt64)), .second, .val (.int (2047 : Int32)), .val (.int (Int32.ofNat jj)), .val (.int (Int32.ofNat cnt))]) (by rcases hos with rfl | ⟨ov, rfl⟩ <;> rfl) ?_
          show Steps p.tables e below (T115.setTop (mkF m 124 #[.val (.ref dd), .val (.int p1), .val (.int p2), .val (.int p3), .val (.double dx), .second, .val (.long (dx.toInt64)), .second, .val (.int (2047 : Int32)), .val (.int (Int32.ofNat jj)), .val (.int (Int32.ofNat cnt))] [])) _
          refine XS.aloadN X115.here hx rfl (hb hby d15_124) rfl rfl ?_
          exact k9
        obtain ⟨T119, X119, e119, st119⟩ := getF X115 hx hZ hown (host := "") (Or.inl (hw _ (List.mem_of_getElem? (i := 89) rfl))) Via.refl rfl y118_F4 (g := (mkF m 125 #[.val (.ref dd), .val (.int p1), .val (.int p2), .val (.int p3), .val (.double dx), .second, .val (.long (dx.toInt64)), .second, .val (.int (2047 : Int32)), .val (.int (Int32.ofNat jj)), .val (.int (Int32.ofNat cnt))] [(.ref dd)])) rfl rfl (hb hby d15_125)
        refine go (T119.setTop (mkF m 128 #[.val (.ref dd), .val (.int p1), .val (.int p2), .val (.int p3), .val (.double dx), .second, .val (.long (dx.toInt64)), .second, .val (.int (2047 : Int32)), .val (.int (Int32.ofNat jj)), .val (.int (Int32.ofNat cnt))] [(.ref bs)])) _ (fun t9 k9 => st119 _ k9) ?_
        refine go (T119.setTop (mkF m 132 #[.val (.ref dd), .val (.int p1), .val (.int p2), .val (.int p3), .val (.double dx), .second, .val (.long (dx.toInt64)), .second, .val (.int (2047 : Int32)), .val (.int (Int32.ofNat jj)), .val (.int (Int32.ofNat cnt))] [(.int (Int32.ofNat cnt)), (.int (Int32.ofNat jj)), (.ref bs)])) _ (fun t9 k9 => ?_) ?_
        · show Steps p.tables e below (T119.setTop (mkF m 128 #[.val (.ref dd), .val (.int p1), .val (.int p2), .val (.int p3), .val (.double dx), .second, .val (.long (dx.toInt64)), .second, .val (.int (2047 : Int32)), .val (.int (Int32.ofNat jj)), .val (.int (Int32.ofNat cnt))] [(.ref bs)])) _
          refine XS.iload X119.here hx rfl (hb hby d15_128) rfl ?_
          show Steps p.tables e below (T119.setTop (mkF m 130 #[.val (.ref dd), .val (.int p1), .val (.int p2), .val (.int p3), .val (.double dx), .second, .val (.long (dx.toInt64)), .second, .val (.int (2047 : Int32)), .val (.int (Int32.ofNat jj)), .val (.int (Int32.ofNat cnt))] [(.int (Int32.ofNat jj)), (.ref bs)])) _
          refine XS.iload X119.here hx rfl (hb hby d15_130) rfl ?_
          exact k9
        obtain ⟨cl120, Ar120, Sz120, Hv120⟩ := y118_A4
        have u121 : own_A Z T115.heap bs .int 2048 (fun j => .int (sl j)) := ⟨cl120, Ar120, Sz120, Hv120⟩
        obtain ⟨T122, h122, X122, e122, W122, st122⟩ := stI X119 hx hZ e119 Ar120 (j := (Int32.ofNat jj)) (own_hin Sz120 (own_nn (by omega)) hjl) (g := (mkF m 132 #[.val (.ref dd), .val (.int p1), .val (.int p2), .val (.int p3), .val (.double dx), .second, .val (.long (dx.toInt64)), .second, .val (.int (2047 : Int32)), .val (.int (Int32.ofNat jj)), .val (.int (Int32.ofNat cnt))] [(.int (Int32.ofNat cnt)), (.int (Int32.ofNat jj)), (.ref bs)])) rfl rfl (hb hby d15_132)
        have N122 := Fr.snoc X122 N115 k_bs
        refine go (T122.setTop (mkF m 133 #[.val (.ref dd), .val (.int p1), .val (.int p2), .val (.int p3), .val (.double dx), .second, .val (.long (dx.toInt64)), .second, .val (.int (2047 : Int32)), .val (.int (Int32.ofNat jj)), .val (.int (Int32.ofNat cnt))] [])) _ (fun t9 k9 => st122 _ k9) ?_
        have u123 : Exa Z h122 dd "com/example/horizonte/horizonte/dd/DecisionDiagrams" := y118_E.wr W122
        have u124 : Fld Z h122 dd "com/example/horizonte/horizonte/dd/DecisionDiagrams" "variables" "[I" (.ref bv) := y118_F0.other W122 (Or.inl m_dd_bs)
        have u125 : Fld Z h122 dd "com/example/horizonte/horizonte/dd/DecisionDiagrams" "lows" "[I" (.ref bl) := y118_F1.other W122 (Or.inl m_dd_bs)
        have u126 : Fld Z h122 dd "com/example/horizonte/horizonte/dd/DecisionDiagrams" "highs" "[I" (.ref bh) := y118_F2.other W122 (Or.inl m_dd_bs)
        have u127 : Fld Z h122 dd "com/example/horizonte/horizonte/dd/DecisionDiagrams" "values" "[D" (.ref bd) := y118_F3.other W122 (Or.inl m_dd_bs)
        have u128 : Fld Z h122 dd "com/example/horizonte/horizonte/dd/DecisionDiagrams" "slots" "[I" (.ref bs) := y118_F4.other W122 (Or.inl m_dd_bs)
        have u129 : Fld Z h122 dd "com/example/horizonte/horizonte/dd/DecisionDiagrams" "count" "I" (.int (Int32.ofNat (cnt + 1))) := y118_F5.other W122 (Or.inl m_dd_bs)
        have u130 : Fld Z h122 dd "com/example/horizonte/horizonte/dd/DecisionDiagrams" "zero" "I" (.int zz) := y118_F6.other W122 (Or.inl m_dd_bs)
        have u131 : Fld Z h122 dd "com/example/horizonte/horizonte/dd/DecisionDiagrams" "one" "I" (.int oo) := y118_F7.other W122 (Or.inl m_dd_bs)
        have u132 : own_A Z h122 bv .int 1024 (fun j => .int ((own_upd vv cnt p1) j)) := own_A_other y118_A0 W122 m_bv_bs
        have u133 : own_A Z h122 bl .int 1024 (fun j => .int ((own_upd lo cnt p2) j)) := own_A_other y118_A1 W122 m_bl_bs
        have u134 : own_A Z h122 bh .int 1024 (fun j => .int ((own_upd hi cnt p3) j)) := own_A_other y118_A2 W122 m_bh_bs
        have u135 : own_A Z h122 bd .double 1024 (fun j => .double ((own_upd dv cnt dx) j)) := own_A_other y118_A3 W122 m_bd_bs
        have u136 : Keep h0 h122 [dd, bv, bl, bh, bd, bs] := u117.wr W122 (Or.inl (List.mem_of_getElem? (i := 5) rfl))
        have u137 : own_A Z h122 bs .int 2048 (fun j => .int (own_upd sl jj (Int32.ofNat cnt) j)) := own_A_congr (own_A_set Ar120 Sz120 Hv120 W122 hjl) (fun j hj => by rw [hjn]; exact own_upd_val Value.int sl jj (Int32.ofNat cnt) 2048 j hj)
        refine go (T122.setTop (mkF m 135 #[.val (.ref dd), .val (.int p1), .val (.int p2), .val (.int p3), .val (.double dx), .second, .val (.long (dx.toInt64)), .second, .val (.int (2047 : Int32)), .val (.int (Int32.ofNat jj)), .val (.int (Int32.ofNat cnt))] [(.ref dd), (.int (2 : Int32))])) _ (fun t9 k9 => ?_) ?_
        · show Steps p.tables e below (T122.setTop (mkF m 133 #[.val (.ref dd), .val (.int p1), .val (.int p2), .val (.int p3), .val (.double dx), .second, .val (.long (dx.toInt64)), .second, .val (.int (2047 : Int32)), .val (.int (Int32.ofNat jj)), .val (.int (Int32.ofNat cnt))] [])) _
          refine XS.iconst X122.here hx rfl (hb hby d15_133) ?_
          show Steps p.tables e below (T122.setTop (mkF m 134 #[.val (.ref dd), .val (.int p1), .val (.int p2), .val (.int p3), .val (.double dx), .second, .val (.long (dx.toInt64)), .second, .val (.int (2047 : Int32)), .val (.int (Int32.ofNat jj)), .val (.int (Int32.ofNat cnt))] [(.int (2 : Int32))])) _
          refine XS.aloadN X122.here hx rfl (hb hby d15_134) rfl rfl ?_
          exact k9
        obtain ⟨T138, X138, e138, st138⟩ := getF X122 hx hZ hown (host := "") (Or.inl (hw _ (List.mem_of_getElem? (i := 147) rfl))) Via.refl e122 u129 (g := (mkF m 135 #[.val (.ref dd), .val (.int p1), .val (.int p2), .val (.int p3), .val (.double dx), .second, .val (.long (dx.toInt64)), .second, .val (.int (2047 : Int32)), .val (.int (Int32.ofNat jj)), .val (.int (Int32.ofNat cnt))] [(.ref dd), (.int (2 : Int32))])) rfl rfl (hb hby d15_135)
        refine go (T138.setTop (mkF m 138 #[.val (.ref dd), .val (.int p1), .val (.int p2), .val (.int p3), .val (.double dx), .second, .val (.long (dx.toInt64)), .second, .val (.int (2047 : Int32)), .val (.int (Int32.ofNat jj)), .val (.int (Int32.ofNat cnt))] [(.int (Int32.ofNat (cnt + 1))), (.int (2 : Int32))])) _ (fun t9 k9 => st138 _ k9) ?_
        refine go (T138.setTop (mkF m 140 #[.val (.ref dd), .val (.int p1), .val (.int p2), .val (.int p3), .val (.double dx), .second, .val (.long (dx.toInt64)), .second, .val (.int (2047 : Int32)), .val (.int (Int32.ofNat jj)), .val (.int (Int32.ofNat cnt))] [(.ref dd), (.int ((2 : Int32) * (Int32.ofNat (cnt + 1))))])) _ (fun t9 k9 => ?_) ?_
        · show Steps p.tables e below (T138.setTop (mkF m 138 #[.val (.ref dd), .val (.int p1), .val (.int p2), .val (.int p3), .val (.double dx), .second, .val (.long (dx.toInt64)), .second, .val (.int (2047 : Int32)), .val (.int (Int32.ofNat jj)), .val (.int (Int32.ofNat cnt))] [(.int (Int32.ofNat (cnt + 1))), (.int (2 : Int32))])) _
          refine XS.imul X138.here hx rfl (hb hby d15_138) rfl ?_
          show Steps p.tables e below (T138.setTop (mkF m 139 #[.val (.ref dd), .val (.int p1), .val (.int p2), .val (.int p3), .val (.double dx), .second, .val (.long (dx.toInt64)), .second, .val (.int (2047 : Int32)), .val (.int (Int32.ofNat jj)), .val (.int (Int32.ofNat cnt))] [(.int ((2 : Int32) * (Int32.ofNat (cnt + 1))))])) _
          refine XS.aloadN X138.here hx rfl (hb hby d15_139) rfl rfl ?_
          exact k9
        obtain ⟨T139, X139, e139, st139⟩ := getF X138 hx hZ hown (host := "") (Or.inl (hw _ (List.mem_of_getElem? (i := 89) rfl))) Via.refl e138 u128 (g := (mkF m 140 #[.val (.ref dd), .val (.int p1), .val (.int p2), .val (.int p3), .val (.double dx), .second, .val (.long (dx.toInt64)), .second, .val (.int (2047 : Int32)), .val (.int (Int32.ofNat jj)), .val (.int (Int32.ofNat cnt))] [(.ref dd), (.int ((2 : Int32) * (Int32.ofNat (cnt + 1))))])) rfl rfl (hb hby d15_140)
        refine go (T139.setTop (mkF m 143 #[.val (.ref dd), .val (.int p1), .val (.int p2), .val (.int p3), .val (.double dx), .second, .val (.long (dx.toInt64)), .second, .val (.int (2047 : Int32)), .val (.int (Int32.ofNat jj)), .val (.int (Int32.ofNat cnt))] [(.ref bs), (.int ((2 : Int32) * (Int32.ofNat (cnt + 1))))])) _ (fun t9 k9 => st139 _ k9) ?_
        obtain ⟨cl140, Ar140, Sz140, Hv140⟩ := u137
        have u141 : own_A Z h122 bs .int 2048 (fun j => .int (own_upd sl jj (Int32.ofNat cnt) j)) := ⟨cl140, Ar140, Sz140, Hv140⟩
        refine go (T139.setTop (mkF m 144 #[.val (.ref dd), .val (.int p1), .val (.int p2), .val (.int p3), .val (.double dx), .second, .val (.long (dx.toInt64)), .second, .val (.int (2047 : Int32)), .val (.int (Int32.ofNat jj)), .val (.int (Int32.ofNat cnt))] [(.int (2048 : Int32)), (.int ((2 : Int32) * (Int32.ofNat (cnt + 1))))])) _ (fun t9 k9 => ?_) ?_
        · show Steps p.tables e below (T139.setTop (mkF m 143 #[.val (.ref dd), .val (.int p1), .val (.int p2), .val (.int p3), .val (.double dx), .second, .val (.long (dx.toInt64)), .second, .val (.int (2047 : Int32)), .val (.int (Int32.ofNat jj)), .val (.int (Int32.ofNat cnt))] [(.ref bs), (.int ((2 : Int32) * (Int32.ofNat (cnt + 1))))])) _
          refine X139.arraylength hx (by rw [e139]; exact Ar140.1) (State.isArrayOf_alike hZ.alike Ar140.2.1) (g := (mkF m 143 #[.val (.ref dd), .val (.int p1), .val (.int p2), .val (.int p3), .val (.double dx), .second, .val (.long (dx.toInt64)), .second, .val (.int (2047 : Int32)), .val (.int (Int32.ofNat jj)), .val (.int (Int32.ofNat cnt))] [(.ref bs), (.int ((2 : Int32) * (Int32.ofNat (cnt + 1))))])) rfl (rest := [(.int ((2 : Int32) * (Int32.ofNat (cnt + 1))))]) rfl (hb hby d15_143) _ ?_
          rw [len_of (z := (2048 : Int32)) (Sz140.trans rfl) (by decide)]
          exact k9
        have hle : ¬ (2048 : Int32) < ((2 : Int32) * (Int32.ofNat (cnt + 1))) := own_small2 hc
        refine go (T139.setTop (mkF m 160 #[.val (.ref dd), .val (.int p1), .val (.int p2), .val (.int p3), .val (.double dx), .second, .val (.long (dx.toInt64)), .second, .val (.int (2047 : Int32)), .val (.int (Int32.ofNat jj)), .val (.int (Int32.ofNat cnt))] [(.int (Int32.ofNat cnt))])) _ (fun t9 k9 => ?_) ?_
        · show Steps p.tables e below (T139.setTop (mkF m 144 #[.val (.ref dd), .val (.int p1), .val (.int p2), .val (.int p3), .val (.double dx), .second, .val (.long (dx.toInt64)), .second, .val (.int (2047 : Int32)), .val (.int (Int32.ofNat jj)), .val (.int (Int32.ofNat cnt))] [(.int (2048 : Int32)), (.int ((2 : Int32) * (Int32.ofNat (cnt + 1))))])) _
          refine XS.icmpYes X139.here hx rfl (pc0 := 144) (pc' := 158) rfl (hb hby d15_144) rfl (flt hle).2.2.2 (by decide) (by decide) ?_
          show Steps p.tables e below (T139.setTop (mkF m 158 #[.val (.ref dd), .val (.int p1), .val (.int p2), .val (.int p3), .val (.double dx), .second, .val (.long (dx.toInt64)), .second, .val (.int (2047 : Int32)), .val (.int (Int32.ofNat jj)), .val (.int (Int32.ofNat cnt))] [])) _
          refine XS.iload X139.here hx rfl (hb hby d15_158) rfl ?_
          exact k9
        obtain ⟨fs, hr, hrun, hended, hW, hsame⟩ := X139.leave (v := some (.int (Int32.ofNat cnt))) (fun h => by rw [Bd.returns] at h; cases h) hlk
        refine fin _ ⟨_, _, retOut X139 hx (t := .int) Bd.returns rfl (Or.inl ⟨rfl, Or.inl rfl, _, rfl⟩) (hb hby d15_160) hr, hrun, hended, _, _, rfl, ?_, ⟨_, rfl⟩, hW, hsame.mono (by decide) (by decide)⟩
        show own_Q Z dd bv bl bh bd bs cnt vv lo hi dv zz oo p1 p2 p3 dx h0 n0 _ T139.heap _
        rw [e139]
        exact ⟨cnt, cnt + 1, _, _, _, _, _, rfl, N122, u136, ⟨u123, u124, u125, u126, u127, u128, u129, u130, u131, u132, u133, u134, u135, u141⟩, own_Ok_new HO hx1, own_Rel_new cnt vv lo hi dv p1 p2 p3 dx⟩
      · refine go (T112.setTop (mkF m 40 #[.val (.ref dd), .val (.int p1), .val (.int p2), .val (.int p3), .val (.double dx), .second, .val (.long (dx.toInt64)), .second, .val (.int (2047 : Int32)), .val (.int (Int32.ofNat jj)), os] [])) _ (fun t9 k9 => ?_) ?_
        · show Steps p.tables e below (T112.setTop (mkF m 37 #[.val (.ref dd), .val (.int p1), .val (.int p2), .val (.int p3), .val (.double dx), .second, .val (.long (dx.toInt64)), .second, .val (.int (2047 : Int32)), .val (.int (Int32.ofNat jj)), os] [(.int (-1 : Int32)), (.int (sl jj))])) _
          refine XS.icmpNo X112.here hx rfl (hb hby d15_37) rfl (feq hsl).1 ?_
          exact k9
        obtain ⟨k, hk1, ek⟩ := (HO.1 jj hjj).resolve_left hsl
        have hkn : (Int32.ofNat k).toNatClampNeg = k := own_n32 (by omega)
        have hkl : (Int32.ofNat k).toNatClampNeg < 1024 := by rw [hkn]; omega
        refine go (T112.setTop (mkF m 41 #[.val (.ref dd), .val (.int p1), .val (.int p2), .val (.int p3), .val (.double dx), .second, .val (.long (dx.toInt64)), .second, .val (.int (2047 : Int32)), .val (.int (Int32.ofNat jj)), os] [(.ref dd)])) _ (fun t9 k9 => ?_) ?_
        · show Steps p.tables e below (T112.setTop (mkF m 40 #[.val (.ref dd), .val (.int p1), .val (.int p2), .val (.int p3), .val (.double dx), .second, .val (.long (dx.toInt64)), .second, .val (.int (2047 : Int32)), .val (.int (Int32.ofNat jj)), os] [])) _
          refine XS.aloadN X112.here hx rfl (hb hby d15_40) rfl rfl ?_
          exact k9
        obtain ⟨T142, X142, e142, st142⟩ := getF X112 hx hZ hown (host := "") (Or.inl (hw _ (List.mem_of_getElem? (i := 89) rfl))) Via.refl e112 y106_F4 (g := (mkF m 41 #[.val (.ref dd), .val (.int p1), .val (.int p2), .val (.int p3), .val (.double dx), .second, .val (.long (dx.toInt64)), .second, .val (.int (2047 : Int32)), .val (.int (Int32.ofNat jj)), os] [(.ref dd)])) rfl rfl (hb hby d15_41)
        refine go (T142.setTop (mkF m 44 #[.val (.ref dd), .val (.int p1), .val (.int p2), .val (.int p3), .val (.double dx), .second, .val (.long (dx.toInt64)), .second, .val (.int (2047 : Int32)), .val (.int (Int32.ofNat jj)), os] [(.ref bs)])) _ (fun t9 k9 => st142 _ k9) ?_
        refine go (T142.setTop (mkF m 46 #[.val (.ref dd), .val (.int p1), .val (.int p2), .val (.int p3), .val (.double dx), .second, .val (.long (dx.toInt64)), .second, .val (.int (2047 : Int32)), .val (.int (Int32.ofNat jj)), os] [(.int (Int32.ofNat jj)), (.ref bs)])) _ (fun t9 k9 => ?_) ?_
        · show Steps p.tables e below (T142.setTop (mkF m 44 #[.val (.ref dd), .val (.int p1), .val (.int p2), .val (.int p3), .val (.double dx), .second, .val (.long (dx.toInt64)), .second, .val (.int (2047 : Int32)), .val (.int (Int32.ofNat jj)), os] [(.ref bs)])) _
          refine XS.iload X142.here hx rfl (hb hby d15_44) rfl ?_
          exact k9
        obtain ⟨cl143, Ar143, Sz143, Hv143⟩ := u114
        have u144 : own_A Z h0 bs .int 2048 (fun j => .int (sl j)) := ⟨cl143, Ar143, Sz143, Hv143⟩
        refine go (T142.setTop (mkF m 47 #[.val (.ref dd), .val (.int p1), .val (.int p2), .val (.int p3), .val (.double dx), .second, .val (.long (dx.toInt64)), .second, .val (.int (2047 : Int32)), .val (.int (Int32.ofNat jj)), os] [(.int (sl jj))])) _ (fun t9 k9 => ?_) ?_
        · show Steps p.tables e below (T142.setTop (mkF m 46 #[.val (.ref dd), .val (.int p1), .val (.int p2), .val (.int p3), .val (.double dx), .second, .val (.long (dx.toInt64)), .second, .val (.int (2047 : Int32)), .val (.int (Int32.ofNat jj)), os] [(.int (Int32.ofNat jj)), (.ref bs)])) _
          refine X142.iaload hx (j := (Int32.ofNat jj)) (v := (.int (sl jj))) (by rw [e142]; exact Ar143.1) (State.isArrayOf_alike hZ.alike Ar143.2.1) Ar143.2.2 (own_hin Sz143 (own_nn (by omega)) hjl) ((Hv143 _ hjl).trans (congrArg some (congrArg (fun j => Value.int (sl j)) hjn))) (g := (mkF m 46 #[.val (.ref dd), .val (.int p1), .val (.int p2), .val (.int p3), .val (.double dx), .second, .val (.long (dx.toInt64)), .second, .val (.int (2047 : Int32)), .val (.int (Int32.ofNat jj)), os] [(.int (Int32.ofNat jj)), (.ref bs)])) rfl rfl (hb hby d15_46) _ ?_
          exact k9
        rw [ek]
        refine go (T142.setTop (mkF m 50 #[.val (.ref dd), .val (.int p1), .val (.int p2), .val (.int p3), .val (.double dx), .second, .val (.long (dx.toInt64)), .second, .val (.int (2047 : Int32)), .val (.int (Int32.ofNat jj)), .val (.int (Int32.ofNat k))] [(.ref dd)])) _ (fun t9 k9 => ?_) ?_
        · show Steps p.tables e below (T142.setTop (mkF m 47 #[.val (.ref dd), .val (.int p1), .val (.int p2), .val (.int p3), .val (.double dx), .second, .val (.long (dx.toInt64)), .second, .val (.int (2047 : Int32)), .val (.int (Int32.ofNat jj)), os] [(.int (Int32.ofNat k))])) _
          refine XS.istore X142.here hx rfl (hb hby d15_47) rfl (l' := #[.val (.ref dd), .val (.int p1), .val (.int p2), .val (.int p3), .val (.double dx), .second, .val (.long (dx.toInt64)), .second, .val (.int (2047 : Int32)), .val (.int (Int32.ofNat jj)), .val (.int (Int32.ofNat k))]) (by rcases hos with rfl | ⟨ov, rfl⟩ <;> rfl) ?_
          show Steps p.tables e below (T142.setTop (mkF m 49 #[.val (.ref dd), .val (.int p1), .val (.int p2), .val (.int p3), .val (.double dx), .second, .val (.long (dx.toInt64)), .second, .val (.int (2047 : Int32)), .val (.int (Int32.ofNat jj)), .val (.int (Int32.ofNat k))] [])) _
          refine XS.aloadN X142.here hx rfl (hb hby d15_49) rfl rfl ?_
          exact k9
        obtain ⟨T145, X145, e145, st145⟩ := getF X142 hx hZ hown (host := "") (Or.inl (hw _ (List.mem_of_getElem? (i := 10) rfl))) Via.refl e142 y106_F0 (g := (mkF m 50 #[.val (.ref dd), .val (.int p1), .val (.int p2), .val (.int p3), .val (.double dx), .second, .val (.long (dx.toInt64)), .second, .val (.int (2047 : Int32)), .val (.int (Int32.ofNat jj)), .val (.int (Int32.ofNat k))] [(.ref dd)])) rfl rfl (hb hby d15_50)
        refine go (T145.setTop (mkF m 53 #[.val (.ref dd), .val (.int p1), .val (.int p2), .val (.int p3), .val (.double dx), .second, .val (.long (dx.toInt64)), .second, .val (.int (2047 : Int32)), .val (.int (Int32.ofNat jj)), .val (.int (Int32.ofNat k))] [(.ref bv)])) _ (fun t9 k9 => st145 _ k9) ?_
        refine go (T145.setTop (mkF m 55 #[.val (.ref dd), .val (.int p1), .val (.int p2), .val (.int p3), .val (.double dx), .second, .val (.long (dx.toInt64)), .second, .val (.int (2047 : Int32)), .val (.int (Int32.ofNat jj)), .val (.int (Int32.ofNat k))] [(.int (Int32.ofNat k)), (.ref bv)])) _ (fun t9 k9 => ?_) ?_
        · show Steps p.tables e below (T145.setTop (mkF m 53 #[.val (.ref dd), .val (.int p1), .val (.int p2), .val (.int p3), .val (.double dx), .second, .val (.long (dx.toInt64)), .second, .val (.int (2047 : Int32)), .val (.int (Int32.ofNat jj)), .val (.int (Int32.ofNat k))] [(.ref bv)])) _
          refine XS.iload X145.here hx rfl (hb hby d15_53) rfl ?_
          exact k9
        obtain ⟨cl146, Ar146, Sz146, Hv146⟩ := y106_A0
        have u147 : own_A Z h0 bv .int 1024 (fun j => .int (vv j)) := ⟨cl146, Ar146, Sz146, Hv146⟩
        refine go (T145.setTop (mkF m 57 #[.val (.ref dd), .val (.int p1), .val (.int p2), .val (.int p3), .val (.double dx), .second, .val (.long (dx.toInt64)), .second, .val (.int (2047 : Int32)), .val (.int (Int32.ofNat jj)), .val (.int (Int32.ofNat k))] [(.int p1), (.int (vv k))])) _ (fun t9 k9 => ?_) ?_
        · show Steps p.tables e below (T145.setTop (mkF m 55 #[.val (.ref dd), .val (.int p1), .val (.int p2), .val (.int p3), .val (.double dx), .second, .val (.long (dx.toInt64)), .second, .val (.int (2047 : Int32)), .val (.int (Int32.ofNat jj)), .val (.int (Int32.ofNat k))] [(.int (Int32.ofNat k)), (.ref bv)])) _
          refine X145.iaload hx (j := (Int32.ofNat k)) (v := (.int (vv k))) (by rw [e145]; exact Ar146.1) (State.isArrayOf_alike hZ.alike Ar146.2.1) Ar146.2.2 (own_hin Sz146 (own_nn (by omega)) hkl) ((Hv146 _ hkl).trans (congrArg some (congrArg (fun j => Value.int (vv j)) hkn))) (g := (mkF m 55 #[.val (.ref dd), .val (.int p1), .val (.int p2), .val (.int p3), .val (.double dx), .second, .val (.long (dx.toInt64)), .second, .val (.int (2047 : Int32)), .val (.int (Int32.ofNat jj)), .val (.int (Int32.ofNat k))] [(.int (Int32.ofNat k)), (.ref bv)])) rfl rfl (hb hby d15_55) _ ?_
          show Steps p.tables e below (T145.setTop (mkF m 56 #[.val (.ref dd), .val (.int p1), .val (.int p2), .val (.int p3), .val (.double dx), .second, .val (.long (dx.toInt64)), .second, .val (.int (2047 : Int32)), .val (.int (Int32.ofNat jj)), .val (.int (Int32.ofNat k))] [(.int (vv k))])) _
          refine XS.iloadN X145.here hx rfl (hb hby d15_56) rfl ?_
          exact k9
        by_cases hv : (vv k) = p1
        · refine go (T145.setTop (mkF m 61 #[.val (.ref dd), .val (.int p1), .val (.int p2), .val (.int p3), .val (.double dx), .second, .val (.long (dx.toInt64)), .second, .val (.int (2047 : Int32)), .val (.int (Int32.ofNat jj)), .val (.int (Int32.ofNat k))] [(.ref dd)])) _ (fun t9 k9 => ?_) ?_
          · show Steps p.tables e below (T145.setTop (mkF m 57 #[.val (.ref dd), .val (.int p1), .val (.int p2), .val (.int p3), .val (.double dx), .second, .val (.long (dx.toInt64)), .second, .val (.int (2047 : Int32)), .val (.int (Int32.ofNat jj)), .val (.int (Int32.ofNat k))] [(.int p1), (.int (vv k))])) _
            refine XS.icmpNo X145.here hx rfl (hb hby d15_57) rfl (teq hv).2 ?_
            show Steps p.tables e below (T145.setTop (mkF m 60 #[.val (.ref dd), .val (.int p1), .val (.int p2), .val (.int p3), .val (.double dx), .second, .val (.long (dx.toInt64)), .second, .val (.int (2047 : Int32)), .val (.int (Int32.ofNat jj)), .val (.int (Int32.ofNat k))] [])) _
            refine XS.aloadN X145.here hx rfl (hb hby d15_60) rfl rfl ?_
            exact k9
          obtain ⟨T148, X148, e148, st148⟩ := getF X145 hx hZ hown (host := "") (Or.inl (hw _ (List.mem_of_getElem? (i := 12) rfl))) Via.refl e145 y106_F1 (g := (mkF m 61 #[.val (.ref dd), .val (.int p1), .val (.int p2), .val (.int p3), .val (.double dx), .second, .val (.long (dx.toInt64)), .second, .val (.int (2047 : Int32)), .val (.int (Int32.ofNat jj)), .val (.int (Int32.ofNat k))] [(.ref dd)])) rfl rfl (hb hby d15_61)
          refine go (T148.setTop (mkF m 64 #[.val (.ref dd), .val (.int p1), .val (.int p2), .val (.int p3), .val (.double dx), .second, .val (.long (dx.toInt64)), .second, .val (.int (2047 : Int32)), .val (.int (Int32.ofNat jj)), .val (.int (Int32.ofNat k))] [(.ref bl)])) _ (fun t9 k9 => st148 _ k9) ?_
          refine go (T148.setTop (mkF m 66 #[.val (.ref dd), .val (.int p1), .val (.int p2), .val (.int p3), .val (.double dx), .second, .val (.long (dx.toInt64)), .second, .val (.int (2047 : Int32)), .val (.int (Int32.ofNat jj)), .val (.int (Int32.ofNat k))] [(.int (Int32.ofNat k)), (.ref bl)])) _ (fun t9 k9 => ?_) ?_
          · show Steps p.tables e below (T148.setTop (mkF m 64 #[.val (.ref dd), .val (.int p1), .val (.int p2), .val (.int p3), .val (.double dx), .second, .val (.long (dx.toInt64)), .second, .val (.int (2047 : Int32)), .val (.int (Int32.ofNat jj)), .val (.int (Int32.ofNat k))] [(.ref bl)])) _
            refine XS.iload X148.here hx rfl (hb hby d15_64) rfl ?_
            exact k9
          obtain ⟨cl149, Ar149, Sz149, Hv149⟩ := y106_A1
          have u150 : own_A Z h0 bl .int 1024 (fun j => .int (lo j)) := ⟨cl149, Ar149, Sz149, Hv149⟩
          refine go (T148.setTop (mkF m 68 #[.val (.ref dd), .val (.int p1), .val (.int p2), .val (.int p3), .val (.double dx), .second, .val (.long (dx.toInt64)), .second, .val (.int (2047 : Int32)), .val (.int (Int32.ofNat jj)), .val (.int (Int32.ofNat k))] [(.int p2), (.int (lo k))])) _ (fun t9 k9 => ?_) ?_
          · show Steps p.tables e below (T148.setTop (mkF m 66 #[.val (.ref dd), .val (.int p1), .val (.int p2), .val (.int p3), .val (.double dx), .second, .val (.long (dx.toInt64)), .second, .val (.int (2047 : Int32)), .val (.int (Int32.ofNat jj)), .val (.int (Int32.ofNat k))] [(.int (Int32.ofNat k)), (.ref bl)])) _
            refine X148.iaload hx (j := (Int32.ofNat k)) (v := (.int (lo k))) (by rw [e148]; exact Ar149.1) (State.isArrayOf_alike hZ.alike Ar149.2.1) Ar149.2.2 (own_hin Sz149 (own_nn (by omega)) hkl) ((Hv149 _ hkl).trans (congrArg some (congrArg (fun j => Value.int (lo j)) hkn))) (g := (mkF m 66 #[.val (.ref dd), .val (.int p1), .val (.int p2), .val (.int p3), .val (.double dx), .second, .val (.long (dx.toInt64)), .second, .val (.int (2047 : Int32)), .val (.int (Int32.ofNat jj)), .val (.int (Int32.ofNat k))] [(.int (Int32.ofNat k)), (.ref bl)])) rfl rfl (hb hby d15_66) _ ?_
            show Steps p.tables e below (T148.setTop (mkF m 67 #[.val (.ref dd), .val (.int p1), .val (.int p2), .val (.int p3), .val (.double dx), .second, .val (.long (dx.toInt64)), .second, .val (.int (2047 : Int32)), .val (.int (Int32.ofNat jj)), .val (.int (Int32.ofNat k))] [(.int (lo k))])) _
            refine XS.iloadN X148.here hx rfl (hb hby d15_67) rfl ?_
            exact k9
          by_cases hl : (lo k) = p2
          · refine go (T148.setTop (mkF m 72 #[.val (.ref dd), .val (.int p1), .val (.int p2), .val (.int p3), .val (.double dx), .second, .val (.long (dx.toInt64)), .second, .val (.int (2047 : Int32)), .val (.int (Int32.ofNat jj)), .val (.int (Int32.ofNat k))] [(.ref dd)])) _ (fun t9 k9 => ?_) ?_
            · show Steps p.tables e below (T148.setTop (mkF m 68 #[.val (.ref dd), .val (.int p1), .val (.int p2), .val (.int p3), .val (.double dx), .second, .val (.long (dx.toInt64)), .second, .val (.int (2047 : Int32)), .val (.int (Int32.ofNat jj)), .val (.int (Int32.ofNat k))] [(.int p2), (.int (lo k))])) _
              refine XS.icmpNo X148.here hx rfl (hb hby d15_68) rfl (teq hl).2 ?_
              show Steps p.tables e below (T148.setTop (mkF m 71 #[.val (.ref dd), .val (.int p1), .val (.int p2), .val (.int p3), .val (.double dx), .second, .val (.long (dx.toInt64)), .second, .val (.int (2047 : Int32)), .val (.int (Int32.ofNat jj)), .val (.int (Int32.ofNat k))] [])) _
              refine XS.aloadN X148.here hx rfl (hb hby d15_71) rfl rfl ?_
              exact k9
            obtain ⟨T151, X151, e151, st151⟩ := getF X148 hx hZ hown (host := "") (Or.inl (hw _ (List.mem_of_getElem? (i := 14) rfl))) Via.refl e148 y106_F2 (g := (mkF m 72 #[.val (.ref dd), .val (.int p1), .val (.int p2), .val (.int p3), .val (.double dx), .second, .val (.long (dx.toInt64)), .second, .val (.int (2047 : Int32)), .val (.int (Int32.ofNat jj)), .val (.int (Int32.ofNat k))] [(.ref dd)])) rfl rfl (hb hby d15_72)
            refine go (T151.setTop (mkF m 75 #[.val (.ref dd), .val (.int p1), .val (.int p2), .val (.int p3), .val (.double dx), .second, .val (.long (dx.toInt64)), .second, .val (.int (2047 : Int32)), .val (.int (Int32.ofNat jj)), .val (.int (Int32.ofNat k))] [(.ref bh)])) _ (fun t9 k9 => st151 _ k9) ?_
            refine go (T151.setTop (mkF m 77 #[.val (.ref dd), .val (.int p1), .val (.int p2), .val (.int p3), .val (.double dx), .second, .val (.long (dx.toInt64)), .second, .val (.int (2047 : Int32)), .val (.int (Int32.ofNat jj)), .val (.int (Int32.ofNat k))] [(.int (Int32.ofNat k)), (.ref bh)])) _ (fun t9 k9 => ?_) ?_
            · show Steps p.tables e below (T151.setTop (mkF m 75 #[.val (.ref dd), .val (.int p1), .val (.int p2), .val (.int p3), .val (.double dx), .second, .val (.long (dx.toInt64)), .second, .val (.int (2047 : Int32)), .val (.int (Int32.ofNat jj)), .val (.int (Int32.ofNat k))] [(.ref bh)])) _
              refine XS.iload X151.here hx rfl (hb hby d15_75) rfl ?_
              exact k9
            obtain ⟨cl152, Ar152, Sz152, Hv152⟩ := y106_A2
            have u153 : own_A Z h0 bh .int 1024 (fun j => .int (hi j)) := ⟨cl152, Ar152, Sz152, Hv152⟩
            refine go (T151.setTop (mkF m 79 #[.val (.ref dd), .val (.int p1), .val (.int p2), .val (.int p3), .val (.double dx), .second, .val (.long (dx.toInt64)), .second, .val (.int (2047 : Int32)), .val (.int (Int32.ofNat jj)), .val (.int (Int32.ofNat k))] [(.int p3), (.int (hi k))])) _ (fun t9 k9 => ?_) ?_
            · show Steps p.tables e below (T151.setTop (mkF m 77 #[.val (.ref dd), .val (.int p1), .val (.int p2), .val (.int p3), .val (.double dx), .second, .val (.long (dx.toInt64)), .second, .val (.int (2047 : Int32)), .val (.int (Int32.ofNat jj)), .val (.int (Int32.ofNat k))] [(.int (Int32.ofNat k)), (.ref bh)])) _
              refine X151.iaload hx (j := (Int32.ofNat k)) (v := (.int (hi k))) (by rw [e151]; exact Ar152.1) (State.isArrayOf_alike hZ.alike Ar152.2.1) Ar152.2.2 (own_hin Sz152 (own_nn (by omega)) hkl) ((Hv152 _ hkl).trans (congrArg some (congrArg (fun j => Value.int (hi j)) hkn))) (g := (mkF m 77 #[.val (.ref dd), .val (.int p1), .val (.int p2), .val (.int p3), .val (.double dx), .second, .val (.long (dx.toInt64)), .second, .val (.int (2047 : Int32)), .val (.int (Int32.ofNat jj)), .val (.int (Int32.ofNat k))] [(.int (Int32.ofNat k)), (.ref bh)])) rfl rfl (hb hby d15_77) _ ?_
              show Steps p.tables e below (T151.setTop (mkF m 78 #[.val (.ref dd), .val (.int p1), .val (.int p2), .val (.int p3), .val (.double dx), .second, .val (.long (dx.toInt64)), .second, .val (.int (2047 : Int32)), .val (.int (Int32.ofNat jj)), .val (.int (Int32.ofNat k))] [(.int (hi k))])) _
              refine XS.iloadN X151.here hx rfl (hb hby d15_78) rfl ?_
              exact k9
            by_cases hh : (hi k) = p3
            · refine go (T151.setTop (mkF m 83 #[.val (.ref dd), .val (.int p1), .val (.int p2), .val (.int p3), .val (.double dx), .second, .val (.long (dx.toInt64)), .second, .val (.int (2047 : Int32)), .val (.int (Int32.ofNat jj)), .val (.int (Int32.ofNat k))] [(.ref dd)])) _ (fun t9 k9 => ?_) ?_
              · show Steps p.tables e below (T151.setTop (mkF m 79 #[.val (.ref dd), .val (.int p1), .val (.int p2), .val (.int p3), .val (.double dx), .second, .val (.long (dx.toInt64)), .second, .val (.int (2047 : Int32)), .val (.int (Int32.ofNat jj)), .val (.int (Int32.ofNat k))] [(.int p3), (.int (hi k))])) _
                refine XS.icmpNo X151.here hx rfl (hb hby d15_79) rfl (teq hh).2 ?_
                show Steps p.tables e below (T151.setTop (mkF m 82 #[.val (.ref dd), .val (.int p1), .val (.int p2), .val (.int p3), .val (.double dx), .second, .val (.long (dx.toInt64)), .second, .val (.int (2047 : Int32)), .val (.int (Int32.ofNat jj)), .val (.int (Int32.ofNat k))] [])) _
                refine XS.aloadN X151.here hx rfl (hb hby d15_82) rfl rfl ?_
                exact k9
              obtain ⟨T154, X154, e154, st154⟩ := getF X151 hx hZ hown (host := "") (Or.inl (hw _ (List.mem_of_getElem? (i := 17) rfl))) Via.refl e151 y106_F3 (g := (mkF m 83 #[.val (.ref dd), .val (.int p1), .val (.int p2), .val (.int p3), .val (.double dx), .second, .val (.long (dx.toInt64)), .second, .val (.int (2047 : Int32)), .val (.int (Int32.ofNat jj)), .val (.int (Int32.ofNat k))] [(.ref dd)])) rfl rfl (hb hby d15_83)
              refine go (T154.setTop (mkF m 86 #[.val (.ref dd), .val (.int p1), .val (.int p2), .val (.int p3), .val (.double dx), .second, .val (.long (dx.toInt64)), .second, .val (.int (2047 : Int32)), .val (.int (Int32.ofNat jj)), .val (.int (Int32.ofNat k))] [(.ref bd)])) _ (fun t9 k9 => st154 _ k9) ?_
              refine go (T154.setTop (mkF m 88 #[.val (.ref dd), .val (.int p1), .val (.int p2), .val (.int p3), .val (.double dx), .second, .val (.long (dx.toInt64)), .second, .val (.int (2047 : Int32)), .val (.int (Int32.ofNat jj)), .val (.int (Int32.ofNat k))] [(.int (Int32.ofNat k)), (.ref bd)])) _ (fun t9 k9 => ?_) ?_
              · show Steps p.tables e below (T154.setTop (mkF m 86 #[.val (.ref dd), .val (.int p1), .val (.int p2), .val (.int p3), .val (.double dx), .second, .val (.long (dx.toInt64)), .second, .val (.int (2047 : Int32)), .val (.int (Int32.ofNat jj)), .val (.int (Int32.ofNat k))] [(.ref bd)])) _
                refine XS.iload X154.here hx rfl (hb hby d15_86) rfl ?_
                exact k9
              obtain ⟨cl155, Ar155, Sz155, Hv155⟩ := y106_A3
              have u156 : own_A Z h0 bd .double 1024 (fun j => .double (dv j)) := ⟨cl155, Ar155, Sz155, Hv155⟩
              refine go (T154.setTop (mkF m 89 #[.val (.ref dd), .val (.int p1), .val (.int p2), .val (.int p3), .val (.double dx), .second, .val (.long (dx.toInt64)), .second, .val (.int (2047 : Int32)), .val (.int (Int32.ofNat jj)), .val (.int (Int32.ofNat k))] [(.double (dv k))])) _ (fun t9 k9 => ?_) ?_
              · show Steps p.tables e below (T154.setTop (mkF m 88 #[.val (.ref dd), .val (.int p1), .val (.int p2), .val (.int p3), .val (.double dx), .second, .val (.long (dx.toInt64)), .second, .val (.int (2047 : Int32)), .val (.int (Int32.ofNat jj)), .val (.int (Int32.ofNat k))] [(.int (Int32.ofNat k)), (.ref bd)])) _
                refine X154.daload hx (j := (Int32.ofNat k)) (v := (.double (dv k))) (by rw [e154]; exact Ar155.1) (State.isArrayOf_alike hZ.alike Ar155.2.1) Ar155.2.2 (own_hin Sz155 (own_nn (by omega)) hkl) ((Hv155 _ hkl).trans (congrArg some (congrArg (fun j => Value.double (dv j)) hkn))) (g := (mkF m 88 #[.val (.ref dd), .val (.int p1), .val (.int p2), .val (.int p3), .val (.double dx), .second, .val (.long (dx.toInt64)), .second, .val (.int (2047 : Int32)), .val (.int (Int32.ofNat jj)), .val (.int (Int32.ofNat k))] [(.int (Int32.ofNat k)), (.ref bd)])) rfl rfl (hb hby d15_88) _ ?_
                exact k9
              obtain ⟨_, _, ⟨T157, L157, k157, n157⟩, -, X157, ⟨Lc157, hQ157, l157, y157, z157⟩, st157⟩ := Jvm.LawKit.callS X154 hx (y := (⟨"java/lang/Double", "doubleToLongBits", "(D)J"⟩ : MethodName)) hown (mvT hZ (hw _ (List.mem_of_getElem? (i := 128) rfl))) (mvT hZ (hw _ (List.mem_of_getElem? (i := 129) rfl))) (mvT hZ (hw _ (List.mem_of_getElem? (i := 112) rfl))) (mvT hZ (hw _ (List.mem_of_getElem? (i := 130) rfl))) (by decide) (backOf (W := 0) (rm16 l Z a0 hw [] (dv k) h0 n0 Z0 (HO.2.2 k hk1)) hZ (hw _ (List.mem_of_getElem? (i := 130) rfl)) (hw _ (List.mem_of_getElem? (i := 112) rfl)) (by decide) (by decide)) (g := (mkF m 89 #[.val (.ref dd), .val (.int p1), .val (.int p2), .val (.int p3), .val (.double dx), .second, .val (.long (dx.toInt64)), .second, .val (.int (2047 : Int32)), .val (.int (Int32.ofNat jj)), .val (.int (Int32.ofNat k))] [(.double (dv k))])) rfl (by rw [hml]; rfl) (argsL := [(.double (dv k))]) (rest := []) (lenOf pd__28D_29J rfl) rfl (by show 2 * 0 + _ ≤ _; exact Nat.le_of_eq rfl) (hb hby d15_89) (fun _ _ => ⟨rfl, e154, (by decide : 0 + 0 ≤ _), (by decide : 0 + 0 ≤ _)⟩)
              dsimp only [Pt.U, Pt.locs, Pt.cells, Pt.slots] at X157 l157 y157 z157 st157 hQ157
              subst l157 y157 z157
              obtain ⟨rfl, N157q, e157q⟩ := hQ157
              have N157 := Fr.app N1 N157q
              refine go (T157.setTop (mkF m 92 #[.val (.ref dd), .val (.int p1), .val (.int p2), .val (.int p3), .val (.double dx), .second, .val (.long (dx.toInt64)), .second, .val (.int (2047 : Int32)), .val (.int (Int32.ofNat jj)), .val (.int (Int32.ofNat k))] [(.long ((dv k).toInt64))])) _ (fun t9 k9 => st157 _ k9) ?_
              refine go (T157.setTop (mkF m 95 #[.val (.ref dd), .val (.int p1), .val (.int p2), .val (.int p3), .val (.double dx), .second, .val (.long (dx.toInt64)), .second, .val (.int (2047 : Int32)), .val (.int (Int32.ofNat jj)), .val (.int (Int32.ofNat k))] [(.int (lcmpW ((dv k).toInt64) (dx.toInt64)))])) _ (fun t9 k9 => ?_) ?_
              · show Steps p.tables e below (T157.setTop (mkF m 92 #[.val (.ref dd), .val (.int p1), .val (.int p2), .val (.int p3), .val (.double dx), .second, .val (.long (dx.toInt64)), .second, .val (.int (2047 : Int32)), .val (.int (Int32.ofNat jj)), .val (.int (Int32.ofNat k))] [(.long ((dv k).toInt64))])) _
                refine XS.lload X157.here hx rfl (hb hby d15_92) rfl ?_
                show Steps p.tables e below (T157.setTop (mkF m 94 #[.val (.ref dd), .val (.int p1), .val (.int p2), .val (.int p3), .val (.double dx), .second, .val (.long (dx.toInt64)), .second, .val (.int (2047 : Int32)), .val (.int (Int32.ofNat jj)), .val (.int (Int32.ofNat k))] [(.long (dx.toInt64)), (.long ((dv k).toInt64))])) _
                refine XS.lcmp X157.here hx rfl (hb hby d15_94) rfl ?_
                exact k9
              by_cases hb' : (lcmpW ((dv k).toInt64) (dx.toInt64)) = (0 : Int32)
              · refine go (T157.setTop (mkF m 100 #[.val (.ref dd), .val (.int p1), .val (.int p2), .val (.int p3), .val (.double dx), .second, .val (.long (dx.toInt64)), .second, .val (.int (2047 : Int32)), .val (.int (Int32.ofNat jj)), .val (.int (Int32.ofNat k))] [(.int (Int32.ofNat k))])) _ (fun t9 k9 => ?_) ?_
                · show Steps p.tables e below (T157.setTop (mkF m 95 #[.val (.ref dd), .val (.int p1), .val (.int p2), .val (.int p3), .val (.double dx), .second, .val (.long (dx.toInt64)), .second, .val (.int (2047 : Int32)), .val (.int (Int32.ofNat jj)), .val (.int (Int32.ofNat k))] [(.int (lcmpW ((dv k).toInt64) (dx.toInt64)))])) _
                  refine XS.ifNo X157.here hx rfl (hb hby d15_95) rfl ((if0 _ _).trans (teq hb').2) ?_
                  show Steps p.tables e below (T157.setTop (mkF m 98 #[.val (.ref dd), .val (.int p1), .val (.int p2), .val (.int p3), .val (.double dx), .second, .val (.long (dx.toInt64)), .second, .val (.int (2047 : Int32)), .val (.int (Int32.ofNat jj)), .val (.int (Int32.ofNat k))] [])) _
                  refine XS.iload X157.here hx rfl (hb hby d15_98) rfl ?_
                  exact k9
                obtain ⟨fs, hr, hrun, hended, hW, hsame⟩ := X157.leave (v := some (.int (Int32.ofNat k))) (fun h => by rw [Bd.returns] at h; cases h) hlk
                refine fin _ ⟨_, _, retOut X157 hx (t := .int) Bd.returns rfl (Or.inl ⟨rfl, Or.inl rfl, _, rfl⟩) (hb hby d15_100) hr, hrun, hended, _, _, rfl, ?_, ⟨_, rfl⟩, hW, hsame.mono (by decide) (by decide)⟩
                show own_Q Z dd bv bl bh bd bs cnt vv lo hi dv zz oo p1 p2 p3 dx h0 n0 _ T157.heap _
                rw [e157q]
                exact ⟨k, cnt, vv, lo, hi, dv, sl, rfl, N157, Keep.refl h0 _, HD, HO, Nat.le_refl _, Nat.le_succ _, hk1, fun j _ => ⟨rfl, rfl, rfl, rfl⟩, hv, hl, hh, own_bits.mp hb'⟩
              · refine go (T157.setTop (mkF m 108 #[.val (.ref dd), .val (.int p1), .val (.int p2), .val (.int p3), .val (.double dx), .second, .val (.long (dx.toInt64)), .second, .val (.int (2047 : Int32)), .val (.int (Int32.ofNat jj)), .val (.int (Int32.ofNat k))] [(.int (((Int32.ofNat jj) + (1 : Int32)) &&& (2047 : Int32)))])) _ (fun t9 k9 => ?_) ?_
                · show Steps p.tables e below (T157.setTop (mkF m 95 #[.val (.ref dd), .val (.int p1), .val (.int p2), .val (.int p3), .val (.double dx), .second, .val (.long (dx.toInt64)), .second, .val (.int (2047 : Int32)), .val (.int (Int32.ofNat jj)), .val (.int (Int32.ofNat k))] [(.int (lcmpW ((dv k).toInt64) (dx.toInt64)))])) _
                  refine XS.ifYes X157.here hx rfl (pc0 := 95) (pc' := 101) rfl (hb hby d15_95) rfl ((if0 _ _).trans (feq hb').2) (by decide) (by decide) ?_
                  show Steps p.tables e below (T157.setTop (mkF m 101 #[.val (.ref dd), .val (.int p1), .val (.int p2), .val (.int p3), .val (.double dx), .second, .val (.long (dx.toInt64)), .second, .val (.int (2047 : Int32)), .val (.int (Int32.ofNat jj)), .val (.int (Int32.ofNat k))] [])) _
                  refine XS.iload X157.here hx rfl (hb hby d15_101) rfl ?_
                  show Steps p.tables e below (T157.setTop (mkF m 103 #[.val (.ref dd), .val (.int p1), .val (.int p2), .val (.int p3), .val (.double dx), .second, .val (.long (dx.toInt64)), .second, .val (.int (2047 : Int32)), .val (.int (Int32.ofNat jj)), .val (.int (Int32.ofNat k))] [(.int (Int32.ofNat jj))])) _
                  refine XS.iconst X157.here hx rfl (hb hby d15_103) ?_
                  show Steps p.tables e below (T157.setTop (mkF m 104 #[.val (.ref dd), .val (.int p1), .val (.int p2), .val (.int p3), .val (.double dx), .second, .val (.long (dx.toInt64)), .second, .val (.int (2047 : Int32)), .val (.int (Int32.ofNat jj)), .val (.int (Int32.ofNat k))] [(.int (1 : Int32)), (.int (Int32.ofNat jj))])) _
                  refine XS.iadd X157.here hx rfl (hb hby d15_104) rfl ?_
                  show Steps p.tables e below (T157.setTop (mkF m 105 #[.val (.ref dd), .val (.int p1), .val (.int p2), .val (.int p3), .val (.double dx), .second, .val (.long (dx.toInt64)), .second, .val (.int (2047 : Int32)), .val (.int (Int32.ofNat jj)), .val (.int (Int32.ofNat k))] [(.int ((Int32.ofNat jj) + (1 : Int32)))])) _
                  refine XS.iload X157.here hx rfl (hb hby d15_105) rfl ?_
                  show Steps p.tables e below (T157.setTop (mkF m 107 #[.val (.ref dd), .val (.int p1), .val (.int p2), .val (.int p3), .val (.double dx), .second, .val (.long (dx.toInt64)), .second, .val (.int (2047 : Int32)), .val (.int (Int32.ofNat jj)), .val (.int (Int32.ofNat k))] [(.int (2047 : Int32)), (.int ((Int32.ofNat jj) + (1 : Int32)))])) _
                  refine XS.iand X157.here hx rfl (hb hby d15_107) rfl ?_
                  exact k9
                rw [own_next hjj, (congrArg Int32.ofNat (by omega) : Int32.ofNat ((jj + 1) % 2048) = Int32.ofNat ((i0 + (t + 1)) % 2048))]
                refine go (T157.setTop (mkF m 29 #[.val (.ref dd), .val (.int p1), .val (.int p2), .val (.int p3), .val (.double dx), .second, .val (.long (dx.toInt64)), .second, .val (.int (2047 : Int32)), .val (.int (Int32.ofNat ((i0 + (t + 1)) % 2048))), .val (.int (Int32.ofNat k))] [])) _ (fun t9 k9 => ?_) ?_
                · show Steps p.tables e below (T157.setTop (mkF m 108 #[.val (.ref dd), .val (.int p1), .val (.int p2), .val (.int p3), .val (.double dx), .second, .val (.long (dx.toInt64)), .second, .val (.int (2047 : Int32)), .val (.int (Int32.ofNat jj)), .val (.int (Int32.ofNat k))] [(.int (Int32.ofNat ((i0 + (t + 1)) % 2048)))])) _
                  refine XS.istore X157.here hx rfl (hb hby d15_108) rfl (l' := #[.val (.ref dd), .val (.int p1), .val (.int p2), .val (.int p3), .val (.double dx), .second, .val (.long (dx.toInt64)), .second, .val (.int (2047 : Int32)), .val (.int (Int32.ofNat ((i0 + (t + 1)) % 2048))), .val (.int (Int32.ofNat k))]) rfl ?_
                  show Steps p.tables e below (T157.setTop (mkF m 110 #[.val (.ref dd), .val (.int p1), .val (.int p2), .val (.int p3), .val (.double dx), .second, .val (.long (dx.toInt64)), .second, .val (.int (2047 : Int32)), .val (.int (Int32.ofNat ((i0 + (t + 1)) % 2048))), .val (.int (Int32.ofNat k))] [])) _
                  refine XS.goto X157.here hx rfl (pc0 := 110) (pc' := 29) rfl (hb hby d15_110) (by decide) (by decide) ?_
                  exact k9
                exact ih (t + 1) T157 _ _ X157 e157q N157 (Or.inr ⟨_, rfl⟩) (by omega) (fun u hu => if q : u = t then by rw [q, ejj]; exact hsl else hall u (by omega))
            · refine go (T151.setTop (mkF m 108 #[.val (.ref dd), .val (.int p1), .val (.int p2), .val (.int p3), .val (.double dx), .second, .val (.long (dx.toInt64)), .second, .val (.int (2047 : Int32)), .val (.int (Int32.ofNat jj)), .val (.int (Int32.ofNat k))] [(.int (((Int32.ofNat jj) + (1 : Int32)) &&& (2047 : Int32)))])) _ (fun t9 k9 => ?_) ?_
              · show Steps p.tables e below (T151.setTop (mkF m 79 #[.val (.ref dd), .val (.int p1), .val (.int p2), .val (.int p3), .val (.double dx), .second, .val (.long (dx.toInt64)), .second, .val (.int (2047 : Int32)), .val (.int (Int32.ofNat jj)), .val (.int (Int32.ofNat k))] [(.int p3), (.int (hi k))])) _
                refine XS.icmpYes X151.here hx rfl (pc0 := 79) (pc' := 101) rfl (hb hby d15_79) rfl (feq hh).2 (by decide) (by decide) ?_
                show Steps p.tables e below (T151.setTop (mkF m 101 #[.val (.ref dd), .val (.int p1), .val (.int p2), .val (.int p3), .val (.double dx), .second, .val (.long (dx.toInt64)), .second, .val (.int (2047 : Int32)), .val (.int (Int32.ofNat jj)), .val (.int (Int32.ofNat k))] [])) _
                refine XS.iload X151.here hx rfl (hb hby d15_101) rfl ?_
                show Steps p.tables e below (T151.setTop (mkF m 103 #[.val (.ref dd), .val (.int p1), .val (.int p2), .val (.int p3), .val (.double dx), .second, .val (.long (dx.toInt64)), .second, .val (.int (2047 : Int32)), .val (.int (Int32.ofNat jj)), .val (.int (Int32.ofNat k))] [(.int (Int32.ofNat jj))])) _
                refine XS.iconst X151.here hx rfl (hb hby d15_103) ?_
                show Steps p.tables e below (T151.setTop (mkF m 104 #[.val (.ref dd), .val (.int p1), .val (.int p2), .val (.int p3), .val (.double dx), .second, .val (.long (dx.toInt64)), .second, .val (.int (2047 : Int32)), .val (.int (Int32.ofNat jj)), .val (.int (Int32.ofNat k))] [(.int (1 : Int32)), (.int (Int32.ofNat jj))])) _
                refine XS.iadd X151.here hx rfl (hb hby d15_104) rfl ?_
                show Steps p.tables e below (T151.setTop (mkF m 105 #[.val (.ref dd), .val (.int p1), .val (.int p2), .val (.int p3), .val (.double dx), .second, .val (.long (dx.toInt64)), .second, .val (.int (2047 : Int32)), .val (.int (Int32.ofNat jj)), .val (.int (Int32.ofNat k))] [(.int ((Int32.ofNat jj) + (1 : Int32)))])) _
                refine XS.iload X151.here hx rfl (hb hby d15_105) rfl ?_
                show Steps p.tables e below (T151.setTop (mkF m 107 #[.val (.ref dd), .val (.int p1), .val (.int p2), .val (.int p3), .val (.double dx), .second, .val (.long (dx.toInt64)), .second, .val (.int (2047 : Int32)), .val (.int (Int32.ofNat jj)), .val (.int (Int32.ofNat k))] [(.int (2047 : Int32)), (.int ((Int32.ofNat jj) + (1 : Int32)))])) _
                refine XS.iand X151.here hx rfl (hb hby d15_107) rfl ?_
                exact k9
              rw [own_next hjj, (congrArg Int32.ofNat (by omega) : Int32.ofNat ((jj + 1) % 2048) = Int32.ofNat ((i0 + (t + 1)) % 2048))]
              refine go (T151.setTop (mkF m 29 #[.val (.ref dd), .val (.int p1), .val (.int p2), .val (.int p3), .val (.double dx), .second, .val (.long (dx.toInt64)), .second, .val (.int (2047 : Int32)), .val (.int (Int32.ofNat ((i0 + (t + 1)) % 2048))), .val (.int (Int32.ofNat k))] [])) _ (fun t9 k9 => ?_) ?_
              · show Steps p.tables e below (T151.setTop (mkF m 108 #[.val (.ref dd), .val (.int p1), .val (.int p2), .val (.int p3), .val (.double dx), .second, .val (.long (dx.toInt64)), .second, .val (.int (2047 : Int32)), .val (.int (Int32.ofNat jj)), .val (.int (Int32.ofNat k))] [(.int (Int32.ofNat ((i0 + (t + 1)) % 2048)))])) _
                refine XS.istore X151.here hx rfl (hb hby d15_108) rfl (l' := #[.val (.ref dd), .val (.int p1), .val (.int p2), .val (.int p3), .val (.double dx), .second, .val (.long (dx.toInt64)), .second, .val (.int (2047 : Int32)), .val (.int (Int32.ofNat ((i0 + (t + 1)) % 2048))), .val (.int (Int32.ofNat k))]) rfl ?_
                show Steps p.tables e below (T151.setTop (mkF m 110 #[.val (.ref dd), .val (.int p1), .val (.int p2), .val (.int p3), .val (.double dx), .second, .val (.long (dx.toInt64)), .second, .val (.int (2047 : Int32)), .val (.int (Int32.ofNat ((i0 + (t + 1)) % 2048))), .val (.int (Int32.ofNat k))] [])) _
                refine XS.goto X151.here hx rfl (pc0 := 110) (pc' := 29) rfl (hb hby d15_110) (by decide) (by decide) ?_
                exact k9
              exact ih (t + 1) T151 _ _ X151 e151 N1 (Or.inr ⟨_, rfl⟩) (by omega) (fun u hu => if q : u = t then by rw [q, ejj]; exact hsl else hall u (by omega))
          · refine go (T148.setTop (mkF m 108 #[.val (.ref dd), .val (.int p1), .val (.int p2), .val (.int p3), .val (.double dx), .second, .val (.long (dx.toInt64)), .second, .val (.int (2047 : Int32)), .val (.int (Int32.ofNat jj)), .val (.int (Int32.ofNat k))] [(.int (((Int32.ofNat jj) + (1 : Int32)) &&& (2047 : Int32)))])) _ (fun t9 k9 => ?_) ?_
            · show Steps p.tables e below (T148.setTop (mkF m 68 #[.val (.ref dd), .val (.int p1), .val (.int p2), .val (.int p3), .val (.double dx), .second, .val (.long (dx.toInt64)), .second, .val (.int (2047 : Int32)), .val (.int (Int32.ofNat jj)), .val (.int (Int32.ofNat k))] [(.int p2), (.int (lo k))])) _
              refine XS.icmpYes X148.here hx rfl (pc0 := 68) (pc' := 101) rfl (hb hby d15_68) rfl (feq hl).2 (by decide) (by decide) ?_
              show Steps p.tables e below (T148.setTop (mkF m 101 #[.val (.ref dd), .val (.int p1), .val (.int p2), .val (.int p3), .val (.double dx), .second, .val (.long (dx.toInt64)), .second, .val (.int (2047 : Int32)), .val (.int (Int32.ofNat jj)), .val (.int (Int32.ofNat k))] [])) _
              refine XS.iload X148.here hx rfl (hb hby d15_101) rfl ?_
              show Steps p.tables e below (T148.setTop (mkF m 103 #[.val (.ref dd), .val (.int p1), .val (.int p2), .val (.int p3), .val (.double dx), .second, .val (.long (dx.toInt64)), .second, .val (.int (2047 : Int32)), .val (.int (Int32.ofNat jj)), .val (.int (Int32.ofNat k))] [(.int (Int32.ofNat jj))])) _
              refine XS.iconst X148.here hx rfl (hb hby d15_103) ?_
              show Steps p.tables e below (T148.setTop (mkF m 104 #[.val (.ref dd), .val (.int p1), .val (.int p2), .val (.int p3), .val (.double dx), .second, .val (.long (dx.toInt64)), .second, .val (.int (2047 : Int32)), .val (.int (Int32.ofNat jj)), .val (.int (Int32.ofNat k))] [(.int (1 : Int32)), (.int (Int32.ofNat jj))])) _
              refine XS.iadd X148.here hx rfl (hb hby d15_104) rfl ?_
              show Steps p.tables e below (T148.setTop (mkF m 105 #[.val (.ref dd), .val (.int p1), .val (.int p2), .val (.int p3), .val (.double dx), .second, .val (.long (dx.toInt64)), .second, .val (.int (2047 : Int32)), .val (.int (Int32.ofNat jj)), .val (.int (Int32.ofNat k))] [(.int ((Int32.ofNat jj) + (1 : Int32)))])) _
              refine XS.iload X148.here hx rfl (hb hby d15_105) rfl ?_
              show Steps p.tables e below (T148.setTop (mkF m 107 #[.val (.ref dd), .val (.int p1), .val (.int p2), .val (.int p3), .val (.double dx), .second, .val (.long (dx.toInt64)), .second, .val (.int (2047 : Int32)), .val (.int (Int32.ofNat jj)), .val (.int (Int32.ofNat k))] [(.int (2047 : Int32)), (.int ((Int32.ofNat jj) + (1 : Int32)))])) _
              refine XS.iand X148.here hx rfl (hb hby d15_107) rfl ?_
              exact k9
            rw [own_next hjj, (congrArg Int32.ofNat (by omega) : Int32.ofNat ((jj + 1) % 2048) = Int32.ofNat ((i0 + (t + 1)) % 2048))]
            refine go (T148.setTop (mkF m 29 #[.val (.ref dd), .val (.int p1), .val (.int p2), .val (.int p3), .val (.double dx), .second, .val (.long (dx.toInt64)), .second, .val (.int (2047 : Int32)), .val (.int (Int32.ofNat ((i0 + (t + 1)) % 2048))), .val (.int (Int32.ofNat k))] [])) _ (fun t9 k9 => ?_) ?_
            · show Steps p.tables e below (T148.setTop (mkF m 108 #[.val (.ref dd), .val (.int p1), .val (.int p2), .val (.int p3), .val (.double dx), .second, .val (.long (dx.toInt64)), .second, .val (.int (2047 : Int32)), .val (.int (Int32.ofNat jj)), .val (.int (Int32.ofNat k))] [(.int (Int32.ofNat ((i0 + (t + 1)) % 2048)))])) _
              refine XS.istore X148.here hx rfl (hb hby d15_108) rfl (l' := #[.val (.ref dd), .val (.int p1), .val (.int p2), .val (.int p3), .val (.double dx), .second, .val (.long (dx.toInt64)), .second, .val (.int (2047 : Int32)), .val (.int (Int32.ofNat ((i0 + (t + 1)) % 2048))), .val (.int (Int32.ofNat k))]) rfl ?_
              show Steps p.tables e below (T148.setTop (mkF m 110 #[.val (.ref dd), .val (.int p1), .val (.int p2), .val (.int p3), .val (.double dx), .second, .val (.long (dx.toInt64)), .second, .val (.int (2047 : Int32)), .val (.int (Int32.ofNat ((i0 + (t + 1)) % 2048))), .val (.int (Int32.ofNat k))] [])) _
              refine XS.goto X148.here hx rfl (pc0 := 110) (pc' := 29) rfl (hb hby d15_110) (by decide) (by decide) ?_
              exact k9
            exact ih (t + 1) T148 _ _ X148 e148 N1 (Or.inr ⟨_, rfl⟩) (by omega) (fun u hu => if q : u = t then by rw [q, ejj]; exact hsl else hall u (by omega))
        · refine go (T145.setTop (mkF m 108 #[.val (.ref dd), .val (.int p1), .val (.int p2), .val (.int p3), .val (.double dx), .second, .val (.long (dx.toInt64)), .second, .val (.int (2047 : Int32)), .val (.int (Int32.ofNat jj)), .val (.int (Int32.ofNat k))] [(.int (((Int32.ofNat jj) + (1 : Int32)) &&& (2047 : Int32)))])) _ (fun t9 k9 => ?_) ?_
          · show Steps p.tables e below (T145.setTop (mkF m 57 #[.val (.ref dd), .val (.int p1), .val (.int p2), .val (.int p3), .val (.double dx), .second, .val (.long (dx.toInt64)), .second, .val (.int (2047 : Int32)), .val (.int (Int32.ofNat jj)), .val (.int (Int32.ofNat k))] [(.int p1), (.int (vv k))])) _
            refine XS.icmpYes X145.here hx rfl (pc0 := 57) (pc' := 101) rfl (hb hby d15_57) rfl (feq hv).2 (by decide) (by decide) ?_
            show Steps p.tables e below (T145.setTop (mkF m 101 #[.val (.ref dd), .val (.int p1), .val (.int p2), .val (.int p3), .val (.double dx), .second, .val (.long (dx.toInt64)), .second, .val (.int (2047 : Int32)), .val (.int (Int32.ofNat jj)), .val (.int (Int32.ofNat k))] [])) _
            refine XS.iload X145.here hx rfl (hb hby d15_101) rfl ?_
            show Steps p.tables e below (T145.setTop (mkF m 103 #[.val (.ref dd), .val (.int p1), .val (.int p2), .val (.int p3), .val (.double dx), .second, .val (.long (dx.toInt64)), .second, .val (.int (2047 : Int32)), .val (.int (Int32.ofNat jj)), .val (.int (Int32.ofNat k))] [(.int (Int32.ofNat jj))])) _
            refine XS.iconst X145.here hx rfl (hb hby d15_103) ?_
            show Steps p.tables e below (T145.setTop (mkF m 104 #[.val (.ref dd), .val (.int p1), .val (.int p2), .val (.int p3), .val (.double dx), .second, .val (.long (dx.toInt64)), .second, .val (.int (2047 : Int32)), .val (.int (Int32.ofNat jj)), .val (.int (Int32.ofNat k))] [(.int (1 : Int32)), (.int (Int32.ofNat jj))])) _
            refine XS.iadd X145.here hx rfl (hb hby d15_104) rfl ?_
            show Steps p.tables e below (T145.setTop (mkF m 105 #[.val (.ref dd), .val (.int p1), .val (.int p2), .val (.int p3), .val (.double dx), .second, .val (.long (dx.toInt64)), .second, .val (.int (2047 : Int32)), .val (.int (Int32.ofNat jj)), .val (.int (Int32.ofNat k))] [(.int ((Int32.ofNat jj) + (1 : Int32)))])) _
            refine XS.iload X145.here hx rfl (hb hby d15_105) rfl ?_
            show Steps p.tables e below (T145.setTop (mkF m 107 #[.val (.ref dd), .val (.int p1), .val (.int p2), .val (.int p3), .val (.double dx), .second, .val (.long (dx.toInt64)), .second, .val (.int (2047 : Int32)), .val (.int (Int32.ofNat jj)), .val (.int (Int32.ofNat k))] [(.int (2047 : Int32)), (.int ((Int32.ofNat jj) + (1 : Int32)))])) _
            refine XS.iand X145.here hx rfl (hb hby d15_107) rfl ?_
            exact k9
          rw [own_next hjj, (congrArg Int32.ofNat (by omega) : Int32.ofNat ((jj + 1) % 2048) = Int32.ofNat ((i0 + (t + 1)) % 2048))]
          refine go (T145.setTop (mkF m 29 #[.val (.ref dd), .val (.int p1), .val (.int p2), .val (.int p3), .val (.double dx), .second, .val (.long (dx.toInt64)), .second, .val (.int (2047 : Int32)), .val (.int (Int32.ofNat ((i0 + (t + 1)) % 2048))), .val (.int (Int32.ofNat k))] [])) _ (fun t9 k9 => ?_) ?_
          · show Steps p.tables e below (T145.setTop (mkF m 108 #[.val (.ref dd), .val (.int p1), .val (.int p2), .val (.int p3), .val (.double dx), .second, .val (.long (dx.toInt64)), .second, .val (.int (2047 : Int32)), .val (.int (Int32.ofNat jj)), .val (.int (Int32.ofNat k))] [(.int (Int32.ofNat ((i0 + (t + 1)) % 2048)))])) _
            refine XS.istore X145.here hx rfl (hb hby d15_108) rfl (l' := #[.val (.ref dd), .val (.int p1), .val (.int p2), .val (.int p3), .val (.double dx), .second, .val (.long (dx.toInt64)), .second, .val (.int (2047 : Int32)), .val (.int (Int32.ofNat ((i0 + (t + 1)) % 2048))), .val (.int (Int32.ofNat k))]) rfl ?_
            show Steps p.tables e below (T145.setTop (mkF m 110 #[.val (.ref dd), .val (.int p1), .val (.int p2), .val (.int p3), .val (.double dx), .second, .val (.long (dx.toInt64)), .second, .val (.int (2047 : Int32)), .val (.int (Int32.ofNat ((i0 + (t + 1)) % 2048))), .val (.int (Int32.ofNat k))] [])) _
            refine XS.goto X145.here hx rfl (pc0 := 110) (pc' := 29) rfl (hb hby d15_110) (by decide) (by decide) ?_
            exact k9
          exact ih (t + 1) T145 _ _ X145 e145 N1 (Or.inr ⟨_, rfl⟩) (by omega) (fun u hu => if q : u = t then by rw [q, ejj]; exact hsl else hall u (by omega))
  exact loop 6 0 T111 _ _ X111 e111q N111 (Or.inl rfl) (by omega) (fun u hu => absurd hu (Nat.not_lt_zero u))
set_option maxRecDepth 65536 in
set_option maxHeartbeats 40000000 in
theorem rm14 (l : Launch) (Z : State) (a0 : Array Value) (hw : ∀ d ∈ tables_1, d.before a0 Z = true) (ws : List Jvm.Cond) (dd : Addr) (dx : UInt64) (bv bl bh bd bs : Addr) (cnt : Nat) (vv lo hi : Nat → Int32) (dv : Nat → UInt64) (sl : Nat → Int32) (zz oo : Int32) (h0 : Heap) (n0 : Nat) (Z0 : n0 ≤ h0.size) (HD : own_Dd Z h0 dd bv bl bh bd bs cnt vv lo hi dv sl zz oo) (HO : own_Ok cnt sl dv) (NE : own_Ne dd bv bl bh bd bs) (GS : own_Gs n0 dd bv bl bh bd bs) (hc : cnt ≤ 5) (hx1 : NoNaN64 (FP.dadd dx (0 : UInt64))) :
    MetFree l (⟨"com/example/horizonte/horizonte/dd/DecisionDiagrams", "leaf", "(D)I"⟩ : MethodName) (head1 (Jvm.Cond.code (⟨"com/example/horizonte/horizonte/dd/DecisionDiagrams", "leaf", "(D)I"⟩ : MethodName) prog_4_method_66_code 3 (some .int) :: ws) ({ frames := 3, cells := 0, slots := 0, locals := 50 } : Room)) (fun a U => a = #[(.ref dd), (.double dx)] ∧ Z.Warmed39 U.vm ∧ U.heap = h0) (fun _ _ _ _ _ => True) (fun _ U o U' => ∃ v L, o = .returned v ∧ own_Q Z dd bv bl bh bd bs cnt vv lo hi dv zz oo (2147483647 : Int32) (-1 : Int32) (-1 : Int32) (FP.dadd dx (0 : UInt64)) h0 n0 v U'.heap L ∧ FrameEnd U o U' L ({ frames := 3, cells := 0, slots := 0, locals := 50 } : Room).cells ({ frames := 3, cells := 0, slots := 0, locals := 50 } : Room).slots) := by
  refine MetFree.of_bodySF (plainFor_of_name pn_com_example_horizonte_horizonte_dd_DecisionDiagrams) hisR ?_
  intro p e s m args below meth c s₁ Bd hml0 hP hK
  obtain ⟨rfl, hZ, hh⟩ := hP
  have hlk : meth.locks = false := by first | exact BodyLoose.notSynchronized Bd | exact Body.notSynchronized Bd
  have hx := Bd.exec
  have hby := Bd.bytes
  have hml : c.maxLocals = 3 := hml0
  have hown : s.vm.findClass "com/example/horizonte/horizonte/dd/DecisionDiagrams" = some m.cls := findClass_of_methodNamed Bd.named
  have hnm := (name_of_methodNamed Bd.named Bd.method).1
  have X0 : Stand p l e ({ frames := 3, cells := 0, slots := 0, locals := 50 } : Room) s m #[(.ref dd), (.double dx)] below meth c s₁ [] 0 0 := Stand.of_body Bd
  have e0 : s₁.heap = h0 := by rw [← hh, Bd.state]; rfl
  have N0 := Fr.nil n0
  refine own_open (fun G go fin => ?_)
  refine go (s₁.setTop (mkF m 0 #[.val (.ref dd), .val (.double dx), .second] [])) _ (fun t9 k9 => castTop (ef_14 m dd dx) k9) ?_
  refine go (s₁.setTop (mkF m 8 #[.val (.ref dd), .val (.double dx), .second] [(.double (FP.dadd dx (0 : UInt64))), (.int (-1 : Int32)), (.int (-1 : Int32)), (.int (2147483647 : Int32)), (.ref dd)])) _ (fun t9 k9 => ?_) ?_
  · show Steps p.tables e below (s₁.setTop (mkF m 0 #[.val (.ref dd), .val (.double dx), .second] [])) _
    refine XS.aloadN X0.here hx rfl (hb hby d14_0) rfl rfl ?_
    show Steps p.tables e below (s₁.setTop (mkF m 1 #[.val (.ref dd), .val (.double dx), .second] [(.ref dd)])) _
    refine X0.ldcInt hx hown (mvT hZ (hw _ (List.mem_of_getElem? (i := 123) rfl))) (g := (mkF m 1 #[.val (.ref dd), .val (.double dx), .second] [(.ref dd)])) rfl (hb hby d14_1) _ ?_
    show Steps p.tables e below (s₁.setTop (mkF m 3 #[.val (.ref dd), .val (.double dx), .second] [(.int (2147483647 : Int32)), (.ref dd)])) _
    refine XS.iconst X0.here hx rfl (hb hby d14_3) ?_
    show Steps p.tables e below (s₁.setTop (mkF m 4 #[.val (.ref dd), .val (.double dx), .second] [(.int (-1 : Int32)), (.int (2147483647 : Int32)), (.ref dd)])) _
    refine XS.iconst X0.here hx rfl (hb hby d14_4) ?_
    show Steps p.tables e below (s₁.setTop (mkF m 5 #[.val (.ref dd), .val (.double dx), .second] [(.int (-1 : Int32)), (.int (-1 : Int32)), (.int (2147483647 : Int32)), (.ref dd)])) _
    refine XS.dloadN X0.here hx rfl (hb hby d14_5) rfl ?_
    show Steps p.tables e below (s₁.setTop (mkF m 6 #[.val (.ref dd), .val (.double dx), .second] [(.double dx), (.int (-1 : Int32)), (.int (-1 : Int32)), (.int (2147483647 : Int32)), (.ref dd)])) _
    refine XS.dconst0 X0.here hx rfl (hb hby d14_6) rfl ?_
    show Steps p.tables e below (s₁.setTop (mkF m 7 #[.val (.ref dd), .val (.double dx), .second] [(.double (0 : UInt64)), (.double dx), (.int (-1 : Int32)), (.int (-1 : Int32)), (.int (2147483647 : Int32)), (.ref dd)])) _
    refine XS.daddS X0.here hx rfl (hb hby d14_7) rfl hx1 rfl ?_
    exact k9
  obtain ⟨cq158, q158, q158'⟩ := (HD.1).cell
  obtain ⟨_, _, ⟨T158, L158, k158, n158⟩, -, X158, ⟨Lc158, hQ158, l158, y158, z158⟩, st158⟩ := X0.privateBack hx (y := (⟨"com/example/horizonte/horizonte/dd/DecisionDiagrams", "make", "(IIID)I"⟩ : MethodName)) hown (mvT hZ (hw _ (List.mem_of_getElem? (i := 124) rfl))) (mvT hZ (hw _ (List.mem_of_getElem? (i := 125) rfl))) (own_selP (mvT hZ (hw _ (List.mem_of_getElem? (i := 1) rfl))) (mvP hZ (hw _ (List.mem_of_getElem? (i := 126) rfl)) (args := #[])) (mvT hZ (hw _ (List.mem_of_getElem? (i := 125) rfl))) (by decide)) (Cond.privateMethod_at (mvP hZ (hw _ (List.mem_of_getElem? (i := 126) rfl)) (args := #[]))) (mvT hZ (hw _ (List.mem_of_getElem? (i := 127) rfl))) (by decide) (backOf (W := 0) (rm15 l Z a0 hw [] dd (2147483647 : Int32) (-1 : Int32) (-1 : Int32) (FP.dadd dx (0 : UInt64)) bv bl bh bd bs cnt vv lo hi dv sl zz oo h0 n0 Z0 HD HO NE GS hc hx1) hZ (hw _ (List.mem_of_getElem? (i := 127) rfl)) (hw _ (List.mem_of_getElem? (i := 2) rfl)) (by decide) (by decide)) (g := (mkF m 8 #[.val (.ref dd), .val (.double dx), .second] [(.double (FP.dadd dx (0 : UInt64))), (.int (-1 : Int32)), (.int (-1 : Int32)), (.int (2147483647 : Int32)), (.ref dd)])) rfl (by rw [hml]; rfl) (Steps.refl _) (a := dd) (by rw [e0]; exact q158) q158' (argsL := [(.int (2147483647 : Int32)), (.int (-1 : Int32)), (.int (-1 : Int32)), (.double (FP.dadd dx (0 : UInt64)))]) (rest := []) (lenOf pd__28IIID_29I rfl) rfl (by show 2 * 0 + _ ≤ _; exact Nat.le_of_eq rfl) (hb hby d14_8) (fun _ _ => ⟨rfl, e0, (by decide : 0 + 0 ≤ _), (by decide : 0 + 0 ≤ _)⟩)
  dsimp only [Pt.U, Pt.locs, Pt.cells, Pt.slots] at X158 l158 y158 z158 st158 hQ158
  subst l158 y158 z158
  obtain ⟨rq, cq, vq, loq, hiq, dvq, slq, rfl, N158q, Kq, Dq, Oq, Rq⟩ := hQ158
  have N158 := Fr.app N0 N158q
  refine go (T158.setTop (mkF m 11 #[.val (.ref dd), .val (.double dx), .second] [(.int (Int32.ofNat rq))])) _ (fun t9 k9 => st158.trans k9) ?_
  obtain ⟨fs, hr, hrun, hended, hW, hsame⟩ := X158.leave (v := some (.int (Int32.ofNat rq))) (fun h => by rw [Bd.returns] at h; cases h) hlk
  refine fin _ ⟨_, _, retOut X158 hx (t := .int) Bd.returns rfl (Or.inl ⟨rfl, Or.inl rfl, _, rfl⟩) (hb hby d14_11) hr, hrun, hended, _, _, rfl, ?_, ⟨_, rfl⟩, hW, hsame.mono (by decide) (by decide)⟩
  show own_Q Z dd bv bl bh bd bs cnt vv lo hi dv zz oo (2147483647 : Int32) (-1 : Int32) (-1 : Int32) (FP.dadd dx (0 : UInt64)) h0 n0 _ T158.heap _
  exact ⟨rq, cq, vq, loq, hiq, dvq, slq, rfl, N158, Kq, Dq, Oq, Rq⟩
def Q12 (Z : State)  (h0 : Heap) (n0 : Nat) (v : Option Value) (h : Heap) (L : List Loc) : Prop := v = some (.int 1) ∧ Fr n0 L ∧ h = h0
set_option maxRecDepth 65536 in
set_option maxHeartbeats 40000000 in
theorem rm12 (l : Launch) (Z : State) (a0 : Array Value) (hw : ∀ d ∈ tables_1, d.before a0 Z = true) (ws : List Jvm.Cond) (d1 : UInt64)  (h0 : Heap) (n0 : Nat) (Z0 : n0 ≤ h0.size) (hf : Fin64 d1) :
    MetFree l (⟨"java/lang/Double", "isFinite", "(D)Z"⟩ : MethodName) (head1 (Jvm.Cond.code (⟨"java/lang/Double", "isFinite", "(D)Z"⟩ : MethodName) jdk_117_method_8_code 2 (some .boolean) :: ws) ({ frames := 1, cells := 0, slots := 0, locals := 13 } : Room)) (fun a U => a = #[(.double d1)] ∧ Z.Warmed39 U.vm ∧ U.heap = h0) (fun _ _ _ _ _ => True) (fun _ U o U' => ∃ v L, o = .returned v ∧ Q12 Z  h0 n0 v U'.heap L ∧ FrameEnd U o U' L ({ frames := 1, cells := 0, slots := 0, locals := 13 } : Room).cells ({ frames := 1, cells := 0, slots := 0, locals := 13 } : Room).slots) := by
  refine MetFree.of_bodySF (plainFor_of_name pn_java_lang_Double) hisR ?_
  intro p e s m args below meth c s₁ Bd hml0 hP hK
  obtain ⟨rfl, hZ, hh⟩ := hP
  have hlk : meth.locks = false := by first | exact BodyLoose.notSynchronized Bd | exact Body.notSynchronized Bd
  have hx := Bd.exec
  have hby := Bd.bytes
  have hml : c.maxLocals = 2 := hml0
  have hown : s.vm.findClass "java/lang/Double" = some m.cls := findClass_of_methodNamed Bd.named
  have hnm := (name_of_methodNamed Bd.named Bd.method).1
  have X0 : Stand p l e ({ frames := 1, cells := 0, slots := 0, locals := 13 } : Room) s m #[(.double d1)] below meth c s₁ [] 0 0 := Stand.of_body Bd
  have e0 : s₁.heap = h0 := by rw [← hh, Bd.state]; rfl
  have N0 := Fr.nil n0
  refine own_open (fun G go fin => ?_)
  refine go (s₁.setTop (mkF m 0 #[.val (.double d1), .second] [])) _ (fun t9 k9 => castTop (ef_12 m d1) k9) ?_
  refine go (s₁.setTop (mkF m 1 #[.val (.double d1), .second] [(.double d1)])) _ (fun t9 k9 => ?_) ?_
  · show Steps p.tables e below (s₁.setTop (mkF m 0 #[.val (.double d1), .second] [])) _
    refine XS.dloadN X0.here hx rfl (hb hby d12_0) rfl ?_
    exact k9
  obtain ⟨T159, X159, e159, st159⟩ := natS X0 hx hZ hown (y := (⟨"java/lang/Math", "abs", "(D)D"⟩ : MethodName)) (hw _ (List.mem_of_getElem? (i := 114) rfl)) (hw _ (List.mem_of_getElem? (i := 115) rfl)) (hw _ (List.mem_of_getElem? (i := 116) rfl)) (hw _ (List.mem_of_getElem? (i := 117) rfl)) (by decide) e0 (W := 0) (F := fun a => a = #[.double d1]) (val := (.double (d1 &&& 0x7fffffffffffffff))) (val' := (.double (d1 &&& 0x7fffffffffffffff))) (fun hcd => own_abs hcd (mvT hZ (hw _ (List.mem_of_getElem? (i := 115) rfl))) (by decide) (by decide) hf.noNaN) (g := (mkF m 1 #[.val (.double d1), .second] [(.double d1)])) rfl (by rw [hml]; rfl) (argsL := [(.double d1)]) (rest := []) (lenOf pd__28D_29D rfl) rfl (by show 2 * 0 + _ ≤ _; exact Nat.le_of_eq rfl) (hb hby d12_1) (by decide) (by decide) rfl rfl
  refine go (T159.setTop (mkF m 4 #[.val (.double d1), .second] [(.double (d1 &&& 0x7fffffffffffffff))])) _ (fun t9 k9 => st159 _ k9) ?_
  refine go (T159.setTop (mkF m 16 #[.val (.double d1), .second] [(.int (1 : Int32))])) _ (fun t9 k9 => ?_) ?_
  · show Steps p.tables e below (T159.setTop (mkF m 4 #[.val (.double d1), .second] [(.double (d1 &&& 0x7fffffffffffffff))])) _
    refine X159.ldc2DoubleC hx hown (mvT hZ (hw _ (List.mem_of_getElem? (i := 118) rfl))) (g := (mkF m 4 #[.val (.double d1), .second] [(.double (d1 &&& 0x7fffffffffffffff))])) rfl (hb hby d12_4) _ ?_
    show Steps p.tables e below (T159.setTop (mkF m 7 #[.val (.double d1), .second] [(.double (9218868437227405311 : UInt64)), (.double (d1 &&& 0x7fffffffffffffff))])) _
    refine XS.dcmpS X159.here hx rfl (hb hby d12_7) rfl rfl ?_
    show Steps p.tables e below (T159.setTop (mkF m 8 #[.val (.double d1), .second] [(.int (cmpValue (FP.dcmp (d1 &&& 0x7fffffffffffffff) (9218868437227405311 : UInt64)) .g))])) _
    refine XS.ifNo X159.here hx rfl (hb hby d12_8) rfl ((if0 _ _).trans (flt (own_maxle hf)).2.2.1) ?_
    show Steps p.tables e below (T159.setTop (mkF m 11 #[.val (.double d1), .second] [])) _
    refine XS.iconst X159.here hx rfl (hb hby d12_11) ?_
    show Steps p.tables e below (T159.setTop (mkF m 12 #[.val (.double d1), .second] [(.int (1 : Int32))])) _
    refine XS.goto X159.here hx rfl (pc0 := 12) (pc' := 16) rfl (hb hby d12_12) (by decide) (by decide) ?_
    exact k9
  obtain ⟨fs, hr, hrun, hended, hW, hsame⟩ := X159.leave (v := some (.int (1 : Int32))) (fun h => by rw [Bd.returns] at h; cases h) hlk
  refine fin _ ⟨_, _, retN X159 hx (t := .boolean) Bd.returns (by simp) (hb hby d12_16) hr, hrun, hended, _, _, rfl, ?_, ⟨_, rfl⟩, hW, hsame.mono (by decide) (by decide)⟩
  show Q12 Z  h0 n0 _ T159.heap _
  rw [e159]
  exact ⟨rfl, N0, rfl⟩
set_option maxRecDepth 65536 in
set_option maxHeartbeats 40000000 in
theorem rm11 (l : Launch) (Z : State) (a0 : Array Value) (hw : ∀ d ∈ tables_1, d.before a0 Z = true) (ws : List Jvm.Cond) (dd : Addr) (dx : UInt64) (bv bl bh bd bs : Addr) (cnt : Nat) (vv lo hi : Nat → Int32) (dv : Nat → UInt64) (sl : Nat → Int32) (zz oo : Int32) (h0 : Heap) (n0 : Nat) (Z0 : n0 ≤ h0.size) (HD : own_Dd Z h0 dd bv bl bh bd bs cnt vv lo hi dv sl zz oo) (HO : own_Ok cnt sl dv) (NE : own_Ne dd bv bl bh bd bs) (GS : own_Gs n0 dd bv bl bh bd bs) (hc : cnt ≤ 5) (hf : Fin64 dx) (hx1 : NoNaN64 (FP.dadd dx (0 : UInt64))) :
    MetFree l (⟨"com/example/horizonte/horizonte/dd/DecisionDiagrams", "constant", "(D)I"⟩ : MethodName) (head1 (Jvm.Cond.code (⟨"com/example/horizonte/horizonte/dd/DecisionDiagrams", "constant", "(D)I"⟩ : MethodName) prog_4_method_2_code 3 (some .int) :: ws) ({ frames := 4, cells := 0, slots := 0, locals := 64 } : Room)) (fun a U => a = #[(.ref dd), (.double dx)] ∧ Z.Warmed39 U.vm ∧ U.heap = h0) (fun _ _ _ _ _ => True) (fun _ U o U' => ∃ v L, o = .returned v ∧ own_Q Z dd bv bl bh bd bs cnt vv lo hi dv zz oo (2147483647 : Int32) (-1 : Int32) (-1 : Int32) (FP.dadd dx (0 : UInt64)) h0 n0 v U'.heap L ∧ FrameEnd U o U' L ({ frames := 4, cells := 0, slots := 0, locals := 64 } : Room).cells ({ frames := 4, cells := 0, slots := 0, locals := 64 } : Room).slots) := by
  refine MetFree.of_bodySF (plainFor_of_name pn_com_example_horizonte_horizonte_dd_DecisionDiagrams) hisR ?_
  intro p e s m args below meth c s₁ Bd hml0 hP hK
  obtain ⟨rfl, hZ, hh⟩ := hP
  have hlk : meth.locks = false := by first | exact BodyLoose.notSynchronized Bd | exact Body.notSynchronized Bd
  have hx := Bd.exec
  have hby := Bd.bytes
  have hml : c.maxLocals = 3 := hml0
  have hown : s.vm.findClass "com/example/horizonte/horizonte/dd/DecisionDiagrams" = some m.cls := findClass_of_methodNamed Bd.named
  have hnm := (name_of_methodNamed Bd.named Bd.method).1
  have X0 : Stand p l e ({ frames := 4, cells := 0, slots := 0, locals := 64 } : Room) s m #[(.ref dd), (.double dx)] below meth c s₁ [] 0 0 := Stand.of_body Bd
  have e0 : s₁.heap = h0 := by rw [← hh, Bd.state]; rfl
  have N0 := Fr.nil n0
  refine own_open (fun G go fin => ?_)
  refine go (s₁.setTop (mkF m 0 #[.val (.ref dd), .val (.double dx), .second] [])) _ (fun t9 k9 => castTop (ef_11 m dd dx) k9) ?_
  refine go (s₁.setTop (mkF m 1 #[.val (.ref dd), .val (.double dx), .second] [(.double dx)])) _ (fun t9 k9 => ?_) ?_
  · show Steps p.tables e below (s₁.setTop (mkF m 0 #[.val (.ref dd), .val (.double dx), .second] [])) _
    refine XS.dloadN X0.here hx rfl (hb hby d11_0) rfl ?_
    exact k9
  obtain ⟨_, _, ⟨T160, L160, k160, n160⟩, -, X160, ⟨Lc160, hQ160, l160, y160, z160⟩, st160⟩ := Jvm.LawKit.callS X0 hx (y := (⟨"java/lang/Double", "isFinite", "(D)Z"⟩ : MethodName)) hown (mvT hZ (hw _ (List.mem_of_getElem? (i := 110) rfl))) (mvT hZ (hw _ (List.mem_of_getElem? (i := 111) rfl))) (mvT hZ (hw _ (List.mem_of_getElem? (i := 112) rfl))) (mvT hZ (hw _ (List.mem_of_getElem? (i := 113) rfl))) (by decide) (backOf (W := 0) (rm12 l Z a0 hw [] dx h0 n0 Z0 hf) hZ (hw _ (List.mem_of_getElem? (i := 113) rfl)) (hw _ (List.mem_of_getElem? (i := 112) rfl)) (by decide) (by decide)) (g := (mkF m 1 #[.val (.ref dd), .val (.double dx), .second] [(.double dx)])) rfl (by rw [hml]; rfl) (argsL := [(.double dx)]) (rest := []) (lenOf pd__28D_29Z rfl) rfl (by show 2 * 0 + _ ≤ _; exact Nat.le_of_eq rfl) (hb hby d11_1) (fun _ _ => ⟨rfl, e0, (by decide : 0 + 0 ≤ _), (by decide : 0 + 0 ≤ _)⟩)
  dsimp only [Pt.U, Pt.locs, Pt.cells, Pt.slots] at X160 l160 y160 z160 st160 hQ160
  subst l160 y160 z160
  obtain ⟨rfl, N160q, e160q⟩ := hQ160
  have N160 := Fr.app N0 N160q
  refine go (T160.setTop (mkF m 4 #[.val (.ref dd), .val (.double dx), .second] [(.int (1 : Int32))])) _ (fun t9 k9 => st160 _ k9) ?_
  refine go (T160.setTop (mkF m 23 #[.val (.ref dd), .val (.double dx), .second] [(.double dx), (.ref dd)])) _ (fun t9 k9 => ?_) ?_
  · show Steps p.tables e below (T160.setTop (mkF m 4 #[.val (.ref dd), .val (.double dx), .second] [(.int (1 : Int32))])) _
    refine XS.ifYes X160.here hx rfl (pc0 := 4) (pc' := 21) rfl (hb hby d11_4) rfl ((if0 _ _).trans (feq (by decide : ¬ (1 : Int32) = (0 : Int32))).2) (by decide) (by decide) ?_
    show Steps p.tables e below (T160.setTop (mkF m 21 #[.val (.ref dd), .val (.double dx), .second] [])) _
    refine XS.aloadN X160.here hx rfl (hb hby d11_21) rfl rfl ?_
    show Steps p.tables e below (T160.setTop (mkF m 22 #[.val (.ref dd), .val (.double dx), .second] [(.ref dd)])) _
    refine XS.dloadN X160.here hx rfl (hb hby d11_22) rfl ?_
    exact k9
  obtain ⟨cq161, q161, q161'⟩ := (HD.1).cell
  obtain ⟨_, _, ⟨T161, L161, k161, n161⟩, -, X161, ⟨Lc161, hQ161, l161, y161, z161⟩, st161⟩ := X160.privateBack hx (y := (⟨"com/example/horizonte/horizonte/dd/DecisionDiagrams", "leaf", "(D)I"⟩ : MethodName)) hown (mvT hZ (hw _ (List.mem_of_getElem? (i := 119) rfl))) (mvT hZ (hw _ (List.mem_of_getElem? (i := 120) rfl))) (own_selP (mvT hZ (hw _ (List.mem_of_getElem? (i := 1) rfl))) (mvP hZ (hw _ (List.mem_of_getElem? (i := 121) rfl)) (args := #[])) (mvT hZ (hw _ (List.mem_of_getElem? (i := 120) rfl))) (by decide)) (Cond.privateMethod_at (mvP hZ (hw _ (List.mem_of_getElem? (i := 121) rfl)) (args := #[]))) (mvT hZ (hw _ (List.mem_of_getElem? (i := 122) rfl))) (by decide) (backOf (W := 0) (rm14 l Z a0 hw [] dd dx bv bl bh bd bs cnt vv lo hi dv sl zz oo h0 n0 Z0 HD HO NE GS hc hx1) hZ (hw _ (List.mem_of_getElem? (i := 122) rfl)) (hw _ (List.mem_of_getElem? (i := 2) rfl)) (by decide) (by decide)) (g := (mkF m 23 #[.val (.ref dd), .val (.double dx), .second] [(.double dx), (.ref dd)])) rfl (by rw [hml]; rfl) (Steps.refl _) (a := dd) (by rw [e160q]; exact q161) q161' (argsL := [(.double dx)]) (rest := []) (lenOf pd__28D_29I rfl) rfl (by show 2 * 0 + _ ≤ _; exact Nat.le_of_eq rfl) (hb hby d11_23) (fun _ _ => ⟨rfl, e160q, (by decide : 0 + 0 ≤ _), (by decide : 0 + 0 ≤ _)⟩)
  dsimp only [Pt.U, Pt.locs, Pt.cells, Pt.slots] at X161 l161 y161 z161 st161 hQ161
  subst l161 y161 z161
  obtain ⟨rq, cq, vq, loq, hiq, dvq, slq, rfl, N161q, Kq, Dq, Oq, Rq⟩ := hQ161
  have N161 := Fr.app N160 N161q
  refine go (T161.setTop (mkF m 26 #[.val (.ref dd), .val (.double dx), .second] [(.int (Int32.ofNat rq))])) _ (fun t9 k9 => st161.trans k9) ?_
  obtain ⟨fs, hr, hrun, hended, hW, hsame⟩ := X161.leave (v := some (.int (Int32.ofNat rq))) (fun h => by rw [Bd.returns] at h; cases h) hlk
  refine fin _ ⟨_, _, retOut X161 hx (t := .int) Bd.returns rfl (Or.inl ⟨rfl, Or.inl rfl, _, rfl⟩) (hb hby d11_26) hr, hrun, hended, _, _, rfl, ?_, ⟨_, rfl⟩, hW, hsame.mono (by decide) (by decide)⟩
  show own_Q Z dd bv bl bh bd bs cnt vv lo hi dv zz oo (2147483647 : Int32) (-1 : Int32) (-1 : Int32) (FP.dadd dx (0 : UInt64)) h0 n0 _ T161.heap _
  exact ⟨rq, cq, vq, loq, hiq, dvq, slq, rfl, N161, Kq, Dq, Oq, Rq⟩
def Q21 (Z : State)  (h0 : Heap) (n0 : Nat) (v : Option Value) (h : Heap) (L : List Loc) : Prop := v = none ∧ Fr n0 L ∧ h = h0
set_option maxRecDepth 65536 in
set_option maxHeartbeats 40000000 in
theorem rm21 (l : Launch) (Z : State) (a0 : Array Value) (hw : ∀ d ∈ tables_1, d.before a0 Z = true) (ws : List Jvm.Cond) (p1 : Int32)  (h0 : Heap) (n0 : Nat) (Z0 : n0 ≤ h0.size) (hp0 : ¬ p1 < (0 : Int32)) (hp1 : p1 < (1073741824 : Int32)) :
    MetFree l (⟨"com/example/horizonte/horizonte/dd/DecisionDiagrams", "checkVariable", "(I)V"⟩ : MethodName) (head1 (Jvm.Cond.code (⟨"com/example/horizonte/horizonte/dd/DecisionDiagrams", "checkVariable", "(I)V"⟩ : MethodName) prog_4_method_76_code 1 none :: ws) ({ frames := 0, cells := 0, slots := 0, locals := 0 } : Room)) (fun a U => a = #[(.int p1)] ∧ Z.Warmed39 U.vm ∧ U.heap = h0) (fun _ _ _ _ _ => True) (fun _ U o U' => ∃ v L, o = .returned v ∧ Q21 Z  h0 n0 v U'.heap L ∧ FrameEnd U o U' L ({ frames := 0, cells := 0, slots := 0, locals := 0 } : Room).cells ({ frames := 0, cells := 0, slots := 0, locals := 0 } : Room).slots) := by
  refine MetFree.of_bodySF (plainFor_of_name pn_com_example_horizonte_horizonte_dd_DecisionDiagrams) hisR ?_
  intro p e s m args below meth c s₁ Bd hml0 hP hK
  obtain ⟨rfl, hZ, hh⟩ := hP
  have hlk : meth.locks = false := by first | exact BodyLoose.notSynchronized Bd | exact Body.notSynchronized Bd
  have hx := Bd.exec
  have hby := Bd.bytes
  have hml : c.maxLocals = 1 := hml0
  have hown : s.vm.findClass "com/example/horizonte/horizonte/dd/DecisionDiagrams" = some m.cls := findClass_of_methodNamed Bd.named
  have hnm := (name_of_methodNamed Bd.named Bd.method).1
  have X0 : Stand p l e ({ frames := 0, cells := 0, slots := 0, locals := 0 } : Room) s m #[(.int p1)] below meth c s₁ [] 0 0 := Stand.of_body Bd
  have e0 : s₁.heap = h0 := by rw [← hh, Bd.state]; rfl
  have N0 := Fr.nil n0
  refine own_open (fun G go fin => ?_)
  refine go (s₁.setTop (mkF m 0 #[.val (.int p1)] [])) _ (fun t9 k9 => castTop (ef_21 m p1) k9) ?_
  refine go (s₁.setTop (mkF m 24 #[.val (.int p1)] [])) _ (fun t9 k9 => ?_) ?_
  · show Steps p.tables e below (s₁.setTop (mkF m 0 #[.val (.int p1)] [])) _
    refine XS.iloadN X0.here hx rfl (hb hby d21_0) rfl ?_
    show Steps p.tables e below (s₁.setTop (mkF m 1 #[.val (.int p1)] [(.int p1)])) _
    refine XS.ifNo X0.here hx rfl (hb hby d21_1) rfl ((if0 _ _).trans (flt hp0).1) ?_
    show Steps p.tables e below (s₁.setTop (mkF m 4 #[.val (.int p1)] [])) _
    refine XS.iloadN X0.here hx rfl (hb hby d21_4) rfl ?_
    show Steps p.tables e below (s₁.setTop (mkF m 5 #[.val (.int p1)] [(.int p1)])) _
    refine X0.ldcInt hx hown (mvT hZ (hw _ (List.mem_of_getElem? (i := 163) rfl))) (g := (mkF m 5 #[.val (.int p1)] [(.int p1)])) rfl (hb hby d21_5) _ ?_
    show Steps p.tables e below (s₁.setTop (mkF m 7 #[.val (.int p1)] [(.int (1073741824 : Int32)), (.int p1)])) _
    refine XS.icmpYes X0.here hx rfl (pc0 := 7) (pc' := 24) rfl (hb hby d21_7) rfl (tlt hp1).1 (by decide) (by decide) ?_
    exact k9
  obtain ⟨fs, hr, hrun, hended, hW, hsame⟩ := X0.leave (v := none) (fun h => by rfl) hlk
  refine fin _ ⟨_, _, X0.returnOut hx Bd.returns (hb hby d21_24) hr, hrun, hended, _, _, rfl, ?_, ⟨_, rfl⟩, hW, hsame.mono (by decide) (by decide)⟩
  show Q21 Z  h0 n0 _ s₁.heap _
  rw [e0]
  exact ⟨rfl, N0, rfl⟩
set_option maxRecDepth 65536 in
set_option maxHeartbeats 40000000 in
theorem rm22 (l : Launch) (Z : State) (a0 : Array Value) (hw : ∀ d ∈ tables_1, d.before a0 Z = true) (ws : List Jvm.Cond) (dd : Addr) (p1 : Int32) (p2 : Int32) (p3 : Int32) (bv bl bh bd bs : Addr) (cnt : Nat) (vv lo hi : Nat → Int32) (dv : Nat → UInt64) (sl : Nat → Int32) (zz oo : Int32) (h0 : Heap) (n0 : Nat) (Z0 : n0 ≤ h0.size) (HD : own_Dd Z h0 dd bv bl bh bd bs cnt vv lo hi dv sl zz oo) (HO : own_Ok cnt sl dv) (NE : own_Ne dd bv bl bh bd bs) (GS : own_Gs n0 dd bv bl bh bd bs) (hc : cnt ≤ 5) (hne : ¬ p2 = p3) :
    MetFree l (⟨"com/example/horizonte/horizonte/dd/DecisionDiagrams", "decision", "(III)I"⟩ : MethodName) (head1 (Jvm.Cond.code (⟨"com/example/horizonte/horizonte/dd/DecisionDiagrams", "decision", "(III)I"⟩ : MethodName) prog_4_method_67_code 4 (some .int) :: ws) ({ frames := 3, cells := 0, slots := 0, locals := 50 } : Room)) (fun a U => a = #[(.ref dd), (.int p1), (.int p2), (.int p3)] ∧ Z.Warmed39 U.vm ∧ U.heap = h0) (fun _ _ _ _ _ => True) (fun _ U o U' => ∃ v L, o = .returned v ∧ own_Q Z dd bv bl bh bd bs cnt vv lo hi dv zz oo p1 p2 p3 (0 : UInt64) h0 n0 v U'.heap L ∧ FrameEnd U o U' L ({ frames := 3, cells := 0, slots := 0, locals := 50 } : Room).cells ({ frames := 3, cells := 0, slots := 0, locals := 50 } : Room).slots) := by
  refine MetFree.of_bodySF (plainFor_of_name pn_com_example_horizonte_horizonte_dd_DecisionDiagrams) hisR ?_
  intro p e s m args below meth c s₁ Bd hml0 hP hK
  obtain ⟨rfl, hZ, hh⟩ := hP
  have hlk : meth.locks = false := by first | exact BodyLoose.notSynchronized Bd | exact Body.notSynchronized Bd
  have hx := Bd.exec
  have hby := Bd.bytes
  have hml : c.maxLocals = 4 := hml0
  have hown : s.vm.findClass "com/example/horizonte/horizonte/dd/DecisionDiagrams" = some m.cls := findClass_of_methodNamed Bd.named
  have hnm := (name_of_methodNamed Bd.named Bd.method).1
  have X0 : Stand p l e ({ frames := 3, cells := 0, slots := 0, locals := 50 } : Room) s m #[(.ref dd), (.int p1), (.int p2), (.int p3)] below meth c s₁ [] 0 0 := Stand.of_body Bd
  have e0 : s₁.heap = h0 := by rw [← hh, Bd.state]; rfl
  have N0 := Fr.nil n0
  refine own_open (fun G go fin => ?_)
  refine go (s₁.setTop (mkF m 0 #[.val (.ref dd), .val (.int p1), .val (.int p2), .val (.int p3)] [])) _ (fun t9 k9 => castTop (ef_22 m dd p1 p2 p3) k9) ?_
  refine go (s₁.setTop (mkF m 14 #[.val (.ref dd), .val (.int p1), .val (.int p2), .val (.int p3)] [(.double (0 : UInt64)), (.int p3), (.int p2), (.int p1), (.ref dd)])) _ (fun t9 k9 => ?_) ?_
  · show Steps p.tables e below (s₁.setTop (mkF m 0 #[.val (.ref dd), .val (.int p1), .val (.int p2), .val (.int p3)] [])) _
    refine XS.iloadN X0.here hx rfl (hb hby d22_0) rfl ?_
    show Steps p.tables e below (s₁.setTop (mkF m 1 #[.val (.ref dd), .val (.int p1), .val (.int p2), .val (.int p3)] [(.int p2)])) _
    refine XS.iloadN X0.here hx rfl (hb hby d22_1) rfl ?_
    show Steps p.tables e below (s₁.setTop (mkF m 2 #[.val (.ref dd), .val (.int p1), .val (.int p2), .val (.int p3)] [(.int p3), (.int p2)])) _
    refine XS.icmpYes X0.here hx rfl (pc0 := 2) (pc' := 9) rfl (hb hby d22_2) rfl (feq hne).2 (by decide) (by decide) ?_
    show Steps p.tables e below (s₁.setTop (mkF m 9 #[.val (.ref dd), .val (.int p1), .val (.int p2), .val (.int p3)] [])) _
    refine XS.aloadN X0.here hx rfl (hb hby d22_9) rfl rfl ?_
    show Steps p.tables e below (s₁.setTop (mkF m 10 #[.val (.ref dd), .val (.int p1), .val (.int p2), .val (.int p3)] [(.ref dd)])) _
    refine XS.iloadN X0.here hx rfl (hb hby d22_10) rfl ?_
    show Steps p.tables e below (s₁.setTop (mkF m 11 #[.val (.ref dd), .val (.int p1), .val (.int p2), .val (.int p3)] [(.int p1), (.ref dd)])) _
    refine XS.iloadN X0.here hx rfl (hb hby d22_11) rfl ?_
    show Steps p.tables e below (s₁.setTop (mkF m 12 #[.val (.ref dd), .val (.int p1), .val (.int p2), .val (.int p3)] [(.int p2), (.int p1), (.ref dd)])) _
    refine XS.iloadN X0.here hx rfl (hb hby d22_12) rfl ?_
    show Steps p.tables e below (s₁.setTop (mkF m 13 #[.val (.ref dd), .val (.int p1), .val (.int p2), .val (.int p3)] [(.int p3), (.int p2), (.int p1), (.ref dd)])) _
    refine XS.dconst0 X0.here hx rfl (hb hby d22_13) rfl ?_
    exact k9
  obtain ⟨cq162, q162, q162'⟩ := (HD.1).cell
  obtain ⟨_, _, ⟨T162, L162, k162, n162⟩, -, X162, ⟨Lc162, hQ162, l162, y162, z162⟩, st162⟩ := X0.privateBack hx (y := (⟨"com/example/horizonte/horizonte/dd/DecisionDiagrams", "make", "(IIID)I"⟩ : MethodName)) hown (mvT hZ (hw _ (List.mem_of_getElem? (i := 124) rfl))) (mvT hZ (hw _ (List.mem_of_getElem? (i := 125) rfl))) (own_selP (mvT hZ (hw _ (List.mem_of_getElem? (i := 1) rfl))) (mvP hZ (hw _ (List.mem_of_getElem? (i := 126) rfl)) (args := #[])) (mvT hZ (hw _ (List.mem_of_getElem? (i := 125) rfl))) (by decide)) (Cond.privateMethod_at (mvP hZ (hw _ (List.mem_of_getElem? (i := 126) rfl)) (args := #[]))) (mvT hZ (hw _ (List.mem_of_getElem? (i := 127) rfl))) (by decide) (backOf (W := 0) (rm15 l Z a0 hw [] dd p1 p2 p3 (0 : UInt64) bv bl bh bd bs cnt vv lo hi dv sl zz oo h0 n0 Z0 HD HO NE GS hc own_nn0) hZ (hw _ (List.mem_of_getElem? (i := 127) rfl)) (hw _ (List.mem_of_getElem? (i := 2) rfl)) (by decide) (by decide)) (g := (mkF m 14 #[.val (.ref dd), .val (.int p1), .val (.int p2), .val (.int p3)] [(.double (0 : UInt64)), (.int p3), (.int p2), (.int p1), (.ref dd)])) rfl (by rw [hml]; rfl) (Steps.refl _) (a := dd) (by rw [e0]; exact q162) q162' (argsL := [(.int p1), (.int p2), (.int p3), (.double (0 : UInt64))]) (rest := []) (lenOf pd__28IIID_29I rfl) rfl (by show 2 * 0 + _ ≤ _; exact Nat.le_of_eq rfl) (hb hby d22_14) (fun _ _ => ⟨rfl, e0, (by decide : 0 + 0 ≤ _), (by decide : 0 + 0 ≤ _)⟩)
  dsimp only [Pt.U, Pt.locs, Pt.cells, Pt.slots] at X162 l162 y162 z162 st162 hQ162
  subst l162 y162 z162
  obtain ⟨rq, cq, vq, loq, hiq, dvq, slq, rfl, N162q, Kq, Dq, Oq, Rq⟩ := hQ162
  have N162 := Fr.app N0 N162q
  refine go (T162.setTop (mkF m 17 #[.val (.ref dd), .val (.int p1), .val (.int p2), .val (.int p3)] [(.int (Int32.ofNat rq))])) _ (fun t9 k9 => st162.trans k9) ?_
  obtain ⟨fs, hr, hrun, hended, hW, hsame⟩ := X162.leave (v := some (.int (Int32.ofNat rq))) (fun h => by rw [Bd.returns] at h; cases h) hlk
  refine fin _ ⟨_, _, retOut X162 hx (t := .int) Bd.returns rfl (Or.inl ⟨rfl, Or.inl rfl, _, rfl⟩) (hb hby d22_17) hr, hrun, hended, _, _, rfl, ?_, ⟨_, rfl⟩, hW, hsame.mono (by decide) (by decide)⟩
  show own_Q Z dd bv bl bh bd bs cnt vv lo hi dv zz oo p1 p2 p3 (0 : UInt64) h0 n0 _ T162.heap _
  exact ⟨rq, cq, vq, loq, hiq, dvq, slq, rfl, N162, Kq, Dq, Oq, Rq⟩
set_option maxRecDepth 65536 in
set_option maxHeartbeats 40000000 in
theorem rm20 (l : Launch) (Z : State) (a0 : Array Value) (hw : ∀ d ∈ tables_1, d.before a0 Z = true) (ws : List Jvm.Cond) (dd : Addr) (p1 : Int32) (bv bl bh bd bs : Addr) (cnt : Nat) (vv lo hi : Nat → Int32) (dv : Nat → UInt64) (sl : Nat → Int32) (zz oo : Int32) (h0 : Heap) (n0 : Nat) (Z0 : n0 ≤ h0.size) (HD : own_Dd Z h0 dd bv bl bh bd bs cnt vv lo hi dv sl zz oo) (HO : own_Ok cnt sl dv) (NE : own_Ne dd bv bl bh bd bs) (GS : own_Gs n0 dd bv bl bh bd bs) (hc : cnt ≤ 5) (hne : ¬ zz = oo) (hp0 : ¬ p1 < (0 : Int32)) (hp1 : p1 < (1073741824 : Int32)) :
    MetFree l (⟨"com/example/horizonte/horizonte/dd/DecisionDiagrams", "variable", "(I)I"⟩ : MethodName) (head1 (Jvm.Cond.code (⟨"com/example/horizonte/horizonte/dd/DecisionDiagrams", "variable", "(I)I"⟩ : MethodName) prog_4_method_3_code 2 (some .int) :: ws) ({ frames := 4, cells := 0, slots := 0, locals := 65 } : Room)) (fun a U => a = #[(.ref dd), (.int p1)] ∧ Z.Warmed39 U.vm ∧ U.heap = h0) (fun _ _ _ _ _ => True) (fun _ U o U' => ∃ v L, o = .returned v ∧ own_Q Z dd bv bl bh bd bs cnt vv lo hi dv zz oo p1 zz oo (0 : UInt64) h0 n0 v U'.heap L ∧ FrameEnd U o U' L ({ frames := 4, cells := 0, slots := 0, locals := 65 } : Room).cells ({ frames := 4, cells := 0, slots := 0, locals := 65 } : Room).slots) := by
  refine MetFree.of_bodySF (plainFor_of_name pn_com_example_horizonte_horizonte_dd_DecisionDiagrams) hisR ?_
  intro p e s m args below meth c s₁ Bd hml0 hP hK
  obtain ⟨rfl, hZ, hh⟩ := hP
  have hlk : meth.locks = false := by first | exact BodyLoose.notSynchronized Bd | exact Body.notSynchronized Bd
  have hx := Bd.exec
  have hby := Bd.bytes
  have hml : c.maxLocals = 2 := hml0
  have hown : s.vm.findClass "com/example/horizonte/horizonte/dd/DecisionDiagrams" = some m.cls := findClass_of_methodNamed Bd.named
  have hnm := (name_of_methodNamed Bd.named Bd.method).1
  have X0 : Stand p l e ({ frames := 4, cells := 0, slots := 0, locals := 65 } : Room) s m #[(.ref dd), (.int p1)] below meth c s₁ [] 0 0 := Stand.of_body Bd
  have e0 : s₁.heap = h0 := by rw [← hh, Bd.state]; rfl
  have N0 := Fr.nil n0
  refine own_open (fun G go fin => ?_)
  refine go (s₁.setTop (mkF m 0 #[.val (.ref dd), .val (.int p1)] [])) _ (fun t9 k9 => castTop (ef_20 m dd p1) k9) ?_
  obtain ⟨m_dd_bv, m_dd_bl, m_dd_bh, m_dd_bd, m_dd_bs, m_bv_bl, m_bv_bh, m_bv_bd, m_bv_bs, m_bl_bh, m_bl_bd, m_bl_bs, m_bh_bd, m_bh_bs, m_bd_bs⟩ := id NE
  obtain ⟨k_dd, k_bv, k_bl, k_bh, k_bd, k_bs⟩ := id GS
  obtain ⟨y163_E, y163_F0, y163_F1, y163_F2, y163_F3, y163_F4, y163_F5, y163_F6, y163_F7, y163_A0, y163_A1, y163_A2, y163_A3, y163_A4⟩ := id HD
  refine go (s₁.setTop (mkF m 1 #[.val (.ref dd), .val (.int p1)] [(.int p1)])) _ (fun t9 k9 => ?_) ?_
  · show Steps p.tables e below (s₁.setTop (mkF m 0 #[.val (.ref dd), .val (.int p1)] [])) _
    refine XS.iloadN X0.here hx rfl (hb hby d20_0) rfl ?_
    exact k9
  obtain ⟨_, _, ⟨T164, L164, k164, n164⟩, -, X164, ⟨Lc164, hQ164, l164, y164, z164⟩, st164⟩ := Jvm.LawKit.callS X0 hx (y := (⟨"com/example/horizonte/horizonte/dd/DecisionDiagrams", "checkVariable", "(I)V"⟩ : MethodName)) hown (mvT hZ (hw _ (List.mem_of_getElem? (i := 160) rfl))) (mvT hZ (hw _ (List.mem_of_getElem? (i := 161) rfl))) (mvT hZ (hw _ (List.mem_of_getElem? (i := 2) rfl))) (mvT hZ (hw _ (List.mem_of_getElem? (i := 162) rfl))) (by decide) (backOf (W := 0) (rm21 l Z a0 hw [] p1 h0 n0 Z0 hp0 hp1) hZ (hw _ (List.mem_of_getElem? (i := 162) rfl)) (hw _ (List.mem_of_getElem? (i := 2) rfl)) (by decide) (by decide)) (g := (mkF m 1 #[.val (.ref dd), .val (.int p1)] [(.int p1)])) rfl (by rw [hml]; rfl) (argsL := [(.int p1)]) (rest := []) (lenOf pd__28I_29V rfl) rfl (by show 2 * 0 + _ ≤ _; exact Nat.le_of_eq rfl) (hb hby d20_1) (fun _ _ => ⟨rfl, e0, (by decide : 0 + 0 ≤ _), (by decide : 0 + 0 ≤ _)⟩)
  dsimp only [Pt.U, Pt.locs, Pt.cells, Pt.slots] at X164 l164 y164 z164 st164 hQ164
  subst l164 y164 z164
  obtain ⟨rfl, N164q, e164q⟩ := hQ164
  have N164 := Fr.app N0 N164q
  refine go (T164.setTop (mkF m 4 #[.val (.ref dd), .val (.int p1)] [])) _ (fun t9 k9 => st164 _ k9) ?_
  refine go (T164.setTop (mkF m 7 #[.val (.ref dd), .val (.int p1)] [(.ref dd), (.int p1), (.ref dd)])) _ (fun t9 k9 => ?_) ?_
  · show Steps p.tables e below (T164.setTop (mkF m 4 #[.val (.ref dd), .val (.int p1)] [])) _
    refine XS.aloadN X164.here hx rfl (hb hby d20_4) rfl rfl ?_
    show Steps p.tables e below (T164.setTop (mkF m 5 #[.val (.ref dd), .val (.int p1)] [(.ref dd)])) _
    refine XS.iloadN X164.here hx rfl (hb hby d20_5) rfl ?_
    show Steps p.tables e below (T164.setTop (mkF m 6 #[.val (.ref dd), .val (.int p1)] [(.int p1), (.ref dd)])) _
    refine XS.aloadN X164.here hx rfl (hb hby d20_6) rfl rfl ?_
    exact k9
  obtain ⟨T165, X165, e165, st165⟩ := getF X164 hx hZ hown (host := "") (Or.inl (hw _ (List.mem_of_getElem? (i := 149) rfl))) Via.refl e164q y163_F6 (g := (mkF m 7 #[.val (.ref dd), .val (.int p1)] [(.ref dd), (.int p1), (.ref dd)])) rfl rfl (hb hby d20_7)
  refine go (T165.setTop (mkF m 10 #[.val (.ref dd), .val (.int p1)] [(.int zz), (.int p1), (.ref dd)])) _ (fun t9 k9 => st165 _ k9) ?_
  refine go (T165.setTop (mkF m 11 #[.val (.ref dd), .val (.int p1)] [(.ref dd), (.int zz), (.int p1), (.ref dd)])) _ (fun t9 k9 => ?_) ?_
  · show Steps p.tables e below (T165.setTop (mkF m 10 #[.val (.ref dd), .val (.int p1)] [(.int zz), (.int p1), (.ref dd)])) _
    refine XS.aloadN X165.here hx rfl (hb hby d20_10) rfl rfl ?_
    exact k9
  obtain ⟨T166, X166, e166, st166⟩ := getF X165 hx hZ hown (host := "") (Or.inl (hw _ (List.mem_of_getElem? (i := 151) rfl))) Via.refl e165 y163_F7 (g := (mkF m 11 #[.val (.ref dd), .val (.int p1)] [(.ref dd), (.int zz), (.int p1), (.ref dd)])) rfl rfl (hb hby d20_11)
  refine go (T166.setTop (mkF m 14 #[.val (.ref dd), .val (.int p1)] [(.int oo), (.int zz), (.int p1), (.ref dd)])) _ (fun t9 k9 => st166 _ k9) ?_
  obtain ⟨cq167, q167, q167'⟩ := (HD.1).cell
  obtain ⟨_, _, ⟨T167, L167, k167, n167⟩, -, X167, ⟨Lc167, hQ167, l167, y167, z167⟩, st167⟩ := X166.privateBack hx (y := (⟨"com/example/horizonte/horizonte/dd/DecisionDiagrams", "decision", "(III)I"⟩ : MethodName)) hown (mvT hZ (hw _ (List.mem_of_getElem? (i := 164) rfl))) (mvT hZ (hw _ (List.mem_of_getElem? (i := 165) rfl))) (own_selP (mvT hZ (hw _ (List.mem_of_getElem? (i := 1) rfl))) (mvP hZ (hw _ (List.mem_of_getElem? (i := 166) rfl)) (args := #[])) (mvT hZ (hw _ (List.mem_of_getElem? (i := 165) rfl))) (by decide)) (Cond.privateMethod_at (mvP hZ (hw _ (List.mem_of_getElem? (i := 166) rfl)) (args := #[]))) (mvT hZ (hw _ (List.mem_of_getElem? (i := 167) rfl))) (by decide) (backOf (W := 0) (rm22 l Z a0 hw [] dd p1 zz oo bv bl bh bd bs cnt vv lo hi dv sl zz oo h0 n0 Z0 HD HO NE GS hc hne) hZ (hw _ (List.mem_of_getElem? (i := 167) rfl)) (hw _ (List.mem_of_getElem? (i := 2) rfl)) (by decide) (by decide)) (g := (mkF m 14 #[.val (.ref dd), .val (.int p1)] [(.int oo), (.int zz), (.int p1), (.ref dd)])) rfl (by rw [hml]; rfl) (Steps.refl _) (a := dd) (by rw [e166]; exact q167) q167' (argsL := [(.int p1), (.int zz), (.int oo)]) (rest := []) (lenOf pd__28III_29I rfl) rfl (by show 2 * 0 + _ ≤ _; exact Nat.le_of_eq rfl) (hb hby d20_14) (fun _ _ => ⟨rfl, e166, (by decide : 0 + 0 ≤ _), (by decide : 0 + 0 ≤ _)⟩)
  dsimp only [Pt.U, Pt.locs, Pt.cells, Pt.slots] at X167 l167 y167 z167 st167 hQ167
  subst l167 y167 z167
  obtain ⟨rq, cq, vq, loq, hiq, dvq, slq, rfl, N167q, Kq, Dq, Oq, Rq⟩ := hQ167
  have N167 := Fr.app N164 N167q
  refine go (T167.setTop (mkF m 17 #[.val (.ref dd), .val (.int p1)] [(.int (Int32.ofNat rq))])) _ (fun t9 k9 => st167.trans k9) ?_
  obtain ⟨fs, hr, hrun, hended, hW, hsame⟩ := X167.leave (v := some (.int (Int32.ofNat rq))) (fun h => by rw [Bd.returns] at h; cases h) hlk
  refine fin _ ⟨_, _, retOut X167 hx (t := .int) Bd.returns rfl (Or.inl ⟨rfl, Or.inl rfl, _, rfl⟩) (hb hby d20_17) hr, hrun, hended, _, _, rfl, ?_, ⟨_, rfl⟩, hW, hsame.mono (by decide) (by decide)⟩
  show own_Q Z dd bv bl bh bd bs cnt vv lo hi dv zz oo p1 zz oo (0 : UInt64) h0 n0 _ T167.heap _
  exact ⟨rq, cq, vq, loq, hiq, dvq, slq, rfl, N167, Kq, Dq, Oq, Rq⟩
def Q23 (Z : State) (k : Int32) (h0 : Heap) (n0 : Nat) (v : Option Value) (h : Heap) (L : List Loc) : Prop := v = some (.int k) ∧ Fr n0 L ∧ h = h0
set_option maxRecDepth 65536 in
set_option maxHeartbeats 40000000 in
theorem rm23 (l : Launch) (Z : State) (a0 : Array Value) (hw : ∀ d ∈ tables_1, d.before a0 Z = true) (ws : List Jvm.Cond) (dd : Addr) (bb : Addr) (r : Nat) (hr : r ≤ 1000) (ff : Nat → Int32) (k : Int32) (hk : ((ff r) = (2147483647 : Int32) ∧ k = 1) ∨ (¬ (ff r) = (2147483647 : Int32) ∧ k = 0)) (h0 : Heap) (n0 : Nat) (Z0 : n0 ≤ h0.size) (F1 : Fld Z h0 dd "com/example/horizonte/horizonte/dd/DecisionDiagrams" "variables" "[I" (.ref bb)) (A1 : own_A Z h0 bb .int 1024 (fun j => .int (ff j))) :
    MetFree l (⟨"com/example/horizonte/horizonte/dd/DecisionDiagrams", "isLeaf", "(I)Z"⟩ : MethodName) (head1 (Jvm.Cond.code (⟨"com/example/horizonte/horizonte/dd/DecisionDiagrams", "isLeaf", "(I)Z"⟩ : MethodName) prog_4_method_58_code 2 (some .boolean) :: ws) ({ frames := 0, cells := 0, slots := 0, locals := 0 } : Room)) (fun a U => a = #[(.ref dd), (.int (Int32.ofNat r))] ∧ Z.Warmed39 U.vm ∧ U.heap = h0) (fun _ _ _ _ _ => True) (fun _ U o U' => ∃ v L, o = .returned v ∧ Q23 Z k h0 n0 v U'.heap L ∧ FrameEnd U o U' L ({ frames := 0, cells := 0, slots := 0, locals := 0 } : Room).cells ({ frames := 0, cells := 0, slots := 0, locals := 0 } : Room).slots) := by
  refine MetFree.of_bodySF (plainFor_of_name pn_com_example_horizonte_horizonte_dd_DecisionDiagrams) hisR ?_
  intro p e s m args below meth c s₁ Bd hml0 hP hK
  obtain ⟨rfl, hZ, hh⟩ := hP
  have hlk : meth.locks = false := by first | exact BodyLoose.notSynchronized Bd | exact Body.notSynchronized Bd
  have hx := Bd.exec
  have hby := Bd.bytes
  have hml : c.maxLocals = 2 := hml0
  have hown : s.vm.findClass "com/example/horizonte/horizonte/dd/DecisionDiagrams" = some m.cls := findClass_of_methodNamed Bd.named
  have hnm := (name_of_methodNamed Bd.named Bd.method).1
  have X0 : Stand p l e ({ frames := 0, cells := 0, slots := 0, locals := 0 } : Room) s m #[(.ref dd), (.int (Int32.ofNat r))] below meth c s₁ [] 0 0 := Stand.of_body Bd
  have e0 : s₁.heap = h0 := by rw [← hh, Bd.state]; rfl
  have N0 := Fr.nil n0
  refine own_open (fun G go fin => ?_)
  refine go (s₁.setTop (mkF m 0 #[.val (.ref dd), .val (.int (Int32.ofNat r))] [])) _ (fun t9 k9 => castTop (ef_23 m dd (Int32.ofNat r)) k9) ?_
  have hrn : (Int32.ofNat r).toNatClampNeg = r := own_n32 (by omega)
  have hrl : (Int32.ofNat r).toNatClampNeg < 1024 := by rw [hrn]; omega
  refine go (s₁.setTop (mkF m 1 #[.val (.ref dd), .val (.int (Int32.ofNat r))] [(.ref dd)])) _ (fun t9 k9 => ?_) ?_
  · show Steps p.tables e below (s₁.setTop (mkF m 0 #[.val (.ref dd), .val (.int (Int32.ofNat r))] [])) _
    refine XS.aloadN X0.here hx rfl (hb hby d23_0) rfl rfl ?_
    exact k9
  obtain ⟨T168, X168, e168, st168⟩ := getF X0 hx hZ hown (host := "") (Or.inl (hw _ (List.mem_of_getElem? (i := 10) rfl))) Via.refl e0 F1 (g := (mkF m 1 #[.val (.ref dd), .val (.int (Int32.ofNat r))] [(.ref dd)])) rfl rfl (hb hby d23_1)
  refine go (T168.setTop (mkF m 4 #[.val (.ref dd), .val (.int (Int32.ofNat r))] [(.ref bb)])) _ (fun t9 k9 => st168 _ k9) ?_
  refine go (T168.setTop (mkF m 5 #[.val (.ref dd), .val (.int (Int32.ofNat r))] [(.int (Int32.ofNat r)), (.ref bb)])) _ (fun t9 k9 => ?_) ?_
  · show Steps p.tables e below (T168.setTop (mkF m 4 #[.val (.ref dd), .val (.int (Int32.ofNat r))] [(.ref bb)])) _
    refine XS.iloadN X168.here hx rfl (hb hby d23_4) rfl ?_
    exact k9
  obtain ⟨cl169, Ar169, Sz169, Hv169⟩ := A1
  have u170 : own_A Z h0 bb .int 1024 (fun j => .int (ff j)) := ⟨cl169, Ar169, Sz169, Hv169⟩
  refine go (T168.setTop (mkF m 8 #[.val (.ref dd), .val (.int (Int32.ofNat r))] [(.int (2147483647 : Int32)), (.int (ff r))])) _ (fun t9 k9 => ?_) ?_
  · show Steps p.tables e below (T168.setTop (mkF m 5 #[.val (.ref dd), .val (.int (Int32.ofNat r))] [(.int (Int32.ofNat r)), (.ref bb)])) _
    refine X168.iaload hx (j := (Int32.ofNat r)) (v := (.int (ff r))) (by rw [e168]; exact Ar169.1) (State.isArrayOf_alike hZ.alike Ar169.2.1) Ar169.2.2 (own_hin Sz169 (own_nn (by omega)) hrl) ((Hv169 _ hrl).trans (congrArg some (congrArg (fun j => Value.int (ff j)) hrn))) (g := (mkF m 5 #[.val (.ref dd), .val (.int (Int32.ofNat r))] [(.int (Int32.ofNat r)), (.ref bb)])) rfl rfl (hb hby d23_5) _ ?_
    show Steps p.tables e below (T168.setTop (mkF m 6 #[.val (.ref dd), .val (.int (Int32.ofNat r))] [(.int (ff r))])) _
    refine X168.ldcInt hx hown (mvT hZ (hw _ (List.mem_of_getElem? (i := 123) rfl))) (g := (mkF m 6 #[.val (.ref dd), .val (.int (Int32.ofNat r))] [(.int (ff r))])) rfl (hb hby d23_6) _ ?_
    exact k9
  rcases hk with ⟨hk, rfl⟩ | ⟨hk, rfl⟩
  · refine go (T168.setTop (mkF m 16 #[.val (.ref dd), .val (.int (Int32.ofNat r))] [(.int (1 : Int32))])) _ (fun t9 k9 => ?_) ?_
    · show Steps p.tables e below (T168.setTop (mkF m 8 #[.val (.ref dd), .val (.int (Int32.ofNat r))] [(.int (2147483647 : Int32)), (.int (ff r))])) _
      refine XS.icmpNo X168.here hx rfl (hb hby d23_8) rfl (teq hk).2 ?_
      show Steps p.tables e below (T168.setTop (mkF m 11 #[.val (.ref dd), .val (.int (Int32.ofNat r))] [])) _
      refine XS.iconst X168.here hx rfl (hb hby d23_11) ?_
      show Steps p.tables e below (T168.setTop (mkF m 12 #[.val (.ref dd), .val (.int (Int32.ofNat r))] [(.int (1 : Int32))])) _
      refine XS.goto X168.here hx rfl (pc0 := 12) (pc' := 16) rfl (hb hby d23_12) (by decide) (by decide) ?_
      exact k9
    obtain ⟨fs, hr, hrun, hended, hW, hsame⟩ := X168.leave (v := some (.int (1 : Int32))) (fun h => by rw [Bd.returns] at h; cases h) hlk
    refine fin _ ⟨_, _, retN X168 hx (t := .boolean) Bd.returns (by simp) (hb hby d23_16) hr, hrun, hended, _, _, rfl, ?_, ⟨_, rfl⟩, hW, hsame.mono (by decide) (by decide)⟩
    show Q23 Z (1 : Int32) h0 n0 _ T168.heap _
    rw [e168]
    exact ⟨rfl, N0, rfl⟩
  · refine go (T168.setTop (mkF m 16 #[.val (.ref dd), .val (.int (Int32.ofNat r))] [(.int (0 : Int32))])) _ (fun t9 k9 => ?_) ?_
    · show Steps p.tables e below (T168.setTop (mkF m 8 #[.val (.ref dd), .val (.int (Int32.ofNat r))] [(.int (2147483647 : Int32)), (.int (ff r))])) _
      refine XS.icmpYes X168.here hx rfl (pc0 := 8) (pc' := 15) rfl (hb hby d23_8) rfl (feq hk).2 (by decide) (by decide) ?_
      show Steps p.tables e below (T168.setTop (mkF m 15 #[.val (.ref dd), .val (.int (Int32.ofNat r))] [])) _
      refine XS.iconst X168.here hx rfl (hb hby d23_15) ?_
      exact k9
    obtain ⟨fs, hr, hrun, hended, hW, hsame⟩ := X168.leave (v := some (.int (0 : Int32))) (fun h => by rw [Bd.returns] at h; cases h) hlk
    refine fin _ ⟨_, _, retN X168 hx (t := .boolean) Bd.returns (by simp) (hb hby d23_16) hr, hrun, hended, _, _, rfl, ?_, ⟨_, rfl⟩, hW, hsame.mono (by decide) (by decide)⟩
    show Q23 Z (0 : Int32) h0 n0 _ T168.heap _
    rw [e168]
    exact ⟨rfl, N0, rfl⟩
def Q24 (Z : State) (k : Int32) (h0 : Heap) (n0 : Nat) (v : Option Value) (h : Heap) (L : List Loc) : Prop := v = some (.int k) ∧ Fr n0 L ∧ h = h0
set_option maxRecDepth 65536 in
set_option maxHeartbeats 40000000 in
theorem rm24 (l : Launch) (Z : State) (a0 : Array Value) (hw : ∀ d ∈ tables_1, d.before a0 Z = true) (ws : List Jvm.Cond) (dd : Addr) (bb : Addr) (r : Nat) (hr : r ≤ 1000) (ff : Nat → Int32) (h0 : Heap) (n0 : Nat) (Z0 : n0 ≤ h0.size) (F1 : Fld Z h0 dd "com/example/horizonte/horizonte/dd/DecisionDiagrams" "lows" "[I" (.ref bb)) (A1 : own_A Z h0 bb .int 1024 (fun j => .int (ff j))) :
    MetFree l (⟨"com/example/horizonte/horizonte/dd/DecisionDiagrams", "low", "(I)I"⟩ : MethodName) (head1 (Jvm.Cond.code (⟨"com/example/horizonte/horizonte/dd/DecisionDiagrams", "low", "(I)I"⟩ : MethodName) prog_4_method_60_code 2 (some .int) :: ws) ({ frames := 0, cells := 0, slots := 0, locals := 0 } : Room)) (fun a U => a = #[(.ref dd), (.int (Int32.ofNat r))] ∧ Z.Warmed39 U.vm ∧ U.heap = h0) (fun _ _ _ _ _ => True) (fun _ U o U' => ∃ v L, o = .returned v ∧ Q24 Z (ff r) h0 n0 v U'.heap L ∧ FrameEnd U o U' L ({ frames := 0, cells := 0, slots := 0, locals := 0 } : Room).cells ({ frames := 0, cells := 0, slots := 0, locals := 0 } : Room).slots) := by
  refine MetFree.of_bodySF (plainFor_of_name pn_com_example_horizonte_horizonte_dd_DecisionDiagrams) hisR ?_
  intro p e s m args below meth c s₁ Bd hml0 hP hK
  obtain ⟨rfl, hZ, hh⟩ := hP
  have hlk : meth.locks = false := by first | exact BodyLoose.notSynchronized Bd | exact Body.notSynchronized Bd
  have hx := Bd.exec
  have hby := Bd.bytes
  have hml : c.maxLocals = 2 := hml0
  have hown : s.vm.findClass "com/example/horizonte/horizonte/dd/DecisionDiagrams" = some m.cls := findClass_of_methodNamed Bd.named
  have hnm := (name_of_methodNamed Bd.named Bd.method).1
  have X0 : Stand p l e ({ frames := 0, cells := 0, slots := 0, locals := 0 } : Room) s m #[(.ref dd), (.int (Int32.ofNat r))] below meth c s₁ [] 0 0 := Stand.of_body Bd
  have e0 : s₁.heap = h0 := by rw [← hh, Bd.state]; rfl
  have N0 := Fr.nil n0
  refine own_open (fun G go fin => ?_)
  refine go (s₁.setTop (mkF m 0 #[.val (.ref dd), .val (.int (Int32.ofNat r))] [])) _ (fun t9 k9 => castTop (ef_24 m dd (Int32.ofNat r)) k9) ?_
  have hrn : (Int32.ofNat r).toNatClampNeg = r := own_n32 (by omega)
  have hrl : (Int32.ofNat r).toNatClampNeg < 1024 := by rw [hrn]; omega
  refine go (s₁.setTop (mkF m 1 #[.val (.ref dd), .val (.int (Int32.ofNat r))] [(.ref dd)])) _ (fun t9 k9 => ?_) ?_
  · show Steps p.tables e below (s₁.setTop (mkF m 0 #[.val (.ref dd), .val (.int (Int32.ofNat r))] [])) _
    refine XS.aloadN X0.here hx rfl (hb hby d24_0) rfl rfl ?_
    exact k9
  obtain ⟨T171, X171, e171, st171⟩ := getF X0 hx hZ hown (host := "") (Or.inl (hw _ (List.mem_of_getElem? (i := 12) rfl))) Via.refl e0 F1 (g := (mkF m 1 #[.val (.ref dd), .val (.int (Int32.ofNat r))] [(.ref dd)])) rfl rfl (hb hby d24_1)
  refine go (T171.setTop (mkF m 4 #[.val (.ref dd), .val (.int (Int32.ofNat r))] [(.ref bb)])) _ (fun t9 k9 => st171 _ k9) ?_
  refine go (T171.setTop (mkF m 5 #[.val (.ref dd), .val (.int (Int32.ofNat r))] [(.int (Int32.ofNat r)), (.ref bb)])) _ (fun t9 k9 => ?_) ?_
  · show Steps p.tables e below (T171.setTop (mkF m 4 #[.val (.ref dd), .val (.int (Int32.ofNat r))] [(.ref bb)])) _
    refine XS.iloadN X171.here hx rfl (hb hby d24_4) rfl ?_
    exact k9
  obtain ⟨cl172, Ar172, Sz172, Hv172⟩ := A1
  have u173 : own_A Z h0 bb .int 1024 (fun j => .int (ff j)) := ⟨cl172, Ar172, Sz172, Hv172⟩
  refine go (T171.setTop (mkF m 6 #[.val (.ref dd), .val (.int (Int32.ofNat r))] [(.int (ff r))])) _ (fun t9 k9 => ?_) ?_
  · show Steps p.tables e below (T171.setTop (mkF m 5 #[.val (.ref dd), .val (.int (Int32.ofNat r))] [(.int (Int32.ofNat r)), (.ref bb)])) _
    refine X171.iaload hx (j := (Int32.ofNat r)) (v := (.int (ff r))) (by rw [e171]; exact Ar172.1) (State.isArrayOf_alike hZ.alike Ar172.2.1) Ar172.2.2 (own_hin Sz172 (own_nn (by omega)) hrl) ((Hv172 _ hrl).trans (congrArg some (congrArg (fun j => Value.int (ff j)) hrn))) (g := (mkF m 5 #[.val (.ref dd), .val (.int (Int32.ofNat r))] [(.int (Int32.ofNat r)), (.ref bb)])) rfl rfl (hb hby d24_5) _ ?_
    exact k9
  obtain ⟨fs, hr, hrun, hended, hW, hsame⟩ := X171.leave (v := some (.int (ff r))) (fun h => by rw [Bd.returns] at h; cases h) hlk
  refine fin _ ⟨_, _, retOut X171 hx (t := .int) Bd.returns rfl (Or.inl ⟨rfl, Or.inl rfl, _, rfl⟩) (hb hby d24_6) hr, hrun, hended, _, _, rfl, ?_, ⟨_, rfl⟩, hW, hsame.mono (by decide) (by decide)⟩
  show Q24 Z (ff r) h0 n0 _ T171.heap _
  rw [e171]
  exact ⟨rfl, N0, rfl⟩
def Q25 (Z : State) (k : Int32) (h0 : Heap) (n0 : Nat) (v : Option Value) (h : Heap) (L : List Loc) : Prop := v = some (.int k) ∧ Fr n0 L ∧ h = h0
set_option maxRecDepth 65536 in
set_option maxHeartbeats 40000000 in
theorem rm25 (l : Launch) (Z : State) (a0 : Array Value) (hw : ∀ d ∈ tables_1, d.before a0 Z = true) (ws : List Jvm.Cond) (dd : Addr) (bb : Addr) (r : Nat) (hr : r ≤ 1000) (ff : Nat → Int32) (h0 : Heap) (n0 : Nat) (Z0 : n0 ≤ h0.size) (F1 : Fld Z h0 dd "com/example/horizonte/horizonte/dd/DecisionDiagrams" "highs" "[I" (.ref bb)) (A1 : own_A Z h0 bb .int 1024 (fun j => .int (ff j))) :
    MetFree l (⟨"com/example/horizonte/horizonte/dd/DecisionDiagrams", "high", "(I)I"⟩ : MethodName) (head1 (Jvm.Cond.code (⟨"com/example/horizonte/horizonte/dd/DecisionDiagrams", "high", "(I)I"⟩ : MethodName) prog_4_method_61_code 2 (some .int) :: ws) ({ frames := 0, cells := 0, slots := 0, locals := 0 } : Room)) (fun a U => a = #[(.ref dd), (.int (Int32.ofNat r))] ∧ Z.Warmed39 U.vm ∧ U.heap = h0) (fun _ _ _ _ _ => True) (fun _ U o U' => ∃ v L, o = .returned v ∧ Q25 Z (ff r) h0 n0 v U'.heap L ∧ FrameEnd U o U' L ({ frames := 0, cells := 0, slots := 0, locals := 0 } : Room).cells ({ frames := 0, cells := 0, slots := 0, locals := 0 } : Room).slots) := by
  refine MetFree.of_bodySF (plainFor_of_name pn_com_example_horizonte_horizonte_dd_DecisionDiagrams) hisR ?_
  intro p e s m args below meth c s₁ Bd hml0 hP hK
  obtain ⟨rfl, hZ, hh⟩ := hP
  have hlk : meth.locks = false := by first | exact BodyLoose.notSynchronized Bd | exact Body.notSynchronized Bd
  have hx := Bd.exec
  have hby := Bd.bytes
  have hml : c.maxLocals = 2 := hml0
  have hown : s.vm.findClass "com/example/horizonte/horizonte/dd/DecisionDiagrams" = some m.cls := findClass_of_methodNamed Bd.named
  have hnm := (name_of_methodNamed Bd.named Bd.method).1
  have X0 : Stand p l e ({ frames := 0, cells := 0, slots := 0, locals := 0 } : Room) s m #[(.ref dd), (.int (Int32.ofNat r))] below meth c s₁ [] 0 0 := Stand.of_body Bd
  have e0 : s₁.heap = h0 := by rw [← hh, Bd.state]; rfl
  have N0 := Fr.nil n0
  refine own_open (fun G go fin => ?_)
  refine go (s₁.setTop (mkF m 0 #[.val (.ref dd), .val (.int (Int32.ofNat r))] [])) _ (fun t9 k9 => castTop (ef_25 m dd (Int32.ofNat r)) k9) ?_
  have hrn : (Int32.ofNat r).toNatClampNeg = r := own_n32 (by omega)
  have hrl : (Int32.ofNat r).toNatClampNeg < 1024 := by rw [hrn]; omega
  refine go (s₁.setTop (mkF m 1 #[.val (.ref dd), .val (.int (Int32.ofNat r))] [(.ref dd)])) _ (fun t9 k9 => ?_) ?_
  · show Steps p.tables e below (s₁.setTop (mkF m 0 #[.val (.ref dd), .val (.int (Int32.ofNat r))] [])) _
    refine XS.aloadN X0.here hx rfl (hb hby d25_0) rfl rfl ?_
    exact k9
  obtain ⟨T174, X174, e174, st174⟩ := getF X0 hx hZ hown (host := "") (Or.inl (hw _ (List.mem_of_getElem? (i := 14) rfl))) Via.refl e0 F1 (g := (mkF m 1 #[.val (.ref dd), .val (.int (Int32.ofNat r))] [(.ref dd)])) rfl rfl (hb hby d25_1)
  refine go (T174.setTop (mkF m 4 #[.val (.ref dd), .val (.int (Int32.ofNat r))] [(.ref bb)])) _ (fun t9 k9 => st174 _ k9) ?_
  refine go (T174.setTop (mkF m 5 #[.val (.ref dd), .val (.int (Int32.ofNat r))] [(.int (Int32.ofNat r)), (.ref bb)])) _ (fun t9 k9 => ?_) ?_
  · show Steps p.tables e below (T174.setTop (mkF m 4 #[.val (.ref dd), .val (.int (Int32.ofNat r))] [(.ref bb)])) _
    refine XS.iloadN X174.here hx rfl (hb hby d25_4) rfl ?_
    exact k9
  obtain ⟨cl175, Ar175, Sz175, Hv175⟩ := A1
  have u176 : own_A Z h0 bb .int 1024 (fun j => .int (ff j)) := ⟨cl175, Ar175, Sz175, Hv175⟩
  refine go (T174.setTop (mkF m 6 #[.val (.ref dd), .val (.int (Int32.ofNat r))] [(.int (ff r))])) _ (fun t9 k9 => ?_) ?_
  · show Steps p.tables e below (T174.setTop (mkF m 5 #[.val (.ref dd), .val (.int (Int32.ofNat r))] [(.int (Int32.ofNat r)), (.ref bb)])) _
    refine X174.iaload hx (j := (Int32.ofNat r)) (v := (.int (ff r))) (by rw [e174]; exact Ar175.1) (State.isArrayOf_alike hZ.alike Ar175.2.1) Ar175.2.2 (own_hin Sz175 (own_nn (by omega)) hrl) ((Hv175 _ hrl).trans (congrArg some (congrArg (fun j => Value.int (ff j)) hrn))) (g := (mkF m 5 #[.val (.ref dd), .val (.int (Int32.ofNat r))] [(.int (Int32.ofNat r)), (.ref bb)])) rfl rfl (hb hby d25_5) _ ?_
    exact k9
  obtain ⟨fs, hr, hrun, hended, hW, hsame⟩ := X174.leave (v := some (.int (ff r))) (fun h => by rw [Bd.returns] at h; cases h) hlk
  refine fin _ ⟨_, _, retOut X174 hx (t := .int) Bd.returns rfl (Or.inl ⟨rfl, Or.inl rfl, _, rfl⟩) (hb hby d25_6) hr, hrun, hended, _, _, rfl, ?_, ⟨_, rfl⟩, hW, hsame.mono (by decide) (by decide)⟩
  show Q25 Z (ff r) h0 n0 _ T174.heap _
  rw [e174]
  exact ⟨rfl, N0, rfl⟩
def Q10 (Z : State) (a1 : Addr) (nn : Nat) (p2 : Int32) (h0 : Heap) (n0 : Nat) (v : Option Value) (h : Heap) (L : List Loc) : Prop := v = none ∧ Fr n0 L ∧ Keep h0 h [a1] ∧ own_A Z h a1 .int nn (fun _ => .int p2)
set_option maxRecDepth 65536 in
set_option maxHeartbeats 40000000 in
theorem rm10 (l : Launch) (Z : State) (a0 : Array Value) (hw : ∀ d ∈ tables_1, d.before a0 Z = true) (ws : List Jvm.Cond) (a1 : Addr) (p2 : Int32) (nn : Nat) (hnn : nn ≤ 2048) (h0 : Heap) (n0 : Nat) (Z0 : n0 ≤ h0.size) (V1 : own_A Z h0 a1 .int nn (fun _ => .int 0)) (g_a1 : n0 ≤ a1) :
    MetFree l (⟨"java/util/Arrays", "fill", "([II)V"⟩ : MethodName) (head1 (Jvm.Cond.code (⟨"java/util/Arrays", "fill", "([II)V"⟩ : MethodName) jdk_65_method_103_code 4 none :: ws) ({ frames := 0, cells := 0, slots := 0, locals := 0 } : Room)) (fun a U => a = #[(.ref a1), (.int p2)] ∧ Z.Warmed39 U.vm ∧ U.heap = h0) (fun _ _ _ _ _ => True) (fun _ U o U' => ∃ v L, o = .returned v ∧ Q10 Z a1 nn p2 h0 n0 v U'.heap L ∧ FrameEnd U o U' L ({ frames := 0, cells := 0, slots := 0, locals := 0 } : Room).cells ({ frames := 0, cells := 0, slots := 0, locals := 0 } : Room).slots) := by
  refine MetFree.of_bodySF (plainFor_of_name pn_java_util_Arrays) hisR ?_
  intro p e s m args below meth c s₁ Bd hml0 hP hK
  obtain ⟨rfl, hZ, hh⟩ := hP
  have hlk : meth.locks = false := by first | exact BodyLoose.notSynchronized Bd | exact Body.notSynchronized Bd
  have hx := Bd.exec
  have hby := Bd.bytes
  have hml : c.maxLocals = 4 := hml0
  have hown : s.vm.findClass "java/util/Arrays" = some m.cls := findClass_of_methodNamed Bd.named
  have hnm := (name_of_methodNamed Bd.named Bd.method).1
  have X0 : Stand p l e ({ frames := 0, cells := 0, slots := 0, locals := 0 } : Room) s m #[(.ref a1), (.int p2)] below meth c s₁ [] 0 0 := Stand.of_body Bd
  have e0 : s₁.heap = h0 := by rw [← hh, Bd.state]; rfl
  have N0 := Fr.nil n0
  refine own_open (fun G go fin => ?_)
  refine go (s₁.setTop (mkF m 0 #[.val (.ref a1), .val (.int p2), .unset, .unset] [])) _ (fun t9 k9 => castTop (ef_10 m a1 p2) k9) ?_
  refine go (s₁.setTop (mkF m 3 #[.val (.ref a1), .val (.int p2), .val (.int (0 : Int32)), .unset] [(.ref a1)])) _ (fun t9 k9 => ?_) ?_
  · show Steps p.tables e below (s₁.setTop (mkF m 0 #[.val (.ref a1), .val (.int p2), .unset, .unset] [])) _
    refine XS.iconst X0.here hx rfl (hb hby d10_0) ?_
    show Steps p.tables e below (s₁.setTop (mkF m 1 #[.val (.ref a1), .val (.int p2), .unset, .unset] [(.int (0 : Int32))])) _
    refine XS.istoreN X0.here hx rfl (hb hby d10_1) rfl (l' := #[.val (.ref a1), .val (.int p2), .val (.int (0 : Int32)), .unset]) rfl ?_
    show Steps p.tables e below (s₁.setTop (mkF m 2 #[.val (.ref a1), .val (.int p2), .val (.int (0 : Int32)), .unset] [])) _
    refine XS.aloadN X0.here hx rfl (hb hby d10_2) rfl rfl ?_
    exact k9
  obtain ⟨cl177, Ar177, Sz177, Hv177⟩ := V1
  have u178 : own_A Z h0 a1 .int nn (fun _ => .int 0) := ⟨cl177, Ar177, Sz177, Hv177⟩
  refine go (s₁.setTop (mkF m 5 #[.val (.ref a1), .val (.int p2), .val (.int (0 : Int32)), .val (.int (Int32.ofNat nn))] [])) _ (fun t9 k9 => ?_) ?_
  · show Steps p.tables e below (s₁.setTop (mkF m 3 #[.val (.ref a1), .val (.int p2), .val (.int (0 : Int32)), .unset] [(.ref a1)])) _
    refine X0.arraylength hx (by rw [e0]; exact Ar177.1) (State.isArrayOf_alike hZ.alike Ar177.2.1) (g := (mkF m 3 #[.val (.ref a1), .val (.int p2), .val (.int (0 : Int32)), .unset] [(.ref a1)])) rfl (rest := []) rfl (hb hby d10_3) _ ?_
    rw [len_of (z := (Int32.ofNat nn)) (Sz177.trans (own_n32 (by omega)).symm) (own_nn (by omega))]
    show Steps p.tables e below (s₁.setTop (mkF m 4 #[.val (.ref a1), .val (.int p2), .val (.int (0 : Int32)), .unset] [(.int (Int32.ofNat nn))])) _
    refine XS.istoreN X0.here hx rfl (hb hby d10_4) rfl (l' := #[.val (.ref a1), .val (.int p2), .val (.int (0 : Int32)), .val (.int (Int32.ofNat nn))]) rfl ?_
    exact k9
  have loop : ∀ (k i : Nat) (T1 : State) (h1 : Heap) (L1 : List Loc) (X1 : Stand p l e ({ frames := 0, cells := 0, slots := 0, locals := 0 } : Room) s m #[(.ref a1), (.int p2)] below meth c T1 L1 0 0) (e1 : T1.heap = h1) (K1 : Keep h0 h1 [a1]) (N1 : Fr n0 L1) (V1 : own_A Z h1 a1 .int nn (fun j => .int (if j < i then p2 else 0))), i + k = nn → G (T1.setTop (mkF m 5 #[.val (.ref a1), .val (.int p2), .val (.int (Int32.ofNat i)), .val (.int (Int32.ofNat nn))] [])) := by
    intro k
    induction k with
    | zero =>
      intro i T1 h1 L1 X1 e1 K1 N1 V1 hi
      obtain rfl : i = nn := by omega
      refine go (T1.setTop (mkF m 20 #[.val (.ref a1), .val (.int p2), .val (.int (Int32.ofNat i)), .val (.int (Int32.ofNat i))] [])) _ (fun t9 k9 => ?_) ?_
      · show Steps p.tables e below (T1.setTop (mkF m 5 #[.val (.ref a1), .val (.int p2), .val (.int (Int32.ofNat i)), .val (.int (Int32.ofNat i))] [])) _
        refine XS.iloadN X1.here hx rfl (hb hby d10_5) rfl ?_
        show Steps p.tables e below (T1.setTop (mkF m 6 #[.val (.ref a1), .val (.int p2), .val (.int (Int32.ofNat i)), .val (.int (Int32.ofNat i))] [(.int (Int32.ofNat i))])) _
        refine XS.iloadN X1.here hx rfl (hb hby d10_6) rfl ?_
        show Steps p.tables e below (T1.setTop (mkF m 7 #[.val (.ref a1), .val (.int p2), .val (.int (Int32.ofNat i)), .val (.int (Int32.ofNat i))] [(.int (Int32.ofNat i)), (.int (Int32.ofNat i))])) _
        refine XS.icmpYes X1.here hx rfl (pc0 := 7) (pc' := 20) rfl (hb hby d10_7) rfl (flt (Int32.lt_irrefl : ¬ Int32.ofNat i < Int32.ofNat i)).2.1 (by decide) (by decide) ?_
        exact k9
      obtain ⟨fs, hr, hrun, hended, hW, hsame⟩ := X1.leave (v := none) (fun h => by rfl) hlk
      refine fin _ ⟨_, _, X1.returnOut hx Bd.returns (hb hby d10_20) hr, hrun, hended, _, _, rfl, ?_, ⟨_, rfl⟩, hW, hsame.mono (by decide) (by decide)⟩
      show Q10 Z a1 i p2 h0 n0 _ T1.heap _
      rw [e1]
      exact ⟨rfl, N1, K1, own_A_congr V1 (fun j hj => by rw [if_pos hj])⟩
    | succ k ih =>
      intro i T1 h1 L1 X1 e1 K1 N1 V1 hi
      have hin : (Int32.ofNat i).toNatClampNeg = i := own_n32 (by omega)
      have hil : (Int32.ofNat i).toNatClampNeg < nn := by rw [hin]; omega
      refine go (T1.setTop (mkF m 13 #[.val (.ref a1), .val (.int p2), .val (.int (Int32.ofNat i)), .val (.int (Int32.ofNat nn))] [(.int p2), (.int (Int32.ofNat i)), (.ref a1)])) _ (fun t9 k9 => ?_) ?_
      · show Steps p.tables e below (T1.setTop (mkF m 5 #[.val (.ref a1), .val (.int p2), .val (.int (Int32.ofNat i)), .val (.int (Int32.ofNat nn))] [])) _
        refine XS.iloadN X1.here hx rfl (hb hby d10_5) rfl ?_
        show Steps p.tables e below (T1.setTop (mkF m 6 #[.val (.ref a1), .val (.int p2), .val (.int (Int32.ofNat i)), .val (.int (Int32.ofNat nn))] [(.int (Int32.ofNat i))])) _
        refine XS.iloadN X1.here hx rfl (hb hby d10_6) rfl ?_
        show Steps p.tables e below (T1.setTop (mkF m 7 #[.val (.ref a1), .val (.int p2), .val (.int (Int32.ofNat i)), .val (.int (Int32.ofNat nn))] [(.int (Int32.ofNat nn)), (.int (Int32.ofNat i))])) _
        refine XS.icmpNo X1.here hx rfl (hb hby d10_7) rfl (tlt (XT.lt32 (by omega) (by omega) : Int32.ofNat i < Int32.ofNat nn)).2.1 ?_
        show Steps p.tables e below (T1.setTop (mkF m 10 #[.val (.ref a1), .val (.int p2), .val (.int (Int32.ofNat i)), .val (.int (Int32.ofNat nn))] [])) _
        refine XS.aloadN X1.here hx rfl (hb hby d10_10) rfl rfl ?_
        show Steps p.tables e below (T1.setTop (mkF m 11 #[.val (.ref a1), .val (.int p2), .val (.int (Int32.ofNat i)), .val (.int (Int32.ofNat nn))] [(.ref a1)])) _
        refine XS.iloadN X1.here hx rfl (hb hby d10_11) rfl ?_
        show Steps p.tables e below (T1.setTop (mkF m 12 #[.val (.ref a1), .val (.int p2), .val (.int (Int32.ofNat i)), .val (.int (Int32.ofNat nn))] [(.int (Int32.ofNat i)), (.ref a1)])) _
        refine XS.iloadN X1.here hx rfl (hb hby d10_12) rfl ?_
        exact k9
      obtain ⟨cl179, Ar179, Sz179, Hv179⟩ := V1
      have u180 : own_A Z h1 a1 .int nn (fun j => .int (if j < i then p2 else 0)) := ⟨cl179, Ar179, Sz179, Hv179⟩
      obtain ⟨T181, h181, X181, e181, W181, st181⟩ := stI X1 hx hZ e1 Ar179 (j := (Int32.ofNat i)) (own_hin Sz179 (own_nn (by omega)) hil) (g := (mkF m 13 #[.val (.ref a1), .val (.int p2), .val (.int (Int32.ofNat i)), .val (.int (Int32.ofNat nn))] [(.int p2), (.int (Int32.ofNat i)), (.ref a1)])) rfl rfl (hb hby d10_13)
      have N181 := Fr.snoc X181 N1 g_a1
      refine go (T181.setTop (mkF m 14 #[.val (.ref a1), .val (.int p2), .val (.int (Int32.ofNat i)), .val (.int (Int32.ofNat nn))] [])) _ (fun t9 k9 => st181 _ k9) ?_
      have u182 : Keep h0 h181 [a1] := K1.wr W181 (Or.inl (List.mem_of_getElem? (i := 0) rfl))
      have u183 : own_A Z h181 a1 .int nn (fun j => .int (if j < (i + 1) then p2 else 0)) := own_A_congr (own_A_set Ar179 Sz179 Hv179 W181 hil) (fun j hj => by rw [hin]; exact own_setf Value.int (fun _ => p2) 0 i nn j hj)
      refine go (T181.setTop (mkF m 5 #[.val (.ref a1), .val (.int p2), .val (.int ((Int32.ofNat i) + (1 : Int32))), .val (.int (Int32.ofNat nn))] [])) _ (fun t9 k9 => ?_) ?_
      · show Steps p.tables e below (T181.setTop (mkF m 14 #[.val (.ref a1), .val (.int p2), .val (.int (Int32.ofNat i)), .val (.int (Int32.ofNat nn))] [])) _
        refine XS.iinc X181.here hx rfl (hb hby d10_14) rfl (l' := #[.val (.ref a1), .val (.int p2), .val (.int ((Int32.ofNat i) + (1 : Int32))), .val (.int (Int32.ofNat nn))]) rfl ?_
        show Steps p.tables e below (T181.setTop (mkF m 17 #[.val (.ref a1), .val (.int p2), .val (.int ((Int32.ofNat i) + (1 : Int32))), .val (.int (Int32.ofNat nn))] [])) _
        refine XS.goto X181.here hx rfl (pc0 := 17) (pc' := 5) rfl (hb hby d10_17) (by decide) (by decide) ?_
        exact k9
      rw [XT.succ32]
      exact ih (i + 1) T181 _ _ X181 e181 u182 N181 u183 (by omega)
  exact loop nn 0 s₁ _ _ X0 e0 (Keep.refl h0 [a1]) N0 (own_A_congr u178 (own_zero Value.int (fun _ => p2) 0 nn)) (by omega)
def Q9 (Z : State) (nn : Nat) (h0 : Heap) (n0 : Nat) (v : Option Value) (h : Heap) (L : List Loc) : Prop := ∃ b : Addr, v = some (.ref b) ∧ Fr n0 L ∧ Keep h0 h [] ∧ own_A Z h b .int nn (fun _ => .int (-1)) ∧ h0.size ≤ b
set_option maxRecDepth 65536 in
set_option maxHeartbeats 40000000 in
theorem rm9 (l : Launch) (Z : State) (a0 : Array Value) (hw : ∀ d ∈ tables_1, d.before a0 Z = true) (ws : List Jvm.Cond)  (nn : Nat) (hnn : nn ≤ 2048) (h0 : Heap) (n0 : Nat) (Z0 : n0 ≤ h0.size)  :
    MetFree l (⟨"com/example/horizonte/horizonte/dd/DecisionDiagrams", "filled", "(I)[I"⟩ : MethodName) (head1 (Jvm.Cond.code (⟨"com/example/horizonte/horizonte/dd/DecisionDiagrams", "filled", "(I)[I"⟩ : MethodName) prog_4_method_82_code 2 (some (.array .int)) :: ws) ({ frames := 1, cells := 1, slots := 2048, locals := 15 } : Room)) (fun a U => a = #[(.int (Int32.ofNat nn))] ∧ Z.Warmed39 U.vm ∧ U.heap = h0) (fun _ _ _ _ _ => True) (fun _ U o U' => ∃ v L, o = .returned v ∧ Q9 Z nn h0 n0 v U'.heap L ∧ FrameEnd U o U' L ({ frames := 1, cells := 1, slots := 2048, locals := 15 } : Room).cells ({ frames := 1, cells := 1, slots := 2048, locals := 15 } : Room).slots) := by
  refine MetFree.of_bodySF (plainFor_of_name pn_com_example_horizonte_horizonte_dd_DecisionDiagrams) hisR ?_
  intro p e s m args below meth c s₁ Bd hml0 hP hK
  obtain ⟨rfl, hZ, hh⟩ := hP
  have hlk : meth.locks = false := by first | exact BodyLoose.notSynchronized Bd | exact Body.notSynchronized Bd
  have hx := Bd.exec
  have hby := Bd.bytes
  have hml : c.maxLocals = 2 := hml0
  have hown : s.vm.findClass "com/example/horizonte/horizonte/dd/DecisionDiagrams" = some m.cls := findClass_of_methodNamed Bd.named
  have hnm := (name_of_methodNamed Bd.named Bd.method).1
  have X0 : Stand p l e ({ frames := 1, cells := 1, slots := 2048, locals := 15 } : Room) s m #[(.int (Int32.ofNat nn))] below meth c s₁ [] 0 0 := Stand.of_body Bd
  have e0 : s₁.heap = h0 := by rw [← hh, Bd.state]; rfl
  have N0 := Fr.nil n0
  refine own_open (fun G go fin => ?_)
  refine go (s₁.setTop (mkF m 0 #[.val (.int (Int32.ofNat nn)), .unset] [])) _ (fun t9 k9 => castTop (ef_9 m (Int32.ofNat nn)) k9) ?_
  have hz_b : (Int32.ofNat nn).toNatClampNeg = nn := own_n32 (by omega)
  refine go (s₁.setTop (mkF m 1 #[.val (.int (Int32.ofNat nn)), .unset] [(.int (Int32.ofNat nn))])) _ (fun t9 k9 => ?_) ?_
  · show Steps p.tables e below (s₁.setTop (mkF m 0 #[.val (.int (Int32.ofNat nn)), .unset] [])) _
    refine XS.iloadN X0.here hx rfl (hb hby d9_0) rfl ?_
    exact k9
  obtain ⟨T184, h184, k184, X184, e184, E184, A184, st184⟩ := newP X0 hx hZ (hw _ (List.mem_of_getElem? (i := 9) rfl)) e0 (g := (mkF m 1 #[.val (.int (Int32.ofNat nn)), .unset] [(.int (Int32.ofNat nn))])) rfl (hb hby d9_1) rfl (own_nn (by omega)) (cap := 2048) (by rw [hz_b]; exact hnn) (by decide) (by decide) (by decide)
  obtain ⟨b, g184⟩ : ∃ z, z = h0.size := ⟨_, rfl⟩
  rw [← g184] at A184 st184
  refine go (T184.setTop (mkF m 3 #[.val (.int (Int32.ofNat nn)), .unset] [(.ref b)])) _ (fun t9 k9 => st184 _ k9) ?_
  have sz_b : h0.size ≤ b := Nat.le_trans (Keep.refl h0 []).1 (Nat.le_of_eq g184.symm)
  have g_b : n0 ≤ b := Nat.le_trans Z0 sz_b
  have u185 : Keep h0 h184 [] := (Keep.refl h0 []).ext E184
  have u186 : own_A Z h184 b .int nn (fun _ => (.int 0)) := own_A_new A184 hz_b
  refine go (T184.setTop (mkF m 6 #[.val (.int (Int32.ofNat nn)), .val (.ref b)] [(.int (-1 : Int32)), (.ref b)])) _ (fun t9 k9 => ?_) ?_
  · show Steps p.tables e below (T184.setTop (mkF m 3 #[.val (.int (Int32.ofNat nn)), .unset] [(.ref b)])) _
    refine XS.astoreN X184.here hx rfl (hb hby d9_3) rfl rfl (l' := #[.val (.int (Int32.ofNat nn)), .val (.ref b)]) rfl ?_
    show Steps p.tables e below (T184.setTop (mkF m 4 #[.val (.int (Int32.ofNat nn)), .val (.ref b)] [])) _
    refine XS.aloadN X184.here hx rfl (hb hby d9_4) rfl rfl ?_
    show Steps p.tables e below (T184.setTop (mkF m 5 #[.val (.int (Int32.ofNat nn)), .val (.ref b)] [(.ref b)])) _
    refine XS.iconst X184.here hx rfl (hb hby d9_5) ?_
    exact k9
  obtain ⟨_, _, ⟨T187, L187, k187, n187⟩, -, X187, ⟨Lc187, hQ187, l187, y187, z187⟩, st187⟩ := Jvm.LawKit.callS X184 hx (y := (⟨"java/util/Arrays", "fill", "([II)V"⟩ : MethodName)) hown (mvT hZ (hw _ (List.mem_of_getElem? (i := 85) rfl))) (mvT hZ (hw _ (List.mem_of_getElem? (i := 86) rfl))) (mvT hZ (hw _ (List.mem_of_getElem? (i := 87) rfl))) (mvT hZ (hw _ (List.mem_of_getElem? (i := 88) rfl))) (by decide) (backOf (W := 0) (rm10 l Z a0 hw [] b (-1 : Int32) nn hnn h184 n0 (Nat.le_trans Z0 u185.1) u186 g_b) hZ (hw _ (List.mem_of_getElem? (i := 88) rfl)) (hw _ (List.mem_of_getElem? (i := 87) rfl)) (by decide) (by decide)) (g := (mkF m 6 #[.val (.int (Int32.ofNat nn)), .val (.ref b)] [(.int (-1 : Int32)), (.ref b)])) rfl (by rw [hml]; rfl) (argsL := [(.ref b), (.int (-1 : Int32))]) (rest := []) (lenOf pd__28_5bII_29V rfl) rfl (by show 2 * 0 + _ ≤ _; exact Nat.le_of_eq rfl) (hb hby d9_6) (fun _ _ => ⟨rfl, e184, (by decide : 1 + 0 ≤ _), (by decide : 2048 + 0 ≤ _)⟩)
  dsimp only [Pt.U, Pt.locs, Pt.cells, Pt.slots] at X187 l187 y187 z187 st187 hQ187
  subst l187 y187 z187
  obtain ⟨rfl, N187q, Kq, Vq⟩ := hQ187
  have N187 := Fr.app N0 N187q
  refine go (T187.setTop (mkF m 9 #[.val (.int (Int32.ofNat nn)), .val (.ref b)] [])) _ (fun t9 k9 => st187 _ k9) ?_
  have u188 : Keep h0 T187.heap [] := u185.trans Kq (allS (Or.inr sz_b) all0)
  refine go (T187.setTop (mkF m 10 #[.val (.int (Int32.ofNat nn)), .val (.ref b)] [(.ref b)])) _ (fun t9 k9 => ?_) ?_
  · show Steps p.tables e below (T187.setTop (mkF m 9 #[.val (.int (Int32.ofNat nn)), .val (.ref b)] [])) _
    refine XS.aloadN X187.here hx rfl (hb hby d9_9) rfl rfl ?_
    exact k9
  obtain ⟨fs, hr, hrun, hended, hW, hsame⟩ := X187.leave (v := some (.ref b)) (fun h => by rw [Bd.returns] at h; cases h) hlk
  refine fin _ ⟨_, _, retOut X187 hx (t := (.array .int)) Bd.returns rfl (Or.inr (Or.inr (Or.inr (Or.inr ⟨rfl, rfl, rfl⟩)))) (hb hby d9_10) hr, hrun, hended, _, _, rfl, ?_, ⟨_, rfl⟩, hW, hsame.mono (by decide) (by decide)⟩
  show Q9 Z nn h0 n0 _ T187.heap _
  exact ⟨b, rfl, N187, u188, Vq, sz_b⟩
def Q6 (Z : State)  (h0 : Heap) (n0 : Nat) (v : Option Value) (h : Heap) (L : List Loc) : Prop := v = none ∧ Fr n0 L ∧ h = h0
set_option maxRecDepth 65536 in
set_option maxHeartbeats 40000000 in
theorem rm6 (l : Launch) (Z : State) (a0 : Array Value) (hw : ∀ d ∈ tables_1, d.before a0 Z = true) (ws : List Jvm.Cond) (a1 : Addr)  (h0 : Heap) (n0 : Nat) (Z0 : n0 ≤ h0.size)  :
    MetFree l (⟨"java/util/AbstractCollection", "<init>", "()V"⟩ : MethodName) (head1 (Jvm.Cond.code (⟨"java/util/AbstractCollection", "<init>", "()V"⟩ : MethodName) jdk_22_method_1_code 1 none :: ws) ({ frames := 1, cells := 0, slots := 0, locals := 12 } : Room)) (fun a U => a = #[(.ref a1)] ∧ Z.Warmed39 U.vm ∧ U.heap = h0) (fun _ _ _ _ _ => True) (fun _ U o U' => ∃ v L, o = .returned v ∧ Q6 Z  h0 n0 v U'.heap L ∧ FrameEnd U o U' L ({ frames := 1, cells := 0, slots := 0, locals := 12 } : Room).cells ({ frames := 1, cells := 0, slots := 0, locals := 12 } : Room).slots) := by
  refine MetFree.of_bodySF (plainFor_of_name pn_java_util_AbstractCollection) hisR ?_
  intro p e s m args below meth c s₁ Bd hml0 hP hK
  obtain ⟨rfl, hZ, hh⟩ := hP
  have hlk : meth.locks = false := by first | exact BodyLoose.notSynchronized Bd | exact Body.notSynchronized Bd
  have hx := Bd.exec
  have hby := Bd.bytes
  have hml : c.maxLocals = 1 := hml0
  have hown : s.vm.findClass "java/util/AbstractCollection" = some m.cls := findClass_of_methodNamed Bd.named
  have hnm := (name_of_methodNamed Bd.named Bd.method).1
  have X0 : Stand p l e ({ frames := 1, cells := 0, slots := 0, locals := 12 } : Room) s m #[(.ref a1)] below meth c s₁ [] 0 0 := Stand.of_body Bd
  have e0 : s₁.heap = h0 := by rw [← hh, Bd.state]; rfl
  have N0 := Fr.nil n0
  refine own_open (fun G go fin => ?_)
  refine go (s₁.setTop (mkF m 0 #[.val (.ref a1)] [])) _ (fun t9 k9 => castTop (ef_6 m a1) k9) ?_
  refine go (s₁.setTop (mkF m 1 #[.val (.ref a1)] [(.ref a1)])) _ (fun t9 k9 => ?_) ?_
  · show Steps p.tables e below (s₁.setTop (mkF m 0 #[.val (.ref a1)] [])) _
    refine XS.aloadN X0.here hx rfl (hb hby d6_0) rfl rfl ?_
    exact k9
  obtain ⟨T189, X189, e189, st189⟩ := initO X0 hx hZ hown (hw _ (List.mem_of_getElem? (i := 44) rfl)) (hw _ (List.mem_of_getElem? (i := 7) rfl)) (hw _ (List.mem_of_getElem? (i := 8) rfl)) e0 (g := (mkF m 1 #[.val (.ref a1)] [(.ref a1)])) rfl (by rw [hml]; rfl) rfl (hb hby d6_1) (by decide) (W := 0) (by show 2 * 0 + _ ≤ _; exact Nat.le_of_eq rfl) (by decide)
  refine go (T189.setTop (mkF m 4 #[.val (.ref a1)] [])) _ (fun t9 k9 => st189 _ k9) ?_
  obtain ⟨fs, hr, hrun, hended, hW, hsame⟩ := X189.leave (v := none) (fun h => by rfl) hlk
  refine fin _ ⟨_, _, X189.returnOut hx Bd.returns (hb hby d6_4) hr, hrun, hended, _, _, rfl, ?_, ⟨_, rfl⟩, hW, hsame.mono (by decide) (by decide)⟩
  show Q6 Z  h0 n0 _ T189.heap _
  rw [e189]
  exact ⟨rfl, N0, rfl⟩
def Q8 (Z : State)  (h0 : Heap) (n0 : Nat) (v : Option Value) (h : Heap) (L : List Loc) : Prop := v = none ∧ Fr n0 L ∧ h = h0
set_option maxRecDepth 65536 in
set_option maxHeartbeats 40000000 in
theorem rm8 (l : Launch) (Z : State) (a0 : Array Value) (hw : ∀ d ∈ tables_1, d.before a0 Z = true) (ws : List Jvm.Cond) (a1 : Addr)  (h0 : Heap) (n0 : Nat) (Z0 : n0 ≤ h0.size)  :
    MetFree l (⟨"java/util/AbstractMap", "<init>", "()V"⟩ : MethodName) (head1 (Jvm.Cond.code (⟨"java/util/AbstractMap", "<init>", "()V"⟩ : MethodName) jdk_71_method_1_code 1 none :: ws) ({ frames := 1, cells := 0, slots := 0, locals := 12 } : Room)) (fun a U => a = #[(.ref a1)] ∧ Z.Warmed39 U.vm ∧ U.heap = h0) (fun _ _ _ _ _ => True) (fun _ U o U' => ∃ v L, o = .returned v ∧ Q8 Z  h0 n0 v U'.heap L ∧ FrameEnd U o U' L ({ frames := 1, cells := 0, slots := 0, locals := 12 } : Room).cells ({ frames := 1, cells := 0, slots := 0, locals := 12 } : Room).slots) := by
  refine MetFree.of_bodySF (plainFor_of_name pn_java_util_AbstractMap) hisR ?_
  intro p e s m args below meth c s₁ Bd hml0 hP hK
  obtain ⟨rfl, hZ, hh⟩ := hP
  have hlk : meth.locks = false := by first | exact BodyLoose.notSynchronized Bd | exact Body.notSynchronized Bd
  have hx := Bd.exec
  have hby := Bd.bytes
  have hml : c.maxLocals = 1 := hml0
  have hown : s.vm.findClass "java/util/AbstractMap" = some m.cls := findClass_of_methodNamed Bd.named
  have hnm := (name_of_methodNamed Bd.named Bd.method).1
  have X0 : Stand p l e ({ frames := 1, cells := 0, slots := 0, locals := 12 } : Room) s m #[(.ref a1)] below meth c s₁ [] 0 0 := Stand.of_body Bd
  have e0 : s₁.heap = h0 := by rw [← hh, Bd.state]; rfl
  have N0 := Fr.nil n0
  refine own_open (fun G go fin => ?_)
  refine go (s₁.setTop (mkF m 0 #[.val (.ref a1)] [])) _ (fun t9 k9 => castTop (ef_8 m a1) k9) ?_
  refine go (s₁.setTop (mkF m 1 #[.val (.ref a1)] [(.ref a1)])) _ (fun t9 k9 => ?_) ?_
  · show Steps p.tables e below (s₁.setTop (mkF m 0 #[.val (.ref a1)] [])) _
    refine XS.aloadN X0.here hx rfl (hb hby d8_0) rfl rfl ?_
    exact k9
  obtain ⟨T190, X190, e190, st190⟩ := initO X0 hx hZ hown (hw _ (List.mem_of_getElem? (i := 68) rfl)) (hw _ (List.mem_of_getElem? (i := 7) rfl)) (hw _ (List.mem_of_getElem? (i := 8) rfl)) e0 (g := (mkF m 1 #[.val (.ref a1)] [(.ref a1)])) rfl (by rw [hml]; rfl) rfl (hb hby d8_1) (by decide) (W := 0) (by show 2 * 0 + _ ≤ _; exact Nat.le_of_eq rfl) (by decide)
  refine go (T190.setTop (mkF m 4 #[.val (.ref a1)] [])) _ (fun t9 k9 => st190 _ k9) ?_
  obtain ⟨fs, hr, hrun, hended, hW, hsame⟩ := X190.leave (v := none) (fun h => by rfl) hlk
  refine fin _ ⟨_, _, X190.returnOut hx Bd.returns (hb hby d8_4) hr, hrun, hended, _, _, rfl, ?_, ⟨_, rfl⟩, hW, hsame.mono (by decide) (by decide)⟩
  show Q8 Z  h0 n0 _ T190.heap _
  rw [e190]
  exact ⟨rfl, N0, rfl⟩
def Q5 (Z : State) (a1 : Addr) (h0 : Heap) (n0 : Nat) (v : Option Value) (h : Heap) (L : List Loc) : Prop := v = none ∧ Fr n0 L ∧ Keep h0 h [a1] ∧ Fld Z h a1 "java/util/ArrayList" "elementData" "[Ljava/lang/Object;" .null
set_option maxRecDepth 65536 in
set_option maxHeartbeats 40000000 in
theorem rm5 (l : Launch) (Z : State) (a0 : Array Value) (hw : ∀ d ∈ tables_1, d.before a0 Z = true) (ws : List Jvm.Cond) (a1 : Addr)  (h0 : Heap) (n0 : Nat) (Z0 : n0 ≤ h0.size) (E_a1 : Exa Z h0 a1 "java/util/ArrayList") (F1 : Fld Z h0 a1 "java/util/AbstractList" "modCount" "I" (.int (0 : Int32))) (F2 : Fld Z h0 a1 "java/util/ArrayList" "elementData" "[Ljava/lang/Object;" .null) (g_a1 : n0 ≤ a1) :
    MetFree l (⟨"java/util/AbstractList", "<init>", "()V"⟩ : MethodName) (head1 (Jvm.Cond.code (⟨"java/util/AbstractList", "<init>", "()V"⟩ : MethodName) jdk_39_method_1_code 1 none :: ws) ({ frames := 2, cells := 0, slots := 0, locals := 24 } : Room)) (fun a U => a = #[(.ref a1)] ∧ Z.Warmed39 U.vm ∧ U.heap = h0) (fun _ _ _ _ _ => True) (fun _ U o U' => ∃ v L, o = .returned v ∧ Q5 Z a1 h0 n0 v U'.heap L ∧ FrameEnd U o U' L ({ frames := 2, cells := 0, slots := 0, locals := 24 } : Room).cells ({ frames := 2, cells := 0, slots := 0, locals := 24 } : Room).slots) := by
  refine MetFree.of_bodySF (plainFor_of_name pn_java_util_AbstractList) hisR ?_
  intro p e s m args below meth c s₁ Bd hml0 hP hK
  obtain ⟨rfl, hZ, hh⟩ := hP
  have hlk : meth.locks = false := by first | exact BodyLoose.notSynchronized Bd | exact Body.notSynchronized Bd
  have hx := Bd.exec
  have hby := Bd.bytes
  have hml : c.maxLocals = 1 := hml0
  have hown : s.vm.findClass "java/util/AbstractList" = some m.cls := findClass_of_methodNamed Bd.named
  have hnm := (name_of_methodNamed Bd.named Bd.method).1
  have X0 : Stand p l e ({ frames := 2, cells := 0, slots := 0, locals := 24 } : Room) s m #[(.ref a1)] below meth c s₁ [] 0 0 := Stand.of_body Bd
  have e0 : s₁.heap = h0 := by rw [← hh, Bd.state]; rfl
  have N0 := Fr.nil n0
  refine own_open (fun G go fin => ?_)
  refine go (s₁.setTop (mkF m 0 #[.val (.ref a1)] [])) _ (fun t9 k9 => castTop (ef_5 m a1) k9) ?_
  refine go (s₁.setTop (mkF m 1 #[.val (.ref a1)] [(.ref a1)])) _ (fun t9 k9 => ?_) ?_
  · show Steps p.tables e below (s₁.setTop (mkF m 0 #[.val (.ref a1)] [])) _
    refine XS.aloadN X0.here hx rfl (hb hby d5_0) rfl rfl ?_
    exact k9
  obtain ⟨_, _, ⟨T191, L191, k191, n191⟩, -, X191, ⟨Lc191, hQ191, l191, y191, z191⟩, st191⟩ := X0.specialBack hx (y := (⟨"java/util/AbstractCollection", "<init>", "()V"⟩ : MethodName)) rfl hown (mvT hZ (hw _ (List.mem_of_getElem? (i := 38) rfl))) (mvT hZ (hw _ (List.mem_of_getElem? (i := 39) rfl))) (mvT hZ (hw _ (List.mem_of_getElem? (i := 43) rfl))) (by decide) (backOf (W := 0) (rm6 l Z a0 hw [] a1 h0 n0 Z0) hZ (hw _ (List.mem_of_getElem? (i := 43) rfl)) (hw _ (List.mem_of_getElem? (i := 42) rfl)) (by decide) (by decide)) (g := (mkF m 1 #[.val (.ref a1)] [(.ref a1)])) rfl (by rw [hml]; rfl) (Steps.refl _) (a := a1) (argsL := []) (rest := []) (lenOf pd__28_29V rfl) rfl (by show 2 * 0 + _ ≤ _; exact Nat.le_of_eq rfl) (hb hby d5_1) (fun _ _ => ⟨rfl, e0, (by decide : 0 + 0 ≤ _), (by decide : 0 + 0 ≤ _)⟩)
  dsimp only [Pt.U, Pt.locs, Pt.cells, Pt.slots] at X191 l191 y191 z191 st191 hQ191
  subst l191 y191 z191
  obtain ⟨rfl, N191q, e191q⟩ := hQ191
  have N191 := Fr.app N0 N191q
  refine go (T191.setTop (mkF m 4 #[.val (.ref a1)] [])) _ (fun t9 k9 => st191.trans k9) ?_
  refine go (T191.setTop (mkF m 6 #[.val (.ref a1)] [(.int (0 : Int32)), (.ref a1)])) _ (fun t9 k9 => ?_) ?_
  · show Steps p.tables e below (T191.setTop (mkF m 4 #[.val (.ref a1)] [])) _
    refine XS.aloadN X191.here hx rfl (hb hby d5_4) rfl rfl ?_
    show Steps p.tables e below (T191.setTop (mkF m 5 #[.val (.ref a1)] [(.ref a1)])) _
    refine XS.iconst X191.here hx rfl (hb hby d5_5) ?_
    exact k9
  obtain ⟨T192, h192, X192, e192, W192, st192⟩ := putF X191 hx hZ hown (host := "") (Or.inl (hw _ (List.mem_of_getElem? (i := 45) rfl))) Via.refl e191q F1 E_a1 (Or.inl (hw _ (List.mem_of_getElem? (i := 46) rfl))) (hw _ (List.mem_of_getElem? (i := 27) rfl)) (ty := .int) (by decide) rfl rfl (g := (mkF m 6 #[.val (.ref a1)] [(.int (0 : Int32)), (.ref a1)])) rfl rfl (hb hby d5_6)
  have N192 := Fr.snoc X192 N191 g_a1
  refine go (T192.setTop (mkF m 9 #[.val (.ref a1)] [])) _ (fun t9 k9 => st192 _ k9) ?_
  have u193 : Exa Z h192 a1 "java/util/ArrayList" := E_a1.wr W192
  have u194 : Fld Z h192 a1 "java/util/AbstractList" "modCount" "I" (.int (0 : Int32)) := F1.same W192
  have u195 : Fld Z h192 a1 "java/util/ArrayList" "elementData" "[Ljava/lang/Object;" .null := F2.other W192 (Or.inr (slot_ne (Or.inl (hw _ (List.mem_of_getElem? (i := 49) rfl))) (Or.inl (hw _ (List.mem_of_getElem? (i := 46) rfl))) (by decide) (t := (.array (.object "java/lang/Object"))) (t' := .int) (by decide) (by decide)))
  have u196 : Keep h0 h192 [a1] := (Keep.refl h0 [a1]).wr W192 (Or.inl (List.mem_of_getElem? (i := 0) rfl))
  obtain ⟨fs, hr, hrun, hended, hW, hsame⟩ := X192.leave (v := none) (fun h => by rfl) hlk
  refine fin _ ⟨_, _, X192.returnOut hx Bd.returns (hb hby d5_9) hr, hrun, hended, _, _, rfl, ?_, ⟨_, rfl⟩, hW, hsame.mono (by decide) (by decide)⟩
  show Q5 Z a1 h0 n0 _ T192.heap _
  rw [e192]
  exact ⟨rfl, N192, u196, u195⟩
def Q4 (Z : State) (a1 : Addr) (h0 : Heap) (n0 : Nat) (v : Option Value) (h : Heap) (L : List Loc) : Prop := v = none ∧ Fr n0 L ∧ Keep h0 h [a1]
set_option maxRecDepth 65536 in
set_option maxHeartbeats 40000000 in
theorem rm4 (l : Launch) (Z : State) (a0 : Array Value) (hw : ∀ d ∈ tables_1, d.before a0 Z = true) (ws : List Jvm.Cond) (a1 : Addr) (sa : Addr) (h0 : Heap) (n0 : Nat) (Z0 : n0 ≤ h0.size) (E_a1 : Exa Z h0 a1 "java/util/ArrayList") (F1 : Fld Z h0 a1 "java/util/AbstractList" "modCount" "I" (.int (0 : Int32))) (F2 : Fld Z h0 a1 "java/util/ArrayList" "elementData" "[Ljava/lang/Object;" .null) (HS : Sta Z h0 "java/util/ArrayList" "DEFAULTCAPACITY_EMPTY_ELEMENTDATA" "[Ljava/lang/Object;" (.ref sa)) (g_a1 : n0 ≤ a1) :
    MetFree l (⟨"java/util/ArrayList", "<init>", "()V"⟩ : MethodName) (head1 (Jvm.Cond.code (⟨"java/util/ArrayList", "<init>", "()V"⟩ : MethodName) jdk_38_method_2_code 1 none :: ws) ({ frames := 3, cells := 0, slots := 0, locals := 36 } : Room)) (fun a U => a = #[(.ref a1)] ∧ Z.Warmed39 U.vm ∧ U.heap = h0) (fun _ _ _ _ _ => True) (fun _ U o U' => ∃ v L, o = .returned v ∧ Q4 Z a1 h0 n0 v U'.heap L ∧ FrameEnd U o U' L ({ frames := 3, cells := 0, slots := 0, locals := 36 } : Room).cells ({ frames := 3, cells := 0, slots := 0, locals := 36 } : Room).slots) := by
  refine MetFree.of_bodySF (plainFor_of_name pn_java_util_ArrayList) hisR ?_
  intro p e s m args below meth c s₁ Bd hml0 hP hK
  obtain ⟨rfl, hZ, hh⟩ := hP
  have hlk : meth.locks = false := by first | exact BodyLoose.notSynchronized Bd | exact Body.notSynchronized Bd
  have hx := Bd.exec
  have hby := Bd.bytes
  have hml : c.maxLocals = 1 := hml0
  have hown : s.vm.findClass "java/util/ArrayList" = some m.cls := findClass_of_methodNamed Bd.named
  have hnm := (name_of_methodNamed Bd.named Bd.method).1
  have X0 : Stand p l e ({ frames := 3, cells := 0, slots := 0, locals := 36 } : Room) s m #[(.ref a1)] below meth c s₁ [] 0 0 := Stand.of_body Bd
  have e0 : s₁.heap = h0 := by rw [← hh, Bd.state]; rfl
  have N0 := Fr.nil n0
  refine own_open (fun G go fin => ?_)
  refine go (s₁.setTop (mkF m 0 #[.val (.ref a1)] [])) _ (fun t9 k9 => castTop (ef_4 m a1) k9) ?_
  refine go (s₁.setTop (mkF m 1 #[.val (.ref a1)] [(.ref a1)])) _ (fun t9 k9 => ?_) ?_
  · show Steps p.tables e below (s₁.setTop (mkF m 0 #[.val (.ref a1)] [])) _
    refine XS.aloadN X0.here hx rfl (hb hby d4_0) rfl rfl ?_
    exact k9
  obtain ⟨_, _, ⟨T197, L197, k197, n197⟩, -, X197, ⟨Lc197, hQ197, l197, y197, z197⟩, st197⟩ := X0.specialBack hx (y := (⟨"java/util/AbstractList", "<init>", "()V"⟩ : MethodName)) rfl hown (mvT hZ (hw _ (List.mem_of_getElem? (i := 32) rfl))) (mvT hZ (hw _ (List.mem_of_getElem? (i := 33) rfl))) (mvT hZ (hw _ (List.mem_of_getElem? (i := 37) rfl))) (by decide) (backOf (W := 0) (rm5 l Z a0 hw [] a1 h0 n0 Z0 E_a1 F1 F2 g_a1) hZ (hw _ (List.mem_of_getElem? (i := 37) rfl)) (hw _ (List.mem_of_getElem? (i := 36) rfl)) (by decide) (by decide)) (g := (mkF m 1 #[.val (.ref a1)] [(.ref a1)])) rfl (by rw [hml]; rfl) (Steps.refl _) (a := a1) (argsL := []) (rest := []) (lenOf pd__28_29V rfl) rfl (by show 2 * 0 + _ ≤ _; exact Nat.le_of_eq rfl) (hb hby d4_1) (fun _ _ => ⟨rfl, e0, (by decide : 0 + 0 ≤ _), (by decide : 0 + 0 ≤ _)⟩)
  dsimp only [Pt.U, Pt.locs, Pt.cells, Pt.slots] at X197 l197 y197 z197 st197 hQ197
  subst l197 y197 z197
  obtain ⟨rfl, N197q, Kq, Fq⟩ := hQ197
  have N197 := Fr.app N0 N197q
  refine go (T197.setTop (mkF m 4 #[.val (.ref a1)] [])) _ (fun t9 k9 => st197.trans k9) ?_
  have u198 : Exa Z T197.heap a1 "java/util/ArrayList" := E_a1.keep Kq
  have u199 : Sta Z T197.heap "java/util/ArrayList" "DEFAULTCAPACITY_EMPTY_ELEMENTDATA" "[Ljava/lang/Object;" (.ref sa) := own_sta HS Kq (nsS E_a1.nostat ns0)
  have u200 : Keep h0 T197.heap [a1] := (Keep.refl h0 [a1]).trans Kq (allS (Or.inl (List.mem_of_getElem? (i := 0) rfl)) all0)
  refine go (T197.setTop (mkF m 5 #[.val (.ref a1)] [(.ref a1)])) _ (fun t9 k9 => ?_) ?_
  · show Steps p.tables e below (T197.setTop (mkF m 4 #[.val (.ref a1)] [])) _
    refine XS.aloadN X197.here hx rfl (hb hby d4_4) rfl rfl ?_
    exact k9
  obtain ⟨T201, X201, e201, st201⟩ := getS X197 hx hZ (host := "") hown (hw _ (List.mem_of_getElem? (i := 47) rfl)) Via.refl rfl u199 (g := (mkF m 5 #[.val (.ref a1)] [(.ref a1)])) rfl (hb hby d4_5)
  refine go (T201.setTop (mkF m 8 #[.val (.ref a1)] [(.ref sa), (.ref a1)])) _ (fun t9 k9 => st201 _ k9) ?_
  obtain ⟨T202, h202, X202, e202, W202, st202⟩ := putF X201 hx hZ hown (host := "") (Or.inl (hw _ (List.mem_of_getElem? (i := 48) rfl))) Via.refl e201 Fq u198 (Or.inl (hw _ (List.mem_of_getElem? (i := 49) rfl))) (hw _ (List.mem_of_getElem? (i := 27) rfl)) (ty := (.array (.object "java/lang/Object"))) (by decide) rfl rfl (g := (mkF m 8 #[.val (.ref a1)] [(.ref sa), (.ref a1)])) rfl rfl (hb hby d4_8)
  have N202 := Fr.snoc X202 N197 g_a1
  refine go (T202.setTop (mkF m 11 #[.val (.ref a1)] [])) _ (fun t9 k9 => st202 _ k9) ?_
  have u203 : Exa Z h202 a1 "java/util/ArrayList" := u198.wr W202
  have u204 : Sta Z h202 "java/util/ArrayList" "DEFAULTCAPACITY_EMPTY_ELEMENTDATA" "[Ljava/lang/Object;" (.ref sa) := u199.wr W202
  have u205 : Fld Z h202 a1 "java/util/ArrayList" "elementData" "[Ljava/lang/Object;" (.ref sa) := Fq.same W202
  have u206 : Keep h0 h202 [a1] := u200.wr W202 (Or.inl (List.mem_of_getElem? (i := 0) rfl))
  obtain ⟨fs, hr, hrun, hended, hW, hsame⟩ := X202.leave (v := none) (fun h => by rfl) hlk
  refine fin _ ⟨_, _, X202.returnOut hx Bd.returns (hb hby d4_11) hr, hrun, hended, _, _, rfl, ?_, ⟨_, rfl⟩, hW, hsame.mono (by decide) (by decide)⟩
  show Q4 Z a1 h0 n0 _ T202.heap _
  rw [e202]
  exact ⟨rfl, N202, u206⟩
def Q7 (Z : State) (a1 : Addr) (h0 : Heap) (n0 : Nat) (v : Option Value) (h : Heap) (L : List Loc) : Prop := v = none ∧ Fr n0 L ∧ Keep h0 h [a1]
set_option maxRecDepth 65536 in
set_option maxHeartbeats 40000000 in
theorem rm7 (l : Launch) (Z : State) (a0 : Array Value) (hw : ∀ d ∈ tables_1, d.before a0 Z = true) (ws : List Jvm.Cond) (a1 : Addr)  (h0 : Heap) (n0 : Nat) (Z0 : n0 ≤ h0.size) (E_a1 : Exa Z h0 a1 "java/util/HashMap") (F1 : Fld Z h0 a1 "java/util/HashMap" "loadFactor" "F" (.float (0 : UInt32))) (g_a1 : n0 ≤ a1) :
    MetFree l (⟨"java/util/HashMap", "<init>", "()V"⟩ : MethodName) (head1 (Jvm.Cond.code (⟨"java/util/HashMap", "<init>", "()V"⟩ : MethodName) jdk_69_method_7_code 1 none :: ws) ({ frames := 2, cells := 0, slots := 0, locals := 24 } : Room)) (fun a U => a = #[(.ref a1)] ∧ Z.Warmed39 U.vm ∧ U.heap = h0) (fun _ _ _ _ _ => True) (fun _ U o U' => ∃ v L, o = .returned v ∧ Q7 Z a1 h0 n0 v U'.heap L ∧ FrameEnd U o U' L ({ frames := 2, cells := 0, slots := 0, locals := 24 } : Room).cells ({ frames := 2, cells := 0, slots := 0, locals := 24 } : Room).slots) := by
  refine MetFree.of_bodySF (plainFor_of_name pn_java_util_HashMap) hisR ?_
  intro p e s m args below meth c s₁ Bd hml0 hP hK
  obtain ⟨rfl, hZ, hh⟩ := hP
  have hlk : meth.locks = false := by first | exact BodyLoose.notSynchronized Bd | exact Body.notSynchronized Bd
  have hx := Bd.exec
  have hby := Bd.bytes
  have hml : c.maxLocals = 1 := hml0
  have hown : s.vm.findClass "java/util/HashMap" = some m.cls := findClass_of_methodNamed Bd.named
  have hnm := (name_of_methodNamed Bd.named Bd.method).1
  have X0 : Stand p l e ({ frames := 2, cells := 0, slots := 0, locals := 24 } : Room) s m #[(.ref a1)] below meth c s₁ [] 0 0 := Stand.of_body Bd
  have e0 : s₁.heap = h0 := by rw [← hh, Bd.state]; rfl
  have N0 := Fr.nil n0
  refine own_open (fun G go fin => ?_)
  refine go (s₁.setTop (mkF m 0 #[.val (.ref a1)] [])) _ (fun t9 k9 => castTop (ef_7 m a1) k9) ?_
  refine go (s₁.setTop (mkF m 1 #[.val (.ref a1)] [(.ref a1)])) _ (fun t9 k9 => ?_) ?_
  · show Steps p.tables e below (s₁.setTop (mkF m 0 #[.val (.ref a1)] [])) _
    refine XS.aloadN X0.here hx rfl (hb hby d7_0) rfl rfl ?_
    exact k9
  obtain ⟨_, _, ⟨T207, L207, k207, n207⟩, -, X207, ⟨Lc207, hQ207, l207, y207, z207⟩, st207⟩ := X0.specialBack hx (y := (⟨"java/util/AbstractMap", "<init>", "()V"⟩ : MethodName)) rfl hown (mvT hZ (hw _ (List.mem_of_getElem? (i := 62) rfl))) (mvT hZ (hw _ (List.mem_of_getElem? (i := 63) rfl))) (mvT hZ (hw _ (List.mem_of_getElem? (i := 67) rfl))) (by decide) (backOf (W := 0) (rm8 l Z a0 hw [] a1 h0 n0 Z0) hZ (hw _ (List.mem_of_getElem? (i := 67) rfl)) (hw _ (List.mem_of_getElem? (i := 66) rfl)) (by decide) (by decide)) (g := (mkF m 1 #[.val (.ref a1)] [(.ref a1)])) rfl (by rw [hml]; rfl) (Steps.refl _) (a := a1) (argsL := []) (rest := []) (lenOf pd__28_29V rfl) rfl (by show 2 * 0 + _ ≤ _; exact Nat.le_of_eq rfl) (hb hby d7_1) (fun _ _ => ⟨rfl, e0, (by decide : 0 + 0 ≤ _), (by decide : 0 + 0 ≤ _)⟩)
  dsimp only [Pt.U, Pt.locs, Pt.cells, Pt.slots] at X207 l207 y207 z207 st207 hQ207
  subst l207 y207 z207
  obtain ⟨rfl, N207q, e207q⟩ := hQ207
  have N207 := Fr.app N0 N207q
  refine go (T207.setTop (mkF m 4 #[.val (.ref a1)] [])) _ (fun t9 k9 => st207.trans k9) ?_
  refine go (T207.setTop (mkF m 7 #[.val (.ref a1)] [(.float (1061158912 : UInt32)), (.ref a1)])) _ (fun t9 k9 => ?_) ?_
  · show Steps p.tables e below (T207.setTop (mkF m 4 #[.val (.ref a1)] [])) _
    refine XS.aloadN X207.here hx rfl (hb hby d7_4) rfl rfl ?_
    show Steps p.tables e below (T207.setTop (mkF m 5 #[.val (.ref a1)] [(.ref a1)])) _
    refine X207.ldcFloatC hx hown (mvT hZ (hw _ (List.mem_of_getElem? (i := 69) rfl))) (g := (mkF m 5 #[.val (.ref a1)] [(.ref a1)])) rfl (hb hby d7_5) _ ?_
    exact k9
  obtain ⟨T208, h208, X208, e208, W208, st208⟩ := putF X207 hx hZ hown (host := "") (Or.inl (hw _ (List.mem_of_getElem? (i := 70) rfl))) Via.refl e207q F1 E_a1 (Or.inr ⟨(hw _ (List.mem_of_getElem? (i := 71) rfl)), rfl, hnm⟩) (hw _ (List.mem_of_getElem? (i := 57) rfl)) (ty := .float) (by decide) rfl rfl (g := (mkF m 7 #[.val (.ref a1)] [(.float (1061158912 : UInt32)), (.ref a1)])) rfl rfl (hb hby d7_7)
  have N208 := Fr.snoc X208 N207 g_a1
  refine go (T208.setTop (mkF m 10 #[.val (.ref a1)] [])) _ (fun t9 k9 => st208 _ k9) ?_
  have u209 : Exa Z h208 a1 "java/util/HashMap" := E_a1.wr W208
  have u210 : Fld Z h208 a1 "java/util/HashMap" "loadFactor" "F" (.float (1061158912 : UInt32)) := F1.same W208
  have u211 : Keep h0 h208 [a1] := (Keep.refl h0 [a1]).wr W208 (Or.inl (List.mem_of_getElem? (i := 0) rfl))
  obtain ⟨fs, hr, hrun, hended, hW, hsame⟩ := X208.leave (v := none) (fun h => by rfl) hlk
  refine fin _ ⟨_, _, X208.returnOut hx Bd.returns (hb hby d7_10) hr, hrun, hended, _, _, rfl, ?_, ⟨_, rfl⟩, hW, hsame.mono (by decide) (by decide)⟩
  show Q7 Z a1 h0 n0 _ T208.heap _
  rw [e208]
  exact ⟨rfl, N208, u211⟩
def Q3 (Z : State) (a1 : Addr) (h0 : Heap) (n0 : Nat) (v : Option Value) (h : Heap) (L : List Loc) : Prop := v = none ∧ Fr n0 L ∧ Keep h0 h [a1]
set_option maxRecDepth 65536 in
set_option maxHeartbeats 40000000 in
theorem rm3 (l : Launch) (Z : State) (a0 : Array Value) (hw : ∀ d ∈ tables_1, d.before a0 Z = true) (ws : List Jvm.Cond) (a1 : Addr) (sa : Addr) (h0 : Heap) (n0 : Nat) (Z0 : n0 ≤ h0.size) (E_a1 : Exa Z h0 a1 "com/example/horizonte/horizonte/dd/Terms") (F0 : Fld Z h0 a1 "com/example/horizonte/horizonte/dd/Terms" "linears" "Ljava/util/List;" .null) (F1 : Fld Z h0 a1 "com/example/horizonte/horizonte/dd/Terms" "quadratics" "Ljava/util/List;" .null) (F2 : Fld Z h0 a1 "com/example/horizonte/horizonte/dd/Terms" "spans" "Ljava/util/List;" .null) (F3 : Fld Z h0 a1 "com/example/horizonte/horizonte/dd/Terms" "terms" "Ljava/util/Map;" .null) (F4 : Fld Z h0 a1 "com/example/horizonte/horizonte/dd/Terms" "units" "[I" .null) (F5 : Fld Z h0 a1 "com/example/horizonte/horizonte/dd/Terms" "tests" "Ljava/util/List;" .null) (F6 : Fld Z h0 a1 "com/example/horizonte/horizonte/dd/Terms" "testNumbers" "Ljava/util/Map;" .null) (HS : Sta Z h0 "java/util/ArrayList" "DEFAULTCAPACITY_EMPTY_ELEMENTDATA" "[Ljava/lang/Object;" (.ref sa)) (g_a1 : n0 ≤ a1) :
    MetFree l (⟨"com/example/horizonte/horizonte/dd/Terms", "<init>", "()V"⟩ : MethodName) (head1 (Jvm.Cond.code (⟨"com/example/horizonte/horizonte/dd/Terms", "<init>", "()V"⟩ : MethodName) prog_15_method_1_code 1 none :: ws) ({ frames := 4, cells := 7, slots := 28, locals := 50 } : Room)) (fun a U => a = #[(.ref a1)] ∧ Z.Warmed39 U.vm ∧ U.heap = h0) (fun _ _ _ _ _ => True) (fun _ U o U' => ∃ v L, o = .returned v ∧ Q3 Z a1 h0 n0 v U'.heap L ∧ FrameEnd U o U' L ({ frames := 4, cells := 7, slots := 28, locals := 50 } : Room).cells ({ frames := 4, cells := 7, slots := 28, locals := 50 } : Room).slots) := by
  refine MetFree.of_bodySF (plainFor_of_name pn_com_example_horizonte_horizonte_dd_Terms) hisR ?_
  intro p e s m args below meth c s₁ Bd hml0 hP hK
  obtain ⟨rfl, hZ, hh⟩ := hP
  have hlk : meth.locks = false := by first | exact BodyLoose.notSynchronized Bd | exact Body.notSynchronized Bd
  have hx := Bd.exec
  have hby := Bd.bytes
  have hml : c.maxLocals = 1 := hml0
  have hown : s.vm.findClass "com/example/horizonte/horizonte/dd/Terms" = some m.cls := findClass_of_methodNamed Bd.named
  have hnm := (name_of_methodNamed Bd.named Bd.method).1
  have X0 : Stand p l e ({ frames := 4, cells := 7, slots := 28, locals := 50 } : Room) s m #[(.ref a1)] below meth c s₁ [] 0 0 := Stand.of_body Bd
  have e0 : s₁.heap = h0 := by rw [← hh, Bd.state]; rfl
  have N0 := Fr.nil n0
  refine own_open (fun G go fin => ?_)
  refine go (s₁.setTop (mkF m 0 #[.val (.ref a1)] [])) _ (fun t9 k9 => castTop (ef_3 m a1) k9) ?_
  refine go (s₁.setTop (mkF m 1 #[.val (.ref a1)] [(.ref a1)])) _ (fun t9 k9 => ?_) ?_
  · show Steps p.tables e below (s₁.setTop (mkF m 0 #[.val (.ref a1)] [])) _
    refine XS.aloadN X0.here hx rfl (hb hby d3_0) rfl rfl ?_
    exact k9
  obtain ⟨T212, X212, e212, st212⟩ := initO X0 hx hZ hown (hw _ (List.mem_of_getElem? (i := 25) rfl)) (hw _ (List.mem_of_getElem? (i := 7) rfl)) (hw _ (List.mem_of_getElem? (i := 8) rfl)) e0 (g := (mkF m 1 #[.val (.ref a1)] [(.ref a1)])) rfl (by rw [hml]; rfl) rfl (hb hby d3_1) (by decide) (W := 0) (by show 2 * 0 + _ ≤ _; exact Nat.le_of_eq rfl) (by decide)
  refine go (T212.setTop (mkF m 4 #[.val (.ref a1)] [])) _ (fun t9 k9 => st212 _ k9) ?_
  refine go (T212.setTop (mkF m 5 #[.val (.ref a1)] [(.ref a1)])) _ (fun t9 k9 => ?_) ?_
  · show Steps p.tables e below (T212.setTop (mkF m 4 #[.val (.ref a1)] [])) _
    refine XS.aloadN X212.here hx rfl (hb hby d3_4) rfl rfl ?_
    exact k9
  obtain ⟨T213, h213, X213, e213, E213, A213, D213, -, st213⟩ := newO X212 hx hZ hown (hw _ (List.mem_of_getElem? (i := 26) rfl)) (hw _ (List.mem_of_getElem? (i := 27) rfl)) (hw _ (List.mem_of_getElem? (i := 28) rfl)) e212 (g := (mkF m 5 #[.val (.ref a1)] [(.ref a1)])) rfl (hb hby d3_5) (by decide) (by decide)
  obtain ⟨o0, g213⟩ : ∃ z, z = h0.size := ⟨_, rfl⟩
  rw [← g213] at A213 D213 st213
  refine go (T213.setTop (mkF m 8 #[.val (.ref a1)] [(.ref o0), (.ref a1)])) _ (fun t9 k9 => st213 _ k9) ?_
  have ne214 : a1 ≠ o0 := Nat.ne_of_lt (Nat.lt_of_lt_of_le E_a1.lt (Nat.le_of_eq g213.symm))
  have sz_o0 : h0.size ≤ o0 := Nat.le_trans (Keep.refl h0 [a1]).1 (Nat.le_of_eq g213.symm)
  have g_o0 : n0 ≤ o0 := Nat.le_trans Z0 sz_o0
  have u215 : Exa Z h213 a1 "com/example/horizonte/horizonte/dd/Terms" := E_a1.ext E213
  have u216 : Sta Z h213 "java/util/ArrayList" "DEFAULTCAPACITY_EMPTY_ELEMENTDATA" "[Ljava/lang/Object;" (.ref sa) := HS.ext E213
  have u217 : Fld Z h213 a1 "com/example/horizonte/horizonte/dd/Terms" "linears" "Ljava/util/List;" .null := F0.ext E213
  have u218 : Fld Z h213 a1 "com/example/horizonte/horizonte/dd/Terms" "quadratics" "Ljava/util/List;" .null := F1.ext E213
  have u219 : Fld Z h213 a1 "com/example/horizonte/horizonte/dd/Terms" "spans" "Ljava/util/List;" .null := F2.ext E213
  have u220 : Fld Z h213 a1 "com/example/horizonte/horizonte/dd/Terms" "terms" "Ljava/util/Map;" .null := F3.ext E213
  have u221 : Fld Z h213 a1 "com/example/horizonte/horizonte/dd/Terms" "units" "[I" .null := F4.ext E213
  have u222 : Fld Z h213 a1 "com/example/horizonte/horizonte/dd/Terms" "tests" "Ljava/util/List;" .null := F5.ext E213
  have u223 : Fld Z h213 a1 "com/example/horizonte/horizonte/dd/Terms" "testNumbers" "Ljava/util/Map;" .null := F6.ext E213
  have u224 : Keep h0 h213 [a1] := (Keep.refl h0 [a1]).ext E213
  have u225 : Fld Z h213 o0 "java/util/AbstractList" "modCount" "I" (.int (0 : Int32)) := D213 (Or.inl (hw _ (List.mem_of_getElem? (i := 46) rfl))) (ty := .int) (by decide)
  have u226 : Fld Z h213 o0 "java/util/ArrayList" "elementData" "[Ljava/lang/Object;" .null := D213 (Or.inl (hw _ (List.mem_of_getElem? (i := 49) rfl))) (ty := (.array (.object "java/lang/Object"))) (by decide)
  refine go (T213.setTop (mkF m 9 #[.val (.ref a1)] [(.ref o0), (.ref o0), (.ref a1)])) _ (fun t9 k9 => ?_) ?_
  · show Steps p.tables e below (T213.setTop (mkF m 8 #[.val (.ref a1)] [(.ref o0), (.ref a1)])) _
    refine XS.dup X213.here hx rfl (hb hby d3_8) rfl rfl ?_
    exact k9
  obtain ⟨_, _, ⟨T227, L227, k227, n227⟩, -, X227, ⟨Lc227, hQ227, l227, y227, z227⟩, st227⟩ := X213.specialBack hx (y := (⟨"java/util/ArrayList", "<init>", "()V"⟩ : MethodName)) rfl hown (mvT hZ (hw _ (List.mem_of_getElem? (i := 29) rfl))) (mvT hZ (hw _ (List.mem_of_getElem? (i := 30) rfl))) (mvT hZ (hw _ (List.mem_of_getElem? (i := 31) rfl))) (by decide) (backOf (W := 2) (rm4 l Z a0 hw [] o0 sa h213 n0 (Nat.le_trans Z0 u224.1) A213 u225 u226 u216 g_o0) hZ (hw _ (List.mem_of_getElem? (i := 31) rfl)) (hw _ (List.mem_of_getElem? (i := 28) rfl)) (by decide) (by decide)) (g := (mkF m 9 #[.val (.ref a1)] [(.ref o0), (.ref o0), (.ref a1)])) rfl (by rw [hml]; rfl) (Steps.refl _) (a := o0) (argsL := []) (rest := [(.ref o0), (.ref a1)]) (lenOf pd__28_29V rfl) rfl (by show 2 * 0 + _ ≤ _; exact Nat.le_of_eq rfl) (hb hby d3_9) (fun _ _ => ⟨rfl, e213, (by decide : 1 + 0 ≤ _), (by decide : 3 + 0 ≤ _)⟩)
  dsimp only [Pt.U, Pt.locs, Pt.cells, Pt.slots] at X227 l227 y227 z227 st227 hQ227
  subst l227 y227 z227
  obtain ⟨rfl, N227q, K227q⟩ := hQ227
  have N227 := Fr.app N0 N227q
  refine go (T227.setTop (mkF m 12 #[.val (.ref a1)] [(.ref o0), (.ref a1)])) _ (fun t9 k9 => st227.trans k9) ?_
  have u228 : Exa Z T227.heap a1 "com/example/horizonte/horizonte/dd/Terms" := u215.keep K227q
  have u229 : Sta Z T227.heap "java/util/ArrayList" "DEFAULTCAPACITY_EMPTY_ELEMENTDATA" "[Ljava/lang/Object;" (.ref sa) := own_sta u216 K227q (nsS A213.nostat ns0)
  have u230 : Fld Z T227.heap a1 "com/example/horizonte/horizonte/dd/Terms" "linears" "Ljava/util/List;" .null := u217.keep K227q (ninS ne214 nin0)
  have u231 : Fld Z T227.heap a1 "com/example/horizonte/horizonte/dd/Terms" "quadratics" "Ljava/util/List;" .null := u218.keep K227q (ninS ne214 nin0)
  have u232 : Fld Z T227.heap a1 "com/example/horizonte/horizonte/dd/Terms" "spans" "Ljava/util/List;" .null := u219.keep K227q (ninS ne214 nin0)
  have u233 : Fld Z T227.heap a1 "com/example/horizonte/horizonte/dd/Terms" "terms" "Ljava/util/Map;" .null := u220.keep K227q (ninS ne214 nin0)
  have u234 : Fld Z T227.heap a1 "com/example/horizonte/horizonte/dd/Terms" "units" "[I" .null := u221.keep K227q (ninS ne214 nin0)
  have u235 : Fld Z T227.heap a1 "com/example/horizonte/horizonte/dd/Terms" "tests" "Ljava/util/List;" .null := u222.keep K227q (ninS ne214 nin0)
  have u236 : Fld Z T227.heap a1 "com/example/horizonte/horizonte/dd/Terms" "testNumbers" "Ljava/util/Map;" .null := u223.keep K227q (ninS ne214 nin0)
  have u237 : Exa Z T227.heap o0 "java/util/ArrayList" := A213.keep K227q
  have u238 : Keep h0 T227.heap [a1] := u224.trans K227q (allS (Or.inr sz_o0) all0)
  obtain ⟨T239, h239, X239, e239, W239, st239⟩ := putF X227 hx hZ hown (host := "") (Or.inl (hw _ (List.mem_of_getElem? (i := 50) rfl))) Via.refl rfl u230 u228 (Or.inr ⟨(hw _ (List.mem_of_getElem? (i := 51) rfl)), rfl, hnm⟩) (hw _ (List.mem_of_getElem? (i := 20) rfl)) (ty := (.object "java/util/List")) (by decide) rfl rfl (g := (mkF m 12 #[.val (.ref a1)] [(.ref o0), (.ref a1)])) rfl rfl (hb hby d3_12)
  have N239 := Fr.snoc X239 N227 g_a1
  refine go (T239.setTop (mkF m 15 #[.val (.ref a1)] [])) _ (fun t9 k9 => st239 _ k9) ?_
  have u240 : Exa Z h239 a1 "com/example/horizonte/horizonte/dd/Terms" := u228.wr W239
  have u241 : Sta Z h239 "java/util/ArrayList" "DEFAULTCAPACITY_EMPTY_ELEMENTDATA" "[Ljava/lang/Object;" (.ref sa) := u229.wr W239
  have u242 : Fld Z h239 a1 "com/example/horizonte/horizonte/dd/Terms" "linears" "Ljava/util/List;" (.ref o0) := u230.same W239
  have u243 : Fld Z h239 a1 "com/example/horizonte/horizonte/dd/Terms" "quadratics" "Ljava/util/List;" .null := u231.other W239 (Or.inr (slot_ne (Or.inr (hw _ (List.mem_of_getElem? (i := 53) rfl))) (Or.inr (hw _ (List.mem_of_getElem? (i := 51) rfl))) (by decide) (t := (.object "java/util/List")) (t' := (.object "java/util/List")) (by decide) (by decide)))
  have u244 : Fld Z h239 a1 "com/example/horizonte/horizonte/dd/Terms" "spans" "Ljava/util/List;" .null := u232.other W239 (Or.inr (slot_ne (Or.inr (hw _ (List.mem_of_getElem? (i := 55) rfl))) (Or.inr (hw _ (List.mem_of_getElem? (i := 51) rfl))) (by decide) (t := (.object "java/util/List")) (t' := (.object "java/util/List")) (by decide) (by decide)))
  have u245 : Fld Z h239 a1 "com/example/horizonte/horizonte/dd/Terms" "terms" "Ljava/util/Map;" .null := u233.other W239 (Or.inr (slot_ne (Or.inr (hw _ (List.mem_of_getElem? (i := 73) rfl))) (Or.inr (hw _ (List.mem_of_getElem? (i := 51) rfl))) (by decide) (t := (.object "java/util/Map")) (t' := (.object "java/util/List")) (by decide) (by decide)))
  have u246 : Fld Z h239 a1 "com/example/horizonte/horizonte/dd/Terms" "units" "[I" .null := u234.other W239 (Or.inr (slot_ne (Or.inl (hw _ (List.mem_of_getElem? (i := 75) rfl))) (Or.inr (hw _ (List.mem_of_getElem? (i := 51) rfl))) (by decide) (t := (.array .int)) (t' := (.object "java/util/List")) (by decide) (by decide)))
  have u247 : Fld Z h239 a1 "com/example/horizonte/horizonte/dd/Terms" "tests" "Ljava/util/List;" .null := u235.other W239 (Or.inr (slot_ne (Or.inr (hw _ (List.mem_of_getElem? (i := 77) rfl))) (Or.inr (hw _ (List.mem_of_getElem? (i := 51) rfl))) (by decide) (t := (.object "java/util/List")) (t' := (.object "java/util/List")) (by decide) (by decide)))
  have u248 : Fld Z h239 a1 "com/example/horizonte/horizonte/dd/Terms" "testNumbers" "Ljava/util/Map;" .null := u236.other W239 (Or.inr (slot_ne (Or.inr (hw _ (List.mem_of_getElem? (i := 79) rfl))) (Or.inr (hw _ (List.mem_of_getElem? (i := 51) rfl))) (by decide) (t := (.object "java/util/Map")) (t' := (.object "java/util/List")) (by decide) (by decide)))
  have u249 : Keep h0 h239 [a1] := u238.wr W239 (Or.inl (List.mem_of_getElem? (i := 0) rfl))
  refine go (T239.setTop (mkF m 16 #[.val (.ref a1)] [(.ref a1)])) _ (fun t9 k9 => ?_) ?_
  · show Steps p.tables e below (T239.setTop (mkF m 15 #[.val (.ref a1)] [])) _
    refine XS.aloadN X239.here hx rfl (hb hby d3_15) rfl rfl ?_
    exact k9
  obtain ⟨T250, h250, X250, e250, E250, A250, D250, -, st250⟩ := newO X239 hx hZ hown (hw _ (List.mem_of_getElem? (i := 26) rfl)) (hw _ (List.mem_of_getElem? (i := 27) rfl)) (hw _ (List.mem_of_getElem? (i := 28) rfl)) e239 (g := (mkF m 16 #[.val (.ref a1)] [(.ref a1)])) rfl (hb hby d3_16) (by decide) (by decide)
  obtain ⟨o1, g250⟩ : ∃ z, z = h239.size := ⟨_, rfl⟩
  rw [← g250] at A250 D250 st250
  refine go (T250.setTop (mkF m 19 #[.val (.ref a1)] [(.ref o1), (.ref a1)])) _ (fun t9 k9 => st250 _ k9) ?_
  have ne251 : a1 ≠ o1 := Nat.ne_of_lt (Nat.lt_of_lt_of_le u240.lt (Nat.le_of_eq g250.symm))
  have sz_o1 : h0.size ≤ o1 := Nat.le_trans u249.1 (Nat.le_of_eq g250.symm)
  have g_o1 : n0 ≤ o1 := Nat.le_trans Z0 sz_o1
  have u252 : Exa Z h250 a1 "com/example/horizonte/horizonte/dd/Terms" := u240.ext E250
  have u253 : Sta Z h250 "java/util/ArrayList" "DEFAULTCAPACITY_EMPTY_ELEMENTDATA" "[Ljava/lang/Object;" (.ref sa) := u241.ext E250
  have u254 : Fld Z h250 a1 "com/example/horizonte/horizonte/dd/Terms" "quadratics" "Ljava/util/List;" .null := u243.ext E250
  have u255 : Fld Z h250 a1 "com/example/horizonte/horizonte/dd/Terms" "spans" "Ljava/util/List;" .null := u244.ext E250
  have u256 : Fld Z h250 a1 "com/example/horizonte/horizonte/dd/Terms" "terms" "Ljava/util/Map;" .null := u245.ext E250
  have u257 : Fld Z h250 a1 "com/example/horizonte/horizonte/dd/Terms" "units" "[I" .null := u246.ext E250
  have u258 : Fld Z h250 a1 "com/example/horizonte/horizonte/dd/Terms" "tests" "Ljava/util/List;" .null := u247.ext E250
  have u259 : Fld Z h250 a1 "com/example/horizonte/horizonte/dd/Terms" "testNumbers" "Ljava/util/Map;" .null := u248.ext E250
  have u260 : Keep h0 h250 [a1] := u249.ext E250
  have u261 : Fld Z h250 o1 "java/util/AbstractList" "modCount" "I" (.int (0 : Int32)) := D250 (Or.inl (hw _ (List.mem_of_getElem? (i := 46) rfl))) (ty := .int) (by decide)
  have u262 : Fld Z h250 o1 "java/util/ArrayList" "elementData" "[Ljava/lang/Object;" .null := D250 (Or.inl (hw _ (List.mem_of_getElem? (i := 49) rfl))) (ty := (.array (.object "java/lang/Object"))) (by decide)
  refine go (T250.setTop (mkF m 20 #[.val (.ref a1)] [(.ref o1), (.ref o1), (.ref a1)])) _ (fun t9 k9 => ?_) ?_
  · show Steps p.tables e below (T250.setTop (mkF m 19 #[.val (.ref a1)] [(.ref o1), (.ref a1)])) _
    refine XS.dup X250.here hx rfl (hb hby d3_19) rfl rfl ?_
    exact k9
  obtain ⟨_, _, ⟨T263, L263, k263, n263⟩, -, X263, ⟨Lc263, hQ263, l263, y263, z263⟩, st263⟩ := X250.specialBack hx (y := (⟨"java/util/ArrayList", "<init>", "()V"⟩ : MethodName)) rfl hown (mvT hZ (hw _ (List.mem_of_getElem? (i := 29) rfl))) (mvT hZ (hw _ (List.mem_of_getElem? (i := 30) rfl))) (mvT hZ (hw _ (List.mem_of_getElem? (i := 31) rfl))) (by decide) (backOf (W := 2) (rm4 l Z a0 hw [] o1 sa h250 n0 (Nat.le_trans Z0 u260.1) A250 u261 u262 u253 g_o1) hZ (hw _ (List.mem_of_getElem? (i := 31) rfl)) (hw _ (List.mem_of_getElem? (i := 28) rfl)) (by decide) (by decide)) (g := (mkF m 20 #[.val (.ref a1)] [(.ref o1), (.ref o1), (.ref a1)])) rfl (by rw [hml]; rfl) (Steps.refl _) (a := o1) (argsL := []) (rest := [(.ref o1), (.ref a1)]) (lenOf pd__28_29V rfl) rfl (by show 2 * 0 + _ ≤ _; exact Nat.le_of_eq rfl) (hb hby d3_20) (fun _ _ => ⟨rfl, e250, (by decide : 2 + 0 ≤ _), (by decide : 6 + 0 ≤ _)⟩)
  dsimp only [Pt.U, Pt.locs, Pt.cells, Pt.slots] at X263 l263 y263 z263 st263 hQ263
  subst l263 y263 z263
  obtain ⟨rfl, N263q, K263q⟩ := hQ263
  have N263 := Fr.app N239 N263q
  refine go (T263.setTop (mkF m 23 #[.val (.ref a1)] [(.ref o1), (.ref a1)])) _ (fun t9 k9 => st263.trans k9) ?_
  have u264 : Exa Z T263.heap a1 "com/example/horizonte/horizonte/dd/Terms" := u252.keep K263q
  have u265 : Sta Z T263.heap "java/util/ArrayList" "DEFAULTCAPACITY_EMPTY_ELEMENTDATA" "[Ljava/lang/Object;" (.ref sa) := own_sta u253 K263q (nsS A250.nostat ns0)
  have u266 : Fld Z T263.heap a1 "com/example/horizonte/horizonte/dd/Terms" "quadratics" "Ljava/util/List;" .null := u254.keep K263q (ninS ne251 nin0)
  have u267 : Fld Z T263.heap a1 "com/example/horizonte/horizonte/dd/Terms" "spans" "Ljava/util/List;" .null := u255.keep K263q (ninS ne251 nin0)
  have u268 : Fld Z T263.heap a1 "com/example/horizonte/horizonte/dd/Terms" "terms" "Ljava/util/Map;" .null := u256.keep K263q (ninS ne251 nin0)
  have u269 : Fld Z T263.heap a1 "com/example/horizonte/horizonte/dd/Terms" "units" "[I" .null := u257.keep K263q (ninS ne251 nin0)
  have u270 : Fld Z T263.heap a1 "com/example/horizonte/horizonte/dd/Terms" "tests" "Ljava/util/List;" .null := u258.keep K263q (ninS ne251 nin0)
  have u271 : Fld Z T263.heap a1 "com/example/horizonte/horizonte/dd/Terms" "testNumbers" "Ljava/util/Map;" .null := u259.keep K263q (ninS ne251 nin0)
  have u272 : Exa Z T263.heap o1 "java/util/ArrayList" := A250.keep K263q
  have u273 : Keep h0 T263.heap [a1] := u260.trans K263q (allS (Or.inr sz_o1) all0)
  obtain ⟨T274, h274, X274, e274, W274, st274⟩ := putF X263 hx hZ hown (host := "") (Or.inl (hw _ (List.mem_of_getElem? (i := 52) rfl))) Via.refl rfl u266 u264 (Or.inr ⟨(hw _ (List.mem_of_getElem? (i := 53) rfl)), rfl, hnm⟩) (hw _ (List.mem_of_getElem? (i := 20) rfl)) (ty := (.object "java/util/List")) (by decide) rfl rfl (g := (mkF m 23 #[.val (.ref a1)] [(.ref o1), (.ref a1)])) rfl rfl (hb hby d3_23)
  have N274 := Fr.snoc X274 N263 g_a1
  refine go (T274.setTop (mkF m 26 #[.val (.ref a1)] [])) _ (fun t9 k9 => st274 _ k9) ?_
  have u275 : Exa Z h274 a1 "com/example/horizonte/horizonte/dd/Terms" := u264.wr W274
  have u276 : Sta Z h274 "java/util/ArrayList" "DEFAULTCAPACITY_EMPTY_ELEMENTDATA" "[Ljava/lang/Object;" (.ref sa) := u265.wr W274
  have u277 : Fld Z h274 a1 "com/example/horizonte/horizonte/dd/Terms" "quadratics" "Ljava/util/List;" (.ref o1) := u266.same W274
  have u278 : Fld Z h274 a1 "com/example/horizonte/horizonte/dd/Terms" "spans" "Ljava/util/List;" .null := u267.other W274 (Or.inr (slot_ne (Or.inr (hw _ (List.mem_of_getElem? (i := 55) rfl))) (Or.inr (hw _ (List.mem_of_getElem? (i := 53) rfl))) (by decide) (t := (.object "java/util/List")) (t' := (.object "java/util/List")) (by decide) (by decide)))
  have u279 : Fld Z h274 a1 "com/example/horizonte/horizonte/dd/Terms" "terms" "Ljava/util/Map;" .null := u268.other W274 (Or.inr (slot_ne (Or.inr (hw _ (List.mem_of_getElem? (i := 73) rfl))) (Or.inr (hw _ (List.mem_of_getElem? (i := 53) rfl))) (by decide) (t := (.object "java/util/Map")) (t' := (.object "java/util/List")) (by decide) (by decide)))
  have u280 : Fld Z h274 a1 "com/example/horizonte/horizonte/dd/Terms" "units" "[I" .null := u269.other W274 (Or.inr (slot_ne (Or.inl (hw _ (List.mem_of_getElem? (i := 75) rfl))) (Or.inr (hw _ (List.mem_of_getElem? (i := 53) rfl))) (by decide) (t := (.array .int)) (t' := (.object "java/util/List")) (by decide) (by decide)))
  have u281 : Fld Z h274 a1 "com/example/horizonte/horizonte/dd/Terms" "tests" "Ljava/util/List;" .null := u270.other W274 (Or.inr (slot_ne (Or.inr (hw _ (List.mem_of_getElem? (i := 77) rfl))) (Or.inr (hw _ (List.mem_of_getElem? (i := 53) rfl))) (by decide) (t := (.object "java/util/List")) (t' := (.object "java/util/List")) (by decide) (by decide)))
  have u282 : Fld Z h274 a1 "com/example/horizonte/horizonte/dd/Terms" "testNumbers" "Ljava/util/Map;" .null := u271.other W274 (Or.inr (slot_ne (Or.inr (hw _ (List.mem_of_getElem? (i := 79) rfl))) (Or.inr (hw _ (List.mem_of_getElem? (i := 53) rfl))) (by decide) (t := (.object "java/util/Map")) (t' := (.object "java/util/List")) (by decide) (by decide)))
  have u283 : Keep h0 h274 [a1] := u273.wr W274 (Or.inl (List.mem_of_getElem? (i := 0) rfl))
  refine go (T274.setTop (mkF m 27 #[.val (.ref a1)] [(.ref a1)])) _ (fun t9 k9 => ?_) ?_
  · show Steps p.tables e below (T274.setTop (mkF m 26 #[.val (.ref a1)] [])) _
    refine XS.aloadN X274.here hx rfl (hb hby d3_26) rfl rfl ?_
    exact k9
  obtain ⟨T284, h284, X284, e284, E284, A284, D284, -, st284⟩ := newO X274 hx hZ hown (hw _ (List.mem_of_getElem? (i := 26) rfl)) (hw _ (List.mem_of_getElem? (i := 27) rfl)) (hw _ (List.mem_of_getElem? (i := 28) rfl)) e274 (g := (mkF m 27 #[.val (.ref a1)] [(.ref a1)])) rfl (hb hby d3_27) (by decide) (by decide)
  obtain ⟨o2, g284⟩ : ∃ z, z = h274.size := ⟨_, rfl⟩
  rw [← g284] at A284 D284 st284
  refine go (T284.setTop (mkF m 30 #[.val (.ref a1)] [(.ref o2), (.ref a1)])) _ (fun t9 k9 => st284 _ k9) ?_
  have ne285 : a1 ≠ o2 := Nat.ne_of_lt (Nat.lt_of_lt_of_le u275.lt (Nat.le_of_eq g284.symm))
  have sz_o2 : h0.size ≤ o2 := Nat.le_trans u283.1 (Nat.le_of_eq g284.symm)
  have g_o2 : n0 ≤ o2 := Nat.le_trans Z0 sz_o2
  have u286 : Exa Z h284 a1 "com/example/horizonte/horizonte/dd/Terms" := u275.ext E284
  have u287 : Sta Z h284 "java/util/ArrayList" "DEFAULTCAPACITY_EMPTY_ELEMENTDATA" "[Ljava/lang/Object;" (.ref sa) := u276.ext E284
  have u288 : Fld Z h284 a1 "com/example/horizonte/horizonte/dd/Terms" "spans" "Ljava/util/List;" .null := u278.ext E284
  have u289 : Fld Z h284 a1 "com/example/horizonte/horizonte/dd/Terms" "terms" "Ljava/util/Map;" .null := u279.ext E284
  have u290 : Fld Z h284 a1 "com/example/horizonte/horizonte/dd/Terms" "units" "[I" .null := u280.ext E284
  have u291 : Fld Z h284 a1 "com/example/horizonte/horizonte/dd/Terms" "tests" "Ljava/util/List;" .null := u281.ext E284
  have u292 : Fld Z h284 a1 "com/example/horizonte/horizonte/dd/Terms" "testNumbers" "Ljava/util/Map;" .null := u282.ext E284
  have u293 : Keep h0 h284 [a1] := u283.ext E284
  have u294 : Fld Z h284 o2 "java/util/AbstractList" "modCount" "I" (.int (0 : Int32)) := D284 (Or.inl (hw _ (List.mem_of_getElem? (i := 46) rfl))) (ty := .int) (by decide)
  have u295 : Fld Z h284 o2 "java/util/ArrayList" "elementData" "[Ljava/lang/Object;" .null := D284 (Or.inl (hw _ (List.mem_of_getElem? (i := 49) rfl))) (ty := (.array (.object "java/lang/Object"))) (by decide)
  refine go (T284.setTop (mkF m 31 #[.val (.ref a1)] [(.ref o2), (.ref o2), (.ref a1)])) _ (fun t9 k9 => ?_) ?_
  · show Steps p.tables e below (T284.setTop (mkF m 30 #[.val (.ref a1)] [(.ref o2), (.ref a1)])) _
    refine XS.dup X284.here hx rfl (hb hby d3_30) rfl rfl ?_
    exact k9
  obtain ⟨_, _, ⟨T296, L296, k296, n296⟩, -, X296, ⟨Lc296, hQ296, l296, y296, z296⟩, st296⟩ := X284.specialBack hx (y := (⟨"java/util/ArrayList", "<init>", "()V"⟩ : MethodName)) rfl hown (mvT hZ (hw _ (List.mem_of_getElem? (i := 29) rfl))) (mvT hZ (hw _ (List.mem_of_getElem? (i := 30) rfl))) (mvT hZ (hw _ (List.mem_of_getElem? (i := 31) rfl))) (by decide) (backOf (W := 2) (rm4 l Z a0 hw [] o2 sa h284 n0 (Nat.le_trans Z0 u293.1) A284 u294 u295 u287 g_o2) hZ (hw _ (List.mem_of_getElem? (i := 31) rfl)) (hw _ (List.mem_of_getElem? (i := 28) rfl)) (by decide) (by decide)) (g := (mkF m 31 #[.val (.ref a1)] [(.ref o2), (.ref o2), (.ref a1)])) rfl (by rw [hml]; rfl) (Steps.refl _) (a := o2) (argsL := []) (rest := [(.ref o2), (.ref a1)]) (lenOf pd__28_29V rfl) rfl (by show 2 * 0 + _ ≤ _; exact Nat.le_of_eq rfl) (hb hby d3_31) (fun _ _ => ⟨rfl, e284, (by decide : 3 + 0 ≤ _), (by decide : 9 + 0 ≤ _)⟩)
  dsimp only [Pt.U, Pt.locs, Pt.cells, Pt.slots] at X296 l296 y296 z296 st296 hQ296
  subst l296 y296 z296
  obtain ⟨rfl, N296q, K296q⟩ := hQ296
  have N296 := Fr.app N274 N296q
  refine go (T296.setTop (mkF m 34 #[.val (.ref a1)] [(.ref o2), (.ref a1)])) _ (fun t9 k9 => st296.trans k9) ?_
  have u297 : Exa Z T296.heap a1 "com/example/horizonte/horizonte/dd/Terms" := u286.keep K296q
  have u298 : Sta Z T296.heap "java/util/ArrayList" "DEFAULTCAPACITY_EMPTY_ELEMENTDATA" "[Ljava/lang/Object;" (.ref sa) := own_sta u287 K296q (nsS A284.nostat ns0)
  have u299 : Fld Z T296.heap a1 "com/example/horizonte/horizonte/dd/Terms" "spans" "Ljava/util/List;" .null := u288.keep K296q (ninS ne285 nin0)
  have u300 : Fld Z T296.heap a1 "com/example/horizonte/horizonte/dd/Terms" "terms" "Ljava/util/Map;" .null := u289.keep K296q (ninS ne285 nin0)
  have u301 : Fld Z T296.heap a1 "com/example/horizonte/horizonte/dd/Terms" "units" "[I" .null := u290.keep K296q (ninS ne285 nin0)
  have u302 : Fld Z T296.heap a1 "com/example/horizonte/horizonte/dd/Terms" "tests" "Ljava/util/List;" .null := u291.keep K296q (ninS ne285 nin0)
  have u303 : Fld Z T296.heap a1 "com/example/horizonte/horizonte/dd/Terms" "testNumbers" "Ljava/util/Map;" .null := u292.keep K296q (ninS ne285 nin0)
  have u304 : Exa Z T296.heap o2 "java/util/ArrayList" := A284.keep K296q
  have u305 : Keep h0 T296.heap [a1] := u293.trans K296q (allS (Or.inr sz_o2) all0)
  obtain ⟨T306, h306, X306, e306, W306, st306⟩ := putF X296 hx hZ hown (host := "") (Or.inl (hw _ (List.mem_of_getElem? (i := 54) rfl))) Via.refl rfl u299 u297 (Or.inr ⟨(hw _ (List.mem_of_getElem? (i := 55) rfl)), rfl, hnm⟩) (hw _ (List.mem_of_getElem? (i := 20) rfl)) (ty := (.object "java/util/List")) (by decide) rfl rfl (g := (mkF m 34 #[.val (.ref a1)] [(.ref o2), (.ref a1)])) rfl rfl (hb hby d3_34)
  have N306 := Fr.snoc X306 N296 g_a1
  refine go (T306.setTop (mkF m 37 #[.val (.ref a1)] [])) _ (fun t9 k9 => st306 _ k9) ?_
  have u307 : Exa Z h306 a1 "com/example/horizonte/horizonte/dd/Terms" := u297.wr W306
  have u308 : Sta Z h306 "java/util/ArrayList" "DEFAULTCAPACITY_EMPTY_ELEMENTDATA" "[Ljava/lang/Object;" (.ref sa) := u298.wr W306
  have u309 : Fld Z h306 a1 "com/example/horizonte/horizonte/dd/Terms" "spans" "Ljava/util/List;" (.ref o2) := u299.same W306
  have u310 : Fld Z h306 a1 "com/example/horizonte/horizonte/dd/Terms" "terms" "Ljava/util/Map;" .null := u300.other W306 (Or.inr (slot_ne (Or.inr (hw _ (List.mem_of_getElem? (i := 73) rfl))) (Or.inr (hw _ (List.mem_of_getElem? (i := 55) rfl))) (by decide) (t := (.object "java/util/Map")) (t' := (.object "java/util/List")) (by decide) (by decide)))
  have u311 : Fld Z h306 a1 "com/example/horizonte/horizonte/dd/Terms" "units" "[I" .null := u301.other W306 (Or.inr (slot_ne (Or.inl (hw _ (List.mem_of_getElem? (i := 75) rfl))) (Or.inr (hw _ (List.mem_of_getElem? (i := 55) rfl))) (by decide) (t := (.array .int)) (t' := (.object "java/util/List")) (by decide) (by decide)))
  have u312 : Fld Z h306 a1 "com/example/horizonte/horizonte/dd/Terms" "tests" "Ljava/util/List;" .null := u302.other W306 (Or.inr (slot_ne (Or.inr (hw _ (List.mem_of_getElem? (i := 77) rfl))) (Or.inr (hw _ (List.mem_of_getElem? (i := 55) rfl))) (by decide) (t := (.object "java/util/List")) (t' := (.object "java/util/List")) (by decide) (by decide)))
  have u313 : Fld Z h306 a1 "com/example/horizonte/horizonte/dd/Terms" "testNumbers" "Ljava/util/Map;" .null := u303.other W306 (Or.inr (slot_ne (Or.inr (hw _ (List.mem_of_getElem? (i := 79) rfl))) (Or.inr (hw _ (List.mem_of_getElem? (i := 55) rfl))) (by decide) (t := (.object "java/util/Map")) (t' := (.object "java/util/List")) (by decide) (by decide)))
  have u314 : Keep h0 h306 [a1] := u305.wr W306 (Or.inl (List.mem_of_getElem? (i := 0) rfl))
  refine go (T306.setTop (mkF m 38 #[.val (.ref a1)] [(.ref a1)])) _ (fun t9 k9 => ?_) ?_
  · show Steps p.tables e below (T306.setTop (mkF m 37 #[.val (.ref a1)] [])) _
    refine XS.aloadN X306.here hx rfl (hb hby d3_37) rfl rfl ?_
    exact k9
  obtain ⟨T315, h315, X315, e315, E315, A315, D315, -, st315⟩ := newO X306 hx hZ hown (hw _ (List.mem_of_getElem? (i := 56) rfl)) (hw _ (List.mem_of_getElem? (i := 57) rfl)) (hw _ (List.mem_of_getElem? (i := 58) rfl)) e306 (g := (mkF m 38 #[.val (.ref a1)] [(.ref a1)])) rfl (hb hby d3_38) (by decide) (by decide)
  obtain ⟨o3, g315⟩ : ∃ z, z = h306.size := ⟨_, rfl⟩
  rw [← g315] at A315 D315 st315
  refine go (T315.setTop (mkF m 41 #[.val (.ref a1)] [(.ref o3), (.ref a1)])) _ (fun t9 k9 => st315 _ k9) ?_
  have ne316 : a1 ≠ o3 := Nat.ne_of_lt (Nat.lt_of_lt_of_le u307.lt (Nat.le_of_eq g315.symm))
  have sz_o3 : h0.size ≤ o3 := Nat.le_trans u314.1 (Nat.le_of_eq g315.symm)
  have g_o3 : n0 ≤ o3 := Nat.le_trans Z0 sz_o3
  have u317 : Exa Z h315 a1 "com/example/horizonte/horizonte/dd/Terms" := u307.ext E315
  have u318 : Sta Z h315 "java/util/ArrayList" "DEFAULTCAPACITY_EMPTY_ELEMENTDATA" "[Ljava/lang/Object;" (.ref sa) := u308.ext E315
  have u319 : Fld Z h315 a1 "com/example/horizonte/horizonte/dd/Terms" "terms" "Ljava/util/Map;" .null := u310.ext E315
  have u320 : Fld Z h315 a1 "com/example/horizonte/horizonte/dd/Terms" "units" "[I" .null := u311.ext E315
  have u321 : Fld Z h315 a1 "com/example/horizonte/horizonte/dd/Terms" "tests" "Ljava/util/List;" .null := u312.ext E315
  have u322 : Fld Z h315 a1 "com/example/horizonte/horizonte/dd/Terms" "testNumbers" "Ljava/util/Map;" .null := u313.ext E315
  have u323 : Keep h0 h315 [a1] := u314.ext E315
  have u324 : Fld Z h315 o3 "java/util/HashMap" "loadFactor" "F" (.float (0 : UInt32)) := D315 (Or.inr (hw _ (List.mem_of_getElem? (i := 71) rfl))) (ty := .float) (by decide)
  refine go (T315.setTop (mkF m 42 #[.val (.ref a1)] [(.ref o3), (.ref o3), (.ref a1)])) _ (fun t9 k9 => ?_) ?_
  · show Steps p.tables e below (T315.setTop (mkF m 41 #[.val (.ref a1)] [(.ref o3), (.ref a1)])) _
    refine XS.dup X315.here hx rfl (hb hby d3_41) rfl rfl ?_
    exact k9
  obtain ⟨_, _, ⟨T325, L325, k325, n325⟩, -, X325, ⟨Lc325, hQ325, l325, y325, z325⟩, st325⟩ := X315.specialBack hx (y := (⟨"java/util/HashMap", "<init>", "()V"⟩ : MethodName)) rfl hown (mvT hZ (hw _ (List.mem_of_getElem? (i := 59) rfl))) (mvT hZ (hw _ (List.mem_of_getElem? (i := 60) rfl))) (mvT hZ (hw _ (List.mem_of_getElem? (i := 61) rfl))) (by decide) (backOf (W := 2) (rm7 l Z a0 hw [] o3 h315 n0 (Nat.le_trans Z0 u323.1) A315 u324 g_o3) hZ (hw _ (List.mem_of_getElem? (i := 61) rfl)) (hw _ (List.mem_of_getElem? (i := 58) rfl)) (by decide) (by decide)) (g := (mkF m 42 #[.val (.ref a1)] [(.ref o3), (.ref o3), (.ref a1)])) rfl (by rw [hml]; rfl) (Steps.refl _) (a := o3) (argsL := []) (rest := [(.ref o3), (.ref a1)]) (lenOf pd__28_29V rfl) rfl (by show 2 * 0 + _ ≤ _; exact Nat.le_of_eq rfl) (hb hby d3_42) (fun _ _ => ⟨rfl, e315, (by decide : 4 + 0 ≤ _), (by decide : 17 + 0 ≤ _)⟩)
  dsimp only [Pt.U, Pt.locs, Pt.cells, Pt.slots] at X325 l325 y325 z325 st325 hQ325
  subst l325 y325 z325
  obtain ⟨rfl, N325q, K325q⟩ := hQ325
  have N325 := Fr.app N306 N325q
  refine go (T325.setTop (mkF m 45 #[.val (.ref a1)] [(.ref o3), (.ref a1)])) _ (fun t9 k9 => st325.trans k9) ?_
  have u326 : Exa Z T325.heap a1 "com/example/horizonte/horizonte/dd/Terms" := u317.keep K325q
  have u327 : Sta Z T325.heap "java/util/ArrayList" "DEFAULTCAPACITY_EMPTY_ELEMENTDATA" "[Ljava/lang/Object;" (.ref sa) := own_sta u318 K325q (nsS A315.nostat ns0)
  have u328 : Fld Z T325.heap a1 "com/example/horizonte/horizonte/dd/Terms" "terms" "Ljava/util/Map;" .null := u319.keep K325q (ninS ne316 nin0)
  have u329 : Fld Z T325.heap a1 "com/example/horizonte/horizonte/dd/Terms" "units" "[I" .null := u320.keep K325q (ninS ne316 nin0)
  have u330 : Fld Z T325.heap a1 "com/example/horizonte/horizonte/dd/Terms" "tests" "Ljava/util/List;" .null := u321.keep K325q (ninS ne316 nin0)
  have u331 : Fld Z T325.heap a1 "com/example/horizonte/horizonte/dd/Terms" "testNumbers" "Ljava/util/Map;" .null := u322.keep K325q (ninS ne316 nin0)
  have u332 : Exa Z T325.heap o3 "java/util/HashMap" := A315.keep K325q
  have u333 : Keep h0 T325.heap [a1] := u323.trans K325q (allS (Or.inr sz_o3) all0)
  obtain ⟨T334, h334, X334, e334, W334, st334⟩ := putF X325 hx hZ hown (host := "") (Or.inl (hw _ (List.mem_of_getElem? (i := 72) rfl))) Via.refl rfl u328 u326 (Or.inr ⟨(hw _ (List.mem_of_getElem? (i := 73) rfl)), rfl, hnm⟩) (hw _ (List.mem_of_getElem? (i := 20) rfl)) (ty := (.object "java/util/Map")) (by decide) rfl rfl (g := (mkF m 45 #[.val (.ref a1)] [(.ref o3), (.ref a1)])) rfl rfl (hb hby d3_45)
  have N334 := Fr.snoc X334 N325 g_a1
  refine go (T334.setTop (mkF m 48 #[.val (.ref a1)] [])) _ (fun t9 k9 => st334 _ k9) ?_
  have u335 : Exa Z h334 a1 "com/example/horizonte/horizonte/dd/Terms" := u326.wr W334
  have u336 : Sta Z h334 "java/util/ArrayList" "DEFAULTCAPACITY_EMPTY_ELEMENTDATA" "[Ljava/lang/Object;" (.ref sa) := u327.wr W334
  have u337 : Fld Z h334 a1 "com/example/horizonte/horizonte/dd/Terms" "terms" "Ljava/util/Map;" (.ref o3) := u328.same W334
  have u338 : Fld Z h334 a1 "com/example/horizonte/horizonte/dd/Terms" "units" "[I" .null := u329.other W334 (Or.inr (slot_ne (Or.inl (hw _ (List.mem_of_getElem? (i := 75) rfl))) (Or.inr (hw _ (List.mem_of_getElem? (i := 73) rfl))) (by decide) (t := (.array .int)) (t' := (.object "java/util/Map")) (by decide) (by decide)))
  have u339 : Fld Z h334 a1 "com/example/horizonte/horizonte/dd/Terms" "tests" "Ljava/util/List;" .null := u330.other W334 (Or.inr (slot_ne (Or.inr (hw _ (List.mem_of_getElem? (i := 77) rfl))) (Or.inr (hw _ (List.mem_of_getElem? (i := 73) rfl))) (by decide) (t := (.object "java/util/List")) (t' := (.object "java/util/Map")) (by decide) (by decide)))
  have u340 : Fld Z h334 a1 "com/example/horizonte/horizonte/dd/Terms" "testNumbers" "Ljava/util/Map;" .null := u331.other W334 (Or.inr (slot_ne (Or.inr (hw _ (List.mem_of_getElem? (i := 79) rfl))) (Or.inr (hw _ (List.mem_of_getElem? (i := 73) rfl))) (by decide) (t := (.object "java/util/Map")) (t' := (.object "java/util/Map")) (by decide) (by decide)))
  have u341 : Keep h0 h334 [a1] := u333.wr W334 (Or.inl (List.mem_of_getElem? (i := 0) rfl))
  refine go (T334.setTop (mkF m 50 #[.val (.ref a1)] [(.int (0 : Int32)), (.ref a1)])) _ (fun t9 k9 => ?_) ?_
  · show Steps p.tables e below (T334.setTop (mkF m 48 #[.val (.ref a1)] [])) _
    refine XS.aloadN X334.here hx rfl (hb hby d3_48) rfl rfl ?_
    show Steps p.tables e below (T334.setTop (mkF m 49 #[.val (.ref a1)] [(.ref a1)])) _
    refine XS.iconst X334.here hx rfl (hb hby d3_49) ?_
    exact k9
  obtain ⟨T342, h342, k342, X342, e342, E342, A342, st342⟩ := newP X334 hx hZ (hw _ (List.mem_of_getElem? (i := 9) rfl)) e334 (g := (mkF m 50 #[.val (.ref a1)] [(.int (0 : Int32)), (.ref a1)])) rfl (hb hby d3_50) rfl (by decide) (cap := 0) (by decide) (by decide) (by decide) (by decide)
  obtain ⟨o4, g342⟩ : ∃ z, z = h334.size := ⟨_, rfl⟩
  rw [← g342] at A342 st342
  refine go (T342.setTop (mkF m 52 #[.val (.ref a1)] [(.ref o4), (.ref a1)])) _ (fun t9 k9 => st342 _ k9) ?_
  have ne343 : a1 ≠ o4 := Nat.ne_of_lt (Nat.lt_of_lt_of_le u335.lt (Nat.le_of_eq g342.symm))
  have sz_o4 : h0.size ≤ o4 := Nat.le_trans u341.1 (Nat.le_of_eq g342.symm)
  have g_o4 : n0 ≤ o4 := Nat.le_trans Z0 sz_o4
  have u344 : Exa Z h342 a1 "com/example/horizonte/horizonte/dd/Terms" := u335.ext E342
  have u345 : Sta Z h342 "java/util/ArrayList" "DEFAULTCAPACITY_EMPTY_ELEMENTDATA" "[Ljava/lang/Object;" (.ref sa) := u336.ext E342
  have u346 : Fld Z h342 a1 "com/example/horizonte/horizonte/dd/Terms" "units" "[I" .null := u338.ext E342
  have u347 : Fld Z h342 a1 "com/example/horizonte/horizonte/dd/Terms" "tests" "Ljava/util/List;" .null := u339.ext E342
  have u348 : Fld Z h342 a1 "com/example/horizonte/horizonte/dd/Terms" "testNumbers" "Ljava/util/Map;" .null := u340.ext E342
  have u349 : Keep h0 h342 [a1] := u341.ext E342
  have u350 : own_A Z h342 o4 .int 0 (fun _ => (.int 0)) := own_A_new A342 rfl
  obtain ⟨T351, h351, X351, e351, W351, st351⟩ := putF X342 hx hZ hown (host := "") (Or.inl (hw _ (List.mem_of_getElem? (i := 74) rfl))) Via.refl e342 u346 u344 (Or.inl (hw _ (List.mem_of_getElem? (i := 75) rfl))) (hw _ (List.mem_of_getElem? (i := 20) rfl)) (ty := (.array .int)) (by decide) rfl rfl (g := (mkF m 52 #[.val (.ref a1)] [(.ref o4), (.ref a1)])) rfl rfl (hb hby d3_52)
  have N351 := Fr.snoc X351 N334 g_a1
  refine go (T351.setTop (mkF m 55 #[.val (.ref a1)] [])) _ (fun t9 k9 => st351 _ k9) ?_
  have u352 : Exa Z h351 a1 "com/example/horizonte/horizonte/dd/Terms" := u344.wr W351
  have u353 : Sta Z h351 "java/util/ArrayList" "DEFAULTCAPACITY_EMPTY_ELEMENTDATA" "[Ljava/lang/Object;" (.ref sa) := u345.wr W351
  have u354 : Fld Z h351 a1 "com/example/horizonte/horizonte/dd/Terms" "units" "[I" (.ref o4) := u346.same W351
  have u355 : Fld Z h351 a1 "com/example/horizonte/horizonte/dd/Terms" "tests" "Ljava/util/List;" .null := u347.other W351 (Or.inr (slot_ne (Or.inr (hw _ (List.mem_of_getElem? (i := 77) rfl))) (Or.inl (hw _ (List.mem_of_getElem? (i := 75) rfl))) (by decide) (t := (.object "java/util/List")) (t' := (.array .int)) (by decide) (by decide)))
  have u356 : Fld Z h351 a1 "com/example/horizonte/horizonte/dd/Terms" "testNumbers" "Ljava/util/Map;" .null := u348.other W351 (Or.inr (slot_ne (Or.inr (hw _ (List.mem_of_getElem? (i := 79) rfl))) (Or.inl (hw _ (List.mem_of_getElem? (i := 75) rfl))) (by decide) (t := (.object "java/util/Map")) (t' := (.array .int)) (by decide) (by decide)))
  have u357 : Keep h0 h351 [a1] := u349.wr W351 (Or.inl (List.mem_of_getElem? (i := 0) rfl))
  refine go (T351.setTop (mkF m 56 #[.val (.ref a1)] [(.ref a1)])) _ (fun t9 k9 => ?_) ?_
  · show Steps p.tables e below (T351.setTop (mkF m 55 #[.val (.ref a1)] [])) _
    refine XS.aloadN X351.here hx rfl (hb hby d3_55) rfl rfl ?_
    exact k9
  obtain ⟨T358, h358, X358, e358, E358, A358, D358, -, st358⟩ := newO X351 hx hZ hown (hw _ (List.mem_of_getElem? (i := 26) rfl)) (hw _ (List.mem_of_getElem? (i := 27) rfl)) (hw _ (List.mem_of_getElem? (i := 28) rfl)) e351 (g := (mkF m 56 #[.val (.ref a1)] [(.ref a1)])) rfl (hb hby d3_56) (by decide) (by decide)
  obtain ⟨o5, g358⟩ : ∃ z, z = h351.size := ⟨_, rfl⟩
  rw [← g358] at A358 D358 st358
  refine go (T358.setTop (mkF m 59 #[.val (.ref a1)] [(.ref o5), (.ref a1)])) _ (fun t9 k9 => st358 _ k9) ?_
  have ne359 : a1 ≠ o5 := Nat.ne_of_lt (Nat.lt_of_lt_of_le u352.lt (Nat.le_of_eq g358.symm))
  have sz_o5 : h0.size ≤ o5 := Nat.le_trans u357.1 (Nat.le_of_eq g358.symm)
  have g_o5 : n0 ≤ o5 := Nat.le_trans Z0 sz_o5
  have u360 : Exa Z h358 a1 "com/example/horizonte/horizonte/dd/Terms" := u352.ext E358
  have u361 : Sta Z h358 "java/util/ArrayList" "DEFAULTCAPACITY_EMPTY_ELEMENTDATA" "[Ljava/lang/Object;" (.ref sa) := u353.ext E358
  have u362 : Fld Z h358 a1 "com/example/horizonte/horizonte/dd/Terms" "tests" "Ljava/util/List;" .null := u355.ext E358
  have u363 : Fld Z h358 a1 "com/example/horizonte/horizonte/dd/Terms" "testNumbers" "Ljava/util/Map;" .null := u356.ext E358
  have u364 : Keep h0 h358 [a1] := u357.ext E358
  have u365 : Fld Z h358 o5 "java/util/AbstractList" "modCount" "I" (.int (0 : Int32)) := D358 (Or.inl (hw _ (List.mem_of_getElem? (i := 46) rfl))) (ty := .int) (by decide)
  have u366 : Fld Z h358 o5 "java/util/ArrayList" "elementData" "[Ljava/lang/Object;" .null := D358 (Or.inl (hw _ (List.mem_of_getElem? (i := 49) rfl))) (ty := (.array (.object "java/lang/Object"))) (by decide)
  refine go (T358.setTop (mkF m 60 #[.val (.ref a1)] [(.ref o5), (.ref o5), (.ref a1)])) _ (fun t9 k9 => ?_) ?_
  · show Steps p.tables e below (T358.setTop (mkF m 59 #[.val (.ref a1)] [(.ref o5), (.ref a1)])) _
    refine XS.dup X358.here hx rfl (hb hby d3_59) rfl rfl ?_
    exact k9
  obtain ⟨_, _, ⟨T367, L367, k367, n367⟩, -, X367, ⟨Lc367, hQ367, l367, y367, z367⟩, st367⟩ := X358.specialBack hx (y := (⟨"java/util/ArrayList", "<init>", "()V"⟩ : MethodName)) rfl hown (mvT hZ (hw _ (List.mem_of_getElem? (i := 29) rfl))) (mvT hZ (hw _ (List.mem_of_getElem? (i := 30) rfl))) (mvT hZ (hw _ (List.mem_of_getElem? (i := 31) rfl))) (by decide) (backOf (W := 2) (rm4 l Z a0 hw [] o5 sa h358 n0 (Nat.le_trans Z0 u364.1) A358 u365 u366 u361 g_o5) hZ (hw _ (List.mem_of_getElem? (i := 31) rfl)) (hw _ (List.mem_of_getElem? (i := 28) rfl)) (by decide) (by decide)) (g := (mkF m 60 #[.val (.ref a1)] [(.ref o5), (.ref o5), (.ref a1)])) rfl (by rw [hml]; rfl) (Steps.refl _) (a := o5) (argsL := []) (rest := [(.ref o5), (.ref a1)]) (lenOf pd__28_29V rfl) rfl (by show 2 * 0 + _ ≤ _; exact Nat.le_of_eq rfl) (hb hby d3_60) (fun _ _ => ⟨rfl, e358, (by decide : 6 + 0 ≤ _), (by decide : 20 + 0 ≤ _)⟩)
  dsimp only [Pt.U, Pt.locs, Pt.cells, Pt.slots] at X367 l367 y367 z367 st367 hQ367
  subst l367 y367 z367
  obtain ⟨rfl, N367q, K367q⟩ := hQ367
  have N367 := Fr.app N351 N367q
  refine go (T367.setTop (mkF m 63 #[.val (.ref a1)] [(.ref o5), (.ref a1)])) _ (fun t9 k9 => st367.trans k9) ?_
  have u368 : Exa Z T367.heap a1 "com/example/horizonte/horizonte/dd/Terms" := u360.keep K367q
  have u369 : Sta Z T367.heap "java/util/ArrayList" "DEFAULTCAPACITY_EMPTY_ELEMENTDATA" "[Ljava/lang/Object;" (.ref sa) := own_sta u361 K367q (nsS A358.nostat ns0)
  have u370 : Fld Z T367.heap a1 "com/example/horizonte/horizonte/dd/Terms" "tests" "Ljava/util/List;" .null := u362.keep K367q (ninS ne359 nin0)
  have u371 : Fld Z T367.heap a1 "com/example/horizonte/horizonte/dd/Terms" "testNumbers" "Ljava/util/Map;" .null := u363.keep K367q (ninS ne359 nin0)
  have u372 : Exa Z T367.heap o5 "java/util/ArrayList" := A358.keep K367q
  have u373 : Keep h0 T367.heap [a1] := u364.trans K367q (allS (Or.inr sz_o5) all0)
  obtain ⟨T374, h374, X374, e374, W374, st374⟩ := putF X367 hx hZ hown (host := "") (Or.inl (hw _ (List.mem_of_getElem? (i := 76) rfl))) Via.refl rfl u370 u368 (Or.inr ⟨(hw _ (List.mem_of_getElem? (i := 77) rfl)), rfl, hnm⟩) (hw _ (List.mem_of_getElem? (i := 20) rfl)) (ty := (.object "java/util/List")) (by decide) rfl rfl (g := (mkF m 63 #[.val (.ref a1)] [(.ref o5), (.ref a1)])) rfl rfl (hb hby d3_63)
  have N374 := Fr.snoc X374 N367 g_a1
  refine go (T374.setTop (mkF m 66 #[.val (.ref a1)] [])) _ (fun t9 k9 => st374 _ k9) ?_
  have u375 : Exa Z h374 a1 "com/example/horizonte/horizonte/dd/Terms" := u368.wr W374
  have u376 : Sta Z h374 "java/util/ArrayList" "DEFAULTCAPACITY_EMPTY_ELEMENTDATA" "[Ljava/lang/Object;" (.ref sa) := u369.wr W374
  have u377 : Fld Z h374 a1 "com/example/horizonte/horizonte/dd/Terms" "tests" "Ljava/util/List;" (.ref o5) := u370.same W374
  have u378 : Fld Z h374 a1 "com/example/horizonte/horizonte/dd/Terms" "testNumbers" "Ljava/util/Map;" .null := u371.other W374 (Or.inr (slot_ne (Or.inr (hw _ (List.mem_of_getElem? (i := 79) rfl))) (Or.inr (hw _ (List.mem_of_getElem? (i := 77) rfl))) (by decide) (t := (.object "java/util/Map")) (t' := (.object "java/util/List")) (by decide) (by decide)))
  have u379 : Keep h0 h374 [a1] := u373.wr W374 (Or.inl (List.mem_of_getElem? (i := 0) rfl))
  refine go (T374.setTop (mkF m 67 #[.val (.ref a1)] [(.ref a1)])) _ (fun t9 k9 => ?_) ?_
  · show Steps p.tables e below (T374.setTop (mkF m 66 #[.val (.ref a1)] [])) _
    refine XS.aloadN X374.here hx rfl (hb hby d3_66) rfl rfl ?_
    exact k9
  obtain ⟨T380, h380, X380, e380, E380, A380, D380, -, st380⟩ := newO X374 hx hZ hown (hw _ (List.mem_of_getElem? (i := 56) rfl)) (hw _ (List.mem_of_getElem? (i := 57) rfl)) (hw _ (List.mem_of_getElem? (i := 58) rfl)) e374 (g := (mkF m 67 #[.val (.ref a1)] [(.ref a1)])) rfl (hb hby d3_67) (by decide) (by decide)
  obtain ⟨o6, g380⟩ : ∃ z, z = h374.size := ⟨_, rfl⟩
  rw [← g380] at A380 D380 st380
  refine go (T380.setTop (mkF m 70 #[.val (.ref a1)] [(.ref o6), (.ref a1)])) _ (fun t9 k9 => st380 _ k9) ?_
  have ne381 : a1 ≠ o6 := Nat.ne_of_lt (Nat.lt_of_lt_of_le u375.lt (Nat.le_of_eq g380.symm))
  have sz_o6 : h0.size ≤ o6 := Nat.le_trans u379.1 (Nat.le_of_eq g380.symm)
  have g_o6 : n0 ≤ o6 := Nat.le_trans Z0 sz_o6
  have u382 : Exa Z h380 a1 "com/example/horizonte/horizonte/dd/Terms" := u375.ext E380
  have u383 : Sta Z h380 "java/util/ArrayList" "DEFAULTCAPACITY_EMPTY_ELEMENTDATA" "[Ljava/lang/Object;" (.ref sa) := u376.ext E380
  have u384 : Fld Z h380 a1 "com/example/horizonte/horizonte/dd/Terms" "testNumbers" "Ljava/util/Map;" .null := u378.ext E380
  have u385 : Keep h0 h380 [a1] := u379.ext E380
  have u386 : Fld Z h380 o6 "java/util/HashMap" "loadFactor" "F" (.float (0 : UInt32)) := D380 (Or.inr (hw _ (List.mem_of_getElem? (i := 71) rfl))) (ty := .float) (by decide)
  refine go (T380.setTop (mkF m 71 #[.val (.ref a1)] [(.ref o6), (.ref o6), (.ref a1)])) _ (fun t9 k9 => ?_) ?_
  · show Steps p.tables e below (T380.setTop (mkF m 70 #[.val (.ref a1)] [(.ref o6), (.ref a1)])) _
    refine XS.dup X380.here hx rfl (hb hby d3_70) rfl rfl ?_
    exact k9
  obtain ⟨_, _, ⟨T387, L387, k387, n387⟩, -, X387, ⟨Lc387, hQ387, l387, y387, z387⟩, st387⟩ := X380.specialBack hx (y := (⟨"java/util/HashMap", "<init>", "()V"⟩ : MethodName)) rfl hown (mvT hZ (hw _ (List.mem_of_getElem? (i := 59) rfl))) (mvT hZ (hw _ (List.mem_of_getElem? (i := 60) rfl))) (mvT hZ (hw _ (List.mem_of_getElem? (i := 61) rfl))) (by decide) (backOf (W := 2) (rm7 l Z a0 hw [] o6 h380 n0 (Nat.le_trans Z0 u385.1) A380 u386 g_o6) hZ (hw _ (List.mem_of_getElem? (i := 61) rfl)) (hw _ (List.mem_of_getElem? (i := 58) rfl)) (by decide) (by decide)) (g := (mkF m 71 #[.val (.ref a1)] [(.ref o6), (.ref o6), (.ref a1)])) rfl (by rw [hml]; rfl) (Steps.refl _) (a := o6) (argsL := []) (rest := [(.ref o6), (.ref a1)]) (lenOf pd__28_29V rfl) rfl (by show 2 * 0 + _ ≤ _; exact Nat.le_of_eq rfl) (hb hby d3_71) (fun _ _ => ⟨rfl, e380, (by decide : 7 + 0 ≤ _), (by decide : 28 + 0 ≤ _)⟩)
  dsimp only [Pt.U, Pt.locs, Pt.cells, Pt.slots] at X387 l387 y387 z387 st387 hQ387
  subst l387 y387 z387
  obtain ⟨rfl, N387q, K387q⟩ := hQ387
  have N387 := Fr.app N374 N387q
  refine go (T387.setTop (mkF m 74 #[.val (.ref a1)] [(.ref o6), (.ref a1)])) _ (fun t9 k9 => st387.trans k9) ?_
  have u388 : Exa Z T387.heap a1 "com/example/horizonte/horizonte/dd/Terms" := u382.keep K387q
  have u389 : Sta Z T387.heap "java/util/ArrayList" "DEFAULTCAPACITY_EMPTY_ELEMENTDATA" "[Ljava/lang/Object;" (.ref sa) := own_sta u383 K387q (nsS A380.nostat ns0)
  have u390 : Fld Z T387.heap a1 "com/example/horizonte/horizonte/dd/Terms" "testNumbers" "Ljava/util/Map;" .null := u384.keep K387q (ninS ne381 nin0)
  have u391 : Exa Z T387.heap o6 "java/util/HashMap" := A380.keep K387q
  have u392 : Keep h0 T387.heap [a1] := u385.trans K387q (allS (Or.inr sz_o6) all0)
  obtain ⟨T393, h393, X393, e393, W393, st393⟩ := putF X387 hx hZ hown (host := "") (Or.inl (hw _ (List.mem_of_getElem? (i := 78) rfl))) Via.refl rfl u390 u388 (Or.inr ⟨(hw _ (List.mem_of_getElem? (i := 79) rfl)), rfl, hnm⟩) (hw _ (List.mem_of_getElem? (i := 20) rfl)) (ty := (.object "java/util/Map")) (by decide) rfl rfl (g := (mkF m 74 #[.val (.ref a1)] [(.ref o6), (.ref a1)])) rfl rfl (hb hby d3_74)
  have N393 := Fr.snoc X393 N387 g_a1
  refine go (T393.setTop (mkF m 77 #[.val (.ref a1)] [])) _ (fun t9 k9 => st393 _ k9) ?_
  have u394 : Exa Z h393 a1 "com/example/horizonte/horizonte/dd/Terms" := u388.wr W393
  have u395 : Sta Z h393 "java/util/ArrayList" "DEFAULTCAPACITY_EMPTY_ELEMENTDATA" "[Ljava/lang/Object;" (.ref sa) := u389.wr W393
  have u396 : Fld Z h393 a1 "com/example/horizonte/horizonte/dd/Terms" "testNumbers" "Ljava/util/Map;" (.ref o6) := u390.same W393
  have u397 : Keep h0 h393 [a1] := u392.wr W393 (Or.inl (List.mem_of_getElem? (i := 0) rfl))
  obtain ⟨fs, hr, hrun, hended, hW, hsame⟩ := X393.leave (v := none) (fun h => by rfl) hlk
  refine fin _ ⟨_, _, X393.returnOut hx Bd.returns (hb hby d3_77) hr, hrun, hended, _, _, rfl, ?_, ⟨_, rfl⟩, hW, hsame.mono (by decide) (by decide)⟩
  show Q3 Z a1 h0 n0 _ T393.heap _
  rw [e393]
  exact ⟨rfl, N393, u397⟩
def Q1 (Z : State) (dd : Addr) (h0 : Heap) (n0 : Nat) (v : Option Value) (h : Heap) (L : List Loc) : Prop := ∃ (bv bl bh bd bs : Addr) (vv lo hi : Nat → Int32) (dv : Nat → UInt64) (sl : Nat → Int32), v = none ∧ Fr n0 L ∧ Keep h0 h [dd] ∧ own_Dd Z h dd bv bl bh bd bs 2 vv lo hi dv sl 0 1 ∧ own_Ok 2 sl dv ∧ own_Ne dd bv bl bh bd bs ∧ own_Gs n0 dd bv bl bh bd bs ∧ vv 0 = (2147483647 : Int32) ∧ vv 1 = (2147483647 : Int32)
set_option maxRecDepth 65536 in
set_option maxHeartbeats 40000000 in
theorem rm1 (l : Launch) (Z : State) (a0 : Array Value) (hw : ∀ d ∈ tables_1, d.before a0 Z = true) (ws : List Jvm.Cond) (dd : Addr) (sa : Addr) (h0 : Heap) (n0 : Nat) (Z0 : n0 ≤ h0.size) (E_dd : Exa Z h0 dd "com/example/horizonte/horizonte/dd/DecisionDiagrams") (F_variables : Fld Z h0 dd "com/example/horizonte/horizonte/dd/DecisionDiagrams" "variables" "[I" .null) (F_lows : Fld Z h0 dd "com/example/horizonte/horizonte/dd/DecisionDiagrams" "lows" "[I" .null) (F_highs : Fld Z h0 dd "com/example/horizonte/horizonte/dd/DecisionDiagrams" "highs" "[I" .null) (F_values : Fld Z h0 dd "com/example/horizonte/horizonte/dd/DecisionDiagrams" "values" "[D" .null) (F_terms : Fld Z h0 dd "com/example/horizonte/horizonte/dd/DecisionDiagrams" "terms" "Lcom/example/horizonte/horizonte/dd/Terms;" .null) (F_slots : Fld Z h0 dd "com/example/horizonte/horizonte/dd/DecisionDiagrams" "slots" "[I" .null) (F_cachedCodes : Fld Z h0 dd "com/example/horizonte/horizonte/dd/DecisionDiagrams" "cachedCodes" "[I" .null) (F_cachedFirsts : Fld Z h0 dd "com/example/horizonte/horizonte/dd/DecisionDiagrams" "cachedFirsts" "[I" .null) (F_cachedSeconds : Fld Z h0 dd "com/example/horizonte/horizonte/dd/DecisionDiagrams" "cachedSeconds" "[I" .null) (F_cachedThirds : Fld Z h0 dd "com/example/horizonte/horizonte/dd/DecisionDiagrams" "cachedThirds" "[I" .null) (F_cachedResults : Fld Z h0 dd "com/example/horizonte/horizonte/dd/DecisionDiagrams" "cachedResults" "[I" .null) (F_weights : Fld Z h0 dd "com/example/horizonte/horizonte/dd/DecisionDiagrams" "weights" "[D" .null) (F_weighed : Fld Z h0 dd "com/example/horizonte/horizonte/dd/DecisionDiagrams" "weighed" "[I" .null) (F_count : Fld Z h0 dd "com/example/horizonte/horizonte/dd/DecisionDiagrams" "count" "I" (.int (0 : Int32))) (F_zero : Fld Z h0 dd "com/example/horizonte/horizonte/dd/DecisionDiagrams" "zero" "I" (.int (0 : Int32))) (F_one : Fld Z h0 dd "com/example/horizonte/horizonte/dd/DecisionDiagrams" "one" "I" (.int (0 : Int32))) (HS : Sta Z h0 "java/util/ArrayList" "DEFAULTCAPACITY_EMPTY_ELEMENTDATA" "[Ljava/lang/Object;" (.ref sa)) (g_dd : n0 ≤ dd) :
    MetFree l (⟨"com/example/horizonte/horizonte/dd/DecisionDiagrams", "<init>", "()V"⟩ : MethodName) (head1 (Jvm.Cond.code (⟨"com/example/horizonte/horizonte/dd/DecisionDiagrams", "<init>", "()V"⟩ : MethodName) prog_4_method_1_code 1 none :: ws) ({ frames := 5, cells := 20, slots := 15395, locals := 79 } : Room)) (fun a U => a = #[(.ref dd)] ∧ Z.Warmed39 U.vm ∧ U.heap = h0) (fun _ _ _ _ _ => True) (fun _ U o U' => ∃ v L, o = .returned v ∧ Q1 Z dd h0 n0 v U'.heap L ∧ FrameEnd U o U' L ({ frames := 5, cells := 20, slots := 15395, locals := 79 } : Room).cells ({ frames := 5, cells := 20, slots := 15395, locals := 79 } : Room).slots) := by
  refine MetFree.of_bodySF (plainFor_of_name pn_com_example_horizonte_horizonte_dd_DecisionDiagrams) hisR ?_
  intro p e s m args below meth c s₁ Bd hml0 hP hK
  obtain ⟨rfl, hZ, hh⟩ := hP
  have hlk : meth.locks = false := by first | exact BodyLoose.notSynchronized Bd | exact Body.notSynchronized Bd
  have hx := Bd.exec
  have hby := Bd.bytes
  have hml : c.maxLocals = 1 := hml0
  have hown : s.vm.findClass "com/example/horizonte/horizonte/dd/DecisionDiagrams" = some m.cls := findClass_of_methodNamed Bd.named
  have hnm := (name_of_methodNamed Bd.named Bd.method).1
  have X0 : Stand p l e ({ frames := 5, cells := 20, slots := 15395, locals := 79 } : Room) s m #[(.ref dd)] below meth c s₁ [] 0 0 := Stand.of_body Bd
  have e0 : s₁.heap = h0 := by rw [← hh, Bd.state]; rfl
  have N0 := Fr.nil n0
  refine own_open (fun G go fin => ?_)
  refine go (s₁.setTop (mkF m 0 #[.val (.ref dd)] [])) _ (fun t9 k9 => castTop (ef_1 m dd) k9) ?_
  refine go (s₁.setTop (mkF m 1 #[.val (.ref dd)] [(.ref dd)])) _ (fun t9 k9 => ?_) ?_
  · show Steps p.tables e below (s₁.setTop (mkF m 0 #[.val (.ref dd)] [])) _
    refine XS.aloadN X0.here hx rfl (hb hby d1_0) rfl rfl ?_
    exact k9
  obtain ⟨T398, X398, e398, st398⟩ := initO X0 hx hZ hown (hw _ (List.mem_of_getElem? (i := 6) rfl)) (hw _ (List.mem_of_getElem? (i := 7) rfl)) (hw _ (List.mem_of_getElem? (i := 8) rfl)) e0 (g := (mkF m 1 #[.val (.ref dd)] [(.ref dd)])) rfl (by rw [hml]; rfl) rfl (hb hby d1_1) (by decide) (W := 0) (by show 2 * 0 + _ ≤ _; exact Nat.le_of_eq rfl) (by decide)
  refine go (T398.setTop (mkF m 4 #[.val (.ref dd)] [])) _ (fun t9 k9 => st398 _ k9) ?_
  refine go (T398.setTop (mkF m 8 #[.val (.ref dd)] [(.int (1024 : Int32)), (.ref dd)])) _ (fun t9 k9 => ?_) ?_
  · show Steps p.tables e below (T398.setTop (mkF m 4 #[.val (.ref dd)] [])) _
    refine XS.aloadN X398.here hx rfl (hb hby d1_4) rfl rfl ?_
    show Steps p.tables e below (T398.setTop (mkF m 5 #[.val (.ref dd)] [(.ref dd)])) _
    refine XS.sipush X398.here hx rfl (hb hby d1_5) ?_
    exact k9
  obtain ⟨T399, h399, k399, X399, e399, E399, A399, st399⟩ := newP X398 hx hZ (hw _ (List.mem_of_getElem? (i := 9) rfl)) e398 (g := (mkF m 8 #[.val (.ref dd)] [(.int (1024 : Int32)), (.ref dd)])) rfl (hb hby d1_8) rfl (by decide) (cap := 1024) (by decide) (by decide) (by decide) (by decide)
  obtain ⟨bv, g399⟩ : ∃ z, z = h0.size := ⟨_, rfl⟩
  rw [← g399] at A399 st399
  refine go (T399.setTop (mkF m 10 #[.val (.ref dd)] [(.ref bv), (.ref dd)])) _ (fun t9 k9 => st399 _ k9) ?_
  have ne400 : dd ≠ bv := Nat.ne_of_lt (Nat.lt_of_lt_of_le E_dd.lt (Nat.le_of_eq g399.symm))
  have sz_bv : h0.size ≤ bv := Nat.le_trans (Keep.refl h0 [dd]).1 (Nat.le_of_eq g399.symm)
  have g_bv : n0 ≤ bv := Nat.le_trans Z0 sz_bv
  have u401 : Exa Z h399 dd "com/example/horizonte/horizonte/dd/DecisionDiagrams" := E_dd.ext E399
  have u402 : Sta Z h399 "java/util/ArrayList" "DEFAULTCAPACITY_EMPTY_ELEMENTDATA" "[Ljava/lang/Object;" (.ref sa) := HS.ext E399
  have u403 : Fld Z h399 dd "com/example/horizonte/horizonte/dd/DecisionDiagrams" "variables" "[I" .null := F_variables.ext E399
  have u404 : Fld Z h399 dd "com/example/horizonte/horizonte/dd/DecisionDiagrams" "lows" "[I" .null := F_lows.ext E399
  have u405 : Fld Z h399 dd "com/example/horizonte/horizonte/dd/DecisionDiagrams" "highs" "[I" .null := F_highs.ext E399
  have u406 : Fld Z h399 dd "com/example/horizonte/horizonte/dd/DecisionDiagrams" "values" "[D" .null := F_values.ext E399
  have u407 : Fld Z h399 dd "com/example/horizonte/horizonte/dd/DecisionDiagrams" "terms" "Lcom/example/horizonte/horizonte/dd/Terms;" .null := F_terms.ext E399
  have u408 : Fld Z h399 dd "com/example/horizonte/horizonte/dd/DecisionDiagrams" "slots" "[I" .null := F_slots.ext E399
  have u409 : Fld Z h399 dd "com/example/horizonte/horizonte/dd/DecisionDiagrams" "cachedCodes" "[I" .null := F_cachedCodes.ext E399
  have u410 : Fld Z h399 dd "com/example/horizonte/horizonte/dd/DecisionDiagrams" "cachedFirsts" "[I" .null := F_cachedFirsts.ext E399
  have u411 : Fld Z h399 dd "com/example/horizonte/horizonte/dd/DecisionDiagrams" "cachedSeconds" "[I" .null := F_cachedSeconds.ext E399
  have u412 : Fld Z h399 dd "com/example/horizonte/horizonte/dd/DecisionDiagrams" "cachedThirds" "[I" .null := F_cachedThirds.ext E399
  have u413 : Fld Z h399 dd "com/example/horizonte/horizonte/dd/DecisionDiagrams" "cachedResults" "[I" .null := F_cachedResults.ext E399
  have u414 : Fld Z h399 dd "com/example/horizonte/horizonte/dd/DecisionDiagrams" "weights" "[D" .null := F_weights.ext E399
  have u415 : Fld Z h399 dd "com/example/horizonte/horizonte/dd/DecisionDiagrams" "weighed" "[I" .null := F_weighed.ext E399
  have u416 : Fld Z h399 dd "com/example/horizonte/horizonte/dd/DecisionDiagrams" "count" "I" (.int (0 : Int32)) := F_count.ext E399
  have u417 : Fld Z h399 dd "com/example/horizonte/horizonte/dd/DecisionDiagrams" "zero" "I" (.int (0 : Int32)) := F_zero.ext E399
  have u418 : Fld Z h399 dd "com/example/horizonte/horizonte/dd/DecisionDiagrams" "one" "I" (.int (0 : Int32)) := F_one.ext E399
  have u419 : Keep h0 h399 [dd] := (Keep.refl h0 [dd]).ext E399
  have u420 : own_A Z h399 bv .int 1024 (fun _ => (.int 0)) := own_A_new A399 rfl
  obtain ⟨T421, h421, X421, e421, W421, st421⟩ := putF X399 hx hZ hown (host := "") (Or.inl (hw _ (List.mem_of_getElem? (i := 10) rfl))) Via.refl e399 u403 u401 (Or.inl (hw _ (List.mem_of_getElem? (i := 11) rfl))) (hw _ (List.mem_of_getElem? (i := 1) rfl)) (ty := (.array .int)) (by decide) rfl rfl (g := (mkF m 10 #[.val (.ref dd)] [(.ref bv), (.ref dd)])) rfl rfl (hb hby d1_10)
  have N421 := Fr.snoc X421 N0 g_dd
  refine go (T421.setTop (mkF m 13 #[.val (.ref dd)] [])) _ (fun t9 k9 => st421 _ k9) ?_
  have u422 : Exa Z h421 dd "com/example/horizonte/horizonte/dd/DecisionDiagrams" := u401.wr W421
  have u423 : Sta Z h421 "java/util/ArrayList" "DEFAULTCAPACITY_EMPTY_ELEMENTDATA" "[Ljava/lang/Object;" (.ref sa) := u402.wr W421
  have u424 : Fld Z h421 dd "com/example/horizonte/horizonte/dd/DecisionDiagrams" "variables" "[I" (.ref bv) := u403.same W421
  have u425 : Fld Z h421 dd "com/example/horizonte/horizonte/dd/DecisionDiagrams" "lows" "[I" .null := u404.other W421 (Or.inr (slot_ne (Or.inl (hw _ (List.mem_of_getElem? (i := 13) rfl))) (Or.inl (hw _ (List.mem_of_getElem? (i := 11) rfl))) (by decide) (t := (.array .int)) (t' := (.array .int)) (by decide) (by decide)))
  have u426 : Fld Z h421 dd "com/example/horizonte/horizonte/dd/DecisionDiagrams" "highs" "[I" .null := u405.other W421 (Or.inr (slot_ne (Or.inl (hw _ (List.mem_of_getElem? (i := 15) rfl))) (Or.inl (hw _ (List.mem_of_getElem? (i := 11) rfl))) (by decide) (t := (.array .int)) (t' := (.array .int)) (by decide) (by decide)))
  have u427 : Fld Z h421 dd "com/example/horizonte/horizonte/dd/DecisionDiagrams" "values" "[D" .null := u406.other W421 (Or.inr (slot_ne (Or.inl (hw _ (List.mem_of_getElem? (i := 18) rfl))) (Or.inl (hw _ (List.mem_of_getElem? (i := 11) rfl))) (by decide) (t := (.array .double)) (t' := (.array .int)) (by decide) (by decide)))
  have u428 : Fld Z h421 dd "com/example/horizonte/horizonte/dd/DecisionDiagrams" "terms" "Lcom/example/horizonte/horizonte/dd/Terms;" .null := u407.other W421 (Or.inr (slot_ne (Or.inr (hw _ (List.mem_of_getElem? (i := 81) rfl))) (Or.inl (hw _ (List.mem_of_getElem? (i := 11) rfl))) (by decide) (t := (.object "com/example/horizonte/horizonte/dd/Terms")) (t' := (.array .int)) (by decide) (by decide)))
  have u429 : Fld Z h421 dd "com/example/horizonte/horizonte/dd/DecisionDiagrams" "slots" "[I" .null := u408.other W421 (Or.inr (slot_ne (Or.inl (hw _ (List.mem_of_getElem? (i := 90) rfl))) (Or.inl (hw _ (List.mem_of_getElem? (i := 11) rfl))) (by decide) (t := (.array .int)) (t' := (.array .int)) (by decide) (by decide)))
  have u430 : Fld Z h421 dd "com/example/horizonte/horizonte/dd/DecisionDiagrams" "cachedCodes" "[I" .null := u409.other W421 (Or.inr (slot_ne (Or.inl (hw _ (List.mem_of_getElem? (i := 92) rfl))) (Or.inl (hw _ (List.mem_of_getElem? (i := 11) rfl))) (by decide) (t := (.array .int)) (t' := (.array .int)) (by decide) (by decide)))
  have u431 : Fld Z h421 dd "com/example/horizonte/horizonte/dd/DecisionDiagrams" "cachedFirsts" "[I" .null := u410.other W421 (Or.inr (slot_ne (Or.inl (hw _ (List.mem_of_getElem? (i := 94) rfl))) (Or.inl (hw _ (List.mem_of_getElem? (i := 11) rfl))) (by decide) (t := (.array .int)) (t' := (.array .int)) (by decide) (by decide)))
  have u432 : Fld Z h421 dd "com/example/horizonte/horizonte/dd/DecisionDiagrams" "cachedSeconds" "[I" .null := u411.other W421 (Or.inr (slot_ne (Or.inl (hw _ (List.mem_of_getElem? (i := 96) rfl))) (Or.inl (hw _ (List.mem_of_getElem? (i := 11) rfl))) (by decide) (t := (.array .int)) (t' := (.array .int)) (by decide) (by decide)))
  have u433 : Fld Z h421 dd "com/example/horizonte/horizonte/dd/DecisionDiagrams" "cachedThirds" "[I" .null := u412.other W421 (Or.inr (slot_ne (Or.inl (hw _ (List.mem_of_getElem? (i := 98) rfl))) (Or.inl (hw _ (List.mem_of_getElem? (i := 11) rfl))) (by decide) (t := (.array .int)) (t' := (.array .int)) (by decide) (by decide)))
  have u434 : Fld Z h421 dd "com/example/horizonte/horizonte/dd/DecisionDiagrams" "cachedResults" "[I" .null := u413.other W421 (Or.inr (slot_ne (Or.inl (hw _ (List.mem_of_getElem? (i := 100) rfl))) (Or.inl (hw _ (List.mem_of_getElem? (i := 11) rfl))) (by decide) (t := (.array .int)) (t' := (.array .int)) (by decide) (by decide)))
  have u435 : Fld Z h421 dd "com/example/horizonte/horizonte/dd/DecisionDiagrams" "weights" "[D" .null := u414.other W421 (Or.inr (slot_ne (Or.inl (hw _ (List.mem_of_getElem? (i := 102) rfl))) (Or.inl (hw _ (List.mem_of_getElem? (i := 11) rfl))) (by decide) (t := (.array .double)) (t' := (.array .int)) (by decide) (by decide)))
  have u436 : Fld Z h421 dd "com/example/horizonte/horizonte/dd/DecisionDiagrams" "weighed" "[I" .null := u415.other W421 (Or.inr (slot_ne (Or.inl (hw _ (List.mem_of_getElem? (i := 104) rfl))) (Or.inl (hw _ (List.mem_of_getElem? (i := 11) rfl))) (by decide) (t := (.array .int)) (t' := (.array .int)) (by decide) (by decide)))
  have u437 : Fld Z h421 dd "com/example/horizonte/horizonte/dd/DecisionDiagrams" "count" "I" (.int (0 : Int32)) := u416.other W421 (Or.inr (slot_ne (Or.inl (hw _ (List.mem_of_getElem? (i := 148) rfl))) (Or.inl (hw _ (List.mem_of_getElem? (i := 11) rfl))) (by decide) (t := .int) (t' := (.array .int)) (by decide) (by decide)))
  have u438 : Fld Z h421 dd "com/example/horizonte/horizonte/dd/DecisionDiagrams" "zero" "I" (.int (0 : Int32)) := u417.other W421 (Or.inr (slot_ne (Or.inr (hw _ (List.mem_of_getElem? (i := 150) rfl))) (Or.inl (hw _ (List.mem_of_getElem? (i := 11) rfl))) (by decide) (t := .int) (t' := (.array .int)) (by decide) (by decide)))
  have u439 : Fld Z h421 dd "com/example/horizonte/horizonte/dd/DecisionDiagrams" "one" "I" (.int (0 : Int32)) := u418.other W421 (Or.inr (slot_ne (Or.inr (hw _ (List.mem_of_getElem? (i := 152) rfl))) (Or.inl (hw _ (List.mem_of_getElem? (i := 11) rfl))) (by decide) (t := .int) (t' := (.array .int)) (by decide) (by decide)))
  have u440 : own_A Z h421 bv .int 1024 (fun _ => (.int 0)) := own_A_other u420 W421 (Ne.symm ne400)
  have u441 : Keep h0 h421 [dd] := u419.wr W421 (Or.inl (List.mem_of_getElem? (i := 0) rfl))
  refine go (T421.setTop (mkF m 17 #[.val (.ref dd)] [(.int (1024 : Int32)), (.ref dd)])) _ (fun t9 k9 => ?_) ?_
  · show Steps p.tables e below (T421.setTop (mkF m 13 #[.val (.ref dd)] [])) _
    refine XS.aloadN X421.here hx rfl (hb hby d1_13) rfl rfl ?_
    show Steps p.tables e below (T421.setTop (mkF m 14 #[.val (.ref dd)] [(.ref dd)])) _
    refine XS.sipush X421.here hx rfl (hb hby d1_14) ?_
    exact k9
  obtain ⟨T442, h442, k442, X442, e442, E442, A442, st442⟩ := newP X421 hx hZ (hw _ (List.mem_of_getElem? (i := 9) rfl)) e421 (g := (mkF m 17 #[.val (.ref dd)] [(.int (1024 : Int32)), (.ref dd)])) rfl (hb hby d1_17) rfl (by decide) (cap := 1024) (by decide) (by decide) (by decide) (by decide)
  obtain ⟨bl, g442⟩ : ∃ z, z = h421.size := ⟨_, rfl⟩
  rw [← g442] at A442 st442
  refine go (T442.setTop (mkF m 19 #[.val (.ref dd)] [(.ref bl), (.ref dd)])) _ (fun t9 k9 => st442 _ k9) ?_
  have ne443 : dd ≠ bl := Nat.ne_of_lt (Nat.lt_of_lt_of_le u422.lt (Nat.le_of_eq g442.symm))
  have ne444 : bv ≠ bl := Nat.ne_of_lt (Nat.lt_of_lt_of_le (own_A_lt u440) (Nat.le_of_eq g442.symm))
  have sz_bl : h0.size ≤ bl := Nat.le_trans u441.1 (Nat.le_of_eq g442.symm)
  have g_bl : n0 ≤ bl := Nat.le_trans Z0 sz_bl
  have u445 : Exa Z h442 dd "com/example/horizonte/horizonte/dd/DecisionDiagrams" := u422.ext E442
  have u446 : Sta Z h442 "java/util/ArrayList" "DEFAULTCAPACITY_EMPTY_ELEMENTDATA" "[Ljava/lang/Object;" (.ref sa) := u423.ext E442
  have u447 : Fld Z h442 dd "com/example/horizonte/horizonte/dd/DecisionDiagrams" "variables" "[I" (.ref bv) := u424.ext E442
  have u448 : Fld Z h442 dd "com/example/horizonte/horizonte/dd/DecisionDiagrams" "lows" "[I" .null := u425.ext E442
  have u449 : Fld Z h442 dd "com/example/horizonte/horizonte/dd/DecisionDiagrams" "highs" "[I" .null := u426.ext E442
  have u450 : Fld Z h442 dd "com/example/horizonte/horizonte/dd/DecisionDiagrams" "values" "[D" .null := u427.ext E442
  have u451 : Fld Z h442 dd "com/example/horizonte/horizonte/dd/DecisionDiagrams" "terms" "Lcom/example/horizonte/horizonte/dd/Terms;" .null := u428.ext E442
  have u452 : Fld Z h442 dd "com/example/horizonte/horizonte/dd/DecisionDiagrams" "slots" "[I" .null := u429.ext E442
  have u453 : Fld Z h442 dd "com/example/horizonte/horizonte/dd/DecisionDiagrams" "cachedCodes" "[I" .null := u430.ext E442
  have u454 : Fld Z h442 dd "com/example/horizonte/horizonte/dd/DecisionDiagrams" "cachedFirsts" "[I" .null := u431.ext E442
  have u455 : Fld Z h442 dd "com/example/horizonte/horizonte/dd/DecisionDiagrams" "cachedSeconds" "[I" .null := u432.ext E442
  have u456 : Fld Z h442 dd "com/example/horizonte/horizonte/dd/DecisionDiagrams" "cachedThirds" "[I" .null := u433.ext E442
  have u457 : Fld Z h442 dd "com/example/horizonte/horizonte/dd/DecisionDiagrams" "cachedResults" "[I" .null := u434.ext E442
  have u458 : Fld Z h442 dd "com/example/horizonte/horizonte/dd/DecisionDiagrams" "weights" "[D" .null := u435.ext E442
  have u459 : Fld Z h442 dd "com/example/horizonte/horizonte/dd/DecisionDiagrams" "weighed" "[I" .null := u436.ext E442
  have u460 : Fld Z h442 dd "com/example/horizonte/horizonte/dd/DecisionDiagrams" "count" "I" (.int (0 : Int32)) := u437.ext E442
  have u461 : Fld Z h442 dd "com/example/horizonte/horizonte/dd/DecisionDiagrams" "zero" "I" (.int (0 : Int32)) := u438.ext E442
  have u462 : Fld Z h442 dd "com/example/horizonte/horizonte/dd/DecisionDiagrams" "one" "I" (.int (0 : Int32)) := u439.ext E442
  have u463 : own_A Z h442 bv .int 1024 (fun _ => (.int 0)) := own_A_ext u440 E442
  have u464 : Keep h0 h442 [dd] := u441.ext E442
  have u465 : own_A Z h442 bl .int 1024 (fun _ => (.int 0)) := own_A_new A442 rfl
  obtain ⟨T466, h466, X466, e466, W466, st466⟩ := putF X442 hx hZ hown (host := "") (Or.inl (hw _ (List.mem_of_getElem? (i := 12) rfl))) Via.refl e442 u448 u445 (Or.inl (hw _ (List.mem_of_getElem? (i := 13) rfl))) (hw _ (List.mem_of_getElem? (i := 1) rfl)) (ty := (.array .int)) (by decide) rfl rfl (g := (mkF m 19 #[.val (.ref dd)] [(.ref bl), (.ref dd)])) rfl rfl (hb hby d1_19)
  have N466 := Fr.snoc X466 N421 g_dd
  refine go (T466.setTop (mkF m 22 #[.val (.ref dd)] [])) _ (fun t9 k9 => st466 _ k9) ?_
  have u467 : Exa Z h466 dd "com/example/horizonte/horizonte/dd/DecisionDiagrams" := u445.wr W466
  have u468 : Sta Z h466 "java/util/ArrayList" "DEFAULTCAPACITY_EMPTY_ELEMENTDATA" "[Ljava/lang/Object;" (.ref sa) := u446.wr W466
  have u469 : Fld Z h466 dd "com/example/horizonte/horizonte/dd/DecisionDiagrams" "variables" "[I" (.ref bv) := u447.other W466 (Or.inr (slot_ne (Or.inl (hw _ (List.mem_of_getElem? (i := 11) rfl))) (Or.inl (hw _ (List.mem_of_getElem? (i := 13) rfl))) (by decide) (t := (.array .int)) (t' := (.array .int)) (by decide) (by decide)))
  have u470 : Fld Z h466 dd "com/example/horizonte/horizonte/dd/DecisionDiagrams" "lows" "[I" (.ref bl) := u448.same W466
  have u471 : Fld Z h466 dd "com/example/horizonte/horizonte/dd/DecisionDiagrams" "highs" "[I" .null := u449.other W466 (Or.inr (slot_ne (Or.inl (hw _ (List.mem_of_getElem? (i := 15) rfl))) (Or.inl (hw _ (List.mem_of_getElem? (i := 13) rfl))) (by decide) (t := (.array .int)) (t' := (.array .int)) (by decide) (by decide)))
  have u472 : Fld Z h466 dd "com/example/horizonte/horizonte/dd/DecisionDiagrams" "values" "[D" .null := u450.other W466 (Or.inr (slot_ne (Or.inl (hw _ (List.mem_of_getElem? (i := 18) rfl))) (Or.inl (hw _ (List.mem_of_getElem? (i := 13) rfl))) (by decide) (t := (.array .double)) (t' := (.array .int)) (by decide) (by decide)))
  have u473 : Fld Z h466 dd "com/example/horizonte/horizonte/dd/DecisionDiagrams" "terms" "Lcom/example/horizonte/horizonte/dd/Terms;" .null := u451.other W466 (Or.inr (slot_ne (Or.inr (hw _ (List.mem_of_getElem? (i := 81) rfl))) (Or.inl (hw _ (List.mem_of_getElem? (i := 13) rfl))) (by decide) (t := (.object "com/example/horizonte/horizonte/dd/Terms")) (t' := (.array .int)) (by decide) (by decide)))
  have u474 : Fld Z h466 dd "com/example/horizonte/horizonte/dd/DecisionDiagrams" "slots" "[I" .null := u452.other W466 (Or.inr (slot_ne (Or.inl (hw _ (List.mem_of_getElem? (i := 90) rfl))) (Or.inl (hw _ (List.mem_of_getElem? (i := 13) rfl))) (by decide) (t := (.array .int)) (t' := (.array .int)) (by decide) (by decide)))
  have u475 : Fld Z h466 dd "com/example/horizonte/horizonte/dd/DecisionDiagrams" "cachedCodes" "[I" .null := u453.other W466 (Or.inr (slot_ne (Or.inl (hw _ (List.mem_of_getElem? (i := 92) rfl))) (Or.inl (hw _ (List.mem_of_getElem? (i := 13) rfl))) (by decide) (t := (.array .int)) (t' := (.array .int)) (by decide) (by decide)))
  have u476 : Fld Z h466 dd "com/example/horizonte/horizonte/dd/DecisionDiagrams" "cachedFirsts" "[I" .null := u454.other W466 (Or.inr (slot_ne (Or.inl (hw _ (List.mem_of_getElem? (i := 94) rfl))) (Or.inl (hw _ (List.mem_of_getElem? (i := 13) rfl))) (by decide) (t := (.array .int)) (t' := (.array .int)) (by decide) (by decide)))
  have u477 : Fld Z h466 dd "com/example/horizonte/horizonte/dd/DecisionDiagrams" "cachedSeconds" "[I" .null := u455.other W466 (Or.inr (slot_ne (Or.inl (hw _ (List.mem_of_getElem? (i := 96) rfl))) (Or.inl (hw _ (List.mem_of_getElem? (i := 13) rfl))) (by decide) (t := (.array .int)) (t' := (.array .int)) (by decide) (by decide)))
  have u478 : Fld Z h466 dd "com/example/horizonte/horizonte/dd/DecisionDiagrams" "cachedThirds" "[I" .null := u456.other W466 (Or.inr (slot_ne (Or.inl (hw _ (List.mem_of_getElem? (i := 98) rfl))) (Or.inl (hw _ (List.mem_of_getElem? (i := 13) rfl))) (by decide) (t := (.array .int)) (t' := (.array .int)) (by decide) (by decide)))
  have u479 : Fld Z h466 dd "com/example/horizonte/horizonte/dd/DecisionDiagrams" "cachedResults" "[I" .null := u457.other W466 (Or.inr (slot_ne (Or.inl (hw _ (List.mem_of_getElem? (i := 100) rfl))) (Or.inl (hw _ (List.mem_of_getElem? (i := 13) rfl))) (by decide) (t := (.array .int)) (t' := (.array .int)) (by decide) (by decide)))
  have u480 : Fld Z h466 dd "com/example/horizonte/horizonte/dd/DecisionDiagrams" "weights" "[D" .null := u458.other W466 (Or.inr (slot_ne (Or.inl (hw _ (List.mem_of_getElem? (i := 102) rfl))) (Or.inl (hw _ (List.mem_of_getElem? (i := 13) rfl))) (by decide) (t := (.array .double)) (t' := (.array .int)) (by decide) (by decide)))
  have u481 : Fld Z h466 dd "com/example/horizonte/horizonte/dd/DecisionDiagrams" "weighed" "[I" .null := u459.other W466 (Or.inr (slot_ne (Or.inl (hw _ (List.mem_of_getElem? (i := 104) rfl))) (Or.inl (hw _ (List.mem_of_getElem? (i := 13) rfl))) (by decide) (t := (.array .int)) (t' := (.array .int)) (by decide) (by decide)))
  have u482 : Fld Z h466 dd "com/example/horizonte/horizonte/dd/DecisionDiagrams" "count" "I" (.int (0 : Int32)) := u460.other W466 (Or.inr (slot_ne (Or.inl (hw _ (List.mem_of_getElem? (i := 148) rfl))) (Or.inl (hw _ (List.mem_of_getElem? (i := 13) rfl))) (by decide) (t := .int) (t' := (.array .int)) (by decide) (by decide)))
  have u483 : Fld Z h466 dd "com/example/horizonte/horizonte/dd/DecisionDiagrams" "zero" "I" (.int (0 : Int32)) := u461.other W466 (Or.inr (slot_ne (Or.inr (hw _ (List.mem_of_getElem? (i := 150) rfl))) (Or.inl (hw _ (List.mem_of_getElem? (i := 13) rfl))) (by decide) (t := .int) (t' := (.array .int)) (by decide) (by decide)))
  have u484 : Fld Z h466 dd "com/example/horizonte/horizonte/dd/DecisionDiagrams" "one" "I" (.int (0 : Int32)) := u462.other W466 (Or.inr (slot_ne (Or.inr (hw _ (List.mem_of_getElem? (i := 152) rfl))) (Or.inl (hw _ (List.mem_of_getElem? (i := 13) rfl))) (by decide) (t := .int) (t' := (.array .int)) (by decide) (by decide)))
  have u485 : own_A Z h466 bv .int 1024 (fun _ => (.int 0)) := own_A_other u463 W466 (Ne.symm ne400)
  have u486 : own_A Z h466 bl .int 1024 (fun _ => (.int 0)) := own_A_other u465 W466 (Ne.symm ne443)
  have u487 : Keep h0 h466 [dd] := u464.wr W466 (Or.inl (List.mem_of_getElem? (i := 0) rfl))
  refine go (T466.setTop (mkF m 26 #[.val (.ref dd)] [(.int (1024 : Int32)), (.ref dd)])) _ (fun t9 k9 => ?_) ?_
  · show Steps p.tables e below (T466.setTop (mkF m 22 #[.val (.ref dd)] [])) _
    refine XS.aloadN X466.here hx rfl (hb hby d1_22) rfl rfl ?_
    show Steps p.tables e below (T466.setTop (mkF m 23 #[.val (.ref dd)] [(.ref dd)])) _
    refine XS.sipush X466.here hx rfl (hb hby d1_23) ?_
    exact k9
  obtain ⟨T488, h488, k488, X488, e488, E488, A488, st488⟩ := newP X466 hx hZ (hw _ (List.mem_of_getElem? (i := 9) rfl)) e466 (g := (mkF m 26 #[.val (.ref dd)] [(.int (1024 : Int32)), (.ref dd)])) rfl (hb hby d1_26) rfl (by decide) (cap := 1024) (by decide) (by decide) (by decide) (by decide)
  obtain ⟨bh, g488⟩ : ∃ z, z = h466.size := ⟨_, rfl⟩
  rw [← g488] at A488 st488
  refine go (T488.setTop (mkF m 28 #[.val (.ref dd)] [(.ref bh), (.ref dd)])) _ (fun t9 k9 => st488 _ k9) ?_
  have ne489 : dd ≠ bh := Nat.ne_of_lt (Nat.lt_of_lt_of_le u467.lt (Nat.le_of_eq g488.symm))
  have ne490 : bv ≠ bh := Nat.ne_of_lt (Nat.lt_of_lt_of_le (own_A_lt u485) (Nat.le_of_eq g488.symm))
  have ne491 : bl ≠ bh := Nat.ne_of_lt (Nat.lt_of_lt_of_le (own_A_lt u486) (Nat.le_of_eq g488.symm))
  have sz_bh : h0.size ≤ bh := Nat.le_trans u487.1 (Nat.le_of_eq g488.symm)
  have g_bh : n0 ≤ bh := Nat.le_trans Z0 sz_bh
  have u492 : Exa Z h488 dd "com/example/horizonte/horizonte/dd/DecisionDiagrams" := u467.ext E488
  have u493 : Sta Z h488 "java/util/ArrayList" "DEFAULTCAPACITY_EMPTY_ELEMENTDATA" "[Ljava/lang/Object;" (.ref sa) := u468.ext E488
  have u494 : Fld Z h488 dd "com/example/horizonte/horizonte/dd/DecisionDiagrams" "variables" "[I" (.ref bv) := u469.ext E488
  have u495 : Fld Z h488 dd "com/example/horizonte/horizonte/dd/DecisionDiagrams" "lows" "[I" (.ref bl) := u470.ext E488
  have u496 : Fld Z h488 dd "com/example/horizonte/horizonte/dd/DecisionDiagrams" "highs" "[I" .null := u471.ext E488
  have u497 : Fld Z h488 dd "com/example/horizonte/horizonte/dd/DecisionDiagrams" "values" "[D" .null := u472.ext E488
  have u498 : Fld Z h488 dd "com/example/horizonte/horizonte/dd/DecisionDiagrams" "terms" "Lcom/example/horizonte/horizonte/dd/Terms;" .null := u473.ext E488
  have u499 : Fld Z h488 dd "com/example/horizonte/horizonte/dd/DecisionDiagrams" "slots" "[I" .null := u474.ext E488
  have u500 : Fld Z h488 dd "com/example/horizonte/horizonte/dd/DecisionDiagrams" "cachedCodes" "[I" .null := u475.ext E488
  have u501 : Fld Z h488 dd "com/example/horizonte/horizonte/dd/DecisionDiagrams" "cachedFirsts" "[I" .null := u476.ext E488
  have u502 : Fld Z h488 dd "com/example/horizonte/horizonte/dd/DecisionDiagrams" "cachedSeconds" "[I" .null := u477.ext E488
  have u503 : Fld Z h488 dd "com/example/horizonte/horizonte/dd/DecisionDiagrams" "cachedThirds" "[I" .null := u478.ext E488
  have u504 : Fld Z h488 dd "com/example/horizonte/horizonte/dd/DecisionDiagrams" "cachedResults" "[I" .null := u479.ext E488
  have u505 : Fld Z h488 dd "com/example/horizonte/horizonte/dd/DecisionDiagrams" "weights" "[D" .null := u480.ext E488
  have u506 : Fld Z h488 dd "com/example/horizonte/horizonte/dd/DecisionDiagrams" "weighed" "[I" .null := u481.ext E488
  have u507 : Fld Z h488 dd "com/example/horizonte/horizonte/dd/DecisionDiagrams" "count" "I" (.int (0 : Int32)) := u482.ext E488
  have u508 : Fld Z h488 dd "com/example/horizonte/horizonte/dd/DecisionDiagrams" "zero" "I" (.int (0 : Int32)) := u483.ext E488
  have u509 : Fld Z h488 dd "com/example/horizonte/horizonte/dd/DecisionDiagrams" "one" "I" (.int (0 : Int32)) := u484.ext E488
  have u510 : own_A Z h488 bv .int 1024 (fun _ => (.int 0)) := own_A_ext u485 E488
  have u511 : own_A Z h488 bl .int 1024 (fun _ => (.int 0)) := own_A_ext u486 E488
  have u512 : Keep h0 h488 [dd] := u487.ext E488
  have u513 : own_A Z h488 bh .int 1024 (fun _ => (.int 0)) := own_A_new A488 rfl
  obtain ⟨T514, h514, X514, e514, W514, st514⟩ := putF X488 hx hZ hown (host := "") (Or.inl (hw _ (List.mem_of_getElem? (i := 14) rfl))) Via.refl e488 u496 u492 (Or.inl (hw _ (List.mem_of_getElem? (i := 15) rfl))) (hw _ (List.mem_of_getElem? (i := 1) rfl)) (ty := (.array .int)) (by decide) rfl rfl (g := (mkF m 28 #[.val (.ref dd)] [(.ref bh), (.ref dd)])) rfl rfl (hb hby d1_28)
  have N514 := Fr.snoc X514 N466 g_dd
  refine go (T514.setTop (mkF m 31 #[.val (.ref dd)] [])) _ (fun t9 k9 => st514 _ k9) ?_
  have u515 : Exa Z h514 dd "com/example/horizonte/horizonte/dd/DecisionDiagrams" := u492.wr W514
  have u516 : Sta Z h514 "java/util/ArrayList" "DEFAULTCAPACITY_EMPTY_ELEMENTDATA" "[Ljava/lang/Object;" (.ref sa) := u493.wr W514
  have u517 : Fld Z h514 dd "com/example/horizonte/horizonte/dd/DecisionDiagrams" "variables" "[I" (.ref bv) := u494.other W514 (Or.inr (slot_ne (Or.inl (hw _ (List.mem_of_getElem? (i := 11) rfl))) (Or.inl (hw _ (List.mem_of_getElem? (i := 15) rfl))) (by decide) (t := (.array .int)) (t' := (.array .int)) (by decide) (by decide)))
  have u518 : Fld Z h514 dd "com/example/horizonte/horizonte/dd/DecisionDiagrams" "lows" "[I" (.ref bl) := u495.other W514 (Or.inr (slot_ne (Or.inl (hw _ (List.mem_of_getElem? (i := 13) rfl))) (Or.inl (hw _ (List.mem_of_getElem? (i := 15) rfl))) (by decide) (t := (.array .int)) (t' := (.array .int)) (by decide) (by decide)))
  have u519 : Fld Z h514 dd "com/example/horizonte/horizonte/dd/DecisionDiagrams" "highs" "[I" (.ref bh) := u496.same W514
  have u520 : Fld Z h514 dd "com/example/horizonte/horizonte/dd/DecisionDiagrams" "values" "[D" .null := u497.other W514 (Or.inr (slot_ne (Or.inl (hw _ (List.mem_of_getElem? (i := 18) rfl))) (Or.inl (hw _ (List.mem_of_getElem? (i := 15) rfl))) (by decide) (t := (.array .double)) (t' := (.array .int)) (by decide) (by decide)))
  have u521 : Fld Z h514 dd "com/example/horizonte/horizonte/dd/DecisionDiagrams" "terms" "Lcom/example/horizonte/horizonte/dd/Terms;" .null := u498.other W514 (Or.inr (slot_ne (Or.inr (hw _ (List.mem_of_getElem? (i := 81) rfl))) (Or.inl (hw _ (List.mem_of_getElem? (i := 15) rfl))) (by decide) (t := (.object "com/example/horizonte/horizonte/dd/Terms")) (t' := (.array .int)) (by decide) (by decide)))
  have u522 : Fld Z h514 dd "com/example/horizonte/horizonte/dd/DecisionDiagrams" "slots" "[I" .null := u499.other W514 (Or.inr (slot_ne (Or.inl (hw _ (List.mem_of_getElem? (i := 90) rfl))) (Or.inl (hw _ (List.mem_of_getElem? (i := 15) rfl))) (by decide) (t := (.array .int)) (t' := (.array .int)) (by decide) (by decide)))
  have u523 : Fld Z h514 dd "com/example/horizonte/horizonte/dd/DecisionDiagrams" "cachedCodes" "[I" .null := u500.other W514 (Or.inr (slot_ne (Or.inl (hw _ (List.mem_of_getElem? (i := 92) rfl))) (Or.inl (hw _ (List.mem_of_getElem? (i := 15) rfl))) (by decide) (t := (.array .int)) (t' := (.array .int)) (by decide) (by decide)))
  have u524 : Fld Z h514 dd "com/example/horizonte/horizonte/dd/DecisionDiagrams" "cachedFirsts" "[I" .null := u501.other W514 (Or.inr (slot_ne (Or.inl (hw _ (List.mem_of_getElem? (i := 94) rfl))) (Or.inl (hw _ (List.mem_of_getElem? (i := 15) rfl))) (by decide) (t := (.array .int)) (t' := (.array .int)) (by decide) (by decide)))
  have u525 : Fld Z h514 dd "com/example/horizonte/horizonte/dd/DecisionDiagrams" "cachedSeconds" "[I" .null := u502.other W514 (Or.inr (slot_ne (Or.inl (hw _ (List.mem_of_getElem? (i := 96) rfl))) (Or.inl (hw _ (List.mem_of_getElem? (i := 15) rfl))) (by decide) (t := (.array .int)) (t' := (.array .int)) (by decide) (by decide)))
  have u526 : Fld Z h514 dd "com/example/horizonte/horizonte/dd/DecisionDiagrams" "cachedThirds" "[I" .null := u503.other W514 (Or.inr (slot_ne (Or.inl (hw _ (List.mem_of_getElem? (i := 98) rfl))) (Or.inl (hw _ (List.mem_of_getElem? (i := 15) rfl))) (by decide) (t := (.array .int)) (t' := (.array .int)) (by decide) (by decide)))
  have u527 : Fld Z h514 dd "com/example/horizonte/horizonte/dd/DecisionDiagrams" "cachedResults" "[I" .null := u504.other W514 (Or.inr (slot_ne (Or.inl (hw _ (List.mem_of_getElem? (i := 100) rfl))) (Or.inl (hw _ (List.mem_of_getElem? (i := 15) rfl))) (by decide) (t := (.array .int)) (t' := (.array .int)) (by decide) (by decide)))
  have u528 : Fld Z h514 dd "com/example/horizonte/horizonte/dd/DecisionDiagrams" "weights" "[D" .null := u505.other W514 (Or.inr (slot_ne (Or.inl (hw _ (List.mem_of_getElem? (i := 102) rfl))) (Or.inl (hw _ (List.mem_of_getElem? (i := 15) rfl))) (by decide) (t := (.array .double)) (t' := (.array .int)) (by decide) (by decide)))
  have u529 : Fld Z h514 dd "com/example/horizonte/horizonte/dd/DecisionDiagrams" "weighed" "[I" .null := u506.other W514 (Or.inr (slot_ne (Or.inl (hw _ (List.mem_of_getElem? (i := 104) rfl))) (Or.inl (hw _ (List.mem_of_getElem? (i := 15) rfl))) (by decide) (t := (.array .int)) (t' := (.array .int)) (by decide) (by decide)))
  have u530 : Fld Z h514 dd "com/example/horizonte/horizonte/dd/DecisionDiagrams" "count" "I" (.int (0 : Int32)) := u507.other W514 (Or.inr (slot_ne (Or.inl (hw _ (List.mem_of_getElem? (i := 148) rfl))) (Or.inl (hw _ (List.mem_of_getElem? (i := 15) rfl))) (by decide) (t := .int) (t' := (.array .int)) (by decide) (by decide)))
  have u531 : Fld Z h514 dd "com/example/horizonte/horizonte/dd/DecisionDiagrams" "zero" "I" (.int (0 : Int32)) := u508.other W514 (Or.inr (slot_ne (Or.inr (hw _ (List.mem_of_getElem? (i := 150) rfl))) (Or.inl (hw _ (List.mem_of_getElem? (i := 15) rfl))) (by decide) (t := .int) (t' := (.array .int)) (by decide) (by decide)))
  have u532 : Fld Z h514 dd "com/example/horizonte/horizonte/dd/DecisionDiagrams" "one" "I" (.int (0 : Int32)) := u509.other W514 (Or.inr (slot_ne (Or.inr (hw _ (List.mem_of_getElem? (i := 152) rfl))) (Or.inl (hw _ (List.mem_of_getElem? (i := 15) rfl))) (by decide) (t := .int) (t' := (.array .int)) (by decide) (by decide)))
  have u533 : own_A Z h514 bv .int 1024 (fun _ => (.int 0)) := own_A_other u510 W514 (Ne.symm ne400)
  have u534 : own_A Z h514 bl .int 1024 (fun _ => (.int 0)) := own_A_other u511 W514 (Ne.symm ne443)
  have u535 : own_A Z h514 bh .int 1024 (fun _ => (.int 0)) := own_A_other u513 W514 (Ne.symm ne489)
  have u536 : Keep h0 h514 [dd] := u512.wr W514 (Or.inl (List.mem_of_getElem? (i := 0) rfl))
  refine go (T514.setTop (mkF m 35 #[.val (.ref dd)] [(.int (1024 : Int32)), (.ref dd)])) _ (fun t9 k9 => ?_) ?_
  · show Steps p.tables e below (T514.setTop (mkF m 31 #[.val (.ref dd)] [])) _
    refine XS.aloadN X514.here hx rfl (hb hby d1_31) rfl rfl ?_
    show Steps p.tables e below (T514.setTop (mkF m 32 #[.val (.ref dd)] [(.ref dd)])) _
    refine XS.sipush X514.here hx rfl (hb hby d1_32) ?_
    exact k9
  obtain ⟨T537, h537, k537, X537, e537, E537, A537, st537⟩ := newP X514 hx hZ (hw _ (List.mem_of_getElem? (i := 16) rfl)) e514 (g := (mkF m 35 #[.val (.ref dd)] [(.int (1024 : Int32)), (.ref dd)])) rfl (hb hby d1_35) rfl (by decide) (cap := 1024) (by decide) (by decide) (by decide) (by decide)
  obtain ⟨bd, g537⟩ : ∃ z, z = h514.size := ⟨_, rfl⟩
  rw [← g537] at A537 st537
  refine go (T537.setTop (mkF m 37 #[.val (.ref dd)] [(.ref bd), (.ref dd)])) _ (fun t9 k9 => st537 _ k9) ?_
  have ne538 : dd ≠ bd := Nat.ne_of_lt (Nat.lt_of_lt_of_le u515.lt (Nat.le_of_eq g537.symm))
  have ne539 : bv ≠ bd := Nat.ne_of_lt (Nat.lt_of_lt_of_le (own_A_lt u533) (Nat.le_of_eq g537.symm))
  have ne540 : bl ≠ bd := Nat.ne_of_lt (Nat.lt_of_lt_of_le (own_A_lt u534) (Nat.le_of_eq g537.symm))
  have ne541 : bh ≠ bd := Nat.ne_of_lt (Nat.lt_of_lt_of_le (own_A_lt u535) (Nat.le_of_eq g537.symm))
  have sz_bd : h0.size ≤ bd := Nat.le_trans u536.1 (Nat.le_of_eq g537.symm)
  have g_bd : n0 ≤ bd := Nat.le_trans Z0 sz_bd
  have u542 : Exa Z h537 dd "com/example/horizonte/horizonte/dd/DecisionDiagrams" := u515.ext E537
  have u543 : Sta Z h537 "java/util/ArrayList" "DEFAULTCAPACITY_EMPTY_ELEMENTDATA" "[Ljava/lang/Object;" (.ref sa) := u516.ext E537
  have u544 : Fld Z h537 dd "com/example/horizonte/horizonte/dd/DecisionDiagrams" "variables" "[I" (.ref bv) := u517.ext E537
  have u545 : Fld Z h537 dd "com/example/horizonte/horizonte/dd/DecisionDiagrams" "lows" "[I" (.ref bl) := u518.ext E537
  have u546 : Fld Z h537 dd "com/example/horizonte/horizonte/dd/DecisionDiagrams" "highs" "[I" (.ref bh) := u519.ext E537
  have u547 : Fld Z h537 dd "com/example/horizonte/horizonte/dd/DecisionDiagrams" "values" "[D" .null := u520.ext E537
  have u548 : Fld Z h537 dd "com/example/horizonte/horizonte/dd/DecisionDiagrams" "terms" "Lcom/example/horizonte/horizonte/dd/Terms;" .null := u521.ext E537
  have u549 : Fld Z h537 dd "com/example/horizonte/horizonte/dd/DecisionDiagrams" "slots" "[I" .null := u522.ext E537
  have u550 : Fld Z h537 dd "com/example/horizonte/horizonte/dd/DecisionDiagrams" "cachedCodes" "[I" .null := u523.ext E537
  have u551 : Fld Z h537 dd "com/example/horizonte/horizonte/dd/DecisionDiagrams" "cachedFirsts" "[I" .null := u524.ext E537
  have u552 : Fld Z h537 dd "com/example/horizonte/horizonte/dd/DecisionDiagrams" "cachedSeconds" "[I" .null := u525.ext E537
  have u553 : Fld Z h537 dd "com/example/horizonte/horizonte/dd/DecisionDiagrams" "cachedThirds" "[I" .null := u526.ext E537
  have u554 : Fld Z h537 dd "com/example/horizonte/horizonte/dd/DecisionDiagrams" "cachedResults" "[I" .null := u527.ext E537
  have u555 : Fld Z h537 dd "com/example/horizonte/horizonte/dd/DecisionDiagrams" "weights" "[D" .null := u528.ext E537
  have u556 : Fld Z h537 dd "com/example/horizonte/horizonte/dd/DecisionDiagrams" "weighed" "[I" .null := u529.ext E537
  have u557 : Fld Z h537 dd "com/example/horizonte/horizonte/dd/DecisionDiagrams" "count" "I" (.int (0 : Int32)) := u530.ext E537
  have u558 : Fld Z h537 dd "com/example/horizonte/horizonte/dd/DecisionDiagrams" "zero" "I" (.int (0 : Int32)) := u531.ext E537
  have u559 : Fld Z h537 dd "com/example/horizonte/horizonte/dd/DecisionDiagrams" "one" "I" (.int (0 : Int32)) := u532.ext E537
  have u560 : own_A Z h537 bv .int 1024 (fun _ => (.int 0)) := own_A_ext u533 E537
  have u561 : own_A Z h537 bl .int 1024 (fun _ => (.int 0)) := own_A_ext u534 E537
  have u562 : own_A Z h537 bh .int 1024 (fun _ => (.int 0)) := own_A_ext u535 E537
  have u563 : Keep h0 h537 [dd] := u536.ext E537
  have u564 : own_A Z h537 bd .double 1024 (fun _ => (.double 0)) := own_A_new A537 rfl
  obtain ⟨T565, h565, X565, e565, W565, st565⟩ := putF X537 hx hZ hown (host := "") (Or.inl (hw _ (List.mem_of_getElem? (i := 17) rfl))) Via.refl e537 u547 u542 (Or.inl (hw _ (List.mem_of_getElem? (i := 18) rfl))) (hw _ (List.mem_of_getElem? (i := 1) rfl)) (ty := (.array .double)) (by decide) rfl rfl (g := (mkF m 37 #[.val (.ref dd)] [(.ref bd), (.ref dd)])) rfl rfl (hb hby d1_37)
  have N565 := Fr.snoc X565 N514 g_dd
  refine go (T565.setTop (mkF m 40 #[.val (.ref dd)] [])) _ (fun t9 k9 => st565 _ k9) ?_
  have u566 : Exa Z h565 dd "com/example/horizonte/horizonte/dd/DecisionDiagrams" := u542.wr W565
  have u567 : Sta Z h565 "java/util/ArrayList" "DEFAULTCAPACITY_EMPTY_ELEMENTDATA" "[Ljava/lang/Object;" (.ref sa) := u543.wr W565
  have u568 : Fld Z h565 dd "com/example/horizonte/horizonte/dd/DecisionDiagrams" "variables" "[I" (.ref bv) := u544.other W565 (Or.inr (slot_ne (Or.inl (hw _ (List.mem_of_getElem? (i := 11) rfl))) (Or.inl (hw _ (List.mem_of_getElem? (i := 18) rfl))) (by decide) (t := (.array .int)) (t' := (.array .double)) (by decide) (by decide)))
  have u569 : Fld Z h565 dd "com/example/horizonte/horizonte/dd/DecisionDiagrams" "lows" "[I" (.ref bl) := u545.other W565 (Or.inr (slot_ne (Or.inl (hw _ (List.mem_of_getElem? (i := 13) rfl))) (Or.inl (hw _ (List.mem_of_getElem? (i := 18) rfl))) (by decide) (t := (.array .int)) (t' := (.array .double)) (by decide) (by decide)))
  have u570 : Fld Z h565 dd "com/example/horizonte/horizonte/dd/DecisionDiagrams" "highs" "[I" (.ref bh) := u546.other W565 (Or.inr (slot_ne (Or.inl (hw _ (List.mem_of_getElem? (i := 15) rfl))) (Or.inl (hw _ (List.mem_of_getElem? (i := 18) rfl))) (by decide) (t := (.array .int)) (t' := (.array .double)) (by decide) (by decide)))
  have u571 : Fld Z h565 dd "com/example/horizonte/horizonte/dd/DecisionDiagrams" "values" "[D" (.ref bd) := u547.same W565
  have u572 : Fld Z h565 dd "com/example/horizonte/horizonte/dd/DecisionDiagrams" "terms" "Lcom/example/horizonte/horizonte/dd/Terms;" .null := u548.other W565 (Or.inr (slot_ne (Or.inr (hw _ (List.mem_of_getElem? (i := 81) rfl))) (Or.inl (hw _ (List.mem_of_getElem? (i := 18) rfl))) (by decide) (t := (.object "com/example/horizonte/horizonte/dd/Terms")) (t' := (.array .double)) (by decide) (by decide)))
  have u573 : Fld Z h565 dd "com/example/horizonte/horizonte/dd/DecisionDiagrams" "slots" "[I" .null := u549.other W565 (Or.inr (slot_ne (Or.inl (hw _ (List.mem_of_getElem? (i := 90) rfl))) (Or.inl (hw _ (List.mem_of_getElem? (i := 18) rfl))) (by decide) (t := (.array .int)) (t' := (.array .double)) (by decide) (by decide)))
  have u574 : Fld Z h565 dd "com/example/horizonte/horizonte/dd/DecisionDiagrams" "cachedCodes" "[I" .null := u550.other W565 (Or.inr (slot_ne (Or.inl (hw _ (List.mem_of_getElem? (i := 92) rfl))) (Or.inl (hw _ (List.mem_of_getElem? (i := 18) rfl))) (by decide) (t := (.array .int)) (t' := (.array .double)) (by decide) (by decide)))
  have u575 : Fld Z h565 dd "com/example/horizonte/horizonte/dd/DecisionDiagrams" "cachedFirsts" "[I" .null := u551.other W565 (Or.inr (slot_ne (Or.inl (hw _ (List.mem_of_getElem? (i := 94) rfl))) (Or.inl (hw _ (List.mem_of_getElem? (i := 18) rfl))) (by decide) (t := (.array .int)) (t' := (.array .double)) (by decide) (by decide)))
  have u576 : Fld Z h565 dd "com/example/horizonte/horizonte/dd/DecisionDiagrams" "cachedSeconds" "[I" .null := u552.other W565 (Or.inr (slot_ne (Or.inl (hw _ (List.mem_of_getElem? (i := 96) rfl))) (Or.inl (hw _ (List.mem_of_getElem? (i := 18) rfl))) (by decide) (t := (.array .int)) (t' := (.array .double)) (by decide) (by decide)))
  have u577 : Fld Z h565 dd "com/example/horizonte/horizonte/dd/DecisionDiagrams" "cachedThirds" "[I" .null := u553.other W565 (Or.inr (slot_ne (Or.inl (hw _ (List.mem_of_getElem? (i := 98) rfl))) (Or.inl (hw _ (List.mem_of_getElem? (i := 18) rfl))) (by decide) (t := (.array .int)) (t' := (.array .double)) (by decide) (by decide)))
  have u578 : Fld Z h565 dd "com/example/horizonte/horizonte/dd/DecisionDiagrams" "cachedResults" "[I" .null := u554.other W565 (Or.inr (slot_ne (Or.inl (hw _ (List.mem_of_getElem? (i := 100) rfl))) (Or.inl (hw _ (List.mem_of_getElem? (i := 18) rfl))) (by decide) (t := (.array .int)) (t' := (.array .double)) (by decide) (by decide)))
  have u579 : Fld Z h565 dd "com/example/horizonte/horizonte/dd/DecisionDiagrams" "weights" "[D" .null := u555.other W565 (Or.inr (slot_ne (Or.inl (hw _ (List.mem_of_getElem? (i := 102) rfl))) (Or.inl (hw _ (List.mem_of_getElem? (i := 18) rfl))) (by decide) (t := (.array .double)) (t' := (.array .double)) (by decide) (by decide)))
  have u580 : Fld Z h565 dd "com/example/horizonte/horizonte/dd/DecisionDiagrams" "weighed" "[I" .null := u556.other W565 (Or.inr (slot_ne (Or.inl (hw _ (List.mem_of_getElem? (i := 104) rfl))) (Or.inl (hw _ (List.mem_of_getElem? (i := 18) rfl))) (by decide) (t := (.array .int)) (t' := (.array .double)) (by decide) (by decide)))
  have u581 : Fld Z h565 dd "com/example/horizonte/horizonte/dd/DecisionDiagrams" "count" "I" (.int (0 : Int32)) := u557.other W565 (Or.inr (slot_ne (Or.inl (hw _ (List.mem_of_getElem? (i := 148) rfl))) (Or.inl (hw _ (List.mem_of_getElem? (i := 18) rfl))) (by decide) (t := .int) (t' := (.array .double)) (by decide) (by decide)))
  have u582 : Fld Z h565 dd "com/example/horizonte/horizonte/dd/DecisionDiagrams" "zero" "I" (.int (0 : Int32)) := u558.other W565 (Or.inr (slot_ne (Or.inr (hw _ (List.mem_of_getElem? (i := 150) rfl))) (Or.inl (hw _ (List.mem_of_getElem? (i := 18) rfl))) (by decide) (t := .int) (t' := (.array .double)) (by decide) (by decide)))
  have u583 : Fld Z h565 dd "com/example/horizonte/horizonte/dd/DecisionDiagrams" "one" "I" (.int (0 : Int32)) := u559.other W565 (Or.inr (slot_ne (Or.inr (hw _ (List.mem_of_getElem? (i := 152) rfl))) (Or.inl (hw _ (List.mem_of_getElem? (i := 18) rfl))) (by decide) (t := .int) (t' := (.array .double)) (by decide) (by decide)))
  have u584 : own_A Z h565 bv .int 1024 (fun _ => (.int 0)) := own_A_other u560 W565 (Ne.symm ne400)
  have u585 : own_A Z h565 bl .int 1024 (fun _ => (.int 0)) := own_A_other u561 W565 (Ne.symm ne443)
  have u586 : own_A Z h565 bh .int 1024 (fun _ => (.int 0)) := own_A_other u562 W565 (Ne.symm ne489)
  have u587 : own_A Z h565 bd .double 1024 (fun _ => (.double 0)) := own_A_other u564 W565 (Ne.symm ne538)
  have u588 : Keep h0 h565 [dd] := u563.wr W565 (Or.inl (List.mem_of_getElem? (i := 0) rfl))
  refine go (T565.setTop (mkF m 41 #[.val (.ref dd)] [(.ref dd)])) _ (fun t9 k9 => ?_) ?_
  · show Steps p.tables e below (T565.setTop (mkF m 40 #[.val (.ref dd)] [])) _
    refine XS.aloadN X565.here hx rfl (hb hby d1_40) rfl rfl ?_
    exact k9
  obtain ⟨T589, h589, X589, e589, E589, A589, D589, -, st589⟩ := newO X565 hx hZ hown (hw _ (List.mem_of_getElem? (i := 19) rfl)) (hw _ (List.mem_of_getElem? (i := 20) rfl)) (hw _ (List.mem_of_getElem? (i := 21) rfl)) e565 (g := (mkF m 41 #[.val (.ref dd)] [(.ref dd)])) rfl (hb hby d1_41) (by decide) (by decide)
  obtain ⟨bt, g589⟩ : ∃ z, z = h565.size := ⟨_, rfl⟩
  rw [← g589] at A589 D589 st589
  refine go (T589.setTop (mkF m 44 #[.val (.ref dd)] [(.ref bt), (.ref dd)])) _ (fun t9 k9 => st589 _ k9) ?_
  have ne590 : dd ≠ bt := Nat.ne_of_lt (Nat.lt_of_lt_of_le u566.lt (Nat.le_of_eq g589.symm))
  have ne591 : bv ≠ bt := Nat.ne_of_lt (Nat.lt_of_lt_of_le (own_A_lt u584) (Nat.le_of_eq g589.symm))
  have ne592 : bl ≠ bt := Nat.ne_of_lt (Nat.lt_of_lt_of_le (own_A_lt u585) (Nat.le_of_eq g589.symm))
  have ne593 : bh ≠ bt := Nat.ne_of_lt (Nat.lt_of_lt_of_le (own_A_lt u586) (Nat.le_of_eq g589.symm))
  have ne594 : bd ≠ bt := Nat.ne_of_lt (Nat.lt_of_lt_of_le (own_A_lt u587) (Nat.le_of_eq g589.symm))
  have sz_bt : h0.size ≤ bt := Nat.le_trans u588.1 (Nat.le_of_eq g589.symm)
  have g_bt : n0 ≤ bt := Nat.le_trans Z0 sz_bt
  have u595 : Exa Z h589 dd "com/example/horizonte/horizonte/dd/DecisionDiagrams" := u566.ext E589
  have u596 : Sta Z h589 "java/util/ArrayList" "DEFAULTCAPACITY_EMPTY_ELEMENTDATA" "[Ljava/lang/Object;" (.ref sa) := u567.ext E589
  have u597 : Fld Z h589 dd "com/example/horizonte/horizonte/dd/DecisionDiagrams" "variables" "[I" (.ref bv) := u568.ext E589
  have u598 : Fld Z h589 dd "com/example/horizonte/horizonte/dd/DecisionDiagrams" "lows" "[I" (.ref bl) := u569.ext E589
  have u599 : Fld Z h589 dd "com/example/horizonte/horizonte/dd/DecisionDiagrams" "highs" "[I" (.ref bh) := u570.ext E589
  have u600 : Fld Z h589 dd "com/example/horizonte/horizonte/dd/DecisionDiagrams" "values" "[D" (.ref bd) := u571.ext E589
  have u601 : Fld Z h589 dd "com/example/horizonte/horizonte/dd/DecisionDiagrams" "terms" "Lcom/example/horizonte/horizonte/dd/Terms;" .null := u572.ext E589
  have u602 : Fld Z h589 dd "com/example/horizonte/horizonte/dd/DecisionDiagrams" "slots" "[I" .null := u573.ext E589
  have u603 : Fld Z h589 dd "com/example/horizonte/horizonte/dd/DecisionDiagrams" "cachedCodes" "[I" .null := u574.ext E589
  have u604 : Fld Z h589 dd "com/example/horizonte/horizonte/dd/DecisionDiagrams" "cachedFirsts" "[I" .null := u575.ext E589
  have u605 : Fld Z h589 dd "com/example/horizonte/horizonte/dd/DecisionDiagrams" "cachedSeconds" "[I" .null := u576.ext E589
  have u606 : Fld Z h589 dd "com/example/horizonte/horizonte/dd/DecisionDiagrams" "cachedThirds" "[I" .null := u577.ext E589
  have u607 : Fld Z h589 dd "com/example/horizonte/horizonte/dd/DecisionDiagrams" "cachedResults" "[I" .null := u578.ext E589
  have u608 : Fld Z h589 dd "com/example/horizonte/horizonte/dd/DecisionDiagrams" "weights" "[D" .null := u579.ext E589
  have u609 : Fld Z h589 dd "com/example/horizonte/horizonte/dd/DecisionDiagrams" "weighed" "[I" .null := u580.ext E589
  have u610 : Fld Z h589 dd "com/example/horizonte/horizonte/dd/DecisionDiagrams" "count" "I" (.int (0 : Int32)) := u581.ext E589
  have u611 : Fld Z h589 dd "com/example/horizonte/horizonte/dd/DecisionDiagrams" "zero" "I" (.int (0 : Int32)) := u582.ext E589
  have u612 : Fld Z h589 dd "com/example/horizonte/horizonte/dd/DecisionDiagrams" "one" "I" (.int (0 : Int32)) := u583.ext E589
  have u613 : own_A Z h589 bv .int 1024 (fun _ => (.int 0)) := own_A_ext u584 E589
  have u614 : own_A Z h589 bl .int 1024 (fun _ => (.int 0)) := own_A_ext u585 E589
  have u615 : own_A Z h589 bh .int 1024 (fun _ => (.int 0)) := own_A_ext u586 E589
  have u616 : own_A Z h589 bd .double 1024 (fun _ => (.double 0)) := own_A_ext u587 E589
  have u617 : Keep h0 h589 [dd] := u588.ext E589
  have u618 : Fld Z h589 bt "com/example/horizonte/horizonte/dd/Terms" "linears" "Ljava/util/List;" .null := D589 (Or.inr (hw _ (List.mem_of_getElem? (i := 51) rfl))) (ty := (.object "java/util/List")) (by decide)
  have u619 : Fld Z h589 bt "com/example/horizonte/horizonte/dd/Terms" "quadratics" "Ljava/util/List;" .null := D589 (Or.inr (hw _ (List.mem_of_getElem? (i := 53) rfl))) (ty := (.object "java/util/List")) (by decide)
  have u620 : Fld Z h589 bt "com/example/horizonte/horizonte/dd/Terms" "spans" "Ljava/util/List;" .null := D589 (Or.inr (hw _ (List.mem_of_getElem? (i := 55) rfl))) (ty := (.object "java/util/List")) (by decide)
  have u621 : Fld Z h589 bt "com/example/horizonte/horizonte/dd/Terms" "terms" "Ljava/util/Map;" .null := D589 (Or.inr (hw _ (List.mem_of_getElem? (i := 73) rfl))) (ty := (.object "java/util/Map")) (by decide)
  have u622 : Fld Z h589 bt "com/example/horizonte/horizonte/dd/Terms" "units" "[I" .null := D589 (Or.inl (hw _ (List.mem_of_getElem? (i := 75) rfl))) (ty := (.array .int)) (by decide)
  have u623 : Fld Z h589 bt "com/example/horizonte/horizonte/dd/Terms" "tests" "Ljava/util/List;" .null := D589 (Or.inr (hw _ (List.mem_of_getElem? (i := 77) rfl))) (ty := (.object "java/util/List")) (by decide)
  have u624 : Fld Z h589 bt "com/example/horizonte/horizonte/dd/Terms" "testNumbers" "Ljava/util/Map;" .null := D589 (Or.inr (hw _ (List.mem_of_getElem? (i := 79) rfl))) (ty := (.object "java/util/Map")) (by decide)
  refine go (T589.setTop (mkF m 45 #[.val (.ref dd)] [(.ref bt), (.ref bt), (.ref dd)])) _ (fun t9 k9 => ?_) ?_
  · show Steps p.tables e below (T589.setTop (mkF m 44 #[.val (.ref dd)] [(.ref bt), (.ref dd)])) _
    refine XS.dup X589.here hx rfl (hb hby d1_44) rfl rfl ?_
    exact k9
  obtain ⟨_, _, ⟨T625, L625, k625, n625⟩, -, X625, ⟨Lc625, hQ625, l625, y625, z625⟩, st625⟩ := X589.specialBack hx (y := (⟨"com/example/horizonte/horizonte/dd/Terms", "<init>", "()V"⟩ : MethodName)) rfl hown (mvT hZ (hw _ (List.mem_of_getElem? (i := 22) rfl))) (mvT hZ (hw _ (List.mem_of_getElem? (i := 23) rfl))) (mvT hZ (hw _ (List.mem_of_getElem? (i := 24) rfl))) (by decide) (backOf (W := 2) (rm3 l Z a0 hw [] bt sa h589 n0 (Nat.le_trans Z0 u617.1) A589 u618 u619 u620 u621 u622 u623 u624 u596 g_bt) hZ (hw _ (List.mem_of_getElem? (i := 24) rfl)) (hw _ (List.mem_of_getElem? (i := 21) rfl)) (by decide) (by decide)) (g := (mkF m 45 #[.val (.ref dd)] [(.ref bt), (.ref bt), (.ref dd)])) rfl (by rw [hml]; rfl) (Steps.refl _) (a := bt) (argsL := []) (rest := [(.ref bt), (.ref dd)]) (lenOf pd__28_29V rfl) rfl (by show 2 * 0 + _ ≤ _; exact Nat.le_of_eq rfl) (hb hby d1_45) (fun _ _ => ⟨rfl, e589, (by decide : 5 + 7 ≤ _), (by decide : 4103 + 28 ≤ _)⟩)
  dsimp only [Pt.U, Pt.locs, Pt.cells, Pt.slots] at X625 l625 y625 z625 st625 hQ625
  subst l625 y625 z625
  obtain ⟨rfl, N625q, K625q⟩ := hQ625
  have N625 := Fr.app N565 N625q
  refine go (T625.setTop (mkF m 48 #[.val (.ref dd)] [(.ref bt), (.ref dd)])) _ (fun t9 k9 => st625.trans k9) ?_
  have u626 : Exa Z T625.heap dd "com/example/horizonte/horizonte/dd/DecisionDiagrams" := u595.keep K625q
  have u627 : Sta Z T625.heap "java/util/ArrayList" "DEFAULTCAPACITY_EMPTY_ELEMENTDATA" "[Ljava/lang/Object;" (.ref sa) := own_sta u596 K625q (nsS A589.nostat ns0)
  have u628 : Fld Z T625.heap dd "com/example/horizonte/horizonte/dd/DecisionDiagrams" "variables" "[I" (.ref bv) := u597.keep K625q (ninS ne590 nin0)
  have u629 : Fld Z T625.heap dd "com/example/horizonte/horizonte/dd/DecisionDiagrams" "lows" "[I" (.ref bl) := u598.keep K625q (ninS ne590 nin0)
  have u630 : Fld Z T625.heap dd "com/example/horizonte/horizonte/dd/DecisionDiagrams" "highs" "[I" (.ref bh) := u599.keep K625q (ninS ne590 nin0)
  have u631 : Fld Z T625.heap dd "com/example/horizonte/horizonte/dd/DecisionDiagrams" "values" "[D" (.ref bd) := u600.keep K625q (ninS ne590 nin0)
  have u632 : Fld Z T625.heap dd "com/example/horizonte/horizonte/dd/DecisionDiagrams" "terms" "Lcom/example/horizonte/horizonte/dd/Terms;" .null := u601.keep K625q (ninS ne590 nin0)
  have u633 : Fld Z T625.heap dd "com/example/horizonte/horizonte/dd/DecisionDiagrams" "slots" "[I" .null := u602.keep K625q (ninS ne590 nin0)
  have u634 : Fld Z T625.heap dd "com/example/horizonte/horizonte/dd/DecisionDiagrams" "cachedCodes" "[I" .null := u603.keep K625q (ninS ne590 nin0)
  have u635 : Fld Z T625.heap dd "com/example/horizonte/horizonte/dd/DecisionDiagrams" "cachedFirsts" "[I" .null := u604.keep K625q (ninS ne590 nin0)
  have u636 : Fld Z T625.heap dd "com/example/horizonte/horizonte/dd/DecisionDiagrams" "cachedSeconds" "[I" .null := u605.keep K625q (ninS ne590 nin0)
  have u637 : Fld Z T625.heap dd "com/example/horizonte/horizonte/dd/DecisionDiagrams" "cachedThirds" "[I" .null := u606.keep K625q (ninS ne590 nin0)
  have u638 : Fld Z T625.heap dd "com/example/horizonte/horizonte/dd/DecisionDiagrams" "cachedResults" "[I" .null := u607.keep K625q (ninS ne590 nin0)
  have u639 : Fld Z T625.heap dd "com/example/horizonte/horizonte/dd/DecisionDiagrams" "weights" "[D" .null := u608.keep K625q (ninS ne590 nin0)
  have u640 : Fld Z T625.heap dd "com/example/horizonte/horizonte/dd/DecisionDiagrams" "weighed" "[I" .null := u609.keep K625q (ninS ne590 nin0)
  have u641 : Fld Z T625.heap dd "com/example/horizonte/horizonte/dd/DecisionDiagrams" "count" "I" (.int (0 : Int32)) := u610.keep K625q (ninS ne590 nin0)
  have u642 : Fld Z T625.heap dd "com/example/horizonte/horizonte/dd/DecisionDiagrams" "zero" "I" (.int (0 : Int32)) := u611.keep K625q (ninS ne590 nin0)
  have u643 : Fld Z T625.heap dd "com/example/horizonte/horizonte/dd/DecisionDiagrams" "one" "I" (.int (0 : Int32)) := u612.keep K625q (ninS ne590 nin0)
  have u644 : own_A Z T625.heap bv .int 1024 (fun _ => (.int 0)) := own_A_keep u613 K625q (ninS ne591 nin0)
  have u645 : own_A Z T625.heap bl .int 1024 (fun _ => (.int 0)) := own_A_keep u614 K625q (ninS ne592 nin0)
  have u646 : own_A Z T625.heap bh .int 1024 (fun _ => (.int 0)) := own_A_keep u615 K625q (ninS ne593 nin0)
  have u647 : own_A Z T625.heap bd .double 1024 (fun _ => (.double 0)) := own_A_keep u616 K625q (ninS ne594 nin0)
  have u648 : Exa Z T625.heap bt "com/example/horizonte/horizonte/dd/Terms" := A589.keep K625q
  have u649 : Keep h0 T625.heap [dd] := u617.trans K625q (allS (Or.inr sz_bt) all0)
  obtain ⟨T650, h650, X650, e650, W650, st650⟩ := putF X625 hx hZ hown (host := "") (Or.inl (hw _ (List.mem_of_getElem? (i := 80) rfl))) Via.refl rfl u632 u626 (Or.inr ⟨(hw _ (List.mem_of_getElem? (i := 81) rfl)), rfl, hnm⟩) (hw _ (List.mem_of_getElem? (i := 1) rfl)) (ty := (.object "com/example/horizonte/horizonte/dd/Terms")) (by decide) rfl rfl (g := (mkF m 48 #[.val (.ref dd)] [(.ref bt), (.ref dd)])) rfl rfl (hb hby d1_48)
  have N650 := Fr.snoc X650 N625 g_dd
  refine go (T650.setTop (mkF m 51 #[.val (.ref dd)] [])) _ (fun t9 k9 => st650 _ k9) ?_
  have u651 : Exa Z h650 dd "com/example/horizonte/horizonte/dd/DecisionDiagrams" := u626.wr W650
  have u652 : Fld Z h650 dd "com/example/horizonte/horizonte/dd/DecisionDiagrams" "variables" "[I" (.ref bv) := u628.other W650 (Or.inr (slot_ne (Or.inl (hw _ (List.mem_of_getElem? (i := 11) rfl))) (Or.inr (hw _ (List.mem_of_getElem? (i := 81) rfl))) (by decide) (t := (.array .int)) (t' := (.object "com/example/horizonte/horizonte/dd/Terms")) (by decide) (by decide)))
  have u653 : Fld Z h650 dd "com/example/horizonte/horizonte/dd/DecisionDiagrams" "lows" "[I" (.ref bl) := u629.other W650 (Or.inr (slot_ne (Or.inl (hw _ (List.mem_of_getElem? (i := 13) rfl))) (Or.inr (hw _ (List.mem_of_getElem? (i := 81) rfl))) (by decide) (t := (.array .int)) (t' := (.object "com/example/horizonte/horizonte/dd/Terms")) (by decide) (by decide)))
  have u654 : Fld Z h650 dd "com/example/horizonte/horizonte/dd/DecisionDiagrams" "highs" "[I" (.ref bh) := u630.other W650 (Or.inr (slot_ne (Or.inl (hw _ (List.mem_of_getElem? (i := 15) rfl))) (Or.inr (hw _ (List.mem_of_getElem? (i := 81) rfl))) (by decide) (t := (.array .int)) (t' := (.object "com/example/horizonte/horizonte/dd/Terms")) (by decide) (by decide)))
  have u655 : Fld Z h650 dd "com/example/horizonte/horizonte/dd/DecisionDiagrams" "values" "[D" (.ref bd) := u631.other W650 (Or.inr (slot_ne (Or.inl (hw _ (List.mem_of_getElem? (i := 18) rfl))) (Or.inr (hw _ (List.mem_of_getElem? (i := 81) rfl))) (by decide) (t := (.array .double)) (t' := (.object "com/example/horizonte/horizonte/dd/Terms")) (by decide) (by decide)))
  have u656 : Fld Z h650 dd "com/example/horizonte/horizonte/dd/DecisionDiagrams" "terms" "Lcom/example/horizonte/horizonte/dd/Terms;" (.ref bt) := u632.same W650
  have u657 : Fld Z h650 dd "com/example/horizonte/horizonte/dd/DecisionDiagrams" "slots" "[I" .null := u633.other W650 (Or.inr (slot_ne (Or.inl (hw _ (List.mem_of_getElem? (i := 90) rfl))) (Or.inr (hw _ (List.mem_of_getElem? (i := 81) rfl))) (by decide) (t := (.array .int)) (t' := (.object "com/example/horizonte/horizonte/dd/Terms")) (by decide) (by decide)))
  have u658 : Fld Z h650 dd "com/example/horizonte/horizonte/dd/DecisionDiagrams" "cachedCodes" "[I" .null := u634.other W650 (Or.inr (slot_ne (Or.inl (hw _ (List.mem_of_getElem? (i := 92) rfl))) (Or.inr (hw _ (List.mem_of_getElem? (i := 81) rfl))) (by decide) (t := (.array .int)) (t' := (.object "com/example/horizonte/horizonte/dd/Terms")) (by decide) (by decide)))
  have u659 : Fld Z h650 dd "com/example/horizonte/horizonte/dd/DecisionDiagrams" "cachedFirsts" "[I" .null := u635.other W650 (Or.inr (slot_ne (Or.inl (hw _ (List.mem_of_getElem? (i := 94) rfl))) (Or.inr (hw _ (List.mem_of_getElem? (i := 81) rfl))) (by decide) (t := (.array .int)) (t' := (.object "com/example/horizonte/horizonte/dd/Terms")) (by decide) (by decide)))
  have u660 : Fld Z h650 dd "com/example/horizonte/horizonte/dd/DecisionDiagrams" "cachedSeconds" "[I" .null := u636.other W650 (Or.inr (slot_ne (Or.inl (hw _ (List.mem_of_getElem? (i := 96) rfl))) (Or.inr (hw _ (List.mem_of_getElem? (i := 81) rfl))) (by decide) (t := (.array .int)) (t' := (.object "com/example/horizonte/horizonte/dd/Terms")) (by decide) (by decide)))
  have u661 : Fld Z h650 dd "com/example/horizonte/horizonte/dd/DecisionDiagrams" "cachedThirds" "[I" .null := u637.other W650 (Or.inr (slot_ne (Or.inl (hw _ (List.mem_of_getElem? (i := 98) rfl))) (Or.inr (hw _ (List.mem_of_getElem? (i := 81) rfl))) (by decide) (t := (.array .int)) (t' := (.object "com/example/horizonte/horizonte/dd/Terms")) (by decide) (by decide)))
  have u662 : Fld Z h650 dd "com/example/horizonte/horizonte/dd/DecisionDiagrams" "cachedResults" "[I" .null := u638.other W650 (Or.inr (slot_ne (Or.inl (hw _ (List.mem_of_getElem? (i := 100) rfl))) (Or.inr (hw _ (List.mem_of_getElem? (i := 81) rfl))) (by decide) (t := (.array .int)) (t' := (.object "com/example/horizonte/horizonte/dd/Terms")) (by decide) (by decide)))
  have u663 : Fld Z h650 dd "com/example/horizonte/horizonte/dd/DecisionDiagrams" "weights" "[D" .null := u639.other W650 (Or.inr (slot_ne (Or.inl (hw _ (List.mem_of_getElem? (i := 102) rfl))) (Or.inr (hw _ (List.mem_of_getElem? (i := 81) rfl))) (by decide) (t := (.array .double)) (t' := (.object "com/example/horizonte/horizonte/dd/Terms")) (by decide) (by decide)))
  have u664 : Fld Z h650 dd "com/example/horizonte/horizonte/dd/DecisionDiagrams" "weighed" "[I" .null := u640.other W650 (Or.inr (slot_ne (Or.inl (hw _ (List.mem_of_getElem? (i := 104) rfl))) (Or.inr (hw _ (List.mem_of_getElem? (i := 81) rfl))) (by decide) (t := (.array .int)) (t' := (.object "com/example/horizonte/horizonte/dd/Terms")) (by decide) (by decide)))
  have u665 : Fld Z h650 dd "com/example/horizonte/horizonte/dd/DecisionDiagrams" "count" "I" (.int (0 : Int32)) := u641.other W650 (Or.inr (slot_ne (Or.inl (hw _ (List.mem_of_getElem? (i := 148) rfl))) (Or.inr (hw _ (List.mem_of_getElem? (i := 81) rfl))) (by decide) (t := .int) (t' := (.object "com/example/horizonte/horizonte/dd/Terms")) (by decide) (by decide)))
  have u666 : Fld Z h650 dd "com/example/horizonte/horizonte/dd/DecisionDiagrams" "zero" "I" (.int (0 : Int32)) := u642.other W650 (Or.inr (slot_ne (Or.inr (hw _ (List.mem_of_getElem? (i := 150) rfl))) (Or.inr (hw _ (List.mem_of_getElem? (i := 81) rfl))) (by decide) (t := .int) (t' := (.object "com/example/horizonte/horizonte/dd/Terms")) (by decide) (by decide)))
  have u667 : Fld Z h650 dd "com/example/horizonte/horizonte/dd/DecisionDiagrams" "one" "I" (.int (0 : Int32)) := u643.other W650 (Or.inr (slot_ne (Or.inr (hw _ (List.mem_of_getElem? (i := 152) rfl))) (Or.inr (hw _ (List.mem_of_getElem? (i := 81) rfl))) (by decide) (t := .int) (t' := (.object "com/example/horizonte/horizonte/dd/Terms")) (by decide) (by decide)))
  have u668 : own_A Z h650 bv .int 1024 (fun _ => (.int 0)) := own_A_other u644 W650 (Ne.symm ne400)
  have u669 : own_A Z h650 bl .int 1024 (fun _ => (.int 0)) := own_A_other u645 W650 (Ne.symm ne443)
  have u670 : own_A Z h650 bh .int 1024 (fun _ => (.int 0)) := own_A_other u646 W650 (Ne.symm ne489)
  have u671 : own_A Z h650 bd .double 1024 (fun _ => (.double 0)) := own_A_other u647 W650 (Ne.symm ne538)
  have u672 : Keep h0 h650 [dd] := u649.wr W650 (Or.inl (List.mem_of_getElem? (i := 0) rfl))
  refine go (T650.setTop (mkF m 55 #[.val (.ref dd)] [(.int (2048 : Int32)), (.ref dd)])) _ (fun t9 k9 => ?_) ?_
  · show Steps p.tables e below (T650.setTop (mkF m 51 #[.val (.ref dd)] [])) _
    refine XS.aloadN X650.here hx rfl (hb hby d1_51) rfl rfl ?_
    show Steps p.tables e below (T650.setTop (mkF m 52 #[.val (.ref dd)] [(.ref dd)])) _
    refine XS.sipush X650.here hx rfl (hb hby d1_52) ?_
    exact k9
  obtain ⟨_, _, ⟨T673, L673, k673, n673⟩, -, X673, ⟨Lc673, hQ673, l673, y673, z673⟩, st673⟩ := Jvm.LawKit.callS X650 hx (y := (⟨"com/example/horizonte/horizonte/dd/DecisionDiagrams", "filled", "(I)[I"⟩ : MethodName)) hown (mvT hZ (hw _ (List.mem_of_getElem? (i := 82) rfl))) (mvT hZ (hw _ (List.mem_of_getElem? (i := 83) rfl))) (mvT hZ (hw _ (List.mem_of_getElem? (i := 2) rfl))) (mvT hZ (hw _ (List.mem_of_getElem? (i := 84) rfl))) (by decide) (backOf (W := 1) (rm9 l Z a0 hw [] 2048 (by decide) h650 n0 (Nat.le_trans Z0 u672.1)) hZ (hw _ (List.mem_of_getElem? (i := 84) rfl)) (hw _ (List.mem_of_getElem? (i := 2) rfl)) (by decide) (by decide)) (g := (mkF m 55 #[.val (.ref dd)] [(.int (2048 : Int32)), (.ref dd)])) rfl (by rw [hml]; rfl) (argsL := [(.int (2048 : Int32))]) (rest := [(.ref dd)]) (lenOf pd__28I_29_5bI rfl) rfl (by show 2 * 0 + _ ≤ _; exact Nat.le_of_eq rfl) (hb hby d1_55) (fun _ _ => ⟨rfl, e650, (by decide : 12 + 1 ≤ _), (by decide : 4131 + 2048 ≤ _)⟩)
  dsimp only [Pt.U, Pt.locs, Pt.cells, Pt.slots] at X673 l673 y673 z673 st673 hQ673
  subst l673 y673 z673
  obtain ⟨bs, rfl, N673q, K673q, V673q, S673q⟩ := hQ673
  have N673 := Fr.app N650 N673q
  refine go (T673.setTop (mkF m 58 #[.val (.ref dd)] [(.ref bs), (.ref dd)])) _ (fun t9 k9 => st673 _ k9) ?_
  have ne674 : dd ≠ bs := Nat.ne_of_lt (Nat.lt_of_lt_of_le u651.lt S673q)
  have ne675 : bv ≠ bs := Nat.ne_of_lt (Nat.lt_of_lt_of_le (own_A_lt u668) S673q)
  have ne676 : bl ≠ bs := Nat.ne_of_lt (Nat.lt_of_lt_of_le (own_A_lt u669) S673q)
  have ne677 : bh ≠ bs := Nat.ne_of_lt (Nat.lt_of_lt_of_le (own_A_lt u670) S673q)
  have ne678 : bd ≠ bs := Nat.ne_of_lt (Nat.lt_of_lt_of_le (own_A_lt u671) S673q)
  have sz_bs : h0.size ≤ bs := Nat.le_trans u672.1 S673q
  have g_bs : n0 ≤ bs := Nat.le_trans Z0 sz_bs
  have u679 : Exa Z T673.heap dd "com/example/horizonte/horizonte/dd/DecisionDiagrams" := u651.keep K673q
  have u680 : Fld Z T673.heap dd "com/example/horizonte/horizonte/dd/DecisionDiagrams" "variables" "[I" (.ref bv) := u652.keep K673q nin0
  have u681 : Fld Z T673.heap dd "com/example/horizonte/horizonte/dd/DecisionDiagrams" "lows" "[I" (.ref bl) := u653.keep K673q nin0
  have u682 : Fld Z T673.heap dd "com/example/horizonte/horizonte/dd/DecisionDiagrams" "highs" "[I" (.ref bh) := u654.keep K673q nin0
  have u683 : Fld Z T673.heap dd "com/example/horizonte/horizonte/dd/DecisionDiagrams" "values" "[D" (.ref bd) := u655.keep K673q nin0
  have u684 : Fld Z T673.heap dd "com/example/horizonte/horizonte/dd/DecisionDiagrams" "slots" "[I" .null := u657.keep K673q nin0
  have u685 : Fld Z T673.heap dd "com/example/horizonte/horizonte/dd/DecisionDiagrams" "cachedCodes" "[I" .null := u658.keep K673q nin0
  have u686 : Fld Z T673.heap dd "com/example/horizonte/horizonte/dd/DecisionDiagrams" "cachedFirsts" "[I" .null := u659.keep K673q nin0
  have u687 : Fld Z T673.heap dd "com/example/horizonte/horizonte/dd/DecisionDiagrams" "cachedSeconds" "[I" .null := u660.keep K673q nin0
  have u688 : Fld Z T673.heap dd "com/example/horizonte/horizonte/dd/DecisionDiagrams" "cachedThirds" "[I" .null := u661.keep K673q nin0
  have u689 : Fld Z T673.heap dd "com/example/horizonte/horizonte/dd/DecisionDiagrams" "cachedResults" "[I" .null := u662.keep K673q nin0
  have u690 : Fld Z T673.heap dd "com/example/horizonte/horizonte/dd/DecisionDiagrams" "weights" "[D" .null := u663.keep K673q nin0
  have u691 : Fld Z T673.heap dd "com/example/horizonte/horizonte/dd/DecisionDiagrams" "weighed" "[I" .null := u664.keep K673q nin0
  have u692 : Fld Z T673.heap dd "com/example/horizonte/horizonte/dd/DecisionDiagrams" "count" "I" (.int (0 : Int32)) := u665.keep K673q nin0
  have u693 : Fld Z T673.heap dd "com/example/horizonte/horizonte/dd/DecisionDiagrams" "zero" "I" (.int (0 : Int32)) := u666.keep K673q nin0
  have u694 : Fld Z T673.heap dd "com/example/horizonte/horizonte/dd/DecisionDiagrams" "one" "I" (.int (0 : Int32)) := u667.keep K673q nin0
  have u695 : own_A Z T673.heap bv .int 1024 (fun _ => (.int 0)) := own_A_keep u668 K673q nin0
  have u696 : own_A Z T673.heap bl .int 1024 (fun _ => (.int 0)) := own_A_keep u669 K673q nin0
  have u697 : own_A Z T673.heap bh .int 1024 (fun _ => (.int 0)) := own_A_keep u670 K673q nin0
  have u698 : own_A Z T673.heap bd .double 1024 (fun _ => (.double 0)) := own_A_keep u671 K673q nin0
  have u699 : Keep h0 T673.heap [dd] := u672.trans K673q all0
  obtain ⟨T700, h700, X700, e700, W700, st700⟩ := putF X673 hx hZ hown (host := "") (Or.inl (hw _ (List.mem_of_getElem? (i := 89) rfl))) Via.refl rfl u684 u679 (Or.inl (hw _ (List.mem_of_getElem? (i := 90) rfl))) (hw _ (List.mem_of_getElem? (i := 1) rfl)) (ty := (.array .int)) (by decide) rfl rfl (g := (mkF m 58 #[.val (.ref dd)] [(.ref bs), (.ref dd)])) rfl rfl (hb hby d1_58)
  have N700 := Fr.snoc X700 N673 g_dd
  refine go (T700.setTop (mkF m 61 #[.val (.ref dd)] [])) _ (fun t9 k9 => st700 _ k9) ?_
  have u701 : Exa Z h700 dd "com/example/horizonte/horizonte/dd/DecisionDiagrams" := u679.wr W700
  have u702 : Fld Z h700 dd "com/example/horizonte/horizonte/dd/DecisionDiagrams" "variables" "[I" (.ref bv) := u680.other W700 (Or.inr (slot_ne (Or.inl (hw _ (List.mem_of_getElem? (i := 11) rfl))) (Or.inl (hw _ (List.mem_of_getElem? (i := 90) rfl))) (by decide) (t := (.array .int)) (t' := (.array .int)) (by decide) (by decide)))
  have u703 : Fld Z h700 dd "com/example/horizonte/horizonte/dd/DecisionDiagrams" "lows" "[I" (.ref bl) := u681.other W700 (Or.inr (slot_ne (Or.inl (hw _ (List.mem_of_getElem? (i := 13) rfl))) (Or.inl (hw _ (List.mem_of_getElem? (i := 90) rfl))) (by decide) (t := (.array .int)) (t' := (.array .int)) (by decide) (by decide)))
  have u704 : Fld Z h700 dd "com/example/horizonte/horizonte/dd/DecisionDiagrams" "highs" "[I" (.ref bh) := u682.other W700 (Or.inr (slot_ne (Or.inl (hw _ (List.mem_of_getElem? (i := 15) rfl))) (Or.inl (hw _ (List.mem_of_getElem? (i := 90) rfl))) (by decide) (t := (.array .int)) (t' := (.array .int)) (by decide) (by decide)))
  have u705 : Fld Z h700 dd "com/example/horizonte/horizonte/dd/DecisionDiagrams" "values" "[D" (.ref bd) := u683.other W700 (Or.inr (slot_ne (Or.inl (hw _ (List.mem_of_getElem? (i := 18) rfl))) (Or.inl (hw _ (List.mem_of_getElem? (i := 90) rfl))) (by decide) (t := (.array .double)) (t' := (.array .int)) (by decide) (by decide)))
  have u706 : Fld Z h700 dd "com/example/horizonte/horizonte/dd/DecisionDiagrams" "slots" "[I" (.ref bs) := u684.same W700
  have u707 : Fld Z h700 dd "com/example/horizonte/horizonte/dd/DecisionDiagrams" "cachedCodes" "[I" .null := u685.other W700 (Or.inr (slot_ne (Or.inl (hw _ (List.mem_of_getElem? (i := 92) rfl))) (Or.inl (hw _ (List.mem_of_getElem? (i := 90) rfl))) (by decide) (t := (.array .int)) (t' := (.array .int)) (by decide) (by decide)))
  have u708 : Fld Z h700 dd "com/example/horizonte/horizonte/dd/DecisionDiagrams" "cachedFirsts" "[I" .null := u686.other W700 (Or.inr (slot_ne (Or.inl (hw _ (List.mem_of_getElem? (i := 94) rfl))) (Or.inl (hw _ (List.mem_of_getElem? (i := 90) rfl))) (by decide) (t := (.array .int)) (t' := (.array .int)) (by decide) (by decide)))
  have u709 : Fld Z h700 dd "com/example/horizonte/horizonte/dd/DecisionDiagrams" "cachedSeconds" "[I" .null := u687.other W700 (Or.inr (slot_ne (Or.inl (hw _ (List.mem_of_getElem? (i := 96) rfl))) (Or.inl (hw _ (List.mem_of_getElem? (i := 90) rfl))) (by decide) (t := (.array .int)) (t' := (.array .int)) (by decide) (by decide)))
  have u710 : Fld Z h700 dd "com/example/horizonte/horizonte/dd/DecisionDiagrams" "cachedThirds" "[I" .null := u688.other W700 (Or.inr (slot_ne (Or.inl (hw _ (List.mem_of_getElem? (i := 98) rfl))) (Or.inl (hw _ (List.mem_of_getElem? (i := 90) rfl))) (by decide) (t := (.array .int)) (t' := (.array .int)) (by decide) (by decide)))
  have u711 : Fld Z h700 dd "com/example/horizonte/horizonte/dd/DecisionDiagrams" "cachedResults" "[I" .null := u689.other W700 (Or.inr (slot_ne (Or.inl (hw _ (List.mem_of_getElem? (i := 100) rfl))) (Or.inl (hw _ (List.mem_of_getElem? (i := 90) rfl))) (by decide) (t := (.array .int)) (t' := (.array .int)) (by decide) (by decide)))
  have u712 : Fld Z h700 dd "com/example/horizonte/horizonte/dd/DecisionDiagrams" "weights" "[D" .null := u690.other W700 (Or.inr (slot_ne (Or.inl (hw _ (List.mem_of_getElem? (i := 102) rfl))) (Or.inl (hw _ (List.mem_of_getElem? (i := 90) rfl))) (by decide) (t := (.array .double)) (t' := (.array .int)) (by decide) (by decide)))
  have u713 : Fld Z h700 dd "com/example/horizonte/horizonte/dd/DecisionDiagrams" "weighed" "[I" .null := u691.other W700 (Or.inr (slot_ne (Or.inl (hw _ (List.mem_of_getElem? (i := 104) rfl))) (Or.inl (hw _ (List.mem_of_getElem? (i := 90) rfl))) (by decide) (t := (.array .int)) (t' := (.array .int)) (by decide) (by decide)))
  have u714 : Fld Z h700 dd "com/example/horizonte/horizonte/dd/DecisionDiagrams" "count" "I" (.int (0 : Int32)) := u692.other W700 (Or.inr (slot_ne (Or.inl (hw _ (List.mem_of_getElem? (i := 148) rfl))) (Or.inl (hw _ (List.mem_of_getElem? (i := 90) rfl))) (by decide) (t := .int) (t' := (.array .int)) (by decide) (by decide)))
  have u715 : Fld Z h700 dd "com/example/horizonte/horizonte/dd/DecisionDiagrams" "zero" "I" (.int (0 : Int32)) := u693.other W700 (Or.inr (slot_ne (Or.inr (hw _ (List.mem_of_getElem? (i := 150) rfl))) (Or.inl (hw _ (List.mem_of_getElem? (i := 90) rfl))) (by decide) (t := .int) (t' := (.array .int)) (by decide) (by decide)))
  have u716 : Fld Z h700 dd "com/example/horizonte/horizonte/dd/DecisionDiagrams" "one" "I" (.int (0 : Int32)) := u694.other W700 (Or.inr (slot_ne (Or.inr (hw _ (List.mem_of_getElem? (i := 152) rfl))) (Or.inl (hw _ (List.mem_of_getElem? (i := 90) rfl))) (by decide) (t := .int) (t' := (.array .int)) (by decide) (by decide)))
  have u717 : own_A Z h700 bv .int 1024 (fun _ => (.int 0)) := own_A_other u695 W700 (Ne.symm ne400)
  have u718 : own_A Z h700 bl .int 1024 (fun _ => (.int 0)) := own_A_other u696 W700 (Ne.symm ne443)
  have u719 : own_A Z h700 bh .int 1024 (fun _ => (.int 0)) := own_A_other u697 W700 (Ne.symm ne489)
  have u720 : own_A Z h700 bd .double 1024 (fun _ => (.double 0)) := own_A_other u698 W700 (Ne.symm ne538)
  have u721 : own_A Z h700 bs .int 2048 (fun _ => .int (-1)) := own_A_other V673q W700 (Ne.symm ne674)
  have u722 : Keep h0 h700 [dd] := u699.wr W700 (Or.inl (List.mem_of_getElem? (i := 0) rfl))
  refine go (T700.setTop (mkF m 65 #[.val (.ref dd)] [(.int (1024 : Int32)), (.ref dd)])) _ (fun t9 k9 => ?_) ?_
  · show Steps p.tables e below (T700.setTop (mkF m 61 #[.val (.ref dd)] [])) _
    refine XS.aloadN X700.here hx rfl (hb hby d1_61) rfl rfl ?_
    show Steps p.tables e below (T700.setTop (mkF m 62 #[.val (.ref dd)] [(.ref dd)])) _
    refine XS.sipush X700.here hx rfl (hb hby d1_62) ?_
    exact k9
  obtain ⟨_, _, ⟨T723, L723, k723, n723⟩, -, X723, ⟨Lc723, hQ723, l723, y723, z723⟩, st723⟩ := Jvm.LawKit.callS X700 hx (y := (⟨"com/example/horizonte/horizonte/dd/DecisionDiagrams", "filled", "(I)[I"⟩ : MethodName)) hown (mvT hZ (hw _ (List.mem_of_getElem? (i := 82) rfl))) (mvT hZ (hw _ (List.mem_of_getElem? (i := 83) rfl))) (mvT hZ (hw _ (List.mem_of_getElem? (i := 2) rfl))) (mvT hZ (hw _ (List.mem_of_getElem? (i := 84) rfl))) (by decide) (backOf (W := 1) (rm9 l Z a0 hw [] 1024 (by decide) h700 n0 (Nat.le_trans Z0 u722.1)) hZ (hw _ (List.mem_of_getElem? (i := 84) rfl)) (hw _ (List.mem_of_getElem? (i := 2) rfl)) (by decide) (by decide)) (g := (mkF m 65 #[.val (.ref dd)] [(.int (1024 : Int32)), (.ref dd)])) rfl (by rw [hml]; rfl) (argsL := [(.int (1024 : Int32))]) (rest := [(.ref dd)]) (lenOf pd__28I_29_5bI rfl) rfl (by show 2 * 0 + _ ≤ _; exact Nat.le_of_eq rfl) (hb hby d1_65) (fun _ _ => ⟨rfl, e700, (by decide : 13 + 1 ≤ _), (by decide : 6179 + 2048 ≤ _)⟩)
  dsimp only [Pt.U, Pt.locs, Pt.cells, Pt.slots] at X723 l723 y723 z723 st723 hQ723
  subst l723 y723 z723
  obtain ⟨b6, rfl, N723q, K723q, V723q, S723q⟩ := hQ723
  have N723 := Fr.app N700 N723q
  refine go (T723.setTop (mkF m 68 #[.val (.ref dd)] [(.ref b6), (.ref dd)])) _ (fun t9 k9 => st723 _ k9) ?_
  have u724 : Exa Z T723.heap dd "com/example/horizonte/horizonte/dd/DecisionDiagrams" := u701.keep K723q
  have u725 : Fld Z T723.heap dd "com/example/horizonte/horizonte/dd/DecisionDiagrams" "variables" "[I" (.ref bv) := u702.keep K723q nin0
  have u726 : Fld Z T723.heap dd "com/example/horizonte/horizonte/dd/DecisionDiagrams" "lows" "[I" (.ref bl) := u703.keep K723q nin0
  have u727 : Fld Z T723.heap dd "com/example/horizonte/horizonte/dd/DecisionDiagrams" "highs" "[I" (.ref bh) := u704.keep K723q nin0
  have u728 : Fld Z T723.heap dd "com/example/horizonte/horizonte/dd/DecisionDiagrams" "values" "[D" (.ref bd) := u705.keep K723q nin0
  have u729 : Fld Z T723.heap dd "com/example/horizonte/horizonte/dd/DecisionDiagrams" "slots" "[I" (.ref bs) := u706.keep K723q nin0
  have u730 : Fld Z T723.heap dd "com/example/horizonte/horizonte/dd/DecisionDiagrams" "cachedCodes" "[I" .null := u707.keep K723q nin0
  have u731 : Fld Z T723.heap dd "com/example/horizonte/horizonte/dd/DecisionDiagrams" "cachedFirsts" "[I" .null := u708.keep K723q nin0
  have u732 : Fld Z T723.heap dd "com/example/horizonte/horizonte/dd/DecisionDiagrams" "cachedSeconds" "[I" .null := u709.keep K723q nin0
  have u733 : Fld Z T723.heap dd "com/example/horizonte/horizonte/dd/DecisionDiagrams" "cachedThirds" "[I" .null := u710.keep K723q nin0
  have u734 : Fld Z T723.heap dd "com/example/horizonte/horizonte/dd/DecisionDiagrams" "cachedResults" "[I" .null := u711.keep K723q nin0
  have u735 : Fld Z T723.heap dd "com/example/horizonte/horizonte/dd/DecisionDiagrams" "weights" "[D" .null := u712.keep K723q nin0
  have u736 : Fld Z T723.heap dd "com/example/horizonte/horizonte/dd/DecisionDiagrams" "weighed" "[I" .null := u713.keep K723q nin0
  have u737 : Fld Z T723.heap dd "com/example/horizonte/horizonte/dd/DecisionDiagrams" "count" "I" (.int (0 : Int32)) := u714.keep K723q nin0
  have u738 : Fld Z T723.heap dd "com/example/horizonte/horizonte/dd/DecisionDiagrams" "zero" "I" (.int (0 : Int32)) := u715.keep K723q nin0
  have u739 : Fld Z T723.heap dd "com/example/horizonte/horizonte/dd/DecisionDiagrams" "one" "I" (.int (0 : Int32)) := u716.keep K723q nin0
  have u740 : own_A Z T723.heap bv .int 1024 (fun _ => (.int 0)) := own_A_keep u717 K723q nin0
  have u741 : own_A Z T723.heap bl .int 1024 (fun _ => (.int 0)) := own_A_keep u718 K723q nin0
  have u742 : own_A Z T723.heap bh .int 1024 (fun _ => (.int 0)) := own_A_keep u719 K723q nin0
  have u743 : own_A Z T723.heap bd .double 1024 (fun _ => (.double 0)) := own_A_keep u720 K723q nin0
  have u744 : own_A Z T723.heap bs .int 2048 (fun _ => .int (-1)) := own_A_keep u721 K723q nin0
  have u745 : Keep h0 T723.heap [dd] := u722.trans K723q all0
  obtain ⟨T746, h746, X746, e746, W746, st746⟩ := putF X723 hx hZ hown (host := "") (Or.inl (hw _ (List.mem_of_getElem? (i := 91) rfl))) Via.refl rfl u730 u724 (Or.inl (hw _ (List.mem_of_getElem? (i := 92) rfl))) (hw _ (List.mem_of_getElem? (i := 1) rfl)) (ty := (.array .int)) (by decide) rfl rfl (g := (mkF m 68 #[.val (.ref dd)] [(.ref b6), (.ref dd)])) rfl rfl (hb hby d1_68)
  have N746 := Fr.snoc X746 N723 g_dd
  refine go (T746.setTop (mkF m 71 #[.val (.ref dd)] [])) _ (fun t9 k9 => st746 _ k9) ?_
  have u747 : Exa Z h746 dd "com/example/horizonte/horizonte/dd/DecisionDiagrams" := u724.wr W746
  have u748 : Fld Z h746 dd "com/example/horizonte/horizonte/dd/DecisionDiagrams" "variables" "[I" (.ref bv) := u725.other W746 (Or.inr (slot_ne (Or.inl (hw _ (List.mem_of_getElem? (i := 11) rfl))) (Or.inl (hw _ (List.mem_of_getElem? (i := 92) rfl))) (by decide) (t := (.array .int)) (t' := (.array .int)) (by decide) (by decide)))
  have u749 : Fld Z h746 dd "com/example/horizonte/horizonte/dd/DecisionDiagrams" "lows" "[I" (.ref bl) := u726.other W746 (Or.inr (slot_ne (Or.inl (hw _ (List.mem_of_getElem? (i := 13) rfl))) (Or.inl (hw _ (List.mem_of_getElem? (i := 92) rfl))) (by decide) (t := (.array .int)) (t' := (.array .int)) (by decide) (by decide)))
  have u750 : Fld Z h746 dd "com/example/horizonte/horizonte/dd/DecisionDiagrams" "highs" "[I" (.ref bh) := u727.other W746 (Or.inr (slot_ne (Or.inl (hw _ (List.mem_of_getElem? (i := 15) rfl))) (Or.inl (hw _ (List.mem_of_getElem? (i := 92) rfl))) (by decide) (t := (.array .int)) (t' := (.array .int)) (by decide) (by decide)))
  have u751 : Fld Z h746 dd "com/example/horizonte/horizonte/dd/DecisionDiagrams" "values" "[D" (.ref bd) := u728.other W746 (Or.inr (slot_ne (Or.inl (hw _ (List.mem_of_getElem? (i := 18) rfl))) (Or.inl (hw _ (List.mem_of_getElem? (i := 92) rfl))) (by decide) (t := (.array .double)) (t' := (.array .int)) (by decide) (by decide)))
  have u752 : Fld Z h746 dd "com/example/horizonte/horizonte/dd/DecisionDiagrams" "slots" "[I" (.ref bs) := u729.other W746 (Or.inr (slot_ne (Or.inl (hw _ (List.mem_of_getElem? (i := 90) rfl))) (Or.inl (hw _ (List.mem_of_getElem? (i := 92) rfl))) (by decide) (t := (.array .int)) (t' := (.array .int)) (by decide) (by decide)))
  have u753 : Fld Z h746 dd "com/example/horizonte/horizonte/dd/DecisionDiagrams" "cachedCodes" "[I" (.ref b6) := u730.same W746
  have u754 : Fld Z h746 dd "com/example/horizonte/horizonte/dd/DecisionDiagrams" "cachedFirsts" "[I" .null := u731.other W746 (Or.inr (slot_ne (Or.inl (hw _ (List.mem_of_getElem? (i := 94) rfl))) (Or.inl (hw _ (List.mem_of_getElem? (i := 92) rfl))) (by decide) (t := (.array .int)) (t' := (.array .int)) (by decide) (by decide)))
  have u755 : Fld Z h746 dd "com/example/horizonte/horizonte/dd/DecisionDiagrams" "cachedSeconds" "[I" .null := u732.other W746 (Or.inr (slot_ne (Or.inl (hw _ (List.mem_of_getElem? (i := 96) rfl))) (Or.inl (hw _ (List.mem_of_getElem? (i := 92) rfl))) (by decide) (t := (.array .int)) (t' := (.array .int)) (by decide) (by decide)))
  have u756 : Fld Z h746 dd "com/example/horizonte/horizonte/dd/DecisionDiagrams" "cachedThirds" "[I" .null := u733.other W746 (Or.inr (slot_ne (Or.inl (hw _ (List.mem_of_getElem? (i := 98) rfl))) (Or.inl (hw _ (List.mem_of_getElem? (i := 92) rfl))) (by decide) (t := (.array .int)) (t' := (.array .int)) (by decide) (by decide)))
  have u757 : Fld Z h746 dd "com/example/horizonte/horizonte/dd/DecisionDiagrams" "cachedResults" "[I" .null := u734.other W746 (Or.inr (slot_ne (Or.inl (hw _ (List.mem_of_getElem? (i := 100) rfl))) (Or.inl (hw _ (List.mem_of_getElem? (i := 92) rfl))) (by decide) (t := (.array .int)) (t' := (.array .int)) (by decide) (by decide)))
  have u758 : Fld Z h746 dd "com/example/horizonte/horizonte/dd/DecisionDiagrams" "weights" "[D" .null := u735.other W746 (Or.inr (slot_ne (Or.inl (hw _ (List.mem_of_getElem? (i := 102) rfl))) (Or.inl (hw _ (List.mem_of_getElem? (i := 92) rfl))) (by decide) (t := (.array .double)) (t' := (.array .int)) (by decide) (by decide)))
  have u759 : Fld Z h746 dd "com/example/horizonte/horizonte/dd/DecisionDiagrams" "weighed" "[I" .null := u736.other W746 (Or.inr (slot_ne (Or.inl (hw _ (List.mem_of_getElem? (i := 104) rfl))) (Or.inl (hw _ (List.mem_of_getElem? (i := 92) rfl))) (by decide) (t := (.array .int)) (t' := (.array .int)) (by decide) (by decide)))
  have u760 : Fld Z h746 dd "com/example/horizonte/horizonte/dd/DecisionDiagrams" "count" "I" (.int (0 : Int32)) := u737.other W746 (Or.inr (slot_ne (Or.inl (hw _ (List.mem_of_getElem? (i := 148) rfl))) (Or.inl (hw _ (List.mem_of_getElem? (i := 92) rfl))) (by decide) (t := .int) (t' := (.array .int)) (by decide) (by decide)))
  have u761 : Fld Z h746 dd "com/example/horizonte/horizonte/dd/DecisionDiagrams" "zero" "I" (.int (0 : Int32)) := u738.other W746 (Or.inr (slot_ne (Or.inr (hw _ (List.mem_of_getElem? (i := 150) rfl))) (Or.inl (hw _ (List.mem_of_getElem? (i := 92) rfl))) (by decide) (t := .int) (t' := (.array .int)) (by decide) (by decide)))
  have u762 : Fld Z h746 dd "com/example/horizonte/horizonte/dd/DecisionDiagrams" "one" "I" (.int (0 : Int32)) := u739.other W746 (Or.inr (slot_ne (Or.inr (hw _ (List.mem_of_getElem? (i := 152) rfl))) (Or.inl (hw _ (List.mem_of_getElem? (i := 92) rfl))) (by decide) (t := .int) (t' := (.array .int)) (by decide) (by decide)))
  have u763 : own_A Z h746 bv .int 1024 (fun _ => (.int 0)) := own_A_other u740 W746 (Ne.symm ne400)
  have u764 : own_A Z h746 bl .int 1024 (fun _ => (.int 0)) := own_A_other u741 W746 (Ne.symm ne443)
  have u765 : own_A Z h746 bh .int 1024 (fun _ => (.int 0)) := own_A_other u742 W746 (Ne.symm ne489)
  have u766 : own_A Z h746 bd .double 1024 (fun _ => (.double 0)) := own_A_other u743 W746 (Ne.symm ne538)
  have u767 : own_A Z h746 bs .int 2048 (fun _ => .int (-1)) := own_A_other u744 W746 (Ne.symm ne674)
  have u768 : Keep h0 h746 [dd] := u745.wr W746 (Or.inl (List.mem_of_getElem? (i := 0) rfl))
  refine go (T746.setTop (mkF m 75 #[.val (.ref dd)] [(.int (1024 : Int32)), (.ref dd)])) _ (fun t9 k9 => ?_) ?_
  · show Steps p.tables e below (T746.setTop (mkF m 71 #[.val (.ref dd)] [])) _
    refine XS.aloadN X746.here hx rfl (hb hby d1_71) rfl rfl ?_
    show Steps p.tables e below (T746.setTop (mkF m 72 #[.val (.ref dd)] [(.ref dd)])) _
    refine XS.sipush X746.here hx rfl (hb hby d1_72) ?_
    exact k9
  obtain ⟨T769, h769, k769, X769, e769, E769, A769, st769⟩ := newP X746 hx hZ (hw _ (List.mem_of_getElem? (i := 9) rfl)) e746 (g := (mkF m 75 #[.val (.ref dd)] [(.int (1024 : Int32)), (.ref dd)])) rfl (hb hby d1_75) rfl (by decide) (cap := 1024) (by decide) (by decide) (by decide) (by decide)
  obtain ⟨b7, g769⟩ : ∃ z, z = h746.size := ⟨_, rfl⟩
  rw [← g769] at A769 st769
  refine go (T769.setTop (mkF m 77 #[.val (.ref dd)] [(.ref b7), (.ref dd)])) _ (fun t9 k9 => st769 _ k9) ?_
  have ne770 : dd ≠ b7 := Nat.ne_of_lt (Nat.lt_of_lt_of_le u747.lt (Nat.le_of_eq g769.symm))
  have ne771 : bv ≠ b7 := Nat.ne_of_lt (Nat.lt_of_lt_of_le (own_A_lt u763) (Nat.le_of_eq g769.symm))
  have ne772 : bl ≠ b7 := Nat.ne_of_lt (Nat.lt_of_lt_of_le (own_A_lt u764) (Nat.le_of_eq g769.symm))
  have ne773 : bh ≠ b7 := Nat.ne_of_lt (Nat.lt_of_lt_of_le (own_A_lt u765) (Nat.le_of_eq g769.symm))
  have ne774 : bd ≠ b7 := Nat.ne_of_lt (Nat.lt_of_lt_of_le (own_A_lt u766) (Nat.le_of_eq g769.symm))
  have ne775 : bs ≠ b7 := Nat.ne_of_lt (Nat.lt_of_lt_of_le (own_A_lt u767) (Nat.le_of_eq g769.symm))
  have sz_b7 : h0.size ≤ b7 := Nat.le_trans u768.1 (Nat.le_of_eq g769.symm)
  have g_b7 : n0 ≤ b7 := Nat.le_trans Z0 sz_b7
  have u776 : Exa Z h769 dd "com/example/horizonte/horizonte/dd/DecisionDiagrams" := u747.ext E769
  have u777 : Fld Z h769 dd "com/example/horizonte/horizonte/dd/DecisionDiagrams" "variables" "[I" (.ref bv) := u748.ext E769
  have u778 : Fld Z h769 dd "com/example/horizonte/horizonte/dd/DecisionDiagrams" "lows" "[I" (.ref bl) := u749.ext E769
  have u779 : Fld Z h769 dd "com/example/horizonte/horizonte/dd/DecisionDiagrams" "highs" "[I" (.ref bh) := u750.ext E769
  have u780 : Fld Z h769 dd "com/example/horizonte/horizonte/dd/DecisionDiagrams" "values" "[D" (.ref bd) := u751.ext E769
  have u781 : Fld Z h769 dd "com/example/horizonte/horizonte/dd/DecisionDiagrams" "slots" "[I" (.ref bs) := u752.ext E769
  have u782 : Fld Z h769 dd "com/example/horizonte/horizonte/dd/DecisionDiagrams" "cachedFirsts" "[I" .null := u754.ext E769
  have u783 : Fld Z h769 dd "com/example/horizonte/horizonte/dd/DecisionDiagrams" "cachedSeconds" "[I" .null := u755.ext E769
  have u784 : Fld Z h769 dd "com/example/horizonte/horizonte/dd/DecisionDiagrams" "cachedThirds" "[I" .null := u756.ext E769
  have u785 : Fld Z h769 dd "com/example/horizonte/horizonte/dd/DecisionDiagrams" "cachedResults" "[I" .null := u757.ext E769
  have u786 : Fld Z h769 dd "com/example/horizonte/horizonte/dd/DecisionDiagrams" "weights" "[D" .null := u758.ext E769
  have u787 : Fld Z h769 dd "com/example/horizonte/horizonte/dd/DecisionDiagrams" "weighed" "[I" .null := u759.ext E769
  have u788 : Fld Z h769 dd "com/example/horizonte/horizonte/dd/DecisionDiagrams" "count" "I" (.int (0 : Int32)) := u760.ext E769
  have u789 : Fld Z h769 dd "com/example/horizonte/horizonte/dd/DecisionDiagrams" "zero" "I" (.int (0 : Int32)) := u761.ext E769
  have u790 : Fld Z h769 dd "com/example/horizonte/horizonte/dd/DecisionDiagrams" "one" "I" (.int (0 : Int32)) := u762.ext E769
  have u791 : own_A Z h769 bv .int 1024 (fun _ => (.int 0)) := own_A_ext u763 E769
  have u792 : own_A Z h769 bl .int 1024 (fun _ => (.int 0)) := own_A_ext u764 E769
  have u793 : own_A Z h769 bh .int 1024 (fun _ => (.int 0)) := own_A_ext u765 E769
  have u794 : own_A Z h769 bd .double 1024 (fun _ => (.double 0)) := own_A_ext u766 E769
  have u795 : own_A Z h769 bs .int 2048 (fun _ => .int (-1)) := own_A_ext u767 E769
  have u796 : Keep h0 h769 [dd] := u768.ext E769
  have u797 : own_A Z h769 b7 .int 1024 (fun _ => (.int 0)) := own_A_new A769 rfl
  obtain ⟨T798, h798, X798, e798, W798, st798⟩ := putF X769 hx hZ hown (host := "") (Or.inl (hw _ (List.mem_of_getElem? (i := 93) rfl))) Via.refl e769 u782 u776 (Or.inl (hw _ (List.mem_of_getElem? (i := 94) rfl))) (hw _ (List.mem_of_getElem? (i := 1) rfl)) (ty := (.array .int)) (by decide) rfl rfl (g := (mkF m 77 #[.val (.ref dd)] [(.ref b7), (.ref dd)])) rfl rfl (hb hby d1_77)
  have N798 := Fr.snoc X798 N746 g_dd
  refine go (T798.setTop (mkF m 80 #[.val (.ref dd)] [])) _ (fun t9 k9 => st798 _ k9) ?_
  have u799 : Exa Z h798 dd "com/example/horizonte/horizonte/dd/DecisionDiagrams" := u776.wr W798
  have u800 : Fld Z h798 dd "com/example/horizonte/horizonte/dd/DecisionDiagrams" "variables" "[I" (.ref bv) := u777.other W798 (Or.inr (slot_ne (Or.inl (hw _ (List.mem_of_getElem? (i := 11) rfl))) (Or.inl (hw _ (List.mem_of_getElem? (i := 94) rfl))) (by decide) (t := (.array .int)) (t' := (.array .int)) (by decide) (by decide)))
  have u801 : Fld Z h798 dd "com/example/horizonte/horizonte/dd/DecisionDiagrams" "lows" "[I" (.ref bl) := u778.other W798 (Or.inr (slot_ne (Or.inl (hw _ (List.mem_of_getElem? (i := 13) rfl))) (Or.inl (hw _ (List.mem_of_getElem? (i := 94) rfl))) (by decide) (t := (.array .int)) (t' := (.array .int)) (by decide) (by decide)))
  have u802 : Fld Z h798 dd "com/example/horizonte/horizonte/dd/DecisionDiagrams" "highs" "[I" (.ref bh) := u779.other W798 (Or.inr (slot_ne (Or.inl (hw _ (List.mem_of_getElem? (i := 15) rfl))) (Or.inl (hw _ (List.mem_of_getElem? (i := 94) rfl))) (by decide) (t := (.array .int)) (t' := (.array .int)) (by decide) (by decide)))
  have u803 : Fld Z h798 dd "com/example/horizonte/horizonte/dd/DecisionDiagrams" "values" "[D" (.ref bd) := u780.other W798 (Or.inr (slot_ne (Or.inl (hw _ (List.mem_of_getElem? (i := 18) rfl))) (Or.inl (hw _ (List.mem_of_getElem? (i := 94) rfl))) (by decide) (t := (.array .double)) (t' := (.array .int)) (by decide) (by decide)))
  have u804 : Fld Z h798 dd "com/example/horizonte/horizonte/dd/DecisionDiagrams" "slots" "[I" (.ref bs) := u781.other W798 (Or.inr (slot_ne (Or.inl (hw _ (List.mem_of_getElem? (i := 90) rfl))) (Or.inl (hw _ (List.mem_of_getElem? (i := 94) rfl))) (by decide) (t := (.array .int)) (t' := (.array .int)) (by decide) (by decide)))
  have u805 : Fld Z h798 dd "com/example/horizonte/horizonte/dd/DecisionDiagrams" "cachedFirsts" "[I" (.ref b7) := u782.same W798
  have u806 : Fld Z h798 dd "com/example/horizonte/horizonte/dd/DecisionDiagrams" "cachedSeconds" "[I" .null := u783.other W798 (Or.inr (slot_ne (Or.inl (hw _ (List.mem_of_getElem? (i := 96) rfl))) (Or.inl (hw _ (List.mem_of_getElem? (i := 94) rfl))) (by decide) (t := (.array .int)) (t' := (.array .int)) (by decide) (by decide)))
  have u807 : Fld Z h798 dd "com/example/horizonte/horizonte/dd/DecisionDiagrams" "cachedThirds" "[I" .null := u784.other W798 (Or.inr (slot_ne (Or.inl (hw _ (List.mem_of_getElem? (i := 98) rfl))) (Or.inl (hw _ (List.mem_of_getElem? (i := 94) rfl))) (by decide) (t := (.array .int)) (t' := (.array .int)) (by decide) (by decide)))
  have u808 : Fld Z h798 dd "com/example/horizonte/horizonte/dd/DecisionDiagrams" "cachedResults" "[I" .null := u785.other W798 (Or.inr (slot_ne (Or.inl (hw _ (List.mem_of_getElem? (i := 100) rfl))) (Or.inl (hw _ (List.mem_of_getElem? (i := 94) rfl))) (by decide) (t := (.array .int)) (t' := (.array .int)) (by decide) (by decide)))
  have u809 : Fld Z h798 dd "com/example/horizonte/horizonte/dd/DecisionDiagrams" "weights" "[D" .null := u786.other W798 (Or.inr (slot_ne (Or.inl (hw _ (List.mem_of_getElem? (i := 102) rfl))) (Or.inl (hw _ (List.mem_of_getElem? (i := 94) rfl))) (by decide) (t := (.array .double)) (t' := (.array .int)) (by decide) (by decide)))
  have u810 : Fld Z h798 dd "com/example/horizonte/horizonte/dd/DecisionDiagrams" "weighed" "[I" .null := u787.other W798 (Or.inr (slot_ne (Or.inl (hw _ (List.mem_of_getElem? (i := 104) rfl))) (Or.inl (hw _ (List.mem_of_getElem? (i := 94) rfl))) (by decide) (t := (.array .int)) (t' := (.array .int)) (by decide) (by decide)))
  have u811 : Fld Z h798 dd "com/example/horizonte/horizonte/dd/DecisionDiagrams" "count" "I" (.int (0 : Int32)) := u788.other W798 (Or.inr (slot_ne (Or.inl (hw _ (List.mem_of_getElem? (i := 148) rfl))) (Or.inl (hw _ (List.mem_of_getElem? (i := 94) rfl))) (by decide) (t := .int) (t' := (.array .int)) (by decide) (by decide)))
  have u812 : Fld Z h798 dd "com/example/horizonte/horizonte/dd/DecisionDiagrams" "zero" "I" (.int (0 : Int32)) := u789.other W798 (Or.inr (slot_ne (Or.inr (hw _ (List.mem_of_getElem? (i := 150) rfl))) (Or.inl (hw _ (List.mem_of_getElem? (i := 94) rfl))) (by decide) (t := .int) (t' := (.array .int)) (by decide) (by decide)))
  have u813 : Fld Z h798 dd "com/example/horizonte/horizonte/dd/DecisionDiagrams" "one" "I" (.int (0 : Int32)) := u790.other W798 (Or.inr (slot_ne (Or.inr (hw _ (List.mem_of_getElem? (i := 152) rfl))) (Or.inl (hw _ (List.mem_of_getElem? (i := 94) rfl))) (by decide) (t := .int) (t' := (.array .int)) (by decide) (by decide)))
  have u814 : own_A Z h798 bv .int 1024 (fun _ => (.int 0)) := own_A_other u791 W798 (Ne.symm ne400)
  have u815 : own_A Z h798 bl .int 1024 (fun _ => (.int 0)) := own_A_other u792 W798 (Ne.symm ne443)
  have u816 : own_A Z h798 bh .int 1024 (fun _ => (.int 0)) := own_A_other u793 W798 (Ne.symm ne489)
  have u817 : own_A Z h798 bd .double 1024 (fun _ => (.double 0)) := own_A_other u794 W798 (Ne.symm ne538)
  have u818 : own_A Z h798 bs .int 2048 (fun _ => .int (-1)) := own_A_other u795 W798 (Ne.symm ne674)
  have u819 : Keep h0 h798 [dd] := u796.wr W798 (Or.inl (List.mem_of_getElem? (i := 0) rfl))
  refine go (T798.setTop (mkF m 84 #[.val (.ref dd)] [(.int (1024 : Int32)), (.ref dd)])) _ (fun t9 k9 => ?_) ?_
  · show Steps p.tables e below (T798.setTop (mkF m 80 #[.val (.ref dd)] [])) _
    refine XS.aloadN X798.here hx rfl (hb hby d1_80) rfl rfl ?_
    show Steps p.tables e below (T798.setTop (mkF m 81 #[.val (.ref dd)] [(.ref dd)])) _
    refine XS.sipush X798.here hx rfl (hb hby d1_81) ?_
    exact k9
  obtain ⟨T820, h820, k820, X820, e820, E820, A820, st820⟩ := newP X798 hx hZ (hw _ (List.mem_of_getElem? (i := 9) rfl)) e798 (g := (mkF m 84 #[.val (.ref dd)] [(.int (1024 : Int32)), (.ref dd)])) rfl (hb hby d1_84) rfl (by decide) (cap := 1024) (by decide) (by decide) (by decide) (by decide)
  obtain ⟨b8, g820⟩ : ∃ z, z = h798.size := ⟨_, rfl⟩
  rw [← g820] at A820 st820
  refine go (T820.setTop (mkF m 86 #[.val (.ref dd)] [(.ref b8), (.ref dd)])) _ (fun t9 k9 => st820 _ k9) ?_
  have ne821 : dd ≠ b8 := Nat.ne_of_lt (Nat.lt_of_lt_of_le u799.lt (Nat.le_of_eq g820.symm))
  have ne822 : bv ≠ b8 := Nat.ne_of_lt (Nat.lt_of_lt_of_le (own_A_lt u814) (Nat.le_of_eq g820.symm))
  have ne823 : bl ≠ b8 := Nat.ne_of_lt (Nat.lt_of_lt_of_le (own_A_lt u815) (Nat.le_of_eq g820.symm))
  have ne824 : bh ≠ b8 := Nat.ne_of_lt (Nat.lt_of_lt_of_le (own_A_lt u816) (Nat.le_of_eq g820.symm))
  have ne825 : bd ≠ b8 := Nat.ne_of_lt (Nat.lt_of_lt_of_le (own_A_lt u817) (Nat.le_of_eq g820.symm))
  have ne826 : bs ≠ b8 := Nat.ne_of_lt (Nat.lt_of_lt_of_le (own_A_lt u818) (Nat.le_of_eq g820.symm))
  have sz_b8 : h0.size ≤ b8 := Nat.le_trans u819.1 (Nat.le_of_eq g820.symm)
  have g_b8 : n0 ≤ b8 := Nat.le_trans Z0 sz_b8
  have u827 : Exa Z h820 dd "com/example/horizonte/horizonte/dd/DecisionDiagrams" := u799.ext E820
  have u828 : Fld Z h820 dd "com/example/horizonte/horizonte/dd/DecisionDiagrams" "variables" "[I" (.ref bv) := u800.ext E820
  have u829 : Fld Z h820 dd "com/example/horizonte/horizonte/dd/DecisionDiagrams" "lows" "[I" (.ref bl) := u801.ext E820
  have u830 : Fld Z h820 dd "com/example/horizonte/horizonte/dd/DecisionDiagrams" "highs" "[I" (.ref bh) := u802.ext E820
  have u831 : Fld Z h820 dd "com/example/horizonte/horizonte/dd/DecisionDiagrams" "values" "[D" (.ref bd) := u803.ext E820
  have u832 : Fld Z h820 dd "com/example/horizonte/horizonte/dd/DecisionDiagrams" "slots" "[I" (.ref bs) := u804.ext E820
  have u833 : Fld Z h820 dd "com/example/horizonte/horizonte/dd/DecisionDiagrams" "cachedSeconds" "[I" .null := u806.ext E820
  have u834 : Fld Z h820 dd "com/example/horizonte/horizonte/dd/DecisionDiagrams" "cachedThirds" "[I" .null := u807.ext E820
  have u835 : Fld Z h820 dd "com/example/horizonte/horizonte/dd/DecisionDiagrams" "cachedResults" "[I" .null := u808.ext E820
  have u836 : Fld Z h820 dd "com/example/horizonte/horizonte/dd/DecisionDiagrams" "weights" "[D" .null := u809.ext E820
  have u837 : Fld Z h820 dd "com/example/horizonte/horizonte/dd/DecisionDiagrams" "weighed" "[I" .null := u810.ext E820
  have u838 : Fld Z h820 dd "com/example/horizonte/horizonte/dd/DecisionDiagrams" "count" "I" (.int (0 : Int32)) := u811.ext E820
  have u839 : Fld Z h820 dd "com/example/horizonte/horizonte/dd/DecisionDiagrams" "zero" "I" (.int (0 : Int32)) := u812.ext E820
  have u840 : Fld Z h820 dd "com/example/horizonte/horizonte/dd/DecisionDiagrams" "one" "I" (.int (0 : Int32)) := u813.ext E820
  have u841 : own_A Z h820 bv .int 1024 (fun _ => (.int 0)) := own_A_ext u814 E820
  have u842 : own_A Z h820 bl .int 1024 (fun _ => (.int 0)) := own_A_ext u815 E820
  have u843 : own_A Z h820 bh .int 1024 (fun _ => (.int 0)) := own_A_ext u816 E820
  have u844 : own_A Z h820 bd .double 1024 (fun _ => (.double 0)) := own_A_ext u817 E820
  have u845 : own_A Z h820 bs .int 2048 (fun _ => .int (-1)) := own_A_ext u818 E820
  have u846 : Keep h0 h820 [dd] := u819.ext E820
  have u847 : own_A Z h820 b8 .int 1024 (fun _ => (.int 0)) := own_A_new A820 rfl
  obtain ⟨T848, h848, X848, e848, W848, st848⟩ := putF X820 hx hZ hown (host := "") (Or.inl (hw _ (List.mem_of_getElem? (i := 95) rfl))) Via.refl e820 u833 u827 (Or.inl (hw _ (List.mem_of_getElem? (i := 96) rfl))) (hw _ (List.mem_of_getElem? (i := 1) rfl)) (ty := (.array .int)) (by decide) rfl rfl (g := (mkF m 86 #[.val (.ref dd)] [(.ref b8), (.ref dd)])) rfl rfl (hb hby d1_86)
  have N848 := Fr.snoc X848 N798 g_dd
  refine go (T848.setTop (mkF m 89 #[.val (.ref dd)] [])) _ (fun t9 k9 => st848 _ k9) ?_
  have u849 : Exa Z h848 dd "com/example/horizonte/horizonte/dd/DecisionDiagrams" := u827.wr W848
  have u850 : Fld Z h848 dd "com/example/horizonte/horizonte/dd/DecisionDiagrams" "variables" "[I" (.ref bv) := u828.other W848 (Or.inr (slot_ne (Or.inl (hw _ (List.mem_of_getElem? (i := 11) rfl))) (Or.inl (hw _ (List.mem_of_getElem? (i := 96) rfl))) (by decide) (t := (.array .int)) (t' := (.array .int)) (by decide) (by decide)))
  have u851 : Fld Z h848 dd "com/example/horizonte/horizonte/dd/DecisionDiagrams" "lows" "[I" (.ref bl) := u829.other W848 (Or.inr (slot_ne (Or.inl (hw _ (List.mem_of_getElem? (i := 13) rfl))) (Or.inl (hw _ (List.mem_of_getElem? (i := 96) rfl))) (by decide) (t := (.array .int)) (t' := (.array .int)) (by decide) (by decide)))
  have u852 : Fld Z h848 dd "com/example/horizonte/horizonte/dd/DecisionDiagrams" "highs" "[I" (.ref bh) := u830.other W848 (Or.inr (slot_ne (Or.inl (hw _ (List.mem_of_getElem? (i := 15) rfl))) (Or.inl (hw _ (List.mem_of_getElem? (i := 96) rfl))) (by decide) (t := (.array .int)) (t' := (.array .int)) (by decide) (by decide)))
  have u853 : Fld Z h848 dd "com/example/horizonte/horizonte/dd/DecisionDiagrams" "values" "[D" (.ref bd) := u831.other W848 (Or.inr (slot_ne (Or.inl (hw _ (List.mem_of_getElem? (i := 18) rfl))) (Or.inl (hw _ (List.mem_of_getElem? (i := 96) rfl))) (by decide) (t := (.array .double)) (t' := (.array .int)) (by decide) (by decide)))
  have u854 : Fld Z h848 dd "com/example/horizonte/horizonte/dd/DecisionDiagrams" "slots" "[I" (.ref bs) := u832.other W848 (Or.inr (slot_ne (Or.inl (hw _ (List.mem_of_getElem? (i := 90) rfl))) (Or.inl (hw _ (List.mem_of_getElem? (i := 96) rfl))) (by decide) (t := (.array .int)) (t' := (.array .int)) (by decide) (by decide)))
  have u855 : Fld Z h848 dd "com/example/horizonte/horizonte/dd/DecisionDiagrams" "cachedSeconds" "[I" (.ref b8) := u833.same W848
  have u856 : Fld Z h848 dd "com/example/horizonte/horizonte/dd/DecisionDiagrams" "cachedThirds" "[I" .null := u834.other W848 (Or.inr (slot_ne (Or.inl (hw _ (List.mem_of_getElem? (i := 98) rfl))) (Or.inl (hw _ (List.mem_of_getElem? (i := 96) rfl))) (by decide) (t := (.array .int)) (t' := (.array .int)) (by decide) (by decide)))
  have u857 : Fld Z h848 dd "com/example/horizonte/horizonte/dd/DecisionDiagrams" "cachedResults" "[I" .null := u835.other W848 (Or.inr (slot_ne (Or.inl (hw _ (List.mem_of_getElem? (i := 100) rfl))) (Or.inl (hw _ (List.mem_of_getElem? (i := 96) rfl))) (by decide) (t := (.array .int)) (t' := (.array .int)) (by decide) (by decide)))
  have u858 : Fld Z h848 dd "com/example/horizonte/horizonte/dd/DecisionDiagrams" "weights" "[D" .null := u836.other W848 (Or.inr (slot_ne (Or.inl (hw _ (List.mem_of_getElem? (i := 102) rfl))) (Or.inl (hw _ (List.mem_of_getElem? (i := 96) rfl))) (by decide) (t := (.array .double)) (t' := (.array .int)) (by decide) (by decide)))
  have u859 : Fld Z h848 dd "com/example/horizonte/horizonte/dd/DecisionDiagrams" "weighed" "[I" .null := u837.other W848 (Or.inr (slot_ne (Or.inl (hw _ (List.mem_of_getElem? (i := 104) rfl))) (Or.inl (hw _ (List.mem_of_getElem? (i := 96) rfl))) (by decide) (t := (.array .int)) (t' := (.array .int)) (by decide) (by decide)))
  have u860 : Fld Z h848 dd "com/example/horizonte/horizonte/dd/DecisionDiagrams" "count" "I" (.int (0 : Int32)) := u838.other W848 (Or.inr (slot_ne (Or.inl (hw _ (List.mem_of_getElem? (i := 148) rfl))) (Or.inl (hw _ (List.mem_of_getElem? (i := 96) rfl))) (by decide) (t := .int) (t' := (.array .int)) (by decide) (by decide)))
  have u861 : Fld Z h848 dd "com/example/horizonte/horizonte/dd/DecisionDiagrams" "zero" "I" (.int (0 : Int32)) := u839.other W848 (Or.inr (slot_ne (Or.inr (hw _ (List.mem_of_getElem? (i := 150) rfl))) (Or.inl (hw _ (List.mem_of_getElem? (i := 96) rfl))) (by decide) (t := .int) (t' := (.array .int)) (by decide) (by decide)))
  have u862 : Fld Z h848 dd "com/example/horizonte/horizonte/dd/DecisionDiagrams" "one" "I" (.int (0 : Int32)) := u840.other W848 (Or.inr (slot_ne (Or.inr (hw _ (List.mem_of_getElem? (i := 152) rfl))) (Or.inl (hw _ (List.mem_of_getElem? (i := 96) rfl))) (by decide) (t := .int) (t' := (.array .int)) (by decide) (by decide)))
  have u863 : own_A Z h848 bv .int 1024 (fun _ => (.int 0)) := own_A_other u841 W848 (Ne.symm ne400)
  have u864 : own_A Z h848 bl .int 1024 (fun _ => (.int 0)) := own_A_other u842 W848 (Ne.symm ne443)
  have u865 : own_A Z h848 bh .int 1024 (fun _ => (.int 0)) := own_A_other u843 W848 (Ne.symm ne489)
  have u866 : own_A Z h848 bd .double 1024 (fun _ => (.double 0)) := own_A_other u844 W848 (Ne.symm ne538)
  have u867 : own_A Z h848 bs .int 2048 (fun _ => .int (-1)) := own_A_other u845 W848 (Ne.symm ne674)
  have u868 : Keep h0 h848 [dd] := u846.wr W848 (Or.inl (List.mem_of_getElem? (i := 0) rfl))
  refine go (T848.setTop (mkF m 93 #[.val (.ref dd)] [(.int (1024 : Int32)), (.ref dd)])) _ (fun t9 k9 => ?_) ?_
  · show Steps p.tables e below (T848.setTop (mkF m 89 #[.val (.ref dd)] [])) _
    refine XS.aloadN X848.here hx rfl (hb hby d1_89) rfl rfl ?_
    show Steps p.tables e below (T848.setTop (mkF m 90 #[.val (.ref dd)] [(.ref dd)])) _
    refine XS.sipush X848.here hx rfl (hb hby d1_90) ?_
    exact k9
  obtain ⟨T869, h869, k869, X869, e869, E869, A869, st869⟩ := newP X848 hx hZ (hw _ (List.mem_of_getElem? (i := 9) rfl)) e848 (g := (mkF m 93 #[.val (.ref dd)] [(.int (1024 : Int32)), (.ref dd)])) rfl (hb hby d1_93) rfl (by decide) (cap := 1024) (by decide) (by decide) (by decide) (by decide)
  obtain ⟨b9, g869⟩ : ∃ z, z = h848.size := ⟨_, rfl⟩
  rw [← g869] at A869 st869
  refine go (T869.setTop (mkF m 95 #[.val (.ref dd)] [(.ref b9), (.ref dd)])) _ (fun t9 k9 => st869 _ k9) ?_
  have ne870 : dd ≠ b9 := Nat.ne_of_lt (Nat.lt_of_lt_of_le u849.lt (Nat.le_of_eq g869.symm))
  have ne871 : bv ≠ b9 := Nat.ne_of_lt (Nat.lt_of_lt_of_le (own_A_lt u863) (Nat.le_of_eq g869.symm))
  have ne872 : bl ≠ b9 := Nat.ne_of_lt (Nat.lt_of_lt_of_le (own_A_lt u864) (Nat.le_of_eq g869.symm))
  have ne873 : bh ≠ b9 := Nat.ne_of_lt (Nat.lt_of_lt_of_le (own_A_lt u865) (Nat.le_of_eq g869.symm))
  have ne874 : bd ≠ b9 := Nat.ne_of_lt (Nat.lt_of_lt_of_le (own_A_lt u866) (Nat.le_of_eq g869.symm))
  have ne875 : bs ≠ b9 := Nat.ne_of_lt (Nat.lt_of_lt_of_le (own_A_lt u867) (Nat.le_of_eq g869.symm))
  have sz_b9 : h0.size ≤ b9 := Nat.le_trans u868.1 (Nat.le_of_eq g869.symm)
  have g_b9 : n0 ≤ b9 := Nat.le_trans Z0 sz_b9
  have u876 : Exa Z h869 dd "com/example/horizonte/horizonte/dd/DecisionDiagrams" := u849.ext E869
  have u877 : Fld Z h869 dd "com/example/horizonte/horizonte/dd/DecisionDiagrams" "variables" "[I" (.ref bv) := u850.ext E869
  have u878 : Fld Z h869 dd "com/example/horizonte/horizonte/dd/DecisionDiagrams" "lows" "[I" (.ref bl) := u851.ext E869
  have u879 : Fld Z h869 dd "com/example/horizonte/horizonte/dd/DecisionDiagrams" "highs" "[I" (.ref bh) := u852.ext E869
  have u880 : Fld Z h869 dd "com/example/horizonte/horizonte/dd/DecisionDiagrams" "values" "[D" (.ref bd) := u853.ext E869
  have u881 : Fld Z h869 dd "com/example/horizonte/horizonte/dd/DecisionDiagrams" "slots" "[I" (.ref bs) := u854.ext E869
  have u882 : Fld Z h869 dd "com/example/horizonte/horizonte/dd/DecisionDiagrams" "cachedThirds" "[I" .null := u856.ext E869
  have u883 : Fld Z h869 dd "com/example/horizonte/horizonte/dd/DecisionDiagrams" "cachedResults" "[I" .null := u857.ext E869
  have u884 : Fld Z h869 dd "com/example/horizonte/horizonte/dd/DecisionDiagrams" "weights" "[D" .null := u858.ext E869
  have u885 : Fld Z h869 dd "com/example/horizonte/horizonte/dd/DecisionDiagrams" "weighed" "[I" .null := u859.ext E869
  have u886 : Fld Z h869 dd "com/example/horizonte/horizonte/dd/DecisionDiagrams" "count" "I" (.int (0 : Int32)) := u860.ext E869
  have u887 : Fld Z h869 dd "com/example/horizonte/horizonte/dd/DecisionDiagrams" "zero" "I" (.int (0 : Int32)) := u861.ext E869
  have u888 : Fld Z h869 dd "com/example/horizonte/horizonte/dd/DecisionDiagrams" "one" "I" (.int (0 : Int32)) := u862.ext E869
  have u889 : own_A Z h869 bv .int 1024 (fun _ => (.int 0)) := own_A_ext u863 E869
  have u890 : own_A Z h869 bl .int 1024 (fun _ => (.int 0)) := own_A_ext u864 E869
  have u891 : own_A Z h869 bh .int 1024 (fun _ => (.int 0)) := own_A_ext u865 E869
  have u892 : own_A Z h869 bd .double 1024 (fun _ => (.double 0)) := own_A_ext u866 E869
  have u893 : own_A Z h869 bs .int 2048 (fun _ => .int (-1)) := own_A_ext u867 E869
  have u894 : Keep h0 h869 [dd] := u868.ext E869
  have u895 : own_A Z h869 b9 .int 1024 (fun _ => (.int 0)) := own_A_new A869 rfl
  obtain ⟨T896, h896, X896, e896, W896, st896⟩ := putF X869 hx hZ hown (host := "") (Or.inl (hw _ (List.mem_of_getElem? (i := 97) rfl))) Via.refl e869 u882 u876 (Or.inl (hw _ (List.mem_of_getElem? (i := 98) rfl))) (hw _ (List.mem_of_getElem? (i := 1) rfl)) (ty := (.array .int)) (by decide) rfl rfl (g := (mkF m 95 #[.val (.ref dd)] [(.ref b9), (.ref dd)])) rfl rfl (hb hby d1_95)
  have N896 := Fr.snoc X896 N848 g_dd
  refine go (T896.setTop (mkF m 98 #[.val (.ref dd)] [])) _ (fun t9 k9 => st896 _ k9) ?_
  have u897 : Exa Z h896 dd "com/example/horizonte/horizonte/dd/DecisionDiagrams" := u876.wr W896
  have u898 : Fld Z h896 dd "com/example/horizonte/horizonte/dd/DecisionDiagrams" "variables" "[I" (.ref bv) := u877.other W896 (Or.inr (slot_ne (Or.inl (hw _ (List.mem_of_getElem? (i := 11) rfl))) (Or.inl (hw _ (List.mem_of_getElem? (i := 98) rfl))) (by decide) (t := (.array .int)) (t' := (.array .int)) (by decide) (by decide)))
  have u899 : Fld Z h896 dd "com/example/horizonte/horizonte/dd/DecisionDiagrams" "lows" "[I" (.ref bl) := u878.other W896 (Or.inr (slot_ne (Or.inl (hw _ (List.mem_of_getElem? (i := 13) rfl))) (Or.inl (hw _ (List.mem_of_getElem? (i := 98) rfl))) (by decide) (t := (.array .int)) (t' := (.array .int)) (by decide) (by decide)))
  have u900 : Fld Z h896 dd "com/example/horizonte/horizonte/dd/DecisionDiagrams" "highs" "[I" (.ref bh) := u879.other W896 (Or.inr (slot_ne (Or.inl (hw _ (List.mem_of_getElem? (i := 15) rfl))) (Or.inl (hw _ (List.mem_of_getElem? (i := 98) rfl))) (by decide) (t := (.array .int)) (t' := (.array .int)) (by decide) (by decide)))
  have u901 : Fld Z h896 dd "com/example/horizonte/horizonte/dd/DecisionDiagrams" "values" "[D" (.ref bd) := u880.other W896 (Or.inr (slot_ne (Or.inl (hw _ (List.mem_of_getElem? (i := 18) rfl))) (Or.inl (hw _ (List.mem_of_getElem? (i := 98) rfl))) (by decide) (t := (.array .double)) (t' := (.array .int)) (by decide) (by decide)))
  have u902 : Fld Z h896 dd "com/example/horizonte/horizonte/dd/DecisionDiagrams" "slots" "[I" (.ref bs) := u881.other W896 (Or.inr (slot_ne (Or.inl (hw _ (List.mem_of_getElem? (i := 90) rfl))) (Or.inl (hw _ (List.mem_of_getElem? (i := 98) rfl))) (by decide) (t := (.array .int)) (t' := (.array .int)) (by decide) (by decide)))
  have u903 : Fld Z h896 dd "com/example/horizonte/horizonte/dd/DecisionDiagrams" "cachedThirds" "[I" (.ref b9) := u882.same W896
  have u904 : Fld Z h896 dd "com/example/horizonte/horizonte/dd/DecisionDiagrams" "cachedResults" "[I" .null := u883.other W896 (Or.inr (slot_ne (Or.inl (hw _ (List.mem_of_getElem? (i := 100) rfl))) (Or.inl (hw _ (List.mem_of_getElem? (i := 98) rfl))) (by decide) (t := (.array .int)) (t' := (.array .int)) (by decide) (by decide)))
  have u905 : Fld Z h896 dd "com/example/horizonte/horizonte/dd/DecisionDiagrams" "weights" "[D" .null := u884.other W896 (Or.inr (slot_ne (Or.inl (hw _ (List.mem_of_getElem? (i := 102) rfl))) (Or.inl (hw _ (List.mem_of_getElem? (i := 98) rfl))) (by decide) (t := (.array .double)) (t' := (.array .int)) (by decide) (by decide)))
  have u906 : Fld Z h896 dd "com/example/horizonte/horizonte/dd/DecisionDiagrams" "weighed" "[I" .null := u885.other W896 (Or.inr (slot_ne (Or.inl (hw _ (List.mem_of_getElem? (i := 104) rfl))) (Or.inl (hw _ (List.mem_of_getElem? (i := 98) rfl))) (by decide) (t := (.array .int)) (t' := (.array .int)) (by decide) (by decide)))
  have u907 : Fld Z h896 dd "com/example/horizonte/horizonte/dd/DecisionDiagrams" "count" "I" (.int (0 : Int32)) := u886.other W896 (Or.inr (slot_ne (Or.inl (hw _ (List.mem_of_getElem? (i := 148) rfl))) (Or.inl (hw _ (List.mem_of_getElem? (i := 98) rfl))) (by decide) (t := .int) (t' := (.array .int)) (by decide) (by decide)))
  have u908 : Fld Z h896 dd "com/example/horizonte/horizonte/dd/DecisionDiagrams" "zero" "I" (.int (0 : Int32)) := u887.other W896 (Or.inr (slot_ne (Or.inr (hw _ (List.mem_of_getElem? (i := 150) rfl))) (Or.inl (hw _ (List.mem_of_getElem? (i := 98) rfl))) (by decide) (t := .int) (t' := (.array .int)) (by decide) (by decide)))
  have u909 : Fld Z h896 dd "com/example/horizonte/horizonte/dd/DecisionDiagrams" "one" "I" (.int (0 : Int32)) := u888.other W896 (Or.inr (slot_ne (Or.inr (hw _ (List.mem_of_getElem? (i := 152) rfl))) (Or.inl (hw _ (List.mem_of_getElem? (i := 98) rfl))) (by decide) (t := .int) (t' := (.array .int)) (by decide) (by decide)))
  have u910 : own_A Z h896 bv .int 1024 (fun _ => (.int 0)) := own_A_other u889 W896 (Ne.symm ne400)
  have u911 : own_A Z h896 bl .int 1024 (fun _ => (.int 0)) := own_A_other u890 W896 (Ne.symm ne443)
  have u912 : own_A Z h896 bh .int 1024 (fun _ => (.int 0)) := own_A_other u891 W896 (Ne.symm ne489)
  have u913 : own_A Z h896 bd .double 1024 (fun _ => (.double 0)) := own_A_other u892 W896 (Ne.symm ne538)
  have u914 : own_A Z h896 bs .int 2048 (fun _ => .int (-1)) := own_A_other u893 W896 (Ne.symm ne674)
  have u915 : Keep h0 h896 [dd] := u894.wr W896 (Or.inl (List.mem_of_getElem? (i := 0) rfl))
  refine go (T896.setTop (mkF m 102 #[.val (.ref dd)] [(.int (1024 : Int32)), (.ref dd)])) _ (fun t9 k9 => ?_) ?_
  · show Steps p.tables e below (T896.setTop (mkF m 98 #[.val (.ref dd)] [])) _
    refine XS.aloadN X896.here hx rfl (hb hby d1_98) rfl rfl ?_
    show Steps p.tables e below (T896.setTop (mkF m 99 #[.val (.ref dd)] [(.ref dd)])) _
    refine XS.sipush X896.here hx rfl (hb hby d1_99) ?_
    exact k9
  obtain ⟨T916, h916, k916, X916, e916, E916, A916, st916⟩ := newP X896 hx hZ (hw _ (List.mem_of_getElem? (i := 9) rfl)) e896 (g := (mkF m 102 #[.val (.ref dd)] [(.int (1024 : Int32)), (.ref dd)])) rfl (hb hby d1_102) rfl (by decide) (cap := 1024) (by decide) (by decide) (by decide) (by decide)
  obtain ⟨b10, g916⟩ : ∃ z, z = h896.size := ⟨_, rfl⟩
  rw [← g916] at A916 st916
  refine go (T916.setTop (mkF m 104 #[.val (.ref dd)] [(.ref b10), (.ref dd)])) _ (fun t9 k9 => st916 _ k9) ?_
  have ne917 : dd ≠ b10 := Nat.ne_of_lt (Nat.lt_of_lt_of_le u897.lt (Nat.le_of_eq g916.symm))
  have ne918 : bv ≠ b10 := Nat.ne_of_lt (Nat.lt_of_lt_of_le (own_A_lt u910) (Nat.le_of_eq g916.symm))
  have ne919 : bl ≠ b10 := Nat.ne_of_lt (Nat.lt_of_lt_of_le (own_A_lt u911) (Nat.le_of_eq g916.symm))
  have ne920 : bh ≠ b10 := Nat.ne_of_lt (Nat.lt_of_lt_of_le (own_A_lt u912) (Nat.le_of_eq g916.symm))
  have ne921 : bd ≠ b10 := Nat.ne_of_lt (Nat.lt_of_lt_of_le (own_A_lt u913) (Nat.le_of_eq g916.symm))
  have ne922 : bs ≠ b10 := Nat.ne_of_lt (Nat.lt_of_lt_of_le (own_A_lt u914) (Nat.le_of_eq g916.symm))
  have sz_b10 : h0.size ≤ b10 := Nat.le_trans u915.1 (Nat.le_of_eq g916.symm)
  have g_b10 : n0 ≤ b10 := Nat.le_trans Z0 sz_b10
  have u923 : Exa Z h916 dd "com/example/horizonte/horizonte/dd/DecisionDiagrams" := u897.ext E916
  have u924 : Fld Z h916 dd "com/example/horizonte/horizonte/dd/DecisionDiagrams" "variables" "[I" (.ref bv) := u898.ext E916
  have u925 : Fld Z h916 dd "com/example/horizonte/horizonte/dd/DecisionDiagrams" "lows" "[I" (.ref bl) := u899.ext E916
  have u926 : Fld Z h916 dd "com/example/horizonte/horizonte/dd/DecisionDiagrams" "highs" "[I" (.ref bh) := u900.ext E916
  have u927 : Fld Z h916 dd "com/example/horizonte/horizonte/dd/DecisionDiagrams" "values" "[D" (.ref bd) := u901.ext E916
  have u928 : Fld Z h916 dd "com/example/horizonte/horizonte/dd/DecisionDiagrams" "slots" "[I" (.ref bs) := u902.ext E916
  have u929 : Fld Z h916 dd "com/example/horizonte/horizonte/dd/DecisionDiagrams" "cachedResults" "[I" .null := u904.ext E916
  have u930 : Fld Z h916 dd "com/example/horizonte/horizonte/dd/DecisionDiagrams" "weights" "[D" .null := u905.ext E916
  have u931 : Fld Z h916 dd "com/example/horizonte/horizonte/dd/DecisionDiagrams" "weighed" "[I" .null := u906.ext E916
  have u932 : Fld Z h916 dd "com/example/horizonte/horizonte/dd/DecisionDiagrams" "count" "I" (.int (0 : Int32)) := u907.ext E916
  have u933 : Fld Z h916 dd "com/example/horizonte/horizonte/dd/DecisionDiagrams" "zero" "I" (.int (0 : Int32)) := u908.ext E916
  have u934 : Fld Z h916 dd "com/example/horizonte/horizonte/dd/DecisionDiagrams" "one" "I" (.int (0 : Int32)) := u909.ext E916
  have u935 : own_A Z h916 bv .int 1024 (fun _ => (.int 0)) := own_A_ext u910 E916
  have u936 : own_A Z h916 bl .int 1024 (fun _ => (.int 0)) := own_A_ext u911 E916
  have u937 : own_A Z h916 bh .int 1024 (fun _ => (.int 0)) := own_A_ext u912 E916
  have u938 : own_A Z h916 bd .double 1024 (fun _ => (.double 0)) := own_A_ext u913 E916
  have u939 : own_A Z h916 bs .int 2048 (fun _ => .int (-1)) := own_A_ext u914 E916
  have u940 : Keep h0 h916 [dd] := u915.ext E916
  have u941 : own_A Z h916 b10 .int 1024 (fun _ => (.int 0)) := own_A_new A916 rfl
  obtain ⟨T942, h942, X942, e942, W942, st942⟩ := putF X916 hx hZ hown (host := "") (Or.inl (hw _ (List.mem_of_getElem? (i := 99) rfl))) Via.refl e916 u929 u923 (Or.inl (hw _ (List.mem_of_getElem? (i := 100) rfl))) (hw _ (List.mem_of_getElem? (i := 1) rfl)) (ty := (.array .int)) (by decide) rfl rfl (g := (mkF m 104 #[.val (.ref dd)] [(.ref b10), (.ref dd)])) rfl rfl (hb hby d1_104)
  have N942 := Fr.snoc X942 N896 g_dd
  refine go (T942.setTop (mkF m 107 #[.val (.ref dd)] [])) _ (fun t9 k9 => st942 _ k9) ?_
  have u943 : Exa Z h942 dd "com/example/horizonte/horizonte/dd/DecisionDiagrams" := u923.wr W942
  have u944 : Fld Z h942 dd "com/example/horizonte/horizonte/dd/DecisionDiagrams" "variables" "[I" (.ref bv) := u924.other W942 (Or.inr (slot_ne (Or.inl (hw _ (List.mem_of_getElem? (i := 11) rfl))) (Or.inl (hw _ (List.mem_of_getElem? (i := 100) rfl))) (by decide) (t := (.array .int)) (t' := (.array .int)) (by decide) (by decide)))
  have u945 : Fld Z h942 dd "com/example/horizonte/horizonte/dd/DecisionDiagrams" "lows" "[I" (.ref bl) := u925.other W942 (Or.inr (slot_ne (Or.inl (hw _ (List.mem_of_getElem? (i := 13) rfl))) (Or.inl (hw _ (List.mem_of_getElem? (i := 100) rfl))) (by decide) (t := (.array .int)) (t' := (.array .int)) (by decide) (by decide)))
  have u946 : Fld Z h942 dd "com/example/horizonte/horizonte/dd/DecisionDiagrams" "highs" "[I" (.ref bh) := u926.other W942 (Or.inr (slot_ne (Or.inl (hw _ (List.mem_of_getElem? (i := 15) rfl))) (Or.inl (hw _ (List.mem_of_getElem? (i := 100) rfl))) (by decide) (t := (.array .int)) (t' := (.array .int)) (by decide) (by decide)))
  have u947 : Fld Z h942 dd "com/example/horizonte/horizonte/dd/DecisionDiagrams" "values" "[D" (.ref bd) := u927.other W942 (Or.inr (slot_ne (Or.inl (hw _ (List.mem_of_getElem? (i := 18) rfl))) (Or.inl (hw _ (List.mem_of_getElem? (i := 100) rfl))) (by decide) (t := (.array .double)) (t' := (.array .int)) (by decide) (by decide)))
  have u948 : Fld Z h942 dd "com/example/horizonte/horizonte/dd/DecisionDiagrams" "slots" "[I" (.ref bs) := u928.other W942 (Or.inr (slot_ne (Or.inl (hw _ (List.mem_of_getElem? (i := 90) rfl))) (Or.inl (hw _ (List.mem_of_getElem? (i := 100) rfl))) (by decide) (t := (.array .int)) (t' := (.array .int)) (by decide) (by decide)))
  have u949 : Fld Z h942 dd "com/example/horizonte/horizonte/dd/DecisionDiagrams" "cachedResults" "[I" (.ref b10) := u929.same W942
  have u950 : Fld Z h942 dd "com/example/horizonte/horizonte/dd/DecisionDiagrams" "weights" "[D" .null := u930.other W942 (Or.inr (slot_ne (Or.inl (hw _ (List.mem_of_getElem? (i := 102) rfl))) (Or.inl (hw _ (List.mem_of_getElem? (i := 100) rfl))) (by decide) (t := (.array .double)) (t' := (.array .int)) (by decide) (by decide)))
  have u951 : Fld Z h942 dd "com/example/horizonte/horizonte/dd/DecisionDiagrams" "weighed" "[I" .null := u931.other W942 (Or.inr (slot_ne (Or.inl (hw _ (List.mem_of_getElem? (i := 104) rfl))) (Or.inl (hw _ (List.mem_of_getElem? (i := 100) rfl))) (by decide) (t := (.array .int)) (t' := (.array .int)) (by decide) (by decide)))
  have u952 : Fld Z h942 dd "com/example/horizonte/horizonte/dd/DecisionDiagrams" "count" "I" (.int (0 : Int32)) := u932.other W942 (Or.inr (slot_ne (Or.inl (hw _ (List.mem_of_getElem? (i := 148) rfl))) (Or.inl (hw _ (List.mem_of_getElem? (i := 100) rfl))) (by decide) (t := .int) (t' := (.array .int)) (by decide) (by decide)))
  have u953 : Fld Z h942 dd "com/example/horizonte/horizonte/dd/DecisionDiagrams" "zero" "I" (.int (0 : Int32)) := u933.other W942 (Or.inr (slot_ne (Or.inr (hw _ (List.mem_of_getElem? (i := 150) rfl))) (Or.inl (hw _ (List.mem_of_getElem? (i := 100) rfl))) (by decide) (t := .int) (t' := (.array .int)) (by decide) (by decide)))
  have u954 : Fld Z h942 dd "com/example/horizonte/horizonte/dd/DecisionDiagrams" "one" "I" (.int (0 : Int32)) := u934.other W942 (Or.inr (slot_ne (Or.inr (hw _ (List.mem_of_getElem? (i := 152) rfl))) (Or.inl (hw _ (List.mem_of_getElem? (i := 100) rfl))) (by decide) (t := .int) (t' := (.array .int)) (by decide) (by decide)))
  have u955 : own_A Z h942 bv .int 1024 (fun _ => (.int 0)) := own_A_other u935 W942 (Ne.symm ne400)
  have u956 : own_A Z h942 bl .int 1024 (fun _ => (.int 0)) := own_A_other u936 W942 (Ne.symm ne443)
  have u957 : own_A Z h942 bh .int 1024 (fun _ => (.int 0)) := own_A_other u937 W942 (Ne.symm ne489)
  have u958 : own_A Z h942 bd .double 1024 (fun _ => (.double 0)) := own_A_other u938 W942 (Ne.symm ne538)
  have u959 : own_A Z h942 bs .int 2048 (fun _ => .int (-1)) := own_A_other u939 W942 (Ne.symm ne674)
  have u960 : Keep h0 h942 [dd] := u940.wr W942 (Or.inl (List.mem_of_getElem? (i := 0) rfl))
  refine go (T942.setTop (mkF m 111 #[.val (.ref dd)] [(.int (1024 : Int32)), (.ref dd)])) _ (fun t9 k9 => ?_) ?_
  · show Steps p.tables e below (T942.setTop (mkF m 107 #[.val (.ref dd)] [])) _
    refine XS.aloadN X942.here hx rfl (hb hby d1_107) rfl rfl ?_
    show Steps p.tables e below (T942.setTop (mkF m 108 #[.val (.ref dd)] [(.ref dd)])) _
    refine XS.sipush X942.here hx rfl (hb hby d1_108) ?_
    exact k9
  obtain ⟨T961, h961, k961, X961, e961, E961, A961, st961⟩ := newP X942 hx hZ (hw _ (List.mem_of_getElem? (i := 16) rfl)) e942 (g := (mkF m 111 #[.val (.ref dd)] [(.int (1024 : Int32)), (.ref dd)])) rfl (hb hby d1_111) rfl (by decide) (cap := 1024) (by decide) (by decide) (by decide) (by decide)
  obtain ⟨b11, g961⟩ : ∃ z, z = h942.size := ⟨_, rfl⟩
  rw [← g961] at A961 st961
  refine go (T961.setTop (mkF m 113 #[.val (.ref dd)] [(.ref b11), (.ref dd)])) _ (fun t9 k9 => st961 _ k9) ?_
  have ne962 : dd ≠ b11 := Nat.ne_of_lt (Nat.lt_of_lt_of_le u943.lt (Nat.le_of_eq g961.symm))
  have ne963 : bv ≠ b11 := Nat.ne_of_lt (Nat.lt_of_lt_of_le (own_A_lt u955) (Nat.le_of_eq g961.symm))
  have ne964 : bl ≠ b11 := Nat.ne_of_lt (Nat.lt_of_lt_of_le (own_A_lt u956) (Nat.le_of_eq g961.symm))
  have ne965 : bh ≠ b11 := Nat.ne_of_lt (Nat.lt_of_lt_of_le (own_A_lt u957) (Nat.le_of_eq g961.symm))
  have ne966 : bd ≠ b11 := Nat.ne_of_lt (Nat.lt_of_lt_of_le (own_A_lt u958) (Nat.le_of_eq g961.symm))
  have ne967 : bs ≠ b11 := Nat.ne_of_lt (Nat.lt_of_lt_of_le (own_A_lt u959) (Nat.le_of_eq g961.symm))
  have sz_b11 : h0.size ≤ b11 := Nat.le_trans u960.1 (Nat.le_of_eq g961.symm)
  have g_b11 : n0 ≤ b11 := Nat.le_trans Z0 sz_b11
  have u968 : Exa Z h961 dd "com/example/horizonte/horizonte/dd/DecisionDiagrams" := u943.ext E961
  have u969 : Fld Z h961 dd "com/example/horizonte/horizonte/dd/DecisionDiagrams" "variables" "[I" (.ref bv) := u944.ext E961
  have u970 : Fld Z h961 dd "com/example/horizonte/horizonte/dd/DecisionDiagrams" "lows" "[I" (.ref bl) := u945.ext E961
  have u971 : Fld Z h961 dd "com/example/horizonte/horizonte/dd/DecisionDiagrams" "highs" "[I" (.ref bh) := u946.ext E961
  have u972 : Fld Z h961 dd "com/example/horizonte/horizonte/dd/DecisionDiagrams" "values" "[D" (.ref bd) := u947.ext E961
  have u973 : Fld Z h961 dd "com/example/horizonte/horizonte/dd/DecisionDiagrams" "slots" "[I" (.ref bs) := u948.ext E961
  have u974 : Fld Z h961 dd "com/example/horizonte/horizonte/dd/DecisionDiagrams" "weights" "[D" .null := u950.ext E961
  have u975 : Fld Z h961 dd "com/example/horizonte/horizonte/dd/DecisionDiagrams" "weighed" "[I" .null := u951.ext E961
  have u976 : Fld Z h961 dd "com/example/horizonte/horizonte/dd/DecisionDiagrams" "count" "I" (.int (0 : Int32)) := u952.ext E961
  have u977 : Fld Z h961 dd "com/example/horizonte/horizonte/dd/DecisionDiagrams" "zero" "I" (.int (0 : Int32)) := u953.ext E961
  have u978 : Fld Z h961 dd "com/example/horizonte/horizonte/dd/DecisionDiagrams" "one" "I" (.int (0 : Int32)) := u954.ext E961
  have u979 : own_A Z h961 bv .int 1024 (fun _ => (.int 0)) := own_A_ext u955 E961
  have u980 : own_A Z h961 bl .int 1024 (fun _ => (.int 0)) := own_A_ext u956 E961
  have u981 : own_A Z h961 bh .int 1024 (fun _ => (.int 0)) := own_A_ext u957 E961
  have u982 : own_A Z h961 bd .double 1024 (fun _ => (.double 0)) := own_A_ext u958 E961
  have u983 : own_A Z h961 bs .int 2048 (fun _ => .int (-1)) := own_A_ext u959 E961
  have u984 : Keep h0 h961 [dd] := u960.ext E961
  have u985 : own_A Z h961 b11 .double 1024 (fun _ => (.double 0)) := own_A_new A961 rfl
  obtain ⟨T986, h986, X986, e986, W986, st986⟩ := putF X961 hx hZ hown (host := "") (Or.inl (hw _ (List.mem_of_getElem? (i := 101) rfl))) Via.refl e961 u974 u968 (Or.inl (hw _ (List.mem_of_getElem? (i := 102) rfl))) (hw _ (List.mem_of_getElem? (i := 1) rfl)) (ty := (.array .double)) (by decide) rfl rfl (g := (mkF m 113 #[.val (.ref dd)] [(.ref b11), (.ref dd)])) rfl rfl (hb hby d1_113)
  have N986 := Fr.snoc X986 N942 g_dd
  refine go (T986.setTop (mkF m 116 #[.val (.ref dd)] [])) _ (fun t9 k9 => st986 _ k9) ?_
  have u987 : Exa Z h986 dd "com/example/horizonte/horizonte/dd/DecisionDiagrams" := u968.wr W986
  have u988 : Fld Z h986 dd "com/example/horizonte/horizonte/dd/DecisionDiagrams" "variables" "[I" (.ref bv) := u969.other W986 (Or.inr (slot_ne (Or.inl (hw _ (List.mem_of_getElem? (i := 11) rfl))) (Or.inl (hw _ (List.mem_of_getElem? (i := 102) rfl))) (by decide) (t := (.array .int)) (t' := (.array .double)) (by decide) (by decide)))
  have u989 : Fld Z h986 dd "com/example/horizonte/horizonte/dd/DecisionDiagrams" "lows" "[I" (.ref bl) := u970.other W986 (Or.inr (slot_ne (Or.inl (hw _ (List.mem_of_getElem? (i := 13) rfl))) (Or.inl (hw _ (List.mem_of_getElem? (i := 102) rfl))) (by decide) (t := (.array .int)) (t' := (.array .double)) (by decide) (by decide)))
  have u990 : Fld Z h986 dd "com/example/horizonte/horizonte/dd/DecisionDiagrams" "highs" "[I" (.ref bh) := u971.other W986 (Or.inr (slot_ne (Or.inl (hw _ (List.mem_of_getElem? (i := 15) rfl))) (Or.inl (hw _ (List.mem_of_getElem? (i := 102) rfl))) (by decide) (t := (.array .int)) (t' := (.array .double)) (by decide) (by decide)))
  have u991 : Fld Z h986 dd "com/example/horizonte/horizonte/dd/DecisionDiagrams" "values" "[D" (.ref bd) := u972.other W986 (Or.inr (slot_ne (Or.inl (hw _ (List.mem_of_getElem? (i := 18) rfl))) (Or.inl (hw _ (List.mem_of_getElem? (i := 102) rfl))) (by decide) (t := (.array .double)) (t' := (.array .double)) (by decide) (by decide)))
  have u992 : Fld Z h986 dd "com/example/horizonte/horizonte/dd/DecisionDiagrams" "slots" "[I" (.ref bs) := u973.other W986 (Or.inr (slot_ne (Or.inl (hw _ (List.mem_of_getElem? (i := 90) rfl))) (Or.inl (hw _ (List.mem_of_getElem? (i := 102) rfl))) (by decide) (t := (.array .int)) (t' := (.array .double)) (by decide) (by decide)))
  have u993 : Fld Z h986 dd "com/example/horizonte/horizonte/dd/DecisionDiagrams" "weights" "[D" (.ref b11) := u974.same W986
  have u994 : Fld Z h986 dd "com/example/horizonte/horizonte/dd/DecisionDiagrams" "weighed" "[I" .null := u975.other W986 (Or.inr (slot_ne (Or.inl (hw _ (List.mem_of_getElem? (i := 104) rfl))) (Or.inl (hw _ (List.mem_of_getElem? (i := 102) rfl))) (by decide) (t := (.array .int)) (t' := (.array .double)) (by decide) (by decide)))
  have u995 : Fld Z h986 dd "com/example/horizonte/horizonte/dd/DecisionDiagrams" "count" "I" (.int (0 : Int32)) := u976.other W986 (Or.inr (slot_ne (Or.inl (hw _ (List.mem_of_getElem? (i := 148) rfl))) (Or.inl (hw _ (List.mem_of_getElem? (i := 102) rfl))) (by decide) (t := .int) (t' := (.array .double)) (by decide) (by decide)))
  have u996 : Fld Z h986 dd "com/example/horizonte/horizonte/dd/DecisionDiagrams" "zero" "I" (.int (0 : Int32)) := u977.other W986 (Or.inr (slot_ne (Or.inr (hw _ (List.mem_of_getElem? (i := 150) rfl))) (Or.inl (hw _ (List.mem_of_getElem? (i := 102) rfl))) (by decide) (t := .int) (t' := (.array .double)) (by decide) (by decide)))
  have u997 : Fld Z h986 dd "com/example/horizonte/horizonte/dd/DecisionDiagrams" "one" "I" (.int (0 : Int32)) := u978.other W986 (Or.inr (slot_ne (Or.inr (hw _ (List.mem_of_getElem? (i := 152) rfl))) (Or.inl (hw _ (List.mem_of_getElem? (i := 102) rfl))) (by decide) (t := .int) (t' := (.array .double)) (by decide) (by decide)))
  have u998 : own_A Z h986 bv .int 1024 (fun _ => (.int 0)) := own_A_other u979 W986 (Ne.symm ne400)
  have u999 : own_A Z h986 bl .int 1024 (fun _ => (.int 0)) := own_A_other u980 W986 (Ne.symm ne443)
  have u1000 : own_A Z h986 bh .int 1024 (fun _ => (.int 0)) := own_A_other u981 W986 (Ne.symm ne489)
  have u1001 : own_A Z h986 bd .double 1024 (fun _ => (.double 0)) := own_A_other u982 W986 (Ne.symm ne538)
  have u1002 : own_A Z h986 bs .int 2048 (fun _ => .int (-1)) := own_A_other u983 W986 (Ne.symm ne674)
  have u1003 : Keep h0 h986 [dd] := u984.wr W986 (Or.inl (List.mem_of_getElem? (i := 0) rfl))
  refine go (T986.setTop (mkF m 120 #[.val (.ref dd)] [(.int (2048 : Int32)), (.ref dd)])) _ (fun t9 k9 => ?_) ?_
  · show Steps p.tables e below (T986.setTop (mkF m 116 #[.val (.ref dd)] [])) _
    refine XS.aloadN X986.here hx rfl (hb hby d1_116) rfl rfl ?_
    show Steps p.tables e below (T986.setTop (mkF m 117 #[.val (.ref dd)] [(.ref dd)])) _
    refine XS.sipush X986.here hx rfl (hb hby d1_117) ?_
    exact k9
  obtain ⟨T1004, h1004, k1004, X1004, e1004, E1004, A1004, st1004⟩ := newP X986 hx hZ (hw _ (List.mem_of_getElem? (i := 9) rfl)) e986 (g := (mkF m 120 #[.val (.ref dd)] [(.int (2048 : Int32)), (.ref dd)])) rfl (hb hby d1_120) rfl (by decide) (cap := 2048) (by decide) (by decide) (by decide) (by decide)
  obtain ⟨b12, g1004⟩ : ∃ z, z = h986.size := ⟨_, rfl⟩
  rw [← g1004] at A1004 st1004
  refine go (T1004.setTop (mkF m 122 #[.val (.ref dd)] [(.ref b12), (.ref dd)])) _ (fun t9 k9 => st1004 _ k9) ?_
  have ne1005 : dd ≠ b12 := Nat.ne_of_lt (Nat.lt_of_lt_of_le u987.lt (Nat.le_of_eq g1004.symm))
  have ne1006 : bv ≠ b12 := Nat.ne_of_lt (Nat.lt_of_lt_of_le (own_A_lt u998) (Nat.le_of_eq g1004.symm))
  have ne1007 : bl ≠ b12 := Nat.ne_of_lt (Nat.lt_of_lt_of_le (own_A_lt u999) (Nat.le_of_eq g1004.symm))
  have ne1008 : bh ≠ b12 := Nat.ne_of_lt (Nat.lt_of_lt_of_le (own_A_lt u1000) (Nat.le_of_eq g1004.symm))
  have ne1009 : bd ≠ b12 := Nat.ne_of_lt (Nat.lt_of_lt_of_le (own_A_lt u1001) (Nat.le_of_eq g1004.symm))
  have ne1010 : bs ≠ b12 := Nat.ne_of_lt (Nat.lt_of_lt_of_le (own_A_lt u1002) (Nat.le_of_eq g1004.symm))
  have sz_b12 : h0.size ≤ b12 := Nat.le_trans u1003.1 (Nat.le_of_eq g1004.symm)
  have g_b12 : n0 ≤ b12 := Nat.le_trans Z0 sz_b12
  have u1011 : Exa Z h1004 dd "com/example/horizonte/horizonte/dd/DecisionDiagrams" := u987.ext E1004
  have u1012 : Fld Z h1004 dd "com/example/horizonte/horizonte/dd/DecisionDiagrams" "variables" "[I" (.ref bv) := u988.ext E1004
  have u1013 : Fld Z h1004 dd "com/example/horizonte/horizonte/dd/DecisionDiagrams" "lows" "[I" (.ref bl) := u989.ext E1004
  have u1014 : Fld Z h1004 dd "com/example/horizonte/horizonte/dd/DecisionDiagrams" "highs" "[I" (.ref bh) := u990.ext E1004
  have u1015 : Fld Z h1004 dd "com/example/horizonte/horizonte/dd/DecisionDiagrams" "values" "[D" (.ref bd) := u991.ext E1004
  have u1016 : Fld Z h1004 dd "com/example/horizonte/horizonte/dd/DecisionDiagrams" "slots" "[I" (.ref bs) := u992.ext E1004
  have u1017 : Fld Z h1004 dd "com/example/horizonte/horizonte/dd/DecisionDiagrams" "weighed" "[I" .null := u994.ext E1004
  have u1018 : Fld Z h1004 dd "com/example/horizonte/horizonte/dd/DecisionDiagrams" "count" "I" (.int (0 : Int32)) := u995.ext E1004
  have u1019 : Fld Z h1004 dd "com/example/horizonte/horizonte/dd/DecisionDiagrams" "zero" "I" (.int (0 : Int32)) := u996.ext E1004
  have u1020 : Fld Z h1004 dd "com/example/horizonte/horizonte/dd/DecisionDiagrams" "one" "I" (.int (0 : Int32)) := u997.ext E1004
  have u1021 : own_A Z h1004 bv .int 1024 (fun _ => (.int 0)) := own_A_ext u998 E1004
  have u1022 : own_A Z h1004 bl .int 1024 (fun _ => (.int 0)) := own_A_ext u999 E1004
  have u1023 : own_A Z h1004 bh .int 1024 (fun _ => (.int 0)) := own_A_ext u1000 E1004
  have u1024 : own_A Z h1004 bd .double 1024 (fun _ => (.double 0)) := own_A_ext u1001 E1004
  have u1025 : own_A Z h1004 bs .int 2048 (fun _ => .int (-1)) := own_A_ext u1002 E1004
  have u1026 : Keep h0 h1004 [dd] := u1003.ext E1004
  have u1027 : own_A Z h1004 b12 .int 2048 (fun _ => (.int 0)) := own_A_new A1004 rfl
  obtain ⟨T1028, h1028, X1028, e1028, W1028, st1028⟩ := putF X1004 hx hZ hown (host := "") (Or.inl (hw _ (List.mem_of_getElem? (i := 103) rfl))) Via.refl e1004 u1017 u1011 (Or.inl (hw _ (List.mem_of_getElem? (i := 104) rfl))) (hw _ (List.mem_of_getElem? (i := 1) rfl)) (ty := (.array .int)) (by decide) rfl rfl (g := (mkF m 122 #[.val (.ref dd)] [(.ref b12), (.ref dd)])) rfl rfl (hb hby d1_122)
  have N1028 := Fr.snoc X1028 N986 g_dd
  refine go (T1028.setTop (mkF m 125 #[.val (.ref dd)] [])) _ (fun t9 k9 => st1028 _ k9) ?_
  have u1029 : Exa Z h1028 dd "com/example/horizonte/horizonte/dd/DecisionDiagrams" := u1011.wr W1028
  have u1030 : Fld Z h1028 dd "com/example/horizonte/horizonte/dd/DecisionDiagrams" "variables" "[I" (.ref bv) := u1012.other W1028 (Or.inr (slot_ne (Or.inl (hw _ (List.mem_of_getElem? (i := 11) rfl))) (Or.inl (hw _ (List.mem_of_getElem? (i := 104) rfl))) (by decide) (t := (.array .int)) (t' := (.array .int)) (by decide) (by decide)))
  have u1031 : Fld Z h1028 dd "com/example/horizonte/horizonte/dd/DecisionDiagrams" "lows" "[I" (.ref bl) := u1013.other W1028 (Or.inr (slot_ne (Or.inl (hw _ (List.mem_of_getElem? (i := 13) rfl))) (Or.inl (hw _ (List.mem_of_getElem? (i := 104) rfl))) (by decide) (t := (.array .int)) (t' := (.array .int)) (by decide) (by decide)))
  have u1032 : Fld Z h1028 dd "com/example/horizonte/horizonte/dd/DecisionDiagrams" "highs" "[I" (.ref bh) := u1014.other W1028 (Or.inr (slot_ne (Or.inl (hw _ (List.mem_of_getElem? (i := 15) rfl))) (Or.inl (hw _ (List.mem_of_getElem? (i := 104) rfl))) (by decide) (t := (.array .int)) (t' := (.array .int)) (by decide) (by decide)))
  have u1033 : Fld Z h1028 dd "com/example/horizonte/horizonte/dd/DecisionDiagrams" "values" "[D" (.ref bd) := u1015.other W1028 (Or.inr (slot_ne (Or.inl (hw _ (List.mem_of_getElem? (i := 18) rfl))) (Or.inl (hw _ (List.mem_of_getElem? (i := 104) rfl))) (by decide) (t := (.array .double)) (t' := (.array .int)) (by decide) (by decide)))
  have u1034 : Fld Z h1028 dd "com/example/horizonte/horizonte/dd/DecisionDiagrams" "slots" "[I" (.ref bs) := u1016.other W1028 (Or.inr (slot_ne (Or.inl (hw _ (List.mem_of_getElem? (i := 90) rfl))) (Or.inl (hw _ (List.mem_of_getElem? (i := 104) rfl))) (by decide) (t := (.array .int)) (t' := (.array .int)) (by decide) (by decide)))
  have u1035 : Fld Z h1028 dd "com/example/horizonte/horizonte/dd/DecisionDiagrams" "weighed" "[I" (.ref b12) := u1017.same W1028
  have u1036 : Fld Z h1028 dd "com/example/horizonte/horizonte/dd/DecisionDiagrams" "count" "I" (.int (0 : Int32)) := u1018.other W1028 (Or.inr (slot_ne (Or.inl (hw _ (List.mem_of_getElem? (i := 148) rfl))) (Or.inl (hw _ (List.mem_of_getElem? (i := 104) rfl))) (by decide) (t := .int) (t' := (.array .int)) (by decide) (by decide)))
  have u1037 : Fld Z h1028 dd "com/example/horizonte/horizonte/dd/DecisionDiagrams" "zero" "I" (.int (0 : Int32)) := u1019.other W1028 (Or.inr (slot_ne (Or.inr (hw _ (List.mem_of_getElem? (i := 150) rfl))) (Or.inl (hw _ (List.mem_of_getElem? (i := 104) rfl))) (by decide) (t := .int) (t' := (.array .int)) (by decide) (by decide)))
  have u1038 : Fld Z h1028 dd "com/example/horizonte/horizonte/dd/DecisionDiagrams" "one" "I" (.int (0 : Int32)) := u1020.other W1028 (Or.inr (slot_ne (Or.inr (hw _ (List.mem_of_getElem? (i := 152) rfl))) (Or.inl (hw _ (List.mem_of_getElem? (i := 104) rfl))) (by decide) (t := .int) (t' := (.array .int)) (by decide) (by decide)))
  have u1039 : own_A Z h1028 bv .int 1024 (fun _ => (.int 0)) := own_A_other u1021 W1028 (Ne.symm ne400)
  have u1040 : own_A Z h1028 bl .int 1024 (fun _ => (.int 0)) := own_A_other u1022 W1028 (Ne.symm ne443)
  have u1041 : own_A Z h1028 bh .int 1024 (fun _ => (.int 0)) := own_A_other u1023 W1028 (Ne.symm ne489)
  have u1042 : own_A Z h1028 bd .double 1024 (fun _ => (.double 0)) := own_A_other u1024 W1028 (Ne.symm ne538)
  have u1043 : own_A Z h1028 bs .int 2048 (fun _ => .int (-1)) := own_A_other u1025 W1028 (Ne.symm ne674)
  have u1044 : Keep h0 h1028 [dd] := u1026.wr W1028 (Or.inl (List.mem_of_getElem? (i := 0) rfl))
  refine go (T1028.setTop (mkF m 128 #[.val (.ref dd)] [(.double (0 : UInt64)), (.ref dd), (.ref dd)])) _ (fun t9 k9 => ?_) ?_
  · show Steps p.tables e below (T1028.setTop (mkF m 125 #[.val (.ref dd)] [])) _
    refine XS.aloadN X1028.here hx rfl (hb hby d1_125) rfl rfl ?_
    show Steps p.tables e below (T1028.setTop (mkF m 126 #[.val (.ref dd)] [(.ref dd)])) _
    refine XS.aloadN X1028.here hx rfl (hb hby d1_126) rfl rfl ?_
    show Steps p.tables e below (T1028.setTop (mkF m 127 #[.val (.ref dd)] [(.ref dd), (.ref dd)])) _
    refine XS.dconst0 X1028.here hx rfl (hb hby d1_127) rfl ?_
    exact k9
  have m_dd_bv : dd ≠ bv := ne400
  have m_dd_bl : dd ≠ bl := ne443
  have m_dd_bh : dd ≠ bh := ne489
  have m_dd_bd : dd ≠ bd := ne538
  have m_dd_bs : dd ≠ bs := ne674
  have m_bv_bl : bv ≠ bl := ne444
  have m_bv_bh : bv ≠ bh := ne490
  have m_bv_bd : bv ≠ bd := ne539
  have m_bv_bs : bv ≠ bs := ne675
  have m_bl_bh : bl ≠ bh := ne491
  have m_bl_bd : bl ≠ bd := ne540
  have m_bl_bs : bl ≠ bs := ne676
  have m_bh_bd : bh ≠ bd := ne541
  have m_bh_bs : bh ≠ bs := ne677
  have m_bd_bs : bd ≠ bs := ne678
  have NE : own_Ne dd bv bl bh bd bs := ⟨m_dd_bv, m_dd_bl, m_dd_bh, m_dd_bd, m_dd_bs, m_bv_bl, m_bv_bh, m_bv_bd, m_bv_bs, m_bl_bh, m_bl_bd, m_bl_bs, m_bh_bd, m_bh_bs, m_bd_bs⟩
  have GS : own_Gs n0 dd bv bl bh bd bs := ⟨g_dd, g_bv, g_bl, g_bh, g_bd, g_bs⟩
  have HD0 : own_Dd Z h1028 dd bv bl bh bd bs 0 (fun _ => (0 : Int32)) (fun _ => (0 : Int32)) (fun _ => (0 : Int32)) (fun _ => (0 : UInt64)) (fun _ => (-1 : Int32)) 0 0 := ⟨u1029, u1030, u1031, u1032, u1033, u1034, u1036, u1037, u1038, u1039, u1040, u1041, u1042, u1043⟩
  obtain ⟨cq1045, kq1045, q1045a, q1045b, q1045c⟩ := isOf hZ e1028 u1029
  obtain ⟨_, _, ⟨T1045, L1045, k1045, n1045⟩, -, X1045, ⟨Lc1045, hQ1045, l1045, y1045, z1045⟩, st1045⟩ := X1028.virtualBack hx (y := (⟨"com/example/horizonte/horizonte/dd/DecisionDiagrams", "constant", "(D)I"⟩ : MethodName)) (z := (⟨"com/example/horizonte/horizonte/dd/DecisionDiagrams", "constant", "(D)I"⟩ : MethodName)) hown (mvT hZ (hw _ (List.mem_of_getElem? (i := 105) rfl))) (mvT hZ (hw _ (List.mem_of_getElem? (i := 106) rfl))) (notFace_of_selects (args := #[]) (mvT hZ (hw _ (List.mem_of_getElem? (i := 108) rfl)))) (mvT hZ (hw _ (List.mem_of_getElem? (i := 108) rfl))) (mvT hZ (hw _ (List.mem_of_getElem? (i := 107) rfl))) (by decide) (backOf (W := 1) (rm11 l Z a0 hw [] dd (0 : UInt64) bv bl bh bd bs 0 (fun _ => (0 : Int32)) (fun _ => (0 : Int32)) (fun _ => (0 : Int32)) (fun _ => (0 : UInt64)) (fun _ => (-1 : Int32)) 0 0 h1028 n0 (Nat.le_trans Z0 u1044.1) HD0 (own_Ok0 _) NE GS (by decide) own_fin0 own_add0) hZ (hw _ (List.mem_of_getElem? (i := 109) rfl)) (hw _ (List.mem_of_getElem? (i := 2) rfl)) (by decide) (by decide)) q1045a q1045c (g := (mkF m 128 #[.val (.ref dd)] [(.double (0 : UInt64)), (.ref dd), (.ref dd)])) rfl (by rw [hml]; rfl) (Steps.refl _) (argsL := [(.double (0 : UInt64))]) (rest := [(.ref dd)]) (lenOf pd__28D_29I rfl) rfl (by show 2 * 0 + _ ≤ _; exact Nat.le_of_eq rfl) (hb hby d1_128) (fun _ _ => ⟨rfl, e1028, (by decide : 20 + 0 ≤ _), (by decide : 15395 + 0 ≤ _)⟩)
  dsimp only [Pt.U, Pt.locs, Pt.cells, Pt.slots] at X1045 l1045 y1045 z1045 st1045 hQ1045
  subst l1045 y1045 z1045
  obtain ⟨r1, c1, v1, lo1, hi1, dv1, sl1, rfl, N1045q, K1, D1, O1, R1⟩ := hQ1045
  have N1045 := Fr.app N1028 N1045q
  refine go (T1045.setTop (mkF m 131 #[.val (.ref dd)] [(.int (Int32.ofNat r1)), (.ref dd)])) _ (fun t9 k9 => st1045.trans k9) ?_
  have u1046 : Exa Z T1045.heap dd "com/example/horizonte/horizonte/dd/DecisionDiagrams" := u1029.keep K1
  have u1047 : Keep h0 T1045.heap [dd] := u1044.trans K1 (allS (Or.inl (List.mem_of_getElem? (i := 0) rfl)) (allS (Or.inr sz_bv) (allS (Or.inr sz_bl) (allS (Or.inr sz_bh) (allS (Or.inr sz_bd) (allS (Or.inr sz_bs) all0))))))
  obtain ⟨y1048_E, y1048_F0, y1048_F1, y1048_F2, y1048_F3, y1048_F4, y1048_F5, y1048_F6, y1048_F7, y1048_A0, y1048_A1, y1048_A2, y1048_A3, y1048_A4⟩ := D1
  obtain ⟨R1a, R1b, R1c, R1d, R1e, R1f, R1g, R1h⟩ := R1
  obtain rfl : c1 = 1 := by omega
  obtain rfl : r1 = 0 := by omega
  obtain ⟨T1049, h1049, X1049, e1049, W1049, st1049⟩ := putF X1045 hx hZ hown (host := "") (Or.inl (hw _ (List.mem_of_getElem? (i := 149) rfl))) Via.refl rfl y1048_F6 y1048_E (Or.inr ⟨(hw _ (List.mem_of_getElem? (i := 150) rfl)), rfl, hnm⟩) (hw _ (List.mem_of_getElem? (i := 1) rfl)) (ty := .int) (by decide) rfl rfl (g := (mkF m 131 #[.val (.ref dd)] [(.int (0 : Int32)), (.ref dd)])) rfl rfl (hb hby d1_131)
  have N1049 := Fr.snoc X1049 N1045 g_dd
  refine go (T1049.setTop (mkF m 134 #[.val (.ref dd)] [])) _ (fun t9 k9 => st1049 _ k9) ?_
  have u1050 : Exa Z h1049 dd "com/example/horizonte/horizonte/dd/DecisionDiagrams" := y1048_E.wr W1049
  have u1051 : Fld Z h1049 dd "com/example/horizonte/horizonte/dd/DecisionDiagrams" "variables" "[I" (.ref bv) := y1048_F0.other W1049 (Or.inr (slot_ne (Or.inl (hw _ (List.mem_of_getElem? (i := 11) rfl))) (Or.inr (hw _ (List.mem_of_getElem? (i := 150) rfl))) (by decide) (t := (.array .int)) (t' := .int) (by decide) (by decide)))
  have u1052 : Fld Z h1049 dd "com/example/horizonte/horizonte/dd/DecisionDiagrams" "lows" "[I" (.ref bl) := y1048_F1.other W1049 (Or.inr (slot_ne (Or.inl (hw _ (List.mem_of_getElem? (i := 13) rfl))) (Or.inr (hw _ (List.mem_of_getElem? (i := 150) rfl))) (by decide) (t := (.array .int)) (t' := .int) (by decide) (by decide)))
  have u1053 : Fld Z h1049 dd "com/example/horizonte/horizonte/dd/DecisionDiagrams" "highs" "[I" (.ref bh) := y1048_F2.other W1049 (Or.inr (slot_ne (Or.inl (hw _ (List.mem_of_getElem? (i := 15) rfl))) (Or.inr (hw _ (List.mem_of_getElem? (i := 150) rfl))) (by decide) (t := (.array .int)) (t' := .int) (by decide) (by decide)))
  have u1054 : Fld Z h1049 dd "com/example/horizonte/horizonte/dd/DecisionDiagrams" "values" "[D" (.ref bd) := y1048_F3.other W1049 (Or.inr (slot_ne (Or.inl (hw _ (List.mem_of_getElem? (i := 18) rfl))) (Or.inr (hw _ (List.mem_of_getElem? (i := 150) rfl))) (by decide) (t := (.array .double)) (t' := .int) (by decide) (by decide)))
  have u1055 : Fld Z h1049 dd "com/example/horizonte/horizonte/dd/DecisionDiagrams" "slots" "[I" (.ref bs) := y1048_F4.other W1049 (Or.inr (slot_ne (Or.inl (hw _ (List.mem_of_getElem? (i := 90) rfl))) (Or.inr (hw _ (List.mem_of_getElem? (i := 150) rfl))) (by decide) (t := (.array .int)) (t' := .int) (by decide) (by decide)))
  have u1056 : Fld Z h1049 dd "com/example/horizonte/horizonte/dd/DecisionDiagrams" "count" "I" (.int (Int32.ofNat 1)) := y1048_F5.other W1049 (Or.inr (slot_ne (Or.inl (hw _ (List.mem_of_getElem? (i := 148) rfl))) (Or.inr (hw _ (List.mem_of_getElem? (i := 150) rfl))) (by decide) (t := .int) (t' := .int) (by decide) (by decide)))
  have u1057 : Fld Z h1049 dd "com/example/horizonte/horizonte/dd/DecisionDiagrams" "zero" "I" (.int (0 : Int32)) := y1048_F6.same W1049
  have u1058 : Fld Z h1049 dd "com/example/horizonte/horizonte/dd/DecisionDiagrams" "one" "I" (.int 0) := y1048_F7.other W1049 (Or.inr (slot_ne (Or.inr (hw _ (List.mem_of_getElem? (i := 152) rfl))) (Or.inr (hw _ (List.mem_of_getElem? (i := 150) rfl))) (by decide) (t := .int) (t' := .int) (by decide) (by decide)))
  have u1059 : own_A Z h1049 bv .int 1024 (fun j => .int (v1 j)) := own_A_other y1048_A0 W1049 (Ne.symm ne400)
  have u1060 : own_A Z h1049 bl .int 1024 (fun j => .int (lo1 j)) := own_A_other y1048_A1 W1049 (Ne.symm ne443)
  have u1061 : own_A Z h1049 bh .int 1024 (fun j => .int (hi1 j)) := own_A_other y1048_A2 W1049 (Ne.symm ne489)
  have u1062 : own_A Z h1049 bd .double 1024 (fun j => .double (dv1 j)) := own_A_other y1048_A3 W1049 (Ne.symm ne538)
  have u1063 : own_A Z h1049 bs .int 2048 (fun j => .int (sl1 j)) := own_A_other y1048_A4 W1049 (Ne.symm ne674)
  have u1064 : Keep h0 h1049 [dd] := u1047.wr W1049 (Or.inl (List.mem_of_getElem? (i := 0) rfl))
  have HD1 : own_Dd Z h1049 dd bv bl bh bd bs 1 v1 lo1 hi1 dv1 sl1 0 0 := ⟨u1050, u1051, u1052, u1053, u1054, u1055, u1056, u1057, u1058, u1059, u1060, u1061, u1062, u1063⟩
  refine go (T1049.setTop (mkF m 137 #[.val (.ref dd)] [(.double (4607182418800017408 : UInt64)), (.ref dd), (.ref dd)])) _ (fun t9 k9 => ?_) ?_
  · show Steps p.tables e below (T1049.setTop (mkF m 134 #[.val (.ref dd)] [])) _
    refine XS.aloadN X1049.here hx rfl (hb hby d1_134) rfl rfl ?_
    show Steps p.tables e below (T1049.setTop (mkF m 135 #[.val (.ref dd)] [(.ref dd)])) _
    refine XS.aloadN X1049.here hx rfl (hb hby d1_135) rfl rfl ?_
    show Steps p.tables e below (T1049.setTop (mkF m 136 #[.val (.ref dd)] [(.ref dd), (.ref dd)])) _
    refine XS.dconst1 X1049.here hx rfl (hb hby d1_136) rfl ?_
    exact k9
  obtain ⟨cq1065, kq1065, q1065a, q1065b, q1065c⟩ := isOf hZ e1049 u1050
  obtain ⟨_, _, ⟨T1065, L1065, k1065, n1065⟩, -, X1065, ⟨Lc1065, hQ1065, l1065, y1065, z1065⟩, st1065⟩ := X1049.virtualBack hx (y := (⟨"com/example/horizonte/horizonte/dd/DecisionDiagrams", "constant", "(D)I"⟩ : MethodName)) (z := (⟨"com/example/horizonte/horizonte/dd/DecisionDiagrams", "constant", "(D)I"⟩ : MethodName)) hown (mvT hZ (hw _ (List.mem_of_getElem? (i := 105) rfl))) (mvT hZ (hw _ (List.mem_of_getElem? (i := 106) rfl))) (notFace_of_selects (args := #[]) (mvT hZ (hw _ (List.mem_of_getElem? (i := 108) rfl)))) (mvT hZ (hw _ (List.mem_of_getElem? (i := 108) rfl))) (mvT hZ (hw _ (List.mem_of_getElem? (i := 107) rfl))) (by decide) (backOf (W := 1) (rm11 l Z a0 hw [] dd (4607182418800017408 : UInt64) bv bl bh bd bs 1 v1 lo1 hi1 dv1 sl1 0 0 h1049 n0 (Nat.le_trans Z0 u1064.1) HD1 O1 NE GS (by decide) own_fin1 own_add1) hZ (hw _ (List.mem_of_getElem? (i := 109) rfl)) (hw _ (List.mem_of_getElem? (i := 2) rfl)) (by decide) (by decide)) q1065a q1065c (g := (mkF m 137 #[.val (.ref dd)] [(.double (4607182418800017408 : UInt64)), (.ref dd), (.ref dd)])) rfl (by rw [hml]; rfl) (Steps.refl _) (argsL := [(.double (4607182418800017408 : UInt64))]) (rest := [(.ref dd)]) (lenOf pd__28D_29I rfl) rfl (by show 2 * 0 + _ ≤ _; exact Nat.le_of_eq rfl) (hb hby d1_137) (fun _ _ => ⟨rfl, e1049, (by decide : 20 + 0 ≤ _), (by decide : 15395 + 0 ≤ _)⟩)
  dsimp only [Pt.U, Pt.locs, Pt.cells, Pt.slots] at X1065 l1065 y1065 z1065 st1065 hQ1065
  subst l1065 y1065 z1065
  obtain ⟨r2, c2, v2, lo2, hi2, dv2, sl2, rfl, N1065q, K2, D2, O2, R2⟩ := hQ1065
  have N1065 := Fr.app N1049 N1065q
  refine go (T1065.setTop (mkF m 140 #[.val (.ref dd)] [(.int (Int32.ofNat r2)), (.ref dd)])) _ (fun t9 k9 => st1065.trans k9) ?_
  have u1066 : Exa Z T1065.heap dd "com/example/horizonte/horizonte/dd/DecisionDiagrams" := u1050.keep K2
  have u1067 : Keep h0 T1065.heap [dd] := u1064.trans K2 (allS (Or.inl (List.mem_of_getElem? (i := 0) rfl)) (allS (Or.inr sz_bv) (allS (Or.inr sz_bl) (allS (Or.inr sz_bh) (allS (Or.inr sz_bd) (allS (Or.inr sz_bs) all0))))))
  obtain ⟨y1068_E, y1068_F0, y1068_F1, y1068_F2, y1068_F3, y1068_F4, y1068_F5, y1068_F6, y1068_F7, y1068_A0, y1068_A1, y1068_A2, y1068_A3, y1068_A4⟩ := D2
  obtain ⟨R2a, R2b, R2c, R2d, R2e, R2f, R2g, R2h⟩ := R2
  obtain ⟨hr2, hc2⟩ := own_one (R2d 0 (by decide)).2.2.2 R1h R2h R2a R2b R2c
  subst hr2 hc2
  obtain ⟨T1069, h1069, X1069, e1069, W1069, st1069⟩ := putF X1065 hx hZ hown (host := "") (Or.inl (hw _ (List.mem_of_getElem? (i := 151) rfl))) Via.refl rfl y1068_F7 y1068_E (Or.inr ⟨(hw _ (List.mem_of_getElem? (i := 152) rfl)), rfl, hnm⟩) (hw _ (List.mem_of_getElem? (i := 1) rfl)) (ty := .int) (by decide) rfl rfl (g := (mkF m 140 #[.val (.ref dd)] [(.int (1 : Int32)), (.ref dd)])) rfl rfl (hb hby d1_140)
  have N1069 := Fr.snoc X1069 N1065 g_dd
  refine go (T1069.setTop (mkF m 143 #[.val (.ref dd)] [])) _ (fun t9 k9 => st1069 _ k9) ?_
  have u1070 : Exa Z h1069 dd "com/example/horizonte/horizonte/dd/DecisionDiagrams" := y1068_E.wr W1069
  have u1071 : Fld Z h1069 dd "com/example/horizonte/horizonte/dd/DecisionDiagrams" "variables" "[I" (.ref bv) := y1068_F0.other W1069 (Or.inr (slot_ne (Or.inl (hw _ (List.mem_of_getElem? (i := 11) rfl))) (Or.inr (hw _ (List.mem_of_getElem? (i := 152) rfl))) (by decide) (t := (.array .int)) (t' := .int) (by decide) (by decide)))
  have u1072 : Fld Z h1069 dd "com/example/horizonte/horizonte/dd/DecisionDiagrams" "lows" "[I" (.ref bl) := y1068_F1.other W1069 (Or.inr (slot_ne (Or.inl (hw _ (List.mem_of_getElem? (i := 13) rfl))) (Or.inr (hw _ (List.mem_of_getElem? (i := 152) rfl))) (by decide) (t := (.array .int)) (t' := .int) (by decide) (by decide)))
  have u1073 : Fld Z h1069 dd "com/example/horizonte/horizonte/dd/DecisionDiagrams" "highs" "[I" (.ref bh) := y1068_F2.other W1069 (Or.inr (slot_ne (Or.inl (hw _ (List.mem_of_getElem? (i := 15) rfl))) (Or.inr (hw _ (List.mem_of_getElem? (i := 152) rfl))) (by decide) (t := (.array .int)) (t' := .int) (by decide) (by decide)))
  have u1074 : Fld Z h1069 dd "com/example/horizonte/horizonte/dd/DecisionDiagrams" "values" "[D" (.ref bd) := y1068_F3.other W1069 (Or.inr (slot_ne (Or.inl (hw _ (List.mem_of_getElem? (i := 18) rfl))) (Or.inr (hw _ (List.mem_of_getElem? (i := 152) rfl))) (by decide) (t := (.array .double)) (t' := .int) (by decide) (by decide)))
  have u1075 : Fld Z h1069 dd "com/example/horizonte/horizonte/dd/DecisionDiagrams" "slots" "[I" (.ref bs) := y1068_F4.other W1069 (Or.inr (slot_ne (Or.inl (hw _ (List.mem_of_getElem? (i := 90) rfl))) (Or.inr (hw _ (List.mem_of_getElem? (i := 152) rfl))) (by decide) (t := (.array .int)) (t' := .int) (by decide) (by decide)))
  have u1076 : Fld Z h1069 dd "com/example/horizonte/horizonte/dd/DecisionDiagrams" "count" "I" (.int (Int32.ofNat 2)) := y1068_F5.other W1069 (Or.inr (slot_ne (Or.inl (hw _ (List.mem_of_getElem? (i := 148) rfl))) (Or.inr (hw _ (List.mem_of_getElem? (i := 152) rfl))) (by decide) (t := .int) (t' := .int) (by decide) (by decide)))
  have u1077 : Fld Z h1069 dd "com/example/horizonte/horizonte/dd/DecisionDiagrams" "zero" "I" (.int 0) := y1068_F6.other W1069 (Or.inr (slot_ne (Or.inr (hw _ (List.mem_of_getElem? (i := 150) rfl))) (Or.inr (hw _ (List.mem_of_getElem? (i := 152) rfl))) (by decide) (t := .int) (t' := .int) (by decide) (by decide)))
  have u1078 : Fld Z h1069 dd "com/example/horizonte/horizonte/dd/DecisionDiagrams" "one" "I" (.int (1 : Int32)) := y1068_F7.same W1069
  have u1079 : own_A Z h1069 bv .int 1024 (fun j => .int (v2 j)) := own_A_other y1068_A0 W1069 (Ne.symm ne400)
  have u1080 : own_A Z h1069 bl .int 1024 (fun j => .int (lo2 j)) := own_A_other y1068_A1 W1069 (Ne.symm ne443)
  have u1081 : own_A Z h1069 bh .int 1024 (fun j => .int (hi2 j)) := own_A_other y1068_A2 W1069 (Ne.symm ne489)
  have u1082 : own_A Z h1069 bd .double 1024 (fun j => .double (dv2 j)) := own_A_other y1068_A3 W1069 (Ne.symm ne538)
  have u1083 : own_A Z h1069 bs .int 2048 (fun j => .int (sl2 j)) := own_A_other y1068_A4 W1069 (Ne.symm ne674)
  have u1084 : Keep h0 h1069 [dd] := u1067.wr W1069 (Or.inl (List.mem_of_getElem? (i := 0) rfl))
  obtain ⟨fs, hr, hrun, hended, hW, hsame⟩ := X1069.leave (v := none) (fun h => by rfl) hlk
  refine fin _ ⟨_, _, X1069.returnOut hx Bd.returns (hb hby d1_143) hr, hrun, hended, _, _, rfl, ?_, ⟨_, rfl⟩, hW, hsame.mono (by decide) (by decide)⟩
  show Q1 Z dd h0 n0 _ T1069.heap _
  rw [e1069]
  exact ⟨bv, bl, bh, bd, bs, v2, lo2, hi2, dv2, sl2, rfl, N1069, u1084, ⟨u1070, u1071, u1072, u1073, u1074, u1075, u1076, u1077, u1078, u1079, u1080, u1081, u1082, u1083⟩, O2, NE, GS, ((R2d 0 (by decide)).1.trans R1e), R2e⟩
def Q0 (Z : State)  (h0 : Heap) (n0 : Nat) (v : Option Value) (h : Heap) (L : List Loc) : Prop := v = some (.int 1) ∧ Fr n0 L
set_option maxRecDepth 65536 in
set_option maxHeartbeats 40000000 in
theorem rm0 (l : Launch) (Z : State) (a0 : Array Value) (hw : ∀ d ∈ tables_1, d.before a0 Z = true) (ws : List Jvm.Cond) (p1 : Int32) (p2 : Int32) (p3 : Int32) (sa : Addr) (h0 : Heap) (n0 : Nat) (Z0 : n0 ≤ h0.size) (HS : Sta Z h0 "java/util/ArrayList" "DEFAULTCAPACITY_EMPTY_ELEMENTDATA" "[Ljava/lang/Object;" (.ref sa)) :
    MetFree l x (head1 (Jvm.Cond.code x code maxLocals ret :: ws) room_1) (fun a U => a = #[(.int p1), (.int p2), (.int p3)] ∧ Z.Warmed39 U.vm ∧ U.heap = h0) (fun _ _ _ _ _ => True) (fun _ U o U' => ∃ v L, o = .returned v ∧ Q0 Z  h0 n0 v U'.heap L ∧ FrameEnd U o U' L room_1.cells room_1.slots) := by
  refine MetFree.of_bodySF (plainFor_of_name pn_com_example_horizonte_horizonte_dd_DecisionDiagramsIsLeafPinLaw) hisR ?_
  intro p e s m args below meth c s₁ Bd hml0 hP hK
  obtain ⟨rfl, hZ, hh⟩ := hP
  have hlk : meth.locks = false := by first | exact BodyLoose.notSynchronized Bd | exact Body.notSynchronized Bd
  have hx := Bd.exec
  have hby := Bd.bytes
  have hml : c.maxLocals = 10 := hml0
  have hown : s.vm.findClass "com/example/horizonte/horizonte/dd/DecisionDiagramsIsLeafPinLaw" = some m.cls := findClass_of_methodNamed Bd.named
  have hnm := (name_of_methodNamed Bd.named Bd.method).1
  have X0 : Stand p l e room_1 s m #[(.int p1), (.int p2), (.int p3)] below meth c s₁ [] 0 0 := Stand.of_body Bd
  have e0 : s₁.heap = h0 := by rw [← hh, Bd.state]; rfl
  have N0 := Fr.nil n0
  refine own_open (fun G go fin => ?_)
  refine go (s₁.setTop (mkF m 0 #[.val (.int p1), .val (.int p2), .val (.int p3), .unset, .unset, .unset, .unset, .unset, .unset, .unset] [])) _ (fun t9 k9 => castTop (ef_0 m p1 p2 p3) k9) ?_
  obtain ⟨T1085, h1085, X1085, e1085, E1085, A1085, D1085, -, st1085⟩ := newO X0 hx hZ hown (hw _ (List.mem_of_getElem? (i := 0) rfl)) (hw _ (List.mem_of_getElem? (i := 1) rfl)) (hw _ (List.mem_of_getElem? (i := 2) rfl)) e0 (g := (mkF m 0 #[.val (.int p1), .val (.int p2), .val (.int p3), .unset, .unset, .unset, .unset, .unset, .unset, .unset] [])) rfl (hb hby at_0) (by decide) (by decide)
  obtain ⟨dd, g1085⟩ : ∃ z, z = h0.size := ⟨_, rfl⟩
  rw [← g1085] at A1085 D1085 st1085
  refine go (T1085.setTop (mkF m 3 #[.val (.int p1), .val (.int p2), .val (.int p3), .unset, .unset, .unset, .unset, .unset, .unset, .unset] [(.ref dd)])) _ (fun t9 k9 => st1085 _ k9) ?_
  have sz_dd : h0.size ≤ dd := Nat.le_trans (Keep.refl h0 []).1 (Nat.le_of_eq g1085.symm)
  have g_dd : n0 ≤ dd := Nat.le_trans Z0 sz_dd
  have u1086 : Sta Z h1085 "java/util/ArrayList" "DEFAULTCAPACITY_EMPTY_ELEMENTDATA" "[Ljava/lang/Object;" (.ref sa) := HS.ext E1085
  have u1087 : Keep h0 h1085 [] := (Keep.refl h0 []).ext E1085
  have u1088 : Fld Z h1085 dd "com/example/horizonte/horizonte/dd/DecisionDiagrams" "variables" "[I" .null := D1085 (Or.inl (hw _ (List.mem_of_getElem? (i := 11) rfl))) (ty := (.array .int)) (by decide)
  have u1089 : Fld Z h1085 dd "com/example/horizonte/horizonte/dd/DecisionDiagrams" "lows" "[I" .null := D1085 (Or.inl (hw _ (List.mem_of_getElem? (i := 13) rfl))) (ty := (.array .int)) (by decide)
  have u1090 : Fld Z h1085 dd "com/example/horizonte/horizonte/dd/DecisionDiagrams" "highs" "[I" .null := D1085 (Or.inl (hw _ (List.mem_of_getElem? (i := 15) rfl))) (ty := (.array .int)) (by decide)
  have u1091 : Fld Z h1085 dd "com/example/horizonte/horizonte/dd/DecisionDiagrams" "values" "[D" .null := D1085 (Or.inl (hw _ (List.mem_of_getElem? (i := 18) rfl))) (ty := (.array .double)) (by decide)
  have u1092 : Fld Z h1085 dd "com/example/horizonte/horizonte/dd/DecisionDiagrams" "terms" "Lcom/example/horizonte/horizonte/dd/Terms;" .null := D1085 (Or.inr (hw _ (List.mem_of_getElem? (i := 81) rfl))) (ty := (.object "com/example/horizonte/horizonte/dd/Terms")) (by decide)
  have u1093 : Fld Z h1085 dd "com/example/horizonte/horizonte/dd/DecisionDiagrams" "slots" "[I" .null := D1085 (Or.inl (hw _ (List.mem_of_getElem? (i := 90) rfl))) (ty := (.array .int)) (by decide)
  have u1094 : Fld Z h1085 dd "com/example/horizonte/horizonte/dd/DecisionDiagrams" "cachedCodes" "[I" .null := D1085 (Or.inl (hw _ (List.mem_of_getElem? (i := 92) rfl))) (ty := (.array .int)) (by decide)
  have u1095 : Fld Z h1085 dd "com/example/horizonte/horizonte/dd/DecisionDiagrams" "cachedFirsts" "[I" .null := D1085 (Or.inl (hw _ (List.mem_of_getElem? (i := 94) rfl))) (ty := (.array .int)) (by decide)
  have u1096 : Fld Z h1085 dd "com/example/horizonte/horizonte/dd/DecisionDiagrams" "cachedSeconds" "[I" .null := D1085 (Or.inl (hw _ (List.mem_of_getElem? (i := 96) rfl))) (ty := (.array .int)) (by decide)
  have u1097 : Fld Z h1085 dd "com/example/horizonte/horizonte/dd/DecisionDiagrams" "cachedThirds" "[I" .null := D1085 (Or.inl (hw _ (List.mem_of_getElem? (i := 98) rfl))) (ty := (.array .int)) (by decide)
  have u1098 : Fld Z h1085 dd "com/example/horizonte/horizonte/dd/DecisionDiagrams" "cachedResults" "[I" .null := D1085 (Or.inl (hw _ (List.mem_of_getElem? (i := 100) rfl))) (ty := (.array .int)) (by decide)
  have u1099 : Fld Z h1085 dd "com/example/horizonte/horizonte/dd/DecisionDiagrams" "weights" "[D" .null := D1085 (Or.inl (hw _ (List.mem_of_getElem? (i := 102) rfl))) (ty := (.array .double)) (by decide)
  have u1100 : Fld Z h1085 dd "com/example/horizonte/horizonte/dd/DecisionDiagrams" "weighed" "[I" .null := D1085 (Or.inl (hw _ (List.mem_of_getElem? (i := 104) rfl))) (ty := (.array .int)) (by decide)
  have u1101 : Fld Z h1085 dd "com/example/horizonte/horizonte/dd/DecisionDiagrams" "count" "I" (.int (0 : Int32)) := D1085 (Or.inl (hw _ (List.mem_of_getElem? (i := 148) rfl))) (ty := .int) (by decide)
  have u1102 : Fld Z h1085 dd "com/example/horizonte/horizonte/dd/DecisionDiagrams" "zero" "I" (.int (0 : Int32)) := D1085 (Or.inr (hw _ (List.mem_of_getElem? (i := 150) rfl))) (ty := .int) (by decide)
  have u1103 : Fld Z h1085 dd "com/example/horizonte/horizonte/dd/DecisionDiagrams" "one" "I" (.int (0 : Int32)) := D1085 (Or.inr (hw _ (List.mem_of_getElem? (i := 152) rfl))) (ty := .int) (by decide)
  refine go (T1085.setTop (mkF m 4 #[.val (.int p1), .val (.int p2), .val (.int p3), .unset, .unset, .unset, .unset, .unset, .unset, .unset] [(.ref dd), (.ref dd)])) _ (fun t9 k9 => ?_) ?_
  · show Steps p.tables e below (T1085.setTop (mkF m 3 #[.val (.int p1), .val (.int p2), .val (.int p3), .unset, .unset, .unset, .unset, .unset, .unset, .unset] [(.ref dd)])) _
    refine XS.dup X1085.here hx rfl (hb hby at_3) rfl rfl ?_
    exact k9
  obtain ⟨_, _, ⟨T1104, L1104, k1104, n1104⟩, -, X1104, ⟨Lc1104, hQ1104, l1104, y1104, z1104⟩, st1104⟩ := X1085.specialBack hx (y := (⟨"com/example/horizonte/horizonte/dd/DecisionDiagrams", "<init>", "()V"⟩ : MethodName)) rfl hown (mvT hZ (hw _ (List.mem_of_getElem? (i := 3) rfl))) (mvT hZ (hw _ (List.mem_of_getElem? (i := 4) rfl))) (mvT hZ (hw _ (List.mem_of_getElem? (i := 5) rfl))) (by decide) (backOf (W := 1) (rm1 l Z a0 hw [] dd sa h1085 n0 (Nat.le_trans Z0 u1087.1) A1085 u1088 u1089 u1090 u1091 u1092 u1093 u1094 u1095 u1096 u1097 u1098 u1099 u1100 u1101 u1102 u1103 u1086 g_dd) hZ (hw _ (List.mem_of_getElem? (i := 5) rfl)) (hw _ (List.mem_of_getElem? (i := 2) rfl)) (by decide) (by decide)) (g := (mkF m 4 #[.val (.int p1), .val (.int p2), .val (.int p3), .unset, .unset, .unset, .unset, .unset, .unset, .unset] [(.ref dd), (.ref dd)])) rfl (by rw [hml]; rfl) (Steps.refl _) (a := dd) (argsL := []) (rest := [(.ref dd)]) (lenOf pd__28_29V rfl) rfl (by show 2 * 0 + _ ≤ _; exact Nat.le_of_eq rfl) (hb hby at_4) (fun _ _ => ⟨rfl, e1085, (by decide : 1 + 20 ≤ _), (by decide : 19 + 15395 ≤ _)⟩)
  dsimp only [Pt.U, Pt.locs, Pt.cells, Pt.slots] at X1104 l1104 y1104 z1104 st1104 hQ1104
  subst l1104 y1104 z1104
  obtain ⟨bv, bl, bh, bd, bs, v0, lo0, hi0, dv0, sl0, rfl, N1104q, K0, D0, O0, NE, GS, v00, v01⟩ := hQ1104
  have N1104 := Fr.app N0 N1104q
  refine go (T1104.setTop (mkF m 7 #[.val (.int p1), .val (.int p2), .val (.int p3), .unset, .unset, .unset, .unset, .unset, .unset, .unset] [(.ref dd)])) _ (fun t9 k9 => st1104.trans k9) ?_
  have Z1104 : n0 ≤ T1104.heap.size := Nat.le_trans Z0 (Nat.le_trans u1087.1 K0.1)
  refine go (T1104.setTop (mkF m 11 #[.val (.int p1), .val (.int p2), .val (.int p3), .val (.ref dd), .unset, .unset, .unset, .unset, .unset, .unset] [(.double (FP.i2d p1)), (.ref dd)])) _ (fun t9 k9 => ?_) ?_
  · show Steps p.tables e below (T1104.setTop (mkF m 7 #[.val (.int p1), .val (.int p2), .val (.int p3), .unset, .unset, .unset, .unset, .unset, .unset, .unset] [(.ref dd)])) _
    refine XS.astoreN X1104.here hx rfl (hb hby at_7) rfl rfl (l' := #[.val (.int p1), .val (.int p2), .val (.int p3), .val (.ref dd), .unset, .unset, .unset, .unset, .unset, .unset]) rfl ?_
    show Steps p.tables e below (T1104.setTop (mkF m 8 #[.val (.int p1), .val (.int p2), .val (.int p3), .val (.ref dd), .unset, .unset, .unset, .unset, .unset, .unset] [])) _
    refine XS.aloadN X1104.here hx rfl (hb hby at_8) rfl rfl ?_
    show Steps p.tables e below (T1104.setTop (mkF m 9 #[.val (.int p1), .val (.int p2), .val (.int p3), .val (.ref dd), .unset, .unset, .unset, .unset, .unset, .unset] [(.ref dd)])) _
    refine XS.iloadN X1104.here hx rfl (hb hby at_9) rfl ?_
    show Steps p.tables e below (T1104.setTop (mkF m 10 #[.val (.int p1), .val (.int p2), .val (.int p3), .val (.ref dd), .unset, .unset, .unset, .unset, .unset, .unset] [(.int p1), (.ref dd)])) _
    refine XS.i2dS X1104.here hx rfl (hb hby at_10) rfl rfl ?_
    exact k9
  have R00 : 2 ≤ 2 := Nat.le_refl _
  obtain ⟨cq1105, kq1105, q1105a, q1105b, q1105c⟩ := isOf hZ rfl D0.1
  obtain ⟨_, _, ⟨T1105, L1105, k1105, n1105⟩, -, X1105, ⟨Lc1105, hQ1105, l1105, y1105, z1105⟩, st1105⟩ := X1104.virtualBack hx (y := (⟨"com/example/horizonte/horizonte/dd/DecisionDiagrams", "constant", "(D)I"⟩ : MethodName)) (z := (⟨"com/example/horizonte/horizonte/dd/DecisionDiagrams", "constant", "(D)I"⟩ : MethodName)) hown (mvT hZ (hw _ (List.mem_of_getElem? (i := 153) rfl))) (mvT hZ (hw _ (List.mem_of_getElem? (i := 106) rfl))) (notFace_of_selects (args := #[]) (mvT hZ (hw _ (List.mem_of_getElem? (i := 108) rfl)))) (mvT hZ (hw _ (List.mem_of_getElem? (i := 108) rfl))) (mvT hZ (hw _ (List.mem_of_getElem? (i := 107) rfl))) (by decide) (backOf (W := 0) (rm11 l Z a0 hw [] dd (FP.i2d p1) bv bl bh bd bs 2 v0 lo0 hi0 dv0 sl0 0 1 T1104.heap n0 Z1104 D0 O0 NE GS (by decide) (i2d_fin p1) (own_addi p1)) hZ (hw _ (List.mem_of_getElem? (i := 109) rfl)) (hw _ (List.mem_of_getElem? (i := 2) rfl)) (by decide) (by decide)) q1105a q1105c (g := (mkF m 11 #[.val (.int p1), .val (.int p2), .val (.int p3), .val (.ref dd), .unset, .unset, .unset, .unset, .unset, .unset] [(.double (FP.i2d p1)), (.ref dd)])) rfl (by rw [hml]; rfl) (Steps.refl _) (argsL := [(.double (FP.i2d p1))]) (rest := []) (lenOf pd__28D_29I rfl) rfl (by show 2 * 0 + _ ≤ _; exact Nat.le_of_eq rfl) (hb hby at_11) (fun _ _ => ⟨rfl, rfl, (by decide : 21 + 0 ≤ _), (by decide : 15414 + 0 ≤ _)⟩)
  dsimp only [Pt.U, Pt.locs, Pt.cells, Pt.slots] at X1105 l1105 y1105 z1105 st1105 hQ1105
  subst l1105 y1105 z1105
  obtain ⟨r1, c1, v1, lo1, hi1, dv1, sl1, rfl, N1105q, K1, D1, O1, R1⟩ := hQ1105
  have N1105 := Fr.app N1104 N1105q
  refine go (T1105.setTop (mkF m 14 #[.val (.int p1), .val (.int p2), .val (.int p3), .val (.ref dd), .unset, .unset, .unset, .unset, .unset, .unset] [(.int (Int32.ofNat r1))])) _ (fun t9 k9 => st1105.trans k9) ?_
  obtain ⟨R1a, R1b, R1c, R1d, R1e, R1f, R1g, R1h⟩ := R1
  have Z1105 : n0 ≤ T1105.heap.size := Nat.le_trans Z1104 K1.1
  refine go (T1105.setTop (mkF m 19 #[.val (.int p1), .val (.int p2), .val (.int p3), .val (.ref dd), .val (.int (Int32.ofNat r1)), .unset, .unset, .unset, .unset, .unset] [(.double (FP.i2d p2)), (.ref dd)])) _ (fun t9 k9 => ?_) ?_
  · show Steps p.tables e below (T1105.setTop (mkF m 14 #[.val (.int p1), .val (.int p2), .val (.int p3), .val (.ref dd), .unset, .unset, .unset, .unset, .unset, .unset] [(.int (Int32.ofNat r1))])) _
    refine XS.istore X1105.here hx rfl (hb hby at_14) rfl (l' := #[.val (.int p1), .val (.int p2), .val (.int p3), .val (.ref dd), .val (.int (Int32.ofNat r1)), .unset, .unset, .unset, .unset, .unset]) rfl ?_
    show Steps p.tables e below (T1105.setTop (mkF m 16 #[.val (.int p1), .val (.int p2), .val (.int p3), .val (.ref dd), .val (.int (Int32.ofNat r1)), .unset, .unset, .unset, .unset, .unset] [])) _
    refine XS.aloadN X1105.here hx rfl (hb hby at_16) rfl rfl ?_
    show Steps p.tables e below (T1105.setTop (mkF m 17 #[.val (.int p1), .val (.int p2), .val (.int p3), .val (.ref dd), .val (.int (Int32.ofNat r1)), .unset, .unset, .unset, .unset, .unset] [(.ref dd)])) _
    refine XS.iloadN X1105.here hx rfl (hb hby at_17) rfl ?_
    show Steps p.tables e below (T1105.setTop (mkF m 18 #[.val (.int p1), .val (.int p2), .val (.int p3), .val (.ref dd), .val (.int (Int32.ofNat r1)), .unset, .unset, .unset, .unset, .unset] [(.int p2), (.ref dd)])) _
    refine XS.i2dS X1105.here hx rfl (hb hby at_18) rfl rfl ?_
    exact k9
  obtain ⟨cq1106, kq1106, q1106a, q1106b, q1106c⟩ := isOf hZ rfl D1.1
  obtain ⟨_, _, ⟨T1106, L1106, k1106, n1106⟩, -, X1106, ⟨Lc1106, hQ1106, l1106, y1106, z1106⟩, st1106⟩ := X1105.virtualBack hx (y := (⟨"com/example/horizonte/horizonte/dd/DecisionDiagrams", "constant", "(D)I"⟩ : MethodName)) (z := (⟨"com/example/horizonte/horizonte/dd/DecisionDiagrams", "constant", "(D)I"⟩ : MethodName)) hown (mvT hZ (hw _ (List.mem_of_getElem? (i := 153) rfl))) (mvT hZ (hw _ (List.mem_of_getElem? (i := 106) rfl))) (notFace_of_selects (args := #[]) (mvT hZ (hw _ (List.mem_of_getElem? (i := 108) rfl)))) (mvT hZ (hw _ (List.mem_of_getElem? (i := 108) rfl))) (mvT hZ (hw _ (List.mem_of_getElem? (i := 107) rfl))) (by decide) (backOf (W := 0) (rm11 l Z a0 hw [] dd (FP.i2d p2) bv bl bh bd bs c1 v1 lo1 hi1 dv1 sl1 0 1 T1105.heap n0 Z1105 D1 O1 NE GS (by omega) (i2d_fin p2) (own_addi p2)) hZ (hw _ (List.mem_of_getElem? (i := 109) rfl)) (hw _ (List.mem_of_getElem? (i := 2) rfl)) (by decide) (by decide)) q1106a q1106c (g := (mkF m 19 #[.val (.int p1), .val (.int p2), .val (.int p3), .val (.ref dd), .val (.int (Int32.ofNat r1)), .unset, .unset, .unset, .unset, .unset] [(.double (FP.i2d p2)), (.ref dd)])) rfl (by rw [hml]; rfl) (Steps.refl _) (argsL := [(.double (FP.i2d p2))]) (rest := []) (lenOf pd__28D_29I rfl) rfl (by show 2 * 0 + _ ≤ _; exact Nat.le_of_eq rfl) (hb hby at_19) (fun _ _ => ⟨rfl, rfl, (by decide : 21 + 0 ≤ _), (by decide : 15414 + 0 ≤ _)⟩)
  dsimp only [Pt.U, Pt.locs, Pt.cells, Pt.slots] at X1106 l1106 y1106 z1106 st1106 hQ1106
  subst l1106 y1106 z1106
  obtain ⟨r2, c2, v2, lo2, hi2, dv2, sl2, rfl, N1106q, K2, D2, O2, R2⟩ := hQ1106
  have N1106 := Fr.app N1105 N1106q
  refine go (T1106.setTop (mkF m 22 #[.val (.int p1), .val (.int p2), .val (.int p3), .val (.ref dd), .val (.int (Int32.ofNat r1)), .unset, .unset, .unset, .unset, .unset] [(.int (Int32.ofNat r2))])) _ (fun t9 k9 => st1106.trans k9) ?_
  obtain ⟨R2a, R2b, R2c, R2d, R2e, R2f, R2g, R2h⟩ := R2
  have Z1106 : n0 ≤ T1106.heap.size := Nat.le_trans Z1105 K2.1
  refine go (T1106.setTop (mkF m 29 #[.val (.int p1), .val (.int p2), .val (.int p3), .val (.ref dd), .val (.int (Int32.ofNat r1)), .val (.int (Int32.ofNat r2)), .unset, .unset, .unset, .unset] [(.int (p3 &&& (1073741823 : Int32))), (.ref dd)])) _ (fun t9 k9 => ?_) ?_
  · show Steps p.tables e below (T1106.setTop (mkF m 22 #[.val (.int p1), .val (.int p2), .val (.int p3), .val (.ref dd), .val (.int (Int32.ofNat r1)), .unset, .unset, .unset, .unset, .unset] [(.int (Int32.ofNat r2))])) _
    refine XS.istore X1106.here hx rfl (hb hby at_22) rfl (l' := #[.val (.int p1), .val (.int p2), .val (.int p3), .val (.ref dd), .val (.int (Int32.ofNat r1)), .val (.int (Int32.ofNat r2)), .unset, .unset, .unset, .unset]) rfl ?_
    show Steps p.tables e below (T1106.setTop (mkF m 24 #[.val (.int p1), .val (.int p2), .val (.int p3), .val (.ref dd), .val (.int (Int32.ofNat r1)), .val (.int (Int32.ofNat r2)), .unset, .unset, .unset, .unset] [])) _
    refine XS.aloadN X1106.here hx rfl (hb hby at_24) rfl rfl ?_
    show Steps p.tables e below (T1106.setTop (mkF m 25 #[.val (.int p1), .val (.int p2), .val (.int p3), .val (.ref dd), .val (.int (Int32.ofNat r1)), .val (.int (Int32.ofNat r2)), .unset, .unset, .unset, .unset] [(.ref dd)])) _
    refine XS.iloadN X1106.here hx rfl (hb hby at_25) rfl ?_
    show Steps p.tables e below (T1106.setTop (mkF m 26 #[.val (.int p1), .val (.int p2), .val (.int p3), .val (.ref dd), .val (.int (Int32.ofNat r1)), .val (.int (Int32.ofNat r2)), .unset, .unset, .unset, .unset] [(.int p3), (.ref dd)])) _
    refine X1106.ldcInt hx hown (mvT hZ (hw _ (List.mem_of_getElem? (i := 154) rfl))) (g := (mkF m 26 #[.val (.int p1), .val (.int p2), .val (.int p3), .val (.ref dd), .val (.int (Int32.ofNat r1)), .val (.int (Int32.ofNat r2)), .unset, .unset, .unset, .unset] [(.int p3), (.ref dd)])) rfl (hb hby at_26) _ ?_
    show Steps p.tables e below (T1106.setTop (mkF m 28 #[.val (.int p1), .val (.int p2), .val (.int p3), .val (.ref dd), .val (.int (Int32.ofNat r1)), .val (.int (Int32.ofNat r2)), .unset, .unset, .unset, .unset] [(.int (1073741823 : Int32)), (.int p3), (.ref dd)])) _
    refine XS.iand X1106.here hx rfl (hb hby at_28) rfl ?_
    exact k9
  obtain ⟨cq1107, kq1107, q1107a, q1107b, q1107c⟩ := isOf hZ rfl D2.1
  obtain ⟨_, _, ⟨T1107, L1107, k1107, n1107⟩, -, X1107, ⟨Lc1107, hQ1107, l1107, y1107, z1107⟩, st1107⟩ := X1106.virtualBack hx (y := (⟨"com/example/horizonte/horizonte/dd/DecisionDiagrams", "variable", "(I)I"⟩ : MethodName)) (z := (⟨"com/example/horizonte/horizonte/dd/DecisionDiagrams", "variable", "(I)I"⟩ : MethodName)) hown (mvT hZ (hw _ (List.mem_of_getElem? (i := 155) rfl))) (mvT hZ (hw _ (List.mem_of_getElem? (i := 156) rfl))) (notFace_of_selects (args := #[]) (mvT hZ (hw _ (List.mem_of_getElem? (i := 158) rfl)))) (mvT hZ (hw _ (List.mem_of_getElem? (i := 158) rfl))) (mvT hZ (hw _ (List.mem_of_getElem? (i := 157) rfl))) (by decide) (backOf (W := 0) (rm20 l Z a0 hw [] dd (p3 &&& (1073741823 : Int32)) bv bl bh bd bs c2 v2 lo2 hi2 dv2 sl2 0 1 T1106.heap n0 Z1106 D2 O2 NE GS (by omega) (by decide) (own_var0 p3) (own_var1 p3)) hZ (hw _ (List.mem_of_getElem? (i := 159) rfl)) (hw _ (List.mem_of_getElem? (i := 2) rfl)) (by decide) (by decide)) q1107a q1107c (g := (mkF m 29 #[.val (.int p1), .val (.int p2), .val (.int p3), .val (.ref dd), .val (.int (Int32.ofNat r1)), .val (.int (Int32.ofNat r2)), .unset, .unset, .unset, .unset] [(.int (p3 &&& (1073741823 : Int32))), (.ref dd)])) rfl (by rw [hml]; rfl) (Steps.refl _) (argsL := [(.int (p3 &&& (1073741823 : Int32)))]) (rest := []) (lenOf pd__28I_29I rfl) rfl (by show 2 * 0 + _ ≤ _; exact Nat.le_of_eq rfl) (hb hby at_29) (fun _ _ => ⟨rfl, rfl, (by decide : 21 + 0 ≤ _), (by decide : 15414 + 0 ≤ _)⟩)
  dsimp only [Pt.U, Pt.locs, Pt.cells, Pt.slots] at X1107 l1107 y1107 z1107 st1107 hQ1107
  subst l1107 y1107 z1107
  obtain ⟨r3, c3, v3, lo3, hi3, dv3, sl3, rfl, N1107q, K3, D3, O3, R3⟩ := hQ1107
  have N1107 := Fr.app N1106 N1107q
  refine go (T1107.setTop (mkF m 32 #[.val (.int p1), .val (.int p2), .val (.int p3), .val (.ref dd), .val (.int (Int32.ofNat r1)), .val (.int (Int32.ofNat r2)), .unset, .unset, .unset, .unset] [(.int (Int32.ofNat r3))])) _ (fun t9 k9 => st1107.trans k9) ?_
  obtain ⟨R3a, R3b, R3c, R3d, R3e, R3f, R3g, R3h⟩ := R3
  have Z1107 : n0 ≤ T1107.heap.size := Nat.le_trans Z1106 K3.1
  have g0 : v3 0 = (2147483647 : Int32) := by rw [(R3d 0 (by omega)).1, (R2d 0 (by omega)).1, (R1d 0 (by omega)).1]; exact v00
  have g1 : v3 1 = (2147483647 : Int32) := by rw [(R3d 1 (by omega)).1, (R2d 1 (by omega)).1, (R1d 1 (by omega)).1]; exact v01
  have g2 : v3 r1 = (2147483647 : Int32) := by rw [(R3d r1 (by omega)).1, (R2d r1 (by omega)).1]; exact R1e
  have g3 : v3 r2 = (2147483647 : Int32) := by rw [(R3d r2 (by omega)).1]; exact R2e
  have g4 : ¬ v3 r3 = (2147483647 : Int32) := by rw [R3e]; exact own_var2 p3
  have FV := D3.2.1
  have FL := D3.2.2.1
  have FH := D3.2.2.2.1
  have AV := D3.2.2.2.2.2.2.2.2.2.1
  have AL := D3.2.2.2.2.2.2.2.2.2.2.1
  have AH := D3.2.2.2.2.2.2.2.2.2.2.2.1
  refine go (T1107.setTop (mkF m 36 #[.val (.int p1), .val (.int p2), .val (.int p3), .val (.ref dd), .val (.int (Int32.ofNat r1)), .val (.int (Int32.ofNat r2)), .val (.int (Int32.ofNat r3)), .unset, .unset, .unset] [(.int (0 : Int32)), (.ref dd)])) _ (fun t9 k9 => ?_) ?_
  · show Steps p.tables e below (T1107.setTop (mkF m 32 #[.val (.int p1), .val (.int p2), .val (.int p3), .val (.ref dd), .val (.int (Int32.ofNat r1)), .val (.int (Int32.ofNat r2)), .unset, .unset, .unset, .unset] [(.int (Int32.ofNat r3))])) _
    refine XS.istore X1107.here hx rfl (hb hby at_32) rfl (l' := #[.val (.int p1), .val (.int p2), .val (.int p3), .val (.ref dd), .val (.int (Int32.ofNat r1)), .val (.int (Int32.ofNat r2)), .val (.int (Int32.ofNat r3)), .unset, .unset, .unset]) rfl ?_
    show Steps p.tables e below (T1107.setTop (mkF m 34 #[.val (.int p1), .val (.int p2), .val (.int p3), .val (.ref dd), .val (.int (Int32.ofNat r1)), .val (.int (Int32.ofNat r2)), .val (.int (Int32.ofNat r3)), .unset, .unset, .unset] [])) _
    refine XS.aloadN X1107.here hx rfl (hb hby at_34) rfl rfl ?_
    show Steps p.tables e below (T1107.setTop (mkF m 35 #[.val (.int p1), .val (.int p2), .val (.int p3), .val (.ref dd), .val (.int (Int32.ofNat r1)), .val (.int (Int32.ofNat r2)), .val (.int (Int32.ofNat r3)), .unset, .unset, .unset] [(.ref dd)])) _
    refine XS.iconst X1107.here hx rfl (hb hby at_35) ?_
    exact k9
  obtain ⟨cq1108, kq1108, q1108a, q1108b, q1108c⟩ := isOf hZ rfl D3.1
  obtain ⟨_, _, ⟨T1108, L1108, k1108, n1108⟩, -, X1108, ⟨Lc1108, hQ1108, l1108, y1108, z1108⟩, st1108⟩ := X1107.virtualBack hx (y := (⟨"com/example/horizonte/horizonte/dd/DecisionDiagrams", "isLeaf", "(I)Z"⟩ : MethodName)) (z := (⟨"com/example/horizonte/horizonte/dd/DecisionDiagrams", "isLeaf", "(I)Z"⟩ : MethodName)) hown (mvT hZ (hw _ (List.mem_of_getElem? (i := 168) rfl))) (mvT hZ (hw _ (List.mem_of_getElem? (i := 169) rfl))) (notFace_of_selects (args := #[]) (mvT hZ (hw _ (List.mem_of_getElem? (i := 171) rfl)))) (mvT hZ (hw _ (List.mem_of_getElem? (i := 171) rfl))) (mvT hZ (hw _ (List.mem_of_getElem? (i := 170) rfl))) (by decide) (backOf (W := 0) (rm23 l Z a0 hw [] dd bv 0 (by omega) v3 1 (Or.inl ⟨g0, rfl⟩) T1107.heap n0 Z1107 FV AV) hZ (hw _ (List.mem_of_getElem? (i := 172) rfl)) (hw _ (List.mem_of_getElem? (i := 2) rfl)) (by decide) (by decide)) q1108a q1108c (g := (mkF m 36 #[.val (.int p1), .val (.int p2), .val (.int p3), .val (.ref dd), .val (.int (Int32.ofNat r1)), .val (.int (Int32.ofNat r2)), .val (.int (Int32.ofNat r3)), .unset, .unset, .unset] [(.int (0 : Int32)), (.ref dd)])) rfl (by rw [hml]; rfl) (Steps.refl _) (argsL := [(.int (0 : Int32))]) (rest := []) (lenOf pd__28I_29Z rfl) rfl (by show 2 * 0 + _ ≤ _; exact Nat.le_of_eq rfl) (hb hby at_36) (fun _ _ => ⟨rfl, rfl, (by decide : 21 + 0 ≤ _), (by decide : 15414 + 0 ≤ _)⟩)
  dsimp only [Pt.U, Pt.locs, Pt.cells, Pt.slots] at X1108 l1108 y1108 z1108 st1108 hQ1108
  subst l1108 y1108 z1108
  obtain ⟨rfl, N1108q, e1108q⟩ := hQ1108
  have N1108 := Fr.app N1107 N1108q
  refine go (T1108.setTop (mkF m 39 #[.val (.int p1), .val (.int p2), .val (.int p3), .val (.ref dd), .val (.int (Int32.ofNat r1)), .val (.int (Int32.ofNat r2)), .val (.int (Int32.ofNat r3)), .unset, .unset, .unset] [(.int (1 : Int32))])) _ (fun t9 k9 => st1108.trans k9) ?_
  refine go (T1108.setTop (mkF m 44 #[.val (.int p1), .val (.int p2), .val (.int p3), .val (.ref dd), .val (.int (Int32.ofNat r1)), .val (.int (Int32.ofNat r2)), .val (.int (Int32.ofNat r3)), .unset, .unset, .unset] [(.int (1 : Int32)), (.ref dd)])) _ (fun t9 k9 => ?_) ?_
  · show Steps p.tables e below (T1108.setTop (mkF m 39 #[.val (.int p1), .val (.int p2), .val (.int p3), .val (.ref dd), .val (.int (Int32.ofNat r1)), .val (.int (Int32.ofNat r2)), .val (.int (Int32.ofNat r3)), .unset, .unset, .unset] [(.int (1 : Int32))])) _
    refine XS.ifNo X1108.here hx rfl (hb hby at_39) rfl ((if0 _ _).trans (feq (by decide : ¬ (1 : Int32) = (0 : Int32))).1) ?_
    show Steps p.tables e below (T1108.setTop (mkF m 42 #[.val (.int p1), .val (.int p2), .val (.int p3), .val (.ref dd), .val (.int (Int32.ofNat r1)), .val (.int (Int32.ofNat r2)), .val (.int (Int32.ofNat r3)), .unset, .unset, .unset] [])) _
    refine XS.aloadN X1108.here hx rfl (hb hby at_42) rfl rfl ?_
    show Steps p.tables e below (T1108.setTop (mkF m 43 #[.val (.int p1), .val (.int p2), .val (.int p3), .val (.ref dd), .val (.int (Int32.ofNat r1)), .val (.int (Int32.ofNat r2)), .val (.int (Int32.ofNat r3)), .unset, .unset, .unset] [(.ref dd)])) _
    refine XS.iconst X1108.here hx rfl (hb hby at_43) ?_
    exact k9
  obtain ⟨cq1109, kq1109, q1109a, q1109b, q1109c⟩ := isOf hZ e1108q D3.1
  obtain ⟨_, _, ⟨T1109, L1109, k1109, n1109⟩, -, X1109, ⟨Lc1109, hQ1109, l1109, y1109, z1109⟩, st1109⟩ := X1108.virtualBack hx (y := (⟨"com/example/horizonte/horizonte/dd/DecisionDiagrams", "isLeaf", "(I)Z"⟩ : MethodName)) (z := (⟨"com/example/horizonte/horizonte/dd/DecisionDiagrams", "isLeaf", "(I)Z"⟩ : MethodName)) hown (mvT hZ (hw _ (List.mem_of_getElem? (i := 168) rfl))) (mvT hZ (hw _ (List.mem_of_getElem? (i := 169) rfl))) (notFace_of_selects (args := #[]) (mvT hZ (hw _ (List.mem_of_getElem? (i := 171) rfl)))) (mvT hZ (hw _ (List.mem_of_getElem? (i := 171) rfl))) (mvT hZ (hw _ (List.mem_of_getElem? (i := 170) rfl))) (by decide) (backOf (W := 0) (rm23 l Z a0 hw [] dd bv 1 (by omega) v3 1 (Or.inl ⟨g1, rfl⟩) T1107.heap n0 Z1107 FV AV) hZ (hw _ (List.mem_of_getElem? (i := 172) rfl)) (hw _ (List.mem_of_getElem? (i := 2) rfl)) (by decide) (by decide)) q1109a q1109c (g := (mkF m 44 #[.val (.int p1), .val (.int p2), .val (.int p3), .val (.ref dd), .val (.int (Int32.ofNat r1)), .val (.int (Int32.ofNat r2)), .val (.int (Int32.ofNat r3)), .unset, .unset, .unset] [(.int (1 : Int32)), (.ref dd)])) rfl (by rw [hml]; rfl) (Steps.refl _) (argsL := [(.int (1 : Int32))]) (rest := []) (lenOf pd__28I_29Z rfl) rfl (by show 2 * 0 + _ ≤ _; exact Nat.le_of_eq rfl) (hb hby at_44) (fun _ _ => ⟨rfl, e1108q, (by decide : 21 + 0 ≤ _), (by decide : 15414 + 0 ≤ _)⟩)
  dsimp only [Pt.U, Pt.locs, Pt.cells, Pt.slots] at X1109 l1109 y1109 z1109 st1109 hQ1109
  subst l1109 y1109 z1109
  obtain ⟨rfl, N1109q, e1109q⟩ := hQ1109
  have N1109 := Fr.app N1108 N1109q
  refine go (T1109.setTop (mkF m 47 #[.val (.int p1), .val (.int p2), .val (.int p3), .val (.ref dd), .val (.int (Int32.ofNat r1)), .val (.int (Int32.ofNat r2)), .val (.int (Int32.ofNat r3)), .unset, .unset, .unset] [(.int (1 : Int32))])) _ (fun t9 k9 => st1109.trans k9) ?_
  refine go (T1109.setTop (mkF m 53 #[.val (.int p1), .val (.int p2), .val (.int p3), .val (.ref dd), .val (.int (Int32.ofNat r1)), .val (.int (Int32.ofNat r2)), .val (.int (Int32.ofNat r3)), .unset, .unset, .unset] [(.int (Int32.ofNat r1)), (.ref dd)])) _ (fun t9 k9 => ?_) ?_
  · show Steps p.tables e below (T1109.setTop (mkF m 47 #[.val (.int p1), .val (.int p2), .val (.int p3), .val (.ref dd), .val (.int (Int32.ofNat r1)), .val (.int (Int32.ofNat r2)), .val (.int (Int32.ofNat r3)), .unset, .unset, .unset] [(.int (1 : Int32))])) _
    refine XS.ifNo X1109.here hx rfl (hb hby at_47) rfl ((if0 _ _).trans (feq (by decide : ¬ (1 : Int32) = (0 : Int32))).1) ?_
    show Steps p.tables e below (T1109.setTop (mkF m 50 #[.val (.int p1), .val (.int p2), .val (.int p3), .val (.ref dd), .val (.int (Int32.ofNat r1)), .val (.int (Int32.ofNat r2)), .val (.int (Int32.ofNat r3)), .unset, .unset, .unset] [])) _
    refine XS.aloadN X1109.here hx rfl (hb hby at_50) rfl rfl ?_
    show Steps p.tables e below (T1109.setTop (mkF m 51 #[.val (.int p1), .val (.int p2), .val (.int p3), .val (.ref dd), .val (.int (Int32.ofNat r1)), .val (.int (Int32.ofNat r2)), .val (.int (Int32.ofNat r3)), .unset, .unset, .unset] [(.ref dd)])) _
    refine XS.iload X1109.here hx rfl (hb hby at_51) rfl ?_
    exact k9
  obtain ⟨cq1110, kq1110, q1110a, q1110b, q1110c⟩ := isOf hZ e1109q D3.1
  obtain ⟨_, _, ⟨T1110, L1110, k1110, n1110⟩, -, X1110, ⟨Lc1110, hQ1110, l1110, y1110, z1110⟩, st1110⟩ := X1109.virtualBack hx (y := (⟨"com/example/horizonte/horizonte/dd/DecisionDiagrams", "isLeaf", "(I)Z"⟩ : MethodName)) (z := (⟨"com/example/horizonte/horizonte/dd/DecisionDiagrams", "isLeaf", "(I)Z"⟩ : MethodName)) hown (mvT hZ (hw _ (List.mem_of_getElem? (i := 168) rfl))) (mvT hZ (hw _ (List.mem_of_getElem? (i := 169) rfl))) (notFace_of_selects (args := #[]) (mvT hZ (hw _ (List.mem_of_getElem? (i := 171) rfl)))) (mvT hZ (hw _ (List.mem_of_getElem? (i := 171) rfl))) (mvT hZ (hw _ (List.mem_of_getElem? (i := 170) rfl))) (by decide) (backOf (W := 0) (rm23 l Z a0 hw [] dd bv r1 (by omega) v3 1 (Or.inl ⟨g2, rfl⟩) T1107.heap n0 Z1107 FV AV) hZ (hw _ (List.mem_of_getElem? (i := 172) rfl)) (hw _ (List.mem_of_getElem? (i := 2) rfl)) (by decide) (by decide)) q1110a q1110c (g := (mkF m 53 #[.val (.int p1), .val (.int p2), .val (.int p3), .val (.ref dd), .val (.int (Int32.ofNat r1)), .val (.int (Int32.ofNat r2)), .val (.int (Int32.ofNat r3)), .unset, .unset, .unset] [(.int (Int32.ofNat r1)), (.ref dd)])) rfl (by rw [hml]; rfl) (Steps.refl _) (argsL := [(.int (Int32.ofNat r1))]) (rest := []) (lenOf pd__28I_29Z rfl) rfl (by show 2 * 0 + _ ≤ _; exact Nat.le_of_eq rfl) (hb hby at_53) (fun _ _ => ⟨rfl, e1109q, (by decide : 21 + 0 ≤ _), (by decide : 15414 + 0 ≤ _)⟩)
  dsimp only [Pt.U, Pt.locs, Pt.cells, Pt.slots] at X1110 l1110 y1110 z1110 st1110 hQ1110
  subst l1110 y1110 z1110
  obtain ⟨rfl, N1110q, e1110q⟩ := hQ1110
  have N1110 := Fr.app N1109 N1110q
  refine go (T1110.setTop (mkF m 56 #[.val (.int p1), .val (.int p2), .val (.int p3), .val (.ref dd), .val (.int (Int32.ofNat r1)), .val (.int (Int32.ofNat r2)), .val (.int (Int32.ofNat r3)), .unset, .unset, .unset] [(.int (1 : Int32))])) _ (fun t9 k9 => st1110.trans k9) ?_
  refine go (T1110.setTop (mkF m 62 #[.val (.int p1), .val (.int p2), .val (.int p3), .val (.ref dd), .val (.int (Int32.ofNat r1)), .val (.int (Int32.ofNat r2)), .val (.int (Int32.ofNat r3)), .unset, .unset, .unset] [(.int (Int32.ofNat r2)), (.ref dd)])) _ (fun t9 k9 => ?_) ?_
  · show Steps p.tables e below (T1110.setTop (mkF m 56 #[.val (.int p1), .val (.int p2), .val (.int p3), .val (.ref dd), .val (.int (Int32.ofNat r1)), .val (.int (Int32.ofNat r2)), .val (.int (Int32.ofNat r3)), .unset, .unset, .unset] [(.int (1 : Int32))])) _
    refine XS.ifNo X1110.here hx rfl (hb hby at_56) rfl ((if0 _ _).trans (feq (by decide : ¬ (1 : Int32) = (0 : Int32))).1) ?_
    show Steps p.tables e below (T1110.setTop (mkF m 59 #[.val (.int p1), .val (.int p2), .val (.int p3), .val (.ref dd), .val (.int (Int32.ofNat r1)), .val (.int (Int32.ofNat r2)), .val (.int (Int32.ofNat r3)), .unset, .unset, .unset] [])) _
    refine XS.aloadN X1110.here hx rfl (hb hby at_59) rfl rfl ?_
    show Steps p.tables e below (T1110.setTop (mkF m 60 #[.val (.int p1), .val (.int p2), .val (.int p3), .val (.ref dd), .val (.int (Int32.ofNat r1)), .val (.int (Int32.ofNat r2)), .val (.int (Int32.ofNat r3)), .unset, .unset, .unset] [(.ref dd)])) _
    refine XS.iload X1110.here hx rfl (hb hby at_60) rfl ?_
    exact k9
  obtain ⟨cq1111, kq1111, q1111a, q1111b, q1111c⟩ := isOf hZ e1110q D3.1
  obtain ⟨_, _, ⟨T1111, L1111, k1111, n1111⟩, -, X1111, ⟨Lc1111, hQ1111, l1111, y1111, z1111⟩, st1111⟩ := X1110.virtualBack hx (y := (⟨"com/example/horizonte/horizonte/dd/DecisionDiagrams", "isLeaf", "(I)Z"⟩ : MethodName)) (z := (⟨"com/example/horizonte/horizonte/dd/DecisionDiagrams", "isLeaf", "(I)Z"⟩ : MethodName)) hown (mvT hZ (hw _ (List.mem_of_getElem? (i := 168) rfl))) (mvT hZ (hw _ (List.mem_of_getElem? (i := 169) rfl))) (notFace_of_selects (args := #[]) (mvT hZ (hw _ (List.mem_of_getElem? (i := 171) rfl)))) (mvT hZ (hw _ (List.mem_of_getElem? (i := 171) rfl))) (mvT hZ (hw _ (List.mem_of_getElem? (i := 170) rfl))) (by decide) (backOf (W := 0) (rm23 l Z a0 hw [] dd bv r2 (by omega) v3 1 (Or.inl ⟨g3, rfl⟩) T1107.heap n0 Z1107 FV AV) hZ (hw _ (List.mem_of_getElem? (i := 172) rfl)) (hw _ (List.mem_of_getElem? (i := 2) rfl)) (by decide) (by decide)) q1111a q1111c (g := (mkF m 62 #[.val (.int p1), .val (.int p2), .val (.int p3), .val (.ref dd), .val (.int (Int32.ofNat r1)), .val (.int (Int32.ofNat r2)), .val (.int (Int32.ofNat r3)), .unset, .unset, .unset] [(.int (Int32.ofNat r2)), (.ref dd)])) rfl (by rw [hml]; rfl) (Steps.refl _) (argsL := [(.int (Int32.ofNat r2))]) (rest := []) (lenOf pd__28I_29Z rfl) rfl (by show 2 * 0 + _ ≤ _; exact Nat.le_of_eq rfl) (hb hby at_62) (fun _ _ => ⟨rfl, e1110q, (by decide : 21 + 0 ≤ _), (by decide : 15414 + 0 ≤ _)⟩)
  dsimp only [Pt.U, Pt.locs, Pt.cells, Pt.slots] at X1111 l1111 y1111 z1111 st1111 hQ1111
  subst l1111 y1111 z1111
  obtain ⟨rfl, N1111q, e1111q⟩ := hQ1111
  have N1111 := Fr.app N1110 N1111q
  refine go (T1111.setTop (mkF m 65 #[.val (.int p1), .val (.int p2), .val (.int p3), .val (.ref dd), .val (.int (Int32.ofNat r1)), .val (.int (Int32.ofNat r2)), .val (.int (Int32.ofNat r3)), .unset, .unset, .unset] [(.int (1 : Int32))])) _ (fun t9 k9 => st1111.trans k9) ?_
  refine go (T1111.setTop (mkF m 78 #[.val (.int p1), .val (.int p2), .val (.int p3), .val (.ref dd), .val (.int (Int32.ofNat r1)), .val (.int (Int32.ofNat r2)), .val (.int (Int32.ofNat r3)), .val (.int (1 : Int32)), .unset, .unset] [(.int (Int32.ofNat r3)), (.ref dd)])) _ (fun t9 k9 => ?_) ?_
  · show Steps p.tables e below (T1111.setTop (mkF m 65 #[.val (.int p1), .val (.int p2), .val (.int p3), .val (.ref dd), .val (.int (Int32.ofNat r1)), .val (.int (Int32.ofNat r2)), .val (.int (Int32.ofNat r3)), .unset, .unset, .unset] [(.int (1 : Int32))])) _
    refine XS.ifNo X1111.here hx rfl (hb hby at_65) rfl ((if0 _ _).trans (feq (by decide : ¬ (1 : Int32) = (0 : Int32))).1) ?_
    show Steps p.tables e below (T1111.setTop (mkF m 68 #[.val (.int p1), .val (.int p2), .val (.int p3), .val (.ref dd), .val (.int (Int32.ofNat r1)), .val (.int (Int32.ofNat r2)), .val (.int (Int32.ofNat r3)), .unset, .unset, .unset] [])) _
    refine XS.iconst X1111.here hx rfl (hb hby at_68) ?_
    show Steps p.tables e below (T1111.setTop (mkF m 69 #[.val (.int p1), .val (.int p2), .val (.int p3), .val (.ref dd), .val (.int (Int32.ofNat r1)), .val (.int (Int32.ofNat r2)), .val (.int (Int32.ofNat r3)), .unset, .unset, .unset] [(.int (1 : Int32))])) _
    refine XS.goto X1111.here hx rfl (pc0 := 69) (pc' := 73) rfl (hb hby at_69) (by decide) (by decide) ?_
    show Steps p.tables e below (T1111.setTop (mkF m 73 #[.val (.int p1), .val (.int p2), .val (.int p3), .val (.ref dd), .val (.int (Int32.ofNat r1)), .val (.int (Int32.ofNat r2)), .val (.int (Int32.ofNat r3)), .unset, .unset, .unset] [(.int (1 : Int32))])) _
    refine XS.istore X1111.here hx rfl (hb hby at_73) rfl (l' := #[.val (.int p1), .val (.int p2), .val (.int p3), .val (.ref dd), .val (.int (Int32.ofNat r1)), .val (.int (Int32.ofNat r2)), .val (.int (Int32.ofNat r3)), .val (.int (1 : Int32)), .unset, .unset]) rfl ?_
    show Steps p.tables e below (T1111.setTop (mkF m 75 #[.val (.int p1), .val (.int p2), .val (.int p3), .val (.ref dd), .val (.int (Int32.ofNat r1)), .val (.int (Int32.ofNat r2)), .val (.int (Int32.ofNat r3)), .val (.int (1 : Int32)), .unset, .unset] [])) _
    refine XS.aloadN X1111.here hx rfl (hb hby at_75) rfl rfl ?_
    show Steps p.tables e below (T1111.setTop (mkF m 76 #[.val (.int p1), .val (.int p2), .val (.int p3), .val (.ref dd), .val (.int (Int32.ofNat r1)), .val (.int (Int32.ofNat r2)), .val (.int (Int32.ofNat r3)), .val (.int (1 : Int32)), .unset, .unset] [(.ref dd)])) _
    refine XS.iload X1111.here hx rfl (hb hby at_76) rfl ?_
    exact k9
  obtain ⟨cq1112, kq1112, q1112a, q1112b, q1112c⟩ := isOf hZ e1111q D3.1
  obtain ⟨_, _, ⟨T1112, L1112, k1112, n1112⟩, -, X1112, ⟨Lc1112, hQ1112, l1112, y1112, z1112⟩, st1112⟩ := X1111.virtualBack hx (y := (⟨"com/example/horizonte/horizonte/dd/DecisionDiagrams", "isLeaf", "(I)Z"⟩ : MethodName)) (z := (⟨"com/example/horizonte/horizonte/dd/DecisionDiagrams", "isLeaf", "(I)Z"⟩ : MethodName)) hown (mvT hZ (hw _ (List.mem_of_getElem? (i := 168) rfl))) (mvT hZ (hw _ (List.mem_of_getElem? (i := 169) rfl))) (notFace_of_selects (args := #[]) (mvT hZ (hw _ (List.mem_of_getElem? (i := 171) rfl)))) (mvT hZ (hw _ (List.mem_of_getElem? (i := 171) rfl))) (mvT hZ (hw _ (List.mem_of_getElem? (i := 170) rfl))) (by decide) (backOf (W := 0) (rm23 l Z a0 hw [] dd bv r3 (by omega) v3 0 (Or.inr ⟨g4, rfl⟩) T1107.heap n0 Z1107 FV AV) hZ (hw _ (List.mem_of_getElem? (i := 172) rfl)) (hw _ (List.mem_of_getElem? (i := 2) rfl)) (by decide) (by decide)) q1112a q1112c (g := (mkF m 78 #[.val (.int p1), .val (.int p2), .val (.int p3), .val (.ref dd), .val (.int (Int32.ofNat r1)), .val (.int (Int32.ofNat r2)), .val (.int (Int32.ofNat r3)), .val (.int (1 : Int32)), .unset, .unset] [(.int (Int32.ofNat r3)), (.ref dd)])) rfl (by rw [hml]; rfl) (Steps.refl _) (argsL := [(.int (Int32.ofNat r3))]) (rest := []) (lenOf pd__28I_29Z rfl) rfl (by show 2 * 0 + _ ≤ _; exact Nat.le_of_eq rfl) (hb hby at_78) (fun _ _ => ⟨rfl, e1111q, (by decide : 21 + 0 ≤ _), (by decide : 15414 + 0 ≤ _)⟩)
  dsimp only [Pt.U, Pt.locs, Pt.cells, Pt.slots] at X1112 l1112 y1112 z1112 st1112 hQ1112
  subst l1112 y1112 z1112
  obtain ⟨rfl, N1112q, e1112q⟩ := hQ1112
  have N1112 := Fr.app N1111 N1112q
  refine go (T1112.setTop (mkF m 81 #[.val (.int p1), .val (.int p2), .val (.int p3), .val (.ref dd), .val (.int (Int32.ofNat r1)), .val (.int (Int32.ofNat r2)), .val (.int (Int32.ofNat r3)), .val (.int (1 : Int32)), .unset, .unset] [(.int (0 : Int32))])) _ (fun t9 k9 => st1112.trans k9) ?_
  refine go (T1112.setTop (mkF m 95 #[.val (.int p1), .val (.int p2), .val (.int p3), .val (.ref dd), .val (.int (Int32.ofNat r1)), .val (.int (Int32.ofNat r2)), .val (.int (Int32.ofNat r3)), .val (.int (1 : Int32)), .val (.int (1 : Int32)), .unset] [(.int (Int32.ofNat r3)), (.ref dd), (.ref dd)])) _ (fun t9 k9 => ?_) ?_
  · show Steps p.tables e below (T1112.setTop (mkF m 81 #[.val (.int p1), .val (.int p2), .val (.int p3), .val (.ref dd), .val (.int (Int32.ofNat r1)), .val (.int (Int32.ofNat r2)), .val (.int (Int32.ofNat r3)), .val (.int (1 : Int32)), .unset, .unset] [(.int (0 : Int32))])) _
    refine XS.ifNo X1112.here hx rfl (hb hby at_81) rfl ((if0 _ _).trans (teq (by decide : (0 : Int32) = (0 : Int32))).2) ?_
    show Steps p.tables e below (T1112.setTop (mkF m 84 #[.val (.int p1), .val (.int p2), .val (.int p3), .val (.ref dd), .val (.int (Int32.ofNat r1)), .val (.int (Int32.ofNat r2)), .val (.int (Int32.ofNat r3)), .val (.int (1 : Int32)), .unset, .unset] [])) _
    refine XS.iconst X1112.here hx rfl (hb hby at_84) ?_
    show Steps p.tables e below (T1112.setTop (mkF m 85 #[.val (.int p1), .val (.int p2), .val (.int p3), .val (.ref dd), .val (.int (Int32.ofNat r1)), .val (.int (Int32.ofNat r2)), .val (.int (Int32.ofNat r3)), .val (.int (1 : Int32)), .unset, .unset] [(.int (1 : Int32))])) _
    refine XS.goto X1112.here hx rfl (pc0 := 85) (pc' := 89) rfl (hb hby at_85) (by decide) (by decide) ?_
    show Steps p.tables e below (T1112.setTop (mkF m 89 #[.val (.int p1), .val (.int p2), .val (.int p3), .val (.ref dd), .val (.int (Int32.ofNat r1)), .val (.int (Int32.ofNat r2)), .val (.int (Int32.ofNat r3)), .val (.int (1 : Int32)), .unset, .unset] [(.int (1 : Int32))])) _
    refine XS.istore X1112.here hx rfl (hb hby at_89) rfl (l' := #[.val (.int p1), .val (.int p2), .val (.int p3), .val (.ref dd), .val (.int (Int32.ofNat r1)), .val (.int (Int32.ofNat r2)), .val (.int (Int32.ofNat r3)), .val (.int (1 : Int32)), .val (.int (1 : Int32)), .unset]) rfl ?_
    show Steps p.tables e below (T1112.setTop (mkF m 91 #[.val (.int p1), .val (.int p2), .val (.int p3), .val (.ref dd), .val (.int (Int32.ofNat r1)), .val (.int (Int32.ofNat r2)), .val (.int (Int32.ofNat r3)), .val (.int (1 : Int32)), .val (.int (1 : Int32)), .unset] [])) _
    refine XS.aloadN X1112.here hx rfl (hb hby at_91) rfl rfl ?_
    show Steps p.tables e below (T1112.setTop (mkF m 92 #[.val (.int p1), .val (.int p2), .val (.int p3), .val (.ref dd), .val (.int (Int32.ofNat r1)), .val (.int (Int32.ofNat r2)), .val (.int (Int32.ofNat r3)), .val (.int (1 : Int32)), .val (.int (1 : Int32)), .unset] [(.ref dd)])) _
    refine XS.aloadN X1112.here hx rfl (hb hby at_92) rfl rfl ?_
    show Steps p.tables e below (T1112.setTop (mkF m 93 #[.val (.int p1), .val (.int p2), .val (.int p3), .val (.ref dd), .val (.int (Int32.ofNat r1)), .val (.int (Int32.ofNat r2)), .val (.int (Int32.ofNat r3)), .val (.int (1 : Int32)), .val (.int (1 : Int32)), .unset] [(.ref dd), (.ref dd)])) _
    refine XS.iload X1112.here hx rfl (hb hby at_93) rfl ?_
    exact k9
  obtain ⟨cq1113, kq1113, q1113a, q1113b, q1113c⟩ := isOf hZ e1112q D3.1
  obtain ⟨_, _, ⟨T1113, L1113, k1113, n1113⟩, -, X1113, ⟨Lc1113, hQ1113, l1113, y1113, z1113⟩, st1113⟩ := X1112.virtualBack hx (y := (⟨"com/example/horizonte/horizonte/dd/DecisionDiagrams", "low", "(I)I"⟩ : MethodName)) (z := (⟨"com/example/horizonte/horizonte/dd/DecisionDiagrams", "low", "(I)I"⟩ : MethodName)) hown (mvT hZ (hw _ (List.mem_of_getElem? (i := 173) rfl))) (mvT hZ (hw _ (List.mem_of_getElem? (i := 174) rfl))) (notFace_of_selects (args := #[]) (mvT hZ (hw _ (List.mem_of_getElem? (i := 176) rfl)))) (mvT hZ (hw _ (List.mem_of_getElem? (i := 176) rfl))) (mvT hZ (hw _ (List.mem_of_getElem? (i := 175) rfl))) (by decide) (backOf (W := 1) (rm24 l Z a0 hw [] dd bl r3 (by omega) lo3 T1107.heap n0 Z1107 FL AL) hZ (hw _ (List.mem_of_getElem? (i := 177) rfl)) (hw _ (List.mem_of_getElem? (i := 2) rfl)) (by decide) (by decide)) q1113a q1113c (g := (mkF m 95 #[.val (.int p1), .val (.int p2), .val (.int p3), .val (.ref dd), .val (.int (Int32.ofNat r1)), .val (.int (Int32.ofNat r2)), .val (.int (Int32.ofNat r3)), .val (.int (1 : Int32)), .val (.int (1 : Int32)), .unset] [(.int (Int32.ofNat r3)), (.ref dd), (.ref dd)])) rfl (by rw [hml]; rfl) (Steps.refl _) (argsL := [(.int (Int32.ofNat r3))]) (rest := [(.ref dd)]) (lenOf pd__28I_29I rfl) rfl (by show 2 * 0 + _ ≤ _; exact Nat.le_of_eq rfl) (hb hby at_95) (fun _ _ => ⟨rfl, e1112q, (by decide : 21 + 0 ≤ _), (by decide : 15414 + 0 ≤ _)⟩)
  dsimp only [Pt.U, Pt.locs, Pt.cells, Pt.slots] at X1113 l1113 y1113 z1113 st1113 hQ1113
  subst l1113 y1113 z1113
  obtain ⟨rfl, N1113q, e1113q⟩ := hQ1113
  have N1113 := Fr.app N1112 N1113q
  refine go (T1113.setTop (mkF m 98 #[.val (.int p1), .val (.int p2), .val (.int p3), .val (.ref dd), .val (.int (Int32.ofNat r1)), .val (.int (Int32.ofNat r2)), .val (.int (Int32.ofNat r3)), .val (.int (1 : Int32)), .val (.int (1 : Int32)), .unset] [(.int (lo3 r3)), (.ref dd)])) _ (fun t9 k9 => st1113.trans k9) ?_
  rw [R3f]
  obtain ⟨cq1114, kq1114, q1114a, q1114b, q1114c⟩ := isOf hZ e1113q D3.1
  obtain ⟨_, _, ⟨T1114, L1114, k1114, n1114⟩, -, X1114, ⟨Lc1114, hQ1114, l1114, y1114, z1114⟩, st1114⟩ := X1113.virtualBack hx (y := (⟨"com/example/horizonte/horizonte/dd/DecisionDiagrams", "isLeaf", "(I)Z"⟩ : MethodName)) (z := (⟨"com/example/horizonte/horizonte/dd/DecisionDiagrams", "isLeaf", "(I)Z"⟩ : MethodName)) hown (mvT hZ (hw _ (List.mem_of_getElem? (i := 168) rfl))) (mvT hZ (hw _ (List.mem_of_getElem? (i := 169) rfl))) (notFace_of_selects (args := #[]) (mvT hZ (hw _ (List.mem_of_getElem? (i := 171) rfl)))) (mvT hZ (hw _ (List.mem_of_getElem? (i := 171) rfl))) (mvT hZ (hw _ (List.mem_of_getElem? (i := 170) rfl))) (by decide) (backOf (W := 0) (rm23 l Z a0 hw [] dd bv 0 (by omega) v3 1 (Or.inl ⟨g0, rfl⟩) T1107.heap n0 Z1107 FV AV) hZ (hw _ (List.mem_of_getElem? (i := 172) rfl)) (hw _ (List.mem_of_getElem? (i := 2) rfl)) (by decide) (by decide)) q1114a q1114c (g := (mkF m 98 #[.val (.int p1), .val (.int p2), .val (.int p3), .val (.ref dd), .val (.int (Int32.ofNat r1)), .val (.int (Int32.ofNat r2)), .val (.int (Int32.ofNat r3)), .val (.int (1 : Int32)), .val (.int (1 : Int32)), .unset] [(.int (0 : Int32)), (.ref dd)])) rfl (by rw [hml]; rfl) (Steps.refl _) (argsL := [(.int (0 : Int32))]) (rest := []) (lenOf pd__28I_29Z rfl) rfl (by show 2 * 0 + _ ≤ _; exact Nat.le_of_eq rfl) (hb hby at_98) (fun _ _ => ⟨rfl, e1113q, (by decide : 21 + 0 ≤ _), (by decide : 15414 + 0 ≤ _)⟩)
  dsimp only [Pt.U, Pt.locs, Pt.cells, Pt.slots] at X1114 l1114 y1114 z1114 st1114 hQ1114
  subst l1114 y1114 z1114
  obtain ⟨rfl, N1114q, e1114q⟩ := hQ1114
  have N1114 := Fr.app N1113 N1114q
  refine go (T1114.setTop (mkF m 101 #[.val (.int p1), .val (.int p2), .val (.int p3), .val (.ref dd), .val (.int (Int32.ofNat r1)), .val (.int (Int32.ofNat r2)), .val (.int (Int32.ofNat r3)), .val (.int (1 : Int32)), .val (.int (1 : Int32)), .unset] [(.int (1 : Int32))])) _ (fun t9 k9 => st1114.trans k9) ?_
  refine go (T1114.setTop (mkF m 108 #[.val (.int p1), .val (.int p2), .val (.int p3), .val (.ref dd), .val (.int (Int32.ofNat r1)), .val (.int (Int32.ofNat r2)), .val (.int (Int32.ofNat r3)), .val (.int (1 : Int32)), .val (.int (1 : Int32)), .unset] [(.int (Int32.ofNat r3)), (.ref dd), (.ref dd)])) _ (fun t9 k9 => ?_) ?_
  · show Steps p.tables e below (T1114.setTop (mkF m 101 #[.val (.int p1), .val (.int p2), .val (.int p3), .val (.ref dd), .val (.int (Int32.ofNat r1)), .val (.int (Int32.ofNat r2)), .val (.int (Int32.ofNat r3)), .val (.int (1 : Int32)), .val (.int (1 : Int32)), .unset] [(.int (1 : Int32))])) _
    refine XS.ifNo X1114.here hx rfl (hb hby at_101) rfl ((if0 _ _).trans (feq (by decide : ¬ (1 : Int32) = (0 : Int32))).1) ?_
    show Steps p.tables e below (T1114.setTop (mkF m 104 #[.val (.int p1), .val (.int p2), .val (.int p3), .val (.ref dd), .val (.int (Int32.ofNat r1)), .val (.int (Int32.ofNat r2)), .val (.int (Int32.ofNat r3)), .val (.int (1 : Int32)), .val (.int (1 : Int32)), .unset] [])) _
    refine XS.aloadN X1114.here hx rfl (hb hby at_104) rfl rfl ?_
    show Steps p.tables e below (T1114.setTop (mkF m 105 #[.val (.int p1), .val (.int p2), .val (.int p3), .val (.ref dd), .val (.int (Int32.ofNat r1)), .val (.int (Int32.ofNat r2)), .val (.int (Int32.ofNat r3)), .val (.int (1 : Int32)), .val (.int (1 : Int32)), .unset] [(.ref dd)])) _
    refine XS.aloadN X1114.here hx rfl (hb hby at_105) rfl rfl ?_
    show Steps p.tables e below (T1114.setTop (mkF m 106 #[.val (.int p1), .val (.int p2), .val (.int p3), .val (.ref dd), .val (.int (Int32.ofNat r1)), .val (.int (Int32.ofNat r2)), .val (.int (Int32.ofNat r3)), .val (.int (1 : Int32)), .val (.int (1 : Int32)), .unset] [(.ref dd), (.ref dd)])) _
    refine XS.iload X1114.here hx rfl (hb hby at_106) rfl ?_
    exact k9
  obtain ⟨cq1115, kq1115, q1115a, q1115b, q1115c⟩ := isOf hZ e1114q D3.1
  obtain ⟨_, _, ⟨T1115, L1115, k1115, n1115⟩, -, X1115, ⟨Lc1115, hQ1115, l1115, y1115, z1115⟩, st1115⟩ := X1114.virtualBack hx (y := (⟨"com/example/horizonte/horizonte/dd/DecisionDiagrams", "high", "(I)I"⟩ : MethodName)) (z := (⟨"com/example/horizonte/horizonte/dd/DecisionDiagrams", "high", "(I)I"⟩ : MethodName)) hown (mvT hZ (hw _ (List.mem_of_getElem? (i := 178) rfl))) (mvT hZ (hw _ (List.mem_of_getElem? (i := 179) rfl))) (notFace_of_selects (args := #[]) (mvT hZ (hw _ (List.mem_of_getElem? (i := 181) rfl)))) (mvT hZ (hw _ (List.mem_of_getElem? (i := 181) rfl))) (mvT hZ (hw _ (List.mem_of_getElem? (i := 180) rfl))) (by decide) (backOf (W := 1) (rm25 l Z a0 hw [] dd bh r3 (by omega) hi3 T1107.heap n0 Z1107 FH AH) hZ (hw _ (List.mem_of_getElem? (i := 182) rfl)) (hw _ (List.mem_of_getElem? (i := 2) rfl)) (by decide) (by decide)) q1115a q1115c (g := (mkF m 108 #[.val (.int p1), .val (.int p2), .val (.int p3), .val (.ref dd), .val (.int (Int32.ofNat r1)), .val (.int (Int32.ofNat r2)), .val (.int (Int32.ofNat r3)), .val (.int (1 : Int32)), .val (.int (1 : Int32)), .unset] [(.int (Int32.ofNat r3)), (.ref dd), (.ref dd)])) rfl (by rw [hml]; rfl) (Steps.refl _) (argsL := [(.int (Int32.ofNat r3))]) (rest := [(.ref dd)]) (lenOf pd__28I_29I rfl) rfl (by show 2 * 0 + _ ≤ _; exact Nat.le_of_eq rfl) (hb hby at_108) (fun _ _ => ⟨rfl, e1114q, (by decide : 21 + 0 ≤ _), (by decide : 15414 + 0 ≤ _)⟩)
  dsimp only [Pt.U, Pt.locs, Pt.cells, Pt.slots] at X1115 l1115 y1115 z1115 st1115 hQ1115
  subst l1115 y1115 z1115
  obtain ⟨rfl, N1115q, e1115q⟩ := hQ1115
  have N1115 := Fr.app N1114 N1115q
  refine go (T1115.setTop (mkF m 111 #[.val (.int p1), .val (.int p2), .val (.int p3), .val (.ref dd), .val (.int (Int32.ofNat r1)), .val (.int (Int32.ofNat r2)), .val (.int (Int32.ofNat r3)), .val (.int (1 : Int32)), .val (.int (1 : Int32)), .unset] [(.int (hi3 r3)), (.ref dd)])) _ (fun t9 k9 => st1115.trans k9) ?_
  rw [R3g]
  obtain ⟨cq1116, kq1116, q1116a, q1116b, q1116c⟩ := isOf hZ e1115q D3.1
  obtain ⟨_, _, ⟨T1116, L1116, k1116, n1116⟩, -, X1116, ⟨Lc1116, hQ1116, l1116, y1116, z1116⟩, st1116⟩ := X1115.virtualBack hx (y := (⟨"com/example/horizonte/horizonte/dd/DecisionDiagrams", "isLeaf", "(I)Z"⟩ : MethodName)) (z := (⟨"com/example/horizonte/horizonte/dd/DecisionDiagrams", "isLeaf", "(I)Z"⟩ : MethodName)) hown (mvT hZ (hw _ (List.mem_of_getElem? (i := 168) rfl))) (mvT hZ (hw _ (List.mem_of_getElem? (i := 169) rfl))) (notFace_of_selects (args := #[]) (mvT hZ (hw _ (List.mem_of_getElem? (i := 171) rfl)))) (mvT hZ (hw _ (List.mem_of_getElem? (i := 171) rfl))) (mvT hZ (hw _ (List.mem_of_getElem? (i := 170) rfl))) (by decide) (backOf (W := 0) (rm23 l Z a0 hw [] dd bv 1 (by omega) v3 1 (Or.inl ⟨g1, rfl⟩) T1107.heap n0 Z1107 FV AV) hZ (hw _ (List.mem_of_getElem? (i := 172) rfl)) (hw _ (List.mem_of_getElem? (i := 2) rfl)) (by decide) (by decide)) q1116a q1116c (g := (mkF m 111 #[.val (.int p1), .val (.int p2), .val (.int p3), .val (.ref dd), .val (.int (Int32.ofNat r1)), .val (.int (Int32.ofNat r2)), .val (.int (Int32.ofNat r3)), .val (.int (1 : Int32)), .val (.int (1 : Int32)), .unset] [(.int (1 : Int32)), (.ref dd)])) rfl (by rw [hml]; rfl) (Steps.refl _) (argsL := [(.int (1 : Int32))]) (rest := []) (lenOf pd__28I_29Z rfl) rfl (by show 2 * 0 + _ ≤ _; exact Nat.le_of_eq rfl) (hb hby at_111) (fun _ _ => ⟨rfl, e1115q, (by decide : 21 + 0 ≤ _), (by decide : 15414 + 0 ≤ _)⟩)
  dsimp only [Pt.U, Pt.locs, Pt.cells, Pt.slots] at X1116 l1116 y1116 z1116 st1116 hQ1116
  subst l1116 y1116 z1116
  obtain ⟨rfl, N1116q, e1116q⟩ := hQ1116
  have N1116 := Fr.app N1115 N1116q
  refine go (T1116.setTop (mkF m 114 #[.val (.int p1), .val (.int p2), .val (.int p3), .val (.ref dd), .val (.int (Int32.ofNat r1)), .val (.int (Int32.ofNat r2)), .val (.int (Int32.ofNat r3)), .val (.int (1 : Int32)), .val (.int (1 : Int32)), .unset] [(.int (1 : Int32))])) _ (fun t9 k9 => st1116.trans k9) ?_
  refine go (T1116.setTop (mkF m 144 #[.val (.int p1), .val (.int p2), .val (.int p3), .val (.ref dd), .val (.int (Int32.ofNat r1)), .val (.int (Int32.ofNat r2)), .val (.int (Int32.ofNat r3)), .val (.int (1 : Int32)), .val (.int (1 : Int32)), .val (.int (1 : Int32))] [(.int (1 : Int32))])) _ (fun t9 k9 => ?_) ?_
  · show Steps p.tables e below (T1116.setTop (mkF m 114 #[.val (.int p1), .val (.int p2), .val (.int p3), .val (.ref dd), .val (.int (Int32.ofNat r1)), .val (.int (Int32.ofNat r2)), .val (.int (Int32.ofNat r3)), .val (.int (1 : Int32)), .val (.int (1 : Int32)), .unset] [(.int (1 : Int32))])) _
    refine XS.ifNo X1116.here hx rfl (hb hby at_114) rfl ((if0 _ _).trans (feq (by decide : ¬ (1 : Int32) = (0 : Int32))).1) ?_
    show Steps p.tables e below (T1116.setTop (mkF m 117 #[.val (.int p1), .val (.int p2), .val (.int p3), .val (.ref dd), .val (.int (Int32.ofNat r1)), .val (.int (Int32.ofNat r2)), .val (.int (Int32.ofNat r3)), .val (.int (1 : Int32)), .val (.int (1 : Int32)), .unset] [])) _
    refine XS.iconst X1116.here hx rfl (hb hby at_117) ?_
    show Steps p.tables e below (T1116.setTop (mkF m 118 #[.val (.int p1), .val (.int p2), .val (.int p3), .val (.ref dd), .val (.int (Int32.ofNat r1)), .val (.int (Int32.ofNat r2)), .val (.int (Int32.ofNat r3)), .val (.int (1 : Int32)), .val (.int (1 : Int32)), .unset] [(.int (1 : Int32))])) _
    refine XS.goto X1116.here hx rfl (pc0 := 118) (pc' := 122) rfl (hb hby at_118) (by decide) (by decide) ?_
    show Steps p.tables e below (T1116.setTop (mkF m 122 #[.val (.int p1), .val (.int p2), .val (.int p3), .val (.ref dd), .val (.int (Int32.ofNat r1)), .val (.int (Int32.ofNat r2)), .val (.int (Int32.ofNat r3)), .val (.int (1 : Int32)), .val (.int (1 : Int32)), .unset] [(.int (1 : Int32))])) _
    refine XS.istore X1116.here hx rfl (hb hby at_122) rfl (l' := #[.val (.int p1), .val (.int p2), .val (.int p3), .val (.ref dd), .val (.int (Int32.ofNat r1)), .val (.int (Int32.ofNat r2)), .val (.int (Int32.ofNat r3)), .val (.int (1 : Int32)), .val (.int (1 : Int32)), .val (.int (1 : Int32))]) rfl ?_
    show Steps p.tables e below (T1116.setTop (mkF m 124 #[.val (.int p1), .val (.int p2), .val (.int p3), .val (.ref dd), .val (.int (Int32.ofNat r1)), .val (.int (Int32.ofNat r2)), .val (.int (Int32.ofNat r3)), .val (.int (1 : Int32)), .val (.int (1 : Int32)), .val (.int (1 : Int32))] [])) _
    refine XS.iload X1116.here hx rfl (hb hby at_124) rfl ?_
    show Steps p.tables e below (T1116.setTop (mkF m 126 #[.val (.int p1), .val (.int p2), .val (.int p3), .val (.ref dd), .val (.int (Int32.ofNat r1)), .val (.int (Int32.ofNat r2)), .val (.int (Int32.ofNat r3)), .val (.int (1 : Int32)), .val (.int (1 : Int32)), .val (.int (1 : Int32))] [(.int (1 : Int32))])) _
    refine XS.ifNo X1116.here hx rfl (hb hby at_126) rfl ((if0 _ _).trans (feq (by decide : ¬ (1 : Int32) = (0 : Int32))).1) ?_
    show Steps p.tables e below (T1116.setTop (mkF m 129 #[.val (.int p1), .val (.int p2), .val (.int p3), .val (.ref dd), .val (.int (Int32.ofNat r1)), .val (.int (Int32.ofNat r2)), .val (.int (Int32.ofNat r3)), .val (.int (1 : Int32)), .val (.int (1 : Int32)), .val (.int (1 : Int32))] [])) _
    refine XS.iload X1116.here hx rfl (hb hby at_129) rfl ?_
    show Steps p.tables e below (T1116.setTop (mkF m 131 #[.val (.int p1), .val (.int p2), .val (.int p3), .val (.ref dd), .val (.int (Int32.ofNat r1)), .val (.int (Int32.ofNat r2)), .val (.int (Int32.ofNat r3)), .val (.int (1 : Int32)), .val (.int (1 : Int32)), .val (.int (1 : Int32))] [(.int (1 : Int32))])) _
    refine XS.ifNo X1116.here hx rfl (hb hby at_131) rfl ((if0 _ _).trans (feq (by decide : ¬ (1 : Int32) = (0 : Int32))).1) ?_
    show Steps p.tables e below (T1116.setTop (mkF m 134 #[.val (.int p1), .val (.int p2), .val (.int p3), .val (.ref dd), .val (.int (Int32.ofNat r1)), .val (.int (Int32.ofNat r2)), .val (.int (Int32.ofNat r3)), .val (.int (1 : Int32)), .val (.int (1 : Int32)), .val (.int (1 : Int32))] [])) _
    refine XS.iload X1116.here hx rfl (hb hby at_134) rfl ?_
    show Steps p.tables e below (T1116.setTop (mkF m 136 #[.val (.int p1), .val (.int p2), .val (.int p3), .val (.ref dd), .val (.int (Int32.ofNat r1)), .val (.int (Int32.ofNat r2)), .val (.int (Int32.ofNat r3)), .val (.int (1 : Int32)), .val (.int (1 : Int32)), .val (.int (1 : Int32))] [(.int (1 : Int32))])) _
    refine XS.ifNo X1116.here hx rfl (hb hby at_136) rfl ((if0 _ _).trans (feq (by decide : ¬ (1 : Int32) = (0 : Int32))).1) ?_
    show Steps p.tables e below (T1116.setTop (mkF m 139 #[.val (.int p1), .val (.int p2), .val (.int p3), .val (.ref dd), .val (.int (Int32.ofNat r1)), .val (.int (Int32.ofNat r2)), .val (.int (Int32.ofNat r3)), .val (.int (1 : Int32)), .val (.int (1 : Int32)), .val (.int (1 : Int32))] [])) _
    refine XS.iconst X1116.here hx rfl (hb hby at_139) ?_
    show Steps p.tables e below (T1116.setTop (mkF m 140 #[.val (.int p1), .val (.int p2), .val (.int p3), .val (.ref dd), .val (.int (Int32.ofNat r1)), .val (.int (Int32.ofNat r2)), .val (.int (Int32.ofNat r3)), .val (.int (1 : Int32)), .val (.int (1 : Int32)), .val (.int (1 : Int32))] [(.int (1 : Int32))])) _
    refine XS.goto X1116.here hx rfl (pc0 := 140) (pc' := 144) rfl (hb hby at_140) (by decide) (by decide) ?_
    exact k9
  obtain ⟨fs, hr, hrun, hended, hW, hsame⟩ := X1116.leave (v := some (.int (1 : Int32))) (fun h => by rw [Bd.returns] at h; cases h) hlk
  refine fin _ ⟨_, _, retN X1116 hx (t := .boolean) Bd.returns (by simp) (hb hby at_144) hr, hrun, hended, _, _, rfl, ?_, ⟨_, rfl⟩, hW, hsame.mono (by decide) (by decide)⟩
  show Q0 Z  h0 n0 _ T1116.heap _
  rw [e1116q]
  exact ⟨rfl, N1116⟩
set_option maxRecDepth 65536 in
set_option maxHeartbeats 40000000 in
theorem comes_1 {Post : Tables → Env → Array Value → State → Outcome → State → Prop} (hpost : ∀ tb e args s v u, (limb_1_1.after args s (.returned v) u = true ∧ limb_1_2.after args s (.returned v) u = true ∧ True) → FrameEnd s (.returned v) u (Jvm.fieldLocs frame_1_writes args s ++ Jvm.arrayLocs frame_1_arrays args s ++ Jvm.staticLocs frame_1_statics s) 56 28864 → Post tb e args s (.returned v) u) :
    ArmFor flags0 classFile x code maxLocals ret World_1 tables_1 room_1 Calls_1 rest_1 Pre_1 Post := by
  intro l hfl _ _ p e ha hc hk s m args below hf hA hF happ hP
  obtain ⟨hcalls, hrest, hpre⟩ := hP
  obtain ⟨-, -, -, hnamed, -, -, -, hat⟩ := (Spec.applies_iff hf).mp happ
  obtain ⟨hg, hn⟩ := and_e (Cond.before_iff.mp (show (Jvm.Cond.and given_1 narrow_1).before args s = true from hpre))
  obtain ⟨hcnt, hq0⟩ := and_e hg
  obtain ⟨ha0, hq1⟩ := and_e hq0
  obtain ⟨ha1, hq2⟩ := and_e hq1
  obtain ⟨w0, w1, w2, rfl⟩ : ∃ w0 w1 w2 : Value, args = #[w0, w1, w2] := by
    have hs : args.size = 3 := by simpa [Cond.value, given_1] using hcnt
    obtain ⟨L⟩ := args
    match L, hs with
    | [w0, w1, w2], _ => exact ⟨w0, w1, w2, rfl⟩
  have hw := fun d (hd : d ∈ tables_1) => atoms_spec (ws := Jvm.Cond.code x code maxLocals ret :: tables_1) hat d (List.mem_cons_of_mem _ hd)
  obtain ⟨i0, ei0⟩ := is_v ha0
  obtain rfl : w0 = (.int i0) := Option.some.inj ei0
  obtain ⟨i1, ei1⟩ := is_v ha1
  obtain rfl : w1 = (.int i1) := Option.some.inj ei1
  obtain ⟨i2, ei2⟩ := is_v hq2
  obtain rfl : w2 = (.int i2) := Option.some.inj ei2
  obtain ⟨hsets, hown0⟩ := atoms_of _ (rest_1_c_eq ▸ (show rest_1_c.before _ s = true from hrest))
  have mS := Cond.before_iff.mp (hsets _ (List.mem_of_getElem? (i := 7) rfl))
  obtain ⟨sa, esa⟩ := exa_v mS
  have HS : Sta s s.heap "java/util/ArrayList" "DEFAULTCAPACITY_EMPTY_ELEMENTDATA" "[Ljava/lang/Object;" (.ref sa) := Sta.start esa (Or.inr ⟨(hw _ (List.mem_of_getElem? (i := 28) rfl)), hsets _ (List.mem_of_getElem? (i := 2) rfl)⟩)
  obtain ⟨n, o, h1, h2, h3, _, L, rfl, ⟨rfl, N⟩, hq⟩ := rm0 l s _ hw tables_1 i0 i1 i2 sa s.heap s.heap.size (Nat.le_refl _) HS p e ha hc hk s m _ below hf ((Spec.applies_iff_loose hf).mp happ).1 ⟨rfl, State.Warmed39.refl s, rfl⟩ trivial
  refine ⟨n, _, h1, h2, h3, hpost _ _ _ _ _ _ ⟨Cond.after_iff.mpr rfl, Cond.after_iff.mpr (eq_i res_at (Term.int_eval (1)) rfl), trivial⟩ ⟨hq.1, hq.2.1, (hq.2.2.sift fun y hy => Or.inr (N y hy)).mono (by decide) (by decide)⟩⟩
theorem main_1_1 : Claimed_1_1 := comes_1 fun _ _ _ _ _ _ h hF => ⟨h.1, hF⟩
theorem main_1_2 : Claimed_1_2 := comes_1 fun _ _ _ _ _ _ h hF => ⟨h.2.1, hF⟩
end Jvm.Pilot.@@N@@
namespace Jvm.Pilot.@@N@@
open Jvm Jvm.ClassFile Sem Op Lib Jvm.Free Jvm.Stand Jvm.Pilot.@@N@@.Jvm.D
/-! MADE BY PROGRAM (witnessworld.py) out of the Statement's table words and the real class files: 31 classes; the members and pool entries that the words name. The judged class is class 1, her method 1. -/
namespace start1
open Jvm.ClassFile
def u (s : String) : CpInfo := .utf8 (stringToUtf16 s)
/-- a pool by its gaps: so many unusable entries, then the entry; so many at the end -/
def gap : Nat → List CpInfo → List CpInfo
  | 0, r => r
  | n + 1, r => .unusable :: gap n r
def poolList (es : List (Nat × CpInfo)) (last : Nat) : List CpInfo := es.foldr (fun e r => gap e.1 (e.2 :: r)) (gap last [])
def pool (es : List (Nat × CpInfo)) (last : Nat) : Array CpInfo := ⟨poolList es last⟩
def fileOf (pool : Array CpInfo) (this : Nat) (attrs : Array Attribute := #[]) (ms : Array MethodInfo := #[]) (fl : Nat := 33) (sup : Nat := 0) (ifs : Array Nat := #[]) (fds : Array FieldInfo := #[]) : ClassFile where
  minorVersion := 0
  majorVersion := 65
  constantPool := pool
  accessFlags := fl
  thisClass := this
  superClass := sup
  interfaces := ifs
  fields := fds
  methods := ms
  attributes := attrs
def plain (name : String) (sup : Option ClassId) : Class where
  name := name
  kind := .ordinary
  loader := none
  accessFlags := 33
  super := sup
  interfaces := #[]
  cf := none
  fields := #[]
  methods := #[]
  instanceTypes := #[]
  staticTypes := #[]
  resolved := #[]
  callSites := []
  init := .initialized
  statics := none
  mirror := none

def pool0 : Array CpInfo := pool [(5, u "<init>"), (0, u "()V"), (1, .class_ 10), (1, u "java/lang/Object")] 113

def k0c0 : Code := { maxStack := 0, maxLocals := 1, code := object_method_1_code, exceptionTable := #[], attributes := #[] }
def k0m0 : Method := { name := "<init>", desc := "()V", sig := { parameters := [], returnType := none }, accessFlags := 1, code := some k0c0 }
/-- java/lang/Object -/
def k0 : Class := { plain "java/lang/Object" none with
  accessFlags := 33
  interfaces := #[]
  cf := some (fileOf pool0 8 #[] #[{ accessFlags := 1, nameIndex := 5, descriptorIndex := 6, attributes := #[] }] 33 0 #[] #[])
  fields := #[]
  methods := #[k0m0]
  instanceTypes := #[]
  staticTypes := #[]
  resolved := Array.replicate 124 none
  statics := none }

def pool1 : Array CpInfo := pool [(2, .class_ 4), (0, .nameAndType 5 6), (0, u "java/lang/Object"), (0, u "<init>"), (0, u "()V"), (0, .class_ 8), (0, u "com/example/horizonte/horizonte/dd/DecisionDiagrams"), (0, .methodref 7 3), (0, .methodref 7 11), (0, .nameAndType 12 13), (0, u "constant"), (0, u "(D)I"), (0, .integer 1073741823), (0, .methodref 7 16), (0, .nameAndType 17 18), (0, u "variable"), (0, u "(I)I"), (0, .methodref 7 20), (0, .nameAndType 21 22), (0, u "isLeaf"), (0, u "(I)Z"), (0, .methodref 7 24), (0, .nameAndType 25 18), (0, u "low"), (0, .methodref 7 27), (0, .nameAndType 28 18), (0, u "high"), (0, .class_ 30), (0, u "com/example/horizonte/horizonte/dd/DecisionDiagramsIsLeafPinLaw"), (2, u "law"), (0, u "(III)Z")] 3

def k1m0 : Method := { name := "<init>", desc := "()V", sig := { parameters := [], returnType := none }, accessFlags := 2, code := none }
def k1c1 : Code := { maxStack := 3, maxLocals := 10, code := code, exceptionTable := #[], attributes := #[] }
def k1m1 : Method := { name := "law", desc := "(III)Z", sig := { parameters := [.int, .int, .int], returnType := some .boolean }, accessFlags := 9, code := some k1c1 }
/-- com/example/horizonte/horizonte/dd/DecisionDiagramsIsLeafPinLaw -/
def k1 : Class := { plain "com/example/horizonte/horizonte/dd/DecisionDiagramsIsLeafPinLaw" (some 0) with
  accessFlags := 49
  interfaces := #[]
  cf := some (fileOf pool1 29 #[] #[{ accessFlags := 2, nameIndex := 5, descriptorIndex := 6, attributes := #[] }, { accessFlags := 9, nameIndex := 33, descriptorIndex := 34, attributes := #[] }] 49 2 #[] #[])
  fields := #[]
  methods := #[k1m0, k1m1]
  instanceTypes := #[]
  staticTypes := #[]
  resolved := Array.replicate 38 none
  statics := none }

def pool2 : Array CpInfo := pool [(3, .methodref 4 5), (0, .class_ 6), (0, .nameAndType 7 8), (0, u "java/lang/Object"), (0, u "<init>"), (0, u "()V"), (0, .class_ 10), (0, u "com/example/horizonte/horizonte/dd/DecisionDiagrams"), (0, .fieldref 9 12), (0, .nameAndType 13 14), (0, u "variables"), (0, u "[I"), (0, .fieldref 9 16), (0, .nameAndType 17 14), (0, u "lows"), (0, .fieldref 9 19), (0, .nameAndType 20 14), (0, u "highs"), (0, .fieldref 9 22), (0, .nameAndType 23 24), (0, u "values"), (0, u "[D"), (0, .class_ 26), (0, u "com/example/horizonte/horizonte/dd/Terms"), (0, .methodref 25 5), (0, .fieldref 9 29), (0, .nameAndType 30 31), (0, u "terms"), (0, u "Lcom/example/horizonte/horizonte/dd/Terms;"), (0, .methodref 9 33), (0, .nameAndType 34 35), (0, u "filled"), (0, u "(I)[I"), (0, .fieldref 9 37), (0, .nameAndType 38 14), (0, u "slots"), (0, .fieldref 9 40), (0, .nameAndType 41 14), (0, u "cachedCodes"), (0, .fieldref 9 43), (0, .nameAndType 44 14), (0, u "cachedFirsts"), (0, .fieldref 9 46), (0, .nameAndType 47 14), (0, u "cachedSeconds"), (0, .fieldref 9 49), (0, .nameAndType 50 14), (0, u "cachedThirds"), (0, .fieldref 9 52), (0, .nameAndType 53 14), (0, u "cachedResults"), (0, .fieldref 9 55), (0, .nameAndType 56 24), (0, u "weights"), (0, .fieldref 9 58), (0, .nameAndType 59 14), (0, u "weighed"), (0, .methodref 9 61), (0, .nameAndType 62 63), (0, u "constant"), (0, u "(D)I"), (0, .fieldref 9 65), (0, .nameAndType 66 67), (0, u "zero"), (0, u "I"), (0, .fieldref 9 69), (0, .nameAndType 70 67), (0, u "one"), (0, .methodref 72 73), (0, .class_ 74), (0, .nameAndType 75 76), (0, u "java/lang/Double"), (0, u "isFinite"), (0, u "(D)Z"), (9, .methodref 9 87), (0, .nameAndType 88 63), (0, u "leaf"), (0, .methodref 9 90), (0, .nameAndType 91 92), (0, u "checkVariable"), (0, u "(I)V"), (0, .methodref 9 94), (0, .nameAndType 95 96), (0, u "decision"), (0, u "(III)I"), (5, u "realsMade"), (0, u "Z"), (35, .integer 2147483647), (1, .class_ 143), (1, u "java/util/Arrays"), (0, u "fill"), (1, .class_ 147), (0, u "com/example/horizonte/horizonte/dd/DecisionDiagrams$Chances"), (39, u "NO_REALS"), (4, .integer 1073741824), (10, u "(I)Z"), (36, u "add"), (28, u "(I)I"), (35, u "variable"), (33, .fieldref 9 340), (0, .nameAndType 341 67), (0, u "count"), (18, .methodref 141 361), (0, .nameAndType 144 362), (0, u "([II)V"), (2, u "weighing"), (2, u "weightsFilled"), (46, u "WEIGH"), (66, u "OPERATIONS"), (0, u "[Lcom/example/horizonte/horizonte/dd/Operation;"), (3, .class_ 488), (0, u "com/example/horizonte/horizonte/dd/DecisionDiagrams$Step"), (38, .class_ 529), (1, u "com/example/horizonte/horizonte/dd/DecisionDiagrams$1"), (145, .methodref 9 676), (0, .nameAndType 677 678), (0, u "make"), (0, u "(IIID)I"), (29, .methodref 72 709), (0, .nameAndType 710 711), (0, u "doubleToLongBits"), (0, u "(D)J"), (0, .methodref 9 713), (0, .nameAndType 714 715), (0, u "hash"), (0, u "(IIIJ)I"), (0, .methodref 9 717), (0, .nameAndType 240 678), (32, .long 11400714819323198485), (1, .long 13787848793156543929), (1, .long 10723151780598845931), (7, u "LEAF"), (1, u "FIRST_TEST"), (0, u "NONE"), (1, u "INITIAL_CAPACITY"), (1, u "LARGEST_CAPACITY"), (0, u "LARGEST_CACHE"), (26, u "isLeaf"), (1, u "low"), (0, u "high")] 118

def k2c0 : Code := { maxStack := 4, maxLocals := 1, code := prog_4_method_1_code, exceptionTable := #[], attributes := #[] }
def k2m0 : Method := { name := "<init>", desc := "()V", sig := { parameters := [], returnType := none }, accessFlags := 1, code := some k2c0 }
def k2c1 : Code := { maxStack := 4, maxLocals := 3, code := prog_4_method_2_code, exceptionTable := #[], attributes := #[] }
def k2m1 : Method := { name := "constant", desc := "(D)I", sig := { parameters := [.double], returnType := some .int }, accessFlags := 1, code := some k2c1 }
def k2c2 : Code := { maxStack := 4, maxLocals := 2, code := prog_4_method_3_code, exceptionTable := #[], attributes := #[] }
def k2m2 : Method := { name := "variable", desc := "(I)I", sig := { parameters := [.int], returnType := some .int }, accessFlags := 1, code := some k2c2 }
def k2c3 : Code := { maxStack := 2, maxLocals := 2, code := prog_4_method_58_code, exceptionTable := #[], attributes := #[] }
def k2m3 : Method := { name := "isLeaf", desc := "(I)Z", sig := { parameters := [.int], returnType := some .boolean }, accessFlags := 0, code := some k2c3 }
def k2c4 : Code := { maxStack := 2, maxLocals := 2, code := prog_4_method_60_code, exceptionTable := #[], attributes := #[] }
def k2m4 : Method := { name := "low", desc := "(I)I", sig := { parameters := [.int], returnType := some .int }, accessFlags := 0, code := some k2c4 }
def k2c5 : Code := { maxStack := 2, maxLocals := 2, code := prog_4_method_61_code, exceptionTable := #[], attributes := #[] }
def k2m5 : Method := { name := "high", desc := "(I)I", sig := { parameters := [.int], returnType := some .int }, accessFlags := 0, code := some k2c5 }
def k2c6 : Code := { maxStack := 8, maxLocals := 3, code := prog_4_method_66_code, exceptionTable := #[], attributes := #[] }
def k2m6 : Method := { name := "leaf", desc := "(D)I", sig := { parameters := [.double], returnType := some .int }, accessFlags := 2, code := some k2c6 }
def k2c7 : Code := { maxStack := 6, maxLocals := 4, code := prog_4_method_67_code, exceptionTable := #[], attributes := #[] }
def k2m7 : Method := { name := "decision", desc := "(III)I", sig := { parameters := [.int, .int, .int], returnType := some .int }, accessFlags := 2, code := some k2c7 }
def k2c8 : Code := { maxStack := 6, maxLocals := 11, code := prog_4_method_68_code, exceptionTable := #[], attributes := #[] }
def k2m8 : Method := { name := "make", desc := "(IIID)I", sig := { parameters := [.int, .int, .int, .double], returnType := some .int }, accessFlags := 2, code := some k2c8 }
def k2c9 : Code := { maxStack := 4, maxLocals := 6, code := prog_4_method_69_code, exceptionTable := #[], attributes := #[] }
def k2m9 : Method := { name := "add", desc := "(IIID)I", sig := { parameters := [.int, .int, .int, .double], returnType := some .int }, accessFlags := 2, code := some k2c9 }
def k2c10 : Code := { maxStack := 3, maxLocals := 1, code := prog_4_method_76_code, exceptionTable := #[], attributes := #[] }
def k2m10 : Method := { name := "checkVariable", desc := "(I)V", sig := { parameters := [.int], returnType := none }, accessFlags := 10, code := some k2c10 }
def k2c11 : Code := { maxStack := 5, maxLocals := 7, code := prog_4_method_81_code, exceptionTable := #[], attributes := #[] }
def k2m11 : Method := { name := "hash", desc := "(IIIJ)I", sig := { parameters := [.int, .int, .int, .long], returnType := some .int }, accessFlags := 10, code := some k2c11 }
def k2c12 : Code := { maxStack := 2, maxLocals := 2, code := prog_4_method_82_code, exceptionTable := #[], attributes := #[] }
def k2m12 : Method := { name := "filled", desc := "(I)[I", sig := { parameters := [.int], returnType := some (.array .int) }, accessFlags := 10, code := some k2c12 }
/-- com/example/horizonte/horizonte/dd/DecisionDiagrams -/
def k2 : Class := { plain "com/example/horizonte/horizonte/dd/DecisionDiagrams" (some 0) with
  accessFlags := 49
  interfaces := #[]
  cf := some (fileOf pool2 9 #[.nestMembers #[527, 146, 487]] #[{ accessFlags := 1, nameIndex := 7, descriptorIndex := 8, attributes := #[] }, { accessFlags := 1, nameIndex := 62, descriptorIndex := 63, attributes := #[] }, { accessFlags := 1, nameIndex := 305, descriptorIndex := 269, attributes := #[] }, { accessFlags := 0, nameIndex := 797, descriptorIndex := 203, attributes := #[] }, { accessFlags := 0, nameIndex := 799, descriptorIndex := 269, attributes := #[] }, { accessFlags := 0, nameIndex := 800, descriptorIndex := 269, attributes := #[] }, { accessFlags := 2, nameIndex := 88, descriptorIndex := 63, attributes := #[] }, { accessFlags := 2, nameIndex := 95, descriptorIndex := 96, attributes := #[] }, { accessFlags := 2, nameIndex := 677, descriptorIndex := 678, attributes := #[] }, { accessFlags := 2, nameIndex := 240, descriptorIndex := 678, attributes := #[] }, { accessFlags := 10, nameIndex := 91, descriptorIndex := 92, attributes := #[] }, { accessFlags := 10, nameIndex := 714, descriptorIndex := 715, attributes := #[] }, { accessFlags := 10, nameIndex := 34, descriptorIndex := 35, attributes := #[] }] 49 4 #[] #[{ accessFlags := 26, nameIndex := 762, descriptorIndex := 67, attributes := #[] }, { accessFlags := 26, nameIndex := 764, descriptorIndex := 67, attributes := #[] }, { accessFlags := 26, nameIndex := 765, descriptorIndex := 67, attributes := #[] }, { accessFlags := 26, nameIndex := 187, descriptorIndex := 24, attributes := #[] }, { accessFlags := 26, nameIndex := 767, descriptorIndex := 67, attributes := #[] }, { accessFlags := 26, nameIndex := 769, descriptorIndex := 67, attributes := #[] }, { accessFlags := 26, nameIndex := 770, descriptorIndex := 67, attributes := #[] }, { accessFlags := 26, nameIndex := 482, descriptorIndex := 483, attributes := #[] }, { accessFlags := 26, nameIndex := 415, descriptorIndex := 67, attributes := #[] }, { accessFlags := 2, nameIndex := 13, descriptorIndex := 14, attributes := #[] }, { accessFlags := 2, nameIndex := 17, descriptorIndex := 14, attributes := #[] }, { accessFlags := 2, nameIndex := 20, descriptorIndex := 14, attributes := #[] }, { accessFlags := 2, nameIndex := 23, descriptorIndex := 24, attributes := #[] }, { accessFlags := 18, nameIndex := 30, descriptorIndex := 31, attributes := #[] }, { accessFlags := 2, nameIndex := 102, descriptorIndex := 103, attributes := #[] }, { accessFlags := 2, nameIndex := 341, descriptorIndex := 67, attributes := #[] }, { accessFlags := 2, nameIndex := 38, descriptorIndex := 14, attributes := #[] }, { accessFlags := 2, nameIndex := 41, descriptorIndex := 14, attributes := #[] }, { accessFlags := 2, nameIndex := 44, descriptorIndex := 14, attributes := #[] }, { accessFlags := 2, nameIndex := 47, descriptorIndex := 14, attributes := #[] }, { accessFlags := 2, nameIndex := 50, descriptorIndex := 14, attributes := #[] }, { accessFlags := 2, nameIndex := 53, descriptorIndex := 14, attributes := #[] }, { accessFlags := 2, nameIndex := 56, descriptorIndex := 24, attributes := #[] }, { accessFlags := 2, nameIndex := 368, descriptorIndex := 67, attributes := #[] }, { accessFlags := 2, nameIndex := 59, descriptorIndex := 14, attributes := #[] }, { accessFlags := 2, nameIndex := 365, descriptorIndex := 67, attributes := #[] }, { accessFlags := 18, nameIndex := 66, descriptorIndex := 67, attributes := #[] }, { accessFlags := 18, nameIndex := 70, descriptorIndex := 67, attributes := #[] }])
  fields := #[{ name := "LEAF", type := .int, accessFlags := 26, slot := 0, constantValue := 0 }, { name := "FIRST_TEST", type := .int, accessFlags := 26, slot := 1, constantValue := 0 }, { name := "NONE", type := .int, accessFlags := 26, slot := 2, constantValue := 0 }, { name := "NO_REALS", type := (.array .double), accessFlags := 26, slot := 3, constantValue := 0 }, { name := "INITIAL_CAPACITY", type := .int, accessFlags := 26, slot := 4, constantValue := 0 }, { name := "LARGEST_CAPACITY", type := .int, accessFlags := 26, slot := 5, constantValue := 0 }, { name := "LARGEST_CACHE", type := .int, accessFlags := 26, slot := 6, constantValue := 0 }, { name := "OPERATIONS", type := (.array (.object "com/example/horizonte/horizonte/dd/Operation")), accessFlags := 26, slot := 7, constantValue := 0 }, { name := "WEIGH", type := .int, accessFlags := 26, slot := 8, constantValue := 0 }, { name := "variables", type := (.array .int), accessFlags := 2, slot := 0, constantValue := 0 }, { name := "lows", type := (.array .int), accessFlags := 2, slot := 1, constantValue := 0 }, { name := "highs", type := (.array .int), accessFlags := 2, slot := 2, constantValue := 0 }, { name := "values", type := (.array .double), accessFlags := 2, slot := 3, constantValue := 0 }, { name := "terms", type := (.object "com/example/horizonte/horizonte/dd/Terms"), accessFlags := 18, slot := 4, constantValue := 0 }, { name := "realsMade", type := .boolean, accessFlags := 2, slot := 5, constantValue := 0 }, { name := "count", type := .int, accessFlags := 2, slot := 6, constantValue := 0 }, { name := "slots", type := (.array .int), accessFlags := 2, slot := 7, constantValue := 0 }, { name := "cachedCodes", type := (.array .int), accessFlags := 2, slot := 8, constantValue := 0 }, { name := "cachedFirsts", type := (.array .int), accessFlags := 2, slot := 9, constantValue := 0 }, { name := "cachedSeconds", type := (.array .int), accessFlags := 2, slot := 10, constantValue := 0 }, { name := "cachedThirds", type := (.array .int), accessFlags := 2, slot := 11, constantValue := 0 }, { name := "cachedResults", type := (.array .int), accessFlags := 2, slot := 12, constantValue := 0 }, { name := "weights", type := (.array .double), accessFlags := 2, slot := 13, constantValue := 0 }, { name := "weightsFilled", type := .int, accessFlags := 2, slot := 14, constantValue := 0 }, { name := "weighed", type := (.array .int), accessFlags := 2, slot := 15, constantValue := 0 }, { name := "weighing", type := .int, accessFlags := 2, slot := 16, constantValue := 0 }, { name := "zero", type := .int, accessFlags := 18, slot := 17, constantValue := 0 }, { name := "one", type := .int, accessFlags := 18, slot := 18, constantValue := 0 }]
  methods := #[k2m0, k2m1, k2m2, k2m3, k2m4, k2m5, k2m6, k2m7, k2m8, k2m9, k2m10, k2m11, k2m12]
  instanceTypes := #[(.array .int), (.array .int), (.array .int), (.array .double), (.object "com/example/horizonte/horizonte/dd/Terms"), .boolean, .int, (.array .int), (.array .int), (.array .int), (.array .int), (.array .int), (.array .int), (.array .double), .int, (.array .int), .int, .int, .int]
  staticTypes := #[.int, .int, .int, (.array .double), .int, .int, .int, (.array (.object "com/example/horizonte/horizonte/dd/Operation")), .int]
  resolved := Array.replicate 919 none
  statics := none }

def pool3 : Array CpInfo := pool [(1, .methodref 2 3), (0, .class_ 4), (0, .nameAndType 5 6), (0, u "java/lang/Object"), (0, u "<init>"), (0, u "()V"), (0, .class_ 8), (0, u "java/util/ArrayList"), (0, .methodref 7 3), (0, .fieldref 11 12), (0, .class_ 13), (0, .nameAndType 14 15), (0, u "com/example/horizonte/horizonte/dd/Terms"), (0, u "linears"), (0, u "Ljava/util/List;"), (0, .fieldref 11 17), (0, .nameAndType 18 15), (0, u "quadratics"), (0, .fieldref 11 20), (0, .nameAndType 21 15), (0, u "spans"), (0, .class_ 23), (0, u "java/util/HashMap"), (0, .methodref 22 3), (0, .fieldref 11 26), (0, .nameAndType 27 28), (0, u "terms"), (0, u "Ljava/util/Map;"), (0, .fieldref 11 30), (0, .nameAndType 31 32), (0, u "units"), (0, u "[I"), (0, .fieldref 11 34), (0, .nameAndType 35 15), (0, u "tests"), (0, .fieldref 11 37), (0, .nameAndType 38 28), (0, u "testNumbers"), (21, u "NO_COEFFICIENTS"), (0, u "[D"), (8, .class_ 71), (0, u "com/example/horizonte/horizonte/dd/Terms$Coefficients"), (68, .class_ 141), (0, u "com/example/horizonte/horizonte/dd/Terms$Test"), (5, u "I"), (11, u "D"), (1, .class_ 163), (1, u "com/example/horizonte/horizonte/dd/Terms$Region"), (44, .class_ 210), (1, u "com/example/horizonte/horizonte/dd/Terms$Polyhedron"), (92, u "NONE"), (2, u "LIMIT"), (2, u "NEAR")] 69

def k3c0 : Code := { maxStack := 3, maxLocals := 1, code := prog_15_method_1_code, exceptionTable := #[], attributes := #[] }
def k3m0 : Method := { name := "<init>", desc := "()V", sig := { parameters := [], returnType := none }, accessFlags := 0, code := some k3c0 }
/-- com/example/horizonte/horizonte/dd/Terms -/
def k3 : Class := { plain "com/example/horizonte/horizonte/dd/Terms" (some 0) with
  accessFlags := 48
  interfaces := #[]
  cf := some (fileOf pool3 11 #[.nestMembers #[140, 70, 208, 161]] #[{ accessFlags := 0, nameIndex := 5, descriptorIndex := 6, attributes := #[] }] 48 2 #[] #[{ accessFlags := 24, nameIndex := 303, descriptorIndex := 147, attributes := #[] }, { accessFlags := 24, nameIndex := 60, descriptorIndex := 61, attributes := #[] }, { accessFlags := 26, nameIndex := 306, descriptorIndex := 159, attributes := #[] }, { accessFlags := 26, nameIndex := 309, descriptorIndex := 159, attributes := #[] }, { accessFlags := 18, nameIndex := 14, descriptorIndex := 15, attributes := #[] }, { accessFlags := 18, nameIndex := 18, descriptorIndex := 15, attributes := #[] }, { accessFlags := 18, nameIndex := 21, descriptorIndex := 15, attributes := #[] }, { accessFlags := 18, nameIndex := 27, descriptorIndex := 28, attributes := #[] }, { accessFlags := 2, nameIndex := 31, descriptorIndex := 32, attributes := #[] }, { accessFlags := 18, nameIndex := 35, descriptorIndex := 15, attributes := #[] }, { accessFlags := 18, nameIndex := 38, descriptorIndex := 28, attributes := #[] }])
  fields := #[{ name := "NONE", type := .int, accessFlags := 24, slot := 0, constantValue := 0 }, { name := "NO_COEFFICIENTS", type := (.array .double), accessFlags := 24, slot := 1, constantValue := 0 }, { name := "LIMIT", type := .double, accessFlags := 26, slot := 2, constantValue := 0 }, { name := "NEAR", type := .double, accessFlags := 26, slot := 3, constantValue := 0 }, { name := "linears", type := (.object "java/util/List"), accessFlags := 18, slot := 0, constantValue := 0 }, { name := "quadratics", type := (.object "java/util/List"), accessFlags := 18, slot := 1, constantValue := 0 }, { name := "spans", type := (.object "java/util/List"), accessFlags := 18, slot := 2, constantValue := 0 }, { name := "terms", type := (.object "java/util/Map"), accessFlags := 18, slot := 3, constantValue := 0 }, { name := "units", type := (.array .int), accessFlags := 2, slot := 4, constantValue := 0 }, { name := "tests", type := (.object "java/util/List"), accessFlags := 18, slot := 5, constantValue := 0 }, { name := "testNumbers", type := (.object "java/util/Map"), accessFlags := 18, slot := 6, constantValue := 0 }]
  methods := #[k3m0]
  instanceTypes := #[(.object "java/util/List"), (.object "java/util/List"), (.object "java/util/List"), (.object "java/util/Map"), (.array .int), (.object "java/util/List"), (.object "java/util/Map")]
  staticTypes := #[.int, (.array .double), .double, .double]
  resolved := Array.replicate 379 none
  statics := none }

def pool4 : Array CpInfo := pool [(8, .class_ 10), (1, u "java/lang/Iterable"), (24, .class_ 36), (0, u "java/lang/Object")] 25

/-- java/lang/Iterable -/
def k4 : Class := { plain "java/lang/Iterable" (some 0) with
  accessFlags := 1537
  interfaces := #[]
  cf := some (fileOf pool4 8 #[] #[] 1537 35 #[] #[])
  fields := #[]
  methods := #[]
  instanceTypes := #[]
  staticTypes := #[]
  resolved := Array.replicate 62 none
  statics := none }

def pool5 : Array CpInfo := pool [(10, .class_ 12), (1, u "java/util/Collection"), (47, .class_ 61), (0, u "java/lang/Object"), (0, .class_ 63), (0, u "java/lang/Iterable")] 51

/-- java/util/Collection -/
def k5 : Class := { plain "java/util/Collection" (some 0) with
  accessFlags := 1537
  interfaces := #[4]
  cf := some (fileOf pool5 10 #[] #[] 1537 60 #[62] #[])
  fields := #[]
  methods := #[]
  instanceTypes := #[]
  staticTypes := #[]
  resolved := Array.replicate 115 none
  statics := none }

def pool6 : Array CpInfo := pool [(1, .methodref 2 3), (0, .class_ 4), (0, .nameAndType 5 6), (0, u "java/lang/Object"), (0, u "<init>"), (0, u "()V"), (1, .class_ 10), (1, u "java/util/AbstractCollection"), (66, .class_ 78), (0, u "java/util/Collection")] 81

def k6c0 : Code := { maxStack := 1, maxLocals := 1, code := jdk_22_method_1_code, exceptionTable := #[], attributes := #[] }
def k6m0 : Method := { name := "<init>", desc := "()V", sig := { parameters := [], returnType := none }, accessFlags := 4, code := some k6c0 }
/-- java/util/AbstractCollection -/
def k6 : Class := { plain "java/util/AbstractCollection" (some 0) with
  accessFlags := 1057
  interfaces := #[5]
  cf := some (fileOf pool6 8 #[] #[{ accessFlags := 4, nameIndex := 5, descriptorIndex := 6, attributes := #[] }] 1057 2 #[77] #[])
  fields := #[]
  methods := #[k6m0]
  instanceTypes := #[]
  staticTypes := #[]
  resolved := Array.replicate 160 none
  statics := none }

def pool7 : Array CpInfo := pool [(8, .class_ 10), (1, u "java/util/SequencedCollection"), (15, .class_ 27), (0, u "java/lang/Object"), (0, .class_ 29), (0, u "java/util/Collection")] 27

/-- java/util/SequencedCollection -/
def k7 : Class := { plain "java/util/SequencedCollection" (some 0) with
  accessFlags := 1537
  interfaces := #[5]
  cf := some (fileOf pool7 8 #[] #[] 1537 26 #[28] #[])
  fields := #[]
  methods := #[]
  instanceTypes := #[]
  staticTypes := #[]
  resolved := Array.replicate 57 none
  statics := none }

def pool8 : Array CpInfo := pool [(8, .class_ 10), (1, u "java/util/List"), (92, .class_ 104), (0, u "java/lang/Object"), (15, .class_ 121), (0, u "java/util/SequencedCollection")] 129

/-- java/util/List -/
def k8 : Class := { plain "java/util/List" (some 0) with
  accessFlags := 1537
  interfaces := #[7]
  cf := some (fileOf pool8 8 #[] #[] 1537 103 #[120] #[])
  fields := #[]
  methods := #[]
  instanceTypes := #[]
  staticTypes := #[]
  resolved := Array.replicate 251 none
  statics := none }

def pool9 : Array CpInfo := pool [(1, .methodref 2 3), (0, .class_ 4), (0, .nameAndType 5 6), (0, u "java/util/AbstractCollection"), (0, u "<init>"), (0, u "()V"), (0, .fieldref 8 9), (0, .class_ 10), (0, .nameAndType 11 12), (0, u "java/util/AbstractList"), (0, u "modCount"), (0, u "I"), (64, .class_ 78), (0, u "java/util/AbstractList$Itr"), (3, .class_ 83), (0, u "java/util/AbstractList$ListItr"), (9, .class_ 94), (0, u "java/util/AbstractList$RandomAccessSubList"), (3, .class_ 99), (0, u "java/util/AbstractList$SubList"), (33, .class_ 134), (0, u "java/util/List"), (73, .class_ 209), (0, u "java/util/AbstractList$SubList$1"), (0, .class_ 211), (0, u "java/util/AbstractList$RandomAccessSpliterator")] 6

def k9c0 : Code := { maxStack := 2, maxLocals := 1, code := jdk_39_method_1_code, exceptionTable := #[], attributes := #[] }
def k9m0 : Method := { name := "<init>", desc := "()V", sig := { parameters := [], returnType := none }, accessFlags := 4, code := some k9c0 }
/-- java/util/AbstractList -/
def k9 : Class := { plain "java/util/AbstractList" (some 6) with
  accessFlags := 1057
  interfaces := #[8]
  cf := some (fileOf pool9 8 #[.nestMembers #[93, 98, 208, 210, 82, 77]] #[{ accessFlags := 4, nameIndex := 5, descriptorIndex := 6, attributes := #[] }] 1057 2 #[133] #[{ accessFlags := 132, nameIndex := 11, descriptorIndex := 12, attributes := #[] }])
  fields := #[{ name := "modCount", type := .int, accessFlags := 132, slot := 0, constantValue := 0 }]
  methods := #[k9m0]
  instanceTypes := #[.int]
  staticTypes := #[]
  resolved := Array.replicate 218 none
  statics := none }

def pool10 : Array CpInfo := pool [(1, .class_ 2), (0, u "java/util/RandomAccess"), (0, .class_ 4), (0, u "java/lang/Object")] 2

/-- java/util/RandomAccess -/
def k10 : Class := { plain "java/util/RandomAccess" (some 0) with
  accessFlags := 1537
  interfaces := #[]
  cf := some (fileOf pool10 1 #[] #[] 1537 3 #[] #[])
  fields := #[]
  methods := #[]
  instanceTypes := #[]
  staticTypes := #[]
  resolved := Array.replicate 7 none
  statics := none }

def pool11 : Array CpInfo := pool [(1, .class_ 2), (0, u "java/lang/Cloneable"), (0, .class_ 4), (0, u "java/lang/Object")] 2

/-- java/lang/Cloneable -/
def k11 : Class := { plain "java/lang/Cloneable" (some 0) with
  accessFlags := 1537
  interfaces := #[]
  cf := some (fileOf pool11 1 #[] #[] 1537 3 #[] #[])
  fields := #[]
  methods := #[]
  instanceTypes := #[]
  staticTypes := #[]
  resolved := Array.replicate 7 none
  statics := none }

def pool12 : Array CpInfo := pool [(1, .class_ 2), (0, u "java/io/Serializable"), (0, .class_ 4), (0, u "java/lang/Object")] 2

/-- java/io/Serializable -/
def k12 : Class := { plain "java/io/Serializable" (some 0) with
  accessFlags := 1537
  interfaces := #[]
  cf := some (fileOf pool12 1 #[] #[] 1537 3 #[] #[])
  fields := #[]
  methods := #[]
  instanceTypes := #[]
  staticTypes := #[]
  resolved := Array.replicate 7 none
  statics := none }

def pool13 : Array CpInfo := pool [(1, .methodref 2 3), (0, .class_ 4), (0, .nameAndType 5 6), (0, u "java/util/AbstractList"), (0, u "<init>"), (0, u "()V"), (2, .fieldref 10 11), (0, .class_ 12), (0, .nameAndType 13 14), (0, u "java/util/ArrayList"), (0, u "elementData"), (0, u "[Ljava/lang/Object;"), (2, u "EMPTY_ELEMENTDATA"), (21, .fieldref 10 40), (0, .nameAndType 41 14), (0, u "DEFAULTCAPACITY_EMPTY_ELEMENTDATA"), (8, u "size"), (0, u "I"), (96, .class_ 149), (0, u "java/util/List"), (112, .class_ 263), (0, u "java/util/ArrayList$ListItr"), (3, .class_ 268), (0, u "java/util/ArrayList$Itr"), (7, .class_ 277), (0, u "java/util/ArrayList$SubList"), (12, .class_ 291), (0, u "java/util/ArrayList$ArrayListSpliterator"), (37, .class_ 330), (0, u "java/util/RandomAccess"), (0, .class_ 332), (0, u "java/lang/Cloneable"), (0, .class_ 334), (0, u "java/io/Serializable"), (0, u "serialVersionUID"), (0, u "J"), (3, u "DEFAULT_CAPACITY"), (159, .class_ 501), (0, u "java/util/ArrayList$SubList$2"), (0, .class_ 503), (0, u "java/util/ArrayList$SubList$1")] 5

def k13c0 : Code := { maxStack := 2, maxLocals := 1, code := jdk_38_method_2_code, exceptionTable := #[], attributes := #[] }
def k13m0 : Method := { name := "<init>", desc := "()V", sig := { parameters := [], returnType := none }, accessFlags := 1, code := some k13c0 }
/-- java/util/ArrayList -/
def k13 : Class := { plain "java/util/ArrayList" (some 9) with
  accessFlags := 33
  interfaces := #[8, 10, 11, 12]
  cf := some (fileOf pool13 10 #[.nestMembers #[290, 276, 500, 502, 262, 267]] #[{ accessFlags := 1, nameIndex := 5, descriptorIndex := 6, attributes := #[] }] 33 2 #[148, 329, 331, 333] #[{ accessFlags := 26, nameIndex := 335, descriptorIndex := 336, attributes := #[] }, { accessFlags := 26, nameIndex := 340, descriptorIndex := 51, attributes := #[] }, { accessFlags := 26, nameIndex := 17, descriptorIndex := 14, attributes := #[] }, { accessFlags := 26, nameIndex := 41, descriptorIndex := 14, attributes := #[] }, { accessFlags := 128, nameIndex := 13, descriptorIndex := 14, attributes := #[] }, { accessFlags := 2, nameIndex := 50, descriptorIndex := 51, attributes := #[] }])
  fields := #[{ name := "serialVersionUID", type := .long, accessFlags := 26, slot := 0, constantValue := 0 }, { name := "DEFAULT_CAPACITY", type := .int, accessFlags := 26, slot := 1, constantValue := 0 }, { name := "EMPTY_ELEMENTDATA", type := (.array (.object "java/lang/Object")), accessFlags := 26, slot := 2, constantValue := 0 }, { name := "DEFAULTCAPACITY_EMPTY_ELEMENTDATA", type := (.array (.object "java/lang/Object")), accessFlags := 26, slot := 3, constantValue := 0 }, { name := "elementData", type := (.array (.object "java/lang/Object")), accessFlags := 128, slot := 1, constantValue := 0 }, { name := "size", type := .int, accessFlags := 2, slot := 2, constantValue := 0 }]
  methods := #[k13m0]
  instanceTypes := #[.int, (.array (.object "java/lang/Object")), .int]
  staticTypes := #[.long, .int, (.array (.object "java/lang/Object")), (.array (.object "java/lang/Object"))]
  resolved := Array.replicate 509 none
  statics := some 0 }

def pool14 : Array CpInfo := pool [(2, .class_ 4), (1, u "java/util/Map"), (31, .class_ 37), (0, u "java/util/Map$Entry"), (55, .class_ 94), (0, u "java/lang/Object")] 168

/-- java/util/Map -/
def k14 : Class := { plain "java/util/Map" (some 0) with
  accessFlags := 1537
  interfaces := #[]
  cf := some (fileOf pool14 2 #[.nestMembers #[36]] #[] 1537 93 #[] #[])
  fields := #[]
  methods := #[]
  instanceTypes := #[]
  staticTypes := #[]
  resolved := Array.replicate 263 none
  statics := none }

def pool15 : Array CpInfo := pool [(1, .methodref 2 3), (0, .class_ 4), (0, .nameAndType 5 6), (0, u "java/lang/Object"), (0, u "<init>"), (0, u "()V"), (1, .class_ 10), (1, u "java/util/AbstractMap"), (42, .class_ 54), (0, u "java/util/Map"), (9, u "keySet"), (0, u "Ljava/util/Set;"), (0, .class_ 67), (0, u "java/util/AbstractMap$1"), (5, u "values"), (0, u "Ljava/util/Collection;"), (0, .class_ 76), (0, u "java/util/AbstractMap$2"), (104, .class_ 182), (0, u "java/util/AbstractMap$ViewCollection"), (0, .class_ 184), (0, u "java/util/AbstractMap$SimpleImmutableEntry"), (0, .class_ 186), (0, u "java/util/AbstractMap$SimpleEntry"), (0, .class_ 188), (0, u "java/util/AbstractMap$2$1"), (0, .class_ 190), (0, u "java/util/AbstractMap$1$1")] 5

def k15c0 : Code := { maxStack := 1, maxLocals := 1, code := jdk_71_method_1_code, exceptionTable := #[], attributes := #[] }
def k15m0 : Method := { name := "<init>", desc := "()V", sig := { parameters := [], returnType := none }, accessFlags := 4, code := some k15c0 }
/-- java/util/AbstractMap -/
def k15 : Class := { plain "java/util/AbstractMap" (some 0) with
  accessFlags := 1057
  interfaces := #[14]
  cf := some (fileOf pool15 8 #[.nestMembers #[181, 183, 185, 75, 187, 66, 189]] #[{ accessFlags := 4, nameIndex := 5, descriptorIndex := 6, attributes := #[] }] 1057 2 #[53] #[{ accessFlags := 128, nameIndex := 64, descriptorIndex := 65, attributes := #[] }, { accessFlags := 128, nameIndex := 73, descriptorIndex := 74, attributes := #[] }])
  fields := #[{ name := "keySet", type := (.object "java/util/Set"), accessFlags := 128, slot := 0, constantValue := 0 }, { name := "values", type := (.object "java/util/Collection"), accessFlags := 128, slot := 1, constantValue := 0 }]
  methods := #[k15m0]
  instanceTypes := #[(.object "java/util/Set"), (.object "java/util/Collection")]
  staticTypes := #[]
  resolved := Array.replicate 196 none
  statics := none }

def pool16 : Array CpInfo := pool [(40, .class_ 41), (0, u "java/util/HashMap"), (1, .methodref 44 45), (0, .class_ 46), (0, .nameAndType 47 48), (0, u "java/util/AbstractMap"), (0, u "<init>"), (0, u "()V"), (32, .fieldref 40 82), (0, .nameAndType 83 84), (0, u "loadFactor"), (0, u "F"), (5, u "threshold"), (0, u "I"), (0, .float 1061158912), (8, .class_ 103), (1, u "java/util/Map"), (0, u "size"), (2, u "table"), (0, u "[Ljava/util/HashMap$Node;"), (14, u "entrySet"), (39, .class_ 165), (1, u "java/util/HashMap$Node"), (14, .class_ 181), (0, u "java/util/HashMap$TreeNode"), (22, u "modCount"), (37, u "Ljava/util/Set;"), (0, .class_ 244), (0, u "java/util/HashMap$KeySet"), (18, .class_ 264), (0, u "java/util/HashMap$Values"), (3, .class_ 269), (0, u "java/util/HashMap$EntrySet"), (76, .class_ 348), (1, u "java/util/HashMap$UnsafeHolder"), (43, .class_ 393), (0, u "java/lang/Cloneable"), (0, .class_ 395), (0, u "java/io/Serializable"), (0, u "serialVersionUID"), (0, u "J"), (3, u "DEFAULT_INITIAL_CAPACITY"), (1, u "MAXIMUM_CAPACITY"), (0, u "DEFAULT_LOAD_FACTOR"), (0, u "TREEIFY_THRESHOLD"), (1, u "UNTREEIFY_THRESHOLD"), (1, u "MIN_TREEIFY_CAPACITY"), (186, .class_ 597), (0, u "java/util/HashMap$EntrySpliterator"), (0, .class_ 599), (0, u "java/util/HashMap$ValueSpliterator"), (0, .class_ 601), (0, u "java/util/HashMap$KeySpliterator"), (0, .class_ 603), (0, u "java/util/HashMap$HashMapSpliterator"), (0, .class_ 605), (0, u "java/util/HashMap$EntryIterator"), (0, .class_ 607), (0, u "java/util/HashMap$ValueIterator"), (0, .class_ 609), (0, u "java/util/HashMap$KeyIterator"), (0, .class_ 611), (0, u "java/util/HashMap$HashIterator")] 17

def k16c0 : Code := { maxStack := 2, maxLocals := 1, code := jdk_69_method_7_code, exceptionTable := #[], attributes := #[] }
def k16m0 : Method := { name := "<init>", desc := "()V", sig := { parameters := [], returnType := none }, accessFlags := 1, code := some k16c0 }
/-- java/util/HashMap -/
def k16 : Class := { plain "java/util/HashMap" (some 15) with
  accessFlags := 33
  interfaces := #[14, 11, 12]
  cf := some (fileOf pool16 40 #[.nestMembers #[180, 596, 598, 600, 602, 604, 606, 608, 610, 346, 268, 263, 243, 163]] #[{ accessFlags := 1, nameIndex := 47, descriptorIndex := 48, attributes := #[] }] 33 44 #[101, 392, 394] #[{ accessFlags := 26, nameIndex := 396, descriptorIndex := 397, attributes := #[] }, { accessFlags := 24, nameIndex := 401, descriptorIndex := 91, attributes := #[] }, { accessFlags := 24, nameIndex := 403, descriptorIndex := 91, attributes := #[] }, { accessFlags := 24, nameIndex := 404, descriptorIndex := 84, attributes := #[] }, { accessFlags := 24, nameIndex := 405, descriptorIndex := 91, attributes := #[] }, { accessFlags := 24, nameIndex := 407, descriptorIndex := 91, attributes := #[] }, { accessFlags := 24, nameIndex := 409, descriptorIndex := 91, attributes := #[] }, { accessFlags := 128, nameIndex := 107, descriptorIndex := 108, attributes := #[] }, { accessFlags := 128, nameIndex := 123, descriptorIndex := 242, attributes := #[] }, { accessFlags := 128, nameIndex := 104, descriptorIndex := 91, attributes := #[] }, { accessFlags := 128, nameIndex := 204, descriptorIndex := 91, attributes := #[] }, { accessFlags := 0, nameIndex := 90, descriptorIndex := 91, attributes := #[] }, { accessFlags := 16, nameIndex := 83, descriptorIndex := 84, attributes := #[] }])
  fields := #[{ name := "serialVersionUID", type := .long, accessFlags := 26, slot := 0, constantValue := 0 }, { name := "DEFAULT_INITIAL_CAPACITY", type := .int, accessFlags := 24, slot := 1, constantValue := 0 }, { name := "MAXIMUM_CAPACITY", type := .int, accessFlags := 24, slot := 2, constantValue := 0 }, { name := "DEFAULT_LOAD_FACTOR", type := .float, accessFlags := 24, slot := 3, constantValue := 0 }, { name := "TREEIFY_THRESHOLD", type := .int, accessFlags := 24, slot := 4, constantValue := 0 }, { name := "UNTREEIFY_THRESHOLD", type := .int, accessFlags := 24, slot := 5, constantValue := 0 }, { name := "MIN_TREEIFY_CAPACITY", type := .int, accessFlags := 24, slot := 6, constantValue := 0 }, { name := "table", type := (.array (.object "java/util/HashMap$Node")), accessFlags := 128, slot := 2, constantValue := 0 }, { name := "entrySet", type := (.object "java/util/Set"), accessFlags := 128, slot := 3, constantValue := 0 }, { name := "size", type := .int, accessFlags := 128, slot := 4, constantValue := 0 }, { name := "modCount", type := .int, accessFlags := 128, slot := 5, constantValue := 0 }, { name := "threshold", type := .int, accessFlags := 0, slot := 6, constantValue := 0 }, { name := "loadFactor", type := .float, accessFlags := 16, slot := 7, constantValue := 0 }]
  methods := #[k16m0]
  instanceTypes := #[(.object "java/util/Set"), (.object "java/util/Collection"), (.array (.object "java/util/HashMap$Node")), (.object "java/util/Set"), .int, .int, .int, .float]
  staticTypes := #[.long, .int, .int, .float, .int, .int, .int]
  resolved := Array.replicate 629 none
  statics := none }

def pool17 : Array CpInfo := pool [(2, .class_ 4), (1, u "java/lang/Object"), (0, u "<init>"), (0, u "()V"), (7, .class_ 16), (1, u "java/util/Arrays"), (57, .class_ 76), (1, u "java/util/Arrays$NaturalOrder"), (36, .class_ 115), (1, u "java/util/Arrays$LegacyMergeSort"), (1, u "Z"), (257, .class_ 376), (0, u "java/util/Arrays$ArrayList"), (68, u "$assertionsDisabled"), (269, u "MIN_ARRAY_SORT_GRAN"), (0, u "I"), (2, u "INSERTIONSORT_THRESHOLD"), (120, u "fill"), (4, u "([II)V"), (129, .class_ 976), (0, u "java/util/Arrays$ArrayItr")] 52

def k17m0 : Method := { name := "<init>", desc := "()V", sig := { parameters := [], returnType := none }, accessFlags := 2, code := none }
def k17c1 : Code := { maxStack := 3, maxLocals := 4, code := jdk_65_method_103_code, exceptionTable := #[], attributes := #[] }
def k17m1 : Method := { name := "fill", desc := "([II)V", sig := { parameters := [(.array .int), .int], returnType := none }, accessFlags := 9, code := some k17c1 }
/-- java/util/Arrays -/
def k17 : Class := { plain "java/util/Arrays" (some 0) with
  accessFlags := 49
  interfaces := #[]
  cf := some (fileOf pool17 14 #[.nestMembers #[975, 375, 113, 74]] #[{ accessFlags := 2, nameIndex := 5, descriptorIndex := 6, attributes := #[] }, { accessFlags := 9, nameIndex := 840, descriptorIndex := 845, attributes := #[] }] 49 2 #[] #[{ accessFlags := 26, nameIndex := 715, descriptorIndex := 716, attributes := #[] }, { accessFlags := 26, nameIndex := 719, descriptorIndex := 716, attributes := #[] }, { accessFlags := 4120, nameIndex := 445, descriptorIndex := 117, attributes := #[] }])
  fields := #[{ name := "MIN_ARRAY_SORT_GRAN", type := .int, accessFlags := 26, slot := 0, constantValue := 0 }, { name := "INSERTIONSORT_THRESHOLD", type := .int, accessFlags := 26, slot := 1, constantValue := 0 }, { name := "$assertionsDisabled", type := .boolean, accessFlags := 4120, slot := 2, constantValue := 0 }]
  methods := #[k17m0, k17m1]
  instanceTypes := #[]
  staticTypes := #[.int, .int, .boolean]
  resolved := Array.replicate 1029 none
  statics := none }

def pool18 : Array CpInfo := pool [(2, .class_ 4), (1, u "java/lang/Object"), (0, u "<init>"), (0, u "()V"), (1, .class_ 10), (1, u "java/lang/Number"), (2, .class_ 14), (0, u "java/io/Serializable"), (0, u "serialVersionUID"), (0, u "J")] 20

def k18m0 : Method := { name := "<init>", desc := "()V", sig := { parameters := [], returnType := none }, accessFlags := 1, code := none }
/-- java/lang/Number -/
def k18 : Class := { plain "java/lang/Number" (some 0) with
  accessFlags := 1057
  interfaces := #[12]
  cf := some (fileOf pool18 8 #[] #[{ accessFlags := 1, nameIndex := 5, descriptorIndex := 6, attributes := #[] }] 1057 2 #[13] #[{ accessFlags := 26, nameIndex := 15, descriptorIndex := 16, attributes := #[] }])
  fields := #[{ name := "serialVersionUID", type := .long, accessFlags := 26, slot := 0, constantValue := 0 }]
  methods := #[k18m0]
  instanceTypes := #[]
  staticTypes := #[.long]
  resolved := Array.replicate 37 none
  statics := none }

def pool19 : Array CpInfo := pool [(1, .class_ 2), (0, u "java/lang/Comparable"), (0, .class_ 4), (0, u "java/lang/Object")] 7

/-- java/lang/Comparable -/
def k19 : Class := { plain "java/lang/Comparable" (some 0) with
  accessFlags := 1537
  interfaces := #[]
  cf := some (fileOf pool19 1 #[] #[] 1537 3 #[] #[])
  fields := #[]
  methods := #[]
  instanceTypes := #[]
  staticTypes := #[]
  resolved := Array.replicate 12 none
  statics := none }

def pool20 : Array CpInfo := pool [(1, .class_ 2), (0, u "java/lang/constant/Constable"), (0, .class_ 4), (0, u "java/lang/Object")] 6

/-- java/lang/constant/Constable -/
def k20 : Class := { plain "java/lang/constant/Constable" (some 0) with
  accessFlags := 1537
  interfaces := #[]
  cf := some (fileOf pool20 1 #[] #[] 1537 3 #[] #[])
  fields := #[]
  methods := #[]
  instanceTypes := #[]
  staticTypes := #[]
  resolved := Array.replicate 11 none
  statics := none }

def pool21 : Array CpInfo := pool [(1, .class_ 2), (0, u "java/lang/constant/ConstantDesc"), (0, .class_ 4), (0, u "java/lang/Object")] 32

/-- java/lang/constant/ConstantDesc -/
def k21 : Class := { plain "java/lang/constant/ConstantDesc" (some 0) with
  accessFlags := 1537
  interfaces := #[]
  cf := some (fileOf pool21 1 #[] #[] 1537 3 #[] #[])
  fields := #[]
  methods := #[]
  instanceTypes := #[]
  staticTypes := #[]
  resolved := Array.replicate 37 none
  statics := none }

def pool22 : Array CpInfo := pool [(1, .class_ 2), (0, u "java/lang/Double"), (10, u "isFinite"), (0, u "(D)Z"), (8, .class_ 25), (1, u "java/lang/Math"), (12, .methodref 23 39), (0, .nameAndType 40 41), (0, u "abs"), (0, u "(D)D"), (6, u "doubleToLongBits"), (0, u "(D)J"), (61, .double 9218868437227405311), (2, .class_ 116), (1, u "java/lang/Number"), (3, u "value"), (0, u "D"), (0, .methodref 1 123), (0, .nameAndType 124 14), (0, u "isNaN"), (9, .methodref 1 135), (0, .nameAndType 136 49), (0, u "doubleToRawLongBits"), (36, u "TYPE"), (0, u "Ljava/lang/Class;"), (0, .class_ 176), (0, u "java/lang/Comparable"), (0, .class_ 178), (0, u "java/lang/constant/Constable"), (0, .class_ 180), (0, u "java/lang/constant/ConstantDesc"), (0, u "POSITIVE_INFINITY"), (3, u "NEGATIVE_INFINITY"), (2, u "NaN"), (2, u "MAX_VALUE"), (0, u "MIN_NORMAL"), (0, u "MIN_VALUE"), (2, u "SIZE"), (0, u "I"), (1, u "PRECISION"), (1, u "MAX_EXPONENT"), (1, u "MIN_EXPONENT"), (1, u "BYTES"), (3, u "serialVersionUID"), (0, u "J")] 79

def k22c0 : Code := { maxStack := 4, maxLocals := 2, code := jdk_117_method_6_code, exceptionTable := #[], attributes := #[] }
def k22m0 : Method := { name := "isNaN", desc := "(D)Z", sig := { parameters := [.double], returnType := some .boolean }, accessFlags := 9, code := some k22c0 }
def k22c1 : Code := { maxStack := 4, maxLocals := 2, code := jdk_117_method_8_code, exceptionTable := #[], attributes := #[] }
def k22m1 : Method := { name := "isFinite", desc := "(D)Z", sig := { parameters := [.double], returnType := some .boolean }, accessFlags := 9, code := some k22c1 }
def k22c2 : Code := { maxStack := 2, maxLocals := 2, code := jdk_117_method_23_code, exceptionTable := #[], attributes := #[] }
def k22m2 : Method := { name := "doubleToLongBits", desc := "(D)J", sig := { parameters := [.double], returnType := some .long }, accessFlags := 9, code := some k22c2 }
def k22m3 : Method := { name := "doubleToRawLongBits", desc := "(D)J", sig := { parameters := [.double], returnType := some .long }, accessFlags := 265, code := none }
/-- java/lang/Double -/
def k22 : Class := { plain "java/lang/Double" (some 18) with
  accessFlags := 49
  interfaces := #[19, 20, 21]
  cf := some (fileOf pool22 1 #[] #[{ accessFlags := 9, nameIndex := 124, descriptorIndex := 14, attributes := #[] }, { accessFlags := 9, nameIndex := 13, descriptorIndex := 14, attributes := #[] }, { accessFlags := 9, nameIndex := 48, descriptorIndex := 49, attributes := #[] }, { accessFlags := 265, nameIndex := 136, descriptorIndex := 49, attributes := #[] }] 49 114 #[175, 177, 179] #[{ accessFlags := 25, nameIndex := 181, descriptorIndex := 121, attributes := #[] }, { accessFlags := 25, nameIndex := 185, descriptorIndex := 121, attributes := #[] }, { accessFlags := 25, nameIndex := 188, descriptorIndex := 121, attributes := #[] }, { accessFlags := 25, nameIndex := 191, descriptorIndex := 121, attributes := #[] }, { accessFlags := 25, nameIndex := 192, descriptorIndex := 121, attributes := #[] }, { accessFlags := 25, nameIndex := 193, descriptorIndex := 121, attributes := #[] }, { accessFlags := 25, nameIndex := 196, descriptorIndex := 197, attributes := #[] }, { accessFlags := 25, nameIndex := 199, descriptorIndex := 197, attributes := #[] }, { accessFlags := 25, nameIndex := 201, descriptorIndex := 197, attributes := #[] }, { accessFlags := 25, nameIndex := 203, descriptorIndex := 197, attributes := #[] }, { accessFlags := 25, nameIndex := 205, descriptorIndex := 197, attributes := #[] }, { accessFlags := 25, nameIndex := 173, descriptorIndex := 174, attributes := #[] }, { accessFlags := 18, nameIndex := 120, descriptorIndex := 121, attributes := #[] }, { accessFlags := 26, nameIndex := 209, descriptorIndex := 210, attributes := #[] }])
  fields := #[{ name := "POSITIVE_INFINITY", type := .double, accessFlags := 25, slot := 0, constantValue := 0 }, { name := "NEGATIVE_INFINITY", type := .double, accessFlags := 25, slot := 1, constantValue := 0 }, { name := "NaN", type := .double, accessFlags := 25, slot := 2, constantValue := 0 }, { name := "MAX_VALUE", type := .double, accessFlags := 25, slot := 3, constantValue := 0 }, { name := "MIN_NORMAL", type := .double, accessFlags := 25, slot := 4, constantValue := 0 }, { name := "MIN_VALUE", type := .double, accessFlags := 25, slot := 5, constantValue := 0 }, { name := "SIZE", type := .int, accessFlags := 25, slot := 6, constantValue := 0 }, { name := "PRECISION", type := .int, accessFlags := 25, slot := 7, constantValue := 0 }, { name := "MAX_EXPONENT", type := .int, accessFlags := 25, slot := 8, constantValue := 0 }, { name := "MIN_EXPONENT", type := .int, accessFlags := 25, slot := 9, constantValue := 0 }, { name := "BYTES", type := .int, accessFlags := 25, slot := 10, constantValue := 0 }, { name := "TYPE", type := (.object "java/lang/Class"), accessFlags := 25, slot := 11, constantValue := 0 }, { name := "value", type := .double, accessFlags := 18, slot := 0, constantValue := 0 }, { name := "serialVersionUID", type := .long, accessFlags := 26, slot := 12, constantValue := 0 }]
  methods := #[k22m0, k22m1, k22m2, k22m3]
  instanceTypes := #[.double]
  staticTypes := #[.double, .double, .double, .double, .double, .double, .int, .int, .int, .int, .int, (.object "java/lang/Class"), .long]
  resolved := Array.replicate 290 none
  statics := none }

def pool23 : Array CpInfo := pool [(1, .class_ 2), (0, u "java/lang/Math"), (1, .class_ 6), (1, u "java/lang/Object"), (0, u "<init>"), (0, u "()V"), (5, u "(D)D"), (83, .class_ 100), (1, u "java/lang/Math$RandomNumberGeneratorHolder"), (23, u "abs"), (47, u "negativeZeroFloatBits"), (0, u "J"), (2, u "negativeZeroDoubleBits"), (68, u "$assertionsDisabled"), (0, u "Z"), (91, u "twoToTheDoubleScaleDown"), (0, u "D"), (4, u "twoToTheDoubleScaleUp"), (9, u "E"), (3, u "PI"), (2, u "TAU"), (2, u "DEGREES_TO_RADIANS"), (0, u "RADIANS_TO_DEGREES")] 94

def k23m0 : Method := { name := "<init>", desc := "()V", sig := { parameters := [], returnType := none }, accessFlags := 2, code := none }
def k23c1 : Code := { maxStack := 4, maxLocals := 2, code := jdk_29_method_64_code, exceptionTable := #[], attributes := #[] }
def k23m1 : Method := { name := "abs", desc := "(D)D", sig := { parameters := [.double], returnType := some .double }, accessFlags := 9, code := some k23c1 }
/-- java/lang/Math -/
def k23 : Class := { plain "java/lang/Math" (some 0) with
  accessFlags := 49
  interfaces := #[]
  cf := some (fileOf pool23 1 #[.nestMembers #[98]] #[{ accessFlags := 2, nameIndex := 7, descriptorIndex := 8, attributes := #[] }, { accessFlags := 9, nameIndex := 124, descriptorIndex := 14, attributes := #[] }] 49 4 #[] #[{ accessFlags := 25, nameIndex := 354, descriptorIndex := 339, attributes := #[] }, { accessFlags := 25, nameIndex := 358, descriptorIndex := 339, attributes := #[] }, { accessFlags := 25, nameIndex := 361, descriptorIndex := 339, attributes := #[] }, { accessFlags := 26, nameIndex := 364, descriptorIndex := 339, attributes := #[] }, { accessFlags := 26, nameIndex := 365, descriptorIndex := 339, attributes := #[] }, { accessFlags := 26, nameIndex := 172, descriptorIndex := 173, attributes := #[] }, { accessFlags := 26, nameIndex := 176, descriptorIndex := 173, attributes := #[] }, { accessFlags := 8, nameIndex := 344, descriptorIndex := 339, attributes := #[] }, { accessFlags := 8, nameIndex := 338, descriptorIndex := 339, attributes := #[] }, { accessFlags := 4120, nameIndex := 245, descriptorIndex := 246, attributes := #[] }])
  fields := #[{ name := "E", type := .double, accessFlags := 25, slot := 0, constantValue := 0 }, { name := "PI", type := .double, accessFlags := 25, slot := 1, constantValue := 0 }, { name := "TAU", type := .double, accessFlags := 25, slot := 2, constantValue := 0 }, { name := "DEGREES_TO_RADIANS", type := .double, accessFlags := 26, slot := 3, constantValue := 0 }, { name := "RADIANS_TO_DEGREES", type := .double, accessFlags := 26, slot := 4, constantValue := 0 }, { name := "negativeZeroFloatBits", type := .long, accessFlags := 26, slot := 5, constantValue := 0 }, { name := "negativeZeroDoubleBits", type := .long, accessFlags := 26, slot := 6, constantValue := 0 }, { name := "twoToTheDoubleScaleUp", type := .double, accessFlags := 8, slot := 7, constantValue := 0 }, { name := "twoToTheDoubleScaleDown", type := .double, accessFlags := 8, slot := 8, constantValue := 0 }, { name := "$assertionsDisabled", type := .boolean, accessFlags := 4120, slot := 9, constantValue := 0 }]
  methods := #[k23m0, k23m1]
  instanceTypes := #[]
  staticTypes := #[.double, .double, .double, .double, .double, .long, .long, .double, .double, .boolean]
  resolved := Array.replicate 460 none
  statics := none }

/-- the primitive byte -/
def k24 : Class := { plain "byte" none with kind := .primitive 'B', accessFlags := 0x411 }
/-- [B -/
def k25 : Class := { plain "[B" (some 0) with kind := .array 24 .byte, interfaces := #[11, 12], accessFlags := 1041 }

/-- the primitive double -/
def k26 : Class := { plain "double" none with kind := .primitive 'D', accessFlags := 0x411 }
/-- [D -/
def k27 : Class := { plain "[D" (some 0) with kind := .array 26 .double, interfaces := #[11, 12], accessFlags := 1041 }

/-- the primitive int -/
def k28 : Class := { plain "int" none with kind := .primitive 'I', accessFlags := 0x411 }
/-- [I -/
def k29 : Class := { plain "[I" (some 0) with kind := .array 28 .int, interfaces := #[11, 12], accessFlags := 1041 }

/-- [Ljava/lang/Object; -/
def k30 : Class := { plain "[Ljava/lang/Object;" (some 0) with kind := .array 0 (.object "java/lang/Object"), interfaces := #[11, 12], accessFlags := 1041 }

def heap : Heap := #[{ cls := 13, slots := #[.long 0, .int 0, .ref 1, .ref 2], vm := .statics 13 },
  { cls := 30, slots := #[], vm := .none },
  { cls := 30, slots := #[], vm := .none }]
def classes : Array Class := #[k0, k1, k2, k3, k4, k5, k6, k7, k8, k9, k10, k11, k12, k13, k14, k15, k16, k17, k18, k19, k20, k21, k22, k23, k24, k25, k26, k27, k28, k29, k30]
def interned : List (Array UInt16 × Addr) := []
def slotsUsed : Nat := 4
def theMethod : MethodId := ⟨1, 1⟩
def args0 : Array Value := #[.int 5, .int 6, .int 7]
def aboutOver (below : List Frame) : State where
  vm := { classes := classes, interned := interned.toArray }
  heap := heap
  slotsUsed := slotsUsed
  threads := #[{ frames := .invoking theMethod args0 :: below }]
def below0 : List Frame := [.native { method := ⟨0, 0⟩, args := #[] }]
def about1 : State := aboutOver below0
def p0 : Program := .bare "" "" ""
def e0 : Env := launch0.env 0 0 0
theorem w_frames : about1.frames = Frame.invoking theMethod args0 :: below0 := rfl
set_option maxRecDepth 65536 in
theorem w_args : argsFit about1.vm theMethod args0 = true := by decide +kernel
set_option maxRecDepth 65536 in
theorem w_heap : heapFits about1 = true := by decide +kernel
set_option maxRecDepth 65536 in
theorem w_runnable : about1.curStatus? = some .runnable := by decide +kernel
set_option maxRecDepth 65536 in
theorem w_alone : about1.alone = true := by decide +kernel
set_option maxRecDepth 65536 in
theorem w_named : about1.methodNamed? x = some theMethod := by decide +kernel
set_option maxRecDepth 65536 in
theorem w_hears : about1.hears theMethod below0 = true := by decide +kernel
set_option maxRecDepth 65536 in
theorem w_ripe : about1.ripe theMethod args0 below0 = true := by decide +kernel
theorem w_running : about1.status = .running := rfl
set_option maxRecDepth 65536 in
theorem w_room : about1.hasRoom e0.platform room_1 = true :=
  launch0.hasRoom_least _ room_1 (by decide +kernel) (by decide +kernel) (by decide +kernel) (by decide +kernel) (by decide +kernel) (by decide +kernel)
theorem allAtoms_all (ts : List Jvm.Cond) (a : Array Jvm.Value) (st : Jvm.State) : (allAtoms ts).before a st = ts.all (fun c => c.before a st) := by
  induction ts with
  | nil => rfl
  | cons c t ih =>
    show (Jvm.Cond.and c (allAtoms t)).before a st = _
    rw [Jvm.Cond.before_and, ih, List.all_cons]
def words1 : List Jvm.Cond := Jvm.Cond.code x code maxLocals ret :: tables_1
/-- a 'code' word, met by the world's own term for the bytes: nothing is compared byte by byte -/
theorem code_word {y : MethodName} {bytes : ByteArray} {mx : Nat} {rt : Option FieldType} {a : Array Value} {s : State} {m : MethodId} {meth : Method} {c : Code} (h1 : s.methodNamed? y = some m) (h2 : s.vm.method? m = some meth) (h3 : meth.code = some c) (h4 : c.code = bytes)
    (h5 : (c.maxLocals == mx && c.exceptionTable.isEmpty && decide (c.maxStack ≤ mostOperands) && decide (meth.sig.returnType = rt) && !meth.locks && decide (parseMethodDescriptor y.desc = some meth.sig)) = true) : (Jvm.Cond.code y bytes mx rt).before a s = true := by
  simp only [Bool.and_eq_true, beq_iff_eq, Bool.not_eq_true', decide_eq_true_eq] at h5
  obtain ⟨⟨⟨⟨⟨g1, g2⟩, g3⟩, g4⟩, g5⟩, g6⟩ := h5
  simp [Cond.before, Cond.holds, Cond.value, h1, h2, h3, h4, g1, g2, g3, g4, g5, g6]
def isCode : Jvm.Cond → Bool
  | .code _ _ _ _ => true
  | _ => false
theorem all_split {L : List Jvm.Cond} {P : Jvm.Cond → Bool} (h1 : L.all (fun c => isCode c || P c) = true) (h2 : ∀ c ∈ L.filter isCode, P c = true) : L.all P = true := by
  refine List.all_eq_true.mpr fun c hc => ?_
  have h := List.all_eq_true.mp h1 c hc
  rcases Bool.eq_false_or_eq_true (isCode c) with hi | hi
  · exact h2 c (List.mem_filter.mpr ⟨hc, hi⟩)
  · simpa [hi] using h
set_option maxRecDepth 65536 in
theorem w_c0 : (Jvm.Cond.code x code maxLocals ret).before args0 about1 = true := code_word (m := ⟨1, 1⟩) (meth := k1m1) (c := k1c1) (by decide +kernel) rfl rfl rfl (by decide +kernel)
set_option maxRecDepth 65536 in
theorem w_c1 : (Jvm.Cond.code ({ cls := "com/example/horizonte/horizonte/dd/DecisionDiagrams", name := "<init>", desc := "()V" } : Jvm.MethodName) prog_4_method_1_code (1 : Nat) (Option.none : Option Jvm.ClassFile.FieldType)).before args0 about1 = true := code_word (m := ⟨2, 0⟩) (meth := k2m0) (c := k2c0) (by decide +kernel) rfl rfl rfl (by decide +kernel)
set_option maxRecDepth 65536 in
theorem w_c2 : (Jvm.Cond.code ({ cls := "java/lang/Object", name := "<init>", desc := "()V" } : Jvm.MethodName) object_method_1_code (1 : Nat) (Option.none : Option Jvm.ClassFile.FieldType)).before args0 about1 = true := code_word (m := ⟨0, 0⟩) (meth := k0m0) (c := k0c0) (by decide +kernel) rfl rfl rfl (by decide +kernel)
set_option maxRecDepth 65536 in
theorem w_c3 : (Jvm.Cond.code ({ cls := "com/example/horizonte/horizonte/dd/Terms", name := "<init>", desc := "()V" } : Jvm.MethodName) prog_15_method_1_code (1 : Nat) (Option.none : Option Jvm.ClassFile.FieldType)).before args0 about1 = true := code_word (m := ⟨3, 0⟩) (meth := k3m0) (c := k3c0) (by decide +kernel) rfl rfl rfl (by decide +kernel)
set_option maxRecDepth 65536 in
theorem w_c4 : (Jvm.Cond.code ({ cls := "java/util/ArrayList", name := "<init>", desc := "()V" } : Jvm.MethodName) jdk_38_method_2_code (1 : Nat) (Option.none : Option Jvm.ClassFile.FieldType)).before args0 about1 = true := code_word (m := ⟨13, 0⟩) (meth := k13m0) (c := k13c0) (by decide +kernel) rfl rfl rfl (by decide +kernel)
set_option maxRecDepth 65536 in
theorem w_c5 : (Jvm.Cond.code ({ cls := "java/util/AbstractList", name := "<init>", desc := "()V" } : Jvm.MethodName) jdk_39_method_1_code (1 : Nat) (Option.none : Option Jvm.ClassFile.FieldType)).before args0 about1 = true := code_word (m := ⟨9, 0⟩) (meth := k9m0) (c := k9c0) (by decide +kernel) rfl rfl rfl (by decide +kernel)
set_option maxRecDepth 65536 in
theorem w_c6 : (Jvm.Cond.code ({ cls := "java/util/AbstractCollection", name := "<init>", desc := "()V" } : Jvm.MethodName) jdk_22_method_1_code (1 : Nat) (Option.none : Option Jvm.ClassFile.FieldType)).before args0 about1 = true := code_word (m := ⟨6, 0⟩) (meth := k6m0) (c := k6c0) (by decide +kernel) rfl rfl rfl (by decide +kernel)
set_option maxRecDepth 65536 in
theorem w_c7 : (Jvm.Cond.code ({ cls := "java/util/HashMap", name := "<init>", desc := "()V" } : Jvm.MethodName) jdk_69_method_7_code (1 : Nat) (Option.none : Option Jvm.ClassFile.FieldType)).before args0 about1 = true := code_word (m := ⟨16, 0⟩) (meth := k16m0) (c := k16c0) (by decide +kernel) rfl rfl rfl (by decide +kernel)
set_option maxRecDepth 65536 in
theorem w_c8 : (Jvm.Cond.code ({ cls := "java/util/AbstractMap", name := "<init>", desc := "()V" } : Jvm.MethodName) jdk_71_method_1_code (1 : Nat) (Option.none : Option Jvm.ClassFile.FieldType)).before args0 about1 = true := code_word (m := ⟨15, 0⟩) (meth := k15m0) (c := k15c0) (by decide +kernel) rfl rfl rfl (by decide +kernel)
set_option maxRecDepth 65536 in
theorem w_c9 : (Jvm.Cond.code ({ cls := "com/example/horizonte/horizonte/dd/DecisionDiagrams", name := "filled", desc := "(I)[I" } : Jvm.MethodName) prog_4_method_82_code (2 : Nat) (Option.some (Jvm.ClassFile.FieldType.array Jvm.ClassFile.FieldType.int))).before args0 about1 = true := code_word (m := ⟨2, 12⟩) (meth := k2m12) (c := k2c12) (by decide +kernel) rfl rfl rfl (by decide +kernel)
set_option maxRecDepth 65536 in
theorem w_c10 : (Jvm.Cond.code ({ cls := "java/util/Arrays", name := "fill", desc := "([II)V" } : Jvm.MethodName) jdk_65_method_103_code (4 : Nat) (Option.none : Option Jvm.ClassFile.FieldType)).before args0 about1 = true := code_word (m := ⟨17, 1⟩) (meth := k17m1) (c := k17c1) (by decide +kernel) rfl rfl rfl (by decide +kernel)
set_option maxRecDepth 65536 in
theorem w_c11 : (Jvm.Cond.code ({ cls := "com/example/horizonte/horizonte/dd/DecisionDiagrams", name := "constant", desc := "(D)I" } : Jvm.MethodName) prog_4_method_2_code (3 : Nat) (Option.some Jvm.ClassFile.FieldType.int)).before args0 about1 = true := code_word (m := ⟨2, 1⟩) (meth := k2m1) (c := k2c1) (by decide +kernel) rfl rfl rfl (by decide +kernel)
set_option maxRecDepth 65536 in
theorem w_c12 : (Jvm.Cond.code ({ cls := "java/lang/Double", name := "isFinite", desc := "(D)Z" } : Jvm.MethodName) jdk_117_method_8_code (2 : Nat) (Option.some Jvm.ClassFile.FieldType.boolean)).before args0 about1 = true := code_word (m := ⟨22, 1⟩) (meth := k22m1) (c := k22c1) (by decide +kernel) rfl rfl rfl (by decide +kernel)
set_option maxRecDepth 65536 in
theorem w_c13 : (Jvm.Cond.code ({ cls := "java/lang/Math", name := "abs", desc := "(D)D" } : Jvm.MethodName) jdk_29_method_64_code (2 : Nat) (Option.some Jvm.ClassFile.FieldType.double)).before args0 about1 = true := code_word (m := ⟨23, 1⟩) (meth := k23m1) (c := k23c1) (by decide +kernel) rfl rfl rfl (by decide +kernel)
set_option maxRecDepth 65536 in
theorem w_c14 : (Jvm.Cond.code ({ cls := "com/example/horizonte/horizonte/dd/DecisionDiagrams", name := "leaf", desc := "(D)I" } : Jvm.MethodName) prog_4_method_66_code (3 : Nat) (Option.some Jvm.ClassFile.FieldType.int)).before args0 about1 = true := code_word (m := ⟨2, 6⟩) (meth := k2m6) (c := k2c6) (by decide +kernel) rfl rfl rfl (by decide +kernel)
set_option maxRecDepth 65536 in
theorem w_c15 : (Jvm.Cond.code ({ cls := "com/example/horizonte/horizonte/dd/DecisionDiagrams", name := "make", desc := "(IIID)I" } : Jvm.MethodName) prog_4_method_68_code (11 : Nat) (Option.some Jvm.ClassFile.FieldType.int)).before args0 about1 = true := code_word (m := ⟨2, 8⟩) (meth := k2m8) (c := k2c8) (by decide +kernel) rfl rfl rfl (by decide +kernel)
set_option maxRecDepth 65536 in
theorem w_c16 : (Jvm.Cond.code ({ cls := "java/lang/Double", name := "doubleToLongBits", desc := "(D)J" } : Jvm.MethodName) jdk_117_method_23_code (2 : Nat) (Option.some Jvm.ClassFile.FieldType.long)).before args0 about1 = true := code_word (m := ⟨22, 2⟩) (meth := k22m2) (c := k22c2) (by decide +kernel) rfl rfl rfl (by decide +kernel)
set_option maxRecDepth 65536 in
theorem w_c17 : (Jvm.Cond.code ({ cls := "java/lang/Double", name := "isNaN", desc := "(D)Z" } : Jvm.MethodName) jdk_117_method_6_code (2 : Nat) (Option.some Jvm.ClassFile.FieldType.boolean)).before args0 about1 = true := code_word (m := ⟨22, 0⟩) (meth := k22m0) (c := k22c0) (by decide +kernel) rfl rfl rfl (by decide +kernel)
set_option maxRecDepth 65536 in
theorem w_c18 : (Jvm.Cond.code ({ cls := "com/example/horizonte/horizonte/dd/DecisionDiagrams", name := "hash", desc := "(IIIJ)I" } : Jvm.MethodName) prog_4_method_81_code (7 : Nat) (Option.some Jvm.ClassFile.FieldType.int)).before args0 about1 = true := code_word (m := ⟨2, 11⟩) (meth := k2m11) (c := k2c11) (by decide +kernel) rfl rfl rfl (by decide +kernel)
set_option maxRecDepth 65536 in
theorem w_c19 : (Jvm.Cond.code ({ cls := "com/example/horizonte/horizonte/dd/DecisionDiagrams", name := "add", desc := "(IIID)I" } : Jvm.MethodName) prog_4_method_69_code (6 : Nat) (Option.some Jvm.ClassFile.FieldType.int)).before args0 about1 = true := code_word (m := ⟨2, 9⟩) (meth := k2m9) (c := k2c9) (by decide +kernel) rfl rfl rfl (by decide +kernel)
set_option maxRecDepth 65536 in
theorem w_c20 : (Jvm.Cond.code ({ cls := "com/example/horizonte/horizonte/dd/DecisionDiagrams", name := "variable", desc := "(I)I" } : Jvm.MethodName) prog_4_method_3_code (2 : Nat) (Option.some Jvm.ClassFile.FieldType.int)).before args0 about1 = true := code_word (m := ⟨2, 2⟩) (meth := k2m2) (c := k2c2) (by decide +kernel) rfl rfl rfl (by decide +kernel)
set_option maxRecDepth 65536 in
theorem w_c21 : (Jvm.Cond.code ({ cls := "com/example/horizonte/horizonte/dd/DecisionDiagrams", name := "checkVariable", desc := "(I)V" } : Jvm.MethodName) prog_4_method_76_code (1 : Nat) (Option.none : Option Jvm.ClassFile.FieldType)).before args0 about1 = true := code_word (m := ⟨2, 10⟩) (meth := k2m10) (c := k2c10) (by decide +kernel) rfl rfl rfl (by decide +kernel)
set_option maxRecDepth 65536 in
theorem w_c22 : (Jvm.Cond.code ({ cls := "com/example/horizonte/horizonte/dd/DecisionDiagrams", name := "decision", desc := "(III)I" } : Jvm.MethodName) prog_4_method_67_code (4 : Nat) (Option.some Jvm.ClassFile.FieldType.int)).before args0 about1 = true := code_word (m := ⟨2, 7⟩) (meth := k2m7) (c := k2c7) (by decide +kernel) rfl rfl rfl (by decide +kernel)
set_option maxRecDepth 65536 in
theorem w_c23 : (Jvm.Cond.code ({ cls := "com/example/horizonte/horizonte/dd/DecisionDiagrams", name := "isLeaf", desc := "(I)Z" } : Jvm.MethodName) prog_4_method_58_code (2 : Nat) (Option.some Jvm.ClassFile.FieldType.boolean)).before args0 about1 = true := code_word (m := ⟨2, 3⟩) (meth := k2m3) (c := k2c3) (by decide +kernel) rfl rfl rfl (by decide +kernel)
set_option maxRecDepth 65536 in
theorem w_c24 : (Jvm.Cond.code ({ cls := "com/example/horizonte/horizonte/dd/DecisionDiagrams", name := "low", desc := "(I)I" } : Jvm.MethodName) prog_4_method_60_code (2 : Nat) (Option.some Jvm.ClassFile.FieldType.int)).before args0 about1 = true := code_word (m := ⟨2, 4⟩) (meth := k2m4) (c := k2c4) (by decide +kernel) rfl rfl rfl (by decide +kernel)
set_option maxRecDepth 65536 in
theorem w_c25 : (Jvm.Cond.code ({ cls := "com/example/horizonte/horizonte/dd/DecisionDiagrams", name := "high", desc := "(I)I" } : Jvm.MethodName) prog_4_method_61_code (2 : Nat) (Option.some Jvm.ClassFile.FieldType.int)).before args0 about1 = true := code_word (m := ⟨2, 5⟩) (meth := k2m5) (c := k2c5) (by decide +kernel) rfl rfl rfl (by decide +kernel)
def codes1 : List Jvm.Cond := [Jvm.Cond.code x code maxLocals ret, Jvm.Cond.code ({ cls := "com/example/horizonte/horizonte/dd/DecisionDiagrams", name := "<init>", desc := "()V" } : Jvm.MethodName) prog_4_method_1_code (1 : Nat) (Option.none : Option Jvm.ClassFile.FieldType), Jvm.Cond.code ({ cls := "java/lang/Object", name := "<init>", desc := "()V" } : Jvm.MethodName) object_method_1_code (1 : Nat) (Option.none : Option Jvm.ClassFile.FieldType), Jvm.Cond.code ({ cls := "com/example/horizonte/horizonte/dd/Terms", name := "<init>", desc := "()V" } : Jvm.MethodName) prog_15_method_1_code (1 : Nat) (Option.none : Option Jvm.ClassFile.FieldType), Jvm.Cond.code ({ cls := "java/util/ArrayList", name := "<init>", desc := "()V" } : Jvm.MethodName) jdk_38_method_2_code (1 : Nat) (Option.none : Option Jvm.ClassFile.FieldType), Jvm.Cond.code ({ cls := "java/util/AbstractList", name := "<init>", desc := "()V" } : Jvm.MethodName) jdk_39_method_1_code (1 : Nat) (Option.none : Option Jvm.ClassFile.FieldType), Jvm.Cond.code ({ cls := "java/util/AbstractCollection", name := "<init>", desc := "()V" } : Jvm.MethodName) jdk_22_method_1_code (1 : Nat) (Option.none : Option Jvm.ClassFile.FieldType), Jvm.Cond.code ({ cls := "java/util/HashMap", name := "<init>", desc := "()V" } : Jvm.MethodName) jdk_69_method_7_code (1 : Nat) (Option.none : Option Jvm.ClassFile.FieldType), Jvm.Cond.code ({ cls := "java/util/AbstractMap", name := "<init>", desc := "()V" } : Jvm.MethodName) jdk_71_method_1_code (1 : Nat) (Option.none : Option Jvm.ClassFile.FieldType), Jvm.Cond.code ({ cls := "com/example/horizonte/horizonte/dd/DecisionDiagrams", name := "filled", desc := "(I)[I" } : Jvm.MethodName) prog_4_method_82_code (2 : Nat) (Option.some (Jvm.ClassFile.FieldType.array Jvm.ClassFile.FieldType.int)), Jvm.Cond.code ({ cls := "java/util/Arrays", name := "fill", desc := "([II)V" } : Jvm.MethodName) jdk_65_method_103_code (4 : Nat) (Option.none : Option Jvm.ClassFile.FieldType), Jvm.Cond.code ({ cls := "com/example/horizonte/horizonte/dd/DecisionDiagrams", name := "constant", desc := "(D)I" } : Jvm.MethodName) prog_4_method_2_code (3 : Nat) (Option.some Jvm.ClassFile.FieldType.int), Jvm.Cond.code ({ cls := "java/lang/Double", name := "isFinite", desc := "(D)Z" } : Jvm.MethodName) jdk_117_method_8_code (2 : Nat) (Option.some Jvm.ClassFile.FieldType.boolean), Jvm.Cond.code ({ cls := "java/lang/Math", name := "abs", desc := "(D)D" } : Jvm.MethodName) jdk_29_method_64_code (2 : Nat) (Option.some Jvm.ClassFile.FieldType.double), Jvm.Cond.code ({ cls := "com/example/horizonte/horizonte/dd/DecisionDiagrams", name := "leaf", desc := "(D)I" } : Jvm.MethodName) prog_4_method_66_code (3 : Nat) (Option.some Jvm.ClassFile.FieldType.int), Jvm.Cond.code ({ cls := "com/example/horizonte/horizonte/dd/DecisionDiagrams", name := "make", desc := "(IIID)I" } : Jvm.MethodName) prog_4_method_68_code (11 : Nat) (Option.some Jvm.ClassFile.FieldType.int), Jvm.Cond.code ({ cls := "java/lang/Double", name := "doubleToLongBits", desc := "(D)J" } : Jvm.MethodName) jdk_117_method_23_code (2 : Nat) (Option.some Jvm.ClassFile.FieldType.long), Jvm.Cond.code ({ cls := "java/lang/Double", name := "isNaN", desc := "(D)Z" } : Jvm.MethodName) jdk_117_method_6_code (2 : Nat) (Option.some Jvm.ClassFile.FieldType.boolean), Jvm.Cond.code ({ cls := "com/example/horizonte/horizonte/dd/DecisionDiagrams", name := "hash", desc := "(IIIJ)I" } : Jvm.MethodName) prog_4_method_81_code (7 : Nat) (Option.some Jvm.ClassFile.FieldType.int), Jvm.Cond.code ({ cls := "com/example/horizonte/horizonte/dd/DecisionDiagrams", name := "add", desc := "(IIID)I" } : Jvm.MethodName) prog_4_method_69_code (6 : Nat) (Option.some Jvm.ClassFile.FieldType.int), Jvm.Cond.code ({ cls := "com/example/horizonte/horizonte/dd/DecisionDiagrams", name := "variable", desc := "(I)I" } : Jvm.MethodName) prog_4_method_3_code (2 : Nat) (Option.some Jvm.ClassFile.FieldType.int), Jvm.Cond.code ({ cls := "com/example/horizonte/horizonte/dd/DecisionDiagrams", name := "checkVariable", desc := "(I)V" } : Jvm.MethodName) prog_4_method_76_code (1 : Nat) (Option.none : Option Jvm.ClassFile.FieldType), Jvm.Cond.code ({ cls := "com/example/horizonte/horizonte/dd/DecisionDiagrams", name := "decision", desc := "(III)I" } : Jvm.MethodName) prog_4_method_67_code (4 : Nat) (Option.some Jvm.ClassFile.FieldType.int), Jvm.Cond.code ({ cls := "com/example/horizonte/horizonte/dd/DecisionDiagrams", name := "isLeaf", desc := "(I)Z" } : Jvm.MethodName) prog_4_method_58_code (2 : Nat) (Option.some Jvm.ClassFile.FieldType.boolean), Jvm.Cond.code ({ cls := "com/example/horizonte/horizonte/dd/DecisionDiagrams", name := "low", desc := "(I)I" } : Jvm.MethodName) prog_4_method_60_code (2 : Nat) (Option.some Jvm.ClassFile.FieldType.int), Jvm.Cond.code ({ cls := "com/example/horizonte/horizonte/dd/DecisionDiagrams", name := "high", desc := "(I)I" } : Jvm.MethodName) prog_4_method_61_code (2 : Nat) (Option.some Jvm.ClassFile.FieldType.int)]
set_option maxRecDepth 65536 in
theorem codes_eq : words1.filter isCode = codes1 := rfl
theorem w_codes : ∀ c ∈ words1.filter isCode, c.before args0 about1 = true := by
  rw [codes_eq]
  intro c hc
  simp only [codes1, List.mem_cons, List.not_mem_nil, or_false] at hc
  rcases hc with rfl | rfl | rfl | rfl | rfl | rfl | rfl | rfl | rfl | rfl | rfl | rfl | rfl | rfl | rfl | rfl | rfl | rfl | rfl | rfl | rfl | rfl | rfl | rfl | rfl | rfl
  · exact w_c0
  · exact w_c1
  · exact w_c2
  · exact w_c3
  · exact w_c4
  · exact w_c5
  · exact w_c6
  · exact w_c7
  · exact w_c8
  · exact w_c9
  · exact w_c10
  · exact w_c11
  · exact w_c12
  · exact w_c13
  · exact w_c14
  · exact w_c15
  · exact w_c16
  · exact w_c17
  · exact w_c18
  · exact w_c19
  · exact w_c20
  · exact w_c21
  · exact w_c22
  · exact w_c23
  · exact w_c24
  · exact w_c25
set_option maxRecDepth 65536 in
theorem w_t1 : (words1.take 24).all (fun c => isCode c || c.before args0 about1) = true := by decide +kernel
set_option maxRecDepth 65536 in
theorem w_t2 : ((words1.drop 24).take 24).all (fun c => isCode c || c.before args0 about1) = true := by decide +kernel
set_option maxRecDepth 65536 in
theorem w_t3 : (((words1.drop 24).drop 24).take 24).all (fun c => isCode c || c.before args0 about1) = true := by decide +kernel
set_option maxRecDepth 65536 in
theorem w_t4 : ((((words1.drop 24).drop 24).drop 24).take 24).all (fun c => isCode c || c.before args0 about1) = true := by decide +kernel
set_option maxRecDepth 65536 in
theorem w_t5 : (((((words1.drop 24).drop 24).drop 24).drop 24).take 24).all (fun c => isCode c || c.before args0 about1) = true := by decide +kernel
set_option maxRecDepth 65536 in
theorem w_t6 : ((((((words1.drop 24).drop 24).drop 24).drop 24).drop 24).take 24).all (fun c => isCode c || c.before args0 about1) = true := by decide +kernel
set_option maxRecDepth 65536 in
theorem w_t7 : (((((((words1.drop 24).drop 24).drop 24).drop 24).drop 24).drop 24).take 24).all (fun c => isCode c || c.before args0 about1) = true := by decide +kernel
set_option maxRecDepth 65536 in
theorem w_t8 : (((((((words1.drop 24).drop 24).drop 24).drop 24).drop 24).drop 24).drop 24).all (fun c => isCode c || c.before args0 about1) = true := by decide +kernel
theorem w_tables : (allAtoms (Jvm.Cond.code x code maxLocals ret :: tables_1)).before args0 about1 = true := by
  rw [allAtoms_all]
  show words1.all (fun c => c.before args0 about1) = true
  refine all_split ?_ w_codes
  rw [← List.take_append_drop 24 words1, List.all_append, w_t1, ← List.take_append_drop 24 (words1.drop 24), List.all_append, w_t2, ← List.take_append_drop 24 ((words1.drop 24).drop 24), List.all_append, w_t3, ← List.take_append_drop 24 (((words1.drop 24).drop 24).drop 24), List.all_append, w_t4, ← List.take_append_drop 24 ((((words1.drop 24).drop 24).drop 24).drop 24), List.all_append, w_t5, ← List.take_append_drop 24 (((((words1.drop 24).drop 24).drop 24).drop 24).drop 24), List.all_append, w_t6, ← List.take_append_drop 24 ((((((words1.drop 24).drop 24).drop 24).drop 24).drop 24).drop 24), List.all_append, w_t7, w_t8]
  rfl
set_option maxRecDepth 65536 in
theorem w_rest : rest_1_c.before args0 about1 = true := by decide +kernel
set_option maxRecDepth 65536 in
theorem w_case : (Jvm.Cond.and given_1 narrow_1).before args0 about1 = true := by decide +kernel
theorem w_applies : (headSpec (Jvm.Cond.code x code maxLocals ret :: tables_1) room_1).applies x e0.platform about1 = true :=
  (Spec.applies_iff w_frames).mpr ⟨w_running, w_runnable, w_alone, w_named, w_hears, w_ripe, w_room, w_tables⟩
theorem atStart : AtStart classFile x code maxLocals ret World_1 tables_1 room_1 Calls_1 rest_1 Pre_1 launch0 p0 e0 about1 theMethod args0 below0 :=
  ⟨lists_1, trivial, launch0.admits_env _ _ _, launch0.least_env, fairChoices_fair.cas, fairChoices_fair.clock, w_frames, w_args, w_heap, w_applies, trivial, w_rest, w_case⟩
end start1
theorem witness_1 : WitnessClaimed_1 := ⟨start1.p0, start1.e0, start1.about1, start1.theMethod, start1.args0, start1.below0, start1.atStart⟩
end Jvm.Pilot.@@N@@
