import JvmDerived
import JvmDerived.Pilot.@@N@@Statement
import JvmDerived.Pilot.@@N@@Code
set_option linter.unusedVariables false
set_option linter.unusedSimpArgs false
namespace Jvm.Pilot.@@N@@
open Jvm Jvm.ClassFile Sem Op Lib Jvm.Free Jvm.Stand Jvm.LawKit Jvm.RoadKit Bundle Jvm.Free.Fl Jvm.Pilot.@@N@@.Jvm.D
theorem own_go {tb : Tables} {e : Env} {below : List Frame} {A B : State} {F : State → Outcome → Prop} (h : ∀ t, Steps tb e below A t → Steps tb e below B t) (k : ∃ s₂ o, Steps tb e below A s₂ ∧ F s₂ o) : ∃ s₂ o, Steps tb e below B s₂ ∧ F s₂ o := by
  obtain ⟨s₂, o, h1, h2⟩ := k
  exact ⟨s₂, o, h _ h1, h2⟩
theorem own_open {tb : Tables} {e : Env} {below : List Frame} {B : State} {F : State → Outcome → Prop} (h : ∀ G : State → Prop, (∀ A B, (∀ t, Steps tb e below A t → Steps tb e below B t) → G A → G B) → (∀ A, (∃ s₂ o, Steps tb e below A s₂ ∧ F s₂ o) → G A) → G B) : ∃ s₂ o, Steps tb e below B s₂ ∧ F s₂ o :=
  h (fun A => ∃ s₂ o, Steps tb e below A s₂ ∧ F s₂ o) (fun _ _ => own_go) (fun _ k => k)
/-! ### an array by its length and the value at each place -/
def own_A (Z : State) (h : Heap) (a : Addr) (ty : FieldType) (n : Nat) (f : Nat → Value) : Prop := ∃ cl : Cell, Arr Z h a cl ty ∧ cl.slots.size = n ∧ ∀ j, j < n → cl.slots[j]? = some (f j)
theorem own_A_lt {Z : State} {h : Heap} {a : Addr} {ty : FieldType} {n : Nat} {f : Nat → Value} (F : own_A Z h a ty n f) : a < h.size := by obtain ⟨_, A, -⟩ := F; exact A.lt
theorem own_A_ext {Z : State} {h h' : Heap} {a : Addr} {ty : FieldType} {n : Nat} {f : Nat → Value} (F : own_A Z h a ty n f) (E : Ext h h') : own_A Z h' a ty n f := by obtain ⟨c, A, r⟩ := F; exact ⟨c, A.ext E, r⟩
theorem own_A_other {Z : State} {h h' : Heap} {a b : Addr} {sl : Nat} {v : Value} {ty : FieldType} {n : Nat} {f : Nat → Value} (F : own_A Z h b ty n f) (W : Wr h h' a sl v) (q : b ≠ a) : own_A Z h' b ty n f := by obtain ⟨c, A, r⟩ := F; exact ⟨c, A.other W q, r⟩
theorem own_A_keep {Z : State} {h h' : Heap} {a : Addr} {ws : List Addr} {ty : FieldType} {n : Nat} {f : Nat → Value} (F : own_A Z h a ty n f) (K : Keep h h' ws) (q : a ∉ ws) : own_A Z h' a ty n f := by obtain ⟨c, A, r⟩ := F; exact ⟨c, ⟨K.2.1 a c A.1 q, A.2⟩, r⟩
theorem own_A_new {Z : State} {h : Heap} {a : Addr} {k : ClassId} {ty : FieldType} {z : Int32} {n : Nat} (A : Arr Z h a (newA k ty z) ty) (hz : z.toNatClampNeg = n) : own_A Z h a ty n (fun _ => defaultValue ty) :=
  ⟨_, A, (sz_new _ _ _).trans hz, fun j hj => by
    subst hz
    simp [newA, hj]⟩
theorem own_A_congr {Z : State} {h : Heap} {a : Addr} {ty : FieldType} {n : Nat} {f g : Nat → Value} (F : own_A Z h a ty n f) (q : ∀ j, j < n → f j = g j) : own_A Z h a ty n g := by
  obtain ⟨c, A, S, H⟩ := F
  exact ⟨c, A, S, fun j hj => by rw [← q j hj]; exact H j hj⟩
theorem own_A_set {Z : State} {h h' : Heap} {a : Addr} {cl : Cell} {ty : FieldType} {n : Nat} {f : Nat → Value} {i : Nat} {v : Value} (A : Arr Z h a cl ty) (S : cl.slots.size = n) (H : ∀ j, j < n → cl.slots[j]? = some (f j)) (W : Wr h h' a i v) (hi : i < n) : own_A Z h' a ty n (fun j => if j = i then v else f j) := by
  refine ⟨_, A.same W, (sz_set _ _ _).trans S, fun j hj => ?_⟩
  show (cl.slots.setIfInBounds i v)[j]? = some (if j = i then v else f j)
  by_cases q : j = i
  · subst q
    rw [if_pos rfl, Array.getElem?_setIfInBounds_self_of_lt (by omega)]
  · rw [if_neg q, Array.getElem?_setIfInBounds_ne (Ne.symm q)]
    exact H j hj
theorem own_hin {cl : Cell} {n : Nat} {j : Int32} (S : cl.slots.size = n) (h0 : ¬ j < 0) (h1 : j.toNatClampNeg < n) : ¬ (j < 0 ∨ cl.slots.size ≤ j.toNatClampNeg) := fun q => q.elim h0 (fun r => by omega)
theorem own_cps {G A : Prop} (h1 : A → G) (h2 : A) : G := h1 h2
theorem own_setf {α : Type} (c : α → Value) (g : Nat → α) (z : α) (i n : Nat) : ∀ j, j < n → (if j = i then c (g i) else c (if j < i then g j else z)) = c (if j < i + 1 then g j else z) := by
  intro j _
  by_cases h : j = i
  · subst h
    rw [if_pos rfl, if_pos (by omega)]
  · rw [if_neg h]
    by_cases h2 : j < i
    · rw [if_pos h2, if_pos (by omega)]
    · rw [if_neg h2, if_neg (by omega)]
theorem own_full {α : Type} (c : α → Value) (g : Nat → α) (z : α) (n : Nat) : ∀ j, j < n → c (if j < n then g j else z) = c (g j) := fun j hj => by rw [if_pos hj]
theorem own_zero {α : Type} (c : α → Value) (g : Nat → α) (z : α) (n : Nat) : ∀ j, j < n → c z = c (if j < 0 then g j else z) := fun j _ => by rw [if_neg (Nat.not_lt_zero j)]
open Jvm.Native.java_lang_Math.nans in
theorem own_max {l : Launch} {R : Room} {p : Program} {e : Env} {below : List Frame} {s : State} {sargs : Array Value} {W : Nat} {bytes : ByteArray} {maxL : Nat} {x y : UInt64} (hcode : (Jvm.Cond.code (⟨"java/lang/Math", "max", "(DD)D"⟩ : MethodName) bytes maxL (some .double)).before sargs s = true) (hstat : (Jvm.Cond.static (⟨"java/lang/Math", "max", "(DD)D"⟩ : MethodName)).before sargs s = true) (hfr : 1 ≤ R.frames) (hlo : W + (maxL + 11) ≤ R.locals) (nx : NoNaN64 x) (ny : NoNaN64 y) :
    Back l R p e below s sargs (⟨"java/lang/Math", "max", "(DD)D"⟩ : MethodName) 3 W (fun A a => A.cells ≤ R.cells ∧ A.slots ≤ R.slots ∧ a = #[.double x, .double y]) (fun A _ v B => v = some (.double (pick64 true x y)) ∧ B = A) :=
  (NT.Max64.pays hcode hstat hfr hlo).mono (fun A a h => ⟨(x, y), h.2.2, noNaN64_no.mp nx, noNaN64_no.mp ny⟩) (fun A a v B h1 h2 => ⟨h2.2 (x, y) ⟨h1.2.2, noNaN64_no.mp nx, noNaN64_no.mp ny⟩, h2.1⟩)
theorem own_abs {l : Launch} {R : Room} {p : Program} {e : Env} {below : List Frame} {s : State} {sargs : Array Value} {W : Nat} {bytes : ByteArray} {maxL : Nat} {x : UInt64} (hcode : (Jvm.Cond.code (⟨"java/lang/Math", "abs", "(D)D"⟩ : MethodName) bytes maxL (some .double)).before sargs s = true) (hstat : (Jvm.Cond.static (⟨"java/lang/Math", "abs", "(D)D"⟩ : MethodName)).before sargs s = true) (hfr : 1 ≤ R.frames) (hlo : W + (maxL + 11) ≤ R.locals) (nx : NoNaN64 x) :
    Back l R p e below s sargs (⟨"java/lang/Math", "abs", "(D)D"⟩ : MethodName) 3 W (fun A a => A.cells ≤ R.cells ∧ A.slots ≤ R.slots ∧ a = #[.double x]) (fun A _ v B => v = some (.double (x &&& 0x7fffffffffffffff)) ∧ B = A) :=
  (NT.Abs64.pays hcode hstat hfr hlo).mono (fun A a h => ⟨x, h.2.2, nx⟩) (fun A a v B h1 h2 => ⟨h2.2 x ⟨h1.2.2, nx⟩, h2.1⟩)
theorem own_n32 {k : Nat} (h : k ≤ 100) : (Int32.ofNat k).toNatClampNeg = k := XT.n32 (by omega)
theorem own_nn {k : Nat} (h : k ≤ 100) : ¬ Int32.ofNat k < 0 := XT.nlt32 (a := k) (b := 0) (by omega) (by omega)
/-- the ints behind vals -/
def own_vv (vA vB : Int64) : Nat → Int32
  | 0 => vA.toInt32
  | 1 => (vA >>> ((32 : Int32) &&& 0x3f).toInt64).toInt32
  | 2 => vB.toInt32
  | _ => (vB >>> ((32 : Int32) &&& 0x3f).toInt64).toInt32
/-- the ints behind before -/
def own_bf (tA tB : Int64) : Nat → Int32
  | 0 => tA.toInt32.toInt16.toInt32
  | 1 => (tA >>> ((16 : Int32) &&& 0x3f).toInt64).toInt32.toInt16.toInt32
  | 2 => (tA >>> ((32 : Int32) &&& 0x3f).toInt64).toInt32.toInt16.toInt32
  | 3 => (tA >>> ((48 : Int32) &&& 0x3f).toInt64).toInt32.toInt16.toInt32
  | 4 => tB.toInt32.toInt16.toInt32
  | 5 => (tB >>> ((16 : Int32) &&& 0x3f).toInt64).toInt32.toInt16.toInt32
  | 6 => (tB >>> ((32 : Int32) &&& 0x3f).toInt64).toInt32.toInt16.toInt32
  | _ => (tB >>> ((48 : Int32) &&& 0x3f).toInt64).toInt32.toInt16.toInt32
/-- the table when i products are added -/
def own_tab (BF VV : Nat → Int32) (f : Int32) (o i j : Nat) : UInt64 := if o ≤ j ∧ j < o + i then FP.dadd (FP.i2d (BF j)) (FP.dmul (FP.i2d f) (FP.i2d (VV (j - o)))) else FP.i2d (BF j)
theorem own_pm (a b : Int32) : Mag64 1090 (FP.dmul (FP.i2d a) (FP.i2d b)) := (dmul_mag (i2d_mag a) (i2d_mag b) (by decide) (by decide)).mono (by decide)
theorem own_pn (a b : Int32) : NoNaN64 (FP.dmul (FP.i2d a) (FP.i2d b)) := ((own_pm a b).fin (by decide)).noNaN
theorem own_sn (a b c : Int32) : NoNaN64 (FP.dadd (FP.i2d c) (FP.dmul (FP.i2d a) (FP.i2d b))) := dadd_out' (i2d_fin c) (own_pn a b)
theorem own_tabn (BF VV : Nat → Int32) (f : Int32) (o i j : Nat) : NoNaN64 (own_tab BF VV f o i j) := by
  unfold own_tab
  split
  · exact own_sn _ _ _
  · exact (i2d_fin _).noNaN
theorem own_tab0 (BF VV : Nat → Int32) (f : Int32) (o j : Nat) : own_tab BF VV f o 0 j = FP.i2d (BF j) := by
  unfold own_tab
  rw [if_neg (by omega)]
theorem own_tab_at (BF VV : Nat → Int32) (f : Int32) (o i : Nat) : own_tab BF VV f o i (o + i) = FP.i2d (BF (o + i)) := by
  unfold own_tab
  rw [if_neg (by omega)]
theorem own_tab_set (BF VV : Nat → Int32) (f : Int32) (o i n : Nat) : ∀ j, j < n → (if j = o + i then Value.double (FP.dadd (FP.i2d (BF (o + i))) (FP.dmul (FP.i2d f) (FP.i2d (VV i)))) else Value.double (own_tab BF VV f o i j)) = Value.double (own_tab BF VV f o (i + 1) j) := by
  intro j _
  unfold own_tab
  by_cases h : j = o + i
  · subst h
    rw [if_pos rfl, if_pos (by omega), show o + i - o = i by omega]
  · rw [if_neg h]
    by_cases h2 : o ≤ j ∧ j < o + i
    · rw [if_pos h2, if_pos (by omega)]
    · rw [if_neg h2, if_neg (by omega)]
/-- the shape: 1, 2 or 4 values, and an offset at which they lie within the eight -/
theorem own_shape (p : Int32) : ∃ (k : Int32) (l o : Nat), (p &&& (3 : Int32)) % (3 : Int32) = k ∧ ((k = 0 ∧ l = 1) ∨ (k = 1 ∧ l = 2) ∨ (k = 2 ∧ l = 4)) ∧ (1 : Int32) <<< (k &&& 31) = Int32.ofNat l ∧ ¬ ((9 : Int32) - Int32.ofNat l) = 0 ∧ ((p.toUInt32 >>> ((2 : Int32) &&& 31).toUInt32).toInt32 &&& (7 : Int32)) % ((9 : Int32) - Int32.ofNat l) = Int32.ofNat o ∧ o + l ≤ 8 := by
  have h1 := c_and p 3 (by decide)
  have h3 : (3 : Int32).toInt = 3 := rfl
  have h2 := (c_irem (p &&& 3) 3 3 rfl).1 h1.1
  have h7 : (7 : Int32).toInt = 7 := rfl
  have x1 := c_and ((p.toUInt32 >>> ((2 : Int32) &&& 31).toUInt32).toInt32) 7 (by decide)
  generalize ((p.toUInt32 >>> ((2 : Int32) &&& 31).toUInt32).toInt32 &&& (7 : Int32)) = x at *
  have hk : (p &&& (3 : Int32)) % (3 : Int32) = 0 ∨ (p &&& (3 : Int32)) % (3 : Int32) = 1 ∨ (p &&& (3 : Int32)) % (3 : Int32) = 2 := by
    simp only [← Int32.toInt_inj, show (0 : Int32).toInt = 0 from rfl, show (1 : Int32).toInt = 1 from rfl, show (2 : Int32).toInt = 2 from rfl]
    omega
  have ho : ∀ (d : Int32) (m : Int), d.toInt = m → 0 < m → m ≤ 8 → x % d = Int32.ofNat (x.toInt % m).toNat ∧ ((x.toInt % m).toNat : Int) < m := fun d m hd h0 h8 => by
    have q := (c_irem x d m hd).1 x1.1
    have q1 := Int.emod_nonneg x.toInt (show m ≠ 0 by omega)
    have q2 := Int.emod_lt_of_pos x.toInt h0
    refine ⟨?_, by omega⟩
    rw [← Int32.toInt_inj, Int32.toInt_ofNat_of_lt (by omega), q]
    omega
  rcases hk with hk | hk | hk
  · obtain ⟨q1, q2⟩ := ho ((9 : Int32) - Int32.ofNat 1) 8 (by decide) (by decide) (by decide)
    exact ⟨0, 1, _, hk, Or.inl ⟨rfl, rfl⟩, by decide, by decide, q1, by omega⟩
  · obtain ⟨q1, q2⟩ := ho ((9 : Int32) - Int32.ofNat 2) 7 (by decide) (by decide) (by decide)
    exact ⟨1, 2, _, hk, Or.inr (Or.inl ⟨rfl, rfl⟩), by decide, by decide, q1, by omega⟩
  · obtain ⟨q1, q2⟩ := ho ((9 : Int32) - Int32.ofNat 4) 5 (by decide) (by decide) (by decide)
    exact ⟨2, 4, _, hk, Or.inr (Or.inr ⟨rfl, rfl⟩), by decide, by decide, q1, by omega⟩
theorem own_tab_out {BF VV : Nat → Int32} {f : Int32} {o i j : Nat} (h : ¬ (o ≤ j ∧ j < o + i)) : own_tab BF VV f o i j = FP.i2d (BF j) := if_neg h
theorem own_tab_in {BF VV : Nat → Int32} {f : Int32} {o i j : Nat} (h : o ≤ j ∧ j < o + i) : own_tab BF VV f o i j = FP.dadd (FP.i2d (BF j)) (FP.dmul (FP.i2d f) (FP.i2d (VV (j - o)))) := if_pos h
theorem own_subneg {i o : Nat} (h : i < o) (ho : o ≤ 100) : Int32.ofNat i - Int32.ofNat o < (0 : Int32) := by
  have q := c_isub (Int32.ofNat i) (Int32.ofNat o)
  have r := rng32 (Int32.ofNat i - Int32.ofNat o)
  rw [Int32.toInt_ofNat_of_lt (by omega), Int32.toInt_ofNat_of_lt (by omega)] at q
  rw [Int32.lt_iff_toInt_lt]
  have : (0 : Int32).toInt = 0 := rfl
  omega
theorem ef_1 (m : MethodId) (x0 : Addr) (x1 : Addr) (x2 : Addr) : entryFrame m #[(.ref x0), (.ref x1), (.ref x2)] 10 = mkF m 0 #[.val (.ref x0), .val (.ref x1), .val (.ref x2), .unset, .unset, .unset, .unset, .unset, .unset, .unset] [] := by first | (simp [entryFrame, mkF, argsToLocals, Value.category]; done) | rfl
theorem pn_com_example_horizonte_horizonte_solver_AdditiveSplit_Term : plainName "com/example/horizonte/horizonte/solver/AdditiveSplit$Term" = true := by first | (simp [plainName, overriddenIn]; done) | decide +kernel
theorem d1_0 : decode prog_66_method_1_code 0 = .ok (.aload_n 0, 1) := by decide +kernel
theorem d1_1 : decode prog_66_method_1_code 1 = .ok (.invokespecial 1, 3) := by decide +kernel
theorem d1_4 : decode prog_66_method_1_code 4 = .ok (.aload_n 0, 1) := by decide +kernel
theorem d1_5 : decode prog_66_method_1_code 5 = .ok (.aload_n 1, 1) := by decide +kernel
theorem d1_6 : decode prog_66_method_1_code 6 = .ok (.putfield 7, 3) := by decide +kernel
theorem d1_9 : decode prog_66_method_1_code 9 = .ok (.aload_n 0, 1) := by decide +kernel
theorem d1_10 : decode prog_66_method_1_code 10 = .ok (.aload_n 2, 1) := by decide +kernel
theorem d1_11 : decode prog_66_method_1_code 11 = .ok (.putfield 13, 3) := by decide +kernel
theorem d1_14 : decode prog_66_method_1_code 14 = .ok (.dconst 0, 1) := by decide +kernel
theorem d1_15 : decode prog_66_method_1_code 15 = .ok (.dstore_n 3, 1) := by decide +kernel
theorem d1_16 : decode prog_66_method_1_code 16 = .ok (.aload_n 2, 1) := by decide +kernel
theorem d1_17 : decode prog_66_method_1_code 17 = .ok (.astore 5, 2) := by decide +kernel
theorem d1_19 : decode prog_66_method_1_code 19 = .ok (.aload 5, 2) := by decide +kernel
theorem d1_21 : decode prog_66_method_1_code 21 = .ok (.arraylength, 1) := by decide +kernel
theorem d1_22 : decode prog_66_method_1_code 22 = .ok (.istore 6, 2) := by decide +kernel
theorem d1_24 : decode prog_66_method_1_code 24 = .ok (.iconst 0, 1) := by decide +kernel
theorem d1_25 : decode prog_66_method_1_code 25 = .ok (.istore 7, 2) := by decide +kernel
theorem d1_27 : decode prog_66_method_1_code 27 = .ok (.iload 7, 2) := by decide +kernel
theorem d1_29 : decode prog_66_method_1_code 29 = .ok (.iload 6, 2) := by decide +kernel
theorem d1_31 : decode prog_66_method_1_code 31 = .ok (.if_icmp .ge 26, 3) := by decide +kernel
theorem d1_34 : decode prog_66_method_1_code 34 = .ok (.aload 5, 2) := by decide +kernel
theorem d1_36 : decode prog_66_method_1_code 36 = .ok (.iload 7, 2) := by decide +kernel
theorem d1_38 : decode prog_66_method_1_code 38 = .ok (.daload, 1) := by decide +kernel
theorem d1_39 : decode prog_66_method_1_code 39 = .ok (.dstore 8, 2) := by decide +kernel
theorem d1_41 : decode prog_66_method_1_code 41 = .ok (.dload_n 3, 1) := by decide +kernel
theorem d1_42 : decode prog_66_method_1_code 42 = .ok (.dload 8, 2) := by decide +kernel
theorem d1_44 : decode prog_66_method_1_code 44 = .ok (.invokestatic 17, 3) := by decide +kernel
theorem pd__28D_29D : parseMethodDescriptor "(D)D" = some ⟨[.double], some .double⟩ := by decide +kernel
theorem d1_47 : decode prog_66_method_1_code 47 = .ok (.invokestatic 23, 3) := by decide +kernel
theorem pd__28DD_29D : parseMethodDescriptor "(DD)D" = some ⟨[.double, .double], some .double⟩ := by decide +kernel
theorem d1_50 : decode prog_66_method_1_code 50 = .ok (.dstore_n 3, 1) := by decide +kernel
theorem d1_51 : decode prog_66_method_1_code 51 = .ok (.iinc 7 1, 3) := by decide +kernel
theorem d1_54 : decode prog_66_method_1_code 54 = .ok (.goto (-27), 3) := by decide +kernel
theorem d1_57 : decode prog_66_method_1_code 57 = .ok (.aload_n 0, 1) := by decide +kernel
theorem d1_58 : decode prog_66_method_1_code 58 = .ok (.dload_n 3, 1) := by decide +kernel
theorem d1_59 : decode prog_66_method_1_code 59 = .ok (.putfield 27, 3) := by decide +kernel
theorem d1_62 : decode prog_66_method_1_code 62 = .ok (.return_, 1) := by decide +kernel
theorem ef_5 (m : MethodId) (x0 : Addr) (x1 : Addr) (x2 : Int32) (x3 : UInt64) : entryFrame m #[(.ref x0), (.ref x1), (.int x2), (.double x3)] 6 = mkF m 0 #[.val (.ref x0), .val (.ref x1), .val (.int x2), .val (.double x3), .second, .unset] [] := by first | (simp [entryFrame, mkF, argsToLocals, Value.category]; done) | rfl
theorem d5_0 : decode prog_66_method_4_code 0 = .ok (.iconst 0, 1) := by decide +kernel
theorem d5_1 : decode prog_66_method_4_code 1 = .ok (.istore 5, 2) := by decide +kernel
theorem d5_3 : decode prog_66_method_4_code 3 = .ok (.iload 5, 2) := by decide +kernel
theorem d5_5 : decode prog_66_method_4_code 5 = .ok (.aload_n 0, 1) := by decide +kernel
theorem d5_6 : decode prog_66_method_4_code 6 = .ok (.getfield 13, 3) := by decide +kernel
theorem d5_9 : decode prog_66_method_4_code 9 = .ok (.arraylength, 1) := by decide +kernel
theorem d5_10 : decode prog_66_method_4_code 10 = .ok (.if_icmp .ge 27, 3) := by decide +kernel
theorem d5_37 : decode prog_66_method_4_code 37 = .ok (.return_, 1) := by decide +kernel
theorem d5_13 : decode prog_66_method_4_code 13 = .ok (.aload_n 1, 1) := by decide +kernel
theorem d5_14 : decode prog_66_method_4_code 14 = .ok (.iload_n 2, 1) := by decide +kernel
theorem d5_15 : decode prog_66_method_4_code 15 = .ok (.iload 5, 2) := by decide +kernel
theorem d5_17 : decode prog_66_method_4_code 17 = .ok (.iadd, 1) := by decide +kernel
theorem d5_18 : decode prog_66_method_4_code 18 = .ok (.dup2, 1) := by decide +kernel
theorem d5_19 : decode prog_66_method_4_code 19 = .ok (.daload, 1) := by decide +kernel
theorem d5_20 : decode prog_66_method_4_code 20 = .ok (.dload_n 3, 1) := by decide +kernel
theorem d5_21 : decode prog_66_method_4_code 21 = .ok (.aload_n 0, 1) := by decide +kernel
theorem d5_22 : decode prog_66_method_4_code 22 = .ok (.getfield 13, 3) := by decide +kernel
theorem d5_25 : decode prog_66_method_4_code 25 = .ok (.iload 5, 2) := by decide +kernel
theorem d5_27 : decode prog_66_method_4_code 27 = .ok (.daload, 1) := by decide +kernel
theorem d5_28 : decode prog_66_method_4_code 28 = .ok (.dmul, 1) := by decide +kernel
theorem d5_29 : decode prog_66_method_4_code 29 = .ok (.dadd, 1) := by decide +kernel
theorem d5_30 : decode prog_66_method_4_code 30 = .ok (.dastore, 1) := by decide +kernel
theorem d5_31 : decode prog_66_method_4_code 31 = .ok (.iinc 5 1, 3) := by decide +kernel
theorem d5_34 : decode prog_66_method_4_code 34 = .ok (.goto (-31), 3) := by decide +kernel
theorem ef_6 (m : MethodId) (x0 : Addr) (x1 : Addr) (x2 : Addr) (x3 : Int32) (x4 : UInt64) (x5 : Int32) : entryFrame m #[(.ref x0), (.ref x1), (.ref x2), (.int x3), (.double x4), (.int x5)] 12 = mkF m 0 #[.val (.ref x0), .val (.ref x1), .val (.ref x2), .val (.int x3), .val (.double x4), .second, .val (.int x5), .unset, .unset, .unset, .unset, .unset] [] := by first | (simp [entryFrame, mkF, argsToLocals, Value.category]; done) | rfl
theorem pn_com_example_horizonte_horizonte_solver_TermAddToPinLaw : plainName "com/example/horizonte/horizonte/solver/TermAddToPinLaw" = true := by first | (simp [plainName, overriddenIn]; done) | decide +kernel
theorem d6_0 : decode method_3_code 0 = .ok (.iload 6, 2) := by decide +kernel
theorem d6_2 : decode method_3_code 2 = .ok (.iload_n 3, 1) := by decide +kernel
theorem d6_3 : decode method_3_code 3 = .ok (.isub, 1) := by decide +kernel
theorem d6_4 : decode method_3_code 4 = .ok (.istore 7, 2) := by decide +kernel
theorem d6_6 : decode method_3_code 6 = .ok (.iload 7, 2) := by decide +kernel
theorem d6_8 : decode method_3_code 8 = .ok (.ifCond .lt 44, 3) := by decide +kernel
theorem d6_52 : decode method_3_code 52 = .ok (.aload_n 0, 1) := by decide +kernel
theorem d6_53 : decode method_3_code 53 = .ok (.iload 6, 2) := by decide +kernel
theorem d6_55 : decode method_3_code 55 = .ok (.daload, 1) := by decide +kernel
theorem d6_56 : decode method_3_code 56 = .ok (.aload_n 1, 1) := by decide +kernel
theorem d6_57 : decode method_3_code 57 = .ok (.iload 6, 2) := by decide +kernel
theorem d6_59 : decode method_3_code 59 = .ok (.daload, 1) := by decide +kernel
theorem d6_60 : decode method_3_code 60 = .ok (.dcmp .l, 1) := by decide +kernel
theorem d6_61 : decode method_3_code 61 = .ok (.ifCond .ne 7, 3) := by decide +kernel
theorem d6_64 : decode method_3_code 64 = .ok (.iconst 1, 1) := by decide +kernel
theorem d6_65 : decode method_3_code 65 = .ok (.goto 4, 3) := by decide +kernel
theorem d6_69 : decode method_3_code 69 = .ok (.ireturn, 1) := by decide +kernel
theorem d6_11 : decode method_3_code 11 = .ok (.iload 7, 2) := by decide +kernel
theorem d6_13 : decode method_3_code 13 = .ok (.aload_n 2, 1) := by decide +kernel
theorem d6_14 : decode method_3_code 14 = .ok (.arraylength, 1) := by decide +kernel
theorem d6_15 : decode method_3_code 15 = .ok (.if_icmp .ge 37, 3) := by decide +kernel
theorem d6_18 : decode method_3_code 18 = .ok (.dload 4, 2) := by decide +kernel
theorem d6_20 : decode method_3_code 20 = .ok (.aload_n 2, 1) := by decide +kernel
theorem d6_21 : decode method_3_code 21 = .ok (.iload 7, 2) := by decide +kernel
theorem d6_23 : decode method_3_code 23 = .ok (.daload, 1) := by decide +kernel
theorem d6_24 : decode method_3_code 24 = .ok (.dmul, 1) := by decide +kernel
theorem d6_25 : decode method_3_code 25 = .ok (.dstore 8, 2) := by decide +kernel
theorem d6_27 : decode method_3_code 27 = .ok (.aload_n 1, 1) := by decide +kernel
theorem d6_28 : decode method_3_code 28 = .ok (.iload 6, 2) := by decide +kernel
theorem d6_30 : decode method_3_code 30 = .ok (.daload, 1) := by decide +kernel
theorem d6_31 : decode method_3_code 31 = .ok (.dload 8, 2) := by decide +kernel
theorem d6_33 : decode method_3_code 33 = .ok (.dadd, 1) := by decide +kernel
theorem d6_34 : decode method_3_code 34 = .ok (.dstore 10, 2) := by decide +kernel
theorem d6_36 : decode method_3_code 36 = .ok (.aload_n 0, 1) := by decide +kernel
theorem d6_37 : decode method_3_code 37 = .ok (.iload 6, 2) := by decide +kernel
theorem d6_39 : decode method_3_code 39 = .ok (.daload, 1) := by decide +kernel
theorem d6_40 : decode method_3_code 40 = .ok (.dload 10, 2) := by decide +kernel
theorem d6_42 : decode method_3_code 42 = .ok (.dcmp .l, 1) := by decide +kernel
theorem d6_43 : decode method_3_code 43 = .ok (.ifCond .ne 7, 3) := by decide +kernel
theorem d6_46 : decode method_3_code 46 = .ok (.iconst 1, 1) := by decide +kernel
theorem d6_47 : decode method_3_code 47 = .ok (.goto 4, 3) := by decide +kernel
theorem d6_51 : decode method_3_code 51 = .ok (.ireturn, 1) := by decide +kernel
theorem ef_0 (m : MethodId) (x0 : Int64) (x1 : Int64) (x2 : Int64) (x3 : Int64) (x4 : Int32) (x5 : Int32) : entryFrame m #[(.long x0), (.long x1), (.long x2), (.long x3), (.int x4), (.int x5)] maxLocals = mkF m 0 #[.val (.long x0), .second, .val (.long x1), .second, .val (.long x2), .second, .val (.long x3), .second, .val (.int x4), .val (.int x5), .unset, .unset, .unset, .unset, .unset, .unset, .unset, .unset, .unset, .unset] [] := by first | (simp [entryFrame, mkF, argsToLocals, Value.category, maxLocals]; done) | rfl
theorem pd__28_5bI_5bD_29V : parseMethodDescriptor "([I[D)V" = some ⟨[(.array .int), (.array .double)], none⟩ := by decide +kernel
theorem pd__28_5bDID_29V : parseMethodDescriptor "([DID)V" = some ⟨[(.array .double), .int, .double], none⟩ := by decide +kernel
theorem pd__28_5bD_5bD_5bDIDI_29Z : parseMethodDescriptor "([D[D[DIDI)Z" = some ⟨[(.array .double), (.array .double), (.array .double), .int, .double, .int], some .boolean⟩ := by decide +kernel
def Q1 (Z : State) (a1 a3 : Addr) (h0 : Heap) (n0 : Nat) (v : Option Value) (h : Heap) (L : List Loc) : Prop := v = none ∧ Fr n0 L ∧ Keep h0 h [a1] ∧ Exa Z h a1 "com/example/horizonte/horizonte/solver/AdditiveSplit$Term" ∧ Fld Z h a1 "com/example/horizonte/horizonte/solver/AdditiveSplit$Term" "values" "[D" (.ref a3)
set_option maxRecDepth 65536 in
set_option maxHeartbeats 40000000 in
theorem rm1 (l : Launch) (Z : State) (a0 : Array Value) (hw : ∀ d ∈ tables_1, d.before a0 Z = true) (ws : List Jvm.Cond) (a1 : Addr) (a2 : Addr) (a3 : Addr) (ln : Nat) (VV : Nat → Int32) (hl : 1 ≤ ln ∧ ln ≤ 4) (h0 : Heap) (n0 : Nat) (Z0 : n0 ≤ h0.size) (E_a1 : Exa Z h0 a1 "com/example/horizonte/horizonte/solver/AdditiveSplit$Term") (F1 : Fld Z h0 a1 "com/example/horizonte/horizonte/solver/AdditiveSplit$Term" "variables" "[I" .null) (F2 : Fld Z h0 a1 "com/example/horizonte/horizonte/solver/AdditiveSplit$Term" "values" "[D" .null) (F3 : Fld Z h0 a1 "com/example/horizonte/horizonte/solver/AdditiveSplit$Term" "largest" "D" (.double (0 : UInt64))) (V3 : own_A Z h0 a3 .double ln (fun j => .double (FP.i2d (VV j)))) (hne : a3 ≠ a1) (g_a1 : n0 ≤ a1) :
    MetFree l (⟨"com/example/horizonte/horizonte/solver/AdditiveSplit$Term", "<init>", "([I[D)V"⟩ : MethodName) (head1 (Jvm.Cond.code (⟨"com/example/horizonte/horizonte/solver/AdditiveSplit$Term", "<init>", "([I[D)V"⟩ : MethodName) prog_66_method_1_code 10 none :: ws) ({ frames := 1, cells := 0, slots := 0, locals := 15 } : Room)) (fun a U => a = #[(.ref a1), (.ref a2), (.ref a3)] ∧ Z.Warmed39 U.vm ∧ U.heap = h0) (fun _ _ _ _ _ => True) (fun _ U ou U' => ∃ v L, ou = .returned v ∧ Q1 Z a1 a3 h0 n0 v U'.heap L ∧ FrameEnd U ou U' L ({ frames := 1, cells := 0, slots := 0, locals := 15 } : Room).cells ({ frames := 1, cells := 0, slots := 0, locals := 15 } : Room).slots) := by
  refine MetFree.of_bodySF (plainFor_of_name pn_com_example_horizonte_horizonte_solver_AdditiveSplit_Term) hisR ?_
  intro p e s m args below meth c s₁ Bd hml0 hP hK
  obtain ⟨rfl, hZ, hh⟩ := hP
  have hlk : meth.locks = false := by first | exact BodyLoose.notSynchronized Bd | exact Body.notSynchronized Bd
  have hx := Bd.exec
  have hby := Bd.bytes
  have hml : c.maxLocals = 10 := hml0
  have hown : s.vm.findClass "com/example/horizonte/horizonte/solver/AdditiveSplit$Term" = some m.cls := findClass_of_methodNamed Bd.named
  have hnm := (name_of_methodNamed Bd.named Bd.method).1
  have X0 : Stand p l e ({ frames := 1, cells := 0, slots := 0, locals := 15 } : Room) s m #[(.ref a1), (.ref a2), (.ref a3)] below meth c s₁ [] 0 0 := Stand.of_body Bd
  have e0 : s₁.heap = h0 := by rw [← hh, Bd.state]; rfl
  have N0 := Fr.nil n0
  refine own_open (fun G go fin => ?_)
  refine go (s₁.setTop (mkF m 0 #[.val (.ref a1), .val (.ref a2), .val (.ref a3), .unset, .unset, .unset, .unset, .unset, .unset, .unset] [])) _ (fun t9 k9 => castTop (ef_1 m a1 a2 a3) k9) ?_
  refine go (s₁.setTop (mkF m 1 #[.val (.ref a1), .val (.ref a2), .val (.ref a3), .unset, .unset, .unset, .unset, .unset, .unset, .unset] [(.ref a1)])) _ (fun t9 k9 => ?_) ?_
  · show Steps p.tables e below (s₁.setTop (mkF m 0 #[.val (.ref a1), .val (.ref a2), .val (.ref a3), .unset, .unset, .unset, .unset, .unset, .unset, .unset] [])) _
    refine XS.aloadN X0.here hx rfl (hb hby d1_0) rfl rfl ?_
    exact k9
  obtain ⟨T1, X1, e1, st1⟩ := initO X0 hx hZ hown (hw _ (List.mem_of_getElem? (i := 8) rfl)) (hw _ (List.mem_of_getElem? (i := 9) rfl)) (hw _ (List.mem_of_getElem? (i := 10) rfl)) e0 (g := (mkF m 1 #[.val (.ref a1), .val (.ref a2), .val (.ref a3), .unset, .unset, .unset, .unset, .unset, .unset, .unset] [(.ref a1)])) rfl (by rw [hml]; rfl) rfl (hb hby d1_1) (by decide) (W := 0) (by show 2 * 0 + _ ≤ _; exact Nat.le_of_eq rfl) (by decide)
  refine go (T1.setTop (mkF m 4 #[.val (.ref a1), .val (.ref a2), .val (.ref a3), .unset, .unset, .unset, .unset, .unset, .unset, .unset] [])) _ (fun t9 k9 => st1 _ k9) ?_
  refine go (T1.setTop (mkF m 6 #[.val (.ref a1), .val (.ref a2), .val (.ref a3), .unset, .unset, .unset, .unset, .unset, .unset, .unset] [(.ref a2), (.ref a1)])) _ (fun t9 k9 => ?_) ?_
  · show Steps p.tables e below (T1.setTop (mkF m 4 #[.val (.ref a1), .val (.ref a2), .val (.ref a3), .unset, .unset, .unset, .unset, .unset, .unset, .unset] [])) _
    refine XS.aloadN X1.here hx rfl (hb hby d1_4) rfl rfl ?_
    show Steps p.tables e below (T1.setTop (mkF m 5 #[.val (.ref a1), .val (.ref a2), .val (.ref a3), .unset, .unset, .unset, .unset, .unset, .unset, .unset] [(.ref a1)])) _
    refine XS.aloadN X1.here hx rfl (hb hby d1_5) rfl rfl ?_
    exact k9
  obtain ⟨T2, h2, X2, e2, W2, st2⟩ := putF X1 hx hZ hown (host := "") (Or.inl (hw _ (List.mem_of_getElem? (i := 11) rfl))) Via.refl e1 F1 E_a1 (Or.inr ⟨(hw _ (List.mem_of_getElem? (i := 12) rfl)), rfl, hnm⟩) (hw _ (List.mem_of_getElem? (i := 3) rfl)) (ty := (.array .int)) (by decide) rfl rfl (g := (mkF m 6 #[.val (.ref a1), .val (.ref a2), .val (.ref a3), .unset, .unset, .unset, .unset, .unset, .unset, .unset] [(.ref a2), (.ref a1)])) rfl rfl (hb hby d1_6)
  have N2 := Fr.snoc X2 N0 g_a1
  refine go (T2.setTop (mkF m 9 #[.val (.ref a1), .val (.ref a2), .val (.ref a3), .unset, .unset, .unset, .unset, .unset, .unset, .unset] [])) _ (fun t9 k9 => st2 _ k9) ?_
  have u3 : Exa Z h2 a1 "com/example/horizonte/horizonte/solver/AdditiveSplit$Term" := E_a1.wr W2
  have u4 : Fld Z h2 a1 "com/example/horizonte/horizonte/solver/AdditiveSplit$Term" "variables" "[I" (.ref a2) := F1.same W2
  have u5 : Fld Z h2 a1 "com/example/horizonte/horizonte/solver/AdditiveSplit$Term" "values" "[D" .null := F2.other W2 (Or.inr (slot_ne (Or.inr (hw _ (List.mem_of_getElem? (i := 14) rfl))) (Or.inr (hw _ (List.mem_of_getElem? (i := 12) rfl))) (by decide) (t := (.array .double)) (t' := (.array .int)) (by decide) (by decide)))
  have u6 : Fld Z h2 a1 "com/example/horizonte/horizonte/solver/AdditiveSplit$Term" "largest" "D" (.double (0 : UInt64)) := F3.other W2 (Or.inr (slot_ne (Or.inr (hw _ (List.mem_of_getElem? (i := 23) rfl))) (Or.inr (hw _ (List.mem_of_getElem? (i := 12) rfl))) (by decide) (t := .double) (t' := (.array .int)) (by decide) (by decide)))
  have u7 : own_A Z h2 a3 .double ln (fun j => .double (FP.i2d (VV j))) := own_A_other V3 W2 hne
  have u8 : Keep h0 h2 [a1] := (Keep.refl h0 [a1]).wr W2 (Or.inl (List.mem_of_getElem? (i := 0) rfl))
  refine go (T2.setTop (mkF m 11 #[.val (.ref a1), .val (.ref a2), .val (.ref a3), .unset, .unset, .unset, .unset, .unset, .unset, .unset] [(.ref a3), (.ref a1)])) _ (fun t9 k9 => ?_) ?_
  · show Steps p.tables e below (T2.setTop (mkF m 9 #[.val (.ref a1), .val (.ref a2), .val (.ref a3), .unset, .unset, .unset, .unset, .unset, .unset, .unset] [])) _
    refine XS.aloadN X2.here hx rfl (hb hby d1_9) rfl rfl ?_
    show Steps p.tables e below (T2.setTop (mkF m 10 #[.val (.ref a1), .val (.ref a2), .val (.ref a3), .unset, .unset, .unset, .unset, .unset, .unset, .unset] [(.ref a1)])) _
    refine XS.aloadN X2.here hx rfl (hb hby d1_10) rfl rfl ?_
    exact k9
  obtain ⟨T9, h9, X9, e9, W9, st9⟩ := putF X2 hx hZ hown (host := "") (Or.inl (hw _ (List.mem_of_getElem? (i := 13) rfl))) Via.refl e2 u5 u3 (Or.inr ⟨(hw _ (List.mem_of_getElem? (i := 14) rfl)), rfl, hnm⟩) (hw _ (List.mem_of_getElem? (i := 3) rfl)) (ty := (.array .double)) (by decide) rfl rfl (g := (mkF m 11 #[.val (.ref a1), .val (.ref a2), .val (.ref a3), .unset, .unset, .unset, .unset, .unset, .unset, .unset] [(.ref a3), (.ref a1)])) rfl rfl (hb hby d1_11)
  have N9 := Fr.snoc X9 N2 g_a1
  refine go (T9.setTop (mkF m 14 #[.val (.ref a1), .val (.ref a2), .val (.ref a3), .unset, .unset, .unset, .unset, .unset, .unset, .unset] [])) _ (fun t9 k9 => st9 _ k9) ?_
  have u10 : Exa Z h9 a1 "com/example/horizonte/horizonte/solver/AdditiveSplit$Term" := u3.wr W9
  have u11 : Fld Z h9 a1 "com/example/horizonte/horizonte/solver/AdditiveSplit$Term" "variables" "[I" (.ref a2) := u4.other W9 (Or.inr (slot_ne (Or.inr (hw _ (List.mem_of_getElem? (i := 12) rfl))) (Or.inr (hw _ (List.mem_of_getElem? (i := 14) rfl))) (by decide) (t := (.array .int)) (t' := (.array .double)) (by decide) (by decide)))
  have u12 : Fld Z h9 a1 "com/example/horizonte/horizonte/solver/AdditiveSplit$Term" "values" "[D" (.ref a3) := u5.same W9
  have u13 : Fld Z h9 a1 "com/example/horizonte/horizonte/solver/AdditiveSplit$Term" "largest" "D" (.double (0 : UInt64)) := u6.other W9 (Or.inr (slot_ne (Or.inr (hw _ (List.mem_of_getElem? (i := 23) rfl))) (Or.inr (hw _ (List.mem_of_getElem? (i := 14) rfl))) (by decide) (t := .double) (t' := (.array .double)) (by decide) (by decide)))
  have u14 : own_A Z h9 a3 .double ln (fun j => .double (FP.i2d (VV j))) := own_A_other u7 W9 hne
  have u15 : Keep h0 h9 [a1] := u8.wr W9 (Or.inl (List.mem_of_getElem? (i := 0) rfl))
  refine go (T9.setTop (mkF m 21 #[.val (.ref a1), .val (.ref a2), .val (.ref a3), .val (.double (0 : UInt64)), .second, .val (.ref a3), .unset, .unset, .unset, .unset] [(.ref a3)])) _ (fun t9 k9 => ?_) ?_
  · show Steps p.tables e below (T9.setTop (mkF m 14 #[.val (.ref a1), .val (.ref a2), .val (.ref a3), .unset, .unset, .unset, .unset, .unset, .unset, .unset] [])) _
    refine XS.dconst0 X9.here hx rfl (hb hby d1_14) rfl ?_
    show Steps p.tables e below (T9.setTop (mkF m 15 #[.val (.ref a1), .val (.ref a2), .val (.ref a3), .unset, .unset, .unset, .unset, .unset, .unset, .unset] [(.double (0 : UInt64))])) _
    refine XS.dstoreN X9.here hx rfl (hb hby d1_15) rfl (l' := #[.val (.ref a1), .val (.ref a2), .val (.ref a3), .val (.double (0 : UInt64)), .second, .unset, .unset, .unset, .unset, .unset]) rfl ?_
    show Steps p.tables e below (T9.setTop (mkF m 16 #[.val (.ref a1), .val (.ref a2), .val (.ref a3), .val (.double (0 : UInt64)), .second, .unset, .unset, .unset, .unset, .unset] [])) _
    refine XS.aloadN X9.here hx rfl (hb hby d1_16) rfl rfl ?_
    show Steps p.tables e below (T9.setTop (mkF m 17 #[.val (.ref a1), .val (.ref a2), .val (.ref a3), .val (.double (0 : UInt64)), .second, .unset, .unset, .unset, .unset, .unset] [(.ref a3)])) _
    refine XS.astore X9.here hx rfl (hb hby d1_17) rfl rfl (l' := #[.val (.ref a1), .val (.ref a2), .val (.ref a3), .val (.double (0 : UInt64)), .second, .val (.ref a3), .unset, .unset, .unset, .unset]) rfl ?_
    show Steps p.tables e below (T9.setTop (mkF m 19 #[.val (.ref a1), .val (.ref a2), .val (.ref a3), .val (.double (0 : UInt64)), .second, .val (.ref a3), .unset, .unset, .unset, .unset] [])) _
    refine XS.aload X9.here hx rfl (hb hby d1_19) rfl rfl ?_
    exact k9
  obtain ⟨cl16, Ar16, Sz16, Hv16⟩ := u14
  have u17 : own_A Z h9 a3 .double ln (fun j => .double (FP.i2d (VV j))) := ⟨cl16, Ar16, Sz16, Hv16⟩
  refine go (T9.setTop (mkF m 27 #[.val (.ref a1), .val (.ref a2), .val (.ref a3), .val (.double (0 : UInt64)), .second, .val (.ref a3), .val (.int (Int32.ofNat ln)), .val (.int (0 : Int32)), .unset, .unset] [])) _ (fun t9 k9 => ?_) ?_
  · show Steps p.tables e below (T9.setTop (mkF m 21 #[.val (.ref a1), .val (.ref a2), .val (.ref a3), .val (.double (0 : UInt64)), .second, .val (.ref a3), .unset, .unset, .unset, .unset] [(.ref a3)])) _
    refine X9.arraylength hx (by rw [e9]; exact Ar16.1) (State.isArrayOf_alike hZ.alike Ar16.2.1) (g := (mkF m 21 #[.val (.ref a1), .val (.ref a2), .val (.ref a3), .val (.double (0 : UInt64)), .second, .val (.ref a3), .unset, .unset, .unset, .unset] [(.ref a3)])) rfl (rest := []) rfl (hb hby d1_21) _ ?_
    rw [len_of (z := (Int32.ofNat ln)) (Sz16.trans (own_n32 (by omega : ln ≤ 100)).symm) (own_nn (by omega))]
    show Steps p.tables e below (T9.setTop (mkF m 22 #[.val (.ref a1), .val (.ref a2), .val (.ref a3), .val (.double (0 : UInt64)), .second, .val (.ref a3), .unset, .unset, .unset, .unset] [(.int (Int32.ofNat ln))])) _
    refine XS.istore X9.here hx rfl (hb hby d1_22) rfl (l' := #[.val (.ref a1), .val (.ref a2), .val (.ref a3), .val (.double (0 : UInt64)), .second, .val (.ref a3), .val (.int (Int32.ofNat ln)), .unset, .unset, .unset]) rfl ?_
    show Steps p.tables e below (T9.setTop (mkF m 24 #[.val (.ref a1), .val (.ref a2), .val (.ref a3), .val (.double (0 : UInt64)), .second, .val (.ref a3), .val (.int (Int32.ofNat ln)), .unset, .unset, .unset] [])) _
    refine XS.iconst X9.here hx rfl (hb hby d1_24) ?_
    show Steps p.tables e below (T9.setTop (mkF m 25 #[.val (.ref a1), .val (.ref a2), .val (.ref a3), .val (.double (0 : UInt64)), .second, .val (.ref a3), .val (.int (Int32.ofNat ln)), .unset, .unset, .unset] [(.int (0 : Int32))])) _
    refine XS.istore X9.here hx rfl (hb hby d1_25) rfl (l' := #[.val (.ref a1), .val (.ref a2), .val (.ref a3), .val (.double (0 : UInt64)), .second, .val (.ref a3), .val (.int (Int32.ofNat ln)), .val (.int (0 : Int32)), .unset, .unset]) rfl ?_
    exact k9
  have hacc : NoNaN64 (0 : UInt64) := by unfold NoNaN64; decide
  refine go (T9.setTop (mkF m 38 #[.val (.ref a1), .val (.ref a2), .val (.ref a3), .val (.double (0 : UInt64)), .second, .val (.ref a3), .val (.int (Int32.ofNat ln)), .val (.int (0 : Int32)), .unset, .unset] [(.int (0 : Int32)), (.ref a3)])) _ (fun t9 k9 => ?_) ?_
  · show Steps p.tables e below (T9.setTop (mkF m 27 #[.val (.ref a1), .val (.ref a2), .val (.ref a3), .val (.double (0 : UInt64)), .second, .val (.ref a3), .val (.int (Int32.ofNat ln)), .val (.int (0 : Int32)), .unset, .unset] [])) _
    refine XS.iload X9.here hx rfl (hb hby d1_27) rfl ?_
    show Steps p.tables e below (T9.setTop (mkF m 29 #[.val (.ref a1), .val (.ref a2), .val (.ref a3), .val (.double (0 : UInt64)), .second, .val (.ref a3), .val (.int (Int32.ofNat ln)), .val (.int (0 : Int32)), .unset, .unset] [(.int (0 : Int32))])) _
    refine XS.iload X9.here hx rfl (hb hby d1_29) rfl ?_
    show Steps p.tables e below (T9.setTop (mkF m 31 #[.val (.ref a1), .val (.ref a2), .val (.ref a3), .val (.double (0 : UInt64)), .second, .val (.ref a3), .val (.int (Int32.ofNat ln)), .val (.int (0 : Int32)), .unset, .unset] [(.int (Int32.ofNat ln)), (.int (0 : Int32))])) _
    refine XS.icmpNo X9.here hx rfl (hb hby d1_31) rfl (tlt (XT.pos32 (by omega) (by omega) : (0 : Int32) < Int32.ofNat ln)).2.1 ?_
    show Steps p.tables e below (T9.setTop (mkF m 34 #[.val (.ref a1), .val (.ref a2), .val (.ref a3), .val (.double (0 : UInt64)), .second, .val (.ref a3), .val (.int (Int32.ofNat ln)), .val (.int (0 : Int32)), .unset, .unset] [])) _
    refine XS.aload X9.here hx rfl (hb hby d1_34) rfl rfl ?_
    show Steps p.tables e below (T9.setTop (mkF m 36 #[.val (.ref a1), .val (.ref a2), .val (.ref a3), .val (.double (0 : UInt64)), .second, .val (.ref a3), .val (.int (Int32.ofNat ln)), .val (.int (0 : Int32)), .unset, .unset] [(.ref a3)])) _
    refine XS.iload X9.here hx rfl (hb hby d1_36) rfl ?_
    exact k9
  obtain ⟨cl18, Ar18, Sz18, Hv18⟩ := u17
  have u19 : own_A Z h9 a3 .double ln (fun j => .double (FP.i2d (VV j))) := ⟨cl18, Ar18, Sz18, Hv18⟩
  refine go (T9.setTop (mkF m 44 #[.val (.ref a1), .val (.ref a2), .val (.ref a3), .val (.double (0 : UInt64)), .second, .val (.ref a3), .val (.int (Int32.ofNat ln)), .val (.int (0 : Int32)), .val (.double (FP.i2d (VV 0))), .second] [(.double (FP.i2d (VV 0))), (.double (0 : UInt64))])) _ (fun t9 k9 => ?_) ?_
  · show Steps p.tables e below (T9.setTop (mkF m 38 #[.val (.ref a1), .val (.ref a2), .val (.ref a3), .val (.double (0 : UInt64)), .second, .val (.ref a3), .val (.int (Int32.ofNat ln)), .val (.int (0 : Int32)), .unset, .unset] [(.int (0 : Int32)), (.ref a3)])) _
    refine X9.daload hx (j := (0 : Int32)) (v := (.double (FP.i2d (VV 0)))) (by rw [e9]; exact Ar18.1) (State.isArrayOf_alike hZ.alike Ar18.2.1) Ar18.2.2 (own_hin Sz18 (by decide) (show (0 : Int32).toNatClampNeg < ln from hl.1)) ((Hv18 _ (show (0 : Int32).toNatClampNeg < ln from hl.1)).trans (congrArg some (rfl))) (g := (mkF m 38 #[.val (.ref a1), .val (.ref a2), .val (.ref a3), .val (.double (0 : UInt64)), .second, .val (.ref a3), .val (.int (Int32.ofNat ln)), .val (.int (0 : Int32)), .unset, .unset] [(.int (0 : Int32)), (.ref a3)])) rfl rfl (hb hby d1_38) _ ?_
    show Steps p.tables e below (T9.setTop (mkF m 39 #[.val (.ref a1), .val (.ref a2), .val (.ref a3), .val (.double (0 : UInt64)), .second, .val (.ref a3), .val (.int (Int32.ofNat ln)), .val (.int (0 : Int32)), .unset, .unset] [(.double (FP.i2d (VV 0)))])) _
    refine XS.dstore X9.here hx rfl (hb hby d1_39) rfl (l' := #[.val (.ref a1), .val (.ref a2), .val (.ref a3), .val (.double (0 : UInt64)), .second, .val (.ref a3), .val (.int (Int32.ofNat ln)), .val (.int (0 : Int32)), .val (.double (FP.i2d (VV 0))), .second]) rfl ?_
    show Steps p.tables e below (T9.setTop (mkF m 41 #[.val (.ref a1), .val (.ref a2), .val (.ref a3), .val (.double (0 : UInt64)), .second, .val (.ref a3), .val (.int (Int32.ofNat ln)), .val (.int (0 : Int32)), .val (.double (FP.i2d (VV 0))), .second] [])) _
    refine XS.dloadN X9.here hx rfl (hb hby d1_41) rfl ?_
    show Steps p.tables e below (T9.setTop (mkF m 42 #[.val (.ref a1), .val (.ref a2), .val (.ref a3), .val (.double (0 : UInt64)), .second, .val (.ref a3), .val (.int (Int32.ofNat ln)), .val (.int (0 : Int32)), .val (.double (FP.i2d (VV 0))), .second] [(.double (0 : UInt64))])) _
    refine XS.dload X9.here hx rfl (hb hby d1_42) rfl ?_
    exact k9
  obtain ⟨T20, X20, e20, st20⟩ := natS X9 hx hZ hown (y := (⟨"java/lang/Math", "abs", "(D)D"⟩ : MethodName)) (hw _ (List.mem_of_getElem? (i := 15) rfl)) (hw _ (List.mem_of_getElem? (i := 16) rfl)) (hw _ (List.mem_of_getElem? (i := 17) rfl)) (hw _ (List.mem_of_getElem? (i := 18) rfl)) (by decide) e9 (W := 2) (F := fun a => a = #[.double (FP.i2d (VV 0))]) (val := (.double ((FP.i2d (VV 0)) &&& 0x7fffffffffffffff))) (val' := (.double ((FP.i2d (VV 0)) &&& 0x7fffffffffffffff))) (fun hcd => own_abs hcd (mvT hZ (hw _ (List.mem_of_getElem? (i := 16) rfl))) (by decide) (by decide) (i2d_fin (VV 0)).noNaN) (g := (mkF m 44 #[.val (.ref a1), .val (.ref a2), .val (.ref a3), .val (.double (0 : UInt64)), .second, .val (.ref a3), .val (.int (Int32.ofNat ln)), .val (.int (0 : Int32)), .val (.double (FP.i2d (VV 0))), .second] [(.double (FP.i2d (VV 0))), (.double (0 : UInt64))])) rfl (by rw [hml]; rfl) (argsL := [(.double (FP.i2d (VV 0)))]) (rest := [(.double (0 : UInt64))]) (lenOf pd__28D_29D rfl) rfl (by show 2 * 0 + _ ≤ _; exact Nat.le_of_eq rfl) (hb hby d1_44) (by decide) (by decide) rfl rfl
  refine go (T20.setTop (mkF m 47 #[.val (.ref a1), .val (.ref a2), .val (.ref a3), .val (.double (0 : UInt64)), .second, .val (.ref a3), .val (.int (Int32.ofNat ln)), .val (.int (0 : Int32)), .val (.double (FP.i2d (VV 0))), .second] [(.double ((FP.i2d (VV 0)) &&& 0x7fffffffffffffff)), (.double (0 : UInt64))])) _ (fun t9 k9 => st20 _ k9) ?_
  obtain ⟨T21, X21, e21, st21⟩ := natS X20 hx hZ hown (y := (⟨"java/lang/Math", "max", "(DD)D"⟩ : MethodName)) (hw _ (List.mem_of_getElem? (i := 19) rfl)) (hw _ (List.mem_of_getElem? (i := 20) rfl)) (hw _ (List.mem_of_getElem? (i := 17) rfl)) (hw _ (List.mem_of_getElem? (i := 21) rfl)) (by decide) e20 (W := 0) (F := fun a => a = #[.double (0 : UInt64), .double ((FP.i2d (VV 0)) &&& 0x7fffffffffffffff)]) (val := (.double (Jvm.Native.java_lang_Math.nans.pick64 true (0 : UInt64) ((FP.i2d (VV 0)) &&& 0x7fffffffffffffff)))) (val' := (.double (Jvm.Native.java_lang_Math.nans.pick64 true (0 : UInt64) ((FP.i2d (VV 0)) &&& 0x7fffffffffffffff)))) (fun hcd => own_max hcd (mvT hZ (hw _ (List.mem_of_getElem? (i := 20) rfl))) (by decide) (by decide) hacc (abs_fin (i2d_fin (VV 0))).noNaN) (g := (mkF m 47 #[.val (.ref a1), .val (.ref a2), .val (.ref a3), .val (.double (0 : UInt64)), .second, .val (.ref a3), .val (.int (Int32.ofNat ln)), .val (.int (0 : Int32)), .val (.double (FP.i2d (VV 0))), .second] [(.double ((FP.i2d (VV 0)) &&& 0x7fffffffffffffff)), (.double (0 : UInt64))])) rfl (by rw [hml]; rfl) (argsL := [(.double (0 : UInt64)), (.double ((FP.i2d (VV 0)) &&& 0x7fffffffffffffff))]) (rest := []) (lenOf pd__28DD_29D rfl) rfl (by show 2 * 0 + _ ≤ _; exact Nat.le_of_eq rfl) (hb hby d1_47) (by decide) (by decide) rfl rfl
  refine go (T21.setTop (mkF m 50 #[.val (.ref a1), .val (.ref a2), .val (.ref a3), .val (.double (0 : UInt64)), .second, .val (.ref a3), .val (.int (Int32.ofNat ln)), .val (.int (0 : Int32)), .val (.double (FP.i2d (VV 0))), .second] [(.double (Jvm.Native.java_lang_Math.nans.pick64 true (0 : UInt64) ((FP.i2d (VV 0)) &&& 0x7fffffffffffffff)))])) _ (fun t9 k9 => st21 _ k9) ?_
  refine go (T21.setTop (mkF m 27 #[.val (.ref a1), .val (.ref a2), .val (.ref a3), .val (.double (Jvm.Native.java_lang_Math.nans.pick64 true (0 : UInt64) ((FP.i2d (VV 0)) &&& 0x7fffffffffffffff))), .second, .val (.ref a3), .val (.int (Int32.ofNat ln)), .val (.int ((0 : Int32) + (1 : Int32))), .val (.double (FP.i2d (VV 0))), .second] [])) _ (fun t9 k9 => ?_) ?_
  · show Steps p.tables e below (T21.setTop (mkF m 50 #[.val (.ref a1), .val (.ref a2), .val (.ref a3), .val (.double (0 : UInt64)), .second, .val (.ref a3), .val (.int (Int32.ofNat ln)), .val (.int (0 : Int32)), .val (.double (FP.i2d (VV 0))), .second] [(.double (Jvm.Native.java_lang_Math.nans.pick64 true (0 : UInt64) ((FP.i2d (VV 0)) &&& 0x7fffffffffffffff)))])) _
    refine XS.dstoreN X21.here hx rfl (hb hby d1_50) rfl (l' := #[.val (.ref a1), .val (.ref a2), .val (.ref a3), .val (.double (Jvm.Native.java_lang_Math.nans.pick64 true (0 : UInt64) ((FP.i2d (VV 0)) &&& 0x7fffffffffffffff))), .second, .val (.ref a3), .val (.int (Int32.ofNat ln)), .val (.int (0 : Int32)), .val (.double (FP.i2d (VV 0))), .second]) rfl ?_
    show Steps p.tables e below (T21.setTop (mkF m 51 #[.val (.ref a1), .val (.ref a2), .val (.ref a3), .val (.double (Jvm.Native.java_lang_Math.nans.pick64 true (0 : UInt64) ((FP.i2d (VV 0)) &&& 0x7fffffffffffffff))), .second, .val (.ref a3), .val (.int (Int32.ofNat ln)), .val (.int (0 : Int32)), .val (.double (FP.i2d (VV 0))), .second] [])) _
    refine XS.iinc X21.here hx rfl (hb hby d1_51) rfl (l' := #[.val (.ref a1), .val (.ref a2), .val (.ref a3), .val (.double (Jvm.Native.java_lang_Math.nans.pick64 true (0 : UInt64) ((FP.i2d (VV 0)) &&& 0x7fffffffffffffff))), .second, .val (.ref a3), .val (.int (Int32.ofNat ln)), .val (.int ((0 : Int32) + (1 : Int32))), .val (.double (FP.i2d (VV 0))), .second]) rfl ?_
    show Steps p.tables e below (T21.setTop (mkF m 54 #[.val (.ref a1), .val (.ref a2), .val (.ref a3), .val (.double (Jvm.Native.java_lang_Math.nans.pick64 true (0 : UInt64) ((FP.i2d (VV 0)) &&& 0x7fffffffffffffff))), .second, .val (.ref a3), .val (.int (Int32.ofNat ln)), .val (.int ((0 : Int32) + (1 : Int32))), .val (.double (FP.i2d (VV 0))), .second] [])) _
    refine XS.goto X21.here hx rfl (pc0 := 54) (pc' := 27) rfl (hb hby d1_54) (by decide) (by decide) ?_
    exact k9
  have loop : ∀ (k i : Nat) (acc w8 : UInt64) (T1 : State) (L1 : List Loc) (X1 : Stand p l e ({ frames := 1, cells := 0, slots := 0, locals := 15 } : Room) s m #[(.ref a1), (.ref a2), (.ref a3)] below meth c T1 L1 0 0) (e1 : T1.heap = h9) (N1 : Fr n0 L1), i + k = ln → 1 ≤ i → NoNaN64 acc → G (T1.setTop (mkF m 27 #[.val (.ref a1), .val (.ref a2), .val (.ref a3), .val (.double acc), .second, .val (.ref a3), .val (.int (Int32.ofNat ln)), .val (.int (Int32.ofNat i)), .val (.double w8), .second] [])) := by
    intro k
    induction k with
    | zero =>
      intro i acc w8 T1 L1 X1 e1 N1 hi hi1 hacc
      obtain rfl : i = ln := by omega
      refine go (T1.setTop (mkF m 59 #[.val (.ref a1), .val (.ref a2), .val (.ref a3), .val (.double acc), .second, .val (.ref a3), .val (.int (Int32.ofNat i)), .val (.int (Int32.ofNat i)), .val (.double w8), .second] [(.double acc), (.ref a1)])) _ (fun t9 k9 => ?_) ?_
      · show Steps p.tables e below (T1.setTop (mkF m 27 #[.val (.ref a1), .val (.ref a2), .val (.ref a3), .val (.double acc), .second, .val (.ref a3), .val (.int (Int32.ofNat i)), .val (.int (Int32.ofNat i)), .val (.double w8), .second] [])) _
        refine XS.iload X1.here hx rfl (hb hby d1_27) rfl ?_
        show Steps p.tables e below (T1.setTop (mkF m 29 #[.val (.ref a1), .val (.ref a2), .val (.ref a3), .val (.double acc), .second, .val (.ref a3), .val (.int (Int32.ofNat i)), .val (.int (Int32.ofNat i)), .val (.double w8), .second] [(.int (Int32.ofNat i))])) _
        refine XS.iload X1.here hx rfl (hb hby d1_29) rfl ?_
        show Steps p.tables e below (T1.setTop (mkF m 31 #[.val (.ref a1), .val (.ref a2), .val (.ref a3), .val (.double acc), .second, .val (.ref a3), .val (.int (Int32.ofNat i)), .val (.int (Int32.ofNat i)), .val (.double w8), .second] [(.int (Int32.ofNat i)), (.int (Int32.ofNat i))])) _
        refine XS.icmpYes X1.here hx rfl (pc0 := 31) (pc' := 57) rfl (hb hby d1_31) rfl (flt (Int32.lt_irrefl : ¬ Int32.ofNat i < Int32.ofNat i)).2.1 (by decide) (by decide) ?_
        show Steps p.tables e below (T1.setTop (mkF m 57 #[.val (.ref a1), .val (.ref a2), .val (.ref a3), .val (.double acc), .second, .val (.ref a3), .val (.int (Int32.ofNat i)), .val (.int (Int32.ofNat i)), .val (.double w8), .second] [])) _
        refine XS.aloadN X1.here hx rfl (hb hby d1_57) rfl rfl ?_
        show Steps p.tables e below (T1.setTop (mkF m 58 #[.val (.ref a1), .val (.ref a2), .val (.ref a3), .val (.double acc), .second, .val (.ref a3), .val (.int (Int32.ofNat i)), .val (.int (Int32.ofNat i)), .val (.double w8), .second] [(.ref a1)])) _
        refine XS.dloadN X1.here hx rfl (hb hby d1_58) rfl ?_
        exact k9
      obtain ⟨T22, h22, X22, e22, W22, st22⟩ := putF X1 hx hZ hown (host := "") (Or.inl (hw _ (List.mem_of_getElem? (i := 22) rfl))) Via.refl e1 u13 u10 (Or.inr ⟨(hw _ (List.mem_of_getElem? (i := 23) rfl)), rfl, hnm⟩) (hw _ (List.mem_of_getElem? (i := 3) rfl)) (ty := .double) (by decide) rfl rfl (g := (mkF m 59 #[.val (.ref a1), .val (.ref a2), .val (.ref a3), .val (.double acc), .second, .val (.ref a3), .val (.int (Int32.ofNat i)), .val (.int (Int32.ofNat i)), .val (.double w8), .second] [(.double acc), (.ref a1)])) rfl rfl (hb hby d1_59)
      have N22 := Fr.snoc X22 N1 g_a1
      refine go (T22.setTop (mkF m 62 #[.val (.ref a1), .val (.ref a2), .val (.ref a3), .val (.double acc), .second, .val (.ref a3), .val (.int (Int32.ofNat i)), .val (.int (Int32.ofNat i)), .val (.double w8), .second] [])) _ (fun t9 k9 => st22 _ k9) ?_
      have u23 : Exa Z h22 a1 "com/example/horizonte/horizonte/solver/AdditiveSplit$Term" := u10.wr W22
      have u24 : Fld Z h22 a1 "com/example/horizonte/horizonte/solver/AdditiveSplit$Term" "variables" "[I" (.ref a2) := u11.other W22 (Or.inr (slot_ne (Or.inr (hw _ (List.mem_of_getElem? (i := 12) rfl))) (Or.inr (hw _ (List.mem_of_getElem? (i := 23) rfl))) (by decide) (t := (.array .int)) (t' := .double) (by decide) (by decide)))
      have u25 : Fld Z h22 a1 "com/example/horizonte/horizonte/solver/AdditiveSplit$Term" "values" "[D" (.ref a3) := u12.other W22 (Or.inr (slot_ne (Or.inr (hw _ (List.mem_of_getElem? (i := 14) rfl))) (Or.inr (hw _ (List.mem_of_getElem? (i := 23) rfl))) (by decide) (t := (.array .double)) (t' := .double) (by decide) (by decide)))
      have u26 : Fld Z h22 a1 "com/example/horizonte/horizonte/solver/AdditiveSplit$Term" "largest" "D" (.double acc) := u13.same W22
      have u27 : own_A Z h22 a3 .double i (fun j => .double (FP.i2d (VV j))) := own_A_other u19 W22 hne
      have u28 : Keep h0 h22 [a1] := u15.wr W22 (Or.inl (List.mem_of_getElem? (i := 0) rfl))
      obtain ⟨fs, hr, hrun, hended, hW, hsame⟩ := X22.leave (v := none) (fun h => by rfl) hlk
      refine fin _ ⟨_, _, X22.returnOut hx Bd.returns (hb hby d1_62) hr, hrun, hended, _, _, rfl, ?_, ⟨_, rfl⟩, hW, hsame.mono (by decide) (by decide)⟩
      show Q1 Z a1 a3 h0 n0 _ T22.heap _
      rw [e22]
      exact ⟨rfl, N22, u28, u23, u25⟩
    | succ k ih =>
      intro i acc w8 T1 L1 X1 e1 N1 hi hi1 hacc
      refine go (T1.setTop (mkF m 38 #[.val (.ref a1), .val (.ref a2), .val (.ref a3), .val (.double acc), .second, .val (.ref a3), .val (.int (Int32.ofNat ln)), .val (.int (Int32.ofNat i)), .val (.double w8), .second] [(.int (Int32.ofNat i)), (.ref a3)])) _ (fun t9 k9 => ?_) ?_
      · show Steps p.tables e below (T1.setTop (mkF m 27 #[.val (.ref a1), .val (.ref a2), .val (.ref a3), .val (.double acc), .second, .val (.ref a3), .val (.int (Int32.ofNat ln)), .val (.int (Int32.ofNat i)), .val (.double w8), .second] [])) _
        refine XS.iload X1.here hx rfl (hb hby d1_27) rfl ?_
        show Steps p.tables e below (T1.setTop (mkF m 29 #[.val (.ref a1), .val (.ref a2), .val (.ref a3), .val (.double acc), .second, .val (.ref a3), .val (.int (Int32.ofNat ln)), .val (.int (Int32.ofNat i)), .val (.double w8), .second] [(.int (Int32.ofNat i))])) _
        refine XS.iload X1.here hx rfl (hb hby d1_29) rfl ?_
        show Steps p.tables e below (T1.setTop (mkF m 31 #[.val (.ref a1), .val (.ref a2), .val (.ref a3), .val (.double acc), .second, .val (.ref a3), .val (.int (Int32.ofNat ln)), .val (.int (Int32.ofNat i)), .val (.double w8), .second] [(.int (Int32.ofNat ln)), (.int (Int32.ofNat i))])) _
        refine XS.icmpNo X1.here hx rfl (hb hby d1_31) rfl (tlt (XT.lt32 (by omega) (by omega) : Int32.ofNat i < Int32.ofNat ln)).2.1 ?_
        show Steps p.tables e below (T1.setTop (mkF m 34 #[.val (.ref a1), .val (.ref a2), .val (.ref a3), .val (.double acc), .second, .val (.ref a3), .val (.int (Int32.ofNat ln)), .val (.int (Int32.ofNat i)), .val (.double w8), .second] [])) _
        refine XS.aload X1.here hx rfl (hb hby d1_34) rfl rfl ?_
        show Steps p.tables e below (T1.setTop (mkF m 36 #[.val (.ref a1), .val (.ref a2), .val (.ref a3), .val (.double acc), .second, .val (.ref a3), .val (.int (Int32.ofNat ln)), .val (.int (Int32.ofNat i)), .val (.double w8), .second] [(.ref a3)])) _
        refine XS.iload X1.here hx rfl (hb hby d1_36) rfl ?_
        exact k9
      obtain ⟨cl29, Ar29, Sz29, Hv29⟩ := u19
      have u30 : own_A Z h9 a3 .double ln (fun j => .double (FP.i2d (VV j))) := ⟨cl29, Ar29, Sz29, Hv29⟩
      refine go (T1.setTop (mkF m 44 #[.val (.ref a1), .val (.ref a2), .val (.ref a3), .val (.double acc), .second, .val (.ref a3), .val (.int (Int32.ofNat ln)), .val (.int (Int32.ofNat i)), .val (.double (FP.i2d (VV i))), .second] [(.double (FP.i2d (VV i))), (.double acc)])) _ (fun t9 k9 => ?_) ?_
      · show Steps p.tables e below (T1.setTop (mkF m 38 #[.val (.ref a1), .val (.ref a2), .val (.ref a3), .val (.double acc), .second, .val (.ref a3), .val (.int (Int32.ofNat ln)), .val (.int (Int32.ofNat i)), .val (.double w8), .second] [(.int (Int32.ofNat i)), (.ref a3)])) _
        refine X1.daload hx (j := (Int32.ofNat i)) (v := (.double (FP.i2d (VV i)))) (by rw [e1]; exact Ar29.1) (State.isArrayOf_alike hZ.alike Ar29.2.1) Ar29.2.2 (own_hin Sz29 (own_nn (by omega)) (show (Int32.ofNat i).toNatClampNeg < ln by rw [own_n32 (by omega)]; omega)) ((Hv29 _ (show (Int32.ofNat i).toNatClampNeg < ln by rw [own_n32 (by omega)]; omega)).trans (congrArg some (congrArg (fun j => Value.double (FP.i2d (VV j))) (own_n32 (by omega))))) (g := (mkF m 38 #[.val (.ref a1), .val (.ref a2), .val (.ref a3), .val (.double acc), .second, .val (.ref a3), .val (.int (Int32.ofNat ln)), .val (.int (Int32.ofNat i)), .val (.double w8), .second] [(.int (Int32.ofNat i)), (.ref a3)])) rfl rfl (hb hby d1_38) _ ?_
        show Steps p.tables e below (T1.setTop (mkF m 39 #[.val (.ref a1), .val (.ref a2), .val (.ref a3), .val (.double acc), .second, .val (.ref a3), .val (.int (Int32.ofNat ln)), .val (.int (Int32.ofNat i)), .val (.double w8), .second] [(.double (FP.i2d (VV i)))])) _
        refine XS.dstore X1.here hx rfl (hb hby d1_39) rfl (l' := #[.val (.ref a1), .val (.ref a2), .val (.ref a3), .val (.double acc), .second, .val (.ref a3), .val (.int (Int32.ofNat ln)), .val (.int (Int32.ofNat i)), .val (.double (FP.i2d (VV i))), .second]) rfl ?_
        show Steps p.tables e below (T1.setTop (mkF m 41 #[.val (.ref a1), .val (.ref a2), .val (.ref a3), .val (.double acc), .second, .val (.ref a3), .val (.int (Int32.ofNat ln)), .val (.int (Int32.ofNat i)), .val (.double (FP.i2d (VV i))), .second] [])) _
        refine XS.dloadN X1.here hx rfl (hb hby d1_41) rfl ?_
        show Steps p.tables e below (T1.setTop (mkF m 42 #[.val (.ref a1), .val (.ref a2), .val (.ref a3), .val (.double acc), .second, .val (.ref a3), .val (.int (Int32.ofNat ln)), .val (.int (Int32.ofNat i)), .val (.double (FP.i2d (VV i))), .second] [(.double acc)])) _
        refine XS.dload X1.here hx rfl (hb hby d1_42) rfl ?_
        exact k9
      obtain ⟨T31, X31, e31, st31⟩ := natS X1 hx hZ hown (y := (⟨"java/lang/Math", "abs", "(D)D"⟩ : MethodName)) (hw _ (List.mem_of_getElem? (i := 15) rfl)) (hw _ (List.mem_of_getElem? (i := 16) rfl)) (hw _ (List.mem_of_getElem? (i := 17) rfl)) (hw _ (List.mem_of_getElem? (i := 18) rfl)) (by decide) e1 (W := 2) (F := fun a => a = #[.double (FP.i2d (VV i))]) (val := (.double ((FP.i2d (VV i)) &&& 0x7fffffffffffffff))) (val' := (.double ((FP.i2d (VV i)) &&& 0x7fffffffffffffff))) (fun hcd => own_abs hcd (mvT hZ (hw _ (List.mem_of_getElem? (i := 16) rfl))) (by decide) (by decide) (i2d_fin (VV i)).noNaN) (g := (mkF m 44 #[.val (.ref a1), .val (.ref a2), .val (.ref a3), .val (.double acc), .second, .val (.ref a3), .val (.int (Int32.ofNat ln)), .val (.int (Int32.ofNat i)), .val (.double (FP.i2d (VV i))), .second] [(.double (FP.i2d (VV i))), (.double acc)])) rfl (by rw [hml]; rfl) (argsL := [(.double (FP.i2d (VV i)))]) (rest := [(.double acc)]) (lenOf pd__28D_29D rfl) rfl (by show 2 * 0 + _ ≤ _; exact Nat.le_of_eq rfl) (hb hby d1_44) (by decide) (by decide) rfl rfl
      refine go (T31.setTop (mkF m 47 #[.val (.ref a1), .val (.ref a2), .val (.ref a3), .val (.double acc), .second, .val (.ref a3), .val (.int (Int32.ofNat ln)), .val (.int (Int32.ofNat i)), .val (.double (FP.i2d (VV i))), .second] [(.double ((FP.i2d (VV i)) &&& 0x7fffffffffffffff)), (.double acc)])) _ (fun t9 k9 => st31 _ k9) ?_
      obtain ⟨T32, X32, e32, st32⟩ := natS X31 hx hZ hown (y := (⟨"java/lang/Math", "max", "(DD)D"⟩ : MethodName)) (hw _ (List.mem_of_getElem? (i := 19) rfl)) (hw _ (List.mem_of_getElem? (i := 20) rfl)) (hw _ (List.mem_of_getElem? (i := 17) rfl)) (hw _ (List.mem_of_getElem? (i := 21) rfl)) (by decide) e31 (W := 0) (F := fun a => a = #[.double acc, .double ((FP.i2d (VV i)) &&& 0x7fffffffffffffff)]) (val := (.double (Jvm.Native.java_lang_Math.nans.pick64 true acc ((FP.i2d (VV i)) &&& 0x7fffffffffffffff)))) (val' := (.double (Jvm.Native.java_lang_Math.nans.pick64 true acc ((FP.i2d (VV i)) &&& 0x7fffffffffffffff)))) (fun hcd => own_max hcd (mvT hZ (hw _ (List.mem_of_getElem? (i := 20) rfl))) (by decide) (by decide) hacc (abs_fin (i2d_fin (VV i))).noNaN) (g := (mkF m 47 #[.val (.ref a1), .val (.ref a2), .val (.ref a3), .val (.double acc), .second, .val (.ref a3), .val (.int (Int32.ofNat ln)), .val (.int (Int32.ofNat i)), .val (.double (FP.i2d (VV i))), .second] [(.double ((FP.i2d (VV i)) &&& 0x7fffffffffffffff)), (.double acc)])) rfl (by rw [hml]; rfl) (argsL := [(.double acc), (.double ((FP.i2d (VV i)) &&& 0x7fffffffffffffff))]) (rest := []) (lenOf pd__28DD_29D rfl) rfl (by show 2 * 0 + _ ≤ _; exact Nat.le_of_eq rfl) (hb hby d1_47) (by decide) (by decide) rfl rfl
      refine go (T32.setTop (mkF m 50 #[.val (.ref a1), .val (.ref a2), .val (.ref a3), .val (.double acc), .second, .val (.ref a3), .val (.int (Int32.ofNat ln)), .val (.int (Int32.ofNat i)), .val (.double (FP.i2d (VV i))), .second] [(.double (Jvm.Native.java_lang_Math.nans.pick64 true acc ((FP.i2d (VV i)) &&& 0x7fffffffffffffff)))])) _ (fun t9 k9 => st32 _ k9) ?_
      refine go (T32.setTop (mkF m 27 #[.val (.ref a1), .val (.ref a2), .val (.ref a3), .val (.double (Jvm.Native.java_lang_Math.nans.pick64 true acc ((FP.i2d (VV i)) &&& 0x7fffffffffffffff))), .second, .val (.ref a3), .val (.int (Int32.ofNat ln)), .val (.int ((Int32.ofNat i) + (1 : Int32))), .val (.double (FP.i2d (VV i))), .second] [])) _ (fun t9 k9 => ?_) ?_
      · show Steps p.tables e below (T32.setTop (mkF m 50 #[.val (.ref a1), .val (.ref a2), .val (.ref a3), .val (.double acc), .second, .val (.ref a3), .val (.int (Int32.ofNat ln)), .val (.int (Int32.ofNat i)), .val (.double (FP.i2d (VV i))), .second] [(.double (Jvm.Native.java_lang_Math.nans.pick64 true acc ((FP.i2d (VV i)) &&& 0x7fffffffffffffff)))])) _
        refine XS.dstoreN X32.here hx rfl (hb hby d1_50) rfl (l' := #[.val (.ref a1), .val (.ref a2), .val (.ref a3), .val (.double (Jvm.Native.java_lang_Math.nans.pick64 true acc ((FP.i2d (VV i)) &&& 0x7fffffffffffffff))), .second, .val (.ref a3), .val (.int (Int32.ofNat ln)), .val (.int (Int32.ofNat i)), .val (.double (FP.i2d (VV i))), .second]) rfl ?_
        show Steps p.tables e below (T32.setTop (mkF m 51 #[.val (.ref a1), .val (.ref a2), .val (.ref a3), .val (.double (Jvm.Native.java_lang_Math.nans.pick64 true acc ((FP.i2d (VV i)) &&& 0x7fffffffffffffff))), .second, .val (.ref a3), .val (.int (Int32.ofNat ln)), .val (.int (Int32.ofNat i)), .val (.double (FP.i2d (VV i))), .second] [])) _
        refine XS.iinc X32.here hx rfl (hb hby d1_51) rfl (l' := #[.val (.ref a1), .val (.ref a2), .val (.ref a3), .val (.double (Jvm.Native.java_lang_Math.nans.pick64 true acc ((FP.i2d (VV i)) &&& 0x7fffffffffffffff))), .second, .val (.ref a3), .val (.int (Int32.ofNat ln)), .val (.int ((Int32.ofNat i) + (1 : Int32))), .val (.double (FP.i2d (VV i))), .second]) rfl ?_
        show Steps p.tables e below (T32.setTop (mkF m 54 #[.val (.ref a1), .val (.ref a2), .val (.ref a3), .val (.double (Jvm.Native.java_lang_Math.nans.pick64 true acc ((FP.i2d (VV i)) &&& 0x7fffffffffffffff))), .second, .val (.ref a3), .val (.int (Int32.ofNat ln)), .val (.int ((Int32.ofNat i) + (1 : Int32))), .val (.double (FP.i2d (VV i))), .second] [])) _
        refine XS.goto X32.here hx rfl (pc0 := 54) (pc' := 27) rfl (hb hby d1_54) (by decide) (by decide) ?_
        exact k9
      rw [XT.succ32]
      exact ih (i + 1) _ _ T32 _ X32 e32 N1 (by omega) (by omega) (pick64_noNaN hacc (abs_fin (i2d_fin (VV i))).noNaN)
  exact loop (ln - 1) 1 _ _ T21 _ X21 e21 N9 (by omega) (by omega) (pick64_noNaN hacc (abs_fin (i2d_fin (VV 0))).noNaN)
def Q5 (Z : State) (a2 : Addr) (o ln : Nat) (f : Int32) (BF VV : Nat → Int32) (h0 : Heap) (n0 : Nat) (v : Option Value) (h : Heap) (L : List Loc) : Prop := v = none ∧ Fr n0 L ∧ Keep h0 h [a2] ∧ own_A Z h a2 .double 8 (fun j => .double (own_tab BF VV f o ln j))
set_option maxRecDepth 65536 in
set_option maxHeartbeats 40000000 in
theorem rm5 (l : Launch) (Z : State) (a0 : Array Value) (hw : ∀ d ∈ tables_1, d.before a0 Z = true) (ws : List Jvm.Cond) (a1 : Addr) (a2 : Addr) (b : Addr) (o ln : Nat) (f : Int32) (BF VV : Nat → Int32) (hol : o + ln ≤ 8) (h0 : Heap) (n0 : Nat) (Z0 : n0 ≤ h0.size) (F1 : Fld Z h0 a1 "com/example/horizonte/horizonte/solver/AdditiveSplit$Term" "values" "[D" (.ref b)) (Vb : own_A Z h0 b .double ln (fun j => .double (FP.i2d (VV j)))) (V2 : own_A Z h0 a2 .double 8 (fun j => .double (FP.i2d (BF j)))) (ne1 : a1 ≠ a2) (neb : b ≠ a2) (g_a2 : n0 ≤ a2) :
    MetFree l (⟨"com/example/horizonte/horizonte/solver/AdditiveSplit$Term", "addTo", "([DID)V"⟩ : MethodName) (head1 (Jvm.Cond.code (⟨"com/example/horizonte/horizonte/solver/AdditiveSplit$Term", "addTo", "([DID)V"⟩ : MethodName) prog_66_method_4_code 6 none :: ws) ({ frames := 0, cells := 0, slots := 0, locals := 0 } : Room)) (fun a U => a = #[(.ref a1), (.ref a2), (.int (Int32.ofNat o)), (.double (FP.i2d f))] ∧ Z.Warmed39 U.vm ∧ U.heap = h0) (fun _ _ _ _ _ => True) (fun _ U ou U' => ∃ v L, ou = .returned v ∧ Q5 Z a2 o ln f BF VV h0 n0 v U'.heap L ∧ FrameEnd U ou U' L ({ frames := 0, cells := 0, slots := 0, locals := 0 } : Room).cells ({ frames := 0, cells := 0, slots := 0, locals := 0 } : Room).slots) := by
  refine MetFree.of_bodySF (plainFor_of_name pn_com_example_horizonte_horizonte_solver_AdditiveSplit_Term) hisR ?_
  intro p e s m args below meth c s₁ Bd hml0 hP hK
  obtain ⟨rfl, hZ, hh⟩ := hP
  have hlk : meth.locks = false := by first | exact BodyLoose.notSynchronized Bd | exact Body.notSynchronized Bd
  have hx := Bd.exec
  have hby := Bd.bytes
  have hml : c.maxLocals = 6 := hml0
  have hown : s.vm.findClass "com/example/horizonte/horizonte/solver/AdditiveSplit$Term" = some m.cls := findClass_of_methodNamed Bd.named
  have hnm := (name_of_methodNamed Bd.named Bd.method).1
  have X0 : Stand p l e ({ frames := 0, cells := 0, slots := 0, locals := 0 } : Room) s m #[(.ref a1), (.ref a2), (.int (Int32.ofNat o)), (.double (FP.i2d f))] below meth c s₁ [] 0 0 := Stand.of_body Bd
  have e0 : s₁.heap = h0 := by rw [← hh, Bd.state]; rfl
  have N0 := Fr.nil n0
  refine own_open (fun G go fin => ?_)
  refine go (s₁.setTop (mkF m 0 #[.val (.ref a1), .val (.ref a2), .val (.int (Int32.ofNat o)), .val (.double (FP.i2d f)), .second, .unset] [])) _ (fun t9 k9 => castTop (ef_5 m a1 a2 (Int32.ofNat o) (FP.i2d f)) k9) ?_
  refine go (s₁.setTop (mkF m 3 #[.val (.ref a1), .val (.ref a2), .val (.int (Int32.ofNat o)), .val (.double (FP.i2d f)), .second, .val (.int (0 : Int32))] [])) _ (fun t9 k9 => ?_) ?_
  · show Steps p.tables e below (s₁.setTop (mkF m 0 #[.val (.ref a1), .val (.ref a2), .val (.int (Int32.ofNat o)), .val (.double (FP.i2d f)), .second, .unset] [])) _
    refine XS.iconst X0.here hx rfl (hb hby d5_0) ?_
    show Steps p.tables e below (s₁.setTop (mkF m 1 #[.val (.ref a1), .val (.ref a2), .val (.int (Int32.ofNat o)), .val (.double (FP.i2d f)), .second, .unset] [(.int (0 : Int32))])) _
    refine XS.istore X0.here hx rfl (hb hby d5_1) rfl (l' := #[.val (.ref a1), .val (.ref a2), .val (.int (Int32.ofNat o)), .val (.double (FP.i2d f)), .second, .val (.int (0 : Int32))]) rfl ?_
    exact k9
  have loop : ∀ (k i : Nat) (T1 : State) (h1 : Heap) (L1 : List Loc) (X1 : Stand p l e ({ frames := 0, cells := 0, slots := 0, locals := 0 } : Room) s m #[(.ref a1), (.ref a2), (.int (Int32.ofNat o)), (.double (FP.i2d f))] below meth c T1 L1 0 0) (e1 : T1.heap = h1) (K1 : Keep h0 h1 [a2]) (N1 : Fr n0 L1) (V1 : own_A Z h1 a2 .double 8 (fun j => .double (own_tab BF VV f o i j))), i + k = ln → G (T1.setTop (mkF m 3 #[.val (.ref a1), .val (.ref a2), .val (.int (Int32.ofNat o)), .val (.double (FP.i2d f)), .second, .val (.int (Int32.ofNat i))] [])) := by
    intro k
    induction k with
    | zero =>
      intro i T1 h1 L1 X1 e1 K1 N1 V1 hi
      obtain rfl : i = ln := by omega
      refine go (T1.setTop (mkF m 6 #[.val (.ref a1), .val (.ref a2), .val (.int (Int32.ofNat o)), .val (.double (FP.i2d f)), .second, .val (.int (Int32.ofNat i))] [(.ref a1), (.int (Int32.ofNat i))])) _ (fun t9 k9 => ?_) ?_
      · show Steps p.tables e below (T1.setTop (mkF m 3 #[.val (.ref a1), .val (.ref a2), .val (.int (Int32.ofNat o)), .val (.double (FP.i2d f)), .second, .val (.int (Int32.ofNat i))] [])) _
        refine XS.iload X1.here hx rfl (hb hby d5_3) rfl ?_
        show Steps p.tables e below (T1.setTop (mkF m 5 #[.val (.ref a1), .val (.ref a2), .val (.int (Int32.ofNat o)), .val (.double (FP.i2d f)), .second, .val (.int (Int32.ofNat i))] [(.int (Int32.ofNat i))])) _
        refine XS.aloadN X1.here hx rfl (hb hby d5_5) rfl rfl ?_
        exact k9
      obtain ⟨T33, X33, e33, st33⟩ := getF X1 hx hZ hown (host := "") (Or.inl (hw _ (List.mem_of_getElem? (i := 13) rfl))) Via.refl e1 (F1.keep K1 (ninS ne1 nin0)) (g := (mkF m 6 #[.val (.ref a1), .val (.ref a2), .val (.int (Int32.ofNat o)), .val (.double (FP.i2d f)), .second, .val (.int (Int32.ofNat i))] [(.ref a1), (.int (Int32.ofNat i))])) rfl rfl (hb hby d5_6)
      refine go (T33.setTop (mkF m 9 #[.val (.ref a1), .val (.ref a2), .val (.int (Int32.ofNat o)), .val (.double (FP.i2d f)), .second, .val (.int (Int32.ofNat i))] [(.ref b), (.int (Int32.ofNat i))])) _ (fun t9 k9 => st33 _ k9) ?_
      obtain ⟨cl34, Ar34, Sz34, Hv34⟩ := (own_A_keep Vb K1 (ninS neb nin0))
      have u35 : own_A Z h1 b .double i (fun j => .double (FP.i2d (VV j))) := ⟨cl34, Ar34, Sz34, Hv34⟩
      refine go (T33.setTop (mkF m 37 #[.val (.ref a1), .val (.ref a2), .val (.int (Int32.ofNat o)), .val (.double (FP.i2d f)), .second, .val (.int (Int32.ofNat i))] [])) _ (fun t9 k9 => ?_) ?_
      · show Steps p.tables e below (T33.setTop (mkF m 9 #[.val (.ref a1), .val (.ref a2), .val (.int (Int32.ofNat o)), .val (.double (FP.i2d f)), .second, .val (.int (Int32.ofNat i))] [(.ref b), (.int (Int32.ofNat i))])) _
        refine X33.arraylength hx (by rw [e33]; exact Ar34.1) (State.isArrayOf_alike hZ.alike Ar34.2.1) (g := (mkF m 9 #[.val (.ref a1), .val (.ref a2), .val (.int (Int32.ofNat o)), .val (.double (FP.i2d f)), .second, .val (.int (Int32.ofNat i))] [(.ref b), (.int (Int32.ofNat i))])) rfl (rest := [(.int (Int32.ofNat i))]) rfl (hb hby d5_9) _ ?_
        rw [len_of (z := (Int32.ofNat i)) (Sz34.trans (own_n32 (by omega : i ≤ 100)).symm) (own_nn (by omega))]
        show Steps p.tables e below (T33.setTop (mkF m 10 #[.val (.ref a1), .val (.ref a2), .val (.int (Int32.ofNat o)), .val (.double (FP.i2d f)), .second, .val (.int (Int32.ofNat i))] [(.int (Int32.ofNat i)), (.int (Int32.ofNat i))])) _
        refine XS.icmpYes X33.here hx rfl (pc0 := 10) (pc' := 37) rfl (hb hby d5_10) rfl (flt (Int32.lt_irrefl : ¬ Int32.ofNat i < Int32.ofNat i)).2.1 (by decide) (by decide) ?_
        exact k9
      obtain ⟨fs, hr, hrun, hended, hW, hsame⟩ := X33.leave (v := none) (fun h => by rfl) hlk
      refine fin _ ⟨_, _, X33.returnOut hx Bd.returns (hb hby d5_37) hr, hrun, hended, _, _, rfl, ?_, ⟨_, rfl⟩, hW, hsame.mono (by decide) (by decide)⟩
      show Q5 Z a2 o i f BF VV h0 n0 _ T33.heap _
      rw [e33]
      exact ⟨rfl, N1, K1, V1⟩
    | succ k ih =>
      intro i T1 h1 L1 X1 e1 K1 N1 V1 hi
      refine go (T1.setTop (mkF m 6 #[.val (.ref a1), .val (.ref a2), .val (.int (Int32.ofNat o)), .val (.double (FP.i2d f)), .second, .val (.int (Int32.ofNat i))] [(.ref a1), (.int (Int32.ofNat i))])) _ (fun t9 k9 => ?_) ?_
      · show Steps p.tables e below (T1.setTop (mkF m 3 #[.val (.ref a1), .val (.ref a2), .val (.int (Int32.ofNat o)), .val (.double (FP.i2d f)), .second, .val (.int (Int32.ofNat i))] [])) _
        refine XS.iload X1.here hx rfl (hb hby d5_3) rfl ?_
        show Steps p.tables e below (T1.setTop (mkF m 5 #[.val (.ref a1), .val (.ref a2), .val (.int (Int32.ofNat o)), .val (.double (FP.i2d f)), .second, .val (.int (Int32.ofNat i))] [(.int (Int32.ofNat i))])) _
        refine XS.aloadN X1.here hx rfl (hb hby d5_5) rfl rfl ?_
        exact k9
      obtain ⟨T36, X36, e36, st36⟩ := getF X1 hx hZ hown (host := "") (Or.inl (hw _ (List.mem_of_getElem? (i := 13) rfl))) Via.refl e1 (F1.keep K1 (ninS ne1 nin0)) (g := (mkF m 6 #[.val (.ref a1), .val (.ref a2), .val (.int (Int32.ofNat o)), .val (.double (FP.i2d f)), .second, .val (.int (Int32.ofNat i))] [(.ref a1), (.int (Int32.ofNat i))])) rfl rfl (hb hby d5_6)
      refine go (T36.setTop (mkF m 9 #[.val (.ref a1), .val (.ref a2), .val (.int (Int32.ofNat o)), .val (.double (FP.i2d f)), .second, .val (.int (Int32.ofNat i))] [(.ref b), (.int (Int32.ofNat i))])) _ (fun t9 k9 => st36 _ k9) ?_
      obtain ⟨cl37, Ar37, Sz37, Hv37⟩ := (own_A_keep Vb K1 (ninS neb nin0))
      have u38 : own_A Z h1 b .double ln (fun j => .double (FP.i2d (VV j))) := ⟨cl37, Ar37, Sz37, Hv37⟩
      refine go (T36.setTop (mkF m 18 #[.val (.ref a1), .val (.ref a2), .val (.int (Int32.ofNat o)), .val (.double (FP.i2d f)), .second, .val (.int (Int32.ofNat i))] [(.int ((Int32.ofNat o) + (Int32.ofNat i))), (.ref a2)])) _ (fun t9 k9 => ?_) ?_
      · show Steps p.tables e below (T36.setTop (mkF m 9 #[.val (.ref a1), .val (.ref a2), .val (.int (Int32.ofNat o)), .val (.double (FP.i2d f)), .second, .val (.int (Int32.ofNat i))] [(.ref b), (.int (Int32.ofNat i))])) _
        refine X36.arraylength hx (by rw [e36]; exact Ar37.1) (State.isArrayOf_alike hZ.alike Ar37.2.1) (g := (mkF m 9 #[.val (.ref a1), .val (.ref a2), .val (.int (Int32.ofNat o)), .val (.double (FP.i2d f)), .second, .val (.int (Int32.ofNat i))] [(.ref b), (.int (Int32.ofNat i))])) rfl (rest := [(.int (Int32.ofNat i))]) rfl (hb hby d5_9) _ ?_
        rw [len_of (z := (Int32.ofNat ln)) (Sz37.trans (own_n32 (by omega : ln ≤ 100)).symm) (own_nn (by omega))]
        show Steps p.tables e below (T36.setTop (mkF m 10 #[.val (.ref a1), .val (.ref a2), .val (.int (Int32.ofNat o)), .val (.double (FP.i2d f)), .second, .val (.int (Int32.ofNat i))] [(.int (Int32.ofNat ln)), (.int (Int32.ofNat i))])) _
        refine XS.icmpNo X36.here hx rfl (hb hby d5_10) rfl (tlt (XT.lt32 (by omega) (by omega) : Int32.ofNat i < Int32.ofNat ln)).2.1 ?_
        show Steps p.tables e below (T36.setTop (mkF m 13 #[.val (.ref a1), .val (.ref a2), .val (.int (Int32.ofNat o)), .val (.double (FP.i2d f)), .second, .val (.int (Int32.ofNat i))] [])) _
        refine XS.aloadN X36.here hx rfl (hb hby d5_13) rfl rfl ?_
        show Steps p.tables e below (T36.setTop (mkF m 14 #[.val (.ref a1), .val (.ref a2), .val (.int (Int32.ofNat o)), .val (.double (FP.i2d f)), .second, .val (.int (Int32.ofNat i))] [(.ref a2)])) _
        refine XS.iloadN X36.here hx rfl (hb hby d5_14) rfl ?_
        show Steps p.tables e below (T36.setTop (mkF m 15 #[.val (.ref a1), .val (.ref a2), .val (.int (Int32.ofNat o)), .val (.double (FP.i2d f)), .second, .val (.int (Int32.ofNat i))] [(.int (Int32.ofNat o)), (.ref a2)])) _
        refine XS.iload X36.here hx rfl (hb hby d5_15) rfl ?_
        show Steps p.tables e below (T36.setTop (mkF m 17 #[.val (.ref a1), .val (.ref a2), .val (.int (Int32.ofNat o)), .val (.double (FP.i2d f)), .second, .val (.int (Int32.ofNat i))] [(.int (Int32.ofNat i)), (.int (Int32.ofNat o)), (.ref a2)])) _
        refine XS.iadd X36.here hx rfl (hb hby d5_17) rfl ?_
        exact k9
      rw [XT.add32n]
      have hoi : (Int32.ofNat (o + i)).toNatClampNeg = o + i := own_n32 (by omega)
      have hoi8 : (Int32.ofNat (o + i)).toNatClampNeg < 8 := by rw [hoi]; omega
      refine go (T36.setTop (mkF m 19 #[.val (.ref a1), .val (.ref a2), .val (.int (Int32.ofNat o)), .val (.double (FP.i2d f)), .second, .val (.int (Int32.ofNat i))] [(.int (Int32.ofNat (o + i))), (.ref a2), (.int (Int32.ofNat (o + i))), (.ref a2)])) _ (fun t9 k9 => ?_) ?_
      · show Steps p.tables e below (T36.setTop (mkF m 18 #[.val (.ref a1), .val (.ref a2), .val (.int (Int32.ofNat o)), .val (.double (FP.i2d f)), .second, .val (.int (Int32.ofNat i))] [(.int (Int32.ofNat (o + i))), (.ref a2)])) _
        refine XT.dup2 X36.here hx rfl (hb hby d5_18) rfl rfl rfl ?_
        exact k9
      obtain ⟨cl39, Ar39, Sz39, Hv39⟩ := V1
      have u40 : own_A Z h1 a2 .double 8 (fun j => .double (own_tab BF VV f o i j)) := ⟨cl39, Ar39, Sz39, Hv39⟩
      refine go (T36.setTop (mkF m 22 #[.val (.ref a1), .val (.ref a2), .val (.int (Int32.ofNat o)), .val (.double (FP.i2d f)), .second, .val (.int (Int32.ofNat i))] [(.ref a1), (.double (FP.i2d f)), (.double (FP.i2d (BF (o + i)))), (.int (Int32.ofNat (o + i))), (.ref a2)])) _ (fun t9 k9 => ?_) ?_
      · show Steps p.tables e below (T36.setTop (mkF m 19 #[.val (.ref a1), .val (.ref a2), .val (.int (Int32.ofNat o)), .val (.double (FP.i2d f)), .second, .val (.int (Int32.ofNat i))] [(.int (Int32.ofNat (o + i))), (.ref a2), (.int (Int32.ofNat (o + i))), (.ref a2)])) _
        refine X36.daload hx (j := (Int32.ofNat (o + i))) (v := (.double (FP.i2d (BF (o + i))))) (by rw [e36]; exact Ar39.1) (State.isArrayOf_alike hZ.alike Ar39.2.1) Ar39.2.2 (own_hin Sz39 (own_nn (by omega)) hoi8) ((Hv39 _ hoi8).trans (congrArg some ((congrArg (fun j => Value.double (own_tab BF VV f o i j)) hoi).trans (congrArg Value.double (own_tab_at BF VV f o i))))) (g := (mkF m 19 #[.val (.ref a1), .val (.ref a2), .val (.int (Int32.ofNat o)), .val (.double (FP.i2d f)), .second, .val (.int (Int32.ofNat i))] [(.int (Int32.ofNat (o + i))), (.ref a2), (.int (Int32.ofNat (o + i))), (.ref a2)])) rfl rfl (hb hby d5_19) _ ?_
        show Steps p.tables e below (T36.setTop (mkF m 20 #[.val (.ref a1), .val (.ref a2), .val (.int (Int32.ofNat o)), .val (.double (FP.i2d f)), .second, .val (.int (Int32.ofNat i))] [(.double (FP.i2d (BF (o + i)))), (.int (Int32.ofNat (o + i))), (.ref a2)])) _
        refine XS.dloadN X36.here hx rfl (hb hby d5_20) rfl ?_
        show Steps p.tables e below (T36.setTop (mkF m 21 #[.val (.ref a1), .val (.ref a2), .val (.int (Int32.ofNat o)), .val (.double (FP.i2d f)), .second, .val (.int (Int32.ofNat i))] [(.double (FP.i2d f)), (.double (FP.i2d (BF (o + i)))), (.int (Int32.ofNat (o + i))), (.ref a2)])) _
        refine XS.aloadN X36.here hx rfl (hb hby d5_21) rfl rfl ?_
        exact k9
      obtain ⟨T41, X41, e41, st41⟩ := getF X36 hx hZ hown (host := "") (Or.inl (hw _ (List.mem_of_getElem? (i := 13) rfl))) Via.refl e36 (F1.keep K1 (ninS ne1 nin0)) (g := (mkF m 22 #[.val (.ref a1), .val (.ref a2), .val (.int (Int32.ofNat o)), .val (.double (FP.i2d f)), .second, .val (.int (Int32.ofNat i))] [(.ref a1), (.double (FP.i2d f)), (.double (FP.i2d (BF (o + i)))), (.int (Int32.ofNat (o + i))), (.ref a2)])) rfl rfl (hb hby d5_22)
      refine go (T41.setTop (mkF m 25 #[.val (.ref a1), .val (.ref a2), .val (.int (Int32.ofNat o)), .val (.double (FP.i2d f)), .second, .val (.int (Int32.ofNat i))] [(.ref b), (.double (FP.i2d f)), (.double (FP.i2d (BF (o + i)))), (.int (Int32.ofNat (o + i))), (.ref a2)])) _ (fun t9 k9 => st41 _ k9) ?_
      refine go (T41.setTop (mkF m 27 #[.val (.ref a1), .val (.ref a2), .val (.int (Int32.ofNat o)), .val (.double (FP.i2d f)), .second, .val (.int (Int32.ofNat i))] [(.int (Int32.ofNat i)), (.ref b), (.double (FP.i2d f)), (.double (FP.i2d (BF (o + i)))), (.int (Int32.ofNat (o + i))), (.ref a2)])) _ (fun t9 k9 => ?_) ?_
      · show Steps p.tables e below (T41.setTop (mkF m 25 #[.val (.ref a1), .val (.ref a2), .val (.int (Int32.ofNat o)), .val (.double (FP.i2d f)), .second, .val (.int (Int32.ofNat i))] [(.ref b), (.double (FP.i2d f)), (.double (FP.i2d (BF (o + i)))), (.int (Int32.ofNat (o + i))), (.ref a2)])) _
        refine XS.iload X41.here hx rfl (hb hby d5_25) rfl ?_
        exact k9
      obtain ⟨cl42, Ar42, Sz42, Hv42⟩ := u38
      have u43 : own_A Z h1 b .double ln (fun j => .double (FP.i2d (VV j))) := ⟨cl42, Ar42, Sz42, Hv42⟩
      refine go (T41.setTop (mkF m 30 #[.val (.ref a1), .val (.ref a2), .val (.int (Int32.ofNat o)), .val (.double (FP.i2d f)), .second, .val (.int (Int32.ofNat i))] [(.double (FP.dadd (FP.i2d (BF (o + i))) (FP.dmul (FP.i2d f) (FP.i2d (VV i))))), (.int (Int32.ofNat (o + i))), (.ref a2)])) _ (fun t9 k9 => ?_) ?_
      · show Steps p.tables e below (T41.setTop (mkF m 27 #[.val (.ref a1), .val (.ref a2), .val (.int (Int32.ofNat o)), .val (.double (FP.i2d f)), .second, .val (.int (Int32.ofNat i))] [(.int (Int32.ofNat i)), (.ref b), (.double (FP.i2d f)), (.double (FP.i2d (BF (o + i)))), (.int (Int32.ofNat (o + i))), (.ref a2)])) _
        refine X41.daload hx (j := (Int32.ofNat i)) (v := (.double (FP.i2d (VV i)))) (by rw [e41]; exact Ar42.1) (State.isArrayOf_alike hZ.alike Ar42.2.1) Ar42.2.2 (own_hin Sz42 (own_nn (by omega)) (show (Int32.ofNat i).toNatClampNeg < ln by rw [own_n32 (by omega)]; omega)) ((Hv42 _ (show (Int32.ofNat i).toNatClampNeg < ln by rw [own_n32 (by omega)]; omega)).trans (congrArg some (congrArg (fun j => Value.double (FP.i2d (VV j))) (own_n32 (by omega))))) (g := (mkF m 27 #[.val (.ref a1), .val (.ref a2), .val (.int (Int32.ofNat o)), .val (.double (FP.i2d f)), .second, .val (.int (Int32.ofNat i))] [(.int (Int32.ofNat i)), (.ref b), (.double (FP.i2d f)), (.double (FP.i2d (BF (o + i)))), (.int (Int32.ofNat (o + i))), (.ref a2)])) rfl rfl (hb hby d5_27) _ ?_
        show Steps p.tables e below (T41.setTop (mkF m 28 #[.val (.ref a1), .val (.ref a2), .val (.int (Int32.ofNat o)), .val (.double (FP.i2d f)), .second, .val (.int (Int32.ofNat i))] [(.double (FP.i2d (VV i))), (.double (FP.i2d f)), (.double (FP.i2d (BF (o + i)))), (.int (Int32.ofNat (o + i))), (.ref a2)])) _
        refine XS.dmulS X41.here hx rfl (hb hby d5_28) rfl (own_pn f (VV i)) rfl ?_
        show Steps p.tables e below (T41.setTop (mkF m 29 #[.val (.ref a1), .val (.ref a2), .val (.int (Int32.ofNat o)), .val (.double (FP.i2d f)), .second, .val (.int (Int32.ofNat i))] [(.double (FP.dmul (FP.i2d f) (FP.i2d (VV i)))), (.double (FP.i2d (BF (o + i)))), (.int (Int32.ofNat (o + i))), (.ref a2)])) _
        refine XS.daddS X41.here hx rfl (hb hby d5_29) rfl (own_sn f (VV i) (BF (o + i))) rfl ?_
        exact k9
      obtain ⟨cl44, Ar44, Sz44, Hv44⟩ := u40
      have u45 : own_A Z h1 a2 .double 8 (fun j => .double (own_tab BF VV f o i j)) := ⟨cl44, Ar44, Sz44, Hv44⟩
      obtain ⟨T46, h46, X46, e46, W46, st46⟩ := stD X41 hx hZ e41 Ar44 (j := (Int32.ofNat (o + i))) (own_hin Sz44 (own_nn (by omega)) hoi8) (g := (mkF m 30 #[.val (.ref a1), .val (.ref a2), .val (.int (Int32.ofNat o)), .val (.double (FP.i2d f)), .second, .val (.int (Int32.ofNat i))] [(.double (FP.dadd (FP.i2d (BF (o + i))) (FP.dmul (FP.i2d f) (FP.i2d (VV i))))), (.int (Int32.ofNat (o + i))), (.ref a2)])) rfl rfl (hb hby d5_30)
      have N46 := Fr.snoc X46 N1 g_a2
      refine go (T46.setTop (mkF m 31 #[.val (.ref a1), .val (.ref a2), .val (.int (Int32.ofNat o)), .val (.double (FP.i2d f)), .second, .val (.int (Int32.ofNat i))] [])) _ (fun t9 k9 => st46 _ k9) ?_
      have u47 : Fld Z h46 a1 "com/example/horizonte/horizonte/solver/AdditiveSplit$Term" "values" "[D" (.ref b) := (F1.keep K1 (ninS ne1 nin0)).other W46 (Or.inl ne1)
      have u48 : own_A Z h46 b .double ln (fun j => .double (FP.i2d (VV j))) := own_A_other u43 W46 neb
      have u49 : Keep h0 h46 [a2] := K1.wr W46 (Or.inl (List.mem_of_getElem? (i := 0) rfl))
      have u50 : own_A Z h46 a2 .double 8 (fun j => .double (own_tab BF VV f o (i + 1) j)) := own_A_congr (own_A_set Ar44 Sz44 Hv44 W46 hoi8) (fun j hj => by rw [hoi]; exact own_tab_set BF VV f o i 8 j hj)
      refine go (T46.setTop (mkF m 3 #[.val (.ref a1), .val (.ref a2), .val (.int (Int32.ofNat o)), .val (.double (FP.i2d f)), .second, .val (.int ((Int32.ofNat i) + (1 : Int32)))] [])) _ (fun t9 k9 => ?_) ?_
      · show Steps p.tables e below (T46.setTop (mkF m 31 #[.val (.ref a1), .val (.ref a2), .val (.int (Int32.ofNat o)), .val (.double (FP.i2d f)), .second, .val (.int (Int32.ofNat i))] [])) _
        refine XS.iinc X46.here hx rfl (hb hby d5_31) rfl (l' := #[.val (.ref a1), .val (.ref a2), .val (.int (Int32.ofNat o)), .val (.double (FP.i2d f)), .second, .val (.int ((Int32.ofNat i) + (1 : Int32)))]) rfl ?_
        show Steps p.tables e below (T46.setTop (mkF m 34 #[.val (.ref a1), .val (.ref a2), .val (.int (Int32.ofNat o)), .val (.double (FP.i2d f)), .second, .val (.int ((Int32.ofNat i) + (1 : Int32)))] [])) _
        refine XS.goto X46.here hx rfl (pc0 := 34) (pc' := 3) rfl (hb hby d5_34) (by decide) (by decide) ?_
        exact k9
      rw [XT.succ32]
      exact ih (i + 1) T46 _ _ X46 e46 u49 N46 u50 (by omega)
  exact loop ln 0 s₁ _ _ X0 e0 (Keep.refl h0 [a2]) N0 (own_A_congr V2 (fun j _ => congrArg Value.double (own_tab0 BF VV f o j).symm)) (by omega)
def Q6 (Z : State)  (h0 : Heap) (n0 : Nat) (v : Option Value) (h : Heap) (L : List Loc) : Prop := v = some (.int 1) ∧ Fr n0 L ∧ h = h0
set_option maxRecDepth 65536 in
set_option maxHeartbeats 40000000 in
theorem rm6 (l : Launch) (Z : State) (a0 : Array Value) (hw : ∀ d ∈ tables_1, d.before a0 Z = true) (ws : List Jvm.Cond) (a1 : Addr) (a2 : Addr) (a3 : Addr) (i o ln : Nat) (f : Int32) (BF VV : Nat → Int32) (hi : i < 8) (hol : o + ln ≤ 8) (h0 : Heap) (n0 : Nat) (Z0 : n0 ≤ h0.size) (V1 : own_A Z h0 a1 .double 8 (fun j => .double (own_tab BF VV f o ln j))) (V2 : own_A Z h0 a2 .double 8 (fun j => .double (FP.i2d (BF j)))) (V3 : own_A Z h0 a3 .double ln (fun j => .double (FP.i2d (VV j)))) :
    MetFree l (⟨"com/example/horizonte/horizonte/solver/TermAddToPinLaw", "check", "([D[D[DIDI)Z"⟩ : MethodName) (head1 (Jvm.Cond.code (⟨"com/example/horizonte/horizonte/solver/TermAddToPinLaw", "check", "([D[D[DIDI)Z"⟩ : MethodName) method_3_code 12 (some .boolean) :: ws) ({ frames := 0, cells := 0, slots := 0, locals := 0 } : Room)) (fun a U => a = #[(.ref a1), (.ref a2), (.ref a3), (.int (Int32.ofNat o)), (.double (FP.i2d f)), (.int (Int32.ofNat i))] ∧ Z.Warmed39 U.vm ∧ U.heap = h0) (fun _ _ _ _ _ => True) (fun _ U ou U' => ∃ v L, ou = .returned v ∧ Q6 Z  h0 n0 v U'.heap L ∧ FrameEnd U ou U' L ({ frames := 0, cells := 0, slots := 0, locals := 0 } : Room).cells ({ frames := 0, cells := 0, slots := 0, locals := 0 } : Room).slots) := by
  refine MetFree.of_bodySF (plainFor_of_name pn_com_example_horizonte_horizonte_solver_TermAddToPinLaw) hisR ?_
  intro p e s m args below meth c s₁ Bd hml0 hP hK
  obtain ⟨rfl, hZ, hh⟩ := hP
  have hlk : meth.locks = false := by first | exact BodyLoose.notSynchronized Bd | exact Body.notSynchronized Bd
  have hx := Bd.exec
  have hby := Bd.bytes
  have hml : c.maxLocals = 12 := hml0
  have hown : s.vm.findClass "com/example/horizonte/horizonte/solver/TermAddToPinLaw" = some m.cls := findClass_of_methodNamed Bd.named
  have hnm := (name_of_methodNamed Bd.named Bd.method).1
  have X0 : Stand p l e ({ frames := 0, cells := 0, slots := 0, locals := 0 } : Room) s m #[(.ref a1), (.ref a2), (.ref a3), (.int (Int32.ofNat o)), (.double (FP.i2d f)), (.int (Int32.ofNat i))] below meth c s₁ [] 0 0 := Stand.of_body Bd
  have e0 : s₁.heap = h0 := by rw [← hh, Bd.state]; rfl
  have N0 := Fr.nil n0
  refine own_open (fun G go fin => ?_)
  refine go (s₁.setTop (mkF m 0 #[.val (.ref a1), .val (.ref a2), .val (.ref a3), .val (.int (Int32.ofNat o)), .val (.double (FP.i2d f)), .second, .val (.int (Int32.ofNat i)), .unset, .unset, .unset, .unset, .unset] [])) _ (fun t9 k9 => castTop (ef_6 m a1 a2 a3 (Int32.ofNat o) (FP.i2d f) (Int32.ofNat i)) k9) ?_
  have hii : (Int32.ofNat i).toNatClampNeg = i := own_n32 (by omega)
  have hi8 : (Int32.ofNat i).toNatClampNeg < 8 := by rw [hii]; exact hi
  refine go (s₁.setTop (mkF m 8 #[.val (.ref a1), .val (.ref a2), .val (.ref a3), .val (.int (Int32.ofNat o)), .val (.double (FP.i2d f)), .second, .val (.int (Int32.ofNat i)), .val (.int ((Int32.ofNat i) - (Int32.ofNat o))), .unset, .unset, .unset, .unset] [(.int ((Int32.ofNat i) - (Int32.ofNat o)))])) _ (fun t9 k9 => ?_) ?_
  · show Steps p.tables e below (s₁.setTop (mkF m 0 #[.val (.ref a1), .val (.ref a2), .val (.ref a3), .val (.int (Int32.ofNat o)), .val (.double (FP.i2d f)), .second, .val (.int (Int32.ofNat i)), .unset, .unset, .unset, .unset, .unset] [])) _
    refine XS.iload X0.here hx rfl (hb hby d6_0) rfl ?_
    show Steps p.tables e below (s₁.setTop (mkF m 2 #[.val (.ref a1), .val (.ref a2), .val (.ref a3), .val (.int (Int32.ofNat o)), .val (.double (FP.i2d f)), .second, .val (.int (Int32.ofNat i)), .unset, .unset, .unset, .unset, .unset] [(.int (Int32.ofNat i))])) _
    refine XS.iloadN X0.here hx rfl (hb hby d6_2) rfl ?_
    show Steps p.tables e below (s₁.setTop (mkF m 3 #[.val (.ref a1), .val (.ref a2), .val (.ref a3), .val (.int (Int32.ofNat o)), .val (.double (FP.i2d f)), .second, .val (.int (Int32.ofNat i)), .unset, .unset, .unset, .unset, .unset] [(.int (Int32.ofNat o)), (.int (Int32.ofNat i))])) _
    refine XS.isub X0.here hx rfl (hb hby d6_3) rfl ?_
    show Steps p.tables e below (s₁.setTop (mkF m 4 #[.val (.ref a1), .val (.ref a2), .val (.ref a3), .val (.int (Int32.ofNat o)), .val (.double (FP.i2d f)), .second, .val (.int (Int32.ofNat i)), .unset, .unset, .unset, .unset, .unset] [(.int ((Int32.ofNat i) - (Int32.ofNat o)))])) _
    refine XS.istore X0.here hx rfl (hb hby d6_4) rfl (l' := #[.val (.ref a1), .val (.ref a2), .val (.ref a3), .val (.int (Int32.ofNat o)), .val (.double (FP.i2d f)), .second, .val (.int (Int32.ofNat i)), .val (.int ((Int32.ofNat i) - (Int32.ofNat o))), .unset, .unset, .unset, .unset]) rfl ?_
    show Steps p.tables e below (s₁.setTop (mkF m 6 #[.val (.ref a1), .val (.ref a2), .val (.ref a3), .val (.int (Int32.ofNat o)), .val (.double (FP.i2d f)), .second, .val (.int (Int32.ofNat i)), .val (.int ((Int32.ofNat i) - (Int32.ofNat o))), .unset, .unset, .unset, .unset] [])) _
    refine XS.iload X0.here hx rfl (hb hby d6_6) rfl ?_
    exact k9
  by_cases hio : i < o
  · refine go (s₁.setTop (mkF m 55 #[.val (.ref a1), .val (.ref a2), .val (.ref a3), .val (.int (Int32.ofNat o)), .val (.double (FP.i2d f)), .second, .val (.int (Int32.ofNat i)), .val (.int ((Int32.ofNat i) - (Int32.ofNat o))), .unset, .unset, .unset, .unset] [(.int (Int32.ofNat i)), (.ref a1)])) _ (fun t9 k9 => ?_) ?_
    · show Steps p.tables e below (s₁.setTop (mkF m 8 #[.val (.ref a1), .val (.ref a2), .val (.ref a3), .val (.int (Int32.ofNat o)), .val (.double (FP.i2d f)), .second, .val (.int (Int32.ofNat i)), .val (.int ((Int32.ofNat i) - (Int32.ofNat o))), .unset, .unset, .unset, .unset] [(.int ((Int32.ofNat i) - (Int32.ofNat o)))])) _
      refine XS.ifYes X0.here hx rfl (pc0 := 8) (pc' := 52) rfl (hb hby d6_8) rfl ((if0 _ _).trans (tlt (own_subneg hio (by omega))).1) (by decide) (by decide) ?_
      show Steps p.tables e below (s₁.setTop (mkF m 52 #[.val (.ref a1), .val (.ref a2), .val (.ref a3), .val (.int (Int32.ofNat o)), .val (.double (FP.i2d f)), .second, .val (.int (Int32.ofNat i)), .val (.int ((Int32.ofNat i) - (Int32.ofNat o))), .unset, .unset, .unset, .unset] [])) _
      refine XS.aloadN X0.here hx rfl (hb hby d6_52) rfl rfl ?_
      show Steps p.tables e below (s₁.setTop (mkF m 53 #[.val (.ref a1), .val (.ref a2), .val (.ref a3), .val (.int (Int32.ofNat o)), .val (.double (FP.i2d f)), .second, .val (.int (Int32.ofNat i)), .val (.int ((Int32.ofNat i) - (Int32.ofNat o))), .unset, .unset, .unset, .unset] [(.ref a1)])) _
      refine XS.iload X0.here hx rfl (hb hby d6_53) rfl ?_
      exact k9
    obtain ⟨cl51, Ar51, Sz51, Hv51⟩ := V1
    have u52 : own_A Z h0 a1 .double 8 (fun j => .double (own_tab BF VV f o ln j)) := ⟨cl51, Ar51, Sz51, Hv51⟩
    refine go (s₁.setTop (mkF m 59 #[.val (.ref a1), .val (.ref a2), .val (.ref a3), .val (.int (Int32.ofNat o)), .val (.double (FP.i2d f)), .second, .val (.int (Int32.ofNat i)), .val (.int ((Int32.ofNat i) - (Int32.ofNat o))), .unset, .unset, .unset, .unset] [(.int (Int32.ofNat i)), (.ref a2), (.double (own_tab BF VV f o ln i))])) _ (fun t9 k9 => ?_) ?_
    · show Steps p.tables e below (s₁.setTop (mkF m 55 #[.val (.ref a1), .val (.ref a2), .val (.ref a3), .val (.int (Int32.ofNat o)), .val (.double (FP.i2d f)), .second, .val (.int (Int32.ofNat i)), .val (.int ((Int32.ofNat i) - (Int32.ofNat o))), .unset, .unset, .unset, .unset] [(.int (Int32.ofNat i)), (.ref a1)])) _
      refine X0.daload hx (j := (Int32.ofNat i)) (v := (.double (own_tab BF VV f o ln i))) (by rw [e0]; exact Ar51.1) (State.isArrayOf_alike hZ.alike Ar51.2.1) Ar51.2.2 (own_hin Sz51 (own_nn (by omega)) hi8) ((Hv51 _ hi8).trans (congrArg some (congrArg (fun j => Value.double (own_tab BF VV f o ln j)) hii))) (g := (mkF m 55 #[.val (.ref a1), .val (.ref a2), .val (.ref a3), .val (.int (Int32.ofNat o)), .val (.double (FP.i2d f)), .second, .val (.int (Int32.ofNat i)), .val (.int ((Int32.ofNat i) - (Int32.ofNat o))), .unset, .unset, .unset, .unset] [(.int (Int32.ofNat i)), (.ref a1)])) rfl rfl (hb hby d6_55) _ ?_
      show Steps p.tables e below (s₁.setTop (mkF m 56 #[.val (.ref a1), .val (.ref a2), .val (.ref a3), .val (.int (Int32.ofNat o)), .val (.double (FP.i2d f)), .second, .val (.int (Int32.ofNat i)), .val (.int ((Int32.ofNat i) - (Int32.ofNat o))), .unset, .unset, .unset, .unset] [(.double (own_tab BF VV f o ln i))])) _
      refine XS.aloadN X0.here hx rfl (hb hby d6_56) rfl rfl ?_
      show Steps p.tables e below (s₁.setTop (mkF m 57 #[.val (.ref a1), .val (.ref a2), .val (.ref a3), .val (.int (Int32.ofNat o)), .val (.double (FP.i2d f)), .second, .val (.int (Int32.ofNat i)), .val (.int ((Int32.ofNat i) - (Int32.ofNat o))), .unset, .unset, .unset, .unset] [(.ref a2), (.double (own_tab BF VV f o ln i))])) _
      refine XS.iload X0.here hx rfl (hb hby d6_57) rfl ?_
      exact k9
    obtain ⟨cl53, Ar53, Sz53, Hv53⟩ := V2
    have u54 : own_A Z h0 a2 .double 8 (fun j => .double (FP.i2d (BF j))) := ⟨cl53, Ar53, Sz53, Hv53⟩
    refine go (s₁.setTop (mkF m 60 #[.val (.ref a1), .val (.ref a2), .val (.ref a3), .val (.int (Int32.ofNat o)), .val (.double (FP.i2d f)), .second, .val (.int (Int32.ofNat i)), .val (.int ((Int32.ofNat i) - (Int32.ofNat o))), .unset, .unset, .unset, .unset] [(.double (FP.i2d (BF i))), (.double (own_tab BF VV f o ln i))])) _ (fun t9 k9 => ?_) ?_
    · show Steps p.tables e below (s₁.setTop (mkF m 59 #[.val (.ref a1), .val (.ref a2), .val (.ref a3), .val (.int (Int32.ofNat o)), .val (.double (FP.i2d f)), .second, .val (.int (Int32.ofNat i)), .val (.int ((Int32.ofNat i) - (Int32.ofNat o))), .unset, .unset, .unset, .unset] [(.int (Int32.ofNat i)), (.ref a2), (.double (own_tab BF VV f o ln i))])) _
      refine X0.daload hx (j := (Int32.ofNat i)) (v := (.double (FP.i2d (BF i)))) (by rw [e0]; exact Ar53.1) (State.isArrayOf_alike hZ.alike Ar53.2.1) Ar53.2.2 (own_hin Sz53 (own_nn (by omega)) hi8) ((Hv53 _ hi8).trans (congrArg some (congrArg (fun j => Value.double (FP.i2d (BF j))) hii))) (g := (mkF m 59 #[.val (.ref a1), .val (.ref a2), .val (.ref a3), .val (.int (Int32.ofNat o)), .val (.double (FP.i2d f)), .second, .val (.int (Int32.ofNat i)), .val (.int ((Int32.ofNat i) - (Int32.ofNat o))), .unset, .unset, .unset, .unset] [(.int (Int32.ofNat i)), (.ref a2), (.double (own_tab BF VV f o ln i))])) rfl rfl (hb hby d6_59) _ ?_
      exact k9
    have hge : (own_tab BF VV f o ln i) = FP.i2d (BF i) := own_tab_out (by omega)
    refine go (s₁.setTop (mkF m 69 #[.val (.ref a1), .val (.ref a2), .val (.ref a3), .val (.int (Int32.ofNat o)), .val (.double (FP.i2d f)), .second, .val (.int (Int32.ofNat i)), .val (.int ((Int32.ofNat i) - (Int32.ofNat o))), .unset, .unset, .unset, .unset] [(.int (1 : Int32))])) _ (fun t9 k9 => ?_) ?_
    · show Steps p.tables e below (s₁.setTop (mkF m 60 #[.val (.ref a1), .val (.ref a2), .val (.ref a3), .val (.int (Int32.ofNat o)), .val (.double (FP.i2d f)), .second, .val (.int (Int32.ofNat i)), .val (.int ((Int32.ofNat i) - (Int32.ofNat o))), .unset, .unset, .unset, .unset] [(.double (FP.i2d (BF i))), (.double (own_tab BF VV f o ln i))])) _
      refine XS.dcmpS X0.here hx rfl (hb hby d6_60) rfl (dcmpV_eq hge (own_tabn BF VV f o ln i) .l) ?_
      show Steps p.tables e below (s₁.setTop (mkF m 61 #[.val (.ref a1), .val (.ref a2), .val (.ref a3), .val (.int (Int32.ofNat o)), .val (.double (FP.i2d f)), .second, .val (.int (Int32.ofNat i)), .val (.int ((Int32.ofNat i) - (Int32.ofNat o))), .unset, .unset, .unset, .unset] [(.int (0 : Int32))])) _
      refine XS.ifNo X0.here hx rfl (hb hby d6_61) rfl ((if0 _ _).trans (teq (rfl : (0 : Int32) = (0 : Int32))).2) ?_
      show Steps p.tables e below (s₁.setTop (mkF m 64 #[.val (.ref a1), .val (.ref a2), .val (.ref a3), .val (.int (Int32.ofNat o)), .val (.double (FP.i2d f)), .second, .val (.int (Int32.ofNat i)), .val (.int ((Int32.ofNat i) - (Int32.ofNat o))), .unset, .unset, .unset, .unset] [])) _
      refine XS.iconst X0.here hx rfl (hb hby d6_64) ?_
      show Steps p.tables e below (s₁.setTop (mkF m 65 #[.val (.ref a1), .val (.ref a2), .val (.ref a3), .val (.int (Int32.ofNat o)), .val (.double (FP.i2d f)), .second, .val (.int (Int32.ofNat i)), .val (.int ((Int32.ofNat i) - (Int32.ofNat o))), .unset, .unset, .unset, .unset] [(.int (1 : Int32))])) _
      refine XS.goto X0.here hx rfl (pc0 := 65) (pc' := 69) rfl (hb hby d6_65) (by decide) (by decide) ?_
      exact k9
    obtain ⟨fs, hr, hrun, hended, hW, hsame⟩ := X0.leave (v := some (.int (1 : Int32))) (fun h => by rw [Bd.returns] at h; cases h) hlk
    refine fin _ ⟨_, _, retN X0 hx (t := .boolean) Bd.returns (by simp) (hb hby d6_69) hr, hrun, hended, _, _, rfl, ?_, ⟨_, rfl⟩, hW, hsame.mono (by decide) (by decide)⟩
    show Q6 Z h0 n0 _ s₁.heap _
    rw [e0]
    exact ⟨rfl, N0, rfl⟩
  · rw [XT.sub32n (by omega : o ≤ i)]
    refine go (s₁.setTop (mkF m 14 #[.val (.ref a1), .val (.ref a2), .val (.ref a3), .val (.int (Int32.ofNat o)), .val (.double (FP.i2d f)), .second, .val (.int (Int32.ofNat i)), .val (.int (Int32.ofNat (i - o))), .unset, .unset, .unset, .unset] [(.ref a3), (.int (Int32.ofNat (i - o)))])) _ (fun t9 k9 => ?_) ?_
    · show Steps p.tables e below (s₁.setTop (mkF m 8 #[.val (.ref a1), .val (.ref a2), .val (.ref a3), .val (.int (Int32.ofNat o)), .val (.double (FP.i2d f)), .second, .val (.int (Int32.ofNat i)), .val (.int (Int32.ofNat (i - o))), .unset, .unset, .unset, .unset] [(.int (Int32.ofNat (i - o)))])) _
      refine XS.ifNo X0.here hx rfl (hb hby d6_8) rfl ((if0 _ _).trans (flt (own_nn (by omega) : ¬ Int32.ofNat (i - o) < 0)).1) ?_
      show Steps p.tables e below (s₁.setTop (mkF m 11 #[.val (.ref a1), .val (.ref a2), .val (.ref a3), .val (.int (Int32.ofNat o)), .val (.double (FP.i2d f)), .second, .val (.int (Int32.ofNat i)), .val (.int (Int32.ofNat (i - o))), .unset, .unset, .unset, .unset] [])) _
      refine XS.iload X0.here hx rfl (hb hby d6_11) rfl ?_
      show Steps p.tables e below (s₁.setTop (mkF m 13 #[.val (.ref a1), .val (.ref a2), .val (.ref a3), .val (.int (Int32.ofNat o)), .val (.double (FP.i2d f)), .second, .val (.int (Int32.ofNat i)), .val (.int (Int32.ofNat (i - o))), .unset, .unset, .unset, .unset] [(.int (Int32.ofNat (i - o)))])) _
      refine XS.aloadN X0.here hx rfl (hb hby d6_13) rfl rfl ?_
      exact k9
    obtain ⟨cl55, Ar55, Sz55, Hv55⟩ := V3
    have u56 : own_A Z h0 a3 .double ln (fun j => .double (FP.i2d (VV j))) := ⟨cl55, Ar55, Sz55, Hv55⟩
    refine go (s₁.setTop (mkF m 15 #[.val (.ref a1), .val (.ref a2), .val (.ref a3), .val (.int (Int32.ofNat o)), .val (.double (FP.i2d f)), .second, .val (.int (Int32.ofNat i)), .val (.int (Int32.ofNat (i - o))), .unset, .unset, .unset, .unset] [(.int (Int32.ofNat ln)), (.int (Int32.ofNat (i - o)))])) _ (fun t9 k9 => ?_) ?_
    · show Steps p.tables e below (s₁.setTop (mkF m 14 #[.val (.ref a1), .val (.ref a2), .val (.ref a3), .val (.int (Int32.ofNat o)), .val (.double (FP.i2d f)), .second, .val (.int (Int32.ofNat i)), .val (.int (Int32.ofNat (i - o))), .unset, .unset, .unset, .unset] [(.ref a3), (.int (Int32.ofNat (i - o)))])) _
      refine X0.arraylength hx (by rw [e0]; exact Ar55.1) (State.isArrayOf_alike hZ.alike Ar55.2.1) (g := (mkF m 14 #[.val (.ref a1), .val (.ref a2), .val (.ref a3), .val (.int (Int32.ofNat o)), .val (.double (FP.i2d f)), .second, .val (.int (Int32.ofNat i)), .val (.int (Int32.ofNat (i - o))), .unset, .unset, .unset, .unset] [(.ref a3), (.int (Int32.ofNat (i - o)))])) rfl (rest := [(.int (Int32.ofNat (i - o)))]) rfl (hb hby d6_14) _ ?_
      rw [len_of (z := (Int32.ofNat ln)) (Sz55.trans (own_n32 (by omega : ln ≤ 100)).symm) (own_nn (by omega))]
      exact k9
    by_cases hil : i - o < ln
    · refine go (s₁.setTop (mkF m 23 #[.val (.ref a1), .val (.ref a2), .val (.ref a3), .val (.int (Int32.ofNat o)), .val (.double (FP.i2d f)), .second, .val (.int (Int32.ofNat i)), .val (.int (Int32.ofNat (i - o))), .unset, .unset, .unset, .unset] [(.int (Int32.ofNat (i - o))), (.ref a3), (.double (FP.i2d f))])) _ (fun t9 k9 => ?_) ?_
      · show Steps p.tables e below (s₁.setTop (mkF m 15 #[.val (.ref a1), .val (.ref a2), .val (.ref a3), .val (.int (Int32.ofNat o)), .val (.double (FP.i2d f)), .second, .val (.int (Int32.ofNat i)), .val (.int (Int32.ofNat (i - o))), .unset, .unset, .unset, .unset] [(.int (Int32.ofNat ln)), (.int (Int32.ofNat (i - o)))])) _
        refine XS.icmpNo X0.here hx rfl (hb hby d6_15) rfl (tlt (XT.lt32 (by omega) hil : Int32.ofNat (i - o) < Int32.ofNat ln)).2.1 ?_
        show Steps p.tables e below (s₁.setTop (mkF m 18 #[.val (.ref a1), .val (.ref a2), .val (.ref a3), .val (.int (Int32.ofNat o)), .val (.double (FP.i2d f)), .second, .val (.int (Int32.ofNat i)), .val (.int (Int32.ofNat (i - o))), .unset, .unset, .unset, .unset] [])) _
        refine XS.dload X0.here hx rfl (hb hby d6_18) rfl ?_
        show Steps p.tables e below (s₁.setTop (mkF m 20 #[.val (.ref a1), .val (.ref a2), .val (.ref a3), .val (.int (Int32.ofNat o)), .val (.double (FP.i2d f)), .second, .val (.int (Int32.ofNat i)), .val (.int (Int32.ofNat (i - o))), .unset, .unset, .unset, .unset] [(.double (FP.i2d f))])) _
        refine XS.aloadN X0.here hx rfl (hb hby d6_20) rfl rfl ?_
        show Steps p.tables e below (s₁.setTop (mkF m 21 #[.val (.ref a1), .val (.ref a2), .val (.ref a3), .val (.int (Int32.ofNat o)), .val (.double (FP.i2d f)), .second, .val (.int (Int32.ofNat i)), .val (.int (Int32.ofNat (i - o))), .unset, .unset, .unset, .unset] [(.ref a3), (.double (FP.i2d f))])) _
        refine XS.iload X0.here hx rfl (hb hby d6_21) rfl ?_
        exact k9
      obtain ⟨cl57, Ar57, Sz57, Hv57⟩ := u56
      have u58 : own_A Z h0 a3 .double ln (fun j => .double (FP.i2d (VV j))) := ⟨cl57, Ar57, Sz57, Hv57⟩
      refine go (s₁.setTop (mkF m 30 #[.val (.ref a1), .val (.ref a2), .val (.ref a3), .val (.int (Int32.ofNat o)), .val (.double (FP.i2d f)), .second, .val (.int (Int32.ofNat i)), .val (.int (Int32.ofNat (i - o))), .val (.double (FP.dmul (FP.i2d f) (FP.i2d (VV (i - o))))), .second, .unset, .unset] [(.int (Int32.ofNat i)), (.ref a2)])) _ (fun t9 k9 => ?_) ?_
      · show Steps p.tables e below (s₁.setTop (mkF m 23 #[.val (.ref a1), .val (.ref a2), .val (.ref a3), .val (.int (Int32.ofNat o)), .val (.double (FP.i2d f)), .second, .val (.int (Int32.ofNat i)), .val (.int (Int32.ofNat (i - o))), .unset, .unset, .unset, .unset] [(.int (Int32.ofNat (i - o))), (.ref a3), (.double (FP.i2d f))])) _
        refine X0.daload hx (j := (Int32.ofNat (i - o))) (v := (.double (FP.i2d (VV (i - o))))) (by rw [e0]; exact Ar57.1) (State.isArrayOf_alike hZ.alike Ar57.2.1) Ar57.2.2 (own_hin Sz57 (own_nn (by omega)) (show (Int32.ofNat (i - o)).toNatClampNeg < ln by rw [own_n32 (by omega)]; exact hil)) ((Hv57 _ (show (Int32.ofNat (i - o)).toNatClampNeg < ln by rw [own_n32 (by omega)]; exact hil)).trans (congrArg some (congrArg (fun j => Value.double (FP.i2d (VV j))) (own_n32 (by omega))))) (g := (mkF m 23 #[.val (.ref a1), .val (.ref a2), .val (.ref a3), .val (.int (Int32.ofNat o)), .val (.double (FP.i2d f)), .second, .val (.int (Int32.ofNat i)), .val (.int (Int32.ofNat (i - o))), .unset, .unset, .unset, .unset] [(.int (Int32.ofNat (i - o))), (.ref a3), (.double (FP.i2d f))])) rfl rfl (hb hby d6_23) _ ?_
        show Steps p.tables e below (s₁.setTop (mkF m 24 #[.val (.ref a1), .val (.ref a2), .val (.ref a3), .val (.int (Int32.ofNat o)), .val (.double (FP.i2d f)), .second, .val (.int (Int32.ofNat i)), .val (.int (Int32.ofNat (i - o))), .unset, .unset, .unset, .unset] [(.double (FP.i2d (VV (i - o)))), (.double (FP.i2d f))])) _
        refine XS.dmulS X0.here hx rfl (hb hby d6_24) rfl (own_pn f (VV (i - o))) rfl ?_
        show Steps p.tables e below (s₁.setTop (mkF m 25 #[.val (.ref a1), .val (.ref a2), .val (.ref a3), .val (.int (Int32.ofNat o)), .val (.double (FP.i2d f)), .second, .val (.int (Int32.ofNat i)), .val (.int (Int32.ofNat (i - o))), .unset, .unset, .unset, .unset] [(.double (FP.dmul (FP.i2d f) (FP.i2d (VV (i - o)))))])) _
        refine XS.dstore X0.here hx rfl (hb hby d6_25) rfl (l' := #[.val (.ref a1), .val (.ref a2), .val (.ref a3), .val (.int (Int32.ofNat o)), .val (.double (FP.i2d f)), .second, .val (.int (Int32.ofNat i)), .val (.int (Int32.ofNat (i - o))), .val (.double (FP.dmul (FP.i2d f) (FP.i2d (VV (i - o))))), .second, .unset, .unset]) rfl ?_
        show Steps p.tables e below (s₁.setTop (mkF m 27 #[.val (.ref a1), .val (.ref a2), .val (.ref a3), .val (.int (Int32.ofNat o)), .val (.double (FP.i2d f)), .second, .val (.int (Int32.ofNat i)), .val (.int (Int32.ofNat (i - o))), .val (.double (FP.dmul (FP.i2d f) (FP.i2d (VV (i - o))))), .second, .unset, .unset] [])) _
        refine XS.aloadN X0.here hx rfl (hb hby d6_27) rfl rfl ?_
        show Steps p.tables e below (s₁.setTop (mkF m 28 #[.val (.ref a1), .val (.ref a2), .val (.ref a3), .val (.int (Int32.ofNat o)), .val (.double (FP.i2d f)), .second, .val (.int (Int32.ofNat i)), .val (.int (Int32.ofNat (i - o))), .val (.double (FP.dmul (FP.i2d f) (FP.i2d (VV (i - o))))), .second, .unset, .unset] [(.ref a2)])) _
        refine XS.iload X0.here hx rfl (hb hby d6_28) rfl ?_
        exact k9
      obtain ⟨cl59, Ar59, Sz59, Hv59⟩ := V2
      have u60 : own_A Z h0 a2 .double 8 (fun j => .double (FP.i2d (BF j))) := ⟨cl59, Ar59, Sz59, Hv59⟩
      refine go (s₁.setTop (mkF m 39 #[.val (.ref a1), .val (.ref a2), .val (.ref a3), .val (.int (Int32.ofNat o)), .val (.double (FP.i2d f)), .second, .val (.int (Int32.ofNat i)), .val (.int (Int32.ofNat (i - o))), .val (.double (FP.dmul (FP.i2d f) (FP.i2d (VV (i - o))))), .second, .val (.double (FP.dadd (FP.i2d (BF i)) (FP.dmul (FP.i2d f) (FP.i2d (VV (i - o)))))), .second] [(.int (Int32.ofNat i)), (.ref a1)])) _ (fun t9 k9 => ?_) ?_
      · show Steps p.tables e below (s₁.setTop (mkF m 30 #[.val (.ref a1), .val (.ref a2), .val (.ref a3), .val (.int (Int32.ofNat o)), .val (.double (FP.i2d f)), .second, .val (.int (Int32.ofNat i)), .val (.int (Int32.ofNat (i - o))), .val (.double (FP.dmul (FP.i2d f) (FP.i2d (VV (i - o))))), .second, .unset, .unset] [(.int (Int32.ofNat i)), (.ref a2)])) _
        refine X0.daload hx (j := (Int32.ofNat i)) (v := (.double (FP.i2d (BF i)))) (by rw [e0]; exact Ar59.1) (State.isArrayOf_alike hZ.alike Ar59.2.1) Ar59.2.2 (own_hin Sz59 (own_nn (by omega)) hi8) ((Hv59 _ hi8).trans (congrArg some (congrArg (fun j => Value.double (FP.i2d (BF j))) hii))) (g := (mkF m 30 #[.val (.ref a1), .val (.ref a2), .val (.ref a3), .val (.int (Int32.ofNat o)), .val (.double (FP.i2d f)), .second, .val (.int (Int32.ofNat i)), .val (.int (Int32.ofNat (i - o))), .val (.double (FP.dmul (FP.i2d f) (FP.i2d (VV (i - o))))), .second, .unset, .unset] [(.int (Int32.ofNat i)), (.ref a2)])) rfl rfl (hb hby d6_30) _ ?_
        show Steps p.tables e below (s₁.setTop (mkF m 31 #[.val (.ref a1), .val (.ref a2), .val (.ref a3), .val (.int (Int32.ofNat o)), .val (.double (FP.i2d f)), .second, .val (.int (Int32.ofNat i)), .val (.int (Int32.ofNat (i - o))), .val (.double (FP.dmul (FP.i2d f) (FP.i2d (VV (i - o))))), .second, .unset, .unset] [(.double (FP.i2d (BF i)))])) _
        refine XS.dload X0.here hx rfl (hb hby d6_31) rfl ?_
        show Steps p.tables e below (s₁.setTop (mkF m 33 #[.val (.ref a1), .val (.ref a2), .val (.ref a3), .val (.int (Int32.ofNat o)), .val (.double (FP.i2d f)), .second, .val (.int (Int32.ofNat i)), .val (.int (Int32.ofNat (i - o))), .val (.double (FP.dmul (FP.i2d f) (FP.i2d (VV (i - o))))), .second, .unset, .unset] [(.double (FP.dmul (FP.i2d f) (FP.i2d (VV (i - o))))), (.double (FP.i2d (BF i)))])) _
        refine XS.daddS X0.here hx rfl (hb hby d6_33) rfl (own_sn f (VV (i - o)) (BF i)) rfl ?_
        show Steps p.tables e below (s₁.setTop (mkF m 34 #[.val (.ref a1), .val (.ref a2), .val (.ref a3), .val (.int (Int32.ofNat o)), .val (.double (FP.i2d f)), .second, .val (.int (Int32.ofNat i)), .val (.int (Int32.ofNat (i - o))), .val (.double (FP.dmul (FP.i2d f) (FP.i2d (VV (i - o))))), .second, .unset, .unset] [(.double (FP.dadd (FP.i2d (BF i)) (FP.dmul (FP.i2d f) (FP.i2d (VV (i - o))))))])) _
        refine XS.dstore X0.here hx rfl (hb hby d6_34) rfl (l' := #[.val (.ref a1), .val (.ref a2), .val (.ref a3), .val (.int (Int32.ofNat o)), .val (.double (FP.i2d f)), .second, .val (.int (Int32.ofNat i)), .val (.int (Int32.ofNat (i - o))), .val (.double (FP.dmul (FP.i2d f) (FP.i2d (VV (i - o))))), .second, .val (.double (FP.dadd (FP.i2d (BF i)) (FP.dmul (FP.i2d f) (FP.i2d (VV (i - o)))))), .second]) rfl ?_
        show Steps p.tables e below (s₁.setTop (mkF m 36 #[.val (.ref a1), .val (.ref a2), .val (.ref a3), .val (.int (Int32.ofNat o)), .val (.double (FP.i2d f)), .second, .val (.int (Int32.ofNat i)), .val (.int (Int32.ofNat (i - o))), .val (.double (FP.dmul (FP.i2d f) (FP.i2d (VV (i - o))))), .second, .val (.double (FP.dadd (FP.i2d (BF i)) (FP.dmul (FP.i2d f) (FP.i2d (VV (i - o)))))), .second] [])) _
        refine XS.aloadN X0.here hx rfl (hb hby d6_36) rfl rfl ?_
        show Steps p.tables e below (s₁.setTop (mkF m 37 #[.val (.ref a1), .val (.ref a2), .val (.ref a3), .val (.int (Int32.ofNat o)), .val (.double (FP.i2d f)), .second, .val (.int (Int32.ofNat i)), .val (.int (Int32.ofNat (i - o))), .val (.double (FP.dmul (FP.i2d f) (FP.i2d (VV (i - o))))), .second, .val (.double (FP.dadd (FP.i2d (BF i)) (FP.dmul (FP.i2d f) (FP.i2d (VV (i - o)))))), .second] [(.ref a1)])) _
        refine XS.iload X0.here hx rfl (hb hby d6_37) rfl ?_
        exact k9
      obtain ⟨cl61, Ar61, Sz61, Hv61⟩ := V1
      have u62 : own_A Z h0 a1 .double 8 (fun j => .double (own_tab BF VV f o ln j)) := ⟨cl61, Ar61, Sz61, Hv61⟩
      refine go (s₁.setTop (mkF m 42 #[.val (.ref a1), .val (.ref a2), .val (.ref a3), .val (.int (Int32.ofNat o)), .val (.double (FP.i2d f)), .second, .val (.int (Int32.ofNat i)), .val (.int (Int32.ofNat (i - o))), .val (.double (FP.dmul (FP.i2d f) (FP.i2d (VV (i - o))))), .second, .val (.double (FP.dadd (FP.i2d (BF i)) (FP.dmul (FP.i2d f) (FP.i2d (VV (i - o)))))), .second] [(.double (FP.dadd (FP.i2d (BF i)) (FP.dmul (FP.i2d f) (FP.i2d (VV (i - o)))))), (.double (own_tab BF VV f o ln i))])) _ (fun t9 k9 => ?_) ?_
      · show Steps p.tables e below (s₁.setTop (mkF m 39 #[.val (.ref a1), .val (.ref a2), .val (.ref a3), .val (.int (Int32.ofNat o)), .val (.double (FP.i2d f)), .second, .val (.int (Int32.ofNat i)), .val (.int (Int32.ofNat (i - o))), .val (.double (FP.dmul (FP.i2d f) (FP.i2d (VV (i - o))))), .second, .val (.double (FP.dadd (FP.i2d (BF i)) (FP.dmul (FP.i2d f) (FP.i2d (VV (i - o)))))), .second] [(.int (Int32.ofNat i)), (.ref a1)])) _
        refine X0.daload hx (j := (Int32.ofNat i)) (v := (.double (own_tab BF VV f o ln i))) (by rw [e0]; exact Ar61.1) (State.isArrayOf_alike hZ.alike Ar61.2.1) Ar61.2.2 (own_hin Sz61 (own_nn (by omega)) hi8) ((Hv61 _ hi8).trans (congrArg some (congrArg (fun j => Value.double (own_tab BF VV f o ln j)) hii))) (g := (mkF m 39 #[.val (.ref a1), .val (.ref a2), .val (.ref a3), .val (.int (Int32.ofNat o)), .val (.double (FP.i2d f)), .second, .val (.int (Int32.ofNat i)), .val (.int (Int32.ofNat (i - o))), .val (.double (FP.dmul (FP.i2d f) (FP.i2d (VV (i - o))))), .second, .val (.double (FP.dadd (FP.i2d (BF i)) (FP.dmul (FP.i2d f) (FP.i2d (VV (i - o)))))), .second] [(.int (Int32.ofNat i)), (.ref a1)])) rfl rfl (hb hby d6_39) _ ?_
        show Steps p.tables e below (s₁.setTop (mkF m 40 #[.val (.ref a1), .val (.ref a2), .val (.ref a3), .val (.int (Int32.ofNat o)), .val (.double (FP.i2d f)), .second, .val (.int (Int32.ofNat i)), .val (.int (Int32.ofNat (i - o))), .val (.double (FP.dmul (FP.i2d f) (FP.i2d (VV (i - o))))), .second, .val (.double (FP.dadd (FP.i2d (BF i)) (FP.dmul (FP.i2d f) (FP.i2d (VV (i - o)))))), .second] [(.double (own_tab BF VV f o ln i))])) _
        refine XS.dload X0.here hx rfl (hb hby d6_40) rfl ?_
        exact k9
      have hge : (own_tab BF VV f o ln i) = (FP.dadd (FP.i2d (BF i)) (FP.dmul (FP.i2d f) (FP.i2d (VV (i - o))))) := own_tab_in (by omega)
      refine go (s₁.setTop (mkF m 51 #[.val (.ref a1), .val (.ref a2), .val (.ref a3), .val (.int (Int32.ofNat o)), .val (.double (FP.i2d f)), .second, .val (.int (Int32.ofNat i)), .val (.int (Int32.ofNat (i - o))), .val (.double (FP.dmul (FP.i2d f) (FP.i2d (VV (i - o))))), .second, .val (.double (FP.dadd (FP.i2d (BF i)) (FP.dmul (FP.i2d f) (FP.i2d (VV (i - o)))))), .second] [(.int (1 : Int32))])) _ (fun t9 k9 => ?_) ?_
      · show Steps p.tables e below (s₁.setTop (mkF m 42 #[.val (.ref a1), .val (.ref a2), .val (.ref a3), .val (.int (Int32.ofNat o)), .val (.double (FP.i2d f)), .second, .val (.int (Int32.ofNat i)), .val (.int (Int32.ofNat (i - o))), .val (.double (FP.dmul (FP.i2d f) (FP.i2d (VV (i - o))))), .second, .val (.double (FP.dadd (FP.i2d (BF i)) (FP.dmul (FP.i2d f) (FP.i2d (VV (i - o)))))), .second] [(.double (FP.dadd (FP.i2d (BF i)) (FP.dmul (FP.i2d f) (FP.i2d (VV (i - o)))))), (.double (own_tab BF VV f o ln i))])) _
        refine XS.dcmpS X0.here hx rfl (hb hby d6_42) rfl (dcmpV_eq hge (own_tabn BF VV f o ln i) .l) ?_
        show Steps p.tables e below (s₁.setTop (mkF m 43 #[.val (.ref a1), .val (.ref a2), .val (.ref a3), .val (.int (Int32.ofNat o)), .val (.double (FP.i2d f)), .second, .val (.int (Int32.ofNat i)), .val (.int (Int32.ofNat (i - o))), .val (.double (FP.dmul (FP.i2d f) (FP.i2d (VV (i - o))))), .second, .val (.double (FP.dadd (FP.i2d (BF i)) (FP.dmul (FP.i2d f) (FP.i2d (VV (i - o)))))), .second] [(.int (0 : Int32))])) _
        refine XS.ifNo X0.here hx rfl (hb hby d6_43) rfl ((if0 _ _).trans (teq (rfl : (0 : Int32) = (0 : Int32))).2) ?_
        show Steps p.tables e below (s₁.setTop (mkF m 46 #[.val (.ref a1), .val (.ref a2), .val (.ref a3), .val (.int (Int32.ofNat o)), .val (.double (FP.i2d f)), .second, .val (.int (Int32.ofNat i)), .val (.int (Int32.ofNat (i - o))), .val (.double (FP.dmul (FP.i2d f) (FP.i2d (VV (i - o))))), .second, .val (.double (FP.dadd (FP.i2d (BF i)) (FP.dmul (FP.i2d f) (FP.i2d (VV (i - o)))))), .second] [])) _
        refine XS.iconst X0.here hx rfl (hb hby d6_46) ?_
        show Steps p.tables e below (s₁.setTop (mkF m 47 #[.val (.ref a1), .val (.ref a2), .val (.ref a3), .val (.int (Int32.ofNat o)), .val (.double (FP.i2d f)), .second, .val (.int (Int32.ofNat i)), .val (.int (Int32.ofNat (i - o))), .val (.double (FP.dmul (FP.i2d f) (FP.i2d (VV (i - o))))), .second, .val (.double (FP.dadd (FP.i2d (BF i)) (FP.dmul (FP.i2d f) (FP.i2d (VV (i - o)))))), .second] [(.int (1 : Int32))])) _
        refine XS.goto X0.here hx rfl (pc0 := 47) (pc' := 51) rfl (hb hby d6_47) (by decide) (by decide) ?_
        exact k9
      obtain ⟨fs, hr, hrun, hended, hW, hsame⟩ := X0.leave (v := some (.int (1 : Int32))) (fun h => by rw [Bd.returns] at h; cases h) hlk
      refine fin _ ⟨_, _, retN X0 hx (t := .boolean) Bd.returns (by simp) (hb hby d6_51) hr, hrun, hended, _, _, rfl, ?_, ⟨_, rfl⟩, hW, hsame.mono (by decide) (by decide)⟩
      show Q6 Z h0 n0 _ s₁.heap _
      rw [e0]
      exact ⟨rfl, N0, rfl⟩
    · refine go (s₁.setTop (mkF m 55 #[.val (.ref a1), .val (.ref a2), .val (.ref a3), .val (.int (Int32.ofNat o)), .val (.double (FP.i2d f)), .second, .val (.int (Int32.ofNat i)), .val (.int (Int32.ofNat (i - o))), .unset, .unset, .unset, .unset] [(.int (Int32.ofNat i)), (.ref a1)])) _ (fun t9 k9 => ?_) ?_
      · show Steps p.tables e below (s₁.setTop (mkF m 15 #[.val (.ref a1), .val (.ref a2), .val (.ref a3), .val (.int (Int32.ofNat o)), .val (.double (FP.i2d f)), .second, .val (.int (Int32.ofNat i)), .val (.int (Int32.ofNat (i - o))), .unset, .unset, .unset, .unset] [(.int (Int32.ofNat ln)), (.int (Int32.ofNat (i - o)))])) _
        refine XS.icmpYes X0.here hx rfl (pc0 := 15) (pc' := 52) rfl (hb hby d6_15) rfl (flt (XT.nlt32 (by omega) (by omega) : ¬ Int32.ofNat (i - o) < Int32.ofNat ln)).2.1 (by decide) (by decide) ?_
        show Steps p.tables e below (s₁.setTop (mkF m 52 #[.val (.ref a1), .val (.ref a2), .val (.ref a3), .val (.int (Int32.ofNat o)), .val (.double (FP.i2d f)), .second, .val (.int (Int32.ofNat i)), .val (.int (Int32.ofNat (i - o))), .unset, .unset, .unset, .unset] [])) _
        refine XS.aloadN X0.here hx rfl (hb hby d6_52) rfl rfl ?_
        show Steps p.tables e below (s₁.setTop (mkF m 53 #[.val (.ref a1), .val (.ref a2), .val (.ref a3), .val (.int (Int32.ofNat o)), .val (.double (FP.i2d f)), .second, .val (.int (Int32.ofNat i)), .val (.int (Int32.ofNat (i - o))), .unset, .unset, .unset, .unset] [(.ref a1)])) _
        refine XS.iload X0.here hx rfl (hb hby d6_53) rfl ?_
        exact k9
      obtain ⟨cl63, Ar63, Sz63, Hv63⟩ := V1
      have u64 : own_A Z h0 a1 .double 8 (fun j => .double (own_tab BF VV f o ln j)) := ⟨cl63, Ar63, Sz63, Hv63⟩
      refine go (s₁.setTop (mkF m 59 #[.val (.ref a1), .val (.ref a2), .val (.ref a3), .val (.int (Int32.ofNat o)), .val (.double (FP.i2d f)), .second, .val (.int (Int32.ofNat i)), .val (.int (Int32.ofNat (i - o))), .unset, .unset, .unset, .unset] [(.int (Int32.ofNat i)), (.ref a2), (.double (own_tab BF VV f o ln i))])) _ (fun t9 k9 => ?_) ?_
      · show Steps p.tables e below (s₁.setTop (mkF m 55 #[.val (.ref a1), .val (.ref a2), .val (.ref a3), .val (.int (Int32.ofNat o)), .val (.double (FP.i2d f)), .second, .val (.int (Int32.ofNat i)), .val (.int (Int32.ofNat (i - o))), .unset, .unset, .unset, .unset] [(.int (Int32.ofNat i)), (.ref a1)])) _
        refine X0.daload hx (j := (Int32.ofNat i)) (v := (.double (own_tab BF VV f o ln i))) (by rw [e0]; exact Ar63.1) (State.isArrayOf_alike hZ.alike Ar63.2.1) Ar63.2.2 (own_hin Sz63 (own_nn (by omega)) hi8) ((Hv63 _ hi8).trans (congrArg some (congrArg (fun j => Value.double (own_tab BF VV f o ln j)) hii))) (g := (mkF m 55 #[.val (.ref a1), .val (.ref a2), .val (.ref a3), .val (.int (Int32.ofNat o)), .val (.double (FP.i2d f)), .second, .val (.int (Int32.ofNat i)), .val (.int (Int32.ofNat (i - o))), .unset, .unset, .unset, .unset] [(.int (Int32.ofNat i)), (.ref a1)])) rfl rfl (hb hby d6_55) _ ?_
        show Steps p.tables e below (s₁.setTop (mkF m 56 #[.val (.ref a1), .val (.ref a2), .val (.ref a3), .val (.int (Int32.ofNat o)), .val (.double (FP.i2d f)), .second, .val (.int (Int32.ofNat i)), .val (.int (Int32.ofNat (i - o))), .unset, .unset, .unset, .unset] [(.double (own_tab BF VV f o ln i))])) _
        refine XS.aloadN X0.here hx rfl (hb hby d6_56) rfl rfl ?_
        show Steps p.tables e below (s₁.setTop (mkF m 57 #[.val (.ref a1), .val (.ref a2), .val (.ref a3), .val (.int (Int32.ofNat o)), .val (.double (FP.i2d f)), .second, .val (.int (Int32.ofNat i)), .val (.int (Int32.ofNat (i - o))), .unset, .unset, .unset, .unset] [(.ref a2), (.double (own_tab BF VV f o ln i))])) _
        refine XS.iload X0.here hx rfl (hb hby d6_57) rfl ?_
        exact k9
      obtain ⟨cl65, Ar65, Sz65, Hv65⟩ := V2
      have u66 : own_A Z h0 a2 .double 8 (fun j => .double (FP.i2d (BF j))) := ⟨cl65, Ar65, Sz65, Hv65⟩
      refine go (s₁.setTop (mkF m 60 #[.val (.ref a1), .val (.ref a2), .val (.ref a3), .val (.int (Int32.ofNat o)), .val (.double (FP.i2d f)), .second, .val (.int (Int32.ofNat i)), .val (.int (Int32.ofNat (i - o))), .unset, .unset, .unset, .unset] [(.double (FP.i2d (BF i))), (.double (own_tab BF VV f o ln i))])) _ (fun t9 k9 => ?_) ?_
      · show Steps p.tables e below (s₁.setTop (mkF m 59 #[.val (.ref a1), .val (.ref a2), .val (.ref a3), .val (.int (Int32.ofNat o)), .val (.double (FP.i2d f)), .second, .val (.int (Int32.ofNat i)), .val (.int (Int32.ofNat (i - o))), .unset, .unset, .unset, .unset] [(.int (Int32.ofNat i)), (.ref a2), (.double (own_tab BF VV f o ln i))])) _
        refine X0.daload hx (j := (Int32.ofNat i)) (v := (.double (FP.i2d (BF i)))) (by rw [e0]; exact Ar65.1) (State.isArrayOf_alike hZ.alike Ar65.2.1) Ar65.2.2 (own_hin Sz65 (own_nn (by omega)) hi8) ((Hv65 _ hi8).trans (congrArg some (congrArg (fun j => Value.double (FP.i2d (BF j))) hii))) (g := (mkF m 59 #[.val (.ref a1), .val (.ref a2), .val (.ref a3), .val (.int (Int32.ofNat o)), .val (.double (FP.i2d f)), .second, .val (.int (Int32.ofNat i)), .val (.int (Int32.ofNat (i - o))), .unset, .unset, .unset, .unset] [(.int (Int32.ofNat i)), (.ref a2), (.double (own_tab BF VV f o ln i))])) rfl rfl (hb hby d6_59) _ ?_
        exact k9
      have hge : (own_tab BF VV f o ln i) = FP.i2d (BF i) := own_tab_out (by omega)
      refine go (s₁.setTop (mkF m 69 #[.val (.ref a1), .val (.ref a2), .val (.ref a3), .val (.int (Int32.ofNat o)), .val (.double (FP.i2d f)), .second, .val (.int (Int32.ofNat i)), .val (.int (Int32.ofNat (i - o))), .unset, .unset, .unset, .unset] [(.int (1 : Int32))])) _ (fun t9 k9 => ?_) ?_
      · show Steps p.tables e below (s₁.setTop (mkF m 60 #[.val (.ref a1), .val (.ref a2), .val (.ref a3), .val (.int (Int32.ofNat o)), .val (.double (FP.i2d f)), .second, .val (.int (Int32.ofNat i)), .val (.int (Int32.ofNat (i - o))), .unset, .unset, .unset, .unset] [(.double (FP.i2d (BF i))), (.double (own_tab BF VV f o ln i))])) _
        refine XS.dcmpS X0.here hx rfl (hb hby d6_60) rfl (dcmpV_eq hge (own_tabn BF VV f o ln i) .l) ?_
        show Steps p.tables e below (s₁.setTop (mkF m 61 #[.val (.ref a1), .val (.ref a2), .val (.ref a3), .val (.int (Int32.ofNat o)), .val (.double (FP.i2d f)), .second, .val (.int (Int32.ofNat i)), .val (.int (Int32.ofNat (i - o))), .unset, .unset, .unset, .unset] [(.int (0 : Int32))])) _
        refine XS.ifNo X0.here hx rfl (hb hby d6_61) rfl ((if0 _ _).trans (teq (rfl : (0 : Int32) = (0 : Int32))).2) ?_
        show Steps p.tables e below (s₁.setTop (mkF m 64 #[.val (.ref a1), .val (.ref a2), .val (.ref a3), .val (.int (Int32.ofNat o)), .val (.double (FP.i2d f)), .second, .val (.int (Int32.ofNat i)), .val (.int (Int32.ofNat (i - o))), .unset, .unset, .unset, .unset] [])) _
        refine XS.iconst X0.here hx rfl (hb hby d6_64) ?_
        show Steps p.tables e below (s₁.setTop (mkF m 65 #[.val (.ref a1), .val (.ref a2), .val (.ref a3), .val (.int (Int32.ofNat o)), .val (.double (FP.i2d f)), .second, .val (.int (Int32.ofNat i)), .val (.int (Int32.ofNat (i - o))), .unset, .unset, .unset, .unset] [(.int (1 : Int32))])) _
        refine XS.goto X0.here hx rfl (pc0 := 65) (pc' := 69) rfl (hb hby d6_65) (by decide) (by decide) ?_
        exact k9
      obtain ⟨fs, hr, hrun, hended, hW, hsame⟩ := X0.leave (v := some (.int (1 : Int32))) (fun h => by rw [Bd.returns] at h; cases h) hlk
      refine fin _ ⟨_, _, retN X0 hx (t := .boolean) Bd.returns (by simp) (hb hby d6_69) hr, hrun, hended, _, _, rfl, ?_, ⟨_, rfl⟩, hW, hsame.mono (by decide) (by decide)⟩
      show Q6 Z h0 n0 _ s₁.heap _
      rw [e0]
      exact ⟨rfl, N0, rfl⟩
def Q0 (Z : State)  (h0 : Heap) (n0 : Nat) (v : Option Value) (h : Heap) (L : List Loc) : Prop := v = some (.int 1) ∧ Fr n0 L
set_option maxRecDepth 65536 in
set_option maxHeartbeats 40000000 in
theorem rm0 (l : Launch) (Z : State) (a0 : Array Value) (hw : ∀ d ∈ tables_1, d.before a0 Z = true) (ws : List Jvm.Cond) (q1 : Int64) (q2 : Int64) (q3 : Int64) (q4 : Int64) (p5 : Int32) (p6 : Int32)  (h0 : Heap) (n0 : Nat) (Z0 : n0 ≤ h0.size)  :
    MetFree l x (head1 (Jvm.Cond.code x code maxLocals ret :: ws) room_1) (fun a U => a = #[(.long q1), (.long q2), (.long q3), (.long q4), (.int p5), (.int p6)] ∧ Z.Warmed39 U.vm ∧ U.heap = h0) (fun _ _ _ _ _ => True) (fun _ U ou U' => ∃ v L, ou = .returned v ∧ Q0 Z  h0 n0 v U'.heap L ∧ FrameEnd U ou U' L room_1.cells room_1.slots) := by
  refine MetFree.of_bodySF (plainFor_of_name pn_com_example_horizonte_horizonte_solver_TermAddToPinLaw) hisR ?_
  intro p e s m args below meth c s₁ Bd hml0 hP hK
  obtain ⟨rfl, hZ, hh⟩ := hP
  have hlk : meth.locks = false := by first | exact BodyLoose.notSynchronized Bd | exact Body.notSynchronized Bd
  have hx := Bd.exec
  have hby := Bd.bytes
  have hml : c.maxLocals = 20 := hml0
  have hown : s.vm.findClass "com/example/horizonte/horizonte/solver/TermAddToPinLaw" = some m.cls := findClass_of_methodNamed Bd.named
  have hnm := (name_of_methodNamed Bd.named Bd.method).1
  have X0 : Stand p l e room_1 s m #[(.long q1), (.long q2), (.long q3), (.long q4), (.int p5), (.int p6)] below meth c s₁ [] 0 0 := Stand.of_body Bd
  have e0 : s₁.heap = h0 := by rw [← hh, Bd.state]; rfl
  have N0 := Fr.nil n0
  refine own_open (fun G go fin => ?_)
  refine go (s₁.setTop (mkF m 0 #[.val (.long q1), .second, .val (.long q2), .second, .val (.long q3), .second, .val (.long q4), .second, .val (.int p5), .val (.int p6), .unset, .unset, .unset, .unset, .unset, .unset, .unset, .unset, .unset, .unset] [])) _ (fun t9 k9 => castTop (ef_0 m q1 q2 q3 q4 p5 p6) k9) ?_
  obtain ⟨kk, ln, o, hk, hkl, hsl, hnz, ho, hol⟩ := own_shape p6
  refine go (s₁.setTop (mkF m 6 #[.val (.long q1), .second, .val (.long q2), .second, .val (.long q3), .second, .val (.long q4), .second, .val (.int p5), .val (.int p6), .unset, .unset, .unset, .unset, .unset, .unset, .unset, .unset, .unset, .unset] [(.int ((p6 &&& (3 : Int32)) % (3 : Int32)))])) _ (fun t9 k9 => ?_) ?_
  · show Steps p.tables e below (s₁.setTop (mkF m 0 #[.val (.long q1), .second, .val (.long q2), .second, .val (.long q3), .second, .val (.long q4), .second, .val (.int p5), .val (.int p6), .unset, .unset, .unset, .unset, .unset, .unset, .unset, .unset, .unset, .unset] [])) _
    refine XS.iload X0.here hx rfl (hb hby at_0) rfl ?_
    show Steps p.tables e below (s₁.setTop (mkF m 2 #[.val (.long q1), .second, .val (.long q2), .second, .val (.long q3), .second, .val (.long q4), .second, .val (.int p5), .val (.int p6), .unset, .unset, .unset, .unset, .unset, .unset, .unset, .unset, .unset, .unset] [(.int p6)])) _
    refine XS.iconst X0.here hx rfl (hb hby at_2) ?_
    show Steps p.tables e below (s₁.setTop (mkF m 3 #[.val (.long q1), .second, .val (.long q2), .second, .val (.long q3), .second, .val (.long q4), .second, .val (.int p5), .val (.int p6), .unset, .unset, .unset, .unset, .unset, .unset, .unset, .unset, .unset, .unset] [(.int (3 : Int32)), (.int p6)])) _
    refine XS.iand X0.here hx rfl (hb hby at_3) rfl ?_
    show Steps p.tables e below (s₁.setTop (mkF m 4 #[.val (.long q1), .second, .val (.long q2), .second, .val (.long q3), .second, .val (.long q4), .second, .val (.int p5), .val (.int p6), .unset, .unset, .unset, .unset, .unset, .unset, .unset, .unset, .unset, .unset] [(.int (p6 &&& (3 : Int32)))])) _
    refine XS.iconst X0.here hx rfl (hb hby at_4) ?_
    show Steps p.tables e below (s₁.setTop (mkF m 5 #[.val (.long q1), .second, .val (.long q2), .second, .val (.long q3), .second, .val (.long q4), .second, .val (.int p5), .val (.int p6), .unset, .unset, .unset, .unset, .unset, .unset, .unset, .unset, .unset, .unset] [(.int (3 : Int32)), (.int (p6 &&& (3 : Int32)))])) _
    refine iremM X0 hx rfl (hb hby at_5) rfl (by decide) ?_
    exact k9
  rw [hk]
  refine go (s₁.setTop (mkF m 12 #[.val (.long q1), .second, .val (.long q2), .second, .val (.long q3), .second, .val (.long q4), .second, .val (.int p5), .val (.int p6), .val (.int kk), .unset, .unset, .unset, .unset, .unset, .unset, .unset, .unset, .unset] [(.int ((1 : Int32) <<< (kk &&& 31)))])) _ (fun t9 k9 => ?_) ?_
  · show Steps p.tables e below (s₁.setTop (mkF m 6 #[.val (.long q1), .second, .val (.long q2), .second, .val (.long q3), .second, .val (.long q4), .second, .val (.int p5), .val (.int p6), .unset, .unset, .unset, .unset, .unset, .unset, .unset, .unset, .unset, .unset] [(.int kk)])) _
    refine XS.istore X0.here hx rfl (hb hby at_6) rfl (l' := #[.val (.long q1), .second, .val (.long q2), .second, .val (.long q3), .second, .val (.long q4), .second, .val (.int p5), .val (.int p6), .val (.int kk), .unset, .unset, .unset, .unset, .unset, .unset, .unset, .unset, .unset]) rfl ?_
    show Steps p.tables e below (s₁.setTop (mkF m 8 #[.val (.long q1), .second, .val (.long q2), .second, .val (.long q3), .second, .val (.long q4), .second, .val (.int p5), .val (.int p6), .val (.int kk), .unset, .unset, .unset, .unset, .unset, .unset, .unset, .unset, .unset] [])) _
    refine XS.iconst X0.here hx rfl (hb hby at_8) ?_
    show Steps p.tables e below (s₁.setTop (mkF m 9 #[.val (.long q1), .second, .val (.long q2), .second, .val (.long q3), .second, .val (.long q4), .second, .val (.int p5), .val (.int p6), .val (.int kk), .unset, .unset, .unset, .unset, .unset, .unset, .unset, .unset, .unset] [(.int (1 : Int32))])) _
    refine XS.iload X0.here hx rfl (hb hby at_9) rfl ?_
    show Steps p.tables e below (s₁.setTop (mkF m 11 #[.val (.long q1), .second, .val (.long q2), .second, .val (.long q3), .second, .val (.long q4), .second, .val (.int p5), .val (.int p6), .val (.int kk), .unset, .unset, .unset, .unset, .unset, .unset, .unset, .unset, .unset] [(.int kk), (.int (1 : Int32))])) _
    refine XS.ishl X0.here hx rfl (hb hby at_11) rfl ?_
    exact k9
  rw [hsl]
  refine go (s₁.setTop (mkF m 27 #[.val (.long q1), .second, .val (.long q2), .second, .val (.long q3), .second, .val (.long q4), .second, .val (.int p5), .val (.int p6), .val (.int kk), .val (.int (Int32.ofNat ln)), .unset, .unset, .unset, .unset, .unset, .unset, .unset, .unset] [(.int ((((p6.toUInt32 >>> ((2 : Int32) &&& 31).toUInt32).toInt32) &&& (7 : Int32)) % ((9 : Int32) - (Int32.ofNat ln))))])) _ (fun t9 k9 => ?_) ?_
  · show Steps p.tables e below (s₁.setTop (mkF m 12 #[.val (.long q1), .second, .val (.long q2), .second, .val (.long q3), .second, .val (.long q4), .second, .val (.int p5), .val (.int p6), .val (.int kk), .unset, .unset, .unset, .unset, .unset, .unset, .unset, .unset, .unset] [(.int (Int32.ofNat ln))])) _
    refine XS.istore X0.here hx rfl (hb hby at_12) rfl (l' := #[.val (.long q1), .second, .val (.long q2), .second, .val (.long q3), .second, .val (.long q4), .second, .val (.int p5), .val (.int p6), .val (.int kk), .val (.int (Int32.ofNat ln)), .unset, .unset, .unset, .unset, .unset, .unset, .unset, .unset]) rfl ?_
    show Steps p.tables e below (s₁.setTop (mkF m 14 #[.val (.long q1), .second, .val (.long q2), .second, .val (.long q3), .second, .val (.long q4), .second, .val (.int p5), .val (.int p6), .val (.int kk), .val (.int (Int32.ofNat ln)), .unset, .unset, .unset, .unset, .unset, .unset, .unset, .unset] [])) _
    refine XS.iload X0.here hx rfl (hb hby at_14) rfl ?_
    show Steps p.tables e below (s₁.setTop (mkF m 16 #[.val (.long q1), .second, .val (.long q2), .second, .val (.long q3), .second, .val (.long q4), .second, .val (.int p5), .val (.int p6), .val (.int kk), .val (.int (Int32.ofNat ln)), .unset, .unset, .unset, .unset, .unset, .unset, .unset, .unset] [(.int p6)])) _
    refine XS.iconst X0.here hx rfl (hb hby at_16) ?_
    show Steps p.tables e below (s₁.setTop (mkF m 17 #[.val (.long q1), .second, .val (.long q2), .second, .val (.long q3), .second, .val (.long q4), .second, .val (.int p5), .val (.int p6), .val (.int kk), .val (.int (Int32.ofNat ln)), .unset, .unset, .unset, .unset, .unset, .unset, .unset, .unset] [(.int (2 : Int32)), (.int p6)])) _
    refine XS.iushr X0.here hx rfl (hb hby at_17) rfl ?_
    show Steps p.tables e below (s₁.setTop (mkF m 18 #[.val (.long q1), .second, .val (.long q2), .second, .val (.long q3), .second, .val (.long q4), .second, .val (.int p5), .val (.int p6), .val (.int kk), .val (.int (Int32.ofNat ln)), .unset, .unset, .unset, .unset, .unset, .unset, .unset, .unset] [(.int ((p6.toUInt32 >>> ((2 : Int32) &&& 31).toUInt32).toInt32))])) _
    refine XS.bipush X0.here hx rfl (hb hby at_18) ?_
    show Steps p.tables e below (s₁.setTop (mkF m 20 #[.val (.long q1), .second, .val (.long q2), .second, .val (.long q3), .second, .val (.long q4), .second, .val (.int p5), .val (.int p6), .val (.int kk), .val (.int (Int32.ofNat ln)), .unset, .unset, .unset, .unset, .unset, .unset, .unset, .unset] [(.int (7 : Int32)), (.int ((p6.toUInt32 >>> ((2 : Int32) &&& 31).toUInt32).toInt32))])) _
    refine XS.iand X0.here hx rfl (hb hby at_20) rfl ?_
    show Steps p.tables e below (s₁.setTop (mkF m 21 #[.val (.long q1), .second, .val (.long q2), .second, .val (.long q3), .second, .val (.long q4), .second, .val (.int p5), .val (.int p6), .val (.int kk), .val (.int (Int32.ofNat ln)), .unset, .unset, .unset, .unset, .unset, .unset, .unset, .unset] [(.int (((p6.toUInt32 >>> ((2 : Int32) &&& 31).toUInt32).toInt32) &&& (7 : Int32)))])) _
    refine XS.bipush X0.here hx rfl (hb hby at_21) ?_
    show Steps p.tables e below (s₁.setTop (mkF m 23 #[.val (.long q1), .second, .val (.long q2), .second, .val (.long q3), .second, .val (.long q4), .second, .val (.int p5), .val (.int p6), .val (.int kk), .val (.int (Int32.ofNat ln)), .unset, .unset, .unset, .unset, .unset, .unset, .unset, .unset] [(.int (9 : Int32)), (.int (((p6.toUInt32 >>> ((2 : Int32) &&& 31).toUInt32).toInt32) &&& (7 : Int32)))])) _
    refine XS.iload X0.here hx rfl (hb hby at_23) rfl ?_
    show Steps p.tables e below (s₁.setTop (mkF m 25 #[.val (.long q1), .second, .val (.long q2), .second, .val (.long q3), .second, .val (.long q4), .second, .val (.int p5), .val (.int p6), .val (.int kk), .val (.int (Int32.ofNat ln)), .unset, .unset, .unset, .unset, .unset, .unset, .unset, .unset] [(.int (Int32.ofNat ln)), (.int (9 : Int32)), (.int (((p6.toUInt32 >>> ((2 : Int32) &&& 31).toUInt32).toInt32) &&& (7 : Int32)))])) _
    refine XS.isub X0.here hx rfl (hb hby at_25) rfl ?_
    show Steps p.tables e below (s₁.setTop (mkF m 26 #[.val (.long q1), .second, .val (.long q2), .second, .val (.long q3), .second, .val (.long q4), .second, .val (.int p5), .val (.int p6), .val (.int kk), .val (.int (Int32.ofNat ln)), .unset, .unset, .unset, .unset, .unset, .unset, .unset, .unset] [(.int ((9 : Int32) - (Int32.ofNat ln))), (.int (((p6.toUInt32 >>> ((2 : Int32) &&& 31).toUInt32).toInt32) &&& (7 : Int32)))])) _
    refine iremM X0 hx rfl (hb hby at_26) rfl hnz ?_
    exact k9
  rw [ho]
  refine go (s₁.setTop (mkF m 29 #[.val (.long q1), .second, .val (.long q2), .second, .val (.long q3), .second, .val (.long q4), .second, .val (.int p5), .val (.int p6), .val (.int kk), .val (.int (Int32.ofNat ln)), .val (.int (Int32.ofNat o)), .unset, .unset, .unset, .unset, .unset, .unset, .unset] [])) _ (fun t9 k9 => ?_) ?_
  · show Steps p.tables e below (s₁.setTop (mkF m 27 #[.val (.long q1), .second, .val (.long q2), .second, .val (.long q3), .second, .val (.long q4), .second, .val (.int p5), .val (.int p6), .val (.int kk), .val (.int (Int32.ofNat ln)), .unset, .unset, .unset, .unset, .unset, .unset, .unset, .unset] [(.int (Int32.ofNat o))])) _
    refine XS.istore X0.here hx rfl (hb hby at_27) rfl (l' := #[.val (.long q1), .second, .val (.long q2), .second, .val (.long q3), .second, .val (.long q4), .second, .val (.int p5), .val (.int p6), .val (.int kk), .val (.int (Int32.ofNat ln)), .val (.int (Int32.ofNat o)), .unset, .unset, .unset, .unset, .unset, .unset, .unset]) rfl ?_
    exact k9
  refine own_cps (A := ∀ (T1 : State) (h1 : Heap) (L1 : List Loc) (b13 b14 : Addr) (X1 : Stand p l e room_1 s m #[(.long q1), (.long q2), (.long q3), (.long q4), (.int p5), (.int p6)] below meth c T1 L1 2 8) (e1 : T1.heap = h1) (K1 : Keep h0 h1 []) (N1 : Fr n0 L1) (V14 : own_A Z h1 b14 .double ln (fun j => .double (FP.i2d ((own_vv q1 q2) j)))), G (T1.setTop (mkF m 121 #[.val (.long q1), .second, .val (.long q2), .second, .val (.long q3), .second, .val (.long q4), .second, .val (.int p5), .val (.int p6), .val (.int kk), .val (.int (Int32.ofNat ln)), .val (.int (Int32.ofNat o)), .val (.ref b13), .val (.ref b14), .unset, .unset, .unset, .unset, .unset] []))) (fun j121 => ?_) ?_
  · rcases hkl with ⟨rfl, rfl⟩ | ⟨rfl, rfl⟩ | ⟨rfl, rfl⟩
    · refine go (s₁.setTop (mkF m 35 #[.val (.long q1), .second, .val (.long q2), .second, .val (.long q3), .second, .val (.long q4), .second, .val (.int p5), .val (.int p6), .val (.int (0 : Int32)), .val (.int (1 : Int32)), .val (.int (Int32.ofNat o)), .unset, .unset, .unset, .unset, .unset, .unset, .unset] [(.int (0 : Int32))])) _ (fun t9 k9 => ?_) ?_
      · show Steps p.tables e below (s₁.setTop (mkF m 29 #[.val (.long q1), .second, .val (.long q2), .second, .val (.long q3), .second, .val (.long q4), .second, .val (.int p5), .val (.int p6), .val (.int (0 : Int32)), .val (.int (1 : Int32)), .val (.int (Int32.ofNat o)), .unset, .unset, .unset, .unset, .unset, .unset, .unset] [])) _
        refine XS.iload X0.here hx rfl (hb hby at_29) rfl ?_
        show Steps p.tables e below (s₁.setTop (mkF m 31 #[.val (.long q1), .second, .val (.long q2), .second, .val (.long q3), .second, .val (.long q4), .second, .val (.int p5), .val (.int p6), .val (.int (0 : Int32)), .val (.int (1 : Int32)), .val (.int (Int32.ofNat o)), .unset, .unset, .unset, .unset, .unset, .unset, .unset] [(.int (0 : Int32))])) _
        refine XS.ifNo X0.here hx rfl (hb hby at_31) rfl ((if0 _ _).trans (teq (by decide : (0 : Int32) = (0 : Int32))).2) ?_
        show Steps p.tables e below (s₁.setTop (mkF m 34 #[.val (.long q1), .second, .val (.long q2), .second, .val (.long q3), .second, .val (.long q4), .second, .val (.int p5), .val (.int p6), .val (.int (0 : Int32)), .val (.int (1 : Int32)), .val (.int (Int32.ofNat o)), .unset, .unset, .unset, .unset, .unset, .unset, .unset] [])) _
        refine XS.iconst X0.here hx rfl (hb hby at_34) ?_
        exact k9
      obtain ⟨T67, h67, k67, X67, e67, E67, A67, st67⟩ := newP X0 hx hZ (hw _ (List.mem_of_getElem? (i := 0) rfl)) e0 (g := (mkF m 35 #[.val (.long q1), .second, .val (.long q2), .second, .val (.long q3), .second, .val (.long q4), .second, .val (.int p5), .val (.int p6), .val (.int (0 : Int32)), .val (.int (1 : Int32)), .val (.int (Int32.ofNat o)), .unset, .unset, .unset, .unset, .unset, .unset, .unset] [(.int (0 : Int32))])) rfl (hb hby at_35) rfl (by decide) (cap := 0) (by decide) (by decide) (by decide) (by decide)
      obtain ⟨b13, g67⟩ : ∃ z, z = h0.size := ⟨_, rfl⟩
      rw [← g67] at A67 st67
      refine go (T67.setTop (mkF m 37 #[.val (.long q1), .second, .val (.long q2), .second, .val (.long q3), .second, .val (.long q4), .second, .val (.int p5), .val (.int p6), .val (.int (0 : Int32)), .val (.int (1 : Int32)), .val (.int (Int32.ofNat o)), .unset, .unset, .unset, .unset, .unset, .unset, .unset] [(.ref b13)])) _ (fun t9 k9 => st67 _ k9) ?_
      have sz_b13 : h0.size ≤ b13 := Nat.le_trans (Keep.refl h0 []).1 (Nat.le_of_eq g67.symm)
      have g_b13 : n0 ≤ b13 := Nat.le_trans Z0 sz_b13
      have u68 : Keep h0 h67 [] := (Keep.refl h0 []).ext E67
      have u69 : own_A Z h67 b13 .int 0 (fun _ => (.int 0)) := own_A_new A67 rfl
      refine go (T67.setTop (mkF m 71 #[.val (.long q1), .second, .val (.long q2), .second, .val (.long q3), .second, .val (.long q4), .second, .val (.int p5), .val (.int p6), .val (.int (0 : Int32)), .val (.int (1 : Int32)), .val (.int (Int32.ofNat o)), .val (.ref b13), .unset, .unset, .unset, .unset, .unset, .unset] [(.int (1 : Int32))])) _ (fun t9 k9 => ?_) ?_
      · show Steps p.tables e below (T67.setTop (mkF m 37 #[.val (.long q1), .second, .val (.long q2), .second, .val (.long q3), .second, .val (.long q4), .second, .val (.int p5), .val (.int p6), .val (.int (0 : Int32)), .val (.int (1 : Int32)), .val (.int (Int32.ofNat o)), .unset, .unset, .unset, .unset, .unset, .unset, .unset] [(.ref b13)])) _
        refine XS.goto X67.here hx rfl (pc0 := 37) (pc' := 67) rfl (hb hby at_37) (by decide) (by decide) ?_
        show Steps p.tables e below (T67.setTop (mkF m 67 #[.val (.long q1), .second, .val (.long q2), .second, .val (.long q3), .second, .val (.long q4), .second, .val (.int p5), .val (.int p6), .val (.int (0 : Int32)), .val (.int (1 : Int32)), .val (.int (Int32.ofNat o)), .unset, .unset, .unset, .unset, .unset, .unset, .unset] [(.ref b13)])) _
        refine XS.astore X67.here hx rfl (hb hby at_67) rfl rfl (l' := #[.val (.long q1), .second, .val (.long q2), .second, .val (.long q3), .second, .val (.long q4), .second, .val (.int p5), .val (.int p6), .val (.int (0 : Int32)), .val (.int (1 : Int32)), .val (.int (Int32.ofNat o)), .val (.ref b13), .unset, .unset, .unset, .unset, .unset, .unset]) rfl ?_
        show Steps p.tables e below (T67.setTop (mkF m 69 #[.val (.long q1), .second, .val (.long q2), .second, .val (.long q3), .second, .val (.long q4), .second, .val (.int p5), .val (.int p6), .val (.int (0 : Int32)), .val (.int (1 : Int32)), .val (.int (Int32.ofNat o)), .val (.ref b13), .unset, .unset, .unset, .unset, .unset, .unset] [])) _
        refine XS.iload X67.here hx rfl (hb hby at_69) rfl ?_
        exact k9
      obtain ⟨T70, h70, k70, X70, e70, E70, A70, st70⟩ := newP X67 hx hZ (hw _ (List.mem_of_getElem? (i := 1) rfl)) e67 (g := (mkF m 71 #[.val (.long q1), .second, .val (.long q2), .second, .val (.long q3), .second, .val (.long q4), .second, .val (.int p5), .val (.int p6), .val (.int (0 : Int32)), .val (.int (1 : Int32)), .val (.int (Int32.ofNat o)), .val (.ref b13), .unset, .unset, .unset, .unset, .unset, .unset] [(.int (1 : Int32))])) rfl (hb hby at_71) rfl (by decide) (cap := 1) (by decide) (by decide) (by decide) (by decide)
      obtain ⟨b14, g70⟩ : ∃ z, z = h67.size := ⟨_, rfl⟩
      rw [← g70] at A70 st70
      refine go (T70.setTop (mkF m 73 #[.val (.long q1), .second, .val (.long q2), .second, .val (.long q3), .second, .val (.long q4), .second, .val (.int p5), .val (.int p6), .val (.int (0 : Int32)), .val (.int (1 : Int32)), .val (.int (Int32.ofNat o)), .val (.ref b13), .unset, .unset, .unset, .unset, .unset, .unset] [(.ref b14)])) _ (fun t9 k9 => st70 _ k9) ?_
      have sz_b14 : h0.size ≤ b14 := Nat.le_trans u68.1 (Nat.le_of_eq g70.symm)
      have g_b14 : n0 ≤ b14 := Nat.le_trans Z0 sz_b14
      have u71 : Keep h0 h70 [] := u68.ext E70
      have u72 : own_A Z h70 b14 .double 1 (fun _ => (.double 0)) := own_A_new A70 rfl
      have u73 : own_A Z h70 b14 .double 1 (fun j => .double (if j < 0 then FP.i2d (own_vv q1 q2 j) else 0)) := own_A_congr u72 (own_zero Value.double (fun j => FP.i2d (own_vv q1 q2 j)) 0 1)
      refine go (T70.setTop (mkF m 81 #[.val (.long q1), .second, .val (.long q2), .second, .val (.long q3), .second, .val (.long q4), .second, .val (.int p5), .val (.int p6), .val (.int (0 : Int32)), .val (.int (1 : Int32)), .val (.int (Int32.ofNat o)), .val (.ref b13), .val (.ref b14), .unset, .unset, .unset, .unset, .unset] [(.double (FP.i2d (q1.toInt32))), (.int (0 : Int32)), (.ref b14)])) _ (fun t9 k9 => ?_) ?_
      · show Steps p.tables e below (T70.setTop (mkF m 73 #[.val (.long q1), .second, .val (.long q2), .second, .val (.long q3), .second, .val (.long q4), .second, .val (.int p5), .val (.int p6), .val (.int (0 : Int32)), .val (.int (1 : Int32)), .val (.int (Int32.ofNat o)), .val (.ref b13), .unset, .unset, .unset, .unset, .unset, .unset] [(.ref b14)])) _
        refine XS.astore X70.here hx rfl (hb hby at_73) rfl rfl (l' := #[.val (.long q1), .second, .val (.long q2), .second, .val (.long q3), .second, .val (.long q4), .second, .val (.int p5), .val (.int p6), .val (.int (0 : Int32)), .val (.int (1 : Int32)), .val (.int (Int32.ofNat o)), .val (.ref b13), .val (.ref b14), .unset, .unset, .unset, .unset, .unset]) rfl ?_
        show Steps p.tables e below (T70.setTop (mkF m 75 #[.val (.long q1), .second, .val (.long q2), .second, .val (.long q3), .second, .val (.long q4), .second, .val (.int p5), .val (.int p6), .val (.int (0 : Int32)), .val (.int (1 : Int32)), .val (.int (Int32.ofNat o)), .val (.ref b13), .val (.ref b14), .unset, .unset, .unset, .unset, .unset] [])) _
        refine XS.aload X70.here hx rfl (hb hby at_75) rfl rfl ?_
        show Steps p.tables e below (T70.setTop (mkF m 77 #[.val (.long q1), .second, .val (.long q2), .second, .val (.long q3), .second, .val (.long q4), .second, .val (.int p5), .val (.int p6), .val (.int (0 : Int32)), .val (.int (1 : Int32)), .val (.int (Int32.ofNat o)), .val (.ref b13), .val (.ref b14), .unset, .unset, .unset, .unset, .unset] [(.ref b14)])) _
        refine XS.iconst X70.here hx rfl (hb hby at_77) ?_
        show Steps p.tables e below (T70.setTop (mkF m 78 #[.val (.long q1), .second, .val (.long q2), .second, .val (.long q3), .second, .val (.long q4), .second, .val (.int p5), .val (.int p6), .val (.int (0 : Int32)), .val (.int (1 : Int32)), .val (.int (Int32.ofNat o)), .val (.ref b13), .val (.ref b14), .unset, .unset, .unset, .unset, .unset] [(.int (0 : Int32)), (.ref b14)])) _
        refine XS.lloadN X70.here hx rfl (hb hby at_78) rfl ?_
        show Steps p.tables e below (T70.setTop (mkF m 79 #[.val (.long q1), .second, .val (.long q2), .second, .val (.long q3), .second, .val (.long q4), .second, .val (.int p5), .val (.int p6), .val (.int (0 : Int32)), .val (.int (1 : Int32)), .val (.int (Int32.ofNat o)), .val (.ref b13), .val (.ref b14), .unset, .unset, .unset, .unset, .unset] [(.long q1), (.int (0 : Int32)), (.ref b14)])) _
        refine XS.l2i X70.here hx rfl (hb hby at_79) rfl ?_
        show Steps p.tables e below (T70.setTop (mkF m 80 #[.val (.long q1), .second, .val (.long q2), .second, .val (.long q3), .second, .val (.long q4), .second, .val (.int p5), .val (.int p6), .val (.int (0 : Int32)), .val (.int (1 : Int32)), .val (.int (Int32.ofNat o)), .val (.ref b13), .val (.ref b14), .unset, .unset, .unset, .unset, .unset] [(.int (q1.toInt32)), (.int (0 : Int32)), (.ref b14)])) _
        refine XS.i2dS X70.here hx rfl (hb hby at_80) rfl rfl ?_
        exact k9
      obtain ⟨cl74, Ar74, Sz74, Hv74⟩ := u73
      have u75 : own_A Z h70 b14 .double 1 (fun j => .double (if j < 0 then FP.i2d (own_vv q1 q2 j) else 0)) := ⟨cl74, Ar74, Sz74, Hv74⟩
      obtain ⟨T76, h76, X76, e76, W76, st76⟩ := stD X70 hx hZ e70 Ar74 (j := (0 : Int32)) (own_hin Sz74 (by decide) (by decide)) (g := (mkF m 81 #[.val (.long q1), .second, .val (.long q2), .second, .val (.long q3), .second, .val (.long q4), .second, .val (.int p5), .val (.int p6), .val (.int (0 : Int32)), .val (.int (1 : Int32)), .val (.int (Int32.ofNat o)), .val (.ref b13), .val (.ref b14), .unset, .unset, .unset, .unset, .unset] [(.double (FP.i2d (q1.toInt32))), (.int (0 : Int32)), (.ref b14)])) rfl rfl (hb hby at_81)
      have N76 := Fr.snoc X76 N0 g_b14
      refine go (T76.setTop (mkF m 82 #[.val (.long q1), .second, .val (.long q2), .second, .val (.long q3), .second, .val (.long q4), .second, .val (.int p5), .val (.int p6), .val (.int (0 : Int32)), .val (.int (1 : Int32)), .val (.int (Int32.ofNat o)), .val (.ref b13), .val (.ref b14), .unset, .unset, .unset, .unset, .unset] [])) _ (fun t9 k9 => st76 _ k9) ?_
      have u77 : Keep h0 h76 [] := u71.wr W76 (Or.inr sz_b14)
      have u78 : own_A Z h76 b14 .double 1 (fun j => .double (if j < 1 then FP.i2d (own_vv q1 q2 j) else 0)) := own_A_congr (own_A_set Ar74 Sz74 Hv74 W76 (by decide)) (own_setf Value.double (fun j => FP.i2d (own_vv q1 q2 j)) 0 0 1)
      have u79 : own_A Z h76 b14 .double 1 (fun j => .double (FP.i2d (own_vv q1 q2 j))) := own_A_congr u78 (own_full Value.double (fun j => FP.i2d (own_vv q1 q2 j)) 0 1)
      refine go (T76.setTop (mkF m 121 #[.val (.long q1), .second, .val (.long q2), .second, .val (.long q3), .second, .val (.long q4), .second, .val (.int p5), .val (.int p6), .val (.int (0 : Int32)), .val (.int (1 : Int32)), .val (.int (Int32.ofNat o)), .val (.ref b13), .val (.ref b14), .unset, .unset, .unset, .unset, .unset] [])) _ (fun t9 k9 => ?_) ?_
      · show Steps p.tables e below (T76.setTop (mkF m 82 #[.val (.long q1), .second, .val (.long q2), .second, .val (.long q3), .second, .val (.long q4), .second, .val (.int p5), .val (.int p6), .val (.int (0 : Int32)), .val (.int (1 : Int32)), .val (.int (Int32.ofNat o)), .val (.ref b13), .val (.ref b14), .unset, .unset, .unset, .unset, .unset] [])) _
        refine XS.iload X76.here hx rfl (hb hby at_82) rfl ?_
        show Steps p.tables e below (T76.setTop (mkF m 84 #[.val (.long q1), .second, .val (.long q2), .second, .val (.long q3), .second, .val (.long q4), .second, .val (.int p5), .val (.int p6), .val (.int (0 : Int32)), .val (.int (1 : Int32)), .val (.int (Int32.ofNat o)), .val (.ref b13), .val (.ref b14), .unset, .unset, .unset, .unset, .unset] [(.int (1 : Int32))])) _
        refine XS.iconst X76.here hx rfl (hb hby at_84) ?_
        show Steps p.tables e below (T76.setTop (mkF m 85 #[.val (.long q1), .second, .val (.long q2), .second, .val (.long q3), .second, .val (.long q4), .second, .val (.int p5), .val (.int p6), .val (.int (0 : Int32)), .val (.int (1 : Int32)), .val (.int (Int32.ofNat o)), .val (.ref b13), .val (.ref b14), .unset, .unset, .unset, .unset, .unset] [(.int (1 : Int32)), (.int (1 : Int32))])) _
        refine XS.icmpYes X76.here hx rfl (pc0 := 85) (pc' := 98) rfl (hb hby at_85) rfl (flt (by decide : ¬ (1 : Int32) < (1 : Int32))).2.2.2 (by decide) (by decide) ?_
        show Steps p.tables e below (T76.setTop (mkF m 98 #[.val (.long q1), .second, .val (.long q2), .second, .val (.long q3), .second, .val (.long q4), .second, .val (.int p5), .val (.int p6), .val (.int (0 : Int32)), .val (.int (1 : Int32)), .val (.int (Int32.ofNat o)), .val (.ref b13), .val (.ref b14), .unset, .unset, .unset, .unset, .unset] [])) _
        refine XS.iload X76.here hx rfl (hb hby at_98) rfl ?_
        show Steps p.tables e below (T76.setTop (mkF m 100 #[.val (.long q1), .second, .val (.long q2), .second, .val (.long q3), .second, .val (.long q4), .second, .val (.int p5), .val (.int p6), .val (.int (0 : Int32)), .val (.int (1 : Int32)), .val (.int (Int32.ofNat o)), .val (.ref b13), .val (.ref b14), .unset, .unset, .unset, .unset, .unset] [(.int (1 : Int32))])) _
        refine XS.iconst X76.here hx rfl (hb hby at_100) ?_
        show Steps p.tables e below (T76.setTop (mkF m 101 #[.val (.long q1), .second, .val (.long q2), .second, .val (.long q3), .second, .val (.long q4), .second, .val (.int p5), .val (.int p6), .val (.int (0 : Int32)), .val (.int (1 : Int32)), .val (.int (Int32.ofNat o)), .val (.ref b13), .val (.ref b14), .unset, .unset, .unset, .unset, .unset] [(.int (2 : Int32)), (.int (1 : Int32))])) _
        refine XS.icmpYes X76.here hx rfl (pc0 := 101) (pc' := 121) rfl (hb hby at_101) rfl (flt (by decide : ¬ (2 : Int32) < (1 : Int32))).2.2.2 (by decide) (by decide) ?_
        exact k9
      exact j121 _ _ _ b13 b14 (X76.more (by decide) (by decide)) e76 u77 N76 u79
    · refine go (s₁.setTop (mkF m 47 #[.val (.long q1), .second, .val (.long q2), .second, .val (.long q3), .second, .val (.long q4), .second, .val (.int p5), .val (.int p6), .val (.int (1 : Int32)), .val (.int (2 : Int32)), .val (.int (Int32.ofNat o)), .unset, .unset, .unset, .unset, .unset, .unset, .unset] [(.int (1 : Int32))])) _ (fun t9 k9 => ?_) ?_
      · show Steps p.tables e below (s₁.setTop (mkF m 29 #[.val (.long q1), .second, .val (.long q2), .second, .val (.long q3), .second, .val (.long q4), .second, .val (.int p5), .val (.int p6), .val (.int (1 : Int32)), .val (.int (2 : Int32)), .val (.int (Int32.ofNat o)), .unset, .unset, .unset, .unset, .unset, .unset, .unset] [])) _
        refine XS.iload X0.here hx rfl (hb hby at_29) rfl ?_
        show Steps p.tables e below (s₁.setTop (mkF m 31 #[.val (.long q1), .second, .val (.long q2), .second, .val (.long q3), .second, .val (.long q4), .second, .val (.int p5), .val (.int p6), .val (.int (1 : Int32)), .val (.int (2 : Int32)), .val (.int (Int32.ofNat o)), .unset, .unset, .unset, .unset, .unset, .unset, .unset] [(.int (1 : Int32))])) _
        refine XS.ifYes X0.here hx rfl (pc0 := 31) (pc' := 40) rfl (hb hby at_31) rfl ((if0 _ _).trans (feq (by decide : ¬ (1 : Int32) = (0 : Int32))).2) (by decide) (by decide) ?_
        show Steps p.tables e below (s₁.setTop (mkF m 40 #[.val (.long q1), .second, .val (.long q2), .second, .val (.long q3), .second, .val (.long q4), .second, .val (.int p5), .val (.int p6), .val (.int (1 : Int32)), .val (.int (2 : Int32)), .val (.int (Int32.ofNat o)), .unset, .unset, .unset, .unset, .unset, .unset, .unset] [])) _
        refine XS.iload X0.here hx rfl (hb hby at_40) rfl ?_
        show Steps p.tables e below (s₁.setTop (mkF m 42 #[.val (.long q1), .second, .val (.long q2), .second, .val (.long q3), .second, .val (.long q4), .second, .val (.int p5), .val (.int p6), .val (.int (1 : Int32)), .val (.int (2 : Int32)), .val (.int (Int32.ofNat o)), .unset, .unset, .unset, .unset, .unset, .unset, .unset] [(.int (1 : Int32))])) _
        refine XS.iconst X0.here hx rfl (hb hby at_42) ?_
        show Steps p.tables e below (s₁.setTop (mkF m 43 #[.val (.long q1), .second, .val (.long q2), .second, .val (.long q3), .second, .val (.long q4), .second, .val (.int p5), .val (.int p6), .val (.int (1 : Int32)), .val (.int (2 : Int32)), .val (.int (Int32.ofNat o)), .unset, .unset, .unset, .unset, .unset, .unset, .unset] [(.int (1 : Int32)), (.int (1 : Int32))])) _
        refine XS.icmpNo X0.here hx rfl (hb hby at_43) rfl (teq (by decide : (1 : Int32) = (1 : Int32))).2 ?_
        show Steps p.tables e below (s₁.setTop (mkF m 46 #[.val (.long q1), .second, .val (.long q2), .second, .val (.long q3), .second, .val (.long q4), .second, .val (.int p5), .val (.int p6), .val (.int (1 : Int32)), .val (.int (2 : Int32)), .val (.int (Int32.ofNat o)), .unset, .unset, .unset, .unset, .unset, .unset, .unset] [])) _
        refine XS.iconst X0.here hx rfl (hb hby at_46) ?_
        exact k9
      obtain ⟨T80, h80, k80, X80, e80, E80, A80, st80⟩ := newP X0 hx hZ (hw _ (List.mem_of_getElem? (i := 0) rfl)) e0 (g := (mkF m 47 #[.val (.long q1), .second, .val (.long q2), .second, .val (.long q3), .second, .val (.long q4), .second, .val (.int p5), .val (.int p6), .val (.int (1 : Int32)), .val (.int (2 : Int32)), .val (.int (Int32.ofNat o)), .unset, .unset, .unset, .unset, .unset, .unset, .unset] [(.int (1 : Int32))])) rfl (hb hby at_47) rfl (by decide) (cap := 1) (by decide) (by decide) (by decide) (by decide)
      obtain ⟨b13, g80⟩ : ∃ z, z = h0.size := ⟨_, rfl⟩
      rw [← g80] at A80 st80
      refine go (T80.setTop (mkF m 49 #[.val (.long q1), .second, .val (.long q2), .second, .val (.long q3), .second, .val (.long q4), .second, .val (.int p5), .val (.int p6), .val (.int (1 : Int32)), .val (.int (2 : Int32)), .val (.int (Int32.ofNat o)), .unset, .unset, .unset, .unset, .unset, .unset, .unset] [(.ref b13)])) _ (fun t9 k9 => st80 _ k9) ?_
      have sz_b13 : h0.size ≤ b13 := Nat.le_trans (Keep.refl h0 []).1 (Nat.le_of_eq g80.symm)
      have g_b13 : n0 ≤ b13 := Nat.le_trans Z0 sz_b13
      have u81 : Keep h0 h80 [] := (Keep.refl h0 []).ext E80
      have u82 : own_A Z h80 b13 .int 1 (fun _ => (.int 0)) := own_A_new A80 rfl
      refine go (T80.setTop (mkF m 52 #[.val (.long q1), .second, .val (.long q2), .second, .val (.long q3), .second, .val (.long q4), .second, .val (.int p5), .val (.int p6), .val (.int (1 : Int32)), .val (.int (2 : Int32)), .val (.int (Int32.ofNat o)), .unset, .unset, .unset, .unset, .unset, .unset, .unset] [(.int (0 : Int32)), (.int (0 : Int32)), (.ref b13), (.ref b13)])) _ (fun t9 k9 => ?_) ?_
      · show Steps p.tables e below (T80.setTop (mkF m 49 #[.val (.long q1), .second, .val (.long q2), .second, .val (.long q3), .second, .val (.long q4), .second, .val (.int p5), .val (.int p6), .val (.int (1 : Int32)), .val (.int (2 : Int32)), .val (.int (Int32.ofNat o)), .unset, .unset, .unset, .unset, .unset, .unset, .unset] [(.ref b13)])) _
        refine XS.dup X80.here hx rfl (hb hby at_49) rfl rfl ?_
        show Steps p.tables e below (T80.setTop (mkF m 50 #[.val (.long q1), .second, .val (.long q2), .second, .val (.long q3), .second, .val (.long q4), .second, .val (.int p5), .val (.int p6), .val (.int (1 : Int32)), .val (.int (2 : Int32)), .val (.int (Int32.ofNat o)), .unset, .unset, .unset, .unset, .unset, .unset, .unset] [(.ref b13), (.ref b13)])) _
        refine XS.iconst X80.here hx rfl (hb hby at_50) ?_
        show Steps p.tables e below (T80.setTop (mkF m 51 #[.val (.long q1), .second, .val (.long q2), .second, .val (.long q3), .second, .val (.long q4), .second, .val (.int p5), .val (.int p6), .val (.int (1 : Int32)), .val (.int (2 : Int32)), .val (.int (Int32.ofNat o)), .unset, .unset, .unset, .unset, .unset, .unset, .unset] [(.int (0 : Int32)), (.ref b13), (.ref b13)])) _
        refine XS.iconst X80.here hx rfl (hb hby at_51) ?_
        exact k9
      obtain ⟨cl83, Ar83, Sz83, Hv83⟩ := u82
      have u84 : own_A Z h80 b13 .int 1 (fun _ => (.int 0)) := ⟨cl83, Ar83, Sz83, Hv83⟩
      obtain ⟨T85, h85, X85, e85, W85, st85⟩ := stI X80 hx hZ e80 Ar83 (j := (0 : Int32)) (own_hin Sz83 (by decide) (by decide)) (g := (mkF m 52 #[.val (.long q1), .second, .val (.long q2), .second, .val (.long q3), .second, .val (.long q4), .second, .val (.int p5), .val (.int p6), .val (.int (1 : Int32)), .val (.int (2 : Int32)), .val (.int (Int32.ofNat o)), .unset, .unset, .unset, .unset, .unset, .unset, .unset] [(.int (0 : Int32)), (.int (0 : Int32)), (.ref b13), (.ref b13)])) rfl rfl (hb hby at_52)
      have N85 := Fr.snoc X85 N0 g_b13
      refine go (T85.setTop (mkF m 53 #[.val (.long q1), .second, .val (.long q2), .second, .val (.long q3), .second, .val (.long q4), .second, .val (.int p5), .val (.int p6), .val (.int (1 : Int32)), .val (.int (2 : Int32)), .val (.int (Int32.ofNat o)), .unset, .unset, .unset, .unset, .unset, .unset, .unset] [(.ref b13)])) _ (fun t9 k9 => st85 _ k9) ?_
      have u86 : Keep h0 h85 [] := u81.wr W85 (Or.inr sz_b13)
      have u87 : own_A Z h85 b13 .int 1 (fun j => .int (if j < 1 then Int32.ofNat j else 0)) := own_A_congr (own_A_set Ar83 Sz83 Hv83 W85 (by decide)) (fun j hj => by
        have : j = 0 := by omega
        rcases this with rfl <;> decide)
      refine go (T85.setTop (mkF m 71 #[.val (.long q1), .second, .val (.long q2), .second, .val (.long q3), .second, .val (.long q4), .second, .val (.int p5), .val (.int p6), .val (.int (1 : Int32)), .val (.int (2 : Int32)), .val (.int (Int32.ofNat o)), .val (.ref b13), .unset, .unset, .unset, .unset, .unset, .unset] [(.int (2 : Int32))])) _ (fun t9 k9 => ?_) ?_
      · show Steps p.tables e below (T85.setTop (mkF m 53 #[.val (.long q1), .second, .val (.long q2), .second, .val (.long q3), .second, .val (.long q4), .second, .val (.int p5), .val (.int p6), .val (.int (1 : Int32)), .val (.int (2 : Int32)), .val (.int (Int32.ofNat o)), .unset, .unset, .unset, .unset, .unset, .unset, .unset] [(.ref b13)])) _
        refine XS.goto X85.here hx rfl (pc0 := 53) (pc' := 67) rfl (hb hby at_53) (by decide) (by decide) ?_
        show Steps p.tables e below (T85.setTop (mkF m 67 #[.val (.long q1), .second, .val (.long q2), .second, .val (.long q3), .second, .val (.long q4), .second, .val (.int p5), .val (.int p6), .val (.int (1 : Int32)), .val (.int (2 : Int32)), .val (.int (Int32.ofNat o)), .unset, .unset, .unset, .unset, .unset, .unset, .unset] [(.ref b13)])) _
        refine XS.astore X85.here hx rfl (hb hby at_67) rfl rfl (l' := #[.val (.long q1), .second, .val (.long q2), .second, .val (.long q3), .second, .val (.long q4), .second, .val (.int p5), .val (.int p6), .val (.int (1 : Int32)), .val (.int (2 : Int32)), .val (.int (Int32.ofNat o)), .val (.ref b13), .unset, .unset, .unset, .unset, .unset, .unset]) rfl ?_
        show Steps p.tables e below (T85.setTop (mkF m 69 #[.val (.long q1), .second, .val (.long q2), .second, .val (.long q3), .second, .val (.long q4), .second, .val (.int p5), .val (.int p6), .val (.int (1 : Int32)), .val (.int (2 : Int32)), .val (.int (Int32.ofNat o)), .val (.ref b13), .unset, .unset, .unset, .unset, .unset, .unset] [])) _
        refine XS.iload X85.here hx rfl (hb hby at_69) rfl ?_
        exact k9
      obtain ⟨T88, h88, k88, X88, e88, E88, A88, st88⟩ := newP X85 hx hZ (hw _ (List.mem_of_getElem? (i := 1) rfl)) e85 (g := (mkF m 71 #[.val (.long q1), .second, .val (.long q2), .second, .val (.long q3), .second, .val (.long q4), .second, .val (.int p5), .val (.int p6), .val (.int (1 : Int32)), .val (.int (2 : Int32)), .val (.int (Int32.ofNat o)), .val (.ref b13), .unset, .unset, .unset, .unset, .unset, .unset] [(.int (2 : Int32))])) rfl (hb hby at_71) rfl (by decide) (cap := 2) (by decide) (by decide) (by decide) (by decide)
      obtain ⟨b14, g88⟩ : ∃ z, z = h85.size := ⟨_, rfl⟩
      rw [← g88] at A88 st88
      refine go (T88.setTop (mkF m 73 #[.val (.long q1), .second, .val (.long q2), .second, .val (.long q3), .second, .val (.long q4), .second, .val (.int p5), .val (.int p6), .val (.int (1 : Int32)), .val (.int (2 : Int32)), .val (.int (Int32.ofNat o)), .val (.ref b13), .unset, .unset, .unset, .unset, .unset, .unset] [(.ref b14)])) _ (fun t9 k9 => st88 _ k9) ?_
      have sz_b14 : h0.size ≤ b14 := Nat.le_trans u86.1 (Nat.le_of_eq g88.symm)
      have g_b14 : n0 ≤ b14 := Nat.le_trans Z0 sz_b14
      have u89 : Keep h0 h88 [] := u86.ext E88
      have u90 : own_A Z h88 b14 .double 2 (fun _ => (.double 0)) := own_A_new A88 rfl
      have u91 : own_A Z h88 b14 .double 2 (fun j => .double (if j < 0 then FP.i2d (own_vv q1 q2 j) else 0)) := own_A_congr u90 (own_zero Value.double (fun j => FP.i2d (own_vv q1 q2 j)) 0 2)
      refine go (T88.setTop (mkF m 81 #[.val (.long q1), .second, .val (.long q2), .second, .val (.long q3), .second, .val (.long q4), .second, .val (.int p5), .val (.int p6), .val (.int (1 : Int32)), .val (.int (2 : Int32)), .val (.int (Int32.ofNat o)), .val (.ref b13), .val (.ref b14), .unset, .unset, .unset, .unset, .unset] [(.double (FP.i2d (q1.toInt32))), (.int (0 : Int32)), (.ref b14)])) _ (fun t9 k9 => ?_) ?_
      · show Steps p.tables e below (T88.setTop (mkF m 73 #[.val (.long q1), .second, .val (.long q2), .second, .val (.long q3), .second, .val (.long q4), .second, .val (.int p5), .val (.int p6), .val (.int (1 : Int32)), .val (.int (2 : Int32)), .val (.int (Int32.ofNat o)), .val (.ref b13), .unset, .unset, .unset, .unset, .unset, .unset] [(.ref b14)])) _
        refine XS.astore X88.here hx rfl (hb hby at_73) rfl rfl (l' := #[.val (.long q1), .second, .val (.long q2), .second, .val (.long q3), .second, .val (.long q4), .second, .val (.int p5), .val (.int p6), .val (.int (1 : Int32)), .val (.int (2 : Int32)), .val (.int (Int32.ofNat o)), .val (.ref b13), .val (.ref b14), .unset, .unset, .unset, .unset, .unset]) rfl ?_
        show Steps p.tables e below (T88.setTop (mkF m 75 #[.val (.long q1), .second, .val (.long q2), .second, .val (.long q3), .second, .val (.long q4), .second, .val (.int p5), .val (.int p6), .val (.int (1 : Int32)), .val (.int (2 : Int32)), .val (.int (Int32.ofNat o)), .val (.ref b13), .val (.ref b14), .unset, .unset, .unset, .unset, .unset] [])) _
        refine XS.aload X88.here hx rfl (hb hby at_75) rfl rfl ?_
        show Steps p.tables e below (T88.setTop (mkF m 77 #[.val (.long q1), .second, .val (.long q2), .second, .val (.long q3), .second, .val (.long q4), .second, .val (.int p5), .val (.int p6), .val (.int (1 : Int32)), .val (.int (2 : Int32)), .val (.int (Int32.ofNat o)), .val (.ref b13), .val (.ref b14), .unset, .unset, .unset, .unset, .unset] [(.ref b14)])) _
        refine XS.iconst X88.here hx rfl (hb hby at_77) ?_
        show Steps p.tables e below (T88.setTop (mkF m 78 #[.val (.long q1), .second, .val (.long q2), .second, .val (.long q3), .second, .val (.long q4), .second, .val (.int p5), .val (.int p6), .val (.int (1 : Int32)), .val (.int (2 : Int32)), .val (.int (Int32.ofNat o)), .val (.ref b13), .val (.ref b14), .unset, .unset, .unset, .unset, .unset] [(.int (0 : Int32)), (.ref b14)])) _
        refine XS.lloadN X88.here hx rfl (hb hby at_78) rfl ?_
        show Steps p.tables e below (T88.setTop (mkF m 79 #[.val (.long q1), .second, .val (.long q2), .second, .val (.long q3), .second, .val (.long q4), .second, .val (.int p5), .val (.int p6), .val (.int (1 : Int32)), .val (.int (2 : Int32)), .val (.int (Int32.ofNat o)), .val (.ref b13), .val (.ref b14), .unset, .unset, .unset, .unset, .unset] [(.long q1), (.int (0 : Int32)), (.ref b14)])) _
        refine XS.l2i X88.here hx rfl (hb hby at_79) rfl ?_
        show Steps p.tables e below (T88.setTop (mkF m 80 #[.val (.long q1), .second, .val (.long q2), .second, .val (.long q3), .second, .val (.long q4), .second, .val (.int p5), .val (.int p6), .val (.int (1 : Int32)), .val (.int (2 : Int32)), .val (.int (Int32.ofNat o)), .val (.ref b13), .val (.ref b14), .unset, .unset, .unset, .unset, .unset] [(.int (q1.toInt32)), (.int (0 : Int32)), (.ref b14)])) _
        refine XS.i2dS X88.here hx rfl (hb hby at_80) rfl rfl ?_
        exact k9
      obtain ⟨cl92, Ar92, Sz92, Hv92⟩ := u91
      have u93 : own_A Z h88 b14 .double 2 (fun j => .double (if j < 0 then FP.i2d (own_vv q1 q2 j) else 0)) := ⟨cl92, Ar92, Sz92, Hv92⟩
      obtain ⟨T94, h94, X94, e94, W94, st94⟩ := stD X88 hx hZ e88 Ar92 (j := (0 : Int32)) (own_hin Sz92 (by decide) (by decide)) (g := (mkF m 81 #[.val (.long q1), .second, .val (.long q2), .second, .val (.long q3), .second, .val (.long q4), .second, .val (.int p5), .val (.int p6), .val (.int (1 : Int32)), .val (.int (2 : Int32)), .val (.int (Int32.ofNat o)), .val (.ref b13), .val (.ref b14), .unset, .unset, .unset, .unset, .unset] [(.double (FP.i2d (q1.toInt32))), (.int (0 : Int32)), (.ref b14)])) rfl rfl (hb hby at_81)
      have N94 := Fr.snoc X94 N85 g_b14
      refine go (T94.setTop (mkF m 82 #[.val (.long q1), .second, .val (.long q2), .second, .val (.long q3), .second, .val (.long q4), .second, .val (.int p5), .val (.int p6), .val (.int (1 : Int32)), .val (.int (2 : Int32)), .val (.int (Int32.ofNat o)), .val (.ref b13), .val (.ref b14), .unset, .unset, .unset, .unset, .unset] [])) _ (fun t9 k9 => st94 _ k9) ?_
      have u95 : Keep h0 h94 [] := u89.wr W94 (Or.inr sz_b14)
      have u96 : own_A Z h94 b14 .double 2 (fun j => .double (if j < 1 then FP.i2d (own_vv q1 q2 j) else 0)) := own_A_congr (own_A_set Ar92 Sz92 Hv92 W94 (by decide)) (own_setf Value.double (fun j => FP.i2d (own_vv q1 q2 j)) 0 0 2)
      refine go (T94.setTop (mkF m 97 #[.val (.long q1), .second, .val (.long q2), .second, .val (.long q3), .second, .val (.long q4), .second, .val (.int p5), .val (.int p6), .val (.int (1 : Int32)), .val (.int (2 : Int32)), .val (.int (Int32.ofNat o)), .val (.ref b13), .val (.ref b14), .unset, .unset, .unset, .unset, .unset] [(.double (FP.i2d ((q1 >>> ((32 : Int32) &&& 0x3f).toInt64).toInt32))), (.int (1 : Int32)), (.ref b14)])) _ (fun t9 k9 => ?_) ?_
      · show Steps p.tables e below (T94.setTop (mkF m 82 #[.val (.long q1), .second, .val (.long q2), .second, .val (.long q3), .second, .val (.long q4), .second, .val (.int p5), .val (.int p6), .val (.int (1 : Int32)), .val (.int (2 : Int32)), .val (.int (Int32.ofNat o)), .val (.ref b13), .val (.ref b14), .unset, .unset, .unset, .unset, .unset] [])) _
        refine XS.iload X94.here hx rfl (hb hby at_82) rfl ?_
        show Steps p.tables e below (T94.setTop (mkF m 84 #[.val (.long q1), .second, .val (.long q2), .second, .val (.long q3), .second, .val (.long q4), .second, .val (.int p5), .val (.int p6), .val (.int (1 : Int32)), .val (.int (2 : Int32)), .val (.int (Int32.ofNat o)), .val (.ref b13), .val (.ref b14), .unset, .unset, .unset, .unset, .unset] [(.int (2 : Int32))])) _
        refine XS.iconst X94.here hx rfl (hb hby at_84) ?_
        show Steps p.tables e below (T94.setTop (mkF m 85 #[.val (.long q1), .second, .val (.long q2), .second, .val (.long q3), .second, .val (.long q4), .second, .val (.int p5), .val (.int p6), .val (.int (1 : Int32)), .val (.int (2 : Int32)), .val (.int (Int32.ofNat o)), .val (.ref b13), .val (.ref b14), .unset, .unset, .unset, .unset, .unset] [(.int (1 : Int32)), (.int (2 : Int32))])) _
        refine XS.icmpNo X94.here hx rfl (hb hby at_85) rfl (tlt (by decide : (1 : Int32) < (2 : Int32))).2.2.2 ?_
        show Steps p.tables e below (T94.setTop (mkF m 88 #[.val (.long q1), .second, .val (.long q2), .second, .val (.long q3), .second, .val (.long q4), .second, .val (.int p5), .val (.int p6), .val (.int (1 : Int32)), .val (.int (2 : Int32)), .val (.int (Int32.ofNat o)), .val (.ref b13), .val (.ref b14), .unset, .unset, .unset, .unset, .unset] [])) _
        refine XS.aload X94.here hx rfl (hb hby at_88) rfl rfl ?_
        show Steps p.tables e below (T94.setTop (mkF m 90 #[.val (.long q1), .second, .val (.long q2), .second, .val (.long q3), .second, .val (.long q4), .second, .val (.int p5), .val (.int p6), .val (.int (1 : Int32)), .val (.int (2 : Int32)), .val (.int (Int32.ofNat o)), .val (.ref b13), .val (.ref b14), .unset, .unset, .unset, .unset, .unset] [(.ref b14)])) _
        refine XS.iconst X94.here hx rfl (hb hby at_90) ?_
        show Steps p.tables e below (T94.setTop (mkF m 91 #[.val (.long q1), .second, .val (.long q2), .second, .val (.long q3), .second, .val (.long q4), .second, .val (.int p5), .val (.int p6), .val (.int (1 : Int32)), .val (.int (2 : Int32)), .val (.int (Int32.ofNat o)), .val (.ref b13), .val (.ref b14), .unset, .unset, .unset, .unset, .unset] [(.int (1 : Int32)), (.ref b14)])) _
        refine XS.lloadN X94.here hx rfl (hb hby at_91) rfl ?_
        show Steps p.tables e below (T94.setTop (mkF m 92 #[.val (.long q1), .second, .val (.long q2), .second, .val (.long q3), .second, .val (.long q4), .second, .val (.int p5), .val (.int p6), .val (.int (1 : Int32)), .val (.int (2 : Int32)), .val (.int (Int32.ofNat o)), .val (.ref b13), .val (.ref b14), .unset, .unset, .unset, .unset, .unset] [(.long q1), (.int (1 : Int32)), (.ref b14)])) _
        refine XS.bipush X94.here hx rfl (hb hby at_92) ?_
        show Steps p.tables e below (T94.setTop (mkF m 94 #[.val (.long q1), .second, .val (.long q2), .second, .val (.long q3), .second, .val (.long q4), .second, .val (.int p5), .val (.int p6), .val (.int (1 : Int32)), .val (.int (2 : Int32)), .val (.int (Int32.ofNat o)), .val (.ref b13), .val (.ref b14), .unset, .unset, .unset, .unset, .unset] [(.int (32 : Int32)), (.long q1), (.int (1 : Int32)), (.ref b14)])) _
        refine XS.lshr X94.here hx rfl (hb hby at_94) rfl ?_
        show Steps p.tables e below (T94.setTop (mkF m 95 #[.val (.long q1), .second, .val (.long q2), .second, .val (.long q3), .second, .val (.long q4), .second, .val (.int p5), .val (.int p6), .val (.int (1 : Int32)), .val (.int (2 : Int32)), .val (.int (Int32.ofNat o)), .val (.ref b13), .val (.ref b14), .unset, .unset, .unset, .unset, .unset] [(.long (q1 >>> ((32 : Int32) &&& 0x3f).toInt64)), (.int (1 : Int32)), (.ref b14)])) _
        refine XS.l2i X94.here hx rfl (hb hby at_95) rfl ?_
        show Steps p.tables e below (T94.setTop (mkF m 96 #[.val (.long q1), .second, .val (.long q2), .second, .val (.long q3), .second, .val (.long q4), .second, .val (.int p5), .val (.int p6), .val (.int (1 : Int32)), .val (.int (2 : Int32)), .val (.int (Int32.ofNat o)), .val (.ref b13), .val (.ref b14), .unset, .unset, .unset, .unset, .unset] [(.int ((q1 >>> ((32 : Int32) &&& 0x3f).toInt64).toInt32)), (.int (1 : Int32)), (.ref b14)])) _
        refine XS.i2dS X94.here hx rfl (hb hby at_96) rfl rfl ?_
        exact k9
      obtain ⟨cl97, Ar97, Sz97, Hv97⟩ := u96
      have u98 : own_A Z h94 b14 .double 2 (fun j => .double (if j < 1 then FP.i2d (own_vv q1 q2 j) else 0)) := ⟨cl97, Ar97, Sz97, Hv97⟩
      obtain ⟨T99, h99, X99, e99, W99, st99⟩ := stD X94 hx hZ e94 Ar97 (j := (1 : Int32)) (own_hin Sz97 (by decide) (by decide)) (g := (mkF m 97 #[.val (.long q1), .second, .val (.long q2), .second, .val (.long q3), .second, .val (.long q4), .second, .val (.int p5), .val (.int p6), .val (.int (1 : Int32)), .val (.int (2 : Int32)), .val (.int (Int32.ofNat o)), .val (.ref b13), .val (.ref b14), .unset, .unset, .unset, .unset, .unset] [(.double (FP.i2d ((q1 >>> ((32 : Int32) &&& 0x3f).toInt64).toInt32))), (.int (1 : Int32)), (.ref b14)])) rfl rfl (hb hby at_97)
      have N99 := Fr.snoc X99 N94 g_b14
      refine go (T99.setTop (mkF m 98 #[.val (.long q1), .second, .val (.long q2), .second, .val (.long q3), .second, .val (.long q4), .second, .val (.int p5), .val (.int p6), .val (.int (1 : Int32)), .val (.int (2 : Int32)), .val (.int (Int32.ofNat o)), .val (.ref b13), .val (.ref b14), .unset, .unset, .unset, .unset, .unset] [])) _ (fun t9 k9 => st99 _ k9) ?_
      have u100 : Keep h0 h99 [] := u95.wr W99 (Or.inr sz_b14)
      have u101 : own_A Z h99 b14 .double 2 (fun j => .double (if j < 2 then FP.i2d (own_vv q1 q2 j) else 0)) := own_A_congr (own_A_set Ar97 Sz97 Hv97 W99 (by decide)) (own_setf Value.double (fun j => FP.i2d (own_vv q1 q2 j)) 0 1 2)
      have u102 : own_A Z h99 b14 .double 2 (fun j => .double (FP.i2d (own_vv q1 q2 j))) := own_A_congr u101 (own_full Value.double (fun j => FP.i2d (own_vv q1 q2 j)) 0 2)
      refine go (T99.setTop (mkF m 121 #[.val (.long q1), .second, .val (.long q2), .second, .val (.long q3), .second, .val (.long q4), .second, .val (.int p5), .val (.int p6), .val (.int (1 : Int32)), .val (.int (2 : Int32)), .val (.int (Int32.ofNat o)), .val (.ref b13), .val (.ref b14), .unset, .unset, .unset, .unset, .unset] [])) _ (fun t9 k9 => ?_) ?_
      · show Steps p.tables e below (T99.setTop (mkF m 98 #[.val (.long q1), .second, .val (.long q2), .second, .val (.long q3), .second, .val (.long q4), .second, .val (.int p5), .val (.int p6), .val (.int (1 : Int32)), .val (.int (2 : Int32)), .val (.int (Int32.ofNat o)), .val (.ref b13), .val (.ref b14), .unset, .unset, .unset, .unset, .unset] [])) _
        refine XS.iload X99.here hx rfl (hb hby at_98) rfl ?_
        show Steps p.tables e below (T99.setTop (mkF m 100 #[.val (.long q1), .second, .val (.long q2), .second, .val (.long q3), .second, .val (.long q4), .second, .val (.int p5), .val (.int p6), .val (.int (1 : Int32)), .val (.int (2 : Int32)), .val (.int (Int32.ofNat o)), .val (.ref b13), .val (.ref b14), .unset, .unset, .unset, .unset, .unset] [(.int (2 : Int32))])) _
        refine XS.iconst X99.here hx rfl (hb hby at_100) ?_
        show Steps p.tables e below (T99.setTop (mkF m 101 #[.val (.long q1), .second, .val (.long q2), .second, .val (.long q3), .second, .val (.long q4), .second, .val (.int p5), .val (.int p6), .val (.int (1 : Int32)), .val (.int (2 : Int32)), .val (.int (Int32.ofNat o)), .val (.ref b13), .val (.ref b14), .unset, .unset, .unset, .unset, .unset] [(.int (2 : Int32)), (.int (2 : Int32))])) _
        refine XS.icmpYes X99.here hx rfl (pc0 := 101) (pc' := 121) rfl (hb hby at_101) rfl (flt (by decide : ¬ (2 : Int32) < (2 : Int32))).2.2.2 (by decide) (by decide) ?_
        exact k9
      exact j121 _ _ _ b13 b14 (X99.more (by decide) (by decide)) e99 u100 N99 u102
    · refine go (s₁.setTop (mkF m 57 #[.val (.long q1), .second, .val (.long q2), .second, .val (.long q3), .second, .val (.long q4), .second, .val (.int p5), .val (.int p6), .val (.int (2 : Int32)), .val (.int (4 : Int32)), .val (.int (Int32.ofNat o)), .unset, .unset, .unset, .unset, .unset, .unset, .unset] [(.int (2 : Int32))])) _ (fun t9 k9 => ?_) ?_
      · show Steps p.tables e below (s₁.setTop (mkF m 29 #[.val (.long q1), .second, .val (.long q2), .second, .val (.long q3), .second, .val (.long q4), .second, .val (.int p5), .val (.int p6), .val (.int (2 : Int32)), .val (.int (4 : Int32)), .val (.int (Int32.ofNat o)), .unset, .unset, .unset, .unset, .unset, .unset, .unset] [])) _
        refine XS.iload X0.here hx rfl (hb hby at_29) rfl ?_
        show Steps p.tables e below (s₁.setTop (mkF m 31 #[.val (.long q1), .second, .val (.long q2), .second, .val (.long q3), .second, .val (.long q4), .second, .val (.int p5), .val (.int p6), .val (.int (2 : Int32)), .val (.int (4 : Int32)), .val (.int (Int32.ofNat o)), .unset, .unset, .unset, .unset, .unset, .unset, .unset] [(.int (2 : Int32))])) _
        refine XS.ifYes X0.here hx rfl (pc0 := 31) (pc' := 40) rfl (hb hby at_31) rfl ((if0 _ _).trans (feq (by decide : ¬ (2 : Int32) = (0 : Int32))).2) (by decide) (by decide) ?_
        show Steps p.tables e below (s₁.setTop (mkF m 40 #[.val (.long q1), .second, .val (.long q2), .second, .val (.long q3), .second, .val (.long q4), .second, .val (.int p5), .val (.int p6), .val (.int (2 : Int32)), .val (.int (4 : Int32)), .val (.int (Int32.ofNat o)), .unset, .unset, .unset, .unset, .unset, .unset, .unset] [])) _
        refine XS.iload X0.here hx rfl (hb hby at_40) rfl ?_
        show Steps p.tables e below (s₁.setTop (mkF m 42 #[.val (.long q1), .second, .val (.long q2), .second, .val (.long q3), .second, .val (.long q4), .second, .val (.int p5), .val (.int p6), .val (.int (2 : Int32)), .val (.int (4 : Int32)), .val (.int (Int32.ofNat o)), .unset, .unset, .unset, .unset, .unset, .unset, .unset] [(.int (2 : Int32))])) _
        refine XS.iconst X0.here hx rfl (hb hby at_42) ?_
        show Steps p.tables e below (s₁.setTop (mkF m 43 #[.val (.long q1), .second, .val (.long q2), .second, .val (.long q3), .second, .val (.long q4), .second, .val (.int p5), .val (.int p6), .val (.int (2 : Int32)), .val (.int (4 : Int32)), .val (.int (Int32.ofNat o)), .unset, .unset, .unset, .unset, .unset, .unset, .unset] [(.int (1 : Int32)), (.int (2 : Int32))])) _
        refine XS.icmpYes X0.here hx rfl (pc0 := 43) (pc' := 56) rfl (hb hby at_43) rfl (feq (by decide : ¬ (2 : Int32) = (1 : Int32))).2 (by decide) (by decide) ?_
        show Steps p.tables e below (s₁.setTop (mkF m 56 #[.val (.long q1), .second, .val (.long q2), .second, .val (.long q3), .second, .val (.long q4), .second, .val (.int p5), .val (.int p6), .val (.int (2 : Int32)), .val (.int (4 : Int32)), .val (.int (Int32.ofNat o)), .unset, .unset, .unset, .unset, .unset, .unset, .unset] [])) _
        refine XS.iconst X0.here hx rfl (hb hby at_56) ?_
        exact k9
      obtain ⟨T103, h103, k103, X103, e103, E103, A103, st103⟩ := newP X0 hx hZ (hw _ (List.mem_of_getElem? (i := 0) rfl)) e0 (g := (mkF m 57 #[.val (.long q1), .second, .val (.long q2), .second, .val (.long q3), .second, .val (.long q4), .second, .val (.int p5), .val (.int p6), .val (.int (2 : Int32)), .val (.int (4 : Int32)), .val (.int (Int32.ofNat o)), .unset, .unset, .unset, .unset, .unset, .unset, .unset] [(.int (2 : Int32))])) rfl (hb hby at_57) rfl (by decide) (cap := 2) (by decide) (by decide) (by decide) (by decide)
      obtain ⟨b13, g103⟩ : ∃ z, z = h0.size := ⟨_, rfl⟩
      rw [← g103] at A103 st103
      refine go (T103.setTop (mkF m 59 #[.val (.long q1), .second, .val (.long q2), .second, .val (.long q3), .second, .val (.long q4), .second, .val (.int p5), .val (.int p6), .val (.int (2 : Int32)), .val (.int (4 : Int32)), .val (.int (Int32.ofNat o)), .unset, .unset, .unset, .unset, .unset, .unset, .unset] [(.ref b13)])) _ (fun t9 k9 => st103 _ k9) ?_
      have sz_b13 : h0.size ≤ b13 := Nat.le_trans (Keep.refl h0 []).1 (Nat.le_of_eq g103.symm)
      have g_b13 : n0 ≤ b13 := Nat.le_trans Z0 sz_b13
      have u104 : Keep h0 h103 [] := (Keep.refl h0 []).ext E103
      have u105 : own_A Z h103 b13 .int 2 (fun _ => (.int 0)) := own_A_new A103 rfl
      refine go (T103.setTop (mkF m 62 #[.val (.long q1), .second, .val (.long q2), .second, .val (.long q3), .second, .val (.long q4), .second, .val (.int p5), .val (.int p6), .val (.int (2 : Int32)), .val (.int (4 : Int32)), .val (.int (Int32.ofNat o)), .unset, .unset, .unset, .unset, .unset, .unset, .unset] [(.int (0 : Int32)), (.int (0 : Int32)), (.ref b13), (.ref b13)])) _ (fun t9 k9 => ?_) ?_
      · show Steps p.tables e below (T103.setTop (mkF m 59 #[.val (.long q1), .second, .val (.long q2), .second, .val (.long q3), .second, .val (.long q4), .second, .val (.int p5), .val (.int p6), .val (.int (2 : Int32)), .val (.int (4 : Int32)), .val (.int (Int32.ofNat o)), .unset, .unset, .unset, .unset, .unset, .unset, .unset] [(.ref b13)])) _
        refine XS.dup X103.here hx rfl (hb hby at_59) rfl rfl ?_
        show Steps p.tables e below (T103.setTop (mkF m 60 #[.val (.long q1), .second, .val (.long q2), .second, .val (.long q3), .second, .val (.long q4), .second, .val (.int p5), .val (.int p6), .val (.int (2 : Int32)), .val (.int (4 : Int32)), .val (.int (Int32.ofNat o)), .unset, .unset, .unset, .unset, .unset, .unset, .unset] [(.ref b13), (.ref b13)])) _
        refine XS.iconst X103.here hx rfl (hb hby at_60) ?_
        show Steps p.tables e below (T103.setTop (mkF m 61 #[.val (.long q1), .second, .val (.long q2), .second, .val (.long q3), .second, .val (.long q4), .second, .val (.int p5), .val (.int p6), .val (.int (2 : Int32)), .val (.int (4 : Int32)), .val (.int (Int32.ofNat o)), .unset, .unset, .unset, .unset, .unset, .unset, .unset] [(.int (0 : Int32)), (.ref b13), (.ref b13)])) _
        refine XS.iconst X103.here hx rfl (hb hby at_61) ?_
        exact k9
      obtain ⟨cl106, Ar106, Sz106, Hv106⟩ := u105
      have u107 : own_A Z h103 b13 .int 2 (fun _ => (.int 0)) := ⟨cl106, Ar106, Sz106, Hv106⟩
      obtain ⟨T108, h108, X108, e108, W108, st108⟩ := stI X103 hx hZ e103 Ar106 (j := (0 : Int32)) (own_hin Sz106 (by decide) (by decide)) (g := (mkF m 62 #[.val (.long q1), .second, .val (.long q2), .second, .val (.long q3), .second, .val (.long q4), .second, .val (.int p5), .val (.int p6), .val (.int (2 : Int32)), .val (.int (4 : Int32)), .val (.int (Int32.ofNat o)), .unset, .unset, .unset, .unset, .unset, .unset, .unset] [(.int (0 : Int32)), (.int (0 : Int32)), (.ref b13), (.ref b13)])) rfl rfl (hb hby at_62)
      have N108 := Fr.snoc X108 N0 g_b13
      refine go (T108.setTop (mkF m 63 #[.val (.long q1), .second, .val (.long q2), .second, .val (.long q3), .second, .val (.long q4), .second, .val (.int p5), .val (.int p6), .val (.int (2 : Int32)), .val (.int (4 : Int32)), .val (.int (Int32.ofNat o)), .unset, .unset, .unset, .unset, .unset, .unset, .unset] [(.ref b13)])) _ (fun t9 k9 => st108 _ k9) ?_
      have u109 : Keep h0 h108 [] := u104.wr W108 (Or.inr sz_b13)
      have u110 : own_A Z h108 b13 .int 2 (fun j => .int (if j < 1 then Int32.ofNat j else 0)) := own_A_congr (own_A_set Ar106 Sz106 Hv106 W108 (by decide)) (fun j hj => by
        have : j = 0 ∨ j = 1 := by omega
        rcases this with rfl | rfl <;> decide)
      refine go (T108.setTop (mkF m 66 #[.val (.long q1), .second, .val (.long q2), .second, .val (.long q3), .second, .val (.long q4), .second, .val (.int p5), .val (.int p6), .val (.int (2 : Int32)), .val (.int (4 : Int32)), .val (.int (Int32.ofNat o)), .unset, .unset, .unset, .unset, .unset, .unset, .unset] [(.int (1 : Int32)), (.int (1 : Int32)), (.ref b13), (.ref b13)])) _ (fun t9 k9 => ?_) ?_
      · show Steps p.tables e below (T108.setTop (mkF m 63 #[.val (.long q1), .second, .val (.long q2), .second, .val (.long q3), .second, .val (.long q4), .second, .val (.int p5), .val (.int p6), .val (.int (2 : Int32)), .val (.int (4 : Int32)), .val (.int (Int32.ofNat o)), .unset, .unset, .unset, .unset, .unset, .unset, .unset] [(.ref b13)])) _
        refine XS.dup X108.here hx rfl (hb hby at_63) rfl rfl ?_
        show Steps p.tables e below (T108.setTop (mkF m 64 #[.val (.long q1), .second, .val (.long q2), .second, .val (.long q3), .second, .val (.long q4), .second, .val (.int p5), .val (.int p6), .val (.int (2 : Int32)), .val (.int (4 : Int32)), .val (.int (Int32.ofNat o)), .unset, .unset, .unset, .unset, .unset, .unset, .unset] [(.ref b13), (.ref b13)])) _
        refine XS.iconst X108.here hx rfl (hb hby at_64) ?_
        show Steps p.tables e below (T108.setTop (mkF m 65 #[.val (.long q1), .second, .val (.long q2), .second, .val (.long q3), .second, .val (.long q4), .second, .val (.int p5), .val (.int p6), .val (.int (2 : Int32)), .val (.int (4 : Int32)), .val (.int (Int32.ofNat o)), .unset, .unset, .unset, .unset, .unset, .unset, .unset] [(.int (1 : Int32)), (.ref b13), (.ref b13)])) _
        refine XS.iconst X108.here hx rfl (hb hby at_65) ?_
        exact k9
      obtain ⟨cl111, Ar111, Sz111, Hv111⟩ := u110
      have u112 : own_A Z h108 b13 .int 2 (fun j => .int (if j < 1 then Int32.ofNat j else 0)) := ⟨cl111, Ar111, Sz111, Hv111⟩
      obtain ⟨T113, h113, X113, e113, W113, st113⟩ := stI X108 hx hZ e108 Ar111 (j := (1 : Int32)) (own_hin Sz111 (by decide) (by decide)) (g := (mkF m 66 #[.val (.long q1), .second, .val (.long q2), .second, .val (.long q3), .second, .val (.long q4), .second, .val (.int p5), .val (.int p6), .val (.int (2 : Int32)), .val (.int (4 : Int32)), .val (.int (Int32.ofNat o)), .unset, .unset, .unset, .unset, .unset, .unset, .unset] [(.int (1 : Int32)), (.int (1 : Int32)), (.ref b13), (.ref b13)])) rfl rfl (hb hby at_66)
      have N113 := Fr.snoc X113 N108 g_b13
      refine go (T113.setTop (mkF m 67 #[.val (.long q1), .second, .val (.long q2), .second, .val (.long q3), .second, .val (.long q4), .second, .val (.int p5), .val (.int p6), .val (.int (2 : Int32)), .val (.int (4 : Int32)), .val (.int (Int32.ofNat o)), .unset, .unset, .unset, .unset, .unset, .unset, .unset] [(.ref b13)])) _ (fun t9 k9 => st113 _ k9) ?_
      have u114 : Keep h0 h113 [] := u109.wr W113 (Or.inr sz_b13)
      have u115 : own_A Z h113 b13 .int 2 (fun j => .int (if j < 2 then Int32.ofNat j else 0)) := own_A_congr (own_A_set Ar111 Sz111 Hv111 W113 (by decide)) (fun j hj => by
        have : j = 0 ∨ j = 1 := by omega
        rcases this with rfl | rfl <;> decide)
      refine go (T113.setTop (mkF m 71 #[.val (.long q1), .second, .val (.long q2), .second, .val (.long q3), .second, .val (.long q4), .second, .val (.int p5), .val (.int p6), .val (.int (2 : Int32)), .val (.int (4 : Int32)), .val (.int (Int32.ofNat o)), .val (.ref b13), .unset, .unset, .unset, .unset, .unset, .unset] [(.int (4 : Int32))])) _ (fun t9 k9 => ?_) ?_
      · show Steps p.tables e below (T113.setTop (mkF m 67 #[.val (.long q1), .second, .val (.long q2), .second, .val (.long q3), .second, .val (.long q4), .second, .val (.int p5), .val (.int p6), .val (.int (2 : Int32)), .val (.int (4 : Int32)), .val (.int (Int32.ofNat o)), .unset, .unset, .unset, .unset, .unset, .unset, .unset] [(.ref b13)])) _
        refine XS.astore X113.here hx rfl (hb hby at_67) rfl rfl (l' := #[.val (.long q1), .second, .val (.long q2), .second, .val (.long q3), .second, .val (.long q4), .second, .val (.int p5), .val (.int p6), .val (.int (2 : Int32)), .val (.int (4 : Int32)), .val (.int (Int32.ofNat o)), .val (.ref b13), .unset, .unset, .unset, .unset, .unset, .unset]) rfl ?_
        show Steps p.tables e below (T113.setTop (mkF m 69 #[.val (.long q1), .second, .val (.long q2), .second, .val (.long q3), .second, .val (.long q4), .second, .val (.int p5), .val (.int p6), .val (.int (2 : Int32)), .val (.int (4 : Int32)), .val (.int (Int32.ofNat o)), .val (.ref b13), .unset, .unset, .unset, .unset, .unset, .unset] [])) _
        refine XS.iload X113.here hx rfl (hb hby at_69) rfl ?_
        exact k9
      obtain ⟨T116, h116, k116, X116, e116, E116, A116, st116⟩ := newP X113 hx hZ (hw _ (List.mem_of_getElem? (i := 1) rfl)) e113 (g := (mkF m 71 #[.val (.long q1), .second, .val (.long q2), .second, .val (.long q3), .second, .val (.long q4), .second, .val (.int p5), .val (.int p6), .val (.int (2 : Int32)), .val (.int (4 : Int32)), .val (.int (Int32.ofNat o)), .val (.ref b13), .unset, .unset, .unset, .unset, .unset, .unset] [(.int (4 : Int32))])) rfl (hb hby at_71) rfl (by decide) (cap := 4) (by decide) (by decide) (by decide) (by decide)
      obtain ⟨b14, g116⟩ : ∃ z, z = h113.size := ⟨_, rfl⟩
      rw [← g116] at A116 st116
      refine go (T116.setTop (mkF m 73 #[.val (.long q1), .second, .val (.long q2), .second, .val (.long q3), .second, .val (.long q4), .second, .val (.int p5), .val (.int p6), .val (.int (2 : Int32)), .val (.int (4 : Int32)), .val (.int (Int32.ofNat o)), .val (.ref b13), .unset, .unset, .unset, .unset, .unset, .unset] [(.ref b14)])) _ (fun t9 k9 => st116 _ k9) ?_
      have sz_b14 : h0.size ≤ b14 := Nat.le_trans u114.1 (Nat.le_of_eq g116.symm)
      have g_b14 : n0 ≤ b14 := Nat.le_trans Z0 sz_b14
      have u117 : Keep h0 h116 [] := u114.ext E116
      have u118 : own_A Z h116 b14 .double 4 (fun _ => (.double 0)) := own_A_new A116 rfl
      have u119 : own_A Z h116 b14 .double 4 (fun j => .double (if j < 0 then FP.i2d (own_vv q1 q2 j) else 0)) := own_A_congr u118 (own_zero Value.double (fun j => FP.i2d (own_vv q1 q2 j)) 0 4)
      refine go (T116.setTop (mkF m 81 #[.val (.long q1), .second, .val (.long q2), .second, .val (.long q3), .second, .val (.long q4), .second, .val (.int p5), .val (.int p6), .val (.int (2 : Int32)), .val (.int (4 : Int32)), .val (.int (Int32.ofNat o)), .val (.ref b13), .val (.ref b14), .unset, .unset, .unset, .unset, .unset] [(.double (FP.i2d (q1.toInt32))), (.int (0 : Int32)), (.ref b14)])) _ (fun t9 k9 => ?_) ?_
      · show Steps p.tables e below (T116.setTop (mkF m 73 #[.val (.long q1), .second, .val (.long q2), .second, .val (.long q3), .second, .val (.long q4), .second, .val (.int p5), .val (.int p6), .val (.int (2 : Int32)), .val (.int (4 : Int32)), .val (.int (Int32.ofNat o)), .val (.ref b13), .unset, .unset, .unset, .unset, .unset, .unset] [(.ref b14)])) _
        refine XS.astore X116.here hx rfl (hb hby at_73) rfl rfl (l' := #[.val (.long q1), .second, .val (.long q2), .second, .val (.long q3), .second, .val (.long q4), .second, .val (.int p5), .val (.int p6), .val (.int (2 : Int32)), .val (.int (4 : Int32)), .val (.int (Int32.ofNat o)), .val (.ref b13), .val (.ref b14), .unset, .unset, .unset, .unset, .unset]) rfl ?_
        show Steps p.tables e below (T116.setTop (mkF m 75 #[.val (.long q1), .second, .val (.long q2), .second, .val (.long q3), .second, .val (.long q4), .second, .val (.int p5), .val (.int p6), .val (.int (2 : Int32)), .val (.int (4 : Int32)), .val (.int (Int32.ofNat o)), .val (.ref b13), .val (.ref b14), .unset, .unset, .unset, .unset, .unset] [])) _
        refine XS.aload X116.here hx rfl (hb hby at_75) rfl rfl ?_
        show Steps p.tables e below (T116.setTop (mkF m 77 #[.val (.long q1), .second, .val (.long q2), .second, .val (.long q3), .second, .val (.long q4), .second, .val (.int p5), .val (.int p6), .val (.int (2 : Int32)), .val (.int (4 : Int32)), .val (.int (Int32.ofNat o)), .val (.ref b13), .val (.ref b14), .unset, .unset, .unset, .unset, .unset] [(.ref b14)])) _
        refine XS.iconst X116.here hx rfl (hb hby at_77) ?_
        show Steps p.tables e below (T116.setTop (mkF m 78 #[.val (.long q1), .second, .val (.long q2), .second, .val (.long q3), .second, .val (.long q4), .second, .val (.int p5), .val (.int p6), .val (.int (2 : Int32)), .val (.int (4 : Int32)), .val (.int (Int32.ofNat o)), .val (.ref b13), .val (.ref b14), .unset, .unset, .unset, .unset, .unset] [(.int (0 : Int32)), (.ref b14)])) _
        refine XS.lloadN X116.here hx rfl (hb hby at_78) rfl ?_
        show Steps p.tables e below (T116.setTop (mkF m 79 #[.val (.long q1), .second, .val (.long q2), .second, .val (.long q3), .second, .val (.long q4), .second, .val (.int p5), .val (.int p6), .val (.int (2 : Int32)), .val (.int (4 : Int32)), .val (.int (Int32.ofNat o)), .val (.ref b13), .val (.ref b14), .unset, .unset, .unset, .unset, .unset] [(.long q1), (.int (0 : Int32)), (.ref b14)])) _
        refine XS.l2i X116.here hx rfl (hb hby at_79) rfl ?_
        show Steps p.tables e below (T116.setTop (mkF m 80 #[.val (.long q1), .second, .val (.long q2), .second, .val (.long q3), .second, .val (.long q4), .second, .val (.int p5), .val (.int p6), .val (.int (2 : Int32)), .val (.int (4 : Int32)), .val (.int (Int32.ofNat o)), .val (.ref b13), .val (.ref b14), .unset, .unset, .unset, .unset, .unset] [(.int (q1.toInt32)), (.int (0 : Int32)), (.ref b14)])) _
        refine XS.i2dS X116.here hx rfl (hb hby at_80) rfl rfl ?_
        exact k9
      obtain ⟨cl120, Ar120, Sz120, Hv120⟩ := u119
      have u121 : own_A Z h116 b14 .double 4 (fun j => .double (if j < 0 then FP.i2d (own_vv q1 q2 j) else 0)) := ⟨cl120, Ar120, Sz120, Hv120⟩
      obtain ⟨T122, h122, X122, e122, W122, st122⟩ := stD X116 hx hZ e116 Ar120 (j := (0 : Int32)) (own_hin Sz120 (by decide) (by decide)) (g := (mkF m 81 #[.val (.long q1), .second, .val (.long q2), .second, .val (.long q3), .second, .val (.long q4), .second, .val (.int p5), .val (.int p6), .val (.int (2 : Int32)), .val (.int (4 : Int32)), .val (.int (Int32.ofNat o)), .val (.ref b13), .val (.ref b14), .unset, .unset, .unset, .unset, .unset] [(.double (FP.i2d (q1.toInt32))), (.int (0 : Int32)), (.ref b14)])) rfl rfl (hb hby at_81)
      have N122 := Fr.snoc X122 N113 g_b14
      refine go (T122.setTop (mkF m 82 #[.val (.long q1), .second, .val (.long q2), .second, .val (.long q3), .second, .val (.long q4), .second, .val (.int p5), .val (.int p6), .val (.int (2 : Int32)), .val (.int (4 : Int32)), .val (.int (Int32.ofNat o)), .val (.ref b13), .val (.ref b14), .unset, .unset, .unset, .unset, .unset] [])) _ (fun t9 k9 => st122 _ k9) ?_
      have u123 : Keep h0 h122 [] := u117.wr W122 (Or.inr sz_b14)
      have u124 : own_A Z h122 b14 .double 4 (fun j => .double (if j < 1 then FP.i2d (own_vv q1 q2 j) else 0)) := own_A_congr (own_A_set Ar120 Sz120 Hv120 W122 (by decide)) (own_setf Value.double (fun j => FP.i2d (own_vv q1 q2 j)) 0 0 4)
      refine go (T122.setTop (mkF m 97 #[.val (.long q1), .second, .val (.long q2), .second, .val (.long q3), .second, .val (.long q4), .second, .val (.int p5), .val (.int p6), .val (.int (2 : Int32)), .val (.int (4 : Int32)), .val (.int (Int32.ofNat o)), .val (.ref b13), .val (.ref b14), .unset, .unset, .unset, .unset, .unset] [(.double (FP.i2d ((q1 >>> ((32 : Int32) &&& 0x3f).toInt64).toInt32))), (.int (1 : Int32)), (.ref b14)])) _ (fun t9 k9 => ?_) ?_
      · show Steps p.tables e below (T122.setTop (mkF m 82 #[.val (.long q1), .second, .val (.long q2), .second, .val (.long q3), .second, .val (.long q4), .second, .val (.int p5), .val (.int p6), .val (.int (2 : Int32)), .val (.int (4 : Int32)), .val (.int (Int32.ofNat o)), .val (.ref b13), .val (.ref b14), .unset, .unset, .unset, .unset, .unset] [])) _
        refine XS.iload X122.here hx rfl (hb hby at_82) rfl ?_
        show Steps p.tables e below (T122.setTop (mkF m 84 #[.val (.long q1), .second, .val (.long q2), .second, .val (.long q3), .second, .val (.long q4), .second, .val (.int p5), .val (.int p6), .val (.int (2 : Int32)), .val (.int (4 : Int32)), .val (.int (Int32.ofNat o)), .val (.ref b13), .val (.ref b14), .unset, .unset, .unset, .unset, .unset] [(.int (4 : Int32))])) _
        refine XS.iconst X122.here hx rfl (hb hby at_84) ?_
        show Steps p.tables e below (T122.setTop (mkF m 85 #[.val (.long q1), .second, .val (.long q2), .second, .val (.long q3), .second, .val (.long q4), .second, .val (.int p5), .val (.int p6), .val (.int (2 : Int32)), .val (.int (4 : Int32)), .val (.int (Int32.ofNat o)), .val (.ref b13), .val (.ref b14), .unset, .unset, .unset, .unset, .unset] [(.int (1 : Int32)), (.int (4 : Int32))])) _
        refine XS.icmpNo X122.here hx rfl (hb hby at_85) rfl (tlt (by decide : (1 : Int32) < (4 : Int32))).2.2.2 ?_
        show Steps p.tables e below (T122.setTop (mkF m 88 #[.val (.long q1), .second, .val (.long q2), .second, .val (.long q3), .second, .val (.long q4), .second, .val (.int p5), .val (.int p6), .val (.int (2 : Int32)), .val (.int (4 : Int32)), .val (.int (Int32.ofNat o)), .val (.ref b13), .val (.ref b14), .unset, .unset, .unset, .unset, .unset] [])) _
        refine XS.aload X122.here hx rfl (hb hby at_88) rfl rfl ?_
        show Steps p.tables e below (T122.setTop (mkF m 90 #[.val (.long q1), .second, .val (.long q2), .second, .val (.long q3), .second, .val (.long q4), .second, .val (.int p5), .val (.int p6), .val (.int (2 : Int32)), .val (.int (4 : Int32)), .val (.int (Int32.ofNat o)), .val (.ref b13), .val (.ref b14), .unset, .unset, .unset, .unset, .unset] [(.ref b14)])) _
        refine XS.iconst X122.here hx rfl (hb hby at_90) ?_
        show Steps p.tables e below (T122.setTop (mkF m 91 #[.val (.long q1), .second, .val (.long q2), .second, .val (.long q3), .second, .val (.long q4), .second, .val (.int p5), .val (.int p6), .val (.int (2 : Int32)), .val (.int (4 : Int32)), .val (.int (Int32.ofNat o)), .val (.ref b13), .val (.ref b14), .unset, .unset, .unset, .unset, .unset] [(.int (1 : Int32)), (.ref b14)])) _
        refine XS.lloadN X122.here hx rfl (hb hby at_91) rfl ?_
        show Steps p.tables e below (T122.setTop (mkF m 92 #[.val (.long q1), .second, .val (.long q2), .second, .val (.long q3), .second, .val (.long q4), .second, .val (.int p5), .val (.int p6), .val (.int (2 : Int32)), .val (.int (4 : Int32)), .val (.int (Int32.ofNat o)), .val (.ref b13), .val (.ref b14), .unset, .unset, .unset, .unset, .unset] [(.long q1), (.int (1 : Int32)), (.ref b14)])) _
        refine XS.bipush X122.here hx rfl (hb hby at_92) ?_
        show Steps p.tables e below (T122.setTop (mkF m 94 #[.val (.long q1), .second, .val (.long q2), .second, .val (.long q3), .second, .val (.long q4), .second, .val (.int p5), .val (.int p6), .val (.int (2 : Int32)), .val (.int (4 : Int32)), .val (.int (Int32.ofNat o)), .val (.ref b13), .val (.ref b14), .unset, .unset, .unset, .unset, .unset] [(.int (32 : Int32)), (.long q1), (.int (1 : Int32)), (.ref b14)])) _
        refine XS.lshr X122.here hx rfl (hb hby at_94) rfl ?_
        show Steps p.tables e below (T122.setTop (mkF m 95 #[.val (.long q1), .second, .val (.long q2), .second, .val (.long q3), .second, .val (.long q4), .second, .val (.int p5), .val (.int p6), .val (.int (2 : Int32)), .val (.int (4 : Int32)), .val (.int (Int32.ofNat o)), .val (.ref b13), .val (.ref b14), .unset, .unset, .unset, .unset, .unset] [(.long (q1 >>> ((32 : Int32) &&& 0x3f).toInt64)), (.int (1 : Int32)), (.ref b14)])) _
        refine XS.l2i X122.here hx rfl (hb hby at_95) rfl ?_
        show Steps p.tables e below (T122.setTop (mkF m 96 #[.val (.long q1), .second, .val (.long q2), .second, .val (.long q3), .second, .val (.long q4), .second, .val (.int p5), .val (.int p6), .val (.int (2 : Int32)), .val (.int (4 : Int32)), .val (.int (Int32.ofNat o)), .val (.ref b13), .val (.ref b14), .unset, .unset, .unset, .unset, .unset] [(.int ((q1 >>> ((32 : Int32) &&& 0x3f).toInt64).toInt32)), (.int (1 : Int32)), (.ref b14)])) _
        refine XS.i2dS X122.here hx rfl (hb hby at_96) rfl rfl ?_
        exact k9
      obtain ⟨cl125, Ar125, Sz125, Hv125⟩ := u124
      have u126 : own_A Z h122 b14 .double 4 (fun j => .double (if j < 1 then FP.i2d (own_vv q1 q2 j) else 0)) := ⟨cl125, Ar125, Sz125, Hv125⟩
      obtain ⟨T127, h127, X127, e127, W127, st127⟩ := stD X122 hx hZ e122 Ar125 (j := (1 : Int32)) (own_hin Sz125 (by decide) (by decide)) (g := (mkF m 97 #[.val (.long q1), .second, .val (.long q2), .second, .val (.long q3), .second, .val (.long q4), .second, .val (.int p5), .val (.int p6), .val (.int (2 : Int32)), .val (.int (4 : Int32)), .val (.int (Int32.ofNat o)), .val (.ref b13), .val (.ref b14), .unset, .unset, .unset, .unset, .unset] [(.double (FP.i2d ((q1 >>> ((32 : Int32) &&& 0x3f).toInt64).toInt32))), (.int (1 : Int32)), (.ref b14)])) rfl rfl (hb hby at_97)
      have N127 := Fr.snoc X127 N122 g_b14
      refine go (T127.setTop (mkF m 98 #[.val (.long q1), .second, .val (.long q2), .second, .val (.long q3), .second, .val (.long q4), .second, .val (.int p5), .val (.int p6), .val (.int (2 : Int32)), .val (.int (4 : Int32)), .val (.int (Int32.ofNat o)), .val (.ref b13), .val (.ref b14), .unset, .unset, .unset, .unset, .unset] [])) _ (fun t9 k9 => st127 _ k9) ?_
      have u128 : Keep h0 h127 [] := u123.wr W127 (Or.inr sz_b14)
      have u129 : own_A Z h127 b14 .double 4 (fun j => .double (if j < 2 then FP.i2d (own_vv q1 q2 j) else 0)) := own_A_congr (own_A_set Ar125 Sz125 Hv125 W127 (by decide)) (own_setf Value.double (fun j => FP.i2d (own_vv q1 q2 j)) 0 1 4)
      refine go (T127.setTop (mkF m 110 #[.val (.long q1), .second, .val (.long q2), .second, .val (.long q3), .second, .val (.long q4), .second, .val (.int p5), .val (.int p6), .val (.int (2 : Int32)), .val (.int (4 : Int32)), .val (.int (Int32.ofNat o)), .val (.ref b13), .val (.ref b14), .unset, .unset, .unset, .unset, .unset] [(.double (FP.i2d (q2.toInt32))), (.int (2 : Int32)), (.ref b14)])) _ (fun t9 k9 => ?_) ?_
      · show Steps p.tables e below (T127.setTop (mkF m 98 #[.val (.long q1), .second, .val (.long q2), .second, .val (.long q3), .second, .val (.long q4), .second, .val (.int p5), .val (.int p6), .val (.int (2 : Int32)), .val (.int (4 : Int32)), .val (.int (Int32.ofNat o)), .val (.ref b13), .val (.ref b14), .unset, .unset, .unset, .unset, .unset] [])) _
        refine XS.iload X127.here hx rfl (hb hby at_98) rfl ?_
        show Steps p.tables e below (T127.setTop (mkF m 100 #[.val (.long q1), .second, .val (.long q2), .second, .val (.long q3), .second, .val (.long q4), .second, .val (.int p5), .val (.int p6), .val (.int (2 : Int32)), .val (.int (4 : Int32)), .val (.int (Int32.ofNat o)), .val (.ref b13), .val (.ref b14), .unset, .unset, .unset, .unset, .unset] [(.int (4 : Int32))])) _
        refine XS.iconst X127.here hx rfl (hb hby at_100) ?_
        show Steps p.tables e below (T127.setTop (mkF m 101 #[.val (.long q1), .second, .val (.long q2), .second, .val (.long q3), .second, .val (.long q4), .second, .val (.int p5), .val (.int p6), .val (.int (2 : Int32)), .val (.int (4 : Int32)), .val (.int (Int32.ofNat o)), .val (.ref b13), .val (.ref b14), .unset, .unset, .unset, .unset, .unset] [(.int (2 : Int32)), (.int (4 : Int32))])) _
        refine XS.icmpNo X127.here hx rfl (hb hby at_101) rfl (tlt (by decide : (2 : Int32) < (4 : Int32))).2.2.2 ?_
        show Steps p.tables e below (T127.setTop (mkF m 104 #[.val (.long q1), .second, .val (.long q2), .second, .val (.long q3), .second, .val (.long q4), .second, .val (.int p5), .val (.int p6), .val (.int (2 : Int32)), .val (.int (4 : Int32)), .val (.int (Int32.ofNat o)), .val (.ref b13), .val (.ref b14), .unset, .unset, .unset, .unset, .unset] [])) _
        refine XS.aload X127.here hx rfl (hb hby at_104) rfl rfl ?_
        show Steps p.tables e below (T127.setTop (mkF m 106 #[.val (.long q1), .second, .val (.long q2), .second, .val (.long q3), .second, .val (.long q4), .second, .val (.int p5), .val (.int p6), .val (.int (2 : Int32)), .val (.int (4 : Int32)), .val (.int (Int32.ofNat o)), .val (.ref b13), .val (.ref b14), .unset, .unset, .unset, .unset, .unset] [(.ref b14)])) _
        refine XS.iconst X127.here hx rfl (hb hby at_106) ?_
        show Steps p.tables e below (T127.setTop (mkF m 107 #[.val (.long q1), .second, .val (.long q2), .second, .val (.long q3), .second, .val (.long q4), .second, .val (.int p5), .val (.int p6), .val (.int (2 : Int32)), .val (.int (4 : Int32)), .val (.int (Int32.ofNat o)), .val (.ref b13), .val (.ref b14), .unset, .unset, .unset, .unset, .unset] [(.int (2 : Int32)), (.ref b14)])) _
        refine XS.lloadN X127.here hx rfl (hb hby at_107) rfl ?_
        show Steps p.tables e below (T127.setTop (mkF m 108 #[.val (.long q1), .second, .val (.long q2), .second, .val (.long q3), .second, .val (.long q4), .second, .val (.int p5), .val (.int p6), .val (.int (2 : Int32)), .val (.int (4 : Int32)), .val (.int (Int32.ofNat o)), .val (.ref b13), .val (.ref b14), .unset, .unset, .unset, .unset, .unset] [(.long q2), (.int (2 : Int32)), (.ref b14)])) _
        refine XS.l2i X127.here hx rfl (hb hby at_108) rfl ?_
        show Steps p.tables e below (T127.setTop (mkF m 109 #[.val (.long q1), .second, .val (.long q2), .second, .val (.long q3), .second, .val (.long q4), .second, .val (.int p5), .val (.int p6), .val (.int (2 : Int32)), .val (.int (4 : Int32)), .val (.int (Int32.ofNat o)), .val (.ref b13), .val (.ref b14), .unset, .unset, .unset, .unset, .unset] [(.int (q2.toInt32)), (.int (2 : Int32)), (.ref b14)])) _
        refine XS.i2dS X127.here hx rfl (hb hby at_109) rfl rfl ?_
        exact k9
      obtain ⟨cl130, Ar130, Sz130, Hv130⟩ := u129
      have u131 : own_A Z h127 b14 .double 4 (fun j => .double (if j < 2 then FP.i2d (own_vv q1 q2 j) else 0)) := ⟨cl130, Ar130, Sz130, Hv130⟩
      obtain ⟨T132, h132, X132, e132, W132, st132⟩ := stD X127 hx hZ e127 Ar130 (j := (2 : Int32)) (own_hin Sz130 (by decide) (by decide)) (g := (mkF m 110 #[.val (.long q1), .second, .val (.long q2), .second, .val (.long q3), .second, .val (.long q4), .second, .val (.int p5), .val (.int p6), .val (.int (2 : Int32)), .val (.int (4 : Int32)), .val (.int (Int32.ofNat o)), .val (.ref b13), .val (.ref b14), .unset, .unset, .unset, .unset, .unset] [(.double (FP.i2d (q2.toInt32))), (.int (2 : Int32)), (.ref b14)])) rfl rfl (hb hby at_110)
      have N132 := Fr.snoc X132 N127 g_b14
      refine go (T132.setTop (mkF m 111 #[.val (.long q1), .second, .val (.long q2), .second, .val (.long q3), .second, .val (.long q4), .second, .val (.int p5), .val (.int p6), .val (.int (2 : Int32)), .val (.int (4 : Int32)), .val (.int (Int32.ofNat o)), .val (.ref b13), .val (.ref b14), .unset, .unset, .unset, .unset, .unset] [])) _ (fun t9 k9 => st132 _ k9) ?_
      have u133 : Keep h0 h132 [] := u128.wr W132 (Or.inr sz_b14)
      have u134 : own_A Z h132 b14 .double 4 (fun j => .double (if j < 3 then FP.i2d (own_vv q1 q2 j) else 0)) := own_A_congr (own_A_set Ar130 Sz130 Hv130 W132 (by decide)) (own_setf Value.double (fun j => FP.i2d (own_vv q1 q2 j)) 0 2 4)
      refine go (T132.setTop (mkF m 120 #[.val (.long q1), .second, .val (.long q2), .second, .val (.long q3), .second, .val (.long q4), .second, .val (.int p5), .val (.int p6), .val (.int (2 : Int32)), .val (.int (4 : Int32)), .val (.int (Int32.ofNat o)), .val (.ref b13), .val (.ref b14), .unset, .unset, .unset, .unset, .unset] [(.double (FP.i2d ((q2 >>> ((32 : Int32) &&& 0x3f).toInt64).toInt32))), (.int (3 : Int32)), (.ref b14)])) _ (fun t9 k9 => ?_) ?_
      · show Steps p.tables e below (T132.setTop (mkF m 111 #[.val (.long q1), .second, .val (.long q2), .second, .val (.long q3), .second, .val (.long q4), .second, .val (.int p5), .val (.int p6), .val (.int (2 : Int32)), .val (.int (4 : Int32)), .val (.int (Int32.ofNat o)), .val (.ref b13), .val (.ref b14), .unset, .unset, .unset, .unset, .unset] [])) _
        refine XS.aload X132.here hx rfl (hb hby at_111) rfl rfl ?_
        show Steps p.tables e below (T132.setTop (mkF m 113 #[.val (.long q1), .second, .val (.long q2), .second, .val (.long q3), .second, .val (.long q4), .second, .val (.int p5), .val (.int p6), .val (.int (2 : Int32)), .val (.int (4 : Int32)), .val (.int (Int32.ofNat o)), .val (.ref b13), .val (.ref b14), .unset, .unset, .unset, .unset, .unset] [(.ref b14)])) _
        refine XS.iconst X132.here hx rfl (hb hby at_113) ?_
        show Steps p.tables e below (T132.setTop (mkF m 114 #[.val (.long q1), .second, .val (.long q2), .second, .val (.long q3), .second, .val (.long q4), .second, .val (.int p5), .val (.int p6), .val (.int (2 : Int32)), .val (.int (4 : Int32)), .val (.int (Int32.ofNat o)), .val (.ref b13), .val (.ref b14), .unset, .unset, .unset, .unset, .unset] [(.int (3 : Int32)), (.ref b14)])) _
        refine XS.lloadN X132.here hx rfl (hb hby at_114) rfl ?_
        show Steps p.tables e below (T132.setTop (mkF m 115 #[.val (.long q1), .second, .val (.long q2), .second, .val (.long q3), .second, .val (.long q4), .second, .val (.int p5), .val (.int p6), .val (.int (2 : Int32)), .val (.int (4 : Int32)), .val (.int (Int32.ofNat o)), .val (.ref b13), .val (.ref b14), .unset, .unset, .unset, .unset, .unset] [(.long q2), (.int (3 : Int32)), (.ref b14)])) _
        refine XS.bipush X132.here hx rfl (hb hby at_115) ?_
        show Steps p.tables e below (T132.setTop (mkF m 117 #[.val (.long q1), .second, .val (.long q2), .second, .val (.long q3), .second, .val (.long q4), .second, .val (.int p5), .val (.int p6), .val (.int (2 : Int32)), .val (.int (4 : Int32)), .val (.int (Int32.ofNat o)), .val (.ref b13), .val (.ref b14), .unset, .unset, .unset, .unset, .unset] [(.int (32 : Int32)), (.long q2), (.int (3 : Int32)), (.ref b14)])) _
        refine XS.lshr X132.here hx rfl (hb hby at_117) rfl ?_
        show Steps p.tables e below (T132.setTop (mkF m 118 #[.val (.long q1), .second, .val (.long q2), .second, .val (.long q3), .second, .val (.long q4), .second, .val (.int p5), .val (.int p6), .val (.int (2 : Int32)), .val (.int (4 : Int32)), .val (.int (Int32.ofNat o)), .val (.ref b13), .val (.ref b14), .unset, .unset, .unset, .unset, .unset] [(.long (q2 >>> ((32 : Int32) &&& 0x3f).toInt64)), (.int (3 : Int32)), (.ref b14)])) _
        refine XS.l2i X132.here hx rfl (hb hby at_118) rfl ?_
        show Steps p.tables e below (T132.setTop (mkF m 119 #[.val (.long q1), .second, .val (.long q2), .second, .val (.long q3), .second, .val (.long q4), .second, .val (.int p5), .val (.int p6), .val (.int (2 : Int32)), .val (.int (4 : Int32)), .val (.int (Int32.ofNat o)), .val (.ref b13), .val (.ref b14), .unset, .unset, .unset, .unset, .unset] [(.int ((q2 >>> ((32 : Int32) &&& 0x3f).toInt64).toInt32)), (.int (3 : Int32)), (.ref b14)])) _
        refine XS.i2dS X132.here hx rfl (hb hby at_119) rfl rfl ?_
        exact k9
      obtain ⟨cl135, Ar135, Sz135, Hv135⟩ := u134
      have u136 : own_A Z h132 b14 .double 4 (fun j => .double (if j < 3 then FP.i2d (own_vv q1 q2 j) else 0)) := ⟨cl135, Ar135, Sz135, Hv135⟩
      obtain ⟨T137, h137, X137, e137, W137, st137⟩ := stD X132 hx hZ e132 Ar135 (j := (3 : Int32)) (own_hin Sz135 (by decide) (by decide)) (g := (mkF m 120 #[.val (.long q1), .second, .val (.long q2), .second, .val (.long q3), .second, .val (.long q4), .second, .val (.int p5), .val (.int p6), .val (.int (2 : Int32)), .val (.int (4 : Int32)), .val (.int (Int32.ofNat o)), .val (.ref b13), .val (.ref b14), .unset, .unset, .unset, .unset, .unset] [(.double (FP.i2d ((q2 >>> ((32 : Int32) &&& 0x3f).toInt64).toInt32))), (.int (3 : Int32)), (.ref b14)])) rfl rfl (hb hby at_120)
      have N137 := Fr.snoc X137 N132 g_b14
      refine go (T137.setTop (mkF m 121 #[.val (.long q1), .second, .val (.long q2), .second, .val (.long q3), .second, .val (.long q4), .second, .val (.int p5), .val (.int p6), .val (.int (2 : Int32)), .val (.int (4 : Int32)), .val (.int (Int32.ofNat o)), .val (.ref b13), .val (.ref b14), .unset, .unset, .unset, .unset, .unset] [])) _ (fun t9 k9 => st137 _ k9) ?_
      have u138 : Keep h0 h137 [] := u133.wr W137 (Or.inr sz_b14)
      have u139 : own_A Z h137 b14 .double 4 (fun j => .double (if j < 4 then FP.i2d (own_vv q1 q2 j) else 0)) := own_A_congr (own_A_set Ar135 Sz135 Hv135 W137 (by decide)) (own_setf Value.double (fun j => FP.i2d (own_vv q1 q2 j)) 0 3 4)
      have u140 : own_A Z h137 b14 .double 4 (fun j => .double (FP.i2d (own_vv q1 q2 j))) := own_A_congr u139 (own_full Value.double (fun j => FP.i2d (own_vv q1 q2 j)) 0 4)
      exact j121 _ _ _ b13 b14 (X137.more (by decide) (by decide)) e137 u138 N137 u140
  intro T1 h1 L1 b13 b14 X1 e1 K1 N1 V14
  refine go (T1.setTop (mkF m 123 #[.val (.long q1), .second, .val (.long q2), .second, .val (.long q3), .second, .val (.long q4), .second, .val (.int p5), .val (.int p6), .val (.int kk), .val (.int (Int32.ofNat ln)), .val (.int (Int32.ofNat o)), .val (.ref b13), .val (.ref b14), .unset, .unset, .unset, .unset, .unset] [(.int (8 : Int32))])) _ (fun t9 k9 => ?_) ?_
  · show Steps p.tables e below (T1.setTop (mkF m 121 #[.val (.long q1), .second, .val (.long q2), .second, .val (.long q3), .second, .val (.long q4), .second, .val (.int p5), .val (.int p6), .val (.int kk), .val (.int (Int32.ofNat ln)), .val (.int (Int32.ofNat o)), .val (.ref b13), .val (.ref b14), .unset, .unset, .unset, .unset, .unset] [])) _
    refine XS.bipush X1.here hx rfl (hb hby at_121) ?_
    exact k9
  obtain ⟨T141, h141, k141, X141, e141, E141, A141, st141⟩ := newP X1 hx hZ (hw _ (List.mem_of_getElem? (i := 1) rfl)) e1 (g := (mkF m 123 #[.val (.long q1), .second, .val (.long q2), .second, .val (.long q3), .second, .val (.long q4), .second, .val (.int p5), .val (.int p6), .val (.int kk), .val (.int (Int32.ofNat ln)), .val (.int (Int32.ofNat o)), .val (.ref b13), .val (.ref b14), .unset, .unset, .unset, .unset, .unset] [(.int (8 : Int32))])) rfl (hb hby at_123) rfl (by decide) (cap := 8) (by decide) (by decide) (by decide) (by decide)
  obtain ⟨b15, g141⟩ : ∃ z, z = h1.size := ⟨_, rfl⟩
  rw [← g141] at A141 st141
  refine go (T141.setTop (mkF m 125 #[.val (.long q1), .second, .val (.long q2), .second, .val (.long q3), .second, .val (.long q4), .second, .val (.int p5), .val (.int p6), .val (.int kk), .val (.int (Int32.ofNat ln)), .val (.int (Int32.ofNat o)), .val (.ref b13), .val (.ref b14), .unset, .unset, .unset, .unset, .unset] [(.ref b15)])) _ (fun t9 k9 => st141 _ k9) ?_
  have ne142 : b14 ≠ b15 := Nat.ne_of_lt (Nat.lt_of_lt_of_le (own_A_lt V14) (Nat.le_of_eq g141.symm))
  have sz_b15 : h0.size ≤ b15 := Nat.le_trans K1.1 (Nat.le_of_eq g141.symm)
  have g_b15 : n0 ≤ b15 := Nat.le_trans Z0 sz_b15
  have u143 : own_A Z h141 b14 .double ln (fun j => .double (FP.i2d ((own_vv q1 q2) j))) := own_A_ext V14 E141
  have u144 : Keep h0 h141 [] := K1.ext E141
  have u145 : own_A Z h141 b15 .double 8 (fun _ => (.double 0)) := own_A_new A141 rfl
  have u146 : own_A Z h141 b15 .double 8 (fun j => .double (if j < 0 then FP.i2d (own_bf q3 q4 j) else 0)) := own_A_congr u145 (own_zero Value.double (fun j => FP.i2d (own_bf q3 q4 j)) 0 8)
  refine go (T141.setTop (mkF m 135 #[.val (.long q1), .second, .val (.long q2), .second, .val (.long q3), .second, .val (.long q4), .second, .val (.int p5), .val (.int p6), .val (.int kk), .val (.int (Int32.ofNat ln)), .val (.int (Int32.ofNat o)), .val (.ref b13), .val (.ref b14), .val (.ref b15), .unset, .unset, .unset, .unset] [(.double (FP.i2d ((q3.toInt32).toInt16.toInt32))), (.int (0 : Int32)), (.ref b15)])) _ (fun t9 k9 => ?_) ?_
  · show Steps p.tables e below (T141.setTop (mkF m 125 #[.val (.long q1), .second, .val (.long q2), .second, .val (.long q3), .second, .val (.long q4), .second, .val (.int p5), .val (.int p6), .val (.int kk), .val (.int (Int32.ofNat ln)), .val (.int (Int32.ofNat o)), .val (.ref b13), .val (.ref b14), .unset, .unset, .unset, .unset, .unset] [(.ref b15)])) _
    refine XS.astore X141.here hx rfl (hb hby at_125) rfl rfl (l' := #[.val (.long q1), .second, .val (.long q2), .second, .val (.long q3), .second, .val (.long q4), .second, .val (.int p5), .val (.int p6), .val (.int kk), .val (.int (Int32.ofNat ln)), .val (.int (Int32.ofNat o)), .val (.ref b13), .val (.ref b14), .val (.ref b15), .unset, .unset, .unset, .unset]) rfl ?_
    show Steps p.tables e below (T141.setTop (mkF m 127 #[.val (.long q1), .second, .val (.long q2), .second, .val (.long q3), .second, .val (.long q4), .second, .val (.int p5), .val (.int p6), .val (.int kk), .val (.int (Int32.ofNat ln)), .val (.int (Int32.ofNat o)), .val (.ref b13), .val (.ref b14), .val (.ref b15), .unset, .unset, .unset, .unset] [])) _
    refine XS.aload X141.here hx rfl (hb hby at_127) rfl rfl ?_
    show Steps p.tables e below (T141.setTop (mkF m 129 #[.val (.long q1), .second, .val (.long q2), .second, .val (.long q3), .second, .val (.long q4), .second, .val (.int p5), .val (.int p6), .val (.int kk), .val (.int (Int32.ofNat ln)), .val (.int (Int32.ofNat o)), .val (.ref b13), .val (.ref b14), .val (.ref b15), .unset, .unset, .unset, .unset] [(.ref b15)])) _
    refine XS.iconst X141.here hx rfl (hb hby at_129) ?_
    show Steps p.tables e below (T141.setTop (mkF m 130 #[.val (.long q1), .second, .val (.long q2), .second, .val (.long q3), .second, .val (.long q4), .second, .val (.int p5), .val (.int p6), .val (.int kk), .val (.int (Int32.ofNat ln)), .val (.int (Int32.ofNat o)), .val (.ref b13), .val (.ref b14), .val (.ref b15), .unset, .unset, .unset, .unset] [(.int (0 : Int32)), (.ref b15)])) _
    refine XS.lload X141.here hx rfl (hb hby at_130) rfl ?_
    show Steps p.tables e below (T141.setTop (mkF m 132 #[.val (.long q1), .second, .val (.long q2), .second, .val (.long q3), .second, .val (.long q4), .second, .val (.int p5), .val (.int p6), .val (.int kk), .val (.int (Int32.ofNat ln)), .val (.int (Int32.ofNat o)), .val (.ref b13), .val (.ref b14), .val (.ref b15), .unset, .unset, .unset, .unset] [(.long q3), (.int (0 : Int32)), (.ref b15)])) _
    refine XS.l2i X141.here hx rfl (hb hby at_132) rfl ?_
    show Steps p.tables e below (T141.setTop (mkF m 133 #[.val (.long q1), .second, .val (.long q2), .second, .val (.long q3), .second, .val (.long q4), .second, .val (.int p5), .val (.int p6), .val (.int kk), .val (.int (Int32.ofNat ln)), .val (.int (Int32.ofNat o)), .val (.ref b13), .val (.ref b14), .val (.ref b15), .unset, .unset, .unset, .unset] [(.int (q3.toInt32)), (.int (0 : Int32)), (.ref b15)])) _
    refine XS.i2s X141.here hx rfl (hb hby at_133) rfl ?_
    show Steps p.tables e below (T141.setTop (mkF m 134 #[.val (.long q1), .second, .val (.long q2), .second, .val (.long q3), .second, .val (.long q4), .second, .val (.int p5), .val (.int p6), .val (.int kk), .val (.int (Int32.ofNat ln)), .val (.int (Int32.ofNat o)), .val (.ref b13), .val (.ref b14), .val (.ref b15), .unset, .unset, .unset, .unset] [(.int ((q3.toInt32).toInt16.toInt32)), (.int (0 : Int32)), (.ref b15)])) _
    refine XS.i2dS X141.here hx rfl (hb hby at_134) rfl rfl ?_
    exact k9
  obtain ⟨cl147, Ar147, Sz147, Hv147⟩ := u146
  have u148 : own_A Z h141 b15 .double 8 (fun j => .double (if j < 0 then FP.i2d (own_bf q3 q4 j) else 0)) := ⟨cl147, Ar147, Sz147, Hv147⟩
  obtain ⟨T149, h149, X149, e149, W149, st149⟩ := stD X141 hx hZ e141 Ar147 (j := (0 : Int32)) (own_hin Sz147 (by decide) (by decide)) (g := (mkF m 135 #[.val (.long q1), .second, .val (.long q2), .second, .val (.long q3), .second, .val (.long q4), .second, .val (.int p5), .val (.int p6), .val (.int kk), .val (.int (Int32.ofNat ln)), .val (.int (Int32.ofNat o)), .val (.ref b13), .val (.ref b14), .val (.ref b15), .unset, .unset, .unset, .unset] [(.double (FP.i2d ((q3.toInt32).toInt16.toInt32))), (.int (0 : Int32)), (.ref b15)])) rfl rfl (hb hby at_135)
  have N149 := Fr.snoc X149 N1 g_b15
  refine go (T149.setTop (mkF m 136 #[.val (.long q1), .second, .val (.long q2), .second, .val (.long q3), .second, .val (.long q4), .second, .val (.int p5), .val (.int p6), .val (.int kk), .val (.int (Int32.ofNat ln)), .val (.int (Int32.ofNat o)), .val (.ref b13), .val (.ref b14), .val (.ref b15), .unset, .unset, .unset, .unset] [])) _ (fun t9 k9 => st149 _ k9) ?_
  have u150 : own_A Z h149 b14 .double ln (fun j => .double (FP.i2d ((own_vv q1 q2) j))) := own_A_other u143 W149 ne142
  have u151 : Keep h0 h149 [] := u144.wr W149 (Or.inr sz_b15)
  have u152 : own_A Z h149 b15 .double 8 (fun j => .double (if j < 1 then FP.i2d (own_bf q3 q4 j) else 0)) := own_A_congr (own_A_set Ar147 Sz147 Hv147 W149 (by decide)) (own_setf Value.double (fun j => FP.i2d (own_bf q3 q4 j)) 0 0 8)
  refine go (T149.setTop (mkF m 147 #[.val (.long q1), .second, .val (.long q2), .second, .val (.long q3), .second, .val (.long q4), .second, .val (.int p5), .val (.int p6), .val (.int kk), .val (.int (Int32.ofNat ln)), .val (.int (Int32.ofNat o)), .val (.ref b13), .val (.ref b14), .val (.ref b15), .unset, .unset, .unset, .unset] [(.double (FP.i2d (((q3 >>> ((16 : Int32) &&& 0x3f).toInt64).toInt32).toInt16.toInt32))), (.int (1 : Int32)), (.ref b15)])) _ (fun t9 k9 => ?_) ?_
  · show Steps p.tables e below (T149.setTop (mkF m 136 #[.val (.long q1), .second, .val (.long q2), .second, .val (.long q3), .second, .val (.long q4), .second, .val (.int p5), .val (.int p6), .val (.int kk), .val (.int (Int32.ofNat ln)), .val (.int (Int32.ofNat o)), .val (.ref b13), .val (.ref b14), .val (.ref b15), .unset, .unset, .unset, .unset] [])) _
    refine XS.aload X149.here hx rfl (hb hby at_136) rfl rfl ?_
    show Steps p.tables e below (T149.setTop (mkF m 138 #[.val (.long q1), .second, .val (.long q2), .second, .val (.long q3), .second, .val (.long q4), .second, .val (.int p5), .val (.int p6), .val (.int kk), .val (.int (Int32.ofNat ln)), .val (.int (Int32.ofNat o)), .val (.ref b13), .val (.ref b14), .val (.ref b15), .unset, .unset, .unset, .unset] [(.ref b15)])) _
    refine XS.iconst X149.here hx rfl (hb hby at_138) ?_
    show Steps p.tables e below (T149.setTop (mkF m 139 #[.val (.long q1), .second, .val (.long q2), .second, .val (.long q3), .second, .val (.long q4), .second, .val (.int p5), .val (.int p6), .val (.int kk), .val (.int (Int32.ofNat ln)), .val (.int (Int32.ofNat o)), .val (.ref b13), .val (.ref b14), .val (.ref b15), .unset, .unset, .unset, .unset] [(.int (1 : Int32)), (.ref b15)])) _
    refine XS.lload X149.here hx rfl (hb hby at_139) rfl ?_
    show Steps p.tables e below (T149.setTop (mkF m 141 #[.val (.long q1), .second, .val (.long q2), .second, .val (.long q3), .second, .val (.long q4), .second, .val (.int p5), .val (.int p6), .val (.int kk), .val (.int (Int32.ofNat ln)), .val (.int (Int32.ofNat o)), .val (.ref b13), .val (.ref b14), .val (.ref b15), .unset, .unset, .unset, .unset] [(.long q3), (.int (1 : Int32)), (.ref b15)])) _
    refine XS.bipush X149.here hx rfl (hb hby at_141) ?_
    show Steps p.tables e below (T149.setTop (mkF m 143 #[.val (.long q1), .second, .val (.long q2), .second, .val (.long q3), .second, .val (.long q4), .second, .val (.int p5), .val (.int p6), .val (.int kk), .val (.int (Int32.ofNat ln)), .val (.int (Int32.ofNat o)), .val (.ref b13), .val (.ref b14), .val (.ref b15), .unset, .unset, .unset, .unset] [(.int (16 : Int32)), (.long q3), (.int (1 : Int32)), (.ref b15)])) _
    refine XS.lshr X149.here hx rfl (hb hby at_143) rfl ?_
    show Steps p.tables e below (T149.setTop (mkF m 144 #[.val (.long q1), .second, .val (.long q2), .second, .val (.long q3), .second, .val (.long q4), .second, .val (.int p5), .val (.int p6), .val (.int kk), .val (.int (Int32.ofNat ln)), .val (.int (Int32.ofNat o)), .val (.ref b13), .val (.ref b14), .val (.ref b15), .unset, .unset, .unset, .unset] [(.long (q3 >>> ((16 : Int32) &&& 0x3f).toInt64)), (.int (1 : Int32)), (.ref b15)])) _
    refine XS.l2i X149.here hx rfl (hb hby at_144) rfl ?_
    show Steps p.tables e below (T149.setTop (mkF m 145 #[.val (.long q1), .second, .val (.long q2), .second, .val (.long q3), .second, .val (.long q4), .second, .val (.int p5), .val (.int p6), .val (.int kk), .val (.int (Int32.ofNat ln)), .val (.int (Int32.ofNat o)), .val (.ref b13), .val (.ref b14), .val (.ref b15), .unset, .unset, .unset, .unset] [(.int ((q3 >>> ((16 : Int32) &&& 0x3f).toInt64).toInt32)), (.int (1 : Int32)), (.ref b15)])) _
    refine XS.i2s X149.here hx rfl (hb hby at_145) rfl ?_
    show Steps p.tables e below (T149.setTop (mkF m 146 #[.val (.long q1), .second, .val (.long q2), .second, .val (.long q3), .second, .val (.long q4), .second, .val (.int p5), .val (.int p6), .val (.int kk), .val (.int (Int32.ofNat ln)), .val (.int (Int32.ofNat o)), .val (.ref b13), .val (.ref b14), .val (.ref b15), .unset, .unset, .unset, .unset] [(.int (((q3 >>> ((16 : Int32) &&& 0x3f).toInt64).toInt32).toInt16.toInt32)), (.int (1 : Int32)), (.ref b15)])) _
    refine XS.i2dS X149.here hx rfl (hb hby at_146) rfl rfl ?_
    exact k9
  obtain ⟨cl153, Ar153, Sz153, Hv153⟩ := u152
  have u154 : own_A Z h149 b15 .double 8 (fun j => .double (if j < 1 then FP.i2d (own_bf q3 q4 j) else 0)) := ⟨cl153, Ar153, Sz153, Hv153⟩
  obtain ⟨T155, h155, X155, e155, W155, st155⟩ := stD X149 hx hZ e149 Ar153 (j := (1 : Int32)) (own_hin Sz153 (by decide) (by decide)) (g := (mkF m 147 #[.val (.long q1), .second, .val (.long q2), .second, .val (.long q3), .second, .val (.long q4), .second, .val (.int p5), .val (.int p6), .val (.int kk), .val (.int (Int32.ofNat ln)), .val (.int (Int32.ofNat o)), .val (.ref b13), .val (.ref b14), .val (.ref b15), .unset, .unset, .unset, .unset] [(.double (FP.i2d (((q3 >>> ((16 : Int32) &&& 0x3f).toInt64).toInt32).toInt16.toInt32))), (.int (1 : Int32)), (.ref b15)])) rfl rfl (hb hby at_147)
  have N155 := Fr.snoc X155 N149 g_b15
  refine go (T155.setTop (mkF m 148 #[.val (.long q1), .second, .val (.long q2), .second, .val (.long q3), .second, .val (.long q4), .second, .val (.int p5), .val (.int p6), .val (.int kk), .val (.int (Int32.ofNat ln)), .val (.int (Int32.ofNat o)), .val (.ref b13), .val (.ref b14), .val (.ref b15), .unset, .unset, .unset, .unset] [])) _ (fun t9 k9 => st155 _ k9) ?_
  have u156 : own_A Z h155 b14 .double ln (fun j => .double (FP.i2d ((own_vv q1 q2) j))) := own_A_other u150 W155 ne142
  have u157 : Keep h0 h155 [] := u151.wr W155 (Or.inr sz_b15)
  have u158 : own_A Z h155 b15 .double 8 (fun j => .double (if j < 2 then FP.i2d (own_bf q3 q4 j) else 0)) := own_A_congr (own_A_set Ar153 Sz153 Hv153 W155 (by decide)) (own_setf Value.double (fun j => FP.i2d (own_bf q3 q4 j)) 0 1 8)
  refine go (T155.setTop (mkF m 159 #[.val (.long q1), .second, .val (.long q2), .second, .val (.long q3), .second, .val (.long q4), .second, .val (.int p5), .val (.int p6), .val (.int kk), .val (.int (Int32.ofNat ln)), .val (.int (Int32.ofNat o)), .val (.ref b13), .val (.ref b14), .val (.ref b15), .unset, .unset, .unset, .unset] [(.double (FP.i2d (((q3 >>> ((32 : Int32) &&& 0x3f).toInt64).toInt32).toInt16.toInt32))), (.int (2 : Int32)), (.ref b15)])) _ (fun t9 k9 => ?_) ?_
  · show Steps p.tables e below (T155.setTop (mkF m 148 #[.val (.long q1), .second, .val (.long q2), .second, .val (.long q3), .second, .val (.long q4), .second, .val (.int p5), .val (.int p6), .val (.int kk), .val (.int (Int32.ofNat ln)), .val (.int (Int32.ofNat o)), .val (.ref b13), .val (.ref b14), .val (.ref b15), .unset, .unset, .unset, .unset] [])) _
    refine XS.aload X155.here hx rfl (hb hby at_148) rfl rfl ?_
    show Steps p.tables e below (T155.setTop (mkF m 150 #[.val (.long q1), .second, .val (.long q2), .second, .val (.long q3), .second, .val (.long q4), .second, .val (.int p5), .val (.int p6), .val (.int kk), .val (.int (Int32.ofNat ln)), .val (.int (Int32.ofNat o)), .val (.ref b13), .val (.ref b14), .val (.ref b15), .unset, .unset, .unset, .unset] [(.ref b15)])) _
    refine XS.iconst X155.here hx rfl (hb hby at_150) ?_
    show Steps p.tables e below (T155.setTop (mkF m 151 #[.val (.long q1), .second, .val (.long q2), .second, .val (.long q3), .second, .val (.long q4), .second, .val (.int p5), .val (.int p6), .val (.int kk), .val (.int (Int32.ofNat ln)), .val (.int (Int32.ofNat o)), .val (.ref b13), .val (.ref b14), .val (.ref b15), .unset, .unset, .unset, .unset] [(.int (2 : Int32)), (.ref b15)])) _
    refine XS.lload X155.here hx rfl (hb hby at_151) rfl ?_
    show Steps p.tables e below (T155.setTop (mkF m 153 #[.val (.long q1), .second, .val (.long q2), .second, .val (.long q3), .second, .val (.long q4), .second, .val (.int p5), .val (.int p6), .val (.int kk), .val (.int (Int32.ofNat ln)), .val (.int (Int32.ofNat o)), .val (.ref b13), .val (.ref b14), .val (.ref b15), .unset, .unset, .unset, .unset] [(.long q3), (.int (2 : Int32)), (.ref b15)])) _
    refine XS.bipush X155.here hx rfl (hb hby at_153) ?_
    show Steps p.tables e below (T155.setTop (mkF m 155 #[.val (.long q1), .second, .val (.long q2), .second, .val (.long q3), .second, .val (.long q4), .second, .val (.int p5), .val (.int p6), .val (.int kk), .val (.int (Int32.ofNat ln)), .val (.int (Int32.ofNat o)), .val (.ref b13), .val (.ref b14), .val (.ref b15), .unset, .unset, .unset, .unset] [(.int (32 : Int32)), (.long q3), (.int (2 : Int32)), (.ref b15)])) _
    refine XS.lshr X155.here hx rfl (hb hby at_155) rfl ?_
    show Steps p.tables e below (T155.setTop (mkF m 156 #[.val (.long q1), .second, .val (.long q2), .second, .val (.long q3), .second, .val (.long q4), .second, .val (.int p5), .val (.int p6), .val (.int kk), .val (.int (Int32.ofNat ln)), .val (.int (Int32.ofNat o)), .val (.ref b13), .val (.ref b14), .val (.ref b15), .unset, .unset, .unset, .unset] [(.long (q3 >>> ((32 : Int32) &&& 0x3f).toInt64)), (.int (2 : Int32)), (.ref b15)])) _
    refine XS.l2i X155.here hx rfl (hb hby at_156) rfl ?_
    show Steps p.tables e below (T155.setTop (mkF m 157 #[.val (.long q1), .second, .val (.long q2), .second, .val (.long q3), .second, .val (.long q4), .second, .val (.int p5), .val (.int p6), .val (.int kk), .val (.int (Int32.ofNat ln)), .val (.int (Int32.ofNat o)), .val (.ref b13), .val (.ref b14), .val (.ref b15), .unset, .unset, .unset, .unset] [(.int ((q3 >>> ((32 : Int32) &&& 0x3f).toInt64).toInt32)), (.int (2 : Int32)), (.ref b15)])) _
    refine XS.i2s X155.here hx rfl (hb hby at_157) rfl ?_
    show Steps p.tables e below (T155.setTop (mkF m 158 #[.val (.long q1), .second, .val (.long q2), .second, .val (.long q3), .second, .val (.long q4), .second, .val (.int p5), .val (.int p6), .val (.int kk), .val (.int (Int32.ofNat ln)), .val (.int (Int32.ofNat o)), .val (.ref b13), .val (.ref b14), .val (.ref b15), .unset, .unset, .unset, .unset] [(.int (((q3 >>> ((32 : Int32) &&& 0x3f).toInt64).toInt32).toInt16.toInt32)), (.int (2 : Int32)), (.ref b15)])) _
    refine XS.i2dS X155.here hx rfl (hb hby at_158) rfl rfl ?_
    exact k9
  obtain ⟨cl159, Ar159, Sz159, Hv159⟩ := u158
  have u160 : own_A Z h155 b15 .double 8 (fun j => .double (if j < 2 then FP.i2d (own_bf q3 q4 j) else 0)) := ⟨cl159, Ar159, Sz159, Hv159⟩
  obtain ⟨T161, h161, X161, e161, W161, st161⟩ := stD X155 hx hZ e155 Ar159 (j := (2 : Int32)) (own_hin Sz159 (by decide) (by decide)) (g := (mkF m 159 #[.val (.long q1), .second, .val (.long q2), .second, .val (.long q3), .second, .val (.long q4), .second, .val (.int p5), .val (.int p6), .val (.int kk), .val (.int (Int32.ofNat ln)), .val (.int (Int32.ofNat o)), .val (.ref b13), .val (.ref b14), .val (.ref b15), .unset, .unset, .unset, .unset] [(.double (FP.i2d (((q3 >>> ((32 : Int32) &&& 0x3f).toInt64).toInt32).toInt16.toInt32))), (.int (2 : Int32)), (.ref b15)])) rfl rfl (hb hby at_159)
  have N161 := Fr.snoc X161 N155 g_b15
  refine go (T161.setTop (mkF m 160 #[.val (.long q1), .second, .val (.long q2), .second, .val (.long q3), .second, .val (.long q4), .second, .val (.int p5), .val (.int p6), .val (.int kk), .val (.int (Int32.ofNat ln)), .val (.int (Int32.ofNat o)), .val (.ref b13), .val (.ref b14), .val (.ref b15), .unset, .unset, .unset, .unset] [])) _ (fun t9 k9 => st161 _ k9) ?_
  have u162 : own_A Z h161 b14 .double ln (fun j => .double (FP.i2d ((own_vv q1 q2) j))) := own_A_other u156 W161 ne142
  have u163 : Keep h0 h161 [] := u157.wr W161 (Or.inr sz_b15)
  have u164 : own_A Z h161 b15 .double 8 (fun j => .double (if j < 3 then FP.i2d (own_bf q3 q4 j) else 0)) := own_A_congr (own_A_set Ar159 Sz159 Hv159 W161 (by decide)) (own_setf Value.double (fun j => FP.i2d (own_bf q3 q4 j)) 0 2 8)
  refine go (T161.setTop (mkF m 171 #[.val (.long q1), .second, .val (.long q2), .second, .val (.long q3), .second, .val (.long q4), .second, .val (.int p5), .val (.int p6), .val (.int kk), .val (.int (Int32.ofNat ln)), .val (.int (Int32.ofNat o)), .val (.ref b13), .val (.ref b14), .val (.ref b15), .unset, .unset, .unset, .unset] [(.double (FP.i2d (((q3 >>> ((48 : Int32) &&& 0x3f).toInt64).toInt32).toInt16.toInt32))), (.int (3 : Int32)), (.ref b15)])) _ (fun t9 k9 => ?_) ?_
  · show Steps p.tables e below (T161.setTop (mkF m 160 #[.val (.long q1), .second, .val (.long q2), .second, .val (.long q3), .second, .val (.long q4), .second, .val (.int p5), .val (.int p6), .val (.int kk), .val (.int (Int32.ofNat ln)), .val (.int (Int32.ofNat o)), .val (.ref b13), .val (.ref b14), .val (.ref b15), .unset, .unset, .unset, .unset] [])) _
    refine XS.aload X161.here hx rfl (hb hby at_160) rfl rfl ?_
    show Steps p.tables e below (T161.setTop (mkF m 162 #[.val (.long q1), .second, .val (.long q2), .second, .val (.long q3), .second, .val (.long q4), .second, .val (.int p5), .val (.int p6), .val (.int kk), .val (.int (Int32.ofNat ln)), .val (.int (Int32.ofNat o)), .val (.ref b13), .val (.ref b14), .val (.ref b15), .unset, .unset, .unset, .unset] [(.ref b15)])) _
    refine XS.iconst X161.here hx rfl (hb hby at_162) ?_
    show Steps p.tables e below (T161.setTop (mkF m 163 #[.val (.long q1), .second, .val (.long q2), .second, .val (.long q3), .second, .val (.long q4), .second, .val (.int p5), .val (.int p6), .val (.int kk), .val (.int (Int32.ofNat ln)), .val (.int (Int32.ofNat o)), .val (.ref b13), .val (.ref b14), .val (.ref b15), .unset, .unset, .unset, .unset] [(.int (3 : Int32)), (.ref b15)])) _
    refine XS.lload X161.here hx rfl (hb hby at_163) rfl ?_
    show Steps p.tables e below (T161.setTop (mkF m 165 #[.val (.long q1), .second, .val (.long q2), .second, .val (.long q3), .second, .val (.long q4), .second, .val (.int p5), .val (.int p6), .val (.int kk), .val (.int (Int32.ofNat ln)), .val (.int (Int32.ofNat o)), .val (.ref b13), .val (.ref b14), .val (.ref b15), .unset, .unset, .unset, .unset] [(.long q3), (.int (3 : Int32)), (.ref b15)])) _
    refine XS.bipush X161.here hx rfl (hb hby at_165) ?_
    show Steps p.tables e below (T161.setTop (mkF m 167 #[.val (.long q1), .second, .val (.long q2), .second, .val (.long q3), .second, .val (.long q4), .second, .val (.int p5), .val (.int p6), .val (.int kk), .val (.int (Int32.ofNat ln)), .val (.int (Int32.ofNat o)), .val (.ref b13), .val (.ref b14), .val (.ref b15), .unset, .unset, .unset, .unset] [(.int (48 : Int32)), (.long q3), (.int (3 : Int32)), (.ref b15)])) _
    refine XS.lshr X161.here hx rfl (hb hby at_167) rfl ?_
    show Steps p.tables e below (T161.setTop (mkF m 168 #[.val (.long q1), .second, .val (.long q2), .second, .val (.long q3), .second, .val (.long q4), .second, .val (.int p5), .val (.int p6), .val (.int kk), .val (.int (Int32.ofNat ln)), .val (.int (Int32.ofNat o)), .val (.ref b13), .val (.ref b14), .val (.ref b15), .unset, .unset, .unset, .unset] [(.long (q3 >>> ((48 : Int32) &&& 0x3f).toInt64)), (.int (3 : Int32)), (.ref b15)])) _
    refine XS.l2i X161.here hx rfl (hb hby at_168) rfl ?_
    show Steps p.tables e below (T161.setTop (mkF m 169 #[.val (.long q1), .second, .val (.long q2), .second, .val (.long q3), .second, .val (.long q4), .second, .val (.int p5), .val (.int p6), .val (.int kk), .val (.int (Int32.ofNat ln)), .val (.int (Int32.ofNat o)), .val (.ref b13), .val (.ref b14), .val (.ref b15), .unset, .unset, .unset, .unset] [(.int ((q3 >>> ((48 : Int32) &&& 0x3f).toInt64).toInt32)), (.int (3 : Int32)), (.ref b15)])) _
    refine XS.i2s X161.here hx rfl (hb hby at_169) rfl ?_
    show Steps p.tables e below (T161.setTop (mkF m 170 #[.val (.long q1), .second, .val (.long q2), .second, .val (.long q3), .second, .val (.long q4), .second, .val (.int p5), .val (.int p6), .val (.int kk), .val (.int (Int32.ofNat ln)), .val (.int (Int32.ofNat o)), .val (.ref b13), .val (.ref b14), .val (.ref b15), .unset, .unset, .unset, .unset] [(.int (((q3 >>> ((48 : Int32) &&& 0x3f).toInt64).toInt32).toInt16.toInt32)), (.int (3 : Int32)), (.ref b15)])) _
    refine XS.i2dS X161.here hx rfl (hb hby at_170) rfl rfl ?_
    exact k9
  obtain ⟨cl165, Ar165, Sz165, Hv165⟩ := u164
  have u166 : own_A Z h161 b15 .double 8 (fun j => .double (if j < 3 then FP.i2d (own_bf q3 q4 j) else 0)) := ⟨cl165, Ar165, Sz165, Hv165⟩
  obtain ⟨T167, h167, X167, e167, W167, st167⟩ := stD X161 hx hZ e161 Ar165 (j := (3 : Int32)) (own_hin Sz165 (by decide) (by decide)) (g := (mkF m 171 #[.val (.long q1), .second, .val (.long q2), .second, .val (.long q3), .second, .val (.long q4), .second, .val (.int p5), .val (.int p6), .val (.int kk), .val (.int (Int32.ofNat ln)), .val (.int (Int32.ofNat o)), .val (.ref b13), .val (.ref b14), .val (.ref b15), .unset, .unset, .unset, .unset] [(.double (FP.i2d (((q3 >>> ((48 : Int32) &&& 0x3f).toInt64).toInt32).toInt16.toInt32))), (.int (3 : Int32)), (.ref b15)])) rfl rfl (hb hby at_171)
  have N167 := Fr.snoc X167 N161 g_b15
  refine go (T167.setTop (mkF m 172 #[.val (.long q1), .second, .val (.long q2), .second, .val (.long q3), .second, .val (.long q4), .second, .val (.int p5), .val (.int p6), .val (.int kk), .val (.int (Int32.ofNat ln)), .val (.int (Int32.ofNat o)), .val (.ref b13), .val (.ref b14), .val (.ref b15), .unset, .unset, .unset, .unset] [])) _ (fun t9 k9 => st167 _ k9) ?_
  have u168 : own_A Z h167 b14 .double ln (fun j => .double (FP.i2d ((own_vv q1 q2) j))) := own_A_other u162 W167 ne142
  have u169 : Keep h0 h167 [] := u163.wr W167 (Or.inr sz_b15)
  have u170 : own_A Z h167 b15 .double 8 (fun j => .double (if j < 4 then FP.i2d (own_bf q3 q4 j) else 0)) := own_A_congr (own_A_set Ar165 Sz165 Hv165 W167 (by decide)) (own_setf Value.double (fun j => FP.i2d (own_bf q3 q4 j)) 0 3 8)
  refine go (T167.setTop (mkF m 180 #[.val (.long q1), .second, .val (.long q2), .second, .val (.long q3), .second, .val (.long q4), .second, .val (.int p5), .val (.int p6), .val (.int kk), .val (.int (Int32.ofNat ln)), .val (.int (Int32.ofNat o)), .val (.ref b13), .val (.ref b14), .val (.ref b15), .unset, .unset, .unset, .unset] [(.double (FP.i2d ((q4.toInt32).toInt16.toInt32))), (.int (4 : Int32)), (.ref b15)])) _ (fun t9 k9 => ?_) ?_
  · show Steps p.tables e below (T167.setTop (mkF m 172 #[.val (.long q1), .second, .val (.long q2), .second, .val (.long q3), .second, .val (.long q4), .second, .val (.int p5), .val (.int p6), .val (.int kk), .val (.int (Int32.ofNat ln)), .val (.int (Int32.ofNat o)), .val (.ref b13), .val (.ref b14), .val (.ref b15), .unset, .unset, .unset, .unset] [])) _
    refine XS.aload X167.here hx rfl (hb hby at_172) rfl rfl ?_
    show Steps p.tables e below (T167.setTop (mkF m 174 #[.val (.long q1), .second, .val (.long q2), .second, .val (.long q3), .second, .val (.long q4), .second, .val (.int p5), .val (.int p6), .val (.int kk), .val (.int (Int32.ofNat ln)), .val (.int (Int32.ofNat o)), .val (.ref b13), .val (.ref b14), .val (.ref b15), .unset, .unset, .unset, .unset] [(.ref b15)])) _
    refine XS.iconst X167.here hx rfl (hb hby at_174) ?_
    show Steps p.tables e below (T167.setTop (mkF m 175 #[.val (.long q1), .second, .val (.long q2), .second, .val (.long q3), .second, .val (.long q4), .second, .val (.int p5), .val (.int p6), .val (.int kk), .val (.int (Int32.ofNat ln)), .val (.int (Int32.ofNat o)), .val (.ref b13), .val (.ref b14), .val (.ref b15), .unset, .unset, .unset, .unset] [(.int (4 : Int32)), (.ref b15)])) _
    refine XS.lload X167.here hx rfl (hb hby at_175) rfl ?_
    show Steps p.tables e below (T167.setTop (mkF m 177 #[.val (.long q1), .second, .val (.long q2), .second, .val (.long q3), .second, .val (.long q4), .second, .val (.int p5), .val (.int p6), .val (.int kk), .val (.int (Int32.ofNat ln)), .val (.int (Int32.ofNat o)), .val (.ref b13), .val (.ref b14), .val (.ref b15), .unset, .unset, .unset, .unset] [(.long q4), (.int (4 : Int32)), (.ref b15)])) _
    refine XS.l2i X167.here hx rfl (hb hby at_177) rfl ?_
    show Steps p.tables e below (T167.setTop (mkF m 178 #[.val (.long q1), .second, .val (.long q2), .second, .val (.long q3), .second, .val (.long q4), .second, .val (.int p5), .val (.int p6), .val (.int kk), .val (.int (Int32.ofNat ln)), .val (.int (Int32.ofNat o)), .val (.ref b13), .val (.ref b14), .val (.ref b15), .unset, .unset, .unset, .unset] [(.int (q4.toInt32)), (.int (4 : Int32)), (.ref b15)])) _
    refine XS.i2s X167.here hx rfl (hb hby at_178) rfl ?_
    show Steps p.tables e below (T167.setTop (mkF m 179 #[.val (.long q1), .second, .val (.long q2), .second, .val (.long q3), .second, .val (.long q4), .second, .val (.int p5), .val (.int p6), .val (.int kk), .val (.int (Int32.ofNat ln)), .val (.int (Int32.ofNat o)), .val (.ref b13), .val (.ref b14), .val (.ref b15), .unset, .unset, .unset, .unset] [(.int ((q4.toInt32).toInt16.toInt32)), (.int (4 : Int32)), (.ref b15)])) _
    refine XS.i2dS X167.here hx rfl (hb hby at_179) rfl rfl ?_
    exact k9
  obtain ⟨cl171, Ar171, Sz171, Hv171⟩ := u170
  have u172 : own_A Z h167 b15 .double 8 (fun j => .double (if j < 4 then FP.i2d (own_bf q3 q4 j) else 0)) := ⟨cl171, Ar171, Sz171, Hv171⟩
  obtain ⟨T173, h173, X173, e173, W173, st173⟩ := stD X167 hx hZ e167 Ar171 (j := (4 : Int32)) (own_hin Sz171 (by decide) (by decide)) (g := (mkF m 180 #[.val (.long q1), .second, .val (.long q2), .second, .val (.long q3), .second, .val (.long q4), .second, .val (.int p5), .val (.int p6), .val (.int kk), .val (.int (Int32.ofNat ln)), .val (.int (Int32.ofNat o)), .val (.ref b13), .val (.ref b14), .val (.ref b15), .unset, .unset, .unset, .unset] [(.double (FP.i2d ((q4.toInt32).toInt16.toInt32))), (.int (4 : Int32)), (.ref b15)])) rfl rfl (hb hby at_180)
  have N173 := Fr.snoc X173 N167 g_b15
  refine go (T173.setTop (mkF m 181 #[.val (.long q1), .second, .val (.long q2), .second, .val (.long q3), .second, .val (.long q4), .second, .val (.int p5), .val (.int p6), .val (.int kk), .val (.int (Int32.ofNat ln)), .val (.int (Int32.ofNat o)), .val (.ref b13), .val (.ref b14), .val (.ref b15), .unset, .unset, .unset, .unset] [])) _ (fun t9 k9 => st173 _ k9) ?_
  have u174 : own_A Z h173 b14 .double ln (fun j => .double (FP.i2d ((own_vv q1 q2) j))) := own_A_other u168 W173 ne142
  have u175 : Keep h0 h173 [] := u169.wr W173 (Or.inr sz_b15)
  have u176 : own_A Z h173 b15 .double 8 (fun j => .double (if j < 5 then FP.i2d (own_bf q3 q4 j) else 0)) := own_A_congr (own_A_set Ar171 Sz171 Hv171 W173 (by decide)) (own_setf Value.double (fun j => FP.i2d (own_bf q3 q4 j)) 0 4 8)
  refine go (T173.setTop (mkF m 192 #[.val (.long q1), .second, .val (.long q2), .second, .val (.long q3), .second, .val (.long q4), .second, .val (.int p5), .val (.int p6), .val (.int kk), .val (.int (Int32.ofNat ln)), .val (.int (Int32.ofNat o)), .val (.ref b13), .val (.ref b14), .val (.ref b15), .unset, .unset, .unset, .unset] [(.double (FP.i2d (((q4 >>> ((16 : Int32) &&& 0x3f).toInt64).toInt32).toInt16.toInt32))), (.int (5 : Int32)), (.ref b15)])) _ (fun t9 k9 => ?_) ?_
  · show Steps p.tables e below (T173.setTop (mkF m 181 #[.val (.long q1), .second, .val (.long q2), .second, .val (.long q3), .second, .val (.long q4), .second, .val (.int p5), .val (.int p6), .val (.int kk), .val (.int (Int32.ofNat ln)), .val (.int (Int32.ofNat o)), .val (.ref b13), .val (.ref b14), .val (.ref b15), .unset, .unset, .unset, .unset] [])) _
    refine XS.aload X173.here hx rfl (hb hby at_181) rfl rfl ?_
    show Steps p.tables e below (T173.setTop (mkF m 183 #[.val (.long q1), .second, .val (.long q2), .second, .val (.long q3), .second, .val (.long q4), .second, .val (.int p5), .val (.int p6), .val (.int kk), .val (.int (Int32.ofNat ln)), .val (.int (Int32.ofNat o)), .val (.ref b13), .val (.ref b14), .val (.ref b15), .unset, .unset, .unset, .unset] [(.ref b15)])) _
    refine XS.iconst X173.here hx rfl (hb hby at_183) ?_
    show Steps p.tables e below (T173.setTop (mkF m 184 #[.val (.long q1), .second, .val (.long q2), .second, .val (.long q3), .second, .val (.long q4), .second, .val (.int p5), .val (.int p6), .val (.int kk), .val (.int (Int32.ofNat ln)), .val (.int (Int32.ofNat o)), .val (.ref b13), .val (.ref b14), .val (.ref b15), .unset, .unset, .unset, .unset] [(.int (5 : Int32)), (.ref b15)])) _
    refine XS.lload X173.here hx rfl (hb hby at_184) rfl ?_
    show Steps p.tables e below (T173.setTop (mkF m 186 #[.val (.long q1), .second, .val (.long q2), .second, .val (.long q3), .second, .val (.long q4), .second, .val (.int p5), .val (.int p6), .val (.int kk), .val (.int (Int32.ofNat ln)), .val (.int (Int32.ofNat o)), .val (.ref b13), .val (.ref b14), .val (.ref b15), .unset, .unset, .unset, .unset] [(.long q4), (.int (5 : Int32)), (.ref b15)])) _
    refine XS.bipush X173.here hx rfl (hb hby at_186) ?_
    show Steps p.tables e below (T173.setTop (mkF m 188 #[.val (.long q1), .second, .val (.long q2), .second, .val (.long q3), .second, .val (.long q4), .second, .val (.int p5), .val (.int p6), .val (.int kk), .val (.int (Int32.ofNat ln)), .val (.int (Int32.ofNat o)), .val (.ref b13), .val (.ref b14), .val (.ref b15), .unset, .unset, .unset, .unset] [(.int (16 : Int32)), (.long q4), (.int (5 : Int32)), (.ref b15)])) _
    refine XS.lshr X173.here hx rfl (hb hby at_188) rfl ?_
    show Steps p.tables e below (T173.setTop (mkF m 189 #[.val (.long q1), .second, .val (.long q2), .second, .val (.long q3), .second, .val (.long q4), .second, .val (.int p5), .val (.int p6), .val (.int kk), .val (.int (Int32.ofNat ln)), .val (.int (Int32.ofNat o)), .val (.ref b13), .val (.ref b14), .val (.ref b15), .unset, .unset, .unset, .unset] [(.long (q4 >>> ((16 : Int32) &&& 0x3f).toInt64)), (.int (5 : Int32)), (.ref b15)])) _
    refine XS.l2i X173.here hx rfl (hb hby at_189) rfl ?_
    show Steps p.tables e below (T173.setTop (mkF m 190 #[.val (.long q1), .second, .val (.long q2), .second, .val (.long q3), .second, .val (.long q4), .second, .val (.int p5), .val (.int p6), .val (.int kk), .val (.int (Int32.ofNat ln)), .val (.int (Int32.ofNat o)), .val (.ref b13), .val (.ref b14), .val (.ref b15), .unset, .unset, .unset, .unset] [(.int ((q4 >>> ((16 : Int32) &&& 0x3f).toInt64).toInt32)), (.int (5 : Int32)), (.ref b15)])) _
    refine XS.i2s X173.here hx rfl (hb hby at_190) rfl ?_
    show Steps p.tables e below (T173.setTop (mkF m 191 #[.val (.long q1), .second, .val (.long q2), .second, .val (.long q3), .second, .val (.long q4), .second, .val (.int p5), .val (.int p6), .val (.int kk), .val (.int (Int32.ofNat ln)), .val (.int (Int32.ofNat o)), .val (.ref b13), .val (.ref b14), .val (.ref b15), .unset, .unset, .unset, .unset] [(.int (((q4 >>> ((16 : Int32) &&& 0x3f).toInt64).toInt32).toInt16.toInt32)), (.int (5 : Int32)), (.ref b15)])) _
    refine XS.i2dS X173.here hx rfl (hb hby at_191) rfl rfl ?_
    exact k9
  obtain ⟨cl177, Ar177, Sz177, Hv177⟩ := u176
  have u178 : own_A Z h173 b15 .double 8 (fun j => .double (if j < 5 then FP.i2d (own_bf q3 q4 j) else 0)) := ⟨cl177, Ar177, Sz177, Hv177⟩
  obtain ⟨T179, h179, X179, e179, W179, st179⟩ := stD X173 hx hZ e173 Ar177 (j := (5 : Int32)) (own_hin Sz177 (by decide) (by decide)) (g := (mkF m 192 #[.val (.long q1), .second, .val (.long q2), .second, .val (.long q3), .second, .val (.long q4), .second, .val (.int p5), .val (.int p6), .val (.int kk), .val (.int (Int32.ofNat ln)), .val (.int (Int32.ofNat o)), .val (.ref b13), .val (.ref b14), .val (.ref b15), .unset, .unset, .unset, .unset] [(.double (FP.i2d (((q4 >>> ((16 : Int32) &&& 0x3f).toInt64).toInt32).toInt16.toInt32))), (.int (5 : Int32)), (.ref b15)])) rfl rfl (hb hby at_192)
  have N179 := Fr.snoc X179 N173 g_b15
  refine go (T179.setTop (mkF m 193 #[.val (.long q1), .second, .val (.long q2), .second, .val (.long q3), .second, .val (.long q4), .second, .val (.int p5), .val (.int p6), .val (.int kk), .val (.int (Int32.ofNat ln)), .val (.int (Int32.ofNat o)), .val (.ref b13), .val (.ref b14), .val (.ref b15), .unset, .unset, .unset, .unset] [])) _ (fun t9 k9 => st179 _ k9) ?_
  have u180 : own_A Z h179 b14 .double ln (fun j => .double (FP.i2d ((own_vv q1 q2) j))) := own_A_other u174 W179 ne142
  have u181 : Keep h0 h179 [] := u175.wr W179 (Or.inr sz_b15)
  have u182 : own_A Z h179 b15 .double 8 (fun j => .double (if j < 6 then FP.i2d (own_bf q3 q4 j) else 0)) := own_A_congr (own_A_set Ar177 Sz177 Hv177 W179 (by decide)) (own_setf Value.double (fun j => FP.i2d (own_bf q3 q4 j)) 0 5 8)
  refine go (T179.setTop (mkF m 205 #[.val (.long q1), .second, .val (.long q2), .second, .val (.long q3), .second, .val (.long q4), .second, .val (.int p5), .val (.int p6), .val (.int kk), .val (.int (Int32.ofNat ln)), .val (.int (Int32.ofNat o)), .val (.ref b13), .val (.ref b14), .val (.ref b15), .unset, .unset, .unset, .unset] [(.double (FP.i2d (((q4 >>> ((32 : Int32) &&& 0x3f).toInt64).toInt32).toInt16.toInt32))), (.int (6 : Int32)), (.ref b15)])) _ (fun t9 k9 => ?_) ?_
  · show Steps p.tables e below (T179.setTop (mkF m 193 #[.val (.long q1), .second, .val (.long q2), .second, .val (.long q3), .second, .val (.long q4), .second, .val (.int p5), .val (.int p6), .val (.int kk), .val (.int (Int32.ofNat ln)), .val (.int (Int32.ofNat o)), .val (.ref b13), .val (.ref b14), .val (.ref b15), .unset, .unset, .unset, .unset] [])) _
    refine XS.aload X179.here hx rfl (hb hby at_193) rfl rfl ?_
    show Steps p.tables e below (T179.setTop (mkF m 195 #[.val (.long q1), .second, .val (.long q2), .second, .val (.long q3), .second, .val (.long q4), .second, .val (.int p5), .val (.int p6), .val (.int kk), .val (.int (Int32.ofNat ln)), .val (.int (Int32.ofNat o)), .val (.ref b13), .val (.ref b14), .val (.ref b15), .unset, .unset, .unset, .unset] [(.ref b15)])) _
    refine XS.bipush X179.here hx rfl (hb hby at_195) ?_
    show Steps p.tables e below (T179.setTop (mkF m 197 #[.val (.long q1), .second, .val (.long q2), .second, .val (.long q3), .second, .val (.long q4), .second, .val (.int p5), .val (.int p6), .val (.int kk), .val (.int (Int32.ofNat ln)), .val (.int (Int32.ofNat o)), .val (.ref b13), .val (.ref b14), .val (.ref b15), .unset, .unset, .unset, .unset] [(.int (6 : Int32)), (.ref b15)])) _
    refine XS.lload X179.here hx rfl (hb hby at_197) rfl ?_
    show Steps p.tables e below (T179.setTop (mkF m 199 #[.val (.long q1), .second, .val (.long q2), .second, .val (.long q3), .second, .val (.long q4), .second, .val (.int p5), .val (.int p6), .val (.int kk), .val (.int (Int32.ofNat ln)), .val (.int (Int32.ofNat o)), .val (.ref b13), .val (.ref b14), .val (.ref b15), .unset, .unset, .unset, .unset] [(.long q4), (.int (6 : Int32)), (.ref b15)])) _
    refine XS.bipush X179.here hx rfl (hb hby at_199) ?_
    show Steps p.tables e below (T179.setTop (mkF m 201 #[.val (.long q1), .second, .val (.long q2), .second, .val (.long q3), .second, .val (.long q4), .second, .val (.int p5), .val (.int p6), .val (.int kk), .val (.int (Int32.ofNat ln)), .val (.int (Int32.ofNat o)), .val (.ref b13), .val (.ref b14), .val (.ref b15), .unset, .unset, .unset, .unset] [(.int (32 : Int32)), (.long q4), (.int (6 : Int32)), (.ref b15)])) _
    refine XS.lshr X179.here hx rfl (hb hby at_201) rfl ?_
    show Steps p.tables e below (T179.setTop (mkF m 202 #[.val (.long q1), .second, .val (.long q2), .second, .val (.long q3), .second, .val (.long q4), .second, .val (.int p5), .val (.int p6), .val (.int kk), .val (.int (Int32.ofNat ln)), .val (.int (Int32.ofNat o)), .val (.ref b13), .val (.ref b14), .val (.ref b15), .unset, .unset, .unset, .unset] [(.long (q4 >>> ((32 : Int32) &&& 0x3f).toInt64)), (.int (6 : Int32)), (.ref b15)])) _
    refine XS.l2i X179.here hx rfl (hb hby at_202) rfl ?_
    show Steps p.tables e below (T179.setTop (mkF m 203 #[.val (.long q1), .second, .val (.long q2), .second, .val (.long q3), .second, .val (.long q4), .second, .val (.int p5), .val (.int p6), .val (.int kk), .val (.int (Int32.ofNat ln)), .val (.int (Int32.ofNat o)), .val (.ref b13), .val (.ref b14), .val (.ref b15), .unset, .unset, .unset, .unset] [(.int ((q4 >>> ((32 : Int32) &&& 0x3f).toInt64).toInt32)), (.int (6 : Int32)), (.ref b15)])) _
    refine XS.i2s X179.here hx rfl (hb hby at_203) rfl ?_
    show Steps p.tables e below (T179.setTop (mkF m 204 #[.val (.long q1), .second, .val (.long q2), .second, .val (.long q3), .second, .val (.long q4), .second, .val (.int p5), .val (.int p6), .val (.int kk), .val (.int (Int32.ofNat ln)), .val (.int (Int32.ofNat o)), .val (.ref b13), .val (.ref b14), .val (.ref b15), .unset, .unset, .unset, .unset] [(.int (((q4 >>> ((32 : Int32) &&& 0x3f).toInt64).toInt32).toInt16.toInt32)), (.int (6 : Int32)), (.ref b15)])) _
    refine XS.i2dS X179.here hx rfl (hb hby at_204) rfl rfl ?_
    exact k9
  obtain ⟨cl183, Ar183, Sz183, Hv183⟩ := u182
  have u184 : own_A Z h179 b15 .double 8 (fun j => .double (if j < 6 then FP.i2d (own_bf q3 q4 j) else 0)) := ⟨cl183, Ar183, Sz183, Hv183⟩
  obtain ⟨T185, h185, X185, e185, W185, st185⟩ := stD X179 hx hZ e179 Ar183 (j := (6 : Int32)) (own_hin Sz183 (by decide) (by decide)) (g := (mkF m 205 #[.val (.long q1), .second, .val (.long q2), .second, .val (.long q3), .second, .val (.long q4), .second, .val (.int p5), .val (.int p6), .val (.int kk), .val (.int (Int32.ofNat ln)), .val (.int (Int32.ofNat o)), .val (.ref b13), .val (.ref b14), .val (.ref b15), .unset, .unset, .unset, .unset] [(.double (FP.i2d (((q4 >>> ((32 : Int32) &&& 0x3f).toInt64).toInt32).toInt16.toInt32))), (.int (6 : Int32)), (.ref b15)])) rfl rfl (hb hby at_205)
  have N185 := Fr.snoc X185 N179 g_b15
  refine go (T185.setTop (mkF m 206 #[.val (.long q1), .second, .val (.long q2), .second, .val (.long q3), .second, .val (.long q4), .second, .val (.int p5), .val (.int p6), .val (.int kk), .val (.int (Int32.ofNat ln)), .val (.int (Int32.ofNat o)), .val (.ref b13), .val (.ref b14), .val (.ref b15), .unset, .unset, .unset, .unset] [])) _ (fun t9 k9 => st185 _ k9) ?_
  have u186 : own_A Z h185 b14 .double ln (fun j => .double (FP.i2d ((own_vv q1 q2) j))) := own_A_other u180 W185 ne142
  have u187 : Keep h0 h185 [] := u181.wr W185 (Or.inr sz_b15)
  have u188 : own_A Z h185 b15 .double 8 (fun j => .double (if j < 7 then FP.i2d (own_bf q3 q4 j) else 0)) := own_A_congr (own_A_set Ar183 Sz183 Hv183 W185 (by decide)) (own_setf Value.double (fun j => FP.i2d (own_bf q3 q4 j)) 0 6 8)
  refine go (T185.setTop (mkF m 218 #[.val (.long q1), .second, .val (.long q2), .second, .val (.long q3), .second, .val (.long q4), .second, .val (.int p5), .val (.int p6), .val (.int kk), .val (.int (Int32.ofNat ln)), .val (.int (Int32.ofNat o)), .val (.ref b13), .val (.ref b14), .val (.ref b15), .unset, .unset, .unset, .unset] [(.double (FP.i2d (((q4 >>> ((48 : Int32) &&& 0x3f).toInt64).toInt32).toInt16.toInt32))), (.int (7 : Int32)), (.ref b15)])) _ (fun t9 k9 => ?_) ?_
  · show Steps p.tables e below (T185.setTop (mkF m 206 #[.val (.long q1), .second, .val (.long q2), .second, .val (.long q3), .second, .val (.long q4), .second, .val (.int p5), .val (.int p6), .val (.int kk), .val (.int (Int32.ofNat ln)), .val (.int (Int32.ofNat o)), .val (.ref b13), .val (.ref b14), .val (.ref b15), .unset, .unset, .unset, .unset] [])) _
    refine XS.aload X185.here hx rfl (hb hby at_206) rfl rfl ?_
    show Steps p.tables e below (T185.setTop (mkF m 208 #[.val (.long q1), .second, .val (.long q2), .second, .val (.long q3), .second, .val (.long q4), .second, .val (.int p5), .val (.int p6), .val (.int kk), .val (.int (Int32.ofNat ln)), .val (.int (Int32.ofNat o)), .val (.ref b13), .val (.ref b14), .val (.ref b15), .unset, .unset, .unset, .unset] [(.ref b15)])) _
    refine XS.bipush X185.here hx rfl (hb hby at_208) ?_
    show Steps p.tables e below (T185.setTop (mkF m 210 #[.val (.long q1), .second, .val (.long q2), .second, .val (.long q3), .second, .val (.long q4), .second, .val (.int p5), .val (.int p6), .val (.int kk), .val (.int (Int32.ofNat ln)), .val (.int (Int32.ofNat o)), .val (.ref b13), .val (.ref b14), .val (.ref b15), .unset, .unset, .unset, .unset] [(.int (7 : Int32)), (.ref b15)])) _
    refine XS.lload X185.here hx rfl (hb hby at_210) rfl ?_
    show Steps p.tables e below (T185.setTop (mkF m 212 #[.val (.long q1), .second, .val (.long q2), .second, .val (.long q3), .second, .val (.long q4), .second, .val (.int p5), .val (.int p6), .val (.int kk), .val (.int (Int32.ofNat ln)), .val (.int (Int32.ofNat o)), .val (.ref b13), .val (.ref b14), .val (.ref b15), .unset, .unset, .unset, .unset] [(.long q4), (.int (7 : Int32)), (.ref b15)])) _
    refine XS.bipush X185.here hx rfl (hb hby at_212) ?_
    show Steps p.tables e below (T185.setTop (mkF m 214 #[.val (.long q1), .second, .val (.long q2), .second, .val (.long q3), .second, .val (.long q4), .second, .val (.int p5), .val (.int p6), .val (.int kk), .val (.int (Int32.ofNat ln)), .val (.int (Int32.ofNat o)), .val (.ref b13), .val (.ref b14), .val (.ref b15), .unset, .unset, .unset, .unset] [(.int (48 : Int32)), (.long q4), (.int (7 : Int32)), (.ref b15)])) _
    refine XS.lshr X185.here hx rfl (hb hby at_214) rfl ?_
    show Steps p.tables e below (T185.setTop (mkF m 215 #[.val (.long q1), .second, .val (.long q2), .second, .val (.long q3), .second, .val (.long q4), .second, .val (.int p5), .val (.int p6), .val (.int kk), .val (.int (Int32.ofNat ln)), .val (.int (Int32.ofNat o)), .val (.ref b13), .val (.ref b14), .val (.ref b15), .unset, .unset, .unset, .unset] [(.long (q4 >>> ((48 : Int32) &&& 0x3f).toInt64)), (.int (7 : Int32)), (.ref b15)])) _
    refine XS.l2i X185.here hx rfl (hb hby at_215) rfl ?_
    show Steps p.tables e below (T185.setTop (mkF m 216 #[.val (.long q1), .second, .val (.long q2), .second, .val (.long q3), .second, .val (.long q4), .second, .val (.int p5), .val (.int p6), .val (.int kk), .val (.int (Int32.ofNat ln)), .val (.int (Int32.ofNat o)), .val (.ref b13), .val (.ref b14), .val (.ref b15), .unset, .unset, .unset, .unset] [(.int ((q4 >>> ((48 : Int32) &&& 0x3f).toInt64).toInt32)), (.int (7 : Int32)), (.ref b15)])) _
    refine XS.i2s X185.here hx rfl (hb hby at_216) rfl ?_
    show Steps p.tables e below (T185.setTop (mkF m 217 #[.val (.long q1), .second, .val (.long q2), .second, .val (.long q3), .second, .val (.long q4), .second, .val (.int p5), .val (.int p6), .val (.int kk), .val (.int (Int32.ofNat ln)), .val (.int (Int32.ofNat o)), .val (.ref b13), .val (.ref b14), .val (.ref b15), .unset, .unset, .unset, .unset] [(.int (((q4 >>> ((48 : Int32) &&& 0x3f).toInt64).toInt32).toInt16.toInt32)), (.int (7 : Int32)), (.ref b15)])) _
    refine XS.i2dS X185.here hx rfl (hb hby at_217) rfl rfl ?_
    exact k9
  obtain ⟨cl189, Ar189, Sz189, Hv189⟩ := u188
  have u190 : own_A Z h185 b15 .double 8 (fun j => .double (if j < 7 then FP.i2d (own_bf q3 q4 j) else 0)) := ⟨cl189, Ar189, Sz189, Hv189⟩
  obtain ⟨T191, h191, X191, e191, W191, st191⟩ := stD X185 hx hZ e185 Ar189 (j := (7 : Int32)) (own_hin Sz189 (by decide) (by decide)) (g := (mkF m 218 #[.val (.long q1), .second, .val (.long q2), .second, .val (.long q3), .second, .val (.long q4), .second, .val (.int p5), .val (.int p6), .val (.int kk), .val (.int (Int32.ofNat ln)), .val (.int (Int32.ofNat o)), .val (.ref b13), .val (.ref b14), .val (.ref b15), .unset, .unset, .unset, .unset] [(.double (FP.i2d (((q4 >>> ((48 : Int32) &&& 0x3f).toInt64).toInt32).toInt16.toInt32))), (.int (7 : Int32)), (.ref b15)])) rfl rfl (hb hby at_218)
  have N191 := Fr.snoc X191 N185 g_b15
  refine go (T191.setTop (mkF m 219 #[.val (.long q1), .second, .val (.long q2), .second, .val (.long q3), .second, .val (.long q4), .second, .val (.int p5), .val (.int p6), .val (.int kk), .val (.int (Int32.ofNat ln)), .val (.int (Int32.ofNat o)), .val (.ref b13), .val (.ref b14), .val (.ref b15), .unset, .unset, .unset, .unset] [])) _ (fun t9 k9 => st191 _ k9) ?_
  have u192 : own_A Z h191 b14 .double ln (fun j => .double (FP.i2d ((own_vv q1 q2) j))) := own_A_other u186 W191 ne142
  have u193 : Keep h0 h191 [] := u187.wr W191 (Or.inr sz_b15)
  have u194 : own_A Z h191 b15 .double 8 (fun j => .double (if j < 8 then FP.i2d (own_bf q3 q4 j) else 0)) := own_A_congr (own_A_set Ar189 Sz189 Hv189 W191 (by decide)) (own_setf Value.double (fun j => FP.i2d (own_bf q3 q4 j)) 0 7 8)
  have u195 : own_A Z h191 b15 .double 8 (fun j => .double (FP.i2d (own_bf q3 q4 j))) := own_A_congr u194 (own_full Value.double (fun j => FP.i2d (own_bf q3 q4 j)) 0 8)
  refine go (T191.setTop (mkF m 221 #[.val (.long q1), .second, .val (.long q2), .second, .val (.long q3), .second, .val (.long q4), .second, .val (.int p5), .val (.int p6), .val (.int kk), .val (.int (Int32.ofNat ln)), .val (.int (Int32.ofNat o)), .val (.ref b13), .val (.ref b14), .val (.ref b15), .unset, .unset, .unset, .unset] [(.int (8 : Int32))])) _ (fun t9 k9 => ?_) ?_
  · show Steps p.tables e below (T191.setTop (mkF m 219 #[.val (.long q1), .second, .val (.long q2), .second, .val (.long q3), .second, .val (.long q4), .second, .val (.int p5), .val (.int p6), .val (.int kk), .val (.int (Int32.ofNat ln)), .val (.int (Int32.ofNat o)), .val (.ref b13), .val (.ref b14), .val (.ref b15), .unset, .unset, .unset, .unset] [])) _
    refine XS.bipush X191.here hx rfl (hb hby at_219) ?_
    exact k9
  obtain ⟨T196, h196, k196, X196, e196, E196, A196, st196⟩ := newP X191 hx hZ (hw _ (List.mem_of_getElem? (i := 1) rfl)) e191 (g := (mkF m 221 #[.val (.long q1), .second, .val (.long q2), .second, .val (.long q3), .second, .val (.long q4), .second, .val (.int p5), .val (.int p6), .val (.int kk), .val (.int (Int32.ofNat ln)), .val (.int (Int32.ofNat o)), .val (.ref b13), .val (.ref b14), .val (.ref b15), .unset, .unset, .unset, .unset] [(.int (8 : Int32))])) rfl (hb hby at_221) rfl (by decide) (cap := 8) (by decide) (by decide) (by decide) (by decide)
  obtain ⟨b16, g196⟩ : ∃ z, z = h191.size := ⟨_, rfl⟩
  rw [← g196] at A196 st196
  refine go (T196.setTop (mkF m 223 #[.val (.long q1), .second, .val (.long q2), .second, .val (.long q3), .second, .val (.long q4), .second, .val (.int p5), .val (.int p6), .val (.int kk), .val (.int (Int32.ofNat ln)), .val (.int (Int32.ofNat o)), .val (.ref b13), .val (.ref b14), .val (.ref b15), .unset, .unset, .unset, .unset] [(.ref b16)])) _ (fun t9 k9 => st196 _ k9) ?_
  have ne197 : b14 ≠ b16 := Nat.ne_of_lt (Nat.lt_of_lt_of_le (own_A_lt u192) (Nat.le_of_eq g196.symm))
  have ne198 : b15 ≠ b16 := Nat.ne_of_lt (Nat.lt_of_lt_of_le (own_A_lt u195) (Nat.le_of_eq g196.symm))
  have sz_b16 : h0.size ≤ b16 := Nat.le_trans u193.1 (Nat.le_of_eq g196.symm)
  have g_b16 : n0 ≤ b16 := Nat.le_trans Z0 sz_b16
  have u199 : own_A Z h196 b14 .double ln (fun j => .double (FP.i2d ((own_vv q1 q2) j))) := own_A_ext u192 E196
  have u200 : own_A Z h196 b15 .double 8 (fun j => .double (FP.i2d (own_bf q3 q4 j))) := own_A_ext u195 E196
  have u201 : Keep h0 h196 [] := u193.ext E196
  have u202 : own_A Z h196 b16 .double 8 (fun _ => (.double 0)) := own_A_new A196 rfl
  have u203 : own_A Z h196 b16 .double 8 (fun j => .double (if j < 0 then FP.i2d (own_bf q3 q4 j) else 0)) := own_A_congr u202 (own_zero Value.double (fun j => FP.i2d (own_bf q3 q4 j)) 0 8)
  refine go (T196.setTop (mkF m 231 #[.val (.long q1), .second, .val (.long q2), .second, .val (.long q3), .second, .val (.long q4), .second, .val (.int p5), .val (.int p6), .val (.int kk), .val (.int (Int32.ofNat ln)), .val (.int (Int32.ofNat o)), .val (.ref b13), .val (.ref b14), .val (.ref b15), .val (.ref b16), .unset, .unset, .unset] [(.int (0 : Int32)), (.ref b15), (.int (0 : Int32)), (.ref b16)])) _ (fun t9 k9 => ?_) ?_
  · show Steps p.tables e below (T196.setTop (mkF m 223 #[.val (.long q1), .second, .val (.long q2), .second, .val (.long q3), .second, .val (.long q4), .second, .val (.int p5), .val (.int p6), .val (.int kk), .val (.int (Int32.ofNat ln)), .val (.int (Int32.ofNat o)), .val (.ref b13), .val (.ref b14), .val (.ref b15), .unset, .unset, .unset, .unset] [(.ref b16)])) _
    refine XS.astore X196.here hx rfl (hb hby at_223) rfl rfl (l' := #[.val (.long q1), .second, .val (.long q2), .second, .val (.long q3), .second, .val (.long q4), .second, .val (.int p5), .val (.int p6), .val (.int kk), .val (.int (Int32.ofNat ln)), .val (.int (Int32.ofNat o)), .val (.ref b13), .val (.ref b14), .val (.ref b15), .val (.ref b16), .unset, .unset, .unset]) rfl ?_
    show Steps p.tables e below (T196.setTop (mkF m 225 #[.val (.long q1), .second, .val (.long q2), .second, .val (.long q3), .second, .val (.long q4), .second, .val (.int p5), .val (.int p6), .val (.int kk), .val (.int (Int32.ofNat ln)), .val (.int (Int32.ofNat o)), .val (.ref b13), .val (.ref b14), .val (.ref b15), .val (.ref b16), .unset, .unset, .unset] [])) _
    refine XS.aload X196.here hx rfl (hb hby at_225) rfl rfl ?_
    show Steps p.tables e below (T196.setTop (mkF m 227 #[.val (.long q1), .second, .val (.long q2), .second, .val (.long q3), .second, .val (.long q4), .second, .val (.int p5), .val (.int p6), .val (.int kk), .val (.int (Int32.ofNat ln)), .val (.int (Int32.ofNat o)), .val (.ref b13), .val (.ref b14), .val (.ref b15), .val (.ref b16), .unset, .unset, .unset] [(.ref b16)])) _
    refine XS.iconst X196.here hx rfl (hb hby at_227) ?_
    show Steps p.tables e below (T196.setTop (mkF m 228 #[.val (.long q1), .second, .val (.long q2), .second, .val (.long q3), .second, .val (.long q4), .second, .val (.int p5), .val (.int p6), .val (.int kk), .val (.int (Int32.ofNat ln)), .val (.int (Int32.ofNat o)), .val (.ref b13), .val (.ref b14), .val (.ref b15), .val (.ref b16), .unset, .unset, .unset] [(.int (0 : Int32)), (.ref b16)])) _
    refine XS.aload X196.here hx rfl (hb hby at_228) rfl rfl ?_
    show Steps p.tables e below (T196.setTop (mkF m 230 #[.val (.long q1), .second, .val (.long q2), .second, .val (.long q3), .second, .val (.long q4), .second, .val (.int p5), .val (.int p6), .val (.int kk), .val (.int (Int32.ofNat ln)), .val (.int (Int32.ofNat o)), .val (.ref b13), .val (.ref b14), .val (.ref b15), .val (.ref b16), .unset, .unset, .unset] [(.ref b15), (.int (0 : Int32)), (.ref b16)])) _
    refine XS.iconst X196.here hx rfl (hb hby at_230) ?_
    exact k9
  obtain ⟨cl204, Ar204, Sz204, Hv204⟩ := u200
  have u205 : own_A Z h196 b15 .double 8 (fun j => .double (FP.i2d (own_bf q3 q4 j))) := ⟨cl204, Ar204, Sz204, Hv204⟩
  refine go (T196.setTop (mkF m 232 #[.val (.long q1), .second, .val (.long q2), .second, .val (.long q3), .second, .val (.long q4), .second, .val (.int p5), .val (.int p6), .val (.int kk), .val (.int (Int32.ofNat ln)), .val (.int (Int32.ofNat o)), .val (.ref b13), .val (.ref b14), .val (.ref b15), .val (.ref b16), .unset, .unset, .unset] [(.double (FP.i2d (own_bf q3 q4 0))), (.int (0 : Int32)), (.ref b16)])) _ (fun t9 k9 => ?_) ?_
  · show Steps p.tables e below (T196.setTop (mkF m 231 #[.val (.long q1), .second, .val (.long q2), .second, .val (.long q3), .second, .val (.long q4), .second, .val (.int p5), .val (.int p6), .val (.int kk), .val (.int (Int32.ofNat ln)), .val (.int (Int32.ofNat o)), .val (.ref b13), .val (.ref b14), .val (.ref b15), .val (.ref b16), .unset, .unset, .unset] [(.int (0 : Int32)), (.ref b15), (.int (0 : Int32)), (.ref b16)])) _
    refine X196.daload hx (j := (0 : Int32)) (v := (.double (FP.i2d (own_bf q3 q4 0)))) (by rw [e196]; exact Ar204.1) (State.isArrayOf_alike hZ.alike Ar204.2.1) Ar204.2.2 (own_hin Sz204 (by decide) (by decide)) ((Hv204 _ (by decide)).trans (congrArg some (rfl))) (g := (mkF m 231 #[.val (.long q1), .second, .val (.long q2), .second, .val (.long q3), .second, .val (.long q4), .second, .val (.int p5), .val (.int p6), .val (.int kk), .val (.int (Int32.ofNat ln)), .val (.int (Int32.ofNat o)), .val (.ref b13), .val (.ref b14), .val (.ref b15), .val (.ref b16), .unset, .unset, .unset] [(.int (0 : Int32)), (.ref b15), (.int (0 : Int32)), (.ref b16)])) rfl rfl (hb hby at_231) _ ?_
    exact k9
  obtain ⟨cl206, Ar206, Sz206, Hv206⟩ := u203
  have u207 : own_A Z h196 b16 .double 8 (fun j => .double (if j < 0 then FP.i2d (own_bf q3 q4 j) else 0)) := ⟨cl206, Ar206, Sz206, Hv206⟩
  obtain ⟨T208, h208, X208, e208, W208, st208⟩ := stD X196 hx hZ e196 Ar206 (j := (0 : Int32)) (own_hin Sz206 (by decide) (by decide)) (g := (mkF m 232 #[.val (.long q1), .second, .val (.long q2), .second, .val (.long q3), .second, .val (.long q4), .second, .val (.int p5), .val (.int p6), .val (.int kk), .val (.int (Int32.ofNat ln)), .val (.int (Int32.ofNat o)), .val (.ref b13), .val (.ref b14), .val (.ref b15), .val (.ref b16), .unset, .unset, .unset] [(.double (FP.i2d (own_bf q3 q4 0))), (.int (0 : Int32)), (.ref b16)])) rfl rfl (hb hby at_232)
  have N208 := Fr.snoc X208 N191 g_b16
  refine go (T208.setTop (mkF m 233 #[.val (.long q1), .second, .val (.long q2), .second, .val (.long q3), .second, .val (.long q4), .second, .val (.int p5), .val (.int p6), .val (.int kk), .val (.int (Int32.ofNat ln)), .val (.int (Int32.ofNat o)), .val (.ref b13), .val (.ref b14), .val (.ref b15), .val (.ref b16), .unset, .unset, .unset] [])) _ (fun t9 k9 => st208 _ k9) ?_
  have u209 : own_A Z h208 b14 .double ln (fun j => .double (FP.i2d ((own_vv q1 q2) j))) := own_A_other u199 W208 ne197
  have u210 : own_A Z h208 b15 .double 8 (fun j => .double (FP.i2d (own_bf q3 q4 j))) := own_A_other u205 W208 ne198
  have u211 : Keep h0 h208 [] := u201.wr W208 (Or.inr sz_b16)
  have u212 : own_A Z h208 b16 .double 8 (fun j => .double (if j < 1 then FP.i2d (own_bf q3 q4 j) else 0)) := own_A_congr (own_A_set Ar206 Sz206 Hv206 W208 (by decide)) (own_setf Value.double (fun j => FP.i2d (own_bf q3 q4 j)) 0 0 8)
  refine go (T208.setTop (mkF m 239 #[.val (.long q1), .second, .val (.long q2), .second, .val (.long q3), .second, .val (.long q4), .second, .val (.int p5), .val (.int p6), .val (.int kk), .val (.int (Int32.ofNat ln)), .val (.int (Int32.ofNat o)), .val (.ref b13), .val (.ref b14), .val (.ref b15), .val (.ref b16), .unset, .unset, .unset] [(.int (1 : Int32)), (.ref b15), (.int (1 : Int32)), (.ref b16)])) _ (fun t9 k9 => ?_) ?_
  · show Steps p.tables e below (T208.setTop (mkF m 233 #[.val (.long q1), .second, .val (.long q2), .second, .val (.long q3), .second, .val (.long q4), .second, .val (.int p5), .val (.int p6), .val (.int kk), .val (.int (Int32.ofNat ln)), .val (.int (Int32.ofNat o)), .val (.ref b13), .val (.ref b14), .val (.ref b15), .val (.ref b16), .unset, .unset, .unset] [])) _
    refine XS.aload X208.here hx rfl (hb hby at_233) rfl rfl ?_
    show Steps p.tables e below (T208.setTop (mkF m 235 #[.val (.long q1), .second, .val (.long q2), .second, .val (.long q3), .second, .val (.long q4), .second, .val (.int p5), .val (.int p6), .val (.int kk), .val (.int (Int32.ofNat ln)), .val (.int (Int32.ofNat o)), .val (.ref b13), .val (.ref b14), .val (.ref b15), .val (.ref b16), .unset, .unset, .unset] [(.ref b16)])) _
    refine XS.iconst X208.here hx rfl (hb hby at_235) ?_
    show Steps p.tables e below (T208.setTop (mkF m 236 #[.val (.long q1), .second, .val (.long q2), .second, .val (.long q3), .second, .val (.long q4), .second, .val (.int p5), .val (.int p6), .val (.int kk), .val (.int (Int32.ofNat ln)), .val (.int (Int32.ofNat o)), .val (.ref b13), .val (.ref b14), .val (.ref b15), .val (.ref b16), .unset, .unset, .unset] [(.int (1 : Int32)), (.ref b16)])) _
    refine XS.aload X208.here hx rfl (hb hby at_236) rfl rfl ?_
    show Steps p.tables e below (T208.setTop (mkF m 238 #[.val (.long q1), .second, .val (.long q2), .second, .val (.long q3), .second, .val (.long q4), .second, .val (.int p5), .val (.int p6), .val (.int kk), .val (.int (Int32.ofNat ln)), .val (.int (Int32.ofNat o)), .val (.ref b13), .val (.ref b14), .val (.ref b15), .val (.ref b16), .unset, .unset, .unset] [(.ref b15), (.int (1 : Int32)), (.ref b16)])) _
    refine XS.iconst X208.here hx rfl (hb hby at_238) ?_
    exact k9
  obtain ⟨cl213, Ar213, Sz213, Hv213⟩ := u210
  have u214 : own_A Z h208 b15 .double 8 (fun j => .double (FP.i2d (own_bf q3 q4 j))) := ⟨cl213, Ar213, Sz213, Hv213⟩
  refine go (T208.setTop (mkF m 240 #[.val (.long q1), .second, .val (.long q2), .second, .val (.long q3), .second, .val (.long q4), .second, .val (.int p5), .val (.int p6), .val (.int kk), .val (.int (Int32.ofNat ln)), .val (.int (Int32.ofNat o)), .val (.ref b13), .val (.ref b14), .val (.ref b15), .val (.ref b16), .unset, .unset, .unset] [(.double (FP.i2d (own_bf q3 q4 1))), (.int (1 : Int32)), (.ref b16)])) _ (fun t9 k9 => ?_) ?_
  · show Steps p.tables e below (T208.setTop (mkF m 239 #[.val (.long q1), .second, .val (.long q2), .second, .val (.long q3), .second, .val (.long q4), .second, .val (.int p5), .val (.int p6), .val (.int kk), .val (.int (Int32.ofNat ln)), .val (.int (Int32.ofNat o)), .val (.ref b13), .val (.ref b14), .val (.ref b15), .val (.ref b16), .unset, .unset, .unset] [(.int (1 : Int32)), (.ref b15), (.int (1 : Int32)), (.ref b16)])) _
    refine X208.daload hx (j := (1 : Int32)) (v := (.double (FP.i2d (own_bf q3 q4 1)))) (by rw [e208]; exact Ar213.1) (State.isArrayOf_alike hZ.alike Ar213.2.1) Ar213.2.2 (own_hin Sz213 (by decide) (by decide)) ((Hv213 _ (by decide)).trans (congrArg some (rfl))) (g := (mkF m 239 #[.val (.long q1), .second, .val (.long q2), .second, .val (.long q3), .second, .val (.long q4), .second, .val (.int p5), .val (.int p6), .val (.int kk), .val (.int (Int32.ofNat ln)), .val (.int (Int32.ofNat o)), .val (.ref b13), .val (.ref b14), .val (.ref b15), .val (.ref b16), .unset, .unset, .unset] [(.int (1 : Int32)), (.ref b15), (.int (1 : Int32)), (.ref b16)])) rfl rfl (hb hby at_239) _ ?_
    exact k9
  obtain ⟨cl215, Ar215, Sz215, Hv215⟩ := u212
  have u216 : own_A Z h208 b16 .double 8 (fun j => .double (if j < 1 then FP.i2d (own_bf q3 q4 j) else 0)) := ⟨cl215, Ar215, Sz215, Hv215⟩
  obtain ⟨T217, h217, X217, e217, W217, st217⟩ := stD X208 hx hZ e208 Ar215 (j := (1 : Int32)) (own_hin Sz215 (by decide) (by decide)) (g := (mkF m 240 #[.val (.long q1), .second, .val (.long q2), .second, .val (.long q3), .second, .val (.long q4), .second, .val (.int p5), .val (.int p6), .val (.int kk), .val (.int (Int32.ofNat ln)), .val (.int (Int32.ofNat o)), .val (.ref b13), .val (.ref b14), .val (.ref b15), .val (.ref b16), .unset, .unset, .unset] [(.double (FP.i2d (own_bf q3 q4 1))), (.int (1 : Int32)), (.ref b16)])) rfl rfl (hb hby at_240)
  have N217 := Fr.snoc X217 N208 g_b16
  refine go (T217.setTop (mkF m 241 #[.val (.long q1), .second, .val (.long q2), .second, .val (.long q3), .second, .val (.long q4), .second, .val (.int p5), .val (.int p6), .val (.int kk), .val (.int (Int32.ofNat ln)), .val (.int (Int32.ofNat o)), .val (.ref b13), .val (.ref b14), .val (.ref b15), .val (.ref b16), .unset, .unset, .unset] [])) _ (fun t9 k9 => st217 _ k9) ?_
  have u218 : own_A Z h217 b14 .double ln (fun j => .double (FP.i2d ((own_vv q1 q2) j))) := own_A_other u209 W217 ne197
  have u219 : own_A Z h217 b15 .double 8 (fun j => .double (FP.i2d (own_bf q3 q4 j))) := own_A_other u214 W217 ne198
  have u220 : Keep h0 h217 [] := u211.wr W217 (Or.inr sz_b16)
  have u221 : own_A Z h217 b16 .double 8 (fun j => .double (if j < 2 then FP.i2d (own_bf q3 q4 j) else 0)) := own_A_congr (own_A_set Ar215 Sz215 Hv215 W217 (by decide)) (own_setf Value.double (fun j => FP.i2d (own_bf q3 q4 j)) 0 1 8)
  refine go (T217.setTop (mkF m 247 #[.val (.long q1), .second, .val (.long q2), .second, .val (.long q3), .second, .val (.long q4), .second, .val (.int p5), .val (.int p6), .val (.int kk), .val (.int (Int32.ofNat ln)), .val (.int (Int32.ofNat o)), .val (.ref b13), .val (.ref b14), .val (.ref b15), .val (.ref b16), .unset, .unset, .unset] [(.int (2 : Int32)), (.ref b15), (.int (2 : Int32)), (.ref b16)])) _ (fun t9 k9 => ?_) ?_
  · show Steps p.tables e below (T217.setTop (mkF m 241 #[.val (.long q1), .second, .val (.long q2), .second, .val (.long q3), .second, .val (.long q4), .second, .val (.int p5), .val (.int p6), .val (.int kk), .val (.int (Int32.ofNat ln)), .val (.int (Int32.ofNat o)), .val (.ref b13), .val (.ref b14), .val (.ref b15), .val (.ref b16), .unset, .unset, .unset] [])) _
    refine XS.aload X217.here hx rfl (hb hby at_241) rfl rfl ?_
    show Steps p.tables e below (T217.setTop (mkF m 243 #[.val (.long q1), .second, .val (.long q2), .second, .val (.long q3), .second, .val (.long q4), .second, .val (.int p5), .val (.int p6), .val (.int kk), .val (.int (Int32.ofNat ln)), .val (.int (Int32.ofNat o)), .val (.ref b13), .val (.ref b14), .val (.ref b15), .val (.ref b16), .unset, .unset, .unset] [(.ref b16)])) _
    refine XS.iconst X217.here hx rfl (hb hby at_243) ?_
    show Steps p.tables e below (T217.setTop (mkF m 244 #[.val (.long q1), .second, .val (.long q2), .second, .val (.long q3), .second, .val (.long q4), .second, .val (.int p5), .val (.int p6), .val (.int kk), .val (.int (Int32.ofNat ln)), .val (.int (Int32.ofNat o)), .val (.ref b13), .val (.ref b14), .val (.ref b15), .val (.ref b16), .unset, .unset, .unset] [(.int (2 : Int32)), (.ref b16)])) _
    refine XS.aload X217.here hx rfl (hb hby at_244) rfl rfl ?_
    show Steps p.tables e below (T217.setTop (mkF m 246 #[.val (.long q1), .second, .val (.long q2), .second, .val (.long q3), .second, .val (.long q4), .second, .val (.int p5), .val (.int p6), .val (.int kk), .val (.int (Int32.ofNat ln)), .val (.int (Int32.ofNat o)), .val (.ref b13), .val (.ref b14), .val (.ref b15), .val (.ref b16), .unset, .unset, .unset] [(.ref b15), (.int (2 : Int32)), (.ref b16)])) _
    refine XS.iconst X217.here hx rfl (hb hby at_246) ?_
    exact k9
  obtain ⟨cl222, Ar222, Sz222, Hv222⟩ := u219
  have u223 : own_A Z h217 b15 .double 8 (fun j => .double (FP.i2d (own_bf q3 q4 j))) := ⟨cl222, Ar222, Sz222, Hv222⟩
  refine go (T217.setTop (mkF m 248 #[.val (.long q1), .second, .val (.long q2), .second, .val (.long q3), .second, .val (.long q4), .second, .val (.int p5), .val (.int p6), .val (.int kk), .val (.int (Int32.ofNat ln)), .val (.int (Int32.ofNat o)), .val (.ref b13), .val (.ref b14), .val (.ref b15), .val (.ref b16), .unset, .unset, .unset] [(.double (FP.i2d (own_bf q3 q4 2))), (.int (2 : Int32)), (.ref b16)])) _ (fun t9 k9 => ?_) ?_
  · show Steps p.tables e below (T217.setTop (mkF m 247 #[.val (.long q1), .second, .val (.long q2), .second, .val (.long q3), .second, .val (.long q4), .second, .val (.int p5), .val (.int p6), .val (.int kk), .val (.int (Int32.ofNat ln)), .val (.int (Int32.ofNat o)), .val (.ref b13), .val (.ref b14), .val (.ref b15), .val (.ref b16), .unset, .unset, .unset] [(.int (2 : Int32)), (.ref b15), (.int (2 : Int32)), (.ref b16)])) _
    refine X217.daload hx (j := (2 : Int32)) (v := (.double (FP.i2d (own_bf q3 q4 2)))) (by rw [e217]; exact Ar222.1) (State.isArrayOf_alike hZ.alike Ar222.2.1) Ar222.2.2 (own_hin Sz222 (by decide) (by decide)) ((Hv222 _ (by decide)).trans (congrArg some (rfl))) (g := (mkF m 247 #[.val (.long q1), .second, .val (.long q2), .second, .val (.long q3), .second, .val (.long q4), .second, .val (.int p5), .val (.int p6), .val (.int kk), .val (.int (Int32.ofNat ln)), .val (.int (Int32.ofNat o)), .val (.ref b13), .val (.ref b14), .val (.ref b15), .val (.ref b16), .unset, .unset, .unset] [(.int (2 : Int32)), (.ref b15), (.int (2 : Int32)), (.ref b16)])) rfl rfl (hb hby at_247) _ ?_
    exact k9
  obtain ⟨cl224, Ar224, Sz224, Hv224⟩ := u221
  have u225 : own_A Z h217 b16 .double 8 (fun j => .double (if j < 2 then FP.i2d (own_bf q3 q4 j) else 0)) := ⟨cl224, Ar224, Sz224, Hv224⟩
  obtain ⟨T226, h226, X226, e226, W226, st226⟩ := stD X217 hx hZ e217 Ar224 (j := (2 : Int32)) (own_hin Sz224 (by decide) (by decide)) (g := (mkF m 248 #[.val (.long q1), .second, .val (.long q2), .second, .val (.long q3), .second, .val (.long q4), .second, .val (.int p5), .val (.int p6), .val (.int kk), .val (.int (Int32.ofNat ln)), .val (.int (Int32.ofNat o)), .val (.ref b13), .val (.ref b14), .val (.ref b15), .val (.ref b16), .unset, .unset, .unset] [(.double (FP.i2d (own_bf q3 q4 2))), (.int (2 : Int32)), (.ref b16)])) rfl rfl (hb hby at_248)
  have N226 := Fr.snoc X226 N217 g_b16
  refine go (T226.setTop (mkF m 249 #[.val (.long q1), .second, .val (.long q2), .second, .val (.long q3), .second, .val (.long q4), .second, .val (.int p5), .val (.int p6), .val (.int kk), .val (.int (Int32.ofNat ln)), .val (.int (Int32.ofNat o)), .val (.ref b13), .val (.ref b14), .val (.ref b15), .val (.ref b16), .unset, .unset, .unset] [])) _ (fun t9 k9 => st226 _ k9) ?_
  have u227 : own_A Z h226 b14 .double ln (fun j => .double (FP.i2d ((own_vv q1 q2) j))) := own_A_other u218 W226 ne197
  have u228 : own_A Z h226 b15 .double 8 (fun j => .double (FP.i2d (own_bf q3 q4 j))) := own_A_other u223 W226 ne198
  have u229 : Keep h0 h226 [] := u220.wr W226 (Or.inr sz_b16)
  have u230 : own_A Z h226 b16 .double 8 (fun j => .double (if j < 3 then FP.i2d (own_bf q3 q4 j) else 0)) := own_A_congr (own_A_set Ar224 Sz224 Hv224 W226 (by decide)) (own_setf Value.double (fun j => FP.i2d (own_bf q3 q4 j)) 0 2 8)
  refine go (T226.setTop (mkF m 255 #[.val (.long q1), .second, .val (.long q2), .second, .val (.long q3), .second, .val (.long q4), .second, .val (.int p5), .val (.int p6), .val (.int kk), .val (.int (Int32.ofNat ln)), .val (.int (Int32.ofNat o)), .val (.ref b13), .val (.ref b14), .val (.ref b15), .val (.ref b16), .unset, .unset, .unset] [(.int (3 : Int32)), (.ref b15), (.int (3 : Int32)), (.ref b16)])) _ (fun t9 k9 => ?_) ?_
  · show Steps p.tables e below (T226.setTop (mkF m 249 #[.val (.long q1), .second, .val (.long q2), .second, .val (.long q3), .second, .val (.long q4), .second, .val (.int p5), .val (.int p6), .val (.int kk), .val (.int (Int32.ofNat ln)), .val (.int (Int32.ofNat o)), .val (.ref b13), .val (.ref b14), .val (.ref b15), .val (.ref b16), .unset, .unset, .unset] [])) _
    refine XS.aload X226.here hx rfl (hb hby at_249) rfl rfl ?_
    show Steps p.tables e below (T226.setTop (mkF m 251 #[.val (.long q1), .second, .val (.long q2), .second, .val (.long q3), .second, .val (.long q4), .second, .val (.int p5), .val (.int p6), .val (.int kk), .val (.int (Int32.ofNat ln)), .val (.int (Int32.ofNat o)), .val (.ref b13), .val (.ref b14), .val (.ref b15), .val (.ref b16), .unset, .unset, .unset] [(.ref b16)])) _
    refine XS.iconst X226.here hx rfl (hb hby at_251) ?_
    show Steps p.tables e below (T226.setTop (mkF m 252 #[.val (.long q1), .second, .val (.long q2), .second, .val (.long q3), .second, .val (.long q4), .second, .val (.int p5), .val (.int p6), .val (.int kk), .val (.int (Int32.ofNat ln)), .val (.int (Int32.ofNat o)), .val (.ref b13), .val (.ref b14), .val (.ref b15), .val (.ref b16), .unset, .unset, .unset] [(.int (3 : Int32)), (.ref b16)])) _
    refine XS.aload X226.here hx rfl (hb hby at_252) rfl rfl ?_
    show Steps p.tables e below (T226.setTop (mkF m 254 #[.val (.long q1), .second, .val (.long q2), .second, .val (.long q3), .second, .val (.long q4), .second, .val (.int p5), .val (.int p6), .val (.int kk), .val (.int (Int32.ofNat ln)), .val (.int (Int32.ofNat o)), .val (.ref b13), .val (.ref b14), .val (.ref b15), .val (.ref b16), .unset, .unset, .unset] [(.ref b15), (.int (3 : Int32)), (.ref b16)])) _
    refine XS.iconst X226.here hx rfl (hb hby at_254) ?_
    exact k9
  obtain ⟨cl231, Ar231, Sz231, Hv231⟩ := u228
  have u232 : own_A Z h226 b15 .double 8 (fun j => .double (FP.i2d (own_bf q3 q4 j))) := ⟨cl231, Ar231, Sz231, Hv231⟩
  refine go (T226.setTop (mkF m 256 #[.val (.long q1), .second, .val (.long q2), .second, .val (.long q3), .second, .val (.long q4), .second, .val (.int p5), .val (.int p6), .val (.int kk), .val (.int (Int32.ofNat ln)), .val (.int (Int32.ofNat o)), .val (.ref b13), .val (.ref b14), .val (.ref b15), .val (.ref b16), .unset, .unset, .unset] [(.double (FP.i2d (own_bf q3 q4 3))), (.int (3 : Int32)), (.ref b16)])) _ (fun t9 k9 => ?_) ?_
  · show Steps p.tables e below (T226.setTop (mkF m 255 #[.val (.long q1), .second, .val (.long q2), .second, .val (.long q3), .second, .val (.long q4), .second, .val (.int p5), .val (.int p6), .val (.int kk), .val (.int (Int32.ofNat ln)), .val (.int (Int32.ofNat o)), .val (.ref b13), .val (.ref b14), .val (.ref b15), .val (.ref b16), .unset, .unset, .unset] [(.int (3 : Int32)), (.ref b15), (.int (3 : Int32)), (.ref b16)])) _
    refine X226.daload hx (j := (3 : Int32)) (v := (.double (FP.i2d (own_bf q3 q4 3)))) (by rw [e226]; exact Ar231.1) (State.isArrayOf_alike hZ.alike Ar231.2.1) Ar231.2.2 (own_hin Sz231 (by decide) (by decide)) ((Hv231 _ (by decide)).trans (congrArg some (rfl))) (g := (mkF m 255 #[.val (.long q1), .second, .val (.long q2), .second, .val (.long q3), .second, .val (.long q4), .second, .val (.int p5), .val (.int p6), .val (.int kk), .val (.int (Int32.ofNat ln)), .val (.int (Int32.ofNat o)), .val (.ref b13), .val (.ref b14), .val (.ref b15), .val (.ref b16), .unset, .unset, .unset] [(.int (3 : Int32)), (.ref b15), (.int (3 : Int32)), (.ref b16)])) rfl rfl (hb hby at_255) _ ?_
    exact k9
  obtain ⟨cl233, Ar233, Sz233, Hv233⟩ := u230
  have u234 : own_A Z h226 b16 .double 8 (fun j => .double (if j < 3 then FP.i2d (own_bf q3 q4 j) else 0)) := ⟨cl233, Ar233, Sz233, Hv233⟩
  obtain ⟨T235, h235, X235, e235, W235, st235⟩ := stD X226 hx hZ e226 Ar233 (j := (3 : Int32)) (own_hin Sz233 (by decide) (by decide)) (g := (mkF m 256 #[.val (.long q1), .second, .val (.long q2), .second, .val (.long q3), .second, .val (.long q4), .second, .val (.int p5), .val (.int p6), .val (.int kk), .val (.int (Int32.ofNat ln)), .val (.int (Int32.ofNat o)), .val (.ref b13), .val (.ref b14), .val (.ref b15), .val (.ref b16), .unset, .unset, .unset] [(.double (FP.i2d (own_bf q3 q4 3))), (.int (3 : Int32)), (.ref b16)])) rfl rfl (hb hby at_256)
  have N235 := Fr.snoc X235 N226 g_b16
  refine go (T235.setTop (mkF m 257 #[.val (.long q1), .second, .val (.long q2), .second, .val (.long q3), .second, .val (.long q4), .second, .val (.int p5), .val (.int p6), .val (.int kk), .val (.int (Int32.ofNat ln)), .val (.int (Int32.ofNat o)), .val (.ref b13), .val (.ref b14), .val (.ref b15), .val (.ref b16), .unset, .unset, .unset] [])) _ (fun t9 k9 => st235 _ k9) ?_
  have u236 : own_A Z h235 b14 .double ln (fun j => .double (FP.i2d ((own_vv q1 q2) j))) := own_A_other u227 W235 ne197
  have u237 : own_A Z h235 b15 .double 8 (fun j => .double (FP.i2d (own_bf q3 q4 j))) := own_A_other u232 W235 ne198
  have u238 : Keep h0 h235 [] := u229.wr W235 (Or.inr sz_b16)
  have u239 : own_A Z h235 b16 .double 8 (fun j => .double (if j < 4 then FP.i2d (own_bf q3 q4 j) else 0)) := own_A_congr (own_A_set Ar233 Sz233 Hv233 W235 (by decide)) (own_setf Value.double (fun j => FP.i2d (own_bf q3 q4 j)) 0 3 8)
  refine go (T235.setTop (mkF m 263 #[.val (.long q1), .second, .val (.long q2), .second, .val (.long q3), .second, .val (.long q4), .second, .val (.int p5), .val (.int p6), .val (.int kk), .val (.int (Int32.ofNat ln)), .val (.int (Int32.ofNat o)), .val (.ref b13), .val (.ref b14), .val (.ref b15), .val (.ref b16), .unset, .unset, .unset] [(.int (4 : Int32)), (.ref b15), (.int (4 : Int32)), (.ref b16)])) _ (fun t9 k9 => ?_) ?_
  · show Steps p.tables e below (T235.setTop (mkF m 257 #[.val (.long q1), .second, .val (.long q2), .second, .val (.long q3), .second, .val (.long q4), .second, .val (.int p5), .val (.int p6), .val (.int kk), .val (.int (Int32.ofNat ln)), .val (.int (Int32.ofNat o)), .val (.ref b13), .val (.ref b14), .val (.ref b15), .val (.ref b16), .unset, .unset, .unset] [])) _
    refine XS.aload X235.here hx rfl (hb hby at_257) rfl rfl ?_
    show Steps p.tables e below (T235.setTop (mkF m 259 #[.val (.long q1), .second, .val (.long q2), .second, .val (.long q3), .second, .val (.long q4), .second, .val (.int p5), .val (.int p6), .val (.int kk), .val (.int (Int32.ofNat ln)), .val (.int (Int32.ofNat o)), .val (.ref b13), .val (.ref b14), .val (.ref b15), .val (.ref b16), .unset, .unset, .unset] [(.ref b16)])) _
    refine XS.iconst X235.here hx rfl (hb hby at_259) ?_
    show Steps p.tables e below (T235.setTop (mkF m 260 #[.val (.long q1), .second, .val (.long q2), .second, .val (.long q3), .second, .val (.long q4), .second, .val (.int p5), .val (.int p6), .val (.int kk), .val (.int (Int32.ofNat ln)), .val (.int (Int32.ofNat o)), .val (.ref b13), .val (.ref b14), .val (.ref b15), .val (.ref b16), .unset, .unset, .unset] [(.int (4 : Int32)), (.ref b16)])) _
    refine XS.aload X235.here hx rfl (hb hby at_260) rfl rfl ?_
    show Steps p.tables e below (T235.setTop (mkF m 262 #[.val (.long q1), .second, .val (.long q2), .second, .val (.long q3), .second, .val (.long q4), .second, .val (.int p5), .val (.int p6), .val (.int kk), .val (.int (Int32.ofNat ln)), .val (.int (Int32.ofNat o)), .val (.ref b13), .val (.ref b14), .val (.ref b15), .val (.ref b16), .unset, .unset, .unset] [(.ref b15), (.int (4 : Int32)), (.ref b16)])) _
    refine XS.iconst X235.here hx rfl (hb hby at_262) ?_
    exact k9
  obtain ⟨cl240, Ar240, Sz240, Hv240⟩ := u237
  have u241 : own_A Z h235 b15 .double 8 (fun j => .double (FP.i2d (own_bf q3 q4 j))) := ⟨cl240, Ar240, Sz240, Hv240⟩
  refine go (T235.setTop (mkF m 264 #[.val (.long q1), .second, .val (.long q2), .second, .val (.long q3), .second, .val (.long q4), .second, .val (.int p5), .val (.int p6), .val (.int kk), .val (.int (Int32.ofNat ln)), .val (.int (Int32.ofNat o)), .val (.ref b13), .val (.ref b14), .val (.ref b15), .val (.ref b16), .unset, .unset, .unset] [(.double (FP.i2d (own_bf q3 q4 4))), (.int (4 : Int32)), (.ref b16)])) _ (fun t9 k9 => ?_) ?_
  · show Steps p.tables e below (T235.setTop (mkF m 263 #[.val (.long q1), .second, .val (.long q2), .second, .val (.long q3), .second, .val (.long q4), .second, .val (.int p5), .val (.int p6), .val (.int kk), .val (.int (Int32.ofNat ln)), .val (.int (Int32.ofNat o)), .val (.ref b13), .val (.ref b14), .val (.ref b15), .val (.ref b16), .unset, .unset, .unset] [(.int (4 : Int32)), (.ref b15), (.int (4 : Int32)), (.ref b16)])) _
    refine X235.daload hx (j := (4 : Int32)) (v := (.double (FP.i2d (own_bf q3 q4 4)))) (by rw [e235]; exact Ar240.1) (State.isArrayOf_alike hZ.alike Ar240.2.1) Ar240.2.2 (own_hin Sz240 (by decide) (by decide)) ((Hv240 _ (by decide)).trans (congrArg some (rfl))) (g := (mkF m 263 #[.val (.long q1), .second, .val (.long q2), .second, .val (.long q3), .second, .val (.long q4), .second, .val (.int p5), .val (.int p6), .val (.int kk), .val (.int (Int32.ofNat ln)), .val (.int (Int32.ofNat o)), .val (.ref b13), .val (.ref b14), .val (.ref b15), .val (.ref b16), .unset, .unset, .unset] [(.int (4 : Int32)), (.ref b15), (.int (4 : Int32)), (.ref b16)])) rfl rfl (hb hby at_263) _ ?_
    exact k9
  obtain ⟨cl242, Ar242, Sz242, Hv242⟩ := u239
  have u243 : own_A Z h235 b16 .double 8 (fun j => .double (if j < 4 then FP.i2d (own_bf q3 q4 j) else 0)) := ⟨cl242, Ar242, Sz242, Hv242⟩
  obtain ⟨T244, h244, X244, e244, W244, st244⟩ := stD X235 hx hZ e235 Ar242 (j := (4 : Int32)) (own_hin Sz242 (by decide) (by decide)) (g := (mkF m 264 #[.val (.long q1), .second, .val (.long q2), .second, .val (.long q3), .second, .val (.long q4), .second, .val (.int p5), .val (.int p6), .val (.int kk), .val (.int (Int32.ofNat ln)), .val (.int (Int32.ofNat o)), .val (.ref b13), .val (.ref b14), .val (.ref b15), .val (.ref b16), .unset, .unset, .unset] [(.double (FP.i2d (own_bf q3 q4 4))), (.int (4 : Int32)), (.ref b16)])) rfl rfl (hb hby at_264)
  have N244 := Fr.snoc X244 N235 g_b16
  refine go (T244.setTop (mkF m 265 #[.val (.long q1), .second, .val (.long q2), .second, .val (.long q3), .second, .val (.long q4), .second, .val (.int p5), .val (.int p6), .val (.int kk), .val (.int (Int32.ofNat ln)), .val (.int (Int32.ofNat o)), .val (.ref b13), .val (.ref b14), .val (.ref b15), .val (.ref b16), .unset, .unset, .unset] [])) _ (fun t9 k9 => st244 _ k9) ?_
  have u245 : own_A Z h244 b14 .double ln (fun j => .double (FP.i2d ((own_vv q1 q2) j))) := own_A_other u236 W244 ne197
  have u246 : own_A Z h244 b15 .double 8 (fun j => .double (FP.i2d (own_bf q3 q4 j))) := own_A_other u241 W244 ne198
  have u247 : Keep h0 h244 [] := u238.wr W244 (Or.inr sz_b16)
  have u248 : own_A Z h244 b16 .double 8 (fun j => .double (if j < 5 then FP.i2d (own_bf q3 q4 j) else 0)) := own_A_congr (own_A_set Ar242 Sz242 Hv242 W244 (by decide)) (own_setf Value.double (fun j => FP.i2d (own_bf q3 q4 j)) 0 4 8)
  refine go (T244.setTop (mkF m 271 #[.val (.long q1), .second, .val (.long q2), .second, .val (.long q3), .second, .val (.long q4), .second, .val (.int p5), .val (.int p6), .val (.int kk), .val (.int (Int32.ofNat ln)), .val (.int (Int32.ofNat o)), .val (.ref b13), .val (.ref b14), .val (.ref b15), .val (.ref b16), .unset, .unset, .unset] [(.int (5 : Int32)), (.ref b15), (.int (5 : Int32)), (.ref b16)])) _ (fun t9 k9 => ?_) ?_
  · show Steps p.tables e below (T244.setTop (mkF m 265 #[.val (.long q1), .second, .val (.long q2), .second, .val (.long q3), .second, .val (.long q4), .second, .val (.int p5), .val (.int p6), .val (.int kk), .val (.int (Int32.ofNat ln)), .val (.int (Int32.ofNat o)), .val (.ref b13), .val (.ref b14), .val (.ref b15), .val (.ref b16), .unset, .unset, .unset] [])) _
    refine XS.aload X244.here hx rfl (hb hby at_265) rfl rfl ?_
    show Steps p.tables e below (T244.setTop (mkF m 267 #[.val (.long q1), .second, .val (.long q2), .second, .val (.long q3), .second, .val (.long q4), .second, .val (.int p5), .val (.int p6), .val (.int kk), .val (.int (Int32.ofNat ln)), .val (.int (Int32.ofNat o)), .val (.ref b13), .val (.ref b14), .val (.ref b15), .val (.ref b16), .unset, .unset, .unset] [(.ref b16)])) _
    refine XS.iconst X244.here hx rfl (hb hby at_267) ?_
    show Steps p.tables e below (T244.setTop (mkF m 268 #[.val (.long q1), .second, .val (.long q2), .second, .val (.long q3), .second, .val (.long q4), .second, .val (.int p5), .val (.int p6), .val (.int kk), .val (.int (Int32.ofNat ln)), .val (.int (Int32.ofNat o)), .val (.ref b13), .val (.ref b14), .val (.ref b15), .val (.ref b16), .unset, .unset, .unset] [(.int (5 : Int32)), (.ref b16)])) _
    refine XS.aload X244.here hx rfl (hb hby at_268) rfl rfl ?_
    show Steps p.tables e below (T244.setTop (mkF m 270 #[.val (.long q1), .second, .val (.long q2), .second, .val (.long q3), .second, .val (.long q4), .second, .val (.int p5), .val (.int p6), .val (.int kk), .val (.int (Int32.ofNat ln)), .val (.int (Int32.ofNat o)), .val (.ref b13), .val (.ref b14), .val (.ref b15), .val (.ref b16), .unset, .unset, .unset] [(.ref b15), (.int (5 : Int32)), (.ref b16)])) _
    refine XS.iconst X244.here hx rfl (hb hby at_270) ?_
    exact k9
  obtain ⟨cl249, Ar249, Sz249, Hv249⟩ := u246
  have u250 : own_A Z h244 b15 .double 8 (fun j => .double (FP.i2d (own_bf q3 q4 j))) := ⟨cl249, Ar249, Sz249, Hv249⟩
  refine go (T244.setTop (mkF m 272 #[.val (.long q1), .second, .val (.long q2), .second, .val (.long q3), .second, .val (.long q4), .second, .val (.int p5), .val (.int p6), .val (.int kk), .val (.int (Int32.ofNat ln)), .val (.int (Int32.ofNat o)), .val (.ref b13), .val (.ref b14), .val (.ref b15), .val (.ref b16), .unset, .unset, .unset] [(.double (FP.i2d (own_bf q3 q4 5))), (.int (5 : Int32)), (.ref b16)])) _ (fun t9 k9 => ?_) ?_
  · show Steps p.tables e below (T244.setTop (mkF m 271 #[.val (.long q1), .second, .val (.long q2), .second, .val (.long q3), .second, .val (.long q4), .second, .val (.int p5), .val (.int p6), .val (.int kk), .val (.int (Int32.ofNat ln)), .val (.int (Int32.ofNat o)), .val (.ref b13), .val (.ref b14), .val (.ref b15), .val (.ref b16), .unset, .unset, .unset] [(.int (5 : Int32)), (.ref b15), (.int (5 : Int32)), (.ref b16)])) _
    refine X244.daload hx (j := (5 : Int32)) (v := (.double (FP.i2d (own_bf q3 q4 5)))) (by rw [e244]; exact Ar249.1) (State.isArrayOf_alike hZ.alike Ar249.2.1) Ar249.2.2 (own_hin Sz249 (by decide) (by decide)) ((Hv249 _ (by decide)).trans (congrArg some (rfl))) (g := (mkF m 271 #[.val (.long q1), .second, .val (.long q2), .second, .val (.long q3), .second, .val (.long q4), .second, .val (.int p5), .val (.int p6), .val (.int kk), .val (.int (Int32.ofNat ln)), .val (.int (Int32.ofNat o)), .val (.ref b13), .val (.ref b14), .val (.ref b15), .val (.ref b16), .unset, .unset, .unset] [(.int (5 : Int32)), (.ref b15), (.int (5 : Int32)), (.ref b16)])) rfl rfl (hb hby at_271) _ ?_
    exact k9
  obtain ⟨cl251, Ar251, Sz251, Hv251⟩ := u248
  have u252 : own_A Z h244 b16 .double 8 (fun j => .double (if j < 5 then FP.i2d (own_bf q3 q4 j) else 0)) := ⟨cl251, Ar251, Sz251, Hv251⟩
  obtain ⟨T253, h253, X253, e253, W253, st253⟩ := stD X244 hx hZ e244 Ar251 (j := (5 : Int32)) (own_hin Sz251 (by decide) (by decide)) (g := (mkF m 272 #[.val (.long q1), .second, .val (.long q2), .second, .val (.long q3), .second, .val (.long q4), .second, .val (.int p5), .val (.int p6), .val (.int kk), .val (.int (Int32.ofNat ln)), .val (.int (Int32.ofNat o)), .val (.ref b13), .val (.ref b14), .val (.ref b15), .val (.ref b16), .unset, .unset, .unset] [(.double (FP.i2d (own_bf q3 q4 5))), (.int (5 : Int32)), (.ref b16)])) rfl rfl (hb hby at_272)
  have N253 := Fr.snoc X253 N244 g_b16
  refine go (T253.setTop (mkF m 273 #[.val (.long q1), .second, .val (.long q2), .second, .val (.long q3), .second, .val (.long q4), .second, .val (.int p5), .val (.int p6), .val (.int kk), .val (.int (Int32.ofNat ln)), .val (.int (Int32.ofNat o)), .val (.ref b13), .val (.ref b14), .val (.ref b15), .val (.ref b16), .unset, .unset, .unset] [])) _ (fun t9 k9 => st253 _ k9) ?_
  have u254 : own_A Z h253 b14 .double ln (fun j => .double (FP.i2d ((own_vv q1 q2) j))) := own_A_other u245 W253 ne197
  have u255 : own_A Z h253 b15 .double 8 (fun j => .double (FP.i2d (own_bf q3 q4 j))) := own_A_other u250 W253 ne198
  have u256 : Keep h0 h253 [] := u247.wr W253 (Or.inr sz_b16)
  have u257 : own_A Z h253 b16 .double 8 (fun j => .double (if j < 6 then FP.i2d (own_bf q3 q4 j) else 0)) := own_A_congr (own_A_set Ar251 Sz251 Hv251 W253 (by decide)) (own_setf Value.double (fun j => FP.i2d (own_bf q3 q4 j)) 0 5 8)
  refine go (T253.setTop (mkF m 281 #[.val (.long q1), .second, .val (.long q2), .second, .val (.long q3), .second, .val (.long q4), .second, .val (.int p5), .val (.int p6), .val (.int kk), .val (.int (Int32.ofNat ln)), .val (.int (Int32.ofNat o)), .val (.ref b13), .val (.ref b14), .val (.ref b15), .val (.ref b16), .unset, .unset, .unset] [(.int (6 : Int32)), (.ref b15), (.int (6 : Int32)), (.ref b16)])) _ (fun t9 k9 => ?_) ?_
  · show Steps p.tables e below (T253.setTop (mkF m 273 #[.val (.long q1), .second, .val (.long q2), .second, .val (.long q3), .second, .val (.long q4), .second, .val (.int p5), .val (.int p6), .val (.int kk), .val (.int (Int32.ofNat ln)), .val (.int (Int32.ofNat o)), .val (.ref b13), .val (.ref b14), .val (.ref b15), .val (.ref b16), .unset, .unset, .unset] [])) _
    refine XS.aload X253.here hx rfl (hb hby at_273) rfl rfl ?_
    show Steps p.tables e below (T253.setTop (mkF m 275 #[.val (.long q1), .second, .val (.long q2), .second, .val (.long q3), .second, .val (.long q4), .second, .val (.int p5), .val (.int p6), .val (.int kk), .val (.int (Int32.ofNat ln)), .val (.int (Int32.ofNat o)), .val (.ref b13), .val (.ref b14), .val (.ref b15), .val (.ref b16), .unset, .unset, .unset] [(.ref b16)])) _
    refine XS.bipush X253.here hx rfl (hb hby at_275) ?_
    show Steps p.tables e below (T253.setTop (mkF m 277 #[.val (.long q1), .second, .val (.long q2), .second, .val (.long q3), .second, .val (.long q4), .second, .val (.int p5), .val (.int p6), .val (.int kk), .val (.int (Int32.ofNat ln)), .val (.int (Int32.ofNat o)), .val (.ref b13), .val (.ref b14), .val (.ref b15), .val (.ref b16), .unset, .unset, .unset] [(.int (6 : Int32)), (.ref b16)])) _
    refine XS.aload X253.here hx rfl (hb hby at_277) rfl rfl ?_
    show Steps p.tables e below (T253.setTop (mkF m 279 #[.val (.long q1), .second, .val (.long q2), .second, .val (.long q3), .second, .val (.long q4), .second, .val (.int p5), .val (.int p6), .val (.int kk), .val (.int (Int32.ofNat ln)), .val (.int (Int32.ofNat o)), .val (.ref b13), .val (.ref b14), .val (.ref b15), .val (.ref b16), .unset, .unset, .unset] [(.ref b15), (.int (6 : Int32)), (.ref b16)])) _
    refine XS.bipush X253.here hx rfl (hb hby at_279) ?_
    exact k9
  obtain ⟨cl258, Ar258, Sz258, Hv258⟩ := u255
  have u259 : own_A Z h253 b15 .double 8 (fun j => .double (FP.i2d (own_bf q3 q4 j))) := ⟨cl258, Ar258, Sz258, Hv258⟩
  refine go (T253.setTop (mkF m 282 #[.val (.long q1), .second, .val (.long q2), .second, .val (.long q3), .second, .val (.long q4), .second, .val (.int p5), .val (.int p6), .val (.int kk), .val (.int (Int32.ofNat ln)), .val (.int (Int32.ofNat o)), .val (.ref b13), .val (.ref b14), .val (.ref b15), .val (.ref b16), .unset, .unset, .unset] [(.double (FP.i2d (own_bf q3 q4 6))), (.int (6 : Int32)), (.ref b16)])) _ (fun t9 k9 => ?_) ?_
  · show Steps p.tables e below (T253.setTop (mkF m 281 #[.val (.long q1), .second, .val (.long q2), .second, .val (.long q3), .second, .val (.long q4), .second, .val (.int p5), .val (.int p6), .val (.int kk), .val (.int (Int32.ofNat ln)), .val (.int (Int32.ofNat o)), .val (.ref b13), .val (.ref b14), .val (.ref b15), .val (.ref b16), .unset, .unset, .unset] [(.int (6 : Int32)), (.ref b15), (.int (6 : Int32)), (.ref b16)])) _
    refine X253.daload hx (j := (6 : Int32)) (v := (.double (FP.i2d (own_bf q3 q4 6)))) (by rw [e253]; exact Ar258.1) (State.isArrayOf_alike hZ.alike Ar258.2.1) Ar258.2.2 (own_hin Sz258 (by decide) (by decide)) ((Hv258 _ (by decide)).trans (congrArg some (rfl))) (g := (mkF m 281 #[.val (.long q1), .second, .val (.long q2), .second, .val (.long q3), .second, .val (.long q4), .second, .val (.int p5), .val (.int p6), .val (.int kk), .val (.int (Int32.ofNat ln)), .val (.int (Int32.ofNat o)), .val (.ref b13), .val (.ref b14), .val (.ref b15), .val (.ref b16), .unset, .unset, .unset] [(.int (6 : Int32)), (.ref b15), (.int (6 : Int32)), (.ref b16)])) rfl rfl (hb hby at_281) _ ?_
    exact k9
  obtain ⟨cl260, Ar260, Sz260, Hv260⟩ := u257
  have u261 : own_A Z h253 b16 .double 8 (fun j => .double (if j < 6 then FP.i2d (own_bf q3 q4 j) else 0)) := ⟨cl260, Ar260, Sz260, Hv260⟩
  obtain ⟨T262, h262, X262, e262, W262, st262⟩ := stD X253 hx hZ e253 Ar260 (j := (6 : Int32)) (own_hin Sz260 (by decide) (by decide)) (g := (mkF m 282 #[.val (.long q1), .second, .val (.long q2), .second, .val (.long q3), .second, .val (.long q4), .second, .val (.int p5), .val (.int p6), .val (.int kk), .val (.int (Int32.ofNat ln)), .val (.int (Int32.ofNat o)), .val (.ref b13), .val (.ref b14), .val (.ref b15), .val (.ref b16), .unset, .unset, .unset] [(.double (FP.i2d (own_bf q3 q4 6))), (.int (6 : Int32)), (.ref b16)])) rfl rfl (hb hby at_282)
  have N262 := Fr.snoc X262 N253 g_b16
  refine go (T262.setTop (mkF m 283 #[.val (.long q1), .second, .val (.long q2), .second, .val (.long q3), .second, .val (.long q4), .second, .val (.int p5), .val (.int p6), .val (.int kk), .val (.int (Int32.ofNat ln)), .val (.int (Int32.ofNat o)), .val (.ref b13), .val (.ref b14), .val (.ref b15), .val (.ref b16), .unset, .unset, .unset] [])) _ (fun t9 k9 => st262 _ k9) ?_
  have u263 : own_A Z h262 b14 .double ln (fun j => .double (FP.i2d ((own_vv q1 q2) j))) := own_A_other u254 W262 ne197
  have u264 : own_A Z h262 b15 .double 8 (fun j => .double (FP.i2d (own_bf q3 q4 j))) := own_A_other u259 W262 ne198
  have u265 : Keep h0 h262 [] := u256.wr W262 (Or.inr sz_b16)
  have u266 : own_A Z h262 b16 .double 8 (fun j => .double (if j < 7 then FP.i2d (own_bf q3 q4 j) else 0)) := own_A_congr (own_A_set Ar260 Sz260 Hv260 W262 (by decide)) (own_setf Value.double (fun j => FP.i2d (own_bf q3 q4 j)) 0 6 8)
  refine go (T262.setTop (mkF m 291 #[.val (.long q1), .second, .val (.long q2), .second, .val (.long q3), .second, .val (.long q4), .second, .val (.int p5), .val (.int p6), .val (.int kk), .val (.int (Int32.ofNat ln)), .val (.int (Int32.ofNat o)), .val (.ref b13), .val (.ref b14), .val (.ref b15), .val (.ref b16), .unset, .unset, .unset] [(.int (7 : Int32)), (.ref b15), (.int (7 : Int32)), (.ref b16)])) _ (fun t9 k9 => ?_) ?_
  · show Steps p.tables e below (T262.setTop (mkF m 283 #[.val (.long q1), .second, .val (.long q2), .second, .val (.long q3), .second, .val (.long q4), .second, .val (.int p5), .val (.int p6), .val (.int kk), .val (.int (Int32.ofNat ln)), .val (.int (Int32.ofNat o)), .val (.ref b13), .val (.ref b14), .val (.ref b15), .val (.ref b16), .unset, .unset, .unset] [])) _
    refine XS.aload X262.here hx rfl (hb hby at_283) rfl rfl ?_
    show Steps p.tables e below (T262.setTop (mkF m 285 #[.val (.long q1), .second, .val (.long q2), .second, .val (.long q3), .second, .val (.long q4), .second, .val (.int p5), .val (.int p6), .val (.int kk), .val (.int (Int32.ofNat ln)), .val (.int (Int32.ofNat o)), .val (.ref b13), .val (.ref b14), .val (.ref b15), .val (.ref b16), .unset, .unset, .unset] [(.ref b16)])) _
    refine XS.bipush X262.here hx rfl (hb hby at_285) ?_
    show Steps p.tables e below (T262.setTop (mkF m 287 #[.val (.long q1), .second, .val (.long q2), .second, .val (.long q3), .second, .val (.long q4), .second, .val (.int p5), .val (.int p6), .val (.int kk), .val (.int (Int32.ofNat ln)), .val (.int (Int32.ofNat o)), .val (.ref b13), .val (.ref b14), .val (.ref b15), .val (.ref b16), .unset, .unset, .unset] [(.int (7 : Int32)), (.ref b16)])) _
    refine XS.aload X262.here hx rfl (hb hby at_287) rfl rfl ?_
    show Steps p.tables e below (T262.setTop (mkF m 289 #[.val (.long q1), .second, .val (.long q2), .second, .val (.long q3), .second, .val (.long q4), .second, .val (.int p5), .val (.int p6), .val (.int kk), .val (.int (Int32.ofNat ln)), .val (.int (Int32.ofNat o)), .val (.ref b13), .val (.ref b14), .val (.ref b15), .val (.ref b16), .unset, .unset, .unset] [(.ref b15), (.int (7 : Int32)), (.ref b16)])) _
    refine XS.bipush X262.here hx rfl (hb hby at_289) ?_
    exact k9
  obtain ⟨cl267, Ar267, Sz267, Hv267⟩ := u264
  have u268 : own_A Z h262 b15 .double 8 (fun j => .double (FP.i2d (own_bf q3 q4 j))) := ⟨cl267, Ar267, Sz267, Hv267⟩
  refine go (T262.setTop (mkF m 292 #[.val (.long q1), .second, .val (.long q2), .second, .val (.long q3), .second, .val (.long q4), .second, .val (.int p5), .val (.int p6), .val (.int kk), .val (.int (Int32.ofNat ln)), .val (.int (Int32.ofNat o)), .val (.ref b13), .val (.ref b14), .val (.ref b15), .val (.ref b16), .unset, .unset, .unset] [(.double (FP.i2d (own_bf q3 q4 7))), (.int (7 : Int32)), (.ref b16)])) _ (fun t9 k9 => ?_) ?_
  · show Steps p.tables e below (T262.setTop (mkF m 291 #[.val (.long q1), .second, .val (.long q2), .second, .val (.long q3), .second, .val (.long q4), .second, .val (.int p5), .val (.int p6), .val (.int kk), .val (.int (Int32.ofNat ln)), .val (.int (Int32.ofNat o)), .val (.ref b13), .val (.ref b14), .val (.ref b15), .val (.ref b16), .unset, .unset, .unset] [(.int (7 : Int32)), (.ref b15), (.int (7 : Int32)), (.ref b16)])) _
    refine X262.daload hx (j := (7 : Int32)) (v := (.double (FP.i2d (own_bf q3 q4 7)))) (by rw [e262]; exact Ar267.1) (State.isArrayOf_alike hZ.alike Ar267.2.1) Ar267.2.2 (own_hin Sz267 (by decide) (by decide)) ((Hv267 _ (by decide)).trans (congrArg some (rfl))) (g := (mkF m 291 #[.val (.long q1), .second, .val (.long q2), .second, .val (.long q3), .second, .val (.long q4), .second, .val (.int p5), .val (.int p6), .val (.int kk), .val (.int (Int32.ofNat ln)), .val (.int (Int32.ofNat o)), .val (.ref b13), .val (.ref b14), .val (.ref b15), .val (.ref b16), .unset, .unset, .unset] [(.int (7 : Int32)), (.ref b15), (.int (7 : Int32)), (.ref b16)])) rfl rfl (hb hby at_291) _ ?_
    exact k9
  obtain ⟨cl269, Ar269, Sz269, Hv269⟩ := u266
  have u270 : own_A Z h262 b16 .double 8 (fun j => .double (if j < 7 then FP.i2d (own_bf q3 q4 j) else 0)) := ⟨cl269, Ar269, Sz269, Hv269⟩
  obtain ⟨T271, h271, X271, e271, W271, st271⟩ := stD X262 hx hZ e262 Ar269 (j := (7 : Int32)) (own_hin Sz269 (by decide) (by decide)) (g := (mkF m 292 #[.val (.long q1), .second, .val (.long q2), .second, .val (.long q3), .second, .val (.long q4), .second, .val (.int p5), .val (.int p6), .val (.int kk), .val (.int (Int32.ofNat ln)), .val (.int (Int32.ofNat o)), .val (.ref b13), .val (.ref b14), .val (.ref b15), .val (.ref b16), .unset, .unset, .unset] [(.double (FP.i2d (own_bf q3 q4 7))), (.int (7 : Int32)), (.ref b16)])) rfl rfl (hb hby at_292)
  have N271 := Fr.snoc X271 N262 g_b16
  refine go (T271.setTop (mkF m 293 #[.val (.long q1), .second, .val (.long q2), .second, .val (.long q3), .second, .val (.long q4), .second, .val (.int p5), .val (.int p6), .val (.int kk), .val (.int (Int32.ofNat ln)), .val (.int (Int32.ofNat o)), .val (.ref b13), .val (.ref b14), .val (.ref b15), .val (.ref b16), .unset, .unset, .unset] [])) _ (fun t9 k9 => st271 _ k9) ?_
  have u272 : own_A Z h271 b14 .double ln (fun j => .double (FP.i2d ((own_vv q1 q2) j))) := own_A_other u263 W271 ne197
  have u273 : own_A Z h271 b15 .double 8 (fun j => .double (FP.i2d (own_bf q3 q4 j))) := own_A_other u268 W271 ne198
  have u274 : Keep h0 h271 [] := u265.wr W271 (Or.inr sz_b16)
  have u275 : own_A Z h271 b16 .double 8 (fun j => .double (if j < 8 then FP.i2d (own_bf q3 q4 j) else 0)) := own_A_congr (own_A_set Ar269 Sz269 Hv269 W271 (by decide)) (own_setf Value.double (fun j => FP.i2d (own_bf q3 q4 j)) 0 7 8)
  have u276 : own_A Z h271 b16 .double 8 (fun j => .double (FP.i2d (own_bf q3 q4 j))) := own_A_congr u275 (own_full Value.double (fun j => FP.i2d (own_bf q3 q4 j)) 0 8)
  refine go (T271.setTop (mkF m 298 #[.val (.long q1), .second, .val (.long q2), .second, .val (.long q3), .second, .val (.long q4), .second, .val (.int p5), .val (.int p6), .val (.int kk), .val (.int (Int32.ofNat ln)), .val (.int (Int32.ofNat o)), .val (.ref b13), .val (.ref b14), .val (.ref b15), .val (.ref b16), .val (.double (FP.i2d p5)), .second, .unset] [])) _ (fun t9 k9 => ?_) ?_
  · show Steps p.tables e below (T271.setTop (mkF m 293 #[.val (.long q1), .second, .val (.long q2), .second, .val (.long q3), .second, .val (.long q4), .second, .val (.int p5), .val (.int p6), .val (.int kk), .val (.int (Int32.ofNat ln)), .val (.int (Int32.ofNat o)), .val (.ref b13), .val (.ref b14), .val (.ref b15), .val (.ref b16), .unset, .unset, .unset] [])) _
    refine XS.iload X271.here hx rfl (hb hby at_293) rfl ?_
    show Steps p.tables e below (T271.setTop (mkF m 295 #[.val (.long q1), .second, .val (.long q2), .second, .val (.long q3), .second, .val (.long q4), .second, .val (.int p5), .val (.int p6), .val (.int kk), .val (.int (Int32.ofNat ln)), .val (.int (Int32.ofNat o)), .val (.ref b13), .val (.ref b14), .val (.ref b15), .val (.ref b16), .unset, .unset, .unset] [(.int p5)])) _
    refine XS.i2dS X271.here hx rfl (hb hby at_295) rfl rfl ?_
    show Steps p.tables e below (T271.setTop (mkF m 296 #[.val (.long q1), .second, .val (.long q2), .second, .val (.long q3), .second, .val (.long q4), .second, .val (.int p5), .val (.int p6), .val (.int kk), .val (.int (Int32.ofNat ln)), .val (.int (Int32.ofNat o)), .val (.ref b13), .val (.ref b14), .val (.ref b15), .val (.ref b16), .unset, .unset, .unset] [(.double (FP.i2d p5))])) _
    refine XS.dstore X271.here hx rfl (hb hby at_296) rfl (l' := #[.val (.long q1), .second, .val (.long q2), .second, .val (.long q3), .second, .val (.long q4), .second, .val (.int p5), .val (.int p6), .val (.int kk), .val (.int (Int32.ofNat ln)), .val (.int (Int32.ofNat o)), .val (.ref b13), .val (.ref b14), .val (.ref b15), .val (.ref b16), .val (.double (FP.i2d p5)), .second, .unset]) rfl ?_
    exact k9
  obtain ⟨T277, h277, X277, e277, E277, A277, D277, -, st277⟩ := newO X271 hx hZ hown (hw _ (List.mem_of_getElem? (i := 2) rfl)) (hw _ (List.mem_of_getElem? (i := 3) rfl)) (hw _ (List.mem_of_getElem? (i := 4) rfl)) e271 (g := (mkF m 298 #[.val (.long q1), .second, .val (.long q2), .second, .val (.long q3), .second, .val (.long q4), .second, .val (.int p5), .val (.int p6), .val (.int kk), .val (.int (Int32.ofNat ln)), .val (.int (Int32.ofNat o)), .val (.ref b13), .val (.ref b14), .val (.ref b15), .val (.ref b16), .val (.double (FP.i2d p5)), .second, .unset] [])) rfl (hb hby at_298) (by decide) (by decide)
  obtain ⟨b19, g277⟩ : ∃ z, z = h271.size := ⟨_, rfl⟩
  rw [← g277] at A277 D277 st277
  refine go (T277.setTop (mkF m 301 #[.val (.long q1), .second, .val (.long q2), .second, .val (.long q3), .second, .val (.long q4), .second, .val (.int p5), .val (.int p6), .val (.int kk), .val (.int (Int32.ofNat ln)), .val (.int (Int32.ofNat o)), .val (.ref b13), .val (.ref b14), .val (.ref b15), .val (.ref b16), .val (.double (FP.i2d p5)), .second, .unset] [(.ref b19)])) _ (fun t9 k9 => st277 _ k9) ?_
  have ne278 : b14 ≠ b19 := Nat.ne_of_lt (Nat.lt_of_lt_of_le (own_A_lt u272) (Nat.le_of_eq g277.symm))
  have ne279 : b15 ≠ b19 := Nat.ne_of_lt (Nat.lt_of_lt_of_le (own_A_lt u273) (Nat.le_of_eq g277.symm))
  have ne280 : b16 ≠ b19 := Nat.ne_of_lt (Nat.lt_of_lt_of_le (own_A_lt u276) (Nat.le_of_eq g277.symm))
  have sz_b19 : h0.size ≤ b19 := Nat.le_trans u274.1 (Nat.le_of_eq g277.symm)
  have g_b19 : n0 ≤ b19 := Nat.le_trans Z0 sz_b19
  have u281 : own_A Z h277 b14 .double ln (fun j => .double (FP.i2d ((own_vv q1 q2) j))) := own_A_ext u272 E277
  have u282 : own_A Z h277 b15 .double 8 (fun j => .double (FP.i2d (own_bf q3 q4 j))) := own_A_ext u273 E277
  have u283 : own_A Z h277 b16 .double 8 (fun j => .double (FP.i2d (own_bf q3 q4 j))) := own_A_ext u276 E277
  have u284 : Keep h0 h277 [] := u274.ext E277
  have u285 : Fld Z h277 b19 "com/example/horizonte/horizonte/solver/AdditiveSplit$Term" "variables" "[I" .null := D277 (Or.inr (hw _ (List.mem_of_getElem? (i := 12) rfl))) (ty := (.array .int)) (by decide)
  have u286 : Fld Z h277 b19 "com/example/horizonte/horizonte/solver/AdditiveSplit$Term" "values" "[D" .null := D277 (Or.inr (hw _ (List.mem_of_getElem? (i := 14) rfl))) (ty := (.array .double)) (by decide)
  have u287 : Fld Z h277 b19 "com/example/horizonte/horizonte/solver/AdditiveSplit$Term" "largest" "D" (.double (0 : UInt64)) := D277 (Or.inr (hw _ (List.mem_of_getElem? (i := 23) rfl))) (ty := .double) (by decide)
  refine go (T277.setTop (mkF m 306 #[.val (.long q1), .second, .val (.long q2), .second, .val (.long q3), .second, .val (.long q4), .second, .val (.int p5), .val (.int p6), .val (.int kk), .val (.int (Int32.ofNat ln)), .val (.int (Int32.ofNat o)), .val (.ref b13), .val (.ref b14), .val (.ref b15), .val (.ref b16), .val (.double (FP.i2d p5)), .second, .unset] [(.ref b14), (.ref b13), (.ref b19), (.ref b19)])) _ (fun t9 k9 => ?_) ?_
  · show Steps p.tables e below (T277.setTop (mkF m 301 #[.val (.long q1), .second, .val (.long q2), .second, .val (.long q3), .second, .val (.long q4), .second, .val (.int p5), .val (.int p6), .val (.int kk), .val (.int (Int32.ofNat ln)), .val (.int (Int32.ofNat o)), .val (.ref b13), .val (.ref b14), .val (.ref b15), .val (.ref b16), .val (.double (FP.i2d p5)), .second, .unset] [(.ref b19)])) _
    refine XS.dup X277.here hx rfl (hb hby at_301) rfl rfl ?_
    show Steps p.tables e below (T277.setTop (mkF m 302 #[.val (.long q1), .second, .val (.long q2), .second, .val (.long q3), .second, .val (.long q4), .second, .val (.int p5), .val (.int p6), .val (.int kk), .val (.int (Int32.ofNat ln)), .val (.int (Int32.ofNat o)), .val (.ref b13), .val (.ref b14), .val (.ref b15), .val (.ref b16), .val (.double (FP.i2d p5)), .second, .unset] [(.ref b19), (.ref b19)])) _
    refine XS.aload X277.here hx rfl (hb hby at_302) rfl rfl ?_
    show Steps p.tables e below (T277.setTop (mkF m 304 #[.val (.long q1), .second, .val (.long q2), .second, .val (.long q3), .second, .val (.long q4), .second, .val (.int p5), .val (.int p6), .val (.int kk), .val (.int (Int32.ofNat ln)), .val (.int (Int32.ofNat o)), .val (.ref b13), .val (.ref b14), .val (.ref b15), .val (.ref b16), .val (.double (FP.i2d p5)), .second, .unset] [(.ref b13), (.ref b19), (.ref b19)])) _
    refine XS.aload X277.here hx rfl (hb hby at_304) rfl rfl ?_
    exact k9
  have hln : 1 ≤ ln ∧ ln ≤ 4 := by omega
  obtain ⟨_, _, ⟨T288, L288, k288, n288⟩, -, X288, ⟨Lc288, hQ288, l288, y288, z288⟩, st288⟩ := X277.specialBack hx (y := (⟨"com/example/horizonte/horizonte/solver/AdditiveSplit$Term", "<init>", "([I[D)V"⟩ : MethodName)) rfl hown (mvT hZ (hw _ (List.mem_of_getElem? (i := 5) rfl))) (mvT hZ (hw _ (List.mem_of_getElem? (i := 6) rfl))) (mvT hZ (hw _ (List.mem_of_getElem? (i := 7) rfl))) (by decide) (backOf (W := 1) (rm1 l Z a0 hw [] b19 b13 b14 ln (own_vv q1 q2) hln h277 n0 (Nat.le_trans Z0 u284.1) A277 u285 u286 u287 u281 ne278 g_b19) hZ (hw _ (List.mem_of_getElem? (i := 7) rfl)) (hw _ (List.mem_of_getElem? (i := 4) rfl)) (by decide) (by decide)) (g := (mkF m 306 #[.val (.long q1), .second, .val (.long q2), .second, .val (.long q3), .second, .val (.long q4), .second, .val (.int p5), .val (.int p6), .val (.int kk), .val (.int (Int32.ofNat ln)), .val (.int (Int32.ofNat o)), .val (.ref b13), .val (.ref b14), .val (.ref b15), .val (.ref b16), .val (.double (FP.i2d p5)), .second, .unset] [(.ref b14), (.ref b13), (.ref b19), (.ref b19)])) rfl (by rw [hml]; rfl) (Steps.refl _) (a := b19) (argsL := [(.ref b13), (.ref b14)]) (rest := [(.ref b19)]) (lenOf pd__28_5bI_5bD_29V rfl) rfl (by show 2 * 0 + _ ≤ _; exact Nat.le_of_eq rfl) (hb hby at_306) (fun _ _ => ⟨rfl, e277, (by decide : 5 + 0 ≤ _), (by decide : 27 + 0 ≤ _)⟩)
  dsimp only [Pt.U, Pt.locs, Pt.cells, Pt.slots] at X288 l288 y288 z288 st288 hQ288
  rw [l288, y288, z288] at X288
  obtain ⟨rfl, N288q, Kq, Eq, Fq⟩ := hQ288
  have N288 := Fr.app N271 N288q
  refine go (T288.setTop (mkF m 309 #[.val (.long q1), .second, .val (.long q2), .second, .val (.long q3), .second, .val (.long q4), .second, .val (.int p5), .val (.int p6), .val (.int kk), .val (.int (Int32.ofNat ln)), .val (.int (Int32.ofNat o)), .val (.ref b13), .val (.ref b14), .val (.ref b15), .val (.ref b16), .val (.double (FP.i2d p5)), .second, .unset] [(.ref b19)])) _ (fun t9 k9 => st288.trans k9) ?_
  have u289 : own_A Z T288.heap b14 .double ln (fun j => .double (FP.i2d ((own_vv q1 q2) j))) := own_A_keep u281 Kq (ninS ne278 nin0)
  have u290 : own_A Z T288.heap b15 .double 8 (fun j => .double (FP.i2d (own_bf q3 q4 j))) := own_A_keep u282 Kq (ninS ne279 nin0)
  have u291 : own_A Z T288.heap b16 .double 8 (fun j => .double (FP.i2d (own_bf q3 q4 j))) := own_A_keep u283 Kq (ninS ne280 nin0)
  have u292 : Exa Z T288.heap b19 "com/example/horizonte/horizonte/solver/AdditiveSplit$Term" := A277.keep Kq
  have u293 : Keep h0 T288.heap [] := u284.trans Kq (allS (Or.inr sz_b19) all0)
  refine go (T288.setTop (mkF m 319 #[.val (.long q1), .second, .val (.long q2), .second, .val (.long q3), .second, .val (.long q4), .second, .val (.int p5), .val (.int p6), .val (.int kk), .val (.int (Int32.ofNat ln)), .val (.int (Int32.ofNat o)), .val (.ref b13), .val (.ref b14), .val (.ref b15), .val (.ref b16), .val (.double (FP.i2d p5)), .second, .val (.ref b19)] [(.double (FP.i2d p5)), (.int (Int32.ofNat o)), (.ref b16), (.ref b19)])) _ (fun t9 k9 => ?_) ?_
  · show Steps p.tables e below (T288.setTop (mkF m 309 #[.val (.long q1), .second, .val (.long q2), .second, .val (.long q3), .second, .val (.long q4), .second, .val (.int p5), .val (.int p6), .val (.int kk), .val (.int (Int32.ofNat ln)), .val (.int (Int32.ofNat o)), .val (.ref b13), .val (.ref b14), .val (.ref b15), .val (.ref b16), .val (.double (FP.i2d p5)), .second, .unset] [(.ref b19)])) _
    refine XS.astore X288.here hx rfl (hb hby at_309) rfl rfl (l' := #[.val (.long q1), .second, .val (.long q2), .second, .val (.long q3), .second, .val (.long q4), .second, .val (.int p5), .val (.int p6), .val (.int kk), .val (.int (Int32.ofNat ln)), .val (.int (Int32.ofNat o)), .val (.ref b13), .val (.ref b14), .val (.ref b15), .val (.ref b16), .val (.double (FP.i2d p5)), .second, .val (.ref b19)]) rfl ?_
    show Steps p.tables e below (T288.setTop (mkF m 311 #[.val (.long q1), .second, .val (.long q2), .second, .val (.long q3), .second, .val (.long q4), .second, .val (.int p5), .val (.int p6), .val (.int kk), .val (.int (Int32.ofNat ln)), .val (.int (Int32.ofNat o)), .val (.ref b13), .val (.ref b14), .val (.ref b15), .val (.ref b16), .val (.double (FP.i2d p5)), .second, .val (.ref b19)] [])) _
    refine XS.aload X288.here hx rfl (hb hby at_311) rfl rfl ?_
    show Steps p.tables e below (T288.setTop (mkF m 313 #[.val (.long q1), .second, .val (.long q2), .second, .val (.long q3), .second, .val (.long q4), .second, .val (.int p5), .val (.int p6), .val (.int kk), .val (.int (Int32.ofNat ln)), .val (.int (Int32.ofNat o)), .val (.ref b13), .val (.ref b14), .val (.ref b15), .val (.ref b16), .val (.double (FP.i2d p5)), .second, .val (.ref b19)] [(.ref b19)])) _
    refine XS.aload X288.here hx rfl (hb hby at_313) rfl rfl ?_
    show Steps p.tables e below (T288.setTop (mkF m 315 #[.val (.long q1), .second, .val (.long q2), .second, .val (.long q3), .second, .val (.long q4), .second, .val (.int p5), .val (.int p6), .val (.int kk), .val (.int (Int32.ofNat ln)), .val (.int (Int32.ofNat o)), .val (.ref b13), .val (.ref b14), .val (.ref b15), .val (.ref b16), .val (.double (FP.i2d p5)), .second, .val (.ref b19)] [(.ref b16), (.ref b19)])) _
    refine XS.iload X288.here hx rfl (hb hby at_315) rfl ?_
    show Steps p.tables e below (T288.setTop (mkF m 317 #[.val (.long q1), .second, .val (.long q2), .second, .val (.long q3), .second, .val (.long q4), .second, .val (.int p5), .val (.int p6), .val (.int kk), .val (.int (Int32.ofNat ln)), .val (.int (Int32.ofNat o)), .val (.ref b13), .val (.ref b14), .val (.ref b15), .val (.ref b16), .val (.double (FP.i2d p5)), .second, .val (.ref b19)] [(.int (Int32.ofNat o)), (.ref b16), (.ref b19)])) _
    refine XS.dload X288.here hx rfl (hb hby at_317) rfl ?_
    exact k9
  obtain ⟨cq294, kq294, q294a, q294b, q294c⟩ := isOf hZ rfl Eq
  obtain ⟨_, _, ⟨T294, L294, k294, n294⟩, -, X294, ⟨Lc294, hQ294, l294, y294, z294⟩, st294⟩ := X288.virtualBack hx (y := (⟨"com/example/horizonte/horizonte/solver/AdditiveSplit$Term", "addTo", "([DID)V"⟩ : MethodName)) (z := (⟨"com/example/horizonte/horizonte/solver/AdditiveSplit$Term", "addTo", "([DID)V"⟩ : MethodName)) hown (mvT hZ (hw _ (List.mem_of_getElem? (i := 24) rfl))) (mvT hZ (hw _ (List.mem_of_getElem? (i := 25) rfl))) (notFace_of_selects (args := #[]) (mvT hZ (hw _ (List.mem_of_getElem? (i := 27) rfl)))) (mvT hZ (hw _ (List.mem_of_getElem? (i := 27) rfl))) (mvT hZ (hw _ (List.mem_of_getElem? (i := 26) rfl))) (by decide) (backOf (W := 0) (rm5 l Z a0 hw [] b19 b16 b14 o ln p5 (own_bf q3 q4) (own_vv q1 q2) hol T288.heap n0 (Nat.le_trans Z0 u293.1) Fq u289 u291 (Ne.symm ne280) ne197 g_b16) hZ (hw _ (List.mem_of_getElem? (i := 28) rfl)) (hw _ (List.mem_of_getElem? (i := 4) rfl)) (by decide) (by decide)) q294a q294c (g := (mkF m 319 #[.val (.long q1), .second, .val (.long q2), .second, .val (.long q3), .second, .val (.long q4), .second, .val (.int p5), .val (.int p6), .val (.int kk), .val (.int (Int32.ofNat ln)), .val (.int (Int32.ofNat o)), .val (.ref b13), .val (.ref b14), .val (.ref b15), .val (.ref b16), .val (.double (FP.i2d p5)), .second, .val (.ref b19)] [(.double (FP.i2d p5)), (.int (Int32.ofNat o)), (.ref b16), (.ref b19)])) rfl (by rw [hml]; rfl) (Steps.refl _) (argsL := [(.ref b16), (.int (Int32.ofNat o)), (.double (FP.i2d p5))]) (rest := []) (lenOf pd__28_5bDID_29V rfl) rfl (by show 2 * 0 + _ ≤ _; exact Nat.le_of_eq rfl) (hb hby at_319) (fun _ _ => ⟨rfl, rfl, (by decide : 5 + 0 ≤ _), (by decide : 27 + 0 ≤ _)⟩)
  dsimp only [Pt.U, Pt.locs, Pt.cells, Pt.slots] at X294 l294 y294 z294 st294 hQ294
  rw [l294, y294, z294] at X294
  obtain ⟨rfl, N294q, Kr, Vr⟩ := hQ294
  have N294 := Fr.app N288 N294q
  refine go (T294.setTop (mkF m 322 #[.val (.long q1), .second, .val (.long q2), .second, .val (.long q3), .second, .val (.long q4), .second, .val (.int p5), .val (.int p6), .val (.int kk), .val (.int (Int32.ofNat ln)), .val (.int (Int32.ofNat o)), .val (.ref b13), .val (.ref b14), .val (.ref b15), .val (.ref b16), .val (.double (FP.i2d p5)), .second, .val (.ref b19)] [])) _ (fun t9 k9 => st294.trans k9) ?_
  have u295 : own_A Z T294.heap b14 .double ln (fun j => .double (FP.i2d ((own_vv q1 q2) j))) := own_A_keep u289 Kr (ninS ne197 nin0)
  have u296 : own_A Z T294.heap b15 .double 8 (fun j => .double (FP.i2d (own_bf q3 q4 j))) := own_A_keep u290 Kr (ninS ne198 nin0)
  have u297 : Exa Z T294.heap b19 "com/example/horizonte/horizonte/solver/AdditiveSplit$Term" := Eq.keep Kr
  have u298 : Fld Z T294.heap b19 "com/example/horizonte/horizonte/solver/AdditiveSplit$Term" "values" "[D" (.ref b14) := Fq.keep Kr (ninS (Ne.symm ne280) nin0)
  have u299 : Keep h0 T294.heap [] := u293.trans Kr (allS (Or.inr sz_b16) all0)
  refine go (T294.setTop (mkF m 333 #[.val (.long q1), .second, .val (.long q2), .second, .val (.long q3), .second, .val (.long q4), .second, .val (.int p5), .val (.int p6), .val (.int kk), .val (.int (Int32.ofNat ln)), .val (.int (Int32.ofNat o)), .val (.ref b13), .val (.ref b14), .val (.ref b15), .val (.ref b16), .val (.double (FP.i2d p5)), .second, .val (.ref b19)] [(.int (0 : Int32)), (.double (FP.i2d p5)), (.int (Int32.ofNat o)), (.ref b14), (.ref b15), (.ref b16)])) _ (fun t9 k9 => ?_) ?_
  · show Steps p.tables e below (T294.setTop (mkF m 322 #[.val (.long q1), .second, .val (.long q2), .second, .val (.long q3), .second, .val (.long q4), .second, .val (.int p5), .val (.int p6), .val (.int kk), .val (.int (Int32.ofNat ln)), .val (.int (Int32.ofNat o)), .val (.ref b13), .val (.ref b14), .val (.ref b15), .val (.ref b16), .val (.double (FP.i2d p5)), .second, .val (.ref b19)] [])) _
    refine XS.aload X294.here hx rfl (hb hby at_322) rfl rfl ?_
    show Steps p.tables e below (T294.setTop (mkF m 324 #[.val (.long q1), .second, .val (.long q2), .second, .val (.long q3), .second, .val (.long q4), .second, .val (.int p5), .val (.int p6), .val (.int kk), .val (.int (Int32.ofNat ln)), .val (.int (Int32.ofNat o)), .val (.ref b13), .val (.ref b14), .val (.ref b15), .val (.ref b16), .val (.double (FP.i2d p5)), .second, .val (.ref b19)] [(.ref b16)])) _
    refine XS.aload X294.here hx rfl (hb hby at_324) rfl rfl ?_
    show Steps p.tables e below (T294.setTop (mkF m 326 #[.val (.long q1), .second, .val (.long q2), .second, .val (.long q3), .second, .val (.long q4), .second, .val (.int p5), .val (.int p6), .val (.int kk), .val (.int (Int32.ofNat ln)), .val (.int (Int32.ofNat o)), .val (.ref b13), .val (.ref b14), .val (.ref b15), .val (.ref b16), .val (.double (FP.i2d p5)), .second, .val (.ref b19)] [(.ref b15), (.ref b16)])) _
    refine XS.aload X294.here hx rfl (hb hby at_326) rfl rfl ?_
    show Steps p.tables e below (T294.setTop (mkF m 328 #[.val (.long q1), .second, .val (.long q2), .second, .val (.long q3), .second, .val (.long q4), .second, .val (.int p5), .val (.int p6), .val (.int kk), .val (.int (Int32.ofNat ln)), .val (.int (Int32.ofNat o)), .val (.ref b13), .val (.ref b14), .val (.ref b15), .val (.ref b16), .val (.double (FP.i2d p5)), .second, .val (.ref b19)] [(.ref b14), (.ref b15), (.ref b16)])) _
    refine XS.iload X294.here hx rfl (hb hby at_328) rfl ?_
    show Steps p.tables e below (T294.setTop (mkF m 330 #[.val (.long q1), .second, .val (.long q2), .second, .val (.long q3), .second, .val (.long q4), .second, .val (.int p5), .val (.int p6), .val (.int kk), .val (.int (Int32.ofNat ln)), .val (.int (Int32.ofNat o)), .val (.ref b13), .val (.ref b14), .val (.ref b15), .val (.ref b16), .val (.double (FP.i2d p5)), .second, .val (.ref b19)] [(.int (Int32.ofNat o)), (.ref b14), (.ref b15), (.ref b16)])) _
    refine XS.dload X294.here hx rfl (hb hby at_330) rfl ?_
    show Steps p.tables e below (T294.setTop (mkF m 332 #[.val (.long q1), .second, .val (.long q2), .second, .val (.long q3), .second, .val (.long q4), .second, .val (.int p5), .val (.int p6), .val (.int kk), .val (.int (Int32.ofNat ln)), .val (.int (Int32.ofNat o)), .val (.ref b13), .val (.ref b14), .val (.ref b15), .val (.ref b16), .val (.double (FP.i2d p5)), .second, .val (.ref b19)] [(.double (FP.i2d p5)), (.int (Int32.ofNat o)), (.ref b14), (.ref b15), (.ref b16)])) _
    refine XS.iconst X294.here hx rfl (hb hby at_332) ?_
    exact k9
  obtain ⟨_, _, ⟨T300, L300, k300, n300⟩, -, X300, ⟨Lc300, hQ300, l300, y300, z300⟩, st300⟩ := Jvm.LawKit.callS X294 hx (y := (⟨"com/example/horizonte/horizonte/solver/TermAddToPinLaw", "check", "([D[D[DIDI)Z"⟩ : MethodName)) hown (mvT hZ (hw _ (List.mem_of_getElem? (i := 29) rfl))) (mvT hZ (hw _ (List.mem_of_getElem? (i := 30) rfl))) (mvT hZ (hw _ (List.mem_of_getElem? (i := 31) rfl))) (mvT hZ (hw _ (List.mem_of_getElem? (i := 32) rfl))) (by decide) (backOf (W := 0) (rm6 l Z a0 hw [] b16 b15 b14 0 o ln p5 (own_bf q3 q4) (own_vv q1 q2) (by decide) hol T294.heap n0 (Nat.le_trans Z0 u299.1) Vr u296 u295) hZ (hw _ (List.mem_of_getElem? (i := 32) rfl)) (hw _ (List.mem_of_getElem? (i := 31) rfl)) (by decide) (by decide)) (g := (mkF m 333 #[.val (.long q1), .second, .val (.long q2), .second, .val (.long q3), .second, .val (.long q4), .second, .val (.int p5), .val (.int p6), .val (.int kk), .val (.int (Int32.ofNat ln)), .val (.int (Int32.ofNat o)), .val (.ref b13), .val (.ref b14), .val (.ref b15), .val (.ref b16), .val (.double (FP.i2d p5)), .second, .val (.ref b19)] [(.int (0 : Int32)), (.double (FP.i2d p5)), (.int (Int32.ofNat o)), (.ref b14), (.ref b15), (.ref b16)])) rfl (by rw [hml]; rfl) (argsL := [(.ref b16), (.ref b15), (.ref b14), (.int (Int32.ofNat o)), (.double (FP.i2d p5)), (.int (0 : Int32))]) (rest := []) (lenOf pd__28_5bD_5bD_5bDIDI_29Z rfl) rfl (by show 2 * 0 + _ ≤ _; exact Nat.le_of_eq rfl) (hb hby at_333) (fun _ _ => ⟨rfl, rfl, (by decide : 5 + 0 ≤ _), (by decide : 27 + 0 ≤ _)⟩)
  dsimp only [Pt.U, Pt.locs, Pt.cells, Pt.slots] at X300 l300 y300 z300 st300 hQ300
  rw [l300, y300, z300] at X300
  obtain ⟨rfl, N300q, e300q⟩ := hQ300
  have N300 := Fr.app N294 N300q
  refine go (T300.setTop (mkF m 336 #[.val (.long q1), .second, .val (.long q2), .second, .val (.long q3), .second, .val (.long q4), .second, .val (.int p5), .val (.int p6), .val (.int kk), .val (.int (Int32.ofNat ln)), .val (.int (Int32.ofNat o)), .val (.ref b13), .val (.ref b14), .val (.ref b15), .val (.ref b16), .val (.double (FP.i2d p5)), .second, .val (.ref b19)] [(.int (1 : Int32))])) _ (fun t9 k9 => st300 _ k9) ?_
  refine go (T300.setTop (mkF m 350 #[.val (.long q1), .second, .val (.long q2), .second, .val (.long q3), .second, .val (.long q4), .second, .val (.int p5), .val (.int p6), .val (.int kk), .val (.int (Int32.ofNat ln)), .val (.int (Int32.ofNat o)), .val (.ref b13), .val (.ref b14), .val (.ref b15), .val (.ref b16), .val (.double (FP.i2d p5)), .second, .val (.ref b19)] [(.int (1 : Int32)), (.double (FP.i2d p5)), (.int (Int32.ofNat o)), (.ref b14), (.ref b15), (.ref b16)])) _ (fun t9 k9 => ?_) ?_
  · show Steps p.tables e below (T300.setTop (mkF m 336 #[.val (.long q1), .second, .val (.long q2), .second, .val (.long q3), .second, .val (.long q4), .second, .val (.int p5), .val (.int p6), .val (.int kk), .val (.int (Int32.ofNat ln)), .val (.int (Int32.ofNat o)), .val (.ref b13), .val (.ref b14), .val (.ref b15), .val (.ref b16), .val (.double (FP.i2d p5)), .second, .val (.ref b19)] [(.int (1 : Int32))])) _
    refine XS.ifNo X300.here hx rfl (hb hby at_336) rfl ((if0 _ _).trans (feq (by decide : ¬ (1 : Int32) = (0 : Int32))).1) ?_
    show Steps p.tables e below (T300.setTop (mkF m 339 #[.val (.long q1), .second, .val (.long q2), .second, .val (.long q3), .second, .val (.long q4), .second, .val (.int p5), .val (.int p6), .val (.int kk), .val (.int (Int32.ofNat ln)), .val (.int (Int32.ofNat o)), .val (.ref b13), .val (.ref b14), .val (.ref b15), .val (.ref b16), .val (.double (FP.i2d p5)), .second, .val (.ref b19)] [])) _
    refine XS.aload X300.here hx rfl (hb hby at_339) rfl rfl ?_
    show Steps p.tables e below (T300.setTop (mkF m 341 #[.val (.long q1), .second, .val (.long q2), .second, .val (.long q3), .second, .val (.long q4), .second, .val (.int p5), .val (.int p6), .val (.int kk), .val (.int (Int32.ofNat ln)), .val (.int (Int32.ofNat o)), .val (.ref b13), .val (.ref b14), .val (.ref b15), .val (.ref b16), .val (.double (FP.i2d p5)), .second, .val (.ref b19)] [(.ref b16)])) _
    refine XS.aload X300.here hx rfl (hb hby at_341) rfl rfl ?_
    show Steps p.tables e below (T300.setTop (mkF m 343 #[.val (.long q1), .second, .val (.long q2), .second, .val (.long q3), .second, .val (.long q4), .second, .val (.int p5), .val (.int p6), .val (.int kk), .val (.int (Int32.ofNat ln)), .val (.int (Int32.ofNat o)), .val (.ref b13), .val (.ref b14), .val (.ref b15), .val (.ref b16), .val (.double (FP.i2d p5)), .second, .val (.ref b19)] [(.ref b15), (.ref b16)])) _
    refine XS.aload X300.here hx rfl (hb hby at_343) rfl rfl ?_
    show Steps p.tables e below (T300.setTop (mkF m 345 #[.val (.long q1), .second, .val (.long q2), .second, .val (.long q3), .second, .val (.long q4), .second, .val (.int p5), .val (.int p6), .val (.int kk), .val (.int (Int32.ofNat ln)), .val (.int (Int32.ofNat o)), .val (.ref b13), .val (.ref b14), .val (.ref b15), .val (.ref b16), .val (.double (FP.i2d p5)), .second, .val (.ref b19)] [(.ref b14), (.ref b15), (.ref b16)])) _
    refine XS.iload X300.here hx rfl (hb hby at_345) rfl ?_
    show Steps p.tables e below (T300.setTop (mkF m 347 #[.val (.long q1), .second, .val (.long q2), .second, .val (.long q3), .second, .val (.long q4), .second, .val (.int p5), .val (.int p6), .val (.int kk), .val (.int (Int32.ofNat ln)), .val (.int (Int32.ofNat o)), .val (.ref b13), .val (.ref b14), .val (.ref b15), .val (.ref b16), .val (.double (FP.i2d p5)), .second, .val (.ref b19)] [(.int (Int32.ofNat o)), (.ref b14), (.ref b15), (.ref b16)])) _
    refine XS.dload X300.here hx rfl (hb hby at_347) rfl ?_
    show Steps p.tables e below (T300.setTop (mkF m 349 #[.val (.long q1), .second, .val (.long q2), .second, .val (.long q3), .second, .val (.long q4), .second, .val (.int p5), .val (.int p6), .val (.int kk), .val (.int (Int32.ofNat ln)), .val (.int (Int32.ofNat o)), .val (.ref b13), .val (.ref b14), .val (.ref b15), .val (.ref b16), .val (.double (FP.i2d p5)), .second, .val (.ref b19)] [(.double (FP.i2d p5)), (.int (Int32.ofNat o)), (.ref b14), (.ref b15), (.ref b16)])) _
    refine XS.iconst X300.here hx rfl (hb hby at_349) ?_
    exact k9
  obtain ⟨_, _, ⟨T301, L301, k301, n301⟩, -, X301, ⟨Lc301, hQ301, l301, y301, z301⟩, st301⟩ := Jvm.LawKit.callS X300 hx (y := (⟨"com/example/horizonte/horizonte/solver/TermAddToPinLaw", "check", "([D[D[DIDI)Z"⟩ : MethodName)) hown (mvT hZ (hw _ (List.mem_of_getElem? (i := 29) rfl))) (mvT hZ (hw _ (List.mem_of_getElem? (i := 30) rfl))) (mvT hZ (hw _ (List.mem_of_getElem? (i := 31) rfl))) (mvT hZ (hw _ (List.mem_of_getElem? (i := 32) rfl))) (by decide) (backOf (W := 0) (rm6 l Z a0 hw [] b16 b15 b14 1 o ln p5 (own_bf q3 q4) (own_vv q1 q2) (by decide) hol T294.heap n0 (Nat.le_trans Z0 u299.1) Vr u296 u295) hZ (hw _ (List.mem_of_getElem? (i := 32) rfl)) (hw _ (List.mem_of_getElem? (i := 31) rfl)) (by decide) (by decide)) (g := (mkF m 350 #[.val (.long q1), .second, .val (.long q2), .second, .val (.long q3), .second, .val (.long q4), .second, .val (.int p5), .val (.int p6), .val (.int kk), .val (.int (Int32.ofNat ln)), .val (.int (Int32.ofNat o)), .val (.ref b13), .val (.ref b14), .val (.ref b15), .val (.ref b16), .val (.double (FP.i2d p5)), .second, .val (.ref b19)] [(.int (1 : Int32)), (.double (FP.i2d p5)), (.int (Int32.ofNat o)), (.ref b14), (.ref b15), (.ref b16)])) rfl (by rw [hml]; rfl) (argsL := [(.ref b16), (.ref b15), (.ref b14), (.int (Int32.ofNat o)), (.double (FP.i2d p5)), (.int (1 : Int32))]) (rest := []) (lenOf pd__28_5bD_5bD_5bDIDI_29Z rfl) rfl (by show 2 * 0 + _ ≤ _; exact Nat.le_of_eq rfl) (hb hby at_350) (fun _ _ => ⟨rfl, e300q, (by decide : 5 + 0 ≤ _), (by decide : 27 + 0 ≤ _)⟩)
  dsimp only [Pt.U, Pt.locs, Pt.cells, Pt.slots] at X301 l301 y301 z301 st301 hQ301
  rw [l301, y301, z301] at X301
  obtain ⟨rfl, N301q, e301q⟩ := hQ301
  have N301 := Fr.app N300 N301q
  refine go (T301.setTop (mkF m 353 #[.val (.long q1), .second, .val (.long q2), .second, .val (.long q3), .second, .val (.long q4), .second, .val (.int p5), .val (.int p6), .val (.int kk), .val (.int (Int32.ofNat ln)), .val (.int (Int32.ofNat o)), .val (.ref b13), .val (.ref b14), .val (.ref b15), .val (.ref b16), .val (.double (FP.i2d p5)), .second, .val (.ref b19)] [(.int (1 : Int32))])) _ (fun t9 k9 => st301 _ k9) ?_
  refine go (T301.setTop (mkF m 367 #[.val (.long q1), .second, .val (.long q2), .second, .val (.long q3), .second, .val (.long q4), .second, .val (.int p5), .val (.int p6), .val (.int kk), .val (.int (Int32.ofNat ln)), .val (.int (Int32.ofNat o)), .val (.ref b13), .val (.ref b14), .val (.ref b15), .val (.ref b16), .val (.double (FP.i2d p5)), .second, .val (.ref b19)] [(.int (2 : Int32)), (.double (FP.i2d p5)), (.int (Int32.ofNat o)), (.ref b14), (.ref b15), (.ref b16)])) _ (fun t9 k9 => ?_) ?_
  · show Steps p.tables e below (T301.setTop (mkF m 353 #[.val (.long q1), .second, .val (.long q2), .second, .val (.long q3), .second, .val (.long q4), .second, .val (.int p5), .val (.int p6), .val (.int kk), .val (.int (Int32.ofNat ln)), .val (.int (Int32.ofNat o)), .val (.ref b13), .val (.ref b14), .val (.ref b15), .val (.ref b16), .val (.double (FP.i2d p5)), .second, .val (.ref b19)] [(.int (1 : Int32))])) _
    refine XS.ifNo X301.here hx rfl (hb hby at_353) rfl ((if0 _ _).trans (feq (by decide : ¬ (1 : Int32) = (0 : Int32))).1) ?_
    show Steps p.tables e below (T301.setTop (mkF m 356 #[.val (.long q1), .second, .val (.long q2), .second, .val (.long q3), .second, .val (.long q4), .second, .val (.int p5), .val (.int p6), .val (.int kk), .val (.int (Int32.ofNat ln)), .val (.int (Int32.ofNat o)), .val (.ref b13), .val (.ref b14), .val (.ref b15), .val (.ref b16), .val (.double (FP.i2d p5)), .second, .val (.ref b19)] [])) _
    refine XS.aload X301.here hx rfl (hb hby at_356) rfl rfl ?_
    show Steps p.tables e below (T301.setTop (mkF m 358 #[.val (.long q1), .second, .val (.long q2), .second, .val (.long q3), .second, .val (.long q4), .second, .val (.int p5), .val (.int p6), .val (.int kk), .val (.int (Int32.ofNat ln)), .val (.int (Int32.ofNat o)), .val (.ref b13), .val (.ref b14), .val (.ref b15), .val (.ref b16), .val (.double (FP.i2d p5)), .second, .val (.ref b19)] [(.ref b16)])) _
    refine XS.aload X301.here hx rfl (hb hby at_358) rfl rfl ?_
    show Steps p.tables e below (T301.setTop (mkF m 360 #[.val (.long q1), .second, .val (.long q2), .second, .val (.long q3), .second, .val (.long q4), .second, .val (.int p5), .val (.int p6), .val (.int kk), .val (.int (Int32.ofNat ln)), .val (.int (Int32.ofNat o)), .val (.ref b13), .val (.ref b14), .val (.ref b15), .val (.ref b16), .val (.double (FP.i2d p5)), .second, .val (.ref b19)] [(.ref b15), (.ref b16)])) _
    refine XS.aload X301.here hx rfl (hb hby at_360) rfl rfl ?_
    show Steps p.tables e below (T301.setTop (mkF m 362 #[.val (.long q1), .second, .val (.long q2), .second, .val (.long q3), .second, .val (.long q4), .second, .val (.int p5), .val (.int p6), .val (.int kk), .val (.int (Int32.ofNat ln)), .val (.int (Int32.ofNat o)), .val (.ref b13), .val (.ref b14), .val (.ref b15), .val (.ref b16), .val (.double (FP.i2d p5)), .second, .val (.ref b19)] [(.ref b14), (.ref b15), (.ref b16)])) _
    refine XS.iload X301.here hx rfl (hb hby at_362) rfl ?_
    show Steps p.tables e below (T301.setTop (mkF m 364 #[.val (.long q1), .second, .val (.long q2), .second, .val (.long q3), .second, .val (.long q4), .second, .val (.int p5), .val (.int p6), .val (.int kk), .val (.int (Int32.ofNat ln)), .val (.int (Int32.ofNat o)), .val (.ref b13), .val (.ref b14), .val (.ref b15), .val (.ref b16), .val (.double (FP.i2d p5)), .second, .val (.ref b19)] [(.int (Int32.ofNat o)), (.ref b14), (.ref b15), (.ref b16)])) _
    refine XS.dload X301.here hx rfl (hb hby at_364) rfl ?_
    show Steps p.tables e below (T301.setTop (mkF m 366 #[.val (.long q1), .second, .val (.long q2), .second, .val (.long q3), .second, .val (.long q4), .second, .val (.int p5), .val (.int p6), .val (.int kk), .val (.int (Int32.ofNat ln)), .val (.int (Int32.ofNat o)), .val (.ref b13), .val (.ref b14), .val (.ref b15), .val (.ref b16), .val (.double (FP.i2d p5)), .second, .val (.ref b19)] [(.double (FP.i2d p5)), (.int (Int32.ofNat o)), (.ref b14), (.ref b15), (.ref b16)])) _
    refine XS.iconst X301.here hx rfl (hb hby at_366) ?_
    exact k9
  obtain ⟨_, _, ⟨T302, L302, k302, n302⟩, -, X302, ⟨Lc302, hQ302, l302, y302, z302⟩, st302⟩ := Jvm.LawKit.callS X301 hx (y := (⟨"com/example/horizonte/horizonte/solver/TermAddToPinLaw", "check", "([D[D[DIDI)Z"⟩ : MethodName)) hown (mvT hZ (hw _ (List.mem_of_getElem? (i := 29) rfl))) (mvT hZ (hw _ (List.mem_of_getElem? (i := 30) rfl))) (mvT hZ (hw _ (List.mem_of_getElem? (i := 31) rfl))) (mvT hZ (hw _ (List.mem_of_getElem? (i := 32) rfl))) (by decide) (backOf (W := 0) (rm6 l Z a0 hw [] b16 b15 b14 2 o ln p5 (own_bf q3 q4) (own_vv q1 q2) (by decide) hol T294.heap n0 (Nat.le_trans Z0 u299.1) Vr u296 u295) hZ (hw _ (List.mem_of_getElem? (i := 32) rfl)) (hw _ (List.mem_of_getElem? (i := 31) rfl)) (by decide) (by decide)) (g := (mkF m 367 #[.val (.long q1), .second, .val (.long q2), .second, .val (.long q3), .second, .val (.long q4), .second, .val (.int p5), .val (.int p6), .val (.int kk), .val (.int (Int32.ofNat ln)), .val (.int (Int32.ofNat o)), .val (.ref b13), .val (.ref b14), .val (.ref b15), .val (.ref b16), .val (.double (FP.i2d p5)), .second, .val (.ref b19)] [(.int (2 : Int32)), (.double (FP.i2d p5)), (.int (Int32.ofNat o)), (.ref b14), (.ref b15), (.ref b16)])) rfl (by rw [hml]; rfl) (argsL := [(.ref b16), (.ref b15), (.ref b14), (.int (Int32.ofNat o)), (.double (FP.i2d p5)), (.int (2 : Int32))]) (rest := []) (lenOf pd__28_5bD_5bD_5bDIDI_29Z rfl) rfl (by show 2 * 0 + _ ≤ _; exact Nat.le_of_eq rfl) (hb hby at_367) (fun _ _ => ⟨rfl, e301q, (by decide : 5 + 0 ≤ _), (by decide : 27 + 0 ≤ _)⟩)
  dsimp only [Pt.U, Pt.locs, Pt.cells, Pt.slots] at X302 l302 y302 z302 st302 hQ302
  rw [l302, y302, z302] at X302
  obtain ⟨rfl, N302q, e302q⟩ := hQ302
  have N302 := Fr.app N301 N302q
  refine go (T302.setTop (mkF m 370 #[.val (.long q1), .second, .val (.long q2), .second, .val (.long q3), .second, .val (.long q4), .second, .val (.int p5), .val (.int p6), .val (.int kk), .val (.int (Int32.ofNat ln)), .val (.int (Int32.ofNat o)), .val (.ref b13), .val (.ref b14), .val (.ref b15), .val (.ref b16), .val (.double (FP.i2d p5)), .second, .val (.ref b19)] [(.int (1 : Int32))])) _ (fun t9 k9 => st302 _ k9) ?_
  refine go (T302.setTop (mkF m 384 #[.val (.long q1), .second, .val (.long q2), .second, .val (.long q3), .second, .val (.long q4), .second, .val (.int p5), .val (.int p6), .val (.int kk), .val (.int (Int32.ofNat ln)), .val (.int (Int32.ofNat o)), .val (.ref b13), .val (.ref b14), .val (.ref b15), .val (.ref b16), .val (.double (FP.i2d p5)), .second, .val (.ref b19)] [(.int (3 : Int32)), (.double (FP.i2d p5)), (.int (Int32.ofNat o)), (.ref b14), (.ref b15), (.ref b16)])) _ (fun t9 k9 => ?_) ?_
  · show Steps p.tables e below (T302.setTop (mkF m 370 #[.val (.long q1), .second, .val (.long q2), .second, .val (.long q3), .second, .val (.long q4), .second, .val (.int p5), .val (.int p6), .val (.int kk), .val (.int (Int32.ofNat ln)), .val (.int (Int32.ofNat o)), .val (.ref b13), .val (.ref b14), .val (.ref b15), .val (.ref b16), .val (.double (FP.i2d p5)), .second, .val (.ref b19)] [(.int (1 : Int32))])) _
    refine XS.ifNo X302.here hx rfl (hb hby at_370) rfl ((if0 _ _).trans (feq (by decide : ¬ (1 : Int32) = (0 : Int32))).1) ?_
    show Steps p.tables e below (T302.setTop (mkF m 373 #[.val (.long q1), .second, .val (.long q2), .second, .val (.long q3), .second, .val (.long q4), .second, .val (.int p5), .val (.int p6), .val (.int kk), .val (.int (Int32.ofNat ln)), .val (.int (Int32.ofNat o)), .val (.ref b13), .val (.ref b14), .val (.ref b15), .val (.ref b16), .val (.double (FP.i2d p5)), .second, .val (.ref b19)] [])) _
    refine XS.aload X302.here hx rfl (hb hby at_373) rfl rfl ?_
    show Steps p.tables e below (T302.setTop (mkF m 375 #[.val (.long q1), .second, .val (.long q2), .second, .val (.long q3), .second, .val (.long q4), .second, .val (.int p5), .val (.int p6), .val (.int kk), .val (.int (Int32.ofNat ln)), .val (.int (Int32.ofNat o)), .val (.ref b13), .val (.ref b14), .val (.ref b15), .val (.ref b16), .val (.double (FP.i2d p5)), .second, .val (.ref b19)] [(.ref b16)])) _
    refine XS.aload X302.here hx rfl (hb hby at_375) rfl rfl ?_
    show Steps p.tables e below (T302.setTop (mkF m 377 #[.val (.long q1), .second, .val (.long q2), .second, .val (.long q3), .second, .val (.long q4), .second, .val (.int p5), .val (.int p6), .val (.int kk), .val (.int (Int32.ofNat ln)), .val (.int (Int32.ofNat o)), .val (.ref b13), .val (.ref b14), .val (.ref b15), .val (.ref b16), .val (.double (FP.i2d p5)), .second, .val (.ref b19)] [(.ref b15), (.ref b16)])) _
    refine XS.aload X302.here hx rfl (hb hby at_377) rfl rfl ?_
    show Steps p.tables e below (T302.setTop (mkF m 379 #[.val (.long q1), .second, .val (.long q2), .second, .val (.long q3), .second, .val (.long q4), .second, .val (.int p5), .val (.int p6), .val (.int kk), .val (.int (Int32.ofNat ln)), .val (.int (Int32.ofNat o)), .val (.ref b13), .val (.ref b14), .val (.ref b15), .val (.ref b16), .val (.double (FP.i2d p5)), .second, .val (.ref b19)] [(.ref b14), (.ref b15), (.ref b16)])) _
    refine XS.iload X302.here hx rfl (hb hby at_379) rfl ?_
    show Steps p.tables e below (T302.setTop (mkF m 381 #[.val (.long q1), .second, .val (.long q2), .second, .val (.long q3), .second, .val (.long q4), .second, .val (.int p5), .val (.int p6), .val (.int kk), .val (.int (Int32.ofNat ln)), .val (.int (Int32.ofNat o)), .val (.ref b13), .val (.ref b14), .val (.ref b15), .val (.ref b16), .val (.double (FP.i2d p5)), .second, .val (.ref b19)] [(.int (Int32.ofNat o)), (.ref b14), (.ref b15), (.ref b16)])) _
    refine XS.dload X302.here hx rfl (hb hby at_381) rfl ?_
    show Steps p.tables e below (T302.setTop (mkF m 383 #[.val (.long q1), .second, .val (.long q2), .second, .val (.long q3), .second, .val (.long q4), .second, .val (.int p5), .val (.int p6), .val (.int kk), .val (.int (Int32.ofNat ln)), .val (.int (Int32.ofNat o)), .val (.ref b13), .val (.ref b14), .val (.ref b15), .val (.ref b16), .val (.double (FP.i2d p5)), .second, .val (.ref b19)] [(.double (FP.i2d p5)), (.int (Int32.ofNat o)), (.ref b14), (.ref b15), (.ref b16)])) _
    refine XS.iconst X302.here hx rfl (hb hby at_383) ?_
    exact k9
  obtain ⟨_, _, ⟨T303, L303, k303, n303⟩, -, X303, ⟨Lc303, hQ303, l303, y303, z303⟩, st303⟩ := Jvm.LawKit.callS X302 hx (y := (⟨"com/example/horizonte/horizonte/solver/TermAddToPinLaw", "check", "([D[D[DIDI)Z"⟩ : MethodName)) hown (mvT hZ (hw _ (List.mem_of_getElem? (i := 29) rfl))) (mvT hZ (hw _ (List.mem_of_getElem? (i := 30) rfl))) (mvT hZ (hw _ (List.mem_of_getElem? (i := 31) rfl))) (mvT hZ (hw _ (List.mem_of_getElem? (i := 32) rfl))) (by decide) (backOf (W := 0) (rm6 l Z a0 hw [] b16 b15 b14 3 o ln p5 (own_bf q3 q4) (own_vv q1 q2) (by decide) hol T294.heap n0 (Nat.le_trans Z0 u299.1) Vr u296 u295) hZ (hw _ (List.mem_of_getElem? (i := 32) rfl)) (hw _ (List.mem_of_getElem? (i := 31) rfl)) (by decide) (by decide)) (g := (mkF m 384 #[.val (.long q1), .second, .val (.long q2), .second, .val (.long q3), .second, .val (.long q4), .second, .val (.int p5), .val (.int p6), .val (.int kk), .val (.int (Int32.ofNat ln)), .val (.int (Int32.ofNat o)), .val (.ref b13), .val (.ref b14), .val (.ref b15), .val (.ref b16), .val (.double (FP.i2d p5)), .second, .val (.ref b19)] [(.int (3 : Int32)), (.double (FP.i2d p5)), (.int (Int32.ofNat o)), (.ref b14), (.ref b15), (.ref b16)])) rfl (by rw [hml]; rfl) (argsL := [(.ref b16), (.ref b15), (.ref b14), (.int (Int32.ofNat o)), (.double (FP.i2d p5)), (.int (3 : Int32))]) (rest := []) (lenOf pd__28_5bD_5bD_5bDIDI_29Z rfl) rfl (by show 2 * 0 + _ ≤ _; exact Nat.le_of_eq rfl) (hb hby at_384) (fun _ _ => ⟨rfl, e302q, (by decide : 5 + 0 ≤ _), (by decide : 27 + 0 ≤ _)⟩)
  dsimp only [Pt.U, Pt.locs, Pt.cells, Pt.slots] at X303 l303 y303 z303 st303 hQ303
  rw [l303, y303, z303] at X303
  obtain ⟨rfl, N303q, e303q⟩ := hQ303
  have N303 := Fr.app N302 N303q
  refine go (T303.setTop (mkF m 387 #[.val (.long q1), .second, .val (.long q2), .second, .val (.long q3), .second, .val (.long q4), .second, .val (.int p5), .val (.int p6), .val (.int kk), .val (.int (Int32.ofNat ln)), .val (.int (Int32.ofNat o)), .val (.ref b13), .val (.ref b14), .val (.ref b15), .val (.ref b16), .val (.double (FP.i2d p5)), .second, .val (.ref b19)] [(.int (1 : Int32))])) _ (fun t9 k9 => st303 _ k9) ?_
  refine go (T303.setTop (mkF m 401 #[.val (.long q1), .second, .val (.long q2), .second, .val (.long q3), .second, .val (.long q4), .second, .val (.int p5), .val (.int p6), .val (.int kk), .val (.int (Int32.ofNat ln)), .val (.int (Int32.ofNat o)), .val (.ref b13), .val (.ref b14), .val (.ref b15), .val (.ref b16), .val (.double (FP.i2d p5)), .second, .val (.ref b19)] [(.int (4 : Int32)), (.double (FP.i2d p5)), (.int (Int32.ofNat o)), (.ref b14), (.ref b15), (.ref b16)])) _ (fun t9 k9 => ?_) ?_
  · show Steps p.tables e below (T303.setTop (mkF m 387 #[.val (.long q1), .second, .val (.long q2), .second, .val (.long q3), .second, .val (.long q4), .second, .val (.int p5), .val (.int p6), .val (.int kk), .val (.int (Int32.ofNat ln)), .val (.int (Int32.ofNat o)), .val (.ref b13), .val (.ref b14), .val (.ref b15), .val (.ref b16), .val (.double (FP.i2d p5)), .second, .val (.ref b19)] [(.int (1 : Int32))])) _
    refine XS.ifNo X303.here hx rfl (hb hby at_387) rfl ((if0 _ _).trans (feq (by decide : ¬ (1 : Int32) = (0 : Int32))).1) ?_
    show Steps p.tables e below (T303.setTop (mkF m 390 #[.val (.long q1), .second, .val (.long q2), .second, .val (.long q3), .second, .val (.long q4), .second, .val (.int p5), .val (.int p6), .val (.int kk), .val (.int (Int32.ofNat ln)), .val (.int (Int32.ofNat o)), .val (.ref b13), .val (.ref b14), .val (.ref b15), .val (.ref b16), .val (.double (FP.i2d p5)), .second, .val (.ref b19)] [])) _
    refine XS.aload X303.here hx rfl (hb hby at_390) rfl rfl ?_
    show Steps p.tables e below (T303.setTop (mkF m 392 #[.val (.long q1), .second, .val (.long q2), .second, .val (.long q3), .second, .val (.long q4), .second, .val (.int p5), .val (.int p6), .val (.int kk), .val (.int (Int32.ofNat ln)), .val (.int (Int32.ofNat o)), .val (.ref b13), .val (.ref b14), .val (.ref b15), .val (.ref b16), .val (.double (FP.i2d p5)), .second, .val (.ref b19)] [(.ref b16)])) _
    refine XS.aload X303.here hx rfl (hb hby at_392) rfl rfl ?_
    show Steps p.tables e below (T303.setTop (mkF m 394 #[.val (.long q1), .second, .val (.long q2), .second, .val (.long q3), .second, .val (.long q4), .second, .val (.int p5), .val (.int p6), .val (.int kk), .val (.int (Int32.ofNat ln)), .val (.int (Int32.ofNat o)), .val (.ref b13), .val (.ref b14), .val (.ref b15), .val (.ref b16), .val (.double (FP.i2d p5)), .second, .val (.ref b19)] [(.ref b15), (.ref b16)])) _
    refine XS.aload X303.here hx rfl (hb hby at_394) rfl rfl ?_
    show Steps p.tables e below (T303.setTop (mkF m 396 #[.val (.long q1), .second, .val (.long q2), .second, .val (.long q3), .second, .val (.long q4), .second, .val (.int p5), .val (.int p6), .val (.int kk), .val (.int (Int32.ofNat ln)), .val (.int (Int32.ofNat o)), .val (.ref b13), .val (.ref b14), .val (.ref b15), .val (.ref b16), .val (.double (FP.i2d p5)), .second, .val (.ref b19)] [(.ref b14), (.ref b15), (.ref b16)])) _
    refine XS.iload X303.here hx rfl (hb hby at_396) rfl ?_
    show Steps p.tables e below (T303.setTop (mkF m 398 #[.val (.long q1), .second, .val (.long q2), .second, .val (.long q3), .second, .val (.long q4), .second, .val (.int p5), .val (.int p6), .val (.int kk), .val (.int (Int32.ofNat ln)), .val (.int (Int32.ofNat o)), .val (.ref b13), .val (.ref b14), .val (.ref b15), .val (.ref b16), .val (.double (FP.i2d p5)), .second, .val (.ref b19)] [(.int (Int32.ofNat o)), (.ref b14), (.ref b15), (.ref b16)])) _
    refine XS.dload X303.here hx rfl (hb hby at_398) rfl ?_
    show Steps p.tables e below (T303.setTop (mkF m 400 #[.val (.long q1), .second, .val (.long q2), .second, .val (.long q3), .second, .val (.long q4), .second, .val (.int p5), .val (.int p6), .val (.int kk), .val (.int (Int32.ofNat ln)), .val (.int (Int32.ofNat o)), .val (.ref b13), .val (.ref b14), .val (.ref b15), .val (.ref b16), .val (.double (FP.i2d p5)), .second, .val (.ref b19)] [(.double (FP.i2d p5)), (.int (Int32.ofNat o)), (.ref b14), (.ref b15), (.ref b16)])) _
    refine XS.iconst X303.here hx rfl (hb hby at_400) ?_
    exact k9
  obtain ⟨_, _, ⟨T304, L304, k304, n304⟩, -, X304, ⟨Lc304, hQ304, l304, y304, z304⟩, st304⟩ := Jvm.LawKit.callS X303 hx (y := (⟨"com/example/horizonte/horizonte/solver/TermAddToPinLaw", "check", "([D[D[DIDI)Z"⟩ : MethodName)) hown (mvT hZ (hw _ (List.mem_of_getElem? (i := 29) rfl))) (mvT hZ (hw _ (List.mem_of_getElem? (i := 30) rfl))) (mvT hZ (hw _ (List.mem_of_getElem? (i := 31) rfl))) (mvT hZ (hw _ (List.mem_of_getElem? (i := 32) rfl))) (by decide) (backOf (W := 0) (rm6 l Z a0 hw [] b16 b15 b14 4 o ln p5 (own_bf q3 q4) (own_vv q1 q2) (by decide) hol T294.heap n0 (Nat.le_trans Z0 u299.1) Vr u296 u295) hZ (hw _ (List.mem_of_getElem? (i := 32) rfl)) (hw _ (List.mem_of_getElem? (i := 31) rfl)) (by decide) (by decide)) (g := (mkF m 401 #[.val (.long q1), .second, .val (.long q2), .second, .val (.long q3), .second, .val (.long q4), .second, .val (.int p5), .val (.int p6), .val (.int kk), .val (.int (Int32.ofNat ln)), .val (.int (Int32.ofNat o)), .val (.ref b13), .val (.ref b14), .val (.ref b15), .val (.ref b16), .val (.double (FP.i2d p5)), .second, .val (.ref b19)] [(.int (4 : Int32)), (.double (FP.i2d p5)), (.int (Int32.ofNat o)), (.ref b14), (.ref b15), (.ref b16)])) rfl (by rw [hml]; rfl) (argsL := [(.ref b16), (.ref b15), (.ref b14), (.int (Int32.ofNat o)), (.double (FP.i2d p5)), (.int (4 : Int32))]) (rest := []) (lenOf pd__28_5bD_5bD_5bDIDI_29Z rfl) rfl (by show 2 * 0 + _ ≤ _; exact Nat.le_of_eq rfl) (hb hby at_401) (fun _ _ => ⟨rfl, e303q, (by decide : 5 + 0 ≤ _), (by decide : 27 + 0 ≤ _)⟩)
  dsimp only [Pt.U, Pt.locs, Pt.cells, Pt.slots] at X304 l304 y304 z304 st304 hQ304
  rw [l304, y304, z304] at X304
  obtain ⟨rfl, N304q, e304q⟩ := hQ304
  have N304 := Fr.app N303 N304q
  refine go (T304.setTop (mkF m 404 #[.val (.long q1), .second, .val (.long q2), .second, .val (.long q3), .second, .val (.long q4), .second, .val (.int p5), .val (.int p6), .val (.int kk), .val (.int (Int32.ofNat ln)), .val (.int (Int32.ofNat o)), .val (.ref b13), .val (.ref b14), .val (.ref b15), .val (.ref b16), .val (.double (FP.i2d p5)), .second, .val (.ref b19)] [(.int (1 : Int32))])) _ (fun t9 k9 => st304 _ k9) ?_
  refine go (T304.setTop (mkF m 418 #[.val (.long q1), .second, .val (.long q2), .second, .val (.long q3), .second, .val (.long q4), .second, .val (.int p5), .val (.int p6), .val (.int kk), .val (.int (Int32.ofNat ln)), .val (.int (Int32.ofNat o)), .val (.ref b13), .val (.ref b14), .val (.ref b15), .val (.ref b16), .val (.double (FP.i2d p5)), .second, .val (.ref b19)] [(.int (5 : Int32)), (.double (FP.i2d p5)), (.int (Int32.ofNat o)), (.ref b14), (.ref b15), (.ref b16)])) _ (fun t9 k9 => ?_) ?_
  · show Steps p.tables e below (T304.setTop (mkF m 404 #[.val (.long q1), .second, .val (.long q2), .second, .val (.long q3), .second, .val (.long q4), .second, .val (.int p5), .val (.int p6), .val (.int kk), .val (.int (Int32.ofNat ln)), .val (.int (Int32.ofNat o)), .val (.ref b13), .val (.ref b14), .val (.ref b15), .val (.ref b16), .val (.double (FP.i2d p5)), .second, .val (.ref b19)] [(.int (1 : Int32))])) _
    refine XS.ifNo X304.here hx rfl (hb hby at_404) rfl ((if0 _ _).trans (feq (by decide : ¬ (1 : Int32) = (0 : Int32))).1) ?_
    show Steps p.tables e below (T304.setTop (mkF m 407 #[.val (.long q1), .second, .val (.long q2), .second, .val (.long q3), .second, .val (.long q4), .second, .val (.int p5), .val (.int p6), .val (.int kk), .val (.int (Int32.ofNat ln)), .val (.int (Int32.ofNat o)), .val (.ref b13), .val (.ref b14), .val (.ref b15), .val (.ref b16), .val (.double (FP.i2d p5)), .second, .val (.ref b19)] [])) _
    refine XS.aload X304.here hx rfl (hb hby at_407) rfl rfl ?_
    show Steps p.tables e below (T304.setTop (mkF m 409 #[.val (.long q1), .second, .val (.long q2), .second, .val (.long q3), .second, .val (.long q4), .second, .val (.int p5), .val (.int p6), .val (.int kk), .val (.int (Int32.ofNat ln)), .val (.int (Int32.ofNat o)), .val (.ref b13), .val (.ref b14), .val (.ref b15), .val (.ref b16), .val (.double (FP.i2d p5)), .second, .val (.ref b19)] [(.ref b16)])) _
    refine XS.aload X304.here hx rfl (hb hby at_409) rfl rfl ?_
    show Steps p.tables e below (T304.setTop (mkF m 411 #[.val (.long q1), .second, .val (.long q2), .second, .val (.long q3), .second, .val (.long q4), .second, .val (.int p5), .val (.int p6), .val (.int kk), .val (.int (Int32.ofNat ln)), .val (.int (Int32.ofNat o)), .val (.ref b13), .val (.ref b14), .val (.ref b15), .val (.ref b16), .val (.double (FP.i2d p5)), .second, .val (.ref b19)] [(.ref b15), (.ref b16)])) _
    refine XS.aload X304.here hx rfl (hb hby at_411) rfl rfl ?_
    show Steps p.tables e below (T304.setTop (mkF m 413 #[.val (.long q1), .second, .val (.long q2), .second, .val (.long q3), .second, .val (.long q4), .second, .val (.int p5), .val (.int p6), .val (.int kk), .val (.int (Int32.ofNat ln)), .val (.int (Int32.ofNat o)), .val (.ref b13), .val (.ref b14), .val (.ref b15), .val (.ref b16), .val (.double (FP.i2d p5)), .second, .val (.ref b19)] [(.ref b14), (.ref b15), (.ref b16)])) _
    refine XS.iload X304.here hx rfl (hb hby at_413) rfl ?_
    show Steps p.tables e below (T304.setTop (mkF m 415 #[.val (.long q1), .second, .val (.long q2), .second, .val (.long q3), .second, .val (.long q4), .second, .val (.int p5), .val (.int p6), .val (.int kk), .val (.int (Int32.ofNat ln)), .val (.int (Int32.ofNat o)), .val (.ref b13), .val (.ref b14), .val (.ref b15), .val (.ref b16), .val (.double (FP.i2d p5)), .second, .val (.ref b19)] [(.int (Int32.ofNat o)), (.ref b14), (.ref b15), (.ref b16)])) _
    refine XS.dload X304.here hx rfl (hb hby at_415) rfl ?_
    show Steps p.tables e below (T304.setTop (mkF m 417 #[.val (.long q1), .second, .val (.long q2), .second, .val (.long q3), .second, .val (.long q4), .second, .val (.int p5), .val (.int p6), .val (.int kk), .val (.int (Int32.ofNat ln)), .val (.int (Int32.ofNat o)), .val (.ref b13), .val (.ref b14), .val (.ref b15), .val (.ref b16), .val (.double (FP.i2d p5)), .second, .val (.ref b19)] [(.double (FP.i2d p5)), (.int (Int32.ofNat o)), (.ref b14), (.ref b15), (.ref b16)])) _
    refine XS.iconst X304.here hx rfl (hb hby at_417) ?_
    exact k9
  obtain ⟨_, _, ⟨T305, L305, k305, n305⟩, -, X305, ⟨Lc305, hQ305, l305, y305, z305⟩, st305⟩ := Jvm.LawKit.callS X304 hx (y := (⟨"com/example/horizonte/horizonte/solver/TermAddToPinLaw", "check", "([D[D[DIDI)Z"⟩ : MethodName)) hown (mvT hZ (hw _ (List.mem_of_getElem? (i := 29) rfl))) (mvT hZ (hw _ (List.mem_of_getElem? (i := 30) rfl))) (mvT hZ (hw _ (List.mem_of_getElem? (i := 31) rfl))) (mvT hZ (hw _ (List.mem_of_getElem? (i := 32) rfl))) (by decide) (backOf (W := 0) (rm6 l Z a0 hw [] b16 b15 b14 5 o ln p5 (own_bf q3 q4) (own_vv q1 q2) (by decide) hol T294.heap n0 (Nat.le_trans Z0 u299.1) Vr u296 u295) hZ (hw _ (List.mem_of_getElem? (i := 32) rfl)) (hw _ (List.mem_of_getElem? (i := 31) rfl)) (by decide) (by decide)) (g := (mkF m 418 #[.val (.long q1), .second, .val (.long q2), .second, .val (.long q3), .second, .val (.long q4), .second, .val (.int p5), .val (.int p6), .val (.int kk), .val (.int (Int32.ofNat ln)), .val (.int (Int32.ofNat o)), .val (.ref b13), .val (.ref b14), .val (.ref b15), .val (.ref b16), .val (.double (FP.i2d p5)), .second, .val (.ref b19)] [(.int (5 : Int32)), (.double (FP.i2d p5)), (.int (Int32.ofNat o)), (.ref b14), (.ref b15), (.ref b16)])) rfl (by rw [hml]; rfl) (argsL := [(.ref b16), (.ref b15), (.ref b14), (.int (Int32.ofNat o)), (.double (FP.i2d p5)), (.int (5 : Int32))]) (rest := []) (lenOf pd__28_5bD_5bD_5bDIDI_29Z rfl) rfl (by show 2 * 0 + _ ≤ _; exact Nat.le_of_eq rfl) (hb hby at_418) (fun _ _ => ⟨rfl, e304q, (by decide : 5 + 0 ≤ _), (by decide : 27 + 0 ≤ _)⟩)
  dsimp only [Pt.U, Pt.locs, Pt.cells, Pt.slots] at X305 l305 y305 z305 st305 hQ305
  rw [l305, y305, z305] at X305
  obtain ⟨rfl, N305q, e305q⟩ := hQ305
  have N305 := Fr.app N304 N305q
  refine go (T305.setTop (mkF m 421 #[.val (.long q1), .second, .val (.long q2), .second, .val (.long q3), .second, .val (.long q4), .second, .val (.int p5), .val (.int p6), .val (.int kk), .val (.int (Int32.ofNat ln)), .val (.int (Int32.ofNat o)), .val (.ref b13), .val (.ref b14), .val (.ref b15), .val (.ref b16), .val (.double (FP.i2d p5)), .second, .val (.ref b19)] [(.int (1 : Int32))])) _ (fun t9 k9 => st305 _ k9) ?_
  refine go (T305.setTop (mkF m 436 #[.val (.long q1), .second, .val (.long q2), .second, .val (.long q3), .second, .val (.long q4), .second, .val (.int p5), .val (.int p6), .val (.int kk), .val (.int (Int32.ofNat ln)), .val (.int (Int32.ofNat o)), .val (.ref b13), .val (.ref b14), .val (.ref b15), .val (.ref b16), .val (.double (FP.i2d p5)), .second, .val (.ref b19)] [(.int (6 : Int32)), (.double (FP.i2d p5)), (.int (Int32.ofNat o)), (.ref b14), (.ref b15), (.ref b16)])) _ (fun t9 k9 => ?_) ?_
  · show Steps p.tables e below (T305.setTop (mkF m 421 #[.val (.long q1), .second, .val (.long q2), .second, .val (.long q3), .second, .val (.long q4), .second, .val (.int p5), .val (.int p6), .val (.int kk), .val (.int (Int32.ofNat ln)), .val (.int (Int32.ofNat o)), .val (.ref b13), .val (.ref b14), .val (.ref b15), .val (.ref b16), .val (.double (FP.i2d p5)), .second, .val (.ref b19)] [(.int (1 : Int32))])) _
    refine XS.ifNo X305.here hx rfl (hb hby at_421) rfl ((if0 _ _).trans (feq (by decide : ¬ (1 : Int32) = (0 : Int32))).1) ?_
    show Steps p.tables e below (T305.setTop (mkF m 424 #[.val (.long q1), .second, .val (.long q2), .second, .val (.long q3), .second, .val (.long q4), .second, .val (.int p5), .val (.int p6), .val (.int kk), .val (.int (Int32.ofNat ln)), .val (.int (Int32.ofNat o)), .val (.ref b13), .val (.ref b14), .val (.ref b15), .val (.ref b16), .val (.double (FP.i2d p5)), .second, .val (.ref b19)] [])) _
    refine XS.aload X305.here hx rfl (hb hby at_424) rfl rfl ?_
    show Steps p.tables e below (T305.setTop (mkF m 426 #[.val (.long q1), .second, .val (.long q2), .second, .val (.long q3), .second, .val (.long q4), .second, .val (.int p5), .val (.int p6), .val (.int kk), .val (.int (Int32.ofNat ln)), .val (.int (Int32.ofNat o)), .val (.ref b13), .val (.ref b14), .val (.ref b15), .val (.ref b16), .val (.double (FP.i2d p5)), .second, .val (.ref b19)] [(.ref b16)])) _
    refine XS.aload X305.here hx rfl (hb hby at_426) rfl rfl ?_
    show Steps p.tables e below (T305.setTop (mkF m 428 #[.val (.long q1), .second, .val (.long q2), .second, .val (.long q3), .second, .val (.long q4), .second, .val (.int p5), .val (.int p6), .val (.int kk), .val (.int (Int32.ofNat ln)), .val (.int (Int32.ofNat o)), .val (.ref b13), .val (.ref b14), .val (.ref b15), .val (.ref b16), .val (.double (FP.i2d p5)), .second, .val (.ref b19)] [(.ref b15), (.ref b16)])) _
    refine XS.aload X305.here hx rfl (hb hby at_428) rfl rfl ?_
    show Steps p.tables e below (T305.setTop (mkF m 430 #[.val (.long q1), .second, .val (.long q2), .second, .val (.long q3), .second, .val (.long q4), .second, .val (.int p5), .val (.int p6), .val (.int kk), .val (.int (Int32.ofNat ln)), .val (.int (Int32.ofNat o)), .val (.ref b13), .val (.ref b14), .val (.ref b15), .val (.ref b16), .val (.double (FP.i2d p5)), .second, .val (.ref b19)] [(.ref b14), (.ref b15), (.ref b16)])) _
    refine XS.iload X305.here hx rfl (hb hby at_430) rfl ?_
    show Steps p.tables e below (T305.setTop (mkF m 432 #[.val (.long q1), .second, .val (.long q2), .second, .val (.long q3), .second, .val (.long q4), .second, .val (.int p5), .val (.int p6), .val (.int kk), .val (.int (Int32.ofNat ln)), .val (.int (Int32.ofNat o)), .val (.ref b13), .val (.ref b14), .val (.ref b15), .val (.ref b16), .val (.double (FP.i2d p5)), .second, .val (.ref b19)] [(.int (Int32.ofNat o)), (.ref b14), (.ref b15), (.ref b16)])) _
    refine XS.dload X305.here hx rfl (hb hby at_432) rfl ?_
    show Steps p.tables e below (T305.setTop (mkF m 434 #[.val (.long q1), .second, .val (.long q2), .second, .val (.long q3), .second, .val (.long q4), .second, .val (.int p5), .val (.int p6), .val (.int kk), .val (.int (Int32.ofNat ln)), .val (.int (Int32.ofNat o)), .val (.ref b13), .val (.ref b14), .val (.ref b15), .val (.ref b16), .val (.double (FP.i2d p5)), .second, .val (.ref b19)] [(.double (FP.i2d p5)), (.int (Int32.ofNat o)), (.ref b14), (.ref b15), (.ref b16)])) _
    refine XS.bipush X305.here hx rfl (hb hby at_434) ?_
    exact k9
  obtain ⟨_, _, ⟨T306, L306, k306, n306⟩, -, X306, ⟨Lc306, hQ306, l306, y306, z306⟩, st306⟩ := Jvm.LawKit.callS X305 hx (y := (⟨"com/example/horizonte/horizonte/solver/TermAddToPinLaw", "check", "([D[D[DIDI)Z"⟩ : MethodName)) hown (mvT hZ (hw _ (List.mem_of_getElem? (i := 29) rfl))) (mvT hZ (hw _ (List.mem_of_getElem? (i := 30) rfl))) (mvT hZ (hw _ (List.mem_of_getElem? (i := 31) rfl))) (mvT hZ (hw _ (List.mem_of_getElem? (i := 32) rfl))) (by decide) (backOf (W := 0) (rm6 l Z a0 hw [] b16 b15 b14 6 o ln p5 (own_bf q3 q4) (own_vv q1 q2) (by decide) hol T294.heap n0 (Nat.le_trans Z0 u299.1) Vr u296 u295) hZ (hw _ (List.mem_of_getElem? (i := 32) rfl)) (hw _ (List.mem_of_getElem? (i := 31) rfl)) (by decide) (by decide)) (g := (mkF m 436 #[.val (.long q1), .second, .val (.long q2), .second, .val (.long q3), .second, .val (.long q4), .second, .val (.int p5), .val (.int p6), .val (.int kk), .val (.int (Int32.ofNat ln)), .val (.int (Int32.ofNat o)), .val (.ref b13), .val (.ref b14), .val (.ref b15), .val (.ref b16), .val (.double (FP.i2d p5)), .second, .val (.ref b19)] [(.int (6 : Int32)), (.double (FP.i2d p5)), (.int (Int32.ofNat o)), (.ref b14), (.ref b15), (.ref b16)])) rfl (by rw [hml]; rfl) (argsL := [(.ref b16), (.ref b15), (.ref b14), (.int (Int32.ofNat o)), (.double (FP.i2d p5)), (.int (6 : Int32))]) (rest := []) (lenOf pd__28_5bD_5bD_5bDIDI_29Z rfl) rfl (by show 2 * 0 + _ ≤ _; exact Nat.le_of_eq rfl) (hb hby at_436) (fun _ _ => ⟨rfl, e305q, (by decide : 5 + 0 ≤ _), (by decide : 27 + 0 ≤ _)⟩)
  dsimp only [Pt.U, Pt.locs, Pt.cells, Pt.slots] at X306 l306 y306 z306 st306 hQ306
  rw [l306, y306, z306] at X306
  obtain ⟨rfl, N306q, e306q⟩ := hQ306
  have N306 := Fr.app N305 N306q
  refine go (T306.setTop (mkF m 439 #[.val (.long q1), .second, .val (.long q2), .second, .val (.long q3), .second, .val (.long q4), .second, .val (.int p5), .val (.int p6), .val (.int kk), .val (.int (Int32.ofNat ln)), .val (.int (Int32.ofNat o)), .val (.ref b13), .val (.ref b14), .val (.ref b15), .val (.ref b16), .val (.double (FP.i2d p5)), .second, .val (.ref b19)] [(.int (1 : Int32))])) _ (fun t9 k9 => st306 _ k9) ?_
  refine go (T306.setTop (mkF m 454 #[.val (.long q1), .second, .val (.long q2), .second, .val (.long q3), .second, .val (.long q4), .second, .val (.int p5), .val (.int p6), .val (.int kk), .val (.int (Int32.ofNat ln)), .val (.int (Int32.ofNat o)), .val (.ref b13), .val (.ref b14), .val (.ref b15), .val (.ref b16), .val (.double (FP.i2d p5)), .second, .val (.ref b19)] [(.int (7 : Int32)), (.double (FP.i2d p5)), (.int (Int32.ofNat o)), (.ref b14), (.ref b15), (.ref b16)])) _ (fun t9 k9 => ?_) ?_
  · show Steps p.tables e below (T306.setTop (mkF m 439 #[.val (.long q1), .second, .val (.long q2), .second, .val (.long q3), .second, .val (.long q4), .second, .val (.int p5), .val (.int p6), .val (.int kk), .val (.int (Int32.ofNat ln)), .val (.int (Int32.ofNat o)), .val (.ref b13), .val (.ref b14), .val (.ref b15), .val (.ref b16), .val (.double (FP.i2d p5)), .second, .val (.ref b19)] [(.int (1 : Int32))])) _
    refine XS.ifNo X306.here hx rfl (hb hby at_439) rfl ((if0 _ _).trans (feq (by decide : ¬ (1 : Int32) = (0 : Int32))).1) ?_
    show Steps p.tables e below (T306.setTop (mkF m 442 #[.val (.long q1), .second, .val (.long q2), .second, .val (.long q3), .second, .val (.long q4), .second, .val (.int p5), .val (.int p6), .val (.int kk), .val (.int (Int32.ofNat ln)), .val (.int (Int32.ofNat o)), .val (.ref b13), .val (.ref b14), .val (.ref b15), .val (.ref b16), .val (.double (FP.i2d p5)), .second, .val (.ref b19)] [])) _
    refine XS.aload X306.here hx rfl (hb hby at_442) rfl rfl ?_
    show Steps p.tables e below (T306.setTop (mkF m 444 #[.val (.long q1), .second, .val (.long q2), .second, .val (.long q3), .second, .val (.long q4), .second, .val (.int p5), .val (.int p6), .val (.int kk), .val (.int (Int32.ofNat ln)), .val (.int (Int32.ofNat o)), .val (.ref b13), .val (.ref b14), .val (.ref b15), .val (.ref b16), .val (.double (FP.i2d p5)), .second, .val (.ref b19)] [(.ref b16)])) _
    refine XS.aload X306.here hx rfl (hb hby at_444) rfl rfl ?_
    show Steps p.tables e below (T306.setTop (mkF m 446 #[.val (.long q1), .second, .val (.long q2), .second, .val (.long q3), .second, .val (.long q4), .second, .val (.int p5), .val (.int p6), .val (.int kk), .val (.int (Int32.ofNat ln)), .val (.int (Int32.ofNat o)), .val (.ref b13), .val (.ref b14), .val (.ref b15), .val (.ref b16), .val (.double (FP.i2d p5)), .second, .val (.ref b19)] [(.ref b15), (.ref b16)])) _
    refine XS.aload X306.here hx rfl (hb hby at_446) rfl rfl ?_
    show Steps p.tables e below (T306.setTop (mkF m 448 #[.val (.long q1), .second, .val (.long q2), .second, .val (.long q3), .second, .val (.long q4), .second, .val (.int p5), .val (.int p6), .val (.int kk), .val (.int (Int32.ofNat ln)), .val (.int (Int32.ofNat o)), .val (.ref b13), .val (.ref b14), .val (.ref b15), .val (.ref b16), .val (.double (FP.i2d p5)), .second, .val (.ref b19)] [(.ref b14), (.ref b15), (.ref b16)])) _
    refine XS.iload X306.here hx rfl (hb hby at_448) rfl ?_
    show Steps p.tables e below (T306.setTop (mkF m 450 #[.val (.long q1), .second, .val (.long q2), .second, .val (.long q3), .second, .val (.long q4), .second, .val (.int p5), .val (.int p6), .val (.int kk), .val (.int (Int32.ofNat ln)), .val (.int (Int32.ofNat o)), .val (.ref b13), .val (.ref b14), .val (.ref b15), .val (.ref b16), .val (.double (FP.i2d p5)), .second, .val (.ref b19)] [(.int (Int32.ofNat o)), (.ref b14), (.ref b15), (.ref b16)])) _
    refine XS.dload X306.here hx rfl (hb hby at_450) rfl ?_
    show Steps p.tables e below (T306.setTop (mkF m 452 #[.val (.long q1), .second, .val (.long q2), .second, .val (.long q3), .second, .val (.long q4), .second, .val (.int p5), .val (.int p6), .val (.int kk), .val (.int (Int32.ofNat ln)), .val (.int (Int32.ofNat o)), .val (.ref b13), .val (.ref b14), .val (.ref b15), .val (.ref b16), .val (.double (FP.i2d p5)), .second, .val (.ref b19)] [(.double (FP.i2d p5)), (.int (Int32.ofNat o)), (.ref b14), (.ref b15), (.ref b16)])) _
    refine XS.bipush X306.here hx rfl (hb hby at_452) ?_
    exact k9
  obtain ⟨_, _, ⟨T307, L307, k307, n307⟩, -, X307, ⟨Lc307, hQ307, l307, y307, z307⟩, st307⟩ := Jvm.LawKit.callS X306 hx (y := (⟨"com/example/horizonte/horizonte/solver/TermAddToPinLaw", "check", "([D[D[DIDI)Z"⟩ : MethodName)) hown (mvT hZ (hw _ (List.mem_of_getElem? (i := 29) rfl))) (mvT hZ (hw _ (List.mem_of_getElem? (i := 30) rfl))) (mvT hZ (hw _ (List.mem_of_getElem? (i := 31) rfl))) (mvT hZ (hw _ (List.mem_of_getElem? (i := 32) rfl))) (by decide) (backOf (W := 0) (rm6 l Z a0 hw [] b16 b15 b14 7 o ln p5 (own_bf q3 q4) (own_vv q1 q2) (by decide) hol T294.heap n0 (Nat.le_trans Z0 u299.1) Vr u296 u295) hZ (hw _ (List.mem_of_getElem? (i := 32) rfl)) (hw _ (List.mem_of_getElem? (i := 31) rfl)) (by decide) (by decide)) (g := (mkF m 454 #[.val (.long q1), .second, .val (.long q2), .second, .val (.long q3), .second, .val (.long q4), .second, .val (.int p5), .val (.int p6), .val (.int kk), .val (.int (Int32.ofNat ln)), .val (.int (Int32.ofNat o)), .val (.ref b13), .val (.ref b14), .val (.ref b15), .val (.ref b16), .val (.double (FP.i2d p5)), .second, .val (.ref b19)] [(.int (7 : Int32)), (.double (FP.i2d p5)), (.int (Int32.ofNat o)), (.ref b14), (.ref b15), (.ref b16)])) rfl (by rw [hml]; rfl) (argsL := [(.ref b16), (.ref b15), (.ref b14), (.int (Int32.ofNat o)), (.double (FP.i2d p5)), (.int (7 : Int32))]) (rest := []) (lenOf pd__28_5bD_5bD_5bDIDI_29Z rfl) rfl (by show 2 * 0 + _ ≤ _; exact Nat.le_of_eq rfl) (hb hby at_454) (fun _ _ => ⟨rfl, e306q, (by decide : 5 + 0 ≤ _), (by decide : 27 + 0 ≤ _)⟩)
  dsimp only [Pt.U, Pt.locs, Pt.cells, Pt.slots] at X307 l307 y307 z307 st307 hQ307
  rw [l307, y307, z307] at X307
  obtain ⟨rfl, N307q, e307q⟩ := hQ307
  have N307 := Fr.app N306 N307q
  refine go (T307.setTop (mkF m 457 #[.val (.long q1), .second, .val (.long q2), .second, .val (.long q3), .second, .val (.long q4), .second, .val (.int p5), .val (.int p6), .val (.int kk), .val (.int (Int32.ofNat ln)), .val (.int (Int32.ofNat o)), .val (.ref b13), .val (.ref b14), .val (.ref b15), .val (.ref b16), .val (.double (FP.i2d p5)), .second, .val (.ref b19)] [(.int (1 : Int32))])) _ (fun t9 k9 => st307 _ k9) ?_
  refine go (T307.setTop (mkF m 465 #[.val (.long q1), .second, .val (.long q2), .second, .val (.long q3), .second, .val (.long q4), .second, .val (.int p5), .val (.int p6), .val (.int kk), .val (.int (Int32.ofNat ln)), .val (.int (Int32.ofNat o)), .val (.ref b13), .val (.ref b14), .val (.ref b15), .val (.ref b16), .val (.double (FP.i2d p5)), .second, .val (.ref b19)] [(.int (1 : Int32))])) _ (fun t9 k9 => ?_) ?_
  · show Steps p.tables e below (T307.setTop (mkF m 457 #[.val (.long q1), .second, .val (.long q2), .second, .val (.long q3), .second, .val (.long q4), .second, .val (.int p5), .val (.int p6), .val (.int kk), .val (.int (Int32.ofNat ln)), .val (.int (Int32.ofNat o)), .val (.ref b13), .val (.ref b14), .val (.ref b15), .val (.ref b16), .val (.double (FP.i2d p5)), .second, .val (.ref b19)] [(.int (1 : Int32))])) _
    refine XS.ifNo X307.here hx rfl (hb hby at_457) rfl ((if0 _ _).trans (feq (by decide : ¬ (1 : Int32) = (0 : Int32))).1) ?_
    show Steps p.tables e below (T307.setTop (mkF m 460 #[.val (.long q1), .second, .val (.long q2), .second, .val (.long q3), .second, .val (.long q4), .second, .val (.int p5), .val (.int p6), .val (.int kk), .val (.int (Int32.ofNat ln)), .val (.int (Int32.ofNat o)), .val (.ref b13), .val (.ref b14), .val (.ref b15), .val (.ref b16), .val (.double (FP.i2d p5)), .second, .val (.ref b19)] [])) _
    refine XS.iconst X307.here hx rfl (hb hby at_460) ?_
    show Steps p.tables e below (T307.setTop (mkF m 461 #[.val (.long q1), .second, .val (.long q2), .second, .val (.long q3), .second, .val (.long q4), .second, .val (.int p5), .val (.int p6), .val (.int kk), .val (.int (Int32.ofNat ln)), .val (.int (Int32.ofNat o)), .val (.ref b13), .val (.ref b14), .val (.ref b15), .val (.ref b16), .val (.double (FP.i2d p5)), .second, .val (.ref b19)] [(.int (1 : Int32))])) _
    refine XS.goto X307.here hx rfl (pc0 := 461) (pc' := 465) rfl (hb hby at_461) (by decide) (by decide) ?_
    exact k9
  obtain ⟨fs, hr, hrun, hended, hW, hsame⟩ := X307.leave (v := some (.int (1 : Int32))) (fun h => by rw [Bd.returns] at h; cases h) hlk
  refine fin _ ⟨_, _, retN X307 hx (t := .boolean) Bd.returns (by simp) (hb hby at_465) hr, hrun, hended, _, _, rfl, ?_, ⟨_, rfl⟩, hW, hsame.mono (by decide) (by decide)⟩
  show Q0 Z h0 n0 _ T307.heap _
  exact ⟨rfl, N307⟩
set_option maxRecDepth 65536 in
set_option maxHeartbeats 40000000 in
theorem comes_1 {Post : Tables → Env → Array Value → State → Outcome → State → Prop} (hpost : ∀ tb e args s v u, (limb_1_1.after args s (.returned v) u = true ∧ limb_1_2.after args s (.returned v) u = true ∧ True) → FrameEnd s (.returned v) u (Jvm.fieldLocs frame_1_writes args s ++ Jvm.arrayLocs frame_1_arrays args s ++ Jvm.staticLocs frame_1_statics s) 24 128 → Post tb e args s (.returned v) u) :
    ArmFor flags0 classFile x code maxLocals ret World_1 tables_1 room_1 Calls_1 rest_1 Pre_1 Post := by
  intro l hfl _ _ p e ha hc hk s m args below hf hA hF happ hP
  obtain ⟨hcalls, hrest, hpre⟩ := hP
  obtain ⟨-, -, -, hnamed, -, -, -, hat⟩ := (Spec.applies_iff hf).mp happ
  obtain ⟨hg, hn⟩ := and_e (Cond.before_iff.mp (show (Jvm.Cond.and given_1 narrow_1).before args s = true from hpre))
  obtain ⟨hcnt, hq0⟩ := and_e hg
  obtain ⟨ha0, hq1⟩ := and_e hq0
  obtain ⟨ha1, hq2⟩ := and_e hq1
  obtain ⟨ha2, hq3⟩ := and_e hq2
  obtain ⟨ha3, hq4⟩ := and_e hq3
  obtain ⟨ha4, hq5⟩ := and_e hq4
  obtain ⟨w0, w1, w2, w3, w4, w5, rfl⟩ : ∃ w0 w1 w2 w3 w4 w5 : Value, args = #[w0, w1, w2, w3, w4, w5] := by
    have hs : args.size = 6 := by simpa [Cond.value, given_1] using hcnt
    obtain ⟨L⟩ := args
    match L, hs with
    | [w0, w1, w2, w3, w4, w5], _ => exact ⟨w0, w1, w2, w3, w4, w5, rfl⟩
  have hw := fun d (hd : d ∈ tables_1) => atoms_spec (ws := Jvm.Cond.code x code maxLocals ret :: tables_1) hat d (List.mem_cons_of_mem _ hd)
  obtain ⟨i0, ei0⟩ := isL_v ha0
  obtain rfl : w0 = (.long i0) := Option.some.inj ei0
  obtain ⟨i1, ei1⟩ := isL_v ha1
  obtain rfl : w1 = (.long i1) := Option.some.inj ei1
  obtain ⟨i2, ei2⟩ := isL_v ha2
  obtain rfl : w2 = (.long i2) := Option.some.inj ei2
  obtain ⟨i3, ei3⟩ := isL_v ha3
  obtain rfl : w3 = (.long i3) := Option.some.inj ei3
  obtain ⟨i4, ei4⟩ := is_v ha4
  obtain rfl : w4 = (.int i4) := Option.some.inj ei4
  obtain ⟨i5, ei5⟩ := is_v hq5
  obtain rfl : w5 = (.int i5) := Option.some.inj ei5
  obtain ⟨n, o, h1, h2, h3, _, L, rfl, ⟨rfl, N⟩, hq⟩ := rm0 l s _ hw tables_1 i0 i1 i2 i3 i4 i5 s.heap s.heap.size (Nat.le_refl _) p e ha hc hk s m _ below hf ((Spec.applies_iff_loose hf).mp happ).1 ⟨rfl, State.Warmed39.refl s, rfl⟩ trivial
  refine ⟨n, _, h1, h2, h3, hpost _ _ _ _ _ _ ⟨Cond.after_iff.mpr rfl, Cond.after_iff.mpr (eq_i res_at (Term.int_eval (1)) rfl), trivial⟩ ⟨hq.1, hq.2.1, (hq.2.2.sift fun y hy => Or.inr (N y hy)).mono (by decide) (by decide)⟩⟩
theorem main_1_1 : Claimed_1_1 := comes_1 fun _ _ _ _ _ _ h hF => ⟨h.1, hF⟩
theorem main_1_2 : Claimed_1_2 := comes_1 fun _ _ _ _ _ _ h hF => ⟨h.2.1, hF⟩
end Jvm.Pilot.@@N@@
namespace Jvm.Pilot.@@N@@
open Jvm Jvm.ClassFile Sem Op Lib Jvm.Free Jvm.Stand Jvm.Pilot.@@N@@.Jvm.D
/-! MADE BY PROGRAM (witnessworld.py) out of the Statement's table words and the real class files: 12 classes; the members and pool entries that the words name. The judged class is class 1, her method 1. -/
namespace start1
open Jvm.ClassFile
def u (s : String) : CpInfo := .utf8 (stringToUtf16 s)
/-- a pool by its gaps: so many unusable entries, then the entry; so many at the end -/
def gap : Nat → List CpInfo → List CpInfo
  | 0, r => r
  | n + 1, r => .unusable :: gap n r
def poolList (es : List (Nat × CpInfo)) (last : Nat) : List CpInfo := es.foldr (fun e r => gap e.1 (e.2 :: r)) (gap last [])
def pool (es : List (Nat × CpInfo)) (last : Nat) : Array CpInfo := ⟨poolList es last⟩
def fileOf (pool : Array CpInfo) (this : Nat) (attrs : Array Attribute := #[]) (ms : Array MethodInfo := #[]) (fl : Nat := 33) (sup : Nat := 0) (ifs : Array Nat := #[]) (fds : Array FieldInfo := #[]) : ClassFile where
  minorVersion := 0
  majorVersion := 65
  constantPool := pool
  accessFlags := fl
  thisClass := this
  superClass := sup
  interfaces := ifs
  fields := fds
  methods := ms
  attributes := attrs
def plain (name : String) (sup : Option ClassId) : Class where
  name := name
  kind := .ordinary
  loader := none
  accessFlags := 33
  super := sup
  interfaces := #[]
  cf := none
  fields := #[]
  methods := #[]
  instanceTypes := #[]
  staticTypes := #[]
  resolved := #[]
  callSites := []
  init := .initialized
  statics := none
  mirror := none

def pool0 : Array CpInfo := pool [(5, u "<init>"), (0, u "()V"), (1, .class_ 10), (1, u "java/lang/Object")] 113

def k0c0 : Code := { maxStack := 0, maxLocals := 1, code := object_method_1_code, exceptionTable := #[], attributes := #[] }
def k0m0 : Method := { name := "<init>", desc := "()V", sig := { parameters := [], returnType := none }, accessFlags := 1, code := some k0c0 }
/-- java/lang/Object -/
def k0 : Class := { plain "java/lang/Object" none with
  accessFlags := 33
  interfaces := #[]
  cf := some (fileOf pool0 8 #[] #[{ accessFlags := 1, nameIndex := 5, descriptorIndex := 6, attributes := #[] }] 33 0 #[] #[])
  fields := #[]
  methods := #[k0m0]
  instanceTypes := #[]
  staticTypes := #[]
  resolved := Array.replicate 124 none
  statics := none }

def pool1 : Array CpInfo := pool [(2, .class_ 4), (1, u "java/lang/Object"), (0, u "<init>"), (0, u "()V"), (0, .class_ 8), (0, u "com/example/horizonte/horizonte/solver/AdditiveSplit$Term"), (0, .methodref 7 10), (0, .nameAndType 5 11), (0, u "([I[D)V"), (0, .methodref 7 13), (0, .nameAndType 14 15), (0, u "addTo"), (0, u "([DID)V"), (0, .methodref 17 18), (0, .class_ 19), (0, .nameAndType 20 21), (0, u "com/example/horizonte/horizonte/solver/TermAddToPinLaw"), (0, u "check"), (0, u "([D[D[DIDI)Z"), (2, u "law"), (0, u "(JJJJII)Z")] 11

def k1m0 : Method := { name := "<init>", desc := "()V", sig := { parameters := [], returnType := none }, accessFlags := 1, code := none }
def k1c1 : Code := { maxStack := 7, maxLocals := 20, code := code, exceptionTable := #[], attributes := #[] }
def k1m1 : Method := { name := "law", desc := "(JJJJII)Z", sig := { parameters := [.long, .long, .long, .long, .int, .int], returnType := some .boolean }, accessFlags := 9, code := some k1c1 }
def k1c2 : Code := { maxStack := 4, maxLocals := 12, code := method_3_code, exceptionTable := #[], attributes := #[] }
def k1m2 : Method := { name := "check", desc := "([D[D[DIDI)Z", sig := { parameters := [(.array .double), (.array .double), (.array .double), .int, .double, .int], returnType := some .boolean }, accessFlags := 10, code := some k1c2 }
/-- com/example/horizonte/horizonte/solver/TermAddToPinLaw -/
def k1 : Class := { plain "com/example/horizonte/horizonte/solver/TermAddToPinLaw" (some 0) with
  accessFlags := 49
  interfaces := #[]
  cf := some (fileOf pool1 17 #[] #[{ accessFlags := 1, nameIndex := 5, descriptorIndex := 6, attributes := #[] }, { accessFlags := 9, nameIndex := 24, descriptorIndex := 25, attributes := #[] }, { accessFlags := 10, nameIndex := 20, descriptorIndex := 21, attributes := #[] }] 49 2 #[] #[])
  fields := #[]
  methods := #[k1m0, k1m1, k1m2]
  instanceTypes := #[]
  staticTypes := #[]
  resolved := Array.replicate 37 none
  statics := none }

def pool2 : Array CpInfo := pool [(1, .methodref 2 3), (0, .class_ 4), (0, .nameAndType 5 6), (0, u "java/lang/Object"), (0, u "<init>"), (0, u "()V"), (0, .fieldref 8 9), (0, .class_ 10), (0, .nameAndType 11 12), (0, u "com/example/horizonte/horizonte/solver/AdditiveSplit$Term"), (0, u "variables"), (0, u "[I"), (0, .fieldref 8 14), (0, .nameAndType 15 16), (0, u "values"), (0, u "[D"), (0, .methodref 18 19), (0, .class_ 20), (0, .nameAndType 21 22), (0, u "java/lang/Math"), (0, u "abs"), (0, u "(D)D"), (0, .methodref 18 24), (0, .nameAndType 25 26), (0, u "max"), (0, u "(DD)D"), (0, .fieldref 8 28), (0, .nameAndType 29 30), (0, u "largest"), (0, u "D"), (5, u "([I[D)V"), (6, u "addTo"), (0, u "([DID)V"), (3, .class_ 49), (0, u "com/example/horizonte/horizonte/solver/AdditiveSplit")] 2

def k2c0 : Code := { maxStack := 4, maxLocals := 10, code := prog_66_method_1_code, exceptionTable := #[], attributes := #[] }
def k2m0 : Method := { name := "<init>", desc := "([I[D)V", sig := { parameters := [(.array .int), (.array .double)], returnType := none }, accessFlags := 0, code := some k2c0 }
def k2c1 : Code := { maxStack := 8, maxLocals := 6, code := prog_66_method_4_code, exceptionTable := #[], attributes := #[] }
def k2m1 : Method := { name := "addTo", desc := "([DID)V", sig := { parameters := [(.array .double), .int, .double], returnType := none }, accessFlags := 0, code := some k2c1 }
/-- com/example/horizonte/horizonte/solver/AdditiveSplit$Term -/
def k2 : Class := { plain "com/example/horizonte/horizonte/solver/AdditiveSplit$Term" (some 0) with
  accessFlags := 48
  interfaces := #[]
  cf := some (fileOf pool2 8 #[.nestHost 48] #[{ accessFlags := 0, nameIndex := 5, descriptorIndex := 36, attributes := #[] }, { accessFlags := 0, nameIndex := 43, descriptorIndex := 44, attributes := #[] }] 48 2 #[] #[{ accessFlags := 18, nameIndex := 11, descriptorIndex := 12, attributes := #[] }, { accessFlags := 18, nameIndex := 15, descriptorIndex := 16, attributes := #[] }, { accessFlags := 18, nameIndex := 29, descriptorIndex := 30, attributes := #[] }])
  fields := #[{ name := "variables", type := (.array .int), accessFlags := 18, slot := 0, constantValue := 0 }, { name := "values", type := (.array .double), accessFlags := 18, slot := 1, constantValue := 0 }, { name := "largest", type := .double, accessFlags := 18, slot := 2, constantValue := 0 }]
  methods := #[k2m0, k2m1]
  instanceTypes := #[(.array .int), (.array .double), .double]
  staticTypes := #[]
  resolved := Array.replicate 52 none
  statics := none }

def pool3 : Array CpInfo := pool [(1, .class_ 2), (0, u "java/lang/Math"), (1, .class_ 6), (1, u "java/lang/Object"), (0, u "<init>"), (0, u "()V"), (5, u "(D)D"), (37, u "(DD)D"), (45, .class_ 100), (1, u "java/lang/Math$RandomNumberGeneratorHolder"), (23, u "abs"), (47, u "negativeZeroFloatBits"), (0, u "J"), (2, u "negativeZeroDoubleBits"), (21, u "max"), (46, u "$assertionsDisabled"), (0, u "Z"), (91, u "twoToTheDoubleScaleDown"), (0, u "D"), (4, u "twoToTheDoubleScaleUp"), (9, u "E"), (3, u "PI"), (2, u "TAU"), (2, u "DEGREES_TO_RADIANS"), (0, u "RADIANS_TO_DEGREES")] 94

def k3m0 : Method := { name := "<init>", desc := "()V", sig := { parameters := [], returnType := none }, accessFlags := 2, code := none }
def k3c1 : Code := { maxStack := 4, maxLocals := 2, code := jdk_29_method_64_code, exceptionTable := #[], attributes := #[] }
def k3m1 : Method := { name := "abs", desc := "(D)D", sig := { parameters := [.double], returnType := some .double }, accessFlags := 9, code := some k3c1 }
def k3c2 : Code := { maxStack := 4, maxLocals := 4, code := jdk_29_method_68_code, exceptionTable := #[], attributes := #[] }
def k3m2 : Method := { name := "max", desc := "(DD)D", sig := { parameters := [.double, .double], returnType := some .double }, accessFlags := 9, code := some k3c2 }
/-- java/lang/Math -/
def k3 : Class := { plain "java/lang/Math" (some 0) with
  accessFlags := 49
  interfaces := #[]
  cf := some (fileOf pool3 1 #[.nestMembers #[98]] #[{ accessFlags := 2, nameIndex := 7, descriptorIndex := 8, attributes := #[] }, { accessFlags := 9, nameIndex := 124, descriptorIndex := 14, attributes := #[] }, { accessFlags := 9, nameIndex := 198, descriptorIndex := 52, attributes := #[] }] 49 4 #[] #[{ accessFlags := 25, nameIndex := 354, descriptorIndex := 339, attributes := #[] }, { accessFlags := 25, nameIndex := 358, descriptorIndex := 339, attributes := #[] }, { accessFlags := 25, nameIndex := 361, descriptorIndex := 339, attributes := #[] }, { accessFlags := 26, nameIndex := 364, descriptorIndex := 339, attributes := #[] }, { accessFlags := 26, nameIndex := 365, descriptorIndex := 339, attributes := #[] }, { accessFlags := 26, nameIndex := 172, descriptorIndex := 173, attributes := #[] }, { accessFlags := 26, nameIndex := 176, descriptorIndex := 173, attributes := #[] }, { accessFlags := 8, nameIndex := 344, descriptorIndex := 339, attributes := #[] }, { accessFlags := 8, nameIndex := 338, descriptorIndex := 339, attributes := #[] }, { accessFlags := 4120, nameIndex := 245, descriptorIndex := 246, attributes := #[] }])
  fields := #[{ name := "E", type := .double, accessFlags := 25, slot := 0, constantValue := 0 }, { name := "PI", type := .double, accessFlags := 25, slot := 1, constantValue := 0 }, { name := "TAU", type := .double, accessFlags := 25, slot := 2, constantValue := 0 }, { name := "DEGREES_TO_RADIANS", type := .double, accessFlags := 26, slot := 3, constantValue := 0 }, { name := "RADIANS_TO_DEGREES", type := .double, accessFlags := 26, slot := 4, constantValue := 0 }, { name := "negativeZeroFloatBits", type := .long, accessFlags := 26, slot := 5, constantValue := 0 }, { name := "negativeZeroDoubleBits", type := .long, accessFlags := 26, slot := 6, constantValue := 0 }, { name := "twoToTheDoubleScaleUp", type := .double, accessFlags := 8, slot := 7, constantValue := 0 }, { name := "twoToTheDoubleScaleDown", type := .double, accessFlags := 8, slot := 8, constantValue := 0 }, { name := "$assertionsDisabled", type := .boolean, accessFlags := 4120, slot := 9, constantValue := 0 }]
  methods := #[k3m0, k3m1, k3m2]
  instanceTypes := #[]
  staticTypes := #[.double, .double, .double, .double, .double, .long, .long, .double, .double, .boolean]
  resolved := Array.replicate 460 none
  statics := none }

def pool4 : Array CpInfo := pool [(1, u "java/lang/Cloneable"), (0, .class_ 1), (0, u "java/lang/Object"), (0, .class_ 3)] 3

/-- java/lang/Cloneable -/
def k4 : Class := { plain "java/lang/Cloneable" (some 0) with
  accessFlags := 1537
  interfaces := #[]
  cf := some (fileOf pool4 2 #[] #[] 1537 4 #[] #[])
  fields := #[]
  methods := #[]
  instanceTypes := #[]
  staticTypes := #[]
  resolved := Array.replicate 8 none
  statics := none }

def pool5 : Array CpInfo := pool [(1, u "java/io/Serializable"), (0, .class_ 1), (0, u "java/lang/Object"), (0, .class_ 3)] 3

/-- java/io/Serializable -/
def k5 : Class := { plain "java/io/Serializable" (some 0) with
  accessFlags := 1537
  interfaces := #[]
  cf := some (fileOf pool5 2 #[] #[] 1537 4 #[] #[])
  fields := #[]
  methods := #[]
  instanceTypes := #[]
  staticTypes := #[]
  resolved := Array.replicate 8 none
  statics := none }

/-- the primitive byte -/
def k6 : Class := { plain "byte" none with kind := .primitive 'B', accessFlags := 0x411 }
/-- [B -/
def k7 : Class := { plain "[B" (some 0) with kind := .array 6 .byte, interfaces := #[4, 5], accessFlags := 1041 }

/-- the primitive double -/
def k8 : Class := { plain "double" none with kind := .primitive 'D', accessFlags := 0x411 }
/-- [D -/
def k9 : Class := { plain "[D" (some 0) with kind := .array 8 .double, interfaces := #[4, 5], accessFlags := 1041 }

/-- the primitive int -/
def k10 : Class := { plain "int" none with kind := .primitive 'I', accessFlags := 0x411 }
/-- [I -/
def k11 : Class := { plain "[I" (some 0) with kind := .array 10 .int, interfaces := #[4, 5], accessFlags := 1041 }

def heap : Heap := #[]
def classes : Array Class := #[k0, k1, k2, k3, k4, k5, k6, k7, k8, k9, k10, k11]
def interned : List (Array UInt16 × Addr) := []
def slotsUsed : Nat := 0
def theMethod : MethodId := ⟨1, 1⟩
def args0 : Array Value := #[.long 5, .long 6, .long 7, .long 8, .int 5, .int 6]
def aboutOver (below : List Frame) : State where
  vm := { classes := classes, interned := interned.toArray }
  heap := heap
  slotsUsed := slotsUsed
  threads := #[{ frames := .invoking theMethod args0 :: below }]
def below0 : List Frame := [.native { method := ⟨0, 0⟩, args := #[] }]
def about1 : State := aboutOver below0
def p0 : Program := .bare "" "" ""
def e0 : Env := launch0.env 0 0 0
theorem w_frames : about1.frames = Frame.invoking theMethod args0 :: below0 := rfl
set_option maxRecDepth 65536 in
theorem w_args : argsFit about1.vm theMethod args0 = true := by decide +kernel
set_option maxRecDepth 65536 in
theorem w_heap : heapFits about1 = true := by decide +kernel
set_option maxRecDepth 65536 in
theorem w_runnable : about1.curStatus? = some .runnable := by decide +kernel
set_option maxRecDepth 65536 in
theorem w_alone : about1.alone = true := by decide +kernel
set_option maxRecDepth 65536 in
theorem w_named : about1.methodNamed? x = some theMethod := by decide +kernel
set_option maxRecDepth 65536 in
theorem w_hears : about1.hears theMethod below0 = true := by decide +kernel
set_option maxRecDepth 65536 in
theorem w_ripe : about1.ripe theMethod args0 below0 = true := by decide +kernel
theorem w_running : about1.status = .running := rfl
set_option maxRecDepth 65536 in
theorem w_room : about1.hasRoom e0.platform room_1 = true :=
  launch0.hasRoom_least _ room_1 (by decide +kernel) (by decide +kernel) (by decide +kernel) (by decide +kernel) (by decide +kernel) (by decide +kernel)
theorem allAtoms_all (ts : List Jvm.Cond) (a : Array Jvm.Value) (st : Jvm.State) : (allAtoms ts).before a st = ts.all (fun c => c.before a st) := by
  induction ts with
  | nil => rfl
  | cons c t ih =>
    show (Jvm.Cond.and c (allAtoms t)).before a st = _
    rw [Jvm.Cond.before_and, ih, List.all_cons]
def words1 : List Jvm.Cond := Jvm.Cond.code x code maxLocals ret :: tables_1
/-- a 'code' word, met by the world's own term for the bytes: nothing is compared byte by byte -/
theorem code_word {y : MethodName} {bytes : ByteArray} {mx : Nat} {rt : Option FieldType} {a : Array Value} {s : State} {m : MethodId} {meth : Method} {c : Code} (h1 : s.methodNamed? y = some m) (h2 : s.vm.method? m = some meth) (h3 : meth.code = some c) (h4 : c.code = bytes)
    (h5 : (c.maxLocals == mx && c.exceptionTable.isEmpty && decide (c.maxStack ≤ mostOperands) && decide (meth.sig.returnType = rt) && !meth.locks && decide (parseMethodDescriptor y.desc = some meth.sig)) = true) : (Jvm.Cond.code y bytes mx rt).before a s = true := by
  simp only [Bool.and_eq_true, beq_iff_eq, Bool.not_eq_true', decide_eq_true_eq] at h5
  obtain ⟨⟨⟨⟨⟨g1, g2⟩, g3⟩, g4⟩, g5⟩, g6⟩ := h5
  simp [Cond.before, Cond.holds, Cond.value, h1, h2, h3, h4, g1, g2, g3, g4, g5, g6]
def isCode : Jvm.Cond → Bool
  | .code _ _ _ _ => true
  | _ => false
theorem all_split {L : List Jvm.Cond} {P : Jvm.Cond → Bool} (h1 : L.all (fun c => isCode c || P c) = true) (h2 : ∀ c ∈ L.filter isCode, P c = true) : L.all P = true := by
  refine List.all_eq_true.mpr fun c hc => ?_
  have h := List.all_eq_true.mp h1 c hc
  rcases Bool.eq_false_or_eq_true (isCode c) with hi | hi
  · exact h2 c (List.mem_filter.mpr ⟨hc, hi⟩)
  · simpa [hi] using h
set_option maxRecDepth 65536 in
theorem w_c0 : (Jvm.Cond.code x code maxLocals ret).before args0 about1 = true := code_word (m := ⟨1, 1⟩) (meth := k1m1) (c := k1c1) (by decide +kernel) rfl rfl rfl (by decide +kernel)
set_option maxRecDepth 65536 in
theorem w_c1 : (Jvm.Cond.code ({ cls := "com/example/horizonte/horizonte/solver/AdditiveSplit$Term", name := "<init>", desc := "([I[D)V" } : Jvm.MethodName) prog_66_method_1_code (10 : Nat) (Option.none : Option Jvm.ClassFile.FieldType)).before args0 about1 = true := code_word (m := ⟨2, 0⟩) (meth := k2m0) (c := k2c0) (by decide +kernel) rfl rfl rfl (by decide +kernel)
set_option maxRecDepth 65536 in
theorem w_c2 : (Jvm.Cond.code ({ cls := "java/lang/Object", name := "<init>", desc := "()V" } : Jvm.MethodName) object_method_1_code (1 : Nat) (Option.none : Option Jvm.ClassFile.FieldType)).before args0 about1 = true := code_word (m := ⟨0, 0⟩) (meth := k0m0) (c := k0c0) (by decide +kernel) rfl rfl rfl (by decide +kernel)
set_option maxRecDepth 65536 in
theorem w_c3 : (Jvm.Cond.code ({ cls := "java/lang/Math", name := "abs", desc := "(D)D" } : Jvm.MethodName) jdk_29_method_64_code (2 : Nat) (Option.some Jvm.ClassFile.FieldType.double)).before args0 about1 = true := code_word (m := ⟨3, 1⟩) (meth := k3m1) (c := k3c1) (by decide +kernel) rfl rfl rfl (by decide +kernel)
set_option maxRecDepth 65536 in
theorem w_c4 : (Jvm.Cond.code ({ cls := "java/lang/Math", name := "max", desc := "(DD)D" } : Jvm.MethodName) jdk_29_method_68_code (4 : Nat) (Option.some Jvm.ClassFile.FieldType.double)).before args0 about1 = true := code_word (m := ⟨3, 2⟩) (meth := k3m2) (c := k3c2) (by decide +kernel) rfl rfl rfl (by decide +kernel)
set_option maxRecDepth 65536 in
theorem w_c5 : (Jvm.Cond.code ({ cls := "com/example/horizonte/horizonte/solver/AdditiveSplit$Term", name := "addTo", desc := "([DID)V" } : Jvm.MethodName) prog_66_method_4_code (6 : Nat) (Option.none : Option Jvm.ClassFile.FieldType)).before args0 about1 = true := code_word (m := ⟨2, 1⟩) (meth := k2m1) (c := k2c1) (by decide +kernel) rfl rfl rfl (by decide +kernel)
set_option maxRecDepth 65536 in
theorem w_c6 : (Jvm.Cond.code ({ cls := "com/example/horizonte/horizonte/solver/TermAddToPinLaw", name := "check", desc := "([D[D[DIDI)Z" } : Jvm.MethodName) method_3_code (12 : Nat) (Option.some Jvm.ClassFile.FieldType.boolean)).before args0 about1 = true := code_word (m := ⟨1, 2⟩) (meth := k1m2) (c := k1c2) (by decide +kernel) rfl rfl rfl (by decide +kernel)
def codes1 : List Jvm.Cond := [Jvm.Cond.code x code maxLocals ret, Jvm.Cond.code ({ cls := "com/example/horizonte/horizonte/solver/AdditiveSplit$Term", name := "<init>", desc := "([I[D)V" } : Jvm.MethodName) prog_66_method_1_code (10 : Nat) (Option.none : Option Jvm.ClassFile.FieldType), Jvm.Cond.code ({ cls := "java/lang/Object", name := "<init>", desc := "()V" } : Jvm.MethodName) object_method_1_code (1 : Nat) (Option.none : Option Jvm.ClassFile.FieldType), Jvm.Cond.code ({ cls := "java/lang/Math", name := "abs", desc := "(D)D" } : Jvm.MethodName) jdk_29_method_64_code (2 : Nat) (Option.some Jvm.ClassFile.FieldType.double), Jvm.Cond.code ({ cls := "java/lang/Math", name := "max", desc := "(DD)D" } : Jvm.MethodName) jdk_29_method_68_code (4 : Nat) (Option.some Jvm.ClassFile.FieldType.double), Jvm.Cond.code ({ cls := "com/example/horizonte/horizonte/solver/AdditiveSplit$Term", name := "addTo", desc := "([DID)V" } : Jvm.MethodName) prog_66_method_4_code (6 : Nat) (Option.none : Option Jvm.ClassFile.FieldType), Jvm.Cond.code ({ cls := "com/example/horizonte/horizonte/solver/TermAddToPinLaw", name := "check", desc := "([D[D[DIDI)Z" } : Jvm.MethodName) method_3_code (12 : Nat) (Option.some Jvm.ClassFile.FieldType.boolean)]
set_option maxRecDepth 65536 in
theorem codes_eq : words1.filter isCode = codes1 := rfl
theorem w_codes : ∀ c ∈ words1.filter isCode, c.before args0 about1 = true := by
  rw [codes_eq]
  intro c hc
  simp only [codes1, List.mem_cons, List.not_mem_nil, or_false] at hc
  rcases hc with rfl | rfl | rfl | rfl | rfl | rfl | rfl
  · exact w_c0
  · exact w_c1
  · exact w_c2
  · exact w_c3
  · exact w_c4
  · exact w_c5
  · exact w_c6
set_option maxRecDepth 65536 in
theorem w_t1 : (words1.take 24).all (fun c => isCode c || c.before args0 about1) = true := by decide +kernel
set_option maxRecDepth 65536 in
theorem w_t2 : (words1.drop 24).all (fun c => isCode c || c.before args0 about1) = true := by decide +kernel
theorem w_tables : (allAtoms (Jvm.Cond.code x code maxLocals ret :: tables_1)).before args0 about1 = true := by
  rw [allAtoms_all]
  show words1.all (fun c => c.before args0 about1) = true
  refine all_split ?_ w_codes
  rw [← List.take_append_drop 24 words1, List.all_append, w_t1, w_t2]
  rfl
set_option maxRecDepth 65536 in
theorem w_case : (Jvm.Cond.and given_1 narrow_1).before args0 about1 = true := by decide +kernel
theorem w_applies : (headSpec (Jvm.Cond.code x code maxLocals ret :: tables_1) room_1).applies x e0.platform about1 = true :=
  (Spec.applies_iff w_frames).mpr ⟨w_running, w_runnable, w_alone, w_named, w_hears, w_ripe, w_room, w_tables⟩
theorem atStart : AtStart classFile x code maxLocals ret World_1 tables_1 room_1 Calls_1 rest_1 Pre_1 launch0 p0 e0 about1 theMethod args0 below0 :=
  ⟨lists_1, trivial, launch0.admits_env _ _ _, launch0.least_env, fairChoices_fair.cas, fairChoices_fair.clock, w_frames, w_args, w_heap, w_applies, trivial, trivial, w_case⟩
end start1
theorem witness_1 : WitnessClaimed_1 := ⟨start1.p0, start1.e0, start1.about1, start1.theMethod, start1.args0, start1.below0, start1.atStart⟩
end Jvm.Pilot.@@N@@
