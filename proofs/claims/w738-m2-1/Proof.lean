import JvmDerived
import JvmDerived.Pilot.@@N@@Statement
import JvmDerived.Pilot.@@N@@Code
set_option linter.unusedVariables false
set_option linter.unusedSimpArgs false
namespace Jvm.Pilot.@@N@@
open Jvm Jvm.ClassFile Sem Op Lib Jvm.Free Jvm.Stand Jvm.LawKit Jvm.RoadKit Bundle Jvm.Free.Fl Jvm.Pilot.@@N@@.Jvm.D
theorem own_go {tb : Tables} {e : Env} {below : List Frame} {A B : State} {F : State → Outcome → Prop} (h : ∀ t, Steps tb e below A t → Steps tb e below B t) (k : ∃ s₂ o, Steps tb e below A s₂ ∧ F s₂ o) : ∃ s₂ o, Steps tb e below B s₂ ∧ F s₂ o := by
  obtain ⟨s₂, o, h1, h2⟩ := k
  exact ⟨s₂, o, h _ h1, h2⟩
theorem own_open {tb : Tables} {e : Env} {below : List Frame} {B : State} {F : State → Outcome → Prop} (h : ∀ G : State → Prop, (∀ A B, (∀ t, Steps tb e below A t → Steps tb e below B t) → G A → G B) → (∀ A, (∃ s₂ o, Steps tb e below A s₂ ∧ F s₂ o) → G A) → G B) : ∃ s₂ o, Steps tb e below B s₂ ∧ F s₂ o :=
  h (fun A => ∃ s₂ o, Steps tb e below A s₂ ∧ F s₂ o) (fun _ _ => own_go) (fun _ k => k)
/-! ### an array by its length and the value at each place -/
def own_A (Z : State) (h : Heap) (a : Addr) (ty : FieldType) (n : Nat) (f : Nat → Value) : Prop := ∃ cl : Cell, Arr Z h a cl ty ∧ cl.slots.size = n ∧ ∀ j, j < n → cl.slots[j]? = some (f j)
theorem own_A_lt {Z : State} {h : Heap} {a : Addr} {ty : FieldType} {n : Nat} {f : Nat → Value} (F : own_A Z h a ty n f) : a < h.size := by obtain ⟨_, A, -⟩ := F; exact A.lt
theorem own_A_ext {Z : State} {h h' : Heap} {a : Addr} {ty : FieldType} {n : Nat} {f : Nat → Value} (F : own_A Z h a ty n f) (E : Ext h h') : own_A Z h' a ty n f := by obtain ⟨c, A, r⟩ := F; exact ⟨c, A.ext E, r⟩
theorem own_A_other {Z : State} {h h' : Heap} {a b : Addr} {sl : Nat} {v : Value} {ty : FieldType} {n : Nat} {f : Nat → Value} (F : own_A Z h b ty n f) (W : Wr h h' a sl v) (q : b ≠ a) : own_A Z h' b ty n f := by obtain ⟨c, A, r⟩ := F; exact ⟨c, A.other W q, r⟩
theorem own_A_keep {Z : State} {h h' : Heap} {a : Addr} {ws : List Addr} {ty : FieldType} {n : Nat} {f : Nat → Value} (F : own_A Z h a ty n f) (K : Keep h h' ws) (q : a ∉ ws) : own_A Z h' a ty n f := by obtain ⟨c, A, r⟩ := F; exact ⟨c, ⟨K.2.1 a c A.1 q, A.2⟩, r⟩
theorem own_A_new {Z : State} {h : Heap} {a : Addr} {k : ClassId} {ty : FieldType} {z : Int32} {n : Nat} (A : Arr Z h a (newA k ty z) ty) (hz : z.toNatClampNeg = n) : own_A Z h a ty n (fun _ => defaultValue ty) :=
  ⟨_, A, (sz_new _ _ _).trans hz, fun j hj => by
    subst hz
    simp [newA, hj]⟩
theorem own_A_congr {Z : State} {h : Heap} {a : Addr} {ty : FieldType} {n : Nat} {f g : Nat → Value} (F : own_A Z h a ty n f) (q : ∀ j, j < n → f j = g j) : own_A Z h a ty n g := by
  obtain ⟨c, A, S, H⟩ := F
  exact ⟨c, A, S, fun j hj => by rw [← q j hj]; exact H j hj⟩
theorem own_A_set {Z : State} {h h' : Heap} {a : Addr} {cl : Cell} {ty : FieldType} {n : Nat} {f : Nat → Value} {i : Nat} {v : Value} (A : Arr Z h a cl ty) (S : cl.slots.size = n) (H : ∀ j, j < n → cl.slots[j]? = some (f j)) (W : Wr h h' a i v) (hi : i < n) : own_A Z h' a ty n (fun j => if j = i then v else f j) := by
  refine ⟨_, A.same W, (sz_set _ _ _).trans S, fun j hj => ?_⟩
  show (cl.slots.setIfInBounds i v)[j]? = some (if j = i then v else f j)
  by_cases q : j = i
  · subst q
    rw [if_pos rfl, Array.getElem?_setIfInBounds_self_of_lt (by omega)]
  · rw [if_neg q, Array.getElem?_setIfInBounds_ne (Ne.symm q)]
    exact H j hj
theorem own_hin {cl : Cell} {n : Nat} {j : Int32} (S : cl.slots.size = n) (h0 : ¬ j < 0) (h1 : j.toNatClampNeg < n) : ¬ (j < 0 ∨ cl.slots.size ≤ j.toNatClampNeg) := fun q => q.elim h0 (fun r => by omega)
theorem own_cps {G A : Prop} (h1 : A → G) (h2 : A) : G := h1 h2
theorem own_setf {α : Type} (c : α → Value) (g : Nat → α) (z : α) (i n : Nat) : ∀ j, j < n → (if j = i then c (g i) else c (if j < i then g j else z)) = c (if j < i + 1 then g j else z) := by
  intro j _
  by_cases h : j = i
  · subst h
    rw [if_pos rfl, if_pos (by omega)]
  · rw [if_neg h]
    by_cases h2 : j < i
    · rw [if_pos h2, if_pos (by omega)]
    · rw [if_neg h2, if_neg (by omega)]
theorem own_full {α : Type} (c : α → Value) (g : Nat → α) (z : α) (n : Nat) : ∀ j, j < n → c (if j < n then g j else z) = c (g j) := fun j hj => by rw [if_pos hj]
theorem own_zero {α : Type} (c : α → Value) (g : Nat → α) (z : α) (n : Nat) : ∀ j, j < n → c z = c (if j < 0 then g j else z) := fun j _ => by rw [if_neg (Nat.not_lt_zero j)]
def own_4 (a b c d : Int32) : Nat → Int32
  | 0 => a
  | 1 => b
  | 2 => c
  | _ => d
theorem own_4_all {P : Int32 → Prop} {a b c d : Int32} (h1 : P a) (h2 : P b) (h3 : P c) (h4 : P d) : ∀ j, P (own_4 a b c d j)
  | 0 => h1
  | 1 => h2
  | 2 => h3
  | _ + 3 => h4
theorem own_n32 {k : Nat} (h : k ≤ 4) : (Int32.ofNat k).toNatClampNeg = k := XT.n32 (by omega)
theorem own_nn {k : Nat} (h : k ≤ 4) : ¬ Int32.ofNat k < 0 := XT.nlt32 (a := k) (b := 0) (by omega) (by omega)
def own_small (v : Int32) : Prop := ¬ v < 0 ∧ v.toNatClampNeg < 4
def own_byte (v : Int32) : Prop := -128 ≤ v.toInt ∧ v.toInt < 128
theorem own_byte_of (x : Int32) : own_byte (x.toInt8.toInt32) := (c_i2b x).2
theorem own_small_of (x : Int32) : own_small (x &&& (3 : Int32)) := by
  have h := c_and x 3 (by decide)
  have h3 : (3 : Int32).toInt = 3 := rfl
  have h0 : ¬ (x &&& (3 : Int32)) < 0 := by
    rw [Int32.lt_iff_toInt_lt]
    have : (0 : Int32).toInt = 0 := rfl
    omega
  have := nat_of h0
  exact ⟨h0, by omega⟩
theorem own_len (p : Int32) : ∃ k : Nat, k ≤ 4 ∧ (p &&& (2147483647 : Int32)) % (5 : Int32) = Int32.ofNat k := by
  have h1 := c_and p 2147483647 (by decide)
  have h2 := (c_irem (p &&& 2147483647) 5 5 rfl).1 h1.1
  refine ⟨((p &&& (2147483647 : Int32)) % (5 : Int32)).toInt.toNat, by omega, ?_⟩
  rw [← Int32.toInt_inj, Int32.toInt_ofNat_of_lt (by omega)]
  omega
/-- the sum of the first k products -/
def own_tot (E S B : Nat → Int32) : Nat → Int
  | 0 => 0
  | k + 1 => own_tot E S B k + (E k).toInt * (S (B k).toNatClampNeg).toInt
theorem own_prod {a b : Int} (h1 : -128 ≤ a) (h2 : a < 128) (h3 : -128 ≤ b) (h4 : b < 128) : -16384 ≤ a * b ∧ a * b ≤ 16384 := by
  have k1 : 0 ≤ (a + 128) * (128 - b) := Int.mul_nonneg (by omega) (by omega)
  have k2 : 0 ≤ (128 - a) * (b + 128) := Int.mul_nonneg (by omega) (by omega)
  have k3 : 0 ≤ (a + 128) * (b + 128) := Int.mul_nonneg (by omega) (by omega)
  have k4 : 0 ≤ (128 - a) * (128 - b) := Int.mul_nonneg (by omega) (by omega)
  simp only [Int.add_mul, Int.mul_add, Int.sub_mul, Int.mul_sub] at k1 k2 k3 k4
  generalize a * b = ab at *
  omega
theorem own_tot_bd {E S B : Nat → Int32} (hE : ∀ j, own_byte (E j)) (hS : ∀ j, own_byte (S j)) : ∀ k : Nat, -(16384 * (k : Int)) ≤ own_tot E S B k ∧ own_tot E S B k ≤ 16384 * (k : Int)
  | 0 => ⟨by simp [own_tot], by simp [own_tot]⟩
  | k + 1 => by
    have ih := own_tot_bd (B := B) hE hS k
    have q := own_prod (hE k).1 (hE k).2 (hS (B k).toNatClampNeg).1 (hS (B k).toNatClampNeg).2
    simp only [own_tot]
    generalize (E k).toInt * (S (B k).toNatClampNeg).toInt = x at *
    omega
/-- one product as a long -/
theorem own_lm {e s : Int32} (he : own_byte e) (hs : own_byte s) : (e.toInt64 * s.toInt64 : Int64).toInt = e.toInt * s.toInt ∧ -16384 ≤ e.toInt * s.toInt ∧ e.toInt * s.toInt ≤ 16384 := by
  have q := c_lmul e.toInt64 s.toInt64
  have r := rng64 (e.toInt64 * s.toInt64)
  rw [c_i2l, c_i2l] at q
  have b := own_prod he.1 he.2 hs.1 hs.2
  generalize e.toInt * s.toInt = x at *
  exact ⟨by omega, b⟩
theorem own_la {a b : Int64} (h1 : -1000000 ≤ a.toInt) (h2 : a.toInt ≤ 1000000) (h3 : -1000000 ≤ b.toInt) (h4 : b.toInt ≤ 1000000) : (a + b).toInt = a.toInt + b.toInt := by
  have q := c_ladd a b
  have r := rng64 (a + b)
  omega
/-- one conditional turn of the law's own sum -/
theorem own_turn {E S B : Nat → Int32} (hE : ∀ j, own_byte (E j)) (hS : ∀ j, own_byte (S j)) {k i : Nat} (hk : k ≤ 4) (hi : i < 4) {r r' : Int64} {li : Int32} (hli : li = Int32.ofNat (i + 1))
    (hr : r.toInt = own_tot E S B (min k i)) (hr' : (if Int32.ofNat k < li then r else r + (E i).toInt64 * (S (B i).toNatClampNeg).toInt64) = r') : r'.toInt = own_tot E S B (min k (i + 1)) := by
  have bd := own_tot_bd (B := B) hE hS (min k i)
  rw [← hr', hli]
  by_cases h : k < i + 1
  · rw [if_pos (XT.lt32 (by omega) h), hr, show min k (i + 1) = min k i by omega]
  · rw [if_neg (XT.nlt32 (by omega) (by omega)), show min k (i + 1) = min k i + 1 by omega]
    have hm : min k i = i := by omega
    rw [hm] at hr bd ⊢
    have q := own_lm (hE i) (hS (B i).toNatClampNeg)
    rw [own_la (by omega) (by omega) (by rw [q.1]; omega) (by rw [q.1]; omega), hr, q.1]
    rfl
theorem own_int_nn {i : Int} {a : UInt64} (h : FP.Core.DInt i a) : NoNaN64 a := val64_no.mpr (FP.Core.Whole.ne_nan h)
theorem own_int0 {E S B : Nat → Int32} : FP.Core.DInt (own_tot E S B 0) (0 : UInt64) := by
  have h := FP.Core.i2d_int 0
  have e : FP.Core.i2d 0 = 0 := by decide +kernel
  rw [e] at h
  exact h
theorem own_eq0 {i : Int} {a b : UInt64} (ha : FP.Core.DInt i a) (hb : FP.Core.DInt i b) : cmpValue (FP.dcmp a b) .l = (0 : Int32) := by
  have h : FP.dcmp a b = some (compare i i) := FP.Core.dcmp_int ha hb
  have e : compare i i = .eq := by show (if i < i then _ else if i = i then _ else _) = _; simp
  rw [h, e]
  rfl
theorem ef_1 (m : MethodId) (x0 : Addr) (x1 : Addr) (x2 : Addr) (x3 : UInt64) : entryFrame m #[(.ref x0), (.ref x1), (.ref x2), (.double x3)] 5 = mkF m 0 #[.val (.ref x0), .val (.ref x1), .val (.ref x2), .val (.double x3), .second] [] := by first | (simp [entryFrame, mkF, argsToLocals, Value.category]; done) | rfl
theorem pn_com_example_sensebid_sensebid_mechanism_CoverRow : plainName "com/example/sensebid/sensebid/mechanism/CoverRow" = true := by first | (simp [plainName, overriddenIn]; done) | decide +kernel
theorem d1_0 : decode prog_8_method_1_code 0 = .ok (.aload_n 0, 1) := by decide +kernel
theorem d1_1 : decode prog_8_method_1_code 1 = .ok (.invokespecial 1, 3) := by decide +kernel
theorem d1_4 : decode prog_8_method_1_code 4 = .ok (.aload_n 0, 1) := by decide +kernel
theorem d1_5 : decode prog_8_method_1_code 5 = .ok (.aload_n 1, 1) := by decide +kernel
theorem d1_6 : decode prog_8_method_1_code 6 = .ok (.putfield 7, 3) := by decide +kernel
theorem d1_9 : decode prog_8_method_1_code 9 = .ok (.aload_n 0, 1) := by decide +kernel
theorem d1_10 : decode prog_8_method_1_code 10 = .ok (.aload_n 2, 1) := by decide +kernel
theorem d1_11 : decode prog_8_method_1_code 11 = .ok (.putfield 13, 3) := by decide +kernel
theorem d1_14 : decode prog_8_method_1_code 14 = .ok (.aload_n 0, 1) := by decide +kernel
theorem d1_15 : decode prog_8_method_1_code 15 = .ok (.dload_n 3, 1) := by decide +kernel
theorem d1_16 : decode prog_8_method_1_code 16 = .ok (.putfield 17, 3) := by decide +kernel
theorem d1_19 : decode prog_8_method_1_code 19 = .ok (.return_, 1) := by decide +kernel
theorem ef_3 (m : MethodId) (x0 : Addr) (x1 : Addr) : entryFrame m #[(.ref x0), (.ref x1)] 5 = mkF m 0 #[.val (.ref x0), .val (.ref x1), .unset, .unset, .unset] [] := by first | (simp [entryFrame, mkF, argsToLocals, Value.category]; done) | rfl
theorem d3_0 : decode prog_8_method_2_code 0 = .ok (.dconst 0, 1) := by decide +kernel
theorem d3_1 : decode prog_8_method_2_code 1 = .ok (.dstore_n 2, 1) := by decide +kernel
theorem d3_2 : decode prog_8_method_2_code 2 = .ok (.iconst 0, 1) := by decide +kernel
theorem d3_3 : decode prog_8_method_2_code 3 = .ok (.istore 4, 2) := by decide +kernel
theorem d3_5 : decode prog_8_method_2_code 5 = .ok (.iload 4, 2) := by decide +kernel
theorem d3_7 : decode prog_8_method_2_code 7 = .ok (.aload_n 0, 1) := by decide +kernel
theorem d3_8 : decode prog_8_method_2_code 8 = .ok (.getfield 7, 3) := by decide +kernel
theorem d3_11 : decode prog_8_method_2_code 11 = .ok (.arraylength, 1) := by decide +kernel
theorem d3_12 : decode prog_8_method_2_code 12 = .ok (.if_icmp .ge 29, 3) := by decide +kernel
theorem d3_41 : decode prog_8_method_2_code 41 = .ok (.dload_n 2, 1) := by decide +kernel
theorem d3_42 : decode prog_8_method_2_code 42 = .ok (.dreturn, 1) := by decide +kernel
theorem d3_15 : decode prog_8_method_2_code 15 = .ok (.dload_n 2, 1) := by decide +kernel
theorem d3_16 : decode prog_8_method_2_code 16 = .ok (.aload_n 0, 1) := by decide +kernel
theorem d3_17 : decode prog_8_method_2_code 17 = .ok (.getfield 13, 3) := by decide +kernel
theorem d3_20 : decode prog_8_method_2_code 20 = .ok (.iload 4, 2) := by decide +kernel
theorem d3_22 : decode prog_8_method_2_code 22 = .ok (.daload, 1) := by decide +kernel
theorem d3_23 : decode prog_8_method_2_code 23 = .ok (.aload_n 1, 1) := by decide +kernel
theorem d3_24 : decode prog_8_method_2_code 24 = .ok (.aload_n 0, 1) := by decide +kernel
theorem d3_25 : decode prog_8_method_2_code 25 = .ok (.getfield 7, 3) := by decide +kernel
theorem d3_28 : decode prog_8_method_2_code 28 = .ok (.iload 4, 2) := by decide +kernel
theorem d3_30 : decode prog_8_method_2_code 30 = .ok (.iaload, 1) := by decide +kernel
theorem d3_31 : decode prog_8_method_2_code 31 = .ok (.daload, 1) := by decide +kernel
theorem d3_32 : decode prog_8_method_2_code 32 = .ok (.dmul, 1) := by decide +kernel
theorem d3_33 : decode prog_8_method_2_code 33 = .ok (.dadd, 1) := by decide +kernel
theorem d3_34 : decode prog_8_method_2_code 34 = .ok (.dstore_n 2, 1) := by decide +kernel
theorem d3_35 : decode prog_8_method_2_code 35 = .ok (.iinc 4 1, 3) := by decide +kernel
theorem d3_38 : decode prog_8_method_2_code 38 = .ok (.goto (-33), 3) := by decide +kernel
theorem ef_0 (m : MethodId) (x0 : Int32) (x1 : Int32) (x2 : Int32) (x3 : Int32) : entryFrame m #[(.int x0), (.int x1), (.int x2), (.int x3)] maxLocals = mkF m 0 #[.val (.int x0), .val (.int x1), .val (.int x2), .val (.int x3), .unset, .unset, .unset, .unset, .unset, .unset, .unset, .unset, .unset, .unset, .unset, .unset, .unset, .unset, .unset, .unset, .unset, .unset, .unset, .unset] [] := by first | (simp [entryFrame, mkF, argsToLocals, Value.category, maxLocals]; done) | rfl
theorem pn_com_example_sensebid_sensebid_mechanism_CoverRowSumPinLaw : plainName "com/example/sensebid/sensebid/mechanism/CoverRowSumPinLaw" = true := by first | (simp [plainName, overriddenIn]; done) | decide +kernel
theorem pd__28_5bI_5bDD_29V : parseMethodDescriptor "([I[DD)V" = some ⟨[(.array .int), (.array .double), .double], none⟩ := by decide +kernel
theorem pd__28_5bD_29D : parseMethodDescriptor "([D)D" = some ⟨[(.array .double)], some .double⟩ := by decide +kernel
def Q1 (Z : State) (a1 a2 a3 : Addr) (h0 : Heap) (n0 : Nat) (v : Option Value) (h : Heap) (L : List Loc) : Prop := v = none ∧ Fr n0 L ∧ Keep h0 h [a1] ∧ Exa Z h a1 "com/example/sensebid/sensebid/mechanism/CoverRow" ∧ Fld Z h a1 "com/example/sensebid/sensebid/mechanism/CoverRow" "bids" "[I" (.ref a2) ∧ Fld Z h a1 "com/example/sensebid/sensebid/mechanism/CoverRow" "entries" "[D" (.ref a3)
set_option maxRecDepth 65536 in
set_option maxHeartbeats 40000000 in
theorem rm1 (l : Launch) (Z : State) (a0 : Array Value) (hw : ∀ d ∈ tables_1, d.before a0 Z = true) (ws : List Jvm.Cond) (a1 : Addr) (a2 : Addr) (a3 : Addr) (d4 : UInt64)  (h0 : Heap) (n0 : Nat) (Z0 : n0 ≤ h0.size) (E_a1 : Exa Z h0 a1 "com/example/sensebid/sensebid/mechanism/CoverRow") (F1 : Fld Z h0 a1 "com/example/sensebid/sensebid/mechanism/CoverRow" "bids" "[I" .null) (F2 : Fld Z h0 a1 "com/example/sensebid/sensebid/mechanism/CoverRow" "entries" "[D" .null) (F3 : Fld Z h0 a1 "com/example/sensebid/sensebid/mechanism/CoverRow" "demand" "D" (.double (0 : UInt64))) (g_a1 : n0 ≤ a1) :
    MetFree l (⟨"com/example/sensebid/sensebid/mechanism/CoverRow", "<init>", "([I[DD)V"⟩ : MethodName) (head1 (Jvm.Cond.code (⟨"com/example/sensebid/sensebid/mechanism/CoverRow", "<init>", "([I[DD)V"⟩ : MethodName) prog_8_method_1_code 5 none :: ws) ({ frames := 1, cells := 0, slots := 0, locals := 12 } : Room)) (fun a U => a = #[(.ref a1), (.ref a2), (.ref a3), (.double d4)] ∧ Z.Warmed39 U.vm ∧ U.heap = h0) (fun _ _ _ _ _ => True) (fun _ U o U' => ∃ v L, o = .returned v ∧ Q1 Z a1 a2 a3 h0 n0 v U'.heap L ∧ FrameEnd U o U' L ({ frames := 1, cells := 0, slots := 0, locals := 12 } : Room).cells ({ frames := 1, cells := 0, slots := 0, locals := 12 } : Room).slots) := by
  refine MetFree.of_bodySF (plainFor_of_name pn_com_example_sensebid_sensebid_mechanism_CoverRow) hisR ?_
  intro p e s m args below meth c s₁ Bd hml0 hP hK
  obtain ⟨rfl, hZ, hh⟩ := hP
  have hx := Bd.exec
  have hby := Bd.bytes
  have hml : c.maxLocals = 5 := hml0
  have hown : s.vm.findClass "com/example/sensebid/sensebid/mechanism/CoverRow" = some m.cls := findClass_of_methodNamed Bd.named
  have hnm := (name_of_methodNamed Bd.named Bd.method).1
  have X0 : Stand p l e ({ frames := 1, cells := 0, slots := 0, locals := 12 } : Room) s m #[(.ref a1), (.ref a2), (.ref a3), (.double d4)] below meth c s₁ [] 0 0 := Stand.of_body Bd
  have e0 : s₁.heap = h0 := by rw [← hh, Bd.state]; rfl
  have N0 := Fr.nil n0
  refine own_open (fun G go fin => ?_)
  refine go (s₁.setTop (mkF m 0 #[.val (.ref a1), .val (.ref a2), .val (.ref a3), .val (.double d4), .second] [])) _ (fun t9 k9 => castTop (ef_1 m a1 a2 a3 d4) k9) ?_
  refine go (s₁.setTop (mkF m 1 #[.val (.ref a1), .val (.ref a2), .val (.ref a3), .val (.double d4), .second] [(.ref a1)])) _ (fun t9 k9 => ?_) ?_
  · show Steps p.tables e below (s₁.setTop (mkF m 0 #[.val (.ref a1), .val (.ref a2), .val (.ref a3), .val (.double d4), .second] [])) _
    refine XS.aloadN X0.here hx rfl (hb hby d1_0) rfl rfl ?_
    exact k9
  obtain ⟨T1, X1, e1, st1⟩ := initO X0 hx hZ hown (hw _ (List.mem_of_getElem? (i := 9) rfl)) (hw _ (List.mem_of_getElem? (i := 10) rfl)) (hw _ (List.mem_of_getElem? (i := 11) rfl)) e0 (g := (mkF m 1 #[.val (.ref a1), .val (.ref a2), .val (.ref a3), .val (.double d4), .second] [(.ref a1)])) rfl (by rw [hml]; rfl) rfl (hb hby d1_1) (by decide) (W := 0) (by show 2 * 0 + _ ≤ _; exact Nat.le_of_eq rfl) (by decide)
  refine go (T1.setTop (mkF m 4 #[.val (.ref a1), .val (.ref a2), .val (.ref a3), .val (.double d4), .second] [])) _ (fun t9 k9 => st1 _ k9) ?_
  refine go (T1.setTop (mkF m 6 #[.val (.ref a1), .val (.ref a2), .val (.ref a3), .val (.double d4), .second] [(.ref a2), (.ref a1)])) _ (fun t9 k9 => ?_) ?_
  · show Steps p.tables e below (T1.setTop (mkF m 4 #[.val (.ref a1), .val (.ref a2), .val (.ref a3), .val (.double d4), .second] [])) _
    refine XS.aloadN X1.here hx rfl (hb hby d1_4) rfl rfl ?_
    show Steps p.tables e below (T1.setTop (mkF m 5 #[.val (.ref a1), .val (.ref a2), .val (.ref a3), .val (.double d4), .second] [(.ref a1)])) _
    refine XS.aloadN X1.here hx rfl (hb hby d1_5) rfl rfl ?_
    exact k9
  obtain ⟨T2, h2, X2, e2, W2, st2⟩ := putF X1 hx hZ hown (host := "") (Or.inl (hw _ (List.mem_of_getElem? (i := 12) rfl))) Via.refl e1 F1 E_a1 (Or.inr ⟨(hw _ (List.mem_of_getElem? (i := 13) rfl)), rfl, hnm⟩) (hw _ (List.mem_of_getElem? (i := 4) rfl)) (ty := (.array .int)) (by decide) rfl rfl (g := (mkF m 6 #[.val (.ref a1), .val (.ref a2), .val (.ref a3), .val (.double d4), .second] [(.ref a2), (.ref a1)])) rfl rfl (hb hby d1_6)
  have N2 := Fr.snoc X2 N0 g_a1
  refine go (T2.setTop (mkF m 9 #[.val (.ref a1), .val (.ref a2), .val (.ref a3), .val (.double d4), .second] [])) _ (fun t9 k9 => st2 _ k9) ?_
  have u3 : Exa Z h2 a1 "com/example/sensebid/sensebid/mechanism/CoverRow" := E_a1.wr W2
  have u4 : Fld Z h2 a1 "com/example/sensebid/sensebid/mechanism/CoverRow" "bids" "[I" (.ref a2) := F1.same W2
  have u5 : Fld Z h2 a1 "com/example/sensebid/sensebid/mechanism/CoverRow" "entries" "[D" .null := F2.other W2 (Or.inr (slot_ne (Or.inr (hw _ (List.mem_of_getElem? (i := 15) rfl))) (Or.inr (hw _ (List.mem_of_getElem? (i := 13) rfl))) (by decide) (t := (.array .double)) (t' := (.array .int)) (by decide) (by decide)))
  have u6 : Fld Z h2 a1 "com/example/sensebid/sensebid/mechanism/CoverRow" "demand" "D" (.double (0 : UInt64)) := F3.other W2 (Or.inr (slot_ne (Or.inr (hw _ (List.mem_of_getElem? (i := 17) rfl))) (Or.inr (hw _ (List.mem_of_getElem? (i := 13) rfl))) (by decide) (t := .double) (t' := (.array .int)) (by decide) (by decide)))
  have u7 : Keep h0 h2 [a1] := (Keep.refl h0 [a1]).wr W2 (Or.inl (List.mem_of_getElem? (i := 0) rfl))
  refine go (T2.setTop (mkF m 11 #[.val (.ref a1), .val (.ref a2), .val (.ref a3), .val (.double d4), .second] [(.ref a3), (.ref a1)])) _ (fun t9 k9 => ?_) ?_
  · show Steps p.tables e below (T2.setTop (mkF m 9 #[.val (.ref a1), .val (.ref a2), .val (.ref a3), .val (.double d4), .second] [])) _
    refine XS.aloadN X2.here hx rfl (hb hby d1_9) rfl rfl ?_
    show Steps p.tables e below (T2.setTop (mkF m 10 #[.val (.ref a1), .val (.ref a2), .val (.ref a3), .val (.double d4), .second] [(.ref a1)])) _
    refine XS.aloadN X2.here hx rfl (hb hby d1_10) rfl rfl ?_
    exact k9
  obtain ⟨T8, h8, X8, e8, W8, st8⟩ := putF X2 hx hZ hown (host := "") (Or.inl (hw _ (List.mem_of_getElem? (i := 14) rfl))) Via.refl e2 u5 u3 (Or.inr ⟨(hw _ (List.mem_of_getElem? (i := 15) rfl)), rfl, hnm⟩) (hw _ (List.mem_of_getElem? (i := 4) rfl)) (ty := (.array .double)) (by decide) rfl rfl (g := (mkF m 11 #[.val (.ref a1), .val (.ref a2), .val (.ref a3), .val (.double d4), .second] [(.ref a3), (.ref a1)])) rfl rfl (hb hby d1_11)
  have N8 := Fr.snoc X8 N2 g_a1
  refine go (T8.setTop (mkF m 14 #[.val (.ref a1), .val (.ref a2), .val (.ref a3), .val (.double d4), .second] [])) _ (fun t9 k9 => st8 _ k9) ?_
  have u9 : Exa Z h8 a1 "com/example/sensebid/sensebid/mechanism/CoverRow" := u3.wr W8
  have u10 : Fld Z h8 a1 "com/example/sensebid/sensebid/mechanism/CoverRow" "bids" "[I" (.ref a2) := u4.other W8 (Or.inr (slot_ne (Or.inr (hw _ (List.mem_of_getElem? (i := 13) rfl))) (Or.inr (hw _ (List.mem_of_getElem? (i := 15) rfl))) (by decide) (t := (.array .int)) (t' := (.array .double)) (by decide) (by decide)))
  have u11 : Fld Z h8 a1 "com/example/sensebid/sensebid/mechanism/CoverRow" "entries" "[D" (.ref a3) := u5.same W8
  have u12 : Fld Z h8 a1 "com/example/sensebid/sensebid/mechanism/CoverRow" "demand" "D" (.double (0 : UInt64)) := u6.other W8 (Or.inr (slot_ne (Or.inr (hw _ (List.mem_of_getElem? (i := 17) rfl))) (Or.inr (hw _ (List.mem_of_getElem? (i := 15) rfl))) (by decide) (t := .double) (t' := (.array .double)) (by decide) (by decide)))
  have u13 : Keep h0 h8 [a1] := u7.wr W8 (Or.inl (List.mem_of_getElem? (i := 0) rfl))
  refine go (T8.setTop (mkF m 16 #[.val (.ref a1), .val (.ref a2), .val (.ref a3), .val (.double d4), .second] [(.double d4), (.ref a1)])) _ (fun t9 k9 => ?_) ?_
  · show Steps p.tables e below (T8.setTop (mkF m 14 #[.val (.ref a1), .val (.ref a2), .val (.ref a3), .val (.double d4), .second] [])) _
    refine XS.aloadN X8.here hx rfl (hb hby d1_14) rfl rfl ?_
    show Steps p.tables e below (T8.setTop (mkF m 15 #[.val (.ref a1), .val (.ref a2), .val (.ref a3), .val (.double d4), .second] [(.ref a1)])) _
    refine XS.dloadN X8.here hx rfl (hb hby d1_15) rfl ?_
    exact k9
  obtain ⟨T14, h14, X14, e14, W14, st14⟩ := putF X8 hx hZ hown (host := "") (Or.inl (hw _ (List.mem_of_getElem? (i := 16) rfl))) Via.refl e8 u12 u9 (Or.inr ⟨(hw _ (List.mem_of_getElem? (i := 17) rfl)), rfl, hnm⟩) (hw _ (List.mem_of_getElem? (i := 4) rfl)) (ty := .double) (by decide) rfl rfl (g := (mkF m 16 #[.val (.ref a1), .val (.ref a2), .val (.ref a3), .val (.double d4), .second] [(.double d4), (.ref a1)])) rfl rfl (hb hby d1_16)
  have N14 := Fr.snoc X14 N8 g_a1
  refine go (T14.setTop (mkF m 19 #[.val (.ref a1), .val (.ref a2), .val (.ref a3), .val (.double d4), .second] [])) _ (fun t9 k9 => st14 _ k9) ?_
  have u15 : Exa Z h14 a1 "com/example/sensebid/sensebid/mechanism/CoverRow" := u9.wr W14
  have u16 : Fld Z h14 a1 "com/example/sensebid/sensebid/mechanism/CoverRow" "bids" "[I" (.ref a2) := u10.other W14 (Or.inr (slot_ne (Or.inr (hw _ (List.mem_of_getElem? (i := 13) rfl))) (Or.inr (hw _ (List.mem_of_getElem? (i := 17) rfl))) (by decide) (t := (.array .int)) (t' := .double) (by decide) (by decide)))
  have u17 : Fld Z h14 a1 "com/example/sensebid/sensebid/mechanism/CoverRow" "entries" "[D" (.ref a3) := u11.other W14 (Or.inr (slot_ne (Or.inr (hw _ (List.mem_of_getElem? (i := 15) rfl))) (Or.inr (hw _ (List.mem_of_getElem? (i := 17) rfl))) (by decide) (t := (.array .double)) (t' := .double) (by decide) (by decide)))
  have u18 : Fld Z h14 a1 "com/example/sensebid/sensebid/mechanism/CoverRow" "demand" "D" (.double d4) := u12.same W14
  have u19 : Keep h0 h14 [a1] := u13.wr W14 (Or.inl (List.mem_of_getElem? (i := 0) rfl))
  obtain ⟨fs, hr, hrun, hended, hW, hsame⟩ := X14.leave (v := none) (fun h => by rfl)
  refine fin _ ⟨_, _, X14.returnOut hx Bd.returns (hb hby d1_19) hr, hrun, hended, _, _, rfl, ?_, ⟨_, rfl⟩, hW, hsame.mono (by decide) (by decide)⟩
  show Q1 Z a1 a2 a3 h0 n0 _ T14.heap _
  rw [e14]
  exact ⟨rfl, N14, u19, u15, u16, u17⟩
def Q3 (Z : State) (E S B : Nat → Int32) (n : Nat) (h0 : Heap) (n0 : Nat) (v : Option Value) (h : Heap) (L : List Loc) : Prop := (∃ d, v = some (.double d) ∧ FP.Core.DInt (own_tot E S B n) d) ∧ Fr n0 L ∧ h = h0
set_option maxRecDepth 65536 in
set_option maxHeartbeats 40000000 in
theorem rm3 (l : Launch) (Z : State) (a0 : Array Value) (hw : ∀ d ∈ tables_1, d.before a0 Z = true) (ws : List Jvm.Cond) (a1 : Addr) (a2 : Addr) (b en : Addr) (E S B : Nat → Int32) (n : Nat) (hn : n ≤ 4) (hE : ∀ j, own_byte (E j)) (hS : ∀ j, own_byte (S j)) (hB : ∀ j, own_small (B j)) (h0 : Heap) (n0 : Nat) (Z0 : n0 ≤ h0.size) (F1 : Fld Z h0 a1 "com/example/sensebid/sensebid/mechanism/CoverRow" "bids" "[I" (.ref b)) (F2 : Fld Z h0 a1 "com/example/sensebid/sensebid/mechanism/CoverRow" "entries" "[D" (.ref en)) (Vb : own_A Z h0 b .int n (fun j => .int (B j))) (Ve : own_A Z h0 en .double 4 (fun j => .double (FP.i2d (E j)))) (Vs : own_A Z h0 a2 .double 4 (fun j => .double (FP.i2d (S j)))) :
    MetFree l (⟨"com/example/sensebid/sensebid/mechanism/CoverRow", "sum", "([D)D"⟩ : MethodName) (head1 (Jvm.Cond.code (⟨"com/example/sensebid/sensebid/mechanism/CoverRow", "sum", "([D)D"⟩ : MethodName) prog_8_method_2_code 5 (some .double) :: ws) ({ frames := 0, cells := 0, slots := 0, locals := 0 } : Room)) (fun a U => a = #[(.ref a1), (.ref a2)] ∧ Z.Warmed39 U.vm ∧ U.heap = h0) (fun _ _ _ _ _ => True) (fun _ U o U' => ∃ v L, o = .returned v ∧ Q3 Z E S B n h0 n0 v U'.heap L ∧ FrameEnd U o U' L ({ frames := 0, cells := 0, slots := 0, locals := 0 } : Room).cells ({ frames := 0, cells := 0, slots := 0, locals := 0 } : Room).slots) := by
  refine MetFree.of_bodySF (plainFor_of_name pn_com_example_sensebid_sensebid_mechanism_CoverRow) hisR ?_
  intro p e s m args below meth c s₁ Bd hml0 hP hK
  obtain ⟨rfl, hZ, hh⟩ := hP
  have hx := Bd.exec
  have hby := Bd.bytes
  have hml : c.maxLocals = 5 := hml0
  have hown : s.vm.findClass "com/example/sensebid/sensebid/mechanism/CoverRow" = some m.cls := findClass_of_methodNamed Bd.named
  have hnm := (name_of_methodNamed Bd.named Bd.method).1
  have X0 : Stand p l e ({ frames := 0, cells := 0, slots := 0, locals := 0 } : Room) s m #[(.ref a1), (.ref a2)] below meth c s₁ [] 0 0 := Stand.of_body Bd
  have e0 : s₁.heap = h0 := by rw [← hh, Bd.state]; rfl
  have N0 := Fr.nil n0
  refine own_open (fun G go fin => ?_)
  refine go (s₁.setTop (mkF m 0 #[.val (.ref a1), .val (.ref a2), .unset, .unset, .unset] [])) _ (fun t9 k9 => castTop (ef_3 m a1 a2) k9) ?_
  refine go (s₁.setTop (mkF m 5 #[.val (.ref a1), .val (.ref a2), .val (.double (0 : UInt64)), .second, .val (.int (0 : Int32))] [])) _ (fun t9 k9 => ?_) ?_
  · show Steps p.tables e below (s₁.setTop (mkF m 0 #[.val (.ref a1), .val (.ref a2), .unset, .unset, .unset] [])) _
    refine XS.dconst0 X0.here hx rfl (hb hby d3_0) rfl ?_
    show Steps p.tables e below (s₁.setTop (mkF m 1 #[.val (.ref a1), .val (.ref a2), .unset, .unset, .unset] [(.double (0 : UInt64))])) _
    refine XS.dstoreN X0.here hx rfl (hb hby d3_1) rfl (l' := #[.val (.ref a1), .val (.ref a2), .val (.double (0 : UInt64)), .second, .unset]) rfl ?_
    show Steps p.tables e below (s₁.setTop (mkF m 2 #[.val (.ref a1), .val (.ref a2), .val (.double (0 : UInt64)), .second, .unset] [])) _
    refine XS.iconst X0.here hx rfl (hb hby d3_2) ?_
    show Steps p.tables e below (s₁.setTop (mkF m 3 #[.val (.ref a1), .val (.ref a2), .val (.double (0 : UInt64)), .second, .unset] [(.int (0 : Int32))])) _
    refine XS.istore X0.here hx rfl (hb hby d3_3) rfl (l' := #[.val (.ref a1), .val (.ref a2), .val (.double (0 : UInt64)), .second, .val (.int (0 : Int32))]) rfl ?_
    exact k9
  have loop : ∀ (k i : Nat) (acc : UInt64) (T1 : State) (X1 : Stand p l e ({ frames := 0, cells := 0, slots := 0, locals := 0 } : Room) s m #[(.ref a1), (.ref a2)] below meth c T1 [] 0 0) (e1 : T1.heap = h0), i + k = n → FP.Core.DInt (own_tot E S B i) acc → G (T1.setTop (mkF m 5 #[.val (.ref a1), .val (.ref a2), .val (.double acc), .second, .val (.int (Int32.ofNat i))] [])) := by
    intro k
    induction k with
    | zero =>
      intro i acc T1 X1 e1 hi hacc
      obtain rfl : i = n := by omega
      refine go (T1.setTop (mkF m 8 #[.val (.ref a1), .val (.ref a2), .val (.double acc), .second, .val (.int (Int32.ofNat i))] [(.ref a1), (.int (Int32.ofNat i))])) _ (fun t9 k9 => ?_) ?_
      · show Steps p.tables e below (T1.setTop (mkF m 5 #[.val (.ref a1), .val (.ref a2), .val (.double acc), .second, .val (.int (Int32.ofNat i))] [])) _
        refine XS.iload X1.here hx rfl (hb hby d3_5) rfl ?_
        show Steps p.tables e below (T1.setTop (mkF m 7 #[.val (.ref a1), .val (.ref a2), .val (.double acc), .second, .val (.int (Int32.ofNat i))] [(.int (Int32.ofNat i))])) _
        refine XS.aloadN X1.here hx rfl (hb hby d3_7) rfl rfl ?_
        exact k9
      obtain ⟨T20, X20, e20, st20⟩ := getF X1 hx hZ hown (host := "") (Or.inl (hw _ (List.mem_of_getElem? (i := 12) rfl))) Via.refl e1 F1 (g := (mkF m 8 #[.val (.ref a1), .val (.ref a2), .val (.double acc), .second, .val (.int (Int32.ofNat i))] [(.ref a1), (.int (Int32.ofNat i))])) rfl rfl (hb hby d3_8)
      refine go (T20.setTop (mkF m 11 #[.val (.ref a1), .val (.ref a2), .val (.double acc), .second, .val (.int (Int32.ofNat i))] [(.ref b), (.int (Int32.ofNat i))])) _ (fun t9 k9 => st20 _ k9) ?_
      obtain ⟨cl21, Ar21, Sz21, Hv21⟩ := Vb
      have u22 : own_A Z h0 b .int i (fun j => .int (B j)) := ⟨cl21, Ar21, Sz21, Hv21⟩
      refine go (T20.setTop (mkF m 42 #[.val (.ref a1), .val (.ref a2), .val (.double acc), .second, .val (.int (Int32.ofNat i))] [(.double acc)])) _ (fun t9 k9 => ?_) ?_
      · show Steps p.tables e below (T20.setTop (mkF m 11 #[.val (.ref a1), .val (.ref a2), .val (.double acc), .second, .val (.int (Int32.ofNat i))] [(.ref b), (.int (Int32.ofNat i))])) _
        refine X20.arraylength hx (by rw [e20]; exact Ar21.1) (State.isArrayOf_alike hZ.alike Ar21.2.1) (g := (mkF m 11 #[.val (.ref a1), .val (.ref a2), .val (.double acc), .second, .val (.int (Int32.ofNat i))] [(.ref b), (.int (Int32.ofNat i))])) rfl (rest := [(.int (Int32.ofNat i))]) rfl (hb hby d3_11) _ ?_
        rw [len_of (Sz21.trans (own_n32 (by omega : i ≤ 4)).symm) (own_nn (by omega))]
        show Steps p.tables e below (T20.setTop (mkF m 12 #[.val (.ref a1), .val (.ref a2), .val (.double acc), .second, .val (.int (Int32.ofNat i))] [(.int (Int32.ofNat i)), (.int (Int32.ofNat i))])) _
        refine XS.icmpYes X20.here hx rfl (pc0 := 12) (pc' := 41) rfl (hb hby d3_12) rfl (flt (Int32.lt_irrefl : ¬ Int32.ofNat i < Int32.ofNat i)).2.1 (by decide) (by decide) ?_
        show Steps p.tables e below (T20.setTop (mkF m 41 #[.val (.ref a1), .val (.ref a2), .val (.double acc), .second, .val (.int (Int32.ofNat i))] [])) _
        refine XS.dloadN X20.here hx rfl (hb hby d3_41) rfl ?_
        exact k9
      obtain ⟨fs, hr, hrun, hended, hW, hsame⟩ := X20.leave (v := some (.double acc)) (fun h => by rw [Bd.returns] at h; cases h)
      refine fin _ ⟨_, _, retOut X20 hx (t := .double) Bd.returns rfl (Or.inr (Or.inr (Or.inl ⟨rfl, rfl, _, rfl⟩))) (hb hby d3_42) hr, hrun, hended, _, _, rfl, ?_, ⟨_, rfl⟩, hW, hsame.mono (by decide) (by decide)⟩
      show Q3 Z E S B i h0 n0 _ T20.heap _
      rw [e20]
      exact ⟨⟨_, rfl, hacc⟩, N0, rfl⟩
    | succ k ih =>
      intro i acc T1 X1 e1 hi hacc
      refine go (T1.setTop (mkF m 8 #[.val (.ref a1), .val (.ref a2), .val (.double acc), .second, .val (.int (Int32.ofNat i))] [(.ref a1), (.int (Int32.ofNat i))])) _ (fun t9 k9 => ?_) ?_
      · show Steps p.tables e below (T1.setTop (mkF m 5 #[.val (.ref a1), .val (.ref a2), .val (.double acc), .second, .val (.int (Int32.ofNat i))] [])) _
        refine XS.iload X1.here hx rfl (hb hby d3_5) rfl ?_
        show Steps p.tables e below (T1.setTop (mkF m 7 #[.val (.ref a1), .val (.ref a2), .val (.double acc), .second, .val (.int (Int32.ofNat i))] [(.int (Int32.ofNat i))])) _
        refine XS.aloadN X1.here hx rfl (hb hby d3_7) rfl rfl ?_
        exact k9
      obtain ⟨T23, X23, e23, st23⟩ := getF X1 hx hZ hown (host := "") (Or.inl (hw _ (List.mem_of_getElem? (i := 12) rfl))) Via.refl e1 F1 (g := (mkF m 8 #[.val (.ref a1), .val (.ref a2), .val (.double acc), .second, .val (.int (Int32.ofNat i))] [(.ref a1), (.int (Int32.ofNat i))])) rfl rfl (hb hby d3_8)
      refine go (T23.setTop (mkF m 11 #[.val (.ref a1), .val (.ref a2), .val (.double acc), .second, .val (.int (Int32.ofNat i))] [(.ref b), (.int (Int32.ofNat i))])) _ (fun t9 k9 => st23 _ k9) ?_
      obtain ⟨cl24, Ar24, Sz24, Hv24⟩ := Vb
      have u25 : own_A Z h0 b .int n (fun j => .int (B j)) := ⟨cl24, Ar24, Sz24, Hv24⟩
      refine go (T23.setTop (mkF m 17 #[.val (.ref a1), .val (.ref a2), .val (.double acc), .second, .val (.int (Int32.ofNat i))] [(.ref a1), (.double acc)])) _ (fun t9 k9 => ?_) ?_
      · show Steps p.tables e below (T23.setTop (mkF m 11 #[.val (.ref a1), .val (.ref a2), .val (.double acc), .second, .val (.int (Int32.ofNat i))] [(.ref b), (.int (Int32.ofNat i))])) _
        refine X23.arraylength hx (by rw [e23]; exact Ar24.1) (State.isArrayOf_alike hZ.alike Ar24.2.1) (g := (mkF m 11 #[.val (.ref a1), .val (.ref a2), .val (.double acc), .second, .val (.int (Int32.ofNat i))] [(.ref b), (.int (Int32.ofNat i))])) rfl (rest := [(.int (Int32.ofNat i))]) rfl (hb hby d3_11) _ ?_
        rw [len_of (Sz24.trans (own_n32 (by omega : n ≤ 4)).symm) (own_nn (by omega))]
        show Steps p.tables e below (T23.setTop (mkF m 12 #[.val (.ref a1), .val (.ref a2), .val (.double acc), .second, .val (.int (Int32.ofNat i))] [(.int (Int32.ofNat n)), (.int (Int32.ofNat i))])) _
        refine XS.icmpNo X23.here hx rfl (hb hby d3_12) rfl (tlt (XT.lt32 (by omega) (by omega) : Int32.ofNat i < Int32.ofNat n)).2.1 ?_
        show Steps p.tables e below (T23.setTop (mkF m 15 #[.val (.ref a1), .val (.ref a2), .val (.double acc), .second, .val (.int (Int32.ofNat i))] [])) _
        refine XS.dloadN X23.here hx rfl (hb hby d3_15) rfl ?_
        show Steps p.tables e below (T23.setTop (mkF m 16 #[.val (.ref a1), .val (.ref a2), .val (.double acc), .second, .val (.int (Int32.ofNat i))] [(.double acc)])) _
        refine XS.aloadN X23.here hx rfl (hb hby d3_16) rfl rfl ?_
        exact k9
      obtain ⟨T26, X26, e26, st26⟩ := getF X23 hx hZ hown (host := "") (Or.inl (hw _ (List.mem_of_getElem? (i := 14) rfl))) Via.refl e23 F2 (g := (mkF m 17 #[.val (.ref a1), .val (.ref a2), .val (.double acc), .second, .val (.int (Int32.ofNat i))] [(.ref a1), (.double acc)])) rfl rfl (hb hby d3_17)
      refine go (T26.setTop (mkF m 20 #[.val (.ref a1), .val (.ref a2), .val (.double acc), .second, .val (.int (Int32.ofNat i))] [(.ref en), (.double acc)])) _ (fun t9 k9 => st26 _ k9) ?_
      refine go (T26.setTop (mkF m 22 #[.val (.ref a1), .val (.ref a2), .val (.double acc), .second, .val (.int (Int32.ofNat i))] [(.int (Int32.ofNat i)), (.ref en), (.double acc)])) _ (fun t9 k9 => ?_) ?_
      · show Steps p.tables e below (T26.setTop (mkF m 20 #[.val (.ref a1), .val (.ref a2), .val (.double acc), .second, .val (.int (Int32.ofNat i))] [(.ref en), (.double acc)])) _
        refine XS.iload X26.here hx rfl (hb hby d3_20) rfl ?_
        exact k9
      have hii : (Int32.ofNat i).toNatClampNeg = i := own_n32 (by omega)
      obtain ⟨cl27, Ar27, Sz27, Hv27⟩ := Ve
      have u28 : own_A Z h0 en .double 4 (fun j => .double (FP.i2d (E j))) := ⟨cl27, Ar27, Sz27, Hv27⟩
      refine go (T26.setTop (mkF m 25 #[.val (.ref a1), .val (.ref a2), .val (.double acc), .second, .val (.int (Int32.ofNat i))] [(.ref a1), (.ref a2), (.double (FP.i2d (E i))), (.double acc)])) _ (fun t9 k9 => ?_) ?_
      · show Steps p.tables e below (T26.setTop (mkF m 22 #[.val (.ref a1), .val (.ref a2), .val (.double acc), .second, .val (.int (Int32.ofNat i))] [(.int (Int32.ofNat i)), (.ref en), (.double acc)])) _
        refine X26.daload hx (j := (Int32.ofNat i)) (v := (.double (FP.i2d (E i)))) (by rw [e26]; exact Ar27.1) (State.isArrayOf_alike hZ.alike Ar27.2.1) Ar27.2.2 (own_hin Sz27 (own_nn (by omega)) (show (Int32.ofNat i).toNatClampNeg < 4 by rw [hii]; omega)) ((Hv27 _ (show (Int32.ofNat i).toNatClampNeg < 4 by rw [hii]; omega)).trans (congrArg some (congrArg (fun j => Value.double (FP.i2d (E j))) hii))) (g := (mkF m 22 #[.val (.ref a1), .val (.ref a2), .val (.double acc), .second, .val (.int (Int32.ofNat i))] [(.int (Int32.ofNat i)), (.ref en), (.double acc)])) rfl rfl (hb hby d3_22) _ ?_
        show Steps p.tables e below (T26.setTop (mkF m 23 #[.val (.ref a1), .val (.ref a2), .val (.double acc), .second, .val (.int (Int32.ofNat i))] [(.double (FP.i2d (E i))), (.double acc)])) _
        refine XS.aloadN X26.here hx rfl (hb hby d3_23) rfl rfl ?_
        show Steps p.tables e below (T26.setTop (mkF m 24 #[.val (.ref a1), .val (.ref a2), .val (.double acc), .second, .val (.int (Int32.ofNat i))] [(.ref a2), (.double (FP.i2d (E i))), (.double acc)])) _
        refine XS.aloadN X26.here hx rfl (hb hby d3_24) rfl rfl ?_
        exact k9
      obtain ⟨T29, X29, e29, st29⟩ := getF X26 hx hZ hown (host := "") (Or.inl (hw _ (List.mem_of_getElem? (i := 12) rfl))) Via.refl e26 F1 (g := (mkF m 25 #[.val (.ref a1), .val (.ref a2), .val (.double acc), .second, .val (.int (Int32.ofNat i))] [(.ref a1), (.ref a2), (.double (FP.i2d (E i))), (.double acc)])) rfl rfl (hb hby d3_25)
      refine go (T29.setTop (mkF m 28 #[.val (.ref a1), .val (.ref a2), .val (.double acc), .second, .val (.int (Int32.ofNat i))] [(.ref b), (.ref a2), (.double (FP.i2d (E i))), (.double acc)])) _ (fun t9 k9 => st29 _ k9) ?_
      refine go (T29.setTop (mkF m 30 #[.val (.ref a1), .val (.ref a2), .val (.double acc), .second, .val (.int (Int32.ofNat i))] [(.int (Int32.ofNat i)), (.ref b), (.ref a2), (.double (FP.i2d (E i))), (.double acc)])) _ (fun t9 k9 => ?_) ?_
      · show Steps p.tables e below (T29.setTop (mkF m 28 #[.val (.ref a1), .val (.ref a2), .val (.double acc), .second, .val (.int (Int32.ofNat i))] [(.ref b), (.ref a2), (.double (FP.i2d (E i))), (.double acc)])) _
        refine XS.iload X29.here hx rfl (hb hby d3_28) rfl ?_
        exact k9
      obtain ⟨cl30, Ar30, Sz30, Hv30⟩ := u25
      have u31 : own_A Z h0 b .int n (fun j => .int (B j)) := ⟨cl30, Ar30, Sz30, Hv30⟩
      refine go (T29.setTop (mkF m 31 #[.val (.ref a1), .val (.ref a2), .val (.double acc), .second, .val (.int (Int32.ofNat i))] [(.int (B i)), (.ref a2), (.double (FP.i2d (E i))), (.double acc)])) _ (fun t9 k9 => ?_) ?_
      · show Steps p.tables e below (T29.setTop (mkF m 30 #[.val (.ref a1), .val (.ref a2), .val (.double acc), .second, .val (.int (Int32.ofNat i))] [(.int (Int32.ofNat i)), (.ref b), (.ref a2), (.double (FP.i2d (E i))), (.double acc)])) _
        refine X29.iaload hx (j := (Int32.ofNat i)) (v := (.int (B i))) (by rw [e29]; exact Ar30.1) (State.isArrayOf_alike hZ.alike Ar30.2.1) Ar30.2.2 (own_hin Sz30 (own_nn (by omega)) (show (Int32.ofNat i).toNatClampNeg < n by rw [hii]; omega)) ((Hv30 _ (show (Int32.ofNat i).toNatClampNeg < n by rw [hii]; omega)).trans (congrArg some (congrArg (fun j => Value.int (B j)) hii))) (g := (mkF m 30 #[.val (.ref a1), .val (.ref a2), .val (.double acc), .second, .val (.int (Int32.ofNat i))] [(.int (Int32.ofNat i)), (.ref b), (.ref a2), (.double (FP.i2d (E i))), (.double acc)])) rfl rfl (hb hby d3_30) _ ?_
        exact k9
      obtain ⟨cl32, Ar32, Sz32, Hv32⟩ := Vs
      have u33 : own_A Z h0 a2 .double 4 (fun j => .double (FP.i2d (S j))) := ⟨cl32, Ar32, Sz32, Hv32⟩
      refine go (T29.setTop (mkF m 32 #[.val (.ref a1), .val (.ref a2), .val (.double acc), .second, .val (.int (Int32.ofNat i))] [(.double (FP.i2d (S (B i).toNatClampNeg))), (.double (FP.i2d (E i))), (.double acc)])) _ (fun t9 k9 => ?_) ?_
      · show Steps p.tables e below (T29.setTop (mkF m 31 #[.val (.ref a1), .val (.ref a2), .val (.double acc), .second, .val (.int (Int32.ofNat i))] [(.int (B i)), (.ref a2), (.double (FP.i2d (E i))), (.double acc)])) _
        refine X29.daload hx (j := (B i)) (v := (.double (FP.i2d (S (B i).toNatClampNeg)))) (by rw [e29]; exact Ar32.1) (State.isArrayOf_alike hZ.alike Ar32.2.1) Ar32.2.2 (own_hin Sz32 (hB i).1 (hB i).2) ((Hv32 _ (hB i).2).trans (congrArg some (rfl))) (g := (mkF m 31 #[.val (.ref a1), .val (.ref a2), .val (.double acc), .second, .val (.int (Int32.ofNat i))] [(.int (B i)), (.ref a2), (.double (FP.i2d (E i))), (.double acc)])) rfl rfl (hb hby d3_31) _ ?_
        exact k9
      have bd := own_tot_bd (B := B) hE hS i
      have pb := own_prod (hE i).1 (hE i).2 (hS (B i).toNatClampNeg).1 (hS (B i).toNatClampNeg).2
      have dp : FP.Core.DInt ((E i).toInt * (S (B i).toNatClampNeg).toInt) (FP.dmul (FP.i2d (E i)) (FP.i2d (S (B i).toNatClampNeg))) := FP.Core.dmul_int (FP.Core.i2d_int _) (FP.Core.i2d_int _) (by omega)
      have ds : FP.Core.DInt (own_tot E S B (i + 1)) (FP.dadd acc (FP.dmul (FP.i2d (E i)) (FP.i2d (S (B i).toNatClampNeg)))) := FP.Core.dadd_int hacc dp (by omega)
      refine go (T29.setTop (mkF m 5 #[.val (.ref a1), .val (.ref a2), .val (.double (FP.dadd acc (FP.dmul (FP.i2d (E i)) (FP.i2d (S (B i).toNatClampNeg))))), .second, .val (.int ((Int32.ofNat i) + (1 : Int32)))] [])) _ (fun t9 k9 => ?_) ?_
      · show Steps p.tables e below (T29.setTop (mkF m 32 #[.val (.ref a1), .val (.ref a2), .val (.double acc), .second, .val (.int (Int32.ofNat i))] [(.double (FP.i2d (S (B i).toNatClampNeg))), (.double (FP.i2d (E i))), (.double acc)])) _
        refine XS.dmulS X29.here hx rfl (hb hby d3_32) rfl (own_int_nn dp) rfl ?_
        show Steps p.tables e below (T29.setTop (mkF m 33 #[.val (.ref a1), .val (.ref a2), .val (.double acc), .second, .val (.int (Int32.ofNat i))] [(.double (FP.dmul (FP.i2d (E i)) (FP.i2d (S (B i).toNatClampNeg)))), (.double acc)])) _
        refine XS.daddS X29.here hx rfl (hb hby d3_33) rfl (own_int_nn ds) rfl ?_
        show Steps p.tables e below (T29.setTop (mkF m 34 #[.val (.ref a1), .val (.ref a2), .val (.double acc), .second, .val (.int (Int32.ofNat i))] [(.double (FP.dadd acc (FP.dmul (FP.i2d (E i)) (FP.i2d (S (B i).toNatClampNeg)))))])) _
        refine XS.dstoreN X29.here hx rfl (hb hby d3_34) rfl (l' := #[.val (.ref a1), .val (.ref a2), .val (.double (FP.dadd acc (FP.dmul (FP.i2d (E i)) (FP.i2d (S (B i).toNatClampNeg))))), .second, .val (.int (Int32.ofNat i))]) rfl ?_
        show Steps p.tables e below (T29.setTop (mkF m 35 #[.val (.ref a1), .val (.ref a2), .val (.double (FP.dadd acc (FP.dmul (FP.i2d (E i)) (FP.i2d (S (B i).toNatClampNeg))))), .second, .val (.int (Int32.ofNat i))] [])) _
        refine XS.iinc X29.here hx rfl (hb hby d3_35) rfl (l' := #[.val (.ref a1), .val (.ref a2), .val (.double (FP.dadd acc (FP.dmul (FP.i2d (E i)) (FP.i2d (S (B i).toNatClampNeg))))), .second, .val (.int ((Int32.ofNat i) + (1 : Int32)))]) rfl ?_
        show Steps p.tables e below (T29.setTop (mkF m 38 #[.val (.ref a1), .val (.ref a2), .val (.double (FP.dadd acc (FP.dmul (FP.i2d (E i)) (FP.i2d (S (B i).toNatClampNeg))))), .second, .val (.int ((Int32.ofNat i) + (1 : Int32)))] [])) _
        refine XS.goto X29.here hx rfl (pc0 := 38) (pc' := 5) rfl (hb hby d3_38) (by decide) (by decide) ?_
        exact k9
      rw [XT.succ32]
      exact ih (i + 1) _ T29 X29 e29 (by omega) ds
  exact loop n 0 _ s₁ X0 e0 (by omega) own_int0
def Q0 (Z : State) (p1 p2 p3 p4 : Int32) (h0 : Heap) (n0 : Nat) (v : Option Value) (h : Heap) (L : List Loc) : Prop := v = some (.int 1) ∧ Fr n0 L
set_option maxRecDepth 65536 in
set_option maxHeartbeats 40000000 in
theorem rm0 (l : Launch) (Z : State) (a0 : Array Value) (hw : ∀ d ∈ tables_1, d.before a0 Z = true) (ws : List Jvm.Cond) (p1 : Int32) (p2 : Int32) (p3 : Int32) (p4 : Int32)  (h0 : Heap) (n0 : Nat) (Z0 : n0 ≤ h0.size)  :
    MetFree l x (head1 (Jvm.Cond.code x code maxLocals ret :: ws) room_1) (fun a U => a = #[(.int p1), (.int p2), (.int p3), (.int p4)] ∧ Z.Warmed39 U.vm ∧ U.heap = h0) (fun _ _ _ _ _ => True) (fun _ U o U' => ∃ v L, o = .returned v ∧ Q0 Z p1 p2 p3 p4 h0 n0 v U'.heap L ∧ FrameEnd U o U' L room_1.cells room_1.slots) := by
  refine MetFree.of_bodySF (plainFor_of_name pn_com_example_sensebid_sensebid_mechanism_CoverRowSumPinLaw) hisR ?_
  intro p e s m args below meth c s₁ Bd hml0 hP hK
  obtain ⟨rfl, hZ, hh⟩ := hP
  have hx := Bd.exec
  have hby := Bd.bytes
  have hml : c.maxLocals = 24 := hml0
  have hown : s.vm.findClass "com/example/sensebid/sensebid/mechanism/CoverRowSumPinLaw" = some m.cls := findClass_of_methodNamed Bd.named
  have hnm := (name_of_methodNamed Bd.named Bd.method).1
  have X0 : Stand p l e room_1 s m #[(.int p1), (.int p2), (.int p3), (.int p4)] below meth c s₁ [] 0 0 := Stand.of_body Bd
  have e0 : s₁.heap = h0 := by rw [← hh, Bd.state]; rfl
  have N0 := Fr.nil n0
  refine own_open (fun G go fin => ?_)
  refine go (s₁.setTop (mkF m 0 #[.val (.int p1), .val (.int p2), .val (.int p3), .val (.int p4), .unset, .unset, .unset, .unset, .unset, .unset, .unset, .unset, .unset, .unset, .unset, .unset, .unset, .unset, .unset, .unset, .unset, .unset, .unset, .unset] [])) _ (fun t9 k9 => castTop (ef_0 m p1 p2 p3 p4) k9) ?_
  refine go (s₁.setTop (mkF m 6 #[.val (.int p1), .val (.int p2), .val (.int p3), .val (.int p4), .unset, .unset, .unset, .unset, .unset, .unset, .unset, .unset, .unset, .unset, .unset, .unset, .unset, .unset, .unset, .unset, .unset, .unset, .unset, .unset] [(.int ((p1 &&& (2147483647 : Int32)) % (5 : Int32)))])) _ (fun t9 k9 => ?_) ?_
  · show Steps p.tables e below (s₁.setTop (mkF m 0 #[.val (.int p1), .val (.int p2), .val (.int p3), .val (.int p4), .unset, .unset, .unset, .unset, .unset, .unset, .unset, .unset, .unset, .unset, .unset, .unset, .unset, .unset, .unset, .unset, .unset, .unset, .unset, .unset] [])) _
    refine XS.iloadN X0.here hx rfl (hb hby at_0) rfl ?_
    show Steps p.tables e below (s₁.setTop (mkF m 1 #[.val (.int p1), .val (.int p2), .val (.int p3), .val (.int p4), .unset, .unset, .unset, .unset, .unset, .unset, .unset, .unset, .unset, .unset, .unset, .unset, .unset, .unset, .unset, .unset, .unset, .unset, .unset, .unset] [(.int p1)])) _
    refine X0.ldcInt hx hown (mvT hZ (hw _ (List.mem_of_getElem? (i := 0) rfl))) (g := (mkF m 1 #[.val (.int p1), .val (.int p2), .val (.int p3), .val (.int p4), .unset, .unset, .unset, .unset, .unset, .unset, .unset, .unset, .unset, .unset, .unset, .unset, .unset, .unset, .unset, .unset, .unset, .unset, .unset, .unset] [(.int p1)])) rfl (hb hby at_1) _ ?_
    show Steps p.tables e below (s₁.setTop (mkF m 3 #[.val (.int p1), .val (.int p2), .val (.int p3), .val (.int p4), .unset, .unset, .unset, .unset, .unset, .unset, .unset, .unset, .unset, .unset, .unset, .unset, .unset, .unset, .unset, .unset, .unset, .unset, .unset, .unset] [(.int (2147483647 : Int32)), (.int p1)])) _
    refine XS.iand X0.here hx rfl (hb hby at_3) rfl ?_
    show Steps p.tables e below (s₁.setTop (mkF m 4 #[.val (.int p1), .val (.int p2), .val (.int p3), .val (.int p4), .unset, .unset, .unset, .unset, .unset, .unset, .unset, .unset, .unset, .unset, .unset, .unset, .unset, .unset, .unset, .unset, .unset, .unset, .unset, .unset] [(.int (p1 &&& (2147483647 : Int32)))])) _
    refine XS.iconst X0.here hx rfl (hb hby at_4) ?_
    show Steps p.tables e below (s₁.setTop (mkF m 5 #[.val (.int p1), .val (.int p2), .val (.int p3), .val (.int p4), .unset, .unset, .unset, .unset, .unset, .unset, .unset, .unset, .unset, .unset, .unset, .unset, .unset, .unset, .unset, .unset, .unset, .unset, .unset, .unset] [(.int (5 : Int32)), (.int (p1 &&& (2147483647 : Int32)))])) _
    refine iremM X0 hx rfl (hb hby at_5) rfl (by decide) ?_
    exact k9
  obtain ⟨k, hk, hnk⟩ := own_len p1
  rw [hnk]
  refine go (s₁.setTop (mkF m 85 #[.val (.int p1), .val (.int p2), .val (.int p3), .val (.int p4), .val (.int (Int32.ofNat k)), .val (.int (p2 &&& (3 : Int32))), .val (.int (((p2.toUInt32 >>> ((2 : Int32) &&& 31).toUInt32).toInt32) &&& (3 : Int32))), .val (.int (((p2.toUInt32 >>> ((4 : Int32) &&& 31).toUInt32).toInt32) &&& (3 : Int32))), .val (.int (((p2.toUInt32 >>> ((6 : Int32) &&& 31).toUInt32).toInt32) &&& (3 : Int32))), .val (.int (p3.toInt8.toInt32)), .val (.int ((p3 >>> ((8 : Int32) &&& 31)).toInt8.toInt32)), .val (.int ((p3 >>> ((16 : Int32) &&& 31)).toInt8.toInt32)), .val (.int ((p3 >>> ((24 : Int32) &&& 31)).toInt8.toInt32)), .val (.int (p4.toInt8.toInt32)), .val (.int ((p4 >>> ((8 : Int32) &&& 31)).toInt8.toInt32)), .val (.int ((p4 >>> ((16 : Int32) &&& 31)).toInt8.toInt32)), .val (.int ((p4 >>> ((24 : Int32) &&& 31)).toInt8.toInt32)), .unset, .unset, .unset, .unset, .unset, .unset, .unset] [])) _ (fun t9 k9 => ?_) ?_
  · show Steps p.tables e below (s₁.setTop (mkF m 6 #[.val (.int p1), .val (.int p2), .val (.int p3), .val (.int p4), .unset, .unset, .unset, .unset, .unset, .unset, .unset, .unset, .unset, .unset, .unset, .unset, .unset, .unset, .unset, .unset, .unset, .unset, .unset, .unset] [(.int (Int32.ofNat k))])) _
    refine XS.istore X0.here hx rfl (hb hby at_6) rfl (l' := #[.val (.int p1), .val (.int p2), .val (.int p3), .val (.int p4), .val (.int (Int32.ofNat k)), .unset, .unset, .unset, .unset, .unset, .unset, .unset, .unset, .unset, .unset, .unset, .unset, .unset, .unset, .unset, .unset, .unset, .unset, .unset]) rfl ?_
    show Steps p.tables e below (s₁.setTop (mkF m 8 #[.val (.int p1), .val (.int p2), .val (.int p3), .val (.int p4), .val (.int (Int32.ofNat k)), .unset, .unset, .unset, .unset, .unset, .unset, .unset, .unset, .unset, .unset, .unset, .unset, .unset, .unset, .unset, .unset, .unset, .unset, .unset] [])) _
    refine XS.iloadN X0.here hx rfl (hb hby at_8) rfl ?_
    show Steps p.tables e below (s₁.setTop (mkF m 9 #[.val (.int p1), .val (.int p2), .val (.int p3), .val (.int p4), .val (.int (Int32.ofNat k)), .unset, .unset, .unset, .unset, .unset, .unset, .unset, .unset, .unset, .unset, .unset, .unset, .unset, .unset, .unset, .unset, .unset, .unset, .unset] [(.int p2)])) _
    refine XS.iconst X0.here hx rfl (hb hby at_9) ?_
    show Steps p.tables e below (s₁.setTop (mkF m 10 #[.val (.int p1), .val (.int p2), .val (.int p3), .val (.int p4), .val (.int (Int32.ofNat k)), .unset, .unset, .unset, .unset, .unset, .unset, .unset, .unset, .unset, .unset, .unset, .unset, .unset, .unset, .unset, .unset, .unset, .unset, .unset] [(.int (3 : Int32)), (.int p2)])) _
    refine XS.iand X0.here hx rfl (hb hby at_10) rfl ?_
    show Steps p.tables e below (s₁.setTop (mkF m 11 #[.val (.int p1), .val (.int p2), .val (.int p3), .val (.int p4), .val (.int (Int32.ofNat k)), .unset, .unset, .unset, .unset, .unset, .unset, .unset, .unset, .unset, .unset, .unset, .unset, .unset, .unset, .unset, .unset, .unset, .unset, .unset] [(.int (p2 &&& (3 : Int32)))])) _
    refine XS.istore X0.here hx rfl (hb hby at_11) rfl (l' := #[.val (.int p1), .val (.int p2), .val (.int p3), .val (.int p4), .val (.int (Int32.ofNat k)), .val (.int (p2 &&& (3 : Int32))), .unset, .unset, .unset, .unset, .unset, .unset, .unset, .unset, .unset, .unset, .unset, .unset, .unset, .unset, .unset, .unset, .unset, .unset]) rfl ?_
    show Steps p.tables e below (s₁.setTop (mkF m 13 #[.val (.int p1), .val (.int p2), .val (.int p3), .val (.int p4), .val (.int (Int32.ofNat k)), .val (.int (p2 &&& (3 : Int32))), .unset, .unset, .unset, .unset, .unset, .unset, .unset, .unset, .unset, .unset, .unset, .unset, .unset, .unset, .unset, .unset, .unset, .unset] [])) _
    refine XS.iloadN X0.here hx rfl (hb hby at_13) rfl ?_
    show Steps p.tables e below (s₁.setTop (mkF m 14 #[.val (.int p1), .val (.int p2), .val (.int p3), .val (.int p4), .val (.int (Int32.ofNat k)), .val (.int (p2 &&& (3 : Int32))), .unset, .unset, .unset, .unset, .unset, .unset, .unset, .unset, .unset, .unset, .unset, .unset, .unset, .unset, .unset, .unset, .unset, .unset] [(.int p2)])) _
    refine XS.iconst X0.here hx rfl (hb hby at_14) ?_
    show Steps p.tables e below (s₁.setTop (mkF m 15 #[.val (.int p1), .val (.int p2), .val (.int p3), .val (.int p4), .val (.int (Int32.ofNat k)), .val (.int (p2 &&& (3 : Int32))), .unset, .unset, .unset, .unset, .unset, .unset, .unset, .unset, .unset, .unset, .unset, .unset, .unset, .unset, .unset, .unset, .unset, .unset] [(.int (2 : Int32)), (.int p2)])) _
    refine XS.iushr X0.here hx rfl (hb hby at_15) rfl ?_
    show Steps p.tables e below (s₁.setTop (mkF m 16 #[.val (.int p1), .val (.int p2), .val (.int p3), .val (.int p4), .val (.int (Int32.ofNat k)), .val (.int (p2 &&& (3 : Int32))), .unset, .unset, .unset, .unset, .unset, .unset, .unset, .unset, .unset, .unset, .unset, .unset, .unset, .unset, .unset, .unset, .unset, .unset] [(.int ((p2.toUInt32 >>> ((2 : Int32) &&& 31).toUInt32).toInt32))])) _
    refine XS.iconst X0.here hx rfl (hb hby at_16) ?_
    show Steps p.tables e below (s₁.setTop (mkF m 17 #[.val (.int p1), .val (.int p2), .val (.int p3), .val (.int p4), .val (.int (Int32.ofNat k)), .val (.int (p2 &&& (3 : Int32))), .unset, .unset, .unset, .unset, .unset, .unset, .unset, .unset, .unset, .unset, .unset, .unset, .unset, .unset, .unset, .unset, .unset, .unset] [(.int (3 : Int32)), (.int ((p2.toUInt32 >>> ((2 : Int32) &&& 31).toUInt32).toInt32))])) _
    refine XS.iand X0.here hx rfl (hb hby at_17) rfl ?_
    show Steps p.tables e below (s₁.setTop (mkF m 18 #[.val (.int p1), .val (.int p2), .val (.int p3), .val (.int p4), .val (.int (Int32.ofNat k)), .val (.int (p2 &&& (3 : Int32))), .unset, .unset, .unset, .unset, .unset, .unset, .unset, .unset, .unset, .unset, .unset, .unset, .unset, .unset, .unset, .unset, .unset, .unset] [(.int (((p2.toUInt32 >>> ((2 : Int32) &&& 31).toUInt32).toInt32) &&& (3 : Int32)))])) _
    refine XS.istore X0.here hx rfl (hb hby at_18) rfl (l' := #[.val (.int p1), .val (.int p2), .val (.int p3), .val (.int p4), .val (.int (Int32.ofNat k)), .val (.int (p2 &&& (3 : Int32))), .val (.int (((p2.toUInt32 >>> ((2 : Int32) &&& 31).toUInt32).toInt32) &&& (3 : Int32))), .unset, .unset, .unset, .unset, .unset, .unset, .unset, .unset, .unset, .unset, .unset, .unset, .unset, .unset, .unset, .unset, .unset]) rfl ?_
    show Steps p.tables e below (s₁.setTop (mkF m 20 #[.val (.int p1), .val (.int p2), .val (.int p3), .val (.int p4), .val (.int (Int32.ofNat k)), .val (.int (p2 &&& (3 : Int32))), .val (.int (((p2.toUInt32 >>> ((2 : Int32) &&& 31).toUInt32).toInt32) &&& (3 : Int32))), .unset, .unset, .unset, .unset, .unset, .unset, .unset, .unset, .unset, .unset, .unset, .unset, .unset, .unset, .unset, .unset, .unset] [])) _
    refine XS.iloadN X0.here hx rfl (hb hby at_20) rfl ?_
    show Steps p.tables e below (s₁.setTop (mkF m 21 #[.val (.int p1), .val (.int p2), .val (.int p3), .val (.int p4), .val (.int (Int32.ofNat k)), .val (.int (p2 &&& (3 : Int32))), .val (.int (((p2.toUInt32 >>> ((2 : Int32) &&& 31).toUInt32).toInt32) &&& (3 : Int32))), .unset, .unset, .unset, .unset, .unset, .unset, .unset, .unset, .unset, .unset, .unset, .unset, .unset, .unset, .unset, .unset, .unset] [(.int p2)])) _
    refine XS.iconst X0.here hx rfl (hb hby at_21) ?_
    show Steps p.tables e below (s₁.setTop (mkF m 22 #[.val (.int p1), .val (.int p2), .val (.int p3), .val (.int p4), .val (.int (Int32.ofNat k)), .val (.int (p2 &&& (3 : Int32))), .val (.int (((p2.toUInt32 >>> ((2 : Int32) &&& 31).toUInt32).toInt32) &&& (3 : Int32))), .unset, .unset, .unset, .unset, .unset, .unset, .unset, .unset, .unset, .unset, .unset, .unset, .unset, .unset, .unset, .unset, .unset] [(.int (4 : Int32)), (.int p2)])) _
    refine XS.iushr X0.here hx rfl (hb hby at_22) rfl ?_
    show Steps p.tables e below (s₁.setTop (mkF m 23 #[.val (.int p1), .val (.int p2), .val (.int p3), .val (.int p4), .val (.int (Int32.ofNat k)), .val (.int (p2 &&& (3 : Int32))), .val (.int (((p2.toUInt32 >>> ((2 : Int32) &&& 31).toUInt32).toInt32) &&& (3 : Int32))), .unset, .unset, .unset, .unset, .unset, .unset, .unset, .unset, .unset, .unset, .unset, .unset, .unset, .unset, .unset, .unset, .unset] [(.int ((p2.toUInt32 >>> ((4 : Int32) &&& 31).toUInt32).toInt32))])) _
    refine XS.iconst X0.here hx rfl (hb hby at_23) ?_
    show Steps p.tables e below (s₁.setTop (mkF m 24 #[.val (.int p1), .val (.int p2), .val (.int p3), .val (.int p4), .val (.int (Int32.ofNat k)), .val (.int (p2 &&& (3 : Int32))), .val (.int (((p2.toUInt32 >>> ((2 : Int32) &&& 31).toUInt32).toInt32) &&& (3 : Int32))), .unset, .unset, .unset, .unset, .unset, .unset, .unset, .unset, .unset, .unset, .unset, .unset, .unset, .unset, .unset, .unset, .unset] [(.int (3 : Int32)), (.int ((p2.toUInt32 >>> ((4 : Int32) &&& 31).toUInt32).toInt32))])) _
    refine XS.iand X0.here hx rfl (hb hby at_24) rfl ?_
    show Steps p.tables e below (s₁.setTop (mkF m 25 #[.val (.int p1), .val (.int p2), .val (.int p3), .val (.int p4), .val (.int (Int32.ofNat k)), .val (.int (p2 &&& (3 : Int32))), .val (.int (((p2.toUInt32 >>> ((2 : Int32) &&& 31).toUInt32).toInt32) &&& (3 : Int32))), .unset, .unset, .unset, .unset, .unset, .unset, .unset, .unset, .unset, .unset, .unset, .unset, .unset, .unset, .unset, .unset, .unset] [(.int (((p2.toUInt32 >>> ((4 : Int32) &&& 31).toUInt32).toInt32) &&& (3 : Int32)))])) _
    refine XS.istore X0.here hx rfl (hb hby at_25) rfl (l' := #[.val (.int p1), .val (.int p2), .val (.int p3), .val (.int p4), .val (.int (Int32.ofNat k)), .val (.int (p2 &&& (3 : Int32))), .val (.int (((p2.toUInt32 >>> ((2 : Int32) &&& 31).toUInt32).toInt32) &&& (3 : Int32))), .val (.int (((p2.toUInt32 >>> ((4 : Int32) &&& 31).toUInt32).toInt32) &&& (3 : Int32))), .unset, .unset, .unset, .unset, .unset, .unset, .unset, .unset, .unset, .unset, .unset, .unset, .unset, .unset, .unset, .unset]) rfl ?_
    show Steps p.tables e below (s₁.setTop (mkF m 27 #[.val (.int p1), .val (.int p2), .val (.int p3), .val (.int p4), .val (.int (Int32.ofNat k)), .val (.int (p2 &&& (3 : Int32))), .val (.int (((p2.toUInt32 >>> ((2 : Int32) &&& 31).toUInt32).toInt32) &&& (3 : Int32))), .val (.int (((p2.toUInt32 >>> ((4 : Int32) &&& 31).toUInt32).toInt32) &&& (3 : Int32))), .unset, .unset, .unset, .unset, .unset, .unset, .unset, .unset, .unset, .unset, .unset, .unset, .unset, .unset, .unset, .unset] [])) _
    refine XS.iloadN X0.here hx rfl (hb hby at_27) rfl ?_
    show Steps p.tables e below (s₁.setTop (mkF m 28 #[.val (.int p1), .val (.int p2), .val (.int p3), .val (.int p4), .val (.int (Int32.ofNat k)), .val (.int (p2 &&& (3 : Int32))), .val (.int (((p2.toUInt32 >>> ((2 : Int32) &&& 31).toUInt32).toInt32) &&& (3 : Int32))), .val (.int (((p2.toUInt32 >>> ((4 : Int32) &&& 31).toUInt32).toInt32) &&& (3 : Int32))), .unset, .unset, .unset, .unset, .unset, .unset, .unset, .unset, .unset, .unset, .unset, .unset, .unset, .unset, .unset, .unset] [(.int p2)])) _
    refine XS.bipush X0.here hx rfl (hb hby at_28) ?_
    show Steps p.tables e below (s₁.setTop (mkF m 30 #[.val (.int p1), .val (.int p2), .val (.int p3), .val (.int p4), .val (.int (Int32.ofNat k)), .val (.int (p2 &&& (3 : Int32))), .val (.int (((p2.toUInt32 >>> ((2 : Int32) &&& 31).toUInt32).toInt32) &&& (3 : Int32))), .val (.int (((p2.toUInt32 >>> ((4 : Int32) &&& 31).toUInt32).toInt32) &&& (3 : Int32))), .unset, .unset, .unset, .unset, .unset, .unset, .unset, .unset, .unset, .unset, .unset, .unset, .unset, .unset, .unset, .unset] [(.int (6 : Int32)), (.int p2)])) _
    refine XS.iushr X0.here hx rfl (hb hby at_30) rfl ?_
    show Steps p.tables e below (s₁.setTop (mkF m 31 #[.val (.int p1), .val (.int p2), .val (.int p3), .val (.int p4), .val (.int (Int32.ofNat k)), .val (.int (p2 &&& (3 : Int32))), .val (.int (((p2.toUInt32 >>> ((2 : Int32) &&& 31).toUInt32).toInt32) &&& (3 : Int32))), .val (.int (((p2.toUInt32 >>> ((4 : Int32) &&& 31).toUInt32).toInt32) &&& (3 : Int32))), .unset, .unset, .unset, .unset, .unset, .unset, .unset, .unset, .unset, .unset, .unset, .unset, .unset, .unset, .unset, .unset] [(.int ((p2.toUInt32 >>> ((6 : Int32) &&& 31).toUInt32).toInt32))])) _
    refine XS.iconst X0.here hx rfl (hb hby at_31) ?_
    show Steps p.tables e below (s₁.setTop (mkF m 32 #[.val (.int p1), .val (.int p2), .val (.int p3), .val (.int p4), .val (.int (Int32.ofNat k)), .val (.int (p2 &&& (3 : Int32))), .val (.int (((p2.toUInt32 >>> ((2 : Int32) &&& 31).toUInt32).toInt32) &&& (3 : Int32))), .val (.int (((p2.toUInt32 >>> ((4 : Int32) &&& 31).toUInt32).toInt32) &&& (3 : Int32))), .unset, .unset, .unset, .unset, .unset, .unset, .unset, .unset, .unset, .unset, .unset, .unset, .unset, .unset, .unset, .unset] [(.int (3 : Int32)), (.int ((p2.toUInt32 >>> ((6 : Int32) &&& 31).toUInt32).toInt32))])) _
    refine XS.iand X0.here hx rfl (hb hby at_32) rfl ?_
    show Steps p.tables e below (s₁.setTop (mkF m 33 #[.val (.int p1), .val (.int p2), .val (.int p3), .val (.int p4), .val (.int (Int32.ofNat k)), .val (.int (p2 &&& (3 : Int32))), .val (.int (((p2.toUInt32 >>> ((2 : Int32) &&& 31).toUInt32).toInt32) &&& (3 : Int32))), .val (.int (((p2.toUInt32 >>> ((4 : Int32) &&& 31).toUInt32).toInt32) &&& (3 : Int32))), .unset, .unset, .unset, .unset, .unset, .unset, .unset, .unset, .unset, .unset, .unset, .unset, .unset, .unset, .unset, .unset] [(.int (((p2.toUInt32 >>> ((6 : Int32) &&& 31).toUInt32).toInt32) &&& (3 : Int32)))])) _
    refine XS.istore X0.here hx rfl (hb hby at_33) rfl (l' := #[.val (.int p1), .val (.int p2), .val (.int p3), .val (.int p4), .val (.int (Int32.ofNat k)), .val (.int (p2 &&& (3 : Int32))), .val (.int (((p2.toUInt32 >>> ((2 : Int32) &&& 31).toUInt32).toInt32) &&& (3 : Int32))), .val (.int (((p2.toUInt32 >>> ((4 : Int32) &&& 31).toUInt32).toInt32) &&& (3 : Int32))), .val (.int (((p2.toUInt32 >>> ((6 : Int32) &&& 31).toUInt32).toInt32) &&& (3 : Int32))), .unset, .unset, .unset, .unset, .unset, .unset, .unset, .unset, .unset, .unset, .unset, .unset, .unset, .unset, .unset]) rfl ?_
    show Steps p.tables e below (s₁.setTop (mkF m 35 #[.val (.int p1), .val (.int p2), .val (.int p3), .val (.int p4), .val (.int (Int32.ofNat k)), .val (.int (p2 &&& (3 : Int32))), .val (.int (((p2.toUInt32 >>> ((2 : Int32) &&& 31).toUInt32).toInt32) &&& (3 : Int32))), .val (.int (((p2.toUInt32 >>> ((4 : Int32) &&& 31).toUInt32).toInt32) &&& (3 : Int32))), .val (.int (((p2.toUInt32 >>> ((6 : Int32) &&& 31).toUInt32).toInt32) &&& (3 : Int32))), .unset, .unset, .unset, .unset, .unset, .unset, .unset, .unset, .unset, .unset, .unset, .unset, .unset, .unset, .unset] [])) _
    refine XS.iloadN X0.here hx rfl (hb hby at_35) rfl ?_
    show Steps p.tables e below (s₁.setTop (mkF m 36 #[.val (.int p1), .val (.int p2), .val (.int p3), .val (.int p4), .val (.int (Int32.ofNat k)), .val (.int (p2 &&& (3 : Int32))), .val (.int (((p2.toUInt32 >>> ((2 : Int32) &&& 31).toUInt32).toInt32) &&& (3 : Int32))), .val (.int (((p2.toUInt32 >>> ((4 : Int32) &&& 31).toUInt32).toInt32) &&& (3 : Int32))), .val (.int (((p2.toUInt32 >>> ((6 : Int32) &&& 31).toUInt32).toInt32) &&& (3 : Int32))), .unset, .unset, .unset, .unset, .unset, .unset, .unset, .unset, .unset, .unset, .unset, .unset, .unset, .unset, .unset] [(.int p3)])) _
    refine XS.i2b X0.here hx rfl (hb hby at_36) rfl ?_
    show Steps p.tables e below (s₁.setTop (mkF m 37 #[.val (.int p1), .val (.int p2), .val (.int p3), .val (.int p4), .val (.int (Int32.ofNat k)), .val (.int (p2 &&& (3 : Int32))), .val (.int (((p2.toUInt32 >>> ((2 : Int32) &&& 31).toUInt32).toInt32) &&& (3 : Int32))), .val (.int (((p2.toUInt32 >>> ((4 : Int32) &&& 31).toUInt32).toInt32) &&& (3 : Int32))), .val (.int (((p2.toUInt32 >>> ((6 : Int32) &&& 31).toUInt32).toInt32) &&& (3 : Int32))), .unset, .unset, .unset, .unset, .unset, .unset, .unset, .unset, .unset, .unset, .unset, .unset, .unset, .unset, .unset] [(.int (p3.toInt8.toInt32))])) _
    refine XS.istore X0.here hx rfl (hb hby at_37) rfl (l' := #[.val (.int p1), .val (.int p2), .val (.int p3), .val (.int p4), .val (.int (Int32.ofNat k)), .val (.int (p2 &&& (3 : Int32))), .val (.int (((p2.toUInt32 >>> ((2 : Int32) &&& 31).toUInt32).toInt32) &&& (3 : Int32))), .val (.int (((p2.toUInt32 >>> ((4 : Int32) &&& 31).toUInt32).toInt32) &&& (3 : Int32))), .val (.int (((p2.toUInt32 >>> ((6 : Int32) &&& 31).toUInt32).toInt32) &&& (3 : Int32))), .val (.int (p3.toInt8.toInt32)), .unset, .unset, .unset, .unset, .unset, .unset, .unset, .unset, .unset, .unset, .unset, .unset, .unset, .unset]) rfl ?_
    show Steps p.tables e below (s₁.setTop (mkF m 39 #[.val (.int p1), .val (.int p2), .val (.int p3), .val (.int p4), .val (.int (Int32.ofNat k)), .val (.int (p2 &&& (3 : Int32))), .val (.int (((p2.toUInt32 >>> ((2 : Int32) &&& 31).toUInt32).toInt32) &&& (3 : Int32))), .val (.int (((p2.toUInt32 >>> ((4 : Int32) &&& 31).toUInt32).toInt32) &&& (3 : Int32))), .val (.int (((p2.toUInt32 >>> ((6 : Int32) &&& 31).toUInt32).toInt32) &&& (3 : Int32))), .val (.int (p3.toInt8.toInt32)), .unset, .unset, .unset, .unset, .unset, .unset, .unset, .unset, .unset, .unset, .unset, .unset, .unset, .unset] [])) _
    refine XS.iloadN X0.here hx rfl (hb hby at_39) rfl ?_
    show Steps p.tables e below (s₁.setTop (mkF m 40 #[.val (.int p1), .val (.int p2), .val (.int p3), .val (.int p4), .val (.int (Int32.ofNat k)), .val (.int (p2 &&& (3 : Int32))), .val (.int (((p2.toUInt32 >>> ((2 : Int32) &&& 31).toUInt32).toInt32) &&& (3 : Int32))), .val (.int (((p2.toUInt32 >>> ((4 : Int32) &&& 31).toUInt32).toInt32) &&& (3 : Int32))), .val (.int (((p2.toUInt32 >>> ((6 : Int32) &&& 31).toUInt32).toInt32) &&& (3 : Int32))), .val (.int (p3.toInt8.toInt32)), .unset, .unset, .unset, .unset, .unset, .unset, .unset, .unset, .unset, .unset, .unset, .unset, .unset, .unset] [(.int p3)])) _
    refine XS.bipush X0.here hx rfl (hb hby at_40) ?_
    show Steps p.tables e below (s₁.setTop (mkF m 42 #[.val (.int p1), .val (.int p2), .val (.int p3), .val (.int p4), .val (.int (Int32.ofNat k)), .val (.int (p2 &&& (3 : Int32))), .val (.int (((p2.toUInt32 >>> ((2 : Int32) &&& 31).toUInt32).toInt32) &&& (3 : Int32))), .val (.int (((p2.toUInt32 >>> ((4 : Int32) &&& 31).toUInt32).toInt32) &&& (3 : Int32))), .val (.int (((p2.toUInt32 >>> ((6 : Int32) &&& 31).toUInt32).toInt32) &&& (3 : Int32))), .val (.int (p3.toInt8.toInt32)), .unset, .unset, .unset, .unset, .unset, .unset, .unset, .unset, .unset, .unset, .unset, .unset, .unset, .unset] [(.int (8 : Int32)), (.int p3)])) _
    refine XS.ishr X0.here hx rfl (hb hby at_42) rfl ?_
    show Steps p.tables e below (s₁.setTop (mkF m 43 #[.val (.int p1), .val (.int p2), .val (.int p3), .val (.int p4), .val (.int (Int32.ofNat k)), .val (.int (p2 &&& (3 : Int32))), .val (.int (((p2.toUInt32 >>> ((2 : Int32) &&& 31).toUInt32).toInt32) &&& (3 : Int32))), .val (.int (((p2.toUInt32 >>> ((4 : Int32) &&& 31).toUInt32).toInt32) &&& (3 : Int32))), .val (.int (((p2.toUInt32 >>> ((6 : Int32) &&& 31).toUInt32).toInt32) &&& (3 : Int32))), .val (.int (p3.toInt8.toInt32)), .unset, .unset, .unset, .unset, .unset, .unset, .unset, .unset, .unset, .unset, .unset, .unset, .unset, .unset] [(.int (p3 >>> ((8 : Int32) &&& 31)))])) _
    refine XS.i2b X0.here hx rfl (hb hby at_43) rfl ?_
    show Steps p.tables e below (s₁.setTop (mkF m 44 #[.val (.int p1), .val (.int p2), .val (.int p3), .val (.int p4), .val (.int (Int32.ofNat k)), .val (.int (p2 &&& (3 : Int32))), .val (.int (((p2.toUInt32 >>> ((2 : Int32) &&& 31).toUInt32).toInt32) &&& (3 : Int32))), .val (.int (((p2.toUInt32 >>> ((4 : Int32) &&& 31).toUInt32).toInt32) &&& (3 : Int32))), .val (.int (((p2.toUInt32 >>> ((6 : Int32) &&& 31).toUInt32).toInt32) &&& (3 : Int32))), .val (.int (p3.toInt8.toInt32)), .unset, .unset, .unset, .unset, .unset, .unset, .unset, .unset, .unset, .unset, .unset, .unset, .unset, .unset] [(.int ((p3 >>> ((8 : Int32) &&& 31)).toInt8.toInt32))])) _
    refine XS.istore X0.here hx rfl (hb hby at_44) rfl (l' := #[.val (.int p1), .val (.int p2), .val (.int p3), .val (.int p4), .val (.int (Int32.ofNat k)), .val (.int (p2 &&& (3 : Int32))), .val (.int (((p2.toUInt32 >>> ((2 : Int32) &&& 31).toUInt32).toInt32) &&& (3 : Int32))), .val (.int (((p2.toUInt32 >>> ((4 : Int32) &&& 31).toUInt32).toInt32) &&& (3 : Int32))), .val (.int (((p2.toUInt32 >>> ((6 : Int32) &&& 31).toUInt32).toInt32) &&& (3 : Int32))), .val (.int (p3.toInt8.toInt32)), .val (.int ((p3 >>> ((8 : Int32) &&& 31)).toInt8.toInt32)), .unset, .unset, .unset, .unset, .unset, .unset, .unset, .unset, .unset, .unset, .unset, .unset, .unset]) rfl ?_
    show Steps p.tables e below (s₁.setTop (mkF m 46 #[.val (.int p1), .val (.int p2), .val (.int p3), .val (.int p4), .val (.int (Int32.ofNat k)), .val (.int (p2 &&& (3 : Int32))), .val (.int (((p2.toUInt32 >>> ((2 : Int32) &&& 31).toUInt32).toInt32) &&& (3 : Int32))), .val (.int (((p2.toUInt32 >>> ((4 : Int32) &&& 31).toUInt32).toInt32) &&& (3 : Int32))), .val (.int (((p2.toUInt32 >>> ((6 : Int32) &&& 31).toUInt32).toInt32) &&& (3 : Int32))), .val (.int (p3.toInt8.toInt32)), .val (.int ((p3 >>> ((8 : Int32) &&& 31)).toInt8.toInt32)), .unset, .unset, .unset, .unset, .unset, .unset, .unset, .unset, .unset, .unset, .unset, .unset, .unset] [])) _
    refine XS.iloadN X0.here hx rfl (hb hby at_46) rfl ?_
    show Steps p.tables e below (s₁.setTop (mkF m 47 #[.val (.int p1), .val (.int p2), .val (.int p3), .val (.int p4), .val (.int (Int32.ofNat k)), .val (.int (p2 &&& (3 : Int32))), .val (.int (((p2.toUInt32 >>> ((2 : Int32) &&& 31).toUInt32).toInt32) &&& (3 : Int32))), .val (.int (((p2.toUInt32 >>> ((4 : Int32) &&& 31).toUInt32).toInt32) &&& (3 : Int32))), .val (.int (((p2.toUInt32 >>> ((6 : Int32) &&& 31).toUInt32).toInt32) &&& (3 : Int32))), .val (.int (p3.toInt8.toInt32)), .val (.int ((p3 >>> ((8 : Int32) &&& 31)).toInt8.toInt32)), .unset, .unset, .unset, .unset, .unset, .unset, .unset, .unset, .unset, .unset, .unset, .unset, .unset] [(.int p3)])) _
    refine XS.bipush X0.here hx rfl (hb hby at_47) ?_
    show Steps p.tables e below (s₁.setTop (mkF m 49 #[.val (.int p1), .val (.int p2), .val (.int p3), .val (.int p4), .val (.int (Int32.ofNat k)), .val (.int (p2 &&& (3 : Int32))), .val (.int (((p2.toUInt32 >>> ((2 : Int32) &&& 31).toUInt32).toInt32) &&& (3 : Int32))), .val (.int (((p2.toUInt32 >>> ((4 : Int32) &&& 31).toUInt32).toInt32) &&& (3 : Int32))), .val (.int (((p2.toUInt32 >>> ((6 : Int32) &&& 31).toUInt32).toInt32) &&& (3 : Int32))), .val (.int (p3.toInt8.toInt32)), .val (.int ((p3 >>> ((8 : Int32) &&& 31)).toInt8.toInt32)), .unset, .unset, .unset, .unset, .unset, .unset, .unset, .unset, .unset, .unset, .unset, .unset, .unset] [(.int (16 : Int32)), (.int p3)])) _
    refine XS.ishr X0.here hx rfl (hb hby at_49) rfl ?_
    show Steps p.tables e below (s₁.setTop (mkF m 50 #[.val (.int p1), .val (.int p2), .val (.int p3), .val (.int p4), .val (.int (Int32.ofNat k)), .val (.int (p2 &&& (3 : Int32))), .val (.int (((p2.toUInt32 >>> ((2 : Int32) &&& 31).toUInt32).toInt32) &&& (3 : Int32))), .val (.int (((p2.toUInt32 >>> ((4 : Int32) &&& 31).toUInt32).toInt32) &&& (3 : Int32))), .val (.int (((p2.toUInt32 >>> ((6 : Int32) &&& 31).toUInt32).toInt32) &&& (3 : Int32))), .val (.int (p3.toInt8.toInt32)), .val (.int ((p3 >>> ((8 : Int32) &&& 31)).toInt8.toInt32)), .unset, .unset, .unset, .unset, .unset, .unset, .unset, .unset, .unset, .unset, .unset, .unset, .unset] [(.int (p3 >>> ((16 : Int32) &&& 31)))])) _
    refine XS.i2b X0.here hx rfl (hb hby at_50) rfl ?_
    show Steps p.tables e below (s₁.setTop (mkF m 51 #[.val (.int p1), .val (.int p2), .val (.int p3), .val (.int p4), .val (.int (Int32.ofNat k)), .val (.int (p2 &&& (3 : Int32))), .val (.int (((p2.toUInt32 >>> ((2 : Int32) &&& 31).toUInt32).toInt32) &&& (3 : Int32))), .val (.int (((p2.toUInt32 >>> ((4 : Int32) &&& 31).toUInt32).toInt32) &&& (3 : Int32))), .val (.int (((p2.toUInt32 >>> ((6 : Int32) &&& 31).toUInt32).toInt32) &&& (3 : Int32))), .val (.int (p3.toInt8.toInt32)), .val (.int ((p3 >>> ((8 : Int32) &&& 31)).toInt8.toInt32)), .unset, .unset, .unset, .unset, .unset, .unset, .unset, .unset, .unset, .unset, .unset, .unset, .unset] [(.int ((p3 >>> ((16 : Int32) &&& 31)).toInt8.toInt32))])) _
    refine XS.istore X0.here hx rfl (hb hby at_51) rfl (l' := #[.val (.int p1), .val (.int p2), .val (.int p3), .val (.int p4), .val (.int (Int32.ofNat k)), .val (.int (p2 &&& (3 : Int32))), .val (.int (((p2.toUInt32 >>> ((2 : Int32) &&& 31).toUInt32).toInt32) &&& (3 : Int32))), .val (.int (((p2.toUInt32 >>> ((4 : Int32) &&& 31).toUInt32).toInt32) &&& (3 : Int32))), .val (.int (((p2.toUInt32 >>> ((6 : Int32) &&& 31).toUInt32).toInt32) &&& (3 : Int32))), .val (.int (p3.toInt8.toInt32)), .val (.int ((p3 >>> ((8 : Int32) &&& 31)).toInt8.toInt32)), .val (.int ((p3 >>> ((16 : Int32) &&& 31)).toInt8.toInt32)), .unset, .unset, .unset, .unset, .unset, .unset, .unset, .unset, .unset, .unset, .unset, .unset]) rfl ?_
    show Steps p.tables e below (s₁.setTop (mkF m 53 #[.val (.int p1), .val (.int p2), .val (.int p3), .val (.int p4), .val (.int (Int32.ofNat k)), .val (.int (p2 &&& (3 : Int32))), .val (.int (((p2.toUInt32 >>> ((2 : Int32) &&& 31).toUInt32).toInt32) &&& (3 : Int32))), .val (.int (((p2.toUInt32 >>> ((4 : Int32) &&& 31).toUInt32).toInt32) &&& (3 : Int32))), .val (.int (((p2.toUInt32 >>> ((6 : Int32) &&& 31).toUInt32).toInt32) &&& (3 : Int32))), .val (.int (p3.toInt8.toInt32)), .val (.int ((p3 >>> ((8 : Int32) &&& 31)).toInt8.toInt32)), .val (.int ((p3 >>> ((16 : Int32) &&& 31)).toInt8.toInt32)), .unset, .unset, .unset, .unset, .unset, .unset, .unset, .unset, .unset, .unset, .unset, .unset] [])) _
    refine XS.iloadN X0.here hx rfl (hb hby at_53) rfl ?_
    show Steps p.tables e below (s₁.setTop (mkF m 54 #[.val (.int p1), .val (.int p2), .val (.int p3), .val (.int p4), .val (.int (Int32.ofNat k)), .val (.int (p2 &&& (3 : Int32))), .val (.int (((p2.toUInt32 >>> ((2 : Int32) &&& 31).toUInt32).toInt32) &&& (3 : Int32))), .val (.int (((p2.toUInt32 >>> ((4 : Int32) &&& 31).toUInt32).toInt32) &&& (3 : Int32))), .val (.int (((p2.toUInt32 >>> ((6 : Int32) &&& 31).toUInt32).toInt32) &&& (3 : Int32))), .val (.int (p3.toInt8.toInt32)), .val (.int ((p3 >>> ((8 : Int32) &&& 31)).toInt8.toInt32)), .val (.int ((p3 >>> ((16 : Int32) &&& 31)).toInt8.toInt32)), .unset, .unset, .unset, .unset, .unset, .unset, .unset, .unset, .unset, .unset, .unset, .unset] [(.int p3)])) _
    refine XS.bipush X0.here hx rfl (hb hby at_54) ?_
    show Steps p.tables e below (s₁.setTop (mkF m 56 #[.val (.int p1), .val (.int p2), .val (.int p3), .val (.int p4), .val (.int (Int32.ofNat k)), .val (.int (p2 &&& (3 : Int32))), .val (.int (((p2.toUInt32 >>> ((2 : Int32) &&& 31).toUInt32).toInt32) &&& (3 : Int32))), .val (.int (((p2.toUInt32 >>> ((4 : Int32) &&& 31).toUInt32).toInt32) &&& (3 : Int32))), .val (.int (((p2.toUInt32 >>> ((6 : Int32) &&& 31).toUInt32).toInt32) &&& (3 : Int32))), .val (.int (p3.toInt8.toInt32)), .val (.int ((p3 >>> ((8 : Int32) &&& 31)).toInt8.toInt32)), .val (.int ((p3 >>> ((16 : Int32) &&& 31)).toInt8.toInt32)), .unset, .unset, .unset, .unset, .unset, .unset, .unset, .unset, .unset, .unset, .unset, .unset] [(.int (24 : Int32)), (.int p3)])) _
    refine XS.ishr X0.here hx rfl (hb hby at_56) rfl ?_
    show Steps p.tables e below (s₁.setTop (mkF m 57 #[.val (.int p1), .val (.int p2), .val (.int p3), .val (.int p4), .val (.int (Int32.ofNat k)), .val (.int (p2 &&& (3 : Int32))), .val (.int (((p2.toUInt32 >>> ((2 : Int32) &&& 31).toUInt32).toInt32) &&& (3 : Int32))), .val (.int (((p2.toUInt32 >>> ((4 : Int32) &&& 31).toUInt32).toInt32) &&& (3 : Int32))), .val (.int (((p2.toUInt32 >>> ((6 : Int32) &&& 31).toUInt32).toInt32) &&& (3 : Int32))), .val (.int (p3.toInt8.toInt32)), .val (.int ((p3 >>> ((8 : Int32) &&& 31)).toInt8.toInt32)), .val (.int ((p3 >>> ((16 : Int32) &&& 31)).toInt8.toInt32)), .unset, .unset, .unset, .unset, .unset, .unset, .unset, .unset, .unset, .unset, .unset, .unset] [(.int (p3 >>> ((24 : Int32) &&& 31)))])) _
    refine XS.i2b X0.here hx rfl (hb hby at_57) rfl ?_
    show Steps p.tables e below (s₁.setTop (mkF m 58 #[.val (.int p1), .val (.int p2), .val (.int p3), .val (.int p4), .val (.int (Int32.ofNat k)), .val (.int (p2 &&& (3 : Int32))), .val (.int (((p2.toUInt32 >>> ((2 : Int32) &&& 31).toUInt32).toInt32) &&& (3 : Int32))), .val (.int (((p2.toUInt32 >>> ((4 : Int32) &&& 31).toUInt32).toInt32) &&& (3 : Int32))), .val (.int (((p2.toUInt32 >>> ((6 : Int32) &&& 31).toUInt32).toInt32) &&& (3 : Int32))), .val (.int (p3.toInt8.toInt32)), .val (.int ((p3 >>> ((8 : Int32) &&& 31)).toInt8.toInt32)), .val (.int ((p3 >>> ((16 : Int32) &&& 31)).toInt8.toInt32)), .unset, .unset, .unset, .unset, .unset, .unset, .unset, .unset, .unset, .unset, .unset, .unset] [(.int ((p3 >>> ((24 : Int32) &&& 31)).toInt8.toInt32))])) _
    refine XS.istore X0.here hx rfl (hb hby at_58) rfl (l' := #[.val (.int p1), .val (.int p2), .val (.int p3), .val (.int p4), .val (.int (Int32.ofNat k)), .val (.int (p2 &&& (3 : Int32))), .val (.int (((p2.toUInt32 >>> ((2 : Int32) &&& 31).toUInt32).toInt32) &&& (3 : Int32))), .val (.int (((p2.toUInt32 >>> ((4 : Int32) &&& 31).toUInt32).toInt32) &&& (3 : Int32))), .val (.int (((p2.toUInt32 >>> ((6 : Int32) &&& 31).toUInt32).toInt32) &&& (3 : Int32))), .val (.int (p3.toInt8.toInt32)), .val (.int ((p3 >>> ((8 : Int32) &&& 31)).toInt8.toInt32)), .val (.int ((p3 >>> ((16 : Int32) &&& 31)).toInt8.toInt32)), .val (.int ((p3 >>> ((24 : Int32) &&& 31)).toInt8.toInt32)), .unset, .unset, .unset, .unset, .unset, .unset, .unset, .unset, .unset, .unset, .unset]) rfl ?_
    show Steps p.tables e below (s₁.setTop (mkF m 60 #[.val (.int p1), .val (.int p2), .val (.int p3), .val (.int p4), .val (.int (Int32.ofNat k)), .val (.int (p2 &&& (3 : Int32))), .val (.int (((p2.toUInt32 >>> ((2 : Int32) &&& 31).toUInt32).toInt32) &&& (3 : Int32))), .val (.int (((p2.toUInt32 >>> ((4 : Int32) &&& 31).toUInt32).toInt32) &&& (3 : Int32))), .val (.int (((p2.toUInt32 >>> ((6 : Int32) &&& 31).toUInt32).toInt32) &&& (3 : Int32))), .val (.int (p3.toInt8.toInt32)), .val (.int ((p3 >>> ((8 : Int32) &&& 31)).toInt8.toInt32)), .val (.int ((p3 >>> ((16 : Int32) &&& 31)).toInt8.toInt32)), .val (.int ((p3 >>> ((24 : Int32) &&& 31)).toInt8.toInt32)), .unset, .unset, .unset, .unset, .unset, .unset, .unset, .unset, .unset, .unset, .unset] [])) _
    refine XS.iloadN X0.here hx rfl (hb hby at_60) rfl ?_
    show Steps p.tables e below (s₁.setTop (mkF m 61 #[.val (.int p1), .val (.int p2), .val (.int p3), .val (.int p4), .val (.int (Int32.ofNat k)), .val (.int (p2 &&& (3 : Int32))), .val (.int (((p2.toUInt32 >>> ((2 : Int32) &&& 31).toUInt32).toInt32) &&& (3 : Int32))), .val (.int (((p2.toUInt32 >>> ((4 : Int32) &&& 31).toUInt32).toInt32) &&& (3 : Int32))), .val (.int (((p2.toUInt32 >>> ((6 : Int32) &&& 31).toUInt32).toInt32) &&& (3 : Int32))), .val (.int (p3.toInt8.toInt32)), .val (.int ((p3 >>> ((8 : Int32) &&& 31)).toInt8.toInt32)), .val (.int ((p3 >>> ((16 : Int32) &&& 31)).toInt8.toInt32)), .val (.int ((p3 >>> ((24 : Int32) &&& 31)).toInt8.toInt32)), .unset, .unset, .unset, .unset, .unset, .unset, .unset, .unset, .unset, .unset, .unset] [(.int p4)])) _
    refine XS.i2b X0.here hx rfl (hb hby at_61) rfl ?_
    show Steps p.tables e below (s₁.setTop (mkF m 62 #[.val (.int p1), .val (.int p2), .val (.int p3), .val (.int p4), .val (.int (Int32.ofNat k)), .val (.int (p2 &&& (3 : Int32))), .val (.int (((p2.toUInt32 >>> ((2 : Int32) &&& 31).toUInt32).toInt32) &&& (3 : Int32))), .val (.int (((p2.toUInt32 >>> ((4 : Int32) &&& 31).toUInt32).toInt32) &&& (3 : Int32))), .val (.int (((p2.toUInt32 >>> ((6 : Int32) &&& 31).toUInt32).toInt32) &&& (3 : Int32))), .val (.int (p3.toInt8.toInt32)), .val (.int ((p3 >>> ((8 : Int32) &&& 31)).toInt8.toInt32)), .val (.int ((p3 >>> ((16 : Int32) &&& 31)).toInt8.toInt32)), .val (.int ((p3 >>> ((24 : Int32) &&& 31)).toInt8.toInt32)), .unset, .unset, .unset, .unset, .unset, .unset, .unset, .unset, .unset, .unset, .unset] [(.int (p4.toInt8.toInt32))])) _
    refine XS.istore X0.here hx rfl (hb hby at_62) rfl (l' := #[.val (.int p1), .val (.int p2), .val (.int p3), .val (.int p4), .val (.int (Int32.ofNat k)), .val (.int (p2 &&& (3 : Int32))), .val (.int (((p2.toUInt32 >>> ((2 : Int32) &&& 31).toUInt32).toInt32) &&& (3 : Int32))), .val (.int (((p2.toUInt32 >>> ((4 : Int32) &&& 31).toUInt32).toInt32) &&& (3 : Int32))), .val (.int (((p2.toUInt32 >>> ((6 : Int32) &&& 31).toUInt32).toInt32) &&& (3 : Int32))), .val (.int (p3.toInt8.toInt32)), .val (.int ((p3 >>> ((8 : Int32) &&& 31)).toInt8.toInt32)), .val (.int ((p3 >>> ((16 : Int32) &&& 31)).toInt8.toInt32)), .val (.int ((p3 >>> ((24 : Int32) &&& 31)).toInt8.toInt32)), .val (.int (p4.toInt8.toInt32)), .unset, .unset, .unset, .unset, .unset, .unset, .unset, .unset, .unset, .unset]) rfl ?_
    show Steps p.tables e below (s₁.setTop (mkF m 64 #[.val (.int p1), .val (.int p2), .val (.int p3), .val (.int p4), .val (.int (Int32.ofNat k)), .val (.int (p2 &&& (3 : Int32))), .val (.int (((p2.toUInt32 >>> ((2 : Int32) &&& 31).toUInt32).toInt32) &&& (3 : Int32))), .val (.int (((p2.toUInt32 >>> ((4 : Int32) &&& 31).toUInt32).toInt32) &&& (3 : Int32))), .val (.int (((p2.toUInt32 >>> ((6 : Int32) &&& 31).toUInt32).toInt32) &&& (3 : Int32))), .val (.int (p3.toInt8.toInt32)), .val (.int ((p3 >>> ((8 : Int32) &&& 31)).toInt8.toInt32)), .val (.int ((p3 >>> ((16 : Int32) &&& 31)).toInt8.toInt32)), .val (.int ((p3 >>> ((24 : Int32) &&& 31)).toInt8.toInt32)), .val (.int (p4.toInt8.toInt32)), .unset, .unset, .unset, .unset, .unset, .unset, .unset, .unset, .unset, .unset] [])) _
    refine XS.iloadN X0.here hx rfl (hb hby at_64) rfl ?_
    show Steps p.tables e below (s₁.setTop (mkF m 65 #[.val (.int p1), .val (.int p2), .val (.int p3), .val (.int p4), .val (.int (Int32.ofNat k)), .val (.int (p2 &&& (3 : Int32))), .val (.int (((p2.toUInt32 >>> ((2 : Int32) &&& 31).toUInt32).toInt32) &&& (3 : Int32))), .val (.int (((p2.toUInt32 >>> ((4 : Int32) &&& 31).toUInt32).toInt32) &&& (3 : Int32))), .val (.int (((p2.toUInt32 >>> ((6 : Int32) &&& 31).toUInt32).toInt32) &&& (3 : Int32))), .val (.int (p3.toInt8.toInt32)), .val (.int ((p3 >>> ((8 : Int32) &&& 31)).toInt8.toInt32)), .val (.int ((p3 >>> ((16 : Int32) &&& 31)).toInt8.toInt32)), .val (.int ((p3 >>> ((24 : Int32) &&& 31)).toInt8.toInt32)), .val (.int (p4.toInt8.toInt32)), .unset, .unset, .unset, .unset, .unset, .unset, .unset, .unset, .unset, .unset] [(.int p4)])) _
    refine XS.bipush X0.here hx rfl (hb hby at_65) ?_
    show Steps p.tables e below (s₁.setTop (mkF m 67 #[.val (.int p1), .val (.int p2), .val (.int p3), .val (.int p4), .val (.int (Int32.ofNat k)), .val (.int (p2 &&& (3 : Int32))), .val (.int (((p2.toUInt32 >>> ((2 : Int32) &&& 31).toUInt32).toInt32) &&& (3 : Int32))), .val (.int (((p2.toUInt32 >>> ((4 : Int32) &&& 31).toUInt32).toInt32) &&& (3 : Int32))), .val (.int (((p2.toUInt32 >>> ((6 : Int32) &&& 31).toUInt32).toInt32) &&& (3 : Int32))), .val (.int (p3.toInt8.toInt32)), .val (.int ((p3 >>> ((8 : Int32) &&& 31)).toInt8.toInt32)), .val (.int ((p3 >>> ((16 : Int32) &&& 31)).toInt8.toInt32)), .val (.int ((p3 >>> ((24 : Int32) &&& 31)).toInt8.toInt32)), .val (.int (p4.toInt8.toInt32)), .unset, .unset, .unset, .unset, .unset, .unset, .unset, .unset, .unset, .unset] [(.int (8 : Int32)), (.int p4)])) _
    refine XS.ishr X0.here hx rfl (hb hby at_67) rfl ?_
    show Steps p.tables e below (s₁.setTop (mkF m 68 #[.val (.int p1), .val (.int p2), .val (.int p3), .val (.int p4), .val (.int (Int32.ofNat k)), .val (.int (p2 &&& (3 : Int32))), .val (.int (((p2.toUInt32 >>> ((2 : Int32) &&& 31).toUInt32).toInt32) &&& (3 : Int32))), .val (.int (((p2.toUInt32 >>> ((4 : Int32) &&& 31).toUInt32).toInt32) &&& (3 : Int32))), .val (.int (((p2.toUInt32 >>> ((6 : Int32) &&& 31).toUInt32).toInt32) &&& (3 : Int32))), .val (.int (p3.toInt8.toInt32)), .val (.int ((p3 >>> ((8 : Int32) &&& 31)).toInt8.toInt32)), .val (.int ((p3 >>> ((16 : Int32) &&& 31)).toInt8.toInt32)), .val (.int ((p3 >>> ((24 : Int32) &&& 31)).toInt8.toInt32)), .val (.int (p4.toInt8.toInt32)), .unset, .unset, .unset, .unset, .unset, .unset, .unset, .unset, .unset, .unset] [(.int (p4 >>> ((8 : Int32) &&& 31)))])) _
    refine XS.i2b X0.here hx rfl (hb hby at_68) rfl ?_
    show Steps p.tables e below (s₁.setTop (mkF m 69 #[.val (.int p1), .val (.int p2), .val (.int p3), .val (.int p4), .val (.int (Int32.ofNat k)), .val (.int (p2 &&& (3 : Int32))), .val (.int (((p2.toUInt32 >>> ((2 : Int32) &&& 31).toUInt32).toInt32) &&& (3 : Int32))), .val (.int (((p2.toUInt32 >>> ((4 : Int32) &&& 31).toUInt32).toInt32) &&& (3 : Int32))), .val (.int (((p2.toUInt32 >>> ((6 : Int32) &&& 31).toUInt32).toInt32) &&& (3 : Int32))), .val (.int (p3.toInt8.toInt32)), .val (.int ((p3 >>> ((8 : Int32) &&& 31)).toInt8.toInt32)), .val (.int ((p3 >>> ((16 : Int32) &&& 31)).toInt8.toInt32)), .val (.int ((p3 >>> ((24 : Int32) &&& 31)).toInt8.toInt32)), .val (.int (p4.toInt8.toInt32)), .unset, .unset, .unset, .unset, .unset, .unset, .unset, .unset, .unset, .unset] [(.int ((p4 >>> ((8 : Int32) &&& 31)).toInt8.toInt32))])) _
    refine XS.istore X0.here hx rfl (hb hby at_69) rfl (l' := #[.val (.int p1), .val (.int p2), .val (.int p3), .val (.int p4), .val (.int (Int32.ofNat k)), .val (.int (p2 &&& (3 : Int32))), .val (.int (((p2.toUInt32 >>> ((2 : Int32) &&& 31).toUInt32).toInt32) &&& (3 : Int32))), .val (.int (((p2.toUInt32 >>> ((4 : Int32) &&& 31).toUInt32).toInt32) &&& (3 : Int32))), .val (.int (((p2.toUInt32 >>> ((6 : Int32) &&& 31).toUInt32).toInt32) &&& (3 : Int32))), .val (.int (p3.toInt8.toInt32)), .val (.int ((p3 >>> ((8 : Int32) &&& 31)).toInt8.toInt32)), .val (.int ((p3 >>> ((16 : Int32) &&& 31)).toInt8.toInt32)), .val (.int ((p3 >>> ((24 : Int32) &&& 31)).toInt8.toInt32)), .val (.int (p4.toInt8.toInt32)), .val (.int ((p4 >>> ((8 : Int32) &&& 31)).toInt8.toInt32)), .unset, .unset, .unset, .unset, .unset, .unset, .unset, .unset, .unset]) rfl ?_
    show Steps p.tables e below (s₁.setTop (mkF m 71 #[.val (.int p1), .val (.int p2), .val (.int p3), .val (.int p4), .val (.int (Int32.ofNat k)), .val (.int (p2 &&& (3 : Int32))), .val (.int (((p2.toUInt32 >>> ((2 : Int32) &&& 31).toUInt32).toInt32) &&& (3 : Int32))), .val (.int (((p2.toUInt32 >>> ((4 : Int32) &&& 31).toUInt32).toInt32) &&& (3 : Int32))), .val (.int (((p2.toUInt32 >>> ((6 : Int32) &&& 31).toUInt32).toInt32) &&& (3 : Int32))), .val (.int (p3.toInt8.toInt32)), .val (.int ((p3 >>> ((8 : Int32) &&& 31)).toInt8.toInt32)), .val (.int ((p3 >>> ((16 : Int32) &&& 31)).toInt8.toInt32)), .val (.int ((p3 >>> ((24 : Int32) &&& 31)).toInt8.toInt32)), .val (.int (p4.toInt8.toInt32)), .val (.int ((p4 >>> ((8 : Int32) &&& 31)).toInt8.toInt32)), .unset, .unset, .unset, .unset, .unset, .unset, .unset, .unset, .unset] [])) _
    refine XS.iloadN X0.here hx rfl (hb hby at_71) rfl ?_
    show Steps p.tables e below (s₁.setTop (mkF m 72 #[.val (.int p1), .val (.int p2), .val (.int p3), .val (.int p4), .val (.int (Int32.ofNat k)), .val (.int (p2 &&& (3 : Int32))), .val (.int (((p2.toUInt32 >>> ((2 : Int32) &&& 31).toUInt32).toInt32) &&& (3 : Int32))), .val (.int (((p2.toUInt32 >>> ((4 : Int32) &&& 31).toUInt32).toInt32) &&& (3 : Int32))), .val (.int (((p2.toUInt32 >>> ((6 : Int32) &&& 31).toUInt32).toInt32) &&& (3 : Int32))), .val (.int (p3.toInt8.toInt32)), .val (.int ((p3 >>> ((8 : Int32) &&& 31)).toInt8.toInt32)), .val (.int ((p3 >>> ((16 : Int32) &&& 31)).toInt8.toInt32)), .val (.int ((p3 >>> ((24 : Int32) &&& 31)).toInt8.toInt32)), .val (.int (p4.toInt8.toInt32)), .val (.int ((p4 >>> ((8 : Int32) &&& 31)).toInt8.toInt32)), .unset, .unset, .unset, .unset, .unset, .unset, .unset, .unset, .unset] [(.int p4)])) _
    refine XS.bipush X0.here hx rfl (hb hby at_72) ?_
    show Steps p.tables e below (s₁.setTop (mkF m 74 #[.val (.int p1), .val (.int p2), .val (.int p3), .val (.int p4), .val (.int (Int32.ofNat k)), .val (.int (p2 &&& (3 : Int32))), .val (.int (((p2.toUInt32 >>> ((2 : Int32) &&& 31).toUInt32).toInt32) &&& (3 : Int32))), .val (.int (((p2.toUInt32 >>> ((4 : Int32) &&& 31).toUInt32).toInt32) &&& (3 : Int32))), .val (.int (((p2.toUInt32 >>> ((6 : Int32) &&& 31).toUInt32).toInt32) &&& (3 : Int32))), .val (.int (p3.toInt8.toInt32)), .val (.int ((p3 >>> ((8 : Int32) &&& 31)).toInt8.toInt32)), .val (.int ((p3 >>> ((16 : Int32) &&& 31)).toInt8.toInt32)), .val (.int ((p3 >>> ((24 : Int32) &&& 31)).toInt8.toInt32)), .val (.int (p4.toInt8.toInt32)), .val (.int ((p4 >>> ((8 : Int32) &&& 31)).toInt8.toInt32)), .unset, .unset, .unset, .unset, .unset, .unset, .unset, .unset, .unset] [(.int (16 : Int32)), (.int p4)])) _
    refine XS.ishr X0.here hx rfl (hb hby at_74) rfl ?_
    show Steps p.tables e below (s₁.setTop (mkF m 75 #[.val (.int p1), .val (.int p2), .val (.int p3), .val (.int p4), .val (.int (Int32.ofNat k)), .val (.int (p2 &&& (3 : Int32))), .val (.int (((p2.toUInt32 >>> ((2 : Int32) &&& 31).toUInt32).toInt32) &&& (3 : Int32))), .val (.int (((p2.toUInt32 >>> ((4 : Int32) &&& 31).toUInt32).toInt32) &&& (3 : Int32))), .val (.int (((p2.toUInt32 >>> ((6 : Int32) &&& 31).toUInt32).toInt32) &&& (3 : Int32))), .val (.int (p3.toInt8.toInt32)), .val (.int ((p3 >>> ((8 : Int32) &&& 31)).toInt8.toInt32)), .val (.int ((p3 >>> ((16 : Int32) &&& 31)).toInt8.toInt32)), .val (.int ((p3 >>> ((24 : Int32) &&& 31)).toInt8.toInt32)), .val (.int (p4.toInt8.toInt32)), .val (.int ((p4 >>> ((8 : Int32) &&& 31)).toInt8.toInt32)), .unset, .unset, .unset, .unset, .unset, .unset, .unset, .unset, .unset] [(.int (p4 >>> ((16 : Int32) &&& 31)))])) _
    refine XS.i2b X0.here hx rfl (hb hby at_75) rfl ?_
    show Steps p.tables e below (s₁.setTop (mkF m 76 #[.val (.int p1), .val (.int p2), .val (.int p3), .val (.int p4), .val (.int (Int32.ofNat k)), .val (.int (p2 &&& (3 : Int32))), .val (.int (((p2.toUInt32 >>> ((2 : Int32) &&& 31).toUInt32).toInt32) &&& (3 : Int32))), .val (.int (((p2.toUInt32 >>> ((4 : Int32) &&& 31).toUInt32).toInt32) &&& (3 : Int32))), .val (.int (((p2.toUInt32 >>> ((6 : Int32) &&& 31).toUInt32).toInt32) &&& (3 : Int32))), .val (.int (p3.toInt8.toInt32)), .val (.int ((p3 >>> ((8 : Int32) &&& 31)).toInt8.toInt32)), .val (.int ((p3 >>> ((16 : Int32) &&& 31)).toInt8.toInt32)), .val (.int ((p3 >>> ((24 : Int32) &&& 31)).toInt8.toInt32)), .val (.int (p4.toInt8.toInt32)), .val (.int ((p4 >>> ((8 : Int32) &&& 31)).toInt8.toInt32)), .unset, .unset, .unset, .unset, .unset, .unset, .unset, .unset, .unset] [(.int ((p4 >>> ((16 : Int32) &&& 31)).toInt8.toInt32))])) _
    refine XS.istore X0.here hx rfl (hb hby at_76) rfl (l' := #[.val (.int p1), .val (.int p2), .val (.int p3), .val (.int p4), .val (.int (Int32.ofNat k)), .val (.int (p2 &&& (3 : Int32))), .val (.int (((p2.toUInt32 >>> ((2 : Int32) &&& 31).toUInt32).toInt32) &&& (3 : Int32))), .val (.int (((p2.toUInt32 >>> ((4 : Int32) &&& 31).toUInt32).toInt32) &&& (3 : Int32))), .val (.int (((p2.toUInt32 >>> ((6 : Int32) &&& 31).toUInt32).toInt32) &&& (3 : Int32))), .val (.int (p3.toInt8.toInt32)), .val (.int ((p3 >>> ((8 : Int32) &&& 31)).toInt8.toInt32)), .val (.int ((p3 >>> ((16 : Int32) &&& 31)).toInt8.toInt32)), .val (.int ((p3 >>> ((24 : Int32) &&& 31)).toInt8.toInt32)), .val (.int (p4.toInt8.toInt32)), .val (.int ((p4 >>> ((8 : Int32) &&& 31)).toInt8.toInt32)), .val (.int ((p4 >>> ((16 : Int32) &&& 31)).toInt8.toInt32)), .unset, .unset, .unset, .unset, .unset, .unset, .unset, .unset]) rfl ?_
    show Steps p.tables e below (s₁.setTop (mkF m 78 #[.val (.int p1), .val (.int p2), .val (.int p3), .val (.int p4), .val (.int (Int32.ofNat k)), .val (.int (p2 &&& (3 : Int32))), .val (.int (((p2.toUInt32 >>> ((2 : Int32) &&& 31).toUInt32).toInt32) &&& (3 : Int32))), .val (.int (((p2.toUInt32 >>> ((4 : Int32) &&& 31).toUInt32).toInt32) &&& (3 : Int32))), .val (.int (((p2.toUInt32 >>> ((6 : Int32) &&& 31).toUInt32).toInt32) &&& (3 : Int32))), .val (.int (p3.toInt8.toInt32)), .val (.int ((p3 >>> ((8 : Int32) &&& 31)).toInt8.toInt32)), .val (.int ((p3 >>> ((16 : Int32) &&& 31)).toInt8.toInt32)), .val (.int ((p3 >>> ((24 : Int32) &&& 31)).toInt8.toInt32)), .val (.int (p4.toInt8.toInt32)), .val (.int ((p4 >>> ((8 : Int32) &&& 31)).toInt8.toInt32)), .val (.int ((p4 >>> ((16 : Int32) &&& 31)).toInt8.toInt32)), .unset, .unset, .unset, .unset, .unset, .unset, .unset, .unset] [])) _
    refine XS.iloadN X0.here hx rfl (hb hby at_78) rfl ?_
    show Steps p.tables e below (s₁.setTop (mkF m 79 #[.val (.int p1), .val (.int p2), .val (.int p3), .val (.int p4), .val (.int (Int32.ofNat k)), .val (.int (p2 &&& (3 : Int32))), .val (.int (((p2.toUInt32 >>> ((2 : Int32) &&& 31).toUInt32).toInt32) &&& (3 : Int32))), .val (.int (((p2.toUInt32 >>> ((4 : Int32) &&& 31).toUInt32).toInt32) &&& (3 : Int32))), .val (.int (((p2.toUInt32 >>> ((6 : Int32) &&& 31).toUInt32).toInt32) &&& (3 : Int32))), .val (.int (p3.toInt8.toInt32)), .val (.int ((p3 >>> ((8 : Int32) &&& 31)).toInt8.toInt32)), .val (.int ((p3 >>> ((16 : Int32) &&& 31)).toInt8.toInt32)), .val (.int ((p3 >>> ((24 : Int32) &&& 31)).toInt8.toInt32)), .val (.int (p4.toInt8.toInt32)), .val (.int ((p4 >>> ((8 : Int32) &&& 31)).toInt8.toInt32)), .val (.int ((p4 >>> ((16 : Int32) &&& 31)).toInt8.toInt32)), .unset, .unset, .unset, .unset, .unset, .unset, .unset, .unset] [(.int p4)])) _
    refine XS.bipush X0.here hx rfl (hb hby at_79) ?_
    show Steps p.tables e below (s₁.setTop (mkF m 81 #[.val (.int p1), .val (.int p2), .val (.int p3), .val (.int p4), .val (.int (Int32.ofNat k)), .val (.int (p2 &&& (3 : Int32))), .val (.int (((p2.toUInt32 >>> ((2 : Int32) &&& 31).toUInt32).toInt32) &&& (3 : Int32))), .val (.int (((p2.toUInt32 >>> ((4 : Int32) &&& 31).toUInt32).toInt32) &&& (3 : Int32))), .val (.int (((p2.toUInt32 >>> ((6 : Int32) &&& 31).toUInt32).toInt32) &&& (3 : Int32))), .val (.int (p3.toInt8.toInt32)), .val (.int ((p3 >>> ((8 : Int32) &&& 31)).toInt8.toInt32)), .val (.int ((p3 >>> ((16 : Int32) &&& 31)).toInt8.toInt32)), .val (.int ((p3 >>> ((24 : Int32) &&& 31)).toInt8.toInt32)), .val (.int (p4.toInt8.toInt32)), .val (.int ((p4 >>> ((8 : Int32) &&& 31)).toInt8.toInt32)), .val (.int ((p4 >>> ((16 : Int32) &&& 31)).toInt8.toInt32)), .unset, .unset, .unset, .unset, .unset, .unset, .unset, .unset] [(.int (24 : Int32)), (.int p4)])) _
    refine XS.ishr X0.here hx rfl (hb hby at_81) rfl ?_
    show Steps p.tables e below (s₁.setTop (mkF m 82 #[.val (.int p1), .val (.int p2), .val (.int p3), .val (.int p4), .val (.int (Int32.ofNat k)), .val (.int (p2 &&& (3 : Int32))), .val (.int (((p2.toUInt32 >>> ((2 : Int32) &&& 31).toUInt32).toInt32) &&& (3 : Int32))), .val (.int (((p2.toUInt32 >>> ((4 : Int32) &&& 31).toUInt32).toInt32) &&& (3 : Int32))), .val (.int (((p2.toUInt32 >>> ((6 : Int32) &&& 31).toUInt32).toInt32) &&& (3 : Int32))), .val (.int (p3.toInt8.toInt32)), .val (.int ((p3 >>> ((8 : Int32) &&& 31)).toInt8.toInt32)), .val (.int ((p3 >>> ((16 : Int32) &&& 31)).toInt8.toInt32)), .val (.int ((p3 >>> ((24 : Int32) &&& 31)).toInt8.toInt32)), .val (.int (p4.toInt8.toInt32)), .val (.int ((p4 >>> ((8 : Int32) &&& 31)).toInt8.toInt32)), .val (.int ((p4 >>> ((16 : Int32) &&& 31)).toInt8.toInt32)), .unset, .unset, .unset, .unset, .unset, .unset, .unset, .unset] [(.int (p4 >>> ((24 : Int32) &&& 31)))])) _
    refine XS.i2b X0.here hx rfl (hb hby at_82) rfl ?_
    show Steps p.tables e below (s₁.setTop (mkF m 83 #[.val (.int p1), .val (.int p2), .val (.int p3), .val (.int p4), .val (.int (Int32.ofNat k)), .val (.int (p2 &&& (3 : Int32))), .val (.int (((p2.toUInt32 >>> ((2 : Int32) &&& 31).toUInt32).toInt32) &&& (3 : Int32))), .val (.int (((p2.toUInt32 >>> ((4 : Int32) &&& 31).toUInt32).toInt32) &&& (3 : Int32))), .val (.int (((p2.toUInt32 >>> ((6 : Int32) &&& 31).toUInt32).toInt32) &&& (3 : Int32))), .val (.int (p3.toInt8.toInt32)), .val (.int ((p3 >>> ((8 : Int32) &&& 31)).toInt8.toInt32)), .val (.int ((p3 >>> ((16 : Int32) &&& 31)).toInt8.toInt32)), .val (.int ((p3 >>> ((24 : Int32) &&& 31)).toInt8.toInt32)), .val (.int (p4.toInt8.toInt32)), .val (.int ((p4 >>> ((8 : Int32) &&& 31)).toInt8.toInt32)), .val (.int ((p4 >>> ((16 : Int32) &&& 31)).toInt8.toInt32)), .unset, .unset, .unset, .unset, .unset, .unset, .unset, .unset] [(.int ((p4 >>> ((24 : Int32) &&& 31)).toInt8.toInt32))])) _
    refine XS.istore X0.here hx rfl (hb hby at_83) rfl (l' := #[.val (.int p1), .val (.int p2), .val (.int p3), .val (.int p4), .val (.int (Int32.ofNat k)), .val (.int (p2 &&& (3 : Int32))), .val (.int (((p2.toUInt32 >>> ((2 : Int32) &&& 31).toUInt32).toInt32) &&& (3 : Int32))), .val (.int (((p2.toUInt32 >>> ((4 : Int32) &&& 31).toUInt32).toInt32) &&& (3 : Int32))), .val (.int (((p2.toUInt32 >>> ((6 : Int32) &&& 31).toUInt32).toInt32) &&& (3 : Int32))), .val (.int (p3.toInt8.toInt32)), .val (.int ((p3 >>> ((8 : Int32) &&& 31)).toInt8.toInt32)), .val (.int ((p3 >>> ((16 : Int32) &&& 31)).toInt8.toInt32)), .val (.int ((p3 >>> ((24 : Int32) &&& 31)).toInt8.toInt32)), .val (.int (p4.toInt8.toInt32)), .val (.int ((p4 >>> ((8 : Int32) &&& 31)).toInt8.toInt32)), .val (.int ((p4 >>> ((16 : Int32) &&& 31)).toInt8.toInt32)), .val (.int ((p4 >>> ((24 : Int32) &&& 31)).toInt8.toInt32)), .unset, .unset, .unset, .unset, .unset, .unset, .unset]) rfl ?_
    exact k9
  generalize hb0 : (p2 &&& (3 : Int32)) = b0
  have sb0 : own_small b0 := by rw [← hb0]; exact own_small_of _
  generalize hb1 : (((p2.toUInt32 >>> ((2 : Int32) &&& 31).toUInt32).toInt32) &&& (3 : Int32)) = b1
  have sb1 : own_small b1 := by rw [← hb1]; exact own_small_of _
  generalize hb2 : (((p2.toUInt32 >>> ((4 : Int32) &&& 31).toUInt32).toInt32) &&& (3 : Int32)) = b2
  have sb2 : own_small b2 := by rw [← hb2]; exact own_small_of _
  generalize hb3 : (((p2.toUInt32 >>> ((6 : Int32) &&& 31).toUInt32).toInt32) &&& (3 : Int32)) = b3
  have sb3 : own_small b3 := by rw [← hb3]; exact own_small_of _
  generalize he0 : (p3.toInt8.toInt32) = e0'
  have se0 : own_byte e0' := by rw [← he0]; exact own_byte_of _
  generalize he1 : ((p3 >>> ((8 : Int32) &&& 31)).toInt8.toInt32) = e1'
  have se1 : own_byte e1' := by rw [← he1]; exact own_byte_of _
  generalize he2 : ((p3 >>> ((16 : Int32) &&& 31)).toInt8.toInt32) = e2'
  have se2 : own_byte e2' := by rw [← he2]; exact own_byte_of _
  generalize he3 : ((p3 >>> ((24 : Int32) &&& 31)).toInt8.toInt32) = e3'
  have se3 : own_byte e3' := by rw [← he3]; exact own_byte_of _
  generalize hs0 : (p4.toInt8.toInt32) = s0'
  have ss0 : own_byte s0' := by rw [← hs0]; exact own_byte_of _
  generalize hs1 : ((p4 >>> ((8 : Int32) &&& 31)).toInt8.toInt32) = s1'
  have ss1 : own_byte s1' := by rw [← hs1]; exact own_byte_of _
  generalize hs2 : ((p4 >>> ((16 : Int32) &&& 31)).toInt8.toInt32) = s2'
  have ss2 : own_byte s2' := by rw [← hs2]; exact own_byte_of _
  generalize hs3 : ((p4 >>> ((24 : Int32) &&& 31)).toInt8.toInt32) = s3'
  have ss3 : own_byte s3' := by rw [← hs3]; exact own_byte_of _
  have hE := own_4_all se0 se1 se2 se3
  have hS := own_4_all ss0 ss1 ss2 ss3
  have hB := own_4_all sb0 sb1 sb2 sb3
  refine go (s₁.setTop (mkF m 86 #[.val (.int p1), .val (.int p2), .val (.int p3), .val (.int p4), .val (.int (Int32.ofNat k)), .val (.int b0), .val (.int b1), .val (.int b2), .val (.int b3), .val (.int e0'), .val (.int e1'), .val (.int e2'), .val (.int e3'), .val (.int s0'), .val (.int s1'), .val (.int s2'), .val (.int s3'), .unset, .unset, .unset, .unset, .unset, .unset, .unset] [(.int (4 : Int32))])) _ (fun t9 k9 => ?_) ?_
  · show Steps p.tables e below (s₁.setTop (mkF m 85 #[.val (.int p1), .val (.int p2), .val (.int p3), .val (.int p4), .val (.int (Int32.ofNat k)), .val (.int b0), .val (.int b1), .val (.int b2), .val (.int b3), .val (.int e0'), .val (.int e1'), .val (.int e2'), .val (.int e3'), .val (.int s0'), .val (.int s1'), .val (.int s2'), .val (.int s3'), .unset, .unset, .unset, .unset, .unset, .unset, .unset] [])) _
    refine XS.iconst X0.here hx rfl (hb hby at_85) ?_
    exact k9
  obtain ⟨T34, h34, k34, X34, e34, E34, A34, st34⟩ := newP X0 hx hZ (hw _ (List.mem_of_getElem? (i := 1) rfl)) e0 (g := (mkF m 86 #[.val (.int p1), .val (.int p2), .val (.int p3), .val (.int p4), .val (.int (Int32.ofNat k)), .val (.int b0), .val (.int b1), .val (.int b2), .val (.int b3), .val (.int e0'), .val (.int e1'), .val (.int e2'), .val (.int e3'), .val (.int s0'), .val (.int s1'), .val (.int s2'), .val (.int s3'), .unset, .unset, .unset, .unset, .unset, .unset, .unset] [(.int (4 : Int32))])) rfl (hb hby at_86) rfl (by decide) (cap := 4) (by decide) (by decide) (by decide) (by decide)
  obtain ⟨b17, g34⟩ : ∃ z, z = h0.size := ⟨_, rfl⟩
  rw [← g34] at A34 st34
  refine go (T34.setTop (mkF m 88 #[.val (.int p1), .val (.int p2), .val (.int p3), .val (.int p4), .val (.int (Int32.ofNat k)), .val (.int b0), .val (.int b1), .val (.int b2), .val (.int b3), .val (.int e0'), .val (.int e1'), .val (.int e2'), .val (.int e3'), .val (.int s0'), .val (.int s1'), .val (.int s2'), .val (.int s3'), .unset, .unset, .unset, .unset, .unset, .unset, .unset] [(.ref b17)])) _ (fun t9 k9 => st34 _ k9) ?_
  have sz_b17 : h0.size ≤ b17 := Nat.le_trans (Keep.refl h0 []).1 (Nat.le_of_eq g34.symm)
  have g_b17 : n0 ≤ b17 := Nat.le_trans Z0 sz_b17
  have u35 : Keep h0 h34 [] := (Keep.refl h0 []).ext E34
  have u36 : own_A Z h34 b17 .int 4 (fun _ => (.int 0)) := own_A_new A34 rfl
  have u37 : own_A Z h34 b17 .int 4 (fun j => .int (if j < 0 then (own_4 s0' s1' s2' s3') j else 0)) := own_A_congr u36 (own_zero Value.int (fun j => (own_4 s0' s1' s2' s3') j) 0 4)
  refine go (T34.setTop (mkF m 92 #[.val (.int p1), .val (.int p2), .val (.int p3), .val (.int p4), .val (.int (Int32.ofNat k)), .val (.int b0), .val (.int b1), .val (.int b2), .val (.int b3), .val (.int e0'), .val (.int e1'), .val (.int e2'), .val (.int e3'), .val (.int s0'), .val (.int s1'), .val (.int s2'), .val (.int s3'), .unset, .unset, .unset, .unset, .unset, .unset, .unset] [(.int s0'), (.int (0 : Int32)), (.ref b17), (.ref b17)])) _ (fun t9 k9 => ?_) ?_
  · show Steps p.tables e below (T34.setTop (mkF m 88 #[.val (.int p1), .val (.int p2), .val (.int p3), .val (.int p4), .val (.int (Int32.ofNat k)), .val (.int b0), .val (.int b1), .val (.int b2), .val (.int b3), .val (.int e0'), .val (.int e1'), .val (.int e2'), .val (.int e3'), .val (.int s0'), .val (.int s1'), .val (.int s2'), .val (.int s3'), .unset, .unset, .unset, .unset, .unset, .unset, .unset] [(.ref b17)])) _
    refine XS.dup X34.here hx rfl (hb hby at_88) rfl rfl ?_
    show Steps p.tables e below (T34.setTop (mkF m 89 #[.val (.int p1), .val (.int p2), .val (.int p3), .val (.int p4), .val (.int (Int32.ofNat k)), .val (.int b0), .val (.int b1), .val (.int b2), .val (.int b3), .val (.int e0'), .val (.int e1'), .val (.int e2'), .val (.int e3'), .val (.int s0'), .val (.int s1'), .val (.int s2'), .val (.int s3'), .unset, .unset, .unset, .unset, .unset, .unset, .unset] [(.ref b17), (.ref b17)])) _
    refine XS.iconst X34.here hx rfl (hb hby at_89) ?_
    show Steps p.tables e below (T34.setTop (mkF m 90 #[.val (.int p1), .val (.int p2), .val (.int p3), .val (.int p4), .val (.int (Int32.ofNat k)), .val (.int b0), .val (.int b1), .val (.int b2), .val (.int b3), .val (.int e0'), .val (.int e1'), .val (.int e2'), .val (.int e3'), .val (.int s0'), .val (.int s1'), .val (.int s2'), .val (.int s3'), .unset, .unset, .unset, .unset, .unset, .unset, .unset] [(.int (0 : Int32)), (.ref b17), (.ref b17)])) _
    refine XS.iload X34.here hx rfl (hb hby at_90) rfl ?_
    exact k9
  obtain ⟨cl38, Ar38, Sz38, Hv38⟩ := u37
  have u39 : own_A Z h34 b17 .int 4 (fun j => .int (if j < 0 then (own_4 s0' s1' s2' s3') j else 0)) := ⟨cl38, Ar38, Sz38, Hv38⟩
  obtain ⟨T40, h40, X40, e40, W40, st40⟩ := stI X34 hx hZ e34 Ar38 (j := (0 : Int32)) (own_hin Sz38 (by decide) (by decide)) (g := (mkF m 92 #[.val (.int p1), .val (.int p2), .val (.int p3), .val (.int p4), .val (.int (Int32.ofNat k)), .val (.int b0), .val (.int b1), .val (.int b2), .val (.int b3), .val (.int e0'), .val (.int e1'), .val (.int e2'), .val (.int e3'), .val (.int s0'), .val (.int s1'), .val (.int s2'), .val (.int s3'), .unset, .unset, .unset, .unset, .unset, .unset, .unset] [(.int s0'), (.int (0 : Int32)), (.ref b17), (.ref b17)])) rfl rfl (hb hby at_92)
  have N40 := Fr.snoc X40 N0 g_b17
  refine go (T40.setTop (mkF m 93 #[.val (.int p1), .val (.int p2), .val (.int p3), .val (.int p4), .val (.int (Int32.ofNat k)), .val (.int b0), .val (.int b1), .val (.int b2), .val (.int b3), .val (.int e0'), .val (.int e1'), .val (.int e2'), .val (.int e3'), .val (.int s0'), .val (.int s1'), .val (.int s2'), .val (.int s3'), .unset, .unset, .unset, .unset, .unset, .unset, .unset] [(.ref b17)])) _ (fun t9 k9 => st40 _ k9) ?_
  have u41 : Keep h0 h40 [] := u35.wr W40 (Or.inr sz_b17)
  have u42 : own_A Z h40 b17 .int 4 (fun j => .int (if j < 1 then (own_4 s0' s1' s2' s3') j else 0)) := own_A_congr (own_A_set Ar38 Sz38 Hv38 W40 (by decide)) (own_setf Value.int (fun j => (own_4 s0' s1' s2' s3') j) 0 0 4)
  refine go (T40.setTop (mkF m 97 #[.val (.int p1), .val (.int p2), .val (.int p3), .val (.int p4), .val (.int (Int32.ofNat k)), .val (.int b0), .val (.int b1), .val (.int b2), .val (.int b3), .val (.int e0'), .val (.int e1'), .val (.int e2'), .val (.int e3'), .val (.int s0'), .val (.int s1'), .val (.int s2'), .val (.int s3'), .unset, .unset, .unset, .unset, .unset, .unset, .unset] [(.int s1'), (.int (1 : Int32)), (.ref b17), (.ref b17)])) _ (fun t9 k9 => ?_) ?_
  · show Steps p.tables e below (T40.setTop (mkF m 93 #[.val (.int p1), .val (.int p2), .val (.int p3), .val (.int p4), .val (.int (Int32.ofNat k)), .val (.int b0), .val (.int b1), .val (.int b2), .val (.int b3), .val (.int e0'), .val (.int e1'), .val (.int e2'), .val (.int e3'), .val (.int s0'), .val (.int s1'), .val (.int s2'), .val (.int s3'), .unset, .unset, .unset, .unset, .unset, .unset, .unset] [(.ref b17)])) _
    refine XS.dup X40.here hx rfl (hb hby at_93) rfl rfl ?_
    show Steps p.tables e below (T40.setTop (mkF m 94 #[.val (.int p1), .val (.int p2), .val (.int p3), .val (.int p4), .val (.int (Int32.ofNat k)), .val (.int b0), .val (.int b1), .val (.int b2), .val (.int b3), .val (.int e0'), .val (.int e1'), .val (.int e2'), .val (.int e3'), .val (.int s0'), .val (.int s1'), .val (.int s2'), .val (.int s3'), .unset, .unset, .unset, .unset, .unset, .unset, .unset] [(.ref b17), (.ref b17)])) _
    refine XS.iconst X40.here hx rfl (hb hby at_94) ?_
    show Steps p.tables e below (T40.setTop (mkF m 95 #[.val (.int p1), .val (.int p2), .val (.int p3), .val (.int p4), .val (.int (Int32.ofNat k)), .val (.int b0), .val (.int b1), .val (.int b2), .val (.int b3), .val (.int e0'), .val (.int e1'), .val (.int e2'), .val (.int e3'), .val (.int s0'), .val (.int s1'), .val (.int s2'), .val (.int s3'), .unset, .unset, .unset, .unset, .unset, .unset, .unset] [(.int (1 : Int32)), (.ref b17), (.ref b17)])) _
    refine XS.iload X40.here hx rfl (hb hby at_95) rfl ?_
    exact k9
  obtain ⟨cl43, Ar43, Sz43, Hv43⟩ := u42
  have u44 : own_A Z h40 b17 .int 4 (fun j => .int (if j < 1 then (own_4 s0' s1' s2' s3') j else 0)) := ⟨cl43, Ar43, Sz43, Hv43⟩
  obtain ⟨T45, h45, X45, e45, W45, st45⟩ := stI X40 hx hZ e40 Ar43 (j := (1 : Int32)) (own_hin Sz43 (by decide) (by decide)) (g := (mkF m 97 #[.val (.int p1), .val (.int p2), .val (.int p3), .val (.int p4), .val (.int (Int32.ofNat k)), .val (.int b0), .val (.int b1), .val (.int b2), .val (.int b3), .val (.int e0'), .val (.int e1'), .val (.int e2'), .val (.int e3'), .val (.int s0'), .val (.int s1'), .val (.int s2'), .val (.int s3'), .unset, .unset, .unset, .unset, .unset, .unset, .unset] [(.int s1'), (.int (1 : Int32)), (.ref b17), (.ref b17)])) rfl rfl (hb hby at_97)
  have N45 := Fr.snoc X45 N40 g_b17
  refine go (T45.setTop (mkF m 98 #[.val (.int p1), .val (.int p2), .val (.int p3), .val (.int p4), .val (.int (Int32.ofNat k)), .val (.int b0), .val (.int b1), .val (.int b2), .val (.int b3), .val (.int e0'), .val (.int e1'), .val (.int e2'), .val (.int e3'), .val (.int s0'), .val (.int s1'), .val (.int s2'), .val (.int s3'), .unset, .unset, .unset, .unset, .unset, .unset, .unset] [(.ref b17)])) _ (fun t9 k9 => st45 _ k9) ?_
  have u46 : Keep h0 h45 [] := u41.wr W45 (Or.inr sz_b17)
  have u47 : own_A Z h45 b17 .int 4 (fun j => .int (if j < 2 then (own_4 s0' s1' s2' s3') j else 0)) := own_A_congr (own_A_set Ar43 Sz43 Hv43 W45 (by decide)) (own_setf Value.int (fun j => (own_4 s0' s1' s2' s3') j) 0 1 4)
  refine go (T45.setTop (mkF m 102 #[.val (.int p1), .val (.int p2), .val (.int p3), .val (.int p4), .val (.int (Int32.ofNat k)), .val (.int b0), .val (.int b1), .val (.int b2), .val (.int b3), .val (.int e0'), .val (.int e1'), .val (.int e2'), .val (.int e3'), .val (.int s0'), .val (.int s1'), .val (.int s2'), .val (.int s3'), .unset, .unset, .unset, .unset, .unset, .unset, .unset] [(.int s2'), (.int (2 : Int32)), (.ref b17), (.ref b17)])) _ (fun t9 k9 => ?_) ?_
  · show Steps p.tables e below (T45.setTop (mkF m 98 #[.val (.int p1), .val (.int p2), .val (.int p3), .val (.int p4), .val (.int (Int32.ofNat k)), .val (.int b0), .val (.int b1), .val (.int b2), .val (.int b3), .val (.int e0'), .val (.int e1'), .val (.int e2'), .val (.int e3'), .val (.int s0'), .val (.int s1'), .val (.int s2'), .val (.int s3'), .unset, .unset, .unset, .unset, .unset, .unset, .unset] [(.ref b17)])) _
    refine XS.dup X45.here hx rfl (hb hby at_98) rfl rfl ?_
    show Steps p.tables e below (T45.setTop (mkF m 99 #[.val (.int p1), .val (.int p2), .val (.int p3), .val (.int p4), .val (.int (Int32.ofNat k)), .val (.int b0), .val (.int b1), .val (.int b2), .val (.int b3), .val (.int e0'), .val (.int e1'), .val (.int e2'), .val (.int e3'), .val (.int s0'), .val (.int s1'), .val (.int s2'), .val (.int s3'), .unset, .unset, .unset, .unset, .unset, .unset, .unset] [(.ref b17), (.ref b17)])) _
    refine XS.iconst X45.here hx rfl (hb hby at_99) ?_
    show Steps p.tables e below (T45.setTop (mkF m 100 #[.val (.int p1), .val (.int p2), .val (.int p3), .val (.int p4), .val (.int (Int32.ofNat k)), .val (.int b0), .val (.int b1), .val (.int b2), .val (.int b3), .val (.int e0'), .val (.int e1'), .val (.int e2'), .val (.int e3'), .val (.int s0'), .val (.int s1'), .val (.int s2'), .val (.int s3'), .unset, .unset, .unset, .unset, .unset, .unset, .unset] [(.int (2 : Int32)), (.ref b17), (.ref b17)])) _
    refine XS.iload X45.here hx rfl (hb hby at_100) rfl ?_
    exact k9
  obtain ⟨cl48, Ar48, Sz48, Hv48⟩ := u47
  have u49 : own_A Z h45 b17 .int 4 (fun j => .int (if j < 2 then (own_4 s0' s1' s2' s3') j else 0)) := ⟨cl48, Ar48, Sz48, Hv48⟩
  obtain ⟨T50, h50, X50, e50, W50, st50⟩ := stI X45 hx hZ e45 Ar48 (j := (2 : Int32)) (own_hin Sz48 (by decide) (by decide)) (g := (mkF m 102 #[.val (.int p1), .val (.int p2), .val (.int p3), .val (.int p4), .val (.int (Int32.ofNat k)), .val (.int b0), .val (.int b1), .val (.int b2), .val (.int b3), .val (.int e0'), .val (.int e1'), .val (.int e2'), .val (.int e3'), .val (.int s0'), .val (.int s1'), .val (.int s2'), .val (.int s3'), .unset, .unset, .unset, .unset, .unset, .unset, .unset] [(.int s2'), (.int (2 : Int32)), (.ref b17), (.ref b17)])) rfl rfl (hb hby at_102)
  have N50 := Fr.snoc X50 N45 g_b17
  refine go (T50.setTop (mkF m 103 #[.val (.int p1), .val (.int p2), .val (.int p3), .val (.int p4), .val (.int (Int32.ofNat k)), .val (.int b0), .val (.int b1), .val (.int b2), .val (.int b3), .val (.int e0'), .val (.int e1'), .val (.int e2'), .val (.int e3'), .val (.int s0'), .val (.int s1'), .val (.int s2'), .val (.int s3'), .unset, .unset, .unset, .unset, .unset, .unset, .unset] [(.ref b17)])) _ (fun t9 k9 => st50 _ k9) ?_
  have u51 : Keep h0 h50 [] := u46.wr W50 (Or.inr sz_b17)
  have u52 : own_A Z h50 b17 .int 4 (fun j => .int (if j < 3 then (own_4 s0' s1' s2' s3') j else 0)) := own_A_congr (own_A_set Ar48 Sz48 Hv48 W50 (by decide)) (own_setf Value.int (fun j => (own_4 s0' s1' s2' s3') j) 0 2 4)
  refine go (T50.setTop (mkF m 107 #[.val (.int p1), .val (.int p2), .val (.int p3), .val (.int p4), .val (.int (Int32.ofNat k)), .val (.int b0), .val (.int b1), .val (.int b2), .val (.int b3), .val (.int e0'), .val (.int e1'), .val (.int e2'), .val (.int e3'), .val (.int s0'), .val (.int s1'), .val (.int s2'), .val (.int s3'), .unset, .unset, .unset, .unset, .unset, .unset, .unset] [(.int s3'), (.int (3 : Int32)), (.ref b17), (.ref b17)])) _ (fun t9 k9 => ?_) ?_
  · show Steps p.tables e below (T50.setTop (mkF m 103 #[.val (.int p1), .val (.int p2), .val (.int p3), .val (.int p4), .val (.int (Int32.ofNat k)), .val (.int b0), .val (.int b1), .val (.int b2), .val (.int b3), .val (.int e0'), .val (.int e1'), .val (.int e2'), .val (.int e3'), .val (.int s0'), .val (.int s1'), .val (.int s2'), .val (.int s3'), .unset, .unset, .unset, .unset, .unset, .unset, .unset] [(.ref b17)])) _
    refine XS.dup X50.here hx rfl (hb hby at_103) rfl rfl ?_
    show Steps p.tables e below (T50.setTop (mkF m 104 #[.val (.int p1), .val (.int p2), .val (.int p3), .val (.int p4), .val (.int (Int32.ofNat k)), .val (.int b0), .val (.int b1), .val (.int b2), .val (.int b3), .val (.int e0'), .val (.int e1'), .val (.int e2'), .val (.int e3'), .val (.int s0'), .val (.int s1'), .val (.int s2'), .val (.int s3'), .unset, .unset, .unset, .unset, .unset, .unset, .unset] [(.ref b17), (.ref b17)])) _
    refine XS.iconst X50.here hx rfl (hb hby at_104) ?_
    show Steps p.tables e below (T50.setTop (mkF m 105 #[.val (.int p1), .val (.int p2), .val (.int p3), .val (.int p4), .val (.int (Int32.ofNat k)), .val (.int b0), .val (.int b1), .val (.int b2), .val (.int b3), .val (.int e0'), .val (.int e1'), .val (.int e2'), .val (.int e3'), .val (.int s0'), .val (.int s1'), .val (.int s2'), .val (.int s3'), .unset, .unset, .unset, .unset, .unset, .unset, .unset] [(.int (3 : Int32)), (.ref b17), (.ref b17)])) _
    refine XS.iload X50.here hx rfl (hb hby at_105) rfl ?_
    exact k9
  obtain ⟨cl53, Ar53, Sz53, Hv53⟩ := u52
  have u54 : own_A Z h50 b17 .int 4 (fun j => .int (if j < 3 then (own_4 s0' s1' s2' s3') j else 0)) := ⟨cl53, Ar53, Sz53, Hv53⟩
  obtain ⟨T55, h55, X55, e55, W55, st55⟩ := stI X50 hx hZ e50 Ar53 (j := (3 : Int32)) (own_hin Sz53 (by decide) (by decide)) (g := (mkF m 107 #[.val (.int p1), .val (.int p2), .val (.int p3), .val (.int p4), .val (.int (Int32.ofNat k)), .val (.int b0), .val (.int b1), .val (.int b2), .val (.int b3), .val (.int e0'), .val (.int e1'), .val (.int e2'), .val (.int e3'), .val (.int s0'), .val (.int s1'), .val (.int s2'), .val (.int s3'), .unset, .unset, .unset, .unset, .unset, .unset, .unset] [(.int s3'), (.int (3 : Int32)), (.ref b17), (.ref b17)])) rfl rfl (hb hby at_107)
  have N55 := Fr.snoc X55 N50 g_b17
  refine go (T55.setTop (mkF m 108 #[.val (.int p1), .val (.int p2), .val (.int p3), .val (.int p4), .val (.int (Int32.ofNat k)), .val (.int b0), .val (.int b1), .val (.int b2), .val (.int b3), .val (.int e0'), .val (.int e1'), .val (.int e2'), .val (.int e3'), .val (.int s0'), .val (.int s1'), .val (.int s2'), .val (.int s3'), .unset, .unset, .unset, .unset, .unset, .unset, .unset] [(.ref b17)])) _ (fun t9 k9 => st55 _ k9) ?_
  have u56 : Keep h0 h55 [] := u51.wr W55 (Or.inr sz_b17)
  have u57 : own_A Z h55 b17 .int 4 (fun j => .int (if j < 4 then (own_4 s0' s1' s2' s3') j else 0)) := own_A_congr (own_A_set Ar53 Sz53 Hv53 W55 (by decide)) (own_setf Value.int (fun j => (own_4 s0' s1' s2' s3') j) 0 3 4)
  have u58 : own_A Z h55 b17 .int 4 (fun j => .int ((own_4 s0' s1' s2' s3') j)) := own_A_congr u57 (own_full Value.int (fun j => (own_4 s0' s1' s2' s3') j) 0 4)
  refine go (T55.setTop (mkF m 111 #[.val (.int p1), .val (.int p2), .val (.int p3), .val (.int p4), .val (.int (Int32.ofNat k)), .val (.int b0), .val (.int b1), .val (.int b2), .val (.int b3), .val (.int e0'), .val (.int e1'), .val (.int e2'), .val (.int e3'), .val (.int s0'), .val (.int s1'), .val (.int s2'), .val (.int s3'), .val (.ref b17), .unset, .unset, .unset, .unset, .unset, .unset] [(.int (4 : Int32))])) _ (fun t9 k9 => ?_) ?_
  · show Steps p.tables e below (T55.setTop (mkF m 108 #[.val (.int p1), .val (.int p2), .val (.int p3), .val (.int p4), .val (.int (Int32.ofNat k)), .val (.int b0), .val (.int b1), .val (.int b2), .val (.int b3), .val (.int e0'), .val (.int e1'), .val (.int e2'), .val (.int e3'), .val (.int s0'), .val (.int s1'), .val (.int s2'), .val (.int s3'), .unset, .unset, .unset, .unset, .unset, .unset, .unset] [(.ref b17)])) _
    refine XS.astore X55.here hx rfl (hb hby at_108) rfl rfl (l' := #[.val (.int p1), .val (.int p2), .val (.int p3), .val (.int p4), .val (.int (Int32.ofNat k)), .val (.int b0), .val (.int b1), .val (.int b2), .val (.int b3), .val (.int e0'), .val (.int e1'), .val (.int e2'), .val (.int e3'), .val (.int s0'), .val (.int s1'), .val (.int s2'), .val (.int s3'), .val (.ref b17), .unset, .unset, .unset, .unset, .unset, .unset]) rfl ?_
    show Steps p.tables e below (T55.setTop (mkF m 110 #[.val (.int p1), .val (.int p2), .val (.int p3), .val (.int p4), .val (.int (Int32.ofNat k)), .val (.int b0), .val (.int b1), .val (.int b2), .val (.int b3), .val (.int e0'), .val (.int e1'), .val (.int e2'), .val (.int e3'), .val (.int s0'), .val (.int s1'), .val (.int s2'), .val (.int s3'), .val (.ref b17), .unset, .unset, .unset, .unset, .unset, .unset] [])) _
    refine XS.iconst X55.here hx rfl (hb hby at_110) ?_
    exact k9
  obtain ⟨T59, h59, k59, X59, e59, E59, A59, st59⟩ := newP X55 hx hZ (hw _ (List.mem_of_getElem? (i := 2) rfl)) e55 (g := (mkF m 111 #[.val (.int p1), .val (.int p2), .val (.int p3), .val (.int p4), .val (.int (Int32.ofNat k)), .val (.int b0), .val (.int b1), .val (.int b2), .val (.int b3), .val (.int e0'), .val (.int e1'), .val (.int e2'), .val (.int e3'), .val (.int s0'), .val (.int s1'), .val (.int s2'), .val (.int s3'), .val (.ref b17), .unset, .unset, .unset, .unset, .unset, .unset] [(.int (4 : Int32))])) rfl (hb hby at_111) rfl (by decide) (cap := 4) (by decide) (by decide) (by decide) (by decide)
  obtain ⟨b18, g59⟩ : ∃ z, z = h55.size := ⟨_, rfl⟩
  rw [← g59] at A59 st59
  refine go (T59.setTop (mkF m 113 #[.val (.int p1), .val (.int p2), .val (.int p3), .val (.int p4), .val (.int (Int32.ofNat k)), .val (.int b0), .val (.int b1), .val (.int b2), .val (.int b3), .val (.int e0'), .val (.int e1'), .val (.int e2'), .val (.int e3'), .val (.int s0'), .val (.int s1'), .val (.int s2'), .val (.int s3'), .val (.ref b17), .unset, .unset, .unset, .unset, .unset, .unset] [(.ref b18)])) _ (fun t9 k9 => st59 _ k9) ?_
  have ne60 : b17 ≠ b18 := Nat.ne_of_lt (Nat.lt_of_lt_of_le (own_A_lt u58) (Nat.le_of_eq g59.symm))
  have sz_b18 : h0.size ≤ b18 := Nat.le_trans u56.1 (Nat.le_of_eq g59.symm)
  have g_b18 : n0 ≤ b18 := Nat.le_trans Z0 sz_b18
  have u61 : own_A Z h59 b17 .int 4 (fun j => .int ((own_4 s0' s1' s2' s3') j)) := own_A_ext u58 E59
  have u62 : Keep h0 h59 [] := u56.ext E59
  have u63 : own_A Z h59 b18 .double 4 (fun _ => (.double 0)) := own_A_new A59 rfl
  have u64 : own_A Z h59 b18 .double 4 (fun j => .double (if j < 0 then FP.i2d ((own_4 s0' s1' s2' s3') j) else 0)) := own_A_congr u63 (own_zero Value.double (fun j => FP.i2d ((own_4 s0' s1' s2' s3') j)) 0 4)
  refine go (T59.setTop (mkF m 118 #[.val (.int p1), .val (.int p2), .val (.int p3), .val (.int p4), .val (.int (Int32.ofNat k)), .val (.int b0), .val (.int b1), .val (.int b2), .val (.int b3), .val (.int e0'), .val (.int e1'), .val (.int e2'), .val (.int e3'), .val (.int s0'), .val (.int s1'), .val (.int s2'), .val (.int s3'), .val (.ref b17), .unset, .unset, .unset, .unset, .unset, .unset] [(.double (FP.i2d s0')), (.int (0 : Int32)), (.ref b18), (.ref b18)])) _ (fun t9 k9 => ?_) ?_
  · show Steps p.tables e below (T59.setTop (mkF m 113 #[.val (.int p1), .val (.int p2), .val (.int p3), .val (.int p4), .val (.int (Int32.ofNat k)), .val (.int b0), .val (.int b1), .val (.int b2), .val (.int b3), .val (.int e0'), .val (.int e1'), .val (.int e2'), .val (.int e3'), .val (.int s0'), .val (.int s1'), .val (.int s2'), .val (.int s3'), .val (.ref b17), .unset, .unset, .unset, .unset, .unset, .unset] [(.ref b18)])) _
    refine XS.dup X59.here hx rfl (hb hby at_113) rfl rfl ?_
    show Steps p.tables e below (T59.setTop (mkF m 114 #[.val (.int p1), .val (.int p2), .val (.int p3), .val (.int p4), .val (.int (Int32.ofNat k)), .val (.int b0), .val (.int b1), .val (.int b2), .val (.int b3), .val (.int e0'), .val (.int e1'), .val (.int e2'), .val (.int e3'), .val (.int s0'), .val (.int s1'), .val (.int s2'), .val (.int s3'), .val (.ref b17), .unset, .unset, .unset, .unset, .unset, .unset] [(.ref b18), (.ref b18)])) _
    refine XS.iconst X59.here hx rfl (hb hby at_114) ?_
    show Steps p.tables e below (T59.setTop (mkF m 115 #[.val (.int p1), .val (.int p2), .val (.int p3), .val (.int p4), .val (.int (Int32.ofNat k)), .val (.int b0), .val (.int b1), .val (.int b2), .val (.int b3), .val (.int e0'), .val (.int e1'), .val (.int e2'), .val (.int e3'), .val (.int s0'), .val (.int s1'), .val (.int s2'), .val (.int s3'), .val (.ref b17), .unset, .unset, .unset, .unset, .unset, .unset] [(.int (0 : Int32)), (.ref b18), (.ref b18)])) _
    refine XS.iload X59.here hx rfl (hb hby at_115) rfl ?_
    show Steps p.tables e below (T59.setTop (mkF m 117 #[.val (.int p1), .val (.int p2), .val (.int p3), .val (.int p4), .val (.int (Int32.ofNat k)), .val (.int b0), .val (.int b1), .val (.int b2), .val (.int b3), .val (.int e0'), .val (.int e1'), .val (.int e2'), .val (.int e3'), .val (.int s0'), .val (.int s1'), .val (.int s2'), .val (.int s3'), .val (.ref b17), .unset, .unset, .unset, .unset, .unset, .unset] [(.int s0'), (.int (0 : Int32)), (.ref b18), (.ref b18)])) _
    refine XS.i2dS X59.here hx rfl (hb hby at_117) rfl rfl ?_
    exact k9
  obtain ⟨cl65, Ar65, Sz65, Hv65⟩ := u64
  have u66 : own_A Z h59 b18 .double 4 (fun j => .double (if j < 0 then FP.i2d ((own_4 s0' s1' s2' s3') j) else 0)) := ⟨cl65, Ar65, Sz65, Hv65⟩
  obtain ⟨T67, h67, X67, e67, W67, st67⟩ := stD X59 hx hZ e59 Ar65 (j := (0 : Int32)) (own_hin Sz65 (by decide) (by decide)) (g := (mkF m 118 #[.val (.int p1), .val (.int p2), .val (.int p3), .val (.int p4), .val (.int (Int32.ofNat k)), .val (.int b0), .val (.int b1), .val (.int b2), .val (.int b3), .val (.int e0'), .val (.int e1'), .val (.int e2'), .val (.int e3'), .val (.int s0'), .val (.int s1'), .val (.int s2'), .val (.int s3'), .val (.ref b17), .unset, .unset, .unset, .unset, .unset, .unset] [(.double (FP.i2d s0')), (.int (0 : Int32)), (.ref b18), (.ref b18)])) rfl rfl (hb hby at_118)
  have N67 := Fr.snoc X67 N55 g_b18
  refine go (T67.setTop (mkF m 119 #[.val (.int p1), .val (.int p2), .val (.int p3), .val (.int p4), .val (.int (Int32.ofNat k)), .val (.int b0), .val (.int b1), .val (.int b2), .val (.int b3), .val (.int e0'), .val (.int e1'), .val (.int e2'), .val (.int e3'), .val (.int s0'), .val (.int s1'), .val (.int s2'), .val (.int s3'), .val (.ref b17), .unset, .unset, .unset, .unset, .unset, .unset] [(.ref b18)])) _ (fun t9 k9 => st67 _ k9) ?_
  have u68 : own_A Z h67 b17 .int 4 (fun j => .int ((own_4 s0' s1' s2' s3') j)) := own_A_other u61 W67 ne60
  have u69 : Keep h0 h67 [] := u62.wr W67 (Or.inr sz_b18)
  have u70 : own_A Z h67 b18 .double 4 (fun j => .double (if j < 1 then FP.i2d ((own_4 s0' s1' s2' s3') j) else 0)) := own_A_congr (own_A_set Ar65 Sz65 Hv65 W67 (by decide)) (own_setf Value.double (fun j => FP.i2d ((own_4 s0' s1' s2' s3') j)) 0 0 4)
  refine go (T67.setTop (mkF m 124 #[.val (.int p1), .val (.int p2), .val (.int p3), .val (.int p4), .val (.int (Int32.ofNat k)), .val (.int b0), .val (.int b1), .val (.int b2), .val (.int b3), .val (.int e0'), .val (.int e1'), .val (.int e2'), .val (.int e3'), .val (.int s0'), .val (.int s1'), .val (.int s2'), .val (.int s3'), .val (.ref b17), .unset, .unset, .unset, .unset, .unset, .unset] [(.double (FP.i2d s1')), (.int (1 : Int32)), (.ref b18), (.ref b18)])) _ (fun t9 k9 => ?_) ?_
  · show Steps p.tables e below (T67.setTop (mkF m 119 #[.val (.int p1), .val (.int p2), .val (.int p3), .val (.int p4), .val (.int (Int32.ofNat k)), .val (.int b0), .val (.int b1), .val (.int b2), .val (.int b3), .val (.int e0'), .val (.int e1'), .val (.int e2'), .val (.int e3'), .val (.int s0'), .val (.int s1'), .val (.int s2'), .val (.int s3'), .val (.ref b17), .unset, .unset, .unset, .unset, .unset, .unset] [(.ref b18)])) _
    refine XS.dup X67.here hx rfl (hb hby at_119) rfl rfl ?_
    show Steps p.tables e below (T67.setTop (mkF m 120 #[.val (.int p1), .val (.int p2), .val (.int p3), .val (.int p4), .val (.int (Int32.ofNat k)), .val (.int b0), .val (.int b1), .val (.int b2), .val (.int b3), .val (.int e0'), .val (.int e1'), .val (.int e2'), .val (.int e3'), .val (.int s0'), .val (.int s1'), .val (.int s2'), .val (.int s3'), .val (.ref b17), .unset, .unset, .unset, .unset, .unset, .unset] [(.ref b18), (.ref b18)])) _
    refine XS.iconst X67.here hx rfl (hb hby at_120) ?_
    show Steps p.tables e below (T67.setTop (mkF m 121 #[.val (.int p1), .val (.int p2), .val (.int p3), .val (.int p4), .val (.int (Int32.ofNat k)), .val (.int b0), .val (.int b1), .val (.int b2), .val (.int b3), .val (.int e0'), .val (.int e1'), .val (.int e2'), .val (.int e3'), .val (.int s0'), .val (.int s1'), .val (.int s2'), .val (.int s3'), .val (.ref b17), .unset, .unset, .unset, .unset, .unset, .unset] [(.int (1 : Int32)), (.ref b18), (.ref b18)])) _
    refine XS.iload X67.here hx rfl (hb hby at_121) rfl ?_
    show Steps p.tables e below (T67.setTop (mkF m 123 #[.val (.int p1), .val (.int p2), .val (.int p3), .val (.int p4), .val (.int (Int32.ofNat k)), .val (.int b0), .val (.int b1), .val (.int b2), .val (.int b3), .val (.int e0'), .val (.int e1'), .val (.int e2'), .val (.int e3'), .val (.int s0'), .val (.int s1'), .val (.int s2'), .val (.int s3'), .val (.ref b17), .unset, .unset, .unset, .unset, .unset, .unset] [(.int s1'), (.int (1 : Int32)), (.ref b18), (.ref b18)])) _
    refine XS.i2dS X67.here hx rfl (hb hby at_123) rfl rfl ?_
    exact k9
  obtain ⟨cl71, Ar71, Sz71, Hv71⟩ := u70
  have u72 : own_A Z h67 b18 .double 4 (fun j => .double (if j < 1 then FP.i2d ((own_4 s0' s1' s2' s3') j) else 0)) := ⟨cl71, Ar71, Sz71, Hv71⟩
  obtain ⟨T73, h73, X73, e73, W73, st73⟩ := stD X67 hx hZ e67 Ar71 (j := (1 : Int32)) (own_hin Sz71 (by decide) (by decide)) (g := (mkF m 124 #[.val (.int p1), .val (.int p2), .val (.int p3), .val (.int p4), .val (.int (Int32.ofNat k)), .val (.int b0), .val (.int b1), .val (.int b2), .val (.int b3), .val (.int e0'), .val (.int e1'), .val (.int e2'), .val (.int e3'), .val (.int s0'), .val (.int s1'), .val (.int s2'), .val (.int s3'), .val (.ref b17), .unset, .unset, .unset, .unset, .unset, .unset] [(.double (FP.i2d s1')), (.int (1 : Int32)), (.ref b18), (.ref b18)])) rfl rfl (hb hby at_124)
  have N73 := Fr.snoc X73 N67 g_b18
  refine go (T73.setTop (mkF m 125 #[.val (.int p1), .val (.int p2), .val (.int p3), .val (.int p4), .val (.int (Int32.ofNat k)), .val (.int b0), .val (.int b1), .val (.int b2), .val (.int b3), .val (.int e0'), .val (.int e1'), .val (.int e2'), .val (.int e3'), .val (.int s0'), .val (.int s1'), .val (.int s2'), .val (.int s3'), .val (.ref b17), .unset, .unset, .unset, .unset, .unset, .unset] [(.ref b18)])) _ (fun t9 k9 => st73 _ k9) ?_
  have u74 : own_A Z h73 b17 .int 4 (fun j => .int ((own_4 s0' s1' s2' s3') j)) := own_A_other u68 W73 ne60
  have u75 : Keep h0 h73 [] := u69.wr W73 (Or.inr sz_b18)
  have u76 : own_A Z h73 b18 .double 4 (fun j => .double (if j < 2 then FP.i2d ((own_4 s0' s1' s2' s3') j) else 0)) := own_A_congr (own_A_set Ar71 Sz71 Hv71 W73 (by decide)) (own_setf Value.double (fun j => FP.i2d ((own_4 s0' s1' s2' s3') j)) 0 1 4)
  refine go (T73.setTop (mkF m 130 #[.val (.int p1), .val (.int p2), .val (.int p3), .val (.int p4), .val (.int (Int32.ofNat k)), .val (.int b0), .val (.int b1), .val (.int b2), .val (.int b3), .val (.int e0'), .val (.int e1'), .val (.int e2'), .val (.int e3'), .val (.int s0'), .val (.int s1'), .val (.int s2'), .val (.int s3'), .val (.ref b17), .unset, .unset, .unset, .unset, .unset, .unset] [(.double (FP.i2d s2')), (.int (2 : Int32)), (.ref b18), (.ref b18)])) _ (fun t9 k9 => ?_) ?_
  · show Steps p.tables e below (T73.setTop (mkF m 125 #[.val (.int p1), .val (.int p2), .val (.int p3), .val (.int p4), .val (.int (Int32.ofNat k)), .val (.int b0), .val (.int b1), .val (.int b2), .val (.int b3), .val (.int e0'), .val (.int e1'), .val (.int e2'), .val (.int e3'), .val (.int s0'), .val (.int s1'), .val (.int s2'), .val (.int s3'), .val (.ref b17), .unset, .unset, .unset, .unset, .unset, .unset] [(.ref b18)])) _
    refine XS.dup X73.here hx rfl (hb hby at_125) rfl rfl ?_
    show Steps p.tables e below (T73.setTop (mkF m 126 #[.val (.int p1), .val (.int p2), .val (.int p3), .val (.int p4), .val (.int (Int32.ofNat k)), .val (.int b0), .val (.int b1), .val (.int b2), .val (.int b3), .val (.int e0'), .val (.int e1'), .val (.int e2'), .val (.int e3'), .val (.int s0'), .val (.int s1'), .val (.int s2'), .val (.int s3'), .val (.ref b17), .unset, .unset, .unset, .unset, .unset, .unset] [(.ref b18), (.ref b18)])) _
    refine XS.iconst X73.here hx rfl (hb hby at_126) ?_
    show Steps p.tables e below (T73.setTop (mkF m 127 #[.val (.int p1), .val (.int p2), .val (.int p3), .val (.int p4), .val (.int (Int32.ofNat k)), .val (.int b0), .val (.int b1), .val (.int b2), .val (.int b3), .val (.int e0'), .val (.int e1'), .val (.int e2'), .val (.int e3'), .val (.int s0'), .val (.int s1'), .val (.int s2'), .val (.int s3'), .val (.ref b17), .unset, .unset, .unset, .unset, .unset, .unset] [(.int (2 : Int32)), (.ref b18), (.ref b18)])) _
    refine XS.iload X73.here hx rfl (hb hby at_127) rfl ?_
    show Steps p.tables e below (T73.setTop (mkF m 129 #[.val (.int p1), .val (.int p2), .val (.int p3), .val (.int p4), .val (.int (Int32.ofNat k)), .val (.int b0), .val (.int b1), .val (.int b2), .val (.int b3), .val (.int e0'), .val (.int e1'), .val (.int e2'), .val (.int e3'), .val (.int s0'), .val (.int s1'), .val (.int s2'), .val (.int s3'), .val (.ref b17), .unset, .unset, .unset, .unset, .unset, .unset] [(.int s2'), (.int (2 : Int32)), (.ref b18), (.ref b18)])) _
    refine XS.i2dS X73.here hx rfl (hb hby at_129) rfl rfl ?_
    exact k9
  obtain ⟨cl77, Ar77, Sz77, Hv77⟩ := u76
  have u78 : own_A Z h73 b18 .double 4 (fun j => .double (if j < 2 then FP.i2d ((own_4 s0' s1' s2' s3') j) else 0)) := ⟨cl77, Ar77, Sz77, Hv77⟩
  obtain ⟨T79, h79, X79, e79, W79, st79⟩ := stD X73 hx hZ e73 Ar77 (j := (2 : Int32)) (own_hin Sz77 (by decide) (by decide)) (g := (mkF m 130 #[.val (.int p1), .val (.int p2), .val (.int p3), .val (.int p4), .val (.int (Int32.ofNat k)), .val (.int b0), .val (.int b1), .val (.int b2), .val (.int b3), .val (.int e0'), .val (.int e1'), .val (.int e2'), .val (.int e3'), .val (.int s0'), .val (.int s1'), .val (.int s2'), .val (.int s3'), .val (.ref b17), .unset, .unset, .unset, .unset, .unset, .unset] [(.double (FP.i2d s2')), (.int (2 : Int32)), (.ref b18), (.ref b18)])) rfl rfl (hb hby at_130)
  have N79 := Fr.snoc X79 N73 g_b18
  refine go (T79.setTop (mkF m 131 #[.val (.int p1), .val (.int p2), .val (.int p3), .val (.int p4), .val (.int (Int32.ofNat k)), .val (.int b0), .val (.int b1), .val (.int b2), .val (.int b3), .val (.int e0'), .val (.int e1'), .val (.int e2'), .val (.int e3'), .val (.int s0'), .val (.int s1'), .val (.int s2'), .val (.int s3'), .val (.ref b17), .unset, .unset, .unset, .unset, .unset, .unset] [(.ref b18)])) _ (fun t9 k9 => st79 _ k9) ?_
  have u80 : own_A Z h79 b17 .int 4 (fun j => .int ((own_4 s0' s1' s2' s3') j)) := own_A_other u74 W79 ne60
  have u81 : Keep h0 h79 [] := u75.wr W79 (Or.inr sz_b18)
  have u82 : own_A Z h79 b18 .double 4 (fun j => .double (if j < 3 then FP.i2d ((own_4 s0' s1' s2' s3') j) else 0)) := own_A_congr (own_A_set Ar77 Sz77 Hv77 W79 (by decide)) (own_setf Value.double (fun j => FP.i2d ((own_4 s0' s1' s2' s3') j)) 0 2 4)
  refine go (T79.setTop (mkF m 136 #[.val (.int p1), .val (.int p2), .val (.int p3), .val (.int p4), .val (.int (Int32.ofNat k)), .val (.int b0), .val (.int b1), .val (.int b2), .val (.int b3), .val (.int e0'), .val (.int e1'), .val (.int e2'), .val (.int e3'), .val (.int s0'), .val (.int s1'), .val (.int s2'), .val (.int s3'), .val (.ref b17), .unset, .unset, .unset, .unset, .unset, .unset] [(.double (FP.i2d s3')), (.int (3 : Int32)), (.ref b18), (.ref b18)])) _ (fun t9 k9 => ?_) ?_
  · show Steps p.tables e below (T79.setTop (mkF m 131 #[.val (.int p1), .val (.int p2), .val (.int p3), .val (.int p4), .val (.int (Int32.ofNat k)), .val (.int b0), .val (.int b1), .val (.int b2), .val (.int b3), .val (.int e0'), .val (.int e1'), .val (.int e2'), .val (.int e3'), .val (.int s0'), .val (.int s1'), .val (.int s2'), .val (.int s3'), .val (.ref b17), .unset, .unset, .unset, .unset, .unset, .unset] [(.ref b18)])) _
    refine XS.dup X79.here hx rfl (hb hby at_131) rfl rfl ?_
    show Steps p.tables e below (T79.setTop (mkF m 132 #[.val (.int p1), .val (.int p2), .val (.int p3), .val (.int p4), .val (.int (Int32.ofNat k)), .val (.int b0), .val (.int b1), .val (.int b2), .val (.int b3), .val (.int e0'), .val (.int e1'), .val (.int e2'), .val (.int e3'), .val (.int s0'), .val (.int s1'), .val (.int s2'), .val (.int s3'), .val (.ref b17), .unset, .unset, .unset, .unset, .unset, .unset] [(.ref b18), (.ref b18)])) _
    refine XS.iconst X79.here hx rfl (hb hby at_132) ?_
    show Steps p.tables e below (T79.setTop (mkF m 133 #[.val (.int p1), .val (.int p2), .val (.int p3), .val (.int p4), .val (.int (Int32.ofNat k)), .val (.int b0), .val (.int b1), .val (.int b2), .val (.int b3), .val (.int e0'), .val (.int e1'), .val (.int e2'), .val (.int e3'), .val (.int s0'), .val (.int s1'), .val (.int s2'), .val (.int s3'), .val (.ref b17), .unset, .unset, .unset, .unset, .unset, .unset] [(.int (3 : Int32)), (.ref b18), (.ref b18)])) _
    refine XS.iload X79.here hx rfl (hb hby at_133) rfl ?_
    show Steps p.tables e below (T79.setTop (mkF m 135 #[.val (.int p1), .val (.int p2), .val (.int p3), .val (.int p4), .val (.int (Int32.ofNat k)), .val (.int b0), .val (.int b1), .val (.int b2), .val (.int b3), .val (.int e0'), .val (.int e1'), .val (.int e2'), .val (.int e3'), .val (.int s0'), .val (.int s1'), .val (.int s2'), .val (.int s3'), .val (.ref b17), .unset, .unset, .unset, .unset, .unset, .unset] [(.int s3'), (.int (3 : Int32)), (.ref b18), (.ref b18)])) _
    refine XS.i2dS X79.here hx rfl (hb hby at_135) rfl rfl ?_
    exact k9
  obtain ⟨cl83, Ar83, Sz83, Hv83⟩ := u82
  have u84 : own_A Z h79 b18 .double 4 (fun j => .double (if j < 3 then FP.i2d ((own_4 s0' s1' s2' s3') j) else 0)) := ⟨cl83, Ar83, Sz83, Hv83⟩
  obtain ⟨T85, h85, X85, e85, W85, st85⟩ := stD X79 hx hZ e79 Ar83 (j := (3 : Int32)) (own_hin Sz83 (by decide) (by decide)) (g := (mkF m 136 #[.val (.int p1), .val (.int p2), .val (.int p3), .val (.int p4), .val (.int (Int32.ofNat k)), .val (.int b0), .val (.int b1), .val (.int b2), .val (.int b3), .val (.int e0'), .val (.int e1'), .val (.int e2'), .val (.int e3'), .val (.int s0'), .val (.int s1'), .val (.int s2'), .val (.int s3'), .val (.ref b17), .unset, .unset, .unset, .unset, .unset, .unset] [(.double (FP.i2d s3')), (.int (3 : Int32)), (.ref b18), (.ref b18)])) rfl rfl (hb hby at_136)
  have N85 := Fr.snoc X85 N79 g_b18
  refine go (T85.setTop (mkF m 137 #[.val (.int p1), .val (.int p2), .val (.int p3), .val (.int p4), .val (.int (Int32.ofNat k)), .val (.int b0), .val (.int b1), .val (.int b2), .val (.int b3), .val (.int e0'), .val (.int e1'), .val (.int e2'), .val (.int e3'), .val (.int s0'), .val (.int s1'), .val (.int s2'), .val (.int s3'), .val (.ref b17), .unset, .unset, .unset, .unset, .unset, .unset] [(.ref b18)])) _ (fun t9 k9 => st85 _ k9) ?_
  have u86 : own_A Z h85 b17 .int 4 (fun j => .int ((own_4 s0' s1' s2' s3') j)) := own_A_other u80 W85 ne60
  have u87 : Keep h0 h85 [] := u81.wr W85 (Or.inr sz_b18)
  have u88 : own_A Z h85 b18 .double 4 (fun j => .double (if j < 4 then FP.i2d ((own_4 s0' s1' s2' s3') j) else 0)) := own_A_congr (own_A_set Ar83 Sz83 Hv83 W85 (by decide)) (own_setf Value.double (fun j => FP.i2d ((own_4 s0' s1' s2' s3') j)) 0 3 4)
  have u89 : own_A Z h85 b18 .double 4 (fun j => .double (FP.i2d ((own_4 s0' s1' s2' s3') j))) := own_A_congr u88 (own_full Value.double (fun j => FP.i2d ((own_4 s0' s1' s2' s3') j)) 0 4)
  refine go (T85.setTop (mkF m 140 #[.val (.int p1), .val (.int p2), .val (.int p3), .val (.int p4), .val (.int (Int32.ofNat k)), .val (.int b0), .val (.int b1), .val (.int b2), .val (.int b3), .val (.int e0'), .val (.int e1'), .val (.int e2'), .val (.int e3'), .val (.int s0'), .val (.int s1'), .val (.int s2'), .val (.int s3'), .val (.ref b17), .val (.ref b18), .unset, .unset, .unset, .unset, .unset] [(.int (4 : Int32))])) _ (fun t9 k9 => ?_) ?_
  · show Steps p.tables e below (T85.setTop (mkF m 137 #[.val (.int p1), .val (.int p2), .val (.int p3), .val (.int p4), .val (.int (Int32.ofNat k)), .val (.int b0), .val (.int b1), .val (.int b2), .val (.int b3), .val (.int e0'), .val (.int e1'), .val (.int e2'), .val (.int e3'), .val (.int s0'), .val (.int s1'), .val (.int s2'), .val (.int s3'), .val (.ref b17), .unset, .unset, .unset, .unset, .unset, .unset] [(.ref b18)])) _
    refine XS.astore X85.here hx rfl (hb hby at_137) rfl rfl (l' := #[.val (.int p1), .val (.int p2), .val (.int p3), .val (.int p4), .val (.int (Int32.ofNat k)), .val (.int b0), .val (.int b1), .val (.int b2), .val (.int b3), .val (.int e0'), .val (.int e1'), .val (.int e2'), .val (.int e3'), .val (.int s0'), .val (.int s1'), .val (.int s2'), .val (.int s3'), .val (.ref b17), .val (.ref b18), .unset, .unset, .unset, .unset, .unset]) rfl ?_
    show Steps p.tables e below (T85.setTop (mkF m 139 #[.val (.int p1), .val (.int p2), .val (.int p3), .val (.int p4), .val (.int (Int32.ofNat k)), .val (.int b0), .val (.int b1), .val (.int b2), .val (.int b3), .val (.int e0'), .val (.int e1'), .val (.int e2'), .val (.int e3'), .val (.int s0'), .val (.int s1'), .val (.int s2'), .val (.int s3'), .val (.ref b17), .val (.ref b18), .unset, .unset, .unset, .unset, .unset] [])) _
    refine XS.iconst X85.here hx rfl (hb hby at_139) ?_
    exact k9
  obtain ⟨T90, h90, k90, X90, e90, E90, A90, st90⟩ := newP X85 hx hZ (hw _ (List.mem_of_getElem? (i := 2) rfl)) e85 (g := (mkF m 140 #[.val (.int p1), .val (.int p2), .val (.int p3), .val (.int p4), .val (.int (Int32.ofNat k)), .val (.int b0), .val (.int b1), .val (.int b2), .val (.int b3), .val (.int e0'), .val (.int e1'), .val (.int e2'), .val (.int e3'), .val (.int s0'), .val (.int s1'), .val (.int s2'), .val (.int s3'), .val (.ref b17), .val (.ref b18), .unset, .unset, .unset, .unset, .unset] [(.int (4 : Int32))])) rfl (hb hby at_140) rfl (by decide) (cap := 4) (by decide) (by decide) (by decide) (by decide)
  obtain ⟨b19, g90⟩ : ∃ z, z = h85.size := ⟨_, rfl⟩
  rw [← g90] at A90 st90
  refine go (T90.setTop (mkF m 142 #[.val (.int p1), .val (.int p2), .val (.int p3), .val (.int p4), .val (.int (Int32.ofNat k)), .val (.int b0), .val (.int b1), .val (.int b2), .val (.int b3), .val (.int e0'), .val (.int e1'), .val (.int e2'), .val (.int e3'), .val (.int s0'), .val (.int s1'), .val (.int s2'), .val (.int s3'), .val (.ref b17), .val (.ref b18), .unset, .unset, .unset, .unset, .unset] [(.ref b19)])) _ (fun t9 k9 => st90 _ k9) ?_
  have ne91 : b17 ≠ b19 := Nat.ne_of_lt (Nat.lt_of_lt_of_le (own_A_lt u86) (Nat.le_of_eq g90.symm))
  have ne92 : b18 ≠ b19 := Nat.ne_of_lt (Nat.lt_of_lt_of_le (own_A_lt u89) (Nat.le_of_eq g90.symm))
  have sz_b19 : h0.size ≤ b19 := Nat.le_trans u87.1 (Nat.le_of_eq g90.symm)
  have g_b19 : n0 ≤ b19 := Nat.le_trans Z0 sz_b19
  have u93 : own_A Z h90 b17 .int 4 (fun j => .int ((own_4 s0' s1' s2' s3') j)) := own_A_ext u86 E90
  have u94 : own_A Z h90 b18 .double 4 (fun j => .double (FP.i2d ((own_4 s0' s1' s2' s3') j))) := own_A_ext u89 E90
  have u95 : Keep h0 h90 [] := u87.ext E90
  have u96 : own_A Z h90 b19 .double 4 (fun _ => (.double 0)) := own_A_new A90 rfl
  have u97 : own_A Z h90 b19 .double 4 (fun j => .double (if j < 0 then FP.i2d ((own_4 e0' e1' e2' e3') j) else 0)) := own_A_congr u96 (own_zero Value.double (fun j => FP.i2d ((own_4 e0' e1' e2' e3') j)) 0 4)
  refine go (T90.setTop (mkF m 147 #[.val (.int p1), .val (.int p2), .val (.int p3), .val (.int p4), .val (.int (Int32.ofNat k)), .val (.int b0), .val (.int b1), .val (.int b2), .val (.int b3), .val (.int e0'), .val (.int e1'), .val (.int e2'), .val (.int e3'), .val (.int s0'), .val (.int s1'), .val (.int s2'), .val (.int s3'), .val (.ref b17), .val (.ref b18), .unset, .unset, .unset, .unset, .unset] [(.double (FP.i2d e0')), (.int (0 : Int32)), (.ref b19), (.ref b19)])) _ (fun t9 k9 => ?_) ?_
  · show Steps p.tables e below (T90.setTop (mkF m 142 #[.val (.int p1), .val (.int p2), .val (.int p3), .val (.int p4), .val (.int (Int32.ofNat k)), .val (.int b0), .val (.int b1), .val (.int b2), .val (.int b3), .val (.int e0'), .val (.int e1'), .val (.int e2'), .val (.int e3'), .val (.int s0'), .val (.int s1'), .val (.int s2'), .val (.int s3'), .val (.ref b17), .val (.ref b18), .unset, .unset, .unset, .unset, .unset] [(.ref b19)])) _
    refine XS.dup X90.here hx rfl (hb hby at_142) rfl rfl ?_
    show Steps p.tables e below (T90.setTop (mkF m 143 #[.val (.int p1), .val (.int p2), .val (.int p3), .val (.int p4), .val (.int (Int32.ofNat k)), .val (.int b0), .val (.int b1), .val (.int b2), .val (.int b3), .val (.int e0'), .val (.int e1'), .val (.int e2'), .val (.int e3'), .val (.int s0'), .val (.int s1'), .val (.int s2'), .val (.int s3'), .val (.ref b17), .val (.ref b18), .unset, .unset, .unset, .unset, .unset] [(.ref b19), (.ref b19)])) _
    refine XS.iconst X90.here hx rfl (hb hby at_143) ?_
    show Steps p.tables e below (T90.setTop (mkF m 144 #[.val (.int p1), .val (.int p2), .val (.int p3), .val (.int p4), .val (.int (Int32.ofNat k)), .val (.int b0), .val (.int b1), .val (.int b2), .val (.int b3), .val (.int e0'), .val (.int e1'), .val (.int e2'), .val (.int e3'), .val (.int s0'), .val (.int s1'), .val (.int s2'), .val (.int s3'), .val (.ref b17), .val (.ref b18), .unset, .unset, .unset, .unset, .unset] [(.int (0 : Int32)), (.ref b19), (.ref b19)])) _
    refine XS.iload X90.here hx rfl (hb hby at_144) rfl ?_
    show Steps p.tables e below (T90.setTop (mkF m 146 #[.val (.int p1), .val (.int p2), .val (.int p3), .val (.int p4), .val (.int (Int32.ofNat k)), .val (.int b0), .val (.int b1), .val (.int b2), .val (.int b3), .val (.int e0'), .val (.int e1'), .val (.int e2'), .val (.int e3'), .val (.int s0'), .val (.int s1'), .val (.int s2'), .val (.int s3'), .val (.ref b17), .val (.ref b18), .unset, .unset, .unset, .unset, .unset] [(.int e0'), (.int (0 : Int32)), (.ref b19), (.ref b19)])) _
    refine XS.i2dS X90.here hx rfl (hb hby at_146) rfl rfl ?_
    exact k9
  obtain ⟨cl98, Ar98, Sz98, Hv98⟩ := u97
  have u99 : own_A Z h90 b19 .double 4 (fun j => .double (if j < 0 then FP.i2d ((own_4 e0' e1' e2' e3') j) else 0)) := ⟨cl98, Ar98, Sz98, Hv98⟩
  obtain ⟨T100, h100, X100, e100, W100, st100⟩ := stD X90 hx hZ e90 Ar98 (j := (0 : Int32)) (own_hin Sz98 (by decide) (by decide)) (g := (mkF m 147 #[.val (.int p1), .val (.int p2), .val (.int p3), .val (.int p4), .val (.int (Int32.ofNat k)), .val (.int b0), .val (.int b1), .val (.int b2), .val (.int b3), .val (.int e0'), .val (.int e1'), .val (.int e2'), .val (.int e3'), .val (.int s0'), .val (.int s1'), .val (.int s2'), .val (.int s3'), .val (.ref b17), .val (.ref b18), .unset, .unset, .unset, .unset, .unset] [(.double (FP.i2d e0')), (.int (0 : Int32)), (.ref b19), (.ref b19)])) rfl rfl (hb hby at_147)
  have N100 := Fr.snoc X100 N85 g_b19
  refine go (T100.setTop (mkF m 148 #[.val (.int p1), .val (.int p2), .val (.int p3), .val (.int p4), .val (.int (Int32.ofNat k)), .val (.int b0), .val (.int b1), .val (.int b2), .val (.int b3), .val (.int e0'), .val (.int e1'), .val (.int e2'), .val (.int e3'), .val (.int s0'), .val (.int s1'), .val (.int s2'), .val (.int s3'), .val (.ref b17), .val (.ref b18), .unset, .unset, .unset, .unset, .unset] [(.ref b19)])) _ (fun t9 k9 => st100 _ k9) ?_
  have u101 : own_A Z h100 b17 .int 4 (fun j => .int ((own_4 s0' s1' s2' s3') j)) := own_A_other u93 W100 ne91
  have u102 : own_A Z h100 b18 .double 4 (fun j => .double (FP.i2d ((own_4 s0' s1' s2' s3') j))) := own_A_other u94 W100 ne92
  have u103 : Keep h0 h100 [] := u95.wr W100 (Or.inr sz_b19)
  have u104 : own_A Z h100 b19 .double 4 (fun j => .double (if j < 1 then FP.i2d ((own_4 e0' e1' e2' e3') j) else 0)) := own_A_congr (own_A_set Ar98 Sz98 Hv98 W100 (by decide)) (own_setf Value.double (fun j => FP.i2d ((own_4 e0' e1' e2' e3') j)) 0 0 4)
  refine go (T100.setTop (mkF m 153 #[.val (.int p1), .val (.int p2), .val (.int p3), .val (.int p4), .val (.int (Int32.ofNat k)), .val (.int b0), .val (.int b1), .val (.int b2), .val (.int b3), .val (.int e0'), .val (.int e1'), .val (.int e2'), .val (.int e3'), .val (.int s0'), .val (.int s1'), .val (.int s2'), .val (.int s3'), .val (.ref b17), .val (.ref b18), .unset, .unset, .unset, .unset, .unset] [(.double (FP.i2d e1')), (.int (1 : Int32)), (.ref b19), (.ref b19)])) _ (fun t9 k9 => ?_) ?_
  · show Steps p.tables e below (T100.setTop (mkF m 148 #[.val (.int p1), .val (.int p2), .val (.int p3), .val (.int p4), .val (.int (Int32.ofNat k)), .val (.int b0), .val (.int b1), .val (.int b2), .val (.int b3), .val (.int e0'), .val (.int e1'), .val (.int e2'), .val (.int e3'), .val (.int s0'), .val (.int s1'), .val (.int s2'), .val (.int s3'), .val (.ref b17), .val (.ref b18), .unset, .unset, .unset, .unset, .unset] [(.ref b19)])) _
    refine XS.dup X100.here hx rfl (hb hby at_148) rfl rfl ?_
    show Steps p.tables e below (T100.setTop (mkF m 149 #[.val (.int p1), .val (.int p2), .val (.int p3), .val (.int p4), .val (.int (Int32.ofNat k)), .val (.int b0), .val (.int b1), .val (.int b2), .val (.int b3), .val (.int e0'), .val (.int e1'), .val (.int e2'), .val (.int e3'), .val (.int s0'), .val (.int s1'), .val (.int s2'), .val (.int s3'), .val (.ref b17), .val (.ref b18), .unset, .unset, .unset, .unset, .unset] [(.ref b19), (.ref b19)])) _
    refine XS.iconst X100.here hx rfl (hb hby at_149) ?_
    show Steps p.tables e below (T100.setTop (mkF m 150 #[.val (.int p1), .val (.int p2), .val (.int p3), .val (.int p4), .val (.int (Int32.ofNat k)), .val (.int b0), .val (.int b1), .val (.int b2), .val (.int b3), .val (.int e0'), .val (.int e1'), .val (.int e2'), .val (.int e3'), .val (.int s0'), .val (.int s1'), .val (.int s2'), .val (.int s3'), .val (.ref b17), .val (.ref b18), .unset, .unset, .unset, .unset, .unset] [(.int (1 : Int32)), (.ref b19), (.ref b19)])) _
    refine XS.iload X100.here hx rfl (hb hby at_150) rfl ?_
    show Steps p.tables e below (T100.setTop (mkF m 152 #[.val (.int p1), .val (.int p2), .val (.int p3), .val (.int p4), .val (.int (Int32.ofNat k)), .val (.int b0), .val (.int b1), .val (.int b2), .val (.int b3), .val (.int e0'), .val (.int e1'), .val (.int e2'), .val (.int e3'), .val (.int s0'), .val (.int s1'), .val (.int s2'), .val (.int s3'), .val (.ref b17), .val (.ref b18), .unset, .unset, .unset, .unset, .unset] [(.int e1'), (.int (1 : Int32)), (.ref b19), (.ref b19)])) _
    refine XS.i2dS X100.here hx rfl (hb hby at_152) rfl rfl ?_
    exact k9
  obtain ⟨cl105, Ar105, Sz105, Hv105⟩ := u104
  have u106 : own_A Z h100 b19 .double 4 (fun j => .double (if j < 1 then FP.i2d ((own_4 e0' e1' e2' e3') j) else 0)) := ⟨cl105, Ar105, Sz105, Hv105⟩
  obtain ⟨T107, h107, X107, e107, W107, st107⟩ := stD X100 hx hZ e100 Ar105 (j := (1 : Int32)) (own_hin Sz105 (by decide) (by decide)) (g := (mkF m 153 #[.val (.int p1), .val (.int p2), .val (.int p3), .val (.int p4), .val (.int (Int32.ofNat k)), .val (.int b0), .val (.int b1), .val (.int b2), .val (.int b3), .val (.int e0'), .val (.int e1'), .val (.int e2'), .val (.int e3'), .val (.int s0'), .val (.int s1'), .val (.int s2'), .val (.int s3'), .val (.ref b17), .val (.ref b18), .unset, .unset, .unset, .unset, .unset] [(.double (FP.i2d e1')), (.int (1 : Int32)), (.ref b19), (.ref b19)])) rfl rfl (hb hby at_153)
  have N107 := Fr.snoc X107 N100 g_b19
  refine go (T107.setTop (mkF m 154 #[.val (.int p1), .val (.int p2), .val (.int p3), .val (.int p4), .val (.int (Int32.ofNat k)), .val (.int b0), .val (.int b1), .val (.int b2), .val (.int b3), .val (.int e0'), .val (.int e1'), .val (.int e2'), .val (.int e3'), .val (.int s0'), .val (.int s1'), .val (.int s2'), .val (.int s3'), .val (.ref b17), .val (.ref b18), .unset, .unset, .unset, .unset, .unset] [(.ref b19)])) _ (fun t9 k9 => st107 _ k9) ?_
  have u108 : own_A Z h107 b17 .int 4 (fun j => .int ((own_4 s0' s1' s2' s3') j)) := own_A_other u101 W107 ne91
  have u109 : own_A Z h107 b18 .double 4 (fun j => .double (FP.i2d ((own_4 s0' s1' s2' s3') j))) := own_A_other u102 W107 ne92
  have u110 : Keep h0 h107 [] := u103.wr W107 (Or.inr sz_b19)
  have u111 : own_A Z h107 b19 .double 4 (fun j => .double (if j < 2 then FP.i2d ((own_4 e0' e1' e2' e3') j) else 0)) := own_A_congr (own_A_set Ar105 Sz105 Hv105 W107 (by decide)) (own_setf Value.double (fun j => FP.i2d ((own_4 e0' e1' e2' e3') j)) 0 1 4)
  refine go (T107.setTop (mkF m 159 #[.val (.int p1), .val (.int p2), .val (.int p3), .val (.int p4), .val (.int (Int32.ofNat k)), .val (.int b0), .val (.int b1), .val (.int b2), .val (.int b3), .val (.int e0'), .val (.int e1'), .val (.int e2'), .val (.int e3'), .val (.int s0'), .val (.int s1'), .val (.int s2'), .val (.int s3'), .val (.ref b17), .val (.ref b18), .unset, .unset, .unset, .unset, .unset] [(.double (FP.i2d e2')), (.int (2 : Int32)), (.ref b19), (.ref b19)])) _ (fun t9 k9 => ?_) ?_
  · show Steps p.tables e below (T107.setTop (mkF m 154 #[.val (.int p1), .val (.int p2), .val (.int p3), .val (.int p4), .val (.int (Int32.ofNat k)), .val (.int b0), .val (.int b1), .val (.int b2), .val (.int b3), .val (.int e0'), .val (.int e1'), .val (.int e2'), .val (.int e3'), .val (.int s0'), .val (.int s1'), .val (.int s2'), .val (.int s3'), .val (.ref b17), .val (.ref b18), .unset, .unset, .unset, .unset, .unset] [(.ref b19)])) _
    refine XS.dup X107.here hx rfl (hb hby at_154) rfl rfl ?_
    show Steps p.tables e below (T107.setTop (mkF m 155 #[.val (.int p1), .val (.int p2), .val (.int p3), .val (.int p4), .val (.int (Int32.ofNat k)), .val (.int b0), .val (.int b1), .val (.int b2), .val (.int b3), .val (.int e0'), .val (.int e1'), .val (.int e2'), .val (.int e3'), .val (.int s0'), .val (.int s1'), .val (.int s2'), .val (.int s3'), .val (.ref b17), .val (.ref b18), .unset, .unset, .unset, .unset, .unset] [(.ref b19), (.ref b19)])) _
    refine XS.iconst X107.here hx rfl (hb hby at_155) ?_
    show Steps p.tables e below (T107.setTop (mkF m 156 #[.val (.int p1), .val (.int p2), .val (.int p3), .val (.int p4), .val (.int (Int32.ofNat k)), .val (.int b0), .val (.int b1), .val (.int b2), .val (.int b3), .val (.int e0'), .val (.int e1'), .val (.int e2'), .val (.int e3'), .val (.int s0'), .val (.int s1'), .val (.int s2'), .val (.int s3'), .val (.ref b17), .val (.ref b18), .unset, .unset, .unset, .unset, .unset] [(.int (2 : Int32)), (.ref b19), (.ref b19)])) _
    refine XS.iload X107.here hx rfl (hb hby at_156) rfl ?_
    show Steps p.tables e below (T107.setTop (mkF m 158 #[.val (.int p1), .val (.int p2), .val (.int p3), .val (.int p4), .val (.int (Int32.ofNat k)), .val (.int b0), .val (.int b1), .val (.int b2), .val (.int b3), .val (.int e0'), .val (.int e1'), .val (.int e2'), .val (.int e3'), .val (.int s0'), .val (.int s1'), .val (.int s2'), .val (.int s3'), .val (.ref b17), .val (.ref b18), .unset, .unset, .unset, .unset, .unset] [(.int e2'), (.int (2 : Int32)), (.ref b19), (.ref b19)])) _
    refine XS.i2dS X107.here hx rfl (hb hby at_158) rfl rfl ?_
    exact k9
  obtain ⟨cl112, Ar112, Sz112, Hv112⟩ := u111
  have u113 : own_A Z h107 b19 .double 4 (fun j => .double (if j < 2 then FP.i2d ((own_4 e0' e1' e2' e3') j) else 0)) := ⟨cl112, Ar112, Sz112, Hv112⟩
  obtain ⟨T114, h114, X114, e114, W114, st114⟩ := stD X107 hx hZ e107 Ar112 (j := (2 : Int32)) (own_hin Sz112 (by decide) (by decide)) (g := (mkF m 159 #[.val (.int p1), .val (.int p2), .val (.int p3), .val (.int p4), .val (.int (Int32.ofNat k)), .val (.int b0), .val (.int b1), .val (.int b2), .val (.int b3), .val (.int e0'), .val (.int e1'), .val (.int e2'), .val (.int e3'), .val (.int s0'), .val (.int s1'), .val (.int s2'), .val (.int s3'), .val (.ref b17), .val (.ref b18), .unset, .unset, .unset, .unset, .unset] [(.double (FP.i2d e2')), (.int (2 : Int32)), (.ref b19), (.ref b19)])) rfl rfl (hb hby at_159)
  have N114 := Fr.snoc X114 N107 g_b19
  refine go (T114.setTop (mkF m 160 #[.val (.int p1), .val (.int p2), .val (.int p3), .val (.int p4), .val (.int (Int32.ofNat k)), .val (.int b0), .val (.int b1), .val (.int b2), .val (.int b3), .val (.int e0'), .val (.int e1'), .val (.int e2'), .val (.int e3'), .val (.int s0'), .val (.int s1'), .val (.int s2'), .val (.int s3'), .val (.ref b17), .val (.ref b18), .unset, .unset, .unset, .unset, .unset] [(.ref b19)])) _ (fun t9 k9 => st114 _ k9) ?_
  have u115 : own_A Z h114 b17 .int 4 (fun j => .int ((own_4 s0' s1' s2' s3') j)) := own_A_other u108 W114 ne91
  have u116 : own_A Z h114 b18 .double 4 (fun j => .double (FP.i2d ((own_4 s0' s1' s2' s3') j))) := own_A_other u109 W114 ne92
  have u117 : Keep h0 h114 [] := u110.wr W114 (Or.inr sz_b19)
  have u118 : own_A Z h114 b19 .double 4 (fun j => .double (if j < 3 then FP.i2d ((own_4 e0' e1' e2' e3') j) else 0)) := own_A_congr (own_A_set Ar112 Sz112 Hv112 W114 (by decide)) (own_setf Value.double (fun j => FP.i2d ((own_4 e0' e1' e2' e3') j)) 0 2 4)
  refine go (T114.setTop (mkF m 165 #[.val (.int p1), .val (.int p2), .val (.int p3), .val (.int p4), .val (.int (Int32.ofNat k)), .val (.int b0), .val (.int b1), .val (.int b2), .val (.int b3), .val (.int e0'), .val (.int e1'), .val (.int e2'), .val (.int e3'), .val (.int s0'), .val (.int s1'), .val (.int s2'), .val (.int s3'), .val (.ref b17), .val (.ref b18), .unset, .unset, .unset, .unset, .unset] [(.double (FP.i2d e3')), (.int (3 : Int32)), (.ref b19), (.ref b19)])) _ (fun t9 k9 => ?_) ?_
  · show Steps p.tables e below (T114.setTop (mkF m 160 #[.val (.int p1), .val (.int p2), .val (.int p3), .val (.int p4), .val (.int (Int32.ofNat k)), .val (.int b0), .val (.int b1), .val (.int b2), .val (.int b3), .val (.int e0'), .val (.int e1'), .val (.int e2'), .val (.int e3'), .val (.int s0'), .val (.int s1'), .val (.int s2'), .val (.int s3'), .val (.ref b17), .val (.ref b18), .unset, .unset, .unset, .unset, .unset] [(.ref b19)])) _
    refine XS.dup X114.here hx rfl (hb hby at_160) rfl rfl ?_
    show Steps p.tables e below (T114.setTop (mkF m 161 #[.val (.int p1), .val (.int p2), .val (.int p3), .val (.int p4), .val (.int (Int32.ofNat k)), .val (.int b0), .val (.int b1), .val (.int b2), .val (.int b3), .val (.int e0'), .val (.int e1'), .val (.int e2'), .val (.int e3'), .val (.int s0'), .val (.int s1'), .val (.int s2'), .val (.int s3'), .val (.ref b17), .val (.ref b18), .unset, .unset, .unset, .unset, .unset] [(.ref b19), (.ref b19)])) _
    refine XS.iconst X114.here hx rfl (hb hby at_161) ?_
    show Steps p.tables e below (T114.setTop (mkF m 162 #[.val (.int p1), .val (.int p2), .val (.int p3), .val (.int p4), .val (.int (Int32.ofNat k)), .val (.int b0), .val (.int b1), .val (.int b2), .val (.int b3), .val (.int e0'), .val (.int e1'), .val (.int e2'), .val (.int e3'), .val (.int s0'), .val (.int s1'), .val (.int s2'), .val (.int s3'), .val (.ref b17), .val (.ref b18), .unset, .unset, .unset, .unset, .unset] [(.int (3 : Int32)), (.ref b19), (.ref b19)])) _
    refine XS.iload X114.here hx rfl (hb hby at_162) rfl ?_
    show Steps p.tables e below (T114.setTop (mkF m 164 #[.val (.int p1), .val (.int p2), .val (.int p3), .val (.int p4), .val (.int (Int32.ofNat k)), .val (.int b0), .val (.int b1), .val (.int b2), .val (.int b3), .val (.int e0'), .val (.int e1'), .val (.int e2'), .val (.int e3'), .val (.int s0'), .val (.int s1'), .val (.int s2'), .val (.int s3'), .val (.ref b17), .val (.ref b18), .unset, .unset, .unset, .unset, .unset] [(.int e3'), (.int (3 : Int32)), (.ref b19), (.ref b19)])) _
    refine XS.i2dS X114.here hx rfl (hb hby at_164) rfl rfl ?_
    exact k9
  obtain ⟨cl119, Ar119, Sz119, Hv119⟩ := u118
  have u120 : own_A Z h114 b19 .double 4 (fun j => .double (if j < 3 then FP.i2d ((own_4 e0' e1' e2' e3') j) else 0)) := ⟨cl119, Ar119, Sz119, Hv119⟩
  obtain ⟨T121, h121, X121, e121, W121, st121⟩ := stD X114 hx hZ e114 Ar119 (j := (3 : Int32)) (own_hin Sz119 (by decide) (by decide)) (g := (mkF m 165 #[.val (.int p1), .val (.int p2), .val (.int p3), .val (.int p4), .val (.int (Int32.ofNat k)), .val (.int b0), .val (.int b1), .val (.int b2), .val (.int b3), .val (.int e0'), .val (.int e1'), .val (.int e2'), .val (.int e3'), .val (.int s0'), .val (.int s1'), .val (.int s2'), .val (.int s3'), .val (.ref b17), .val (.ref b18), .unset, .unset, .unset, .unset, .unset] [(.double (FP.i2d e3')), (.int (3 : Int32)), (.ref b19), (.ref b19)])) rfl rfl (hb hby at_165)
  have N121 := Fr.snoc X121 N114 g_b19
  refine go (T121.setTop (mkF m 166 #[.val (.int p1), .val (.int p2), .val (.int p3), .val (.int p4), .val (.int (Int32.ofNat k)), .val (.int b0), .val (.int b1), .val (.int b2), .val (.int b3), .val (.int e0'), .val (.int e1'), .val (.int e2'), .val (.int e3'), .val (.int s0'), .val (.int s1'), .val (.int s2'), .val (.int s3'), .val (.ref b17), .val (.ref b18), .unset, .unset, .unset, .unset, .unset] [(.ref b19)])) _ (fun t9 k9 => st121 _ k9) ?_
  have u122 : own_A Z h121 b17 .int 4 (fun j => .int ((own_4 s0' s1' s2' s3') j)) := own_A_other u115 W121 ne91
  have u123 : own_A Z h121 b18 .double 4 (fun j => .double (FP.i2d ((own_4 s0' s1' s2' s3') j))) := own_A_other u116 W121 ne92
  have u124 : Keep h0 h121 [] := u117.wr W121 (Or.inr sz_b19)
  have u125 : own_A Z h121 b19 .double 4 (fun j => .double (if j < 4 then FP.i2d ((own_4 e0' e1' e2' e3') j) else 0)) := own_A_congr (own_A_set Ar119 Sz119 Hv119 W121 (by decide)) (own_setf Value.double (fun j => FP.i2d ((own_4 e0' e1' e2' e3') j)) 0 3 4)
  have u126 : own_A Z h121 b19 .double 4 (fun j => .double (FP.i2d ((own_4 e0' e1' e2' e3') j))) := own_A_congr u125 (own_full Value.double (fun j => FP.i2d ((own_4 e0' e1' e2' e3') j)) 0 4)
  refine go (T121.setTop (mkF m 168 #[.val (.int p1), .val (.int p2), .val (.int p3), .val (.int p4), .val (.int (Int32.ofNat k)), .val (.int b0), .val (.int b1), .val (.int b2), .val (.int b3), .val (.int e0'), .val (.int e1'), .val (.int e2'), .val (.int e3'), .val (.int s0'), .val (.int s1'), .val (.int s2'), .val (.int s3'), .val (.ref b17), .val (.ref b18), .val (.ref b19), .unset, .unset, .unset, .unset] [])) _ (fun t9 k9 => ?_) ?_
  · show Steps p.tables e below (T121.setTop (mkF m 166 #[.val (.int p1), .val (.int p2), .val (.int p3), .val (.int p4), .val (.int (Int32.ofNat k)), .val (.int b0), .val (.int b1), .val (.int b2), .val (.int b3), .val (.int e0'), .val (.int e1'), .val (.int e2'), .val (.int e3'), .val (.int s0'), .val (.int s1'), .val (.int s2'), .val (.int s3'), .val (.ref b17), .val (.ref b18), .unset, .unset, .unset, .unset, .unset] [(.ref b19)])) _
    refine XS.astore X121.here hx rfl (hb hby at_166) rfl rfl (l' := #[.val (.int p1), .val (.int p2), .val (.int p3), .val (.int p4), .val (.int (Int32.ofNat k)), .val (.int b0), .val (.int b1), .val (.int b2), .val (.int b3), .val (.int e0'), .val (.int e1'), .val (.int e2'), .val (.int e3'), .val (.int s0'), .val (.int s1'), .val (.int s2'), .val (.int s3'), .val (.ref b17), .val (.ref b18), .val (.ref b19), .unset, .unset, .unset, .unset]) rfl ?_
    exact k9
  refine own_cps (A := ∀ (T1 : State) (h1 : Heap) (L1 : List Loc) (b20 : Addr) (X1 : Stand p l e room_1 s m #[(.int p1), (.int p2), (.int p3), (.int p4)] below meth c T1 L1 4 16) (e1 : T1.heap = h1) (K1 : Keep h0 h1 []) (N1 : Fr n0 L1) (V17 : own_A Z h1 b17 .int 4 (fun j => .int ((own_4 s0' s1' s2' s3') j))) (V18 : own_A Z h1 b18 .double 4 (fun j => .double (FP.i2d ((own_4 s0' s1' s2' s3') j)))) (V19 : own_A Z h1 b19 .double 4 (fun j => .double (FP.i2d ((own_4 e0' e1' e2' e3') j)))) (V20 : own_A Z h1 b20 .int k (fun j => .int ((own_4 b0 b1 b2 b3) j))), G (T1.setTop (mkF m 278 #[.val (.int p1), .val (.int p2), .val (.int p3), .val (.int p4), .val (.int (Int32.ofNat k)), .val (.int b0), .val (.int b1), .val (.int b2), .val (.int b3), .val (.int e0'), .val (.int e1'), .val (.int e2'), .val (.int e3'), .val (.int s0'), .val (.int s1'), .val (.int s2'), .val (.int s3'), .val (.ref b17), .val (.ref b18), .val (.ref b19), .val (.ref b20), .unset, .unset, .unset] []))) (fun j278 => ?_) ?_
  · have hk5 : k = 0 ∨ k = 1 ∨ k = 2 ∨ k = 3 ∨ k = 4 := by omega
    rcases hk5 with rfl | rfl | rfl | rfl | rfl
    · refine go (T121.setTop (mkF m 174 #[.val (.int p1), .val (.int p2), .val (.int p3), .val (.int p4), .val (.int (Int32.ofNat 0)), .val (.int b0), .val (.int b1), .val (.int b2), .val (.int b3), .val (.int e0'), .val (.int e1'), .val (.int e2'), .val (.int e3'), .val (.int s0'), .val (.int s1'), .val (.int s2'), .val (.int s3'), .val (.ref b17), .val (.ref b18), .val (.ref b19), .unset, .unset, .unset, .unset] [(.int (0 : Int32))])) _ (fun t9 k9 => ?_) ?_
      · show Steps p.tables e below (T121.setTop (mkF m 168 #[.val (.int p1), .val (.int p2), .val (.int p3), .val (.int p4), .val (.int (Int32.ofNat 0)), .val (.int b0), .val (.int b1), .val (.int b2), .val (.int b3), .val (.int e0'), .val (.int e1'), .val (.int e2'), .val (.int e3'), .val (.int s0'), .val (.int s1'), .val (.int s2'), .val (.int s3'), .val (.ref b17), .val (.ref b18), .val (.ref b19), .unset, .unset, .unset, .unset] [])) _
        refine XS.iload X121.here hx rfl (hb hby at_168) rfl ?_
        show Steps p.tables e below (T121.setTop (mkF m 170 #[.val (.int p1), .val (.int p2), .val (.int p3), .val (.int p4), .val (.int (Int32.ofNat 0)), .val (.int b0), .val (.int b1), .val (.int b2), .val (.int b3), .val (.int e0'), .val (.int e1'), .val (.int e2'), .val (.int e3'), .val (.int s0'), .val (.int s1'), .val (.int s2'), .val (.int s3'), .val (.ref b17), .val (.ref b18), .val (.ref b19), .unset, .unset, .unset, .unset] [(.int (Int32.ofNat 0))])) _
        refine XS.ifNo X121.here hx rfl (hb hby at_170) rfl ((if0 _ _).trans (teq (by decide : (Int32.ofNat 0) = (0 : Int32))).2) ?_
        show Steps p.tables e below (T121.setTop (mkF m 173 #[.val (.int p1), .val (.int p2), .val (.int p3), .val (.int p4), .val (.int (Int32.ofNat 0)), .val (.int b0), .val (.int b1), .val (.int b2), .val (.int b3), .val (.int e0'), .val (.int e1'), .val (.int e2'), .val (.int e3'), .val (.int s0'), .val (.int s1'), .val (.int s2'), .val (.int s3'), .val (.ref b17), .val (.ref b18), .val (.ref b19), .unset, .unset, .unset, .unset] [])) _
        refine XS.iconst X121.here hx rfl (hb hby at_173) ?_
        exact k9
      obtain ⟨T127, h127, k127, X127, e127, E127, A127, st127⟩ := newP X121 hx hZ (hw _ (List.mem_of_getElem? (i := 1) rfl)) e121 (g := (mkF m 174 #[.val (.int p1), .val (.int p2), .val (.int p3), .val (.int p4), .val (.int (Int32.ofNat 0)), .val (.int b0), .val (.int b1), .val (.int b2), .val (.int b3), .val (.int e0'), .val (.int e1'), .val (.int e2'), .val (.int e3'), .val (.int s0'), .val (.int s1'), .val (.int s2'), .val (.int s3'), .val (.ref b17), .val (.ref b18), .val (.ref b19), .unset, .unset, .unset, .unset] [(.int (0 : Int32))])) rfl (hb hby at_174) rfl (by decide) (cap := 0) (by decide) (by decide) (by decide) (by decide)
      obtain ⟨b20, g127⟩ : ∃ z, z = h121.size := ⟨_, rfl⟩
      rw [← g127] at A127 st127
      refine go (T127.setTop (mkF m 176 #[.val (.int p1), .val (.int p2), .val (.int p3), .val (.int p4), .val (.int (Int32.ofNat 0)), .val (.int b0), .val (.int b1), .val (.int b2), .val (.int b3), .val (.int e0'), .val (.int e1'), .val (.int e2'), .val (.int e3'), .val (.int s0'), .val (.int s1'), .val (.int s2'), .val (.int s3'), .val (.ref b17), .val (.ref b18), .val (.ref b19), .unset, .unset, .unset, .unset] [(.ref b20)])) _ (fun t9 k9 => st127 _ k9) ?_
      have ne128 : b17 ≠ b20 := Nat.ne_of_lt (Nat.lt_of_lt_of_le (own_A_lt u122) (Nat.le_of_eq g127.symm))
      have ne129 : b18 ≠ b20 := Nat.ne_of_lt (Nat.lt_of_lt_of_le (own_A_lt u123) (Nat.le_of_eq g127.symm))
      have ne130 : b19 ≠ b20 := Nat.ne_of_lt (Nat.lt_of_lt_of_le (own_A_lt u126) (Nat.le_of_eq g127.symm))
      have sz_b20 : h0.size ≤ b20 := Nat.le_trans u124.1 (Nat.le_of_eq g127.symm)
      have g_b20 : n0 ≤ b20 := Nat.le_trans Z0 sz_b20
      have u131 : own_A Z h127 b17 .int 4 (fun j => .int ((own_4 s0' s1' s2' s3') j)) := own_A_ext u122 E127
      have u132 : own_A Z h127 b18 .double 4 (fun j => .double (FP.i2d ((own_4 s0' s1' s2' s3') j))) := own_A_ext u123 E127
      have u133 : own_A Z h127 b19 .double 4 (fun j => .double (FP.i2d ((own_4 e0' e1' e2' e3') j))) := own_A_ext u126 E127
      have u134 : Keep h0 h127 [] := u124.ext E127
      have u135 : own_A Z h127 b20 .int 0 (fun _ => (.int 0)) := own_A_new A127 rfl
      have u136 : own_A Z h127 b20 .int 0 (fun j => .int (if j < 0 then (own_4 b0 b1 b2 b3) j else 0)) := own_A_congr u135 (own_zero Value.int (fun j => (own_4 b0 b1 b2 b3) j) 0 0)
      have u137 : own_A Z h127 b20 .int 0 (fun j => .int ((own_4 b0 b1 b2 b3) j)) := own_A_congr u136 (own_full Value.int (fun j => (own_4 b0 b1 b2 b3) j) 0 0)
      refine go (T127.setTop (mkF m 278 #[.val (.int p1), .val (.int p2), .val (.int p3), .val (.int p4), .val (.int (Int32.ofNat 0)), .val (.int b0), .val (.int b1), .val (.int b2), .val (.int b3), .val (.int e0'), .val (.int e1'), .val (.int e2'), .val (.int e3'), .val (.int s0'), .val (.int s1'), .val (.int s2'), .val (.int s3'), .val (.ref b17), .val (.ref b18), .val (.ref b19), .val (.ref b20), .unset, .unset, .unset] [])) _ (fun t9 k9 => ?_) ?_
      · show Steps p.tables e below (T127.setTop (mkF m 176 #[.val (.int p1), .val (.int p2), .val (.int p3), .val (.int p4), .val (.int (Int32.ofNat 0)), .val (.int b0), .val (.int b1), .val (.int b2), .val (.int b3), .val (.int e0'), .val (.int e1'), .val (.int e2'), .val (.int e3'), .val (.int s0'), .val (.int s1'), .val (.int s2'), .val (.int s3'), .val (.ref b17), .val (.ref b18), .val (.ref b19), .unset, .unset, .unset, .unset] [(.ref b20)])) _
        refine XS.astore X127.here hx rfl (hb hby at_176) rfl rfl (l' := #[.val (.int p1), .val (.int p2), .val (.int p3), .val (.int p4), .val (.int (Int32.ofNat 0)), .val (.int b0), .val (.int b1), .val (.int b2), .val (.int b3), .val (.int e0'), .val (.int e1'), .val (.int e2'), .val (.int e3'), .val (.int s0'), .val (.int s1'), .val (.int s2'), .val (.int s3'), .val (.ref b17), .val (.ref b18), .val (.ref b19), .val (.ref b20), .unset, .unset, .unset]) rfl ?_
        show Steps p.tables e below (T127.setTop (mkF m 178 #[.val (.int p1), .val (.int p2), .val (.int p3), .val (.int p4), .val (.int (Int32.ofNat 0)), .val (.int b0), .val (.int b1), .val (.int b2), .val (.int b3), .val (.int e0'), .val (.int e1'), .val (.int e2'), .val (.int e3'), .val (.int s0'), .val (.int s1'), .val (.int s2'), .val (.int s3'), .val (.ref b17), .val (.ref b18), .val (.ref b19), .val (.ref b20), .unset, .unset, .unset] [])) _
        refine XS.goto X127.here hx rfl (pc0 := 178) (pc' := 278) rfl (hb hby at_178) (by decide) (by decide) ?_
        exact k9
      exact j278 _ _ _ b20 (X127.more (by decide) (by decide)) e127 u134 N121 u131 u132 u133 u137
    · refine go (T121.setTop (mkF m 188 #[.val (.int p1), .val (.int p2), .val (.int p3), .val (.int p4), .val (.int (Int32.ofNat 1)), .val (.int b0), .val (.int b1), .val (.int b2), .val (.int b3), .val (.int e0'), .val (.int e1'), .val (.int e2'), .val (.int e3'), .val (.int s0'), .val (.int s1'), .val (.int s2'), .val (.int s3'), .val (.ref b17), .val (.ref b18), .val (.ref b19), .unset, .unset, .unset, .unset] [(.int (1 : Int32))])) _ (fun t9 k9 => ?_) ?_
      · show Steps p.tables e below (T121.setTop (mkF m 168 #[.val (.int p1), .val (.int p2), .val (.int p3), .val (.int p4), .val (.int (Int32.ofNat 1)), .val (.int b0), .val (.int b1), .val (.int b2), .val (.int b3), .val (.int e0'), .val (.int e1'), .val (.int e2'), .val (.int e3'), .val (.int s0'), .val (.int s1'), .val (.int s2'), .val (.int s3'), .val (.ref b17), .val (.ref b18), .val (.ref b19), .unset, .unset, .unset, .unset] [])) _
        refine XS.iload X121.here hx rfl (hb hby at_168) rfl ?_
        show Steps p.tables e below (T121.setTop (mkF m 170 #[.val (.int p1), .val (.int p2), .val (.int p3), .val (.int p4), .val (.int (Int32.ofNat 1)), .val (.int b0), .val (.int b1), .val (.int b2), .val (.int b3), .val (.int e0'), .val (.int e1'), .val (.int e2'), .val (.int e3'), .val (.int s0'), .val (.int s1'), .val (.int s2'), .val (.int s3'), .val (.ref b17), .val (.ref b18), .val (.ref b19), .unset, .unset, .unset, .unset] [(.int (Int32.ofNat 1))])) _
        refine XS.ifYes X121.here hx rfl (pc0 := 170) (pc' := 181) rfl (hb hby at_170) rfl ((if0 _ _).trans (feq (by decide : ¬ (Int32.ofNat 1) = (0 : Int32))).2) (by decide) (by decide) ?_
        show Steps p.tables e below (T121.setTop (mkF m 181 #[.val (.int p1), .val (.int p2), .val (.int p3), .val (.int p4), .val (.int (Int32.ofNat 1)), .val (.int b0), .val (.int b1), .val (.int b2), .val (.int b3), .val (.int e0'), .val (.int e1'), .val (.int e2'), .val (.int e3'), .val (.int s0'), .val (.int s1'), .val (.int s2'), .val (.int s3'), .val (.ref b17), .val (.ref b18), .val (.ref b19), .unset, .unset, .unset, .unset] [])) _
        refine XS.iload X121.here hx rfl (hb hby at_181) rfl ?_
        show Steps p.tables e below (T121.setTop (mkF m 183 #[.val (.int p1), .val (.int p2), .val (.int p3), .val (.int p4), .val (.int (Int32.ofNat 1)), .val (.int b0), .val (.int b1), .val (.int b2), .val (.int b3), .val (.int e0'), .val (.int e1'), .val (.int e2'), .val (.int e3'), .val (.int s0'), .val (.int s1'), .val (.int s2'), .val (.int s3'), .val (.ref b17), .val (.ref b18), .val (.ref b19), .unset, .unset, .unset, .unset] [(.int (Int32.ofNat 1))])) _
        refine XS.iconst X121.here hx rfl (hb hby at_183) ?_
        show Steps p.tables e below (T121.setTop (mkF m 184 #[.val (.int p1), .val (.int p2), .val (.int p3), .val (.int p4), .val (.int (Int32.ofNat 1)), .val (.int b0), .val (.int b1), .val (.int b2), .val (.int b3), .val (.int e0'), .val (.int e1'), .val (.int e2'), .val (.int e3'), .val (.int s0'), .val (.int s1'), .val (.int s2'), .val (.int s3'), .val (.ref b17), .val (.ref b18), .val (.ref b19), .unset, .unset, .unset, .unset] [(.int (1 : Int32)), (.int (Int32.ofNat 1))])) _
        refine XS.icmpNo X121.here hx rfl (hb hby at_184) rfl (teq (by decide : (Int32.ofNat 1) = (1 : Int32))).2 ?_
        show Steps p.tables e below (T121.setTop (mkF m 187 #[.val (.int p1), .val (.int p2), .val (.int p3), .val (.int p4), .val (.int (Int32.ofNat 1)), .val (.int b0), .val (.int b1), .val (.int b2), .val (.int b3), .val (.int e0'), .val (.int e1'), .val (.int e2'), .val (.int e3'), .val (.int s0'), .val (.int s1'), .val (.int s2'), .val (.int s3'), .val (.ref b17), .val (.ref b18), .val (.ref b19), .unset, .unset, .unset, .unset] [])) _
        refine XS.iconst X121.here hx rfl (hb hby at_187) ?_
        exact k9
      obtain ⟨T138, h138, k138, X138, e138, E138, A138, st138⟩ := newP X121 hx hZ (hw _ (List.mem_of_getElem? (i := 1) rfl)) e121 (g := (mkF m 188 #[.val (.int p1), .val (.int p2), .val (.int p3), .val (.int p4), .val (.int (Int32.ofNat 1)), .val (.int b0), .val (.int b1), .val (.int b2), .val (.int b3), .val (.int e0'), .val (.int e1'), .val (.int e2'), .val (.int e3'), .val (.int s0'), .val (.int s1'), .val (.int s2'), .val (.int s3'), .val (.ref b17), .val (.ref b18), .val (.ref b19), .unset, .unset, .unset, .unset] [(.int (1 : Int32))])) rfl (hb hby at_188) rfl (by decide) (cap := 1) (by decide) (by decide) (by decide) (by decide)
      obtain ⟨b20, g138⟩ : ∃ z, z = h121.size := ⟨_, rfl⟩
      rw [← g138] at A138 st138
      refine go (T138.setTop (mkF m 190 #[.val (.int p1), .val (.int p2), .val (.int p3), .val (.int p4), .val (.int (Int32.ofNat 1)), .val (.int b0), .val (.int b1), .val (.int b2), .val (.int b3), .val (.int e0'), .val (.int e1'), .val (.int e2'), .val (.int e3'), .val (.int s0'), .val (.int s1'), .val (.int s2'), .val (.int s3'), .val (.ref b17), .val (.ref b18), .val (.ref b19), .unset, .unset, .unset, .unset] [(.ref b20)])) _ (fun t9 k9 => st138 _ k9) ?_
      have ne139 : b17 ≠ b20 := Nat.ne_of_lt (Nat.lt_of_lt_of_le (own_A_lt u122) (Nat.le_of_eq g138.symm))
      have ne140 : b18 ≠ b20 := Nat.ne_of_lt (Nat.lt_of_lt_of_le (own_A_lt u123) (Nat.le_of_eq g138.symm))
      have ne141 : b19 ≠ b20 := Nat.ne_of_lt (Nat.lt_of_lt_of_le (own_A_lt u126) (Nat.le_of_eq g138.symm))
      have sz_b20 : h0.size ≤ b20 := Nat.le_trans u124.1 (Nat.le_of_eq g138.symm)
      have g_b20 : n0 ≤ b20 := Nat.le_trans Z0 sz_b20
      have u142 : own_A Z h138 b17 .int 4 (fun j => .int ((own_4 s0' s1' s2' s3') j)) := own_A_ext u122 E138
      have u143 : own_A Z h138 b18 .double 4 (fun j => .double (FP.i2d ((own_4 s0' s1' s2' s3') j))) := own_A_ext u123 E138
      have u144 : own_A Z h138 b19 .double 4 (fun j => .double (FP.i2d ((own_4 e0' e1' e2' e3') j))) := own_A_ext u126 E138
      have u145 : Keep h0 h138 [] := u124.ext E138
      have u146 : own_A Z h138 b20 .int 1 (fun _ => (.int 0)) := own_A_new A138 rfl
      have u147 : own_A Z h138 b20 .int 1 (fun j => .int (if j < 0 then (own_4 b0 b1 b2 b3) j else 0)) := own_A_congr u146 (own_zero Value.int (fun j => (own_4 b0 b1 b2 b3) j) 0 1)
      refine go (T138.setTop (mkF m 194 #[.val (.int p1), .val (.int p2), .val (.int p3), .val (.int p4), .val (.int (Int32.ofNat 1)), .val (.int b0), .val (.int b1), .val (.int b2), .val (.int b3), .val (.int e0'), .val (.int e1'), .val (.int e2'), .val (.int e3'), .val (.int s0'), .val (.int s1'), .val (.int s2'), .val (.int s3'), .val (.ref b17), .val (.ref b18), .val (.ref b19), .unset, .unset, .unset, .unset] [(.int b0), (.int (0 : Int32)), (.ref b20), (.ref b20)])) _ (fun t9 k9 => ?_) ?_
      · show Steps p.tables e below (T138.setTop (mkF m 190 #[.val (.int p1), .val (.int p2), .val (.int p3), .val (.int p4), .val (.int (Int32.ofNat 1)), .val (.int b0), .val (.int b1), .val (.int b2), .val (.int b3), .val (.int e0'), .val (.int e1'), .val (.int e2'), .val (.int e3'), .val (.int s0'), .val (.int s1'), .val (.int s2'), .val (.int s3'), .val (.ref b17), .val (.ref b18), .val (.ref b19), .unset, .unset, .unset, .unset] [(.ref b20)])) _
        refine XS.dup X138.here hx rfl (hb hby at_190) rfl rfl ?_
        show Steps p.tables e below (T138.setTop (mkF m 191 #[.val (.int p1), .val (.int p2), .val (.int p3), .val (.int p4), .val (.int (Int32.ofNat 1)), .val (.int b0), .val (.int b1), .val (.int b2), .val (.int b3), .val (.int e0'), .val (.int e1'), .val (.int e2'), .val (.int e3'), .val (.int s0'), .val (.int s1'), .val (.int s2'), .val (.int s3'), .val (.ref b17), .val (.ref b18), .val (.ref b19), .unset, .unset, .unset, .unset] [(.ref b20), (.ref b20)])) _
        refine XS.iconst X138.here hx rfl (hb hby at_191) ?_
        show Steps p.tables e below (T138.setTop (mkF m 192 #[.val (.int p1), .val (.int p2), .val (.int p3), .val (.int p4), .val (.int (Int32.ofNat 1)), .val (.int b0), .val (.int b1), .val (.int b2), .val (.int b3), .val (.int e0'), .val (.int e1'), .val (.int e2'), .val (.int e3'), .val (.int s0'), .val (.int s1'), .val (.int s2'), .val (.int s3'), .val (.ref b17), .val (.ref b18), .val (.ref b19), .unset, .unset, .unset, .unset] [(.int (0 : Int32)), (.ref b20), (.ref b20)])) _
        refine XS.iload X138.here hx rfl (hb hby at_192) rfl ?_
        exact k9
      obtain ⟨cl148, Ar148, Sz148, Hv148⟩ := u147
      have u149 : own_A Z h138 b20 .int 1 (fun j => .int (if j < 0 then (own_4 b0 b1 b2 b3) j else 0)) := ⟨cl148, Ar148, Sz148, Hv148⟩
      obtain ⟨T150, h150, X150, e150, W150, st150⟩ := stI X138 hx hZ e138 Ar148 (j := (0 : Int32)) (own_hin Sz148 (by decide) (by decide)) (g := (mkF m 194 #[.val (.int p1), .val (.int p2), .val (.int p3), .val (.int p4), .val (.int (Int32.ofNat 1)), .val (.int b0), .val (.int b1), .val (.int b2), .val (.int b3), .val (.int e0'), .val (.int e1'), .val (.int e2'), .val (.int e3'), .val (.int s0'), .val (.int s1'), .val (.int s2'), .val (.int s3'), .val (.ref b17), .val (.ref b18), .val (.ref b19), .unset, .unset, .unset, .unset] [(.int b0), (.int (0 : Int32)), (.ref b20), (.ref b20)])) rfl rfl (hb hby at_194)
      have N150 := Fr.snoc X150 N121 g_b20
      refine go (T150.setTop (mkF m 195 #[.val (.int p1), .val (.int p2), .val (.int p3), .val (.int p4), .val (.int (Int32.ofNat 1)), .val (.int b0), .val (.int b1), .val (.int b2), .val (.int b3), .val (.int e0'), .val (.int e1'), .val (.int e2'), .val (.int e3'), .val (.int s0'), .val (.int s1'), .val (.int s2'), .val (.int s3'), .val (.ref b17), .val (.ref b18), .val (.ref b19), .unset, .unset, .unset, .unset] [(.ref b20)])) _ (fun t9 k9 => st150 _ k9) ?_
      have u151 : own_A Z h150 b17 .int 4 (fun j => .int ((own_4 s0' s1' s2' s3') j)) := own_A_other u142 W150 ne139
      have u152 : own_A Z h150 b18 .double 4 (fun j => .double (FP.i2d ((own_4 s0' s1' s2' s3') j))) := own_A_other u143 W150 ne140
      have u153 : own_A Z h150 b19 .double 4 (fun j => .double (FP.i2d ((own_4 e0' e1' e2' e3') j))) := own_A_other u144 W150 ne141
      have u154 : Keep h0 h150 [] := u145.wr W150 (Or.inr sz_b20)
      have u155 : own_A Z h150 b20 .int 1 (fun j => .int (if j < 1 then (own_4 b0 b1 b2 b3) j else 0)) := own_A_congr (own_A_set Ar148 Sz148 Hv148 W150 (by decide)) (own_setf Value.int (fun j => (own_4 b0 b1 b2 b3) j) 0 0 1)
      have u156 : own_A Z h150 b20 .int 1 (fun j => .int ((own_4 b0 b1 b2 b3) j)) := own_A_congr u155 (own_full Value.int (fun j => (own_4 b0 b1 b2 b3) j) 0 1)
      refine go (T150.setTop (mkF m 278 #[.val (.int p1), .val (.int p2), .val (.int p3), .val (.int p4), .val (.int (Int32.ofNat 1)), .val (.int b0), .val (.int b1), .val (.int b2), .val (.int b3), .val (.int e0'), .val (.int e1'), .val (.int e2'), .val (.int e3'), .val (.int s0'), .val (.int s1'), .val (.int s2'), .val (.int s3'), .val (.ref b17), .val (.ref b18), .val (.ref b19), .val (.ref b20), .unset, .unset, .unset] [])) _ (fun t9 k9 => ?_) ?_
      · show Steps p.tables e below (T150.setTop (mkF m 195 #[.val (.int p1), .val (.int p2), .val (.int p3), .val (.int p4), .val (.int (Int32.ofNat 1)), .val (.int b0), .val (.int b1), .val (.int b2), .val (.int b3), .val (.int e0'), .val (.int e1'), .val (.int e2'), .val (.int e3'), .val (.int s0'), .val (.int s1'), .val (.int s2'), .val (.int s3'), .val (.ref b17), .val (.ref b18), .val (.ref b19), .unset, .unset, .unset, .unset] [(.ref b20)])) _
        refine XS.astore X150.here hx rfl (hb hby at_195) rfl rfl (l' := #[.val (.int p1), .val (.int p2), .val (.int p3), .val (.int p4), .val (.int (Int32.ofNat 1)), .val (.int b0), .val (.int b1), .val (.int b2), .val (.int b3), .val (.int e0'), .val (.int e1'), .val (.int e2'), .val (.int e3'), .val (.int s0'), .val (.int s1'), .val (.int s2'), .val (.int s3'), .val (.ref b17), .val (.ref b18), .val (.ref b19), .val (.ref b20), .unset, .unset, .unset]) rfl ?_
        show Steps p.tables e below (T150.setTop (mkF m 197 #[.val (.int p1), .val (.int p2), .val (.int p3), .val (.int p4), .val (.int (Int32.ofNat 1)), .val (.int b0), .val (.int b1), .val (.int b2), .val (.int b3), .val (.int e0'), .val (.int e1'), .val (.int e2'), .val (.int e3'), .val (.int s0'), .val (.int s1'), .val (.int s2'), .val (.int s3'), .val (.ref b17), .val (.ref b18), .val (.ref b19), .val (.ref b20), .unset, .unset, .unset] [])) _
        refine XS.goto X150.here hx rfl (pc0 := 197) (pc' := 278) rfl (hb hby at_197) (by decide) (by decide) ?_
        exact k9
      exact j278 _ _ _ b20 (X150.more (by decide) (by decide)) e150 u154 N150 u151 u152 u153 u156
    · refine go (T121.setTop (mkF m 207 #[.val (.int p1), .val (.int p2), .val (.int p3), .val (.int p4), .val (.int (Int32.ofNat 2)), .val (.int b0), .val (.int b1), .val (.int b2), .val (.int b3), .val (.int e0'), .val (.int e1'), .val (.int e2'), .val (.int e3'), .val (.int s0'), .val (.int s1'), .val (.int s2'), .val (.int s3'), .val (.ref b17), .val (.ref b18), .val (.ref b19), .unset, .unset, .unset, .unset] [(.int (2 : Int32))])) _ (fun t9 k9 => ?_) ?_
      · show Steps p.tables e below (T121.setTop (mkF m 168 #[.val (.int p1), .val (.int p2), .val (.int p3), .val (.int p4), .val (.int (Int32.ofNat 2)), .val (.int b0), .val (.int b1), .val (.int b2), .val (.int b3), .val (.int e0'), .val (.int e1'), .val (.int e2'), .val (.int e3'), .val (.int s0'), .val (.int s1'), .val (.int s2'), .val (.int s3'), .val (.ref b17), .val (.ref b18), .val (.ref b19), .unset, .unset, .unset, .unset] [])) _
        refine XS.iload X121.here hx rfl (hb hby at_168) rfl ?_
        show Steps p.tables e below (T121.setTop (mkF m 170 #[.val (.int p1), .val (.int p2), .val (.int p3), .val (.int p4), .val (.int (Int32.ofNat 2)), .val (.int b0), .val (.int b1), .val (.int b2), .val (.int b3), .val (.int e0'), .val (.int e1'), .val (.int e2'), .val (.int e3'), .val (.int s0'), .val (.int s1'), .val (.int s2'), .val (.int s3'), .val (.ref b17), .val (.ref b18), .val (.ref b19), .unset, .unset, .unset, .unset] [(.int (Int32.ofNat 2))])) _
        refine XS.ifYes X121.here hx rfl (pc0 := 170) (pc' := 181) rfl (hb hby at_170) rfl ((if0 _ _).trans (feq (by decide : ¬ (Int32.ofNat 2) = (0 : Int32))).2) (by decide) (by decide) ?_
        show Steps p.tables e below (T121.setTop (mkF m 181 #[.val (.int p1), .val (.int p2), .val (.int p3), .val (.int p4), .val (.int (Int32.ofNat 2)), .val (.int b0), .val (.int b1), .val (.int b2), .val (.int b3), .val (.int e0'), .val (.int e1'), .val (.int e2'), .val (.int e3'), .val (.int s0'), .val (.int s1'), .val (.int s2'), .val (.int s3'), .val (.ref b17), .val (.ref b18), .val (.ref b19), .unset, .unset, .unset, .unset] [])) _
        refine XS.iload X121.here hx rfl (hb hby at_181) rfl ?_
        show Steps p.tables e below (T121.setTop (mkF m 183 #[.val (.int p1), .val (.int p2), .val (.int p3), .val (.int p4), .val (.int (Int32.ofNat 2)), .val (.int b0), .val (.int b1), .val (.int b2), .val (.int b3), .val (.int e0'), .val (.int e1'), .val (.int e2'), .val (.int e3'), .val (.int s0'), .val (.int s1'), .val (.int s2'), .val (.int s3'), .val (.ref b17), .val (.ref b18), .val (.ref b19), .unset, .unset, .unset, .unset] [(.int (Int32.ofNat 2))])) _
        refine XS.iconst X121.here hx rfl (hb hby at_183) ?_
        show Steps p.tables e below (T121.setTop (mkF m 184 #[.val (.int p1), .val (.int p2), .val (.int p3), .val (.int p4), .val (.int (Int32.ofNat 2)), .val (.int b0), .val (.int b1), .val (.int b2), .val (.int b3), .val (.int e0'), .val (.int e1'), .val (.int e2'), .val (.int e3'), .val (.int s0'), .val (.int s1'), .val (.int s2'), .val (.int s3'), .val (.ref b17), .val (.ref b18), .val (.ref b19), .unset, .unset, .unset, .unset] [(.int (1 : Int32)), (.int (Int32.ofNat 2))])) _
        refine XS.icmpYes X121.here hx rfl (pc0 := 184) (pc' := 200) rfl (hb hby at_184) rfl (feq (by decide : ¬ (Int32.ofNat 2) = (1 : Int32))).2 (by decide) (by decide) ?_
        show Steps p.tables e below (T121.setTop (mkF m 200 #[.val (.int p1), .val (.int p2), .val (.int p3), .val (.int p4), .val (.int (Int32.ofNat 2)), .val (.int b0), .val (.int b1), .val (.int b2), .val (.int b3), .val (.int e0'), .val (.int e1'), .val (.int e2'), .val (.int e3'), .val (.int s0'), .val (.int s1'), .val (.int s2'), .val (.int s3'), .val (.ref b17), .val (.ref b18), .val (.ref b19), .unset, .unset, .unset, .unset] [])) _
        refine XS.iload X121.here hx rfl (hb hby at_200) rfl ?_
        show Steps p.tables e below (T121.setTop (mkF m 202 #[.val (.int p1), .val (.int p2), .val (.int p3), .val (.int p4), .val (.int (Int32.ofNat 2)), .val (.int b0), .val (.int b1), .val (.int b2), .val (.int b3), .val (.int e0'), .val (.int e1'), .val (.int e2'), .val (.int e3'), .val (.int s0'), .val (.int s1'), .val (.int s2'), .val (.int s3'), .val (.ref b17), .val (.ref b18), .val (.ref b19), .unset, .unset, .unset, .unset] [(.int (Int32.ofNat 2))])) _
        refine XS.iconst X121.here hx rfl (hb hby at_202) ?_
        show Steps p.tables e below (T121.setTop (mkF m 203 #[.val (.int p1), .val (.int p2), .val (.int p3), .val (.int p4), .val (.int (Int32.ofNat 2)), .val (.int b0), .val (.int b1), .val (.int b2), .val (.int b3), .val (.int e0'), .val (.int e1'), .val (.int e2'), .val (.int e3'), .val (.int s0'), .val (.int s1'), .val (.int s2'), .val (.int s3'), .val (.ref b17), .val (.ref b18), .val (.ref b19), .unset, .unset, .unset, .unset] [(.int (2 : Int32)), (.int (Int32.ofNat 2))])) _
        refine XS.icmpNo X121.here hx rfl (hb hby at_203) rfl (teq (by decide : (Int32.ofNat 2) = (2 : Int32))).2 ?_
        show Steps p.tables e below (T121.setTop (mkF m 206 #[.val (.int p1), .val (.int p2), .val (.int p3), .val (.int p4), .val (.int (Int32.ofNat 2)), .val (.int b0), .val (.int b1), .val (.int b2), .val (.int b3), .val (.int e0'), .val (.int e1'), .val (.int e2'), .val (.int e3'), .val (.int s0'), .val (.int s1'), .val (.int s2'), .val (.int s3'), .val (.ref b17), .val (.ref b18), .val (.ref b19), .unset, .unset, .unset, .unset] [])) _
        refine XS.iconst X121.here hx rfl (hb hby at_206) ?_
        exact k9
      obtain ⟨T157, h157, k157, X157, e157, E157, A157, st157⟩ := newP X121 hx hZ (hw _ (List.mem_of_getElem? (i := 1) rfl)) e121 (g := (mkF m 207 #[.val (.int p1), .val (.int p2), .val (.int p3), .val (.int p4), .val (.int (Int32.ofNat 2)), .val (.int b0), .val (.int b1), .val (.int b2), .val (.int b3), .val (.int e0'), .val (.int e1'), .val (.int e2'), .val (.int e3'), .val (.int s0'), .val (.int s1'), .val (.int s2'), .val (.int s3'), .val (.ref b17), .val (.ref b18), .val (.ref b19), .unset, .unset, .unset, .unset] [(.int (2 : Int32))])) rfl (hb hby at_207) rfl (by decide) (cap := 2) (by decide) (by decide) (by decide) (by decide)
      obtain ⟨b20, g157⟩ : ∃ z, z = h121.size := ⟨_, rfl⟩
      rw [← g157] at A157 st157
      refine go (T157.setTop (mkF m 209 #[.val (.int p1), .val (.int p2), .val (.int p3), .val (.int p4), .val (.int (Int32.ofNat 2)), .val (.int b0), .val (.int b1), .val (.int b2), .val (.int b3), .val (.int e0'), .val (.int e1'), .val (.int e2'), .val (.int e3'), .val (.int s0'), .val (.int s1'), .val (.int s2'), .val (.int s3'), .val (.ref b17), .val (.ref b18), .val (.ref b19), .unset, .unset, .unset, .unset] [(.ref b20)])) _ (fun t9 k9 => st157 _ k9) ?_
      have ne158 : b17 ≠ b20 := Nat.ne_of_lt (Nat.lt_of_lt_of_le (own_A_lt u122) (Nat.le_of_eq g157.symm))
      have ne159 : b18 ≠ b20 := Nat.ne_of_lt (Nat.lt_of_lt_of_le (own_A_lt u123) (Nat.le_of_eq g157.symm))
      have ne160 : b19 ≠ b20 := Nat.ne_of_lt (Nat.lt_of_lt_of_le (own_A_lt u126) (Nat.le_of_eq g157.symm))
      have sz_b20 : h0.size ≤ b20 := Nat.le_trans u124.1 (Nat.le_of_eq g157.symm)
      have g_b20 : n0 ≤ b20 := Nat.le_trans Z0 sz_b20
      have u161 : own_A Z h157 b17 .int 4 (fun j => .int ((own_4 s0' s1' s2' s3') j)) := own_A_ext u122 E157
      have u162 : own_A Z h157 b18 .double 4 (fun j => .double (FP.i2d ((own_4 s0' s1' s2' s3') j))) := own_A_ext u123 E157
      have u163 : own_A Z h157 b19 .double 4 (fun j => .double (FP.i2d ((own_4 e0' e1' e2' e3') j))) := own_A_ext u126 E157
      have u164 : Keep h0 h157 [] := u124.ext E157
      have u165 : own_A Z h157 b20 .int 2 (fun _ => (.int 0)) := own_A_new A157 rfl
      have u166 : own_A Z h157 b20 .int 2 (fun j => .int (if j < 0 then (own_4 b0 b1 b2 b3) j else 0)) := own_A_congr u165 (own_zero Value.int (fun j => (own_4 b0 b1 b2 b3) j) 0 2)
      refine go (T157.setTop (mkF m 213 #[.val (.int p1), .val (.int p2), .val (.int p3), .val (.int p4), .val (.int (Int32.ofNat 2)), .val (.int b0), .val (.int b1), .val (.int b2), .val (.int b3), .val (.int e0'), .val (.int e1'), .val (.int e2'), .val (.int e3'), .val (.int s0'), .val (.int s1'), .val (.int s2'), .val (.int s3'), .val (.ref b17), .val (.ref b18), .val (.ref b19), .unset, .unset, .unset, .unset] [(.int b0), (.int (0 : Int32)), (.ref b20), (.ref b20)])) _ (fun t9 k9 => ?_) ?_
      · show Steps p.tables e below (T157.setTop (mkF m 209 #[.val (.int p1), .val (.int p2), .val (.int p3), .val (.int p4), .val (.int (Int32.ofNat 2)), .val (.int b0), .val (.int b1), .val (.int b2), .val (.int b3), .val (.int e0'), .val (.int e1'), .val (.int e2'), .val (.int e3'), .val (.int s0'), .val (.int s1'), .val (.int s2'), .val (.int s3'), .val (.ref b17), .val (.ref b18), .val (.ref b19), .unset, .unset, .unset, .unset] [(.ref b20)])) _
        refine XS.dup X157.here hx rfl (hb hby at_209) rfl rfl ?_
        show Steps p.tables e below (T157.setTop (mkF m 210 #[.val (.int p1), .val (.int p2), .val (.int p3), .val (.int p4), .val (.int (Int32.ofNat 2)), .val (.int b0), .val (.int b1), .val (.int b2), .val (.int b3), .val (.int e0'), .val (.int e1'), .val (.int e2'), .val (.int e3'), .val (.int s0'), .val (.int s1'), .val (.int s2'), .val (.int s3'), .val (.ref b17), .val (.ref b18), .val (.ref b19), .unset, .unset, .unset, .unset] [(.ref b20), (.ref b20)])) _
        refine XS.iconst X157.here hx rfl (hb hby at_210) ?_
        show Steps p.tables e below (T157.setTop (mkF m 211 #[.val (.int p1), .val (.int p2), .val (.int p3), .val (.int p4), .val (.int (Int32.ofNat 2)), .val (.int b0), .val (.int b1), .val (.int b2), .val (.int b3), .val (.int e0'), .val (.int e1'), .val (.int e2'), .val (.int e3'), .val (.int s0'), .val (.int s1'), .val (.int s2'), .val (.int s3'), .val (.ref b17), .val (.ref b18), .val (.ref b19), .unset, .unset, .unset, .unset] [(.int (0 : Int32)), (.ref b20), (.ref b20)])) _
        refine XS.iload X157.here hx rfl (hb hby at_211) rfl ?_
        exact k9
      obtain ⟨cl167, Ar167, Sz167, Hv167⟩ := u166
      have u168 : own_A Z h157 b20 .int 2 (fun j => .int (if j < 0 then (own_4 b0 b1 b2 b3) j else 0)) := ⟨cl167, Ar167, Sz167, Hv167⟩
      obtain ⟨T169, h169, X169, e169, W169, st169⟩ := stI X157 hx hZ e157 Ar167 (j := (0 : Int32)) (own_hin Sz167 (by decide) (by decide)) (g := (mkF m 213 #[.val (.int p1), .val (.int p2), .val (.int p3), .val (.int p4), .val (.int (Int32.ofNat 2)), .val (.int b0), .val (.int b1), .val (.int b2), .val (.int b3), .val (.int e0'), .val (.int e1'), .val (.int e2'), .val (.int e3'), .val (.int s0'), .val (.int s1'), .val (.int s2'), .val (.int s3'), .val (.ref b17), .val (.ref b18), .val (.ref b19), .unset, .unset, .unset, .unset] [(.int b0), (.int (0 : Int32)), (.ref b20), (.ref b20)])) rfl rfl (hb hby at_213)
      have N169 := Fr.snoc X169 N121 g_b20
      refine go (T169.setTop (mkF m 214 #[.val (.int p1), .val (.int p2), .val (.int p3), .val (.int p4), .val (.int (Int32.ofNat 2)), .val (.int b0), .val (.int b1), .val (.int b2), .val (.int b3), .val (.int e0'), .val (.int e1'), .val (.int e2'), .val (.int e3'), .val (.int s0'), .val (.int s1'), .val (.int s2'), .val (.int s3'), .val (.ref b17), .val (.ref b18), .val (.ref b19), .unset, .unset, .unset, .unset] [(.ref b20)])) _ (fun t9 k9 => st169 _ k9) ?_
      have u170 : own_A Z h169 b17 .int 4 (fun j => .int ((own_4 s0' s1' s2' s3') j)) := own_A_other u161 W169 ne158
      have u171 : own_A Z h169 b18 .double 4 (fun j => .double (FP.i2d ((own_4 s0' s1' s2' s3') j))) := own_A_other u162 W169 ne159
      have u172 : own_A Z h169 b19 .double 4 (fun j => .double (FP.i2d ((own_4 e0' e1' e2' e3') j))) := own_A_other u163 W169 ne160
      have u173 : Keep h0 h169 [] := u164.wr W169 (Or.inr sz_b20)
      have u174 : own_A Z h169 b20 .int 2 (fun j => .int (if j < 1 then (own_4 b0 b1 b2 b3) j else 0)) := own_A_congr (own_A_set Ar167 Sz167 Hv167 W169 (by decide)) (own_setf Value.int (fun j => (own_4 b0 b1 b2 b3) j) 0 0 2)
      refine go (T169.setTop (mkF m 218 #[.val (.int p1), .val (.int p2), .val (.int p3), .val (.int p4), .val (.int (Int32.ofNat 2)), .val (.int b0), .val (.int b1), .val (.int b2), .val (.int b3), .val (.int e0'), .val (.int e1'), .val (.int e2'), .val (.int e3'), .val (.int s0'), .val (.int s1'), .val (.int s2'), .val (.int s3'), .val (.ref b17), .val (.ref b18), .val (.ref b19), .unset, .unset, .unset, .unset] [(.int b1), (.int (1 : Int32)), (.ref b20), (.ref b20)])) _ (fun t9 k9 => ?_) ?_
      · show Steps p.tables e below (T169.setTop (mkF m 214 #[.val (.int p1), .val (.int p2), .val (.int p3), .val (.int p4), .val (.int (Int32.ofNat 2)), .val (.int b0), .val (.int b1), .val (.int b2), .val (.int b3), .val (.int e0'), .val (.int e1'), .val (.int e2'), .val (.int e3'), .val (.int s0'), .val (.int s1'), .val (.int s2'), .val (.int s3'), .val (.ref b17), .val (.ref b18), .val (.ref b19), .unset, .unset, .unset, .unset] [(.ref b20)])) _
        refine XS.dup X169.here hx rfl (hb hby at_214) rfl rfl ?_
        show Steps p.tables e below (T169.setTop (mkF m 215 #[.val (.int p1), .val (.int p2), .val (.int p3), .val (.int p4), .val (.int (Int32.ofNat 2)), .val (.int b0), .val (.int b1), .val (.int b2), .val (.int b3), .val (.int e0'), .val (.int e1'), .val (.int e2'), .val (.int e3'), .val (.int s0'), .val (.int s1'), .val (.int s2'), .val (.int s3'), .val (.ref b17), .val (.ref b18), .val (.ref b19), .unset, .unset, .unset, .unset] [(.ref b20), (.ref b20)])) _
        refine XS.iconst X169.here hx rfl (hb hby at_215) ?_
        show Steps p.tables e below (T169.setTop (mkF m 216 #[.val (.int p1), .val (.int p2), .val (.int p3), .val (.int p4), .val (.int (Int32.ofNat 2)), .val (.int b0), .val (.int b1), .val (.int b2), .val (.int b3), .val (.int e0'), .val (.int e1'), .val (.int e2'), .val (.int e3'), .val (.int s0'), .val (.int s1'), .val (.int s2'), .val (.int s3'), .val (.ref b17), .val (.ref b18), .val (.ref b19), .unset, .unset, .unset, .unset] [(.int (1 : Int32)), (.ref b20), (.ref b20)])) _
        refine XS.iload X169.here hx rfl (hb hby at_216) rfl ?_
        exact k9
      obtain ⟨cl175, Ar175, Sz175, Hv175⟩ := u174
      have u176 : own_A Z h169 b20 .int 2 (fun j => .int (if j < 1 then (own_4 b0 b1 b2 b3) j else 0)) := ⟨cl175, Ar175, Sz175, Hv175⟩
      obtain ⟨T177, h177, X177, e177, W177, st177⟩ := stI X169 hx hZ e169 Ar175 (j := (1 : Int32)) (own_hin Sz175 (by decide) (by decide)) (g := (mkF m 218 #[.val (.int p1), .val (.int p2), .val (.int p3), .val (.int p4), .val (.int (Int32.ofNat 2)), .val (.int b0), .val (.int b1), .val (.int b2), .val (.int b3), .val (.int e0'), .val (.int e1'), .val (.int e2'), .val (.int e3'), .val (.int s0'), .val (.int s1'), .val (.int s2'), .val (.int s3'), .val (.ref b17), .val (.ref b18), .val (.ref b19), .unset, .unset, .unset, .unset] [(.int b1), (.int (1 : Int32)), (.ref b20), (.ref b20)])) rfl rfl (hb hby at_218)
      have N177 := Fr.snoc X177 N169 g_b20
      refine go (T177.setTop (mkF m 219 #[.val (.int p1), .val (.int p2), .val (.int p3), .val (.int p4), .val (.int (Int32.ofNat 2)), .val (.int b0), .val (.int b1), .val (.int b2), .val (.int b3), .val (.int e0'), .val (.int e1'), .val (.int e2'), .val (.int e3'), .val (.int s0'), .val (.int s1'), .val (.int s2'), .val (.int s3'), .val (.ref b17), .val (.ref b18), .val (.ref b19), .unset, .unset, .unset, .unset] [(.ref b20)])) _ (fun t9 k9 => st177 _ k9) ?_
      have u178 : own_A Z h177 b17 .int 4 (fun j => .int ((own_4 s0' s1' s2' s3') j)) := own_A_other u170 W177 ne158
      have u179 : own_A Z h177 b18 .double 4 (fun j => .double (FP.i2d ((own_4 s0' s1' s2' s3') j))) := own_A_other u171 W177 ne159
      have u180 : own_A Z h177 b19 .double 4 (fun j => .double (FP.i2d ((own_4 e0' e1' e2' e3') j))) := own_A_other u172 W177 ne160
      have u181 : Keep h0 h177 [] := u173.wr W177 (Or.inr sz_b20)
      have u182 : own_A Z h177 b20 .int 2 (fun j => .int (if j < 2 then (own_4 b0 b1 b2 b3) j else 0)) := own_A_congr (own_A_set Ar175 Sz175 Hv175 W177 (by decide)) (own_setf Value.int (fun j => (own_4 b0 b1 b2 b3) j) 0 1 2)
      have u183 : own_A Z h177 b20 .int 2 (fun j => .int ((own_4 b0 b1 b2 b3) j)) := own_A_congr u182 (own_full Value.int (fun j => (own_4 b0 b1 b2 b3) j) 0 2)
      refine go (T177.setTop (mkF m 278 #[.val (.int p1), .val (.int p2), .val (.int p3), .val (.int p4), .val (.int (Int32.ofNat 2)), .val (.int b0), .val (.int b1), .val (.int b2), .val (.int b3), .val (.int e0'), .val (.int e1'), .val (.int e2'), .val (.int e3'), .val (.int s0'), .val (.int s1'), .val (.int s2'), .val (.int s3'), .val (.ref b17), .val (.ref b18), .val (.ref b19), .val (.ref b20), .unset, .unset, .unset] [])) _ (fun t9 k9 => ?_) ?_
      · show Steps p.tables e below (T177.setTop (mkF m 219 #[.val (.int p1), .val (.int p2), .val (.int p3), .val (.int p4), .val (.int (Int32.ofNat 2)), .val (.int b0), .val (.int b1), .val (.int b2), .val (.int b3), .val (.int e0'), .val (.int e1'), .val (.int e2'), .val (.int e3'), .val (.int s0'), .val (.int s1'), .val (.int s2'), .val (.int s3'), .val (.ref b17), .val (.ref b18), .val (.ref b19), .unset, .unset, .unset, .unset] [(.ref b20)])) _
        refine XS.astore X177.here hx rfl (hb hby at_219) rfl rfl (l' := #[.val (.int p1), .val (.int p2), .val (.int p3), .val (.int p4), .val (.int (Int32.ofNat 2)), .val (.int b0), .val (.int b1), .val (.int b2), .val (.int b3), .val (.int e0'), .val (.int e1'), .val (.int e2'), .val (.int e3'), .val (.int s0'), .val (.int s1'), .val (.int s2'), .val (.int s3'), .val (.ref b17), .val (.ref b18), .val (.ref b19), .val (.ref b20), .unset, .unset, .unset]) rfl ?_
        show Steps p.tables e below (T177.setTop (mkF m 221 #[.val (.int p1), .val (.int p2), .val (.int p3), .val (.int p4), .val (.int (Int32.ofNat 2)), .val (.int b0), .val (.int b1), .val (.int b2), .val (.int b3), .val (.int e0'), .val (.int e1'), .val (.int e2'), .val (.int e3'), .val (.int s0'), .val (.int s1'), .val (.int s2'), .val (.int s3'), .val (.ref b17), .val (.ref b18), .val (.ref b19), .val (.ref b20), .unset, .unset, .unset] [])) _
        refine XS.goto X177.here hx rfl (pc0 := 221) (pc' := 278) rfl (hb hby at_221) (by decide) (by decide) ?_
        exact k9
      exact j278 _ _ _ b20 (X177.more (by decide) (by decide)) e177 u181 N177 u178 u179 u180 u183
    · refine go (T121.setTop (mkF m 231 #[.val (.int p1), .val (.int p2), .val (.int p3), .val (.int p4), .val (.int (Int32.ofNat 3)), .val (.int b0), .val (.int b1), .val (.int b2), .val (.int b3), .val (.int e0'), .val (.int e1'), .val (.int e2'), .val (.int e3'), .val (.int s0'), .val (.int s1'), .val (.int s2'), .val (.int s3'), .val (.ref b17), .val (.ref b18), .val (.ref b19), .unset, .unset, .unset, .unset] [(.int (3 : Int32))])) _ (fun t9 k9 => ?_) ?_
      · show Steps p.tables e below (T121.setTop (mkF m 168 #[.val (.int p1), .val (.int p2), .val (.int p3), .val (.int p4), .val (.int (Int32.ofNat 3)), .val (.int b0), .val (.int b1), .val (.int b2), .val (.int b3), .val (.int e0'), .val (.int e1'), .val (.int e2'), .val (.int e3'), .val (.int s0'), .val (.int s1'), .val (.int s2'), .val (.int s3'), .val (.ref b17), .val (.ref b18), .val (.ref b19), .unset, .unset, .unset, .unset] [])) _
        refine XS.iload X121.here hx rfl (hb hby at_168) rfl ?_
        show Steps p.tables e below (T121.setTop (mkF m 170 #[.val (.int p1), .val (.int p2), .val (.int p3), .val (.int p4), .val (.int (Int32.ofNat 3)), .val (.int b0), .val (.int b1), .val (.int b2), .val (.int b3), .val (.int e0'), .val (.int e1'), .val (.int e2'), .val (.int e3'), .val (.int s0'), .val (.int s1'), .val (.int s2'), .val (.int s3'), .val (.ref b17), .val (.ref b18), .val (.ref b19), .unset, .unset, .unset, .unset] [(.int (Int32.ofNat 3))])) _
        refine XS.ifYes X121.here hx rfl (pc0 := 170) (pc' := 181) rfl (hb hby at_170) rfl ((if0 _ _).trans (feq (by decide : ¬ (Int32.ofNat 3) = (0 : Int32))).2) (by decide) (by decide) ?_
        show Steps p.tables e below (T121.setTop (mkF m 181 #[.val (.int p1), .val (.int p2), .val (.int p3), .val (.int p4), .val (.int (Int32.ofNat 3)), .val (.int b0), .val (.int b1), .val (.int b2), .val (.int b3), .val (.int e0'), .val (.int e1'), .val (.int e2'), .val (.int e3'), .val (.int s0'), .val (.int s1'), .val (.int s2'), .val (.int s3'), .val (.ref b17), .val (.ref b18), .val (.ref b19), .unset, .unset, .unset, .unset] [])) _
        refine XS.iload X121.here hx rfl (hb hby at_181) rfl ?_
        show Steps p.tables e below (T121.setTop (mkF m 183 #[.val (.int p1), .val (.int p2), .val (.int p3), .val (.int p4), .val (.int (Int32.ofNat 3)), .val (.int b0), .val (.int b1), .val (.int b2), .val (.int b3), .val (.int e0'), .val (.int e1'), .val (.int e2'), .val (.int e3'), .val (.int s0'), .val (.int s1'), .val (.int s2'), .val (.int s3'), .val (.ref b17), .val (.ref b18), .val (.ref b19), .unset, .unset, .unset, .unset] [(.int (Int32.ofNat 3))])) _
        refine XS.iconst X121.here hx rfl (hb hby at_183) ?_
        show Steps p.tables e below (T121.setTop (mkF m 184 #[.val (.int p1), .val (.int p2), .val (.int p3), .val (.int p4), .val (.int (Int32.ofNat 3)), .val (.int b0), .val (.int b1), .val (.int b2), .val (.int b3), .val (.int e0'), .val (.int e1'), .val (.int e2'), .val (.int e3'), .val (.int s0'), .val (.int s1'), .val (.int s2'), .val (.int s3'), .val (.ref b17), .val (.ref b18), .val (.ref b19), .unset, .unset, .unset, .unset] [(.int (1 : Int32)), (.int (Int32.ofNat 3))])) _
        refine XS.icmpYes X121.here hx rfl (pc0 := 184) (pc' := 200) rfl (hb hby at_184) rfl (feq (by decide : ¬ (Int32.ofNat 3) = (1 : Int32))).2 (by decide) (by decide) ?_
        show Steps p.tables e below (T121.setTop (mkF m 200 #[.val (.int p1), .val (.int p2), .val (.int p3), .val (.int p4), .val (.int (Int32.ofNat 3)), .val (.int b0), .val (.int b1), .val (.int b2), .val (.int b3), .val (.int e0'), .val (.int e1'), .val (.int e2'), .val (.int e3'), .val (.int s0'), .val (.int s1'), .val (.int s2'), .val (.int s3'), .val (.ref b17), .val (.ref b18), .val (.ref b19), .unset, .unset, .unset, .unset] [])) _
        refine XS.iload X121.here hx rfl (hb hby at_200) rfl ?_
        show Steps p.tables e below (T121.setTop (mkF m 202 #[.val (.int p1), .val (.int p2), .val (.int p3), .val (.int p4), .val (.int (Int32.ofNat 3)), .val (.int b0), .val (.int b1), .val (.int b2), .val (.int b3), .val (.int e0'), .val (.int e1'), .val (.int e2'), .val (.int e3'), .val (.int s0'), .val (.int s1'), .val (.int s2'), .val (.int s3'), .val (.ref b17), .val (.ref b18), .val (.ref b19), .unset, .unset, .unset, .unset] [(.int (Int32.ofNat 3))])) _
        refine XS.iconst X121.here hx rfl (hb hby at_202) ?_
        show Steps p.tables e below (T121.setTop (mkF m 203 #[.val (.int p1), .val (.int p2), .val (.int p3), .val (.int p4), .val (.int (Int32.ofNat 3)), .val (.int b0), .val (.int b1), .val (.int b2), .val (.int b3), .val (.int e0'), .val (.int e1'), .val (.int e2'), .val (.int e3'), .val (.int s0'), .val (.int s1'), .val (.int s2'), .val (.int s3'), .val (.ref b17), .val (.ref b18), .val (.ref b19), .unset, .unset, .unset, .unset] [(.int (2 : Int32)), (.int (Int32.ofNat 3))])) _
        refine XS.icmpYes X121.here hx rfl (pc0 := 203) (pc' := 224) rfl (hb hby at_203) rfl (feq (by decide : ¬ (Int32.ofNat 3) = (2 : Int32))).2 (by decide) (by decide) ?_
        show Steps p.tables e below (T121.setTop (mkF m 224 #[.val (.int p1), .val (.int p2), .val (.int p3), .val (.int p4), .val (.int (Int32.ofNat 3)), .val (.int b0), .val (.int b1), .val (.int b2), .val (.int b3), .val (.int e0'), .val (.int e1'), .val (.int e2'), .val (.int e3'), .val (.int s0'), .val (.int s1'), .val (.int s2'), .val (.int s3'), .val (.ref b17), .val (.ref b18), .val (.ref b19), .unset, .unset, .unset, .unset] [])) _
        refine XS.iload X121.here hx rfl (hb hby at_224) rfl ?_
        show Steps p.tables e below (T121.setTop (mkF m 226 #[.val (.int p1), .val (.int p2), .val (.int p3), .val (.int p4), .val (.int (Int32.ofNat 3)), .val (.int b0), .val (.int b1), .val (.int b2), .val (.int b3), .val (.int e0'), .val (.int e1'), .val (.int e2'), .val (.int e3'), .val (.int s0'), .val (.int s1'), .val (.int s2'), .val (.int s3'), .val (.ref b17), .val (.ref b18), .val (.ref b19), .unset, .unset, .unset, .unset] [(.int (Int32.ofNat 3))])) _
        refine XS.iconst X121.here hx rfl (hb hby at_226) ?_
        show Steps p.tables e below (T121.setTop (mkF m 227 #[.val (.int p1), .val (.int p2), .val (.int p3), .val (.int p4), .val (.int (Int32.ofNat 3)), .val (.int b0), .val (.int b1), .val (.int b2), .val (.int b3), .val (.int e0'), .val (.int e1'), .val (.int e2'), .val (.int e3'), .val (.int s0'), .val (.int s1'), .val (.int s2'), .val (.int s3'), .val (.ref b17), .val (.ref b18), .val (.ref b19), .unset, .unset, .unset, .unset] [(.int (3 : Int32)), (.int (Int32.ofNat 3))])) _
        refine XS.icmpNo X121.here hx rfl (hb hby at_227) rfl (teq (by decide : (Int32.ofNat 3) = (3 : Int32))).2 ?_
        show Steps p.tables e below (T121.setTop (mkF m 230 #[.val (.int p1), .val (.int p2), .val (.int p3), .val (.int p4), .val (.int (Int32.ofNat 3)), .val (.int b0), .val (.int b1), .val (.int b2), .val (.int b3), .val (.int e0'), .val (.int e1'), .val (.int e2'), .val (.int e3'), .val (.int s0'), .val (.int s1'), .val (.int s2'), .val (.int s3'), .val (.ref b17), .val (.ref b18), .val (.ref b19), .unset, .unset, .unset, .unset] [])) _
        refine XS.iconst X121.here hx rfl (hb hby at_230) ?_
        exact k9
      obtain ⟨T184, h184, k184, X184, e184, E184, A184, st184⟩ := newP X121 hx hZ (hw _ (List.mem_of_getElem? (i := 1) rfl)) e121 (g := (mkF m 231 #[.val (.int p1), .val (.int p2), .val (.int p3), .val (.int p4), .val (.int (Int32.ofNat 3)), .val (.int b0), .val (.int b1), .val (.int b2), .val (.int b3), .val (.int e0'), .val (.int e1'), .val (.int e2'), .val (.int e3'), .val (.int s0'), .val (.int s1'), .val (.int s2'), .val (.int s3'), .val (.ref b17), .val (.ref b18), .val (.ref b19), .unset, .unset, .unset, .unset] [(.int (3 : Int32))])) rfl (hb hby at_231) rfl (by decide) (cap := 3) (by decide) (by decide) (by decide) (by decide)
      obtain ⟨b20, g184⟩ : ∃ z, z = h121.size := ⟨_, rfl⟩
      rw [← g184] at A184 st184
      refine go (T184.setTop (mkF m 233 #[.val (.int p1), .val (.int p2), .val (.int p3), .val (.int p4), .val (.int (Int32.ofNat 3)), .val (.int b0), .val (.int b1), .val (.int b2), .val (.int b3), .val (.int e0'), .val (.int e1'), .val (.int e2'), .val (.int e3'), .val (.int s0'), .val (.int s1'), .val (.int s2'), .val (.int s3'), .val (.ref b17), .val (.ref b18), .val (.ref b19), .unset, .unset, .unset, .unset] [(.ref b20)])) _ (fun t9 k9 => st184 _ k9) ?_
      have ne185 : b17 ≠ b20 := Nat.ne_of_lt (Nat.lt_of_lt_of_le (own_A_lt u122) (Nat.le_of_eq g184.symm))
      have ne186 : b18 ≠ b20 := Nat.ne_of_lt (Nat.lt_of_lt_of_le (own_A_lt u123) (Nat.le_of_eq g184.symm))
      have ne187 : b19 ≠ b20 := Nat.ne_of_lt (Nat.lt_of_lt_of_le (own_A_lt u126) (Nat.le_of_eq g184.symm))
      have sz_b20 : h0.size ≤ b20 := Nat.le_trans u124.1 (Nat.le_of_eq g184.symm)
      have g_b20 : n0 ≤ b20 := Nat.le_trans Z0 sz_b20
      have u188 : own_A Z h184 b17 .int 4 (fun j => .int ((own_4 s0' s1' s2' s3') j)) := own_A_ext u122 E184
      have u189 : own_A Z h184 b18 .double 4 (fun j => .double (FP.i2d ((own_4 s0' s1' s2' s3') j))) := own_A_ext u123 E184
      have u190 : own_A Z h184 b19 .double 4 (fun j => .double (FP.i2d ((own_4 e0' e1' e2' e3') j))) := own_A_ext u126 E184
      have u191 : Keep h0 h184 [] := u124.ext E184
      have u192 : own_A Z h184 b20 .int 3 (fun _ => (.int 0)) := own_A_new A184 rfl
      have u193 : own_A Z h184 b20 .int 3 (fun j => .int (if j < 0 then (own_4 b0 b1 b2 b3) j else 0)) := own_A_congr u192 (own_zero Value.int (fun j => (own_4 b0 b1 b2 b3) j) 0 3)
      refine go (T184.setTop (mkF m 237 #[.val (.int p1), .val (.int p2), .val (.int p3), .val (.int p4), .val (.int (Int32.ofNat 3)), .val (.int b0), .val (.int b1), .val (.int b2), .val (.int b3), .val (.int e0'), .val (.int e1'), .val (.int e2'), .val (.int e3'), .val (.int s0'), .val (.int s1'), .val (.int s2'), .val (.int s3'), .val (.ref b17), .val (.ref b18), .val (.ref b19), .unset, .unset, .unset, .unset] [(.int b0), (.int (0 : Int32)), (.ref b20), (.ref b20)])) _ (fun t9 k9 => ?_) ?_
      · show Steps p.tables e below (T184.setTop (mkF m 233 #[.val (.int p1), .val (.int p2), .val (.int p3), .val (.int p4), .val (.int (Int32.ofNat 3)), .val (.int b0), .val (.int b1), .val (.int b2), .val (.int b3), .val (.int e0'), .val (.int e1'), .val (.int e2'), .val (.int e3'), .val (.int s0'), .val (.int s1'), .val (.int s2'), .val (.int s3'), .val (.ref b17), .val (.ref b18), .val (.ref b19), .unset, .unset, .unset, .unset] [(.ref b20)])) _
        refine XS.dup X184.here hx rfl (hb hby at_233) rfl rfl ?_
        show Steps p.tables e below (T184.setTop (mkF m 234 #[.val (.int p1), .val (.int p2), .val (.int p3), .val (.int p4), .val (.int (Int32.ofNat 3)), .val (.int b0), .val (.int b1), .val (.int b2), .val (.int b3), .val (.int e0'), .val (.int e1'), .val (.int e2'), .val (.int e3'), .val (.int s0'), .val (.int s1'), .val (.int s2'), .val (.int s3'), .val (.ref b17), .val (.ref b18), .val (.ref b19), .unset, .unset, .unset, .unset] [(.ref b20), (.ref b20)])) _
        refine XS.iconst X184.here hx rfl (hb hby at_234) ?_
        show Steps p.tables e below (T184.setTop (mkF m 235 #[.val (.int p1), .val (.int p2), .val (.int p3), .val (.int p4), .val (.int (Int32.ofNat 3)), .val (.int b0), .val (.int b1), .val (.int b2), .val (.int b3), .val (.int e0'), .val (.int e1'), .val (.int e2'), .val (.int e3'), .val (.int s0'), .val (.int s1'), .val (.int s2'), .val (.int s3'), .val (.ref b17), .val (.ref b18), .val (.ref b19), .unset, .unset, .unset, .unset] [(.int (0 : Int32)), (.ref b20), (.ref b20)])) _
        refine XS.iload X184.here hx rfl (hb hby at_235) rfl ?_
        exact k9
      obtain ⟨cl194, Ar194, Sz194, Hv194⟩ := u193
      have u195 : own_A Z h184 b20 .int 3 (fun j => .int (if j < 0 then (own_4 b0 b1 b2 b3) j else 0)) := ⟨cl194, Ar194, Sz194, Hv194⟩
      obtain ⟨T196, h196, X196, e196, W196, st196⟩ := stI X184 hx hZ e184 Ar194 (j := (0 : Int32)) (own_hin Sz194 (by decide) (by decide)) (g := (mkF m 237 #[.val (.int p1), .val (.int p2), .val (.int p3), .val (.int p4), .val (.int (Int32.ofNat 3)), .val (.int b0), .val (.int b1), .val (.int b2), .val (.int b3), .val (.int e0'), .val (.int e1'), .val (.int e2'), .val (.int e3'), .val (.int s0'), .val (.int s1'), .val (.int s2'), .val (.int s3'), .val (.ref b17), .val (.ref b18), .val (.ref b19), .unset, .unset, .unset, .unset] [(.int b0), (.int (0 : Int32)), (.ref b20), (.ref b20)])) rfl rfl (hb hby at_237)
      have N196 := Fr.snoc X196 N121 g_b20
      refine go (T196.setTop (mkF m 238 #[.val (.int p1), .val (.int p2), .val (.int p3), .val (.int p4), .val (.int (Int32.ofNat 3)), .val (.int b0), .val (.int b1), .val (.int b2), .val (.int b3), .val (.int e0'), .val (.int e1'), .val (.int e2'), .val (.int e3'), .val (.int s0'), .val (.int s1'), .val (.int s2'), .val (.int s3'), .val (.ref b17), .val (.ref b18), .val (.ref b19), .unset, .unset, .unset, .unset] [(.ref b20)])) _ (fun t9 k9 => st196 _ k9) ?_
      have u197 : own_A Z h196 b17 .int 4 (fun j => .int ((own_4 s0' s1' s2' s3') j)) := own_A_other u188 W196 ne185
      have u198 : own_A Z h196 b18 .double 4 (fun j => .double (FP.i2d ((own_4 s0' s1' s2' s3') j))) := own_A_other u189 W196 ne186
      have u199 : own_A Z h196 b19 .double 4 (fun j => .double (FP.i2d ((own_4 e0' e1' e2' e3') j))) := own_A_other u190 W196 ne187
      have u200 : Keep h0 h196 [] := u191.wr W196 (Or.inr sz_b20)
      have u201 : own_A Z h196 b20 .int 3 (fun j => .int (if j < 1 then (own_4 b0 b1 b2 b3) j else 0)) := own_A_congr (own_A_set Ar194 Sz194 Hv194 W196 (by decide)) (own_setf Value.int (fun j => (own_4 b0 b1 b2 b3) j) 0 0 3)
      refine go (T196.setTop (mkF m 242 #[.val (.int p1), .val (.int p2), .val (.int p3), .val (.int p4), .val (.int (Int32.ofNat 3)), .val (.int b0), .val (.int b1), .val (.int b2), .val (.int b3), .val (.int e0'), .val (.int e1'), .val (.int e2'), .val (.int e3'), .val (.int s0'), .val (.int s1'), .val (.int s2'), .val (.int s3'), .val (.ref b17), .val (.ref b18), .val (.ref b19), .unset, .unset, .unset, .unset] [(.int b1), (.int (1 : Int32)), (.ref b20), (.ref b20)])) _ (fun t9 k9 => ?_) ?_
      · show Steps p.tables e below (T196.setTop (mkF m 238 #[.val (.int p1), .val (.int p2), .val (.int p3), .val (.int p4), .val (.int (Int32.ofNat 3)), .val (.int b0), .val (.int b1), .val (.int b2), .val (.int b3), .val (.int e0'), .val (.int e1'), .val (.int e2'), .val (.int e3'), .val (.int s0'), .val (.int s1'), .val (.int s2'), .val (.int s3'), .val (.ref b17), .val (.ref b18), .val (.ref b19), .unset, .unset, .unset, .unset] [(.ref b20)])) _
        refine XS.dup X196.here hx rfl (hb hby at_238) rfl rfl ?_
        show Steps p.tables e below (T196.setTop (mkF m 239 #[.val (.int p1), .val (.int p2), .val (.int p3), .val (.int p4), .val (.int (Int32.ofNat 3)), .val (.int b0), .val (.int b1), .val (.int b2), .val (.int b3), .val (.int e0'), .val (.int e1'), .val (.int e2'), .val (.int e3'), .val (.int s0'), .val (.int s1'), .val (.int s2'), .val (.int s3'), .val (.ref b17), .val (.ref b18), .val (.ref b19), .unset, .unset, .unset, .unset] [(.ref b20), (.ref b20)])) _
        refine XS.iconst X196.here hx rfl (hb hby at_239) ?_
        show Steps p.tables e below (T196.setTop (mkF m 240 #[.val (.int p1), .val (.int p2), .val (.int p3), .val (.int p4), .val (.int (Int32.ofNat 3)), .val (.int b0), .val (.int b1), .val (.int b2), .val (.int b3), .val (.int e0'), .val (.int e1'), .val (.int e2'), .val (.int e3'), .val (.int s0'), .val (.int s1'), .val (.int s2'), .val (.int s3'), .val (.ref b17), .val (.ref b18), .val (.ref b19), .unset, .unset, .unset, .unset] [(.int (1 : Int32)), (.ref b20), (.ref b20)])) _
        refine XS.iload X196.here hx rfl (hb hby at_240) rfl ?_
        exact k9
      obtain ⟨cl202, Ar202, Sz202, Hv202⟩ := u201
      have u203 : own_A Z h196 b20 .int 3 (fun j => .int (if j < 1 then (own_4 b0 b1 b2 b3) j else 0)) := ⟨cl202, Ar202, Sz202, Hv202⟩
      obtain ⟨T204, h204, X204, e204, W204, st204⟩ := stI X196 hx hZ e196 Ar202 (j := (1 : Int32)) (own_hin Sz202 (by decide) (by decide)) (g := (mkF m 242 #[.val (.int p1), .val (.int p2), .val (.int p3), .val (.int p4), .val (.int (Int32.ofNat 3)), .val (.int b0), .val (.int b1), .val (.int b2), .val (.int b3), .val (.int e0'), .val (.int e1'), .val (.int e2'), .val (.int e3'), .val (.int s0'), .val (.int s1'), .val (.int s2'), .val (.int s3'), .val (.ref b17), .val (.ref b18), .val (.ref b19), .unset, .unset, .unset, .unset] [(.int b1), (.int (1 : Int32)), (.ref b20), (.ref b20)])) rfl rfl (hb hby at_242)
      have N204 := Fr.snoc X204 N196 g_b20
      refine go (T204.setTop (mkF m 243 #[.val (.int p1), .val (.int p2), .val (.int p3), .val (.int p4), .val (.int (Int32.ofNat 3)), .val (.int b0), .val (.int b1), .val (.int b2), .val (.int b3), .val (.int e0'), .val (.int e1'), .val (.int e2'), .val (.int e3'), .val (.int s0'), .val (.int s1'), .val (.int s2'), .val (.int s3'), .val (.ref b17), .val (.ref b18), .val (.ref b19), .unset, .unset, .unset, .unset] [(.ref b20)])) _ (fun t9 k9 => st204 _ k9) ?_
      have u205 : own_A Z h204 b17 .int 4 (fun j => .int ((own_4 s0' s1' s2' s3') j)) := own_A_other u197 W204 ne185
      have u206 : own_A Z h204 b18 .double 4 (fun j => .double (FP.i2d ((own_4 s0' s1' s2' s3') j))) := own_A_other u198 W204 ne186
      have u207 : own_A Z h204 b19 .double 4 (fun j => .double (FP.i2d ((own_4 e0' e1' e2' e3') j))) := own_A_other u199 W204 ne187
      have u208 : Keep h0 h204 [] := u200.wr W204 (Or.inr sz_b20)
      have u209 : own_A Z h204 b20 .int 3 (fun j => .int (if j < 2 then (own_4 b0 b1 b2 b3) j else 0)) := own_A_congr (own_A_set Ar202 Sz202 Hv202 W204 (by decide)) (own_setf Value.int (fun j => (own_4 b0 b1 b2 b3) j) 0 1 3)
      refine go (T204.setTop (mkF m 247 #[.val (.int p1), .val (.int p2), .val (.int p3), .val (.int p4), .val (.int (Int32.ofNat 3)), .val (.int b0), .val (.int b1), .val (.int b2), .val (.int b3), .val (.int e0'), .val (.int e1'), .val (.int e2'), .val (.int e3'), .val (.int s0'), .val (.int s1'), .val (.int s2'), .val (.int s3'), .val (.ref b17), .val (.ref b18), .val (.ref b19), .unset, .unset, .unset, .unset] [(.int b2), (.int (2 : Int32)), (.ref b20), (.ref b20)])) _ (fun t9 k9 => ?_) ?_
      · show Steps p.tables e below (T204.setTop (mkF m 243 #[.val (.int p1), .val (.int p2), .val (.int p3), .val (.int p4), .val (.int (Int32.ofNat 3)), .val (.int b0), .val (.int b1), .val (.int b2), .val (.int b3), .val (.int e0'), .val (.int e1'), .val (.int e2'), .val (.int e3'), .val (.int s0'), .val (.int s1'), .val (.int s2'), .val (.int s3'), .val (.ref b17), .val (.ref b18), .val (.ref b19), .unset, .unset, .unset, .unset] [(.ref b20)])) _
        refine XS.dup X204.here hx rfl (hb hby at_243) rfl rfl ?_
        show Steps p.tables e below (T204.setTop (mkF m 244 #[.val (.int p1), .val (.int p2), .val (.int p3), .val (.int p4), .val (.int (Int32.ofNat 3)), .val (.int b0), .val (.int b1), .val (.int b2), .val (.int b3), .val (.int e0'), .val (.int e1'), .val (.int e2'), .val (.int e3'), .val (.int s0'), .val (.int s1'), .val (.int s2'), .val (.int s3'), .val (.ref b17), .val (.ref b18), .val (.ref b19), .unset, .unset, .unset, .unset] [(.ref b20), (.ref b20)])) _
        refine XS.iconst X204.here hx rfl (hb hby at_244) ?_
        show Steps p.tables e below (T204.setTop (mkF m 245 #[.val (.int p1), .val (.int p2), .val (.int p3), .val (.int p4), .val (.int (Int32.ofNat 3)), .val (.int b0), .val (.int b1), .val (.int b2), .val (.int b3), .val (.int e0'), .val (.int e1'), .val (.int e2'), .val (.int e3'), .val (.int s0'), .val (.int s1'), .val (.int s2'), .val (.int s3'), .val (.ref b17), .val (.ref b18), .val (.ref b19), .unset, .unset, .unset, .unset] [(.int (2 : Int32)), (.ref b20), (.ref b20)])) _
        refine XS.iload X204.here hx rfl (hb hby at_245) rfl ?_
        exact k9
      obtain ⟨cl210, Ar210, Sz210, Hv210⟩ := u209
      have u211 : own_A Z h204 b20 .int 3 (fun j => .int (if j < 2 then (own_4 b0 b1 b2 b3) j else 0)) := ⟨cl210, Ar210, Sz210, Hv210⟩
      obtain ⟨T212, h212, X212, e212, W212, st212⟩ := stI X204 hx hZ e204 Ar210 (j := (2 : Int32)) (own_hin Sz210 (by decide) (by decide)) (g := (mkF m 247 #[.val (.int p1), .val (.int p2), .val (.int p3), .val (.int p4), .val (.int (Int32.ofNat 3)), .val (.int b0), .val (.int b1), .val (.int b2), .val (.int b3), .val (.int e0'), .val (.int e1'), .val (.int e2'), .val (.int e3'), .val (.int s0'), .val (.int s1'), .val (.int s2'), .val (.int s3'), .val (.ref b17), .val (.ref b18), .val (.ref b19), .unset, .unset, .unset, .unset] [(.int b2), (.int (2 : Int32)), (.ref b20), (.ref b20)])) rfl rfl (hb hby at_247)
      have N212 := Fr.snoc X212 N204 g_b20
      refine go (T212.setTop (mkF m 248 #[.val (.int p1), .val (.int p2), .val (.int p3), .val (.int p4), .val (.int (Int32.ofNat 3)), .val (.int b0), .val (.int b1), .val (.int b2), .val (.int b3), .val (.int e0'), .val (.int e1'), .val (.int e2'), .val (.int e3'), .val (.int s0'), .val (.int s1'), .val (.int s2'), .val (.int s3'), .val (.ref b17), .val (.ref b18), .val (.ref b19), .unset, .unset, .unset, .unset] [(.ref b20)])) _ (fun t9 k9 => st212 _ k9) ?_
      have u213 : own_A Z h212 b17 .int 4 (fun j => .int ((own_4 s0' s1' s2' s3') j)) := own_A_other u205 W212 ne185
      have u214 : own_A Z h212 b18 .double 4 (fun j => .double (FP.i2d ((own_4 s0' s1' s2' s3') j))) := own_A_other u206 W212 ne186
      have u215 : own_A Z h212 b19 .double 4 (fun j => .double (FP.i2d ((own_4 e0' e1' e2' e3') j))) := own_A_other u207 W212 ne187
      have u216 : Keep h0 h212 [] := u208.wr W212 (Or.inr sz_b20)
      have u217 : own_A Z h212 b20 .int 3 (fun j => .int (if j < 3 then (own_4 b0 b1 b2 b3) j else 0)) := own_A_congr (own_A_set Ar210 Sz210 Hv210 W212 (by decide)) (own_setf Value.int (fun j => (own_4 b0 b1 b2 b3) j) 0 2 3)
      have u218 : own_A Z h212 b20 .int 3 (fun j => .int ((own_4 b0 b1 b2 b3) j)) := own_A_congr u217 (own_full Value.int (fun j => (own_4 b0 b1 b2 b3) j) 0 3)
      refine go (T212.setTop (mkF m 278 #[.val (.int p1), .val (.int p2), .val (.int p3), .val (.int p4), .val (.int (Int32.ofNat 3)), .val (.int b0), .val (.int b1), .val (.int b2), .val (.int b3), .val (.int e0'), .val (.int e1'), .val (.int e2'), .val (.int e3'), .val (.int s0'), .val (.int s1'), .val (.int s2'), .val (.int s3'), .val (.ref b17), .val (.ref b18), .val (.ref b19), .val (.ref b20), .unset, .unset, .unset] [])) _ (fun t9 k9 => ?_) ?_
      · show Steps p.tables e below (T212.setTop (mkF m 248 #[.val (.int p1), .val (.int p2), .val (.int p3), .val (.int p4), .val (.int (Int32.ofNat 3)), .val (.int b0), .val (.int b1), .val (.int b2), .val (.int b3), .val (.int e0'), .val (.int e1'), .val (.int e2'), .val (.int e3'), .val (.int s0'), .val (.int s1'), .val (.int s2'), .val (.int s3'), .val (.ref b17), .val (.ref b18), .val (.ref b19), .unset, .unset, .unset, .unset] [(.ref b20)])) _
        refine XS.astore X212.here hx rfl (hb hby at_248) rfl rfl (l' := #[.val (.int p1), .val (.int p2), .val (.int p3), .val (.int p4), .val (.int (Int32.ofNat 3)), .val (.int b0), .val (.int b1), .val (.int b2), .val (.int b3), .val (.int e0'), .val (.int e1'), .val (.int e2'), .val (.int e3'), .val (.int s0'), .val (.int s1'), .val (.int s2'), .val (.int s3'), .val (.ref b17), .val (.ref b18), .val (.ref b19), .val (.ref b20), .unset, .unset, .unset]) rfl ?_
        show Steps p.tables e below (T212.setTop (mkF m 250 #[.val (.int p1), .val (.int p2), .val (.int p3), .val (.int p4), .val (.int (Int32.ofNat 3)), .val (.int b0), .val (.int b1), .val (.int b2), .val (.int b3), .val (.int e0'), .val (.int e1'), .val (.int e2'), .val (.int e3'), .val (.int s0'), .val (.int s1'), .val (.int s2'), .val (.int s3'), .val (.ref b17), .val (.ref b18), .val (.ref b19), .val (.ref b20), .unset, .unset, .unset] [])) _
        refine XS.goto X212.here hx rfl (pc0 := 250) (pc' := 278) rfl (hb hby at_250) (by decide) (by decide) ?_
        exact k9
      exact j278 _ _ _ b20 (X212.more (by decide) (by decide)) e212 u216 N212 u213 u214 u215 u218
    · refine go (T121.setTop (mkF m 254 #[.val (.int p1), .val (.int p2), .val (.int p3), .val (.int p4), .val (.int (Int32.ofNat 4)), .val (.int b0), .val (.int b1), .val (.int b2), .val (.int b3), .val (.int e0'), .val (.int e1'), .val (.int e2'), .val (.int e3'), .val (.int s0'), .val (.int s1'), .val (.int s2'), .val (.int s3'), .val (.ref b17), .val (.ref b18), .val (.ref b19), .unset, .unset, .unset, .unset] [(.int (4 : Int32))])) _ (fun t9 k9 => ?_) ?_
      · show Steps p.tables e below (T121.setTop (mkF m 168 #[.val (.int p1), .val (.int p2), .val (.int p3), .val (.int p4), .val (.int (Int32.ofNat 4)), .val (.int b0), .val (.int b1), .val (.int b2), .val (.int b3), .val (.int e0'), .val (.int e1'), .val (.int e2'), .val (.int e3'), .val (.int s0'), .val (.int s1'), .val (.int s2'), .val (.int s3'), .val (.ref b17), .val (.ref b18), .val (.ref b19), .unset, .unset, .unset, .unset] [])) _
        refine XS.iload X121.here hx rfl (hb hby at_168) rfl ?_
        show Steps p.tables e below (T121.setTop (mkF m 170 #[.val (.int p1), .val (.int p2), .val (.int p3), .val (.int p4), .val (.int (Int32.ofNat 4)), .val (.int b0), .val (.int b1), .val (.int b2), .val (.int b3), .val (.int e0'), .val (.int e1'), .val (.int e2'), .val (.int e3'), .val (.int s0'), .val (.int s1'), .val (.int s2'), .val (.int s3'), .val (.ref b17), .val (.ref b18), .val (.ref b19), .unset, .unset, .unset, .unset] [(.int (Int32.ofNat 4))])) _
        refine XS.ifYes X121.here hx rfl (pc0 := 170) (pc' := 181) rfl (hb hby at_170) rfl ((if0 _ _).trans (feq (by decide : ¬ (Int32.ofNat 4) = (0 : Int32))).2) (by decide) (by decide) ?_
        show Steps p.tables e below (T121.setTop (mkF m 181 #[.val (.int p1), .val (.int p2), .val (.int p3), .val (.int p4), .val (.int (Int32.ofNat 4)), .val (.int b0), .val (.int b1), .val (.int b2), .val (.int b3), .val (.int e0'), .val (.int e1'), .val (.int e2'), .val (.int e3'), .val (.int s0'), .val (.int s1'), .val (.int s2'), .val (.int s3'), .val (.ref b17), .val (.ref b18), .val (.ref b19), .unset, .unset, .unset, .unset] [])) _
        refine XS.iload X121.here hx rfl (hb hby at_181) rfl ?_
        show Steps p.tables e below (T121.setTop (mkF m 183 #[.val (.int p1), .val (.int p2), .val (.int p3), .val (.int p4), .val (.int (Int32.ofNat 4)), .val (.int b0), .val (.int b1), .val (.int b2), .val (.int b3), .val (.int e0'), .val (.int e1'), .val (.int e2'), .val (.int e3'), .val (.int s0'), .val (.int s1'), .val (.int s2'), .val (.int s3'), .val (.ref b17), .val (.ref b18), .val (.ref b19), .unset, .unset, .unset, .unset] [(.int (Int32.ofNat 4))])) _
        refine XS.iconst X121.here hx rfl (hb hby at_183) ?_
        show Steps p.tables e below (T121.setTop (mkF m 184 #[.val (.int p1), .val (.int p2), .val (.int p3), .val (.int p4), .val (.int (Int32.ofNat 4)), .val (.int b0), .val (.int b1), .val (.int b2), .val (.int b3), .val (.int e0'), .val (.int e1'), .val (.int e2'), .val (.int e3'), .val (.int s0'), .val (.int s1'), .val (.int s2'), .val (.int s3'), .val (.ref b17), .val (.ref b18), .val (.ref b19), .unset, .unset, .unset, .unset] [(.int (1 : Int32)), (.int (Int32.ofNat 4))])) _
        refine XS.icmpYes X121.here hx rfl (pc0 := 184) (pc' := 200) rfl (hb hby at_184) rfl (feq (by decide : ¬ (Int32.ofNat 4) = (1 : Int32))).2 (by decide) (by decide) ?_
        show Steps p.tables e below (T121.setTop (mkF m 200 #[.val (.int p1), .val (.int p2), .val (.int p3), .val (.int p4), .val (.int (Int32.ofNat 4)), .val (.int b0), .val (.int b1), .val (.int b2), .val (.int b3), .val (.int e0'), .val (.int e1'), .val (.int e2'), .val (.int e3'), .val (.int s0'), .val (.int s1'), .val (.int s2'), .val (.int s3'), .val (.ref b17), .val (.ref b18), .val (.ref b19), .unset, .unset, .unset, .unset] [])) _
        refine XS.iload X121.here hx rfl (hb hby at_200) rfl ?_
        show Steps p.tables e below (T121.setTop (mkF m 202 #[.val (.int p1), .val (.int p2), .val (.int p3), .val (.int p4), .val (.int (Int32.ofNat 4)), .val (.int b0), .val (.int b1), .val (.int b2), .val (.int b3), .val (.int e0'), .val (.int e1'), .val (.int e2'), .val (.int e3'), .val (.int s0'), .val (.int s1'), .val (.int s2'), .val (.int s3'), .val (.ref b17), .val (.ref b18), .val (.ref b19), .unset, .unset, .unset, .unset] [(.int (Int32.ofNat 4))])) _
        refine XS.iconst X121.here hx rfl (hb hby at_202) ?_
        show Steps p.tables e below (T121.setTop (mkF m 203 #[.val (.int p1), .val (.int p2), .val (.int p3), .val (.int p4), .val (.int (Int32.ofNat 4)), .val (.int b0), .val (.int b1), .val (.int b2), .val (.int b3), .val (.int e0'), .val (.int e1'), .val (.int e2'), .val (.int e3'), .val (.int s0'), .val (.int s1'), .val (.int s2'), .val (.int s3'), .val (.ref b17), .val (.ref b18), .val (.ref b19), .unset, .unset, .unset, .unset] [(.int (2 : Int32)), (.int (Int32.ofNat 4))])) _
        refine XS.icmpYes X121.here hx rfl (pc0 := 203) (pc' := 224) rfl (hb hby at_203) rfl (feq (by decide : ¬ (Int32.ofNat 4) = (2 : Int32))).2 (by decide) (by decide) ?_
        show Steps p.tables e below (T121.setTop (mkF m 224 #[.val (.int p1), .val (.int p2), .val (.int p3), .val (.int p4), .val (.int (Int32.ofNat 4)), .val (.int b0), .val (.int b1), .val (.int b2), .val (.int b3), .val (.int e0'), .val (.int e1'), .val (.int e2'), .val (.int e3'), .val (.int s0'), .val (.int s1'), .val (.int s2'), .val (.int s3'), .val (.ref b17), .val (.ref b18), .val (.ref b19), .unset, .unset, .unset, .unset] [])) _
        refine XS.iload X121.here hx rfl (hb hby at_224) rfl ?_
        show Steps p.tables e below (T121.setTop (mkF m 226 #[.val (.int p1), .val (.int p2), .val (.int p3), .val (.int p4), .val (.int (Int32.ofNat 4)), .val (.int b0), .val (.int b1), .val (.int b2), .val (.int b3), .val (.int e0'), .val (.int e1'), .val (.int e2'), .val (.int e3'), .val (.int s0'), .val (.int s1'), .val (.int s2'), .val (.int s3'), .val (.ref b17), .val (.ref b18), .val (.ref b19), .unset, .unset, .unset, .unset] [(.int (Int32.ofNat 4))])) _
        refine XS.iconst X121.here hx rfl (hb hby at_226) ?_
        show Steps p.tables e below (T121.setTop (mkF m 227 #[.val (.int p1), .val (.int p2), .val (.int p3), .val (.int p4), .val (.int (Int32.ofNat 4)), .val (.int b0), .val (.int b1), .val (.int b2), .val (.int b3), .val (.int e0'), .val (.int e1'), .val (.int e2'), .val (.int e3'), .val (.int s0'), .val (.int s1'), .val (.int s2'), .val (.int s3'), .val (.ref b17), .val (.ref b18), .val (.ref b19), .unset, .unset, .unset, .unset] [(.int (3 : Int32)), (.int (Int32.ofNat 4))])) _
        refine XS.icmpYes X121.here hx rfl (pc0 := 227) (pc' := 253) rfl (hb hby at_227) rfl (feq (by decide : ¬ (Int32.ofNat 4) = (3 : Int32))).2 (by decide) (by decide) ?_
        show Steps p.tables e below (T121.setTop (mkF m 253 #[.val (.int p1), .val (.int p2), .val (.int p3), .val (.int p4), .val (.int (Int32.ofNat 4)), .val (.int b0), .val (.int b1), .val (.int b2), .val (.int b3), .val (.int e0'), .val (.int e1'), .val (.int e2'), .val (.int e3'), .val (.int s0'), .val (.int s1'), .val (.int s2'), .val (.int s3'), .val (.ref b17), .val (.ref b18), .val (.ref b19), .unset, .unset, .unset, .unset] [])) _
        refine XS.iconst X121.here hx rfl (hb hby at_253) ?_
        exact k9
      obtain ⟨T219, h219, k219, X219, e219, E219, A219, st219⟩ := newP X121 hx hZ (hw _ (List.mem_of_getElem? (i := 1) rfl)) e121 (g := (mkF m 254 #[.val (.int p1), .val (.int p2), .val (.int p3), .val (.int p4), .val (.int (Int32.ofNat 4)), .val (.int b0), .val (.int b1), .val (.int b2), .val (.int b3), .val (.int e0'), .val (.int e1'), .val (.int e2'), .val (.int e3'), .val (.int s0'), .val (.int s1'), .val (.int s2'), .val (.int s3'), .val (.ref b17), .val (.ref b18), .val (.ref b19), .unset, .unset, .unset, .unset] [(.int (4 : Int32))])) rfl (hb hby at_254) rfl (by decide) (cap := 4) (by decide) (by decide) (by decide) (by decide)
      obtain ⟨b20, g219⟩ : ∃ z, z = h121.size := ⟨_, rfl⟩
      rw [← g219] at A219 st219
      refine go (T219.setTop (mkF m 256 #[.val (.int p1), .val (.int p2), .val (.int p3), .val (.int p4), .val (.int (Int32.ofNat 4)), .val (.int b0), .val (.int b1), .val (.int b2), .val (.int b3), .val (.int e0'), .val (.int e1'), .val (.int e2'), .val (.int e3'), .val (.int s0'), .val (.int s1'), .val (.int s2'), .val (.int s3'), .val (.ref b17), .val (.ref b18), .val (.ref b19), .unset, .unset, .unset, .unset] [(.ref b20)])) _ (fun t9 k9 => st219 _ k9) ?_
      have ne220 : b17 ≠ b20 := Nat.ne_of_lt (Nat.lt_of_lt_of_le (own_A_lt u122) (Nat.le_of_eq g219.symm))
      have ne221 : b18 ≠ b20 := Nat.ne_of_lt (Nat.lt_of_lt_of_le (own_A_lt u123) (Nat.le_of_eq g219.symm))
      have ne222 : b19 ≠ b20 := Nat.ne_of_lt (Nat.lt_of_lt_of_le (own_A_lt u126) (Nat.le_of_eq g219.symm))
      have sz_b20 : h0.size ≤ b20 := Nat.le_trans u124.1 (Nat.le_of_eq g219.symm)
      have g_b20 : n0 ≤ b20 := Nat.le_trans Z0 sz_b20
      have u223 : own_A Z h219 b17 .int 4 (fun j => .int ((own_4 s0' s1' s2' s3') j)) := own_A_ext u122 E219
      have u224 : own_A Z h219 b18 .double 4 (fun j => .double (FP.i2d ((own_4 s0' s1' s2' s3') j))) := own_A_ext u123 E219
      have u225 : own_A Z h219 b19 .double 4 (fun j => .double (FP.i2d ((own_4 e0' e1' e2' e3') j))) := own_A_ext u126 E219
      have u226 : Keep h0 h219 [] := u124.ext E219
      have u227 : own_A Z h219 b20 .int 4 (fun _ => (.int 0)) := own_A_new A219 rfl
      have u228 : own_A Z h219 b20 .int 4 (fun j => .int (if j < 0 then (own_4 b0 b1 b2 b3) j else 0)) := own_A_congr u227 (own_zero Value.int (fun j => (own_4 b0 b1 b2 b3) j) 0 4)
      refine go (T219.setTop (mkF m 260 #[.val (.int p1), .val (.int p2), .val (.int p3), .val (.int p4), .val (.int (Int32.ofNat 4)), .val (.int b0), .val (.int b1), .val (.int b2), .val (.int b3), .val (.int e0'), .val (.int e1'), .val (.int e2'), .val (.int e3'), .val (.int s0'), .val (.int s1'), .val (.int s2'), .val (.int s3'), .val (.ref b17), .val (.ref b18), .val (.ref b19), .unset, .unset, .unset, .unset] [(.int b0), (.int (0 : Int32)), (.ref b20), (.ref b20)])) _ (fun t9 k9 => ?_) ?_
      · show Steps p.tables e below (T219.setTop (mkF m 256 #[.val (.int p1), .val (.int p2), .val (.int p3), .val (.int p4), .val (.int (Int32.ofNat 4)), .val (.int b0), .val (.int b1), .val (.int b2), .val (.int b3), .val (.int e0'), .val (.int e1'), .val (.int e2'), .val (.int e3'), .val (.int s0'), .val (.int s1'), .val (.int s2'), .val (.int s3'), .val (.ref b17), .val (.ref b18), .val (.ref b19), .unset, .unset, .unset, .unset] [(.ref b20)])) _
        refine XS.dup X219.here hx rfl (hb hby at_256) rfl rfl ?_
        show Steps p.tables e below (T219.setTop (mkF m 257 #[.val (.int p1), .val (.int p2), .val (.int p3), .val (.int p4), .val (.int (Int32.ofNat 4)), .val (.int b0), .val (.int b1), .val (.int b2), .val (.int b3), .val (.int e0'), .val (.int e1'), .val (.int e2'), .val (.int e3'), .val (.int s0'), .val (.int s1'), .val (.int s2'), .val (.int s3'), .val (.ref b17), .val (.ref b18), .val (.ref b19), .unset, .unset, .unset, .unset] [(.ref b20), (.ref b20)])) _
        refine XS.iconst X219.here hx rfl (hb hby at_257) ?_
        show Steps p.tables e below (T219.setTop (mkF m 258 #[.val (.int p1), .val (.int p2), .val (.int p3), .val (.int p4), .val (.int (Int32.ofNat 4)), .val (.int b0), .val (.int b1), .val (.int b2), .val (.int b3), .val (.int e0'), .val (.int e1'), .val (.int e2'), .val (.int e3'), .val (.int s0'), .val (.int s1'), .val (.int s2'), .val (.int s3'), .val (.ref b17), .val (.ref b18), .val (.ref b19), .unset, .unset, .unset, .unset] [(.int (0 : Int32)), (.ref b20), (.ref b20)])) _
        refine XS.iload X219.here hx rfl (hb hby at_258) rfl ?_
        exact k9
      obtain ⟨cl229, Ar229, Sz229, Hv229⟩ := u228
      have u230 : own_A Z h219 b20 .int 4 (fun j => .int (if j < 0 then (own_4 b0 b1 b2 b3) j else 0)) := ⟨cl229, Ar229, Sz229, Hv229⟩
      obtain ⟨T231, h231, X231, e231, W231, st231⟩ := stI X219 hx hZ e219 Ar229 (j := (0 : Int32)) (own_hin Sz229 (by decide) (by decide)) (g := (mkF m 260 #[.val (.int p1), .val (.int p2), .val (.int p3), .val (.int p4), .val (.int (Int32.ofNat 4)), .val (.int b0), .val (.int b1), .val (.int b2), .val (.int b3), .val (.int e0'), .val (.int e1'), .val (.int e2'), .val (.int e3'), .val (.int s0'), .val (.int s1'), .val (.int s2'), .val (.int s3'), .val (.ref b17), .val (.ref b18), .val (.ref b19), .unset, .unset, .unset, .unset] [(.int b0), (.int (0 : Int32)), (.ref b20), (.ref b20)])) rfl rfl (hb hby at_260)
      have N231 := Fr.snoc X231 N121 g_b20
      refine go (T231.setTop (mkF m 261 #[.val (.int p1), .val (.int p2), .val (.int p3), .val (.int p4), .val (.int (Int32.ofNat 4)), .val (.int b0), .val (.int b1), .val (.int b2), .val (.int b3), .val (.int e0'), .val (.int e1'), .val (.int e2'), .val (.int e3'), .val (.int s0'), .val (.int s1'), .val (.int s2'), .val (.int s3'), .val (.ref b17), .val (.ref b18), .val (.ref b19), .unset, .unset, .unset, .unset] [(.ref b20)])) _ (fun t9 k9 => st231 _ k9) ?_
      have u232 : own_A Z h231 b17 .int 4 (fun j => .int ((own_4 s0' s1' s2' s3') j)) := own_A_other u223 W231 ne220
      have u233 : own_A Z h231 b18 .double 4 (fun j => .double (FP.i2d ((own_4 s0' s1' s2' s3') j))) := own_A_other u224 W231 ne221
      have u234 : own_A Z h231 b19 .double 4 (fun j => .double (FP.i2d ((own_4 e0' e1' e2' e3') j))) := own_A_other u225 W231 ne222
      have u235 : Keep h0 h231 [] := u226.wr W231 (Or.inr sz_b20)
      have u236 : own_A Z h231 b20 .int 4 (fun j => .int (if j < 1 then (own_4 b0 b1 b2 b3) j else 0)) := own_A_congr (own_A_set Ar229 Sz229 Hv229 W231 (by decide)) (own_setf Value.int (fun j => (own_4 b0 b1 b2 b3) j) 0 0 4)
      refine go (T231.setTop (mkF m 265 #[.val (.int p1), .val (.int p2), .val (.int p3), .val (.int p4), .val (.int (Int32.ofNat 4)), .val (.int b0), .val (.int b1), .val (.int b2), .val (.int b3), .val (.int e0'), .val (.int e1'), .val (.int e2'), .val (.int e3'), .val (.int s0'), .val (.int s1'), .val (.int s2'), .val (.int s3'), .val (.ref b17), .val (.ref b18), .val (.ref b19), .unset, .unset, .unset, .unset] [(.int b1), (.int (1 : Int32)), (.ref b20), (.ref b20)])) _ (fun t9 k9 => ?_) ?_
      · show Steps p.tables e below (T231.setTop (mkF m 261 #[.val (.int p1), .val (.int p2), .val (.int p3), .val (.int p4), .val (.int (Int32.ofNat 4)), .val (.int b0), .val (.int b1), .val (.int b2), .val (.int b3), .val (.int e0'), .val (.int e1'), .val (.int e2'), .val (.int e3'), .val (.int s0'), .val (.int s1'), .val (.int s2'), .val (.int s3'), .val (.ref b17), .val (.ref b18), .val (.ref b19), .unset, .unset, .unset, .unset] [(.ref b20)])) _
        refine XS.dup X231.here hx rfl (hb hby at_261) rfl rfl ?_
        show Steps p.tables e below (T231.setTop (mkF m 262 #[.val (.int p1), .val (.int p2), .val (.int p3), .val (.int p4), .val (.int (Int32.ofNat 4)), .val (.int b0), .val (.int b1), .val (.int b2), .val (.int b3), .val (.int e0'), .val (.int e1'), .val (.int e2'), .val (.int e3'), .val (.int s0'), .val (.int s1'), .val (.int s2'), .val (.int s3'), .val (.ref b17), .val (.ref b18), .val (.ref b19), .unset, .unset, .unset, .unset] [(.ref b20), (.ref b20)])) _
        refine XS.iconst X231.here hx rfl (hb hby at_262) ?_
        show Steps p.tables e below (T231.setTop (mkF m 263 #[.val (.int p1), .val (.int p2), .val (.int p3), .val (.int p4), .val (.int (Int32.ofNat 4)), .val (.int b0), .val (.int b1), .val (.int b2), .val (.int b3), .val (.int e0'), .val (.int e1'), .val (.int e2'), .val (.int e3'), .val (.int s0'), .val (.int s1'), .val (.int s2'), .val (.int s3'), .val (.ref b17), .val (.ref b18), .val (.ref b19), .unset, .unset, .unset, .unset] [(.int (1 : Int32)), (.ref b20), (.ref b20)])) _
        refine XS.iload X231.here hx rfl (hb hby at_263) rfl ?_
        exact k9
      obtain ⟨cl237, Ar237, Sz237, Hv237⟩ := u236
      have u238 : own_A Z h231 b20 .int 4 (fun j => .int (if j < 1 then (own_4 b0 b1 b2 b3) j else 0)) := ⟨cl237, Ar237, Sz237, Hv237⟩
      obtain ⟨T239, h239, X239, e239, W239, st239⟩ := stI X231 hx hZ e231 Ar237 (j := (1 : Int32)) (own_hin Sz237 (by decide) (by decide)) (g := (mkF m 265 #[.val (.int p1), .val (.int p2), .val (.int p3), .val (.int p4), .val (.int (Int32.ofNat 4)), .val (.int b0), .val (.int b1), .val (.int b2), .val (.int b3), .val (.int e0'), .val (.int e1'), .val (.int e2'), .val (.int e3'), .val (.int s0'), .val (.int s1'), .val (.int s2'), .val (.int s3'), .val (.ref b17), .val (.ref b18), .val (.ref b19), .unset, .unset, .unset, .unset] [(.int b1), (.int (1 : Int32)), (.ref b20), (.ref b20)])) rfl rfl (hb hby at_265)
      have N239 := Fr.snoc X239 N231 g_b20
      refine go (T239.setTop (mkF m 266 #[.val (.int p1), .val (.int p2), .val (.int p3), .val (.int p4), .val (.int (Int32.ofNat 4)), .val (.int b0), .val (.int b1), .val (.int b2), .val (.int b3), .val (.int e0'), .val (.int e1'), .val (.int e2'), .val (.int e3'), .val (.int s0'), .val (.int s1'), .val (.int s2'), .val (.int s3'), .val (.ref b17), .val (.ref b18), .val (.ref b19), .unset, .unset, .unset, .unset] [(.ref b20)])) _ (fun t9 k9 => st239 _ k9) ?_
      have u240 : own_A Z h239 b17 .int 4 (fun j => .int ((own_4 s0' s1' s2' s3') j)) := own_A_other u232 W239 ne220
      have u241 : own_A Z h239 b18 .double 4 (fun j => .double (FP.i2d ((own_4 s0' s1' s2' s3') j))) := own_A_other u233 W239 ne221
      have u242 : own_A Z h239 b19 .double 4 (fun j => .double (FP.i2d ((own_4 e0' e1' e2' e3') j))) := own_A_other u234 W239 ne222
      have u243 : Keep h0 h239 [] := u235.wr W239 (Or.inr sz_b20)
      have u244 : own_A Z h239 b20 .int 4 (fun j => .int (if j < 2 then (own_4 b0 b1 b2 b3) j else 0)) := own_A_congr (own_A_set Ar237 Sz237 Hv237 W239 (by decide)) (own_setf Value.int (fun j => (own_4 b0 b1 b2 b3) j) 0 1 4)
      refine go (T239.setTop (mkF m 270 #[.val (.int p1), .val (.int p2), .val (.int p3), .val (.int p4), .val (.int (Int32.ofNat 4)), .val (.int b0), .val (.int b1), .val (.int b2), .val (.int b3), .val (.int e0'), .val (.int e1'), .val (.int e2'), .val (.int e3'), .val (.int s0'), .val (.int s1'), .val (.int s2'), .val (.int s3'), .val (.ref b17), .val (.ref b18), .val (.ref b19), .unset, .unset, .unset, .unset] [(.int b2), (.int (2 : Int32)), (.ref b20), (.ref b20)])) _ (fun t9 k9 => ?_) ?_
      · show Steps p.tables e below (T239.setTop (mkF m 266 #[.val (.int p1), .val (.int p2), .val (.int p3), .val (.int p4), .val (.int (Int32.ofNat 4)), .val (.int b0), .val (.int b1), .val (.int b2), .val (.int b3), .val (.int e0'), .val (.int e1'), .val (.int e2'), .val (.int e3'), .val (.int s0'), .val (.int s1'), .val (.int s2'), .val (.int s3'), .val (.ref b17), .val (.ref b18), .val (.ref b19), .unset, .unset, .unset, .unset] [(.ref b20)])) _
        refine XS.dup X239.here hx rfl (hb hby at_266) rfl rfl ?_
        show Steps p.tables e below (T239.setTop (mkF m 267 #[.val (.int p1), .val (.int p2), .val (.int p3), .val (.int p4), .val (.int (Int32.ofNat 4)), .val (.int b0), .val (.int b1), .val (.int b2), .val (.int b3), .val (.int e0'), .val (.int e1'), .val (.int e2'), .val (.int e3'), .val (.int s0'), .val (.int s1'), .val (.int s2'), .val (.int s3'), .val (.ref b17), .val (.ref b18), .val (.ref b19), .unset, .unset, .unset, .unset] [(.ref b20), (.ref b20)])) _
        refine XS.iconst X239.here hx rfl (hb hby at_267) ?_
        show Steps p.tables e below (T239.setTop (mkF m 268 #[.val (.int p1), .val (.int p2), .val (.int p3), .val (.int p4), .val (.int (Int32.ofNat 4)), .val (.int b0), .val (.int b1), .val (.int b2), .val (.int b3), .val (.int e0'), .val (.int e1'), .val (.int e2'), .val (.int e3'), .val (.int s0'), .val (.int s1'), .val (.int s2'), .val (.int s3'), .val (.ref b17), .val (.ref b18), .val (.ref b19), .unset, .unset, .unset, .unset] [(.int (2 : Int32)), (.ref b20), (.ref b20)])) _
        refine XS.iload X239.here hx rfl (hb hby at_268) rfl ?_
        exact k9
      obtain ⟨cl245, Ar245, Sz245, Hv245⟩ := u244
      have u246 : own_A Z h239 b20 .int 4 (fun j => .int (if j < 2 then (own_4 b0 b1 b2 b3) j else 0)) := ⟨cl245, Ar245, Sz245, Hv245⟩
      obtain ⟨T247, h247, X247, e247, W247, st247⟩ := stI X239 hx hZ e239 Ar245 (j := (2 : Int32)) (own_hin Sz245 (by decide) (by decide)) (g := (mkF m 270 #[.val (.int p1), .val (.int p2), .val (.int p3), .val (.int p4), .val (.int (Int32.ofNat 4)), .val (.int b0), .val (.int b1), .val (.int b2), .val (.int b3), .val (.int e0'), .val (.int e1'), .val (.int e2'), .val (.int e3'), .val (.int s0'), .val (.int s1'), .val (.int s2'), .val (.int s3'), .val (.ref b17), .val (.ref b18), .val (.ref b19), .unset, .unset, .unset, .unset] [(.int b2), (.int (2 : Int32)), (.ref b20), (.ref b20)])) rfl rfl (hb hby at_270)
      have N247 := Fr.snoc X247 N239 g_b20
      refine go (T247.setTop (mkF m 271 #[.val (.int p1), .val (.int p2), .val (.int p3), .val (.int p4), .val (.int (Int32.ofNat 4)), .val (.int b0), .val (.int b1), .val (.int b2), .val (.int b3), .val (.int e0'), .val (.int e1'), .val (.int e2'), .val (.int e3'), .val (.int s0'), .val (.int s1'), .val (.int s2'), .val (.int s3'), .val (.ref b17), .val (.ref b18), .val (.ref b19), .unset, .unset, .unset, .unset] [(.ref b20)])) _ (fun t9 k9 => st247 _ k9) ?_
      have u248 : own_A Z h247 b17 .int 4 (fun j => .int ((own_4 s0' s1' s2' s3') j)) := own_A_other u240 W247 ne220
      have u249 : own_A Z h247 b18 .double 4 (fun j => .double (FP.i2d ((own_4 s0' s1' s2' s3') j))) := own_A_other u241 W247 ne221
      have u250 : own_A Z h247 b19 .double 4 (fun j => .double (FP.i2d ((own_4 e0' e1' e2' e3') j))) := own_A_other u242 W247 ne222
      have u251 : Keep h0 h247 [] := u243.wr W247 (Or.inr sz_b20)
      have u252 : own_A Z h247 b20 .int 4 (fun j => .int (if j < 3 then (own_4 b0 b1 b2 b3) j else 0)) := own_A_congr (own_A_set Ar245 Sz245 Hv245 W247 (by decide)) (own_setf Value.int (fun j => (own_4 b0 b1 b2 b3) j) 0 2 4)
      refine go (T247.setTop (mkF m 275 #[.val (.int p1), .val (.int p2), .val (.int p3), .val (.int p4), .val (.int (Int32.ofNat 4)), .val (.int b0), .val (.int b1), .val (.int b2), .val (.int b3), .val (.int e0'), .val (.int e1'), .val (.int e2'), .val (.int e3'), .val (.int s0'), .val (.int s1'), .val (.int s2'), .val (.int s3'), .val (.ref b17), .val (.ref b18), .val (.ref b19), .unset, .unset, .unset, .unset] [(.int b3), (.int (3 : Int32)), (.ref b20), (.ref b20)])) _ (fun t9 k9 => ?_) ?_
      · show Steps p.tables e below (T247.setTop (mkF m 271 #[.val (.int p1), .val (.int p2), .val (.int p3), .val (.int p4), .val (.int (Int32.ofNat 4)), .val (.int b0), .val (.int b1), .val (.int b2), .val (.int b3), .val (.int e0'), .val (.int e1'), .val (.int e2'), .val (.int e3'), .val (.int s0'), .val (.int s1'), .val (.int s2'), .val (.int s3'), .val (.ref b17), .val (.ref b18), .val (.ref b19), .unset, .unset, .unset, .unset] [(.ref b20)])) _
        refine XS.dup X247.here hx rfl (hb hby at_271) rfl rfl ?_
        show Steps p.tables e below (T247.setTop (mkF m 272 #[.val (.int p1), .val (.int p2), .val (.int p3), .val (.int p4), .val (.int (Int32.ofNat 4)), .val (.int b0), .val (.int b1), .val (.int b2), .val (.int b3), .val (.int e0'), .val (.int e1'), .val (.int e2'), .val (.int e3'), .val (.int s0'), .val (.int s1'), .val (.int s2'), .val (.int s3'), .val (.ref b17), .val (.ref b18), .val (.ref b19), .unset, .unset, .unset, .unset] [(.ref b20), (.ref b20)])) _
        refine XS.iconst X247.here hx rfl (hb hby at_272) ?_
        show Steps p.tables e below (T247.setTop (mkF m 273 #[.val (.int p1), .val (.int p2), .val (.int p3), .val (.int p4), .val (.int (Int32.ofNat 4)), .val (.int b0), .val (.int b1), .val (.int b2), .val (.int b3), .val (.int e0'), .val (.int e1'), .val (.int e2'), .val (.int e3'), .val (.int s0'), .val (.int s1'), .val (.int s2'), .val (.int s3'), .val (.ref b17), .val (.ref b18), .val (.ref b19), .unset, .unset, .unset, .unset] [(.int (3 : Int32)), (.ref b20), (.ref b20)])) _
        refine XS.iload X247.here hx rfl (hb hby at_273) rfl ?_
        exact k9
      obtain ⟨cl253, Ar253, Sz253, Hv253⟩ := u252
      have u254 : own_A Z h247 b20 .int 4 (fun j => .int (if j < 3 then (own_4 b0 b1 b2 b3) j else 0)) := ⟨cl253, Ar253, Sz253, Hv253⟩
      obtain ⟨T255, h255, X255, e255, W255, st255⟩ := stI X247 hx hZ e247 Ar253 (j := (3 : Int32)) (own_hin Sz253 (by decide) (by decide)) (g := (mkF m 275 #[.val (.int p1), .val (.int p2), .val (.int p3), .val (.int p4), .val (.int (Int32.ofNat 4)), .val (.int b0), .val (.int b1), .val (.int b2), .val (.int b3), .val (.int e0'), .val (.int e1'), .val (.int e2'), .val (.int e3'), .val (.int s0'), .val (.int s1'), .val (.int s2'), .val (.int s3'), .val (.ref b17), .val (.ref b18), .val (.ref b19), .unset, .unset, .unset, .unset] [(.int b3), (.int (3 : Int32)), (.ref b20), (.ref b20)])) rfl rfl (hb hby at_275)
      have N255 := Fr.snoc X255 N247 g_b20
      refine go (T255.setTop (mkF m 276 #[.val (.int p1), .val (.int p2), .val (.int p3), .val (.int p4), .val (.int (Int32.ofNat 4)), .val (.int b0), .val (.int b1), .val (.int b2), .val (.int b3), .val (.int e0'), .val (.int e1'), .val (.int e2'), .val (.int e3'), .val (.int s0'), .val (.int s1'), .val (.int s2'), .val (.int s3'), .val (.ref b17), .val (.ref b18), .val (.ref b19), .unset, .unset, .unset, .unset] [(.ref b20)])) _ (fun t9 k9 => st255 _ k9) ?_
      have u256 : own_A Z h255 b17 .int 4 (fun j => .int ((own_4 s0' s1' s2' s3') j)) := own_A_other u248 W255 ne220
      have u257 : own_A Z h255 b18 .double 4 (fun j => .double (FP.i2d ((own_4 s0' s1' s2' s3') j))) := own_A_other u249 W255 ne221
      have u258 : own_A Z h255 b19 .double 4 (fun j => .double (FP.i2d ((own_4 e0' e1' e2' e3') j))) := own_A_other u250 W255 ne222
      have u259 : Keep h0 h255 [] := u251.wr W255 (Or.inr sz_b20)
      have u260 : own_A Z h255 b20 .int 4 (fun j => .int (if j < 4 then (own_4 b0 b1 b2 b3) j else 0)) := own_A_congr (own_A_set Ar253 Sz253 Hv253 W255 (by decide)) (own_setf Value.int (fun j => (own_4 b0 b1 b2 b3) j) 0 3 4)
      have u261 : own_A Z h255 b20 .int 4 (fun j => .int ((own_4 b0 b1 b2 b3) j)) := own_A_congr u260 (own_full Value.int (fun j => (own_4 b0 b1 b2 b3) j) 0 4)
      refine go (T255.setTop (mkF m 278 #[.val (.int p1), .val (.int p2), .val (.int p3), .val (.int p4), .val (.int (Int32.ofNat 4)), .val (.int b0), .val (.int b1), .val (.int b2), .val (.int b3), .val (.int e0'), .val (.int e1'), .val (.int e2'), .val (.int e3'), .val (.int s0'), .val (.int s1'), .val (.int s2'), .val (.int s3'), .val (.ref b17), .val (.ref b18), .val (.ref b19), .val (.ref b20), .unset, .unset, .unset] [])) _ (fun t9 k9 => ?_) ?_
      · show Steps p.tables e below (T255.setTop (mkF m 276 #[.val (.int p1), .val (.int p2), .val (.int p3), .val (.int p4), .val (.int (Int32.ofNat 4)), .val (.int b0), .val (.int b1), .val (.int b2), .val (.int b3), .val (.int e0'), .val (.int e1'), .val (.int e2'), .val (.int e3'), .val (.int s0'), .val (.int s1'), .val (.int s2'), .val (.int s3'), .val (.ref b17), .val (.ref b18), .val (.ref b19), .unset, .unset, .unset, .unset] [(.ref b20)])) _
        refine XS.astore X255.here hx rfl (hb hby at_276) rfl rfl (l' := #[.val (.int p1), .val (.int p2), .val (.int p3), .val (.int p4), .val (.int (Int32.ofNat 4)), .val (.int b0), .val (.int b1), .val (.int b2), .val (.int b3), .val (.int e0'), .val (.int e1'), .val (.int e2'), .val (.int e3'), .val (.int s0'), .val (.int s1'), .val (.int s2'), .val (.int s3'), .val (.ref b17), .val (.ref b18), .val (.ref b19), .val (.ref b20), .unset, .unset, .unset]) rfl ?_
        exact k9
      exact j278 _ _ _ b20 (X255.more (by decide) (by decide)) e255 u259 N255 u256 u257 u258 u261
  intro T1 h1 L1 b20 X1 e1 K1 N1 V17 V18 V19 V20
  obtain ⟨T262, h262, X262, e262, E262, A262, D262, -, st262⟩ := newO X1 hx hZ hown (hw _ (List.mem_of_getElem? (i := 3) rfl)) (hw _ (List.mem_of_getElem? (i := 4) rfl)) (hw _ (List.mem_of_getElem? (i := 5) rfl)) e1 (g := (mkF m 278 #[.val (.int p1), .val (.int p2), .val (.int p3), .val (.int p4), .val (.int (Int32.ofNat k)), .val (.int b0), .val (.int b1), .val (.int b2), .val (.int b3), .val (.int e0'), .val (.int e1'), .val (.int e2'), .val (.int e3'), .val (.int s0'), .val (.int s1'), .val (.int s2'), .val (.int s3'), .val (.ref b17), .val (.ref b18), .val (.ref b19), .val (.ref b20), .unset, .unset, .unset] [])) rfl (hb hby at_278) (by decide) (by decide)
  obtain ⟨b21, g262⟩ : ∃ z, z = h1.size := ⟨_, rfl⟩
  rw [← g262] at A262 D262 st262
  refine go (T262.setTop (mkF m 281 #[.val (.int p1), .val (.int p2), .val (.int p3), .val (.int p4), .val (.int (Int32.ofNat k)), .val (.int b0), .val (.int b1), .val (.int b2), .val (.int b3), .val (.int e0'), .val (.int e1'), .val (.int e2'), .val (.int e3'), .val (.int s0'), .val (.int s1'), .val (.int s2'), .val (.int s3'), .val (.ref b17), .val (.ref b18), .val (.ref b19), .val (.ref b20), .unset, .unset, .unset] [(.ref b21)])) _ (fun t9 k9 => st262 _ k9) ?_
  have ne263 : b17 ≠ b21 := Nat.ne_of_lt (Nat.lt_of_lt_of_le (own_A_lt V17) (Nat.le_of_eq g262.symm))
  have ne264 : b18 ≠ b21 := Nat.ne_of_lt (Nat.lt_of_lt_of_le (own_A_lt V18) (Nat.le_of_eq g262.symm))
  have ne265 : b19 ≠ b21 := Nat.ne_of_lt (Nat.lt_of_lt_of_le (own_A_lt V19) (Nat.le_of_eq g262.symm))
  have ne266 : b20 ≠ b21 := Nat.ne_of_lt (Nat.lt_of_lt_of_le (own_A_lt V20) (Nat.le_of_eq g262.symm))
  have sz_b21 : h0.size ≤ b21 := Nat.le_trans K1.1 (Nat.le_of_eq g262.symm)
  have g_b21 : n0 ≤ b21 := Nat.le_trans Z0 sz_b21
  have u267 : own_A Z h262 b17 .int 4 (fun j => .int ((own_4 s0' s1' s2' s3') j)) := own_A_ext V17 E262
  have u268 : own_A Z h262 b18 .double 4 (fun j => .double (FP.i2d ((own_4 s0' s1' s2' s3') j))) := own_A_ext V18 E262
  have u269 : own_A Z h262 b19 .double 4 (fun j => .double (FP.i2d ((own_4 e0' e1' e2' e3') j))) := own_A_ext V19 E262
  have u270 : own_A Z h262 b20 .int k (fun j => .int ((own_4 b0 b1 b2 b3) j)) := own_A_ext V20 E262
  have u271 : Keep h0 h262 [] := K1.ext E262
  have u272 : Fld Z h262 b21 "com/example/sensebid/sensebid/mechanism/CoverRow" "bids" "[I" .null := D262 (Or.inr (hw _ (List.mem_of_getElem? (i := 13) rfl))) (ty := (.array .int)) (by decide)
  have u273 : Fld Z h262 b21 "com/example/sensebid/sensebid/mechanism/CoverRow" "entries" "[D" .null := D262 (Or.inr (hw _ (List.mem_of_getElem? (i := 15) rfl))) (ty := (.array .double)) (by decide)
  have u274 : Fld Z h262 b21 "com/example/sensebid/sensebid/mechanism/CoverRow" "demand" "D" (.double (0 : UInt64)) := D262 (Or.inr (hw _ (List.mem_of_getElem? (i := 17) rfl))) (ty := .double) (by decide)
  refine go (T262.setTop (mkF m 287 #[.val (.int p1), .val (.int p2), .val (.int p3), .val (.int p4), .val (.int (Int32.ofNat k)), .val (.int b0), .val (.int b1), .val (.int b2), .val (.int b3), .val (.int e0'), .val (.int e1'), .val (.int e2'), .val (.int e3'), .val (.int s0'), .val (.int s1'), .val (.int s2'), .val (.int s3'), .val (.ref b17), .val (.ref b18), .val (.ref b19), .val (.ref b20), .unset, .unset, .unset] [(.double (0 : UInt64)), (.ref b19), (.ref b20), (.ref b21), (.ref b21)])) _ (fun t9 k9 => ?_) ?_
  · show Steps p.tables e below (T262.setTop (mkF m 281 #[.val (.int p1), .val (.int p2), .val (.int p3), .val (.int p4), .val (.int (Int32.ofNat k)), .val (.int b0), .val (.int b1), .val (.int b2), .val (.int b3), .val (.int e0'), .val (.int e1'), .val (.int e2'), .val (.int e3'), .val (.int s0'), .val (.int s1'), .val (.int s2'), .val (.int s3'), .val (.ref b17), .val (.ref b18), .val (.ref b19), .val (.ref b20), .unset, .unset, .unset] [(.ref b21)])) _
    refine XS.dup X262.here hx rfl (hb hby at_281) rfl rfl ?_
    show Steps p.tables e below (T262.setTop (mkF m 282 #[.val (.int p1), .val (.int p2), .val (.int p3), .val (.int p4), .val (.int (Int32.ofNat k)), .val (.int b0), .val (.int b1), .val (.int b2), .val (.int b3), .val (.int e0'), .val (.int e1'), .val (.int e2'), .val (.int e3'), .val (.int s0'), .val (.int s1'), .val (.int s2'), .val (.int s3'), .val (.ref b17), .val (.ref b18), .val (.ref b19), .val (.ref b20), .unset, .unset, .unset] [(.ref b21), (.ref b21)])) _
    refine XS.aload X262.here hx rfl (hb hby at_282) rfl rfl ?_
    show Steps p.tables e below (T262.setTop (mkF m 284 #[.val (.int p1), .val (.int p2), .val (.int p3), .val (.int p4), .val (.int (Int32.ofNat k)), .val (.int b0), .val (.int b1), .val (.int b2), .val (.int b3), .val (.int e0'), .val (.int e1'), .val (.int e2'), .val (.int e3'), .val (.int s0'), .val (.int s1'), .val (.int s2'), .val (.int s3'), .val (.ref b17), .val (.ref b18), .val (.ref b19), .val (.ref b20), .unset, .unset, .unset] [(.ref b20), (.ref b21), (.ref b21)])) _
    refine XS.aload X262.here hx rfl (hb hby at_284) rfl rfl ?_
    show Steps p.tables e below (T262.setTop (mkF m 286 #[.val (.int p1), .val (.int p2), .val (.int p3), .val (.int p4), .val (.int (Int32.ofNat k)), .val (.int b0), .val (.int b1), .val (.int b2), .val (.int b3), .val (.int e0'), .val (.int e1'), .val (.int e2'), .val (.int e3'), .val (.int s0'), .val (.int s1'), .val (.int s2'), .val (.int s3'), .val (.ref b17), .val (.ref b18), .val (.ref b19), .val (.ref b20), .unset, .unset, .unset] [(.ref b19), (.ref b20), (.ref b21), (.ref b21)])) _
    refine XS.dconst0 X262.here hx rfl (hb hby at_286) rfl ?_
    exact k9
  obtain ⟨_, _, ⟨T275, L275, k275, n275⟩, -, X275, ⟨Lc275, hQ275, l275, y275, z275⟩, st275⟩ := X262.specialBack hx (y := (⟨"com/example/sensebid/sensebid/mechanism/CoverRow", "<init>", "([I[DD)V"⟩ : MethodName)) rfl hown (mvT hZ (hw _ (List.mem_of_getElem? (i := 6) rfl))) (mvT hZ (hw _ (List.mem_of_getElem? (i := 7) rfl))) (mvT hZ (hw _ (List.mem_of_getElem? (i := 8) rfl))) (by decide) (backOf (W := 1) (rm1 l Z a0 hw [] b21 b20 b19 (0 : UInt64) h262 n0 (Nat.le_trans Z0 u271.1) A262 u272 u273 u274 g_b21) hZ (hw _ (List.mem_of_getElem? (i := 8) rfl)) (hw _ (List.mem_of_getElem? (i := 5) rfl)) (by decide) (by decide)) (g := (mkF m 287 #[.val (.int p1), .val (.int p2), .val (.int p3), .val (.int p4), .val (.int (Int32.ofNat k)), .val (.int b0), .val (.int b1), .val (.int b2), .val (.int b3), .val (.int e0'), .val (.int e1'), .val (.int e2'), .val (.int e3'), .val (.int s0'), .val (.int s1'), .val (.int s2'), .val (.int s3'), .val (.ref b17), .val (.ref b18), .val (.ref b19), .val (.ref b20), .unset, .unset, .unset] [(.double (0 : UInt64)), (.ref b19), (.ref b20), (.ref b21), (.ref b21)])) rfl (by rw [hml]; rfl) (Steps.refl _) (a := b21) (argsL := [(.ref b20), (.ref b19), (.double (0 : UInt64))]) (rest := [(.ref b21)]) (lenOf pd__28_5bI_5bDD_29V rfl) rfl (by show 2 * 0 + _ ≤ _; exact Nat.le_of_eq rfl) (hb hby at_287) (fun _ _ => ⟨rfl, e262, (by decide : 5 + 0 ≤ _), (by decide : 20 + 0 ≤ _)⟩)
  dsimp only [Pt.U, Pt.locs, Pt.cells, Pt.slots] at X275 l275 y275 z275 st275 hQ275
  subst l275 y275 z275
  obtain ⟨rfl, N275q, Kq, Eq, Fq1, Fq2⟩ := hQ275
  have N275 := Fr.app N1 N275q
  refine go (T275.setTop (mkF m 290 #[.val (.int p1), .val (.int p2), .val (.int p3), .val (.int p4), .val (.int (Int32.ofNat k)), .val (.int b0), .val (.int b1), .val (.int b2), .val (.int b3), .val (.int e0'), .val (.int e1'), .val (.int e2'), .val (.int e3'), .val (.int s0'), .val (.int s1'), .val (.int s2'), .val (.int s3'), .val (.ref b17), .val (.ref b18), .val (.ref b19), .val (.ref b20), .unset, .unset, .unset] [(.ref b21)])) _ (fun t9 k9 => st275.trans k9) ?_
  have u276 : own_A Z T275.heap b17 .int 4 (fun j => .int ((own_4 s0' s1' s2' s3') j)) := own_A_keep u267 Kq (ninS ne263 nin0)
  have u277 : own_A Z T275.heap b18 .double 4 (fun j => .double (FP.i2d ((own_4 s0' s1' s2' s3') j))) := own_A_keep u268 Kq (ninS ne264 nin0)
  have u278 : own_A Z T275.heap b19 .double 4 (fun j => .double (FP.i2d ((own_4 e0' e1' e2' e3') j))) := own_A_keep u269 Kq (ninS ne265 nin0)
  have u279 : own_A Z T275.heap b20 .int k (fun j => .int ((own_4 b0 b1 b2 b3) j)) := own_A_keep u270 Kq (ninS ne266 nin0)
  have u280 : Exa Z T275.heap b21 "com/example/sensebid/sensebid/mechanism/CoverRow" := A262.keep Kq
  have u281 : Keep h0 T275.heap [] := u271.trans Kq (allS (Or.inr sz_b21) all0)
  refine go (T275.setTop (mkF m 295 #[.val (.int p1), .val (.int p2), .val (.int p3), .val (.int p4), .val (.int (Int32.ofNat k)), .val (.int b0), .val (.int b1), .val (.int b2), .val (.int b3), .val (.int e0'), .val (.int e1'), .val (.int e2'), .val (.int e3'), .val (.int s0'), .val (.int s1'), .val (.int s2'), .val (.int s3'), .val (.ref b17), .val (.ref b18), .val (.ref b19), .val (.ref b20), .val (.ref b21), .val (.long (0 : Int64)), .second] [])) _ (fun t9 k9 => ?_) ?_
  · show Steps p.tables e below (T275.setTop (mkF m 290 #[.val (.int p1), .val (.int p2), .val (.int p3), .val (.int p4), .val (.int (Int32.ofNat k)), .val (.int b0), .val (.int b1), .val (.int b2), .val (.int b3), .val (.int e0'), .val (.int e1'), .val (.int e2'), .val (.int e3'), .val (.int s0'), .val (.int s1'), .val (.int s2'), .val (.int s3'), .val (.ref b17), .val (.ref b18), .val (.ref b19), .val (.ref b20), .unset, .unset, .unset] [(.ref b21)])) _
    refine XS.astore X275.here hx rfl (hb hby at_290) rfl rfl (l' := #[.val (.int p1), .val (.int p2), .val (.int p3), .val (.int p4), .val (.int (Int32.ofNat k)), .val (.int b0), .val (.int b1), .val (.int b2), .val (.int b3), .val (.int e0'), .val (.int e1'), .val (.int e2'), .val (.int e3'), .val (.int s0'), .val (.int s1'), .val (.int s2'), .val (.int s3'), .val (.ref b17), .val (.ref b18), .val (.ref b19), .val (.ref b20), .val (.ref b21), .unset, .unset]) rfl ?_
    show Steps p.tables e below (T275.setTop (mkF m 292 #[.val (.int p1), .val (.int p2), .val (.int p3), .val (.int p4), .val (.int (Int32.ofNat k)), .val (.int b0), .val (.int b1), .val (.int b2), .val (.int b3), .val (.int e0'), .val (.int e1'), .val (.int e2'), .val (.int e3'), .val (.int s0'), .val (.int s1'), .val (.int s2'), .val (.int s3'), .val (.ref b17), .val (.ref b18), .val (.ref b19), .val (.ref b20), .val (.ref b21), .unset, .unset] [])) _
    refine XS.lconst X275.here hx rfl (hb hby at_292) ?_
    show Steps p.tables e below (T275.setTop (mkF m 293 #[.val (.int p1), .val (.int p2), .val (.int p3), .val (.int p4), .val (.int (Int32.ofNat k)), .val (.int b0), .val (.int b1), .val (.int b2), .val (.int b3), .val (.int e0'), .val (.int e1'), .val (.int e2'), .val (.int e3'), .val (.int s0'), .val (.int s1'), .val (.int s2'), .val (.int s3'), .val (.ref b17), .val (.ref b18), .val (.ref b19), .val (.ref b20), .val (.ref b21), .unset, .unset] [(.long (0 : Int64))])) _
    refine XS.lstore X275.here hx rfl (hb hby at_293) rfl (l' := #[.val (.int p1), .val (.int p2), .val (.int p3), .val (.int p4), .val (.int (Int32.ofNat k)), .val (.int b0), .val (.int b1), .val (.int b2), .val (.int b3), .val (.int e0'), .val (.int e1'), .val (.int e2'), .val (.int e3'), .val (.int s0'), .val (.int s1'), .val (.int s2'), .val (.int s3'), .val (.ref b17), .val (.ref b18), .val (.ref b19), .val (.ref b20), .val (.ref b21), .val (.long (0 : Int64)), .second]) rfl ?_
    exact k9
  obtain ⟨cl282, Ar282, Sz282, Hv282⟩ := u276
  have u283 : own_A Z T275.heap b17 .int 4 (fun j => .int ((own_4 s0' s1' s2' s3') j)) := ⟨cl282, Ar282, Sz282, Hv282⟩
  have hr0 : (0 : Int64).toInt = own_tot (own_4 e0' e1' e2' e3') (own_4 s0' s1' s2' s3') (own_4 b0 b1 b2 b3) (min k 0) := by rw [Nat.min_zero]; rfl
  refine go (T275.setTop (mkF m 316 #[.val (.int p1), .val (.int p2), .val (.int p3), .val (.int p4), .val (.int (Int32.ofNat k)), .val (.int b0), .val (.int b1), .val (.int b2), .val (.int b3), .val (.int e0'), .val (.int e1'), .val (.int e2'), .val (.int e3'), .val (.int s0'), .val (.int s1'), .val (.int s2'), .val (.int s3'), .val (.ref b17), .val (.ref b18), .val (.ref b19), .val (.ref b20), .val (.ref b21), .val (.long (if (Int32.ofNat k) < (1 : Int32) then (0 : Int64) else ((0 : Int64) + ((e0'.toInt64) * (((own_4 s0' s1' s2' s3') b0.toNatClampNeg).toInt64))))), .second] [])) _ (fun t9 k9 => ?_) ?_
  · show Steps p.tables e below (T275.setTop (mkF m 295 #[.val (.int p1), .val (.int p2), .val (.int p3), .val (.int p4), .val (.int (Int32.ofNat k)), .val (.int b0), .val (.int b1), .val (.int b2), .val (.int b3), .val (.int e0'), .val (.int e1'), .val (.int e2'), .val (.int e3'), .val (.int s0'), .val (.int s1'), .val (.int s2'), .val (.int s3'), .val (.ref b17), .val (.ref b18), .val (.ref b19), .val (.ref b20), .val (.ref b21), .val (.long (0 : Int64)), .second] [])) _
    refine XS.iload X275.here hx rfl (hb hby at_295) rfl ?_
    show Steps p.tables e below (T275.setTop (mkF m 297 #[.val (.int p1), .val (.int p2), .val (.int p3), .val (.int p4), .val (.int (Int32.ofNat k)), .val (.int b0), .val (.int b1), .val (.int b2), .val (.int b3), .val (.int e0'), .val (.int e1'), .val (.int e2'), .val (.int e3'), .val (.int s0'), .val (.int s1'), .val (.int s2'), .val (.int s3'), .val (.ref b17), .val (.ref b18), .val (.ref b19), .val (.ref b20), .val (.ref b21), .val (.long (0 : Int64)), .second] [(.int (Int32.ofNat k))])) _
    refine XS.iconst X275.here hx rfl (hb hby at_297) ?_
    by_cases h298_1 : (Int32.ofNat k) < (1 : Int32)
    · try (simp only [if_pos h298_1] at k9)
      show Steps p.tables e below (T275.setTop (mkF m 298 #[.val (.int p1), .val (.int p2), .val (.int p3), .val (.int p4), .val (.int (Int32.ofNat k)), .val (.int b0), .val (.int b1), .val (.int b2), .val (.int b3), .val (.int e0'), .val (.int e1'), .val (.int e2'), .val (.int e3'), .val (.int s0'), .val (.int s1'), .val (.int s2'), .val (.int s3'), .val (.ref b17), .val (.ref b18), .val (.ref b19), .val (.ref b20), .val (.ref b21), .val (.long (0 : Int64)), .second] [(.int (1 : Int32)), (.int (Int32.ofNat k))])) _
      refine XS.icmpYes X275.here hx rfl (pc0 := 298) (pc' := 316) rfl (hb hby at_298) rfl (tlt h298_1).1 (by decide) (by decide) ?_
      exact k9
    · try (simp only [if_neg h298_1] at k9)
      show Steps p.tables e below (T275.setTop (mkF m 298 #[.val (.int p1), .val (.int p2), .val (.int p3), .val (.int p4), .val (.int (Int32.ofNat k)), .val (.int b0), .val (.int b1), .val (.int b2), .val (.int b3), .val (.int e0'), .val (.int e1'), .val (.int e2'), .val (.int e3'), .val (.int s0'), .val (.int s1'), .val (.int s2'), .val (.int s3'), .val (.ref b17), .val (.ref b18), .val (.ref b19), .val (.ref b20), .val (.ref b21), .val (.long (0 : Int64)), .second] [(.int (1 : Int32)), (.int (Int32.ofNat k))])) _
      refine XS.icmpNo X275.here hx rfl (hb hby at_298) rfl (flt h298_1).1 ?_
      show Steps p.tables e below (T275.setTop (mkF m 301 #[.val (.int p1), .val (.int p2), .val (.int p3), .val (.int p4), .val (.int (Int32.ofNat k)), .val (.int b0), .val (.int b1), .val (.int b2), .val (.int b3), .val (.int e0'), .val (.int e1'), .val (.int e2'), .val (.int e3'), .val (.int s0'), .val (.int s1'), .val (.int s2'), .val (.int s3'), .val (.ref b17), .val (.ref b18), .val (.ref b19), .val (.ref b20), .val (.ref b21), .val (.long (0 : Int64)), .second] [])) _
      refine XS.lload X275.here hx rfl (hb hby at_301) rfl ?_
      show Steps p.tables e below (T275.setTop (mkF m 303 #[.val (.int p1), .val (.int p2), .val (.int p3), .val (.int p4), .val (.int (Int32.ofNat k)), .val (.int b0), .val (.int b1), .val (.int b2), .val (.int b3), .val (.int e0'), .val (.int e1'), .val (.int e2'), .val (.int e3'), .val (.int s0'), .val (.int s1'), .val (.int s2'), .val (.int s3'), .val (.ref b17), .val (.ref b18), .val (.ref b19), .val (.ref b20), .val (.ref b21), .val (.long (0 : Int64)), .second] [(.long (0 : Int64))])) _
      refine XS.iload X275.here hx rfl (hb hby at_303) rfl ?_
      show Steps p.tables e below (T275.setTop (mkF m 305 #[.val (.int p1), .val (.int p2), .val (.int p3), .val (.int p4), .val (.int (Int32.ofNat k)), .val (.int b0), .val (.int b1), .val (.int b2), .val (.int b3), .val (.int e0'), .val (.int e1'), .val (.int e2'), .val (.int e3'), .val (.int s0'), .val (.int s1'), .val (.int s2'), .val (.int s3'), .val (.ref b17), .val (.ref b18), .val (.ref b19), .val (.ref b20), .val (.ref b21), .val (.long (0 : Int64)), .second] [(.int e0'), (.long (0 : Int64))])) _
      refine XS.i2l X275.here hx rfl (hb hby at_305) rfl ?_
      show Steps p.tables e below (T275.setTop (mkF m 306 #[.val (.int p1), .val (.int p2), .val (.int p3), .val (.int p4), .val (.int (Int32.ofNat k)), .val (.int b0), .val (.int b1), .val (.int b2), .val (.int b3), .val (.int e0'), .val (.int e1'), .val (.int e2'), .val (.int e3'), .val (.int s0'), .val (.int s1'), .val (.int s2'), .val (.int s3'), .val (.ref b17), .val (.ref b18), .val (.ref b19), .val (.ref b20), .val (.ref b21), .val (.long (0 : Int64)), .second] [(.long (e0'.toInt64)), (.long (0 : Int64))])) _
      refine XS.aload X275.here hx rfl (hb hby at_306) rfl rfl ?_
      show Steps p.tables e below (T275.setTop (mkF m 308 #[.val (.int p1), .val (.int p2), .val (.int p3), .val (.int p4), .val (.int (Int32.ofNat k)), .val (.int b0), .val (.int b1), .val (.int b2), .val (.int b3), .val (.int e0'), .val (.int e1'), .val (.int e2'), .val (.int e3'), .val (.int s0'), .val (.int s1'), .val (.int s2'), .val (.int s3'), .val (.ref b17), .val (.ref b18), .val (.ref b19), .val (.ref b20), .val (.ref b21), .val (.long (0 : Int64)), .second] [(.ref b17), (.long (e0'.toInt64)), (.long (0 : Int64))])) _
      refine XS.iload X275.here hx rfl (hb hby at_308) rfl ?_
      show Steps p.tables e below (T275.setTop (mkF m 310 #[.val (.int p1), .val (.int p2), .val (.int p3), .val (.int p4), .val (.int (Int32.ofNat k)), .val (.int b0), .val (.int b1), .val (.int b2), .val (.int b3), .val (.int e0'), .val (.int e1'), .val (.int e2'), .val (.int e3'), .val (.int s0'), .val (.int s1'), .val (.int s2'), .val (.int s3'), .val (.ref b17), .val (.ref b18), .val (.ref b19), .val (.ref b20), .val (.ref b21), .val (.long (0 : Int64)), .second] [(.int b0), (.ref b17), (.long (e0'.toInt64)), (.long (0 : Int64))])) _
      refine X275.iaload hx (j := b0) (v := (.int ((own_4 s0' s1' s2' s3') b0.toNatClampNeg))) Ar282.1 (State.isArrayOf_alike hZ.alike Ar282.2.1) Ar282.2.2 (own_hin Sz282 sb0.1 sb0.2) (Hv282 _ sb0.2) (g := (mkF m 310 #[.val (.int p1), .val (.int p2), .val (.int p3), .val (.int p4), .val (.int (Int32.ofNat k)), .val (.int b0), .val (.int b1), .val (.int b2), .val (.int b3), .val (.int e0'), .val (.int e1'), .val (.int e2'), .val (.int e3'), .val (.int s0'), .val (.int s1'), .val (.int s2'), .val (.int s3'), .val (.ref b17), .val (.ref b18), .val (.ref b19), .val (.ref b20), .val (.ref b21), .val (.long (0 : Int64)), .second] [(.int b0), (.ref b17), (.long (e0'.toInt64)), (.long (0 : Int64))])) rfl rfl (hb hby at_310) _ ?_
      show Steps p.tables e below (T275.setTop (mkF m 311 #[.val (.int p1), .val (.int p2), .val (.int p3), .val (.int p4), .val (.int (Int32.ofNat k)), .val (.int b0), .val (.int b1), .val (.int b2), .val (.int b3), .val (.int e0'), .val (.int e1'), .val (.int e2'), .val (.int e3'), .val (.int s0'), .val (.int s1'), .val (.int s2'), .val (.int s3'), .val (.ref b17), .val (.ref b18), .val (.ref b19), .val (.ref b20), .val (.ref b21), .val (.long (0 : Int64)), .second] [(.int ((own_4 s0' s1' s2' s3') b0.toNatClampNeg)), (.long (e0'.toInt64)), (.long (0 : Int64))])) _
      refine XS.i2l X275.here hx rfl (hb hby at_311) rfl ?_
      show Steps p.tables e below (T275.setTop (mkF m 312 #[.val (.int p1), .val (.int p2), .val (.int p3), .val (.int p4), .val (.int (Int32.ofNat k)), .val (.int b0), .val (.int b1), .val (.int b2), .val (.int b3), .val (.int e0'), .val (.int e1'), .val (.int e2'), .val (.int e3'), .val (.int s0'), .val (.int s1'), .val (.int s2'), .val (.int s3'), .val (.ref b17), .val (.ref b18), .val (.ref b19), .val (.ref b20), .val (.ref b21), .val (.long (0 : Int64)), .second] [(.long (((own_4 s0' s1' s2' s3') b0.toNatClampNeg).toInt64)), (.long (e0'.toInt64)), (.long (0 : Int64))])) _
      refine XS.lmul X275.here hx rfl (hb hby at_312) rfl ?_
      show Steps p.tables e below (T275.setTop (mkF m 313 #[.val (.int p1), .val (.int p2), .val (.int p3), .val (.int p4), .val (.int (Int32.ofNat k)), .val (.int b0), .val (.int b1), .val (.int b2), .val (.int b3), .val (.int e0'), .val (.int e1'), .val (.int e2'), .val (.int e3'), .val (.int s0'), .val (.int s1'), .val (.int s2'), .val (.int s3'), .val (.ref b17), .val (.ref b18), .val (.ref b19), .val (.ref b20), .val (.ref b21), .val (.long (0 : Int64)), .second] [(.long ((e0'.toInt64) * (((own_4 s0' s1' s2' s3') b0.toNatClampNeg).toInt64))), (.long (0 : Int64))])) _
      refine XS.ladd X275.here hx rfl (hb hby at_313) rfl ?_
      show Steps p.tables e below (T275.setTop (mkF m 314 #[.val (.int p1), .val (.int p2), .val (.int p3), .val (.int p4), .val (.int (Int32.ofNat k)), .val (.int b0), .val (.int b1), .val (.int b2), .val (.int b3), .val (.int e0'), .val (.int e1'), .val (.int e2'), .val (.int e3'), .val (.int s0'), .val (.int s1'), .val (.int s2'), .val (.int s3'), .val (.ref b17), .val (.ref b18), .val (.ref b19), .val (.ref b20), .val (.ref b21), .val (.long (0 : Int64)), .second] [(.long ((0 : Int64) + ((e0'.toInt64) * (((own_4 s0' s1' s2' s3') b0.toNatClampNeg).toInt64))))])) _
      refine XS.lstore X275.here hx rfl (hb hby at_314) rfl (l' := #[.val (.int p1), .val (.int p2), .val (.int p3), .val (.int p4), .val (.int (Int32.ofNat k)), .val (.int b0), .val (.int b1), .val (.int b2), .val (.int b3), .val (.int e0'), .val (.int e1'), .val (.int e2'), .val (.int e3'), .val (.int s0'), .val (.int s1'), .val (.int s2'), .val (.int s3'), .val (.ref b17), .val (.ref b18), .val (.ref b19), .val (.ref b20), .val (.ref b21), .val (.long ((0 : Int64) + ((e0'.toInt64) * (((own_4 s0' s1' s2' s3') b0.toNatClampNeg).toInt64)))), .second]) rfl ?_
      exact k9
  generalize hr1e : (if (Int32.ofNat k) < (1 : Int32) then (0 : Int64) else ((0 : Int64) + ((e0'.toInt64) * (((own_4 s0' s1' s2' s3') b0.toNatClampNeg).toInt64)))) = r1
  have hr1 : r1.toInt = own_tot (own_4 e0' e1' e2' e3') (own_4 s0' s1' s2' s3') (own_4 b0 b1 b2 b3) (min k 1) := own_turn hE hS (i := 0) hk (by decide) (by decide) hr0 hr1e
  refine go (T275.setTop (mkF m 337 #[.val (.int p1), .val (.int p2), .val (.int p3), .val (.int p4), .val (.int (Int32.ofNat k)), .val (.int b0), .val (.int b1), .val (.int b2), .val (.int b3), .val (.int e0'), .val (.int e1'), .val (.int e2'), .val (.int e3'), .val (.int s0'), .val (.int s1'), .val (.int s2'), .val (.int s3'), .val (.ref b17), .val (.ref b18), .val (.ref b19), .val (.ref b20), .val (.ref b21), .val (.long (if (Int32.ofNat k) < (2 : Int32) then r1 else (r1 + ((e1'.toInt64) * (((own_4 s0' s1' s2' s3') b1.toNatClampNeg).toInt64))))), .second] [])) _ (fun t9 k9 => ?_) ?_
  · show Steps p.tables e below (T275.setTop (mkF m 316 #[.val (.int p1), .val (.int p2), .val (.int p3), .val (.int p4), .val (.int (Int32.ofNat k)), .val (.int b0), .val (.int b1), .val (.int b2), .val (.int b3), .val (.int e0'), .val (.int e1'), .val (.int e2'), .val (.int e3'), .val (.int s0'), .val (.int s1'), .val (.int s2'), .val (.int s3'), .val (.ref b17), .val (.ref b18), .val (.ref b19), .val (.ref b20), .val (.ref b21), .val (.long r1), .second] [])) _
    refine XS.iload X275.here hx rfl (hb hby at_316) rfl ?_
    show Steps p.tables e below (T275.setTop (mkF m 318 #[.val (.int p1), .val (.int p2), .val (.int p3), .val (.int p4), .val (.int (Int32.ofNat k)), .val (.int b0), .val (.int b1), .val (.int b2), .val (.int b3), .val (.int e0'), .val (.int e1'), .val (.int e2'), .val (.int e3'), .val (.int s0'), .val (.int s1'), .val (.int s2'), .val (.int s3'), .val (.ref b17), .val (.ref b18), .val (.ref b19), .val (.ref b20), .val (.ref b21), .val (.long r1), .second] [(.int (Int32.ofNat k))])) _
    refine XS.iconst X275.here hx rfl (hb hby at_318) ?_
    by_cases h319_1 : (Int32.ofNat k) < (2 : Int32)
    · try (simp only [if_pos h319_1] at k9)
      show Steps p.tables e below (T275.setTop (mkF m 319 #[.val (.int p1), .val (.int p2), .val (.int p3), .val (.int p4), .val (.int (Int32.ofNat k)), .val (.int b0), .val (.int b1), .val (.int b2), .val (.int b3), .val (.int e0'), .val (.int e1'), .val (.int e2'), .val (.int e3'), .val (.int s0'), .val (.int s1'), .val (.int s2'), .val (.int s3'), .val (.ref b17), .val (.ref b18), .val (.ref b19), .val (.ref b20), .val (.ref b21), .val (.long r1), .second] [(.int (2 : Int32)), (.int (Int32.ofNat k))])) _
      refine XS.icmpYes X275.here hx rfl (pc0 := 319) (pc' := 337) rfl (hb hby at_319) rfl (tlt h319_1).1 (by decide) (by decide) ?_
      exact k9
    · try (simp only [if_neg h319_1] at k9)
      show Steps p.tables e below (T275.setTop (mkF m 319 #[.val (.int p1), .val (.int p2), .val (.int p3), .val (.int p4), .val (.int (Int32.ofNat k)), .val (.int b0), .val (.int b1), .val (.int b2), .val (.int b3), .val (.int e0'), .val (.int e1'), .val (.int e2'), .val (.int e3'), .val (.int s0'), .val (.int s1'), .val (.int s2'), .val (.int s3'), .val (.ref b17), .val (.ref b18), .val (.ref b19), .val (.ref b20), .val (.ref b21), .val (.long r1), .second] [(.int (2 : Int32)), (.int (Int32.ofNat k))])) _
      refine XS.icmpNo X275.here hx rfl (hb hby at_319) rfl (flt h319_1).1 ?_
      show Steps p.tables e below (T275.setTop (mkF m 322 #[.val (.int p1), .val (.int p2), .val (.int p3), .val (.int p4), .val (.int (Int32.ofNat k)), .val (.int b0), .val (.int b1), .val (.int b2), .val (.int b3), .val (.int e0'), .val (.int e1'), .val (.int e2'), .val (.int e3'), .val (.int s0'), .val (.int s1'), .val (.int s2'), .val (.int s3'), .val (.ref b17), .val (.ref b18), .val (.ref b19), .val (.ref b20), .val (.ref b21), .val (.long r1), .second] [])) _
      refine XS.lload X275.here hx rfl (hb hby at_322) rfl ?_
      show Steps p.tables e below (T275.setTop (mkF m 324 #[.val (.int p1), .val (.int p2), .val (.int p3), .val (.int p4), .val (.int (Int32.ofNat k)), .val (.int b0), .val (.int b1), .val (.int b2), .val (.int b3), .val (.int e0'), .val (.int e1'), .val (.int e2'), .val (.int e3'), .val (.int s0'), .val (.int s1'), .val (.int s2'), .val (.int s3'), .val (.ref b17), .val (.ref b18), .val (.ref b19), .val (.ref b20), .val (.ref b21), .val (.long r1), .second] [(.long r1)])) _
      refine XS.iload X275.here hx rfl (hb hby at_324) rfl ?_
      show Steps p.tables e below (T275.setTop (mkF m 326 #[.val (.int p1), .val (.int p2), .val (.int p3), .val (.int p4), .val (.int (Int32.ofNat k)), .val (.int b0), .val (.int b1), .val (.int b2), .val (.int b3), .val (.int e0'), .val (.int e1'), .val (.int e2'), .val (.int e3'), .val (.int s0'), .val (.int s1'), .val (.int s2'), .val (.int s3'), .val (.ref b17), .val (.ref b18), .val (.ref b19), .val (.ref b20), .val (.ref b21), .val (.long r1), .second] [(.int e1'), (.long r1)])) _
      refine XS.i2l X275.here hx rfl (hb hby at_326) rfl ?_
      show Steps p.tables e below (T275.setTop (mkF m 327 #[.val (.int p1), .val (.int p2), .val (.int p3), .val (.int p4), .val (.int (Int32.ofNat k)), .val (.int b0), .val (.int b1), .val (.int b2), .val (.int b3), .val (.int e0'), .val (.int e1'), .val (.int e2'), .val (.int e3'), .val (.int s0'), .val (.int s1'), .val (.int s2'), .val (.int s3'), .val (.ref b17), .val (.ref b18), .val (.ref b19), .val (.ref b20), .val (.ref b21), .val (.long r1), .second] [(.long (e1'.toInt64)), (.long r1)])) _
      refine XS.aload X275.here hx rfl (hb hby at_327) rfl rfl ?_
      show Steps p.tables e below (T275.setTop (mkF m 329 #[.val (.int p1), .val (.int p2), .val (.int p3), .val (.int p4), .val (.int (Int32.ofNat k)), .val (.int b0), .val (.int b1), .val (.int b2), .val (.int b3), .val (.int e0'), .val (.int e1'), .val (.int e2'), .val (.int e3'), .val (.int s0'), .val (.int s1'), .val (.int s2'), .val (.int s3'), .val (.ref b17), .val (.ref b18), .val (.ref b19), .val (.ref b20), .val (.ref b21), .val (.long r1), .second] [(.ref b17), (.long (e1'.toInt64)), (.long r1)])) _
      refine XS.iload X275.here hx rfl (hb hby at_329) rfl ?_
      show Steps p.tables e below (T275.setTop (mkF m 331 #[.val (.int p1), .val (.int p2), .val (.int p3), .val (.int p4), .val (.int (Int32.ofNat k)), .val (.int b0), .val (.int b1), .val (.int b2), .val (.int b3), .val (.int e0'), .val (.int e1'), .val (.int e2'), .val (.int e3'), .val (.int s0'), .val (.int s1'), .val (.int s2'), .val (.int s3'), .val (.ref b17), .val (.ref b18), .val (.ref b19), .val (.ref b20), .val (.ref b21), .val (.long r1), .second] [(.int b1), (.ref b17), (.long (e1'.toInt64)), (.long r1)])) _
      refine X275.iaload hx (j := b1) (v := (.int ((own_4 s0' s1' s2' s3') b1.toNatClampNeg))) Ar282.1 (State.isArrayOf_alike hZ.alike Ar282.2.1) Ar282.2.2 (own_hin Sz282 sb1.1 sb1.2) (Hv282 _ sb1.2) (g := (mkF m 331 #[.val (.int p1), .val (.int p2), .val (.int p3), .val (.int p4), .val (.int (Int32.ofNat k)), .val (.int b0), .val (.int b1), .val (.int b2), .val (.int b3), .val (.int e0'), .val (.int e1'), .val (.int e2'), .val (.int e3'), .val (.int s0'), .val (.int s1'), .val (.int s2'), .val (.int s3'), .val (.ref b17), .val (.ref b18), .val (.ref b19), .val (.ref b20), .val (.ref b21), .val (.long r1), .second] [(.int b1), (.ref b17), (.long (e1'.toInt64)), (.long r1)])) rfl rfl (hb hby at_331) _ ?_
      show Steps p.tables e below (T275.setTop (mkF m 332 #[.val (.int p1), .val (.int p2), .val (.int p3), .val (.int p4), .val (.int (Int32.ofNat k)), .val (.int b0), .val (.int b1), .val (.int b2), .val (.int b3), .val (.int e0'), .val (.int e1'), .val (.int e2'), .val (.int e3'), .val (.int s0'), .val (.int s1'), .val (.int s2'), .val (.int s3'), .val (.ref b17), .val (.ref b18), .val (.ref b19), .val (.ref b20), .val (.ref b21), .val (.long r1), .second] [(.int ((own_4 s0' s1' s2' s3') b1.toNatClampNeg)), (.long (e1'.toInt64)), (.long r1)])) _
      refine XS.i2l X275.here hx rfl (hb hby at_332) rfl ?_
      show Steps p.tables e below (T275.setTop (mkF m 333 #[.val (.int p1), .val (.int p2), .val (.int p3), .val (.int p4), .val (.int (Int32.ofNat k)), .val (.int b0), .val (.int b1), .val (.int b2), .val (.int b3), .val (.int e0'), .val (.int e1'), .val (.int e2'), .val (.int e3'), .val (.int s0'), .val (.int s1'), .val (.int s2'), .val (.int s3'), .val (.ref b17), .val (.ref b18), .val (.ref b19), .val (.ref b20), .val (.ref b21), .val (.long r1), .second] [(.long (((own_4 s0' s1' s2' s3') b1.toNatClampNeg).toInt64)), (.long (e1'.toInt64)), (.long r1)])) _
      refine XS.lmul X275.here hx rfl (hb hby at_333) rfl ?_
      show Steps p.tables e below (T275.setTop (mkF m 334 #[.val (.int p1), .val (.int p2), .val (.int p3), .val (.int p4), .val (.int (Int32.ofNat k)), .val (.int b0), .val (.int b1), .val (.int b2), .val (.int b3), .val (.int e0'), .val (.int e1'), .val (.int e2'), .val (.int e3'), .val (.int s0'), .val (.int s1'), .val (.int s2'), .val (.int s3'), .val (.ref b17), .val (.ref b18), .val (.ref b19), .val (.ref b20), .val (.ref b21), .val (.long r1), .second] [(.long ((e1'.toInt64) * (((own_4 s0' s1' s2' s3') b1.toNatClampNeg).toInt64))), (.long r1)])) _
      refine XS.ladd X275.here hx rfl (hb hby at_334) rfl ?_
      show Steps p.tables e below (T275.setTop (mkF m 335 #[.val (.int p1), .val (.int p2), .val (.int p3), .val (.int p4), .val (.int (Int32.ofNat k)), .val (.int b0), .val (.int b1), .val (.int b2), .val (.int b3), .val (.int e0'), .val (.int e1'), .val (.int e2'), .val (.int e3'), .val (.int s0'), .val (.int s1'), .val (.int s2'), .val (.int s3'), .val (.ref b17), .val (.ref b18), .val (.ref b19), .val (.ref b20), .val (.ref b21), .val (.long r1), .second] [(.long (r1 + ((e1'.toInt64) * (((own_4 s0' s1' s2' s3') b1.toNatClampNeg).toInt64))))])) _
      refine XS.lstore X275.here hx rfl (hb hby at_335) rfl (l' := #[.val (.int p1), .val (.int p2), .val (.int p3), .val (.int p4), .val (.int (Int32.ofNat k)), .val (.int b0), .val (.int b1), .val (.int b2), .val (.int b3), .val (.int e0'), .val (.int e1'), .val (.int e2'), .val (.int e3'), .val (.int s0'), .val (.int s1'), .val (.int s2'), .val (.int s3'), .val (.ref b17), .val (.ref b18), .val (.ref b19), .val (.ref b20), .val (.ref b21), .val (.long (r1 + ((e1'.toInt64) * (((own_4 s0' s1' s2' s3') b1.toNatClampNeg).toInt64)))), .second]) rfl ?_
      exact k9
  generalize hr2e : (if (Int32.ofNat k) < (2 : Int32) then r1 else (r1 + ((e1'.toInt64) * (((own_4 s0' s1' s2' s3') b1.toNatClampNeg).toInt64)))) = r2
  have hr2 : r2.toInt = own_tot (own_4 e0' e1' e2' e3') (own_4 s0' s1' s2' s3') (own_4 b0 b1 b2 b3) (min k 2) := own_turn hE hS (i := 1) hk (by decide) (by decide) hr1 hr2e
  refine go (T275.setTop (mkF m 358 #[.val (.int p1), .val (.int p2), .val (.int p3), .val (.int p4), .val (.int (Int32.ofNat k)), .val (.int b0), .val (.int b1), .val (.int b2), .val (.int b3), .val (.int e0'), .val (.int e1'), .val (.int e2'), .val (.int e3'), .val (.int s0'), .val (.int s1'), .val (.int s2'), .val (.int s3'), .val (.ref b17), .val (.ref b18), .val (.ref b19), .val (.ref b20), .val (.ref b21), .val (.long (if (Int32.ofNat k) < (3 : Int32) then r2 else (r2 + ((e2'.toInt64) * (((own_4 s0' s1' s2' s3') b2.toNatClampNeg).toInt64))))), .second] [])) _ (fun t9 k9 => ?_) ?_
  · show Steps p.tables e below (T275.setTop (mkF m 337 #[.val (.int p1), .val (.int p2), .val (.int p3), .val (.int p4), .val (.int (Int32.ofNat k)), .val (.int b0), .val (.int b1), .val (.int b2), .val (.int b3), .val (.int e0'), .val (.int e1'), .val (.int e2'), .val (.int e3'), .val (.int s0'), .val (.int s1'), .val (.int s2'), .val (.int s3'), .val (.ref b17), .val (.ref b18), .val (.ref b19), .val (.ref b20), .val (.ref b21), .val (.long r2), .second] [])) _
    refine XS.iload X275.here hx rfl (hb hby at_337) rfl ?_
    show Steps p.tables e below (T275.setTop (mkF m 339 #[.val (.int p1), .val (.int p2), .val (.int p3), .val (.int p4), .val (.int (Int32.ofNat k)), .val (.int b0), .val (.int b1), .val (.int b2), .val (.int b3), .val (.int e0'), .val (.int e1'), .val (.int e2'), .val (.int e3'), .val (.int s0'), .val (.int s1'), .val (.int s2'), .val (.int s3'), .val (.ref b17), .val (.ref b18), .val (.ref b19), .val (.ref b20), .val (.ref b21), .val (.long r2), .second] [(.int (Int32.ofNat k))])) _
    refine XS.iconst X275.here hx rfl (hb hby at_339) ?_
    by_cases h340_1 : (Int32.ofNat k) < (3 : Int32)
    · try (simp only [if_pos h340_1] at k9)
      show Steps p.tables e below (T275.setTop (mkF m 340 #[.val (.int p1), .val (.int p2), .val (.int p3), .val (.int p4), .val (.int (Int32.ofNat k)), .val (.int b0), .val (.int b1), .val (.int b2), .val (.int b3), .val (.int e0'), .val (.int e1'), .val (.int e2'), .val (.int e3'), .val (.int s0'), .val (.int s1'), .val (.int s2'), .val (.int s3'), .val (.ref b17), .val (.ref b18), .val (.ref b19), .val (.ref b20), .val (.ref b21), .val (.long r2), .second] [(.int (3 : Int32)), (.int (Int32.ofNat k))])) _
      refine XS.icmpYes X275.here hx rfl (pc0 := 340) (pc' := 358) rfl (hb hby at_340) rfl (tlt h340_1).1 (by decide) (by decide) ?_
      exact k9
    · try (simp only [if_neg h340_1] at k9)
      show Steps p.tables e below (T275.setTop (mkF m 340 #[.val (.int p1), .val (.int p2), .val (.int p3), .val (.int p4), .val (.int (Int32.ofNat k)), .val (.int b0), .val (.int b1), .val (.int b2), .val (.int b3), .val (.int e0'), .val (.int e1'), .val (.int e2'), .val (.int e3'), .val (.int s0'), .val (.int s1'), .val (.int s2'), .val (.int s3'), .val (.ref b17), .val (.ref b18), .val (.ref b19), .val (.ref b20), .val (.ref b21), .val (.long r2), .second] [(.int (3 : Int32)), (.int (Int32.ofNat k))])) _
      refine XS.icmpNo X275.here hx rfl (hb hby at_340) rfl (flt h340_1).1 ?_
      show Steps p.tables e below (T275.setTop (mkF m 343 #[.val (.int p1), .val (.int p2), .val (.int p3), .val (.int p4), .val (.int (Int32.ofNat k)), .val (.int b0), .val (.int b1), .val (.int b2), .val (.int b3), .val (.int e0'), .val (.int e1'), .val (.int e2'), .val (.int e3'), .val (.int s0'), .val (.int s1'), .val (.int s2'), .val (.int s3'), .val (.ref b17), .val (.ref b18), .val (.ref b19), .val (.ref b20), .val (.ref b21), .val (.long r2), .second] [])) _
      refine XS.lload X275.here hx rfl (hb hby at_343) rfl ?_
      show Steps p.tables e below (T275.setTop (mkF m 345 #[.val (.int p1), .val (.int p2), .val (.int p3), .val (.int p4), .val (.int (Int32.ofNat k)), .val (.int b0), .val (.int b1), .val (.int b2), .val (.int b3), .val (.int e0'), .val (.int e1'), .val (.int e2'), .val (.int e3'), .val (.int s0'), .val (.int s1'), .val (.int s2'), .val (.int s3'), .val (.ref b17), .val (.ref b18), .val (.ref b19), .val (.ref b20), .val (.ref b21), .val (.long r2), .second] [(.long r2)])) _
      refine XS.iload X275.here hx rfl (hb hby at_345) rfl ?_
      show Steps p.tables e below (T275.setTop (mkF m 347 #[.val (.int p1), .val (.int p2), .val (.int p3), .val (.int p4), .val (.int (Int32.ofNat k)), .val (.int b0), .val (.int b1), .val (.int b2), .val (.int b3), .val (.int e0'), .val (.int e1'), .val (.int e2'), .val (.int e3'), .val (.int s0'), .val (.int s1'), .val (.int s2'), .val (.int s3'), .val (.ref b17), .val (.ref b18), .val (.ref b19), .val (.ref b20), .val (.ref b21), .val (.long r2), .second] [(.int e2'), (.long r2)])) _
      refine XS.i2l X275.here hx rfl (hb hby at_347) rfl ?_
      show Steps p.tables e below (T275.setTop (mkF m 348 #[.val (.int p1), .val (.int p2), .val (.int p3), .val (.int p4), .val (.int (Int32.ofNat k)), .val (.int b0), .val (.int b1), .val (.int b2), .val (.int b3), .val (.int e0'), .val (.int e1'), .val (.int e2'), .val (.int e3'), .val (.int s0'), .val (.int s1'), .val (.int s2'), .val (.int s3'), .val (.ref b17), .val (.ref b18), .val (.ref b19), .val (.ref b20), .val (.ref b21), .val (.long r2), .second] [(.long (e2'.toInt64)), (.long r2)])) _
      refine XS.aload X275.here hx rfl (hb hby at_348) rfl rfl ?_
      show Steps p.tables e below (T275.setTop (mkF m 350 #[.val (.int p1), .val (.int p2), .val (.int p3), .val (.int p4), .val (.int (Int32.ofNat k)), .val (.int b0), .val (.int b1), .val (.int b2), .val (.int b3), .val (.int e0'), .val (.int e1'), .val (.int e2'), .val (.int e3'), .val (.int s0'), .val (.int s1'), .val (.int s2'), .val (.int s3'), .val (.ref b17), .val (.ref b18), .val (.ref b19), .val (.ref b20), .val (.ref b21), .val (.long r2), .second] [(.ref b17), (.long (e2'.toInt64)), (.long r2)])) _
      refine XS.iload X275.here hx rfl (hb hby at_350) rfl ?_
      show Steps p.tables e below (T275.setTop (mkF m 352 #[.val (.int p1), .val (.int p2), .val (.int p3), .val (.int p4), .val (.int (Int32.ofNat k)), .val (.int b0), .val (.int b1), .val (.int b2), .val (.int b3), .val (.int e0'), .val (.int e1'), .val (.int e2'), .val (.int e3'), .val (.int s0'), .val (.int s1'), .val (.int s2'), .val (.int s3'), .val (.ref b17), .val (.ref b18), .val (.ref b19), .val (.ref b20), .val (.ref b21), .val (.long r2), .second] [(.int b2), (.ref b17), (.long (e2'.toInt64)), (.long r2)])) _
      refine X275.iaload hx (j := b2) (v := (.int ((own_4 s0' s1' s2' s3') b2.toNatClampNeg))) Ar282.1 (State.isArrayOf_alike hZ.alike Ar282.2.1) Ar282.2.2 (own_hin Sz282 sb2.1 sb2.2) (Hv282 _ sb2.2) (g := (mkF m 352 #[.val (.int p1), .val (.int p2), .val (.int p3), .val (.int p4), .val (.int (Int32.ofNat k)), .val (.int b0), .val (.int b1), .val (.int b2), .val (.int b3), .val (.int e0'), .val (.int e1'), .val (.int e2'), .val (.int e3'), .val (.int s0'), .val (.int s1'), .val (.int s2'), .val (.int s3'), .val (.ref b17), .val (.ref b18), .val (.ref b19), .val (.ref b20), .val (.ref b21), .val (.long r2), .second] [(.int b2), (.ref b17), (.long (e2'.toInt64)), (.long r2)])) rfl rfl (hb hby at_352) _ ?_
      show Steps p.tables e below (T275.setTop (mkF m 353 #[.val (.int p1), .val (.int p2), .val (.int p3), .val (.int p4), .val (.int (Int32.ofNat k)), .val (.int b0), .val (.int b1), .val (.int b2), .val (.int b3), .val (.int e0'), .val (.int e1'), .val (.int e2'), .val (.int e3'), .val (.int s0'), .val (.int s1'), .val (.int s2'), .val (.int s3'), .val (.ref b17), .val (.ref b18), .val (.ref b19), .val (.ref b20), .val (.ref b21), .val (.long r2), .second] [(.int ((own_4 s0' s1' s2' s3') b2.toNatClampNeg)), (.long (e2'.toInt64)), (.long r2)])) _
      refine XS.i2l X275.here hx rfl (hb hby at_353) rfl ?_
      show Steps p.tables e below (T275.setTop (mkF m 354 #[.val (.int p1), .val (.int p2), .val (.int p3), .val (.int p4), .val (.int (Int32.ofNat k)), .val (.int b0), .val (.int b1), .val (.int b2), .val (.int b3), .val (.int e0'), .val (.int e1'), .val (.int e2'), .val (.int e3'), .val (.int s0'), .val (.int s1'), .val (.int s2'), .val (.int s3'), .val (.ref b17), .val (.ref b18), .val (.ref b19), .val (.ref b20), .val (.ref b21), .val (.long r2), .second] [(.long (((own_4 s0' s1' s2' s3') b2.toNatClampNeg).toInt64)), (.long (e2'.toInt64)), (.long r2)])) _
      refine XS.lmul X275.here hx rfl (hb hby at_354) rfl ?_
      show Steps p.tables e below (T275.setTop (mkF m 355 #[.val (.int p1), .val (.int p2), .val (.int p3), .val (.int p4), .val (.int (Int32.ofNat k)), .val (.int b0), .val (.int b1), .val (.int b2), .val (.int b3), .val (.int e0'), .val (.int e1'), .val (.int e2'), .val (.int e3'), .val (.int s0'), .val (.int s1'), .val (.int s2'), .val (.int s3'), .val (.ref b17), .val (.ref b18), .val (.ref b19), .val (.ref b20), .val (.ref b21), .val (.long r2), .second] [(.long ((e2'.toInt64) * (((own_4 s0' s1' s2' s3') b2.toNatClampNeg).toInt64))), (.long r2)])) _
      refine XS.ladd X275.here hx rfl (hb hby at_355) rfl ?_
      show Steps p.tables e below (T275.setTop (mkF m 356 #[.val (.int p1), .val (.int p2), .val (.int p3), .val (.int p4), .val (.int (Int32.ofNat k)), .val (.int b0), .val (.int b1), .val (.int b2), .val (.int b3), .val (.int e0'), .val (.int e1'), .val (.int e2'), .val (.int e3'), .val (.int s0'), .val (.int s1'), .val (.int s2'), .val (.int s3'), .val (.ref b17), .val (.ref b18), .val (.ref b19), .val (.ref b20), .val (.ref b21), .val (.long r2), .second] [(.long (r2 + ((e2'.toInt64) * (((own_4 s0' s1' s2' s3') b2.toNatClampNeg).toInt64))))])) _
      refine XS.lstore X275.here hx rfl (hb hby at_356) rfl (l' := #[.val (.int p1), .val (.int p2), .val (.int p3), .val (.int p4), .val (.int (Int32.ofNat k)), .val (.int b0), .val (.int b1), .val (.int b2), .val (.int b3), .val (.int e0'), .val (.int e1'), .val (.int e2'), .val (.int e3'), .val (.int s0'), .val (.int s1'), .val (.int s2'), .val (.int s3'), .val (.ref b17), .val (.ref b18), .val (.ref b19), .val (.ref b20), .val (.ref b21), .val (.long (r2 + ((e2'.toInt64) * (((own_4 s0' s1' s2' s3') b2.toNatClampNeg).toInt64)))), .second]) rfl ?_
      exact k9
  generalize hr3e : (if (Int32.ofNat k) < (3 : Int32) then r2 else (r2 + ((e2'.toInt64) * (((own_4 s0' s1' s2' s3') b2.toNatClampNeg).toInt64)))) = r3
  have hr3 : r3.toInt = own_tot (own_4 e0' e1' e2' e3') (own_4 s0' s1' s2' s3') (own_4 b0 b1 b2 b3) (min k 3) := own_turn hE hS (i := 2) hk (by decide) (by decide) hr2 hr3e
  refine go (T275.setTop (mkF m 379 #[.val (.int p1), .val (.int p2), .val (.int p3), .val (.int p4), .val (.int (Int32.ofNat k)), .val (.int b0), .val (.int b1), .val (.int b2), .val (.int b3), .val (.int e0'), .val (.int e1'), .val (.int e2'), .val (.int e3'), .val (.int s0'), .val (.int s1'), .val (.int s2'), .val (.int s3'), .val (.ref b17), .val (.ref b18), .val (.ref b19), .val (.ref b20), .val (.ref b21), .val (.long (if (Int32.ofNat k) < (4 : Int32) then r3 else (r3 + ((e3'.toInt64) * (((own_4 s0' s1' s2' s3') b3.toNatClampNeg).toInt64))))), .second] [])) _ (fun t9 k9 => ?_) ?_
  · show Steps p.tables e below (T275.setTop (mkF m 358 #[.val (.int p1), .val (.int p2), .val (.int p3), .val (.int p4), .val (.int (Int32.ofNat k)), .val (.int b0), .val (.int b1), .val (.int b2), .val (.int b3), .val (.int e0'), .val (.int e1'), .val (.int e2'), .val (.int e3'), .val (.int s0'), .val (.int s1'), .val (.int s2'), .val (.int s3'), .val (.ref b17), .val (.ref b18), .val (.ref b19), .val (.ref b20), .val (.ref b21), .val (.long r3), .second] [])) _
    refine XS.iload X275.here hx rfl (hb hby at_358) rfl ?_
    show Steps p.tables e below (T275.setTop (mkF m 360 #[.val (.int p1), .val (.int p2), .val (.int p3), .val (.int p4), .val (.int (Int32.ofNat k)), .val (.int b0), .val (.int b1), .val (.int b2), .val (.int b3), .val (.int e0'), .val (.int e1'), .val (.int e2'), .val (.int e3'), .val (.int s0'), .val (.int s1'), .val (.int s2'), .val (.int s3'), .val (.ref b17), .val (.ref b18), .val (.ref b19), .val (.ref b20), .val (.ref b21), .val (.long r3), .second] [(.int (Int32.ofNat k))])) _
    refine XS.iconst X275.here hx rfl (hb hby at_360) ?_
    by_cases h361_1 : (Int32.ofNat k) < (4 : Int32)
    · try (simp only [if_pos h361_1] at k9)
      show Steps p.tables e below (T275.setTop (mkF m 361 #[.val (.int p1), .val (.int p2), .val (.int p3), .val (.int p4), .val (.int (Int32.ofNat k)), .val (.int b0), .val (.int b1), .val (.int b2), .val (.int b3), .val (.int e0'), .val (.int e1'), .val (.int e2'), .val (.int e3'), .val (.int s0'), .val (.int s1'), .val (.int s2'), .val (.int s3'), .val (.ref b17), .val (.ref b18), .val (.ref b19), .val (.ref b20), .val (.ref b21), .val (.long r3), .second] [(.int (4 : Int32)), (.int (Int32.ofNat k))])) _
      refine XS.icmpYes X275.here hx rfl (pc0 := 361) (pc' := 379) rfl (hb hby at_361) rfl (tlt h361_1).1 (by decide) (by decide) ?_
      exact k9
    · try (simp only [if_neg h361_1] at k9)
      show Steps p.tables e below (T275.setTop (mkF m 361 #[.val (.int p1), .val (.int p2), .val (.int p3), .val (.int p4), .val (.int (Int32.ofNat k)), .val (.int b0), .val (.int b1), .val (.int b2), .val (.int b3), .val (.int e0'), .val (.int e1'), .val (.int e2'), .val (.int e3'), .val (.int s0'), .val (.int s1'), .val (.int s2'), .val (.int s3'), .val (.ref b17), .val (.ref b18), .val (.ref b19), .val (.ref b20), .val (.ref b21), .val (.long r3), .second] [(.int (4 : Int32)), (.int (Int32.ofNat k))])) _
      refine XS.icmpNo X275.here hx rfl (hb hby at_361) rfl (flt h361_1).1 ?_
      show Steps p.tables e below (T275.setTop (mkF m 364 #[.val (.int p1), .val (.int p2), .val (.int p3), .val (.int p4), .val (.int (Int32.ofNat k)), .val (.int b0), .val (.int b1), .val (.int b2), .val (.int b3), .val (.int e0'), .val (.int e1'), .val (.int e2'), .val (.int e3'), .val (.int s0'), .val (.int s1'), .val (.int s2'), .val (.int s3'), .val (.ref b17), .val (.ref b18), .val (.ref b19), .val (.ref b20), .val (.ref b21), .val (.long r3), .second] [])) _
      refine XS.lload X275.here hx rfl (hb hby at_364) rfl ?_
      show Steps p.tables e below (T275.setTop (mkF m 366 #[.val (.int p1), .val (.int p2), .val (.int p3), .val (.int p4), .val (.int (Int32.ofNat k)), .val (.int b0), .val (.int b1), .val (.int b2), .val (.int b3), .val (.int e0'), .val (.int e1'), .val (.int e2'), .val (.int e3'), .val (.int s0'), .val (.int s1'), .val (.int s2'), .val (.int s3'), .val (.ref b17), .val (.ref b18), .val (.ref b19), .val (.ref b20), .val (.ref b21), .val (.long r3), .second] [(.long r3)])) _
      refine XS.iload X275.here hx rfl (hb hby at_366) rfl ?_
      show Steps p.tables e below (T275.setTop (mkF m 368 #[.val (.int p1), .val (.int p2), .val (.int p3), .val (.int p4), .val (.int (Int32.ofNat k)), .val (.int b0), .val (.int b1), .val (.int b2), .val (.int b3), .val (.int e0'), .val (.int e1'), .val (.int e2'), .val (.int e3'), .val (.int s0'), .val (.int s1'), .val (.int s2'), .val (.int s3'), .val (.ref b17), .val (.ref b18), .val (.ref b19), .val (.ref b20), .val (.ref b21), .val (.long r3), .second] [(.int e3'), (.long r3)])) _
      refine XS.i2l X275.here hx rfl (hb hby at_368) rfl ?_
      show Steps p.tables e below (T275.setTop (mkF m 369 #[.val (.int p1), .val (.int p2), .val (.int p3), .val (.int p4), .val (.int (Int32.ofNat k)), .val (.int b0), .val (.int b1), .val (.int b2), .val (.int b3), .val (.int e0'), .val (.int e1'), .val (.int e2'), .val (.int e3'), .val (.int s0'), .val (.int s1'), .val (.int s2'), .val (.int s3'), .val (.ref b17), .val (.ref b18), .val (.ref b19), .val (.ref b20), .val (.ref b21), .val (.long r3), .second] [(.long (e3'.toInt64)), (.long r3)])) _
      refine XS.aload X275.here hx rfl (hb hby at_369) rfl rfl ?_
      show Steps p.tables e below (T275.setTop (mkF m 371 #[.val (.int p1), .val (.int p2), .val (.int p3), .val (.int p4), .val (.int (Int32.ofNat k)), .val (.int b0), .val (.int b1), .val (.int b2), .val (.int b3), .val (.int e0'), .val (.int e1'), .val (.int e2'), .val (.int e3'), .val (.int s0'), .val (.int s1'), .val (.int s2'), .val (.int s3'), .val (.ref b17), .val (.ref b18), .val (.ref b19), .val (.ref b20), .val (.ref b21), .val (.long r3), .second] [(.ref b17), (.long (e3'.toInt64)), (.long r3)])) _
      refine XS.iload X275.here hx rfl (hb hby at_371) rfl ?_
      show Steps p.tables e below (T275.setTop (mkF m 373 #[.val (.int p1), .val (.int p2), .val (.int p3), .val (.int p4), .val (.int (Int32.ofNat k)), .val (.int b0), .val (.int b1), .val (.int b2), .val (.int b3), .val (.int e0'), .val (.int e1'), .val (.int e2'), .val (.int e3'), .val (.int s0'), .val (.int s1'), .val (.int s2'), .val (.int s3'), .val (.ref b17), .val (.ref b18), .val (.ref b19), .val (.ref b20), .val (.ref b21), .val (.long r3), .second] [(.int b3), (.ref b17), (.long (e3'.toInt64)), (.long r3)])) _
      refine X275.iaload hx (j := b3) (v := (.int ((own_4 s0' s1' s2' s3') b3.toNatClampNeg))) Ar282.1 (State.isArrayOf_alike hZ.alike Ar282.2.1) Ar282.2.2 (own_hin Sz282 sb3.1 sb3.2) (Hv282 _ sb3.2) (g := (mkF m 373 #[.val (.int p1), .val (.int p2), .val (.int p3), .val (.int p4), .val (.int (Int32.ofNat k)), .val (.int b0), .val (.int b1), .val (.int b2), .val (.int b3), .val (.int e0'), .val (.int e1'), .val (.int e2'), .val (.int e3'), .val (.int s0'), .val (.int s1'), .val (.int s2'), .val (.int s3'), .val (.ref b17), .val (.ref b18), .val (.ref b19), .val (.ref b20), .val (.ref b21), .val (.long r3), .second] [(.int b3), (.ref b17), (.long (e3'.toInt64)), (.long r3)])) rfl rfl (hb hby at_373) _ ?_
      show Steps p.tables e below (T275.setTop (mkF m 374 #[.val (.int p1), .val (.int p2), .val (.int p3), .val (.int p4), .val (.int (Int32.ofNat k)), .val (.int b0), .val (.int b1), .val (.int b2), .val (.int b3), .val (.int e0'), .val (.int e1'), .val (.int e2'), .val (.int e3'), .val (.int s0'), .val (.int s1'), .val (.int s2'), .val (.int s3'), .val (.ref b17), .val (.ref b18), .val (.ref b19), .val (.ref b20), .val (.ref b21), .val (.long r3), .second] [(.int ((own_4 s0' s1' s2' s3') b3.toNatClampNeg)), (.long (e3'.toInt64)), (.long r3)])) _
      refine XS.i2l X275.here hx rfl (hb hby at_374) rfl ?_
      show Steps p.tables e below (T275.setTop (mkF m 375 #[.val (.int p1), .val (.int p2), .val (.int p3), .val (.int p4), .val (.int (Int32.ofNat k)), .val (.int b0), .val (.int b1), .val (.int b2), .val (.int b3), .val (.int e0'), .val (.int e1'), .val (.int e2'), .val (.int e3'), .val (.int s0'), .val (.int s1'), .val (.int s2'), .val (.int s3'), .val (.ref b17), .val (.ref b18), .val (.ref b19), .val (.ref b20), .val (.ref b21), .val (.long r3), .second] [(.long (((own_4 s0' s1' s2' s3') b3.toNatClampNeg).toInt64)), (.long (e3'.toInt64)), (.long r3)])) _
      refine XS.lmul X275.here hx rfl (hb hby at_375) rfl ?_
      show Steps p.tables e below (T275.setTop (mkF m 376 #[.val (.int p1), .val (.int p2), .val (.int p3), .val (.int p4), .val (.int (Int32.ofNat k)), .val (.int b0), .val (.int b1), .val (.int b2), .val (.int b3), .val (.int e0'), .val (.int e1'), .val (.int e2'), .val (.int e3'), .val (.int s0'), .val (.int s1'), .val (.int s2'), .val (.int s3'), .val (.ref b17), .val (.ref b18), .val (.ref b19), .val (.ref b20), .val (.ref b21), .val (.long r3), .second] [(.long ((e3'.toInt64) * (((own_4 s0' s1' s2' s3') b3.toNatClampNeg).toInt64))), (.long r3)])) _
      refine XS.ladd X275.here hx rfl (hb hby at_376) rfl ?_
      show Steps p.tables e below (T275.setTop (mkF m 377 #[.val (.int p1), .val (.int p2), .val (.int p3), .val (.int p4), .val (.int (Int32.ofNat k)), .val (.int b0), .val (.int b1), .val (.int b2), .val (.int b3), .val (.int e0'), .val (.int e1'), .val (.int e2'), .val (.int e3'), .val (.int s0'), .val (.int s1'), .val (.int s2'), .val (.int s3'), .val (.ref b17), .val (.ref b18), .val (.ref b19), .val (.ref b20), .val (.ref b21), .val (.long r3), .second] [(.long (r3 + ((e3'.toInt64) * (((own_4 s0' s1' s2' s3') b3.toNatClampNeg).toInt64))))])) _
      refine XS.lstore X275.here hx rfl (hb hby at_377) rfl (l' := #[.val (.int p1), .val (.int p2), .val (.int p3), .val (.int p4), .val (.int (Int32.ofNat k)), .val (.int b0), .val (.int b1), .val (.int b2), .val (.int b3), .val (.int e0'), .val (.int e1'), .val (.int e2'), .val (.int e3'), .val (.int s0'), .val (.int s1'), .val (.int s2'), .val (.int s3'), .val (.ref b17), .val (.ref b18), .val (.ref b19), .val (.ref b20), .val (.ref b21), .val (.long (r3 + ((e3'.toInt64) * (((own_4 s0' s1' s2' s3') b3.toNatClampNeg).toInt64)))), .second]) rfl ?_
      exact k9
  generalize hr4e : (if (Int32.ofNat k) < (4 : Int32) then r3 else (r3 + ((e3'.toInt64) * (((own_4 s0' s1' s2' s3') b3.toNatClampNeg).toInt64)))) = r4
  have hr4 : r4.toInt = own_tot (own_4 e0' e1' e2' e3') (own_4 s0' s1' s2' s3') (own_4 b0 b1 b2 b3) (min k 4) := own_turn hE hS (i := 3) hk (by decide) (by decide) hr3 hr4e
  rw [show min k 4 = k by omega] at hr4
  have bdk := own_tot_bd (B := (own_4 b0 b1 b2 b3)) hE hS k
  refine go (T275.setTop (mkF m 383 #[.val (.int p1), .val (.int p2), .val (.int p3), .val (.int p4), .val (.int (Int32.ofNat k)), .val (.int b0), .val (.int b1), .val (.int b2), .val (.int b3), .val (.int e0'), .val (.int e1'), .val (.int e2'), .val (.int e3'), .val (.int s0'), .val (.int s1'), .val (.int s2'), .val (.int s3'), .val (.ref b17), .val (.ref b18), .val (.ref b19), .val (.ref b20), .val (.ref b21), .val (.long r4), .second] [(.ref b18), (.ref b21)])) _ (fun t9 k9 => ?_) ?_
  · show Steps p.tables e below (T275.setTop (mkF m 379 #[.val (.int p1), .val (.int p2), .val (.int p3), .val (.int p4), .val (.int (Int32.ofNat k)), .val (.int b0), .val (.int b1), .val (.int b2), .val (.int b3), .val (.int e0'), .val (.int e1'), .val (.int e2'), .val (.int e3'), .val (.int s0'), .val (.int s1'), .val (.int s2'), .val (.int s3'), .val (.ref b17), .val (.ref b18), .val (.ref b19), .val (.ref b20), .val (.ref b21), .val (.long r4), .second] [])) _
    refine XS.aload X275.here hx rfl (hb hby at_379) rfl rfl ?_
    show Steps p.tables e below (T275.setTop (mkF m 381 #[.val (.int p1), .val (.int p2), .val (.int p3), .val (.int p4), .val (.int (Int32.ofNat k)), .val (.int b0), .val (.int b1), .val (.int b2), .val (.int b3), .val (.int e0'), .val (.int e1'), .val (.int e2'), .val (.int e3'), .val (.int s0'), .val (.int s1'), .val (.int s2'), .val (.int s3'), .val (.ref b17), .val (.ref b18), .val (.ref b19), .val (.ref b20), .val (.ref b21), .val (.long r4), .second] [(.ref b21)])) _
    refine XS.aload X275.here hx rfl (hb hby at_381) rfl rfl ?_
    exact k9
  obtain ⟨cq284, kq284, q284a, q284b, q284c⟩ := isOf hZ rfl Eq
  obtain ⟨_, _, ⟨T284, L284, k284, n284⟩, -, X284, ⟨Lc284, hQ284, l284, y284, z284⟩, st284⟩ := X275.virtualBack hx (y := (⟨"com/example/sensebid/sensebid/mechanism/CoverRow", "sum", "([D)D"⟩ : MethodName)) (z := (⟨"com/example/sensebid/sensebid/mechanism/CoverRow", "sum", "([D)D"⟩ : MethodName)) hown (mvT hZ (hw _ (List.mem_of_getElem? (i := 18) rfl))) (mvT hZ (hw _ (List.mem_of_getElem? (i := 19) rfl))) (notFace_of_selects (args := #[]) (mvT hZ (hw _ (List.mem_of_getElem? (i := 21) rfl)))) (mvT hZ (hw _ (List.mem_of_getElem? (i := 21) rfl))) (mvT hZ (hw _ (List.mem_of_getElem? (i := 20) rfl))) (by decide) (backOf (W := 0) (rm3 l Z a0 hw [] b21 b18 b20 b19 (own_4 e0' e1' e2' e3') (own_4 s0' s1' s2' s3') (own_4 b0 b1 b2 b3) k hk hE hS hB T275.heap n0 (Nat.le_trans Z0 u281.1) Fq1 Fq2 u279 u278 u277) hZ (hw _ (List.mem_of_getElem? (i := 22) rfl)) (hw _ (List.mem_of_getElem? (i := 5) rfl)) (by decide) (by decide)) q284a q284c (g := (mkF m 383 #[.val (.int p1), .val (.int p2), .val (.int p3), .val (.int p4), .val (.int (Int32.ofNat k)), .val (.int b0), .val (.int b1), .val (.int b2), .val (.int b3), .val (.int e0'), .val (.int e1'), .val (.int e2'), .val (.int e3'), .val (.int s0'), .val (.int s1'), .val (.int s2'), .val (.int s3'), .val (.ref b17), .val (.ref b18), .val (.ref b19), .val (.ref b20), .val (.ref b21), .val (.long r4), .second] [(.ref b18), (.ref b21)])) rfl (by rw [hml]; rfl) (Steps.refl _) (argsL := [(.ref b18)]) (rest := []) (lenOf pd__28_5bD_29D rfl) rfl (by show 2 * 0 + _ ≤ _; exact Nat.le_of_eq rfl) (hb hby at_383) (fun _ _ => ⟨rfl, rfl, (by decide : 5 + 0 ≤ _), (by decide : 20 + 0 ≤ _)⟩)
  dsimp only [Pt.U, Pt.locs, Pt.cells, Pt.slots] at X284 l284 y284 z284 st284 hQ284
  subst l284 y284 z284
  obtain ⟨⟨d, rfl, hd⟩, N284q, e284q⟩ := hQ284
  have N284 := Fr.app N275 N284q
  refine go (T284.setTop (mkF m 386 #[.val (.int p1), .val (.int p2), .val (.int p3), .val (.int p4), .val (.int (Int32.ofNat k)), .val (.int b0), .val (.int b1), .val (.int b2), .val (.int b3), .val (.int e0'), .val (.int e1'), .val (.int e2'), .val (.int e3'), .val (.int s0'), .val (.int s1'), .val (.int s2'), .val (.int s3'), .val (.ref b17), .val (.ref b18), .val (.ref b19), .val (.ref b20), .val (.ref b21), .val (.long r4), .second] [(.double d)])) _ (fun t9 k9 => st284.trans k9) ?_
  refine go (T284.setTop (mkF m 389 #[.val (.int p1), .val (.int p2), .val (.int p3), .val (.int p4), .val (.int (Int32.ofNat k)), .val (.int b0), .val (.int b1), .val (.int b2), .val (.int b3), .val (.int e0'), .val (.int e1'), .val (.int e2'), .val (.int e3'), .val (.int s0'), .val (.int s1'), .val (.int s2'), .val (.int s3'), .val (.ref b17), .val (.ref b18), .val (.ref b19), .val (.ref b20), .val (.ref b21), .val (.long r4), .second] [(.double (FP.l2d r4)), (.double d)])) _ (fun t9 k9 => ?_) ?_
  · show Steps p.tables e below (T284.setTop (mkF m 386 #[.val (.int p1), .val (.int p2), .val (.int p3), .val (.int p4), .val (.int (Int32.ofNat k)), .val (.int b0), .val (.int b1), .val (.int b2), .val (.int b3), .val (.int e0'), .val (.int e1'), .val (.int e2'), .val (.int e3'), .val (.int s0'), .val (.int s1'), .val (.int s2'), .val (.int s3'), .val (.ref b17), .val (.ref b18), .val (.ref b19), .val (.ref b20), .val (.ref b21), .val (.long r4), .second] [(.double d)])) _
    refine XS.lload X284.here hx rfl (hb hby at_386) rfl ?_
    show Steps p.tables e below (T284.setTop (mkF m 388 #[.val (.int p1), .val (.int p2), .val (.int p3), .val (.int p4), .val (.int (Int32.ofNat k)), .val (.int b0), .val (.int b1), .val (.int b2), .val (.int b3), .val (.int e0'), .val (.int e1'), .val (.int e2'), .val (.int e3'), .val (.int s0'), .val (.int s1'), .val (.int s2'), .val (.int s3'), .val (.ref b17), .val (.ref b18), .val (.ref b19), .val (.ref b20), .val (.ref b21), .val (.long r4), .second] [(.long r4), (.double d)])) _
    refine XS.l2dS X284.here hx rfl (hb hby at_388) rfl rfl ?_
    exact k9
  have hl : FP.Core.DInt (own_tot (own_4 e0' e1' e2' e3') (own_4 s0' s1' s2' s3') (own_4 b0 b1 b2 b3) k) (FP.l2d r4) := by rw [← hr4]; exact FP.Core.l2d_int (by omega)
  refine go (T284.setTop (mkF m 398 #[.val (.int p1), .val (.int p2), .val (.int p3), .val (.int p4), .val (.int (Int32.ofNat k)), .val (.int b0), .val (.int b1), .val (.int b2), .val (.int b3), .val (.int e0'), .val (.int e1'), .val (.int e2'), .val (.int e3'), .val (.int s0'), .val (.int s1'), .val (.int s2'), .val (.int s3'), .val (.ref b17), .val (.ref b18), .val (.ref b19), .val (.ref b20), .val (.ref b21), .val (.long r4), .second] [(.int (1 : Int32))])) _ (fun t9 k9 => ?_) ?_
  · show Steps p.tables e below (T284.setTop (mkF m 389 #[.val (.int p1), .val (.int p2), .val (.int p3), .val (.int p4), .val (.int (Int32.ofNat k)), .val (.int b0), .val (.int b1), .val (.int b2), .val (.int b3), .val (.int e0'), .val (.int e1'), .val (.int e2'), .val (.int e3'), .val (.int s0'), .val (.int s1'), .val (.int s2'), .val (.int s3'), .val (.ref b17), .val (.ref b18), .val (.ref b19), .val (.ref b20), .val (.ref b21), .val (.long r4), .second] [(.double (FP.l2d r4)), (.double d)])) _
    refine XS.dcmpS X284.here hx rfl (hb hby at_389) rfl (own_eq0 hd hl) ?_
    show Steps p.tables e below (T284.setTop (mkF m 390 #[.val (.int p1), .val (.int p2), .val (.int p3), .val (.int p4), .val (.int (Int32.ofNat k)), .val (.int b0), .val (.int b1), .val (.int b2), .val (.int b3), .val (.int e0'), .val (.int e1'), .val (.int e2'), .val (.int e3'), .val (.int s0'), .val (.int s1'), .val (.int s2'), .val (.int s3'), .val (.ref b17), .val (.ref b18), .val (.ref b19), .val (.ref b20), .val (.ref b21), .val (.long r4), .second] [(.int (0 : Int32))])) _
    refine XS.ifNo X284.here hx rfl (hb hby at_390) rfl ((if0 _ _).trans (teq (rfl : (0 : Int32) = (0 : Int32))).2) ?_
    show Steps p.tables e below (T284.setTop (mkF m 393 #[.val (.int p1), .val (.int p2), .val (.int p3), .val (.int p4), .val (.int (Int32.ofNat k)), .val (.int b0), .val (.int b1), .val (.int b2), .val (.int b3), .val (.int e0'), .val (.int e1'), .val (.int e2'), .val (.int e3'), .val (.int s0'), .val (.int s1'), .val (.int s2'), .val (.int s3'), .val (.ref b17), .val (.ref b18), .val (.ref b19), .val (.ref b20), .val (.ref b21), .val (.long r4), .second] [])) _
    refine XS.iconst X284.here hx rfl (hb hby at_393) ?_
    show Steps p.tables e below (T284.setTop (mkF m 394 #[.val (.int p1), .val (.int p2), .val (.int p3), .val (.int p4), .val (.int (Int32.ofNat k)), .val (.int b0), .val (.int b1), .val (.int b2), .val (.int b3), .val (.int e0'), .val (.int e1'), .val (.int e2'), .val (.int e3'), .val (.int s0'), .val (.int s1'), .val (.int s2'), .val (.int s3'), .val (.ref b17), .val (.ref b18), .val (.ref b19), .val (.ref b20), .val (.ref b21), .val (.long r4), .second] [(.int (1 : Int32))])) _
    refine XS.goto X284.here hx rfl (pc0 := 394) (pc' := 398) rfl (hb hby at_394) (by decide) (by decide) ?_
    exact k9
  obtain ⟨fs, hr, hrun, hended, hW, hsame⟩ := X284.leave (v := some (.int (1 : Int32))) (fun h => by rw [Bd.returns] at h; cases h)
  refine fin _ ⟨_, _, retN X284 hx (t := .boolean) Bd.returns (by simp) (hb hby at_398) hr, hrun, hended, _, _, rfl, ?_, ⟨_, rfl⟩, hW, hsame.mono (by decide) (by decide)⟩
  show Q0 Z p1 p2 p3 p4 h0 n0 _ T284.heap _
  exact ⟨rfl, N284⟩
set_option maxRecDepth 65536 in
set_option maxHeartbeats 40000000 in
theorem comes_1 {Post : Tables → Env → Array Value → State → Outcome → State → Prop} (hpost : ∀ tb e args s v u, (limb_1_1.after args s (.returned v) u = true ∧ limb_1_2.after args s (.returned v) u = true ∧ True) → FrameEnd s (.returned v) u (Jvm.fieldLocs frame_1_writes args s ++ Jvm.arrayLocs frame_1_arrays args s ++ Jvm.staticLocs frame_1_statics s) 24 128 → Post tb e args s (.returned v) u) :
    ArmFor flags0 classFile x code maxLocals ret World_1 tables_1 room_1 Calls_1 rest_1 Pre_1 Post := by
  intro l hfl _ _ p e ha hc hk s m args below hf hA hF happ hP
  obtain ⟨hcalls, hrest, hpre⟩ := hP
  obtain ⟨-, -, -, hnamed, -, -, -, hat⟩ := (Spec.applies_iff hf).mp happ
  obtain ⟨hg, hn⟩ := and_e (Cond.before_iff.mp (show (Jvm.Cond.and given_1 narrow_1).before args s = true from hpre))
  obtain ⟨hcnt, hq0⟩ := and_e hg
  obtain ⟨ha0, hq1⟩ := and_e hq0
  obtain ⟨ha1, hq2⟩ := and_e hq1
  obtain ⟨ha2, hq3⟩ := and_e hq2
  obtain ⟨w0, w1, w2, w3, rfl⟩ : ∃ w0 w1 w2 w3 : Value, args = #[w0, w1, w2, w3] := by
    have hs : args.size = 4 := by simpa [Cond.value, given_1] using hcnt
    obtain ⟨L⟩ := args
    match L, hs with
    | [w0, w1, w2, w3], _ => exact ⟨w0, w1, w2, w3, rfl⟩
  have hw := fun d (hd : d ∈ tables_1) => atoms_spec (ws := Jvm.Cond.code x code maxLocals ret :: tables_1) hat d (List.mem_cons_of_mem _ hd)
  obtain ⟨i0, ei0⟩ := is_v ha0
  obtain rfl : w0 = (.int i0) := Option.some.inj ei0
  obtain ⟨i1, ei1⟩ := is_v ha1
  obtain rfl : w1 = (.int i1) := Option.some.inj ei1
  obtain ⟨i2, ei2⟩ := is_v ha2
  obtain rfl : w2 = (.int i2) := Option.some.inj ei2
  obtain ⟨i3, ei3⟩ := is_v hq3
  obtain rfl : w3 = (.int i3) := Option.some.inj ei3
  obtain ⟨n, o, h1, h2, h3, _, L, rfl, ⟨rfl, N⟩, hq⟩ := rm0 l s _ hw tables_1 i0 i1 i2 i3 s.heap s.heap.size (Nat.le_refl _) p e ha hc hk s m _ below hf ((Spec.applies_iff_loose hf).mp happ).1 ⟨rfl, State.Warmed39.refl s, rfl⟩ trivial
  refine ⟨n, _, h1, h2, h3, hpost _ _ _ _ _ _ ⟨Cond.after_iff.mpr rfl, Cond.after_iff.mpr (eq_i res_at (Term.int_eval (1)) rfl), trivial⟩ ⟨hq.1, hq.2.1, (hq.2.2.sift fun y hy => Or.inr (N y hy)).mono (by decide) (by decide)⟩⟩
theorem main_1_1 : Claimed_1_1 := comes_1 fun _ _ _ _ _ _ h hF => ⟨h.1, hF⟩
theorem main_1_2 : Claimed_1_2 := comes_1 fun _ _ _ _ _ _ h hF => ⟨h.2.1, hF⟩
end Jvm.Pilot.@@N@@
namespace Jvm.Pilot.@@N@@
open Jvm Jvm.ClassFile Sem Op Lib Jvm.Free Jvm.Stand Jvm.Pilot.@@N@@.Jvm.D
/-! MADE BY PROGRAM (witnessworld.py) out of the Statement's table words and the real class files: 11 classes; the members and pool entries that the words name. The judged class is class 1, her method 1. -/
namespace start1
open Jvm.ClassFile
def u (s : String) : CpInfo := .utf8 (stringToUtf16 s)
/-- a pool by its gaps: so many unusable entries, then the entry; so many at the end -/
def gap : Nat → List CpInfo → List CpInfo
  | 0, r => r
  | n + 1, r => .unusable :: gap n r
def poolList (es : List (Nat × CpInfo)) (last : Nat) : List CpInfo := es.foldr (fun e r => gap e.1 (e.2 :: r)) (gap last [])
def pool (es : List (Nat × CpInfo)) (last : Nat) : Array CpInfo := ⟨poolList es last⟩
def fileOf (pool : Array CpInfo) (this : Nat) (attrs : Array Attribute := #[]) (ms : Array MethodInfo := #[]) (fl : Nat := 33) (sup : Nat := 0) (ifs : Array Nat := #[]) (fds : Array FieldInfo := #[]) : ClassFile where
  minorVersion := 0
  majorVersion := 65
  constantPool := pool
  accessFlags := fl
  thisClass := this
  superClass := sup
  interfaces := ifs
  fields := fds
  methods := ms
  attributes := attrs
def plain (name : String) (sup : Option ClassId) : Class where
  name := name
  kind := .ordinary
  loader := none
  accessFlags := 33
  super := sup
  interfaces := #[]
  cf := none
  fields := #[]
  methods := #[]
  instanceTypes := #[]
  staticTypes := #[]
  resolved := #[]
  callSites := []
  init := .initialized
  statics := none
  mirror := none

def pool0 : Array CpInfo := pool [(5, u "<init>"), (0, u "()V"), (1, .class_ 10), (1, u "java/lang/Object")] 113

def k0c0 : Code := { maxStack := 0, maxLocals := 1, code := object_method_1_code, exceptionTable := #[], attributes := #[] }
def k0m0 : Method := { name := "<init>", desc := "()V", sig := { parameters := [], returnType := none }, accessFlags := 1, code := some k0c0 }
/-- java/lang/Object -/
def k0 : Class := { plain "java/lang/Object" none with
  accessFlags := 33
  interfaces := #[]
  cf := some (fileOf pool0 8 #[] #[{ accessFlags := 1, nameIndex := 5, descriptorIndex := 6, attributes := #[] }] 33 0 #[] #[])
  fields := #[]
  methods := #[k0m0]
  instanceTypes := #[]
  staticTypes := #[]
  resolved := Array.replicate 124 none
  statics := none }

def pool1 : Array CpInfo := pool [(2, .class_ 4), (1, u "java/lang/Object"), (0, u "<init>"), (0, u "()V"), (0, .integer 2147483647), (0, .class_ 9), (0, u "com/example/sensebid/sensebid/mechanism/CoverRow"), (0, .methodref 8 11), (0, .nameAndType 5 12), (0, u "([I[DD)V"), (0, .methodref 8 14), (0, .nameAndType 15 16), (0, u "sum"), (0, u "([D)D"), (0, .class_ 18), (0, u "com/example/sensebid/sensebid/mechanism/CoverRowSumPinLaw"), (2, u "law"), (0, u "(IIII)Z")] 7

def k1m0 : Method := { name := "<init>", desc := "()V", sig := { parameters := [], returnType := none }, accessFlags := 1, code := none }
def k1c1 : Code := { maxStack := 6, maxLocals := 24, code := code, exceptionTable := #[], attributes := #[] }
def k1m1 : Method := { name := "law", desc := "(IIII)Z", sig := { parameters := [.int, .int, .int, .int], returnType := some .boolean }, accessFlags := 9, code := some k1c1 }
/-- com/example/sensebid/sensebid/mechanism/CoverRowSumPinLaw -/
def k1 : Class := { plain "com/example/sensebid/sensebid/mechanism/CoverRowSumPinLaw" (some 0) with
  accessFlags := 49
  interfaces := #[]
  cf := some (fileOf pool1 17 #[] #[{ accessFlags := 1, nameIndex := 5, descriptorIndex := 6, attributes := #[] }, { accessFlags := 9, nameIndex := 21, descriptorIndex := 22, attributes := #[] }] 49 2 #[] #[])
  fields := #[]
  methods := #[k1m0, k1m1]
  instanceTypes := #[]
  staticTypes := #[]
  resolved := Array.replicate 30 none
  statics := none }

def pool2 : Array CpInfo := pool [(1, .methodref 2 3), (0, .class_ 4), (0, .nameAndType 5 6), (0, u "java/lang/Object"), (0, u "<init>"), (0, u "()V"), (0, .fieldref 8 9), (0, .class_ 10), (0, .nameAndType 11 12), (0, u "com/example/sensebid/sensebid/mechanism/CoverRow"), (0, u "bids"), (0, u "[I"), (0, .fieldref 8 14), (0, .nameAndType 15 16), (0, u "entries"), (0, u "[D"), (0, .fieldref 8 18), (0, .nameAndType 19 20), (0, u "demand"), (0, u "D"), (0, u "inRelaxation"), (0, u "Z"), (0, u "([I[DD)V"), (2, u "sum"), (0, u "([D)D")] 3

def k2c0 : Code := { maxStack := 3, maxLocals := 5, code := prog_8_method_1_code, exceptionTable := #[], attributes := #[] }
def k2m0 : Method := { name := "<init>", desc := "([I[DD)V", sig := { parameters := [(.array .int), (.array .double), .double], returnType := none }, accessFlags := 0, code := some k2c0 }
def k2c1 : Code := { maxStack := 7, maxLocals := 5, code := prog_8_method_2_code, exceptionTable := #[], attributes := #[] }
def k2m1 : Method := { name := "sum", desc := "([D)D", sig := { parameters := [(.array .double)], returnType := some .double }, accessFlags := 0, code := some k2c1 }
/-- com/example/sensebid/sensebid/mechanism/CoverRow -/
def k2 : Class := { plain "com/example/sensebid/sensebid/mechanism/CoverRow" (some 0) with
  accessFlags := 48
  interfaces := #[]
  cf := some (fileOf pool2 8 #[] #[{ accessFlags := 0, nameIndex := 5, descriptorIndex := 23, attributes := #[] }, { accessFlags := 0, nameIndex := 26, descriptorIndex := 27, attributes := #[] }] 48 2 #[] #[{ accessFlags := 16, nameIndex := 11, descriptorIndex := 12, attributes := #[] }, { accessFlags := 16, nameIndex := 15, descriptorIndex := 16, attributes := #[] }, { accessFlags := 16, nameIndex := 19, descriptorIndex := 20, attributes := #[] }, { accessFlags := 0, nameIndex := 21, descriptorIndex := 22, attributes := #[] }])
  fields := #[{ name := "bids", type := (.array .int), accessFlags := 16, slot := 0, constantValue := 0 }, { name := "entries", type := (.array .double), accessFlags := 16, slot := 1, constantValue := 0 }, { name := "demand", type := .double, accessFlags := 16, slot := 2, constantValue := 0 }, { name := "inRelaxation", type := .boolean, accessFlags := 0, slot := 3, constantValue := 0 }]
  methods := #[k2m0, k2m1]
  instanceTypes := #[(.array .int), (.array .double), .double, .boolean]
  staticTypes := #[]
  resolved := Array.replicate 31 none
  statics := none }

def pool3 : Array CpInfo := pool [(1, u "java/lang/Cloneable"), (0, .class_ 1), (0, u "java/lang/Object"), (0, .class_ 3)] 3

/-- java/lang/Cloneable -/
def k3 : Class := { plain "java/lang/Cloneable" (some 0) with
  accessFlags := 1537
  interfaces := #[]
  cf := some (fileOf pool3 2 #[] #[] 1537 4 #[] #[])
  fields := #[]
  methods := #[]
  instanceTypes := #[]
  staticTypes := #[]
  resolved := Array.replicate 8 none
  statics := none }

def pool4 : Array CpInfo := pool [(1, u "java/io/Serializable"), (0, .class_ 1), (0, u "java/lang/Object"), (0, .class_ 3)] 3

/-- java/io/Serializable -/
def k4 : Class := { plain "java/io/Serializable" (some 0) with
  accessFlags := 1537
  interfaces := #[]
  cf := some (fileOf pool4 2 #[] #[] 1537 4 #[] #[])
  fields := #[]
  methods := #[]
  instanceTypes := #[]
  staticTypes := #[]
  resolved := Array.replicate 8 none
  statics := none }

/-- the primitive byte -/
def k5 : Class := { plain "byte" none with kind := .primitive 'B', accessFlags := 0x411 }
/-- [B -/
def k6 : Class := { plain "[B" (some 0) with kind := .array 5 .byte, interfaces := #[3, 4], accessFlags := 1041 }

/-- the primitive double -/
def k7 : Class := { plain "double" none with kind := .primitive 'D', accessFlags := 0x411 }
/-- [D -/
def k8 : Class := { plain "[D" (some 0) with kind := .array 7 .double, interfaces := #[3, 4], accessFlags := 1041 }

/-- the primitive int -/
def k9 : Class := { plain "int" none with kind := .primitive 'I', accessFlags := 0x411 }
/-- [I -/
def k10 : Class := { plain "[I" (some 0) with kind := .array 9 .int, interfaces := #[3, 4], accessFlags := 1041 }

def heap : Heap := #[]
def classes : Array Class := #[k0, k1, k2, k3, k4, k5, k6, k7, k8, k9, k10]
def interned : List (Array UInt16 × Addr) := []
def slotsUsed : Nat := 0
def theMethod : MethodId := ⟨1, 1⟩
def args0 : Array Value := #[.int 5, .int 6, .int 7, .int 8]
def aboutOver (below : List Frame) : State where
  vm := { classes := classes, interned := interned.toArray }
  heap := heap
  slotsUsed := slotsUsed
  threads := #[{ frames := .invoking theMethod args0 :: below }]
def below0 : List Frame := [.native { method := ⟨0, 0⟩, args := #[] }]
def about1 : State := aboutOver below0
def p0 : Program := .bare "" "" ""
def e0 : Env := launch0.env 0 0 0
theorem w_frames : about1.frames = Frame.invoking theMethod args0 :: below0 := rfl
set_option maxRecDepth 65536 in
theorem w_args : argsFit about1.vm theMethod args0 = true := by decide +kernel
set_option maxRecDepth 65536 in
theorem w_heap : heapFits about1 = true := by decide +kernel
set_option maxRecDepth 65536 in
theorem w_runnable : about1.curStatus? = some .runnable := by decide +kernel
set_option maxRecDepth 65536 in
theorem w_alone : about1.alone = true := by decide +kernel
set_option maxRecDepth 65536 in
theorem w_named : about1.methodNamed? x = some theMethod := by decide +kernel
set_option maxRecDepth 65536 in
theorem w_hears : about1.hears theMethod below0 = true := by decide +kernel
set_option maxRecDepth 65536 in
theorem w_ripe : about1.ripe theMethod args0 below0 = true := by decide +kernel
theorem w_running : about1.status = .running := rfl
set_option maxRecDepth 65536 in
theorem w_room : about1.hasRoom e0.platform room_1 = true :=
  launch0.hasRoom_least _ room_1 (by decide +kernel) (by decide +kernel) (by decide +kernel) (by decide +kernel) (by decide +kernel) (by decide +kernel)
theorem allAtoms_all (ts : List Jvm.Cond) (a : Array Jvm.Value) (st : Jvm.State) : (allAtoms ts).before a st = ts.all (fun c => c.before a st) := by
  induction ts with
  | nil => rfl
  | cons c t ih =>
    show (Jvm.Cond.and c (allAtoms t)).before a st = _
    rw [Jvm.Cond.before_and, ih, List.all_cons]
def words1 : List Jvm.Cond := Jvm.Cond.code x code maxLocals ret :: tables_1
/-- a 'code' word, met by the world's own term for the bytes: nothing is compared byte by byte -/
theorem code_word {y : MethodName} {bytes : ByteArray} {mx : Nat} {rt : Option FieldType} {a : Array Value} {s : State} {m : MethodId} {meth : Method} {c : Code} (h1 : s.methodNamed? y = some m) (h2 : s.vm.method? m = some meth) (h3 : meth.code = some c) (h4 : c.code = bytes)
    (h5 : (c.maxLocals == mx && c.exceptionTable.isEmpty && decide (c.maxStack ≤ mostOperands) && decide (meth.sig.returnType = rt) && !meth.locks && decide (parseMethodDescriptor y.desc = some meth.sig)) = true) : (Jvm.Cond.code y bytes mx rt).before a s = true := by
  simp only [Bool.and_eq_true, beq_iff_eq, Bool.not_eq_true', decide_eq_true_eq] at h5
  obtain ⟨⟨⟨⟨⟨g1, g2⟩, g3⟩, g4⟩, g5⟩, g6⟩ := h5
  simp [Cond.before, Cond.holds, Cond.value, h1, h2, h3, h4, g1, g2, g3, g4, g5, g6]
def isCode : Jvm.Cond → Bool
  | .code _ _ _ _ => true
  | _ => false
theorem all_split {L : List Jvm.Cond} {P : Jvm.Cond → Bool} (h1 : L.all (fun c => isCode c || P c) = true) (h2 : ∀ c ∈ L.filter isCode, P c = true) : L.all P = true := by
  refine List.all_eq_true.mpr fun c hc => ?_
  have h := List.all_eq_true.mp h1 c hc
  rcases Bool.eq_false_or_eq_true (isCode c) with hi | hi
  · exact h2 c (List.mem_filter.mpr ⟨hc, hi⟩)
  · simpa [hi] using h
set_option maxRecDepth 65536 in
theorem w_c0 : (Jvm.Cond.code x code maxLocals ret).before args0 about1 = true := code_word (m := ⟨1, 1⟩) (meth := k1m1) (c := k1c1) (by decide +kernel) rfl rfl rfl (by decide +kernel)
set_option maxRecDepth 65536 in
theorem w_c1 : (Jvm.Cond.code ({ cls := "com/example/sensebid/sensebid/mechanism/CoverRow", name := "<init>", desc := "([I[DD)V" } : Jvm.MethodName) prog_8_method_1_code (5 : Nat) (Option.none : Option Jvm.ClassFile.FieldType)).before args0 about1 = true := code_word (m := ⟨2, 0⟩) (meth := k2m0) (c := k2c0) (by decide +kernel) rfl rfl rfl (by decide +kernel)
set_option maxRecDepth 65536 in
theorem w_c2 : (Jvm.Cond.code ({ cls := "java/lang/Object", name := "<init>", desc := "()V" } : Jvm.MethodName) object_method_1_code (1 : Nat) (Option.none : Option Jvm.ClassFile.FieldType)).before args0 about1 = true := code_word (m := ⟨0, 0⟩) (meth := k0m0) (c := k0c0) (by decide +kernel) rfl rfl rfl (by decide +kernel)
set_option maxRecDepth 65536 in
theorem w_c3 : (Jvm.Cond.code ({ cls := "com/example/sensebid/sensebid/mechanism/CoverRow", name := "sum", desc := "([D)D" } : Jvm.MethodName) prog_8_method_2_code (5 : Nat) (Option.some Jvm.ClassFile.FieldType.double)).before args0 about1 = true := code_word (m := ⟨2, 1⟩) (meth := k2m1) (c := k2c1) (by decide +kernel) rfl rfl rfl (by decide +kernel)
def codes1 : List Jvm.Cond := [Jvm.Cond.code x code maxLocals ret, Jvm.Cond.code ({ cls := "com/example/sensebid/sensebid/mechanism/CoverRow", name := "<init>", desc := "([I[DD)V" } : Jvm.MethodName) prog_8_method_1_code (5 : Nat) (Option.none : Option Jvm.ClassFile.FieldType), Jvm.Cond.code ({ cls := "java/lang/Object", name := "<init>", desc := "()V" } : Jvm.MethodName) object_method_1_code (1 : Nat) (Option.none : Option Jvm.ClassFile.FieldType), Jvm.Cond.code ({ cls := "com/example/sensebid/sensebid/mechanism/CoverRow", name := "sum", desc := "([D)D" } : Jvm.MethodName) prog_8_method_2_code (5 : Nat) (Option.some Jvm.ClassFile.FieldType.double)]
set_option maxRecDepth 65536 in
theorem codes_eq : words1.filter isCode = codes1 := rfl
theorem w_codes : ∀ c ∈ words1.filter isCode, c.before args0 about1 = true := by
  rw [codes_eq]
  intro c hc
  simp only [codes1, List.mem_cons, List.not_mem_nil, or_false] at hc
  rcases hc with rfl | rfl | rfl | rfl
  · exact w_c0
  · exact w_c1
  · exact w_c2
  · exact w_c3
set_option maxRecDepth 65536 in
theorem w_t1 : words1.all (fun c => isCode c || c.before args0 about1) = true := by decide +kernel
theorem w_tables : (allAtoms (Jvm.Cond.code x code maxLocals ret :: tables_1)).before args0 about1 = true := by
  rw [allAtoms_all]
  show words1.all (fun c => c.before args0 about1) = true
  refine all_split ?_ w_codes
  rw [w_t1]
set_option maxRecDepth 65536 in
theorem w_case : (Jvm.Cond.and given_1 narrow_1).before args0 about1 = true := by decide +kernel
theorem w_applies : (headSpec (Jvm.Cond.code x code maxLocals ret :: tables_1) room_1).applies x e0.platform about1 = true :=
  (Spec.applies_iff w_frames).mpr ⟨w_running, w_runnable, w_alone, w_named, w_hears, w_ripe, w_room, w_tables⟩
theorem atStart : AtStart classFile x code maxLocals ret World_1 tables_1 room_1 Calls_1 rest_1 Pre_1 launch0 p0 e0 about1 theMethod args0 below0 :=
  ⟨lists_1, trivial, launch0.admits_env _ _ _, launch0.least_env, fairChoices_fair.cas, fairChoices_fair.clock, w_frames, w_args, w_heap, w_applies, trivial, trivial, w_case⟩
end start1
theorem witness_1 : WitnessClaimed_1 := ⟨start1.p0, start1.e0, start1.about1, start1.theMethod, start1.args0, start1.below0, start1.atStart⟩
end Jvm.Pilot.@@N@@
