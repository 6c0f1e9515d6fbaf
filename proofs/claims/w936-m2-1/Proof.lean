import JvmDerived
import JvmDerived.Pilot.@@N@@Statement
import JvmDerived.Pilot.@@N@@Code
set_option linter.unusedVariables false
set_option linter.unusedSimpArgs false
namespace Jvm.Pilot.@@N@@
open Jvm Jvm.ClassFile Sem Op Lib Jvm.Free Jvm.Stand Jvm.LawKit Jvm.RoadKit Bundle Jvm.Free.Fl Jvm.Pilot.@@N@@.Jvm.D
theorem own_go {tb : Tables} {e : Env} {below : List Frame} {A B : State} {F : State → Outcome → Prop} (h : ∀ t, Steps tb e below A t → Steps tb e below B t) (k : ∃ s₂ o, Steps tb e below A s₂ ∧ F s₂ o) : ∃ s₂ o, Steps tb e below B s₂ ∧ F s₂ o := by
  obtain ⟨s₂, o, h1, h2⟩ := k
  exact ⟨s₂, o, h _ h1, h2⟩
theorem own_open {tb : Tables} {e : Env} {below : List Frame} {B : State} {F : State → Outcome → Prop} (h : ∀ G : State → Prop, (∀ A B, (∀ t, Steps tb e below A t → Steps tb e below B t) → G A → G B) → (∀ A, (∃ s₂ o, Steps tb e below A s₂ ∧ F s₂ o) → G A) → G B) : ∃ s₂ o, Steps tb e below B s₂ ∧ F s₂ o :=
  h (fun A => ∃ s₂ o, Steps tb e below A s₂ ∧ F s₂ o) (fun _ _ => own_go) (fun _ k => k)
/-! ### an array by its length and the value at each place -/
def own_A (Z : State) (h : Heap) (a : Addr) (ty : FieldType) (n : Nat) (f : Nat → Value) : Prop := ∃ cl : Cell, Arr Z h a cl ty ∧ cl.slots.size = n ∧ ∀ j, j < n → cl.slots[j]? = some (f j)
theorem own_A_lt {Z : State} {h : Heap} {a : Addr} {ty : FieldType} {n : Nat} {f : Nat → Value} (F : own_A Z h a ty n f) : a < h.size := by obtain ⟨_, A, -⟩ := F; exact A.lt
theorem own_A_ext {Z : State} {h h' : Heap} {a : Addr} {ty : FieldType} {n : Nat} {f : Nat → Value} (F : own_A Z h a ty n f) (E : Ext h h') : own_A Z h' a ty n f := by obtain ⟨c, A, r⟩ := F; exact ⟨c, A.ext E, r⟩
theorem own_A_other {Z : State} {h h' : Heap} {a b : Addr} {sl : Nat} {v : Value} {ty : FieldType} {n : Nat} {f : Nat → Value} (F : own_A Z h b ty n f) (W : Wr h h' a sl v) (q : b ≠ a) : own_A Z h' b ty n f := by obtain ⟨c, A, r⟩ := F; exact ⟨c, A.other W q, r⟩
theorem own_A_keep {Z : State} {h h' : Heap} {a : Addr} {ws : List Addr} {ty : FieldType} {n : Nat} {f : Nat → Value} (F : own_A Z h a ty n f) (K : Keep h h' ws) (q : a ∉ ws) : own_A Z h' a ty n f := by obtain ⟨c, A, r⟩ := F; exact ⟨c, ⟨K.2.1 a c A.1 q, A.2⟩, r⟩
theorem own_A_new {Z : State} {h : Heap} {a : Addr} {k : ClassId} {ty : FieldType} {z : Int32} {n : Nat} (A : Arr Z h a (newA k ty z) ty) (hz : z.toNatClampNeg = n) : own_A Z h a ty n (fun _ => defaultValue ty) :=
  ⟨_, A, (sz_new _ _ _).trans hz, fun j hj => by
    subst hz
    simp [newA, hj]⟩
theorem own_A_congr {Z : State} {h : Heap} {a : Addr} {ty : FieldType} {n : Nat} {f g : Nat → Value} (F : own_A Z h a ty n f) (q : ∀ j, j < n → f j = g j) : own_A Z h a ty n g := by
  obtain ⟨c, A, S, H⟩ := F
  exact ⟨c, A, S, fun j hj => by rw [← q j hj]; exact H j hj⟩
theorem own_A_set {Z : State} {h h' : Heap} {a : Addr} {cl : Cell} {ty : FieldType} {n : Nat} {f : Nat → Value} {i : Nat} {v : Value} (A : Arr Z h a cl ty) (S : cl.slots.size = n) (H : ∀ j, j < n → cl.slots[j]? = some (f j)) (W : Wr h h' a i v) (hi : i < n) : own_A Z h' a ty n (fun j => if j = i then v else f j) := by
  refine ⟨_, A.same W, (sz_set _ _ _).trans S, fun j hj => ?_⟩
  show (cl.slots.setIfInBounds i v)[j]? = some (if j = i then v else f j)
  by_cases q : j = i
  · subst q
    rw [if_pos rfl, Array.getElem?_setIfInBounds_self_of_lt (by omega)]
  · rw [if_neg q, Array.getElem?_setIfInBounds_ne (Ne.symm q)]
    exact H j hj
theorem own_hin {cl : Cell} {n : Nat} {j : Int32} (S : cl.slots.size = n) (h0 : ¬ j < 0) (h1 : j.toNatClampNeg < n) : ¬ (j < 0 ∨ cl.slots.size ≤ j.toNatClampNeg) := fun q => q.elim h0 (fun r => by omega)
theorem own_cps {G A : Prop} (h1 : A → G) (h2 : A) : G := h1 h2
theorem own_setf {α : Type} (c : α → Value) (g : Nat → α) (z : α) (i n : Nat) : ∀ j, j < n → (if j = i then c (g i) else c (if j < i then g j else z)) = c (if j < i + 1 then g j else z) := by
  intro j _
  by_cases h : j = i
  · subst h
    rw [if_pos rfl, if_pos (by omega)]
  · rw [if_neg h]
    by_cases h2 : j < i
    · rw [if_pos h2, if_pos (by omega)]
    · rw [if_neg h2, if_neg (by omega)]
theorem own_full {α : Type} (c : α → Value) (g : Nat → α) (z : α) (n : Nat) : ∀ j, j < n → c (if j < n then g j else z) = c (g j) := fun j hj => by rw [if_pos hj]
theorem own_zero {α : Type} (c : α → Value) (g : Nat → α) (z : α) (n : Nat) : ∀ j, j < n → c z = c (if j < 0 then g j else z) := fun j _ => by rw [if_neg (Nat.not_lt_zero j)]
abbrev own_one : UInt64 := 4607182418800017408
theorem own_one_fin : Fin64 own_one := by unfold Fin64; decide
theorem own_nz {v : Int32} (h : v ≠ 0) : Nz64 (FP.i2d v) := nz64_core.mpr (fun q => FP.Core.i2d_ne_zero h ((FP.Core.zero_bits2 _).mp q))
theorem own_nq {v : Int32} (h : ¬ v = 0) : NoNaN64 (FP.ddiv own_one (FP.i2d v)) := ddiv_out own_one_fin.noNaN (i2d_fin v) (own_nz h)
theorem own_n32 {k : Nat} (h : k ≤ 6) : (Int32.ofNat k).toNatClampNeg = k := XT.n32 (by omega)
theorem own_nn {k : Nat} (h : k ≤ 6) : ¬ Int32.ofNat k < 0 := XT.nlt32 (a := k) (b := 0) (by omega) (by omega)
theorem own_i1 {i : Nat} (h : i ≤ 6) : ¬ Int32.ofNat i + (1 : Int32) = 0 := by
  rw [XT.succ32]
  exact XT.nz32 (by omega) (by omega)
theorem own_ltn {n : Nat} (hn : n ≤ 6) {k : Int32} (h0 : ¬ k < 0) (h : k < Int32.ofNat n) : k.toNatClampNeg < n := by
  have h1 := nat_of h0
  have h2 := nat_of (own_nn hn)
  rw [own_n32 hn] at h2
  rw [Int32.lt_iff_toInt_lt] at h
  omega
theorem own_gen {n : Nat} (hn : n ≤ 6) {k : Int32} (h0 : ¬ k < 0) (h : ¬ k < Int32.ofNat n) : n ≤ k.toNatClampNeg := by
  have h1 := nat_of h0
  have h2 := nat_of (own_nn hn)
  rw [own_n32 hn] at h2
  rw [Int32.lt_iff_toInt_lt] at h
  omega
/-- the length: n from 0 to 6 -/
theorem own_len (p : Int32) : ∃ n : Nat, n ≤ 6 ∧ (p &&& (2147483647 : Int32)) % (7 : Int32) = Int32.ofNat n := by
  have h1 := c_and p 2147483647 (by decide)
  have h2 := (c_irem (p &&& 2147483647) 7 7 rfl).1 h1.1
  refine ⟨((p &&& (2147483647 : Int32)) % (7 : Int32)).toInt.toNat, by omega, ?_⟩
  rw [← Int32.toInt_inj, Int32.toInt_ofNat_of_lt (by omega)]
  omega
/-- the j-th bit of p, as the law reads it -/
def own_bit (p : Int32) : Nat → Int32
  | 0 => if (p &&& (1 : Int32)) = (0 : Int32) then 0 else 1
  | 1 => if (p &&& (2 : Int32)) = (0 : Int32) then 0 else 1
  | 2 => if (p &&& (4 : Int32)) = (0 : Int32) then 0 else 1
  | 3 => if (p &&& (8 : Int32)) = (0 : Int32) then 0 else 1
  | 4 => if (p &&& (16 : Int32)) = (0 : Int32) then 0 else 1
  | 5 => if (p &&& (32 : Int32)) = (0 : Int32) then 0 else 1
  | _ => 0
theorem own_bit01 (p : Int32) (j : Nat) : own_bit p j = 0 ∨ own_bit p j = 1 := by
  unfold own_bit
  split <;> first | (split <;> simp) | simp
theorem own_nar (p : Int32) (j : Nat) : nar .boolean (own_bit p j) = own_bit p j := by
  rcases own_bit01 p j with h | h <;> rw [h] <;> rfl
theorem own_setbit (p : Int32) (i n : Nat) : ∀ j, j < n → (if j = i then Value.int (nar .boolean (own_bit p i)) else Value.int (if j < i then own_bit p j else 0)) = Value.int (if j < i + 1 then own_bit p j else 0) := by
  intro j _
  by_cases h : j = i
  · subst h
    rw [if_pos rfl, own_nar, if_pos (by omega)]
  · rw [if_neg h]
    by_cases h2 : j < i
    · rw [if_pos h2, if_pos (by omega)]
    · rw [if_neg h2, if_neg (by omega)]
theorem own_skip (p : Int32) {i n : Nat} (hi : n ≤ i) : ∀ j, j < n → Value.int (if j < i then own_bit p j else 0) = Value.int (if j < i + 1 then own_bit p j else 0) := by
  intro j hj
  rw [if_pos (by omega), if_pos (by omega)]
/-- what reciprocalRank returns on n flags f -/
def own_hit (f : Nat → Int32) (n : Nat) (d : UInt64) : Prop := (d = 0 ∧ ∀ j, j < n → f j = 0) ∨ ∃ k, k < n ∧ f k ≠ 0 ∧ (∀ j, j < k → f j = 0) ∧ d = FP.ddiv own_one (FP.i2d (Int32.ofNat k + (1 : Int32)))
/-- what the law reckons: the first set flag's number -/
def own_fst (f : Nat → Int32) (n : Nat) (fi : Int32) : Prop := (fi = 0 ∧ ∀ j, j < n → f j = 0) ∨ ∃ k, k < n ∧ f k ≠ 0 ∧ (∀ j, j < k → f j = 0) ∧ fi = Int32.ofNat k + (1 : Int32)
theorem own_same {f : Nat → Int32} {n : Nat} {d : UInt64} {fi : Int32} (hn : n ≤ 6) (h1 : own_hit f n d) (h2 : own_fst f n fi) : d = (if fi = (0 : Int32) then (0 : UInt64) else (FP.ddiv (4607182418800017408 : UInt64) (FP.i2d fi))) := by
  rcases h1 with ⟨rfl, h1⟩ | ⟨k, hk, hk1, hk2, rfl⟩
  · rcases h2 with ⟨rfl, -⟩ | ⟨j, hj, hj1, -⟩
    · rfl
    · exact absurd (h1 j hj) hj1
  · rcases h2 with ⟨-, h2⟩ | ⟨j, hj, hj1, hj2, rfl⟩
    · exact absurd (h2 k hk) hk1
    · have e : k = j := by
        rcases Nat.lt_trichotomy k j with q | q | q
        · exact absurd (hj2 k q) hk1
        · exact q
        · exact absurd (hk2 j q) hj1
      subst e
      rw [if_neg (own_i1 (by omega))]
theorem own_expn (fi : Int32) : NoNaN64 (if fi = (0 : Int32) then (0 : UInt64) else (FP.ddiv (4607182418800017408 : UInt64) (FP.i2d fi))) := by
  by_cases h : fi = 0
  · rw [if_pos h]; unfold NoNaN64; decide
  · rw [if_neg h]; exact own_nq h
theorem ef_1 (m : MethodId) (x0 : Addr) (x1 : Addr) (x2 : Int32) : entryFrame m #[(.ref x0), (.ref x1), (.int x2)] 3 = mkF m 0 #[.val (.ref x0), .val (.ref x1), .val (.int x2)] [] := by first | (simp [entryFrame, mkF, argsToLocals, Value.category]; done) | rfl
theorem pn_com_example_vervet_vervet_core_RankedTopic : plainName "com/example/vervet/vervet/core/RankedTopic" = true := by first | (simp [plainName, overriddenIn]; done) | decide +kernel
theorem d1_0 : decode prog_33_method_1_code 0 = .ok (.aload_n 0, 1) := by decide +kernel
theorem d1_1 : decode prog_33_method_1_code 1 = .ok (.invokespecial 1, 3) := by decide +kernel
theorem d1_4 : decode prog_33_method_1_code 4 = .ok (.aload_n 0, 1) := by decide +kernel
theorem d1_5 : decode prog_33_method_1_code 5 = .ok (.aload_n 1, 1) := by decide +kernel
theorem d1_6 : decode prog_33_method_1_code 6 = .ok (.putfield 7, 3) := by decide +kernel
theorem d1_9 : decode prog_33_method_1_code 9 = .ok (.aload_n 0, 1) := by decide +kernel
theorem d1_10 : decode prog_33_method_1_code 10 = .ok (.iload_n 2, 1) := by decide +kernel
theorem d1_11 : decode prog_33_method_1_code 11 = .ok (.putfield 13, 3) := by decide +kernel
theorem d1_14 : decode prog_33_method_1_code 14 = .ok (.return_, 1) := by decide +kernel
theorem ef_3 (m : MethodId) (x0 : Addr) : entryFrame m #[(.ref x0)] 2 = mkF m 0 #[.val (.ref x0), .unset] [] := by first | (simp [entryFrame, mkF, argsToLocals, Value.category]; done) | rfl
theorem d3_0 : decode prog_33_method_6_code 0 = .ok (.iconst 0, 1) := by decide +kernel
theorem d3_1 : decode prog_33_method_6_code 1 = .ok (.istore_n 1, 1) := by decide +kernel
theorem d3_2 : decode prog_33_method_6_code 2 = .ok (.iload_n 1, 1) := by decide +kernel
theorem d3_3 : decode prog_33_method_6_code 3 = .ok (.aload_n 0, 1) := by decide +kernel
theorem d3_4 : decode prog_33_method_6_code 4 = .ok (.getfield 7, 3) := by decide +kernel
theorem d3_7 : decode prog_33_method_6_code 7 = .ok (.arraylength, 1) := by decide +kernel
theorem d3_8 : decode prog_33_method_6_code 8 = .ok (.if_icmp .ge 25, 3) := by decide +kernel
theorem d3_33 : decode prog_33_method_6_code 33 = .ok (.dconst 0, 1) := by decide +kernel
theorem d3_34 : decode prog_33_method_6_code 34 = .ok (.dreturn, 1) := by decide +kernel
theorem d3_11 : decode prog_33_method_6_code 11 = .ok (.aload_n 0, 1) := by decide +kernel
theorem d3_12 : decode prog_33_method_6_code 12 = .ok (.getfield 7, 3) := by decide +kernel
theorem d3_15 : decode prog_33_method_6_code 15 = .ok (.iload_n 1, 1) := by decide +kernel
theorem d3_16 : decode prog_33_method_6_code 16 = .ok (.baload, 1) := by decide +kernel
theorem d3_17 : decode prog_33_method_6_code 17 = .ok (.ifCond .eq 10, 3) := by decide +kernel
theorem d3_27 : decode prog_33_method_6_code 27 = .ok (.iinc 1 1, 3) := by decide +kernel
theorem d3_30 : decode prog_33_method_6_code 30 = .ok (.goto (-28), 3) := by decide +kernel
theorem d3_20 : decode prog_33_method_6_code 20 = .ok (.dconst 1, 1) := by decide +kernel
theorem d3_21 : decode prog_33_method_6_code 21 = .ok (.iload_n 1, 1) := by decide +kernel
theorem d3_22 : decode prog_33_method_6_code 22 = .ok (.iconst 1, 1) := by decide +kernel
theorem d3_23 : decode prog_33_method_6_code 23 = .ok (.iadd, 1) := by decide +kernel
theorem d3_24 : decode prog_33_method_6_code 24 = .ok (.i2d, 1) := by decide +kernel
theorem d3_25 : decode prog_33_method_6_code 25 = .ok (.ddiv, 1) := by decide +kernel
theorem d3_26 : decode prog_33_method_6_code 26 = .ok (.dreturn, 1) := by decide +kernel
theorem ef_0 (m : MethodId) (x0 : Int32) (x1 : Int32) (x2 : Int32) : entryFrame m #[(.int x0), (.int x1), (.int x2)] maxLocals = mkF m 0 #[.val (.int x0), .val (.int x1), .val (.int x2), .unset, .unset, .unset, .unset, .unset, .unset, .unset, .unset] [] := by first | (simp [entryFrame, mkF, argsToLocals, Value.category, maxLocals]; done) | rfl
theorem pn_com_example_vervet_vervet_core_RankedTopicReciprocalRankPinLaw : plainName "com/example/vervet/vervet/core/RankedTopicReciprocalRankPinLaw" = true := by first | (simp [plainName, overriddenIn]; done) | decide +kernel
theorem pd__28_5bZI_29V : parseMethodDescriptor "([ZI)V" = some ⟨[(.array .boolean), .int], none⟩ := by decide +kernel
theorem pd__28_29D : parseMethodDescriptor "()D" = some ⟨[], some .double⟩ := by decide +kernel
def Q1 (Z : State) (a1 a2 : Addr) (p3 : Int32) (h0 : Heap) (n0 : Nat) (v : Option Value) (h : Heap) (L : List Loc) : Prop := v = none ∧ Fr n0 L ∧ Keep h0 h [a1] ∧ Exa Z h a1 "com/example/vervet/vervet/core/RankedTopic" ∧ Fld Z h a1 "com/example/vervet/vervet/core/RankedTopic" "relevant" "[Z" (.ref a2) ∧ Fld Z h a1 "com/example/vervet/vervet/core/RankedTopic" "relevantCount" "I" (.int p3)
set_option maxRecDepth 65536 in
set_option maxHeartbeats 40000000 in
theorem rm1 (l : Launch) (Z : State) (a0 : Array Value) (hw : ∀ d ∈ tables_1, d.before a0 Z = true) (ws : List Jvm.Cond) (a1 : Addr) (a2 : Addr) (p3 : Int32)  (h0 : Heap) (n0 : Nat) (Z0 : n0 ≤ h0.size) (E_a1 : Exa Z h0 a1 "com/example/vervet/vervet/core/RankedTopic") (F1 : Fld Z h0 a1 "com/example/vervet/vervet/core/RankedTopic" "relevant" "[Z" .null) (F2 : Fld Z h0 a1 "com/example/vervet/vervet/core/RankedTopic" "relevantCount" "I" (.int (0 : Int32))) (g_a1 : n0 ≤ a1) :
    MetFree l (⟨"com/example/vervet/vervet/core/RankedTopic", "<init>", "([ZI)V"⟩ : MethodName) (head1 (Jvm.Cond.code (⟨"com/example/vervet/vervet/core/RankedTopic", "<init>", "([ZI)V"⟩ : MethodName) prog_33_method_1_code 3 none :: ws) ({ frames := 1, cells := 0, slots := 0, locals := 12 } : Room)) (fun a U => a = #[(.ref a1), (.ref a2), (.int p3)] ∧ Z.Warmed39 U.vm ∧ U.heap = h0) (fun _ _ _ _ _ => True) (fun _ U o U' => ∃ v L, o = .returned v ∧ Q1 Z a1 a2 p3 h0 n0 v U'.heap L ∧ FrameEnd U o U' L ({ frames := 1, cells := 0, slots := 0, locals := 12 } : Room).cells ({ frames := 1, cells := 0, slots := 0, locals := 12 } : Room).slots) := by
  refine MetFree.of_bodySF (plainFor_of_name pn_com_example_vervet_vervet_core_RankedTopic) hisR ?_
  intro p e s m args below meth c s₁ Bd hml0 hP hK
  obtain ⟨rfl, hZ, hh⟩ := hP
  have hx := Bd.exec
  have hby := Bd.bytes
  have hml : c.maxLocals = 3 := hml0
  have hown : s.vm.findClass "com/example/vervet/vervet/core/RankedTopic" = some m.cls := findClass_of_methodNamed Bd.named
  have hnm := (name_of_methodNamed Bd.named Bd.method).1
  have X0 : Stand p l e ({ frames := 1, cells := 0, slots := 0, locals := 12 } : Room) s m #[(.ref a1), (.ref a2), (.int p3)] below meth c s₁ [] 0 0 := Stand.of_body Bd
  have e0 : s₁.heap = h0 := by rw [← hh, Bd.state]; rfl
  have N0 := Fr.nil n0
  refine own_open (fun G go fin => ?_)
  refine go (s₁.setTop (mkF m 0 #[.val (.ref a1), .val (.ref a2), .val (.int p3)] [])) _ (fun t9 k9 => castTop (ef_1 m a1 a2 p3) k9) ?_
  refine go (s₁.setTop (mkF m 1 #[.val (.ref a1), .val (.ref a2), .val (.int p3)] [(.ref a1)])) _ (fun t9 k9 => ?_) ?_
  · show Steps p.tables e below (s₁.setTop (mkF m 0 #[.val (.ref a1), .val (.ref a2), .val (.int p3)] [])) _
    refine XS.aloadN X0.here hx rfl (hb hby d1_0) rfl rfl ?_
    exact k9
  obtain ⟨T1, X1, e1, st1⟩ := initO X0 hx hZ hown (hw _ (List.mem_of_getElem? (i := 8) rfl)) (hw _ (List.mem_of_getElem? (i := 9) rfl)) (hw _ (List.mem_of_getElem? (i := 10) rfl)) e0 (g := (mkF m 1 #[.val (.ref a1), .val (.ref a2), .val (.int p3)] [(.ref a1)])) rfl (by rw [hml]; rfl) rfl (hb hby d1_1) (by decide) (W := 0) (by show 2 * 0 + _ ≤ _; exact Nat.le_of_eq rfl) (by decide)
  refine go (T1.setTop (mkF m 4 #[.val (.ref a1), .val (.ref a2), .val (.int p3)] [])) _ (fun t9 k9 => st1 _ k9) ?_
  refine go (T1.setTop (mkF m 6 #[.val (.ref a1), .val (.ref a2), .val (.int p3)] [(.ref a2), (.ref a1)])) _ (fun t9 k9 => ?_) ?_
  · show Steps p.tables e below (T1.setTop (mkF m 4 #[.val (.ref a1), .val (.ref a2), .val (.int p3)] [])) _
    refine XS.aloadN X1.here hx rfl (hb hby d1_4) rfl rfl ?_
    show Steps p.tables e below (T1.setTop (mkF m 5 #[.val (.ref a1), .val (.ref a2), .val (.int p3)] [(.ref a1)])) _
    refine XS.aloadN X1.here hx rfl (hb hby d1_5) rfl rfl ?_
    exact k9
  obtain ⟨T2, h2, X2, e2, W2, st2⟩ := putF X1 hx hZ hown (host := "") (Or.inl (hw _ (List.mem_of_getElem? (i := 11) rfl))) Via.refl e1 F1 E_a1 (Or.inr ⟨(hw _ (List.mem_of_getElem? (i := 12) rfl)), rfl, hnm⟩) (hw _ (List.mem_of_getElem? (i := 3) rfl)) (ty := (.array .boolean)) (by decide) rfl rfl (g := (mkF m 6 #[.val (.ref a1), .val (.ref a2), .val (.int p3)] [(.ref a2), (.ref a1)])) rfl rfl (hb hby d1_6)
  have N2 := Fr.snoc X2 N0 g_a1
  refine go (T2.setTop (mkF m 9 #[.val (.ref a1), .val (.ref a2), .val (.int p3)] [])) _ (fun t9 k9 => st2 _ k9) ?_
  have u3 : Exa Z h2 a1 "com/example/vervet/vervet/core/RankedTopic" := E_a1.wr W2
  have u4 : Fld Z h2 a1 "com/example/vervet/vervet/core/RankedTopic" "relevant" "[Z" (.ref a2) := F1.same W2
  have u5 : Fld Z h2 a1 "com/example/vervet/vervet/core/RankedTopic" "relevantCount" "I" (.int (0 : Int32)) := F2.other W2 (Or.inr (slot_ne (Or.inr (hw _ (List.mem_of_getElem? (i := 14) rfl))) (Or.inr (hw _ (List.mem_of_getElem? (i := 12) rfl))) (by decide) (t := .int) (t' := (.array .boolean)) (by decide) (by decide)))
  have u6 : Keep h0 h2 [a1] := (Keep.refl h0 [a1]).wr W2 (Or.inl (List.mem_of_getElem? (i := 0) rfl))
  refine go (T2.setTop (mkF m 11 #[.val (.ref a1), .val (.ref a2), .val (.int p3)] [(.int p3), (.ref a1)])) _ (fun t9 k9 => ?_) ?_
  · show Steps p.tables e below (T2.setTop (mkF m 9 #[.val (.ref a1), .val (.ref a2), .val (.int p3)] [])) _
    refine XS.aloadN X2.here hx rfl (hb hby d1_9) rfl rfl ?_
    show Steps p.tables e below (T2.setTop (mkF m 10 #[.val (.ref a1), .val (.ref a2), .val (.int p3)] [(.ref a1)])) _
    refine XS.iloadN X2.here hx rfl (hb hby d1_10) rfl ?_
    exact k9
  obtain ⟨T7, h7, X7, e7, W7, st7⟩ := putF X2 hx hZ hown (host := "") (Or.inl (hw _ (List.mem_of_getElem? (i := 13) rfl))) Via.refl e2 u5 u3 (Or.inr ⟨(hw _ (List.mem_of_getElem? (i := 14) rfl)), rfl, hnm⟩) (hw _ (List.mem_of_getElem? (i := 3) rfl)) (ty := .int) (by decide) rfl rfl (g := (mkF m 11 #[.val (.ref a1), .val (.ref a2), .val (.int p3)] [(.int p3), (.ref a1)])) rfl rfl (hb hby d1_11)
  have N7 := Fr.snoc X7 N2 g_a1
  refine go (T7.setTop (mkF m 14 #[.val (.ref a1), .val (.ref a2), .val (.int p3)] [])) _ (fun t9 k9 => st7 _ k9) ?_
  have u8 : Exa Z h7 a1 "com/example/vervet/vervet/core/RankedTopic" := u3.wr W7
  have u9 : Fld Z h7 a1 "com/example/vervet/vervet/core/RankedTopic" "relevant" "[Z" (.ref a2) := u4.other W7 (Or.inr (slot_ne (Or.inr (hw _ (List.mem_of_getElem? (i := 12) rfl))) (Or.inr (hw _ (List.mem_of_getElem? (i := 14) rfl))) (by decide) (t := (.array .boolean)) (t' := .int) (by decide) (by decide)))
  have u10 : Fld Z h7 a1 "com/example/vervet/vervet/core/RankedTopic" "relevantCount" "I" (.int p3) := u5.same W7
  have u11 : Keep h0 h7 [a1] := u6.wr W7 (Or.inl (List.mem_of_getElem? (i := 0) rfl))
  obtain ⟨fs, hr, hrun, hended, hW, hsame⟩ := X7.leave (v := none) (fun h => by rfl)
  refine fin _ ⟨_, _, X7.returnOut hx Bd.returns (hb hby d1_14) hr, hrun, hended, _, _, rfl, ?_, ⟨_, rfl⟩, hW, hsame.mono (by decide) (by decide)⟩
  show Q1 Z a1 a2 p3 h0 n0 _ T7.heap _
  rw [e7]
  exact ⟨rfl, N7, u11, u8, u9, u10⟩
def Q3 (Z : State) (f : Nat → Int32) (n : Nat) (h0 : Heap) (n0 : Nat) (v : Option Value) (h : Heap) (L : List Loc) : Prop := (∃ d, v = some (.double d) ∧ own_hit f n d) ∧ Fr n0 L ∧ h = h0
set_option maxRecDepth 65536 in
set_option maxHeartbeats 40000000 in
theorem rm3 (l : Launch) (Z : State) (a0 : Array Value) (hw : ∀ d ∈ tables_1, d.before a0 Z = true) (ws : List Jvm.Cond) (a1 : Addr) (b : Addr) (f : Nat → Int32) (n : Nat) (hn : n ≤ 6) (h0 : Heap) (n0 : Nat) (Z0 : n0 ≤ h0.size) (F1 : Fld Z h0 a1 "com/example/vervet/vervet/core/RankedTopic" "relevant" "[Z" (.ref b)) (V1 : own_A Z h0 b .boolean n (fun j => .int (f j))) :
    MetFree l (⟨"com/example/vervet/vervet/core/RankedTopic", "reciprocalRank", "()D"⟩ : MethodName) (head1 (Jvm.Cond.code (⟨"com/example/vervet/vervet/core/RankedTopic", "reciprocalRank", "()D"⟩ : MethodName) prog_33_method_6_code 2 (some .double) :: ws) ({ frames := 0, cells := 0, slots := 0, locals := 0 } : Room)) (fun a U => a = #[(.ref a1)] ∧ Z.Warmed39 U.vm ∧ U.heap = h0) (fun _ _ _ _ _ => True) (fun _ U o U' => ∃ v L, o = .returned v ∧ Q3 Z f n h0 n0 v U'.heap L ∧ FrameEnd U o U' L ({ frames := 0, cells := 0, slots := 0, locals := 0 } : Room).cells ({ frames := 0, cells := 0, slots := 0, locals := 0 } : Room).slots) := by
  refine MetFree.of_bodySF (plainFor_of_name pn_com_example_vervet_vervet_core_RankedTopic) hisR ?_
  intro p e s m args below meth c s₁ Bd hml0 hP hK
  obtain ⟨rfl, hZ, hh⟩ := hP
  have hx := Bd.exec
  have hby := Bd.bytes
  have hml : c.maxLocals = 2 := hml0
  have hown : s.vm.findClass "com/example/vervet/vervet/core/RankedTopic" = some m.cls := findClass_of_methodNamed Bd.named
  have hnm := (name_of_methodNamed Bd.named Bd.method).1
  have X0 : Stand p l e ({ frames := 0, cells := 0, slots := 0, locals := 0 } : Room) s m #[(.ref a1)] below meth c s₁ [] 0 0 := Stand.of_body Bd
  have e0 : s₁.heap = h0 := by rw [← hh, Bd.state]; rfl
  have N0 := Fr.nil n0
  refine own_open (fun G go fin => ?_)
  refine go (s₁.setTop (mkF m 0 #[.val (.ref a1), .unset] [])) _ (fun t9 k9 => castTop (ef_3 m a1) k9) ?_
  refine go (s₁.setTop (mkF m 2 #[.val (.ref a1), .val (.int (0 : Int32))] [])) _ (fun t9 k9 => ?_) ?_
  · show Steps p.tables e below (s₁.setTop (mkF m 0 #[.val (.ref a1), .unset] [])) _
    refine XS.iconst X0.here hx rfl (hb hby d3_0) ?_
    show Steps p.tables e below (s₁.setTop (mkF m 1 #[.val (.ref a1), .unset] [(.int (0 : Int32))])) _
    refine XS.istoreN X0.here hx rfl (hb hby d3_1) rfl (l' := #[.val (.ref a1), .val (.int (0 : Int32))]) rfl ?_
    exact k9
  have loop : ∀ (k i : Nat) (T1 : State) (X1 : Stand p l e ({ frames := 0, cells := 0, slots := 0, locals := 0 } : Room) s m #[(.ref a1)] below meth c T1 [] 0 0) (e1 : T1.heap = h0), i + k = n → (∀ j, j < i → f j = 0) → G (T1.setTop (mkF m 2 #[.val (.ref a1), .val (.int (Int32.ofNat i))] [])) := by
    intro k
    induction k with
    | zero =>
      intro i T1 X1 e1 hi hz
      obtain rfl : i = n := by omega
      refine go (T1.setTop (mkF m 4 #[.val (.ref a1), .val (.int (Int32.ofNat i))] [(.ref a1), (.int (Int32.ofNat i))])) _ (fun t9 k9 => ?_) ?_
      · show Steps p.tables e below (T1.setTop (mkF m 2 #[.val (.ref a1), .val (.int (Int32.ofNat i))] [])) _
        refine XS.iloadN X1.here hx rfl (hb hby d3_2) rfl ?_
        show Steps p.tables e below (T1.setTop (mkF m 3 #[.val (.ref a1), .val (.int (Int32.ofNat i))] [(.int (Int32.ofNat i))])) _
        refine XS.aloadN X1.here hx rfl (hb hby d3_3) rfl rfl ?_
        exact k9
      obtain ⟨T12, X12, e12, st12⟩ := getF X1 hx hZ hown (host := "") (Or.inl (hw _ (List.mem_of_getElem? (i := 11) rfl))) Via.refl e1 F1 (g := (mkF m 4 #[.val (.ref a1), .val (.int (Int32.ofNat i))] [(.ref a1), (.int (Int32.ofNat i))])) rfl rfl (hb hby d3_4)
      refine go (T12.setTop (mkF m 7 #[.val (.ref a1), .val (.int (Int32.ofNat i))] [(.ref b), (.int (Int32.ofNat i))])) _ (fun t9 k9 => st12 _ k9) ?_
      obtain ⟨cl13, Ar13, Sz13, Hv13⟩ := V1
      have u14 : own_A Z h0 b .boolean i (fun j => .int (f j)) := ⟨cl13, Ar13, Sz13, Hv13⟩
      refine go (T12.setTop (mkF m 34 #[.val (.ref a1), .val (.int (Int32.ofNat i))] [(.double (0 : UInt64))])) _ (fun t9 k9 => ?_) ?_
      · show Steps p.tables e below (T12.setTop (mkF m 7 #[.val (.ref a1), .val (.int (Int32.ofNat i))] [(.ref b), (.int (Int32.ofNat i))])) _
        refine X12.arraylength hx (by rw [e12]; exact Ar13.1) (State.isArrayOf_alike hZ.alike Ar13.2.1) (g := (mkF m 7 #[.val (.ref a1), .val (.int (Int32.ofNat i))] [(.ref b), (.int (Int32.ofNat i))])) rfl (rest := [(.int (Int32.ofNat i))]) rfl (hb hby d3_7) _ ?_
        rw [len_of (Sz13.trans (own_n32 (by omega : i ≤ 6)).symm) (own_nn (by omega))]
        show Steps p.tables e below (T12.setTop (mkF m 8 #[.val (.ref a1), .val (.int (Int32.ofNat i))] [(.int (Int32.ofNat i)), (.int (Int32.ofNat i))])) _
        refine XS.icmpYes X12.here hx rfl (pc0 := 8) (pc' := 33) rfl (hb hby d3_8) rfl (flt (Int32.lt_irrefl : ¬ Int32.ofNat i < Int32.ofNat i)).2.1 (by decide) (by decide) ?_
        show Steps p.tables e below (T12.setTop (mkF m 33 #[.val (.ref a1), .val (.int (Int32.ofNat i))] [])) _
        refine XS.dconst0 X12.here hx rfl (hb hby d3_33) rfl ?_
        exact k9
      obtain ⟨fs, hr, hrun, hended, hW, hsame⟩ := X12.leave (v := some (.double (0 : UInt64))) (fun h => by rw [Bd.returns] at h; cases h)
      refine fin _ ⟨_, _, retOut X12 hx (t := .double) Bd.returns rfl (Or.inr (Or.inr (Or.inl ⟨rfl, rfl, _, rfl⟩))) (hb hby d3_34) hr, hrun, hended, _, _, rfl, ?_, ⟨_, rfl⟩, hW, hsame.mono (by decide) (by decide)⟩
      show Q3 Z f i h0 n0 _ T12.heap _
      rw [e12]
      exact ⟨⟨_, rfl, Or.inl ⟨rfl, hz⟩⟩, N0, rfl⟩
    | succ k ih =>
      intro i T1 X1 e1 hi hz
      refine go (T1.setTop (mkF m 4 #[.val (.ref a1), .val (.int (Int32.ofNat i))] [(.ref a1), (.int (Int32.ofNat i))])) _ (fun t9 k9 => ?_) ?_
      · show Steps p.tables e below (T1.setTop (mkF m 2 #[.val (.ref a1), .val (.int (Int32.ofNat i))] [])) _
        refine XS.iloadN X1.here hx rfl (hb hby d3_2) rfl ?_
        show Steps p.tables e below (T1.setTop (mkF m 3 #[.val (.ref a1), .val (.int (Int32.ofNat i))] [(.int (Int32.ofNat i))])) _
        refine XS.aloadN X1.here hx rfl (hb hby d3_3) rfl rfl ?_
        exact k9
      obtain ⟨T15, X15, e15, st15⟩ := getF X1 hx hZ hown (host := "") (Or.inl (hw _ (List.mem_of_getElem? (i := 11) rfl))) Via.refl e1 F1 (g := (mkF m 4 #[.val (.ref a1), .val (.int (Int32.ofNat i))] [(.ref a1), (.int (Int32.ofNat i))])) rfl rfl (hb hby d3_4)
      refine go (T15.setTop (mkF m 7 #[.val (.ref a1), .val (.int (Int32.ofNat i))] [(.ref b), (.int (Int32.ofNat i))])) _ (fun t9 k9 => st15 _ k9) ?_
      obtain ⟨cl16, Ar16, Sz16, Hv16⟩ := V1
      have u17 : own_A Z h0 b .boolean n (fun j => .int (f j)) := ⟨cl16, Ar16, Sz16, Hv16⟩
      refine go (T15.setTop (mkF m 12 #[.val (.ref a1), .val (.int (Int32.ofNat i))] [(.ref a1)])) _ (fun t9 k9 => ?_) ?_
      · show Steps p.tables e below (T15.setTop (mkF m 7 #[.val (.ref a1), .val (.int (Int32.ofNat i))] [(.ref b), (.int (Int32.ofNat i))])) _
        refine X15.arraylength hx (by rw [e15]; exact Ar16.1) (State.isArrayOf_alike hZ.alike Ar16.2.1) (g := (mkF m 7 #[.val (.ref a1), .val (.int (Int32.ofNat i))] [(.ref b), (.int (Int32.ofNat i))])) rfl (rest := [(.int (Int32.ofNat i))]) rfl (hb hby d3_7) _ ?_
        rw [len_of (Sz16.trans (own_n32 (by omega : n ≤ 6)).symm) (own_nn (by omega))]
        show Steps p.tables e below (T15.setTop (mkF m 8 #[.val (.ref a1), .val (.int (Int32.ofNat i))] [(.int (Int32.ofNat n)), (.int (Int32.ofNat i))])) _
        refine XS.icmpNo X15.here hx rfl (hb hby d3_8) rfl (tlt (XT.lt32 (by omega) (by omega) : Int32.ofNat i < Int32.ofNat n)).2.1 ?_
        show Steps p.tables e below (T15.setTop (mkF m 11 #[.val (.ref a1), .val (.int (Int32.ofNat i))] [])) _
        refine XS.aloadN X15.here hx rfl (hb hby d3_11) rfl rfl ?_
        exact k9
      obtain ⟨T18, X18, e18, st18⟩ := getF X15 hx hZ hown (host := "") (Or.inl (hw _ (List.mem_of_getElem? (i := 11) rfl))) Via.refl e15 F1 (g := (mkF m 12 #[.val (.ref a1), .val (.int (Int32.ofNat i))] [(.ref a1)])) rfl rfl (hb hby d3_12)
      refine go (T18.setTop (mkF m 15 #[.val (.ref a1), .val (.int (Int32.ofNat i))] [(.ref b)])) _ (fun t9 k9 => st18 _ k9) ?_
      refine go (T18.setTop (mkF m 16 #[.val (.ref a1), .val (.int (Int32.ofNat i))] [(.int (Int32.ofNat i)), (.ref b)])) _ (fun t9 k9 => ?_) ?_
      · show Steps p.tables e below (T18.setTop (mkF m 15 #[.val (.ref a1), .val (.int (Int32.ofNat i))] [(.ref b)])) _
        refine XS.iloadN X18.here hx rfl (hb hby d3_15) rfl ?_
        exact k9
      obtain ⟨cl19, Ar19, Sz19, Hv19⟩ := u17
      have u20 : own_A Z h0 b .boolean n (fun j => .int (f j)) := ⟨cl19, Ar19, Sz19, Hv19⟩
      refine go (T18.setTop (mkF m 17 #[.val (.ref a1), .val (.int (Int32.ofNat i))] [(.int (f i))])) _ (fun t9 k9 => ?_) ?_
      · show Steps p.tables e below (T18.setTop (mkF m 16 #[.val (.ref a1), .val (.int (Int32.ofNat i))] [(.int (Int32.ofNat i)), (.ref b)])) _
        refine X18.baloadBooleans hx (j := (Int32.ofNat i)) (v := (.int (f i))) (by rw [e18]; exact Ar19.1) (State.isArrayOf_alike hZ.alike Ar19.2.1) Ar19.2.2 (own_hin Sz19 (own_nn (by omega)) (show (Int32.ofNat i).toNatClampNeg < n by rw [own_n32 (by omega)]; omega)) ((Hv19 _ (show (Int32.ofNat i).toNatClampNeg < n by rw [own_n32 (by omega)]; omega)).trans (congrArg some (congrArg (fun j => Value.int (f j)) (own_n32 (by omega))))) (g := (mkF m 16 #[.val (.ref a1), .val (.int (Int32.ofNat i))] [(.int (Int32.ofNat i)), (.ref b)])) rfl rfl (hb hby d3_16) _ ?_
        exact k9
      by_cases h17 : (f i) = (0 : Int32)
      · refine go (T18.setTop (mkF m 2 #[.val (.ref a1), .val (.int ((Int32.ofNat i) + (1 : Int32)))] [])) _ (fun t9 k9 => ?_) ?_
        · show Steps p.tables e below (T18.setTop (mkF m 17 #[.val (.ref a1), .val (.int (Int32.ofNat i))] [(.int (f i))])) _
          refine XS.ifYes X18.here hx rfl (pc0 := 17) (pc' := 27) rfl (hb hby d3_17) rfl ((if0 _ _).trans (teq h17).1) (by decide) (by decide) ?_
          show Steps p.tables e below (T18.setTop (mkF m 27 #[.val (.ref a1), .val (.int (Int32.ofNat i))] [])) _
          refine XS.iinc X18.here hx rfl (hb hby d3_27) rfl (l' := #[.val (.ref a1), .val (.int ((Int32.ofNat i) + (1 : Int32)))]) rfl ?_
          show Steps p.tables e below (T18.setTop (mkF m 30 #[.val (.ref a1), .val (.int ((Int32.ofNat i) + (1 : Int32)))] [])) _
          refine XS.goto X18.here hx rfl (pc0 := 30) (pc' := 2) rfl (hb hby d3_30) (by decide) (by decide) ?_
          exact k9
        rw [XT.succ32]
        exact ih (i + 1) T18 X18 e18 (by omega) (fun j hj => by
          by_cases q : j < i
          · exact hz j q
          · obtain rfl : j = i := by omega
            exact h17)
      · refine go (T18.setTop (mkF m 26 #[.val (.ref a1), .val (.int (Int32.ofNat i))] [(.double (FP.ddiv (4607182418800017408 : UInt64) (FP.i2d ((Int32.ofNat i) + (1 : Int32)))))])) _ (fun t9 k9 => ?_) ?_
        · show Steps p.tables e below (T18.setTop (mkF m 17 #[.val (.ref a1), .val (.int (Int32.ofNat i))] [(.int (f i))])) _
          refine XS.ifNo X18.here hx rfl (hb hby d3_17) rfl ((if0 _ _).trans (feq h17).1) ?_
          show Steps p.tables e below (T18.setTop (mkF m 20 #[.val (.ref a1), .val (.int (Int32.ofNat i))] [])) _
          refine XS.dconst1 X18.here hx rfl (hb hby d3_20) rfl ?_
          show Steps p.tables e below (T18.setTop (mkF m 21 #[.val (.ref a1), .val (.int (Int32.ofNat i))] [(.double (4607182418800017408 : UInt64))])) _
          refine XS.iloadN X18.here hx rfl (hb hby d3_21) rfl ?_
          show Steps p.tables e below (T18.setTop (mkF m 22 #[.val (.ref a1), .val (.int (Int32.ofNat i))] [(.int (Int32.ofNat i)), (.double (4607182418800017408 : UInt64))])) _
          refine XS.iconst X18.here hx rfl (hb hby d3_22) ?_
          show Steps p.tables e below (T18.setTop (mkF m 23 #[.val (.ref a1), .val (.int (Int32.ofNat i))] [(.int (1 : Int32)), (.int (Int32.ofNat i)), (.double (4607182418800017408 : UInt64))])) _
          refine XS.iadd X18.here hx rfl (hb hby d3_23) rfl ?_
          show Steps p.tables e below (T18.setTop (mkF m 24 #[.val (.ref a1), .val (.int (Int32.ofNat i))] [(.int ((Int32.ofNat i) + (1 : Int32))), (.double (4607182418800017408 : UInt64))])) _
          refine XS.i2dS X18.here hx rfl (hb hby d3_24) rfl rfl ?_
          show Steps p.tables e below (T18.setTop (mkF m 25 #[.val (.ref a1), .val (.int (Int32.ofNat i))] [(.double (FP.i2d ((Int32.ofNat i) + (1 : Int32)))), (.double (4607182418800017408 : UInt64))])) _
          refine XS.ddivS X18.here hx rfl (hb hby d3_25) rfl (own_nq (own_i1 (by omega))) rfl ?_
          exact k9
        obtain ⟨fs, hr, hrun, hended, hW, hsame⟩ := X18.leave (v := some (.double (FP.ddiv (4607182418800017408 : UInt64) (FP.i2d ((Int32.ofNat i) + (1 : Int32)))))) (fun h => by rw [Bd.returns] at h; cases h)
        refine fin _ ⟨_, _, retOut X18 hx (t := .double) Bd.returns rfl (Or.inr (Or.inr (Or.inl ⟨rfl, rfl, _, rfl⟩))) (hb hby d3_26) hr, hrun, hended, _, _, rfl, ?_, ⟨_, rfl⟩, hW, hsame.mono (by decide) (by decide)⟩
        show Q3 Z f n h0 n0 _ T18.heap _
        rw [e18]
        exact ⟨⟨_, rfl, Or.inr ⟨i, by omega, h17, hz, rfl⟩⟩, N0, rfl⟩
  exact loop n 0 s₁ X0 e0 (by omega) (fun j hj => absurd hj (Nat.not_lt_zero _))
def Q0 (Z : State) (p1 p2 p3 : Int32) (h0 : Heap) (n0 : Nat) (v : Option Value) (h : Heap) (L : List Loc) : Prop := v = some (.int 1) ∧ Fr n0 L
set_option maxRecDepth 65536 in
set_option maxHeartbeats 40000000 in
theorem rm0 (l : Launch) (Z : State) (a0 : Array Value) (hw : ∀ d ∈ tables_1, d.before a0 Z = true) (ws : List Jvm.Cond) (p1 : Int32) (p2 : Int32) (p3 : Int32)  (h0 : Heap) (n0 : Nat) (Z0 : n0 ≤ h0.size)  :
    MetFree l x (head1 (Jvm.Cond.code x code maxLocals ret :: ws) room_1) (fun a U => a = #[(.int p1), (.int p2), (.int p3)] ∧ Z.Warmed39 U.vm ∧ U.heap = h0) (fun _ _ _ _ _ => True) (fun _ U o U' => ∃ v L, o = .returned v ∧ Q0 Z p1 p2 p3 h0 n0 v U'.heap L ∧ FrameEnd U o U' L room_1.cells room_1.slots) := by
  refine MetFree.of_bodySF (plainFor_of_name pn_com_example_vervet_vervet_core_RankedTopicReciprocalRankPinLaw) hisR ?_
  intro p e s m args below meth c s₁ Bd hml0 hP hK
  obtain ⟨rfl, hZ, hh⟩ := hP
  have hx := Bd.exec
  have hby := Bd.bytes
  have hml : c.maxLocals = 11 := hml0
  have hown : s.vm.findClass "com/example/vervet/vervet/core/RankedTopicReciprocalRankPinLaw" = some m.cls := findClass_of_methodNamed Bd.named
  have hnm := (name_of_methodNamed Bd.named Bd.method).1
  have X0 : Stand p l e room_1 s m #[(.int p1), (.int p2), (.int p3)] below meth c s₁ [] 0 0 := Stand.of_body Bd
  have e0 : s₁.heap = h0 := by rw [← hh, Bd.state]; rfl
  have N0 := Fr.nil n0
  refine own_open (fun G go fin => ?_)
  refine go (s₁.setTop (mkF m 0 #[.val (.int p1), .val (.int p2), .val (.int p3), .unset, .unset, .unset, .unset, .unset, .unset, .unset, .unset] [])) _ (fun t9 k9 => castTop (ef_0 m p1 p2 p3) k9) ?_
  refine go (s₁.setTop (mkF m 7 #[.val (.int p1), .val (.int p2), .val (.int p3), .unset, .unset, .unset, .unset, .unset, .unset, .unset, .unset] [(.int ((p1 &&& (2147483647 : Int32)) % (7 : Int32)))])) _ (fun t9 k9 => ?_) ?_
  · show Steps p.tables e below (s₁.setTop (mkF m 0 #[.val (.int p1), .val (.int p2), .val (.int p3), .unset, .unset, .unset, .unset, .unset, .unset, .unset, .unset] [])) _
    refine XS.iloadN X0.here hx rfl (hb hby at_0) rfl ?_
    show Steps p.tables e below (s₁.setTop (mkF m 1 #[.val (.int p1), .val (.int p2), .val (.int p3), .unset, .unset, .unset, .unset, .unset, .unset, .unset, .unset] [(.int p1)])) _
    refine X0.ldcInt hx hown (mvT hZ (hw _ (List.mem_of_getElem? (i := 0) rfl))) (g := (mkF m 1 #[.val (.int p1), .val (.int p2), .val (.int p3), .unset, .unset, .unset, .unset, .unset, .unset, .unset, .unset] [(.int p1)])) rfl (hb hby at_1) _ ?_
    show Steps p.tables e below (s₁.setTop (mkF m 3 #[.val (.int p1), .val (.int p2), .val (.int p3), .unset, .unset, .unset, .unset, .unset, .unset, .unset, .unset] [(.int (2147483647 : Int32)), (.int p1)])) _
    refine XS.iand X0.here hx rfl (hb hby at_3) rfl ?_
    show Steps p.tables e below (s₁.setTop (mkF m 4 #[.val (.int p1), .val (.int p2), .val (.int p3), .unset, .unset, .unset, .unset, .unset, .unset, .unset, .unset] [(.int (p1 &&& (2147483647 : Int32)))])) _
    refine XS.bipush X0.here hx rfl (hb hby at_4) ?_
    show Steps p.tables e below (s₁.setTop (mkF m 6 #[.val (.int p1), .val (.int p2), .val (.int p3), .unset, .unset, .unset, .unset, .unset, .unset, .unset, .unset] [(.int (7 : Int32)), (.int (p1 &&& (2147483647 : Int32)))])) _
    refine iremM X0 hx rfl (hb hby at_6) rfl (by decide) ?_
    exact k9
  obtain ⟨n, hn, hnn⟩ := own_len p1
  rw [hnn]
  refine go (s₁.setTop (mkF m 9 #[.val (.int p1), .val (.int p2), .val (.int p3), .val (.int (Int32.ofNat n)), .unset, .unset, .unset, .unset, .unset, .unset, .unset] [(.int (Int32.ofNat n))])) _ (fun t9 k9 => ?_) ?_
  · show Steps p.tables e below (s₁.setTop (mkF m 7 #[.val (.int p1), .val (.int p2), .val (.int p3), .unset, .unset, .unset, .unset, .unset, .unset, .unset, .unset] [(.int (Int32.ofNat n))])) _
    refine XS.istoreN X0.here hx rfl (hb hby at_7) rfl (l' := #[.val (.int p1), .val (.int p2), .val (.int p3), .val (.int (Int32.ofNat n)), .unset, .unset, .unset, .unset, .unset, .unset, .unset]) rfl ?_
    show Steps p.tables e below (s₁.setTop (mkF m 8 #[.val (.int p1), .val (.int p2), .val (.int p3), .val (.int (Int32.ofNat n)), .unset, .unset, .unset, .unset, .unset, .unset, .unset] [])) _
    refine XS.iloadN X0.here hx rfl (hb hby at_8) rfl ?_
    exact k9
  have hz_b0 := own_n32 hn
  obtain ⟨T21, h21, k21, X21, e21, E21, A21, st21⟩ := newP X0 hx hZ (hw _ (List.mem_of_getElem? (i := 1) rfl)) e0 (g := (mkF m 9 #[.val (.int p1), .val (.int p2), .val (.int p3), .val (.int (Int32.ofNat n)), .unset, .unset, .unset, .unset, .unset, .unset, .unset] [(.int (Int32.ofNat n))])) rfl (hb hby at_9) rfl (own_nn hn) (cap := 6) (by rw [own_n32 hn]; exact hn) (by decide) (by decide) (by decide)
  obtain ⟨b0, g21⟩ : ∃ z, z = h0.size := ⟨_, rfl⟩
  rw [← g21] at A21 st21
  refine go (T21.setTop (mkF m 11 #[.val (.int p1), .val (.int p2), .val (.int p3), .val (.int (Int32.ofNat n)), .unset, .unset, .unset, .unset, .unset, .unset, .unset] [(.ref b0)])) _ (fun t9 k9 => st21 _ k9) ?_
  have sz_b0 : h0.size ≤ b0 := Nat.le_trans (Keep.refl h0 []).1 (Nat.le_of_eq g21.symm)
  have g_b0 : n0 ≤ b0 := Nat.le_trans Z0 sz_b0
  have u22 : Keep h0 h21 [] := (Keep.refl h0 []).ext E21
  have u23 : own_A Z h21 b0 .boolean n (fun _ => (.int 0)) := own_A_new A21 hz_b0
  have V0 : own_A Z h21 b0 .boolean n (fun j => .int (if j < 0 then own_bit p2 j else 0)) := own_A_congr u23 (own_zero Value.int (own_bit p2) 0 n)
  refine go (T21.setTop (mkF m 13 #[.val (.int p1), .val (.int p2), .val (.int p3), .val (.int (Int32.ofNat n)), .val (.ref b0), .unset, .unset, .unset, .unset, .unset, .unset] [])) _ (fun t9 k9 => ?_) ?_
  · show Steps p.tables e below (T21.setTop (mkF m 11 #[.val (.int p1), .val (.int p2), .val (.int p3), .val (.int (Int32.ofNat n)), .unset, .unset, .unset, .unset, .unset, .unset, .unset] [(.ref b0)])) _
    refine XS.astore X21.here hx rfl (hb hby at_11) rfl rfl (l' := #[.val (.int p1), .val (.int p2), .val (.int p3), .val (.int (Int32.ofNat n)), .val (.ref b0), .unset, .unset, .unset, .unset, .unset, .unset]) rfl ?_
    exact k9
  refine own_cps (A := ∀ (T1 : State) (h1 : Heap) (L1 : List Loc) (X1 : Stand p l e room_1 s m #[(.int p1), (.int p2), (.int p3)] below meth c T1 L1 1 6) (e1 : T1.heap = h1) (K1 : Keep h0 h1 []) (N1 : Fr n0 L1) (V1 : own_A Z h1 b0 .boolean n (fun j => .int (if j < 1 then own_bit p2 j else 0))), G (T1.setTop (mkF m 32 #[.val (.int p1), .val (.int p2), .val (.int p3), .val (.int (Int32.ofNat n)), .val (.ref b0), .unset, .unset, .unset, .unset, .unset, .unset] []))) (fun j0 => ?_) ?_
  · refine go (T21.setTop (mkF m 14 #[.val (.int p1), .val (.int p2), .val (.int p3), .val (.int (Int32.ofNat n)), .val (.ref b0), .unset, .unset, .unset, .unset, .unset, .unset] [(.int (Int32.ofNat n))])) _ (fun t9 k9 => ?_) ?_
    · show Steps p.tables e below (T21.setTop (mkF m 13 #[.val (.int p1), .val (.int p2), .val (.int p3), .val (.int (Int32.ofNat n)), .val (.ref b0), .unset, .unset, .unset, .unset, .unset, .unset] [])) _
      refine XS.iloadN X21.here hx rfl (hb hby at_13) rfl ?_
      exact k9
    by_cases hc0 : (0 : Int32) < (Int32.ofNat n)
    · refine go (T21.setTop (mkF m 23 #[.val (.int p1), .val (.int p2), .val (.int p3), .val (.int (Int32.ofNat n)), .val (.ref b0), .unset, .unset, .unset, .unset, .unset, .unset] [(.int (p2 &&& (1 : Int32))), (.int (0 : Int32)), (.ref b0)])) _ (fun t9 k9 => ?_) ?_
      · show Steps p.tables e below (T21.setTop (mkF m 14 #[.val (.int p1), .val (.int p2), .val (.int p3), .val (.int (Int32.ofNat n)), .val (.ref b0), .unset, .unset, .unset, .unset, .unset, .unset] [(.int (Int32.ofNat n))])) _
        refine XS.ifNo X21.here hx rfl (hb hby at_14) rfl ((if0 _ _).trans (tlt hc0).2.2.2) ?_
        show Steps p.tables e below (T21.setTop (mkF m 17 #[.val (.int p1), .val (.int p2), .val (.int p3), .val (.int (Int32.ofNat n)), .val (.ref b0), .unset, .unset, .unset, .unset, .unset, .unset] [])) _
        refine XS.aload X21.here hx rfl (hb hby at_17) rfl rfl ?_
        show Steps p.tables e below (T21.setTop (mkF m 19 #[.val (.int p1), .val (.int p2), .val (.int p3), .val (.int (Int32.ofNat n)), .val (.ref b0), .unset, .unset, .unset, .unset, .unset, .unset] [(.ref b0)])) _
        refine XS.iconst X21.here hx rfl (hb hby at_19) ?_
        show Steps p.tables e below (T21.setTop (mkF m 20 #[.val (.int p1), .val (.int p2), .val (.int p3), .val (.int (Int32.ofNat n)), .val (.ref b0), .unset, .unset, .unset, .unset, .unset, .unset] [(.int (0 : Int32)), (.ref b0)])) _
        refine XS.iloadN X21.here hx rfl (hb hby at_20) rfl ?_
        show Steps p.tables e below (T21.setTop (mkF m 21 #[.val (.int p1), .val (.int p2), .val (.int p3), .val (.int (Int32.ofNat n)), .val (.ref b0), .unset, .unset, .unset, .unset, .unset, .unset] [(.int p2), (.int (0 : Int32)), (.ref b0)])) _
        refine XS.iconst X21.here hx rfl (hb hby at_21) ?_
        show Steps p.tables e below (T21.setTop (mkF m 22 #[.val (.int p1), .val (.int p2), .val (.int p3), .val (.int (Int32.ofNat n)), .val (.ref b0), .unset, .unset, .unset, .unset, .unset, .unset] [(.int (1 : Int32)), (.int p2), (.int (0 : Int32)), (.ref b0)])) _
        refine XS.iand X21.here hx rfl (hb hby at_22) rfl ?_
        exact k9
      refine go (T21.setTop (mkF m 31 #[.val (.int p1), .val (.int p2), .val (.int p3), .val (.int (Int32.ofNat n)), .val (.ref b0), .unset, .unset, .unset, .unset, .unset, .unset] [(.int (if (p2 &&& (1 : Int32)) = (0 : Int32) then (0 : Int32) else (1 : Int32))), (.int (0 : Int32)), (.ref b0)])) _ (fun t9 k9 => ?_) ?_
      · by_cases h23_1 : (p2 &&& (1 : Int32)) = (0 : Int32)
        · try (simp only [if_pos h23_1] at k9)
          show Steps p.tables e below (T21.setTop (mkF m 23 #[.val (.int p1), .val (.int p2), .val (.int p3), .val (.int (Int32.ofNat n)), .val (.ref b0), .unset, .unset, .unset, .unset, .unset, .unset] [(.int (p2 &&& (1 : Int32))), (.int (0 : Int32)), (.ref b0)])) _
          refine XS.ifYes X21.here hx rfl (pc0 := 23) (pc' := 30) rfl (hb hby at_23) rfl ((if0 _ _).trans (teq h23_1).1) (by decide) (by decide) ?_
          show Steps p.tables e below (T21.setTop (mkF m 30 #[.val (.int p1), .val (.int p2), .val (.int p3), .val (.int (Int32.ofNat n)), .val (.ref b0), .unset, .unset, .unset, .unset, .unset, .unset] [(.int (0 : Int32)), (.ref b0)])) _
          refine XS.iconst X21.here hx rfl (hb hby at_30) ?_
          exact k9
        · try (simp only [if_neg h23_1] at k9)
          show Steps p.tables e below (T21.setTop (mkF m 23 #[.val (.int p1), .val (.int p2), .val (.int p3), .val (.int (Int32.ofNat n)), .val (.ref b0), .unset, .unset, .unset, .unset, .unset, .unset] [(.int (p2 &&& (1 : Int32))), (.int (0 : Int32)), (.ref b0)])) _
          refine XS.ifNo X21.here hx rfl (hb hby at_23) rfl ((if0 _ _).trans (feq h23_1).1) ?_
          show Steps p.tables e below (T21.setTop (mkF m 26 #[.val (.int p1), .val (.int p2), .val (.int p3), .val (.int (Int32.ofNat n)), .val (.ref b0), .unset, .unset, .unset, .unset, .unset, .unset] [(.int (0 : Int32)), (.ref b0)])) _
          refine XS.iconst X21.here hx rfl (hb hby at_26) ?_
          show Steps p.tables e below (T21.setTop (mkF m 27 #[.val (.int p1), .val (.int p2), .val (.int p3), .val (.int (Int32.ofNat n)), .val (.ref b0), .unset, .unset, .unset, .unset, .unset, .unset] [(.int (1 : Int32)), (.int (0 : Int32)), (.ref b0)])) _
          refine XS.goto X21.here hx rfl (pc0 := 27) (pc' := 31) rfl (hb hby at_27) (by decide) (by decide) ?_
          exact k9
      obtain ⟨cl24, Ar24, Sz24, Hv24⟩ := V0
      have u25 : own_A Z h21 b0 .boolean n (fun j => .int (if j < 0 then own_bit p2 j else 0)) := ⟨cl24, Ar24, Sz24, Hv24⟩
      obtain ⟨T26, h26, X26, e26, W26, st26⟩ := stZ X21 hx hZ e21 Ar24 (j := (0 : Int32)) (own_hin Sz24 (by decide) (own_ltn hn (by decide) hc0)) (g := (mkF m 31 #[.val (.int p1), .val (.int p2), .val (.int p3), .val (.int (Int32.ofNat n)), .val (.ref b0), .unset, .unset, .unset, .unset, .unset, .unset] [(.int (if (p2 &&& (1 : Int32)) = (0 : Int32) then (0 : Int32) else (1 : Int32))), (.int (0 : Int32)), (.ref b0)])) rfl rfl (hb hby at_31)
      have N26 := Fr.snoc X26 N0 g_b0
      refine go (T26.setTop (mkF m 32 #[.val (.int p1), .val (.int p2), .val (.int p3), .val (.int (Int32.ofNat n)), .val (.ref b0), .unset, .unset, .unset, .unset, .unset, .unset] [])) _ (fun t9 k9 => st26 _ k9) ?_
      have u27 : Keep h0 h26 [] := u22.wr W26 (Or.inr sz_b0)
      have u28 : own_A Z h26 b0 .boolean n (fun j => .int (if j < 1 then own_bit p2 j else 0)) := own_A_congr (own_A_set Ar24 Sz24 Hv24 W26 (own_ltn hn (by decide) hc0)) (own_setbit p2 0 n)
      exact j0 _ _ _ X26 e26 u27 N26 u28
    · refine go (T21.setTop (mkF m 32 #[.val (.int p1), .val (.int p2), .val (.int p3), .val (.int (Int32.ofNat n)), .val (.ref b0), .unset, .unset, .unset, .unset, .unset, .unset] [])) _ (fun t9 k9 => ?_) ?_
      · show Steps p.tables e below (T21.setTop (mkF m 14 #[.val (.int p1), .val (.int p2), .val (.int p3), .val (.int (Int32.ofNat n)), .val (.ref b0), .unset, .unset, .unset, .unset, .unset, .unset] [(.int (Int32.ofNat n))])) _
        refine XS.ifYes X21.here hx rfl (pc0 := 14) (pc' := 32) rfl (hb hby at_14) rfl ((if0 _ _).trans (flt hc0).2.2.2) (by decide) (by decide) ?_
        exact k9
      exact j0 _ _ _ X21 e21 u22 N0 (own_A_congr V0 (own_skip p2 (own_gen hn (by decide) hc0)))
  intro T1 h1 L1 X1 e1 K1 N1 V1
  refine own_cps (A := ∀ (T1 : State) (h1 : Heap) (L1 : List Loc) (X1 : Stand p l e room_1 s m #[(.int p1), (.int p2), (.int p3)] below meth c T1 L1 1 6) (e1 : T1.heap = h1) (K1 : Keep h0 h1 []) (N1 : Fr n0 L1) (V1 : own_A Z h1 b0 .boolean n (fun j => .int (if j < 2 then own_bit p2 j else 0))), G (T1.setTop (mkF m 52 #[.val (.int p1), .val (.int p2), .val (.int p3), .val (.int (Int32.ofNat n)), .val (.ref b0), .unset, .unset, .unset, .unset, .unset, .unset] []))) (fun j1 => ?_) ?_
  · refine go (T1.setTop (mkF m 34 #[.val (.int p1), .val (.int p2), .val (.int p3), .val (.int (Int32.ofNat n)), .val (.ref b0), .unset, .unset, .unset, .unset, .unset, .unset] [(.int (1 : Int32)), (.int (Int32.ofNat n))])) _ (fun t9 k9 => ?_) ?_
    · show Steps p.tables e below (T1.setTop (mkF m 32 #[.val (.int p1), .val (.int p2), .val (.int p3), .val (.int (Int32.ofNat n)), .val (.ref b0), .unset, .unset, .unset, .unset, .unset, .unset] [])) _
      refine XS.iloadN X1.here hx rfl (hb hby at_32) rfl ?_
      show Steps p.tables e below (T1.setTop (mkF m 33 #[.val (.int p1), .val (.int p2), .val (.int p3), .val (.int (Int32.ofNat n)), .val (.ref b0), .unset, .unset, .unset, .unset, .unset, .unset] [(.int (Int32.ofNat n))])) _
      refine XS.iconst X1.here hx rfl (hb hby at_33) ?_
      exact k9
    by_cases hc1 : (1 : Int32) < (Int32.ofNat n)
    · refine go (T1.setTop (mkF m 43 #[.val (.int p1), .val (.int p2), .val (.int p3), .val (.int (Int32.ofNat n)), .val (.ref b0), .unset, .unset, .unset, .unset, .unset, .unset] [(.int (p2 &&& (2 : Int32))), (.int (1 : Int32)), (.ref b0)])) _ (fun t9 k9 => ?_) ?_
      · show Steps p.tables e below (T1.setTop (mkF m 34 #[.val (.int p1), .val (.int p2), .val (.int p3), .val (.int (Int32.ofNat n)), .val (.ref b0), .unset, .unset, .unset, .unset, .unset, .unset] [(.int (1 : Int32)), (.int (Int32.ofNat n))])) _
        refine XS.icmpNo X1.here hx rfl (hb hby at_34) rfl (tlt hc1).2.2.2 ?_
        show Steps p.tables e below (T1.setTop (mkF m 37 #[.val (.int p1), .val (.int p2), .val (.int p3), .val (.int (Int32.ofNat n)), .val (.ref b0), .unset, .unset, .unset, .unset, .unset, .unset] [])) _
        refine XS.aload X1.here hx rfl (hb hby at_37) rfl rfl ?_
        show Steps p.tables e below (T1.setTop (mkF m 39 #[.val (.int p1), .val (.int p2), .val (.int p3), .val (.int (Int32.ofNat n)), .val (.ref b0), .unset, .unset, .unset, .unset, .unset, .unset] [(.ref b0)])) _
        refine XS.iconst X1.here hx rfl (hb hby at_39) ?_
        show Steps p.tables e below (T1.setTop (mkF m 40 #[.val (.int p1), .val (.int p2), .val (.int p3), .val (.int (Int32.ofNat n)), .val (.ref b0), .unset, .unset, .unset, .unset, .unset, .unset] [(.int (1 : Int32)), (.ref b0)])) _
        refine XS.iloadN X1.here hx rfl (hb hby at_40) rfl ?_
        show Steps p.tables e below (T1.setTop (mkF m 41 #[.val (.int p1), .val (.int p2), .val (.int p3), .val (.int (Int32.ofNat n)), .val (.ref b0), .unset, .unset, .unset, .unset, .unset, .unset] [(.int p2), (.int (1 : Int32)), (.ref b0)])) _
        refine XS.iconst X1.here hx rfl (hb hby at_41) ?_
        show Steps p.tables e below (T1.setTop (mkF m 42 #[.val (.int p1), .val (.int p2), .val (.int p3), .val (.int (Int32.ofNat n)), .val (.ref b0), .unset, .unset, .unset, .unset, .unset, .unset] [(.int (2 : Int32)), (.int p2), (.int (1 : Int32)), (.ref b0)])) _
        refine XS.iand X1.here hx rfl (hb hby at_42) rfl ?_
        exact k9
      refine go (T1.setTop (mkF m 51 #[.val (.int p1), .val (.int p2), .val (.int p3), .val (.int (Int32.ofNat n)), .val (.ref b0), .unset, .unset, .unset, .unset, .unset, .unset] [(.int (if (p2 &&& (2 : Int32)) = (0 : Int32) then (0 : Int32) else (1 : Int32))), (.int (1 : Int32)), (.ref b0)])) _ (fun t9 k9 => ?_) ?_
      · by_cases h43_1 : (p2 &&& (2 : Int32)) = (0 : Int32)
        · try (simp only [if_pos h43_1] at k9)
          show Steps p.tables e below (T1.setTop (mkF m 43 #[.val (.int p1), .val (.int p2), .val (.int p3), .val (.int (Int32.ofNat n)), .val (.ref b0), .unset, .unset, .unset, .unset, .unset, .unset] [(.int (p2 &&& (2 : Int32))), (.int (1 : Int32)), (.ref b0)])) _
          refine XS.ifYes X1.here hx rfl (pc0 := 43) (pc' := 50) rfl (hb hby at_43) rfl ((if0 _ _).trans (teq h43_1).1) (by decide) (by decide) ?_
          show Steps p.tables e below (T1.setTop (mkF m 50 #[.val (.int p1), .val (.int p2), .val (.int p3), .val (.int (Int32.ofNat n)), .val (.ref b0), .unset, .unset, .unset, .unset, .unset, .unset] [(.int (1 : Int32)), (.ref b0)])) _
          refine XS.iconst X1.here hx rfl (hb hby at_50) ?_
          exact k9
        · try (simp only [if_neg h43_1] at k9)
          show Steps p.tables e below (T1.setTop (mkF m 43 #[.val (.int p1), .val (.int p2), .val (.int p3), .val (.int (Int32.ofNat n)), .val (.ref b0), .unset, .unset, .unset, .unset, .unset, .unset] [(.int (p2 &&& (2 : Int32))), (.int (1 : Int32)), (.ref b0)])) _
          refine XS.ifNo X1.here hx rfl (hb hby at_43) rfl ((if0 _ _).trans (feq h43_1).1) ?_
          show Steps p.tables e below (T1.setTop (mkF m 46 #[.val (.int p1), .val (.int p2), .val (.int p3), .val (.int (Int32.ofNat n)), .val (.ref b0), .unset, .unset, .unset, .unset, .unset, .unset] [(.int (1 : Int32)), (.ref b0)])) _
          refine XS.iconst X1.here hx rfl (hb hby at_46) ?_
          show Steps p.tables e below (T1.setTop (mkF m 47 #[.val (.int p1), .val (.int p2), .val (.int p3), .val (.int (Int32.ofNat n)), .val (.ref b0), .unset, .unset, .unset, .unset, .unset, .unset] [(.int (1 : Int32)), (.int (1 : Int32)), (.ref b0)])) _
          refine XS.goto X1.here hx rfl (pc0 := 47) (pc' := 51) rfl (hb hby at_47) (by decide) (by decide) ?_
          exact k9
      obtain ⟨cl29, Ar29, Sz29, Hv29⟩ := V1
      have u30 : own_A Z h1 b0 .boolean n (fun j => .int (if j < 1 then own_bit p2 j else 0)) := ⟨cl29, Ar29, Sz29, Hv29⟩
      obtain ⟨T31, h31, X31, e31, W31, st31⟩ := stZ X1 hx hZ e1 Ar29 (j := (1 : Int32)) (own_hin Sz29 (by decide) (own_ltn hn (by decide) hc1)) (g := (mkF m 51 #[.val (.int p1), .val (.int p2), .val (.int p3), .val (.int (Int32.ofNat n)), .val (.ref b0), .unset, .unset, .unset, .unset, .unset, .unset] [(.int (if (p2 &&& (2 : Int32)) = (0 : Int32) then (0 : Int32) else (1 : Int32))), (.int (1 : Int32)), (.ref b0)])) rfl rfl (hb hby at_51)
      have N31 := Fr.snoc X31 N1 g_b0
      refine go (T31.setTop (mkF m 52 #[.val (.int p1), .val (.int p2), .val (.int p3), .val (.int (Int32.ofNat n)), .val (.ref b0), .unset, .unset, .unset, .unset, .unset, .unset] [])) _ (fun t9 k9 => st31 _ k9) ?_
      have u32 : Keep h0 h31 [] := K1.wr W31 (Or.inr sz_b0)
      have u33 : own_A Z h31 b0 .boolean n (fun j => .int (if j < 2 then own_bit p2 j else 0)) := own_A_congr (own_A_set Ar29 Sz29 Hv29 W31 (own_ltn hn (by decide) hc1)) (own_setbit p2 1 n)
      exact j1 _ _ _ X31 e31 u32 N31 u33
    · refine go (T1.setTop (mkF m 52 #[.val (.int p1), .val (.int p2), .val (.int p3), .val (.int (Int32.ofNat n)), .val (.ref b0), .unset, .unset, .unset, .unset, .unset, .unset] [])) _ (fun t9 k9 => ?_) ?_
      · show Steps p.tables e below (T1.setTop (mkF m 34 #[.val (.int p1), .val (.int p2), .val (.int p3), .val (.int (Int32.ofNat n)), .val (.ref b0), .unset, .unset, .unset, .unset, .unset, .unset] [(.int (1 : Int32)), (.int (Int32.ofNat n))])) _
        refine XS.icmpYes X1.here hx rfl (pc0 := 34) (pc' := 52) rfl (hb hby at_34) rfl (flt hc1).2.2.2 (by decide) (by decide) ?_
        exact k9
      exact j1 _ _ _ X1 e1 K1 N1 (own_A_congr V1 (own_skip p2 (own_gen hn (by decide) hc1)))
  intro T1 h1 L1 X1 e1 K1 N1 V1
  refine own_cps (A := ∀ (T1 : State) (h1 : Heap) (L1 : List Loc) (X1 : Stand p l e room_1 s m #[(.int p1), (.int p2), (.int p3)] below meth c T1 L1 1 6) (e1 : T1.heap = h1) (K1 : Keep h0 h1 []) (N1 : Fr n0 L1) (V1 : own_A Z h1 b0 .boolean n (fun j => .int (if j < 3 then own_bit p2 j else 0))), G (T1.setTop (mkF m 72 #[.val (.int p1), .val (.int p2), .val (.int p3), .val (.int (Int32.ofNat n)), .val (.ref b0), .unset, .unset, .unset, .unset, .unset, .unset] []))) (fun j2 => ?_) ?_
  · refine go (T1.setTop (mkF m 54 #[.val (.int p1), .val (.int p2), .val (.int p3), .val (.int (Int32.ofNat n)), .val (.ref b0), .unset, .unset, .unset, .unset, .unset, .unset] [(.int (2 : Int32)), (.int (Int32.ofNat n))])) _ (fun t9 k9 => ?_) ?_
    · show Steps p.tables e below (T1.setTop (mkF m 52 #[.val (.int p1), .val (.int p2), .val (.int p3), .val (.int (Int32.ofNat n)), .val (.ref b0), .unset, .unset, .unset, .unset, .unset, .unset] [])) _
      refine XS.iloadN X1.here hx rfl (hb hby at_52) rfl ?_
      show Steps p.tables e below (T1.setTop (mkF m 53 #[.val (.int p1), .val (.int p2), .val (.int p3), .val (.int (Int32.ofNat n)), .val (.ref b0), .unset, .unset, .unset, .unset, .unset, .unset] [(.int (Int32.ofNat n))])) _
      refine XS.iconst X1.here hx rfl (hb hby at_53) ?_
      exact k9
    by_cases hc2 : (2 : Int32) < (Int32.ofNat n)
    · refine go (T1.setTop (mkF m 63 #[.val (.int p1), .val (.int p2), .val (.int p3), .val (.int (Int32.ofNat n)), .val (.ref b0), .unset, .unset, .unset, .unset, .unset, .unset] [(.int (p2 &&& (4 : Int32))), (.int (2 : Int32)), (.ref b0)])) _ (fun t9 k9 => ?_) ?_
      · show Steps p.tables e below (T1.setTop (mkF m 54 #[.val (.int p1), .val (.int p2), .val (.int p3), .val (.int (Int32.ofNat n)), .val (.ref b0), .unset, .unset, .unset, .unset, .unset, .unset] [(.int (2 : Int32)), (.int (Int32.ofNat n))])) _
        refine XS.icmpNo X1.here hx rfl (hb hby at_54) rfl (tlt hc2).2.2.2 ?_
        show Steps p.tables e below (T1.setTop (mkF m 57 #[.val (.int p1), .val (.int p2), .val (.int p3), .val (.int (Int32.ofNat n)), .val (.ref b0), .unset, .unset, .unset, .unset, .unset, .unset] [])) _
        refine XS.aload X1.here hx rfl (hb hby at_57) rfl rfl ?_
        show Steps p.tables e below (T1.setTop (mkF m 59 #[.val (.int p1), .val (.int p2), .val (.int p3), .val (.int (Int32.ofNat n)), .val (.ref b0), .unset, .unset, .unset, .unset, .unset, .unset] [(.ref b0)])) _
        refine XS.iconst X1.here hx rfl (hb hby at_59) ?_
        show Steps p.tables e below (T1.setTop (mkF m 60 #[.val (.int p1), .val (.int p2), .val (.int p3), .val (.int (Int32.ofNat n)), .val (.ref b0), .unset, .unset, .unset, .unset, .unset, .unset] [(.int (2 : Int32)), (.ref b0)])) _
        refine XS.iloadN X1.here hx rfl (hb hby at_60) rfl ?_
        show Steps p.tables e below (T1.setTop (mkF m 61 #[.val (.int p1), .val (.int p2), .val (.int p3), .val (.int (Int32.ofNat n)), .val (.ref b0), .unset, .unset, .unset, .unset, .unset, .unset] [(.int p2), (.int (2 : Int32)), (.ref b0)])) _
        refine XS.iconst X1.here hx rfl (hb hby at_61) ?_
        show Steps p.tables e below (T1.setTop (mkF m 62 #[.val (.int p1), .val (.int p2), .val (.int p3), .val (.int (Int32.ofNat n)), .val (.ref b0), .unset, .unset, .unset, .unset, .unset, .unset] [(.int (4 : Int32)), (.int p2), (.int (2 : Int32)), (.ref b0)])) _
        refine XS.iand X1.here hx rfl (hb hby at_62) rfl ?_
        exact k9
      refine go (T1.setTop (mkF m 71 #[.val (.int p1), .val (.int p2), .val (.int p3), .val (.int (Int32.ofNat n)), .val (.ref b0), .unset, .unset, .unset, .unset, .unset, .unset] [(.int (if (p2 &&& (4 : Int32)) = (0 : Int32) then (0 : Int32) else (1 : Int32))), (.int (2 : Int32)), (.ref b0)])) _ (fun t9 k9 => ?_) ?_
      · by_cases h63_1 : (p2 &&& (4 : Int32)) = (0 : Int32)
        · try (simp only [if_pos h63_1] at k9)
          show Steps p.tables e below (T1.setTop (mkF m 63 #[.val (.int p1), .val (.int p2), .val (.int p3), .val (.int (Int32.ofNat n)), .val (.ref b0), .unset, .unset, .unset, .unset, .unset, .unset] [(.int (p2 &&& (4 : Int32))), (.int (2 : Int32)), (.ref b0)])) _
          refine XS.ifYes X1.here hx rfl (pc0 := 63) (pc' := 70) rfl (hb hby at_63) rfl ((if0 _ _).trans (teq h63_1).1) (by decide) (by decide) ?_
          show Steps p.tables e below (T1.setTop (mkF m 70 #[.val (.int p1), .val (.int p2), .val (.int p3), .val (.int (Int32.ofNat n)), .val (.ref b0), .unset, .unset, .unset, .unset, .unset, .unset] [(.int (2 : Int32)), (.ref b0)])) _
          refine XS.iconst X1.here hx rfl (hb hby at_70) ?_
          exact k9
        · try (simp only [if_neg h63_1] at k9)
          show Steps p.tables e below (T1.setTop (mkF m 63 #[.val (.int p1), .val (.int p2), .val (.int p3), .val (.int (Int32.ofNat n)), .val (.ref b0), .unset, .unset, .unset, .unset, .unset, .unset] [(.int (p2 &&& (4 : Int32))), (.int (2 : Int32)), (.ref b0)])) _
          refine XS.ifNo X1.here hx rfl (hb hby at_63) rfl ((if0 _ _).trans (feq h63_1).1) ?_
          show Steps p.tables e below (T1.setTop (mkF m 66 #[.val (.int p1), .val (.int p2), .val (.int p3), .val (.int (Int32.ofNat n)), .val (.ref b0), .unset, .unset, .unset, .unset, .unset, .unset] [(.int (2 : Int32)), (.ref b0)])) _
          refine XS.iconst X1.here hx rfl (hb hby at_66) ?_
          show Steps p.tables e below (T1.setTop (mkF m 67 #[.val (.int p1), .val (.int p2), .val (.int p3), .val (.int (Int32.ofNat n)), .val (.ref b0), .unset, .unset, .unset, .unset, .unset, .unset] [(.int (1 : Int32)), (.int (2 : Int32)), (.ref b0)])) _
          refine XS.goto X1.here hx rfl (pc0 := 67) (pc' := 71) rfl (hb hby at_67) (by decide) (by decide) ?_
          exact k9
      obtain ⟨cl34, Ar34, Sz34, Hv34⟩ := V1
      have u35 : own_A Z h1 b0 .boolean n (fun j => .int (if j < 2 then own_bit p2 j else 0)) := ⟨cl34, Ar34, Sz34, Hv34⟩
      obtain ⟨T36, h36, X36, e36, W36, st36⟩ := stZ X1 hx hZ e1 Ar34 (j := (2 : Int32)) (own_hin Sz34 (by decide) (own_ltn hn (by decide) hc2)) (g := (mkF m 71 #[.val (.int p1), .val (.int p2), .val (.int p3), .val (.int (Int32.ofNat n)), .val (.ref b0), .unset, .unset, .unset, .unset, .unset, .unset] [(.int (if (p2 &&& (4 : Int32)) = (0 : Int32) then (0 : Int32) else (1 : Int32))), (.int (2 : Int32)), (.ref b0)])) rfl rfl (hb hby at_71)
      have N36 := Fr.snoc X36 N1 g_b0
      refine go (T36.setTop (mkF m 72 #[.val (.int p1), .val (.int p2), .val (.int p3), .val (.int (Int32.ofNat n)), .val (.ref b0), .unset, .unset, .unset, .unset, .unset, .unset] [])) _ (fun t9 k9 => st36 _ k9) ?_
      have u37 : Keep h0 h36 [] := K1.wr W36 (Or.inr sz_b0)
      have u38 : own_A Z h36 b0 .boolean n (fun j => .int (if j < 3 then own_bit p2 j else 0)) := own_A_congr (own_A_set Ar34 Sz34 Hv34 W36 (own_ltn hn (by decide) hc2)) (own_setbit p2 2 n)
      exact j2 _ _ _ X36 e36 u37 N36 u38
    · refine go (T1.setTop (mkF m 72 #[.val (.int p1), .val (.int p2), .val (.int p3), .val (.int (Int32.ofNat n)), .val (.ref b0), .unset, .unset, .unset, .unset, .unset, .unset] [])) _ (fun t9 k9 => ?_) ?_
      · show Steps p.tables e below (T1.setTop (mkF m 54 #[.val (.int p1), .val (.int p2), .val (.int p3), .val (.int (Int32.ofNat n)), .val (.ref b0), .unset, .unset, .unset, .unset, .unset, .unset] [(.int (2 : Int32)), (.int (Int32.ofNat n))])) _
        refine XS.icmpYes X1.here hx rfl (pc0 := 54) (pc' := 72) rfl (hb hby at_54) rfl (flt hc2).2.2.2 (by decide) (by decide) ?_
        exact k9
      exact j2 _ _ _ X1 e1 K1 N1 (own_A_congr V1 (own_skip p2 (own_gen hn (by decide) hc2)))
  intro T1 h1 L1 X1 e1 K1 N1 V1
  refine own_cps (A := ∀ (T1 : State) (h1 : Heap) (L1 : List Loc) (X1 : Stand p l e room_1 s m #[(.int p1), (.int p2), (.int p3)] below meth c T1 L1 1 6) (e1 : T1.heap = h1) (K1 : Keep h0 h1 []) (N1 : Fr n0 L1) (V1 : own_A Z h1 b0 .boolean n (fun j => .int (if j < 4 then own_bit p2 j else 0))), G (T1.setTop (mkF m 93 #[.val (.int p1), .val (.int p2), .val (.int p3), .val (.int (Int32.ofNat n)), .val (.ref b0), .unset, .unset, .unset, .unset, .unset, .unset] []))) (fun j3 => ?_) ?_
  · refine go (T1.setTop (mkF m 74 #[.val (.int p1), .val (.int p2), .val (.int p3), .val (.int (Int32.ofNat n)), .val (.ref b0), .unset, .unset, .unset, .unset, .unset, .unset] [(.int (3 : Int32)), (.int (Int32.ofNat n))])) _ (fun t9 k9 => ?_) ?_
    · show Steps p.tables e below (T1.setTop (mkF m 72 #[.val (.int p1), .val (.int p2), .val (.int p3), .val (.int (Int32.ofNat n)), .val (.ref b0), .unset, .unset, .unset, .unset, .unset, .unset] [])) _
      refine XS.iloadN X1.here hx rfl (hb hby at_72) rfl ?_
      show Steps p.tables e below (T1.setTop (mkF m 73 #[.val (.int p1), .val (.int p2), .val (.int p3), .val (.int (Int32.ofNat n)), .val (.ref b0), .unset, .unset, .unset, .unset, .unset, .unset] [(.int (Int32.ofNat n))])) _
      refine XS.iconst X1.here hx rfl (hb hby at_73) ?_
      exact k9
    by_cases hc3 : (3 : Int32) < (Int32.ofNat n)
    · refine go (T1.setTop (mkF m 84 #[.val (.int p1), .val (.int p2), .val (.int p3), .val (.int (Int32.ofNat n)), .val (.ref b0), .unset, .unset, .unset, .unset, .unset, .unset] [(.int (p2 &&& (8 : Int32))), (.int (3 : Int32)), (.ref b0)])) _ (fun t9 k9 => ?_) ?_
      · show Steps p.tables e below (T1.setTop (mkF m 74 #[.val (.int p1), .val (.int p2), .val (.int p3), .val (.int (Int32.ofNat n)), .val (.ref b0), .unset, .unset, .unset, .unset, .unset, .unset] [(.int (3 : Int32)), (.int (Int32.ofNat n))])) _
        refine XS.icmpNo X1.here hx rfl (hb hby at_74) rfl (tlt hc3).2.2.2 ?_
        show Steps p.tables e below (T1.setTop (mkF m 77 #[.val (.int p1), .val (.int p2), .val (.int p3), .val (.int (Int32.ofNat n)), .val (.ref b0), .unset, .unset, .unset, .unset, .unset, .unset] [])) _
        refine XS.aload X1.here hx rfl (hb hby at_77) rfl rfl ?_
        show Steps p.tables e below (T1.setTop (mkF m 79 #[.val (.int p1), .val (.int p2), .val (.int p3), .val (.int (Int32.ofNat n)), .val (.ref b0), .unset, .unset, .unset, .unset, .unset, .unset] [(.ref b0)])) _
        refine XS.iconst X1.here hx rfl (hb hby at_79) ?_
        show Steps p.tables e below (T1.setTop (mkF m 80 #[.val (.int p1), .val (.int p2), .val (.int p3), .val (.int (Int32.ofNat n)), .val (.ref b0), .unset, .unset, .unset, .unset, .unset, .unset] [(.int (3 : Int32)), (.ref b0)])) _
        refine XS.iloadN X1.here hx rfl (hb hby at_80) rfl ?_
        show Steps p.tables e below (T1.setTop (mkF m 81 #[.val (.int p1), .val (.int p2), .val (.int p3), .val (.int (Int32.ofNat n)), .val (.ref b0), .unset, .unset, .unset, .unset, .unset, .unset] [(.int p2), (.int (3 : Int32)), (.ref b0)])) _
        refine XS.bipush X1.here hx rfl (hb hby at_81) ?_
        show Steps p.tables e below (T1.setTop (mkF m 83 #[.val (.int p1), .val (.int p2), .val (.int p3), .val (.int (Int32.ofNat n)), .val (.ref b0), .unset, .unset, .unset, .unset, .unset, .unset] [(.int (8 : Int32)), (.int p2), (.int (3 : Int32)), (.ref b0)])) _
        refine XS.iand X1.here hx rfl (hb hby at_83) rfl ?_
        exact k9
      refine go (T1.setTop (mkF m 92 #[.val (.int p1), .val (.int p2), .val (.int p3), .val (.int (Int32.ofNat n)), .val (.ref b0), .unset, .unset, .unset, .unset, .unset, .unset] [(.int (if (p2 &&& (8 : Int32)) = (0 : Int32) then (0 : Int32) else (1 : Int32))), (.int (3 : Int32)), (.ref b0)])) _ (fun t9 k9 => ?_) ?_
      · by_cases h84_1 : (p2 &&& (8 : Int32)) = (0 : Int32)
        · try (simp only [if_pos h84_1] at k9)
          show Steps p.tables e below (T1.setTop (mkF m 84 #[.val (.int p1), .val (.int p2), .val (.int p3), .val (.int (Int32.ofNat n)), .val (.ref b0), .unset, .unset, .unset, .unset, .unset, .unset] [(.int (p2 &&& (8 : Int32))), (.int (3 : Int32)), (.ref b0)])) _
          refine XS.ifYes X1.here hx rfl (pc0 := 84) (pc' := 91) rfl (hb hby at_84) rfl ((if0 _ _).trans (teq h84_1).1) (by decide) (by decide) ?_
          show Steps p.tables e below (T1.setTop (mkF m 91 #[.val (.int p1), .val (.int p2), .val (.int p3), .val (.int (Int32.ofNat n)), .val (.ref b0), .unset, .unset, .unset, .unset, .unset, .unset] [(.int (3 : Int32)), (.ref b0)])) _
          refine XS.iconst X1.here hx rfl (hb hby at_91) ?_
          exact k9
        · try (simp only [if_neg h84_1] at k9)
          show Steps p.tables e below (T1.setTop (mkF m 84 #[.val (.int p1), .val (.int p2), .val (.int p3), .val (.int (Int32.ofNat n)), .val (.ref b0), .unset, .unset, .unset, .unset, .unset, .unset] [(.int (p2 &&& (8 : Int32))), (.int (3 : Int32)), (.ref b0)])) _
          refine XS.ifNo X1.here hx rfl (hb hby at_84) rfl ((if0 _ _).trans (feq h84_1).1) ?_
          show Steps p.tables e below (T1.setTop (mkF m 87 #[.val (.int p1), .val (.int p2), .val (.int p3), .val (.int (Int32.ofNat n)), .val (.ref b0), .unset, .unset, .unset, .unset, .unset, .unset] [(.int (3 : Int32)), (.ref b0)])) _
          refine XS.iconst X1.here hx rfl (hb hby at_87) ?_
          show Steps p.tables e below (T1.setTop (mkF m 88 #[.val (.int p1), .val (.int p2), .val (.int p3), .val (.int (Int32.ofNat n)), .val (.ref b0), .unset, .unset, .unset, .unset, .unset, .unset] [(.int (1 : Int32)), (.int (3 : Int32)), (.ref b0)])) _
          refine XS.goto X1.here hx rfl (pc0 := 88) (pc' := 92) rfl (hb hby at_88) (by decide) (by decide) ?_
          exact k9
      obtain ⟨cl39, Ar39, Sz39, Hv39⟩ := V1
      have u40 : own_A Z h1 b0 .boolean n (fun j => .int (if j < 3 then own_bit p2 j else 0)) := ⟨cl39, Ar39, Sz39, Hv39⟩
      obtain ⟨T41, h41, X41, e41, W41, st41⟩ := stZ X1 hx hZ e1 Ar39 (j := (3 : Int32)) (own_hin Sz39 (by decide) (own_ltn hn (by decide) hc3)) (g := (mkF m 92 #[.val (.int p1), .val (.int p2), .val (.int p3), .val (.int (Int32.ofNat n)), .val (.ref b0), .unset, .unset, .unset, .unset, .unset, .unset] [(.int (if (p2 &&& (8 : Int32)) = (0 : Int32) then (0 : Int32) else (1 : Int32))), (.int (3 : Int32)), (.ref b0)])) rfl rfl (hb hby at_92)
      have N41 := Fr.snoc X41 N1 g_b0
      refine go (T41.setTop (mkF m 93 #[.val (.int p1), .val (.int p2), .val (.int p3), .val (.int (Int32.ofNat n)), .val (.ref b0), .unset, .unset, .unset, .unset, .unset, .unset] [])) _ (fun t9 k9 => st41 _ k9) ?_
      have u42 : Keep h0 h41 [] := K1.wr W41 (Or.inr sz_b0)
      have u43 : own_A Z h41 b0 .boolean n (fun j => .int (if j < 4 then own_bit p2 j else 0)) := own_A_congr (own_A_set Ar39 Sz39 Hv39 W41 (own_ltn hn (by decide) hc3)) (own_setbit p2 3 n)
      exact j3 _ _ _ X41 e41 u42 N41 u43
    · refine go (T1.setTop (mkF m 93 #[.val (.int p1), .val (.int p2), .val (.int p3), .val (.int (Int32.ofNat n)), .val (.ref b0), .unset, .unset, .unset, .unset, .unset, .unset] [])) _ (fun t9 k9 => ?_) ?_
      · show Steps p.tables e below (T1.setTop (mkF m 74 #[.val (.int p1), .val (.int p2), .val (.int p3), .val (.int (Int32.ofNat n)), .val (.ref b0), .unset, .unset, .unset, .unset, .unset, .unset] [(.int (3 : Int32)), (.int (Int32.ofNat n))])) _
        refine XS.icmpYes X1.here hx rfl (pc0 := 74) (pc' := 93) rfl (hb hby at_74) rfl (flt hc3).2.2.2 (by decide) (by decide) ?_
        exact k9
      exact j3 _ _ _ X1 e1 K1 N1 (own_A_congr V1 (own_skip p2 (own_gen hn (by decide) hc3)))
  intro T1 h1 L1 X1 e1 K1 N1 V1
  refine own_cps (A := ∀ (T1 : State) (h1 : Heap) (L1 : List Loc) (X1 : Stand p l e room_1 s m #[(.int p1), (.int p2), (.int p3)] below meth c T1 L1 1 6) (e1 : T1.heap = h1) (K1 : Keep h0 h1 []) (N1 : Fr n0 L1) (V1 : own_A Z h1 b0 .boolean n (fun j => .int (if j < 5 then own_bit p2 j else 0))), G (T1.setTop (mkF m 114 #[.val (.int p1), .val (.int p2), .val (.int p3), .val (.int (Int32.ofNat n)), .val (.ref b0), .unset, .unset, .unset, .unset, .unset, .unset] []))) (fun j4 => ?_) ?_
  · refine go (T1.setTop (mkF m 95 #[.val (.int p1), .val (.int p2), .val (.int p3), .val (.int (Int32.ofNat n)), .val (.ref b0), .unset, .unset, .unset, .unset, .unset, .unset] [(.int (4 : Int32)), (.int (Int32.ofNat n))])) _ (fun t9 k9 => ?_) ?_
    · show Steps p.tables e below (T1.setTop (mkF m 93 #[.val (.int p1), .val (.int p2), .val (.int p3), .val (.int (Int32.ofNat n)), .val (.ref b0), .unset, .unset, .unset, .unset, .unset, .unset] [])) _
      refine XS.iloadN X1.here hx rfl (hb hby at_93) rfl ?_
      show Steps p.tables e below (T1.setTop (mkF m 94 #[.val (.int p1), .val (.int p2), .val (.int p3), .val (.int (Int32.ofNat n)), .val (.ref b0), .unset, .unset, .unset, .unset, .unset, .unset] [(.int (Int32.ofNat n))])) _
      refine XS.iconst X1.here hx rfl (hb hby at_94) ?_
      exact k9
    by_cases hc4 : (4 : Int32) < (Int32.ofNat n)
    · refine go (T1.setTop (mkF m 105 #[.val (.int p1), .val (.int p2), .val (.int p3), .val (.int (Int32.ofNat n)), .val (.ref b0), .unset, .unset, .unset, .unset, .unset, .unset] [(.int (p2 &&& (16 : Int32))), (.int (4 : Int32)), (.ref b0)])) _ (fun t9 k9 => ?_) ?_
      · show Steps p.tables e below (T1.setTop (mkF m 95 #[.val (.int p1), .val (.int p2), .val (.int p3), .val (.int (Int32.ofNat n)), .val (.ref b0), .unset, .unset, .unset, .unset, .unset, .unset] [(.int (4 : Int32)), (.int (Int32.ofNat n))])) _
        refine XS.icmpNo X1.here hx rfl (hb hby at_95) rfl (tlt hc4).2.2.2 ?_
        show Steps p.tables e below (T1.setTop (mkF m 98 #[.val (.int p1), .val (.int p2), .val (.int p3), .val (.int (Int32.ofNat n)), .val (.ref b0), .unset, .unset, .unset, .unset, .unset, .unset] [])) _
        refine XS.aload X1.here hx rfl (hb hby at_98) rfl rfl ?_
        show Steps p.tables e below (T1.setTop (mkF m 100 #[.val (.int p1), .val (.int p2), .val (.int p3), .val (.int (Int32.ofNat n)), .val (.ref b0), .unset, .unset, .unset, .unset, .unset, .unset] [(.ref b0)])) _
        refine XS.iconst X1.here hx rfl (hb hby at_100) ?_
        show Steps p.tables e below (T1.setTop (mkF m 101 #[.val (.int p1), .val (.int p2), .val (.int p3), .val (.int (Int32.ofNat n)), .val (.ref b0), .unset, .unset, .unset, .unset, .unset, .unset] [(.int (4 : Int32)), (.ref b0)])) _
        refine XS.iloadN X1.here hx rfl (hb hby at_101) rfl ?_
        show Steps p.tables e below (T1.setTop (mkF m 102 #[.val (.int p1), .val (.int p2), .val (.int p3), .val (.int (Int32.ofNat n)), .val (.ref b0), .unset, .unset, .unset, .unset, .unset, .unset] [(.int p2), (.int (4 : Int32)), (.ref b0)])) _
        refine XS.bipush X1.here hx rfl (hb hby at_102) ?_
        show Steps p.tables e below (T1.setTop (mkF m 104 #[.val (.int p1), .val (.int p2), .val (.int p3), .val (.int (Int32.ofNat n)), .val (.ref b0), .unset, .unset, .unset, .unset, .unset, .unset] [(.int (16 : Int32)), (.int p2), (.int (4 : Int32)), (.ref b0)])) _
        refine XS.iand X1.here hx rfl (hb hby at_104) rfl ?_
        exact k9
      refine go (T1.setTop (mkF m 113 #[.val (.int p1), .val (.int p2), .val (.int p3), .val (.int (Int32.ofNat n)), .val (.ref b0), .unset, .unset, .unset, .unset, .unset, .unset] [(.int (if (p2 &&& (16 : Int32)) = (0 : Int32) then (0 : Int32) else (1 : Int32))), (.int (4 : Int32)), (.ref b0)])) _ (fun t9 k9 => ?_) ?_
      · by_cases h105_1 : (p2 &&& (16 : Int32)) = (0 : Int32)
        · try (simp only [if_pos h105_1] at k9)
          show Steps p.tables e below (T1.setTop (mkF m 105 #[.val (.int p1), .val (.int p2), .val (.int p3), .val (.int (Int32.ofNat n)), .val (.ref b0), .unset, .unset, .unset, .unset, .unset, .unset] [(.int (p2 &&& (16 : Int32))), (.int (4 : Int32)), (.ref b0)])) _
          refine XS.ifYes X1.here hx rfl (pc0 := 105) (pc' := 112) rfl (hb hby at_105) rfl ((if0 _ _).trans (teq h105_1).1) (by decide) (by decide) ?_
          show Steps p.tables e below (T1.setTop (mkF m 112 #[.val (.int p1), .val (.int p2), .val (.int p3), .val (.int (Int32.ofNat n)), .val (.ref b0), .unset, .unset, .unset, .unset, .unset, .unset] [(.int (4 : Int32)), (.ref b0)])) _
          refine XS.iconst X1.here hx rfl (hb hby at_112) ?_
          exact k9
        · try (simp only [if_neg h105_1] at k9)
          show Steps p.tables e below (T1.setTop (mkF m 105 #[.val (.int p1), .val (.int p2), .val (.int p3), .val (.int (Int32.ofNat n)), .val (.ref b0), .unset, .unset, .unset, .unset, .unset, .unset] [(.int (p2 &&& (16 : Int32))), (.int (4 : Int32)), (.ref b0)])) _
          refine XS.ifNo X1.here hx rfl (hb hby at_105) rfl ((if0 _ _).trans (feq h105_1).1) ?_
          show Steps p.tables e below (T1.setTop (mkF m 108 #[.val (.int p1), .val (.int p2), .val (.int p3), .val (.int (Int32.ofNat n)), .val (.ref b0), .unset, .unset, .unset, .unset, .unset, .unset] [(.int (4 : Int32)), (.ref b0)])) _
          refine XS.iconst X1.here hx rfl (hb hby at_108) ?_
          show Steps p.tables e below (T1.setTop (mkF m 109 #[.val (.int p1), .val (.int p2), .val (.int p3), .val (.int (Int32.ofNat n)), .val (.ref b0), .unset, .unset, .unset, .unset, .unset, .unset] [(.int (1 : Int32)), (.int (4 : Int32)), (.ref b0)])) _
          refine XS.goto X1.here hx rfl (pc0 := 109) (pc' := 113) rfl (hb hby at_109) (by decide) (by decide) ?_
          exact k9
      obtain ⟨cl44, Ar44, Sz44, Hv44⟩ := V1
      have u45 : own_A Z h1 b0 .boolean n (fun j => .int (if j < 4 then own_bit p2 j else 0)) := ⟨cl44, Ar44, Sz44, Hv44⟩
      obtain ⟨T46, h46, X46, e46, W46, st46⟩ := stZ X1 hx hZ e1 Ar44 (j := (4 : Int32)) (own_hin Sz44 (by decide) (own_ltn hn (by decide) hc4)) (g := (mkF m 113 #[.val (.int p1), .val (.int p2), .val (.int p3), .val (.int (Int32.ofNat n)), .val (.ref b0), .unset, .unset, .unset, .unset, .unset, .unset] [(.int (if (p2 &&& (16 : Int32)) = (0 : Int32) then (0 : Int32) else (1 : Int32))), (.int (4 : Int32)), (.ref b0)])) rfl rfl (hb hby at_113)
      have N46 := Fr.snoc X46 N1 g_b0
      refine go (T46.setTop (mkF m 114 #[.val (.int p1), .val (.int p2), .val (.int p3), .val (.int (Int32.ofNat n)), .val (.ref b0), .unset, .unset, .unset, .unset, .unset, .unset] [])) _ (fun t9 k9 => st46 _ k9) ?_
      have u47 : Keep h0 h46 [] := K1.wr W46 (Or.inr sz_b0)
      have u48 : own_A Z h46 b0 .boolean n (fun j => .int (if j < 5 then own_bit p2 j else 0)) := own_A_congr (own_A_set Ar44 Sz44 Hv44 W46 (own_ltn hn (by decide) hc4)) (own_setbit p2 4 n)
      exact j4 _ _ _ X46 e46 u47 N46 u48
    · refine go (T1.setTop (mkF m 114 #[.val (.int p1), .val (.int p2), .val (.int p3), .val (.int (Int32.ofNat n)), .val (.ref b0), .unset, .unset, .unset, .unset, .unset, .unset] [])) _ (fun t9 k9 => ?_) ?_
      · show Steps p.tables e below (T1.setTop (mkF m 95 #[.val (.int p1), .val (.int p2), .val (.int p3), .val (.int (Int32.ofNat n)), .val (.ref b0), .unset, .unset, .unset, .unset, .unset, .unset] [(.int (4 : Int32)), (.int (Int32.ofNat n))])) _
        refine XS.icmpYes X1.here hx rfl (pc0 := 95) (pc' := 114) rfl (hb hby at_95) rfl (flt hc4).2.2.2 (by decide) (by decide) ?_
        exact k9
      exact j4 _ _ _ X1 e1 K1 N1 (own_A_congr V1 (own_skip p2 (own_gen hn (by decide) hc4)))
  intro T1 h1 L1 X1 e1 K1 N1 V1
  refine own_cps (A := ∀ (T1 : State) (h1 : Heap) (L1 : List Loc) (X1 : Stand p l e room_1 s m #[(.int p1), (.int p2), (.int p3)] below meth c T1 L1 1 6) (e1 : T1.heap = h1) (K1 : Keep h0 h1 []) (N1 : Fr n0 L1) (V1 : own_A Z h1 b0 .boolean n (fun j => .int (if j < 6 then own_bit p2 j else 0))), G (T1.setTop (mkF m 135 #[.val (.int p1), .val (.int p2), .val (.int p3), .val (.int (Int32.ofNat n)), .val (.ref b0), .unset, .unset, .unset, .unset, .unset, .unset] []))) (fun j5 => ?_) ?_
  · refine go (T1.setTop (mkF m 116 #[.val (.int p1), .val (.int p2), .val (.int p3), .val (.int (Int32.ofNat n)), .val (.ref b0), .unset, .unset, .unset, .unset, .unset, .unset] [(.int (5 : Int32)), (.int (Int32.ofNat n))])) _ (fun t9 k9 => ?_) ?_
    · show Steps p.tables e below (T1.setTop (mkF m 114 #[.val (.int p1), .val (.int p2), .val (.int p3), .val (.int (Int32.ofNat n)), .val (.ref b0), .unset, .unset, .unset, .unset, .unset, .unset] [])) _
      refine XS.iloadN X1.here hx rfl (hb hby at_114) rfl ?_
      show Steps p.tables e below (T1.setTop (mkF m 115 #[.val (.int p1), .val (.int p2), .val (.int p3), .val (.int (Int32.ofNat n)), .val (.ref b0), .unset, .unset, .unset, .unset, .unset, .unset] [(.int (Int32.ofNat n))])) _
      refine XS.iconst X1.here hx rfl (hb hby at_115) ?_
      exact k9
    by_cases hc5 : (5 : Int32) < (Int32.ofNat n)
    · refine go (T1.setTop (mkF m 126 #[.val (.int p1), .val (.int p2), .val (.int p3), .val (.int (Int32.ofNat n)), .val (.ref b0), .unset, .unset, .unset, .unset, .unset, .unset] [(.int (p2 &&& (32 : Int32))), (.int (5 : Int32)), (.ref b0)])) _ (fun t9 k9 => ?_) ?_
      · show Steps p.tables e below (T1.setTop (mkF m 116 #[.val (.int p1), .val (.int p2), .val (.int p3), .val (.int (Int32.ofNat n)), .val (.ref b0), .unset, .unset, .unset, .unset, .unset, .unset] [(.int (5 : Int32)), (.int (Int32.ofNat n))])) _
        refine XS.icmpNo X1.here hx rfl (hb hby at_116) rfl (tlt hc5).2.2.2 ?_
        show Steps p.tables e below (T1.setTop (mkF m 119 #[.val (.int p1), .val (.int p2), .val (.int p3), .val (.int (Int32.ofNat n)), .val (.ref b0), .unset, .unset, .unset, .unset, .unset, .unset] [])) _
        refine XS.aload X1.here hx rfl (hb hby at_119) rfl rfl ?_
        show Steps p.tables e below (T1.setTop (mkF m 121 #[.val (.int p1), .val (.int p2), .val (.int p3), .val (.int (Int32.ofNat n)), .val (.ref b0), .unset, .unset, .unset, .unset, .unset, .unset] [(.ref b0)])) _
        refine XS.iconst X1.here hx rfl (hb hby at_121) ?_
        show Steps p.tables e below (T1.setTop (mkF m 122 #[.val (.int p1), .val (.int p2), .val (.int p3), .val (.int (Int32.ofNat n)), .val (.ref b0), .unset, .unset, .unset, .unset, .unset, .unset] [(.int (5 : Int32)), (.ref b0)])) _
        refine XS.iloadN X1.here hx rfl (hb hby at_122) rfl ?_
        show Steps p.tables e below (T1.setTop (mkF m 123 #[.val (.int p1), .val (.int p2), .val (.int p3), .val (.int (Int32.ofNat n)), .val (.ref b0), .unset, .unset, .unset, .unset, .unset, .unset] [(.int p2), (.int (5 : Int32)), (.ref b0)])) _
        refine XS.bipush X1.here hx rfl (hb hby at_123) ?_
        show Steps p.tables e below (T1.setTop (mkF m 125 #[.val (.int p1), .val (.int p2), .val (.int p3), .val (.int (Int32.ofNat n)), .val (.ref b0), .unset, .unset, .unset, .unset, .unset, .unset] [(.int (32 : Int32)), (.int p2), (.int (5 : Int32)), (.ref b0)])) _
        refine XS.iand X1.here hx rfl (hb hby at_125) rfl ?_
        exact k9
      refine go (T1.setTop (mkF m 134 #[.val (.int p1), .val (.int p2), .val (.int p3), .val (.int (Int32.ofNat n)), .val (.ref b0), .unset, .unset, .unset, .unset, .unset, .unset] [(.int (if (p2 &&& (32 : Int32)) = (0 : Int32) then (0 : Int32) else (1 : Int32))), (.int (5 : Int32)), (.ref b0)])) _ (fun t9 k9 => ?_) ?_
      · by_cases h126_1 : (p2 &&& (32 : Int32)) = (0 : Int32)
        · try (simp only [if_pos h126_1] at k9)
          show Steps p.tables e below (T1.setTop (mkF m 126 #[.val (.int p1), .val (.int p2), .val (.int p3), .val (.int (Int32.ofNat n)), .val (.ref b0), .unset, .unset, .unset, .unset, .unset, .unset] [(.int (p2 &&& (32 : Int32))), (.int (5 : Int32)), (.ref b0)])) _
          refine XS.ifYes X1.here hx rfl (pc0 := 126) (pc' := 133) rfl (hb hby at_126) rfl ((if0 _ _).trans (teq h126_1).1) (by decide) (by decide) ?_
          show Steps p.tables e below (T1.setTop (mkF m 133 #[.val (.int p1), .val (.int p2), .val (.int p3), .val (.int (Int32.ofNat n)), .val (.ref b0), .unset, .unset, .unset, .unset, .unset, .unset] [(.int (5 : Int32)), (.ref b0)])) _
          refine XS.iconst X1.here hx rfl (hb hby at_133) ?_
          exact k9
        · try (simp only [if_neg h126_1] at k9)
          show Steps p.tables e below (T1.setTop (mkF m 126 #[.val (.int p1), .val (.int p2), .val (.int p3), .val (.int (Int32.ofNat n)), .val (.ref b0), .unset, .unset, .unset, .unset, .unset, .unset] [(.int (p2 &&& (32 : Int32))), (.int (5 : Int32)), (.ref b0)])) _
          refine XS.ifNo X1.here hx rfl (hb hby at_126) rfl ((if0 _ _).trans (feq h126_1).1) ?_
          show Steps p.tables e below (T1.setTop (mkF m 129 #[.val (.int p1), .val (.int p2), .val (.int p3), .val (.int (Int32.ofNat n)), .val (.ref b0), .unset, .unset, .unset, .unset, .unset, .unset] [(.int (5 : Int32)), (.ref b0)])) _
          refine XS.iconst X1.here hx rfl (hb hby at_129) ?_
          show Steps p.tables e below (T1.setTop (mkF m 130 #[.val (.int p1), .val (.int p2), .val (.int p3), .val (.int (Int32.ofNat n)), .val (.ref b0), .unset, .unset, .unset, .unset, .unset, .unset] [(.int (1 : Int32)), (.int (5 : Int32)), (.ref b0)])) _
          refine XS.goto X1.here hx rfl (pc0 := 130) (pc' := 134) rfl (hb hby at_130) (by decide) (by decide) ?_
          exact k9
      obtain ⟨cl49, Ar49, Sz49, Hv49⟩ := V1
      have u50 : own_A Z h1 b0 .boolean n (fun j => .int (if j < 5 then own_bit p2 j else 0)) := ⟨cl49, Ar49, Sz49, Hv49⟩
      obtain ⟨T51, h51, X51, e51, W51, st51⟩ := stZ X1 hx hZ e1 Ar49 (j := (5 : Int32)) (own_hin Sz49 (by decide) (own_ltn hn (by decide) hc5)) (g := (mkF m 134 #[.val (.int p1), .val (.int p2), .val (.int p3), .val (.int (Int32.ofNat n)), .val (.ref b0), .unset, .unset, .unset, .unset, .unset, .unset] [(.int (if (p2 &&& (32 : Int32)) = (0 : Int32) then (0 : Int32) else (1 : Int32))), (.int (5 : Int32)), (.ref b0)])) rfl rfl (hb hby at_134)
      have N51 := Fr.snoc X51 N1 g_b0
      refine go (T51.setTop (mkF m 135 #[.val (.int p1), .val (.int p2), .val (.int p3), .val (.int (Int32.ofNat n)), .val (.ref b0), .unset, .unset, .unset, .unset, .unset, .unset] [])) _ (fun t9 k9 => st51 _ k9) ?_
      have u52 : Keep h0 h51 [] := K1.wr W51 (Or.inr sz_b0)
      have u53 : own_A Z h51 b0 .boolean n (fun j => .int (if j < 6 then own_bit p2 j else 0)) := own_A_congr (own_A_set Ar49 Sz49 Hv49 W51 (own_ltn hn (by decide) hc5)) (own_setbit p2 5 n)
      exact j5 _ _ _ X51 e51 u52 N51 u53
    · refine go (T1.setTop (mkF m 135 #[.val (.int p1), .val (.int p2), .val (.int p3), .val (.int (Int32.ofNat n)), .val (.ref b0), .unset, .unset, .unset, .unset, .unset, .unset] [])) _ (fun t9 k9 => ?_) ?_
      · show Steps p.tables e below (T1.setTop (mkF m 116 #[.val (.int p1), .val (.int p2), .val (.int p3), .val (.int (Int32.ofNat n)), .val (.ref b0), .unset, .unset, .unset, .unset, .unset, .unset] [(.int (5 : Int32)), (.int (Int32.ofNat n))])) _
        refine XS.icmpYes X1.here hx rfl (pc0 := 116) (pc' := 135) rfl (hb hby at_116) rfl (flt hc5).2.2.2 (by decide) (by decide) ?_
        exact k9
      exact j5 _ _ _ X1 e1 K1 N1 (own_A_congr V1 (own_skip p2 (own_gen hn (by decide) hc5)))
  intro T1 h1 L1 X1 e1 K1 N1 V1
  have V2 : own_A Z h1 b0 .boolean n (fun j => .int (own_bit p2 j)) := own_A_congr V1 (fun j hj => by rw [if_pos (by omega)])
  obtain ⟨T54, h54, X54, e54, E54, A54, D54, -, st54⟩ := newO X1 hx hZ hown (hw _ (List.mem_of_getElem? (i := 2) rfl)) (hw _ (List.mem_of_getElem? (i := 3) rfl)) (hw _ (List.mem_of_getElem? (i := 4) rfl)) e1 (g := (mkF m 135 #[.val (.int p1), .val (.int p2), .val (.int p3), .val (.int (Int32.ofNat n)), .val (.ref b0), .unset, .unset, .unset, .unset, .unset, .unset] [])) rfl (hb hby at_135) (by decide) (by decide)
  obtain ⟨b1, g54⟩ : ∃ z, z = h1.size := ⟨_, rfl⟩
  rw [← g54] at A54 D54 st54
  refine go (T54.setTop (mkF m 138 #[.val (.int p1), .val (.int p2), .val (.int p3), .val (.int (Int32.ofNat n)), .val (.ref b0), .unset, .unset, .unset, .unset, .unset, .unset] [(.ref b1)])) _ (fun t9 k9 => st54 _ k9) ?_
  have ne55 : b0 ≠ b1 := Nat.ne_of_lt (Nat.lt_of_lt_of_le (own_A_lt V2) (Nat.le_of_eq g54.symm))
  have sz_b1 : h0.size ≤ b1 := Nat.le_trans K1.1 (Nat.le_of_eq g54.symm)
  have g_b1 : n0 ≤ b1 := Nat.le_trans Z0 sz_b1
  have u56 : own_A Z h54 b0 .boolean n (fun j => .int (own_bit p2 j)) := own_A_ext V2 E54
  have u57 : Keep h0 h54 [] := K1.ext E54
  have u58 : Fld Z h54 b1 "com/example/vervet/vervet/core/RankedTopic" "relevant" "[Z" .null := D54 (Or.inr (hw _ (List.mem_of_getElem? (i := 12) rfl))) (ty := (.array .boolean)) (by decide)
  have u59 : Fld Z h54 b1 "com/example/vervet/vervet/core/RankedTopic" "relevantCount" "I" (.int (0 : Int32)) := D54 (Or.inr (hw _ (List.mem_of_getElem? (i := 14) rfl))) (ty := .int) (by decide)
  refine go (T54.setTop (mkF m 142 #[.val (.int p1), .val (.int p2), .val (.int p3), .val (.int (Int32.ofNat n)), .val (.ref b0), .unset, .unset, .unset, .unset, .unset, .unset] [(.int p3), (.ref b0), (.ref b1), (.ref b1)])) _ (fun t9 k9 => ?_) ?_
  · show Steps p.tables e below (T54.setTop (mkF m 138 #[.val (.int p1), .val (.int p2), .val (.int p3), .val (.int (Int32.ofNat n)), .val (.ref b0), .unset, .unset, .unset, .unset, .unset, .unset] [(.ref b1)])) _
    refine XS.dup X54.here hx rfl (hb hby at_138) rfl rfl ?_
    show Steps p.tables e below (T54.setTop (mkF m 139 #[.val (.int p1), .val (.int p2), .val (.int p3), .val (.int (Int32.ofNat n)), .val (.ref b0), .unset, .unset, .unset, .unset, .unset, .unset] [(.ref b1), (.ref b1)])) _
    refine XS.aload X54.here hx rfl (hb hby at_139) rfl rfl ?_
    show Steps p.tables e below (T54.setTop (mkF m 141 #[.val (.int p1), .val (.int p2), .val (.int p3), .val (.int (Int32.ofNat n)), .val (.ref b0), .unset, .unset, .unset, .unset, .unset, .unset] [(.ref b0), (.ref b1), (.ref b1)])) _
    refine XS.iloadN X54.here hx rfl (hb hby at_141) rfl ?_
    exact k9
  obtain ⟨_, _, ⟨T60, L60, k60, n60⟩, -, X60, ⟨Lc60, hQ60, l60, y60, z60⟩, st60⟩ := X54.specialBack hx (y := (⟨"com/example/vervet/vervet/core/RankedTopic", "<init>", "([ZI)V"⟩ : MethodName)) rfl hown (mvT hZ (hw _ (List.mem_of_getElem? (i := 5) rfl))) (mvT hZ (hw _ (List.mem_of_getElem? (i := 6) rfl))) (mvT hZ (hw _ (List.mem_of_getElem? (i := 7) rfl))) (by decide) (backOf (W := 1) (rm1 l Z a0 hw [] b1 b0 p3 h54 n0 (Nat.le_trans Z0 u57.1) A54 u58 u59 g_b1) hZ (hw _ (List.mem_of_getElem? (i := 7) rfl)) (hw _ (List.mem_of_getElem? (i := 4) rfl)) (by decide) (by decide)) (g := (mkF m 142 #[.val (.int p1), .val (.int p2), .val (.int p3), .val (.int (Int32.ofNat n)), .val (.ref b0), .unset, .unset, .unset, .unset, .unset, .unset] [(.int p3), (.ref b0), (.ref b1), (.ref b1)])) rfl (by rw [hml]; rfl) (Steps.refl _) (a := b1) (argsL := [(.ref b0), (.int p3)]) (rest := [(.ref b1)]) (lenOf pd__28_5bZI_29V rfl) rfl (by show 2 * 0 + _ ≤ _; exact Nat.le_of_eq rfl) (hb hby at_142) (fun _ _ => ⟨rfl, e54, (by decide : 2 + 0 ≤ _), (by decide : 8 + 0 ≤ _)⟩)
  dsimp only [Pt.U, Pt.locs, Pt.cells, Pt.slots] at X60 l60 y60 z60 st60 hQ60
  subst l60 y60 z60
  obtain ⟨rfl, N60q, Kq, Eq, Fq1, Fq2⟩ := hQ60
  have N60 := Fr.app N1 N60q
  refine go (T60.setTop (mkF m 145 #[.val (.int p1), .val (.int p2), .val (.int p3), .val (.int (Int32.ofNat n)), .val (.ref b0), .unset, .unset, .unset, .unset, .unset, .unset] [(.ref b1)])) _ (fun t9 k9 => st60.trans k9) ?_
  have u61 : own_A Z T60.heap b0 .boolean n (fun j => .int (own_bit p2 j)) := own_A_keep u56 Kq (ninS ne55 nin0)
  have u62 : Exa Z T60.heap b1 "com/example/vervet/vervet/core/RankedTopic" := A54.keep Kq
  have u63 : Keep h0 T60.heap [] := u57.trans Kq (allS (Or.inr sz_b1) all0)
  refine go (T60.setTop (mkF m 149 #[.val (.int p1), .val (.int p2), .val (.int p3), .val (.int (Int32.ofNat n)), .val (.ref b0), .val (.ref b1), .unset, .unset, .unset, .unset, .unset] [(.ref b1)])) _ (fun t9 k9 => ?_) ?_
  · show Steps p.tables e below (T60.setTop (mkF m 145 #[.val (.int p1), .val (.int p2), .val (.int p3), .val (.int (Int32.ofNat n)), .val (.ref b0), .unset, .unset, .unset, .unset, .unset, .unset] [(.ref b1)])) _
    refine XS.astore X60.here hx rfl (hb hby at_145) rfl rfl (l' := #[.val (.int p1), .val (.int p2), .val (.int p3), .val (.int (Int32.ofNat n)), .val (.ref b0), .val (.ref b1), .unset, .unset, .unset, .unset, .unset]) rfl ?_
    show Steps p.tables e below (T60.setTop (mkF m 147 #[.val (.int p1), .val (.int p2), .val (.int p3), .val (.int (Int32.ofNat n)), .val (.ref b0), .val (.ref b1), .unset, .unset, .unset, .unset, .unset] [])) _
    refine XS.aload X60.here hx rfl (hb hby at_147) rfl rfl ?_
    exact k9
  obtain ⟨cq64, kq64, q64a, q64b, q64c⟩ := isOf hZ rfl Eq
  obtain ⟨_, _, ⟨T64, L64, k64, n64⟩, -, X64, ⟨Lc64, hQ64, l64, y64, z64⟩, st64⟩ := X60.virtualBack hx (y := (⟨"com/example/vervet/vervet/core/RankedTopic", "reciprocalRank", "()D"⟩ : MethodName)) (z := (⟨"com/example/vervet/vervet/core/RankedTopic", "reciprocalRank", "()D"⟩ : MethodName)) hown (mvT hZ (hw _ (List.mem_of_getElem? (i := 15) rfl))) (mvT hZ (hw _ (List.mem_of_getElem? (i := 16) rfl))) (notFace_of_selects (args := #[]) (mvT hZ (hw _ (List.mem_of_getElem? (i := 18) rfl)))) (mvT hZ (hw _ (List.mem_of_getElem? (i := 18) rfl))) (mvT hZ (hw _ (List.mem_of_getElem? (i := 17) rfl))) (by decide) (backOf (W := 0) (rm3 l Z a0 hw [] b1 b0 (own_bit p2) n hn T60.heap n0 (Nat.le_trans Z0 u63.1) Fq1 u61) hZ (hw _ (List.mem_of_getElem? (i := 19) rfl)) (hw _ (List.mem_of_getElem? (i := 4) rfl)) (by decide) (by decide)) q64a q64c (g := (mkF m 149 #[.val (.int p1), .val (.int p2), .val (.int p3), .val (.int (Int32.ofNat n)), .val (.ref b0), .val (.ref b1), .unset, .unset, .unset, .unset, .unset] [(.ref b1)])) rfl (by rw [hml]; rfl) (Steps.refl _) (argsL := []) (rest := []) (lenOf pd__28_29D rfl) rfl (by show 2 * 0 + _ ≤ _; exact Nat.le_of_eq rfl) (hb hby at_149) (fun _ _ => ⟨rfl, rfl, (by decide : 2 + 0 ≤ _), (by decide : 8 + 0 ≤ _)⟩)
  dsimp only [Pt.U, Pt.locs, Pt.cells, Pt.slots] at X64 l64 y64 z64 st64 hQ64
  subst l64 y64 z64
  obtain ⟨⟨d, rfl, hd⟩, N64q, e64q⟩ := hQ64
  have N64 := Fr.app N60 N64q
  refine go (T64.setTop (mkF m 152 #[.val (.int p1), .val (.int p2), .val (.int p3), .val (.int (Int32.ofNat n)), .val (.ref b0), .val (.ref b1), .unset, .unset, .unset, .unset, .unset] [(.double d)])) _ (fun t9 k9 => st64.trans k9) ?_
  refine go (T64.setTop (mkF m 157 #[.val (.int p1), .val (.int p2), .val (.int p3), .val (.int (Int32.ofNat n)), .val (.ref b0), .val (.ref b1), .val (.double d), .second, .val (.int (0 : Int32)), .unset, .unset] [])) _ (fun t9 k9 => ?_) ?_
  · show Steps p.tables e below (T64.setTop (mkF m 152 #[.val (.int p1), .val (.int p2), .val (.int p3), .val (.int (Int32.ofNat n)), .val (.ref b0), .val (.ref b1), .unset, .unset, .unset, .unset, .unset] [(.double d)])) _
    refine XS.dstore X64.here hx rfl (hb hby at_152) rfl (l' := #[.val (.int p1), .val (.int p2), .val (.int p3), .val (.int (Int32.ofNat n)), .val (.ref b0), .val (.ref b1), .val (.double d), .second, .unset, .unset, .unset]) rfl ?_
    show Steps p.tables e below (T64.setTop (mkF m 154 #[.val (.int p1), .val (.int p2), .val (.int p3), .val (.int (Int32.ofNat n)), .val (.ref b0), .val (.ref b1), .val (.double d), .second, .unset, .unset, .unset] [])) _
    refine XS.iconst X64.here hx rfl (hb hby at_154) ?_
    show Steps p.tables e below (T64.setTop (mkF m 155 #[.val (.int p1), .val (.int p2), .val (.int p3), .val (.int (Int32.ofNat n)), .val (.ref b0), .val (.ref b1), .val (.double d), .second, .unset, .unset, .unset] [(.int (0 : Int32))])) _
    refine XS.istore X64.here hx rfl (hb hby at_155) rfl (l' := #[.val (.int p1), .val (.int p2), .val (.int p3), .val (.int (Int32.ofNat n)), .val (.ref b0), .val (.ref b1), .val (.double d), .second, .val (.int (0 : Int32)), .unset, .unset]) rfl ?_
    exact k9
  refine own_cps (A := ∀ (fi : Int32) (hfi : own_fst (own_bit p2) n fi), G (T64.setTop (mkF m 259 #[.val (.int p1), .val (.int p2), .val (.int p3), .val (.int (Int32.ofNat n)), .val (.ref b0), .val (.ref b1), .val (.double d), .second, .val (.int fi), .unset, .unset] []))) (fun j259 => ?_) ?_
  · refine own_cps (A := ∀ (hz : ∀ j, j < 1 → j < n → own_bit p2 j = 0), G (T64.setTop (mkF m 173 #[.val (.int p1), .val (.int p2), .val (.int p3), .val (.int (Int32.ofNat n)), .val (.ref b0), .val (.ref b1), .val (.double d), .second, .val (.int (0 : Int32)), .unset, .unset] []))) (fun k1 => ?_) ?_
    · refine go (T64.setTop (mkF m 158 #[.val (.int p1), .val (.int p2), .val (.int p3), .val (.int (Int32.ofNat n)), .val (.ref b0), .val (.ref b1), .val (.double d), .second, .val (.int (0 : Int32)), .unset, .unset] [(.int (Int32.ofNat n))])) _ (fun t9 k9 => ?_) ?_
      · show Steps p.tables e below (T64.setTop (mkF m 157 #[.val (.int p1), .val (.int p2), .val (.int p3), .val (.int (Int32.ofNat n)), .val (.ref b0), .val (.ref b1), .val (.double d), .second, .val (.int (0 : Int32)), .unset, .unset] [])) _
        refine XS.iloadN X64.here hx rfl (hb hby at_157) rfl ?_
        exact k9
      by_cases hA : (0 : Int32) < (Int32.ofNat n)
      · refine go (T64.setTop (mkF m 164 #[.val (.int p1), .val (.int p2), .val (.int p3), .val (.int (Int32.ofNat n)), .val (.ref b0), .val (.ref b1), .val (.double d), .second, .val (.int (0 : Int32)), .unset, .unset] [(.int (p2 &&& (1 : Int32)))])) _ (fun t9 k9 => ?_) ?_
        · show Steps p.tables e below (T64.setTop (mkF m 158 #[.val (.int p1), .val (.int p2), .val (.int p3), .val (.int (Int32.ofNat n)), .val (.ref b0), .val (.ref b1), .val (.double d), .second, .val (.int (0 : Int32)), .unset, .unset] [(.int (Int32.ofNat n))])) _
          refine XS.ifNo X64.here hx rfl (hb hby at_158) rfl ((if0 _ _).trans (tlt hA).2.2.2) ?_
          show Steps p.tables e below (T64.setTop (mkF m 161 #[.val (.int p1), .val (.int p2), .val (.int p3), .val (.int (Int32.ofNat n)), .val (.ref b0), .val (.ref b1), .val (.double d), .second, .val (.int (0 : Int32)), .unset, .unset] [])) _
          refine XS.iloadN X64.here hx rfl (hb hby at_161) rfl ?_
          show Steps p.tables e below (T64.setTop (mkF m 162 #[.val (.int p1), .val (.int p2), .val (.int p3), .val (.int (Int32.ofNat n)), .val (.ref b0), .val (.ref b1), .val (.double d), .second, .val (.int (0 : Int32)), .unset, .unset] [(.int p2)])) _
          refine XS.iconst X64.here hx rfl (hb hby at_162) ?_
          show Steps p.tables e below (T64.setTop (mkF m 163 #[.val (.int p1), .val (.int p2), .val (.int p3), .val (.int (Int32.ofNat n)), .val (.ref b0), .val (.ref b1), .val (.double d), .second, .val (.int (0 : Int32)), .unset, .unset] [(.int (1 : Int32)), (.int p2)])) _
          refine XS.iand X64.here hx rfl (hb hby at_163) rfl ?_
          exact k9
        by_cases hB : (p2 &&& (1 : Int32)) = (0 : Int32)
        · refine go (T64.setTop (mkF m 173 #[.val (.int p1), .val (.int p2), .val (.int p3), .val (.int (Int32.ofNat n)), .val (.ref b0), .val (.ref b1), .val (.double d), .second, .val (.int (0 : Int32)), .unset, .unset] [])) _ (fun t9 k9 => ?_) ?_
          · show Steps p.tables e below (T64.setTop (mkF m 164 #[.val (.int p1), .val (.int p2), .val (.int p3), .val (.int (Int32.ofNat n)), .val (.ref b0), .val (.ref b1), .val (.double d), .second, .val (.int (0 : Int32)), .unset, .unset] [(.int (p2 &&& (1 : Int32)))])) _
            refine XS.ifYes X64.here hx rfl (pc0 := 164) (pc' := 173) rfl (hb hby at_164) rfl ((if0 _ _).trans (teq hB).1) (by decide) (by decide) ?_
            exact k9
          exact k1 (fun j hj hjn => by
            by_cases q : j < 0
            · exact (fun j hj _ => absurd hj (Nat.not_lt_zero j)) j q hjn
            · obtain rfl : j = 0 := by omega
              exact (if_pos hB : own_bit p2 0 = 0))
        · refine go (T64.setTop (mkF m 259 #[.val (.int p1), .val (.int p2), .val (.int p3), .val (.int (Int32.ofNat n)), .val (.ref b0), .val (.ref b1), .val (.double d), .second, .val (.int (1 : Int32)), .unset, .unset] [])) _ (fun t9 k9 => ?_) ?_
          · show Steps p.tables e below (T64.setTop (mkF m 164 #[.val (.int p1), .val (.int p2), .val (.int p3), .val (.int (Int32.ofNat n)), .val (.ref b0), .val (.ref b1), .val (.double d), .second, .val (.int (0 : Int32)), .unset, .unset] [(.int (p2 &&& (1 : Int32)))])) _
            refine XS.ifNo X64.here hx rfl (hb hby at_164) rfl ((if0 _ _).trans (feq hB).1) ?_
            show Steps p.tables e below (T64.setTop (mkF m 167 #[.val (.int p1), .val (.int p2), .val (.int p3), .val (.int (Int32.ofNat n)), .val (.ref b0), .val (.ref b1), .val (.double d), .second, .val (.int (0 : Int32)), .unset, .unset] [])) _
            refine XS.iconst X64.here hx rfl (hb hby at_167) ?_
            show Steps p.tables e below (T64.setTop (mkF m 168 #[.val (.int p1), .val (.int p2), .val (.int p3), .val (.int (Int32.ofNat n)), .val (.ref b0), .val (.ref b1), .val (.double d), .second, .val (.int (0 : Int32)), .unset, .unset] [(.int (1 : Int32))])) _
            refine XS.istore X64.here hx rfl (hb hby at_168) rfl (l' := #[.val (.int p1), .val (.int p2), .val (.int p3), .val (.int (Int32.ofNat n)), .val (.ref b0), .val (.ref b1), .val (.double d), .second, .val (.int (1 : Int32)), .unset, .unset]) rfl ?_
            show Steps p.tables e below (T64.setTop (mkF m 170 #[.val (.int p1), .val (.int p2), .val (.int p3), .val (.int (Int32.ofNat n)), .val (.ref b0), .val (.ref b1), .val (.double d), .second, .val (.int (1 : Int32)), .unset, .unset] [])) _
            refine XS.goto X64.here hx rfl (pc0 := 170) (pc' := 259) rfl (hb hby at_170) (by decide) (by decide) ?_
            exact k9
          exact j259 _ (Or.inr ⟨0, (own_ltn hn (by decide) hA : 0 < n), (by rw [show own_bit p2 0 = 1 from if_neg hB]; decide), fun j hj => (fun j hj _ => absurd hj (Nat.not_lt_zero j)) j hj (Nat.lt_trans hj (own_ltn hn (by decide) hA)), rfl⟩)
      · refine go (T64.setTop (mkF m 173 #[.val (.int p1), .val (.int p2), .val (.int p3), .val (.int (Int32.ofNat n)), .val (.ref b0), .val (.ref b1), .val (.double d), .second, .val (.int (0 : Int32)), .unset, .unset] [])) _ (fun t9 k9 => ?_) ?_
        · show Steps p.tables e below (T64.setTop (mkF m 158 #[.val (.int p1), .val (.int p2), .val (.int p3), .val (.int (Int32.ofNat n)), .val (.ref b0), .val (.ref b1), .val (.double d), .second, .val (.int (0 : Int32)), .unset, .unset] [(.int (Int32.ofNat n))])) _
          refine XS.ifYes X64.here hx rfl (pc0 := 158) (pc' := 173) rfl (hb hby at_158) rfl ((if0 _ _).trans (flt hA).2.2.2) (by decide) (by decide) ?_
          exact k9
        exact k1 (fun j hj hjn => by
          by_cases q : j < 0
          · exact (fun j hj _ => absurd hj (Nat.not_lt_zero j)) j q hjn
          · obtain rfl : j = 0 := by omega
            exact absurd (show n ≤ 0 from own_gen hn (by decide) hA) (by omega))
    intro hz
    refine own_cps (A := ∀ (hz : ∀ j, j < 2 → j < n → own_bit p2 j = 0), G (T64.setTop (mkF m 190 #[.val (.int p1), .val (.int p2), .val (.int p3), .val (.int (Int32.ofNat n)), .val (.ref b0), .val (.ref b1), .val (.double d), .second, .val (.int (0 : Int32)), .unset, .unset] []))) (fun k2 => ?_) ?_
    · refine go (T64.setTop (mkF m 175 #[.val (.int p1), .val (.int p2), .val (.int p3), .val (.int (Int32.ofNat n)), .val (.ref b0), .val (.ref b1), .val (.double d), .second, .val (.int (0 : Int32)), .unset, .unset] [(.int (1 : Int32)), (.int (Int32.ofNat n))])) _ (fun t9 k9 => ?_) ?_
      · show Steps p.tables e below (T64.setTop (mkF m 173 #[.val (.int p1), .val (.int p2), .val (.int p3), .val (.int (Int32.ofNat n)), .val (.ref b0), .val (.ref b1), .val (.double d), .second, .val (.int (0 : Int32)), .unset, .unset] [])) _
        refine XS.iloadN X64.here hx rfl (hb hby at_173) rfl ?_
        show Steps p.tables e below (T64.setTop (mkF m 174 #[.val (.int p1), .val (.int p2), .val (.int p3), .val (.int (Int32.ofNat n)), .val (.ref b0), .val (.ref b1), .val (.double d), .second, .val (.int (0 : Int32)), .unset, .unset] [(.int (Int32.ofNat n))])) _
        refine XS.iconst X64.here hx rfl (hb hby at_174) ?_
        exact k9
      by_cases hA : (1 : Int32) < (Int32.ofNat n)
      · refine go (T64.setTop (mkF m 181 #[.val (.int p1), .val (.int p2), .val (.int p3), .val (.int (Int32.ofNat n)), .val (.ref b0), .val (.ref b1), .val (.double d), .second, .val (.int (0 : Int32)), .unset, .unset] [(.int (p2 &&& (2 : Int32)))])) _ (fun t9 k9 => ?_) ?_
        · show Steps p.tables e below (T64.setTop (mkF m 175 #[.val (.int p1), .val (.int p2), .val (.int p3), .val (.int (Int32.ofNat n)), .val (.ref b0), .val (.ref b1), .val (.double d), .second, .val (.int (0 : Int32)), .unset, .unset] [(.int (1 : Int32)), (.int (Int32.ofNat n))])) _
          refine XS.icmpNo X64.here hx rfl (hb hby at_175) rfl (tlt hA).2.2.2 ?_
          show Steps p.tables e below (T64.setTop (mkF m 178 #[.val (.int p1), .val (.int p2), .val (.int p3), .val (.int (Int32.ofNat n)), .val (.ref b0), .val (.ref b1), .val (.double d), .second, .val (.int (0 : Int32)), .unset, .unset] [])) _
          refine XS.iloadN X64.here hx rfl (hb hby at_178) rfl ?_
          show Steps p.tables e below (T64.setTop (mkF m 179 #[.val (.int p1), .val (.int p2), .val (.int p3), .val (.int (Int32.ofNat n)), .val (.ref b0), .val (.ref b1), .val (.double d), .second, .val (.int (0 : Int32)), .unset, .unset] [(.int p2)])) _
          refine XS.iconst X64.here hx rfl (hb hby at_179) ?_
          show Steps p.tables e below (T64.setTop (mkF m 180 #[.val (.int p1), .val (.int p2), .val (.int p3), .val (.int (Int32.ofNat n)), .val (.ref b0), .val (.ref b1), .val (.double d), .second, .val (.int (0 : Int32)), .unset, .unset] [(.int (2 : Int32)), (.int p2)])) _
          refine XS.iand X64.here hx rfl (hb hby at_180) rfl ?_
          exact k9
        by_cases hB : (p2 &&& (2 : Int32)) = (0 : Int32)
        · refine go (T64.setTop (mkF m 190 #[.val (.int p1), .val (.int p2), .val (.int p3), .val (.int (Int32.ofNat n)), .val (.ref b0), .val (.ref b1), .val (.double d), .second, .val (.int (0 : Int32)), .unset, .unset] [])) _ (fun t9 k9 => ?_) ?_
          · show Steps p.tables e below (T64.setTop (mkF m 181 #[.val (.int p1), .val (.int p2), .val (.int p3), .val (.int (Int32.ofNat n)), .val (.ref b0), .val (.ref b1), .val (.double d), .second, .val (.int (0 : Int32)), .unset, .unset] [(.int (p2 &&& (2 : Int32)))])) _
            refine XS.ifYes X64.here hx rfl (pc0 := 181) (pc' := 190) rfl (hb hby at_181) rfl ((if0 _ _).trans (teq hB).1) (by decide) (by decide) ?_
            exact k9
          exact k2 (fun j hj hjn => by
            by_cases q : j < 1
            · exact hz j q hjn
            · obtain rfl : j = 1 := by omega
              exact (if_pos hB : own_bit p2 1 = 0))
        · refine go (T64.setTop (mkF m 259 #[.val (.int p1), .val (.int p2), .val (.int p3), .val (.int (Int32.ofNat n)), .val (.ref b0), .val (.ref b1), .val (.double d), .second, .val (.int (2 : Int32)), .unset, .unset] [])) _ (fun t9 k9 => ?_) ?_
          · show Steps p.tables e below (T64.setTop (mkF m 181 #[.val (.int p1), .val (.int p2), .val (.int p3), .val (.int (Int32.ofNat n)), .val (.ref b0), .val (.ref b1), .val (.double d), .second, .val (.int (0 : Int32)), .unset, .unset] [(.int (p2 &&& (2 : Int32)))])) _
            refine XS.ifNo X64.here hx rfl (hb hby at_181) rfl ((if0 _ _).trans (feq hB).1) ?_
            show Steps p.tables e below (T64.setTop (mkF m 184 #[.val (.int p1), .val (.int p2), .val (.int p3), .val (.int (Int32.ofNat n)), .val (.ref b0), .val (.ref b1), .val (.double d), .second, .val (.int (0 : Int32)), .unset, .unset] [])) _
            refine XS.iconst X64.here hx rfl (hb hby at_184) ?_
            show Steps p.tables e below (T64.setTop (mkF m 185 #[.val (.int p1), .val (.int p2), .val (.int p3), .val (.int (Int32.ofNat n)), .val (.ref b0), .val (.ref b1), .val (.double d), .second, .val (.int (0 : Int32)), .unset, .unset] [(.int (2 : Int32))])) _
            refine XS.istore X64.here hx rfl (hb hby at_185) rfl (l' := #[.val (.int p1), .val (.int p2), .val (.int p3), .val (.int (Int32.ofNat n)), .val (.ref b0), .val (.ref b1), .val (.double d), .second, .val (.int (2 : Int32)), .unset, .unset]) rfl ?_
            show Steps p.tables e below (T64.setTop (mkF m 187 #[.val (.int p1), .val (.int p2), .val (.int p3), .val (.int (Int32.ofNat n)), .val (.ref b0), .val (.ref b1), .val (.double d), .second, .val (.int (2 : Int32)), .unset, .unset] [])) _
            refine XS.goto X64.here hx rfl (pc0 := 187) (pc' := 259) rfl (hb hby at_187) (by decide) (by decide) ?_
            exact k9
          exact j259 _ (Or.inr ⟨1, (own_ltn hn (by decide) hA : 1 < n), (by rw [show own_bit p2 1 = 1 from if_neg hB]; decide), fun j hj => hz j hj (Nat.lt_trans hj (own_ltn hn (by decide) hA)), rfl⟩)
      · refine go (T64.setTop (mkF m 190 #[.val (.int p1), .val (.int p2), .val (.int p3), .val (.int (Int32.ofNat n)), .val (.ref b0), .val (.ref b1), .val (.double d), .second, .val (.int (0 : Int32)), .unset, .unset] [])) _ (fun t9 k9 => ?_) ?_
        · show Steps p.tables e below (T64.setTop (mkF m 175 #[.val (.int p1), .val (.int p2), .val (.int p3), .val (.int (Int32.ofNat n)), .val (.ref b0), .val (.ref b1), .val (.double d), .second, .val (.int (0 : Int32)), .unset, .unset] [(.int (1 : Int32)), (.int (Int32.ofNat n))])) _
          refine XS.icmpYes X64.here hx rfl (pc0 := 175) (pc' := 190) rfl (hb hby at_175) rfl (flt hA).2.2.2 (by decide) (by decide) ?_
          exact k9
        exact k2 (fun j hj hjn => by
          by_cases q : j < 1
          · exact hz j q hjn
          · obtain rfl : j = 1 := by omega
            exact absurd (show n ≤ 1 from own_gen hn (by decide) hA) (by omega))
    intro hz
    refine own_cps (A := ∀ (hz : ∀ j, j < 3 → j < n → own_bit p2 j = 0), G (T64.setTop (mkF m 207 #[.val (.int p1), .val (.int p2), .val (.int p3), .val (.int (Int32.ofNat n)), .val (.ref b0), .val (.ref b1), .val (.double d), .second, .val (.int (0 : Int32)), .unset, .unset] []))) (fun k3 => ?_) ?_
    · refine go (T64.setTop (mkF m 192 #[.val (.int p1), .val (.int p2), .val (.int p3), .val (.int (Int32.ofNat n)), .val (.ref b0), .val (.ref b1), .val (.double d), .second, .val (.int (0 : Int32)), .unset, .unset] [(.int (2 : Int32)), (.int (Int32.ofNat n))])) _ (fun t9 k9 => ?_) ?_
      · show Steps p.tables e below (T64.setTop (mkF m 190 #[.val (.int p1), .val (.int p2), .val (.int p3), .val (.int (Int32.ofNat n)), .val (.ref b0), .val (.ref b1), .val (.double d), .second, .val (.int (0 : Int32)), .unset, .unset] [])) _
        refine XS.iloadN X64.here hx rfl (hb hby at_190) rfl ?_
        show Steps p.tables e below (T64.setTop (mkF m 191 #[.val (.int p1), .val (.int p2), .val (.int p3), .val (.int (Int32.ofNat n)), .val (.ref b0), .val (.ref b1), .val (.double d), .second, .val (.int (0 : Int32)), .unset, .unset] [(.int (Int32.ofNat n))])) _
        refine XS.iconst X64.here hx rfl (hb hby at_191) ?_
        exact k9
      by_cases hA : (2 : Int32) < (Int32.ofNat n)
      · refine go (T64.setTop (mkF m 198 #[.val (.int p1), .val (.int p2), .val (.int p3), .val (.int (Int32.ofNat n)), .val (.ref b0), .val (.ref b1), .val (.double d), .second, .val (.int (0 : Int32)), .unset, .unset] [(.int (p2 &&& (4 : Int32)))])) _ (fun t9 k9 => ?_) ?_
        · show Steps p.tables e below (T64.setTop (mkF m 192 #[.val (.int p1), .val (.int p2), .val (.int p3), .val (.int (Int32.ofNat n)), .val (.ref b0), .val (.ref b1), .val (.double d), .second, .val (.int (0 : Int32)), .unset, .unset] [(.int (2 : Int32)), (.int (Int32.ofNat n))])) _
          refine XS.icmpNo X64.here hx rfl (hb hby at_192) rfl (tlt hA).2.2.2 ?_
          show Steps p.tables e below (T64.setTop (mkF m 195 #[.val (.int p1), .val (.int p2), .val (.int p3), .val (.int (Int32.ofNat n)), .val (.ref b0), .val (.ref b1), .val (.double d), .second, .val (.int (0 : Int32)), .unset, .unset] [])) _
          refine XS.iloadN X64.here hx rfl (hb hby at_195) rfl ?_
          show Steps p.tables e below (T64.setTop (mkF m 196 #[.val (.int p1), .val (.int p2), .val (.int p3), .val (.int (Int32.ofNat n)), .val (.ref b0), .val (.ref b1), .val (.double d), .second, .val (.int (0 : Int32)), .unset, .unset] [(.int p2)])) _
          refine XS.iconst X64.here hx rfl (hb hby at_196) ?_
          show Steps p.tables e below (T64.setTop (mkF m 197 #[.val (.int p1), .val (.int p2), .val (.int p3), .val (.int (Int32.ofNat n)), .val (.ref b0), .val (.ref b1), .val (.double d), .second, .val (.int (0 : Int32)), .unset, .unset] [(.int (4 : Int32)), (.int p2)])) _
          refine XS.iand X64.here hx rfl (hb hby at_197) rfl ?_
          exact k9
        by_cases hB : (p2 &&& (4 : Int32)) = (0 : Int32)
        · refine go (T64.setTop (mkF m 207 #[.val (.int p1), .val (.int p2), .val (.int p3), .val (.int (Int32.ofNat n)), .val (.ref b0), .val (.ref b1), .val (.double d), .second, .val (.int (0 : Int32)), .unset, .unset] [])) _ (fun t9 k9 => ?_) ?_
          · show Steps p.tables e below (T64.setTop (mkF m 198 #[.val (.int p1), .val (.int p2), .val (.int p3), .val (.int (Int32.ofNat n)), .val (.ref b0), .val (.ref b1), .val (.double d), .second, .val (.int (0 : Int32)), .unset, .unset] [(.int (p2 &&& (4 : Int32)))])) _
            refine XS.ifYes X64.here hx rfl (pc0 := 198) (pc' := 207) rfl (hb hby at_198) rfl ((if0 _ _).trans (teq hB).1) (by decide) (by decide) ?_
            exact k9
          exact k3 (fun j hj hjn => by
            by_cases q : j < 2
            · exact hz j q hjn
            · obtain rfl : j = 2 := by omega
              exact (if_pos hB : own_bit p2 2 = 0))
        · refine go (T64.setTop (mkF m 259 #[.val (.int p1), .val (.int p2), .val (.int p3), .val (.int (Int32.ofNat n)), .val (.ref b0), .val (.ref b1), .val (.double d), .second, .val (.int (3 : Int32)), .unset, .unset] [])) _ (fun t9 k9 => ?_) ?_
          · show Steps p.tables e below (T64.setTop (mkF m 198 #[.val (.int p1), .val (.int p2), .val (.int p3), .val (.int (Int32.ofNat n)), .val (.ref b0), .val (.ref b1), .val (.double d), .second, .val (.int (0 : Int32)), .unset, .unset] [(.int (p2 &&& (4 : Int32)))])) _
            refine XS.ifNo X64.here hx rfl (hb hby at_198) rfl ((if0 _ _).trans (feq hB).1) ?_
            show Steps p.tables e below (T64.setTop (mkF m 201 #[.val (.int p1), .val (.int p2), .val (.int p3), .val (.int (Int32.ofNat n)), .val (.ref b0), .val (.ref b1), .val (.double d), .second, .val (.int (0 : Int32)), .unset, .unset] [])) _
            refine XS.iconst X64.here hx rfl (hb hby at_201) ?_
            show Steps p.tables e below (T64.setTop (mkF m 202 #[.val (.int p1), .val (.int p2), .val (.int p3), .val (.int (Int32.ofNat n)), .val (.ref b0), .val (.ref b1), .val (.double d), .second, .val (.int (0 : Int32)), .unset, .unset] [(.int (3 : Int32))])) _
            refine XS.istore X64.here hx rfl (hb hby at_202) rfl (l' := #[.val (.int p1), .val (.int p2), .val (.int p3), .val (.int (Int32.ofNat n)), .val (.ref b0), .val (.ref b1), .val (.double d), .second, .val (.int (3 : Int32)), .unset, .unset]) rfl ?_
            show Steps p.tables e below (T64.setTop (mkF m 204 #[.val (.int p1), .val (.int p2), .val (.int p3), .val (.int (Int32.ofNat n)), .val (.ref b0), .val (.ref b1), .val (.double d), .second, .val (.int (3 : Int32)), .unset, .unset] [])) _
            refine XS.goto X64.here hx rfl (pc0 := 204) (pc' := 259) rfl (hb hby at_204) (by decide) (by decide) ?_
            exact k9
          exact j259 _ (Or.inr ⟨2, (own_ltn hn (by decide) hA : 2 < n), (by rw [show own_bit p2 2 = 1 from if_neg hB]; decide), fun j hj => hz j hj (Nat.lt_trans hj (own_ltn hn (by decide) hA)), rfl⟩)
      · refine go (T64.setTop (mkF m 207 #[.val (.int p1), .val (.int p2), .val (.int p3), .val (.int (Int32.ofNat n)), .val (.ref b0), .val (.ref b1), .val (.double d), .second, .val (.int (0 : Int32)), .unset, .unset] [])) _ (fun t9 k9 => ?_) ?_
        · show Steps p.tables e below (T64.setTop (mkF m 192 #[.val (.int p1), .val (.int p2), .val (.int p3), .val (.int (Int32.ofNat n)), .val (.ref b0), .val (.ref b1), .val (.double d), .second, .val (.int (0 : Int32)), .unset, .unset] [(.int (2 : Int32)), (.int (Int32.ofNat n))])) _
          refine XS.icmpYes X64.here hx rfl (pc0 := 192) (pc' := 207) rfl (hb hby at_192) rfl (flt hA).2.2.2 (by decide) (by decide) ?_
          exact k9
        exact k3 (fun j hj hjn => by
          by_cases q : j < 2
          · exact hz j q hjn
          · obtain rfl : j = 2 := by omega
            exact absurd (show n ≤ 2 from own_gen hn (by decide) hA) (by omega))
    intro hz
    refine own_cps (A := ∀ (hz : ∀ j, j < 4 → j < n → own_bit p2 j = 0), G (T64.setTop (mkF m 225 #[.val (.int p1), .val (.int p2), .val (.int p3), .val (.int (Int32.ofNat n)), .val (.ref b0), .val (.ref b1), .val (.double d), .second, .val (.int (0 : Int32)), .unset, .unset] []))) (fun k4 => ?_) ?_
    · refine go (T64.setTop (mkF m 209 #[.val (.int p1), .val (.int p2), .val (.int p3), .val (.int (Int32.ofNat n)), .val (.ref b0), .val (.ref b1), .val (.double d), .second, .val (.int (0 : Int32)), .unset, .unset] [(.int (3 : Int32)), (.int (Int32.ofNat n))])) _ (fun t9 k9 => ?_) ?_
      · show Steps p.tables e below (T64.setTop (mkF m 207 #[.val (.int p1), .val (.int p2), .val (.int p3), .val (.int (Int32.ofNat n)), .val (.ref b0), .val (.ref b1), .val (.double d), .second, .val (.int (0 : Int32)), .unset, .unset] [])) _
        refine XS.iloadN X64.here hx rfl (hb hby at_207) rfl ?_
        show Steps p.tables e below (T64.setTop (mkF m 208 #[.val (.int p1), .val (.int p2), .val (.int p3), .val (.int (Int32.ofNat n)), .val (.ref b0), .val (.ref b1), .val (.double d), .second, .val (.int (0 : Int32)), .unset, .unset] [(.int (Int32.ofNat n))])) _
        refine XS.iconst X64.here hx rfl (hb hby at_208) ?_
        exact k9
      by_cases hA : (3 : Int32) < (Int32.ofNat n)
      · refine go (T64.setTop (mkF m 216 #[.val (.int p1), .val (.int p2), .val (.int p3), .val (.int (Int32.ofNat n)), .val (.ref b0), .val (.ref b1), .val (.double d), .second, .val (.int (0 : Int32)), .unset, .unset] [(.int (p2 &&& (8 : Int32)))])) _ (fun t9 k9 => ?_) ?_
        · show Steps p.tables e below (T64.setTop (mkF m 209 #[.val (.int p1), .val (.int p2), .val (.int p3), .val (.int (Int32.ofNat n)), .val (.ref b0), .val (.ref b1), .val (.double d), .second, .val (.int (0 : Int32)), .unset, .unset] [(.int (3 : Int32)), (.int (Int32.ofNat n))])) _
          refine XS.icmpNo X64.here hx rfl (hb hby at_209) rfl (tlt hA).2.2.2 ?_
          show Steps p.tables e below (T64.setTop (mkF m 212 #[.val (.int p1), .val (.int p2), .val (.int p3), .val (.int (Int32.ofNat n)), .val (.ref b0), .val (.ref b1), .val (.double d), .second, .val (.int (0 : Int32)), .unset, .unset] [])) _
          refine XS.iloadN X64.here hx rfl (hb hby at_212) rfl ?_
          show Steps p.tables e below (T64.setTop (mkF m 213 #[.val (.int p1), .val (.int p2), .val (.int p3), .val (.int (Int32.ofNat n)), .val (.ref b0), .val (.ref b1), .val (.double d), .second, .val (.int (0 : Int32)), .unset, .unset] [(.int p2)])) _
          refine XS.bipush X64.here hx rfl (hb hby at_213) ?_
          show Steps p.tables e below (T64.setTop (mkF m 215 #[.val (.int p1), .val (.int p2), .val (.int p3), .val (.int (Int32.ofNat n)), .val (.ref b0), .val (.ref b1), .val (.double d), .second, .val (.int (0 : Int32)), .unset, .unset] [(.int (8 : Int32)), (.int p2)])) _
          refine XS.iand X64.here hx rfl (hb hby at_215) rfl ?_
          exact k9
        by_cases hB : (p2 &&& (8 : Int32)) = (0 : Int32)
        · refine go (T64.setTop (mkF m 225 #[.val (.int p1), .val (.int p2), .val (.int p3), .val (.int (Int32.ofNat n)), .val (.ref b0), .val (.ref b1), .val (.double d), .second, .val (.int (0 : Int32)), .unset, .unset] [])) _ (fun t9 k9 => ?_) ?_
          · show Steps p.tables e below (T64.setTop (mkF m 216 #[.val (.int p1), .val (.int p2), .val (.int p3), .val (.int (Int32.ofNat n)), .val (.ref b0), .val (.ref b1), .val (.double d), .second, .val (.int (0 : Int32)), .unset, .unset] [(.int (p2 &&& (8 : Int32)))])) _
            refine XS.ifYes X64.here hx rfl (pc0 := 216) (pc' := 225) rfl (hb hby at_216) rfl ((if0 _ _).trans (teq hB).1) (by decide) (by decide) ?_
            exact k9
          exact k4 (fun j hj hjn => by
            by_cases q : j < 3
            · exact hz j q hjn
            · obtain rfl : j = 3 := by omega
              exact (if_pos hB : own_bit p2 3 = 0))
        · refine go (T64.setTop (mkF m 259 #[.val (.int p1), .val (.int p2), .val (.int p3), .val (.int (Int32.ofNat n)), .val (.ref b0), .val (.ref b1), .val (.double d), .second, .val (.int (4 : Int32)), .unset, .unset] [])) _ (fun t9 k9 => ?_) ?_
          · show Steps p.tables e below (T64.setTop (mkF m 216 #[.val (.int p1), .val (.int p2), .val (.int p3), .val (.int (Int32.ofNat n)), .val (.ref b0), .val (.ref b1), .val (.double d), .second, .val (.int (0 : Int32)), .unset, .unset] [(.int (p2 &&& (8 : Int32)))])) _
            refine XS.ifNo X64.here hx rfl (hb hby at_216) rfl ((if0 _ _).trans (feq hB).1) ?_
            show Steps p.tables e below (T64.setTop (mkF m 219 #[.val (.int p1), .val (.int p2), .val (.int p3), .val (.int (Int32.ofNat n)), .val (.ref b0), .val (.ref b1), .val (.double d), .second, .val (.int (0 : Int32)), .unset, .unset] [])) _
            refine XS.iconst X64.here hx rfl (hb hby at_219) ?_
            show Steps p.tables e below (T64.setTop (mkF m 220 #[.val (.int p1), .val (.int p2), .val (.int p3), .val (.int (Int32.ofNat n)), .val (.ref b0), .val (.ref b1), .val (.double d), .second, .val (.int (0 : Int32)), .unset, .unset] [(.int (4 : Int32))])) _
            refine XS.istore X64.here hx rfl (hb hby at_220) rfl (l' := #[.val (.int p1), .val (.int p2), .val (.int p3), .val (.int (Int32.ofNat n)), .val (.ref b0), .val (.ref b1), .val (.double d), .second, .val (.int (4 : Int32)), .unset, .unset]) rfl ?_
            show Steps p.tables e below (T64.setTop (mkF m 222 #[.val (.int p1), .val (.int p2), .val (.int p3), .val (.int (Int32.ofNat n)), .val (.ref b0), .val (.ref b1), .val (.double d), .second, .val (.int (4 : Int32)), .unset, .unset] [])) _
            refine XS.goto X64.here hx rfl (pc0 := 222) (pc' := 259) rfl (hb hby at_222) (by decide) (by decide) ?_
            exact k9
          exact j259 _ (Or.inr ⟨3, (own_ltn hn (by decide) hA : 3 < n), (by rw [show own_bit p2 3 = 1 from if_neg hB]; decide), fun j hj => hz j hj (Nat.lt_trans hj (own_ltn hn (by decide) hA)), rfl⟩)
      · refine go (T64.setTop (mkF m 225 #[.val (.int p1), .val (.int p2), .val (.int p3), .val (.int (Int32.ofNat n)), .val (.ref b0), .val (.ref b1), .val (.double d), .second, .val (.int (0 : Int32)), .unset, .unset] [])) _ (fun t9 k9 => ?_) ?_
        · show Steps p.tables e below (T64.setTop (mkF m 209 #[.val (.int p1), .val (.int p2), .val (.int p3), .val (.int (Int32.ofNat n)), .val (.ref b0), .val (.ref b1), .val (.double d), .second, .val (.int (0 : Int32)), .unset, .unset] [(.int (3 : Int32)), (.int (Int32.ofNat n))])) _
          refine XS.icmpYes X64.here hx rfl (pc0 := 209) (pc' := 225) rfl (hb hby at_209) rfl (flt hA).2.2.2 (by decide) (by decide) ?_
          exact k9
        exact k4 (fun j hj hjn => by
          by_cases q : j < 3
          · exact hz j q hjn
          · obtain rfl : j = 3 := by omega
            exact absurd (show n ≤ 3 from own_gen hn (by decide) hA) (by omega))
    intro hz
    refine own_cps (A := ∀ (hz : ∀ j, j < 5 → j < n → own_bit p2 j = 0), G (T64.setTop (mkF m 243 #[.val (.int p1), .val (.int p2), .val (.int p3), .val (.int (Int32.ofNat n)), .val (.ref b0), .val (.ref b1), .val (.double d), .second, .val (.int (0 : Int32)), .unset, .unset] []))) (fun k5 => ?_) ?_
    · refine go (T64.setTop (mkF m 227 #[.val (.int p1), .val (.int p2), .val (.int p3), .val (.int (Int32.ofNat n)), .val (.ref b0), .val (.ref b1), .val (.double d), .second, .val (.int (0 : Int32)), .unset, .unset] [(.int (4 : Int32)), (.int (Int32.ofNat n))])) _ (fun t9 k9 => ?_) ?_
      · show Steps p.tables e below (T64.setTop (mkF m 225 #[.val (.int p1), .val (.int p2), .val (.int p3), .val (.int (Int32.ofNat n)), .val (.ref b0), .val (.ref b1), .val (.double d), .second, .val (.int (0 : Int32)), .unset, .unset] [])) _
        refine XS.iloadN X64.here hx rfl (hb hby at_225) rfl ?_
        show Steps p.tables e below (T64.setTop (mkF m 226 #[.val (.int p1), .val (.int p2), .val (.int p3), .val (.int (Int32.ofNat n)), .val (.ref b0), .val (.ref b1), .val (.double d), .second, .val (.int (0 : Int32)), .unset, .unset] [(.int (Int32.ofNat n))])) _
        refine XS.iconst X64.here hx rfl (hb hby at_226) ?_
        exact k9
      by_cases hA : (4 : Int32) < (Int32.ofNat n)
      · refine go (T64.setTop (mkF m 234 #[.val (.int p1), .val (.int p2), .val (.int p3), .val (.int (Int32.ofNat n)), .val (.ref b0), .val (.ref b1), .val (.double d), .second, .val (.int (0 : Int32)), .unset, .unset] [(.int (p2 &&& (16 : Int32)))])) _ (fun t9 k9 => ?_) ?_
        · show Steps p.tables e below (T64.setTop (mkF m 227 #[.val (.int p1), .val (.int p2), .val (.int p3), .val (.int (Int32.ofNat n)), .val (.ref b0), .val (.ref b1), .val (.double d), .second, .val (.int (0 : Int32)), .unset, .unset] [(.int (4 : Int32)), (.int (Int32.ofNat n))])) _
          refine XS.icmpNo X64.here hx rfl (hb hby at_227) rfl (tlt hA).2.2.2 ?_
          show Steps p.tables e below (T64.setTop (mkF m 230 #[.val (.int p1), .val (.int p2), .val (.int p3), .val (.int (Int32.ofNat n)), .val (.ref b0), .val (.ref b1), .val (.double d), .second, .val (.int (0 : Int32)), .unset, .unset] [])) _
          refine XS.iloadN X64.here hx rfl (hb hby at_230) rfl ?_
          show Steps p.tables e below (T64.setTop (mkF m 231 #[.val (.int p1), .val (.int p2), .val (.int p3), .val (.int (Int32.ofNat n)), .val (.ref b0), .val (.ref b1), .val (.double d), .second, .val (.int (0 : Int32)), .unset, .unset] [(.int p2)])) _
          refine XS.bipush X64.here hx rfl (hb hby at_231) ?_
          show Steps p.tables e below (T64.setTop (mkF m 233 #[.val (.int p1), .val (.int p2), .val (.int p3), .val (.int (Int32.ofNat n)), .val (.ref b0), .val (.ref b1), .val (.double d), .second, .val (.int (0 : Int32)), .unset, .unset] [(.int (16 : Int32)), (.int p2)])) _
          refine XS.iand X64.here hx rfl (hb hby at_233) rfl ?_
          exact k9
        by_cases hB : (p2 &&& (16 : Int32)) = (0 : Int32)
        · refine go (T64.setTop (mkF m 243 #[.val (.int p1), .val (.int p2), .val (.int p3), .val (.int (Int32.ofNat n)), .val (.ref b0), .val (.ref b1), .val (.double d), .second, .val (.int (0 : Int32)), .unset, .unset] [])) _ (fun t9 k9 => ?_) ?_
          · show Steps p.tables e below (T64.setTop (mkF m 234 #[.val (.int p1), .val (.int p2), .val (.int p3), .val (.int (Int32.ofNat n)), .val (.ref b0), .val (.ref b1), .val (.double d), .second, .val (.int (0 : Int32)), .unset, .unset] [(.int (p2 &&& (16 : Int32)))])) _
            refine XS.ifYes X64.here hx rfl (pc0 := 234) (pc' := 243) rfl (hb hby at_234) rfl ((if0 _ _).trans (teq hB).1) (by decide) (by decide) ?_
            exact k9
          exact k5 (fun j hj hjn => by
            by_cases q : j < 4
            · exact hz j q hjn
            · obtain rfl : j = 4 := by omega
              exact (if_pos hB : own_bit p2 4 = 0))
        · refine go (T64.setTop (mkF m 259 #[.val (.int p1), .val (.int p2), .val (.int p3), .val (.int (Int32.ofNat n)), .val (.ref b0), .val (.ref b1), .val (.double d), .second, .val (.int (5 : Int32)), .unset, .unset] [])) _ (fun t9 k9 => ?_) ?_
          · show Steps p.tables e below (T64.setTop (mkF m 234 #[.val (.int p1), .val (.int p2), .val (.int p3), .val (.int (Int32.ofNat n)), .val (.ref b0), .val (.ref b1), .val (.double d), .second, .val (.int (0 : Int32)), .unset, .unset] [(.int (p2 &&& (16 : Int32)))])) _
            refine XS.ifNo X64.here hx rfl (hb hby at_234) rfl ((if0 _ _).trans (feq hB).1) ?_
            show Steps p.tables e below (T64.setTop (mkF m 237 #[.val (.int p1), .val (.int p2), .val (.int p3), .val (.int (Int32.ofNat n)), .val (.ref b0), .val (.ref b1), .val (.double d), .second, .val (.int (0 : Int32)), .unset, .unset] [])) _
            refine XS.iconst X64.here hx rfl (hb hby at_237) ?_
            show Steps p.tables e below (T64.setTop (mkF m 238 #[.val (.int p1), .val (.int p2), .val (.int p3), .val (.int (Int32.ofNat n)), .val (.ref b0), .val (.ref b1), .val (.double d), .second, .val (.int (0 : Int32)), .unset, .unset] [(.int (5 : Int32))])) _
            refine XS.istore X64.here hx rfl (hb hby at_238) rfl (l' := #[.val (.int p1), .val (.int p2), .val (.int p3), .val (.int (Int32.ofNat n)), .val (.ref b0), .val (.ref b1), .val (.double d), .second, .val (.int (5 : Int32)), .unset, .unset]) rfl ?_
            show Steps p.tables e below (T64.setTop (mkF m 240 #[.val (.int p1), .val (.int p2), .val (.int p3), .val (.int (Int32.ofNat n)), .val (.ref b0), .val (.ref b1), .val (.double d), .second, .val (.int (5 : Int32)), .unset, .unset] [])) _
            refine XS.goto X64.here hx rfl (pc0 := 240) (pc' := 259) rfl (hb hby at_240) (by decide) (by decide) ?_
            exact k9
          exact j259 _ (Or.inr ⟨4, (own_ltn hn (by decide) hA : 4 < n), (by rw [show own_bit p2 4 = 1 from if_neg hB]; decide), fun j hj => hz j hj (Nat.lt_trans hj (own_ltn hn (by decide) hA)), rfl⟩)
      · refine go (T64.setTop (mkF m 243 #[.val (.int p1), .val (.int p2), .val (.int p3), .val (.int (Int32.ofNat n)), .val (.ref b0), .val (.ref b1), .val (.double d), .second, .val (.int (0 : Int32)), .unset, .unset] [])) _ (fun t9 k9 => ?_) ?_
        · show Steps p.tables e below (T64.setTop (mkF m 227 #[.val (.int p1), .val (.int p2), .val (.int p3), .val (.int (Int32.ofNat n)), .val (.ref b0), .val (.ref b1), .val (.double d), .second, .val (.int (0 : Int32)), .unset, .unset] [(.int (4 : Int32)), (.int (Int32.ofNat n))])) _
          refine XS.icmpYes X64.here hx rfl (pc0 := 227) (pc' := 243) rfl (hb hby at_227) rfl (flt hA).2.2.2 (by decide) (by decide) ?_
          exact k9
        exact k5 (fun j hj hjn => by
          by_cases q : j < 4
          · exact hz j q hjn
          · obtain rfl : j = 4 := by omega
            exact absurd (show n ≤ 4 from own_gen hn (by decide) hA) (by omega))
    intro hz
    refine go (T64.setTop (mkF m 245 #[.val (.int p1), .val (.int p2), .val (.int p3), .val (.int (Int32.ofNat n)), .val (.ref b0), .val (.ref b1), .val (.double d), .second, .val (.int (0 : Int32)), .unset, .unset] [(.int (5 : Int32)), (.int (Int32.ofNat n))])) _ (fun t9 k9 => ?_) ?_
    · show Steps p.tables e below (T64.setTop (mkF m 243 #[.val (.int p1), .val (.int p2), .val (.int p3), .val (.int (Int32.ofNat n)), .val (.ref b0), .val (.ref b1), .val (.double d), .second, .val (.int (0 : Int32)), .unset, .unset] [])) _
      refine XS.iloadN X64.here hx rfl (hb hby at_243) rfl ?_
      show Steps p.tables e below (T64.setTop (mkF m 244 #[.val (.int p1), .val (.int p2), .val (.int p3), .val (.int (Int32.ofNat n)), .val (.ref b0), .val (.ref b1), .val (.double d), .second, .val (.int (0 : Int32)), .unset, .unset] [(.int (Int32.ofNat n))])) _
      refine XS.iconst X64.here hx rfl (hb hby at_244) ?_
      exact k9
    by_cases hA : (5 : Int32) < (Int32.ofNat n)
    · refine go (T64.setTop (mkF m 252 #[.val (.int p1), .val (.int p2), .val (.int p3), .val (.int (Int32.ofNat n)), .val (.ref b0), .val (.ref b1), .val (.double d), .second, .val (.int (0 : Int32)), .unset, .unset] [(.int (p2 &&& (32 : Int32)))])) _ (fun t9 k9 => ?_) ?_
      · show Steps p.tables e below (T64.setTop (mkF m 245 #[.val (.int p1), .val (.int p2), .val (.int p3), .val (.int (Int32.ofNat n)), .val (.ref b0), .val (.ref b1), .val (.double d), .second, .val (.int (0 : Int32)), .unset, .unset] [(.int (5 : Int32)), (.int (Int32.ofNat n))])) _
        refine XS.icmpNo X64.here hx rfl (hb hby at_245) rfl (tlt hA).2.2.2 ?_
        show Steps p.tables e below (T64.setTop (mkF m 248 #[.val (.int p1), .val (.int p2), .val (.int p3), .val (.int (Int32.ofNat n)), .val (.ref b0), .val (.ref b1), .val (.double d), .second, .val (.int (0 : Int32)), .unset, .unset] [])) _
        refine XS.iloadN X64.here hx rfl (hb hby at_248) rfl ?_
        show Steps p.tables e below (T64.setTop (mkF m 249 #[.val (.int p1), .val (.int p2), .val (.int p3), .val (.int (Int32.ofNat n)), .val (.ref b0), .val (.ref b1), .val (.double d), .second, .val (.int (0 : Int32)), .unset, .unset] [(.int p2)])) _
        refine XS.bipush X64.here hx rfl (hb hby at_249) ?_
        show Steps p.tables e below (T64.setTop (mkF m 251 #[.val (.int p1), .val (.int p2), .val (.int p3), .val (.int (Int32.ofNat n)), .val (.ref b0), .val (.ref b1), .val (.double d), .second, .val (.int (0 : Int32)), .unset, .unset] [(.int (32 : Int32)), (.int p2)])) _
        refine XS.iand X64.here hx rfl (hb hby at_251) rfl ?_
        exact k9
      by_cases hB : (p2 &&& (32 : Int32)) = (0 : Int32)
      · refine go (T64.setTop (mkF m 259 #[.val (.int p1), .val (.int p2), .val (.int p3), .val (.int (Int32.ofNat n)), .val (.ref b0), .val (.ref b1), .val (.double d), .second, .val (.int (0 : Int32)), .unset, .unset] [])) _ (fun t9 k9 => ?_) ?_
        · show Steps p.tables e below (T64.setTop (mkF m 252 #[.val (.int p1), .val (.int p2), .val (.int p3), .val (.int (Int32.ofNat n)), .val (.ref b0), .val (.ref b1), .val (.double d), .second, .val (.int (0 : Int32)), .unset, .unset] [(.int (p2 &&& (32 : Int32)))])) _
          refine XS.ifYes X64.here hx rfl (pc0 := 252) (pc' := 259) rfl (hb hby at_252) rfl ((if0 _ _).trans (teq hB).1) (by decide) (by decide) ?_
          exact k9
        refine j259 _ (Or.inl ⟨rfl, fun j hjn => ?_⟩)
        by_cases q : j < 5
        · exact hz j q hjn
        · obtain rfl : j = 5 := by omega
          exact (if_pos hB : own_bit p2 5 = 0)
      · refine go (T64.setTop (mkF m 259 #[.val (.int p1), .val (.int p2), .val (.int p3), .val (.int (Int32.ofNat n)), .val (.ref b0), .val (.ref b1), .val (.double d), .second, .val (.int (6 : Int32)), .unset, .unset] [])) _ (fun t9 k9 => ?_) ?_
        · show Steps p.tables e below (T64.setTop (mkF m 252 #[.val (.int p1), .val (.int p2), .val (.int p3), .val (.int (Int32.ofNat n)), .val (.ref b0), .val (.ref b1), .val (.double d), .second, .val (.int (0 : Int32)), .unset, .unset] [(.int (p2 &&& (32 : Int32)))])) _
          refine XS.ifNo X64.here hx rfl (hb hby at_252) rfl ((if0 _ _).trans (feq hB).1) ?_
          show Steps p.tables e below (T64.setTop (mkF m 255 #[.val (.int p1), .val (.int p2), .val (.int p3), .val (.int (Int32.ofNat n)), .val (.ref b0), .val (.ref b1), .val (.double d), .second, .val (.int (0 : Int32)), .unset, .unset] [])) _
          refine XS.bipush X64.here hx rfl (hb hby at_255) ?_
          show Steps p.tables e below (T64.setTop (mkF m 257 #[.val (.int p1), .val (.int p2), .val (.int p3), .val (.int (Int32.ofNat n)), .val (.ref b0), .val (.ref b1), .val (.double d), .second, .val (.int (0 : Int32)), .unset, .unset] [(.int (6 : Int32))])) _
          refine XS.istore X64.here hx rfl (hb hby at_257) rfl (l' := #[.val (.int p1), .val (.int p2), .val (.int p3), .val (.int (Int32.ofNat n)), .val (.ref b0), .val (.ref b1), .val (.double d), .second, .val (.int (6 : Int32)), .unset, .unset]) rfl ?_
          exact k9
        exact j259 _ (Or.inr ⟨5, (own_ltn hn (by decide) hA : 5 < n), (by rw [show own_bit p2 5 = 1 from if_neg hB]; decide), fun j hj => hz j hj (Nat.lt_trans hj (own_ltn hn (by decide) hA)), rfl⟩)
    · refine go (T64.setTop (mkF m 259 #[.val (.int p1), .val (.int p2), .val (.int p3), .val (.int (Int32.ofNat n)), .val (.ref b0), .val (.ref b1), .val (.double d), .second, .val (.int (0 : Int32)), .unset, .unset] [])) _ (fun t9 k9 => ?_) ?_
      · show Steps p.tables e below (T64.setTop (mkF m 245 #[.val (.int p1), .val (.int p2), .val (.int p3), .val (.int (Int32.ofNat n)), .val (.ref b0), .val (.ref b1), .val (.double d), .second, .val (.int (0 : Int32)), .unset, .unset] [(.int (5 : Int32)), (.int (Int32.ofNat n))])) _
        refine XS.icmpYes X64.here hx rfl (pc0 := 245) (pc' := 259) rfl (hb hby at_245) rfl (flt hA).2.2.2 (by decide) (by decide) ?_
        exact k9
      refine j259 _ (Or.inl ⟨rfl, fun j hjn => ?_⟩)
      by_cases q : j < 5
      · exact hz j q hjn
      · obtain rfl : j = 5 := by omega
        exact absurd (show n ≤ 5 from own_gen hn (by decide) hA) (by omega)
  intro fi hfi
  refine go (T64.setTop (mkF m 261 #[.val (.int p1), .val (.int p2), .val (.int p3), .val (.int (Int32.ofNat n)), .val (.ref b0), .val (.ref b1), .val (.double d), .second, .val (.int fi), .unset, .unset] [(.int fi)])) _ (fun t9 k9 => ?_) ?_
  · show Steps p.tables e below (T64.setTop (mkF m 259 #[.val (.int p1), .val (.int p2), .val (.int p3), .val (.int (Int32.ofNat n)), .val (.ref b0), .val (.ref b1), .val (.double d), .second, .val (.int fi), .unset, .unset] [])) _
    refine XS.iload X64.here hx rfl (hb hby at_259) rfl ?_
    exact k9
  refine go (T64.setTop (mkF m 273 #[.val (.int p1), .val (.int p2), .val (.int p3), .val (.int (Int32.ofNat n)), .val (.ref b0), .val (.ref b1), .val (.double d), .second, .val (.int fi), .unset, .unset] [(.double (if fi = (0 : Int32) then (0 : UInt64) else (FP.ddiv (4607182418800017408 : UInt64) (FP.i2d fi))))])) _ (fun t9 k9 => ?_) ?_
  · by_cases h261_1 : fi = (0 : Int32)
    · try (simp only [if_pos h261_1] at k9)
      show Steps p.tables e below (T64.setTop (mkF m 261 #[.val (.int p1), .val (.int p2), .val (.int p3), .val (.int (Int32.ofNat n)), .val (.ref b0), .val (.ref b1), .val (.double d), .second, .val (.int fi), .unset, .unset] [(.int fi)])) _
      refine XS.ifNo X64.here hx rfl (hb hby at_261) rfl ((if0 _ _).trans (teq h261_1).2) ?_
      show Steps p.tables e below (T64.setTop (mkF m 264 #[.val (.int p1), .val (.int p2), .val (.int p3), .val (.int (Int32.ofNat n)), .val (.ref b0), .val (.ref b1), .val (.double d), .second, .val (.int fi), .unset, .unset] [])) _
      refine XS.dconst0 X64.here hx rfl (hb hby at_264) rfl ?_
      show Steps p.tables e below (T64.setTop (mkF m 265 #[.val (.int p1), .val (.int p2), .val (.int p3), .val (.int (Int32.ofNat n)), .val (.ref b0), .val (.ref b1), .val (.double d), .second, .val (.int fi), .unset, .unset] [(.double (0 : UInt64))])) _
      refine XS.goto X64.here hx rfl (pc0 := 265) (pc' := 273) rfl (hb hby at_265) (by decide) (by decide) ?_
      exact k9
    · try (simp only [if_neg h261_1] at k9)
      show Steps p.tables e below (T64.setTop (mkF m 261 #[.val (.int p1), .val (.int p2), .val (.int p3), .val (.int (Int32.ofNat n)), .val (.ref b0), .val (.ref b1), .val (.double d), .second, .val (.int fi), .unset, .unset] [(.int fi)])) _
      refine XS.ifYes X64.here hx rfl (pc0 := 261) (pc' := 268) rfl (hb hby at_261) rfl ((if0 _ _).trans (feq h261_1).2) (by decide) (by decide) ?_
      show Steps p.tables e below (T64.setTop (mkF m 268 #[.val (.int p1), .val (.int p2), .val (.int p3), .val (.int (Int32.ofNat n)), .val (.ref b0), .val (.ref b1), .val (.double d), .second, .val (.int fi), .unset, .unset] [])) _
      refine XS.dconst1 X64.here hx rfl (hb hby at_268) rfl ?_
      show Steps p.tables e below (T64.setTop (mkF m 269 #[.val (.int p1), .val (.int p2), .val (.int p3), .val (.int (Int32.ofNat n)), .val (.ref b0), .val (.ref b1), .val (.double d), .second, .val (.int fi), .unset, .unset] [(.double (4607182418800017408 : UInt64))])) _
      refine XS.iload X64.here hx rfl (hb hby at_269) rfl ?_
      show Steps p.tables e below (T64.setTop (mkF m 271 #[.val (.int p1), .val (.int p2), .val (.int p3), .val (.int (Int32.ofNat n)), .val (.ref b0), .val (.ref b1), .val (.double d), .second, .val (.int fi), .unset, .unset] [(.int fi), (.double (4607182418800017408 : UInt64))])) _
      refine XS.i2dS X64.here hx rfl (hb hby at_271) rfl rfl ?_
      show Steps p.tables e below (T64.setTop (mkF m 272 #[.val (.int p1), .val (.int p2), .val (.int p3), .val (.int (Int32.ofNat n)), .val (.ref b0), .val (.ref b1), .val (.double d), .second, .val (.int fi), .unset, .unset] [(.double (FP.i2d fi)), (.double (4607182418800017408 : UInt64))])) _
      refine XS.ddivS X64.here hx rfl (hb hby at_272) rfl (own_nq h261_1) rfl ?_
      exact k9
  refine go (T64.setTop (mkF m 279 #[.val (.int p1), .val (.int p2), .val (.int p3), .val (.int (Int32.ofNat n)), .val (.ref b0), .val (.ref b1), .val (.double d), .second, .val (.int fi), .val (.double (if fi = (0 : Int32) then (0 : UInt64) else (FP.ddiv (4607182418800017408 : UInt64) (FP.i2d fi)))), .second] [(.double (if fi = (0 : Int32) then (0 : UInt64) else (FP.ddiv (4607182418800017408 : UInt64) (FP.i2d fi)))), (.double d)])) _ (fun t9 k9 => ?_) ?_
  · show Steps p.tables e below (T64.setTop (mkF m 273 #[.val (.int p1), .val (.int p2), .val (.int p3), .val (.int (Int32.ofNat n)), .val (.ref b0), .val (.ref b1), .val (.double d), .second, .val (.int fi), .unset, .unset] [(.double (if fi = (0 : Int32) then (0 : UInt64) else (FP.ddiv (4607182418800017408 : UInt64) (FP.i2d fi))))])) _
    refine XS.dstore X64.here hx rfl (hb hby at_273) rfl (l' := #[.val (.int p1), .val (.int p2), .val (.int p3), .val (.int (Int32.ofNat n)), .val (.ref b0), .val (.ref b1), .val (.double d), .second, .val (.int fi), .val (.double (if fi = (0 : Int32) then (0 : UInt64) else (FP.ddiv (4607182418800017408 : UInt64) (FP.i2d fi)))), .second]) rfl ?_
    show Steps p.tables e below (T64.setTop (mkF m 275 #[.val (.int p1), .val (.int p2), .val (.int p3), .val (.int (Int32.ofNat n)), .val (.ref b0), .val (.ref b1), .val (.double d), .second, .val (.int fi), .val (.double (if fi = (0 : Int32) then (0 : UInt64) else (FP.ddiv (4607182418800017408 : UInt64) (FP.i2d fi)))), .second] [])) _
    refine XS.dload X64.here hx rfl (hb hby at_275) rfl ?_
    show Steps p.tables e below (T64.setTop (mkF m 277 #[.val (.int p1), .val (.int p2), .val (.int p3), .val (.int (Int32.ofNat n)), .val (.ref b0), .val (.ref b1), .val (.double d), .second, .val (.int fi), .val (.double (if fi = (0 : Int32) then (0 : UInt64) else (FP.ddiv (4607182418800017408 : UInt64) (FP.i2d fi)))), .second] [(.double d)])) _
    refine XS.dload X64.here hx rfl (hb hby at_277) rfl ?_
    exact k9
  have hge : d = (if fi = (0 : Int32) then (0 : UInt64) else (FP.ddiv (4607182418800017408 : UInt64) (FP.i2d fi))) := own_same hn hd hfi
  refine go (T64.setTop (mkF m 288 #[.val (.int p1), .val (.int p2), .val (.int p3), .val (.int (Int32.ofNat n)), .val (.ref b0), .val (.ref b1), .val (.double d), .second, .val (.int fi), .val (.double (if fi = (0 : Int32) then (0 : UInt64) else (FP.ddiv (4607182418800017408 : UInt64) (FP.i2d fi)))), .second] [(.int (1 : Int32))])) _ (fun t9 k9 => ?_) ?_
  · show Steps p.tables e below (T64.setTop (mkF m 279 #[.val (.int p1), .val (.int p2), .val (.int p3), .val (.int (Int32.ofNat n)), .val (.ref b0), .val (.ref b1), .val (.double d), .second, .val (.int fi), .val (.double (if fi = (0 : Int32) then (0 : UInt64) else (FP.ddiv (4607182418800017408 : UInt64) (FP.i2d fi)))), .second] [(.double (if fi = (0 : Int32) then (0 : UInt64) else (FP.ddiv (4607182418800017408 : UInt64) (FP.i2d fi)))), (.double d)])) _
    refine XS.dcmpS X64.here hx rfl (hb hby at_279) rfl (dcmpV_eq hge (hge ▸ own_expn fi) .l) ?_
    show Steps p.tables e below (T64.setTop (mkF m 280 #[.val (.int p1), .val (.int p2), .val (.int p3), .val (.int (Int32.ofNat n)), .val (.ref b0), .val (.ref b1), .val (.double d), .second, .val (.int fi), .val (.double (if fi = (0 : Int32) then (0 : UInt64) else (FP.ddiv (4607182418800017408 : UInt64) (FP.i2d fi)))), .second] [(.int (0 : Int32))])) _
    refine XS.ifNo X64.here hx rfl (hb hby at_280) rfl ((if0 _ _).trans (teq (rfl : (0 : Int32) = (0 : Int32))).2) ?_
    show Steps p.tables e below (T64.setTop (mkF m 283 #[.val (.int p1), .val (.int p2), .val (.int p3), .val (.int (Int32.ofNat n)), .val (.ref b0), .val (.ref b1), .val (.double d), .second, .val (.int fi), .val (.double (if fi = (0 : Int32) then (0 : UInt64) else (FP.ddiv (4607182418800017408 : UInt64) (FP.i2d fi)))), .second] [])) _
    refine XS.iconst X64.here hx rfl (hb hby at_283) ?_
    show Steps p.tables e below (T64.setTop (mkF m 284 #[.val (.int p1), .val (.int p2), .val (.int p3), .val (.int (Int32.ofNat n)), .val (.ref b0), .val (.ref b1), .val (.double d), .second, .val (.int fi), .val (.double (if fi = (0 : Int32) then (0 : UInt64) else (FP.ddiv (4607182418800017408 : UInt64) (FP.i2d fi)))), .second] [(.int (1 : Int32))])) _
    refine XS.goto X64.here hx rfl (pc0 := 284) (pc' := 288) rfl (hb hby at_284) (by decide) (by decide) ?_
    exact k9
  obtain ⟨fs, hr, hrun, hended, hW, hsame⟩ := X64.leave (v := some (.int (1 : Int32))) (fun h => by rw [Bd.returns] at h; cases h)
  refine fin _ ⟨_, _, retN X64 hx (t := .boolean) Bd.returns (by simp) (hb hby at_288) hr, hrun, hended, _, _, rfl, ?_, ⟨_, rfl⟩, hW, hsame.mono (by decide) (by decide)⟩
  show Q0 Z p1 p2 p3 h0 n0 _ T64.heap _
  exact ⟨rfl, N64⟩
set_option maxRecDepth 65536 in
set_option maxHeartbeats 40000000 in
theorem comes_1 {Post : Tables → Env → Array Value → State → Outcome → State → Prop} (hpost : ∀ tb e args s v u, (limb_1_1.after args s (.returned v) u = true ∧ limb_1_2.after args s (.returned v) u = true ∧ True) → FrameEnd s (.returned v) u (Jvm.fieldLocs frame_1_writes args s ++ Jvm.arrayLocs frame_1_arrays args s ++ Jvm.staticLocs frame_1_statics s) 16 128 → Post tb e args s (.returned v) u) :
    ArmFor flags0 classFile x code maxLocals ret World_1 tables_1 room_1 Calls_1 rest_1 Pre_1 Post := by
  intro l hfl _ _ p e ha hc hk s m args below hf hA hF happ hP
  obtain ⟨hcalls, hrest, hpre⟩ := hP
  obtain ⟨-, -, -, hnamed, -, -, -, hat⟩ := (Spec.applies_iff hf).mp happ
  obtain ⟨hg, hn⟩ := and_e (Cond.before_iff.mp (show (Jvm.Cond.and given_1 narrow_1).before args s = true from hpre))
  obtain ⟨hcnt, hq0⟩ := and_e hg
  obtain ⟨ha0, hq1⟩ := and_e hq0
  obtain ⟨ha1, hq2⟩ := and_e hq1
  obtain ⟨w0, w1, w2, rfl⟩ : ∃ w0 w1 w2 : Value, args = #[w0, w1, w2] := by
    have hs : args.size = 3 := by simpa [Cond.value, given_1] using hcnt
    obtain ⟨L⟩ := args
    match L, hs with
    | [w0, w1, w2], _ => exact ⟨w0, w1, w2, rfl⟩
  have hw := fun d (hd : d ∈ tables_1) => atoms_spec (ws := Jvm.Cond.code x code maxLocals ret :: tables_1) hat d (List.mem_cons_of_mem _ hd)
  obtain ⟨i0, ei0⟩ := is_v ha0
  obtain rfl : w0 = (.int i0) := Option.some.inj ei0
  obtain ⟨i1, ei1⟩ := is_v ha1
  obtain rfl : w1 = (.int i1) := Option.some.inj ei1
  obtain ⟨i2, ei2⟩ := is_v hq2
  obtain rfl : w2 = (.int i2) := Option.some.inj ei2
  obtain ⟨n, o, h1, h2, h3, _, L, rfl, ⟨rfl, N⟩, hq⟩ := rm0 l s _ hw tables_1 i0 i1 i2 s.heap s.heap.size (Nat.le_refl _) p e ha hc hk s m _ below hf ((Spec.applies_iff_loose hf).mp happ).1 ⟨rfl, State.Warmed39.refl s, rfl⟩ trivial
  refine ⟨n, _, h1, h2, h3, hpost _ _ _ _ _ _ ⟨Cond.after_iff.mpr rfl, Cond.after_iff.mpr (eq_i res_at (Term.int_eval (1)) rfl), trivial⟩ ⟨hq.1, hq.2.1, (hq.2.2.sift fun y hy => Or.inr (N y hy)).mono (by decide) (by decide)⟩⟩
theorem main_1_1 : Claimed_1_1 := comes_1 fun _ _ _ _ _ _ h hF => ⟨h.1, hF⟩
theorem main_1_2 : Claimed_1_2 := comes_1 fun _ _ _ _ _ _ h hF => ⟨h.2.1, hF⟩
end Jvm.Pilot.@@N@@
namespace Jvm.Pilot.@@N@@
open Jvm Jvm.ClassFile Sem Op Lib Jvm.Free Jvm.Stand Jvm.Pilot.@@N@@.Jvm.D
/-! MADE BY PROGRAM (witnessworld.py) out of the Statement's table words and the real class files: 11 classes; the members and pool entries that the words name. The judged class is class 1, her method 1. -/
namespace start1
open Jvm.ClassFile
def u (s : String) : CpInfo := .utf8 (stringToUtf16 s)
/-- a pool by its gaps: so many unusable entries, then the entry; so many at the end -/
def gap : Nat → List CpInfo → List CpInfo
  | 0, r => r
  | n + 1, r => .unusable :: gap n r
def poolList (es : List (Nat × CpInfo)) (last : Nat) : List CpInfo := es.foldr (fun e r => gap e.1 (e.2 :: r)) (gap last [])
def pool (es : List (Nat × CpInfo)) (last : Nat) : Array CpInfo := ⟨poolList es last⟩
def fileOf (pool : Array CpInfo) (this : Nat) (attrs : Array Attribute := #[]) (ms : Array MethodInfo := #[]) (fl : Nat := 33) (sup : Nat := 0) (ifs : Array Nat := #[]) (fds : Array FieldInfo := #[]) : ClassFile where
  minorVersion := 0
  majorVersion := 65
  constantPool := pool
  accessFlags := fl
  thisClass := this
  superClass := sup
  interfaces := ifs
  fields := fds
  methods := ms
  attributes := attrs
def plain (name : String) (sup : Option ClassId) : Class where
  name := name
  kind := .ordinary
  loader := none
  accessFlags := 33
  super := sup
  interfaces := #[]
  cf := none
  fields := #[]
  methods := #[]
  instanceTypes := #[]
  staticTypes := #[]
  resolved := #[]
  callSites := []
  init := .initialized
  statics := none
  mirror := none

def pool0 : Array CpInfo := pool [(5, u "<init>"), (0, u "()V"), (1, .class_ 10), (1, u "java/lang/Object")] 113

def k0c0 : Code := { maxStack := 0, maxLocals := 1, code := object_method_1_code, exceptionTable := #[], attributes := #[] }
def k0m0 : Method := { name := "<init>", desc := "()V", sig := { parameters := [], returnType := none }, accessFlags := 1, code := some k0c0 }
/-- java/lang/Object -/
def k0 : Class := { plain "java/lang/Object" none with
  accessFlags := 33
  interfaces := #[]
  cf := some (fileOf pool0 8 #[] #[{ accessFlags := 1, nameIndex := 5, descriptorIndex := 6, attributes := #[] }] 33 0 #[] #[])
  fields := #[]
  methods := #[k0m0]
  instanceTypes := #[]
  staticTypes := #[]
  resolved := Array.replicate 124 none
  statics := none }

def pool1 : Array CpInfo := pool [(2, .class_ 4), (1, u "java/lang/Object"), (0, u "<init>"), (0, u "()V"), (0, .integer 2147483647), (0, .class_ 9), (0, u "com/example/vervet/vervet/core/RankedTopic"), (0, .methodref 8 11), (0, .nameAndType 5 12), (0, u "([ZI)V"), (0, .methodref 8 14), (0, .nameAndType 15 16), (0, u "reciprocalRank"), (0, u "()D"), (0, .class_ 18), (0, u "com/example/vervet/vervet/core/RankedTopicReciprocalRankPinLaw"), (2, u "law"), (0, u "(III)Z")] 5

def k1m0 : Method := { name := "<init>", desc := "()V", sig := { parameters := [], returnType := none }, accessFlags := 1, code := none }
def k1c1 : Code := { maxStack := 4, maxLocals := 11, code := code, exceptionTable := #[], attributes := #[] }
def k1m1 : Method := { name := "law", desc := "(III)Z", sig := { parameters := [.int, .int, .int], returnType := some .boolean }, accessFlags := 9, code := some k1c1 }
/-- com/example/vervet/vervet/core/RankedTopicReciprocalRankPinLaw -/
def k1 : Class := { plain "com/example/vervet/vervet/core/RankedTopicReciprocalRankPinLaw" (some 0) with
  accessFlags := 49
  interfaces := #[]
  cf := some (fileOf pool1 17 #[] #[{ accessFlags := 1, nameIndex := 5, descriptorIndex := 6, attributes := #[] }, { accessFlags := 9, nameIndex := 21, descriptorIndex := 22, attributes := #[] }] 49 2 #[] #[])
  fields := #[]
  methods := #[k1m0, k1m1]
  instanceTypes := #[]
  staticTypes := #[]
  resolved := Array.replicate 28 none
  statics := none }

def pool2 : Array CpInfo := pool [(1, .methodref 2 3), (0, .class_ 4), (0, .nameAndType 5 6), (0, u "java/lang/Object"), (0, u "<init>"), (0, u "()V"), (0, .fieldref 8 9), (0, .class_ 10), (0, .nameAndType 11 12), (0, u "com/example/vervet/vervet/core/RankedTopic"), (0, u "relevant"), (0, u "[Z"), (0, .fieldref 8 14), (0, .nameAndType 15 16), (0, u "relevantCount"), (0, u "I"), (10, u "([ZI)V"), (6, u "()D"), (1, u "reciprocalRank")] 5

def k2c0 : Code := { maxStack := 2, maxLocals := 3, code := prog_33_method_1_code, exceptionTable := #[], attributes := #[] }
def k2m0 : Method := { name := "<init>", desc := "([ZI)V", sig := { parameters := [(.array .boolean), .int], returnType := none }, accessFlags := 0, code := some k2c0 }
def k2c1 : Code := { maxStack := 4, maxLocals := 2, code := prog_33_method_6_code, exceptionTable := #[], attributes := #[] }
def k2m1 : Method := { name := "reciprocalRank", desc := "()D", sig := { parameters := [], returnType := some .double }, accessFlags := 0, code := some k2c1 }
/-- com/example/vervet/vervet/core/RankedTopic -/
def k2 : Class := { plain "com/example/vervet/vervet/core/RankedTopic" (some 0) with
  accessFlags := 48
  interfaces := #[]
  cf := some (fileOf pool2 8 #[] #[{ accessFlags := 0, nameIndex := 5, descriptorIndex := 27, attributes := #[] }, { accessFlags := 0, nameIndex := 36, descriptorIndex := 34, attributes := #[] }] 48 2 #[] #[{ accessFlags := 18, nameIndex := 11, descriptorIndex := 12, attributes := #[] }, { accessFlags := 18, nameIndex := 15, descriptorIndex := 16, attributes := #[] }])
  fields := #[{ name := "relevant", type := (.array .boolean), accessFlags := 18, slot := 0, constantValue := 0 }, { name := "relevantCount", type := .int, accessFlags := 18, slot := 1, constantValue := 0 }]
  methods := #[k2m0, k2m1]
  instanceTypes := #[(.array .boolean), .int]
  staticTypes := #[]
  resolved := Array.replicate 42 none
  statics := none }

def pool3 : Array CpInfo := pool [(1, u "java/lang/Cloneable"), (0, .class_ 1), (0, u "java/lang/Object"), (0, .class_ 3)] 3

/-- java/lang/Cloneable -/
def k3 : Class := { plain "java/lang/Cloneable" (some 0) with
  accessFlags := 1537
  interfaces := #[]
  cf := some (fileOf pool3 2 #[] #[] 1537 4 #[] #[])
  fields := #[]
  methods := #[]
  instanceTypes := #[]
  staticTypes := #[]
  resolved := Array.replicate 8 none
  statics := none }

def pool4 : Array CpInfo := pool [(1, u "java/io/Serializable"), (0, .class_ 1), (0, u "java/lang/Object"), (0, .class_ 3)] 3

/-- java/io/Serializable -/
def k4 : Class := { plain "java/io/Serializable" (some 0) with
  accessFlags := 1537
  interfaces := #[]
  cf := some (fileOf pool4 2 #[] #[] 1537 4 #[] #[])
  fields := #[]
  methods := #[]
  instanceTypes := #[]
  staticTypes := #[]
  resolved := Array.replicate 8 none
  statics := none }

/-- the primitive boolean -/
def k5 : Class := { plain "boolean" none with kind := .primitive 'Z', accessFlags := 0x411 }
/-- [Z -/
def k6 : Class := { plain "[Z" (some 0) with kind := .array 5 .boolean, interfaces := #[3, 4], accessFlags := 1041 }

/-- the primitive byte -/
def k7 : Class := { plain "byte" none with kind := .primitive 'B', accessFlags := 0x411 }
/-- [B -/
def k8 : Class := { plain "[B" (some 0) with kind := .array 7 .byte, interfaces := #[3, 4], accessFlags := 1041 }

/-- the primitive int -/
def k9 : Class := { plain "int" none with kind := .primitive 'I', accessFlags := 0x411 }
/-- [I -/
def k10 : Class := { plain "[I" (some 0) with kind := .array 9 .int, interfaces := #[3, 4], accessFlags := 1041 }

def heap : Heap := #[]
def classes : Array Class := #[k0, k1, k2, k3, k4, k5, k6, k7, k8, k9, k10]
def interned : List (Array UInt16 × Addr) := []
def slotsUsed : Nat := 0
def theMethod : MethodId := ⟨1, 1⟩
def args0 : Array Value := #[.int 5, .int 6, .int 7]
def aboutOver (below : List Frame) : State where
  vm := { classes := classes, interned := interned.toArray }
  heap := heap
  slotsUsed := slotsUsed
  threads := #[{ frames := .invoking theMethod args0 :: below }]
def below0 : List Frame := [.native { method := ⟨0, 0⟩, args := #[] }]
def about1 : State := aboutOver below0
def p0 : Program := .bare "" "" ""
def e0 : Env := launch0.env 0 0 0
theorem w_frames : about1.frames = Frame.invoking theMethod args0 :: below0 := rfl
set_option maxRecDepth 65536 in
theorem w_args : argsFit about1.vm theMethod args0 = true := by decide +kernel
set_option maxRecDepth 65536 in
theorem w_heap : heapFits about1 = true := by decide +kernel
set_option maxRecDepth 65536 in
theorem w_runnable : about1.curStatus? = some .runnable := by decide +kernel
set_option maxRecDepth 65536 in
theorem w_alone : about1.alone = true := by decide +kernel
set_option maxRecDepth 65536 in
theorem w_named : about1.methodNamed? x = some theMethod := by decide +kernel
set_option maxRecDepth 65536 in
theorem w_hears : about1.hears theMethod below0 = true := by decide +kernel
set_option maxRecDepth 65536 in
theorem w_ripe : about1.ripe theMethod args0 below0 = true := by decide +kernel
theorem w_running : about1.status = .running := rfl
set_option maxRecDepth 65536 in
theorem w_room : about1.hasRoom e0.platform room_1 = true :=
  launch0.hasRoom_least _ room_1 (by decide +kernel) (by decide +kernel) (by decide +kernel) (by decide +kernel) (by decide +kernel) (by decide +kernel)
theorem allAtoms_all (ts : List Jvm.Cond) (a : Array Jvm.Value) (st : Jvm.State) : (allAtoms ts).before a st = ts.all (fun c => c.before a st) := by
  induction ts with
  | nil => rfl
  | cons c t ih =>
    show (Jvm.Cond.and c (allAtoms t)).before a st = _
    rw [Jvm.Cond.before_and, ih, List.all_cons]
def words1 : List Jvm.Cond := Jvm.Cond.code x code maxLocals ret :: tables_1
/-- a 'code' word, met by the world's own term for the bytes: nothing is compared byte by byte -/
theorem code_word {y : MethodName} {bytes : ByteArray} {mx : Nat} {rt : Option FieldType} {a : Array Value} {s : State} {m : MethodId} {meth : Method} {c : Code} (h1 : s.methodNamed? y = some m) (h2 : s.vm.method? m = some meth) (h3 : meth.code = some c) (h4 : c.code = bytes)
    (h5 : (c.maxLocals == mx && c.exceptionTable.isEmpty && decide (c.maxStack ≤ mostOperands) && decide (meth.sig.returnType = rt) && !meth.locks && decide (parseMethodDescriptor y.desc = some meth.sig)) = true) : (Jvm.Cond.code y bytes mx rt).before a s = true := by
  simp only [Bool.and_eq_true, beq_iff_eq, Bool.not_eq_true', decide_eq_true_eq] at h5
  obtain ⟨⟨⟨⟨⟨g1, g2⟩, g3⟩, g4⟩, g5⟩, g6⟩ := h5
  simp [Cond.before, Cond.holds, Cond.value, h1, h2, h3, h4, g1, g2, g3, g4, g5, g6]
def isCode : Jvm.Cond → Bool
  | .code _ _ _ _ => true
  | _ => false
theorem all_split {L : List Jvm.Cond} {P : Jvm.Cond → Bool} (h1 : L.all (fun c => isCode c || P c) = true) (h2 : ∀ c ∈ L.filter isCode, P c = true) : L.all P = true := by
  refine List.all_eq_true.mpr fun c hc => ?_
  have h := List.all_eq_true.mp h1 c hc
  rcases Bool.eq_false_or_eq_true (isCode c) with hi | hi
  · exact h2 c (List.mem_filter.mpr ⟨hc, hi⟩)
  · simpa [hi] using h
set_option maxRecDepth 65536 in
theorem w_c0 : (Jvm.Cond.code x code maxLocals ret).before args0 about1 = true := code_word (m := ⟨1, 1⟩) (meth := k1m1) (c := k1c1) (by decide +kernel) rfl rfl rfl (by decide +kernel)
set_option maxRecDepth 65536 in
theorem w_c1 : (Jvm.Cond.code ({ cls := "com/example/vervet/vervet/core/RankedTopic", name := "<init>", desc := "([ZI)V" } : Jvm.MethodName) prog_33_method_1_code (3 : Nat) (Option.none : Option Jvm.ClassFile.FieldType)).before args0 about1 = true := code_word (m := ⟨2, 0⟩) (meth := k2m0) (c := k2c0) (by decide +kernel) rfl rfl rfl (by decide +kernel)
set_option maxRecDepth 65536 in
theorem w_c2 : (Jvm.Cond.code ({ cls := "java/lang/Object", name := "<init>", desc := "()V" } : Jvm.MethodName) object_method_1_code (1 : Nat) (Option.none : Option Jvm.ClassFile.FieldType)).before args0 about1 = true := code_word (m := ⟨0, 0⟩) (meth := k0m0) (c := k0c0) (by decide +kernel) rfl rfl rfl (by decide +kernel)
set_option maxRecDepth 65536 in
theorem w_c3 : (Jvm.Cond.code ({ cls := "com/example/vervet/vervet/core/RankedTopic", name := "reciprocalRank", desc := "()D" } : Jvm.MethodName) prog_33_method_6_code (2 : Nat) (Option.some Jvm.ClassFile.FieldType.double)).before args0 about1 = true := code_word (m := ⟨2, 1⟩) (meth := k2m1) (c := k2c1) (by decide +kernel) rfl rfl rfl (by decide +kernel)
def codes1 : List Jvm.Cond := [Jvm.Cond.code x code maxLocals ret, Jvm.Cond.code ({ cls := "com/example/vervet/vervet/core/RankedTopic", name := "<init>", desc := "([ZI)V" } : Jvm.MethodName) prog_33_method_1_code (3 : Nat) (Option.none : Option Jvm.ClassFile.FieldType), Jvm.Cond.code ({ cls := "java/lang/Object", name := "<init>", desc := "()V" } : Jvm.MethodName) object_method_1_code (1 : Nat) (Option.none : Option Jvm.ClassFile.FieldType), Jvm.Cond.code ({ cls := "com/example/vervet/vervet/core/RankedTopic", name := "reciprocalRank", desc := "()D" } : Jvm.MethodName) prog_33_method_6_code (2 : Nat) (Option.some Jvm.ClassFile.FieldType.double)]
set_option maxRecDepth 65536 in
theorem codes_eq : words1.filter isCode = codes1 := rfl
theorem w_codes : ∀ c ∈ words1.filter isCode, c.before args0 about1 = true := by
  rw [codes_eq]
  intro c hc
  simp only [codes1, List.mem_cons, List.not_mem_nil, or_false] at hc
  rcases hc with rfl | rfl | rfl | rfl
  · exact w_c0
  · exact w_c1
  · exact w_c2
  · exact w_c3
set_option maxRecDepth 65536 in
theorem w_t1 : words1.all (fun c => isCode c || c.before args0 about1) = true := by decide +kernel
theorem w_tables : (allAtoms (Jvm.Cond.code x code maxLocals ret :: tables_1)).before args0 about1 = true := by
  rw [allAtoms_all]
  show words1.all (fun c => c.before args0 about1) = true
  refine all_split ?_ w_codes
  rw [w_t1]
set_option maxRecDepth 65536 in
theorem w_case : (Jvm.Cond.and given_1 narrow_1).before args0 about1 = true := by decide +kernel
theorem w_applies : (headSpec (Jvm.Cond.code x code maxLocals ret :: tables_1) room_1).applies x e0.platform about1 = true :=
  (Spec.applies_iff w_frames).mpr ⟨w_running, w_runnable, w_alone, w_named, w_hears, w_ripe, w_room, w_tables⟩
theorem atStart : AtStart classFile x code maxLocals ret World_1 tables_1 room_1 Calls_1 rest_1 Pre_1 launch0 p0 e0 about1 theMethod args0 below0 :=
  ⟨lists_1, trivial, launch0.admits_env _ _ _, launch0.least_env, fairChoices_fair.cas, fairChoices_fair.clock, w_frames, w_args, w_heap, w_applies, trivial, trivial, w_case⟩
end start1
theorem witness_1 : WitnessClaimed_1 := ⟨start1.p0, start1.e0, start1.about1, start1.theMethod, start1.args0, start1.below0, start1.atStart⟩
end Jvm.Pilot.@@N@@
