import JvmDerived
import JvmDerived.Pilot.@@N@@Statement
import JvmDerived.Pilot.@@N@@Code
set_option linter.unusedVariables false
set_option linter.unusedSimpArgs false
namespace Jvm.Pilot.@@N@@
open Jvm Jvm.ClassFile Sem Op Lib Jvm.Free Jvm.Stand Jvm.LawKit Jvm.RoadKit Bundle Jvm.Free.Fl Jvm.Pilot.@@N@@.Jvm.D
theorem own_go {tb : Tables} {e : Env} {below : List Frame} {A B : State} {F : State → Outcome → Prop} (h : ∀ t, Steps tb e below A t → Steps tb e below B t) (k : ∃ s₂ o, Steps tb e below A s₂ ∧ F s₂ o) : ∃ s₂ o, Steps tb e below B s₂ ∧ F s₂ o := by
  obtain ⟨s₂, o, h1, h2⟩ := k
  exact ⟨s₂, o, h _ h1, h2⟩
theorem own_open {tb : Tables} {e : Env} {below : List Frame} {B : State} {F : State → Outcome → Prop} (h : ∀ G : State → Prop, (∀ A B, (∀ t, Steps tb e below A t → Steps tb e below B t) → G A → G B) → (∀ A, (∃ s₂ o, Steps tb e below A s₂ ∧ F s₂ o) → G A) → G B) : ∃ s₂ o, Steps tb e below B s₂ ∧ F s₂ o :=
  h (fun A => ∃ s₂ o, Steps tb e below A s₂ ∧ F s₂ o) (fun _ _ => own_go) (fun _ k => k)
/-! what compareHighestFirst returns, as the bytecode has it -/
def own_cmp (a b : UInt64) : Int32 := if cmpValue (FP.dcmp a b) .l = (0 : Int32) then 0 else if (0 : Int32) < cmpValue (FP.dcmp a b) .l then -1 else 1
/-- doubles that are whole numbers compare as these do; -0.0 is the whole number 0 -/
theorem own_neg0 : FP.Core.DInt 0 (9223372036854775808 : UInt64) := by
  have h : FP.Core.val64 (9223372036854775808 : UInt64) = .fin true 0 (-1074) := by decide +kernel
  show FP.Core.Whole 0 (FP.Core.val64 _)
  rw [h]
  show FP.Core.signed true (0 * 2 ^ ((-1074 : Int)).toNat) = 0 * ((2 ^ (-(-1074 : Int)).toNat : Nat) : Int)
  rw [Nat.zero_mul, Int.zero_mul]
  rfl
theorem own_cmp_whole {i j : Int} {a b : UInt64} (ha : FP.Core.DInt i a) (hb : FP.Core.DInt j b) : own_cmp a b = if j < i then -1 else if i < j then 1 else 0 := by
  have h : FP.dcmp a b = some (compare i j) := FP.Core.order_whole ha hb
  have e : compare i j = if i < j then .lt else if i = j then .eq else .gt := rfl
  unfold own_cmp
  rw [h, e]
  by_cases h1 : i < j
  · have h2 : ¬ j < i := by omega
    simp [h1, h2, cmpValue]
  · by_cases h2 : i = j
    · subst h2; simp [cmpValue]
    · have h3 : j < i := by omega
      simp [h1, h2, h3, cmpValue]
theorem own_l2d {x : Int64} (h1 : -9007199254740992 < x.toInt) (h2 : x.toInt < 9007199254740992) : FP.Core.DInt x.toInt (FP.l2d x) := FP.Core.l2d_whole ⟨h1, h2⟩
theorem own_sub1 (y : Int32) : -1 ≤ ((y &&& (3 : Int32)) - (1 : Int32)).toInt ∧ ((y &&& (3 : Int32)) - (1 : Int32)).toInt ≤ 2 := by
  have h1 := c_and y 3 (by decide)
  have h2 := c_isub (y &&& 3) 1
  have h3 := rng32 ((y &&& (3 : Int32)) - (1 : Int32))
  have h4 : (3 : Int32).toInt = 3 := rfl
  have h5 : (1 : Int32).toInt = 1 := rfl
  omega
theorem own_add {a b : Int64} (h1 : -4611686018427387904 < a.toInt) (h2 : a.toInt < 4611686018427387904) (h3 : -4611686018427387904 < b.toInt) (h4 : b.toInt < 4611686018427387904) : (a + b).toInt = a.toInt + b.toInt := by
  have q := c_ladd a b
  have r := rng64 (a + b)
  omega
theorem own_wide (x : Int32) : -2147483648 ≤ x.toInt64.toInt ∧ x.toInt64.toInt < 2147483648 := by
  rw [c_i2l]; exact rng32 x
/-- THE LAW ON NUMBERS: whatever the flags, the two doubles are the whole numbers xa, yb -/
theorem own_law {x y f : Int32} {xa yb : Int64} {da db : UInt64} {ex : Int32}
    (hxa : (if (f &&& (1 : Int32)) = (0 : Int32) then (x.toInt64) else (0 : Int64)) = xa)
    (hyb : (if (f &&& (4 : Int32)) = (0 : Int32) then (if (f &&& (16 : Int32)) = (0 : Int32) then (y.toInt64) else (xa + (((y &&& (3 : Int32)) - (1 : Int32)).toInt64))) else (0 : Int64)) = yb)
    (hda : (if (f &&& (1 : Int32)) = (0 : Int32) then (FP.l2d xa) else (if (f &&& (2 : Int32)) = (0 : Int32) then (FP.l2d xa) else (9223372036854775808 : UInt64))) = da)
    (hdb : (if (f &&& (4 : Int32)) = (0 : Int32) then (FP.l2d yb) else (if (f &&& (8 : Int32)) = (0 : Int32) then (FP.l2d yb) else (9223372036854775808 : UInt64))) = db)
    (hex : (if (0 : Int32) < (lcmpW xa yb) then (-1 : Int32) else (if (lcmpW xa yb) < (0 : Int32) then (1 : Int32) else (0 : Int32))) = ex) : own_cmp da db = ex := by
  have z0 : (0 : Int64).toInt = 0 := rfl
  have bx : -2147483648 ≤ xa.toInt ∧ xa.toInt < 2147483648 := by
    have q := own_wide x
    rw [← hxa]
    split
    · exact q
    · rw [z0]; omega
  have b3 : -1 ≤ (((y &&& (3 : Int32)) - (1 : Int32)).toInt64).toInt ∧ (((y &&& (3 : Int32)) - (1 : Int32)).toInt64).toInt ≤ 2 := by
    rw [c_i2l]; exact own_sub1 y
  have bs : (xa + (((y &&& (3 : Int32)) - (1 : Int32)).toInt64)).toInt = xa.toInt + (((y &&& (3 : Int32)) - (1 : Int32)).toInt64).toInt := own_add (by omega) (by omega) (by omega) (by omega)
  have by' : -4294967296 ≤ yb.toInt ∧ yb.toInt < 4294967296 := by
    have q := own_wide y
    rw [← hyb]
    split
    · split
      · omega
      · rw [bs]; omega
    · rw [z0]; omega
  have Da : FP.Core.DInt xa.toInt da := by
    have q := own_l2d (x := xa) (by omega) (by omega)
    rw [← hda]
    by_cases g1 : (f &&& (1 : Int32)) = (0 : Int32)
    · rw [if_pos g1]; exact q
    · rw [if_neg g1]
      by_cases g2 : (f &&& (2 : Int32)) = (0 : Int32)
      · rw [if_pos g2]; exact q
      · rw [if_neg g2, ← hxa, if_neg g1]; exact own_neg0
  have Db : FP.Core.DInt yb.toInt db := by
    have q := own_l2d (x := yb) (by omega) (by omega)
    rw [← hdb]
    by_cases g1 : (f &&& (4 : Int32)) = (0 : Int32)
    · rw [if_pos g1]; exact q
    · rw [if_neg g1]
      by_cases g2 : (f &&& (8 : Int32)) = (0 : Int32)
      · rw [if_pos g2]; exact q
      · rw [if_neg g2, ← hyb, if_neg g1]; exact own_neg0
  rw [own_cmp_whole Da Db, ← hex]
  by_cases g1 : yb.toInt < xa.toInt
  · rw [if_pos g1, if_pos ((lw_gt xa yb).mpr (Int64.lt_iff_toInt_lt.mpr g1))]
  · rw [if_neg g1, if_neg (fun q => g1 (Int64.lt_iff_toInt_lt.mp ((lw_gt xa yb).mp q)))]
    by_cases g2 : xa.toInt < yb.toInt
    · rw [if_pos g2, if_pos ((lw_lt xa yb).mpr (Int64.lt_iff_toInt_lt.mpr g2))]
    · rw [if_neg g2, if_neg (fun q => g2 (Int64.lt_iff_toInt_lt.mp ((lw_lt xa yb).mp q)))]
theorem ef_1 (m : MethodId) (x0 : UInt64) (x1 : UInt64) : entryFrame m #[(.double x0), (.double x1)] 4 = mkF m 0 #[.val (.double x0), .second, .val (.double x1), .second] [] := by first | (simp [entryFrame, mkF, argsToLocals, Value.category]; done) | rfl
theorem pn_com_example_nabu_nabu_merge_MergeMethod : plainName "com/example/nabu/nabu/merge/MergeMethod" = true := by first | (simp [plainName, overriddenIn]; done) | decide +kernel
theorem d1_0 : decode prog_27_method_10_code 0 = .ok (.dload_n 0, 1) := by decide +kernel
theorem d1_1 : decode prog_27_method_10_code 1 = .ok (.dload_n 2, 1) := by decide +kernel
theorem d1_2 : decode prog_27_method_10_code 2 = .ok (.dcmp .l, 1) := by decide +kernel
theorem d1_3 : decode prog_27_method_10_code 3 = .ok (.ifCond .eq 15, 3) := by decide +kernel
theorem d1_18 : decode prog_27_method_10_code 18 = .ok (.iconst 0, 1) := by decide +kernel
theorem d1_19 : decode prog_27_method_10_code 19 = .ok (.ireturn, 1) := by decide +kernel
theorem d1_6 : decode prog_27_method_10_code 6 = .ok (.dload_n 0, 1) := by decide +kernel
theorem d1_7 : decode prog_27_method_10_code 7 = .ok (.dload_n 2, 1) := by decide +kernel
theorem d1_8 : decode prog_27_method_10_code 8 = .ok (.dcmp .l, 1) := by decide +kernel
theorem d1_9 : decode prog_27_method_10_code 9 = .ok (.ifCond .le 7, 3) := by decide +kernel
theorem d1_12 : decode prog_27_method_10_code 12 = .ok (.iconst (-1), 1) := by decide +kernel
theorem d1_13 : decode prog_27_method_10_code 13 = .ok (.goto 4, 3) := by decide +kernel
theorem d1_17 : decode prog_27_method_10_code 17 = .ok (.ireturn, 1) := by decide +kernel
theorem d1_16 : decode prog_27_method_10_code 16 = .ok (.iconst 1, 1) := by decide +kernel
theorem ef_0 (m : MethodId) (x0 : Int32) (x1 : Int32) (x2 : Int32) : entryFrame m #[(.int x0), (.int x1), (.int x2)] maxLocals = mkF m 0 #[.val (.int x0), .val (.int x1), .val (.int x2), .unset, .unset, .unset, .unset, .unset, .unset, .unset, .unset, .unset] [] := by first | (simp [entryFrame, mkF, argsToLocals, Value.category, maxLocals]; done) | rfl
theorem pn_com_example_nabu_nabu_merge_MergeMethodCompareHighestFirstPinLaw : plainName "com/example/nabu/nabu/merge/MergeMethodCompareHighestFirstPinLaw" = true := by first | (simp [plainName, overriddenIn]; done) | decide +kernel
theorem pd__28DD_29I : parseMethodDescriptor "(DD)I" = some ⟨[.double, .double], some .int⟩ := by decide +kernel
def Q1 (Z : State) (d1 d2 : UInt64) (h0 : Heap) (n0 : Nat) (v : Option Value) (h : Heap) (L : List Loc) : Prop := v = some (.int (own_cmp d1 d2)) ∧ Fr n0 L ∧ h = h0
set_option maxRecDepth 65536 in
set_option maxHeartbeats 40000000 in
theorem rm1 (l : Launch) (Z : State) (a0 : Array Value) (hw : ∀ d ∈ tables_1, d.before a0 Z = true) (ws : List Jvm.Cond) (d1 : UInt64) (d2 : UInt64)  (h0 : Heap) (n0 : Nat) (Z0 : n0 ≤ h0.size)  :
    MetFree l (⟨"com/example/nabu/nabu/merge/MergeMethod", "compareHighestFirst", "(DD)I"⟩ : MethodName) (head1 (Jvm.Cond.code (⟨"com/example/nabu/nabu/merge/MergeMethod", "compareHighestFirst", "(DD)I"⟩ : MethodName) prog_27_method_10_code 4 (some .int) :: ws) ({ frames := 0, cells := 0, slots := 0, locals := 0 } : Room)) (fun a U => a = #[(.double d1), (.double d2)] ∧ Z.Warmed39 U.vm ∧ U.heap = h0) (fun _ _ _ _ _ => True) (fun _ U o U' => ∃ v L, o = .returned v ∧ Q1 Z d1 d2 h0 n0 v U'.heap L ∧ FrameEnd U o U' L ({ frames := 0, cells := 0, slots := 0, locals := 0 } : Room).cells ({ frames := 0, cells := 0, slots := 0, locals := 0 } : Room).slots) := by
  refine MetFree.of_bodySF (plainFor_of_name pn_com_example_nabu_nabu_merge_MergeMethod) hisR ?_
  intro p e s m args below meth c s₁ Bd hml0 hP hK
  obtain ⟨rfl, hZ, hh⟩ := hP
  have hx := Bd.exec
  have hby := Bd.bytes
  have hml : c.maxLocals = 4 := hml0
  have hown : s.vm.findClass "com/example/nabu/nabu/merge/MergeMethod" = some m.cls := findClass_of_methodNamed Bd.named
  have hnm := (name_of_methodNamed Bd.named Bd.method).1
  have X0 : Stand p l e ({ frames := 0, cells := 0, slots := 0, locals := 0 } : Room) s m #[(.double d1), (.double d2)] below meth c s₁ [] 0 0 := Stand.of_body Bd
  have e0 : s₁.heap = h0 := by rw [← hh, Bd.state]; rfl
  have N0 := Fr.nil n0
  refine own_open (fun G go fin => ?_)
  refine go (s₁.setTop (mkF m 0 #[.val (.double d1), .second, .val (.double d2), .second] [])) _ (fun t k => castTop (ef_1 m d1 d2) k) ?_
  refine go (s₁.setTop (mkF m 3 #[.val (.double d1), .second, .val (.double d2), .second] [(.int (cmpValue (FP.dcmp d1 d2) .l))])) _ (fun t k => ?_) ?_
  · show Steps p.tables e below (s₁.setTop (mkF m 0 #[.val (.double d1), .second, .val (.double d2), .second] [])) _
    refine XS.dloadN X0.here hx rfl (hb hby d1_0) rfl ?_
    show Steps p.tables e below (s₁.setTop (mkF m 1 #[.val (.double d1), .second, .val (.double d2), .second] [(.double d1)])) _
    refine XS.dloadN X0.here hx rfl (hb hby d1_1) rfl ?_
    show Steps p.tables e below (s₁.setTop (mkF m 2 #[.val (.double d1), .second, .val (.double d2), .second] [(.double d2), (.double d1)])) _
    refine XS.dcmpS X0.here hx rfl (hb hby d1_2) rfl rfl ?_
    exact k
  by_cases h3 : (cmpValue (FP.dcmp d1 d2) .l) = (0 : Int32)
  · refine go (s₁.setTop (mkF m 19 #[.val (.double d1), .second, .val (.double d2), .second] [(.int (0 : Int32))])) _ (fun t k => ?_) ?_
    · show Steps p.tables e below (s₁.setTop (mkF m 3 #[.val (.double d1), .second, .val (.double d2), .second] [(.int (cmpValue (FP.dcmp d1 d2) .l))])) _
      refine XS.ifYes X0.here hx rfl (pc0 := 3) (pc' := 18) rfl (hb hby d1_3) rfl ((if0 _ _).trans (teq h3).1) (by decide) (by decide) ?_
      show Steps p.tables e below (s₁.setTop (mkF m 18 #[.val (.double d1), .second, .val (.double d2), .second] [])) _
      refine XS.iconst X0.here hx rfl (hb hby d1_18) ?_
      exact k
    obtain ⟨fs, hr, hrun, hended, hW, hsame⟩ := X0.leave (v := some (.int (0 : Int32))) (fun h => by rw [Bd.returns] at h; cases h)
    refine fin _ ⟨_, _, retOut X0 hx (t := .int) Bd.returns rfl (Or.inl ⟨rfl, Or.inl rfl, _, rfl⟩) (hb hby d1_19) hr, hrun, hended, _, _, rfl, ?_, ⟨_, rfl⟩, hW, hsame.mono (by decide) (by decide)⟩
    show Q1 Z d1 d2 h0 n0 _ s₁.heap _
    rw [e0]
    exact ⟨by simp only [own_cmp, if_pos h3], N0, rfl⟩
  · refine go (s₁.setTop (mkF m 9 #[.val (.double d1), .second, .val (.double d2), .second] [(.int (cmpValue (FP.dcmp d1 d2) .l))])) _ (fun t k => ?_) ?_
    · show Steps p.tables e below (s₁.setTop (mkF m 3 #[.val (.double d1), .second, .val (.double d2), .second] [(.int (cmpValue (FP.dcmp d1 d2) .l))])) _
      refine XS.ifNo X0.here hx rfl (hb hby d1_3) rfl ((if0 _ _).trans (feq h3).1) ?_
      show Steps p.tables e below (s₁.setTop (mkF m 6 #[.val (.double d1), .second, .val (.double d2), .second] [])) _
      refine XS.dloadN X0.here hx rfl (hb hby d1_6) rfl ?_
      show Steps p.tables e below (s₁.setTop (mkF m 7 #[.val (.double d1), .second, .val (.double d2), .second] [(.double d1)])) _
      refine XS.dloadN X0.here hx rfl (hb hby d1_7) rfl ?_
      show Steps p.tables e below (s₁.setTop (mkF m 8 #[.val (.double d1), .second, .val (.double d2), .second] [(.double d2), (.double d1)])) _
      refine XS.dcmpS X0.here hx rfl (hb hby d1_8) rfl rfl ?_
      exact k
    by_cases h9 : (0 : Int32) < (cmpValue (FP.dcmp d1 d2) .l)
    · refine go (s₁.setTop (mkF m 17 #[.val (.double d1), .second, .val (.double d2), .second] [(.int (-1 : Int32))])) _ (fun t k => ?_) ?_
      · show Steps p.tables e below (s₁.setTop (mkF m 9 #[.val (.double d1), .second, .val (.double d2), .second] [(.int (cmpValue (FP.dcmp d1 d2) .l))])) _
        refine XS.ifNo X0.here hx rfl (hb hby d1_9) rfl ((if0 _ _).trans (tlt h9).2.2.2) ?_
        show Steps p.tables e below (s₁.setTop (mkF m 12 #[.val (.double d1), .second, .val (.double d2), .second] [])) _
        refine XS.iconst X0.here hx rfl (hb hby d1_12) ?_
        show Steps p.tables e below (s₁.setTop (mkF m 13 #[.val (.double d1), .second, .val (.double d2), .second] [(.int (-1 : Int32))])) _
        refine XS.goto X0.here hx rfl (pc0 := 13) (pc' := 17) rfl (hb hby d1_13) (by decide) (by decide) ?_
        exact k
      obtain ⟨fs, hr, hrun, hended, hW, hsame⟩ := X0.leave (v := some (.int (-1 : Int32))) (fun h => by rw [Bd.returns] at h; cases h)
      refine fin _ ⟨_, _, retOut X0 hx (t := .int) Bd.returns rfl (Or.inl ⟨rfl, Or.inl rfl, _, rfl⟩) (hb hby d1_17) hr, hrun, hended, _, _, rfl, ?_, ⟨_, rfl⟩, hW, hsame.mono (by decide) (by decide)⟩
      show Q1 Z d1 d2 h0 n0 _ s₁.heap _
      rw [e0]
      exact ⟨by simp only [own_cmp, if_neg h3, if_pos h9], N0, rfl⟩
    · refine go (s₁.setTop (mkF m 17 #[.val (.double d1), .second, .val (.double d2), .second] [(.int (1 : Int32))])) _ (fun t k => ?_) ?_
      · show Steps p.tables e below (s₁.setTop (mkF m 9 #[.val (.double d1), .second, .val (.double d2), .second] [(.int (cmpValue (FP.dcmp d1 d2) .l))])) _
        refine XS.ifYes X0.here hx rfl (pc0 := 9) (pc' := 16) rfl (hb hby d1_9) rfl ((if0 _ _).trans (flt h9).2.2.2) (by decide) (by decide) ?_
        show Steps p.tables e below (s₁.setTop (mkF m 16 #[.val (.double d1), .second, .val (.double d2), .second] [])) _
        refine XS.iconst X0.here hx rfl (hb hby d1_16) ?_
        exact k
      obtain ⟨fs, hr, hrun, hended, hW, hsame⟩ := X0.leave (v := some (.int (1 : Int32))) (fun h => by rw [Bd.returns] at h; cases h)
      refine fin _ ⟨_, _, retOut X0 hx (t := .int) Bd.returns rfl (Or.inl ⟨rfl, Or.inl rfl, _, rfl⟩) (hb hby d1_17) hr, hrun, hended, _, _, rfl, ?_, ⟨_, rfl⟩, hW, hsame.mono (by decide) (by decide)⟩
      show Q1 Z d1 d2 h0 n0 _ s₁.heap _
      rw [e0]
      exact ⟨by simp only [own_cmp, if_neg h3, if_neg h9], N0, rfl⟩
def Q0 (Z : State) (p1 p2 p3 : Int32) (h0 : Heap) (n0 : Nat) (v : Option Value) (h : Heap) (L : List Loc) : Prop := v = some (.int 1) ∧ Fr n0 L
set_option maxRecDepth 65536 in
set_option maxHeartbeats 40000000 in
theorem rm0 (l : Launch) (Z : State) (a0 : Array Value) (hw : ∀ d ∈ tables_1, d.before a0 Z = true) (ws : List Jvm.Cond) (p1 : Int32) (p2 : Int32) (p3 : Int32)  (h0 : Heap) (n0 : Nat) (Z0 : n0 ≤ h0.size)  :
    MetFree l x (head1 (Jvm.Cond.code x code maxLocals ret :: ws) room_1) (fun a U => a = #[(.int p1), (.int p2), (.int p3)] ∧ Z.Warmed39 U.vm ∧ U.heap = h0) (fun _ _ _ _ _ => True) (fun _ U o U' => ∃ v L, o = .returned v ∧ Q0 Z p1 p2 p3 h0 n0 v U'.heap L ∧ FrameEnd U o U' L room_1.cells room_1.slots) := by
  refine MetFree.of_bodySF (plainFor_of_name pn_com_example_nabu_nabu_merge_MergeMethodCompareHighestFirstPinLaw) hisR ?_
  intro p e s m args below meth c s₁ Bd hml0 hP hK
  obtain ⟨rfl, hZ, hh⟩ := hP
  have hx := Bd.exec
  have hby := Bd.bytes
  have hml : c.maxLocals = 12 := hml0
  have hown : s.vm.findClass "com/example/nabu/nabu/merge/MergeMethodCompareHighestFirstPinLaw" = some m.cls := findClass_of_methodNamed Bd.named
  have hnm := (name_of_methodNamed Bd.named Bd.method).1
  have X0 : Stand p l e room_1 s m #[(.int p1), (.int p2), (.int p3)] below meth c s₁ [] 0 0 := Stand.of_body Bd
  have e0 : s₁.heap = h0 := by rw [← hh, Bd.state]; rfl
  have N0 := Fr.nil n0
  refine own_open (fun G go fin => ?_)
  refine go (s₁.setTop (mkF m 0 #[.val (.int p1), .val (.int p2), .val (.int p3), .unset, .unset, .unset, .unset, .unset, .unset, .unset, .unset, .unset] [])) _ (fun t k => castTop (ef_0 m p1 p2 p3) k) ?_
  refine go (s₁.setTop (mkF m 12 #[.val (.int p1), .val (.int p2), .val (.int p3), .unset, .unset, .unset, .unset, .unset, .unset, .unset, .unset, .unset] [(.long (if (p3 &&& (1 : Int32)) = (0 : Int32) then (p1.toInt64) else (0 : Int64)))])) _ (fun t k => ?_) ?_
  · show Steps p.tables e below (s₁.setTop (mkF m 0 #[.val (.int p1), .val (.int p2), .val (.int p3), .unset, .unset, .unset, .unset, .unset, .unset, .unset, .unset, .unset] [])) _
    refine XS.iloadN X0.here hx rfl (hb hby at_0) rfl ?_
    show Steps p.tables e below (s₁.setTop (mkF m 1 #[.val (.int p1), .val (.int p2), .val (.int p3), .unset, .unset, .unset, .unset, .unset, .unset, .unset, .unset, .unset] [(.int p3)])) _
    refine XS.iconst X0.here hx rfl (hb hby at_1) ?_
    show Steps p.tables e below (s₁.setTop (mkF m 2 #[.val (.int p1), .val (.int p2), .val (.int p3), .unset, .unset, .unset, .unset, .unset, .unset, .unset, .unset, .unset] [(.int (1 : Int32)), (.int p3)])) _
    refine XS.iand X0.here hx rfl (hb hby at_2) rfl ?_
    by_cases h3_1 : (p3 &&& (1 : Int32)) = (0 : Int32)
    · try (simp only [if_pos h3_1] at k)
      show Steps p.tables e below (s₁.setTop (mkF m 3 #[.val (.int p1), .val (.int p2), .val (.int p3), .unset, .unset, .unset, .unset, .unset, .unset, .unset, .unset, .unset] [(.int (p3 &&& (1 : Int32)))])) _
      refine XS.ifYes X0.here hx rfl (pc0 := 3) (pc' := 10) rfl (hb hby at_3) rfl ((if0 _ _).trans (teq h3_1).1) (by decide) (by decide) ?_
      show Steps p.tables e below (s₁.setTop (mkF m 10 #[.val (.int p1), .val (.int p2), .val (.int p3), .unset, .unset, .unset, .unset, .unset, .unset, .unset, .unset, .unset] [])) _
      refine XS.iloadN X0.here hx rfl (hb hby at_10) rfl ?_
      show Steps p.tables e below (s₁.setTop (mkF m 11 #[.val (.int p1), .val (.int p2), .val (.int p3), .unset, .unset, .unset, .unset, .unset, .unset, .unset, .unset, .unset] [(.int p1)])) _
      refine XS.i2l X0.here hx rfl (hb hby at_11) rfl ?_
      exact k
    · try (simp only [if_neg h3_1] at k)
      show Steps p.tables e below (s₁.setTop (mkF m 3 #[.val (.int p1), .val (.int p2), .val (.int p3), .unset, .unset, .unset, .unset, .unset, .unset, .unset, .unset, .unset] [(.int (p3 &&& (1 : Int32)))])) _
      refine XS.ifNo X0.here hx rfl (hb hby at_3) rfl ((if0 _ _).trans (feq h3_1).1) ?_
      show Steps p.tables e below (s₁.setTop (mkF m 6 #[.val (.int p1), .val (.int p2), .val (.int p3), .unset, .unset, .unset, .unset, .unset, .unset, .unset, .unset, .unset] [])) _
      refine XS.lconst X0.here hx rfl (hb hby at_6) ?_
      show Steps p.tables e below (s₁.setTop (mkF m 7 #[.val (.int p1), .val (.int p2), .val (.int p3), .unset, .unset, .unset, .unset, .unset, .unset, .unset, .unset, .unset] [(.long (0 : Int64))])) _
      refine XS.goto X0.here hx rfl (pc0 := 7) (pc' := 12) rfl (hb hby at_7) (by decide) (by decide) ?_
      exact k
  generalize hxa : (if (p3 &&& (1 : Int32)) = (0 : Int32) then (p1.toInt64) else (0 : Int64)) = xa
  refine go (s₁.setTop (mkF m 13 #[.val (.int p1), .val (.int p2), .val (.int p3), .val (.long xa), .second, .unset, .unset, .unset, .unset, .unset, .unset, .unset] [])) _ (fun t k => ?_) ?_
  · show Steps p.tables e below (s₁.setTop (mkF m 12 #[.val (.int p1), .val (.int p2), .val (.int p3), .unset, .unset, .unset, .unset, .unset, .unset, .unset, .unset, .unset] [(.long xa)])) _
    refine XS.lstoreN X0.here hx rfl (hb hby at_12) rfl (l' := #[.val (.int p1), .val (.int p2), .val (.int p3), .val (.long xa), .second, .unset, .unset, .unset, .unset, .unset, .unset, .unset]) rfl ?_
    exact k
  refine go (s₁.setTop (mkF m 49 #[.val (.int p1), .val (.int p2), .val (.int p3), .val (.long xa), .second, .val (.long (if (p3 &&& (4 : Int32)) = (0 : Int32) then (if (p3 &&& (16 : Int32)) = (0 : Int32) then (p2.toInt64) else (xa + (((p2 &&& (3 : Int32)) - (1 : Int32)).toInt64))) else (0 : Int64))), .second, .unset, .unset, .unset, .unset, .unset] [])) _ (fun t k => ?_) ?_
  · show Steps p.tables e below (s₁.setTop (mkF m 13 #[.val (.int p1), .val (.int p2), .val (.int p3), .val (.long xa), .second, .unset, .unset, .unset, .unset, .unset, .unset, .unset] [])) _
    refine XS.iloadN X0.here hx rfl (hb hby at_13) rfl ?_
    show Steps p.tables e below (s₁.setTop (mkF m 14 #[.val (.int p1), .val (.int p2), .val (.int p3), .val (.long xa), .second, .unset, .unset, .unset, .unset, .unset, .unset, .unset] [(.int p3)])) _
    refine XS.iconst X0.here hx rfl (hb hby at_14) ?_
    show Steps p.tables e below (s₁.setTop (mkF m 15 #[.val (.int p1), .val (.int p2), .val (.int p3), .val (.long xa), .second, .unset, .unset, .unset, .unset, .unset, .unset, .unset] [(.int (4 : Int32)), (.int p3)])) _
    refine XS.iand X0.here hx rfl (hb hby at_15) rfl ?_
    by_cases h16_1 : (p3 &&& (4 : Int32)) = (0 : Int32)
    · try (simp only [if_pos h16_1] at k)
      show Steps p.tables e below (s₁.setTop (mkF m 16 #[.val (.int p1), .val (.int p2), .val (.int p3), .val (.long xa), .second, .unset, .unset, .unset, .unset, .unset, .unset, .unset] [(.int (p3 &&& (4 : Int32)))])) _
      refine XS.ifYes X0.here hx rfl (pc0 := 16) (pc' := 25) rfl (hb hby at_16) rfl ((if0 _ _).trans (teq h16_1).1) (by decide) (by decide) ?_
      show Steps p.tables e below (s₁.setTop (mkF m 25 #[.val (.int p1), .val (.int p2), .val (.int p3), .val (.long xa), .second, .unset, .unset, .unset, .unset, .unset, .unset, .unset] [])) _
      refine XS.iloadN X0.here hx rfl (hb hby at_25) rfl ?_
      show Steps p.tables e below (s₁.setTop (mkF m 26 #[.val (.int p1), .val (.int p2), .val (.int p3), .val (.long xa), .second, .unset, .unset, .unset, .unset, .unset, .unset, .unset] [(.int p3)])) _
      refine XS.bipush X0.here hx rfl (hb hby at_26) ?_
      show Steps p.tables e below (s₁.setTop (mkF m 28 #[.val (.int p1), .val (.int p2), .val (.int p3), .val (.long xa), .second, .unset, .unset, .unset, .unset, .unset, .unset, .unset] [(.int (16 : Int32)), (.int p3)])) _
      refine XS.iand X0.here hx rfl (hb hby at_28) rfl ?_
      by_cases h29_2 : (p3 &&& (16 : Int32)) = (0 : Int32)
      · try (simp only [if_pos h29_2] at k)
        show Steps p.tables e below (s₁.setTop (mkF m 29 #[.val (.int p1), .val (.int p2), .val (.int p3), .val (.long xa), .second, .unset, .unset, .unset, .unset, .unset, .unset, .unset] [(.int (p3 &&& (16 : Int32)))])) _
        refine XS.ifYes X0.here hx rfl (pc0 := 29) (pc' := 45) rfl (hb hby at_29) rfl ((if0 _ _).trans (teq h29_2).1) (by decide) (by decide) ?_
        show Steps p.tables e below (s₁.setTop (mkF m 45 #[.val (.int p1), .val (.int p2), .val (.int p3), .val (.long xa), .second, .unset, .unset, .unset, .unset, .unset, .unset, .unset] [])) _
        refine XS.iloadN X0.here hx rfl (hb hby at_45) rfl ?_
        show Steps p.tables e below (s₁.setTop (mkF m 46 #[.val (.int p1), .val (.int p2), .val (.int p3), .val (.long xa), .second, .unset, .unset, .unset, .unset, .unset, .unset, .unset] [(.int p2)])) _
        refine XS.i2l X0.here hx rfl (hb hby at_46) rfl ?_
        show Steps p.tables e below (s₁.setTop (mkF m 47 #[.val (.int p1), .val (.int p2), .val (.int p3), .val (.long xa), .second, .unset, .unset, .unset, .unset, .unset, .unset, .unset] [(.long (p2.toInt64))])) _
        refine XS.lstore X0.here hx rfl (hb hby at_47) rfl (l' := #[.val (.int p1), .val (.int p2), .val (.int p3), .val (.long xa), .second, .val (.long (p2.toInt64)), .second, .unset, .unset, .unset, .unset, .unset]) rfl ?_
        exact k
      · try (simp only [if_neg h29_2] at k)
        show Steps p.tables e below (s₁.setTop (mkF m 29 #[.val (.int p1), .val (.int p2), .val (.int p3), .val (.long xa), .second, .unset, .unset, .unset, .unset, .unset, .unset, .unset] [(.int (p3 &&& (16 : Int32)))])) _
        refine XS.ifNo X0.here hx rfl (hb hby at_29) rfl ((if0 _ _).trans (feq h29_2).1) ?_
        show Steps p.tables e below (s₁.setTop (mkF m 32 #[.val (.int p1), .val (.int p2), .val (.int p3), .val (.long xa), .second, .unset, .unset, .unset, .unset, .unset, .unset, .unset] [])) _
        refine XS.lloadN X0.here hx rfl (hb hby at_32) rfl ?_
        show Steps p.tables e below (s₁.setTop (mkF m 33 #[.val (.int p1), .val (.int p2), .val (.int p3), .val (.long xa), .second, .unset, .unset, .unset, .unset, .unset, .unset, .unset] [(.long xa)])) _
        refine XS.iloadN X0.here hx rfl (hb hby at_33) rfl ?_
        show Steps p.tables e below (s₁.setTop (mkF m 34 #[.val (.int p1), .val (.int p2), .val (.int p3), .val (.long xa), .second, .unset, .unset, .unset, .unset, .unset, .unset, .unset] [(.int p2), (.long xa)])) _
        refine XS.iconst X0.here hx rfl (hb hby at_34) ?_
        show Steps p.tables e below (s₁.setTop (mkF m 35 #[.val (.int p1), .val (.int p2), .val (.int p3), .val (.long xa), .second, .unset, .unset, .unset, .unset, .unset, .unset, .unset] [(.int (3 : Int32)), (.int p2), (.long xa)])) _
        refine XS.iand X0.here hx rfl (hb hby at_35) rfl ?_
        show Steps p.tables e below (s₁.setTop (mkF m 36 #[.val (.int p1), .val (.int p2), .val (.int p3), .val (.long xa), .second, .unset, .unset, .unset, .unset, .unset, .unset, .unset] [(.int (p2 &&& (3 : Int32))), (.long xa)])) _
        refine XS.iconst X0.here hx rfl (hb hby at_36) ?_
        show Steps p.tables e below (s₁.setTop (mkF m 37 #[.val (.int p1), .val (.int p2), .val (.int p3), .val (.long xa), .second, .unset, .unset, .unset, .unset, .unset, .unset, .unset] [(.int (1 : Int32)), (.int (p2 &&& (3 : Int32))), (.long xa)])) _
        refine XS.isub X0.here hx rfl (hb hby at_37) rfl ?_
        show Steps p.tables e below (s₁.setTop (mkF m 38 #[.val (.int p1), .val (.int p2), .val (.int p3), .val (.long xa), .second, .unset, .unset, .unset, .unset, .unset, .unset, .unset] [(.int ((p2 &&& (3 : Int32)) - (1 : Int32))), (.long xa)])) _
        refine XS.i2l X0.here hx rfl (hb hby at_38) rfl ?_
        show Steps p.tables e below (s₁.setTop (mkF m 39 #[.val (.int p1), .val (.int p2), .val (.int p3), .val (.long xa), .second, .unset, .unset, .unset, .unset, .unset, .unset, .unset] [(.long (((p2 &&& (3 : Int32)) - (1 : Int32)).toInt64)), (.long xa)])) _
        refine XS.ladd X0.here hx rfl (hb hby at_39) rfl ?_
        show Steps p.tables e below (s₁.setTop (mkF m 40 #[.val (.int p1), .val (.int p2), .val (.int p3), .val (.long xa), .second, .unset, .unset, .unset, .unset, .unset, .unset, .unset] [(.long (xa + (((p2 &&& (3 : Int32)) - (1 : Int32)).toInt64)))])) _
        refine XS.lstore X0.here hx rfl (hb hby at_40) rfl (l' := #[.val (.int p1), .val (.int p2), .val (.int p3), .val (.long xa), .second, .val (.long (xa + (((p2 &&& (3 : Int32)) - (1 : Int32)).toInt64))), .second, .unset, .unset, .unset, .unset, .unset]) rfl ?_
        show Steps p.tables e below (s₁.setTop (mkF m 42 #[.val (.int p1), .val (.int p2), .val (.int p3), .val (.long xa), .second, .val (.long (xa + (((p2 &&& (3 : Int32)) - (1 : Int32)).toInt64))), .second, .unset, .unset, .unset, .unset, .unset] [])) _
        refine XS.goto X0.here hx rfl (pc0 := 42) (pc' := 49) rfl (hb hby at_42) (by decide) (by decide) ?_
        exact k
    · try (simp only [if_neg h16_1] at k)
      show Steps p.tables e below (s₁.setTop (mkF m 16 #[.val (.int p1), .val (.int p2), .val (.int p3), .val (.long xa), .second, .unset, .unset, .unset, .unset, .unset, .unset, .unset] [(.int (p3 &&& (4 : Int32)))])) _
      refine XS.ifNo X0.here hx rfl (hb hby at_16) rfl ((if0 _ _).trans (feq h16_1).1) ?_
      show Steps p.tables e below (s₁.setTop (mkF m 19 #[.val (.int p1), .val (.int p2), .val (.int p3), .val (.long xa), .second, .unset, .unset, .unset, .unset, .unset, .unset, .unset] [])) _
      refine XS.lconst X0.here hx rfl (hb hby at_19) ?_
      show Steps p.tables e below (s₁.setTop (mkF m 20 #[.val (.int p1), .val (.int p2), .val (.int p3), .val (.long xa), .second, .unset, .unset, .unset, .unset, .unset, .unset, .unset] [(.long (0 : Int64))])) _
      refine XS.lstore X0.here hx rfl (hb hby at_20) rfl (l' := #[.val (.int p1), .val (.int p2), .val (.int p3), .val (.long xa), .second, .val (.long (0 : Int64)), .second, .unset, .unset, .unset, .unset, .unset]) rfl ?_
      show Steps p.tables e below (s₁.setTop (mkF m 22 #[.val (.int p1), .val (.int p2), .val (.int p3), .val (.long xa), .second, .val (.long (0 : Int64)), .second, .unset, .unset, .unset, .unset, .unset] [])) _
      refine XS.goto X0.here hx rfl (pc0 := 22) (pc' := 49) rfl (hb hby at_22) (by decide) (by decide) ?_
      exact k
  generalize hyb : (if (p3 &&& (4 : Int32)) = (0 : Int32) then (if (p3 &&& (16 : Int32)) = (0 : Int32) then (p2.toInt64) else (xa + (((p2 &&& (3 : Int32)) - (1 : Int32)).toInt64))) else (0 : Int64)) = yb
  refine go (s₁.setTop (mkF m 69 #[.val (.int p1), .val (.int p2), .val (.int p3), .val (.long xa), .second, .val (.long yb), .second, .unset, .unset, .unset, .unset, .unset] [(.double (if (p3 &&& (1 : Int32)) = (0 : Int32) then (FP.l2d xa) else (if (p3 &&& (2 : Int32)) = (0 : Int32) then (FP.l2d xa) else (9223372036854775808 : UInt64))))])) _ (fun t k => ?_) ?_
  · show Steps p.tables e below (s₁.setTop (mkF m 49 #[.val (.int p1), .val (.int p2), .val (.int p3), .val (.long xa), .second, .val (.long yb), .second, .unset, .unset, .unset, .unset, .unset] [])) _
    refine XS.iloadN X0.here hx rfl (hb hby at_49) rfl ?_
    show Steps p.tables e below (s₁.setTop (mkF m 50 #[.val (.int p1), .val (.int p2), .val (.int p3), .val (.long xa), .second, .val (.long yb), .second, .unset, .unset, .unset, .unset, .unset] [(.int p3)])) _
    refine XS.iconst X0.here hx rfl (hb hby at_50) ?_
    show Steps p.tables e below (s₁.setTop (mkF m 51 #[.val (.int p1), .val (.int p2), .val (.int p3), .val (.long xa), .second, .val (.long yb), .second, .unset, .unset, .unset, .unset, .unset] [(.int (1 : Int32)), (.int p3)])) _
    refine XS.iand X0.here hx rfl (hb hby at_51) rfl ?_
    by_cases h52_1 : (p3 &&& (1 : Int32)) = (0 : Int32)
    · try (simp only [if_pos h52_1] at k)
      show Steps p.tables e below (s₁.setTop (mkF m 52 #[.val (.int p1), .val (.int p2), .val (.int p3), .val (.long xa), .second, .val (.long yb), .second, .unset, .unset, .unset, .unset, .unset] [(.int (p3 &&& (1 : Int32)))])) _
      refine XS.ifYes X0.here hx rfl (pc0 := 52) (pc' := 67) rfl (hb hby at_52) rfl ((if0 _ _).trans (teq h52_1).1) (by decide) (by decide) ?_
      show Steps p.tables e below (s₁.setTop (mkF m 67 #[.val (.int p1), .val (.int p2), .val (.int p3), .val (.long xa), .second, .val (.long yb), .second, .unset, .unset, .unset, .unset, .unset] [])) _
      refine XS.lloadN X0.here hx rfl (hb hby at_67) rfl ?_
      show Steps p.tables e below (s₁.setTop (mkF m 68 #[.val (.int p1), .val (.int p2), .val (.int p3), .val (.long xa), .second, .val (.long yb), .second, .unset, .unset, .unset, .unset, .unset] [(.long xa)])) _
      refine XS.l2dS X0.here hx rfl (hb hby at_68) rfl rfl ?_
      exact k
    · try (simp only [if_neg h52_1] at k)
      show Steps p.tables e below (s₁.setTop (mkF m 52 #[.val (.int p1), .val (.int p2), .val (.int p3), .val (.long xa), .second, .val (.long yb), .second, .unset, .unset, .unset, .unset, .unset] [(.int (p3 &&& (1 : Int32)))])) _
      refine XS.ifNo X0.here hx rfl (hb hby at_52) rfl ((if0 _ _).trans (feq h52_1).1) ?_
      show Steps p.tables e below (s₁.setTop (mkF m 55 #[.val (.int p1), .val (.int p2), .val (.int p3), .val (.long xa), .second, .val (.long yb), .second, .unset, .unset, .unset, .unset, .unset] [])) _
      refine XS.iloadN X0.here hx rfl (hb hby at_55) rfl ?_
      show Steps p.tables e below (s₁.setTop (mkF m 56 #[.val (.int p1), .val (.int p2), .val (.int p3), .val (.long xa), .second, .val (.long yb), .second, .unset, .unset, .unset, .unset, .unset] [(.int p3)])) _
      refine XS.iconst X0.here hx rfl (hb hby at_56) ?_
      show Steps p.tables e below (s₁.setTop (mkF m 57 #[.val (.int p1), .val (.int p2), .val (.int p3), .val (.long xa), .second, .val (.long yb), .second, .unset, .unset, .unset, .unset, .unset] [(.int (2 : Int32)), (.int p3)])) _
      refine XS.iand X0.here hx rfl (hb hby at_57) rfl ?_
      by_cases h58_2 : (p3 &&& (2 : Int32)) = (0 : Int32)
      · try (simp only [if_pos h58_2] at k)
        show Steps p.tables e below (s₁.setTop (mkF m 58 #[.val (.int p1), .val (.int p2), .val (.int p3), .val (.long xa), .second, .val (.long yb), .second, .unset, .unset, .unset, .unset, .unset] [(.int (p3 &&& (2 : Int32)))])) _
        refine XS.ifYes X0.here hx rfl (pc0 := 58) (pc' := 67) rfl (hb hby at_58) rfl ((if0 _ _).trans (teq h58_2).1) (by decide) (by decide) ?_
        show Steps p.tables e below (s₁.setTop (mkF m 67 #[.val (.int p1), .val (.int p2), .val (.int p3), .val (.long xa), .second, .val (.long yb), .second, .unset, .unset, .unset, .unset, .unset] [])) _
        refine XS.lloadN X0.here hx rfl (hb hby at_67) rfl ?_
        show Steps p.tables e below (s₁.setTop (mkF m 68 #[.val (.int p1), .val (.int p2), .val (.int p3), .val (.long xa), .second, .val (.long yb), .second, .unset, .unset, .unset, .unset, .unset] [(.long xa)])) _
        refine XS.l2dS X0.here hx rfl (hb hby at_68) rfl rfl ?_
        exact k
      · try (simp only [if_neg h58_2] at k)
        show Steps p.tables e below (s₁.setTop (mkF m 58 #[.val (.int p1), .val (.int p2), .val (.int p3), .val (.long xa), .second, .val (.long yb), .second, .unset, .unset, .unset, .unset, .unset] [(.int (p3 &&& (2 : Int32)))])) _
        refine XS.ifNo X0.here hx rfl (hb hby at_58) rfl ((if0 _ _).trans (feq h58_2).1) ?_
        show Steps p.tables e below (s₁.setTop (mkF m 61 #[.val (.int p1), .val (.int p2), .val (.int p3), .val (.long xa), .second, .val (.long yb), .second, .unset, .unset, .unset, .unset, .unset] [])) _
        refine X0.ldc2DoubleC hx hown (mvT hZ (hw _ (List.mem_of_getElem? (i := 4) rfl))) (g := (mkF m 61 #[.val (.int p1), .val (.int p2), .val (.int p3), .val (.long xa), .second, .val (.long yb), .second, .unset, .unset, .unset, .unset, .unset] [])) rfl (hb hby at_61) _ ?_
        show Steps p.tables e below (s₁.setTop (mkF m 64 #[.val (.int p1), .val (.int p2), .val (.int p3), .val (.long xa), .second, .val (.long yb), .second, .unset, .unset, .unset, .unset, .unset] [(.double (9223372036854775808 : UInt64))])) _
        refine XS.goto X0.here hx rfl (pc0 := 64) (pc' := 69) rfl (hb hby at_64) (by decide) (by decide) ?_
        exact k
  generalize hda : (if (p3 &&& (1 : Int32)) = (0 : Int32) then (FP.l2d xa) else (if (p3 &&& (2 : Int32)) = (0 : Int32) then (FP.l2d xa) else (9223372036854775808 : UInt64))) = da
  refine go (s₁.setTop (mkF m 71 #[.val (.int p1), .val (.int p2), .val (.int p3), .val (.long xa), .second, .val (.long yb), .second, .val (.double da), .second, .unset, .unset, .unset] [])) _ (fun t k => ?_) ?_
  · show Steps p.tables e below (s₁.setTop (mkF m 69 #[.val (.int p1), .val (.int p2), .val (.int p3), .val (.long xa), .second, .val (.long yb), .second, .unset, .unset, .unset, .unset, .unset] [(.double da)])) _
    refine XS.dstore X0.here hx rfl (hb hby at_69) rfl (l' := #[.val (.int p1), .val (.int p2), .val (.int p3), .val (.long xa), .second, .val (.long yb), .second, .val (.double da), .second, .unset, .unset, .unset]) rfl ?_
    exact k
  refine go (s₁.setTop (mkF m 93 #[.val (.int p1), .val (.int p2), .val (.int p3), .val (.long xa), .second, .val (.long yb), .second, .val (.double da), .second, .unset, .unset, .unset] [(.double (if (p3 &&& (4 : Int32)) = (0 : Int32) then (FP.l2d yb) else (if (p3 &&& (8 : Int32)) = (0 : Int32) then (FP.l2d yb) else (9223372036854775808 : UInt64))))])) _ (fun t k => ?_) ?_
  · show Steps p.tables e below (s₁.setTop (mkF m 71 #[.val (.int p1), .val (.int p2), .val (.int p3), .val (.long xa), .second, .val (.long yb), .second, .val (.double da), .second, .unset, .unset, .unset] [])) _
    refine XS.iloadN X0.here hx rfl (hb hby at_71) rfl ?_
    show Steps p.tables e below (s₁.setTop (mkF m 72 #[.val (.int p1), .val (.int p2), .val (.int p3), .val (.long xa), .second, .val (.long yb), .second, .val (.double da), .second, .unset, .unset, .unset] [(.int p3)])) _
    refine XS.iconst X0.here hx rfl (hb hby at_72) ?_
    show Steps p.tables e below (s₁.setTop (mkF m 73 #[.val (.int p1), .val (.int p2), .val (.int p3), .val (.long xa), .second, .val (.long yb), .second, .val (.double da), .second, .unset, .unset, .unset] [(.int (4 : Int32)), (.int p3)])) _
    refine XS.iand X0.here hx rfl (hb hby at_73) rfl ?_
    by_cases h74_1 : (p3 &&& (4 : Int32)) = (0 : Int32)
    · try (simp only [if_pos h74_1] at k)
      show Steps p.tables e below (s₁.setTop (mkF m 74 #[.val (.int p1), .val (.int p2), .val (.int p3), .val (.long xa), .second, .val (.long yb), .second, .val (.double da), .second, .unset, .unset, .unset] [(.int (p3 &&& (4 : Int32)))])) _
      refine XS.ifYes X0.here hx rfl (pc0 := 74) (pc' := 90) rfl (hb hby at_74) rfl ((if0 _ _).trans (teq h74_1).1) (by decide) (by decide) ?_
      show Steps p.tables e below (s₁.setTop (mkF m 90 #[.val (.int p1), .val (.int p2), .val (.int p3), .val (.long xa), .second, .val (.long yb), .second, .val (.double da), .second, .unset, .unset, .unset] [])) _
      refine XS.lload X0.here hx rfl (hb hby at_90) rfl ?_
      show Steps p.tables e below (s₁.setTop (mkF m 92 #[.val (.int p1), .val (.int p2), .val (.int p3), .val (.long xa), .second, .val (.long yb), .second, .val (.double da), .second, .unset, .unset, .unset] [(.long yb)])) _
      refine XS.l2dS X0.here hx rfl (hb hby at_92) rfl rfl ?_
      exact k
    · try (simp only [if_neg h74_1] at k)
      show Steps p.tables e below (s₁.setTop (mkF m 74 #[.val (.int p1), .val (.int p2), .val (.int p3), .val (.long xa), .second, .val (.long yb), .second, .val (.double da), .second, .unset, .unset, .unset] [(.int (p3 &&& (4 : Int32)))])) _
      refine XS.ifNo X0.here hx rfl (hb hby at_74) rfl ((if0 _ _).trans (feq h74_1).1) ?_
      show Steps p.tables e below (s₁.setTop (mkF m 77 #[.val (.int p1), .val (.int p2), .val (.int p3), .val (.long xa), .second, .val (.long yb), .second, .val (.double da), .second, .unset, .unset, .unset] [])) _
      refine XS.iloadN X0.here hx rfl (hb hby at_77) rfl ?_
      show Steps p.tables e below (s₁.setTop (mkF m 78 #[.val (.int p1), .val (.int p2), .val (.int p3), .val (.long xa), .second, .val (.long yb), .second, .val (.double da), .second, .unset, .unset, .unset] [(.int p3)])) _
      refine XS.bipush X0.here hx rfl (hb hby at_78) ?_
      show Steps p.tables e below (s₁.setTop (mkF m 80 #[.val (.int p1), .val (.int p2), .val (.int p3), .val (.long xa), .second, .val (.long yb), .second, .val (.double da), .second, .unset, .unset, .unset] [(.int (8 : Int32)), (.int p3)])) _
      refine XS.iand X0.here hx rfl (hb hby at_80) rfl ?_
      by_cases h81_2 : (p3 &&& (8 : Int32)) = (0 : Int32)
      · try (simp only [if_pos h81_2] at k)
        show Steps p.tables e below (s₁.setTop (mkF m 81 #[.val (.int p1), .val (.int p2), .val (.int p3), .val (.long xa), .second, .val (.long yb), .second, .val (.double da), .second, .unset, .unset, .unset] [(.int (p3 &&& (8 : Int32)))])) _
        refine XS.ifYes X0.here hx rfl (pc0 := 81) (pc' := 90) rfl (hb hby at_81) rfl ((if0 _ _).trans (teq h81_2).1) (by decide) (by decide) ?_
        show Steps p.tables e below (s₁.setTop (mkF m 90 #[.val (.int p1), .val (.int p2), .val (.int p3), .val (.long xa), .second, .val (.long yb), .second, .val (.double da), .second, .unset, .unset, .unset] [])) _
        refine XS.lload X0.here hx rfl (hb hby at_90) rfl ?_
        show Steps p.tables e below (s₁.setTop (mkF m 92 #[.val (.int p1), .val (.int p2), .val (.int p3), .val (.long xa), .second, .val (.long yb), .second, .val (.double da), .second, .unset, .unset, .unset] [(.long yb)])) _
        refine XS.l2dS X0.here hx rfl (hb hby at_92) rfl rfl ?_
        exact k
      · try (simp only [if_neg h81_2] at k)
        show Steps p.tables e below (s₁.setTop (mkF m 81 #[.val (.int p1), .val (.int p2), .val (.int p3), .val (.long xa), .second, .val (.long yb), .second, .val (.double da), .second, .unset, .unset, .unset] [(.int (p3 &&& (8 : Int32)))])) _
        refine XS.ifNo X0.here hx rfl (hb hby at_81) rfl ((if0 _ _).trans (feq h81_2).1) ?_
        show Steps p.tables e below (s₁.setTop (mkF m 84 #[.val (.int p1), .val (.int p2), .val (.int p3), .val (.long xa), .second, .val (.long yb), .second, .val (.double da), .second, .unset, .unset, .unset] [])) _
        refine X0.ldc2DoubleC hx hown (mvT hZ (hw _ (List.mem_of_getElem? (i := 4) rfl))) (g := (mkF m 84 #[.val (.int p1), .val (.int p2), .val (.int p3), .val (.long xa), .second, .val (.long yb), .second, .val (.double da), .second, .unset, .unset, .unset] [])) rfl (hb hby at_84) _ ?_
        show Steps p.tables e below (s₁.setTop (mkF m 87 #[.val (.int p1), .val (.int p2), .val (.int p3), .val (.long xa), .second, .val (.long yb), .second, .val (.double da), .second, .unset, .unset, .unset] [(.double (9223372036854775808 : UInt64))])) _
        refine XS.goto X0.here hx rfl (pc0 := 87) (pc' := 93) rfl (hb hby at_87) (by decide) (by decide) ?_
        exact k
  generalize hdb : (if (p3 &&& (4 : Int32)) = (0 : Int32) then (FP.l2d yb) else (if (p3 &&& (8 : Int32)) = (0 : Int32) then (FP.l2d yb) else (9223372036854775808 : UInt64))) = db
  refine go (s₁.setTop (mkF m 95 #[.val (.int p1), .val (.int p2), .val (.int p3), .val (.long xa), .second, .val (.long yb), .second, .val (.double da), .second, .val (.double db), .second, .unset] [])) _ (fun t k => ?_) ?_
  · show Steps p.tables e below (s₁.setTop (mkF m 93 #[.val (.int p1), .val (.int p2), .val (.int p3), .val (.long xa), .second, .val (.long yb), .second, .val (.double da), .second, .unset, .unset, .unset] [(.double db)])) _
    refine XS.dstore X0.here hx rfl (hb hby at_93) rfl (l' := #[.val (.int p1), .val (.int p2), .val (.int p3), .val (.long xa), .second, .val (.long yb), .second, .val (.double da), .second, .val (.double db), .second, .unset]) rfl ?_
    exact k
  refine go (s₁.setTop (mkF m 124 #[.val (.int p1), .val (.int p2), .val (.int p3), .val (.long xa), .second, .val (.long yb), .second, .val (.double da), .second, .val (.double db), .second, .val (.int (if (0 : Int32) < (lcmpW xa yb) then (-1 : Int32) else (if (lcmpW xa yb) < (0 : Int32) then (1 : Int32) else (0 : Int32))))] [])) _ (fun t k => ?_) ?_
  · show Steps p.tables e below (s₁.setTop (mkF m 95 #[.val (.int p1), .val (.int p2), .val (.int p3), .val (.long xa), .second, .val (.long yb), .second, .val (.double da), .second, .val (.double db), .second, .unset] [])) _
    refine XS.lloadN X0.here hx rfl (hb hby at_95) rfl ?_
    show Steps p.tables e below (s₁.setTop (mkF m 96 #[.val (.int p1), .val (.int p2), .val (.int p3), .val (.long xa), .second, .val (.long yb), .second, .val (.double da), .second, .val (.double db), .second, .unset] [(.long xa)])) _
    refine XS.lload X0.here hx rfl (hb hby at_96) rfl ?_
    show Steps p.tables e below (s₁.setTop (mkF m 98 #[.val (.int p1), .val (.int p2), .val (.int p3), .val (.long xa), .second, .val (.long yb), .second, .val (.double da), .second, .val (.double db), .second, .unset] [(.long yb), (.long xa)])) _
    refine XS.lcmp X0.here hx rfl (hb hby at_98) rfl ?_
    by_cases h99_1 : (0 : Int32) < (lcmpW xa yb)
    · try (simp only [if_pos h99_1] at k)
      show Steps p.tables e below (s₁.setTop (mkF m 99 #[.val (.int p1), .val (.int p2), .val (.int p3), .val (.long xa), .second, .val (.long yb), .second, .val (.double da), .second, .val (.double db), .second, .unset] [(.int (lcmpW xa yb))])) _
      refine XS.ifNo X0.here hx rfl (hb hby at_99) rfl ((if0 _ _).trans (tlt h99_1).2.2.2) ?_
      show Steps p.tables e below (s₁.setTop (mkF m 102 #[.val (.int p1), .val (.int p2), .val (.int p3), .val (.long xa), .second, .val (.long yb), .second, .val (.double da), .second, .val (.double db), .second, .unset] [])) _
      refine XS.iconst X0.here hx rfl (hb hby at_102) ?_
      show Steps p.tables e below (s₁.setTop (mkF m 103 #[.val (.int p1), .val (.int p2), .val (.int p3), .val (.long xa), .second, .val (.long yb), .second, .val (.double da), .second, .val (.double db), .second, .unset] [(.int (-1 : Int32))])) _
      refine XS.istore X0.here hx rfl (hb hby at_103) rfl (l' := #[.val (.int p1), .val (.int p2), .val (.int p3), .val (.long xa), .second, .val (.long yb), .second, .val (.double da), .second, .val (.double db), .second, .val (.int (-1 : Int32))]) rfl ?_
      show Steps p.tables e below (s₁.setTop (mkF m 105 #[.val (.int p1), .val (.int p2), .val (.int p3), .val (.long xa), .second, .val (.long yb), .second, .val (.double da), .second, .val (.double db), .second, .val (.int (-1 : Int32))] [])) _
      refine XS.goto X0.here hx rfl (pc0 := 105) (pc' := 124) rfl (hb hby at_105) (by decide) (by decide) ?_
      exact k
    · try (simp only [if_neg h99_1] at k)
      show Steps p.tables e below (s₁.setTop (mkF m 99 #[.val (.int p1), .val (.int p2), .val (.int p3), .val (.long xa), .second, .val (.long yb), .second, .val (.double da), .second, .val (.double db), .second, .unset] [(.int (lcmpW xa yb))])) _
      refine XS.ifYes X0.here hx rfl (pc0 := 99) (pc' := 108) rfl (hb hby at_99) rfl ((if0 _ _).trans (flt h99_1).2.2.2) (by decide) (by decide) ?_
      show Steps p.tables e below (s₁.setTop (mkF m 108 #[.val (.int p1), .val (.int p2), .val (.int p3), .val (.long xa), .second, .val (.long yb), .second, .val (.double da), .second, .val (.double db), .second, .unset] [])) _
      refine XS.lloadN X0.here hx rfl (hb hby at_108) rfl ?_
      show Steps p.tables e below (s₁.setTop (mkF m 109 #[.val (.int p1), .val (.int p2), .val (.int p3), .val (.long xa), .second, .val (.long yb), .second, .val (.double da), .second, .val (.double db), .second, .unset] [(.long xa)])) _
      refine XS.lload X0.here hx rfl (hb hby at_109) rfl ?_
      show Steps p.tables e below (s₁.setTop (mkF m 111 #[.val (.int p1), .val (.int p2), .val (.int p3), .val (.long xa), .second, .val (.long yb), .second, .val (.double da), .second, .val (.double db), .second, .unset] [(.long yb), (.long xa)])) _
      refine XS.lcmp X0.here hx rfl (hb hby at_111) rfl ?_
      by_cases h112_2 : (lcmpW xa yb) < (0 : Int32)
      · try (simp only [if_pos h112_2] at k)
        show Steps p.tables e below (s₁.setTop (mkF m 112 #[.val (.int p1), .val (.int p2), .val (.int p3), .val (.long xa), .second, .val (.long yb), .second, .val (.double da), .second, .val (.double db), .second, .unset] [(.int (lcmpW xa yb))])) _
        refine XS.ifNo X0.here hx rfl (hb hby at_112) rfl ((if0 _ _).trans (tlt h112_2).2.1) ?_
        show Steps p.tables e below (s₁.setTop (mkF m 115 #[.val (.int p1), .val (.int p2), .val (.int p3), .val (.long xa), .second, .val (.long yb), .second, .val (.double da), .second, .val (.double db), .second, .unset] [])) _
        refine XS.iconst X0.here hx rfl (hb hby at_115) ?_
        show Steps p.tables e below (s₁.setTop (mkF m 116 #[.val (.int p1), .val (.int p2), .val (.int p3), .val (.long xa), .second, .val (.long yb), .second, .val (.double da), .second, .val (.double db), .second, .unset] [(.int (1 : Int32))])) _
        refine XS.istore X0.here hx rfl (hb hby at_116) rfl (l' := #[.val (.int p1), .val (.int p2), .val (.int p3), .val (.long xa), .second, .val (.long yb), .second, .val (.double da), .second, .val (.double db), .second, .val (.int (1 : Int32))]) rfl ?_
        show Steps p.tables e below (s₁.setTop (mkF m 118 #[.val (.int p1), .val (.int p2), .val (.int p3), .val (.long xa), .second, .val (.long yb), .second, .val (.double da), .second, .val (.double db), .second, .val (.int (1 : Int32))] [])) _
        refine XS.goto X0.here hx rfl (pc0 := 118) (pc' := 124) rfl (hb hby at_118) (by decide) (by decide) ?_
        exact k
      · try (simp only [if_neg h112_2] at k)
        show Steps p.tables e below (s₁.setTop (mkF m 112 #[.val (.int p1), .val (.int p2), .val (.int p3), .val (.long xa), .second, .val (.long yb), .second, .val (.double da), .second, .val (.double db), .second, .unset] [(.int (lcmpW xa yb))])) _
        refine XS.ifYes X0.here hx rfl (pc0 := 112) (pc' := 121) rfl (hb hby at_112) rfl ((if0 _ _).trans (flt h112_2).2.1) (by decide) (by decide) ?_
        show Steps p.tables e below (s₁.setTop (mkF m 121 #[.val (.int p1), .val (.int p2), .val (.int p3), .val (.long xa), .second, .val (.long yb), .second, .val (.double da), .second, .val (.double db), .second, .unset] [])) _
        refine XS.iconst X0.here hx rfl (hb hby at_121) ?_
        show Steps p.tables e below (s₁.setTop (mkF m 122 #[.val (.int p1), .val (.int p2), .val (.int p3), .val (.long xa), .second, .val (.long yb), .second, .val (.double da), .second, .val (.double db), .second, .unset] [(.int (0 : Int32))])) _
        refine XS.istore X0.here hx rfl (hb hby at_122) rfl (l' := #[.val (.int p1), .val (.int p2), .val (.int p3), .val (.long xa), .second, .val (.long yb), .second, .val (.double da), .second, .val (.double db), .second, .val (.int (0 : Int32))]) rfl ?_
        exact k
  generalize hex : (if (0 : Int32) < (lcmpW xa yb) then (-1 : Int32) else (if (lcmpW xa yb) < (0 : Int32) then (1 : Int32) else (0 : Int32))) = ex
  refine go (s₁.setTop (mkF m 128 #[.val (.int p1), .val (.int p2), .val (.int p3), .val (.long xa), .second, .val (.long yb), .second, .val (.double da), .second, .val (.double db), .second, .val (.int ex)] [(.double db), (.double da)])) _ (fun t k => ?_) ?_
  · show Steps p.tables e below (s₁.setTop (mkF m 124 #[.val (.int p1), .val (.int p2), .val (.int p3), .val (.long xa), .second, .val (.long yb), .second, .val (.double da), .second, .val (.double db), .second, .val (.int ex)] [])) _
    refine XS.dload X0.here hx rfl (hb hby at_124) rfl ?_
    show Steps p.tables e below (s₁.setTop (mkF m 126 #[.val (.int p1), .val (.int p2), .val (.int p3), .val (.long xa), .second, .val (.long yb), .second, .val (.double da), .second, .val (.double db), .second, .val (.int ex)] [(.double da)])) _
    refine XS.dload X0.here hx rfl (hb hby at_126) rfl ?_
    exact k
  obtain ⟨_, _, ⟨T1, L1, k1, n1⟩, -, X1, ⟨Lc1, hQ1, l1, y1, z1⟩, st1⟩ := Jvm.LawKit.callS X0 hx (y := (⟨"com/example/nabu/nabu/merge/MergeMethod", "compareHighestFirst", "(DD)I"⟩ : MethodName)) hown (mvT hZ (hw _ (List.mem_of_getElem? (i := 0) rfl))) (mvT hZ (hw _ (List.mem_of_getElem? (i := 1) rfl))) (mvT hZ (hw _ (List.mem_of_getElem? (i := 2) rfl))) (mvT hZ (hw _ (List.mem_of_getElem? (i := 3) rfl))) (by decide) (backOf (W := 0) (rm1 l Z a0 hw [] da db h0 n0 Z0) hZ (hw _ (List.mem_of_getElem? (i := 3) rfl)) (hw _ (List.mem_of_getElem? (i := 2) rfl)) (by decide) (by decide)) (g := (mkF m 128 #[.val (.int p1), .val (.int p2), .val (.int p3), .val (.long xa), .second, .val (.long yb), .second, .val (.double da), .second, .val (.double db), .second, .val (.int ex)] [(.double db), (.double da)])) rfl (by rw [hml]; rfl) (argsL := [(.double da), (.double db)]) (rest := []) (lenOf pd__28DD_29I rfl) rfl (by show 2 * 0 + _ ≤ _; exact Nat.le_of_eq rfl) (hb hby at_128) (fun _ _ => ⟨rfl, e0, (by decide : 0 + 0 ≤ _), (by decide : 0 + 0 ≤ _)⟩)
  dsimp only [Pt.U, Pt.locs, Pt.cells, Pt.slots] at X1 l1 y1 z1 st1 hQ1
  subst l1 y1 z1
  obtain ⟨rfl, N1q, e1q⟩ := hQ1
  have N1 := Fr.app N0 N1q
  refine go (T1.setTop (mkF m 131 #[.val (.int p1), .val (.int p2), .val (.int p3), .val (.long xa), .second, .val (.long yb), .second, .val (.double da), .second, .val (.double db), .second, .val (.int ex)] [(.int (own_cmp da db))])) _ (fun t k => st1 _ k) ?_
  refine go (T1.setTop (mkF m 133 #[.val (.int p1), .val (.int p2), .val (.int p3), .val (.long xa), .second, .val (.long yb), .second, .val (.double da), .second, .val (.double db), .second, .val (.int ex)] [(.int ex), (.int (own_cmp da db))])) _ (fun t k => ?_) ?_
  · show Steps p.tables e below (T1.setTop (mkF m 131 #[.val (.int p1), .val (.int p2), .val (.int p3), .val (.long xa), .second, .val (.long yb), .second, .val (.double da), .second, .val (.double db), .second, .val (.int ex)] [(.int (own_cmp da db))])) _
    refine XS.iload X1.here hx rfl (hb hby at_131) rfl ?_
    exact k
  have hfin : (own_cmp da db) = ex := own_law hxa hyb hda hdb hex
  refine go (T1.setTop (mkF m 141 #[.val (.int p1), .val (.int p2), .val (.int p3), .val (.long xa), .second, .val (.long yb), .second, .val (.double da), .second, .val (.double db), .second, .val (.int ex)] [(.int (1 : Int32))])) _ (fun t k => ?_) ?_
  · show Steps p.tables e below (T1.setTop (mkF m 133 #[.val (.int p1), .val (.int p2), .val (.int p3), .val (.long xa), .second, .val (.long yb), .second, .val (.double da), .second, .val (.double db), .second, .val (.int ex)] [(.int ex), (.int (own_cmp da db))])) _
    refine XS.icmpNo X1.here hx rfl (hb hby at_133) rfl (teq hfin).2 ?_
    show Steps p.tables e below (T1.setTop (mkF m 136 #[.val (.int p1), .val (.int p2), .val (.int p3), .val (.long xa), .second, .val (.long yb), .second, .val (.double da), .second, .val (.double db), .second, .val (.int ex)] [])) _
    refine XS.iconst X1.here hx rfl (hb hby at_136) ?_
    show Steps p.tables e below (T1.setTop (mkF m 137 #[.val (.int p1), .val (.int p2), .val (.int p3), .val (.long xa), .second, .val (.long yb), .second, .val (.double da), .second, .val (.double db), .second, .val (.int ex)] [(.int (1 : Int32))])) _
    refine XS.goto X1.here hx rfl (pc0 := 137) (pc' := 141) rfl (hb hby at_137) (by decide) (by decide) ?_
    exact k
  obtain ⟨fs, hr, hrun, hended, hW, hsame⟩ := X1.leave (v := some (.int (1 : Int32))) (fun h => by rw [Bd.returns] at h; cases h)
  refine fin _ ⟨_, _, retN X1 hx (t := .boolean) Bd.returns (by simp) (hb hby at_141) hr, hrun, hended, _, _, rfl, ?_, ⟨_, rfl⟩, hW, hsame.mono (by decide) (by decide)⟩
  show Q0 Z p1 p2 p3 h0 n0 _ T1.heap _
  exact ⟨rfl, N1⟩
set_option maxRecDepth 65536 in
set_option maxHeartbeats 40000000 in
theorem comes_1 {Post : Tables → Env → Array Value → State → Outcome → State → Prop} (hpost : ∀ tb e args s v u, (limb_1_1.after args s (.returned v) u = true ∧ limb_1_2.after args s (.returned v) u = true ∧ True) → FrameEnd s (.returned v) u (Jvm.fieldLocs frame_1_writes args s ++ Jvm.arrayLocs frame_1_arrays args s ++ Jvm.staticLocs frame_1_statics s) 0 0 → Post tb e args s (.returned v) u) :
    ArmFor flags0 classFile x code maxLocals ret World_1 tables_1 room_1 Calls_1 rest_1 Pre_1 Post := by
  intro l hfl _ _ p e ha hc hk s m args below hf hA hF happ hP
  obtain ⟨hcalls, hrest, hpre⟩ := hP
  obtain ⟨-, -, -, hnamed, -, -, -, hat⟩ := (Spec.applies_iff hf).mp happ
  obtain ⟨hg, hn⟩ := and_e (Cond.before_iff.mp (show (Jvm.Cond.and given_1 narrow_1).before args s = true from hpre))
  obtain ⟨hcnt, hq0⟩ := and_e hg
  obtain ⟨ha0, hq1⟩ := and_e hq0
  obtain ⟨ha1, hq2⟩ := and_e hq1
  obtain ⟨w0, w1, w2, rfl⟩ : ∃ w0 w1 w2 : Value, args = #[w0, w1, w2] := by
    have hs : args.size = 3 := by simpa [Cond.value, given_1] using hcnt
    obtain ⟨L⟩ := args
    match L, hs with
    | [w0, w1, w2], _ => exact ⟨w0, w1, w2, rfl⟩
  have hw := fun d (hd : d ∈ tables_1) => atoms_spec (ws := Jvm.Cond.code x code maxLocals ret :: tables_1) hat d (List.mem_cons_of_mem _ hd)
  obtain ⟨i0, ei0⟩ := is_v ha0
  obtain rfl : w0 = (.int i0) := Option.some.inj ei0
  obtain ⟨i1, ei1⟩ := is_v ha1
  obtain rfl : w1 = (.int i1) := Option.some.inj ei1
  obtain ⟨i2, ei2⟩ := is_v hq2
  obtain rfl : w2 = (.int i2) := Option.some.inj ei2
  obtain ⟨n, o, h1, h2, h3, _, L, rfl, ⟨rfl, N⟩, hq⟩ := rm0 l s _ hw tables_1 i0 i1 i2 s.heap s.heap.size (Nat.le_refl _) p e ha hc hk s m _ below hf ((Spec.applies_iff_loose hf).mp happ).1 ⟨rfl, State.Warmed39.refl s, rfl⟩ trivial
  refine ⟨n, _, h1, h2, h3, hpost _ _ _ _ _ _ ⟨Cond.after_iff.mpr rfl, Cond.after_iff.mpr (eq_i res_at (Term.int_eval (1)) rfl), trivial⟩ ⟨hq.1, hq.2.1, (hq.2.2.sift fun y hy => Or.inr (N y hy)).mono (by decide) (by decide)⟩⟩
theorem main_1_1 : Claimed_1_1 := comes_1 fun _ _ _ _ _ _ h hF => ⟨h.1, hF⟩
theorem main_1_2 : Claimed_1_2 := comes_1 fun _ _ _ _ _ _ h hF => ⟨h.2.1, hF⟩
end Jvm.Pilot.@@N@@
namespace Jvm.Pilot.@@N@@
open Jvm Jvm.ClassFile Sem Op Lib Jvm.Free Jvm.Stand Jvm.Pilot.@@N@@.Jvm.D
/-! MADE BY PROGRAM (witnessworld.py) out of the Statement's table words and the real class files: 13 classes; the members and pool entries that the words name. The judged class is class 1, her method 1. -/
namespace start1
open Jvm.ClassFile
def u (s : String) : CpInfo := .utf8 (stringToUtf16 s)
/-- a pool by its gaps: so many unusable entries, then the entry; so many at the end -/
def gap : Nat → List CpInfo → List CpInfo
  | 0, r => r
  | n + 1, r => .unusable :: gap n r
def poolList (es : List (Nat × CpInfo)) (last : Nat) : List CpInfo := es.foldr (fun e r => gap e.1 (e.2 :: r)) (gap last [])
def pool (es : List (Nat × CpInfo)) (last : Nat) : Array CpInfo := ⟨poolList es last⟩
def fileOf (pool : Array CpInfo) (this : Nat) (attrs : Array Attribute := #[]) (ms : Array MethodInfo := #[]) (fl : Nat := 33) (sup : Nat := 0) (ifs : Array Nat := #[]) (fds : Array FieldInfo := #[]) : ClassFile where
  minorVersion := 0
  majorVersion := 65
  constantPool := pool
  accessFlags := fl
  thisClass := this
  superClass := sup
  interfaces := ifs
  fields := fds
  methods := ms
  attributes := attrs
def plain (name : String) (sup : Option ClassId) : Class where
  name := name
  kind := .ordinary
  loader := none
  accessFlags := 33
  super := sup
  interfaces := #[]
  cf := none
  fields := #[]
  methods := #[]
  instanceTypes := #[]
  staticTypes := #[]
  resolved := #[]
  callSites := []
  init := .initialized
  statics := none
  mirror := none

def pool0 : Array CpInfo := pool [(5, u "<init>"), (0, u "()V"), (1, .class_ 10), (1, u "java/lang/Object")] 113

def k0m0 : Method := { name := "<init>", desc := "()V", sig := { parameters := [], returnType := none }, accessFlags := 1, code := none }
/-- java/lang/Object -/
def k0 : Class := { plain "java/lang/Object" none with
  accessFlags := 33
  interfaces := #[]
  cf := some (fileOf pool0 8 #[] #[{ accessFlags := 1, nameIndex := 5, descriptorIndex := 6, attributes := #[] }] 33 0 #[] #[])
  fields := #[]
  methods := #[k0m0]
  instanceTypes := #[]
  staticTypes := #[]
  resolved := Array.replicate 124 none
  statics := none }

def pool1 : Array CpInfo := pool [(2, .class_ 4), (1, u "java/lang/Object"), (0, u "<init>"), (0, u "()V"), (0, .double 9223372036854775808), (1, .methodref 10 11), (0, .class_ 12), (0, .nameAndType 13 14), (0, u "com/example/nabu/nabu/merge/MergeMethod"), (0, u "compareHighestFirst"), (0, u "(DD)I"), (0, .class_ 16), (0, u "com/example/nabu/nabu/merge/MergeMethodCompareHighestFirstPinLaw"), (2, u "law"), (0, u "(III)Z")] 3

def k1m0 : Method := { name := "<init>", desc := "()V", sig := { parameters := [], returnType := none }, accessFlags := 2, code := none }
def k1c1 : Code := { maxStack := 4, maxLocals := 12, code := code, exceptionTable := #[], attributes := #[] }
def k1m1 : Method := { name := "law", desc := "(III)Z", sig := { parameters := [.int, .int, .int], returnType := some .boolean }, accessFlags := 9, code := some k1c1 }
/-- com/example/nabu/nabu/merge/MergeMethodCompareHighestFirstPinLaw -/
def k1 : Class := { plain "com/example/nabu/nabu/merge/MergeMethodCompareHighestFirstPinLaw" (some 0) with
  accessFlags := 49
  interfaces := #[]
  cf := some (fileOf pool1 15 #[] #[{ accessFlags := 2, nameIndex := 5, descriptorIndex := 6, attributes := #[] }, { accessFlags := 9, nameIndex := 19, descriptorIndex := 20, attributes := #[] }] 49 2 #[] #[])
  fields := #[]
  methods := #[k1m0, k1m1]
  instanceTypes := #[]
  staticTypes := #[]
  resolved := Array.replicate 24 none
  statics := none }

def pool2 : Array CpInfo := pool [(1, .class_ 2), (0, u "java/lang/constant/Constable"), (0, .class_ 4), (0, u "java/lang/Object")] 6

/-- java/lang/constant/Constable -/
def k2 : Class := { plain "java/lang/constant/Constable" (some 0) with
  accessFlags := 1537
  interfaces := #[]
  cf := some (fileOf pool2 1 #[] #[] 1537 3 #[] #[])
  fields := #[]
  methods := #[]
  instanceTypes := #[]
  staticTypes := #[]
  resolved := Array.replicate 11 none
  statics := none }

def pool3 : Array CpInfo := pool [(1, .class_ 2), (0, u "java/lang/Comparable"), (0, .class_ 4), (0, u "java/lang/Object")] 7

/-- java/lang/Comparable -/
def k3 : Class := { plain "java/lang/Comparable" (some 0) with
  accessFlags := 1537
  interfaces := #[]
  cf := some (fileOf pool3 1 #[] #[] 1537 3 #[] #[])
  fields := #[]
  methods := #[]
  instanceTypes := #[]
  staticTypes := #[]
  resolved := Array.replicate 12 none
  statics := none }

def pool4 : Array CpInfo := pool [(1, .class_ 2), (0, u "java/io/Serializable"), (0, .class_ 4), (0, u "java/lang/Object")] 2

/-- java/io/Serializable -/
def k4 : Class := { plain "java/io/Serializable" (some 0) with
  accessFlags := 1537
  interfaces := #[]
  cf := some (fileOf pool4 1 #[] #[] 1537 3 #[] #[])
  fields := #[]
  methods := #[]
  instanceTypes := #[]
  staticTypes := #[]
  resolved := Array.replicate 7 none
  statics := none }

def pool5 : Array CpInfo := pool [(2, .class_ 4), (1, u "java/lang/Enum"), (0, u "name"), (0, u "Ljava/lang/String;"), (2, u "ordinal"), (0, u "I"), (1, .class_ 14), (1, u "java/lang/Object"), (4, u "hash"), (86, .class_ 108), (1, u "java/lang/Enum$EnumDesc"), (2, .class_ 112), (0, u "java/lang/constant/Constable"), (0, .class_ 114), (0, u "java/lang/Comparable"), (0, .class_ 116), (0, u "java/io/Serializable")] 87

/-- java/lang/Enum -/
def k5 : Class := { plain "java/lang/Enum" (some 0) with
  accessFlags := 1057
  interfaces := #[2, 3, 4]
  cf := some (fileOf pool5 2 #[.nestMembers #[106]] #[] 1057 12 #[111, 113, 115] #[{ accessFlags := 18, nameIndex := 5, descriptorIndex := 6, attributes := #[] }, { accessFlags := 18, nameIndex := 9, descriptorIndex := 10, attributes := #[] }, { accessFlags := 2, nameIndex := 19, descriptorIndex := 10, attributes := #[] }])
  fields := #[{ name := "name", type := (.object "java/lang/String"), accessFlags := 18, slot := 0, constantValue := 0 }, { name := "ordinal", type := .int, accessFlags := 18, slot := 1, constantValue := 0 }, { name := "hash", type := .int, accessFlags := 2, slot := 2, constantValue := 0 }]
  methods := #[]
  instanceTypes := #[(.object "java/lang/String"), .int, .int]
  staticTypes := #[]
  resolved := Array.replicate 204 none
  statics := none }

def pool6 : Array CpInfo := pool [(6, .class_ 8), (1, u "com/example/nabu/nabu/merge/Merger"), (115, .class_ 125), (0, u "java/lang/Object")] 51

/-- com/example/nabu/nabu/merge/Merger -/
def k6 : Class := { plain "com/example/nabu/nabu/merge/Merger" (some 0) with
  accessFlags := 1537
  interfaces := #[]
  cf := some (fileOf pool6 6 #[] #[] 1537 124 #[] #[])
  fields := #[]
  methods := #[]
  instanceTypes := #[]
  staticTypes := #[]
  resolved := Array.replicate 177 none
  statics := none }

def pool7 : Array CpInfo := pool [(1, .class_ 2), (0, u "com/example/nabu/nabu/merge/MergeMethod"), (2, u "ROUND_ROBIN"), (0, u "Lcom/example/nabu/nabu/merge/MergeMethod;"), (2, u "RAW"), (2, u "MAX"), (2, u "MINMAX"), (2, u "$VALUES"), (0, u "[Lcom/example/nabu/nabu/merge/MergeMethod;"), (6, .class_ 28), (1, u "java/lang/Enum"), (8, u "code"), (0, u "Ljava/lang/String;"), (139, u "compareHighestFirst"), (0, u "(DD)I"), (0, .class_ 181), (0, u "com/example/nabu/nabu/merge/MergeMethod$1"), (6, .class_ 189), (0, u "com/example/nabu/nabu/merge/MergeMethod$2"), (4, .class_ 195), (0, u "com/example/nabu/nabu/merge/MergeMethod$3"), (4, .class_ 201), (0, u "com/example/nabu/nabu/merge/MergeMethod$4"), (7, .class_ 210), (0, u "com/example/nabu/nabu/merge/Merger")] 63

def k7c0 : Code := { maxStack := 4, maxLocals := 4, code := prog_27_method_10_code, exceptionTable := #[], attributes := #[] }
def k7m0 : Method := { name := "compareHighestFirst", desc := "(DD)I", sig := { parameters := [.double, .double], returnType := some .int }, accessFlags := 8, code := some k7c0 }
/-- com/example/nabu/nabu/merge/MergeMethod -/
def k7 : Class := { plain "com/example/nabu/nabu/merge/MergeMethod" (some 5) with
  accessFlags := 16417
  interfaces := #[6]
  cf := some (fileOf pool7 1 #[.nestMembers #[200, 194, 188, 180]] #[{ accessFlags := 8, nameIndex := 178, descriptorIndex := 179, attributes := #[] }] 16417 26 #[209] #[{ accessFlags := 16409, nameIndex := 5, descriptorIndex := 6, attributes := #[] }, { accessFlags := 16409, nameIndex := 9, descriptorIndex := 6, attributes := #[] }, { accessFlags := 16409, nameIndex := 12, descriptorIndex := 6, attributes := #[] }, { accessFlags := 16409, nameIndex := 15, descriptorIndex := 6, attributes := #[] }, { accessFlags := 18, nameIndex := 37, descriptorIndex := 38, attributes := #[] }, { accessFlags := 4122, nameIndex := 18, descriptorIndex := 19, attributes := #[] }])
  fields := #[{ name := "ROUND_ROBIN", type := (.object "com/example/nabu/nabu/merge/MergeMethod"), accessFlags := 16409, slot := 0, constantValue := 0 }, { name := "RAW", type := (.object "com/example/nabu/nabu/merge/MergeMethod"), accessFlags := 16409, slot := 1, constantValue := 0 }, { name := "MAX", type := (.object "com/example/nabu/nabu/merge/MergeMethod"), accessFlags := 16409, slot := 2, constantValue := 0 }, { name := "MINMAX", type := (.object "com/example/nabu/nabu/merge/MergeMethod"), accessFlags := 16409, slot := 3, constantValue := 0 }, { name := "code", type := (.object "java/lang/String"), accessFlags := 18, slot := 3, constantValue := 0 }, { name := "$VALUES", type := (.array (.object "com/example/nabu/nabu/merge/MergeMethod")), accessFlags := 4122, slot := 4, constantValue := 0 }]
  methods := #[k7m0]
  instanceTypes := #[(.object "java/lang/String"), .int, .int, (.object "java/lang/String")]
  staticTypes := #[(.object "com/example/nabu/nabu/merge/MergeMethod"), (.object "com/example/nabu/nabu/merge/MergeMethod"), (.object "com/example/nabu/nabu/merge/MergeMethod"), (.object "com/example/nabu/nabu/merge/MergeMethod"), (.array (.object "com/example/nabu/nabu/merge/MergeMethod"))]
  resolved := Array.replicate 274 none
  statics := none }

def pool8 : Array CpInfo := pool [(1, u "java/lang/Cloneable"), (0, .class_ 1), (0, u "java/lang/Object"), (0, .class_ 3)] 3

/-- java/lang/Cloneable -/
def k8 : Class := { plain "java/lang/Cloneable" (some 0) with
  accessFlags := 1537
  interfaces := #[]
  cf := some (fileOf pool8 2 #[] #[] 1537 4 #[] #[])
  fields := #[]
  methods := #[]
  instanceTypes := #[]
  staticTypes := #[]
  resolved := Array.replicate 8 none
  statics := none }

/-- the primitive byte -/
def k9 : Class := { plain "byte" none with kind := .primitive 'B', accessFlags := 0x411 }
/-- [B -/
def k10 : Class := { plain "[B" (some 0) with kind := .array 9 .byte, interfaces := #[8, 4], accessFlags := 1041 }

/-- the primitive int -/
def k11 : Class := { plain "int" none with kind := .primitive 'I', accessFlags := 0x411 }
/-- [I -/
def k12 : Class := { plain "[I" (some 0) with kind := .array 11 .int, interfaces := #[8, 4], accessFlags := 1041 }

def heap : Heap := #[]
def classes : Array Class := #[k0, k1, k2, k3, k4, k5, k6, k7, k8, k9, k10, k11, k12]
def interned : List (Array UInt16 × Addr) := []
def slotsUsed : Nat := 0
def theMethod : MethodId := ⟨1, 1⟩
def args0 : Array Value := #[.int 5, .int 6, .int 0]
def aboutOver (below : List Frame) : State where
  vm := { classes := classes, interned := interned.toArray }
  heap := heap
  slotsUsed := slotsUsed
  threads := #[{ frames := .invoking theMethod args0 :: below }]
def below0 : List Frame := [.native { method := ⟨0, 0⟩, args := #[] }]
def about1 : State := aboutOver below0
def p0 : Program := .bare "" "" ""
def e0 : Env := launch0.env 0 0 0
theorem w_frames : about1.frames = Frame.invoking theMethod args0 :: below0 := rfl
set_option maxRecDepth 65536 in
theorem w_args : argsFit about1.vm theMethod args0 = true := by decide +kernel
set_option maxRecDepth 65536 in
theorem w_heap : heapFits about1 = true := by decide +kernel
set_option maxRecDepth 65536 in
theorem w_runnable : about1.curStatus? = some .runnable := by decide +kernel
set_option maxRecDepth 65536 in
theorem w_alone : about1.alone = true := by decide +kernel
set_option maxRecDepth 65536 in
theorem w_named : about1.methodNamed? x = some theMethod := by decide +kernel
set_option maxRecDepth 65536 in
theorem w_hears : about1.hears theMethod below0 = true := by decide +kernel
set_option maxRecDepth 65536 in
theorem w_ripe : about1.ripe theMethod args0 below0 = true := by decide +kernel
theorem w_running : about1.status = .running := rfl
set_option maxRecDepth 65536 in
theorem w_room : about1.hasRoom e0.platform room_1 = true :=
  launch0.hasRoom_least _ room_1 (by decide +kernel) (by decide +kernel) (by decide +kernel) (by decide +kernel) (by decide +kernel) (by decide +kernel)
theorem allAtoms_all (ts : List Jvm.Cond) (a : Array Jvm.Value) (st : Jvm.State) : (allAtoms ts).before a st = ts.all (fun c => c.before a st) := by
  induction ts with
  | nil => rfl
  | cons c t ih =>
    show (Jvm.Cond.and c (allAtoms t)).before a st = _
    rw [Jvm.Cond.before_and, ih, List.all_cons]
def words1 : List Jvm.Cond := Jvm.Cond.code x code maxLocals ret :: tables_1
/-- a 'code' word, met by the world's own term for the bytes: nothing is compared byte by byte -/
theorem code_word {y : MethodName} {bytes : ByteArray} {mx : Nat} {rt : Option FieldType} {a : Array Value} {s : State} {m : MethodId} {meth : Method} {c : Code} (h1 : s.methodNamed? y = some m) (h2 : s.vm.method? m = some meth) (h3 : meth.code = some c) (h4 : c.code = bytes)
    (h5 : (c.maxLocals == mx && c.exceptionTable.isEmpty && decide (c.maxStack ≤ mostOperands) && decide (meth.sig.returnType = rt) && !meth.locks && decide (parseMethodDescriptor y.desc = some meth.sig)) = true) : (Jvm.Cond.code y bytes mx rt).before a s = true := by
  simp only [Bool.and_eq_true, beq_iff_eq, Bool.not_eq_true', decide_eq_true_eq] at h5
  obtain ⟨⟨⟨⟨⟨g1, g2⟩, g3⟩, g4⟩, g5⟩, g6⟩ := h5
  simp [Cond.before, Cond.holds, Cond.value, h1, h2, h3, h4, g1, g2, g3, g4, g5, g6]
def isCode : Jvm.Cond → Bool
  | .code _ _ _ _ => true
  | _ => false
theorem all_split {L : List Jvm.Cond} {P : Jvm.Cond → Bool} (h1 : L.all (fun c => isCode c || P c) = true) (h2 : ∀ c ∈ L.filter isCode, P c = true) : L.all P = true := by
  refine List.all_eq_true.mpr fun c hc => ?_
  have h := List.all_eq_true.mp h1 c hc
  rcases Bool.eq_false_or_eq_true (isCode c) with hi | hi
  · exact h2 c (List.mem_filter.mpr ⟨hc, hi⟩)
  · simpa [hi] using h
set_option maxRecDepth 65536 in
theorem w_c0 : (Jvm.Cond.code x code maxLocals ret).before args0 about1 = true := code_word (m := ⟨1, 1⟩) (meth := k1m1) (c := k1c1) (by decide +kernel) rfl rfl rfl (by decide +kernel)
set_option maxRecDepth 65536 in
theorem w_c1 : (Jvm.Cond.code ({ cls := "com/example/nabu/nabu/merge/MergeMethod", name := "compareHighestFirst", desc := "(DD)I" } : Jvm.MethodName) prog_27_method_10_code (4 : Nat) (Option.some Jvm.ClassFile.FieldType.int)).before args0 about1 = true := code_word (m := ⟨7, 0⟩) (meth := k7m0) (c := k7c0) (by decide +kernel) rfl rfl rfl (by decide +kernel)
def codes1 : List Jvm.Cond := [Jvm.Cond.code x code maxLocals ret, Jvm.Cond.code ({ cls := "com/example/nabu/nabu/merge/MergeMethod", name := "compareHighestFirst", desc := "(DD)I" } : Jvm.MethodName) prog_27_method_10_code (4 : Nat) (Option.some Jvm.ClassFile.FieldType.int)]
set_option maxRecDepth 65536 in
theorem codes_eq : words1.filter isCode = codes1 := rfl
theorem w_codes : ∀ c ∈ words1.filter isCode, c.before args0 about1 = true := by
  rw [codes_eq]
  intro c hc
  simp only [codes1, List.mem_cons, List.not_mem_nil, or_false] at hc
  rcases hc with rfl | rfl
  · exact w_c0
  · exact w_c1
set_option maxRecDepth 65536 in
theorem w_t1 : words1.all (fun c => isCode c || c.before args0 about1) = true := by decide +kernel
theorem w_tables : (allAtoms (Jvm.Cond.code x code maxLocals ret :: tables_1)).before args0 about1 = true := by
  rw [allAtoms_all]
  show words1.all (fun c => c.before args0 about1) = true
  refine all_split ?_ w_codes
  rw [w_t1]
set_option maxRecDepth 65536 in
theorem w_case : (Jvm.Cond.and given_1 narrow_1).before args0 about1 = true := by decide +kernel
theorem w_applies : (headSpec (Jvm.Cond.code x code maxLocals ret :: tables_1) room_1).applies x e0.platform about1 = true :=
  (Spec.applies_iff w_frames).mpr ⟨w_running, w_runnable, w_alone, w_named, w_hears, w_ripe, w_room, w_tables⟩
theorem atStart : AtStart classFile x code maxLocals ret World_1 tables_1 room_1 Calls_1 rest_1 Pre_1 launch0 p0 e0 about1 theMethod args0 below0 :=
  ⟨lists_1, trivial, launch0.admits_env _ _ _, launch0.least_env, fairChoices_fair.cas, fairChoices_fair.clock, w_frames, w_args, w_heap, w_applies, trivial, trivial, w_case⟩
end start1
theorem witness_1 : WitnessClaimed_1 := ⟨start1.p0, start1.e0, start1.about1, start1.theMethod, start1.args0, start1.below0, start1.atStart⟩
end Jvm.Pilot.@@N@@
