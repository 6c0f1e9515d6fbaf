import JvmDerived
import JvmDerived.Pilot.@@N@@Statement
import JvmDerived.Pilot.@@N@@Code
set_option linter.unusedVariables false
set_option linter.unusedSimpArgs false
namespace Jvm.Pilot.@@N@@
open Jvm Jvm.ClassFile Sem Op Lib Jvm.Free Jvm.Stand Jvm.LawKit Jvm.RoadKit Bundle Jvm.Free.Fl Jvm.Pilot.@@N@@.Jvm.D
theorem own_go {tb : Tables} {e : Env} {below : List Frame} {A B : State} {F : State → Outcome → Prop} (h : ∀ t, Steps tb e below A t → Steps tb e below B t) (k : ∃ s₂ o, Steps tb e below A s₂ ∧ F s₂ o) : ∃ s₂ o, Steps tb e below B s₂ ∧ F s₂ o := by
  obtain ⟨s₂, o, h1, h2⟩ := k
  exact ⟨s₂, o, h _ h1, h2⟩
theorem own_open {tb : Tables} {e : Env} {below : List Frame} {B : State} {F : State → Outcome → Prop} (h : ∀ G : State → Prop, (∀ A B, (∀ t, Steps tb e below A t → Steps tb e below B t) → G A → G B) → (∀ A, (∃ s₂ o, Steps tb e below A s₂ ∧ F s₂ o) → G A) → G B) : ∃ s₂ o, Steps tb e below B s₂ ∧ F s₂ o :=
  h (fun A => ∃ s₂ o, Steps tb e below A s₂ ∧ F s₂ o) (fun _ _ => own_go) (fun _ k => k)
theorem own_sta {Z : State} {h h' : Heap} {C n d : String} {w : Value} (F : Sta Z h C n d w) (K : Keep h h' []) : Sta Z h' C n d w := by
  obtain ⟨cf, i, k, f, st, cell, h1, h2, h3, h4, h5, r⟩ := F
  exact ⟨cf, i, k, f, st, cell, h1, h2, h3, h4, K.2.1 _ _ h5 nin0, r⟩
theorem own_fldeq {args : Array Value} {s : State} {t : Term} {C n d : String} {k : Int32} {u : Addr} (ht : t.eval args s none [] s = some (.ref u)) (h : (Jvm.Cond.eq (Term.field t C n d) (Term.int k)).value args s none s [] = some true) : Fld s s.heap u C n d (.int k) := by
  obtain ⟨x, y, hx, hy, k1, k2⟩ := cmp_v (Or.inl h)
  rw [Term.int_eval] at hy
  cases hy
  obtain ⟨z, rfl⟩ := k2
  have q := gotT (Cond.eq_ints hx (Term.int_eval k)) h
  subst q
  exact Fld.start ((fld_at ht).symm.trans hx)
def own_q : UInt64 := 4599162408583596029
theorem own_q_fin : Fin64 4599162408583596029 := by unfold Fin64; decide
theorem own_q_nz : Nz64 4599162408583596029 := by unfold Nz64; decide
theorem own_idx (p : Int32) : ∃ k : Int32, (p &&& (2147483647 : Int32)) % (10 : Int32) = k ∧ (k = 0 ∨ k = 1 ∨ k = 2 ∨ k = 3 ∨ k = 4 ∨ k = 5 ∨ k = 6 ∨ k = 7 ∨ k = 8 ∨ k = 9) := by
  refine ⟨_, rfl, ?_⟩
  have h1 := c_and p 2147483647 (by decide)
  have h2 := (c_irem (p &&& 2147483647) 10 10 rfl).1 h1.1
  generalize (p &&& (2147483647 : Int32)) % (10 : Int32) = k at *
  simp only [← Int32.toInt_inj, show (0 : Int32).toInt = 0 from rfl, show (1 : Int32).toInt = 1 from rfl, show (2 : Int32).toInt = 2 from rfl, show (3 : Int32).toInt = 3 from rfl, show (4 : Int32).toInt = 4 from rfl, show (5 : Int32).toInt = 5 from rfl, show (6 : Int32).toInt = 6 from rfl, show (7 : Int32).toInt = 7 from rfl, show (8 : Int32).toInt = 8 from rfl, show (9 : Int32).toInt = 9 from rfl]
  omega
theorem own_nz {v : Int32} (h : v ≠ 0) : Nz64 (FP.i2d v) := nz64_core.mpr (fun q => FP.Core.i2d_ne_zero h ((FP.Core.zero_bits2 _).mp q))
theorem own_shl (p : Int32) : (1 : Int32) <<< ((p &&& (7 : Int32)) &&& 31) ≠ 0 := by
  have h1 := c_and p 7 (by decide)
  have h2 : (7 : Int32).toInt = 7 := rfl
  generalize p &&& (7 : Int32) = k at *
  have hk : k = 0 ∨ k = 1 ∨ k = 2 ∨ k = 3 ∨ k = 4 ∨ k = 5 ∨ k = 6 ∨ k = 7 := by
    simp only [← Int32.toInt_inj, show (0 : Int32).toInt = 0 from rfl, show (1 : Int32).toInt = 1 from rfl, show (2 : Int32).toInt = 2 from rfl, show (3 : Int32).toInt = 3 from rfl, show (4 : Int32).toInt = 4 from rfl, show (5 : Int32).toInt = 5 from rfl, show (6 : Int32).toInt = 6 from rfl, h2]
    omega
  rcases hk with rfl | rfl | rfl | rfl | rfl | rfl | rfl | rfl <;> decide
theorem own_feet (a b : Int32) : NoNaN64 (FP.ddiv (FP.i2d a) (FP.i2d ((1 : Int32) <<< ((b &&& (7 : Int32)) &&& 31)))) :=
  ddiv_out (i2d_fin a).noNaN (i2d_fin _) (own_nz (own_shl b))
theorem own_res (a b : Int32) : NoNaN64 (FP.dmul (FP.ddiv (FP.i2d a) (FP.i2d ((1 : Int32) <<< ((b &&& (7 : Int32)) &&& 31)))) (4599162408583596029 : UInt64)) := dmul_outNz (own_feet a b) own_q_fin own_q_nz
theorem ef_1 (m : MethodId) (x0 : Addr) (x1 : UInt64) : entryFrame m #[(.ref x0), (.double x1)] 3 = mkF m 0 #[.val (.ref x0), .val (.double x1), .second] [] := by first | (simp [entryFrame, mkF, argsToLocals, Value.category]; done) | rfl
theorem pn_com_example_penstock_penstock_network_FlowUnit : plainName "com/example/penstock/penstock/network/FlowUnit" = true := by first | (simp [plainName, overriddenIn]; done) | decide +kernel
theorem d1_0 : decode prog_25_method_9_code 0 = .ok (.aload_n 0, 1) := by decide +kernel
theorem d1_1 : decode prog_25_method_9_code 1 = .ok (.getfield 57, 3) := by decide +kernel
theorem d1_4 : decode prog_25_method_9_code 4 = .ok (.ifCond .eq 11, 3) := by decide +kernel
theorem d1_15 : decode prog_25_method_9_code 15 = .ok (.dload_n 1, 1) := by decide +kernel
theorem d1_7 : decode prog_25_method_9_code 7 = .ok (.dload_n 1, 1) := by decide +kernel
theorem d1_8 : decode prog_25_method_9_code 8 = .ok (.ldc2_w 89, 3) := by decide +kernel
theorem d1_11 : decode prog_25_method_9_code 11 = .ok (.dmul, 1) := by decide +kernel
theorem d1_12 : decode prog_25_method_9_code 12 = .ok (.goto 4, 3) := by decide +kernel
theorem d1_16 : decode prog_25_method_9_code 16 = .ok (.dreturn, 1) := by decide +kernel
theorem ef_0 (m : MethodId) (x0 : Int32) (x1 : Int32) (x2 : Int32) : entryFrame m #[(.int x0), (.int x1), (.int x2)] maxLocals = mkF m 0 #[.val (.int x0), .val (.int x1), .val (.int x2), .unset, .unset, .unset, .unset, .unset, .unset, .unset, .unset, .unset] [] := by first | (simp [entryFrame, mkF, argsToLocals, Value.category, maxLocals]; done) | rfl
theorem pn_com_example_penstock_penstock_network_FlowUnitLengthFromFeetPinLaw : plainName "com/example/penstock/penstock/network/FlowUnitLengthFromFeetPinLaw" = true := by first | (simp [plainName, overriddenIn]; done) | decide +kernel
theorem pd__28D_29D : parseMethodDescriptor "(D)D" = some ⟨[.double], some .double⟩ := by decide +kernel
def Q1 (Z : State) (d1 : UInt64) (b1 : Int32) (h0 : Heap) (n0 : Nat) (v : Option Value) (h : Heap) (L : List Loc) : Prop := v = some (.double (if b1 = (0 : Int32) then d1 else (FP.dmul d1 (4599162408583596029 : UInt64)))) ∧ Fr n0 L ∧ h = h0
set_option maxRecDepth 65536 in
set_option maxHeartbeats 40000000 in
theorem rm1 (l : Launch) (Z : State) (a0 : Array Value) (hw : ∀ d ∈ tables_1, d.before a0 Z = true) (ws : List Jvm.Cond) (a1 : Addr) (d1 : UInt64) (b1 : Int32) (h0 : Heap) (n0 : Nat) (Z0 : n0 ≤ h0.size) (F1 : Fld Z h0 a1 "com/example/penstock/penstock/network/FlowUnit" "metric" "Z" (.int b1)) (hnn : NoNaN64 (FP.dmul d1 (4599162408583596029 : UInt64))) :
    MetFree l (⟨"com/example/penstock/penstock/network/FlowUnit", "lengthFromFeet", "(D)D"⟩ : MethodName) (head1 (Jvm.Cond.code (⟨"com/example/penstock/penstock/network/FlowUnit", "lengthFromFeet", "(D)D"⟩ : MethodName) prog_25_method_9_code 3 (some .double) :: ws) ({ frames := 0, cells := 0, slots := 0, locals := 0 } : Room)) (fun a U => a = #[(.ref a1), (.double d1)] ∧ Z.Warmed39 U.vm ∧ U.heap = h0) (fun _ _ _ _ _ => True) (fun _ U o U' => ∃ v L, o = .returned v ∧ Q1 Z d1 b1 h0 n0 v U'.heap L ∧ FrameEnd U o U' L ({ frames := 0, cells := 0, slots := 0, locals := 0 } : Room).cells ({ frames := 0, cells := 0, slots := 0, locals := 0 } : Room).slots) := by
  refine MetFree.of_bodySF (plainFor_of_name pn_com_example_penstock_penstock_network_FlowUnit) hisR ?_
  intro p e s m args below meth c s₁ Bd hml0 hP hK
  obtain ⟨rfl, hZ, hh⟩ := hP
  have hx := Bd.exec
  have hby := Bd.bytes
  have hml : c.maxLocals = 3 := hml0
  have hown : s.vm.findClass "com/example/penstock/penstock/network/FlowUnit" = some m.cls := findClass_of_methodNamed Bd.named
  have hnm := (name_of_methodNamed Bd.named Bd.method).1
  have X0 : Stand p l e ({ frames := 0, cells := 0, slots := 0, locals := 0 } : Room) s m #[(.ref a1), (.double d1)] below meth c s₁ [] 0 0 := Stand.of_body Bd
  have e0 : s₁.heap = h0 := by rw [← hh, Bd.state]; rfl
  have N0 := Fr.nil n0
  refine own_open (fun G go fin => ?_)
  refine go (s₁.setTop (mkF m 0 #[.val (.ref a1), .val (.double d1), .second] [])) _ (fun t9 k9 => castTop (ef_1 m a1 d1) k9) ?_
  refine go (s₁.setTop (mkF m 1 #[.val (.ref a1), .val (.double d1), .second] [(.ref a1)])) _ (fun t9 k9 => ?_) ?_
  · show Steps p.tables e below (s₁.setTop (mkF m 0 #[.val (.ref a1), .val (.double d1), .second] [])) _
    refine XS.aloadN X0.here hx rfl (hb hby d1_0) rfl rfl ?_
    exact k9
  obtain ⟨T1, X1, e1, st1⟩ := getF X0 hx hZ hown (host := "") (Or.inl (hw _ (List.mem_of_getElem? (i := 30) rfl))) Via.refl e0 F1 (g := (mkF m 1 #[.val (.ref a1), .val (.double d1), .second] [(.ref a1)])) rfl rfl (hb hby d1_1)
  refine go (T1.setTop (mkF m 4 #[.val (.ref a1), .val (.double d1), .second] [(.int b1)])) _ (fun t9 k9 => st1 _ k9) ?_
  refine go (T1.setTop (mkF m 16 #[.val (.ref a1), .val (.double d1), .second] [(.double (if b1 = (0 : Int32) then d1 else (FP.dmul d1 (4599162408583596029 : UInt64))))])) _ (fun t9 k9 => ?_) ?_
  · by_cases h4_1 : b1 = (0 : Int32)
    · try (simp only [if_pos h4_1] at k9)
      show Steps p.tables e below (T1.setTop (mkF m 4 #[.val (.ref a1), .val (.double d1), .second] [(.int b1)])) _
      refine XS.ifYes X1.here hx rfl (pc0 := 4) (pc' := 15) rfl (hb hby d1_4) rfl ((if0 _ _).trans (teq h4_1).1) (by decide) (by decide) ?_
      show Steps p.tables e below (T1.setTop (mkF m 15 #[.val (.ref a1), .val (.double d1), .second] [])) _
      refine XS.dloadN X1.here hx rfl (hb hby d1_15) rfl ?_
      exact k9
    · try (simp only [if_neg h4_1] at k9)
      show Steps p.tables e below (T1.setTop (mkF m 4 #[.val (.ref a1), .val (.double d1), .second] [(.int b1)])) _
      refine XS.ifNo X1.here hx rfl (hb hby d1_4) rfl ((if0 _ _).trans (feq h4_1).1) ?_
      show Steps p.tables e below (T1.setTop (mkF m 7 #[.val (.ref a1), .val (.double d1), .second] [])) _
      refine XS.dloadN X1.here hx rfl (hb hby d1_7) rfl ?_
      show Steps p.tables e below (T1.setTop (mkF m 8 #[.val (.ref a1), .val (.double d1), .second] [(.double d1)])) _
      refine X1.ldc2DoubleC hx hown (mvT hZ (hw _ (List.mem_of_getElem? (i := 33) rfl))) (g := (mkF m 8 #[.val (.ref a1), .val (.double d1), .second] [(.double d1)])) rfl (hb hby d1_8) _ ?_
      show Steps p.tables e below (T1.setTop (mkF m 11 #[.val (.ref a1), .val (.double d1), .second] [(.double (4599162408583596029 : UInt64)), (.double d1)])) _
      refine XS.dmulS X1.here hx rfl (hb hby d1_11) rfl hnn rfl ?_
      show Steps p.tables e below (T1.setTop (mkF m 12 #[.val (.ref a1), .val (.double d1), .second] [(.double (FP.dmul d1 (4599162408583596029 : UInt64)))])) _
      refine XS.goto X1.here hx rfl (pc0 := 12) (pc' := 16) rfl (hb hby d1_12) (by decide) (by decide) ?_
      exact k9
  obtain ⟨fs, hr, hrun, hended, hW, hsame⟩ := X1.leave (v := some (.double (if b1 = (0 : Int32) then d1 else (FP.dmul d1 (4599162408583596029 : UInt64))))) (fun h => by rw [Bd.returns] at h; cases h)
  refine fin _ ⟨_, _, retOut X1 hx (t := .double) Bd.returns rfl (Or.inr (Or.inr (Or.inl ⟨rfl, rfl, _, rfl⟩))) (hb hby d1_16) hr, hrun, hended, _, _, rfl, ?_, ⟨_, rfl⟩, hW, hsame.mono (by decide) (by decide)⟩
  show Q1 Z d1 b1 h0 n0 _ T1.heap _
  rw [e1]
  exact ⟨rfl, N0, rfl⟩
def Q0 (Z : State) (p1 p2 p3 : Int32) (h0 : Heap) (n0 : Nat) (v : Option Value) (h : Heap) (L : List Loc) : Prop := v = some (.int 1) ∧ Fr n0 L
set_option maxRecDepth 65536 in
set_option maxHeartbeats 40000000 in
theorem rm0 (l : Launch) (Z : State) (a0 : Array Value) (hw : ∀ d ∈ tables_1, d.before a0 Z = true) (ws : List Jvm.Cond) (p1 : Int32) (p2 : Int32) (p3 : Int32) (u0 u1 u2 u3 u4 u5 u6 u7 u8 u9 : Addr) (h0 : Heap) (n0 : Nat) (Z0 : n0 ≤ h0.size) (Sta0 : Sta Z h0 "com/example/penstock/penstock/network/FlowUnit" "CFS" "Lcom/example/penstock/penstock/network/FlowUnit;" (.ref u0)) (Exa0 : Exa Z h0 u0 "com/example/penstock/penstock/network/FlowUnit") (Fld0 : Fld Z h0 u0 "com/example/penstock/penstock/network/FlowUnit" "metric" "Z" (.int 0)) (Sta1 : Sta Z h0 "com/example/penstock/penstock/network/FlowUnit" "GPM" "Lcom/example/penstock/penstock/network/FlowUnit;" (.ref u1)) (Exa1 : Exa Z h0 u1 "com/example/penstock/penstock/network/FlowUnit") (Fld1 : Fld Z h0 u1 "com/example/penstock/penstock/network/FlowUnit" "metric" "Z" (.int 0)) (Sta2 : Sta Z h0 "com/example/penstock/penstock/network/FlowUnit" "MGD" "Lcom/example/penstock/penstock/network/FlowUnit;" (.ref u2)) (Exa2 : Exa Z h0 u2 "com/example/penstock/penstock/network/FlowUnit") (Fld2 : Fld Z h0 u2 "com/example/penstock/penstock/network/FlowUnit" "metric" "Z" (.int 0)) (Sta3 : Sta Z h0 "com/example/penstock/penstock/network/FlowUnit" "IMGD" "Lcom/example/penstock/penstock/network/FlowUnit;" (.ref u3)) (Exa3 : Exa Z h0 u3 "com/example/penstock/penstock/network/FlowUnit") (Fld3 : Fld Z h0 u3 "com/example/penstock/penstock/network/FlowUnit" "metric" "Z" (.int 0)) (Sta4 : Sta Z h0 "com/example/penstock/penstock/network/FlowUnit" "AFD" "Lcom/example/penstock/penstock/network/FlowUnit;" (.ref u4)) (Exa4 : Exa Z h0 u4 "com/example/penstock/penstock/network/FlowUnit") (Fld4 : Fld Z h0 u4 "com/example/penstock/penstock/network/FlowUnit" "metric" "Z" (.int 0)) (Sta5 : Sta Z h0 "com/example/penstock/penstock/network/FlowUnit" "LPS" "Lcom/example/penstock/penstock/network/FlowUnit;" (.ref u5)) (Exa5 : Exa Z h0 u5 "com/example/penstock/penstock/network/FlowUnit") (Fld5 : Fld Z h0 u5 "com/example/penstock/penstock/network/FlowUnit" "metric" "Z" (.int 1)) (Sta6 : Sta Z h0 "com/example/penstock/penstock/network/FlowUnit" "LPM" "Lcom/example/penstock/penstock/network/FlowUnit;" (.ref u6)) (Exa6 : Exa Z h0 u6 "com/example/penstock/penstock/network/FlowUnit") (Fld6 : Fld Z h0 u6 "com/example/penstock/penstock/network/FlowUnit" "metric" "Z" (.int 1)) (Sta7 : Sta Z h0 "com/example/penstock/penstock/network/FlowUnit" "MLD" "Lcom/example/penstock/penstock/network/FlowUnit;" (.ref u7)) (Exa7 : Exa Z h0 u7 "com/example/penstock/penstock/network/FlowUnit") (Fld7 : Fld Z h0 u7 "com/example/penstock/penstock/network/FlowUnit" "metric" "Z" (.int 1)) (Sta8 : Sta Z h0 "com/example/penstock/penstock/network/FlowUnit" "CMH" "Lcom/example/penstock/penstock/network/FlowUnit;" (.ref u8)) (Exa8 : Exa Z h0 u8 "com/example/penstock/penstock/network/FlowUnit") (Fld8 : Fld Z h0 u8 "com/example/penstock/penstock/network/FlowUnit" "metric" "Z" (.int 1)) (Sta9 : Sta Z h0 "com/example/penstock/penstock/network/FlowUnit" "CMD" "Lcom/example/penstock/penstock/network/FlowUnit;" (.ref u9)) (Exa9 : Exa Z h0 u9 "com/example/penstock/penstock/network/FlowUnit") (Fld9 : Fld Z h0 u9 "com/example/penstock/penstock/network/FlowUnit" "metric" "Z" (.int 1)) :
    MetFree l x (head1 (Jvm.Cond.code x code maxLocals ret :: ws) room_1) (fun a U => a = #[(.int p1), (.int p2), (.int p3)] ∧ Z.Warmed39 U.vm ∧ U.heap = h0) (fun _ _ _ _ _ => True) (fun _ U o U' => ∃ v L, o = .returned v ∧ Q0 Z p1 p2 p3 h0 n0 v U'.heap L ∧ FrameEnd U o U' L room_1.cells room_1.slots) := by
  refine MetFree.of_bodySF (plainFor_of_name pn_com_example_penstock_penstock_network_FlowUnitLengthFromFeetPinLaw) hisR ?_
  intro p e s m args below meth c s₁ Bd hml0 hP hK
  obtain ⟨rfl, hZ, hh⟩ := hP
  have hx := Bd.exec
  have hby := Bd.bytes
  have hml : c.maxLocals = 12 := hml0
  have hown : s.vm.findClass "com/example/penstock/penstock/network/FlowUnitLengthFromFeetPinLaw" = some m.cls := findClass_of_methodNamed Bd.named
  have hnm := (name_of_methodNamed Bd.named Bd.method).1
  have X0 : Stand p l e room_1 s m #[(.int p1), (.int p2), (.int p3)] below meth c s₁ [] 0 0 := Stand.of_body Bd
  have e0 : s₁.heap = h0 := by rw [← hh, Bd.state]; rfl
  have N0 := Fr.nil n0
  refine own_open (fun G go fin => ?_)
  refine go (s₁.setTop (mkF m 0 #[.val (.int p1), .val (.int p2), .val (.int p3), .unset, .unset, .unset, .unset, .unset, .unset, .unset, .unset, .unset] [])) _ (fun t9 k9 => castTop (ef_0 m p1 p2 p3) k9) ?_
  refine go (s₁.setTop (mkF m 2 #[.val (.int p1), .val (.int p2), .val (.int p3), .unset, .unset, .unset, .unset, .unset, .unset, .unset, .unset, .unset] [(.int (10 : Int32))])) _ (fun t9 k9 => ?_) ?_
  · show Steps p.tables e below (s₁.setTop (mkF m 0 #[.val (.int p1), .val (.int p2), .val (.int p3), .unset, .unset, .unset, .unset, .unset, .unset, .unset, .unset, .unset] [])) _
    refine XS.bipush X0.here hx rfl (hb hby at_0) ?_
    exact k9
  obtain ⟨T2, h2, k2, X2, e2, E2, A2, O2, st2⟩ := newR X0 hx hZ hown (hw _ (List.mem_of_getElem? (i := 0) rfl)) (hw _ (List.mem_of_getElem? (i := 1) rfl)) e0 (g := (mkF m 2 #[.val (.int p1), .val (.int p2), .val (.int p3), .unset, .unset, .unset, .unset, .unset, .unset, .unset, .unset, .unset] [(.int (10 : Int32))])) rfl (hb hby at_2) rfl (by decide) (cap := 10) (by decide) (by decide) (by decide) (by decide)
  obtain ⟨b0, g2⟩ : ∃ z, z = h0.size := ⟨_, rfl⟩
  rw [← g2] at A2 st2
  refine go (T2.setTop (mkF m 5 #[.val (.int p1), .val (.int p2), .val (.int p3), .unset, .unset, .unset, .unset, .unset, .unset, .unset, .unset, .unset] [(.ref b0)])) _ (fun t9 k9 => st2 _ k9) ?_
  have K0 : Keep h0 h2 [] := (Keep.refl h0 []).ext E2
  have gb : n0 ≤ b0 := Nat.le_trans Z0 (Nat.le_of_eq g2.symm)
  have sb : h0.size ≤ b0 := Nat.le_of_eq g2.symm
  have V0 : Arv Z h2 b0 k2 (.object "com/example/penstock/penstock/network/FlowUnit") (10 : Int32) [.null, .null, .null, .null, .null, .null, .null, .null, .null, .null] .null := (Arv.new A2 (by decide)).pad (pad_rep [] .null 10)
  have Ov := O2
  refine go (T2.setTop (mkF m 7 #[.val (.int p1), .val (.int p2), .val (.int p3), .unset, .unset, .unset, .unset, .unset, .unset, .unset, .unset, .unset] [(.int (0 : Int32)), (.ref b0), (.ref b0)])) _ (fun t9 k9 => ?_) ?_
  · show Steps p.tables e below (T2.setTop (mkF m 5 #[.val (.int p1), .val (.int p2), .val (.int p3), .unset, .unset, .unset, .unset, .unset, .unset, .unset, .unset, .unset] [(.ref b0)])) _
    refine XS.dup X2.here hx rfl (hb hby at_5) rfl rfl ?_
    show Steps p.tables e below (T2.setTop (mkF m 6 #[.val (.int p1), .val (.int p2), .val (.int p3), .unset, .unset, .unset, .unset, .unset, .unset, .unset, .unset, .unset] [(.ref b0), (.ref b0)])) _
    refine XS.iconst X2.here hx rfl (hb hby at_6) ?_
    exact k9
  obtain ⟨T3, X3, e3, st3⟩ := getS X2 hx hZ (host := "") hown (hw _ (List.mem_of_getElem? (i := 2) rfl)) Via.refl e2 (own_sta Sta0 K0) (g := (mkF m 7 #[.val (.int p1), .val (.int p2), .val (.int p3), .unset, .unset, .unset, .unset, .unset, .unset, .unset, .unset, .unset] [(.int (0 : Int32)), (.ref b0), (.ref b0)])) rfl (hb hby at_7)
  refine go (T3.setTop (mkF m 10 #[.val (.int p1), .val (.int p2), .val (.int p3), .unset, .unset, .unset, .unset, .unset, .unset, .unset, .unset, .unset] [(.ref u0), (.int (0 : Int32)), (.ref b0), (.ref b0)])) _ (fun t9 k9 => st3 _ k9) ?_
  obtain ⟨cl0, Ar0, qc0, S0, M0, H0, G0⟩ := V0
  have hin0 : ¬ ((0 : Int32) < 0 ∨ cl0.slots.size ≤ (0 : Int32).toNatClampNeg) := inb_of S0 ⟨by decide, by decide⟩
  obtain ⟨T4, h4, X4, e4, W4, st4⟩ := stR X3 hx hZ e3 Ar0 (j := (0 : Int32)) hin0 rfl (Sto.ofV Ar0 qc0 Ov (Ins.self (Exa0.keep K0))) (g := (mkF m 10 #[.val (.int p1), .val (.int p2), .val (.int p3), .unset, .unset, .unset, .unset, .unset, .unset, .unset, .unset, .unset] [(.ref u0), (.int (0 : Int32)), (.ref b0), (.ref b0)])) rfl rfl (hb hby at_10)
  have N4 := Fr.snoc X4 N0 gb
  refine go (T4.setTop (mkF m 11 #[.val (.int p1), .val (.int p2), .val (.int p3), .unset, .unset, .unset, .unset, .unset, .unset, .unset, .unset, .unset] [(.ref b0)])) _ (fun t9 k9 => st4 _ k9) ?_
  have V1 : Arv Z h4 b0 k2 (.object "com/example/penstock/penstock/network/FlowUnit") (10 : Int32) [(.ref u0), .null, .null, .null, .null, .null, .null, .null, .null, .null] .null := Arv.set Ar0 qc0 S0 M0 H0 G0 rfl W4 0 rfl (by show (0 : Nat) < 10; decide)
  have K1 : Keep h0 h4 [] := K0.wr W4 (Or.inr sb)
  refine go (T4.setTop (mkF m 13 #[.val (.int p1), .val (.int p2), .val (.int p3), .unset, .unset, .unset, .unset, .unset, .unset, .unset, .unset, .unset] [(.int (1 : Int32)), (.ref b0), (.ref b0)])) _ (fun t9 k9 => ?_) ?_
  · show Steps p.tables e below (T4.setTop (mkF m 11 #[.val (.int p1), .val (.int p2), .val (.int p3), .unset, .unset, .unset, .unset, .unset, .unset, .unset, .unset, .unset] [(.ref b0)])) _
    refine XS.dup X4.here hx rfl (hb hby at_11) rfl rfl ?_
    show Steps p.tables e below (T4.setTop (mkF m 12 #[.val (.int p1), .val (.int p2), .val (.int p3), .unset, .unset, .unset, .unset, .unset, .unset, .unset, .unset, .unset] [(.ref b0), (.ref b0)])) _
    refine XS.iconst X4.here hx rfl (hb hby at_12) ?_
    exact k9
  obtain ⟨T5, X5, e5, st5⟩ := getS X4 hx hZ (host := "") hown (hw _ (List.mem_of_getElem? (i := 6) rfl)) Via.refl e4 (own_sta Sta1 K1) (g := (mkF m 13 #[.val (.int p1), .val (.int p2), .val (.int p3), .unset, .unset, .unset, .unset, .unset, .unset, .unset, .unset, .unset] [(.int (1 : Int32)), (.ref b0), (.ref b0)])) rfl (hb hby at_13)
  refine go (T5.setTop (mkF m 16 #[.val (.int p1), .val (.int p2), .val (.int p3), .unset, .unset, .unset, .unset, .unset, .unset, .unset, .unset, .unset] [(.ref u1), (.int (1 : Int32)), (.ref b0), (.ref b0)])) _ (fun t9 k9 => st5 _ k9) ?_
  obtain ⟨cl1, Ar1, qc1, S1, M1, H1, G1⟩ := V1
  have hin1 : ¬ ((1 : Int32) < 0 ∨ cl1.slots.size ≤ (1 : Int32).toNatClampNeg) := inb_of S1 ⟨by decide, by decide⟩
  obtain ⟨T6, h6, X6, e6, W6, st6⟩ := stR X5 hx hZ e5 Ar1 (j := (1 : Int32)) hin1 rfl (Sto.ofV Ar1 qc1 Ov (Ins.self (Exa1.keep K1))) (g := (mkF m 16 #[.val (.int p1), .val (.int p2), .val (.int p3), .unset, .unset, .unset, .unset, .unset, .unset, .unset, .unset, .unset] [(.ref u1), (.int (1 : Int32)), (.ref b0), (.ref b0)])) rfl rfl (hb hby at_16)
  have N6 := Fr.snoc X6 N4 gb
  refine go (T6.setTop (mkF m 17 #[.val (.int p1), .val (.int p2), .val (.int p3), .unset, .unset, .unset, .unset, .unset, .unset, .unset, .unset, .unset] [(.ref b0)])) _ (fun t9 k9 => st6 _ k9) ?_
  have V2 : Arv Z h6 b0 k2 (.object "com/example/penstock/penstock/network/FlowUnit") (10 : Int32) [(.ref u0), (.ref u1), .null, .null, .null, .null, .null, .null, .null, .null] .null := Arv.set Ar1 qc1 S1 M1 H1 G1 rfl W6 1 rfl (by show (1 : Nat) < 10; decide)
  have K2 : Keep h0 h6 [] := K1.wr W6 (Or.inr sb)
  refine go (T6.setTop (mkF m 19 #[.val (.int p1), .val (.int p2), .val (.int p3), .unset, .unset, .unset, .unset, .unset, .unset, .unset, .unset, .unset] [(.int (2 : Int32)), (.ref b0), (.ref b0)])) _ (fun t9 k9 => ?_) ?_
  · show Steps p.tables e below (T6.setTop (mkF m 17 #[.val (.int p1), .val (.int p2), .val (.int p3), .unset, .unset, .unset, .unset, .unset, .unset, .unset, .unset, .unset] [(.ref b0)])) _
    refine XS.dup X6.here hx rfl (hb hby at_17) rfl rfl ?_
    show Steps p.tables e below (T6.setTop (mkF m 18 #[.val (.int p1), .val (.int p2), .val (.int p3), .unset, .unset, .unset, .unset, .unset, .unset, .unset, .unset, .unset] [(.ref b0), (.ref b0)])) _
    refine XS.iconst X6.here hx rfl (hb hby at_18) ?_
    exact k9
  obtain ⟨T7, X7, e7, st7⟩ := getS X6 hx hZ (host := "") hown (hw _ (List.mem_of_getElem? (i := 8) rfl)) Via.refl e6 (own_sta Sta2 K2) (g := (mkF m 19 #[.val (.int p1), .val (.int p2), .val (.int p3), .unset, .unset, .unset, .unset, .unset, .unset, .unset, .unset, .unset] [(.int (2 : Int32)), (.ref b0), (.ref b0)])) rfl (hb hby at_19)
  refine go (T7.setTop (mkF m 22 #[.val (.int p1), .val (.int p2), .val (.int p3), .unset, .unset, .unset, .unset, .unset, .unset, .unset, .unset, .unset] [(.ref u2), (.int (2 : Int32)), (.ref b0), (.ref b0)])) _ (fun t9 k9 => st7 _ k9) ?_
  obtain ⟨cl2, Ar2, qc2, S2, M2, H2, G2⟩ := V2
  have hin2 : ¬ ((2 : Int32) < 0 ∨ cl2.slots.size ≤ (2 : Int32).toNatClampNeg) := inb_of S2 ⟨by decide, by decide⟩
  obtain ⟨T8, h8, X8, e8, W8, st8⟩ := stR X7 hx hZ e7 Ar2 (j := (2 : Int32)) hin2 rfl (Sto.ofV Ar2 qc2 Ov (Ins.self (Exa2.keep K2))) (g := (mkF m 22 #[.val (.int p1), .val (.int p2), .val (.int p3), .unset, .unset, .unset, .unset, .unset, .unset, .unset, .unset, .unset] [(.ref u2), (.int (2 : Int32)), (.ref b0), (.ref b0)])) rfl rfl (hb hby at_22)
  have N8 := Fr.snoc X8 N6 gb
  refine go (T8.setTop (mkF m 23 #[.val (.int p1), .val (.int p2), .val (.int p3), .unset, .unset, .unset, .unset, .unset, .unset, .unset, .unset, .unset] [(.ref b0)])) _ (fun t9 k9 => st8 _ k9) ?_
  have V3 : Arv Z h8 b0 k2 (.object "com/example/penstock/penstock/network/FlowUnit") (10 : Int32) [(.ref u0), (.ref u1), (.ref u2), .null, .null, .null, .null, .null, .null, .null] .null := Arv.set Ar2 qc2 S2 M2 H2 G2 rfl W8 2 rfl (by show (2 : Nat) < 10; decide)
  have K3 : Keep h0 h8 [] := K2.wr W8 (Or.inr sb)
  refine go (T8.setTop (mkF m 25 #[.val (.int p1), .val (.int p2), .val (.int p3), .unset, .unset, .unset, .unset, .unset, .unset, .unset, .unset, .unset] [(.int (3 : Int32)), (.ref b0), (.ref b0)])) _ (fun t9 k9 => ?_) ?_
  · show Steps p.tables e below (T8.setTop (mkF m 23 #[.val (.int p1), .val (.int p2), .val (.int p3), .unset, .unset, .unset, .unset, .unset, .unset, .unset, .unset, .unset] [(.ref b0)])) _
    refine XS.dup X8.here hx rfl (hb hby at_23) rfl rfl ?_
    show Steps p.tables e below (T8.setTop (mkF m 24 #[.val (.int p1), .val (.int p2), .val (.int p3), .unset, .unset, .unset, .unset, .unset, .unset, .unset, .unset, .unset] [(.ref b0), (.ref b0)])) _
    refine XS.iconst X8.here hx rfl (hb hby at_24) ?_
    exact k9
  obtain ⟨T9, X9, e9, st9⟩ := getS X8 hx hZ (host := "") hown (hw _ (List.mem_of_getElem? (i := 10) rfl)) Via.refl e8 (own_sta Sta3 K3) (g := (mkF m 25 #[.val (.int p1), .val (.int p2), .val (.int p3), .unset, .unset, .unset, .unset, .unset, .unset, .unset, .unset, .unset] [(.int (3 : Int32)), (.ref b0), (.ref b0)])) rfl (hb hby at_25)
  refine go (T9.setTop (mkF m 28 #[.val (.int p1), .val (.int p2), .val (.int p3), .unset, .unset, .unset, .unset, .unset, .unset, .unset, .unset, .unset] [(.ref u3), (.int (3 : Int32)), (.ref b0), (.ref b0)])) _ (fun t9 k9 => st9 _ k9) ?_
  obtain ⟨cl3, Ar3, qc3, S3, M3, H3, G3⟩ := V3
  have hin3 : ¬ ((3 : Int32) < 0 ∨ cl3.slots.size ≤ (3 : Int32).toNatClampNeg) := inb_of S3 ⟨by decide, by decide⟩
  obtain ⟨T10, h10, X10, e10, W10, st10⟩ := stR X9 hx hZ e9 Ar3 (j := (3 : Int32)) hin3 rfl (Sto.ofV Ar3 qc3 Ov (Ins.self (Exa3.keep K3))) (g := (mkF m 28 #[.val (.int p1), .val (.int p2), .val (.int p3), .unset, .unset, .unset, .unset, .unset, .unset, .unset, .unset, .unset] [(.ref u3), (.int (3 : Int32)), (.ref b0), (.ref b0)])) rfl rfl (hb hby at_28)
  have N10 := Fr.snoc X10 N8 gb
  refine go (T10.setTop (mkF m 29 #[.val (.int p1), .val (.int p2), .val (.int p3), .unset, .unset, .unset, .unset, .unset, .unset, .unset, .unset, .unset] [(.ref b0)])) _ (fun t9 k9 => st10 _ k9) ?_
  have V4 : Arv Z h10 b0 k2 (.object "com/example/penstock/penstock/network/FlowUnit") (10 : Int32) [(.ref u0), (.ref u1), (.ref u2), (.ref u3), .null, .null, .null, .null, .null, .null] .null := Arv.set Ar3 qc3 S3 M3 H3 G3 rfl W10 3 rfl (by show (3 : Nat) < 10; decide)
  have K4 : Keep h0 h10 [] := K3.wr W10 (Or.inr sb)
  refine go (T10.setTop (mkF m 31 #[.val (.int p1), .val (.int p2), .val (.int p3), .unset, .unset, .unset, .unset, .unset, .unset, .unset, .unset, .unset] [(.int (4 : Int32)), (.ref b0), (.ref b0)])) _ (fun t9 k9 => ?_) ?_
  · show Steps p.tables e below (T10.setTop (mkF m 29 #[.val (.int p1), .val (.int p2), .val (.int p3), .unset, .unset, .unset, .unset, .unset, .unset, .unset, .unset, .unset] [(.ref b0)])) _
    refine XS.dup X10.here hx rfl (hb hby at_29) rfl rfl ?_
    show Steps p.tables e below (T10.setTop (mkF m 30 #[.val (.int p1), .val (.int p2), .val (.int p3), .unset, .unset, .unset, .unset, .unset, .unset, .unset, .unset, .unset] [(.ref b0), (.ref b0)])) _
    refine XS.iconst X10.here hx rfl (hb hby at_30) ?_
    exact k9
  obtain ⟨T11, X11, e11, st11⟩ := getS X10 hx hZ (host := "") hown (hw _ (List.mem_of_getElem? (i := 12) rfl)) Via.refl e10 (own_sta Sta4 K4) (g := (mkF m 31 #[.val (.int p1), .val (.int p2), .val (.int p3), .unset, .unset, .unset, .unset, .unset, .unset, .unset, .unset, .unset] [(.int (4 : Int32)), (.ref b0), (.ref b0)])) rfl (hb hby at_31)
  refine go (T11.setTop (mkF m 34 #[.val (.int p1), .val (.int p2), .val (.int p3), .unset, .unset, .unset, .unset, .unset, .unset, .unset, .unset, .unset] [(.ref u4), (.int (4 : Int32)), (.ref b0), (.ref b0)])) _ (fun t9 k9 => st11 _ k9) ?_
  obtain ⟨cl4, Ar4, qc4, S4, M4, H4, G4⟩ := V4
  have hin4 : ¬ ((4 : Int32) < 0 ∨ cl4.slots.size ≤ (4 : Int32).toNatClampNeg) := inb_of S4 ⟨by decide, by decide⟩
  obtain ⟨T12, h12, X12, e12, W12, st12⟩ := stR X11 hx hZ e11 Ar4 (j := (4 : Int32)) hin4 rfl (Sto.ofV Ar4 qc4 Ov (Ins.self (Exa4.keep K4))) (g := (mkF m 34 #[.val (.int p1), .val (.int p2), .val (.int p3), .unset, .unset, .unset, .unset, .unset, .unset, .unset, .unset, .unset] [(.ref u4), (.int (4 : Int32)), (.ref b0), (.ref b0)])) rfl rfl (hb hby at_34)
  have N12 := Fr.snoc X12 N10 gb
  refine go (T12.setTop (mkF m 35 #[.val (.int p1), .val (.int p2), .val (.int p3), .unset, .unset, .unset, .unset, .unset, .unset, .unset, .unset, .unset] [(.ref b0)])) _ (fun t9 k9 => st12 _ k9) ?_
  have V5 : Arv Z h12 b0 k2 (.object "com/example/penstock/penstock/network/FlowUnit") (10 : Int32) [(.ref u0), (.ref u1), (.ref u2), (.ref u3), (.ref u4), .null, .null, .null, .null, .null] .null := Arv.set Ar4 qc4 S4 M4 H4 G4 rfl W12 4 rfl (by show (4 : Nat) < 10; decide)
  have K5 : Keep h0 h12 [] := K4.wr W12 (Or.inr sb)
  refine go (T12.setTop (mkF m 37 #[.val (.int p1), .val (.int p2), .val (.int p3), .unset, .unset, .unset, .unset, .unset, .unset, .unset, .unset, .unset] [(.int (5 : Int32)), (.ref b0), (.ref b0)])) _ (fun t9 k9 => ?_) ?_
  · show Steps p.tables e below (T12.setTop (mkF m 35 #[.val (.int p1), .val (.int p2), .val (.int p3), .unset, .unset, .unset, .unset, .unset, .unset, .unset, .unset, .unset] [(.ref b0)])) _
    refine XS.dup X12.here hx rfl (hb hby at_35) rfl rfl ?_
    show Steps p.tables e below (T12.setTop (mkF m 36 #[.val (.int p1), .val (.int p2), .val (.int p3), .unset, .unset, .unset, .unset, .unset, .unset, .unset, .unset, .unset] [(.ref b0), (.ref b0)])) _
    refine XS.iconst X12.here hx rfl (hb hby at_36) ?_
    exact k9
  obtain ⟨T13, X13, e13, st13⟩ := getS X12 hx hZ (host := "") hown (hw _ (List.mem_of_getElem? (i := 14) rfl)) Via.refl e12 (own_sta Sta5 K5) (g := (mkF m 37 #[.val (.int p1), .val (.int p2), .val (.int p3), .unset, .unset, .unset, .unset, .unset, .unset, .unset, .unset, .unset] [(.int (5 : Int32)), (.ref b0), (.ref b0)])) rfl (hb hby at_37)
  refine go (T13.setTop (mkF m 40 #[.val (.int p1), .val (.int p2), .val (.int p3), .unset, .unset, .unset, .unset, .unset, .unset, .unset, .unset, .unset] [(.ref u5), (.int (5 : Int32)), (.ref b0), (.ref b0)])) _ (fun t9 k9 => st13 _ k9) ?_
  obtain ⟨cl5, Ar5, qc5, S5, M5, H5, G5⟩ := V5
  have hin5 : ¬ ((5 : Int32) < 0 ∨ cl5.slots.size ≤ (5 : Int32).toNatClampNeg) := inb_of S5 ⟨by decide, by decide⟩
  obtain ⟨T14, h14, X14, e14, W14, st14⟩ := stR X13 hx hZ e13 Ar5 (j := (5 : Int32)) hin5 rfl (Sto.ofV Ar5 qc5 Ov (Ins.self (Exa5.keep K5))) (g := (mkF m 40 #[.val (.int p1), .val (.int p2), .val (.int p3), .unset, .unset, .unset, .unset, .unset, .unset, .unset, .unset, .unset] [(.ref u5), (.int (5 : Int32)), (.ref b0), (.ref b0)])) rfl rfl (hb hby at_40)
  have N14 := Fr.snoc X14 N12 gb
  refine go (T14.setTop (mkF m 41 #[.val (.int p1), .val (.int p2), .val (.int p3), .unset, .unset, .unset, .unset, .unset, .unset, .unset, .unset, .unset] [(.ref b0)])) _ (fun t9 k9 => st14 _ k9) ?_
  have V6 : Arv Z h14 b0 k2 (.object "com/example/penstock/penstock/network/FlowUnit") (10 : Int32) [(.ref u0), (.ref u1), (.ref u2), (.ref u3), (.ref u4), (.ref u5), .null, .null, .null, .null] .null := Arv.set Ar5 qc5 S5 M5 H5 G5 rfl W14 5 rfl (by show (5 : Nat) < 10; decide)
  have K6 : Keep h0 h14 [] := K5.wr W14 (Or.inr sb)
  refine go (T14.setTop (mkF m 44 #[.val (.int p1), .val (.int p2), .val (.int p3), .unset, .unset, .unset, .unset, .unset, .unset, .unset, .unset, .unset] [(.int (6 : Int32)), (.ref b0), (.ref b0)])) _ (fun t9 k9 => ?_) ?_
  · show Steps p.tables e below (T14.setTop (mkF m 41 #[.val (.int p1), .val (.int p2), .val (.int p3), .unset, .unset, .unset, .unset, .unset, .unset, .unset, .unset, .unset] [(.ref b0)])) _
    refine XS.dup X14.here hx rfl (hb hby at_41) rfl rfl ?_
    show Steps p.tables e below (T14.setTop (mkF m 42 #[.val (.int p1), .val (.int p2), .val (.int p3), .unset, .unset, .unset, .unset, .unset, .unset, .unset, .unset, .unset] [(.ref b0), (.ref b0)])) _
    refine XS.bipush X14.here hx rfl (hb hby at_42) ?_
    exact k9
  obtain ⟨T15, X15, e15, st15⟩ := getS X14 hx hZ (host := "") hown (hw _ (List.mem_of_getElem? (i := 16) rfl)) Via.refl e14 (own_sta Sta6 K6) (g := (mkF m 44 #[.val (.int p1), .val (.int p2), .val (.int p3), .unset, .unset, .unset, .unset, .unset, .unset, .unset, .unset, .unset] [(.int (6 : Int32)), (.ref b0), (.ref b0)])) rfl (hb hby at_44)
  refine go (T15.setTop (mkF m 47 #[.val (.int p1), .val (.int p2), .val (.int p3), .unset, .unset, .unset, .unset, .unset, .unset, .unset, .unset, .unset] [(.ref u6), (.int (6 : Int32)), (.ref b0), (.ref b0)])) _ (fun t9 k9 => st15 _ k9) ?_
  obtain ⟨cl6, Ar6, qc6, S6, M6, H6, G6⟩ := V6
  have hin6 : ¬ ((6 : Int32) < 0 ∨ cl6.slots.size ≤ (6 : Int32).toNatClampNeg) := inb_of S6 ⟨by decide, by decide⟩
  obtain ⟨T16, h16, X16, e16, W16, st16⟩ := stR X15 hx hZ e15 Ar6 (j := (6 : Int32)) hin6 rfl (Sto.ofV Ar6 qc6 Ov (Ins.self (Exa6.keep K6))) (g := (mkF m 47 #[.val (.int p1), .val (.int p2), .val (.int p3), .unset, .unset, .unset, .unset, .unset, .unset, .unset, .unset, .unset] [(.ref u6), (.int (6 : Int32)), (.ref b0), (.ref b0)])) rfl rfl (hb hby at_47)
  have N16 := Fr.snoc X16 N14 gb
  refine go (T16.setTop (mkF m 48 #[.val (.int p1), .val (.int p2), .val (.int p3), .unset, .unset, .unset, .unset, .unset, .unset, .unset, .unset, .unset] [(.ref b0)])) _ (fun t9 k9 => st16 _ k9) ?_
  have V7 : Arv Z h16 b0 k2 (.object "com/example/penstock/penstock/network/FlowUnit") (10 : Int32) [(.ref u0), (.ref u1), (.ref u2), (.ref u3), (.ref u4), (.ref u5), (.ref u6), .null, .null, .null] .null := Arv.set Ar6 qc6 S6 M6 H6 G6 rfl W16 6 rfl (by show (6 : Nat) < 10; decide)
  have K7 : Keep h0 h16 [] := K6.wr W16 (Or.inr sb)
  refine go (T16.setTop (mkF m 51 #[.val (.int p1), .val (.int p2), .val (.int p3), .unset, .unset, .unset, .unset, .unset, .unset, .unset, .unset, .unset] [(.int (7 : Int32)), (.ref b0), (.ref b0)])) _ (fun t9 k9 => ?_) ?_
  · show Steps p.tables e below (T16.setTop (mkF m 48 #[.val (.int p1), .val (.int p2), .val (.int p3), .unset, .unset, .unset, .unset, .unset, .unset, .unset, .unset, .unset] [(.ref b0)])) _
    refine XS.dup X16.here hx rfl (hb hby at_48) rfl rfl ?_
    show Steps p.tables e below (T16.setTop (mkF m 49 #[.val (.int p1), .val (.int p2), .val (.int p3), .unset, .unset, .unset, .unset, .unset, .unset, .unset, .unset, .unset] [(.ref b0), (.ref b0)])) _
    refine XS.bipush X16.here hx rfl (hb hby at_49) ?_
    exact k9
  obtain ⟨T17, X17, e17, st17⟩ := getS X16 hx hZ (host := "") hown (hw _ (List.mem_of_getElem? (i := 18) rfl)) Via.refl e16 (own_sta Sta7 K7) (g := (mkF m 51 #[.val (.int p1), .val (.int p2), .val (.int p3), .unset, .unset, .unset, .unset, .unset, .unset, .unset, .unset, .unset] [(.int (7 : Int32)), (.ref b0), (.ref b0)])) rfl (hb hby at_51)
  refine go (T17.setTop (mkF m 54 #[.val (.int p1), .val (.int p2), .val (.int p3), .unset, .unset, .unset, .unset, .unset, .unset, .unset, .unset, .unset] [(.ref u7), (.int (7 : Int32)), (.ref b0), (.ref b0)])) _ (fun t9 k9 => st17 _ k9) ?_
  obtain ⟨cl7, Ar7, qc7, S7, M7, H7, G7⟩ := V7
  have hin7 : ¬ ((7 : Int32) < 0 ∨ cl7.slots.size ≤ (7 : Int32).toNatClampNeg) := inb_of S7 ⟨by decide, by decide⟩
  obtain ⟨T18, h18, X18, e18, W18, st18⟩ := stR X17 hx hZ e17 Ar7 (j := (7 : Int32)) hin7 rfl (Sto.ofV Ar7 qc7 Ov (Ins.self (Exa7.keep K7))) (g := (mkF m 54 #[.val (.int p1), .val (.int p2), .val (.int p3), .unset, .unset, .unset, .unset, .unset, .unset, .unset, .unset, .unset] [(.ref u7), (.int (7 : Int32)), (.ref b0), (.ref b0)])) rfl rfl (hb hby at_54)
  have N18 := Fr.snoc X18 N16 gb
  refine go (T18.setTop (mkF m 55 #[.val (.int p1), .val (.int p2), .val (.int p3), .unset, .unset, .unset, .unset, .unset, .unset, .unset, .unset, .unset] [(.ref b0)])) _ (fun t9 k9 => st18 _ k9) ?_
  have V8 : Arv Z h18 b0 k2 (.object "com/example/penstock/penstock/network/FlowUnit") (10 : Int32) [(.ref u0), (.ref u1), (.ref u2), (.ref u3), (.ref u4), (.ref u5), (.ref u6), (.ref u7), .null, .null] .null := Arv.set Ar7 qc7 S7 M7 H7 G7 rfl W18 7 rfl (by show (7 : Nat) < 10; decide)
  have K8 : Keep h0 h18 [] := K7.wr W18 (Or.inr sb)
  refine go (T18.setTop (mkF m 58 #[.val (.int p1), .val (.int p2), .val (.int p3), .unset, .unset, .unset, .unset, .unset, .unset, .unset, .unset, .unset] [(.int (8 : Int32)), (.ref b0), (.ref b0)])) _ (fun t9 k9 => ?_) ?_
  · show Steps p.tables e below (T18.setTop (mkF m 55 #[.val (.int p1), .val (.int p2), .val (.int p3), .unset, .unset, .unset, .unset, .unset, .unset, .unset, .unset, .unset] [(.ref b0)])) _
    refine XS.dup X18.here hx rfl (hb hby at_55) rfl rfl ?_
    show Steps p.tables e below (T18.setTop (mkF m 56 #[.val (.int p1), .val (.int p2), .val (.int p3), .unset, .unset, .unset, .unset, .unset, .unset, .unset, .unset, .unset] [(.ref b0), (.ref b0)])) _
    refine XS.bipush X18.here hx rfl (hb hby at_56) ?_
    exact k9
  obtain ⟨T19, X19, e19, st19⟩ := getS X18 hx hZ (host := "") hown (hw _ (List.mem_of_getElem? (i := 20) rfl)) Via.refl e18 (own_sta Sta8 K8) (g := (mkF m 58 #[.val (.int p1), .val (.int p2), .val (.int p3), .unset, .unset, .unset, .unset, .unset, .unset, .unset, .unset, .unset] [(.int (8 : Int32)), (.ref b0), (.ref b0)])) rfl (hb hby at_58)
  refine go (T19.setTop (mkF m 61 #[.val (.int p1), .val (.int p2), .val (.int p3), .unset, .unset, .unset, .unset, .unset, .unset, .unset, .unset, .unset] [(.ref u8), (.int (8 : Int32)), (.ref b0), (.ref b0)])) _ (fun t9 k9 => st19 _ k9) ?_
  obtain ⟨cl8, Ar8, qc8, S8, M8, H8, G8⟩ := V8
  have hin8 : ¬ ((8 : Int32) < 0 ∨ cl8.slots.size ≤ (8 : Int32).toNatClampNeg) := inb_of S8 ⟨by decide, by decide⟩
  obtain ⟨T20, h20, X20, e20, W20, st20⟩ := stR X19 hx hZ e19 Ar8 (j := (8 : Int32)) hin8 rfl (Sto.ofV Ar8 qc8 Ov (Ins.self (Exa8.keep K8))) (g := (mkF m 61 #[.val (.int p1), .val (.int p2), .val (.int p3), .unset, .unset, .unset, .unset, .unset, .unset, .unset, .unset, .unset] [(.ref u8), (.int (8 : Int32)), (.ref b0), (.ref b0)])) rfl rfl (hb hby at_61)
  have N20 := Fr.snoc X20 N18 gb
  refine go (T20.setTop (mkF m 62 #[.val (.int p1), .val (.int p2), .val (.int p3), .unset, .unset, .unset, .unset, .unset, .unset, .unset, .unset, .unset] [(.ref b0)])) _ (fun t9 k9 => st20 _ k9) ?_
  have V9 : Arv Z h20 b0 k2 (.object "com/example/penstock/penstock/network/FlowUnit") (10 : Int32) [(.ref u0), (.ref u1), (.ref u2), (.ref u3), (.ref u4), (.ref u5), (.ref u6), (.ref u7), (.ref u8), .null] .null := Arv.set Ar8 qc8 S8 M8 H8 G8 rfl W20 8 rfl (by show (8 : Nat) < 10; decide)
  have K9 : Keep h0 h20 [] := K8.wr W20 (Or.inr sb)
  refine go (T20.setTop (mkF m 65 #[.val (.int p1), .val (.int p2), .val (.int p3), .unset, .unset, .unset, .unset, .unset, .unset, .unset, .unset, .unset] [(.int (9 : Int32)), (.ref b0), (.ref b0)])) _ (fun t9 k9 => ?_) ?_
  · show Steps p.tables e below (T20.setTop (mkF m 62 #[.val (.int p1), .val (.int p2), .val (.int p3), .unset, .unset, .unset, .unset, .unset, .unset, .unset, .unset, .unset] [(.ref b0)])) _
    refine XS.dup X20.here hx rfl (hb hby at_62) rfl rfl ?_
    show Steps p.tables e below (T20.setTop (mkF m 63 #[.val (.int p1), .val (.int p2), .val (.int p3), .unset, .unset, .unset, .unset, .unset, .unset, .unset, .unset, .unset] [(.ref b0), (.ref b0)])) _
    refine XS.bipush X20.here hx rfl (hb hby at_63) ?_
    exact k9
  obtain ⟨T21, X21, e21, st21⟩ := getS X20 hx hZ (host := "") hown (hw _ (List.mem_of_getElem? (i := 22) rfl)) Via.refl e20 (own_sta Sta9 K9) (g := (mkF m 65 #[.val (.int p1), .val (.int p2), .val (.int p3), .unset, .unset, .unset, .unset, .unset, .unset, .unset, .unset, .unset] [(.int (9 : Int32)), (.ref b0), (.ref b0)])) rfl (hb hby at_65)
  refine go (T21.setTop (mkF m 68 #[.val (.int p1), .val (.int p2), .val (.int p3), .unset, .unset, .unset, .unset, .unset, .unset, .unset, .unset, .unset] [(.ref u9), (.int (9 : Int32)), (.ref b0), (.ref b0)])) _ (fun t9 k9 => st21 _ k9) ?_
  obtain ⟨cl9, Ar9, qc9, S9, M9, H9, G9⟩ := V9
  have hin9 : ¬ ((9 : Int32) < 0 ∨ cl9.slots.size ≤ (9 : Int32).toNatClampNeg) := inb_of S9 ⟨by decide, by decide⟩
  obtain ⟨T22, h22, X22, e22, W22, st22⟩ := stR X21 hx hZ e21 Ar9 (j := (9 : Int32)) hin9 rfl (Sto.ofV Ar9 qc9 Ov (Ins.self (Exa9.keep K9))) (g := (mkF m 68 #[.val (.int p1), .val (.int p2), .val (.int p3), .unset, .unset, .unset, .unset, .unset, .unset, .unset, .unset, .unset] [(.ref u9), (.int (9 : Int32)), (.ref b0), (.ref b0)])) rfl rfl (hb hby at_68)
  have N22 := Fr.snoc X22 N20 gb
  refine go (T22.setTop (mkF m 69 #[.val (.int p1), .val (.int p2), .val (.int p3), .unset, .unset, .unset, .unset, .unset, .unset, .unset, .unset, .unset] [(.ref b0)])) _ (fun t9 k9 => st22 _ k9) ?_
  have V10 : Arv Z h22 b0 k2 (.object "com/example/penstock/penstock/network/FlowUnit") (10 : Int32) [(.ref u0), (.ref u1), (.ref u2), (.ref u3), (.ref u4), (.ref u5), (.ref u6), (.ref u7), (.ref u8), (.ref u9)] .null := Arv.set Ar9 qc9 S9 M9 H9 G9 rfl W22 9 rfl (by show (9 : Nat) < 10; decide)
  have K10 : Keep h0 h22 [] := K9.wr W22 (Or.inr sb)
  refine go (T22.setTop (mkF m 88 #[.val (.int p1), .val (.int p2), .val (.int p3), .val (.ref b0), .val (.int ((p1 &&& (2147483647 : Int32)) % (10 : Int32))), .unset, .unset, .unset, .unset, .unset, .unset, .unset] [(.double (FP.i2d ((1 : Int32) <<< ((p3 &&& (7 : Int32)) &&& 31)))), (.double (FP.i2d p2))])) _ (fun t9 k9 => ?_) ?_
  · show Steps p.tables e below (T22.setTop (mkF m 69 #[.val (.int p1), .val (.int p2), .val (.int p3), .unset, .unset, .unset, .unset, .unset, .unset, .unset, .unset, .unset] [(.ref b0)])) _
    refine XS.astoreN X22.here hx rfl (hb hby at_69) rfl rfl (l' := #[.val (.int p1), .val (.int p2), .val (.int p3), .val (.ref b0), .unset, .unset, .unset, .unset, .unset, .unset, .unset, .unset]) rfl ?_
    show Steps p.tables e below (T22.setTop (mkF m 70 #[.val (.int p1), .val (.int p2), .val (.int p3), .val (.ref b0), .unset, .unset, .unset, .unset, .unset, .unset, .unset, .unset] [])) _
    refine XS.iloadN X22.here hx rfl (hb hby at_70) rfl ?_
    show Steps p.tables e below (T22.setTop (mkF m 71 #[.val (.int p1), .val (.int p2), .val (.int p3), .val (.ref b0), .unset, .unset, .unset, .unset, .unset, .unset, .unset, .unset] [(.int p1)])) _
    refine X22.ldcInt hx hown (mvT hZ (hw _ (List.mem_of_getElem? (i := 24) rfl))) (g := (mkF m 71 #[.val (.int p1), .val (.int p2), .val (.int p3), .val (.ref b0), .unset, .unset, .unset, .unset, .unset, .unset, .unset, .unset] [(.int p1)])) rfl (hb hby at_71) _ ?_
    show Steps p.tables e below (T22.setTop (mkF m 73 #[.val (.int p1), .val (.int p2), .val (.int p3), .val (.ref b0), .unset, .unset, .unset, .unset, .unset, .unset, .unset, .unset] [(.int (2147483647 : Int32)), (.int p1)])) _
    refine XS.iand X22.here hx rfl (hb hby at_73) rfl ?_
    show Steps p.tables e below (T22.setTop (mkF m 74 #[.val (.int p1), .val (.int p2), .val (.int p3), .val (.ref b0), .unset, .unset, .unset, .unset, .unset, .unset, .unset, .unset] [(.int (p1 &&& (2147483647 : Int32)))])) _
    refine XS.bipush X22.here hx rfl (hb hby at_74) ?_
    show Steps p.tables e below (T22.setTop (mkF m 76 #[.val (.int p1), .val (.int p2), .val (.int p3), .val (.ref b0), .unset, .unset, .unset, .unset, .unset, .unset, .unset, .unset] [(.int (10 : Int32)), (.int (p1 &&& (2147483647 : Int32)))])) _
    refine iremM X22 hx rfl (hb hby at_76) rfl (by decide) ?_
    show Steps p.tables e below (T22.setTop (mkF m 77 #[.val (.int p1), .val (.int p2), .val (.int p3), .val (.ref b0), .unset, .unset, .unset, .unset, .unset, .unset, .unset, .unset] [(.int ((p1 &&& (2147483647 : Int32)) % (10 : Int32)))])) _
    refine XS.istore X22.here hx rfl (hb hby at_77) rfl (l' := #[.val (.int p1), .val (.int p2), .val (.int p3), .val (.ref b0), .val (.int ((p1 &&& (2147483647 : Int32)) % (10 : Int32))), .unset, .unset, .unset, .unset, .unset, .unset, .unset]) rfl ?_
    show Steps p.tables e below (T22.setTop (mkF m 79 #[.val (.int p1), .val (.int p2), .val (.int p3), .val (.ref b0), .val (.int ((p1 &&& (2147483647 : Int32)) % (10 : Int32))), .unset, .unset, .unset, .unset, .unset, .unset, .unset] [])) _
    refine XS.iloadN X22.here hx rfl (hb hby at_79) rfl ?_
    show Steps p.tables e below (T22.setTop (mkF m 80 #[.val (.int p1), .val (.int p2), .val (.int p3), .val (.ref b0), .val (.int ((p1 &&& (2147483647 : Int32)) % (10 : Int32))), .unset, .unset, .unset, .unset, .unset, .unset, .unset] [(.int p2)])) _
    refine XS.i2dS X22.here hx rfl (hb hby at_80) rfl rfl ?_
    show Steps p.tables e below (T22.setTop (mkF m 81 #[.val (.int p1), .val (.int p2), .val (.int p3), .val (.ref b0), .val (.int ((p1 &&& (2147483647 : Int32)) % (10 : Int32))), .unset, .unset, .unset, .unset, .unset, .unset, .unset] [(.double (FP.i2d p2))])) _
    refine XS.iconst X22.here hx rfl (hb hby at_81) ?_
    show Steps p.tables e below (T22.setTop (mkF m 82 #[.val (.int p1), .val (.int p2), .val (.int p3), .val (.ref b0), .val (.int ((p1 &&& (2147483647 : Int32)) % (10 : Int32))), .unset, .unset, .unset, .unset, .unset, .unset, .unset] [(.int (1 : Int32)), (.double (FP.i2d p2))])) _
    refine XS.iloadN X22.here hx rfl (hb hby at_82) rfl ?_
    show Steps p.tables e below (T22.setTop (mkF m 83 #[.val (.int p1), .val (.int p2), .val (.int p3), .val (.ref b0), .val (.int ((p1 &&& (2147483647 : Int32)) % (10 : Int32))), .unset, .unset, .unset, .unset, .unset, .unset, .unset] [(.int p3), (.int (1 : Int32)), (.double (FP.i2d p2))])) _
    refine XS.bipush X22.here hx rfl (hb hby at_83) ?_
    show Steps p.tables e below (T22.setTop (mkF m 85 #[.val (.int p1), .val (.int p2), .val (.int p3), .val (.ref b0), .val (.int ((p1 &&& (2147483647 : Int32)) % (10 : Int32))), .unset, .unset, .unset, .unset, .unset, .unset, .unset] [(.int (7 : Int32)), (.int p3), (.int (1 : Int32)), (.double (FP.i2d p2))])) _
    refine XS.iand X22.here hx rfl (hb hby at_85) rfl ?_
    show Steps p.tables e below (T22.setTop (mkF m 86 #[.val (.int p1), .val (.int p2), .val (.int p3), .val (.ref b0), .val (.int ((p1 &&& (2147483647 : Int32)) % (10 : Int32))), .unset, .unset, .unset, .unset, .unset, .unset, .unset] [(.int (p3 &&& (7 : Int32))), (.int (1 : Int32)), (.double (FP.i2d p2))])) _
    refine XS.ishl X22.here hx rfl (hb hby at_86) rfl ?_
    show Steps p.tables e below (T22.setTop (mkF m 87 #[.val (.int p1), .val (.int p2), .val (.int p3), .val (.ref b0), .val (.int ((p1 &&& (2147483647 : Int32)) % (10 : Int32))), .unset, .unset, .unset, .unset, .unset, .unset, .unset] [(.int ((1 : Int32) <<< ((p3 &&& (7 : Int32)) &&& 31))), (.double (FP.i2d p2))])) _
    refine XS.i2dS X22.here hx rfl (hb hby at_87) rfl rfl ?_
    exact k9
  obtain ⟨ix, hix, hcase⟩ := own_idx p1
  rw [hix]
  obtain ⟨cl, Ar, qc, Sz, Mz, Hz, Gz⟩ := V10
  have hel : ∃ (u : Addr) (b : Int32), cl.slots[ix.toNatClampNeg]? = some (.ref u) ∧ Exa Z h0 u "com/example/penstock/penstock/network/FlowUnit" ∧ Fld Z h0 u "com/example/penstock/penstock/network/FlowUnit" "metric" "Z" (.int b) ∧ b = (if ix < (5 : Int32) then (0 : Int32) else (1 : Int32)) ∧ ¬ (ix < 0 ∨ cl.slots.size ≤ ix.toNatClampNeg) := by
    rcases hcase with rfl | rfl | rfl | rfl | rfl | rfl | rfl | rfl | rfl | rfl
    · exact ⟨u0, 0, Hz.at (inb_of Sz ⟨by decide, by decide⟩) rfl, Exa0, Fld0, by decide, inb_of Sz ⟨by decide, by decide⟩⟩
    · exact ⟨u1, 0, Hz.at (inb_of Sz ⟨by decide, by decide⟩) rfl, Exa1, Fld1, by decide, inb_of Sz ⟨by decide, by decide⟩⟩
    · exact ⟨u2, 0, Hz.at (inb_of Sz ⟨by decide, by decide⟩) rfl, Exa2, Fld2, by decide, inb_of Sz ⟨by decide, by decide⟩⟩
    · exact ⟨u3, 0, Hz.at (inb_of Sz ⟨by decide, by decide⟩) rfl, Exa3, Fld3, by decide, inb_of Sz ⟨by decide, by decide⟩⟩
    · exact ⟨u4, 0, Hz.at (inb_of Sz ⟨by decide, by decide⟩) rfl, Exa4, Fld4, by decide, inb_of Sz ⟨by decide, by decide⟩⟩
    · exact ⟨u5, 1, Hz.at (inb_of Sz ⟨by decide, by decide⟩) rfl, Exa5, Fld5, by decide, inb_of Sz ⟨by decide, by decide⟩⟩
    · exact ⟨u6, 1, Hz.at (inb_of Sz ⟨by decide, by decide⟩) rfl, Exa6, Fld6, by decide, inb_of Sz ⟨by decide, by decide⟩⟩
    · exact ⟨u7, 1, Hz.at (inb_of Sz ⟨by decide, by decide⟩) rfl, Exa7, Fld7, by decide, inb_of Sz ⟨by decide, by decide⟩⟩
    · exact ⟨u8, 1, Hz.at (inb_of Sz ⟨by decide, by decide⟩) rfl, Exa8, Fld8, by decide, inb_of Sz ⟨by decide, by decide⟩⟩
    · exact ⟨u9, 1, Hz.at (inb_of Sz ⟨by decide, by decide⟩) rfl, Exa9, Fld9, by decide, inb_of Sz ⟨by decide, by decide⟩⟩
  obtain ⟨u, b, hat, Eu, Fu, hbv, hin⟩ := hel
  have hfm := own_feet p2 p3
  have hfd : NoNaN64 (FP.ddiv (FP.i2d p2) (FP.i2d ((1 : Int32) <<< ((p3 &&& (7 : Int32)) &&& 31)))) := hfm
  have hnn : NoNaN64 (FP.dmul (FP.ddiv (FP.i2d p2) (FP.i2d ((1 : Int32) <<< ((p3 &&& (7 : Int32)) &&& 31)))) (4599162408583596029 : UInt64)) := own_res p2 p3
  refine go (T22.setTop (mkF m 94 #[.val (.int p1), .val (.int p2), .val (.int p3), .val (.ref b0), .val (.int ix), .val (.double (FP.ddiv (FP.i2d p2) (FP.i2d ((1 : Int32) <<< ((p3 &&& (7 : Int32)) &&& 31))))), .second, .unset, .unset, .unset, .unset, .unset] [(.int (5 : Int32)), (.int ix)])) _ (fun t9 k9 => ?_) ?_
  · show Steps p.tables e below (T22.setTop (mkF m 88 #[.val (.int p1), .val (.int p2), .val (.int p3), .val (.ref b0), .val (.int ix), .unset, .unset, .unset, .unset, .unset, .unset, .unset] [(.double (FP.i2d ((1 : Int32) <<< ((p3 &&& (7 : Int32)) &&& 31)))), (.double (FP.i2d p2))])) _
    refine XS.ddivS X22.here hx rfl (hb hby at_88) rfl hfd rfl ?_
    show Steps p.tables e below (T22.setTop (mkF m 89 #[.val (.int p1), .val (.int p2), .val (.int p3), .val (.ref b0), .val (.int ix), .unset, .unset, .unset, .unset, .unset, .unset, .unset] [(.double (FP.ddiv (FP.i2d p2) (FP.i2d ((1 : Int32) <<< ((p3 &&& (7 : Int32)) &&& 31)))))])) _
    refine XS.dstore X22.here hx rfl (hb hby at_89) rfl (l' := #[.val (.int p1), .val (.int p2), .val (.int p3), .val (.ref b0), .val (.int ix), .val (.double (FP.ddiv (FP.i2d p2) (FP.i2d ((1 : Int32) <<< ((p3 &&& (7 : Int32)) &&& 31))))), .second, .unset, .unset, .unset, .unset, .unset]) rfl ?_
    show Steps p.tables e below (T22.setTop (mkF m 91 #[.val (.int p1), .val (.int p2), .val (.int p3), .val (.ref b0), .val (.int ix), .val (.double (FP.ddiv (FP.i2d p2) (FP.i2d ((1 : Int32) <<< ((p3 &&& (7 : Int32)) &&& 31))))), .second, .unset, .unset, .unset, .unset, .unset] [])) _
    refine XS.iload X22.here hx rfl (hb hby at_91) rfl ?_
    show Steps p.tables e below (T22.setTop (mkF m 93 #[.val (.int p1), .val (.int p2), .val (.int p3), .val (.ref b0), .val (.int ix), .val (.double (FP.ddiv (FP.i2d p2) (FP.i2d ((1 : Int32) <<< ((p3 &&& (7 : Int32)) &&& 31))))), .second, .unset, .unset, .unset, .unset, .unset] [(.int ix)])) _
    refine XS.iconst X22.here hx rfl (hb hby at_93) ?_
    exact k9
  refine go (T22.setTop (mkF m 102 #[.val (.int p1), .val (.int p2), .val (.int p3), .val (.ref b0), .val (.int ix), .val (.double (FP.ddiv (FP.i2d p2) (FP.i2d ((1 : Int32) <<< ((p3 &&& (7 : Int32)) &&& 31))))), .second, .unset, .unset, .unset, .unset, .unset] [(.int (if ix < (5 : Int32) then (0 : Int32) else (1 : Int32)))])) _ (fun t9 k9 => ?_) ?_
  · by_cases h94_1 : ix < (5 : Int32)
    · try (simp only [if_pos h94_1] at k9)
      show Steps p.tables e below (T22.setTop (mkF m 94 #[.val (.int p1), .val (.int p2), .val (.int p3), .val (.ref b0), .val (.int ix), .val (.double (FP.ddiv (FP.i2d p2) (FP.i2d ((1 : Int32) <<< ((p3 &&& (7 : Int32)) &&& 31))))), .second, .unset, .unset, .unset, .unset, .unset] [(.int (5 : Int32)), (.int ix)])) _
      refine XS.icmpYes X22.here hx rfl (pc0 := 94) (pc' := 101) rfl (hb hby at_94) rfl (tlt h94_1).1 (by decide) (by decide) ?_
      show Steps p.tables e below (T22.setTop (mkF m 101 #[.val (.int p1), .val (.int p2), .val (.int p3), .val (.ref b0), .val (.int ix), .val (.double (FP.ddiv (FP.i2d p2) (FP.i2d ((1 : Int32) <<< ((p3 &&& (7 : Int32)) &&& 31))))), .second, .unset, .unset, .unset, .unset, .unset] [])) _
      refine XS.iconst X22.here hx rfl (hb hby at_101) ?_
      exact k9
    · try (simp only [if_neg h94_1] at k9)
      show Steps p.tables e below (T22.setTop (mkF m 94 #[.val (.int p1), .val (.int p2), .val (.int p3), .val (.ref b0), .val (.int ix), .val (.double (FP.ddiv (FP.i2d p2) (FP.i2d ((1 : Int32) <<< ((p3 &&& (7 : Int32)) &&& 31))))), .second, .unset, .unset, .unset, .unset, .unset] [(.int (5 : Int32)), (.int ix)])) _
      refine XS.icmpNo X22.here hx rfl (hb hby at_94) rfl (flt h94_1).1 ?_
      show Steps p.tables e below (T22.setTop (mkF m 97 #[.val (.int p1), .val (.int p2), .val (.int p3), .val (.ref b0), .val (.int ix), .val (.double (FP.ddiv (FP.i2d p2) (FP.i2d ((1 : Int32) <<< ((p3 &&& (7 : Int32)) &&& 31))))), .second, .unset, .unset, .unset, .unset, .unset] [])) _
      refine XS.iconst X22.here hx rfl (hb hby at_97) ?_
      show Steps p.tables e below (T22.setTop (mkF m 98 #[.val (.int p1), .val (.int p2), .val (.int p3), .val (.ref b0), .val (.int ix), .val (.double (FP.ddiv (FP.i2d p2) (FP.i2d ((1 : Int32) <<< ((p3 &&& (7 : Int32)) &&& 31))))), .second, .unset, .unset, .unset, .unset, .unset] [(.int (1 : Int32))])) _
      refine XS.goto X22.here hx rfl (pc0 := 98) (pc' := 102) rfl (hb hby at_98) (by decide) (by decide) ?_
      exact k9
  refine go (T22.setTop (mkF m 106 #[.val (.int p1), .val (.int p2), .val (.int p3), .val (.ref b0), .val (.int ix), .val (.double (FP.ddiv (FP.i2d p2) (FP.i2d ((1 : Int32) <<< ((p3 &&& (7 : Int32)) &&& 31))))), .second, .val (.int (if ix < (5 : Int32) then (0 : Int32) else (1 : Int32))), .unset, .unset, .unset, .unset] [(.int (if ix < (5 : Int32) then (0 : Int32) else (1 : Int32)))])) _ (fun t9 k9 => ?_) ?_
  · show Steps p.tables e below (T22.setTop (mkF m 102 #[.val (.int p1), .val (.int p2), .val (.int p3), .val (.ref b0), .val (.int ix), .val (.double (FP.ddiv (FP.i2d p2) (FP.i2d ((1 : Int32) <<< ((p3 &&& (7 : Int32)) &&& 31))))), .second, .unset, .unset, .unset, .unset, .unset] [(.int (if ix < (5 : Int32) then (0 : Int32) else (1 : Int32)))])) _
    refine XS.istore X22.here hx rfl (hb hby at_102) rfl (l' := #[.val (.int p1), .val (.int p2), .val (.int p3), .val (.ref b0), .val (.int ix), .val (.double (FP.ddiv (FP.i2d p2) (FP.i2d ((1 : Int32) <<< ((p3 &&& (7 : Int32)) &&& 31))))), .second, .val (.int (if ix < (5 : Int32) then (0 : Int32) else (1 : Int32))), .unset, .unset, .unset, .unset]) rfl ?_
    show Steps p.tables e below (T22.setTop (mkF m 104 #[.val (.int p1), .val (.int p2), .val (.int p3), .val (.ref b0), .val (.int ix), .val (.double (FP.ddiv (FP.i2d p2) (FP.i2d ((1 : Int32) <<< ((p3 &&& (7 : Int32)) &&& 31))))), .second, .val (.int (if ix < (5 : Int32) then (0 : Int32) else (1 : Int32))), .unset, .unset, .unset, .unset] [])) _
    refine XS.iload X22.here hx rfl (hb hby at_104) rfl ?_
    exact k9
  refine go (T22.setTop (mkF m 120 #[.val (.int p1), .val (.int p2), .val (.int p3), .val (.ref b0), .val (.int ix), .val (.double (FP.ddiv (FP.i2d p2) (FP.i2d ((1 : Int32) <<< ((p3 &&& (7 : Int32)) &&& 31))))), .second, .val (.int (if ix < (5 : Int32) then (0 : Int32) else (1 : Int32))), .unset, .unset, .unset, .unset] [(.double (if (if ix < (5 : Int32) then (0 : Int32) else (1 : Int32)) = (0 : Int32) then (FP.ddiv (FP.i2d p2) (FP.i2d ((1 : Int32) <<< ((p3 &&& (7 : Int32)) &&& 31)))) else (FP.dmul (FP.ddiv (FP.i2d p2) (FP.i2d ((1 : Int32) <<< ((p3 &&& (7 : Int32)) &&& 31)))) (4599162408583596029 : UInt64))))])) _ (fun t9 k9 => ?_) ?_
  · by_cases h106_1 : (if ix < (5 : Int32) then (0 : Int32) else (1 : Int32)) = (0 : Int32)
    · try (simp only [if_pos h106_1] at k9)
      show Steps p.tables e below (T22.setTop (mkF m 106 #[.val (.int p1), .val (.int p2), .val (.int p3), .val (.ref b0), .val (.int ix), .val (.double (FP.ddiv (FP.i2d p2) (FP.i2d ((1 : Int32) <<< ((p3 &&& (7 : Int32)) &&& 31))))), .second, .val (.int (if ix < (5 : Int32) then (0 : Int32) else (1 : Int32))), .unset, .unset, .unset, .unset] [(.int (if ix < (5 : Int32) then (0 : Int32) else (1 : Int32)))])) _
      refine XS.ifYes X22.here hx rfl (pc0 := 106) (pc' := 118) rfl (hb hby at_106) rfl ((if0 _ _).trans (teq h106_1).1) (by decide) (by decide) ?_
      show Steps p.tables e below (T22.setTop (mkF m 118 #[.val (.int p1), .val (.int p2), .val (.int p3), .val (.ref b0), .val (.int ix), .val (.double (FP.ddiv (FP.i2d p2) (FP.i2d ((1 : Int32) <<< ((p3 &&& (7 : Int32)) &&& 31))))), .second, .val (.int (if ix < (5 : Int32) then (0 : Int32) else (1 : Int32))), .unset, .unset, .unset, .unset] [])) _
      refine XS.dload X22.here hx rfl (hb hby at_118) rfl ?_
      exact k9
    · try (simp only [if_neg h106_1] at k9)
      show Steps p.tables e below (T22.setTop (mkF m 106 #[.val (.int p1), .val (.int p2), .val (.int p3), .val (.ref b0), .val (.int ix), .val (.double (FP.ddiv (FP.i2d p2) (FP.i2d ((1 : Int32) <<< ((p3 &&& (7 : Int32)) &&& 31))))), .second, .val (.int (if ix < (5 : Int32) then (0 : Int32) else (1 : Int32))), .unset, .unset, .unset, .unset] [(.int (if ix < (5 : Int32) then (0 : Int32) else (1 : Int32)))])) _
      refine XS.ifNo X22.here hx rfl (hb hby at_106) rfl ((if0 _ _).trans (feq h106_1).1) ?_
      show Steps p.tables e below (T22.setTop (mkF m 109 #[.val (.int p1), .val (.int p2), .val (.int p3), .val (.ref b0), .val (.int ix), .val (.double (FP.ddiv (FP.i2d p2) (FP.i2d ((1 : Int32) <<< ((p3 &&& (7 : Int32)) &&& 31))))), .second, .val (.int (if ix < (5 : Int32) then (0 : Int32) else (1 : Int32))), .unset, .unset, .unset, .unset] [])) _
      refine XS.dload X22.here hx rfl (hb hby at_109) rfl ?_
      show Steps p.tables e below (T22.setTop (mkF m 111 #[.val (.int p1), .val (.int p2), .val (.int p3), .val (.ref b0), .val (.int ix), .val (.double (FP.ddiv (FP.i2d p2) (FP.i2d ((1 : Int32) <<< ((p3 &&& (7 : Int32)) &&& 31))))), .second, .val (.int (if ix < (5 : Int32) then (0 : Int32) else (1 : Int32))), .unset, .unset, .unset, .unset] [(.double (FP.ddiv (FP.i2d p2) (FP.i2d ((1 : Int32) <<< ((p3 &&& (7 : Int32)) &&& 31)))))])) _
      refine X22.ldc2DoubleC hx hown (mvT hZ (hw _ (List.mem_of_getElem? (i := 32) rfl))) (g := (mkF m 111 #[.val (.int p1), .val (.int p2), .val (.int p3), .val (.ref b0), .val (.int ix), .val (.double (FP.ddiv (FP.i2d p2) (FP.i2d ((1 : Int32) <<< ((p3 &&& (7 : Int32)) &&& 31))))), .second, .val (.int (if ix < (5 : Int32) then (0 : Int32) else (1 : Int32))), .unset, .unset, .unset, .unset] [(.double (FP.ddiv (FP.i2d p2) (FP.i2d ((1 : Int32) <<< ((p3 &&& (7 : Int32)) &&& 31)))))])) rfl (hb hby at_111) _ ?_
      show Steps p.tables e below (T22.setTop (mkF m 114 #[.val (.int p1), .val (.int p2), .val (.int p3), .val (.ref b0), .val (.int ix), .val (.double (FP.ddiv (FP.i2d p2) (FP.i2d ((1 : Int32) <<< ((p3 &&& (7 : Int32)) &&& 31))))), .second, .val (.int (if ix < (5 : Int32) then (0 : Int32) else (1 : Int32))), .unset, .unset, .unset, .unset] [(.double (4599162408583596029 : UInt64)), (.double (FP.ddiv (FP.i2d p2) (FP.i2d ((1 : Int32) <<< ((p3 &&& (7 : Int32)) &&& 31)))))])) _
      refine XS.dmulS X22.here hx rfl (hb hby at_114) rfl hnn rfl ?_
      show Steps p.tables e below (T22.setTop (mkF m 115 #[.val (.int p1), .val (.int p2), .val (.int p3), .val (.ref b0), .val (.int ix), .val (.double (FP.ddiv (FP.i2d p2) (FP.i2d ((1 : Int32) <<< ((p3 &&& (7 : Int32)) &&& 31))))), .second, .val (.int (if ix < (5 : Int32) then (0 : Int32) else (1 : Int32))), .unset, .unset, .unset, .unset] [(.double (FP.dmul (FP.ddiv (FP.i2d p2) (FP.i2d ((1 : Int32) <<< ((p3 &&& (7 : Int32)) &&& 31)))) (4599162408583596029 : UInt64)))])) _
      refine XS.goto X22.here hx rfl (pc0 := 115) (pc' := 120) rfl (hb hby at_115) (by decide) (by decide) ?_
      exact k9
  refine go (T22.setTop (mkF m 128 #[.val (.int p1), .val (.int p2), .val (.int p3), .val (.ref b0), .val (.int ix), .val (.double (FP.ddiv (FP.i2d p2) (FP.i2d ((1 : Int32) <<< ((p3 &&& (7 : Int32)) &&& 31))))), .second, .val (.int (if ix < (5 : Int32) then (0 : Int32) else (1 : Int32))), .val (.double (if (if ix < (5 : Int32) then (0 : Int32) else (1 : Int32)) = (0 : Int32) then (FP.ddiv (FP.i2d p2) (FP.i2d ((1 : Int32) <<< ((p3 &&& (7 : Int32)) &&& 31)))) else (FP.dmul (FP.ddiv (FP.i2d p2) (FP.i2d ((1 : Int32) <<< ((p3 &&& (7 : Int32)) &&& 31)))) (4599162408583596029 : UInt64)))), .second, .unset, .unset] [(.double (FP.ddiv (FP.i2d p2) (FP.i2d ((1 : Int32) <<< ((p3 &&& (7 : Int32)) &&& 31))))), (.ref u)])) _ (fun t9 k9 => ?_) ?_
  · show Steps p.tables e below (T22.setTop (mkF m 120 #[.val (.int p1), .val (.int p2), .val (.int p3), .val (.ref b0), .val (.int ix), .val (.double (FP.ddiv (FP.i2d p2) (FP.i2d ((1 : Int32) <<< ((p3 &&& (7 : Int32)) &&& 31))))), .second, .val (.int (if ix < (5 : Int32) then (0 : Int32) else (1 : Int32))), .unset, .unset, .unset, .unset] [(.double (if (if ix < (5 : Int32) then (0 : Int32) else (1 : Int32)) = (0 : Int32) then (FP.ddiv (FP.i2d p2) (FP.i2d ((1 : Int32) <<< ((p3 &&& (7 : Int32)) &&& 31)))) else (FP.dmul (FP.ddiv (FP.i2d p2) (FP.i2d ((1 : Int32) <<< ((p3 &&& (7 : Int32)) &&& 31)))) (4599162408583596029 : UInt64))))])) _
    refine XS.dstore X22.here hx rfl (hb hby at_120) rfl (l' := #[.val (.int p1), .val (.int p2), .val (.int p3), .val (.ref b0), .val (.int ix), .val (.double (FP.ddiv (FP.i2d p2) (FP.i2d ((1 : Int32) <<< ((p3 &&& (7 : Int32)) &&& 31))))), .second, .val (.int (if ix < (5 : Int32) then (0 : Int32) else (1 : Int32))), .val (.double (if (if ix < (5 : Int32) then (0 : Int32) else (1 : Int32)) = (0 : Int32) then (FP.ddiv (FP.i2d p2) (FP.i2d ((1 : Int32) <<< ((p3 &&& (7 : Int32)) &&& 31)))) else (FP.dmul (FP.ddiv (FP.i2d p2) (FP.i2d ((1 : Int32) <<< ((p3 &&& (7 : Int32)) &&& 31)))) (4599162408583596029 : UInt64)))), .second, .unset, .unset]) rfl ?_
    show Steps p.tables e below (T22.setTop (mkF m 122 #[.val (.int p1), .val (.int p2), .val (.int p3), .val (.ref b0), .val (.int ix), .val (.double (FP.ddiv (FP.i2d p2) (FP.i2d ((1 : Int32) <<< ((p3 &&& (7 : Int32)) &&& 31))))), .second, .val (.int (if ix < (5 : Int32) then (0 : Int32) else (1 : Int32))), .val (.double (if (if ix < (5 : Int32) then (0 : Int32) else (1 : Int32)) = (0 : Int32) then (FP.ddiv (FP.i2d p2) (FP.i2d ((1 : Int32) <<< ((p3 &&& (7 : Int32)) &&& 31)))) else (FP.dmul (FP.ddiv (FP.i2d p2) (FP.i2d ((1 : Int32) <<< ((p3 &&& (7 : Int32)) &&& 31)))) (4599162408583596029 : UInt64)))), .second, .unset, .unset] [])) _
    refine XS.aloadN X22.here hx rfl (hb hby at_122) rfl rfl ?_
    show Steps p.tables e below (T22.setTop (mkF m 123 #[.val (.int p1), .val (.int p2), .val (.int p3), .val (.ref b0), .val (.int ix), .val (.double (FP.ddiv (FP.i2d p2) (FP.i2d ((1 : Int32) <<< ((p3 &&& (7 : Int32)) &&& 31))))), .second, .val (.int (if ix < (5 : Int32) then (0 : Int32) else (1 : Int32))), .val (.double (if (if ix < (5 : Int32) then (0 : Int32) else (1 : Int32)) = (0 : Int32) then (FP.ddiv (FP.i2d p2) (FP.i2d ((1 : Int32) <<< ((p3 &&& (7 : Int32)) &&& 31)))) else (FP.dmul (FP.ddiv (FP.i2d p2) (FP.i2d ((1 : Int32) <<< ((p3 &&& (7 : Int32)) &&& 31)))) (4599162408583596029 : UInt64)))), .second, .unset, .unset] [(.ref b0)])) _
    refine XS.iload X22.here hx rfl (hb hby at_123) rfl ?_
    show Steps p.tables e below (T22.setTop (mkF m 125 #[.val (.int p1), .val (.int p2), .val (.int p3), .val (.ref b0), .val (.int ix), .val (.double (FP.ddiv (FP.i2d p2) (FP.i2d ((1 : Int32) <<< ((p3 &&& (7 : Int32)) &&& 31))))), .second, .val (.int (if ix < (5 : Int32) then (0 : Int32) else (1 : Int32))), .val (.double (if (if ix < (5 : Int32) then (0 : Int32) else (1 : Int32)) = (0 : Int32) then (FP.ddiv (FP.i2d p2) (FP.i2d ((1 : Int32) <<< ((p3 &&& (7 : Int32)) &&& 31)))) else (FP.dmul (FP.ddiv (FP.i2d p2) (FP.i2d ((1 : Int32) <<< ((p3 &&& (7 : Int32)) &&& 31)))) (4599162408583596029 : UInt64)))), .second, .unset, .unset] [(.int ix), (.ref b0)])) _
    refine X22.aaload hx (j := ix) (v := (.ref u)) (by rw [e22]; exact Ar.1) (State.isArrayOf_alike hZ.alike Ar.2.1) rfl Ar.2.2 hin hat (g := (mkF m 125 #[.val (.int p1), .val (.int p2), .val (.int p3), .val (.ref b0), .val (.int ix), .val (.double (FP.ddiv (FP.i2d p2) (FP.i2d ((1 : Int32) <<< ((p3 &&& (7 : Int32)) &&& 31))))), .second, .val (.int (if ix < (5 : Int32) then (0 : Int32) else (1 : Int32))), .val (.double (if (if ix < (5 : Int32) then (0 : Int32) else (1 : Int32)) = (0 : Int32) then (FP.ddiv (FP.i2d p2) (FP.i2d ((1 : Int32) <<< ((p3 &&& (7 : Int32)) &&& 31)))) else (FP.dmul (FP.ddiv (FP.i2d p2) (FP.i2d ((1 : Int32) <<< ((p3 &&& (7 : Int32)) &&& 31)))) (4599162408583596029 : UInt64)))), .second, .unset, .unset] [(.int ix), (.ref b0)])) rfl rfl (hb hby at_125) _ ?_
    show Steps p.tables e below (T22.setTop (mkF m 126 #[.val (.int p1), .val (.int p2), .val (.int p3), .val (.ref b0), .val (.int ix), .val (.double (FP.ddiv (FP.i2d p2) (FP.i2d ((1 : Int32) <<< ((p3 &&& (7 : Int32)) &&& 31))))), .second, .val (.int (if ix < (5 : Int32) then (0 : Int32) else (1 : Int32))), .val (.double (if (if ix < (5 : Int32) then (0 : Int32) else (1 : Int32)) = (0 : Int32) then (FP.ddiv (FP.i2d p2) (FP.i2d ((1 : Int32) <<< ((p3 &&& (7 : Int32)) &&& 31)))) else (FP.dmul (FP.ddiv (FP.i2d p2) (FP.i2d ((1 : Int32) <<< ((p3 &&& (7 : Int32)) &&& 31)))) (4599162408583596029 : UInt64)))), .second, .unset, .unset] [(.ref u)])) _
    refine XS.dload X22.here hx rfl (hb hby at_126) rfl ?_
    exact k9
  obtain ⟨cq23, kq23, q23a, q23b, q23c⟩ := isOf hZ e22 (Eu.keep K10)
  obtain ⟨_, _, ⟨T23, L23, k23, n23⟩, -, X23, ⟨Lc23, hQ23, l23, y23, z23⟩, st23⟩ := X22.virtualBack hx (y := (⟨"com/example/penstock/penstock/network/FlowUnit", "lengthFromFeet", "(D)D"⟩ : MethodName)) (z := (⟨"com/example/penstock/penstock/network/FlowUnit", "lengthFromFeet", "(D)D"⟩ : MethodName)) hown (mvT hZ (hw _ (List.mem_of_getElem? (i := 25) rfl))) (mvT hZ (hw _ (List.mem_of_getElem? (i := 26) rfl))) (notFace_of_selects (args := #[]) (mvT hZ (hw _ (List.mem_of_getElem? (i := 28) rfl)))) (mvT hZ (hw _ (List.mem_of_getElem? (i := 28) rfl))) (mvT hZ (hw _ (List.mem_of_getElem? (i := 27) rfl))) (by decide) (backOf (W := 0) (rm1 l Z a0 hw [] u (FP.ddiv (FP.i2d p2) (FP.i2d ((1 : Int32) <<< ((p3 &&& (7 : Int32)) &&& 31)))) b h22 n0 (Nat.le_trans Z0 K10.1) (Fu.keep K10 nin0) hnn) hZ (hw _ (List.mem_of_getElem? (i := 29) rfl)) (hw _ (List.mem_of_getElem? (i := 3) rfl)) (by decide) (by decide)) q23a q23c (g := (mkF m 128 #[.val (.int p1), .val (.int p2), .val (.int p3), .val (.ref b0), .val (.int ix), .val (.double (FP.ddiv (FP.i2d p2) (FP.i2d ((1 : Int32) <<< ((p3 &&& (7 : Int32)) &&& 31))))), .second, .val (.int (if ix < (5 : Int32) then (0 : Int32) else (1 : Int32))), .val (.double (if (if ix < (5 : Int32) then (0 : Int32) else (1 : Int32)) = (0 : Int32) then (FP.ddiv (FP.i2d p2) (FP.i2d ((1 : Int32) <<< ((p3 &&& (7 : Int32)) &&& 31)))) else (FP.dmul (FP.ddiv (FP.i2d p2) (FP.i2d ((1 : Int32) <<< ((p3 &&& (7 : Int32)) &&& 31)))) (4599162408583596029 : UInt64)))), .second, .unset, .unset] [(.double (FP.ddiv (FP.i2d p2) (FP.i2d ((1 : Int32) <<< ((p3 &&& (7 : Int32)) &&& 31))))), (.ref u)])) rfl (by rw [hml]; rfl) (Steps.refl _) (argsL := [(.double (FP.ddiv (FP.i2d p2) (FP.i2d ((1 : Int32) <<< ((p3 &&& (7 : Int32)) &&& 31)))))]) (rest := []) (lenOf pd__28D_29D rfl) rfl (by show 2 * 0 + _ ≤ _; exact Nat.le_of_eq rfl) (hb hby at_128) (fun _ _ => ⟨rfl, e22, (by decide : 1 + 0 ≤ _), (by decide : 10 + 0 ≤ _)⟩)
  dsimp only [Pt.U, Pt.locs, Pt.cells, Pt.slots] at X23 l23 y23 z23 st23 hQ23
  subst l23 y23 z23
  obtain ⟨rfl, N23q, e23q⟩ := hQ23
  have N23 := Fr.app N22 N23q
  refine go (T23.setTop (mkF m 131 #[.val (.int p1), .val (.int p2), .val (.int p3), .val (.ref b0), .val (.int ix), .val (.double (FP.ddiv (FP.i2d p2) (FP.i2d ((1 : Int32) <<< ((p3 &&& (7 : Int32)) &&& 31))))), .second, .val (.int (if ix < (5 : Int32) then (0 : Int32) else (1 : Int32))), .val (.double (if (if ix < (5 : Int32) then (0 : Int32) else (1 : Int32)) = (0 : Int32) then (FP.ddiv (FP.i2d p2) (FP.i2d ((1 : Int32) <<< ((p3 &&& (7 : Int32)) &&& 31)))) else (FP.dmul (FP.ddiv (FP.i2d p2) (FP.i2d ((1 : Int32) <<< ((p3 &&& (7 : Int32)) &&& 31)))) (4599162408583596029 : UInt64)))), .second, .unset, .unset] [(.double (if b = (0 : Int32) then (FP.ddiv (FP.i2d p2) (FP.i2d ((1 : Int32) <<< ((p3 &&& (7 : Int32)) &&& 31)))) else (FP.dmul (FP.ddiv (FP.i2d p2) (FP.i2d ((1 : Int32) <<< ((p3 &&& (7 : Int32)) &&& 31)))) (4599162408583596029 : UInt64))))])) _ (fun t9 k9 => st23.trans k9) ?_
  refine go (T23.setTop (mkF m 137 #[.val (.int p1), .val (.int p2), .val (.int p3), .val (.ref b0), .val (.int ix), .val (.double (FP.ddiv (FP.i2d p2) (FP.i2d ((1 : Int32) <<< ((p3 &&& (7 : Int32)) &&& 31))))), .second, .val (.int (if ix < (5 : Int32) then (0 : Int32) else (1 : Int32))), .val (.double (if (if ix < (5 : Int32) then (0 : Int32) else (1 : Int32)) = (0 : Int32) then (FP.ddiv (FP.i2d p2) (FP.i2d ((1 : Int32) <<< ((p3 &&& (7 : Int32)) &&& 31)))) else (FP.dmul (FP.ddiv (FP.i2d p2) (FP.i2d ((1 : Int32) <<< ((p3 &&& (7 : Int32)) &&& 31)))) (4599162408583596029 : UInt64)))), .second, .val (.double (if b = (0 : Int32) then (FP.ddiv (FP.i2d p2) (FP.i2d ((1 : Int32) <<< ((p3 &&& (7 : Int32)) &&& 31)))) else (FP.dmul (FP.ddiv (FP.i2d p2) (FP.i2d ((1 : Int32) <<< ((p3 &&& (7 : Int32)) &&& 31)))) (4599162408583596029 : UInt64)))), .second] [(.double (if (if ix < (5 : Int32) then (0 : Int32) else (1 : Int32)) = (0 : Int32) then (FP.ddiv (FP.i2d p2) (FP.i2d ((1 : Int32) <<< ((p3 &&& (7 : Int32)) &&& 31)))) else (FP.dmul (FP.ddiv (FP.i2d p2) (FP.i2d ((1 : Int32) <<< ((p3 &&& (7 : Int32)) &&& 31)))) (4599162408583596029 : UInt64)))), (.double (if b = (0 : Int32) then (FP.ddiv (FP.i2d p2) (FP.i2d ((1 : Int32) <<< ((p3 &&& (7 : Int32)) &&& 31)))) else (FP.dmul (FP.ddiv (FP.i2d p2) (FP.i2d ((1 : Int32) <<< ((p3 &&& (7 : Int32)) &&& 31)))) (4599162408583596029 : UInt64))))])) _ (fun t9 k9 => ?_) ?_
  · show Steps p.tables e below (T23.setTop (mkF m 131 #[.val (.int p1), .val (.int p2), .val (.int p3), .val (.ref b0), .val (.int ix), .val (.double (FP.ddiv (FP.i2d p2) (FP.i2d ((1 : Int32) <<< ((p3 &&& (7 : Int32)) &&& 31))))), .second, .val (.int (if ix < (5 : Int32) then (0 : Int32) else (1 : Int32))), .val (.double (if (if ix < (5 : Int32) then (0 : Int32) else (1 : Int32)) = (0 : Int32) then (FP.ddiv (FP.i2d p2) (FP.i2d ((1 : Int32) <<< ((p3 &&& (7 : Int32)) &&& 31)))) else (FP.dmul (FP.ddiv (FP.i2d p2) (FP.i2d ((1 : Int32) <<< ((p3 &&& (7 : Int32)) &&& 31)))) (4599162408583596029 : UInt64)))), .second, .unset, .unset] [(.double (if b = (0 : Int32) then (FP.ddiv (FP.i2d p2) (FP.i2d ((1 : Int32) <<< ((p3 &&& (7 : Int32)) &&& 31)))) else (FP.dmul (FP.ddiv (FP.i2d p2) (FP.i2d ((1 : Int32) <<< ((p3 &&& (7 : Int32)) &&& 31)))) (4599162408583596029 : UInt64))))])) _
    refine XS.dstore X23.here hx rfl (hb hby at_131) rfl (l' := #[.val (.int p1), .val (.int p2), .val (.int p3), .val (.ref b0), .val (.int ix), .val (.double (FP.ddiv (FP.i2d p2) (FP.i2d ((1 : Int32) <<< ((p3 &&& (7 : Int32)) &&& 31))))), .second, .val (.int (if ix < (5 : Int32) then (0 : Int32) else (1 : Int32))), .val (.double (if (if ix < (5 : Int32) then (0 : Int32) else (1 : Int32)) = (0 : Int32) then (FP.ddiv (FP.i2d p2) (FP.i2d ((1 : Int32) <<< ((p3 &&& (7 : Int32)) &&& 31)))) else (FP.dmul (FP.ddiv (FP.i2d p2) (FP.i2d ((1 : Int32) <<< ((p3 &&& (7 : Int32)) &&& 31)))) (4599162408583596029 : UInt64)))), .second, .val (.double (if b = (0 : Int32) then (FP.ddiv (FP.i2d p2) (FP.i2d ((1 : Int32) <<< ((p3 &&& (7 : Int32)) &&& 31)))) else (FP.dmul (FP.ddiv (FP.i2d p2) (FP.i2d ((1 : Int32) <<< ((p3 &&& (7 : Int32)) &&& 31)))) (4599162408583596029 : UInt64)))), .second]) rfl ?_
    show Steps p.tables e below (T23.setTop (mkF m 133 #[.val (.int p1), .val (.int p2), .val (.int p3), .val (.ref b0), .val (.int ix), .val (.double (FP.ddiv (FP.i2d p2) (FP.i2d ((1 : Int32) <<< ((p3 &&& (7 : Int32)) &&& 31))))), .second, .val (.int (if ix < (5 : Int32) then (0 : Int32) else (1 : Int32))), .val (.double (if (if ix < (5 : Int32) then (0 : Int32) else (1 : Int32)) = (0 : Int32) then (FP.ddiv (FP.i2d p2) (FP.i2d ((1 : Int32) <<< ((p3 &&& (7 : Int32)) &&& 31)))) else (FP.dmul (FP.ddiv (FP.i2d p2) (FP.i2d ((1 : Int32) <<< ((p3 &&& (7 : Int32)) &&& 31)))) (4599162408583596029 : UInt64)))), .second, .val (.double (if b = (0 : Int32) then (FP.ddiv (FP.i2d p2) (FP.i2d ((1 : Int32) <<< ((p3 &&& (7 : Int32)) &&& 31)))) else (FP.dmul (FP.ddiv (FP.i2d p2) (FP.i2d ((1 : Int32) <<< ((p3 &&& (7 : Int32)) &&& 31)))) (4599162408583596029 : UInt64)))), .second] [])) _
    refine XS.dload X23.here hx rfl (hb hby at_133) rfl ?_
    show Steps p.tables e below (T23.setTop (mkF m 135 #[.val (.int p1), .val (.int p2), .val (.int p3), .val (.ref b0), .val (.int ix), .val (.double (FP.ddiv (FP.i2d p2) (FP.i2d ((1 : Int32) <<< ((p3 &&& (7 : Int32)) &&& 31))))), .second, .val (.int (if ix < (5 : Int32) then (0 : Int32) else (1 : Int32))), .val (.double (if (if ix < (5 : Int32) then (0 : Int32) else (1 : Int32)) = (0 : Int32) then (FP.ddiv (FP.i2d p2) (FP.i2d ((1 : Int32) <<< ((p3 &&& (7 : Int32)) &&& 31)))) else (FP.dmul (FP.ddiv (FP.i2d p2) (FP.i2d ((1 : Int32) <<< ((p3 &&& (7 : Int32)) &&& 31)))) (4599162408583596029 : UInt64)))), .second, .val (.double (if b = (0 : Int32) then (FP.ddiv (FP.i2d p2) (FP.i2d ((1 : Int32) <<< ((p3 &&& (7 : Int32)) &&& 31)))) else (FP.dmul (FP.ddiv (FP.i2d p2) (FP.i2d ((1 : Int32) <<< ((p3 &&& (7 : Int32)) &&& 31)))) (4599162408583596029 : UInt64)))), .second] [(.double (if b = (0 : Int32) then (FP.ddiv (FP.i2d p2) (FP.i2d ((1 : Int32) <<< ((p3 &&& (7 : Int32)) &&& 31)))) else (FP.dmul (FP.ddiv (FP.i2d p2) (FP.i2d ((1 : Int32) <<< ((p3 &&& (7 : Int32)) &&& 31)))) (4599162408583596029 : UInt64))))])) _
    refine XS.dload X23.here hx rfl (hb hby at_135) rfl ?_
    exact k9
  have hge : (if b = (0 : Int32) then (FP.ddiv (FP.i2d p2) (FP.i2d ((1 : Int32) <<< ((p3 &&& (7 : Int32)) &&& 31)))) else (FP.dmul (FP.ddiv (FP.i2d p2) (FP.i2d ((1 : Int32) <<< ((p3 &&& (7 : Int32)) &&& 31)))) (4599162408583596029 : UInt64))) = (if (if ix < (5 : Int32) then (0 : Int32) else (1 : Int32)) = (0 : Int32) then (FP.ddiv (FP.i2d p2) (FP.i2d ((1 : Int32) <<< ((p3 &&& (7 : Int32)) &&& 31)))) else (FP.dmul (FP.ddiv (FP.i2d p2) (FP.i2d ((1 : Int32) <<< ((p3 &&& (7 : Int32)) &&& 31)))) (4599162408583596029 : UInt64))) := by
    rw [hbv]
  have hgn : NoNaN64 (if b = (0 : Int32) then (FP.ddiv (FP.i2d p2) (FP.i2d ((1 : Int32) <<< ((p3 &&& (7 : Int32)) &&& 31)))) else (FP.dmul (FP.ddiv (FP.i2d p2) (FP.i2d ((1 : Int32) <<< ((p3 &&& (7 : Int32)) &&& 31)))) (4599162408583596029 : UInt64))) := by split <;> assumption
  refine go (T23.setTop (mkF m 146 #[.val (.int p1), .val (.int p2), .val (.int p3), .val (.ref b0), .val (.int ix), .val (.double (FP.ddiv (FP.i2d p2) (FP.i2d ((1 : Int32) <<< ((p3 &&& (7 : Int32)) &&& 31))))), .second, .val (.int (if ix < (5 : Int32) then (0 : Int32) else (1 : Int32))), .val (.double (if (if ix < (5 : Int32) then (0 : Int32) else (1 : Int32)) = (0 : Int32) then (FP.ddiv (FP.i2d p2) (FP.i2d ((1 : Int32) <<< ((p3 &&& (7 : Int32)) &&& 31)))) else (FP.dmul (FP.ddiv (FP.i2d p2) (FP.i2d ((1 : Int32) <<< ((p3 &&& (7 : Int32)) &&& 31)))) (4599162408583596029 : UInt64)))), .second, .val (.double (if b = (0 : Int32) then (FP.ddiv (FP.i2d p2) (FP.i2d ((1 : Int32) <<< ((p3 &&& (7 : Int32)) &&& 31)))) else (FP.dmul (FP.ddiv (FP.i2d p2) (FP.i2d ((1 : Int32) <<< ((p3 &&& (7 : Int32)) &&& 31)))) (4599162408583596029 : UInt64)))), .second] [(.int (1 : Int32))])) _ (fun t9 k9 => ?_) ?_
  · show Steps p.tables e below (T23.setTop (mkF m 137 #[.val (.int p1), .val (.int p2), .val (.int p3), .val (.ref b0), .val (.int ix), .val (.double (FP.ddiv (FP.i2d p2) (FP.i2d ((1 : Int32) <<< ((p3 &&& (7 : Int32)) &&& 31))))), .second, .val (.int (if ix < (5 : Int32) then (0 : Int32) else (1 : Int32))), .val (.double (if (if ix < (5 : Int32) then (0 : Int32) else (1 : Int32)) = (0 : Int32) then (FP.ddiv (FP.i2d p2) (FP.i2d ((1 : Int32) <<< ((p3 &&& (7 : Int32)) &&& 31)))) else (FP.dmul (FP.ddiv (FP.i2d p2) (FP.i2d ((1 : Int32) <<< ((p3 &&& (7 : Int32)) &&& 31)))) (4599162408583596029 : UInt64)))), .second, .val (.double (if b = (0 : Int32) then (FP.ddiv (FP.i2d p2) (FP.i2d ((1 : Int32) <<< ((p3 &&& (7 : Int32)) &&& 31)))) else (FP.dmul (FP.ddiv (FP.i2d p2) (FP.i2d ((1 : Int32) <<< ((p3 &&& (7 : Int32)) &&& 31)))) (4599162408583596029 : UInt64)))), .second] [(.double (if (if ix < (5 : Int32) then (0 : Int32) else (1 : Int32)) = (0 : Int32) then (FP.ddiv (FP.i2d p2) (FP.i2d ((1 : Int32) <<< ((p3 &&& (7 : Int32)) &&& 31)))) else (FP.dmul (FP.ddiv (FP.i2d p2) (FP.i2d ((1 : Int32) <<< ((p3 &&& (7 : Int32)) &&& 31)))) (4599162408583596029 : UInt64)))), (.double (if b = (0 : Int32) then (FP.ddiv (FP.i2d p2) (FP.i2d ((1 : Int32) <<< ((p3 &&& (7 : Int32)) &&& 31)))) else (FP.dmul (FP.ddiv (FP.i2d p2) (FP.i2d ((1 : Int32) <<< ((p3 &&& (7 : Int32)) &&& 31)))) (4599162408583596029 : UInt64))))])) _
    refine XS.dcmpS X23.here hx rfl (hb hby at_137) rfl (dcmpV_eq hge hgn .l) ?_
    show Steps p.tables e below (T23.setTop (mkF m 138 #[.val (.int p1), .val (.int p2), .val (.int p3), .val (.ref b0), .val (.int ix), .val (.double (FP.ddiv (FP.i2d p2) (FP.i2d ((1 : Int32) <<< ((p3 &&& (7 : Int32)) &&& 31))))), .second, .val (.int (if ix < (5 : Int32) then (0 : Int32) else (1 : Int32))), .val (.double (if (if ix < (5 : Int32) then (0 : Int32) else (1 : Int32)) = (0 : Int32) then (FP.ddiv (FP.i2d p2) (FP.i2d ((1 : Int32) <<< ((p3 &&& (7 : Int32)) &&& 31)))) else (FP.dmul (FP.ddiv (FP.i2d p2) (FP.i2d ((1 : Int32) <<< ((p3 &&& (7 : Int32)) &&& 31)))) (4599162408583596029 : UInt64)))), .second, .val (.double (if b = (0 : Int32) then (FP.ddiv (FP.i2d p2) (FP.i2d ((1 : Int32) <<< ((p3 &&& (7 : Int32)) &&& 31)))) else (FP.dmul (FP.ddiv (FP.i2d p2) (FP.i2d ((1 : Int32) <<< ((p3 &&& (7 : Int32)) &&& 31)))) (4599162408583596029 : UInt64)))), .second] [(.int (0 : Int32))])) _
    refine XS.ifNo X23.here hx rfl (hb hby at_138) rfl ((if0 _ _).trans (teq (rfl : (0 : Int32) = (0 : Int32))).2) ?_
    show Steps p.tables e below (T23.setTop (mkF m 141 #[.val (.int p1), .val (.int p2), .val (.int p3), .val (.ref b0), .val (.int ix), .val (.double (FP.ddiv (FP.i2d p2) (FP.i2d ((1 : Int32) <<< ((p3 &&& (7 : Int32)) &&& 31))))), .second, .val (.int (if ix < (5 : Int32) then (0 : Int32) else (1 : Int32))), .val (.double (if (if ix < (5 : Int32) then (0 : Int32) else (1 : Int32)) = (0 : Int32) then (FP.ddiv (FP.i2d p2) (FP.i2d ((1 : Int32) <<< ((p3 &&& (7 : Int32)) &&& 31)))) else (FP.dmul (FP.ddiv (FP.i2d p2) (FP.i2d ((1 : Int32) <<< ((p3 &&& (7 : Int32)) &&& 31)))) (4599162408583596029 : UInt64)))), .second, .val (.double (if b = (0 : Int32) then (FP.ddiv (FP.i2d p2) (FP.i2d ((1 : Int32) <<< ((p3 &&& (7 : Int32)) &&& 31)))) else (FP.dmul (FP.ddiv (FP.i2d p2) (FP.i2d ((1 : Int32) <<< ((p3 &&& (7 : Int32)) &&& 31)))) (4599162408583596029 : UInt64)))), .second] [])) _
    refine XS.iconst X23.here hx rfl (hb hby at_141) ?_
    show Steps p.tables e below (T23.setTop (mkF m 142 #[.val (.int p1), .val (.int p2), .val (.int p3), .val (.ref b0), .val (.int ix), .val (.double (FP.ddiv (FP.i2d p2) (FP.i2d ((1 : Int32) <<< ((p3 &&& (7 : Int32)) &&& 31))))), .second, .val (.int (if ix < (5 : Int32) then (0 : Int32) else (1 : Int32))), .val (.double (if (if ix < (5 : Int32) then (0 : Int32) else (1 : Int32)) = (0 : Int32) then (FP.ddiv (FP.i2d p2) (FP.i2d ((1 : Int32) <<< ((p3 &&& (7 : Int32)) &&& 31)))) else (FP.dmul (FP.ddiv (FP.i2d p2) (FP.i2d ((1 : Int32) <<< ((p3 &&& (7 : Int32)) &&& 31)))) (4599162408583596029 : UInt64)))), .second, .val (.double (if b = (0 : Int32) then (FP.ddiv (FP.i2d p2) (FP.i2d ((1 : Int32) <<< ((p3 &&& (7 : Int32)) &&& 31)))) else (FP.dmul (FP.ddiv (FP.i2d p2) (FP.i2d ((1 : Int32) <<< ((p3 &&& (7 : Int32)) &&& 31)))) (4599162408583596029 : UInt64)))), .second] [(.int (1 : Int32))])) _
    refine XS.goto X23.here hx rfl (pc0 := 142) (pc' := 146) rfl (hb hby at_142) (by decide) (by decide) ?_
    exact k9
  obtain ⟨fs, hr, hrun, hended, hW, hsame⟩ := X23.leave (v := some (.int (1 : Int32))) (fun h => by rw [Bd.returns] at h; cases h)
  refine fin _ ⟨_, _, retN X23 hx (t := .boolean) Bd.returns (by simp) (hb hby at_146) hr, hrun, hended, _, _, rfl, ?_, ⟨_, rfl⟩, hW, hsame.mono (by decide) (by decide)⟩
  show Q0 Z p1 p2 p3 h0 n0 _ T23.heap _
  exact ⟨rfl, N23⟩
set_option maxRecDepth 65536 in
set_option maxHeartbeats 40000000 in
theorem comes_1 {Post : Tables → Env → Array Value → State → Outcome → State → Prop} (hpost : ∀ tb e args s v u, (limb_1_1.after args s (.returned v) u = true ∧ limb_1_2.after args s (.returned v) u = true ∧ True) → FrameEnd s (.returned v) u (Jvm.fieldLocs frame_1_writes args s ++ Jvm.arrayLocs frame_1_arrays args s ++ Jvm.staticLocs frame_1_statics s) 16 128 → Post tb e args s (.returned v) u) :
    ArmFor flags0 classFile x code maxLocals ret World_1 tables_1 room_1 Calls_1 rest_1 Pre_1 Post := by
  intro l hfl _ _ p e ha hc hk s m args below hf hA hF happ hP
  obtain ⟨hcalls, hrest, hpre⟩ := hP
  obtain ⟨-, -, -, hnamed, -, -, -, hat⟩ := (Spec.applies_iff hf).mp happ
  obtain ⟨hg, hn⟩ := and_e (Cond.before_iff.mp (show (Jvm.Cond.and given_1 narrow_1).before args s = true from hpre))
  obtain ⟨hcnt, hq0⟩ := and_e hg
  obtain ⟨ha0, hq1⟩ := and_e hq0
  obtain ⟨ha1, hq2⟩ := and_e hq1
  obtain ⟨w0, w1, w2, rfl⟩ : ∃ w0 w1 w2 : Value, args = #[w0, w1, w2] := by
    have hs : args.size = 3 := by simpa [Cond.value, given_1] using hcnt
    obtain ⟨L⟩ := args
    match L, hs with
    | [w0, w1, w2], _ => exact ⟨w0, w1, w2, rfl⟩
  have hw := fun d (hd : d ∈ tables_1) => atoms_spec (ws := Jvm.Cond.code x code maxLocals ret :: tables_1) hat d (List.mem_cons_of_mem _ hd)
  obtain ⟨i0, ei0⟩ := is_v ha0
  obtain rfl : w0 = (.int i0) := Option.some.inj ei0
  obtain ⟨i1, ei1⟩ := is_v ha1
  obtain rfl : w1 = (.int i1) := Option.some.inj ei1
  obtain ⟨i2, ei2⟩ := is_v hq2
  obtain rfl : w2 = (.int i2) := Option.some.inj ei2
  obtain ⟨mE_CFS, hn0⟩ := and_e hn
  obtain ⟨mE_GPM, hn1⟩ := and_e hn0
  obtain ⟨mE_MGD, hn2⟩ := and_e hn1
  obtain ⟨mE_IMGD, hn3⟩ := and_e hn2
  obtain ⟨mE_AFD, hn4⟩ := and_e hn3
  obtain ⟨mE_LPS, hn5⟩ := and_e hn4
  obtain ⟨mE_LPM, hn6⟩ := and_e hn5
  obtain ⟨mE_MLD, hn7⟩ := and_e hn6
  obtain ⟨mE_CMH, hn8⟩ := and_e hn7
  obtain ⟨mE_CMD, hn9⟩ := and_e hn8
  obtain ⟨mF_CFS, hn10⟩ := and_e hn9
  obtain ⟨mF_GPM, hn11⟩ := and_e hn10
  obtain ⟨mF_AFD, hn12⟩ := and_e hn11
  obtain ⟨mF_LPS, hn13⟩ := and_e hn12
  obtain ⟨mF_CMH, hn14⟩ := and_e hn13
  obtain ⟨mF_IMGD, hn15⟩ := and_e hn14
  obtain ⟨mF_LPM, hn16⟩ := and_e hn15
  obtain ⟨mF_MLD, hn17⟩ := and_e hn16
  obtain ⟨mF_CMD, hn18⟩ := and_e hn17
  obtain ⟨u0, eu0⟩ := exa_v mE_CFS
  have Exa0 : Exa s s.heap u0 "com/example/penstock/penstock/network/FlowUnit" := exa_at eu0 mE_CFS
  have Sta0 : Sta s s.heap "com/example/penstock/penstock/network/FlowUnit" "CFS" "Lcom/example/penstock/penstock/network/FlowUnit;" (.ref u0) := Sta.start eu0 (Or.inr ⟨(hw _ (List.mem_of_getElem? (i := 3) rfl)), (hw _ (List.mem_of_getElem? (i := 4) rfl))⟩)
  have Fld0 : Fld s s.heap u0 "com/example/penstock/penstock/network/FlowUnit" "metric" "Z" (.int 0) := own_fldeq eu0 mF_CFS
  obtain ⟨u1, eu1⟩ := exa_v mE_GPM
  have Exa1 : Exa s s.heap u1 "com/example/penstock/penstock/network/FlowUnit" := exa_at eu1 mE_GPM
  have Sta1 : Sta s s.heap "com/example/penstock/penstock/network/FlowUnit" "GPM" "Lcom/example/penstock/penstock/network/FlowUnit;" (.ref u1) := Sta.start eu1 (Or.inr ⟨(hw _ (List.mem_of_getElem? (i := 3) rfl)), (hw _ (List.mem_of_getElem? (i := 7) rfl))⟩)
  have Fld1 : Fld s s.heap u1 "com/example/penstock/penstock/network/FlowUnit" "metric" "Z" (.int 0) := own_fldeq eu1 mF_GPM
  obtain ⟨u2, eu2⟩ := exa_v mE_MGD
  have Exa2 : Exa s s.heap u2 "com/example/penstock/penstock/network/FlowUnit" := exa_at eu2 mE_MGD
  have Sta2 : Sta s s.heap "com/example/penstock/penstock/network/FlowUnit" "MGD" "Lcom/example/penstock/penstock/network/FlowUnit;" (.ref u2) := Sta.start eu2 (Or.inr ⟨(hw _ (List.mem_of_getElem? (i := 3) rfl)), (hw _ (List.mem_of_getElem? (i := 9) rfl))⟩)
  have Fld2 : Fld s s.heap u2 "com/example/penstock/penstock/network/FlowUnit" "metric" "Z" (.int 0) := own_fldeq eu2 hn18
  obtain ⟨u3, eu3⟩ := exa_v mE_IMGD
  have Exa3 : Exa s s.heap u3 "com/example/penstock/penstock/network/FlowUnit" := exa_at eu3 mE_IMGD
  have Sta3 : Sta s s.heap "com/example/penstock/penstock/network/FlowUnit" "IMGD" "Lcom/example/penstock/penstock/network/FlowUnit;" (.ref u3) := Sta.start eu3 (Or.inr ⟨(hw _ (List.mem_of_getElem? (i := 3) rfl)), (hw _ (List.mem_of_getElem? (i := 11) rfl))⟩)
  have Fld3 : Fld s s.heap u3 "com/example/penstock/penstock/network/FlowUnit" "metric" "Z" (.int 0) := own_fldeq eu3 mF_IMGD
  obtain ⟨u4, eu4⟩ := exa_v mE_AFD
  have Exa4 : Exa s s.heap u4 "com/example/penstock/penstock/network/FlowUnit" := exa_at eu4 mE_AFD
  have Sta4 : Sta s s.heap "com/example/penstock/penstock/network/FlowUnit" "AFD" "Lcom/example/penstock/penstock/network/FlowUnit;" (.ref u4) := Sta.start eu4 (Or.inr ⟨(hw _ (List.mem_of_getElem? (i := 3) rfl)), (hw _ (List.mem_of_getElem? (i := 13) rfl))⟩)
  have Fld4 : Fld s s.heap u4 "com/example/penstock/penstock/network/FlowUnit" "metric" "Z" (.int 0) := own_fldeq eu4 mF_AFD
  obtain ⟨u5, eu5⟩ := exa_v mE_LPS
  have Exa5 : Exa s s.heap u5 "com/example/penstock/penstock/network/FlowUnit" := exa_at eu5 mE_LPS
  have Sta5 : Sta s s.heap "com/example/penstock/penstock/network/FlowUnit" "LPS" "Lcom/example/penstock/penstock/network/FlowUnit;" (.ref u5) := Sta.start eu5 (Or.inr ⟨(hw _ (List.mem_of_getElem? (i := 3) rfl)), (hw _ (List.mem_of_getElem? (i := 15) rfl))⟩)
  have Fld5 : Fld s s.heap u5 "com/example/penstock/penstock/network/FlowUnit" "metric" "Z" (.int 1) := own_fldeq eu5 mF_LPS
  obtain ⟨u6, eu6⟩ := exa_v mE_LPM
  have Exa6 : Exa s s.heap u6 "com/example/penstock/penstock/network/FlowUnit" := exa_at eu6 mE_LPM
  have Sta6 : Sta s s.heap "com/example/penstock/penstock/network/FlowUnit" "LPM" "Lcom/example/penstock/penstock/network/FlowUnit;" (.ref u6) := Sta.start eu6 (Or.inr ⟨(hw _ (List.mem_of_getElem? (i := 3) rfl)), (hw _ (List.mem_of_getElem? (i := 17) rfl))⟩)
  have Fld6 : Fld s s.heap u6 "com/example/penstock/penstock/network/FlowUnit" "metric" "Z" (.int 1) := own_fldeq eu6 mF_LPM
  obtain ⟨u7, eu7⟩ := exa_v mE_MLD
  have Exa7 : Exa s s.heap u7 "com/example/penstock/penstock/network/FlowUnit" := exa_at eu7 mE_MLD
  have Sta7 : Sta s s.heap "com/example/penstock/penstock/network/FlowUnit" "MLD" "Lcom/example/penstock/penstock/network/FlowUnit;" (.ref u7) := Sta.start eu7 (Or.inr ⟨(hw _ (List.mem_of_getElem? (i := 3) rfl)), (hw _ (List.mem_of_getElem? (i := 19) rfl))⟩)
  have Fld7 : Fld s s.heap u7 "com/example/penstock/penstock/network/FlowUnit" "metric" "Z" (.int 1) := own_fldeq eu7 mF_MLD
  obtain ⟨u8, eu8⟩ := exa_v mE_CMH
  have Exa8 : Exa s s.heap u8 "com/example/penstock/penstock/network/FlowUnit" := exa_at eu8 mE_CMH
  have Sta8 : Sta s s.heap "com/example/penstock/penstock/network/FlowUnit" "CMH" "Lcom/example/penstock/penstock/network/FlowUnit;" (.ref u8) := Sta.start eu8 (Or.inr ⟨(hw _ (List.mem_of_getElem? (i := 3) rfl)), (hw _ (List.mem_of_getElem? (i := 21) rfl))⟩)
  have Fld8 : Fld s s.heap u8 "com/example/penstock/penstock/network/FlowUnit" "metric" "Z" (.int 1) := own_fldeq eu8 mF_CMH
  obtain ⟨u9, eu9⟩ := exa_v mE_CMD
  have Exa9 : Exa s s.heap u9 "com/example/penstock/penstock/network/FlowUnit" := exa_at eu9 mE_CMD
  have Sta9 : Sta s s.heap "com/example/penstock/penstock/network/FlowUnit" "CMD" "Lcom/example/penstock/penstock/network/FlowUnit;" (.ref u9) := Sta.start eu9 (Or.inr ⟨(hw _ (List.mem_of_getElem? (i := 3) rfl)), (hw _ (List.mem_of_getElem? (i := 23) rfl))⟩)
  have Fld9 : Fld s s.heap u9 "com/example/penstock/penstock/network/FlowUnit" "metric" "Z" (.int 1) := own_fldeq eu9 mF_CMD
  obtain ⟨n, o, h1, h2, h3, _, L, rfl, ⟨rfl, N⟩, hq⟩ := rm0 l s _ hw tables_1 i0 i1 i2 u0 u1 u2 u3 u4 u5 u6 u7 u8 u9 s.heap s.heap.size (Nat.le_refl _) Sta0 Exa0 Fld0 Sta1 Exa1 Fld1 Sta2 Exa2 Fld2 Sta3 Exa3 Fld3 Sta4 Exa4 Fld4 Sta5 Exa5 Fld5 Sta6 Exa6 Fld6 Sta7 Exa7 Fld7 Sta8 Exa8 Fld8 Sta9 Exa9 Fld9 p e ha hc hk s m _ below hf ((Spec.applies_iff_loose hf).mp happ).1 ⟨rfl, State.Warmed39.refl s, rfl⟩ trivial
  refine ⟨n, _, h1, h2, h3, hpost _ _ _ _ _ _ ⟨Cond.after_iff.mpr rfl, Cond.after_iff.mpr (eq_i res_at (Term.int_eval (1)) rfl), trivial⟩ ⟨hq.1, hq.2.1, (hq.2.2.sift fun y hy => Or.inr (N y hy)).mono (by decide) (by decide)⟩⟩
theorem main_1_1 : Claimed_1_1 := comes_1 fun _ _ _ _ _ _ h hF => ⟨h.1, hF⟩
theorem main_1_2 : Claimed_1_2 := comes_1 fun _ _ _ _ _ _ h hF => ⟨h.2.1, hF⟩
end Jvm.Pilot.@@N@@
namespace Jvm.Pilot.@@N@@
open Jvm Jvm.ClassFile Sem Op Lib Jvm.Free Jvm.Stand Jvm.Pilot.@@N@@.Jvm.D
/-! MADE BY PROGRAM (witnessworld.py) out of the Statement's table words and the real class files: 13 classes; the members and pool entries that the words name. The judged class is class 1, her method 1. -/
namespace start1
open Jvm.ClassFile
def u (s : String) : CpInfo := .utf8 (stringToUtf16 s)
/-- a pool by its gaps: so many unusable entries, then the entry; so many at the end -/
def gap : Nat → List CpInfo → List CpInfo
  | 0, r => r
  | n + 1, r => .unusable :: gap n r
def poolList (es : List (Nat × CpInfo)) (last : Nat) : List CpInfo := es.foldr (fun e r => gap e.1 (e.2 :: r)) (gap last [])
def pool (es : List (Nat × CpInfo)) (last : Nat) : Array CpInfo := ⟨poolList es last⟩
def fileOf (pool : Array CpInfo) (this : Nat) (attrs : Array Attribute := #[]) (ms : Array MethodInfo := #[]) (fl : Nat := 33) (sup : Nat := 0) (ifs : Array Nat := #[]) (fds : Array FieldInfo := #[]) : ClassFile where
  minorVersion := 0
  majorVersion := 65
  constantPool := pool
  accessFlags := fl
  thisClass := this
  superClass := sup
  interfaces := ifs
  fields := fds
  methods := ms
  attributes := attrs
def plain (name : String) (sup : Option ClassId) : Class where
  name := name
  kind := .ordinary
  loader := none
  accessFlags := 33
  super := sup
  interfaces := #[]
  cf := none
  fields := #[]
  methods := #[]
  instanceTypes := #[]
  staticTypes := #[]
  resolved := #[]
  callSites := []
  init := .initialized
  statics := none
  mirror := none

def pool0 : Array CpInfo := pool [(5, u "<init>"), (0, u "()V"), (1, .class_ 10), (1, u "java/lang/Object")] 113

def k0m0 : Method := { name := "<init>", desc := "()V", sig := { parameters := [], returnType := none }, accessFlags := 1, code := none }
/-- java/lang/Object -/
def k0 : Class := { plain "java/lang/Object" none with
  accessFlags := 33
  interfaces := #[]
  cf := some (fileOf pool0 8 #[] #[{ accessFlags := 1, nameIndex := 5, descriptorIndex := 6, attributes := #[] }] 33 0 #[] #[])
  fields := #[]
  methods := #[k0m0]
  instanceTypes := #[]
  staticTypes := #[]
  resolved := Array.replicate 124 none
  statics := none }

def pool1 : Array CpInfo := pool [(2, .class_ 4), (1, u "java/lang/Object"), (0, u "<init>"), (0, u "()V"), (0, .class_ 8), (0, u "com/example/penstock/penstock/network/FlowUnit"), (0, .fieldref 7 10), (0, .nameAndType 11 12), (0, u "CFS"), (0, u "Lcom/example/penstock/penstock/network/FlowUnit;"), (0, .fieldref 7 14), (0, .nameAndType 15 12), (0, u "GPM"), (0, .fieldref 7 17), (0, .nameAndType 18 12), (0, u "MGD"), (0, .fieldref 7 20), (0, .nameAndType 21 12), (0, u "IMGD"), (0, .fieldref 7 23), (0, .nameAndType 24 12), (0, u "AFD"), (0, .fieldref 7 26), (0, .nameAndType 27 12), (0, u "LPS"), (0, .fieldref 7 29), (0, .nameAndType 30 12), (0, u "LPM"), (0, .fieldref 7 32), (0, .nameAndType 33 12), (0, u "MLD"), (0, .fieldref 7 35), (0, .nameAndType 36 12), (0, u "CMH"), (0, .fieldref 7 38), (0, .nameAndType 39 12), (0, u "CMD"), (0, .integer 2147483647), (0, .double 4599162408583596029), (1, .methodref 7 44), (0, .nameAndType 45 46), (0, u "lengthFromFeet"), (0, u "(D)D"), (0, .class_ 48), (0, u "com/example/penstock/penstock/network/FlowUnitLengthFromFeetPinLaw"), (2, u "law"), (0, u "(III)Z")] 5

def k1m0 : Method := { name := "<init>", desc := "()V", sig := { parameters := [], returnType := none }, accessFlags := 1, code := none }
def k1c1 : Code := { maxStack := 5, maxLocals := 12, code := code, exceptionTable := #[], attributes := #[] }
def k1m1 : Method := { name := "law", desc := "(III)Z", sig := { parameters := [.int, .int, .int], returnType := some .boolean }, accessFlags := 9, code := some k1c1 }
/-- com/example/penstock/penstock/network/FlowUnitLengthFromFeetPinLaw -/
def k1 : Class := { plain "com/example/penstock/penstock/network/FlowUnitLengthFromFeetPinLaw" (some 0) with
  accessFlags := 49
  interfaces := #[]
  cf := some (fileOf pool1 47 #[] #[{ accessFlags := 1, nameIndex := 5, descriptorIndex := 6, attributes := #[] }, { accessFlags := 9, nameIndex := 51, descriptorIndex := 52, attributes := #[] }] 49 2 #[] #[])
  fields := #[]
  methods := #[k1m0, k1m1]
  instanceTypes := #[]
  staticTypes := #[]
  resolved := Array.replicate 58 none
  statics := none }

def pool2 : Array CpInfo := pool [(1, .class_ 2), (0, u "java/lang/constant/Constable"), (0, .class_ 4), (0, u "java/lang/Object")] 6

/-- java/lang/constant/Constable -/
def k2 : Class := { plain "java/lang/constant/Constable" (some 0) with
  accessFlags := 1537
  interfaces := #[]
  cf := some (fileOf pool2 1 #[] #[] 1537 3 #[] #[])
  fields := #[]
  methods := #[]
  instanceTypes := #[]
  staticTypes := #[]
  resolved := Array.replicate 11 none
  statics := none }

def pool3 : Array CpInfo := pool [(1, .class_ 2), (0, u "java/lang/Comparable"), (0, .class_ 4), (0, u "java/lang/Object")] 7

/-- java/lang/Comparable -/
def k3 : Class := { plain "java/lang/Comparable" (some 0) with
  accessFlags := 1537
  interfaces := #[]
  cf := some (fileOf pool3 1 #[] #[] 1537 3 #[] #[])
  fields := #[]
  methods := #[]
  instanceTypes := #[]
  staticTypes := #[]
  resolved := Array.replicate 12 none
  statics := none }

def pool4 : Array CpInfo := pool [(1, .class_ 2), (0, u "java/io/Serializable"), (0, .class_ 4), (0, u "java/lang/Object")] 2

/-- java/io/Serializable -/
def k4 : Class := { plain "java/io/Serializable" (some 0) with
  accessFlags := 1537
  interfaces := #[]
  cf := some (fileOf pool4 1 #[] #[] 1537 3 #[] #[])
  fields := #[]
  methods := #[]
  instanceTypes := #[]
  staticTypes := #[]
  resolved := Array.replicate 7 none
  statics := none }

def pool5 : Array CpInfo := pool [(2, .class_ 4), (1, u "java/lang/Enum"), (0, u "name"), (0, u "Ljava/lang/String;"), (2, u "ordinal"), (0, u "I"), (1, .class_ 14), (1, u "java/lang/Object"), (4, u "hash"), (86, .class_ 108), (1, u "java/lang/Enum$EnumDesc"), (2, .class_ 112), (0, u "java/lang/constant/Constable"), (0, .class_ 114), (0, u "java/lang/Comparable"), (0, .class_ 116), (0, u "java/io/Serializable")] 87

/-- java/lang/Enum -/
def k5 : Class := { plain "java/lang/Enum" (some 0) with
  accessFlags := 1057
  interfaces := #[2, 3, 4]
  cf := some (fileOf pool5 2 #[.nestMembers #[106]] #[] 1057 12 #[111, 113, 115] #[{ accessFlags := 18, nameIndex := 5, descriptorIndex := 6, attributes := #[] }, { accessFlags := 18, nameIndex := 9, descriptorIndex := 10, attributes := #[] }, { accessFlags := 2, nameIndex := 19, descriptorIndex := 10, attributes := #[] }])
  fields := #[{ name := "name", type := (.object "java/lang/String"), accessFlags := 18, slot := 0, constantValue := 0 }, { name := "ordinal", type := .int, accessFlags := 18, slot := 1, constantValue := 0 }, { name := "hash", type := .int, accessFlags := 2, slot := 2, constantValue := 0 }]
  methods := #[]
  instanceTypes := #[(.object "java/lang/String"), .int, .int]
  staticTypes := #[]
  resolved := Array.replicate 204 none
  statics := none }

def pool6 : Array CpInfo := pool [(1, .class_ 2), (0, u "com/example/penstock/penstock/network/FlowUnit"), (2, u "CFS"), (0, u "Lcom/example/penstock/penstock/network/FlowUnit;"), (2, u "GPM"), (2, u "MGD"), (2, u "IMGD"), (2, u "AFD"), (2, u "LPS"), (2, u "LPM"), (2, u "MLD"), (2, u "CMH"), (2, u "CMD"), (2, u "$VALUES"), (0, u "[Lcom/example/penstock/penstock/network/FlowUnit;"), (6, .class_ 46), (1, u "java/lang/Enum"), (8, u "perCubicFootPerSecond"), (0, u "D"), (0, .fieldref 1 58), (0, .nameAndType 59 60), (0, u "metric"), (0, u "Z"), (28, .double 4599162408583596029), (17, u "(D)D"), (34, u "METRES_PER_FOOT"), (16, u "lengthFromFeet")] 6

def k6c0 : Code := { maxStack := 4, maxLocals := 3, code := prog_25_method_9_code, exceptionTable := #[], attributes := #[] }
def k6m0 : Method := { name := "lengthFromFeet", desc := "(D)D", sig := { parameters := [.double], returnType := some .double }, accessFlags := 1, code := some k6c0 }
/-- com/example/penstock/penstock/network/FlowUnit -/
def k6 : Class := { plain "com/example/penstock/penstock/network/FlowUnit" (some 5) with
  accessFlags := 16433
  interfaces := #[]
  cf := some (fileOf pool6 1 #[] #[{ accessFlags := 1, nameIndex := 159, descriptorIndex := 107, attributes := #[] }] 16433 44 #[] #[{ accessFlags := 16409, nameIndex := 5, descriptorIndex := 6, attributes := #[] }, { accessFlags := 16409, nameIndex := 9, descriptorIndex := 6, attributes := #[] }, { accessFlags := 16409, nameIndex := 12, descriptorIndex := 6, attributes := #[] }, { accessFlags := 16409, nameIndex := 15, descriptorIndex := 6, attributes := #[] }, { accessFlags := 16409, nameIndex := 18, descriptorIndex := 6, attributes := #[] }, { accessFlags := 16409, nameIndex := 21, descriptorIndex := 6, attributes := #[] }, { accessFlags := 16409, nameIndex := 24, descriptorIndex := 6, attributes := #[] }, { accessFlags := 16409, nameIndex := 27, descriptorIndex := 6, attributes := #[] }, { accessFlags := 16409, nameIndex := 30, descriptorIndex := 6, attributes := #[] }, { accessFlags := 16409, nameIndex := 33, descriptorIndex := 6, attributes := #[] }, { accessFlags := 26, nameIndex := 142, descriptorIndex := 56, attributes := #[] }, { accessFlags := 18, nameIndex := 55, descriptorIndex := 56, attributes := #[] }, { accessFlags := 18, nameIndex := 59, descriptorIndex := 60, attributes := #[] }, { accessFlags := 4122, nameIndex := 36, descriptorIndex := 37, attributes := #[] }])
  fields := #[{ name := "CFS", type := (.object "com/example/penstock/penstock/network/FlowUnit"), accessFlags := 16409, slot := 0, constantValue := 0 }, { name := "GPM", type := (.object "com/example/penstock/penstock/network/FlowUnit"), accessFlags := 16409, slot := 1, constantValue := 0 }, { name := "MGD", type := (.object "com/example/penstock/penstock/network/FlowUnit"), accessFlags := 16409, slot := 2, constantValue := 0 }, { name := "IMGD", type := (.object "com/example/penstock/penstock/network/FlowUnit"), accessFlags := 16409, slot := 3, constantValue := 0 }, { name := "AFD", type := (.object "com/example/penstock/penstock/network/FlowUnit"), accessFlags := 16409, slot := 4, constantValue := 0 }, { name := "LPS", type := (.object "com/example/penstock/penstock/network/FlowUnit"), accessFlags := 16409, slot := 5, constantValue := 0 }, { name := "LPM", type := (.object "com/example/penstock/penstock/network/FlowUnit"), accessFlags := 16409, slot := 6, constantValue := 0 }, { name := "MLD", type := (.object "com/example/penstock/penstock/network/FlowUnit"), accessFlags := 16409, slot := 7, constantValue := 0 }, { name := "CMH", type := (.object "com/example/penstock/penstock/network/FlowUnit"), accessFlags := 16409, slot := 8, constantValue := 0 }, { name := "CMD", type := (.object "com/example/penstock/penstock/network/FlowUnit"), accessFlags := 16409, slot := 9, constantValue := 0 }, { name := "METRES_PER_FOOT", type := .double, accessFlags := 26, slot := 10, constantValue := 0 }, { name := "perCubicFootPerSecond", type := .double, accessFlags := 18, slot := 3, constantValue := 0 }, { name := "metric", type := .boolean, accessFlags := 18, slot := 4, constantValue := 0 }, { name := "$VALUES", type := (.array (.object "com/example/penstock/penstock/network/FlowUnit")), accessFlags := 4122, slot := 11, constantValue := 0 }]
  methods := #[k6m0]
  instanceTypes := #[(.object "java/lang/String"), .int, .int, .double, .boolean]
  staticTypes := #[(.object "com/example/penstock/penstock/network/FlowUnit"), (.object "com/example/penstock/penstock/network/FlowUnit"), (.object "com/example/penstock/penstock/network/FlowUnit"), (.object "com/example/penstock/penstock/network/FlowUnit"), (.object "com/example/penstock/penstock/network/FlowUnit"), (.object "com/example/penstock/penstock/network/FlowUnit"), (.object "com/example/penstock/penstock/network/FlowUnit"), (.object "com/example/penstock/penstock/network/FlowUnit"), (.object "com/example/penstock/penstock/network/FlowUnit"), (.object "com/example/penstock/penstock/network/FlowUnit"), .double, (.array (.object "com/example/penstock/penstock/network/FlowUnit"))]
  resolved := Array.replicate 166 none
  statics := some 0 }

def pool7 : Array CpInfo := pool [(1, u "java/lang/Cloneable"), (0, .class_ 1), (0, u "java/lang/Object"), (0, .class_ 3)] 3

/-- java/lang/Cloneable -/
def k7 : Class := { plain "java/lang/Cloneable" (some 0) with
  accessFlags := 1537
  interfaces := #[]
  cf := some (fileOf pool7 2 #[] #[] 1537 4 #[] #[])
  fields := #[]
  methods := #[]
  instanceTypes := #[]
  staticTypes := #[]
  resolved := Array.replicate 8 none
  statics := none }

/-- the primitive byte -/
def k8 : Class := { plain "byte" none with kind := .primitive 'B', accessFlags := 0x411 }
/-- [B -/
def k9 : Class := { plain "[B" (some 0) with kind := .array 8 .byte, interfaces := #[7, 4], accessFlags := 1041 }

/-- the primitive int -/
def k10 : Class := { plain "int" none with kind := .primitive 'I', accessFlags := 0x411 }
/-- [I -/
def k11 : Class := { plain "[I" (some 0) with kind := .array 10 .int, interfaces := #[7, 4], accessFlags := 1041 }

/-- [Lcom/example/penstock/penstock/network/FlowUnit; -/
def k12 : Class := { plain "[Lcom/example/penstock/penstock/network/FlowUnit;" (some 0) with kind := .array 6 (.object "com/example/penstock/penstock/network/FlowUnit"), interfaces := #[7, 4], accessFlags := 1041 }

def heap : Heap := #[{ cls := 6, slots := #[.ref 1, .ref 2, .ref 3, .ref 4, .ref 5, .ref 6, .ref 7, .ref 8, .ref 9, .ref 10, .double 0, .null], vm := .statics 6 },
  { cls := 6, slots := #[.null, .int 0, .int 0, .double 0, .int 0], vm := .none },
  { cls := 6, slots := #[.null, .int 1, .int 0, .double 0, .int 0], vm := .none },
  { cls := 6, slots := #[.null, .int 2, .int 0, .double 0, .int 0], vm := .none },
  { cls := 6, slots := #[.null, .int 3, .int 0, .double 0, .int 0], vm := .none },
  { cls := 6, slots := #[.null, .int 4, .int 0, .double 0, .int 0], vm := .none },
  { cls := 6, slots := #[.null, .int 5, .int 0, .double 0, .int 1], vm := .none },
  { cls := 6, slots := #[.null, .int 6, .int 0, .double 0, .int 1], vm := .none },
  { cls := 6, slots := #[.null, .int 7, .int 0, .double 0, .int 1], vm := .none },
  { cls := 6, slots := #[.null, .int 8, .int 0, .double 0, .int 1], vm := .none },
  { cls := 6, slots := #[.null, .int 9, .int 0, .double 0, .int 1], vm := .none }]
def classes : Array Class := #[k0, k1, k2, k3, k4, k5, k6, k7, k8, k9, k10, k11, k12]
def interned : List (Array UInt16 × Addr) := []
def slotsUsed : Nat := 62
def theMethod : MethodId := ⟨1, 1⟩
def args0 : Array Value := #[.int 5, .int 6, .int 1]
def aboutOver (below : List Frame) : State where
  vm := { classes := classes, interned := interned.toArray }
  heap := heap
  slotsUsed := slotsUsed
  threads := #[{ frames := .invoking theMethod args0 :: below }]
def below0 : List Frame := [.native { method := ⟨0, 0⟩, args := #[] }]
def about1 : State := aboutOver below0
def p0 : Program := .bare "" "" ""
def e0 : Env := launch0.env 0 0 0
theorem w_frames : about1.frames = Frame.invoking theMethod args0 :: below0 := rfl
set_option maxRecDepth 65536 in
theorem w_args : argsFit about1.vm theMethod args0 = true := by decide +kernel
set_option maxRecDepth 65536 in
theorem w_heap : heapFits about1 = true := by decide +kernel
set_option maxRecDepth 65536 in
theorem w_runnable : about1.curStatus? = some .runnable := by decide +kernel
set_option maxRecDepth 65536 in
theorem w_alone : about1.alone = true := by decide +kernel
set_option maxRecDepth 65536 in
theorem w_named : about1.methodNamed? x = some theMethod := by decide +kernel
set_option maxRecDepth 65536 in
theorem w_hears : about1.hears theMethod below0 = true := by decide +kernel
set_option maxRecDepth 65536 in
theorem w_ripe : about1.ripe theMethod args0 below0 = true := by decide +kernel
theorem w_running : about1.status = .running := rfl
set_option maxRecDepth 65536 in
theorem w_room : about1.hasRoom e0.platform room_1 = true :=
  launch0.hasRoom_least _ room_1 (by decide +kernel) (by decide +kernel) (by decide +kernel) (by decide +kernel) (by decide +kernel) (by decide +kernel)
theorem allAtoms_all (ts : List Jvm.Cond) (a : Array Jvm.Value) (st : Jvm.State) : (allAtoms ts).before a st = ts.all (fun c => c.before a st) := by
  induction ts with
  | nil => rfl
  | cons c t ih =>
    show (Jvm.Cond.and c (allAtoms t)).before a st = _
    rw [Jvm.Cond.before_and, ih, List.all_cons]
def words1 : List Jvm.Cond := Jvm.Cond.code x code maxLocals ret :: tables_1
/-- a 'code' word, met by the world's own term for the bytes: nothing is compared byte by byte -/
theorem code_word {y : MethodName} {bytes : ByteArray} {mx : Nat} {rt : Option FieldType} {a : Array Value} {s : State} {m : MethodId} {meth : Method} {c : Code} (h1 : s.methodNamed? y = some m) (h2 : s.vm.method? m = some meth) (h3 : meth.code = some c) (h4 : c.code = bytes)
    (h5 : (c.maxLocals == mx && c.exceptionTable.isEmpty && decide (c.maxStack ≤ mostOperands) && decide (meth.sig.returnType = rt) && !meth.locks && decide (parseMethodDescriptor y.desc = some meth.sig)) = true) : (Jvm.Cond.code y bytes mx rt).before a s = true := by
  simp only [Bool.and_eq_true, beq_iff_eq, Bool.not_eq_true', decide_eq_true_eq] at h5
  obtain ⟨⟨⟨⟨⟨g1, g2⟩, g3⟩, g4⟩, g5⟩, g6⟩ := h5
  simp [Cond.before, Cond.holds, Cond.value, h1, h2, h3, h4, g1, g2, g3, g4, g5, g6]
def isCode : Jvm.Cond → Bool
  | .code _ _ _ _ => true
  | _ => false
theorem all_split {L : List Jvm.Cond} {P : Jvm.Cond → Bool} (h1 : L.all (fun c => isCode c || P c) = true) (h2 : ∀ c ∈ L.filter isCode, P c = true) : L.all P = true := by
  refine List.all_eq_true.mpr fun c hc => ?_
  have h := List.all_eq_true.mp h1 c hc
  rcases Bool.eq_false_or_eq_true (isCode c) with hi | hi
  · exact h2 c (List.mem_filter.mpr ⟨hc, hi⟩)
  · simpa [hi] using h
set_option maxRecDepth 65536 in
theorem w_c0 : (Jvm.Cond.code x code maxLocals ret).before args0 about1 = true := code_word (m := ⟨1, 1⟩) (meth := k1m1) (c := k1c1) (by decide +kernel) rfl rfl rfl (by decide +kernel)
set_option maxRecDepth 65536 in
theorem w_c1 : (Jvm.Cond.code ({ cls := "com/example/penstock/penstock/network/FlowUnit", name := "lengthFromFeet", desc := "(D)D" } : Jvm.MethodName) prog_25_method_9_code (3 : Nat) (Option.some Jvm.ClassFile.FieldType.double)).before args0 about1 = true := code_word (m := ⟨6, 0⟩) (meth := k6m0) (c := k6c0) (by decide +kernel) rfl rfl rfl (by decide +kernel)
def codes1 : List Jvm.Cond := [Jvm.Cond.code x code maxLocals ret, Jvm.Cond.code ({ cls := "com/example/penstock/penstock/network/FlowUnit", name := "lengthFromFeet", desc := "(D)D" } : Jvm.MethodName) prog_25_method_9_code (3 : Nat) (Option.some Jvm.ClassFile.FieldType.double)]
set_option maxRecDepth 65536 in
theorem codes_eq : words1.filter isCode = codes1 := rfl
theorem w_codes : ∀ c ∈ words1.filter isCode, c.before args0 about1 = true := by
  rw [codes_eq]
  intro c hc
  simp only [codes1, List.mem_cons, List.not_mem_nil, or_false] at hc
  rcases hc with rfl | rfl
  · exact w_c0
  · exact w_c1
set_option maxRecDepth 65536 in
theorem w_t1 : (words1.take 24).all (fun c => isCode c || c.before args0 about1) = true := by decide +kernel
set_option maxRecDepth 65536 in
theorem w_t2 : (words1.drop 24).all (fun c => isCode c || c.before args0 about1) = true := by decide +kernel
theorem w_tables : (allAtoms (Jvm.Cond.code x code maxLocals ret :: tables_1)).before args0 about1 = true := by
  rw [allAtoms_all]
  show words1.all (fun c => c.before args0 about1) = true
  refine all_split ?_ w_codes
  rw [← List.take_append_drop 24 words1, List.all_append, w_t1, w_t2]
  rfl
set_option maxRecDepth 65536 in
theorem w_case : (Jvm.Cond.and given_1 narrow_1).before args0 about1 = true := by decide +kernel
theorem w_applies : (headSpec (Jvm.Cond.code x code maxLocals ret :: tables_1) room_1).applies x e0.platform about1 = true :=
  (Spec.applies_iff w_frames).mpr ⟨w_running, w_runnable, w_alone, w_named, w_hears, w_ripe, w_room, w_tables⟩
theorem atStart : AtStart classFile x code maxLocals ret World_1 tables_1 room_1 Calls_1 rest_1 Pre_1 launch0 p0 e0 about1 theMethod args0 below0 :=
  ⟨lists_1, trivial, launch0.admits_env _ _ _, launch0.least_env, fairChoices_fair.cas, fairChoices_fair.clock, w_frames, w_args, w_heap, w_applies, trivial, trivial, w_case⟩
end start1
theorem witness_1 : WitnessClaimed_1 := ⟨start1.p0, start1.e0, start1.about1, start1.theMethod, start1.args0, start1.below0, start1.atStart⟩
end Jvm.Pilot.@@N@@
