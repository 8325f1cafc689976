import JvmDerived
import JvmDerived.Pilot.@@N@@Statement
import JvmDerived.Pilot.@@N@@Code
set_option linter.unusedVariables false
set_option linter.unusedSimpArgs false
namespace Jvm.RoadKit
open Sem ClassFile Op Lib Jvm.Stand Jvm.Free Jvm.LawKit
section New
variable {p : Program} {l : Launch} {e : Env} {R : Room} {s : State} {m : MethodId} {args : Array Value} {below : List Frame} {meth : Method} {c : Code} {T : State} {locs : List Loc} {cells slots : Nat}
theorem retI (X : Stand p l e R s m args below meth c T locs cells slots) (hx : p.tables.exec = Jvm.exec) {pc : Nat} {Ls : Array Slot} {z : Int32} {rest : List Value} (hret : meth.sig.returnType = some .int) (hd : decode c.code pc = .ok (.ireturn, 1)) {fs : List Frame}
    (hl : ∀ (f : JFrame) (acts : List Action), f.method = m → f.locked = none → f.entered = [] → (doReturn e (T.setTop f) acts (some (.int z))).1 = T.setFrames fs) : Steps p.tables e below (T.setTop (mkF m pc Ls (.int z :: rest))) (T.setFrames fs) := by
  have hm' : T.vm.method? m = some meth := X.method'
  have hn : narrow .int (.int z) = .int z := rfl
  show Steps p.tables e below (T.setTop { method := m, pc := pc, locals := Ls, stack := _ :: rest, locked := none }) _
  jvm_step X.here [X.here.top, hx, hd, hm', hret, hn]
  first | (intro acts; rw [hl _ acts rfl rfl rfl]) | rw [hl _ _ rfl rfl rfl]
  exact Steps.refl _
end New
end Jvm.RoadKit
namespace Jvm.Pilot.@@N@@
open Jvm Jvm.ClassFile Sem Op Lib Jvm.Free Jvm.Stand Jvm.LawKit Jvm.RoadKit Bundle Jvm.Pilot.@@N@@.Jvm.D
theorem d1_0 : decode prog_65_method_5_code 0 = .ok (.aload_n 0, 1) := by decide +kernel
theorem d1_1 : decode prog_65_method_5_code 1 = .ok (.getstatic 10, 3) := by decide +kernel
theorem d1_4 : decode prog_65_method_5_code 4 = .ok (.if_acmp .eq 10, 3) := by decide +kernel
theorem d1_7 : decode prog_65_method_5_code 7 = .ok (.aload_n 0, 1) := by decide +kernel
theorem d1_8 : decode prog_65_method_5_code 8 = .ok (.getstatic 13, 3) := by decide +kernel
theorem d1_11 : decode prog_65_method_5_code 11 = .ok (.if_acmp .ne 7, 3) := by decide +kernel
theorem d1_14 : decode prog_65_method_5_code 14 = .ok (.iconst 1, 1) := by decide +kernel
theorem d1_15 : decode prog_65_method_5_code 15 = .ok (.goto 4, 3) := by decide +kernel
theorem d1_18 : decode prog_65_method_5_code 18 = .ok (.iconst 0, 1) := by decide +kernel
theorem d1_19 : decode prog_65_method_5_code 19 = .ok (.ireturn, 1) := by decide +kernel
theorem pn_1 : plainName "com/example/indentary/indentary/model/RateAdjustmentTerms$CashDividendFormula" = true := by first | (simp [plainName, overriddenIn]; done) | decide +kernel
theorem ef_1 (m : MethodId) (x0 : Addr) : entryFrame m #[(.ref x0)] 1 = mkF m 0 #[.val (.ref x0)] [] := by first | (simp [entryFrame, mkF, argsToLocals, Value.category]; done) | rfl
def f1 (o0 : Addr) (w1 : Addr) (w5 : Addr) : Int32 :=
  if o0 = w1 then ((1 : Int32)) else
  (if o0 = w5 then ((1 : Int32)) else
  ((0 : Int32)))
def Q1 (Z : State) (o0 : Addr) (w1 : Addr) (w5 : Addr) (h0 : Heap) (n0 : Nat) (v : Option Value) (h : Heap) (L : List Loc) : Prop := v = some (.int (f1 o0 w1 w5)) ∧ Fr n0 L ∧ h = h0
set_option maxRecDepth 65536 in
set_option maxHeartbeats 40000000 in
theorem rm1 (l : Launch) (Z : State) (a0 : Array Value) (hw : ∀ d ∈ tables_1, d.before a0 Z = true) (ws : List Jvm.Cond) (o0 : Addr) (w1 : Addr) (w5 : Addr) (h0 : Heap) (n0 : Nat) (Z0 : n0 ≤ h0.size) (S_CASH_BEYOND_THE_THRESHOLD : Sta Z h0 "com/example/indentary/indentary/model/RateAdjustmentTerms$CashDividendFormula" "CASH_BEYOND_THE_THRESHOLD" "Lcom/example/indentary/indentary/model/RateAdjustmentTerms$CashDividendFormula;" (.ref w1)) (S_CASH_BEYOND_THE_THRESHOLD_AND_A_DOLLAR_BELOW_THE_AVERAGE : Sta Z h0 "com/example/indentary/indentary/model/RateAdjustmentTerms$CashDividendFormula" "CASH_BEYOND_THE_THRESHOLD_AND_A_DOLLAR_BELOW_THE_AVERAGE" "Lcom/example/indentary/indentary/model/RateAdjustmentTerms$CashDividendFormula;" (.ref w5)) :
    MetFree l (⟨"com/example/indentary/indentary/model/RateAdjustmentTerms$CashDividendFormula", "takesDividendThreshold", "()Z"⟩ : MethodName) (head1 (Jvm.Cond.code (⟨"com/example/indentary/indentary/model/RateAdjustmentTerms$CashDividendFormula", "takesDividendThreshold", "()Z"⟩ : MethodName) prog_65_method_5_code 1 (some .boolean) :: ws) ({ frames := 0, cells := 0, slots := 0, locals := 0 } : Room)) (fun a U => a = #[(.ref o0)] ∧ Z.Warmed39 U.vm ∧ U.heap = h0) (fun _ _ _ _ _ => True) (fun _ U o U' => ∃ v L, o = .returned v ∧ Q1 Z o0 w1 w5 h0 n0 v U'.heap L ∧ FrameEnd U o U' L ({ frames := 0, cells := 0, slots := 0, locals := 0 } : Room).cells ({ frames := 0, cells := 0, slots := 0, locals := 0 } : Room).slots) := by
  refine MetFree.of_bodySF (plainFor_of_name pn_1) hisR ?_
  intro p e s m args below meth c s₁ Bd hml0 hP hK
  obtain ⟨rfl, hZ, hh⟩ := hP
  have hx := Bd.exec
  have hby := Bd.bytes
  have hml : c.maxLocals = 1 := hml0
  have hown : s.vm.findClass "com/example/indentary/indentary/model/RateAdjustmentTerms$CashDividendFormula" = some m.cls := findClass_of_methodNamed Bd.named
  have hnm := (name_of_methodNamed Bd.named Bd.method).1
  have X0 : Stand p l e ({ frames := 0, cells := 0, slots := 0, locals := 0 } : Room) s m #[(.ref o0)] below meth c s₁ [] 0 0 := Stand.of_body Bd
  have e0 : s₁.heap = h0 := by rw [← hh, Bd.state]; rfl
  have N0 := Fr.nil n0
  have pre0 : ∀ t, Steps p.tables e below (s₁.setTop (mkF m 0 #[.val (.ref o0)] [])) t → Steps p.tables e below (s₁.setTop (entryFrame m #[(.ref o0)] 1)) t := fun t k => castTop (ef_1 m o0) k
  obtain ⟨T2, X2, e2, st2⟩ := getS2 X0 hx hZ hown (host := "") (Or.inl (hw _ (List.mem_of_getElem? (i := 8) rfl))) Via.refl e0 S_CASH_BEYOND_THE_THRESHOLD (g := (mkF m 1 #[.val (.ref o0)] [(.ref o0)])) rfl (hb hby d1_1)
  have pre3 : ∀ t, Steps p.tables e below (T2.setTop (mkF m 4 #[.val (.ref o0)] [(.ref w1), (.ref o0)])) t → Steps p.tables e below (s₁.setTop (entryFrame m #[(.ref o0)] 1)) t := fun t kt => pre0 t (by
      show Steps p.tables e below (s₁.setTop (mkF m 0 #[.val (.ref o0)] [])) _
      refine XS.aloadN X0.here hx rfl (hb hby d1_0) rfl rfl ?_
      show Steps p.tables e below (s₁.setTop (mkF m 1 #[.val (.ref o0)] [(.ref o0)])) _
      refine st2 _ ?_
      exact kt)
  by_cases ha4_4 : o0 = w1
  · obtain ⟨fs, hr, hrun, hended, hW, hsame⟩ := X2.leave (v := some (.int (1 : Int32))) (fun h => by rw [Bd.returns] at h; cases h)
    have hv9 : (f1 o0 w1 w5) = (1 : Int32) := by rw [f1, if_pos ha4_4]
    refine ⟨_, _, pre3 _ ?_, hrun, hended, _, _, rfl, ?_, ⟨_, rfl⟩, hW, hsame.mono (by decide) (by decide)⟩
    · show Steps p.tables e below (T2.setTop (mkF m 4 #[.val (.ref o0)] [(.ref w1), (.ref o0)])) _
      refine Jvm.RoadKit.acmp (g := (mkF m 4 #[.val (.ref o0)] [(.ref w1), (.ref o0)])) X2 hx rfl rfl rfl (pc0 := 4) (pc' := 14) (same := true) rfl (hb hby d1_4) rfl (decide_eq_true (congrArg Value.ref ha4_4)) (by decide) (by decide) ?_
      show Steps p.tables e below (T2.setTop (mkF m 14 #[.val (.ref o0)] [])) _
      refine XS.iconst X2.here hx rfl (hb hby d1_14) ?_
      show Steps p.tables e below (T2.setTop (mkF m 15 #[.val (.ref o0)] [(.int (1 : Int32))])) _
      refine XS.goto X2.here hx rfl (pc0 := 15) (pc' := 19) rfl (hb hby d1_15) (by decide) (by decide) ?_
      show Steps p.tables e below (T2.setTop (mkF m 19 #[.val (.ref o0)] [(.int (1 : Int32))])) _
      exact retN X2 hx (t := .boolean) Bd.returns (by simp) (hb hby d1_19) hr
    · show Q1 Z o0 w1 w5 h0 n0 _ T2.heap _
      rw [e2]
      exact ⟨congrArg (fun q => some (Value.int q)) hv9.symm, N0, rfl⟩
  · obtain ⟨T6, X6, e6, st6⟩ := getS2 X2 hx hZ hown (host := "") (Or.inl (hw _ (List.mem_of_getElem? (i := 10) rfl))) Via.refl e2 S_CASH_BEYOND_THE_THRESHOLD_AND_A_DOLLAR_BELOW_THE_AVERAGE (g := (mkF m 8 #[.val (.ref o0)] [(.ref o0)])) rfl (hb hby d1_8)
    have pre7 : ∀ t, Steps p.tables e below (T6.setTop (mkF m 11 #[.val (.ref o0)] [(.ref w5), (.ref o0)])) t → Steps p.tables e below (s₁.setTop (entryFrame m #[(.ref o0)] 1)) t := fun t kt => pre3 t (by
        show Steps p.tables e below (T2.setTop (mkF m 4 #[.val (.ref o0)] [(.ref w1), (.ref o0)])) _
        refine Jvm.RoadKit.acmp (g := (mkF m 4 #[.val (.ref o0)] [(.ref w1), (.ref o0)])) X2 hx rfl rfl rfl (pc0 := 4) (pc' := 7) (same := false) rfl (hb hby d1_4) rfl (decide_eq_false fun q => ha4_4 (Value.ref.inj q)) (by decide) (by decide) ?_
        show Steps p.tables e below (T2.setTop (mkF m 7 #[.val (.ref o0)] [])) _
        refine XS.aloadN X2.here hx rfl (hb hby d1_7) rfl rfl ?_
        show Steps p.tables e below (T2.setTop (mkF m 8 #[.val (.ref o0)] [(.ref o0)])) _
        refine st6 _ ?_
        exact kt)
    by_cases ha11_8 : o0 = w5
    · obtain ⟨fs, hr, hrun, hended, hW, hsame⟩ := X6.leave (v := some (.int (1 : Int32))) (fun h => by rw [Bd.returns] at h; cases h)
      have hv10 : (f1 o0 w1 w5) = (1 : Int32) := by rw [f1, if_neg ha4_4, if_pos ha11_8]
      refine ⟨_, _, pre7 _ ?_, hrun, hended, _, _, rfl, ?_, ⟨_, rfl⟩, hW, hsame.mono (by decide) (by decide)⟩
      · show Steps p.tables e below (T6.setTop (mkF m 11 #[.val (.ref o0)] [(.ref w5), (.ref o0)])) _
        refine Jvm.RoadKit.acmp (g := (mkF m 11 #[.val (.ref o0)] [(.ref w5), (.ref o0)])) X6 hx rfl rfl rfl (pc0 := 11) (pc' := 14) (same := true) rfl (hb hby d1_11) rfl (decide_eq_true (congrArg Value.ref ha11_8)) (by decide) (by decide) ?_
        show Steps p.tables e below (T6.setTop (mkF m 14 #[.val (.ref o0)] [])) _
        refine XS.iconst X6.here hx rfl (hb hby d1_14) ?_
        show Steps p.tables e below (T6.setTop (mkF m 15 #[.val (.ref o0)] [(.int (1 : Int32))])) _
        refine XS.goto X6.here hx rfl (pc0 := 15) (pc' := 19) rfl (hb hby d1_15) (by decide) (by decide) ?_
        show Steps p.tables e below (T6.setTop (mkF m 19 #[.val (.ref o0)] [(.int (1 : Int32))])) _
        exact retN X6 hx (t := .boolean) Bd.returns (by simp) (hb hby d1_19) hr
      · show Q1 Z o0 w1 w5 h0 n0 _ T6.heap _
        rw [e6]
        exact ⟨congrArg (fun q => some (Value.int q)) hv10.symm, N0, rfl⟩
    · obtain ⟨fs, hr, hrun, hended, hW, hsame⟩ := X6.leave (v := some (.int (0 : Int32))) (fun h => by rw [Bd.returns] at h; cases h)
      have hv11 : (f1 o0 w1 w5) = (0 : Int32) := by rw [f1, if_neg ha4_4, if_neg ha11_8]
      refine ⟨_, _, pre7 _ ?_, hrun, hended, _, _, rfl, ?_, ⟨_, rfl⟩, hW, hsame.mono (by decide) (by decide)⟩
      · show Steps p.tables e below (T6.setTop (mkF m 11 #[.val (.ref o0)] [(.ref w5), (.ref o0)])) _
        refine Jvm.RoadKit.acmp (g := (mkF m 11 #[.val (.ref o0)] [(.ref w5), (.ref o0)])) X6 hx rfl rfl rfl (pc0 := 11) (pc' := 18) (same := false) rfl (hb hby d1_11) rfl (decide_eq_false fun q => ha11_8 (Value.ref.inj q)) (by decide) (by decide) ?_
        show Steps p.tables e below (T6.setTop (mkF m 18 #[.val (.ref o0)] [])) _
        refine XS.iconst X6.here hx rfl (hb hby d1_18) ?_
        show Steps p.tables e below (T6.setTop (mkF m 19 #[.val (.ref o0)] [(.int (0 : Int32))])) _
        exact retN X6 hx (t := .boolean) Bd.returns (by simp) (hb hby d1_19) hr
      · show Q1 Z o0 w1 w5 h0 n0 _ T6.heap _
        rw [e6]
        exact ⟨congrArg (fun q => some (Value.int q)) hv11.symm, N0, rfl⟩
theorem d2_0 : decode prog_65_method_6_code 0 = .ok (.aload_n 0, 1) := by decide +kernel
theorem d2_1 : decode prog_65_method_6_code 1 = .ok (.getstatic 13, 3) := by decide +kernel
theorem d2_4 : decode prog_65_method_6_code 4 = .ok (.if_acmp .ne 7, 3) := by decide +kernel
theorem d2_7 : decode prog_65_method_6_code 7 = .ok (.iconst 1, 1) := by decide +kernel
theorem d2_8 : decode prog_65_method_6_code 8 = .ok (.goto 4, 3) := by decide +kernel
theorem d2_11 : decode prog_65_method_6_code 11 = .ok (.iconst 0, 1) := by decide +kernel
theorem d2_12 : decode prog_65_method_6_code 12 = .ok (.ireturn, 1) := by decide +kernel
theorem pn_2 : plainName "com/example/indentary/indentary/model/RateAdjustmentTerms$CashDividendFormula" = true := by first | (simp [plainName, overriddenIn]; done) | decide +kernel
theorem ef_2 (m : MethodId) (x0 : Addr) : entryFrame m #[(.ref x0)] 1 = mkF m 0 #[.val (.ref x0)] [] := by first | (simp [entryFrame, mkF, argsToLocals, Value.category]; done) | rfl
def f2 (o0 : Addr) (w1 : Addr) : Int32 :=
  if o0 = w1 then ((1 : Int32)) else
  ((0 : Int32))
def Q2 (Z : State) (o0 : Addr) (w1 : Addr) (h0 : Heap) (n0 : Nat) (v : Option Value) (h : Heap) (L : List Loc) : Prop := v = some (.int (f2 o0 w1)) ∧ Fr n0 L ∧ h = h0
set_option maxRecDepth 65536 in
set_option maxHeartbeats 40000000 in
theorem rm2 (l : Launch) (Z : State) (a0 : Array Value) (hw : ∀ d ∈ tables_1, d.before a0 Z = true) (ws : List Jvm.Cond) (o0 : Addr) (w1 : Addr) (h0 : Heap) (n0 : Nat) (Z0 : n0 ≤ h0.size) (S_CASH_BEYOND_THE_THRESHOLD_AND_A_DOLLAR_BELOW_THE_AVERAGE : Sta Z h0 "com/example/indentary/indentary/model/RateAdjustmentTerms$CashDividendFormula" "CASH_BEYOND_THE_THRESHOLD_AND_A_DOLLAR_BELOW_THE_AVERAGE" "Lcom/example/indentary/indentary/model/RateAdjustmentTerms$CashDividendFormula;" (.ref w1)) :
    MetFree l (⟨"com/example/indentary/indentary/model/RateAdjustmentTerms$CashDividendFormula", "comparesWithTheAverage", "()Z"⟩ : MethodName) (head1 (Jvm.Cond.code (⟨"com/example/indentary/indentary/model/RateAdjustmentTerms$CashDividendFormula", "comparesWithTheAverage", "()Z"⟩ : MethodName) prog_65_method_6_code 1 (some .boolean) :: ws) ({ frames := 0, cells := 0, slots := 0, locals := 0 } : Room)) (fun a U => a = #[(.ref o0)] ∧ Z.Warmed39 U.vm ∧ U.heap = h0) (fun _ _ _ _ _ => True) (fun _ U o U' => ∃ v L, o = .returned v ∧ Q2 Z o0 w1 h0 n0 v U'.heap L ∧ FrameEnd U o U' L ({ frames := 0, cells := 0, slots := 0, locals := 0 } : Room).cells ({ frames := 0, cells := 0, slots := 0, locals := 0 } : Room).slots) := by
  refine MetFree.of_bodySF (plainFor_of_name pn_2) hisR ?_
  intro p e s m args below meth c s₁ Bd hml0 hP hK
  obtain ⟨rfl, hZ, hh⟩ := hP
  have hx := Bd.exec
  have hby := Bd.bytes
  have hml : c.maxLocals = 1 := hml0
  have hown : s.vm.findClass "com/example/indentary/indentary/model/RateAdjustmentTerms$CashDividendFormula" = some m.cls := findClass_of_methodNamed Bd.named
  have hnm := (name_of_methodNamed Bd.named Bd.method).1
  have X0 : Stand p l e ({ frames := 0, cells := 0, slots := 0, locals := 0 } : Room) s m #[(.ref o0)] below meth c s₁ [] 0 0 := Stand.of_body Bd
  have e0 : s₁.heap = h0 := by rw [← hh, Bd.state]; rfl
  have N0 := Fr.nil n0
  have pre0 : ∀ t, Steps p.tables e below (s₁.setTop (mkF m 0 #[.val (.ref o0)] [])) t → Steps p.tables e below (s₁.setTop (entryFrame m #[(.ref o0)] 1)) t := fun t k => castTop (ef_2 m o0) k
  obtain ⟨T2, X2, e2, st2⟩ := getS2 X0 hx hZ hown (host := "") (Or.inl (hw _ (List.mem_of_getElem? (i := 10) rfl))) Via.refl e0 S_CASH_BEYOND_THE_THRESHOLD_AND_A_DOLLAR_BELOW_THE_AVERAGE (g := (mkF m 1 #[.val (.ref o0)] [(.ref o0)])) rfl (hb hby d2_1)
  have pre3 : ∀ t, Steps p.tables e below (T2.setTop (mkF m 4 #[.val (.ref o0)] [(.ref w1), (.ref o0)])) t → Steps p.tables e below (s₁.setTop (entryFrame m #[(.ref o0)] 1)) t := fun t kt => pre0 t (by
      show Steps p.tables e below (s₁.setTop (mkF m 0 #[.val (.ref o0)] [])) _
      refine XS.aloadN X0.here hx rfl (hb hby d2_0) rfl rfl ?_
      show Steps p.tables e below (s₁.setTop (mkF m 1 #[.val (.ref o0)] [(.ref o0)])) _
      refine st2 _ ?_
      exact kt)
  by_cases ha4_4 : o0 = w1
  · obtain ⟨fs, hr, hrun, hended, hW, hsame⟩ := X2.leave (v := some (.int (1 : Int32))) (fun h => by rw [Bd.returns] at h; cases h)
    have hv5 : (f2 o0 w1) = (1 : Int32) := by rw [f2, if_pos ha4_4]
    refine ⟨_, _, pre3 _ ?_, hrun, hended, _, _, rfl, ?_, ⟨_, rfl⟩, hW, hsame.mono (by decide) (by decide)⟩
    · show Steps p.tables e below (T2.setTop (mkF m 4 #[.val (.ref o0)] [(.ref w1), (.ref o0)])) _
      refine Jvm.RoadKit.acmp (g := (mkF m 4 #[.val (.ref o0)] [(.ref w1), (.ref o0)])) X2 hx rfl rfl rfl (pc0 := 4) (pc' := 7) (same := true) rfl (hb hby d2_4) rfl (decide_eq_true (congrArg Value.ref ha4_4)) (by decide) (by decide) ?_
      show Steps p.tables e below (T2.setTop (mkF m 7 #[.val (.ref o0)] [])) _
      refine XS.iconst X2.here hx rfl (hb hby d2_7) ?_
      show Steps p.tables e below (T2.setTop (mkF m 8 #[.val (.ref o0)] [(.int (1 : Int32))])) _
      refine XS.goto X2.here hx rfl (pc0 := 8) (pc' := 12) rfl (hb hby d2_8) (by decide) (by decide) ?_
      show Steps p.tables e below (T2.setTop (mkF m 12 #[.val (.ref o0)] [(.int (1 : Int32))])) _
      exact retN X2 hx (t := .boolean) Bd.returns (by simp) (hb hby d2_12) hr
    · show Q2 Z o0 w1 h0 n0 _ T2.heap _
      rw [e2]
      exact ⟨congrArg (fun q => some (Value.int q)) hv5.symm, N0, rfl⟩
  · obtain ⟨fs, hr, hrun, hended, hW, hsame⟩ := X2.leave (v := some (.int (0 : Int32))) (fun h => by rw [Bd.returns] at h; cases h)
    have hv6 : (f2 o0 w1) = (0 : Int32) := by rw [f2, if_neg ha4_4]
    refine ⟨_, _, pre3 _ ?_, hrun, hended, _, _, rfl, ?_, ⟨_, rfl⟩, hW, hsame.mono (by decide) (by decide)⟩
    · show Steps p.tables e below (T2.setTop (mkF m 4 #[.val (.ref o0)] [(.ref w1), (.ref o0)])) _
      refine Jvm.RoadKit.acmp (g := (mkF m 4 #[.val (.ref o0)] [(.ref w1), (.ref o0)])) X2 hx rfl rfl rfl (pc0 := 4) (pc' := 11) (same := false) rfl (hb hby d2_4) rfl (decide_eq_false fun q => ha4_4 (Value.ref.inj q)) (by decide) (by decide) ?_
      show Steps p.tables e below (T2.setTop (mkF m 11 #[.val (.ref o0)] [])) _
      refine XS.iconst X2.here hx rfl (hb hby d2_11) ?_
      show Steps p.tables e below (T2.setTop (mkF m 12 #[.val (.ref o0)] [(.int (0 : Int32))])) _
      exact retN X2 hx (t := .boolean) Bd.returns (by simp) (hb hby d2_12) hr
    · show Q2 Z o0 w1 h0 n0 _ T2.heap _
      rw [e2]
      exact ⟨congrArg (fun q => some (Value.int q)) hv6.symm, N0, rfl⟩
theorem pn_0 : plainName "com/example/indentary/indentary/model/CashDividendFormulaTakesDividendThresholdPinLaw" = true := by first | (simp [plainName, overriddenIn]; done) | decide +kernel
theorem pd_0_0 : parseMethodDescriptor "()Z" = some ⟨[], some .boolean⟩ := by decide +kernel
theorem ef_0 (m : MethodId) (x0 : Int32) : entryFrame m #[(.int x0)] maxLocals = mkF m 0 #[.val (.int x0), .unset, .unset, .unset, .unset] [] := by first | (simp [entryFrame, mkF, argsToLocals, Value.category, maxLocals]; done) | rfl
theorem own_eqi {args : Array Value} {s : State} {t : Term} {k : Int32} (h : (Jvm.Cond.eq t (.int k)).value args s none s [] = some true) : t.eval args s none [] s = some (.int k) := by
  obtain ⟨x, y, h1, h2, h3, h4⟩ := cmp_v (Or.inl h)
  have h2' : some (Value.int k) = some y := h2
  cases h2'
  obtain ⟨z, rfl⟩ := h4
  simp only [Jvm.Cond.value, h1, h2] at h
  simp at h
  rw [h1, h]
def Q0 (Z : State) (p0 : Int32) (c0 : Addr) (c1 : Addr) (c2 : Addr) (c3 : Addr) (h0 : Heap) (n0 : Nat) (v : Option Value) (h : Heap) (L : List Loc) : Prop := v = some (.int (1 : Int32)) ∧ Fr n0 L
set_option maxRecDepth 65536 in
set_option maxHeartbeats 40000000 in
theorem rm0 (l : Launch) (Z : State) (a0 : Array Value) (hw : ∀ d ∈ tables_1, d.before a0 Z = true) (ws : List Jvm.Cond) (p0 : Int32) (c0 : Addr) (c1 : Addr) (c2 : Addr) (c3 : Addr) (h0 : Heap) (n0 : Nat) (Z0 : n0 ≤ h0.size) (S_CASH_BELOW_SP0 : Sta Z h0 "com/example/indentary/indentary/model/RateAdjustmentTerms$CashDividendFormula" "CASH_BELOW_SP0" "Lcom/example/indentary/indentary/model/RateAdjustmentTerms$CashDividendFormula;" (.ref c0)) (S_CASH_WITHOUT_PROVISO : Sta Z h0 "com/example/indentary/indentary/model/RateAdjustmentTerms$CashDividendFormula" "CASH_WITHOUT_PROVISO" "Lcom/example/indentary/indentary/model/RateAdjustmentTerms$CashDividendFormula;" (.ref c1)) (S_CASH_BEYOND_THE_THRESHOLD : Sta Z h0 "com/example/indentary/indentary/model/RateAdjustmentTerms$CashDividendFormula" "CASH_BEYOND_THE_THRESHOLD" "Lcom/example/indentary/indentary/model/RateAdjustmentTerms$CashDividendFormula;" (.ref c2)) (S_CASH_BEYOND_THE_THRESHOLD_AND_A_DOLLAR_BELOW_THE_AVERAGE : Sta Z h0 "com/example/indentary/indentary/model/RateAdjustmentTerms$CashDividendFormula" "CASH_BEYOND_THE_THRESHOLD_AND_A_DOLLAR_BELOW_THE_AVERAGE" "Lcom/example/indentary/indentary/model/RateAdjustmentTerms$CashDividendFormula;" (.ref c3)) (E_c0 : Exa Z h0 c0 "com/example/indentary/indentary/model/RateAdjustmentTerms$CashDividendFormula") (E_c1 : Exa Z h0 c1 "com/example/indentary/indentary/model/RateAdjustmentTerms$CashDividendFormula") (E_c2 : Exa Z h0 c2 "com/example/indentary/indentary/model/RateAdjustmentTerms$CashDividendFormula") (E_c3 : Exa Z h0 c3 "com/example/indentary/indentary/model/RateAdjustmentTerms$CashDividendFormula") (ne_c0_c1 : c0 ≠ c1) (ne_c0_c2 : c0 ≠ c2) (ne_c0_c3 : c0 ≠ c3) (ne_c1_c2 : c1 ≠ c2) (ne_c1_c3 : c1 ≠ c3) (ne_c2_c3 : c2 ≠ c3) :
    MetFree l x (head1 (Jvm.Cond.code x code maxLocals ret :: ws) room_1) (fun a U => a = #[(.int p0)] ∧ Z.Warmed39 U.vm ∧ U.heap = h0) (fun _ _ _ _ _ => True) (fun _ U o U' => ∃ v L, o = .returned v ∧ Q0 Z p0 c0 c1 c2 c3 h0 n0 v U'.heap L ∧ FrameEnd U o U' L room_1.cells room_1.slots) := by
  refine MetFree.of_bodySF (plainFor_of_name pn_0) hisR ?_
  intro p e s m args below meth c s₁ Bd hml0 hP hK
  obtain ⟨rfl, hZ, hh⟩ := hP
  have hx := Bd.exec
  have hby := Bd.bytes
  have hml : c.maxLocals = 5 := hml0
  have hown : s.vm.findClass "com/example/indentary/indentary/model/CashDividendFormulaTakesDividendThresholdPinLaw" = some m.cls := findClass_of_methodNamed Bd.named
  have hnm := (name_of_methodNamed Bd.named Bd.method).1
  have X0 : Stand p l e room_1 s m #[(.int p0)] below meth c s₁ [] 0 0 := Stand.of_body Bd
  have e0 : s₁.heap = h0 := by rw [← hh, Bd.state]; rfl
  have N0 := Fr.nil n0
  have pre0 : ∀ t, Steps p.tables e below (s₁.setTop (mkF m 0 #[.val (.int p0), .unset, .unset, .unset, .unset] [])) t → Steps p.tables e below (s₁.setTop (entryFrame m #[(.int p0)] maxLocals)) t := fun t k => castTop (ef_0 m p0) k
  have pre1 : ∀ t, Steps p.tables e below (s₁.setTop (mkF m 5 #[.val (.int p0), .val (.int (p0 &&& (3 : Int32))), .unset, .unset, .unset] [(.int (p0 &&& (3 : Int32)))])) t → Steps p.tables e below (s₁.setTop (entryFrame m #[(.int p0)] maxLocals)) t := fun t kt => pre0 t (by
      show Steps p.tables e below (s₁.setTop (mkF m 0 #[.val (.int p0), .unset, .unset, .unset, .unset] [])) _
      refine XS.iloadN X0.here hx rfl (hb hby at_0) rfl ?_
      show Steps p.tables e below (s₁.setTop (mkF m 1 #[.val (.int p0), .unset, .unset, .unset, .unset] [(.int p0)])) _
      refine XS.iconst X0.here hx rfl (hb hby at_1) ?_
      show Steps p.tables e below (s₁.setTop (mkF m 2 #[.val (.int p0), .unset, .unset, .unset, .unset] [(.int (3 : Int32)), (.int p0)])) _
      refine XS.iand X0.here hx rfl (hb hby at_2) rfl ?_
      show Steps p.tables e below (s₁.setTop (mkF m 3 #[.val (.int p0), .unset, .unset, .unset, .unset] [(.int (p0 &&& (3 : Int32)))])) _
      refine XS.istoreN X0.here hx rfl (hb hby at_3) rfl (l' := #[.val (.int p0), .val (.int (p0 &&& (3 : Int32))), .unset, .unset, .unset]) rfl ?_
      show Steps p.tables e below (s₁.setTop (mkF m 4 #[.val (.int p0), .val (.int (p0 &&& (3 : Int32))), .unset, .unset, .unset] [])) _
      refine XS.iloadN X0.here hx rfl (hb hby at_4) rfl ?_
      exact kt)
  by_cases hc5_2 : (p0 &&& (3 : Int32)) = (0 : Int32)
  · obtain ⟨T3, X3, e3, st3⟩ := getS2 X0 hx hZ hown (host := "") (Or.inl (hw _ (List.mem_of_getElem? (i := 0) rfl))) Via.refl e0 S_CASH_BELOW_SP0 (g := (mkF m 8 #[.val (.int p0), .val (.int (p0 &&& (3 : Int32))), .unset, .unset, .unset] [])) rfl (hb hby at_8)
    obtain ⟨cq4, kq4, q4a, q4b, q4c⟩ := isOf hZ e3 E_c0
    obtain ⟨_, _, ⟨T4, L4, k4, n4⟩, -, X4, ⟨Lc4, hQ4, l4, y4, z4⟩, st4⟩ := X3.virtualBack hx (y := (⟨"com/example/indentary/indentary/model/RateAdjustmentTerms$CashDividendFormula", "takesDividendThreshold", "()Z"⟩ : MethodName)) (z := (⟨"com/example/indentary/indentary/model/RateAdjustmentTerms$CashDividendFormula", "takesDividendThreshold", "()Z"⟩ : MethodName)) hown (mvT hZ (hw _ (List.mem_of_getElem? (i := 3) rfl))) (mvT hZ (hw _ (List.mem_of_getElem? (i := 4) rfl))) (notFace_of_selects (args := #[]) (mvT hZ (hw _ (List.mem_of_getElem? (i := 6) rfl)))) (mvT hZ (hw _ (List.mem_of_getElem? (i := 6) rfl))) (mvT hZ (hw _ (List.mem_of_getElem? (i := 5) rfl))) (by decide) (backOf (W := 0) (rm1 l Z a0 hw [] c0 c2 c3 h0 n0 Z0 S_CASH_BEYOND_THE_THRESHOLD S_CASH_BEYOND_THE_THRESHOLD_AND_A_DOLLAR_BELOW_THE_AVERAGE) hZ (hw _ (List.mem_of_getElem? (i := 7) rfl)) (hw _ (List.mem_of_getElem? (i := 1) rfl)) (by decide) (by decide)) q4a q4c (g := (mkF m 52 #[.val (.int p0), .val (.int (p0 &&& (3 : Int32))), .val (.ref c0), .val (.int (0 : Int32)), .unset] [(.ref c0)])) rfl (by rw [hml]; rfl) (Steps.refl _) (argsL := []) (rest := []) (lenOf pd_0_0 rfl) rfl (by show 2 * 0 + _ ≤ _; exact Nat.le_of_eq rfl) (hb hby at_52) (fun _ _ => ⟨rfl, e3, (by decide : 0 + 0 ≤ _), (by decide : 0 + 0 ≤ _)⟩)
    dsimp only [Pt.U, Pt.locs, Pt.cells, Pt.slots] at X4 l4 y4 z4 st4 hQ4
    subst l4 y4 z4
    obtain ⟨rfl, N4q, e4q⟩ := hQ4
    have N4 := Fr.app N0 N4q
    have pre5 : ∀ t, Steps p.tables e below (T4.setTop (mkF m 60 #[.val (.int p0), .val (.int (p0 &&& (3 : Int32))), .val (.ref c0), .val (.int (0 : Int32)), .val (.int (f1 c0 c2 c3))] [(.int (0 : Int32)), (.int (f1 c0 c2 c3))])) t → Steps p.tables e below (s₁.setTop (entryFrame m #[(.int p0)] maxLocals)) t := fun t kt => pre1 t (by
        show Steps p.tables e below (s₁.setTop (mkF m 5 #[.val (.int p0), .val (.int (p0 &&& (3 : Int32))), .unset, .unset, .unset] [(.int (p0 &&& (3 : Int32)))])) _
        refine XS.ifNo X0.here hx rfl (hb hby at_5) rfl ((if0 _ _).trans (teq hc5_2).2) ?_
        show Steps p.tables e below (s₁.setTop (mkF m 8 #[.val (.int p0), .val (.int (p0 &&& (3 : Int32))), .unset, .unset, .unset] [])) _
        refine st3 _ ?_
        show Steps p.tables e below (T3.setTop (mkF m 11 #[.val (.int p0), .val (.int (p0 &&& (3 : Int32))), .unset, .unset, .unset] [(.ref c0)])) _
        refine XS.astoreN X3.here hx rfl (hb hby at_11) rfl rfl (l' := #[.val (.int p0), .val (.int (p0 &&& (3 : Int32))), .val (.ref c0), .unset, .unset]) rfl ?_
        show Steps p.tables e below (T3.setTop (mkF m 12 #[.val (.int p0), .val (.int (p0 &&& (3 : Int32))), .val (.ref c0), .unset, .unset] [])) _
        refine XS.iconst X3.here hx rfl (hb hby at_12) ?_
        show Steps p.tables e below (T3.setTop (mkF m 13 #[.val (.int p0), .val (.int (p0 &&& (3 : Int32))), .val (.ref c0), .unset, .unset] [(.int (0 : Int32))])) _
        refine XS.istoreN X3.here hx rfl (hb hby at_13) rfl (l' := #[.val (.int p0), .val (.int (p0 &&& (3 : Int32))), .val (.ref c0), .val (.int (0 : Int32)), .unset]) rfl ?_
        show Steps p.tables e below (T3.setTop (mkF m 14 #[.val (.int p0), .val (.int (p0 &&& (3 : Int32))), .val (.ref c0), .val (.int (0 : Int32)), .unset] [])) _
        refine XS.goto X3.here hx rfl (pc0 := 14) (pc' := 51) rfl (hb hby at_14) (by decide) (by decide) ?_
        show Steps p.tables e below (T3.setTop (mkF m 51 #[.val (.int p0), .val (.int (p0 &&& (3 : Int32))), .val (.ref c0), .val (.int (0 : Int32)), .unset] [])) _
        refine XS.aloadN X3.here hx rfl (hb hby at_51) rfl rfl ?_
        show Steps p.tables e below (T3.setTop (mkF m 52 #[.val (.int p0), .val (.int (p0 &&& (3 : Int32))), .val (.ref c0), .val (.int (0 : Int32)), .unset] [(.ref c0)])) _
        refine st4.trans ?_
        show Steps p.tables e below (T4.setTop (mkF m 55 #[.val (.int p0), .val (.int (p0 &&& (3 : Int32))), .val (.ref c0), .val (.int (0 : Int32)), .unset] [(.int (f1 c0 c2 c3))])) _
        refine XS.istore X4.here hx rfl (hb hby at_55) rfl (l' := #[.val (.int p0), .val (.int (p0 &&& (3 : Int32))), .val (.ref c0), .val (.int (0 : Int32)), .val (.int (f1 c0 c2 c3))]) rfl ?_
        show Steps p.tables e below (T4.setTop (mkF m 57 #[.val (.int p0), .val (.int (p0 &&& (3 : Int32))), .val (.ref c0), .val (.int (0 : Int32)), .val (.int (f1 c0 c2 c3))] [])) _
        refine XS.iload X4.here hx rfl (hb hby at_57) rfl ?_
        show Steps p.tables e below (T4.setTop (mkF m 59 #[.val (.int p0), .val (.int (p0 &&& (3 : Int32))), .val (.ref c0), .val (.int (0 : Int32)), .val (.int (f1 c0 c2 c3))] [(.int (f1 c0 c2 c3))])) _
        refine XS.iloadN X4.here hx rfl (hb hby at_59) rfl ?_
        exact kt)
    have hd60_6 : (f1 c0 c2 c3) = (0 : Int32) := by rw [f1, if_neg ne_c0_c2, if_neg ne_c0_c3]
    obtain ⟨cq7, kq7, q7a, q7b, q7c⟩ := isOf hZ e4q E_c0
    obtain ⟨_, _, ⟨T7, L7, k7, n7⟩, -, X7, ⟨Lc7, hQ7, l7, y7, z7⟩, st7⟩ := X4.virtualBack hx (y := (⟨"com/example/indentary/indentary/model/RateAdjustmentTerms$CashDividendFormula", "comparesWithTheAverage", "()Z"⟩ : MethodName)) (z := (⟨"com/example/indentary/indentary/model/RateAdjustmentTerms$CashDividendFormula", "comparesWithTheAverage", "()Z"⟩ : MethodName)) hown (mvT hZ (hw _ (List.mem_of_getElem? (i := 12) rfl))) (mvT hZ (hw _ (List.mem_of_getElem? (i := 13) rfl))) (notFace_of_selects (args := #[]) (mvT hZ (hw _ (List.mem_of_getElem? (i := 15) rfl)))) (mvT hZ (hw _ (List.mem_of_getElem? (i := 15) rfl))) (mvT hZ (hw _ (List.mem_of_getElem? (i := 14) rfl))) (by decide) (backOf (W := 0) (rm2 l Z a0 hw [] c0 c3 h0 n0 Z0 S_CASH_BEYOND_THE_THRESHOLD_AND_A_DOLLAR_BELOW_THE_AVERAGE) hZ (hw _ (List.mem_of_getElem? (i := 16) rfl)) (hw _ (List.mem_of_getElem? (i := 1) rfl)) (by decide) (by decide)) q7a q7c (g := (mkF m 64 #[.val (.int p0), .val (.int (p0 &&& (3 : Int32))), .val (.ref c0), .val (.int (0 : Int32)), .val (.int (f1 c0 c2 c3))] [(.ref c0)])) rfl (by rw [hml]; rfl) (Steps.refl _) (argsL := []) (rest := []) (lenOf pd_0_0 rfl) rfl (by show 2 * 0 + _ ≤ _; exact Nat.le_of_eq rfl) (hb hby at_64) (fun _ _ => ⟨rfl, e4q, (by decide : 0 + 0 ≤ _), (by decide : 0 + 0 ≤ _)⟩)
    dsimp only [Pt.U, Pt.locs, Pt.cells, Pt.slots] at X7 l7 y7 z7 st7 hQ7
    subst l7 y7 z7
    obtain ⟨rfl, N7q, e7q⟩ := hQ7
    have N7 := Fr.app N4 N7q
    have pre8 : ∀ t, Steps p.tables e below (T7.setTop (mkF m 67 #[.val (.int p0), .val (.int (p0 &&& (3 : Int32))), .val (.ref c0), .val (.int (0 : Int32)), .val (.int (f1 c0 c2 c3))] [(.int (f2 c0 c3))])) t → Steps p.tables e below (s₁.setTop (entryFrame m #[(.int p0)] maxLocals)) t := fun t kt => pre5 t (by
        show Steps p.tables e below (T4.setTop (mkF m 60 #[.val (.int p0), .val (.int (p0 &&& (3 : Int32))), .val (.ref c0), .val (.int (0 : Int32)), .val (.int (f1 c0 c2 c3))] [(.int (0 : Int32)), (.int (f1 c0 c2 c3))])) _
        refine XS.icmpNo X4.here hx rfl (hb hby at_60) rfl (teq hd60_6).2 ?_
        show Steps p.tables e below (T4.setTop (mkF m 63 #[.val (.int p0), .val (.int (p0 &&& (3 : Int32))), .val (.ref c0), .val (.int (0 : Int32)), .val (.int (f1 c0 c2 c3))] [])) _
        refine XS.aloadN X4.here hx rfl (hb hby at_63) rfl rfl ?_
        show Steps p.tables e below (T4.setTop (mkF m 64 #[.val (.int p0), .val (.int (p0 &&& (3 : Int32))), .val (.ref c0), .val (.int (0 : Int32)), .val (.int (f1 c0 c2 c3))] [(.ref c0)])) _
        refine st7.trans ?_
        exact kt)
    have hd67_9 : (f2 c0 c3) = (0 : Int32) := by rw [f2, if_neg ne_c0_c3]
    obtain ⟨fs, hr, hrun, hended, hW, hsame⟩ := X7.leave (v := some (.int (1 : Int32))) (fun h => by rw [Bd.returns] at h; cases h)
    have hv37 : (1 : Int32) = (1 : Int32) := rfl
    refine ⟨_, _, pre8 _ ?_, hrun, hended, _, _, rfl, ?_, ⟨_, rfl⟩, hW, hsame.mono (by decide) (by decide)⟩
    · show Steps p.tables e below (T7.setTop (mkF m 67 #[.val (.int p0), .val (.int (p0 &&& (3 : Int32))), .val (.ref c0), .val (.int (0 : Int32)), .val (.int (f1 c0 c2 c3))] [(.int (f2 c0 c3))])) _
      refine XS.ifYes X7.here hx rfl (pc0 := 67) (pc' := 75) rfl (hb hby at_67) rfl ((if0 _ _).trans (teq hd67_9).1) (by decide) (by decide) ?_
      show Steps p.tables e below (T7.setTop (mkF m 75 #[.val (.int p0), .val (.int (p0 &&& (3 : Int32))), .val (.ref c0), .val (.int (0 : Int32)), .val (.int (f1 c0 c2 c3))] [])) _
      refine XS.iconst X7.here hx rfl (hb hby at_75) ?_
      show Steps p.tables e below (T7.setTop (mkF m 76 #[.val (.int p0), .val (.int (p0 &&& (3 : Int32))), .val (.ref c0), .val (.int (0 : Int32)), .val (.int (f1 c0 c2 c3))] [(.int (1 : Int32))])) _
      refine XS.goto X7.here hx rfl (pc0 := 76) (pc' := 80) rfl (hb hby at_76) (by decide) (by decide) ?_
      show Steps p.tables e below (T7.setTop (mkF m 80 #[.val (.int p0), .val (.int (p0 &&& (3 : Int32))), .val (.ref c0), .val (.int (0 : Int32)), .val (.int (f1 c0 c2 c3))] [(.int (1 : Int32))])) _
      exact retN X7 hx (t := .boolean) Bd.returns (by simp) (hb hby at_80) hr
    · show Q0 Z p0 c0 c1 c2 c3 h0 n0 _ T7.heap _
      rw [e7q]
      exact ⟨congrArg (fun q => some (Value.int q)) hv37, N7⟩
  · have pre10 : ∀ t, Steps p.tables e below (s₁.setTop (mkF m 19 #[.val (.int p0), .val (.int (p0 &&& (3 : Int32))), .unset, .unset, .unset] [(.int (1 : Int32)), (.int (p0 &&& (3 : Int32)))])) t → Steps p.tables e below (s₁.setTop (entryFrame m #[(.int p0)] maxLocals)) t := fun t kt => pre1 t (by
        show Steps p.tables e below (s₁.setTop (mkF m 5 #[.val (.int p0), .val (.int (p0 &&& (3 : Int32))), .unset, .unset, .unset] [(.int (p0 &&& (3 : Int32)))])) _
        refine XS.ifYes X0.here hx rfl (pc0 := 5) (pc' := 17) rfl (hb hby at_5) rfl ((if0 _ _).trans (feq hc5_2).2) (by decide) (by decide) ?_
        show Steps p.tables e below (s₁.setTop (mkF m 17 #[.val (.int p0), .val (.int (p0 &&& (3 : Int32))), .unset, .unset, .unset] [])) _
        refine XS.iloadN X0.here hx rfl (hb hby at_17) rfl ?_
        show Steps p.tables e below (s₁.setTop (mkF m 18 #[.val (.int p0), .val (.int (p0 &&& (3 : Int32))), .unset, .unset, .unset] [(.int (p0 &&& (3 : Int32)))])) _
        refine XS.iconst X0.here hx rfl (hb hby at_18) ?_
        exact kt)
    by_cases hc19_11 : (p0 &&& (3 : Int32)) = (1 : Int32)
    · obtain ⟨T12, X12, e12, st12⟩ := getS2 X0 hx hZ hown (host := "") (Or.inl (hw _ (List.mem_of_getElem? (i := 19) rfl))) Via.refl e0 S_CASH_WITHOUT_PROVISO (g := (mkF m 22 #[.val (.int p0), .val (.int (p0 &&& (3 : Int32))), .unset, .unset, .unset] [])) rfl (hb hby at_22)
      obtain ⟨cq13, kq13, q13a, q13b, q13c⟩ := isOf hZ e12 E_c1
      obtain ⟨_, _, ⟨T13, L13, k13, n13⟩, -, X13, ⟨Lc13, hQ13, l13, y13, z13⟩, st13⟩ := X12.virtualBack hx (y := (⟨"com/example/indentary/indentary/model/RateAdjustmentTerms$CashDividendFormula", "takesDividendThreshold", "()Z"⟩ : MethodName)) (z := (⟨"com/example/indentary/indentary/model/RateAdjustmentTerms$CashDividendFormula", "takesDividendThreshold", "()Z"⟩ : MethodName)) hown (mvT hZ (hw _ (List.mem_of_getElem? (i := 3) rfl))) (mvT hZ (hw _ (List.mem_of_getElem? (i := 4) rfl))) (notFace_of_selects (args := #[]) (mvT hZ (hw _ (List.mem_of_getElem? (i := 6) rfl)))) (mvT hZ (hw _ (List.mem_of_getElem? (i := 6) rfl))) (mvT hZ (hw _ (List.mem_of_getElem? (i := 5) rfl))) (by decide) (backOf (W := 0) (rm1 l Z a0 hw [] c1 c2 c3 h0 n0 Z0 S_CASH_BEYOND_THE_THRESHOLD S_CASH_BEYOND_THE_THRESHOLD_AND_A_DOLLAR_BELOW_THE_AVERAGE) hZ (hw _ (List.mem_of_getElem? (i := 7) rfl)) (hw _ (List.mem_of_getElem? (i := 1) rfl)) (by decide) (by decide)) q13a q13c (g := (mkF m 52 #[.val (.int p0), .val (.int (p0 &&& (3 : Int32))), .val (.ref c1), .val (.int (0 : Int32)), .unset] [(.ref c1)])) rfl (by rw [hml]; rfl) (Steps.refl _) (argsL := []) (rest := []) (lenOf pd_0_0 rfl) rfl (by show 2 * 0 + _ ≤ _; exact Nat.le_of_eq rfl) (hb hby at_52) (fun _ _ => ⟨rfl, e12, (by decide : 0 + 0 ≤ _), (by decide : 0 + 0 ≤ _)⟩)
      dsimp only [Pt.U, Pt.locs, Pt.cells, Pt.slots] at X13 l13 y13 z13 st13 hQ13
      subst l13 y13 z13
      obtain ⟨rfl, N13q, e13q⟩ := hQ13
      have N13 := Fr.app N0 N13q
      have pre14 : ∀ t, Steps p.tables e below (T13.setTop (mkF m 60 #[.val (.int p0), .val (.int (p0 &&& (3 : Int32))), .val (.ref c1), .val (.int (0 : Int32)), .val (.int (f1 c1 c2 c3))] [(.int (0 : Int32)), (.int (f1 c1 c2 c3))])) t → Steps p.tables e below (s₁.setTop (entryFrame m #[(.int p0)] maxLocals)) t := fun t kt => pre10 t (by
          show Steps p.tables e below (s₁.setTop (mkF m 19 #[.val (.int p0), .val (.int (p0 &&& (3 : Int32))), .unset, .unset, .unset] [(.int (1 : Int32)), (.int (p0 &&& (3 : Int32)))])) _
          refine XS.icmpNo X0.here hx rfl (hb hby at_19) rfl (teq hc19_11).2 ?_
          show Steps p.tables e below (s₁.setTop (mkF m 22 #[.val (.int p0), .val (.int (p0 &&& (3 : Int32))), .unset, .unset, .unset] [])) _
          refine st12 _ ?_
          show Steps p.tables e below (T12.setTop (mkF m 25 #[.val (.int p0), .val (.int (p0 &&& (3 : Int32))), .unset, .unset, .unset] [(.ref c1)])) _
          refine XS.astoreN X12.here hx rfl (hb hby at_25) rfl rfl (l' := #[.val (.int p0), .val (.int (p0 &&& (3 : Int32))), .val (.ref c1), .unset, .unset]) rfl ?_
          show Steps p.tables e below (T12.setTop (mkF m 26 #[.val (.int p0), .val (.int (p0 &&& (3 : Int32))), .val (.ref c1), .unset, .unset] [])) _
          refine XS.iconst X12.here hx rfl (hb hby at_26) ?_
          show Steps p.tables e below (T12.setTop (mkF m 27 #[.val (.int p0), .val (.int (p0 &&& (3 : Int32))), .val (.ref c1), .unset, .unset] [(.int (0 : Int32))])) _
          refine XS.istoreN X12.here hx rfl (hb hby at_27) rfl (l' := #[.val (.int p0), .val (.int (p0 &&& (3 : Int32))), .val (.ref c1), .val (.int (0 : Int32)), .unset]) rfl ?_
          show Steps p.tables e below (T12.setTop (mkF m 28 #[.val (.int p0), .val (.int (p0 &&& (3 : Int32))), .val (.ref c1), .val (.int (0 : Int32)), .unset] [])) _
          refine XS.goto X12.here hx rfl (pc0 := 28) (pc' := 51) rfl (hb hby at_28) (by decide) (by decide) ?_
          show Steps p.tables e below (T12.setTop (mkF m 51 #[.val (.int p0), .val (.int (p0 &&& (3 : Int32))), .val (.ref c1), .val (.int (0 : Int32)), .unset] [])) _
          refine XS.aloadN X12.here hx rfl (hb hby at_51) rfl rfl ?_
          show Steps p.tables e below (T12.setTop (mkF m 52 #[.val (.int p0), .val (.int (p0 &&& (3 : Int32))), .val (.ref c1), .val (.int (0 : Int32)), .unset] [(.ref c1)])) _
          refine st13.trans ?_
          show Steps p.tables e below (T13.setTop (mkF m 55 #[.val (.int p0), .val (.int (p0 &&& (3 : Int32))), .val (.ref c1), .val (.int (0 : Int32)), .unset] [(.int (f1 c1 c2 c3))])) _
          refine XS.istore X13.here hx rfl (hb hby at_55) rfl (l' := #[.val (.int p0), .val (.int (p0 &&& (3 : Int32))), .val (.ref c1), .val (.int (0 : Int32)), .val (.int (f1 c1 c2 c3))]) rfl ?_
          show Steps p.tables e below (T13.setTop (mkF m 57 #[.val (.int p0), .val (.int (p0 &&& (3 : Int32))), .val (.ref c1), .val (.int (0 : Int32)), .val (.int (f1 c1 c2 c3))] [])) _
          refine XS.iload X13.here hx rfl (hb hby at_57) rfl ?_
          show Steps p.tables e below (T13.setTop (mkF m 59 #[.val (.int p0), .val (.int (p0 &&& (3 : Int32))), .val (.ref c1), .val (.int (0 : Int32)), .val (.int (f1 c1 c2 c3))] [(.int (f1 c1 c2 c3))])) _
          refine XS.iloadN X13.here hx rfl (hb hby at_59) rfl ?_
          exact kt)
      have hd60_15 : (f1 c1 c2 c3) = (0 : Int32) := by rw [f1, if_neg ne_c1_c2, if_neg ne_c1_c3]
      obtain ⟨cq16, kq16, q16a, q16b, q16c⟩ := isOf hZ e13q E_c1
      obtain ⟨_, _, ⟨T16, L16, k16, n16⟩, -, X16, ⟨Lc16, hQ16, l16, y16, z16⟩, st16⟩ := X13.virtualBack hx (y := (⟨"com/example/indentary/indentary/model/RateAdjustmentTerms$CashDividendFormula", "comparesWithTheAverage", "()Z"⟩ : MethodName)) (z := (⟨"com/example/indentary/indentary/model/RateAdjustmentTerms$CashDividendFormula", "comparesWithTheAverage", "()Z"⟩ : MethodName)) hown (mvT hZ (hw _ (List.mem_of_getElem? (i := 12) rfl))) (mvT hZ (hw _ (List.mem_of_getElem? (i := 13) rfl))) (notFace_of_selects (args := #[]) (mvT hZ (hw _ (List.mem_of_getElem? (i := 15) rfl)))) (mvT hZ (hw _ (List.mem_of_getElem? (i := 15) rfl))) (mvT hZ (hw _ (List.mem_of_getElem? (i := 14) rfl))) (by decide) (backOf (W := 0) (rm2 l Z a0 hw [] c1 c3 h0 n0 Z0 S_CASH_BEYOND_THE_THRESHOLD_AND_A_DOLLAR_BELOW_THE_AVERAGE) hZ (hw _ (List.mem_of_getElem? (i := 16) rfl)) (hw _ (List.mem_of_getElem? (i := 1) rfl)) (by decide) (by decide)) q16a q16c (g := (mkF m 64 #[.val (.int p0), .val (.int (p0 &&& (3 : Int32))), .val (.ref c1), .val (.int (0 : Int32)), .val (.int (f1 c1 c2 c3))] [(.ref c1)])) rfl (by rw [hml]; rfl) (Steps.refl _) (argsL := []) (rest := []) (lenOf pd_0_0 rfl) rfl (by show 2 * 0 + _ ≤ _; exact Nat.le_of_eq rfl) (hb hby at_64) (fun _ _ => ⟨rfl, e13q, (by decide : 0 + 0 ≤ _), (by decide : 0 + 0 ≤ _)⟩)
      dsimp only [Pt.U, Pt.locs, Pt.cells, Pt.slots] at X16 l16 y16 z16 st16 hQ16
      subst l16 y16 z16
      obtain ⟨rfl, N16q, e16q⟩ := hQ16
      have N16 := Fr.app N13 N16q
      have pre17 : ∀ t, Steps p.tables e below (T16.setTop (mkF m 67 #[.val (.int p0), .val (.int (p0 &&& (3 : Int32))), .val (.ref c1), .val (.int (0 : Int32)), .val (.int (f1 c1 c2 c3))] [(.int (f2 c1 c3))])) t → Steps p.tables e below (s₁.setTop (entryFrame m #[(.int p0)] maxLocals)) t := fun t kt => pre14 t (by
          show Steps p.tables e below (T13.setTop (mkF m 60 #[.val (.int p0), .val (.int (p0 &&& (3 : Int32))), .val (.ref c1), .val (.int (0 : Int32)), .val (.int (f1 c1 c2 c3))] [(.int (0 : Int32)), (.int (f1 c1 c2 c3))])) _
          refine XS.icmpNo X13.here hx rfl (hb hby at_60) rfl (teq hd60_15).2 ?_
          show Steps p.tables e below (T13.setTop (mkF m 63 #[.val (.int p0), .val (.int (p0 &&& (3 : Int32))), .val (.ref c1), .val (.int (0 : Int32)), .val (.int (f1 c1 c2 c3))] [])) _
          refine XS.aloadN X13.here hx rfl (hb hby at_63) rfl rfl ?_
          show Steps p.tables e below (T13.setTop (mkF m 64 #[.val (.int p0), .val (.int (p0 &&& (3 : Int32))), .val (.ref c1), .val (.int (0 : Int32)), .val (.int (f1 c1 c2 c3))] [(.ref c1)])) _
          refine st16.trans ?_
          exact kt)
      have hd67_18 : (f2 c1 c3) = (0 : Int32) := by rw [f2, if_neg ne_c1_c3]
      obtain ⟨fs, hr, hrun, hended, hW, hsame⟩ := X16.leave (v := some (.int (1 : Int32))) (fun h => by rw [Bd.returns] at h; cases h)
      have hv38 : (1 : Int32) = (1 : Int32) := rfl
      refine ⟨_, _, pre17 _ ?_, hrun, hended, _, _, rfl, ?_, ⟨_, rfl⟩, hW, hsame.mono (by decide) (by decide)⟩
      · show Steps p.tables e below (T16.setTop (mkF m 67 #[.val (.int p0), .val (.int (p0 &&& (3 : Int32))), .val (.ref c1), .val (.int (0 : Int32)), .val (.int (f1 c1 c2 c3))] [(.int (f2 c1 c3))])) _
        refine XS.ifYes X16.here hx rfl (pc0 := 67) (pc' := 75) rfl (hb hby at_67) rfl ((if0 _ _).trans (teq hd67_18).1) (by decide) (by decide) ?_
        show Steps p.tables e below (T16.setTop (mkF m 75 #[.val (.int p0), .val (.int (p0 &&& (3 : Int32))), .val (.ref c1), .val (.int (0 : Int32)), .val (.int (f1 c1 c2 c3))] [])) _
        refine XS.iconst X16.here hx rfl (hb hby at_75) ?_
        show Steps p.tables e below (T16.setTop (mkF m 76 #[.val (.int p0), .val (.int (p0 &&& (3 : Int32))), .val (.ref c1), .val (.int (0 : Int32)), .val (.int (f1 c1 c2 c3))] [(.int (1 : Int32))])) _
        refine XS.goto X16.here hx rfl (pc0 := 76) (pc' := 80) rfl (hb hby at_76) (by decide) (by decide) ?_
        show Steps p.tables e below (T16.setTop (mkF m 80 #[.val (.int p0), .val (.int (p0 &&& (3 : Int32))), .val (.ref c1), .val (.int (0 : Int32)), .val (.int (f1 c1 c2 c3))] [(.int (1 : Int32))])) _
        exact retN X16 hx (t := .boolean) Bd.returns (by simp) (hb hby at_80) hr
      · show Q0 Z p0 c0 c1 c2 c3 h0 n0 _ T16.heap _
        rw [e16q]
        exact ⟨congrArg (fun q => some (Value.int q)) hv38, N16⟩
    · have pre19 : ∀ t, Steps p.tables e below (s₁.setTop (mkF m 33 #[.val (.int p0), .val (.int (p0 &&& (3 : Int32))), .unset, .unset, .unset] [(.int (2 : Int32)), (.int (p0 &&& (3 : Int32)))])) t → Steps p.tables e below (s₁.setTop (entryFrame m #[(.int p0)] maxLocals)) t := fun t kt => pre10 t (by
          show Steps p.tables e below (s₁.setTop (mkF m 19 #[.val (.int p0), .val (.int (p0 &&& (3 : Int32))), .unset, .unset, .unset] [(.int (1 : Int32)), (.int (p0 &&& (3 : Int32)))])) _
          refine XS.icmpYes X0.here hx rfl (pc0 := 19) (pc' := 31) rfl (hb hby at_19) rfl (feq hc19_11).2 (by decide) (by decide) ?_
          show Steps p.tables e below (s₁.setTop (mkF m 31 #[.val (.int p0), .val (.int (p0 &&& (3 : Int32))), .unset, .unset, .unset] [])) _
          refine XS.iloadN X0.here hx rfl (hb hby at_31) rfl ?_
          show Steps p.tables e below (s₁.setTop (mkF m 32 #[.val (.int p0), .val (.int (p0 &&& (3 : Int32))), .unset, .unset, .unset] [(.int (p0 &&& (3 : Int32)))])) _
          refine XS.iconst X0.here hx rfl (hb hby at_32) ?_
          exact kt)
      by_cases hc33_20 : (p0 &&& (3 : Int32)) = (2 : Int32)
      · obtain ⟨T21, X21, e21, st21⟩ := getS2 X0 hx hZ hown (host := "") (Or.inl (hw _ (List.mem_of_getElem? (i := 18) rfl))) Via.refl e0 S_CASH_BEYOND_THE_THRESHOLD (g := (mkF m 36 #[.val (.int p0), .val (.int (p0 &&& (3 : Int32))), .unset, .unset, .unset] [])) rfl (hb hby at_36)
        obtain ⟨cq22, kq22, q22a, q22b, q22c⟩ := isOf hZ e21 E_c2
        obtain ⟨_, _, ⟨T22, L22, k22, n22⟩, -, X22, ⟨Lc22, hQ22, l22, y22, z22⟩, st22⟩ := X21.virtualBack hx (y := (⟨"com/example/indentary/indentary/model/RateAdjustmentTerms$CashDividendFormula", "takesDividendThreshold", "()Z"⟩ : MethodName)) (z := (⟨"com/example/indentary/indentary/model/RateAdjustmentTerms$CashDividendFormula", "takesDividendThreshold", "()Z"⟩ : MethodName)) hown (mvT hZ (hw _ (List.mem_of_getElem? (i := 3) rfl))) (mvT hZ (hw _ (List.mem_of_getElem? (i := 4) rfl))) (notFace_of_selects (args := #[]) (mvT hZ (hw _ (List.mem_of_getElem? (i := 6) rfl)))) (mvT hZ (hw _ (List.mem_of_getElem? (i := 6) rfl))) (mvT hZ (hw _ (List.mem_of_getElem? (i := 5) rfl))) (by decide) (backOf (W := 0) (rm1 l Z a0 hw [] c2 c2 c3 h0 n0 Z0 S_CASH_BEYOND_THE_THRESHOLD S_CASH_BEYOND_THE_THRESHOLD_AND_A_DOLLAR_BELOW_THE_AVERAGE) hZ (hw _ (List.mem_of_getElem? (i := 7) rfl)) (hw _ (List.mem_of_getElem? (i := 1) rfl)) (by decide) (by decide)) q22a q22c (g := (mkF m 52 #[.val (.int p0), .val (.int (p0 &&& (3 : Int32))), .val (.ref c2), .val (.int (1 : Int32)), .unset] [(.ref c2)])) rfl (by rw [hml]; rfl) (Steps.refl _) (argsL := []) (rest := []) (lenOf pd_0_0 rfl) rfl (by show 2 * 0 + _ ≤ _; exact Nat.le_of_eq rfl) (hb hby at_52) (fun _ _ => ⟨rfl, e21, (by decide : 0 + 0 ≤ _), (by decide : 0 + 0 ≤ _)⟩)
        dsimp only [Pt.U, Pt.locs, Pt.cells, Pt.slots] at X22 l22 y22 z22 st22 hQ22
        subst l22 y22 z22
        obtain ⟨rfl, N22q, e22q⟩ := hQ22
        have N22 := Fr.app N0 N22q
        have pre23 : ∀ t, Steps p.tables e below (T22.setTop (mkF m 60 #[.val (.int p0), .val (.int (p0 &&& (3 : Int32))), .val (.ref c2), .val (.int (1 : Int32)), .val (.int (f1 c2 c2 c3))] [(.int (1 : Int32)), (.int (f1 c2 c2 c3))])) t → Steps p.tables e below (s₁.setTop (entryFrame m #[(.int p0)] maxLocals)) t := fun t kt => pre19 t (by
            show Steps p.tables e below (s₁.setTop (mkF m 33 #[.val (.int p0), .val (.int (p0 &&& (3 : Int32))), .unset, .unset, .unset] [(.int (2 : Int32)), (.int (p0 &&& (3 : Int32)))])) _
            refine XS.icmpNo X0.here hx rfl (hb hby at_33) rfl (teq hc33_20).2 ?_
            show Steps p.tables e below (s₁.setTop (mkF m 36 #[.val (.int p0), .val (.int (p0 &&& (3 : Int32))), .unset, .unset, .unset] [])) _
            refine st21 _ ?_
            show Steps p.tables e below (T21.setTop (mkF m 39 #[.val (.int p0), .val (.int (p0 &&& (3 : Int32))), .unset, .unset, .unset] [(.ref c2)])) _
            refine XS.astoreN X21.here hx rfl (hb hby at_39) rfl rfl (l' := #[.val (.int p0), .val (.int (p0 &&& (3 : Int32))), .val (.ref c2), .unset, .unset]) rfl ?_
            show Steps p.tables e below (T21.setTop (mkF m 40 #[.val (.int p0), .val (.int (p0 &&& (3 : Int32))), .val (.ref c2), .unset, .unset] [])) _
            refine XS.iconst X21.here hx rfl (hb hby at_40) ?_
            show Steps p.tables e below (T21.setTop (mkF m 41 #[.val (.int p0), .val (.int (p0 &&& (3 : Int32))), .val (.ref c2), .unset, .unset] [(.int (1 : Int32))])) _
            refine XS.istoreN X21.here hx rfl (hb hby at_41) rfl (l' := #[.val (.int p0), .val (.int (p0 &&& (3 : Int32))), .val (.ref c2), .val (.int (1 : Int32)), .unset]) rfl ?_
            show Steps p.tables e below (T21.setTop (mkF m 42 #[.val (.int p0), .val (.int (p0 &&& (3 : Int32))), .val (.ref c2), .val (.int (1 : Int32)), .unset] [])) _
            refine XS.goto X21.here hx rfl (pc0 := 42) (pc' := 51) rfl (hb hby at_42) (by decide) (by decide) ?_
            show Steps p.tables e below (T21.setTop (mkF m 51 #[.val (.int p0), .val (.int (p0 &&& (3 : Int32))), .val (.ref c2), .val (.int (1 : Int32)), .unset] [])) _
            refine XS.aloadN X21.here hx rfl (hb hby at_51) rfl rfl ?_
            show Steps p.tables e below (T21.setTop (mkF m 52 #[.val (.int p0), .val (.int (p0 &&& (3 : Int32))), .val (.ref c2), .val (.int (1 : Int32)), .unset] [(.ref c2)])) _
            refine st22.trans ?_
            show Steps p.tables e below (T22.setTop (mkF m 55 #[.val (.int p0), .val (.int (p0 &&& (3 : Int32))), .val (.ref c2), .val (.int (1 : Int32)), .unset] [(.int (f1 c2 c2 c3))])) _
            refine XS.istore X22.here hx rfl (hb hby at_55) rfl (l' := #[.val (.int p0), .val (.int (p0 &&& (3 : Int32))), .val (.ref c2), .val (.int (1 : Int32)), .val (.int (f1 c2 c2 c3))]) rfl ?_
            show Steps p.tables e below (T22.setTop (mkF m 57 #[.val (.int p0), .val (.int (p0 &&& (3 : Int32))), .val (.ref c2), .val (.int (1 : Int32)), .val (.int (f1 c2 c2 c3))] [])) _
            refine XS.iload X22.here hx rfl (hb hby at_57) rfl ?_
            show Steps p.tables e below (T22.setTop (mkF m 59 #[.val (.int p0), .val (.int (p0 &&& (3 : Int32))), .val (.ref c2), .val (.int (1 : Int32)), .val (.int (f1 c2 c2 c3))] [(.int (f1 c2 c2 c3))])) _
            refine XS.iloadN X22.here hx rfl (hb hby at_59) rfl ?_
            exact kt)
        have hd60_24 : (f1 c2 c2 c3) = (1 : Int32) := by rw [f1, if_pos rfl]
        obtain ⟨cq25, kq25, q25a, q25b, q25c⟩ := isOf hZ e22q E_c2
        obtain ⟨_, _, ⟨T25, L25, k25, n25⟩, -, X25, ⟨Lc25, hQ25, l25, y25, z25⟩, st25⟩ := X22.virtualBack hx (y := (⟨"com/example/indentary/indentary/model/RateAdjustmentTerms$CashDividendFormula", "comparesWithTheAverage", "()Z"⟩ : MethodName)) (z := (⟨"com/example/indentary/indentary/model/RateAdjustmentTerms$CashDividendFormula", "comparesWithTheAverage", "()Z"⟩ : MethodName)) hown (mvT hZ (hw _ (List.mem_of_getElem? (i := 12) rfl))) (mvT hZ (hw _ (List.mem_of_getElem? (i := 13) rfl))) (notFace_of_selects (args := #[]) (mvT hZ (hw _ (List.mem_of_getElem? (i := 15) rfl)))) (mvT hZ (hw _ (List.mem_of_getElem? (i := 15) rfl))) (mvT hZ (hw _ (List.mem_of_getElem? (i := 14) rfl))) (by decide) (backOf (W := 0) (rm2 l Z a0 hw [] c2 c3 h0 n0 Z0 S_CASH_BEYOND_THE_THRESHOLD_AND_A_DOLLAR_BELOW_THE_AVERAGE) hZ (hw _ (List.mem_of_getElem? (i := 16) rfl)) (hw _ (List.mem_of_getElem? (i := 1) rfl)) (by decide) (by decide)) q25a q25c (g := (mkF m 64 #[.val (.int p0), .val (.int (p0 &&& (3 : Int32))), .val (.ref c2), .val (.int (1 : Int32)), .val (.int (f1 c2 c2 c3))] [(.ref c2)])) rfl (by rw [hml]; rfl) (Steps.refl _) (argsL := []) (rest := []) (lenOf pd_0_0 rfl) rfl (by show 2 * 0 + _ ≤ _; exact Nat.le_of_eq rfl) (hb hby at_64) (fun _ _ => ⟨rfl, e22q, (by decide : 0 + 0 ≤ _), (by decide : 0 + 0 ≤ _)⟩)
        dsimp only [Pt.U, Pt.locs, Pt.cells, Pt.slots] at X25 l25 y25 z25 st25 hQ25
        subst l25 y25 z25
        obtain ⟨rfl, N25q, e25q⟩ := hQ25
        have N25 := Fr.app N22 N25q
        have pre26 : ∀ t, Steps p.tables e below (T25.setTop (mkF m 67 #[.val (.int p0), .val (.int (p0 &&& (3 : Int32))), .val (.ref c2), .val (.int (1 : Int32)), .val (.int (f1 c2 c2 c3))] [(.int (f2 c2 c3))])) t → Steps p.tables e below (s₁.setTop (entryFrame m #[(.int p0)] maxLocals)) t := fun t kt => pre23 t (by
            show Steps p.tables e below (T22.setTop (mkF m 60 #[.val (.int p0), .val (.int (p0 &&& (3 : Int32))), .val (.ref c2), .val (.int (1 : Int32)), .val (.int (f1 c2 c2 c3))] [(.int (1 : Int32)), (.int (f1 c2 c2 c3))])) _
            refine XS.icmpNo X22.here hx rfl (hb hby at_60) rfl (teq hd60_24).2 ?_
            show Steps p.tables e below (T22.setTop (mkF m 63 #[.val (.int p0), .val (.int (p0 &&& (3 : Int32))), .val (.ref c2), .val (.int (1 : Int32)), .val (.int (f1 c2 c2 c3))] [])) _
            refine XS.aloadN X22.here hx rfl (hb hby at_63) rfl rfl ?_
            show Steps p.tables e below (T22.setTop (mkF m 64 #[.val (.int p0), .val (.int (p0 &&& (3 : Int32))), .val (.ref c2), .val (.int (1 : Int32)), .val (.int (f1 c2 c2 c3))] [(.ref c2)])) _
            refine st25.trans ?_
            exact kt)
        have hd67_27 : (f2 c2 c3) = (0 : Int32) := by rw [f2, if_neg ne_c2_c3]
        obtain ⟨fs, hr, hrun, hended, hW, hsame⟩ := X25.leave (v := some (.int (1 : Int32))) (fun h => by rw [Bd.returns] at h; cases h)
        have hv39 : (1 : Int32) = (1 : Int32) := rfl
        refine ⟨_, _, pre26 _ ?_, hrun, hended, _, _, rfl, ?_, ⟨_, rfl⟩, hW, hsame.mono (by decide) (by decide)⟩
        · show Steps p.tables e below (T25.setTop (mkF m 67 #[.val (.int p0), .val (.int (p0 &&& (3 : Int32))), .val (.ref c2), .val (.int (1 : Int32)), .val (.int (f1 c2 c2 c3))] [(.int (f2 c2 c3))])) _
          refine XS.ifYes X25.here hx rfl (pc0 := 67) (pc' := 75) rfl (hb hby at_67) rfl ((if0 _ _).trans (teq hd67_27).1) (by decide) (by decide) ?_
          show Steps p.tables e below (T25.setTop (mkF m 75 #[.val (.int p0), .val (.int (p0 &&& (3 : Int32))), .val (.ref c2), .val (.int (1 : Int32)), .val (.int (f1 c2 c2 c3))] [])) _
          refine XS.iconst X25.here hx rfl (hb hby at_75) ?_
          show Steps p.tables e below (T25.setTop (mkF m 76 #[.val (.int p0), .val (.int (p0 &&& (3 : Int32))), .val (.ref c2), .val (.int (1 : Int32)), .val (.int (f1 c2 c2 c3))] [(.int (1 : Int32))])) _
          refine XS.goto X25.here hx rfl (pc0 := 76) (pc' := 80) rfl (hb hby at_76) (by decide) (by decide) ?_
          show Steps p.tables e below (T25.setTop (mkF m 80 #[.val (.int p0), .val (.int (p0 &&& (3 : Int32))), .val (.ref c2), .val (.int (1 : Int32)), .val (.int (f1 c2 c2 c3))] [(.int (1 : Int32))])) _
          exact retN X25 hx (t := .boolean) Bd.returns (by simp) (hb hby at_80) hr
        · show Q0 Z p0 c0 c1 c2 c3 h0 n0 _ T25.heap _
          rw [e25q]
          exact ⟨congrArg (fun q => some (Value.int q)) hv39, N25⟩
      · obtain ⟨T28, X28, e28, st28⟩ := getS2 X0 hx hZ hown (host := "") (Or.inl (hw _ (List.mem_of_getElem? (i := 17) rfl))) Via.refl e0 S_CASH_BEYOND_THE_THRESHOLD_AND_A_DOLLAR_BELOW_THE_AVERAGE (g := (mkF m 45 #[.val (.int p0), .val (.int (p0 &&& (3 : Int32))), .unset, .unset, .unset] [])) rfl (hb hby at_45)
        obtain ⟨cq29, kq29, q29a, q29b, q29c⟩ := isOf hZ e28 E_c3
        obtain ⟨_, _, ⟨T29, L29, k29, n29⟩, -, X29, ⟨Lc29, hQ29, l29, y29, z29⟩, st29⟩ := X28.virtualBack hx (y := (⟨"com/example/indentary/indentary/model/RateAdjustmentTerms$CashDividendFormula", "takesDividendThreshold", "()Z"⟩ : MethodName)) (z := (⟨"com/example/indentary/indentary/model/RateAdjustmentTerms$CashDividendFormula", "takesDividendThreshold", "()Z"⟩ : MethodName)) hown (mvT hZ (hw _ (List.mem_of_getElem? (i := 3) rfl))) (mvT hZ (hw _ (List.mem_of_getElem? (i := 4) rfl))) (notFace_of_selects (args := #[]) (mvT hZ (hw _ (List.mem_of_getElem? (i := 6) rfl)))) (mvT hZ (hw _ (List.mem_of_getElem? (i := 6) rfl))) (mvT hZ (hw _ (List.mem_of_getElem? (i := 5) rfl))) (by decide) (backOf (W := 0) (rm1 l Z a0 hw [] c3 c2 c3 h0 n0 Z0 S_CASH_BEYOND_THE_THRESHOLD S_CASH_BEYOND_THE_THRESHOLD_AND_A_DOLLAR_BELOW_THE_AVERAGE) hZ (hw _ (List.mem_of_getElem? (i := 7) rfl)) (hw _ (List.mem_of_getElem? (i := 1) rfl)) (by decide) (by decide)) q29a q29c (g := (mkF m 52 #[.val (.int p0), .val (.int (p0 &&& (3 : Int32))), .val (.ref c3), .val (.int (1 : Int32)), .unset] [(.ref c3)])) rfl (by rw [hml]; rfl) (Steps.refl _) (argsL := []) (rest := []) (lenOf pd_0_0 rfl) rfl (by show 2 * 0 + _ ≤ _; exact Nat.le_of_eq rfl) (hb hby at_52) (fun _ _ => ⟨rfl, e28, (by decide : 0 + 0 ≤ _), (by decide : 0 + 0 ≤ _)⟩)
        dsimp only [Pt.U, Pt.locs, Pt.cells, Pt.slots] at X29 l29 y29 z29 st29 hQ29
        subst l29 y29 z29
        obtain ⟨rfl, N29q, e29q⟩ := hQ29
        have N29 := Fr.app N0 N29q
        have pre30 : ∀ t, Steps p.tables e below (T29.setTop (mkF m 60 #[.val (.int p0), .val (.int (p0 &&& (3 : Int32))), .val (.ref c3), .val (.int (1 : Int32)), .val (.int (f1 c3 c2 c3))] [(.int (1 : Int32)), (.int (f1 c3 c2 c3))])) t → Steps p.tables e below (s₁.setTop (entryFrame m #[(.int p0)] maxLocals)) t := fun t kt => pre19 t (by
            show Steps p.tables e below (s₁.setTop (mkF m 33 #[.val (.int p0), .val (.int (p0 &&& (3 : Int32))), .unset, .unset, .unset] [(.int (2 : Int32)), (.int (p0 &&& (3 : Int32)))])) _
            refine XS.icmpYes X0.here hx rfl (pc0 := 33) (pc' := 45) rfl (hb hby at_33) rfl (feq hc33_20).2 (by decide) (by decide) ?_
            show Steps p.tables e below (s₁.setTop (mkF m 45 #[.val (.int p0), .val (.int (p0 &&& (3 : Int32))), .unset, .unset, .unset] [])) _
            refine st28 _ ?_
            show Steps p.tables e below (T28.setTop (mkF m 48 #[.val (.int p0), .val (.int (p0 &&& (3 : Int32))), .unset, .unset, .unset] [(.ref c3)])) _
            refine XS.astoreN X28.here hx rfl (hb hby at_48) rfl rfl (l' := #[.val (.int p0), .val (.int (p0 &&& (3 : Int32))), .val (.ref c3), .unset, .unset]) rfl ?_
            show Steps p.tables e below (T28.setTop (mkF m 49 #[.val (.int p0), .val (.int (p0 &&& (3 : Int32))), .val (.ref c3), .unset, .unset] [])) _
            refine XS.iconst X28.here hx rfl (hb hby at_49) ?_
            show Steps p.tables e below (T28.setTop (mkF m 50 #[.val (.int p0), .val (.int (p0 &&& (3 : Int32))), .val (.ref c3), .unset, .unset] [(.int (1 : Int32))])) _
            refine XS.istoreN X28.here hx rfl (hb hby at_50) rfl (l' := #[.val (.int p0), .val (.int (p0 &&& (3 : Int32))), .val (.ref c3), .val (.int (1 : Int32)), .unset]) rfl ?_
            show Steps p.tables e below (T28.setTop (mkF m 51 #[.val (.int p0), .val (.int (p0 &&& (3 : Int32))), .val (.ref c3), .val (.int (1 : Int32)), .unset] [])) _
            refine XS.aloadN X28.here hx rfl (hb hby at_51) rfl rfl ?_
            show Steps p.tables e below (T28.setTop (mkF m 52 #[.val (.int p0), .val (.int (p0 &&& (3 : Int32))), .val (.ref c3), .val (.int (1 : Int32)), .unset] [(.ref c3)])) _
            refine st29.trans ?_
            show Steps p.tables e below (T29.setTop (mkF m 55 #[.val (.int p0), .val (.int (p0 &&& (3 : Int32))), .val (.ref c3), .val (.int (1 : Int32)), .unset] [(.int (f1 c3 c2 c3))])) _
            refine XS.istore X29.here hx rfl (hb hby at_55) rfl (l' := #[.val (.int p0), .val (.int (p0 &&& (3 : Int32))), .val (.ref c3), .val (.int (1 : Int32)), .val (.int (f1 c3 c2 c3))]) rfl ?_
            show Steps p.tables e below (T29.setTop (mkF m 57 #[.val (.int p0), .val (.int (p0 &&& (3 : Int32))), .val (.ref c3), .val (.int (1 : Int32)), .val (.int (f1 c3 c2 c3))] [])) _
            refine XS.iload X29.here hx rfl (hb hby at_57) rfl ?_
            show Steps p.tables e below (T29.setTop (mkF m 59 #[.val (.int p0), .val (.int (p0 &&& (3 : Int32))), .val (.ref c3), .val (.int (1 : Int32)), .val (.int (f1 c3 c2 c3))] [(.int (f1 c3 c2 c3))])) _
            refine XS.iloadN X29.here hx rfl (hb hby at_59) rfl ?_
            exact kt)
        have hd60_31 : (f1 c3 c2 c3) = (1 : Int32) := by rw [f1, if_neg (Ne.symm ne_c2_c3), if_pos rfl]
        obtain ⟨cq32, kq32, q32a, q32b, q32c⟩ := isOf hZ e29q E_c3
        obtain ⟨_, _, ⟨T32, L32, k32, n32⟩, -, X32, ⟨Lc32, hQ32, l32, y32, z32⟩, st32⟩ := X29.virtualBack hx (y := (⟨"com/example/indentary/indentary/model/RateAdjustmentTerms$CashDividendFormula", "comparesWithTheAverage", "()Z"⟩ : MethodName)) (z := (⟨"com/example/indentary/indentary/model/RateAdjustmentTerms$CashDividendFormula", "comparesWithTheAverage", "()Z"⟩ : MethodName)) hown (mvT hZ (hw _ (List.mem_of_getElem? (i := 12) rfl))) (mvT hZ (hw _ (List.mem_of_getElem? (i := 13) rfl))) (notFace_of_selects (args := #[]) (mvT hZ (hw _ (List.mem_of_getElem? (i := 15) rfl)))) (mvT hZ (hw _ (List.mem_of_getElem? (i := 15) rfl))) (mvT hZ (hw _ (List.mem_of_getElem? (i := 14) rfl))) (by decide) (backOf (W := 0) (rm2 l Z a0 hw [] c3 c3 h0 n0 Z0 S_CASH_BEYOND_THE_THRESHOLD_AND_A_DOLLAR_BELOW_THE_AVERAGE) hZ (hw _ (List.mem_of_getElem? (i := 16) rfl)) (hw _ (List.mem_of_getElem? (i := 1) rfl)) (by decide) (by decide)) q32a q32c (g := (mkF m 64 #[.val (.int p0), .val (.int (p0 &&& (3 : Int32))), .val (.ref c3), .val (.int (1 : Int32)), .val (.int (f1 c3 c2 c3))] [(.ref c3)])) rfl (by rw [hml]; rfl) (Steps.refl _) (argsL := []) (rest := []) (lenOf pd_0_0 rfl) rfl (by show 2 * 0 + _ ≤ _; exact Nat.le_of_eq rfl) (hb hby at_64) (fun _ _ => ⟨rfl, e29q, (by decide : 0 + 0 ≤ _), (by decide : 0 + 0 ≤ _)⟩)
        dsimp only [Pt.U, Pt.locs, Pt.cells, Pt.slots] at X32 l32 y32 z32 st32 hQ32
        subst l32 y32 z32
        obtain ⟨rfl, N32q, e32q⟩ := hQ32
        have N32 := Fr.app N29 N32q
        have pre33 : ∀ t, Steps p.tables e below (T32.setTop (mkF m 67 #[.val (.int p0), .val (.int (p0 &&& (3 : Int32))), .val (.ref c3), .val (.int (1 : Int32)), .val (.int (f1 c3 c2 c3))] [(.int (f2 c3 c3))])) t → Steps p.tables e below (s₁.setTop (entryFrame m #[(.int p0)] maxLocals)) t := fun t kt => pre30 t (by
            show Steps p.tables e below (T29.setTop (mkF m 60 #[.val (.int p0), .val (.int (p0 &&& (3 : Int32))), .val (.ref c3), .val (.int (1 : Int32)), .val (.int (f1 c3 c2 c3))] [(.int (1 : Int32)), (.int (f1 c3 c2 c3))])) _
            refine XS.icmpNo X29.here hx rfl (hb hby at_60) rfl (teq hd60_31).2 ?_
            show Steps p.tables e below (T29.setTop (mkF m 63 #[.val (.int p0), .val (.int (p0 &&& (3 : Int32))), .val (.ref c3), .val (.int (1 : Int32)), .val (.int (f1 c3 c2 c3))] [])) _
            refine XS.aloadN X29.here hx rfl (hb hby at_63) rfl rfl ?_
            show Steps p.tables e below (T29.setTop (mkF m 64 #[.val (.int p0), .val (.int (p0 &&& (3 : Int32))), .val (.ref c3), .val (.int (1 : Int32)), .val (.int (f1 c3 c2 c3))] [(.ref c3)])) _
            refine st32.trans ?_
            exact kt)
        have hd67_34 : ¬ ((f2 c3 c3) = (0 : Int32)) := by rw [f2, if_pos rfl]; decide
        have pre35 : ∀ t, Steps p.tables e below (T32.setTop (mkF m 72 #[.val (.int p0), .val (.int (p0 &&& (3 : Int32))), .val (.ref c3), .val (.int (1 : Int32)), .val (.int (f1 c3 c2 c3))] [(.int (f1 c3 c2 c3))])) t → Steps p.tables e below (s₁.setTop (entryFrame m #[(.int p0)] maxLocals)) t := fun t kt => pre33 t (by
            show Steps p.tables e below (T32.setTop (mkF m 67 #[.val (.int p0), .val (.int (p0 &&& (3 : Int32))), .val (.ref c3), .val (.int (1 : Int32)), .val (.int (f1 c3 c2 c3))] [(.int (f2 c3 c3))])) _
            refine XS.ifNo X32.here hx rfl (hb hby at_67) rfl ((if0 _ _).trans (feq hd67_34).1) ?_
            show Steps p.tables e below (T32.setTop (mkF m 70 #[.val (.int p0), .val (.int (p0 &&& (3 : Int32))), .val (.ref c3), .val (.int (1 : Int32)), .val (.int (f1 c3 c2 c3))] [])) _
            refine XS.iload X32.here hx rfl (hb hby at_70) rfl ?_
            exact kt)
        have hd72_36 : ¬ ((f1 c3 c2 c3) = (0 : Int32)) := by rw [f1, if_neg (Ne.symm ne_c2_c3), if_pos rfl]; decide
        obtain ⟨fs, hr, hrun, hended, hW, hsame⟩ := X32.leave (v := some (.int (1 : Int32))) (fun h => by rw [Bd.returns] at h; cases h)
        have hv40 : (1 : Int32) = (1 : Int32) := rfl
        refine ⟨_, _, pre35 _ ?_, hrun, hended, _, _, rfl, ?_, ⟨_, rfl⟩, hW, hsame.mono (by decide) (by decide)⟩
        · show Steps p.tables e below (T32.setTop (mkF m 72 #[.val (.int p0), .val (.int (p0 &&& (3 : Int32))), .val (.ref c3), .val (.int (1 : Int32)), .val (.int (f1 c3 c2 c3))] [(.int (f1 c3 c2 c3))])) _
          refine XS.ifNo X32.here hx rfl (hb hby at_72) rfl ((if0 _ _).trans (feq hd72_36).1) ?_
          show Steps p.tables e below (T32.setTop (mkF m 75 #[.val (.int p0), .val (.int (p0 &&& (3 : Int32))), .val (.ref c3), .val (.int (1 : Int32)), .val (.int (f1 c3 c2 c3))] [])) _
          refine XS.iconst X32.here hx rfl (hb hby at_75) ?_
          show Steps p.tables e below (T32.setTop (mkF m 76 #[.val (.int p0), .val (.int (p0 &&& (3 : Int32))), .val (.ref c3), .val (.int (1 : Int32)), .val (.int (f1 c3 c2 c3))] [(.int (1 : Int32))])) _
          refine XS.goto X32.here hx rfl (pc0 := 76) (pc' := 80) rfl (hb hby at_76) (by decide) (by decide) ?_
          show Steps p.tables e below (T32.setTop (mkF m 80 #[.val (.int p0), .val (.int (p0 &&& (3 : Int32))), .val (.ref c3), .val (.int (1 : Int32)), .val (.int (f1 c3 c2 c3))] [(.int (1 : Int32))])) _
          exact retN X32 hx (t := .boolean) Bd.returns (by simp) (hb hby at_80) hr
        · show Q0 Z p0 c0 c1 c2 c3 h0 n0 _ T32.heap _
          rw [e32q]
          exact ⟨congrArg (fun q => some (Value.int q)) hv40, N32⟩
set_option maxRecDepth 65536 in
set_option maxHeartbeats 40000000 in
theorem comes_1 {Post : Tables → Env → Array Value → State → Outcome → State → Prop} (hpost : ∀ tb e args s v u, (limb_1_1.after args s (.returned v) u = true ∧ limb_1_2.after args s (.returned v) u = true ∧ True) → FrameEnd s (.returned v) u (Jvm.fieldLocs frame_1_writes args s ++ Jvm.arrayLocs frame_1_arrays args s ++ Jvm.staticLocs frame_1_statics s) 0 0 → Post tb e args s (.returned v) u) :
    ArmFor flags0 classFile x code maxLocals ret World_1 tables_1 room_1 Calls_1 rest_1 Pre_1 Post := by
  intro l hfl _ _ p e ha hc hk s m args below hf hA hF happ hP
  obtain ⟨hcalls, hrest, hpre⟩ := hP
  obtain ⟨-, -, -, hnamed, -, -, -, hat⟩ := (Spec.applies_iff hf).mp happ
  obtain ⟨hg, hn⟩ := and_e (Cond.before_iff.mp (show (Jvm.Cond.and given_1 narrow_1).before args s = true from hpre))
  obtain ⟨g1, g2⟩ := and_e hg
  obtain ⟨w0, rfl⟩ : ∃ w0 : Value, args = #[w0] := by
    have hs : args.size = 1 := by simpa [Cond.value, given_1] using g1
    obtain ⟨L⟩ := args
    match L, hs with
    | [w0], _ => exact ⟨w0, rfl⟩
  have hw := fun d (hd : d ∈ tables_1) => atoms_spec (ws := Jvm.Cond.code x code maxLocals ret :: tables_1) hat d (List.mem_cons_of_mem _ hd)
  have hfit : Fit s := fun {y c} hc i hi => by
    obtain ⟨ha, rfl⟩ := Array.getElem?_eq_some_iff.mp hc
    have q := List.all_eq_true.mp ((Array.all_eq_true_iff_forall_mem.mp hF) _ (Array.getElem_mem ha)) i (List.mem_range.mpr hi)
    simpa [Array.getElem?_eq_getElem hi] using q
  obtain ⟨n1, m1⟩ := and_e hn
  obtain ⟨n2, m2⟩ := and_e m1
  obtain ⟨n3, m3⟩ := and_e m2
  obtain ⟨n4, m4⟩ := and_e m3
  obtain ⟨n5, m5⟩ := and_e m4
  obtain ⟨n6, m6⟩ := and_e m5
  obtain ⟨n7, m7⟩ := and_e m6
  obtain ⟨c0, ev_c0⟩ := exa_v n1
  have S_CASH_BELOW_SP0 := Sta.start ev_c0 (Or.inr ⟨(hw _ (List.mem_of_getElem? (i := 1) rfl)), (hw _ (List.mem_of_getElem? (i := 2) rfl))⟩)
  have E_c0 := Exa.start ev_c0 n1
  obtain ⟨c2, ev_c2⟩ := exa_v n2
  have S_CASH_BEYOND_THE_THRESHOLD := Sta.start ev_c2 (Or.inr ⟨(hw _ (List.mem_of_getElem? (i := 1) rfl)), (hw _ (List.mem_of_getElem? (i := 9) rfl))⟩)
  have E_c2 := Exa.start ev_c2 n2
  obtain ⟨c3, ev_c3⟩ := exa_v n5
  have S_CASH_BEYOND_THE_THRESHOLD_AND_A_DOLLAR_BELOW_THE_AVERAGE := Sta.start ev_c3 (Or.inr ⟨(hw _ (List.mem_of_getElem? (i := 1) rfl)), (hw _ (List.mem_of_getElem? (i := 11) rfl))⟩)
  have E_c3 := Exa.start ev_c3 n5
  obtain ⟨c1, ev_c1⟩ := exa_v n7
  have S_CASH_WITHOUT_PROVISO := Sta.start ev_c1 (Or.inr ⟨(hw _ (List.mem_of_getElem? (i := 1) rfl)), (hw _ (List.mem_of_getElem? (i := 20) rfl))⟩)
  have E_c1 := Exa.start ev_c1 n7
  have o_c0 := Fld.start ((fld_at ev_c0).symm.trans (own_eqi n3))
  have o_c2 := Fld.start ((fld_at ev_c2).symm.trans (own_eqi n4))
  have o_c3 := Fld.start ((fld_at ev_c3).symm.trans (own_eqi n6))
  have o_c1 := Fld.start ((fld_at ev_c1).symm.trans (own_eqi m7))
  have ne_c0_c1 : c0 ≠ c1 := Fld.ne o_c0 o_c1 (fun q => absurd (Value.int.inj q) (by decide))
  have ne_c0_c2 : c0 ≠ c2 := Fld.ne o_c0 o_c2 (fun q => absurd (Value.int.inj q) (by decide))
  have ne_c0_c3 : c0 ≠ c3 := Fld.ne o_c0 o_c3 (fun q => absurd (Value.int.inj q) (by decide))
  have ne_c1_c2 : c1 ≠ c2 := Fld.ne o_c1 o_c2 (fun q => absurd (Value.int.inj q) (by decide))
  have ne_c1_c3 : c1 ≠ c3 := Fld.ne o_c1 o_c3 (fun q => absurd (Value.int.inj q) (by decide))
  have ne_c2_c3 : c2 ≠ c3 := Fld.ne o_c2 o_c3 (fun q => absurd (Value.int.inj q) (by decide))
  obtain ⟨i0, ei0⟩ := is_v g2
  obtain rfl : w0 = (.int i0) := Option.some.inj ei0
  obtain ⟨n, o, h1, h2, h3, _, L, rfl, ⟨hv0, N⟩, hq⟩ := rm0 l s _ hw tables_1 i0 c0 c1 c2 c3 s.heap s.heap.size (Nat.le_refl _) S_CASH_BELOW_SP0 S_CASH_WITHOUT_PROVISO S_CASH_BEYOND_THE_THRESHOLD S_CASH_BEYOND_THE_THRESHOLD_AND_A_DOLLAR_BELOW_THE_AVERAGE E_c0 E_c1 E_c2 E_c3 ne_c0_c1 ne_c0_c2 ne_c0_c3 ne_c1_c2 ne_c1_c3 ne_c2_c3 p e ha hc hk s m _ below hf ((Spec.applies_iff_loose hf).mp happ).1 ⟨rfl, State.Warmed39.refl s, rfl⟩ trivial
  subst hv0
  refine ⟨n, _, h1, h2, h3, hpost _ _ _ _ _ _ ⟨Cond.after_iff.mpr rfl, Cond.after_iff.mpr (eq_i res_at (Term.int_eval (1)) rfl), trivial⟩ ⟨hq.1, hq.2.1, (hq.2.2.sift fun y hy => Or.inr (N y hy)).mono (by decide) (by decide)⟩⟩
theorem main_1_1 : Claimed_1_1 := comes_1 fun _ _ _ _ _ _ h hF => ⟨h.1, hF⟩
theorem main_1_2 : Claimed_1_2 := comes_1 fun _ _ _ _ _ _ h hF => ⟨h.2.1, hF⟩
end Jvm.Pilot.@@N@@
namespace Jvm.Pilot.@@N@@
open Jvm Jvm.ClassFile Sem Op Lib Jvm.Free Jvm.Stand Jvm.Pilot.@@N@@.Jvm.D
/-! MADE BY PROGRAM (witnessworld.py) out of the Statement's table words and the real class files: 12 classes; the members and pool entries that the words name. The judged class is class 1, her method 1. -/
namespace start1
open Jvm.ClassFile
def u (s : String) : CpInfo := .utf8 (stringToUtf16 s)
/-- a pool by its gaps: so many unusable entries, then the entry; so many at the end -/
def gap : Nat → List CpInfo → List CpInfo
  | 0, r => r
  | n + 1, r => .unusable :: gap n r
def poolList (es : List (Nat × CpInfo)) (last : Nat) : List CpInfo := es.foldr (fun e r => gap e.1 (e.2 :: r)) (gap last [])
def pool (es : List (Nat × CpInfo)) (last : Nat) : Array CpInfo := ⟨poolList es last⟩
def fileOf (pool : Array CpInfo) (this : Nat) (attrs : Array Attribute := #[]) (ms : Array MethodInfo := #[]) (fl : Nat := 33) (sup : Nat := 0) (ifs : Array Nat := #[]) (fds : Array FieldInfo := #[]) : ClassFile where
  minorVersion := 0
  majorVersion := 65
  constantPool := pool
  accessFlags := fl
  thisClass := this
  superClass := sup
  interfaces := ifs
  fields := fds
  methods := ms
  attributes := attrs
def plain (name : String) (sup : Option ClassId) : Class where
  name := name
  kind := .ordinary
  loader := none
  accessFlags := 33
  super := sup
  interfaces := #[]
  cf := none
  fields := #[]
  methods := #[]
  instanceTypes := #[]
  staticTypes := #[]
  resolved := #[]
  callSites := []
  init := .initialized
  statics := none
  mirror := none

def pool0 : Array CpInfo := pool [(5, u "<init>"), (0, u "()V"), (1, .class_ 10), (1, u "java/lang/Object")] 113

def k0m0 : Method := { name := "<init>", desc := "()V", sig := { parameters := [], returnType := none }, accessFlags := 1, code := none }
/-- java/lang/Object -/
def k0 : Class := { plain "java/lang/Object" none with
  accessFlags := 33
  interfaces := #[]
  cf := some (fileOf pool0 8 #[] #[{ accessFlags := 1, nameIndex := 5, descriptorIndex := 6, attributes := #[] }] 33 0 #[] #[])
  fields := #[]
  methods := #[k0m0]
  instanceTypes := #[]
  staticTypes := #[]
  resolved := Array.replicate 124 none
  statics := none }

def pool1 : Array CpInfo := pool [(2, .class_ 4), (1, u "java/lang/Object"), (0, u "<init>"), (0, u "()V"), (0, .fieldref 8 9), (0, .class_ 10), (0, .nameAndType 11 12), (0, u "com/example/indentary/indentary/model/RateAdjustmentTerms$CashDividendFormula"), (0, u "CASH_BELOW_SP0"), (0, u "Lcom/example/indentary/indentary/model/RateAdjustmentTerms$CashDividendFormula;"), (0, .fieldref 8 14), (0, .nameAndType 15 12), (0, u "CASH_WITHOUT_PROVISO"), (0, .fieldref 8 17), (0, .nameAndType 18 12), (0, u "CASH_BEYOND_THE_THRESHOLD"), (0, .fieldref 8 20), (0, .nameAndType 21 12), (0, u "CASH_BEYOND_THE_THRESHOLD_AND_A_DOLLAR_BELOW_THE_AVERAGE"), (0, .methodref 8 23), (0, .nameAndType 24 25), (0, u "takesDividendThreshold"), (0, u "()Z"), (0, .methodref 8 27), (0, .nameAndType 28 25), (0, u "comparesWithTheAverage"), (0, .class_ 30), (0, u "com/example/indentary/indentary/model/CashDividendFormulaTakesDividendThresholdPinLaw"), (2, u "law"), (0, u "(I)Z")] 7

def k1m0 : Method := { name := "<init>", desc := "()V", sig := { parameters := [], returnType := none }, accessFlags := 1, code := none }
def k1c1 : Code := { maxStack := 2, maxLocals := 5, code := code, exceptionTable := #[], attributes := #[] }
def k1m1 : Method := { name := "law", desc := "(I)Z", sig := { parameters := [.int], returnType := some .boolean }, accessFlags := 9, code := some k1c1 }
/-- com/example/indentary/indentary/model/CashDividendFormulaTakesDividendThresholdPinLaw -/
def k1 : Class := { plain "com/example/indentary/indentary/model/CashDividendFormulaTakesDividendThresholdPinLaw" (some 0) with
  accessFlags := 49
  interfaces := #[]
  cf := some (fileOf pool1 29 #[] #[{ accessFlags := 1, nameIndex := 5, descriptorIndex := 6, attributes := #[] }, { accessFlags := 9, nameIndex := 33, descriptorIndex := 34, attributes := #[] }] 49 2 #[] #[])
  fields := #[]
  methods := #[k1m0, k1m1]
  instanceTypes := #[]
  staticTypes := #[]
  resolved := Array.replicate 42 none
  statics := none }

def pool2 : Array CpInfo := pool [(1, .class_ 2), (0, u "java/lang/constant/Constable"), (0, .class_ 4), (0, u "java/lang/Object")] 6

/-- java/lang/constant/Constable -/
def k2 : Class := { plain "java/lang/constant/Constable" (some 0) with
  accessFlags := 1537
  interfaces := #[]
  cf := some (fileOf pool2 1 #[] #[] 1537 3 #[] #[])
  fields := #[]
  methods := #[]
  instanceTypes := #[]
  staticTypes := #[]
  resolved := Array.replicate 11 none
  statics := none }

def pool3 : Array CpInfo := pool [(1, .class_ 2), (0, u "java/lang/Comparable"), (0, .class_ 4), (0, u "java/lang/Object")] 7

/-- java/lang/Comparable -/
def k3 : Class := { plain "java/lang/Comparable" (some 0) with
  accessFlags := 1537
  interfaces := #[]
  cf := some (fileOf pool3 1 #[] #[] 1537 3 #[] #[])
  fields := #[]
  methods := #[]
  instanceTypes := #[]
  staticTypes := #[]
  resolved := Array.replicate 12 none
  statics := none }

def pool4 : Array CpInfo := pool [(1, .class_ 2), (0, u "java/io/Serializable"), (0, .class_ 4), (0, u "java/lang/Object")] 2

/-- java/io/Serializable -/
def k4 : Class := { plain "java/io/Serializable" (some 0) with
  accessFlags := 1537
  interfaces := #[]
  cf := some (fileOf pool4 1 #[] #[] 1537 3 #[] #[])
  fields := #[]
  methods := #[]
  instanceTypes := #[]
  staticTypes := #[]
  resolved := Array.replicate 7 none
  statics := none }

def pool5 : Array CpInfo := pool [(2, .class_ 4), (1, u "java/lang/Enum"), (0, u "name"), (0, u "Ljava/lang/String;"), (2, u "ordinal"), (0, u "I"), (1, .class_ 14), (1, u "java/lang/Object"), (4, u "hash"), (86, .class_ 108), (1, u "java/lang/Enum$EnumDesc"), (2, .class_ 112), (0, u "java/lang/constant/Constable"), (0, .class_ 114), (0, u "java/lang/Comparable"), (0, .class_ 116), (0, u "java/io/Serializable")] 87

/-- java/lang/Enum -/
def k5 : Class := { plain "java/lang/Enum" (some 0) with
  accessFlags := 1057
  interfaces := #[2, 3, 4]
  cf := some (fileOf pool5 2 #[.nestMembers #[106]] #[] 1057 12 #[111, 113, 115] #[{ accessFlags := 18, nameIndex := 5, descriptorIndex := 6, attributes := #[] }, { accessFlags := 18, nameIndex := 9, descriptorIndex := 10, attributes := #[] }, { accessFlags := 2, nameIndex := 19, descriptorIndex := 10, attributes := #[] }])
  fields := #[{ name := "name", type := (.object "java/lang/String"), accessFlags := 18, slot := 0, constantValue := 0 }, { name := "ordinal", type := .int, accessFlags := 18, slot := 1, constantValue := 0 }, { name := "hash", type := .int, accessFlags := 2, slot := 2, constantValue := 0 }]
  methods := #[]
  instanceTypes := #[(.object "java/lang/String"), .int, .int]
  staticTypes := #[]
  resolved := Array.replicate 204 none
  statics := none }

def pool6 : Array CpInfo := pool [(1, .class_ 2), (0, u "com/example/indentary/indentary/model/RateAdjustmentTerms$CashDividendFormula"), (2, u "CASH_BELOW_SP0"), (0, u "Lcom/example/indentary/indentary/model/RateAdjustmentTerms$CashDividendFormula;"), (2, u "CASH_WITHOUT_PROVISO"), (0, .fieldref 1 11), (0, .nameAndType 12 6), (0, u "CASH_BEYOND_THE_THRESHOLD"), (0, .fieldref 1 14), (0, .nameAndType 15 6), (0, u "CASH_BEYOND_THE_THRESHOLD_AND_A_DOLLAR_BELOW_THE_AVERAGE"), (2, u "$VALUES"), (0, u "[Lcom/example/indentary/indentary/model/RateAdjustmentTerms$CashDividendFormula;"), (6, .class_ 28), (1, u "java/lang/Enum"), (8, u "formula"), (0, u "Ljava/lang/String;"), (27, u "takesDividendThreshold"), (0, u "()Z"), (1, u "comparesWithTheAverage"), (6, .class_ 77), (0, u "com/example/indentary/indentary/model/RateAdjustmentTerms")] 2

def k6c0 : Code := { maxStack := 2, maxLocals := 1, code := prog_65_method_5_code, exceptionTable := #[], attributes := #[] }
def k6m0 : Method := { name := "takesDividendThreshold", desc := "()Z", sig := { parameters := [], returnType := some .boolean }, accessFlags := 1, code := some k6c0 }
def k6c1 : Code := { maxStack := 2, maxLocals := 1, code := prog_65_method_6_code, exceptionTable := #[], attributes := #[] }
def k6m1 : Method := { name := "comparesWithTheAverage", desc := "()Z", sig := { parameters := [], returnType := some .boolean }, accessFlags := 1, code := some k6c1 }
/-- com/example/indentary/indentary/model/RateAdjustmentTerms$CashDividendFormula -/
def k6 : Class := { plain "com/example/indentary/indentary/model/RateAdjustmentTerms$CashDividendFormula" (some 5) with
  accessFlags := 16433
  interfaces := #[]
  cf := some (fileOf pool6 1 #[.nestHost 76] #[{ accessFlags := 1, nameIndex := 66, descriptorIndex := 67, attributes := #[] }, { accessFlags := 1, nameIndex := 69, descriptorIndex := 67, attributes := #[] }] 16433 26 #[] #[{ accessFlags := 16409, nameIndex := 5, descriptorIndex := 6, attributes := #[] }, { accessFlags := 16409, nameIndex := 9, descriptorIndex := 6, attributes := #[] }, { accessFlags := 16409, nameIndex := 12, descriptorIndex := 6, attributes := #[] }, { accessFlags := 16409, nameIndex := 15, descriptorIndex := 6, attributes := #[] }, { accessFlags := 18, nameIndex := 37, descriptorIndex := 38, attributes := #[] }, { accessFlags := 4122, nameIndex := 18, descriptorIndex := 19, attributes := #[] }])
  fields := #[{ name := "CASH_BELOW_SP0", type := (.object "com/example/indentary/indentary/model/RateAdjustmentTerms$CashDividendFormula"), accessFlags := 16409, slot := 0, constantValue := 0 }, { name := "CASH_WITHOUT_PROVISO", type := (.object "com/example/indentary/indentary/model/RateAdjustmentTerms$CashDividendFormula"), accessFlags := 16409, slot := 1, constantValue := 0 }, { name := "CASH_BEYOND_THE_THRESHOLD", type := (.object "com/example/indentary/indentary/model/RateAdjustmentTerms$CashDividendFormula"), accessFlags := 16409, slot := 2, constantValue := 0 }, { name := "CASH_BEYOND_THE_THRESHOLD_AND_A_DOLLAR_BELOW_THE_AVERAGE", type := (.object "com/example/indentary/indentary/model/RateAdjustmentTerms$CashDividendFormula"), accessFlags := 16409, slot := 3, constantValue := 0 }, { name := "formula", type := (.object "java/lang/String"), accessFlags := 18, slot := 3, constantValue := 0 }, { name := "$VALUES", type := (.array (.object "com/example/indentary/indentary/model/RateAdjustmentTerms$CashDividendFormula")), accessFlags := 4122, slot := 4, constantValue := 0 }]
  methods := #[k6m0, k6m1]
  instanceTypes := #[(.object "java/lang/String"), .int, .int, (.object "java/lang/String")]
  staticTypes := #[(.object "com/example/indentary/indentary/model/RateAdjustmentTerms$CashDividendFormula"), (.object "com/example/indentary/indentary/model/RateAdjustmentTerms$CashDividendFormula"), (.object "com/example/indentary/indentary/model/RateAdjustmentTerms$CashDividendFormula"), (.object "com/example/indentary/indentary/model/RateAdjustmentTerms$CashDividendFormula"), (.array (.object "com/example/indentary/indentary/model/RateAdjustmentTerms$CashDividendFormula"))]
  resolved := Array.replicate 80 none
  statics := some 0 }

def pool7 : Array CpInfo := pool [(1, u "java/lang/Cloneable"), (0, .class_ 1), (0, u "java/lang/Object"), (0, .class_ 3)] 3

/-- java/lang/Cloneable -/
def k7 : Class := { plain "java/lang/Cloneable" (some 0) with
  accessFlags := 1537
  interfaces := #[]
  cf := some (fileOf pool7 2 #[] #[] 1537 4 #[] #[])
  fields := #[]
  methods := #[]
  instanceTypes := #[]
  staticTypes := #[]
  resolved := Array.replicate 8 none
  statics := none }

/-- the primitive byte -/
def k8 : Class := { plain "byte" none with kind := .primitive 'B', accessFlags := 0x411 }
/-- [B -/
def k9 : Class := { plain "[B" (some 0) with kind := .array 8 .byte, interfaces := #[7, 4], accessFlags := 1041 }

/-- the primitive int -/
def k10 : Class := { plain "int" none with kind := .primitive 'I', accessFlags := 0x411 }
/-- [I -/
def k11 : Class := { plain "[I" (some 0) with kind := .array 10 .int, interfaces := #[7, 4], accessFlags := 1041 }

def heap : Heap := #[{ cls := 6, slots := #[.ref 1, .ref 2, .ref 3, .ref 4, .null], vm := .statics 6 },
  { cls := 6, slots := #[.null, .int 0, .int 0, .null], vm := .none },
  { cls := 6, slots := #[.null, .int 1, .int 0, .null], vm := .none },
  { cls := 6, slots := #[.null, .int 2, .int 0, .null], vm := .none },
  { cls := 6, slots := #[.null, .int 3, .int 0, .null], vm := .none }]
def classes : Array Class := #[k0, k1, k2, k3, k4, k5, k6, k7, k8, k9, k10, k11]
def interned : List (Array UInt16 × Addr) := []
def slotsUsed : Nat := 21
def theMethod : MethodId := ⟨1, 1⟩
def args0 : Array Value := #[.int 5]
def aboutOver (below : List Frame) : State where
  vm := { classes := classes, interned := interned.toArray }
  heap := heap
  slotsUsed := slotsUsed
  threads := #[{ frames := .invoking theMethod args0 :: below }]
def below0 : List Frame := [.native { method := ⟨0, 0⟩, args := #[] }]
def about1 : State := aboutOver below0
def p0 : Program := .bare "" "" ""
def e0 : Env := launch0.env 0 0 0
theorem w_frames : about1.frames = Frame.invoking theMethod args0 :: below0 := rfl
set_option maxRecDepth 65536 in
theorem w_args : argsFit about1.vm theMethod args0 = true := by decide +kernel
set_option maxRecDepth 65536 in
theorem w_heap : heapFits about1 = true := by decide +kernel
set_option maxRecDepth 65536 in
theorem w_runnable : about1.curStatus? = some .runnable := by decide +kernel
set_option maxRecDepth 65536 in
theorem w_alone : about1.alone = true := by decide +kernel
set_option maxRecDepth 65536 in
theorem w_named : about1.methodNamed? x = some theMethod := by decide +kernel
set_option maxRecDepth 65536 in
theorem w_hears : about1.hears theMethod below0 = true := by decide +kernel
set_option maxRecDepth 65536 in
theorem w_ripe : about1.ripe theMethod args0 below0 = true := by decide +kernel
theorem w_running : about1.status = .running := rfl
set_option maxRecDepth 65536 in
theorem w_room : about1.hasRoom e0.platform room_1 = true :=
  launch0.hasRoom_least _ room_1 (by decide +kernel) (by decide +kernel) (by decide +kernel) (by decide +kernel) (by decide +kernel) (by decide +kernel)
theorem allAtoms_all (ts : List Jvm.Cond) (a : Array Jvm.Value) (st : Jvm.State) : (allAtoms ts).before a st = ts.all (fun c => c.before a st) := by
  induction ts with
  | nil => rfl
  | cons c t ih =>
    show (Jvm.Cond.and c (allAtoms t)).before a st = _
    rw [Jvm.Cond.before_and, ih, List.all_cons]
def words1 : List Jvm.Cond := Jvm.Cond.code x code maxLocals ret :: tables_1
/-- a 'code' word, met by the world's own term for the bytes: nothing is compared byte by byte -/
theorem code_word {y : MethodName} {bytes : ByteArray} {mx : Nat} {rt : Option FieldType} {a : Array Value} {s : State} {m : MethodId} {meth : Method} {c : Code} (h1 : s.methodNamed? y = some m) (h2 : s.vm.method? m = some meth) (h3 : meth.code = some c) (h4 : c.code = bytes)
    (h5 : (c.maxLocals == mx && c.exceptionTable.isEmpty && decide (c.maxStack ≤ mostOperands) && decide (meth.sig.returnType = rt) && !meth.locks && decide (parseMethodDescriptor y.desc = some meth.sig)) = true) : (Jvm.Cond.code y bytes mx rt).before a s = true := by
  simp only [Bool.and_eq_true, beq_iff_eq, Bool.not_eq_true', decide_eq_true_eq] at h5
  obtain ⟨⟨⟨⟨⟨g1, g2⟩, g3⟩, g4⟩, g5⟩, g6⟩ := h5
  simp [Cond.before, Cond.holds, Cond.value, h1, h2, h3, h4, g1, g2, g3, g4, g5, g6]
def isCode : Jvm.Cond → Bool
  | .code _ _ _ _ => true
  | _ => false
theorem all_split {L : List Jvm.Cond} {P : Jvm.Cond → Bool} (h1 : L.all (fun c => isCode c || P c) = true) (h2 : ∀ c ∈ L.filter isCode, P c = true) : L.all P = true := by
  refine List.all_eq_true.mpr fun c hc => ?_
  have h := List.all_eq_true.mp h1 c hc
  rcases Bool.eq_false_or_eq_true (isCode c) with hi | hi
  · exact h2 c (List.mem_filter.mpr ⟨hc, hi⟩)
  · simpa [hi] using h
set_option maxRecDepth 65536 in
theorem w_c0 : (Jvm.Cond.code x code maxLocals ret).before args0 about1 = true := code_word (m := ⟨1, 1⟩) (meth := k1m1) (c := k1c1) (by decide +kernel) rfl rfl rfl (by decide +kernel)
set_option maxRecDepth 65536 in
theorem w_c1 : (Jvm.Cond.code ({ cls := "com/example/indentary/indentary/model/RateAdjustmentTerms$CashDividendFormula", name := "takesDividendThreshold", desc := "()Z" } : Jvm.MethodName) prog_65_method_5_code (1 : Nat) (Option.some Jvm.ClassFile.FieldType.boolean)).before args0 about1 = true := code_word (m := ⟨6, 0⟩) (meth := k6m0) (c := k6c0) (by decide +kernel) rfl rfl rfl (by decide +kernel)
set_option maxRecDepth 65536 in
theorem w_c2 : (Jvm.Cond.code ({ cls := "com/example/indentary/indentary/model/RateAdjustmentTerms$CashDividendFormula", name := "comparesWithTheAverage", desc := "()Z" } : Jvm.MethodName) prog_65_method_6_code (1 : Nat) (Option.some Jvm.ClassFile.FieldType.boolean)).before args0 about1 = true := code_word (m := ⟨6, 1⟩) (meth := k6m1) (c := k6c1) (by decide +kernel) rfl rfl rfl (by decide +kernel)
def codes1 : List Jvm.Cond := [Jvm.Cond.code x code maxLocals ret, Jvm.Cond.code ({ cls := "com/example/indentary/indentary/model/RateAdjustmentTerms$CashDividendFormula", name := "takesDividendThreshold", desc := "()Z" } : Jvm.MethodName) prog_65_method_5_code (1 : Nat) (Option.some Jvm.ClassFile.FieldType.boolean), Jvm.Cond.code ({ cls := "com/example/indentary/indentary/model/RateAdjustmentTerms$CashDividendFormula", name := "comparesWithTheAverage", desc := "()Z" } : Jvm.MethodName) prog_65_method_6_code (1 : Nat) (Option.some Jvm.ClassFile.FieldType.boolean)]
set_option maxRecDepth 65536 in
theorem codes_eq : words1.filter isCode = codes1 := rfl
theorem w_codes : ∀ c ∈ words1.filter isCode, c.before args0 about1 = true := by
  rw [codes_eq]
  intro c hc
  simp only [codes1, List.mem_cons, List.not_mem_nil, or_false] at hc
  rcases hc with rfl | rfl | rfl
  · exact w_c0
  · exact w_c1
  · exact w_c2
set_option maxRecDepth 65536 in
theorem w_t1 : words1.all (fun c => isCode c || c.before args0 about1) = true := by decide +kernel
theorem w_tables : (allAtoms (Jvm.Cond.code x code maxLocals ret :: tables_1)).before args0 about1 = true := by
  rw [allAtoms_all]
  show words1.all (fun c => c.before args0 about1) = true
  refine all_split ?_ w_codes
  rw [w_t1]
set_option maxRecDepth 65536 in
theorem w_case : (Jvm.Cond.and given_1 narrow_1).before args0 about1 = true := by decide +kernel
theorem w_applies : (headSpec (Jvm.Cond.code x code maxLocals ret :: tables_1) room_1).applies x e0.platform about1 = true :=
  (Spec.applies_iff w_frames).mpr ⟨w_running, w_runnable, w_alone, w_named, w_hears, w_ripe, w_room, w_tables⟩
theorem atStart : AtStart classFile x code maxLocals ret World_1 tables_1 room_1 Calls_1 rest_1 Pre_1 launch0 p0 e0 about1 theMethod args0 below0 :=
  ⟨lists_1, trivial, launch0.admits_env _ _ _, launch0.least_env, fairChoices_fair.cas, fairChoices_fair.clock, w_frames, w_args, w_heap, w_applies, trivial, trivial, w_case⟩
end start1
theorem witness_1 : WitnessClaimed_1 := ⟨start1.p0, start1.e0, start1.about1, start1.theMethod, start1.args0, start1.below0, start1.atStart⟩
end Jvm.Pilot.@@N@@
