import JvmDerived
import JvmDerived.Pilot.@@N@@Statement
import JvmDerived.Pilot.@@N@@Code
set_option linter.unusedVariables false
set_option linter.unusedSimpArgs false
namespace Jvm.RoadKit
open Sem ClassFile Op Lib Jvm.Stand Jvm.Free Jvm.LawKit
section New
variable {p : Program} {l : Launch} {e : Env} {R : Room} {s : State} {m : MethodId} {args : Array Value} {below : List Frame} {meth : Method} {c : Code} {T : State} {locs : List Loc} {cells slots : Nat}
theorem retI (X : Stand p l e R s m args below meth c T locs cells slots) (hx : p.tables.exec = Jvm.exec) {pc : Nat} {Ls : Array Slot} {z : Int32} {rest : List Value} (hret : meth.sig.returnType = some .int) (hd : decode c.code pc = .ok (.ireturn, 1)) {fs : List Frame}
    (hl : ∀ (f : JFrame) (acts : List Action), f.method = m → f.locked = none → f.entered = [] → (doReturn e (T.setTop f) acts (some (.int z))).1 = T.setFrames fs) : Steps p.tables e below (T.setTop (mkF m pc Ls (.int z :: rest))) (T.setFrames fs) := by
  have hm' : T.vm.method? m = some meth := X.method'
  have hn : narrow .int (.int z) = .int z := rfl
  show Steps p.tables e below (T.setTop { method := m, pc := pc, locals := Ls, stack := _ :: rest, locked := none }) _
  jvm_step X.here [X.here.top, hx, hd, hm', hret, hn]
  first | (intro acts; rw [hl _ acts rfl rfl rfl]) | rw [hl _ _ rfl rfl rfl]
  exact Steps.refl _
end New
end Jvm.RoadKit
namespace Jvm.Pilot.@@N@@
open Jvm Jvm.ClassFile Sem Op Lib Jvm.Free Jvm.Stand Jvm.LawKit Jvm.RoadKit Bundle Jvm.Pilot.@@N@@.Jvm.D
theorem d1_0 : decode prog_98_method_11_code 0 = .ok (.iload_n 0, 1) := by decide +kernel
theorem d1_1 : decode prog_98_method_11_code 1 = .ok (.bipush 48, 2) := by decide +kernel
theorem d1_3 : decode prog_98_method_11_code 3 = .ok (.if_icmp .lt 13, 3) := by decide +kernel
theorem d1_6 : decode prog_98_method_11_code 6 = .ok (.iload_n 0, 1) := by decide +kernel
theorem d1_7 : decode prog_98_method_11_code 7 = .ok (.bipush 57, 2) := by decide +kernel
theorem d1_9 : decode prog_98_method_11_code 9 = .ok (.if_icmp .gt 7, 3) := by decide +kernel
theorem d1_12 : decode prog_98_method_11_code 12 = .ok (.iconst 1, 1) := by decide +kernel
theorem d1_13 : decode prog_98_method_11_code 13 = .ok (.goto 4, 3) := by decide +kernel
theorem d1_16 : decode prog_98_method_11_code 16 = .ok (.iconst 0, 1) := by decide +kernel
theorem d1_17 : decode prog_98_method_11_code 17 = .ok (.ireturn, 1) := by decide +kernel
theorem pn_1 : plainName "com/example/indentary/indentary/reader/SectionHeading" = true := by first | (simp [plainName, overriddenIn]; done) | decide +kernel
theorem ef_1 (m : MethodId) (x0 : Int32) : entryFrame m #[(.int x0)] 1 = mkF m 0 #[.val (.int x0)] [] := by first | (simp [entryFrame, mkF, argsToLocals, Value.category]; done) | rfl
def f1 (p0 : Int32) : Int32 :=
  if p0 < (48 : Int32) then ((0 : Int32)) else
  (if (57 : Int32) < p0 then ((0 : Int32)) else
  ((1 : Int32)))
def Q1 (Z : State) (p0 : Int32) (h0 : Heap) (n0 : Nat) (v : Option Value) (h : Heap) (L : List Loc) : Prop := v = some (.int (f1 p0)) ∧ Fr n0 L ∧ h = h0
set_option maxRecDepth 65536 in
set_option maxHeartbeats 40000000 in
theorem rm1 (l : Launch) (Z : State) (a0 : Array Value) (hw : ∀ d ∈ tables_1, d.before a0 Z = true) (ws : List Jvm.Cond) (p0 : Int32) (h0 : Heap) (n0 : Nat) (Z0 : n0 ≤ h0.size) :
    MetFree l (⟨"com/example/indentary/indentary/reader/SectionHeading", "isDigit", "(C)Z"⟩ : MethodName) (head1 (Jvm.Cond.code (⟨"com/example/indentary/indentary/reader/SectionHeading", "isDigit", "(C)Z"⟩ : MethodName) prog_98_method_11_code 1 (some .boolean) :: ws) ({ frames := 0, cells := 0, slots := 0, locals := 0 } : Room)) (fun a U => a = #[(.int p0)] ∧ Z.Warmed39 U.vm ∧ U.heap = h0) (fun _ _ _ _ _ => True) (fun _ U o U' => ∃ v L, o = .returned v ∧ Q1 Z p0 h0 n0 v U'.heap L ∧ FrameEnd U o U' L ({ frames := 0, cells := 0, slots := 0, locals := 0 } : Room).cells ({ frames := 0, cells := 0, slots := 0, locals := 0 } : Room).slots) := by
  refine MetFree.of_bodySF (plainFor_of_name pn_1) hisR ?_
  intro p e s m args below meth c s₁ Bd hml0 hP hK
  obtain ⟨rfl, hZ, hh⟩ := hP
  have hx := Bd.exec
  have hby := Bd.bytes
  have hml : c.maxLocals = 1 := hml0
  have hown : s.vm.findClass "com/example/indentary/indentary/reader/SectionHeading" = some m.cls := findClass_of_methodNamed Bd.named
  have hnm := (name_of_methodNamed Bd.named Bd.method).1
  have X0 : Stand p l e ({ frames := 0, cells := 0, slots := 0, locals := 0 } : Room) s m #[(.int p0)] below meth c s₁ [] 0 0 := Stand.of_body Bd
  have e0 : s₁.heap = h0 := by rw [← hh, Bd.state]; rfl
  have N0 := Fr.nil n0
  have pre0 : ∀ t, Steps p.tables e below (s₁.setTop (mkF m 0 #[.val (.int p0)] [])) t → Steps p.tables e below (s₁.setTop (entryFrame m #[(.int p0)] 1)) t := fun t k => castTop (ef_1 m p0) k
  have pre1 : ∀ t, Steps p.tables e below (s₁.setTop (mkF m 3 #[.val (.int p0)] [(.int (48 : Int32)), (.int p0)])) t → Steps p.tables e below (s₁.setTop (entryFrame m #[(.int p0)] 1)) t := fun t kt => pre0 t (by
      show Steps p.tables e below (s₁.setTop (mkF m 0 #[.val (.int p0)] [])) _
      refine XS.iloadN X0.here hx rfl (hb hby d1_0) rfl ?_
      show Steps p.tables e below (s₁.setTop (mkF m 1 #[.val (.int p0)] [(.int p0)])) _
      refine XS.bipush X0.here hx rfl (hb hby d1_1) ?_
      exact kt)
  by_cases hc3_2 : p0 < (48 : Int32)
  · obtain ⟨fs, hr, hrun, hended, hW, hsame⟩ := X0.leave (v := some (.int (0 : Int32))) (fun h => by rw [Bd.returns] at h; cases h)
    have hv5 : (f1 p0) = (0 : Int32) := by rw [f1, if_pos hc3_2]
    refine ⟨_, _, pre1 _ ?_, hrun, hended, _, _, rfl, ?_, ⟨_, rfl⟩, hW, hsame.mono (by decide) (by decide)⟩
    · show Steps p.tables e below (s₁.setTop (mkF m 3 #[.val (.int p0)] [(.int (48 : Int32)), (.int p0)])) _
      refine XS.icmpYes X0.here hx rfl (pc0 := 3) (pc' := 16) rfl (hb hby d1_3) rfl (tlt hc3_2).1 (by decide) (by decide) ?_
      show Steps p.tables e below (s₁.setTop (mkF m 16 #[.val (.int p0)] [])) _
      refine XS.iconst X0.here hx rfl (hb hby d1_16) ?_
      show Steps p.tables e below (s₁.setTop (mkF m 17 #[.val (.int p0)] [(.int (0 : Int32))])) _
      exact retN X0 hx (t := .boolean) Bd.returns (by simp) (hb hby d1_17) hr
    · show Q1 Z p0 h0 n0 _ s₁.heap _
      rw [e0]
      exact ⟨congrArg (fun q => some (Value.int q)) hv5.symm, N0, rfl⟩
  · have pre3 : ∀ t, Steps p.tables e below (s₁.setTop (mkF m 9 #[.val (.int p0)] [(.int (57 : Int32)), (.int p0)])) t → Steps p.tables e below (s₁.setTop (entryFrame m #[(.int p0)] 1)) t := fun t kt => pre1 t (by
        show Steps p.tables e below (s₁.setTop (mkF m 3 #[.val (.int p0)] [(.int (48 : Int32)), (.int p0)])) _
        refine XS.icmpNo X0.here hx rfl (hb hby d1_3) rfl (flt hc3_2).1 ?_
        show Steps p.tables e below (s₁.setTop (mkF m 6 #[.val (.int p0)] [])) _
        refine XS.iloadN X0.here hx rfl (hb hby d1_6) rfl ?_
        show Steps p.tables e below (s₁.setTop (mkF m 7 #[.val (.int p0)] [(.int p0)])) _
        refine XS.bipush X0.here hx rfl (hb hby d1_7) ?_
        exact kt)
    by_cases hc9_4 : (57 : Int32) < p0
    · obtain ⟨fs, hr, hrun, hended, hW, hsame⟩ := X0.leave (v := some (.int (0 : Int32))) (fun h => by rw [Bd.returns] at h; cases h)
      have hv6 : (f1 p0) = (0 : Int32) := by rw [f1, if_neg hc3_2, if_pos hc9_4]
      refine ⟨_, _, pre3 _ ?_, hrun, hended, _, _, rfl, ?_, ⟨_, rfl⟩, hW, hsame.mono (by decide) (by decide)⟩
      · show Steps p.tables e below (s₁.setTop (mkF m 9 #[.val (.int p0)] [(.int (57 : Int32)), (.int p0)])) _
        refine XS.icmpYes X0.here hx rfl (pc0 := 9) (pc' := 16) rfl (hb hby d1_9) rfl (tlt hc9_4).2.2.1 (by decide) (by decide) ?_
        show Steps p.tables e below (s₁.setTop (mkF m 16 #[.val (.int p0)] [])) _
        refine XS.iconst X0.here hx rfl (hb hby d1_16) ?_
        show Steps p.tables e below (s₁.setTop (mkF m 17 #[.val (.int p0)] [(.int (0 : Int32))])) _
        exact retN X0 hx (t := .boolean) Bd.returns (by simp) (hb hby d1_17) hr
      · show Q1 Z p0 h0 n0 _ s₁.heap _
        rw [e0]
        exact ⟨congrArg (fun q => some (Value.int q)) hv6.symm, N0, rfl⟩
    · obtain ⟨fs, hr, hrun, hended, hW, hsame⟩ := X0.leave (v := some (.int (1 : Int32))) (fun h => by rw [Bd.returns] at h; cases h)
      have hv7 : (f1 p0) = (1 : Int32) := by rw [f1, if_neg hc3_2, if_neg hc9_4]
      refine ⟨_, _, pre3 _ ?_, hrun, hended, _, _, rfl, ?_, ⟨_, rfl⟩, hW, hsame.mono (by decide) (by decide)⟩
      · show Steps p.tables e below (s₁.setTop (mkF m 9 #[.val (.int p0)] [(.int (57 : Int32)), (.int p0)])) _
        refine XS.icmpNo X0.here hx rfl (hb hby d1_9) rfl (flt hc9_4).2.2.1 ?_
        show Steps p.tables e below (s₁.setTop (mkF m 12 #[.val (.int p0)] [])) _
        refine XS.iconst X0.here hx rfl (hb hby d1_12) ?_
        show Steps p.tables e below (s₁.setTop (mkF m 13 #[.val (.int p0)] [(.int (1 : Int32))])) _
        refine XS.goto X0.here hx rfl (pc0 := 13) (pc' := 17) rfl (hb hby d1_13) (by decide) (by decide) ?_
        show Steps p.tables e below (s₁.setTop (mkF m 17 #[.val (.int p0)] [(.int (1 : Int32))])) _
        exact retN X0 hx (t := .boolean) Bd.returns (by simp) (hb hby d1_17) hr
      · show Q1 Z p0 h0 n0 _ s₁.heap _
        rw [e0]
        exact ⟨congrArg (fun q => some (Value.int q)) hv7.symm, N0, rfl⟩
theorem d2_0 : decode method_2_code 0 = .ok (.iload_n 0, 1) := by decide +kernel
theorem d2_1 : decode method_2_code 1 = .ok (.bipush 48, 2) := by decide +kernel
theorem d2_3 : decode method_2_code 3 = .ok (.if_icmp .eq 57, 3) := by decide +kernel
theorem d2_6 : decode method_2_code 6 = .ok (.iload_n 0, 1) := by decide +kernel
theorem d2_7 : decode method_2_code 7 = .ok (.bipush 49, 2) := by decide +kernel
theorem d2_9 : decode method_2_code 9 = .ok (.if_icmp .eq 51, 3) := by decide +kernel
theorem d2_12 : decode method_2_code 12 = .ok (.iload_n 0, 1) := by decide +kernel
theorem d2_13 : decode method_2_code 13 = .ok (.bipush 50, 2) := by decide +kernel
theorem d2_15 : decode method_2_code 15 = .ok (.if_icmp .eq 45, 3) := by decide +kernel
theorem d2_18 : decode method_2_code 18 = .ok (.iload_n 0, 1) := by decide +kernel
theorem d2_19 : decode method_2_code 19 = .ok (.bipush 51, 2) := by decide +kernel
theorem d2_21 : decode method_2_code 21 = .ok (.if_icmp .eq 39, 3) := by decide +kernel
theorem d2_24 : decode method_2_code 24 = .ok (.iload_n 0, 1) := by decide +kernel
theorem d2_25 : decode method_2_code 25 = .ok (.bipush 52, 2) := by decide +kernel
theorem d2_27 : decode method_2_code 27 = .ok (.if_icmp .eq 33, 3) := by decide +kernel
theorem d2_30 : decode method_2_code 30 = .ok (.iload_n 0, 1) := by decide +kernel
theorem d2_31 : decode method_2_code 31 = .ok (.bipush 53, 2) := by decide +kernel
theorem d2_33 : decode method_2_code 33 = .ok (.if_icmp .eq 27, 3) := by decide +kernel
theorem d2_36 : decode method_2_code 36 = .ok (.iload_n 0, 1) := by decide +kernel
theorem d2_37 : decode method_2_code 37 = .ok (.bipush 54, 2) := by decide +kernel
theorem d2_39 : decode method_2_code 39 = .ok (.if_icmp .eq 21, 3) := by decide +kernel
theorem d2_42 : decode method_2_code 42 = .ok (.iload_n 0, 1) := by decide +kernel
theorem d2_43 : decode method_2_code 43 = .ok (.bipush 55, 2) := by decide +kernel
theorem d2_45 : decode method_2_code 45 = .ok (.if_icmp .eq 15, 3) := by decide +kernel
theorem d2_48 : decode method_2_code 48 = .ok (.iload_n 0, 1) := by decide +kernel
theorem d2_49 : decode method_2_code 49 = .ok (.bipush 56, 2) := by decide +kernel
theorem d2_51 : decode method_2_code 51 = .ok (.if_icmp .eq 9, 3) := by decide +kernel
theorem d2_54 : decode method_2_code 54 = .ok (.iload_n 0, 1) := by decide +kernel
theorem d2_55 : decode method_2_code 55 = .ok (.bipush 57, 2) := by decide +kernel
theorem d2_57 : decode method_2_code 57 = .ok (.if_icmp .ne 7, 3) := by decide +kernel
theorem d2_60 : decode method_2_code 60 = .ok (.iconst 1, 1) := by decide +kernel
theorem d2_61 : decode method_2_code 61 = .ok (.goto 4, 3) := by decide +kernel
theorem d2_64 : decode method_2_code 64 = .ok (.iconst 0, 1) := by decide +kernel
theorem d2_65 : decode method_2_code 65 = .ok (.ireturn, 1) := by decide +kernel
theorem pn_2 : plainName "com/example/indentary/indentary/reader/SectionHeadingIsDigitPinLaw" = true := by first | (simp [plainName, overriddenIn]; done) | decide +kernel
theorem ef_2 (m : MethodId) (x0 : Int32) : entryFrame m #[(.int x0)] 1 = mkF m 0 #[.val (.int x0)] [] := by first | (simp [entryFrame, mkF, argsToLocals, Value.category]; done) | rfl
def f2 (p0 : Int32) : Int32 :=
  if p0 = (48 : Int32) then ((1 : Int32)) else
  (if p0 = (49 : Int32) then ((1 : Int32)) else
  (if p0 = (50 : Int32) then ((1 : Int32)) else
  (if p0 = (51 : Int32) then ((1 : Int32)) else
  (if p0 = (52 : Int32) then ((1 : Int32)) else
  (if p0 = (53 : Int32) then ((1 : Int32)) else
  (if p0 = (54 : Int32) then ((1 : Int32)) else
  (if p0 = (55 : Int32) then ((1 : Int32)) else
  (if p0 = (56 : Int32) then ((1 : Int32)) else
  (if p0 = (57 : Int32) then ((1 : Int32)) else
  ((0 : Int32)))))))))))
def Q2 (Z : State) (p0 : Int32) (h0 : Heap) (n0 : Nat) (v : Option Value) (h : Heap) (L : List Loc) : Prop := v = some (.int (f2 p0)) ∧ Fr n0 L ∧ h = h0
set_option maxRecDepth 65536 in
set_option maxHeartbeats 40000000 in
theorem rm2 (l : Launch) (Z : State) (a0 : Array Value) (hw : ∀ d ∈ tables_1, d.before a0 Z = true) (ws : List Jvm.Cond) (p0 : Int32) (h0 : Heap) (n0 : Nat) (Z0 : n0 ≤ h0.size) :
    MetFree l (⟨"com/example/indentary/indentary/reader/SectionHeadingIsDigitPinLaw", "oneOfTen", "(C)Z"⟩ : MethodName) (head1 (Jvm.Cond.code (⟨"com/example/indentary/indentary/reader/SectionHeadingIsDigitPinLaw", "oneOfTen", "(C)Z"⟩ : MethodName) method_2_code 1 (some .boolean) :: ws) ({ frames := 0, cells := 0, slots := 0, locals := 0 } : Room)) (fun a U => a = #[(.int p0)] ∧ Z.Warmed39 U.vm ∧ U.heap = h0) (fun _ _ _ _ _ => True) (fun _ U o U' => ∃ v L, o = .returned v ∧ Q2 Z p0 h0 n0 v U'.heap L ∧ FrameEnd U o U' L ({ frames := 0, cells := 0, slots := 0, locals := 0 } : Room).cells ({ frames := 0, cells := 0, slots := 0, locals := 0 } : Room).slots) := by
  refine MetFree.of_bodySF (plainFor_of_name pn_2) hisR ?_
  intro p e s m args below meth c s₁ Bd hml0 hP hK
  obtain ⟨rfl, hZ, hh⟩ := hP
  have hx := Bd.exec
  have hby := Bd.bytes
  have hml : c.maxLocals = 1 := hml0
  have hown : s.vm.findClass "com/example/indentary/indentary/reader/SectionHeadingIsDigitPinLaw" = some m.cls := findClass_of_methodNamed Bd.named
  have hnm := (name_of_methodNamed Bd.named Bd.method).1
  have X0 : Stand p l e ({ frames := 0, cells := 0, slots := 0, locals := 0 } : Room) s m #[(.int p0)] below meth c s₁ [] 0 0 := Stand.of_body Bd
  have e0 : s₁.heap = h0 := by rw [← hh, Bd.state]; rfl
  have N0 := Fr.nil n0
  have pre0 : ∀ t, Steps p.tables e below (s₁.setTop (mkF m 0 #[.val (.int p0)] [])) t → Steps p.tables e below (s₁.setTop (entryFrame m #[(.int p0)] 1)) t := fun t k => castTop (ef_2 m p0) k
  have pre1 : ∀ t, Steps p.tables e below (s₁.setTop (mkF m 3 #[.val (.int p0)] [(.int (48 : Int32)), (.int p0)])) t → Steps p.tables e below (s₁.setTop (entryFrame m #[(.int p0)] 1)) t := fun t kt => pre0 t (by
      show Steps p.tables e below (s₁.setTop (mkF m 0 #[.val (.int p0)] [])) _
      refine XS.iloadN X0.here hx rfl (hb hby d2_0) rfl ?_
      show Steps p.tables e below (s₁.setTop (mkF m 1 #[.val (.int p0)] [(.int p0)])) _
      refine XS.bipush X0.here hx rfl (hb hby d2_1) ?_
      exact kt)
  by_cases hc3_2 : p0 = (48 : Int32)
  · obtain ⟨fs, hr, hrun, hended, hW, hsame⟩ := X0.leave (v := some (.int (1 : Int32))) (fun h => by rw [Bd.returns] at h; cases h)
    have hv21 : (f2 p0) = (1 : Int32) := by rw [f2, if_pos hc3_2]
    refine ⟨_, _, pre1 _ ?_, hrun, hended, _, _, rfl, ?_, ⟨_, rfl⟩, hW, hsame.mono (by decide) (by decide)⟩
    · show Steps p.tables e below (s₁.setTop (mkF m 3 #[.val (.int p0)] [(.int (48 : Int32)), (.int p0)])) _
      refine XS.icmpYes X0.here hx rfl (pc0 := 3) (pc' := 60) rfl (hb hby d2_3) rfl (teq hc3_2).1 (by decide) (by decide) ?_
      show Steps p.tables e below (s₁.setTop (mkF m 60 #[.val (.int p0)] [])) _
      refine XS.iconst X0.here hx rfl (hb hby d2_60) ?_
      show Steps p.tables e below (s₁.setTop (mkF m 61 #[.val (.int p0)] [(.int (1 : Int32))])) _
      refine XS.goto X0.here hx rfl (pc0 := 61) (pc' := 65) rfl (hb hby d2_61) (by decide) (by decide) ?_
      show Steps p.tables e below (s₁.setTop (mkF m 65 #[.val (.int p0)] [(.int (1 : Int32))])) _
      exact retN X0 hx (t := .boolean) Bd.returns (by simp) (hb hby d2_65) hr
    · show Q2 Z p0 h0 n0 _ s₁.heap _
      rw [e0]
      exact ⟨congrArg (fun q => some (Value.int q)) hv21.symm, N0, rfl⟩
  · have pre3 : ∀ t, Steps p.tables e below (s₁.setTop (mkF m 9 #[.val (.int p0)] [(.int (49 : Int32)), (.int p0)])) t → Steps p.tables e below (s₁.setTop (entryFrame m #[(.int p0)] 1)) t := fun t kt => pre1 t (by
        show Steps p.tables e below (s₁.setTop (mkF m 3 #[.val (.int p0)] [(.int (48 : Int32)), (.int p0)])) _
        refine XS.icmpNo X0.here hx rfl (hb hby d2_3) rfl (feq hc3_2).1 ?_
        show Steps p.tables e below (s₁.setTop (mkF m 6 #[.val (.int p0)] [])) _
        refine XS.iloadN X0.here hx rfl (hb hby d2_6) rfl ?_
        show Steps p.tables e below (s₁.setTop (mkF m 7 #[.val (.int p0)] [(.int p0)])) _
        refine XS.bipush X0.here hx rfl (hb hby d2_7) ?_
        exact kt)
    by_cases hc9_4 : p0 = (49 : Int32)
    · obtain ⟨fs, hr, hrun, hended, hW, hsame⟩ := X0.leave (v := some (.int (1 : Int32))) (fun h => by rw [Bd.returns] at h; cases h)
      have hv22 : (f2 p0) = (1 : Int32) := by rw [f2, if_neg hc3_2, if_pos hc9_4]
      refine ⟨_, _, pre3 _ ?_, hrun, hended, _, _, rfl, ?_, ⟨_, rfl⟩, hW, hsame.mono (by decide) (by decide)⟩
      · show Steps p.tables e below (s₁.setTop (mkF m 9 #[.val (.int p0)] [(.int (49 : Int32)), (.int p0)])) _
        refine XS.icmpYes X0.here hx rfl (pc0 := 9) (pc' := 60) rfl (hb hby d2_9) rfl (teq hc9_4).1 (by decide) (by decide) ?_
        show Steps p.tables e below (s₁.setTop (mkF m 60 #[.val (.int p0)] [])) _
        refine XS.iconst X0.here hx rfl (hb hby d2_60) ?_
        show Steps p.tables e below (s₁.setTop (mkF m 61 #[.val (.int p0)] [(.int (1 : Int32))])) _
        refine XS.goto X0.here hx rfl (pc0 := 61) (pc' := 65) rfl (hb hby d2_61) (by decide) (by decide) ?_
        show Steps p.tables e below (s₁.setTop (mkF m 65 #[.val (.int p0)] [(.int (1 : Int32))])) _
        exact retN X0 hx (t := .boolean) Bd.returns (by simp) (hb hby d2_65) hr
      · show Q2 Z p0 h0 n0 _ s₁.heap _
        rw [e0]
        exact ⟨congrArg (fun q => some (Value.int q)) hv22.symm, N0, rfl⟩
    · have pre5 : ∀ t, Steps p.tables e below (s₁.setTop (mkF m 15 #[.val (.int p0)] [(.int (50 : Int32)), (.int p0)])) t → Steps p.tables e below (s₁.setTop (entryFrame m #[(.int p0)] 1)) t := fun t kt => pre3 t (by
          show Steps p.tables e below (s₁.setTop (mkF m 9 #[.val (.int p0)] [(.int (49 : Int32)), (.int p0)])) _
          refine XS.icmpNo X0.here hx rfl (hb hby d2_9) rfl (feq hc9_4).1 ?_
          show Steps p.tables e below (s₁.setTop (mkF m 12 #[.val (.int p0)] [])) _
          refine XS.iloadN X0.here hx rfl (hb hby d2_12) rfl ?_
          show Steps p.tables e below (s₁.setTop (mkF m 13 #[.val (.int p0)] [(.int p0)])) _
          refine XS.bipush X0.here hx rfl (hb hby d2_13) ?_
          exact kt)
      by_cases hc15_6 : p0 = (50 : Int32)
      · obtain ⟨fs, hr, hrun, hended, hW, hsame⟩ := X0.leave (v := some (.int (1 : Int32))) (fun h => by rw [Bd.returns] at h; cases h)
        have hv23 : (f2 p0) = (1 : Int32) := by rw [f2, if_neg hc3_2, if_neg hc9_4, if_pos hc15_6]
        refine ⟨_, _, pre5 _ ?_, hrun, hended, _, _, rfl, ?_, ⟨_, rfl⟩, hW, hsame.mono (by decide) (by decide)⟩
        · show Steps p.tables e below (s₁.setTop (mkF m 15 #[.val (.int p0)] [(.int (50 : Int32)), (.int p0)])) _
          refine XS.icmpYes X0.here hx rfl (pc0 := 15) (pc' := 60) rfl (hb hby d2_15) rfl (teq hc15_6).1 (by decide) (by decide) ?_
          show Steps p.tables e below (s₁.setTop (mkF m 60 #[.val (.int p0)] [])) _
          refine XS.iconst X0.here hx rfl (hb hby d2_60) ?_
          show Steps p.tables e below (s₁.setTop (mkF m 61 #[.val (.int p0)] [(.int (1 : Int32))])) _
          refine XS.goto X0.here hx rfl (pc0 := 61) (pc' := 65) rfl (hb hby d2_61) (by decide) (by decide) ?_
          show Steps p.tables e below (s₁.setTop (mkF m 65 #[.val (.int p0)] [(.int (1 : Int32))])) _
          exact retN X0 hx (t := .boolean) Bd.returns (by simp) (hb hby d2_65) hr
        · show Q2 Z p0 h0 n0 _ s₁.heap _
          rw [e0]
          exact ⟨congrArg (fun q => some (Value.int q)) hv23.symm, N0, rfl⟩
      · have pre7 : ∀ t, Steps p.tables e below (s₁.setTop (mkF m 21 #[.val (.int p0)] [(.int (51 : Int32)), (.int p0)])) t → Steps p.tables e below (s₁.setTop (entryFrame m #[(.int p0)] 1)) t := fun t kt => pre5 t (by
            show Steps p.tables e below (s₁.setTop (mkF m 15 #[.val (.int p0)] [(.int (50 : Int32)), (.int p0)])) _
            refine XS.icmpNo X0.here hx rfl (hb hby d2_15) rfl (feq hc15_6).1 ?_
            show Steps p.tables e below (s₁.setTop (mkF m 18 #[.val (.int p0)] [])) _
            refine XS.iloadN X0.here hx rfl (hb hby d2_18) rfl ?_
            show Steps p.tables e below (s₁.setTop (mkF m 19 #[.val (.int p0)] [(.int p0)])) _
            refine XS.bipush X0.here hx rfl (hb hby d2_19) ?_
            exact kt)
        by_cases hc21_8 : p0 = (51 : Int32)
        · obtain ⟨fs, hr, hrun, hended, hW, hsame⟩ := X0.leave (v := some (.int (1 : Int32))) (fun h => by rw [Bd.returns] at h; cases h)
          have hv24 : (f2 p0) = (1 : Int32) := by rw [f2, if_neg hc3_2, if_neg hc9_4, if_neg hc15_6, if_pos hc21_8]
          refine ⟨_, _, pre7 _ ?_, hrun, hended, _, _, rfl, ?_, ⟨_, rfl⟩, hW, hsame.mono (by decide) (by decide)⟩
          · show Steps p.tables e below (s₁.setTop (mkF m 21 #[.val (.int p0)] [(.int (51 : Int32)), (.int p0)])) _
            refine XS.icmpYes X0.here hx rfl (pc0 := 21) (pc' := 60) rfl (hb hby d2_21) rfl (teq hc21_8).1 (by decide) (by decide) ?_
            show Steps p.tables e below (s₁.setTop (mkF m 60 #[.val (.int p0)] [])) _
            refine XS.iconst X0.here hx rfl (hb hby d2_60) ?_
            show Steps p.tables e below (s₁.setTop (mkF m 61 #[.val (.int p0)] [(.int (1 : Int32))])) _
            refine XS.goto X0.here hx rfl (pc0 := 61) (pc' := 65) rfl (hb hby d2_61) (by decide) (by decide) ?_
            show Steps p.tables e below (s₁.setTop (mkF m 65 #[.val (.int p0)] [(.int (1 : Int32))])) _
            exact retN X0 hx (t := .boolean) Bd.returns (by simp) (hb hby d2_65) hr
          · show Q2 Z p0 h0 n0 _ s₁.heap _
            rw [e0]
            exact ⟨congrArg (fun q => some (Value.int q)) hv24.symm, N0, rfl⟩
        · have pre9 : ∀ t, Steps p.tables e below (s₁.setTop (mkF m 27 #[.val (.int p0)] [(.int (52 : Int32)), (.int p0)])) t → Steps p.tables e below (s₁.setTop (entryFrame m #[(.int p0)] 1)) t := fun t kt => pre7 t (by
              show Steps p.tables e below (s₁.setTop (mkF m 21 #[.val (.int p0)] [(.int (51 : Int32)), (.int p0)])) _
              refine XS.icmpNo X0.here hx rfl (hb hby d2_21) rfl (feq hc21_8).1 ?_
              show Steps p.tables e below (s₁.setTop (mkF m 24 #[.val (.int p0)] [])) _
              refine XS.iloadN X0.here hx rfl (hb hby d2_24) rfl ?_
              show Steps p.tables e below (s₁.setTop (mkF m 25 #[.val (.int p0)] [(.int p0)])) _
              refine XS.bipush X0.here hx rfl (hb hby d2_25) ?_
              exact kt)
          by_cases hc27_10 : p0 = (52 : Int32)
          · obtain ⟨fs, hr, hrun, hended, hW, hsame⟩ := X0.leave (v := some (.int (1 : Int32))) (fun h => by rw [Bd.returns] at h; cases h)
            have hv25 : (f2 p0) = (1 : Int32) := by rw [f2, if_neg hc3_2, if_neg hc9_4, if_neg hc15_6, if_neg hc21_8, if_pos hc27_10]
            refine ⟨_, _, pre9 _ ?_, hrun, hended, _, _, rfl, ?_, ⟨_, rfl⟩, hW, hsame.mono (by decide) (by decide)⟩
            · show Steps p.tables e below (s₁.setTop (mkF m 27 #[.val (.int p0)] [(.int (52 : Int32)), (.int p0)])) _
              refine XS.icmpYes X0.here hx rfl (pc0 := 27) (pc' := 60) rfl (hb hby d2_27) rfl (teq hc27_10).1 (by decide) (by decide) ?_
              show Steps p.tables e below (s₁.setTop (mkF m 60 #[.val (.int p0)] [])) _
              refine XS.iconst X0.here hx rfl (hb hby d2_60) ?_
              show Steps p.tables e below (s₁.setTop (mkF m 61 #[.val (.int p0)] [(.int (1 : Int32))])) _
              refine XS.goto X0.here hx rfl (pc0 := 61) (pc' := 65) rfl (hb hby d2_61) (by decide) (by decide) ?_
              show Steps p.tables e below (s₁.setTop (mkF m 65 #[.val (.int p0)] [(.int (1 : Int32))])) _
              exact retN X0 hx (t := .boolean) Bd.returns (by simp) (hb hby d2_65) hr
            · show Q2 Z p0 h0 n0 _ s₁.heap _
              rw [e0]
              exact ⟨congrArg (fun q => some (Value.int q)) hv25.symm, N0, rfl⟩
          · have pre11 : ∀ t, Steps p.tables e below (s₁.setTop (mkF m 33 #[.val (.int p0)] [(.int (53 : Int32)), (.int p0)])) t → Steps p.tables e below (s₁.setTop (entryFrame m #[(.int p0)] 1)) t := fun t kt => pre9 t (by
                show Steps p.tables e below (s₁.setTop (mkF m 27 #[.val (.int p0)] [(.int (52 : Int32)), (.int p0)])) _
                refine XS.icmpNo X0.here hx rfl (hb hby d2_27) rfl (feq hc27_10).1 ?_
                show Steps p.tables e below (s₁.setTop (mkF m 30 #[.val (.int p0)] [])) _
                refine XS.iloadN X0.here hx rfl (hb hby d2_30) rfl ?_
                show Steps p.tables e below (s₁.setTop (mkF m 31 #[.val (.int p0)] [(.int p0)])) _
                refine XS.bipush X0.here hx rfl (hb hby d2_31) ?_
                exact kt)
            by_cases hc33_12 : p0 = (53 : Int32)
            · obtain ⟨fs, hr, hrun, hended, hW, hsame⟩ := X0.leave (v := some (.int (1 : Int32))) (fun h => by rw [Bd.returns] at h; cases h)
              have hv26 : (f2 p0) = (1 : Int32) := by rw [f2, if_neg hc3_2, if_neg hc9_4, if_neg hc15_6, if_neg hc21_8, if_neg hc27_10, if_pos hc33_12]
              refine ⟨_, _, pre11 _ ?_, hrun, hended, _, _, rfl, ?_, ⟨_, rfl⟩, hW, hsame.mono (by decide) (by decide)⟩
              · show Steps p.tables e below (s₁.setTop (mkF m 33 #[.val (.int p0)] [(.int (53 : Int32)), (.int p0)])) _
                refine XS.icmpYes X0.here hx rfl (pc0 := 33) (pc' := 60) rfl (hb hby d2_33) rfl (teq hc33_12).1 (by decide) (by decide) ?_
                show Steps p.tables e below (s₁.setTop (mkF m 60 #[.val (.int p0)] [])) _
                refine XS.iconst X0.here hx rfl (hb hby d2_60) ?_
                show Steps p.tables e below (s₁.setTop (mkF m 61 #[.val (.int p0)] [(.int (1 : Int32))])) _
                refine XS.goto X0.here hx rfl (pc0 := 61) (pc' := 65) rfl (hb hby d2_61) (by decide) (by decide) ?_
                show Steps p.tables e below (s₁.setTop (mkF m 65 #[.val (.int p0)] [(.int (1 : Int32))])) _
                exact retN X0 hx (t := .boolean) Bd.returns (by simp) (hb hby d2_65) hr
              · show Q2 Z p0 h0 n0 _ s₁.heap _
                rw [e0]
                exact ⟨congrArg (fun q => some (Value.int q)) hv26.symm, N0, rfl⟩
            · have pre13 : ∀ t, Steps p.tables e below (s₁.setTop (mkF m 39 #[.val (.int p0)] [(.int (54 : Int32)), (.int p0)])) t → Steps p.tables e below (s₁.setTop (entryFrame m #[(.int p0)] 1)) t := fun t kt => pre11 t (by
                  show Steps p.tables e below (s₁.setTop (mkF m 33 #[.val (.int p0)] [(.int (53 : Int32)), (.int p0)])) _
                  refine XS.icmpNo X0.here hx rfl (hb hby d2_33) rfl (feq hc33_12).1 ?_
                  show Steps p.tables e below (s₁.setTop (mkF m 36 #[.val (.int p0)] [])) _
                  refine XS.iloadN X0.here hx rfl (hb hby d2_36) rfl ?_
                  show Steps p.tables e below (s₁.setTop (mkF m 37 #[.val (.int p0)] [(.int p0)])) _
                  refine XS.bipush X0.here hx rfl (hb hby d2_37) ?_
                  exact kt)
              by_cases hc39_14 : p0 = (54 : Int32)
              · obtain ⟨fs, hr, hrun, hended, hW, hsame⟩ := X0.leave (v := some (.int (1 : Int32))) (fun h => by rw [Bd.returns] at h; cases h)
                have hv27 : (f2 p0) = (1 : Int32) := by rw [f2, if_neg hc3_2, if_neg hc9_4, if_neg hc15_6, if_neg hc21_8, if_neg hc27_10, if_neg hc33_12, if_pos hc39_14]
                refine ⟨_, _, pre13 _ ?_, hrun, hended, _, _, rfl, ?_, ⟨_, rfl⟩, hW, hsame.mono (by decide) (by decide)⟩
                · show Steps p.tables e below (s₁.setTop (mkF m 39 #[.val (.int p0)] [(.int (54 : Int32)), (.int p0)])) _
                  refine XS.icmpYes X0.here hx rfl (pc0 := 39) (pc' := 60) rfl (hb hby d2_39) rfl (teq hc39_14).1 (by decide) (by decide) ?_
                  show Steps p.tables e below (s₁.setTop (mkF m 60 #[.val (.int p0)] [])) _
                  refine XS.iconst X0.here hx rfl (hb hby d2_60) ?_
                  show Steps p.tables e below (s₁.setTop (mkF m 61 #[.val (.int p0)] [(.int (1 : Int32))])) _
                  refine XS.goto X0.here hx rfl (pc0 := 61) (pc' := 65) rfl (hb hby d2_61) (by decide) (by decide) ?_
                  show Steps p.tables e below (s₁.setTop (mkF m 65 #[.val (.int p0)] [(.int (1 : Int32))])) _
                  exact retN X0 hx (t := .boolean) Bd.returns (by simp) (hb hby d2_65) hr
                · show Q2 Z p0 h0 n0 _ s₁.heap _
                  rw [e0]
                  exact ⟨congrArg (fun q => some (Value.int q)) hv27.symm, N0, rfl⟩
              · have pre15 : ∀ t, Steps p.tables e below (s₁.setTop (mkF m 45 #[.val (.int p0)] [(.int (55 : Int32)), (.int p0)])) t → Steps p.tables e below (s₁.setTop (entryFrame m #[(.int p0)] 1)) t := fun t kt => pre13 t (by
                    show Steps p.tables e below (s₁.setTop (mkF m 39 #[.val (.int p0)] [(.int (54 : Int32)), (.int p0)])) _
                    refine XS.icmpNo X0.here hx rfl (hb hby d2_39) rfl (feq hc39_14).1 ?_
                    show Steps p.tables e below (s₁.setTop (mkF m 42 #[.val (.int p0)] [])) _
                    refine XS.iloadN X0.here hx rfl (hb hby d2_42) rfl ?_
                    show Steps p.tables e below (s₁.setTop (mkF m 43 #[.val (.int p0)] [(.int p0)])) _
                    refine XS.bipush X0.here hx rfl (hb hby d2_43) ?_
                    exact kt)
                by_cases hc45_16 : p0 = (55 : Int32)
                · obtain ⟨fs, hr, hrun, hended, hW, hsame⟩ := X0.leave (v := some (.int (1 : Int32))) (fun h => by rw [Bd.returns] at h; cases h)
                  have hv28 : (f2 p0) = (1 : Int32) := by rw [f2, if_neg hc3_2, if_neg hc9_4, if_neg hc15_6, if_neg hc21_8, if_neg hc27_10, if_neg hc33_12, if_neg hc39_14, if_pos hc45_16]
                  refine ⟨_, _, pre15 _ ?_, hrun, hended, _, _, rfl, ?_, ⟨_, rfl⟩, hW, hsame.mono (by decide) (by decide)⟩
                  · show Steps p.tables e below (s₁.setTop (mkF m 45 #[.val (.int p0)] [(.int (55 : Int32)), (.int p0)])) _
                    refine XS.icmpYes X0.here hx rfl (pc0 := 45) (pc' := 60) rfl (hb hby d2_45) rfl (teq hc45_16).1 (by decide) (by decide) ?_
                    show Steps p.tables e below (s₁.setTop (mkF m 60 #[.val (.int p0)] [])) _
                    refine XS.iconst X0.here hx rfl (hb hby d2_60) ?_
                    show Steps p.tables e below (s₁.setTop (mkF m 61 #[.val (.int p0)] [(.int (1 : Int32))])) _
                    refine XS.goto X0.here hx rfl (pc0 := 61) (pc' := 65) rfl (hb hby d2_61) (by decide) (by decide) ?_
                    show Steps p.tables e below (s₁.setTop (mkF m 65 #[.val (.int p0)] [(.int (1 : Int32))])) _
                    exact retN X0 hx (t := .boolean) Bd.returns (by simp) (hb hby d2_65) hr
                  · show Q2 Z p0 h0 n0 _ s₁.heap _
                    rw [e0]
                    exact ⟨congrArg (fun q => some (Value.int q)) hv28.symm, N0, rfl⟩
                · have pre17 : ∀ t, Steps p.tables e below (s₁.setTop (mkF m 51 #[.val (.int p0)] [(.int (56 : Int32)), (.int p0)])) t → Steps p.tables e below (s₁.setTop (entryFrame m #[(.int p0)] 1)) t := fun t kt => pre15 t (by
                      show Steps p.tables e below (s₁.setTop (mkF m 45 #[.val (.int p0)] [(.int (55 : Int32)), (.int p0)])) _
                      refine XS.icmpNo X0.here hx rfl (hb hby d2_45) rfl (feq hc45_16).1 ?_
                      show Steps p.tables e below (s₁.setTop (mkF m 48 #[.val (.int p0)] [])) _
                      refine XS.iloadN X0.here hx rfl (hb hby d2_48) rfl ?_
                      show Steps p.tables e below (s₁.setTop (mkF m 49 #[.val (.int p0)] [(.int p0)])) _
                      refine XS.bipush X0.here hx rfl (hb hby d2_49) ?_
                      exact kt)
                  by_cases hc51_18 : p0 = (56 : Int32)
                  · obtain ⟨fs, hr, hrun, hended, hW, hsame⟩ := X0.leave (v := some (.int (1 : Int32))) (fun h => by rw [Bd.returns] at h; cases h)
                    have hv29 : (f2 p0) = (1 : Int32) := by rw [f2, if_neg hc3_2, if_neg hc9_4, if_neg hc15_6, if_neg hc21_8, if_neg hc27_10, if_neg hc33_12, if_neg hc39_14, if_neg hc45_16, if_pos hc51_18]
                    refine ⟨_, _, pre17 _ ?_, hrun, hended, _, _, rfl, ?_, ⟨_, rfl⟩, hW, hsame.mono (by decide) (by decide)⟩
                    · show Steps p.tables e below (s₁.setTop (mkF m 51 #[.val (.int p0)] [(.int (56 : Int32)), (.int p0)])) _
                      refine XS.icmpYes X0.here hx rfl (pc0 := 51) (pc' := 60) rfl (hb hby d2_51) rfl (teq hc51_18).1 (by decide) (by decide) ?_
                      show Steps p.tables e below (s₁.setTop (mkF m 60 #[.val (.int p0)] [])) _
                      refine XS.iconst X0.here hx rfl (hb hby d2_60) ?_
                      show Steps p.tables e below (s₁.setTop (mkF m 61 #[.val (.int p0)] [(.int (1 : Int32))])) _
                      refine XS.goto X0.here hx rfl (pc0 := 61) (pc' := 65) rfl (hb hby d2_61) (by decide) (by decide) ?_
                      show Steps p.tables e below (s₁.setTop (mkF m 65 #[.val (.int p0)] [(.int (1 : Int32))])) _
                      exact retN X0 hx (t := .boolean) Bd.returns (by simp) (hb hby d2_65) hr
                    · show Q2 Z p0 h0 n0 _ s₁.heap _
                      rw [e0]
                      exact ⟨congrArg (fun q => some (Value.int q)) hv29.symm, N0, rfl⟩
                  · have pre19 : ∀ t, Steps p.tables e below (s₁.setTop (mkF m 57 #[.val (.int p0)] [(.int (57 : Int32)), (.int p0)])) t → Steps p.tables e below (s₁.setTop (entryFrame m #[(.int p0)] 1)) t := fun t kt => pre17 t (by
                        show Steps p.tables e below (s₁.setTop (mkF m 51 #[.val (.int p0)] [(.int (56 : Int32)), (.int p0)])) _
                        refine XS.icmpNo X0.here hx rfl (hb hby d2_51) rfl (feq hc51_18).1 ?_
                        show Steps p.tables e below (s₁.setTop (mkF m 54 #[.val (.int p0)] [])) _
                        refine XS.iloadN X0.here hx rfl (hb hby d2_54) rfl ?_
                        show Steps p.tables e below (s₁.setTop (mkF m 55 #[.val (.int p0)] [(.int p0)])) _
                        refine XS.bipush X0.here hx rfl (hb hby d2_55) ?_
                        exact kt)
                    by_cases hc57_20 : p0 = (57 : Int32)
                    · obtain ⟨fs, hr, hrun, hended, hW, hsame⟩ := X0.leave (v := some (.int (1 : Int32))) (fun h => by rw [Bd.returns] at h; cases h)
                      have hv30 : (f2 p0) = (1 : Int32) := by rw [f2, if_neg hc3_2, if_neg hc9_4, if_neg hc15_6, if_neg hc21_8, if_neg hc27_10, if_neg hc33_12, if_neg hc39_14, if_neg hc45_16, if_neg hc51_18, if_pos hc57_20]
                      refine ⟨_, _, pre19 _ ?_, hrun, hended, _, _, rfl, ?_, ⟨_, rfl⟩, hW, hsame.mono (by decide) (by decide)⟩
                      · show Steps p.tables e below (s₁.setTop (mkF m 57 #[.val (.int p0)] [(.int (57 : Int32)), (.int p0)])) _
                        refine XS.icmpNo X0.here hx rfl (hb hby d2_57) rfl (teq hc57_20).2 ?_
                        show Steps p.tables e below (s₁.setTop (mkF m 60 #[.val (.int p0)] [])) _
                        refine XS.iconst X0.here hx rfl (hb hby d2_60) ?_
                        show Steps p.tables e below (s₁.setTop (mkF m 61 #[.val (.int p0)] [(.int (1 : Int32))])) _
                        refine XS.goto X0.here hx rfl (pc0 := 61) (pc' := 65) rfl (hb hby d2_61) (by decide) (by decide) ?_
                        show Steps p.tables e below (s₁.setTop (mkF m 65 #[.val (.int p0)] [(.int (1 : Int32))])) _
                        exact retN X0 hx (t := .boolean) Bd.returns (by simp) (hb hby d2_65) hr
                      · show Q2 Z p0 h0 n0 _ s₁.heap _
                        rw [e0]
                        exact ⟨congrArg (fun q => some (Value.int q)) hv30.symm, N0, rfl⟩
                    · obtain ⟨fs, hr, hrun, hended, hW, hsame⟩ := X0.leave (v := some (.int (0 : Int32))) (fun h => by rw [Bd.returns] at h; cases h)
                      have hv31 : (f2 p0) = (0 : Int32) := by rw [f2, if_neg hc3_2, if_neg hc9_4, if_neg hc15_6, if_neg hc21_8, if_neg hc27_10, if_neg hc33_12, if_neg hc39_14, if_neg hc45_16, if_neg hc51_18, if_neg hc57_20]
                      refine ⟨_, _, pre19 _ ?_, hrun, hended, _, _, rfl, ?_, ⟨_, rfl⟩, hW, hsame.mono (by decide) (by decide)⟩
                      · show Steps p.tables e below (s₁.setTop (mkF m 57 #[.val (.int p0)] [(.int (57 : Int32)), (.int p0)])) _
                        refine XS.icmpYes X0.here hx rfl (pc0 := 57) (pc' := 64) rfl (hb hby d2_57) rfl (feq hc57_20).2 (by decide) (by decide) ?_
                        show Steps p.tables e below (s₁.setTop (mkF m 64 #[.val (.int p0)] [])) _
                        refine XS.iconst X0.here hx rfl (hb hby d2_64) ?_
                        show Steps p.tables e below (s₁.setTop (mkF m 65 #[.val (.int p0)] [(.int (0 : Int32))])) _
                        exact retN X0 hx (t := .boolean) Bd.returns (by simp) (hb hby d2_65) hr
                      · show Q2 Z p0 h0 n0 _ s₁.heap _
                        rw [e0]
                        exact ⟨congrArg (fun q => some (Value.int q)) hv31.symm, N0, rfl⟩
theorem pn_0 : plainName "com/example/indentary/indentary/reader/SectionHeadingIsDigitPinLaw" = true := by first | (simp [plainName, overriddenIn]; done) | decide +kernel
theorem pd_0_0 : parseMethodDescriptor "(C)Z" = some ⟨[.char], some .boolean⟩ := by decide +kernel
theorem ef_0 (m : MethodId) (x0 : Int32) (x1 : Int32) : entryFrame m #[(.int x0), (.int x1)] maxLocals = mkF m 0 #[.val (.int x0), .val (.int x1), .unset, .unset, .unset, .unset, .unset, .unset] [] := by first | (simp [entryFrame, mkF, argsToLocals, Value.category, maxLocals]; done) | rfl
def e0_1 (p0 : Int32) : Int32 := ((p0 &&& (65535 : Int32)).toUInt32.toUInt16.toUInt32.toInt32)
def e0_2 (p1 : Int32) : Int32 := ((p1 &&& (2147483647 : Int32)) - ((p1 &&& (2147483647 : Int32)) / (12 : Int32)) * (12 : Int32))
def e0_3 (p1 : Int32) : Int32 := (((47 : Int32) + (e0_2 p1)).toUInt32.toUInt16.toUInt32.toInt32)
def f0 (p0 : Int32) (p1 : Int32) : Int32 :=
  if (f1 (e0_1 p0)) = (f2 (e0_1 p0)) then (if (e0_2 p1) < (1 : Int32) then (if (f1 (e0_3 p1)) = (0 : Int32) then (if (f2 (e0_3 p1)) = (0 : Int32) then ((1 : Int32)) else
  ((0 : Int32))) else
  ((0 : Int32))) else
  (if (10 : Int32) < (e0_2 p1) then (if (f1 (e0_3 p1)) = (0 : Int32) then (if (f2 (e0_3 p1)) = (0 : Int32) then ((1 : Int32)) else
  ((0 : Int32))) else
  ((0 : Int32))) else
  (if (f1 (e0_3 p1)) = (1 : Int32) then (if (f2 (e0_3 p1)) = (1 : Int32) then ((1 : Int32)) else
  ((0 : Int32))) else
  ((0 : Int32))))) else
  (if (e0_2 p1) < (1 : Int32) then (if (f1 (e0_3 p1)) = (0 : Int32) then (if (f2 (e0_3 p1)) = (0 : Int32) then ((0 : Int32)) else
  ((0 : Int32))) else
  ((0 : Int32))) else
  (if (10 : Int32) < (e0_2 p1) then (if (f1 (e0_3 p1)) = (0 : Int32) then (if (f2 (e0_3 p1)) = (0 : Int32) then ((0 : Int32)) else
  ((0 : Int32))) else
  ((0 : Int32))) else
  (if (f1 (e0_3 p1)) = (1 : Int32) then (if (f2 (e0_3 p1)) = (1 : Int32) then ((0 : Int32)) else
  ((0 : Int32))) else
  ((0 : Int32)))))
theorem own_lt (c k : Int32) (n : Int) (hk : k.toInt = n) (h : c.toInt < n) : c < k := by rw [Int32.lt_iff_toInt_lt, hk]; exact h
theorem own_nlt (c k : Int32) (n : Int) (hk : k.toInt = n) (h : n ≤ c.toInt) : ¬ c < k := by rw [Int32.lt_iff_toInt_lt, hk]; omega
theorem own_gt (c k : Int32) (n : Int) (hk : k.toInt = n) (h : n < c.toInt) : k < c := by rw [Int32.lt_iff_toInt_lt, hk]; exact h
theorem own_ngt (c k : Int32) (n : Int) (hk : k.toInt = n) (h : c.toInt ≤ n) : ¬ k < c := by rw [Int32.lt_iff_toInt_lt, hk]; omega
theorem own_is (c k : Int32) (n : Int) (hk : k.toInt = n) (h : c.toInt = n) : c = k := Int32.toInt_inj.mp (by rw [hk]; exact h)
theorem own_isnt (c k : Int32) (n : Int) (hk : k.toInt = n) (h : ¬ c.toInt = n) : ¬ c = k := fun q => h (by rw [q]; exact hk)
theorem own_same (c : Int32) : f1 c = f2 c := by
  have hc : (c.toInt < 48) ∨ (c.toInt = 48) ∨ (c.toInt = 49) ∨ (c.toInt = 50) ∨ (c.toInt = 51) ∨ (c.toInt = 52) ∨ (c.toInt = 53) ∨ (c.toInt = 54) ∨ (c.toInt = 55) ∨ (c.toInt = 56) ∨ (c.toInt = 57) ∨ (57 < c.toInt) := by omega
  rcases hc with h | h | h | h | h | h | h | h | h | h | h | h
  · rw [f1, if_pos (own_lt c (48 : Int32) 48 (by decide) (by omega)), f2, if_neg (own_isnt c (48 : Int32) 48 (by decide) (by omega)), if_neg (own_isnt c (49 : Int32) 49 (by decide) (by omega)), if_neg (own_isnt c (50 : Int32) 50 (by decide) (by omega)), if_neg (own_isnt c (51 : Int32) 51 (by decide) (by omega)), if_neg (own_isnt c (52 : Int32) 52 (by decide) (by omega)), if_neg (own_isnt c (53 : Int32) 53 (by decide) (by omega)), if_neg (own_isnt c (54 : Int32) 54 (by decide) (by omega)), if_neg (own_isnt c (55 : Int32) 55 (by decide) (by omega)), if_neg (own_isnt c (56 : Int32) 56 (by decide) (by omega)), if_neg (own_isnt c (57 : Int32) 57 (by decide) (by omega))]
  · rw [f1, if_neg (own_nlt c (48 : Int32) 48 (by decide) (by omega)), if_neg (own_ngt c (57 : Int32) 57 (by decide) (by omega)), f2, if_pos (own_is c (48 : Int32) 48 (by decide) (by omega))]
  · rw [f1, if_neg (own_nlt c (48 : Int32) 48 (by decide) (by omega)), if_neg (own_ngt c (57 : Int32) 57 (by decide) (by omega)), f2, if_neg (own_isnt c (48 : Int32) 48 (by decide) (by omega)), if_pos (own_is c (49 : Int32) 49 (by decide) (by omega))]
  · rw [f1, if_neg (own_nlt c (48 : Int32) 48 (by decide) (by omega)), if_neg (own_ngt c (57 : Int32) 57 (by decide) (by omega)), f2, if_neg (own_isnt c (48 : Int32) 48 (by decide) (by omega)), if_neg (own_isnt c (49 : Int32) 49 (by decide) (by omega)), if_pos (own_is c (50 : Int32) 50 (by decide) (by omega))]
  · rw [f1, if_neg (own_nlt c (48 : Int32) 48 (by decide) (by omega)), if_neg (own_ngt c (57 : Int32) 57 (by decide) (by omega)), f2, if_neg (own_isnt c (48 : Int32) 48 (by decide) (by omega)), if_neg (own_isnt c (49 : Int32) 49 (by decide) (by omega)), if_neg (own_isnt c (50 : Int32) 50 (by decide) (by omega)), if_pos (own_is c (51 : Int32) 51 (by decide) (by omega))]
  · rw [f1, if_neg (own_nlt c (48 : Int32) 48 (by decide) (by omega)), if_neg (own_ngt c (57 : Int32) 57 (by decide) (by omega)), f2, if_neg (own_isnt c (48 : Int32) 48 (by decide) (by omega)), if_neg (own_isnt c (49 : Int32) 49 (by decide) (by omega)), if_neg (own_isnt c (50 : Int32) 50 (by decide) (by omega)), if_neg (own_isnt c (51 : Int32) 51 (by decide) (by omega)), if_pos (own_is c (52 : Int32) 52 (by decide) (by omega))]
  · rw [f1, if_neg (own_nlt c (48 : Int32) 48 (by decide) (by omega)), if_neg (own_ngt c (57 : Int32) 57 (by decide) (by omega)), f2, if_neg (own_isnt c (48 : Int32) 48 (by decide) (by omega)), if_neg (own_isnt c (49 : Int32) 49 (by decide) (by omega)), if_neg (own_isnt c (50 : Int32) 50 (by decide) (by omega)), if_neg (own_isnt c (51 : Int32) 51 (by decide) (by omega)), if_neg (own_isnt c (52 : Int32) 52 (by decide) (by omega)), if_pos (own_is c (53 : Int32) 53 (by decide) (by omega))]
  · rw [f1, if_neg (own_nlt c (48 : Int32) 48 (by decide) (by omega)), if_neg (own_ngt c (57 : Int32) 57 (by decide) (by omega)), f2, if_neg (own_isnt c (48 : Int32) 48 (by decide) (by omega)), if_neg (own_isnt c (49 : Int32) 49 (by decide) (by omega)), if_neg (own_isnt c (50 : Int32) 50 (by decide) (by omega)), if_neg (own_isnt c (51 : Int32) 51 (by decide) (by omega)), if_neg (own_isnt c (52 : Int32) 52 (by decide) (by omega)), if_neg (own_isnt c (53 : Int32) 53 (by decide) (by omega)), if_pos (own_is c (54 : Int32) 54 (by decide) (by omega))]
  · rw [f1, if_neg (own_nlt c (48 : Int32) 48 (by decide) (by omega)), if_neg (own_ngt c (57 : Int32) 57 (by decide) (by omega)), f2, if_neg (own_isnt c (48 : Int32) 48 (by decide) (by omega)), if_neg (own_isnt c (49 : Int32) 49 (by decide) (by omega)), if_neg (own_isnt c (50 : Int32) 50 (by decide) (by omega)), if_neg (own_isnt c (51 : Int32) 51 (by decide) (by omega)), if_neg (own_isnt c (52 : Int32) 52 (by decide) (by omega)), if_neg (own_isnt c (53 : Int32) 53 (by decide) (by omega)), if_neg (own_isnt c (54 : Int32) 54 (by decide) (by omega)), if_pos (own_is c (55 : Int32) 55 (by decide) (by omega))]
  · rw [f1, if_neg (own_nlt c (48 : Int32) 48 (by decide) (by omega)), if_neg (own_ngt c (57 : Int32) 57 (by decide) (by omega)), f2, if_neg (own_isnt c (48 : Int32) 48 (by decide) (by omega)), if_neg (own_isnt c (49 : Int32) 49 (by decide) (by omega)), if_neg (own_isnt c (50 : Int32) 50 (by decide) (by omega)), if_neg (own_isnt c (51 : Int32) 51 (by decide) (by omega)), if_neg (own_isnt c (52 : Int32) 52 (by decide) (by omega)), if_neg (own_isnt c (53 : Int32) 53 (by decide) (by omega)), if_neg (own_isnt c (54 : Int32) 54 (by decide) (by omega)), if_neg (own_isnt c (55 : Int32) 55 (by decide) (by omega)), if_pos (own_is c (56 : Int32) 56 (by decide) (by omega))]
  · rw [f1, if_neg (own_nlt c (48 : Int32) 48 (by decide) (by omega)), if_neg (own_ngt c (57 : Int32) 57 (by decide) (by omega)), f2, if_neg (own_isnt c (48 : Int32) 48 (by decide) (by omega)), if_neg (own_isnt c (49 : Int32) 49 (by decide) (by omega)), if_neg (own_isnt c (50 : Int32) 50 (by decide) (by omega)), if_neg (own_isnt c (51 : Int32) 51 (by decide) (by omega)), if_neg (own_isnt c (52 : Int32) 52 (by decide) (by omega)), if_neg (own_isnt c (53 : Int32) 53 (by decide) (by omega)), if_neg (own_isnt c (54 : Int32) 54 (by decide) (by omega)), if_neg (own_isnt c (55 : Int32) 55 (by decide) (by omega)), if_neg (own_isnt c (56 : Int32) 56 (by decide) (by omega)), if_pos (own_is c (57 : Int32) 57 (by decide) (by omega))]
  · rw [f1, if_neg (own_nlt c (48 : Int32) 48 (by decide) (by omega)), if_pos (own_gt c (57 : Int32) 57 (by decide) (by omega)), f2, if_neg (own_isnt c (48 : Int32) 48 (by decide) (by omega)), if_neg (own_isnt c (49 : Int32) 49 (by decide) (by omega)), if_neg (own_isnt c (50 : Int32) 50 (by decide) (by omega)), if_neg (own_isnt c (51 : Int32) 51 (by decide) (by omega)), if_neg (own_isnt c (52 : Int32) 52 (by decide) (by omega)), if_neg (own_isnt c (53 : Int32) 53 (by decide) (by omega)), if_neg (own_isnt c (54 : Int32) 54 (by decide) (by omega)), if_neg (own_isnt c (55 : Int32) 55 (by decide) (by omega)), if_neg (own_isnt c (56 : Int32) 56 (by decide) (by omega)), if_neg (own_isnt c (57 : Int32) 57 (by decide) (by omega))]
theorem own_k (p1 : Int32) : 0 ≤ (e0_2 p1).toInt ∧ (e0_2 p1).toInt < 12 ∧ (e0_3 p1).toInt = 47 + (e0_2 p1).toInt := by
  have h1 : (p1 &&& 2147483647).toInt = p1.toInt % 2147483648 := c_mask p1 2147483647 31 (by decide) (by decide)
  have h2 := (c_irem (p1 &&& 2147483647) 12 12 (by decide)).1 (by omega)
  have h3 : (e0_2 p1).toInt = (p1 &&& 2147483647).toInt % 12 := by unfold e0_2; rw [irem_eq_mod]; exact h2
  have h4 := c_iadd 47 (e0_2 p1)
  have h5 := c_i2c (47 + e0_2 p1)
  have h6 := rng32 (47 + e0_2 p1)
  have e : (47 : Int32).toInt = 47 := by decide
  rw [e] at h4
  unfold e0_3
  omega
theorem own_law (p0 p1 : Int32) : f0 p0 p1 = 1 := by
  obtain ⟨h1, h2, h3⟩ := own_k p1
  have e48 : (48 : Int32).toInt = 48 := by decide
  have e57 : (57 : Int32).toInt = 57 := by decide
  have e1 : (1 : Int32).toInt = 1 := by decide
  have e10 : (10 : Int32).toInt = 10 := by decide
  unfold f0
  rw [if_pos (own_same _)]
  simp only [← own_same]
  by_cases a : e0_2 p1 < 1
  · have g : f1 (e0_3 p1) = 0 := by
      unfold f1; rw [if_pos]; rw [Int32.lt_iff_toInt_lt] at a ⊢; omega
    simp [a, g]
  · by_cases b : 10 < e0_2 p1
    · have g : f1 (e0_3 p1) = 0 := by
        unfold f1
        rw [Int32.lt_iff_toInt_lt] at b
        rw [if_neg (by rw [Int32.lt_iff_toInt_lt]; omega), if_pos (by rw [Int32.lt_iff_toInt_lt]; omega)]
      simp [a, b, g]
    · have g : f1 (e0_3 p1) = 1 := by
        unfold f1
        rw [Int32.lt_iff_toInt_lt] at a b
        rw [if_neg (by rw [Int32.lt_iff_toInt_lt]; omega), if_neg (by rw [Int32.lt_iff_toInt_lt]; omega)]
      simp [a, b, g]
def Q0 (Z : State) (p0 : Int32) (p1 : Int32) (h0 : Heap) (n0 : Nat) (v : Option Value) (h : Heap) (L : List Loc) : Prop := v = some (.int (f0 p0 p1)) ∧ Fr n0 L
set_option maxRecDepth 65536 in
set_option maxHeartbeats 40000000 in
theorem rm0 (l : Launch) (Z : State) (a0 : Array Value) (hw : ∀ d ∈ tables_1, d.before a0 Z = true) (ws : List Jvm.Cond) (p0 : Int32) (p1 : Int32) (h0 : Heap) (n0 : Nat) (Z0 : n0 ≤ h0.size) :
    MetFree l x (head1 (Jvm.Cond.code x code maxLocals ret :: ws) room_1) (fun a U => a = #[(.int p0), (.int p1)] ∧ Z.Warmed39 U.vm ∧ U.heap = h0) (fun _ _ _ _ _ => True) (fun _ U o U' => ∃ v L, o = .returned v ∧ Q0 Z p0 p1 h0 n0 v U'.heap L ∧ FrameEnd U o U' L room_1.cells room_1.slots) := by
  refine MetFree.of_bodySF (plainFor_of_name pn_0) hisR ?_
  intro p e s m args below meth c s₁ Bd hml0 hP hK
  obtain ⟨rfl, hZ, hh⟩ := hP
  have hx := Bd.exec
  have hby := Bd.bytes
  have hml : c.maxLocals = 8 := hml0
  have hown : s.vm.findClass "com/example/indentary/indentary/reader/SectionHeadingIsDigitPinLaw" = some m.cls := findClass_of_methodNamed Bd.named
  have hnm := (name_of_methodNamed Bd.named Bd.method).1
  have X0 : Stand p l e room_1 s m #[(.int p0), (.int p1)] below meth c s₁ [] 0 0 := Stand.of_body Bd
  have e0 : s₁.heap = h0 := by rw [← hh, Bd.state]; rfl
  have N0 := Fr.nil n0
  have pre0 : ∀ t, Steps p.tables e below (s₁.setTop (mkF m 0 #[.val (.int p0), .val (.int p1), .unset, .unset, .unset, .unset, .unset, .unset] [])) t → Steps p.tables e below (s₁.setTop (entryFrame m #[(.int p0), (.int p1)] maxLocals)) t := fun t k => castTop (ef_0 m p0 p1) k
  obtain ⟨_, _, ⟨T1, L1, k1, n1⟩, -, X1, ⟨Lc1, hQ1, l1, y1, z1⟩, st1⟩ := Jvm.LawKit.callS X0 hx (y := (⟨"com/example/indentary/indentary/reader/SectionHeading", "isDigit", "(C)Z"⟩ : MethodName)) hown (mvT hZ (hw _ (List.mem_of_getElem? (i := 2) rfl))) (mvT hZ (hw _ (List.mem_of_getElem? (i := 3) rfl))) (mvT hZ (hw _ (List.mem_of_getElem? (i := 4) rfl))) (mvT hZ (hw _ (List.mem_of_getElem? (i := 5) rfl))) (by decide) (backOf (W := 0) (rm1 l Z a0 hw [] (e0_1 p0) h0 n0 Z0 ) hZ (hw _ (List.mem_of_getElem? (i := 5) rfl)) (hw _ (List.mem_of_getElem? (i := 4) rfl)) (by decide) (by decide)) (g := (mkF m 22 #[.val (.int p0), .val (.int p1), .val (.int (e0_1 p0)), .val (.int (e0_2 p1)), .val (.int (e0_3 p1)), .unset, .unset, .unset] [(.int (e0_1 p0))])) rfl (by rw [hml]; rfl) (argsL := [(.int (e0_1 p0))]) (rest := []) (lenOf pd_0_0 rfl) rfl (by show 2 * 0 + _ ≤ _; exact Nat.le_of_eq rfl) (hb hby at_22) (fun _ _ => ⟨rfl, e0, (by decide : 0 + 0 ≤ _), (by decide : 0 + 0 ≤ _)⟩)
  dsimp only [Pt.U, Pt.locs, Pt.cells, Pt.slots] at X1 l1 y1 z1 st1 hQ1
  subst l1 y1 z1
  obtain ⟨rfl, N1q, e1q⟩ := hQ1
  have N1 := Fr.app N0 N1q
  obtain ⟨_, _, ⟨T2, L2, k2, n2⟩, -, X2, ⟨Lc2, hQ2, l2, y2, z2⟩, st2⟩ := Jvm.LawKit.callS X1 hx (y := (⟨"com/example/indentary/indentary/reader/SectionHeadingIsDigitPinLaw", "oneOfTen", "(C)Z"⟩ : MethodName)) hown (mvT hZ (hw _ (List.mem_of_getElem? (i := 6) rfl))) (mvT hZ (hw _ (List.mem_of_getElem? (i := 7) rfl))) (mvT hZ (hw _ (List.mem_of_getElem? (i := 8) rfl))) (mvT hZ (hw _ (List.mem_of_getElem? (i := 9) rfl))) (by decide) (backOf (W := 1) (rm2 l Z a0 hw [] (e0_1 p0) h0 n0 Z0 ) hZ (hw _ (List.mem_of_getElem? (i := 9) rfl)) (hw _ (List.mem_of_getElem? (i := 8) rfl)) (by decide) (by decide)) (g := (mkF m 26 #[.val (.int p0), .val (.int p1), .val (.int (e0_1 p0)), .val (.int (e0_2 p1)), .val (.int (e0_3 p1)), .unset, .unset, .unset] [(.int (e0_1 p0)), (.int (f1 (e0_1 p0)))])) rfl (by rw [hml]; rfl) (argsL := [(.int (e0_1 p0))]) (rest := [(.int (f1 (e0_1 p0)))]) (lenOf pd_0_0 rfl) rfl (by show 2 * 0 + _ ≤ _; exact Nat.le_of_eq rfl) (hb hby at_26) (fun _ _ => ⟨rfl, e1q, (by decide : 0 + 0 ≤ _), (by decide : 0 + 0 ≤ _)⟩)
  dsimp only [Pt.U, Pt.locs, Pt.cells, Pt.slots] at X2 l2 y2 z2 st2 hQ2
  subst l2 y2 z2
  obtain ⟨rfl, N2q, e2q⟩ := hQ2
  have N2 := Fr.app N1 N2q
  have pre3 : ∀ t, Steps p.tables e below (T2.setTop (mkF m 29 #[.val (.int p0), .val (.int p1), .val (.int (e0_1 p0)), .val (.int (e0_2 p1)), .val (.int (e0_3 p1)), .unset, .unset, .unset] [(.int (f2 (e0_1 p0))), (.int (f1 (e0_1 p0)))])) t → Steps p.tables e below (s₁.setTop (entryFrame m #[(.int p0), (.int p1)] maxLocals)) t := fun t kt => pre0 t (by
      show Steps p.tables e below (s₁.setTop (mkF m 0 #[.val (.int p0), .val (.int p1), .unset, .unset, .unset, .unset, .unset, .unset] [])) _
      refine XS.iloadN X0.here hx rfl (hb hby at_0) rfl ?_
      show Steps p.tables e below (s₁.setTop (mkF m 1 #[.val (.int p0), .val (.int p1), .unset, .unset, .unset, .unset, .unset, .unset] [(.int p0)])) _
      refine X0.ldcInt hx hown (mvT hZ (hw _ (List.mem_of_getElem? (i := 0) rfl))) (g := (mkF m 1 #[.val (.int p0), .val (.int p1), .unset, .unset, .unset, .unset, .unset, .unset] [(.int p0)])) rfl (hb hby at_1) _ ?_
      show Steps p.tables e below (s₁.setTop (mkF m 3 #[.val (.int p0), .val (.int p1), .unset, .unset, .unset, .unset, .unset, .unset] [(.int (65535 : Int32)), (.int p0)])) _
      refine XS.iand X0.here hx rfl (hb hby at_3) rfl ?_
      show Steps p.tables e below (s₁.setTop (mkF m 4 #[.val (.int p0), .val (.int p1), .unset, .unset, .unset, .unset, .unset, .unset] [(.int (p0 &&& (65535 : Int32)))])) _
      refine XS.i2c X0.here hx rfl (hb hby at_4) rfl ?_
      show Steps p.tables e below (s₁.setTop (mkF m 5 #[.val (.int p0), .val (.int p1), .unset, .unset, .unset, .unset, .unset, .unset] [(.int ((p0 &&& (65535 : Int32)).toUInt32.toUInt16.toUInt32.toInt32))])) _
      refine XS.istoreN X0.here hx rfl (hb hby at_5) rfl (l' := #[.val (.int p0), .val (.int p1), .val (.int (e0_1 p0)), .unset, .unset, .unset, .unset, .unset]) rfl ?_
      show Steps p.tables e below (s₁.setTop (mkF m 6 #[.val (.int p0), .val (.int p1), .val (.int (e0_1 p0)), .unset, .unset, .unset, .unset, .unset] [])) _
      refine XS.iloadN X0.here hx rfl (hb hby at_6) rfl ?_
      show Steps p.tables e below (s₁.setTop (mkF m 7 #[.val (.int p0), .val (.int p1), .val (.int (e0_1 p0)), .unset, .unset, .unset, .unset, .unset] [(.int p1)])) _
      refine X0.ldcInt hx hown (mvT hZ (hw _ (List.mem_of_getElem? (i := 1) rfl))) (g := (mkF m 7 #[.val (.int p0), .val (.int p1), .val (.int (e0_1 p0)), .unset, .unset, .unset, .unset, .unset] [(.int p1)])) rfl (hb hby at_7) _ ?_
      show Steps p.tables e below (s₁.setTop (mkF m 9 #[.val (.int p0), .val (.int p1), .val (.int (e0_1 p0)), .unset, .unset, .unset, .unset, .unset] [(.int (2147483647 : Int32)), (.int p1)])) _
      refine XS.iand X0.here hx rfl (hb hby at_9) rfl ?_
      show Steps p.tables e below (s₁.setTop (mkF m 10 #[.val (.int p0), .val (.int p1), .val (.int (e0_1 p0)), .unset, .unset, .unset, .unset, .unset] [(.int (p1 &&& (2147483647 : Int32)))])) _
      refine XS.bipush X0.here hx rfl (hb hby at_10) ?_
      show Steps p.tables e below (s₁.setTop (mkF m 12 #[.val (.int p0), .val (.int p1), .val (.int (e0_1 p0)), .unset, .unset, .unset, .unset, .unset] [(.int (12 : Int32)), (.int (p1 &&& (2147483647 : Int32)))])) _
      refine XS.irem X0.here hx rfl (hb hby at_12) rfl (by decide) ?_
      show Steps p.tables e below (s₁.setTop (mkF m 13 #[.val (.int p0), .val (.int p1), .val (.int (e0_1 p0)), .unset, .unset, .unset, .unset, .unset] [(.int ((p1 &&& (2147483647 : Int32)) - ((p1 &&& (2147483647 : Int32)) / (12 : Int32)) * (12 : Int32)))])) _
      refine XS.istoreN X0.here hx rfl (hb hby at_13) rfl (l' := #[.val (.int p0), .val (.int p1), .val (.int (e0_1 p0)), .val (.int (e0_2 p1)), .unset, .unset, .unset, .unset]) rfl ?_
      show Steps p.tables e below (s₁.setTop (mkF m 14 #[.val (.int p0), .val (.int p1), .val (.int (e0_1 p0)), .val (.int (e0_2 p1)), .unset, .unset, .unset, .unset] [])) _
      refine XS.bipush X0.here hx rfl (hb hby at_14) ?_
      show Steps p.tables e below (s₁.setTop (mkF m 16 #[.val (.int p0), .val (.int p1), .val (.int (e0_1 p0)), .val (.int (e0_2 p1)), .unset, .unset, .unset, .unset] [(.int (47 : Int32))])) _
      refine XS.iloadN X0.here hx rfl (hb hby at_16) rfl ?_
      show Steps p.tables e below (s₁.setTop (mkF m 17 #[.val (.int p0), .val (.int p1), .val (.int (e0_1 p0)), .val (.int (e0_2 p1)), .unset, .unset, .unset, .unset] [(.int (e0_2 p1)), (.int (47 : Int32))])) _
      refine XS.iadd X0.here hx rfl (hb hby at_17) rfl ?_
      show Steps p.tables e below (s₁.setTop (mkF m 18 #[.val (.int p0), .val (.int p1), .val (.int (e0_1 p0)), .val (.int (e0_2 p1)), .unset, .unset, .unset, .unset] [(.int ((47 : Int32) + (e0_2 p1)))])) _
      refine XS.i2c X0.here hx rfl (hb hby at_18) rfl ?_
      show Steps p.tables e below (s₁.setTop (mkF m 19 #[.val (.int p0), .val (.int p1), .val (.int (e0_1 p0)), .val (.int (e0_2 p1)), .unset, .unset, .unset, .unset] [(.int (((47 : Int32) + (e0_2 p1)).toUInt32.toUInt16.toUInt32.toInt32))])) _
      refine XS.istore X0.here hx rfl (hb hby at_19) rfl (l' := #[.val (.int p0), .val (.int p1), .val (.int (e0_1 p0)), .val (.int (e0_2 p1)), .val (.int (e0_3 p1)), .unset, .unset, .unset]) rfl ?_
      show Steps p.tables e below (s₁.setTop (mkF m 21 #[.val (.int p0), .val (.int p1), .val (.int (e0_1 p0)), .val (.int (e0_2 p1)), .val (.int (e0_3 p1)), .unset, .unset, .unset] [])) _
      refine XS.iloadN X0.here hx rfl (hb hby at_21) rfl ?_
      show Steps p.tables e below (s₁.setTop (mkF m 22 #[.val (.int p0), .val (.int p1), .val (.int (e0_1 p0)), .val (.int (e0_2 p1)), .val (.int (e0_3 p1)), .unset, .unset, .unset] [(.int (e0_1 p0))])) _
      refine st1 _ ?_
      show Steps p.tables e below (T1.setTop (mkF m 25 #[.val (.int p0), .val (.int p1), .val (.int (e0_1 p0)), .val (.int (e0_2 p1)), .val (.int (e0_3 p1)), .unset, .unset, .unset] [(.int (f1 (e0_1 p0)))])) _
      refine XS.iloadN X1.here hx rfl (hb hby at_25) rfl ?_
      show Steps p.tables e below (T1.setTop (mkF m 26 #[.val (.int p0), .val (.int p1), .val (.int (e0_1 p0)), .val (.int (e0_2 p1)), .val (.int (e0_3 p1)), .unset, .unset, .unset] [(.int (e0_1 p0)), (.int (f1 (e0_1 p0)))])) _
      refine st2 _ ?_
      exact kt)
  by_cases hc29_4 : (f1 (e0_1 p0)) = (f2 (e0_1 p0))
  · have pre5 : ∀ t, Steps p.tables e below (T2.setTop (mkF m 41 #[.val (.int p0), .val (.int p1), .val (.int (e0_1 p0)), .val (.int (e0_2 p1)), .val (.int (e0_3 p1)), .val (.int (1 : Int32)), .unset, .unset] [(.int (1 : Int32)), (.int (e0_2 p1))])) t → Steps p.tables e below (s₁.setTop (entryFrame m #[(.int p0), (.int p1)] maxLocals)) t := fun t kt => pre3 t (by
        show Steps p.tables e below (T2.setTop (mkF m 29 #[.val (.int p0), .val (.int p1), .val (.int (e0_1 p0)), .val (.int (e0_2 p1)), .val (.int (e0_3 p1)), .unset, .unset, .unset] [(.int (f2 (e0_1 p0))), (.int (f1 (e0_1 p0)))])) _
        refine XS.icmpNo X2.here hx rfl (hb hby at_29) rfl (teq hc29_4).2 ?_
        show Steps p.tables e below (T2.setTop (mkF m 32 #[.val (.int p0), .val (.int p1), .val (.int (e0_1 p0)), .val (.int (e0_2 p1)), .val (.int (e0_3 p1)), .unset, .unset, .unset] [])) _
        refine XS.iconst X2.here hx rfl (hb hby at_32) ?_
        show Steps p.tables e below (T2.setTop (mkF m 33 #[.val (.int p0), .val (.int p1), .val (.int (e0_1 p0)), .val (.int (e0_2 p1)), .val (.int (e0_3 p1)), .unset, .unset, .unset] [(.int (1 : Int32))])) _
        refine XS.goto X2.here hx rfl (pc0 := 33) (pc' := 37) rfl (hb hby at_33) (by decide) (by decide) ?_
        show Steps p.tables e below (T2.setTop (mkF m 37 #[.val (.int p0), .val (.int p1), .val (.int (e0_1 p0)), .val (.int (e0_2 p1)), .val (.int (e0_3 p1)), .unset, .unset, .unset] [(.int (1 : Int32))])) _
        refine XS.istore X2.here hx rfl (hb hby at_37) rfl (l' := #[.val (.int p0), .val (.int p1), .val (.int (e0_1 p0)), .val (.int (e0_2 p1)), .val (.int (e0_3 p1)), .val (.int (1 : Int32)), .unset, .unset]) rfl ?_
        show Steps p.tables e below (T2.setTop (mkF m 39 #[.val (.int p0), .val (.int p1), .val (.int (e0_1 p0)), .val (.int (e0_2 p1)), .val (.int (e0_3 p1)), .val (.int (1 : Int32)), .unset, .unset] [])) _
        refine XS.iloadN X2.here hx rfl (hb hby at_39) rfl ?_
        show Steps p.tables e below (T2.setTop (mkF m 40 #[.val (.int p0), .val (.int p1), .val (.int (e0_1 p0)), .val (.int (e0_2 p1)), .val (.int (e0_3 p1)), .val (.int (1 : Int32)), .unset, .unset] [(.int (e0_2 p1))])) _
        refine XS.iconst X2.here hx rfl (hb hby at_40) ?_
        exact kt)
    by_cases hc41_6 : (e0_2 p1) < (1 : Int32)
    · obtain ⟨_, _, ⟨T7, L7, k7, n7⟩, -, X7, ⟨Lc7, hQ7, l7, y7, z7⟩, st7⟩ := Jvm.LawKit.callS X2 hx (y := (⟨"com/example/indentary/indentary/reader/SectionHeading", "isDigit", "(C)Z"⟩ : MethodName)) hown (mvT hZ (hw _ (List.mem_of_getElem? (i := 2) rfl))) (mvT hZ (hw _ (List.mem_of_getElem? (i := 3) rfl))) (mvT hZ (hw _ (List.mem_of_getElem? (i := 4) rfl))) (mvT hZ (hw _ (List.mem_of_getElem? (i := 5) rfl))) (by decide) (backOf (W := 0) (rm1 l Z a0 hw [] (e0_3 p1) h0 n0 Z0 ) hZ (hw _ (List.mem_of_getElem? (i := 5) rfl)) (hw _ (List.mem_of_getElem? (i := 4) rfl)) (by decide) (by decide)) (g := (mkF m 59 #[.val (.int p0), .val (.int p1), .val (.int (e0_1 p0)), .val (.int (e0_2 p1)), .val (.int (e0_3 p1)), .val (.int (1 : Int32)), .val (.int (0 : Int32)), .unset] [(.int (e0_3 p1))])) rfl (by rw [hml]; rfl) (argsL := [(.int (e0_3 p1))]) (rest := []) (lenOf pd_0_0 rfl) rfl (by show 2 * 0 + _ ≤ _; exact Nat.le_of_eq rfl) (hb hby at_59) (fun _ _ => ⟨rfl, e2q, (by decide : 0 + 0 ≤ _), (by decide : 0 + 0 ≤ _)⟩)
      dsimp only [Pt.U, Pt.locs, Pt.cells, Pt.slots] at X7 l7 y7 z7 st7 hQ7
      subst l7 y7 z7
      obtain ⟨rfl, N7q, e7q⟩ := hQ7
      have N7 := Fr.app N2 N7q
      have pre8 : ∀ t, Steps p.tables e below (T7.setTop (mkF m 64 #[.val (.int p0), .val (.int p1), .val (.int (e0_1 p0)), .val (.int (e0_2 p1)), .val (.int (e0_3 p1)), .val (.int (1 : Int32)), .val (.int (0 : Int32)), .unset] [(.int (0 : Int32)), (.int (f1 (e0_3 p1)))])) t → Steps p.tables e below (s₁.setTop (entryFrame m #[(.int p0), (.int p1)] maxLocals)) t := fun t kt => pre5 t (by
          show Steps p.tables e below (T2.setTop (mkF m 41 #[.val (.int p0), .val (.int p1), .val (.int (e0_1 p0)), .val (.int (e0_2 p1)), .val (.int (e0_3 p1)), .val (.int (1 : Int32)), .unset, .unset] [(.int (1 : Int32)), (.int (e0_2 p1))])) _
          refine XS.icmpYes X2.here hx rfl (pc0 := 41) (pc' := 54) rfl (hb hby at_41) rfl (tlt hc41_6).1 (by decide) (by decide) ?_
          show Steps p.tables e below (T2.setTop (mkF m 54 #[.val (.int p0), .val (.int p1), .val (.int (e0_1 p0)), .val (.int (e0_2 p1)), .val (.int (e0_3 p1)), .val (.int (1 : Int32)), .unset, .unset] [])) _
          refine XS.iconst X2.here hx rfl (hb hby at_54) ?_
          show Steps p.tables e below (T2.setTop (mkF m 55 #[.val (.int p0), .val (.int p1), .val (.int (e0_1 p0)), .val (.int (e0_2 p1)), .val (.int (e0_3 p1)), .val (.int (1 : Int32)), .unset, .unset] [(.int (0 : Int32))])) _
          refine XS.istore X2.here hx rfl (hb hby at_55) rfl (l' := #[.val (.int p0), .val (.int p1), .val (.int (e0_1 p0)), .val (.int (e0_2 p1)), .val (.int (e0_3 p1)), .val (.int (1 : Int32)), .val (.int (0 : Int32)), .unset]) rfl ?_
          show Steps p.tables e below (T2.setTop (mkF m 57 #[.val (.int p0), .val (.int p1), .val (.int (e0_1 p0)), .val (.int (e0_2 p1)), .val (.int (e0_3 p1)), .val (.int (1 : Int32)), .val (.int (0 : Int32)), .unset] [])) _
          refine XS.iload X2.here hx rfl (hb hby at_57) rfl ?_
          show Steps p.tables e below (T2.setTop (mkF m 59 #[.val (.int p0), .val (.int p1), .val (.int (e0_1 p0)), .val (.int (e0_2 p1)), .val (.int (e0_3 p1)), .val (.int (1 : Int32)), .val (.int (0 : Int32)), .unset] [(.int (e0_3 p1))])) _
          refine st7 _ ?_
          show Steps p.tables e below (T7.setTop (mkF m 62 #[.val (.int p0), .val (.int p1), .val (.int (e0_1 p0)), .val (.int (e0_2 p1)), .val (.int (e0_3 p1)), .val (.int (1 : Int32)), .val (.int (0 : Int32)), .unset] [(.int (f1 (e0_3 p1)))])) _
          refine XS.iload X7.here hx rfl (hb hby at_62) rfl ?_
          exact kt)
      by_cases hc64_9 : (f1 (e0_3 p1)) = (0 : Int32)
      · obtain ⟨_, _, ⟨T10, L10, k10, n10⟩, -, X10, ⟨Lc10, hQ10, l10, y10, z10⟩, st10⟩ := Jvm.LawKit.callS X7 hx (y := (⟨"com/example/indentary/indentary/reader/SectionHeadingIsDigitPinLaw", "oneOfTen", "(C)Z"⟩ : MethodName)) hown (mvT hZ (hw _ (List.mem_of_getElem? (i := 6) rfl))) (mvT hZ (hw _ (List.mem_of_getElem? (i := 7) rfl))) (mvT hZ (hw _ (List.mem_of_getElem? (i := 8) rfl))) (mvT hZ (hw _ (List.mem_of_getElem? (i := 9) rfl))) (by decide) (backOf (W := 0) (rm2 l Z a0 hw [] (e0_3 p1) h0 n0 Z0 ) hZ (hw _ (List.mem_of_getElem? (i := 9) rfl)) (hw _ (List.mem_of_getElem? (i := 8) rfl)) (by decide) (by decide)) (g := (mkF m 69 #[.val (.int p0), .val (.int p1), .val (.int (e0_1 p0)), .val (.int (e0_2 p1)), .val (.int (e0_3 p1)), .val (.int (1 : Int32)), .val (.int (0 : Int32)), .unset] [(.int (e0_3 p1))])) rfl (by rw [hml]; rfl) (argsL := [(.int (e0_3 p1))]) (rest := []) (lenOf pd_0_0 rfl) rfl (by show 2 * 0 + _ ≤ _; exact Nat.le_of_eq rfl) (hb hby at_69) (fun _ _ => ⟨rfl, e7q, (by decide : 0 + 0 ≤ _), (by decide : 0 + 0 ≤ _)⟩)
        dsimp only [Pt.U, Pt.locs, Pt.cells, Pt.slots] at X10 l10 y10 z10 st10 hQ10
        subst l10 y10 z10
        obtain ⟨rfl, N10q, e10q⟩ := hQ10
        have N10 := Fr.app N7 N10q
        have pre11 : ∀ t, Steps p.tables e below (T10.setTop (mkF m 74 #[.val (.int p0), .val (.int p1), .val (.int (e0_1 p0)), .val (.int (e0_2 p1)), .val (.int (e0_3 p1)), .val (.int (1 : Int32)), .val (.int (0 : Int32)), .unset] [(.int (0 : Int32)), (.int (f2 (e0_3 p1)))])) t → Steps p.tables e below (s₁.setTop (entryFrame m #[(.int p0), (.int p1)] maxLocals)) t := fun t kt => pre8 t (by
            show Steps p.tables e below (T7.setTop (mkF m 64 #[.val (.int p0), .val (.int p1), .val (.int (e0_1 p0)), .val (.int (e0_2 p1)), .val (.int (e0_3 p1)), .val (.int (1 : Int32)), .val (.int (0 : Int32)), .unset] [(.int (0 : Int32)), (.int (f1 (e0_3 p1)))])) _
            refine XS.icmpNo X7.here hx rfl (hb hby at_64) rfl (teq hc64_9).2 ?_
            show Steps p.tables e below (T7.setTop (mkF m 67 #[.val (.int p0), .val (.int p1), .val (.int (e0_1 p0)), .val (.int (e0_2 p1)), .val (.int (e0_3 p1)), .val (.int (1 : Int32)), .val (.int (0 : Int32)), .unset] [])) _
            refine XS.iload X7.here hx rfl (hb hby at_67) rfl ?_
            show Steps p.tables e below (T7.setTop (mkF m 69 #[.val (.int p0), .val (.int p1), .val (.int (e0_1 p0)), .val (.int (e0_2 p1)), .val (.int (e0_3 p1)), .val (.int (1 : Int32)), .val (.int (0 : Int32)), .unset] [(.int (e0_3 p1))])) _
            refine st10 _ ?_
            show Steps p.tables e below (T10.setTop (mkF m 72 #[.val (.int p0), .val (.int p1), .val (.int (e0_1 p0)), .val (.int (e0_2 p1)), .val (.int (e0_3 p1)), .val (.int (1 : Int32)), .val (.int (0 : Int32)), .unset] [(.int (f2 (e0_3 p1)))])) _
            refine XS.iload X10.here hx rfl (hb hby at_72) rfl ?_
            exact kt)
        by_cases hc74_12 : (f2 (e0_3 p1)) = (0 : Int32)
        · have pre13 : ∀ t, Steps p.tables e below (T10.setTop (mkF m 86 #[.val (.int p0), .val (.int p1), .val (.int (e0_1 p0)), .val (.int (e0_2 p1)), .val (.int (e0_3 p1)), .val (.int (1 : Int32)), .val (.int (0 : Int32)), .val (.int (1 : Int32))] [(.int (1 : Int32))])) t → Steps p.tables e below (s₁.setTop (entryFrame m #[(.int p0), (.int p1)] maxLocals)) t := fun t kt => pre11 t (by
              show Steps p.tables e below (T10.setTop (mkF m 74 #[.val (.int p0), .val (.int p1), .val (.int (e0_1 p0)), .val (.int (e0_2 p1)), .val (.int (e0_3 p1)), .val (.int (1 : Int32)), .val (.int (0 : Int32)), .unset] [(.int (0 : Int32)), (.int (f2 (e0_3 p1)))])) _
              refine XS.icmpNo X10.here hx rfl (hb hby at_74) rfl (teq hc74_12).2 ?_
              show Steps p.tables e below (T10.setTop (mkF m 77 #[.val (.int p0), .val (.int p1), .val (.int (e0_1 p0)), .val (.int (e0_2 p1)), .val (.int (e0_3 p1)), .val (.int (1 : Int32)), .val (.int (0 : Int32)), .unset] [])) _
              refine XS.iconst X10.here hx rfl (hb hby at_77) ?_
              show Steps p.tables e below (T10.setTop (mkF m 78 #[.val (.int p0), .val (.int p1), .val (.int (e0_1 p0)), .val (.int (e0_2 p1)), .val (.int (e0_3 p1)), .val (.int (1 : Int32)), .val (.int (0 : Int32)), .unset] [(.int (1 : Int32))])) _
              refine XS.goto X10.here hx rfl (pc0 := 78) (pc' := 82) rfl (hb hby at_78) (by decide) (by decide) ?_
              show Steps p.tables e below (T10.setTop (mkF m 82 #[.val (.int p0), .val (.int p1), .val (.int (e0_1 p0)), .val (.int (e0_2 p1)), .val (.int (e0_3 p1)), .val (.int (1 : Int32)), .val (.int (0 : Int32)), .unset] [(.int (1 : Int32))])) _
              refine XS.istore X10.here hx rfl (hb hby at_82) rfl (l' := #[.val (.int p0), .val (.int p1), .val (.int (e0_1 p0)), .val (.int (e0_2 p1)), .val (.int (e0_3 p1)), .val (.int (1 : Int32)), .val (.int (0 : Int32)), .val (.int (1 : Int32))]) rfl ?_
              show Steps p.tables e below (T10.setTop (mkF m 84 #[.val (.int p0), .val (.int p1), .val (.int (e0_1 p0)), .val (.int (e0_2 p1)), .val (.int (e0_3 p1)), .val (.int (1 : Int32)), .val (.int (0 : Int32)), .val (.int (1 : Int32))] [])) _
              refine XS.iload X10.here hx rfl (hb hby at_84) rfl ?_
              exact kt)
          have pre14 : ∀ t, Steps p.tables e below (T10.setTop (mkF m 91 #[.val (.int p0), .val (.int p1), .val (.int (e0_1 p0)), .val (.int (e0_2 p1)), .val (.int (e0_3 p1)), .val (.int (1 : Int32)), .val (.int (0 : Int32)), .val (.int (1 : Int32))] [(.int (1 : Int32))])) t → Steps p.tables e below (s₁.setTop (entryFrame m #[(.int p0), (.int p1)] maxLocals)) t := fun t kt => pre13 t (by
              show Steps p.tables e below (T10.setTop (mkF m 86 #[.val (.int p0), .val (.int p1), .val (.int (e0_1 p0)), .val (.int (e0_2 p1)), .val (.int (e0_3 p1)), .val (.int (1 : Int32)), .val (.int (0 : Int32)), .val (.int (1 : Int32))] [(.int (1 : Int32))])) _
              refine XS.ifNo X10.here hx rfl (hb hby at_86) rfl ((if0 _ _).trans (feq (by decide : ¬ ((1 : Int32) = (0 : Int32)))).1) ?_
              show Steps p.tables e below (T10.setTop (mkF m 89 #[.val (.int p0), .val (.int p1), .val (.int (e0_1 p0)), .val (.int (e0_2 p1)), .val (.int (e0_3 p1)), .val (.int (1 : Int32)), .val (.int (0 : Int32)), .val (.int (1 : Int32))] [])) _
              refine XS.iload X10.here hx rfl (hb hby at_89) rfl ?_
              exact kt)
          obtain ⟨fs, hr, hrun, hended, hW, hsame⟩ := X10.leave (v := some (.int (1 : Int32))) (fun h => by rw [Bd.returns] at h; cases h)
          have hv76 : (f0 p0 p1) = (1 : Int32) := by rw [f0, if_pos hc29_4, if_pos hc41_6, if_pos hc64_9, if_pos hc74_12]
          refine ⟨_, _, pre14 _ ?_, hrun, hended, _, _, rfl, ?_, ⟨_, rfl⟩, hW, hsame.mono (by decide) (by decide)⟩
          · show Steps p.tables e below (T10.setTop (mkF m 91 #[.val (.int p0), .val (.int p1), .val (.int (e0_1 p0)), .val (.int (e0_2 p1)), .val (.int (e0_3 p1)), .val (.int (1 : Int32)), .val (.int (0 : Int32)), .val (.int (1 : Int32))] [(.int (1 : Int32))])) _
            refine XS.ifNo X10.here hx rfl (hb hby at_91) rfl ((if0 _ _).trans (feq (by decide : ¬ ((1 : Int32) = (0 : Int32)))).1) ?_
            show Steps p.tables e below (T10.setTop (mkF m 94 #[.val (.int p0), .val (.int p1), .val (.int (e0_1 p0)), .val (.int (e0_2 p1)), .val (.int (e0_3 p1)), .val (.int (1 : Int32)), .val (.int (0 : Int32)), .val (.int (1 : Int32))] [])) _
            refine XS.iconst X10.here hx rfl (hb hby at_94) ?_
            show Steps p.tables e below (T10.setTop (mkF m 95 #[.val (.int p0), .val (.int p1), .val (.int (e0_1 p0)), .val (.int (e0_2 p1)), .val (.int (e0_3 p1)), .val (.int (1 : Int32)), .val (.int (0 : Int32)), .val (.int (1 : Int32))] [(.int (1 : Int32))])) _
            refine XS.goto X10.here hx rfl (pc0 := 95) (pc' := 99) rfl (hb hby at_95) (by decide) (by decide) ?_
            show Steps p.tables e below (T10.setTop (mkF m 99 #[.val (.int p0), .val (.int p1), .val (.int (e0_1 p0)), .val (.int (e0_2 p1)), .val (.int (e0_3 p1)), .val (.int (1 : Int32)), .val (.int (0 : Int32)), .val (.int (1 : Int32))] [(.int (1 : Int32))])) _
            exact retN X10 hx (t := .boolean) Bd.returns (by simp) (hb hby at_99) hr
          · show Q0 Z p0 p1 h0 n0 _ T10.heap _
            rw [e10q]
            exact ⟨congrArg (fun q => some (Value.int q)) hv76.symm, N10⟩
        · have pre15 : ∀ t, Steps p.tables e below (T10.setTop (mkF m 86 #[.val (.int p0), .val (.int p1), .val (.int (e0_1 p0)), .val (.int (e0_2 p1)), .val (.int (e0_3 p1)), .val (.int (1 : Int32)), .val (.int (0 : Int32)), .val (.int (0 : Int32))] [(.int (1 : Int32))])) t → Steps p.tables e below (s₁.setTop (entryFrame m #[(.int p0), (.int p1)] maxLocals)) t := fun t kt => pre11 t (by
              show Steps p.tables e below (T10.setTop (mkF m 74 #[.val (.int p0), .val (.int p1), .val (.int (e0_1 p0)), .val (.int (e0_2 p1)), .val (.int (e0_3 p1)), .val (.int (1 : Int32)), .val (.int (0 : Int32)), .unset] [(.int (0 : Int32)), (.int (f2 (e0_3 p1)))])) _
              refine XS.icmpYes X10.here hx rfl (pc0 := 74) (pc' := 81) rfl (hb hby at_74) rfl (feq hc74_12).2 (by decide) (by decide) ?_
              show Steps p.tables e below (T10.setTop (mkF m 81 #[.val (.int p0), .val (.int p1), .val (.int (e0_1 p0)), .val (.int (e0_2 p1)), .val (.int (e0_3 p1)), .val (.int (1 : Int32)), .val (.int (0 : Int32)), .unset] [])) _
              refine XS.iconst X10.here hx rfl (hb hby at_81) ?_
              show Steps p.tables e below (T10.setTop (mkF m 82 #[.val (.int p0), .val (.int p1), .val (.int (e0_1 p0)), .val (.int (e0_2 p1)), .val (.int (e0_3 p1)), .val (.int (1 : Int32)), .val (.int (0 : Int32)), .unset] [(.int (0 : Int32))])) _
              refine XS.istore X10.here hx rfl (hb hby at_82) rfl (l' := #[.val (.int p0), .val (.int p1), .val (.int (e0_1 p0)), .val (.int (e0_2 p1)), .val (.int (e0_3 p1)), .val (.int (1 : Int32)), .val (.int (0 : Int32)), .val (.int (0 : Int32))]) rfl ?_
              show Steps p.tables e below (T10.setTop (mkF m 84 #[.val (.int p0), .val (.int p1), .val (.int (e0_1 p0)), .val (.int (e0_2 p1)), .val (.int (e0_3 p1)), .val (.int (1 : Int32)), .val (.int (0 : Int32)), .val (.int (0 : Int32))] [])) _
              refine XS.iload X10.here hx rfl (hb hby at_84) rfl ?_
              exact kt)
          have pre16 : ∀ t, Steps p.tables e below (T10.setTop (mkF m 91 #[.val (.int p0), .val (.int p1), .val (.int (e0_1 p0)), .val (.int (e0_2 p1)), .val (.int (e0_3 p1)), .val (.int (1 : Int32)), .val (.int (0 : Int32)), .val (.int (0 : Int32))] [(.int (0 : Int32))])) t → Steps p.tables e below (s₁.setTop (entryFrame m #[(.int p0), (.int p1)] maxLocals)) t := fun t kt => pre15 t (by
              show Steps p.tables e below (T10.setTop (mkF m 86 #[.val (.int p0), .val (.int p1), .val (.int (e0_1 p0)), .val (.int (e0_2 p1)), .val (.int (e0_3 p1)), .val (.int (1 : Int32)), .val (.int (0 : Int32)), .val (.int (0 : Int32))] [(.int (1 : Int32))])) _
              refine XS.ifNo X10.here hx rfl (hb hby at_86) rfl ((if0 _ _).trans (feq (by decide : ¬ ((1 : Int32) = (0 : Int32)))).1) ?_
              show Steps p.tables e below (T10.setTop (mkF m 89 #[.val (.int p0), .val (.int p1), .val (.int (e0_1 p0)), .val (.int (e0_2 p1)), .val (.int (e0_3 p1)), .val (.int (1 : Int32)), .val (.int (0 : Int32)), .val (.int (0 : Int32))] [])) _
              refine XS.iload X10.here hx rfl (hb hby at_89) rfl ?_
              exact kt)
          obtain ⟨fs, hr, hrun, hended, hW, hsame⟩ := X10.leave (v := some (.int (0 : Int32))) (fun h => by rw [Bd.returns] at h; cases h)
          have hv77 : (f0 p0 p1) = (0 : Int32) := by rw [f0, if_pos hc29_4, if_pos hc41_6, if_pos hc64_9, if_neg hc74_12]
          refine ⟨_, _, pre16 _ ?_, hrun, hended, _, _, rfl, ?_, ⟨_, rfl⟩, hW, hsame.mono (by decide) (by decide)⟩
          · show Steps p.tables e below (T10.setTop (mkF m 91 #[.val (.int p0), .val (.int p1), .val (.int (e0_1 p0)), .val (.int (e0_2 p1)), .val (.int (e0_3 p1)), .val (.int (1 : Int32)), .val (.int (0 : Int32)), .val (.int (0 : Int32))] [(.int (0 : Int32))])) _
            refine XS.ifYes X10.here hx rfl (pc0 := 91) (pc' := 98) rfl (hb hby at_91) rfl ((if0 _ _).trans (teq (by decide : ((0 : Int32) = (0 : Int32)))).1) (by decide) (by decide) ?_
            show Steps p.tables e below (T10.setTop (mkF m 98 #[.val (.int p0), .val (.int p1), .val (.int (e0_1 p0)), .val (.int (e0_2 p1)), .val (.int (e0_3 p1)), .val (.int (1 : Int32)), .val (.int (0 : Int32)), .val (.int (0 : Int32))] [])) _
            refine XS.iconst X10.here hx rfl (hb hby at_98) ?_
            show Steps p.tables e below (T10.setTop (mkF m 99 #[.val (.int p0), .val (.int p1), .val (.int (e0_1 p0)), .val (.int (e0_2 p1)), .val (.int (e0_3 p1)), .val (.int (1 : Int32)), .val (.int (0 : Int32)), .val (.int (0 : Int32))] [(.int (0 : Int32))])) _
            exact retN X10 hx (t := .boolean) Bd.returns (by simp) (hb hby at_99) hr
          · show Q0 Z p0 p1 h0 n0 _ T10.heap _
            rw [e10q]
            exact ⟨congrArg (fun q => some (Value.int q)) hv77.symm, N10⟩
      · have pre17 : ∀ t, Steps p.tables e below (T7.setTop (mkF m 86 #[.val (.int p0), .val (.int p1), .val (.int (e0_1 p0)), .val (.int (e0_2 p1)), .val (.int (e0_3 p1)), .val (.int (1 : Int32)), .val (.int (0 : Int32)), .val (.int (0 : Int32))] [(.int (1 : Int32))])) t → Steps p.tables e below (s₁.setTop (entryFrame m #[(.int p0), (.int p1)] maxLocals)) t := fun t kt => pre8 t (by
            show Steps p.tables e below (T7.setTop (mkF m 64 #[.val (.int p0), .val (.int p1), .val (.int (e0_1 p0)), .val (.int (e0_2 p1)), .val (.int (e0_3 p1)), .val (.int (1 : Int32)), .val (.int (0 : Int32)), .unset] [(.int (0 : Int32)), (.int (f1 (e0_3 p1)))])) _
            refine XS.icmpYes X7.here hx rfl (pc0 := 64) (pc' := 81) rfl (hb hby at_64) rfl (feq hc64_9).2 (by decide) (by decide) ?_
            show Steps p.tables e below (T7.setTop (mkF m 81 #[.val (.int p0), .val (.int p1), .val (.int (e0_1 p0)), .val (.int (e0_2 p1)), .val (.int (e0_3 p1)), .val (.int (1 : Int32)), .val (.int (0 : Int32)), .unset] [])) _
            refine XS.iconst X7.here hx rfl (hb hby at_81) ?_
            show Steps p.tables e below (T7.setTop (mkF m 82 #[.val (.int p0), .val (.int p1), .val (.int (e0_1 p0)), .val (.int (e0_2 p1)), .val (.int (e0_3 p1)), .val (.int (1 : Int32)), .val (.int (0 : Int32)), .unset] [(.int (0 : Int32))])) _
            refine XS.istore X7.here hx rfl (hb hby at_82) rfl (l' := #[.val (.int p0), .val (.int p1), .val (.int (e0_1 p0)), .val (.int (e0_2 p1)), .val (.int (e0_3 p1)), .val (.int (1 : Int32)), .val (.int (0 : Int32)), .val (.int (0 : Int32))]) rfl ?_
            show Steps p.tables e below (T7.setTop (mkF m 84 #[.val (.int p0), .val (.int p1), .val (.int (e0_1 p0)), .val (.int (e0_2 p1)), .val (.int (e0_3 p1)), .val (.int (1 : Int32)), .val (.int (0 : Int32)), .val (.int (0 : Int32))] [])) _
            refine XS.iload X7.here hx rfl (hb hby at_84) rfl ?_
            exact kt)
        have pre18 : ∀ t, Steps p.tables e below (T7.setTop (mkF m 91 #[.val (.int p0), .val (.int p1), .val (.int (e0_1 p0)), .val (.int (e0_2 p1)), .val (.int (e0_3 p1)), .val (.int (1 : Int32)), .val (.int (0 : Int32)), .val (.int (0 : Int32))] [(.int (0 : Int32))])) t → Steps p.tables e below (s₁.setTop (entryFrame m #[(.int p0), (.int p1)] maxLocals)) t := fun t kt => pre17 t (by
            show Steps p.tables e below (T7.setTop (mkF m 86 #[.val (.int p0), .val (.int p1), .val (.int (e0_1 p0)), .val (.int (e0_2 p1)), .val (.int (e0_3 p1)), .val (.int (1 : Int32)), .val (.int (0 : Int32)), .val (.int (0 : Int32))] [(.int (1 : Int32))])) _
            refine XS.ifNo X7.here hx rfl (hb hby at_86) rfl ((if0 _ _).trans (feq (by decide : ¬ ((1 : Int32) = (0 : Int32)))).1) ?_
            show Steps p.tables e below (T7.setTop (mkF m 89 #[.val (.int p0), .val (.int p1), .val (.int (e0_1 p0)), .val (.int (e0_2 p1)), .val (.int (e0_3 p1)), .val (.int (1 : Int32)), .val (.int (0 : Int32)), .val (.int (0 : Int32))] [])) _
            refine XS.iload X7.here hx rfl (hb hby at_89) rfl ?_
            exact kt)
        obtain ⟨fs, hr, hrun, hended, hW, hsame⟩ := X7.leave (v := some (.int (0 : Int32))) (fun h => by rw [Bd.returns] at h; cases h)
        have hv78 : (f0 p0 p1) = (0 : Int32) := by rw [f0, if_pos hc29_4, if_pos hc41_6, if_neg hc64_9]
        refine ⟨_, _, pre18 _ ?_, hrun, hended, _, _, rfl, ?_, ⟨_, rfl⟩, hW, hsame.mono (by decide) (by decide)⟩
        · show Steps p.tables e below (T7.setTop (mkF m 91 #[.val (.int p0), .val (.int p1), .val (.int (e0_1 p0)), .val (.int (e0_2 p1)), .val (.int (e0_3 p1)), .val (.int (1 : Int32)), .val (.int (0 : Int32)), .val (.int (0 : Int32))] [(.int (0 : Int32))])) _
          refine XS.ifYes X7.here hx rfl (pc0 := 91) (pc' := 98) rfl (hb hby at_91) rfl ((if0 _ _).trans (teq (by decide : ((0 : Int32) = (0 : Int32)))).1) (by decide) (by decide) ?_
          show Steps p.tables e below (T7.setTop (mkF m 98 #[.val (.int p0), .val (.int p1), .val (.int (e0_1 p0)), .val (.int (e0_2 p1)), .val (.int (e0_3 p1)), .val (.int (1 : Int32)), .val (.int (0 : Int32)), .val (.int (0 : Int32))] [])) _
          refine XS.iconst X7.here hx rfl (hb hby at_98) ?_
          show Steps p.tables e below (T7.setTop (mkF m 99 #[.val (.int p0), .val (.int p1), .val (.int (e0_1 p0)), .val (.int (e0_2 p1)), .val (.int (e0_3 p1)), .val (.int (1 : Int32)), .val (.int (0 : Int32)), .val (.int (0 : Int32))] [(.int (0 : Int32))])) _
          exact retN X7 hx (t := .boolean) Bd.returns (by simp) (hb hby at_99) hr
        · show Q0 Z p0 p1 h0 n0 _ T7.heap _
          rw [e7q]
          exact ⟨congrArg (fun q => some (Value.int q)) hv78.symm, N7⟩
    · have pre19 : ∀ t, Steps p.tables e below (T2.setTop (mkF m 47 #[.val (.int p0), .val (.int p1), .val (.int (e0_1 p0)), .val (.int (e0_2 p1)), .val (.int (e0_3 p1)), .val (.int (1 : Int32)), .unset, .unset] [(.int (10 : Int32)), (.int (e0_2 p1))])) t → Steps p.tables e below (s₁.setTop (entryFrame m #[(.int p0), (.int p1)] maxLocals)) t := fun t kt => pre5 t (by
          show Steps p.tables e below (T2.setTop (mkF m 41 #[.val (.int p0), .val (.int p1), .val (.int (e0_1 p0)), .val (.int (e0_2 p1)), .val (.int (e0_3 p1)), .val (.int (1 : Int32)), .unset, .unset] [(.int (1 : Int32)), (.int (e0_2 p1))])) _
          refine XS.icmpNo X2.here hx rfl (hb hby at_41) rfl (flt hc41_6).1 ?_
          show Steps p.tables e below (T2.setTop (mkF m 44 #[.val (.int p0), .val (.int p1), .val (.int (e0_1 p0)), .val (.int (e0_2 p1)), .val (.int (e0_3 p1)), .val (.int (1 : Int32)), .unset, .unset] [])) _
          refine XS.iloadN X2.here hx rfl (hb hby at_44) rfl ?_
          show Steps p.tables e below (T2.setTop (mkF m 45 #[.val (.int p0), .val (.int p1), .val (.int (e0_1 p0)), .val (.int (e0_2 p1)), .val (.int (e0_3 p1)), .val (.int (1 : Int32)), .unset, .unset] [(.int (e0_2 p1))])) _
          refine XS.bipush X2.here hx rfl (hb hby at_45) ?_
          exact kt)
      by_cases hc47_20 : (10 : Int32) < (e0_2 p1)
      · obtain ⟨_, _, ⟨T21, L21, k21, n21⟩, -, X21, ⟨Lc21, hQ21, l21, y21, z21⟩, st21⟩ := Jvm.LawKit.callS X2 hx (y := (⟨"com/example/indentary/indentary/reader/SectionHeading", "isDigit", "(C)Z"⟩ : MethodName)) hown (mvT hZ (hw _ (List.mem_of_getElem? (i := 2) rfl))) (mvT hZ (hw _ (List.mem_of_getElem? (i := 3) rfl))) (mvT hZ (hw _ (List.mem_of_getElem? (i := 4) rfl))) (mvT hZ (hw _ (List.mem_of_getElem? (i := 5) rfl))) (by decide) (backOf (W := 0) (rm1 l Z a0 hw [] (e0_3 p1) h0 n0 Z0 ) hZ (hw _ (List.mem_of_getElem? (i := 5) rfl)) (hw _ (List.mem_of_getElem? (i := 4) rfl)) (by decide) (by decide)) (g := (mkF m 59 #[.val (.int p0), .val (.int p1), .val (.int (e0_1 p0)), .val (.int (e0_2 p1)), .val (.int (e0_3 p1)), .val (.int (1 : Int32)), .val (.int (0 : Int32)), .unset] [(.int (e0_3 p1))])) rfl (by rw [hml]; rfl) (argsL := [(.int (e0_3 p1))]) (rest := []) (lenOf pd_0_0 rfl) rfl (by show 2 * 0 + _ ≤ _; exact Nat.le_of_eq rfl) (hb hby at_59) (fun _ _ => ⟨rfl, e2q, (by decide : 0 + 0 ≤ _), (by decide : 0 + 0 ≤ _)⟩)
        dsimp only [Pt.U, Pt.locs, Pt.cells, Pt.slots] at X21 l21 y21 z21 st21 hQ21
        subst l21 y21 z21
        obtain ⟨rfl, N21q, e21q⟩ := hQ21
        have N21 := Fr.app N2 N21q
        have pre22 : ∀ t, Steps p.tables e below (T21.setTop (mkF m 64 #[.val (.int p0), .val (.int p1), .val (.int (e0_1 p0)), .val (.int (e0_2 p1)), .val (.int (e0_3 p1)), .val (.int (1 : Int32)), .val (.int (0 : Int32)), .unset] [(.int (0 : Int32)), (.int (f1 (e0_3 p1)))])) t → Steps p.tables e below (s₁.setTop (entryFrame m #[(.int p0), (.int p1)] maxLocals)) t := fun t kt => pre19 t (by
            show Steps p.tables e below (T2.setTop (mkF m 47 #[.val (.int p0), .val (.int p1), .val (.int (e0_1 p0)), .val (.int (e0_2 p1)), .val (.int (e0_3 p1)), .val (.int (1 : Int32)), .unset, .unset] [(.int (10 : Int32)), (.int (e0_2 p1))])) _
            refine XS.icmpYes X2.here hx rfl (pc0 := 47) (pc' := 54) rfl (hb hby at_47) rfl (tlt hc47_20).2.2.1 (by decide) (by decide) ?_
            show Steps p.tables e below (T2.setTop (mkF m 54 #[.val (.int p0), .val (.int p1), .val (.int (e0_1 p0)), .val (.int (e0_2 p1)), .val (.int (e0_3 p1)), .val (.int (1 : Int32)), .unset, .unset] [])) _
            refine XS.iconst X2.here hx rfl (hb hby at_54) ?_
            show Steps p.tables e below (T2.setTop (mkF m 55 #[.val (.int p0), .val (.int p1), .val (.int (e0_1 p0)), .val (.int (e0_2 p1)), .val (.int (e0_3 p1)), .val (.int (1 : Int32)), .unset, .unset] [(.int (0 : Int32))])) _
            refine XS.istore X2.here hx rfl (hb hby at_55) rfl (l' := #[.val (.int p0), .val (.int p1), .val (.int (e0_1 p0)), .val (.int (e0_2 p1)), .val (.int (e0_3 p1)), .val (.int (1 : Int32)), .val (.int (0 : Int32)), .unset]) rfl ?_
            show Steps p.tables e below (T2.setTop (mkF m 57 #[.val (.int p0), .val (.int p1), .val (.int (e0_1 p0)), .val (.int (e0_2 p1)), .val (.int (e0_3 p1)), .val (.int (1 : Int32)), .val (.int (0 : Int32)), .unset] [])) _
            refine XS.iload X2.here hx rfl (hb hby at_57) rfl ?_
            show Steps p.tables e below (T2.setTop (mkF m 59 #[.val (.int p0), .val (.int p1), .val (.int (e0_1 p0)), .val (.int (e0_2 p1)), .val (.int (e0_3 p1)), .val (.int (1 : Int32)), .val (.int (0 : Int32)), .unset] [(.int (e0_3 p1))])) _
            refine st21 _ ?_
            show Steps p.tables e below (T21.setTop (mkF m 62 #[.val (.int p0), .val (.int p1), .val (.int (e0_1 p0)), .val (.int (e0_2 p1)), .val (.int (e0_3 p1)), .val (.int (1 : Int32)), .val (.int (0 : Int32)), .unset] [(.int (f1 (e0_3 p1)))])) _
            refine XS.iload X21.here hx rfl (hb hby at_62) rfl ?_
            exact kt)
        by_cases hc64_23 : (f1 (e0_3 p1)) = (0 : Int32)
        · obtain ⟨_, _, ⟨T24, L24, k24, n24⟩, -, X24, ⟨Lc24, hQ24, l24, y24, z24⟩, st24⟩ := Jvm.LawKit.callS X21 hx (y := (⟨"com/example/indentary/indentary/reader/SectionHeadingIsDigitPinLaw", "oneOfTen", "(C)Z"⟩ : MethodName)) hown (mvT hZ (hw _ (List.mem_of_getElem? (i := 6) rfl))) (mvT hZ (hw _ (List.mem_of_getElem? (i := 7) rfl))) (mvT hZ (hw _ (List.mem_of_getElem? (i := 8) rfl))) (mvT hZ (hw _ (List.mem_of_getElem? (i := 9) rfl))) (by decide) (backOf (W := 0) (rm2 l Z a0 hw [] (e0_3 p1) h0 n0 Z0 ) hZ (hw _ (List.mem_of_getElem? (i := 9) rfl)) (hw _ (List.mem_of_getElem? (i := 8) rfl)) (by decide) (by decide)) (g := (mkF m 69 #[.val (.int p0), .val (.int p1), .val (.int (e0_1 p0)), .val (.int (e0_2 p1)), .val (.int (e0_3 p1)), .val (.int (1 : Int32)), .val (.int (0 : Int32)), .unset] [(.int (e0_3 p1))])) rfl (by rw [hml]; rfl) (argsL := [(.int (e0_3 p1))]) (rest := []) (lenOf pd_0_0 rfl) rfl (by show 2 * 0 + _ ≤ _; exact Nat.le_of_eq rfl) (hb hby at_69) (fun _ _ => ⟨rfl, e21q, (by decide : 0 + 0 ≤ _), (by decide : 0 + 0 ≤ _)⟩)
          dsimp only [Pt.U, Pt.locs, Pt.cells, Pt.slots] at X24 l24 y24 z24 st24 hQ24
          subst l24 y24 z24
          obtain ⟨rfl, N24q, e24q⟩ := hQ24
          have N24 := Fr.app N21 N24q
          have pre25 : ∀ t, Steps p.tables e below (T24.setTop (mkF m 74 #[.val (.int p0), .val (.int p1), .val (.int (e0_1 p0)), .val (.int (e0_2 p1)), .val (.int (e0_3 p1)), .val (.int (1 : Int32)), .val (.int (0 : Int32)), .unset] [(.int (0 : Int32)), (.int (f2 (e0_3 p1)))])) t → Steps p.tables e below (s₁.setTop (entryFrame m #[(.int p0), (.int p1)] maxLocals)) t := fun t kt => pre22 t (by
              show Steps p.tables e below (T21.setTop (mkF m 64 #[.val (.int p0), .val (.int p1), .val (.int (e0_1 p0)), .val (.int (e0_2 p1)), .val (.int (e0_3 p1)), .val (.int (1 : Int32)), .val (.int (0 : Int32)), .unset] [(.int (0 : Int32)), (.int (f1 (e0_3 p1)))])) _
              refine XS.icmpNo X21.here hx rfl (hb hby at_64) rfl (teq hc64_23).2 ?_
              show Steps p.tables e below (T21.setTop (mkF m 67 #[.val (.int p0), .val (.int p1), .val (.int (e0_1 p0)), .val (.int (e0_2 p1)), .val (.int (e0_3 p1)), .val (.int (1 : Int32)), .val (.int (0 : Int32)), .unset] [])) _
              refine XS.iload X21.here hx rfl (hb hby at_67) rfl ?_
              show Steps p.tables e below (T21.setTop (mkF m 69 #[.val (.int p0), .val (.int p1), .val (.int (e0_1 p0)), .val (.int (e0_2 p1)), .val (.int (e0_3 p1)), .val (.int (1 : Int32)), .val (.int (0 : Int32)), .unset] [(.int (e0_3 p1))])) _
              refine st24 _ ?_
              show Steps p.tables e below (T24.setTop (mkF m 72 #[.val (.int p0), .val (.int p1), .val (.int (e0_1 p0)), .val (.int (e0_2 p1)), .val (.int (e0_3 p1)), .val (.int (1 : Int32)), .val (.int (0 : Int32)), .unset] [(.int (f2 (e0_3 p1)))])) _
              refine XS.iload X24.here hx rfl (hb hby at_72) rfl ?_
              exact kt)
          by_cases hc74_26 : (f2 (e0_3 p1)) = (0 : Int32)
          · have pre27 : ∀ t, Steps p.tables e below (T24.setTop (mkF m 86 #[.val (.int p0), .val (.int p1), .val (.int (e0_1 p0)), .val (.int (e0_2 p1)), .val (.int (e0_3 p1)), .val (.int (1 : Int32)), .val (.int (0 : Int32)), .val (.int (1 : Int32))] [(.int (1 : Int32))])) t → Steps p.tables e below (s₁.setTop (entryFrame m #[(.int p0), (.int p1)] maxLocals)) t := fun t kt => pre25 t (by
                show Steps p.tables e below (T24.setTop (mkF m 74 #[.val (.int p0), .val (.int p1), .val (.int (e0_1 p0)), .val (.int (e0_2 p1)), .val (.int (e0_3 p1)), .val (.int (1 : Int32)), .val (.int (0 : Int32)), .unset] [(.int (0 : Int32)), (.int (f2 (e0_3 p1)))])) _
                refine XS.icmpNo X24.here hx rfl (hb hby at_74) rfl (teq hc74_26).2 ?_
                show Steps p.tables e below (T24.setTop (mkF m 77 #[.val (.int p0), .val (.int p1), .val (.int (e0_1 p0)), .val (.int (e0_2 p1)), .val (.int (e0_3 p1)), .val (.int (1 : Int32)), .val (.int (0 : Int32)), .unset] [])) _
                refine XS.iconst X24.here hx rfl (hb hby at_77) ?_
                show Steps p.tables e below (T24.setTop (mkF m 78 #[.val (.int p0), .val (.int p1), .val (.int (e0_1 p0)), .val (.int (e0_2 p1)), .val (.int (e0_3 p1)), .val (.int (1 : Int32)), .val (.int (0 : Int32)), .unset] [(.int (1 : Int32))])) _
                refine XS.goto X24.here hx rfl (pc0 := 78) (pc' := 82) rfl (hb hby at_78) (by decide) (by decide) ?_
                show Steps p.tables e below (T24.setTop (mkF m 82 #[.val (.int p0), .val (.int p1), .val (.int (e0_1 p0)), .val (.int (e0_2 p1)), .val (.int (e0_3 p1)), .val (.int (1 : Int32)), .val (.int (0 : Int32)), .unset] [(.int (1 : Int32))])) _
                refine XS.istore X24.here hx rfl (hb hby at_82) rfl (l' := #[.val (.int p0), .val (.int p1), .val (.int (e0_1 p0)), .val (.int (e0_2 p1)), .val (.int (e0_3 p1)), .val (.int (1 : Int32)), .val (.int (0 : Int32)), .val (.int (1 : Int32))]) rfl ?_
                show Steps p.tables e below (T24.setTop (mkF m 84 #[.val (.int p0), .val (.int p1), .val (.int (e0_1 p0)), .val (.int (e0_2 p1)), .val (.int (e0_3 p1)), .val (.int (1 : Int32)), .val (.int (0 : Int32)), .val (.int (1 : Int32))] [])) _
                refine XS.iload X24.here hx rfl (hb hby at_84) rfl ?_
                exact kt)
            have pre28 : ∀ t, Steps p.tables e below (T24.setTop (mkF m 91 #[.val (.int p0), .val (.int p1), .val (.int (e0_1 p0)), .val (.int (e0_2 p1)), .val (.int (e0_3 p1)), .val (.int (1 : Int32)), .val (.int (0 : Int32)), .val (.int (1 : Int32))] [(.int (1 : Int32))])) t → Steps p.tables e below (s₁.setTop (entryFrame m #[(.int p0), (.int p1)] maxLocals)) t := fun t kt => pre27 t (by
                show Steps p.tables e below (T24.setTop (mkF m 86 #[.val (.int p0), .val (.int p1), .val (.int (e0_1 p0)), .val (.int (e0_2 p1)), .val (.int (e0_3 p1)), .val (.int (1 : Int32)), .val (.int (0 : Int32)), .val (.int (1 : Int32))] [(.int (1 : Int32))])) _
                refine XS.ifNo X24.here hx rfl (hb hby at_86) rfl ((if0 _ _).trans (feq (by decide : ¬ ((1 : Int32) = (0 : Int32)))).1) ?_
                show Steps p.tables e below (T24.setTop (mkF m 89 #[.val (.int p0), .val (.int p1), .val (.int (e0_1 p0)), .val (.int (e0_2 p1)), .val (.int (e0_3 p1)), .val (.int (1 : Int32)), .val (.int (0 : Int32)), .val (.int (1 : Int32))] [])) _
                refine XS.iload X24.here hx rfl (hb hby at_89) rfl ?_
                exact kt)
            obtain ⟨fs, hr, hrun, hended, hW, hsame⟩ := X24.leave (v := some (.int (1 : Int32))) (fun h => by rw [Bd.returns] at h; cases h)
            have hv79 : (f0 p0 p1) = (1 : Int32) := by rw [f0, if_pos hc29_4, if_neg hc41_6, if_pos hc47_20, if_pos hc64_23, if_pos hc74_26]
            refine ⟨_, _, pre28 _ ?_, hrun, hended, _, _, rfl, ?_, ⟨_, rfl⟩, hW, hsame.mono (by decide) (by decide)⟩
            · show Steps p.tables e below (T24.setTop (mkF m 91 #[.val (.int p0), .val (.int p1), .val (.int (e0_1 p0)), .val (.int (e0_2 p1)), .val (.int (e0_3 p1)), .val (.int (1 : Int32)), .val (.int (0 : Int32)), .val (.int (1 : Int32))] [(.int (1 : Int32))])) _
              refine XS.ifNo X24.here hx rfl (hb hby at_91) rfl ((if0 _ _).trans (feq (by decide : ¬ ((1 : Int32) = (0 : Int32)))).1) ?_
              show Steps p.tables e below (T24.setTop (mkF m 94 #[.val (.int p0), .val (.int p1), .val (.int (e0_1 p0)), .val (.int (e0_2 p1)), .val (.int (e0_3 p1)), .val (.int (1 : Int32)), .val (.int (0 : Int32)), .val (.int (1 : Int32))] [])) _
              refine XS.iconst X24.here hx rfl (hb hby at_94) ?_
              show Steps p.tables e below (T24.setTop (mkF m 95 #[.val (.int p0), .val (.int p1), .val (.int (e0_1 p0)), .val (.int (e0_2 p1)), .val (.int (e0_3 p1)), .val (.int (1 : Int32)), .val (.int (0 : Int32)), .val (.int (1 : Int32))] [(.int (1 : Int32))])) _
              refine XS.goto X24.here hx rfl (pc0 := 95) (pc' := 99) rfl (hb hby at_95) (by decide) (by decide) ?_
              show Steps p.tables e below (T24.setTop (mkF m 99 #[.val (.int p0), .val (.int p1), .val (.int (e0_1 p0)), .val (.int (e0_2 p1)), .val (.int (e0_3 p1)), .val (.int (1 : Int32)), .val (.int (0 : Int32)), .val (.int (1 : Int32))] [(.int (1 : Int32))])) _
              exact retN X24 hx (t := .boolean) Bd.returns (by simp) (hb hby at_99) hr
            · show Q0 Z p0 p1 h0 n0 _ T24.heap _
              rw [e24q]
              exact ⟨congrArg (fun q => some (Value.int q)) hv79.symm, N24⟩
          · have pre29 : ∀ t, Steps p.tables e below (T24.setTop (mkF m 86 #[.val (.int p0), .val (.int p1), .val (.int (e0_1 p0)), .val (.int (e0_2 p1)), .val (.int (e0_3 p1)), .val (.int (1 : Int32)), .val (.int (0 : Int32)), .val (.int (0 : Int32))] [(.int (1 : Int32))])) t → Steps p.tables e below (s₁.setTop (entryFrame m #[(.int p0), (.int p1)] maxLocals)) t := fun t kt => pre25 t (by
                show Steps p.tables e below (T24.setTop (mkF m 74 #[.val (.int p0), .val (.int p1), .val (.int (e0_1 p0)), .val (.int (e0_2 p1)), .val (.int (e0_3 p1)), .val (.int (1 : Int32)), .val (.int (0 : Int32)), .unset] [(.int (0 : Int32)), (.int (f2 (e0_3 p1)))])) _
                refine XS.icmpYes X24.here hx rfl (pc0 := 74) (pc' := 81) rfl (hb hby at_74) rfl (feq hc74_26).2 (by decide) (by decide) ?_
                show Steps p.tables e below (T24.setTop (mkF m 81 #[.val (.int p0), .val (.int p1), .val (.int (e0_1 p0)), .val (.int (e0_2 p1)), .val (.int (e0_3 p1)), .val (.int (1 : Int32)), .val (.int (0 : Int32)), .unset] [])) _
                refine XS.iconst X24.here hx rfl (hb hby at_81) ?_
                show Steps p.tables e below (T24.setTop (mkF m 82 #[.val (.int p0), .val (.int p1), .val (.int (e0_1 p0)), .val (.int (e0_2 p1)), .val (.int (e0_3 p1)), .val (.int (1 : Int32)), .val (.int (0 : Int32)), .unset] [(.int (0 : Int32))])) _
                refine XS.istore X24.here hx rfl (hb hby at_82) rfl (l' := #[.val (.int p0), .val (.int p1), .val (.int (e0_1 p0)), .val (.int (e0_2 p1)), .val (.int (e0_3 p1)), .val (.int (1 : Int32)), .val (.int (0 : Int32)), .val (.int (0 : Int32))]) rfl ?_
                show Steps p.tables e below (T24.setTop (mkF m 84 #[.val (.int p0), .val (.int p1), .val (.int (e0_1 p0)), .val (.int (e0_2 p1)), .val (.int (e0_3 p1)), .val (.int (1 : Int32)), .val (.int (0 : Int32)), .val (.int (0 : Int32))] [])) _
                refine XS.iload X24.here hx rfl (hb hby at_84) rfl ?_
                exact kt)
            have pre30 : ∀ t, Steps p.tables e below (T24.setTop (mkF m 91 #[.val (.int p0), .val (.int p1), .val (.int (e0_1 p0)), .val (.int (e0_2 p1)), .val (.int (e0_3 p1)), .val (.int (1 : Int32)), .val (.int (0 : Int32)), .val (.int (0 : Int32))] [(.int (0 : Int32))])) t → Steps p.tables e below (s₁.setTop (entryFrame m #[(.int p0), (.int p1)] maxLocals)) t := fun t kt => pre29 t (by
                show Steps p.tables e below (T24.setTop (mkF m 86 #[.val (.int p0), .val (.int p1), .val (.int (e0_1 p0)), .val (.int (e0_2 p1)), .val (.int (e0_3 p1)), .val (.int (1 : Int32)), .val (.int (0 : Int32)), .val (.int (0 : Int32))] [(.int (1 : Int32))])) _
                refine XS.ifNo X24.here hx rfl (hb hby at_86) rfl ((if0 _ _).trans (feq (by decide : ¬ ((1 : Int32) = (0 : Int32)))).1) ?_
                show Steps p.tables e below (T24.setTop (mkF m 89 #[.val (.int p0), .val (.int p1), .val (.int (e0_1 p0)), .val (.int (e0_2 p1)), .val (.int (e0_3 p1)), .val (.int (1 : Int32)), .val (.int (0 : Int32)), .val (.int (0 : Int32))] [])) _
                refine XS.iload X24.here hx rfl (hb hby at_89) rfl ?_
                exact kt)
            obtain ⟨fs, hr, hrun, hended, hW, hsame⟩ := X24.leave (v := some (.int (0 : Int32))) (fun h => by rw [Bd.returns] at h; cases h)
            have hv80 : (f0 p0 p1) = (0 : Int32) := by rw [f0, if_pos hc29_4, if_neg hc41_6, if_pos hc47_20, if_pos hc64_23, if_neg hc74_26]
            refine ⟨_, _, pre30 _ ?_, hrun, hended, _, _, rfl, ?_, ⟨_, rfl⟩, hW, hsame.mono (by decide) (by decide)⟩
            · show Steps p.tables e below (T24.setTop (mkF m 91 #[.val (.int p0), .val (.int p1), .val (.int (e0_1 p0)), .val (.int (e0_2 p1)), .val (.int (e0_3 p1)), .val (.int (1 : Int32)), .val (.int (0 : Int32)), .val (.int (0 : Int32))] [(.int (0 : Int32))])) _
              refine XS.ifYes X24.here hx rfl (pc0 := 91) (pc' := 98) rfl (hb hby at_91) rfl ((if0 _ _).trans (teq (by decide : ((0 : Int32) = (0 : Int32)))).1) (by decide) (by decide) ?_
              show Steps p.tables e below (T24.setTop (mkF m 98 #[.val (.int p0), .val (.int p1), .val (.int (e0_1 p0)), .val (.int (e0_2 p1)), .val (.int (e0_3 p1)), .val (.int (1 : Int32)), .val (.int (0 : Int32)), .val (.int (0 : Int32))] [])) _
              refine XS.iconst X24.here hx rfl (hb hby at_98) ?_
              show Steps p.tables e below (T24.setTop (mkF m 99 #[.val (.int p0), .val (.int p1), .val (.int (e0_1 p0)), .val (.int (e0_2 p1)), .val (.int (e0_3 p1)), .val (.int (1 : Int32)), .val (.int (0 : Int32)), .val (.int (0 : Int32))] [(.int (0 : Int32))])) _
              exact retN X24 hx (t := .boolean) Bd.returns (by simp) (hb hby at_99) hr
            · show Q0 Z p0 p1 h0 n0 _ T24.heap _
              rw [e24q]
              exact ⟨congrArg (fun q => some (Value.int q)) hv80.symm, N24⟩
        · have pre31 : ∀ t, Steps p.tables e below (T21.setTop (mkF m 86 #[.val (.int p0), .val (.int p1), .val (.int (e0_1 p0)), .val (.int (e0_2 p1)), .val (.int (e0_3 p1)), .val (.int (1 : Int32)), .val (.int (0 : Int32)), .val (.int (0 : Int32))] [(.int (1 : Int32))])) t → Steps p.tables e below (s₁.setTop (entryFrame m #[(.int p0), (.int p1)] maxLocals)) t := fun t kt => pre22 t (by
              show Steps p.tables e below (T21.setTop (mkF m 64 #[.val (.int p0), .val (.int p1), .val (.int (e0_1 p0)), .val (.int (e0_2 p1)), .val (.int (e0_3 p1)), .val (.int (1 : Int32)), .val (.int (0 : Int32)), .unset] [(.int (0 : Int32)), (.int (f1 (e0_3 p1)))])) _
              refine XS.icmpYes X21.here hx rfl (pc0 := 64) (pc' := 81) rfl (hb hby at_64) rfl (feq hc64_23).2 (by decide) (by decide) ?_
              show Steps p.tables e below (T21.setTop (mkF m 81 #[.val (.int p0), .val (.int p1), .val (.int (e0_1 p0)), .val (.int (e0_2 p1)), .val (.int (e0_3 p1)), .val (.int (1 : Int32)), .val (.int (0 : Int32)), .unset] [])) _
              refine XS.iconst X21.here hx rfl (hb hby at_81) ?_
              show Steps p.tables e below (T21.setTop (mkF m 82 #[.val (.int p0), .val (.int p1), .val (.int (e0_1 p0)), .val (.int (e0_2 p1)), .val (.int (e0_3 p1)), .val (.int (1 : Int32)), .val (.int (0 : Int32)), .unset] [(.int (0 : Int32))])) _
              refine XS.istore X21.here hx rfl (hb hby at_82) rfl (l' := #[.val (.int p0), .val (.int p1), .val (.int (e0_1 p0)), .val (.int (e0_2 p1)), .val (.int (e0_3 p1)), .val (.int (1 : Int32)), .val (.int (0 : Int32)), .val (.int (0 : Int32))]) rfl ?_
              show Steps p.tables e below (T21.setTop (mkF m 84 #[.val (.int p0), .val (.int p1), .val (.int (e0_1 p0)), .val (.int (e0_2 p1)), .val (.int (e0_3 p1)), .val (.int (1 : Int32)), .val (.int (0 : Int32)), .val (.int (0 : Int32))] [])) _
              refine XS.iload X21.here hx rfl (hb hby at_84) rfl ?_
              exact kt)
          have pre32 : ∀ t, Steps p.tables e below (T21.setTop (mkF m 91 #[.val (.int p0), .val (.int p1), .val (.int (e0_1 p0)), .val (.int (e0_2 p1)), .val (.int (e0_3 p1)), .val (.int (1 : Int32)), .val (.int (0 : Int32)), .val (.int (0 : Int32))] [(.int (0 : Int32))])) t → Steps p.tables e below (s₁.setTop (entryFrame m #[(.int p0), (.int p1)] maxLocals)) t := fun t kt => pre31 t (by
              show Steps p.tables e below (T21.setTop (mkF m 86 #[.val (.int p0), .val (.int p1), .val (.int (e0_1 p0)), .val (.int (e0_2 p1)), .val (.int (e0_3 p1)), .val (.int (1 : Int32)), .val (.int (0 : Int32)), .val (.int (0 : Int32))] [(.int (1 : Int32))])) _
              refine XS.ifNo X21.here hx rfl (hb hby at_86) rfl ((if0 _ _).trans (feq (by decide : ¬ ((1 : Int32) = (0 : Int32)))).1) ?_
              show Steps p.tables e below (T21.setTop (mkF m 89 #[.val (.int p0), .val (.int p1), .val (.int (e0_1 p0)), .val (.int (e0_2 p1)), .val (.int (e0_3 p1)), .val (.int (1 : Int32)), .val (.int (0 : Int32)), .val (.int (0 : Int32))] [])) _
              refine XS.iload X21.here hx rfl (hb hby at_89) rfl ?_
              exact kt)
          obtain ⟨fs, hr, hrun, hended, hW, hsame⟩ := X21.leave (v := some (.int (0 : Int32))) (fun h => by rw [Bd.returns] at h; cases h)
          have hv81 : (f0 p0 p1) = (0 : Int32) := by rw [f0, if_pos hc29_4, if_neg hc41_6, if_pos hc47_20, if_neg hc64_23]
          refine ⟨_, _, pre32 _ ?_, hrun, hended, _, _, rfl, ?_, ⟨_, rfl⟩, hW, hsame.mono (by decide) (by decide)⟩
          · show Steps p.tables e below (T21.setTop (mkF m 91 #[.val (.int p0), .val (.int p1), .val (.int (e0_1 p0)), .val (.int (e0_2 p1)), .val (.int (e0_3 p1)), .val (.int (1 : Int32)), .val (.int (0 : Int32)), .val (.int (0 : Int32))] [(.int (0 : Int32))])) _
            refine XS.ifYes X21.here hx rfl (pc0 := 91) (pc' := 98) rfl (hb hby at_91) rfl ((if0 _ _).trans (teq (by decide : ((0 : Int32) = (0 : Int32)))).1) (by decide) (by decide) ?_
            show Steps p.tables e below (T21.setTop (mkF m 98 #[.val (.int p0), .val (.int p1), .val (.int (e0_1 p0)), .val (.int (e0_2 p1)), .val (.int (e0_3 p1)), .val (.int (1 : Int32)), .val (.int (0 : Int32)), .val (.int (0 : Int32))] [])) _
            refine XS.iconst X21.here hx rfl (hb hby at_98) ?_
            show Steps p.tables e below (T21.setTop (mkF m 99 #[.val (.int p0), .val (.int p1), .val (.int (e0_1 p0)), .val (.int (e0_2 p1)), .val (.int (e0_3 p1)), .val (.int (1 : Int32)), .val (.int (0 : Int32)), .val (.int (0 : Int32))] [(.int (0 : Int32))])) _
            exact retN X21 hx (t := .boolean) Bd.returns (by simp) (hb hby at_99) hr
          · show Q0 Z p0 p1 h0 n0 _ T21.heap _
            rw [e21q]
            exact ⟨congrArg (fun q => some (Value.int q)) hv81.symm, N21⟩
      · obtain ⟨_, _, ⟨T33, L33, k33, n33⟩, -, X33, ⟨Lc33, hQ33, l33, y33, z33⟩, st33⟩ := Jvm.LawKit.callS X2 hx (y := (⟨"com/example/indentary/indentary/reader/SectionHeading", "isDigit", "(C)Z"⟩ : MethodName)) hown (mvT hZ (hw _ (List.mem_of_getElem? (i := 2) rfl))) (mvT hZ (hw _ (List.mem_of_getElem? (i := 3) rfl))) (mvT hZ (hw _ (List.mem_of_getElem? (i := 4) rfl))) (mvT hZ (hw _ (List.mem_of_getElem? (i := 5) rfl))) (by decide) (backOf (W := 0) (rm1 l Z a0 hw [] (e0_3 p1) h0 n0 Z0 ) hZ (hw _ (List.mem_of_getElem? (i := 5) rfl)) (hw _ (List.mem_of_getElem? (i := 4) rfl)) (by decide) (by decide)) (g := (mkF m 59 #[.val (.int p0), .val (.int p1), .val (.int (e0_1 p0)), .val (.int (e0_2 p1)), .val (.int (e0_3 p1)), .val (.int (1 : Int32)), .val (.int (1 : Int32)), .unset] [(.int (e0_3 p1))])) rfl (by rw [hml]; rfl) (argsL := [(.int (e0_3 p1))]) (rest := []) (lenOf pd_0_0 rfl) rfl (by show 2 * 0 + _ ≤ _; exact Nat.le_of_eq rfl) (hb hby at_59) (fun _ _ => ⟨rfl, e2q, (by decide : 0 + 0 ≤ _), (by decide : 0 + 0 ≤ _)⟩)
        dsimp only [Pt.U, Pt.locs, Pt.cells, Pt.slots] at X33 l33 y33 z33 st33 hQ33
        subst l33 y33 z33
        obtain ⟨rfl, N33q, e33q⟩ := hQ33
        have N33 := Fr.app N2 N33q
        have pre34 : ∀ t, Steps p.tables e below (T33.setTop (mkF m 64 #[.val (.int p0), .val (.int p1), .val (.int (e0_1 p0)), .val (.int (e0_2 p1)), .val (.int (e0_3 p1)), .val (.int (1 : Int32)), .val (.int (1 : Int32)), .unset] [(.int (1 : Int32)), (.int (f1 (e0_3 p1)))])) t → Steps p.tables e below (s₁.setTop (entryFrame m #[(.int p0), (.int p1)] maxLocals)) t := fun t kt => pre19 t (by
            show Steps p.tables e below (T2.setTop (mkF m 47 #[.val (.int p0), .val (.int p1), .val (.int (e0_1 p0)), .val (.int (e0_2 p1)), .val (.int (e0_3 p1)), .val (.int (1 : Int32)), .unset, .unset] [(.int (10 : Int32)), (.int (e0_2 p1))])) _
            refine XS.icmpNo X2.here hx rfl (hb hby at_47) rfl (flt hc47_20).2.2.1 ?_
            show Steps p.tables e below (T2.setTop (mkF m 50 #[.val (.int p0), .val (.int p1), .val (.int (e0_1 p0)), .val (.int (e0_2 p1)), .val (.int (e0_3 p1)), .val (.int (1 : Int32)), .unset, .unset] [])) _
            refine XS.iconst X2.here hx rfl (hb hby at_50) ?_
            show Steps p.tables e below (T2.setTop (mkF m 51 #[.val (.int p0), .val (.int p1), .val (.int (e0_1 p0)), .val (.int (e0_2 p1)), .val (.int (e0_3 p1)), .val (.int (1 : Int32)), .unset, .unset] [(.int (1 : Int32))])) _
            refine XS.goto X2.here hx rfl (pc0 := 51) (pc' := 55) rfl (hb hby at_51) (by decide) (by decide) ?_
            show Steps p.tables e below (T2.setTop (mkF m 55 #[.val (.int p0), .val (.int p1), .val (.int (e0_1 p0)), .val (.int (e0_2 p1)), .val (.int (e0_3 p1)), .val (.int (1 : Int32)), .unset, .unset] [(.int (1 : Int32))])) _
            refine XS.istore X2.here hx rfl (hb hby at_55) rfl (l' := #[.val (.int p0), .val (.int p1), .val (.int (e0_1 p0)), .val (.int (e0_2 p1)), .val (.int (e0_3 p1)), .val (.int (1 : Int32)), .val (.int (1 : Int32)), .unset]) rfl ?_
            show Steps p.tables e below (T2.setTop (mkF m 57 #[.val (.int p0), .val (.int p1), .val (.int (e0_1 p0)), .val (.int (e0_2 p1)), .val (.int (e0_3 p1)), .val (.int (1 : Int32)), .val (.int (1 : Int32)), .unset] [])) _
            refine XS.iload X2.here hx rfl (hb hby at_57) rfl ?_
            show Steps p.tables e below (T2.setTop (mkF m 59 #[.val (.int p0), .val (.int p1), .val (.int (e0_1 p0)), .val (.int (e0_2 p1)), .val (.int (e0_3 p1)), .val (.int (1 : Int32)), .val (.int (1 : Int32)), .unset] [(.int (e0_3 p1))])) _
            refine st33 _ ?_
            show Steps p.tables e below (T33.setTop (mkF m 62 #[.val (.int p0), .val (.int p1), .val (.int (e0_1 p0)), .val (.int (e0_2 p1)), .val (.int (e0_3 p1)), .val (.int (1 : Int32)), .val (.int (1 : Int32)), .unset] [(.int (f1 (e0_3 p1)))])) _
            refine XS.iload X33.here hx rfl (hb hby at_62) rfl ?_
            exact kt)
        by_cases hc64_35 : (f1 (e0_3 p1)) = (1 : Int32)
        · obtain ⟨_, _, ⟨T36, L36, k36, n36⟩, -, X36, ⟨Lc36, hQ36, l36, y36, z36⟩, st36⟩ := Jvm.LawKit.callS X33 hx (y := (⟨"com/example/indentary/indentary/reader/SectionHeadingIsDigitPinLaw", "oneOfTen", "(C)Z"⟩ : MethodName)) hown (mvT hZ (hw _ (List.mem_of_getElem? (i := 6) rfl))) (mvT hZ (hw _ (List.mem_of_getElem? (i := 7) rfl))) (mvT hZ (hw _ (List.mem_of_getElem? (i := 8) rfl))) (mvT hZ (hw _ (List.mem_of_getElem? (i := 9) rfl))) (by decide) (backOf (W := 0) (rm2 l Z a0 hw [] (e0_3 p1) h0 n0 Z0 ) hZ (hw _ (List.mem_of_getElem? (i := 9) rfl)) (hw _ (List.mem_of_getElem? (i := 8) rfl)) (by decide) (by decide)) (g := (mkF m 69 #[.val (.int p0), .val (.int p1), .val (.int (e0_1 p0)), .val (.int (e0_2 p1)), .val (.int (e0_3 p1)), .val (.int (1 : Int32)), .val (.int (1 : Int32)), .unset] [(.int (e0_3 p1))])) rfl (by rw [hml]; rfl) (argsL := [(.int (e0_3 p1))]) (rest := []) (lenOf pd_0_0 rfl) rfl (by show 2 * 0 + _ ≤ _; exact Nat.le_of_eq rfl) (hb hby at_69) (fun _ _ => ⟨rfl, e33q, (by decide : 0 + 0 ≤ _), (by decide : 0 + 0 ≤ _)⟩)
          dsimp only [Pt.U, Pt.locs, Pt.cells, Pt.slots] at X36 l36 y36 z36 st36 hQ36
          subst l36 y36 z36
          obtain ⟨rfl, N36q, e36q⟩ := hQ36
          have N36 := Fr.app N33 N36q
          have pre37 : ∀ t, Steps p.tables e below (T36.setTop (mkF m 74 #[.val (.int p0), .val (.int p1), .val (.int (e0_1 p0)), .val (.int (e0_2 p1)), .val (.int (e0_3 p1)), .val (.int (1 : Int32)), .val (.int (1 : Int32)), .unset] [(.int (1 : Int32)), (.int (f2 (e0_3 p1)))])) t → Steps p.tables e below (s₁.setTop (entryFrame m #[(.int p0), (.int p1)] maxLocals)) t := fun t kt => pre34 t (by
              show Steps p.tables e below (T33.setTop (mkF m 64 #[.val (.int p0), .val (.int p1), .val (.int (e0_1 p0)), .val (.int (e0_2 p1)), .val (.int (e0_3 p1)), .val (.int (1 : Int32)), .val (.int (1 : Int32)), .unset] [(.int (1 : Int32)), (.int (f1 (e0_3 p1)))])) _
              refine XS.icmpNo X33.here hx rfl (hb hby at_64) rfl (teq hc64_35).2 ?_
              show Steps p.tables e below (T33.setTop (mkF m 67 #[.val (.int p0), .val (.int p1), .val (.int (e0_1 p0)), .val (.int (e0_2 p1)), .val (.int (e0_3 p1)), .val (.int (1 : Int32)), .val (.int (1 : Int32)), .unset] [])) _
              refine XS.iload X33.here hx rfl (hb hby at_67) rfl ?_
              show Steps p.tables e below (T33.setTop (mkF m 69 #[.val (.int p0), .val (.int p1), .val (.int (e0_1 p0)), .val (.int (e0_2 p1)), .val (.int (e0_3 p1)), .val (.int (1 : Int32)), .val (.int (1 : Int32)), .unset] [(.int (e0_3 p1))])) _
              refine st36 _ ?_
              show Steps p.tables e below (T36.setTop (mkF m 72 #[.val (.int p0), .val (.int p1), .val (.int (e0_1 p0)), .val (.int (e0_2 p1)), .val (.int (e0_3 p1)), .val (.int (1 : Int32)), .val (.int (1 : Int32)), .unset] [(.int (f2 (e0_3 p1)))])) _
              refine XS.iload X36.here hx rfl (hb hby at_72) rfl ?_
              exact kt)
          by_cases hc74_38 : (f2 (e0_3 p1)) = (1 : Int32)
          · have pre39 : ∀ t, Steps p.tables e below (T36.setTop (mkF m 86 #[.val (.int p0), .val (.int p1), .val (.int (e0_1 p0)), .val (.int (e0_2 p1)), .val (.int (e0_3 p1)), .val (.int (1 : Int32)), .val (.int (1 : Int32)), .val (.int (1 : Int32))] [(.int (1 : Int32))])) t → Steps p.tables e below (s₁.setTop (entryFrame m #[(.int p0), (.int p1)] maxLocals)) t := fun t kt => pre37 t (by
                show Steps p.tables e below (T36.setTop (mkF m 74 #[.val (.int p0), .val (.int p1), .val (.int (e0_1 p0)), .val (.int (e0_2 p1)), .val (.int (e0_3 p1)), .val (.int (1 : Int32)), .val (.int (1 : Int32)), .unset] [(.int (1 : Int32)), (.int (f2 (e0_3 p1)))])) _
                refine XS.icmpNo X36.here hx rfl (hb hby at_74) rfl (teq hc74_38).2 ?_
                show Steps p.tables e below (T36.setTop (mkF m 77 #[.val (.int p0), .val (.int p1), .val (.int (e0_1 p0)), .val (.int (e0_2 p1)), .val (.int (e0_3 p1)), .val (.int (1 : Int32)), .val (.int (1 : Int32)), .unset] [])) _
                refine XS.iconst X36.here hx rfl (hb hby at_77) ?_
                show Steps p.tables e below (T36.setTop (mkF m 78 #[.val (.int p0), .val (.int p1), .val (.int (e0_1 p0)), .val (.int (e0_2 p1)), .val (.int (e0_3 p1)), .val (.int (1 : Int32)), .val (.int (1 : Int32)), .unset] [(.int (1 : Int32))])) _
                refine XS.goto X36.here hx rfl (pc0 := 78) (pc' := 82) rfl (hb hby at_78) (by decide) (by decide) ?_
                show Steps p.tables e below (T36.setTop (mkF m 82 #[.val (.int p0), .val (.int p1), .val (.int (e0_1 p0)), .val (.int (e0_2 p1)), .val (.int (e0_3 p1)), .val (.int (1 : Int32)), .val (.int (1 : Int32)), .unset] [(.int (1 : Int32))])) _
                refine XS.istore X36.here hx rfl (hb hby at_82) rfl (l' := #[.val (.int p0), .val (.int p1), .val (.int (e0_1 p0)), .val (.int (e0_2 p1)), .val (.int (e0_3 p1)), .val (.int (1 : Int32)), .val (.int (1 : Int32)), .val (.int (1 : Int32))]) rfl ?_
                show Steps p.tables e below (T36.setTop (mkF m 84 #[.val (.int p0), .val (.int p1), .val (.int (e0_1 p0)), .val (.int (e0_2 p1)), .val (.int (e0_3 p1)), .val (.int (1 : Int32)), .val (.int (1 : Int32)), .val (.int (1 : Int32))] [])) _
                refine XS.iload X36.here hx rfl (hb hby at_84) rfl ?_
                exact kt)
            have pre40 : ∀ t, Steps p.tables e below (T36.setTop (mkF m 91 #[.val (.int p0), .val (.int p1), .val (.int (e0_1 p0)), .val (.int (e0_2 p1)), .val (.int (e0_3 p1)), .val (.int (1 : Int32)), .val (.int (1 : Int32)), .val (.int (1 : Int32))] [(.int (1 : Int32))])) t → Steps p.tables e below (s₁.setTop (entryFrame m #[(.int p0), (.int p1)] maxLocals)) t := fun t kt => pre39 t (by
                show Steps p.tables e below (T36.setTop (mkF m 86 #[.val (.int p0), .val (.int p1), .val (.int (e0_1 p0)), .val (.int (e0_2 p1)), .val (.int (e0_3 p1)), .val (.int (1 : Int32)), .val (.int (1 : Int32)), .val (.int (1 : Int32))] [(.int (1 : Int32))])) _
                refine XS.ifNo X36.here hx rfl (hb hby at_86) rfl ((if0 _ _).trans (feq (by decide : ¬ ((1 : Int32) = (0 : Int32)))).1) ?_
                show Steps p.tables e below (T36.setTop (mkF m 89 #[.val (.int p0), .val (.int p1), .val (.int (e0_1 p0)), .val (.int (e0_2 p1)), .val (.int (e0_3 p1)), .val (.int (1 : Int32)), .val (.int (1 : Int32)), .val (.int (1 : Int32))] [])) _
                refine XS.iload X36.here hx rfl (hb hby at_89) rfl ?_
                exact kt)
            obtain ⟨fs, hr, hrun, hended, hW, hsame⟩ := X36.leave (v := some (.int (1 : Int32))) (fun h => by rw [Bd.returns] at h; cases h)
            have hv82 : (f0 p0 p1) = (1 : Int32) := by rw [f0, if_pos hc29_4, if_neg hc41_6, if_neg hc47_20, if_pos hc64_35, if_pos hc74_38]
            refine ⟨_, _, pre40 _ ?_, hrun, hended, _, _, rfl, ?_, ⟨_, rfl⟩, hW, hsame.mono (by decide) (by decide)⟩
            · show Steps p.tables e below (T36.setTop (mkF m 91 #[.val (.int p0), .val (.int p1), .val (.int (e0_1 p0)), .val (.int (e0_2 p1)), .val (.int (e0_3 p1)), .val (.int (1 : Int32)), .val (.int (1 : Int32)), .val (.int (1 : Int32))] [(.int (1 : Int32))])) _
              refine XS.ifNo X36.here hx rfl (hb hby at_91) rfl ((if0 _ _).trans (feq (by decide : ¬ ((1 : Int32) = (0 : Int32)))).1) ?_
              show Steps p.tables e below (T36.setTop (mkF m 94 #[.val (.int p0), .val (.int p1), .val (.int (e0_1 p0)), .val (.int (e0_2 p1)), .val (.int (e0_3 p1)), .val (.int (1 : Int32)), .val (.int (1 : Int32)), .val (.int (1 : Int32))] [])) _
              refine XS.iconst X36.here hx rfl (hb hby at_94) ?_
              show Steps p.tables e below (T36.setTop (mkF m 95 #[.val (.int p0), .val (.int p1), .val (.int (e0_1 p0)), .val (.int (e0_2 p1)), .val (.int (e0_3 p1)), .val (.int (1 : Int32)), .val (.int (1 : Int32)), .val (.int (1 : Int32))] [(.int (1 : Int32))])) _
              refine XS.goto X36.here hx rfl (pc0 := 95) (pc' := 99) rfl (hb hby at_95) (by decide) (by decide) ?_
              show Steps p.tables e below (T36.setTop (mkF m 99 #[.val (.int p0), .val (.int p1), .val (.int (e0_1 p0)), .val (.int (e0_2 p1)), .val (.int (e0_3 p1)), .val (.int (1 : Int32)), .val (.int (1 : Int32)), .val (.int (1 : Int32))] [(.int (1 : Int32))])) _
              exact retN X36 hx (t := .boolean) Bd.returns (by simp) (hb hby at_99) hr
            · show Q0 Z p0 p1 h0 n0 _ T36.heap _
              rw [e36q]
              exact ⟨congrArg (fun q => some (Value.int q)) hv82.symm, N36⟩
          · have pre41 : ∀ t, Steps p.tables e below (T36.setTop (mkF m 86 #[.val (.int p0), .val (.int p1), .val (.int (e0_1 p0)), .val (.int (e0_2 p1)), .val (.int (e0_3 p1)), .val (.int (1 : Int32)), .val (.int (1 : Int32)), .val (.int (0 : Int32))] [(.int (1 : Int32))])) t → Steps p.tables e below (s₁.setTop (entryFrame m #[(.int p0), (.int p1)] maxLocals)) t := fun t kt => pre37 t (by
                show Steps p.tables e below (T36.setTop (mkF m 74 #[.val (.int p0), .val (.int p1), .val (.int (e0_1 p0)), .val (.int (e0_2 p1)), .val (.int (e0_3 p1)), .val (.int (1 : Int32)), .val (.int (1 : Int32)), .unset] [(.int (1 : Int32)), (.int (f2 (e0_3 p1)))])) _
                refine XS.icmpYes X36.here hx rfl (pc0 := 74) (pc' := 81) rfl (hb hby at_74) rfl (feq hc74_38).2 (by decide) (by decide) ?_
                show Steps p.tables e below (T36.setTop (mkF m 81 #[.val (.int p0), .val (.int p1), .val (.int (e0_1 p0)), .val (.int (e0_2 p1)), .val (.int (e0_3 p1)), .val (.int (1 : Int32)), .val (.int (1 : Int32)), .unset] [])) _
                refine XS.iconst X36.here hx rfl (hb hby at_81) ?_
                show Steps p.tables e below (T36.setTop (mkF m 82 #[.val (.int p0), .val (.int p1), .val (.int (e0_1 p0)), .val (.int (e0_2 p1)), .val (.int (e0_3 p1)), .val (.int (1 : Int32)), .val (.int (1 : Int32)), .unset] [(.int (0 : Int32))])) _
                refine XS.istore X36.here hx rfl (hb hby at_82) rfl (l' := #[.val (.int p0), .val (.int p1), .val (.int (e0_1 p0)), .val (.int (e0_2 p1)), .val (.int (e0_3 p1)), .val (.int (1 : Int32)), .val (.int (1 : Int32)), .val (.int (0 : Int32))]) rfl ?_
                show Steps p.tables e below (T36.setTop (mkF m 84 #[.val (.int p0), .val (.int p1), .val (.int (e0_1 p0)), .val (.int (e0_2 p1)), .val (.int (e0_3 p1)), .val (.int (1 : Int32)), .val (.int (1 : Int32)), .val (.int (0 : Int32))] [])) _
                refine XS.iload X36.here hx rfl (hb hby at_84) rfl ?_
                exact kt)
            have pre42 : ∀ t, Steps p.tables e below (T36.setTop (mkF m 91 #[.val (.int p0), .val (.int p1), .val (.int (e0_1 p0)), .val (.int (e0_2 p1)), .val (.int (e0_3 p1)), .val (.int (1 : Int32)), .val (.int (1 : Int32)), .val (.int (0 : Int32))] [(.int (0 : Int32))])) t → Steps p.tables e below (s₁.setTop (entryFrame m #[(.int p0), (.int p1)] maxLocals)) t := fun t kt => pre41 t (by
                show Steps p.tables e below (T36.setTop (mkF m 86 #[.val (.int p0), .val (.int p1), .val (.int (e0_1 p0)), .val (.int (e0_2 p1)), .val (.int (e0_3 p1)), .val (.int (1 : Int32)), .val (.int (1 : Int32)), .val (.int (0 : Int32))] [(.int (1 : Int32))])) _
                refine XS.ifNo X36.here hx rfl (hb hby at_86) rfl ((if0 _ _).trans (feq (by decide : ¬ ((1 : Int32) = (0 : Int32)))).1) ?_
                show Steps p.tables e below (T36.setTop (mkF m 89 #[.val (.int p0), .val (.int p1), .val (.int (e0_1 p0)), .val (.int (e0_2 p1)), .val (.int (e0_3 p1)), .val (.int (1 : Int32)), .val (.int (1 : Int32)), .val (.int (0 : Int32))] [])) _
                refine XS.iload X36.here hx rfl (hb hby at_89) rfl ?_
                exact kt)
            obtain ⟨fs, hr, hrun, hended, hW, hsame⟩ := X36.leave (v := some (.int (0 : Int32))) (fun h => by rw [Bd.returns] at h; cases h)
            have hv83 : (f0 p0 p1) = (0 : Int32) := by rw [f0, if_pos hc29_4, if_neg hc41_6, if_neg hc47_20, if_pos hc64_35, if_neg hc74_38]
            refine ⟨_, _, pre42 _ ?_, hrun, hended, _, _, rfl, ?_, ⟨_, rfl⟩, hW, hsame.mono (by decide) (by decide)⟩
            · show Steps p.tables e below (T36.setTop (mkF m 91 #[.val (.int p0), .val (.int p1), .val (.int (e0_1 p0)), .val (.int (e0_2 p1)), .val (.int (e0_3 p1)), .val (.int (1 : Int32)), .val (.int (1 : Int32)), .val (.int (0 : Int32))] [(.int (0 : Int32))])) _
              refine XS.ifYes X36.here hx rfl (pc0 := 91) (pc' := 98) rfl (hb hby at_91) rfl ((if0 _ _).trans (teq (by decide : ((0 : Int32) = (0 : Int32)))).1) (by decide) (by decide) ?_
              show Steps p.tables e below (T36.setTop (mkF m 98 #[.val (.int p0), .val (.int p1), .val (.int (e0_1 p0)), .val (.int (e0_2 p1)), .val (.int (e0_3 p1)), .val (.int (1 : Int32)), .val (.int (1 : Int32)), .val (.int (0 : Int32))] [])) _
              refine XS.iconst X36.here hx rfl (hb hby at_98) ?_
              show Steps p.tables e below (T36.setTop (mkF m 99 #[.val (.int p0), .val (.int p1), .val (.int (e0_1 p0)), .val (.int (e0_2 p1)), .val (.int (e0_3 p1)), .val (.int (1 : Int32)), .val (.int (1 : Int32)), .val (.int (0 : Int32))] [(.int (0 : Int32))])) _
              exact retN X36 hx (t := .boolean) Bd.returns (by simp) (hb hby at_99) hr
            · show Q0 Z p0 p1 h0 n0 _ T36.heap _
              rw [e36q]
              exact ⟨congrArg (fun q => some (Value.int q)) hv83.symm, N36⟩
        · have pre43 : ∀ t, Steps p.tables e below (T33.setTop (mkF m 86 #[.val (.int p0), .val (.int p1), .val (.int (e0_1 p0)), .val (.int (e0_2 p1)), .val (.int (e0_3 p1)), .val (.int (1 : Int32)), .val (.int (1 : Int32)), .val (.int (0 : Int32))] [(.int (1 : Int32))])) t → Steps p.tables e below (s₁.setTop (entryFrame m #[(.int p0), (.int p1)] maxLocals)) t := fun t kt => pre34 t (by
              show Steps p.tables e below (T33.setTop (mkF m 64 #[.val (.int p0), .val (.int p1), .val (.int (e0_1 p0)), .val (.int (e0_2 p1)), .val (.int (e0_3 p1)), .val (.int (1 : Int32)), .val (.int (1 : Int32)), .unset] [(.int (1 : Int32)), (.int (f1 (e0_3 p1)))])) _
              refine XS.icmpYes X33.here hx rfl (pc0 := 64) (pc' := 81) rfl (hb hby at_64) rfl (feq hc64_35).2 (by decide) (by decide) ?_
              show Steps p.tables e below (T33.setTop (mkF m 81 #[.val (.int p0), .val (.int p1), .val (.int (e0_1 p0)), .val (.int (e0_2 p1)), .val (.int (e0_3 p1)), .val (.int (1 : Int32)), .val (.int (1 : Int32)), .unset] [])) _
              refine XS.iconst X33.here hx rfl (hb hby at_81) ?_
              show Steps p.tables e below (T33.setTop (mkF m 82 #[.val (.int p0), .val (.int p1), .val (.int (e0_1 p0)), .val (.int (e0_2 p1)), .val (.int (e0_3 p1)), .val (.int (1 : Int32)), .val (.int (1 : Int32)), .unset] [(.int (0 : Int32))])) _
              refine XS.istore X33.here hx rfl (hb hby at_82) rfl (l' := #[.val (.int p0), .val (.int p1), .val (.int (e0_1 p0)), .val (.int (e0_2 p1)), .val (.int (e0_3 p1)), .val (.int (1 : Int32)), .val (.int (1 : Int32)), .val (.int (0 : Int32))]) rfl ?_
              show Steps p.tables e below (T33.setTop (mkF m 84 #[.val (.int p0), .val (.int p1), .val (.int (e0_1 p0)), .val (.int (e0_2 p1)), .val (.int (e0_3 p1)), .val (.int (1 : Int32)), .val (.int (1 : Int32)), .val (.int (0 : Int32))] [])) _
              refine XS.iload X33.here hx rfl (hb hby at_84) rfl ?_
              exact kt)
          have pre44 : ∀ t, Steps p.tables e below (T33.setTop (mkF m 91 #[.val (.int p0), .val (.int p1), .val (.int (e0_1 p0)), .val (.int (e0_2 p1)), .val (.int (e0_3 p1)), .val (.int (1 : Int32)), .val (.int (1 : Int32)), .val (.int (0 : Int32))] [(.int (0 : Int32))])) t → Steps p.tables e below (s₁.setTop (entryFrame m #[(.int p0), (.int p1)] maxLocals)) t := fun t kt => pre43 t (by
              show Steps p.tables e below (T33.setTop (mkF m 86 #[.val (.int p0), .val (.int p1), .val (.int (e0_1 p0)), .val (.int (e0_2 p1)), .val (.int (e0_3 p1)), .val (.int (1 : Int32)), .val (.int (1 : Int32)), .val (.int (0 : Int32))] [(.int (1 : Int32))])) _
              refine XS.ifNo X33.here hx rfl (hb hby at_86) rfl ((if0 _ _).trans (feq (by decide : ¬ ((1 : Int32) = (0 : Int32)))).1) ?_
              show Steps p.tables e below (T33.setTop (mkF m 89 #[.val (.int p0), .val (.int p1), .val (.int (e0_1 p0)), .val (.int (e0_2 p1)), .val (.int (e0_3 p1)), .val (.int (1 : Int32)), .val (.int (1 : Int32)), .val (.int (0 : Int32))] [])) _
              refine XS.iload X33.here hx rfl (hb hby at_89) rfl ?_
              exact kt)
          obtain ⟨fs, hr, hrun, hended, hW, hsame⟩ := X33.leave (v := some (.int (0 : Int32))) (fun h => by rw [Bd.returns] at h; cases h)
          have hv84 : (f0 p0 p1) = (0 : Int32) := by rw [f0, if_pos hc29_4, if_neg hc41_6, if_neg hc47_20, if_neg hc64_35]
          refine ⟨_, _, pre44 _ ?_, hrun, hended, _, _, rfl, ?_, ⟨_, rfl⟩, hW, hsame.mono (by decide) (by decide)⟩
          · show Steps p.tables e below (T33.setTop (mkF m 91 #[.val (.int p0), .val (.int p1), .val (.int (e0_1 p0)), .val (.int (e0_2 p1)), .val (.int (e0_3 p1)), .val (.int (1 : Int32)), .val (.int (1 : Int32)), .val (.int (0 : Int32))] [(.int (0 : Int32))])) _
            refine XS.ifYes X33.here hx rfl (pc0 := 91) (pc' := 98) rfl (hb hby at_91) rfl ((if0 _ _).trans (teq (by decide : ((0 : Int32) = (0 : Int32)))).1) (by decide) (by decide) ?_
            show Steps p.tables e below (T33.setTop (mkF m 98 #[.val (.int p0), .val (.int p1), .val (.int (e0_1 p0)), .val (.int (e0_2 p1)), .val (.int (e0_3 p1)), .val (.int (1 : Int32)), .val (.int (1 : Int32)), .val (.int (0 : Int32))] [])) _
            refine XS.iconst X33.here hx rfl (hb hby at_98) ?_
            show Steps p.tables e below (T33.setTop (mkF m 99 #[.val (.int p0), .val (.int p1), .val (.int (e0_1 p0)), .val (.int (e0_2 p1)), .val (.int (e0_3 p1)), .val (.int (1 : Int32)), .val (.int (1 : Int32)), .val (.int (0 : Int32))] [(.int (0 : Int32))])) _
            exact retN X33 hx (t := .boolean) Bd.returns (by simp) (hb hby at_99) hr
          · show Q0 Z p0 p1 h0 n0 _ T33.heap _
            rw [e33q]
            exact ⟨congrArg (fun q => some (Value.int q)) hv84.symm, N33⟩
  · have pre45 : ∀ t, Steps p.tables e below (T2.setTop (mkF m 41 #[.val (.int p0), .val (.int p1), .val (.int (e0_1 p0)), .val (.int (e0_2 p1)), .val (.int (e0_3 p1)), .val (.int (0 : Int32)), .unset, .unset] [(.int (1 : Int32)), (.int (e0_2 p1))])) t → Steps p.tables e below (s₁.setTop (entryFrame m #[(.int p0), (.int p1)] maxLocals)) t := fun t kt => pre3 t (by
        show Steps p.tables e below (T2.setTop (mkF m 29 #[.val (.int p0), .val (.int p1), .val (.int (e0_1 p0)), .val (.int (e0_2 p1)), .val (.int (e0_3 p1)), .unset, .unset, .unset] [(.int (f2 (e0_1 p0))), (.int (f1 (e0_1 p0)))])) _
        refine XS.icmpYes X2.here hx rfl (pc0 := 29) (pc' := 36) rfl (hb hby at_29) rfl (feq hc29_4).2 (by decide) (by decide) ?_
        show Steps p.tables e below (T2.setTop (mkF m 36 #[.val (.int p0), .val (.int p1), .val (.int (e0_1 p0)), .val (.int (e0_2 p1)), .val (.int (e0_3 p1)), .unset, .unset, .unset] [])) _
        refine XS.iconst X2.here hx rfl (hb hby at_36) ?_
        show Steps p.tables e below (T2.setTop (mkF m 37 #[.val (.int p0), .val (.int p1), .val (.int (e0_1 p0)), .val (.int (e0_2 p1)), .val (.int (e0_3 p1)), .unset, .unset, .unset] [(.int (0 : Int32))])) _
        refine XS.istore X2.here hx rfl (hb hby at_37) rfl (l' := #[.val (.int p0), .val (.int p1), .val (.int (e0_1 p0)), .val (.int (e0_2 p1)), .val (.int (e0_3 p1)), .val (.int (0 : Int32)), .unset, .unset]) rfl ?_
        show Steps p.tables e below (T2.setTop (mkF m 39 #[.val (.int p0), .val (.int p1), .val (.int (e0_1 p0)), .val (.int (e0_2 p1)), .val (.int (e0_3 p1)), .val (.int (0 : Int32)), .unset, .unset] [])) _
        refine XS.iloadN X2.here hx rfl (hb hby at_39) rfl ?_
        show Steps p.tables e below (T2.setTop (mkF m 40 #[.val (.int p0), .val (.int p1), .val (.int (e0_1 p0)), .val (.int (e0_2 p1)), .val (.int (e0_3 p1)), .val (.int (0 : Int32)), .unset, .unset] [(.int (e0_2 p1))])) _
        refine XS.iconst X2.here hx rfl (hb hby at_40) ?_
        exact kt)
    by_cases hc41_46 : (e0_2 p1) < (1 : Int32)
    · obtain ⟨_, _, ⟨T47, L47, k47, n47⟩, -, X47, ⟨Lc47, hQ47, l47, y47, z47⟩, st47⟩ := Jvm.LawKit.callS X2 hx (y := (⟨"com/example/indentary/indentary/reader/SectionHeading", "isDigit", "(C)Z"⟩ : MethodName)) hown (mvT hZ (hw _ (List.mem_of_getElem? (i := 2) rfl))) (mvT hZ (hw _ (List.mem_of_getElem? (i := 3) rfl))) (mvT hZ (hw _ (List.mem_of_getElem? (i := 4) rfl))) (mvT hZ (hw _ (List.mem_of_getElem? (i := 5) rfl))) (by decide) (backOf (W := 0) (rm1 l Z a0 hw [] (e0_3 p1) h0 n0 Z0 ) hZ (hw _ (List.mem_of_getElem? (i := 5) rfl)) (hw _ (List.mem_of_getElem? (i := 4) rfl)) (by decide) (by decide)) (g := (mkF m 59 #[.val (.int p0), .val (.int p1), .val (.int (e0_1 p0)), .val (.int (e0_2 p1)), .val (.int (e0_3 p1)), .val (.int (0 : Int32)), .val (.int (0 : Int32)), .unset] [(.int (e0_3 p1))])) rfl (by rw [hml]; rfl) (argsL := [(.int (e0_3 p1))]) (rest := []) (lenOf pd_0_0 rfl) rfl (by show 2 * 0 + _ ≤ _; exact Nat.le_of_eq rfl) (hb hby at_59) (fun _ _ => ⟨rfl, e2q, (by decide : 0 + 0 ≤ _), (by decide : 0 + 0 ≤ _)⟩)
      dsimp only [Pt.U, Pt.locs, Pt.cells, Pt.slots] at X47 l47 y47 z47 st47 hQ47
      subst l47 y47 z47
      obtain ⟨rfl, N47q, e47q⟩ := hQ47
      have N47 := Fr.app N2 N47q
      have pre48 : ∀ t, Steps p.tables e below (T47.setTop (mkF m 64 #[.val (.int p0), .val (.int p1), .val (.int (e0_1 p0)), .val (.int (e0_2 p1)), .val (.int (e0_3 p1)), .val (.int (0 : Int32)), .val (.int (0 : Int32)), .unset] [(.int (0 : Int32)), (.int (f1 (e0_3 p1)))])) t → Steps p.tables e below (s₁.setTop (entryFrame m #[(.int p0), (.int p1)] maxLocals)) t := fun t kt => pre45 t (by
          show Steps p.tables e below (T2.setTop (mkF m 41 #[.val (.int p0), .val (.int p1), .val (.int (e0_1 p0)), .val (.int (e0_2 p1)), .val (.int (e0_3 p1)), .val (.int (0 : Int32)), .unset, .unset] [(.int (1 : Int32)), (.int (e0_2 p1))])) _
          refine XS.icmpYes X2.here hx rfl (pc0 := 41) (pc' := 54) rfl (hb hby at_41) rfl (tlt hc41_46).1 (by decide) (by decide) ?_
          show Steps p.tables e below (T2.setTop (mkF m 54 #[.val (.int p0), .val (.int p1), .val (.int (e0_1 p0)), .val (.int (e0_2 p1)), .val (.int (e0_3 p1)), .val (.int (0 : Int32)), .unset, .unset] [])) _
          refine XS.iconst X2.here hx rfl (hb hby at_54) ?_
          show Steps p.tables e below (T2.setTop (mkF m 55 #[.val (.int p0), .val (.int p1), .val (.int (e0_1 p0)), .val (.int (e0_2 p1)), .val (.int (e0_3 p1)), .val (.int (0 : Int32)), .unset, .unset] [(.int (0 : Int32))])) _
          refine XS.istore X2.here hx rfl (hb hby at_55) rfl (l' := #[.val (.int p0), .val (.int p1), .val (.int (e0_1 p0)), .val (.int (e0_2 p1)), .val (.int (e0_3 p1)), .val (.int (0 : Int32)), .val (.int (0 : Int32)), .unset]) rfl ?_
          show Steps p.tables e below (T2.setTop (mkF m 57 #[.val (.int p0), .val (.int p1), .val (.int (e0_1 p0)), .val (.int (e0_2 p1)), .val (.int (e0_3 p1)), .val (.int (0 : Int32)), .val (.int (0 : Int32)), .unset] [])) _
          refine XS.iload X2.here hx rfl (hb hby at_57) rfl ?_
          show Steps p.tables e below (T2.setTop (mkF m 59 #[.val (.int p0), .val (.int p1), .val (.int (e0_1 p0)), .val (.int (e0_2 p1)), .val (.int (e0_3 p1)), .val (.int (0 : Int32)), .val (.int (0 : Int32)), .unset] [(.int (e0_3 p1))])) _
          refine st47 _ ?_
          show Steps p.tables e below (T47.setTop (mkF m 62 #[.val (.int p0), .val (.int p1), .val (.int (e0_1 p0)), .val (.int (e0_2 p1)), .val (.int (e0_3 p1)), .val (.int (0 : Int32)), .val (.int (0 : Int32)), .unset] [(.int (f1 (e0_3 p1)))])) _
          refine XS.iload X47.here hx rfl (hb hby at_62) rfl ?_
          exact kt)
      by_cases hc64_49 : (f1 (e0_3 p1)) = (0 : Int32)
      · obtain ⟨_, _, ⟨T50, L50, k50, n50⟩, -, X50, ⟨Lc50, hQ50, l50, y50, z50⟩, st50⟩ := Jvm.LawKit.callS X47 hx (y := (⟨"com/example/indentary/indentary/reader/SectionHeadingIsDigitPinLaw", "oneOfTen", "(C)Z"⟩ : MethodName)) hown (mvT hZ (hw _ (List.mem_of_getElem? (i := 6) rfl))) (mvT hZ (hw _ (List.mem_of_getElem? (i := 7) rfl))) (mvT hZ (hw _ (List.mem_of_getElem? (i := 8) rfl))) (mvT hZ (hw _ (List.mem_of_getElem? (i := 9) rfl))) (by decide) (backOf (W := 0) (rm2 l Z a0 hw [] (e0_3 p1) h0 n0 Z0 ) hZ (hw _ (List.mem_of_getElem? (i := 9) rfl)) (hw _ (List.mem_of_getElem? (i := 8) rfl)) (by decide) (by decide)) (g := (mkF m 69 #[.val (.int p0), .val (.int p1), .val (.int (e0_1 p0)), .val (.int (e0_2 p1)), .val (.int (e0_3 p1)), .val (.int (0 : Int32)), .val (.int (0 : Int32)), .unset] [(.int (e0_3 p1))])) rfl (by rw [hml]; rfl) (argsL := [(.int (e0_3 p1))]) (rest := []) (lenOf pd_0_0 rfl) rfl (by show 2 * 0 + _ ≤ _; exact Nat.le_of_eq rfl) (hb hby at_69) (fun _ _ => ⟨rfl, e47q, (by decide : 0 + 0 ≤ _), (by decide : 0 + 0 ≤ _)⟩)
        dsimp only [Pt.U, Pt.locs, Pt.cells, Pt.slots] at X50 l50 y50 z50 st50 hQ50
        subst l50 y50 z50
        obtain ⟨rfl, N50q, e50q⟩ := hQ50
        have N50 := Fr.app N47 N50q
        have pre51 : ∀ t, Steps p.tables e below (T50.setTop (mkF m 74 #[.val (.int p0), .val (.int p1), .val (.int (e0_1 p0)), .val (.int (e0_2 p1)), .val (.int (e0_3 p1)), .val (.int (0 : Int32)), .val (.int (0 : Int32)), .unset] [(.int (0 : Int32)), (.int (f2 (e0_3 p1)))])) t → Steps p.tables e below (s₁.setTop (entryFrame m #[(.int p0), (.int p1)] maxLocals)) t := fun t kt => pre48 t (by
            show Steps p.tables e below (T47.setTop (mkF m 64 #[.val (.int p0), .val (.int p1), .val (.int (e0_1 p0)), .val (.int (e0_2 p1)), .val (.int (e0_3 p1)), .val (.int (0 : Int32)), .val (.int (0 : Int32)), .unset] [(.int (0 : Int32)), (.int (f1 (e0_3 p1)))])) _
            refine XS.icmpNo X47.here hx rfl (hb hby at_64) rfl (teq hc64_49).2 ?_
            show Steps p.tables e below (T47.setTop (mkF m 67 #[.val (.int p0), .val (.int p1), .val (.int (e0_1 p0)), .val (.int (e0_2 p1)), .val (.int (e0_3 p1)), .val (.int (0 : Int32)), .val (.int (0 : Int32)), .unset] [])) _
            refine XS.iload X47.here hx rfl (hb hby at_67) rfl ?_
            show Steps p.tables e below (T47.setTop (mkF m 69 #[.val (.int p0), .val (.int p1), .val (.int (e0_1 p0)), .val (.int (e0_2 p1)), .val (.int (e0_3 p1)), .val (.int (0 : Int32)), .val (.int (0 : Int32)), .unset] [(.int (e0_3 p1))])) _
            refine st50 _ ?_
            show Steps p.tables e below (T50.setTop (mkF m 72 #[.val (.int p0), .val (.int p1), .val (.int (e0_1 p0)), .val (.int (e0_2 p1)), .val (.int (e0_3 p1)), .val (.int (0 : Int32)), .val (.int (0 : Int32)), .unset] [(.int (f2 (e0_3 p1)))])) _
            refine XS.iload X50.here hx rfl (hb hby at_72) rfl ?_
            exact kt)
        by_cases hc74_52 : (f2 (e0_3 p1)) = (0 : Int32)
        · have pre53 : ∀ t, Steps p.tables e below (T50.setTop (mkF m 86 #[.val (.int p0), .val (.int p1), .val (.int (e0_1 p0)), .val (.int (e0_2 p1)), .val (.int (e0_3 p1)), .val (.int (0 : Int32)), .val (.int (0 : Int32)), .val (.int (1 : Int32))] [(.int (0 : Int32))])) t → Steps p.tables e below (s₁.setTop (entryFrame m #[(.int p0), (.int p1)] maxLocals)) t := fun t kt => pre51 t (by
              show Steps p.tables e below (T50.setTop (mkF m 74 #[.val (.int p0), .val (.int p1), .val (.int (e0_1 p0)), .val (.int (e0_2 p1)), .val (.int (e0_3 p1)), .val (.int (0 : Int32)), .val (.int (0 : Int32)), .unset] [(.int (0 : Int32)), (.int (f2 (e0_3 p1)))])) _
              refine XS.icmpNo X50.here hx rfl (hb hby at_74) rfl (teq hc74_52).2 ?_
              show Steps p.tables e below (T50.setTop (mkF m 77 #[.val (.int p0), .val (.int p1), .val (.int (e0_1 p0)), .val (.int (e0_2 p1)), .val (.int (e0_3 p1)), .val (.int (0 : Int32)), .val (.int (0 : Int32)), .unset] [])) _
              refine XS.iconst X50.here hx rfl (hb hby at_77) ?_
              show Steps p.tables e below (T50.setTop (mkF m 78 #[.val (.int p0), .val (.int p1), .val (.int (e0_1 p0)), .val (.int (e0_2 p1)), .val (.int (e0_3 p1)), .val (.int (0 : Int32)), .val (.int (0 : Int32)), .unset] [(.int (1 : Int32))])) _
              refine XS.goto X50.here hx rfl (pc0 := 78) (pc' := 82) rfl (hb hby at_78) (by decide) (by decide) ?_
              show Steps p.tables e below (T50.setTop (mkF m 82 #[.val (.int p0), .val (.int p1), .val (.int (e0_1 p0)), .val (.int (e0_2 p1)), .val (.int (e0_3 p1)), .val (.int (0 : Int32)), .val (.int (0 : Int32)), .unset] [(.int (1 : Int32))])) _
              refine XS.istore X50.here hx rfl (hb hby at_82) rfl (l' := #[.val (.int p0), .val (.int p1), .val (.int (e0_1 p0)), .val (.int (e0_2 p1)), .val (.int (e0_3 p1)), .val (.int (0 : Int32)), .val (.int (0 : Int32)), .val (.int (1 : Int32))]) rfl ?_
              show Steps p.tables e below (T50.setTop (mkF m 84 #[.val (.int p0), .val (.int p1), .val (.int (e0_1 p0)), .val (.int (e0_2 p1)), .val (.int (e0_3 p1)), .val (.int (0 : Int32)), .val (.int (0 : Int32)), .val (.int (1 : Int32))] [])) _
              refine XS.iload X50.here hx rfl (hb hby at_84) rfl ?_
              exact kt)
          obtain ⟨fs, hr, hrun, hended, hW, hsame⟩ := X50.leave (v := some (.int (0 : Int32))) (fun h => by rw [Bd.returns] at h; cases h)
          have hv85 : (f0 p0 p1) = (0 : Int32) := by rw [f0, if_neg hc29_4, if_pos hc41_46, if_pos hc64_49, if_pos hc74_52]
          refine ⟨_, _, pre53 _ ?_, hrun, hended, _, _, rfl, ?_, ⟨_, rfl⟩, hW, hsame.mono (by decide) (by decide)⟩
          · show Steps p.tables e below (T50.setTop (mkF m 86 #[.val (.int p0), .val (.int p1), .val (.int (e0_1 p0)), .val (.int (e0_2 p1)), .val (.int (e0_3 p1)), .val (.int (0 : Int32)), .val (.int (0 : Int32)), .val (.int (1 : Int32))] [(.int (0 : Int32))])) _
            refine XS.ifYes X50.here hx rfl (pc0 := 86) (pc' := 98) rfl (hb hby at_86) rfl ((if0 _ _).trans (teq (by decide : ((0 : Int32) = (0 : Int32)))).1) (by decide) (by decide) ?_
            show Steps p.tables e below (T50.setTop (mkF m 98 #[.val (.int p0), .val (.int p1), .val (.int (e0_1 p0)), .val (.int (e0_2 p1)), .val (.int (e0_3 p1)), .val (.int (0 : Int32)), .val (.int (0 : Int32)), .val (.int (1 : Int32))] [])) _
            refine XS.iconst X50.here hx rfl (hb hby at_98) ?_
            show Steps p.tables e below (T50.setTop (mkF m 99 #[.val (.int p0), .val (.int p1), .val (.int (e0_1 p0)), .val (.int (e0_2 p1)), .val (.int (e0_3 p1)), .val (.int (0 : Int32)), .val (.int (0 : Int32)), .val (.int (1 : Int32))] [(.int (0 : Int32))])) _
            exact retN X50 hx (t := .boolean) Bd.returns (by simp) (hb hby at_99) hr
          · show Q0 Z p0 p1 h0 n0 _ T50.heap _
            rw [e50q]
            exact ⟨congrArg (fun q => some (Value.int q)) hv85.symm, N50⟩
        · have pre54 : ∀ t, Steps p.tables e below (T50.setTop (mkF m 86 #[.val (.int p0), .val (.int p1), .val (.int (e0_1 p0)), .val (.int (e0_2 p1)), .val (.int (e0_3 p1)), .val (.int (0 : Int32)), .val (.int (0 : Int32)), .val (.int (0 : Int32))] [(.int (0 : Int32))])) t → Steps p.tables e below (s₁.setTop (entryFrame m #[(.int p0), (.int p1)] maxLocals)) t := fun t kt => pre51 t (by
              show Steps p.tables e below (T50.setTop (mkF m 74 #[.val (.int p0), .val (.int p1), .val (.int (e0_1 p0)), .val (.int (e0_2 p1)), .val (.int (e0_3 p1)), .val (.int (0 : Int32)), .val (.int (0 : Int32)), .unset] [(.int (0 : Int32)), (.int (f2 (e0_3 p1)))])) _
              refine XS.icmpYes X50.here hx rfl (pc0 := 74) (pc' := 81) rfl (hb hby at_74) rfl (feq hc74_52).2 (by decide) (by decide) ?_
              show Steps p.tables e below (T50.setTop (mkF m 81 #[.val (.int p0), .val (.int p1), .val (.int (e0_1 p0)), .val (.int (e0_2 p1)), .val (.int (e0_3 p1)), .val (.int (0 : Int32)), .val (.int (0 : Int32)), .unset] [])) _
              refine XS.iconst X50.here hx rfl (hb hby at_81) ?_
              show Steps p.tables e below (T50.setTop (mkF m 82 #[.val (.int p0), .val (.int p1), .val (.int (e0_1 p0)), .val (.int (e0_2 p1)), .val (.int (e0_3 p1)), .val (.int (0 : Int32)), .val (.int (0 : Int32)), .unset] [(.int (0 : Int32))])) _
              refine XS.istore X50.here hx rfl (hb hby at_82) rfl (l' := #[.val (.int p0), .val (.int p1), .val (.int (e0_1 p0)), .val (.int (e0_2 p1)), .val (.int (e0_3 p1)), .val (.int (0 : Int32)), .val (.int (0 : Int32)), .val (.int (0 : Int32))]) rfl ?_
              show Steps p.tables e below (T50.setTop (mkF m 84 #[.val (.int p0), .val (.int p1), .val (.int (e0_1 p0)), .val (.int (e0_2 p1)), .val (.int (e0_3 p1)), .val (.int (0 : Int32)), .val (.int (0 : Int32)), .val (.int (0 : Int32))] [])) _
              refine XS.iload X50.here hx rfl (hb hby at_84) rfl ?_
              exact kt)
          obtain ⟨fs, hr, hrun, hended, hW, hsame⟩ := X50.leave (v := some (.int (0 : Int32))) (fun h => by rw [Bd.returns] at h; cases h)
          have hv86 : (f0 p0 p1) = (0 : Int32) := by rw [f0, if_neg hc29_4, if_pos hc41_46, if_pos hc64_49, if_neg hc74_52]
          refine ⟨_, _, pre54 _ ?_, hrun, hended, _, _, rfl, ?_, ⟨_, rfl⟩, hW, hsame.mono (by decide) (by decide)⟩
          · show Steps p.tables e below (T50.setTop (mkF m 86 #[.val (.int p0), .val (.int p1), .val (.int (e0_1 p0)), .val (.int (e0_2 p1)), .val (.int (e0_3 p1)), .val (.int (0 : Int32)), .val (.int (0 : Int32)), .val (.int (0 : Int32))] [(.int (0 : Int32))])) _
            refine XS.ifYes X50.here hx rfl (pc0 := 86) (pc' := 98) rfl (hb hby at_86) rfl ((if0 _ _).trans (teq (by decide : ((0 : Int32) = (0 : Int32)))).1) (by decide) (by decide) ?_
            show Steps p.tables e below (T50.setTop (mkF m 98 #[.val (.int p0), .val (.int p1), .val (.int (e0_1 p0)), .val (.int (e0_2 p1)), .val (.int (e0_3 p1)), .val (.int (0 : Int32)), .val (.int (0 : Int32)), .val (.int (0 : Int32))] [])) _
            refine XS.iconst X50.here hx rfl (hb hby at_98) ?_
            show Steps p.tables e below (T50.setTop (mkF m 99 #[.val (.int p0), .val (.int p1), .val (.int (e0_1 p0)), .val (.int (e0_2 p1)), .val (.int (e0_3 p1)), .val (.int (0 : Int32)), .val (.int (0 : Int32)), .val (.int (0 : Int32))] [(.int (0 : Int32))])) _
            exact retN X50 hx (t := .boolean) Bd.returns (by simp) (hb hby at_99) hr
          · show Q0 Z p0 p1 h0 n0 _ T50.heap _
            rw [e50q]
            exact ⟨congrArg (fun q => some (Value.int q)) hv86.symm, N50⟩
      · have pre55 : ∀ t, Steps p.tables e below (T47.setTop (mkF m 86 #[.val (.int p0), .val (.int p1), .val (.int (e0_1 p0)), .val (.int (e0_2 p1)), .val (.int (e0_3 p1)), .val (.int (0 : Int32)), .val (.int (0 : Int32)), .val (.int (0 : Int32))] [(.int (0 : Int32))])) t → Steps p.tables e below (s₁.setTop (entryFrame m #[(.int p0), (.int p1)] maxLocals)) t := fun t kt => pre48 t (by
            show Steps p.tables e below (T47.setTop (mkF m 64 #[.val (.int p0), .val (.int p1), .val (.int (e0_1 p0)), .val (.int (e0_2 p1)), .val (.int (e0_3 p1)), .val (.int (0 : Int32)), .val (.int (0 : Int32)), .unset] [(.int (0 : Int32)), (.int (f1 (e0_3 p1)))])) _
            refine XS.icmpYes X47.here hx rfl (pc0 := 64) (pc' := 81) rfl (hb hby at_64) rfl (feq hc64_49).2 (by decide) (by decide) ?_
            show Steps p.tables e below (T47.setTop (mkF m 81 #[.val (.int p0), .val (.int p1), .val (.int (e0_1 p0)), .val (.int (e0_2 p1)), .val (.int (e0_3 p1)), .val (.int (0 : Int32)), .val (.int (0 : Int32)), .unset] [])) _
            refine XS.iconst X47.here hx rfl (hb hby at_81) ?_
            show Steps p.tables e below (T47.setTop (mkF m 82 #[.val (.int p0), .val (.int p1), .val (.int (e0_1 p0)), .val (.int (e0_2 p1)), .val (.int (e0_3 p1)), .val (.int (0 : Int32)), .val (.int (0 : Int32)), .unset] [(.int (0 : Int32))])) _
            refine XS.istore X47.here hx rfl (hb hby at_82) rfl (l' := #[.val (.int p0), .val (.int p1), .val (.int (e0_1 p0)), .val (.int (e0_2 p1)), .val (.int (e0_3 p1)), .val (.int (0 : Int32)), .val (.int (0 : Int32)), .val (.int (0 : Int32))]) rfl ?_
            show Steps p.tables e below (T47.setTop (mkF m 84 #[.val (.int p0), .val (.int p1), .val (.int (e0_1 p0)), .val (.int (e0_2 p1)), .val (.int (e0_3 p1)), .val (.int (0 : Int32)), .val (.int (0 : Int32)), .val (.int (0 : Int32))] [])) _
            refine XS.iload X47.here hx rfl (hb hby at_84) rfl ?_
            exact kt)
        obtain ⟨fs, hr, hrun, hended, hW, hsame⟩ := X47.leave (v := some (.int (0 : Int32))) (fun h => by rw [Bd.returns] at h; cases h)
        have hv87 : (f0 p0 p1) = (0 : Int32) := by rw [f0, if_neg hc29_4, if_pos hc41_46, if_neg hc64_49]
        refine ⟨_, _, pre55 _ ?_, hrun, hended, _, _, rfl, ?_, ⟨_, rfl⟩, hW, hsame.mono (by decide) (by decide)⟩
        · show Steps p.tables e below (T47.setTop (mkF m 86 #[.val (.int p0), .val (.int p1), .val (.int (e0_1 p0)), .val (.int (e0_2 p1)), .val (.int (e0_3 p1)), .val (.int (0 : Int32)), .val (.int (0 : Int32)), .val (.int (0 : Int32))] [(.int (0 : Int32))])) _
          refine XS.ifYes X47.here hx rfl (pc0 := 86) (pc' := 98) rfl (hb hby at_86) rfl ((if0 _ _).trans (teq (by decide : ((0 : Int32) = (0 : Int32)))).1) (by decide) (by decide) ?_
          show Steps p.tables e below (T47.setTop (mkF m 98 #[.val (.int p0), .val (.int p1), .val (.int (e0_1 p0)), .val (.int (e0_2 p1)), .val (.int (e0_3 p1)), .val (.int (0 : Int32)), .val (.int (0 : Int32)), .val (.int (0 : Int32))] [])) _
          refine XS.iconst X47.here hx rfl (hb hby at_98) ?_
          show Steps p.tables e below (T47.setTop (mkF m 99 #[.val (.int p0), .val (.int p1), .val (.int (e0_1 p0)), .val (.int (e0_2 p1)), .val (.int (e0_3 p1)), .val (.int (0 : Int32)), .val (.int (0 : Int32)), .val (.int (0 : Int32))] [(.int (0 : Int32))])) _
          exact retN X47 hx (t := .boolean) Bd.returns (by simp) (hb hby at_99) hr
        · show Q0 Z p0 p1 h0 n0 _ T47.heap _
          rw [e47q]
          exact ⟨congrArg (fun q => some (Value.int q)) hv87.symm, N47⟩
    · have pre56 : ∀ t, Steps p.tables e below (T2.setTop (mkF m 47 #[.val (.int p0), .val (.int p1), .val (.int (e0_1 p0)), .val (.int (e0_2 p1)), .val (.int (e0_3 p1)), .val (.int (0 : Int32)), .unset, .unset] [(.int (10 : Int32)), (.int (e0_2 p1))])) t → Steps p.tables e below (s₁.setTop (entryFrame m #[(.int p0), (.int p1)] maxLocals)) t := fun t kt => pre45 t (by
          show Steps p.tables e below (T2.setTop (mkF m 41 #[.val (.int p0), .val (.int p1), .val (.int (e0_1 p0)), .val (.int (e0_2 p1)), .val (.int (e0_3 p1)), .val (.int (0 : Int32)), .unset, .unset] [(.int (1 : Int32)), (.int (e0_2 p1))])) _
          refine XS.icmpNo X2.here hx rfl (hb hby at_41) rfl (flt hc41_46).1 ?_
          show Steps p.tables e below (T2.setTop (mkF m 44 #[.val (.int p0), .val (.int p1), .val (.int (e0_1 p0)), .val (.int (e0_2 p1)), .val (.int (e0_3 p1)), .val (.int (0 : Int32)), .unset, .unset] [])) _
          refine XS.iloadN X2.here hx rfl (hb hby at_44) rfl ?_
          show Steps p.tables e below (T2.setTop (mkF m 45 #[.val (.int p0), .val (.int p1), .val (.int (e0_1 p0)), .val (.int (e0_2 p1)), .val (.int (e0_3 p1)), .val (.int (0 : Int32)), .unset, .unset] [(.int (e0_2 p1))])) _
          refine XS.bipush X2.here hx rfl (hb hby at_45) ?_
          exact kt)
      by_cases hc47_57 : (10 : Int32) < (e0_2 p1)
      · obtain ⟨_, _, ⟨T58, L58, k58, n58⟩, -, X58, ⟨Lc58, hQ58, l58, y58, z58⟩, st58⟩ := Jvm.LawKit.callS X2 hx (y := (⟨"com/example/indentary/indentary/reader/SectionHeading", "isDigit", "(C)Z"⟩ : MethodName)) hown (mvT hZ (hw _ (List.mem_of_getElem? (i := 2) rfl))) (mvT hZ (hw _ (List.mem_of_getElem? (i := 3) rfl))) (mvT hZ (hw _ (List.mem_of_getElem? (i := 4) rfl))) (mvT hZ (hw _ (List.mem_of_getElem? (i := 5) rfl))) (by decide) (backOf (W := 0) (rm1 l Z a0 hw [] (e0_3 p1) h0 n0 Z0 ) hZ (hw _ (List.mem_of_getElem? (i := 5) rfl)) (hw _ (List.mem_of_getElem? (i := 4) rfl)) (by decide) (by decide)) (g := (mkF m 59 #[.val (.int p0), .val (.int p1), .val (.int (e0_1 p0)), .val (.int (e0_2 p1)), .val (.int (e0_3 p1)), .val (.int (0 : Int32)), .val (.int (0 : Int32)), .unset] [(.int (e0_3 p1))])) rfl (by rw [hml]; rfl) (argsL := [(.int (e0_3 p1))]) (rest := []) (lenOf pd_0_0 rfl) rfl (by show 2 * 0 + _ ≤ _; exact Nat.le_of_eq rfl) (hb hby at_59) (fun _ _ => ⟨rfl, e2q, (by decide : 0 + 0 ≤ _), (by decide : 0 + 0 ≤ _)⟩)
        dsimp only [Pt.U, Pt.locs, Pt.cells, Pt.slots] at X58 l58 y58 z58 st58 hQ58
        subst l58 y58 z58
        obtain ⟨rfl, N58q, e58q⟩ := hQ58
        have N58 := Fr.app N2 N58q
        have pre59 : ∀ t, Steps p.tables e below (T58.setTop (mkF m 64 #[.val (.int p0), .val (.int p1), .val (.int (e0_1 p0)), .val (.int (e0_2 p1)), .val (.int (e0_3 p1)), .val (.int (0 : Int32)), .val (.int (0 : Int32)), .unset] [(.int (0 : Int32)), (.int (f1 (e0_3 p1)))])) t → Steps p.tables e below (s₁.setTop (entryFrame m #[(.int p0), (.int p1)] maxLocals)) t := fun t kt => pre56 t (by
            show Steps p.tables e below (T2.setTop (mkF m 47 #[.val (.int p0), .val (.int p1), .val (.int (e0_1 p0)), .val (.int (e0_2 p1)), .val (.int (e0_3 p1)), .val (.int (0 : Int32)), .unset, .unset] [(.int (10 : Int32)), (.int (e0_2 p1))])) _
            refine XS.icmpYes X2.here hx rfl (pc0 := 47) (pc' := 54) rfl (hb hby at_47) rfl (tlt hc47_57).2.2.1 (by decide) (by decide) ?_
            show Steps p.tables e below (T2.setTop (mkF m 54 #[.val (.int p0), .val (.int p1), .val (.int (e0_1 p0)), .val (.int (e0_2 p1)), .val (.int (e0_3 p1)), .val (.int (0 : Int32)), .unset, .unset] [])) _
            refine XS.iconst X2.here hx rfl (hb hby at_54) ?_
            show Steps p.tables e below (T2.setTop (mkF m 55 #[.val (.int p0), .val (.int p1), .val (.int (e0_1 p0)), .val (.int (e0_2 p1)), .val (.int (e0_3 p1)), .val (.int (0 : Int32)), .unset, .unset] [(.int (0 : Int32))])) _
            refine XS.istore X2.here hx rfl (hb hby at_55) rfl (l' := #[.val (.int p0), .val (.int p1), .val (.int (e0_1 p0)), .val (.int (e0_2 p1)), .val (.int (e0_3 p1)), .val (.int (0 : Int32)), .val (.int (0 : Int32)), .unset]) rfl ?_
            show Steps p.tables e below (T2.setTop (mkF m 57 #[.val (.int p0), .val (.int p1), .val (.int (e0_1 p0)), .val (.int (e0_2 p1)), .val (.int (e0_3 p1)), .val (.int (0 : Int32)), .val (.int (0 : Int32)), .unset] [])) _
            refine XS.iload X2.here hx rfl (hb hby at_57) rfl ?_
            show Steps p.tables e below (T2.setTop (mkF m 59 #[.val (.int p0), .val (.int p1), .val (.int (e0_1 p0)), .val (.int (e0_2 p1)), .val (.int (e0_3 p1)), .val (.int (0 : Int32)), .val (.int (0 : Int32)), .unset] [(.int (e0_3 p1))])) _
            refine st58 _ ?_
            show Steps p.tables e below (T58.setTop (mkF m 62 #[.val (.int p0), .val (.int p1), .val (.int (e0_1 p0)), .val (.int (e0_2 p1)), .val (.int (e0_3 p1)), .val (.int (0 : Int32)), .val (.int (0 : Int32)), .unset] [(.int (f1 (e0_3 p1)))])) _
            refine XS.iload X58.here hx rfl (hb hby at_62) rfl ?_
            exact kt)
        by_cases hc64_60 : (f1 (e0_3 p1)) = (0 : Int32)
        · obtain ⟨_, _, ⟨T61, L61, k61, n61⟩, -, X61, ⟨Lc61, hQ61, l61, y61, z61⟩, st61⟩ := Jvm.LawKit.callS X58 hx (y := (⟨"com/example/indentary/indentary/reader/SectionHeadingIsDigitPinLaw", "oneOfTen", "(C)Z"⟩ : MethodName)) hown (mvT hZ (hw _ (List.mem_of_getElem? (i := 6) rfl))) (mvT hZ (hw _ (List.mem_of_getElem? (i := 7) rfl))) (mvT hZ (hw _ (List.mem_of_getElem? (i := 8) rfl))) (mvT hZ (hw _ (List.mem_of_getElem? (i := 9) rfl))) (by decide) (backOf (W := 0) (rm2 l Z a0 hw [] (e0_3 p1) h0 n0 Z0 ) hZ (hw _ (List.mem_of_getElem? (i := 9) rfl)) (hw _ (List.mem_of_getElem? (i := 8) rfl)) (by decide) (by decide)) (g := (mkF m 69 #[.val (.int p0), .val (.int p1), .val (.int (e0_1 p0)), .val (.int (e0_2 p1)), .val (.int (e0_3 p1)), .val (.int (0 : Int32)), .val (.int (0 : Int32)), .unset] [(.int (e0_3 p1))])) rfl (by rw [hml]; rfl) (argsL := [(.int (e0_3 p1))]) (rest := []) (lenOf pd_0_0 rfl) rfl (by show 2 * 0 + _ ≤ _; exact Nat.le_of_eq rfl) (hb hby at_69) (fun _ _ => ⟨rfl, e58q, (by decide : 0 + 0 ≤ _), (by decide : 0 + 0 ≤ _)⟩)
          dsimp only [Pt.U, Pt.locs, Pt.cells, Pt.slots] at X61 l61 y61 z61 st61 hQ61
          subst l61 y61 z61
          obtain ⟨rfl, N61q, e61q⟩ := hQ61
          have N61 := Fr.app N58 N61q
          have pre62 : ∀ t, Steps p.tables e below (T61.setTop (mkF m 74 #[.val (.int p0), .val (.int p1), .val (.int (e0_1 p0)), .val (.int (e0_2 p1)), .val (.int (e0_3 p1)), .val (.int (0 : Int32)), .val (.int (0 : Int32)), .unset] [(.int (0 : Int32)), (.int (f2 (e0_3 p1)))])) t → Steps p.tables e below (s₁.setTop (entryFrame m #[(.int p0), (.int p1)] maxLocals)) t := fun t kt => pre59 t (by
              show Steps p.tables e below (T58.setTop (mkF m 64 #[.val (.int p0), .val (.int p1), .val (.int (e0_1 p0)), .val (.int (e0_2 p1)), .val (.int (e0_3 p1)), .val (.int (0 : Int32)), .val (.int (0 : Int32)), .unset] [(.int (0 : Int32)), (.int (f1 (e0_3 p1)))])) _
              refine XS.icmpNo X58.here hx rfl (hb hby at_64) rfl (teq hc64_60).2 ?_
              show Steps p.tables e below (T58.setTop (mkF m 67 #[.val (.int p0), .val (.int p1), .val (.int (e0_1 p0)), .val (.int (e0_2 p1)), .val (.int (e0_3 p1)), .val (.int (0 : Int32)), .val (.int (0 : Int32)), .unset] [])) _
              refine XS.iload X58.here hx rfl (hb hby at_67) rfl ?_
              show Steps p.tables e below (T58.setTop (mkF m 69 #[.val (.int p0), .val (.int p1), .val (.int (e0_1 p0)), .val (.int (e0_2 p1)), .val (.int (e0_3 p1)), .val (.int (0 : Int32)), .val (.int (0 : Int32)), .unset] [(.int (e0_3 p1))])) _
              refine st61 _ ?_
              show Steps p.tables e below (T61.setTop (mkF m 72 #[.val (.int p0), .val (.int p1), .val (.int (e0_1 p0)), .val (.int (e0_2 p1)), .val (.int (e0_3 p1)), .val (.int (0 : Int32)), .val (.int (0 : Int32)), .unset] [(.int (f2 (e0_3 p1)))])) _
              refine XS.iload X61.here hx rfl (hb hby at_72) rfl ?_
              exact kt)
          by_cases hc74_63 : (f2 (e0_3 p1)) = (0 : Int32)
          · have pre64 : ∀ t, Steps p.tables e below (T61.setTop (mkF m 86 #[.val (.int p0), .val (.int p1), .val (.int (e0_1 p0)), .val (.int (e0_2 p1)), .val (.int (e0_3 p1)), .val (.int (0 : Int32)), .val (.int (0 : Int32)), .val (.int (1 : Int32))] [(.int (0 : Int32))])) t → Steps p.tables e below (s₁.setTop (entryFrame m #[(.int p0), (.int p1)] maxLocals)) t := fun t kt => pre62 t (by
                show Steps p.tables e below (T61.setTop (mkF m 74 #[.val (.int p0), .val (.int p1), .val (.int (e0_1 p0)), .val (.int (e0_2 p1)), .val (.int (e0_3 p1)), .val (.int (0 : Int32)), .val (.int (0 : Int32)), .unset] [(.int (0 : Int32)), (.int (f2 (e0_3 p1)))])) _
                refine XS.icmpNo X61.here hx rfl (hb hby at_74) rfl (teq hc74_63).2 ?_
                show Steps p.tables e below (T61.setTop (mkF m 77 #[.val (.int p0), .val (.int p1), .val (.int (e0_1 p0)), .val (.int (e0_2 p1)), .val (.int (e0_3 p1)), .val (.int (0 : Int32)), .val (.int (0 : Int32)), .unset] [])) _
                refine XS.iconst X61.here hx rfl (hb hby at_77) ?_
                show Steps p.tables e below (T61.setTop (mkF m 78 #[.val (.int p0), .val (.int p1), .val (.int (e0_1 p0)), .val (.int (e0_2 p1)), .val (.int (e0_3 p1)), .val (.int (0 : Int32)), .val (.int (0 : Int32)), .unset] [(.int (1 : Int32))])) _
                refine XS.goto X61.here hx rfl (pc0 := 78) (pc' := 82) rfl (hb hby at_78) (by decide) (by decide) ?_
                show Steps p.tables e below (T61.setTop (mkF m 82 #[.val (.int p0), .val (.int p1), .val (.int (e0_1 p0)), .val (.int (e0_2 p1)), .val (.int (e0_3 p1)), .val (.int (0 : Int32)), .val (.int (0 : Int32)), .unset] [(.int (1 : Int32))])) _
                refine XS.istore X61.here hx rfl (hb hby at_82) rfl (l' := #[.val (.int p0), .val (.int p1), .val (.int (e0_1 p0)), .val (.int (e0_2 p1)), .val (.int (e0_3 p1)), .val (.int (0 : Int32)), .val (.int (0 : Int32)), .val (.int (1 : Int32))]) rfl ?_
                show Steps p.tables e below (T61.setTop (mkF m 84 #[.val (.int p0), .val (.int p1), .val (.int (e0_1 p0)), .val (.int (e0_2 p1)), .val (.int (e0_3 p1)), .val (.int (0 : Int32)), .val (.int (0 : Int32)), .val (.int (1 : Int32))] [])) _
                refine XS.iload X61.here hx rfl (hb hby at_84) rfl ?_
                exact kt)
            obtain ⟨fs, hr, hrun, hended, hW, hsame⟩ := X61.leave (v := some (.int (0 : Int32))) (fun h => by rw [Bd.returns] at h; cases h)
            have hv88 : (f0 p0 p1) = (0 : Int32) := by rw [f0, if_neg hc29_4, if_neg hc41_46, if_pos hc47_57, if_pos hc64_60, if_pos hc74_63]
            refine ⟨_, _, pre64 _ ?_, hrun, hended, _, _, rfl, ?_, ⟨_, rfl⟩, hW, hsame.mono (by decide) (by decide)⟩
            · show Steps p.tables e below (T61.setTop (mkF m 86 #[.val (.int p0), .val (.int p1), .val (.int (e0_1 p0)), .val (.int (e0_2 p1)), .val (.int (e0_3 p1)), .val (.int (0 : Int32)), .val (.int (0 : Int32)), .val (.int (1 : Int32))] [(.int (0 : Int32))])) _
              refine XS.ifYes X61.here hx rfl (pc0 := 86) (pc' := 98) rfl (hb hby at_86) rfl ((if0 _ _).trans (teq (by decide : ((0 : Int32) = (0 : Int32)))).1) (by decide) (by decide) ?_
              show Steps p.tables e below (T61.setTop (mkF m 98 #[.val (.int p0), .val (.int p1), .val (.int (e0_1 p0)), .val (.int (e0_2 p1)), .val (.int (e0_3 p1)), .val (.int (0 : Int32)), .val (.int (0 : Int32)), .val (.int (1 : Int32))] [])) _
              refine XS.iconst X61.here hx rfl (hb hby at_98) ?_
              show Steps p.tables e below (T61.setTop (mkF m 99 #[.val (.int p0), .val (.int p1), .val (.int (e0_1 p0)), .val (.int (e0_2 p1)), .val (.int (e0_3 p1)), .val (.int (0 : Int32)), .val (.int (0 : Int32)), .val (.int (1 : Int32))] [(.int (0 : Int32))])) _
              exact retN X61 hx (t := .boolean) Bd.returns (by simp) (hb hby at_99) hr
            · show Q0 Z p0 p1 h0 n0 _ T61.heap _
              rw [e61q]
              exact ⟨congrArg (fun q => some (Value.int q)) hv88.symm, N61⟩
          · have pre65 : ∀ t, Steps p.tables e below (T61.setTop (mkF m 86 #[.val (.int p0), .val (.int p1), .val (.int (e0_1 p0)), .val (.int (e0_2 p1)), .val (.int (e0_3 p1)), .val (.int (0 : Int32)), .val (.int (0 : Int32)), .val (.int (0 : Int32))] [(.int (0 : Int32))])) t → Steps p.tables e below (s₁.setTop (entryFrame m #[(.int p0), (.int p1)] maxLocals)) t := fun t kt => pre62 t (by
                show Steps p.tables e below (T61.setTop (mkF m 74 #[.val (.int p0), .val (.int p1), .val (.int (e0_1 p0)), .val (.int (e0_2 p1)), .val (.int (e0_3 p1)), .val (.int (0 : Int32)), .val (.int (0 : Int32)), .unset] [(.int (0 : Int32)), (.int (f2 (e0_3 p1)))])) _
                refine XS.icmpYes X61.here hx rfl (pc0 := 74) (pc' := 81) rfl (hb hby at_74) rfl (feq hc74_63).2 (by decide) (by decide) ?_
                show Steps p.tables e below (T61.setTop (mkF m 81 #[.val (.int p0), .val (.int p1), .val (.int (e0_1 p0)), .val (.int (e0_2 p1)), .val (.int (e0_3 p1)), .val (.int (0 : Int32)), .val (.int (0 : Int32)), .unset] [])) _
                refine XS.iconst X61.here hx rfl (hb hby at_81) ?_
                show Steps p.tables e below (T61.setTop (mkF m 82 #[.val (.int p0), .val (.int p1), .val (.int (e0_1 p0)), .val (.int (e0_2 p1)), .val (.int (e0_3 p1)), .val (.int (0 : Int32)), .val (.int (0 : Int32)), .unset] [(.int (0 : Int32))])) _
                refine XS.istore X61.here hx rfl (hb hby at_82) rfl (l' := #[.val (.int p0), .val (.int p1), .val (.int (e0_1 p0)), .val (.int (e0_2 p1)), .val (.int (e0_3 p1)), .val (.int (0 : Int32)), .val (.int (0 : Int32)), .val (.int (0 : Int32))]) rfl ?_
                show Steps p.tables e below (T61.setTop (mkF m 84 #[.val (.int p0), .val (.int p1), .val (.int (e0_1 p0)), .val (.int (e0_2 p1)), .val (.int (e0_3 p1)), .val (.int (0 : Int32)), .val (.int (0 : Int32)), .val (.int (0 : Int32))] [])) _
                refine XS.iload X61.here hx rfl (hb hby at_84) rfl ?_
                exact kt)
            obtain ⟨fs, hr, hrun, hended, hW, hsame⟩ := X61.leave (v := some (.int (0 : Int32))) (fun h => by rw [Bd.returns] at h; cases h)
            have hv89 : (f0 p0 p1) = (0 : Int32) := by rw [f0, if_neg hc29_4, if_neg hc41_46, if_pos hc47_57, if_pos hc64_60, if_neg hc74_63]
            refine ⟨_, _, pre65 _ ?_, hrun, hended, _, _, rfl, ?_, ⟨_, rfl⟩, hW, hsame.mono (by decide) (by decide)⟩
            · show Steps p.tables e below (T61.setTop (mkF m 86 #[.val (.int p0), .val (.int p1), .val (.int (e0_1 p0)), .val (.int (e0_2 p1)), .val (.int (e0_3 p1)), .val (.int (0 : Int32)), .val (.int (0 : Int32)), .val (.int (0 : Int32))] [(.int (0 : Int32))])) _
              refine XS.ifYes X61.here hx rfl (pc0 := 86) (pc' := 98) rfl (hb hby at_86) rfl ((if0 _ _).trans (teq (by decide : ((0 : Int32) = (0 : Int32)))).1) (by decide) (by decide) ?_
              show Steps p.tables e below (T61.setTop (mkF m 98 #[.val (.int p0), .val (.int p1), .val (.int (e0_1 p0)), .val (.int (e0_2 p1)), .val (.int (e0_3 p1)), .val (.int (0 : Int32)), .val (.int (0 : Int32)), .val (.int (0 : Int32))] [])) _
              refine XS.iconst X61.here hx rfl (hb hby at_98) ?_
              show Steps p.tables e below (T61.setTop (mkF m 99 #[.val (.int p0), .val (.int p1), .val (.int (e0_1 p0)), .val (.int (e0_2 p1)), .val (.int (e0_3 p1)), .val (.int (0 : Int32)), .val (.int (0 : Int32)), .val (.int (0 : Int32))] [(.int (0 : Int32))])) _
              exact retN X61 hx (t := .boolean) Bd.returns (by simp) (hb hby at_99) hr
            · show Q0 Z p0 p1 h0 n0 _ T61.heap _
              rw [e61q]
              exact ⟨congrArg (fun q => some (Value.int q)) hv89.symm, N61⟩
        · have pre66 : ∀ t, Steps p.tables e below (T58.setTop (mkF m 86 #[.val (.int p0), .val (.int p1), .val (.int (e0_1 p0)), .val (.int (e0_2 p1)), .val (.int (e0_3 p1)), .val (.int (0 : Int32)), .val (.int (0 : Int32)), .val (.int (0 : Int32))] [(.int (0 : Int32))])) t → Steps p.tables e below (s₁.setTop (entryFrame m #[(.int p0), (.int p1)] maxLocals)) t := fun t kt => pre59 t (by
              show Steps p.tables e below (T58.setTop (mkF m 64 #[.val (.int p0), .val (.int p1), .val (.int (e0_1 p0)), .val (.int (e0_2 p1)), .val (.int (e0_3 p1)), .val (.int (0 : Int32)), .val (.int (0 : Int32)), .unset] [(.int (0 : Int32)), (.int (f1 (e0_3 p1)))])) _
              refine XS.icmpYes X58.here hx rfl (pc0 := 64) (pc' := 81) rfl (hb hby at_64) rfl (feq hc64_60).2 (by decide) (by decide) ?_
              show Steps p.tables e below (T58.setTop (mkF m 81 #[.val (.int p0), .val (.int p1), .val (.int (e0_1 p0)), .val (.int (e0_2 p1)), .val (.int (e0_3 p1)), .val (.int (0 : Int32)), .val (.int (0 : Int32)), .unset] [])) _
              refine XS.iconst X58.here hx rfl (hb hby at_81) ?_
              show Steps p.tables e below (T58.setTop (mkF m 82 #[.val (.int p0), .val (.int p1), .val (.int (e0_1 p0)), .val (.int (e0_2 p1)), .val (.int (e0_3 p1)), .val (.int (0 : Int32)), .val (.int (0 : Int32)), .unset] [(.int (0 : Int32))])) _
              refine XS.istore X58.here hx rfl (hb hby at_82) rfl (l' := #[.val (.int p0), .val (.int p1), .val (.int (e0_1 p0)), .val (.int (e0_2 p1)), .val (.int (e0_3 p1)), .val (.int (0 : Int32)), .val (.int (0 : Int32)), .val (.int (0 : Int32))]) rfl ?_
              show Steps p.tables e below (T58.setTop (mkF m 84 #[.val (.int p0), .val (.int p1), .val (.int (e0_1 p0)), .val (.int (e0_2 p1)), .val (.int (e0_3 p1)), .val (.int (0 : Int32)), .val (.int (0 : Int32)), .val (.int (0 : Int32))] [])) _
              refine XS.iload X58.here hx rfl (hb hby at_84) rfl ?_
              exact kt)
          obtain ⟨fs, hr, hrun, hended, hW, hsame⟩ := X58.leave (v := some (.int (0 : Int32))) (fun h => by rw [Bd.returns] at h; cases h)
          have hv90 : (f0 p0 p1) = (0 : Int32) := by rw [f0, if_neg hc29_4, if_neg hc41_46, if_pos hc47_57, if_neg hc64_60]
          refine ⟨_, _, pre66 _ ?_, hrun, hended, _, _, rfl, ?_, ⟨_, rfl⟩, hW, hsame.mono (by decide) (by decide)⟩
          · show Steps p.tables e below (T58.setTop (mkF m 86 #[.val (.int p0), .val (.int p1), .val (.int (e0_1 p0)), .val (.int (e0_2 p1)), .val (.int (e0_3 p1)), .val (.int (0 : Int32)), .val (.int (0 : Int32)), .val (.int (0 : Int32))] [(.int (0 : Int32))])) _
            refine XS.ifYes X58.here hx rfl (pc0 := 86) (pc' := 98) rfl (hb hby at_86) rfl ((if0 _ _).trans (teq (by decide : ((0 : Int32) = (0 : Int32)))).1) (by decide) (by decide) ?_
            show Steps p.tables e below (T58.setTop (mkF m 98 #[.val (.int p0), .val (.int p1), .val (.int (e0_1 p0)), .val (.int (e0_2 p1)), .val (.int (e0_3 p1)), .val (.int (0 : Int32)), .val (.int (0 : Int32)), .val (.int (0 : Int32))] [])) _
            refine XS.iconst X58.here hx rfl (hb hby at_98) ?_
            show Steps p.tables e below (T58.setTop (mkF m 99 #[.val (.int p0), .val (.int p1), .val (.int (e0_1 p0)), .val (.int (e0_2 p1)), .val (.int (e0_3 p1)), .val (.int (0 : Int32)), .val (.int (0 : Int32)), .val (.int (0 : Int32))] [(.int (0 : Int32))])) _
            exact retN X58 hx (t := .boolean) Bd.returns (by simp) (hb hby at_99) hr
          · show Q0 Z p0 p1 h0 n0 _ T58.heap _
            rw [e58q]
            exact ⟨congrArg (fun q => some (Value.int q)) hv90.symm, N58⟩
      · obtain ⟨_, _, ⟨T67, L67, k67, n67⟩, -, X67, ⟨Lc67, hQ67, l67, y67, z67⟩, st67⟩ := Jvm.LawKit.callS X2 hx (y := (⟨"com/example/indentary/indentary/reader/SectionHeading", "isDigit", "(C)Z"⟩ : MethodName)) hown (mvT hZ (hw _ (List.mem_of_getElem? (i := 2) rfl))) (mvT hZ (hw _ (List.mem_of_getElem? (i := 3) rfl))) (mvT hZ (hw _ (List.mem_of_getElem? (i := 4) rfl))) (mvT hZ (hw _ (List.mem_of_getElem? (i := 5) rfl))) (by decide) (backOf (W := 0) (rm1 l Z a0 hw [] (e0_3 p1) h0 n0 Z0 ) hZ (hw _ (List.mem_of_getElem? (i := 5) rfl)) (hw _ (List.mem_of_getElem? (i := 4) rfl)) (by decide) (by decide)) (g := (mkF m 59 #[.val (.int p0), .val (.int p1), .val (.int (e0_1 p0)), .val (.int (e0_2 p1)), .val (.int (e0_3 p1)), .val (.int (0 : Int32)), .val (.int (1 : Int32)), .unset] [(.int (e0_3 p1))])) rfl (by rw [hml]; rfl) (argsL := [(.int (e0_3 p1))]) (rest := []) (lenOf pd_0_0 rfl) rfl (by show 2 * 0 + _ ≤ _; exact Nat.le_of_eq rfl) (hb hby at_59) (fun _ _ => ⟨rfl, e2q, (by decide : 0 + 0 ≤ _), (by decide : 0 + 0 ≤ _)⟩)
        dsimp only [Pt.U, Pt.locs, Pt.cells, Pt.slots] at X67 l67 y67 z67 st67 hQ67
        subst l67 y67 z67
        obtain ⟨rfl, N67q, e67q⟩ := hQ67
        have N67 := Fr.app N2 N67q
        have pre68 : ∀ t, Steps p.tables e below (T67.setTop (mkF m 64 #[.val (.int p0), .val (.int p1), .val (.int (e0_1 p0)), .val (.int (e0_2 p1)), .val (.int (e0_3 p1)), .val (.int (0 : Int32)), .val (.int (1 : Int32)), .unset] [(.int (1 : Int32)), (.int (f1 (e0_3 p1)))])) t → Steps p.tables e below (s₁.setTop (entryFrame m #[(.int p0), (.int p1)] maxLocals)) t := fun t kt => pre56 t (by
            show Steps p.tables e below (T2.setTop (mkF m 47 #[.val (.int p0), .val (.int p1), .val (.int (e0_1 p0)), .val (.int (e0_2 p1)), .val (.int (e0_3 p1)), .val (.int (0 : Int32)), .unset, .unset] [(.int (10 : Int32)), (.int (e0_2 p1))])) _
            refine XS.icmpNo X2.here hx rfl (hb hby at_47) rfl (flt hc47_57).2.2.1 ?_
            show Steps p.tables e below (T2.setTop (mkF m 50 #[.val (.int p0), .val (.int p1), .val (.int (e0_1 p0)), .val (.int (e0_2 p1)), .val (.int (e0_3 p1)), .val (.int (0 : Int32)), .unset, .unset] [])) _
            refine XS.iconst X2.here hx rfl (hb hby at_50) ?_
            show Steps p.tables e below (T2.setTop (mkF m 51 #[.val (.int p0), .val (.int p1), .val (.int (e0_1 p0)), .val (.int (e0_2 p1)), .val (.int (e0_3 p1)), .val (.int (0 : Int32)), .unset, .unset] [(.int (1 : Int32))])) _
            refine XS.goto X2.here hx rfl (pc0 := 51) (pc' := 55) rfl (hb hby at_51) (by decide) (by decide) ?_
            show Steps p.tables e below (T2.setTop (mkF m 55 #[.val (.int p0), .val (.int p1), .val (.int (e0_1 p0)), .val (.int (e0_2 p1)), .val (.int (e0_3 p1)), .val (.int (0 : Int32)), .unset, .unset] [(.int (1 : Int32))])) _
            refine XS.istore X2.here hx rfl (hb hby at_55) rfl (l' := #[.val (.int p0), .val (.int p1), .val (.int (e0_1 p0)), .val (.int (e0_2 p1)), .val (.int (e0_3 p1)), .val (.int (0 : Int32)), .val (.int (1 : Int32)), .unset]) rfl ?_
            show Steps p.tables e below (T2.setTop (mkF m 57 #[.val (.int p0), .val (.int p1), .val (.int (e0_1 p0)), .val (.int (e0_2 p1)), .val (.int (e0_3 p1)), .val (.int (0 : Int32)), .val (.int (1 : Int32)), .unset] [])) _
            refine XS.iload X2.here hx rfl (hb hby at_57) rfl ?_
            show Steps p.tables e below (T2.setTop (mkF m 59 #[.val (.int p0), .val (.int p1), .val (.int (e0_1 p0)), .val (.int (e0_2 p1)), .val (.int (e0_3 p1)), .val (.int (0 : Int32)), .val (.int (1 : Int32)), .unset] [(.int (e0_3 p1))])) _
            refine st67 _ ?_
            show Steps p.tables e below (T67.setTop (mkF m 62 #[.val (.int p0), .val (.int p1), .val (.int (e0_1 p0)), .val (.int (e0_2 p1)), .val (.int (e0_3 p1)), .val (.int (0 : Int32)), .val (.int (1 : Int32)), .unset] [(.int (f1 (e0_3 p1)))])) _
            refine XS.iload X67.here hx rfl (hb hby at_62) rfl ?_
            exact kt)
        by_cases hc64_69 : (f1 (e0_3 p1)) = (1 : Int32)
        · obtain ⟨_, _, ⟨T70, L70, k70, n70⟩, -, X70, ⟨Lc70, hQ70, l70, y70, z70⟩, st70⟩ := Jvm.LawKit.callS X67 hx (y := (⟨"com/example/indentary/indentary/reader/SectionHeadingIsDigitPinLaw", "oneOfTen", "(C)Z"⟩ : MethodName)) hown (mvT hZ (hw _ (List.mem_of_getElem? (i := 6) rfl))) (mvT hZ (hw _ (List.mem_of_getElem? (i := 7) rfl))) (mvT hZ (hw _ (List.mem_of_getElem? (i := 8) rfl))) (mvT hZ (hw _ (List.mem_of_getElem? (i := 9) rfl))) (by decide) (backOf (W := 0) (rm2 l Z a0 hw [] (e0_3 p1) h0 n0 Z0 ) hZ (hw _ (List.mem_of_getElem? (i := 9) rfl)) (hw _ (List.mem_of_getElem? (i := 8) rfl)) (by decide) (by decide)) (g := (mkF m 69 #[.val (.int p0), .val (.int p1), .val (.int (e0_1 p0)), .val (.int (e0_2 p1)), .val (.int (e0_3 p1)), .val (.int (0 : Int32)), .val (.int (1 : Int32)), .unset] [(.int (e0_3 p1))])) rfl (by rw [hml]; rfl) (argsL := [(.int (e0_3 p1))]) (rest := []) (lenOf pd_0_0 rfl) rfl (by show 2 * 0 + _ ≤ _; exact Nat.le_of_eq rfl) (hb hby at_69) (fun _ _ => ⟨rfl, e67q, (by decide : 0 + 0 ≤ _), (by decide : 0 + 0 ≤ _)⟩)
          dsimp only [Pt.U, Pt.locs, Pt.cells, Pt.slots] at X70 l70 y70 z70 st70 hQ70
          subst l70 y70 z70
          obtain ⟨rfl, N70q, e70q⟩ := hQ70
          have N70 := Fr.app N67 N70q
          have pre71 : ∀ t, Steps p.tables e below (T70.setTop (mkF m 74 #[.val (.int p0), .val (.int p1), .val (.int (e0_1 p0)), .val (.int (e0_2 p1)), .val (.int (e0_3 p1)), .val (.int (0 : Int32)), .val (.int (1 : Int32)), .unset] [(.int (1 : Int32)), (.int (f2 (e0_3 p1)))])) t → Steps p.tables e below (s₁.setTop (entryFrame m #[(.int p0), (.int p1)] maxLocals)) t := fun t kt => pre68 t (by
              show Steps p.tables e below (T67.setTop (mkF m 64 #[.val (.int p0), .val (.int p1), .val (.int (e0_1 p0)), .val (.int (e0_2 p1)), .val (.int (e0_3 p1)), .val (.int (0 : Int32)), .val (.int (1 : Int32)), .unset] [(.int (1 : Int32)), (.int (f1 (e0_3 p1)))])) _
              refine XS.icmpNo X67.here hx rfl (hb hby at_64) rfl (teq hc64_69).2 ?_
              show Steps p.tables e below (T67.setTop (mkF m 67 #[.val (.int p0), .val (.int p1), .val (.int (e0_1 p0)), .val (.int (e0_2 p1)), .val (.int (e0_3 p1)), .val (.int (0 : Int32)), .val (.int (1 : Int32)), .unset] [])) _
              refine XS.iload X67.here hx rfl (hb hby at_67) rfl ?_
              show Steps p.tables e below (T67.setTop (mkF m 69 #[.val (.int p0), .val (.int p1), .val (.int (e0_1 p0)), .val (.int (e0_2 p1)), .val (.int (e0_3 p1)), .val (.int (0 : Int32)), .val (.int (1 : Int32)), .unset] [(.int (e0_3 p1))])) _
              refine st70 _ ?_
              show Steps p.tables e below (T70.setTop (mkF m 72 #[.val (.int p0), .val (.int p1), .val (.int (e0_1 p0)), .val (.int (e0_2 p1)), .val (.int (e0_3 p1)), .val (.int (0 : Int32)), .val (.int (1 : Int32)), .unset] [(.int (f2 (e0_3 p1)))])) _
              refine XS.iload X70.here hx rfl (hb hby at_72) rfl ?_
              exact kt)
          by_cases hc74_72 : (f2 (e0_3 p1)) = (1 : Int32)
          · have pre73 : ∀ t, Steps p.tables e below (T70.setTop (mkF m 86 #[.val (.int p0), .val (.int p1), .val (.int (e0_1 p0)), .val (.int (e0_2 p1)), .val (.int (e0_3 p1)), .val (.int (0 : Int32)), .val (.int (1 : Int32)), .val (.int (1 : Int32))] [(.int (0 : Int32))])) t → Steps p.tables e below (s₁.setTop (entryFrame m #[(.int p0), (.int p1)] maxLocals)) t := fun t kt => pre71 t (by
                show Steps p.tables e below (T70.setTop (mkF m 74 #[.val (.int p0), .val (.int p1), .val (.int (e0_1 p0)), .val (.int (e0_2 p1)), .val (.int (e0_3 p1)), .val (.int (0 : Int32)), .val (.int (1 : Int32)), .unset] [(.int (1 : Int32)), (.int (f2 (e0_3 p1)))])) _
                refine XS.icmpNo X70.here hx rfl (hb hby at_74) rfl (teq hc74_72).2 ?_
                show Steps p.tables e below (T70.setTop (mkF m 77 #[.val (.int p0), .val (.int p1), .val (.int (e0_1 p0)), .val (.int (e0_2 p1)), .val (.int (e0_3 p1)), .val (.int (0 : Int32)), .val (.int (1 : Int32)), .unset] [])) _
                refine XS.iconst X70.here hx rfl (hb hby at_77) ?_
                show Steps p.tables e below (T70.setTop (mkF m 78 #[.val (.int p0), .val (.int p1), .val (.int (e0_1 p0)), .val (.int (e0_2 p1)), .val (.int (e0_3 p1)), .val (.int (0 : Int32)), .val (.int (1 : Int32)), .unset] [(.int (1 : Int32))])) _
                refine XS.goto X70.here hx rfl (pc0 := 78) (pc' := 82) rfl (hb hby at_78) (by decide) (by decide) ?_
                show Steps p.tables e below (T70.setTop (mkF m 82 #[.val (.int p0), .val (.int p1), .val (.int (e0_1 p0)), .val (.int (e0_2 p1)), .val (.int (e0_3 p1)), .val (.int (0 : Int32)), .val (.int (1 : Int32)), .unset] [(.int (1 : Int32))])) _
                refine XS.istore X70.here hx rfl (hb hby at_82) rfl (l' := #[.val (.int p0), .val (.int p1), .val (.int (e0_1 p0)), .val (.int (e0_2 p1)), .val (.int (e0_3 p1)), .val (.int (0 : Int32)), .val (.int (1 : Int32)), .val (.int (1 : Int32))]) rfl ?_
                show Steps p.tables e below (T70.setTop (mkF m 84 #[.val (.int p0), .val (.int p1), .val (.int (e0_1 p0)), .val (.int (e0_2 p1)), .val (.int (e0_3 p1)), .val (.int (0 : Int32)), .val (.int (1 : Int32)), .val (.int (1 : Int32))] [])) _
                refine XS.iload X70.here hx rfl (hb hby at_84) rfl ?_
                exact kt)
            obtain ⟨fs, hr, hrun, hended, hW, hsame⟩ := X70.leave (v := some (.int (0 : Int32))) (fun h => by rw [Bd.returns] at h; cases h)
            have hv91 : (f0 p0 p1) = (0 : Int32) := by rw [f0, if_neg hc29_4, if_neg hc41_46, if_neg hc47_57, if_pos hc64_69, if_pos hc74_72]
            refine ⟨_, _, pre73 _ ?_, hrun, hended, _, _, rfl, ?_, ⟨_, rfl⟩, hW, hsame.mono (by decide) (by decide)⟩
            · show Steps p.tables e below (T70.setTop (mkF m 86 #[.val (.int p0), .val (.int p1), .val (.int (e0_1 p0)), .val (.int (e0_2 p1)), .val (.int (e0_3 p1)), .val (.int (0 : Int32)), .val (.int (1 : Int32)), .val (.int (1 : Int32))] [(.int (0 : Int32))])) _
              refine XS.ifYes X70.here hx rfl (pc0 := 86) (pc' := 98) rfl (hb hby at_86) rfl ((if0 _ _).trans (teq (by decide : ((0 : Int32) = (0 : Int32)))).1) (by decide) (by decide) ?_
              show Steps p.tables e below (T70.setTop (mkF m 98 #[.val (.int p0), .val (.int p1), .val (.int (e0_1 p0)), .val (.int (e0_2 p1)), .val (.int (e0_3 p1)), .val (.int (0 : Int32)), .val (.int (1 : Int32)), .val (.int (1 : Int32))] [])) _
              refine XS.iconst X70.here hx rfl (hb hby at_98) ?_
              show Steps p.tables e below (T70.setTop (mkF m 99 #[.val (.int p0), .val (.int p1), .val (.int (e0_1 p0)), .val (.int (e0_2 p1)), .val (.int (e0_3 p1)), .val (.int (0 : Int32)), .val (.int (1 : Int32)), .val (.int (1 : Int32))] [(.int (0 : Int32))])) _
              exact retN X70 hx (t := .boolean) Bd.returns (by simp) (hb hby at_99) hr
            · show Q0 Z p0 p1 h0 n0 _ T70.heap _
              rw [e70q]
              exact ⟨congrArg (fun q => some (Value.int q)) hv91.symm, N70⟩
          · have pre74 : ∀ t, Steps p.tables e below (T70.setTop (mkF m 86 #[.val (.int p0), .val (.int p1), .val (.int (e0_1 p0)), .val (.int (e0_2 p1)), .val (.int (e0_3 p1)), .val (.int (0 : Int32)), .val (.int (1 : Int32)), .val (.int (0 : Int32))] [(.int (0 : Int32))])) t → Steps p.tables e below (s₁.setTop (entryFrame m #[(.int p0), (.int p1)] maxLocals)) t := fun t kt => pre71 t (by
                show Steps p.tables e below (T70.setTop (mkF m 74 #[.val (.int p0), .val (.int p1), .val (.int (e0_1 p0)), .val (.int (e0_2 p1)), .val (.int (e0_3 p1)), .val (.int (0 : Int32)), .val (.int (1 : Int32)), .unset] [(.int (1 : Int32)), (.int (f2 (e0_3 p1)))])) _
                refine XS.icmpYes X70.here hx rfl (pc0 := 74) (pc' := 81) rfl (hb hby at_74) rfl (feq hc74_72).2 (by decide) (by decide) ?_
                show Steps p.tables e below (T70.setTop (mkF m 81 #[.val (.int p0), .val (.int p1), .val (.int (e0_1 p0)), .val (.int (e0_2 p1)), .val (.int (e0_3 p1)), .val (.int (0 : Int32)), .val (.int (1 : Int32)), .unset] [])) _
                refine XS.iconst X70.here hx rfl (hb hby at_81) ?_
                show Steps p.tables e below (T70.setTop (mkF m 82 #[.val (.int p0), .val (.int p1), .val (.int (e0_1 p0)), .val (.int (e0_2 p1)), .val (.int (e0_3 p1)), .val (.int (0 : Int32)), .val (.int (1 : Int32)), .unset] [(.int (0 : Int32))])) _
                refine XS.istore X70.here hx rfl (hb hby at_82) rfl (l' := #[.val (.int p0), .val (.int p1), .val (.int (e0_1 p0)), .val (.int (e0_2 p1)), .val (.int (e0_3 p1)), .val (.int (0 : Int32)), .val (.int (1 : Int32)), .val (.int (0 : Int32))]) rfl ?_
                show Steps p.tables e below (T70.setTop (mkF m 84 #[.val (.int p0), .val (.int p1), .val (.int (e0_1 p0)), .val (.int (e0_2 p1)), .val (.int (e0_3 p1)), .val (.int (0 : Int32)), .val (.int (1 : Int32)), .val (.int (0 : Int32))] [])) _
                refine XS.iload X70.here hx rfl (hb hby at_84) rfl ?_
                exact kt)
            obtain ⟨fs, hr, hrun, hended, hW, hsame⟩ := X70.leave (v := some (.int (0 : Int32))) (fun h => by rw [Bd.returns] at h; cases h)
            have hv92 : (f0 p0 p1) = (0 : Int32) := by rw [f0, if_neg hc29_4, if_neg hc41_46, if_neg hc47_57, if_pos hc64_69, if_neg hc74_72]
            refine ⟨_, _, pre74 _ ?_, hrun, hended, _, _, rfl, ?_, ⟨_, rfl⟩, hW, hsame.mono (by decide) (by decide)⟩
            · show Steps p.tables e below (T70.setTop (mkF m 86 #[.val (.int p0), .val (.int p1), .val (.int (e0_1 p0)), .val (.int (e0_2 p1)), .val (.int (e0_3 p1)), .val (.int (0 : Int32)), .val (.int (1 : Int32)), .val (.int (0 : Int32))] [(.int (0 : Int32))])) _
              refine XS.ifYes X70.here hx rfl (pc0 := 86) (pc' := 98) rfl (hb hby at_86) rfl ((if0 _ _).trans (teq (by decide : ((0 : Int32) = (0 : Int32)))).1) (by decide) (by decide) ?_
              show Steps p.tables e below (T70.setTop (mkF m 98 #[.val (.int p0), .val (.int p1), .val (.int (e0_1 p0)), .val (.int (e0_2 p1)), .val (.int (e0_3 p1)), .val (.int (0 : Int32)), .val (.int (1 : Int32)), .val (.int (0 : Int32))] [])) _
              refine XS.iconst X70.here hx rfl (hb hby at_98) ?_
              show Steps p.tables e below (T70.setTop (mkF m 99 #[.val (.int p0), .val (.int p1), .val (.int (e0_1 p0)), .val (.int (e0_2 p1)), .val (.int (e0_3 p1)), .val (.int (0 : Int32)), .val (.int (1 : Int32)), .val (.int (0 : Int32))] [(.int (0 : Int32))])) _
              exact retN X70 hx (t := .boolean) Bd.returns (by simp) (hb hby at_99) hr
            · show Q0 Z p0 p1 h0 n0 _ T70.heap _
              rw [e70q]
              exact ⟨congrArg (fun q => some (Value.int q)) hv92.symm, N70⟩
        · have pre75 : ∀ t, Steps p.tables e below (T67.setTop (mkF m 86 #[.val (.int p0), .val (.int p1), .val (.int (e0_1 p0)), .val (.int (e0_2 p1)), .val (.int (e0_3 p1)), .val (.int (0 : Int32)), .val (.int (1 : Int32)), .val (.int (0 : Int32))] [(.int (0 : Int32))])) t → Steps p.tables e below (s₁.setTop (entryFrame m #[(.int p0), (.int p1)] maxLocals)) t := fun t kt => pre68 t (by
              show Steps p.tables e below (T67.setTop (mkF m 64 #[.val (.int p0), .val (.int p1), .val (.int (e0_1 p0)), .val (.int (e0_2 p1)), .val (.int (e0_3 p1)), .val (.int (0 : Int32)), .val (.int (1 : Int32)), .unset] [(.int (1 : Int32)), (.int (f1 (e0_3 p1)))])) _
              refine XS.icmpYes X67.here hx rfl (pc0 := 64) (pc' := 81) rfl (hb hby at_64) rfl (feq hc64_69).2 (by decide) (by decide) ?_
              show Steps p.tables e below (T67.setTop (mkF m 81 #[.val (.int p0), .val (.int p1), .val (.int (e0_1 p0)), .val (.int (e0_2 p1)), .val (.int (e0_3 p1)), .val (.int (0 : Int32)), .val (.int (1 : Int32)), .unset] [])) _
              refine XS.iconst X67.here hx rfl (hb hby at_81) ?_
              show Steps p.tables e below (T67.setTop (mkF m 82 #[.val (.int p0), .val (.int p1), .val (.int (e0_1 p0)), .val (.int (e0_2 p1)), .val (.int (e0_3 p1)), .val (.int (0 : Int32)), .val (.int (1 : Int32)), .unset] [(.int (0 : Int32))])) _
              refine XS.istore X67.here hx rfl (hb hby at_82) rfl (l' := #[.val (.int p0), .val (.int p1), .val (.int (e0_1 p0)), .val (.int (e0_2 p1)), .val (.int (e0_3 p1)), .val (.int (0 : Int32)), .val (.int (1 : Int32)), .val (.int (0 : Int32))]) rfl ?_
              show Steps p.tables e below (T67.setTop (mkF m 84 #[.val (.int p0), .val (.int p1), .val (.int (e0_1 p0)), .val (.int (e0_2 p1)), .val (.int (e0_3 p1)), .val (.int (0 : Int32)), .val (.int (1 : Int32)), .val (.int (0 : Int32))] [])) _
              refine XS.iload X67.here hx rfl (hb hby at_84) rfl ?_
              exact kt)
          obtain ⟨fs, hr, hrun, hended, hW, hsame⟩ := X67.leave (v := some (.int (0 : Int32))) (fun h => by rw [Bd.returns] at h; cases h)
          have hv93 : (f0 p0 p1) = (0 : Int32) := by rw [f0, if_neg hc29_4, if_neg hc41_46, if_neg hc47_57, if_neg hc64_69]
          refine ⟨_, _, pre75 _ ?_, hrun, hended, _, _, rfl, ?_, ⟨_, rfl⟩, hW, hsame.mono (by decide) (by decide)⟩
          · show Steps p.tables e below (T67.setTop (mkF m 86 #[.val (.int p0), .val (.int p1), .val (.int (e0_1 p0)), .val (.int (e0_2 p1)), .val (.int (e0_3 p1)), .val (.int (0 : Int32)), .val (.int (1 : Int32)), .val (.int (0 : Int32))] [(.int (0 : Int32))])) _
            refine XS.ifYes X67.here hx rfl (pc0 := 86) (pc' := 98) rfl (hb hby at_86) rfl ((if0 _ _).trans (teq (by decide : ((0 : Int32) = (0 : Int32)))).1) (by decide) (by decide) ?_
            show Steps p.tables e below (T67.setTop (mkF m 98 #[.val (.int p0), .val (.int p1), .val (.int (e0_1 p0)), .val (.int (e0_2 p1)), .val (.int (e0_3 p1)), .val (.int (0 : Int32)), .val (.int (1 : Int32)), .val (.int (0 : Int32))] [])) _
            refine XS.iconst X67.here hx rfl (hb hby at_98) ?_
            show Steps p.tables e below (T67.setTop (mkF m 99 #[.val (.int p0), .val (.int p1), .val (.int (e0_1 p0)), .val (.int (e0_2 p1)), .val (.int (e0_3 p1)), .val (.int (0 : Int32)), .val (.int (1 : Int32)), .val (.int (0 : Int32))] [(.int (0 : Int32))])) _
            exact retN X67 hx (t := .boolean) Bd.returns (by simp) (hb hby at_99) hr
          · show Q0 Z p0 p1 h0 n0 _ T67.heap _
            rw [e67q]
            exact ⟨congrArg (fun q => some (Value.int q)) hv93.symm, N67⟩
set_option maxRecDepth 65536 in
set_option maxHeartbeats 40000000 in
theorem comes_1 {Post : Tables → Env → Array Value → State → Outcome → State → Prop} (hpost : ∀ tb e args s v u, (limb_1_1.after args s (.returned v) u = true ∧ limb_1_2.after args s (.returned v) u = true ∧ True) → FrameEnd s (.returned v) u (Jvm.fieldLocs frame_1_writes args s ++ Jvm.arrayLocs frame_1_arrays args s ++ Jvm.staticLocs frame_1_statics s) 0 0 → Post tb e args s (.returned v) u) :
    ArmFor flags0 classFile x code maxLocals ret World_1 tables_1 room_1 Calls_1 rest_1 Pre_1 Post := by
  intro l hfl _ _ p e ha hc hk s m args below hf hA hF happ hP
  obtain ⟨hcalls, hrest, hpre⟩ := hP
  obtain ⟨-, -, -, hnamed, -, -, -, hat⟩ := (Spec.applies_iff hf).mp happ
  obtain ⟨hg, hn⟩ := and_e (Cond.before_iff.mp (show (Jvm.Cond.and given_1 narrow_1).before args s = true from hpre))
  obtain ⟨g1, g2⟩ := and_e hg
  obtain ⟨g3, g4⟩ := and_e g2
  obtain ⟨w0, w1, rfl⟩ : ∃ w0 w1 : Value, args = #[w0, w1] := by
    have hs : args.size = 2 := by simpa [Cond.value, given_1] using g1
    obtain ⟨L⟩ := args
    match L, hs with
    | [w0, w1], _ => exact ⟨w0, w1, rfl⟩
  have hw := fun d (hd : d ∈ tables_1) => atoms_spec (ws := Jvm.Cond.code x code maxLocals ret :: tables_1) hat d (List.mem_cons_of_mem _ hd)
  have hfit : Fit s := fun {y c} hc i hi => by
    obtain ⟨ha, rfl⟩ := Array.getElem?_eq_some_iff.mp hc
    have q := List.all_eq_true.mp ((Array.all_eq_true_iff_forall_mem.mp hF) _ (Array.getElem_mem ha)) i (List.mem_range.mpr hi)
    simpa [Array.getElem?_eq_getElem hi] using q
  obtain ⟨i0, ei0⟩ := is_v g3
  obtain rfl : w0 = (.int i0) := Option.some.inj ei0
  obtain ⟨i1, ei1⟩ := is_v g4
  obtain rfl : w1 = (.int i1) := Option.some.inj ei1
  obtain ⟨n, o, h1, h2, h3, _, L, rfl, ⟨hv0, N⟩, hq⟩ := rm0 l s _ hw tables_1 i0 i1 s.heap s.heap.size (Nat.le_refl _) p e ha hc hk s m _ below hf ((Spec.applies_iff_loose hf).mp happ).1 ⟨rfl, State.Warmed39.refl s, rfl⟩ trivial
  rw [own_law] at hv0
  subst hv0
  refine ⟨n, _, h1, h2, h3, hpost _ _ _ _ _ _ ⟨Cond.after_iff.mpr rfl, Cond.after_iff.mpr (eq_i res_at (Term.int_eval (1)) rfl), trivial⟩ ⟨hq.1, hq.2.1, (hq.2.2.sift fun y hy => Or.inr (N y hy)).mono (by decide) (by decide)⟩⟩
theorem main_1_1 : Claimed_1_1 := comes_1 fun _ _ _ _ _ _ h hF => ⟨h.1, hF⟩
theorem main_1_2 : Claimed_1_2 := comes_1 fun _ _ _ _ _ _ h hF => ⟨h.2.1, hF⟩
end Jvm.Pilot.@@N@@
namespace Jvm.Pilot.@@N@@
open Jvm Jvm.ClassFile Sem Op Lib Jvm.Free Jvm.Stand Jvm.Pilot.@@N@@.Jvm.D
/-! MADE BY PROGRAM (witnessworld.py) out of the Statement's table words and the real class files: 10 classes; the members and pool entries that the words name. The judged class is class 1, her method 2. -/
namespace start1
open Jvm.ClassFile
def u (s : String) : CpInfo := .utf8 (stringToUtf16 s)
/-- a pool by its gaps: so many unusable entries, then the entry; so many at the end -/
def gap : Nat → List CpInfo → List CpInfo
  | 0, r => r
  | n + 1, r => .unusable :: gap n r
def poolList (es : List (Nat × CpInfo)) (last : Nat) : List CpInfo := es.foldr (fun e r => gap e.1 (e.2 :: r)) (gap last [])
def pool (es : List (Nat × CpInfo)) (last : Nat) : Array CpInfo := ⟨poolList es last⟩
def fileOf (pool : Array CpInfo) (this : Nat) (attrs : Array Attribute := #[]) (ms : Array MethodInfo := #[]) (fl : Nat := 33) (sup : Nat := 0) (ifs : Array Nat := #[]) (fds : Array FieldInfo := #[]) : ClassFile where
  minorVersion := 0
  majorVersion := 65
  constantPool := pool
  accessFlags := fl
  thisClass := this
  superClass := sup
  interfaces := ifs
  fields := fds
  methods := ms
  attributes := attrs
def plain (name : String) (sup : Option ClassId) : Class where
  name := name
  kind := .ordinary
  loader := none
  accessFlags := 33
  super := sup
  interfaces := #[]
  cf := none
  fields := #[]
  methods := #[]
  instanceTypes := #[]
  staticTypes := #[]
  resolved := #[]
  callSites := []
  init := .initialized
  statics := none
  mirror := none

def pool0 : Array CpInfo := pool [(5, u "<init>"), (0, u "()V"), (1, .class_ 10), (1, u "java/lang/Object")] 113

def k0m0 : Method := { name := "<init>", desc := "()V", sig := { parameters := [], returnType := none }, accessFlags := 1, code := none }
/-- java/lang/Object -/
def k0 : Class := { plain "java/lang/Object" none with
  accessFlags := 33
  interfaces := #[]
  cf := some (fileOf pool0 8 #[] #[{ accessFlags := 1, nameIndex := 5, descriptorIndex := 6, attributes := #[] }] 33 0 #[] #[])
  fields := #[]
  methods := #[k0m0]
  instanceTypes := #[]
  staticTypes := #[]
  resolved := Array.replicate 124 none
  statics := none }

def pool1 : Array CpInfo := pool [(2, .class_ 4), (1, u "java/lang/Object"), (0, u "<init>"), (0, u "()V"), (0, .integer 65535), (0, .integer 2147483647), (0, .methodref 10 11), (0, .class_ 12), (0, .nameAndType 13 14), (0, u "com/example/indentary/indentary/reader/SectionHeading"), (0, u "isDigit"), (0, u "(C)Z"), (0, .methodref 16 17), (0, .class_ 18), (0, .nameAndType 19 14), (0, u "com/example/indentary/indentary/reader/SectionHeadingIsDigitPinLaw"), (0, u "oneOfTen"), (3, u "law"), (0, u "(II)Z")] 2

def k1m0 : Method := { name := "<init>", desc := "()V", sig := { parameters := [], returnType := none }, accessFlags := 1, code := none }
def k1c1 : Code := { maxStack := 2, maxLocals := 1, code := method_2_code, exceptionTable := #[], attributes := #[] }
def k1m1 : Method := { name := "oneOfTen", desc := "(C)Z", sig := { parameters := [.char], returnType := some .boolean }, accessFlags := 10, code := some k1c1 }
def k1c2 : Code := { maxStack := 2, maxLocals := 8, code := code, exceptionTable := #[], attributes := #[] }
def k1m2 : Method := { name := "law", desc := "(II)Z", sig := { parameters := [.int, .int], returnType := some .boolean }, accessFlags := 9, code := some k1c2 }
/-- com/example/indentary/indentary/reader/SectionHeadingIsDigitPinLaw -/
def k1 : Class := { plain "com/example/indentary/indentary/reader/SectionHeadingIsDigitPinLaw" (some 0) with
  accessFlags := 49
  interfaces := #[]
  cf := some (fileOf pool1 16 #[] #[{ accessFlags := 1, nameIndex := 5, descriptorIndex := 6, attributes := #[] }, { accessFlags := 10, nameIndex := 19, descriptorIndex := 14, attributes := #[] }, { accessFlags := 9, nameIndex := 23, descriptorIndex := 24, attributes := #[] }] 49 2 #[] #[])
  fields := #[]
  methods := #[k1m0, k1m1, k1m2]
  instanceTypes := #[]
  staticTypes := #[]
  resolved := Array.replicate 27 none
  statics := none }

def pool2 : Array CpInfo := pool [(2, .class_ 4), (1, u "java/lang/Object"), (0, u "<init>"), (0, u "()V"), (0, .class_ 8), (0, u "java/lang/Record")] 13

def k2m0 : Method := { name := "<init>", desc := "()V", sig := { parameters := [], returnType := none }, accessFlags := 4, code := none }
/-- java/lang/Record -/
def k2 : Class := { plain "java/lang/Record" (some 0) with
  accessFlags := 1057
  interfaces := #[]
  cf := some (fileOf pool2 7 #[] #[{ accessFlags := 4, nameIndex := 5, descriptorIndex := 6, attributes := #[] }] 1057 2 #[] #[])
  fields := #[]
  methods := #[k2m0]
  instanceTypes := #[]
  staticTypes := #[]
  resolved := Array.replicate 22 none
  statics := none }

def pool3 : Array CpInfo := pool [(1, .class_ 2), (0, u "com/example/indentary/indentary/reader/SectionHeading"), (1, .class_ 6), (1, u "java/lang/Record"), (4, u "word"), (0, u "Ljava/lang/String;"), (2, u "space"), (2, u "number"), (5, u "IN_COLLAPSED_TEXT"), (0, u "Ljava/util/regex/Pattern;"), (21, u "isDigit"), (0, u "(C)Z"), (57, u "LINE"), (19, u "WORD_READ_LENGTH"), (0, u "I"), (2, u "READ_WORD"), (70, u "WORD_READ"), (1, u "SPACE_AND_NUMBER"), (2, u "SPACE_AND_NUMBER_AS_PRINTED"), (2, u "TITLE"), (2, u "NUMBER_AND_TITLE")] 52

def k3c0 : Code := { maxStack := 2, maxLocals := 1, code := prog_98_method_11_code, exceptionTable := #[], attributes := #[] }
def k3m0 : Method := { name := "isDigit", desc := "(C)Z", sig := { parameters := [.char], returnType := some .boolean }, accessFlags := 8, code := some k3c0 }
/-- com/example/indentary/indentary/reader/SectionHeading -/
def k3 : Class := { plain "com/example/indentary/indentary/reader/SectionHeading" (some 2) with
  accessFlags := 48
  interfaces := #[]
  cf := some (fileOf pool3 1 #[] #[{ accessFlags := 8, nameIndex := 47, descriptorIndex := 48, attributes := #[] }] 48 4 #[] #[{ accessFlags := 18, nameIndex := 11, descriptorIndex := 12, attributes := #[] }, { accessFlags := 18, nameIndex := 15, descriptorIndex := 12, attributes := #[] }, { accessFlags := 18, nameIndex := 18, descriptorIndex := 12, attributes := #[] }, { accessFlags := 26, nameIndex := 201, descriptorIndex := 12, attributes := #[] }, { accessFlags := 26, nameIndex := 126, descriptorIndex := 127, attributes := #[] }, { accessFlags := 26, nameIndex := 203, descriptorIndex := 12, attributes := #[] }, { accessFlags := 26, nameIndex := 206, descriptorIndex := 12, attributes := #[] }, { accessFlags := 26, nameIndex := 209, descriptorIndex := 12, attributes := #[] }, { accessFlags := 26, nameIndex := 106, descriptorIndex := 25, attributes := #[] }, { accessFlags := 26, nameIndex := 130, descriptorIndex := 25, attributes := #[] }, { accessFlags := 26, nameIndex := 212, descriptorIndex := 12, attributes := #[] }, { accessFlags := 26, nameIndex := 24, descriptorIndex := 25, attributes := #[] }])
  fields := #[{ name := "word", type := (.object "java/lang/String"), accessFlags := 18, slot := 0, constantValue := 0 }, { name := "space", type := (.object "java/lang/String"), accessFlags := 18, slot := 1, constantValue := 0 }, { name := "number", type := (.object "java/lang/String"), accessFlags := 18, slot := 2, constantValue := 0 }, { name := "WORD_READ", type := (.object "java/lang/String"), accessFlags := 26, slot := 0, constantValue := 0 }, { name := "WORD_READ_LENGTH", type := .int, accessFlags := 26, slot := 1, constantValue := 0 }, { name := "SPACE_AND_NUMBER", type := (.object "java/lang/String"), accessFlags := 26, slot := 2, constantValue := 0 }, { name := "SPACE_AND_NUMBER_AS_PRINTED", type := (.object "java/lang/String"), accessFlags := 26, slot := 3, constantValue := 0 }, { name := "TITLE", type := (.object "java/lang/String"), accessFlags := 26, slot := 4, constantValue := 0 }, { name := "LINE", type := (.object "java/util/regex/Pattern"), accessFlags := 26, slot := 5, constantValue := 0 }, { name := "READ_WORD", type := (.object "java/util/regex/Pattern"), accessFlags := 26, slot := 6, constantValue := 0 }, { name := "NUMBER_AND_TITLE", type := (.object "java/lang/String"), accessFlags := 26, slot := 7, constantValue := 0 }, { name := "IN_COLLAPSED_TEXT", type := (.object "java/util/regex/Pattern"), accessFlags := 26, slot := 8, constantValue := 0 }]
  methods := #[k3m0]
  instanceTypes := #[(.object "java/lang/String"), (.object "java/lang/String"), (.object "java/lang/String")]
  staticTypes := #[(.object "java/lang/String"), .int, (.object "java/lang/String"), (.object "java/lang/String"), (.object "java/lang/String"), (.object "java/util/regex/Pattern"), (.object "java/util/regex/Pattern"), (.object "java/lang/String"), (.object "java/util/regex/Pattern")]
  resolved := Array.replicate 265 none
  statics := none }

def pool4 : Array CpInfo := pool [(1, u "java/lang/Cloneable"), (0, .class_ 1), (0, u "java/lang/Object"), (0, .class_ 3)] 3

/-- java/lang/Cloneable -/
def k4 : Class := { plain "java/lang/Cloneable" (some 0) with
  accessFlags := 1537
  interfaces := #[]
  cf := some (fileOf pool4 2 #[] #[] 1537 4 #[] #[])
  fields := #[]
  methods := #[]
  instanceTypes := #[]
  staticTypes := #[]
  resolved := Array.replicate 8 none
  statics := none }

def pool5 : Array CpInfo := pool [(1, u "java/io/Serializable"), (0, .class_ 1), (0, u "java/lang/Object"), (0, .class_ 3)] 3

/-- java/io/Serializable -/
def k5 : Class := { plain "java/io/Serializable" (some 0) with
  accessFlags := 1537
  interfaces := #[]
  cf := some (fileOf pool5 2 #[] #[] 1537 4 #[] #[])
  fields := #[]
  methods := #[]
  instanceTypes := #[]
  staticTypes := #[]
  resolved := Array.replicate 8 none
  statics := none }

/-- the primitive byte -/
def k6 : Class := { plain "byte" none with kind := .primitive 'B', accessFlags := 0x411 }
/-- [B -/
def k7 : Class := { plain "[B" (some 0) with kind := .array 6 .byte, interfaces := #[4, 5], accessFlags := 1041 }

/-- the primitive int -/
def k8 : Class := { plain "int" none with kind := .primitive 'I', accessFlags := 0x411 }
/-- [I -/
def k9 : Class := { plain "[I" (some 0) with kind := .array 8 .int, interfaces := #[4, 5], accessFlags := 1041 }

def heap : Heap := #[]
def classes : Array Class := #[k0, k1, k2, k3, k4, k5, k6, k7, k8, k9]
def interned : List (Array UInt16 × Addr) := []
def slotsUsed : Nat := 0
def theMethod : MethodId := ⟨1, 2⟩
def args0 : Array Value := #[.int 5, .int 9]
def aboutOver (below : List Frame) : State where
  vm := { classes := classes, interned := interned.toArray }
  heap := heap
  slotsUsed := slotsUsed
  threads := #[{ frames := .invoking theMethod args0 :: below }]
def below0 : List Frame := [.native { method := ⟨0, 0⟩, args := #[] }]
def about1 : State := aboutOver below0
def p0 : Program := .bare "" "" ""
def e0 : Env := launch0.env 0 0 0
theorem w_frames : about1.frames = Frame.invoking theMethod args0 :: below0 := rfl
set_option maxRecDepth 65536 in
theorem w_args : argsFit about1.vm theMethod args0 = true := by decide +kernel
set_option maxRecDepth 65536 in
theorem w_heap : heapFits about1 = true := by decide +kernel
set_option maxRecDepth 65536 in
theorem w_runnable : about1.curStatus? = some .runnable := by decide +kernel
set_option maxRecDepth 65536 in
theorem w_alone : about1.alone = true := by decide +kernel
set_option maxRecDepth 65536 in
theorem w_named : about1.methodNamed? x = some theMethod := by decide +kernel
set_option maxRecDepth 65536 in
theorem w_hears : about1.hears theMethod below0 = true := by decide +kernel
set_option maxRecDepth 65536 in
theorem w_ripe : about1.ripe theMethod args0 below0 = true := by decide +kernel
theorem w_running : about1.status = .running := rfl
set_option maxRecDepth 65536 in
theorem w_room : about1.hasRoom e0.platform room_1 = true :=
  launch0.hasRoom_least _ room_1 (by decide +kernel) (by decide +kernel) (by decide +kernel) (by decide +kernel) (by decide +kernel) (by decide +kernel)
theorem allAtoms_all (ts : List Jvm.Cond) (a : Array Jvm.Value) (st : Jvm.State) : (allAtoms ts).before a st = ts.all (fun c => c.before a st) := by
  induction ts with
  | nil => rfl
  | cons c t ih =>
    show (Jvm.Cond.and c (allAtoms t)).before a st = _
    rw [Jvm.Cond.before_and, ih, List.all_cons]
def words1 : List Jvm.Cond := Jvm.Cond.code x code maxLocals ret :: tables_1
/-- a 'code' word, met by the world's own term for the bytes: nothing is compared byte by byte -/
theorem code_word {y : MethodName} {bytes : ByteArray} {mx : Nat} {rt : Option FieldType} {a : Array Value} {s : State} {m : MethodId} {meth : Method} {c : Code} (h1 : s.methodNamed? y = some m) (h2 : s.vm.method? m = some meth) (h3 : meth.code = some c) (h4 : c.code = bytes)
    (h5 : (c.maxLocals == mx && c.exceptionTable.isEmpty && decide (c.maxStack ≤ mostOperands) && decide (meth.sig.returnType = rt) && !meth.locks && decide (parseMethodDescriptor y.desc = some meth.sig)) = true) : (Jvm.Cond.code y bytes mx rt).before a s = true := by
  simp only [Bool.and_eq_true, beq_iff_eq, Bool.not_eq_true', decide_eq_true_eq] at h5
  obtain ⟨⟨⟨⟨⟨g1, g2⟩, g3⟩, g4⟩, g5⟩, g6⟩ := h5
  simp [Cond.before, Cond.holds, Cond.value, h1, h2, h3, h4, g1, g2, g3, g4, g5, g6]
def isCode : Jvm.Cond → Bool
  | .code _ _ _ _ => true
  | _ => false
theorem all_split {L : List Jvm.Cond} {P : Jvm.Cond → Bool} (h1 : L.all (fun c => isCode c || P c) = true) (h2 : ∀ c ∈ L.filter isCode, P c = true) : L.all P = true := by
  refine List.all_eq_true.mpr fun c hc => ?_
  have h := List.all_eq_true.mp h1 c hc
  rcases Bool.eq_false_or_eq_true (isCode c) with hi | hi
  · exact h2 c (List.mem_filter.mpr ⟨hc, hi⟩)
  · simpa [hi] using h
set_option maxRecDepth 65536 in
theorem w_c0 : (Jvm.Cond.code x code maxLocals ret).before args0 about1 = true := code_word (m := ⟨1, 2⟩) (meth := k1m2) (c := k1c2) (by decide +kernel) rfl rfl rfl (by decide +kernel)
set_option maxRecDepth 65536 in
theorem w_c1 : (Jvm.Cond.code ({ cls := "com/example/indentary/indentary/reader/SectionHeading", name := "isDigit", desc := "(C)Z" } : Jvm.MethodName) prog_98_method_11_code (1 : Nat) (Option.some Jvm.ClassFile.FieldType.boolean)).before args0 about1 = true := code_word (m := ⟨3, 0⟩) (meth := k3m0) (c := k3c0) (by decide +kernel) rfl rfl rfl (by decide +kernel)
set_option maxRecDepth 65536 in
theorem w_c2 : (Jvm.Cond.code ({ cls := "com/example/indentary/indentary/reader/SectionHeadingIsDigitPinLaw", name := "oneOfTen", desc := "(C)Z" } : Jvm.MethodName) method_2_code (1 : Nat) (Option.some Jvm.ClassFile.FieldType.boolean)).before args0 about1 = true := code_word (m := ⟨1, 1⟩) (meth := k1m1) (c := k1c1) (by decide +kernel) rfl rfl rfl (by decide +kernel)
def codes1 : List Jvm.Cond := [Jvm.Cond.code x code maxLocals ret, Jvm.Cond.code ({ cls := "com/example/indentary/indentary/reader/SectionHeading", name := "isDigit", desc := "(C)Z" } : Jvm.MethodName) prog_98_method_11_code (1 : Nat) (Option.some Jvm.ClassFile.FieldType.boolean), Jvm.Cond.code ({ cls := "com/example/indentary/indentary/reader/SectionHeadingIsDigitPinLaw", name := "oneOfTen", desc := "(C)Z" } : Jvm.MethodName) method_2_code (1 : Nat) (Option.some Jvm.ClassFile.FieldType.boolean)]
set_option maxRecDepth 65536 in
theorem codes_eq : words1.filter isCode = codes1 := rfl
theorem w_codes : ∀ c ∈ words1.filter isCode, c.before args0 about1 = true := by
  rw [codes_eq]
  intro c hc
  simp only [codes1, List.mem_cons, List.not_mem_nil, or_false] at hc
  rcases hc with rfl | rfl | rfl
  · exact w_c0
  · exact w_c1
  · exact w_c2
set_option maxRecDepth 65536 in
theorem w_t1 : words1.all (fun c => isCode c || c.before args0 about1) = true := by decide +kernel
theorem w_tables : (allAtoms (Jvm.Cond.code x code maxLocals ret :: tables_1)).before args0 about1 = true := by
  rw [allAtoms_all]
  show words1.all (fun c => c.before args0 about1) = true
  refine all_split ?_ w_codes
  rw [w_t1]
set_option maxRecDepth 65536 in
theorem w_case : (Jvm.Cond.and given_1 narrow_1).before args0 about1 = true := by decide +kernel
theorem w_applies : (headSpec (Jvm.Cond.code x code maxLocals ret :: tables_1) room_1).applies x e0.platform about1 = true :=
  (Spec.applies_iff w_frames).mpr ⟨w_running, w_runnable, w_alone, w_named, w_hears, w_ripe, w_room, w_tables⟩
theorem atStart : AtStart classFile x code maxLocals ret World_1 tables_1 room_1 Calls_1 rest_1 Pre_1 launch0 p0 e0 about1 theMethod args0 below0 :=
  ⟨lists_1, trivial, launch0.admits_env _ _ _, launch0.least_env, fairChoices_fair.cas, fairChoices_fair.clock, w_frames, w_args, w_heap, w_applies, trivial, trivial, w_case⟩
end start1
theorem witness_1 : WitnessClaimed_1 := ⟨start1.p0, start1.e0, start1.about1, start1.theMethod, start1.args0, start1.below0, start1.atStart⟩
end Jvm.Pilot.@@N@@
