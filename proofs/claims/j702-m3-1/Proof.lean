import JvmDerived
import JvmDerived.Pilot.@@N@@Statement
import JvmDerived.Pilot.@@N@@Code
set_option linter.unusedVariables false
set_option linter.unusedSimpArgs false
namespace Jvm.RoadKit
open Sem ClassFile Op Lib Jvm.Stand Jvm.Free Jvm.LawKit
section New
variable {p : Program} {l : Launch} {e : Env} {R : Room} {s : State} {m : MethodId} {args : Array Value} {below : List Frame} {meth : Method} {c : Code} {T : State} {locs : List Loc} {cells slots : Nat}
theorem retI (X : Stand p l e R s m args below meth c T locs cells slots) (hx : p.tables.exec = Jvm.exec) {pc : Nat} {Ls : Array Slot} {z : Int32} {rest : List Value} (hret : meth.sig.returnType = some .int) (hd : decode c.code pc = .ok (.ireturn, 1)) {fs : List Frame}
    (hl : ∀ (f : JFrame) (acts : List Action), f.method = m → f.locked = none → f.entered = [] → (doReturn e (T.setTop f) acts (some (.int z))).1 = T.setFrames fs) : Steps p.tables e below (T.setTop (mkF m pc Ls (.int z :: rest))) (T.setFrames fs) := by
  have hm' : T.vm.method? m = some meth := X.method'
  have hn : narrow .int (.int z) = .int z := rfl
  show Steps p.tables e below (T.setTop { method := m, pc := pc, locals := Ls, stack := _ :: rest, locked := none }) _
  jvm_step X.here [X.here.top, hx, hd, hm', hret, hn]
  first | (intro acts; rw [hl _ acts rfl rfl rfl]) | rw [hl _ _ rfl rfl rfl]
  exact Steps.refl _
end New
end Jvm.RoadKit
namespace Jvm.Pilot.@@N@@
open Jvm Jvm.ClassFile Sem Op Lib Jvm.Free Jvm.Stand Jvm.LawKit Jvm.RoadKit Bundle Jvm.Pilot.@@N@@.Jvm.D
theorem d1_0 : decode prog_14_method_2_code 0 = .ok (.iload_n 0, 1) := by decide +kernel
theorem d1_1 : decode prog_14_method_2_code 1 = .ok (.bipush 44, 2) := by decide +kernel
theorem d1_3 : decode prog_14_method_2_code 3 = .ok (.if_icmp .eq 19, 3) := by decide +kernel
theorem d1_6 : decode prog_14_method_2_code 6 = .ok (.iload_n 0, 1) := by decide +kernel
theorem d1_7 : decode prog_14_method_2_code 7 = .ok (.bipush 10, 2) := by decide +kernel
theorem d1_9 : decode prog_14_method_2_code 9 = .ok (.if_icmp .eq 13, 3) := by decide +kernel
theorem d1_12 : decode prog_14_method_2_code 12 = .ok (.iload_n 0, 1) := by decide +kernel
theorem d1_13 : decode prog_14_method_2_code 13 = .ok (.bipush 34, 2) := by decide +kernel
theorem d1_15 : decode prog_14_method_2_code 15 = .ok (.if_icmp .ne 11, 3) := by decide +kernel
theorem d1_18 : decode prog_14_method_2_code 18 = .ok (.iload_n 1, 1) := by decide +kernel
theorem d1_19 : decode prog_14_method_2_code 19 = .ok (.ifCond .eq 7, 3) := by decide +kernel
theorem d1_22 : decode prog_14_method_2_code 22 = .ok (.iconst 1, 1) := by decide +kernel
theorem d1_23 : decode prog_14_method_2_code 23 = .ok (.goto 4, 3) := by decide +kernel
theorem d1_26 : decode prog_14_method_2_code 26 = .ok (.iconst 0, 1) := by decide +kernel
theorem d1_27 : decode prog_14_method_2_code 27 = .ok (.ireturn, 1) := by decide +kernel
theorem pn_1 : plainName "com/example/cistern/cistern/io/CsvReader" = true := by first | (simp [plainName, overriddenIn]; done) | decide +kernel
theorem ef_1 (m : MethodId) (x0 : Int32) (x1 : Int32) : entryFrame m #[(.int x0), (.int x1)] 2 = mkF m 0 #[.val (.int x0), .val (.int x1)] [] := by first | (simp [entryFrame, mkF, argsToLocals, Value.category]; done) | rfl
def f1 (p0 : Int32) (p1 : Int32) : Int32 :=
  if p0 = (44 : Int32) then ((1 : Int32)) else
  (if p0 = (10 : Int32) then ((1 : Int32)) else
  (if p0 = (34 : Int32) then (if p1 = (0 : Int32) then ((0 : Int32)) else
  ((1 : Int32))) else
  ((0 : Int32))))
def Q1 (Z : State) (p0 : Int32) (p1 : Int32) (h0 : Heap) (n0 : Nat) (v : Option Value) (h : Heap) (L : List Loc) : Prop := v = some (.int (f1 p0 p1)) ∧ Fr n0 L ∧ h = h0
set_option maxRecDepth 65536 in
set_option maxHeartbeats 40000000 in
theorem rm1 (l : Launch) (Z : State) (a0 : Array Value) (hw : ∀ d ∈ tables_1, d.before a0 Z = true) (ws : List Jvm.Cond) (p0 : Int32) (p1 : Int32) (h0 : Heap) (n0 : Nat) (Z0 : n0 ≤ h0.size) :
    MetFree l (⟨"com/example/cistern/cistern/io/CsvReader", "opensField", "(BZ)Z"⟩ : MethodName) (head1 (Jvm.Cond.code (⟨"com/example/cistern/cistern/io/CsvReader", "opensField", "(BZ)Z"⟩ : MethodName) prog_14_method_2_code 2 (some .boolean) :: ws) ({ frames := 0, cells := 0, slots := 0, locals := 0 } : Room)) (fun a U => a = #[(.int p0), (.int p1)] ∧ Z.Warmed39 U.vm ∧ U.heap = h0) (fun _ _ _ _ _ => True) (fun _ U o U' => ∃ v L, o = .returned v ∧ Q1 Z p0 p1 h0 n0 v U'.heap L ∧ FrameEnd U o U' L ({ frames := 0, cells := 0, slots := 0, locals := 0 } : Room).cells ({ frames := 0, cells := 0, slots := 0, locals := 0 } : Room).slots) := by
  refine MetFree.of_bodySF (plainFor_of_name pn_1) hisR ?_
  intro p e s m args below meth c s₁ Bd hml0 hP hK
  obtain ⟨rfl, hZ, hh⟩ := hP
  have hx := Bd.exec
  have hby := Bd.bytes
  have hml : c.maxLocals = 2 := hml0
  have hown : s.vm.findClass "com/example/cistern/cistern/io/CsvReader" = some m.cls := findClass_of_methodNamed Bd.named
  have hnm := (name_of_methodNamed Bd.named Bd.method).1
  have X0 : Stand p l e ({ frames := 0, cells := 0, slots := 0, locals := 0 } : Room) s m #[(.int p0), (.int p1)] below meth c s₁ [] 0 0 := Stand.of_body Bd
  have e0 : s₁.heap = h0 := by rw [← hh, Bd.state]; rfl
  have N0 := Fr.nil n0
  have pre0 : ∀ t, Steps p.tables e below (s₁.setTop (mkF m 0 #[.val (.int p0), .val (.int p1)] [])) t → Steps p.tables e below (s₁.setTop (entryFrame m #[(.int p0), (.int p1)] 2)) t := fun t k => castTop (ef_1 m p0 p1) k
  have pre1 : ∀ t, Steps p.tables e below (s₁.setTop (mkF m 3 #[.val (.int p0), .val (.int p1)] [(.int (44 : Int32)), (.int p0)])) t → Steps p.tables e below (s₁.setTop (entryFrame m #[(.int p0), (.int p1)] 2)) t := fun t kt => pre0 t (by
      show Steps p.tables e below (s₁.setTop (mkF m 0 #[.val (.int p0), .val (.int p1)] [])) _
      refine XS.iloadN X0.here hx rfl (hb hby d1_0) rfl ?_
      show Steps p.tables e below (s₁.setTop (mkF m 1 #[.val (.int p0), .val (.int p1)] [(.int p0)])) _
      refine XS.bipush X0.here hx rfl (hb hby d1_1) ?_
      exact kt)
  by_cases hc3_2 : p0 = (44 : Int32)
  · obtain ⟨fs, hr, hrun, hended, hW, hsame⟩ := X0.leave (v := some (.int (1 : Int32))) (fun h => by rw [Bd.returns] at h; cases h)
    have hv9 : (f1 p0 p1) = (1 : Int32) := by rw [f1, if_pos hc3_2]
    refine ⟨_, _, pre1 _ ?_, hrun, hended, _, _, rfl, ?_, ⟨_, rfl⟩, hW, hsame.mono (by decide) (by decide)⟩
    · show Steps p.tables e below (s₁.setTop (mkF m 3 #[.val (.int p0), .val (.int p1)] [(.int (44 : Int32)), (.int p0)])) _
      refine XS.icmpYes X0.here hx rfl (pc0 := 3) (pc' := 22) rfl (hb hby d1_3) rfl (teq hc3_2).1 (by decide) (by decide) ?_
      show Steps p.tables e below (s₁.setTop (mkF m 22 #[.val (.int p0), .val (.int p1)] [])) _
      refine XS.iconst X0.here hx rfl (hb hby d1_22) ?_
      show Steps p.tables e below (s₁.setTop (mkF m 23 #[.val (.int p0), .val (.int p1)] [(.int (1 : Int32))])) _
      refine XS.goto X0.here hx rfl (pc0 := 23) (pc' := 27) rfl (hb hby d1_23) (by decide) (by decide) ?_
      show Steps p.tables e below (s₁.setTop (mkF m 27 #[.val (.int p0), .val (.int p1)] [(.int (1 : Int32))])) _
      exact retN X0 hx (t := .boolean) Bd.returns (by simp) (hb hby d1_27) hr
    · show Q1 Z p0 p1 h0 n0 _ s₁.heap _
      rw [e0]
      exact ⟨congrArg (fun q => some (Value.int q)) hv9.symm, N0, rfl⟩
  · have pre3 : ∀ t, Steps p.tables e below (s₁.setTop (mkF m 9 #[.val (.int p0), .val (.int p1)] [(.int (10 : Int32)), (.int p0)])) t → Steps p.tables e below (s₁.setTop (entryFrame m #[(.int p0), (.int p1)] 2)) t := fun t kt => pre1 t (by
        show Steps p.tables e below (s₁.setTop (mkF m 3 #[.val (.int p0), .val (.int p1)] [(.int (44 : Int32)), (.int p0)])) _
        refine XS.icmpNo X0.here hx rfl (hb hby d1_3) rfl (feq hc3_2).1 ?_
        show Steps p.tables e below (s₁.setTop (mkF m 6 #[.val (.int p0), .val (.int p1)] [])) _
        refine XS.iloadN X0.here hx rfl (hb hby d1_6) rfl ?_
        show Steps p.tables e below (s₁.setTop (mkF m 7 #[.val (.int p0), .val (.int p1)] [(.int p0)])) _
        refine XS.bipush X0.here hx rfl (hb hby d1_7) ?_
        exact kt)
    by_cases hc9_4 : p0 = (10 : Int32)
    · obtain ⟨fs, hr, hrun, hended, hW, hsame⟩ := X0.leave (v := some (.int (1 : Int32))) (fun h => by rw [Bd.returns] at h; cases h)
      have hv10 : (f1 p0 p1) = (1 : Int32) := by rw [f1, if_neg hc3_2, if_pos hc9_4]
      refine ⟨_, _, pre3 _ ?_, hrun, hended, _, _, rfl, ?_, ⟨_, rfl⟩, hW, hsame.mono (by decide) (by decide)⟩
      · show Steps p.tables e below (s₁.setTop (mkF m 9 #[.val (.int p0), .val (.int p1)] [(.int (10 : Int32)), (.int p0)])) _
        refine XS.icmpYes X0.here hx rfl (pc0 := 9) (pc' := 22) rfl (hb hby d1_9) rfl (teq hc9_4).1 (by decide) (by decide) ?_
        show Steps p.tables e below (s₁.setTop (mkF m 22 #[.val (.int p0), .val (.int p1)] [])) _
        refine XS.iconst X0.here hx rfl (hb hby d1_22) ?_
        show Steps p.tables e below (s₁.setTop (mkF m 23 #[.val (.int p0), .val (.int p1)] [(.int (1 : Int32))])) _
        refine XS.goto X0.here hx rfl (pc0 := 23) (pc' := 27) rfl (hb hby d1_23) (by decide) (by decide) ?_
        show Steps p.tables e below (s₁.setTop (mkF m 27 #[.val (.int p0), .val (.int p1)] [(.int (1 : Int32))])) _
        exact retN X0 hx (t := .boolean) Bd.returns (by simp) (hb hby d1_27) hr
      · show Q1 Z p0 p1 h0 n0 _ s₁.heap _
        rw [e0]
        exact ⟨congrArg (fun q => some (Value.int q)) hv10.symm, N0, rfl⟩
    · have pre5 : ∀ t, Steps p.tables e below (s₁.setTop (mkF m 15 #[.val (.int p0), .val (.int p1)] [(.int (34 : Int32)), (.int p0)])) t → Steps p.tables e below (s₁.setTop (entryFrame m #[(.int p0), (.int p1)] 2)) t := fun t kt => pre3 t (by
          show Steps p.tables e below (s₁.setTop (mkF m 9 #[.val (.int p0), .val (.int p1)] [(.int (10 : Int32)), (.int p0)])) _
          refine XS.icmpNo X0.here hx rfl (hb hby d1_9) rfl (feq hc9_4).1 ?_
          show Steps p.tables e below (s₁.setTop (mkF m 12 #[.val (.int p0), .val (.int p1)] [])) _
          refine XS.iloadN X0.here hx rfl (hb hby d1_12) rfl ?_
          show Steps p.tables e below (s₁.setTop (mkF m 13 #[.val (.int p0), .val (.int p1)] [(.int p0)])) _
          refine XS.bipush X0.here hx rfl (hb hby d1_13) ?_
          exact kt)
      by_cases hc15_6 : p0 = (34 : Int32)
      · have pre7 : ∀ t, Steps p.tables e below (s₁.setTop (mkF m 19 #[.val (.int p0), .val (.int p1)] [(.int p1)])) t → Steps p.tables e below (s₁.setTop (entryFrame m #[(.int p0), (.int p1)] 2)) t := fun t kt => pre5 t (by
            show Steps p.tables e below (s₁.setTop (mkF m 15 #[.val (.int p0), .val (.int p1)] [(.int (34 : Int32)), (.int p0)])) _
            refine XS.icmpNo X0.here hx rfl (hb hby d1_15) rfl (teq hc15_6).2 ?_
            show Steps p.tables e below (s₁.setTop (mkF m 18 #[.val (.int p0), .val (.int p1)] [])) _
            refine XS.iloadN X0.here hx rfl (hb hby d1_18) rfl ?_
            exact kt)
        by_cases hc19_8 : p1 = (0 : Int32)
        · obtain ⟨fs, hr, hrun, hended, hW, hsame⟩ := X0.leave (v := some (.int (0 : Int32))) (fun h => by rw [Bd.returns] at h; cases h)
          have hv11 : (f1 p0 p1) = (0 : Int32) := by rw [f1, if_neg hc3_2, if_neg hc9_4, if_pos hc15_6, if_pos hc19_8]
          refine ⟨_, _, pre7 _ ?_, hrun, hended, _, _, rfl, ?_, ⟨_, rfl⟩, hW, hsame.mono (by decide) (by decide)⟩
          · show Steps p.tables e below (s₁.setTop (mkF m 19 #[.val (.int p0), .val (.int p1)] [(.int p1)])) _
            refine XS.ifYes X0.here hx rfl (pc0 := 19) (pc' := 26) rfl (hb hby d1_19) rfl ((if0 _ _).trans (teq hc19_8).1) (by decide) (by decide) ?_
            show Steps p.tables e below (s₁.setTop (mkF m 26 #[.val (.int p0), .val (.int p1)] [])) _
            refine XS.iconst X0.here hx rfl (hb hby d1_26) ?_
            show Steps p.tables e below (s₁.setTop (mkF m 27 #[.val (.int p0), .val (.int p1)] [(.int (0 : Int32))])) _
            exact retN X0 hx (t := .boolean) Bd.returns (by simp) (hb hby d1_27) hr
          · show Q1 Z p0 p1 h0 n0 _ s₁.heap _
            rw [e0]
            exact ⟨congrArg (fun q => some (Value.int q)) hv11.symm, N0, rfl⟩
        · obtain ⟨fs, hr, hrun, hended, hW, hsame⟩ := X0.leave (v := some (.int (1 : Int32))) (fun h => by rw [Bd.returns] at h; cases h)
          have hv12 : (f1 p0 p1) = (1 : Int32) := by rw [f1, if_neg hc3_2, if_neg hc9_4, if_pos hc15_6, if_neg hc19_8]
          refine ⟨_, _, pre7 _ ?_, hrun, hended, _, _, rfl, ?_, ⟨_, rfl⟩, hW, hsame.mono (by decide) (by decide)⟩
          · show Steps p.tables e below (s₁.setTop (mkF m 19 #[.val (.int p0), .val (.int p1)] [(.int p1)])) _
            refine XS.ifNo X0.here hx rfl (hb hby d1_19) rfl ((if0 _ _).trans (feq hc19_8).1) ?_
            show Steps p.tables e below (s₁.setTop (mkF m 22 #[.val (.int p0), .val (.int p1)] [])) _
            refine XS.iconst X0.here hx rfl (hb hby d1_22) ?_
            show Steps p.tables e below (s₁.setTop (mkF m 23 #[.val (.int p0), .val (.int p1)] [(.int (1 : Int32))])) _
            refine XS.goto X0.here hx rfl (pc0 := 23) (pc' := 27) rfl (hb hby d1_23) (by decide) (by decide) ?_
            show Steps p.tables e below (s₁.setTop (mkF m 27 #[.val (.int p0), .val (.int p1)] [(.int (1 : Int32))])) _
            exact retN X0 hx (t := .boolean) Bd.returns (by simp) (hb hby d1_27) hr
          · show Q1 Z p0 p1 h0 n0 _ s₁.heap _
            rw [e0]
            exact ⟨congrArg (fun q => some (Value.int q)) hv12.symm, N0, rfl⟩
      · obtain ⟨fs, hr, hrun, hended, hW, hsame⟩ := X0.leave (v := some (.int (0 : Int32))) (fun h => by rw [Bd.returns] at h; cases h)
        have hv13 : (f1 p0 p1) = (0 : Int32) := by rw [f1, if_neg hc3_2, if_neg hc9_4, if_neg hc15_6]
        refine ⟨_, _, pre5 _ ?_, hrun, hended, _, _, rfl, ?_, ⟨_, rfl⟩, hW, hsame.mono (by decide) (by decide)⟩
        · show Steps p.tables e below (s₁.setTop (mkF m 15 #[.val (.int p0), .val (.int p1)] [(.int (34 : Int32)), (.int p0)])) _
          refine XS.icmpYes X0.here hx rfl (pc0 := 15) (pc' := 26) rfl (hb hby d1_15) rfl (feq hc15_6).2 (by decide) (by decide) ?_
          show Steps p.tables e below (s₁.setTop (mkF m 26 #[.val (.int p0), .val (.int p1)] [])) _
          refine XS.iconst X0.here hx rfl (hb hby d1_26) ?_
          show Steps p.tables e below (s₁.setTop (mkF m 27 #[.val (.int p0), .val (.int p1)] [(.int (0 : Int32))])) _
          exact retN X0 hx (t := .boolean) Bd.returns (by simp) (hb hby d1_27) hr
        · show Q1 Z p0 p1 h0 n0 _ s₁.heap _
          rw [e0]
          exact ⟨congrArg (fun q => some (Value.int q)) hv13.symm, N0, rfl⟩
theorem pn_0 : plainName "com/example/cistern/cistern/io/CsvReaderOpensFieldPinLaw" = true := by first | (simp [plainName, overriddenIn]; done) | decide +kernel
theorem pd_0_0 : parseMethodDescriptor "(BZ)Z" = some ⟨[.byte, .boolean], some .boolean⟩ := by decide +kernel
theorem ef_0 (m : MethodId) (x0 : Int32) (x1 : Int32) : entryFrame m #[(.int x0), (.int x1)] maxLocals = mkF m 0 #[.val (.int x0), .val (.int x1), .unset, .unset, .unset, .unset, .unset] [] := by first | (simp [entryFrame, mkF, argsToLocals, Value.category, maxLocals]; done) | rfl
def f0 (p0 : Int32) (p1 : Int32) : Int32 :=
  if (p1 &&& (1 : Int32)) = (0 : Int32) then (if ((p0.toInt8.toInt32) &&& (255 : Int32)) = (44 : Int32) then (if (f1 (p0.toInt8.toInt32) (0 : Int32)) = (1 : Int32) then ((1 : Int32)) else
  ((0 : Int32))) else
  (if ((p0.toInt8.toInt32) &&& (255 : Int32)) = (10 : Int32) then (if (f1 (p0.toInt8.toInt32) (0 : Int32)) = (1 : Int32) then ((1 : Int32)) else
  ((0 : Int32))) else
  (if ((p0.toInt8.toInt32) &&& (255 : Int32)) = (34 : Int32) then (if (f1 (p0.toInt8.toInt32) (0 : Int32)) = (0 : Int32) then ((1 : Int32)) else
  ((0 : Int32))) else
  (if (f1 (p0.toInt8.toInt32) (0 : Int32)) = (0 : Int32) then ((1 : Int32)) else
  ((0 : Int32)))))) else
  (if ((p0.toInt8.toInt32) &&& (255 : Int32)) = (44 : Int32) then (if (f1 (p0.toInt8.toInt32) (1 : Int32)) = (1 : Int32) then ((1 : Int32)) else
  ((0 : Int32))) else
  (if ((p0.toInt8.toInt32) &&& (255 : Int32)) = (10 : Int32) then (if (f1 (p0.toInt8.toInt32) (1 : Int32)) = (1 : Int32) then ((1 : Int32)) else
  ((0 : Int32))) else
  (if ((p0.toInt8.toInt32) &&& (255 : Int32)) = (34 : Int32) then (if (f1 (p0.toInt8.toInt32) (1 : Int32)) = (1 : Int32) then ((1 : Int32)) else
  ((0 : Int32))) else
  (if (f1 (p0.toInt8.toInt32) (1 : Int32)) = (0 : Int32) then ((1 : Int32)) else
  ((0 : Int32))))))
theorem own_law (p0 p1 : Int32) : f0 p0 p1 = 1 := by
  have h1 := c_i2b p0
  unfold f0 f1
  generalize p0.toInt8.toInt32 = b at h1
  have h2 : (b &&& 255).toInt = b.toInt % 256 := c_mask b 255 8 (by decide) (by decide)
  have k44 : (b &&& 255) = 44 ↔ b = 44 := by
    rw [← Int32.toInt_inj, ← Int32.toInt_inj, h2]
    have e : (44 : Int32).toInt = 44 := by decide
    rw [e]; omega
  have k10 : (b &&& 255) = 10 ↔ b = 10 := by
    rw [← Int32.toInt_inj, ← Int32.toInt_inj, h2]
    have e : (10 : Int32).toInt = 10 := by decide
    rw [e]; omega
  have k34 : (b &&& 255) = 34 ↔ b = 34 := by
    rw [← Int32.toInt_inj, ← Int32.toInt_inj, h2]
    have e : (34 : Int32).toInt = 34 := by decide
    rw [e]; omega
  simp only [k44, k10, k34]
  by_cases a : (p1 &&& 1) = 0 <;> by_cases c : b = 44 <;> by_cases d : b = 10 <;> by_cases e : b = 34 <;> simp [a, c, d, e]
def Q0 (Z : State) (p0 : Int32) (p1 : Int32) (h0 : Heap) (n0 : Nat) (v : Option Value) (h : Heap) (L : List Loc) : Prop := v = some (.int (f0 p0 p1)) ∧ Fr n0 L
set_option maxRecDepth 65536 in
set_option maxHeartbeats 40000000 in
theorem rm0 (l : Launch) (Z : State) (a0 : Array Value) (hw : ∀ d ∈ tables_1, d.before a0 Z = true) (ws : List Jvm.Cond) (p0 : Int32) (p1 : Int32) (h0 : Heap) (n0 : Nat) (Z0 : n0 ≤ h0.size) :
    MetFree l x (head1 (Jvm.Cond.code x code maxLocals ret :: ws) room_1) (fun a U => a = #[(.int p0), (.int p1)] ∧ Z.Warmed39 U.vm ∧ U.heap = h0) (fun _ _ _ _ _ => True) (fun _ U o U' => ∃ v L, o = .returned v ∧ Q0 Z p0 p1 h0 n0 v U'.heap L ∧ FrameEnd U o U' L room_1.cells room_1.slots) := by
  refine MetFree.of_bodySF (plainFor_of_name pn_0) hisR ?_
  intro p e s m args below meth c s₁ Bd hml0 hP hK
  obtain ⟨rfl, hZ, hh⟩ := hP
  have hx := Bd.exec
  have hby := Bd.bytes
  have hml : c.maxLocals = 7 := hml0
  have hown : s.vm.findClass "com/example/cistern/cistern/io/CsvReaderOpensFieldPinLaw" = some m.cls := findClass_of_methodNamed Bd.named
  have hnm := (name_of_methodNamed Bd.named Bd.method).1
  have X0 : Stand p l e room_1 s m #[(.int p0), (.int p1)] below meth c s₁ [] 0 0 := Stand.of_body Bd
  have e0 : s₁.heap = h0 := by rw [← hh, Bd.state]; rfl
  have N0 := Fr.nil n0
  have pre0 : ∀ t, Steps p.tables e below (s₁.setTop (mkF m 0 #[.val (.int p0), .val (.int p1), .unset, .unset, .unset, .unset, .unset] [])) t → Steps p.tables e below (s₁.setTop (entryFrame m #[(.int p0), (.int p1)] maxLocals)) t := fun t k => castTop (ef_0 m p0 p1) k
  have pre1 : ∀ t, Steps p.tables e below (s₁.setTop (mkF m 6 #[.val (.int p0), .val (.int p1), .val (.int (p0.toInt8.toInt32)), .unset, .unset, .unset, .unset] [(.int (p1 &&& (1 : Int32)))])) t → Steps p.tables e below (s₁.setTop (entryFrame m #[(.int p0), (.int p1)] maxLocals)) t := fun t kt => pre0 t (by
      show Steps p.tables e below (s₁.setTop (mkF m 0 #[.val (.int p0), .val (.int p1), .unset, .unset, .unset, .unset, .unset] [])) _
      refine XS.iloadN X0.here hx rfl (hb hby at_0) rfl ?_
      show Steps p.tables e below (s₁.setTop (mkF m 1 #[.val (.int p0), .val (.int p1), .unset, .unset, .unset, .unset, .unset] [(.int p0)])) _
      refine XS.i2b X0.here hx rfl (hb hby at_1) rfl ?_
      show Steps p.tables e below (s₁.setTop (mkF m 2 #[.val (.int p0), .val (.int p1), .unset, .unset, .unset, .unset, .unset] [(.int (p0.toInt8.toInt32))])) _
      refine XS.istoreN X0.here hx rfl (hb hby at_2) rfl (l' := #[.val (.int p0), .val (.int p1), .val (.int (p0.toInt8.toInt32)), .unset, .unset, .unset, .unset]) rfl ?_
      show Steps p.tables e below (s₁.setTop (mkF m 3 #[.val (.int p0), .val (.int p1), .val (.int (p0.toInt8.toInt32)), .unset, .unset, .unset, .unset] [])) _
      refine XS.iloadN X0.here hx rfl (hb hby at_3) rfl ?_
      show Steps p.tables e below (s₁.setTop (mkF m 4 #[.val (.int p0), .val (.int p1), .val (.int (p0.toInt8.toInt32)), .unset, .unset, .unset, .unset] [(.int p1)])) _
      refine XS.iconst X0.here hx rfl (hb hby at_4) ?_
      show Steps p.tables e below (s₁.setTop (mkF m 5 #[.val (.int p0), .val (.int p1), .val (.int (p0.toInt8.toInt32)), .unset, .unset, .unset, .unset] [(.int (1 : Int32)), (.int p1)])) _
      refine XS.iand X0.here hx rfl (hb hby at_5) rfl ?_
      exact kt)
  by_cases hc6_2 : (p1 &&& (1 : Int32)) = (0 : Int32)
  · obtain ⟨_, _, ⟨T3, L3, k3, n3⟩, -, X3, ⟨Lc3, hQ3, l3, y3, z3⟩, st3⟩ := Jvm.LawKit.callS X0 hx (y := (⟨"com/example/cistern/cistern/io/CsvReader", "opensField", "(BZ)Z"⟩ : MethodName)) hown (mvT hZ (hw _ (List.mem_of_getElem? (i := 0) rfl))) (mvT hZ (hw _ (List.mem_of_getElem? (i := 1) rfl))) (mvT hZ (hw _ (List.mem_of_getElem? (i := 2) rfl))) (mvT hZ (hw _ (List.mem_of_getElem? (i := 3) rfl))) (by decide) (backOf (W := 0) (rm1 l Z a0 hw [] (p0.toInt8.toInt32) (0 : Int32) h0 n0 Z0 ) hZ (hw _ (List.mem_of_getElem? (i := 3) rfl)) (hw _ (List.mem_of_getElem? (i := 2) rfl)) (by decide) (by decide)) (g := (mkF m 17 #[.val (.int p0), .val (.int p1), .val (.int (p0.toInt8.toInt32)), .val (.int (0 : Int32)), .unset, .unset, .unset] [(.int (0 : Int32)), (.int (p0.toInt8.toInt32))])) rfl (by rw [hml]; rfl) (argsL := [(.int (p0.toInt8.toInt32)), (.int (0 : Int32))]) (rest := []) (lenOf pd_0_0 rfl) rfl (by show 2 * 0 + _ ≤ _; exact Nat.le_of_eq rfl) (hb hby at_17) (fun _ _ => ⟨rfl, e0, (by decide : 0 + 0 ≤ _), (by decide : 0 + 0 ≤ _)⟩)
    dsimp only [Pt.U, Pt.locs, Pt.cells, Pt.slots] at X3 l3 y3 z3 st3 hQ3
    subst l3 y3 z3
    obtain ⟨rfl, N3q, e3q⟩ := hQ3
    have N3 := Fr.app N0 N3q
    have pre4 : ∀ t, Steps p.tables e below (T3.setTop (mkF m 33 #[.val (.int p0), .val (.int p1), .val (.int (p0.toInt8.toInt32)), .val (.int (0 : Int32)), .val (.int (f1 (p0.toInt8.toInt32) (0 : Int32))), .val (.int ((p0.toInt8.toInt32) &&& (255 : Int32))), .unset] [(.int (44 : Int32)), (.int ((p0.toInt8.toInt32) &&& (255 : Int32)))])) t → Steps p.tables e below (s₁.setTop (entryFrame m #[(.int p0), (.int p1)] maxLocals)) t := fun t kt => pre1 t (by
        show Steps p.tables e below (s₁.setTop (mkF m 6 #[.val (.int p0), .val (.int p1), .val (.int (p0.toInt8.toInt32)), .unset, .unset, .unset, .unset] [(.int (p1 &&& (1 : Int32)))])) _
        refine XS.ifYes X0.here hx rfl (pc0 := 6) (pc' := 13) rfl (hb hby at_6) rfl ((if0 _ _).trans (teq hc6_2).1) (by decide) (by decide) ?_
        show Steps p.tables e below (s₁.setTop (mkF m 13 #[.val (.int p0), .val (.int p1), .val (.int (p0.toInt8.toInt32)), .unset, .unset, .unset, .unset] [])) _
        refine XS.iconst X0.here hx rfl (hb hby at_13) ?_
        show Steps p.tables e below (s₁.setTop (mkF m 14 #[.val (.int p0), .val (.int p1), .val (.int (p0.toInt8.toInt32)), .unset, .unset, .unset, .unset] [(.int (0 : Int32))])) _
        refine XS.istoreN X0.here hx rfl (hb hby at_14) rfl (l' := #[.val (.int p0), .val (.int p1), .val (.int (p0.toInt8.toInt32)), .val (.int (0 : Int32)), .unset, .unset, .unset]) rfl ?_
        show Steps p.tables e below (s₁.setTop (mkF m 15 #[.val (.int p0), .val (.int p1), .val (.int (p0.toInt8.toInt32)), .val (.int (0 : Int32)), .unset, .unset, .unset] [])) _
        refine XS.iloadN X0.here hx rfl (hb hby at_15) rfl ?_
        show Steps p.tables e below (s₁.setTop (mkF m 16 #[.val (.int p0), .val (.int p1), .val (.int (p0.toInt8.toInt32)), .val (.int (0 : Int32)), .unset, .unset, .unset] [(.int (p0.toInt8.toInt32))])) _
        refine XS.iloadN X0.here hx rfl (hb hby at_16) rfl ?_
        show Steps p.tables e below (s₁.setTop (mkF m 17 #[.val (.int p0), .val (.int p1), .val (.int (p0.toInt8.toInt32)), .val (.int (0 : Int32)), .unset, .unset, .unset] [(.int (0 : Int32)), (.int (p0.toInt8.toInt32))])) _
        refine st3 _ ?_
        show Steps p.tables e below (T3.setTop (mkF m 20 #[.val (.int p0), .val (.int p1), .val (.int (p0.toInt8.toInt32)), .val (.int (0 : Int32)), .unset, .unset, .unset] [(.int (f1 (p0.toInt8.toInt32) (0 : Int32)))])) _
        refine XS.istore X3.here hx rfl (hb hby at_20) rfl (l' := #[.val (.int p0), .val (.int p1), .val (.int (p0.toInt8.toInt32)), .val (.int (0 : Int32)), .val (.int (f1 (p0.toInt8.toInt32) (0 : Int32))), .unset, .unset]) rfl ?_
        show Steps p.tables e below (T3.setTop (mkF m 22 #[.val (.int p0), .val (.int p1), .val (.int (p0.toInt8.toInt32)), .val (.int (0 : Int32)), .val (.int (f1 (p0.toInt8.toInt32) (0 : Int32))), .unset, .unset] [])) _
        refine XS.iloadN X3.here hx rfl (hb hby at_22) rfl ?_
        show Steps p.tables e below (T3.setTop (mkF m 23 #[.val (.int p0), .val (.int p1), .val (.int (p0.toInt8.toInt32)), .val (.int (0 : Int32)), .val (.int (f1 (p0.toInt8.toInt32) (0 : Int32))), .unset, .unset] [(.int (p0.toInt8.toInt32))])) _
        refine XS.sipush X3.here hx rfl (hb hby at_23) ?_
        show Steps p.tables e below (T3.setTop (mkF m 26 #[.val (.int p0), .val (.int p1), .val (.int (p0.toInt8.toInt32)), .val (.int (0 : Int32)), .val (.int (f1 (p0.toInt8.toInt32) (0 : Int32))), .unset, .unset] [(.int (255 : Int32)), (.int (p0.toInt8.toInt32))])) _
        refine XS.iand X3.here hx rfl (hb hby at_26) rfl ?_
        show Steps p.tables e below (T3.setTop (mkF m 27 #[.val (.int p0), .val (.int p1), .val (.int (p0.toInt8.toInt32)), .val (.int (0 : Int32)), .val (.int (f1 (p0.toInt8.toInt32) (0 : Int32))), .unset, .unset] [(.int ((p0.toInt8.toInt32) &&& (255 : Int32)))])) _
        refine XS.istore X3.here hx rfl (hb hby at_27) rfl (l' := #[.val (.int p0), .val (.int p1), .val (.int (p0.toInt8.toInt32)), .val (.int (0 : Int32)), .val (.int (f1 (p0.toInt8.toInt32) (0 : Int32))), .val (.int ((p0.toInt8.toInt32) &&& (255 : Int32))), .unset]) rfl ?_
        show Steps p.tables e below (T3.setTop (mkF m 29 #[.val (.int p0), .val (.int p1), .val (.int (p0.toInt8.toInt32)), .val (.int (0 : Int32)), .val (.int (f1 (p0.toInt8.toInt32) (0 : Int32))), .val (.int ((p0.toInt8.toInt32) &&& (255 : Int32))), .unset] [])) _
        refine XS.iload X3.here hx rfl (hb hby at_29) rfl ?_
        show Steps p.tables e below (T3.setTop (mkF m 31 #[.val (.int p0), .val (.int p1), .val (.int (p0.toInt8.toInt32)), .val (.int (0 : Int32)), .val (.int (f1 (p0.toInt8.toInt32) (0 : Int32))), .val (.int ((p0.toInt8.toInt32) &&& (255 : Int32))), .unset] [(.int ((p0.toInt8.toInt32) &&& (255 : Int32)))])) _
        refine XS.bipush X3.here hx rfl (hb hby at_31) ?_
        exact kt)
    by_cases hc33_5 : ((p0.toInt8.toInt32) &&& (255 : Int32)) = (44 : Int32)
    · have pre6 : ∀ t, Steps p.tables e below (T3.setTop (mkF m 75 #[.val (.int p0), .val (.int p1), .val (.int (p0.toInt8.toInt32)), .val (.int (0 : Int32)), .val (.int (f1 (p0.toInt8.toInt32) (0 : Int32))), .val (.int ((p0.toInt8.toInt32) &&& (255 : Int32))), .val (.int (1 : Int32))] [(.int (1 : Int32)), (.int (f1 (p0.toInt8.toInt32) (0 : Int32)))])) t → Steps p.tables e below (s₁.setTop (entryFrame m #[(.int p0), (.int p1)] maxLocals)) t := fun t kt => pre4 t (by
          show Steps p.tables e below (T3.setTop (mkF m 33 #[.val (.int p0), .val (.int p1), .val (.int (p0.toInt8.toInt32)), .val (.int (0 : Int32)), .val (.int (f1 (p0.toInt8.toInt32) (0 : Int32))), .val (.int ((p0.toInt8.toInt32) &&& (255 : Int32))), .unset] [(.int (44 : Int32)), (.int ((p0.toInt8.toInt32) &&& (255 : Int32)))])) _
          refine XS.icmpNo X3.here hx rfl (hb hby at_33) rfl (teq hc33_5).2 ?_
          show Steps p.tables e below (T3.setTop (mkF m 36 #[.val (.int p0), .val (.int p1), .val (.int (p0.toInt8.toInt32)), .val (.int (0 : Int32)), .val (.int (f1 (p0.toInt8.toInt32) (0 : Int32))), .val (.int ((p0.toInt8.toInt32) &&& (255 : Int32))), .unset] [])) _
          refine XS.iconst X3.here hx rfl (hb hby at_36) ?_
          show Steps p.tables e below (T3.setTop (mkF m 37 #[.val (.int p0), .val (.int p1), .val (.int (p0.toInt8.toInt32)), .val (.int (0 : Int32)), .val (.int (f1 (p0.toInt8.toInt32) (0 : Int32))), .val (.int ((p0.toInt8.toInt32) &&& (255 : Int32))), .unset] [(.int (1 : Int32))])) _
          refine XS.istore X3.here hx rfl (hb hby at_37) rfl (l' := #[.val (.int p0), .val (.int p1), .val (.int (p0.toInt8.toInt32)), .val (.int (0 : Int32)), .val (.int (f1 (p0.toInt8.toInt32) (0 : Int32))), .val (.int ((p0.toInt8.toInt32) &&& (255 : Int32))), .val (.int (1 : Int32))]) rfl ?_
          show Steps p.tables e below (T3.setTop (mkF m 39 #[.val (.int p0), .val (.int p1), .val (.int (p0.toInt8.toInt32)), .val (.int (0 : Int32)), .val (.int (f1 (p0.toInt8.toInt32) (0 : Int32))), .val (.int ((p0.toInt8.toInt32) &&& (255 : Int32))), .val (.int (1 : Int32))] [])) _
          refine XS.goto X3.here hx rfl (pc0 := 39) (pc' := 71) rfl (hb hby at_39) (by decide) (by decide) ?_
          show Steps p.tables e below (T3.setTop (mkF m 71 #[.val (.int p0), .val (.int p1), .val (.int (p0.toInt8.toInt32)), .val (.int (0 : Int32)), .val (.int (f1 (p0.toInt8.toInt32) (0 : Int32))), .val (.int ((p0.toInt8.toInt32) &&& (255 : Int32))), .val (.int (1 : Int32))] [])) _
          refine XS.iload X3.here hx rfl (hb hby at_71) rfl ?_
          show Steps p.tables e below (T3.setTop (mkF m 73 #[.val (.int p0), .val (.int p1), .val (.int (p0.toInt8.toInt32)), .val (.int (0 : Int32)), .val (.int (f1 (p0.toInt8.toInt32) (0 : Int32))), .val (.int ((p0.toInt8.toInt32) &&& (255 : Int32))), .val (.int (1 : Int32))] [(.int (f1 (p0.toInt8.toInt32) (0 : Int32)))])) _
          refine XS.iload X3.here hx rfl (hb hby at_73) rfl ?_
          exact kt)
      by_cases hc75_7 : (f1 (p0.toInt8.toInt32) (0 : Int32)) = (1 : Int32)
      · obtain ⟨fs, hr, hrun, hended, hW, hsame⟩ := X3.leave (v := some (.int (1 : Int32))) (fun h => by rw [Bd.returns] at h; cases h)
        have hv33 : (f0 p0 p1) = (1 : Int32) := by rw [f0, if_pos hc6_2, if_pos hc33_5, if_pos hc75_7]
        refine ⟨_, _, pre6 _ ?_, hrun, hended, _, _, rfl, ?_, ⟨_, rfl⟩, hW, hsame.mono (by decide) (by decide)⟩
        · show Steps p.tables e below (T3.setTop (mkF m 75 #[.val (.int p0), .val (.int p1), .val (.int (p0.toInt8.toInt32)), .val (.int (0 : Int32)), .val (.int (f1 (p0.toInt8.toInt32) (0 : Int32))), .val (.int ((p0.toInt8.toInt32) &&& (255 : Int32))), .val (.int (1 : Int32))] [(.int (1 : Int32)), (.int (f1 (p0.toInt8.toInt32) (0 : Int32)))])) _
          refine XS.icmpNo X3.here hx rfl (hb hby at_75) rfl (teq hc75_7).2 ?_
          show Steps p.tables e below (T3.setTop (mkF m 78 #[.val (.int p0), .val (.int p1), .val (.int (p0.toInt8.toInt32)), .val (.int (0 : Int32)), .val (.int (f1 (p0.toInt8.toInt32) (0 : Int32))), .val (.int ((p0.toInt8.toInt32) &&& (255 : Int32))), .val (.int (1 : Int32))] [])) _
          refine XS.iconst X3.here hx rfl (hb hby at_78) ?_
          show Steps p.tables e below (T3.setTop (mkF m 79 #[.val (.int p0), .val (.int p1), .val (.int (p0.toInt8.toInt32)), .val (.int (0 : Int32)), .val (.int (f1 (p0.toInt8.toInt32) (0 : Int32))), .val (.int ((p0.toInt8.toInt32) &&& (255 : Int32))), .val (.int (1 : Int32))] [(.int (1 : Int32))])) _
          refine XS.goto X3.here hx rfl (pc0 := 79) (pc' := 83) rfl (hb hby at_79) (by decide) (by decide) ?_
          show Steps p.tables e below (T3.setTop (mkF m 83 #[.val (.int p0), .val (.int p1), .val (.int (p0.toInt8.toInt32)), .val (.int (0 : Int32)), .val (.int (f1 (p0.toInt8.toInt32) (0 : Int32))), .val (.int ((p0.toInt8.toInt32) &&& (255 : Int32))), .val (.int (1 : Int32))] [(.int (1 : Int32))])) _
          exact retN X3 hx (t := .boolean) Bd.returns (by simp) (hb hby at_83) hr
        · show Q0 Z p0 p1 h0 n0 _ T3.heap _
          rw [e3q]
          exact ⟨congrArg (fun q => some (Value.int q)) hv33.symm, N3⟩
      · obtain ⟨fs, hr, hrun, hended, hW, hsame⟩ := X3.leave (v := some (.int (0 : Int32))) (fun h => by rw [Bd.returns] at h; cases h)
        have hv34 : (f0 p0 p1) = (0 : Int32) := by rw [f0, if_pos hc6_2, if_pos hc33_5, if_neg hc75_7]
        refine ⟨_, _, pre6 _ ?_, hrun, hended, _, _, rfl, ?_, ⟨_, rfl⟩, hW, hsame.mono (by decide) (by decide)⟩
        · show Steps p.tables e below (T3.setTop (mkF m 75 #[.val (.int p0), .val (.int p1), .val (.int (p0.toInt8.toInt32)), .val (.int (0 : Int32)), .val (.int (f1 (p0.toInt8.toInt32) (0 : Int32))), .val (.int ((p0.toInt8.toInt32) &&& (255 : Int32))), .val (.int (1 : Int32))] [(.int (1 : Int32)), (.int (f1 (p0.toInt8.toInt32) (0 : Int32)))])) _
          refine XS.icmpYes X3.here hx rfl (pc0 := 75) (pc' := 82) rfl (hb hby at_75) rfl (feq hc75_7).2 (by decide) (by decide) ?_
          show Steps p.tables e below (T3.setTop (mkF m 82 #[.val (.int p0), .val (.int p1), .val (.int (p0.toInt8.toInt32)), .val (.int (0 : Int32)), .val (.int (f1 (p0.toInt8.toInt32) (0 : Int32))), .val (.int ((p0.toInt8.toInt32) &&& (255 : Int32))), .val (.int (1 : Int32))] [])) _
          refine XS.iconst X3.here hx rfl (hb hby at_82) ?_
          show Steps p.tables e below (T3.setTop (mkF m 83 #[.val (.int p0), .val (.int p1), .val (.int (p0.toInt8.toInt32)), .val (.int (0 : Int32)), .val (.int (f1 (p0.toInt8.toInt32) (0 : Int32))), .val (.int ((p0.toInt8.toInt32) &&& (255 : Int32))), .val (.int (1 : Int32))] [(.int (0 : Int32))])) _
          exact retN X3 hx (t := .boolean) Bd.returns (by simp) (hb hby at_83) hr
        · show Q0 Z p0 p1 h0 n0 _ T3.heap _
          rw [e3q]
          exact ⟨congrArg (fun q => some (Value.int q)) hv34.symm, N3⟩
    · have pre8 : ∀ t, Steps p.tables e below (T3.setTop (mkF m 46 #[.val (.int p0), .val (.int p1), .val (.int (p0.toInt8.toInt32)), .val (.int (0 : Int32)), .val (.int (f1 (p0.toInt8.toInt32) (0 : Int32))), .val (.int ((p0.toInt8.toInt32) &&& (255 : Int32))), .unset] [(.int (10 : Int32)), (.int ((p0.toInt8.toInt32) &&& (255 : Int32)))])) t → Steps p.tables e below (s₁.setTop (entryFrame m #[(.int p0), (.int p1)] maxLocals)) t := fun t kt => pre4 t (by
          show Steps p.tables e below (T3.setTop (mkF m 33 #[.val (.int p0), .val (.int p1), .val (.int (p0.toInt8.toInt32)), .val (.int (0 : Int32)), .val (.int (f1 (p0.toInt8.toInt32) (0 : Int32))), .val (.int ((p0.toInt8.toInt32) &&& (255 : Int32))), .unset] [(.int (44 : Int32)), (.int ((p0.toInt8.toInt32) &&& (255 : Int32)))])) _
          refine XS.icmpYes X3.here hx rfl (pc0 := 33) (pc' := 42) rfl (hb hby at_33) rfl (feq hc33_5).2 (by decide) (by decide) ?_
          show Steps p.tables e below (T3.setTop (mkF m 42 #[.val (.int p0), .val (.int p1), .val (.int (p0.toInt8.toInt32)), .val (.int (0 : Int32)), .val (.int (f1 (p0.toInt8.toInt32) (0 : Int32))), .val (.int ((p0.toInt8.toInt32) &&& (255 : Int32))), .unset] [])) _
          refine XS.iload X3.here hx rfl (hb hby at_42) rfl ?_
          show Steps p.tables e below (T3.setTop (mkF m 44 #[.val (.int p0), .val (.int p1), .val (.int (p0.toInt8.toInt32)), .val (.int (0 : Int32)), .val (.int (f1 (p0.toInt8.toInt32) (0 : Int32))), .val (.int ((p0.toInt8.toInt32) &&& (255 : Int32))), .unset] [(.int ((p0.toInt8.toInt32) &&& (255 : Int32)))])) _
          refine XS.bipush X3.here hx rfl (hb hby at_44) ?_
          exact kt)
      by_cases hc46_9 : ((p0.toInt8.toInt32) &&& (255 : Int32)) = (10 : Int32)
      · have pre10 : ∀ t, Steps p.tables e below (T3.setTop (mkF m 75 #[.val (.int p0), .val (.int p1), .val (.int (p0.toInt8.toInt32)), .val (.int (0 : Int32)), .val (.int (f1 (p0.toInt8.toInt32) (0 : Int32))), .val (.int ((p0.toInt8.toInt32) &&& (255 : Int32))), .val (.int (1 : Int32))] [(.int (1 : Int32)), (.int (f1 (p0.toInt8.toInt32) (0 : Int32)))])) t → Steps p.tables e below (s₁.setTop (entryFrame m #[(.int p0), (.int p1)] maxLocals)) t := fun t kt => pre8 t (by
            show Steps p.tables e below (T3.setTop (mkF m 46 #[.val (.int p0), .val (.int p1), .val (.int (p0.toInt8.toInt32)), .val (.int (0 : Int32)), .val (.int (f1 (p0.toInt8.toInt32) (0 : Int32))), .val (.int ((p0.toInt8.toInt32) &&& (255 : Int32))), .unset] [(.int (10 : Int32)), (.int ((p0.toInt8.toInt32) &&& (255 : Int32)))])) _
            refine XS.icmpNo X3.here hx rfl (hb hby at_46) rfl (teq hc46_9).2 ?_
            show Steps p.tables e below (T3.setTop (mkF m 49 #[.val (.int p0), .val (.int p1), .val (.int (p0.toInt8.toInt32)), .val (.int (0 : Int32)), .val (.int (f1 (p0.toInt8.toInt32) (0 : Int32))), .val (.int ((p0.toInt8.toInt32) &&& (255 : Int32))), .unset] [])) _
            refine XS.iconst X3.here hx rfl (hb hby at_49) ?_
            show Steps p.tables e below (T3.setTop (mkF m 50 #[.val (.int p0), .val (.int p1), .val (.int (p0.toInt8.toInt32)), .val (.int (0 : Int32)), .val (.int (f1 (p0.toInt8.toInt32) (0 : Int32))), .val (.int ((p0.toInt8.toInt32) &&& (255 : Int32))), .unset] [(.int (1 : Int32))])) _
            refine XS.istore X3.here hx rfl (hb hby at_50) rfl (l' := #[.val (.int p0), .val (.int p1), .val (.int (p0.toInt8.toInt32)), .val (.int (0 : Int32)), .val (.int (f1 (p0.toInt8.toInt32) (0 : Int32))), .val (.int ((p0.toInt8.toInt32) &&& (255 : Int32))), .val (.int (1 : Int32))]) rfl ?_
            show Steps p.tables e below (T3.setTop (mkF m 52 #[.val (.int p0), .val (.int p1), .val (.int (p0.toInt8.toInt32)), .val (.int (0 : Int32)), .val (.int (f1 (p0.toInt8.toInt32) (0 : Int32))), .val (.int ((p0.toInt8.toInt32) &&& (255 : Int32))), .val (.int (1 : Int32))] [])) _
            refine XS.goto X3.here hx rfl (pc0 := 52) (pc' := 71) rfl (hb hby at_52) (by decide) (by decide) ?_
            show Steps p.tables e below (T3.setTop (mkF m 71 #[.val (.int p0), .val (.int p1), .val (.int (p0.toInt8.toInt32)), .val (.int (0 : Int32)), .val (.int (f1 (p0.toInt8.toInt32) (0 : Int32))), .val (.int ((p0.toInt8.toInt32) &&& (255 : Int32))), .val (.int (1 : Int32))] [])) _
            refine XS.iload X3.here hx rfl (hb hby at_71) rfl ?_
            show Steps p.tables e below (T3.setTop (mkF m 73 #[.val (.int p0), .val (.int p1), .val (.int (p0.toInt8.toInt32)), .val (.int (0 : Int32)), .val (.int (f1 (p0.toInt8.toInt32) (0 : Int32))), .val (.int ((p0.toInt8.toInt32) &&& (255 : Int32))), .val (.int (1 : Int32))] [(.int (f1 (p0.toInt8.toInt32) (0 : Int32)))])) _
            refine XS.iload X3.here hx rfl (hb hby at_73) rfl ?_
            exact kt)
        by_cases hc75_11 : (f1 (p0.toInt8.toInt32) (0 : Int32)) = (1 : Int32)
        · obtain ⟨fs, hr, hrun, hended, hW, hsame⟩ := X3.leave (v := some (.int (1 : Int32))) (fun h => by rw [Bd.returns] at h; cases h)
          have hv35 : (f0 p0 p1) = (1 : Int32) := by rw [f0, if_pos hc6_2, if_neg hc33_5, if_pos hc46_9, if_pos hc75_11]
          refine ⟨_, _, pre10 _ ?_, hrun, hended, _, _, rfl, ?_, ⟨_, rfl⟩, hW, hsame.mono (by decide) (by decide)⟩
          · show Steps p.tables e below (T3.setTop (mkF m 75 #[.val (.int p0), .val (.int p1), .val (.int (p0.toInt8.toInt32)), .val (.int (0 : Int32)), .val (.int (f1 (p0.toInt8.toInt32) (0 : Int32))), .val (.int ((p0.toInt8.toInt32) &&& (255 : Int32))), .val (.int (1 : Int32))] [(.int (1 : Int32)), (.int (f1 (p0.toInt8.toInt32) (0 : Int32)))])) _
            refine XS.icmpNo X3.here hx rfl (hb hby at_75) rfl (teq hc75_11).2 ?_
            show Steps p.tables e below (T3.setTop (mkF m 78 #[.val (.int p0), .val (.int p1), .val (.int (p0.toInt8.toInt32)), .val (.int (0 : Int32)), .val (.int (f1 (p0.toInt8.toInt32) (0 : Int32))), .val (.int ((p0.toInt8.toInt32) &&& (255 : Int32))), .val (.int (1 : Int32))] [])) _
            refine XS.iconst X3.here hx rfl (hb hby at_78) ?_
            show Steps p.tables e below (T3.setTop (mkF m 79 #[.val (.int p0), .val (.int p1), .val (.int (p0.toInt8.toInt32)), .val (.int (0 : Int32)), .val (.int (f1 (p0.toInt8.toInt32) (0 : Int32))), .val (.int ((p0.toInt8.toInt32) &&& (255 : Int32))), .val (.int (1 : Int32))] [(.int (1 : Int32))])) _
            refine XS.goto X3.here hx rfl (pc0 := 79) (pc' := 83) rfl (hb hby at_79) (by decide) (by decide) ?_
            show Steps p.tables e below (T3.setTop (mkF m 83 #[.val (.int p0), .val (.int p1), .val (.int (p0.toInt8.toInt32)), .val (.int (0 : Int32)), .val (.int (f1 (p0.toInt8.toInt32) (0 : Int32))), .val (.int ((p0.toInt8.toInt32) &&& (255 : Int32))), .val (.int (1 : Int32))] [(.int (1 : Int32))])) _
            exact retN X3 hx (t := .boolean) Bd.returns (by simp) (hb hby at_83) hr
          · show Q0 Z p0 p1 h0 n0 _ T3.heap _
            rw [e3q]
            exact ⟨congrArg (fun q => some (Value.int q)) hv35.symm, N3⟩
        · obtain ⟨fs, hr, hrun, hended, hW, hsame⟩ := X3.leave (v := some (.int (0 : Int32))) (fun h => by rw [Bd.returns] at h; cases h)
          have hv36 : (f0 p0 p1) = (0 : Int32) := by rw [f0, if_pos hc6_2, if_neg hc33_5, if_pos hc46_9, if_neg hc75_11]
          refine ⟨_, _, pre10 _ ?_, hrun, hended, _, _, rfl, ?_, ⟨_, rfl⟩, hW, hsame.mono (by decide) (by decide)⟩
          · show Steps p.tables e below (T3.setTop (mkF m 75 #[.val (.int p0), .val (.int p1), .val (.int (p0.toInt8.toInt32)), .val (.int (0 : Int32)), .val (.int (f1 (p0.toInt8.toInt32) (0 : Int32))), .val (.int ((p0.toInt8.toInt32) &&& (255 : Int32))), .val (.int (1 : Int32))] [(.int (1 : Int32)), (.int (f1 (p0.toInt8.toInt32) (0 : Int32)))])) _
            refine XS.icmpYes X3.here hx rfl (pc0 := 75) (pc' := 82) rfl (hb hby at_75) rfl (feq hc75_11).2 (by decide) (by decide) ?_
            show Steps p.tables e below (T3.setTop (mkF m 82 #[.val (.int p0), .val (.int p1), .val (.int (p0.toInt8.toInt32)), .val (.int (0 : Int32)), .val (.int (f1 (p0.toInt8.toInt32) (0 : Int32))), .val (.int ((p0.toInt8.toInt32) &&& (255 : Int32))), .val (.int (1 : Int32))] [])) _
            refine XS.iconst X3.here hx rfl (hb hby at_82) ?_
            show Steps p.tables e below (T3.setTop (mkF m 83 #[.val (.int p0), .val (.int p1), .val (.int (p0.toInt8.toInt32)), .val (.int (0 : Int32)), .val (.int (f1 (p0.toInt8.toInt32) (0 : Int32))), .val (.int ((p0.toInt8.toInt32) &&& (255 : Int32))), .val (.int (1 : Int32))] [(.int (0 : Int32))])) _
            exact retN X3 hx (t := .boolean) Bd.returns (by simp) (hb hby at_83) hr
          · show Q0 Z p0 p1 h0 n0 _ T3.heap _
            rw [e3q]
            exact ⟨congrArg (fun q => some (Value.int q)) hv36.symm, N3⟩
      · have pre12 : ∀ t, Steps p.tables e below (T3.setTop (mkF m 59 #[.val (.int p0), .val (.int p1), .val (.int (p0.toInt8.toInt32)), .val (.int (0 : Int32)), .val (.int (f1 (p0.toInt8.toInt32) (0 : Int32))), .val (.int ((p0.toInt8.toInt32) &&& (255 : Int32))), .unset] [(.int (34 : Int32)), (.int ((p0.toInt8.toInt32) &&& (255 : Int32)))])) t → Steps p.tables e below (s₁.setTop (entryFrame m #[(.int p0), (.int p1)] maxLocals)) t := fun t kt => pre8 t (by
            show Steps p.tables e below (T3.setTop (mkF m 46 #[.val (.int p0), .val (.int p1), .val (.int (p0.toInt8.toInt32)), .val (.int (0 : Int32)), .val (.int (f1 (p0.toInt8.toInt32) (0 : Int32))), .val (.int ((p0.toInt8.toInt32) &&& (255 : Int32))), .unset] [(.int (10 : Int32)), (.int ((p0.toInt8.toInt32) &&& (255 : Int32)))])) _
            refine XS.icmpYes X3.here hx rfl (pc0 := 46) (pc' := 55) rfl (hb hby at_46) rfl (feq hc46_9).2 (by decide) (by decide) ?_
            show Steps p.tables e below (T3.setTop (mkF m 55 #[.val (.int p0), .val (.int p1), .val (.int (p0.toInt8.toInt32)), .val (.int (0 : Int32)), .val (.int (f1 (p0.toInt8.toInt32) (0 : Int32))), .val (.int ((p0.toInt8.toInt32) &&& (255 : Int32))), .unset] [])) _
            refine XS.iload X3.here hx rfl (hb hby at_55) rfl ?_
            show Steps p.tables e below (T3.setTop (mkF m 57 #[.val (.int p0), .val (.int p1), .val (.int (p0.toInt8.toInt32)), .val (.int (0 : Int32)), .val (.int (f1 (p0.toInt8.toInt32) (0 : Int32))), .val (.int ((p0.toInt8.toInt32) &&& (255 : Int32))), .unset] [(.int ((p0.toInt8.toInt32) &&& (255 : Int32)))])) _
            refine XS.bipush X3.here hx rfl (hb hby at_57) ?_
            exact kt)
        by_cases hc59_13 : ((p0.toInt8.toInt32) &&& (255 : Int32)) = (34 : Int32)
        · have pre14 : ∀ t, Steps p.tables e below (T3.setTop (mkF m 75 #[.val (.int p0), .val (.int p1), .val (.int (p0.toInt8.toInt32)), .val (.int (0 : Int32)), .val (.int (f1 (p0.toInt8.toInt32) (0 : Int32))), .val (.int ((p0.toInt8.toInt32) &&& (255 : Int32))), .val (.int (0 : Int32))] [(.int (0 : Int32)), (.int (f1 (p0.toInt8.toInt32) (0 : Int32)))])) t → Steps p.tables e below (s₁.setTop (entryFrame m #[(.int p0), (.int p1)] maxLocals)) t := fun t kt => pre12 t (by
              show Steps p.tables e below (T3.setTop (mkF m 59 #[.val (.int p0), .val (.int p1), .val (.int (p0.toInt8.toInt32)), .val (.int (0 : Int32)), .val (.int (f1 (p0.toInt8.toInt32) (0 : Int32))), .val (.int ((p0.toInt8.toInt32) &&& (255 : Int32))), .unset] [(.int (34 : Int32)), (.int ((p0.toInt8.toInt32) &&& (255 : Int32)))])) _
              refine XS.icmpNo X3.here hx rfl (hb hby at_59) rfl (teq hc59_13).2 ?_
              show Steps p.tables e below (T3.setTop (mkF m 62 #[.val (.int p0), .val (.int p1), .val (.int (p0.toInt8.toInt32)), .val (.int (0 : Int32)), .val (.int (f1 (p0.toInt8.toInt32) (0 : Int32))), .val (.int ((p0.toInt8.toInt32) &&& (255 : Int32))), .unset] [])) _
              refine XS.iloadN X3.here hx rfl (hb hby at_62) rfl ?_
              show Steps p.tables e below (T3.setTop (mkF m 63 #[.val (.int p0), .val (.int p1), .val (.int (p0.toInt8.toInt32)), .val (.int (0 : Int32)), .val (.int (f1 (p0.toInt8.toInt32) (0 : Int32))), .val (.int ((p0.toInt8.toInt32) &&& (255 : Int32))), .unset] [(.int (0 : Int32))])) _
              refine XS.istore X3.here hx rfl (hb hby at_63) rfl (l' := #[.val (.int p0), .val (.int p1), .val (.int (p0.toInt8.toInt32)), .val (.int (0 : Int32)), .val (.int (f1 (p0.toInt8.toInt32) (0 : Int32))), .val (.int ((p0.toInt8.toInt32) &&& (255 : Int32))), .val (.int (0 : Int32))]) rfl ?_
              show Steps p.tables e below (T3.setTop (mkF m 65 #[.val (.int p0), .val (.int p1), .val (.int (p0.toInt8.toInt32)), .val (.int (0 : Int32)), .val (.int (f1 (p0.toInt8.toInt32) (0 : Int32))), .val (.int ((p0.toInt8.toInt32) &&& (255 : Int32))), .val (.int (0 : Int32))] [])) _
              refine XS.goto X3.here hx rfl (pc0 := 65) (pc' := 71) rfl (hb hby at_65) (by decide) (by decide) ?_
              show Steps p.tables e below (T3.setTop (mkF m 71 #[.val (.int p0), .val (.int p1), .val (.int (p0.toInt8.toInt32)), .val (.int (0 : Int32)), .val (.int (f1 (p0.toInt8.toInt32) (0 : Int32))), .val (.int ((p0.toInt8.toInt32) &&& (255 : Int32))), .val (.int (0 : Int32))] [])) _
              refine XS.iload X3.here hx rfl (hb hby at_71) rfl ?_
              show Steps p.tables e below (T3.setTop (mkF m 73 #[.val (.int p0), .val (.int p1), .val (.int (p0.toInt8.toInt32)), .val (.int (0 : Int32)), .val (.int (f1 (p0.toInt8.toInt32) (0 : Int32))), .val (.int ((p0.toInt8.toInt32) &&& (255 : Int32))), .val (.int (0 : Int32))] [(.int (f1 (p0.toInt8.toInt32) (0 : Int32)))])) _
              refine XS.iload X3.here hx rfl (hb hby at_73) rfl ?_
              exact kt)
          by_cases hc75_15 : (f1 (p0.toInt8.toInt32) (0 : Int32)) = (0 : Int32)
          · obtain ⟨fs, hr, hrun, hended, hW, hsame⟩ := X3.leave (v := some (.int (1 : Int32))) (fun h => by rw [Bd.returns] at h; cases h)
            have hv37 : (f0 p0 p1) = (1 : Int32) := by rw [f0, if_pos hc6_2, if_neg hc33_5, if_neg hc46_9, if_pos hc59_13, if_pos hc75_15]
            refine ⟨_, _, pre14 _ ?_, hrun, hended, _, _, rfl, ?_, ⟨_, rfl⟩, hW, hsame.mono (by decide) (by decide)⟩
            · show Steps p.tables e below (T3.setTop (mkF m 75 #[.val (.int p0), .val (.int p1), .val (.int (p0.toInt8.toInt32)), .val (.int (0 : Int32)), .val (.int (f1 (p0.toInt8.toInt32) (0 : Int32))), .val (.int ((p0.toInt8.toInt32) &&& (255 : Int32))), .val (.int (0 : Int32))] [(.int (0 : Int32)), (.int (f1 (p0.toInt8.toInt32) (0 : Int32)))])) _
              refine XS.icmpNo X3.here hx rfl (hb hby at_75) rfl (teq hc75_15).2 ?_
              show Steps p.tables e below (T3.setTop (mkF m 78 #[.val (.int p0), .val (.int p1), .val (.int (p0.toInt8.toInt32)), .val (.int (0 : Int32)), .val (.int (f1 (p0.toInt8.toInt32) (0 : Int32))), .val (.int ((p0.toInt8.toInt32) &&& (255 : Int32))), .val (.int (0 : Int32))] [])) _
              refine XS.iconst X3.here hx rfl (hb hby at_78) ?_
              show Steps p.tables e below (T3.setTop (mkF m 79 #[.val (.int p0), .val (.int p1), .val (.int (p0.toInt8.toInt32)), .val (.int (0 : Int32)), .val (.int (f1 (p0.toInt8.toInt32) (0 : Int32))), .val (.int ((p0.toInt8.toInt32) &&& (255 : Int32))), .val (.int (0 : Int32))] [(.int (1 : Int32))])) _
              refine XS.goto X3.here hx rfl (pc0 := 79) (pc' := 83) rfl (hb hby at_79) (by decide) (by decide) ?_
              show Steps p.tables e below (T3.setTop (mkF m 83 #[.val (.int p0), .val (.int p1), .val (.int (p0.toInt8.toInt32)), .val (.int (0 : Int32)), .val (.int (f1 (p0.toInt8.toInt32) (0 : Int32))), .val (.int ((p0.toInt8.toInt32) &&& (255 : Int32))), .val (.int (0 : Int32))] [(.int (1 : Int32))])) _
              exact retN X3 hx (t := .boolean) Bd.returns (by simp) (hb hby at_83) hr
            · show Q0 Z p0 p1 h0 n0 _ T3.heap _
              rw [e3q]
              exact ⟨congrArg (fun q => some (Value.int q)) hv37.symm, N3⟩
          · obtain ⟨fs, hr, hrun, hended, hW, hsame⟩ := X3.leave (v := some (.int (0 : Int32))) (fun h => by rw [Bd.returns] at h; cases h)
            have hv38 : (f0 p0 p1) = (0 : Int32) := by rw [f0, if_pos hc6_2, if_neg hc33_5, if_neg hc46_9, if_pos hc59_13, if_neg hc75_15]
            refine ⟨_, _, pre14 _ ?_, hrun, hended, _, _, rfl, ?_, ⟨_, rfl⟩, hW, hsame.mono (by decide) (by decide)⟩
            · show Steps p.tables e below (T3.setTop (mkF m 75 #[.val (.int p0), .val (.int p1), .val (.int (p0.toInt8.toInt32)), .val (.int (0 : Int32)), .val (.int (f1 (p0.toInt8.toInt32) (0 : Int32))), .val (.int ((p0.toInt8.toInt32) &&& (255 : Int32))), .val (.int (0 : Int32))] [(.int (0 : Int32)), (.int (f1 (p0.toInt8.toInt32) (0 : Int32)))])) _
              refine XS.icmpYes X3.here hx rfl (pc0 := 75) (pc' := 82) rfl (hb hby at_75) rfl (feq hc75_15).2 (by decide) (by decide) ?_
              show Steps p.tables e below (T3.setTop (mkF m 82 #[.val (.int p0), .val (.int p1), .val (.int (p0.toInt8.toInt32)), .val (.int (0 : Int32)), .val (.int (f1 (p0.toInt8.toInt32) (0 : Int32))), .val (.int ((p0.toInt8.toInt32) &&& (255 : Int32))), .val (.int (0 : Int32))] [])) _
              refine XS.iconst X3.here hx rfl (hb hby at_82) ?_
              show Steps p.tables e below (T3.setTop (mkF m 83 #[.val (.int p0), .val (.int p1), .val (.int (p0.toInt8.toInt32)), .val (.int (0 : Int32)), .val (.int (f1 (p0.toInt8.toInt32) (0 : Int32))), .val (.int ((p0.toInt8.toInt32) &&& (255 : Int32))), .val (.int (0 : Int32))] [(.int (0 : Int32))])) _
              exact retN X3 hx (t := .boolean) Bd.returns (by simp) (hb hby at_83) hr
            · show Q0 Z p0 p1 h0 n0 _ T3.heap _
              rw [e3q]
              exact ⟨congrArg (fun q => some (Value.int q)) hv38.symm, N3⟩
        · have pre16 : ∀ t, Steps p.tables e below (T3.setTop (mkF m 75 #[.val (.int p0), .val (.int p1), .val (.int (p0.toInt8.toInt32)), .val (.int (0 : Int32)), .val (.int (f1 (p0.toInt8.toInt32) (0 : Int32))), .val (.int ((p0.toInt8.toInt32) &&& (255 : Int32))), .val (.int (0 : Int32))] [(.int (0 : Int32)), (.int (f1 (p0.toInt8.toInt32) (0 : Int32)))])) t → Steps p.tables e below (s₁.setTop (entryFrame m #[(.int p0), (.int p1)] maxLocals)) t := fun t kt => pre12 t (by
              show Steps p.tables e below (T3.setTop (mkF m 59 #[.val (.int p0), .val (.int p1), .val (.int (p0.toInt8.toInt32)), .val (.int (0 : Int32)), .val (.int (f1 (p0.toInt8.toInt32) (0 : Int32))), .val (.int ((p0.toInt8.toInt32) &&& (255 : Int32))), .unset] [(.int (34 : Int32)), (.int ((p0.toInt8.toInt32) &&& (255 : Int32)))])) _
              refine XS.icmpYes X3.here hx rfl (pc0 := 59) (pc' := 68) rfl (hb hby at_59) rfl (feq hc59_13).2 (by decide) (by decide) ?_
              show Steps p.tables e below (T3.setTop (mkF m 68 #[.val (.int p0), .val (.int p1), .val (.int (p0.toInt8.toInt32)), .val (.int (0 : Int32)), .val (.int (f1 (p0.toInt8.toInt32) (0 : Int32))), .val (.int ((p0.toInt8.toInt32) &&& (255 : Int32))), .unset] [])) _
              refine XS.iconst X3.here hx rfl (hb hby at_68) ?_
              show Steps p.tables e below (T3.setTop (mkF m 69 #[.val (.int p0), .val (.int p1), .val (.int (p0.toInt8.toInt32)), .val (.int (0 : Int32)), .val (.int (f1 (p0.toInt8.toInt32) (0 : Int32))), .val (.int ((p0.toInt8.toInt32) &&& (255 : Int32))), .unset] [(.int (0 : Int32))])) _
              refine XS.istore X3.here hx rfl (hb hby at_69) rfl (l' := #[.val (.int p0), .val (.int p1), .val (.int (p0.toInt8.toInt32)), .val (.int (0 : Int32)), .val (.int (f1 (p0.toInt8.toInt32) (0 : Int32))), .val (.int ((p0.toInt8.toInt32) &&& (255 : Int32))), .val (.int (0 : Int32))]) rfl ?_
              show Steps p.tables e below (T3.setTop (mkF m 71 #[.val (.int p0), .val (.int p1), .val (.int (p0.toInt8.toInt32)), .val (.int (0 : Int32)), .val (.int (f1 (p0.toInt8.toInt32) (0 : Int32))), .val (.int ((p0.toInt8.toInt32) &&& (255 : Int32))), .val (.int (0 : Int32))] [])) _
              refine XS.iload X3.here hx rfl (hb hby at_71) rfl ?_
              show Steps p.tables e below (T3.setTop (mkF m 73 #[.val (.int p0), .val (.int p1), .val (.int (p0.toInt8.toInt32)), .val (.int (0 : Int32)), .val (.int (f1 (p0.toInt8.toInt32) (0 : Int32))), .val (.int ((p0.toInt8.toInt32) &&& (255 : Int32))), .val (.int (0 : Int32))] [(.int (f1 (p0.toInt8.toInt32) (0 : Int32)))])) _
              refine XS.iload X3.here hx rfl (hb hby at_73) rfl ?_
              exact kt)
          by_cases hc75_17 : (f1 (p0.toInt8.toInt32) (0 : Int32)) = (0 : Int32)
          · obtain ⟨fs, hr, hrun, hended, hW, hsame⟩ := X3.leave (v := some (.int (1 : Int32))) (fun h => by rw [Bd.returns] at h; cases h)
            have hv39 : (f0 p0 p1) = (1 : Int32) := by rw [f0, if_pos hc6_2, if_neg hc33_5, if_neg hc46_9, if_neg hc59_13, if_pos hc75_17]
            refine ⟨_, _, pre16 _ ?_, hrun, hended, _, _, rfl, ?_, ⟨_, rfl⟩, hW, hsame.mono (by decide) (by decide)⟩
            · show Steps p.tables e below (T3.setTop (mkF m 75 #[.val (.int p0), .val (.int p1), .val (.int (p0.toInt8.toInt32)), .val (.int (0 : Int32)), .val (.int (f1 (p0.toInt8.toInt32) (0 : Int32))), .val (.int ((p0.toInt8.toInt32) &&& (255 : Int32))), .val (.int (0 : Int32))] [(.int (0 : Int32)), (.int (f1 (p0.toInt8.toInt32) (0 : Int32)))])) _
              refine XS.icmpNo X3.here hx rfl (hb hby at_75) rfl (teq hc75_17).2 ?_
              show Steps p.tables e below (T3.setTop (mkF m 78 #[.val (.int p0), .val (.int p1), .val (.int (p0.toInt8.toInt32)), .val (.int (0 : Int32)), .val (.int (f1 (p0.toInt8.toInt32) (0 : Int32))), .val (.int ((p0.toInt8.toInt32) &&& (255 : Int32))), .val (.int (0 : Int32))] [])) _
              refine XS.iconst X3.here hx rfl (hb hby at_78) ?_
              show Steps p.tables e below (T3.setTop (mkF m 79 #[.val (.int p0), .val (.int p1), .val (.int (p0.toInt8.toInt32)), .val (.int (0 : Int32)), .val (.int (f1 (p0.toInt8.toInt32) (0 : Int32))), .val (.int ((p0.toInt8.toInt32) &&& (255 : Int32))), .val (.int (0 : Int32))] [(.int (1 : Int32))])) _
              refine XS.goto X3.here hx rfl (pc0 := 79) (pc' := 83) rfl (hb hby at_79) (by decide) (by decide) ?_
              show Steps p.tables e below (T3.setTop (mkF m 83 #[.val (.int p0), .val (.int p1), .val (.int (p0.toInt8.toInt32)), .val (.int (0 : Int32)), .val (.int (f1 (p0.toInt8.toInt32) (0 : Int32))), .val (.int ((p0.toInt8.toInt32) &&& (255 : Int32))), .val (.int (0 : Int32))] [(.int (1 : Int32))])) _
              exact retN X3 hx (t := .boolean) Bd.returns (by simp) (hb hby at_83) hr
            · show Q0 Z p0 p1 h0 n0 _ T3.heap _
              rw [e3q]
              exact ⟨congrArg (fun q => some (Value.int q)) hv39.symm, N3⟩
          · obtain ⟨fs, hr, hrun, hended, hW, hsame⟩ := X3.leave (v := some (.int (0 : Int32))) (fun h => by rw [Bd.returns] at h; cases h)
            have hv40 : (f0 p0 p1) = (0 : Int32) := by rw [f0, if_pos hc6_2, if_neg hc33_5, if_neg hc46_9, if_neg hc59_13, if_neg hc75_17]
            refine ⟨_, _, pre16 _ ?_, hrun, hended, _, _, rfl, ?_, ⟨_, rfl⟩, hW, hsame.mono (by decide) (by decide)⟩
            · show Steps p.tables e below (T3.setTop (mkF m 75 #[.val (.int p0), .val (.int p1), .val (.int (p0.toInt8.toInt32)), .val (.int (0 : Int32)), .val (.int (f1 (p0.toInt8.toInt32) (0 : Int32))), .val (.int ((p0.toInt8.toInt32) &&& (255 : Int32))), .val (.int (0 : Int32))] [(.int (0 : Int32)), (.int (f1 (p0.toInt8.toInt32) (0 : Int32)))])) _
              refine XS.icmpYes X3.here hx rfl (pc0 := 75) (pc' := 82) rfl (hb hby at_75) rfl (feq hc75_17).2 (by decide) (by decide) ?_
              show Steps p.tables e below (T3.setTop (mkF m 82 #[.val (.int p0), .val (.int p1), .val (.int (p0.toInt8.toInt32)), .val (.int (0 : Int32)), .val (.int (f1 (p0.toInt8.toInt32) (0 : Int32))), .val (.int ((p0.toInt8.toInt32) &&& (255 : Int32))), .val (.int (0 : Int32))] [])) _
              refine XS.iconst X3.here hx rfl (hb hby at_82) ?_
              show Steps p.tables e below (T3.setTop (mkF m 83 #[.val (.int p0), .val (.int p1), .val (.int (p0.toInt8.toInt32)), .val (.int (0 : Int32)), .val (.int (f1 (p0.toInt8.toInt32) (0 : Int32))), .val (.int ((p0.toInt8.toInt32) &&& (255 : Int32))), .val (.int (0 : Int32))] [(.int (0 : Int32))])) _
              exact retN X3 hx (t := .boolean) Bd.returns (by simp) (hb hby at_83) hr
            · show Q0 Z p0 p1 h0 n0 _ T3.heap _
              rw [e3q]
              exact ⟨congrArg (fun q => some (Value.int q)) hv40.symm, N3⟩
  · obtain ⟨_, _, ⟨T18, L18, k18, n18⟩, -, X18, ⟨Lc18, hQ18, l18, y18, z18⟩, st18⟩ := Jvm.LawKit.callS X0 hx (y := (⟨"com/example/cistern/cistern/io/CsvReader", "opensField", "(BZ)Z"⟩ : MethodName)) hown (mvT hZ (hw _ (List.mem_of_getElem? (i := 0) rfl))) (mvT hZ (hw _ (List.mem_of_getElem? (i := 1) rfl))) (mvT hZ (hw _ (List.mem_of_getElem? (i := 2) rfl))) (mvT hZ (hw _ (List.mem_of_getElem? (i := 3) rfl))) (by decide) (backOf (W := 0) (rm1 l Z a0 hw [] (p0.toInt8.toInt32) (1 : Int32) h0 n0 Z0 ) hZ (hw _ (List.mem_of_getElem? (i := 3) rfl)) (hw _ (List.mem_of_getElem? (i := 2) rfl)) (by decide) (by decide)) (g := (mkF m 17 #[.val (.int p0), .val (.int p1), .val (.int (p0.toInt8.toInt32)), .val (.int (1 : Int32)), .unset, .unset, .unset] [(.int (1 : Int32)), (.int (p0.toInt8.toInt32))])) rfl (by rw [hml]; rfl) (argsL := [(.int (p0.toInt8.toInt32)), (.int (1 : Int32))]) (rest := []) (lenOf pd_0_0 rfl) rfl (by show 2 * 0 + _ ≤ _; exact Nat.le_of_eq rfl) (hb hby at_17) (fun _ _ => ⟨rfl, e0, (by decide : 0 + 0 ≤ _), (by decide : 0 + 0 ≤ _)⟩)
    dsimp only [Pt.U, Pt.locs, Pt.cells, Pt.slots] at X18 l18 y18 z18 st18 hQ18
    subst l18 y18 z18
    obtain ⟨rfl, N18q, e18q⟩ := hQ18
    have N18 := Fr.app N0 N18q
    have pre19 : ∀ t, Steps p.tables e below (T18.setTop (mkF m 33 #[.val (.int p0), .val (.int p1), .val (.int (p0.toInt8.toInt32)), .val (.int (1 : Int32)), .val (.int (f1 (p0.toInt8.toInt32) (1 : Int32))), .val (.int ((p0.toInt8.toInt32) &&& (255 : Int32))), .unset] [(.int (44 : Int32)), (.int ((p0.toInt8.toInt32) &&& (255 : Int32)))])) t → Steps p.tables e below (s₁.setTop (entryFrame m #[(.int p0), (.int p1)] maxLocals)) t := fun t kt => pre1 t (by
        show Steps p.tables e below (s₁.setTop (mkF m 6 #[.val (.int p0), .val (.int p1), .val (.int (p0.toInt8.toInt32)), .unset, .unset, .unset, .unset] [(.int (p1 &&& (1 : Int32)))])) _
        refine XS.ifNo X0.here hx rfl (hb hby at_6) rfl ((if0 _ _).trans (feq hc6_2).1) ?_
        show Steps p.tables e below (s₁.setTop (mkF m 9 #[.val (.int p0), .val (.int p1), .val (.int (p0.toInt8.toInt32)), .unset, .unset, .unset, .unset] [])) _
        refine XS.iconst X0.here hx rfl (hb hby at_9) ?_
        show Steps p.tables e below (s₁.setTop (mkF m 10 #[.val (.int p0), .val (.int p1), .val (.int (p0.toInt8.toInt32)), .unset, .unset, .unset, .unset] [(.int (1 : Int32))])) _
        refine XS.goto X0.here hx rfl (pc0 := 10) (pc' := 14) rfl (hb hby at_10) (by decide) (by decide) ?_
        show Steps p.tables e below (s₁.setTop (mkF m 14 #[.val (.int p0), .val (.int p1), .val (.int (p0.toInt8.toInt32)), .unset, .unset, .unset, .unset] [(.int (1 : Int32))])) _
        refine XS.istoreN X0.here hx rfl (hb hby at_14) rfl (l' := #[.val (.int p0), .val (.int p1), .val (.int (p0.toInt8.toInt32)), .val (.int (1 : Int32)), .unset, .unset, .unset]) rfl ?_
        show Steps p.tables e below (s₁.setTop (mkF m 15 #[.val (.int p0), .val (.int p1), .val (.int (p0.toInt8.toInt32)), .val (.int (1 : Int32)), .unset, .unset, .unset] [])) _
        refine XS.iloadN X0.here hx rfl (hb hby at_15) rfl ?_
        show Steps p.tables e below (s₁.setTop (mkF m 16 #[.val (.int p0), .val (.int p1), .val (.int (p0.toInt8.toInt32)), .val (.int (1 : Int32)), .unset, .unset, .unset] [(.int (p0.toInt8.toInt32))])) _
        refine XS.iloadN X0.here hx rfl (hb hby at_16) rfl ?_
        show Steps p.tables e below (s₁.setTop (mkF m 17 #[.val (.int p0), .val (.int p1), .val (.int (p0.toInt8.toInt32)), .val (.int (1 : Int32)), .unset, .unset, .unset] [(.int (1 : Int32)), (.int (p0.toInt8.toInt32))])) _
        refine st18 _ ?_
        show Steps p.tables e below (T18.setTop (mkF m 20 #[.val (.int p0), .val (.int p1), .val (.int (p0.toInt8.toInt32)), .val (.int (1 : Int32)), .unset, .unset, .unset] [(.int (f1 (p0.toInt8.toInt32) (1 : Int32)))])) _
        refine XS.istore X18.here hx rfl (hb hby at_20) rfl (l' := #[.val (.int p0), .val (.int p1), .val (.int (p0.toInt8.toInt32)), .val (.int (1 : Int32)), .val (.int (f1 (p0.toInt8.toInt32) (1 : Int32))), .unset, .unset]) rfl ?_
        show Steps p.tables e below (T18.setTop (mkF m 22 #[.val (.int p0), .val (.int p1), .val (.int (p0.toInt8.toInt32)), .val (.int (1 : Int32)), .val (.int (f1 (p0.toInt8.toInt32) (1 : Int32))), .unset, .unset] [])) _
        refine XS.iloadN X18.here hx rfl (hb hby at_22) rfl ?_
        show Steps p.tables e below (T18.setTop (mkF m 23 #[.val (.int p0), .val (.int p1), .val (.int (p0.toInt8.toInt32)), .val (.int (1 : Int32)), .val (.int (f1 (p0.toInt8.toInt32) (1 : Int32))), .unset, .unset] [(.int (p0.toInt8.toInt32))])) _
        refine XS.sipush X18.here hx rfl (hb hby at_23) ?_
        show Steps p.tables e below (T18.setTop (mkF m 26 #[.val (.int p0), .val (.int p1), .val (.int (p0.toInt8.toInt32)), .val (.int (1 : Int32)), .val (.int (f1 (p0.toInt8.toInt32) (1 : Int32))), .unset, .unset] [(.int (255 : Int32)), (.int (p0.toInt8.toInt32))])) _
        refine XS.iand X18.here hx rfl (hb hby at_26) rfl ?_
        show Steps p.tables e below (T18.setTop (mkF m 27 #[.val (.int p0), .val (.int p1), .val (.int (p0.toInt8.toInt32)), .val (.int (1 : Int32)), .val (.int (f1 (p0.toInt8.toInt32) (1 : Int32))), .unset, .unset] [(.int ((p0.toInt8.toInt32) &&& (255 : Int32)))])) _
        refine XS.istore X18.here hx rfl (hb hby at_27) rfl (l' := #[.val (.int p0), .val (.int p1), .val (.int (p0.toInt8.toInt32)), .val (.int (1 : Int32)), .val (.int (f1 (p0.toInt8.toInt32) (1 : Int32))), .val (.int ((p0.toInt8.toInt32) &&& (255 : Int32))), .unset]) rfl ?_
        show Steps p.tables e below (T18.setTop (mkF m 29 #[.val (.int p0), .val (.int p1), .val (.int (p0.toInt8.toInt32)), .val (.int (1 : Int32)), .val (.int (f1 (p0.toInt8.toInt32) (1 : Int32))), .val (.int ((p0.toInt8.toInt32) &&& (255 : Int32))), .unset] [])) _
        refine XS.iload X18.here hx rfl (hb hby at_29) rfl ?_
        show Steps p.tables e below (T18.setTop (mkF m 31 #[.val (.int p0), .val (.int p1), .val (.int (p0.toInt8.toInt32)), .val (.int (1 : Int32)), .val (.int (f1 (p0.toInt8.toInt32) (1 : Int32))), .val (.int ((p0.toInt8.toInt32) &&& (255 : Int32))), .unset] [(.int ((p0.toInt8.toInt32) &&& (255 : Int32)))])) _
        refine XS.bipush X18.here hx rfl (hb hby at_31) ?_
        exact kt)
    by_cases hc33_20 : ((p0.toInt8.toInt32) &&& (255 : Int32)) = (44 : Int32)
    · have pre21 : ∀ t, Steps p.tables e below (T18.setTop (mkF m 75 #[.val (.int p0), .val (.int p1), .val (.int (p0.toInt8.toInt32)), .val (.int (1 : Int32)), .val (.int (f1 (p0.toInt8.toInt32) (1 : Int32))), .val (.int ((p0.toInt8.toInt32) &&& (255 : Int32))), .val (.int (1 : Int32))] [(.int (1 : Int32)), (.int (f1 (p0.toInt8.toInt32) (1 : Int32)))])) t → Steps p.tables e below (s₁.setTop (entryFrame m #[(.int p0), (.int p1)] maxLocals)) t := fun t kt => pre19 t (by
          show Steps p.tables e below (T18.setTop (mkF m 33 #[.val (.int p0), .val (.int p1), .val (.int (p0.toInt8.toInt32)), .val (.int (1 : Int32)), .val (.int (f1 (p0.toInt8.toInt32) (1 : Int32))), .val (.int ((p0.toInt8.toInt32) &&& (255 : Int32))), .unset] [(.int (44 : Int32)), (.int ((p0.toInt8.toInt32) &&& (255 : Int32)))])) _
          refine XS.icmpNo X18.here hx rfl (hb hby at_33) rfl (teq hc33_20).2 ?_
          show Steps p.tables e below (T18.setTop (mkF m 36 #[.val (.int p0), .val (.int p1), .val (.int (p0.toInt8.toInt32)), .val (.int (1 : Int32)), .val (.int (f1 (p0.toInt8.toInt32) (1 : Int32))), .val (.int ((p0.toInt8.toInt32) &&& (255 : Int32))), .unset] [])) _
          refine XS.iconst X18.here hx rfl (hb hby at_36) ?_
          show Steps p.tables e below (T18.setTop (mkF m 37 #[.val (.int p0), .val (.int p1), .val (.int (p0.toInt8.toInt32)), .val (.int (1 : Int32)), .val (.int (f1 (p0.toInt8.toInt32) (1 : Int32))), .val (.int ((p0.toInt8.toInt32) &&& (255 : Int32))), .unset] [(.int (1 : Int32))])) _
          refine XS.istore X18.here hx rfl (hb hby at_37) rfl (l' := #[.val (.int p0), .val (.int p1), .val (.int (p0.toInt8.toInt32)), .val (.int (1 : Int32)), .val (.int (f1 (p0.toInt8.toInt32) (1 : Int32))), .val (.int ((p0.toInt8.toInt32) &&& (255 : Int32))), .val (.int (1 : Int32))]) rfl ?_
          show Steps p.tables e below (T18.setTop (mkF m 39 #[.val (.int p0), .val (.int p1), .val (.int (p0.toInt8.toInt32)), .val (.int (1 : Int32)), .val (.int (f1 (p0.toInt8.toInt32) (1 : Int32))), .val (.int ((p0.toInt8.toInt32) &&& (255 : Int32))), .val (.int (1 : Int32))] [])) _
          refine XS.goto X18.here hx rfl (pc0 := 39) (pc' := 71) rfl (hb hby at_39) (by decide) (by decide) ?_
          show Steps p.tables e below (T18.setTop (mkF m 71 #[.val (.int p0), .val (.int p1), .val (.int (p0.toInt8.toInt32)), .val (.int (1 : Int32)), .val (.int (f1 (p0.toInt8.toInt32) (1 : Int32))), .val (.int ((p0.toInt8.toInt32) &&& (255 : Int32))), .val (.int (1 : Int32))] [])) _
          refine XS.iload X18.here hx rfl (hb hby at_71) rfl ?_
          show Steps p.tables e below (T18.setTop (mkF m 73 #[.val (.int p0), .val (.int p1), .val (.int (p0.toInt8.toInt32)), .val (.int (1 : Int32)), .val (.int (f1 (p0.toInt8.toInt32) (1 : Int32))), .val (.int ((p0.toInt8.toInt32) &&& (255 : Int32))), .val (.int (1 : Int32))] [(.int (f1 (p0.toInt8.toInt32) (1 : Int32)))])) _
          refine XS.iload X18.here hx rfl (hb hby at_73) rfl ?_
          exact kt)
      by_cases hc75_22 : (f1 (p0.toInt8.toInt32) (1 : Int32)) = (1 : Int32)
      · obtain ⟨fs, hr, hrun, hended, hW, hsame⟩ := X18.leave (v := some (.int (1 : Int32))) (fun h => by rw [Bd.returns] at h; cases h)
        have hv41 : (f0 p0 p1) = (1 : Int32) := by rw [f0, if_neg hc6_2, if_pos hc33_20, if_pos hc75_22]
        refine ⟨_, _, pre21 _ ?_, hrun, hended, _, _, rfl, ?_, ⟨_, rfl⟩, hW, hsame.mono (by decide) (by decide)⟩
        · show Steps p.tables e below (T18.setTop (mkF m 75 #[.val (.int p0), .val (.int p1), .val (.int (p0.toInt8.toInt32)), .val (.int (1 : Int32)), .val (.int (f1 (p0.toInt8.toInt32) (1 : Int32))), .val (.int ((p0.toInt8.toInt32) &&& (255 : Int32))), .val (.int (1 : Int32))] [(.int (1 : Int32)), (.int (f1 (p0.toInt8.toInt32) (1 : Int32)))])) _
          refine XS.icmpNo X18.here hx rfl (hb hby at_75) rfl (teq hc75_22).2 ?_
          show Steps p.tables e below (T18.setTop (mkF m 78 #[.val (.int p0), .val (.int p1), .val (.int (p0.toInt8.toInt32)), .val (.int (1 : Int32)), .val (.int (f1 (p0.toInt8.toInt32) (1 : Int32))), .val (.int ((p0.toInt8.toInt32) &&& (255 : Int32))), .val (.int (1 : Int32))] [])) _
          refine XS.iconst X18.here hx rfl (hb hby at_78) ?_
          show Steps p.tables e below (T18.setTop (mkF m 79 #[.val (.int p0), .val (.int p1), .val (.int (p0.toInt8.toInt32)), .val (.int (1 : Int32)), .val (.int (f1 (p0.toInt8.toInt32) (1 : Int32))), .val (.int ((p0.toInt8.toInt32) &&& (255 : Int32))), .val (.int (1 : Int32))] [(.int (1 : Int32))])) _
          refine XS.goto X18.here hx rfl (pc0 := 79) (pc' := 83) rfl (hb hby at_79) (by decide) (by decide) ?_
          show Steps p.tables e below (T18.setTop (mkF m 83 #[.val (.int p0), .val (.int p1), .val (.int (p0.toInt8.toInt32)), .val (.int (1 : Int32)), .val (.int (f1 (p0.toInt8.toInt32) (1 : Int32))), .val (.int ((p0.toInt8.toInt32) &&& (255 : Int32))), .val (.int (1 : Int32))] [(.int (1 : Int32))])) _
          exact retN X18 hx (t := .boolean) Bd.returns (by simp) (hb hby at_83) hr
        · show Q0 Z p0 p1 h0 n0 _ T18.heap _
          rw [e18q]
          exact ⟨congrArg (fun q => some (Value.int q)) hv41.symm, N18⟩
      · obtain ⟨fs, hr, hrun, hended, hW, hsame⟩ := X18.leave (v := some (.int (0 : Int32))) (fun h => by rw [Bd.returns] at h; cases h)
        have hv42 : (f0 p0 p1) = (0 : Int32) := by rw [f0, if_neg hc6_2, if_pos hc33_20, if_neg hc75_22]
        refine ⟨_, _, pre21 _ ?_, hrun, hended, _, _, rfl, ?_, ⟨_, rfl⟩, hW, hsame.mono (by decide) (by decide)⟩
        · show Steps p.tables e below (T18.setTop (mkF m 75 #[.val (.int p0), .val (.int p1), .val (.int (p0.toInt8.toInt32)), .val (.int (1 : Int32)), .val (.int (f1 (p0.toInt8.toInt32) (1 : Int32))), .val (.int ((p0.toInt8.toInt32) &&& (255 : Int32))), .val (.int (1 : Int32))] [(.int (1 : Int32)), (.int (f1 (p0.toInt8.toInt32) (1 : Int32)))])) _
          refine XS.icmpYes X18.here hx rfl (pc0 := 75) (pc' := 82) rfl (hb hby at_75) rfl (feq hc75_22).2 (by decide) (by decide) ?_
          show Steps p.tables e below (T18.setTop (mkF m 82 #[.val (.int p0), .val (.int p1), .val (.int (p0.toInt8.toInt32)), .val (.int (1 : Int32)), .val (.int (f1 (p0.toInt8.toInt32) (1 : Int32))), .val (.int ((p0.toInt8.toInt32) &&& (255 : Int32))), .val (.int (1 : Int32))] [])) _
          refine XS.iconst X18.here hx rfl (hb hby at_82) ?_
          show Steps p.tables e below (T18.setTop (mkF m 83 #[.val (.int p0), .val (.int p1), .val (.int (p0.toInt8.toInt32)), .val (.int (1 : Int32)), .val (.int (f1 (p0.toInt8.toInt32) (1 : Int32))), .val (.int ((p0.toInt8.toInt32) &&& (255 : Int32))), .val (.int (1 : Int32))] [(.int (0 : Int32))])) _
          exact retN X18 hx (t := .boolean) Bd.returns (by simp) (hb hby at_83) hr
        · show Q0 Z p0 p1 h0 n0 _ T18.heap _
          rw [e18q]
          exact ⟨congrArg (fun q => some (Value.int q)) hv42.symm, N18⟩
    · have pre23 : ∀ t, Steps p.tables e below (T18.setTop (mkF m 46 #[.val (.int p0), .val (.int p1), .val (.int (p0.toInt8.toInt32)), .val (.int (1 : Int32)), .val (.int (f1 (p0.toInt8.toInt32) (1 : Int32))), .val (.int ((p0.toInt8.toInt32) &&& (255 : Int32))), .unset] [(.int (10 : Int32)), (.int ((p0.toInt8.toInt32) &&& (255 : Int32)))])) t → Steps p.tables e below (s₁.setTop (entryFrame m #[(.int p0), (.int p1)] maxLocals)) t := fun t kt => pre19 t (by
          show Steps p.tables e below (T18.setTop (mkF m 33 #[.val (.int p0), .val (.int p1), .val (.int (p0.toInt8.toInt32)), .val (.int (1 : Int32)), .val (.int (f1 (p0.toInt8.toInt32) (1 : Int32))), .val (.int ((p0.toInt8.toInt32) &&& (255 : Int32))), .unset] [(.int (44 : Int32)), (.int ((p0.toInt8.toInt32) &&& (255 : Int32)))])) _
          refine XS.icmpYes X18.here hx rfl (pc0 := 33) (pc' := 42) rfl (hb hby at_33) rfl (feq hc33_20).2 (by decide) (by decide) ?_
          show Steps p.tables e below (T18.setTop (mkF m 42 #[.val (.int p0), .val (.int p1), .val (.int (p0.toInt8.toInt32)), .val (.int (1 : Int32)), .val (.int (f1 (p0.toInt8.toInt32) (1 : Int32))), .val (.int ((p0.toInt8.toInt32) &&& (255 : Int32))), .unset] [])) _
          refine XS.iload X18.here hx rfl (hb hby at_42) rfl ?_
          show Steps p.tables e below (T18.setTop (mkF m 44 #[.val (.int p0), .val (.int p1), .val (.int (p0.toInt8.toInt32)), .val (.int (1 : Int32)), .val (.int (f1 (p0.toInt8.toInt32) (1 : Int32))), .val (.int ((p0.toInt8.toInt32) &&& (255 : Int32))), .unset] [(.int ((p0.toInt8.toInt32) &&& (255 : Int32)))])) _
          refine XS.bipush X18.here hx rfl (hb hby at_44) ?_
          exact kt)
      by_cases hc46_24 : ((p0.toInt8.toInt32) &&& (255 : Int32)) = (10 : Int32)
      · have pre25 : ∀ t, Steps p.tables e below (T18.setTop (mkF m 75 #[.val (.int p0), .val (.int p1), .val (.int (p0.toInt8.toInt32)), .val (.int (1 : Int32)), .val (.int (f1 (p0.toInt8.toInt32) (1 : Int32))), .val (.int ((p0.toInt8.toInt32) &&& (255 : Int32))), .val (.int (1 : Int32))] [(.int (1 : Int32)), (.int (f1 (p0.toInt8.toInt32) (1 : Int32)))])) t → Steps p.tables e below (s₁.setTop (entryFrame m #[(.int p0), (.int p1)] maxLocals)) t := fun t kt => pre23 t (by
            show Steps p.tables e below (T18.setTop (mkF m 46 #[.val (.int p0), .val (.int p1), .val (.int (p0.toInt8.toInt32)), .val (.int (1 : Int32)), .val (.int (f1 (p0.toInt8.toInt32) (1 : Int32))), .val (.int ((p0.toInt8.toInt32) &&& (255 : Int32))), .unset] [(.int (10 : Int32)), (.int ((p0.toInt8.toInt32) &&& (255 : Int32)))])) _
            refine XS.icmpNo X18.here hx rfl (hb hby at_46) rfl (teq hc46_24).2 ?_
            show Steps p.tables e below (T18.setTop (mkF m 49 #[.val (.int p0), .val (.int p1), .val (.int (p0.toInt8.toInt32)), .val (.int (1 : Int32)), .val (.int (f1 (p0.toInt8.toInt32) (1 : Int32))), .val (.int ((p0.toInt8.toInt32) &&& (255 : Int32))), .unset] [])) _
            refine XS.iconst X18.here hx rfl (hb hby at_49) ?_
            show Steps p.tables e below (T18.setTop (mkF m 50 #[.val (.int p0), .val (.int p1), .val (.int (p0.toInt8.toInt32)), .val (.int (1 : Int32)), .val (.int (f1 (p0.toInt8.toInt32) (1 : Int32))), .val (.int ((p0.toInt8.toInt32) &&& (255 : Int32))), .unset] [(.int (1 : Int32))])) _
            refine XS.istore X18.here hx rfl (hb hby at_50) rfl (l' := #[.val (.int p0), .val (.int p1), .val (.int (p0.toInt8.toInt32)), .val (.int (1 : Int32)), .val (.int (f1 (p0.toInt8.toInt32) (1 : Int32))), .val (.int ((p0.toInt8.toInt32) &&& (255 : Int32))), .val (.int (1 : Int32))]) rfl ?_
            show Steps p.tables e below (T18.setTop (mkF m 52 #[.val (.int p0), .val (.int p1), .val (.int (p0.toInt8.toInt32)), .val (.int (1 : Int32)), .val (.int (f1 (p0.toInt8.toInt32) (1 : Int32))), .val (.int ((p0.toInt8.toInt32) &&& (255 : Int32))), .val (.int (1 : Int32))] [])) _
            refine XS.goto X18.here hx rfl (pc0 := 52) (pc' := 71) rfl (hb hby at_52) (by decide) (by decide) ?_
            show Steps p.tables e below (T18.setTop (mkF m 71 #[.val (.int p0), .val (.int p1), .val (.int (p0.toInt8.toInt32)), .val (.int (1 : Int32)), .val (.int (f1 (p0.toInt8.toInt32) (1 : Int32))), .val (.int ((p0.toInt8.toInt32) &&& (255 : Int32))), .val (.int (1 : Int32))] [])) _
            refine XS.iload X18.here hx rfl (hb hby at_71) rfl ?_
            show Steps p.tables e below (T18.setTop (mkF m 73 #[.val (.int p0), .val (.int p1), .val (.int (p0.toInt8.toInt32)), .val (.int (1 : Int32)), .val (.int (f1 (p0.toInt8.toInt32) (1 : Int32))), .val (.int ((p0.toInt8.toInt32) &&& (255 : Int32))), .val (.int (1 : Int32))] [(.int (f1 (p0.toInt8.toInt32) (1 : Int32)))])) _
            refine XS.iload X18.here hx rfl (hb hby at_73) rfl ?_
            exact kt)
        by_cases hc75_26 : (f1 (p0.toInt8.toInt32) (1 : Int32)) = (1 : Int32)
        · obtain ⟨fs, hr, hrun, hended, hW, hsame⟩ := X18.leave (v := some (.int (1 : Int32))) (fun h => by rw [Bd.returns] at h; cases h)
          have hv43 : (f0 p0 p1) = (1 : Int32) := by rw [f0, if_neg hc6_2, if_neg hc33_20, if_pos hc46_24, if_pos hc75_26]
          refine ⟨_, _, pre25 _ ?_, hrun, hended, _, _, rfl, ?_, ⟨_, rfl⟩, hW, hsame.mono (by decide) (by decide)⟩
          · show Steps p.tables e below (T18.setTop (mkF m 75 #[.val (.int p0), .val (.int p1), .val (.int (p0.toInt8.toInt32)), .val (.int (1 : Int32)), .val (.int (f1 (p0.toInt8.toInt32) (1 : Int32))), .val (.int ((p0.toInt8.toInt32) &&& (255 : Int32))), .val (.int (1 : Int32))] [(.int (1 : Int32)), (.int (f1 (p0.toInt8.toInt32) (1 : Int32)))])) _
            refine XS.icmpNo X18.here hx rfl (hb hby at_75) rfl (teq hc75_26).2 ?_
            show Steps p.tables e below (T18.setTop (mkF m 78 #[.val (.int p0), .val (.int p1), .val (.int (p0.toInt8.toInt32)), .val (.int (1 : Int32)), .val (.int (f1 (p0.toInt8.toInt32) (1 : Int32))), .val (.int ((p0.toInt8.toInt32) &&& (255 : Int32))), .val (.int (1 : Int32))] [])) _
            refine XS.iconst X18.here hx rfl (hb hby at_78) ?_
            show Steps p.tables e below (T18.setTop (mkF m 79 #[.val (.int p0), .val (.int p1), .val (.int (p0.toInt8.toInt32)), .val (.int (1 : Int32)), .val (.int (f1 (p0.toInt8.toInt32) (1 : Int32))), .val (.int ((p0.toInt8.toInt32) &&& (255 : Int32))), .val (.int (1 : Int32))] [(.int (1 : Int32))])) _
            refine XS.goto X18.here hx rfl (pc0 := 79) (pc' := 83) rfl (hb hby at_79) (by decide) (by decide) ?_
            show Steps p.tables e below (T18.setTop (mkF m 83 #[.val (.int p0), .val (.int p1), .val (.int (p0.toInt8.toInt32)), .val (.int (1 : Int32)), .val (.int (f1 (p0.toInt8.toInt32) (1 : Int32))), .val (.int ((p0.toInt8.toInt32) &&& (255 : Int32))), .val (.int (1 : Int32))] [(.int (1 : Int32))])) _
            exact retN X18 hx (t := .boolean) Bd.returns (by simp) (hb hby at_83) hr
          · show Q0 Z p0 p1 h0 n0 _ T18.heap _
            rw [e18q]
            exact ⟨congrArg (fun q => some (Value.int q)) hv43.symm, N18⟩
        · obtain ⟨fs, hr, hrun, hended, hW, hsame⟩ := X18.leave (v := some (.int (0 : Int32))) (fun h => by rw [Bd.returns] at h; cases h)
          have hv44 : (f0 p0 p1) = (0 : Int32) := by rw [f0, if_neg hc6_2, if_neg hc33_20, if_pos hc46_24, if_neg hc75_26]
          refine ⟨_, _, pre25 _ ?_, hrun, hended, _, _, rfl, ?_, ⟨_, rfl⟩, hW, hsame.mono (by decide) (by decide)⟩
          · show Steps p.tables e below (T18.setTop (mkF m 75 #[.val (.int p0), .val (.int p1), .val (.int (p0.toInt8.toInt32)), .val (.int (1 : Int32)), .val (.int (f1 (p0.toInt8.toInt32) (1 : Int32))), .val (.int ((p0.toInt8.toInt32) &&& (255 : Int32))), .val (.int (1 : Int32))] [(.int (1 : Int32)), (.int (f1 (p0.toInt8.toInt32) (1 : Int32)))])) _
            refine XS.icmpYes X18.here hx rfl (pc0 := 75) (pc' := 82) rfl (hb hby at_75) rfl (feq hc75_26).2 (by decide) (by decide) ?_
            show Steps p.tables e below (T18.setTop (mkF m 82 #[.val (.int p0), .val (.int p1), .val (.int (p0.toInt8.toInt32)), .val (.int (1 : Int32)), .val (.int (f1 (p0.toInt8.toInt32) (1 : Int32))), .val (.int ((p0.toInt8.toInt32) &&& (255 : Int32))), .val (.int (1 : Int32))] [])) _
            refine XS.iconst X18.here hx rfl (hb hby at_82) ?_
            show Steps p.tables e below (T18.setTop (mkF m 83 #[.val (.int p0), .val (.int p1), .val (.int (p0.toInt8.toInt32)), .val (.int (1 : Int32)), .val (.int (f1 (p0.toInt8.toInt32) (1 : Int32))), .val (.int ((p0.toInt8.toInt32) &&& (255 : Int32))), .val (.int (1 : Int32))] [(.int (0 : Int32))])) _
            exact retN X18 hx (t := .boolean) Bd.returns (by simp) (hb hby at_83) hr
          · show Q0 Z p0 p1 h0 n0 _ T18.heap _
            rw [e18q]
            exact ⟨congrArg (fun q => some (Value.int q)) hv44.symm, N18⟩
      · have pre27 : ∀ t, Steps p.tables e below (T18.setTop (mkF m 59 #[.val (.int p0), .val (.int p1), .val (.int (p0.toInt8.toInt32)), .val (.int (1 : Int32)), .val (.int (f1 (p0.toInt8.toInt32) (1 : Int32))), .val (.int ((p0.toInt8.toInt32) &&& (255 : Int32))), .unset] [(.int (34 : Int32)), (.int ((p0.toInt8.toInt32) &&& (255 : Int32)))])) t → Steps p.tables e below (s₁.setTop (entryFrame m #[(.int p0), (.int p1)] maxLocals)) t := fun t kt => pre23 t (by
            show Steps p.tables e below (T18.setTop (mkF m 46 #[.val (.int p0), .val (.int p1), .val (.int (p0.toInt8.toInt32)), .val (.int (1 : Int32)), .val (.int (f1 (p0.toInt8.toInt32) (1 : Int32))), .val (.int ((p0.toInt8.toInt32) &&& (255 : Int32))), .unset] [(.int (10 : Int32)), (.int ((p0.toInt8.toInt32) &&& (255 : Int32)))])) _
            refine XS.icmpYes X18.here hx rfl (pc0 := 46) (pc' := 55) rfl (hb hby at_46) rfl (feq hc46_24).2 (by decide) (by decide) ?_
            show Steps p.tables e below (T18.setTop (mkF m 55 #[.val (.int p0), .val (.int p1), .val (.int (p0.toInt8.toInt32)), .val (.int (1 : Int32)), .val (.int (f1 (p0.toInt8.toInt32) (1 : Int32))), .val (.int ((p0.toInt8.toInt32) &&& (255 : Int32))), .unset] [])) _
            refine XS.iload X18.here hx rfl (hb hby at_55) rfl ?_
            show Steps p.tables e below (T18.setTop (mkF m 57 #[.val (.int p0), .val (.int p1), .val (.int (p0.toInt8.toInt32)), .val (.int (1 : Int32)), .val (.int (f1 (p0.toInt8.toInt32) (1 : Int32))), .val (.int ((p0.toInt8.toInt32) &&& (255 : Int32))), .unset] [(.int ((p0.toInt8.toInt32) &&& (255 : Int32)))])) _
            refine XS.bipush X18.here hx rfl (hb hby at_57) ?_
            exact kt)
        by_cases hc59_28 : ((p0.toInt8.toInt32) &&& (255 : Int32)) = (34 : Int32)
        · have pre29 : ∀ t, Steps p.tables e below (T18.setTop (mkF m 75 #[.val (.int p0), .val (.int p1), .val (.int (p0.toInt8.toInt32)), .val (.int (1 : Int32)), .val (.int (f1 (p0.toInt8.toInt32) (1 : Int32))), .val (.int ((p0.toInt8.toInt32) &&& (255 : Int32))), .val (.int (1 : Int32))] [(.int (1 : Int32)), (.int (f1 (p0.toInt8.toInt32) (1 : Int32)))])) t → Steps p.tables e below (s₁.setTop (entryFrame m #[(.int p0), (.int p1)] maxLocals)) t := fun t kt => pre27 t (by
              show Steps p.tables e below (T18.setTop (mkF m 59 #[.val (.int p0), .val (.int p1), .val (.int (p0.toInt8.toInt32)), .val (.int (1 : Int32)), .val (.int (f1 (p0.toInt8.toInt32) (1 : Int32))), .val (.int ((p0.toInt8.toInt32) &&& (255 : Int32))), .unset] [(.int (34 : Int32)), (.int ((p0.toInt8.toInt32) &&& (255 : Int32)))])) _
              refine XS.icmpNo X18.here hx rfl (hb hby at_59) rfl (teq hc59_28).2 ?_
              show Steps p.tables e below (T18.setTop (mkF m 62 #[.val (.int p0), .val (.int p1), .val (.int (p0.toInt8.toInt32)), .val (.int (1 : Int32)), .val (.int (f1 (p0.toInt8.toInt32) (1 : Int32))), .val (.int ((p0.toInt8.toInt32) &&& (255 : Int32))), .unset] [])) _
              refine XS.iloadN X18.here hx rfl (hb hby at_62) rfl ?_
              show Steps p.tables e below (T18.setTop (mkF m 63 #[.val (.int p0), .val (.int p1), .val (.int (p0.toInt8.toInt32)), .val (.int (1 : Int32)), .val (.int (f1 (p0.toInt8.toInt32) (1 : Int32))), .val (.int ((p0.toInt8.toInt32) &&& (255 : Int32))), .unset] [(.int (1 : Int32))])) _
              refine XS.istore X18.here hx rfl (hb hby at_63) rfl (l' := #[.val (.int p0), .val (.int p1), .val (.int (p0.toInt8.toInt32)), .val (.int (1 : Int32)), .val (.int (f1 (p0.toInt8.toInt32) (1 : Int32))), .val (.int ((p0.toInt8.toInt32) &&& (255 : Int32))), .val (.int (1 : Int32))]) rfl ?_
              show Steps p.tables e below (T18.setTop (mkF m 65 #[.val (.int p0), .val (.int p1), .val (.int (p0.toInt8.toInt32)), .val (.int (1 : Int32)), .val (.int (f1 (p0.toInt8.toInt32) (1 : Int32))), .val (.int ((p0.toInt8.toInt32) &&& (255 : Int32))), .val (.int (1 : Int32))] [])) _
              refine XS.goto X18.here hx rfl (pc0 := 65) (pc' := 71) rfl (hb hby at_65) (by decide) (by decide) ?_
              show Steps p.tables e below (T18.setTop (mkF m 71 #[.val (.int p0), .val (.int p1), .val (.int (p0.toInt8.toInt32)), .val (.int (1 : Int32)), .val (.int (f1 (p0.toInt8.toInt32) (1 : Int32))), .val (.int ((p0.toInt8.toInt32) &&& (255 : Int32))), .val (.int (1 : Int32))] [])) _
              refine XS.iload X18.here hx rfl (hb hby at_71) rfl ?_
              show Steps p.tables e below (T18.setTop (mkF m 73 #[.val (.int p0), .val (.int p1), .val (.int (p0.toInt8.toInt32)), .val (.int (1 : Int32)), .val (.int (f1 (p0.toInt8.toInt32) (1 : Int32))), .val (.int ((p0.toInt8.toInt32) &&& (255 : Int32))), .val (.int (1 : Int32))] [(.int (f1 (p0.toInt8.toInt32) (1 : Int32)))])) _
              refine XS.iload X18.here hx rfl (hb hby at_73) rfl ?_
              exact kt)
          by_cases hc75_30 : (f1 (p0.toInt8.toInt32) (1 : Int32)) = (1 : Int32)
          · obtain ⟨fs, hr, hrun, hended, hW, hsame⟩ := X18.leave (v := some (.int (1 : Int32))) (fun h => by rw [Bd.returns] at h; cases h)
            have hv45 : (f0 p0 p1) = (1 : Int32) := by rw [f0, if_neg hc6_2, if_neg hc33_20, if_neg hc46_24, if_pos hc59_28, if_pos hc75_30]
            refine ⟨_, _, pre29 _ ?_, hrun, hended, _, _, rfl, ?_, ⟨_, rfl⟩, hW, hsame.mono (by decide) (by decide)⟩
            · show Steps p.tables e below (T18.setTop (mkF m 75 #[.val (.int p0), .val (.int p1), .val (.int (p0.toInt8.toInt32)), .val (.int (1 : Int32)), .val (.int (f1 (p0.toInt8.toInt32) (1 : Int32))), .val (.int ((p0.toInt8.toInt32) &&& (255 : Int32))), .val (.int (1 : Int32))] [(.int (1 : Int32)), (.int (f1 (p0.toInt8.toInt32) (1 : Int32)))])) _
              refine XS.icmpNo X18.here hx rfl (hb hby at_75) rfl (teq hc75_30).2 ?_
              show Steps p.tables e below (T18.setTop (mkF m 78 #[.val (.int p0), .val (.int p1), .val (.int (p0.toInt8.toInt32)), .val (.int (1 : Int32)), .val (.int (f1 (p0.toInt8.toInt32) (1 : Int32))), .val (.int ((p0.toInt8.toInt32) &&& (255 : Int32))), .val (.int (1 : Int32))] [])) _
              refine XS.iconst X18.here hx rfl (hb hby at_78) ?_
              show Steps p.tables e below (T18.setTop (mkF m 79 #[.val (.int p0), .val (.int p1), .val (.int (p0.toInt8.toInt32)), .val (.int (1 : Int32)), .val (.int (f1 (p0.toInt8.toInt32) (1 : Int32))), .val (.int ((p0.toInt8.toInt32) &&& (255 : Int32))), .val (.int (1 : Int32))] [(.int (1 : Int32))])) _
              refine XS.goto X18.here hx rfl (pc0 := 79) (pc' := 83) rfl (hb hby at_79) (by decide) (by decide) ?_
              show Steps p.tables e below (T18.setTop (mkF m 83 #[.val (.int p0), .val (.int p1), .val (.int (p0.toInt8.toInt32)), .val (.int (1 : Int32)), .val (.int (f1 (p0.toInt8.toInt32) (1 : Int32))), .val (.int ((p0.toInt8.toInt32) &&& (255 : Int32))), .val (.int (1 : Int32))] [(.int (1 : Int32))])) _
              exact retN X18 hx (t := .boolean) Bd.returns (by simp) (hb hby at_83) hr
            · show Q0 Z p0 p1 h0 n0 _ T18.heap _
              rw [e18q]
              exact ⟨congrArg (fun q => some (Value.int q)) hv45.symm, N18⟩
          · obtain ⟨fs, hr, hrun, hended, hW, hsame⟩ := X18.leave (v := some (.int (0 : Int32))) (fun h => by rw [Bd.returns] at h; cases h)
            have hv46 : (f0 p0 p1) = (0 : Int32) := by rw [f0, if_neg hc6_2, if_neg hc33_20, if_neg hc46_24, if_pos hc59_28, if_neg hc75_30]
            refine ⟨_, _, pre29 _ ?_, hrun, hended, _, _, rfl, ?_, ⟨_, rfl⟩, hW, hsame.mono (by decide) (by decide)⟩
            · show Steps p.tables e below (T18.setTop (mkF m 75 #[.val (.int p0), .val (.int p1), .val (.int (p0.toInt8.toInt32)), .val (.int (1 : Int32)), .val (.int (f1 (p0.toInt8.toInt32) (1 : Int32))), .val (.int ((p0.toInt8.toInt32) &&& (255 : Int32))), .val (.int (1 : Int32))] [(.int (1 : Int32)), (.int (f1 (p0.toInt8.toInt32) (1 : Int32)))])) _
              refine XS.icmpYes X18.here hx rfl (pc0 := 75) (pc' := 82) rfl (hb hby at_75) rfl (feq hc75_30).2 (by decide) (by decide) ?_
              show Steps p.tables e below (T18.setTop (mkF m 82 #[.val (.int p0), .val (.int p1), .val (.int (p0.toInt8.toInt32)), .val (.int (1 : Int32)), .val (.int (f1 (p0.toInt8.toInt32) (1 : Int32))), .val (.int ((p0.toInt8.toInt32) &&& (255 : Int32))), .val (.int (1 : Int32))] [])) _
              refine XS.iconst X18.here hx rfl (hb hby at_82) ?_
              show Steps p.tables e below (T18.setTop (mkF m 83 #[.val (.int p0), .val (.int p1), .val (.int (p0.toInt8.toInt32)), .val (.int (1 : Int32)), .val (.int (f1 (p0.toInt8.toInt32) (1 : Int32))), .val (.int ((p0.toInt8.toInt32) &&& (255 : Int32))), .val (.int (1 : Int32))] [(.int (0 : Int32))])) _
              exact retN X18 hx (t := .boolean) Bd.returns (by simp) (hb hby at_83) hr
            · show Q0 Z p0 p1 h0 n0 _ T18.heap _
              rw [e18q]
              exact ⟨congrArg (fun q => some (Value.int q)) hv46.symm, N18⟩
        · have pre31 : ∀ t, Steps p.tables e below (T18.setTop (mkF m 75 #[.val (.int p0), .val (.int p1), .val (.int (p0.toInt8.toInt32)), .val (.int (1 : Int32)), .val (.int (f1 (p0.toInt8.toInt32) (1 : Int32))), .val (.int ((p0.toInt8.toInt32) &&& (255 : Int32))), .val (.int (0 : Int32))] [(.int (0 : Int32)), (.int (f1 (p0.toInt8.toInt32) (1 : Int32)))])) t → Steps p.tables e below (s₁.setTop (entryFrame m #[(.int p0), (.int p1)] maxLocals)) t := fun t kt => pre27 t (by
              show Steps p.tables e below (T18.setTop (mkF m 59 #[.val (.int p0), .val (.int p1), .val (.int (p0.toInt8.toInt32)), .val (.int (1 : Int32)), .val (.int (f1 (p0.toInt8.toInt32) (1 : Int32))), .val (.int ((p0.toInt8.toInt32) &&& (255 : Int32))), .unset] [(.int (34 : Int32)), (.int ((p0.toInt8.toInt32) &&& (255 : Int32)))])) _
              refine XS.icmpYes X18.here hx rfl (pc0 := 59) (pc' := 68) rfl (hb hby at_59) rfl (feq hc59_28).2 (by decide) (by decide) ?_
              show Steps p.tables e below (T18.setTop (mkF m 68 #[.val (.int p0), .val (.int p1), .val (.int (p0.toInt8.toInt32)), .val (.int (1 : Int32)), .val (.int (f1 (p0.toInt8.toInt32) (1 : Int32))), .val (.int ((p0.toInt8.toInt32) &&& (255 : Int32))), .unset] [])) _
              refine XS.iconst X18.here hx rfl (hb hby at_68) ?_
              show Steps p.tables e below (T18.setTop (mkF m 69 #[.val (.int p0), .val (.int p1), .val (.int (p0.toInt8.toInt32)), .val (.int (1 : Int32)), .val (.int (f1 (p0.toInt8.toInt32) (1 : Int32))), .val (.int ((p0.toInt8.toInt32) &&& (255 : Int32))), .unset] [(.int (0 : Int32))])) _
              refine XS.istore X18.here hx rfl (hb hby at_69) rfl (l' := #[.val (.int p0), .val (.int p1), .val (.int (p0.toInt8.toInt32)), .val (.int (1 : Int32)), .val (.int (f1 (p0.toInt8.toInt32) (1 : Int32))), .val (.int ((p0.toInt8.toInt32) &&& (255 : Int32))), .val (.int (0 : Int32))]) rfl ?_
              show Steps p.tables e below (T18.setTop (mkF m 71 #[.val (.int p0), .val (.int p1), .val (.int (p0.toInt8.toInt32)), .val (.int (1 : Int32)), .val (.int (f1 (p0.toInt8.toInt32) (1 : Int32))), .val (.int ((p0.toInt8.toInt32) &&& (255 : Int32))), .val (.int (0 : Int32))] [])) _
              refine XS.iload X18.here hx rfl (hb hby at_71) rfl ?_
              show Steps p.tables e below (T18.setTop (mkF m 73 #[.val (.int p0), .val (.int p1), .val (.int (p0.toInt8.toInt32)), .val (.int (1 : Int32)), .val (.int (f1 (p0.toInt8.toInt32) (1 : Int32))), .val (.int ((p0.toInt8.toInt32) &&& (255 : Int32))), .val (.int (0 : Int32))] [(.int (f1 (p0.toInt8.toInt32) (1 : Int32)))])) _
              refine XS.iload X18.here hx rfl (hb hby at_73) rfl ?_
              exact kt)
          by_cases hc75_32 : (f1 (p0.toInt8.toInt32) (1 : Int32)) = (0 : Int32)
          · obtain ⟨fs, hr, hrun, hended, hW, hsame⟩ := X18.leave (v := some (.int (1 : Int32))) (fun h => by rw [Bd.returns] at h; cases h)
            have hv47 : (f0 p0 p1) = (1 : Int32) := by rw [f0, if_neg hc6_2, if_neg hc33_20, if_neg hc46_24, if_neg hc59_28, if_pos hc75_32]
            refine ⟨_, _, pre31 _ ?_, hrun, hended, _, _, rfl, ?_, ⟨_, rfl⟩, hW, hsame.mono (by decide) (by decide)⟩
            · show Steps p.tables e below (T18.setTop (mkF m 75 #[.val (.int p0), .val (.int p1), .val (.int (p0.toInt8.toInt32)), .val (.int (1 : Int32)), .val (.int (f1 (p0.toInt8.toInt32) (1 : Int32))), .val (.int ((p0.toInt8.toInt32) &&& (255 : Int32))), .val (.int (0 : Int32))] [(.int (0 : Int32)), (.int (f1 (p0.toInt8.toInt32) (1 : Int32)))])) _
              refine XS.icmpNo X18.here hx rfl (hb hby at_75) rfl (teq hc75_32).2 ?_
              show Steps p.tables e below (T18.setTop (mkF m 78 #[.val (.int p0), .val (.int p1), .val (.int (p0.toInt8.toInt32)), .val (.int (1 : Int32)), .val (.int (f1 (p0.toInt8.toInt32) (1 : Int32))), .val (.int ((p0.toInt8.toInt32) &&& (255 : Int32))), .val (.int (0 : Int32))] [])) _
              refine XS.iconst X18.here hx rfl (hb hby at_78) ?_
              show Steps p.tables e below (T18.setTop (mkF m 79 #[.val (.int p0), .val (.int p1), .val (.int (p0.toInt8.toInt32)), .val (.int (1 : Int32)), .val (.int (f1 (p0.toInt8.toInt32) (1 : Int32))), .val (.int ((p0.toInt8.toInt32) &&& (255 : Int32))), .val (.int (0 : Int32))] [(.int (1 : Int32))])) _
              refine XS.goto X18.here hx rfl (pc0 := 79) (pc' := 83) rfl (hb hby at_79) (by decide) (by decide) ?_
              show Steps p.tables e below (T18.setTop (mkF m 83 #[.val (.int p0), .val (.int p1), .val (.int (p0.toInt8.toInt32)), .val (.int (1 : Int32)), .val (.int (f1 (p0.toInt8.toInt32) (1 : Int32))), .val (.int ((p0.toInt8.toInt32) &&& (255 : Int32))), .val (.int (0 : Int32))] [(.int (1 : Int32))])) _
              exact retN X18 hx (t := .boolean) Bd.returns (by simp) (hb hby at_83) hr
            · show Q0 Z p0 p1 h0 n0 _ T18.heap _
              rw [e18q]
              exact ⟨congrArg (fun q => some (Value.int q)) hv47.symm, N18⟩
          · obtain ⟨fs, hr, hrun, hended, hW, hsame⟩ := X18.leave (v := some (.int (0 : Int32))) (fun h => by rw [Bd.returns] at h; cases h)
            have hv48 : (f0 p0 p1) = (0 : Int32) := by rw [f0, if_neg hc6_2, if_neg hc33_20, if_neg hc46_24, if_neg hc59_28, if_neg hc75_32]
            refine ⟨_, _, pre31 _ ?_, hrun, hended, _, _, rfl, ?_, ⟨_, rfl⟩, hW, hsame.mono (by decide) (by decide)⟩
            · show Steps p.tables e below (T18.setTop (mkF m 75 #[.val (.int p0), .val (.int p1), .val (.int (p0.toInt8.toInt32)), .val (.int (1 : Int32)), .val (.int (f1 (p0.toInt8.toInt32) (1 : Int32))), .val (.int ((p0.toInt8.toInt32) &&& (255 : Int32))), .val (.int (0 : Int32))] [(.int (0 : Int32)), (.int (f1 (p0.toInt8.toInt32) (1 : Int32)))])) _
              refine XS.icmpYes X18.here hx rfl (pc0 := 75) (pc' := 82) rfl (hb hby at_75) rfl (feq hc75_32).2 (by decide) (by decide) ?_
              show Steps p.tables e below (T18.setTop (mkF m 82 #[.val (.int p0), .val (.int p1), .val (.int (p0.toInt8.toInt32)), .val (.int (1 : Int32)), .val (.int (f1 (p0.toInt8.toInt32) (1 : Int32))), .val (.int ((p0.toInt8.toInt32) &&& (255 : Int32))), .val (.int (0 : Int32))] [])) _
              refine XS.iconst X18.here hx rfl (hb hby at_82) ?_
              show Steps p.tables e below (T18.setTop (mkF m 83 #[.val (.int p0), .val (.int p1), .val (.int (p0.toInt8.toInt32)), .val (.int (1 : Int32)), .val (.int (f1 (p0.toInt8.toInt32) (1 : Int32))), .val (.int ((p0.toInt8.toInt32) &&& (255 : Int32))), .val (.int (0 : Int32))] [(.int (0 : Int32))])) _
              exact retN X18 hx (t := .boolean) Bd.returns (by simp) (hb hby at_83) hr
            · show Q0 Z p0 p1 h0 n0 _ T18.heap _
              rw [e18q]
              exact ⟨congrArg (fun q => some (Value.int q)) hv48.symm, N18⟩
set_option maxRecDepth 65536 in
set_option maxHeartbeats 40000000 in
theorem comes_1 {Post : Tables → Env → Array Value → State → Outcome → State → Prop} (hpost : ∀ tb e args s v u, (limb_1_1.after args s (.returned v) u = true ∧ limb_1_2.after args s (.returned v) u = true ∧ True) → FrameEnd s (.returned v) u (Jvm.fieldLocs frame_1_writes args s ++ Jvm.arrayLocs frame_1_arrays args s ++ Jvm.staticLocs frame_1_statics s) 0 0 → Post tb e args s (.returned v) u) :
    ArmFor flags0 classFile x code maxLocals ret World_1 tables_1 room_1 Calls_1 rest_1 Pre_1 Post := by
  intro l hfl _ _ p e ha hc hk s m args below hf hA hF happ hP
  obtain ⟨hcalls, hrest, hpre⟩ := hP
  obtain ⟨-, -, -, hnamed, -, -, -, hat⟩ := (Spec.applies_iff hf).mp happ
  obtain ⟨hg, hn⟩ := and_e (Cond.before_iff.mp (show (Jvm.Cond.and given_1 narrow_1).before args s = true from hpre))
  obtain ⟨g1, g2⟩ := and_e hg
  obtain ⟨g3, g4⟩ := and_e g2
  obtain ⟨w0, w1, rfl⟩ : ∃ w0 w1 : Value, args = #[w0, w1] := by
    have hs : args.size = 2 := by simpa [Cond.value, given_1] using g1
    obtain ⟨L⟩ := args
    match L, hs with
    | [w0, w1], _ => exact ⟨w0, w1, rfl⟩
  have hw := fun d (hd : d ∈ tables_1) => atoms_spec (ws := Jvm.Cond.code x code maxLocals ret :: tables_1) hat d (List.mem_cons_of_mem _ hd)
  have hfit : Fit s := fun {y c} hc i hi => by
    obtain ⟨ha, rfl⟩ := Array.getElem?_eq_some_iff.mp hc
    have q := List.all_eq_true.mp ((Array.all_eq_true_iff_forall_mem.mp hF) _ (Array.getElem_mem ha)) i (List.mem_range.mpr hi)
    simpa [Array.getElem?_eq_getElem hi] using q
  obtain ⟨i0, ei0⟩ := is_v g3
  obtain rfl : w0 = (.int i0) := Option.some.inj ei0
  obtain ⟨i1, ei1⟩ := is_v g4
  obtain rfl : w1 = (.int i1) := Option.some.inj ei1
  obtain ⟨n, o, h1, h2, h3, _, L, rfl, ⟨hv0, N⟩, hq⟩ := rm0 l s _ hw tables_1 i0 i1 s.heap s.heap.size (Nat.le_refl _) p e ha hc hk s m _ below hf ((Spec.applies_iff_loose hf).mp happ).1 ⟨rfl, State.Warmed39.refl s, rfl⟩ trivial
  rw [own_law] at hv0
  subst hv0
  refine ⟨n, _, h1, h2, h3, hpost _ _ _ _ _ _ ⟨Cond.after_iff.mpr rfl, Cond.after_iff.mpr (eq_i res_at (Term.int_eval (1)) rfl), trivial⟩ ⟨hq.1, hq.2.1, (hq.2.2.sift fun y hy => Or.inr (N y hy)).mono (by decide) (by decide)⟩⟩
theorem main_1_1 : Claimed_1_1 := comes_1 fun _ _ _ _ _ _ h hF => ⟨h.1, hF⟩
theorem main_1_2 : Claimed_1_2 := comes_1 fun _ _ _ _ _ _ h hF => ⟨h.2.1, hF⟩
end Jvm.Pilot.@@N@@
namespace Jvm.Pilot.@@N@@
open Jvm Jvm.ClassFile Sem Op Lib Jvm.Free Jvm.Stand Jvm.Pilot.@@N@@.Jvm.D
/-! MADE BY PROGRAM (witnessworld.py) out of the Statement's table words and the real class files: 10 classes; the members and pool entries that the words name. The judged class is class 1, her method 1. -/
namespace start1
open Jvm.ClassFile
def u (s : String) : CpInfo := .utf8 (stringToUtf16 s)
/-- a pool by its gaps: so many unusable entries, then the entry; so many at the end -/
def gap : Nat → List CpInfo → List CpInfo
  | 0, r => r
  | n + 1, r => .unusable :: gap n r
def poolList (es : List (Nat × CpInfo)) (last : Nat) : List CpInfo := es.foldr (fun e r => gap e.1 (e.2 :: r)) (gap last [])
def pool (es : List (Nat × CpInfo)) (last : Nat) : Array CpInfo := ⟨poolList es last⟩
def fileOf (pool : Array CpInfo) (this : Nat) (attrs : Array Attribute := #[]) (ms : Array MethodInfo := #[]) (fl : Nat := 33) (sup : Nat := 0) (ifs : Array Nat := #[]) (fds : Array FieldInfo := #[]) : ClassFile where
  minorVersion := 0
  majorVersion := 65
  constantPool := pool
  accessFlags := fl
  thisClass := this
  superClass := sup
  interfaces := ifs
  fields := fds
  methods := ms
  attributes := attrs
def plain (name : String) (sup : Option ClassId) : Class where
  name := name
  kind := .ordinary
  loader := none
  accessFlags := 33
  super := sup
  interfaces := #[]
  cf := none
  fields := #[]
  methods := #[]
  instanceTypes := #[]
  staticTypes := #[]
  resolved := #[]
  callSites := []
  init := .initialized
  statics := none
  mirror := none

def pool0 : Array CpInfo := pool [(5, u "<init>"), (0, u "()V"), (1, .class_ 10), (1, u "java/lang/Object")] 113

def k0m0 : Method := { name := "<init>", desc := "()V", sig := { parameters := [], returnType := none }, accessFlags := 1, code := none }
/-- java/lang/Object -/
def k0 : Class := { plain "java/lang/Object" none with
  accessFlags := 33
  interfaces := #[]
  cf := some (fileOf pool0 8 #[] #[{ accessFlags := 1, nameIndex := 5, descriptorIndex := 6, attributes := #[] }] 33 0 #[] #[])
  fields := #[]
  methods := #[k0m0]
  instanceTypes := #[]
  staticTypes := #[]
  resolved := Array.replicate 124 none
  statics := none }

def pool1 : Array CpInfo := pool [(2, .class_ 4), (1, u "java/lang/Object"), (0, u "<init>"), (0, u "()V"), (0, .methodref 8 9), (0, .class_ 10), (0, .nameAndType 11 12), (0, u "com/example/cistern/cistern/io/CsvReader"), (0, u "opensField"), (0, u "(BZ)Z"), (0, .class_ 14), (0, u "com/example/cistern/cistern/io/CsvReaderOpensFieldPinLaw"), (2, u "law"), (0, u "(II)Z")] 3

def k1m0 : Method := { name := "<init>", desc := "()V", sig := { parameters := [], returnType := none }, accessFlags := 1, code := none }
def k1c1 : Code := { maxStack := 2, maxLocals := 7, code := code, exceptionTable := #[], attributes := #[] }
def k1m1 : Method := { name := "law", desc := "(II)Z", sig := { parameters := [.int, .int], returnType := some .boolean }, accessFlags := 9, code := some k1c1 }
/-- com/example/cistern/cistern/io/CsvReaderOpensFieldPinLaw -/
def k1 : Class := { plain "com/example/cistern/cistern/io/CsvReaderOpensFieldPinLaw" (some 0) with
  accessFlags := 49
  interfaces := #[]
  cf := some (fileOf pool1 13 #[] #[{ accessFlags := 1, nameIndex := 5, descriptorIndex := 6, attributes := #[] }, { accessFlags := 9, nameIndex := 17, descriptorIndex := 18, attributes := #[] }] 49 2 #[] #[])
  fields := #[]
  methods := #[k1m0, k1m1]
  instanceTypes := #[]
  staticTypes := #[]
  resolved := Array.replicate 22 none
  statics := none }

def pool2 : Array CpInfo := pool [(4, .class_ 6), (1, u "java/lang/Object"), (0, u "<init>"), (0, u "()V"), (0, .class_ 10), (0, u "com/example/cistern/cistern/io/RecordReader"), (3, u "_buffer"), (0, u "[B"), (2, u "_start"), (0, u "I"), (2, u "_end"), (2, u "NO_BYTES"), (2, u "_built"), (2, u "_in"), (0, u "Ljava/io/InputStream;"), (2, u "_offset"), (0, u "J"), (2, u "_records"), (2, u "_ended"), (0, u "Z"), (38, u "WORDS"), (0, u "Ljava/lang/invoke/VarHandle;"), (21, .class_ 107), (1, u "com/example/cistern/cistern/io/RecordReader$Receiver"), (100, u "BUFFER_SIZE"), (1, u "LOW_SEVEN_BITS"), (0, u "ONE_IN_EACH_BYTE"), (0, u "MAX_RECORD_LENGTH")] 42

def k2m0 : Method := { name := "<init>", desc := "()V", sig := { parameters := [], returnType := none }, accessFlags := 1, code := none }
/-- com/example/cistern/cistern/io/RecordReader -/
def k2 : Class := { plain "com/example/cistern/cistern/io/RecordReader" (some 0) with
  accessFlags := 1057
  interfaces := #[]
  cf := some (fileOf pool2 9 #[.nestMembers #[105]] #[{ accessFlags := 1, nameIndex := 7, descriptorIndex := 8, attributes := #[] }] 1057 4 #[] #[{ accessFlags := 26, nameIndex := 208, descriptorIndex := 19, attributes := #[] }, { accessFlags := 26, nameIndex := 82, descriptorIndex := 83, attributes := #[] }, { accessFlags := 26, nameIndex := 210, descriptorIndex := 36, attributes := #[] }, { accessFlags := 26, nameIndex := 211, descriptorIndex := 36, attributes := #[] }, { accessFlags := 26, nameIndex := 212, descriptorIndex := 36, attributes := #[] }, { accessFlags := 26, nameIndex := 25, descriptorIndex := 15, attributes := #[] }, { accessFlags := 20, nameIndex := 14, descriptorIndex := 15, attributes := #[] }, { accessFlags := 4, nameIndex := 18, descriptorIndex := 19, attributes := #[] }, { accessFlags := 4, nameIndex := 22, descriptorIndex := 19, attributes := #[] }, { accessFlags := 2, nameIndex := 31, descriptorIndex := 32, attributes := #[] }, { accessFlags := 2, nameIndex := 35, descriptorIndex := 36, attributes := #[] }, { accessFlags := 2, nameIndex := 39, descriptorIndex := 36, attributes := #[] }, { accessFlags := 2, nameIndex := 42, descriptorIndex := 43, attributes := #[] }, { accessFlags := 2, nameIndex := 28, descriptorIndex := 15, attributes := #[] }])
  fields := #[{ name := "BUFFER_SIZE", type := .int, accessFlags := 26, slot := 0, constantValue := 0 }, { name := "WORDS", type := (.object "java/lang/invoke/VarHandle"), accessFlags := 26, slot := 1, constantValue := 0 }, { name := "LOW_SEVEN_BITS", type := .long, accessFlags := 26, slot := 2, constantValue := 0 }, { name := "ONE_IN_EACH_BYTE", type := .long, accessFlags := 26, slot := 3, constantValue := 0 }, { name := "MAX_RECORD_LENGTH", type := .long, accessFlags := 26, slot := 4, constantValue := 0 }, { name := "NO_BYTES", type := (.array .byte), accessFlags := 26, slot := 5, constantValue := 0 }, { name := "_buffer", type := (.array .byte), accessFlags := 20, slot := 0, constantValue := 0 }, { name := "_start", type := .int, accessFlags := 4, slot := 1, constantValue := 0 }, { name := "_end", type := .int, accessFlags := 4, slot := 2, constantValue := 0 }, { name := "_in", type := (.object "java/io/InputStream"), accessFlags := 2, slot := 3, constantValue := 0 }, { name := "_offset", type := .long, accessFlags := 2, slot := 4, constantValue := 0 }, { name := "_records", type := .long, accessFlags := 2, slot := 5, constantValue := 0 }, { name := "_ended", type := .boolean, accessFlags := 2, slot := 6, constantValue := 0 }, { name := "_built", type := (.array .byte), accessFlags := 2, slot := 7, constantValue := 0 }]
  methods := #[k2m0]
  instanceTypes := #[(.array .byte), .int, .int, (.object "java/io/InputStream"), .long, .long, .boolean, (.array .byte)]
  staticTypes := #[.int, (.object "java/lang/invoke/VarHandle"), .long, .long, .long, (.array .byte)]
  resolved := Array.replicate 255 none
  statics := none }

def pool3 : Array CpInfo := pool [(2, .class_ 4), (1, u "com/example/cistern/cistern/io/RecordReader"), (0, u "<init>"), (0, u "()V"), (0, .class_ 8), (0, u "com/example/cistern/cistern/io/CsvReader"), (6, u "_quoted"), (0, u "Z"), (14, u "QUOTES"), (0, u "J"), (6, u "LFS"), (6, u "COMMAS"), (12, u "_closed"), (38, u "HIGH_BITS"), (2, u "opensField"), (0, u "(BZ)Z"), (10, u "QUOTE"), (0, u "B"), (2, u "COMMA"), (1, u "LF"), (1, u "FIRST_HIGH_BIT")] 13

def k3m0 : Method := { name := "<init>", desc := "()V", sig := { parameters := [], returnType := none }, accessFlags := 1, code := none }
def k3c1 : Code := { maxStack := 2, maxLocals := 2, code := prog_14_method_2_code, exceptionTable := #[], attributes := #[] }
def k3m1 : Method := { name := "opensField", desc := "(BZ)Z", sig := { parameters := [.byte, .boolean], returnType := some .boolean }, accessFlags := 8, code := some k3c1 }
/-- com/example/cistern/cistern/io/CsvReader -/
def k3 : Class := { plain "com/example/cistern/cistern/io/CsvReader" (some 2) with
  accessFlags := 49
  interfaces := #[]
  cf := some (fileOf pool3 7 #[] #[{ accessFlags := 1, nameIndex := 5, descriptorIndex := 6, attributes := #[] }, { accessFlags := 8, nameIndex := 101, descriptorIndex := 102, attributes := #[] }] 49 2 #[] #[{ accessFlags := 24, nameIndex := 113, descriptorIndex := 114, attributes := #[] }, { accessFlags := 24, nameIndex := 117, descriptorIndex := 114, attributes := #[] }, { accessFlags := 24, nameIndex := 119, descriptorIndex := 114, attributes := #[] }, { accessFlags := 26, nameIndex := 31, descriptorIndex := 32, attributes := #[] }, { accessFlags := 26, nameIndex := 46, descriptorIndex := 32, attributes := #[] }, { accessFlags := 26, nameIndex := 39, descriptorIndex := 32, attributes := #[] }, { accessFlags := 26, nameIndex := 98, descriptorIndex := 32, attributes := #[] }, { accessFlags := 26, nameIndex := 121, descriptorIndex := 32, attributes := #[] }, { accessFlags := 2, nameIndex := 15, descriptorIndex := 16, attributes := #[] }, { accessFlags := 2, nameIndex := 59, descriptorIndex := 16, attributes := #[] }])
  fields := #[{ name := "QUOTE", type := .byte, accessFlags := 24, slot := 0, constantValue := 0 }, { name := "COMMA", type := .byte, accessFlags := 24, slot := 1, constantValue := 0 }, { name := "LF", type := .byte, accessFlags := 24, slot := 2, constantValue := 0 }, { name := "QUOTES", type := .long, accessFlags := 26, slot := 3, constantValue := 0 }, { name := "COMMAS", type := .long, accessFlags := 26, slot := 4, constantValue := 0 }, { name := "LFS", type := .long, accessFlags := 26, slot := 5, constantValue := 0 }, { name := "HIGH_BITS", type := .long, accessFlags := 26, slot := 6, constantValue := 0 }, { name := "FIRST_HIGH_BIT", type := .long, accessFlags := 26, slot := 7, constantValue := 0 }, { name := "_quoted", type := .boolean, accessFlags := 2, slot := 8, constantValue := 0 }, { name := "_closed", type := .boolean, accessFlags := 2, slot := 9, constantValue := 0 }]
  methods := #[k3m0, k3m1]
  instanceTypes := #[(.array .byte), .int, .int, (.object "java/io/InputStream"), .long, .long, .boolean, (.array .byte), .boolean, .boolean]
  staticTypes := #[.byte, .byte, .byte, .long, .long, .long, .long, .long]
  resolved := Array.replicate 135 none
  statics := none }

def pool4 : Array CpInfo := pool [(1, u "java/lang/Cloneable"), (0, .class_ 1), (0, u "java/lang/Object"), (0, .class_ 3)] 3

/-- java/lang/Cloneable -/
def k4 : Class := { plain "java/lang/Cloneable" (some 0) with
  accessFlags := 1537
  interfaces := #[]
  cf := some (fileOf pool4 2 #[] #[] 1537 4 #[] #[])
  fields := #[]
  methods := #[]
  instanceTypes := #[]
  staticTypes := #[]
  resolved := Array.replicate 8 none
  statics := none }

def pool5 : Array CpInfo := pool [(1, u "java/io/Serializable"), (0, .class_ 1), (0, u "java/lang/Object"), (0, .class_ 3)] 3

/-- java/io/Serializable -/
def k5 : Class := { plain "java/io/Serializable" (some 0) with
  accessFlags := 1537
  interfaces := #[]
  cf := some (fileOf pool5 2 #[] #[] 1537 4 #[] #[])
  fields := #[]
  methods := #[]
  instanceTypes := #[]
  staticTypes := #[]
  resolved := Array.replicate 8 none
  statics := none }

/-- the primitive byte -/
def k6 : Class := { plain "byte" none with kind := .primitive 'B', accessFlags := 0x411 }
/-- [B -/
def k7 : Class := { plain "[B" (some 0) with kind := .array 6 .byte, interfaces := #[4, 5], accessFlags := 1041 }

/-- the primitive int -/
def k8 : Class := { plain "int" none with kind := .primitive 'I', accessFlags := 0x411 }
/-- [I -/
def k9 : Class := { plain "[I" (some 0) with kind := .array 8 .int, interfaces := #[4, 5], accessFlags := 1041 }

def heap : Heap := #[]
def classes : Array Class := #[k0, k1, k2, k3, k4, k5, k6, k7, k8, k9]
def interned : List (Array UInt16 × Addr) := []
def slotsUsed : Nat := 0
def theMethod : MethodId := ⟨1, 1⟩
def args0 : Array Value := #[.int 5, .int 9]
def aboutOver (below : List Frame) : State where
  vm := { classes := classes, interned := interned.toArray }
  heap := heap
  slotsUsed := slotsUsed
  threads := #[{ frames := .invoking theMethod args0 :: below }]
def below0 : List Frame := [.native { method := ⟨0, 0⟩, args := #[] }]
def about1 : State := aboutOver below0
def p0 : Program := .bare "" "" ""
def e0 : Env := launch0.env 0 0 0
theorem w_frames : about1.frames = Frame.invoking theMethod args0 :: below0 := rfl
set_option maxRecDepth 65536 in
theorem w_args : argsFit about1.vm theMethod args0 = true := by decide +kernel
set_option maxRecDepth 65536 in
theorem w_heap : heapFits about1 = true := by decide +kernel
set_option maxRecDepth 65536 in
theorem w_runnable : about1.curStatus? = some .runnable := by decide +kernel
set_option maxRecDepth 65536 in
theorem w_alone : about1.alone = true := by decide +kernel
set_option maxRecDepth 65536 in
theorem w_named : about1.methodNamed? x = some theMethod := by decide +kernel
set_option maxRecDepth 65536 in
theorem w_hears : about1.hears theMethod below0 = true := by decide +kernel
set_option maxRecDepth 65536 in
theorem w_ripe : about1.ripe theMethod args0 below0 = true := by decide +kernel
theorem w_running : about1.status = .running := rfl
set_option maxRecDepth 65536 in
theorem w_room : about1.hasRoom e0.platform room_1 = true :=
  launch0.hasRoom_least _ room_1 (by decide +kernel) (by decide +kernel) (by decide +kernel) (by decide +kernel) (by decide +kernel) (by decide +kernel)
theorem allAtoms_all (ts : List Jvm.Cond) (a : Array Jvm.Value) (st : Jvm.State) : (allAtoms ts).before a st = ts.all (fun c => c.before a st) := by
  induction ts with
  | nil => rfl
  | cons c t ih =>
    show (Jvm.Cond.and c (allAtoms t)).before a st = _
    rw [Jvm.Cond.before_and, ih, List.all_cons]
def words1 : List Jvm.Cond := Jvm.Cond.code x code maxLocals ret :: tables_1
/-- a 'code' word, met by the world's own term for the bytes: nothing is compared byte by byte -/
theorem code_word {y : MethodName} {bytes : ByteArray} {mx : Nat} {rt : Option FieldType} {a : Array Value} {s : State} {m : MethodId} {meth : Method} {c : Code} (h1 : s.methodNamed? y = some m) (h2 : s.vm.method? m = some meth) (h3 : meth.code = some c) (h4 : c.code = bytes)
    (h5 : (c.maxLocals == mx && c.exceptionTable.isEmpty && decide (c.maxStack ≤ mostOperands) && decide (meth.sig.returnType = rt) && !meth.locks && decide (parseMethodDescriptor y.desc = some meth.sig)) = true) : (Jvm.Cond.code y bytes mx rt).before a s = true := by
  simp only [Bool.and_eq_true, beq_iff_eq, Bool.not_eq_true', decide_eq_true_eq] at h5
  obtain ⟨⟨⟨⟨⟨g1, g2⟩, g3⟩, g4⟩, g5⟩, g6⟩ := h5
  simp [Cond.before, Cond.holds, Cond.value, h1, h2, h3, h4, g1, g2, g3, g4, g5, g6]
def isCode : Jvm.Cond → Bool
  | .code _ _ _ _ => true
  | _ => false
theorem all_split {L : List Jvm.Cond} {P : Jvm.Cond → Bool} (h1 : L.all (fun c => isCode c || P c) = true) (h2 : ∀ c ∈ L.filter isCode, P c = true) : L.all P = true := by
  refine List.all_eq_true.mpr fun c hc => ?_
  have h := List.all_eq_true.mp h1 c hc
  rcases Bool.eq_false_or_eq_true (isCode c) with hi | hi
  · exact h2 c (List.mem_filter.mpr ⟨hc, hi⟩)
  · simpa [hi] using h
set_option maxRecDepth 65536 in
theorem w_c0 : (Jvm.Cond.code x code maxLocals ret).before args0 about1 = true := code_word (m := ⟨1, 1⟩) (meth := k1m1) (c := k1c1) (by decide +kernel) rfl rfl rfl (by decide +kernel)
set_option maxRecDepth 65536 in
theorem w_c1 : (Jvm.Cond.code ({ cls := "com/example/cistern/cistern/io/CsvReader", name := "opensField", desc := "(BZ)Z" } : Jvm.MethodName) prog_14_method_2_code (2 : Nat) (Option.some Jvm.ClassFile.FieldType.boolean)).before args0 about1 = true := code_word (m := ⟨3, 1⟩) (meth := k3m1) (c := k3c1) (by decide +kernel) rfl rfl rfl (by decide +kernel)
def codes1 : List Jvm.Cond := [Jvm.Cond.code x code maxLocals ret, Jvm.Cond.code ({ cls := "com/example/cistern/cistern/io/CsvReader", name := "opensField", desc := "(BZ)Z" } : Jvm.MethodName) prog_14_method_2_code (2 : Nat) (Option.some Jvm.ClassFile.FieldType.boolean)]
set_option maxRecDepth 65536 in
theorem codes_eq : words1.filter isCode = codes1 := rfl
theorem w_codes : ∀ c ∈ words1.filter isCode, c.before args0 about1 = true := by
  rw [codes_eq]
  intro c hc
  simp only [codes1, List.mem_cons, List.not_mem_nil, or_false] at hc
  rcases hc with rfl | rfl
  · exact w_c0
  · exact w_c1
set_option maxRecDepth 65536 in
theorem w_t1 : words1.all (fun c => isCode c || c.before args0 about1) = true := by decide +kernel
theorem w_tables : (allAtoms (Jvm.Cond.code x code maxLocals ret :: tables_1)).before args0 about1 = true := by
  rw [allAtoms_all]
  show words1.all (fun c => c.before args0 about1) = true
  refine all_split ?_ w_codes
  rw [w_t1]
set_option maxRecDepth 65536 in
theorem w_case : (Jvm.Cond.and given_1 narrow_1).before args0 about1 = true := by decide +kernel
theorem w_applies : (headSpec (Jvm.Cond.code x code maxLocals ret :: tables_1) room_1).applies x e0.platform about1 = true :=
  (Spec.applies_iff w_frames).mpr ⟨w_running, w_runnable, w_alone, w_named, w_hears, w_ripe, w_room, w_tables⟩
theorem atStart : AtStart classFile x code maxLocals ret World_1 tables_1 room_1 Calls_1 rest_1 Pre_1 launch0 p0 e0 about1 theMethod args0 below0 :=
  ⟨lists_1, trivial, launch0.admits_env _ _ _, launch0.least_env, fairChoices_fair.cas, fairChoices_fair.clock, w_frames, w_args, w_heap, w_applies, trivial, trivial, w_case⟩
end start1
theorem witness_1 : WitnessClaimed_1 := ⟨start1.p0, start1.e0, start1.about1, start1.theMethod, start1.args0, start1.below0, start1.atStart⟩
end Jvm.Pilot.@@N@@
