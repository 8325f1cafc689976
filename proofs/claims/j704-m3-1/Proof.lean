import JvmDerived
import JvmDerived.Pilot.@@N@@Statement
import JvmDerived.Pilot.@@N@@Code
set_option linter.unusedVariables false
set_option linter.unusedSimpArgs false
namespace Jvm.RoadKit
open Sem ClassFile Op Lib Jvm.Stand Jvm.Free Jvm.LawKit
section New
variable {p : Program} {l : Launch} {e : Env} {R : Room} {s : State} {m : MethodId} {args : Array Value} {below : List Frame} {meth : Method} {c : Code} {T : State} {locs : List Loc} {cells slots : Nat}
theorem retI (X : Stand p l e R s m args below meth c T locs cells slots) (hx : p.tables.exec = Jvm.exec) {pc : Nat} {Ls : Array Slot} {z : Int32} {rest : List Value} (hret : meth.sig.returnType = some .int) (hd : decode c.code pc = .ok (.ireturn, 1)) {fs : List Frame}
    (hl : ∀ (f : JFrame) (acts : List Action), f.method = m → f.locked = none → f.entered = [] → (doReturn e (T.setTop f) acts (some (.int z))).1 = T.setFrames fs) : Steps p.tables e below (T.setTop (mkF m pc Ls (.int z :: rest))) (T.setFrames fs) := by
  have hm' : T.vm.method? m = some meth := X.method'
  have hn : narrow .int (.int z) = .int z := rfl
  show Steps p.tables e below (T.setTop { method := m, pc := pc, locals := Ls, stack := _ :: rest, locked := none }) _
  jvm_step X.here [X.here.top, hx, hd, hm', hret, hn]
  first | (intro acts; rw [hl _ acts rfl rfl rfl]) | rw [hl _ _ rfl rfl rfl]
  exact Steps.refl _
end New
end Jvm.RoadKit
namespace Jvm.Pilot.@@N@@
open Jvm Jvm.ClassFile Sem Op Lib Jvm.Free Jvm.Stand Jvm.LawKit Jvm.RoadKit Bundle Jvm.Pilot.@@N@@.Jvm.D
theorem d1_0 : decode jdk_29_method_70_code 0 = .ok (.lload_n 0, 1) := by decide +kernel
theorem d1_1 : decode jdk_29_method_70_code 1 = .ok (.lload_n 2, 1) := by decide +kernel
theorem d1_2 : decode jdk_29_method_70_code 2 = .ok (.lcmp, 1) := by decide +kernel
theorem d1_3 : decode jdk_29_method_70_code 3 = .ok (.ifCond .gt 7, 3) := by decide +kernel
theorem d1_6 : decode jdk_29_method_70_code 6 = .ok (.lload_n 0, 1) := by decide +kernel
theorem d1_7 : decode jdk_29_method_70_code 7 = .ok (.goto 4, 3) := by decide +kernel
theorem d1_10 : decode jdk_29_method_70_code 10 = .ok (.lload_n 2, 1) := by decide +kernel
theorem d1_11 : decode jdk_29_method_70_code 11 = .ok (.lreturn, 1) := by decide +kernel
theorem ef_1 (m : MethodId) (x0 : Int64) (x1 : Int64) : entryFrame m #[(.long x0), (.long x1)] 4 = mkF m 0 #[.val (.long x0), .second, .val (.long x1), .second] [] := by first | (simp [entryFrame, mkF, argsToLocals, Value.category]; done) | rfl
def f1 (q0 : Int64) (q1 : Int64) : Int64 :=
  if (0 : Int32) < (lcmpW q0 q1) then (q1) else
  (q0)
def Q1 (Z : State) (q0 : Int64) (q1 : Int64) (h0 : Heap) (n0 : Nat) (v : Option Value) (h : Heap) (L : List Loc) : Prop := v = some (.long (f1 q0 q1)) ∧ Fr n0 L ∧ h = h0
set_option maxRecDepth 65536 in
set_option maxHeartbeats 40000000 in
theorem rm1 (l : Launch) (Z : State) (a0 : Array Value) (hw : ∀ d ∈ tables_1, d.before a0 Z = true) (ws : List Jvm.Cond) (q0 : Int64) (q1 : Int64) (h0 : Heap) (n0 : Nat) (Z0 : n0 ≤ h0.size) :
    MetFree l (⟨"java/lang/Math", "min", "(JJ)J"⟩ : MethodName) (head1 (Jvm.Cond.code (⟨"java/lang/Math", "min", "(JJ)J"⟩ : MethodName) jdk_29_method_70_code 4 (some .long) :: ws) ({ frames := 0, cells := 0, slots := 0, locals := 0 } : Room)) (fun a U => a = #[(.long q0), (.long q1)] ∧ Z.Warmed39 U.vm ∧ U.heap = h0) (fun _ _ _ _ _ => True) (fun _ U o U' => ∃ v L, o = .returned v ∧ Q1 Z q0 q1 h0 n0 v U'.heap L ∧ FrameEnd U o U' L ({ frames := 0, cells := 0, slots := 0, locals := 0 } : Room).cells ({ frames := 0, cells := 0, slots := 0, locals := 0 } : Room).slots) := by
  refine MetFree.of_bodySF (Jvm.Free.JP.mathPlain rfl (by decide +kernel)) hisR ?_
  intro p e s m args below meth c s₁ Bd hml0 hP hK
  obtain ⟨rfl, hZ, hh⟩ := hP
  have hx := Bd.exec
  have hby := Bd.bytes
  have hml : c.maxLocals = 4 := hml0
  have hown : s.vm.findClass "java/lang/Math" = some m.cls := findClass_of_methodNamed Bd.named
  have hnm := (name_of_methodNamed Bd.named Bd.method).1
  have X0 : Stand p l e ({ frames := 0, cells := 0, slots := 0, locals := 0 } : Room) s m #[(.long q0), (.long q1)] below meth c s₁ [] 0 0 := Stand.of_body Bd
  have e0 : s₁.heap = h0 := by rw [← hh, Bd.state]; rfl
  have N0 := Fr.nil n0
  have pre0 : ∀ t, Steps p.tables e below (s₁.setTop (mkF m 0 #[.val (.long q0), .second, .val (.long q1), .second] [])) t → Steps p.tables e below (s₁.setTop (entryFrame m #[(.long q0), (.long q1)] 4)) t := fun t k => castTop (ef_1 m q0 q1) k
  have pre1 : ∀ t, Steps p.tables e below (s₁.setTop (mkF m 3 #[.val (.long q0), .second, .val (.long q1), .second] [(.int (lcmpW q0 q1))])) t → Steps p.tables e below (s₁.setTop (entryFrame m #[(.long q0), (.long q1)] 4)) t := fun t kt => pre0 t (by
      show Steps p.tables e below (s₁.setTop (mkF m 0 #[.val (.long q0), .second, .val (.long q1), .second] [])) _
      refine XS.lloadN X0.here hx rfl (hb hby d1_0) rfl ?_
      show Steps p.tables e below (s₁.setTop (mkF m 1 #[.val (.long q0), .second, .val (.long q1), .second] [(.long q0)])) _
      refine XS.lloadN X0.here hx rfl (hb hby d1_1) rfl ?_
      show Steps p.tables e below (s₁.setTop (mkF m 2 #[.val (.long q0), .second, .val (.long q1), .second] [(.long q1), (.long q0)])) _
      refine XS.lcmp X0.here hx rfl (hb hby d1_2) rfl ?_
      exact kt)
  by_cases hc3_2 : (0 : Int32) < (lcmpW q0 q1)
  · obtain ⟨fs, hr, hrun, hended, hW, hsame⟩ := X0.leave (v := some (.long q1)) (fun h => by rw [Bd.returns] at h; cases h)
    have hv3 : (f1 q0 q1) = q1 := by rw [f1, if_pos hc3_2]
    refine ⟨_, _, pre1 _ ?_, hrun, hended, _, _, rfl, ?_, ⟨_, rfl⟩, hW, hsame.mono (by decide) (by decide)⟩
    · show Steps p.tables e below (s₁.setTop (mkF m 3 #[.val (.long q0), .second, .val (.long q1), .second] [(.int (lcmpW q0 q1))])) _
      refine XS.ifYes X0.here hx rfl (pc0 := 3) (pc' := 10) rfl (hb hby d1_3) rfl ((if0 _ _).trans (tlt hc3_2).2.2.1) (by decide) (by decide) ?_
      show Steps p.tables e below (s₁.setTop (mkF m 10 #[.val (.long q0), .second, .val (.long q1), .second] [])) _
      refine XS.lloadN X0.here hx rfl (hb hby d1_10) rfl ?_
      show Steps p.tables e below (s₁.setTop (mkF m 11 #[.val (.long q0), .second, .val (.long q1), .second] [(.long q1)])) _
      jvm_step X0.here [X0.here.top, hx, (hb hby d1_11), X0.method', Bd.returns, narrow]
      first | (intro acts; rw [hr _ acts rfl rfl rfl]) | rw [hr _ _ rfl rfl rfl]
      exact Steps.refl _
    · show Q1 Z q0 q1 h0 n0 _ s₁.heap _
      rw [e0]
      exact ⟨congrArg (fun q => some (Value.long q)) hv3.symm, N0, rfl⟩
  · obtain ⟨fs, hr, hrun, hended, hW, hsame⟩ := X0.leave (v := some (.long q0)) (fun h => by rw [Bd.returns] at h; cases h)
    have hv4 : (f1 q0 q1) = q0 := by rw [f1, if_neg hc3_2]
    refine ⟨_, _, pre1 _ ?_, hrun, hended, _, _, rfl, ?_, ⟨_, rfl⟩, hW, hsame.mono (by decide) (by decide)⟩
    · show Steps p.tables e below (s₁.setTop (mkF m 3 #[.val (.long q0), .second, .val (.long q1), .second] [(.int (lcmpW q0 q1))])) _
      refine XS.ifNo X0.here hx rfl (hb hby d1_3) rfl ((if0 _ _).trans (flt hc3_2).2.2.1) ?_
      show Steps p.tables e below (s₁.setTop (mkF m 6 #[.val (.long q0), .second, .val (.long q1), .second] [])) _
      refine XS.lloadN X0.here hx rfl (hb hby d1_6) rfl ?_
      show Steps p.tables e below (s₁.setTop (mkF m 7 #[.val (.long q0), .second, .val (.long q1), .second] [(.long q0)])) _
      refine XS.goto X0.here hx rfl (pc0 := 7) (pc' := 11) rfl (hb hby d1_7) (by decide) (by decide) ?_
      show Steps p.tables e below (s₁.setTop (mkF m 11 #[.val (.long q0), .second, .val (.long q1), .second] [(.long q0)])) _
      jvm_step X0.here [X0.here.top, hx, (hb hby d1_11), X0.method', Bd.returns, narrow]
      first | (intro acts; rw [hr _ acts rfl rfl rfl]) | rw [hr _ _ rfl rfl rfl]
      exact Steps.refl _
    · show Q1 Z q0 q1 h0 n0 _ s₁.heap _
      rw [e0]
      exact ⟨congrArg (fun q => some (Value.long q)) hv4.symm, N0, rfl⟩
theorem d2_0 : decode jdk_29_method_66_code 0 = .ok (.lload_n 0, 1) := by decide +kernel
theorem d2_1 : decode jdk_29_method_66_code 1 = .ok (.lload_n 2, 1) := by decide +kernel
theorem d2_2 : decode jdk_29_method_66_code 2 = .ok (.lcmp, 1) := by decide +kernel
theorem d2_3 : decode jdk_29_method_66_code 3 = .ok (.ifCond .lt 7, 3) := by decide +kernel
theorem d2_6 : decode jdk_29_method_66_code 6 = .ok (.lload_n 0, 1) := by decide +kernel
theorem d2_7 : decode jdk_29_method_66_code 7 = .ok (.goto 4, 3) := by decide +kernel
theorem d2_10 : decode jdk_29_method_66_code 10 = .ok (.lload_n 2, 1) := by decide +kernel
theorem d2_11 : decode jdk_29_method_66_code 11 = .ok (.lreturn, 1) := by decide +kernel
theorem ef_2 (m : MethodId) (x0 : Int64) (x1 : Int64) : entryFrame m #[(.long x0), (.long x1)] 4 = mkF m 0 #[.val (.long x0), .second, .val (.long x1), .second] [] := by first | (simp [entryFrame, mkF, argsToLocals, Value.category]; done) | rfl
def f2 (q0 : Int64) (q1 : Int64) : Int64 :=
  if (lcmpW q0 q1) < (0 : Int32) then (q1) else
  (q0)
def Q2 (Z : State) (q0 : Int64) (q1 : Int64) (h0 : Heap) (n0 : Nat) (v : Option Value) (h : Heap) (L : List Loc) : Prop := v = some (.long (f2 q0 q1)) ∧ Fr n0 L ∧ h = h0
set_option maxRecDepth 65536 in
set_option maxHeartbeats 40000000 in
theorem rm2 (l : Launch) (Z : State) (a0 : Array Value) (hw : ∀ d ∈ tables_1, d.before a0 Z = true) (ws : List Jvm.Cond) (q0 : Int64) (q1 : Int64) (h0 : Heap) (n0 : Nat) (Z0 : n0 ≤ h0.size) :
    MetFree l (⟨"java/lang/Math", "max", "(JJ)J"⟩ : MethodName) (head1 (Jvm.Cond.code (⟨"java/lang/Math", "max", "(JJ)J"⟩ : MethodName) jdk_29_method_66_code 4 (some .long) :: ws) ({ frames := 0, cells := 0, slots := 0, locals := 0 } : Room)) (fun a U => a = #[(.long q0), (.long q1)] ∧ Z.Warmed39 U.vm ∧ U.heap = h0) (fun _ _ _ _ _ => True) (fun _ U o U' => ∃ v L, o = .returned v ∧ Q2 Z q0 q1 h0 n0 v U'.heap L ∧ FrameEnd U o U' L ({ frames := 0, cells := 0, slots := 0, locals := 0 } : Room).cells ({ frames := 0, cells := 0, slots := 0, locals := 0 } : Room).slots) := by
  refine MetFree.of_bodySF (Jvm.Free.JP.mathPlain rfl (by decide +kernel)) hisR ?_
  intro p e s m args below meth c s₁ Bd hml0 hP hK
  obtain ⟨rfl, hZ, hh⟩ := hP
  have hx := Bd.exec
  have hby := Bd.bytes
  have hml : c.maxLocals = 4 := hml0
  have hown : s.vm.findClass "java/lang/Math" = some m.cls := findClass_of_methodNamed Bd.named
  have hnm := (name_of_methodNamed Bd.named Bd.method).1
  have X0 : Stand p l e ({ frames := 0, cells := 0, slots := 0, locals := 0 } : Room) s m #[(.long q0), (.long q1)] below meth c s₁ [] 0 0 := Stand.of_body Bd
  have e0 : s₁.heap = h0 := by rw [← hh, Bd.state]; rfl
  have N0 := Fr.nil n0
  have pre0 : ∀ t, Steps p.tables e below (s₁.setTop (mkF m 0 #[.val (.long q0), .second, .val (.long q1), .second] [])) t → Steps p.tables e below (s₁.setTop (entryFrame m #[(.long q0), (.long q1)] 4)) t := fun t k => castTop (ef_2 m q0 q1) k
  have pre1 : ∀ t, Steps p.tables e below (s₁.setTop (mkF m 3 #[.val (.long q0), .second, .val (.long q1), .second] [(.int (lcmpW q0 q1))])) t → Steps p.tables e below (s₁.setTop (entryFrame m #[(.long q0), (.long q1)] 4)) t := fun t kt => pre0 t (by
      show Steps p.tables e below (s₁.setTop (mkF m 0 #[.val (.long q0), .second, .val (.long q1), .second] [])) _
      refine XS.lloadN X0.here hx rfl (hb hby d2_0) rfl ?_
      show Steps p.tables e below (s₁.setTop (mkF m 1 #[.val (.long q0), .second, .val (.long q1), .second] [(.long q0)])) _
      refine XS.lloadN X0.here hx rfl (hb hby d2_1) rfl ?_
      show Steps p.tables e below (s₁.setTop (mkF m 2 #[.val (.long q0), .second, .val (.long q1), .second] [(.long q1), (.long q0)])) _
      refine XS.lcmp X0.here hx rfl (hb hby d2_2) rfl ?_
      exact kt)
  by_cases hc3_2 : (lcmpW q0 q1) < (0 : Int32)
  · obtain ⟨fs, hr, hrun, hended, hW, hsame⟩ := X0.leave (v := some (.long q1)) (fun h => by rw [Bd.returns] at h; cases h)
    have hv3 : (f2 q0 q1) = q1 := by rw [f2, if_pos hc3_2]
    refine ⟨_, _, pre1 _ ?_, hrun, hended, _, _, rfl, ?_, ⟨_, rfl⟩, hW, hsame.mono (by decide) (by decide)⟩
    · show Steps p.tables e below (s₁.setTop (mkF m 3 #[.val (.long q0), .second, .val (.long q1), .second] [(.int (lcmpW q0 q1))])) _
      refine XS.ifYes X0.here hx rfl (pc0 := 3) (pc' := 10) rfl (hb hby d2_3) rfl ((if0 _ _).trans (tlt hc3_2).1) (by decide) (by decide) ?_
      show Steps p.tables e below (s₁.setTop (mkF m 10 #[.val (.long q0), .second, .val (.long q1), .second] [])) _
      refine XS.lloadN X0.here hx rfl (hb hby d2_10) rfl ?_
      show Steps p.tables e below (s₁.setTop (mkF m 11 #[.val (.long q0), .second, .val (.long q1), .second] [(.long q1)])) _
      jvm_step X0.here [X0.here.top, hx, (hb hby d2_11), X0.method', Bd.returns, narrow]
      first | (intro acts; rw [hr _ acts rfl rfl rfl]) | rw [hr _ _ rfl rfl rfl]
      exact Steps.refl _
    · show Q2 Z q0 q1 h0 n0 _ s₁.heap _
      rw [e0]
      exact ⟨congrArg (fun q => some (Value.long q)) hv3.symm, N0, rfl⟩
  · obtain ⟨fs, hr, hrun, hended, hW, hsame⟩ := X0.leave (v := some (.long q0)) (fun h => by rw [Bd.returns] at h; cases h)
    have hv4 : (f2 q0 q1) = q0 := by rw [f2, if_neg hc3_2]
    refine ⟨_, _, pre1 _ ?_, hrun, hended, _, _, rfl, ?_, ⟨_, rfl⟩, hW, hsame.mono (by decide) (by decide)⟩
    · show Steps p.tables e below (s₁.setTop (mkF m 3 #[.val (.long q0), .second, .val (.long q1), .second] [(.int (lcmpW q0 q1))])) _
      refine XS.ifNo X0.here hx rfl (hb hby d2_3) rfl ((if0 _ _).trans (flt hc3_2).1) ?_
      show Steps p.tables e below (s₁.setTop (mkF m 6 #[.val (.long q0), .second, .val (.long q1), .second] [])) _
      refine XS.lloadN X0.here hx rfl (hb hby d2_6) rfl ?_
      show Steps p.tables e below (s₁.setTop (mkF m 7 #[.val (.long q0), .second, .val (.long q1), .second] [(.long q0)])) _
      refine XS.goto X0.here hx rfl (pc0 := 7) (pc' := 11) rfl (hb hby d2_7) (by decide) (by decide) ?_
      show Steps p.tables e below (s₁.setTop (mkF m 11 #[.val (.long q0), .second, .val (.long q1), .second] [(.long q0)])) _
      jvm_step X0.here [X0.here.top, hx, (hb hby d2_11), X0.method', Bd.returns, narrow]
      first | (intro acts; rw [hr _ acts rfl rfl rfl]) | rw [hr _ _ rfl rfl rfl]
      exact Steps.refl _
    · show Q2 Z q0 q1 h0 n0 _ s₁.heap _
      rw [e0]
      exact ⟨congrArg (fun q => some (Value.long q)) hv4.symm, N0, rfl⟩
theorem d4_0 : decode jdk_30_method_1_code 0 = .ok (.aload_n 0, 1) := by decide +kernel
theorem d4_1 : decode jdk_30_method_1_code 1 = .ok (.invokespecial 1, 3) := by decide +kernel
theorem d4_4 : decode jdk_30_method_1_code 4 = .ok (.return_, 1) := by decide +kernel
theorem pn_4 : plainName "java/lang/Record" = true := by first | (simp [plainName, overriddenIn]; done) | decide +kernel
theorem ef_4 (m : MethodId) (x0 : Addr) : entryFrame m #[(.ref x0)] 1 = mkF m 0 #[.val (.ref x0)] [] := by first | (simp [entryFrame, mkF, argsToLocals, Value.category]; done) | rfl
def Q4 (Z : State) (o0 : Addr) (h0 : Heap) (n0 : Nat) (v : Option Value) (h : Heap) (L : List Loc) : Prop := v = none ∧ Fr n0 L ∧ h = h0
set_option maxRecDepth 65536 in
set_option maxHeartbeats 40000000 in
theorem rm4 (l : Launch) (Z : State) (a0 : Array Value) (hw : ∀ d ∈ tables_1, d.before a0 Z = true) (ws : List Jvm.Cond) (o0 : Addr) (h0 : Heap) (n0 : Nat) (Z0 : n0 ≤ h0.size) :
    MetFree l (⟨"java/lang/Record", "<init>", "()V"⟩ : MethodName) (head1 (Jvm.Cond.code (⟨"java/lang/Record", "<init>", "()V"⟩ : MethodName) jdk_30_method_1_code 1 none :: ws) ({ frames := 1, cells := 0, slots := 0, locals := 12 } : Room)) (fun a U => a = #[(.ref o0)] ∧ Z.Warmed39 U.vm ∧ U.heap = h0) (fun _ _ _ _ _ => True) (fun _ U o U' => ∃ v L, o = .returned v ∧ Q4 Z o0 h0 n0 v U'.heap L ∧ FrameEnd U o U' L ({ frames := 1, cells := 0, slots := 0, locals := 12 } : Room).cells ({ frames := 1, cells := 0, slots := 0, locals := 12 } : Room).slots) := by
  refine MetFree.of_bodySF (plainFor_of_name pn_4) hisR ?_
  intro p e s m args below meth c s₁ Bd hml0 hP hK
  obtain ⟨rfl, hZ, hh⟩ := hP
  have hx := Bd.exec
  have hby := Bd.bytes
  have hml : c.maxLocals = 1 := hml0
  have hown : s.vm.findClass "java/lang/Record" = some m.cls := findClass_of_methodNamed Bd.named
  have hnm := (name_of_methodNamed Bd.named Bd.method).1
  have X0 : Stand p l e ({ frames := 1, cells := 0, slots := 0, locals := 12 } : Room) s m #[(.ref o0)] below meth c s₁ [] 0 0 := Stand.of_body Bd
  have e0 : s₁.heap = h0 := by rw [← hh, Bd.state]; rfl
  have N0 := Fr.nil n0
  have pre0 : ∀ t, Steps p.tables e below (s₁.setTop (mkF m 0 #[.val (.ref o0)] [])) t → Steps p.tables e below (s₁.setTop (entryFrame m #[(.ref o0)] 1)) t := fun t k => castTop (ef_4 m o0) k
  obtain ⟨T1, X1, e1, st1⟩ := initO X0 hx hZ hown (hw _ (List.mem_of_getElem? (i := 19) rfl)) (hw _ (List.mem_of_getElem? (i := 20) rfl)) (hw _ (List.mem_of_getElem? (i := 21) rfl)) e0 (g := (mkF m 1 #[.val (.ref o0)] [(.ref o0)])) rfl (by rw [hml]; rfl) rfl (hb hby d4_1) (by decide) (W := 0) (by show 2 * 0 + _ ≤ _; exact Nat.le_of_eq rfl) (by decide)
  obtain ⟨fs, hr, hrun, hended, hW, hsame⟩ := X1.leave (v := none) (fun _ => rfl)
  refine ⟨_, _, pre0 _ ?_, hrun, hended, _, _, rfl, ?_, ⟨_, rfl⟩, hW, hsame.mono (by decide) (by decide)⟩
  · show Steps p.tables e below (s₁.setTop (mkF m 0 #[.val (.ref o0)] [])) _
    refine XS.aloadN X0.here hx rfl (hb hby d4_0) rfl rfl ?_
    show Steps p.tables e below (s₁.setTop (mkF m 1 #[.val (.ref o0)] [(.ref o0)])) _
    refine st1 _ ?_
    show Steps p.tables e below (T1.setTop (mkF m 4 #[.val (.ref o0)] [])) _
    exact X1.returnOut hx Bd.returns (hb hby d4_4) hr
  · show Q4 Z o0 h0 n0 _ T1.heap _
    rw [e1]
    exact ⟨rfl, N0, rfl⟩
theorem d3_0 : decode prog_37_method_1_code 0 = .ok (.aload_n 0, 1) := by decide +kernel
theorem d3_1 : decode prog_37_method_1_code 1 = .ok (.invokespecial 1, 3) := by decide +kernel
theorem d3_4 : decode prog_37_method_1_code 4 = .ok (.aload_n 0, 1) := by decide +kernel
theorem d3_5 : decode prog_37_method_1_code 5 = .ok (.lload_n 1, 1) := by decide +kernel
theorem d3_6 : decode prog_37_method_1_code 6 = .ok (.putfield 7, 3) := by decide +kernel
theorem d3_9 : decode prog_37_method_1_code 9 = .ok (.aload_n 0, 1) := by decide +kernel
theorem d3_10 : decode prog_37_method_1_code 10 = .ok (.lload_n 3, 1) := by decide +kernel
theorem d3_11 : decode prog_37_method_1_code 11 = .ok (.putfield 13, 3) := by decide +kernel
theorem d3_14 : decode prog_37_method_1_code 14 = .ok (.return_, 1) := by decide +kernel
theorem pn_3 : plainName "com/example/cratewise/cratewise/server/ByteRange" = true := by first | (simp [plainName, overriddenIn]; done) | decide +kernel
theorem pd_3_0 : parseMethodDescriptor "()V" = some ⟨[], none⟩ := by decide +kernel
theorem ef_3 (m : MethodId) (x0 : Addr) (x1 : Int64) (x2 : Int64) : entryFrame m #[(.ref x0), (.long x1), (.long x2)] 5 = mkF m 0 #[.val (.ref x0), .val (.long x1), .second, .val (.long x2), .second] [] := by first | (simp [entryFrame, mkF, argsToLocals, Value.category]; done) | rfl
def Q3 (Z : State) (o0 : Addr) (q1 : Int64) (q2 : Int64) (w2 : Int64) (w6 : Int64) (h0 : Heap) (n0 : Nat) (v : Option Value) (h : Heap) (L : List Loc) : Prop := v = none ∧ Fr n0 L ∧ Keep h0 h [o0] ∧ Fld Z h o0 "com/example/cratewise/cratewise/server/ByteRange" "first" "J" (.long q1) ∧ Fld Z h o0 "com/example/cratewise/cratewise/server/ByteRange" "last" "J" (.long q2)
set_option maxRecDepth 65536 in
set_option maxHeartbeats 40000000 in
theorem rm3 (l : Launch) (Z : State) (a0 : Array Value) (hw : ∀ d ∈ tables_1, d.before a0 Z = true) (ws : List Jvm.Cond) (o0 : Addr) (q1 : Int64) (q2 : Int64) (w2 : Int64) (w6 : Int64) (h0 : Heap) (n0 : Nat) (Z0 : n0 ≤ h0.size) (E_o0 : Exa Z h0 o0 "com/example/cratewise/cratewise/server/ByteRange") (F_first_o0 : Fld Z h0 o0 "com/example/cratewise/cratewise/server/ByteRange" "first" "J" (.long w2)) (g_o0 : n0 ≤ o0) (F_last_o0 : Fld Z h0 o0 "com/example/cratewise/cratewise/server/ByteRange" "last" "J" (.long w6)) :
    MetFree l (⟨"com/example/cratewise/cratewise/server/ByteRange", "<init>", "(JJ)V"⟩ : MethodName) (head1 (Jvm.Cond.code (⟨"com/example/cratewise/cratewise/server/ByteRange", "<init>", "(JJ)V"⟩ : MethodName) prog_37_method_1_code 5 none :: ws) ({ frames := 2, cells := 0, slots := 0, locals := 24 } : Room)) (fun a U => a = #[(.ref o0), (.long q1), (.long q2)] ∧ Z.Warmed39 U.vm ∧ U.heap = h0) (fun _ _ _ _ _ => True) (fun _ U o U' => ∃ v L, o = .returned v ∧ Q3 Z o0 q1 q2 w2 w6 h0 n0 v U'.heap L ∧ FrameEnd U o U' L ({ frames := 2, cells := 0, slots := 0, locals := 24 } : Room).cells ({ frames := 2, cells := 0, slots := 0, locals := 24 } : Room).slots) := by
  refine MetFree.of_bodySF (plainFor_of_name pn_3) hisR ?_
  intro p e s m args below meth c s₁ Bd hml0 hP hK
  obtain ⟨rfl, hZ, hh⟩ := hP
  have hx := Bd.exec
  have hby := Bd.bytes
  have hml : c.maxLocals = 5 := hml0
  have hown : s.vm.findClass "com/example/cratewise/cratewise/server/ByteRange" = some m.cls := findClass_of_methodNamed Bd.named
  have hnm := (name_of_methodNamed Bd.named Bd.method).1
  have X0 : Stand p l e ({ frames := 2, cells := 0, slots := 0, locals := 24 } : Room) s m #[(.ref o0), (.long q1), (.long q2)] below meth c s₁ [] 0 0 := Stand.of_body Bd
  have e0 : s₁.heap = h0 := by rw [← hh, Bd.state]; rfl
  have N0 := Fr.nil n0
  have pre0 : ∀ t, Steps p.tables e below (s₁.setTop (mkF m 0 #[.val (.ref o0), .val (.long q1), .second, .val (.long q2), .second] [])) t → Steps p.tables e below (s₁.setTop (entryFrame m #[(.ref o0), (.long q1), (.long q2)] 5)) t := fun t k => castTop (ef_3 m o0 q1 q2) k
  obtain ⟨_, _, ⟨T1, L1, k1, n1⟩, -, X1, ⟨Lc1, hQ1, l1, y1, z1⟩, st1⟩ := X0.specialBack hx (y := (⟨"java/lang/Record", "<init>", "()V"⟩ : MethodName)) rfl hown (mvT hZ (hw _ (List.mem_of_getElem? (i := 14) rfl))) (mvT hZ (hw _ (List.mem_of_getElem? (i := 15) rfl))) (mvT hZ (hw _ (List.mem_of_getElem? (i := 18) rfl))) (by decide) (backOf (W := 0) (rm4 l Z a0 hw [] o0 h0 n0 Z0 ) hZ (hw _ (List.mem_of_getElem? (i := 18) rfl)) (hw _ (List.mem_of_getElem? (i := 17) rfl)) (by decide) (by decide)) (g := (mkF m 1 #[.val (.ref o0), .val (.long q1), .second, .val (.long q2), .second] [(.ref o0)])) rfl (by rw [hml]; rfl) (Steps.refl _) (a := o0) (argsL := []) (rest := []) (lenOf pd_3_0 rfl) rfl (by show 2 * 0 + _ ≤ _; exact Nat.le_of_eq rfl) (hb hby d3_1) (fun _ _ => ⟨rfl, e0, (by decide : 0 + 0 ≤ _), (by decide : 0 + 0 ≤ _)⟩)
  dsimp only [Pt.U, Pt.locs, Pt.cells, Pt.slots] at X1 l1 y1 z1 st1 hQ1
  subst l1 y1 z1
  obtain ⟨rfl, N1q, e1q⟩ := hQ1
  have N1 := Fr.app N0 N1q
  obtain ⟨T3, h3, X3, e3, W3, st3⟩ := putF X1 hx hZ hown (host := "") (Or.inl (hw _ (List.mem_of_getElem? (i := 22) rfl))) Via.refl e1q F_first_o0 E_o0 (Or.inr ⟨(hw _ (List.mem_of_getElem? (i := 23) rfl)), rfl, hnm⟩) (hw _ (List.mem_of_getElem? (i := 9) rfl)) (ty := .long) (by decide) rfl rfl (g := (mkF m 6 #[.val (.ref o0), .val (.long q1), .second, .val (.long q2), .second] [(.long q1), (.ref o0)])) rfl rfl (hb hby d3_6)
  have Fw3 := F_first_o0.same W3
  have K4 : Keep h0 h3 [o0] := (Keep.refl h0 [o0]).wr W3 (Or.inl (List.mem_of_getElem? (i := 0) rfl))
  have Z5 : n0 ≤ h3.size := Nat.le_trans Z0 K4.1
  have N3 := Fr.snoc X3 N1 g_o0
  have c7 := (F_last_o0.other W3 (Or.inr (slot_ne (Or.inr (hw _ (List.mem_of_getElem? (i := 25) rfl))) (Or.inr (hw _ (List.mem_of_getElem? (i := 23) rfl))) (by decide) (t := .long) (t' := .long) (by decide) (by decide))))
  obtain ⟨T8, h8, X8, e8, W8, st8⟩ := putF X3 hx hZ hown (host := "") (Or.inl (hw _ (List.mem_of_getElem? (i := 24) rfl))) Via.refl e3 c7 (E_o0.wr W3) (Or.inr ⟨(hw _ (List.mem_of_getElem? (i := 25) rfl)), rfl, hnm⟩) (hw _ (List.mem_of_getElem? (i := 9) rfl)) (ty := .long) (by decide) rfl rfl (g := (mkF m 11 #[.val (.ref o0), .val (.long q1), .second, .val (.long q2), .second] [(.long q2), (.ref o0)])) rfl rfl (hb hby d3_11)
  have Fw8 := c7.same W8
  have K9 : Keep h0 h8 [o0] := K4.wr W8 (Or.inl (List.mem_of_getElem? (i := 0) rfl))
  have Z10 : n0 ≤ h8.size := Nat.le_trans Z0 K9.1
  have N8 := Fr.snoc X8 N3 g_o0
  obtain ⟨fs, hr, hrun, hended, hW, hsame⟩ := X8.leave (v := none) (fun _ => rfl)
  have c11 := (Fw3.other W8 (Or.inr (slot_ne (Or.inr (hw _ (List.mem_of_getElem? (i := 23) rfl))) (Or.inr (hw _ (List.mem_of_getElem? (i := 25) rfl))) (by decide) (t := .long) (t' := .long) (by decide) (by decide))))
  refine ⟨_, _, pre0 _ ?_, hrun, hended, _, _, rfl, ?_, ⟨_, rfl⟩, hW, hsame.mono (by decide) (by decide)⟩
  · show Steps p.tables e below (s₁.setTop (mkF m 0 #[.val (.ref o0), .val (.long q1), .second, .val (.long q2), .second] [])) _
    refine XS.aloadN X0.here hx rfl (hb hby d3_0) rfl rfl ?_
    show Steps p.tables e below (s₁.setTop (mkF m 1 #[.val (.ref o0), .val (.long q1), .second, .val (.long q2), .second] [(.ref o0)])) _
    refine st1.trans ?_
    show Steps p.tables e below (T1.setTop (mkF m 4 #[.val (.ref o0), .val (.long q1), .second, .val (.long q2), .second] [])) _
    refine XS.aloadN X1.here hx rfl (hb hby d3_4) rfl rfl ?_
    show Steps p.tables e below (T1.setTop (mkF m 5 #[.val (.ref o0), .val (.long q1), .second, .val (.long q2), .second] [(.ref o0)])) _
    refine XS.lloadN X1.here hx rfl (hb hby d3_5) rfl ?_
    show Steps p.tables e below (T1.setTop (mkF m 6 #[.val (.ref o0), .val (.long q1), .second, .val (.long q2), .second] [(.long q1), (.ref o0)])) _
    refine st3 _ ?_
    show Steps p.tables e below (T3.setTop (mkF m 9 #[.val (.ref o0), .val (.long q1), .second, .val (.long q2), .second] [])) _
    refine XS.aloadN X3.here hx rfl (hb hby d3_9) rfl rfl ?_
    show Steps p.tables e below (T3.setTop (mkF m 10 #[.val (.ref o0), .val (.long q1), .second, .val (.long q2), .second] [(.ref o0)])) _
    refine XS.lloadN X3.here hx rfl (hb hby d3_10) rfl ?_
    show Steps p.tables e below (T3.setTop (mkF m 11 #[.val (.ref o0), .val (.long q1), .second, .val (.long q2), .second] [(.long q2), (.ref o0)])) _
    refine st8 _ ?_
    show Steps p.tables e below (T8.setTop (mkF m 14 #[.val (.ref o0), .val (.long q1), .second, .val (.long q2), .second] [])) _
    exact X8.returnOut hx Bd.returns (hb hby d3_14) hr
  · show Q3 Z o0 q1 q2 w2 w6 h0 n0 _ T8.heap _
    rw [e8]
    exact ⟨rfl, N8, K9, c11, Fw8⟩
theorem d6_0 : decode prog_37_method_5_code 0 = .ok (.aload_n 0, 1) := by decide +kernel
theorem d6_1 : decode prog_37_method_5_code 1 = .ok (.getfield 13, 3) := by decide +kernel
theorem d6_4 : decode prog_37_method_5_code 4 = .ok (.aload_n 0, 1) := by decide +kernel
theorem d6_5 : decode prog_37_method_5_code 5 = .ok (.getfield 7, 3) := by decide +kernel
theorem d6_8 : decode prog_37_method_5_code 8 = .ok (.lsub, 1) := by decide +kernel
theorem d6_9 : decode prog_37_method_5_code 9 = .ok (.lconst 1, 1) := by decide +kernel
theorem d6_10 : decode prog_37_method_5_code 10 = .ok (.ladd, 1) := by decide +kernel
theorem d6_11 : decode prog_37_method_5_code 11 = .ok (.lreturn, 1) := by decide +kernel
theorem pn_6 : plainName "com/example/cratewise/cratewise/server/ByteRange" = true := by first | (simp [plainName, overriddenIn]; done) | decide +kernel
theorem ef_6 (m : MethodId) (x0 : Addr) : entryFrame m #[(.ref x0)] 1 = mkF m 0 #[.val (.ref x0)] [] := by first | (simp [entryFrame, mkF, argsToLocals, Value.category]; done) | rfl
def Q6 (Z : State) (o0 : Addr) (w1 : Int64) (w3 : Int64) (h0 : Heap) (n0 : Nat) (v : Option Value) (h : Heap) (L : List Loc) : Prop := v = some (.long ((w1 - w3) + (1 : Int64))) ∧ Fr n0 L ∧ h = h0
set_option maxRecDepth 65536 in
set_option maxHeartbeats 40000000 in
theorem rm6 (l : Launch) (Z : State) (a0 : Array Value) (hw : ∀ d ∈ tables_1, d.before a0 Z = true) (ws : List Jvm.Cond) (o0 : Addr) (w1 : Int64) (w3 : Int64) (h0 : Heap) (n0 : Nat) (Z0 : n0 ≤ h0.size) (F_last_o0 : Fld Z h0 o0 "com/example/cratewise/cratewise/server/ByteRange" "last" "J" (.long w1)) (F_first_o0 : Fld Z h0 o0 "com/example/cratewise/cratewise/server/ByteRange" "first" "J" (.long w3)) :
    MetFree l (⟨"com/example/cratewise/cratewise/server/ByteRange", "length", "()J"⟩ : MethodName) (head1 (Jvm.Cond.code (⟨"com/example/cratewise/cratewise/server/ByteRange", "length", "()J"⟩ : MethodName) prog_37_method_5_code 1 (some .long) :: ws) ({ frames := 0, cells := 0, slots := 0, locals := 0 } : Room)) (fun a U => a = #[(.ref o0)] ∧ Z.Warmed39 U.vm ∧ U.heap = h0) (fun _ _ _ _ _ => True) (fun _ U o U' => ∃ v L, o = .returned v ∧ Q6 Z o0 w1 w3 h0 n0 v U'.heap L ∧ FrameEnd U o U' L ({ frames := 0, cells := 0, slots := 0, locals := 0 } : Room).cells ({ frames := 0, cells := 0, slots := 0, locals := 0 } : Room).slots) := by
  refine MetFree.of_bodySF (plainFor_of_name pn_6) hisR ?_
  intro p e s m args below meth c s₁ Bd hml0 hP hK
  obtain ⟨rfl, hZ, hh⟩ := hP
  have hx := Bd.exec
  have hby := Bd.bytes
  have hml : c.maxLocals = 1 := hml0
  have hown : s.vm.findClass "com/example/cratewise/cratewise/server/ByteRange" = some m.cls := findClass_of_methodNamed Bd.named
  have hnm := (name_of_methodNamed Bd.named Bd.method).1
  have X0 : Stand p l e ({ frames := 0, cells := 0, slots := 0, locals := 0 } : Room) s m #[(.ref o0)] below meth c s₁ [] 0 0 := Stand.of_body Bd
  have e0 : s₁.heap = h0 := by rw [← hh, Bd.state]; rfl
  have N0 := Fr.nil n0
  have pre0 : ∀ t, Steps p.tables e below (s₁.setTop (mkF m 0 #[.val (.ref o0)] [])) t → Steps p.tables e below (s₁.setTop (entryFrame m #[(.ref o0)] 1)) t := fun t k => castTop (ef_6 m o0) k
  obtain ⟨T2, X2, e2, st2⟩ := getF X0 hx hZ hown (host := "") (Or.inl (hw _ (List.mem_of_getElem? (i := 24) rfl))) Via.refl e0 F_last_o0 (g := (mkF m 1 #[.val (.ref o0)] [(.ref o0)])) rfl rfl (hb hby d6_1)
  obtain ⟨T4, X4, e4, st4⟩ := getF X2 hx hZ hown (host := "") (Or.inl (hw _ (List.mem_of_getElem? (i := 22) rfl))) Via.refl e2 F_first_o0 (g := (mkF m 5 #[.val (.ref o0)] [(.ref o0), (.long w1)])) rfl rfl (hb hby d6_5)
  obtain ⟨fs, hr, hrun, hended, hW, hsame⟩ := X4.leave (v := some (.long ((w1 - w3) + (1 : Int64)))) (fun h => by rw [Bd.returns] at h; cases h)
  have hv5 : ((w1 - w3) + (1 : Int64)) = ((w1 - w3) + (1 : Int64)) := rfl
  refine ⟨_, _, pre0 _ ?_, hrun, hended, _, _, rfl, ?_, ⟨_, rfl⟩, hW, hsame.mono (by decide) (by decide)⟩
  · show Steps p.tables e below (s₁.setTop (mkF m 0 #[.val (.ref o0)] [])) _
    refine XS.aloadN X0.here hx rfl (hb hby d6_0) rfl rfl ?_
    show Steps p.tables e below (s₁.setTop (mkF m 1 #[.val (.ref o0)] [(.ref o0)])) _
    refine st2 _ ?_
    show Steps p.tables e below (T2.setTop (mkF m 4 #[.val (.ref o0)] [(.long w1)])) _
    refine XS.aloadN X2.here hx rfl (hb hby d6_4) rfl rfl ?_
    show Steps p.tables e below (T2.setTop (mkF m 5 #[.val (.ref o0)] [(.ref o0), (.long w1)])) _
    refine st4 _ ?_
    show Steps p.tables e below (T4.setTop (mkF m 8 #[.val (.ref o0)] [(.long w3), (.long w1)])) _
    refine XS.lsub X4.here hx rfl (hb hby d6_8) rfl ?_
    show Steps p.tables e below (T4.setTop (mkF m 9 #[.val (.ref o0)] [(.long (w1 - w3))])) _
    refine XS.lconst X4.here hx rfl (hb hby d6_9) ?_
    show Steps p.tables e below (T4.setTop (mkF m 10 #[.val (.ref o0)] [(.long (1 : Int64)), (.long (w1 - w3))])) _
    refine XS.ladd X4.here hx rfl (hb hby d6_10) rfl ?_
    show Steps p.tables e below (T4.setTop (mkF m 11 #[.val (.ref o0)] [(.long ((w1 - w3) + (1 : Int64)))])) _
    jvm_step X4.here [X4.here.top, hx, (hb hby d6_11), X4.method', Bd.returns, narrow]
    first | (intro acts; rw [hr _ acts rfl rfl rfl]) | rw [hr _ _ rfl rfl rfl]
    exact Steps.refl _
  · show Q6 Z o0 w1 w3 h0 n0 _ T4.heap _
    rw [e4]
    exact ⟨congrArg (fun q => some (Value.long q)) hv5.symm, N0, rfl⟩
theorem d7_0 : decode prog_37_method_2_code 0 = .ok (.new 8, 3) := by decide +kernel
theorem d7_3 : decode prog_37_method_2_code 3 = .ok (.dup, 1) := by decide +kernel
theorem d7_4 : decode prog_37_method_2_code 4 = .ok (.lconst 0, 1) := by decide +kernel
theorem d7_5 : decode prog_37_method_2_code 5 = .ok (.lload_n 0, 1) := by decide +kernel
theorem d7_6 : decode prog_37_method_2_code 6 = .ok (.lconst 1, 1) := by decide +kernel
theorem d7_7 : decode prog_37_method_2_code 7 = .ok (.lsub, 1) := by decide +kernel
theorem d7_8 : decode prog_37_method_2_code 8 = .ok (.invokespecial 16, 3) := by decide +kernel
theorem d7_11 : decode prog_37_method_2_code 11 = .ok (.areturn, 1) := by decide +kernel
theorem pn_7 : plainName "com/example/cratewise/cratewise/server/ByteRange" = true := by first | (simp [plainName, overriddenIn]; done) | decide +kernel
theorem pd_7_0 : parseMethodDescriptor "(JJ)V" = some ⟨[.long, .long], none⟩ := by decide +kernel
theorem ef_7 (m : MethodId) (x0 : Int64) : entryFrame m #[(.long x0)] 2 = mkF m 0 #[.val (.long x0), .second] [] := by first | (simp [entryFrame, mkF, argsToLocals, Value.category]; done) | rfl
def Q7 (Z : State) (q0 : Int64) (h0 : Heap) (n0 : Nat) (v : Option Value) (h : Heap) (L : List Loc) : Prop := ∃ r : Addr, v = some (.ref r) ∧ Fr n0 L ∧ Keep h0 h [] ∧ n0 ≤ r ∧ h0.size ≤ r ∧ Exa Z h r "com/example/cratewise/cratewise/server/ByteRange" ∧ Fld Z h r "com/example/cratewise/cratewise/server/ByteRange" "first" "J" (.long (0 : Int64)) ∧ Fld Z h r "com/example/cratewise/cratewise/server/ByteRange" "last" "J" (.long (q0 - (1 : Int64)))
set_option maxRecDepth 65536 in
set_option maxHeartbeats 40000000 in
theorem rm7 (l : Launch) (Z : State) (a0 : Array Value) (hw : ∀ d ∈ tables_1, d.before a0 Z = true) (ws : List Jvm.Cond) (q0 : Int64) (h0 : Heap) (n0 : Nat) (Z0 : n0 ≤ h0.size) :
    MetFree l (⟨"com/example/cratewise/cratewise/server/ByteRange", "whole", "(J)Lcom/example/cratewise/cratewise/server/ByteRange;"⟩ : MethodName) (head1 (Jvm.Cond.code (⟨"com/example/cratewise/cratewise/server/ByteRange", "whole", "(J)Lcom/example/cratewise/cratewise/server/ByteRange;"⟩ : MethodName) prog_37_method_2_code 2 (some (.object "com/example/cratewise/cratewise/server/ByteRange")) :: ws) ({ frames := 3, cells := 1, slots := 2, locals := 41 } : Room)) (fun a U => a = #[(.long q0)] ∧ Z.Warmed39 U.vm ∧ U.heap = h0) (fun _ _ _ _ _ => True) (fun _ U o U' => ∃ v L, o = .returned v ∧ Q7 Z q0 h0 n0 v U'.heap L ∧ FrameEnd U o U' L ({ frames := 3, cells := 1, slots := 2, locals := 41 } : Room).cells ({ frames := 3, cells := 1, slots := 2, locals := 41 } : Room).slots) := by
  refine MetFree.of_bodySF (plainFor_of_name pn_7) hisR ?_
  intro p e s m args below meth c s₁ Bd hml0 hP hK
  obtain ⟨rfl, hZ, hh⟩ := hP
  have hx := Bd.exec
  have hby := Bd.bytes
  have hml : c.maxLocals = 2 := hml0
  have hown : s.vm.findClass "com/example/cratewise/cratewise/server/ByteRange" = some m.cls := findClass_of_methodNamed Bd.named
  have hnm := (name_of_methodNamed Bd.named Bd.method).1
  have X0 : Stand p l e ({ frames := 3, cells := 1, slots := 2, locals := 41 } : Room) s m #[(.long q0)] below meth c s₁ [] 0 0 := Stand.of_body Bd
  have e0 : s₁.heap = h0 := by rw [← hh, Bd.state]; rfl
  have N0 := Fr.nil n0
  have pre0 : ∀ t, Steps p.tables e below (s₁.setTop (mkF m 0 #[.val (.long q0), .second] [])) t → Steps p.tables e below (s₁.setTop (entryFrame m #[(.long q0)] 2)) t := fun t k => castTop (ef_7 m q0) k
  obtain ⟨T1, h1, X1, e1, E1, A1, D1, -, st1⟩ := newO X0 hx hZ hown (hw _ (List.mem_of_getElem? (i := 34) rfl)) (hw _ (List.mem_of_getElem? (i := 9) rfl)) (hw _ (List.mem_of_getElem? (i := 10) rfl)) e0 (g := (mkF m 0 #[.val (.long q0), .second] [])) rfl (hb hby d7_0) (by decide) (by decide)
  obtain ⟨b1, g1⟩ : ∃ z, z = h0.size := ⟨_, rfl⟩
  rw [← g1] at A1 D1 st1
  have g_b1 : n0 ≤ b1 := Nat.le_trans Z0 (Nat.le_of_eq g1.symm)
  have sz_b1 : h0.size ≤ b1 := Nat.le_trans (Keep.refl h0 []).1 (Nat.le_of_eq g1.symm)
  have K2 : Keep h0 h1 [] := (Keep.refl h0 []).ext E1
  have Z3 : n0 ≤ h1.size := Nat.le_trans Z0 K2.1
  have E_b1 := A1
  have F_first_b1 : Fld Z h1 b1 "com/example/cratewise/cratewise/server/ByteRange" "first" "J" (.long (0 : Int64)) := D1 (Or.inr (hw _ (List.mem_of_getElem? (i := 23) rfl))) (ty := .long) (by decide)
  have F_last_b1 : Fld Z h1 b1 "com/example/cratewise/cratewise/server/ByteRange" "last" "J" (.long (0 : Int64)) := D1 (Or.inr (hw _ (List.mem_of_getElem? (i := 25) rfl))) (ty := .long) (by decide)
  obtain ⟨_, _, ⟨T4, L4, k4, n4⟩, -, X4, ⟨Lc4, hQ4, l4, y4, z4⟩, st4⟩ := X1.specialBack hx (y := (⟨"com/example/cratewise/cratewise/server/ByteRange", "<init>", "(JJ)V"⟩ : MethodName)) rfl hown (mvT hZ (hw _ (List.mem_of_getElem? (i := 35) rfl))) (mvT hZ (hw _ (List.mem_of_getElem? (i := 12) rfl))) (mvT hZ (hw _ (List.mem_of_getElem? (i := 13) rfl))) (by decide) (backOf (W := 1) (rm3 l Z a0 hw [] b1 (0 : Int64) (q0 - (1 : Int64)) (0 : Int64) (0 : Int64) h1 n0 Z3 E_b1 F_first_b1 g_b1 F_last_b1) hZ (hw _ (List.mem_of_getElem? (i := 13) rfl)) (hw _ (List.mem_of_getElem? (i := 10) rfl)) (by decide) (by decide)) (g := (mkF m 8 #[.val (.long q0), .second] [(.long (q0 - (1 : Int64))), (.long (0 : Int64)), (.ref b1), (.ref b1)])) rfl (by rw [hml]; rfl) (Steps.refl _) (a := b1) (argsL := [(.long (0 : Int64)), (.long (q0 - (1 : Int64)))]) (rest := [(.ref b1)]) (lenOf pd_7_0 rfl) rfl (by show 2 * 0 + _ ≤ _; exact Nat.le_of_eq rfl) (hb hby d7_8) (fun _ _ => ⟨rfl, e1, (by decide : 1 + 0 ≤ _), (by decide : 2 + 0 ≤ _)⟩)
  dsimp only [Pt.U, Pt.locs, Pt.cells, Pt.slots] at X4 l4 y4 z4 st4 hQ4
  subst l4 y4 z4
  obtain ⟨rfl, N4q, K4q, G4_0, G4_1⟩ := hQ4
  have N4 := Fr.app N0 N4q
  have K5 : Keep h0 T4.heap [] := K2.trans K4q (allS (Or.inr sz_b1) all0)
  have Z6 : n0 ≤ T4.heap.size := Nat.le_trans Z0 K5.1
  obtain ⟨fs, hr, hrun, hended, hW, hsame⟩ := X4.leave (v := some (.ref b1)) (fun h => by rw [Bd.returns] at h; cases h)
  refine ⟨_, _, pre0 _ ?_, hrun, hended, _, _, rfl, ?_, ⟨_, rfl⟩, hW, hsame.mono (by decide) (by decide)⟩
  · show Steps p.tables e below (s₁.setTop (mkF m 0 #[.val (.long q0), .second] [])) _
    refine st1 _ ?_
    show Steps p.tables e below (T1.setTop (mkF m 3 #[.val (.long q0), .second] [(.ref b1)])) _
    refine XS.dup X1.here hx rfl (hb hby d7_3) rfl rfl ?_
    show Steps p.tables e below (T1.setTop (mkF m 4 #[.val (.long q0), .second] [(.ref b1), (.ref b1)])) _
    refine XS.lconst X1.here hx rfl (hb hby d7_4) ?_
    show Steps p.tables e below (T1.setTop (mkF m 5 #[.val (.long q0), .second] [(.long (0 : Int64)), (.ref b1), (.ref b1)])) _
    refine XS.lloadN X1.here hx rfl (hb hby d7_5) rfl ?_
    show Steps p.tables e below (T1.setTop (mkF m 6 #[.val (.long q0), .second] [(.long q0), (.long (0 : Int64)), (.ref b1), (.ref b1)])) _
    refine XS.lconst X1.here hx rfl (hb hby d7_6) ?_
    show Steps p.tables e below (T1.setTop (mkF m 7 #[.val (.long q0), .second] [(.long (1 : Int64)), (.long q0), (.long (0 : Int64)), (.ref b1), (.ref b1)])) _
    refine XS.lsub X1.here hx rfl (hb hby d7_7) rfl ?_
    show Steps p.tables e below (T1.setTop (mkF m 8 #[.val (.long q0), .second] [(.long (q0 - (1 : Int64))), (.long (0 : Int64)), (.ref b1), (.ref b1)])) _
    refine st4.trans ?_
    show Steps p.tables e below (T4.setTop (mkF m 11 #[.val (.long q0), .second] [(.ref b1)])) _
    jvm_step X4.here [X4.here.top, hx, (hb hby d7_11), X4.method', Bd.returns, Value.isRef, FieldType.isReference]
    first | (intro acts; rw [hr _ acts rfl rfl rfl]) | rw [hr _ _ rfl rfl rfl]
    exact Steps.refl _
  · show Q7 Z q0 h0 n0 _ T4.heap _
    exact ⟨b1, rfl, N4, K5, g_b1, sz_b1, (E_b1.keep K4q), G4_0, G4_1⟩
theorem pn_0 : plainName "com/example/cratewise/cratewise/server/ByteRangeLengthPinLaw" = true := by first | (simp [plainName, overriddenIn]; done) | decide +kernel
theorem pd_0_0 : parseMethodDescriptor "(JJ)J" = some ⟨[.long, .long], some .long⟩ := by decide +kernel
theorem pd_0_1 : parseMethodDescriptor "(JJ)V" = some ⟨[.long, .long], none⟩ := by decide +kernel
theorem pd_0_2 : parseMethodDescriptor "()J" = some ⟨[], some .long⟩ := by decide +kernel
theorem pd_0_3 : parseMethodDescriptor "(J)Lcom/example/cratewise/cratewise/server/ByteRange;" = some ⟨[.long], some (.object "com/example/cratewise/cratewise/server/ByteRange")⟩ := by decide +kernel
theorem ef_0 (m : MethodId) (x0 : Int64) (x1 : Int64) (x2 : Int64) (x3 : Int64) : entryFrame m #[(.long x0), (.long x1), (.long x2), (.long x3)] maxLocals = mkF m 0 #[.val (.long x0), .second, .val (.long x1), .second, .val (.long x2), .second, .val (.long x3), .second, .unset, .unset, .unset, .unset, .unset, .unset, .unset, .unset, .unset, .unset, .unset, .unset, .unset, .unset, .unset, .unset, .unset, .unset, .unset, .unset, .unset] [] := by first | (simp [entryFrame, mkF, argsToLocals, Value.category, maxLocals]; done) | rfl
def e0_1 (q0 : Int64) : Int64 := ((q0 &&& (9223372036854775807 : Int64)) - ((q0 &&& (9223372036854775807 : Int64)) / (9223372036854775807 : Int64)) * (9223372036854775807 : Int64))
def e0_2 (q1 : Int64) : Int64 := ((q1 &&& (9223372036854775807 : Int64)) - ((q1 &&& (9223372036854775807 : Int64)) / (9223372036854775807 : Int64)) * (9223372036854775807 : Int64))
def e0_3 (q0 : Int64) (q1 : Int64) (q2 : Int64) : Int64 := ((f1 (e0_1 q0) (e0_2 q1)) + ((q2 &&& (9223372036854775807 : Int64)) - ((q2 &&& (9223372036854775807 : Int64)) / ((f2 (e0_1 q0) (e0_2 q1)) - (f1 (e0_1 q0) (e0_2 q1)))) * ((f2 (e0_1 q0) (e0_2 q1)) - (f1 (e0_1 q0) (e0_2 q1)))))
def e0_4 (q0 : Int64) (q1 : Int64) : Int64 := (((f2 (e0_1 q0) (e0_2 q1)) - (f1 (e0_1 q0) (e0_2 q1))) + (1 : Int64))
def e0_5 (q0 : Int64) (q1 : Int64) (q2 : Int64) : Int64 := (((f2 (e0_1 q0) (e0_2 q1)) - ((e0_3 q0 q1 q2) + (1 : Int64))) + (1 : Int64))
theorem own_one (x : Int64) : lcmpW ((x - x) + 1) 1 = 0 := by rw [lw_eq, Int64.sub_self, Int64.zero_add]
theorem own_whole (x : Int64) : lcmpW (((x - 1) - 0) + 1) x = 0 := by rw [lw_eq, Int64.sub_zero, Int64.sub_add_cancel]
theorem own_nz {f l : Int64} (h : lcmpW f l < 0) : l - f ≠ 0 := by
  rw [lw_lt, Int64.lt_iff_toInt_lt] at h
  intro q
  have h1 := c_lsub l f
  have h2 := rng64 l
  have h3 := rng64 f
  rw [q] at h1
  have e0 : (0 : Int64).toInt = 0 := by decide
  rw [e0] at h1
  omega
theorem own_r (q : Int64) : 0 ≤ (e0_1 q).toInt ∧ (e0_1 q).toInt < 9223372036854775807 := by
  have h1 : (q &&& 9223372036854775807).toInt = q.toInt % 9223372036854775808 := c_maskL q 9223372036854775807 63 (by decide) (by decide)
  have h2 := (c_lrem (q &&& 9223372036854775807) 9223372036854775807 9223372036854775807 (by decide)).1 (by omega)
  unfold e0_1
  rw [h2]
  omega
theorem own_lo (q0 q1 : Int64) : 0 ≤ (f1 (e0_1 q0) (e0_2 q1)).toInt := by
  unfold f1
  have h1 := own_r q0
  have h2 : 0 ≤ (e0_2 q1).toInt := (own_r q1).1
  split
  · exact h2
  · exact h1.1
theorem own_hi (q0 q1 : Int64) : (f2 (e0_1 q0) (e0_2 q1)).toInt < 9223372036854775807 := by
  unfold f2
  have h1 := own_r q0
  have h2 : (e0_2 q1).toInt < 9223372036854775807 := (own_r q1).2
  split
  · exact h2
  · exact h1.2
theorem own_cut (q0 q1 q2 : Int64) (h : lcmpW (f1 (e0_1 q0) (e0_2 q1)) (f2 (e0_1 q0) (e0_2 q1)) < 0) :
    ¬ ((lcmpW (((e0_3 q0 q1 q2) - (f1 (e0_1 q0) (e0_2 q1))) + (1 : Int64)) (1 : Int64)) < (0 : Int32)) ∧ ¬ ((lcmpW (e0_5 q0 q1 q2) (1 : Int64)) < (0 : Int32)) ∧ (lcmpW ((((e0_3 q0 q1 q2) - (f1 (e0_1 q0) (e0_2 q1))) + (1 : Int64)) + (e0_5 q0 q1 q2)) (e0_4 q0 q1)) = (0 : Int32) := by
  have hlo := own_lo q0 q1
  have hhi := own_hi q0 q1
  unfold e0_5 e0_4 e0_3
  generalize f1 (e0_1 q0) (e0_2 q1) = f at *
  generalize f2 (e0_1 q0) (e0_2 q1) = l at *
  rw [lw_lt, lw_lt, lw_eq]
  rw [lw_lt] at h
  simp only [Int64.lt_iff_toInt_lt, ← Int64.toInt_inj] at *
  have e1 : (1 : Int64).toInt = 1 := by decide
  have hx : (q2 &&& 9223372036854775807).toInt = q2.toInt % 9223372036854775808 := c_maskL q2 9223372036854775807 63 (by decide) (by decide)
  generalize q2 &&& 9223372036854775807 = x at *
  have hd := c_lsub l f
  have hdr := rng64 (l - f)
  generalize l - f = d at *
  have hd' : d.toInt = l.toInt - f.toInt := by have := rng64 l; have := rng64 f; omega
  have hr := (c_lrem x d d.toInt rfl).1 (by omega)
  generalize x - x / d * d = r at *
  have b1 := Int.emod_nonneg x.toInt (b := d.toInt) (by omega)
  have b2 := Int.emod_lt_of_pos x.toInt (b := d.toInt) (by omega)
  rw [← hr] at b1 b2
  have m1 := c_ladd f r
  have m2 := rng64 (f + r)
  generalize f + r = m at *
  have hm : m.toInt = f.toInt + r.toInt := by omega
  have s1 := c_lsub m f
  have s2 := rng64 (m - f)
  generalize m - f = u at *
  have hu : u.toInt = r.toInt := by omega
  have t1 := c_ladd u 1
  have t2 := rng64 (u + 1)
  rw [e1] at t1
  generalize u + 1 = left at *
  have p1 := c_ladd m 1
  have p2 := rng64 (m + 1)
  rw [e1] at p1
  generalize m + 1 = m1' at *
  have v1 := c_lsub l m1'
  have v2 := rng64 (l - m1')
  generalize l - m1' = v at *
  have w1 := c_ladd v 1
  have w2 := rng64 (v + 1)
  rw [e1] at w1
  generalize v + 1 = right at *
  have x1 := c_ladd left right
  have x2 := rng64 (left + right)
  generalize left + right = sum at *
  have y1 := c_ladd d 1
  have y2 := rng64 (d + 1)
  rw [e1] at y1
  generalize d + 1 = all at *
  rw [e1]
  have hl := rng64 l
  omega
def Q0 (Z : State) (q0 : Int64) (q1 : Int64) (q2 : Int64) (q3 : Int64) (h0 : Heap) (n0 : Nat) (v : Option Value) (h : Heap) (L : List Loc) : Prop := v = some (.int (1 : Int32)) ∧ Fr n0 L
set_option maxRecDepth 65536 in
set_option maxHeartbeats 40000000 in
theorem rm0 (l : Launch) (Z : State) (a0 : Array Value) (hw : ∀ d ∈ tables_1, d.before a0 Z = true) (ws : List Jvm.Cond) (q0 : Int64) (q1 : Int64) (q2 : Int64) (q3 : Int64) (h0 : Heap) (n0 : Nat) (Z0 : n0 ≤ h0.size) :
    MetFree l x (head1 (Jvm.Cond.code x code maxLocals ret :: ws) room_1) (fun a U => a = #[(.long q0), (.long q1), (.long q2), (.long q3)] ∧ Z.Warmed39 U.vm ∧ U.heap = h0) (fun _ _ _ _ _ => True) (fun _ U o U' => ∃ v L, o = .returned v ∧ Q0 Z q0 q1 q2 q3 h0 n0 v U'.heap L ∧ FrameEnd U o U' L room_1.cells room_1.slots) := by
  refine MetFree.of_bodySF (plainFor_of_name pn_0) hisR ?_
  intro p e s m args below meth c s₁ Bd hml0 hP hK
  obtain ⟨rfl, hZ, hh⟩ := hP
  have hx := Bd.exec
  have hby := Bd.bytes
  have hml : c.maxLocals = 29 := hml0
  have hown : s.vm.findClass "com/example/cratewise/cratewise/server/ByteRangeLengthPinLaw" = some m.cls := findClass_of_methodNamed Bd.named
  have hnm := (name_of_methodNamed Bd.named Bd.method).1
  have X0 : Stand p l e room_1 s m #[(.long q0), (.long q1), (.long q2), (.long q3)] below meth c s₁ [] 0 0 := Stand.of_body Bd
  have e0 : s₁.heap = h0 := by rw [← hh, Bd.state]; rfl
  have N0 := Fr.nil n0
  have pre0 : ∀ t, Steps p.tables e below (s₁.setTop (mkF m 0 #[.val (.long q0), .second, .val (.long q1), .second, .val (.long q2), .second, .val (.long q3), .second, .unset, .unset, .unset, .unset, .unset, .unset, .unset, .unset, .unset, .unset, .unset, .unset, .unset, .unset, .unset, .unset, .unset, .unset, .unset, .unset, .unset] [])) t → Steps p.tables e below (s₁.setTop (entryFrame m #[(.long q0), (.long q1), (.long q2), (.long q3)] maxLocals)) t := fun t k => castTop (ef_0 m q0 q1 q2 q3) k
  obtain ⟨_, _, ⟨T1, L1, k1, n1⟩, -, X1, ⟨Lc1, hQ1, l1, y1, z1⟩, st1⟩ := Jvm.LawKit.callS X0 hx (y := (⟨"java/lang/Math", "min", "(JJ)J"⟩ : MethodName)) hown (mvT hZ (hw _ (List.mem_of_getElem? (i := 1) rfl))) (mvT hZ (hw _ (List.mem_of_getElem? (i := 2) rfl))) (mvT hZ (hw _ (List.mem_of_getElem? (i := 3) rfl))) (mvT hZ (hw _ (List.mem_of_getElem? (i := 4) rfl))) (by decide) (backOf (W := 0) (rm1 l Z a0 hw [] (e0_1 q0) (e0_2 q1) h0 n0 Z0 ) hZ (hw _ (List.mem_of_getElem? (i := 4) rfl)) (hw _ (List.mem_of_getElem? (i := 3) rfl)) (by decide) (by decide)) (g := (mkF m 27 #[.val (.long q0), .second, .val (.long q1), .second, .val (.long q2), .second, .val (.long q3), .second, .val (.long (9223372036854775807 : Int64)), .second, .val (.long (e0_1 q0)), .second, .val (.long (e0_2 q1)), .second, .unset, .unset, .unset, .unset, .unset, .unset, .unset, .unset, .unset, .unset, .unset, .unset, .unset, .unset, .unset] [(.long (e0_2 q1)), (.long (e0_1 q0))])) rfl (by rw [hml]; rfl) (argsL := [(.long (e0_1 q0)), (.long (e0_2 q1))]) (rest := []) (lenOf pd_0_0 rfl) rfl (by show 2 * 0 + _ ≤ _; exact Nat.le_of_eq rfl) (hb hby at_27) (fun _ _ => ⟨rfl, e0, (by decide : 0 + 0 ≤ _), (by decide : 0 + 0 ≤ _)⟩)
  dsimp only [Pt.U, Pt.locs, Pt.cells, Pt.slots] at X1 l1 y1 z1 st1 hQ1
  subst l1 y1 z1
  obtain ⟨rfl, N1q, e1q⟩ := hQ1
  have N1 := Fr.app N0 N1q
  obtain ⟨_, _, ⟨T2, L2, k2, n2⟩, -, X2, ⟨Lc2, hQ2, l2, y2, z2⟩, st2⟩ := Jvm.LawKit.callS X1 hx (y := (⟨"java/lang/Math", "max", "(JJ)J"⟩ : MethodName)) hown (mvT hZ (hw _ (List.mem_of_getElem? (i := 5) rfl))) (mvT hZ (hw _ (List.mem_of_getElem? (i := 6) rfl))) (mvT hZ (hw _ (List.mem_of_getElem? (i := 3) rfl))) (mvT hZ (hw _ (List.mem_of_getElem? (i := 7) rfl))) (by decide) (backOf (W := 0) (rm2 l Z a0 hw [] (e0_1 q0) (e0_2 q1) h0 n0 Z0 ) hZ (hw _ (List.mem_of_getElem? (i := 7) rfl)) (hw _ (List.mem_of_getElem? (i := 3) rfl)) (by decide) (by decide)) (g := (mkF m 36 #[.val (.long q0), .second, .val (.long q1), .second, .val (.long q2), .second, .val (.long q3), .second, .val (.long (9223372036854775807 : Int64)), .second, .val (.long (e0_1 q0)), .second, .val (.long (e0_2 q1)), .second, .val (.long (f1 (e0_1 q0) (e0_2 q1))), .second, .unset, .unset, .unset, .unset, .unset, .unset, .unset, .unset, .unset, .unset, .unset, .unset, .unset] [(.long (e0_2 q1)), (.long (e0_1 q0))])) rfl (by rw [hml]; rfl) (argsL := [(.long (e0_1 q0)), (.long (e0_2 q1))]) (rest := []) (lenOf pd_0_0 rfl) rfl (by show 2 * 0 + _ ≤ _; exact Nat.le_of_eq rfl) (hb hby at_36) (fun _ _ => ⟨rfl, e1q, (by decide : 0 + 0 ≤ _), (by decide : 0 + 0 ≤ _)⟩)
  dsimp only [Pt.U, Pt.locs, Pt.cells, Pt.slots] at X2 l2 y2 z2 st2 hQ2
  subst l2 y2 z2
  obtain ⟨rfl, N2q, e2q⟩ := hQ2
  have N2 := Fr.app N1 N2q
  obtain ⟨T3, h3, X3, e3, E3, A3, D3, -, st3⟩ := newO X2 hx hZ hown (hw _ (List.mem_of_getElem? (i := 8) rfl)) (hw _ (List.mem_of_getElem? (i := 9) rfl)) (hw _ (List.mem_of_getElem? (i := 10) rfl)) e2q (g := (mkF m 41 #[.val (.long q0), .second, .val (.long q1), .second, .val (.long q2), .second, .val (.long q3), .second, .val (.long (9223372036854775807 : Int64)), .second, .val (.long (e0_1 q0)), .second, .val (.long (e0_2 q1)), .second, .val (.long (f1 (e0_1 q0) (e0_2 q1))), .second, .val (.long (f2 (e0_1 q0) (e0_2 q1))), .second, .unset, .unset, .unset, .unset, .unset, .unset, .unset, .unset, .unset, .unset, .unset] [])) rfl (hb hby at_41) (by decide) (by decide)
  obtain ⟨b3, g3⟩ : ∃ z, z = h0.size := ⟨_, rfl⟩
  rw [← g3] at A3 D3 st3
  have g_b3 : n0 ≤ b3 := Nat.le_trans Z0 (Nat.le_of_eq g3.symm)
  have sz_b3 : h0.size ≤ b3 := Nat.le_trans (Keep.refl h0 []).1 (Nat.le_of_eq g3.symm)
  have K4 : Keep h0 h3 [] := (Keep.refl h0 []).ext E3
  have Z5 : n0 ≤ h3.size := Nat.le_trans Z0 K4.1
  have E_b3 := A3
  have F_first_b3 : Fld Z h3 b3 "com/example/cratewise/cratewise/server/ByteRange" "first" "J" (.long (0 : Int64)) := D3 (Or.inr (hw _ (List.mem_of_getElem? (i := 23) rfl))) (ty := .long) (by decide)
  have F_last_b3 : Fld Z h3 b3 "com/example/cratewise/cratewise/server/ByteRange" "last" "J" (.long (0 : Int64)) := D3 (Or.inr (hw _ (List.mem_of_getElem? (i := 25) rfl))) (ty := .long) (by decide)
  obtain ⟨_, _, ⟨T6, L6, k6, n6⟩, -, X6, ⟨Lc6, hQ6, l6, y6, z6⟩, st6⟩ := X3.specialBack hx (y := (⟨"com/example/cratewise/cratewise/server/ByteRange", "<init>", "(JJ)V"⟩ : MethodName)) rfl hown (mvT hZ (hw _ (List.mem_of_getElem? (i := 11) rfl))) (mvT hZ (hw _ (List.mem_of_getElem? (i := 12) rfl))) (mvT hZ (hw _ (List.mem_of_getElem? (i := 13) rfl))) (by decide) (backOf (W := 1) (rm3 l Z a0 hw [] b3 (f1 (e0_1 q0) (e0_2 q1)) (f1 (e0_1 q0) (e0_2 q1)) (0 : Int64) (0 : Int64) h3 n0 Z5 E_b3 F_first_b3 g_b3 F_last_b3) hZ (hw _ (List.mem_of_getElem? (i := 13) rfl)) (hw _ (List.mem_of_getElem? (i := 10) rfl)) (by decide) (by decide)) (g := (mkF m 49 #[.val (.long q0), .second, .val (.long q1), .second, .val (.long q2), .second, .val (.long q3), .second, .val (.long (9223372036854775807 : Int64)), .second, .val (.long (e0_1 q0)), .second, .val (.long (e0_2 q1)), .second, .val (.long (f1 (e0_1 q0) (e0_2 q1))), .second, .val (.long (f2 (e0_1 q0) (e0_2 q1))), .second, .unset, .unset, .unset, .unset, .unset, .unset, .unset, .unset, .unset, .unset, .unset] [(.long (f1 (e0_1 q0) (e0_2 q1))), (.long (f1 (e0_1 q0) (e0_2 q1))), (.ref b3), (.ref b3)])) rfl (by rw [hml]; rfl) (Steps.refl _) (a := b3) (argsL := [(.long (f1 (e0_1 q0) (e0_2 q1))), (.long (f1 (e0_1 q0) (e0_2 q1)))]) (rest := [(.ref b3)]) (lenOf pd_0_1 rfl) rfl (by show 2 * 0 + _ ≤ _; exact Nat.le_of_eq rfl) (hb hby at_49) (fun _ _ => ⟨rfl, e3, (by decide : 1 + 0 ≤ _), (by decide : 2 + 0 ≤ _)⟩)
  dsimp only [Pt.U, Pt.locs, Pt.cells, Pt.slots] at X6 l6 y6 z6 st6 hQ6
  subst l6 y6 z6
  obtain ⟨rfl, N6q, K6q, G6_0, G6_1⟩ := hQ6
  have N6 := Fr.app N2 N6q
  have K7 : Keep h0 T6.heap [] := K4.trans K6q (allS (Or.inr sz_b3) all0)
  have Z8 : n0 ≤ T6.heap.size := Nat.le_trans Z0 K7.1
  obtain ⟨cq9, kq9, q9a, q9b, q9c⟩ := isOf hZ rfl (E_b3.keep K6q)
  obtain ⟨_, _, ⟨T9, L9, k9, n9⟩, -, X9, ⟨Lc9, hQ9, l9, y9, z9⟩, st9⟩ := X6.virtualBack hx (y := (⟨"com/example/cratewise/cratewise/server/ByteRange", "length", "()J"⟩ : MethodName)) (z := (⟨"com/example/cratewise/cratewise/server/ByteRange", "length", "()J"⟩ : MethodName)) hown (mvT hZ (hw _ (List.mem_of_getElem? (i := 26) rfl))) (mvT hZ (hw _ (List.mem_of_getElem? (i := 27) rfl))) (notFace_of_selects (args := #[]) (mvT hZ (hw _ (List.mem_of_getElem? (i := 29) rfl)))) (mvT hZ (hw _ (List.mem_of_getElem? (i := 29) rfl))) (mvT hZ (hw _ (List.mem_of_getElem? (i := 28) rfl))) (by decide) (backOf (W := 0) (rm6 l Z a0 hw [] b3 (f1 (e0_1 q0) (e0_2 q1)) (f1 (e0_1 q0) (e0_2 q1)) T6.heap n0 Z8 G6_1 G6_0) hZ (hw _ (List.mem_of_getElem? (i := 30) rfl)) (hw _ (List.mem_of_getElem? (i := 10) rfl)) (by decide) (by decide)) q9a q9c (g := (mkF m 52 #[.val (.long q0), .second, .val (.long q1), .second, .val (.long q2), .second, .val (.long q3), .second, .val (.long (9223372036854775807 : Int64)), .second, .val (.long (e0_1 q0)), .second, .val (.long (e0_2 q1)), .second, .val (.long (f1 (e0_1 q0) (e0_2 q1))), .second, .val (.long (f2 (e0_1 q0) (e0_2 q1))), .second, .unset, .unset, .unset, .unset, .unset, .unset, .unset, .unset, .unset, .unset, .unset] [(.ref b3)])) rfl (by rw [hml]; rfl) (Steps.refl _) (argsL := []) (rest := []) (lenOf pd_0_2 rfl) rfl (by show 2 * 0 + _ ≤ _; exact Nat.le_of_eq rfl) (hb hby at_52) (fun _ _ => ⟨rfl, rfl, (by decide : 1 + 0 ≤ _), (by decide : 2 + 0 ≤ _)⟩)
  dsimp only [Pt.U, Pt.locs, Pt.cells, Pt.slots] at X9 l9 y9 z9 st9 hQ9
  subst l9 y9 z9
  obtain ⟨rfl, N9q, e9q⟩ := hQ9
  have N9 := Fr.app N6 N9q
  have pre10 : ∀ t, Steps p.tables e below (T9.setTop (mkF m 57 #[.val (.long q0), .second, .val (.long q1), .second, .val (.long q2), .second, .val (.long q3), .second, .val (.long (9223372036854775807 : Int64)), .second, .val (.long (e0_1 q0)), .second, .val (.long (e0_2 q1)), .second, .val (.long (f1 (e0_1 q0) (e0_2 q1))), .second, .val (.long (f2 (e0_1 q0) (e0_2 q1))), .second, .unset, .unset, .unset, .unset, .unset, .unset, .unset, .unset, .unset, .unset, .unset] [(.int (lcmpW (((f1 (e0_1 q0) (e0_2 q1)) - (f1 (e0_1 q0) (e0_2 q1))) + (1 : Int64)) (1 : Int64)))])) t → Steps p.tables e below (s₁.setTop (entryFrame m #[(.long q0), (.long q1), (.long q2), (.long q3)] maxLocals)) t := fun t kt => pre0 t (by
      show Steps p.tables e below (s₁.setTop (mkF m 0 #[.val (.long q0), .second, .val (.long q1), .second, .val (.long q2), .second, .val (.long q3), .second, .unset, .unset, .unset, .unset, .unset, .unset, .unset, .unset, .unset, .unset, .unset, .unset, .unset, .unset, .unset, .unset, .unset, .unset, .unset, .unset, .unset] [])) _
      refine X0.ldc2Long hx hown (mvT hZ (hw _ (List.mem_of_getElem? (i := 0) rfl))) (g := (mkF m 0 #[.val (.long q0), .second, .val (.long q1), .second, .val (.long q2), .second, .val (.long q3), .second, .unset, .unset, .unset, .unset, .unset, .unset, .unset, .unset, .unset, .unset, .unset, .unset, .unset, .unset, .unset, .unset, .unset, .unset, .unset, .unset, .unset] [])) rfl (hb hby at_0) _ ?_
      show Steps p.tables e below (s₁.setTop (mkF m 3 #[.val (.long q0), .second, .val (.long q1), .second, .val (.long q2), .second, .val (.long q3), .second, .unset, .unset, .unset, .unset, .unset, .unset, .unset, .unset, .unset, .unset, .unset, .unset, .unset, .unset, .unset, .unset, .unset, .unset, .unset, .unset, .unset] [(.long (9223372036854775807 : Int64))])) _
      refine XS.lstore X0.here hx rfl (hb hby at_3) rfl (l' := #[.val (.long q0), .second, .val (.long q1), .second, .val (.long q2), .second, .val (.long q3), .second, .val (.long (9223372036854775807 : Int64)), .second, .unset, .unset, .unset, .unset, .unset, .unset, .unset, .unset, .unset, .unset, .unset, .unset, .unset, .unset, .unset, .unset, .unset, .unset, .unset]) rfl ?_
      show Steps p.tables e below (s₁.setTop (mkF m 5 #[.val (.long q0), .second, .val (.long q1), .second, .val (.long q2), .second, .val (.long q3), .second, .val (.long (9223372036854775807 : Int64)), .second, .unset, .unset, .unset, .unset, .unset, .unset, .unset, .unset, .unset, .unset, .unset, .unset, .unset, .unset, .unset, .unset, .unset, .unset, .unset] [])) _
      refine XS.lloadN X0.here hx rfl (hb hby at_5) rfl ?_
      show Steps p.tables e below (s₁.setTop (mkF m 6 #[.val (.long q0), .second, .val (.long q1), .second, .val (.long q2), .second, .val (.long q3), .second, .val (.long (9223372036854775807 : Int64)), .second, .unset, .unset, .unset, .unset, .unset, .unset, .unset, .unset, .unset, .unset, .unset, .unset, .unset, .unset, .unset, .unset, .unset, .unset, .unset] [(.long q0)])) _
      refine XS.lload X0.here hx rfl (hb hby at_6) rfl ?_
      show Steps p.tables e below (s₁.setTop (mkF m 8 #[.val (.long q0), .second, .val (.long q1), .second, .val (.long q2), .second, .val (.long q3), .second, .val (.long (9223372036854775807 : Int64)), .second, .unset, .unset, .unset, .unset, .unset, .unset, .unset, .unset, .unset, .unset, .unset, .unset, .unset, .unset, .unset, .unset, .unset, .unset, .unset] [(.long (9223372036854775807 : Int64)), (.long q0)])) _
      refine XS.land X0.here hx rfl (hb hby at_8) rfl ?_
      show Steps p.tables e below (s₁.setTop (mkF m 9 #[.val (.long q0), .second, .val (.long q1), .second, .val (.long q2), .second, .val (.long q3), .second, .val (.long (9223372036854775807 : Int64)), .second, .unset, .unset, .unset, .unset, .unset, .unset, .unset, .unset, .unset, .unset, .unset, .unset, .unset, .unset, .unset, .unset, .unset, .unset, .unset] [(.long (q0 &&& (9223372036854775807 : Int64)))])) _
      refine XS.lload X0.here hx rfl (hb hby at_9) rfl ?_
      show Steps p.tables e below (s₁.setTop (mkF m 11 #[.val (.long q0), .second, .val (.long q1), .second, .val (.long q2), .second, .val (.long q3), .second, .val (.long (9223372036854775807 : Int64)), .second, .unset, .unset, .unset, .unset, .unset, .unset, .unset, .unset, .unset, .unset, .unset, .unset, .unset, .unset, .unset, .unset, .unset, .unset, .unset] [(.long (9223372036854775807 : Int64)), (.long (q0 &&& (9223372036854775807 : Int64)))])) _
      refine XS.lrem X0.here hx rfl (hb hby at_11) rfl (by decide) ?_
      show Steps p.tables e below (s₁.setTop (mkF m 12 #[.val (.long q0), .second, .val (.long q1), .second, .val (.long q2), .second, .val (.long q3), .second, .val (.long (9223372036854775807 : Int64)), .second, .unset, .unset, .unset, .unset, .unset, .unset, .unset, .unset, .unset, .unset, .unset, .unset, .unset, .unset, .unset, .unset, .unset, .unset, .unset] [(.long ((q0 &&& (9223372036854775807 : Int64)) - ((q0 &&& (9223372036854775807 : Int64)) / (9223372036854775807 : Int64)) * (9223372036854775807 : Int64)))])) _
      refine XS.lstore X0.here hx rfl (hb hby at_12) rfl (l' := #[.val (.long q0), .second, .val (.long q1), .second, .val (.long q2), .second, .val (.long q3), .second, .val (.long (9223372036854775807 : Int64)), .second, .val (.long (e0_1 q0)), .second, .unset, .unset, .unset, .unset, .unset, .unset, .unset, .unset, .unset, .unset, .unset, .unset, .unset, .unset, .unset, .unset, .unset]) rfl ?_
      show Steps p.tables e below (s₁.setTop (mkF m 14 #[.val (.long q0), .second, .val (.long q1), .second, .val (.long q2), .second, .val (.long q3), .second, .val (.long (9223372036854775807 : Int64)), .second, .val (.long (e0_1 q0)), .second, .unset, .unset, .unset, .unset, .unset, .unset, .unset, .unset, .unset, .unset, .unset, .unset, .unset, .unset, .unset, .unset, .unset] [])) _
      refine XS.lloadN X0.here hx rfl (hb hby at_14) rfl ?_
      show Steps p.tables e below (s₁.setTop (mkF m 15 #[.val (.long q0), .second, .val (.long q1), .second, .val (.long q2), .second, .val (.long q3), .second, .val (.long (9223372036854775807 : Int64)), .second, .val (.long (e0_1 q0)), .second, .unset, .unset, .unset, .unset, .unset, .unset, .unset, .unset, .unset, .unset, .unset, .unset, .unset, .unset, .unset, .unset, .unset] [(.long q1)])) _
      refine XS.lload X0.here hx rfl (hb hby at_15) rfl ?_
      show Steps p.tables e below (s₁.setTop (mkF m 17 #[.val (.long q0), .second, .val (.long q1), .second, .val (.long q2), .second, .val (.long q3), .second, .val (.long (9223372036854775807 : Int64)), .second, .val (.long (e0_1 q0)), .second, .unset, .unset, .unset, .unset, .unset, .unset, .unset, .unset, .unset, .unset, .unset, .unset, .unset, .unset, .unset, .unset, .unset] [(.long (9223372036854775807 : Int64)), (.long q1)])) _
      refine XS.land X0.here hx rfl (hb hby at_17) rfl ?_
      show Steps p.tables e below (s₁.setTop (mkF m 18 #[.val (.long q0), .second, .val (.long q1), .second, .val (.long q2), .second, .val (.long q3), .second, .val (.long (9223372036854775807 : Int64)), .second, .val (.long (e0_1 q0)), .second, .unset, .unset, .unset, .unset, .unset, .unset, .unset, .unset, .unset, .unset, .unset, .unset, .unset, .unset, .unset, .unset, .unset] [(.long (q1 &&& (9223372036854775807 : Int64)))])) _
      refine XS.lload X0.here hx rfl (hb hby at_18) rfl ?_
      show Steps p.tables e below (s₁.setTop (mkF m 20 #[.val (.long q0), .second, .val (.long q1), .second, .val (.long q2), .second, .val (.long q3), .second, .val (.long (9223372036854775807 : Int64)), .second, .val (.long (e0_1 q0)), .second, .unset, .unset, .unset, .unset, .unset, .unset, .unset, .unset, .unset, .unset, .unset, .unset, .unset, .unset, .unset, .unset, .unset] [(.long (9223372036854775807 : Int64)), (.long (q1 &&& (9223372036854775807 : Int64)))])) _
      refine XS.lrem X0.here hx rfl (hb hby at_20) rfl (by decide) ?_
      show Steps p.tables e below (s₁.setTop (mkF m 21 #[.val (.long q0), .second, .val (.long q1), .second, .val (.long q2), .second, .val (.long q3), .second, .val (.long (9223372036854775807 : Int64)), .second, .val (.long (e0_1 q0)), .second, .unset, .unset, .unset, .unset, .unset, .unset, .unset, .unset, .unset, .unset, .unset, .unset, .unset, .unset, .unset, .unset, .unset] [(.long ((q1 &&& (9223372036854775807 : Int64)) - ((q1 &&& (9223372036854775807 : Int64)) / (9223372036854775807 : Int64)) * (9223372036854775807 : Int64)))])) _
      refine XS.lstore X0.here hx rfl (hb hby at_21) rfl (l' := #[.val (.long q0), .second, .val (.long q1), .second, .val (.long q2), .second, .val (.long q3), .second, .val (.long (9223372036854775807 : Int64)), .second, .val (.long (e0_1 q0)), .second, .val (.long (e0_2 q1)), .second, .unset, .unset, .unset, .unset, .unset, .unset, .unset, .unset, .unset, .unset, .unset, .unset, .unset, .unset, .unset]) rfl ?_
      show Steps p.tables e below (s₁.setTop (mkF m 23 #[.val (.long q0), .second, .val (.long q1), .second, .val (.long q2), .second, .val (.long q3), .second, .val (.long (9223372036854775807 : Int64)), .second, .val (.long (e0_1 q0)), .second, .val (.long (e0_2 q1)), .second, .unset, .unset, .unset, .unset, .unset, .unset, .unset, .unset, .unset, .unset, .unset, .unset, .unset, .unset, .unset] [])) _
      refine XS.lload X0.here hx rfl (hb hby at_23) rfl ?_
      show Steps p.tables e below (s₁.setTop (mkF m 25 #[.val (.long q0), .second, .val (.long q1), .second, .val (.long q2), .second, .val (.long q3), .second, .val (.long (9223372036854775807 : Int64)), .second, .val (.long (e0_1 q0)), .second, .val (.long (e0_2 q1)), .second, .unset, .unset, .unset, .unset, .unset, .unset, .unset, .unset, .unset, .unset, .unset, .unset, .unset, .unset, .unset] [(.long (e0_1 q0))])) _
      refine XS.lload X0.here hx rfl (hb hby at_25) rfl ?_
      show Steps p.tables e below (s₁.setTop (mkF m 27 #[.val (.long q0), .second, .val (.long q1), .second, .val (.long q2), .second, .val (.long q3), .second, .val (.long (9223372036854775807 : Int64)), .second, .val (.long (e0_1 q0)), .second, .val (.long (e0_2 q1)), .second, .unset, .unset, .unset, .unset, .unset, .unset, .unset, .unset, .unset, .unset, .unset, .unset, .unset, .unset, .unset] [(.long (e0_2 q1)), (.long (e0_1 q0))])) _
      refine st1 _ ?_
      show Steps p.tables e below (T1.setTop (mkF m 30 #[.val (.long q0), .second, .val (.long q1), .second, .val (.long q2), .second, .val (.long q3), .second, .val (.long (9223372036854775807 : Int64)), .second, .val (.long (e0_1 q0)), .second, .val (.long (e0_2 q1)), .second, .unset, .unset, .unset, .unset, .unset, .unset, .unset, .unset, .unset, .unset, .unset, .unset, .unset, .unset, .unset] [(.long (f1 (e0_1 q0) (e0_2 q1)))])) _
      refine XS.lstore X1.here hx rfl (hb hby at_30) rfl (l' := #[.val (.long q0), .second, .val (.long q1), .second, .val (.long q2), .second, .val (.long q3), .second, .val (.long (9223372036854775807 : Int64)), .second, .val (.long (e0_1 q0)), .second, .val (.long (e0_2 q1)), .second, .val (.long (f1 (e0_1 q0) (e0_2 q1))), .second, .unset, .unset, .unset, .unset, .unset, .unset, .unset, .unset, .unset, .unset, .unset, .unset, .unset]) rfl ?_
      show Steps p.tables e below (T1.setTop (mkF m 32 #[.val (.long q0), .second, .val (.long q1), .second, .val (.long q2), .second, .val (.long q3), .second, .val (.long (9223372036854775807 : Int64)), .second, .val (.long (e0_1 q0)), .second, .val (.long (e0_2 q1)), .second, .val (.long (f1 (e0_1 q0) (e0_2 q1))), .second, .unset, .unset, .unset, .unset, .unset, .unset, .unset, .unset, .unset, .unset, .unset, .unset, .unset] [])) _
      refine XS.lload X1.here hx rfl (hb hby at_32) rfl ?_
      show Steps p.tables e below (T1.setTop (mkF m 34 #[.val (.long q0), .second, .val (.long q1), .second, .val (.long q2), .second, .val (.long q3), .second, .val (.long (9223372036854775807 : Int64)), .second, .val (.long (e0_1 q0)), .second, .val (.long (e0_2 q1)), .second, .val (.long (f1 (e0_1 q0) (e0_2 q1))), .second, .unset, .unset, .unset, .unset, .unset, .unset, .unset, .unset, .unset, .unset, .unset, .unset, .unset] [(.long (e0_1 q0))])) _
      refine XS.lload X1.here hx rfl (hb hby at_34) rfl ?_
      show Steps p.tables e below (T1.setTop (mkF m 36 #[.val (.long q0), .second, .val (.long q1), .second, .val (.long q2), .second, .val (.long q3), .second, .val (.long (9223372036854775807 : Int64)), .second, .val (.long (e0_1 q0)), .second, .val (.long (e0_2 q1)), .second, .val (.long (f1 (e0_1 q0) (e0_2 q1))), .second, .unset, .unset, .unset, .unset, .unset, .unset, .unset, .unset, .unset, .unset, .unset, .unset, .unset] [(.long (e0_2 q1)), (.long (e0_1 q0))])) _
      refine st2 _ ?_
      show Steps p.tables e below (T2.setTop (mkF m 39 #[.val (.long q0), .second, .val (.long q1), .second, .val (.long q2), .second, .val (.long q3), .second, .val (.long (9223372036854775807 : Int64)), .second, .val (.long (e0_1 q0)), .second, .val (.long (e0_2 q1)), .second, .val (.long (f1 (e0_1 q0) (e0_2 q1))), .second, .unset, .unset, .unset, .unset, .unset, .unset, .unset, .unset, .unset, .unset, .unset, .unset, .unset] [(.long (f2 (e0_1 q0) (e0_2 q1)))])) _
      refine XS.lstore X2.here hx rfl (hb hby at_39) rfl (l' := #[.val (.long q0), .second, .val (.long q1), .second, .val (.long q2), .second, .val (.long q3), .second, .val (.long (9223372036854775807 : Int64)), .second, .val (.long (e0_1 q0)), .second, .val (.long (e0_2 q1)), .second, .val (.long (f1 (e0_1 q0) (e0_2 q1))), .second, .val (.long (f2 (e0_1 q0) (e0_2 q1))), .second, .unset, .unset, .unset, .unset, .unset, .unset, .unset, .unset, .unset, .unset, .unset]) rfl ?_
      show Steps p.tables e below (T2.setTop (mkF m 41 #[.val (.long q0), .second, .val (.long q1), .second, .val (.long q2), .second, .val (.long q3), .second, .val (.long (9223372036854775807 : Int64)), .second, .val (.long (e0_1 q0)), .second, .val (.long (e0_2 q1)), .second, .val (.long (f1 (e0_1 q0) (e0_2 q1))), .second, .val (.long (f2 (e0_1 q0) (e0_2 q1))), .second, .unset, .unset, .unset, .unset, .unset, .unset, .unset, .unset, .unset, .unset, .unset] [])) _
      refine st3 _ ?_
      show Steps p.tables e below (T3.setTop (mkF m 44 #[.val (.long q0), .second, .val (.long q1), .second, .val (.long q2), .second, .val (.long q3), .second, .val (.long (9223372036854775807 : Int64)), .second, .val (.long (e0_1 q0)), .second, .val (.long (e0_2 q1)), .second, .val (.long (f1 (e0_1 q0) (e0_2 q1))), .second, .val (.long (f2 (e0_1 q0) (e0_2 q1))), .second, .unset, .unset, .unset, .unset, .unset, .unset, .unset, .unset, .unset, .unset, .unset] [(.ref b3)])) _
      refine XS.dup X3.here hx rfl (hb hby at_44) rfl rfl ?_
      show Steps p.tables e below (T3.setTop (mkF m 45 #[.val (.long q0), .second, .val (.long q1), .second, .val (.long q2), .second, .val (.long q3), .second, .val (.long (9223372036854775807 : Int64)), .second, .val (.long (e0_1 q0)), .second, .val (.long (e0_2 q1)), .second, .val (.long (f1 (e0_1 q0) (e0_2 q1))), .second, .val (.long (f2 (e0_1 q0) (e0_2 q1))), .second, .unset, .unset, .unset, .unset, .unset, .unset, .unset, .unset, .unset, .unset, .unset] [(.ref b3), (.ref b3)])) _
      refine XS.lload X3.here hx rfl (hb hby at_45) rfl ?_
      show Steps p.tables e below (T3.setTop (mkF m 47 #[.val (.long q0), .second, .val (.long q1), .second, .val (.long q2), .second, .val (.long q3), .second, .val (.long (9223372036854775807 : Int64)), .second, .val (.long (e0_1 q0)), .second, .val (.long (e0_2 q1)), .second, .val (.long (f1 (e0_1 q0) (e0_2 q1))), .second, .val (.long (f2 (e0_1 q0) (e0_2 q1))), .second, .unset, .unset, .unset, .unset, .unset, .unset, .unset, .unset, .unset, .unset, .unset] [(.long (f1 (e0_1 q0) (e0_2 q1))), (.ref b3), (.ref b3)])) _
      refine XS.lload X3.here hx rfl (hb hby at_47) rfl ?_
      show Steps p.tables e below (T3.setTop (mkF m 49 #[.val (.long q0), .second, .val (.long q1), .second, .val (.long q2), .second, .val (.long q3), .second, .val (.long (9223372036854775807 : Int64)), .second, .val (.long (e0_1 q0)), .second, .val (.long (e0_2 q1)), .second, .val (.long (f1 (e0_1 q0) (e0_2 q1))), .second, .val (.long (f2 (e0_1 q0) (e0_2 q1))), .second, .unset, .unset, .unset, .unset, .unset, .unset, .unset, .unset, .unset, .unset, .unset] [(.long (f1 (e0_1 q0) (e0_2 q1))), (.long (f1 (e0_1 q0) (e0_2 q1))), (.ref b3), (.ref b3)])) _
      refine st6.trans ?_
      show Steps p.tables e below (T6.setTop (mkF m 52 #[.val (.long q0), .second, .val (.long q1), .second, .val (.long q2), .second, .val (.long q3), .second, .val (.long (9223372036854775807 : Int64)), .second, .val (.long (e0_1 q0)), .second, .val (.long (e0_2 q1)), .second, .val (.long (f1 (e0_1 q0) (e0_2 q1))), .second, .val (.long (f2 (e0_1 q0) (e0_2 q1))), .second, .unset, .unset, .unset, .unset, .unset, .unset, .unset, .unset, .unset, .unset, .unset] [(.ref b3)])) _
      refine st9.trans ?_
      show Steps p.tables e below (T9.setTop (mkF m 55 #[.val (.long q0), .second, .val (.long q1), .second, .val (.long q2), .second, .val (.long q3), .second, .val (.long (9223372036854775807 : Int64)), .second, .val (.long (e0_1 q0)), .second, .val (.long (e0_2 q1)), .second, .val (.long (f1 (e0_1 q0) (e0_2 q1))), .second, .val (.long (f2 (e0_1 q0) (e0_2 q1))), .second, .unset, .unset, .unset, .unset, .unset, .unset, .unset, .unset, .unset, .unset, .unset] [(.long (((f1 (e0_1 q0) (e0_2 q1)) - (f1 (e0_1 q0) (e0_2 q1))) + (1 : Int64)))])) _
      refine XS.lconst X9.here hx rfl (hb hby at_55) ?_
      show Steps p.tables e below (T9.setTop (mkF m 56 #[.val (.long q0), .second, .val (.long q1), .second, .val (.long q2), .second, .val (.long q3), .second, .val (.long (9223372036854775807 : Int64)), .second, .val (.long (e0_1 q0)), .second, .val (.long (e0_2 q1)), .second, .val (.long (f1 (e0_1 q0) (e0_2 q1))), .second, .val (.long (f2 (e0_1 q0) (e0_2 q1))), .second, .unset, .unset, .unset, .unset, .unset, .unset, .unset, .unset, .unset, .unset, .unset] [(.long (1 : Int64)), (.long (((f1 (e0_1 q0) (e0_2 q1)) - (f1 (e0_1 q0) (e0_2 q1))) + (1 : Int64)))])) _
      refine XS.lcmp X9.here hx rfl (hb hby at_56) rfl ?_
      exact kt)
  have hd57_11 : (lcmpW (((f1 (e0_1 q0) (e0_2 q1)) - (f1 (e0_1 q0) (e0_2 q1))) + (1 : Int64)) (1 : Int64)) = (0 : Int32) := own_one _
  have pre12 : ∀ t, Steps p.tables e below (T9.setTop (mkF m 76 #[.val (.long q0), .second, .val (.long q1), .second, .val (.long q2), .second, .val (.long q3), .second, .val (.long (9223372036854775807 : Int64)), .second, .val (.long (e0_1 q0)), .second, .val (.long (e0_2 q1)), .second, .val (.long (f1 (e0_1 q0) (e0_2 q1))), .second, .val (.long (f2 (e0_1 q0) (e0_2 q1))), .second, .val (.int (1 : Int32)), .val (.long (q3 &&& (9223372036854775807 : Int64))), .second, .unset, .unset, .unset, .unset, .unset, .unset, .unset, .unset] [(.int (1 : Int32))])) t → Steps p.tables e below (s₁.setTop (entryFrame m #[(.long q0), (.long q1), (.long q2), (.long q3)] maxLocals)) t := fun t kt => pre10 t (by
      show Steps p.tables e below (T9.setTop (mkF m 57 #[.val (.long q0), .second, .val (.long q1), .second, .val (.long q2), .second, .val (.long q3), .second, .val (.long (9223372036854775807 : Int64)), .second, .val (.long (e0_1 q0)), .second, .val (.long (e0_2 q1)), .second, .val (.long (f1 (e0_1 q0) (e0_2 q1))), .second, .val (.long (f2 (e0_1 q0) (e0_2 q1))), .second, .unset, .unset, .unset, .unset, .unset, .unset, .unset, .unset, .unset, .unset, .unset] [(.int (lcmpW (((f1 (e0_1 q0) (e0_2 q1)) - (f1 (e0_1 q0) (e0_2 q1))) + (1 : Int64)) (1 : Int64)))])) _
      refine XS.ifNo X9.here hx rfl (hb hby at_57) rfl ((if0 _ _).trans (teq hd57_11).2) ?_
      show Steps p.tables e below (T9.setTop (mkF m 60 #[.val (.long q0), .second, .val (.long q1), .second, .val (.long q2), .second, .val (.long q3), .second, .val (.long (9223372036854775807 : Int64)), .second, .val (.long (e0_1 q0)), .second, .val (.long (e0_2 q1)), .second, .val (.long (f1 (e0_1 q0) (e0_2 q1))), .second, .val (.long (f2 (e0_1 q0) (e0_2 q1))), .second, .unset, .unset, .unset, .unset, .unset, .unset, .unset, .unset, .unset, .unset, .unset] [])) _
      refine XS.iconst X9.here hx rfl (hb hby at_60) ?_
      show Steps p.tables e below (T9.setTop (mkF m 61 #[.val (.long q0), .second, .val (.long q1), .second, .val (.long q2), .second, .val (.long q3), .second, .val (.long (9223372036854775807 : Int64)), .second, .val (.long (e0_1 q0)), .second, .val (.long (e0_2 q1)), .second, .val (.long (f1 (e0_1 q0) (e0_2 q1))), .second, .val (.long (f2 (e0_1 q0) (e0_2 q1))), .second, .unset, .unset, .unset, .unset, .unset, .unset, .unset, .unset, .unset, .unset, .unset] [(.int (1 : Int32))])) _
      refine XS.goto X9.here hx rfl (pc0 := 61) (pc' := 65) rfl (hb hby at_61) (by decide) (by decide) ?_
      show Steps p.tables e below (T9.setTop (mkF m 65 #[.val (.long q0), .second, .val (.long q1), .second, .val (.long q2), .second, .val (.long q3), .second, .val (.long (9223372036854775807 : Int64)), .second, .val (.long (e0_1 q0)), .second, .val (.long (e0_2 q1)), .second, .val (.long (f1 (e0_1 q0) (e0_2 q1))), .second, .val (.long (f2 (e0_1 q0) (e0_2 q1))), .second, .unset, .unset, .unset, .unset, .unset, .unset, .unset, .unset, .unset, .unset, .unset] [(.int (1 : Int32))])) _
      refine XS.istore X9.here hx rfl (hb hby at_65) rfl (l' := #[.val (.long q0), .second, .val (.long q1), .second, .val (.long q2), .second, .val (.long q3), .second, .val (.long (9223372036854775807 : Int64)), .second, .val (.long (e0_1 q0)), .second, .val (.long (e0_2 q1)), .second, .val (.long (f1 (e0_1 q0) (e0_2 q1))), .second, .val (.long (f2 (e0_1 q0) (e0_2 q1))), .second, .val (.int (1 : Int32)), .unset, .unset, .unset, .unset, .unset, .unset, .unset, .unset, .unset, .unset]) rfl ?_
      show Steps p.tables e below (T9.setTop (mkF m 67 #[.val (.long q0), .second, .val (.long q1), .second, .val (.long q2), .second, .val (.long q3), .second, .val (.long (9223372036854775807 : Int64)), .second, .val (.long (e0_1 q0)), .second, .val (.long (e0_2 q1)), .second, .val (.long (f1 (e0_1 q0) (e0_2 q1))), .second, .val (.long (f2 (e0_1 q0) (e0_2 q1))), .second, .val (.int (1 : Int32)), .unset, .unset, .unset, .unset, .unset, .unset, .unset, .unset, .unset, .unset] [])) _
      refine XS.lload X9.here hx rfl (hb hby at_67) rfl ?_
      show Steps p.tables e below (T9.setTop (mkF m 69 #[.val (.long q0), .second, .val (.long q1), .second, .val (.long q2), .second, .val (.long q3), .second, .val (.long (9223372036854775807 : Int64)), .second, .val (.long (e0_1 q0)), .second, .val (.long (e0_2 q1)), .second, .val (.long (f1 (e0_1 q0) (e0_2 q1))), .second, .val (.long (f2 (e0_1 q0) (e0_2 q1))), .second, .val (.int (1 : Int32)), .unset, .unset, .unset, .unset, .unset, .unset, .unset, .unset, .unset, .unset] [(.long q3)])) _
      refine XS.lload X9.here hx rfl (hb hby at_69) rfl ?_
      show Steps p.tables e below (T9.setTop (mkF m 71 #[.val (.long q0), .second, .val (.long q1), .second, .val (.long q2), .second, .val (.long q3), .second, .val (.long (9223372036854775807 : Int64)), .second, .val (.long (e0_1 q0)), .second, .val (.long (e0_2 q1)), .second, .val (.long (f1 (e0_1 q0) (e0_2 q1))), .second, .val (.long (f2 (e0_1 q0) (e0_2 q1))), .second, .val (.int (1 : Int32)), .unset, .unset, .unset, .unset, .unset, .unset, .unset, .unset, .unset, .unset] [(.long (9223372036854775807 : Int64)), (.long q3)])) _
      refine XS.land X9.here hx rfl (hb hby at_71) rfl ?_
      show Steps p.tables e below (T9.setTop (mkF m 72 #[.val (.long q0), .second, .val (.long q1), .second, .val (.long q2), .second, .val (.long q3), .second, .val (.long (9223372036854775807 : Int64)), .second, .val (.long (e0_1 q0)), .second, .val (.long (e0_2 q1)), .second, .val (.long (f1 (e0_1 q0) (e0_2 q1))), .second, .val (.long (f2 (e0_1 q0) (e0_2 q1))), .second, .val (.int (1 : Int32)), .unset, .unset, .unset, .unset, .unset, .unset, .unset, .unset, .unset, .unset] [(.long (q3 &&& (9223372036854775807 : Int64)))])) _
      refine XS.lstore X9.here hx rfl (hb hby at_72) rfl (l' := #[.val (.long q0), .second, .val (.long q1), .second, .val (.long q2), .second, .val (.long q3), .second, .val (.long (9223372036854775807 : Int64)), .second, .val (.long (e0_1 q0)), .second, .val (.long (e0_2 q1)), .second, .val (.long (f1 (e0_1 q0) (e0_2 q1))), .second, .val (.long (f2 (e0_1 q0) (e0_2 q1))), .second, .val (.int (1 : Int32)), .val (.long (q3 &&& (9223372036854775807 : Int64))), .second, .unset, .unset, .unset, .unset, .unset, .unset, .unset, .unset]) rfl ?_
      show Steps p.tables e below (T9.setTop (mkF m 74 #[.val (.long q0), .second, .val (.long q1), .second, .val (.long q2), .second, .val (.long q3), .second, .val (.long (9223372036854775807 : Int64)), .second, .val (.long (e0_1 q0)), .second, .val (.long (e0_2 q1)), .second, .val (.long (f1 (e0_1 q0) (e0_2 q1))), .second, .val (.long (f2 (e0_1 q0) (e0_2 q1))), .second, .val (.int (1 : Int32)), .val (.long (q3 &&& (9223372036854775807 : Int64))), .second, .unset, .unset, .unset, .unset, .unset, .unset, .unset, .unset] [])) _
      refine XS.iload X9.here hx rfl (hb hby at_74) rfl ?_
      exact kt)
  obtain ⟨_, _, ⟨T13, L13, k13, n13⟩, -, X13, ⟨Lc13, hQ13, l13, y13, z13⟩, st13⟩ := Jvm.LawKit.callS X9 hx (y := (⟨"com/example/cratewise/cratewise/server/ByteRange", "whole", "(J)Lcom/example/cratewise/cratewise/server/ByteRange;"⟩ : MethodName)) hown (mvT hZ (hw _ (List.mem_of_getElem? (i := 31) rfl))) (mvT hZ (hw _ (List.mem_of_getElem? (i := 32) rfl))) (mvT hZ (hw _ (List.mem_of_getElem? (i := 10) rfl))) (mvT hZ (hw _ (List.mem_of_getElem? (i := 33) rfl))) (by decide) (backOf (W := 0) (rm7 l Z a0 hw [] (q3 &&& (9223372036854775807 : Int64)) T6.heap n0 Z8 ) hZ (hw _ (List.mem_of_getElem? (i := 33) rfl)) (hw _ (List.mem_of_getElem? (i := 10) rfl)) (by decide) (by decide)) (g := (mkF m 81 #[.val (.long q0), .second, .val (.long q1), .second, .val (.long q2), .second, .val (.long q3), .second, .val (.long (9223372036854775807 : Int64)), .second, .val (.long (e0_1 q0)), .second, .val (.long (e0_2 q1)), .second, .val (.long (f1 (e0_1 q0) (e0_2 q1))), .second, .val (.long (f2 (e0_1 q0) (e0_2 q1))), .second, .val (.int (1 : Int32)), .val (.long (q3 &&& (9223372036854775807 : Int64))), .second, .unset, .unset, .unset, .unset, .unset, .unset, .unset, .unset] [(.long (q3 &&& (9223372036854775807 : Int64)))])) rfl (by rw [hml]; rfl) (argsL := [(.long (q3 &&& (9223372036854775807 : Int64)))]) (rest := []) (lenOf pd_0_3 rfl) rfl (by show 2 * 0 + _ ≤ _; exact Nat.le_of_eq rfl) (hb hby at_81) (fun _ _ => ⟨rfl, e9q, (by decide : 1 + 1 ≤ _), (by decide : 2 + 2 ≤ _)⟩)
  dsimp only [Pt.U, Pt.locs, Pt.cells, Pt.slots] at X13 l13 y13 z13 st13 hQ13
  subst l13 y13 z13
  obtain ⟨b_13, rfl, N13q, K13q, g_b_13, szq_b_13, G13_0, G13_1, G13_2⟩ := hQ13
  have N13 := Fr.app N9 N13q
  have ne_b3_b_13 : b3 ≠ b_13 := Nat.ne_of_lt (Nat.lt_of_lt_of_le (E_b3.keep K6q).lt szq_b_13)
  have sz_b_13 : h0.size ≤ b_13 := Nat.le_trans K7.1 szq_b_13
  have K14 : Keep h0 T13.heap [] := K7.trans K13q all0
  have Z15 : n0 ≤ T13.heap.size := Nat.le_trans Z0 K14.1
  obtain ⟨cq16, kq16, q16a, q16b, q16c⟩ := isOf hZ rfl G13_0
  obtain ⟨_, _, ⟨T16, L16, k16, n16⟩, -, X16, ⟨Lc16, hQ16, l16, y16, z16⟩, st16⟩ := X13.virtualBack hx (y := (⟨"com/example/cratewise/cratewise/server/ByteRange", "length", "()J"⟩ : MethodName)) (z := (⟨"com/example/cratewise/cratewise/server/ByteRange", "length", "()J"⟩ : MethodName)) hown (mvT hZ (hw _ (List.mem_of_getElem? (i := 26) rfl))) (mvT hZ (hw _ (List.mem_of_getElem? (i := 27) rfl))) (notFace_of_selects (args := #[]) (mvT hZ (hw _ (List.mem_of_getElem? (i := 29) rfl)))) (mvT hZ (hw _ (List.mem_of_getElem? (i := 29) rfl))) (mvT hZ (hw _ (List.mem_of_getElem? (i := 28) rfl))) (by decide) (backOf (W := 0) (rm6 l Z a0 hw [] b_13 ((q3 &&& (9223372036854775807 : Int64)) - (1 : Int64)) (0 : Int64) T13.heap n0 Z15 G13_2 G13_1) hZ (hw _ (List.mem_of_getElem? (i := 30) rfl)) (hw _ (List.mem_of_getElem? (i := 10) rfl)) (by decide) (by decide)) q16a q16c (g := (mkF m 84 #[.val (.long q0), .second, .val (.long q1), .second, .val (.long q2), .second, .val (.long q3), .second, .val (.long (9223372036854775807 : Int64)), .second, .val (.long (e0_1 q0)), .second, .val (.long (e0_2 q1)), .second, .val (.long (f1 (e0_1 q0) (e0_2 q1))), .second, .val (.long (f2 (e0_1 q0) (e0_2 q1))), .second, .val (.int (1 : Int32)), .val (.long (q3 &&& (9223372036854775807 : Int64))), .second, .unset, .unset, .unset, .unset, .unset, .unset, .unset, .unset] [(.ref b_13)])) rfl (by rw [hml]; rfl) (Steps.refl _) (argsL := []) (rest := []) (lenOf pd_0_2 rfl) rfl (by show 2 * 0 + _ ≤ _; exact Nat.le_of_eq rfl) (hb hby at_84) (fun _ _ => ⟨rfl, rfl, (by decide : 2 + 0 ≤ _), (by decide : 4 + 0 ≤ _)⟩)
  dsimp only [Pt.U, Pt.locs, Pt.cells, Pt.slots] at X16 l16 y16 z16 st16 hQ16
  subst l16 y16 z16
  obtain ⟨rfl, N16q, e16q⟩ := hQ16
  have N16 := Fr.app N13 N16q
  have pre17 : ∀ t, Steps p.tables e below (T16.setTop (mkF m 90 #[.val (.long q0), .second, .val (.long q1), .second, .val (.long q2), .second, .val (.long q3), .second, .val (.long (9223372036854775807 : Int64)), .second, .val (.long (e0_1 q0)), .second, .val (.long (e0_2 q1)), .second, .val (.long (f1 (e0_1 q0) (e0_2 q1))), .second, .val (.long (f2 (e0_1 q0) (e0_2 q1))), .second, .val (.int (1 : Int32)), .val (.long (q3 &&& (9223372036854775807 : Int64))), .second, .unset, .unset, .unset, .unset, .unset, .unset, .unset, .unset] [(.int (lcmpW ((((q3 &&& (9223372036854775807 : Int64)) - (1 : Int64)) - (0 : Int64)) + (1 : Int64)) (q3 &&& (9223372036854775807 : Int64))))])) t → Steps p.tables e below (s₁.setTop (entryFrame m #[(.long q0), (.long q1), (.long q2), (.long q3)] maxLocals)) t := fun t kt => pre12 t (by
      show Steps p.tables e below (T9.setTop (mkF m 76 #[.val (.long q0), .second, .val (.long q1), .second, .val (.long q2), .second, .val (.long q3), .second, .val (.long (9223372036854775807 : Int64)), .second, .val (.long (e0_1 q0)), .second, .val (.long (e0_2 q1)), .second, .val (.long (f1 (e0_1 q0) (e0_2 q1))), .second, .val (.long (f2 (e0_1 q0) (e0_2 q1))), .second, .val (.int (1 : Int32)), .val (.long (q3 &&& (9223372036854775807 : Int64))), .second, .unset, .unset, .unset, .unset, .unset, .unset, .unset, .unset] [(.int (1 : Int32))])) _
      refine XS.ifNo X9.here hx rfl (hb hby at_76) rfl ((if0 _ _).trans (feq (by decide : ¬ ((1 : Int32) = (0 : Int32)))).1) ?_
      show Steps p.tables e below (T9.setTop (mkF m 79 #[.val (.long q0), .second, .val (.long q1), .second, .val (.long q2), .second, .val (.long q3), .second, .val (.long (9223372036854775807 : Int64)), .second, .val (.long (e0_1 q0)), .second, .val (.long (e0_2 q1)), .second, .val (.long (f1 (e0_1 q0) (e0_2 q1))), .second, .val (.long (f2 (e0_1 q0) (e0_2 q1))), .second, .val (.int (1 : Int32)), .val (.long (q3 &&& (9223372036854775807 : Int64))), .second, .unset, .unset, .unset, .unset, .unset, .unset, .unset, .unset] [])) _
      refine XS.lload X9.here hx rfl (hb hby at_79) rfl ?_
      show Steps p.tables e below (T9.setTop (mkF m 81 #[.val (.long q0), .second, .val (.long q1), .second, .val (.long q2), .second, .val (.long q3), .second, .val (.long (9223372036854775807 : Int64)), .second, .val (.long (e0_1 q0)), .second, .val (.long (e0_2 q1)), .second, .val (.long (f1 (e0_1 q0) (e0_2 q1))), .second, .val (.long (f2 (e0_1 q0) (e0_2 q1))), .second, .val (.int (1 : Int32)), .val (.long (q3 &&& (9223372036854775807 : Int64))), .second, .unset, .unset, .unset, .unset, .unset, .unset, .unset, .unset] [(.long (q3 &&& (9223372036854775807 : Int64)))])) _
      refine st13 _ ?_
      show Steps p.tables e below (T13.setTop (mkF m 84 #[.val (.long q0), .second, .val (.long q1), .second, .val (.long q2), .second, .val (.long q3), .second, .val (.long (9223372036854775807 : Int64)), .second, .val (.long (e0_1 q0)), .second, .val (.long (e0_2 q1)), .second, .val (.long (f1 (e0_1 q0) (e0_2 q1))), .second, .val (.long (f2 (e0_1 q0) (e0_2 q1))), .second, .val (.int (1 : Int32)), .val (.long (q3 &&& (9223372036854775807 : Int64))), .second, .unset, .unset, .unset, .unset, .unset, .unset, .unset, .unset] [(.ref b_13)])) _
      refine st16.trans ?_
      show Steps p.tables e below (T16.setTop (mkF m 87 #[.val (.long q0), .second, .val (.long q1), .second, .val (.long q2), .second, .val (.long q3), .second, .val (.long (9223372036854775807 : Int64)), .second, .val (.long (e0_1 q0)), .second, .val (.long (e0_2 q1)), .second, .val (.long (f1 (e0_1 q0) (e0_2 q1))), .second, .val (.long (f2 (e0_1 q0) (e0_2 q1))), .second, .val (.int (1 : Int32)), .val (.long (q3 &&& (9223372036854775807 : Int64))), .second, .unset, .unset, .unset, .unset, .unset, .unset, .unset, .unset] [(.long ((((q3 &&& (9223372036854775807 : Int64)) - (1 : Int64)) - (0 : Int64)) + (1 : Int64)))])) _
      refine XS.lload X16.here hx rfl (hb hby at_87) rfl ?_
      show Steps p.tables e below (T16.setTop (mkF m 89 #[.val (.long q0), .second, .val (.long q1), .second, .val (.long q2), .second, .val (.long q3), .second, .val (.long (9223372036854775807 : Int64)), .second, .val (.long (e0_1 q0)), .second, .val (.long (e0_2 q1)), .second, .val (.long (f1 (e0_1 q0) (e0_2 q1))), .second, .val (.long (f2 (e0_1 q0) (e0_2 q1))), .second, .val (.int (1 : Int32)), .val (.long (q3 &&& (9223372036854775807 : Int64))), .second, .unset, .unset, .unset, .unset, .unset, .unset, .unset, .unset] [(.long (q3 &&& (9223372036854775807 : Int64))), (.long ((((q3 &&& (9223372036854775807 : Int64)) - (1 : Int64)) - (0 : Int64)) + (1 : Int64)))])) _
      refine XS.lcmp X16.here hx rfl (hb hby at_89) rfl ?_
      exact kt)
  have hd90_18 : (lcmpW ((((q3 &&& (9223372036854775807 : Int64)) - (1 : Int64)) - (0 : Int64)) + (1 : Int64)) (q3 &&& (9223372036854775807 : Int64))) = (0 : Int32) := own_whole _
  have pre19 : ∀ t, Steps p.tables e below (T16.setTop (mkF m 105 #[.val (.long q0), .second, .val (.long q1), .second, .val (.long q2), .second, .val (.long q3), .second, .val (.long (9223372036854775807 : Int64)), .second, .val (.long (e0_1 q0)), .second, .val (.long (e0_2 q1)), .second, .val (.long (f1 (e0_1 q0) (e0_2 q1))), .second, .val (.long (f2 (e0_1 q0) (e0_2 q1))), .second, .val (.int (1 : Int32)), .val (.long (q3 &&& (9223372036854775807 : Int64))), .second, .unset, .unset, .unset, .unset, .unset, .unset, .unset, .unset] [(.int (lcmpW (f1 (e0_1 q0) (e0_2 q1)) (f2 (e0_1 q0) (e0_2 q1))))])) t → Steps p.tables e below (s₁.setTop (entryFrame m #[(.long q0), (.long q1), (.long q2), (.long q3)] maxLocals)) t := fun t kt => pre17 t (by
      show Steps p.tables e below (T16.setTop (mkF m 90 #[.val (.long q0), .second, .val (.long q1), .second, .val (.long q2), .second, .val (.long q3), .second, .val (.long (9223372036854775807 : Int64)), .second, .val (.long (e0_1 q0)), .second, .val (.long (e0_2 q1)), .second, .val (.long (f1 (e0_1 q0) (e0_2 q1))), .second, .val (.long (f2 (e0_1 q0) (e0_2 q1))), .second, .val (.int (1 : Int32)), .val (.long (q3 &&& (9223372036854775807 : Int64))), .second, .unset, .unset, .unset, .unset, .unset, .unset, .unset, .unset] [(.int (lcmpW ((((q3 &&& (9223372036854775807 : Int64)) - (1 : Int64)) - (0 : Int64)) + (1 : Int64)) (q3 &&& (9223372036854775807 : Int64))))])) _
      refine XS.ifNo X16.here hx rfl (hb hby at_90) rfl ((if0 _ _).trans (teq hd90_18).2) ?_
      show Steps p.tables e below (T16.setTop (mkF m 93 #[.val (.long q0), .second, .val (.long q1), .second, .val (.long q2), .second, .val (.long q3), .second, .val (.long (9223372036854775807 : Int64)), .second, .val (.long (e0_1 q0)), .second, .val (.long (e0_2 q1)), .second, .val (.long (f1 (e0_1 q0) (e0_2 q1))), .second, .val (.long (f2 (e0_1 q0) (e0_2 q1))), .second, .val (.int (1 : Int32)), .val (.long (q3 &&& (9223372036854775807 : Int64))), .second, .unset, .unset, .unset, .unset, .unset, .unset, .unset, .unset] [])) _
      refine XS.iconst X16.here hx rfl (hb hby at_93) ?_
      show Steps p.tables e below (T16.setTop (mkF m 94 #[.val (.long q0), .second, .val (.long q1), .second, .val (.long q2), .second, .val (.long q3), .second, .val (.long (9223372036854775807 : Int64)), .second, .val (.long (e0_1 q0)), .second, .val (.long (e0_2 q1)), .second, .val (.long (f1 (e0_1 q0) (e0_2 q1))), .second, .val (.long (f2 (e0_1 q0) (e0_2 q1))), .second, .val (.int (1 : Int32)), .val (.long (q3 &&& (9223372036854775807 : Int64))), .second, .unset, .unset, .unset, .unset, .unset, .unset, .unset, .unset] [(.int (1 : Int32))])) _
      refine XS.goto X16.here hx rfl (pc0 := 94) (pc' := 98) rfl (hb hby at_94) (by decide) (by decide) ?_
      show Steps p.tables e below (T16.setTop (mkF m 98 #[.val (.long q0), .second, .val (.long q1), .second, .val (.long q2), .second, .val (.long q3), .second, .val (.long (9223372036854775807 : Int64)), .second, .val (.long (e0_1 q0)), .second, .val (.long (e0_2 q1)), .second, .val (.long (f1 (e0_1 q0) (e0_2 q1))), .second, .val (.long (f2 (e0_1 q0) (e0_2 q1))), .second, .val (.int (1 : Int32)), .val (.long (q3 &&& (9223372036854775807 : Int64))), .second, .unset, .unset, .unset, .unset, .unset, .unset, .unset, .unset] [(.int (1 : Int32))])) _
      refine XS.istore X16.here hx rfl (hb hby at_98) rfl (l' := #[.val (.long q0), .second, .val (.long q1), .second, .val (.long q2), .second, .val (.long q3), .second, .val (.long (9223372036854775807 : Int64)), .second, .val (.long (e0_1 q0)), .second, .val (.long (e0_2 q1)), .second, .val (.long (f1 (e0_1 q0) (e0_2 q1))), .second, .val (.long (f2 (e0_1 q0) (e0_2 q1))), .second, .val (.int (1 : Int32)), .val (.long (q3 &&& (9223372036854775807 : Int64))), .second, .unset, .unset, .unset, .unset, .unset, .unset, .unset, .unset]) rfl ?_
      show Steps p.tables e below (T16.setTop (mkF m 100 #[.val (.long q0), .second, .val (.long q1), .second, .val (.long q2), .second, .val (.long q3), .second, .val (.long (9223372036854775807 : Int64)), .second, .val (.long (e0_1 q0)), .second, .val (.long (e0_2 q1)), .second, .val (.long (f1 (e0_1 q0) (e0_2 q1))), .second, .val (.long (f2 (e0_1 q0) (e0_2 q1))), .second, .val (.int (1 : Int32)), .val (.long (q3 &&& (9223372036854775807 : Int64))), .second, .unset, .unset, .unset, .unset, .unset, .unset, .unset, .unset] [])) _
      refine XS.lload X16.here hx rfl (hb hby at_100) rfl ?_
      show Steps p.tables e below (T16.setTop (mkF m 102 #[.val (.long q0), .second, .val (.long q1), .second, .val (.long q2), .second, .val (.long q3), .second, .val (.long (9223372036854775807 : Int64)), .second, .val (.long (e0_1 q0)), .second, .val (.long (e0_2 q1)), .second, .val (.long (f1 (e0_1 q0) (e0_2 q1))), .second, .val (.long (f2 (e0_1 q0) (e0_2 q1))), .second, .val (.int (1 : Int32)), .val (.long (q3 &&& (9223372036854775807 : Int64))), .second, .unset, .unset, .unset, .unset, .unset, .unset, .unset, .unset] [(.long (f1 (e0_1 q0) (e0_2 q1)))])) _
      refine XS.lload X16.here hx rfl (hb hby at_102) rfl ?_
      show Steps p.tables e below (T16.setTop (mkF m 104 #[.val (.long q0), .second, .val (.long q1), .second, .val (.long q2), .second, .val (.long q3), .second, .val (.long (9223372036854775807 : Int64)), .second, .val (.long (e0_1 q0)), .second, .val (.long (e0_2 q1)), .second, .val (.long (f1 (e0_1 q0) (e0_2 q1))), .second, .val (.long (f2 (e0_1 q0) (e0_2 q1))), .second, .val (.int (1 : Int32)), .val (.long (q3 &&& (9223372036854775807 : Int64))), .second, .unset, .unset, .unset, .unset, .unset, .unset, .unset, .unset] [(.long (f2 (e0_1 q0) (e0_2 q1))), (.long (f1 (e0_1 q0) (e0_2 q1)))])) _
      refine XS.lcmp X16.here hx rfl (hb hby at_104) rfl ?_
      exact kt)
  by_cases hc105_20 : (lcmpW (f1 (e0_1 q0) (e0_2 q1)) (f2 (e0_1 q0) (e0_2 q1))) < (0 : Int32)
  · obtain ⟨T21, h21, X21, e21, E21, A21, D21, -, st21⟩ := newO X16 hx hZ hown (hw _ (List.mem_of_getElem? (i := 8) rfl)) (hw _ (List.mem_of_getElem? (i := 9) rfl)) (hw _ (List.mem_of_getElem? (i := 10) rfl)) e16q (g := (mkF m 124 #[.val (.long q0), .second, .val (.long q1), .second, .val (.long q2), .second, .val (.long q3), .second, .val (.long (9223372036854775807 : Int64)), .second, .val (.long (e0_1 q0)), .second, .val (.long (e0_2 q1)), .second, .val (.long (f1 (e0_1 q0) (e0_2 q1))), .second, .val (.long (f2 (e0_1 q0) (e0_2 q1))), .second, .val (.int (1 : Int32)), .val (.long (q3 &&& (9223372036854775807 : Int64))), .second, .val (.long (e0_3 q0 q1 q2)), .second, .unset, .unset, .unset, .unset, .unset, .unset] [])) rfl (hb hby at_124) (by decide) (by decide)
    obtain ⟨b21, g21⟩ : ∃ z, z = T13.heap.size := ⟨_, rfl⟩
    rw [← g21] at A21 D21 st21
    have g_b21 : n0 ≤ b21 := Nat.le_trans Z15 (Nat.le_of_eq g21.symm)
    have sz_b21 : h0.size ≤ b21 := Nat.le_trans K14.1 (Nat.le_of_eq g21.symm)
    have ne_b3_b21 : b3 ≠ b21 := Nat.ne_of_lt (Nat.lt_of_lt_of_le ((E_b3.keep K6q).keep K13q).lt (Nat.le_of_eq g21.symm))
    have ne_b_13_b21 : b_13 ≠ b21 := Nat.ne_of_lt (Nat.lt_of_lt_of_le G13_0.lt (Nat.le_of_eq g21.symm))
    have K22 : Keep h0 h21 [] := K14.ext E21
    have Z23 : n0 ≤ h21.size := Nat.le_trans Z0 K22.1
    have E_b21 := A21
    have F_first_b21 : Fld Z h21 b21 "com/example/cratewise/cratewise/server/ByteRange" "first" "J" (.long (0 : Int64)) := D21 (Or.inr (hw _ (List.mem_of_getElem? (i := 23) rfl))) (ty := .long) (by decide)
    have F_last_b21 : Fld Z h21 b21 "com/example/cratewise/cratewise/server/ByteRange" "last" "J" (.long (0 : Int64)) := D21 (Or.inr (hw _ (List.mem_of_getElem? (i := 25) rfl))) (ty := .long) (by decide)
    obtain ⟨_, _, ⟨T24, L24, k24, n24⟩, -, X24, ⟨Lc24, hQ24, l24, y24, z24⟩, st24⟩ := X21.specialBack hx (y := (⟨"com/example/cratewise/cratewise/server/ByteRange", "<init>", "(JJ)V"⟩ : MethodName)) rfl hown (mvT hZ (hw _ (List.mem_of_getElem? (i := 11) rfl))) (mvT hZ (hw _ (List.mem_of_getElem? (i := 12) rfl))) (mvT hZ (hw _ (List.mem_of_getElem? (i := 13) rfl))) (by decide) (backOf (W := 1) (rm3 l Z a0 hw [] b21 (f1 (e0_1 q0) (e0_2 q1)) (f2 (e0_1 q0) (e0_2 q1)) (0 : Int64) (0 : Int64) h21 n0 Z23 E_b21 F_first_b21 g_b21 F_last_b21) hZ (hw _ (List.mem_of_getElem? (i := 13) rfl)) (hw _ (List.mem_of_getElem? (i := 10) rfl)) (by decide) (by decide)) (g := (mkF m 132 #[.val (.long q0), .second, .val (.long q1), .second, .val (.long q2), .second, .val (.long q3), .second, .val (.long (9223372036854775807 : Int64)), .second, .val (.long (e0_1 q0)), .second, .val (.long (e0_2 q1)), .second, .val (.long (f1 (e0_1 q0) (e0_2 q1))), .second, .val (.long (f2 (e0_1 q0) (e0_2 q1))), .second, .val (.int (1 : Int32)), .val (.long (q3 &&& (9223372036854775807 : Int64))), .second, .val (.long (e0_3 q0 q1 q2)), .second, .unset, .unset, .unset, .unset, .unset, .unset] [(.long (f2 (e0_1 q0) (e0_2 q1))), (.long (f1 (e0_1 q0) (e0_2 q1))), (.ref b21), (.ref b21)])) rfl (by rw [hml]; rfl) (Steps.refl _) (a := b21) (argsL := [(.long (f1 (e0_1 q0) (e0_2 q1))), (.long (f2 (e0_1 q0) (e0_2 q1)))]) (rest := [(.ref b21)]) (lenOf pd_0_1 rfl) rfl (by show 2 * 0 + _ ≤ _; exact Nat.le_of_eq rfl) (hb hby at_132) (fun _ _ => ⟨rfl, e21, (by decide : 3 + 0 ≤ _), (by decide : 6 + 0 ≤ _)⟩)
    dsimp only [Pt.U, Pt.locs, Pt.cells, Pt.slots] at X24 l24 y24 z24 st24 hQ24
    subst l24 y24 z24
    obtain ⟨rfl, N24q, K24q, G24_0, G24_1⟩ := hQ24
    have N24 := Fr.app N16 N24q
    have K25 : Keep h0 T24.heap [] := K22.trans K24q (allS (Or.inr sz_b21) all0)
    have Z26 : n0 ≤ T24.heap.size := Nat.le_trans Z0 K25.1
    obtain ⟨cq27, kq27, q27a, q27b, q27c⟩ := isOf hZ rfl (E_b21.keep K24q)
    obtain ⟨_, _, ⟨T27, L27, k27, n27⟩, -, X27, ⟨Lc27, hQ27, l27, y27, z27⟩, st27⟩ := X24.virtualBack hx (y := (⟨"com/example/cratewise/cratewise/server/ByteRange", "length", "()J"⟩ : MethodName)) (z := (⟨"com/example/cratewise/cratewise/server/ByteRange", "length", "()J"⟩ : MethodName)) hown (mvT hZ (hw _ (List.mem_of_getElem? (i := 26) rfl))) (mvT hZ (hw _ (List.mem_of_getElem? (i := 27) rfl))) (notFace_of_selects (args := #[]) (mvT hZ (hw _ (List.mem_of_getElem? (i := 29) rfl)))) (mvT hZ (hw _ (List.mem_of_getElem? (i := 29) rfl))) (mvT hZ (hw _ (List.mem_of_getElem? (i := 28) rfl))) (by decide) (backOf (W := 0) (rm6 l Z a0 hw [] b21 (f2 (e0_1 q0) (e0_2 q1)) (f1 (e0_1 q0) (e0_2 q1)) T24.heap n0 Z26 G24_1 G24_0) hZ (hw _ (List.mem_of_getElem? (i := 30) rfl)) (hw _ (List.mem_of_getElem? (i := 10) rfl)) (by decide) (by decide)) q27a q27c (g := (mkF m 135 #[.val (.long q0), .second, .val (.long q1), .second, .val (.long q2), .second, .val (.long q3), .second, .val (.long (9223372036854775807 : Int64)), .second, .val (.long (e0_1 q0)), .second, .val (.long (e0_2 q1)), .second, .val (.long (f1 (e0_1 q0) (e0_2 q1))), .second, .val (.long (f2 (e0_1 q0) (e0_2 q1))), .second, .val (.int (1 : Int32)), .val (.long (q3 &&& (9223372036854775807 : Int64))), .second, .val (.long (e0_3 q0 q1 q2)), .second, .unset, .unset, .unset, .unset, .unset, .unset] [(.ref b21)])) rfl (by rw [hml]; rfl) (Steps.refl _) (argsL := []) (rest := []) (lenOf pd_0_2 rfl) rfl (by show 2 * 0 + _ ≤ _; exact Nat.le_of_eq rfl) (hb hby at_135) (fun _ _ => ⟨rfl, rfl, (by decide : 3 + 0 ≤ _), (by decide : 6 + 0 ≤ _)⟩)
    dsimp only [Pt.U, Pt.locs, Pt.cells, Pt.slots] at X27 l27 y27 z27 st27 hQ27
    subst l27 y27 z27
    obtain ⟨rfl, N27q, e27q⟩ := hQ27
    have N27 := Fr.app N24 N27q
    obtain ⟨T28, h28, X28, e28, E28, A28, D28, -, st28⟩ := newO X27 hx hZ hown (hw _ (List.mem_of_getElem? (i := 8) rfl)) (hw _ (List.mem_of_getElem? (i := 9) rfl)) (hw _ (List.mem_of_getElem? (i := 10) rfl)) e27q (g := (mkF m 140 #[.val (.long q0), .second, .val (.long q1), .second, .val (.long q2), .second, .val (.long q3), .second, .val (.long (9223372036854775807 : Int64)), .second, .val (.long (e0_1 q0)), .second, .val (.long (e0_2 q1)), .second, .val (.long (f1 (e0_1 q0) (e0_2 q1))), .second, .val (.long (f2 (e0_1 q0) (e0_2 q1))), .second, .val (.int (1 : Int32)), .val (.long (q3 &&& (9223372036854775807 : Int64))), .second, .val (.long (e0_3 q0 q1 q2)), .second, .val (.long (e0_4 q0 q1)), .second, .unset, .unset, .unset, .unset] [])) rfl (hb hby at_140) (by decide) (by decide)
    obtain ⟨b28, g28⟩ : ∃ z, z = T24.heap.size := ⟨_, rfl⟩
    rw [← g28] at A28 D28 st28
    have g_b28 : n0 ≤ b28 := Nat.le_trans Z26 (Nat.le_of_eq g28.symm)
    have sz_b28 : h0.size ≤ b28 := Nat.le_trans K25.1 (Nat.le_of_eq g28.symm)
    have ne_b3_b28 : b3 ≠ b28 := Nat.ne_of_lt (Nat.lt_of_lt_of_le ((((E_b3.keep K6q).keep K13q).ext E21).keep K24q).lt (Nat.le_of_eq g28.symm))
    have ne_b_13_b28 : b_13 ≠ b28 := Nat.ne_of_lt (Nat.lt_of_lt_of_le ((G13_0.ext E21).keep K24q).lt (Nat.le_of_eq g28.symm))
    have ne_b21_b28 : b21 ≠ b28 := Nat.ne_of_lt (Nat.lt_of_lt_of_le (E_b21.keep K24q).lt (Nat.le_of_eq g28.symm))
    have K29 : Keep h0 h28 [] := K25.ext E28
    have Z30 : n0 ≤ h28.size := Nat.le_trans Z0 K29.1
    have E_b28 := A28
    have F_first_b28 : Fld Z h28 b28 "com/example/cratewise/cratewise/server/ByteRange" "first" "J" (.long (0 : Int64)) := D28 (Or.inr (hw _ (List.mem_of_getElem? (i := 23) rfl))) (ty := .long) (by decide)
    have F_last_b28 : Fld Z h28 b28 "com/example/cratewise/cratewise/server/ByteRange" "last" "J" (.long (0 : Int64)) := D28 (Or.inr (hw _ (List.mem_of_getElem? (i := 25) rfl))) (ty := .long) (by decide)
    obtain ⟨_, _, ⟨T31, L31, k31, n31⟩, -, X31, ⟨Lc31, hQ31, l31, y31, z31⟩, st31⟩ := X28.specialBack hx (y := (⟨"com/example/cratewise/cratewise/server/ByteRange", "<init>", "(JJ)V"⟩ : MethodName)) rfl hown (mvT hZ (hw _ (List.mem_of_getElem? (i := 11) rfl))) (mvT hZ (hw _ (List.mem_of_getElem? (i := 12) rfl))) (mvT hZ (hw _ (List.mem_of_getElem? (i := 13) rfl))) (by decide) (backOf (W := 1) (rm3 l Z a0 hw [] b28 (f1 (e0_1 q0) (e0_2 q1)) (e0_3 q0 q1 q2) (0 : Int64) (0 : Int64) h28 n0 Z30 E_b28 F_first_b28 g_b28 F_last_b28) hZ (hw _ (List.mem_of_getElem? (i := 13) rfl)) (hw _ (List.mem_of_getElem? (i := 10) rfl)) (by decide) (by decide)) (g := (mkF m 148 #[.val (.long q0), .second, .val (.long q1), .second, .val (.long q2), .second, .val (.long q3), .second, .val (.long (9223372036854775807 : Int64)), .second, .val (.long (e0_1 q0)), .second, .val (.long (e0_2 q1)), .second, .val (.long (f1 (e0_1 q0) (e0_2 q1))), .second, .val (.long (f2 (e0_1 q0) (e0_2 q1))), .second, .val (.int (1 : Int32)), .val (.long (q3 &&& (9223372036854775807 : Int64))), .second, .val (.long (e0_3 q0 q1 q2)), .second, .val (.long (e0_4 q0 q1)), .second, .unset, .unset, .unset, .unset] [(.long (e0_3 q0 q1 q2)), (.long (f1 (e0_1 q0) (e0_2 q1))), (.ref b28), (.ref b28)])) rfl (by rw [hml]; rfl) (Steps.refl _) (a := b28) (argsL := [(.long (f1 (e0_1 q0) (e0_2 q1))), (.long (e0_3 q0 q1 q2))]) (rest := [(.ref b28)]) (lenOf pd_0_1 rfl) rfl (by show 2 * 0 + _ ≤ _; exact Nat.le_of_eq rfl) (hb hby at_148) (fun _ _ => ⟨rfl, e28, (by decide : 4 + 0 ≤ _), (by decide : 8 + 0 ≤ _)⟩)
    dsimp only [Pt.U, Pt.locs, Pt.cells, Pt.slots] at X31 l31 y31 z31 st31 hQ31
    subst l31 y31 z31
    obtain ⟨rfl, N31q, K31q, G31_0, G31_1⟩ := hQ31
    have N31 := Fr.app N27 N31q
    have K32 : Keep h0 T31.heap [] := K29.trans K31q (allS (Or.inr sz_b28) all0)
    have Z33 : n0 ≤ T31.heap.size := Nat.le_trans Z0 K32.1
    obtain ⟨cq34, kq34, q34a, q34b, q34c⟩ := isOf hZ rfl (E_b28.keep K31q)
    obtain ⟨_, _, ⟨T34, L34, k34, n34⟩, -, X34, ⟨Lc34, hQ34, l34, y34, z34⟩, st34⟩ := X31.virtualBack hx (y := (⟨"com/example/cratewise/cratewise/server/ByteRange", "length", "()J"⟩ : MethodName)) (z := (⟨"com/example/cratewise/cratewise/server/ByteRange", "length", "()J"⟩ : MethodName)) hown (mvT hZ (hw _ (List.mem_of_getElem? (i := 26) rfl))) (mvT hZ (hw _ (List.mem_of_getElem? (i := 27) rfl))) (notFace_of_selects (args := #[]) (mvT hZ (hw _ (List.mem_of_getElem? (i := 29) rfl)))) (mvT hZ (hw _ (List.mem_of_getElem? (i := 29) rfl))) (mvT hZ (hw _ (List.mem_of_getElem? (i := 28) rfl))) (by decide) (backOf (W := 0) (rm6 l Z a0 hw [] b28 (e0_3 q0 q1 q2) (f1 (e0_1 q0) (e0_2 q1)) T31.heap n0 Z33 G31_1 G31_0) hZ (hw _ (List.mem_of_getElem? (i := 30) rfl)) (hw _ (List.mem_of_getElem? (i := 10) rfl)) (by decide) (by decide)) q34a q34c (g := (mkF m 151 #[.val (.long q0), .second, .val (.long q1), .second, .val (.long q2), .second, .val (.long q3), .second, .val (.long (9223372036854775807 : Int64)), .second, .val (.long (e0_1 q0)), .second, .val (.long (e0_2 q1)), .second, .val (.long (f1 (e0_1 q0) (e0_2 q1))), .second, .val (.long (f2 (e0_1 q0) (e0_2 q1))), .second, .val (.int (1 : Int32)), .val (.long (q3 &&& (9223372036854775807 : Int64))), .second, .val (.long (e0_3 q0 q1 q2)), .second, .val (.long (e0_4 q0 q1)), .second, .unset, .unset, .unset, .unset] [(.ref b28)])) rfl (by rw [hml]; rfl) (Steps.refl _) (argsL := []) (rest := []) (lenOf pd_0_2 rfl) rfl (by show 2 * 0 + _ ≤ _; exact Nat.le_of_eq rfl) (hb hby at_151) (fun _ _ => ⟨rfl, rfl, (by decide : 4 + 0 ≤ _), (by decide : 8 + 0 ≤ _)⟩)
    dsimp only [Pt.U, Pt.locs, Pt.cells, Pt.slots] at X34 l34 y34 z34 st34 hQ34
    subst l34 y34 z34
    obtain ⟨rfl, N34q, e34q⟩ := hQ34
    have N34 := Fr.app N31 N34q
    obtain ⟨T35, h35, X35, e35, E35, A35, D35, -, st35⟩ := newO X34 hx hZ hown (hw _ (List.mem_of_getElem? (i := 8) rfl)) (hw _ (List.mem_of_getElem? (i := 9) rfl)) (hw _ (List.mem_of_getElem? (i := 10) rfl)) e34q (g := (mkF m 156 #[.val (.long q0), .second, .val (.long q1), .second, .val (.long q2), .second, .val (.long q3), .second, .val (.long (9223372036854775807 : Int64)), .second, .val (.long (e0_1 q0)), .second, .val (.long (e0_2 q1)), .second, .val (.long (f1 (e0_1 q0) (e0_2 q1))), .second, .val (.long (f2 (e0_1 q0) (e0_2 q1))), .second, .val (.int (1 : Int32)), .val (.long (q3 &&& (9223372036854775807 : Int64))), .second, .val (.long (e0_3 q0 q1 q2)), .second, .val (.long (e0_4 q0 q1)), .second, .val (.long (((e0_3 q0 q1 q2) - (f1 (e0_1 q0) (e0_2 q1))) + (1 : Int64))), .second, .unset, .unset] [])) rfl (hb hby at_156) (by decide) (by decide)
    obtain ⟨b35, g35⟩ : ∃ z, z = T31.heap.size := ⟨_, rfl⟩
    rw [← g35] at A35 D35 st35
    have g_b35 : n0 ≤ b35 := Nat.le_trans Z33 (Nat.le_of_eq g35.symm)
    have sz_b35 : h0.size ≤ b35 := Nat.le_trans K32.1 (Nat.le_of_eq g35.symm)
    have c36 := ((((((E_b3.keep K6q).keep K13q).ext E21).keep K24q).ext E28).keep K31q)
    have ne_b3_b35 : b3 ≠ b35 := Nat.ne_of_lt (Nat.lt_of_lt_of_le c36.lt (Nat.le_of_eq g35.symm))
    have ne_b_13_b35 : b_13 ≠ b35 := Nat.ne_of_lt (Nat.lt_of_lt_of_le ((((G13_0.ext E21).keep K24q).ext E28).keep K31q).lt (Nat.le_of_eq g35.symm))
    have ne_b21_b35 : b21 ≠ b35 := Nat.ne_of_lt (Nat.lt_of_lt_of_le (((E_b21.keep K24q).ext E28).keep K31q).lt (Nat.le_of_eq g35.symm))
    have ne_b28_b35 : b28 ≠ b35 := Nat.ne_of_lt (Nat.lt_of_lt_of_le (E_b28.keep K31q).lt (Nat.le_of_eq g35.symm))
    have K37 : Keep h0 h35 [] := K32.ext E35
    have Z38 : n0 ≤ h35.size := Nat.le_trans Z0 K37.1
    have E_b35 := A35
    have F_first_b35 : Fld Z h35 b35 "com/example/cratewise/cratewise/server/ByteRange" "first" "J" (.long (0 : Int64)) := D35 (Or.inr (hw _ (List.mem_of_getElem? (i := 23) rfl))) (ty := .long) (by decide)
    have F_last_b35 : Fld Z h35 b35 "com/example/cratewise/cratewise/server/ByteRange" "last" "J" (.long (0 : Int64)) := D35 (Or.inr (hw _ (List.mem_of_getElem? (i := 25) rfl))) (ty := .long) (by decide)
    obtain ⟨_, _, ⟨T39, L39, k39, n39⟩, -, X39, ⟨Lc39, hQ39, l39, y39, z39⟩, st39⟩ := X35.specialBack hx (y := (⟨"com/example/cratewise/cratewise/server/ByteRange", "<init>", "(JJ)V"⟩ : MethodName)) rfl hown (mvT hZ (hw _ (List.mem_of_getElem? (i := 11) rfl))) (mvT hZ (hw _ (List.mem_of_getElem? (i := 12) rfl))) (mvT hZ (hw _ (List.mem_of_getElem? (i := 13) rfl))) (by decide) (backOf (W := 1) (rm3 l Z a0 hw [] b35 ((e0_3 q0 q1 q2) + (1 : Int64)) (f2 (e0_1 q0) (e0_2 q1)) (0 : Int64) (0 : Int64) h35 n0 Z38 E_b35 F_first_b35 g_b35 F_last_b35) hZ (hw _ (List.mem_of_getElem? (i := 13) rfl)) (hw _ (List.mem_of_getElem? (i := 10) rfl)) (by decide) (by decide)) (g := (mkF m 166 #[.val (.long q0), .second, .val (.long q1), .second, .val (.long q2), .second, .val (.long q3), .second, .val (.long (9223372036854775807 : Int64)), .second, .val (.long (e0_1 q0)), .second, .val (.long (e0_2 q1)), .second, .val (.long (f1 (e0_1 q0) (e0_2 q1))), .second, .val (.long (f2 (e0_1 q0) (e0_2 q1))), .second, .val (.int (1 : Int32)), .val (.long (q3 &&& (9223372036854775807 : Int64))), .second, .val (.long (e0_3 q0 q1 q2)), .second, .val (.long (e0_4 q0 q1)), .second, .val (.long (((e0_3 q0 q1 q2) - (f1 (e0_1 q0) (e0_2 q1))) + (1 : Int64))), .second, .unset, .unset] [(.long (f2 (e0_1 q0) (e0_2 q1))), (.long ((e0_3 q0 q1 q2) + (1 : Int64))), (.ref b35), (.ref b35)])) rfl (by rw [hml]; rfl) (Steps.refl _) (a := b35) (argsL := [(.long ((e0_3 q0 q1 q2) + (1 : Int64))), (.long (f2 (e0_1 q0) (e0_2 q1)))]) (rest := [(.ref b35)]) (lenOf pd_0_1 rfl) rfl (by show 2 * 0 + _ ≤ _; exact Nat.le_of_eq rfl) (hb hby at_166) (fun _ _ => ⟨rfl, e35, (by decide : 5 + 0 ≤ _), (by decide : 10 + 0 ≤ _)⟩)
    dsimp only [Pt.U, Pt.locs, Pt.cells, Pt.slots] at X39 l39 y39 z39 st39 hQ39
    subst l39 y39 z39
    obtain ⟨rfl, N39q, K39q, G39_0, G39_1⟩ := hQ39
    have N39 := Fr.app N34 N39q
    have K40 : Keep h0 T39.heap [] := K37.trans K39q (allS (Or.inr sz_b35) all0)
    have Z41 : n0 ≤ T39.heap.size := Nat.le_trans Z0 K40.1
    obtain ⟨cq42, kq42, q42a, q42b, q42c⟩ := isOf hZ rfl (E_b35.keep K39q)
    obtain ⟨_, _, ⟨T42, L42, k42, n42⟩, -, X42, ⟨Lc42, hQ42, l42, y42, z42⟩, st42⟩ := X39.virtualBack hx (y := (⟨"com/example/cratewise/cratewise/server/ByteRange", "length", "()J"⟩ : MethodName)) (z := (⟨"com/example/cratewise/cratewise/server/ByteRange", "length", "()J"⟩ : MethodName)) hown (mvT hZ (hw _ (List.mem_of_getElem? (i := 26) rfl))) (mvT hZ (hw _ (List.mem_of_getElem? (i := 27) rfl))) (notFace_of_selects (args := #[]) (mvT hZ (hw _ (List.mem_of_getElem? (i := 29) rfl)))) (mvT hZ (hw _ (List.mem_of_getElem? (i := 29) rfl))) (mvT hZ (hw _ (List.mem_of_getElem? (i := 28) rfl))) (by decide) (backOf (W := 0) (rm6 l Z a0 hw [] b35 (f2 (e0_1 q0) (e0_2 q1)) ((e0_3 q0 q1 q2) + (1 : Int64)) T39.heap n0 Z41 G39_1 G39_0) hZ (hw _ (List.mem_of_getElem? (i := 30) rfl)) (hw _ (List.mem_of_getElem? (i := 10) rfl)) (by decide) (by decide)) q42a q42c (g := (mkF m 169 #[.val (.long q0), .second, .val (.long q1), .second, .val (.long q2), .second, .val (.long q3), .second, .val (.long (9223372036854775807 : Int64)), .second, .val (.long (e0_1 q0)), .second, .val (.long (e0_2 q1)), .second, .val (.long (f1 (e0_1 q0) (e0_2 q1))), .second, .val (.long (f2 (e0_1 q0) (e0_2 q1))), .second, .val (.int (1 : Int32)), .val (.long (q3 &&& (9223372036854775807 : Int64))), .second, .val (.long (e0_3 q0 q1 q2)), .second, .val (.long (e0_4 q0 q1)), .second, .val (.long (((e0_3 q0 q1 q2) - (f1 (e0_1 q0) (e0_2 q1))) + (1 : Int64))), .second, .unset, .unset] [(.ref b35)])) rfl (by rw [hml]; rfl) (Steps.refl _) (argsL := []) (rest := []) (lenOf pd_0_2 rfl) rfl (by show 2 * 0 + _ ≤ _; exact Nat.le_of_eq rfl) (hb hby at_169) (fun _ _ => ⟨rfl, rfl, (by decide : 5 + 0 ≤ _), (by decide : 10 + 0 ≤ _)⟩)
    dsimp only [Pt.U, Pt.locs, Pt.cells, Pt.slots] at X42 l42 y42 z42 st42 hQ42
    subst l42 y42 z42
    obtain ⟨rfl, N42q, e42q⟩ := hQ42
    have N42 := Fr.app N39 N42q
    have pre43 : ∀ t, Steps p.tables e below (T42.setTop (mkF m 176 #[.val (.long q0), .second, .val (.long q1), .second, .val (.long q2), .second, .val (.long q3), .second, .val (.long (9223372036854775807 : Int64)), .second, .val (.long (e0_1 q0)), .second, .val (.long (e0_2 q1)), .second, .val (.long (f1 (e0_1 q0) (e0_2 q1))), .second, .val (.long (f2 (e0_1 q0) (e0_2 q1))), .second, .val (.int (1 : Int32)), .val (.long (q3 &&& (9223372036854775807 : Int64))), .second, .val (.long (e0_3 q0 q1 q2)), .second, .val (.long (e0_4 q0 q1)), .second, .val (.long (((e0_3 q0 q1 q2) - (f1 (e0_1 q0) (e0_2 q1))) + (1 : Int64))), .second, .val (.long (e0_5 q0 q1 q2)), .second] [(.int (1 : Int32))])) t → Steps p.tables e below (s₁.setTop (entryFrame m #[(.long q0), (.long q1), (.long q2), (.long q3)] maxLocals)) t := fun t kt => pre19 t (by
        show Steps p.tables e below (T16.setTop (mkF m 105 #[.val (.long q0), .second, .val (.long q1), .second, .val (.long q2), .second, .val (.long q3), .second, .val (.long (9223372036854775807 : Int64)), .second, .val (.long (e0_1 q0)), .second, .val (.long (e0_2 q1)), .second, .val (.long (f1 (e0_1 q0) (e0_2 q1))), .second, .val (.long (f2 (e0_1 q0) (e0_2 q1))), .second, .val (.int (1 : Int32)), .val (.long (q3 &&& (9223372036854775807 : Int64))), .second, .unset, .unset, .unset, .unset, .unset, .unset, .unset, .unset] [(.int (lcmpW (f1 (e0_1 q0) (e0_2 q1)) (f2 (e0_1 q0) (e0_2 q1))))])) _
        refine XS.ifNo X16.here hx rfl (hb hby at_105) rfl ((if0 _ _).trans (tlt hc105_20).2.1) ?_
        show Steps p.tables e below (T16.setTop (mkF m 108 #[.val (.long q0), .second, .val (.long q1), .second, .val (.long q2), .second, .val (.long q3), .second, .val (.long (9223372036854775807 : Int64)), .second, .val (.long (e0_1 q0)), .second, .val (.long (e0_2 q1)), .second, .val (.long (f1 (e0_1 q0) (e0_2 q1))), .second, .val (.long (f2 (e0_1 q0) (e0_2 q1))), .second, .val (.int (1 : Int32)), .val (.long (q3 &&& (9223372036854775807 : Int64))), .second, .unset, .unset, .unset, .unset, .unset, .unset, .unset, .unset] [])) _
        refine XS.lload X16.here hx rfl (hb hby at_108) rfl ?_
        show Steps p.tables e below (T16.setTop (mkF m 110 #[.val (.long q0), .second, .val (.long q1), .second, .val (.long q2), .second, .val (.long q3), .second, .val (.long (9223372036854775807 : Int64)), .second, .val (.long (e0_1 q0)), .second, .val (.long (e0_2 q1)), .second, .val (.long (f1 (e0_1 q0) (e0_2 q1))), .second, .val (.long (f2 (e0_1 q0) (e0_2 q1))), .second, .val (.int (1 : Int32)), .val (.long (q3 &&& (9223372036854775807 : Int64))), .second, .unset, .unset, .unset, .unset, .unset, .unset, .unset, .unset] [(.long (f1 (e0_1 q0) (e0_2 q1)))])) _
        refine XS.lload X16.here hx rfl (hb hby at_110) rfl ?_
        show Steps p.tables e below (T16.setTop (mkF m 112 #[.val (.long q0), .second, .val (.long q1), .second, .val (.long q2), .second, .val (.long q3), .second, .val (.long (9223372036854775807 : Int64)), .second, .val (.long (e0_1 q0)), .second, .val (.long (e0_2 q1)), .second, .val (.long (f1 (e0_1 q0) (e0_2 q1))), .second, .val (.long (f2 (e0_1 q0) (e0_2 q1))), .second, .val (.int (1 : Int32)), .val (.long (q3 &&& (9223372036854775807 : Int64))), .second, .unset, .unset, .unset, .unset, .unset, .unset, .unset, .unset] [(.long q2), (.long (f1 (e0_1 q0) (e0_2 q1)))])) _
        refine XS.lload X16.here hx rfl (hb hby at_112) rfl ?_
        show Steps p.tables e below (T16.setTop (mkF m 114 #[.val (.long q0), .second, .val (.long q1), .second, .val (.long q2), .second, .val (.long q3), .second, .val (.long (9223372036854775807 : Int64)), .second, .val (.long (e0_1 q0)), .second, .val (.long (e0_2 q1)), .second, .val (.long (f1 (e0_1 q0) (e0_2 q1))), .second, .val (.long (f2 (e0_1 q0) (e0_2 q1))), .second, .val (.int (1 : Int32)), .val (.long (q3 &&& (9223372036854775807 : Int64))), .second, .unset, .unset, .unset, .unset, .unset, .unset, .unset, .unset] [(.long (9223372036854775807 : Int64)), (.long q2), (.long (f1 (e0_1 q0) (e0_2 q1)))])) _
        refine XS.land X16.here hx rfl (hb hby at_114) rfl ?_
        show Steps p.tables e below (T16.setTop (mkF m 115 #[.val (.long q0), .second, .val (.long q1), .second, .val (.long q2), .second, .val (.long q3), .second, .val (.long (9223372036854775807 : Int64)), .second, .val (.long (e0_1 q0)), .second, .val (.long (e0_2 q1)), .second, .val (.long (f1 (e0_1 q0) (e0_2 q1))), .second, .val (.long (f2 (e0_1 q0) (e0_2 q1))), .second, .val (.int (1 : Int32)), .val (.long (q3 &&& (9223372036854775807 : Int64))), .second, .unset, .unset, .unset, .unset, .unset, .unset, .unset, .unset] [(.long (q2 &&& (9223372036854775807 : Int64))), (.long (f1 (e0_1 q0) (e0_2 q1)))])) _
        refine XS.lload X16.here hx rfl (hb hby at_115) rfl ?_
        show Steps p.tables e below (T16.setTop (mkF m 117 #[.val (.long q0), .second, .val (.long q1), .second, .val (.long q2), .second, .val (.long q3), .second, .val (.long (9223372036854775807 : Int64)), .second, .val (.long (e0_1 q0)), .second, .val (.long (e0_2 q1)), .second, .val (.long (f1 (e0_1 q0) (e0_2 q1))), .second, .val (.long (f2 (e0_1 q0) (e0_2 q1))), .second, .val (.int (1 : Int32)), .val (.long (q3 &&& (9223372036854775807 : Int64))), .second, .unset, .unset, .unset, .unset, .unset, .unset, .unset, .unset] [(.long (f2 (e0_1 q0) (e0_2 q1))), (.long (q2 &&& (9223372036854775807 : Int64))), (.long (f1 (e0_1 q0) (e0_2 q1)))])) _
        refine XS.lload X16.here hx rfl (hb hby at_117) rfl ?_
        show Steps p.tables e below (T16.setTop (mkF m 119 #[.val (.long q0), .second, .val (.long q1), .second, .val (.long q2), .second, .val (.long q3), .second, .val (.long (9223372036854775807 : Int64)), .second, .val (.long (e0_1 q0)), .second, .val (.long (e0_2 q1)), .second, .val (.long (f1 (e0_1 q0) (e0_2 q1))), .second, .val (.long (f2 (e0_1 q0) (e0_2 q1))), .second, .val (.int (1 : Int32)), .val (.long (q3 &&& (9223372036854775807 : Int64))), .second, .unset, .unset, .unset, .unset, .unset, .unset, .unset, .unset] [(.long (f1 (e0_1 q0) (e0_2 q1))), (.long (f2 (e0_1 q0) (e0_2 q1))), (.long (q2 &&& (9223372036854775807 : Int64))), (.long (f1 (e0_1 q0) (e0_2 q1)))])) _
        refine XS.lsub X16.here hx rfl (hb hby at_119) rfl ?_
        show Steps p.tables e below (T16.setTop (mkF m 120 #[.val (.long q0), .second, .val (.long q1), .second, .val (.long q2), .second, .val (.long q3), .second, .val (.long (9223372036854775807 : Int64)), .second, .val (.long (e0_1 q0)), .second, .val (.long (e0_2 q1)), .second, .val (.long (f1 (e0_1 q0) (e0_2 q1))), .second, .val (.long (f2 (e0_1 q0) (e0_2 q1))), .second, .val (.int (1 : Int32)), .val (.long (q3 &&& (9223372036854775807 : Int64))), .second, .unset, .unset, .unset, .unset, .unset, .unset, .unset, .unset] [(.long ((f2 (e0_1 q0) (e0_2 q1)) - (f1 (e0_1 q0) (e0_2 q1)))), (.long (q2 &&& (9223372036854775807 : Int64))), (.long (f1 (e0_1 q0) (e0_2 q1)))])) _
        refine XS.lrem X16.here hx rfl (hb hby at_120) rfl (own_nz hc105_20) ?_
        show Steps p.tables e below (T16.setTop (mkF m 121 #[.val (.long q0), .second, .val (.long q1), .second, .val (.long q2), .second, .val (.long q3), .second, .val (.long (9223372036854775807 : Int64)), .second, .val (.long (e0_1 q0)), .second, .val (.long (e0_2 q1)), .second, .val (.long (f1 (e0_1 q0) (e0_2 q1))), .second, .val (.long (f2 (e0_1 q0) (e0_2 q1))), .second, .val (.int (1 : Int32)), .val (.long (q3 &&& (9223372036854775807 : Int64))), .second, .unset, .unset, .unset, .unset, .unset, .unset, .unset, .unset] [(.long ((q2 &&& (9223372036854775807 : Int64)) - ((q2 &&& (9223372036854775807 : Int64)) / ((f2 (e0_1 q0) (e0_2 q1)) - (f1 (e0_1 q0) (e0_2 q1)))) * ((f2 (e0_1 q0) (e0_2 q1)) - (f1 (e0_1 q0) (e0_2 q1))))), (.long (f1 (e0_1 q0) (e0_2 q1)))])) _
        refine XS.ladd X16.here hx rfl (hb hby at_121) rfl ?_
        show Steps p.tables e below (T16.setTop (mkF m 122 #[.val (.long q0), .second, .val (.long q1), .second, .val (.long q2), .second, .val (.long q3), .second, .val (.long (9223372036854775807 : Int64)), .second, .val (.long (e0_1 q0)), .second, .val (.long (e0_2 q1)), .second, .val (.long (f1 (e0_1 q0) (e0_2 q1))), .second, .val (.long (f2 (e0_1 q0) (e0_2 q1))), .second, .val (.int (1 : Int32)), .val (.long (q3 &&& (9223372036854775807 : Int64))), .second, .unset, .unset, .unset, .unset, .unset, .unset, .unset, .unset] [(.long ((f1 (e0_1 q0) (e0_2 q1)) + ((q2 &&& (9223372036854775807 : Int64)) - ((q2 &&& (9223372036854775807 : Int64)) / ((f2 (e0_1 q0) (e0_2 q1)) - (f1 (e0_1 q0) (e0_2 q1)))) * ((f2 (e0_1 q0) (e0_2 q1)) - (f1 (e0_1 q0) (e0_2 q1))))))])) _
        refine XS.lstore X16.here hx rfl (hb hby at_122) rfl (l' := #[.val (.long q0), .second, .val (.long q1), .second, .val (.long q2), .second, .val (.long q3), .second, .val (.long (9223372036854775807 : Int64)), .second, .val (.long (e0_1 q0)), .second, .val (.long (e0_2 q1)), .second, .val (.long (f1 (e0_1 q0) (e0_2 q1))), .second, .val (.long (f2 (e0_1 q0) (e0_2 q1))), .second, .val (.int (1 : Int32)), .val (.long (q3 &&& (9223372036854775807 : Int64))), .second, .val (.long (e0_3 q0 q1 q2)), .second, .unset, .unset, .unset, .unset, .unset, .unset]) rfl ?_
        show Steps p.tables e below (T16.setTop (mkF m 124 #[.val (.long q0), .second, .val (.long q1), .second, .val (.long q2), .second, .val (.long q3), .second, .val (.long (9223372036854775807 : Int64)), .second, .val (.long (e0_1 q0)), .second, .val (.long (e0_2 q1)), .second, .val (.long (f1 (e0_1 q0) (e0_2 q1))), .second, .val (.long (f2 (e0_1 q0) (e0_2 q1))), .second, .val (.int (1 : Int32)), .val (.long (q3 &&& (9223372036854775807 : Int64))), .second, .val (.long (e0_3 q0 q1 q2)), .second, .unset, .unset, .unset, .unset, .unset, .unset] [])) _
        refine st21 _ ?_
        show Steps p.tables e below (T21.setTop (mkF m 127 #[.val (.long q0), .second, .val (.long q1), .second, .val (.long q2), .second, .val (.long q3), .second, .val (.long (9223372036854775807 : Int64)), .second, .val (.long (e0_1 q0)), .second, .val (.long (e0_2 q1)), .second, .val (.long (f1 (e0_1 q0) (e0_2 q1))), .second, .val (.long (f2 (e0_1 q0) (e0_2 q1))), .second, .val (.int (1 : Int32)), .val (.long (q3 &&& (9223372036854775807 : Int64))), .second, .val (.long (e0_3 q0 q1 q2)), .second, .unset, .unset, .unset, .unset, .unset, .unset] [(.ref b21)])) _
        refine XS.dup X21.here hx rfl (hb hby at_127) rfl rfl ?_
        show Steps p.tables e below (T21.setTop (mkF m 128 #[.val (.long q0), .second, .val (.long q1), .second, .val (.long q2), .second, .val (.long q3), .second, .val (.long (9223372036854775807 : Int64)), .second, .val (.long (e0_1 q0)), .second, .val (.long (e0_2 q1)), .second, .val (.long (f1 (e0_1 q0) (e0_2 q1))), .second, .val (.long (f2 (e0_1 q0) (e0_2 q1))), .second, .val (.int (1 : Int32)), .val (.long (q3 &&& (9223372036854775807 : Int64))), .second, .val (.long (e0_3 q0 q1 q2)), .second, .unset, .unset, .unset, .unset, .unset, .unset] [(.ref b21), (.ref b21)])) _
        refine XS.lload X21.here hx rfl (hb hby at_128) rfl ?_
        show Steps p.tables e below (T21.setTop (mkF m 130 #[.val (.long q0), .second, .val (.long q1), .second, .val (.long q2), .second, .val (.long q3), .second, .val (.long (9223372036854775807 : Int64)), .second, .val (.long (e0_1 q0)), .second, .val (.long (e0_2 q1)), .second, .val (.long (f1 (e0_1 q0) (e0_2 q1))), .second, .val (.long (f2 (e0_1 q0) (e0_2 q1))), .second, .val (.int (1 : Int32)), .val (.long (q3 &&& (9223372036854775807 : Int64))), .second, .val (.long (e0_3 q0 q1 q2)), .second, .unset, .unset, .unset, .unset, .unset, .unset] [(.long (f1 (e0_1 q0) (e0_2 q1))), (.ref b21), (.ref b21)])) _
        refine XS.lload X21.here hx rfl (hb hby at_130) rfl ?_
        show Steps p.tables e below (T21.setTop (mkF m 132 #[.val (.long q0), .second, .val (.long q1), .second, .val (.long q2), .second, .val (.long q3), .second, .val (.long (9223372036854775807 : Int64)), .second, .val (.long (e0_1 q0)), .second, .val (.long (e0_2 q1)), .second, .val (.long (f1 (e0_1 q0) (e0_2 q1))), .second, .val (.long (f2 (e0_1 q0) (e0_2 q1))), .second, .val (.int (1 : Int32)), .val (.long (q3 &&& (9223372036854775807 : Int64))), .second, .val (.long (e0_3 q0 q1 q2)), .second, .unset, .unset, .unset, .unset, .unset, .unset] [(.long (f2 (e0_1 q0) (e0_2 q1))), (.long (f1 (e0_1 q0) (e0_2 q1))), (.ref b21), (.ref b21)])) _
        refine st24.trans ?_
        show Steps p.tables e below (T24.setTop (mkF m 135 #[.val (.long q0), .second, .val (.long q1), .second, .val (.long q2), .second, .val (.long q3), .second, .val (.long (9223372036854775807 : Int64)), .second, .val (.long (e0_1 q0)), .second, .val (.long (e0_2 q1)), .second, .val (.long (f1 (e0_1 q0) (e0_2 q1))), .second, .val (.long (f2 (e0_1 q0) (e0_2 q1))), .second, .val (.int (1 : Int32)), .val (.long (q3 &&& (9223372036854775807 : Int64))), .second, .val (.long (e0_3 q0 q1 q2)), .second, .unset, .unset, .unset, .unset, .unset, .unset] [(.ref b21)])) _
        refine st27.trans ?_
        show Steps p.tables e below (T27.setTop (mkF m 138 #[.val (.long q0), .second, .val (.long q1), .second, .val (.long q2), .second, .val (.long q3), .second, .val (.long (9223372036854775807 : Int64)), .second, .val (.long (e0_1 q0)), .second, .val (.long (e0_2 q1)), .second, .val (.long (f1 (e0_1 q0) (e0_2 q1))), .second, .val (.long (f2 (e0_1 q0) (e0_2 q1))), .second, .val (.int (1 : Int32)), .val (.long (q3 &&& (9223372036854775807 : Int64))), .second, .val (.long (e0_3 q0 q1 q2)), .second, .unset, .unset, .unset, .unset, .unset, .unset] [(.long (((f2 (e0_1 q0) (e0_2 q1)) - (f1 (e0_1 q0) (e0_2 q1))) + (1 : Int64)))])) _
        refine XS.lstore X27.here hx rfl (hb hby at_138) rfl (l' := #[.val (.long q0), .second, .val (.long q1), .second, .val (.long q2), .second, .val (.long q3), .second, .val (.long (9223372036854775807 : Int64)), .second, .val (.long (e0_1 q0)), .second, .val (.long (e0_2 q1)), .second, .val (.long (f1 (e0_1 q0) (e0_2 q1))), .second, .val (.long (f2 (e0_1 q0) (e0_2 q1))), .second, .val (.int (1 : Int32)), .val (.long (q3 &&& (9223372036854775807 : Int64))), .second, .val (.long (e0_3 q0 q1 q2)), .second, .val (.long (e0_4 q0 q1)), .second, .unset, .unset, .unset, .unset]) rfl ?_
        show Steps p.tables e below (T27.setTop (mkF m 140 #[.val (.long q0), .second, .val (.long q1), .second, .val (.long q2), .second, .val (.long q3), .second, .val (.long (9223372036854775807 : Int64)), .second, .val (.long (e0_1 q0)), .second, .val (.long (e0_2 q1)), .second, .val (.long (f1 (e0_1 q0) (e0_2 q1))), .second, .val (.long (f2 (e0_1 q0) (e0_2 q1))), .second, .val (.int (1 : Int32)), .val (.long (q3 &&& (9223372036854775807 : Int64))), .second, .val (.long (e0_3 q0 q1 q2)), .second, .val (.long (e0_4 q0 q1)), .second, .unset, .unset, .unset, .unset] [])) _
        refine st28 _ ?_
        show Steps p.tables e below (T28.setTop (mkF m 143 #[.val (.long q0), .second, .val (.long q1), .second, .val (.long q2), .second, .val (.long q3), .second, .val (.long (9223372036854775807 : Int64)), .second, .val (.long (e0_1 q0)), .second, .val (.long (e0_2 q1)), .second, .val (.long (f1 (e0_1 q0) (e0_2 q1))), .second, .val (.long (f2 (e0_1 q0) (e0_2 q1))), .second, .val (.int (1 : Int32)), .val (.long (q3 &&& (9223372036854775807 : Int64))), .second, .val (.long (e0_3 q0 q1 q2)), .second, .val (.long (e0_4 q0 q1)), .second, .unset, .unset, .unset, .unset] [(.ref b28)])) _
        refine XS.dup X28.here hx rfl (hb hby at_143) rfl rfl ?_
        show Steps p.tables e below (T28.setTop (mkF m 144 #[.val (.long q0), .second, .val (.long q1), .second, .val (.long q2), .second, .val (.long q3), .second, .val (.long (9223372036854775807 : Int64)), .second, .val (.long (e0_1 q0)), .second, .val (.long (e0_2 q1)), .second, .val (.long (f1 (e0_1 q0) (e0_2 q1))), .second, .val (.long (f2 (e0_1 q0) (e0_2 q1))), .second, .val (.int (1 : Int32)), .val (.long (q3 &&& (9223372036854775807 : Int64))), .second, .val (.long (e0_3 q0 q1 q2)), .second, .val (.long (e0_4 q0 q1)), .second, .unset, .unset, .unset, .unset] [(.ref b28), (.ref b28)])) _
        refine XS.lload X28.here hx rfl (hb hby at_144) rfl ?_
        show Steps p.tables e below (T28.setTop (mkF m 146 #[.val (.long q0), .second, .val (.long q1), .second, .val (.long q2), .second, .val (.long q3), .second, .val (.long (9223372036854775807 : Int64)), .second, .val (.long (e0_1 q0)), .second, .val (.long (e0_2 q1)), .second, .val (.long (f1 (e0_1 q0) (e0_2 q1))), .second, .val (.long (f2 (e0_1 q0) (e0_2 q1))), .second, .val (.int (1 : Int32)), .val (.long (q3 &&& (9223372036854775807 : Int64))), .second, .val (.long (e0_3 q0 q1 q2)), .second, .val (.long (e0_4 q0 q1)), .second, .unset, .unset, .unset, .unset] [(.long (f1 (e0_1 q0) (e0_2 q1))), (.ref b28), (.ref b28)])) _
        refine XS.lload X28.here hx rfl (hb hby at_146) rfl ?_
        show Steps p.tables e below (T28.setTop (mkF m 148 #[.val (.long q0), .second, .val (.long q1), .second, .val (.long q2), .second, .val (.long q3), .second, .val (.long (9223372036854775807 : Int64)), .second, .val (.long (e0_1 q0)), .second, .val (.long (e0_2 q1)), .second, .val (.long (f1 (e0_1 q0) (e0_2 q1))), .second, .val (.long (f2 (e0_1 q0) (e0_2 q1))), .second, .val (.int (1 : Int32)), .val (.long (q3 &&& (9223372036854775807 : Int64))), .second, .val (.long (e0_3 q0 q1 q2)), .second, .val (.long (e0_4 q0 q1)), .second, .unset, .unset, .unset, .unset] [(.long (e0_3 q0 q1 q2)), (.long (f1 (e0_1 q0) (e0_2 q1))), (.ref b28), (.ref b28)])) _
        refine st31.trans ?_
        show Steps p.tables e below (T31.setTop (mkF m 151 #[.val (.long q0), .second, .val (.long q1), .second, .val (.long q2), .second, .val (.long q3), .second, .val (.long (9223372036854775807 : Int64)), .second, .val (.long (e0_1 q0)), .second, .val (.long (e0_2 q1)), .second, .val (.long (f1 (e0_1 q0) (e0_2 q1))), .second, .val (.long (f2 (e0_1 q0) (e0_2 q1))), .second, .val (.int (1 : Int32)), .val (.long (q3 &&& (9223372036854775807 : Int64))), .second, .val (.long (e0_3 q0 q1 q2)), .second, .val (.long (e0_4 q0 q1)), .second, .unset, .unset, .unset, .unset] [(.ref b28)])) _
        refine st34.trans ?_
        show Steps p.tables e below (T34.setTop (mkF m 154 #[.val (.long q0), .second, .val (.long q1), .second, .val (.long q2), .second, .val (.long q3), .second, .val (.long (9223372036854775807 : Int64)), .second, .val (.long (e0_1 q0)), .second, .val (.long (e0_2 q1)), .second, .val (.long (f1 (e0_1 q0) (e0_2 q1))), .second, .val (.long (f2 (e0_1 q0) (e0_2 q1))), .second, .val (.int (1 : Int32)), .val (.long (q3 &&& (9223372036854775807 : Int64))), .second, .val (.long (e0_3 q0 q1 q2)), .second, .val (.long (e0_4 q0 q1)), .second, .unset, .unset, .unset, .unset] [(.long (((e0_3 q0 q1 q2) - (f1 (e0_1 q0) (e0_2 q1))) + (1 : Int64)))])) _
        refine XS.lstore X34.here hx rfl (hb hby at_154) rfl (l' := #[.val (.long q0), .second, .val (.long q1), .second, .val (.long q2), .second, .val (.long q3), .second, .val (.long (9223372036854775807 : Int64)), .second, .val (.long (e0_1 q0)), .second, .val (.long (e0_2 q1)), .second, .val (.long (f1 (e0_1 q0) (e0_2 q1))), .second, .val (.long (f2 (e0_1 q0) (e0_2 q1))), .second, .val (.int (1 : Int32)), .val (.long (q3 &&& (9223372036854775807 : Int64))), .second, .val (.long (e0_3 q0 q1 q2)), .second, .val (.long (e0_4 q0 q1)), .second, .val (.long (((e0_3 q0 q1 q2) - (f1 (e0_1 q0) (e0_2 q1))) + (1 : Int64))), .second, .unset, .unset]) rfl ?_
        show Steps p.tables e below (T34.setTop (mkF m 156 #[.val (.long q0), .second, .val (.long q1), .second, .val (.long q2), .second, .val (.long q3), .second, .val (.long (9223372036854775807 : Int64)), .second, .val (.long (e0_1 q0)), .second, .val (.long (e0_2 q1)), .second, .val (.long (f1 (e0_1 q0) (e0_2 q1))), .second, .val (.long (f2 (e0_1 q0) (e0_2 q1))), .second, .val (.int (1 : Int32)), .val (.long (q3 &&& (9223372036854775807 : Int64))), .second, .val (.long (e0_3 q0 q1 q2)), .second, .val (.long (e0_4 q0 q1)), .second, .val (.long (((e0_3 q0 q1 q2) - (f1 (e0_1 q0) (e0_2 q1))) + (1 : Int64))), .second, .unset, .unset] [])) _
        refine st35 _ ?_
        show Steps p.tables e below (T35.setTop (mkF m 159 #[.val (.long q0), .second, .val (.long q1), .second, .val (.long q2), .second, .val (.long q3), .second, .val (.long (9223372036854775807 : Int64)), .second, .val (.long (e0_1 q0)), .second, .val (.long (e0_2 q1)), .second, .val (.long (f1 (e0_1 q0) (e0_2 q1))), .second, .val (.long (f2 (e0_1 q0) (e0_2 q1))), .second, .val (.int (1 : Int32)), .val (.long (q3 &&& (9223372036854775807 : Int64))), .second, .val (.long (e0_3 q0 q1 q2)), .second, .val (.long (e0_4 q0 q1)), .second, .val (.long (((e0_3 q0 q1 q2) - (f1 (e0_1 q0) (e0_2 q1))) + (1 : Int64))), .second, .unset, .unset] [(.ref b35)])) _
        refine XS.dup X35.here hx rfl (hb hby at_159) rfl rfl ?_
        show Steps p.tables e below (T35.setTop (mkF m 160 #[.val (.long q0), .second, .val (.long q1), .second, .val (.long q2), .second, .val (.long q3), .second, .val (.long (9223372036854775807 : Int64)), .second, .val (.long (e0_1 q0)), .second, .val (.long (e0_2 q1)), .second, .val (.long (f1 (e0_1 q0) (e0_2 q1))), .second, .val (.long (f2 (e0_1 q0) (e0_2 q1))), .second, .val (.int (1 : Int32)), .val (.long (q3 &&& (9223372036854775807 : Int64))), .second, .val (.long (e0_3 q0 q1 q2)), .second, .val (.long (e0_4 q0 q1)), .second, .val (.long (((e0_3 q0 q1 q2) - (f1 (e0_1 q0) (e0_2 q1))) + (1 : Int64))), .second, .unset, .unset] [(.ref b35), (.ref b35)])) _
        refine XS.lload X35.here hx rfl (hb hby at_160) rfl ?_
        show Steps p.tables e below (T35.setTop (mkF m 162 #[.val (.long q0), .second, .val (.long q1), .second, .val (.long q2), .second, .val (.long q3), .second, .val (.long (9223372036854775807 : Int64)), .second, .val (.long (e0_1 q0)), .second, .val (.long (e0_2 q1)), .second, .val (.long (f1 (e0_1 q0) (e0_2 q1))), .second, .val (.long (f2 (e0_1 q0) (e0_2 q1))), .second, .val (.int (1 : Int32)), .val (.long (q3 &&& (9223372036854775807 : Int64))), .second, .val (.long (e0_3 q0 q1 q2)), .second, .val (.long (e0_4 q0 q1)), .second, .val (.long (((e0_3 q0 q1 q2) - (f1 (e0_1 q0) (e0_2 q1))) + (1 : Int64))), .second, .unset, .unset] [(.long (e0_3 q0 q1 q2)), (.ref b35), (.ref b35)])) _
        refine XS.lconst X35.here hx rfl (hb hby at_162) ?_
        show Steps p.tables e below (T35.setTop (mkF m 163 #[.val (.long q0), .second, .val (.long q1), .second, .val (.long q2), .second, .val (.long q3), .second, .val (.long (9223372036854775807 : Int64)), .second, .val (.long (e0_1 q0)), .second, .val (.long (e0_2 q1)), .second, .val (.long (f1 (e0_1 q0) (e0_2 q1))), .second, .val (.long (f2 (e0_1 q0) (e0_2 q1))), .second, .val (.int (1 : Int32)), .val (.long (q3 &&& (9223372036854775807 : Int64))), .second, .val (.long (e0_3 q0 q1 q2)), .second, .val (.long (e0_4 q0 q1)), .second, .val (.long (((e0_3 q0 q1 q2) - (f1 (e0_1 q0) (e0_2 q1))) + (1 : Int64))), .second, .unset, .unset] [(.long (1 : Int64)), (.long (e0_3 q0 q1 q2)), (.ref b35), (.ref b35)])) _
        refine XS.ladd X35.here hx rfl (hb hby at_163) rfl ?_
        show Steps p.tables e below (T35.setTop (mkF m 164 #[.val (.long q0), .second, .val (.long q1), .second, .val (.long q2), .second, .val (.long q3), .second, .val (.long (9223372036854775807 : Int64)), .second, .val (.long (e0_1 q0)), .second, .val (.long (e0_2 q1)), .second, .val (.long (f1 (e0_1 q0) (e0_2 q1))), .second, .val (.long (f2 (e0_1 q0) (e0_2 q1))), .second, .val (.int (1 : Int32)), .val (.long (q3 &&& (9223372036854775807 : Int64))), .second, .val (.long (e0_3 q0 q1 q2)), .second, .val (.long (e0_4 q0 q1)), .second, .val (.long (((e0_3 q0 q1 q2) - (f1 (e0_1 q0) (e0_2 q1))) + (1 : Int64))), .second, .unset, .unset] [(.long ((e0_3 q0 q1 q2) + (1 : Int64))), (.ref b35), (.ref b35)])) _
        refine XS.lload X35.here hx rfl (hb hby at_164) rfl ?_
        show Steps p.tables e below (T35.setTop (mkF m 166 #[.val (.long q0), .second, .val (.long q1), .second, .val (.long q2), .second, .val (.long q3), .second, .val (.long (9223372036854775807 : Int64)), .second, .val (.long (e0_1 q0)), .second, .val (.long (e0_2 q1)), .second, .val (.long (f1 (e0_1 q0) (e0_2 q1))), .second, .val (.long (f2 (e0_1 q0) (e0_2 q1))), .second, .val (.int (1 : Int32)), .val (.long (q3 &&& (9223372036854775807 : Int64))), .second, .val (.long (e0_3 q0 q1 q2)), .second, .val (.long (e0_4 q0 q1)), .second, .val (.long (((e0_3 q0 q1 q2) - (f1 (e0_1 q0) (e0_2 q1))) + (1 : Int64))), .second, .unset, .unset] [(.long (f2 (e0_1 q0) (e0_2 q1))), (.long ((e0_3 q0 q1 q2) + (1 : Int64))), (.ref b35), (.ref b35)])) _
        refine st39.trans ?_
        show Steps p.tables e below (T39.setTop (mkF m 169 #[.val (.long q0), .second, .val (.long q1), .second, .val (.long q2), .second, .val (.long q3), .second, .val (.long (9223372036854775807 : Int64)), .second, .val (.long (e0_1 q0)), .second, .val (.long (e0_2 q1)), .second, .val (.long (f1 (e0_1 q0) (e0_2 q1))), .second, .val (.long (f2 (e0_1 q0) (e0_2 q1))), .second, .val (.int (1 : Int32)), .val (.long (q3 &&& (9223372036854775807 : Int64))), .second, .val (.long (e0_3 q0 q1 q2)), .second, .val (.long (e0_4 q0 q1)), .second, .val (.long (((e0_3 q0 q1 q2) - (f1 (e0_1 q0) (e0_2 q1))) + (1 : Int64))), .second, .unset, .unset] [(.ref b35)])) _
        refine st42.trans ?_
        show Steps p.tables e below (T42.setTop (mkF m 172 #[.val (.long q0), .second, .val (.long q1), .second, .val (.long q2), .second, .val (.long q3), .second, .val (.long (9223372036854775807 : Int64)), .second, .val (.long (e0_1 q0)), .second, .val (.long (e0_2 q1)), .second, .val (.long (f1 (e0_1 q0) (e0_2 q1))), .second, .val (.long (f2 (e0_1 q0) (e0_2 q1))), .second, .val (.int (1 : Int32)), .val (.long (q3 &&& (9223372036854775807 : Int64))), .second, .val (.long (e0_3 q0 q1 q2)), .second, .val (.long (e0_4 q0 q1)), .second, .val (.long (((e0_3 q0 q1 q2) - (f1 (e0_1 q0) (e0_2 q1))) + (1 : Int64))), .second, .unset, .unset] [(.long (((f2 (e0_1 q0) (e0_2 q1)) - ((e0_3 q0 q1 q2) + (1 : Int64))) + (1 : Int64)))])) _
        refine XS.lstore X42.here hx rfl (hb hby at_172) rfl (l' := #[.val (.long q0), .second, .val (.long q1), .second, .val (.long q2), .second, .val (.long q3), .second, .val (.long (9223372036854775807 : Int64)), .second, .val (.long (e0_1 q0)), .second, .val (.long (e0_2 q1)), .second, .val (.long (f1 (e0_1 q0) (e0_2 q1))), .second, .val (.long (f2 (e0_1 q0) (e0_2 q1))), .second, .val (.int (1 : Int32)), .val (.long (q3 &&& (9223372036854775807 : Int64))), .second, .val (.long (e0_3 q0 q1 q2)), .second, .val (.long (e0_4 q0 q1)), .second, .val (.long (((e0_3 q0 q1 q2) - (f1 (e0_1 q0) (e0_2 q1))) + (1 : Int64))), .second, .val (.long (e0_5 q0 q1 q2)), .second]) rfl ?_
        show Steps p.tables e below (T42.setTop (mkF m 174 #[.val (.long q0), .second, .val (.long q1), .second, .val (.long q2), .second, .val (.long q3), .second, .val (.long (9223372036854775807 : Int64)), .second, .val (.long (e0_1 q0)), .second, .val (.long (e0_2 q1)), .second, .val (.long (f1 (e0_1 q0) (e0_2 q1))), .second, .val (.long (f2 (e0_1 q0) (e0_2 q1))), .second, .val (.int (1 : Int32)), .val (.long (q3 &&& (9223372036854775807 : Int64))), .second, .val (.long (e0_3 q0 q1 q2)), .second, .val (.long (e0_4 q0 q1)), .second, .val (.long (((e0_3 q0 q1 q2) - (f1 (e0_1 q0) (e0_2 q1))) + (1 : Int64))), .second, .val (.long (e0_5 q0 q1 q2)), .second] [])) _
        refine XS.iload X42.here hx rfl (hb hby at_174) rfl ?_
        exact kt)
    have pre44 : ∀ t, Steps p.tables e below (T42.setTop (mkF m 183 #[.val (.long q0), .second, .val (.long q1), .second, .val (.long q2), .second, .val (.long q3), .second, .val (.long (9223372036854775807 : Int64)), .second, .val (.long (e0_1 q0)), .second, .val (.long (e0_2 q1)), .second, .val (.long (f1 (e0_1 q0) (e0_2 q1))), .second, .val (.long (f2 (e0_1 q0) (e0_2 q1))), .second, .val (.int (1 : Int32)), .val (.long (q3 &&& (9223372036854775807 : Int64))), .second, .val (.long (e0_3 q0 q1 q2)), .second, .val (.long (e0_4 q0 q1)), .second, .val (.long (((e0_3 q0 q1 q2) - (f1 (e0_1 q0) (e0_2 q1))) + (1 : Int64))), .second, .val (.long (e0_5 q0 q1 q2)), .second] [(.int (lcmpW (((e0_3 q0 q1 q2) - (f1 (e0_1 q0) (e0_2 q1))) + (1 : Int64)) (1 : Int64)))])) t → Steps p.tables e below (s₁.setTop (entryFrame m #[(.long q0), (.long q1), (.long q2), (.long q3)] maxLocals)) t := fun t kt => pre43 t (by
        show Steps p.tables e below (T42.setTop (mkF m 176 #[.val (.long q0), .second, .val (.long q1), .second, .val (.long q2), .second, .val (.long q3), .second, .val (.long (9223372036854775807 : Int64)), .second, .val (.long (e0_1 q0)), .second, .val (.long (e0_2 q1)), .second, .val (.long (f1 (e0_1 q0) (e0_2 q1))), .second, .val (.long (f2 (e0_1 q0) (e0_2 q1))), .second, .val (.int (1 : Int32)), .val (.long (q3 &&& (9223372036854775807 : Int64))), .second, .val (.long (e0_3 q0 q1 q2)), .second, .val (.long (e0_4 q0 q1)), .second, .val (.long (((e0_3 q0 q1 q2) - (f1 (e0_1 q0) (e0_2 q1))) + (1 : Int64))), .second, .val (.long (e0_5 q0 q1 q2)), .second] [(.int (1 : Int32))])) _
        refine XS.ifNo X42.here hx rfl (hb hby at_176) rfl ((if0 _ _).trans (feq (by decide : ¬ ((1 : Int32) = (0 : Int32)))).1) ?_
        show Steps p.tables e below (T42.setTop (mkF m 179 #[.val (.long q0), .second, .val (.long q1), .second, .val (.long q2), .second, .val (.long q3), .second, .val (.long (9223372036854775807 : Int64)), .second, .val (.long (e0_1 q0)), .second, .val (.long (e0_2 q1)), .second, .val (.long (f1 (e0_1 q0) (e0_2 q1))), .second, .val (.long (f2 (e0_1 q0) (e0_2 q1))), .second, .val (.int (1 : Int32)), .val (.long (q3 &&& (9223372036854775807 : Int64))), .second, .val (.long (e0_3 q0 q1 q2)), .second, .val (.long (e0_4 q0 q1)), .second, .val (.long (((e0_3 q0 q1 q2) - (f1 (e0_1 q0) (e0_2 q1))) + (1 : Int64))), .second, .val (.long (e0_5 q0 q1 q2)), .second] [])) _
        refine XS.lload X42.here hx rfl (hb hby at_179) rfl ?_
        show Steps p.tables e below (T42.setTop (mkF m 181 #[.val (.long q0), .second, .val (.long q1), .second, .val (.long q2), .second, .val (.long q3), .second, .val (.long (9223372036854775807 : Int64)), .second, .val (.long (e0_1 q0)), .second, .val (.long (e0_2 q1)), .second, .val (.long (f1 (e0_1 q0) (e0_2 q1))), .second, .val (.long (f2 (e0_1 q0) (e0_2 q1))), .second, .val (.int (1 : Int32)), .val (.long (q3 &&& (9223372036854775807 : Int64))), .second, .val (.long (e0_3 q0 q1 q2)), .second, .val (.long (e0_4 q0 q1)), .second, .val (.long (((e0_3 q0 q1 q2) - (f1 (e0_1 q0) (e0_2 q1))) + (1 : Int64))), .second, .val (.long (e0_5 q0 q1 q2)), .second] [(.long (((e0_3 q0 q1 q2) - (f1 (e0_1 q0) (e0_2 q1))) + (1 : Int64)))])) _
        refine XS.lconst X42.here hx rfl (hb hby at_181) ?_
        show Steps p.tables e below (T42.setTop (mkF m 182 #[.val (.long q0), .second, .val (.long q1), .second, .val (.long q2), .second, .val (.long q3), .second, .val (.long (9223372036854775807 : Int64)), .second, .val (.long (e0_1 q0)), .second, .val (.long (e0_2 q1)), .second, .val (.long (f1 (e0_1 q0) (e0_2 q1))), .second, .val (.long (f2 (e0_1 q0) (e0_2 q1))), .second, .val (.int (1 : Int32)), .val (.long (q3 &&& (9223372036854775807 : Int64))), .second, .val (.long (e0_3 q0 q1 q2)), .second, .val (.long (e0_4 q0 q1)), .second, .val (.long (((e0_3 q0 q1 q2) - (f1 (e0_1 q0) (e0_2 q1))) + (1 : Int64))), .second, .val (.long (e0_5 q0 q1 q2)), .second] [(.long (1 : Int64)), (.long (((e0_3 q0 q1 q2) - (f1 (e0_1 q0) (e0_2 q1))) + (1 : Int64)))])) _
        refine XS.lcmp X42.here hx rfl (hb hby at_182) rfl ?_
        exact kt)
    have hd183_45 : ¬ ((lcmpW (((e0_3 q0 q1 q2) - (f1 (e0_1 q0) (e0_2 q1))) + (1 : Int64)) (1 : Int64)) < (0 : Int32)) := (own_cut _ _ _ hc105_20).1
    have pre46 : ∀ t, Steps p.tables e below (T42.setTop (mkF m 190 #[.val (.long q0), .second, .val (.long q1), .second, .val (.long q2), .second, .val (.long q3), .second, .val (.long (9223372036854775807 : Int64)), .second, .val (.long (e0_1 q0)), .second, .val (.long (e0_2 q1)), .second, .val (.long (f1 (e0_1 q0) (e0_2 q1))), .second, .val (.long (f2 (e0_1 q0) (e0_2 q1))), .second, .val (.int (1 : Int32)), .val (.long (q3 &&& (9223372036854775807 : Int64))), .second, .val (.long (e0_3 q0 q1 q2)), .second, .val (.long (e0_4 q0 q1)), .second, .val (.long (((e0_3 q0 q1 q2) - (f1 (e0_1 q0) (e0_2 q1))) + (1 : Int64))), .second, .val (.long (e0_5 q0 q1 q2)), .second] [(.int (lcmpW (e0_5 q0 q1 q2) (1 : Int64)))])) t → Steps p.tables e below (s₁.setTop (entryFrame m #[(.long q0), (.long q1), (.long q2), (.long q3)] maxLocals)) t := fun t kt => pre44 t (by
        show Steps p.tables e below (T42.setTop (mkF m 183 #[.val (.long q0), .second, .val (.long q1), .second, .val (.long q2), .second, .val (.long q3), .second, .val (.long (9223372036854775807 : Int64)), .second, .val (.long (e0_1 q0)), .second, .val (.long (e0_2 q1)), .second, .val (.long (f1 (e0_1 q0) (e0_2 q1))), .second, .val (.long (f2 (e0_1 q0) (e0_2 q1))), .second, .val (.int (1 : Int32)), .val (.long (q3 &&& (9223372036854775807 : Int64))), .second, .val (.long (e0_3 q0 q1 q2)), .second, .val (.long (e0_4 q0 q1)), .second, .val (.long (((e0_3 q0 q1 q2) - (f1 (e0_1 q0) (e0_2 q1))) + (1 : Int64))), .second, .val (.long (e0_5 q0 q1 q2)), .second] [(.int (lcmpW (((e0_3 q0 q1 q2) - (f1 (e0_1 q0) (e0_2 q1))) + (1 : Int64)) (1 : Int64)))])) _
        refine XS.ifNo X42.here hx rfl (hb hby at_183) rfl ((if0 _ _).trans (flt hd183_45).1) ?_
        show Steps p.tables e below (T42.setTop (mkF m 186 #[.val (.long q0), .second, .val (.long q1), .second, .val (.long q2), .second, .val (.long q3), .second, .val (.long (9223372036854775807 : Int64)), .second, .val (.long (e0_1 q0)), .second, .val (.long (e0_2 q1)), .second, .val (.long (f1 (e0_1 q0) (e0_2 q1))), .second, .val (.long (f2 (e0_1 q0) (e0_2 q1))), .second, .val (.int (1 : Int32)), .val (.long (q3 &&& (9223372036854775807 : Int64))), .second, .val (.long (e0_3 q0 q1 q2)), .second, .val (.long (e0_4 q0 q1)), .second, .val (.long (((e0_3 q0 q1 q2) - (f1 (e0_1 q0) (e0_2 q1))) + (1 : Int64))), .second, .val (.long (e0_5 q0 q1 q2)), .second] [])) _
        refine XS.lload X42.here hx rfl (hb hby at_186) rfl ?_
        show Steps p.tables e below (T42.setTop (mkF m 188 #[.val (.long q0), .second, .val (.long q1), .second, .val (.long q2), .second, .val (.long q3), .second, .val (.long (9223372036854775807 : Int64)), .second, .val (.long (e0_1 q0)), .second, .val (.long (e0_2 q1)), .second, .val (.long (f1 (e0_1 q0) (e0_2 q1))), .second, .val (.long (f2 (e0_1 q0) (e0_2 q1))), .second, .val (.int (1 : Int32)), .val (.long (q3 &&& (9223372036854775807 : Int64))), .second, .val (.long (e0_3 q0 q1 q2)), .second, .val (.long (e0_4 q0 q1)), .second, .val (.long (((e0_3 q0 q1 q2) - (f1 (e0_1 q0) (e0_2 q1))) + (1 : Int64))), .second, .val (.long (e0_5 q0 q1 q2)), .second] [(.long (e0_5 q0 q1 q2))])) _
        refine XS.lconst X42.here hx rfl (hb hby at_188) ?_
        show Steps p.tables e below (T42.setTop (mkF m 189 #[.val (.long q0), .second, .val (.long q1), .second, .val (.long q2), .second, .val (.long q3), .second, .val (.long (9223372036854775807 : Int64)), .second, .val (.long (e0_1 q0)), .second, .val (.long (e0_2 q1)), .second, .val (.long (f1 (e0_1 q0) (e0_2 q1))), .second, .val (.long (f2 (e0_1 q0) (e0_2 q1))), .second, .val (.int (1 : Int32)), .val (.long (q3 &&& (9223372036854775807 : Int64))), .second, .val (.long (e0_3 q0 q1 q2)), .second, .val (.long (e0_4 q0 q1)), .second, .val (.long (((e0_3 q0 q1 q2) - (f1 (e0_1 q0) (e0_2 q1))) + (1 : Int64))), .second, .val (.long (e0_5 q0 q1 q2)), .second] [(.long (1 : Int64)), (.long (e0_5 q0 q1 q2))])) _
        refine XS.lcmp X42.here hx rfl (hb hby at_189) rfl ?_
        exact kt)
    have hd190_47 : ¬ ((lcmpW (e0_5 q0 q1 q2) (1 : Int64)) < (0 : Int32)) := (own_cut _ _ _ hc105_20).2.1
    have pre48 : ∀ t, Steps p.tables e below (T42.setTop (mkF m 201 #[.val (.long q0), .second, .val (.long q1), .second, .val (.long q2), .second, .val (.long q3), .second, .val (.long (9223372036854775807 : Int64)), .second, .val (.long (e0_1 q0)), .second, .val (.long (e0_2 q1)), .second, .val (.long (f1 (e0_1 q0) (e0_2 q1))), .second, .val (.long (f2 (e0_1 q0) (e0_2 q1))), .second, .val (.int (1 : Int32)), .val (.long (q3 &&& (9223372036854775807 : Int64))), .second, .val (.long (e0_3 q0 q1 q2)), .second, .val (.long (e0_4 q0 q1)), .second, .val (.long (((e0_3 q0 q1 q2) - (f1 (e0_1 q0) (e0_2 q1))) + (1 : Int64))), .second, .val (.long (e0_5 q0 q1 q2)), .second] [(.int (lcmpW ((((e0_3 q0 q1 q2) - (f1 (e0_1 q0) (e0_2 q1))) + (1 : Int64)) + (e0_5 q0 q1 q2)) (e0_4 q0 q1)))])) t → Steps p.tables e below (s₁.setTop (entryFrame m #[(.long q0), (.long q1), (.long q2), (.long q3)] maxLocals)) t := fun t kt => pre46 t (by
        show Steps p.tables e below (T42.setTop (mkF m 190 #[.val (.long q0), .second, .val (.long q1), .second, .val (.long q2), .second, .val (.long q3), .second, .val (.long (9223372036854775807 : Int64)), .second, .val (.long (e0_1 q0)), .second, .val (.long (e0_2 q1)), .second, .val (.long (f1 (e0_1 q0) (e0_2 q1))), .second, .val (.long (f2 (e0_1 q0) (e0_2 q1))), .second, .val (.int (1 : Int32)), .val (.long (q3 &&& (9223372036854775807 : Int64))), .second, .val (.long (e0_3 q0 q1 q2)), .second, .val (.long (e0_4 q0 q1)), .second, .val (.long (((e0_3 q0 q1 q2) - (f1 (e0_1 q0) (e0_2 q1))) + (1 : Int64))), .second, .val (.long (e0_5 q0 q1 q2)), .second] [(.int (lcmpW (e0_5 q0 q1 q2) (1 : Int64)))])) _
        refine XS.ifNo X42.here hx rfl (hb hby at_190) rfl ((if0 _ _).trans (flt hd190_47).1) ?_
        show Steps p.tables e below (T42.setTop (mkF m 193 #[.val (.long q0), .second, .val (.long q1), .second, .val (.long q2), .second, .val (.long q3), .second, .val (.long (9223372036854775807 : Int64)), .second, .val (.long (e0_1 q0)), .second, .val (.long (e0_2 q1)), .second, .val (.long (f1 (e0_1 q0) (e0_2 q1))), .second, .val (.long (f2 (e0_1 q0) (e0_2 q1))), .second, .val (.int (1 : Int32)), .val (.long (q3 &&& (9223372036854775807 : Int64))), .second, .val (.long (e0_3 q0 q1 q2)), .second, .val (.long (e0_4 q0 q1)), .second, .val (.long (((e0_3 q0 q1 q2) - (f1 (e0_1 q0) (e0_2 q1))) + (1 : Int64))), .second, .val (.long (e0_5 q0 q1 q2)), .second] [])) _
        refine XS.lload X42.here hx rfl (hb hby at_193) rfl ?_
        show Steps p.tables e below (T42.setTop (mkF m 195 #[.val (.long q0), .second, .val (.long q1), .second, .val (.long q2), .second, .val (.long q3), .second, .val (.long (9223372036854775807 : Int64)), .second, .val (.long (e0_1 q0)), .second, .val (.long (e0_2 q1)), .second, .val (.long (f1 (e0_1 q0) (e0_2 q1))), .second, .val (.long (f2 (e0_1 q0) (e0_2 q1))), .second, .val (.int (1 : Int32)), .val (.long (q3 &&& (9223372036854775807 : Int64))), .second, .val (.long (e0_3 q0 q1 q2)), .second, .val (.long (e0_4 q0 q1)), .second, .val (.long (((e0_3 q0 q1 q2) - (f1 (e0_1 q0) (e0_2 q1))) + (1 : Int64))), .second, .val (.long (e0_5 q0 q1 q2)), .second] [(.long (((e0_3 q0 q1 q2) - (f1 (e0_1 q0) (e0_2 q1))) + (1 : Int64)))])) _
        refine XS.lload X42.here hx rfl (hb hby at_195) rfl ?_
        show Steps p.tables e below (T42.setTop (mkF m 197 #[.val (.long q0), .second, .val (.long q1), .second, .val (.long q2), .second, .val (.long q3), .second, .val (.long (9223372036854775807 : Int64)), .second, .val (.long (e0_1 q0)), .second, .val (.long (e0_2 q1)), .second, .val (.long (f1 (e0_1 q0) (e0_2 q1))), .second, .val (.long (f2 (e0_1 q0) (e0_2 q1))), .second, .val (.int (1 : Int32)), .val (.long (q3 &&& (9223372036854775807 : Int64))), .second, .val (.long (e0_3 q0 q1 q2)), .second, .val (.long (e0_4 q0 q1)), .second, .val (.long (((e0_3 q0 q1 q2) - (f1 (e0_1 q0) (e0_2 q1))) + (1 : Int64))), .second, .val (.long (e0_5 q0 q1 q2)), .second] [(.long (e0_5 q0 q1 q2)), (.long (((e0_3 q0 q1 q2) - (f1 (e0_1 q0) (e0_2 q1))) + (1 : Int64)))])) _
        refine XS.ladd X42.here hx rfl (hb hby at_197) rfl ?_
        show Steps p.tables e below (T42.setTop (mkF m 198 #[.val (.long q0), .second, .val (.long q1), .second, .val (.long q2), .second, .val (.long q3), .second, .val (.long (9223372036854775807 : Int64)), .second, .val (.long (e0_1 q0)), .second, .val (.long (e0_2 q1)), .second, .val (.long (f1 (e0_1 q0) (e0_2 q1))), .second, .val (.long (f2 (e0_1 q0) (e0_2 q1))), .second, .val (.int (1 : Int32)), .val (.long (q3 &&& (9223372036854775807 : Int64))), .second, .val (.long (e0_3 q0 q1 q2)), .second, .val (.long (e0_4 q0 q1)), .second, .val (.long (((e0_3 q0 q1 q2) - (f1 (e0_1 q0) (e0_2 q1))) + (1 : Int64))), .second, .val (.long (e0_5 q0 q1 q2)), .second] [(.long ((((e0_3 q0 q1 q2) - (f1 (e0_1 q0) (e0_2 q1))) + (1 : Int64)) + (e0_5 q0 q1 q2)))])) _
        refine XS.lload X42.here hx rfl (hb hby at_198) rfl ?_
        show Steps p.tables e below (T42.setTop (mkF m 200 #[.val (.long q0), .second, .val (.long q1), .second, .val (.long q2), .second, .val (.long q3), .second, .val (.long (9223372036854775807 : Int64)), .second, .val (.long (e0_1 q0)), .second, .val (.long (e0_2 q1)), .second, .val (.long (f1 (e0_1 q0) (e0_2 q1))), .second, .val (.long (f2 (e0_1 q0) (e0_2 q1))), .second, .val (.int (1 : Int32)), .val (.long (q3 &&& (9223372036854775807 : Int64))), .second, .val (.long (e0_3 q0 q1 q2)), .second, .val (.long (e0_4 q0 q1)), .second, .val (.long (((e0_3 q0 q1 q2) - (f1 (e0_1 q0) (e0_2 q1))) + (1 : Int64))), .second, .val (.long (e0_5 q0 q1 q2)), .second] [(.long (e0_4 q0 q1)), (.long ((((e0_3 q0 q1 q2) - (f1 (e0_1 q0) (e0_2 q1))) + (1 : Int64)) + (e0_5 q0 q1 q2)))])) _
        refine XS.lcmp X42.here hx rfl (hb hby at_200) rfl ?_
        exact kt)
    have hd201_49 : (lcmpW ((((e0_3 q0 q1 q2) - (f1 (e0_1 q0) (e0_2 q1))) + (1 : Int64)) + (e0_5 q0 q1 q2)) (e0_4 q0 q1)) = (0 : Int32) := (own_cut _ _ _ hc105_20).2.2
    obtain ⟨fs, hr, hrun, hended, hW, hsame⟩ := X42.leave (v := some (.int (1 : Int32))) (fun h => by rw [Bd.returns] at h; cases h)
    have hv50 : (1 : Int32) = (1 : Int32) := rfl
    refine ⟨_, _, pre48 _ ?_, hrun, hended, _, _, rfl, ?_, ⟨_, rfl⟩, hW, hsame.mono (by decide) (by decide)⟩
    · show Steps p.tables e below (T42.setTop (mkF m 201 #[.val (.long q0), .second, .val (.long q1), .second, .val (.long q2), .second, .val (.long q3), .second, .val (.long (9223372036854775807 : Int64)), .second, .val (.long (e0_1 q0)), .second, .val (.long (e0_2 q1)), .second, .val (.long (f1 (e0_1 q0) (e0_2 q1))), .second, .val (.long (f2 (e0_1 q0) (e0_2 q1))), .second, .val (.int (1 : Int32)), .val (.long (q3 &&& (9223372036854775807 : Int64))), .second, .val (.long (e0_3 q0 q1 q2)), .second, .val (.long (e0_4 q0 q1)), .second, .val (.long (((e0_3 q0 q1 q2) - (f1 (e0_1 q0) (e0_2 q1))) + (1 : Int64))), .second, .val (.long (e0_5 q0 q1 q2)), .second] [(.int (lcmpW ((((e0_3 q0 q1 q2) - (f1 (e0_1 q0) (e0_2 q1))) + (1 : Int64)) + (e0_5 q0 q1 q2)) (e0_4 q0 q1)))])) _
      refine XS.ifNo X42.here hx rfl (hb hby at_201) rfl ((if0 _ _).trans (teq hd201_49).2) ?_
      show Steps p.tables e below (T42.setTop (mkF m 204 #[.val (.long q0), .second, .val (.long q1), .second, .val (.long q2), .second, .val (.long q3), .second, .val (.long (9223372036854775807 : Int64)), .second, .val (.long (e0_1 q0)), .second, .val (.long (e0_2 q1)), .second, .val (.long (f1 (e0_1 q0) (e0_2 q1))), .second, .val (.long (f2 (e0_1 q0) (e0_2 q1))), .second, .val (.int (1 : Int32)), .val (.long (q3 &&& (9223372036854775807 : Int64))), .second, .val (.long (e0_3 q0 q1 q2)), .second, .val (.long (e0_4 q0 q1)), .second, .val (.long (((e0_3 q0 q1 q2) - (f1 (e0_1 q0) (e0_2 q1))) + (1 : Int64))), .second, .val (.long (e0_5 q0 q1 q2)), .second] [])) _
      refine XS.iconst X42.here hx rfl (hb hby at_204) ?_
      show Steps p.tables e below (T42.setTop (mkF m 205 #[.val (.long q0), .second, .val (.long q1), .second, .val (.long q2), .second, .val (.long q3), .second, .val (.long (9223372036854775807 : Int64)), .second, .val (.long (e0_1 q0)), .second, .val (.long (e0_2 q1)), .second, .val (.long (f1 (e0_1 q0) (e0_2 q1))), .second, .val (.long (f2 (e0_1 q0) (e0_2 q1))), .second, .val (.int (1 : Int32)), .val (.long (q3 &&& (9223372036854775807 : Int64))), .second, .val (.long (e0_3 q0 q1 q2)), .second, .val (.long (e0_4 q0 q1)), .second, .val (.long (((e0_3 q0 q1 q2) - (f1 (e0_1 q0) (e0_2 q1))) + (1 : Int64))), .second, .val (.long (e0_5 q0 q1 q2)), .second] [(.int (1 : Int32))])) _
      refine XS.goto X42.here hx rfl (pc0 := 205) (pc' := 209) rfl (hb hby at_205) (by decide) (by decide) ?_
      show Steps p.tables e below (T42.setTop (mkF m 209 #[.val (.long q0), .second, .val (.long q1), .second, .val (.long q2), .second, .val (.long q3), .second, .val (.long (9223372036854775807 : Int64)), .second, .val (.long (e0_1 q0)), .second, .val (.long (e0_2 q1)), .second, .val (.long (f1 (e0_1 q0) (e0_2 q1))), .second, .val (.long (f2 (e0_1 q0) (e0_2 q1))), .second, .val (.int (1 : Int32)), .val (.long (q3 &&& (9223372036854775807 : Int64))), .second, .val (.long (e0_3 q0 q1 q2)), .second, .val (.long (e0_4 q0 q1)), .second, .val (.long (((e0_3 q0 q1 q2) - (f1 (e0_1 q0) (e0_2 q1))) + (1 : Int64))), .second, .val (.long (e0_5 q0 q1 q2)), .second] [(.int (1 : Int32))])) _
      refine XS.istore X42.here hx rfl (hb hby at_209) rfl (l' := #[.val (.long q0), .second, .val (.long q1), .second, .val (.long q2), .second, .val (.long q3), .second, .val (.long (9223372036854775807 : Int64)), .second, .val (.long (e0_1 q0)), .second, .val (.long (e0_2 q1)), .second, .val (.long (f1 (e0_1 q0) (e0_2 q1))), .second, .val (.long (f2 (e0_1 q0) (e0_2 q1))), .second, .val (.int (1 : Int32)), .val (.long (q3 &&& (9223372036854775807 : Int64))), .second, .val (.long (e0_3 q0 q1 q2)), .second, .val (.long (e0_4 q0 q1)), .second, .val (.long (((e0_3 q0 q1 q2) - (f1 (e0_1 q0) (e0_2 q1))) + (1 : Int64))), .second, .val (.long (e0_5 q0 q1 q2)), .second]) rfl ?_
      show Steps p.tables e below (T42.setTop (mkF m 211 #[.val (.long q0), .second, .val (.long q1), .second, .val (.long q2), .second, .val (.long q3), .second, .val (.long (9223372036854775807 : Int64)), .second, .val (.long (e0_1 q0)), .second, .val (.long (e0_2 q1)), .second, .val (.long (f1 (e0_1 q0) (e0_2 q1))), .second, .val (.long (f2 (e0_1 q0) (e0_2 q1))), .second, .val (.int (1 : Int32)), .val (.long (q3 &&& (9223372036854775807 : Int64))), .second, .val (.long (e0_3 q0 q1 q2)), .second, .val (.long (e0_4 q0 q1)), .second, .val (.long (((e0_3 q0 q1 q2) - (f1 (e0_1 q0) (e0_2 q1))) + (1 : Int64))), .second, .val (.long (e0_5 q0 q1 q2)), .second] [])) _
      refine XS.iload X42.here hx rfl (hb hby at_211) rfl ?_
      show Steps p.tables e below (T42.setTop (mkF m 213 #[.val (.long q0), .second, .val (.long q1), .second, .val (.long q2), .second, .val (.long q3), .second, .val (.long (9223372036854775807 : Int64)), .second, .val (.long (e0_1 q0)), .second, .val (.long (e0_2 q1)), .second, .val (.long (f1 (e0_1 q0) (e0_2 q1))), .second, .val (.long (f2 (e0_1 q0) (e0_2 q1))), .second, .val (.int (1 : Int32)), .val (.long (q3 &&& (9223372036854775807 : Int64))), .second, .val (.long (e0_3 q0 q1 q2)), .second, .val (.long (e0_4 q0 q1)), .second, .val (.long (((e0_3 q0 q1 q2) - (f1 (e0_1 q0) (e0_2 q1))) + (1 : Int64))), .second, .val (.long (e0_5 q0 q1 q2)), .second] [(.int (1 : Int32))])) _
      exact retN X42 hx (t := .boolean) Bd.returns (by simp) (hb hby at_213) hr
    · show Q0 Z q0 q1 q2 q3 h0 n0 _ T42.heap _
      rw [e42q]
      exact ⟨congrArg (fun q => some (Value.int q)) hv50, N42⟩
  · obtain ⟨fs, hr, hrun, hended, hW, hsame⟩ := X16.leave (v := some (.int (1 : Int32))) (fun h => by rw [Bd.returns] at h; cases h)
    have hv51 : (1 : Int32) = (1 : Int32) := rfl
    refine ⟨_, _, pre19 _ ?_, hrun, hended, _, _, rfl, ?_, ⟨_, rfl⟩, hW, hsame.mono (by decide) (by decide)⟩
    · show Steps p.tables e below (T16.setTop (mkF m 105 #[.val (.long q0), .second, .val (.long q1), .second, .val (.long q2), .second, .val (.long q3), .second, .val (.long (9223372036854775807 : Int64)), .second, .val (.long (e0_1 q0)), .second, .val (.long (e0_2 q1)), .second, .val (.long (f1 (e0_1 q0) (e0_2 q1))), .second, .val (.long (f2 (e0_1 q0) (e0_2 q1))), .second, .val (.int (1 : Int32)), .val (.long (q3 &&& (9223372036854775807 : Int64))), .second, .unset, .unset, .unset, .unset, .unset, .unset, .unset, .unset] [(.int (lcmpW (f1 (e0_1 q0) (e0_2 q1)) (f2 (e0_1 q0) (e0_2 q1))))])) _
      refine XS.ifYes X16.here hx rfl (pc0 := 105) (pc' := 211) rfl (hb hby at_105) rfl ((if0 _ _).trans (flt hc105_20).2.1) (by decide) (by decide) ?_
      show Steps p.tables e below (T16.setTop (mkF m 211 #[.val (.long q0), .second, .val (.long q1), .second, .val (.long q2), .second, .val (.long q3), .second, .val (.long (9223372036854775807 : Int64)), .second, .val (.long (e0_1 q0)), .second, .val (.long (e0_2 q1)), .second, .val (.long (f1 (e0_1 q0) (e0_2 q1))), .second, .val (.long (f2 (e0_1 q0) (e0_2 q1))), .second, .val (.int (1 : Int32)), .val (.long (q3 &&& (9223372036854775807 : Int64))), .second, .unset, .unset, .unset, .unset, .unset, .unset, .unset, .unset] [])) _
      refine XS.iload X16.here hx rfl (hb hby at_211) rfl ?_
      show Steps p.tables e below (T16.setTop (mkF m 213 #[.val (.long q0), .second, .val (.long q1), .second, .val (.long q2), .second, .val (.long q3), .second, .val (.long (9223372036854775807 : Int64)), .second, .val (.long (e0_1 q0)), .second, .val (.long (e0_2 q1)), .second, .val (.long (f1 (e0_1 q0) (e0_2 q1))), .second, .val (.long (f2 (e0_1 q0) (e0_2 q1))), .second, .val (.int (1 : Int32)), .val (.long (q3 &&& (9223372036854775807 : Int64))), .second, .unset, .unset, .unset, .unset, .unset, .unset, .unset, .unset] [(.int (1 : Int32))])) _
      exact retN X16 hx (t := .boolean) Bd.returns (by simp) (hb hby at_213) hr
    · show Q0 Z q0 q1 q2 q3 h0 n0 _ T16.heap _
      rw [e16q]
      exact ⟨congrArg (fun q => some (Value.int q)) hv51, N16⟩
set_option maxRecDepth 65536 in
set_option maxHeartbeats 40000000 in
theorem comes_1 {Post : Tables → Env → Array Value → State → Outcome → State → Prop} (hpost : ∀ tb e args s v u, (limb_1_1.after args s (.returned v) u = true ∧ limb_1_2.after args s (.returned v) u = true ∧ True) → FrameEnd s (.returned v) u (Jvm.fieldLocs frame_1_writes args s ++ Jvm.arrayLocs frame_1_arrays args s ++ Jvm.staticLocs frame_1_statics s) 24 128 → Post tb e args s (.returned v) u) :
    ArmFor flags0 classFile x code maxLocals ret World_1 tables_1 room_1 Calls_1 rest_1 Pre_1 Post := by
  intro l hfl _ _ p e ha hc hk s m args below hf hA hF happ hP
  obtain ⟨hcalls, hrest, hpre⟩ := hP
  obtain ⟨-, -, -, hnamed, -, -, -, hat⟩ := (Spec.applies_iff hf).mp happ
  obtain ⟨hg, hn⟩ := and_e (Cond.before_iff.mp (show (Jvm.Cond.and given_1 narrow_1).before args s = true from hpre))
  obtain ⟨g1, g2⟩ := and_e hg
  obtain ⟨g3, g4⟩ := and_e g2
  obtain ⟨g5, g6⟩ := and_e g4
  obtain ⟨g7, g8⟩ := and_e g6
  obtain ⟨w0, w1, w2, w3, rfl⟩ : ∃ w0 w1 w2 w3 : Value, args = #[w0, w1, w2, w3] := by
    have hs : args.size = 4 := by simpa [Cond.value, given_1] using g1
    obtain ⟨L⟩ := args
    match L, hs with
    | [w0, w1, w2, w3], _ => exact ⟨w0, w1, w2, w3, rfl⟩
  have hw := fun d (hd : d ∈ tables_1) => atoms_spec (ws := Jvm.Cond.code x code maxLocals ret :: tables_1) hat d (List.mem_cons_of_mem _ hd)
  have hfit : Fit s := fun {y c} hc i hi => by
    obtain ⟨ha, rfl⟩ := Array.getElem?_eq_some_iff.mp hc
    have q := List.all_eq_true.mp ((Array.all_eq_true_iff_forall_mem.mp hF) _ (Array.getElem_mem ha)) i (List.mem_range.mpr hi)
    simpa [Array.getElem?_eq_getElem hi] using q
  obtain ⟨i0, ei0⟩ := isL_v g3
  obtain rfl : w0 = (.long i0) := Option.some.inj ei0
  obtain ⟨i1, ei1⟩ := isL_v g5
  obtain rfl : w1 = (.long i1) := Option.some.inj ei1
  obtain ⟨i2, ei2⟩ := isL_v g7
  obtain rfl : w2 = (.long i2) := Option.some.inj ei2
  obtain ⟨i3, ei3⟩ := isL_v g8
  obtain rfl : w3 = (.long i3) := Option.some.inj ei3
  obtain ⟨n, o, h1, h2, h3, _, L, rfl, ⟨hv0, N⟩, hq⟩ := rm0 l s _ hw tables_1 i0 i1 i2 i3 s.heap s.heap.size (Nat.le_refl _) p e ha hc hk s m _ below hf ((Spec.applies_iff_loose hf).mp happ).1 ⟨rfl, State.Warmed39.refl s, rfl⟩ trivial
  subst hv0
  refine ⟨n, _, h1, h2, h3, hpost _ _ _ _ _ _ ⟨Cond.after_iff.mpr rfl, Cond.after_iff.mpr (eq_i res_at (Term.int_eval (1)) rfl), trivial⟩ ⟨hq.1, hq.2.1, (hq.2.2.sift fun y hy => Or.inr (N y hy)).mono (by decide) (by decide)⟩⟩
theorem main_1_1 : Claimed_1_1 := comes_1 fun _ _ _ _ _ _ h hF => ⟨h.1, hF⟩
theorem main_1_2 : Claimed_1_2 := comes_1 fun _ _ _ _ _ _ h hF => ⟨h.2.1, hF⟩
end Jvm.Pilot.@@N@@
namespace Jvm.Pilot.@@N@@
open Jvm Jvm.ClassFile Sem Op Lib Jvm.Free Jvm.Stand Jvm.Pilot.@@N@@.Jvm.D
/-! MADE BY PROGRAM (witnessworld.py) out of the Statement's table words and the real class files: 11 classes; the members and pool entries that the words name. The judged class is class 1, her method 1. -/
namespace start1
open Jvm.ClassFile
def u (s : String) : CpInfo := .utf8 (stringToUtf16 s)
/-- a pool by its gaps: so many unusable entries, then the entry; so many at the end -/
def gap : Nat → List CpInfo → List CpInfo
  | 0, r => r
  | n + 1, r => .unusable :: gap n r
def poolList (es : List (Nat × CpInfo)) (last : Nat) : List CpInfo := es.foldr (fun e r => gap e.1 (e.2 :: r)) (gap last [])
def pool (es : List (Nat × CpInfo)) (last : Nat) : Array CpInfo := ⟨poolList es last⟩
def fileOf (pool : Array CpInfo) (this : Nat) (attrs : Array Attribute := #[]) (ms : Array MethodInfo := #[]) (fl : Nat := 33) (sup : Nat := 0) (ifs : Array Nat := #[]) (fds : Array FieldInfo := #[]) : ClassFile where
  minorVersion := 0
  majorVersion := 65
  constantPool := pool
  accessFlags := fl
  thisClass := this
  superClass := sup
  interfaces := ifs
  fields := fds
  methods := ms
  attributes := attrs
def plain (name : String) (sup : Option ClassId) : Class where
  name := name
  kind := .ordinary
  loader := none
  accessFlags := 33
  super := sup
  interfaces := #[]
  cf := none
  fields := #[]
  methods := #[]
  instanceTypes := #[]
  staticTypes := #[]
  resolved := #[]
  callSites := []
  init := .initialized
  statics := none
  mirror := none

def pool0 : Array CpInfo := pool [(5, u "<init>"), (0, u "()V"), (1, .class_ 10), (1, u "java/lang/Object")] 113

def k0c0 : Code := { maxStack := 0, maxLocals := 1, code := object_method_1_code, exceptionTable := #[], attributes := #[] }
def k0m0 : Method := { name := "<init>", desc := "()V", sig := { parameters := [], returnType := none }, accessFlags := 1, code := some k0c0 }
/-- java/lang/Object -/
def k0 : Class := { plain "java/lang/Object" none with
  accessFlags := 33
  interfaces := #[]
  cf := some (fileOf pool0 8 #[] #[{ accessFlags := 1, nameIndex := 5, descriptorIndex := 6, attributes := #[] }] 33 0 #[] #[])
  fields := #[]
  methods := #[k0m0]
  instanceTypes := #[]
  staticTypes := #[]
  resolved := Array.replicate 124 none
  statics := none }

def pool1 : Array CpInfo := pool [(2, .class_ 4), (1, u "java/lang/Object"), (0, u "<init>"), (0, u "()V"), (2, .long 9223372036854775807), (1, .methodref 12 13), (0, .class_ 14), (0, .nameAndType 15 16), (0, u "java/lang/Math"), (0, u "min"), (0, u "(JJ)J"), (0, .methodref 12 18), (0, .nameAndType 19 16), (0, u "max"), (0, .class_ 21), (0, u "com/example/cratewise/cratewise/server/ByteRange"), (0, .methodref 20 23), (0, .nameAndType 5 24), (0, u "(JJ)V"), (0, .methodref 20 26), (0, .nameAndType 27 28), (0, u "length"), (0, u "()J"), (0, .methodref 20 30), (0, .nameAndType 31 32), (0, u "whole"), (0, u "(J)Lcom/example/cratewise/cratewise/server/ByteRange;"), (0, .class_ 34), (0, u "com/example/cratewise/cratewise/server/ByteRangeLengthPinLaw"), (2, u "law"), (0, u "(JJJJ)Z")] 3

def k1m0 : Method := { name := "<init>", desc := "()V", sig := { parameters := [], returnType := none }, accessFlags := 1, code := none }
def k1c1 : Code := { maxStack := 8, maxLocals := 29, code := code, exceptionTable := #[], attributes := #[] }
def k1m1 : Method := { name := "law", desc := "(JJJJ)Z", sig := { parameters := [.long, .long, .long, .long], returnType := some .boolean }, accessFlags := 9, code := some k1c1 }
/-- com/example/cratewise/cratewise/server/ByteRangeLengthPinLaw -/
def k1 : Class := { plain "com/example/cratewise/cratewise/server/ByteRangeLengthPinLaw" (some 0) with
  accessFlags := 49
  interfaces := #[]
  cf := some (fileOf pool1 33 #[] #[{ accessFlags := 1, nameIndex := 5, descriptorIndex := 6, attributes := #[] }, { accessFlags := 9, nameIndex := 37, descriptorIndex := 38, attributes := #[] }] 49 2 #[] #[])
  fields := #[]
  methods := #[k1m0, k1m1]
  instanceTypes := #[]
  staticTypes := #[]
  resolved := Array.replicate 42 none
  statics := none }

def pool2 : Array CpInfo := pool [(1, .class_ 2), (0, u "java/lang/Math"), (1, .class_ 6), (1, u "java/lang/Object"), (0, u "<init>"), (0, u "()V"), (89, .class_ 100), (1, u "java/lang/Math$RandomNumberGeneratorHolder"), (20, u "(JJ)J"), (50, u "negativeZeroFloatBits"), (0, u "J"), (2, u "negativeZeroDoubleBits"), (21, u "max"), (2, u "min"), (43, u "$assertionsDisabled"), (0, u "Z"), (91, u "twoToTheDoubleScaleDown"), (0, u "D"), (4, u "twoToTheDoubleScaleUp"), (9, u "E"), (3, u "PI"), (2, u "TAU"), (2, u "DEGREES_TO_RADIANS"), (0, u "RADIANS_TO_DEGREES")] 94

def k2m0 : Method := { name := "<init>", desc := "()V", sig := { parameters := [], returnType := none }, accessFlags := 2, code := none }
def k2c1 : Code := { maxStack := 4, maxLocals := 4, code := jdk_29_method_66_code, exceptionTable := #[], attributes := #[] }
def k2m1 : Method := { name := "max", desc := "(JJ)J", sig := { parameters := [.long, .long], returnType := some .long }, accessFlags := 9, code := some k2c1 }
def k2c2 : Code := { maxStack := 4, maxLocals := 4, code := jdk_29_method_70_code, exceptionTable := #[], attributes := #[] }
def k2m2 : Method := { name := "min", desc := "(JJ)J", sig := { parameters := [.long, .long], returnType := some .long }, accessFlags := 9, code := some k2c2 }
/-- java/lang/Math -/
def k2 : Class := { plain "java/lang/Math" (some 0) with
  accessFlags := 49
  interfaces := #[]
  cf := some (fileOf pool2 1 #[.nestMembers #[98]] #[{ accessFlags := 2, nameIndex := 7, descriptorIndex := 8, attributes := #[] }, { accessFlags := 9, nameIndex := 198, descriptorIndex := 121, attributes := #[] }, { accessFlags := 9, nameIndex := 201, descriptorIndex := 121, attributes := #[] }] 49 4 #[] #[{ accessFlags := 25, nameIndex := 354, descriptorIndex := 339, attributes := #[] }, { accessFlags := 25, nameIndex := 358, descriptorIndex := 339, attributes := #[] }, { accessFlags := 25, nameIndex := 361, descriptorIndex := 339, attributes := #[] }, { accessFlags := 26, nameIndex := 364, descriptorIndex := 339, attributes := #[] }, { accessFlags := 26, nameIndex := 365, descriptorIndex := 339, attributes := #[] }, { accessFlags := 26, nameIndex := 172, descriptorIndex := 173, attributes := #[] }, { accessFlags := 26, nameIndex := 176, descriptorIndex := 173, attributes := #[] }, { accessFlags := 8, nameIndex := 344, descriptorIndex := 339, attributes := #[] }, { accessFlags := 8, nameIndex := 338, descriptorIndex := 339, attributes := #[] }, { accessFlags := 4120, nameIndex := 245, descriptorIndex := 246, attributes := #[] }])
  fields := #[{ name := "E", type := .double, accessFlags := 25, slot := 0, constantValue := 0 }, { name := "PI", type := .double, accessFlags := 25, slot := 1, constantValue := 0 }, { name := "TAU", type := .double, accessFlags := 25, slot := 2, constantValue := 0 }, { name := "DEGREES_TO_RADIANS", type := .double, accessFlags := 26, slot := 3, constantValue := 0 }, { name := "RADIANS_TO_DEGREES", type := .double, accessFlags := 26, slot := 4, constantValue := 0 }, { name := "negativeZeroFloatBits", type := .long, accessFlags := 26, slot := 5, constantValue := 0 }, { name := "negativeZeroDoubleBits", type := .long, accessFlags := 26, slot := 6, constantValue := 0 }, { name := "twoToTheDoubleScaleUp", type := .double, accessFlags := 8, slot := 7, constantValue := 0 }, { name := "twoToTheDoubleScaleDown", type := .double, accessFlags := 8, slot := 8, constantValue := 0 }, { name := "$assertionsDisabled", type := .boolean, accessFlags := 4120, slot := 9, constantValue := 0 }]
  methods := #[k2m0, k2m1, k2m2]
  instanceTypes := #[]
  staticTypes := #[.double, .double, .double, .double, .double, .long, .long, .double, .double, .boolean]
  resolved := Array.replicate 460 none
  statics := none }

def pool3 : Array CpInfo := pool [(1, .methodref 2 3), (0, .class_ 4), (0, .nameAndType 5 6), (0, u "java/lang/Object"), (0, u "<init>"), (0, u "()V"), (0, .class_ 8), (0, u "java/lang/Record")] 13

def k3c0 : Code := { maxStack := 1, maxLocals := 1, code := jdk_30_method_1_code, exceptionTable := #[], attributes := #[] }
def k3m0 : Method := { name := "<init>", desc := "()V", sig := { parameters := [], returnType := none }, accessFlags := 4, code := some k3c0 }
/-- java/lang/Record -/
def k3 : Class := { plain "java/lang/Record" (some 0) with
  accessFlags := 1057
  interfaces := #[]
  cf := some (fileOf pool3 7 #[] #[{ accessFlags := 4, nameIndex := 5, descriptorIndex := 6, attributes := #[] }] 1057 2 #[] #[])
  fields := #[]
  methods := #[k3m0]
  instanceTypes := #[]
  staticTypes := #[]
  resolved := Array.replicate 22 none
  statics := none }

def pool4 : Array CpInfo := pool [(1, .methodref 2 3), (0, .class_ 4), (0, .nameAndType 5 6), (0, u "java/lang/Record"), (0, u "<init>"), (0, u "()V"), (0, .fieldref 8 9), (0, .class_ 10), (0, .nameAndType 11 12), (0, u "com/example/cratewise/cratewise/server/ByteRange"), (0, u "first"), (0, u "J"), (0, .fieldref 8 14), (0, .nameAndType 15 12), (0, u "last"), (0, .methodref 8 17), (0, .nameAndType 5 18), (0, u "(JJ)V"), (2, u "RANGE"), (0, u "Ljava/util/regex/Pattern;"), (78, u "whole"), (0, u "(J)Lcom/example/cratewise/cratewise/server/ByteRange;"), (3, u "length"), (0, u "()J")] 36

def k4c0 : Code := { maxStack := 3, maxLocals := 5, code := prog_37_method_1_code, exceptionTable := #[], attributes := #[] }
def k4m0 : Method := { name := "<init>", desc := "(JJ)V", sig := { parameters := [.long, .long], returnType := none }, accessFlags := 0, code := some k4c0 }
def k4c1 : Code := { maxStack := 8, maxLocals := 2, code := prog_37_method_2_code, exceptionTable := #[], attributes := #[] }
def k4m1 : Method := { name := "whole", desc := "(J)Lcom/example/cratewise/cratewise/server/ByteRange;", sig := { parameters := [.long], returnType := some (.object "com/example/cratewise/cratewise/server/ByteRange") }, accessFlags := 8, code := some k4c1 }
def k4c2 : Code := { maxStack := 4, maxLocals := 1, code := prog_37_method_5_code, exceptionTable := #[], attributes := #[] }
def k4m2 : Method := { name := "length", desc := "()J", sig := { parameters := [], returnType := some .long }, accessFlags := 0, code := some k4c2 }
/-- com/example/cratewise/cratewise/server/ByteRange -/
def k4 : Class := { plain "com/example/cratewise/cratewise/server/ByteRange" (some 3) with
  accessFlags := 48
  interfaces := #[]
  cf := some (fileOf pool4 8 #[] #[{ accessFlags := 0, nameIndex := 5, descriptorIndex := 18, attributes := #[] }, { accessFlags := 8, nameIndex := 101, descriptorIndex := 102, attributes := #[] }, { accessFlags := 0, nameIndex := 106, descriptorIndex := 107, attributes := #[] }] 48 2 #[] #[{ accessFlags := 18, nameIndex := 11, descriptorIndex := 12, attributes := #[] }, { accessFlags := 18, nameIndex := 15, descriptorIndex := 12, attributes := #[] }, { accessFlags := 26, nameIndex := 21, descriptorIndex := 22, attributes := #[] }])
  fields := #[{ name := "first", type := .long, accessFlags := 18, slot := 0, constantValue := 0 }, { name := "last", type := .long, accessFlags := 18, slot := 1, constantValue := 0 }, { name := "RANGE", type := (.object "java/util/regex/Pattern"), accessFlags := 26, slot := 0, constantValue := 0 }]
  methods := #[k4m0, k4m1, k4m2]
  instanceTypes := #[.long, .long]
  staticTypes := #[(.object "java/util/regex/Pattern")]
  resolved := Array.replicate 144 none
  statics := none }

def pool5 : Array CpInfo := pool [(1, u "java/lang/Cloneable"), (0, .class_ 1), (0, u "java/lang/Object"), (0, .class_ 3)] 3

/-- java/lang/Cloneable -/
def k5 : Class := { plain "java/lang/Cloneable" (some 0) with
  accessFlags := 1537
  interfaces := #[]
  cf := some (fileOf pool5 2 #[] #[] 1537 4 #[] #[])
  fields := #[]
  methods := #[]
  instanceTypes := #[]
  staticTypes := #[]
  resolved := Array.replicate 8 none
  statics := none }

def pool6 : Array CpInfo := pool [(1, u "java/io/Serializable"), (0, .class_ 1), (0, u "java/lang/Object"), (0, .class_ 3)] 3

/-- java/io/Serializable -/
def k6 : Class := { plain "java/io/Serializable" (some 0) with
  accessFlags := 1537
  interfaces := #[]
  cf := some (fileOf pool6 2 #[] #[] 1537 4 #[] #[])
  fields := #[]
  methods := #[]
  instanceTypes := #[]
  staticTypes := #[]
  resolved := Array.replicate 8 none
  statics := none }

/-- the primitive byte -/
def k7 : Class := { plain "byte" none with kind := .primitive 'B', accessFlags := 0x411 }
/-- [B -/
def k8 : Class := { plain "[B" (some 0) with kind := .array 7 .byte, interfaces := #[5, 6], accessFlags := 1041 }

/-- the primitive int -/
def k9 : Class := { plain "int" none with kind := .primitive 'I', accessFlags := 0x411 }
/-- [I -/
def k10 : Class := { plain "[I" (some 0) with kind := .array 9 .int, interfaces := #[5, 6], accessFlags := 1041 }

def heap : Heap := #[]
def classes : Array Class := #[k0, k1, k2, k3, k4, k5, k6, k7, k8, k9, k10]
def interned : List (Array UInt16 × Addr) := []
def slotsUsed : Nat := 0
def theMethod : MethodId := ⟨1, 1⟩
def args0 : Array Value := #[.long 5, .long 9, .long 3, .long 5]
def aboutOver (below : List Frame) : State where
  vm := { classes := classes, interned := interned.toArray }
  heap := heap
  slotsUsed := slotsUsed
  threads := #[{ frames := .invoking theMethod args0 :: below }]
def below0 : List Frame := [.native { method := ⟨0, 0⟩, args := #[] }]
def about1 : State := aboutOver below0
def p0 : Program := .bare "" "" ""
def e0 : Env := launch0.env 0 0 0
theorem w_frames : about1.frames = Frame.invoking theMethod args0 :: below0 := rfl
set_option maxRecDepth 65536 in
theorem w_args : argsFit about1.vm theMethod args0 = true := by decide +kernel
set_option maxRecDepth 65536 in
theorem w_heap : heapFits about1 = true := by decide +kernel
set_option maxRecDepth 65536 in
theorem w_runnable : about1.curStatus? = some .runnable := by decide +kernel
set_option maxRecDepth 65536 in
theorem w_alone : about1.alone = true := by decide +kernel
set_option maxRecDepth 65536 in
theorem w_named : about1.methodNamed? x = some theMethod := by decide +kernel
set_option maxRecDepth 65536 in
theorem w_hears : about1.hears theMethod below0 = true := by decide +kernel
set_option maxRecDepth 65536 in
theorem w_ripe : about1.ripe theMethod args0 below0 = true := by decide +kernel
theorem w_running : about1.status = .running := rfl
set_option maxRecDepth 65536 in
theorem w_room : about1.hasRoom e0.platform room_1 = true :=
  launch0.hasRoom_least _ room_1 (by decide +kernel) (by decide +kernel) (by decide +kernel) (by decide +kernel) (by decide +kernel) (by decide +kernel)
theorem allAtoms_all (ts : List Jvm.Cond) (a : Array Jvm.Value) (st : Jvm.State) : (allAtoms ts).before a st = ts.all (fun c => c.before a st) := by
  induction ts with
  | nil => rfl
  | cons c t ih =>
    show (Jvm.Cond.and c (allAtoms t)).before a st = _
    rw [Jvm.Cond.before_and, ih, List.all_cons]
def words1 : List Jvm.Cond := Jvm.Cond.code x code maxLocals ret :: tables_1
/-- a 'code' word, met by the world's own term for the bytes: nothing is compared byte by byte -/
theorem code_word {y : MethodName} {bytes : ByteArray} {mx : Nat} {rt : Option FieldType} {a : Array Value} {s : State} {m : MethodId} {meth : Method} {c : Code} (h1 : s.methodNamed? y = some m) (h2 : s.vm.method? m = some meth) (h3 : meth.code = some c) (h4 : c.code = bytes)
    (h5 : (c.maxLocals == mx && c.exceptionTable.isEmpty && decide (c.maxStack ≤ mostOperands) && decide (meth.sig.returnType = rt) && !meth.locks && decide (parseMethodDescriptor y.desc = some meth.sig)) = true) : (Jvm.Cond.code y bytes mx rt).before a s = true := by
  simp only [Bool.and_eq_true, beq_iff_eq, Bool.not_eq_true', decide_eq_true_eq] at h5
  obtain ⟨⟨⟨⟨⟨g1, g2⟩, g3⟩, g4⟩, g5⟩, g6⟩ := h5
  simp [Cond.before, Cond.holds, Cond.value, h1, h2, h3, h4, g1, g2, g3, g4, g5, g6]
def isCode : Jvm.Cond → Bool
  | .code _ _ _ _ => true
  | _ => false
theorem all_split {L : List Jvm.Cond} {P : Jvm.Cond → Bool} (h1 : L.all (fun c => isCode c || P c) = true) (h2 : ∀ c ∈ L.filter isCode, P c = true) : L.all P = true := by
  refine List.all_eq_true.mpr fun c hc => ?_
  have h := List.all_eq_true.mp h1 c hc
  rcases Bool.eq_false_or_eq_true (isCode c) with hi | hi
  · exact h2 c (List.mem_filter.mpr ⟨hc, hi⟩)
  · simpa [hi] using h
set_option maxRecDepth 65536 in
theorem w_c0 : (Jvm.Cond.code x code maxLocals ret).before args0 about1 = true := code_word (m := ⟨1, 1⟩) (meth := k1m1) (c := k1c1) (by decide +kernel) rfl rfl rfl (by decide +kernel)
set_option maxRecDepth 65536 in
theorem w_c1 : (Jvm.Cond.code ({ cls := "java/lang/Math", name := "min", desc := "(JJ)J" } : Jvm.MethodName) jdk_29_method_70_code (4 : Nat) (Option.some Jvm.ClassFile.FieldType.long)).before args0 about1 = true := code_word (m := ⟨2, 2⟩) (meth := k2m2) (c := k2c2) (by decide +kernel) rfl rfl rfl (by decide +kernel)
set_option maxRecDepth 65536 in
theorem w_c2 : (Jvm.Cond.code ({ cls := "java/lang/Math", name := "max", desc := "(JJ)J" } : Jvm.MethodName) jdk_29_method_66_code (4 : Nat) (Option.some Jvm.ClassFile.FieldType.long)).before args0 about1 = true := code_word (m := ⟨2, 1⟩) (meth := k2m1) (c := k2c1) (by decide +kernel) rfl rfl rfl (by decide +kernel)
set_option maxRecDepth 65536 in
theorem w_c3 : (Jvm.Cond.code ({ cls := "com/example/cratewise/cratewise/server/ByteRange", name := "<init>", desc := "(JJ)V" } : Jvm.MethodName) prog_37_method_1_code (5 : Nat) (Option.none : Option Jvm.ClassFile.FieldType)).before args0 about1 = true := code_word (m := ⟨4, 0⟩) (meth := k4m0) (c := k4c0) (by decide +kernel) rfl rfl rfl (by decide +kernel)
set_option maxRecDepth 65536 in
theorem w_c4 : (Jvm.Cond.code ({ cls := "java/lang/Record", name := "<init>", desc := "()V" } : Jvm.MethodName) jdk_30_method_1_code (1 : Nat) (Option.none : Option Jvm.ClassFile.FieldType)).before args0 about1 = true := code_word (m := ⟨3, 0⟩) (meth := k3m0) (c := k3c0) (by decide +kernel) rfl rfl rfl (by decide +kernel)
set_option maxRecDepth 65536 in
theorem w_c5 : (Jvm.Cond.code ({ cls := "java/lang/Object", name := "<init>", desc := "()V" } : Jvm.MethodName) object_method_1_code (1 : Nat) (Option.none : Option Jvm.ClassFile.FieldType)).before args0 about1 = true := code_word (m := ⟨0, 0⟩) (meth := k0m0) (c := k0c0) (by decide +kernel) rfl rfl rfl (by decide +kernel)
set_option maxRecDepth 65536 in
theorem w_c6 : (Jvm.Cond.code ({ cls := "com/example/cratewise/cratewise/server/ByteRange", name := "length", desc := "()J" } : Jvm.MethodName) prog_37_method_5_code (1 : Nat) (Option.some Jvm.ClassFile.FieldType.long)).before args0 about1 = true := code_word (m := ⟨4, 2⟩) (meth := k4m2) (c := k4c2) (by decide +kernel) rfl rfl rfl (by decide +kernel)
set_option maxRecDepth 65536 in
theorem w_c7 : (Jvm.Cond.code ({ cls := "com/example/cratewise/cratewise/server/ByteRange", name := "whole", desc := "(J)Lcom/example/cratewise/cratewise/server/ByteRange;" } : Jvm.MethodName) prog_37_method_2_code (2 : Nat) (Option.some (Jvm.ClassFile.FieldType.object "com/example/cratewise/cratewise/server/ByteRange"))).before args0 about1 = true := code_word (m := ⟨4, 1⟩) (meth := k4m1) (c := k4c1) (by decide +kernel) rfl rfl rfl (by decide +kernel)
def codes1 : List Jvm.Cond := [Jvm.Cond.code x code maxLocals ret, Jvm.Cond.code ({ cls := "java/lang/Math", name := "min", desc := "(JJ)J" } : Jvm.MethodName) jdk_29_method_70_code (4 : Nat) (Option.some Jvm.ClassFile.FieldType.long), Jvm.Cond.code ({ cls := "java/lang/Math", name := "max", desc := "(JJ)J" } : Jvm.MethodName) jdk_29_method_66_code (4 : Nat) (Option.some Jvm.ClassFile.FieldType.long), Jvm.Cond.code ({ cls := "com/example/cratewise/cratewise/server/ByteRange", name := "<init>", desc := "(JJ)V" } : Jvm.MethodName) prog_37_method_1_code (5 : Nat) (Option.none : Option Jvm.ClassFile.FieldType), Jvm.Cond.code ({ cls := "java/lang/Record", name := "<init>", desc := "()V" } : Jvm.MethodName) jdk_30_method_1_code (1 : Nat) (Option.none : Option Jvm.ClassFile.FieldType), Jvm.Cond.code ({ cls := "java/lang/Object", name := "<init>", desc := "()V" } : Jvm.MethodName) object_method_1_code (1 : Nat) (Option.none : Option Jvm.ClassFile.FieldType), Jvm.Cond.code ({ cls := "com/example/cratewise/cratewise/server/ByteRange", name := "length", desc := "()J" } : Jvm.MethodName) prog_37_method_5_code (1 : Nat) (Option.some Jvm.ClassFile.FieldType.long), Jvm.Cond.code ({ cls := "com/example/cratewise/cratewise/server/ByteRange", name := "whole", desc := "(J)Lcom/example/cratewise/cratewise/server/ByteRange;" } : Jvm.MethodName) prog_37_method_2_code (2 : Nat) (Option.some (Jvm.ClassFile.FieldType.object "com/example/cratewise/cratewise/server/ByteRange"))]
set_option maxRecDepth 65536 in
theorem codes_eq : words1.filter isCode = codes1 := rfl
theorem w_codes : ∀ c ∈ words1.filter isCode, c.before args0 about1 = true := by
  rw [codes_eq]
  intro c hc
  simp only [codes1, List.mem_cons, List.not_mem_nil, or_false] at hc
  rcases hc with rfl | rfl | rfl | rfl | rfl | rfl | rfl | rfl
  · exact w_c0
  · exact w_c1
  · exact w_c2
  · exact w_c3
  · exact w_c4
  · exact w_c5
  · exact w_c6
  · exact w_c7
set_option maxRecDepth 65536 in
theorem w_t1 : (words1.take 24).all (fun c => isCode c || c.before args0 about1) = true := by decide +kernel
set_option maxRecDepth 65536 in
theorem w_t2 : (words1.drop 24).all (fun c => isCode c || c.before args0 about1) = true := by decide +kernel
theorem w_tables : (allAtoms (Jvm.Cond.code x code maxLocals ret :: tables_1)).before args0 about1 = true := by
  rw [allAtoms_all]
  show words1.all (fun c => c.before args0 about1) = true
  refine all_split ?_ w_codes
  rw [← List.take_append_drop 24 words1, List.all_append, w_t1, w_t2]
  rfl
set_option maxRecDepth 65536 in
theorem w_case : (Jvm.Cond.and given_1 narrow_1).before args0 about1 = true := by decide +kernel
theorem w_applies : (headSpec (Jvm.Cond.code x code maxLocals ret :: tables_1) room_1).applies x e0.platform about1 = true :=
  (Spec.applies_iff w_frames).mpr ⟨w_running, w_runnable, w_alone, w_named, w_hears, w_ripe, w_room, w_tables⟩
theorem atStart : AtStart classFile x code maxLocals ret World_1 tables_1 room_1 Calls_1 rest_1 Pre_1 launch0 p0 e0 about1 theMethod args0 below0 :=
  ⟨lists_1, trivial, launch0.admits_env _ _ _, launch0.least_env, fairChoices_fair.cas, fairChoices_fair.clock, w_frames, w_args, w_heap, w_applies, trivial, trivial, w_case⟩
end start1
theorem witness_1 : WitnessClaimed_1 := ⟨start1.p0, start1.e0, start1.about1, start1.theMethod, start1.args0, start1.below0, start1.atStart⟩
end Jvm.Pilot.@@N@@
