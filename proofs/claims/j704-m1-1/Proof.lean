import JvmDerived
import JvmDerived.Pilot.@@N@@Statement
import JvmDerived.Pilot.@@N@@Code
set_option linter.unusedVariables false
set_option linter.unusedSimpArgs false
namespace Jvm.RoadKit
open Sem ClassFile Op Lib Jvm.Stand Jvm.Free Jvm.LawKit
section New
variable {p : Program} {l : Launch} {e : Env} {R : Room} {s : State} {m : MethodId} {args : Array Value} {below : List Frame} {meth : Method} {c : Code} {T : State} {locs : List Loc} {cells slots : Nat}
theorem retI (X : Stand p l e R s m args below meth c T locs cells slots) (hx : p.tables.exec = Jvm.exec) {pc : Nat} {Ls : Array Slot} {z : Int32} {rest : List Value} (hret : meth.sig.returnType = some .int) (hd : decode c.code pc = .ok (.ireturn, 1)) {fs : List Frame}
    (hl : ∀ (f : JFrame) (acts : List Action), f.method = m → f.locked = none → f.entered = [] → (doReturn e (T.setTop f) acts (some (.int z))).1 = T.setFrames fs) : Steps p.tables e below (T.setTop (mkF m pc Ls (.int z :: rest))) (T.setFrames fs) := by
  have hm' : T.vm.method? m = some meth := X.method'
  have hn : narrow .int (.int z) = .int z := rfl
  show Steps p.tables e below (T.setTop { method := m, pc := pc, locals := Ls, stack := _ :: rest, locked := none }) _
  jvm_step X.here [X.here.top, hx, hd, hm', hret, hn]
  first | (intro acts; rw [hl _ acts rfl rfl rfl]) | rw [hl _ _ rfl rfl rfl]
  exact Steps.refl _
end New
end Jvm.RoadKit
namespace Jvm.Pilot.@@N@@
open Jvm Jvm.ClassFile Sem Op Lib Jvm.Free Jvm.Stand Jvm.LawKit Jvm.RoadKit Bundle Jvm.Pilot.@@N@@.Jvm.D
theorem d2_0 : decode jdk_30_method_1_code 0 = .ok (.aload_n 0, 1) := by decide +kernel
theorem d2_1 : decode jdk_30_method_1_code 1 = .ok (.invokespecial 1, 3) := by decide +kernel
theorem d2_4 : decode jdk_30_method_1_code 4 = .ok (.return_, 1) := by decide +kernel
theorem pn_2 : plainName "java/lang/Record" = true := by first | (simp [plainName, overriddenIn]; done) | decide +kernel
theorem ef_2 (m : MethodId) (x0 : Addr) : entryFrame m #[(.ref x0)] 1 = mkF m 0 #[.val (.ref x0)] [] := by first | (simp [entryFrame, mkF, argsToLocals, Value.category]; done) | rfl
def Q2 (Z : State) (o0 : Addr) (h0 : Heap) (n0 : Nat) (v : Option Value) (h : Heap) (L : List Loc) : Prop := v = none ∧ Fr n0 L ∧ h = h0
set_option maxRecDepth 65536 in
set_option maxHeartbeats 40000000 in
theorem rm2 (l : Launch) (Z : State) (a0 : Array Value) (hw : ∀ d ∈ tables_1, d.before a0 Z = true) (ws : List Jvm.Cond) (o0 : Addr) (h0 : Heap) (n0 : Nat) (Z0 : n0 ≤ h0.size) :
    MetFree l (⟨"java/lang/Record", "<init>", "()V"⟩ : MethodName) (head1 (Jvm.Cond.code (⟨"java/lang/Record", "<init>", "()V"⟩ : MethodName) jdk_30_method_1_code 1 none :: ws) ({ frames := 1, cells := 0, slots := 0, locals := 12 } : Room)) (fun a U => a = #[(.ref o0)] ∧ Z.Warmed39 U.vm ∧ U.heap = h0) (fun _ _ _ _ _ => True) (fun _ U o U' => ∃ v L, o = .returned v ∧ Q2 Z o0 h0 n0 v U'.heap L ∧ FrameEnd U o U' L ({ frames := 1, cells := 0, slots := 0, locals := 12 } : Room).cells ({ frames := 1, cells := 0, slots := 0, locals := 12 } : Room).slots) := by
  refine MetFree.of_bodySF (plainFor_of_name pn_2) hisR ?_
  intro p e s m args below meth c s₁ Bd hml0 hP hK
  obtain ⟨rfl, hZ, hh⟩ := hP
  have hx := Bd.exec
  have hby := Bd.bytes
  have hml : c.maxLocals = 1 := hml0
  have hown : s.vm.findClass "java/lang/Record" = some m.cls := findClass_of_methodNamed Bd.named
  have hnm := (name_of_methodNamed Bd.named Bd.method).1
  have X0 : Stand p l e ({ frames := 1, cells := 0, slots := 0, locals := 12 } : Room) s m #[(.ref o0)] below meth c s₁ [] 0 0 := Stand.of_body Bd
  have e0 : s₁.heap = h0 := by rw [← hh, Bd.state]; rfl
  have N0 := Fr.nil n0
  have pre0 : ∀ t, Steps p.tables e below (s₁.setTop (mkF m 0 #[.val (.ref o0)] [])) t → Steps p.tables e below (s₁.setTop (entryFrame m #[(.ref o0)] 1)) t := fun t k => castTop (ef_2 m o0) k
  obtain ⟨T1, X1, e1, st1⟩ := initO X0 hx hZ hown (hw _ (List.mem_of_getElem? (i := 11) rfl)) (hw _ (List.mem_of_getElem? (i := 12) rfl)) (hw _ (List.mem_of_getElem? (i := 13) rfl)) e0 (g := (mkF m 1 #[.val (.ref o0)] [(.ref o0)])) rfl (by rw [hml]; rfl) rfl (hb hby d2_1) (by decide) (W := 0) (by show 2 * 0 + _ ≤ _; exact Nat.le_of_eq rfl) (by decide)
  obtain ⟨fs, hr, hrun, hended, hW, hsame⟩ := X1.leave (v := none) (fun _ => rfl)
  refine ⟨_, _, pre0 _ ?_, hrun, hended, _, _, rfl, ?_, ⟨_, rfl⟩, hW, hsame.mono (by decide) (by decide)⟩
  · show Steps p.tables e below (s₁.setTop (mkF m 0 #[.val (.ref o0)] [])) _
    refine XS.aloadN X0.here hx rfl (hb hby d2_0) rfl rfl ?_
    show Steps p.tables e below (s₁.setTop (mkF m 1 #[.val (.ref o0)] [(.ref o0)])) _
    refine st1 _ ?_
    show Steps p.tables e below (T1.setTop (mkF m 4 #[.val (.ref o0)] [])) _
    exact X1.returnOut hx Bd.returns (hb hby d2_4) hr
  · show Q2 Z o0 h0 n0 _ T1.heap _
    rw [e1]
    exact ⟨rfl, N0, rfl⟩
theorem d1_0 : decode prog_37_method_1_code 0 = .ok (.aload_n 0, 1) := by decide +kernel
theorem d1_1 : decode prog_37_method_1_code 1 = .ok (.invokespecial 1, 3) := by decide +kernel
theorem d1_4 : decode prog_37_method_1_code 4 = .ok (.aload_n 0, 1) := by decide +kernel
theorem d1_5 : decode prog_37_method_1_code 5 = .ok (.lload_n 1, 1) := by decide +kernel
theorem d1_6 : decode prog_37_method_1_code 6 = .ok (.putfield 7, 3) := by decide +kernel
theorem d1_9 : decode prog_37_method_1_code 9 = .ok (.aload_n 0, 1) := by decide +kernel
theorem d1_10 : decode prog_37_method_1_code 10 = .ok (.lload_n 3, 1) := by decide +kernel
theorem d1_11 : decode prog_37_method_1_code 11 = .ok (.putfield 13, 3) := by decide +kernel
theorem d1_14 : decode prog_37_method_1_code 14 = .ok (.return_, 1) := by decide +kernel
theorem pn_1 : plainName "com/example/cratewise/cratewise/server/ByteRange" = true := by first | (simp [plainName, overriddenIn]; done) | decide +kernel
theorem pd_1_0 : parseMethodDescriptor "()V" = some ⟨[], none⟩ := by decide +kernel
theorem ef_1 (m : MethodId) (x0 : Addr) (x1 : Int64) (x2 : Int64) : entryFrame m #[(.ref x0), (.long x1), (.long x2)] 5 = mkF m 0 #[.val (.ref x0), .val (.long x1), .second, .val (.long x2), .second] [] := by first | (simp [entryFrame, mkF, argsToLocals, Value.category]; done) | rfl
def Q1 (Z : State) (o0 : Addr) (q1 : Int64) (q2 : Int64) (w2 : Int64) (w6 : Int64) (h0 : Heap) (n0 : Nat) (v : Option Value) (h : Heap) (L : List Loc) : Prop := v = none ∧ Fr n0 L ∧ Keep h0 h [o0] ∧ Fld Z h o0 "com/example/cratewise/cratewise/server/ByteRange" "first" "J" (.long q1) ∧ Fld Z h o0 "com/example/cratewise/cratewise/server/ByteRange" "last" "J" (.long q2)
set_option maxRecDepth 65536 in
set_option maxHeartbeats 40000000 in
theorem rm1 (l : Launch) (Z : State) (a0 : Array Value) (hw : ∀ d ∈ tables_1, d.before a0 Z = true) (ws : List Jvm.Cond) (o0 : Addr) (q1 : Int64) (q2 : Int64) (w2 : Int64) (w6 : Int64) (h0 : Heap) (n0 : Nat) (Z0 : n0 ≤ h0.size) (E_o0 : Exa Z h0 o0 "com/example/cratewise/cratewise/server/ByteRange") (F_first_o0 : Fld Z h0 o0 "com/example/cratewise/cratewise/server/ByteRange" "first" "J" (.long w2)) (g_o0 : n0 ≤ o0) (F_last_o0 : Fld Z h0 o0 "com/example/cratewise/cratewise/server/ByteRange" "last" "J" (.long w6)) :
    MetFree l (⟨"com/example/cratewise/cratewise/server/ByteRange", "<init>", "(JJ)V"⟩ : MethodName) (head1 (Jvm.Cond.code (⟨"com/example/cratewise/cratewise/server/ByteRange", "<init>", "(JJ)V"⟩ : MethodName) prog_37_method_1_code 5 none :: ws) ({ frames := 2, cells := 0, slots := 0, locals := 24 } : Room)) (fun a U => a = #[(.ref o0), (.long q1), (.long q2)] ∧ Z.Warmed39 U.vm ∧ U.heap = h0) (fun _ _ _ _ _ => True) (fun _ U o U' => ∃ v L, o = .returned v ∧ Q1 Z o0 q1 q2 w2 w6 h0 n0 v U'.heap L ∧ FrameEnd U o U' L ({ frames := 2, cells := 0, slots := 0, locals := 24 } : Room).cells ({ frames := 2, cells := 0, slots := 0, locals := 24 } : Room).slots) := by
  refine MetFree.of_bodySF (plainFor_of_name pn_1) hisR ?_
  intro p e s m args below meth c s₁ Bd hml0 hP hK
  obtain ⟨rfl, hZ, hh⟩ := hP
  have hx := Bd.exec
  have hby := Bd.bytes
  have hml : c.maxLocals = 5 := hml0
  have hown : s.vm.findClass "com/example/cratewise/cratewise/server/ByteRange" = some m.cls := findClass_of_methodNamed Bd.named
  have hnm := (name_of_methodNamed Bd.named Bd.method).1
  have X0 : Stand p l e ({ frames := 2, cells := 0, slots := 0, locals := 24 } : Room) s m #[(.ref o0), (.long q1), (.long q2)] below meth c s₁ [] 0 0 := Stand.of_body Bd
  have e0 : s₁.heap = h0 := by rw [← hh, Bd.state]; rfl
  have N0 := Fr.nil n0
  have pre0 : ∀ t, Steps p.tables e below (s₁.setTop (mkF m 0 #[.val (.ref o0), .val (.long q1), .second, .val (.long q2), .second] [])) t → Steps p.tables e below (s₁.setTop (entryFrame m #[(.ref o0), (.long q1), (.long q2)] 5)) t := fun t k => castTop (ef_1 m o0 q1 q2) k
  obtain ⟨_, _, ⟨T1, L1, k1, n1⟩, -, X1, ⟨Lc1, hQ1, l1, y1, z1⟩, st1⟩ := X0.specialBack hx (y := (⟨"java/lang/Record", "<init>", "()V"⟩ : MethodName)) rfl hown (mvT hZ (hw _ (List.mem_of_getElem? (i := 6) rfl))) (mvT hZ (hw _ (List.mem_of_getElem? (i := 7) rfl))) (mvT hZ (hw _ (List.mem_of_getElem? (i := 10) rfl))) (by decide) (backOf (W := 0) (rm2 l Z a0 hw [] o0 h0 n0 Z0 ) hZ (hw _ (List.mem_of_getElem? (i := 10) rfl)) (hw _ (List.mem_of_getElem? (i := 9) rfl)) (by decide) (by decide)) (g := (mkF m 1 #[.val (.ref o0), .val (.long q1), .second, .val (.long q2), .second] [(.ref o0)])) rfl (by rw [hml]; rfl) (Steps.refl _) (a := o0) (argsL := []) (rest := []) (lenOf pd_1_0 rfl) rfl (by show 2 * 0 + _ ≤ _; exact Nat.le_of_eq rfl) (hb hby d1_1) (fun _ _ => ⟨rfl, e0, (by decide : 0 + 0 ≤ _), (by decide : 0 + 0 ≤ _)⟩)
  dsimp only [Pt.U, Pt.locs, Pt.cells, Pt.slots] at X1 l1 y1 z1 st1 hQ1
  subst l1 y1 z1
  obtain ⟨rfl, N1q, e1q⟩ := hQ1
  have N1 := Fr.app N0 N1q
  obtain ⟨T3, h3, X3, e3, W3, st3⟩ := putF X1 hx hZ hown (host := "") (Or.inl (hw _ (List.mem_of_getElem? (i := 14) rfl))) Via.refl e1q F_first_o0 E_o0 (Or.inr ⟨(hw _ (List.mem_of_getElem? (i := 15) rfl)), rfl, hnm⟩) (hw _ (List.mem_of_getElem? (i := 1) rfl)) (ty := .long) (by decide) rfl rfl (g := (mkF m 6 #[.val (.ref o0), .val (.long q1), .second, .val (.long q2), .second] [(.long q1), (.ref o0)])) rfl rfl (hb hby d1_6)
  have Fw3 := F_first_o0.same W3
  have K4 : Keep h0 h3 [o0] := (Keep.refl h0 [o0]).wr W3 (Or.inl (List.mem_of_getElem? (i := 0) rfl))
  have Z5 : n0 ≤ h3.size := Nat.le_trans Z0 K4.1
  have N3 := Fr.snoc X3 N1 g_o0
  have c7 := (F_last_o0.other W3 (Or.inr (slot_ne (Or.inr (hw _ (List.mem_of_getElem? (i := 17) rfl))) (Or.inr (hw _ (List.mem_of_getElem? (i := 15) rfl))) (by decide) (t := .long) (t' := .long) (by decide) (by decide))))
  obtain ⟨T8, h8, X8, e8, W8, st8⟩ := putF X3 hx hZ hown (host := "") (Or.inl (hw _ (List.mem_of_getElem? (i := 16) rfl))) Via.refl e3 c7 (E_o0.wr W3) (Or.inr ⟨(hw _ (List.mem_of_getElem? (i := 17) rfl)), rfl, hnm⟩) (hw _ (List.mem_of_getElem? (i := 1) rfl)) (ty := .long) (by decide) rfl rfl (g := (mkF m 11 #[.val (.ref o0), .val (.long q1), .second, .val (.long q2), .second] [(.long q2), (.ref o0)])) rfl rfl (hb hby d1_11)
  have Fw8 := c7.same W8
  have K9 : Keep h0 h8 [o0] := K4.wr W8 (Or.inl (List.mem_of_getElem? (i := 0) rfl))
  have Z10 : n0 ≤ h8.size := Nat.le_trans Z0 K9.1
  have N8 := Fr.snoc X8 N3 g_o0
  obtain ⟨fs, hr, hrun, hended, hW, hsame⟩ := X8.leave (v := none) (fun _ => rfl)
  have c11 := (Fw3.other W8 (Or.inr (slot_ne (Or.inr (hw _ (List.mem_of_getElem? (i := 15) rfl))) (Or.inr (hw _ (List.mem_of_getElem? (i := 17) rfl))) (by decide) (t := .long) (t' := .long) (by decide) (by decide))))
  refine ⟨_, _, pre0 _ ?_, hrun, hended, _, _, rfl, ?_, ⟨_, rfl⟩, hW, hsame.mono (by decide) (by decide)⟩
  · show Steps p.tables e below (s₁.setTop (mkF m 0 #[.val (.ref o0), .val (.long q1), .second, .val (.long q2), .second] [])) _
    refine XS.aloadN X0.here hx rfl (hb hby d1_0) rfl rfl ?_
    show Steps p.tables e below (s₁.setTop (mkF m 1 #[.val (.ref o0), .val (.long q1), .second, .val (.long q2), .second] [(.ref o0)])) _
    refine st1.trans ?_
    show Steps p.tables e below (T1.setTop (mkF m 4 #[.val (.ref o0), .val (.long q1), .second, .val (.long q2), .second] [])) _
    refine XS.aloadN X1.here hx rfl (hb hby d1_4) rfl rfl ?_
    show Steps p.tables e below (T1.setTop (mkF m 5 #[.val (.ref o0), .val (.long q1), .second, .val (.long q2), .second] [(.ref o0)])) _
    refine XS.lloadN X1.here hx rfl (hb hby d1_5) rfl ?_
    show Steps p.tables e below (T1.setTop (mkF m 6 #[.val (.ref o0), .val (.long q1), .second, .val (.long q2), .second] [(.long q1), (.ref o0)])) _
    refine st3 _ ?_
    show Steps p.tables e below (T3.setTop (mkF m 9 #[.val (.ref o0), .val (.long q1), .second, .val (.long q2), .second] [])) _
    refine XS.aloadN X3.here hx rfl (hb hby d1_9) rfl rfl ?_
    show Steps p.tables e below (T3.setTop (mkF m 10 #[.val (.ref o0), .val (.long q1), .second, .val (.long q2), .second] [(.ref o0)])) _
    refine XS.lloadN X3.here hx rfl (hb hby d1_10) rfl ?_
    show Steps p.tables e below (T3.setTop (mkF m 11 #[.val (.ref o0), .val (.long q1), .second, .val (.long q2), .second] [(.long q2), (.ref o0)])) _
    refine st8 _ ?_
    show Steps p.tables e below (T8.setTop (mkF m 14 #[.val (.ref o0), .val (.long q1), .second, .val (.long q2), .second] [])) _
    exact X8.returnOut hx Bd.returns (hb hby d1_14) hr
  · show Q1 Z o0 q1 q2 w2 w6 h0 n0 _ T8.heap _
    rw [e8]
    exact ⟨rfl, N8, K9, c11, Fw8⟩
theorem d4_0 : decode prog_37_method_4_code 0 = .ok (.aload_n 0, 1) := by decide +kernel
theorem d4_1 : decode prog_37_method_4_code 1 = .ok (.getfield 7, 3) := by decide +kernel
theorem d4_4 : decode prog_37_method_4_code 4 = .ok (.aload_n 0, 1) := by decide +kernel
theorem d4_5 : decode prog_37_method_4_code 5 = .ok (.getfield 13, 3) := by decide +kernel
theorem d4_8 : decode prog_37_method_4_code 8 = .ok (.lcmp, 1) := by decide +kernel
theorem d4_9 : decode prog_37_method_4_code 9 = .ok (.ifCond .le 7, 3) := by decide +kernel
theorem d4_12 : decode prog_37_method_4_code 12 = .ok (.iconst 1, 1) := by decide +kernel
theorem d4_13 : decode prog_37_method_4_code 13 = .ok (.goto 4, 3) := by decide +kernel
theorem d4_16 : decode prog_37_method_4_code 16 = .ok (.iconst 0, 1) := by decide +kernel
theorem d4_17 : decode prog_37_method_4_code 17 = .ok (.ireturn, 1) := by decide +kernel
theorem pn_4 : plainName "com/example/cratewise/cratewise/server/ByteRange" = true := by first | (simp [plainName, overriddenIn]; done) | decide +kernel
theorem ef_4 (m : MethodId) (x0 : Addr) : entryFrame m #[(.ref x0)] 1 = mkF m 0 #[.val (.ref x0)] [] := by first | (simp [entryFrame, mkF, argsToLocals, Value.category]; done) | rfl
def f4 (w1 : Int64) (w3 : Int64) : Int32 :=
  if (0 : Int32) < (lcmpW w1 w3) then ((1 : Int32)) else
  ((0 : Int32))
def Q4 (Z : State) (o0 : Addr) (w1 : Int64) (w3 : Int64) (h0 : Heap) (n0 : Nat) (v : Option Value) (h : Heap) (L : List Loc) : Prop := v = some (.int (f4 w1 w3)) ∧ Fr n0 L ∧ h = h0
set_option maxRecDepth 65536 in
set_option maxHeartbeats 40000000 in
theorem rm4 (l : Launch) (Z : State) (a0 : Array Value) (hw : ∀ d ∈ tables_1, d.before a0 Z = true) (ws : List Jvm.Cond) (o0 : Addr) (w1 : Int64) (w3 : Int64) (h0 : Heap) (n0 : Nat) (Z0 : n0 ≤ h0.size) (F_first_o0 : Fld Z h0 o0 "com/example/cratewise/cratewise/server/ByteRange" "first" "J" (.long w1)) (F_last_o0 : Fld Z h0 o0 "com/example/cratewise/cratewise/server/ByteRange" "last" "J" (.long w3)) :
    MetFree l (⟨"com/example/cratewise/cratewise/server/ByteRange", "isEmpty", "()Z"⟩ : MethodName) (head1 (Jvm.Cond.code (⟨"com/example/cratewise/cratewise/server/ByteRange", "isEmpty", "()Z"⟩ : MethodName) prog_37_method_4_code 1 (some .boolean) :: ws) ({ frames := 0, cells := 0, slots := 0, locals := 0 } : Room)) (fun a U => a = #[(.ref o0)] ∧ Z.Warmed39 U.vm ∧ U.heap = h0) (fun _ _ _ _ _ => True) (fun _ U o U' => ∃ v L, o = .returned v ∧ Q4 Z o0 w1 w3 h0 n0 v U'.heap L ∧ FrameEnd U o U' L ({ frames := 0, cells := 0, slots := 0, locals := 0 } : Room).cells ({ frames := 0, cells := 0, slots := 0, locals := 0 } : Room).slots) := by
  refine MetFree.of_bodySF (plainFor_of_name pn_4) hisR ?_
  intro p e s m args below meth c s₁ Bd hml0 hP hK
  obtain ⟨rfl, hZ, hh⟩ := hP
  have hx := Bd.exec
  have hby := Bd.bytes
  have hml : c.maxLocals = 1 := hml0
  have hown : s.vm.findClass "com/example/cratewise/cratewise/server/ByteRange" = some m.cls := findClass_of_methodNamed Bd.named
  have hnm := (name_of_methodNamed Bd.named Bd.method).1
  have X0 : Stand p l e ({ frames := 0, cells := 0, slots := 0, locals := 0 } : Room) s m #[(.ref o0)] below meth c s₁ [] 0 0 := Stand.of_body Bd
  have e0 : s₁.heap = h0 := by rw [← hh, Bd.state]; rfl
  have N0 := Fr.nil n0
  have pre0 : ∀ t, Steps p.tables e below (s₁.setTop (mkF m 0 #[.val (.ref o0)] [])) t → Steps p.tables e below (s₁.setTop (entryFrame m #[(.ref o0)] 1)) t := fun t k => castTop (ef_4 m o0) k
  obtain ⟨T2, X2, e2, st2⟩ := getF X0 hx hZ hown (host := "") (Or.inl (hw _ (List.mem_of_getElem? (i := 14) rfl))) Via.refl e0 F_first_o0 (g := (mkF m 1 #[.val (.ref o0)] [(.ref o0)])) rfl rfl (hb hby d4_1)
  obtain ⟨T4, X4, e4, st4⟩ := getF X2 hx hZ hown (host := "") (Or.inl (hw _ (List.mem_of_getElem? (i := 16) rfl))) Via.refl e2 F_last_o0 (g := (mkF m 5 #[.val (.ref o0)] [(.ref o0), (.long w1)])) rfl rfl (hb hby d4_5)
  have pre5 : ∀ t, Steps p.tables e below (T4.setTop (mkF m 9 #[.val (.ref o0)] [(.int (lcmpW w1 w3))])) t → Steps p.tables e below (s₁.setTop (entryFrame m #[(.ref o0)] 1)) t := fun t kt => pre0 t (by
      show Steps p.tables e below (s₁.setTop (mkF m 0 #[.val (.ref o0)] [])) _
      refine XS.aloadN X0.here hx rfl (hb hby d4_0) rfl rfl ?_
      show Steps p.tables e below (s₁.setTop (mkF m 1 #[.val (.ref o0)] [(.ref o0)])) _
      refine st2 _ ?_
      show Steps p.tables e below (T2.setTop (mkF m 4 #[.val (.ref o0)] [(.long w1)])) _
      refine XS.aloadN X2.here hx rfl (hb hby d4_4) rfl rfl ?_
      show Steps p.tables e below (T2.setTop (mkF m 5 #[.val (.ref o0)] [(.ref o0), (.long w1)])) _
      refine st4 _ ?_
      show Steps p.tables e below (T4.setTop (mkF m 8 #[.val (.ref o0)] [(.long w3), (.long w1)])) _
      refine XS.lcmp X4.here hx rfl (hb hby d4_8) rfl ?_
      exact kt)
  by_cases hc9_6 : (0 : Int32) < (lcmpW w1 w3)
  · obtain ⟨fs, hr, hrun, hended, hW, hsame⟩ := X4.leave (v := some (.int (1 : Int32))) (fun h => by rw [Bd.returns] at h; cases h)
    have hv7 : (f4 w1 w3) = (1 : Int32) := by rw [f4, if_pos hc9_6]
    refine ⟨_, _, pre5 _ ?_, hrun, hended, _, _, rfl, ?_, ⟨_, rfl⟩, hW, hsame.mono (by decide) (by decide)⟩
    · show Steps p.tables e below (T4.setTop (mkF m 9 #[.val (.ref o0)] [(.int (lcmpW w1 w3))])) _
      refine XS.ifNo X4.here hx rfl (hb hby d4_9) rfl ((if0 _ _).trans (tlt hc9_6).2.2.2) ?_
      show Steps p.tables e below (T4.setTop (mkF m 12 #[.val (.ref o0)] [])) _
      refine XS.iconst X4.here hx rfl (hb hby d4_12) ?_
      show Steps p.tables e below (T4.setTop (mkF m 13 #[.val (.ref o0)] [(.int (1 : Int32))])) _
      refine XS.goto X4.here hx rfl (pc0 := 13) (pc' := 17) rfl (hb hby d4_13) (by decide) (by decide) ?_
      show Steps p.tables e below (T4.setTop (mkF m 17 #[.val (.ref o0)] [(.int (1 : Int32))])) _
      exact retN X4 hx (t := .boolean) Bd.returns (by simp) (hb hby d4_17) hr
    · show Q4 Z o0 w1 w3 h0 n0 _ T4.heap _
      rw [e4]
      exact ⟨congrArg (fun q => some (Value.int q)) hv7.symm, N0, rfl⟩
  · obtain ⟨fs, hr, hrun, hended, hW, hsame⟩ := X4.leave (v := some (.int (0 : Int32))) (fun h => by rw [Bd.returns] at h; cases h)
    have hv8 : (f4 w1 w3) = (0 : Int32) := by rw [f4, if_neg hc9_6]
    refine ⟨_, _, pre5 _ ?_, hrun, hended, _, _, rfl, ?_, ⟨_, rfl⟩, hW, hsame.mono (by decide) (by decide)⟩
    · show Steps p.tables e below (T4.setTop (mkF m 9 #[.val (.ref o0)] [(.int (lcmpW w1 w3))])) _
      refine XS.ifYes X4.here hx rfl (pc0 := 9) (pc' := 16) rfl (hb hby d4_9) rfl ((if0 _ _).trans (flt hc9_6).2.2.2) (by decide) (by decide) ?_
      show Steps p.tables e below (T4.setTop (mkF m 16 #[.val (.ref o0)] [])) _
      refine XS.iconst X4.here hx rfl (hb hby d4_16) ?_
      show Steps p.tables e below (T4.setTop (mkF m 17 #[.val (.ref o0)] [(.int (0 : Int32))])) _
      exact retN X4 hx (t := .boolean) Bd.returns (by simp) (hb hby d4_17) hr
    · show Q4 Z o0 w1 w3 h0 n0 _ T4.heap _
      rw [e4]
      exact ⟨congrArg (fun q => some (Value.int q)) hv8.symm, N0, rfl⟩
theorem d5_0 : decode prog_37_method_2_code 0 = .ok (.new 8, 3) := by decide +kernel
theorem d5_3 : decode prog_37_method_2_code 3 = .ok (.dup, 1) := by decide +kernel
theorem d5_4 : decode prog_37_method_2_code 4 = .ok (.lconst 0, 1) := by decide +kernel
theorem d5_5 : decode prog_37_method_2_code 5 = .ok (.lload_n 0, 1) := by decide +kernel
theorem d5_6 : decode prog_37_method_2_code 6 = .ok (.lconst 1, 1) := by decide +kernel
theorem d5_7 : decode prog_37_method_2_code 7 = .ok (.lsub, 1) := by decide +kernel
theorem d5_8 : decode prog_37_method_2_code 8 = .ok (.invokespecial 16, 3) := by decide +kernel
theorem d5_11 : decode prog_37_method_2_code 11 = .ok (.areturn, 1) := by decide +kernel
theorem pn_5 : plainName "com/example/cratewise/cratewise/server/ByteRange" = true := by first | (simp [plainName, overriddenIn]; done) | decide +kernel
theorem pd_5_0 : parseMethodDescriptor "(JJ)V" = some ⟨[.long, .long], none⟩ := by decide +kernel
theorem ef_5 (m : MethodId) (x0 : Int64) : entryFrame m #[(.long x0)] 2 = mkF m 0 #[.val (.long x0), .second] [] := by first | (simp [entryFrame, mkF, argsToLocals, Value.category]; done) | rfl
def Q5 (Z : State) (q0 : Int64) (h0 : Heap) (n0 : Nat) (v : Option Value) (h : Heap) (L : List Loc) : Prop := ∃ r : Addr, v = some (.ref r) ∧ Fr n0 L ∧ Keep h0 h [] ∧ n0 ≤ r ∧ h0.size ≤ r ∧ Exa Z h r "com/example/cratewise/cratewise/server/ByteRange" ∧ Fld Z h r "com/example/cratewise/cratewise/server/ByteRange" "first" "J" (.long (0 : Int64)) ∧ Fld Z h r "com/example/cratewise/cratewise/server/ByteRange" "last" "J" (.long (q0 - (1 : Int64)))
set_option maxRecDepth 65536 in
set_option maxHeartbeats 40000000 in
theorem rm5 (l : Launch) (Z : State) (a0 : Array Value) (hw : ∀ d ∈ tables_1, d.before a0 Z = true) (ws : List Jvm.Cond) (q0 : Int64) (h0 : Heap) (n0 : Nat) (Z0 : n0 ≤ h0.size) :
    MetFree l (⟨"com/example/cratewise/cratewise/server/ByteRange", "whole", "(J)Lcom/example/cratewise/cratewise/server/ByteRange;"⟩ : MethodName) (head1 (Jvm.Cond.code (⟨"com/example/cratewise/cratewise/server/ByteRange", "whole", "(J)Lcom/example/cratewise/cratewise/server/ByteRange;"⟩ : MethodName) prog_37_method_2_code 2 (some (.object "com/example/cratewise/cratewise/server/ByteRange")) :: ws) ({ frames := 3, cells := 1, slots := 2, locals := 41 } : Room)) (fun a U => a = #[(.long q0)] ∧ Z.Warmed39 U.vm ∧ U.heap = h0) (fun _ _ _ _ _ => True) (fun _ U o U' => ∃ v L, o = .returned v ∧ Q5 Z q0 h0 n0 v U'.heap L ∧ FrameEnd U o U' L ({ frames := 3, cells := 1, slots := 2, locals := 41 } : Room).cells ({ frames := 3, cells := 1, slots := 2, locals := 41 } : Room).slots) := by
  refine MetFree.of_bodySF (plainFor_of_name pn_5) hisR ?_
  intro p e s m args below meth c s₁ Bd hml0 hP hK
  obtain ⟨rfl, hZ, hh⟩ := hP
  have hx := Bd.exec
  have hby := Bd.bytes
  have hml : c.maxLocals = 2 := hml0
  have hown : s.vm.findClass "com/example/cratewise/cratewise/server/ByteRange" = some m.cls := findClass_of_methodNamed Bd.named
  have hnm := (name_of_methodNamed Bd.named Bd.method).1
  have X0 : Stand p l e ({ frames := 3, cells := 1, slots := 2, locals := 41 } : Room) s m #[(.long q0)] below meth c s₁ [] 0 0 := Stand.of_body Bd
  have e0 : s₁.heap = h0 := by rw [← hh, Bd.state]; rfl
  have N0 := Fr.nil n0
  have pre0 : ∀ t, Steps p.tables e below (s₁.setTop (mkF m 0 #[.val (.long q0), .second] [])) t → Steps p.tables e below (s₁.setTop (entryFrame m #[(.long q0)] 2)) t := fun t k => castTop (ef_5 m q0) k
  obtain ⟨T1, h1, X1, e1, E1, A1, D1, -, st1⟩ := newO X0 hx hZ hown (hw _ (List.mem_of_getElem? (i := 28) rfl)) (hw _ (List.mem_of_getElem? (i := 1) rfl)) (hw _ (List.mem_of_getElem? (i := 2) rfl)) e0 (g := (mkF m 0 #[.val (.long q0), .second] [])) rfl (hb hby d5_0) (by decide) (by decide)
  obtain ⟨b1, g1⟩ : ∃ z, z = h0.size := ⟨_, rfl⟩
  rw [← g1] at A1 D1 st1
  have g_b1 : n0 ≤ b1 := Nat.le_trans Z0 (Nat.le_of_eq g1.symm)
  have sz_b1 : h0.size ≤ b1 := Nat.le_trans (Keep.refl h0 []).1 (Nat.le_of_eq g1.symm)
  have K2 : Keep h0 h1 [] := (Keep.refl h0 []).ext E1
  have Z3 : n0 ≤ h1.size := Nat.le_trans Z0 K2.1
  have E_b1 := A1
  have F_first_b1 : Fld Z h1 b1 "com/example/cratewise/cratewise/server/ByteRange" "first" "J" (.long (0 : Int64)) := D1 (Or.inr (hw _ (List.mem_of_getElem? (i := 15) rfl))) (ty := .long) (by decide)
  have F_last_b1 : Fld Z h1 b1 "com/example/cratewise/cratewise/server/ByteRange" "last" "J" (.long (0 : Int64)) := D1 (Or.inr (hw _ (List.mem_of_getElem? (i := 17) rfl))) (ty := .long) (by decide)
  obtain ⟨_, _, ⟨T4, L4, k4, n4⟩, -, X4, ⟨Lc4, hQ4, l4, y4, z4⟩, st4⟩ := X1.specialBack hx (y := (⟨"com/example/cratewise/cratewise/server/ByteRange", "<init>", "(JJ)V"⟩ : MethodName)) rfl hown (mvT hZ (hw _ (List.mem_of_getElem? (i := 29) rfl))) (mvT hZ (hw _ (List.mem_of_getElem? (i := 4) rfl))) (mvT hZ (hw _ (List.mem_of_getElem? (i := 5) rfl))) (by decide) (backOf (W := 1) (rm1 l Z a0 hw [] b1 (0 : Int64) (q0 - (1 : Int64)) (0 : Int64) (0 : Int64) h1 n0 Z3 E_b1 F_first_b1 g_b1 F_last_b1) hZ (hw _ (List.mem_of_getElem? (i := 5) rfl)) (hw _ (List.mem_of_getElem? (i := 2) rfl)) (by decide) (by decide)) (g := (mkF m 8 #[.val (.long q0), .second] [(.long (q0 - (1 : Int64))), (.long (0 : Int64)), (.ref b1), (.ref b1)])) rfl (by rw [hml]; rfl) (Steps.refl _) (a := b1) (argsL := [(.long (0 : Int64)), (.long (q0 - (1 : Int64)))]) (rest := [(.ref b1)]) (lenOf pd_5_0 rfl) rfl (by show 2 * 0 + _ ≤ _; exact Nat.le_of_eq rfl) (hb hby d5_8) (fun _ _ => ⟨rfl, e1, (by decide : 1 + 0 ≤ _), (by decide : 2 + 0 ≤ _)⟩)
  dsimp only [Pt.U, Pt.locs, Pt.cells, Pt.slots] at X4 l4 y4 z4 st4 hQ4
  subst l4 y4 z4
  obtain ⟨rfl, N4q, K4q, G4_0, G4_1⟩ := hQ4
  have N4 := Fr.app N0 N4q
  have K5 : Keep h0 T4.heap [] := K2.trans K4q (allS (Or.inr sz_b1) all0)
  have Z6 : n0 ≤ T4.heap.size := Nat.le_trans Z0 K5.1
  obtain ⟨fs, hr, hrun, hended, hW, hsame⟩ := X4.leave (v := some (.ref b1)) (fun h => by rw [Bd.returns] at h; cases h)
  refine ⟨_, _, pre0 _ ?_, hrun, hended, _, _, rfl, ?_, ⟨_, rfl⟩, hW, hsame.mono (by decide) (by decide)⟩
  · show Steps p.tables e below (s₁.setTop (mkF m 0 #[.val (.long q0), .second] [])) _
    refine st1 _ ?_
    show Steps p.tables e below (T1.setTop (mkF m 3 #[.val (.long q0), .second] [(.ref b1)])) _
    refine XS.dup X1.here hx rfl (hb hby d5_3) rfl rfl ?_
    show Steps p.tables e below (T1.setTop (mkF m 4 #[.val (.long q0), .second] [(.ref b1), (.ref b1)])) _
    refine XS.lconst X1.here hx rfl (hb hby d5_4) ?_
    show Steps p.tables e below (T1.setTop (mkF m 5 #[.val (.long q0), .second] [(.long (0 : Int64)), (.ref b1), (.ref b1)])) _
    refine XS.lloadN X1.here hx rfl (hb hby d5_5) rfl ?_
    show Steps p.tables e below (T1.setTop (mkF m 6 #[.val (.long q0), .second] [(.long q0), (.long (0 : Int64)), (.ref b1), (.ref b1)])) _
    refine XS.lconst X1.here hx rfl (hb hby d5_6) ?_
    show Steps p.tables e below (T1.setTop (mkF m 7 #[.val (.long q0), .second] [(.long (1 : Int64)), (.long q0), (.long (0 : Int64)), (.ref b1), (.ref b1)])) _
    refine XS.lsub X1.here hx rfl (hb hby d5_7) rfl ?_
    show Steps p.tables e below (T1.setTop (mkF m 8 #[.val (.long q0), .second] [(.long (q0 - (1 : Int64))), (.long (0 : Int64)), (.ref b1), (.ref b1)])) _
    refine st4.trans ?_
    show Steps p.tables e below (T4.setTop (mkF m 11 #[.val (.long q0), .second] [(.ref b1)])) _
    jvm_step X4.here [X4.here.top, hx, (hb hby d5_11), X4.method', Bd.returns, Value.isRef, FieldType.isReference]
    first | (intro acts; rw [hr _ acts rfl rfl rfl]) | rw [hr _ _ rfl rfl rfl]
    exact Steps.refl _
  · show Q5 Z q0 h0 n0 _ T4.heap _
    exact ⟨b1, rfl, N4, K5, g_b1, sz_b1, (E_b1.keep K4q), G4_0, G4_1⟩
theorem pn_0 : plainName "com/example/cratewise/cratewise/server/ByteRangeIsEmptyPinLaw" = true := by first | (simp [plainName, overriddenIn]; done) | decide +kernel
theorem pd_0_0 : parseMethodDescriptor "(JJ)V" = some ⟨[.long, .long], none⟩ := by decide +kernel
theorem pd_0_1 : parseMethodDescriptor "()Z" = some ⟨[], some .boolean⟩ := by decide +kernel
theorem pd_0_2 : parseMethodDescriptor "(J)Lcom/example/cratewise/cratewise/server/ByteRange;" = some ⟨[.long], some (.object "com/example/cratewise/cratewise/server/ByteRange")⟩ := by decide +kernel
theorem ef_0 (m : MethodId) (x0 : Int32) (x1 : Int32) (x2 : Int64) (x3 : Int64) : entryFrame m #[(.int x0), (.int x1), (.long x2), (.long x3)] maxLocals = mkF m 0 #[.val (.int x0), .val (.int x1), .val (.long x2), .second, .val (.long x3), .second, .unset, .unset, .unset, .unset, .unset, .unset, .unset, .unset, .unset, .unset, .unset] [] := by first | (simp [entryFrame, mkF, argsToLocals, Value.category, maxLocals]; done) | rfl
theorem own_f4 (x y : Int64) : f4 x y = if y.toInt < x.toInt then 1 else 0 := by
  unfold f4
  by_cases h : y.toInt < x.toInt
  · rw [if_pos h, if_pos ((lw_gt x y).mpr (Int64.lt_iff_toInt_lt.mpr h))]
  · rw [if_neg h, if_neg (fun q => h (Int64.lt_iff_toInt_lt.mp ((lw_gt x y).mp q)))]
theorem own_count (p0 p1 : Int32) : ((p1.toInt64) - (p0.toInt64) + (1 : Int64)).toInt = p1.toInt - p0.toInt + 1 ∧ p1.toInt64.toInt = p1.toInt ∧ p0.toInt64.toInt = p0.toInt := by
  have a1 := c_i2l p0
  have a2 := c_i2l p1
  have a3 := rng32 p0
  have a4 := rng32 p1
  have b1 := c_lsub p1.toInt64 p0.toInt64
  have b2 := rng64 (p1.toInt64 - p0.toInt64)
  have c1 := c_ladd (p1.toInt64 - p0.toInt64) 1
  have c2 := rng64 (p1.toInt64 - p0.toInt64 + 1)
  have e1 : (1 : Int64).toInt = 1 := by decide
  rw [e1] at c1
  omega
theorem own_cnt0 {p0 p1 : Int32} (h : (0 : Int32) < (lcmpW (((p1.toInt64) - (p0.toInt64)) + (1 : Int64)) (0 : Int64))) : f4 p0.toInt64 p1.toInt64 = 0 := by
  have e0 : (0 : Int64).toInt = 0 := by decide
  have c := own_count p0 p1
  rw [lw_gt, Int64.lt_iff_toInt_lt, e0] at h
  rw [own_f4, if_neg (by omega)]
theorem own_cnt1 {p0 p1 : Int32} (h : ¬ (0 : Int32) < (lcmpW (((p1.toInt64) - (p0.toInt64)) + (1 : Int64)) (0 : Int64))) : f4 p0.toInt64 p1.toInt64 = 1 := by
  have e0 : (0 : Int64).toInt = 0 := by decide
  have c := own_count p0 p1
  rw [lw_gt, Int64.lt_iff_toInt_lt, e0] at h
  rw [own_f4, if_pos (by omega)]
theorem own_eq0 (x : Int64) : f4 x x = 0 := by rw [own_f4, if_neg (by omega)]
theorem own_none {x : Int64} (h : ¬ lcmpW x (-9223372036854775808 : Int64) = (0 : Int32)) : ¬ f4 x (x - 1) = 0 := by
  have em : (-9223372036854775808 : Int64).toInt = -9223372036854775808 := by decide
  have e1 : (1 : Int64).toInt = 1 := by decide
  have k1 := c_lsub x 1
  have k2 := rng64 (x - 1)
  have k3 := rng64 x
  rw [e1] at k1
  rw [lw_eq, ← Int64.toInt_inj, em] at h
  rw [own_f4, if_pos (by omega)]; decide
theorem own_size (x : Int64) : 0 ≤ (x &&& (4611686018427387903 : Int64)).toInt ∧ ((x &&& (4611686018427387903 : Int64)) - 1).toInt = (x &&& (4611686018427387903 : Int64)).toInt - 1 := by
  have d1 : (x &&& 4611686018427387903).toInt = x.toInt % 4611686018427387904 := c_maskL x 4611686018427387903 62 (by decide) (by decide)
  have e1 : (1 : Int64).toInt = 1 := by decide
  have g1 := c_lsub (x &&& 4611686018427387903) 1
  have g2 := rng64 ((x &&& 4611686018427387903) - 1)
  rw [e1] at g1
  omega
theorem own_sz1 {x : Int64} (h : lcmpW (x &&& (4611686018427387903 : Int64)) (0 : Int64) = (0 : Int32)) : f4 (0 : Int64) ((x &&& (4611686018427387903 : Int64)) - 1) = 1 := by
  have e0 : (0 : Int64).toInt = 0 := by decide
  have s := own_size x
  rw [lw_eq, ← Int64.toInt_inj, e0] at h
  rw [own_f4, e0, if_pos (by omega)]
theorem own_sz0 {x : Int64} (h : ¬ lcmpW (x &&& (4611686018427387903 : Int64)) (0 : Int64) = (0 : Int32)) : f4 (0 : Int64) ((x &&& (4611686018427387903 : Int64)) - 1) = 0 := by
  have e0 : (0 : Int64).toInt = 0 := by decide
  have s := own_size x
  rw [lw_eq, ← Int64.toInt_inj, e0] at h
  rw [own_f4, e0, if_neg (by omega)]
def Q0 (Z : State) (p0 : Int32) (p1 : Int32) (q2 : Int64) (q3 : Int64) (h0 : Heap) (n0 : Nat) (v : Option Value) (h : Heap) (L : List Loc) : Prop := v = some (.int (1 : Int32)) ∧ Fr n0 L
set_option maxRecDepth 65536 in
set_option maxHeartbeats 40000000 in
theorem rm0 (l : Launch) (Z : State) (a0 : Array Value) (hw : ∀ d ∈ tables_1, d.before a0 Z = true) (ws : List Jvm.Cond) (p0 : Int32) (p1 : Int32) (q2 : Int64) (q3 : Int64) (h0 : Heap) (n0 : Nat) (Z0 : n0 ≤ h0.size) :
    MetFree l x (head1 (Jvm.Cond.code x code maxLocals ret :: ws) room_1) (fun a U => a = #[(.int p0), (.int p1), (.long q2), (.long q3)] ∧ Z.Warmed39 U.vm ∧ U.heap = h0) (fun _ _ _ _ _ => True) (fun _ U o U' => ∃ v L, o = .returned v ∧ Q0 Z p0 p1 q2 q3 h0 n0 v U'.heap L ∧ FrameEnd U o U' L room_1.cells room_1.slots) := by
  refine MetFree.of_bodySF (plainFor_of_name pn_0) hisR ?_
  intro p e s m args below meth c s₁ Bd hml0 hP hK
  obtain ⟨rfl, hZ, hh⟩ := hP
  have hx := Bd.exec
  have hby := Bd.bytes
  have hml : c.maxLocals = 17 := hml0
  have hown : s.vm.findClass "com/example/cratewise/cratewise/server/ByteRangeIsEmptyPinLaw" = some m.cls := findClass_of_methodNamed Bd.named
  have hnm := (name_of_methodNamed Bd.named Bd.method).1
  have X0 : Stand p l e room_1 s m #[(.int p0), (.int p1), (.long q2), (.long q3)] below meth c s₁ [] 0 0 := Stand.of_body Bd
  have e0 : s₁.heap = h0 := by rw [← hh, Bd.state]; rfl
  have N0 := Fr.nil n0
  have pre0 : ∀ t, Steps p.tables e below (s₁.setTop (mkF m 0 #[.val (.int p0), .val (.int p1), .val (.long q2), .second, .val (.long q3), .second, .unset, .unset, .unset, .unset, .unset, .unset, .unset, .unset, .unset, .unset, .unset] [])) t → Steps p.tables e below (s₁.setTop (entryFrame m #[(.int p0), (.int p1), (.long q2), (.long q3)] maxLocals)) t := fun t k => castTop (ef_0 m p0 p1 q2 q3) k
  obtain ⟨T1, h1, X1, e1, E1, A1, D1, -, st1⟩ := newO X0 hx hZ hown (hw _ (List.mem_of_getElem? (i := 0) rfl)) (hw _ (List.mem_of_getElem? (i := 1) rfl)) (hw _ (List.mem_of_getElem? (i := 2) rfl)) e0 (g := (mkF m 17 #[.val (.int p0), .val (.int p1), .val (.long q2), .second, .val (.long q3), .second, .val (.long (p0.toInt64)), .second, .val (.long (p1.toInt64)), .second, .val (.long (((p1.toInt64) - (p0.toInt64)) + (1 : Int64))), .second, .unset, .unset, .unset, .unset, .unset] [])) rfl (hb hby at_17) (by decide) (by decide)
  obtain ⟨b1, g1⟩ : ∃ z, z = h0.size := ⟨_, rfl⟩
  rw [← g1] at A1 D1 st1
  have g_b1 : n0 ≤ b1 := Nat.le_trans Z0 (Nat.le_of_eq g1.symm)
  have sz_b1 : h0.size ≤ b1 := Nat.le_trans (Keep.refl h0 []).1 (Nat.le_of_eq g1.symm)
  have K2 : Keep h0 h1 [] := (Keep.refl h0 []).ext E1
  have Z3 : n0 ≤ h1.size := Nat.le_trans Z0 K2.1
  have E_b1 := A1
  have F_first_b1 : Fld Z h1 b1 "com/example/cratewise/cratewise/server/ByteRange" "first" "J" (.long (0 : Int64)) := D1 (Or.inr (hw _ (List.mem_of_getElem? (i := 15) rfl))) (ty := .long) (by decide)
  have F_last_b1 : Fld Z h1 b1 "com/example/cratewise/cratewise/server/ByteRange" "last" "J" (.long (0 : Int64)) := D1 (Or.inr (hw _ (List.mem_of_getElem? (i := 17) rfl))) (ty := .long) (by decide)
  obtain ⟨_, _, ⟨T4, L4, k4, n4⟩, -, X4, ⟨Lc4, hQ4, l4, y4, z4⟩, st4⟩ := X1.specialBack hx (y := (⟨"com/example/cratewise/cratewise/server/ByteRange", "<init>", "(JJ)V"⟩ : MethodName)) rfl hown (mvT hZ (hw _ (List.mem_of_getElem? (i := 3) rfl))) (mvT hZ (hw _ (List.mem_of_getElem? (i := 4) rfl))) (mvT hZ (hw _ (List.mem_of_getElem? (i := 5) rfl))) (by decide) (backOf (W := 1) (rm1 l Z a0 hw [] b1 (p0.toInt64) (p1.toInt64) (0 : Int64) (0 : Int64) h1 n0 Z3 E_b1 F_first_b1 g_b1 F_last_b1) hZ (hw _ (List.mem_of_getElem? (i := 5) rfl)) (hw _ (List.mem_of_getElem? (i := 2) rfl)) (by decide) (by decide)) (g := (mkF m 25 #[.val (.int p0), .val (.int p1), .val (.long q2), .second, .val (.long q3), .second, .val (.long (p0.toInt64)), .second, .val (.long (p1.toInt64)), .second, .val (.long (((p1.toInt64) - (p0.toInt64)) + (1 : Int64))), .second, .unset, .unset, .unset, .unset, .unset] [(.long (p1.toInt64)), (.long (p0.toInt64)), (.ref b1), (.ref b1)])) rfl (by rw [hml]; rfl) (Steps.refl _) (a := b1) (argsL := [(.long (p0.toInt64)), (.long (p1.toInt64))]) (rest := [(.ref b1)]) (lenOf pd_0_0 rfl) rfl (by show 2 * 0 + _ ≤ _; exact Nat.le_of_eq rfl) (hb hby at_25) (fun _ _ => ⟨rfl, e1, (by decide : 1 + 0 ≤ _), (by decide : 2 + 0 ≤ _)⟩)
  dsimp only [Pt.U, Pt.locs, Pt.cells, Pt.slots] at X4 l4 y4 z4 st4 hQ4
  subst l4 y4 z4
  obtain ⟨rfl, N4q, K4q, G4_0, G4_1⟩ := hQ4
  have N4 := Fr.app N0 N4q
  have K5 : Keep h0 T4.heap [] := K2.trans K4q (allS (Or.inr sz_b1) all0)
  have Z6 : n0 ≤ T4.heap.size := Nat.le_trans Z0 K5.1
  obtain ⟨cq7, kq7, q7a, q7b, q7c⟩ := isOf hZ rfl (E_b1.keep K4q)
  obtain ⟨_, _, ⟨T7, L7, k7, n7⟩, -, X7, ⟨Lc7, hQ7, l7, y7, z7⟩, st7⟩ := X4.virtualBack hx (y := (⟨"com/example/cratewise/cratewise/server/ByteRange", "isEmpty", "()Z"⟩ : MethodName)) (z := (⟨"com/example/cratewise/cratewise/server/ByteRange", "isEmpty", "()Z"⟩ : MethodName)) hown (mvT hZ (hw _ (List.mem_of_getElem? (i := 18) rfl))) (mvT hZ (hw _ (List.mem_of_getElem? (i := 19) rfl))) (notFace_of_selects (args := #[]) (mvT hZ (hw _ (List.mem_of_getElem? (i := 21) rfl)))) (mvT hZ (hw _ (List.mem_of_getElem? (i := 21) rfl))) (mvT hZ (hw _ (List.mem_of_getElem? (i := 20) rfl))) (by decide) (backOf (W := 0) (rm4 l Z a0 hw [] b1 (p0.toInt64) (p1.toInt64) T4.heap n0 Z6 G4_0 G4_1) hZ (hw _ (List.mem_of_getElem? (i := 22) rfl)) (hw _ (List.mem_of_getElem? (i := 2) rfl)) (by decide) (by decide)) q7a q7c (g := (mkF m 32 #[.val (.int p0), .val (.int p1), .val (.long q2), .second, .val (.long q3), .second, .val (.long (p0.toInt64)), .second, .val (.long (p1.toInt64)), .second, .val (.long (((p1.toInt64) - (p0.toInt64)) + (1 : Int64))), .second, .val (.ref b1), .unset, .unset, .unset, .unset] [(.ref b1)])) rfl (by rw [hml]; rfl) (Steps.refl _) (argsL := []) (rest := []) (lenOf pd_0_1 rfl) rfl (by show 2 * 0 + _ ≤ _; exact Nat.le_of_eq rfl) (hb hby at_32) (fun _ _ => ⟨rfl, rfl, (by decide : 1 + 0 ≤ _), (by decide : 2 + 0 ≤ _)⟩)
  dsimp only [Pt.U, Pt.locs, Pt.cells, Pt.slots] at X7 l7 y7 z7 st7 hQ7
  subst l7 y7 z7
  obtain ⟨rfl, N7q, e7q⟩ := hQ7
  have N7 := Fr.app N4 N7q
  have pre8 : ∀ t, Steps p.tables e below (T7.setTop (mkF m 39 #[.val (.int p0), .val (.int p1), .val (.long q2), .second, .val (.long q3), .second, .val (.long (p0.toInt64)), .second, .val (.long (p1.toInt64)), .second, .val (.long (((p1.toInt64) - (p0.toInt64)) + (1 : Int64))), .second, .val (.ref b1), .unset, .unset, .unset, .unset] [(.int (lcmpW (((p1.toInt64) - (p0.toInt64)) + (1 : Int64)) (0 : Int64))), (.int (f4 (p0.toInt64) (p1.toInt64)))])) t → Steps p.tables e below (s₁.setTop (entryFrame m #[(.int p0), (.int p1), (.long q2), (.long q3)] maxLocals)) t := fun t kt => pre0 t (by
      show Steps p.tables e below (s₁.setTop (mkF m 0 #[.val (.int p0), .val (.int p1), .val (.long q2), .second, .val (.long q3), .second, .unset, .unset, .unset, .unset, .unset, .unset, .unset, .unset, .unset, .unset, .unset] [])) _
      refine XS.iloadN X0.here hx rfl (hb hby at_0) rfl ?_
      show Steps p.tables e below (s₁.setTop (mkF m 1 #[.val (.int p0), .val (.int p1), .val (.long q2), .second, .val (.long q3), .second, .unset, .unset, .unset, .unset, .unset, .unset, .unset, .unset, .unset, .unset, .unset] [(.int p0)])) _
      refine XS.i2l X0.here hx rfl (hb hby at_1) rfl ?_
      show Steps p.tables e below (s₁.setTop (mkF m 2 #[.val (.int p0), .val (.int p1), .val (.long q2), .second, .val (.long q3), .second, .unset, .unset, .unset, .unset, .unset, .unset, .unset, .unset, .unset, .unset, .unset] [(.long (p0.toInt64))])) _
      refine XS.lstore X0.here hx rfl (hb hby at_2) rfl (l' := #[.val (.int p0), .val (.int p1), .val (.long q2), .second, .val (.long q3), .second, .val (.long (p0.toInt64)), .second, .unset, .unset, .unset, .unset, .unset, .unset, .unset, .unset, .unset]) rfl ?_
      show Steps p.tables e below (s₁.setTop (mkF m 4 #[.val (.int p0), .val (.int p1), .val (.long q2), .second, .val (.long q3), .second, .val (.long (p0.toInt64)), .second, .unset, .unset, .unset, .unset, .unset, .unset, .unset, .unset, .unset] [])) _
      refine XS.iloadN X0.here hx rfl (hb hby at_4) rfl ?_
      show Steps p.tables e below (s₁.setTop (mkF m 5 #[.val (.int p0), .val (.int p1), .val (.long q2), .second, .val (.long q3), .second, .val (.long (p0.toInt64)), .second, .unset, .unset, .unset, .unset, .unset, .unset, .unset, .unset, .unset] [(.int p1)])) _
      refine XS.i2l X0.here hx rfl (hb hby at_5) rfl ?_
      show Steps p.tables e below (s₁.setTop (mkF m 6 #[.val (.int p0), .val (.int p1), .val (.long q2), .second, .val (.long q3), .second, .val (.long (p0.toInt64)), .second, .unset, .unset, .unset, .unset, .unset, .unset, .unset, .unset, .unset] [(.long (p1.toInt64))])) _
      refine XS.lstore X0.here hx rfl (hb hby at_6) rfl (l' := #[.val (.int p0), .val (.int p1), .val (.long q2), .second, .val (.long q3), .second, .val (.long (p0.toInt64)), .second, .val (.long (p1.toInt64)), .second, .unset, .unset, .unset, .unset, .unset, .unset, .unset]) rfl ?_
      show Steps p.tables e below (s₁.setTop (mkF m 8 #[.val (.int p0), .val (.int p1), .val (.long q2), .second, .val (.long q3), .second, .val (.long (p0.toInt64)), .second, .val (.long (p1.toInt64)), .second, .unset, .unset, .unset, .unset, .unset, .unset, .unset] [])) _
      refine XS.lload X0.here hx rfl (hb hby at_8) rfl ?_
      show Steps p.tables e below (s₁.setTop (mkF m 10 #[.val (.int p0), .val (.int p1), .val (.long q2), .second, .val (.long q3), .second, .val (.long (p0.toInt64)), .second, .val (.long (p1.toInt64)), .second, .unset, .unset, .unset, .unset, .unset, .unset, .unset] [(.long (p1.toInt64))])) _
      refine XS.lload X0.here hx rfl (hb hby at_10) rfl ?_
      show Steps p.tables e below (s₁.setTop (mkF m 12 #[.val (.int p0), .val (.int p1), .val (.long q2), .second, .val (.long q3), .second, .val (.long (p0.toInt64)), .second, .val (.long (p1.toInt64)), .second, .unset, .unset, .unset, .unset, .unset, .unset, .unset] [(.long (p0.toInt64)), (.long (p1.toInt64))])) _
      refine XS.lsub X0.here hx rfl (hb hby at_12) rfl ?_
      show Steps p.tables e below (s₁.setTop (mkF m 13 #[.val (.int p0), .val (.int p1), .val (.long q2), .second, .val (.long q3), .second, .val (.long (p0.toInt64)), .second, .val (.long (p1.toInt64)), .second, .unset, .unset, .unset, .unset, .unset, .unset, .unset] [(.long ((p1.toInt64) - (p0.toInt64)))])) _
      refine XS.lconst X0.here hx rfl (hb hby at_13) ?_
      show Steps p.tables e below (s₁.setTop (mkF m 14 #[.val (.int p0), .val (.int p1), .val (.long q2), .second, .val (.long q3), .second, .val (.long (p0.toInt64)), .second, .val (.long (p1.toInt64)), .second, .unset, .unset, .unset, .unset, .unset, .unset, .unset] [(.long (1 : Int64)), (.long ((p1.toInt64) - (p0.toInt64)))])) _
      refine XS.ladd X0.here hx rfl (hb hby at_14) rfl ?_
      show Steps p.tables e below (s₁.setTop (mkF m 15 #[.val (.int p0), .val (.int p1), .val (.long q2), .second, .val (.long q3), .second, .val (.long (p0.toInt64)), .second, .val (.long (p1.toInt64)), .second, .unset, .unset, .unset, .unset, .unset, .unset, .unset] [(.long (((p1.toInt64) - (p0.toInt64)) + (1 : Int64)))])) _
      refine XS.lstore X0.here hx rfl (hb hby at_15) rfl (l' := #[.val (.int p0), .val (.int p1), .val (.long q2), .second, .val (.long q3), .second, .val (.long (p0.toInt64)), .second, .val (.long (p1.toInt64)), .second, .val (.long (((p1.toInt64) - (p0.toInt64)) + (1 : Int64))), .second, .unset, .unset, .unset, .unset, .unset]) rfl ?_
      show Steps p.tables e below (s₁.setTop (mkF m 17 #[.val (.int p0), .val (.int p1), .val (.long q2), .second, .val (.long q3), .second, .val (.long (p0.toInt64)), .second, .val (.long (p1.toInt64)), .second, .val (.long (((p1.toInt64) - (p0.toInt64)) + (1 : Int64))), .second, .unset, .unset, .unset, .unset, .unset] [])) _
      refine st1 _ ?_
      show Steps p.tables e below (T1.setTop (mkF m 20 #[.val (.int p0), .val (.int p1), .val (.long q2), .second, .val (.long q3), .second, .val (.long (p0.toInt64)), .second, .val (.long (p1.toInt64)), .second, .val (.long (((p1.toInt64) - (p0.toInt64)) + (1 : Int64))), .second, .unset, .unset, .unset, .unset, .unset] [(.ref b1)])) _
      refine XS.dup X1.here hx rfl (hb hby at_20) rfl rfl ?_
      show Steps p.tables e below (T1.setTop (mkF m 21 #[.val (.int p0), .val (.int p1), .val (.long q2), .second, .val (.long q3), .second, .val (.long (p0.toInt64)), .second, .val (.long (p1.toInt64)), .second, .val (.long (((p1.toInt64) - (p0.toInt64)) + (1 : Int64))), .second, .unset, .unset, .unset, .unset, .unset] [(.ref b1), (.ref b1)])) _
      refine XS.lload X1.here hx rfl (hb hby at_21) rfl ?_
      show Steps p.tables e below (T1.setTop (mkF m 23 #[.val (.int p0), .val (.int p1), .val (.long q2), .second, .val (.long q3), .second, .val (.long (p0.toInt64)), .second, .val (.long (p1.toInt64)), .second, .val (.long (((p1.toInt64) - (p0.toInt64)) + (1 : Int64))), .second, .unset, .unset, .unset, .unset, .unset] [(.long (p0.toInt64)), (.ref b1), (.ref b1)])) _
      refine XS.lload X1.here hx rfl (hb hby at_23) rfl ?_
      show Steps p.tables e below (T1.setTop (mkF m 25 #[.val (.int p0), .val (.int p1), .val (.long q2), .second, .val (.long q3), .second, .val (.long (p0.toInt64)), .second, .val (.long (p1.toInt64)), .second, .val (.long (((p1.toInt64) - (p0.toInt64)) + (1 : Int64))), .second, .unset, .unset, .unset, .unset, .unset] [(.long (p1.toInt64)), (.long (p0.toInt64)), (.ref b1), (.ref b1)])) _
      refine st4.trans ?_
      show Steps p.tables e below (T4.setTop (mkF m 28 #[.val (.int p0), .val (.int p1), .val (.long q2), .second, .val (.long q3), .second, .val (.long (p0.toInt64)), .second, .val (.long (p1.toInt64)), .second, .val (.long (((p1.toInt64) - (p0.toInt64)) + (1 : Int64))), .second, .unset, .unset, .unset, .unset, .unset] [(.ref b1)])) _
      refine XS.astore X4.here hx rfl (hb hby at_28) rfl rfl (l' := #[.val (.int p0), .val (.int p1), .val (.long q2), .second, .val (.long q3), .second, .val (.long (p0.toInt64)), .second, .val (.long (p1.toInt64)), .second, .val (.long (((p1.toInt64) - (p0.toInt64)) + (1 : Int64))), .second, .val (.ref b1), .unset, .unset, .unset, .unset]) rfl ?_
      show Steps p.tables e below (T4.setTop (mkF m 30 #[.val (.int p0), .val (.int p1), .val (.long q2), .second, .val (.long q3), .second, .val (.long (p0.toInt64)), .second, .val (.long (p1.toInt64)), .second, .val (.long (((p1.toInt64) - (p0.toInt64)) + (1 : Int64))), .second, .val (.ref b1), .unset, .unset, .unset, .unset] [])) _
      refine XS.aload X4.here hx rfl (hb hby at_30) rfl rfl ?_
      show Steps p.tables e below (T4.setTop (mkF m 32 #[.val (.int p0), .val (.int p1), .val (.long q2), .second, .val (.long q3), .second, .val (.long (p0.toInt64)), .second, .val (.long (p1.toInt64)), .second, .val (.long (((p1.toInt64) - (p0.toInt64)) + (1 : Int64))), .second, .val (.ref b1), .unset, .unset, .unset, .unset] [(.ref b1)])) _
      refine st7.trans ?_
      show Steps p.tables e below (T7.setTop (mkF m 35 #[.val (.int p0), .val (.int p1), .val (.long q2), .second, .val (.long q3), .second, .val (.long (p0.toInt64)), .second, .val (.long (p1.toInt64)), .second, .val (.long (((p1.toInt64) - (p0.toInt64)) + (1 : Int64))), .second, .val (.ref b1), .unset, .unset, .unset, .unset] [(.int (f4 (p0.toInt64) (p1.toInt64)))])) _
      refine XS.lload X7.here hx rfl (hb hby at_35) rfl ?_
      show Steps p.tables e below (T7.setTop (mkF m 37 #[.val (.int p0), .val (.int p1), .val (.long q2), .second, .val (.long q3), .second, .val (.long (p0.toInt64)), .second, .val (.long (p1.toInt64)), .second, .val (.long (((p1.toInt64) - (p0.toInt64)) + (1 : Int64))), .second, .val (.ref b1), .unset, .unset, .unset, .unset] [(.long (((p1.toInt64) - (p0.toInt64)) + (1 : Int64))), (.int (f4 (p0.toInt64) (p1.toInt64)))])) _
      refine XS.lconst X7.here hx rfl (hb hby at_37) ?_
      show Steps p.tables e below (T7.setTop (mkF m 38 #[.val (.int p0), .val (.int p1), .val (.long q2), .second, .val (.long q3), .second, .val (.long (p0.toInt64)), .second, .val (.long (p1.toInt64)), .second, .val (.long (((p1.toInt64) - (p0.toInt64)) + (1 : Int64))), .second, .val (.ref b1), .unset, .unset, .unset, .unset] [(.long (0 : Int64)), (.long (((p1.toInt64) - (p0.toInt64)) + (1 : Int64))), (.int (f4 (p0.toInt64) (p1.toInt64)))])) _
      refine XS.lcmp X7.here hx rfl (hb hby at_38) rfl ?_
      exact kt)
  by_cases hc39_9 : (0 : Int32) < (lcmpW (((p1.toInt64) - (p0.toInt64)) + (1 : Int64)) (0 : Int64))
  · have pre10 : ∀ t, Steps p.tables e below (T7.setTop (mkF m 47 #[.val (.int p0), .val (.int p1), .val (.long q2), .second, .val (.long q3), .second, .val (.long (p0.toInt64)), .second, .val (.long (p1.toInt64)), .second, .val (.long (((p1.toInt64) - (p0.toInt64)) + (1 : Int64))), .second, .val (.ref b1), .unset, .unset, .unset, .unset] [(.int (0 : Int32)), (.int (f4 (p0.toInt64) (p1.toInt64)))])) t → Steps p.tables e below (s₁.setTop (entryFrame m #[(.int p0), (.int p1), (.long q2), (.long q3)] maxLocals)) t := fun t kt => pre8 t (by
        show Steps p.tables e below (T7.setTop (mkF m 39 #[.val (.int p0), .val (.int p1), .val (.long q2), .second, .val (.long q3), .second, .val (.long (p0.toInt64)), .second, .val (.long (p1.toInt64)), .second, .val (.long (((p1.toInt64) - (p0.toInt64)) + (1 : Int64))), .second, .val (.ref b1), .unset, .unset, .unset, .unset] [(.int (lcmpW (((p1.toInt64) - (p0.toInt64)) + (1 : Int64)) (0 : Int64))), (.int (f4 (p0.toInt64) (p1.toInt64)))])) _
        refine XS.ifYes X7.here hx rfl (pc0 := 39) (pc' := 46) rfl (hb hby at_39) rfl ((if0 _ _).trans (tlt hc39_9).2.2.1) (by decide) (by decide) ?_
        show Steps p.tables e below (T7.setTop (mkF m 46 #[.val (.int p0), .val (.int p1), .val (.long q2), .second, .val (.long q3), .second, .val (.long (p0.toInt64)), .second, .val (.long (p1.toInt64)), .second, .val (.long (((p1.toInt64) - (p0.toInt64)) + (1 : Int64))), .second, .val (.ref b1), .unset, .unset, .unset, .unset] [(.int (f4 (p0.toInt64) (p1.toInt64)))])) _
        refine XS.iconst X7.here hx rfl (hb hby at_46) ?_
        exact kt)
    have hd47_11 : (f4 (p0.toInt64) (p1.toInt64)) = (0 : Int32) := own_cnt0 hc39_9
    obtain ⟨T12, h12, X12, e12, E12, A12, D12, -, st12⟩ := newO X7 hx hZ hown (hw _ (List.mem_of_getElem? (i := 0) rfl)) (hw _ (List.mem_of_getElem? (i := 1) rfl)) (hw _ (List.mem_of_getElem? (i := 2) rfl)) e7q (g := (mkF m 52 #[.val (.int p0), .val (.int p1), .val (.long q2), .second, .val (.long q3), .second, .val (.long (p0.toInt64)), .second, .val (.long (p1.toInt64)), .second, .val (.long (((p1.toInt64) - (p0.toInt64)) + (1 : Int64))), .second, .val (.ref b1), .unset, .unset, .unset, .unset] [])) rfl (hb hby at_52) (by decide) (by decide)
    obtain ⟨b12, g12⟩ : ∃ z, z = T4.heap.size := ⟨_, rfl⟩
    rw [← g12] at A12 D12 st12
    have g_b12 : n0 ≤ b12 := Nat.le_trans Z6 (Nat.le_of_eq g12.symm)
    have sz_b12 : h0.size ≤ b12 := Nat.le_trans K5.1 (Nat.le_of_eq g12.symm)
    have ne_b1_b12 : b1 ≠ b12 := Nat.ne_of_lt (Nat.lt_of_lt_of_le (E_b1.keep K4q).lt (Nat.le_of_eq g12.symm))
    have K13 : Keep h0 h12 [] := K5.ext E12
    have Z14 : n0 ≤ h12.size := Nat.le_trans Z0 K13.1
    have E_b12 := A12
    have F_first_b12 : Fld Z h12 b12 "com/example/cratewise/cratewise/server/ByteRange" "first" "J" (.long (0 : Int64)) := D12 (Or.inr (hw _ (List.mem_of_getElem? (i := 15) rfl))) (ty := .long) (by decide)
    have F_last_b12 : Fld Z h12 b12 "com/example/cratewise/cratewise/server/ByteRange" "last" "J" (.long (0 : Int64)) := D12 (Or.inr (hw _ (List.mem_of_getElem? (i := 17) rfl))) (ty := .long) (by decide)
    obtain ⟨_, _, ⟨T15, L15, k15, n15⟩, -, X15, ⟨Lc15, hQ15, l15, y15, z15⟩, st15⟩ := X12.specialBack hx (y := (⟨"com/example/cratewise/cratewise/server/ByteRange", "<init>", "(JJ)V"⟩ : MethodName)) rfl hown (mvT hZ (hw _ (List.mem_of_getElem? (i := 3) rfl))) (mvT hZ (hw _ (List.mem_of_getElem? (i := 4) rfl))) (mvT hZ (hw _ (List.mem_of_getElem? (i := 5) rfl))) (by decide) (backOf (W := 1) (rm1 l Z a0 hw [] b12 q2 q2 (0 : Int64) (0 : Int64) h12 n0 Z14 E_b12 F_first_b12 g_b12 F_last_b12) hZ (hw _ (List.mem_of_getElem? (i := 5) rfl)) (hw _ (List.mem_of_getElem? (i := 2) rfl)) (by decide) (by decide)) (g := (mkF m 58 #[.val (.int p0), .val (.int p1), .val (.long q2), .second, .val (.long q3), .second, .val (.long (p0.toInt64)), .second, .val (.long (p1.toInt64)), .second, .val (.long (((p1.toInt64) - (p0.toInt64)) + (1 : Int64))), .second, .val (.ref b1), .unset, .unset, .unset, .unset] [(.long q2), (.long q2), (.ref b12), (.ref b12)])) rfl (by rw [hml]; rfl) (Steps.refl _) (a := b12) (argsL := [(.long q2), (.long q2)]) (rest := [(.ref b12)]) (lenOf pd_0_0 rfl) rfl (by show 2 * 0 + _ ≤ _; exact Nat.le_of_eq rfl) (hb hby at_58) (fun _ _ => ⟨rfl, e12, (by decide : 2 + 0 ≤ _), (by decide : 4 + 0 ≤ _)⟩)
    dsimp only [Pt.U, Pt.locs, Pt.cells, Pt.slots] at X15 l15 y15 z15 st15 hQ15
    subst l15 y15 z15
    obtain ⟨rfl, N15q, K15q, G15_0, G15_1⟩ := hQ15
    have N15 := Fr.app N7 N15q
    have K16 : Keep h0 T15.heap [] := K13.trans K15q (allS (Or.inr sz_b12) all0)
    have Z17 : n0 ≤ T15.heap.size := Nat.le_trans Z0 K16.1
    obtain ⟨cq18, kq18, q18a, q18b, q18c⟩ := isOf hZ rfl (E_b12.keep K15q)
    obtain ⟨_, _, ⟨T18, L18, k18, n18⟩, -, X18, ⟨Lc18, hQ18, l18, y18, z18⟩, st18⟩ := X15.virtualBack hx (y := (⟨"com/example/cratewise/cratewise/server/ByteRange", "isEmpty", "()Z"⟩ : MethodName)) (z := (⟨"com/example/cratewise/cratewise/server/ByteRange", "isEmpty", "()Z"⟩ : MethodName)) hown (mvT hZ (hw _ (List.mem_of_getElem? (i := 18) rfl))) (mvT hZ (hw _ (List.mem_of_getElem? (i := 19) rfl))) (notFace_of_selects (args := #[]) (mvT hZ (hw _ (List.mem_of_getElem? (i := 21) rfl)))) (mvT hZ (hw _ (List.mem_of_getElem? (i := 21) rfl))) (mvT hZ (hw _ (List.mem_of_getElem? (i := 20) rfl))) (by decide) (backOf (W := 0) (rm4 l Z a0 hw [] b12 q2 q2 T15.heap n0 Z17 G15_0 G15_1) hZ (hw _ (List.mem_of_getElem? (i := 22) rfl)) (hw _ (List.mem_of_getElem? (i := 2) rfl)) (by decide) (by decide)) q18a q18c (g := (mkF m 65 #[.val (.int p0), .val (.int p1), .val (.long q2), .second, .val (.long q3), .second, .val (.long (p0.toInt64)), .second, .val (.long (p1.toInt64)), .second, .val (.long (((p1.toInt64) - (p0.toInt64)) + (1 : Int64))), .second, .val (.ref b1), .val (.ref b12), .unset, .unset, .unset] [(.ref b12)])) rfl (by rw [hml]; rfl) (Steps.refl _) (argsL := []) (rest := []) (lenOf pd_0_1 rfl) rfl (by show 2 * 0 + _ ≤ _; exact Nat.le_of_eq rfl) (hb hby at_65) (fun _ _ => ⟨rfl, rfl, (by decide : 2 + 0 ≤ _), (by decide : 4 + 0 ≤ _)⟩)
    dsimp only [Pt.U, Pt.locs, Pt.cells, Pt.slots] at X18 l18 y18 z18 st18 hQ18
    subst l18 y18 z18
    obtain ⟨rfl, N18q, e18q⟩ := hQ18
    have N18 := Fr.app N15 N18q
    have pre19 : ∀ t, Steps p.tables e below (T18.setTop (mkF m 68 #[.val (.int p0), .val (.int p1), .val (.long q2), .second, .val (.long q3), .second, .val (.long (p0.toInt64)), .second, .val (.long (p1.toInt64)), .second, .val (.long (((p1.toInt64) - (p0.toInt64)) + (1 : Int64))), .second, .val (.ref b1), .val (.ref b12), .unset, .unset, .unset] [(.int (f4 q2 q2))])) t → Steps p.tables e below (s₁.setTop (entryFrame m #[(.int p0), (.int p1), (.long q2), (.long q3)] maxLocals)) t := fun t kt => pre10 t (by
        show Steps p.tables e below (T7.setTop (mkF m 47 #[.val (.int p0), .val (.int p1), .val (.long q2), .second, .val (.long q3), .second, .val (.long (p0.toInt64)), .second, .val (.long (p1.toInt64)), .second, .val (.long (((p1.toInt64) - (p0.toInt64)) + (1 : Int64))), .second, .val (.ref b1), .unset, .unset, .unset, .unset] [(.int (0 : Int32)), (.int (f4 (p0.toInt64) (p1.toInt64)))])) _
        refine XS.icmpYes X7.here hx rfl (pc0 := 47) (pc' := 52) rfl (hb hby at_47) rfl (teq hd47_11).1 (by decide) (by decide) ?_
        show Steps p.tables e below (T7.setTop (mkF m 52 #[.val (.int p0), .val (.int p1), .val (.long q2), .second, .val (.long q3), .second, .val (.long (p0.toInt64)), .second, .val (.long (p1.toInt64)), .second, .val (.long (((p1.toInt64) - (p0.toInt64)) + (1 : Int64))), .second, .val (.ref b1), .unset, .unset, .unset, .unset] [])) _
        refine st12 _ ?_
        show Steps p.tables e below (T12.setTop (mkF m 55 #[.val (.int p0), .val (.int p1), .val (.long q2), .second, .val (.long q3), .second, .val (.long (p0.toInt64)), .second, .val (.long (p1.toInt64)), .second, .val (.long (((p1.toInt64) - (p0.toInt64)) + (1 : Int64))), .second, .val (.ref b1), .unset, .unset, .unset, .unset] [(.ref b12)])) _
        refine XS.dup X12.here hx rfl (hb hby at_55) rfl rfl ?_
        show Steps p.tables e below (T12.setTop (mkF m 56 #[.val (.int p0), .val (.int p1), .val (.long q2), .second, .val (.long q3), .second, .val (.long (p0.toInt64)), .second, .val (.long (p1.toInt64)), .second, .val (.long (((p1.toInt64) - (p0.toInt64)) + (1 : Int64))), .second, .val (.ref b1), .unset, .unset, .unset, .unset] [(.ref b12), (.ref b12)])) _
        refine XS.lloadN X12.here hx rfl (hb hby at_56) rfl ?_
        show Steps p.tables e below (T12.setTop (mkF m 57 #[.val (.int p0), .val (.int p1), .val (.long q2), .second, .val (.long q3), .second, .val (.long (p0.toInt64)), .second, .val (.long (p1.toInt64)), .second, .val (.long (((p1.toInt64) - (p0.toInt64)) + (1 : Int64))), .second, .val (.ref b1), .unset, .unset, .unset, .unset] [(.long q2), (.ref b12), (.ref b12)])) _
        refine XS.lloadN X12.here hx rfl (hb hby at_57) rfl ?_
        show Steps p.tables e below (T12.setTop (mkF m 58 #[.val (.int p0), .val (.int p1), .val (.long q2), .second, .val (.long q3), .second, .val (.long (p0.toInt64)), .second, .val (.long (p1.toInt64)), .second, .val (.long (((p1.toInt64) - (p0.toInt64)) + (1 : Int64))), .second, .val (.ref b1), .unset, .unset, .unset, .unset] [(.long q2), (.long q2), (.ref b12), (.ref b12)])) _
        refine st15.trans ?_
        show Steps p.tables e below (T15.setTop (mkF m 61 #[.val (.int p0), .val (.int p1), .val (.long q2), .second, .val (.long q3), .second, .val (.long (p0.toInt64)), .second, .val (.long (p1.toInt64)), .second, .val (.long (((p1.toInt64) - (p0.toInt64)) + (1 : Int64))), .second, .val (.ref b1), .unset, .unset, .unset, .unset] [(.ref b12)])) _
        refine XS.astore X15.here hx rfl (hb hby at_61) rfl rfl (l' := #[.val (.int p0), .val (.int p1), .val (.long q2), .second, .val (.long q3), .second, .val (.long (p0.toInt64)), .second, .val (.long (p1.toInt64)), .second, .val (.long (((p1.toInt64) - (p0.toInt64)) + (1 : Int64))), .second, .val (.ref b1), .val (.ref b12), .unset, .unset, .unset]) rfl ?_
        show Steps p.tables e below (T15.setTop (mkF m 63 #[.val (.int p0), .val (.int p1), .val (.long q2), .second, .val (.long q3), .second, .val (.long (p0.toInt64)), .second, .val (.long (p1.toInt64)), .second, .val (.long (((p1.toInt64) - (p0.toInt64)) + (1 : Int64))), .second, .val (.ref b1), .val (.ref b12), .unset, .unset, .unset] [])) _
        refine XS.aload X15.here hx rfl (hb hby at_63) rfl rfl ?_
        show Steps p.tables e below (T15.setTop (mkF m 65 #[.val (.int p0), .val (.int p1), .val (.long q2), .second, .val (.long q3), .second, .val (.long (p0.toInt64)), .second, .val (.long (p1.toInt64)), .second, .val (.long (((p1.toInt64) - (p0.toInt64)) + (1 : Int64))), .second, .val (.ref b1), .val (.ref b12), .unset, .unset, .unset] [(.ref b12)])) _
        refine st18.trans ?_
        exact kt)
    have hd68_20 : (f4 q2 q2) = (0 : Int32) := own_eq0 _
    have pre21 : ∀ t, Steps p.tables e below (T18.setTop (mkF m 78 #[.val (.int p0), .val (.int p1), .val (.long q2), .second, .val (.long q3), .second, .val (.long (p0.toInt64)), .second, .val (.long (p1.toInt64)), .second, .val (.long (((p1.toInt64) - (p0.toInt64)) + (1 : Int64))), .second, .val (.ref b1), .val (.ref b12), .unset, .unset, .unset] [(.int (lcmpW q2 (-9223372036854775808 : Int64)))])) t → Steps p.tables e below (s₁.setTop (entryFrame m #[(.int p0), (.int p1), (.long q2), (.long q3)] maxLocals)) t := fun t kt => pre19 t (by
        show Steps p.tables e below (T18.setTop (mkF m 68 #[.val (.int p0), .val (.int p1), .val (.long q2), .second, .val (.long q3), .second, .val (.long (p0.toInt64)), .second, .val (.long (p1.toInt64)), .second, .val (.long (((p1.toInt64) - (p0.toInt64)) + (1 : Int64))), .second, .val (.ref b1), .val (.ref b12), .unset, .unset, .unset] [(.int (f4 q2 q2))])) _
        refine XS.ifYes X18.here hx rfl (pc0 := 68) (pc' := 73) rfl (hb hby at_68) rfl ((if0 _ _).trans (teq hd68_20).1) (by decide) (by decide) ?_
        show Steps p.tables e below (T18.setTop (mkF m 73 #[.val (.int p0), .val (.int p1), .val (.long q2), .second, .val (.long q3), .second, .val (.long (p0.toInt64)), .second, .val (.long (p1.toInt64)), .second, .val (.long (((p1.toInt64) - (p0.toInt64)) + (1 : Int64))), .second, .val (.ref b1), .val (.ref b12), .unset, .unset, .unset] [])) _
        refine XS.lloadN X18.here hx rfl (hb hby at_73) rfl ?_
        show Steps p.tables e below (T18.setTop (mkF m 74 #[.val (.int p0), .val (.int p1), .val (.long q2), .second, .val (.long q3), .second, .val (.long (p0.toInt64)), .second, .val (.long (p1.toInt64)), .second, .val (.long (((p1.toInt64) - (p0.toInt64)) + (1 : Int64))), .second, .val (.ref b1), .val (.ref b12), .unset, .unset, .unset] [(.long q2)])) _
        refine X18.ldc2Long hx hown (mvT hZ (hw _ (List.mem_of_getElem? (i := 23) rfl))) (g := (mkF m 74 #[.val (.int p0), .val (.int p1), .val (.long q2), .second, .val (.long q3), .second, .val (.long (p0.toInt64)), .second, .val (.long (p1.toInt64)), .second, .val (.long (((p1.toInt64) - (p0.toInt64)) + (1 : Int64))), .second, .val (.ref b1), .val (.ref b12), .unset, .unset, .unset] [(.long q2)])) rfl (hb hby at_74) _ ?_
        show Steps p.tables e below (T18.setTop (mkF m 77 #[.val (.int p0), .val (.int p1), .val (.long q2), .second, .val (.long q3), .second, .val (.long (p0.toInt64)), .second, .val (.long (p1.toInt64)), .second, .val (.long (((p1.toInt64) - (p0.toInt64)) + (1 : Int64))), .second, .val (.ref b1), .val (.ref b12), .unset, .unset, .unset] [(.long (-9223372036854775808 : Int64)), (.long q2)])) _
        refine XS.lcmp X18.here hx rfl (hb hby at_77) rfl ?_
        exact kt)
    by_cases hc78_22 : (lcmpW q2 (-9223372036854775808 : Int64)) = (0 : Int32)
    · obtain ⟨_, _, ⟨T23, L23, k23, n23⟩, -, X23, ⟨Lc23, hQ23, l23, y23, z23⟩, st23⟩ := Jvm.LawKit.callS X18 hx (y := (⟨"com/example/cratewise/cratewise/server/ByteRange", "whole", "(J)Lcom/example/cratewise/cratewise/server/ByteRange;"⟩ : MethodName)) hown (mvT hZ (hw _ (List.mem_of_getElem? (i := 25) rfl))) (mvT hZ (hw _ (List.mem_of_getElem? (i := 26) rfl))) (mvT hZ (hw _ (List.mem_of_getElem? (i := 2) rfl))) (mvT hZ (hw _ (List.mem_of_getElem? (i := 27) rfl))) (by decide) (backOf (W := 0) (rm5 l Z a0 hw [] (q3 &&& (4611686018427387903 : Int64)) T15.heap n0 Z17 ) hZ (hw _ (List.mem_of_getElem? (i := 27) rfl)) (hw _ (List.mem_of_getElem? (i := 2) rfl)) (by decide) (by decide)) (g := (mkF m 114 #[.val (.int p0), .val (.int p1), .val (.long q2), .second, .val (.long q3), .second, .val (.long (p0.toInt64)), .second, .val (.long (p1.toInt64)), .second, .val (.long (((p1.toInt64) - (p0.toInt64)) + (1 : Int64))), .second, .val (.ref b1), .val (.ref b12), .val (.long (q3 &&& (4611686018427387903 : Int64))), .second, .unset] [(.long (q3 &&& (4611686018427387903 : Int64)))])) rfl (by rw [hml]; rfl) (argsL := [(.long (q3 &&& (4611686018427387903 : Int64)))]) (rest := []) (lenOf pd_0_2 rfl) rfl (by show 2 * 0 + _ ≤ _; exact Nat.le_of_eq rfl) (hb hby at_114) (fun _ _ => ⟨rfl, e18q, (by decide : 2 + 1 ≤ _), (by decide : 4 + 2 ≤ _)⟩)
      dsimp only [Pt.U, Pt.locs, Pt.cells, Pt.slots] at X23 l23 y23 z23 st23 hQ23
      subst l23 y23 z23
      obtain ⟨b_23, rfl, N23q, K23q, g_b_23, szq_b_23, G23_0, G23_1, G23_2⟩ := hQ23
      have N23 := Fr.app N18 N23q
      have ne_b1_b_23 : b1 ≠ b_23 := Nat.ne_of_lt (Nat.lt_of_lt_of_le (((E_b1.keep K4q).ext E12).keep K15q).lt szq_b_23)
      have ne_b12_b_23 : b12 ≠ b_23 := Nat.ne_of_lt (Nat.lt_of_lt_of_le (E_b12.keep K15q).lt szq_b_23)
      have sz_b_23 : h0.size ≤ b_23 := Nat.le_trans K16.1 szq_b_23
      have K24 : Keep h0 T23.heap [] := K16.trans K23q all0
      have Z25 : n0 ≤ T23.heap.size := Nat.le_trans Z0 K24.1
      obtain ⟨cq26, kq26, q26a, q26b, q26c⟩ := isOf hZ rfl G23_0
      obtain ⟨_, _, ⟨T26, L26, k26, n26⟩, -, X26, ⟨Lc26, hQ26, l26, y26, z26⟩, st26⟩ := X23.virtualBack hx (y := (⟨"com/example/cratewise/cratewise/server/ByteRange", "isEmpty", "()Z"⟩ : MethodName)) (z := (⟨"com/example/cratewise/cratewise/server/ByteRange", "isEmpty", "()Z"⟩ : MethodName)) hown (mvT hZ (hw _ (List.mem_of_getElem? (i := 18) rfl))) (mvT hZ (hw _ (List.mem_of_getElem? (i := 19) rfl))) (notFace_of_selects (args := #[]) (mvT hZ (hw _ (List.mem_of_getElem? (i := 21) rfl)))) (mvT hZ (hw _ (List.mem_of_getElem? (i := 21) rfl))) (mvT hZ (hw _ (List.mem_of_getElem? (i := 20) rfl))) (by decide) (backOf (W := 0) (rm4 l Z a0 hw [] b_23 (0 : Int64) ((q3 &&& (4611686018427387903 : Int64)) - (1 : Int64)) T23.heap n0 Z25 G23_1 G23_2) hZ (hw _ (List.mem_of_getElem? (i := 22) rfl)) (hw _ (List.mem_of_getElem? (i := 2) rfl)) (by decide) (by decide)) q26a q26c (g := (mkF m 121 #[.val (.int p0), .val (.int p1), .val (.long q2), .second, .val (.long q3), .second, .val (.long (p0.toInt64)), .second, .val (.long (p1.toInt64)), .second, .val (.long (((p1.toInt64) - (p0.toInt64)) + (1 : Int64))), .second, .val (.ref b1), .val (.ref b12), .val (.long (q3 &&& (4611686018427387903 : Int64))), .second, .val (.ref b_23)] [(.ref b_23)])) rfl (by rw [hml]; rfl) (Steps.refl _) (argsL := []) (rest := []) (lenOf pd_0_1 rfl) rfl (by show 2 * 0 + _ ≤ _; exact Nat.le_of_eq rfl) (hb hby at_121) (fun _ _ => ⟨rfl, rfl, (by decide : 3 + 0 ≤ _), (by decide : 6 + 0 ≤ _)⟩)
      dsimp only [Pt.U, Pt.locs, Pt.cells, Pt.slots] at X26 l26 y26 z26 st26 hQ26
      subst l26 y26 z26
      obtain ⟨rfl, N26q, e26q⟩ := hQ26
      have N26 := Fr.app N23 N26q
      have pre27 : ∀ t, Steps p.tables e below (T26.setTop (mkF m 128 #[.val (.int p0), .val (.int p1), .val (.long q2), .second, .val (.long q3), .second, .val (.long (p0.toInt64)), .second, .val (.long (p1.toInt64)), .second, .val (.long (((p1.toInt64) - (p0.toInt64)) + (1 : Int64))), .second, .val (.ref b1), .val (.ref b12), .val (.long (q3 &&& (4611686018427387903 : Int64))), .second, .val (.ref b_23)] [(.int (lcmpW (q3 &&& (4611686018427387903 : Int64)) (0 : Int64))), (.int (f4 (0 : Int64) ((q3 &&& (4611686018427387903 : Int64)) - (1 : Int64))))])) t → Steps p.tables e below (s₁.setTop (entryFrame m #[(.int p0), (.int p1), (.long q2), (.long q3)] maxLocals)) t := fun t kt => pre21 t (by
          show Steps p.tables e below (T18.setTop (mkF m 78 #[.val (.int p0), .val (.int p1), .val (.long q2), .second, .val (.long q3), .second, .val (.long (p0.toInt64)), .second, .val (.long (p1.toInt64)), .second, .val (.long (((p1.toInt64) - (p0.toInt64)) + (1 : Int64))), .second, .val (.ref b1), .val (.ref b12), .unset, .unset, .unset] [(.int (lcmpW q2 (-9223372036854775808 : Int64)))])) _
          refine XS.ifYes X18.here hx rfl (pc0 := 78) (pc' := 104) rfl (hb hby at_78) rfl ((if0 _ _).trans (teq hc78_22).1) (by decide) (by decide) ?_
          show Steps p.tables e below (T18.setTop (mkF m 104 #[.val (.int p0), .val (.int p1), .val (.long q2), .second, .val (.long q3), .second, .val (.long (p0.toInt64)), .second, .val (.long (p1.toInt64)), .second, .val (.long (((p1.toInt64) - (p0.toInt64)) + (1 : Int64))), .second, .val (.ref b1), .val (.ref b12), .unset, .unset, .unset] [])) _
          refine XS.lload X18.here hx rfl (hb hby at_104) rfl ?_
          show Steps p.tables e below (T18.setTop (mkF m 106 #[.val (.int p0), .val (.int p1), .val (.long q2), .second, .val (.long q3), .second, .val (.long (p0.toInt64)), .second, .val (.long (p1.toInt64)), .second, .val (.long (((p1.toInt64) - (p0.toInt64)) + (1 : Int64))), .second, .val (.ref b1), .val (.ref b12), .unset, .unset, .unset] [(.long q3)])) _
          refine X18.ldc2Long hx hown (mvT hZ (hw _ (List.mem_of_getElem? (i := 24) rfl))) (g := (mkF m 106 #[.val (.int p0), .val (.int p1), .val (.long q2), .second, .val (.long q3), .second, .val (.long (p0.toInt64)), .second, .val (.long (p1.toInt64)), .second, .val (.long (((p1.toInt64) - (p0.toInt64)) + (1 : Int64))), .second, .val (.ref b1), .val (.ref b12), .unset, .unset, .unset] [(.long q3)])) rfl (hb hby at_106) _ ?_
          show Steps p.tables e below (T18.setTop (mkF m 109 #[.val (.int p0), .val (.int p1), .val (.long q2), .second, .val (.long q3), .second, .val (.long (p0.toInt64)), .second, .val (.long (p1.toInt64)), .second, .val (.long (((p1.toInt64) - (p0.toInt64)) + (1 : Int64))), .second, .val (.ref b1), .val (.ref b12), .unset, .unset, .unset] [(.long (4611686018427387903 : Int64)), (.long q3)])) _
          refine XS.land X18.here hx rfl (hb hby at_109) rfl ?_
          show Steps p.tables e below (T18.setTop (mkF m 110 #[.val (.int p0), .val (.int p1), .val (.long q2), .second, .val (.long q3), .second, .val (.long (p0.toInt64)), .second, .val (.long (p1.toInt64)), .second, .val (.long (((p1.toInt64) - (p0.toInt64)) + (1 : Int64))), .second, .val (.ref b1), .val (.ref b12), .unset, .unset, .unset] [(.long (q3 &&& (4611686018427387903 : Int64)))])) _
          refine XS.lstore X18.here hx rfl (hb hby at_110) rfl (l' := #[.val (.int p0), .val (.int p1), .val (.long q2), .second, .val (.long q3), .second, .val (.long (p0.toInt64)), .second, .val (.long (p1.toInt64)), .second, .val (.long (((p1.toInt64) - (p0.toInt64)) + (1 : Int64))), .second, .val (.ref b1), .val (.ref b12), .val (.long (q3 &&& (4611686018427387903 : Int64))), .second, .unset]) rfl ?_
          show Steps p.tables e below (T18.setTop (mkF m 112 #[.val (.int p0), .val (.int p1), .val (.long q2), .second, .val (.long q3), .second, .val (.long (p0.toInt64)), .second, .val (.long (p1.toInt64)), .second, .val (.long (((p1.toInt64) - (p0.toInt64)) + (1 : Int64))), .second, .val (.ref b1), .val (.ref b12), .val (.long (q3 &&& (4611686018427387903 : Int64))), .second, .unset] [])) _
          refine XS.lload X18.here hx rfl (hb hby at_112) rfl ?_
          show Steps p.tables e below (T18.setTop (mkF m 114 #[.val (.int p0), .val (.int p1), .val (.long q2), .second, .val (.long q3), .second, .val (.long (p0.toInt64)), .second, .val (.long (p1.toInt64)), .second, .val (.long (((p1.toInt64) - (p0.toInt64)) + (1 : Int64))), .second, .val (.ref b1), .val (.ref b12), .val (.long (q3 &&& (4611686018427387903 : Int64))), .second, .unset] [(.long (q3 &&& (4611686018427387903 : Int64)))])) _
          refine st23 _ ?_
          show Steps p.tables e below (T23.setTop (mkF m 117 #[.val (.int p0), .val (.int p1), .val (.long q2), .second, .val (.long q3), .second, .val (.long (p0.toInt64)), .second, .val (.long (p1.toInt64)), .second, .val (.long (((p1.toInt64) - (p0.toInt64)) + (1 : Int64))), .second, .val (.ref b1), .val (.ref b12), .val (.long (q3 &&& (4611686018427387903 : Int64))), .second, .unset] [(.ref b_23)])) _
          refine XS.astore X23.here hx rfl (hb hby at_117) rfl rfl (l' := #[.val (.int p0), .val (.int p1), .val (.long q2), .second, .val (.long q3), .second, .val (.long (p0.toInt64)), .second, .val (.long (p1.toInt64)), .second, .val (.long (((p1.toInt64) - (p0.toInt64)) + (1 : Int64))), .second, .val (.ref b1), .val (.ref b12), .val (.long (q3 &&& (4611686018427387903 : Int64))), .second, .val (.ref b_23)]) rfl ?_
          show Steps p.tables e below (T23.setTop (mkF m 119 #[.val (.int p0), .val (.int p1), .val (.long q2), .second, .val (.long q3), .second, .val (.long (p0.toInt64)), .second, .val (.long (p1.toInt64)), .second, .val (.long (((p1.toInt64) - (p0.toInt64)) + (1 : Int64))), .second, .val (.ref b1), .val (.ref b12), .val (.long (q3 &&& (4611686018427387903 : Int64))), .second, .val (.ref b_23)] [])) _
          refine XS.aload X23.here hx rfl (hb hby at_119) rfl rfl ?_
          show Steps p.tables e below (T23.setTop (mkF m 121 #[.val (.int p0), .val (.int p1), .val (.long q2), .second, .val (.long q3), .second, .val (.long (p0.toInt64)), .second, .val (.long (p1.toInt64)), .second, .val (.long (((p1.toInt64) - (p0.toInt64)) + (1 : Int64))), .second, .val (.ref b1), .val (.ref b12), .val (.long (q3 &&& (4611686018427387903 : Int64))), .second, .val (.ref b_23)] [(.ref b_23)])) _
          refine st26.trans ?_
          show Steps p.tables e below (T26.setTop (mkF m 124 #[.val (.int p0), .val (.int p1), .val (.long q2), .second, .val (.long q3), .second, .val (.long (p0.toInt64)), .second, .val (.long (p1.toInt64)), .second, .val (.long (((p1.toInt64) - (p0.toInt64)) + (1 : Int64))), .second, .val (.ref b1), .val (.ref b12), .val (.long (q3 &&& (4611686018427387903 : Int64))), .second, .val (.ref b_23)] [(.int (f4 (0 : Int64) ((q3 &&& (4611686018427387903 : Int64)) - (1 : Int64))))])) _
          refine XS.lload X26.here hx rfl (hb hby at_124) rfl ?_
          show Steps p.tables e below (T26.setTop (mkF m 126 #[.val (.int p0), .val (.int p1), .val (.long q2), .second, .val (.long q3), .second, .val (.long (p0.toInt64)), .second, .val (.long (p1.toInt64)), .second, .val (.long (((p1.toInt64) - (p0.toInt64)) + (1 : Int64))), .second, .val (.ref b1), .val (.ref b12), .val (.long (q3 &&& (4611686018427387903 : Int64))), .second, .val (.ref b_23)] [(.long (q3 &&& (4611686018427387903 : Int64))), (.int (f4 (0 : Int64) ((q3 &&& (4611686018427387903 : Int64)) - (1 : Int64))))])) _
          refine XS.lconst X26.here hx rfl (hb hby at_126) ?_
          show Steps p.tables e below (T26.setTop (mkF m 127 #[.val (.int p0), .val (.int p1), .val (.long q2), .second, .val (.long q3), .second, .val (.long (p0.toInt64)), .second, .val (.long (p1.toInt64)), .second, .val (.long (((p1.toInt64) - (p0.toInt64)) + (1 : Int64))), .second, .val (.ref b1), .val (.ref b12), .val (.long (q3 &&& (4611686018427387903 : Int64))), .second, .val (.ref b_23)] [(.long (0 : Int64)), (.long (q3 &&& (4611686018427387903 : Int64))), (.int (f4 (0 : Int64) ((q3 &&& (4611686018427387903 : Int64)) - (1 : Int64))))])) _
          refine XS.lcmp X26.here hx rfl (hb hby at_127) rfl ?_
          exact kt)
      by_cases hc128_28 : (lcmpW (q3 &&& (4611686018427387903 : Int64)) (0 : Int64)) = (0 : Int32)
      · have pre29 : ∀ t, Steps p.tables e below (T26.setTop (mkF m 136 #[.val (.int p0), .val (.int p1), .val (.long q2), .second, .val (.long q3), .second, .val (.long (p0.toInt64)), .second, .val (.long (p1.toInt64)), .second, .val (.long (((p1.toInt64) - (p0.toInt64)) + (1 : Int64))), .second, .val (.ref b1), .val (.ref b12), .val (.long (q3 &&& (4611686018427387903 : Int64))), .second, .val (.ref b_23)] [(.int (1 : Int32)), (.int (f4 (0 : Int64) ((q3 &&& (4611686018427387903 : Int64)) - (1 : Int64))))])) t → Steps p.tables e below (s₁.setTop (entryFrame m #[(.int p0), (.int p1), (.long q2), (.long q3)] maxLocals)) t := fun t kt => pre27 t (by
            show Steps p.tables e below (T26.setTop (mkF m 128 #[.val (.int p0), .val (.int p1), .val (.long q2), .second, .val (.long q3), .second, .val (.long (p0.toInt64)), .second, .val (.long (p1.toInt64)), .second, .val (.long (((p1.toInt64) - (p0.toInt64)) + (1 : Int64))), .second, .val (.ref b1), .val (.ref b12), .val (.long (q3 &&& (4611686018427387903 : Int64))), .second, .val (.ref b_23)] [(.int (lcmpW (q3 &&& (4611686018427387903 : Int64)) (0 : Int64))), (.int (f4 (0 : Int64) ((q3 &&& (4611686018427387903 : Int64)) - (1 : Int64))))])) _
            refine XS.ifNo X26.here hx rfl (hb hby at_128) rfl ((if0 _ _).trans (teq hc128_28).2) ?_
            show Steps p.tables e below (T26.setTop (mkF m 131 #[.val (.int p0), .val (.int p1), .val (.long q2), .second, .val (.long q3), .second, .val (.long (p0.toInt64)), .second, .val (.long (p1.toInt64)), .second, .val (.long (((p1.toInt64) - (p0.toInt64)) + (1 : Int64))), .second, .val (.ref b1), .val (.ref b12), .val (.long (q3 &&& (4611686018427387903 : Int64))), .second, .val (.ref b_23)] [(.int (f4 (0 : Int64) ((q3 &&& (4611686018427387903 : Int64)) - (1 : Int64))))])) _
            refine XS.iconst X26.here hx rfl (hb hby at_131) ?_
            show Steps p.tables e below (T26.setTop (mkF m 132 #[.val (.int p0), .val (.int p1), .val (.long q2), .second, .val (.long q3), .second, .val (.long (p0.toInt64)), .second, .val (.long (p1.toInt64)), .second, .val (.long (((p1.toInt64) - (p0.toInt64)) + (1 : Int64))), .second, .val (.ref b1), .val (.ref b12), .val (.long (q3 &&& (4611686018427387903 : Int64))), .second, .val (.ref b_23)] [(.int (1 : Int32)), (.int (f4 (0 : Int64) ((q3 &&& (4611686018427387903 : Int64)) - (1 : Int64))))])) _
            refine XS.goto X26.here hx rfl (pc0 := 132) (pc' := 136) rfl (hb hby at_132) (by decide) (by decide) ?_
            exact kt)
        have hd136_30 : (f4 (0 : Int64) ((q3 &&& (4611686018427387903 : Int64)) - (1 : Int64))) = (1 : Int32) := own_sz1 hc128_28
        obtain ⟨fs, hr, hrun, hended, hW, hsame⟩ := X26.leave (v := some (.int (1 : Int32))) (fun h => by rw [Bd.returns] at h; cases h)
        have hv94 : (1 : Int32) = (1 : Int32) := rfl
        refine ⟨_, _, pre29 _ ?_, hrun, hended, _, _, rfl, ?_, ⟨_, rfl⟩, hW, hsame.mono (by decide) (by decide)⟩
        · show Steps p.tables e below (T26.setTop (mkF m 136 #[.val (.int p0), .val (.int p1), .val (.long q2), .second, .val (.long q3), .second, .val (.long (p0.toInt64)), .second, .val (.long (p1.toInt64)), .second, .val (.long (((p1.toInt64) - (p0.toInt64)) + (1 : Int64))), .second, .val (.ref b1), .val (.ref b12), .val (.long (q3 &&& (4611686018427387903 : Int64))), .second, .val (.ref b_23)] [(.int (1 : Int32)), (.int (f4 (0 : Int64) ((q3 &&& (4611686018427387903 : Int64)) - (1 : Int64))))])) _
          refine XS.icmpNo X26.here hx rfl (hb hby at_136) rfl (teq hd136_30).2 ?_
          show Steps p.tables e below (T26.setTop (mkF m 139 #[.val (.int p0), .val (.int p1), .val (.long q2), .second, .val (.long q3), .second, .val (.long (p0.toInt64)), .second, .val (.long (p1.toInt64)), .second, .val (.long (((p1.toInt64) - (p0.toInt64)) + (1 : Int64))), .second, .val (.ref b1), .val (.ref b12), .val (.long (q3 &&& (4611686018427387903 : Int64))), .second, .val (.ref b_23)] [])) _
          refine XS.iconst X26.here hx rfl (hb hby at_139) ?_
          show Steps p.tables e below (T26.setTop (mkF m 140 #[.val (.int p0), .val (.int p1), .val (.long q2), .second, .val (.long q3), .second, .val (.long (p0.toInt64)), .second, .val (.long (p1.toInt64)), .second, .val (.long (((p1.toInt64) - (p0.toInt64)) + (1 : Int64))), .second, .val (.ref b1), .val (.ref b12), .val (.long (q3 &&& (4611686018427387903 : Int64))), .second, .val (.ref b_23)] [(.int (1 : Int32))])) _
          refine XS.goto X26.here hx rfl (pc0 := 140) (pc' := 144) rfl (hb hby at_140) (by decide) (by decide) ?_
          show Steps p.tables e below (T26.setTop (mkF m 144 #[.val (.int p0), .val (.int p1), .val (.long q2), .second, .val (.long q3), .second, .val (.long (p0.toInt64)), .second, .val (.long (p1.toInt64)), .second, .val (.long (((p1.toInt64) - (p0.toInt64)) + (1 : Int64))), .second, .val (.ref b1), .val (.ref b12), .val (.long (q3 &&& (4611686018427387903 : Int64))), .second, .val (.ref b_23)] [(.int (1 : Int32))])) _
          exact retN X26 hx (t := .boolean) Bd.returns (by simp) (hb hby at_144) hr
        · show Q0 Z p0 p1 q2 q3 h0 n0 _ T26.heap _
          rw [e26q]
          exact ⟨congrArg (fun q => some (Value.int q)) hv94, N26⟩
      · have pre31 : ∀ t, Steps p.tables e below (T26.setTop (mkF m 136 #[.val (.int p0), .val (.int p1), .val (.long q2), .second, .val (.long q3), .second, .val (.long (p0.toInt64)), .second, .val (.long (p1.toInt64)), .second, .val (.long (((p1.toInt64) - (p0.toInt64)) + (1 : Int64))), .second, .val (.ref b1), .val (.ref b12), .val (.long (q3 &&& (4611686018427387903 : Int64))), .second, .val (.ref b_23)] [(.int (0 : Int32)), (.int (f4 (0 : Int64) ((q3 &&& (4611686018427387903 : Int64)) - (1 : Int64))))])) t → Steps p.tables e below (s₁.setTop (entryFrame m #[(.int p0), (.int p1), (.long q2), (.long q3)] maxLocals)) t := fun t kt => pre27 t (by
            show Steps p.tables e below (T26.setTop (mkF m 128 #[.val (.int p0), .val (.int p1), .val (.long q2), .second, .val (.long q3), .second, .val (.long (p0.toInt64)), .second, .val (.long (p1.toInt64)), .second, .val (.long (((p1.toInt64) - (p0.toInt64)) + (1 : Int64))), .second, .val (.ref b1), .val (.ref b12), .val (.long (q3 &&& (4611686018427387903 : Int64))), .second, .val (.ref b_23)] [(.int (lcmpW (q3 &&& (4611686018427387903 : Int64)) (0 : Int64))), (.int (f4 (0 : Int64) ((q3 &&& (4611686018427387903 : Int64)) - (1 : Int64))))])) _
            refine XS.ifYes X26.here hx rfl (pc0 := 128) (pc' := 135) rfl (hb hby at_128) rfl ((if0 _ _).trans (feq hc128_28).2) (by decide) (by decide) ?_
            show Steps p.tables e below (T26.setTop (mkF m 135 #[.val (.int p0), .val (.int p1), .val (.long q2), .second, .val (.long q3), .second, .val (.long (p0.toInt64)), .second, .val (.long (p1.toInt64)), .second, .val (.long (((p1.toInt64) - (p0.toInt64)) + (1 : Int64))), .second, .val (.ref b1), .val (.ref b12), .val (.long (q3 &&& (4611686018427387903 : Int64))), .second, .val (.ref b_23)] [(.int (f4 (0 : Int64) ((q3 &&& (4611686018427387903 : Int64)) - (1 : Int64))))])) _
            refine XS.iconst X26.here hx rfl (hb hby at_135) ?_
            exact kt)
        have hd136_32 : (f4 (0 : Int64) ((q3 &&& (4611686018427387903 : Int64)) - (1 : Int64))) = (0 : Int32) := own_sz0 hc128_28
        obtain ⟨fs, hr, hrun, hended, hW, hsame⟩ := X26.leave (v := some (.int (1 : Int32))) (fun h => by rw [Bd.returns] at h; cases h)
        have hv95 : (1 : Int32) = (1 : Int32) := rfl
        refine ⟨_, _, pre31 _ ?_, hrun, hended, _, _, rfl, ?_, ⟨_, rfl⟩, hW, hsame.mono (by decide) (by decide)⟩
        · show Steps p.tables e below (T26.setTop (mkF m 136 #[.val (.int p0), .val (.int p1), .val (.long q2), .second, .val (.long q3), .second, .val (.long (p0.toInt64)), .second, .val (.long (p1.toInt64)), .second, .val (.long (((p1.toInt64) - (p0.toInt64)) + (1 : Int64))), .second, .val (.ref b1), .val (.ref b12), .val (.long (q3 &&& (4611686018427387903 : Int64))), .second, .val (.ref b_23)] [(.int (0 : Int32)), (.int (f4 (0 : Int64) ((q3 &&& (4611686018427387903 : Int64)) - (1 : Int64))))])) _
          refine XS.icmpNo X26.here hx rfl (hb hby at_136) rfl (teq hd136_32).2 ?_
          show Steps p.tables e below (T26.setTop (mkF m 139 #[.val (.int p0), .val (.int p1), .val (.long q2), .second, .val (.long q3), .second, .val (.long (p0.toInt64)), .second, .val (.long (p1.toInt64)), .second, .val (.long (((p1.toInt64) - (p0.toInt64)) + (1 : Int64))), .second, .val (.ref b1), .val (.ref b12), .val (.long (q3 &&& (4611686018427387903 : Int64))), .second, .val (.ref b_23)] [])) _
          refine XS.iconst X26.here hx rfl (hb hby at_139) ?_
          show Steps p.tables e below (T26.setTop (mkF m 140 #[.val (.int p0), .val (.int p1), .val (.long q2), .second, .val (.long q3), .second, .val (.long (p0.toInt64)), .second, .val (.long (p1.toInt64)), .second, .val (.long (((p1.toInt64) - (p0.toInt64)) + (1 : Int64))), .second, .val (.ref b1), .val (.ref b12), .val (.long (q3 &&& (4611686018427387903 : Int64))), .second, .val (.ref b_23)] [(.int (1 : Int32))])) _
          refine XS.goto X26.here hx rfl (pc0 := 140) (pc' := 144) rfl (hb hby at_140) (by decide) (by decide) ?_
          show Steps p.tables e below (T26.setTop (mkF m 144 #[.val (.int p0), .val (.int p1), .val (.long q2), .second, .val (.long q3), .second, .val (.long (p0.toInt64)), .second, .val (.long (p1.toInt64)), .second, .val (.long (((p1.toInt64) - (p0.toInt64)) + (1 : Int64))), .second, .val (.ref b1), .val (.ref b12), .val (.long (q3 &&& (4611686018427387903 : Int64))), .second, .val (.ref b_23)] [(.int (1 : Int32))])) _
          exact retN X26 hx (t := .boolean) Bd.returns (by simp) (hb hby at_144) hr
        · show Q0 Z p0 p1 q2 q3 h0 n0 _ T26.heap _
          rw [e26q]
          exact ⟨congrArg (fun q => some (Value.int q)) hv95, N26⟩
    · obtain ⟨T33, h33, X33, e33, E33, A33, D33, -, st33⟩ := newO X18 hx hZ hown (hw _ (List.mem_of_getElem? (i := 0) rfl)) (hw _ (List.mem_of_getElem? (i := 1) rfl)) (hw _ (List.mem_of_getElem? (i := 2) rfl)) e18q (g := (mkF m 81 #[.val (.int p0), .val (.int p1), .val (.long q2), .second, .val (.long q3), .second, .val (.long (p0.toInt64)), .second, .val (.long (p1.toInt64)), .second, .val (.long (((p1.toInt64) - (p0.toInt64)) + (1 : Int64))), .second, .val (.ref b1), .val (.ref b12), .unset, .unset, .unset] [])) rfl (hb hby at_81) (by decide) (by decide)
      obtain ⟨b33, g33⟩ : ∃ z, z = T15.heap.size := ⟨_, rfl⟩
      rw [← g33] at A33 D33 st33
      have g_b33 : n0 ≤ b33 := Nat.le_trans Z17 (Nat.le_of_eq g33.symm)
      have sz_b33 : h0.size ≤ b33 := Nat.le_trans K16.1 (Nat.le_of_eq g33.symm)
      have ne_b1_b33 : b1 ≠ b33 := Nat.ne_of_lt (Nat.lt_of_lt_of_le (((E_b1.keep K4q).ext E12).keep K15q).lt (Nat.le_of_eq g33.symm))
      have ne_b12_b33 : b12 ≠ b33 := Nat.ne_of_lt (Nat.lt_of_lt_of_le (E_b12.keep K15q).lt (Nat.le_of_eq g33.symm))
      have K34 : Keep h0 h33 [] := K16.ext E33
      have Z35 : n0 ≤ h33.size := Nat.le_trans Z0 K34.1
      have E_b33 := A33
      have F_first_b33 : Fld Z h33 b33 "com/example/cratewise/cratewise/server/ByteRange" "first" "J" (.long (0 : Int64)) := D33 (Or.inr (hw _ (List.mem_of_getElem? (i := 15) rfl))) (ty := .long) (by decide)
      have F_last_b33 : Fld Z h33 b33 "com/example/cratewise/cratewise/server/ByteRange" "last" "J" (.long (0 : Int64)) := D33 (Or.inr (hw _ (List.mem_of_getElem? (i := 17) rfl))) (ty := .long) (by decide)
      obtain ⟨_, _, ⟨T36, L36, k36, n36⟩, -, X36, ⟨Lc36, hQ36, l36, y36, z36⟩, st36⟩ := X33.specialBack hx (y := (⟨"com/example/cratewise/cratewise/server/ByteRange", "<init>", "(JJ)V"⟩ : MethodName)) rfl hown (mvT hZ (hw _ (List.mem_of_getElem? (i := 3) rfl))) (mvT hZ (hw _ (List.mem_of_getElem? (i := 4) rfl))) (mvT hZ (hw _ (List.mem_of_getElem? (i := 5) rfl))) (by decide) (backOf (W := 1) (rm1 l Z a0 hw [] b33 q2 (q2 - (1 : Int64)) (0 : Int64) (0 : Int64) h33 n0 Z35 E_b33 F_first_b33 g_b33 F_last_b33) hZ (hw _ (List.mem_of_getElem? (i := 5) rfl)) (hw _ (List.mem_of_getElem? (i := 2) rfl)) (by decide) (by decide)) (g := (mkF m 89 #[.val (.int p0), .val (.int p1), .val (.long q2), .second, .val (.long q3), .second, .val (.long (p0.toInt64)), .second, .val (.long (p1.toInt64)), .second, .val (.long (((p1.toInt64) - (p0.toInt64)) + (1 : Int64))), .second, .val (.ref b1), .val (.ref b12), .unset, .unset, .unset] [(.long (q2 - (1 : Int64))), (.long q2), (.ref b33), (.ref b33)])) rfl (by rw [hml]; rfl) (Steps.refl _) (a := b33) (argsL := [(.long q2), (.long (q2 - (1 : Int64)))]) (rest := [(.ref b33)]) (lenOf pd_0_0 rfl) rfl (by show 2 * 0 + _ ≤ _; exact Nat.le_of_eq rfl) (hb hby at_89) (fun _ _ => ⟨rfl, e33, (by decide : 3 + 0 ≤ _), (by decide : 6 + 0 ≤ _)⟩)
      dsimp only [Pt.U, Pt.locs, Pt.cells, Pt.slots] at X36 l36 y36 z36 st36 hQ36
      subst l36 y36 z36
      obtain ⟨rfl, N36q, K36q, G36_0, G36_1⟩ := hQ36
      have N36 := Fr.app N18 N36q
      have K37 : Keep h0 T36.heap [] := K34.trans K36q (allS (Or.inr sz_b33) all0)
      have Z38 : n0 ≤ T36.heap.size := Nat.le_trans Z0 K37.1
      obtain ⟨cq39, kq39, q39a, q39b, q39c⟩ := isOf hZ rfl (E_b33.keep K36q)
      obtain ⟨_, _, ⟨T39, L39, k39, n39⟩, -, X39, ⟨Lc39, hQ39, l39, y39, z39⟩, st39⟩ := X36.virtualBack hx (y := (⟨"com/example/cratewise/cratewise/server/ByteRange", "isEmpty", "()Z"⟩ : MethodName)) (z := (⟨"com/example/cratewise/cratewise/server/ByteRange", "isEmpty", "()Z"⟩ : MethodName)) hown (mvT hZ (hw _ (List.mem_of_getElem? (i := 18) rfl))) (mvT hZ (hw _ (List.mem_of_getElem? (i := 19) rfl))) (notFace_of_selects (args := #[]) (mvT hZ (hw _ (List.mem_of_getElem? (i := 21) rfl)))) (mvT hZ (hw _ (List.mem_of_getElem? (i := 21) rfl))) (mvT hZ (hw _ (List.mem_of_getElem? (i := 20) rfl))) (by decide) (backOf (W := 0) (rm4 l Z a0 hw [] b33 q2 (q2 - (1 : Int64)) T36.heap n0 Z38 G36_0 G36_1) hZ (hw _ (List.mem_of_getElem? (i := 22) rfl)) (hw _ (List.mem_of_getElem? (i := 2) rfl)) (by decide) (by decide)) q39a q39c (g := (mkF m 96 #[.val (.int p0), .val (.int p1), .val (.long q2), .second, .val (.long q3), .second, .val (.long (p0.toInt64)), .second, .val (.long (p1.toInt64)), .second, .val (.long (((p1.toInt64) - (p0.toInt64)) + (1 : Int64))), .second, .val (.ref b1), .val (.ref b12), .val (.ref b33), .unset, .unset] [(.ref b33)])) rfl (by rw [hml]; rfl) (Steps.refl _) (argsL := []) (rest := []) (lenOf pd_0_1 rfl) rfl (by show 2 * 0 + _ ≤ _; exact Nat.le_of_eq rfl) (hb hby at_96) (fun _ _ => ⟨rfl, rfl, (by decide : 3 + 0 ≤ _), (by decide : 6 + 0 ≤ _)⟩)
      dsimp only [Pt.U, Pt.locs, Pt.cells, Pt.slots] at X39 l39 y39 z39 st39 hQ39
      subst l39 y39 z39
      obtain ⟨rfl, N39q, e39q⟩ := hQ39
      have N39 := Fr.app N36 N39q
      have pre40 : ∀ t, Steps p.tables e below (T39.setTop (mkF m 99 #[.val (.int p0), .val (.int p1), .val (.long q2), .second, .val (.long q3), .second, .val (.long (p0.toInt64)), .second, .val (.long (p1.toInt64)), .second, .val (.long (((p1.toInt64) - (p0.toInt64)) + (1 : Int64))), .second, .val (.ref b1), .val (.ref b12), .val (.ref b33), .unset, .unset] [(.int (f4 q2 (q2 - (1 : Int64))))])) t → Steps p.tables e below (s₁.setTop (entryFrame m #[(.int p0), (.int p1), (.long q2), (.long q3)] maxLocals)) t := fun t kt => pre21 t (by
          show Steps p.tables e below (T18.setTop (mkF m 78 #[.val (.int p0), .val (.int p1), .val (.long q2), .second, .val (.long q3), .second, .val (.long (p0.toInt64)), .second, .val (.long (p1.toInt64)), .second, .val (.long (((p1.toInt64) - (p0.toInt64)) + (1 : Int64))), .second, .val (.ref b1), .val (.ref b12), .unset, .unset, .unset] [(.int (lcmpW q2 (-9223372036854775808 : Int64)))])) _
          refine XS.ifNo X18.here hx rfl (hb hby at_78) rfl ((if0 _ _).trans (feq hc78_22).1) ?_
          show Steps p.tables e below (T18.setTop (mkF m 81 #[.val (.int p0), .val (.int p1), .val (.long q2), .second, .val (.long q3), .second, .val (.long (p0.toInt64)), .second, .val (.long (p1.toInt64)), .second, .val (.long (((p1.toInt64) - (p0.toInt64)) + (1 : Int64))), .second, .val (.ref b1), .val (.ref b12), .unset, .unset, .unset] [])) _
          refine st33 _ ?_
          show Steps p.tables e below (T33.setTop (mkF m 84 #[.val (.int p0), .val (.int p1), .val (.long q2), .second, .val (.long q3), .second, .val (.long (p0.toInt64)), .second, .val (.long (p1.toInt64)), .second, .val (.long (((p1.toInt64) - (p0.toInt64)) + (1 : Int64))), .second, .val (.ref b1), .val (.ref b12), .unset, .unset, .unset] [(.ref b33)])) _
          refine XS.dup X33.here hx rfl (hb hby at_84) rfl rfl ?_
          show Steps p.tables e below (T33.setTop (mkF m 85 #[.val (.int p0), .val (.int p1), .val (.long q2), .second, .val (.long q3), .second, .val (.long (p0.toInt64)), .second, .val (.long (p1.toInt64)), .second, .val (.long (((p1.toInt64) - (p0.toInt64)) + (1 : Int64))), .second, .val (.ref b1), .val (.ref b12), .unset, .unset, .unset] [(.ref b33), (.ref b33)])) _
          refine XS.lloadN X33.here hx rfl (hb hby at_85) rfl ?_
          show Steps p.tables e below (T33.setTop (mkF m 86 #[.val (.int p0), .val (.int p1), .val (.long q2), .second, .val (.long q3), .second, .val (.long (p0.toInt64)), .second, .val (.long (p1.toInt64)), .second, .val (.long (((p1.toInt64) - (p0.toInt64)) + (1 : Int64))), .second, .val (.ref b1), .val (.ref b12), .unset, .unset, .unset] [(.long q2), (.ref b33), (.ref b33)])) _
          refine XS.lloadN X33.here hx rfl (hb hby at_86) rfl ?_
          show Steps p.tables e below (T33.setTop (mkF m 87 #[.val (.int p0), .val (.int p1), .val (.long q2), .second, .val (.long q3), .second, .val (.long (p0.toInt64)), .second, .val (.long (p1.toInt64)), .second, .val (.long (((p1.toInt64) - (p0.toInt64)) + (1 : Int64))), .second, .val (.ref b1), .val (.ref b12), .unset, .unset, .unset] [(.long q2), (.long q2), (.ref b33), (.ref b33)])) _
          refine XS.lconst X33.here hx rfl (hb hby at_87) ?_
          show Steps p.tables e below (T33.setTop (mkF m 88 #[.val (.int p0), .val (.int p1), .val (.long q2), .second, .val (.long q3), .second, .val (.long (p0.toInt64)), .second, .val (.long (p1.toInt64)), .second, .val (.long (((p1.toInt64) - (p0.toInt64)) + (1 : Int64))), .second, .val (.ref b1), .val (.ref b12), .unset, .unset, .unset] [(.long (1 : Int64)), (.long q2), (.long q2), (.ref b33), (.ref b33)])) _
          refine XS.lsub X33.here hx rfl (hb hby at_88) rfl ?_
          show Steps p.tables e below (T33.setTop (mkF m 89 #[.val (.int p0), .val (.int p1), .val (.long q2), .second, .val (.long q3), .second, .val (.long (p0.toInt64)), .second, .val (.long (p1.toInt64)), .second, .val (.long (((p1.toInt64) - (p0.toInt64)) + (1 : Int64))), .second, .val (.ref b1), .val (.ref b12), .unset, .unset, .unset] [(.long (q2 - (1 : Int64))), (.long q2), (.ref b33), (.ref b33)])) _
          refine st36.trans ?_
          show Steps p.tables e below (T36.setTop (mkF m 92 #[.val (.int p0), .val (.int p1), .val (.long q2), .second, .val (.long q3), .second, .val (.long (p0.toInt64)), .second, .val (.long (p1.toInt64)), .second, .val (.long (((p1.toInt64) - (p0.toInt64)) + (1 : Int64))), .second, .val (.ref b1), .val (.ref b12), .unset, .unset, .unset] [(.ref b33)])) _
          refine XS.astore X36.here hx rfl (hb hby at_92) rfl rfl (l' := #[.val (.int p0), .val (.int p1), .val (.long q2), .second, .val (.long q3), .second, .val (.long (p0.toInt64)), .second, .val (.long (p1.toInt64)), .second, .val (.long (((p1.toInt64) - (p0.toInt64)) + (1 : Int64))), .second, .val (.ref b1), .val (.ref b12), .val (.ref b33), .unset, .unset]) rfl ?_
          show Steps p.tables e below (T36.setTop (mkF m 94 #[.val (.int p0), .val (.int p1), .val (.long q2), .second, .val (.long q3), .second, .val (.long (p0.toInt64)), .second, .val (.long (p1.toInt64)), .second, .val (.long (((p1.toInt64) - (p0.toInt64)) + (1 : Int64))), .second, .val (.ref b1), .val (.ref b12), .val (.ref b33), .unset, .unset] [])) _
          refine XS.aload X36.here hx rfl (hb hby at_94) rfl rfl ?_
          show Steps p.tables e below (T36.setTop (mkF m 96 #[.val (.int p0), .val (.int p1), .val (.long q2), .second, .val (.long q3), .second, .val (.long (p0.toInt64)), .second, .val (.long (p1.toInt64)), .second, .val (.long (((p1.toInt64) - (p0.toInt64)) + (1 : Int64))), .second, .val (.ref b1), .val (.ref b12), .val (.ref b33), .unset, .unset] [(.ref b33)])) _
          refine st39.trans ?_
          exact kt)
      have hd99_41 : ¬ ((f4 q2 (q2 - (1 : Int64))) = (0 : Int32)) := own_none hc78_22
      obtain ⟨_, _, ⟨T42, L42, k42, n42⟩, -, X42, ⟨Lc42, hQ42, l42, y42, z42⟩, st42⟩ := Jvm.LawKit.callS X39 hx (y := (⟨"com/example/cratewise/cratewise/server/ByteRange", "whole", "(J)Lcom/example/cratewise/cratewise/server/ByteRange;"⟩ : MethodName)) hown (mvT hZ (hw _ (List.mem_of_getElem? (i := 25) rfl))) (mvT hZ (hw _ (List.mem_of_getElem? (i := 26) rfl))) (mvT hZ (hw _ (List.mem_of_getElem? (i := 2) rfl))) (mvT hZ (hw _ (List.mem_of_getElem? (i := 27) rfl))) (by decide) (backOf (W := 0) (rm5 l Z a0 hw [] (q3 &&& (4611686018427387903 : Int64)) T36.heap n0 Z38 ) hZ (hw _ (List.mem_of_getElem? (i := 27) rfl)) (hw _ (List.mem_of_getElem? (i := 2) rfl)) (by decide) (by decide)) (g := (mkF m 114 #[.val (.int p0), .val (.int p1), .val (.long q2), .second, .val (.long q3), .second, .val (.long (p0.toInt64)), .second, .val (.long (p1.toInt64)), .second, .val (.long (((p1.toInt64) - (p0.toInt64)) + (1 : Int64))), .second, .val (.ref b1), .val (.ref b12), .val (.long (q3 &&& (4611686018427387903 : Int64))), .second, .unset] [(.long (q3 &&& (4611686018427387903 : Int64)))])) rfl (by rw [hml]; rfl) (argsL := [(.long (q3 &&& (4611686018427387903 : Int64)))]) (rest := []) (lenOf pd_0_2 rfl) rfl (by show 2 * 0 + _ ≤ _; exact Nat.le_of_eq rfl) (hb hby at_114) (fun _ _ => ⟨rfl, e39q, (by decide : 3 + 1 ≤ _), (by decide : 6 + 2 ≤ _)⟩)
      dsimp only [Pt.U, Pt.locs, Pt.cells, Pt.slots] at X42 l42 y42 z42 st42 hQ42
      subst l42 y42 z42
      obtain ⟨b_42, rfl, N42q, K42q, g_b_42, szq_b_42, G42_0, G42_1, G42_2⟩ := hQ42
      have N42 := Fr.app N39 N42q
      have ne_b1_b_42 : b1 ≠ b_42 := Nat.ne_of_lt (Nat.lt_of_lt_of_le (((((E_b1.keep K4q).ext E12).keep K15q).ext E33).keep K36q).lt szq_b_42)
      have ne_b12_b_42 : b12 ≠ b_42 := Nat.ne_of_lt (Nat.lt_of_lt_of_le (((E_b12.keep K15q).ext E33).keep K36q).lt szq_b_42)
      have ne_b33_b_42 : b33 ≠ b_42 := Nat.ne_of_lt (Nat.lt_of_lt_of_le (E_b33.keep K36q).lt szq_b_42)
      have sz_b_42 : h0.size ≤ b_42 := Nat.le_trans K37.1 szq_b_42
      have K43 : Keep h0 T42.heap [] := K37.trans K42q all0
      have Z44 : n0 ≤ T42.heap.size := Nat.le_trans Z0 K43.1
      obtain ⟨cq45, kq45, q45a, q45b, q45c⟩ := isOf hZ rfl G42_0
      obtain ⟨_, _, ⟨T45, L45, k45, n45⟩, -, X45, ⟨Lc45, hQ45, l45, y45, z45⟩, st45⟩ := X42.virtualBack hx (y := (⟨"com/example/cratewise/cratewise/server/ByteRange", "isEmpty", "()Z"⟩ : MethodName)) (z := (⟨"com/example/cratewise/cratewise/server/ByteRange", "isEmpty", "()Z"⟩ : MethodName)) hown (mvT hZ (hw _ (List.mem_of_getElem? (i := 18) rfl))) (mvT hZ (hw _ (List.mem_of_getElem? (i := 19) rfl))) (notFace_of_selects (args := #[]) (mvT hZ (hw _ (List.mem_of_getElem? (i := 21) rfl)))) (mvT hZ (hw _ (List.mem_of_getElem? (i := 21) rfl))) (mvT hZ (hw _ (List.mem_of_getElem? (i := 20) rfl))) (by decide) (backOf (W := 0) (rm4 l Z a0 hw [] b_42 (0 : Int64) ((q3 &&& (4611686018427387903 : Int64)) - (1 : Int64)) T42.heap n0 Z44 G42_1 G42_2) hZ (hw _ (List.mem_of_getElem? (i := 22) rfl)) (hw _ (List.mem_of_getElem? (i := 2) rfl)) (by decide) (by decide)) q45a q45c (g := (mkF m 121 #[.val (.int p0), .val (.int p1), .val (.long q2), .second, .val (.long q3), .second, .val (.long (p0.toInt64)), .second, .val (.long (p1.toInt64)), .second, .val (.long (((p1.toInt64) - (p0.toInt64)) + (1 : Int64))), .second, .val (.ref b1), .val (.ref b12), .val (.long (q3 &&& (4611686018427387903 : Int64))), .second, .val (.ref b_42)] [(.ref b_42)])) rfl (by rw [hml]; rfl) (Steps.refl _) (argsL := []) (rest := []) (lenOf pd_0_1 rfl) rfl (by show 2 * 0 + _ ≤ _; exact Nat.le_of_eq rfl) (hb hby at_121) (fun _ _ => ⟨rfl, rfl, (by decide : 4 + 0 ≤ _), (by decide : 8 + 0 ≤ _)⟩)
      dsimp only [Pt.U, Pt.locs, Pt.cells, Pt.slots] at X45 l45 y45 z45 st45 hQ45
      subst l45 y45 z45
      obtain ⟨rfl, N45q, e45q⟩ := hQ45
      have N45 := Fr.app N42 N45q
      have pre46 : ∀ t, Steps p.tables e below (T45.setTop (mkF m 128 #[.val (.int p0), .val (.int p1), .val (.long q2), .second, .val (.long q3), .second, .val (.long (p0.toInt64)), .second, .val (.long (p1.toInt64)), .second, .val (.long (((p1.toInt64) - (p0.toInt64)) + (1 : Int64))), .second, .val (.ref b1), .val (.ref b12), .val (.long (q3 &&& (4611686018427387903 : Int64))), .second, .val (.ref b_42)] [(.int (lcmpW (q3 &&& (4611686018427387903 : Int64)) (0 : Int64))), (.int (f4 (0 : Int64) ((q3 &&& (4611686018427387903 : Int64)) - (1 : Int64))))])) t → Steps p.tables e below (s₁.setTop (entryFrame m #[(.int p0), (.int p1), (.long q2), (.long q3)] maxLocals)) t := fun t kt => pre40 t (by
          show Steps p.tables e below (T39.setTop (mkF m 99 #[.val (.int p0), .val (.int p1), .val (.long q2), .second, .val (.long q3), .second, .val (.long (p0.toInt64)), .second, .val (.long (p1.toInt64)), .second, .val (.long (((p1.toInt64) - (p0.toInt64)) + (1 : Int64))), .second, .val (.ref b1), .val (.ref b12), .val (.ref b33), .unset, .unset] [(.int (f4 q2 (q2 - (1 : Int64))))])) _
          refine XS.ifYes X39.here hx rfl (pc0 := 99) (pc' := 104) rfl (hb hby at_99) rfl ((if0 _ _).trans (feq hd99_41).2) (by decide) (by decide) ?_
          show Steps p.tables e below (T39.setTop (mkF m 104 #[.val (.int p0), .val (.int p1), .val (.long q2), .second, .val (.long q3), .second, .val (.long (p0.toInt64)), .second, .val (.long (p1.toInt64)), .second, .val (.long (((p1.toInt64) - (p0.toInt64)) + (1 : Int64))), .second, .val (.ref b1), .val (.ref b12), .val (.ref b33), .unset, .unset] [])) _
          refine XS.lload X39.here hx rfl (hb hby at_104) rfl ?_
          show Steps p.tables e below (T39.setTop (mkF m 106 #[.val (.int p0), .val (.int p1), .val (.long q2), .second, .val (.long q3), .second, .val (.long (p0.toInt64)), .second, .val (.long (p1.toInt64)), .second, .val (.long (((p1.toInt64) - (p0.toInt64)) + (1 : Int64))), .second, .val (.ref b1), .val (.ref b12), .val (.ref b33), .unset, .unset] [(.long q3)])) _
          refine X39.ldc2Long hx hown (mvT hZ (hw _ (List.mem_of_getElem? (i := 24) rfl))) (g := (mkF m 106 #[.val (.int p0), .val (.int p1), .val (.long q2), .second, .val (.long q3), .second, .val (.long (p0.toInt64)), .second, .val (.long (p1.toInt64)), .second, .val (.long (((p1.toInt64) - (p0.toInt64)) + (1 : Int64))), .second, .val (.ref b1), .val (.ref b12), .val (.ref b33), .unset, .unset] [(.long q3)])) rfl (hb hby at_106) _ ?_
          show Steps p.tables e below (T39.setTop (mkF m 109 #[.val (.int p0), .val (.int p1), .val (.long q2), .second, .val (.long q3), .second, .val (.long (p0.toInt64)), .second, .val (.long (p1.toInt64)), .second, .val (.long (((p1.toInt64) - (p0.toInt64)) + (1 : Int64))), .second, .val (.ref b1), .val (.ref b12), .val (.ref b33), .unset, .unset] [(.long (4611686018427387903 : Int64)), (.long q3)])) _
          refine XS.land X39.here hx rfl (hb hby at_109) rfl ?_
          show Steps p.tables e below (T39.setTop (mkF m 110 #[.val (.int p0), .val (.int p1), .val (.long q2), .second, .val (.long q3), .second, .val (.long (p0.toInt64)), .second, .val (.long (p1.toInt64)), .second, .val (.long (((p1.toInt64) - (p0.toInt64)) + (1 : Int64))), .second, .val (.ref b1), .val (.ref b12), .val (.ref b33), .unset, .unset] [(.long (q3 &&& (4611686018427387903 : Int64)))])) _
          refine XS.lstore X39.here hx rfl (hb hby at_110) rfl (l' := #[.val (.int p0), .val (.int p1), .val (.long q2), .second, .val (.long q3), .second, .val (.long (p0.toInt64)), .second, .val (.long (p1.toInt64)), .second, .val (.long (((p1.toInt64) - (p0.toInt64)) + (1 : Int64))), .second, .val (.ref b1), .val (.ref b12), .val (.long (q3 &&& (4611686018427387903 : Int64))), .second, .unset]) rfl ?_
          show Steps p.tables e below (T39.setTop (mkF m 112 #[.val (.int p0), .val (.int p1), .val (.long q2), .second, .val (.long q3), .second, .val (.long (p0.toInt64)), .second, .val (.long (p1.toInt64)), .second, .val (.long (((p1.toInt64) - (p0.toInt64)) + (1 : Int64))), .second, .val (.ref b1), .val (.ref b12), .val (.long (q3 &&& (4611686018427387903 : Int64))), .second, .unset] [])) _
          refine XS.lload X39.here hx rfl (hb hby at_112) rfl ?_
          show Steps p.tables e below (T39.setTop (mkF m 114 #[.val (.int p0), .val (.int p1), .val (.long q2), .second, .val (.long q3), .second, .val (.long (p0.toInt64)), .second, .val (.long (p1.toInt64)), .second, .val (.long (((p1.toInt64) - (p0.toInt64)) + (1 : Int64))), .second, .val (.ref b1), .val (.ref b12), .val (.long (q3 &&& (4611686018427387903 : Int64))), .second, .unset] [(.long (q3 &&& (4611686018427387903 : Int64)))])) _
          refine st42 _ ?_
          show Steps p.tables e below (T42.setTop (mkF m 117 #[.val (.int p0), .val (.int p1), .val (.long q2), .second, .val (.long q3), .second, .val (.long (p0.toInt64)), .second, .val (.long (p1.toInt64)), .second, .val (.long (((p1.toInt64) - (p0.toInt64)) + (1 : Int64))), .second, .val (.ref b1), .val (.ref b12), .val (.long (q3 &&& (4611686018427387903 : Int64))), .second, .unset] [(.ref b_42)])) _
          refine XS.astore X42.here hx rfl (hb hby at_117) rfl rfl (l' := #[.val (.int p0), .val (.int p1), .val (.long q2), .second, .val (.long q3), .second, .val (.long (p0.toInt64)), .second, .val (.long (p1.toInt64)), .second, .val (.long (((p1.toInt64) - (p0.toInt64)) + (1 : Int64))), .second, .val (.ref b1), .val (.ref b12), .val (.long (q3 &&& (4611686018427387903 : Int64))), .second, .val (.ref b_42)]) rfl ?_
          show Steps p.tables e below (T42.setTop (mkF m 119 #[.val (.int p0), .val (.int p1), .val (.long q2), .second, .val (.long q3), .second, .val (.long (p0.toInt64)), .second, .val (.long (p1.toInt64)), .second, .val (.long (((p1.toInt64) - (p0.toInt64)) + (1 : Int64))), .second, .val (.ref b1), .val (.ref b12), .val (.long (q3 &&& (4611686018427387903 : Int64))), .second, .val (.ref b_42)] [])) _
          refine XS.aload X42.here hx rfl (hb hby at_119) rfl rfl ?_
          show Steps p.tables e below (T42.setTop (mkF m 121 #[.val (.int p0), .val (.int p1), .val (.long q2), .second, .val (.long q3), .second, .val (.long (p0.toInt64)), .second, .val (.long (p1.toInt64)), .second, .val (.long (((p1.toInt64) - (p0.toInt64)) + (1 : Int64))), .second, .val (.ref b1), .val (.ref b12), .val (.long (q3 &&& (4611686018427387903 : Int64))), .second, .val (.ref b_42)] [(.ref b_42)])) _
          refine st45.trans ?_
          show Steps p.tables e below (T45.setTop (mkF m 124 #[.val (.int p0), .val (.int p1), .val (.long q2), .second, .val (.long q3), .second, .val (.long (p0.toInt64)), .second, .val (.long (p1.toInt64)), .second, .val (.long (((p1.toInt64) - (p0.toInt64)) + (1 : Int64))), .second, .val (.ref b1), .val (.ref b12), .val (.long (q3 &&& (4611686018427387903 : Int64))), .second, .val (.ref b_42)] [(.int (f4 (0 : Int64) ((q3 &&& (4611686018427387903 : Int64)) - (1 : Int64))))])) _
          refine XS.lload X45.here hx rfl (hb hby at_124) rfl ?_
          show Steps p.tables e below (T45.setTop (mkF m 126 #[.val (.int p0), .val (.int p1), .val (.long q2), .second, .val (.long q3), .second, .val (.long (p0.toInt64)), .second, .val (.long (p1.toInt64)), .second, .val (.long (((p1.toInt64) - (p0.toInt64)) + (1 : Int64))), .second, .val (.ref b1), .val (.ref b12), .val (.long (q3 &&& (4611686018427387903 : Int64))), .second, .val (.ref b_42)] [(.long (q3 &&& (4611686018427387903 : Int64))), (.int (f4 (0 : Int64) ((q3 &&& (4611686018427387903 : Int64)) - (1 : Int64))))])) _
          refine XS.lconst X45.here hx rfl (hb hby at_126) ?_
          show Steps p.tables e below (T45.setTop (mkF m 127 #[.val (.int p0), .val (.int p1), .val (.long q2), .second, .val (.long q3), .second, .val (.long (p0.toInt64)), .second, .val (.long (p1.toInt64)), .second, .val (.long (((p1.toInt64) - (p0.toInt64)) + (1 : Int64))), .second, .val (.ref b1), .val (.ref b12), .val (.long (q3 &&& (4611686018427387903 : Int64))), .second, .val (.ref b_42)] [(.long (0 : Int64)), (.long (q3 &&& (4611686018427387903 : Int64))), (.int (f4 (0 : Int64) ((q3 &&& (4611686018427387903 : Int64)) - (1 : Int64))))])) _
          refine XS.lcmp X45.here hx rfl (hb hby at_127) rfl ?_
          exact kt)
      by_cases hc128_47 : (lcmpW (q3 &&& (4611686018427387903 : Int64)) (0 : Int64)) = (0 : Int32)
      · have pre48 : ∀ t, Steps p.tables e below (T45.setTop (mkF m 136 #[.val (.int p0), .val (.int p1), .val (.long q2), .second, .val (.long q3), .second, .val (.long (p0.toInt64)), .second, .val (.long (p1.toInt64)), .second, .val (.long (((p1.toInt64) - (p0.toInt64)) + (1 : Int64))), .second, .val (.ref b1), .val (.ref b12), .val (.long (q3 &&& (4611686018427387903 : Int64))), .second, .val (.ref b_42)] [(.int (1 : Int32)), (.int (f4 (0 : Int64) ((q3 &&& (4611686018427387903 : Int64)) - (1 : Int64))))])) t → Steps p.tables e below (s₁.setTop (entryFrame m #[(.int p0), (.int p1), (.long q2), (.long q3)] maxLocals)) t := fun t kt => pre46 t (by
            show Steps p.tables e below (T45.setTop (mkF m 128 #[.val (.int p0), .val (.int p1), .val (.long q2), .second, .val (.long q3), .second, .val (.long (p0.toInt64)), .second, .val (.long (p1.toInt64)), .second, .val (.long (((p1.toInt64) - (p0.toInt64)) + (1 : Int64))), .second, .val (.ref b1), .val (.ref b12), .val (.long (q3 &&& (4611686018427387903 : Int64))), .second, .val (.ref b_42)] [(.int (lcmpW (q3 &&& (4611686018427387903 : Int64)) (0 : Int64))), (.int (f4 (0 : Int64) ((q3 &&& (4611686018427387903 : Int64)) - (1 : Int64))))])) _
            refine XS.ifNo X45.here hx rfl (hb hby at_128) rfl ((if0 _ _).trans (teq hc128_47).2) ?_
            show Steps p.tables e below (T45.setTop (mkF m 131 #[.val (.int p0), .val (.int p1), .val (.long q2), .second, .val (.long q3), .second, .val (.long (p0.toInt64)), .second, .val (.long (p1.toInt64)), .second, .val (.long (((p1.toInt64) - (p0.toInt64)) + (1 : Int64))), .second, .val (.ref b1), .val (.ref b12), .val (.long (q3 &&& (4611686018427387903 : Int64))), .second, .val (.ref b_42)] [(.int (f4 (0 : Int64) ((q3 &&& (4611686018427387903 : Int64)) - (1 : Int64))))])) _
            refine XS.iconst X45.here hx rfl (hb hby at_131) ?_
            show Steps p.tables e below (T45.setTop (mkF m 132 #[.val (.int p0), .val (.int p1), .val (.long q2), .second, .val (.long q3), .second, .val (.long (p0.toInt64)), .second, .val (.long (p1.toInt64)), .second, .val (.long (((p1.toInt64) - (p0.toInt64)) + (1 : Int64))), .second, .val (.ref b1), .val (.ref b12), .val (.long (q3 &&& (4611686018427387903 : Int64))), .second, .val (.ref b_42)] [(.int (1 : Int32)), (.int (f4 (0 : Int64) ((q3 &&& (4611686018427387903 : Int64)) - (1 : Int64))))])) _
            refine XS.goto X45.here hx rfl (pc0 := 132) (pc' := 136) rfl (hb hby at_132) (by decide) (by decide) ?_
            exact kt)
        have hd136_49 : (f4 (0 : Int64) ((q3 &&& (4611686018427387903 : Int64)) - (1 : Int64))) = (1 : Int32) := own_sz1 hc128_47
        obtain ⟨fs, hr, hrun, hended, hW, hsame⟩ := X45.leave (v := some (.int (1 : Int32))) (fun h => by rw [Bd.returns] at h; cases h)
        have hv96 : (1 : Int32) = (1 : Int32) := rfl
        refine ⟨_, _, pre48 _ ?_, hrun, hended, _, _, rfl, ?_, ⟨_, rfl⟩, hW, hsame.mono (by decide) (by decide)⟩
        · show Steps p.tables e below (T45.setTop (mkF m 136 #[.val (.int p0), .val (.int p1), .val (.long q2), .second, .val (.long q3), .second, .val (.long (p0.toInt64)), .second, .val (.long (p1.toInt64)), .second, .val (.long (((p1.toInt64) - (p0.toInt64)) + (1 : Int64))), .second, .val (.ref b1), .val (.ref b12), .val (.long (q3 &&& (4611686018427387903 : Int64))), .second, .val (.ref b_42)] [(.int (1 : Int32)), (.int (f4 (0 : Int64) ((q3 &&& (4611686018427387903 : Int64)) - (1 : Int64))))])) _
          refine XS.icmpNo X45.here hx rfl (hb hby at_136) rfl (teq hd136_49).2 ?_
          show Steps p.tables e below (T45.setTop (mkF m 139 #[.val (.int p0), .val (.int p1), .val (.long q2), .second, .val (.long q3), .second, .val (.long (p0.toInt64)), .second, .val (.long (p1.toInt64)), .second, .val (.long (((p1.toInt64) - (p0.toInt64)) + (1 : Int64))), .second, .val (.ref b1), .val (.ref b12), .val (.long (q3 &&& (4611686018427387903 : Int64))), .second, .val (.ref b_42)] [])) _
          refine XS.iconst X45.here hx rfl (hb hby at_139) ?_
          show Steps p.tables e below (T45.setTop (mkF m 140 #[.val (.int p0), .val (.int p1), .val (.long q2), .second, .val (.long q3), .second, .val (.long (p0.toInt64)), .second, .val (.long (p1.toInt64)), .second, .val (.long (((p1.toInt64) - (p0.toInt64)) + (1 : Int64))), .second, .val (.ref b1), .val (.ref b12), .val (.long (q3 &&& (4611686018427387903 : Int64))), .second, .val (.ref b_42)] [(.int (1 : Int32))])) _
          refine XS.goto X45.here hx rfl (pc0 := 140) (pc' := 144) rfl (hb hby at_140) (by decide) (by decide) ?_
          show Steps p.tables e below (T45.setTop (mkF m 144 #[.val (.int p0), .val (.int p1), .val (.long q2), .second, .val (.long q3), .second, .val (.long (p0.toInt64)), .second, .val (.long (p1.toInt64)), .second, .val (.long (((p1.toInt64) - (p0.toInt64)) + (1 : Int64))), .second, .val (.ref b1), .val (.ref b12), .val (.long (q3 &&& (4611686018427387903 : Int64))), .second, .val (.ref b_42)] [(.int (1 : Int32))])) _
          exact retN X45 hx (t := .boolean) Bd.returns (by simp) (hb hby at_144) hr
        · show Q0 Z p0 p1 q2 q3 h0 n0 _ T45.heap _
          rw [e45q]
          exact ⟨congrArg (fun q => some (Value.int q)) hv96, N45⟩
      · have pre50 : ∀ t, Steps p.tables e below (T45.setTop (mkF m 136 #[.val (.int p0), .val (.int p1), .val (.long q2), .second, .val (.long q3), .second, .val (.long (p0.toInt64)), .second, .val (.long (p1.toInt64)), .second, .val (.long (((p1.toInt64) - (p0.toInt64)) + (1 : Int64))), .second, .val (.ref b1), .val (.ref b12), .val (.long (q3 &&& (4611686018427387903 : Int64))), .second, .val (.ref b_42)] [(.int (0 : Int32)), (.int (f4 (0 : Int64) ((q3 &&& (4611686018427387903 : Int64)) - (1 : Int64))))])) t → Steps p.tables e below (s₁.setTop (entryFrame m #[(.int p0), (.int p1), (.long q2), (.long q3)] maxLocals)) t := fun t kt => pre46 t (by
            show Steps p.tables e below (T45.setTop (mkF m 128 #[.val (.int p0), .val (.int p1), .val (.long q2), .second, .val (.long q3), .second, .val (.long (p0.toInt64)), .second, .val (.long (p1.toInt64)), .second, .val (.long (((p1.toInt64) - (p0.toInt64)) + (1 : Int64))), .second, .val (.ref b1), .val (.ref b12), .val (.long (q3 &&& (4611686018427387903 : Int64))), .second, .val (.ref b_42)] [(.int (lcmpW (q3 &&& (4611686018427387903 : Int64)) (0 : Int64))), (.int (f4 (0 : Int64) ((q3 &&& (4611686018427387903 : Int64)) - (1 : Int64))))])) _
            refine XS.ifYes X45.here hx rfl (pc0 := 128) (pc' := 135) rfl (hb hby at_128) rfl ((if0 _ _).trans (feq hc128_47).2) (by decide) (by decide) ?_
            show Steps p.tables e below (T45.setTop (mkF m 135 #[.val (.int p0), .val (.int p1), .val (.long q2), .second, .val (.long q3), .second, .val (.long (p0.toInt64)), .second, .val (.long (p1.toInt64)), .second, .val (.long (((p1.toInt64) - (p0.toInt64)) + (1 : Int64))), .second, .val (.ref b1), .val (.ref b12), .val (.long (q3 &&& (4611686018427387903 : Int64))), .second, .val (.ref b_42)] [(.int (f4 (0 : Int64) ((q3 &&& (4611686018427387903 : Int64)) - (1 : Int64))))])) _
            refine XS.iconst X45.here hx rfl (hb hby at_135) ?_
            exact kt)
        have hd136_51 : (f4 (0 : Int64) ((q3 &&& (4611686018427387903 : Int64)) - (1 : Int64))) = (0 : Int32) := own_sz0 hc128_47
        obtain ⟨fs, hr, hrun, hended, hW, hsame⟩ := X45.leave (v := some (.int (1 : Int32))) (fun h => by rw [Bd.returns] at h; cases h)
        have hv97 : (1 : Int32) = (1 : Int32) := rfl
        refine ⟨_, _, pre50 _ ?_, hrun, hended, _, _, rfl, ?_, ⟨_, rfl⟩, hW, hsame.mono (by decide) (by decide)⟩
        · show Steps p.tables e below (T45.setTop (mkF m 136 #[.val (.int p0), .val (.int p1), .val (.long q2), .second, .val (.long q3), .second, .val (.long (p0.toInt64)), .second, .val (.long (p1.toInt64)), .second, .val (.long (((p1.toInt64) - (p0.toInt64)) + (1 : Int64))), .second, .val (.ref b1), .val (.ref b12), .val (.long (q3 &&& (4611686018427387903 : Int64))), .second, .val (.ref b_42)] [(.int (0 : Int32)), (.int (f4 (0 : Int64) ((q3 &&& (4611686018427387903 : Int64)) - (1 : Int64))))])) _
          refine XS.icmpNo X45.here hx rfl (hb hby at_136) rfl (teq hd136_51).2 ?_
          show Steps p.tables e below (T45.setTop (mkF m 139 #[.val (.int p0), .val (.int p1), .val (.long q2), .second, .val (.long q3), .second, .val (.long (p0.toInt64)), .second, .val (.long (p1.toInt64)), .second, .val (.long (((p1.toInt64) - (p0.toInt64)) + (1 : Int64))), .second, .val (.ref b1), .val (.ref b12), .val (.long (q3 &&& (4611686018427387903 : Int64))), .second, .val (.ref b_42)] [])) _
          refine XS.iconst X45.here hx rfl (hb hby at_139) ?_
          show Steps p.tables e below (T45.setTop (mkF m 140 #[.val (.int p0), .val (.int p1), .val (.long q2), .second, .val (.long q3), .second, .val (.long (p0.toInt64)), .second, .val (.long (p1.toInt64)), .second, .val (.long (((p1.toInt64) - (p0.toInt64)) + (1 : Int64))), .second, .val (.ref b1), .val (.ref b12), .val (.long (q3 &&& (4611686018427387903 : Int64))), .second, .val (.ref b_42)] [(.int (1 : Int32))])) _
          refine XS.goto X45.here hx rfl (pc0 := 140) (pc' := 144) rfl (hb hby at_140) (by decide) (by decide) ?_
          show Steps p.tables e below (T45.setTop (mkF m 144 #[.val (.int p0), .val (.int p1), .val (.long q2), .second, .val (.long q3), .second, .val (.long (p0.toInt64)), .second, .val (.long (p1.toInt64)), .second, .val (.long (((p1.toInt64) - (p0.toInt64)) + (1 : Int64))), .second, .val (.ref b1), .val (.ref b12), .val (.long (q3 &&& (4611686018427387903 : Int64))), .second, .val (.ref b_42)] [(.int (1 : Int32))])) _
          exact retN X45 hx (t := .boolean) Bd.returns (by simp) (hb hby at_144) hr
        · show Q0 Z p0 p1 q2 q3 h0 n0 _ T45.heap _
          rw [e45q]
          exact ⟨congrArg (fun q => some (Value.int q)) hv97, N45⟩
  · have pre52 : ∀ t, Steps p.tables e below (T7.setTop (mkF m 47 #[.val (.int p0), .val (.int p1), .val (.long q2), .second, .val (.long q3), .second, .val (.long (p0.toInt64)), .second, .val (.long (p1.toInt64)), .second, .val (.long (((p1.toInt64) - (p0.toInt64)) + (1 : Int64))), .second, .val (.ref b1), .unset, .unset, .unset, .unset] [(.int (1 : Int32)), (.int (f4 (p0.toInt64) (p1.toInt64)))])) t → Steps p.tables e below (s₁.setTop (entryFrame m #[(.int p0), (.int p1), (.long q2), (.long q3)] maxLocals)) t := fun t kt => pre8 t (by
        show Steps p.tables e below (T7.setTop (mkF m 39 #[.val (.int p0), .val (.int p1), .val (.long q2), .second, .val (.long q3), .second, .val (.long (p0.toInt64)), .second, .val (.long (p1.toInt64)), .second, .val (.long (((p1.toInt64) - (p0.toInt64)) + (1 : Int64))), .second, .val (.ref b1), .unset, .unset, .unset, .unset] [(.int (lcmpW (((p1.toInt64) - (p0.toInt64)) + (1 : Int64)) (0 : Int64))), (.int (f4 (p0.toInt64) (p1.toInt64)))])) _
        refine XS.ifNo X7.here hx rfl (hb hby at_39) rfl ((if0 _ _).trans (flt hc39_9).2.2.1) ?_
        show Steps p.tables e below (T7.setTop (mkF m 42 #[.val (.int p0), .val (.int p1), .val (.long q2), .second, .val (.long q3), .second, .val (.long (p0.toInt64)), .second, .val (.long (p1.toInt64)), .second, .val (.long (((p1.toInt64) - (p0.toInt64)) + (1 : Int64))), .second, .val (.ref b1), .unset, .unset, .unset, .unset] [(.int (f4 (p0.toInt64) (p1.toInt64)))])) _
        refine XS.iconst X7.here hx rfl (hb hby at_42) ?_
        show Steps p.tables e below (T7.setTop (mkF m 43 #[.val (.int p0), .val (.int p1), .val (.long q2), .second, .val (.long q3), .second, .val (.long (p0.toInt64)), .second, .val (.long (p1.toInt64)), .second, .val (.long (((p1.toInt64) - (p0.toInt64)) + (1 : Int64))), .second, .val (.ref b1), .unset, .unset, .unset, .unset] [(.int (1 : Int32)), (.int (f4 (p0.toInt64) (p1.toInt64)))])) _
        refine XS.goto X7.here hx rfl (pc0 := 43) (pc' := 47) rfl (hb hby at_43) (by decide) (by decide) ?_
        exact kt)
    have hd47_53 : (f4 (p0.toInt64) (p1.toInt64)) = (1 : Int32) := own_cnt1 hc39_9
    obtain ⟨T54, h54, X54, e54, E54, A54, D54, -, st54⟩ := newO X7 hx hZ hown (hw _ (List.mem_of_getElem? (i := 0) rfl)) (hw _ (List.mem_of_getElem? (i := 1) rfl)) (hw _ (List.mem_of_getElem? (i := 2) rfl)) e7q (g := (mkF m 52 #[.val (.int p0), .val (.int p1), .val (.long q2), .second, .val (.long q3), .second, .val (.long (p0.toInt64)), .second, .val (.long (p1.toInt64)), .second, .val (.long (((p1.toInt64) - (p0.toInt64)) + (1 : Int64))), .second, .val (.ref b1), .unset, .unset, .unset, .unset] [])) rfl (hb hby at_52) (by decide) (by decide)
    obtain ⟨b54, g54⟩ : ∃ z, z = T4.heap.size := ⟨_, rfl⟩
    rw [← g54] at A54 D54 st54
    have g_b54 : n0 ≤ b54 := Nat.le_trans Z6 (Nat.le_of_eq g54.symm)
    have sz_b54 : h0.size ≤ b54 := Nat.le_trans K5.1 (Nat.le_of_eq g54.symm)
    have ne_b1_b54 : b1 ≠ b54 := Nat.ne_of_lt (Nat.lt_of_lt_of_le (E_b1.keep K4q).lt (Nat.le_of_eq g54.symm))
    have K55 : Keep h0 h54 [] := K5.ext E54
    have Z56 : n0 ≤ h54.size := Nat.le_trans Z0 K55.1
    have E_b54 := A54
    have F_first_b54 : Fld Z h54 b54 "com/example/cratewise/cratewise/server/ByteRange" "first" "J" (.long (0 : Int64)) := D54 (Or.inr (hw _ (List.mem_of_getElem? (i := 15) rfl))) (ty := .long) (by decide)
    have F_last_b54 : Fld Z h54 b54 "com/example/cratewise/cratewise/server/ByteRange" "last" "J" (.long (0 : Int64)) := D54 (Or.inr (hw _ (List.mem_of_getElem? (i := 17) rfl))) (ty := .long) (by decide)
    obtain ⟨_, _, ⟨T57, L57, k57, n57⟩, -, X57, ⟨Lc57, hQ57, l57, y57, z57⟩, st57⟩ := X54.specialBack hx (y := (⟨"com/example/cratewise/cratewise/server/ByteRange", "<init>", "(JJ)V"⟩ : MethodName)) rfl hown (mvT hZ (hw _ (List.mem_of_getElem? (i := 3) rfl))) (mvT hZ (hw _ (List.mem_of_getElem? (i := 4) rfl))) (mvT hZ (hw _ (List.mem_of_getElem? (i := 5) rfl))) (by decide) (backOf (W := 1) (rm1 l Z a0 hw [] b54 q2 q2 (0 : Int64) (0 : Int64) h54 n0 Z56 E_b54 F_first_b54 g_b54 F_last_b54) hZ (hw _ (List.mem_of_getElem? (i := 5) rfl)) (hw _ (List.mem_of_getElem? (i := 2) rfl)) (by decide) (by decide)) (g := (mkF m 58 #[.val (.int p0), .val (.int p1), .val (.long q2), .second, .val (.long q3), .second, .val (.long (p0.toInt64)), .second, .val (.long (p1.toInt64)), .second, .val (.long (((p1.toInt64) - (p0.toInt64)) + (1 : Int64))), .second, .val (.ref b1), .unset, .unset, .unset, .unset] [(.long q2), (.long q2), (.ref b54), (.ref b54)])) rfl (by rw [hml]; rfl) (Steps.refl _) (a := b54) (argsL := [(.long q2), (.long q2)]) (rest := [(.ref b54)]) (lenOf pd_0_0 rfl) rfl (by show 2 * 0 + _ ≤ _; exact Nat.le_of_eq rfl) (hb hby at_58) (fun _ _ => ⟨rfl, e54, (by decide : 2 + 0 ≤ _), (by decide : 4 + 0 ≤ _)⟩)
    dsimp only [Pt.U, Pt.locs, Pt.cells, Pt.slots] at X57 l57 y57 z57 st57 hQ57
    subst l57 y57 z57
    obtain ⟨rfl, N57q, K57q, G57_0, G57_1⟩ := hQ57
    have N57 := Fr.app N7 N57q
    have K58 : Keep h0 T57.heap [] := K55.trans K57q (allS (Or.inr sz_b54) all0)
    have Z59 : n0 ≤ T57.heap.size := Nat.le_trans Z0 K58.1
    obtain ⟨cq60, kq60, q60a, q60b, q60c⟩ := isOf hZ rfl (E_b54.keep K57q)
    obtain ⟨_, _, ⟨T60, L60, k60, n60⟩, -, X60, ⟨Lc60, hQ60, l60, y60, z60⟩, st60⟩ := X57.virtualBack hx (y := (⟨"com/example/cratewise/cratewise/server/ByteRange", "isEmpty", "()Z"⟩ : MethodName)) (z := (⟨"com/example/cratewise/cratewise/server/ByteRange", "isEmpty", "()Z"⟩ : MethodName)) hown (mvT hZ (hw _ (List.mem_of_getElem? (i := 18) rfl))) (mvT hZ (hw _ (List.mem_of_getElem? (i := 19) rfl))) (notFace_of_selects (args := #[]) (mvT hZ (hw _ (List.mem_of_getElem? (i := 21) rfl)))) (mvT hZ (hw _ (List.mem_of_getElem? (i := 21) rfl))) (mvT hZ (hw _ (List.mem_of_getElem? (i := 20) rfl))) (by decide) (backOf (W := 0) (rm4 l Z a0 hw [] b54 q2 q2 T57.heap n0 Z59 G57_0 G57_1) hZ (hw _ (List.mem_of_getElem? (i := 22) rfl)) (hw _ (List.mem_of_getElem? (i := 2) rfl)) (by decide) (by decide)) q60a q60c (g := (mkF m 65 #[.val (.int p0), .val (.int p1), .val (.long q2), .second, .val (.long q3), .second, .val (.long (p0.toInt64)), .second, .val (.long (p1.toInt64)), .second, .val (.long (((p1.toInt64) - (p0.toInt64)) + (1 : Int64))), .second, .val (.ref b1), .val (.ref b54), .unset, .unset, .unset] [(.ref b54)])) rfl (by rw [hml]; rfl) (Steps.refl _) (argsL := []) (rest := []) (lenOf pd_0_1 rfl) rfl (by show 2 * 0 + _ ≤ _; exact Nat.le_of_eq rfl) (hb hby at_65) (fun _ _ => ⟨rfl, rfl, (by decide : 2 + 0 ≤ _), (by decide : 4 + 0 ≤ _)⟩)
    dsimp only [Pt.U, Pt.locs, Pt.cells, Pt.slots] at X60 l60 y60 z60 st60 hQ60
    subst l60 y60 z60
    obtain ⟨rfl, N60q, e60q⟩ := hQ60
    have N60 := Fr.app N57 N60q
    have pre61 : ∀ t, Steps p.tables e below (T60.setTop (mkF m 68 #[.val (.int p0), .val (.int p1), .val (.long q2), .second, .val (.long q3), .second, .val (.long (p0.toInt64)), .second, .val (.long (p1.toInt64)), .second, .val (.long (((p1.toInt64) - (p0.toInt64)) + (1 : Int64))), .second, .val (.ref b1), .val (.ref b54), .unset, .unset, .unset] [(.int (f4 q2 q2))])) t → Steps p.tables e below (s₁.setTop (entryFrame m #[(.int p0), (.int p1), (.long q2), (.long q3)] maxLocals)) t := fun t kt => pre52 t (by
        show Steps p.tables e below (T7.setTop (mkF m 47 #[.val (.int p0), .val (.int p1), .val (.long q2), .second, .val (.long q3), .second, .val (.long (p0.toInt64)), .second, .val (.long (p1.toInt64)), .second, .val (.long (((p1.toInt64) - (p0.toInt64)) + (1 : Int64))), .second, .val (.ref b1), .unset, .unset, .unset, .unset] [(.int (1 : Int32)), (.int (f4 (p0.toInt64) (p1.toInt64)))])) _
        refine XS.icmpYes X7.here hx rfl (pc0 := 47) (pc' := 52) rfl (hb hby at_47) rfl (teq hd47_53).1 (by decide) (by decide) ?_
        show Steps p.tables e below (T7.setTop (mkF m 52 #[.val (.int p0), .val (.int p1), .val (.long q2), .second, .val (.long q3), .second, .val (.long (p0.toInt64)), .second, .val (.long (p1.toInt64)), .second, .val (.long (((p1.toInt64) - (p0.toInt64)) + (1 : Int64))), .second, .val (.ref b1), .unset, .unset, .unset, .unset] [])) _
        refine st54 _ ?_
        show Steps p.tables e below (T54.setTop (mkF m 55 #[.val (.int p0), .val (.int p1), .val (.long q2), .second, .val (.long q3), .second, .val (.long (p0.toInt64)), .second, .val (.long (p1.toInt64)), .second, .val (.long (((p1.toInt64) - (p0.toInt64)) + (1 : Int64))), .second, .val (.ref b1), .unset, .unset, .unset, .unset] [(.ref b54)])) _
        refine XS.dup X54.here hx rfl (hb hby at_55) rfl rfl ?_
        show Steps p.tables e below (T54.setTop (mkF m 56 #[.val (.int p0), .val (.int p1), .val (.long q2), .second, .val (.long q3), .second, .val (.long (p0.toInt64)), .second, .val (.long (p1.toInt64)), .second, .val (.long (((p1.toInt64) - (p0.toInt64)) + (1 : Int64))), .second, .val (.ref b1), .unset, .unset, .unset, .unset] [(.ref b54), (.ref b54)])) _
        refine XS.lloadN X54.here hx rfl (hb hby at_56) rfl ?_
        show Steps p.tables e below (T54.setTop (mkF m 57 #[.val (.int p0), .val (.int p1), .val (.long q2), .second, .val (.long q3), .second, .val (.long (p0.toInt64)), .second, .val (.long (p1.toInt64)), .second, .val (.long (((p1.toInt64) - (p0.toInt64)) + (1 : Int64))), .second, .val (.ref b1), .unset, .unset, .unset, .unset] [(.long q2), (.ref b54), (.ref b54)])) _
        refine XS.lloadN X54.here hx rfl (hb hby at_57) rfl ?_
        show Steps p.tables e below (T54.setTop (mkF m 58 #[.val (.int p0), .val (.int p1), .val (.long q2), .second, .val (.long q3), .second, .val (.long (p0.toInt64)), .second, .val (.long (p1.toInt64)), .second, .val (.long (((p1.toInt64) - (p0.toInt64)) + (1 : Int64))), .second, .val (.ref b1), .unset, .unset, .unset, .unset] [(.long q2), (.long q2), (.ref b54), (.ref b54)])) _
        refine st57.trans ?_
        show Steps p.tables e below (T57.setTop (mkF m 61 #[.val (.int p0), .val (.int p1), .val (.long q2), .second, .val (.long q3), .second, .val (.long (p0.toInt64)), .second, .val (.long (p1.toInt64)), .second, .val (.long (((p1.toInt64) - (p0.toInt64)) + (1 : Int64))), .second, .val (.ref b1), .unset, .unset, .unset, .unset] [(.ref b54)])) _
        refine XS.astore X57.here hx rfl (hb hby at_61) rfl rfl (l' := #[.val (.int p0), .val (.int p1), .val (.long q2), .second, .val (.long q3), .second, .val (.long (p0.toInt64)), .second, .val (.long (p1.toInt64)), .second, .val (.long (((p1.toInt64) - (p0.toInt64)) + (1 : Int64))), .second, .val (.ref b1), .val (.ref b54), .unset, .unset, .unset]) rfl ?_
        show Steps p.tables e below (T57.setTop (mkF m 63 #[.val (.int p0), .val (.int p1), .val (.long q2), .second, .val (.long q3), .second, .val (.long (p0.toInt64)), .second, .val (.long (p1.toInt64)), .second, .val (.long (((p1.toInt64) - (p0.toInt64)) + (1 : Int64))), .second, .val (.ref b1), .val (.ref b54), .unset, .unset, .unset] [])) _
        refine XS.aload X57.here hx rfl (hb hby at_63) rfl rfl ?_
        show Steps p.tables e below (T57.setTop (mkF m 65 #[.val (.int p0), .val (.int p1), .val (.long q2), .second, .val (.long q3), .second, .val (.long (p0.toInt64)), .second, .val (.long (p1.toInt64)), .second, .val (.long (((p1.toInt64) - (p0.toInt64)) + (1 : Int64))), .second, .val (.ref b1), .val (.ref b54), .unset, .unset, .unset] [(.ref b54)])) _
        refine st60.trans ?_
        exact kt)
    have hd68_62 : (f4 q2 q2) = (0 : Int32) := own_eq0 _
    have pre63 : ∀ t, Steps p.tables e below (T60.setTop (mkF m 78 #[.val (.int p0), .val (.int p1), .val (.long q2), .second, .val (.long q3), .second, .val (.long (p0.toInt64)), .second, .val (.long (p1.toInt64)), .second, .val (.long (((p1.toInt64) - (p0.toInt64)) + (1 : Int64))), .second, .val (.ref b1), .val (.ref b54), .unset, .unset, .unset] [(.int (lcmpW q2 (-9223372036854775808 : Int64)))])) t → Steps p.tables e below (s₁.setTop (entryFrame m #[(.int p0), (.int p1), (.long q2), (.long q3)] maxLocals)) t := fun t kt => pre61 t (by
        show Steps p.tables e below (T60.setTop (mkF m 68 #[.val (.int p0), .val (.int p1), .val (.long q2), .second, .val (.long q3), .second, .val (.long (p0.toInt64)), .second, .val (.long (p1.toInt64)), .second, .val (.long (((p1.toInt64) - (p0.toInt64)) + (1 : Int64))), .second, .val (.ref b1), .val (.ref b54), .unset, .unset, .unset] [(.int (f4 q2 q2))])) _
        refine XS.ifYes X60.here hx rfl (pc0 := 68) (pc' := 73) rfl (hb hby at_68) rfl ((if0 _ _).trans (teq hd68_62).1) (by decide) (by decide) ?_
        show Steps p.tables e below (T60.setTop (mkF m 73 #[.val (.int p0), .val (.int p1), .val (.long q2), .second, .val (.long q3), .second, .val (.long (p0.toInt64)), .second, .val (.long (p1.toInt64)), .second, .val (.long (((p1.toInt64) - (p0.toInt64)) + (1 : Int64))), .second, .val (.ref b1), .val (.ref b54), .unset, .unset, .unset] [])) _
        refine XS.lloadN X60.here hx rfl (hb hby at_73) rfl ?_
        show Steps p.tables e below (T60.setTop (mkF m 74 #[.val (.int p0), .val (.int p1), .val (.long q2), .second, .val (.long q3), .second, .val (.long (p0.toInt64)), .second, .val (.long (p1.toInt64)), .second, .val (.long (((p1.toInt64) - (p0.toInt64)) + (1 : Int64))), .second, .val (.ref b1), .val (.ref b54), .unset, .unset, .unset] [(.long q2)])) _
        refine X60.ldc2Long hx hown (mvT hZ (hw _ (List.mem_of_getElem? (i := 23) rfl))) (g := (mkF m 74 #[.val (.int p0), .val (.int p1), .val (.long q2), .second, .val (.long q3), .second, .val (.long (p0.toInt64)), .second, .val (.long (p1.toInt64)), .second, .val (.long (((p1.toInt64) - (p0.toInt64)) + (1 : Int64))), .second, .val (.ref b1), .val (.ref b54), .unset, .unset, .unset] [(.long q2)])) rfl (hb hby at_74) _ ?_
        show Steps p.tables e below (T60.setTop (mkF m 77 #[.val (.int p0), .val (.int p1), .val (.long q2), .second, .val (.long q3), .second, .val (.long (p0.toInt64)), .second, .val (.long (p1.toInt64)), .second, .val (.long (((p1.toInt64) - (p0.toInt64)) + (1 : Int64))), .second, .val (.ref b1), .val (.ref b54), .unset, .unset, .unset] [(.long (-9223372036854775808 : Int64)), (.long q2)])) _
        refine XS.lcmp X60.here hx rfl (hb hby at_77) rfl ?_
        exact kt)
    by_cases hc78_64 : (lcmpW q2 (-9223372036854775808 : Int64)) = (0 : Int32)
    · obtain ⟨_, _, ⟨T65, L65, k65, n65⟩, -, X65, ⟨Lc65, hQ65, l65, y65, z65⟩, st65⟩ := Jvm.LawKit.callS X60 hx (y := (⟨"com/example/cratewise/cratewise/server/ByteRange", "whole", "(J)Lcom/example/cratewise/cratewise/server/ByteRange;"⟩ : MethodName)) hown (mvT hZ (hw _ (List.mem_of_getElem? (i := 25) rfl))) (mvT hZ (hw _ (List.mem_of_getElem? (i := 26) rfl))) (mvT hZ (hw _ (List.mem_of_getElem? (i := 2) rfl))) (mvT hZ (hw _ (List.mem_of_getElem? (i := 27) rfl))) (by decide) (backOf (W := 0) (rm5 l Z a0 hw [] (q3 &&& (4611686018427387903 : Int64)) T57.heap n0 Z59 ) hZ (hw _ (List.mem_of_getElem? (i := 27) rfl)) (hw _ (List.mem_of_getElem? (i := 2) rfl)) (by decide) (by decide)) (g := (mkF m 114 #[.val (.int p0), .val (.int p1), .val (.long q2), .second, .val (.long q3), .second, .val (.long (p0.toInt64)), .second, .val (.long (p1.toInt64)), .second, .val (.long (((p1.toInt64) - (p0.toInt64)) + (1 : Int64))), .second, .val (.ref b1), .val (.ref b54), .val (.long (q3 &&& (4611686018427387903 : Int64))), .second, .unset] [(.long (q3 &&& (4611686018427387903 : Int64)))])) rfl (by rw [hml]; rfl) (argsL := [(.long (q3 &&& (4611686018427387903 : Int64)))]) (rest := []) (lenOf pd_0_2 rfl) rfl (by show 2 * 0 + _ ≤ _; exact Nat.le_of_eq rfl) (hb hby at_114) (fun _ _ => ⟨rfl, e60q, (by decide : 2 + 1 ≤ _), (by decide : 4 + 2 ≤ _)⟩)
      dsimp only [Pt.U, Pt.locs, Pt.cells, Pt.slots] at X65 l65 y65 z65 st65 hQ65
      subst l65 y65 z65
      obtain ⟨b_65, rfl, N65q, K65q, g_b_65, szq_b_65, G65_0, G65_1, G65_2⟩ := hQ65
      have N65 := Fr.app N60 N65q
      have ne_b1_b_65 : b1 ≠ b_65 := Nat.ne_of_lt (Nat.lt_of_lt_of_le (((E_b1.keep K4q).ext E54).keep K57q).lt szq_b_65)
      have ne_b54_b_65 : b54 ≠ b_65 := Nat.ne_of_lt (Nat.lt_of_lt_of_le (E_b54.keep K57q).lt szq_b_65)
      have sz_b_65 : h0.size ≤ b_65 := Nat.le_trans K58.1 szq_b_65
      have K66 : Keep h0 T65.heap [] := K58.trans K65q all0
      have Z67 : n0 ≤ T65.heap.size := Nat.le_trans Z0 K66.1
      obtain ⟨cq68, kq68, q68a, q68b, q68c⟩ := isOf hZ rfl G65_0
      obtain ⟨_, _, ⟨T68, L68, k68, n68⟩, -, X68, ⟨Lc68, hQ68, l68, y68, z68⟩, st68⟩ := X65.virtualBack hx (y := (⟨"com/example/cratewise/cratewise/server/ByteRange", "isEmpty", "()Z"⟩ : MethodName)) (z := (⟨"com/example/cratewise/cratewise/server/ByteRange", "isEmpty", "()Z"⟩ : MethodName)) hown (mvT hZ (hw _ (List.mem_of_getElem? (i := 18) rfl))) (mvT hZ (hw _ (List.mem_of_getElem? (i := 19) rfl))) (notFace_of_selects (args := #[]) (mvT hZ (hw _ (List.mem_of_getElem? (i := 21) rfl)))) (mvT hZ (hw _ (List.mem_of_getElem? (i := 21) rfl))) (mvT hZ (hw _ (List.mem_of_getElem? (i := 20) rfl))) (by decide) (backOf (W := 0) (rm4 l Z a0 hw [] b_65 (0 : Int64) ((q3 &&& (4611686018427387903 : Int64)) - (1 : Int64)) T65.heap n0 Z67 G65_1 G65_2) hZ (hw _ (List.mem_of_getElem? (i := 22) rfl)) (hw _ (List.mem_of_getElem? (i := 2) rfl)) (by decide) (by decide)) q68a q68c (g := (mkF m 121 #[.val (.int p0), .val (.int p1), .val (.long q2), .second, .val (.long q3), .second, .val (.long (p0.toInt64)), .second, .val (.long (p1.toInt64)), .second, .val (.long (((p1.toInt64) - (p0.toInt64)) + (1 : Int64))), .second, .val (.ref b1), .val (.ref b54), .val (.long (q3 &&& (4611686018427387903 : Int64))), .second, .val (.ref b_65)] [(.ref b_65)])) rfl (by rw [hml]; rfl) (Steps.refl _) (argsL := []) (rest := []) (lenOf pd_0_1 rfl) rfl (by show 2 * 0 + _ ≤ _; exact Nat.le_of_eq rfl) (hb hby at_121) (fun _ _ => ⟨rfl, rfl, (by decide : 3 + 0 ≤ _), (by decide : 6 + 0 ≤ _)⟩)
      dsimp only [Pt.U, Pt.locs, Pt.cells, Pt.slots] at X68 l68 y68 z68 st68 hQ68
      subst l68 y68 z68
      obtain ⟨rfl, N68q, e68q⟩ := hQ68
      have N68 := Fr.app N65 N68q
      have pre69 : ∀ t, Steps p.tables e below (T68.setTop (mkF m 128 #[.val (.int p0), .val (.int p1), .val (.long q2), .second, .val (.long q3), .second, .val (.long (p0.toInt64)), .second, .val (.long (p1.toInt64)), .second, .val (.long (((p1.toInt64) - (p0.toInt64)) + (1 : Int64))), .second, .val (.ref b1), .val (.ref b54), .val (.long (q3 &&& (4611686018427387903 : Int64))), .second, .val (.ref b_65)] [(.int (lcmpW (q3 &&& (4611686018427387903 : Int64)) (0 : Int64))), (.int (f4 (0 : Int64) ((q3 &&& (4611686018427387903 : Int64)) - (1 : Int64))))])) t → Steps p.tables e below (s₁.setTop (entryFrame m #[(.int p0), (.int p1), (.long q2), (.long q3)] maxLocals)) t := fun t kt => pre63 t (by
          show Steps p.tables e below (T60.setTop (mkF m 78 #[.val (.int p0), .val (.int p1), .val (.long q2), .second, .val (.long q3), .second, .val (.long (p0.toInt64)), .second, .val (.long (p1.toInt64)), .second, .val (.long (((p1.toInt64) - (p0.toInt64)) + (1 : Int64))), .second, .val (.ref b1), .val (.ref b54), .unset, .unset, .unset] [(.int (lcmpW q2 (-9223372036854775808 : Int64)))])) _
          refine XS.ifYes X60.here hx rfl (pc0 := 78) (pc' := 104) rfl (hb hby at_78) rfl ((if0 _ _).trans (teq hc78_64).1) (by decide) (by decide) ?_
          show Steps p.tables e below (T60.setTop (mkF m 104 #[.val (.int p0), .val (.int p1), .val (.long q2), .second, .val (.long q3), .second, .val (.long (p0.toInt64)), .second, .val (.long (p1.toInt64)), .second, .val (.long (((p1.toInt64) - (p0.toInt64)) + (1 : Int64))), .second, .val (.ref b1), .val (.ref b54), .unset, .unset, .unset] [])) _
          refine XS.lload X60.here hx rfl (hb hby at_104) rfl ?_
          show Steps p.tables e below (T60.setTop (mkF m 106 #[.val (.int p0), .val (.int p1), .val (.long q2), .second, .val (.long q3), .second, .val (.long (p0.toInt64)), .second, .val (.long (p1.toInt64)), .second, .val (.long (((p1.toInt64) - (p0.toInt64)) + (1 : Int64))), .second, .val (.ref b1), .val (.ref b54), .unset, .unset, .unset] [(.long q3)])) _
          refine X60.ldc2Long hx hown (mvT hZ (hw _ (List.mem_of_getElem? (i := 24) rfl))) (g := (mkF m 106 #[.val (.int p0), .val (.int p1), .val (.long q2), .second, .val (.long q3), .second, .val (.long (p0.toInt64)), .second, .val (.long (p1.toInt64)), .second, .val (.long (((p1.toInt64) - (p0.toInt64)) + (1 : Int64))), .second, .val (.ref b1), .val (.ref b54), .unset, .unset, .unset] [(.long q3)])) rfl (hb hby at_106) _ ?_
          show Steps p.tables e below (T60.setTop (mkF m 109 #[.val (.int p0), .val (.int p1), .val (.long q2), .second, .val (.long q3), .second, .val (.long (p0.toInt64)), .second, .val (.long (p1.toInt64)), .second, .val (.long (((p1.toInt64) - (p0.toInt64)) + (1 : Int64))), .second, .val (.ref b1), .val (.ref b54), .unset, .unset, .unset] [(.long (4611686018427387903 : Int64)), (.long q3)])) _
          refine XS.land X60.here hx rfl (hb hby at_109) rfl ?_
          show Steps p.tables e below (T60.setTop (mkF m 110 #[.val (.int p0), .val (.int p1), .val (.long q2), .second, .val (.long q3), .second, .val (.long (p0.toInt64)), .second, .val (.long (p1.toInt64)), .second, .val (.long (((p1.toInt64) - (p0.toInt64)) + (1 : Int64))), .second, .val (.ref b1), .val (.ref b54), .unset, .unset, .unset] [(.long (q3 &&& (4611686018427387903 : Int64)))])) _
          refine XS.lstore X60.here hx rfl (hb hby at_110) rfl (l' := #[.val (.int p0), .val (.int p1), .val (.long q2), .second, .val (.long q3), .second, .val (.long (p0.toInt64)), .second, .val (.long (p1.toInt64)), .second, .val (.long (((p1.toInt64) - (p0.toInt64)) + (1 : Int64))), .second, .val (.ref b1), .val (.ref b54), .val (.long (q3 &&& (4611686018427387903 : Int64))), .second, .unset]) rfl ?_
          show Steps p.tables e below (T60.setTop (mkF m 112 #[.val (.int p0), .val (.int p1), .val (.long q2), .second, .val (.long q3), .second, .val (.long (p0.toInt64)), .second, .val (.long (p1.toInt64)), .second, .val (.long (((p1.toInt64) - (p0.toInt64)) + (1 : Int64))), .second, .val (.ref b1), .val (.ref b54), .val (.long (q3 &&& (4611686018427387903 : Int64))), .second, .unset] [])) _
          refine XS.lload X60.here hx rfl (hb hby at_112) rfl ?_
          show Steps p.tables e below (T60.setTop (mkF m 114 #[.val (.int p0), .val (.int p1), .val (.long q2), .second, .val (.long q3), .second, .val (.long (p0.toInt64)), .second, .val (.long (p1.toInt64)), .second, .val (.long (((p1.toInt64) - (p0.toInt64)) + (1 : Int64))), .second, .val (.ref b1), .val (.ref b54), .val (.long (q3 &&& (4611686018427387903 : Int64))), .second, .unset] [(.long (q3 &&& (4611686018427387903 : Int64)))])) _
          refine st65 _ ?_
          show Steps p.tables e below (T65.setTop (mkF m 117 #[.val (.int p0), .val (.int p1), .val (.long q2), .second, .val (.long q3), .second, .val (.long (p0.toInt64)), .second, .val (.long (p1.toInt64)), .second, .val (.long (((p1.toInt64) - (p0.toInt64)) + (1 : Int64))), .second, .val (.ref b1), .val (.ref b54), .val (.long (q3 &&& (4611686018427387903 : Int64))), .second, .unset] [(.ref b_65)])) _
          refine XS.astore X65.here hx rfl (hb hby at_117) rfl rfl (l' := #[.val (.int p0), .val (.int p1), .val (.long q2), .second, .val (.long q3), .second, .val (.long (p0.toInt64)), .second, .val (.long (p1.toInt64)), .second, .val (.long (((p1.toInt64) - (p0.toInt64)) + (1 : Int64))), .second, .val (.ref b1), .val (.ref b54), .val (.long (q3 &&& (4611686018427387903 : Int64))), .second, .val (.ref b_65)]) rfl ?_
          show Steps p.tables e below (T65.setTop (mkF m 119 #[.val (.int p0), .val (.int p1), .val (.long q2), .second, .val (.long q3), .second, .val (.long (p0.toInt64)), .second, .val (.long (p1.toInt64)), .second, .val (.long (((p1.toInt64) - (p0.toInt64)) + (1 : Int64))), .second, .val (.ref b1), .val (.ref b54), .val (.long (q3 &&& (4611686018427387903 : Int64))), .second, .val (.ref b_65)] [])) _
          refine XS.aload X65.here hx rfl (hb hby at_119) rfl rfl ?_
          show Steps p.tables e below (T65.setTop (mkF m 121 #[.val (.int p0), .val (.int p1), .val (.long q2), .second, .val (.long q3), .second, .val (.long (p0.toInt64)), .second, .val (.long (p1.toInt64)), .second, .val (.long (((p1.toInt64) - (p0.toInt64)) + (1 : Int64))), .second, .val (.ref b1), .val (.ref b54), .val (.long (q3 &&& (4611686018427387903 : Int64))), .second, .val (.ref b_65)] [(.ref b_65)])) _
          refine st68.trans ?_
          show Steps p.tables e below (T68.setTop (mkF m 124 #[.val (.int p0), .val (.int p1), .val (.long q2), .second, .val (.long q3), .second, .val (.long (p0.toInt64)), .second, .val (.long (p1.toInt64)), .second, .val (.long (((p1.toInt64) - (p0.toInt64)) + (1 : Int64))), .second, .val (.ref b1), .val (.ref b54), .val (.long (q3 &&& (4611686018427387903 : Int64))), .second, .val (.ref b_65)] [(.int (f4 (0 : Int64) ((q3 &&& (4611686018427387903 : Int64)) - (1 : Int64))))])) _
          refine XS.lload X68.here hx rfl (hb hby at_124) rfl ?_
          show Steps p.tables e below (T68.setTop (mkF m 126 #[.val (.int p0), .val (.int p1), .val (.long q2), .second, .val (.long q3), .second, .val (.long (p0.toInt64)), .second, .val (.long (p1.toInt64)), .second, .val (.long (((p1.toInt64) - (p0.toInt64)) + (1 : Int64))), .second, .val (.ref b1), .val (.ref b54), .val (.long (q3 &&& (4611686018427387903 : Int64))), .second, .val (.ref b_65)] [(.long (q3 &&& (4611686018427387903 : Int64))), (.int (f4 (0 : Int64) ((q3 &&& (4611686018427387903 : Int64)) - (1 : Int64))))])) _
          refine XS.lconst X68.here hx rfl (hb hby at_126) ?_
          show Steps p.tables e below (T68.setTop (mkF m 127 #[.val (.int p0), .val (.int p1), .val (.long q2), .second, .val (.long q3), .second, .val (.long (p0.toInt64)), .second, .val (.long (p1.toInt64)), .second, .val (.long (((p1.toInt64) - (p0.toInt64)) + (1 : Int64))), .second, .val (.ref b1), .val (.ref b54), .val (.long (q3 &&& (4611686018427387903 : Int64))), .second, .val (.ref b_65)] [(.long (0 : Int64)), (.long (q3 &&& (4611686018427387903 : Int64))), (.int (f4 (0 : Int64) ((q3 &&& (4611686018427387903 : Int64)) - (1 : Int64))))])) _
          refine XS.lcmp X68.here hx rfl (hb hby at_127) rfl ?_
          exact kt)
      by_cases hc128_70 : (lcmpW (q3 &&& (4611686018427387903 : Int64)) (0 : Int64)) = (0 : Int32)
      · have pre71 : ∀ t, Steps p.tables e below (T68.setTop (mkF m 136 #[.val (.int p0), .val (.int p1), .val (.long q2), .second, .val (.long q3), .second, .val (.long (p0.toInt64)), .second, .val (.long (p1.toInt64)), .second, .val (.long (((p1.toInt64) - (p0.toInt64)) + (1 : Int64))), .second, .val (.ref b1), .val (.ref b54), .val (.long (q3 &&& (4611686018427387903 : Int64))), .second, .val (.ref b_65)] [(.int (1 : Int32)), (.int (f4 (0 : Int64) ((q3 &&& (4611686018427387903 : Int64)) - (1 : Int64))))])) t → Steps p.tables e below (s₁.setTop (entryFrame m #[(.int p0), (.int p1), (.long q2), (.long q3)] maxLocals)) t := fun t kt => pre69 t (by
            show Steps p.tables e below (T68.setTop (mkF m 128 #[.val (.int p0), .val (.int p1), .val (.long q2), .second, .val (.long q3), .second, .val (.long (p0.toInt64)), .second, .val (.long (p1.toInt64)), .second, .val (.long (((p1.toInt64) - (p0.toInt64)) + (1 : Int64))), .second, .val (.ref b1), .val (.ref b54), .val (.long (q3 &&& (4611686018427387903 : Int64))), .second, .val (.ref b_65)] [(.int (lcmpW (q3 &&& (4611686018427387903 : Int64)) (0 : Int64))), (.int (f4 (0 : Int64) ((q3 &&& (4611686018427387903 : Int64)) - (1 : Int64))))])) _
            refine XS.ifNo X68.here hx rfl (hb hby at_128) rfl ((if0 _ _).trans (teq hc128_70).2) ?_
            show Steps p.tables e below (T68.setTop (mkF m 131 #[.val (.int p0), .val (.int p1), .val (.long q2), .second, .val (.long q3), .second, .val (.long (p0.toInt64)), .second, .val (.long (p1.toInt64)), .second, .val (.long (((p1.toInt64) - (p0.toInt64)) + (1 : Int64))), .second, .val (.ref b1), .val (.ref b54), .val (.long (q3 &&& (4611686018427387903 : Int64))), .second, .val (.ref b_65)] [(.int (f4 (0 : Int64) ((q3 &&& (4611686018427387903 : Int64)) - (1 : Int64))))])) _
            refine XS.iconst X68.here hx rfl (hb hby at_131) ?_
            show Steps p.tables e below (T68.setTop (mkF m 132 #[.val (.int p0), .val (.int p1), .val (.long q2), .second, .val (.long q3), .second, .val (.long (p0.toInt64)), .second, .val (.long (p1.toInt64)), .second, .val (.long (((p1.toInt64) - (p0.toInt64)) + (1 : Int64))), .second, .val (.ref b1), .val (.ref b54), .val (.long (q3 &&& (4611686018427387903 : Int64))), .second, .val (.ref b_65)] [(.int (1 : Int32)), (.int (f4 (0 : Int64) ((q3 &&& (4611686018427387903 : Int64)) - (1 : Int64))))])) _
            refine XS.goto X68.here hx rfl (pc0 := 132) (pc' := 136) rfl (hb hby at_132) (by decide) (by decide) ?_
            exact kt)
        have hd136_72 : (f4 (0 : Int64) ((q3 &&& (4611686018427387903 : Int64)) - (1 : Int64))) = (1 : Int32) := own_sz1 hc128_70
        obtain ⟨fs, hr, hrun, hended, hW, hsame⟩ := X68.leave (v := some (.int (1 : Int32))) (fun h => by rw [Bd.returns] at h; cases h)
        have hv98 : (1 : Int32) = (1 : Int32) := rfl
        refine ⟨_, _, pre71 _ ?_, hrun, hended, _, _, rfl, ?_, ⟨_, rfl⟩, hW, hsame.mono (by decide) (by decide)⟩
        · show Steps p.tables e below (T68.setTop (mkF m 136 #[.val (.int p0), .val (.int p1), .val (.long q2), .second, .val (.long q3), .second, .val (.long (p0.toInt64)), .second, .val (.long (p1.toInt64)), .second, .val (.long (((p1.toInt64) - (p0.toInt64)) + (1 : Int64))), .second, .val (.ref b1), .val (.ref b54), .val (.long (q3 &&& (4611686018427387903 : Int64))), .second, .val (.ref b_65)] [(.int (1 : Int32)), (.int (f4 (0 : Int64) ((q3 &&& (4611686018427387903 : Int64)) - (1 : Int64))))])) _
          refine XS.icmpNo X68.here hx rfl (hb hby at_136) rfl (teq hd136_72).2 ?_
          show Steps p.tables e below (T68.setTop (mkF m 139 #[.val (.int p0), .val (.int p1), .val (.long q2), .second, .val (.long q3), .second, .val (.long (p0.toInt64)), .second, .val (.long (p1.toInt64)), .second, .val (.long (((p1.toInt64) - (p0.toInt64)) + (1 : Int64))), .second, .val (.ref b1), .val (.ref b54), .val (.long (q3 &&& (4611686018427387903 : Int64))), .second, .val (.ref b_65)] [])) _
          refine XS.iconst X68.here hx rfl (hb hby at_139) ?_
          show Steps p.tables e below (T68.setTop (mkF m 140 #[.val (.int p0), .val (.int p1), .val (.long q2), .second, .val (.long q3), .second, .val (.long (p0.toInt64)), .second, .val (.long (p1.toInt64)), .second, .val (.long (((p1.toInt64) - (p0.toInt64)) + (1 : Int64))), .second, .val (.ref b1), .val (.ref b54), .val (.long (q3 &&& (4611686018427387903 : Int64))), .second, .val (.ref b_65)] [(.int (1 : Int32))])) _
          refine XS.goto X68.here hx rfl (pc0 := 140) (pc' := 144) rfl (hb hby at_140) (by decide) (by decide) ?_
          show Steps p.tables e below (T68.setTop (mkF m 144 #[.val (.int p0), .val (.int p1), .val (.long q2), .second, .val (.long q3), .second, .val (.long (p0.toInt64)), .second, .val (.long (p1.toInt64)), .second, .val (.long (((p1.toInt64) - (p0.toInt64)) + (1 : Int64))), .second, .val (.ref b1), .val (.ref b54), .val (.long (q3 &&& (4611686018427387903 : Int64))), .second, .val (.ref b_65)] [(.int (1 : Int32))])) _
          exact retN X68 hx (t := .boolean) Bd.returns (by simp) (hb hby at_144) hr
        · show Q0 Z p0 p1 q2 q3 h0 n0 _ T68.heap _
          rw [e68q]
          exact ⟨congrArg (fun q => some (Value.int q)) hv98, N68⟩
      · have pre73 : ∀ t, Steps p.tables e below (T68.setTop (mkF m 136 #[.val (.int p0), .val (.int p1), .val (.long q2), .second, .val (.long q3), .second, .val (.long (p0.toInt64)), .second, .val (.long (p1.toInt64)), .second, .val (.long (((p1.toInt64) - (p0.toInt64)) + (1 : Int64))), .second, .val (.ref b1), .val (.ref b54), .val (.long (q3 &&& (4611686018427387903 : Int64))), .second, .val (.ref b_65)] [(.int (0 : Int32)), (.int (f4 (0 : Int64) ((q3 &&& (4611686018427387903 : Int64)) - (1 : Int64))))])) t → Steps p.tables e below (s₁.setTop (entryFrame m #[(.int p0), (.int p1), (.long q2), (.long q3)] maxLocals)) t := fun t kt => pre69 t (by
            show Steps p.tables e below (T68.setTop (mkF m 128 #[.val (.int p0), .val (.int p1), .val (.long q2), .second, .val (.long q3), .second, .val (.long (p0.toInt64)), .second, .val (.long (p1.toInt64)), .second, .val (.long (((p1.toInt64) - (p0.toInt64)) + (1 : Int64))), .second, .val (.ref b1), .val (.ref b54), .val (.long (q3 &&& (4611686018427387903 : Int64))), .second, .val (.ref b_65)] [(.int (lcmpW (q3 &&& (4611686018427387903 : Int64)) (0 : Int64))), (.int (f4 (0 : Int64) ((q3 &&& (4611686018427387903 : Int64)) - (1 : Int64))))])) _
            refine XS.ifYes X68.here hx rfl (pc0 := 128) (pc' := 135) rfl (hb hby at_128) rfl ((if0 _ _).trans (feq hc128_70).2) (by decide) (by decide) ?_
            show Steps p.tables e below (T68.setTop (mkF m 135 #[.val (.int p0), .val (.int p1), .val (.long q2), .second, .val (.long q3), .second, .val (.long (p0.toInt64)), .second, .val (.long (p1.toInt64)), .second, .val (.long (((p1.toInt64) - (p0.toInt64)) + (1 : Int64))), .second, .val (.ref b1), .val (.ref b54), .val (.long (q3 &&& (4611686018427387903 : Int64))), .second, .val (.ref b_65)] [(.int (f4 (0 : Int64) ((q3 &&& (4611686018427387903 : Int64)) - (1 : Int64))))])) _
            refine XS.iconst X68.here hx rfl (hb hby at_135) ?_
            exact kt)
        have hd136_74 : (f4 (0 : Int64) ((q3 &&& (4611686018427387903 : Int64)) - (1 : Int64))) = (0 : Int32) := own_sz0 hc128_70
        obtain ⟨fs, hr, hrun, hended, hW, hsame⟩ := X68.leave (v := some (.int (1 : Int32))) (fun h => by rw [Bd.returns] at h; cases h)
        have hv99 : (1 : Int32) = (1 : Int32) := rfl
        refine ⟨_, _, pre73 _ ?_, hrun, hended, _, _, rfl, ?_, ⟨_, rfl⟩, hW, hsame.mono (by decide) (by decide)⟩
        · show Steps p.tables e below (T68.setTop (mkF m 136 #[.val (.int p0), .val (.int p1), .val (.long q2), .second, .val (.long q3), .second, .val (.long (p0.toInt64)), .second, .val (.long (p1.toInt64)), .second, .val (.long (((p1.toInt64) - (p0.toInt64)) + (1 : Int64))), .second, .val (.ref b1), .val (.ref b54), .val (.long (q3 &&& (4611686018427387903 : Int64))), .second, .val (.ref b_65)] [(.int (0 : Int32)), (.int (f4 (0 : Int64) ((q3 &&& (4611686018427387903 : Int64)) - (1 : Int64))))])) _
          refine XS.icmpNo X68.here hx rfl (hb hby at_136) rfl (teq hd136_74).2 ?_
          show Steps p.tables e below (T68.setTop (mkF m 139 #[.val (.int p0), .val (.int p1), .val (.long q2), .second, .val (.long q3), .second, .val (.long (p0.toInt64)), .second, .val (.long (p1.toInt64)), .second, .val (.long (((p1.toInt64) - (p0.toInt64)) + (1 : Int64))), .second, .val (.ref b1), .val (.ref b54), .val (.long (q3 &&& (4611686018427387903 : Int64))), .second, .val (.ref b_65)] [])) _
          refine XS.iconst X68.here hx rfl (hb hby at_139) ?_
          show Steps p.tables e below (T68.setTop (mkF m 140 #[.val (.int p0), .val (.int p1), .val (.long q2), .second, .val (.long q3), .second, .val (.long (p0.toInt64)), .second, .val (.long (p1.toInt64)), .second, .val (.long (((p1.toInt64) - (p0.toInt64)) + (1 : Int64))), .second, .val (.ref b1), .val (.ref b54), .val (.long (q3 &&& (4611686018427387903 : Int64))), .second, .val (.ref b_65)] [(.int (1 : Int32))])) _
          refine XS.goto X68.here hx rfl (pc0 := 140) (pc' := 144) rfl (hb hby at_140) (by decide) (by decide) ?_
          show Steps p.tables e below (T68.setTop (mkF m 144 #[.val (.int p0), .val (.int p1), .val (.long q2), .second, .val (.long q3), .second, .val (.long (p0.toInt64)), .second, .val (.long (p1.toInt64)), .second, .val (.long (((p1.toInt64) - (p0.toInt64)) + (1 : Int64))), .second, .val (.ref b1), .val (.ref b54), .val (.long (q3 &&& (4611686018427387903 : Int64))), .second, .val (.ref b_65)] [(.int (1 : Int32))])) _
          exact retN X68 hx (t := .boolean) Bd.returns (by simp) (hb hby at_144) hr
        · show Q0 Z p0 p1 q2 q3 h0 n0 _ T68.heap _
          rw [e68q]
          exact ⟨congrArg (fun q => some (Value.int q)) hv99, N68⟩
    · obtain ⟨T75, h75, X75, e75, E75, A75, D75, -, st75⟩ := newO X60 hx hZ hown (hw _ (List.mem_of_getElem? (i := 0) rfl)) (hw _ (List.mem_of_getElem? (i := 1) rfl)) (hw _ (List.mem_of_getElem? (i := 2) rfl)) e60q (g := (mkF m 81 #[.val (.int p0), .val (.int p1), .val (.long q2), .second, .val (.long q3), .second, .val (.long (p0.toInt64)), .second, .val (.long (p1.toInt64)), .second, .val (.long (((p1.toInt64) - (p0.toInt64)) + (1 : Int64))), .second, .val (.ref b1), .val (.ref b54), .unset, .unset, .unset] [])) rfl (hb hby at_81) (by decide) (by decide)
      obtain ⟨b75, g75⟩ : ∃ z, z = T57.heap.size := ⟨_, rfl⟩
      rw [← g75] at A75 D75 st75
      have g_b75 : n0 ≤ b75 := Nat.le_trans Z59 (Nat.le_of_eq g75.symm)
      have sz_b75 : h0.size ≤ b75 := Nat.le_trans K58.1 (Nat.le_of_eq g75.symm)
      have ne_b1_b75 : b1 ≠ b75 := Nat.ne_of_lt (Nat.lt_of_lt_of_le (((E_b1.keep K4q).ext E54).keep K57q).lt (Nat.le_of_eq g75.symm))
      have ne_b54_b75 : b54 ≠ b75 := Nat.ne_of_lt (Nat.lt_of_lt_of_le (E_b54.keep K57q).lt (Nat.le_of_eq g75.symm))
      have K76 : Keep h0 h75 [] := K58.ext E75
      have Z77 : n0 ≤ h75.size := Nat.le_trans Z0 K76.1
      have E_b75 := A75
      have F_first_b75 : Fld Z h75 b75 "com/example/cratewise/cratewise/server/ByteRange" "first" "J" (.long (0 : Int64)) := D75 (Or.inr (hw _ (List.mem_of_getElem? (i := 15) rfl))) (ty := .long) (by decide)
      have F_last_b75 : Fld Z h75 b75 "com/example/cratewise/cratewise/server/ByteRange" "last" "J" (.long (0 : Int64)) := D75 (Or.inr (hw _ (List.mem_of_getElem? (i := 17) rfl))) (ty := .long) (by decide)
      obtain ⟨_, _, ⟨T78, L78, k78, n78⟩, -, X78, ⟨Lc78, hQ78, l78, y78, z78⟩, st78⟩ := X75.specialBack hx (y := (⟨"com/example/cratewise/cratewise/server/ByteRange", "<init>", "(JJ)V"⟩ : MethodName)) rfl hown (mvT hZ (hw _ (List.mem_of_getElem? (i := 3) rfl))) (mvT hZ (hw _ (List.mem_of_getElem? (i := 4) rfl))) (mvT hZ (hw _ (List.mem_of_getElem? (i := 5) rfl))) (by decide) (backOf (W := 1) (rm1 l Z a0 hw [] b75 q2 (q2 - (1 : Int64)) (0 : Int64) (0 : Int64) h75 n0 Z77 E_b75 F_first_b75 g_b75 F_last_b75) hZ (hw _ (List.mem_of_getElem? (i := 5) rfl)) (hw _ (List.mem_of_getElem? (i := 2) rfl)) (by decide) (by decide)) (g := (mkF m 89 #[.val (.int p0), .val (.int p1), .val (.long q2), .second, .val (.long q3), .second, .val (.long (p0.toInt64)), .second, .val (.long (p1.toInt64)), .second, .val (.long (((p1.toInt64) - (p0.toInt64)) + (1 : Int64))), .second, .val (.ref b1), .val (.ref b54), .unset, .unset, .unset] [(.long (q2 - (1 : Int64))), (.long q2), (.ref b75), (.ref b75)])) rfl (by rw [hml]; rfl) (Steps.refl _) (a := b75) (argsL := [(.long q2), (.long (q2 - (1 : Int64)))]) (rest := [(.ref b75)]) (lenOf pd_0_0 rfl) rfl (by show 2 * 0 + _ ≤ _; exact Nat.le_of_eq rfl) (hb hby at_89) (fun _ _ => ⟨rfl, e75, (by decide : 3 + 0 ≤ _), (by decide : 6 + 0 ≤ _)⟩)
      dsimp only [Pt.U, Pt.locs, Pt.cells, Pt.slots] at X78 l78 y78 z78 st78 hQ78
      subst l78 y78 z78
      obtain ⟨rfl, N78q, K78q, G78_0, G78_1⟩ := hQ78
      have N78 := Fr.app N60 N78q
      have K79 : Keep h0 T78.heap [] := K76.trans K78q (allS (Or.inr sz_b75) all0)
      have Z80 : n0 ≤ T78.heap.size := Nat.le_trans Z0 K79.1
      obtain ⟨cq81, kq81, q81a, q81b, q81c⟩ := isOf hZ rfl (E_b75.keep K78q)
      obtain ⟨_, _, ⟨T81, L81, k81, n81⟩, -, X81, ⟨Lc81, hQ81, l81, y81, z81⟩, st81⟩ := X78.virtualBack hx (y := (⟨"com/example/cratewise/cratewise/server/ByteRange", "isEmpty", "()Z"⟩ : MethodName)) (z := (⟨"com/example/cratewise/cratewise/server/ByteRange", "isEmpty", "()Z"⟩ : MethodName)) hown (mvT hZ (hw _ (List.mem_of_getElem? (i := 18) rfl))) (mvT hZ (hw _ (List.mem_of_getElem? (i := 19) rfl))) (notFace_of_selects (args := #[]) (mvT hZ (hw _ (List.mem_of_getElem? (i := 21) rfl)))) (mvT hZ (hw _ (List.mem_of_getElem? (i := 21) rfl))) (mvT hZ (hw _ (List.mem_of_getElem? (i := 20) rfl))) (by decide) (backOf (W := 0) (rm4 l Z a0 hw [] b75 q2 (q2 - (1 : Int64)) T78.heap n0 Z80 G78_0 G78_1) hZ (hw _ (List.mem_of_getElem? (i := 22) rfl)) (hw _ (List.mem_of_getElem? (i := 2) rfl)) (by decide) (by decide)) q81a q81c (g := (mkF m 96 #[.val (.int p0), .val (.int p1), .val (.long q2), .second, .val (.long q3), .second, .val (.long (p0.toInt64)), .second, .val (.long (p1.toInt64)), .second, .val (.long (((p1.toInt64) - (p0.toInt64)) + (1 : Int64))), .second, .val (.ref b1), .val (.ref b54), .val (.ref b75), .unset, .unset] [(.ref b75)])) rfl (by rw [hml]; rfl) (Steps.refl _) (argsL := []) (rest := []) (lenOf pd_0_1 rfl) rfl (by show 2 * 0 + _ ≤ _; exact Nat.le_of_eq rfl) (hb hby at_96) (fun _ _ => ⟨rfl, rfl, (by decide : 3 + 0 ≤ _), (by decide : 6 + 0 ≤ _)⟩)
      dsimp only [Pt.U, Pt.locs, Pt.cells, Pt.slots] at X81 l81 y81 z81 st81 hQ81
      subst l81 y81 z81
      obtain ⟨rfl, N81q, e81q⟩ := hQ81
      have N81 := Fr.app N78 N81q
      have pre82 : ∀ t, Steps p.tables e below (T81.setTop (mkF m 99 #[.val (.int p0), .val (.int p1), .val (.long q2), .second, .val (.long q3), .second, .val (.long (p0.toInt64)), .second, .val (.long (p1.toInt64)), .second, .val (.long (((p1.toInt64) - (p0.toInt64)) + (1 : Int64))), .second, .val (.ref b1), .val (.ref b54), .val (.ref b75), .unset, .unset] [(.int (f4 q2 (q2 - (1 : Int64))))])) t → Steps p.tables e below (s₁.setTop (entryFrame m #[(.int p0), (.int p1), (.long q2), (.long q3)] maxLocals)) t := fun t kt => pre63 t (by
          show Steps p.tables e below (T60.setTop (mkF m 78 #[.val (.int p0), .val (.int p1), .val (.long q2), .second, .val (.long q3), .second, .val (.long (p0.toInt64)), .second, .val (.long (p1.toInt64)), .second, .val (.long (((p1.toInt64) - (p0.toInt64)) + (1 : Int64))), .second, .val (.ref b1), .val (.ref b54), .unset, .unset, .unset] [(.int (lcmpW q2 (-9223372036854775808 : Int64)))])) _
          refine XS.ifNo X60.here hx rfl (hb hby at_78) rfl ((if0 _ _).trans (feq hc78_64).1) ?_
          show Steps p.tables e below (T60.setTop (mkF m 81 #[.val (.int p0), .val (.int p1), .val (.long q2), .second, .val (.long q3), .second, .val (.long (p0.toInt64)), .second, .val (.long (p1.toInt64)), .second, .val (.long (((p1.toInt64) - (p0.toInt64)) + (1 : Int64))), .second, .val (.ref b1), .val (.ref b54), .unset, .unset, .unset] [])) _
          refine st75 _ ?_
          show Steps p.tables e below (T75.setTop (mkF m 84 #[.val (.int p0), .val (.int p1), .val (.long q2), .second, .val (.long q3), .second, .val (.long (p0.toInt64)), .second, .val (.long (p1.toInt64)), .second, .val (.long (((p1.toInt64) - (p0.toInt64)) + (1 : Int64))), .second, .val (.ref b1), .val (.ref b54), .unset, .unset, .unset] [(.ref b75)])) _
          refine XS.dup X75.here hx rfl (hb hby at_84) rfl rfl ?_
          show Steps p.tables e below (T75.setTop (mkF m 85 #[.val (.int p0), .val (.int p1), .val (.long q2), .second, .val (.long q3), .second, .val (.long (p0.toInt64)), .second, .val (.long (p1.toInt64)), .second, .val (.long (((p1.toInt64) - (p0.toInt64)) + (1 : Int64))), .second, .val (.ref b1), .val (.ref b54), .unset, .unset, .unset] [(.ref b75), (.ref b75)])) _
          refine XS.lloadN X75.here hx rfl (hb hby at_85) rfl ?_
          show Steps p.tables e below (T75.setTop (mkF m 86 #[.val (.int p0), .val (.int p1), .val (.long q2), .second, .val (.long q3), .second, .val (.long (p0.toInt64)), .second, .val (.long (p1.toInt64)), .second, .val (.long (((p1.toInt64) - (p0.toInt64)) + (1 : Int64))), .second, .val (.ref b1), .val (.ref b54), .unset, .unset, .unset] [(.long q2), (.ref b75), (.ref b75)])) _
          refine XS.lloadN X75.here hx rfl (hb hby at_86) rfl ?_
          show Steps p.tables e below (T75.setTop (mkF m 87 #[.val (.int p0), .val (.int p1), .val (.long q2), .second, .val (.long q3), .second, .val (.long (p0.toInt64)), .second, .val (.long (p1.toInt64)), .second, .val (.long (((p1.toInt64) - (p0.toInt64)) + (1 : Int64))), .second, .val (.ref b1), .val (.ref b54), .unset, .unset, .unset] [(.long q2), (.long q2), (.ref b75), (.ref b75)])) _
          refine XS.lconst X75.here hx rfl (hb hby at_87) ?_
          show Steps p.tables e below (T75.setTop (mkF m 88 #[.val (.int p0), .val (.int p1), .val (.long q2), .second, .val (.long q3), .second, .val (.long (p0.toInt64)), .second, .val (.long (p1.toInt64)), .second, .val (.long (((p1.toInt64) - (p0.toInt64)) + (1 : Int64))), .second, .val (.ref b1), .val (.ref b54), .unset, .unset, .unset] [(.long (1 : Int64)), (.long q2), (.long q2), (.ref b75), (.ref b75)])) _
          refine XS.lsub X75.here hx rfl (hb hby at_88) rfl ?_
          show Steps p.tables e below (T75.setTop (mkF m 89 #[.val (.int p0), .val (.int p1), .val (.long q2), .second, .val (.long q3), .second, .val (.long (p0.toInt64)), .second, .val (.long (p1.toInt64)), .second, .val (.long (((p1.toInt64) - (p0.toInt64)) + (1 : Int64))), .second, .val (.ref b1), .val (.ref b54), .unset, .unset, .unset] [(.long (q2 - (1 : Int64))), (.long q2), (.ref b75), (.ref b75)])) _
          refine st78.trans ?_
          show Steps p.tables e below (T78.setTop (mkF m 92 #[.val (.int p0), .val (.int p1), .val (.long q2), .second, .val (.long q3), .second, .val (.long (p0.toInt64)), .second, .val (.long (p1.toInt64)), .second, .val (.long (((p1.toInt64) - (p0.toInt64)) + (1 : Int64))), .second, .val (.ref b1), .val (.ref b54), .unset, .unset, .unset] [(.ref b75)])) _
          refine XS.astore X78.here hx rfl (hb hby at_92) rfl rfl (l' := #[.val (.int p0), .val (.int p1), .val (.long q2), .second, .val (.long q3), .second, .val (.long (p0.toInt64)), .second, .val (.long (p1.toInt64)), .second, .val (.long (((p1.toInt64) - (p0.toInt64)) + (1 : Int64))), .second, .val (.ref b1), .val (.ref b54), .val (.ref b75), .unset, .unset]) rfl ?_
          show Steps p.tables e below (T78.setTop (mkF m 94 #[.val (.int p0), .val (.int p1), .val (.long q2), .second, .val (.long q3), .second, .val (.long (p0.toInt64)), .second, .val (.long (p1.toInt64)), .second, .val (.long (((p1.toInt64) - (p0.toInt64)) + (1 : Int64))), .second, .val (.ref b1), .val (.ref b54), .val (.ref b75), .unset, .unset] [])) _
          refine XS.aload X78.here hx rfl (hb hby at_94) rfl rfl ?_
          show Steps p.tables e below (T78.setTop (mkF m 96 #[.val (.int p0), .val (.int p1), .val (.long q2), .second, .val (.long q3), .second, .val (.long (p0.toInt64)), .second, .val (.long (p1.toInt64)), .second, .val (.long (((p1.toInt64) - (p0.toInt64)) + (1 : Int64))), .second, .val (.ref b1), .val (.ref b54), .val (.ref b75), .unset, .unset] [(.ref b75)])) _
          refine st81.trans ?_
          exact kt)
      have hd99_83 : ¬ ((f4 q2 (q2 - (1 : Int64))) = (0 : Int32)) := own_none hc78_64
      obtain ⟨_, _, ⟨T84, L84, k84, n84⟩, -, X84, ⟨Lc84, hQ84, l84, y84, z84⟩, st84⟩ := Jvm.LawKit.callS X81 hx (y := (⟨"com/example/cratewise/cratewise/server/ByteRange", "whole", "(J)Lcom/example/cratewise/cratewise/server/ByteRange;"⟩ : MethodName)) hown (mvT hZ (hw _ (List.mem_of_getElem? (i := 25) rfl))) (mvT hZ (hw _ (List.mem_of_getElem? (i := 26) rfl))) (mvT hZ (hw _ (List.mem_of_getElem? (i := 2) rfl))) (mvT hZ (hw _ (List.mem_of_getElem? (i := 27) rfl))) (by decide) (backOf (W := 0) (rm5 l Z a0 hw [] (q3 &&& (4611686018427387903 : Int64)) T78.heap n0 Z80 ) hZ (hw _ (List.mem_of_getElem? (i := 27) rfl)) (hw _ (List.mem_of_getElem? (i := 2) rfl)) (by decide) (by decide)) (g := (mkF m 114 #[.val (.int p0), .val (.int p1), .val (.long q2), .second, .val (.long q3), .second, .val (.long (p0.toInt64)), .second, .val (.long (p1.toInt64)), .second, .val (.long (((p1.toInt64) - (p0.toInt64)) + (1 : Int64))), .second, .val (.ref b1), .val (.ref b54), .val (.long (q3 &&& (4611686018427387903 : Int64))), .second, .unset] [(.long (q3 &&& (4611686018427387903 : Int64)))])) rfl (by rw [hml]; rfl) (argsL := [(.long (q3 &&& (4611686018427387903 : Int64)))]) (rest := []) (lenOf pd_0_2 rfl) rfl (by show 2 * 0 + _ ≤ _; exact Nat.le_of_eq rfl) (hb hby at_114) (fun _ _ => ⟨rfl, e81q, (by decide : 3 + 1 ≤ _), (by decide : 6 + 2 ≤ _)⟩)
      dsimp only [Pt.U, Pt.locs, Pt.cells, Pt.slots] at X84 l84 y84 z84 st84 hQ84
      subst l84 y84 z84
      obtain ⟨b_84, rfl, N84q, K84q, g_b_84, szq_b_84, G84_0, G84_1, G84_2⟩ := hQ84
      have N84 := Fr.app N81 N84q
      have ne_b1_b_84 : b1 ≠ b_84 := Nat.ne_of_lt (Nat.lt_of_lt_of_le (((((E_b1.keep K4q).ext E54).keep K57q).ext E75).keep K78q).lt szq_b_84)
      have ne_b54_b_84 : b54 ≠ b_84 := Nat.ne_of_lt (Nat.lt_of_lt_of_le (((E_b54.keep K57q).ext E75).keep K78q).lt szq_b_84)
      have ne_b75_b_84 : b75 ≠ b_84 := Nat.ne_of_lt (Nat.lt_of_lt_of_le (E_b75.keep K78q).lt szq_b_84)
      have sz_b_84 : h0.size ≤ b_84 := Nat.le_trans K79.1 szq_b_84
      have K85 : Keep h0 T84.heap [] := K79.trans K84q all0
      have Z86 : n0 ≤ T84.heap.size := Nat.le_trans Z0 K85.1
      obtain ⟨cq87, kq87, q87a, q87b, q87c⟩ := isOf hZ rfl G84_0
      obtain ⟨_, _, ⟨T87, L87, k87, n87⟩, -, X87, ⟨Lc87, hQ87, l87, y87, z87⟩, st87⟩ := X84.virtualBack hx (y := (⟨"com/example/cratewise/cratewise/server/ByteRange", "isEmpty", "()Z"⟩ : MethodName)) (z := (⟨"com/example/cratewise/cratewise/server/ByteRange", "isEmpty", "()Z"⟩ : MethodName)) hown (mvT hZ (hw _ (List.mem_of_getElem? (i := 18) rfl))) (mvT hZ (hw _ (List.mem_of_getElem? (i := 19) rfl))) (notFace_of_selects (args := #[]) (mvT hZ (hw _ (List.mem_of_getElem? (i := 21) rfl)))) (mvT hZ (hw _ (List.mem_of_getElem? (i := 21) rfl))) (mvT hZ (hw _ (List.mem_of_getElem? (i := 20) rfl))) (by decide) (backOf (W := 0) (rm4 l Z a0 hw [] b_84 (0 : Int64) ((q3 &&& (4611686018427387903 : Int64)) - (1 : Int64)) T84.heap n0 Z86 G84_1 G84_2) hZ (hw _ (List.mem_of_getElem? (i := 22) rfl)) (hw _ (List.mem_of_getElem? (i := 2) rfl)) (by decide) (by decide)) q87a q87c (g := (mkF m 121 #[.val (.int p0), .val (.int p1), .val (.long q2), .second, .val (.long q3), .second, .val (.long (p0.toInt64)), .second, .val (.long (p1.toInt64)), .second, .val (.long (((p1.toInt64) - (p0.toInt64)) + (1 : Int64))), .second, .val (.ref b1), .val (.ref b54), .val (.long (q3 &&& (4611686018427387903 : Int64))), .second, .val (.ref b_84)] [(.ref b_84)])) rfl (by rw [hml]; rfl) (Steps.refl _) (argsL := []) (rest := []) (lenOf pd_0_1 rfl) rfl (by show 2 * 0 + _ ≤ _; exact Nat.le_of_eq rfl) (hb hby at_121) (fun _ _ => ⟨rfl, rfl, (by decide : 4 + 0 ≤ _), (by decide : 8 + 0 ≤ _)⟩)
      dsimp only [Pt.U, Pt.locs, Pt.cells, Pt.slots] at X87 l87 y87 z87 st87 hQ87
      subst l87 y87 z87
      obtain ⟨rfl, N87q, e87q⟩ := hQ87
      have N87 := Fr.app N84 N87q
      have pre88 : ∀ t, Steps p.tables e below (T87.setTop (mkF m 128 #[.val (.int p0), .val (.int p1), .val (.long q2), .second, .val (.long q3), .second, .val (.long (p0.toInt64)), .second, .val (.long (p1.toInt64)), .second, .val (.long (((p1.toInt64) - (p0.toInt64)) + (1 : Int64))), .second, .val (.ref b1), .val (.ref b54), .val (.long (q3 &&& (4611686018427387903 : Int64))), .second, .val (.ref b_84)] [(.int (lcmpW (q3 &&& (4611686018427387903 : Int64)) (0 : Int64))), (.int (f4 (0 : Int64) ((q3 &&& (4611686018427387903 : Int64)) - (1 : Int64))))])) t → Steps p.tables e below (s₁.setTop (entryFrame m #[(.int p0), (.int p1), (.long q2), (.long q3)] maxLocals)) t := fun t kt => pre82 t (by
          show Steps p.tables e below (T81.setTop (mkF m 99 #[.val (.int p0), .val (.int p1), .val (.long q2), .second, .val (.long q3), .second, .val (.long (p0.toInt64)), .second, .val (.long (p1.toInt64)), .second, .val (.long (((p1.toInt64) - (p0.toInt64)) + (1 : Int64))), .second, .val (.ref b1), .val (.ref b54), .val (.ref b75), .unset, .unset] [(.int (f4 q2 (q2 - (1 : Int64))))])) _
          refine XS.ifYes X81.here hx rfl (pc0 := 99) (pc' := 104) rfl (hb hby at_99) rfl ((if0 _ _).trans (feq hd99_83).2) (by decide) (by decide) ?_
          show Steps p.tables e below (T81.setTop (mkF m 104 #[.val (.int p0), .val (.int p1), .val (.long q2), .second, .val (.long q3), .second, .val (.long (p0.toInt64)), .second, .val (.long (p1.toInt64)), .second, .val (.long (((p1.toInt64) - (p0.toInt64)) + (1 : Int64))), .second, .val (.ref b1), .val (.ref b54), .val (.ref b75), .unset, .unset] [])) _
          refine XS.lload X81.here hx rfl (hb hby at_104) rfl ?_
          show Steps p.tables e below (T81.setTop (mkF m 106 #[.val (.int p0), .val (.int p1), .val (.long q2), .second, .val (.long q3), .second, .val (.long (p0.toInt64)), .second, .val (.long (p1.toInt64)), .second, .val (.long (((p1.toInt64) - (p0.toInt64)) + (1 : Int64))), .second, .val (.ref b1), .val (.ref b54), .val (.ref b75), .unset, .unset] [(.long q3)])) _
          refine X81.ldc2Long hx hown (mvT hZ (hw _ (List.mem_of_getElem? (i := 24) rfl))) (g := (mkF m 106 #[.val (.int p0), .val (.int p1), .val (.long q2), .second, .val (.long q3), .second, .val (.long (p0.toInt64)), .second, .val (.long (p1.toInt64)), .second, .val (.long (((p1.toInt64) - (p0.toInt64)) + (1 : Int64))), .second, .val (.ref b1), .val (.ref b54), .val (.ref b75), .unset, .unset] [(.long q3)])) rfl (hb hby at_106) _ ?_
          show Steps p.tables e below (T81.setTop (mkF m 109 #[.val (.int p0), .val (.int p1), .val (.long q2), .second, .val (.long q3), .second, .val (.long (p0.toInt64)), .second, .val (.long (p1.toInt64)), .second, .val (.long (((p1.toInt64) - (p0.toInt64)) + (1 : Int64))), .second, .val (.ref b1), .val (.ref b54), .val (.ref b75), .unset, .unset] [(.long (4611686018427387903 : Int64)), (.long q3)])) _
          refine XS.land X81.here hx rfl (hb hby at_109) rfl ?_
          show Steps p.tables e below (T81.setTop (mkF m 110 #[.val (.int p0), .val (.int p1), .val (.long q2), .second, .val (.long q3), .second, .val (.long (p0.toInt64)), .second, .val (.long (p1.toInt64)), .second, .val (.long (((p1.toInt64) - (p0.toInt64)) + (1 : Int64))), .second, .val (.ref b1), .val (.ref b54), .val (.ref b75), .unset, .unset] [(.long (q3 &&& (4611686018427387903 : Int64)))])) _
          refine XS.lstore X81.here hx rfl (hb hby at_110) rfl (l' := #[.val (.int p0), .val (.int p1), .val (.long q2), .second, .val (.long q3), .second, .val (.long (p0.toInt64)), .second, .val (.long (p1.toInt64)), .second, .val (.long (((p1.toInt64) - (p0.toInt64)) + (1 : Int64))), .second, .val (.ref b1), .val (.ref b54), .val (.long (q3 &&& (4611686018427387903 : Int64))), .second, .unset]) rfl ?_
          show Steps p.tables e below (T81.setTop (mkF m 112 #[.val (.int p0), .val (.int p1), .val (.long q2), .second, .val (.long q3), .second, .val (.long (p0.toInt64)), .second, .val (.long (p1.toInt64)), .second, .val (.long (((p1.toInt64) - (p0.toInt64)) + (1 : Int64))), .second, .val (.ref b1), .val (.ref b54), .val (.long (q3 &&& (4611686018427387903 : Int64))), .second, .unset] [])) _
          refine XS.lload X81.here hx rfl (hb hby at_112) rfl ?_
          show Steps p.tables e below (T81.setTop (mkF m 114 #[.val (.int p0), .val (.int p1), .val (.long q2), .second, .val (.long q3), .second, .val (.long (p0.toInt64)), .second, .val (.long (p1.toInt64)), .second, .val (.long (((p1.toInt64) - (p0.toInt64)) + (1 : Int64))), .second, .val (.ref b1), .val (.ref b54), .val (.long (q3 &&& (4611686018427387903 : Int64))), .second, .unset] [(.long (q3 &&& (4611686018427387903 : Int64)))])) _
          refine st84 _ ?_
          show Steps p.tables e below (T84.setTop (mkF m 117 #[.val (.int p0), .val (.int p1), .val (.long q2), .second, .val (.long q3), .second, .val (.long (p0.toInt64)), .second, .val (.long (p1.toInt64)), .second, .val (.long (((p1.toInt64) - (p0.toInt64)) + (1 : Int64))), .second, .val (.ref b1), .val (.ref b54), .val (.long (q3 &&& (4611686018427387903 : Int64))), .second, .unset] [(.ref b_84)])) _
          refine XS.astore X84.here hx rfl (hb hby at_117) rfl rfl (l' := #[.val (.int p0), .val (.int p1), .val (.long q2), .second, .val (.long q3), .second, .val (.long (p0.toInt64)), .second, .val (.long (p1.toInt64)), .second, .val (.long (((p1.toInt64) - (p0.toInt64)) + (1 : Int64))), .second, .val (.ref b1), .val (.ref b54), .val (.long (q3 &&& (4611686018427387903 : Int64))), .second, .val (.ref b_84)]) rfl ?_
          show Steps p.tables e below (T84.setTop (mkF m 119 #[.val (.int p0), .val (.int p1), .val (.long q2), .second, .val (.long q3), .second, .val (.long (p0.toInt64)), .second, .val (.long (p1.toInt64)), .second, .val (.long (((p1.toInt64) - (p0.toInt64)) + (1 : Int64))), .second, .val (.ref b1), .val (.ref b54), .val (.long (q3 &&& (4611686018427387903 : Int64))), .second, .val (.ref b_84)] [])) _
          refine XS.aload X84.here hx rfl (hb hby at_119) rfl rfl ?_
          show Steps p.tables e below (T84.setTop (mkF m 121 #[.val (.int p0), .val (.int p1), .val (.long q2), .second, .val (.long q3), .second, .val (.long (p0.toInt64)), .second, .val (.long (p1.toInt64)), .second, .val (.long (((p1.toInt64) - (p0.toInt64)) + (1 : Int64))), .second, .val (.ref b1), .val (.ref b54), .val (.long (q3 &&& (4611686018427387903 : Int64))), .second, .val (.ref b_84)] [(.ref b_84)])) _
          refine st87.trans ?_
          show Steps p.tables e below (T87.setTop (mkF m 124 #[.val (.int p0), .val (.int p1), .val (.long q2), .second, .val (.long q3), .second, .val (.long (p0.toInt64)), .second, .val (.long (p1.toInt64)), .second, .val (.long (((p1.toInt64) - (p0.toInt64)) + (1 : Int64))), .second, .val (.ref b1), .val (.ref b54), .val (.long (q3 &&& (4611686018427387903 : Int64))), .second, .val (.ref b_84)] [(.int (f4 (0 : Int64) ((q3 &&& (4611686018427387903 : Int64)) - (1 : Int64))))])) _
          refine XS.lload X87.here hx rfl (hb hby at_124) rfl ?_
          show Steps p.tables e below (T87.setTop (mkF m 126 #[.val (.int p0), .val (.int p1), .val (.long q2), .second, .val (.long q3), .second, .val (.long (p0.toInt64)), .second, .val (.long (p1.toInt64)), .second, .val (.long (((p1.toInt64) - (p0.toInt64)) + (1 : Int64))), .second, .val (.ref b1), .val (.ref b54), .val (.long (q3 &&& (4611686018427387903 : Int64))), .second, .val (.ref b_84)] [(.long (q3 &&& (4611686018427387903 : Int64))), (.int (f4 (0 : Int64) ((q3 &&& (4611686018427387903 : Int64)) - (1 : Int64))))])) _
          refine XS.lconst X87.here hx rfl (hb hby at_126) ?_
          show Steps p.tables e below (T87.setTop (mkF m 127 #[.val (.int p0), .val (.int p1), .val (.long q2), .second, .val (.long q3), .second, .val (.long (p0.toInt64)), .second, .val (.long (p1.toInt64)), .second, .val (.long (((p1.toInt64) - (p0.toInt64)) + (1 : Int64))), .second, .val (.ref b1), .val (.ref b54), .val (.long (q3 &&& (4611686018427387903 : Int64))), .second, .val (.ref b_84)] [(.long (0 : Int64)), (.long (q3 &&& (4611686018427387903 : Int64))), (.int (f4 (0 : Int64) ((q3 &&& (4611686018427387903 : Int64)) - (1 : Int64))))])) _
          refine XS.lcmp X87.here hx rfl (hb hby at_127) rfl ?_
          exact kt)
      by_cases hc128_89 : (lcmpW (q3 &&& (4611686018427387903 : Int64)) (0 : Int64)) = (0 : Int32)
      · have pre90 : ∀ t, Steps p.tables e below (T87.setTop (mkF m 136 #[.val (.int p0), .val (.int p1), .val (.long q2), .second, .val (.long q3), .second, .val (.long (p0.toInt64)), .second, .val (.long (p1.toInt64)), .second, .val (.long (((p1.toInt64) - (p0.toInt64)) + (1 : Int64))), .second, .val (.ref b1), .val (.ref b54), .val (.long (q3 &&& (4611686018427387903 : Int64))), .second, .val (.ref b_84)] [(.int (1 : Int32)), (.int (f4 (0 : Int64) ((q3 &&& (4611686018427387903 : Int64)) - (1 : Int64))))])) t → Steps p.tables e below (s₁.setTop (entryFrame m #[(.int p0), (.int p1), (.long q2), (.long q3)] maxLocals)) t := fun t kt => pre88 t (by
            show Steps p.tables e below (T87.setTop (mkF m 128 #[.val (.int p0), .val (.int p1), .val (.long q2), .second, .val (.long q3), .second, .val (.long (p0.toInt64)), .second, .val (.long (p1.toInt64)), .second, .val (.long (((p1.toInt64) - (p0.toInt64)) + (1 : Int64))), .second, .val (.ref b1), .val (.ref b54), .val (.long (q3 &&& (4611686018427387903 : Int64))), .second, .val (.ref b_84)] [(.int (lcmpW (q3 &&& (4611686018427387903 : Int64)) (0 : Int64))), (.int (f4 (0 : Int64) ((q3 &&& (4611686018427387903 : Int64)) - (1 : Int64))))])) _
            refine XS.ifNo X87.here hx rfl (hb hby at_128) rfl ((if0 _ _).trans (teq hc128_89).2) ?_
            show Steps p.tables e below (T87.setTop (mkF m 131 #[.val (.int p0), .val (.int p1), .val (.long q2), .second, .val (.long q3), .second, .val (.long (p0.toInt64)), .second, .val (.long (p1.toInt64)), .second, .val (.long (((p1.toInt64) - (p0.toInt64)) + (1 : Int64))), .second, .val (.ref b1), .val (.ref b54), .val (.long (q3 &&& (4611686018427387903 : Int64))), .second, .val (.ref b_84)] [(.int (f4 (0 : Int64) ((q3 &&& (4611686018427387903 : Int64)) - (1 : Int64))))])) _
            refine XS.iconst X87.here hx rfl (hb hby at_131) ?_
            show Steps p.tables e below (T87.setTop (mkF m 132 #[.val (.int p0), .val (.int p1), .val (.long q2), .second, .val (.long q3), .second, .val (.long (p0.toInt64)), .second, .val (.long (p1.toInt64)), .second, .val (.long (((p1.toInt64) - (p0.toInt64)) + (1 : Int64))), .second, .val (.ref b1), .val (.ref b54), .val (.long (q3 &&& (4611686018427387903 : Int64))), .second, .val (.ref b_84)] [(.int (1 : Int32)), (.int (f4 (0 : Int64) ((q3 &&& (4611686018427387903 : Int64)) - (1 : Int64))))])) _
            refine XS.goto X87.here hx rfl (pc0 := 132) (pc' := 136) rfl (hb hby at_132) (by decide) (by decide) ?_
            exact kt)
        have hd136_91 : (f4 (0 : Int64) ((q3 &&& (4611686018427387903 : Int64)) - (1 : Int64))) = (1 : Int32) := own_sz1 hc128_89
        obtain ⟨fs, hr, hrun, hended, hW, hsame⟩ := X87.leave (v := some (.int (1 : Int32))) (fun h => by rw [Bd.returns] at h; cases h)
        have hv100 : (1 : Int32) = (1 : Int32) := rfl
        refine ⟨_, _, pre90 _ ?_, hrun, hended, _, _, rfl, ?_, ⟨_, rfl⟩, hW, hsame.mono (by decide) (by decide)⟩
        · show Steps p.tables e below (T87.setTop (mkF m 136 #[.val (.int p0), .val (.int p1), .val (.long q2), .second, .val (.long q3), .second, .val (.long (p0.toInt64)), .second, .val (.long (p1.toInt64)), .second, .val (.long (((p1.toInt64) - (p0.toInt64)) + (1 : Int64))), .second, .val (.ref b1), .val (.ref b54), .val (.long (q3 &&& (4611686018427387903 : Int64))), .second, .val (.ref b_84)] [(.int (1 : Int32)), (.int (f4 (0 : Int64) ((q3 &&& (4611686018427387903 : Int64)) - (1 : Int64))))])) _
          refine XS.icmpNo X87.here hx rfl (hb hby at_136) rfl (teq hd136_91).2 ?_
          show Steps p.tables e below (T87.setTop (mkF m 139 #[.val (.int p0), .val (.int p1), .val (.long q2), .second, .val (.long q3), .second, .val (.long (p0.toInt64)), .second, .val (.long (p1.toInt64)), .second, .val (.long (((p1.toInt64) - (p0.toInt64)) + (1 : Int64))), .second, .val (.ref b1), .val (.ref b54), .val (.long (q3 &&& (4611686018427387903 : Int64))), .second, .val (.ref b_84)] [])) _
          refine XS.iconst X87.here hx rfl (hb hby at_139) ?_
          show Steps p.tables e below (T87.setTop (mkF m 140 #[.val (.int p0), .val (.int p1), .val (.long q2), .second, .val (.long q3), .second, .val (.long (p0.toInt64)), .second, .val (.long (p1.toInt64)), .second, .val (.long (((p1.toInt64) - (p0.toInt64)) + (1 : Int64))), .second, .val (.ref b1), .val (.ref b54), .val (.long (q3 &&& (4611686018427387903 : Int64))), .second, .val (.ref b_84)] [(.int (1 : Int32))])) _
          refine XS.goto X87.here hx rfl (pc0 := 140) (pc' := 144) rfl (hb hby at_140) (by decide) (by decide) ?_
          show Steps p.tables e below (T87.setTop (mkF m 144 #[.val (.int p0), .val (.int p1), .val (.long q2), .second, .val (.long q3), .second, .val (.long (p0.toInt64)), .second, .val (.long (p1.toInt64)), .second, .val (.long (((p1.toInt64) - (p0.toInt64)) + (1 : Int64))), .second, .val (.ref b1), .val (.ref b54), .val (.long (q3 &&& (4611686018427387903 : Int64))), .second, .val (.ref b_84)] [(.int (1 : Int32))])) _
          exact retN X87 hx (t := .boolean) Bd.returns (by simp) (hb hby at_144) hr
        · show Q0 Z p0 p1 q2 q3 h0 n0 _ T87.heap _
          rw [e87q]
          exact ⟨congrArg (fun q => some (Value.int q)) hv100, N87⟩
      · have pre92 : ∀ t, Steps p.tables e below (T87.setTop (mkF m 136 #[.val (.int p0), .val (.int p1), .val (.long q2), .second, .val (.long q3), .second, .val (.long (p0.toInt64)), .second, .val (.long (p1.toInt64)), .second, .val (.long (((p1.toInt64) - (p0.toInt64)) + (1 : Int64))), .second, .val (.ref b1), .val (.ref b54), .val (.long (q3 &&& (4611686018427387903 : Int64))), .second, .val (.ref b_84)] [(.int (0 : Int32)), (.int (f4 (0 : Int64) ((q3 &&& (4611686018427387903 : Int64)) - (1 : Int64))))])) t → Steps p.tables e below (s₁.setTop (entryFrame m #[(.int p0), (.int p1), (.long q2), (.long q3)] maxLocals)) t := fun t kt => pre88 t (by
            show Steps p.tables e below (T87.setTop (mkF m 128 #[.val (.int p0), .val (.int p1), .val (.long q2), .second, .val (.long q3), .second, .val (.long (p0.toInt64)), .second, .val (.long (p1.toInt64)), .second, .val (.long (((p1.toInt64) - (p0.toInt64)) + (1 : Int64))), .second, .val (.ref b1), .val (.ref b54), .val (.long (q3 &&& (4611686018427387903 : Int64))), .second, .val (.ref b_84)] [(.int (lcmpW (q3 &&& (4611686018427387903 : Int64)) (0 : Int64))), (.int (f4 (0 : Int64) ((q3 &&& (4611686018427387903 : Int64)) - (1 : Int64))))])) _
            refine XS.ifYes X87.here hx rfl (pc0 := 128) (pc' := 135) rfl (hb hby at_128) rfl ((if0 _ _).trans (feq hc128_89).2) (by decide) (by decide) ?_
            show Steps p.tables e below (T87.setTop (mkF m 135 #[.val (.int p0), .val (.int p1), .val (.long q2), .second, .val (.long q3), .second, .val (.long (p0.toInt64)), .second, .val (.long (p1.toInt64)), .second, .val (.long (((p1.toInt64) - (p0.toInt64)) + (1 : Int64))), .second, .val (.ref b1), .val (.ref b54), .val (.long (q3 &&& (4611686018427387903 : Int64))), .second, .val (.ref b_84)] [(.int (f4 (0 : Int64) ((q3 &&& (4611686018427387903 : Int64)) - (1 : Int64))))])) _
            refine XS.iconst X87.here hx rfl (hb hby at_135) ?_
            exact kt)
        have hd136_93 : (f4 (0 : Int64) ((q3 &&& (4611686018427387903 : Int64)) - (1 : Int64))) = (0 : Int32) := own_sz0 hc128_89
        obtain ⟨fs, hr, hrun, hended, hW, hsame⟩ := X87.leave (v := some (.int (1 : Int32))) (fun h => by rw [Bd.returns] at h; cases h)
        have hv101 : (1 : Int32) = (1 : Int32) := rfl
        refine ⟨_, _, pre92 _ ?_, hrun, hended, _, _, rfl, ?_, ⟨_, rfl⟩, hW, hsame.mono (by decide) (by decide)⟩
        · show Steps p.tables e below (T87.setTop (mkF m 136 #[.val (.int p0), .val (.int p1), .val (.long q2), .second, .val (.long q3), .second, .val (.long (p0.toInt64)), .second, .val (.long (p1.toInt64)), .second, .val (.long (((p1.toInt64) - (p0.toInt64)) + (1 : Int64))), .second, .val (.ref b1), .val (.ref b54), .val (.long (q3 &&& (4611686018427387903 : Int64))), .second, .val (.ref b_84)] [(.int (0 : Int32)), (.int (f4 (0 : Int64) ((q3 &&& (4611686018427387903 : Int64)) - (1 : Int64))))])) _
          refine XS.icmpNo X87.here hx rfl (hb hby at_136) rfl (teq hd136_93).2 ?_
          show Steps p.tables e below (T87.setTop (mkF m 139 #[.val (.int p0), .val (.int p1), .val (.long q2), .second, .val (.long q3), .second, .val (.long (p0.toInt64)), .second, .val (.long (p1.toInt64)), .second, .val (.long (((p1.toInt64) - (p0.toInt64)) + (1 : Int64))), .second, .val (.ref b1), .val (.ref b54), .val (.long (q3 &&& (4611686018427387903 : Int64))), .second, .val (.ref b_84)] [])) _
          refine XS.iconst X87.here hx rfl (hb hby at_139) ?_
          show Steps p.tables e below (T87.setTop (mkF m 140 #[.val (.int p0), .val (.int p1), .val (.long q2), .second, .val (.long q3), .second, .val (.long (p0.toInt64)), .second, .val (.long (p1.toInt64)), .second, .val (.long (((p1.toInt64) - (p0.toInt64)) + (1 : Int64))), .second, .val (.ref b1), .val (.ref b54), .val (.long (q3 &&& (4611686018427387903 : Int64))), .second, .val (.ref b_84)] [(.int (1 : Int32))])) _
          refine XS.goto X87.here hx rfl (pc0 := 140) (pc' := 144) rfl (hb hby at_140) (by decide) (by decide) ?_
          show Steps p.tables e below (T87.setTop (mkF m 144 #[.val (.int p0), .val (.int p1), .val (.long q2), .second, .val (.long q3), .second, .val (.long (p0.toInt64)), .second, .val (.long (p1.toInt64)), .second, .val (.long (((p1.toInt64) - (p0.toInt64)) + (1 : Int64))), .second, .val (.ref b1), .val (.ref b54), .val (.long (q3 &&& (4611686018427387903 : Int64))), .second, .val (.ref b_84)] [(.int (1 : Int32))])) _
          exact retN X87 hx (t := .boolean) Bd.returns (by simp) (hb hby at_144) hr
        · show Q0 Z p0 p1 q2 q3 h0 n0 _ T87.heap _
          rw [e87q]
          exact ⟨congrArg (fun q => some (Value.int q)) hv101, N87⟩
set_option maxRecDepth 65536 in
set_option maxHeartbeats 40000000 in
theorem comes_1 {Post : Tables → Env → Array Value → State → Outcome → State → Prop} (hpost : ∀ tb e args s v u, (limb_1_1.after args s (.returned v) u = true ∧ limb_1_2.after args s (.returned v) u = true ∧ True) → FrameEnd s (.returned v) u (Jvm.fieldLocs frame_1_writes args s ++ Jvm.arrayLocs frame_1_arrays args s ++ Jvm.staticLocs frame_1_statics s) 16 128 → Post tb e args s (.returned v) u) :
    ArmFor flags0 classFile x code maxLocals ret World_1 tables_1 room_1 Calls_1 rest_1 Pre_1 Post := by
  intro l hfl _ _ p e ha hc hk s m args below hf hA hF happ hP
  obtain ⟨hcalls, hrest, hpre⟩ := hP
  obtain ⟨-, -, -, hnamed, -, -, -, hat⟩ := (Spec.applies_iff hf).mp happ
  obtain ⟨hg, hn⟩ := and_e (Cond.before_iff.mp (show (Jvm.Cond.and given_1 narrow_1).before args s = true from hpre))
  obtain ⟨g1, g2⟩ := and_e hg
  obtain ⟨g3, g4⟩ := and_e g2
  obtain ⟨g5, g6⟩ := and_e g4
  obtain ⟨g7, g8⟩ := and_e g6
  obtain ⟨w0, w1, w2, w3, rfl⟩ : ∃ w0 w1 w2 w3 : Value, args = #[w0, w1, w2, w3] := by
    have hs : args.size = 4 := by simpa [Cond.value, given_1] using g1
    obtain ⟨L⟩ := args
    match L, hs with
    | [w0, w1, w2, w3], _ => exact ⟨w0, w1, w2, w3, rfl⟩
  have hw := fun d (hd : d ∈ tables_1) => atoms_spec (ws := Jvm.Cond.code x code maxLocals ret :: tables_1) hat d (List.mem_cons_of_mem _ hd)
  have hfit : Fit s := fun {y c} hc i hi => by
    obtain ⟨ha, rfl⟩ := Array.getElem?_eq_some_iff.mp hc
    have q := List.all_eq_true.mp ((Array.all_eq_true_iff_forall_mem.mp hF) _ (Array.getElem_mem ha)) i (List.mem_range.mpr hi)
    simpa [Array.getElem?_eq_getElem hi] using q
  obtain ⟨i0, ei0⟩ := is_v g3
  obtain rfl : w0 = (.int i0) := Option.some.inj ei0
  obtain ⟨i1, ei1⟩ := is_v g5
  obtain rfl : w1 = (.int i1) := Option.some.inj ei1
  obtain ⟨i2, ei2⟩ := isL_v g7
  obtain rfl : w2 = (.long i2) := Option.some.inj ei2
  obtain ⟨i3, ei3⟩ := isL_v g8
  obtain rfl : w3 = (.long i3) := Option.some.inj ei3
  obtain ⟨n, o, h1, h2, h3, _, L, rfl, ⟨hv0, N⟩, hq⟩ := rm0 l s _ hw tables_1 i0 i1 i2 i3 s.heap s.heap.size (Nat.le_refl _) p e ha hc hk s m _ below hf ((Spec.applies_iff_loose hf).mp happ).1 ⟨rfl, State.Warmed39.refl s, rfl⟩ trivial
  subst hv0
  refine ⟨n, _, h1, h2, h3, hpost _ _ _ _ _ _ ⟨Cond.after_iff.mpr rfl, Cond.after_iff.mpr (eq_i res_at (Term.int_eval (1)) rfl), trivial⟩ ⟨hq.1, hq.2.1, (hq.2.2.sift fun y hy => Or.inr (N y hy)).mono (by decide) (by decide)⟩⟩
theorem main_1_1 : Claimed_1_1 := comes_1 fun _ _ _ _ _ _ h hF => ⟨h.1, hF⟩
theorem main_1_2 : Claimed_1_2 := comes_1 fun _ _ _ _ _ _ h hF => ⟨h.2.1, hF⟩
end Jvm.Pilot.@@N@@
namespace Jvm.Pilot.@@N@@
open Jvm Jvm.ClassFile Sem Op Lib Jvm.Free Jvm.Stand Jvm.Pilot.@@N@@.Jvm.D
/-! MADE BY PROGRAM (witnessworld.py) out of the Statement's table words and the real class files: 10 classes; the members and pool entries that the words name. The judged class is class 1, her method 1. -/
namespace start1
open Jvm.ClassFile
def u (s : String) : CpInfo := .utf8 (stringToUtf16 s)
/-- a pool by its gaps: so many unusable entries, then the entry; so many at the end -/
def gap : Nat → List CpInfo → List CpInfo
  | 0, r => r
  | n + 1, r => .unusable :: gap n r
def poolList (es : List (Nat × CpInfo)) (last : Nat) : List CpInfo := es.foldr (fun e r => gap e.1 (e.2 :: r)) (gap last [])
def pool (es : List (Nat × CpInfo)) (last : Nat) : Array CpInfo := ⟨poolList es last⟩
def fileOf (pool : Array CpInfo) (this : Nat) (attrs : Array Attribute := #[]) (ms : Array MethodInfo := #[]) (fl : Nat := 33) (sup : Nat := 0) (ifs : Array Nat := #[]) (fds : Array FieldInfo := #[]) : ClassFile where
  minorVersion := 0
  majorVersion := 65
  constantPool := pool
  accessFlags := fl
  thisClass := this
  superClass := sup
  interfaces := ifs
  fields := fds
  methods := ms
  attributes := attrs
def plain (name : String) (sup : Option ClassId) : Class where
  name := name
  kind := .ordinary
  loader := none
  accessFlags := 33
  super := sup
  interfaces := #[]
  cf := none
  fields := #[]
  methods := #[]
  instanceTypes := #[]
  staticTypes := #[]
  resolved := #[]
  callSites := []
  init := .initialized
  statics := none
  mirror := none

def pool0 : Array CpInfo := pool [(5, u "<init>"), (0, u "()V"), (1, .class_ 10), (1, u "java/lang/Object")] 113

def k0c0 : Code := { maxStack := 0, maxLocals := 1, code := object_method_1_code, exceptionTable := #[], attributes := #[] }
def k0m0 : Method := { name := "<init>", desc := "()V", sig := { parameters := [], returnType := none }, accessFlags := 1, code := some k0c0 }
/-- java/lang/Object -/
def k0 : Class := { plain "java/lang/Object" none with
  accessFlags := 33
  interfaces := #[]
  cf := some (fileOf pool0 8 #[] #[{ accessFlags := 1, nameIndex := 5, descriptorIndex := 6, attributes := #[] }] 33 0 #[] #[])
  fields := #[]
  methods := #[k0m0]
  instanceTypes := #[]
  staticTypes := #[]
  resolved := Array.replicate 124 none
  statics := none }

def pool1 : Array CpInfo := pool [(2, .class_ 4), (1, u "java/lang/Object"), (0, u "<init>"), (0, u "()V"), (0, .class_ 8), (0, u "com/example/cratewise/cratewise/server/ByteRange"), (0, .methodref 7 10), (0, .nameAndType 5 11), (0, u "(JJ)V"), (0, .methodref 7 13), (0, .nameAndType 14 15), (0, u "isEmpty"), (0, u "()Z"), (2, .long 9223372036854775808), (1, .long 4611686018427387903), (1, .methodref 7 23), (0, .nameAndType 24 25), (0, u "whole"), (0, u "(J)Lcom/example/cratewise/cratewise/server/ByteRange;"), (0, .class_ 27), (0, u "com/example/cratewise/cratewise/server/ByteRangeIsEmptyPinLaw"), (2, u "law"), (0, u "(IIJJ)Z")] 3

def k1m0 : Method := { name := "<init>", desc := "()V", sig := { parameters := [], returnType := none }, accessFlags := 2, code := none }
def k1c1 : Code := { maxStack := 8, maxLocals := 17, code := code, exceptionTable := #[], attributes := #[] }
def k1m1 : Method := { name := "law", desc := "(IIJJ)Z", sig := { parameters := [.int, .int, .long, .long], returnType := some .boolean }, accessFlags := 9, code := some k1c1 }
/-- com/example/cratewise/cratewise/server/ByteRangeIsEmptyPinLaw -/
def k1 : Class := { plain "com/example/cratewise/cratewise/server/ByteRangeIsEmptyPinLaw" (some 0) with
  accessFlags := 49
  interfaces := #[]
  cf := some (fileOf pool1 26 #[] #[{ accessFlags := 2, nameIndex := 5, descriptorIndex := 6, attributes := #[] }, { accessFlags := 9, nameIndex := 30, descriptorIndex := 31, attributes := #[] }] 49 2 #[] #[])
  fields := #[]
  methods := #[k1m0, k1m1]
  instanceTypes := #[]
  staticTypes := #[]
  resolved := Array.replicate 35 none
  statics := none }

def pool2 : Array CpInfo := pool [(1, .methodref 2 3), (0, .class_ 4), (0, .nameAndType 5 6), (0, u "java/lang/Object"), (0, u "<init>"), (0, u "()V"), (0, .class_ 8), (0, u "java/lang/Record")] 13

def k2c0 : Code := { maxStack := 1, maxLocals := 1, code := jdk_30_method_1_code, exceptionTable := #[], attributes := #[] }
def k2m0 : Method := { name := "<init>", desc := "()V", sig := { parameters := [], returnType := none }, accessFlags := 4, code := some k2c0 }
/-- java/lang/Record -/
def k2 : Class := { plain "java/lang/Record" (some 0) with
  accessFlags := 1057
  interfaces := #[]
  cf := some (fileOf pool2 7 #[] #[{ accessFlags := 4, nameIndex := 5, descriptorIndex := 6, attributes := #[] }] 1057 2 #[] #[])
  fields := #[]
  methods := #[k2m0]
  instanceTypes := #[]
  staticTypes := #[]
  resolved := Array.replicate 22 none
  statics := none }

def pool3 : Array CpInfo := pool [(1, .methodref 2 3), (0, .class_ 4), (0, .nameAndType 5 6), (0, u "java/lang/Record"), (0, u "<init>"), (0, u "()V"), (0, .fieldref 8 9), (0, .class_ 10), (0, .nameAndType 11 12), (0, u "com/example/cratewise/cratewise/server/ByteRange"), (0, u "first"), (0, u "J"), (0, .fieldref 8 14), (0, .nameAndType 15 12), (0, u "last"), (0, .methodref 8 17), (0, .nameAndType 5 18), (0, u "(JJ)V"), (2, u "RANGE"), (0, u "Ljava/util/regex/Pattern;"), (17, u "()Z"), (6, u "isEmpty"), (53, u "whole"), (0, u "(J)Lcom/example/cratewise/cratewise/server/ByteRange;")] 41

def k3c0 : Code := { maxStack := 3, maxLocals := 5, code := prog_37_method_1_code, exceptionTable := #[], attributes := #[] }
def k3m0 : Method := { name := "<init>", desc := "(JJ)V", sig := { parameters := [.long, .long], returnType := none }, accessFlags := 0, code := some k3c0 }
def k3c1 : Code := { maxStack := 8, maxLocals := 2, code := prog_37_method_2_code, exceptionTable := #[], attributes := #[] }
def k3m1 : Method := { name := "whole", desc := "(J)Lcom/example/cratewise/cratewise/server/ByteRange;", sig := { parameters := [.long], returnType := some (.object "com/example/cratewise/cratewise/server/ByteRange") }, accessFlags := 8, code := some k3c1 }
def k3c2 : Code := { maxStack := 4, maxLocals := 1, code := prog_37_method_4_code, exceptionTable := #[], attributes := #[] }
def k3m2 : Method := { name := "isEmpty", desc := "()Z", sig := { parameters := [], returnType := some .boolean }, accessFlags := 0, code := some k3c2 }
/-- com/example/cratewise/cratewise/server/ByteRange -/
def k3 : Class := { plain "com/example/cratewise/cratewise/server/ByteRange" (some 2) with
  accessFlags := 48
  interfaces := #[]
  cf := some (fileOf pool3 8 #[] #[{ accessFlags := 0, nameIndex := 5, descriptorIndex := 18, attributes := #[] }, { accessFlags := 8, nameIndex := 101, descriptorIndex := 102, attributes := #[] }, { accessFlags := 0, nameIndex := 47, descriptorIndex := 40, attributes := #[] }] 48 2 #[] #[{ accessFlags := 18, nameIndex := 11, descriptorIndex := 12, attributes := #[] }, { accessFlags := 18, nameIndex := 15, descriptorIndex := 12, attributes := #[] }, { accessFlags := 26, nameIndex := 21, descriptorIndex := 22, attributes := #[] }])
  fields := #[{ name := "first", type := .long, accessFlags := 18, slot := 0, constantValue := 0 }, { name := "last", type := .long, accessFlags := 18, slot := 1, constantValue := 0 }, { name := "RANGE", type := (.object "java/util/regex/Pattern"), accessFlags := 26, slot := 0, constantValue := 0 }]
  methods := #[k3m0, k3m1, k3m2]
  instanceTypes := #[.long, .long]
  staticTypes := #[(.object "java/util/regex/Pattern")]
  resolved := Array.replicate 144 none
  statics := none }

def pool4 : Array CpInfo := pool [(1, u "java/lang/Cloneable"), (0, .class_ 1), (0, u "java/lang/Object"), (0, .class_ 3)] 3

/-- java/lang/Cloneable -/
def k4 : Class := { plain "java/lang/Cloneable" (some 0) with
  accessFlags := 1537
  interfaces := #[]
  cf := some (fileOf pool4 2 #[] #[] 1537 4 #[] #[])
  fields := #[]
  methods := #[]
  instanceTypes := #[]
  staticTypes := #[]
  resolved := Array.replicate 8 none
  statics := none }

def pool5 : Array CpInfo := pool [(1, u "java/io/Serializable"), (0, .class_ 1), (0, u "java/lang/Object"), (0, .class_ 3)] 3

/-- java/io/Serializable -/
def k5 : Class := { plain "java/io/Serializable" (some 0) with
  accessFlags := 1537
  interfaces := #[]
  cf := some (fileOf pool5 2 #[] #[] 1537 4 #[] #[])
  fields := #[]
  methods := #[]
  instanceTypes := #[]
  staticTypes := #[]
  resolved := Array.replicate 8 none
  statics := none }

/-- the primitive byte -/
def k6 : Class := { plain "byte" none with kind := .primitive 'B', accessFlags := 0x411 }
/-- [B -/
def k7 : Class := { plain "[B" (some 0) with kind := .array 6 .byte, interfaces := #[4, 5], accessFlags := 1041 }

/-- the primitive int -/
def k8 : Class := { plain "int" none with kind := .primitive 'I', accessFlags := 0x411 }
/-- [I -/
def k9 : Class := { plain "[I" (some 0) with kind := .array 8 .int, interfaces := #[4, 5], accessFlags := 1041 }

def heap : Heap := #[]
def classes : Array Class := #[k0, k1, k2, k3, k4, k5, k6, k7, k8, k9]
def interned : List (Array UInt16 × Addr) := []
def slotsUsed : Nat := 0
def theMethod : MethodId := ⟨1, 1⟩
def args0 : Array Value := #[.int 5, .int 9, .long 3, .long 5]
def aboutOver (below : List Frame) : State where
  vm := { classes := classes, interned := interned.toArray }
  heap := heap
  slotsUsed := slotsUsed
  threads := #[{ frames := .invoking theMethod args0 :: below }]
def below0 : List Frame := [.native { method := ⟨0, 0⟩, args := #[] }]
def about1 : State := aboutOver below0
def p0 : Program := .bare "" "" ""
def e0 : Env := launch0.env 0 0 0
theorem w_frames : about1.frames = Frame.invoking theMethod args0 :: below0 := rfl
set_option maxRecDepth 65536 in
theorem w_args : argsFit about1.vm theMethod args0 = true := by decide +kernel
set_option maxRecDepth 65536 in
theorem w_heap : heapFits about1 = true := by decide +kernel
set_option maxRecDepth 65536 in
theorem w_runnable : about1.curStatus? = some .runnable := by decide +kernel
set_option maxRecDepth 65536 in
theorem w_alone : about1.alone = true := by decide +kernel
set_option maxRecDepth 65536 in
theorem w_named : about1.methodNamed? x = some theMethod := by decide +kernel
set_option maxRecDepth 65536 in
theorem w_hears : about1.hears theMethod below0 = true := by decide +kernel
set_option maxRecDepth 65536 in
theorem w_ripe : about1.ripe theMethod args0 below0 = true := by decide +kernel
theorem w_running : about1.status = .running := rfl
set_option maxRecDepth 65536 in
theorem w_room : about1.hasRoom e0.platform room_1 = true :=
  launch0.hasRoom_least _ room_1 (by decide +kernel) (by decide +kernel) (by decide +kernel) (by decide +kernel) (by decide +kernel) (by decide +kernel)
theorem allAtoms_all (ts : List Jvm.Cond) (a : Array Jvm.Value) (st : Jvm.State) : (allAtoms ts).before a st = ts.all (fun c => c.before a st) := by
  induction ts with
  | nil => rfl
  | cons c t ih =>
    show (Jvm.Cond.and c (allAtoms t)).before a st = _
    rw [Jvm.Cond.before_and, ih, List.all_cons]
def words1 : List Jvm.Cond := Jvm.Cond.code x code maxLocals ret :: tables_1
/-- a 'code' word, met by the world's own term for the bytes: nothing is compared byte by byte -/
theorem code_word {y : MethodName} {bytes : ByteArray} {mx : Nat} {rt : Option FieldType} {a : Array Value} {s : State} {m : MethodId} {meth : Method} {c : Code} (h1 : s.methodNamed? y = some m) (h2 : s.vm.method? m = some meth) (h3 : meth.code = some c) (h4 : c.code = bytes)
    (h5 : (c.maxLocals == mx && c.exceptionTable.isEmpty && decide (c.maxStack ≤ mostOperands) && decide (meth.sig.returnType = rt) && !meth.locks && decide (parseMethodDescriptor y.desc = some meth.sig)) = true) : (Jvm.Cond.code y bytes mx rt).before a s = true := by
  simp only [Bool.and_eq_true, beq_iff_eq, Bool.not_eq_true', decide_eq_true_eq] at h5
  obtain ⟨⟨⟨⟨⟨g1, g2⟩, g3⟩, g4⟩, g5⟩, g6⟩ := h5
  simp [Cond.before, Cond.holds, Cond.value, h1, h2, h3, h4, g1, g2, g3, g4, g5, g6]
def isCode : Jvm.Cond → Bool
  | .code _ _ _ _ => true
  | _ => false
theorem all_split {L : List Jvm.Cond} {P : Jvm.Cond → Bool} (h1 : L.all (fun c => isCode c || P c) = true) (h2 : ∀ c ∈ L.filter isCode, P c = true) : L.all P = true := by
  refine List.all_eq_true.mpr fun c hc => ?_
  have h := List.all_eq_true.mp h1 c hc
  rcases Bool.eq_false_or_eq_true (isCode c) with hi | hi
  · exact h2 c (List.mem_filter.mpr ⟨hc, hi⟩)
  · simpa [hi] using h
set_option maxRecDepth 65536 in
theorem w_c0 : (Jvm.Cond.code x code maxLocals ret).before args0 about1 = true := code_word (m := ⟨1, 1⟩) (meth := k1m1) (c := k1c1) (by decide +kernel) rfl rfl rfl (by decide +kernel)
set_option maxRecDepth 65536 in
theorem w_c1 : (Jvm.Cond.code ({ cls := "com/example/cratewise/cratewise/server/ByteRange", name := "<init>", desc := "(JJ)V" } : Jvm.MethodName) prog_37_method_1_code (5 : Nat) (Option.none : Option Jvm.ClassFile.FieldType)).before args0 about1 = true := code_word (m := ⟨3, 0⟩) (meth := k3m0) (c := k3c0) (by decide +kernel) rfl rfl rfl (by decide +kernel)
set_option maxRecDepth 65536 in
theorem w_c2 : (Jvm.Cond.code ({ cls := "java/lang/Record", name := "<init>", desc := "()V" } : Jvm.MethodName) jdk_30_method_1_code (1 : Nat) (Option.none : Option Jvm.ClassFile.FieldType)).before args0 about1 = true := code_word (m := ⟨2, 0⟩) (meth := k2m0) (c := k2c0) (by decide +kernel) rfl rfl rfl (by decide +kernel)
set_option maxRecDepth 65536 in
theorem w_c3 : (Jvm.Cond.code ({ cls := "java/lang/Object", name := "<init>", desc := "()V" } : Jvm.MethodName) object_method_1_code (1 : Nat) (Option.none : Option Jvm.ClassFile.FieldType)).before args0 about1 = true := code_word (m := ⟨0, 0⟩) (meth := k0m0) (c := k0c0) (by decide +kernel) rfl rfl rfl (by decide +kernel)
set_option maxRecDepth 65536 in
theorem w_c4 : (Jvm.Cond.code ({ cls := "com/example/cratewise/cratewise/server/ByteRange", name := "isEmpty", desc := "()Z" } : Jvm.MethodName) prog_37_method_4_code (1 : Nat) (Option.some Jvm.ClassFile.FieldType.boolean)).before args0 about1 = true := code_word (m := ⟨3, 2⟩) (meth := k3m2) (c := k3c2) (by decide +kernel) rfl rfl rfl (by decide +kernel)
set_option maxRecDepth 65536 in
theorem w_c5 : (Jvm.Cond.code ({ cls := "com/example/cratewise/cratewise/server/ByteRange", name := "whole", desc := "(J)Lcom/example/cratewise/cratewise/server/ByteRange;" } : Jvm.MethodName) prog_37_method_2_code (2 : Nat) (Option.some (Jvm.ClassFile.FieldType.object "com/example/cratewise/cratewise/server/ByteRange"))).before args0 about1 = true := code_word (m := ⟨3, 1⟩) (meth := k3m1) (c := k3c1) (by decide +kernel) rfl rfl rfl (by decide +kernel)
def codes1 : List Jvm.Cond := [Jvm.Cond.code x code maxLocals ret, Jvm.Cond.code ({ cls := "com/example/cratewise/cratewise/server/ByteRange", name := "<init>", desc := "(JJ)V" } : Jvm.MethodName) prog_37_method_1_code (5 : Nat) (Option.none : Option Jvm.ClassFile.FieldType), Jvm.Cond.code ({ cls := "java/lang/Record", name := "<init>", desc := "()V" } : Jvm.MethodName) jdk_30_method_1_code (1 : Nat) (Option.none : Option Jvm.ClassFile.FieldType), Jvm.Cond.code ({ cls := "java/lang/Object", name := "<init>", desc := "()V" } : Jvm.MethodName) object_method_1_code (1 : Nat) (Option.none : Option Jvm.ClassFile.FieldType), Jvm.Cond.code ({ cls := "com/example/cratewise/cratewise/server/ByteRange", name := "isEmpty", desc := "()Z" } : Jvm.MethodName) prog_37_method_4_code (1 : Nat) (Option.some Jvm.ClassFile.FieldType.boolean), Jvm.Cond.code ({ cls := "com/example/cratewise/cratewise/server/ByteRange", name := "whole", desc := "(J)Lcom/example/cratewise/cratewise/server/ByteRange;" } : Jvm.MethodName) prog_37_method_2_code (2 : Nat) (Option.some (Jvm.ClassFile.FieldType.object "com/example/cratewise/cratewise/server/ByteRange"))]
set_option maxRecDepth 65536 in
theorem codes_eq : words1.filter isCode = codes1 := rfl
theorem w_codes : ∀ c ∈ words1.filter isCode, c.before args0 about1 = true := by
  rw [codes_eq]
  intro c hc
  simp only [codes1, List.mem_cons, List.not_mem_nil, or_false] at hc
  rcases hc with rfl | rfl | rfl | rfl | rfl | rfl
  · exact w_c0
  · exact w_c1
  · exact w_c2
  · exact w_c3
  · exact w_c4
  · exact w_c5
set_option maxRecDepth 65536 in
theorem w_t1 : (words1.take 24).all (fun c => isCode c || c.before args0 about1) = true := by decide +kernel
set_option maxRecDepth 65536 in
theorem w_t2 : (words1.drop 24).all (fun c => isCode c || c.before args0 about1) = true := by decide +kernel
theorem w_tables : (allAtoms (Jvm.Cond.code x code maxLocals ret :: tables_1)).before args0 about1 = true := by
  rw [allAtoms_all]
  show words1.all (fun c => c.before args0 about1) = true
  refine all_split ?_ w_codes
  rw [← List.take_append_drop 24 words1, List.all_append, w_t1, w_t2]
  rfl
set_option maxRecDepth 65536 in
theorem w_case : (Jvm.Cond.and given_1 narrow_1).before args0 about1 = true := by decide +kernel
theorem w_applies : (headSpec (Jvm.Cond.code x code maxLocals ret :: tables_1) room_1).applies x e0.platform about1 = true :=
  (Spec.applies_iff w_frames).mpr ⟨w_running, w_runnable, w_alone, w_named, w_hears, w_ripe, w_room, w_tables⟩
theorem atStart : AtStart classFile x code maxLocals ret World_1 tables_1 room_1 Calls_1 rest_1 Pre_1 launch0 p0 e0 about1 theMethod args0 below0 :=
  ⟨lists_1, trivial, launch0.admits_env _ _ _, launch0.least_env, fairChoices_fair.cas, fairChoices_fair.clock, w_frames, w_args, w_heap, w_applies, trivial, trivial, w_case⟩
end start1
theorem witness_1 : WitnessClaimed_1 := ⟨start1.p0, start1.e0, start1.about1, start1.theMethod, start1.args0, start1.below0, start1.atStart⟩
end Jvm.Pilot.@@N@@
