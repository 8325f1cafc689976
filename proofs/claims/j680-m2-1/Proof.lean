import JvmDerived
import JvmDerived.Pilot.@@N@@Statement
import JvmDerived.Pilot.@@N@@Code
set_option linter.unusedVariables false
set_option linter.unusedSimpArgs false
namespace Jvm.RoadKit
open Sem ClassFile Op Lib Jvm.Stand Jvm.Free Jvm.LawKit
section New
variable {p : Program} {l : Launch} {e : Env} {R : Room} {s : State} {m : MethodId} {args : Array Value} {below : List Frame} {meth : Method} {c : Code} {T : State} {locs : List Loc} {cells slots : Nat}
theorem retI (X : Stand p l e R s m args below meth c T locs cells slots) (hx : p.tables.exec = Jvm.exec) {pc : Nat} {Ls : Array Slot} {z : Int32} {rest : List Value} (hret : meth.sig.returnType = some .int) (hd : decode c.code pc = .ok (.ireturn, 1)) {fs : List Frame}
    (hl : ∀ (f : JFrame) (acts : List Action), f.method = m → f.locked = none → f.entered = [] → (doReturn e (T.setTop f) acts (some (.int z))).1 = T.setFrames fs) : Steps p.tables e below (T.setTop (mkF m pc Ls (.int z :: rest))) (T.setFrames fs) := by
  have hm' : T.vm.method? m = some meth := X.method'
  have hn : narrow .int (.int z) = .int z := rfl
  show Steps p.tables e below (T.setTop { method := m, pc := pc, locals := Ls, stack := _ :: rest, locked := none }) _
  jvm_step X.here [X.here.top, hx, hd, hm', hret, hn]
  first | (intro acts; rw [hl _ acts rfl rfl rfl]) | rw [hl _ _ rfl rfl rfl]
  exact Steps.refl _
end New
end Jvm.RoadKit
namespace Jvm.Pilot.@@N@@
open Jvm Jvm.ClassFile Sem Op Lib Jvm.Free Jvm.Stand Jvm.LawKit Jvm.RoadKit Bundle Jvm.Pilot.@@N@@.Jvm.D
theorem d2_0 : decode jdk_30_method_1_code 0 = .ok (.aload_n 0, 1) := by decide +kernel
theorem d2_1 : decode jdk_30_method_1_code 1 = .ok (.invokespecial 1, 3) := by decide +kernel
theorem d2_4 : decode jdk_30_method_1_code 4 = .ok (.return_, 1) := by decide +kernel
theorem pn_2 : plainName "java/lang/Record" = true := by first | (simp [plainName, overriddenIn]; done) | decide +kernel
theorem ef_2 (m : MethodId) (x0 : Addr) : entryFrame m #[(.ref x0)] 1 = mkF m 0 #[.val (.ref x0)] [] := by first | (simp [entryFrame, mkF, argsToLocals, Value.category]; done) | rfl
def Q2 (Z : State) (o0 : Addr) (h0 : Heap) (n0 : Nat) (v : Option Value) (h : Heap) (L : List Loc) : Prop := v = none ∧ Fr n0 L ∧ h = h0
set_option maxRecDepth 65536 in
set_option maxHeartbeats 40000000 in
theorem rm2 (l : Launch) (Z : State) (a0 : Array Value) (hw : ∀ d ∈ tables_1, d.before a0 Z = true) (ws : List Jvm.Cond) (o0 : Addr) (h0 : Heap) (n0 : Nat) (Z0 : n0 ≤ h0.size) :
    MetFree l (⟨"java/lang/Record", "<init>", "()V"⟩ : MethodName) (head1 (Jvm.Cond.code (⟨"java/lang/Record", "<init>", "()V"⟩ : MethodName) jdk_30_method_1_code 1 none :: ws) ({ frames := 1, cells := 0, slots := 0, locals := 12 } : Room)) (fun a U => a = #[(.ref o0)] ∧ Z.Warmed39 U.vm ∧ U.heap = h0) (fun _ _ _ _ _ => True) (fun _ U o U' => ∃ v L, o = .returned v ∧ Q2 Z o0 h0 n0 v U'.heap L ∧ FrameEnd U o U' L ({ frames := 1, cells := 0, slots := 0, locals := 12 } : Room).cells ({ frames := 1, cells := 0, slots := 0, locals := 12 } : Room).slots) := by
  refine MetFree.of_bodySF (plainFor_of_name pn_2) hisR ?_
  intro p e s m args below meth c s₁ Bd hml0 hP hK
  obtain ⟨rfl, hZ, hh⟩ := hP
  have hx := Bd.exec
  have hby := Bd.bytes
  have hml : c.maxLocals = 1 := hml0
  have hown : s.vm.findClass "java/lang/Record" = some m.cls := findClass_of_methodNamed Bd.named
  have hnm := (name_of_methodNamed Bd.named Bd.method).1
  have X0 : Stand p l e ({ frames := 1, cells := 0, slots := 0, locals := 12 } : Room) s m #[(.ref o0)] below meth c s₁ [] 0 0 := Stand.of_body Bd
  have e0 : s₁.heap = h0 := by rw [← hh, Bd.state]; rfl
  have N0 := Fr.nil n0
  have pre0 : ∀ t, Steps p.tables e below (s₁.setTop (mkF m 0 #[.val (.ref o0)] [])) t → Steps p.tables e below (s₁.setTop (entryFrame m #[(.ref o0)] 1)) t := fun t k => castTop (ef_2 m o0) k
  obtain ⟨T1, X1, e1, st1⟩ := initO X0 hx hZ hown (hw _ (List.mem_of_getElem? (i := 15) rfl)) (hw _ (List.mem_of_getElem? (i := 16) rfl)) (hw _ (List.mem_of_getElem? (i := 17) rfl)) e0 (g := (mkF m 1 #[.val (.ref o0)] [(.ref o0)])) rfl (by rw [hml]; rfl) rfl (hb hby d2_1) (by decide) (W := 0) (by show 2 * 0 + _ ≤ _; exact Nat.le_of_eq rfl) (by decide)
  obtain ⟨fs, hr, hrun, hended, hW, hsame⟩ := X1.leave (v := none) (fun _ => rfl)
  refine ⟨_, _, pre0 _ ?_, hrun, hended, _, _, rfl, ?_, ⟨_, rfl⟩, hW, hsame.mono (by decide) (by decide)⟩
  · show Steps p.tables e below (s₁.setTop (mkF m 0 #[.val (.ref o0)] [])) _
    refine XS.aloadN X0.here hx rfl (hb hby d2_0) rfl rfl ?_
    show Steps p.tables e below (s₁.setTop (mkF m 1 #[.val (.ref o0)] [(.ref o0)])) _
    refine st1 _ ?_
    show Steps p.tables e below (T1.setTop (mkF m 4 #[.val (.ref o0)] [])) _
    exact X1.returnOut hx Bd.returns (hb hby d2_4) hr
  · show Q2 Z o0 h0 n0 _ T1.heap _
    rw [e1]
    exact ⟨rfl, N0, rfl⟩
theorem d1_0 : decode prog_40_method_1_code 0 = .ok (.aload_n 0, 1) := by decide +kernel
theorem d1_1 : decode prog_40_method_1_code 1 = .ok (.invokespecial 1, 3) := by decide +kernel
theorem d1_4 : decode prog_40_method_1_code 4 = .ok (.aload_n 0, 1) := by decide +kernel
theorem d1_5 : decode prog_40_method_1_code 5 = .ok (.iload_n 1, 1) := by decide +kernel
theorem d1_6 : decode prog_40_method_1_code 6 = .ok (.putfield 7, 3) := by decide +kernel
theorem d1_9 : decode prog_40_method_1_code 9 = .ok (.aload_n 0, 1) := by decide +kernel
theorem d1_10 : decode prog_40_method_1_code 10 = .ok (.iload_n 2, 1) := by decide +kernel
theorem d1_11 : decode prog_40_method_1_code 11 = .ok (.putfield 13, 3) := by decide +kernel
theorem d1_14 : decode prog_40_method_1_code 14 = .ok (.aload_n 0, 1) := by decide +kernel
theorem d1_15 : decode prog_40_method_1_code 15 = .ok (.iload_n 3, 1) := by decide +kernel
theorem d1_16 : decode prog_40_method_1_code 16 = .ok (.putfield 16, 3) := by decide +kernel
theorem d1_19 : decode prog_40_method_1_code 19 = .ok (.aload_n 0, 1) := by decide +kernel
theorem d1_20 : decode prog_40_method_1_code 20 = .ok (.aload 4, 2) := by decide +kernel
theorem d1_22 : decode prog_40_method_1_code 22 = .ok (.putfield 19, 3) := by decide +kernel
theorem d1_25 : decode prog_40_method_1_code 25 = .ok (.aload_n 0, 1) := by decide +kernel
theorem d1_26 : decode prog_40_method_1_code 26 = .ok (.iload 5, 2) := by decide +kernel
theorem d1_28 : decode prog_40_method_1_code 28 = .ok (.putfield 23, 3) := by decide +kernel
theorem d1_31 : decode prog_40_method_1_code 31 = .ok (.aload_n 0, 1) := by decide +kernel
theorem d1_32 : decode prog_40_method_1_code 32 = .ok (.iload 6, 2) := by decide +kernel
theorem d1_34 : decode prog_40_method_1_code 34 = .ok (.putfield 26, 3) := by decide +kernel
theorem d1_37 : decode prog_40_method_1_code 37 = .ok (.aload_n 0, 1) := by decide +kernel
theorem d1_38 : decode prog_40_method_1_code 38 = .ok (.iload 7, 2) := by decide +kernel
theorem d1_40 : decode prog_40_method_1_code 40 = .ok (.putfield 29, 3) := by decide +kernel
theorem d1_43 : decode prog_40_method_1_code 43 = .ok (.aload_n 0, 1) := by decide +kernel
theorem d1_44 : decode prog_40_method_1_code 44 = .ok (.iload 8, 2) := by decide +kernel
theorem d1_46 : decode prog_40_method_1_code 46 = .ok (.putfield 32, 3) := by decide +kernel
theorem d1_49 : decode prog_40_method_1_code 49 = .ok (.return_, 1) := by decide +kernel
theorem pn_1 : plainName "com/example/sekhem/sekhem/model/Effects" = true := by first | (simp [plainName, overriddenIn]; done) | decide +kernel
theorem pd_1_0 : parseMethodDescriptor "()V" = some ⟨[], none⟩ := by decide +kernel
theorem ef_1 (m : MethodId) (x0 : Addr) (x1 : Int32) (x2 : Int32) (x3 : Int32) (x4 : Addr) (x5 : Int32) (x6 : Int32) (x7 : Int32) (x8 : Int32) : entryFrame m #[(.ref x0), (.int x1), (.int x2), (.int x3), (.ref x4), (.int x5), (.int x6), (.int x7), (.int x8)] 9 = mkF m 0 #[.val (.ref x0), .val (.int x1), .val (.int x2), .val (.int x3), .val (.ref x4), .val (.int x5), .val (.int x6), .val (.int x7), .val (.int x8)] [] := by first | (simp [entryFrame, mkF, argsToLocals, Value.category]; done) | rfl
def Q1 (Z : State) (o0 : Addr) (p1 : Int32) (p2 : Int32) (p3 : Int32) (o4 : Addr) (p5 : Int32) (p6 : Int32) (p7 : Int32) (p8 : Int32) (w2 : Int32) (w6 : Int32) (w11 : Int32) (w20 : Int32) (w25 : Int32) (w30 : Int32) (w35 : Int32) (h0 : Heap) (n0 : Nat) (v : Option Value) (h : Heap) (L : List Loc) : Prop := v = none ∧ Fr n0 L ∧ Keep h0 h [o0] ∧ Fld Z h o0 "com/example/sekhem/sekhem/model/Effects" "strength" "I" (.int p1) ∧ Fld Z h o0 "com/example/sekhem/sekhem/model/Effects" "defence" "I" (.int p2) ∧ Fld Z h o0 "com/example/sekhem/sekhem/model/Effects" "damage" "I" (.int p3) ∧ Fld Z h o0 "com/example/sekhem/sekhem/model/Effects" "when" "Lcom/example/sekhem/sekhem/model/Stance;" (.ref o4) ∧ Fld Z h o0 "com/example/sekhem/sekhem/model/Effects" "moves" "I" (.int p5) ∧ Fld Z h o0 "com/example/sekhem/sekhem/model/Effects" "vp" "I" (.int p6) ∧ Fld Z h o0 "com/example/sekhem/sekhem/model/Effects" "nightPrayer" "I" (.int p7) ∧ Fld Z h o0 "com/example/sekhem/sekhem/model/Effects" "prayer" "I" (.int p8)
set_option maxRecDepth 65536 in
set_option maxHeartbeats 40000000 in
theorem rm1 (l : Launch) (Z : State) (a0 : Array Value) (hw : ∀ d ∈ tables_1, d.before a0 Z = true) (ws : List Jvm.Cond) (o0 : Addr) (p1 : Int32) (p2 : Int32) (p3 : Int32) (o4 : Addr) (p5 : Int32) (p6 : Int32) (p7 : Int32) (p8 : Int32) (w2 : Int32) (w6 : Int32) (w11 : Int32) (w20 : Int32) (w25 : Int32) (w30 : Int32) (w35 : Int32) (h0 : Heap) (n0 : Nat) (Z0 : n0 ≤ h0.size) (E_o0 : Exa Z h0 o0 "com/example/sekhem/sekhem/model/Effects") (F_strength_o0 : Fld Z h0 o0 "com/example/sekhem/sekhem/model/Effects" "strength" "I" (.int w2)) (g_o0 : n0 ≤ o0) (F_defence_o0 : Fld Z h0 o0 "com/example/sekhem/sekhem/model/Effects" "defence" "I" (.int w6)) (F_damage_o0 : Fld Z h0 o0 "com/example/sekhem/sekhem/model/Effects" "damage" "I" (.int w11)) (F_when_o0 : Fld Z h0 o0 "com/example/sekhem/sekhem/model/Effects" "when" "Lcom/example/sekhem/sekhem/model/Stance;" .null) (F_moves_o0 : Fld Z h0 o0 "com/example/sekhem/sekhem/model/Effects" "moves" "I" (.int w20)) (F_vp_o0 : Fld Z h0 o0 "com/example/sekhem/sekhem/model/Effects" "vp" "I" (.int w25)) (F_nightPrayer_o0 : Fld Z h0 o0 "com/example/sekhem/sekhem/model/Effects" "nightPrayer" "I" (.int w30)) (F_prayer_o0 : Fld Z h0 o0 "com/example/sekhem/sekhem/model/Effects" "prayer" "I" (.int w35)) :
    MetFree l (⟨"com/example/sekhem/sekhem/model/Effects", "<init>", "(IIILcom/example/sekhem/sekhem/model/Stance;IIII)V"⟩ : MethodName) (head1 (Jvm.Cond.code (⟨"com/example/sekhem/sekhem/model/Effects", "<init>", "(IIILcom/example/sekhem/sekhem/model/Stance;IIII)V"⟩ : MethodName) prog_40_method_1_code 9 none :: ws) ({ frames := 2, cells := 0, slots := 0, locals := 24 } : Room)) (fun a U => a = #[(.ref o0), (.int p1), (.int p2), (.int p3), (.ref o4), (.int p5), (.int p6), (.int p7), (.int p8)] ∧ Z.Warmed39 U.vm ∧ U.heap = h0) (fun _ _ _ _ _ => True) (fun _ U o U' => ∃ v L, o = .returned v ∧ Q1 Z o0 p1 p2 p3 o4 p5 p6 p7 p8 w2 w6 w11 w20 w25 w30 w35 h0 n0 v U'.heap L ∧ FrameEnd U o U' L ({ frames := 2, cells := 0, slots := 0, locals := 24 } : Room).cells ({ frames := 2, cells := 0, slots := 0, locals := 24 } : Room).slots) := by
  refine MetFree.of_bodySF (plainFor_of_name pn_1) hisR ?_
  intro p e s m args below meth c s₁ Bd hml0 hP hK
  obtain ⟨rfl, hZ, hh⟩ := hP
  have hx := Bd.exec
  have hby := Bd.bytes
  have hml : c.maxLocals = 9 := hml0
  have hown : s.vm.findClass "com/example/sekhem/sekhem/model/Effects" = some m.cls := findClass_of_methodNamed Bd.named
  have hnm := (name_of_methodNamed Bd.named Bd.method).1
  have X0 : Stand p l e ({ frames := 2, cells := 0, slots := 0, locals := 24 } : Room) s m #[(.ref o0), (.int p1), (.int p2), (.int p3), (.ref o4), (.int p5), (.int p6), (.int p7), (.int p8)] below meth c s₁ [] 0 0 := Stand.of_body Bd
  have e0 : s₁.heap = h0 := by rw [← hh, Bd.state]; rfl
  have N0 := Fr.nil n0
  have pre0 : ∀ t, Steps p.tables e below (s₁.setTop (mkF m 0 #[.val (.ref o0), .val (.int p1), .val (.int p2), .val (.int p3), .val (.ref o4), .val (.int p5), .val (.int p6), .val (.int p7), .val (.int p8)] [])) t → Steps p.tables e below (s₁.setTop (entryFrame m #[(.ref o0), (.int p1), (.int p2), (.int p3), (.ref o4), (.int p5), (.int p6), (.int p7), (.int p8)] 9)) t := fun t k => castTop (ef_1 m o0 p1 p2 p3 o4 p5 p6 p7 p8) k
  obtain ⟨_, _, ⟨T1, L1, k1, n1⟩, -, X1, ⟨Lc1, hQ1, l1, y1, z1⟩, st1⟩ := X0.specialBack hx (y := (⟨"java/lang/Record", "<init>", "()V"⟩ : MethodName)) rfl hown (mvT hZ (hw _ (List.mem_of_getElem? (i := 10) rfl))) (mvT hZ (hw _ (List.mem_of_getElem? (i := 11) rfl))) (mvT hZ (hw _ (List.mem_of_getElem? (i := 14) rfl))) (by decide) (backOf (W := 0) (rm2 l Z a0 hw [] o0 h0 n0 Z0 ) hZ (hw _ (List.mem_of_getElem? (i := 14) rfl)) (hw _ (List.mem_of_getElem? (i := 13) rfl)) (by decide) (by decide)) (g := (mkF m 1 #[.val (.ref o0), .val (.int p1), .val (.int p2), .val (.int p3), .val (.ref o4), .val (.int p5), .val (.int p6), .val (.int p7), .val (.int p8)] [(.ref o0)])) rfl (by rw [hml]; rfl) (Steps.refl _) (a := o0) (argsL := []) (rest := []) (lenOf pd_1_0 rfl) rfl (by show 2 * 0 + _ ≤ _; exact Nat.le_of_eq rfl) (hb hby d1_1) (fun _ _ => ⟨rfl, e0, (by decide : 0 + 0 ≤ _), (by decide : 0 + 0 ≤ _)⟩)
  dsimp only [Pt.U, Pt.locs, Pt.cells, Pt.slots] at X1 l1 y1 z1 st1 hQ1
  subst l1 y1 z1
  obtain ⟨rfl, N1q, e1q⟩ := hQ1
  have N1 := Fr.app N0 N1q
  obtain ⟨T3, h3, X3, e3, W3, st3⟩ := putF X1 hx hZ hown (host := "") (Or.inl (hw _ (List.mem_of_getElem? (i := 18) rfl))) Via.refl e1q F_strength_o0 E_o0 (Or.inr ⟨(hw _ (List.mem_of_getElem? (i := 19) rfl)), rfl, hnm⟩) (hw _ (List.mem_of_getElem? (i := 5) rfl)) (ty := .int) (by decide) rfl rfl (g := (mkF m 6 #[.val (.ref o0), .val (.int p1), .val (.int p2), .val (.int p3), .val (.ref o4), .val (.int p5), .val (.int p6), .val (.int p7), .val (.int p8)] [(.int p1), (.ref o0)])) rfl rfl (hb hby d1_6)
  have Fw3 := F_strength_o0.same W3
  have K4 : Keep h0 h3 [o0] := (Keep.refl h0 [o0]).wr W3 (Or.inl (List.mem_of_getElem? (i := 0) rfl))
  have Z5 : n0 ≤ h3.size := Nat.le_trans Z0 K4.1
  have N3 := Fr.snoc X3 N1 g_o0
  obtain ⟨LS3, X3, N3⟩ : ∃ L, Stand p l e ({ frames := 2, cells := 0, slots := 0, locals := 24 } : Room) s m #[(.ref o0), (.int p1), (.int p2), (.int p3), (.ref o4), (.int p5), (.int p6), (.int p7), (.int p8)] below meth c T3 L 0 0 ∧ Fr n0 L := ⟨_, X3, N3⟩
  have c7 := (F_defence_o0.other W3 (Or.inr (slot_ne (Or.inr (hw _ (List.mem_of_getElem? (i := 21) rfl))) (Or.inr (hw _ (List.mem_of_getElem? (i := 19) rfl))) (by decide) (t := .int) (t' := .int) (by decide) (by decide))))
  obtain ⟨T8, h8, X8, e8, W8, st8⟩ := putF X3 hx hZ hown (host := "") (Or.inl (hw _ (List.mem_of_getElem? (i := 20) rfl))) Via.refl e3 c7 (E_o0.wr W3) (Or.inr ⟨(hw _ (List.mem_of_getElem? (i := 21) rfl)), rfl, hnm⟩) (hw _ (List.mem_of_getElem? (i := 5) rfl)) (ty := .int) (by decide) rfl rfl (g := (mkF m 11 #[.val (.ref o0), .val (.int p1), .val (.int p2), .val (.int p3), .val (.ref o4), .val (.int p5), .val (.int p6), .val (.int p7), .val (.int p8)] [(.int p2), (.ref o0)])) rfl rfl (hb hby d1_11)
  have Fw8 := c7.same W8
  have K9 : Keep h0 h8 [o0] := K4.wr W8 (Or.inl (List.mem_of_getElem? (i := 0) rfl))
  have Z10 : n0 ≤ h8.size := Nat.le_trans Z0 K9.1
  have N8 := Fr.snoc X8 N3 g_o0
  obtain ⟨LS8, X8, N8⟩ : ∃ L, Stand p l e ({ frames := 2, cells := 0, slots := 0, locals := 24 } : Room) s m #[(.ref o0), (.int p1), (.int p2), (.int p3), (.ref o4), (.int p5), (.int p6), (.int p7), (.int p8)] below meth c T8 L 0 0 ∧ Fr n0 L := ⟨_, X8, N8⟩
  have c12 := ((F_damage_o0.other W3 (Or.inr (slot_ne (Or.inr (hw _ (List.mem_of_getElem? (i := 23) rfl))) (Or.inr (hw _ (List.mem_of_getElem? (i := 19) rfl))) (by decide) (t := .int) (t' := .int) (by decide) (by decide)))).other W8 (Or.inr (slot_ne (Or.inr (hw _ (List.mem_of_getElem? (i := 23) rfl))) (Or.inr (hw _ (List.mem_of_getElem? (i := 21) rfl))) (by decide) (t := .int) (t' := .int) (by decide) (by decide))))
  obtain ⟨T13, h13, X13, e13, W13, st13⟩ := putF X8 hx hZ hown (host := "") (Or.inl (hw _ (List.mem_of_getElem? (i := 22) rfl))) Via.refl e8 c12 ((E_o0.wr W3).wr W8) (Or.inr ⟨(hw _ (List.mem_of_getElem? (i := 23) rfl)), rfl, hnm⟩) (hw _ (List.mem_of_getElem? (i := 5) rfl)) (ty := .int) (by decide) rfl rfl (g := (mkF m 16 #[.val (.ref o0), .val (.int p1), .val (.int p2), .val (.int p3), .val (.ref o4), .val (.int p5), .val (.int p6), .val (.int p7), .val (.int p8)] [(.int p3), (.ref o0)])) rfl rfl (hb hby d1_16)
  have Fw13 := c12.same W13
  have K14 : Keep h0 h13 [o0] := K9.wr W13 (Or.inl (List.mem_of_getElem? (i := 0) rfl))
  have Z15 : n0 ≤ h13.size := Nat.le_trans Z0 K14.1
  have N13 := Fr.snoc X13 N8 g_o0
  obtain ⟨LS13, X13, N13⟩ : ∃ L, Stand p l e ({ frames := 2, cells := 0, slots := 0, locals := 24 } : Room) s m #[(.ref o0), (.int p1), (.int p2), (.int p3), (.ref o4), (.int p5), (.int p6), (.int p7), (.int p8)] below meth c T13 L 0 0 ∧ Fr n0 L := ⟨_, X13, N13⟩
  have c16 := (((F_when_o0.other W3 (Or.inr (slot_ne (Or.inr (hw _ (List.mem_of_getElem? (i := 25) rfl))) (Or.inr (hw _ (List.mem_of_getElem? (i := 19) rfl))) (by decide) (t := (.object "com/example/sekhem/sekhem/model/Stance")) (t' := .int) (by decide) (by decide)))).other W8 (Or.inr (slot_ne (Or.inr (hw _ (List.mem_of_getElem? (i := 25) rfl))) (Or.inr (hw _ (List.mem_of_getElem? (i := 21) rfl))) (by decide) (t := (.object "com/example/sekhem/sekhem/model/Stance")) (t' := .int) (by decide) (by decide)))).other W13 (Or.inr (slot_ne (Or.inr (hw _ (List.mem_of_getElem? (i := 25) rfl))) (Or.inr (hw _ (List.mem_of_getElem? (i := 23) rfl))) (by decide) (t := (.object "com/example/sekhem/sekhem/model/Stance")) (t' := .int) (by decide) (by decide))))
  obtain ⟨T17, h17, X17, e17, W17, st17⟩ := putF X13 hx hZ hown (host := "") (Or.inl (hw _ (List.mem_of_getElem? (i := 24) rfl))) Via.refl e13 c16 (((E_o0.wr W3).wr W8).wr W13) (Or.inr ⟨(hw _ (List.mem_of_getElem? (i := 25) rfl)), rfl, hnm⟩) (hw _ (List.mem_of_getElem? (i := 5) rfl)) (ty := (.object "com/example/sekhem/sekhem/model/Stance")) (by decide) rfl rfl (g := (mkF m 22 #[.val (.ref o0), .val (.int p1), .val (.int p2), .val (.int p3), .val (.ref o4), .val (.int p5), .val (.int p6), .val (.int p7), .val (.int p8)] [(.ref o4), (.ref o0)])) rfl rfl (hb hby d1_22)
  have Fw17 := c16.same W17
  have K18 : Keep h0 h17 [o0] := K14.wr W17 (Or.inl (List.mem_of_getElem? (i := 0) rfl))
  have Z19 : n0 ≤ h17.size := Nat.le_trans Z0 K18.1
  have N17 := Fr.snoc X17 N13 g_o0
  obtain ⟨LS17, X17, N17⟩ : ∃ L, Stand p l e ({ frames := 2, cells := 0, slots := 0, locals := 24 } : Room) s m #[(.ref o0), (.int p1), (.int p2), (.int p3), (.ref o4), (.int p5), (.int p6), (.int p7), (.int p8)] below meth c T17 L 0 0 ∧ Fr n0 L := ⟨_, X17, N17⟩
  have c21 := ((((F_moves_o0.other W3 (Or.inr (slot_ne (Or.inr (hw _ (List.mem_of_getElem? (i := 27) rfl))) (Or.inr (hw _ (List.mem_of_getElem? (i := 19) rfl))) (by decide) (t := .int) (t' := .int) (by decide) (by decide)))).other W8 (Or.inr (slot_ne (Or.inr (hw _ (List.mem_of_getElem? (i := 27) rfl))) (Or.inr (hw _ (List.mem_of_getElem? (i := 21) rfl))) (by decide) (t := .int) (t' := .int) (by decide) (by decide)))).other W13 (Or.inr (slot_ne (Or.inr (hw _ (List.mem_of_getElem? (i := 27) rfl))) (Or.inr (hw _ (List.mem_of_getElem? (i := 23) rfl))) (by decide) (t := .int) (t' := .int) (by decide) (by decide)))).other W17 (Or.inr (slot_ne (Or.inr (hw _ (List.mem_of_getElem? (i := 27) rfl))) (Or.inr (hw _ (List.mem_of_getElem? (i := 25) rfl))) (by decide) (t := .int) (t' := (.object "com/example/sekhem/sekhem/model/Stance")) (by decide) (by decide))))
  obtain ⟨T22, h22, X22, e22, W22, st22⟩ := putF X17 hx hZ hown (host := "") (Or.inl (hw _ (List.mem_of_getElem? (i := 26) rfl))) Via.refl e17 c21 ((((E_o0.wr W3).wr W8).wr W13).wr W17) (Or.inr ⟨(hw _ (List.mem_of_getElem? (i := 27) rfl)), rfl, hnm⟩) (hw _ (List.mem_of_getElem? (i := 5) rfl)) (ty := .int) (by decide) rfl rfl (g := (mkF m 28 #[.val (.ref o0), .val (.int p1), .val (.int p2), .val (.int p3), .val (.ref o4), .val (.int p5), .val (.int p6), .val (.int p7), .val (.int p8)] [(.int p5), (.ref o0)])) rfl rfl (hb hby d1_28)
  have Fw22 := c21.same W22
  have K23 : Keep h0 h22 [o0] := K18.wr W22 (Or.inl (List.mem_of_getElem? (i := 0) rfl))
  have Z24 : n0 ≤ h22.size := Nat.le_trans Z0 K23.1
  have N22 := Fr.snoc X22 N17 g_o0
  obtain ⟨LS22, X22, N22⟩ : ∃ L, Stand p l e ({ frames := 2, cells := 0, slots := 0, locals := 24 } : Room) s m #[(.ref o0), (.int p1), (.int p2), (.int p3), (.ref o4), (.int p5), (.int p6), (.int p7), (.int p8)] below meth c T22 L 0 0 ∧ Fr n0 L := ⟨_, X22, N22⟩
  have c26 := (((((F_vp_o0.other W3 (Or.inr (slot_ne (Or.inr (hw _ (List.mem_of_getElem? (i := 29) rfl))) (Or.inr (hw _ (List.mem_of_getElem? (i := 19) rfl))) (by decide) (t := .int) (t' := .int) (by decide) (by decide)))).other W8 (Or.inr (slot_ne (Or.inr (hw _ (List.mem_of_getElem? (i := 29) rfl))) (Or.inr (hw _ (List.mem_of_getElem? (i := 21) rfl))) (by decide) (t := .int) (t' := .int) (by decide) (by decide)))).other W13 (Or.inr (slot_ne (Or.inr (hw _ (List.mem_of_getElem? (i := 29) rfl))) (Or.inr (hw _ (List.mem_of_getElem? (i := 23) rfl))) (by decide) (t := .int) (t' := .int) (by decide) (by decide)))).other W17 (Or.inr (slot_ne (Or.inr (hw _ (List.mem_of_getElem? (i := 29) rfl))) (Or.inr (hw _ (List.mem_of_getElem? (i := 25) rfl))) (by decide) (t := .int) (t' := (.object "com/example/sekhem/sekhem/model/Stance")) (by decide) (by decide)))).other W22 (Or.inr (slot_ne (Or.inr (hw _ (List.mem_of_getElem? (i := 29) rfl))) (Or.inr (hw _ (List.mem_of_getElem? (i := 27) rfl))) (by decide) (t := .int) (t' := .int) (by decide) (by decide))))
  obtain ⟨T27, h27, X27, e27, W27, st27⟩ := putF X22 hx hZ hown (host := "") (Or.inl (hw _ (List.mem_of_getElem? (i := 28) rfl))) Via.refl e22 c26 (((((E_o0.wr W3).wr W8).wr W13).wr W17).wr W22) (Or.inr ⟨(hw _ (List.mem_of_getElem? (i := 29) rfl)), rfl, hnm⟩) (hw _ (List.mem_of_getElem? (i := 5) rfl)) (ty := .int) (by decide) rfl rfl (g := (mkF m 34 #[.val (.ref o0), .val (.int p1), .val (.int p2), .val (.int p3), .val (.ref o4), .val (.int p5), .val (.int p6), .val (.int p7), .val (.int p8)] [(.int p6), (.ref o0)])) rfl rfl (hb hby d1_34)
  have Fw27 := c26.same W27
  have K28 : Keep h0 h27 [o0] := K23.wr W27 (Or.inl (List.mem_of_getElem? (i := 0) rfl))
  have Z29 : n0 ≤ h27.size := Nat.le_trans Z0 K28.1
  have N27 := Fr.snoc X27 N22 g_o0
  obtain ⟨LS27, X27, N27⟩ : ∃ L, Stand p l e ({ frames := 2, cells := 0, slots := 0, locals := 24 } : Room) s m #[(.ref o0), (.int p1), (.int p2), (.int p3), (.ref o4), (.int p5), (.int p6), (.int p7), (.int p8)] below meth c T27 L 0 0 ∧ Fr n0 L := ⟨_, X27, N27⟩
  have c31 := ((((((F_nightPrayer_o0.other W3 (Or.inr (slot_ne (Or.inr (hw _ (List.mem_of_getElem? (i := 31) rfl))) (Or.inr (hw _ (List.mem_of_getElem? (i := 19) rfl))) (by decide) (t := .int) (t' := .int) (by decide) (by decide)))).other W8 (Or.inr (slot_ne (Or.inr (hw _ (List.mem_of_getElem? (i := 31) rfl))) (Or.inr (hw _ (List.mem_of_getElem? (i := 21) rfl))) (by decide) (t := .int) (t' := .int) (by decide) (by decide)))).other W13 (Or.inr (slot_ne (Or.inr (hw _ (List.mem_of_getElem? (i := 31) rfl))) (Or.inr (hw _ (List.mem_of_getElem? (i := 23) rfl))) (by decide) (t := .int) (t' := .int) (by decide) (by decide)))).other W17 (Or.inr (slot_ne (Or.inr (hw _ (List.mem_of_getElem? (i := 31) rfl))) (Or.inr (hw _ (List.mem_of_getElem? (i := 25) rfl))) (by decide) (t := .int) (t' := (.object "com/example/sekhem/sekhem/model/Stance")) (by decide) (by decide)))).other W22 (Or.inr (slot_ne (Or.inr (hw _ (List.mem_of_getElem? (i := 31) rfl))) (Or.inr (hw _ (List.mem_of_getElem? (i := 27) rfl))) (by decide) (t := .int) (t' := .int) (by decide) (by decide)))).other W27 (Or.inr (slot_ne (Or.inr (hw _ (List.mem_of_getElem? (i := 31) rfl))) (Or.inr (hw _ (List.mem_of_getElem? (i := 29) rfl))) (by decide) (t := .int) (t' := .int) (by decide) (by decide))))
  obtain ⟨T32, h32, X32, e32, W32, st32⟩ := putF X27 hx hZ hown (host := "") (Or.inl (hw _ (List.mem_of_getElem? (i := 30) rfl))) Via.refl e27 c31 ((((((E_o0.wr W3).wr W8).wr W13).wr W17).wr W22).wr W27) (Or.inr ⟨(hw _ (List.mem_of_getElem? (i := 31) rfl)), rfl, hnm⟩) (hw _ (List.mem_of_getElem? (i := 5) rfl)) (ty := .int) (by decide) rfl rfl (g := (mkF m 40 #[.val (.ref o0), .val (.int p1), .val (.int p2), .val (.int p3), .val (.ref o4), .val (.int p5), .val (.int p6), .val (.int p7), .val (.int p8)] [(.int p7), (.ref o0)])) rfl rfl (hb hby d1_40)
  have Fw32 := c31.same W32
  have K33 : Keep h0 h32 [o0] := K28.wr W32 (Or.inl (List.mem_of_getElem? (i := 0) rfl))
  have Z34 : n0 ≤ h32.size := Nat.le_trans Z0 K33.1
  have N32 := Fr.snoc X32 N27 g_o0
  obtain ⟨LS32, X32, N32⟩ : ∃ L, Stand p l e ({ frames := 2, cells := 0, slots := 0, locals := 24 } : Room) s m #[(.ref o0), (.int p1), (.int p2), (.int p3), (.ref o4), (.int p5), (.int p6), (.int p7), (.int p8)] below meth c T32 L 0 0 ∧ Fr n0 L := ⟨_, X32, N32⟩
  have c36 := (((((((E_o0.wr W3).wr W8).wr W13).wr W17).wr W22).wr W27).wr W32)
  have c37 := (((((((F_prayer_o0.other W3 (Or.inr (slot_ne (Or.inr (hw _ (List.mem_of_getElem? (i := 33) rfl))) (Or.inr (hw _ (List.mem_of_getElem? (i := 19) rfl))) (by decide) (t := .int) (t' := .int) (by decide) (by decide)))).other W8 (Or.inr (slot_ne (Or.inr (hw _ (List.mem_of_getElem? (i := 33) rfl))) (Or.inr (hw _ (List.mem_of_getElem? (i := 21) rfl))) (by decide) (t := .int) (t' := .int) (by decide) (by decide)))).other W13 (Or.inr (slot_ne (Or.inr (hw _ (List.mem_of_getElem? (i := 33) rfl))) (Or.inr (hw _ (List.mem_of_getElem? (i := 23) rfl))) (by decide) (t := .int) (t' := .int) (by decide) (by decide)))).other W17 (Or.inr (slot_ne (Or.inr (hw _ (List.mem_of_getElem? (i := 33) rfl))) (Or.inr (hw _ (List.mem_of_getElem? (i := 25) rfl))) (by decide) (t := .int) (t' := (.object "com/example/sekhem/sekhem/model/Stance")) (by decide) (by decide)))).other W22 (Or.inr (slot_ne (Or.inr (hw _ (List.mem_of_getElem? (i := 33) rfl))) (Or.inr (hw _ (List.mem_of_getElem? (i := 27) rfl))) (by decide) (t := .int) (t' := .int) (by decide) (by decide)))).other W27 (Or.inr (slot_ne (Or.inr (hw _ (List.mem_of_getElem? (i := 33) rfl))) (Or.inr (hw _ (List.mem_of_getElem? (i := 29) rfl))) (by decide) (t := .int) (t' := .int) (by decide) (by decide)))).other W32 (Or.inr (slot_ne (Or.inr (hw _ (List.mem_of_getElem? (i := 33) rfl))) (Or.inr (hw _ (List.mem_of_getElem? (i := 31) rfl))) (by decide) (t := .int) (t' := .int) (by decide) (by decide))))
  obtain ⟨T38, h38, X38, e38, W38, st38⟩ := putF X32 hx hZ hown (host := "") (Or.inl (hw _ (List.mem_of_getElem? (i := 32) rfl))) Via.refl e32 c37 c36 (Or.inr ⟨(hw _ (List.mem_of_getElem? (i := 33) rfl)), rfl, hnm⟩) (hw _ (List.mem_of_getElem? (i := 5) rfl)) (ty := .int) (by decide) rfl rfl (g := (mkF m 46 #[.val (.ref o0), .val (.int p1), .val (.int p2), .val (.int p3), .val (.ref o4), .val (.int p5), .val (.int p6), .val (.int p7), .val (.int p8)] [(.int p8), (.ref o0)])) rfl rfl (hb hby d1_46)
  have Fw38 := c37.same W38
  have K39 : Keep h0 h38 [o0] := K33.wr W38 (Or.inl (List.mem_of_getElem? (i := 0) rfl))
  have Z40 : n0 ≤ h38.size := Nat.le_trans Z0 K39.1
  have N38 := Fr.snoc X38 N32 g_o0
  obtain ⟨LS38, X38, N38⟩ : ∃ L, Stand p l e ({ frames := 2, cells := 0, slots := 0, locals := 24 } : Room) s m #[(.ref o0), (.int p1), (.int p2), (.int p3), (.ref o4), (.int p5), (.int p6), (.int p7), (.int p8)] below meth c T38 L 0 0 ∧ Fr n0 L := ⟨_, X38, N38⟩
  obtain ⟨fs, hr, hrun, hended, hW, hsame⟩ := X38.leave (v := none) (fun _ => rfl)
  have c41 := (((((((Fw3.other W8 (Or.inr (slot_ne (Or.inr (hw _ (List.mem_of_getElem? (i := 19) rfl))) (Or.inr (hw _ (List.mem_of_getElem? (i := 21) rfl))) (by decide) (t := .int) (t' := .int) (by decide) (by decide)))).other W13 (Or.inr (slot_ne (Or.inr (hw _ (List.mem_of_getElem? (i := 19) rfl))) (Or.inr (hw _ (List.mem_of_getElem? (i := 23) rfl))) (by decide) (t := .int) (t' := .int) (by decide) (by decide)))).other W17 (Or.inr (slot_ne (Or.inr (hw _ (List.mem_of_getElem? (i := 19) rfl))) (Or.inr (hw _ (List.mem_of_getElem? (i := 25) rfl))) (by decide) (t := .int) (t' := (.object "com/example/sekhem/sekhem/model/Stance")) (by decide) (by decide)))).other W22 (Or.inr (slot_ne (Or.inr (hw _ (List.mem_of_getElem? (i := 19) rfl))) (Or.inr (hw _ (List.mem_of_getElem? (i := 27) rfl))) (by decide) (t := .int) (t' := .int) (by decide) (by decide)))).other W27 (Or.inr (slot_ne (Or.inr (hw _ (List.mem_of_getElem? (i := 19) rfl))) (Or.inr (hw _ (List.mem_of_getElem? (i := 29) rfl))) (by decide) (t := .int) (t' := .int) (by decide) (by decide)))).other W32 (Or.inr (slot_ne (Or.inr (hw _ (List.mem_of_getElem? (i := 19) rfl))) (Or.inr (hw _ (List.mem_of_getElem? (i := 31) rfl))) (by decide) (t := .int) (t' := .int) (by decide) (by decide)))).other W38 (Or.inr (slot_ne (Or.inr (hw _ (List.mem_of_getElem? (i := 19) rfl))) (Or.inr (hw _ (List.mem_of_getElem? (i := 33) rfl))) (by decide) (t := .int) (t' := .int) (by decide) (by decide))))
  have c42 := ((((((Fw8.other W13 (Or.inr (slot_ne (Or.inr (hw _ (List.mem_of_getElem? (i := 21) rfl))) (Or.inr (hw _ (List.mem_of_getElem? (i := 23) rfl))) (by decide) (t := .int) (t' := .int) (by decide) (by decide)))).other W17 (Or.inr (slot_ne (Or.inr (hw _ (List.mem_of_getElem? (i := 21) rfl))) (Or.inr (hw _ (List.mem_of_getElem? (i := 25) rfl))) (by decide) (t := .int) (t' := (.object "com/example/sekhem/sekhem/model/Stance")) (by decide) (by decide)))).other W22 (Or.inr (slot_ne (Or.inr (hw _ (List.mem_of_getElem? (i := 21) rfl))) (Or.inr (hw _ (List.mem_of_getElem? (i := 27) rfl))) (by decide) (t := .int) (t' := .int) (by decide) (by decide)))).other W27 (Or.inr (slot_ne (Or.inr (hw _ (List.mem_of_getElem? (i := 21) rfl))) (Or.inr (hw _ (List.mem_of_getElem? (i := 29) rfl))) (by decide) (t := .int) (t' := .int) (by decide) (by decide)))).other W32 (Or.inr (slot_ne (Or.inr (hw _ (List.mem_of_getElem? (i := 21) rfl))) (Or.inr (hw _ (List.mem_of_getElem? (i := 31) rfl))) (by decide) (t := .int) (t' := .int) (by decide) (by decide)))).other W38 (Or.inr (slot_ne (Or.inr (hw _ (List.mem_of_getElem? (i := 21) rfl))) (Or.inr (hw _ (List.mem_of_getElem? (i := 33) rfl))) (by decide) (t := .int) (t' := .int) (by decide) (by decide))))
  have c43 := (((((Fw13.other W17 (Or.inr (slot_ne (Or.inr (hw _ (List.mem_of_getElem? (i := 23) rfl))) (Or.inr (hw _ (List.mem_of_getElem? (i := 25) rfl))) (by decide) (t := .int) (t' := (.object "com/example/sekhem/sekhem/model/Stance")) (by decide) (by decide)))).other W22 (Or.inr (slot_ne (Or.inr (hw _ (List.mem_of_getElem? (i := 23) rfl))) (Or.inr (hw _ (List.mem_of_getElem? (i := 27) rfl))) (by decide) (t := .int) (t' := .int) (by decide) (by decide)))).other W27 (Or.inr (slot_ne (Or.inr (hw _ (List.mem_of_getElem? (i := 23) rfl))) (Or.inr (hw _ (List.mem_of_getElem? (i := 29) rfl))) (by decide) (t := .int) (t' := .int) (by decide) (by decide)))).other W32 (Or.inr (slot_ne (Or.inr (hw _ (List.mem_of_getElem? (i := 23) rfl))) (Or.inr (hw _ (List.mem_of_getElem? (i := 31) rfl))) (by decide) (t := .int) (t' := .int) (by decide) (by decide)))).other W38 (Or.inr (slot_ne (Or.inr (hw _ (List.mem_of_getElem? (i := 23) rfl))) (Or.inr (hw _ (List.mem_of_getElem? (i := 33) rfl))) (by decide) (t := .int) (t' := .int) (by decide) (by decide))))
  have c44 := ((((Fw17.other W22 (Or.inr (slot_ne (Or.inr (hw _ (List.mem_of_getElem? (i := 25) rfl))) (Or.inr (hw _ (List.mem_of_getElem? (i := 27) rfl))) (by decide) (t := (.object "com/example/sekhem/sekhem/model/Stance")) (t' := .int) (by decide) (by decide)))).other W27 (Or.inr (slot_ne (Or.inr (hw _ (List.mem_of_getElem? (i := 25) rfl))) (Or.inr (hw _ (List.mem_of_getElem? (i := 29) rfl))) (by decide) (t := (.object "com/example/sekhem/sekhem/model/Stance")) (t' := .int) (by decide) (by decide)))).other W32 (Or.inr (slot_ne (Or.inr (hw _ (List.mem_of_getElem? (i := 25) rfl))) (Or.inr (hw _ (List.mem_of_getElem? (i := 31) rfl))) (by decide) (t := (.object "com/example/sekhem/sekhem/model/Stance")) (t' := .int) (by decide) (by decide)))).other W38 (Or.inr (slot_ne (Or.inr (hw _ (List.mem_of_getElem? (i := 25) rfl))) (Or.inr (hw _ (List.mem_of_getElem? (i := 33) rfl))) (by decide) (t := (.object "com/example/sekhem/sekhem/model/Stance")) (t' := .int) (by decide) (by decide))))
  have c45 := (((Fw22.other W27 (Or.inr (slot_ne (Or.inr (hw _ (List.mem_of_getElem? (i := 27) rfl))) (Or.inr (hw _ (List.mem_of_getElem? (i := 29) rfl))) (by decide) (t := .int) (t' := .int) (by decide) (by decide)))).other W32 (Or.inr (slot_ne (Or.inr (hw _ (List.mem_of_getElem? (i := 27) rfl))) (Or.inr (hw _ (List.mem_of_getElem? (i := 31) rfl))) (by decide) (t := .int) (t' := .int) (by decide) (by decide)))).other W38 (Or.inr (slot_ne (Or.inr (hw _ (List.mem_of_getElem? (i := 27) rfl))) (Or.inr (hw _ (List.mem_of_getElem? (i := 33) rfl))) (by decide) (t := .int) (t' := .int) (by decide) (by decide))))
  have c46 := ((Fw27.other W32 (Or.inr (slot_ne (Or.inr (hw _ (List.mem_of_getElem? (i := 29) rfl))) (Or.inr (hw _ (List.mem_of_getElem? (i := 31) rfl))) (by decide) (t := .int) (t' := .int) (by decide) (by decide)))).other W38 (Or.inr (slot_ne (Or.inr (hw _ (List.mem_of_getElem? (i := 29) rfl))) (Or.inr (hw _ (List.mem_of_getElem? (i := 33) rfl))) (by decide) (t := .int) (t' := .int) (by decide) (by decide))))
  have c47 := (Fw32.other W38 (Or.inr (slot_ne (Or.inr (hw _ (List.mem_of_getElem? (i := 31) rfl))) (Or.inr (hw _ (List.mem_of_getElem? (i := 33) rfl))) (by decide) (t := .int) (t' := .int) (by decide) (by decide))))
  refine ⟨_, _, pre0 _ ?_, hrun, hended, _, _, rfl, ?_, ⟨_, rfl⟩, hW, hsame.mono (by decide) (by decide)⟩
  · show Steps p.tables e below (s₁.setTop (mkF m 0 #[.val (.ref o0), .val (.int p1), .val (.int p2), .val (.int p3), .val (.ref o4), .val (.int p5), .val (.int p6), .val (.int p7), .val (.int p8)] [])) _
    refine XS.aloadN X0.here hx rfl (hb hby d1_0) rfl rfl ?_
    show Steps p.tables e below (s₁.setTop (mkF m 1 #[.val (.ref o0), .val (.int p1), .val (.int p2), .val (.int p3), .val (.ref o4), .val (.int p5), .val (.int p6), .val (.int p7), .val (.int p8)] [(.ref o0)])) _
    refine st1.trans ?_
    show Steps p.tables e below (T1.setTop (mkF m 4 #[.val (.ref o0), .val (.int p1), .val (.int p2), .val (.int p3), .val (.ref o4), .val (.int p5), .val (.int p6), .val (.int p7), .val (.int p8)] [])) _
    refine XS.aloadN X1.here hx rfl (hb hby d1_4) rfl rfl ?_
    show Steps p.tables e below (T1.setTop (mkF m 5 #[.val (.ref o0), .val (.int p1), .val (.int p2), .val (.int p3), .val (.ref o4), .val (.int p5), .val (.int p6), .val (.int p7), .val (.int p8)] [(.ref o0)])) _
    refine XS.iloadN X1.here hx rfl (hb hby d1_5) rfl ?_
    show Steps p.tables e below (T1.setTop (mkF m 6 #[.val (.ref o0), .val (.int p1), .val (.int p2), .val (.int p3), .val (.ref o4), .val (.int p5), .val (.int p6), .val (.int p7), .val (.int p8)] [(.int p1), (.ref o0)])) _
    refine st3 _ ?_
    show Steps p.tables e below (T3.setTop (mkF m 9 #[.val (.ref o0), .val (.int p1), .val (.int p2), .val (.int p3), .val (.ref o4), .val (.int p5), .val (.int p6), .val (.int p7), .val (.int p8)] [])) _
    refine XS.aloadN X3.here hx rfl (hb hby d1_9) rfl rfl ?_
    show Steps p.tables e below (T3.setTop (mkF m 10 #[.val (.ref o0), .val (.int p1), .val (.int p2), .val (.int p3), .val (.ref o4), .val (.int p5), .val (.int p6), .val (.int p7), .val (.int p8)] [(.ref o0)])) _
    refine XS.iloadN X3.here hx rfl (hb hby d1_10) rfl ?_
    show Steps p.tables e below (T3.setTop (mkF m 11 #[.val (.ref o0), .val (.int p1), .val (.int p2), .val (.int p3), .val (.ref o4), .val (.int p5), .val (.int p6), .val (.int p7), .val (.int p8)] [(.int p2), (.ref o0)])) _
    refine st8 _ ?_
    show Steps p.tables e below (T8.setTop (mkF m 14 #[.val (.ref o0), .val (.int p1), .val (.int p2), .val (.int p3), .val (.ref o4), .val (.int p5), .val (.int p6), .val (.int p7), .val (.int p8)] [])) _
    refine XS.aloadN X8.here hx rfl (hb hby d1_14) rfl rfl ?_
    show Steps p.tables e below (T8.setTop (mkF m 15 #[.val (.ref o0), .val (.int p1), .val (.int p2), .val (.int p3), .val (.ref o4), .val (.int p5), .val (.int p6), .val (.int p7), .val (.int p8)] [(.ref o0)])) _
    refine XS.iloadN X8.here hx rfl (hb hby d1_15) rfl ?_
    show Steps p.tables e below (T8.setTop (mkF m 16 #[.val (.ref o0), .val (.int p1), .val (.int p2), .val (.int p3), .val (.ref o4), .val (.int p5), .val (.int p6), .val (.int p7), .val (.int p8)] [(.int p3), (.ref o0)])) _
    refine st13 _ ?_
    show Steps p.tables e below (T13.setTop (mkF m 19 #[.val (.ref o0), .val (.int p1), .val (.int p2), .val (.int p3), .val (.ref o4), .val (.int p5), .val (.int p6), .val (.int p7), .val (.int p8)] [])) _
    refine XS.aloadN X13.here hx rfl (hb hby d1_19) rfl rfl ?_
    show Steps p.tables e below (T13.setTop (mkF m 20 #[.val (.ref o0), .val (.int p1), .val (.int p2), .val (.int p3), .val (.ref o4), .val (.int p5), .val (.int p6), .val (.int p7), .val (.int p8)] [(.ref o0)])) _
    refine XS.aload X13.here hx rfl (hb hby d1_20) rfl rfl ?_
    show Steps p.tables e below (T13.setTop (mkF m 22 #[.val (.ref o0), .val (.int p1), .val (.int p2), .val (.int p3), .val (.ref o4), .val (.int p5), .val (.int p6), .val (.int p7), .val (.int p8)] [(.ref o4), (.ref o0)])) _
    refine st17 _ ?_
    show Steps p.tables e below (T17.setTop (mkF m 25 #[.val (.ref o0), .val (.int p1), .val (.int p2), .val (.int p3), .val (.ref o4), .val (.int p5), .val (.int p6), .val (.int p7), .val (.int p8)] [])) _
    refine XS.aloadN X17.here hx rfl (hb hby d1_25) rfl rfl ?_
    show Steps p.tables e below (T17.setTop (mkF m 26 #[.val (.ref o0), .val (.int p1), .val (.int p2), .val (.int p3), .val (.ref o4), .val (.int p5), .val (.int p6), .val (.int p7), .val (.int p8)] [(.ref o0)])) _
    refine XS.iload X17.here hx rfl (hb hby d1_26) rfl ?_
    show Steps p.tables e below (T17.setTop (mkF m 28 #[.val (.ref o0), .val (.int p1), .val (.int p2), .val (.int p3), .val (.ref o4), .val (.int p5), .val (.int p6), .val (.int p7), .val (.int p8)] [(.int p5), (.ref o0)])) _
    refine st22 _ ?_
    show Steps p.tables e below (T22.setTop (mkF m 31 #[.val (.ref o0), .val (.int p1), .val (.int p2), .val (.int p3), .val (.ref o4), .val (.int p5), .val (.int p6), .val (.int p7), .val (.int p8)] [])) _
    refine XS.aloadN X22.here hx rfl (hb hby d1_31) rfl rfl ?_
    show Steps p.tables e below (T22.setTop (mkF m 32 #[.val (.ref o0), .val (.int p1), .val (.int p2), .val (.int p3), .val (.ref o4), .val (.int p5), .val (.int p6), .val (.int p7), .val (.int p8)] [(.ref o0)])) _
    refine XS.iload X22.here hx rfl (hb hby d1_32) rfl ?_
    show Steps p.tables e below (T22.setTop (mkF m 34 #[.val (.ref o0), .val (.int p1), .val (.int p2), .val (.int p3), .val (.ref o4), .val (.int p5), .val (.int p6), .val (.int p7), .val (.int p8)] [(.int p6), (.ref o0)])) _
    refine st27 _ ?_
    show Steps p.tables e below (T27.setTop (mkF m 37 #[.val (.ref o0), .val (.int p1), .val (.int p2), .val (.int p3), .val (.ref o4), .val (.int p5), .val (.int p6), .val (.int p7), .val (.int p8)] [])) _
    refine XS.aloadN X27.here hx rfl (hb hby d1_37) rfl rfl ?_
    show Steps p.tables e below (T27.setTop (mkF m 38 #[.val (.ref o0), .val (.int p1), .val (.int p2), .val (.int p3), .val (.ref o4), .val (.int p5), .val (.int p6), .val (.int p7), .val (.int p8)] [(.ref o0)])) _
    refine XS.iload X27.here hx rfl (hb hby d1_38) rfl ?_
    show Steps p.tables e below (T27.setTop (mkF m 40 #[.val (.ref o0), .val (.int p1), .val (.int p2), .val (.int p3), .val (.ref o4), .val (.int p5), .val (.int p6), .val (.int p7), .val (.int p8)] [(.int p7), (.ref o0)])) _
    refine st32 _ ?_
    show Steps p.tables e below (T32.setTop (mkF m 43 #[.val (.ref o0), .val (.int p1), .val (.int p2), .val (.int p3), .val (.ref o4), .val (.int p5), .val (.int p6), .val (.int p7), .val (.int p8)] [])) _
    refine XS.aloadN X32.here hx rfl (hb hby d1_43) rfl rfl ?_
    show Steps p.tables e below (T32.setTop (mkF m 44 #[.val (.ref o0), .val (.int p1), .val (.int p2), .val (.int p3), .val (.ref o4), .val (.int p5), .val (.int p6), .val (.int p7), .val (.int p8)] [(.ref o0)])) _
    refine XS.iload X32.here hx rfl (hb hby d1_44) rfl ?_
    show Steps p.tables e below (T32.setTop (mkF m 46 #[.val (.ref o0), .val (.int p1), .val (.int p2), .val (.int p3), .val (.ref o4), .val (.int p5), .val (.int p6), .val (.int p7), .val (.int p8)] [(.int p8), (.ref o0)])) _
    refine st38 _ ?_
    show Steps p.tables e below (T38.setTop (mkF m 49 #[.val (.ref o0), .val (.int p1), .val (.int p2), .val (.int p3), .val (.ref o4), .val (.int p5), .val (.int p6), .val (.int p7), .val (.int p8)] [])) _
    exact X38.returnOut hx Bd.returns (hb hby d1_49) hr
  · show Q1 Z o0 p1 p2 p3 o4 p5 p6 p7 p8 w2 w6 w11 w20 w25 w30 w35 h0 n0 _ T38.heap _
    rw [e38]
    exact ⟨rfl, N38, K39, c41, c42, c43, c44, c45, c46, c47, Fw38⟩
theorem pn_1n : plainName "com/example/sekhem/sekhem/model/Effects" = true := by first | (simp [plainName, overriddenIn]; done) | decide +kernel
theorem pd_1n_0 : parseMethodDescriptor "()V" = some ⟨[], none⟩ := by decide +kernel
theorem ef_1n (m : MethodId) (x0 : Addr) (x1 : Int32) (x2 : Int32) (x3 : Int32) (x5 : Int32) (x6 : Int32) (x7 : Int32) (x8 : Int32) : entryFrame m #[(.ref x0), (.int x1), (.int x2), (.int x3), .null, (.int x5), (.int x6), (.int x7), (.int x8)] 9 = mkF m 0 #[.val (.ref x0), .val (.int x1), .val (.int x2), .val (.int x3), .val .null, .val (.int x5), .val (.int x6), .val (.int x7), .val (.int x8)] [] := by first | (simp [entryFrame, mkF, argsToLocals, Value.category]; done) | rfl
def Q1n (Z : State) (o0 : Addr) (p1 : Int32) (p2 : Int32) (p3 : Int32) (p5 : Int32) (p6 : Int32) (p7 : Int32) (p8 : Int32) (w2 : Int32) (w6 : Int32) (w11 : Int32) (w20 : Int32) (w25 : Int32) (w30 : Int32) (w35 : Int32) (h0 : Heap) (n0 : Nat) (v : Option Value) (h : Heap) (L : List Loc) : Prop := v = none ∧ Fr n0 L ∧ Keep h0 h [o0] ∧ Fld Z h o0 "com/example/sekhem/sekhem/model/Effects" "strength" "I" (.int p1) ∧ Fld Z h o0 "com/example/sekhem/sekhem/model/Effects" "defence" "I" (.int p2) ∧ Fld Z h o0 "com/example/sekhem/sekhem/model/Effects" "damage" "I" (.int p3) ∧ Fld Z h o0 "com/example/sekhem/sekhem/model/Effects" "when" "Lcom/example/sekhem/sekhem/model/Stance;" .null ∧ Fld Z h o0 "com/example/sekhem/sekhem/model/Effects" "moves" "I" (.int p5) ∧ Fld Z h o0 "com/example/sekhem/sekhem/model/Effects" "vp" "I" (.int p6) ∧ Fld Z h o0 "com/example/sekhem/sekhem/model/Effects" "nightPrayer" "I" (.int p7) ∧ Fld Z h o0 "com/example/sekhem/sekhem/model/Effects" "prayer" "I" (.int p8)
set_option maxRecDepth 65536 in
set_option maxHeartbeats 40000000 in
theorem rm1n (l : Launch) (Z : State) (a0 : Array Value) (hw : ∀ d ∈ tables_1, d.before a0 Z = true) (ws : List Jvm.Cond) (o0 : Addr) (p1 : Int32) (p2 : Int32) (p3 : Int32) (p5 : Int32) (p6 : Int32) (p7 : Int32) (p8 : Int32) (w2 : Int32) (w6 : Int32) (w11 : Int32) (w20 : Int32) (w25 : Int32) (w30 : Int32) (w35 : Int32) (h0 : Heap) (n0 : Nat) (Z0 : n0 ≤ h0.size) (E_o0 : Exa Z h0 o0 "com/example/sekhem/sekhem/model/Effects") (F_strength_o0 : Fld Z h0 o0 "com/example/sekhem/sekhem/model/Effects" "strength" "I" (.int w2)) (g_o0 : n0 ≤ o0) (F_defence_o0 : Fld Z h0 o0 "com/example/sekhem/sekhem/model/Effects" "defence" "I" (.int w6)) (F_damage_o0 : Fld Z h0 o0 "com/example/sekhem/sekhem/model/Effects" "damage" "I" (.int w11)) (F_when_o0 : Fld Z h0 o0 "com/example/sekhem/sekhem/model/Effects" "when" "Lcom/example/sekhem/sekhem/model/Stance;" .null) (F_moves_o0 : Fld Z h0 o0 "com/example/sekhem/sekhem/model/Effects" "moves" "I" (.int w20)) (F_vp_o0 : Fld Z h0 o0 "com/example/sekhem/sekhem/model/Effects" "vp" "I" (.int w25)) (F_nightPrayer_o0 : Fld Z h0 o0 "com/example/sekhem/sekhem/model/Effects" "nightPrayer" "I" (.int w30)) (F_prayer_o0 : Fld Z h0 o0 "com/example/sekhem/sekhem/model/Effects" "prayer" "I" (.int w35)) :
    MetFree l (⟨"com/example/sekhem/sekhem/model/Effects", "<init>", "(IIILcom/example/sekhem/sekhem/model/Stance;IIII)V"⟩ : MethodName) (head1 (Jvm.Cond.code (⟨"com/example/sekhem/sekhem/model/Effects", "<init>", "(IIILcom/example/sekhem/sekhem/model/Stance;IIII)V"⟩ : MethodName) prog_40_method_1_code 9 none :: ws) ({ frames := 2, cells := 0, slots := 0, locals := 24 } : Room)) (fun a U => a = #[(.ref o0), (.int p1), (.int p2), (.int p3), .null, (.int p5), (.int p6), (.int p7), (.int p8)] ∧ Z.Warmed39 U.vm ∧ U.heap = h0) (fun _ _ _ _ _ => True) (fun _ U o U' => ∃ v L, o = .returned v ∧ Q1n Z o0 p1 p2 p3 p5 p6 p7 p8 w2 w6 w11 w20 w25 w30 w35 h0 n0 v U'.heap L ∧ FrameEnd U o U' L ({ frames := 2, cells := 0, slots := 0, locals := 24 } : Room).cells ({ frames := 2, cells := 0, slots := 0, locals := 24 } : Room).slots) := by
  refine MetFree.of_bodySF (plainFor_of_name pn_1n) hisR ?_
  intro p e s m args below meth c s₁ Bd hml0 hP hK
  obtain ⟨rfl, hZ, hh⟩ := hP
  have hx := Bd.exec
  have hby := Bd.bytes
  have hml : c.maxLocals = 9 := hml0
  have hown : s.vm.findClass "com/example/sekhem/sekhem/model/Effects" = some m.cls := findClass_of_methodNamed Bd.named
  have hnm := (name_of_methodNamed Bd.named Bd.method).1
  have X0 : Stand p l e ({ frames := 2, cells := 0, slots := 0, locals := 24 } : Room) s m #[(.ref o0), (.int p1), (.int p2), (.int p3), .null, (.int p5), (.int p6), (.int p7), (.int p8)] below meth c s₁ [] 0 0 := Stand.of_body Bd
  have e0 : s₁.heap = h0 := by rw [← hh, Bd.state]; rfl
  have N0 := Fr.nil n0
  have pre0 : ∀ t, Steps p.tables e below (s₁.setTop (mkF m 0 #[.val (.ref o0), .val (.int p1), .val (.int p2), .val (.int p3), .val .null, .val (.int p5), .val (.int p6), .val (.int p7), .val (.int p8)] [])) t → Steps p.tables e below (s₁.setTop (entryFrame m #[(.ref o0), (.int p1), (.int p2), (.int p3), .null, (.int p5), (.int p6), (.int p7), (.int p8)] 9)) t := fun t k => castTop (ef_1n m o0 p1 p2 p3 p5 p6 p7 p8) k
  obtain ⟨_, _, ⟨T1, L1, k1, n1⟩, -, X1, ⟨Lc1, hQ1, l1, y1, z1⟩, st1⟩ := X0.specialBack hx (y := (⟨"java/lang/Record", "<init>", "()V"⟩ : MethodName)) rfl hown (mvT hZ (hw _ (List.mem_of_getElem? (i := 10) rfl))) (mvT hZ (hw _ (List.mem_of_getElem? (i := 11) rfl))) (mvT hZ (hw _ (List.mem_of_getElem? (i := 14) rfl))) (by decide) (backOf (W := 0) (rm2 l Z a0 hw [] o0 h0 n0 Z0 ) hZ (hw _ (List.mem_of_getElem? (i := 14) rfl)) (hw _ (List.mem_of_getElem? (i := 13) rfl)) (by decide) (by decide)) (g := (mkF m 1 #[.val (.ref o0), .val (.int p1), .val (.int p2), .val (.int p3), .val .null, .val (.int p5), .val (.int p6), .val (.int p7), .val (.int p8)] [(.ref o0)])) rfl (by rw [hml]; rfl) (Steps.refl _) (a := o0) (argsL := []) (rest := []) (lenOf pd_1n_0 rfl) rfl (by show 2 * 0 + _ ≤ _; exact Nat.le_of_eq rfl) (hb hby d1_1) (fun _ _ => ⟨rfl, e0, (by decide : 0 + 0 ≤ _), (by decide : 0 + 0 ≤ _)⟩)
  dsimp only [Pt.U, Pt.locs, Pt.cells, Pt.slots] at X1 l1 y1 z1 st1 hQ1
  subst l1 y1 z1
  obtain ⟨rfl, N1q, e1q⟩ := hQ1
  have N1 := Fr.app N0 N1q
  obtain ⟨T3, h3, X3, e3, W3, st3⟩ := putF X1 hx hZ hown (host := "") (Or.inl (hw _ (List.mem_of_getElem? (i := 18) rfl))) Via.refl e1q F_strength_o0 E_o0 (Or.inr ⟨(hw _ (List.mem_of_getElem? (i := 19) rfl)), rfl, hnm⟩) (hw _ (List.mem_of_getElem? (i := 5) rfl)) (ty := .int) (by decide) rfl rfl (g := (mkF m 6 #[.val (.ref o0), .val (.int p1), .val (.int p2), .val (.int p3), .val .null, .val (.int p5), .val (.int p6), .val (.int p7), .val (.int p8)] [(.int p1), (.ref o0)])) rfl rfl (hb hby d1_6)
  have Fw3 := F_strength_o0.same W3
  have K4 : Keep h0 h3 [o0] := (Keep.refl h0 [o0]).wr W3 (Or.inl (List.mem_of_getElem? (i := 0) rfl))
  have Z5 : n0 ≤ h3.size := Nat.le_trans Z0 K4.1
  have N3 := Fr.snoc X3 N1 g_o0
  obtain ⟨LS3, X3, N3⟩ : ∃ L, Stand p l e ({ frames := 2, cells := 0, slots := 0, locals := 24 } : Room) s m #[(.ref o0), (.int p1), (.int p2), (.int p3), .null, (.int p5), (.int p6), (.int p7), (.int p8)] below meth c T3 L 0 0 ∧ Fr n0 L := ⟨_, X3, N3⟩
  have c7 := (F_defence_o0.other W3 (Or.inr (slot_ne (Or.inr (hw _ (List.mem_of_getElem? (i := 21) rfl))) (Or.inr (hw _ (List.mem_of_getElem? (i := 19) rfl))) (by decide) (t := .int) (t' := .int) (by decide) (by decide))))
  obtain ⟨T8, h8, X8, e8, W8, st8⟩ := putF X3 hx hZ hown (host := "") (Or.inl (hw _ (List.mem_of_getElem? (i := 20) rfl))) Via.refl e3 c7 (E_o0.wr W3) (Or.inr ⟨(hw _ (List.mem_of_getElem? (i := 21) rfl)), rfl, hnm⟩) (hw _ (List.mem_of_getElem? (i := 5) rfl)) (ty := .int) (by decide) rfl rfl (g := (mkF m 11 #[.val (.ref o0), .val (.int p1), .val (.int p2), .val (.int p3), .val .null, .val (.int p5), .val (.int p6), .val (.int p7), .val (.int p8)] [(.int p2), (.ref o0)])) rfl rfl (hb hby d1_11)
  have Fw8 := c7.same W8
  have K9 : Keep h0 h8 [o0] := K4.wr W8 (Or.inl (List.mem_of_getElem? (i := 0) rfl))
  have Z10 : n0 ≤ h8.size := Nat.le_trans Z0 K9.1
  have N8 := Fr.snoc X8 N3 g_o0
  obtain ⟨LS8, X8, N8⟩ : ∃ L, Stand p l e ({ frames := 2, cells := 0, slots := 0, locals := 24 } : Room) s m #[(.ref o0), (.int p1), (.int p2), (.int p3), .null, (.int p5), (.int p6), (.int p7), (.int p8)] below meth c T8 L 0 0 ∧ Fr n0 L := ⟨_, X8, N8⟩
  have c12 := ((F_damage_o0.other W3 (Or.inr (slot_ne (Or.inr (hw _ (List.mem_of_getElem? (i := 23) rfl))) (Or.inr (hw _ (List.mem_of_getElem? (i := 19) rfl))) (by decide) (t := .int) (t' := .int) (by decide) (by decide)))).other W8 (Or.inr (slot_ne (Or.inr (hw _ (List.mem_of_getElem? (i := 23) rfl))) (Or.inr (hw _ (List.mem_of_getElem? (i := 21) rfl))) (by decide) (t := .int) (t' := .int) (by decide) (by decide))))
  obtain ⟨T13, h13, X13, e13, W13, st13⟩ := putF X8 hx hZ hown (host := "") (Or.inl (hw _ (List.mem_of_getElem? (i := 22) rfl))) Via.refl e8 c12 ((E_o0.wr W3).wr W8) (Or.inr ⟨(hw _ (List.mem_of_getElem? (i := 23) rfl)), rfl, hnm⟩) (hw _ (List.mem_of_getElem? (i := 5) rfl)) (ty := .int) (by decide) rfl rfl (g := (mkF m 16 #[.val (.ref o0), .val (.int p1), .val (.int p2), .val (.int p3), .val .null, .val (.int p5), .val (.int p6), .val (.int p7), .val (.int p8)] [(.int p3), (.ref o0)])) rfl rfl (hb hby d1_16)
  have Fw13 := c12.same W13
  have K14 : Keep h0 h13 [o0] := K9.wr W13 (Or.inl (List.mem_of_getElem? (i := 0) rfl))
  have Z15 : n0 ≤ h13.size := Nat.le_trans Z0 K14.1
  have N13 := Fr.snoc X13 N8 g_o0
  obtain ⟨LS13, X13, N13⟩ : ∃ L, Stand p l e ({ frames := 2, cells := 0, slots := 0, locals := 24 } : Room) s m #[(.ref o0), (.int p1), (.int p2), (.int p3), .null, (.int p5), (.int p6), (.int p7), (.int p8)] below meth c T13 L 0 0 ∧ Fr n0 L := ⟨_, X13, N13⟩
  have c16 := (((F_when_o0.other W3 (Or.inr (slot_ne (Or.inr (hw _ (List.mem_of_getElem? (i := 25) rfl))) (Or.inr (hw _ (List.mem_of_getElem? (i := 19) rfl))) (by decide) (t := (.object "com/example/sekhem/sekhem/model/Stance")) (t' := .int) (by decide) (by decide)))).other W8 (Or.inr (slot_ne (Or.inr (hw _ (List.mem_of_getElem? (i := 25) rfl))) (Or.inr (hw _ (List.mem_of_getElem? (i := 21) rfl))) (by decide) (t := (.object "com/example/sekhem/sekhem/model/Stance")) (t' := .int) (by decide) (by decide)))).other W13 (Or.inr (slot_ne (Or.inr (hw _ (List.mem_of_getElem? (i := 25) rfl))) (Or.inr (hw _ (List.mem_of_getElem? (i := 23) rfl))) (by decide) (t := (.object "com/example/sekhem/sekhem/model/Stance")) (t' := .int) (by decide) (by decide))))
  obtain ⟨T17, h17, X17, e17, W17, st17⟩ := putF X13 hx hZ hown (host := "") (Or.inl (hw _ (List.mem_of_getElem? (i := 24) rfl))) Via.refl e13 c16 (((E_o0.wr W3).wr W8).wr W13) (Or.inr ⟨(hw _ (List.mem_of_getElem? (i := 25) rfl)), rfl, hnm⟩) (hw _ (List.mem_of_getElem? (i := 5) rfl)) (ty := (.object "com/example/sekhem/sekhem/model/Stance")) (by decide) rfl rfl (g := (mkF m 22 #[.val (.ref o0), .val (.int p1), .val (.int p2), .val (.int p3), .val .null, .val (.int p5), .val (.int p6), .val (.int p7), .val (.int p8)] [.null, (.ref o0)])) rfl rfl (hb hby d1_22)
  have Fw17 := c16.same W17
  have K18 : Keep h0 h17 [o0] := K14.wr W17 (Or.inl (List.mem_of_getElem? (i := 0) rfl))
  have Z19 : n0 ≤ h17.size := Nat.le_trans Z0 K18.1
  have N17 := Fr.snoc X17 N13 g_o0
  obtain ⟨LS17, X17, N17⟩ : ∃ L, Stand p l e ({ frames := 2, cells := 0, slots := 0, locals := 24 } : Room) s m #[(.ref o0), (.int p1), (.int p2), (.int p3), .null, (.int p5), (.int p6), (.int p7), (.int p8)] below meth c T17 L 0 0 ∧ Fr n0 L := ⟨_, X17, N17⟩
  have c21 := ((((F_moves_o0.other W3 (Or.inr (slot_ne (Or.inr (hw _ (List.mem_of_getElem? (i := 27) rfl))) (Or.inr (hw _ (List.mem_of_getElem? (i := 19) rfl))) (by decide) (t := .int) (t' := .int) (by decide) (by decide)))).other W8 (Or.inr (slot_ne (Or.inr (hw _ (List.mem_of_getElem? (i := 27) rfl))) (Or.inr (hw _ (List.mem_of_getElem? (i := 21) rfl))) (by decide) (t := .int) (t' := .int) (by decide) (by decide)))).other W13 (Or.inr (slot_ne (Or.inr (hw _ (List.mem_of_getElem? (i := 27) rfl))) (Or.inr (hw _ (List.mem_of_getElem? (i := 23) rfl))) (by decide) (t := .int) (t' := .int) (by decide) (by decide)))).other W17 (Or.inr (slot_ne (Or.inr (hw _ (List.mem_of_getElem? (i := 27) rfl))) (Or.inr (hw _ (List.mem_of_getElem? (i := 25) rfl))) (by decide) (t := .int) (t' := (.object "com/example/sekhem/sekhem/model/Stance")) (by decide) (by decide))))
  obtain ⟨T22, h22, X22, e22, W22, st22⟩ := putF X17 hx hZ hown (host := "") (Or.inl (hw _ (List.mem_of_getElem? (i := 26) rfl))) Via.refl e17 c21 ((((E_o0.wr W3).wr W8).wr W13).wr W17) (Or.inr ⟨(hw _ (List.mem_of_getElem? (i := 27) rfl)), rfl, hnm⟩) (hw _ (List.mem_of_getElem? (i := 5) rfl)) (ty := .int) (by decide) rfl rfl (g := (mkF m 28 #[.val (.ref o0), .val (.int p1), .val (.int p2), .val (.int p3), .val .null, .val (.int p5), .val (.int p6), .val (.int p7), .val (.int p8)] [(.int p5), (.ref o0)])) rfl rfl (hb hby d1_28)
  have Fw22 := c21.same W22
  have K23 : Keep h0 h22 [o0] := K18.wr W22 (Or.inl (List.mem_of_getElem? (i := 0) rfl))
  have Z24 : n0 ≤ h22.size := Nat.le_trans Z0 K23.1
  have N22 := Fr.snoc X22 N17 g_o0
  obtain ⟨LS22, X22, N22⟩ : ∃ L, Stand p l e ({ frames := 2, cells := 0, slots := 0, locals := 24 } : Room) s m #[(.ref o0), (.int p1), (.int p2), (.int p3), .null, (.int p5), (.int p6), (.int p7), (.int p8)] below meth c T22 L 0 0 ∧ Fr n0 L := ⟨_, X22, N22⟩
  have c26 := (((((F_vp_o0.other W3 (Or.inr (slot_ne (Or.inr (hw _ (List.mem_of_getElem? (i := 29) rfl))) (Or.inr (hw _ (List.mem_of_getElem? (i := 19) rfl))) (by decide) (t := .int) (t' := .int) (by decide) (by decide)))).other W8 (Or.inr (slot_ne (Or.inr (hw _ (List.mem_of_getElem? (i := 29) rfl))) (Or.inr (hw _ (List.mem_of_getElem? (i := 21) rfl))) (by decide) (t := .int) (t' := .int) (by decide) (by decide)))).other W13 (Or.inr (slot_ne (Or.inr (hw _ (List.mem_of_getElem? (i := 29) rfl))) (Or.inr (hw _ (List.mem_of_getElem? (i := 23) rfl))) (by decide) (t := .int) (t' := .int) (by decide) (by decide)))).other W17 (Or.inr (slot_ne (Or.inr (hw _ (List.mem_of_getElem? (i := 29) rfl))) (Or.inr (hw _ (List.mem_of_getElem? (i := 25) rfl))) (by decide) (t := .int) (t' := (.object "com/example/sekhem/sekhem/model/Stance")) (by decide) (by decide)))).other W22 (Or.inr (slot_ne (Or.inr (hw _ (List.mem_of_getElem? (i := 29) rfl))) (Or.inr (hw _ (List.mem_of_getElem? (i := 27) rfl))) (by decide) (t := .int) (t' := .int) (by decide) (by decide))))
  obtain ⟨T27, h27, X27, e27, W27, st27⟩ := putF X22 hx hZ hown (host := "") (Or.inl (hw _ (List.mem_of_getElem? (i := 28) rfl))) Via.refl e22 c26 (((((E_o0.wr W3).wr W8).wr W13).wr W17).wr W22) (Or.inr ⟨(hw _ (List.mem_of_getElem? (i := 29) rfl)), rfl, hnm⟩) (hw _ (List.mem_of_getElem? (i := 5) rfl)) (ty := .int) (by decide) rfl rfl (g := (mkF m 34 #[.val (.ref o0), .val (.int p1), .val (.int p2), .val (.int p3), .val .null, .val (.int p5), .val (.int p6), .val (.int p7), .val (.int p8)] [(.int p6), (.ref o0)])) rfl rfl (hb hby d1_34)
  have Fw27 := c26.same W27
  have K28 : Keep h0 h27 [o0] := K23.wr W27 (Or.inl (List.mem_of_getElem? (i := 0) rfl))
  have Z29 : n0 ≤ h27.size := Nat.le_trans Z0 K28.1
  have N27 := Fr.snoc X27 N22 g_o0
  obtain ⟨LS27, X27, N27⟩ : ∃ L, Stand p l e ({ frames := 2, cells := 0, slots := 0, locals := 24 } : Room) s m #[(.ref o0), (.int p1), (.int p2), (.int p3), .null, (.int p5), (.int p6), (.int p7), (.int p8)] below meth c T27 L 0 0 ∧ Fr n0 L := ⟨_, X27, N27⟩
  have c31 := ((((((F_nightPrayer_o0.other W3 (Or.inr (slot_ne (Or.inr (hw _ (List.mem_of_getElem? (i := 31) rfl))) (Or.inr (hw _ (List.mem_of_getElem? (i := 19) rfl))) (by decide) (t := .int) (t' := .int) (by decide) (by decide)))).other W8 (Or.inr (slot_ne (Or.inr (hw _ (List.mem_of_getElem? (i := 31) rfl))) (Or.inr (hw _ (List.mem_of_getElem? (i := 21) rfl))) (by decide) (t := .int) (t' := .int) (by decide) (by decide)))).other W13 (Or.inr (slot_ne (Or.inr (hw _ (List.mem_of_getElem? (i := 31) rfl))) (Or.inr (hw _ (List.mem_of_getElem? (i := 23) rfl))) (by decide) (t := .int) (t' := .int) (by decide) (by decide)))).other W17 (Or.inr (slot_ne (Or.inr (hw _ (List.mem_of_getElem? (i := 31) rfl))) (Or.inr (hw _ (List.mem_of_getElem? (i := 25) rfl))) (by decide) (t := .int) (t' := (.object "com/example/sekhem/sekhem/model/Stance")) (by decide) (by decide)))).other W22 (Or.inr (slot_ne (Or.inr (hw _ (List.mem_of_getElem? (i := 31) rfl))) (Or.inr (hw _ (List.mem_of_getElem? (i := 27) rfl))) (by decide) (t := .int) (t' := .int) (by decide) (by decide)))).other W27 (Or.inr (slot_ne (Or.inr (hw _ (List.mem_of_getElem? (i := 31) rfl))) (Or.inr (hw _ (List.mem_of_getElem? (i := 29) rfl))) (by decide) (t := .int) (t' := .int) (by decide) (by decide))))
  obtain ⟨T32, h32, X32, e32, W32, st32⟩ := putF X27 hx hZ hown (host := "") (Or.inl (hw _ (List.mem_of_getElem? (i := 30) rfl))) Via.refl e27 c31 ((((((E_o0.wr W3).wr W8).wr W13).wr W17).wr W22).wr W27) (Or.inr ⟨(hw _ (List.mem_of_getElem? (i := 31) rfl)), rfl, hnm⟩) (hw _ (List.mem_of_getElem? (i := 5) rfl)) (ty := .int) (by decide) rfl rfl (g := (mkF m 40 #[.val (.ref o0), .val (.int p1), .val (.int p2), .val (.int p3), .val .null, .val (.int p5), .val (.int p6), .val (.int p7), .val (.int p8)] [(.int p7), (.ref o0)])) rfl rfl (hb hby d1_40)
  have Fw32 := c31.same W32
  have K33 : Keep h0 h32 [o0] := K28.wr W32 (Or.inl (List.mem_of_getElem? (i := 0) rfl))
  have Z34 : n0 ≤ h32.size := Nat.le_trans Z0 K33.1
  have N32 := Fr.snoc X32 N27 g_o0
  obtain ⟨LS32, X32, N32⟩ : ∃ L, Stand p l e ({ frames := 2, cells := 0, slots := 0, locals := 24 } : Room) s m #[(.ref o0), (.int p1), (.int p2), (.int p3), .null, (.int p5), (.int p6), (.int p7), (.int p8)] below meth c T32 L 0 0 ∧ Fr n0 L := ⟨_, X32, N32⟩
  have c36 := (((((((E_o0.wr W3).wr W8).wr W13).wr W17).wr W22).wr W27).wr W32)
  have c37 := (((((((F_prayer_o0.other W3 (Or.inr (slot_ne (Or.inr (hw _ (List.mem_of_getElem? (i := 33) rfl))) (Or.inr (hw _ (List.mem_of_getElem? (i := 19) rfl))) (by decide) (t := .int) (t' := .int) (by decide) (by decide)))).other W8 (Or.inr (slot_ne (Or.inr (hw _ (List.mem_of_getElem? (i := 33) rfl))) (Or.inr (hw _ (List.mem_of_getElem? (i := 21) rfl))) (by decide) (t := .int) (t' := .int) (by decide) (by decide)))).other W13 (Or.inr (slot_ne (Or.inr (hw _ (List.mem_of_getElem? (i := 33) rfl))) (Or.inr (hw _ (List.mem_of_getElem? (i := 23) rfl))) (by decide) (t := .int) (t' := .int) (by decide) (by decide)))).other W17 (Or.inr (slot_ne (Or.inr (hw _ (List.mem_of_getElem? (i := 33) rfl))) (Or.inr (hw _ (List.mem_of_getElem? (i := 25) rfl))) (by decide) (t := .int) (t' := (.object "com/example/sekhem/sekhem/model/Stance")) (by decide) (by decide)))).other W22 (Or.inr (slot_ne (Or.inr (hw _ (List.mem_of_getElem? (i := 33) rfl))) (Or.inr (hw _ (List.mem_of_getElem? (i := 27) rfl))) (by decide) (t := .int) (t' := .int) (by decide) (by decide)))).other W27 (Or.inr (slot_ne (Or.inr (hw _ (List.mem_of_getElem? (i := 33) rfl))) (Or.inr (hw _ (List.mem_of_getElem? (i := 29) rfl))) (by decide) (t := .int) (t' := .int) (by decide) (by decide)))).other W32 (Or.inr (slot_ne (Or.inr (hw _ (List.mem_of_getElem? (i := 33) rfl))) (Or.inr (hw _ (List.mem_of_getElem? (i := 31) rfl))) (by decide) (t := .int) (t' := .int) (by decide) (by decide))))
  obtain ⟨T38, h38, X38, e38, W38, st38⟩ := putF X32 hx hZ hown (host := "") (Or.inl (hw _ (List.mem_of_getElem? (i := 32) rfl))) Via.refl e32 c37 c36 (Or.inr ⟨(hw _ (List.mem_of_getElem? (i := 33) rfl)), rfl, hnm⟩) (hw _ (List.mem_of_getElem? (i := 5) rfl)) (ty := .int) (by decide) rfl rfl (g := (mkF m 46 #[.val (.ref o0), .val (.int p1), .val (.int p2), .val (.int p3), .val .null, .val (.int p5), .val (.int p6), .val (.int p7), .val (.int p8)] [(.int p8), (.ref o0)])) rfl rfl (hb hby d1_46)
  have Fw38 := c37.same W38
  have K39 : Keep h0 h38 [o0] := K33.wr W38 (Or.inl (List.mem_of_getElem? (i := 0) rfl))
  have Z40 : n0 ≤ h38.size := Nat.le_trans Z0 K39.1
  have N38 := Fr.snoc X38 N32 g_o0
  obtain ⟨LS38, X38, N38⟩ : ∃ L, Stand p l e ({ frames := 2, cells := 0, slots := 0, locals := 24 } : Room) s m #[(.ref o0), (.int p1), (.int p2), (.int p3), .null, (.int p5), (.int p6), (.int p7), (.int p8)] below meth c T38 L 0 0 ∧ Fr n0 L := ⟨_, X38, N38⟩
  obtain ⟨fs, hr, hrun, hended, hW, hsame⟩ := X38.leave (v := none) (fun _ => rfl)
  have c41 := (((((((Fw3.other W8 (Or.inr (slot_ne (Or.inr (hw _ (List.mem_of_getElem? (i := 19) rfl))) (Or.inr (hw _ (List.mem_of_getElem? (i := 21) rfl))) (by decide) (t := .int) (t' := .int) (by decide) (by decide)))).other W13 (Or.inr (slot_ne (Or.inr (hw _ (List.mem_of_getElem? (i := 19) rfl))) (Or.inr (hw _ (List.mem_of_getElem? (i := 23) rfl))) (by decide) (t := .int) (t' := .int) (by decide) (by decide)))).other W17 (Or.inr (slot_ne (Or.inr (hw _ (List.mem_of_getElem? (i := 19) rfl))) (Or.inr (hw _ (List.mem_of_getElem? (i := 25) rfl))) (by decide) (t := .int) (t' := (.object "com/example/sekhem/sekhem/model/Stance")) (by decide) (by decide)))).other W22 (Or.inr (slot_ne (Or.inr (hw _ (List.mem_of_getElem? (i := 19) rfl))) (Or.inr (hw _ (List.mem_of_getElem? (i := 27) rfl))) (by decide) (t := .int) (t' := .int) (by decide) (by decide)))).other W27 (Or.inr (slot_ne (Or.inr (hw _ (List.mem_of_getElem? (i := 19) rfl))) (Or.inr (hw _ (List.mem_of_getElem? (i := 29) rfl))) (by decide) (t := .int) (t' := .int) (by decide) (by decide)))).other W32 (Or.inr (slot_ne (Or.inr (hw _ (List.mem_of_getElem? (i := 19) rfl))) (Or.inr (hw _ (List.mem_of_getElem? (i := 31) rfl))) (by decide) (t := .int) (t' := .int) (by decide) (by decide)))).other W38 (Or.inr (slot_ne (Or.inr (hw _ (List.mem_of_getElem? (i := 19) rfl))) (Or.inr (hw _ (List.mem_of_getElem? (i := 33) rfl))) (by decide) (t := .int) (t' := .int) (by decide) (by decide))))
  have c42 := ((((((Fw8.other W13 (Or.inr (slot_ne (Or.inr (hw _ (List.mem_of_getElem? (i := 21) rfl))) (Or.inr (hw _ (List.mem_of_getElem? (i := 23) rfl))) (by decide) (t := .int) (t' := .int) (by decide) (by decide)))).other W17 (Or.inr (slot_ne (Or.inr (hw _ (List.mem_of_getElem? (i := 21) rfl))) (Or.inr (hw _ (List.mem_of_getElem? (i := 25) rfl))) (by decide) (t := .int) (t' := (.object "com/example/sekhem/sekhem/model/Stance")) (by decide) (by decide)))).other W22 (Or.inr (slot_ne (Or.inr (hw _ (List.mem_of_getElem? (i := 21) rfl))) (Or.inr (hw _ (List.mem_of_getElem? (i := 27) rfl))) (by decide) (t := .int) (t' := .int) (by decide) (by decide)))).other W27 (Or.inr (slot_ne (Or.inr (hw _ (List.mem_of_getElem? (i := 21) rfl))) (Or.inr (hw _ (List.mem_of_getElem? (i := 29) rfl))) (by decide) (t := .int) (t' := .int) (by decide) (by decide)))).other W32 (Or.inr (slot_ne (Or.inr (hw _ (List.mem_of_getElem? (i := 21) rfl))) (Or.inr (hw _ (List.mem_of_getElem? (i := 31) rfl))) (by decide) (t := .int) (t' := .int) (by decide) (by decide)))).other W38 (Or.inr (slot_ne (Or.inr (hw _ (List.mem_of_getElem? (i := 21) rfl))) (Or.inr (hw _ (List.mem_of_getElem? (i := 33) rfl))) (by decide) (t := .int) (t' := .int) (by decide) (by decide))))
  have c43 := (((((Fw13.other W17 (Or.inr (slot_ne (Or.inr (hw _ (List.mem_of_getElem? (i := 23) rfl))) (Or.inr (hw _ (List.mem_of_getElem? (i := 25) rfl))) (by decide) (t := .int) (t' := (.object "com/example/sekhem/sekhem/model/Stance")) (by decide) (by decide)))).other W22 (Or.inr (slot_ne (Or.inr (hw _ (List.mem_of_getElem? (i := 23) rfl))) (Or.inr (hw _ (List.mem_of_getElem? (i := 27) rfl))) (by decide) (t := .int) (t' := .int) (by decide) (by decide)))).other W27 (Or.inr (slot_ne (Or.inr (hw _ (List.mem_of_getElem? (i := 23) rfl))) (Or.inr (hw _ (List.mem_of_getElem? (i := 29) rfl))) (by decide) (t := .int) (t' := .int) (by decide) (by decide)))).other W32 (Or.inr (slot_ne (Or.inr (hw _ (List.mem_of_getElem? (i := 23) rfl))) (Or.inr (hw _ (List.mem_of_getElem? (i := 31) rfl))) (by decide) (t := .int) (t' := .int) (by decide) (by decide)))).other W38 (Or.inr (slot_ne (Or.inr (hw _ (List.mem_of_getElem? (i := 23) rfl))) (Or.inr (hw _ (List.mem_of_getElem? (i := 33) rfl))) (by decide) (t := .int) (t' := .int) (by decide) (by decide))))
  have c44 := ((((Fw17.other W22 (Or.inr (slot_ne (Or.inr (hw _ (List.mem_of_getElem? (i := 25) rfl))) (Or.inr (hw _ (List.mem_of_getElem? (i := 27) rfl))) (by decide) (t := (.object "com/example/sekhem/sekhem/model/Stance")) (t' := .int) (by decide) (by decide)))).other W27 (Or.inr (slot_ne (Or.inr (hw _ (List.mem_of_getElem? (i := 25) rfl))) (Or.inr (hw _ (List.mem_of_getElem? (i := 29) rfl))) (by decide) (t := (.object "com/example/sekhem/sekhem/model/Stance")) (t' := .int) (by decide) (by decide)))).other W32 (Or.inr (slot_ne (Or.inr (hw _ (List.mem_of_getElem? (i := 25) rfl))) (Or.inr (hw _ (List.mem_of_getElem? (i := 31) rfl))) (by decide) (t := (.object "com/example/sekhem/sekhem/model/Stance")) (t' := .int) (by decide) (by decide)))).other W38 (Or.inr (slot_ne (Or.inr (hw _ (List.mem_of_getElem? (i := 25) rfl))) (Or.inr (hw _ (List.mem_of_getElem? (i := 33) rfl))) (by decide) (t := (.object "com/example/sekhem/sekhem/model/Stance")) (t' := .int) (by decide) (by decide))))
  have c45 := (((Fw22.other W27 (Or.inr (slot_ne (Or.inr (hw _ (List.mem_of_getElem? (i := 27) rfl))) (Or.inr (hw _ (List.mem_of_getElem? (i := 29) rfl))) (by decide) (t := .int) (t' := .int) (by decide) (by decide)))).other W32 (Or.inr (slot_ne (Or.inr (hw _ (List.mem_of_getElem? (i := 27) rfl))) (Or.inr (hw _ (List.mem_of_getElem? (i := 31) rfl))) (by decide) (t := .int) (t' := .int) (by decide) (by decide)))).other W38 (Or.inr (slot_ne (Or.inr (hw _ (List.mem_of_getElem? (i := 27) rfl))) (Or.inr (hw _ (List.mem_of_getElem? (i := 33) rfl))) (by decide) (t := .int) (t' := .int) (by decide) (by decide))))
  have c46 := ((Fw27.other W32 (Or.inr (slot_ne (Or.inr (hw _ (List.mem_of_getElem? (i := 29) rfl))) (Or.inr (hw _ (List.mem_of_getElem? (i := 31) rfl))) (by decide) (t := .int) (t' := .int) (by decide) (by decide)))).other W38 (Or.inr (slot_ne (Or.inr (hw _ (List.mem_of_getElem? (i := 29) rfl))) (Or.inr (hw _ (List.mem_of_getElem? (i := 33) rfl))) (by decide) (t := .int) (t' := .int) (by decide) (by decide))))
  have c47 := (Fw32.other W38 (Or.inr (slot_ne (Or.inr (hw _ (List.mem_of_getElem? (i := 31) rfl))) (Or.inr (hw _ (List.mem_of_getElem? (i := 33) rfl))) (by decide) (t := .int) (t' := .int) (by decide) (by decide))))
  refine ⟨_, _, pre0 _ ?_, hrun, hended, _, _, rfl, ?_, ⟨_, rfl⟩, hW, hsame.mono (by decide) (by decide)⟩
  · show Steps p.tables e below (s₁.setTop (mkF m 0 #[.val (.ref o0), .val (.int p1), .val (.int p2), .val (.int p3), .val .null, .val (.int p5), .val (.int p6), .val (.int p7), .val (.int p8)] [])) _
    refine XS.aloadN X0.here hx rfl (hb hby d1_0) rfl rfl ?_
    show Steps p.tables e below (s₁.setTop (mkF m 1 #[.val (.ref o0), .val (.int p1), .val (.int p2), .val (.int p3), .val .null, .val (.int p5), .val (.int p6), .val (.int p7), .val (.int p8)] [(.ref o0)])) _
    refine st1.trans ?_
    show Steps p.tables e below (T1.setTop (mkF m 4 #[.val (.ref o0), .val (.int p1), .val (.int p2), .val (.int p3), .val .null, .val (.int p5), .val (.int p6), .val (.int p7), .val (.int p8)] [])) _
    refine XS.aloadN X1.here hx rfl (hb hby d1_4) rfl rfl ?_
    show Steps p.tables e below (T1.setTop (mkF m 5 #[.val (.ref o0), .val (.int p1), .val (.int p2), .val (.int p3), .val .null, .val (.int p5), .val (.int p6), .val (.int p7), .val (.int p8)] [(.ref o0)])) _
    refine XS.iloadN X1.here hx rfl (hb hby d1_5) rfl ?_
    show Steps p.tables e below (T1.setTop (mkF m 6 #[.val (.ref o0), .val (.int p1), .val (.int p2), .val (.int p3), .val .null, .val (.int p5), .val (.int p6), .val (.int p7), .val (.int p8)] [(.int p1), (.ref o0)])) _
    refine st3 _ ?_
    show Steps p.tables e below (T3.setTop (mkF m 9 #[.val (.ref o0), .val (.int p1), .val (.int p2), .val (.int p3), .val .null, .val (.int p5), .val (.int p6), .val (.int p7), .val (.int p8)] [])) _
    refine XS.aloadN X3.here hx rfl (hb hby d1_9) rfl rfl ?_
    show Steps p.tables e below (T3.setTop (mkF m 10 #[.val (.ref o0), .val (.int p1), .val (.int p2), .val (.int p3), .val .null, .val (.int p5), .val (.int p6), .val (.int p7), .val (.int p8)] [(.ref o0)])) _
    refine XS.iloadN X3.here hx rfl (hb hby d1_10) rfl ?_
    show Steps p.tables e below (T3.setTop (mkF m 11 #[.val (.ref o0), .val (.int p1), .val (.int p2), .val (.int p3), .val .null, .val (.int p5), .val (.int p6), .val (.int p7), .val (.int p8)] [(.int p2), (.ref o0)])) _
    refine st8 _ ?_
    show Steps p.tables e below (T8.setTop (mkF m 14 #[.val (.ref o0), .val (.int p1), .val (.int p2), .val (.int p3), .val .null, .val (.int p5), .val (.int p6), .val (.int p7), .val (.int p8)] [])) _
    refine XS.aloadN X8.here hx rfl (hb hby d1_14) rfl rfl ?_
    show Steps p.tables e below (T8.setTop (mkF m 15 #[.val (.ref o0), .val (.int p1), .val (.int p2), .val (.int p3), .val .null, .val (.int p5), .val (.int p6), .val (.int p7), .val (.int p8)] [(.ref o0)])) _
    refine XS.iloadN X8.here hx rfl (hb hby d1_15) rfl ?_
    show Steps p.tables e below (T8.setTop (mkF m 16 #[.val (.ref o0), .val (.int p1), .val (.int p2), .val (.int p3), .val .null, .val (.int p5), .val (.int p6), .val (.int p7), .val (.int p8)] [(.int p3), (.ref o0)])) _
    refine st13 _ ?_
    show Steps p.tables e below (T13.setTop (mkF m 19 #[.val (.ref o0), .val (.int p1), .val (.int p2), .val (.int p3), .val .null, .val (.int p5), .val (.int p6), .val (.int p7), .val (.int p8)] [])) _
    refine XS.aloadN X13.here hx rfl (hb hby d1_19) rfl rfl ?_
    show Steps p.tables e below (T13.setTop (mkF m 20 #[.val (.ref o0), .val (.int p1), .val (.int p2), .val (.int p3), .val .null, .val (.int p5), .val (.int p6), .val (.int p7), .val (.int p8)] [(.ref o0)])) _
    refine XS.aload X13.here hx rfl (hb hby d1_20) rfl rfl ?_
    show Steps p.tables e below (T13.setTop (mkF m 22 #[.val (.ref o0), .val (.int p1), .val (.int p2), .val (.int p3), .val .null, .val (.int p5), .val (.int p6), .val (.int p7), .val (.int p8)] [.null, (.ref o0)])) _
    refine st17 _ ?_
    show Steps p.tables e below (T17.setTop (mkF m 25 #[.val (.ref o0), .val (.int p1), .val (.int p2), .val (.int p3), .val .null, .val (.int p5), .val (.int p6), .val (.int p7), .val (.int p8)] [])) _
    refine XS.aloadN X17.here hx rfl (hb hby d1_25) rfl rfl ?_
    show Steps p.tables e below (T17.setTop (mkF m 26 #[.val (.ref o0), .val (.int p1), .val (.int p2), .val (.int p3), .val .null, .val (.int p5), .val (.int p6), .val (.int p7), .val (.int p8)] [(.ref o0)])) _
    refine XS.iload X17.here hx rfl (hb hby d1_26) rfl ?_
    show Steps p.tables e below (T17.setTop (mkF m 28 #[.val (.ref o0), .val (.int p1), .val (.int p2), .val (.int p3), .val .null, .val (.int p5), .val (.int p6), .val (.int p7), .val (.int p8)] [(.int p5), (.ref o0)])) _
    refine st22 _ ?_
    show Steps p.tables e below (T22.setTop (mkF m 31 #[.val (.ref o0), .val (.int p1), .val (.int p2), .val (.int p3), .val .null, .val (.int p5), .val (.int p6), .val (.int p7), .val (.int p8)] [])) _
    refine XS.aloadN X22.here hx rfl (hb hby d1_31) rfl rfl ?_
    show Steps p.tables e below (T22.setTop (mkF m 32 #[.val (.ref o0), .val (.int p1), .val (.int p2), .val (.int p3), .val .null, .val (.int p5), .val (.int p6), .val (.int p7), .val (.int p8)] [(.ref o0)])) _
    refine XS.iload X22.here hx rfl (hb hby d1_32) rfl ?_
    show Steps p.tables e below (T22.setTop (mkF m 34 #[.val (.ref o0), .val (.int p1), .val (.int p2), .val (.int p3), .val .null, .val (.int p5), .val (.int p6), .val (.int p7), .val (.int p8)] [(.int p6), (.ref o0)])) _
    refine st27 _ ?_
    show Steps p.tables e below (T27.setTop (mkF m 37 #[.val (.ref o0), .val (.int p1), .val (.int p2), .val (.int p3), .val .null, .val (.int p5), .val (.int p6), .val (.int p7), .val (.int p8)] [])) _
    refine XS.aloadN X27.here hx rfl (hb hby d1_37) rfl rfl ?_
    show Steps p.tables e below (T27.setTop (mkF m 38 #[.val (.ref o0), .val (.int p1), .val (.int p2), .val (.int p3), .val .null, .val (.int p5), .val (.int p6), .val (.int p7), .val (.int p8)] [(.ref o0)])) _
    refine XS.iload X27.here hx rfl (hb hby d1_38) rfl ?_
    show Steps p.tables e below (T27.setTop (mkF m 40 #[.val (.ref o0), .val (.int p1), .val (.int p2), .val (.int p3), .val .null, .val (.int p5), .val (.int p6), .val (.int p7), .val (.int p8)] [(.int p7), (.ref o0)])) _
    refine st32 _ ?_
    show Steps p.tables e below (T32.setTop (mkF m 43 #[.val (.ref o0), .val (.int p1), .val (.int p2), .val (.int p3), .val .null, .val (.int p5), .val (.int p6), .val (.int p7), .val (.int p8)] [])) _
    refine XS.aloadN X32.here hx rfl (hb hby d1_43) rfl rfl ?_
    show Steps p.tables e below (T32.setTop (mkF m 44 #[.val (.ref o0), .val (.int p1), .val (.int p2), .val (.int p3), .val .null, .val (.int p5), .val (.int p6), .val (.int p7), .val (.int p8)] [(.ref o0)])) _
    refine XS.iload X32.here hx rfl (hb hby d1_44) rfl ?_
    show Steps p.tables e below (T32.setTop (mkF m 46 #[.val (.ref o0), .val (.int p1), .val (.int p2), .val (.int p3), .val .null, .val (.int p5), .val (.int p6), .val (.int p7), .val (.int p8)] [(.int p8), (.ref o0)])) _
    refine st38 _ ?_
    show Steps p.tables e below (T38.setTop (mkF m 49 #[.val (.ref o0), .val (.int p1), .val (.int p2), .val (.int p3), .val .null, .val (.int p5), .val (.int p6), .val (.int p7), .val (.int p8)] [])) _
    exact X38.returnOut hx Bd.returns (hb hby d1_49) hr
  · show Q1n Z o0 p1 p2 p3 p5 p6 p7 p8 w2 w6 w11 w20 w25 w30 w35 h0 n0 _ T38.heap _
    rw [e38]
    exact ⟨rfl, N38, K39, c41, c42, c43, c44, c45, c46, c47, Fw38⟩
theorem d4_0 : decode prog_40_method_2_code 0 = .ok (.aload_n 0, 1) := by decide +kernel
theorem d4_1 : decode prog_40_method_2_code 1 = .ok (.getfield 19, 3) := by decide +kernel
theorem d4_4 : decode prog_40_method_2_code 4 = .ok (.ifnull 11, 3) := by decide +kernel
theorem d4_7 : decode prog_40_method_2_code 7 = .ok (.aload_n 0, 1) := by decide +kernel
theorem d4_8 : decode prog_40_method_2_code 8 = .ok (.getfield 19, 3) := by decide +kernel
theorem d4_11 : decode prog_40_method_2_code 11 = .ok (.aload_n 1, 1) := by decide +kernel
theorem d4_12 : decode prog_40_method_2_code 12 = .ok (.if_acmp .ne 7, 3) := by decide +kernel
theorem d4_15 : decode prog_40_method_2_code 15 = .ok (.iconst 1, 1) := by decide +kernel
theorem d4_16 : decode prog_40_method_2_code 16 = .ok (.goto 4, 3) := by decide +kernel
theorem d4_19 : decode prog_40_method_2_code 19 = .ok (.iconst 0, 1) := by decide +kernel
theorem d4_20 : decode prog_40_method_2_code 20 = .ok (.ireturn, 1) := by decide +kernel
theorem pn_4 : plainName "com/example/sekhem/sekhem/model/Effects" = true := by first | (simp [plainName, overriddenIn]; done) | decide +kernel
theorem ef_4 (m : MethodId) (x0 : Addr) (x1 : Addr) : entryFrame m #[(.ref x0), (.ref x1)] 2 = mkF m 0 #[.val (.ref x0), .val (.ref x1)] [] := by first | (simp [entryFrame, mkF, argsToLocals, Value.category]; done) | rfl
def f4 (o1 : Addr) (w1 : Addr) : Int32 :=
  if w1 = o1 then ((1 : Int32)) else
  ((0 : Int32))
def Q4 (Z : State) (o0 : Addr) (o1 : Addr) (w1 : Addr) (h0 : Heap) (n0 : Nat) (v : Option Value) (h : Heap) (L : List Loc) : Prop := v = some (.int (f4 o1 w1)) ∧ Fr n0 L ∧ h = h0
set_option maxRecDepth 65536 in
set_option maxHeartbeats 40000000 in
theorem rm4 (l : Launch) (Z : State) (a0 : Array Value) (hw : ∀ d ∈ tables_1, d.before a0 Z = true) (ws : List Jvm.Cond) (o0 : Addr) (o1 : Addr) (w1 : Addr) (h0 : Heap) (n0 : Nat) (Z0 : n0 ≤ h0.size) (F_when_o0 : Fld Z h0 o0 "com/example/sekhem/sekhem/model/Effects" "when" "Lcom/example/sekhem/sekhem/model/Stance;" (.ref w1)) :
    MetFree l (⟨"com/example/sekhem/sekhem/model/Effects", "countIn", "(Lcom/example/sekhem/sekhem/model/Stance;)Z"⟩ : MethodName) (head1 (Jvm.Cond.code (⟨"com/example/sekhem/sekhem/model/Effects", "countIn", "(Lcom/example/sekhem/sekhem/model/Stance;)Z"⟩ : MethodName) prog_40_method_2_code 2 (some .boolean) :: ws) ({ frames := 0, cells := 0, slots := 0, locals := 0 } : Room)) (fun a U => a = #[(.ref o0), (.ref o1)] ∧ Z.Warmed39 U.vm ∧ U.heap = h0) (fun _ _ _ _ _ => True) (fun _ U o U' => ∃ v L, o = .returned v ∧ Q4 Z o0 o1 w1 h0 n0 v U'.heap L ∧ FrameEnd U o U' L ({ frames := 0, cells := 0, slots := 0, locals := 0 } : Room).cells ({ frames := 0, cells := 0, slots := 0, locals := 0 } : Room).slots) := by
  refine MetFree.of_bodySF (plainFor_of_name pn_4) hisR ?_
  intro p e s m args below meth c s₁ Bd hml0 hP hK
  obtain ⟨rfl, hZ, hh⟩ := hP
  have hx := Bd.exec
  have hby := Bd.bytes
  have hml : c.maxLocals = 2 := hml0
  have hown : s.vm.findClass "com/example/sekhem/sekhem/model/Effects" = some m.cls := findClass_of_methodNamed Bd.named
  have hnm := (name_of_methodNamed Bd.named Bd.method).1
  have X0 : Stand p l e ({ frames := 0, cells := 0, slots := 0, locals := 0 } : Room) s m #[(.ref o0), (.ref o1)] below meth c s₁ [] 0 0 := Stand.of_body Bd
  have e0 : s₁.heap = h0 := by rw [← hh, Bd.state]; rfl
  have N0 := Fr.nil n0
  have pre0 : ∀ t, Steps p.tables e below (s₁.setTop (mkF m 0 #[.val (.ref o0), .val (.ref o1)] [])) t → Steps p.tables e below (s₁.setTop (entryFrame m #[(.ref o0), (.ref o1)] 2)) t := fun t k => castTop (ef_4 m o0 o1) k
  obtain ⟨T2, X2, e2, st2⟩ := getF X0 hx hZ hown (host := "") (Or.inl (hw _ (List.mem_of_getElem? (i := 24) rfl))) Via.refl e0 F_when_o0 (g := (mkF m 1 #[.val (.ref o0), .val (.ref o1)] [(.ref o0)])) rfl rfl (hb hby d4_1)
  obtain ⟨T3, X3, e3, st3⟩ := getF X2 hx hZ hown (host := "") (Or.inl (hw _ (List.mem_of_getElem? (i := 24) rfl))) Via.refl e2 F_when_o0 (g := (mkF m 8 #[.val (.ref o0), .val (.ref o1)] [(.ref o0)])) rfl rfl (hb hby d4_8)
  have pre4 : ∀ t, Steps p.tables e below (T3.setTop (mkF m 12 #[.val (.ref o0), .val (.ref o1)] [(.ref o1), (.ref w1)])) t → Steps p.tables e below (s₁.setTop (entryFrame m #[(.ref o0), (.ref o1)] 2)) t := fun t kt => pre0 t (by
      show Steps p.tables e below (s₁.setTop (mkF m 0 #[.val (.ref o0), .val (.ref o1)] [])) _
      refine XS.aloadN X0.here hx rfl (hb hby d4_0) rfl rfl ?_
      show Steps p.tables e below (s₁.setTop (mkF m 1 #[.val (.ref o0), .val (.ref o1)] [(.ref o0)])) _
      refine st2 _ ?_
      show Steps p.tables e below (T2.setTop (mkF m 4 #[.val (.ref o0), .val (.ref o1)] [(.ref w1)])) _
      refine XS.ifnullNo X2.here hx rfl (hb hby d4_4) rfl ?_
      show Steps p.tables e below (T2.setTop (mkF m 7 #[.val (.ref o0), .val (.ref o1)] [])) _
      refine XS.aloadN X2.here hx rfl (hb hby d4_7) rfl rfl ?_
      show Steps p.tables e below (T2.setTop (mkF m 8 #[.val (.ref o0), .val (.ref o1)] [(.ref o0)])) _
      refine st3 _ ?_
      show Steps p.tables e below (T3.setTop (mkF m 11 #[.val (.ref o0), .val (.ref o1)] [(.ref w1)])) _
      refine XS.aloadN X3.here hx rfl (hb hby d4_11) rfl rfl ?_
      exact kt)
  by_cases ha12_5 : w1 = o1
  · obtain ⟨fs, hr, hrun, hended, hW, hsame⟩ := X3.leave (v := some (.int (1 : Int32))) (fun h => by rw [Bd.returns] at h; cases h)
    have hv6 : (f4 o1 w1) = (1 : Int32) := by rw [f4, if_pos ha12_5]
    refine ⟨_, _, pre4 _ ?_, hrun, hended, _, _, rfl, ?_, ⟨_, rfl⟩, hW, hsame.mono (by decide) (by decide)⟩
    · show Steps p.tables e below (T3.setTop (mkF m 12 #[.val (.ref o0), .val (.ref o1)] [(.ref o1), (.ref w1)])) _
      refine Jvm.RoadKit.acmp (g := (mkF m 12 #[.val (.ref o0), .val (.ref o1)] [(.ref o1), (.ref w1)])) X3 hx rfl rfl rfl (pc0 := 12) (pc' := 15) (same := true) rfl (hb hby d4_12) rfl (decide_eq_true (congrArg Value.ref ha12_5)) (by decide) (by decide) ?_
      show Steps p.tables e below (T3.setTop (mkF m 15 #[.val (.ref o0), .val (.ref o1)] [])) _
      refine XS.iconst X3.here hx rfl (hb hby d4_15) ?_
      show Steps p.tables e below (T3.setTop (mkF m 16 #[.val (.ref o0), .val (.ref o1)] [(.int (1 : Int32))])) _
      refine XS.goto X3.here hx rfl (pc0 := 16) (pc' := 20) rfl (hb hby d4_16) (by decide) (by decide) ?_
      show Steps p.tables e below (T3.setTop (mkF m 20 #[.val (.ref o0), .val (.ref o1)] [(.int (1 : Int32))])) _
      exact retN X3 hx (t := .boolean) Bd.returns (by simp) (hb hby d4_20) hr
    · show Q4 Z o0 o1 w1 h0 n0 _ T3.heap _
      rw [e3]
      exact ⟨congrArg (fun q => some (Value.int q)) hv6.symm, N0, rfl⟩
  · obtain ⟨fs, hr, hrun, hended, hW, hsame⟩ := X3.leave (v := some (.int (0 : Int32))) (fun h => by rw [Bd.returns] at h; cases h)
    have hv7 : (f4 o1 w1) = (0 : Int32) := by rw [f4, if_neg ha12_5]
    refine ⟨_, _, pre4 _ ?_, hrun, hended, _, _, rfl, ?_, ⟨_, rfl⟩, hW, hsame.mono (by decide) (by decide)⟩
    · show Steps p.tables e below (T3.setTop (mkF m 12 #[.val (.ref o0), .val (.ref o1)] [(.ref o1), (.ref w1)])) _
      refine Jvm.RoadKit.acmp (g := (mkF m 12 #[.val (.ref o0), .val (.ref o1)] [(.ref o1), (.ref w1)])) X3 hx rfl rfl rfl (pc0 := 12) (pc' := 19) (same := false) rfl (hb hby d4_12) rfl (decide_eq_false fun q => ha12_5 (Value.ref.inj q)) (by decide) (by decide) ?_
      show Steps p.tables e below (T3.setTop (mkF m 19 #[.val (.ref o0), .val (.ref o1)] [])) _
      refine XS.iconst X3.here hx rfl (hb hby d4_19) ?_
      show Steps p.tables e below (T3.setTop (mkF m 20 #[.val (.ref o0), .val (.ref o1)] [(.int (0 : Int32))])) _
      exact retN X3 hx (t := .boolean) Bd.returns (by simp) (hb hby d4_20) hr
    · show Q4 Z o0 o1 w1 h0 n0 _ T3.heap _
      rw [e3]
      exact ⟨congrArg (fun q => some (Value.int q)) hv7.symm, N0, rfl⟩
theorem pn_4n : plainName "com/example/sekhem/sekhem/model/Effects" = true := by first | (simp [plainName, overriddenIn]; done) | decide +kernel
theorem ef_4n (m : MethodId) (x0 : Addr) (x1 : Addr) : entryFrame m #[(.ref x0), (.ref x1)] 2 = mkF m 0 #[.val (.ref x0), .val (.ref x1)] [] := by first | (simp [entryFrame, mkF, argsToLocals, Value.category]; done) | rfl
def Q4n (Z : State) (o0 : Addr) (o1 : Addr) (h0 : Heap) (n0 : Nat) (v : Option Value) (h : Heap) (L : List Loc) : Prop := v = some (.int (1 : Int32)) ∧ Fr n0 L ∧ h = h0
set_option maxRecDepth 65536 in
set_option maxHeartbeats 40000000 in
theorem rm4n (l : Launch) (Z : State) (a0 : Array Value) (hw : ∀ d ∈ tables_1, d.before a0 Z = true) (ws : List Jvm.Cond) (o0 : Addr) (o1 : Addr) (h0 : Heap) (n0 : Nat) (Z0 : n0 ≤ h0.size) (F_when_o0 : Fld Z h0 o0 "com/example/sekhem/sekhem/model/Effects" "when" "Lcom/example/sekhem/sekhem/model/Stance;" .null) :
    MetFree l (⟨"com/example/sekhem/sekhem/model/Effects", "countIn", "(Lcom/example/sekhem/sekhem/model/Stance;)Z"⟩ : MethodName) (head1 (Jvm.Cond.code (⟨"com/example/sekhem/sekhem/model/Effects", "countIn", "(Lcom/example/sekhem/sekhem/model/Stance;)Z"⟩ : MethodName) prog_40_method_2_code 2 (some .boolean) :: ws) ({ frames := 0, cells := 0, slots := 0, locals := 0 } : Room)) (fun a U => a = #[(.ref o0), (.ref o1)] ∧ Z.Warmed39 U.vm ∧ U.heap = h0) (fun _ _ _ _ _ => True) (fun _ U o U' => ∃ v L, o = .returned v ∧ Q4n Z o0 o1 h0 n0 v U'.heap L ∧ FrameEnd U o U' L ({ frames := 0, cells := 0, slots := 0, locals := 0 } : Room).cells ({ frames := 0, cells := 0, slots := 0, locals := 0 } : Room).slots) := by
  refine MetFree.of_bodySF (plainFor_of_name pn_4n) hisR ?_
  intro p e s m args below meth c s₁ Bd hml0 hP hK
  obtain ⟨rfl, hZ, hh⟩ := hP
  have hx := Bd.exec
  have hby := Bd.bytes
  have hml : c.maxLocals = 2 := hml0
  have hown : s.vm.findClass "com/example/sekhem/sekhem/model/Effects" = some m.cls := findClass_of_methodNamed Bd.named
  have hnm := (name_of_methodNamed Bd.named Bd.method).1
  have X0 : Stand p l e ({ frames := 0, cells := 0, slots := 0, locals := 0 } : Room) s m #[(.ref o0), (.ref o1)] below meth c s₁ [] 0 0 := Stand.of_body Bd
  have e0 : s₁.heap = h0 := by rw [← hh, Bd.state]; rfl
  have N0 := Fr.nil n0
  have pre0 : ∀ t, Steps p.tables e below (s₁.setTop (mkF m 0 #[.val (.ref o0), .val (.ref o1)] [])) t → Steps p.tables e below (s₁.setTop (entryFrame m #[(.ref o0), (.ref o1)] 2)) t := fun t k => castTop (ef_4n m o0 o1) k
  obtain ⟨T1, X1, e1, st1⟩ := getF X0 hx hZ hown (host := "") (Or.inl (hw _ (List.mem_of_getElem? (i := 24) rfl))) Via.refl e0 F_when_o0 (g := (mkF m 1 #[.val (.ref o0), .val (.ref o1)] [(.ref o0)])) rfl rfl (hb hby d4_1)
  obtain ⟨fs, hr, hrun, hended, hW, hsame⟩ := X1.leave (v := some (.int (1 : Int32))) (fun h => by rw [Bd.returns] at h; cases h)
  have hv2 : (1 : Int32) = (1 : Int32) := rfl
  refine ⟨_, _, pre0 _ ?_, hrun, hended, _, _, rfl, ?_, ⟨_, rfl⟩, hW, hsame.mono (by decide) (by decide)⟩
  · show Steps p.tables e below (s₁.setTop (mkF m 0 #[.val (.ref o0), .val (.ref o1)] [])) _
    refine XS.aloadN X0.here hx rfl (hb hby d4_0) rfl rfl ?_
    show Steps p.tables e below (s₁.setTop (mkF m 1 #[.val (.ref o0), .val (.ref o1)] [(.ref o0)])) _
    refine st1 _ ?_
    show Steps p.tables e below (T1.setTop (mkF m 4 #[.val (.ref o0), .val (.ref o1)] [.null])) _
    refine XS.ifnullYes X1.here hx rfl (pc0 := 4) (pc' := 15) rfl (hb hby d4_4) rfl (by decide) (by decide) ?_
    show Steps p.tables e below (T1.setTop (mkF m 15 #[.val (.ref o0), .val (.ref o1)] [])) _
    refine XS.iconst X1.here hx rfl (hb hby d4_15) ?_
    show Steps p.tables e below (T1.setTop (mkF m 16 #[.val (.ref o0), .val (.ref o1)] [(.int (1 : Int32))])) _
    refine XS.goto X1.here hx rfl (pc0 := 16) (pc' := 20) rfl (hb hby d4_16) (by decide) (by decide) ?_
    show Steps p.tables e below (T1.setTop (mkF m 20 #[.val (.ref o0), .val (.ref o1)] [(.int (1 : Int32))])) _
    exact retN X1 hx (t := .boolean) Bd.returns (by simp) (hb hby d4_20) hr
  · show Q4n Z o0 o1 h0 n0 _ T1.heap _
    rw [e1]
    exact ⟨congrArg (fun q => some (Value.int q)) hv2.symm, N0, rfl⟩
theorem pn_0 : plainName "com/example/sekhem/sekhem/model/EffectsCountInPinLaw" = true := by first | (simp [plainName, overriddenIn]; done) | decide +kernel
theorem pd_0_0 : parseMethodDescriptor "(IIILcom/example/sekhem/sekhem/model/Stance;IIII)V" = some ⟨[.int, .int, .int, (.object "com/example/sekhem/sekhem/model/Stance"), .int, .int, .int, .int], none⟩ := by decide +kernel
theorem pd_0_1 : parseMethodDescriptor "(Lcom/example/sekhem/sekhem/model/Stance;)Z" = some ⟨[(.object "com/example/sekhem/sekhem/model/Stance")], some .boolean⟩ := by decide +kernel
theorem ef_0 (m : MethodId) (x0 : Int32) (x1 : Int32) (x2 : Int32) (x3 : Int32) (x4 : Int32) (x5 : Int32) : entryFrame m #[(.int x0), (.int x1), (.int x2), (.int x3), (.int x4), (.int x5)] maxLocals = mkF m 0 #[.val (.int x0), .val (.int x1), .val (.int x2), .val (.int x3), .val (.int x4), .val (.int x5), .unset, .unset, .unset, .unset, .unset, .unset] [] := by first | (simp [entryFrame, mkF, argsToLocals, Value.category, maxLocals]; done) | rfl
def e0_1 (p3 : Int32) : Int32 := ((p3 &&& (2147483647 : Int32)) - ((p3 &&& (2147483647 : Int32)) / (3 : Int32)) * (3 : Int32))
theorem own_eqi {args : Array Value} {s : State} {t : Term} {k : Int32} (h : (Jvm.Cond.eq t (.int k)).value args s none s [] = some true) : t.eval args s none [] s = some (.int k) := by
  obtain ⟨x, y, h1, h2, h3, h4⟩ := cmp_v (Or.inl h)
  have h2' : some (Value.int k) = some y := h2
  cases h2'
  obtain ⟨z, rfl⟩ := h4
  simp only [Jvm.Cond.value, h1, h2] at h
  simp at h
  rw [h1, h]
def Q0 (Z : State) (p0 : Int32) (p1 : Int32) (p2 : Int32) (p3 : Int32) (p4 : Int32) (p5 : Int32) (c0 : Addr) (c1 : Addr) (h0 : Heap) (n0 : Nat) (v : Option Value) (h : Heap) (L : List Loc) : Prop := v = some (.int (1 : Int32)) ∧ Fr n0 L
set_option maxRecDepth 65536 in
set_option maxHeartbeats 40000000 in
theorem rm0 (l : Launch) (Z : State) (a0 : Array Value) (hw : ∀ d ∈ tables_1, d.before a0 Z = true) (ws : List Jvm.Cond) (p0 : Int32) (p1 : Int32) (p2 : Int32) (p3 : Int32) (p4 : Int32) (p5 : Int32) (c0 : Addr) (c1 : Addr) (h0 : Heap) (n0 : Nat) (Z0 : n0 ≤ h0.size) (S_ATTACKING : Sta Z h0 "com/example/sekhem/sekhem/model/Stance" "ATTACKING" "Lcom/example/sekhem/sekhem/model/Stance;" (.ref c0)) (S_DEFENDING : Sta Z h0 "com/example/sekhem/sekhem/model/Stance" "DEFENDING" "Lcom/example/sekhem/sekhem/model/Stance;" (.ref c1)) (E_c0 : Exa Z h0 c0 "com/example/sekhem/sekhem/model/Stance") (E_c1 : Exa Z h0 c1 "com/example/sekhem/sekhem/model/Stance") (ne_c0_c1 : c0 ≠ c1) :
    MetFree l x (head1 (Jvm.Cond.code x code maxLocals ret :: ws) room_1) (fun a U => a = #[(.int p0), (.int p1), (.int p2), (.int p3), (.int p4), (.int p5)] ∧ Z.Warmed39 U.vm ∧ U.heap = h0) (fun _ _ _ _ _ => True) (fun _ U o U' => ∃ v L, o = .returned v ∧ Q0 Z p0 p1 p2 p3 p4 p5 c0 c1 h0 n0 v U'.heap L ∧ FrameEnd U o U' L room_1.cells room_1.slots) := by
  refine MetFree.of_bodySF (plainFor_of_name pn_0) hisR ?_
  intro p e s m args below meth c s₁ Bd hml0 hP hK
  obtain ⟨rfl, hZ, hh⟩ := hP
  have hx := Bd.exec
  have hby := Bd.bytes
  have hml : c.maxLocals = 12 := hml0
  have hown : s.vm.findClass "com/example/sekhem/sekhem/model/EffectsCountInPinLaw" = some m.cls := findClass_of_methodNamed Bd.named
  have hnm := (name_of_methodNamed Bd.named Bd.method).1
  have X0 : Stand p l e room_1 s m #[(.int p0), (.int p1), (.int p2), (.int p3), (.int p4), (.int p5)] below meth c s₁ [] 0 0 := Stand.of_body Bd
  have e0 : s₁.heap = h0 := by rw [← hh, Bd.state]; rfl
  have N0 := Fr.nil n0
  have pre0 : ∀ t, Steps p.tables e below (s₁.setTop (mkF m 0 #[.val (.int p0), .val (.int p1), .val (.int p2), .val (.int p3), .val (.int p4), .val (.int p5), .unset, .unset, .unset, .unset, .unset, .unset] [])) t → Steps p.tables e below (s₁.setTop (entryFrame m #[(.int p0), (.int p1), (.int p2), (.int p3), (.int p4), (.int p5)] maxLocals)) t := fun t k => castTop (ef_0 m p0 p1 p2 p3 p4 p5) k
  have pre1 : ∀ t, Steps p.tables e below (s₁.setTop (mkF m 10 #[.val (.int p0), .val (.int p1), .val (.int p2), .val (.int p3), .val (.int p4), .val (.int p5), .val (.int (e0_1 p3)), .unset, .unset, .unset, .unset, .unset] [(.int (e0_1 p3))])) t → Steps p.tables e below (s₁.setTop (entryFrame m #[(.int p0), (.int p1), (.int p2), (.int p3), (.int p4), (.int p5)] maxLocals)) t := fun t kt => pre0 t (by
      show Steps p.tables e below (s₁.setTop (mkF m 0 #[.val (.int p0), .val (.int p1), .val (.int p2), .val (.int p3), .val (.int p4), .val (.int p5), .unset, .unset, .unset, .unset, .unset, .unset] [])) _
      refine XS.iloadN X0.here hx rfl (hb hby at_0) rfl ?_
      show Steps p.tables e below (s₁.setTop (mkF m 1 #[.val (.int p0), .val (.int p1), .val (.int p2), .val (.int p3), .val (.int p4), .val (.int p5), .unset, .unset, .unset, .unset, .unset, .unset] [(.int p3)])) _
      refine X0.ldcInt hx hown (mvT hZ (hw _ (List.mem_of_getElem? (i := 0) rfl))) (g := (mkF m 1 #[.val (.int p0), .val (.int p1), .val (.int p2), .val (.int p3), .val (.int p4), .val (.int p5), .unset, .unset, .unset, .unset, .unset, .unset] [(.int p3)])) rfl (hb hby at_1) _ ?_
      show Steps p.tables e below (s₁.setTop (mkF m 3 #[.val (.int p0), .val (.int p1), .val (.int p2), .val (.int p3), .val (.int p4), .val (.int p5), .unset, .unset, .unset, .unset, .unset, .unset] [(.int (2147483647 : Int32)), (.int p3)])) _
      refine XS.iand X0.here hx rfl (hb hby at_3) rfl ?_
      show Steps p.tables e below (s₁.setTop (mkF m 4 #[.val (.int p0), .val (.int p1), .val (.int p2), .val (.int p3), .val (.int p4), .val (.int p5), .unset, .unset, .unset, .unset, .unset, .unset] [(.int (p3 &&& (2147483647 : Int32)))])) _
      refine XS.iconst X0.here hx rfl (hb hby at_4) ?_
      show Steps p.tables e below (s₁.setTop (mkF m 5 #[.val (.int p0), .val (.int p1), .val (.int p2), .val (.int p3), .val (.int p4), .val (.int p5), .unset, .unset, .unset, .unset, .unset, .unset] [(.int (3 : Int32)), (.int (p3 &&& (2147483647 : Int32)))])) _
      refine XS.irem X0.here hx rfl (hb hby at_5) rfl (by decide) ?_
      show Steps p.tables e below (s₁.setTop (mkF m 6 #[.val (.int p0), .val (.int p1), .val (.int p2), .val (.int p3), .val (.int p4), .val (.int p5), .unset, .unset, .unset, .unset, .unset, .unset] [(.int ((p3 &&& (2147483647 : Int32)) - ((p3 &&& (2147483647 : Int32)) / (3 : Int32)) * (3 : Int32)))])) _
      refine XS.istore X0.here hx rfl (hb hby at_6) rfl (l' := #[.val (.int p0), .val (.int p1), .val (.int p2), .val (.int p3), .val (.int p4), .val (.int p5), .val (.int (e0_1 p3)), .unset, .unset, .unset, .unset, .unset]) rfl ?_
      show Steps p.tables e below (s₁.setTop (mkF m 8 #[.val (.int p0), .val (.int p1), .val (.int p2), .val (.int p3), .val (.int p4), .val (.int p5), .val (.int (e0_1 p3)), .unset, .unset, .unset, .unset, .unset] [])) _
      refine XS.iload X0.here hx rfl (hb hby at_8) rfl ?_
      exact kt)
  by_cases hc10_2 : (e0_1 p3) = (0 : Int32)
  · have pre3 : ∀ t, Steps p.tables e below (s₁.setTop (mkF m 38 #[.val (.int p0), .val (.int p1), .val (.int p2), .val (.int p3), .val (.int p4), .val (.int p5), .val (.int (e0_1 p3)), .val .null, .unset, .unset, .unset, .unset] [(.int (p4 &&& (1 : Int32)))])) t → Steps p.tables e below (s₁.setTop (entryFrame m #[(.int p0), (.int p1), (.int p2), (.int p3), (.int p4), (.int p5)] maxLocals)) t := fun t kt => pre1 t (by
        show Steps p.tables e below (s₁.setTop (mkF m 10 #[.val (.int p0), .val (.int p1), .val (.int p2), .val (.int p3), .val (.int p4), .val (.int p5), .val (.int (e0_1 p3)), .unset, .unset, .unset, .unset, .unset] [(.int (e0_1 p3))])) _
        refine XS.ifNo X0.here hx rfl (hb hby at_10) rfl ((if0 _ _).trans (teq hc10_2).2) ?_
        show Steps p.tables e below (s₁.setTop (mkF m 13 #[.val (.int p0), .val (.int p1), .val (.int p2), .val (.int p3), .val (.int p4), .val (.int p5), .val (.int (e0_1 p3)), .unset, .unset, .unset, .unset, .unset] [])) _
        refine XS.aconstNull X0.here hx rfl (hb hby at_13) ?_
        show Steps p.tables e below (s₁.setTop (mkF m 14 #[.val (.int p0), .val (.int p1), .val (.int p2), .val (.int p3), .val (.int p4), .val (.int p5), .val (.int (e0_1 p3)), .unset, .unset, .unset, .unset, .unset] [.null])) _
        refine XS.goto X0.here hx rfl (pc0 := 14) (pc' := 32) rfl (hb hby at_14) (by decide) (by decide) ?_
        show Steps p.tables e below (s₁.setTop (mkF m 32 #[.val (.int p0), .val (.int p1), .val (.int p2), .val (.int p3), .val (.int p4), .val (.int p5), .val (.int (e0_1 p3)), .unset, .unset, .unset, .unset, .unset] [.null])) _
        refine XS.astore X0.here hx rfl (hb hby at_32) rfl rfl (l' := #[.val (.int p0), .val (.int p1), .val (.int p2), .val (.int p3), .val (.int p4), .val (.int p5), .val (.int (e0_1 p3)), .val .null, .unset, .unset, .unset, .unset]) rfl ?_
        show Steps p.tables e below (s₁.setTop (mkF m 34 #[.val (.int p0), .val (.int p1), .val (.int p2), .val (.int p3), .val (.int p4), .val (.int p5), .val (.int (e0_1 p3)), .val .null, .unset, .unset, .unset, .unset] [])) _
        refine XS.iload X0.here hx rfl (hb hby at_34) rfl ?_
        show Steps p.tables e below (s₁.setTop (mkF m 36 #[.val (.int p0), .val (.int p1), .val (.int p2), .val (.int p3), .val (.int p4), .val (.int p5), .val (.int (e0_1 p3)), .val .null, .unset, .unset, .unset, .unset] [(.int p4)])) _
        refine XS.iconst X0.here hx rfl (hb hby at_36) ?_
        show Steps p.tables e below (s₁.setTop (mkF m 37 #[.val (.int p0), .val (.int p1), .val (.int p2), .val (.int p3), .val (.int p4), .val (.int p5), .val (.int (e0_1 p3)), .val .null, .unset, .unset, .unset, .unset] [(.int (1 : Int32)), (.int p4)])) _
        refine XS.iand X0.here hx rfl (hb hby at_37) rfl ?_
        exact kt)
    by_cases hc38_4 : (p4 &&& (1 : Int32)) = (0 : Int32)
    · have pre5 : ∀ t, Steps p.tables e below (s₁.setTop (mkF m 50 #[.val (.int p0), .val (.int p1), .val (.int p2), .val (.int p3), .val (.int p4), .val (.int p5), .val (.int (e0_1 p3)), .val .null, .val (.int (1 : Int32)), .unset, .unset, .unset] [(.int (1 : Int32))])) t → Steps p.tables e below (s₁.setTop (entryFrame m #[(.int p0), (.int p1), (.int p2), (.int p3), (.int p4), (.int p5)] maxLocals)) t := fun t kt => pre3 t (by
          show Steps p.tables e below (s₁.setTop (mkF m 38 #[.val (.int p0), .val (.int p1), .val (.int p2), .val (.int p3), .val (.int p4), .val (.int p5), .val (.int (e0_1 p3)), .val .null, .unset, .unset, .unset, .unset] [(.int (p4 &&& (1 : Int32)))])) _
          refine XS.ifNo X0.here hx rfl (hb hby at_38) rfl ((if0 _ _).trans (teq hc38_4).2) ?_
          show Steps p.tables e below (s₁.setTop (mkF m 41 #[.val (.int p0), .val (.int p1), .val (.int p2), .val (.int p3), .val (.int p4), .val (.int p5), .val (.int (e0_1 p3)), .val .null, .unset, .unset, .unset, .unset] [])) _
          refine XS.iconst X0.here hx rfl (hb hby at_41) ?_
          show Steps p.tables e below (s₁.setTop (mkF m 42 #[.val (.int p0), .val (.int p1), .val (.int p2), .val (.int p3), .val (.int p4), .val (.int p5), .val (.int (e0_1 p3)), .val .null, .unset, .unset, .unset, .unset] [(.int (1 : Int32))])) _
          refine XS.goto X0.here hx rfl (pc0 := 42) (pc' := 46) rfl (hb hby at_42) (by decide) (by decide) ?_
          show Steps p.tables e below (s₁.setTop (mkF m 46 #[.val (.int p0), .val (.int p1), .val (.int p2), .val (.int p3), .val (.int p4), .val (.int p5), .val (.int (e0_1 p3)), .val .null, .unset, .unset, .unset, .unset] [(.int (1 : Int32))])) _
          refine XS.istore X0.here hx rfl (hb hby at_46) rfl (l' := #[.val (.int p0), .val (.int p1), .val (.int p2), .val (.int p3), .val (.int p4), .val (.int p5), .val (.int (e0_1 p3)), .val .null, .val (.int (1 : Int32)), .unset, .unset, .unset]) rfl ?_
          show Steps p.tables e below (s₁.setTop (mkF m 48 #[.val (.int p0), .val (.int p1), .val (.int p2), .val (.int p3), .val (.int p4), .val (.int p5), .val (.int (e0_1 p3)), .val .null, .val (.int (1 : Int32)), .unset, .unset, .unset] [])) _
          refine XS.iload X0.here hx rfl (hb hby at_48) rfl ?_
          exact kt)
      obtain ⟨T6, X6, e6, st6⟩ := getS2 X0 hx hZ hown (host := "") (Or.inl (hw _ (List.mem_of_getElem? (i := 1) rfl))) Via.refl e0 S_ATTACKING (g := (mkF m 53 #[.val (.int p0), .val (.int p1), .val (.int p2), .val (.int p3), .val (.int p4), .val (.int p5), .val (.int (e0_1 p3)), .val .null, .val (.int (1 : Int32)), .unset, .unset, .unset] [])) rfl (hb hby at_53)
      obtain ⟨T7, h7, X7, e7, E7, A7, D7, -, st7⟩ := newO X6 hx hZ hown (hw _ (List.mem_of_getElem? (i := 4) rfl)) (hw _ (List.mem_of_getElem? (i := 5) rfl)) (hw _ (List.mem_of_getElem? (i := 6) rfl)) e6 (g := (mkF m 64 #[.val (.int p0), .val (.int p1), .val (.int p2), .val (.int p3), .val (.int p4), .val (.int p5), .val (.int (e0_1 p3)), .val .null, .val (.int (1 : Int32)), .val (.ref c0), .unset, .unset] [])) rfl (hb hby at_64) (by decide) (by decide)
      obtain ⟨b7, g7⟩ : ∃ z, z = h0.size := ⟨_, rfl⟩
      rw [← g7] at A7 D7 st7
      have g_b7 : n0 ≤ b7 := Nat.le_trans Z0 (Nat.le_of_eq g7.symm)
      have sz_b7 : h0.size ≤ b7 := Nat.le_trans (Keep.refl h0 []).1 (Nat.le_of_eq g7.symm)
      have ne_c0_b7 : c0 ≠ b7 := Nat.ne_of_lt (Nat.lt_of_lt_of_le E_c0.lt (Nat.le_of_eq g7.symm))
      have ne_c1_b7 : c1 ≠ b7 := Nat.ne_of_lt (Nat.lt_of_lt_of_le E_c1.lt (Nat.le_of_eq g7.symm))
      have K8 : Keep h0 h7 [] := (Keep.refl h0 []).ext E7
      have Z9 : n0 ≤ h7.size := Nat.le_trans Z0 K8.1
      have E_b7 := A7
      have F_strength_b7 : Fld Z h7 b7 "com/example/sekhem/sekhem/model/Effects" "strength" "I" (.int (0 : Int32)) := D7 (Or.inr (hw _ (List.mem_of_getElem? (i := 19) rfl))) (ty := .int) (by decide)
      have F_defence_b7 : Fld Z h7 b7 "com/example/sekhem/sekhem/model/Effects" "defence" "I" (.int (0 : Int32)) := D7 (Or.inr (hw _ (List.mem_of_getElem? (i := 21) rfl))) (ty := .int) (by decide)
      have F_damage_b7 : Fld Z h7 b7 "com/example/sekhem/sekhem/model/Effects" "damage" "I" (.int (0 : Int32)) := D7 (Or.inr (hw _ (List.mem_of_getElem? (i := 23) rfl))) (ty := .int) (by decide)
      have F_when_b7 : Fld Z h7 b7 "com/example/sekhem/sekhem/model/Effects" "when" "Lcom/example/sekhem/sekhem/model/Stance;" .null := D7 (Or.inr (hw _ (List.mem_of_getElem? (i := 25) rfl))) (ty := (.object "com/example/sekhem/sekhem/model/Stance")) (by decide)
      have F_moves_b7 : Fld Z h7 b7 "com/example/sekhem/sekhem/model/Effects" "moves" "I" (.int (0 : Int32)) := D7 (Or.inr (hw _ (List.mem_of_getElem? (i := 27) rfl))) (ty := .int) (by decide)
      have F_vp_b7 : Fld Z h7 b7 "com/example/sekhem/sekhem/model/Effects" "vp" "I" (.int (0 : Int32)) := D7 (Or.inr (hw _ (List.mem_of_getElem? (i := 29) rfl))) (ty := .int) (by decide)
      have F_nightPrayer_b7 : Fld Z h7 b7 "com/example/sekhem/sekhem/model/Effects" "nightPrayer" "I" (.int (0 : Int32)) := D7 (Or.inr (hw _ (List.mem_of_getElem? (i := 31) rfl))) (ty := .int) (by decide)
      have F_prayer_b7 : Fld Z h7 b7 "com/example/sekhem/sekhem/model/Effects" "prayer" "I" (.int (0 : Int32)) := D7 (Or.inr (hw _ (List.mem_of_getElem? (i := 33) rfl))) (ty := .int) (by decide)
      obtain ⟨_, _, ⟨T10, L10, k10, n10⟩, -, X10, ⟨Lc10, hQ10, l10, y10, z10⟩, st10⟩ := X7.specialBack hx (y := (⟨"com/example/sekhem/sekhem/model/Effects", "<init>", "(IIILcom/example/sekhem/sekhem/model/Stance;IIII)V"⟩ : MethodName)) rfl hown (mvT hZ (hw _ (List.mem_of_getElem? (i := 7) rfl))) (mvT hZ (hw _ (List.mem_of_getElem? (i := 8) rfl))) (mvT hZ (hw _ (List.mem_of_getElem? (i := 9) rfl))) (by decide) (backOf (W := 1) (rm1n l Z a0 hw [] b7 p0 p1 p2 p5 (p5 ^^^ (-1 : Int32)) (p0 ^^^ p5) (p1 - p5) (0 : Int32) (0 : Int32) (0 : Int32) (0 : Int32) (0 : Int32) (0 : Int32) (0 : Int32) h7 n0 Z9 E_b7 F_strength_b7 g_b7 F_defence_b7 F_damage_b7 F_when_b7 F_moves_b7 F_vp_b7 F_nightPrayer_b7 F_prayer_b7) hZ (hw _ (List.mem_of_getElem? (i := 9) rfl)) (hw _ (List.mem_of_getElem? (i := 6) rfl)) (by decide) (by decide)) (g := (mkF m 87 #[.val (.int p0), .val (.int p1), .val (.int p2), .val (.int p3), .val (.int p4), .val (.int p5), .val (.int (e0_1 p3)), .val .null, .val (.int (1 : Int32)), .val (.ref c0), .unset, .unset] [(.int (p1 - p5)), (.int (p0 ^^^ p5)), (.int (p5 ^^^ (-1 : Int32))), (.int p5), .null, (.int p2), (.int p1), (.int p0), (.ref b7), (.ref b7)])) rfl (by rw [hml]; rfl) (Steps.refl _) (a := b7) (argsL := [(.int p0), (.int p1), (.int p2), .null, (.int p5), (.int (p5 ^^^ (-1 : Int32))), (.int (p0 ^^^ p5)), (.int (p1 - p5))]) (rest := [(.ref b7)]) (lenOf pd_0_0 rfl) rfl (by show 2 * 0 + _ ≤ _; exact Nat.le_of_eq rfl) (hb hby at_87) (fun _ _ => ⟨rfl, e7, (by decide : 1 + 0 ≤ _), (by decide : 8 + 0 ≤ _)⟩)
      dsimp only [Pt.U, Pt.locs, Pt.cells, Pt.slots] at X10 l10 y10 z10 st10 hQ10
      subst l10 y10 z10
      obtain ⟨rfl, N10q, K10q, G10_0, G10_1, G10_2, G10_3, G10_4, G10_5, G10_6, G10_7⟩ := hQ10
      have N10 := Fr.app N0 N10q
      have K11 : Keep h0 T10.heap [] := K8.trans K10q (allS (Or.inr sz_b7) all0)
      have Z12 : n0 ≤ T10.heap.size := Nat.le_trans Z0 K11.1
      obtain ⟨LS10, X10, N10⟩ : ∃ L, Stand p l e room_1 s m #[(.int p0), (.int p1), (.int p2), (.int p3), (.int p4), (.int p5)] below meth c T10 L 1 8 ∧ Fr n0 L := ⟨_, X10, N10⟩
      have pre13 : ∀ t, Steps p.tables e below (T10.setTop (mkF m 94 #[.val (.int p0), .val (.int p1), .val (.int p2), .val (.int p3), .val (.int p4), .val (.int p5), .val (.int (e0_1 p3)), .val .null, .val (.int (1 : Int32)), .val (.ref c0), .val (.ref b7), .unset] [(.int (e0_1 p3))])) t → Steps p.tables e below (s₁.setTop (entryFrame m #[(.int p0), (.int p1), (.int p2), (.int p3), (.int p4), (.int p5)] maxLocals)) t := fun t kt => pre5 t (by
          show Steps p.tables e below (s₁.setTop (mkF m 50 #[.val (.int p0), .val (.int p1), .val (.int p2), .val (.int p3), .val (.int p4), .val (.int p5), .val (.int (e0_1 p3)), .val .null, .val (.int (1 : Int32)), .unset, .unset, .unset] [(.int (1 : Int32))])) _
          refine XS.ifNo X0.here hx rfl (hb hby at_50) rfl ((if0 _ _).trans (feq (by decide : ¬ ((1 : Int32) = (0 : Int32)))).1) ?_
          show Steps p.tables e below (s₁.setTop (mkF m 53 #[.val (.int p0), .val (.int p1), .val (.int p2), .val (.int p3), .val (.int p4), .val (.int p5), .val (.int (e0_1 p3)), .val .null, .val (.int (1 : Int32)), .unset, .unset, .unset] [])) _
          refine st6 _ ?_
          show Steps p.tables e below (T6.setTop (mkF m 56 #[.val (.int p0), .val (.int p1), .val (.int p2), .val (.int p3), .val (.int p4), .val (.int p5), .val (.int (e0_1 p3)), .val .null, .val (.int (1 : Int32)), .unset, .unset, .unset] [(.ref c0)])) _
          refine XS.goto X6.here hx rfl (pc0 := 56) (pc' := 62) rfl (hb hby at_56) (by decide) (by decide) ?_
          show Steps p.tables e below (T6.setTop (mkF m 62 #[.val (.int p0), .val (.int p1), .val (.int p2), .val (.int p3), .val (.int p4), .val (.int p5), .val (.int (e0_1 p3)), .val .null, .val (.int (1 : Int32)), .unset, .unset, .unset] [(.ref c0)])) _
          refine XS.astore X6.here hx rfl (hb hby at_62) rfl rfl (l' := #[.val (.int p0), .val (.int p1), .val (.int p2), .val (.int p3), .val (.int p4), .val (.int p5), .val (.int (e0_1 p3)), .val .null, .val (.int (1 : Int32)), .val (.ref c0), .unset, .unset]) rfl ?_
          show Steps p.tables e below (T6.setTop (mkF m 64 #[.val (.int p0), .val (.int p1), .val (.int p2), .val (.int p3), .val (.int p4), .val (.int p5), .val (.int (e0_1 p3)), .val .null, .val (.int (1 : Int32)), .val (.ref c0), .unset, .unset] [])) _
          refine st7 _ ?_
          show Steps p.tables e below (T7.setTop (mkF m 67 #[.val (.int p0), .val (.int p1), .val (.int p2), .val (.int p3), .val (.int p4), .val (.int p5), .val (.int (e0_1 p3)), .val .null, .val (.int (1 : Int32)), .val (.ref c0), .unset, .unset] [(.ref b7)])) _
          refine XS.dup X7.here hx rfl (hb hby at_67) rfl rfl ?_
          show Steps p.tables e below (T7.setTop (mkF m 68 #[.val (.int p0), .val (.int p1), .val (.int p2), .val (.int p3), .val (.int p4), .val (.int p5), .val (.int (e0_1 p3)), .val .null, .val (.int (1 : Int32)), .val (.ref c0), .unset, .unset] [(.ref b7), (.ref b7)])) _
          refine XS.iloadN X7.here hx rfl (hb hby at_68) rfl ?_
          show Steps p.tables e below (T7.setTop (mkF m 69 #[.val (.int p0), .val (.int p1), .val (.int p2), .val (.int p3), .val (.int p4), .val (.int p5), .val (.int (e0_1 p3)), .val .null, .val (.int (1 : Int32)), .val (.ref c0), .unset, .unset] [(.int p0), (.ref b7), (.ref b7)])) _
          refine XS.iloadN X7.here hx rfl (hb hby at_69) rfl ?_
          show Steps p.tables e below (T7.setTop (mkF m 70 #[.val (.int p0), .val (.int p1), .val (.int p2), .val (.int p3), .val (.int p4), .val (.int p5), .val (.int (e0_1 p3)), .val .null, .val (.int (1 : Int32)), .val (.ref c0), .unset, .unset] [(.int p1), (.int p0), (.ref b7), (.ref b7)])) _
          refine XS.iloadN X7.here hx rfl (hb hby at_70) rfl ?_
          show Steps p.tables e below (T7.setTop (mkF m 71 #[.val (.int p0), .val (.int p1), .val (.int p2), .val (.int p3), .val (.int p4), .val (.int p5), .val (.int (e0_1 p3)), .val .null, .val (.int (1 : Int32)), .val (.ref c0), .unset, .unset] [(.int p2), (.int p1), (.int p0), (.ref b7), (.ref b7)])) _
          refine XS.aload X7.here hx rfl (hb hby at_71) rfl rfl ?_
          show Steps p.tables e below (T7.setTop (mkF m 73 #[.val (.int p0), .val (.int p1), .val (.int p2), .val (.int p3), .val (.int p4), .val (.int p5), .val (.int (e0_1 p3)), .val .null, .val (.int (1 : Int32)), .val (.ref c0), .unset, .unset] [.null, (.int p2), (.int p1), (.int p0), (.ref b7), (.ref b7)])) _
          refine XS.iload X7.here hx rfl (hb hby at_73) rfl ?_
          show Steps p.tables e below (T7.setTop (mkF m 75 #[.val (.int p0), .val (.int p1), .val (.int p2), .val (.int p3), .val (.int p4), .val (.int p5), .val (.int (e0_1 p3)), .val .null, .val (.int (1 : Int32)), .val (.ref c0), .unset, .unset] [(.int p5), .null, (.int p2), (.int p1), (.int p0), (.ref b7), (.ref b7)])) _
          refine XS.iload X7.here hx rfl (hb hby at_75) rfl ?_
          show Steps p.tables e below (T7.setTop (mkF m 77 #[.val (.int p0), .val (.int p1), .val (.int p2), .val (.int p3), .val (.int p4), .val (.int p5), .val (.int (e0_1 p3)), .val .null, .val (.int (1 : Int32)), .val (.ref c0), .unset, .unset] [(.int p5), (.int p5), .null, (.int p2), (.int p1), (.int p0), (.ref b7), (.ref b7)])) _
          refine XS.iconst X7.here hx rfl (hb hby at_77) ?_
          show Steps p.tables e below (T7.setTop (mkF m 78 #[.val (.int p0), .val (.int p1), .val (.int p2), .val (.int p3), .val (.int p4), .val (.int p5), .val (.int (e0_1 p3)), .val .null, .val (.int (1 : Int32)), .val (.ref c0), .unset, .unset] [(.int (-1 : Int32)), (.int p5), (.int p5), .null, (.int p2), (.int p1), (.int p0), (.ref b7), (.ref b7)])) _
          refine XS.ixor X7.here hx rfl (hb hby at_78) rfl ?_
          show Steps p.tables e below (T7.setTop (mkF m 79 #[.val (.int p0), .val (.int p1), .val (.int p2), .val (.int p3), .val (.int p4), .val (.int p5), .val (.int (e0_1 p3)), .val .null, .val (.int (1 : Int32)), .val (.ref c0), .unset, .unset] [(.int (p5 ^^^ (-1 : Int32))), (.int p5), .null, (.int p2), (.int p1), (.int p0), (.ref b7), (.ref b7)])) _
          refine XS.iloadN X7.here hx rfl (hb hby at_79) rfl ?_
          show Steps p.tables e below (T7.setTop (mkF m 80 #[.val (.int p0), .val (.int p1), .val (.int p2), .val (.int p3), .val (.int p4), .val (.int p5), .val (.int (e0_1 p3)), .val .null, .val (.int (1 : Int32)), .val (.ref c0), .unset, .unset] [(.int p0), (.int (p5 ^^^ (-1 : Int32))), (.int p5), .null, (.int p2), (.int p1), (.int p0), (.ref b7), (.ref b7)])) _
          refine XS.iload X7.here hx rfl (hb hby at_80) rfl ?_
          show Steps p.tables e below (T7.setTop (mkF m 82 #[.val (.int p0), .val (.int p1), .val (.int p2), .val (.int p3), .val (.int p4), .val (.int p5), .val (.int (e0_1 p3)), .val .null, .val (.int (1 : Int32)), .val (.ref c0), .unset, .unset] [(.int p5), (.int p0), (.int (p5 ^^^ (-1 : Int32))), (.int p5), .null, (.int p2), (.int p1), (.int p0), (.ref b7), (.ref b7)])) _
          refine XS.ixor X7.here hx rfl (hb hby at_82) rfl ?_
          show Steps p.tables e below (T7.setTop (mkF m 83 #[.val (.int p0), .val (.int p1), .val (.int p2), .val (.int p3), .val (.int p4), .val (.int p5), .val (.int (e0_1 p3)), .val .null, .val (.int (1 : Int32)), .val (.ref c0), .unset, .unset] [(.int (p0 ^^^ p5)), (.int (p5 ^^^ (-1 : Int32))), (.int p5), .null, (.int p2), (.int p1), (.int p0), (.ref b7), (.ref b7)])) _
          refine XS.iloadN X7.here hx rfl (hb hby at_83) rfl ?_
          show Steps p.tables e below (T7.setTop (mkF m 84 #[.val (.int p0), .val (.int p1), .val (.int p2), .val (.int p3), .val (.int p4), .val (.int p5), .val (.int (e0_1 p3)), .val .null, .val (.int (1 : Int32)), .val (.ref c0), .unset, .unset] [(.int p1), (.int (p0 ^^^ p5)), (.int (p5 ^^^ (-1 : Int32))), (.int p5), .null, (.int p2), (.int p1), (.int p0), (.ref b7), (.ref b7)])) _
          refine XS.iload X7.here hx rfl (hb hby at_84) rfl ?_
          show Steps p.tables e below (T7.setTop (mkF m 86 #[.val (.int p0), .val (.int p1), .val (.int p2), .val (.int p3), .val (.int p4), .val (.int p5), .val (.int (e0_1 p3)), .val .null, .val (.int (1 : Int32)), .val (.ref c0), .unset, .unset] [(.int p5), (.int p1), (.int (p0 ^^^ p5)), (.int (p5 ^^^ (-1 : Int32))), (.int p5), .null, (.int p2), (.int p1), (.int p0), (.ref b7), (.ref b7)])) _
          refine XS.isub X7.here hx rfl (hb hby at_86) rfl ?_
          show Steps p.tables e below (T7.setTop (mkF m 87 #[.val (.int p0), .val (.int p1), .val (.int p2), .val (.int p3), .val (.int p4), .val (.int p5), .val (.int (e0_1 p3)), .val .null, .val (.int (1 : Int32)), .val (.ref c0), .unset, .unset] [(.int (p1 - p5)), (.int (p0 ^^^ p5)), (.int (p5 ^^^ (-1 : Int32))), (.int p5), .null, (.int p2), (.int p1), (.int p0), (.ref b7), (.ref b7)])) _
          refine st10.trans ?_
          show Steps p.tables e below (T10.setTop (mkF m 90 #[.val (.int p0), .val (.int p1), .val (.int p2), .val (.int p3), .val (.int p4), .val (.int p5), .val (.int (e0_1 p3)), .val .null, .val (.int (1 : Int32)), .val (.ref c0), .unset, .unset] [(.ref b7)])) _
          refine XS.astore X10.here hx rfl (hb hby at_90) rfl rfl (l' := #[.val (.int p0), .val (.int p1), .val (.int p2), .val (.int p3), .val (.int p4), .val (.int p5), .val (.int (e0_1 p3)), .val .null, .val (.int (1 : Int32)), .val (.ref c0), .val (.ref b7), .unset]) rfl ?_
          show Steps p.tables e below (T10.setTop (mkF m 92 #[.val (.int p0), .val (.int p1), .val (.int p2), .val (.int p3), .val (.int p4), .val (.int p5), .val (.int (e0_1 p3)), .val .null, .val (.int (1 : Int32)), .val (.ref c0), .val (.ref b7), .unset] [])) _
          refine XS.iload X10.here hx rfl (hb hby at_92) rfl ?_
          exact kt)
      obtain ⟨cq14, kq14, q14a, q14b, q14c⟩ := isOf hZ rfl (E_b7.keep K10q)
      obtain ⟨_, _, ⟨T14, L14, k14, n14⟩, -, X14, ⟨Lc14, hQ14, l14, y14, z14⟩, st14⟩ := X10.virtualBack hx (y := (⟨"com/example/sekhem/sekhem/model/Effects", "countIn", "(Lcom/example/sekhem/sekhem/model/Stance;)Z"⟩ : MethodName)) (z := (⟨"com/example/sekhem/sekhem/model/Effects", "countIn", "(Lcom/example/sekhem/sekhem/model/Stance;)Z"⟩ : MethodName)) hown (mvT hZ (hw _ (List.mem_of_getElem? (i := 34) rfl))) (mvT hZ (hw _ (List.mem_of_getElem? (i := 35) rfl))) (notFace_of_selects (args := #[]) (mvT hZ (hw _ (List.mem_of_getElem? (i := 37) rfl)))) (mvT hZ (hw _ (List.mem_of_getElem? (i := 37) rfl))) (mvT hZ (hw _ (List.mem_of_getElem? (i := 36) rfl))) (by decide) (backOf (W := 0) (rm4n l Z a0 hw [] b7 c0 T10.heap n0 Z12 G10_3) hZ (hw _ (List.mem_of_getElem? (i := 38) rfl)) (hw _ (List.mem_of_getElem? (i := 6) rfl)) (by decide) (by decide)) q14a q14c (g := (mkF m 132 #[.val (.int p0), .val (.int p1), .val (.int p2), .val (.int p3), .val (.int p4), .val (.int p5), .val (.int (e0_1 p3)), .val .null, .val (.int (1 : Int32)), .val (.ref c0), .val (.ref b7), .val (.int (1 : Int32))] [(.ref c0), (.ref b7)])) rfl (by rw [hml]; rfl) (Steps.refl _) (argsL := [(.ref c0)]) (rest := []) (lenOf pd_0_1 rfl) rfl (by show 2 * 0 + _ ≤ _; exact Nat.le_of_eq rfl) (hb hby at_132) (fun _ _ => ⟨rfl, rfl, (by decide : 1 + 0 ≤ _), (by decide : 8 + 0 ≤ _)⟩)
      dsimp only [Pt.U, Pt.locs, Pt.cells, Pt.slots] at X14 l14 y14 z14 st14 hQ14
      subst l14 y14 z14
      obtain ⟨rfl, N14q, e14q⟩ := hQ14
      have N14 := Fr.app N10 N14q
      have pre15 : ∀ t, Steps p.tables e below (T14.setTop (mkF m 137 #[.val (.int p0), .val (.int p1), .val (.int p2), .val (.int p3), .val (.int p4), .val (.int p5), .val (.int (e0_1 p3)), .val .null, .val (.int (1 : Int32)), .val (.ref c0), .val (.ref b7), .val (.int (1 : Int32))] [(.int (1 : Int32)), (.int (1 : Int32))])) t → Steps p.tables e below (s₁.setTop (entryFrame m #[(.int p0), (.int p1), (.int p2), (.int p3), (.int p4), (.int p5)] maxLocals)) t := fun t kt => pre13 t (by
          show Steps p.tables e below (T10.setTop (mkF m 94 #[.val (.int p0), .val (.int p1), .val (.int p2), .val (.int p3), .val (.int p4), .val (.int p5), .val (.int (e0_1 p3)), .val .null, .val (.int (1 : Int32)), .val (.ref c0), .val (.ref b7), .unset] [(.int (e0_1 p3))])) _
          refine XS.ifNo X10.here hx rfl (hb hby at_94) rfl ((if0 _ _).trans (teq hc10_2).2) ?_
          show Steps p.tables e below (T10.setTop (mkF m 97 #[.val (.int p0), .val (.int p1), .val (.int p2), .val (.int p3), .val (.int p4), .val (.int p5), .val (.int (e0_1 p3)), .val .null, .val (.int (1 : Int32)), .val (.ref c0), .val (.ref b7), .unset] [])) _
          refine XS.iconst X10.here hx rfl (hb hby at_97) ?_
          show Steps p.tables e below (T10.setTop (mkF m 98 #[.val (.int p0), .val (.int p1), .val (.int p2), .val (.int p3), .val (.int p4), .val (.int p5), .val (.int (e0_1 p3)), .val .null, .val (.int (1 : Int32)), .val (.ref c0), .val (.ref b7), .unset] [(.int (1 : Int32))])) _
          refine XS.istore X10.here hx rfl (hb hby at_98) rfl (l' := #[.val (.int p0), .val (.int p1), .val (.int p2), .val (.int p3), .val (.int p4), .val (.int p5), .val (.int (e0_1 p3)), .val .null, .val (.int (1 : Int32)), .val (.ref c0), .val (.ref b7), .val (.int (1 : Int32))]) rfl ?_
          show Steps p.tables e below (T10.setTop (mkF m 100 #[.val (.int p0), .val (.int p1), .val (.int p2), .val (.int p3), .val (.int p4), .val (.int p5), .val (.int (e0_1 p3)), .val .null, .val (.int (1 : Int32)), .val (.ref c0), .val (.ref b7), .val (.int (1 : Int32))] [])) _
          refine XS.goto X10.here hx rfl (pc0 := 100) (pc' := 128) rfl (hb hby at_100) (by decide) (by decide) ?_
          show Steps p.tables e below (T10.setTop (mkF m 128 #[.val (.int p0), .val (.int p1), .val (.int p2), .val (.int p3), .val (.int p4), .val (.int p5), .val (.int (e0_1 p3)), .val .null, .val (.int (1 : Int32)), .val (.ref c0), .val (.ref b7), .val (.int (1 : Int32))] [])) _
          refine XS.aload X10.here hx rfl (hb hby at_128) rfl rfl ?_
          show Steps p.tables e below (T10.setTop (mkF m 130 #[.val (.int p0), .val (.int p1), .val (.int p2), .val (.int p3), .val (.int p4), .val (.int p5), .val (.int (e0_1 p3)), .val .null, .val (.int (1 : Int32)), .val (.ref c0), .val (.ref b7), .val (.int (1 : Int32))] [(.ref b7)])) _
          refine XS.aload X10.here hx rfl (hb hby at_130) rfl rfl ?_
          show Steps p.tables e below (T10.setTop (mkF m 132 #[.val (.int p0), .val (.int p1), .val (.int p2), .val (.int p3), .val (.int p4), .val (.int p5), .val (.int (e0_1 p3)), .val .null, .val (.int (1 : Int32)), .val (.ref c0), .val (.ref b7), .val (.int (1 : Int32))] [(.ref c0), (.ref b7)])) _
          refine st14.trans ?_
          show Steps p.tables e below (T14.setTop (mkF m 135 #[.val (.int p0), .val (.int p1), .val (.int p2), .val (.int p3), .val (.int p4), .val (.int p5), .val (.int (e0_1 p3)), .val .null, .val (.int (1 : Int32)), .val (.ref c0), .val (.ref b7), .val (.int (1 : Int32))] [(.int (1 : Int32))])) _
          refine XS.iload X14.here hx rfl (hb hby at_135) rfl ?_
          exact kt)
      obtain ⟨fs, hr, hrun, hended, hW, hsame⟩ := X14.leave (v := some (.int (1 : Int32))) (fun h => by rw [Bd.returns] at h; cases h)
      have hv89 : (1 : Int32) = (1 : Int32) := rfl
      refine ⟨_, _, pre15 _ ?_, hrun, hended, _, _, rfl, ?_, ⟨_, rfl⟩, hW, hsame.mono (by decide) (by decide)⟩
      · show Steps p.tables e below (T14.setTop (mkF m 137 #[.val (.int p0), .val (.int p1), .val (.int p2), .val (.int p3), .val (.int p4), .val (.int p5), .val (.int (e0_1 p3)), .val .null, .val (.int (1 : Int32)), .val (.ref c0), .val (.ref b7), .val (.int (1 : Int32))] [(.int (1 : Int32)), (.int (1 : Int32))])) _
        refine XS.icmpNo X14.here hx rfl (hb hby at_137) rfl (teq (by decide : ((1 : Int32) = (1 : Int32)))).2 ?_
        show Steps p.tables e below (T14.setTop (mkF m 140 #[.val (.int p0), .val (.int p1), .val (.int p2), .val (.int p3), .val (.int p4), .val (.int p5), .val (.int (e0_1 p3)), .val .null, .val (.int (1 : Int32)), .val (.ref c0), .val (.ref b7), .val (.int (1 : Int32))] [])) _
        refine XS.iconst X14.here hx rfl (hb hby at_140) ?_
        show Steps p.tables e below (T14.setTop (mkF m 141 #[.val (.int p0), .val (.int p1), .val (.int p2), .val (.int p3), .val (.int p4), .val (.int p5), .val (.int (e0_1 p3)), .val .null, .val (.int (1 : Int32)), .val (.ref c0), .val (.ref b7), .val (.int (1 : Int32))] [(.int (1 : Int32))])) _
        refine XS.goto X14.here hx rfl (pc0 := 141) (pc' := 145) rfl (hb hby at_141) (by decide) (by decide) ?_
        show Steps p.tables e below (T14.setTop (mkF m 145 #[.val (.int p0), .val (.int p1), .val (.int p2), .val (.int p3), .val (.int p4), .val (.int p5), .val (.int (e0_1 p3)), .val .null, .val (.int (1 : Int32)), .val (.ref c0), .val (.ref b7), .val (.int (1 : Int32))] [(.int (1 : Int32))])) _
        exact retN X14 hx (t := .boolean) Bd.returns (by simp) (hb hby at_145) hr
      · show Q0 Z p0 p1 p2 p3 p4 p5 c0 c1 h0 n0 _ T14.heap _
        rw [e14q]
        exact ⟨congrArg (fun q => some (Value.int q)) hv89, N14⟩
    · have pre16 : ∀ t, Steps p.tables e below (s₁.setTop (mkF m 50 #[.val (.int p0), .val (.int p1), .val (.int p2), .val (.int p3), .val (.int p4), .val (.int p5), .val (.int (e0_1 p3)), .val .null, .val (.int (0 : Int32)), .unset, .unset, .unset] [(.int (0 : Int32))])) t → Steps p.tables e below (s₁.setTop (entryFrame m #[(.int p0), (.int p1), (.int p2), (.int p3), (.int p4), (.int p5)] maxLocals)) t := fun t kt => pre3 t (by
          show Steps p.tables e below (s₁.setTop (mkF m 38 #[.val (.int p0), .val (.int p1), .val (.int p2), .val (.int p3), .val (.int p4), .val (.int p5), .val (.int (e0_1 p3)), .val .null, .unset, .unset, .unset, .unset] [(.int (p4 &&& (1 : Int32)))])) _
          refine XS.ifYes X0.here hx rfl (pc0 := 38) (pc' := 45) rfl (hb hby at_38) rfl ((if0 _ _).trans (feq hc38_4).2) (by decide) (by decide) ?_
          show Steps p.tables e below (s₁.setTop (mkF m 45 #[.val (.int p0), .val (.int p1), .val (.int p2), .val (.int p3), .val (.int p4), .val (.int p5), .val (.int (e0_1 p3)), .val .null, .unset, .unset, .unset, .unset] [])) _
          refine XS.iconst X0.here hx rfl (hb hby at_45) ?_
          show Steps p.tables e below (s₁.setTop (mkF m 46 #[.val (.int p0), .val (.int p1), .val (.int p2), .val (.int p3), .val (.int p4), .val (.int p5), .val (.int (e0_1 p3)), .val .null, .unset, .unset, .unset, .unset] [(.int (0 : Int32))])) _
          refine XS.istore X0.here hx rfl (hb hby at_46) rfl (l' := #[.val (.int p0), .val (.int p1), .val (.int p2), .val (.int p3), .val (.int p4), .val (.int p5), .val (.int (e0_1 p3)), .val .null, .val (.int (0 : Int32)), .unset, .unset, .unset]) rfl ?_
          show Steps p.tables e below (s₁.setTop (mkF m 48 #[.val (.int p0), .val (.int p1), .val (.int p2), .val (.int p3), .val (.int p4), .val (.int p5), .val (.int (e0_1 p3)), .val .null, .val (.int (0 : Int32)), .unset, .unset, .unset] [])) _
          refine XS.iload X0.here hx rfl (hb hby at_48) rfl ?_
          exact kt)
      obtain ⟨T17, X17, e17, st17⟩ := getS2 X0 hx hZ hown (host := "") (Or.inl (hw _ (List.mem_of_getElem? (i := 39) rfl))) Via.refl e0 S_DEFENDING (g := (mkF m 59 #[.val (.int p0), .val (.int p1), .val (.int p2), .val (.int p3), .val (.int p4), .val (.int p5), .val (.int (e0_1 p3)), .val .null, .val (.int (0 : Int32)), .unset, .unset, .unset] [])) rfl (hb hby at_59)
      obtain ⟨T18, h18, X18, e18, E18, A18, D18, -, st18⟩ := newO X17 hx hZ hown (hw _ (List.mem_of_getElem? (i := 4) rfl)) (hw _ (List.mem_of_getElem? (i := 5) rfl)) (hw _ (List.mem_of_getElem? (i := 6) rfl)) e17 (g := (mkF m 64 #[.val (.int p0), .val (.int p1), .val (.int p2), .val (.int p3), .val (.int p4), .val (.int p5), .val (.int (e0_1 p3)), .val .null, .val (.int (0 : Int32)), .val (.ref c1), .unset, .unset] [])) rfl (hb hby at_64) (by decide) (by decide)
      obtain ⟨b18, g18⟩ : ∃ z, z = h0.size := ⟨_, rfl⟩
      rw [← g18] at A18 D18 st18
      have g_b18 : n0 ≤ b18 := Nat.le_trans Z0 (Nat.le_of_eq g18.symm)
      have sz_b18 : h0.size ≤ b18 := Nat.le_trans (Keep.refl h0 []).1 (Nat.le_of_eq g18.symm)
      have ne_c0_b18 : c0 ≠ b18 := Nat.ne_of_lt (Nat.lt_of_lt_of_le E_c0.lt (Nat.le_of_eq g18.symm))
      have ne_c1_b18 : c1 ≠ b18 := Nat.ne_of_lt (Nat.lt_of_lt_of_le E_c1.lt (Nat.le_of_eq g18.symm))
      have K19 : Keep h0 h18 [] := (Keep.refl h0 []).ext E18
      have Z20 : n0 ≤ h18.size := Nat.le_trans Z0 K19.1
      have E_b18 := A18
      have F_strength_b18 : Fld Z h18 b18 "com/example/sekhem/sekhem/model/Effects" "strength" "I" (.int (0 : Int32)) := D18 (Or.inr (hw _ (List.mem_of_getElem? (i := 19) rfl))) (ty := .int) (by decide)
      have F_defence_b18 : Fld Z h18 b18 "com/example/sekhem/sekhem/model/Effects" "defence" "I" (.int (0 : Int32)) := D18 (Or.inr (hw _ (List.mem_of_getElem? (i := 21) rfl))) (ty := .int) (by decide)
      have F_damage_b18 : Fld Z h18 b18 "com/example/sekhem/sekhem/model/Effects" "damage" "I" (.int (0 : Int32)) := D18 (Or.inr (hw _ (List.mem_of_getElem? (i := 23) rfl))) (ty := .int) (by decide)
      have F_when_b18 : Fld Z h18 b18 "com/example/sekhem/sekhem/model/Effects" "when" "Lcom/example/sekhem/sekhem/model/Stance;" .null := D18 (Or.inr (hw _ (List.mem_of_getElem? (i := 25) rfl))) (ty := (.object "com/example/sekhem/sekhem/model/Stance")) (by decide)
      have F_moves_b18 : Fld Z h18 b18 "com/example/sekhem/sekhem/model/Effects" "moves" "I" (.int (0 : Int32)) := D18 (Or.inr (hw _ (List.mem_of_getElem? (i := 27) rfl))) (ty := .int) (by decide)
      have F_vp_b18 : Fld Z h18 b18 "com/example/sekhem/sekhem/model/Effects" "vp" "I" (.int (0 : Int32)) := D18 (Or.inr (hw _ (List.mem_of_getElem? (i := 29) rfl))) (ty := .int) (by decide)
      have F_nightPrayer_b18 : Fld Z h18 b18 "com/example/sekhem/sekhem/model/Effects" "nightPrayer" "I" (.int (0 : Int32)) := D18 (Or.inr (hw _ (List.mem_of_getElem? (i := 31) rfl))) (ty := .int) (by decide)
      have F_prayer_b18 : Fld Z h18 b18 "com/example/sekhem/sekhem/model/Effects" "prayer" "I" (.int (0 : Int32)) := D18 (Or.inr (hw _ (List.mem_of_getElem? (i := 33) rfl))) (ty := .int) (by decide)
      obtain ⟨_, _, ⟨T21, L21, k21, n21⟩, -, X21, ⟨Lc21, hQ21, l21, y21, z21⟩, st21⟩ := X18.specialBack hx (y := (⟨"com/example/sekhem/sekhem/model/Effects", "<init>", "(IIILcom/example/sekhem/sekhem/model/Stance;IIII)V"⟩ : MethodName)) rfl hown (mvT hZ (hw _ (List.mem_of_getElem? (i := 7) rfl))) (mvT hZ (hw _ (List.mem_of_getElem? (i := 8) rfl))) (mvT hZ (hw _ (List.mem_of_getElem? (i := 9) rfl))) (by decide) (backOf (W := 1) (rm1n l Z a0 hw [] b18 p0 p1 p2 p5 (p5 ^^^ (-1 : Int32)) (p0 ^^^ p5) (p1 - p5) (0 : Int32) (0 : Int32) (0 : Int32) (0 : Int32) (0 : Int32) (0 : Int32) (0 : Int32) h18 n0 Z20 E_b18 F_strength_b18 g_b18 F_defence_b18 F_damage_b18 F_when_b18 F_moves_b18 F_vp_b18 F_nightPrayer_b18 F_prayer_b18) hZ (hw _ (List.mem_of_getElem? (i := 9) rfl)) (hw _ (List.mem_of_getElem? (i := 6) rfl)) (by decide) (by decide)) (g := (mkF m 87 #[.val (.int p0), .val (.int p1), .val (.int p2), .val (.int p3), .val (.int p4), .val (.int p5), .val (.int (e0_1 p3)), .val .null, .val (.int (0 : Int32)), .val (.ref c1), .unset, .unset] [(.int (p1 - p5)), (.int (p0 ^^^ p5)), (.int (p5 ^^^ (-1 : Int32))), (.int p5), .null, (.int p2), (.int p1), (.int p0), (.ref b18), (.ref b18)])) rfl (by rw [hml]; rfl) (Steps.refl _) (a := b18) (argsL := [(.int p0), (.int p1), (.int p2), .null, (.int p5), (.int (p5 ^^^ (-1 : Int32))), (.int (p0 ^^^ p5)), (.int (p1 - p5))]) (rest := [(.ref b18)]) (lenOf pd_0_0 rfl) rfl (by show 2 * 0 + _ ≤ _; exact Nat.le_of_eq rfl) (hb hby at_87) (fun _ _ => ⟨rfl, e18, (by decide : 1 + 0 ≤ _), (by decide : 8 + 0 ≤ _)⟩)
      dsimp only [Pt.U, Pt.locs, Pt.cells, Pt.slots] at X21 l21 y21 z21 st21 hQ21
      subst l21 y21 z21
      obtain ⟨rfl, N21q, K21q, G21_0, G21_1, G21_2, G21_3, G21_4, G21_5, G21_6, G21_7⟩ := hQ21
      have N21 := Fr.app N0 N21q
      have K22 : Keep h0 T21.heap [] := K19.trans K21q (allS (Or.inr sz_b18) all0)
      have Z23 : n0 ≤ T21.heap.size := Nat.le_trans Z0 K22.1
      obtain ⟨LS21, X21, N21⟩ : ∃ L, Stand p l e room_1 s m #[(.int p0), (.int p1), (.int p2), (.int p3), (.int p4), (.int p5)] below meth c T21 L 1 8 ∧ Fr n0 L := ⟨_, X21, N21⟩
      have pre24 : ∀ t, Steps p.tables e below (T21.setTop (mkF m 94 #[.val (.int p0), .val (.int p1), .val (.int p2), .val (.int p3), .val (.int p4), .val (.int p5), .val (.int (e0_1 p3)), .val .null, .val (.int (0 : Int32)), .val (.ref c1), .val (.ref b18), .unset] [(.int (e0_1 p3))])) t → Steps p.tables e below (s₁.setTop (entryFrame m #[(.int p0), (.int p1), (.int p2), (.int p3), (.int p4), (.int p5)] maxLocals)) t := fun t kt => pre16 t (by
          show Steps p.tables e below (s₁.setTop (mkF m 50 #[.val (.int p0), .val (.int p1), .val (.int p2), .val (.int p3), .val (.int p4), .val (.int p5), .val (.int (e0_1 p3)), .val .null, .val (.int (0 : Int32)), .unset, .unset, .unset] [(.int (0 : Int32))])) _
          refine XS.ifYes X0.here hx rfl (pc0 := 50) (pc' := 59) rfl (hb hby at_50) rfl ((if0 _ _).trans (teq (by decide : ((0 : Int32) = (0 : Int32)))).1) (by decide) (by decide) ?_
          show Steps p.tables e below (s₁.setTop (mkF m 59 #[.val (.int p0), .val (.int p1), .val (.int p2), .val (.int p3), .val (.int p4), .val (.int p5), .val (.int (e0_1 p3)), .val .null, .val (.int (0 : Int32)), .unset, .unset, .unset] [])) _
          refine st17 _ ?_
          show Steps p.tables e below (T17.setTop (mkF m 62 #[.val (.int p0), .val (.int p1), .val (.int p2), .val (.int p3), .val (.int p4), .val (.int p5), .val (.int (e0_1 p3)), .val .null, .val (.int (0 : Int32)), .unset, .unset, .unset] [(.ref c1)])) _
          refine XS.astore X17.here hx rfl (hb hby at_62) rfl rfl (l' := #[.val (.int p0), .val (.int p1), .val (.int p2), .val (.int p3), .val (.int p4), .val (.int p5), .val (.int (e0_1 p3)), .val .null, .val (.int (0 : Int32)), .val (.ref c1), .unset, .unset]) rfl ?_
          show Steps p.tables e below (T17.setTop (mkF m 64 #[.val (.int p0), .val (.int p1), .val (.int p2), .val (.int p3), .val (.int p4), .val (.int p5), .val (.int (e0_1 p3)), .val .null, .val (.int (0 : Int32)), .val (.ref c1), .unset, .unset] [])) _
          refine st18 _ ?_
          show Steps p.tables e below (T18.setTop (mkF m 67 #[.val (.int p0), .val (.int p1), .val (.int p2), .val (.int p3), .val (.int p4), .val (.int p5), .val (.int (e0_1 p3)), .val .null, .val (.int (0 : Int32)), .val (.ref c1), .unset, .unset] [(.ref b18)])) _
          refine XS.dup X18.here hx rfl (hb hby at_67) rfl rfl ?_
          show Steps p.tables e below (T18.setTop (mkF m 68 #[.val (.int p0), .val (.int p1), .val (.int p2), .val (.int p3), .val (.int p4), .val (.int p5), .val (.int (e0_1 p3)), .val .null, .val (.int (0 : Int32)), .val (.ref c1), .unset, .unset] [(.ref b18), (.ref b18)])) _
          refine XS.iloadN X18.here hx rfl (hb hby at_68) rfl ?_
          show Steps p.tables e below (T18.setTop (mkF m 69 #[.val (.int p0), .val (.int p1), .val (.int p2), .val (.int p3), .val (.int p4), .val (.int p5), .val (.int (e0_1 p3)), .val .null, .val (.int (0 : Int32)), .val (.ref c1), .unset, .unset] [(.int p0), (.ref b18), (.ref b18)])) _
          refine XS.iloadN X18.here hx rfl (hb hby at_69) rfl ?_
          show Steps p.tables e below (T18.setTop (mkF m 70 #[.val (.int p0), .val (.int p1), .val (.int p2), .val (.int p3), .val (.int p4), .val (.int p5), .val (.int (e0_1 p3)), .val .null, .val (.int (0 : Int32)), .val (.ref c1), .unset, .unset] [(.int p1), (.int p0), (.ref b18), (.ref b18)])) _
          refine XS.iloadN X18.here hx rfl (hb hby at_70) rfl ?_
          show Steps p.tables e below (T18.setTop (mkF m 71 #[.val (.int p0), .val (.int p1), .val (.int p2), .val (.int p3), .val (.int p4), .val (.int p5), .val (.int (e0_1 p3)), .val .null, .val (.int (0 : Int32)), .val (.ref c1), .unset, .unset] [(.int p2), (.int p1), (.int p0), (.ref b18), (.ref b18)])) _
          refine XS.aload X18.here hx rfl (hb hby at_71) rfl rfl ?_
          show Steps p.tables e below (T18.setTop (mkF m 73 #[.val (.int p0), .val (.int p1), .val (.int p2), .val (.int p3), .val (.int p4), .val (.int p5), .val (.int (e0_1 p3)), .val .null, .val (.int (0 : Int32)), .val (.ref c1), .unset, .unset] [.null, (.int p2), (.int p1), (.int p0), (.ref b18), (.ref b18)])) _
          refine XS.iload X18.here hx rfl (hb hby at_73) rfl ?_
          show Steps p.tables e below (T18.setTop (mkF m 75 #[.val (.int p0), .val (.int p1), .val (.int p2), .val (.int p3), .val (.int p4), .val (.int p5), .val (.int (e0_1 p3)), .val .null, .val (.int (0 : Int32)), .val (.ref c1), .unset, .unset] [(.int p5), .null, (.int p2), (.int p1), (.int p0), (.ref b18), (.ref b18)])) _
          refine XS.iload X18.here hx rfl (hb hby at_75) rfl ?_
          show Steps p.tables e below (T18.setTop (mkF m 77 #[.val (.int p0), .val (.int p1), .val (.int p2), .val (.int p3), .val (.int p4), .val (.int p5), .val (.int (e0_1 p3)), .val .null, .val (.int (0 : Int32)), .val (.ref c1), .unset, .unset] [(.int p5), (.int p5), .null, (.int p2), (.int p1), (.int p0), (.ref b18), (.ref b18)])) _
          refine XS.iconst X18.here hx rfl (hb hby at_77) ?_
          show Steps p.tables e below (T18.setTop (mkF m 78 #[.val (.int p0), .val (.int p1), .val (.int p2), .val (.int p3), .val (.int p4), .val (.int p5), .val (.int (e0_1 p3)), .val .null, .val (.int (0 : Int32)), .val (.ref c1), .unset, .unset] [(.int (-1 : Int32)), (.int p5), (.int p5), .null, (.int p2), (.int p1), (.int p0), (.ref b18), (.ref b18)])) _
          refine XS.ixor X18.here hx rfl (hb hby at_78) rfl ?_
          show Steps p.tables e below (T18.setTop (mkF m 79 #[.val (.int p0), .val (.int p1), .val (.int p2), .val (.int p3), .val (.int p4), .val (.int p5), .val (.int (e0_1 p3)), .val .null, .val (.int (0 : Int32)), .val (.ref c1), .unset, .unset] [(.int (p5 ^^^ (-1 : Int32))), (.int p5), .null, (.int p2), (.int p1), (.int p0), (.ref b18), (.ref b18)])) _
          refine XS.iloadN X18.here hx rfl (hb hby at_79) rfl ?_
          show Steps p.tables e below (T18.setTop (mkF m 80 #[.val (.int p0), .val (.int p1), .val (.int p2), .val (.int p3), .val (.int p4), .val (.int p5), .val (.int (e0_1 p3)), .val .null, .val (.int (0 : Int32)), .val (.ref c1), .unset, .unset] [(.int p0), (.int (p5 ^^^ (-1 : Int32))), (.int p5), .null, (.int p2), (.int p1), (.int p0), (.ref b18), (.ref b18)])) _
          refine XS.iload X18.here hx rfl (hb hby at_80) rfl ?_
          show Steps p.tables e below (T18.setTop (mkF m 82 #[.val (.int p0), .val (.int p1), .val (.int p2), .val (.int p3), .val (.int p4), .val (.int p5), .val (.int (e0_1 p3)), .val .null, .val (.int (0 : Int32)), .val (.ref c1), .unset, .unset] [(.int p5), (.int p0), (.int (p5 ^^^ (-1 : Int32))), (.int p5), .null, (.int p2), (.int p1), (.int p0), (.ref b18), (.ref b18)])) _
          refine XS.ixor X18.here hx rfl (hb hby at_82) rfl ?_
          show Steps p.tables e below (T18.setTop (mkF m 83 #[.val (.int p0), .val (.int p1), .val (.int p2), .val (.int p3), .val (.int p4), .val (.int p5), .val (.int (e0_1 p3)), .val .null, .val (.int (0 : Int32)), .val (.ref c1), .unset, .unset] [(.int (p0 ^^^ p5)), (.int (p5 ^^^ (-1 : Int32))), (.int p5), .null, (.int p2), (.int p1), (.int p0), (.ref b18), (.ref b18)])) _
          refine XS.iloadN X18.here hx rfl (hb hby at_83) rfl ?_
          show Steps p.tables e below (T18.setTop (mkF m 84 #[.val (.int p0), .val (.int p1), .val (.int p2), .val (.int p3), .val (.int p4), .val (.int p5), .val (.int (e0_1 p3)), .val .null, .val (.int (0 : Int32)), .val (.ref c1), .unset, .unset] [(.int p1), (.int (p0 ^^^ p5)), (.int (p5 ^^^ (-1 : Int32))), (.int p5), .null, (.int p2), (.int p1), (.int p0), (.ref b18), (.ref b18)])) _
          refine XS.iload X18.here hx rfl (hb hby at_84) rfl ?_
          show Steps p.tables e below (T18.setTop (mkF m 86 #[.val (.int p0), .val (.int p1), .val (.int p2), .val (.int p3), .val (.int p4), .val (.int p5), .val (.int (e0_1 p3)), .val .null, .val (.int (0 : Int32)), .val (.ref c1), .unset, .unset] [(.int p5), (.int p1), (.int (p0 ^^^ p5)), (.int (p5 ^^^ (-1 : Int32))), (.int p5), .null, (.int p2), (.int p1), (.int p0), (.ref b18), (.ref b18)])) _
          refine XS.isub X18.here hx rfl (hb hby at_86) rfl ?_
          show Steps p.tables e below (T18.setTop (mkF m 87 #[.val (.int p0), .val (.int p1), .val (.int p2), .val (.int p3), .val (.int p4), .val (.int p5), .val (.int (e0_1 p3)), .val .null, .val (.int (0 : Int32)), .val (.ref c1), .unset, .unset] [(.int (p1 - p5)), (.int (p0 ^^^ p5)), (.int (p5 ^^^ (-1 : Int32))), (.int p5), .null, (.int p2), (.int p1), (.int p0), (.ref b18), (.ref b18)])) _
          refine st21.trans ?_
          show Steps p.tables e below (T21.setTop (mkF m 90 #[.val (.int p0), .val (.int p1), .val (.int p2), .val (.int p3), .val (.int p4), .val (.int p5), .val (.int (e0_1 p3)), .val .null, .val (.int (0 : Int32)), .val (.ref c1), .unset, .unset] [(.ref b18)])) _
          refine XS.astore X21.here hx rfl (hb hby at_90) rfl rfl (l' := #[.val (.int p0), .val (.int p1), .val (.int p2), .val (.int p3), .val (.int p4), .val (.int p5), .val (.int (e0_1 p3)), .val .null, .val (.int (0 : Int32)), .val (.ref c1), .val (.ref b18), .unset]) rfl ?_
          show Steps p.tables e below (T21.setTop (mkF m 92 #[.val (.int p0), .val (.int p1), .val (.int p2), .val (.int p3), .val (.int p4), .val (.int p5), .val (.int (e0_1 p3)), .val .null, .val (.int (0 : Int32)), .val (.ref c1), .val (.ref b18), .unset] [])) _
          refine XS.iload X21.here hx rfl (hb hby at_92) rfl ?_
          exact kt)
      obtain ⟨cq25, kq25, q25a, q25b, q25c⟩ := isOf hZ rfl (E_b18.keep K21q)
      obtain ⟨_, _, ⟨T25, L25, k25, n25⟩, -, X25, ⟨Lc25, hQ25, l25, y25, z25⟩, st25⟩ := X21.virtualBack hx (y := (⟨"com/example/sekhem/sekhem/model/Effects", "countIn", "(Lcom/example/sekhem/sekhem/model/Stance;)Z"⟩ : MethodName)) (z := (⟨"com/example/sekhem/sekhem/model/Effects", "countIn", "(Lcom/example/sekhem/sekhem/model/Stance;)Z"⟩ : MethodName)) hown (mvT hZ (hw _ (List.mem_of_getElem? (i := 34) rfl))) (mvT hZ (hw _ (List.mem_of_getElem? (i := 35) rfl))) (notFace_of_selects (args := #[]) (mvT hZ (hw _ (List.mem_of_getElem? (i := 37) rfl)))) (mvT hZ (hw _ (List.mem_of_getElem? (i := 37) rfl))) (mvT hZ (hw _ (List.mem_of_getElem? (i := 36) rfl))) (by decide) (backOf (W := 0) (rm4n l Z a0 hw [] b18 c1 T21.heap n0 Z23 G21_3) hZ (hw _ (List.mem_of_getElem? (i := 38) rfl)) (hw _ (List.mem_of_getElem? (i := 6) rfl)) (by decide) (by decide)) q25a q25c (g := (mkF m 132 #[.val (.int p0), .val (.int p1), .val (.int p2), .val (.int p3), .val (.int p4), .val (.int p5), .val (.int (e0_1 p3)), .val .null, .val (.int (0 : Int32)), .val (.ref c1), .val (.ref b18), .val (.int (1 : Int32))] [(.ref c1), (.ref b18)])) rfl (by rw [hml]; rfl) (Steps.refl _) (argsL := [(.ref c1)]) (rest := []) (lenOf pd_0_1 rfl) rfl (by show 2 * 0 + _ ≤ _; exact Nat.le_of_eq rfl) (hb hby at_132) (fun _ _ => ⟨rfl, rfl, (by decide : 1 + 0 ≤ _), (by decide : 8 + 0 ≤ _)⟩)
      dsimp only [Pt.U, Pt.locs, Pt.cells, Pt.slots] at X25 l25 y25 z25 st25 hQ25
      subst l25 y25 z25
      obtain ⟨rfl, N25q, e25q⟩ := hQ25
      have N25 := Fr.app N21 N25q
      have pre26 : ∀ t, Steps p.tables e below (T25.setTop (mkF m 137 #[.val (.int p0), .val (.int p1), .val (.int p2), .val (.int p3), .val (.int p4), .val (.int p5), .val (.int (e0_1 p3)), .val .null, .val (.int (0 : Int32)), .val (.ref c1), .val (.ref b18), .val (.int (1 : Int32))] [(.int (1 : Int32)), (.int (1 : Int32))])) t → Steps p.tables e below (s₁.setTop (entryFrame m #[(.int p0), (.int p1), (.int p2), (.int p3), (.int p4), (.int p5)] maxLocals)) t := fun t kt => pre24 t (by
          show Steps p.tables e below (T21.setTop (mkF m 94 #[.val (.int p0), .val (.int p1), .val (.int p2), .val (.int p3), .val (.int p4), .val (.int p5), .val (.int (e0_1 p3)), .val .null, .val (.int (0 : Int32)), .val (.ref c1), .val (.ref b18), .unset] [(.int (e0_1 p3))])) _
          refine XS.ifNo X21.here hx rfl (hb hby at_94) rfl ((if0 _ _).trans (teq hc10_2).2) ?_
          show Steps p.tables e below (T21.setTop (mkF m 97 #[.val (.int p0), .val (.int p1), .val (.int p2), .val (.int p3), .val (.int p4), .val (.int p5), .val (.int (e0_1 p3)), .val .null, .val (.int (0 : Int32)), .val (.ref c1), .val (.ref b18), .unset] [])) _
          refine XS.iconst X21.here hx rfl (hb hby at_97) ?_
          show Steps p.tables e below (T21.setTop (mkF m 98 #[.val (.int p0), .val (.int p1), .val (.int p2), .val (.int p3), .val (.int p4), .val (.int p5), .val (.int (e0_1 p3)), .val .null, .val (.int (0 : Int32)), .val (.ref c1), .val (.ref b18), .unset] [(.int (1 : Int32))])) _
          refine XS.istore X21.here hx rfl (hb hby at_98) rfl (l' := #[.val (.int p0), .val (.int p1), .val (.int p2), .val (.int p3), .val (.int p4), .val (.int p5), .val (.int (e0_1 p3)), .val .null, .val (.int (0 : Int32)), .val (.ref c1), .val (.ref b18), .val (.int (1 : Int32))]) rfl ?_
          show Steps p.tables e below (T21.setTop (mkF m 100 #[.val (.int p0), .val (.int p1), .val (.int p2), .val (.int p3), .val (.int p4), .val (.int p5), .val (.int (e0_1 p3)), .val .null, .val (.int (0 : Int32)), .val (.ref c1), .val (.ref b18), .val (.int (1 : Int32))] [])) _
          refine XS.goto X21.here hx rfl (pc0 := 100) (pc' := 128) rfl (hb hby at_100) (by decide) (by decide) ?_
          show Steps p.tables e below (T21.setTop (mkF m 128 #[.val (.int p0), .val (.int p1), .val (.int p2), .val (.int p3), .val (.int p4), .val (.int p5), .val (.int (e0_1 p3)), .val .null, .val (.int (0 : Int32)), .val (.ref c1), .val (.ref b18), .val (.int (1 : Int32))] [])) _
          refine XS.aload X21.here hx rfl (hb hby at_128) rfl rfl ?_
          show Steps p.tables e below (T21.setTop (mkF m 130 #[.val (.int p0), .val (.int p1), .val (.int p2), .val (.int p3), .val (.int p4), .val (.int p5), .val (.int (e0_1 p3)), .val .null, .val (.int (0 : Int32)), .val (.ref c1), .val (.ref b18), .val (.int (1 : Int32))] [(.ref b18)])) _
          refine XS.aload X21.here hx rfl (hb hby at_130) rfl rfl ?_
          show Steps p.tables e below (T21.setTop (mkF m 132 #[.val (.int p0), .val (.int p1), .val (.int p2), .val (.int p3), .val (.int p4), .val (.int p5), .val (.int (e0_1 p3)), .val .null, .val (.int (0 : Int32)), .val (.ref c1), .val (.ref b18), .val (.int (1 : Int32))] [(.ref c1), (.ref b18)])) _
          refine st25.trans ?_
          show Steps p.tables e below (T25.setTop (mkF m 135 #[.val (.int p0), .val (.int p1), .val (.int p2), .val (.int p3), .val (.int p4), .val (.int p5), .val (.int (e0_1 p3)), .val .null, .val (.int (0 : Int32)), .val (.ref c1), .val (.ref b18), .val (.int (1 : Int32))] [(.int (1 : Int32))])) _
          refine XS.iload X25.here hx rfl (hb hby at_135) rfl ?_
          exact kt)
      obtain ⟨fs, hr, hrun, hended, hW, hsame⟩ := X25.leave (v := some (.int (1 : Int32))) (fun h => by rw [Bd.returns] at h; cases h)
      have hv90 : (1 : Int32) = (1 : Int32) := rfl
      refine ⟨_, _, pre26 _ ?_, hrun, hended, _, _, rfl, ?_, ⟨_, rfl⟩, hW, hsame.mono (by decide) (by decide)⟩
      · show Steps p.tables e below (T25.setTop (mkF m 137 #[.val (.int p0), .val (.int p1), .val (.int p2), .val (.int p3), .val (.int p4), .val (.int p5), .val (.int (e0_1 p3)), .val .null, .val (.int (0 : Int32)), .val (.ref c1), .val (.ref b18), .val (.int (1 : Int32))] [(.int (1 : Int32)), (.int (1 : Int32))])) _
        refine XS.icmpNo X25.here hx rfl (hb hby at_137) rfl (teq (by decide : ((1 : Int32) = (1 : Int32)))).2 ?_
        show Steps p.tables e below (T25.setTop (mkF m 140 #[.val (.int p0), .val (.int p1), .val (.int p2), .val (.int p3), .val (.int p4), .val (.int p5), .val (.int (e0_1 p3)), .val .null, .val (.int (0 : Int32)), .val (.ref c1), .val (.ref b18), .val (.int (1 : Int32))] [])) _
        refine XS.iconst X25.here hx rfl (hb hby at_140) ?_
        show Steps p.tables e below (T25.setTop (mkF m 141 #[.val (.int p0), .val (.int p1), .val (.int p2), .val (.int p3), .val (.int p4), .val (.int p5), .val (.int (e0_1 p3)), .val .null, .val (.int (0 : Int32)), .val (.ref c1), .val (.ref b18), .val (.int (1 : Int32))] [(.int (1 : Int32))])) _
        refine XS.goto X25.here hx rfl (pc0 := 141) (pc' := 145) rfl (hb hby at_141) (by decide) (by decide) ?_
        show Steps p.tables e below (T25.setTop (mkF m 145 #[.val (.int p0), .val (.int p1), .val (.int p2), .val (.int p3), .val (.int p4), .val (.int p5), .val (.int (e0_1 p3)), .val .null, .val (.int (0 : Int32)), .val (.ref c1), .val (.ref b18), .val (.int (1 : Int32))] [(.int (1 : Int32))])) _
        exact retN X25 hx (t := .boolean) Bd.returns (by simp) (hb hby at_145) hr
      · show Q0 Z p0 p1 p2 p3 p4 p5 c0 c1 h0 n0 _ T25.heap _
        rw [e25q]
        exact ⟨congrArg (fun q => some (Value.int q)) hv90, N25⟩
  · have pre27 : ∀ t, Steps p.tables e below (s₁.setTop (mkF m 20 #[.val (.int p0), .val (.int p1), .val (.int p2), .val (.int p3), .val (.int p4), .val (.int p5), .val (.int (e0_1 p3)), .unset, .unset, .unset, .unset, .unset] [(.int (1 : Int32)), (.int (e0_1 p3))])) t → Steps p.tables e below (s₁.setTop (entryFrame m #[(.int p0), (.int p1), (.int p2), (.int p3), (.int p4), (.int p5)] maxLocals)) t := fun t kt => pre1 t (by
        show Steps p.tables e below (s₁.setTop (mkF m 10 #[.val (.int p0), .val (.int p1), .val (.int p2), .val (.int p3), .val (.int p4), .val (.int p5), .val (.int (e0_1 p3)), .unset, .unset, .unset, .unset, .unset] [(.int (e0_1 p3))])) _
        refine XS.ifYes X0.here hx rfl (pc0 := 10) (pc' := 17) rfl (hb hby at_10) rfl ((if0 _ _).trans (feq hc10_2).2) (by decide) (by decide) ?_
        show Steps p.tables e below (s₁.setTop (mkF m 17 #[.val (.int p0), .val (.int p1), .val (.int p2), .val (.int p3), .val (.int p4), .val (.int p5), .val (.int (e0_1 p3)), .unset, .unset, .unset, .unset, .unset] [])) _
        refine XS.iload X0.here hx rfl (hb hby at_17) rfl ?_
        show Steps p.tables e below (s₁.setTop (mkF m 19 #[.val (.int p0), .val (.int p1), .val (.int p2), .val (.int p3), .val (.int p4), .val (.int p5), .val (.int (e0_1 p3)), .unset, .unset, .unset, .unset, .unset] [(.int (e0_1 p3))])) _
        refine XS.iconst X0.here hx rfl (hb hby at_19) ?_
        exact kt)
    by_cases hc20_28 : (e0_1 p3) = (1 : Int32)
    · obtain ⟨T29, X29, e29, st29⟩ := getS2 X0 hx hZ hown (host := "") (Or.inl (hw _ (List.mem_of_getElem? (i := 1) rfl))) Via.refl e0 S_ATTACKING (g := (mkF m 23 #[.val (.int p0), .val (.int p1), .val (.int p2), .val (.int p3), .val (.int p4), .val (.int p5), .val (.int (e0_1 p3)), .unset, .unset, .unset, .unset, .unset] [])) rfl (hb hby at_23)
      have pre30 : ∀ t, Steps p.tables e below (T29.setTop (mkF m 38 #[.val (.int p0), .val (.int p1), .val (.int p2), .val (.int p3), .val (.int p4), .val (.int p5), .val (.int (e0_1 p3)), .val (.ref c0), .unset, .unset, .unset, .unset] [(.int (p4 &&& (1 : Int32)))])) t → Steps p.tables e below (s₁.setTop (entryFrame m #[(.int p0), (.int p1), (.int p2), (.int p3), (.int p4), (.int p5)] maxLocals)) t := fun t kt => pre27 t (by
          show Steps p.tables e below (s₁.setTop (mkF m 20 #[.val (.int p0), .val (.int p1), .val (.int p2), .val (.int p3), .val (.int p4), .val (.int p5), .val (.int (e0_1 p3)), .unset, .unset, .unset, .unset, .unset] [(.int (1 : Int32)), (.int (e0_1 p3))])) _
          refine XS.icmpNo X0.here hx rfl (hb hby at_20) rfl (teq hc20_28).2 ?_
          show Steps p.tables e below (s₁.setTop (mkF m 23 #[.val (.int p0), .val (.int p1), .val (.int p2), .val (.int p3), .val (.int p4), .val (.int p5), .val (.int (e0_1 p3)), .unset, .unset, .unset, .unset, .unset] [])) _
          refine st29 _ ?_
          show Steps p.tables e below (T29.setTop (mkF m 26 #[.val (.int p0), .val (.int p1), .val (.int p2), .val (.int p3), .val (.int p4), .val (.int p5), .val (.int (e0_1 p3)), .unset, .unset, .unset, .unset, .unset] [(.ref c0)])) _
          refine XS.goto X29.here hx rfl (pc0 := 26) (pc' := 32) rfl (hb hby at_26) (by decide) (by decide) ?_
          show Steps p.tables e below (T29.setTop (mkF m 32 #[.val (.int p0), .val (.int p1), .val (.int p2), .val (.int p3), .val (.int p4), .val (.int p5), .val (.int (e0_1 p3)), .unset, .unset, .unset, .unset, .unset] [(.ref c0)])) _
          refine XS.astore X29.here hx rfl (hb hby at_32) rfl rfl (l' := #[.val (.int p0), .val (.int p1), .val (.int p2), .val (.int p3), .val (.int p4), .val (.int p5), .val (.int (e0_1 p3)), .val (.ref c0), .unset, .unset, .unset, .unset]) rfl ?_
          show Steps p.tables e below (T29.setTop (mkF m 34 #[.val (.int p0), .val (.int p1), .val (.int p2), .val (.int p3), .val (.int p4), .val (.int p5), .val (.int (e0_1 p3)), .val (.ref c0), .unset, .unset, .unset, .unset] [])) _
          refine XS.iload X29.here hx rfl (hb hby at_34) rfl ?_
          show Steps p.tables e below (T29.setTop (mkF m 36 #[.val (.int p0), .val (.int p1), .val (.int p2), .val (.int p3), .val (.int p4), .val (.int p5), .val (.int (e0_1 p3)), .val (.ref c0), .unset, .unset, .unset, .unset] [(.int p4)])) _
          refine XS.iconst X29.here hx rfl (hb hby at_36) ?_
          show Steps p.tables e below (T29.setTop (mkF m 37 #[.val (.int p0), .val (.int p1), .val (.int p2), .val (.int p3), .val (.int p4), .val (.int p5), .val (.int (e0_1 p3)), .val (.ref c0), .unset, .unset, .unset, .unset] [(.int (1 : Int32)), (.int p4)])) _
          refine XS.iand X29.here hx rfl (hb hby at_37) rfl ?_
          exact kt)
      by_cases hc38_31 : (p4 &&& (1 : Int32)) = (0 : Int32)
      · have pre32 : ∀ t, Steps p.tables e below (T29.setTop (mkF m 50 #[.val (.int p0), .val (.int p1), .val (.int p2), .val (.int p3), .val (.int p4), .val (.int p5), .val (.int (e0_1 p3)), .val (.ref c0), .val (.int (1 : Int32)), .unset, .unset, .unset] [(.int (1 : Int32))])) t → Steps p.tables e below (s₁.setTop (entryFrame m #[(.int p0), (.int p1), (.int p2), (.int p3), (.int p4), (.int p5)] maxLocals)) t := fun t kt => pre30 t (by
            show Steps p.tables e below (T29.setTop (mkF m 38 #[.val (.int p0), .val (.int p1), .val (.int p2), .val (.int p3), .val (.int p4), .val (.int p5), .val (.int (e0_1 p3)), .val (.ref c0), .unset, .unset, .unset, .unset] [(.int (p4 &&& (1 : Int32)))])) _
            refine XS.ifNo X29.here hx rfl (hb hby at_38) rfl ((if0 _ _).trans (teq hc38_31).2) ?_
            show Steps p.tables e below (T29.setTop (mkF m 41 #[.val (.int p0), .val (.int p1), .val (.int p2), .val (.int p3), .val (.int p4), .val (.int p5), .val (.int (e0_1 p3)), .val (.ref c0), .unset, .unset, .unset, .unset] [])) _
            refine XS.iconst X29.here hx rfl (hb hby at_41) ?_
            show Steps p.tables e below (T29.setTop (mkF m 42 #[.val (.int p0), .val (.int p1), .val (.int p2), .val (.int p3), .val (.int p4), .val (.int p5), .val (.int (e0_1 p3)), .val (.ref c0), .unset, .unset, .unset, .unset] [(.int (1 : Int32))])) _
            refine XS.goto X29.here hx rfl (pc0 := 42) (pc' := 46) rfl (hb hby at_42) (by decide) (by decide) ?_
            show Steps p.tables e below (T29.setTop (mkF m 46 #[.val (.int p0), .val (.int p1), .val (.int p2), .val (.int p3), .val (.int p4), .val (.int p5), .val (.int (e0_1 p3)), .val (.ref c0), .unset, .unset, .unset, .unset] [(.int (1 : Int32))])) _
            refine XS.istore X29.here hx rfl (hb hby at_46) rfl (l' := #[.val (.int p0), .val (.int p1), .val (.int p2), .val (.int p3), .val (.int p4), .val (.int p5), .val (.int (e0_1 p3)), .val (.ref c0), .val (.int (1 : Int32)), .unset, .unset, .unset]) rfl ?_
            show Steps p.tables e below (T29.setTop (mkF m 48 #[.val (.int p0), .val (.int p1), .val (.int p2), .val (.int p3), .val (.int p4), .val (.int p5), .val (.int (e0_1 p3)), .val (.ref c0), .val (.int (1 : Int32)), .unset, .unset, .unset] [])) _
            refine XS.iload X29.here hx rfl (hb hby at_48) rfl ?_
            exact kt)
        obtain ⟨T33, X33, e33, st33⟩ := getS2 X29 hx hZ hown (host := "") (Or.inl (hw _ (List.mem_of_getElem? (i := 1) rfl))) Via.refl e29 S_ATTACKING (g := (mkF m 53 #[.val (.int p0), .val (.int p1), .val (.int p2), .val (.int p3), .val (.int p4), .val (.int p5), .val (.int (e0_1 p3)), .val (.ref c0), .val (.int (1 : Int32)), .unset, .unset, .unset] [])) rfl (hb hby at_53)
        obtain ⟨T34, h34, X34, e34, E34, A34, D34, -, st34⟩ := newO X33 hx hZ hown (hw _ (List.mem_of_getElem? (i := 4) rfl)) (hw _ (List.mem_of_getElem? (i := 5) rfl)) (hw _ (List.mem_of_getElem? (i := 6) rfl)) e33 (g := (mkF m 64 #[.val (.int p0), .val (.int p1), .val (.int p2), .val (.int p3), .val (.int p4), .val (.int p5), .val (.int (e0_1 p3)), .val (.ref c0), .val (.int (1 : Int32)), .val (.ref c0), .unset, .unset] [])) rfl (hb hby at_64) (by decide) (by decide)
        obtain ⟨b34, g34⟩ : ∃ z, z = h0.size := ⟨_, rfl⟩
        rw [← g34] at A34 D34 st34
        have g_b34 : n0 ≤ b34 := Nat.le_trans Z0 (Nat.le_of_eq g34.symm)
        have sz_b34 : h0.size ≤ b34 := Nat.le_trans (Keep.refl h0 []).1 (Nat.le_of_eq g34.symm)
        have ne_c0_b34 : c0 ≠ b34 := Nat.ne_of_lt (Nat.lt_of_lt_of_le E_c0.lt (Nat.le_of_eq g34.symm))
        have ne_c1_b34 : c1 ≠ b34 := Nat.ne_of_lt (Nat.lt_of_lt_of_le E_c1.lt (Nat.le_of_eq g34.symm))
        have K35 : Keep h0 h34 [] := (Keep.refl h0 []).ext E34
        have Z36 : n0 ≤ h34.size := Nat.le_trans Z0 K35.1
        have E_b34 := A34
        have F_strength_b34 : Fld Z h34 b34 "com/example/sekhem/sekhem/model/Effects" "strength" "I" (.int (0 : Int32)) := D34 (Or.inr (hw _ (List.mem_of_getElem? (i := 19) rfl))) (ty := .int) (by decide)
        have F_defence_b34 : Fld Z h34 b34 "com/example/sekhem/sekhem/model/Effects" "defence" "I" (.int (0 : Int32)) := D34 (Or.inr (hw _ (List.mem_of_getElem? (i := 21) rfl))) (ty := .int) (by decide)
        have F_damage_b34 : Fld Z h34 b34 "com/example/sekhem/sekhem/model/Effects" "damage" "I" (.int (0 : Int32)) := D34 (Or.inr (hw _ (List.mem_of_getElem? (i := 23) rfl))) (ty := .int) (by decide)
        have F_when_b34 : Fld Z h34 b34 "com/example/sekhem/sekhem/model/Effects" "when" "Lcom/example/sekhem/sekhem/model/Stance;" .null := D34 (Or.inr (hw _ (List.mem_of_getElem? (i := 25) rfl))) (ty := (.object "com/example/sekhem/sekhem/model/Stance")) (by decide)
        have F_moves_b34 : Fld Z h34 b34 "com/example/sekhem/sekhem/model/Effects" "moves" "I" (.int (0 : Int32)) := D34 (Or.inr (hw _ (List.mem_of_getElem? (i := 27) rfl))) (ty := .int) (by decide)
        have F_vp_b34 : Fld Z h34 b34 "com/example/sekhem/sekhem/model/Effects" "vp" "I" (.int (0 : Int32)) := D34 (Or.inr (hw _ (List.mem_of_getElem? (i := 29) rfl))) (ty := .int) (by decide)
        have F_nightPrayer_b34 : Fld Z h34 b34 "com/example/sekhem/sekhem/model/Effects" "nightPrayer" "I" (.int (0 : Int32)) := D34 (Or.inr (hw _ (List.mem_of_getElem? (i := 31) rfl))) (ty := .int) (by decide)
        have F_prayer_b34 : Fld Z h34 b34 "com/example/sekhem/sekhem/model/Effects" "prayer" "I" (.int (0 : Int32)) := D34 (Or.inr (hw _ (List.mem_of_getElem? (i := 33) rfl))) (ty := .int) (by decide)
        obtain ⟨_, _, ⟨T37, L37, k37, n37⟩, -, X37, ⟨Lc37, hQ37, l37, y37, z37⟩, st37⟩ := X34.specialBack hx (y := (⟨"com/example/sekhem/sekhem/model/Effects", "<init>", "(IIILcom/example/sekhem/sekhem/model/Stance;IIII)V"⟩ : MethodName)) rfl hown (mvT hZ (hw _ (List.mem_of_getElem? (i := 7) rfl))) (mvT hZ (hw _ (List.mem_of_getElem? (i := 8) rfl))) (mvT hZ (hw _ (List.mem_of_getElem? (i := 9) rfl))) (by decide) (backOf (W := 1) (rm1 l Z a0 hw [] b34 p0 p1 p2 c0 p5 (p5 ^^^ (-1 : Int32)) (p0 ^^^ p5) (p1 - p5) (0 : Int32) (0 : Int32) (0 : Int32) (0 : Int32) (0 : Int32) (0 : Int32) (0 : Int32) h34 n0 Z36 E_b34 F_strength_b34 g_b34 F_defence_b34 F_damage_b34 F_when_b34 F_moves_b34 F_vp_b34 F_nightPrayer_b34 F_prayer_b34) hZ (hw _ (List.mem_of_getElem? (i := 9) rfl)) (hw _ (List.mem_of_getElem? (i := 6) rfl)) (by decide) (by decide)) (g := (mkF m 87 #[.val (.int p0), .val (.int p1), .val (.int p2), .val (.int p3), .val (.int p4), .val (.int p5), .val (.int (e0_1 p3)), .val (.ref c0), .val (.int (1 : Int32)), .val (.ref c0), .unset, .unset] [(.int (p1 - p5)), (.int (p0 ^^^ p5)), (.int (p5 ^^^ (-1 : Int32))), (.int p5), (.ref c0), (.int p2), (.int p1), (.int p0), (.ref b34), (.ref b34)])) rfl (by rw [hml]; rfl) (Steps.refl _) (a := b34) (argsL := [(.int p0), (.int p1), (.int p2), (.ref c0), (.int p5), (.int (p5 ^^^ (-1 : Int32))), (.int (p0 ^^^ p5)), (.int (p1 - p5))]) (rest := [(.ref b34)]) (lenOf pd_0_0 rfl) rfl (by show 2 * 0 + _ ≤ _; exact Nat.le_of_eq rfl) (hb hby at_87) (fun _ _ => ⟨rfl, e34, (by decide : 1 + 0 ≤ _), (by decide : 8 + 0 ≤ _)⟩)
        dsimp only [Pt.U, Pt.locs, Pt.cells, Pt.slots] at X37 l37 y37 z37 st37 hQ37
        subst l37 y37 z37
        obtain ⟨rfl, N37q, K37q, G37_0, G37_1, G37_2, G37_3, G37_4, G37_5, G37_6, G37_7⟩ := hQ37
        have N37 := Fr.app N0 N37q
        have K38 : Keep h0 T37.heap [] := K35.trans K37q (allS (Or.inr sz_b34) all0)
        have Z39 : n0 ≤ T37.heap.size := Nat.le_trans Z0 K38.1
        obtain ⟨LS37, X37, N37⟩ : ∃ L, Stand p l e room_1 s m #[(.int p0), (.int p1), (.int p2), (.int p3), (.int p4), (.int p5)] below meth c T37 L 1 8 ∧ Fr n0 L := ⟨_, X37, N37⟩
        have pre40 : ∀ t, Steps p.tables e below (T37.setTop (mkF m 94 #[.val (.int p0), .val (.int p1), .val (.int p2), .val (.int p3), .val (.int p4), .val (.int p5), .val (.int (e0_1 p3)), .val (.ref c0), .val (.int (1 : Int32)), .val (.ref c0), .val (.ref b34), .unset] [(.int (e0_1 p3))])) t → Steps p.tables e below (s₁.setTop (entryFrame m #[(.int p0), (.int p1), (.int p2), (.int p3), (.int p4), (.int p5)] maxLocals)) t := fun t kt => pre32 t (by
            show Steps p.tables e below (T29.setTop (mkF m 50 #[.val (.int p0), .val (.int p1), .val (.int p2), .val (.int p3), .val (.int p4), .val (.int p5), .val (.int (e0_1 p3)), .val (.ref c0), .val (.int (1 : Int32)), .unset, .unset, .unset] [(.int (1 : Int32))])) _
            refine XS.ifNo X29.here hx rfl (hb hby at_50) rfl ((if0 _ _).trans (feq (by decide : ¬ ((1 : Int32) = (0 : Int32)))).1) ?_
            show Steps p.tables e below (T29.setTop (mkF m 53 #[.val (.int p0), .val (.int p1), .val (.int p2), .val (.int p3), .val (.int p4), .val (.int p5), .val (.int (e0_1 p3)), .val (.ref c0), .val (.int (1 : Int32)), .unset, .unset, .unset] [])) _
            refine st33 _ ?_
            show Steps p.tables e below (T33.setTop (mkF m 56 #[.val (.int p0), .val (.int p1), .val (.int p2), .val (.int p3), .val (.int p4), .val (.int p5), .val (.int (e0_1 p3)), .val (.ref c0), .val (.int (1 : Int32)), .unset, .unset, .unset] [(.ref c0)])) _
            refine XS.goto X33.here hx rfl (pc0 := 56) (pc' := 62) rfl (hb hby at_56) (by decide) (by decide) ?_
            show Steps p.tables e below (T33.setTop (mkF m 62 #[.val (.int p0), .val (.int p1), .val (.int p2), .val (.int p3), .val (.int p4), .val (.int p5), .val (.int (e0_1 p3)), .val (.ref c0), .val (.int (1 : Int32)), .unset, .unset, .unset] [(.ref c0)])) _
            refine XS.astore X33.here hx rfl (hb hby at_62) rfl rfl (l' := #[.val (.int p0), .val (.int p1), .val (.int p2), .val (.int p3), .val (.int p4), .val (.int p5), .val (.int (e0_1 p3)), .val (.ref c0), .val (.int (1 : Int32)), .val (.ref c0), .unset, .unset]) rfl ?_
            show Steps p.tables e below (T33.setTop (mkF m 64 #[.val (.int p0), .val (.int p1), .val (.int p2), .val (.int p3), .val (.int p4), .val (.int p5), .val (.int (e0_1 p3)), .val (.ref c0), .val (.int (1 : Int32)), .val (.ref c0), .unset, .unset] [])) _
            refine st34 _ ?_
            show Steps p.tables e below (T34.setTop (mkF m 67 #[.val (.int p0), .val (.int p1), .val (.int p2), .val (.int p3), .val (.int p4), .val (.int p5), .val (.int (e0_1 p3)), .val (.ref c0), .val (.int (1 : Int32)), .val (.ref c0), .unset, .unset] [(.ref b34)])) _
            refine XS.dup X34.here hx rfl (hb hby at_67) rfl rfl ?_
            show Steps p.tables e below (T34.setTop (mkF m 68 #[.val (.int p0), .val (.int p1), .val (.int p2), .val (.int p3), .val (.int p4), .val (.int p5), .val (.int (e0_1 p3)), .val (.ref c0), .val (.int (1 : Int32)), .val (.ref c0), .unset, .unset] [(.ref b34), (.ref b34)])) _
            refine XS.iloadN X34.here hx rfl (hb hby at_68) rfl ?_
            show Steps p.tables e below (T34.setTop (mkF m 69 #[.val (.int p0), .val (.int p1), .val (.int p2), .val (.int p3), .val (.int p4), .val (.int p5), .val (.int (e0_1 p3)), .val (.ref c0), .val (.int (1 : Int32)), .val (.ref c0), .unset, .unset] [(.int p0), (.ref b34), (.ref b34)])) _
            refine XS.iloadN X34.here hx rfl (hb hby at_69) rfl ?_
            show Steps p.tables e below (T34.setTop (mkF m 70 #[.val (.int p0), .val (.int p1), .val (.int p2), .val (.int p3), .val (.int p4), .val (.int p5), .val (.int (e0_1 p3)), .val (.ref c0), .val (.int (1 : Int32)), .val (.ref c0), .unset, .unset] [(.int p1), (.int p0), (.ref b34), (.ref b34)])) _
            refine XS.iloadN X34.here hx rfl (hb hby at_70) rfl ?_
            show Steps p.tables e below (T34.setTop (mkF m 71 #[.val (.int p0), .val (.int p1), .val (.int p2), .val (.int p3), .val (.int p4), .val (.int p5), .val (.int (e0_1 p3)), .val (.ref c0), .val (.int (1 : Int32)), .val (.ref c0), .unset, .unset] [(.int p2), (.int p1), (.int p0), (.ref b34), (.ref b34)])) _
            refine XS.aload X34.here hx rfl (hb hby at_71) rfl rfl ?_
            show Steps p.tables e below (T34.setTop (mkF m 73 #[.val (.int p0), .val (.int p1), .val (.int p2), .val (.int p3), .val (.int p4), .val (.int p5), .val (.int (e0_1 p3)), .val (.ref c0), .val (.int (1 : Int32)), .val (.ref c0), .unset, .unset] [(.ref c0), (.int p2), (.int p1), (.int p0), (.ref b34), (.ref b34)])) _
            refine XS.iload X34.here hx rfl (hb hby at_73) rfl ?_
            show Steps p.tables e below (T34.setTop (mkF m 75 #[.val (.int p0), .val (.int p1), .val (.int p2), .val (.int p3), .val (.int p4), .val (.int p5), .val (.int (e0_1 p3)), .val (.ref c0), .val (.int (1 : Int32)), .val (.ref c0), .unset, .unset] [(.int p5), (.ref c0), (.int p2), (.int p1), (.int p0), (.ref b34), (.ref b34)])) _
            refine XS.iload X34.here hx rfl (hb hby at_75) rfl ?_
            show Steps p.tables e below (T34.setTop (mkF m 77 #[.val (.int p0), .val (.int p1), .val (.int p2), .val (.int p3), .val (.int p4), .val (.int p5), .val (.int (e0_1 p3)), .val (.ref c0), .val (.int (1 : Int32)), .val (.ref c0), .unset, .unset] [(.int p5), (.int p5), (.ref c0), (.int p2), (.int p1), (.int p0), (.ref b34), (.ref b34)])) _
            refine XS.iconst X34.here hx rfl (hb hby at_77) ?_
            show Steps p.tables e below (T34.setTop (mkF m 78 #[.val (.int p0), .val (.int p1), .val (.int p2), .val (.int p3), .val (.int p4), .val (.int p5), .val (.int (e0_1 p3)), .val (.ref c0), .val (.int (1 : Int32)), .val (.ref c0), .unset, .unset] [(.int (-1 : Int32)), (.int p5), (.int p5), (.ref c0), (.int p2), (.int p1), (.int p0), (.ref b34), (.ref b34)])) _
            refine XS.ixor X34.here hx rfl (hb hby at_78) rfl ?_
            show Steps p.tables e below (T34.setTop (mkF m 79 #[.val (.int p0), .val (.int p1), .val (.int p2), .val (.int p3), .val (.int p4), .val (.int p5), .val (.int (e0_1 p3)), .val (.ref c0), .val (.int (1 : Int32)), .val (.ref c0), .unset, .unset] [(.int (p5 ^^^ (-1 : Int32))), (.int p5), (.ref c0), (.int p2), (.int p1), (.int p0), (.ref b34), (.ref b34)])) _
            refine XS.iloadN X34.here hx rfl (hb hby at_79) rfl ?_
            show Steps p.tables e below (T34.setTop (mkF m 80 #[.val (.int p0), .val (.int p1), .val (.int p2), .val (.int p3), .val (.int p4), .val (.int p5), .val (.int (e0_1 p3)), .val (.ref c0), .val (.int (1 : Int32)), .val (.ref c0), .unset, .unset] [(.int p0), (.int (p5 ^^^ (-1 : Int32))), (.int p5), (.ref c0), (.int p2), (.int p1), (.int p0), (.ref b34), (.ref b34)])) _
            refine XS.iload X34.here hx rfl (hb hby at_80) rfl ?_
            show Steps p.tables e below (T34.setTop (mkF m 82 #[.val (.int p0), .val (.int p1), .val (.int p2), .val (.int p3), .val (.int p4), .val (.int p5), .val (.int (e0_1 p3)), .val (.ref c0), .val (.int (1 : Int32)), .val (.ref c0), .unset, .unset] [(.int p5), (.int p0), (.int (p5 ^^^ (-1 : Int32))), (.int p5), (.ref c0), (.int p2), (.int p1), (.int p0), (.ref b34), (.ref b34)])) _
            refine XS.ixor X34.here hx rfl (hb hby at_82) rfl ?_
            show Steps p.tables e below (T34.setTop (mkF m 83 #[.val (.int p0), .val (.int p1), .val (.int p2), .val (.int p3), .val (.int p4), .val (.int p5), .val (.int (e0_1 p3)), .val (.ref c0), .val (.int (1 : Int32)), .val (.ref c0), .unset, .unset] [(.int (p0 ^^^ p5)), (.int (p5 ^^^ (-1 : Int32))), (.int p5), (.ref c0), (.int p2), (.int p1), (.int p0), (.ref b34), (.ref b34)])) _
            refine XS.iloadN X34.here hx rfl (hb hby at_83) rfl ?_
            show Steps p.tables e below (T34.setTop (mkF m 84 #[.val (.int p0), .val (.int p1), .val (.int p2), .val (.int p3), .val (.int p4), .val (.int p5), .val (.int (e0_1 p3)), .val (.ref c0), .val (.int (1 : Int32)), .val (.ref c0), .unset, .unset] [(.int p1), (.int (p0 ^^^ p5)), (.int (p5 ^^^ (-1 : Int32))), (.int p5), (.ref c0), (.int p2), (.int p1), (.int p0), (.ref b34), (.ref b34)])) _
            refine XS.iload X34.here hx rfl (hb hby at_84) rfl ?_
            show Steps p.tables e below (T34.setTop (mkF m 86 #[.val (.int p0), .val (.int p1), .val (.int p2), .val (.int p3), .val (.int p4), .val (.int p5), .val (.int (e0_1 p3)), .val (.ref c0), .val (.int (1 : Int32)), .val (.ref c0), .unset, .unset] [(.int p5), (.int p1), (.int (p0 ^^^ p5)), (.int (p5 ^^^ (-1 : Int32))), (.int p5), (.ref c0), (.int p2), (.int p1), (.int p0), (.ref b34), (.ref b34)])) _
            refine XS.isub X34.here hx rfl (hb hby at_86) rfl ?_
            show Steps p.tables e below (T34.setTop (mkF m 87 #[.val (.int p0), .val (.int p1), .val (.int p2), .val (.int p3), .val (.int p4), .val (.int p5), .val (.int (e0_1 p3)), .val (.ref c0), .val (.int (1 : Int32)), .val (.ref c0), .unset, .unset] [(.int (p1 - p5)), (.int (p0 ^^^ p5)), (.int (p5 ^^^ (-1 : Int32))), (.int p5), (.ref c0), (.int p2), (.int p1), (.int p0), (.ref b34), (.ref b34)])) _
            refine st37.trans ?_
            show Steps p.tables e below (T37.setTop (mkF m 90 #[.val (.int p0), .val (.int p1), .val (.int p2), .val (.int p3), .val (.int p4), .val (.int p5), .val (.int (e0_1 p3)), .val (.ref c0), .val (.int (1 : Int32)), .val (.ref c0), .unset, .unset] [(.ref b34)])) _
            refine XS.astore X37.here hx rfl (hb hby at_90) rfl rfl (l' := #[.val (.int p0), .val (.int p1), .val (.int p2), .val (.int p3), .val (.int p4), .val (.int p5), .val (.int (e0_1 p3)), .val (.ref c0), .val (.int (1 : Int32)), .val (.ref c0), .val (.ref b34), .unset]) rfl ?_
            show Steps p.tables e below (T37.setTop (mkF m 92 #[.val (.int p0), .val (.int p1), .val (.int p2), .val (.int p3), .val (.int p4), .val (.int p5), .val (.int (e0_1 p3)), .val (.ref c0), .val (.int (1 : Int32)), .val (.ref c0), .val (.ref b34), .unset] [])) _
            refine XS.iload X37.here hx rfl (hb hby at_92) rfl ?_
            exact kt)
        have pre41 : ∀ t, Steps p.tables e below (T37.setTop (mkF m 106 #[.val (.int p0), .val (.int p1), .val (.int p2), .val (.int p3), .val (.int p4), .val (.int p5), .val (.int (e0_1 p3)), .val (.ref c0), .val (.int (1 : Int32)), .val (.ref c0), .val (.ref b34), .unset] [(.int (1 : Int32)), (.int (e0_1 p3))])) t → Steps p.tables e below (s₁.setTop (entryFrame m #[(.int p0), (.int p1), (.int p2), (.int p3), (.int p4), (.int p5)] maxLocals)) t := fun t kt => pre40 t (by
            show Steps p.tables e below (T37.setTop (mkF m 94 #[.val (.int p0), .val (.int p1), .val (.int p2), .val (.int p3), .val (.int p4), .val (.int p5), .val (.int (e0_1 p3)), .val (.ref c0), .val (.int (1 : Int32)), .val (.ref c0), .val (.ref b34), .unset] [(.int (e0_1 p3))])) _
            refine XS.ifYes X37.here hx rfl (pc0 := 94) (pc' := 103) rfl (hb hby at_94) rfl ((if0 _ _).trans (feq hc10_2).2) (by decide) (by decide) ?_
            show Steps p.tables e below (T37.setTop (mkF m 103 #[.val (.int p0), .val (.int p1), .val (.int p2), .val (.int p3), .val (.int p4), .val (.int p5), .val (.int (e0_1 p3)), .val (.ref c0), .val (.int (1 : Int32)), .val (.ref c0), .val (.ref b34), .unset] [])) _
            refine XS.iload X37.here hx rfl (hb hby at_103) rfl ?_
            show Steps p.tables e below (T37.setTop (mkF m 105 #[.val (.int p0), .val (.int p1), .val (.int p2), .val (.int p3), .val (.int p4), .val (.int p5), .val (.int (e0_1 p3)), .val (.ref c0), .val (.int (1 : Int32)), .val (.ref c0), .val (.ref b34), .unset] [(.int (e0_1 p3))])) _
            refine XS.iconst X37.here hx rfl (hb hby at_105) ?_
            exact kt)
        obtain ⟨cq42, kq42, q42a, q42b, q42c⟩ := isOf hZ rfl (E_b34.keep K37q)
        obtain ⟨_, _, ⟨T42, L42, k42, n42⟩, -, X42, ⟨Lc42, hQ42, l42, y42, z42⟩, st42⟩ := X37.virtualBack hx (y := (⟨"com/example/sekhem/sekhem/model/Effects", "countIn", "(Lcom/example/sekhem/sekhem/model/Stance;)Z"⟩ : MethodName)) (z := (⟨"com/example/sekhem/sekhem/model/Effects", "countIn", "(Lcom/example/sekhem/sekhem/model/Stance;)Z"⟩ : MethodName)) hown (mvT hZ (hw _ (List.mem_of_getElem? (i := 34) rfl))) (mvT hZ (hw _ (List.mem_of_getElem? (i := 35) rfl))) (notFace_of_selects (args := #[]) (mvT hZ (hw _ (List.mem_of_getElem? (i := 37) rfl)))) (mvT hZ (hw _ (List.mem_of_getElem? (i := 37) rfl))) (mvT hZ (hw _ (List.mem_of_getElem? (i := 36) rfl))) (by decide) (backOf (W := 0) (rm4 l Z a0 hw [] b34 c0 c0 T37.heap n0 Z39 G37_3) hZ (hw _ (List.mem_of_getElem? (i := 38) rfl)) (hw _ (List.mem_of_getElem? (i := 6) rfl)) (by decide) (by decide)) q42a q42c (g := (mkF m 132 #[.val (.int p0), .val (.int p1), .val (.int p2), .val (.int p3), .val (.int p4), .val (.int p5), .val (.int (e0_1 p3)), .val (.ref c0), .val (.int (1 : Int32)), .val (.ref c0), .val (.ref b34), .val (.int (1 : Int32))] [(.ref c0), (.ref b34)])) rfl (by rw [hml]; rfl) (Steps.refl _) (argsL := [(.ref c0)]) (rest := []) (lenOf pd_0_1 rfl) rfl (by show 2 * 0 + _ ≤ _; exact Nat.le_of_eq rfl) (hb hby at_132) (fun _ _ => ⟨rfl, rfl, (by decide : 1 + 0 ≤ _), (by decide : 8 + 0 ≤ _)⟩)
        dsimp only [Pt.U, Pt.locs, Pt.cells, Pt.slots] at X42 l42 y42 z42 st42 hQ42
        subst l42 y42 z42
        obtain ⟨rfl, N42q, e42q⟩ := hQ42
        have N42 := Fr.app N37 N42q
        have pre43 : ∀ t, Steps p.tables e below (T42.setTop (mkF m 137 #[.val (.int p0), .val (.int p1), .val (.int p2), .val (.int p3), .val (.int p4), .val (.int p5), .val (.int (e0_1 p3)), .val (.ref c0), .val (.int (1 : Int32)), .val (.ref c0), .val (.ref b34), .val (.int (1 : Int32))] [(.int (1 : Int32)), (.int (f4 c0 c0))])) t → Steps p.tables e below (s₁.setTop (entryFrame m #[(.int p0), (.int p1), (.int p2), (.int p3), (.int p4), (.int p5)] maxLocals)) t := fun t kt => pre41 t (by
            show Steps p.tables e below (T37.setTop (mkF m 106 #[.val (.int p0), .val (.int p1), .val (.int p2), .val (.int p3), .val (.int p4), .val (.int p5), .val (.int (e0_1 p3)), .val (.ref c0), .val (.int (1 : Int32)), .val (.ref c0), .val (.ref b34), .unset] [(.int (1 : Int32)), (.int (e0_1 p3))])) _
            refine XS.icmpNo X37.here hx rfl (hb hby at_106) rfl (teq hc20_28).2 ?_
            show Steps p.tables e below (T37.setTop (mkF m 109 #[.val (.int p0), .val (.int p1), .val (.int p2), .val (.int p3), .val (.int p4), .val (.int p5), .val (.int (e0_1 p3)), .val (.ref c0), .val (.int (1 : Int32)), .val (.ref c0), .val (.ref b34), .unset] [])) _
            refine XS.iload X37.here hx rfl (hb hby at_109) rfl ?_
            show Steps p.tables e below (T37.setTop (mkF m 111 #[.val (.int p0), .val (.int p1), .val (.int p2), .val (.int p3), .val (.int p4), .val (.int p5), .val (.int (e0_1 p3)), .val (.ref c0), .val (.int (1 : Int32)), .val (.ref c0), .val (.ref b34), .unset] [(.int (1 : Int32))])) _
            refine XS.istore X37.here hx rfl (hb hby at_111) rfl (l' := #[.val (.int p0), .val (.int p1), .val (.int p2), .val (.int p3), .val (.int p4), .val (.int p5), .val (.int (e0_1 p3)), .val (.ref c0), .val (.int (1 : Int32)), .val (.ref c0), .val (.ref b34), .val (.int (1 : Int32))]) rfl ?_
            show Steps p.tables e below (T37.setTop (mkF m 113 #[.val (.int p0), .val (.int p1), .val (.int p2), .val (.int p3), .val (.int p4), .val (.int p5), .val (.int (e0_1 p3)), .val (.ref c0), .val (.int (1 : Int32)), .val (.ref c0), .val (.ref b34), .val (.int (1 : Int32))] [])) _
            refine XS.goto X37.here hx rfl (pc0 := 113) (pc' := 128) rfl (hb hby at_113) (by decide) (by decide) ?_
            show Steps p.tables e below (T37.setTop (mkF m 128 #[.val (.int p0), .val (.int p1), .val (.int p2), .val (.int p3), .val (.int p4), .val (.int p5), .val (.int (e0_1 p3)), .val (.ref c0), .val (.int (1 : Int32)), .val (.ref c0), .val (.ref b34), .val (.int (1 : Int32))] [])) _
            refine XS.aload X37.here hx rfl (hb hby at_128) rfl rfl ?_
            show Steps p.tables e below (T37.setTop (mkF m 130 #[.val (.int p0), .val (.int p1), .val (.int p2), .val (.int p3), .val (.int p4), .val (.int p5), .val (.int (e0_1 p3)), .val (.ref c0), .val (.int (1 : Int32)), .val (.ref c0), .val (.ref b34), .val (.int (1 : Int32))] [(.ref b34)])) _
            refine XS.aload X37.here hx rfl (hb hby at_130) rfl rfl ?_
            show Steps p.tables e below (T37.setTop (mkF m 132 #[.val (.int p0), .val (.int p1), .val (.int p2), .val (.int p3), .val (.int p4), .val (.int p5), .val (.int (e0_1 p3)), .val (.ref c0), .val (.int (1 : Int32)), .val (.ref c0), .val (.ref b34), .val (.int (1 : Int32))] [(.ref c0), (.ref b34)])) _
            refine st42.trans ?_
            show Steps p.tables e below (T42.setTop (mkF m 135 #[.val (.int p0), .val (.int p1), .val (.int p2), .val (.int p3), .val (.int p4), .val (.int p5), .val (.int (e0_1 p3)), .val (.ref c0), .val (.int (1 : Int32)), .val (.ref c0), .val (.ref b34), .val (.int (1 : Int32))] [(.int (f4 c0 c0))])) _
            refine XS.iload X42.here hx rfl (hb hby at_135) rfl ?_
            exact kt)
        have hd137_44 : (f4 c0 c0) = (1 : Int32) := by rw [f4]; first | exact if_pos rfl | exact if_neg ne_c0_c1 | exact if_neg (Ne.symm ne_c0_c1)
        obtain ⟨fs, hr, hrun, hended, hW, hsame⟩ := X42.leave (v := some (.int (1 : Int32))) (fun h => by rw [Bd.returns] at h; cases h)
        have hv91 : (1 : Int32) = (1 : Int32) := rfl
        refine ⟨_, _, pre43 _ ?_, hrun, hended, _, _, rfl, ?_, ⟨_, rfl⟩, hW, hsame.mono (by decide) (by decide)⟩
        · show Steps p.tables e below (T42.setTop (mkF m 137 #[.val (.int p0), .val (.int p1), .val (.int p2), .val (.int p3), .val (.int p4), .val (.int p5), .val (.int (e0_1 p3)), .val (.ref c0), .val (.int (1 : Int32)), .val (.ref c0), .val (.ref b34), .val (.int (1 : Int32))] [(.int (1 : Int32)), (.int (f4 c0 c0))])) _
          refine XS.icmpNo X42.here hx rfl (hb hby at_137) rfl (teq hd137_44).2 ?_
          show Steps p.tables e below (T42.setTop (mkF m 140 #[.val (.int p0), .val (.int p1), .val (.int p2), .val (.int p3), .val (.int p4), .val (.int p5), .val (.int (e0_1 p3)), .val (.ref c0), .val (.int (1 : Int32)), .val (.ref c0), .val (.ref b34), .val (.int (1 : Int32))] [])) _
          refine XS.iconst X42.here hx rfl (hb hby at_140) ?_
          show Steps p.tables e below (T42.setTop (mkF m 141 #[.val (.int p0), .val (.int p1), .val (.int p2), .val (.int p3), .val (.int p4), .val (.int p5), .val (.int (e0_1 p3)), .val (.ref c0), .val (.int (1 : Int32)), .val (.ref c0), .val (.ref b34), .val (.int (1 : Int32))] [(.int (1 : Int32))])) _
          refine XS.goto X42.here hx rfl (pc0 := 141) (pc' := 145) rfl (hb hby at_141) (by decide) (by decide) ?_
          show Steps p.tables e below (T42.setTop (mkF m 145 #[.val (.int p0), .val (.int p1), .val (.int p2), .val (.int p3), .val (.int p4), .val (.int p5), .val (.int (e0_1 p3)), .val (.ref c0), .val (.int (1 : Int32)), .val (.ref c0), .val (.ref b34), .val (.int (1 : Int32))] [(.int (1 : Int32))])) _
          exact retN X42 hx (t := .boolean) Bd.returns (by simp) (hb hby at_145) hr
        · show Q0 Z p0 p1 p2 p3 p4 p5 c0 c1 h0 n0 _ T42.heap _
          rw [e42q]
          exact ⟨congrArg (fun q => some (Value.int q)) hv91, N42⟩
      · have pre45 : ∀ t, Steps p.tables e below (T29.setTop (mkF m 50 #[.val (.int p0), .val (.int p1), .val (.int p2), .val (.int p3), .val (.int p4), .val (.int p5), .val (.int (e0_1 p3)), .val (.ref c0), .val (.int (0 : Int32)), .unset, .unset, .unset] [(.int (0 : Int32))])) t → Steps p.tables e below (s₁.setTop (entryFrame m #[(.int p0), (.int p1), (.int p2), (.int p3), (.int p4), (.int p5)] maxLocals)) t := fun t kt => pre30 t (by
            show Steps p.tables e below (T29.setTop (mkF m 38 #[.val (.int p0), .val (.int p1), .val (.int p2), .val (.int p3), .val (.int p4), .val (.int p5), .val (.int (e0_1 p3)), .val (.ref c0), .unset, .unset, .unset, .unset] [(.int (p4 &&& (1 : Int32)))])) _
            refine XS.ifYes X29.here hx rfl (pc0 := 38) (pc' := 45) rfl (hb hby at_38) rfl ((if0 _ _).trans (feq hc38_31).2) (by decide) (by decide) ?_
            show Steps p.tables e below (T29.setTop (mkF m 45 #[.val (.int p0), .val (.int p1), .val (.int p2), .val (.int p3), .val (.int p4), .val (.int p5), .val (.int (e0_1 p3)), .val (.ref c0), .unset, .unset, .unset, .unset] [])) _
            refine XS.iconst X29.here hx rfl (hb hby at_45) ?_
            show Steps p.tables e below (T29.setTop (mkF m 46 #[.val (.int p0), .val (.int p1), .val (.int p2), .val (.int p3), .val (.int p4), .val (.int p5), .val (.int (e0_1 p3)), .val (.ref c0), .unset, .unset, .unset, .unset] [(.int (0 : Int32))])) _
            refine XS.istore X29.here hx rfl (hb hby at_46) rfl (l' := #[.val (.int p0), .val (.int p1), .val (.int p2), .val (.int p3), .val (.int p4), .val (.int p5), .val (.int (e0_1 p3)), .val (.ref c0), .val (.int (0 : Int32)), .unset, .unset, .unset]) rfl ?_
            show Steps p.tables e below (T29.setTop (mkF m 48 #[.val (.int p0), .val (.int p1), .val (.int p2), .val (.int p3), .val (.int p4), .val (.int p5), .val (.int (e0_1 p3)), .val (.ref c0), .val (.int (0 : Int32)), .unset, .unset, .unset] [])) _
            refine XS.iload X29.here hx rfl (hb hby at_48) rfl ?_
            exact kt)
        obtain ⟨T46, X46, e46, st46⟩ := getS2 X29 hx hZ hown (host := "") (Or.inl (hw _ (List.mem_of_getElem? (i := 39) rfl))) Via.refl e29 S_DEFENDING (g := (mkF m 59 #[.val (.int p0), .val (.int p1), .val (.int p2), .val (.int p3), .val (.int p4), .val (.int p5), .val (.int (e0_1 p3)), .val (.ref c0), .val (.int (0 : Int32)), .unset, .unset, .unset] [])) rfl (hb hby at_59)
        obtain ⟨T47, h47, X47, e47, E47, A47, D47, -, st47⟩ := newO X46 hx hZ hown (hw _ (List.mem_of_getElem? (i := 4) rfl)) (hw _ (List.mem_of_getElem? (i := 5) rfl)) (hw _ (List.mem_of_getElem? (i := 6) rfl)) e46 (g := (mkF m 64 #[.val (.int p0), .val (.int p1), .val (.int p2), .val (.int p3), .val (.int p4), .val (.int p5), .val (.int (e0_1 p3)), .val (.ref c0), .val (.int (0 : Int32)), .val (.ref c1), .unset, .unset] [])) rfl (hb hby at_64) (by decide) (by decide)
        obtain ⟨b47, g47⟩ : ∃ z, z = h0.size := ⟨_, rfl⟩
        rw [← g47] at A47 D47 st47
        have g_b47 : n0 ≤ b47 := Nat.le_trans Z0 (Nat.le_of_eq g47.symm)
        have sz_b47 : h0.size ≤ b47 := Nat.le_trans (Keep.refl h0 []).1 (Nat.le_of_eq g47.symm)
        have ne_c0_b47 : c0 ≠ b47 := Nat.ne_of_lt (Nat.lt_of_lt_of_le E_c0.lt (Nat.le_of_eq g47.symm))
        have ne_c1_b47 : c1 ≠ b47 := Nat.ne_of_lt (Nat.lt_of_lt_of_le E_c1.lt (Nat.le_of_eq g47.symm))
        have K48 : Keep h0 h47 [] := (Keep.refl h0 []).ext E47
        have Z49 : n0 ≤ h47.size := Nat.le_trans Z0 K48.1
        have E_b47 := A47
        have F_strength_b47 : Fld Z h47 b47 "com/example/sekhem/sekhem/model/Effects" "strength" "I" (.int (0 : Int32)) := D47 (Or.inr (hw _ (List.mem_of_getElem? (i := 19) rfl))) (ty := .int) (by decide)
        have F_defence_b47 : Fld Z h47 b47 "com/example/sekhem/sekhem/model/Effects" "defence" "I" (.int (0 : Int32)) := D47 (Or.inr (hw _ (List.mem_of_getElem? (i := 21) rfl))) (ty := .int) (by decide)
        have F_damage_b47 : Fld Z h47 b47 "com/example/sekhem/sekhem/model/Effects" "damage" "I" (.int (0 : Int32)) := D47 (Or.inr (hw _ (List.mem_of_getElem? (i := 23) rfl))) (ty := .int) (by decide)
        have F_when_b47 : Fld Z h47 b47 "com/example/sekhem/sekhem/model/Effects" "when" "Lcom/example/sekhem/sekhem/model/Stance;" .null := D47 (Or.inr (hw _ (List.mem_of_getElem? (i := 25) rfl))) (ty := (.object "com/example/sekhem/sekhem/model/Stance")) (by decide)
        have F_moves_b47 : Fld Z h47 b47 "com/example/sekhem/sekhem/model/Effects" "moves" "I" (.int (0 : Int32)) := D47 (Or.inr (hw _ (List.mem_of_getElem? (i := 27) rfl))) (ty := .int) (by decide)
        have F_vp_b47 : Fld Z h47 b47 "com/example/sekhem/sekhem/model/Effects" "vp" "I" (.int (0 : Int32)) := D47 (Or.inr (hw _ (List.mem_of_getElem? (i := 29) rfl))) (ty := .int) (by decide)
        have F_nightPrayer_b47 : Fld Z h47 b47 "com/example/sekhem/sekhem/model/Effects" "nightPrayer" "I" (.int (0 : Int32)) := D47 (Or.inr (hw _ (List.mem_of_getElem? (i := 31) rfl))) (ty := .int) (by decide)
        have F_prayer_b47 : Fld Z h47 b47 "com/example/sekhem/sekhem/model/Effects" "prayer" "I" (.int (0 : Int32)) := D47 (Or.inr (hw _ (List.mem_of_getElem? (i := 33) rfl))) (ty := .int) (by decide)
        obtain ⟨_, _, ⟨T50, L50, k50, n50⟩, -, X50, ⟨Lc50, hQ50, l50, y50, z50⟩, st50⟩ := X47.specialBack hx (y := (⟨"com/example/sekhem/sekhem/model/Effects", "<init>", "(IIILcom/example/sekhem/sekhem/model/Stance;IIII)V"⟩ : MethodName)) rfl hown (mvT hZ (hw _ (List.mem_of_getElem? (i := 7) rfl))) (mvT hZ (hw _ (List.mem_of_getElem? (i := 8) rfl))) (mvT hZ (hw _ (List.mem_of_getElem? (i := 9) rfl))) (by decide) (backOf (W := 1) (rm1 l Z a0 hw [] b47 p0 p1 p2 c0 p5 (p5 ^^^ (-1 : Int32)) (p0 ^^^ p5) (p1 - p5) (0 : Int32) (0 : Int32) (0 : Int32) (0 : Int32) (0 : Int32) (0 : Int32) (0 : Int32) h47 n0 Z49 E_b47 F_strength_b47 g_b47 F_defence_b47 F_damage_b47 F_when_b47 F_moves_b47 F_vp_b47 F_nightPrayer_b47 F_prayer_b47) hZ (hw _ (List.mem_of_getElem? (i := 9) rfl)) (hw _ (List.mem_of_getElem? (i := 6) rfl)) (by decide) (by decide)) (g := (mkF m 87 #[.val (.int p0), .val (.int p1), .val (.int p2), .val (.int p3), .val (.int p4), .val (.int p5), .val (.int (e0_1 p3)), .val (.ref c0), .val (.int (0 : Int32)), .val (.ref c1), .unset, .unset] [(.int (p1 - p5)), (.int (p0 ^^^ p5)), (.int (p5 ^^^ (-1 : Int32))), (.int p5), (.ref c0), (.int p2), (.int p1), (.int p0), (.ref b47), (.ref b47)])) rfl (by rw [hml]; rfl) (Steps.refl _) (a := b47) (argsL := [(.int p0), (.int p1), (.int p2), (.ref c0), (.int p5), (.int (p5 ^^^ (-1 : Int32))), (.int (p0 ^^^ p5)), (.int (p1 - p5))]) (rest := [(.ref b47)]) (lenOf pd_0_0 rfl) rfl (by show 2 * 0 + _ ≤ _; exact Nat.le_of_eq rfl) (hb hby at_87) (fun _ _ => ⟨rfl, e47, (by decide : 1 + 0 ≤ _), (by decide : 8 + 0 ≤ _)⟩)
        dsimp only [Pt.U, Pt.locs, Pt.cells, Pt.slots] at X50 l50 y50 z50 st50 hQ50
        subst l50 y50 z50
        obtain ⟨rfl, N50q, K50q, G50_0, G50_1, G50_2, G50_3, G50_4, G50_5, G50_6, G50_7⟩ := hQ50
        have N50 := Fr.app N0 N50q
        have K51 : Keep h0 T50.heap [] := K48.trans K50q (allS (Or.inr sz_b47) all0)
        have Z52 : n0 ≤ T50.heap.size := Nat.le_trans Z0 K51.1
        obtain ⟨LS50, X50, N50⟩ : ∃ L, Stand p l e room_1 s m #[(.int p0), (.int p1), (.int p2), (.int p3), (.int p4), (.int p5)] below meth c T50 L 1 8 ∧ Fr n0 L := ⟨_, X50, N50⟩
        have pre53 : ∀ t, Steps p.tables e below (T50.setTop (mkF m 94 #[.val (.int p0), .val (.int p1), .val (.int p2), .val (.int p3), .val (.int p4), .val (.int p5), .val (.int (e0_1 p3)), .val (.ref c0), .val (.int (0 : Int32)), .val (.ref c1), .val (.ref b47), .unset] [(.int (e0_1 p3))])) t → Steps p.tables e below (s₁.setTop (entryFrame m #[(.int p0), (.int p1), (.int p2), (.int p3), (.int p4), (.int p5)] maxLocals)) t := fun t kt => pre45 t (by
            show Steps p.tables e below (T29.setTop (mkF m 50 #[.val (.int p0), .val (.int p1), .val (.int p2), .val (.int p3), .val (.int p4), .val (.int p5), .val (.int (e0_1 p3)), .val (.ref c0), .val (.int (0 : Int32)), .unset, .unset, .unset] [(.int (0 : Int32))])) _
            refine XS.ifYes X29.here hx rfl (pc0 := 50) (pc' := 59) rfl (hb hby at_50) rfl ((if0 _ _).trans (teq (by decide : ((0 : Int32) = (0 : Int32)))).1) (by decide) (by decide) ?_
            show Steps p.tables e below (T29.setTop (mkF m 59 #[.val (.int p0), .val (.int p1), .val (.int p2), .val (.int p3), .val (.int p4), .val (.int p5), .val (.int (e0_1 p3)), .val (.ref c0), .val (.int (0 : Int32)), .unset, .unset, .unset] [])) _
            refine st46 _ ?_
            show Steps p.tables e below (T46.setTop (mkF m 62 #[.val (.int p0), .val (.int p1), .val (.int p2), .val (.int p3), .val (.int p4), .val (.int p5), .val (.int (e0_1 p3)), .val (.ref c0), .val (.int (0 : Int32)), .unset, .unset, .unset] [(.ref c1)])) _
            refine XS.astore X46.here hx rfl (hb hby at_62) rfl rfl (l' := #[.val (.int p0), .val (.int p1), .val (.int p2), .val (.int p3), .val (.int p4), .val (.int p5), .val (.int (e0_1 p3)), .val (.ref c0), .val (.int (0 : Int32)), .val (.ref c1), .unset, .unset]) rfl ?_
            show Steps p.tables e below (T46.setTop (mkF m 64 #[.val (.int p0), .val (.int p1), .val (.int p2), .val (.int p3), .val (.int p4), .val (.int p5), .val (.int (e0_1 p3)), .val (.ref c0), .val (.int (0 : Int32)), .val (.ref c1), .unset, .unset] [])) _
            refine st47 _ ?_
            show Steps p.tables e below (T47.setTop (mkF m 67 #[.val (.int p0), .val (.int p1), .val (.int p2), .val (.int p3), .val (.int p4), .val (.int p5), .val (.int (e0_1 p3)), .val (.ref c0), .val (.int (0 : Int32)), .val (.ref c1), .unset, .unset] [(.ref b47)])) _
            refine XS.dup X47.here hx rfl (hb hby at_67) rfl rfl ?_
            show Steps p.tables e below (T47.setTop (mkF m 68 #[.val (.int p0), .val (.int p1), .val (.int p2), .val (.int p3), .val (.int p4), .val (.int p5), .val (.int (e0_1 p3)), .val (.ref c0), .val (.int (0 : Int32)), .val (.ref c1), .unset, .unset] [(.ref b47), (.ref b47)])) _
            refine XS.iloadN X47.here hx rfl (hb hby at_68) rfl ?_
            show Steps p.tables e below (T47.setTop (mkF m 69 #[.val (.int p0), .val (.int p1), .val (.int p2), .val (.int p3), .val (.int p4), .val (.int p5), .val (.int (e0_1 p3)), .val (.ref c0), .val (.int (0 : Int32)), .val (.ref c1), .unset, .unset] [(.int p0), (.ref b47), (.ref b47)])) _
            refine XS.iloadN X47.here hx rfl (hb hby at_69) rfl ?_
            show Steps p.tables e below (T47.setTop (mkF m 70 #[.val (.int p0), .val (.int p1), .val (.int p2), .val (.int p3), .val (.int p4), .val (.int p5), .val (.int (e0_1 p3)), .val (.ref c0), .val (.int (0 : Int32)), .val (.ref c1), .unset, .unset] [(.int p1), (.int p0), (.ref b47), (.ref b47)])) _
            refine XS.iloadN X47.here hx rfl (hb hby at_70) rfl ?_
            show Steps p.tables e below (T47.setTop (mkF m 71 #[.val (.int p0), .val (.int p1), .val (.int p2), .val (.int p3), .val (.int p4), .val (.int p5), .val (.int (e0_1 p3)), .val (.ref c0), .val (.int (0 : Int32)), .val (.ref c1), .unset, .unset] [(.int p2), (.int p1), (.int p0), (.ref b47), (.ref b47)])) _
            refine XS.aload X47.here hx rfl (hb hby at_71) rfl rfl ?_
            show Steps p.tables e below (T47.setTop (mkF m 73 #[.val (.int p0), .val (.int p1), .val (.int p2), .val (.int p3), .val (.int p4), .val (.int p5), .val (.int (e0_1 p3)), .val (.ref c0), .val (.int (0 : Int32)), .val (.ref c1), .unset, .unset] [(.ref c0), (.int p2), (.int p1), (.int p0), (.ref b47), (.ref b47)])) _
            refine XS.iload X47.here hx rfl (hb hby at_73) rfl ?_
            show Steps p.tables e below (T47.setTop (mkF m 75 #[.val (.int p0), .val (.int p1), .val (.int p2), .val (.int p3), .val (.int p4), .val (.int p5), .val (.int (e0_1 p3)), .val (.ref c0), .val (.int (0 : Int32)), .val (.ref c1), .unset, .unset] [(.int p5), (.ref c0), (.int p2), (.int p1), (.int p0), (.ref b47), (.ref b47)])) _
            refine XS.iload X47.here hx rfl (hb hby at_75) rfl ?_
            show Steps p.tables e below (T47.setTop (mkF m 77 #[.val (.int p0), .val (.int p1), .val (.int p2), .val (.int p3), .val (.int p4), .val (.int p5), .val (.int (e0_1 p3)), .val (.ref c0), .val (.int (0 : Int32)), .val (.ref c1), .unset, .unset] [(.int p5), (.int p5), (.ref c0), (.int p2), (.int p1), (.int p0), (.ref b47), (.ref b47)])) _
            refine XS.iconst X47.here hx rfl (hb hby at_77) ?_
            show Steps p.tables e below (T47.setTop (mkF m 78 #[.val (.int p0), .val (.int p1), .val (.int p2), .val (.int p3), .val (.int p4), .val (.int p5), .val (.int (e0_1 p3)), .val (.ref c0), .val (.int (0 : Int32)), .val (.ref c1), .unset, .unset] [(.int (-1 : Int32)), (.int p5), (.int p5), (.ref c0), (.int p2), (.int p1), (.int p0), (.ref b47), (.ref b47)])) _
            refine XS.ixor X47.here hx rfl (hb hby at_78) rfl ?_
            show Steps p.tables e below (T47.setTop (mkF m 79 #[.val (.int p0), .val (.int p1), .val (.int p2), .val (.int p3), .val (.int p4), .val (.int p5), .val (.int (e0_1 p3)), .val (.ref c0), .val (.int (0 : Int32)), .val (.ref c1), .unset, .unset] [(.int (p5 ^^^ (-1 : Int32))), (.int p5), (.ref c0), (.int p2), (.int p1), (.int p0), (.ref b47), (.ref b47)])) _
            refine XS.iloadN X47.here hx rfl (hb hby at_79) rfl ?_
            show Steps p.tables e below (T47.setTop (mkF m 80 #[.val (.int p0), .val (.int p1), .val (.int p2), .val (.int p3), .val (.int p4), .val (.int p5), .val (.int (e0_1 p3)), .val (.ref c0), .val (.int (0 : Int32)), .val (.ref c1), .unset, .unset] [(.int p0), (.int (p5 ^^^ (-1 : Int32))), (.int p5), (.ref c0), (.int p2), (.int p1), (.int p0), (.ref b47), (.ref b47)])) _
            refine XS.iload X47.here hx rfl (hb hby at_80) rfl ?_
            show Steps p.tables e below (T47.setTop (mkF m 82 #[.val (.int p0), .val (.int p1), .val (.int p2), .val (.int p3), .val (.int p4), .val (.int p5), .val (.int (e0_1 p3)), .val (.ref c0), .val (.int (0 : Int32)), .val (.ref c1), .unset, .unset] [(.int p5), (.int p0), (.int (p5 ^^^ (-1 : Int32))), (.int p5), (.ref c0), (.int p2), (.int p1), (.int p0), (.ref b47), (.ref b47)])) _
            refine XS.ixor X47.here hx rfl (hb hby at_82) rfl ?_
            show Steps p.tables e below (T47.setTop (mkF m 83 #[.val (.int p0), .val (.int p1), .val (.int p2), .val (.int p3), .val (.int p4), .val (.int p5), .val (.int (e0_1 p3)), .val (.ref c0), .val (.int (0 : Int32)), .val (.ref c1), .unset, .unset] [(.int (p0 ^^^ p5)), (.int (p5 ^^^ (-1 : Int32))), (.int p5), (.ref c0), (.int p2), (.int p1), (.int p0), (.ref b47), (.ref b47)])) _
            refine XS.iloadN X47.here hx rfl (hb hby at_83) rfl ?_
            show Steps p.tables e below (T47.setTop (mkF m 84 #[.val (.int p0), .val (.int p1), .val (.int p2), .val (.int p3), .val (.int p4), .val (.int p5), .val (.int (e0_1 p3)), .val (.ref c0), .val (.int (0 : Int32)), .val (.ref c1), .unset, .unset] [(.int p1), (.int (p0 ^^^ p5)), (.int (p5 ^^^ (-1 : Int32))), (.int p5), (.ref c0), (.int p2), (.int p1), (.int p0), (.ref b47), (.ref b47)])) _
            refine XS.iload X47.here hx rfl (hb hby at_84) rfl ?_
            show Steps p.tables e below (T47.setTop (mkF m 86 #[.val (.int p0), .val (.int p1), .val (.int p2), .val (.int p3), .val (.int p4), .val (.int p5), .val (.int (e0_1 p3)), .val (.ref c0), .val (.int (0 : Int32)), .val (.ref c1), .unset, .unset] [(.int p5), (.int p1), (.int (p0 ^^^ p5)), (.int (p5 ^^^ (-1 : Int32))), (.int p5), (.ref c0), (.int p2), (.int p1), (.int p0), (.ref b47), (.ref b47)])) _
            refine XS.isub X47.here hx rfl (hb hby at_86) rfl ?_
            show Steps p.tables e below (T47.setTop (mkF m 87 #[.val (.int p0), .val (.int p1), .val (.int p2), .val (.int p3), .val (.int p4), .val (.int p5), .val (.int (e0_1 p3)), .val (.ref c0), .val (.int (0 : Int32)), .val (.ref c1), .unset, .unset] [(.int (p1 - p5)), (.int (p0 ^^^ p5)), (.int (p5 ^^^ (-1 : Int32))), (.int p5), (.ref c0), (.int p2), (.int p1), (.int p0), (.ref b47), (.ref b47)])) _
            refine st50.trans ?_
            show Steps p.tables e below (T50.setTop (mkF m 90 #[.val (.int p0), .val (.int p1), .val (.int p2), .val (.int p3), .val (.int p4), .val (.int p5), .val (.int (e0_1 p3)), .val (.ref c0), .val (.int (0 : Int32)), .val (.ref c1), .unset, .unset] [(.ref b47)])) _
            refine XS.astore X50.here hx rfl (hb hby at_90) rfl rfl (l' := #[.val (.int p0), .val (.int p1), .val (.int p2), .val (.int p3), .val (.int p4), .val (.int p5), .val (.int (e0_1 p3)), .val (.ref c0), .val (.int (0 : Int32)), .val (.ref c1), .val (.ref b47), .unset]) rfl ?_
            show Steps p.tables e below (T50.setTop (mkF m 92 #[.val (.int p0), .val (.int p1), .val (.int p2), .val (.int p3), .val (.int p4), .val (.int p5), .val (.int (e0_1 p3)), .val (.ref c0), .val (.int (0 : Int32)), .val (.ref c1), .val (.ref b47), .unset] [])) _
            refine XS.iload X50.here hx rfl (hb hby at_92) rfl ?_
            exact kt)
        have pre54 : ∀ t, Steps p.tables e below (T50.setTop (mkF m 106 #[.val (.int p0), .val (.int p1), .val (.int p2), .val (.int p3), .val (.int p4), .val (.int p5), .val (.int (e0_1 p3)), .val (.ref c0), .val (.int (0 : Int32)), .val (.ref c1), .val (.ref b47), .unset] [(.int (1 : Int32)), (.int (e0_1 p3))])) t → Steps p.tables e below (s₁.setTop (entryFrame m #[(.int p0), (.int p1), (.int p2), (.int p3), (.int p4), (.int p5)] maxLocals)) t := fun t kt => pre53 t (by
            show Steps p.tables e below (T50.setTop (mkF m 94 #[.val (.int p0), .val (.int p1), .val (.int p2), .val (.int p3), .val (.int p4), .val (.int p5), .val (.int (e0_1 p3)), .val (.ref c0), .val (.int (0 : Int32)), .val (.ref c1), .val (.ref b47), .unset] [(.int (e0_1 p3))])) _
            refine XS.ifYes X50.here hx rfl (pc0 := 94) (pc' := 103) rfl (hb hby at_94) rfl ((if0 _ _).trans (feq hc10_2).2) (by decide) (by decide) ?_
            show Steps p.tables e below (T50.setTop (mkF m 103 #[.val (.int p0), .val (.int p1), .val (.int p2), .val (.int p3), .val (.int p4), .val (.int p5), .val (.int (e0_1 p3)), .val (.ref c0), .val (.int (0 : Int32)), .val (.ref c1), .val (.ref b47), .unset] [])) _
            refine XS.iload X50.here hx rfl (hb hby at_103) rfl ?_
            show Steps p.tables e below (T50.setTop (mkF m 105 #[.val (.int p0), .val (.int p1), .val (.int p2), .val (.int p3), .val (.int p4), .val (.int p5), .val (.int (e0_1 p3)), .val (.ref c0), .val (.int (0 : Int32)), .val (.ref c1), .val (.ref b47), .unset] [(.int (e0_1 p3))])) _
            refine XS.iconst X50.here hx rfl (hb hby at_105) ?_
            exact kt)
        obtain ⟨cq55, kq55, q55a, q55b, q55c⟩ := isOf hZ rfl (E_b47.keep K50q)
        obtain ⟨_, _, ⟨T55, L55, k55, n55⟩, -, X55, ⟨Lc55, hQ55, l55, y55, z55⟩, st55⟩ := X50.virtualBack hx (y := (⟨"com/example/sekhem/sekhem/model/Effects", "countIn", "(Lcom/example/sekhem/sekhem/model/Stance;)Z"⟩ : MethodName)) (z := (⟨"com/example/sekhem/sekhem/model/Effects", "countIn", "(Lcom/example/sekhem/sekhem/model/Stance;)Z"⟩ : MethodName)) hown (mvT hZ (hw _ (List.mem_of_getElem? (i := 34) rfl))) (mvT hZ (hw _ (List.mem_of_getElem? (i := 35) rfl))) (notFace_of_selects (args := #[]) (mvT hZ (hw _ (List.mem_of_getElem? (i := 37) rfl)))) (mvT hZ (hw _ (List.mem_of_getElem? (i := 37) rfl))) (mvT hZ (hw _ (List.mem_of_getElem? (i := 36) rfl))) (by decide) (backOf (W := 0) (rm4 l Z a0 hw [] b47 c1 c0 T50.heap n0 Z52 G50_3) hZ (hw _ (List.mem_of_getElem? (i := 38) rfl)) (hw _ (List.mem_of_getElem? (i := 6) rfl)) (by decide) (by decide)) q55a q55c (g := (mkF m 132 #[.val (.int p0), .val (.int p1), .val (.int p2), .val (.int p3), .val (.int p4), .val (.int p5), .val (.int (e0_1 p3)), .val (.ref c0), .val (.int (0 : Int32)), .val (.ref c1), .val (.ref b47), .val (.int (0 : Int32))] [(.ref c1), (.ref b47)])) rfl (by rw [hml]; rfl) (Steps.refl _) (argsL := [(.ref c1)]) (rest := []) (lenOf pd_0_1 rfl) rfl (by show 2 * 0 + _ ≤ _; exact Nat.le_of_eq rfl) (hb hby at_132) (fun _ _ => ⟨rfl, rfl, (by decide : 1 + 0 ≤ _), (by decide : 8 + 0 ≤ _)⟩)
        dsimp only [Pt.U, Pt.locs, Pt.cells, Pt.slots] at X55 l55 y55 z55 st55 hQ55
        subst l55 y55 z55
        obtain ⟨rfl, N55q, e55q⟩ := hQ55
        have N55 := Fr.app N50 N55q
        have pre56 : ∀ t, Steps p.tables e below (T55.setTop (mkF m 137 #[.val (.int p0), .val (.int p1), .val (.int p2), .val (.int p3), .val (.int p4), .val (.int p5), .val (.int (e0_1 p3)), .val (.ref c0), .val (.int (0 : Int32)), .val (.ref c1), .val (.ref b47), .val (.int (0 : Int32))] [(.int (0 : Int32)), (.int (f4 c1 c0))])) t → Steps p.tables e below (s₁.setTop (entryFrame m #[(.int p0), (.int p1), (.int p2), (.int p3), (.int p4), (.int p5)] maxLocals)) t := fun t kt => pre54 t (by
            show Steps p.tables e below (T50.setTop (mkF m 106 #[.val (.int p0), .val (.int p1), .val (.int p2), .val (.int p3), .val (.int p4), .val (.int p5), .val (.int (e0_1 p3)), .val (.ref c0), .val (.int (0 : Int32)), .val (.ref c1), .val (.ref b47), .unset] [(.int (1 : Int32)), (.int (e0_1 p3))])) _
            refine XS.icmpNo X50.here hx rfl (hb hby at_106) rfl (teq hc20_28).2 ?_
            show Steps p.tables e below (T50.setTop (mkF m 109 #[.val (.int p0), .val (.int p1), .val (.int p2), .val (.int p3), .val (.int p4), .val (.int p5), .val (.int (e0_1 p3)), .val (.ref c0), .val (.int (0 : Int32)), .val (.ref c1), .val (.ref b47), .unset] [])) _
            refine XS.iload X50.here hx rfl (hb hby at_109) rfl ?_
            show Steps p.tables e below (T50.setTop (mkF m 111 #[.val (.int p0), .val (.int p1), .val (.int p2), .val (.int p3), .val (.int p4), .val (.int p5), .val (.int (e0_1 p3)), .val (.ref c0), .val (.int (0 : Int32)), .val (.ref c1), .val (.ref b47), .unset] [(.int (0 : Int32))])) _
            refine XS.istore X50.here hx rfl (hb hby at_111) rfl (l' := #[.val (.int p0), .val (.int p1), .val (.int p2), .val (.int p3), .val (.int p4), .val (.int p5), .val (.int (e0_1 p3)), .val (.ref c0), .val (.int (0 : Int32)), .val (.ref c1), .val (.ref b47), .val (.int (0 : Int32))]) rfl ?_
            show Steps p.tables e below (T50.setTop (mkF m 113 #[.val (.int p0), .val (.int p1), .val (.int p2), .val (.int p3), .val (.int p4), .val (.int p5), .val (.int (e0_1 p3)), .val (.ref c0), .val (.int (0 : Int32)), .val (.ref c1), .val (.ref b47), .val (.int (0 : Int32))] [])) _
            refine XS.goto X50.here hx rfl (pc0 := 113) (pc' := 128) rfl (hb hby at_113) (by decide) (by decide) ?_
            show Steps p.tables e below (T50.setTop (mkF m 128 #[.val (.int p0), .val (.int p1), .val (.int p2), .val (.int p3), .val (.int p4), .val (.int p5), .val (.int (e0_1 p3)), .val (.ref c0), .val (.int (0 : Int32)), .val (.ref c1), .val (.ref b47), .val (.int (0 : Int32))] [])) _
            refine XS.aload X50.here hx rfl (hb hby at_128) rfl rfl ?_
            show Steps p.tables e below (T50.setTop (mkF m 130 #[.val (.int p0), .val (.int p1), .val (.int p2), .val (.int p3), .val (.int p4), .val (.int p5), .val (.int (e0_1 p3)), .val (.ref c0), .val (.int (0 : Int32)), .val (.ref c1), .val (.ref b47), .val (.int (0 : Int32))] [(.ref b47)])) _
            refine XS.aload X50.here hx rfl (hb hby at_130) rfl rfl ?_
            show Steps p.tables e below (T50.setTop (mkF m 132 #[.val (.int p0), .val (.int p1), .val (.int p2), .val (.int p3), .val (.int p4), .val (.int p5), .val (.int (e0_1 p3)), .val (.ref c0), .val (.int (0 : Int32)), .val (.ref c1), .val (.ref b47), .val (.int (0 : Int32))] [(.ref c1), (.ref b47)])) _
            refine st55.trans ?_
            show Steps p.tables e below (T55.setTop (mkF m 135 #[.val (.int p0), .val (.int p1), .val (.int p2), .val (.int p3), .val (.int p4), .val (.int p5), .val (.int (e0_1 p3)), .val (.ref c0), .val (.int (0 : Int32)), .val (.ref c1), .val (.ref b47), .val (.int (0 : Int32))] [(.int (f4 c1 c0))])) _
            refine XS.iload X55.here hx rfl (hb hby at_135) rfl ?_
            exact kt)
        have hd137_57 : (f4 c1 c0) = (0 : Int32) := by rw [f4]; first | exact if_pos rfl | exact if_neg ne_c0_c1 | exact if_neg (Ne.symm ne_c0_c1)
        obtain ⟨fs, hr, hrun, hended, hW, hsame⟩ := X55.leave (v := some (.int (1 : Int32))) (fun h => by rw [Bd.returns] at h; cases h)
        have hv92 : (1 : Int32) = (1 : Int32) := rfl
        refine ⟨_, _, pre56 _ ?_, hrun, hended, _, _, rfl, ?_, ⟨_, rfl⟩, hW, hsame.mono (by decide) (by decide)⟩
        · show Steps p.tables e below (T55.setTop (mkF m 137 #[.val (.int p0), .val (.int p1), .val (.int p2), .val (.int p3), .val (.int p4), .val (.int p5), .val (.int (e0_1 p3)), .val (.ref c0), .val (.int (0 : Int32)), .val (.ref c1), .val (.ref b47), .val (.int (0 : Int32))] [(.int (0 : Int32)), (.int (f4 c1 c0))])) _
          refine XS.icmpNo X55.here hx rfl (hb hby at_137) rfl (teq hd137_57).2 ?_
          show Steps p.tables e below (T55.setTop (mkF m 140 #[.val (.int p0), .val (.int p1), .val (.int p2), .val (.int p3), .val (.int p4), .val (.int p5), .val (.int (e0_1 p3)), .val (.ref c0), .val (.int (0 : Int32)), .val (.ref c1), .val (.ref b47), .val (.int (0 : Int32))] [])) _
          refine XS.iconst X55.here hx rfl (hb hby at_140) ?_
          show Steps p.tables e below (T55.setTop (mkF m 141 #[.val (.int p0), .val (.int p1), .val (.int p2), .val (.int p3), .val (.int p4), .val (.int p5), .val (.int (e0_1 p3)), .val (.ref c0), .val (.int (0 : Int32)), .val (.ref c1), .val (.ref b47), .val (.int (0 : Int32))] [(.int (1 : Int32))])) _
          refine XS.goto X55.here hx rfl (pc0 := 141) (pc' := 145) rfl (hb hby at_141) (by decide) (by decide) ?_
          show Steps p.tables e below (T55.setTop (mkF m 145 #[.val (.int p0), .val (.int p1), .val (.int p2), .val (.int p3), .val (.int p4), .val (.int p5), .val (.int (e0_1 p3)), .val (.ref c0), .val (.int (0 : Int32)), .val (.ref c1), .val (.ref b47), .val (.int (0 : Int32))] [(.int (1 : Int32))])) _
          exact retN X55 hx (t := .boolean) Bd.returns (by simp) (hb hby at_145) hr
        · show Q0 Z p0 p1 p2 p3 p4 p5 c0 c1 h0 n0 _ T55.heap _
          rw [e55q]
          exact ⟨congrArg (fun q => some (Value.int q)) hv92, N55⟩
    · obtain ⟨T58, X58, e58, st58⟩ := getS2 X0 hx hZ hown (host := "") (Or.inl (hw _ (List.mem_of_getElem? (i := 39) rfl))) Via.refl e0 S_DEFENDING (g := (mkF m 29 #[.val (.int p0), .val (.int p1), .val (.int p2), .val (.int p3), .val (.int p4), .val (.int p5), .val (.int (e0_1 p3)), .unset, .unset, .unset, .unset, .unset] [])) rfl (hb hby at_29)
      have pre59 : ∀ t, Steps p.tables e below (T58.setTop (mkF m 38 #[.val (.int p0), .val (.int p1), .val (.int p2), .val (.int p3), .val (.int p4), .val (.int p5), .val (.int (e0_1 p3)), .val (.ref c1), .unset, .unset, .unset, .unset] [(.int (p4 &&& (1 : Int32)))])) t → Steps p.tables e below (s₁.setTop (entryFrame m #[(.int p0), (.int p1), (.int p2), (.int p3), (.int p4), (.int p5)] maxLocals)) t := fun t kt => pre27 t (by
          show Steps p.tables e below (s₁.setTop (mkF m 20 #[.val (.int p0), .val (.int p1), .val (.int p2), .val (.int p3), .val (.int p4), .val (.int p5), .val (.int (e0_1 p3)), .unset, .unset, .unset, .unset, .unset] [(.int (1 : Int32)), (.int (e0_1 p3))])) _
          refine XS.icmpYes X0.here hx rfl (pc0 := 20) (pc' := 29) rfl (hb hby at_20) rfl (feq hc20_28).2 (by decide) (by decide) ?_
          show Steps p.tables e below (s₁.setTop (mkF m 29 #[.val (.int p0), .val (.int p1), .val (.int p2), .val (.int p3), .val (.int p4), .val (.int p5), .val (.int (e0_1 p3)), .unset, .unset, .unset, .unset, .unset] [])) _
          refine st58 _ ?_
          show Steps p.tables e below (T58.setTop (mkF m 32 #[.val (.int p0), .val (.int p1), .val (.int p2), .val (.int p3), .val (.int p4), .val (.int p5), .val (.int (e0_1 p3)), .unset, .unset, .unset, .unset, .unset] [(.ref c1)])) _
          refine XS.astore X58.here hx rfl (hb hby at_32) rfl rfl (l' := #[.val (.int p0), .val (.int p1), .val (.int p2), .val (.int p3), .val (.int p4), .val (.int p5), .val (.int (e0_1 p3)), .val (.ref c1), .unset, .unset, .unset, .unset]) rfl ?_
          show Steps p.tables e below (T58.setTop (mkF m 34 #[.val (.int p0), .val (.int p1), .val (.int p2), .val (.int p3), .val (.int p4), .val (.int p5), .val (.int (e0_1 p3)), .val (.ref c1), .unset, .unset, .unset, .unset] [])) _
          refine XS.iload X58.here hx rfl (hb hby at_34) rfl ?_
          show Steps p.tables e below (T58.setTop (mkF m 36 #[.val (.int p0), .val (.int p1), .val (.int p2), .val (.int p3), .val (.int p4), .val (.int p5), .val (.int (e0_1 p3)), .val (.ref c1), .unset, .unset, .unset, .unset] [(.int p4)])) _
          refine XS.iconst X58.here hx rfl (hb hby at_36) ?_
          show Steps p.tables e below (T58.setTop (mkF m 37 #[.val (.int p0), .val (.int p1), .val (.int p2), .val (.int p3), .val (.int p4), .val (.int p5), .val (.int (e0_1 p3)), .val (.ref c1), .unset, .unset, .unset, .unset] [(.int (1 : Int32)), (.int p4)])) _
          refine XS.iand X58.here hx rfl (hb hby at_37) rfl ?_
          exact kt)
      by_cases hc38_60 : (p4 &&& (1 : Int32)) = (0 : Int32)
      · have pre61 : ∀ t, Steps p.tables e below (T58.setTop (mkF m 50 #[.val (.int p0), .val (.int p1), .val (.int p2), .val (.int p3), .val (.int p4), .val (.int p5), .val (.int (e0_1 p3)), .val (.ref c1), .val (.int (1 : Int32)), .unset, .unset, .unset] [(.int (1 : Int32))])) t → Steps p.tables e below (s₁.setTop (entryFrame m #[(.int p0), (.int p1), (.int p2), (.int p3), (.int p4), (.int p5)] maxLocals)) t := fun t kt => pre59 t (by
            show Steps p.tables e below (T58.setTop (mkF m 38 #[.val (.int p0), .val (.int p1), .val (.int p2), .val (.int p3), .val (.int p4), .val (.int p5), .val (.int (e0_1 p3)), .val (.ref c1), .unset, .unset, .unset, .unset] [(.int (p4 &&& (1 : Int32)))])) _
            refine XS.ifNo X58.here hx rfl (hb hby at_38) rfl ((if0 _ _).trans (teq hc38_60).2) ?_
            show Steps p.tables e below (T58.setTop (mkF m 41 #[.val (.int p0), .val (.int p1), .val (.int p2), .val (.int p3), .val (.int p4), .val (.int p5), .val (.int (e0_1 p3)), .val (.ref c1), .unset, .unset, .unset, .unset] [])) _
            refine XS.iconst X58.here hx rfl (hb hby at_41) ?_
            show Steps p.tables e below (T58.setTop (mkF m 42 #[.val (.int p0), .val (.int p1), .val (.int p2), .val (.int p3), .val (.int p4), .val (.int p5), .val (.int (e0_1 p3)), .val (.ref c1), .unset, .unset, .unset, .unset] [(.int (1 : Int32))])) _
            refine XS.goto X58.here hx rfl (pc0 := 42) (pc' := 46) rfl (hb hby at_42) (by decide) (by decide) ?_
            show Steps p.tables e below (T58.setTop (mkF m 46 #[.val (.int p0), .val (.int p1), .val (.int p2), .val (.int p3), .val (.int p4), .val (.int p5), .val (.int (e0_1 p3)), .val (.ref c1), .unset, .unset, .unset, .unset] [(.int (1 : Int32))])) _
            refine XS.istore X58.here hx rfl (hb hby at_46) rfl (l' := #[.val (.int p0), .val (.int p1), .val (.int p2), .val (.int p3), .val (.int p4), .val (.int p5), .val (.int (e0_1 p3)), .val (.ref c1), .val (.int (1 : Int32)), .unset, .unset, .unset]) rfl ?_
            show Steps p.tables e below (T58.setTop (mkF m 48 #[.val (.int p0), .val (.int p1), .val (.int p2), .val (.int p3), .val (.int p4), .val (.int p5), .val (.int (e0_1 p3)), .val (.ref c1), .val (.int (1 : Int32)), .unset, .unset, .unset] [])) _
            refine XS.iload X58.here hx rfl (hb hby at_48) rfl ?_
            exact kt)
        obtain ⟨T62, X62, e62, st62⟩ := getS2 X58 hx hZ hown (host := "") (Or.inl (hw _ (List.mem_of_getElem? (i := 1) rfl))) Via.refl e58 S_ATTACKING (g := (mkF m 53 #[.val (.int p0), .val (.int p1), .val (.int p2), .val (.int p3), .val (.int p4), .val (.int p5), .val (.int (e0_1 p3)), .val (.ref c1), .val (.int (1 : Int32)), .unset, .unset, .unset] [])) rfl (hb hby at_53)
        obtain ⟨T63, h63, X63, e63, E63, A63, D63, -, st63⟩ := newO X62 hx hZ hown (hw _ (List.mem_of_getElem? (i := 4) rfl)) (hw _ (List.mem_of_getElem? (i := 5) rfl)) (hw _ (List.mem_of_getElem? (i := 6) rfl)) e62 (g := (mkF m 64 #[.val (.int p0), .val (.int p1), .val (.int p2), .val (.int p3), .val (.int p4), .val (.int p5), .val (.int (e0_1 p3)), .val (.ref c1), .val (.int (1 : Int32)), .val (.ref c0), .unset, .unset] [])) rfl (hb hby at_64) (by decide) (by decide)
        obtain ⟨b63, g63⟩ : ∃ z, z = h0.size := ⟨_, rfl⟩
        rw [← g63] at A63 D63 st63
        have g_b63 : n0 ≤ b63 := Nat.le_trans Z0 (Nat.le_of_eq g63.symm)
        have sz_b63 : h0.size ≤ b63 := Nat.le_trans (Keep.refl h0 []).1 (Nat.le_of_eq g63.symm)
        have ne_c0_b63 : c0 ≠ b63 := Nat.ne_of_lt (Nat.lt_of_lt_of_le E_c0.lt (Nat.le_of_eq g63.symm))
        have ne_c1_b63 : c1 ≠ b63 := Nat.ne_of_lt (Nat.lt_of_lt_of_le E_c1.lt (Nat.le_of_eq g63.symm))
        have K64 : Keep h0 h63 [] := (Keep.refl h0 []).ext E63
        have Z65 : n0 ≤ h63.size := Nat.le_trans Z0 K64.1
        have E_b63 := A63
        have F_strength_b63 : Fld Z h63 b63 "com/example/sekhem/sekhem/model/Effects" "strength" "I" (.int (0 : Int32)) := D63 (Or.inr (hw _ (List.mem_of_getElem? (i := 19) rfl))) (ty := .int) (by decide)
        have F_defence_b63 : Fld Z h63 b63 "com/example/sekhem/sekhem/model/Effects" "defence" "I" (.int (0 : Int32)) := D63 (Or.inr (hw _ (List.mem_of_getElem? (i := 21) rfl))) (ty := .int) (by decide)
        have F_damage_b63 : Fld Z h63 b63 "com/example/sekhem/sekhem/model/Effects" "damage" "I" (.int (0 : Int32)) := D63 (Or.inr (hw _ (List.mem_of_getElem? (i := 23) rfl))) (ty := .int) (by decide)
        have F_when_b63 : Fld Z h63 b63 "com/example/sekhem/sekhem/model/Effects" "when" "Lcom/example/sekhem/sekhem/model/Stance;" .null := D63 (Or.inr (hw _ (List.mem_of_getElem? (i := 25) rfl))) (ty := (.object "com/example/sekhem/sekhem/model/Stance")) (by decide)
        have F_moves_b63 : Fld Z h63 b63 "com/example/sekhem/sekhem/model/Effects" "moves" "I" (.int (0 : Int32)) := D63 (Or.inr (hw _ (List.mem_of_getElem? (i := 27) rfl))) (ty := .int) (by decide)
        have F_vp_b63 : Fld Z h63 b63 "com/example/sekhem/sekhem/model/Effects" "vp" "I" (.int (0 : Int32)) := D63 (Or.inr (hw _ (List.mem_of_getElem? (i := 29) rfl))) (ty := .int) (by decide)
        have F_nightPrayer_b63 : Fld Z h63 b63 "com/example/sekhem/sekhem/model/Effects" "nightPrayer" "I" (.int (0 : Int32)) := D63 (Or.inr (hw _ (List.mem_of_getElem? (i := 31) rfl))) (ty := .int) (by decide)
        have F_prayer_b63 : Fld Z h63 b63 "com/example/sekhem/sekhem/model/Effects" "prayer" "I" (.int (0 : Int32)) := D63 (Or.inr (hw _ (List.mem_of_getElem? (i := 33) rfl))) (ty := .int) (by decide)
        obtain ⟨_, _, ⟨T66, L66, k66, n66⟩, -, X66, ⟨Lc66, hQ66, l66, y66, z66⟩, st66⟩ := X63.specialBack hx (y := (⟨"com/example/sekhem/sekhem/model/Effects", "<init>", "(IIILcom/example/sekhem/sekhem/model/Stance;IIII)V"⟩ : MethodName)) rfl hown (mvT hZ (hw _ (List.mem_of_getElem? (i := 7) rfl))) (mvT hZ (hw _ (List.mem_of_getElem? (i := 8) rfl))) (mvT hZ (hw _ (List.mem_of_getElem? (i := 9) rfl))) (by decide) (backOf (W := 1) (rm1 l Z a0 hw [] b63 p0 p1 p2 c1 p5 (p5 ^^^ (-1 : Int32)) (p0 ^^^ p5) (p1 - p5) (0 : Int32) (0 : Int32) (0 : Int32) (0 : Int32) (0 : Int32) (0 : Int32) (0 : Int32) h63 n0 Z65 E_b63 F_strength_b63 g_b63 F_defence_b63 F_damage_b63 F_when_b63 F_moves_b63 F_vp_b63 F_nightPrayer_b63 F_prayer_b63) hZ (hw _ (List.mem_of_getElem? (i := 9) rfl)) (hw _ (List.mem_of_getElem? (i := 6) rfl)) (by decide) (by decide)) (g := (mkF m 87 #[.val (.int p0), .val (.int p1), .val (.int p2), .val (.int p3), .val (.int p4), .val (.int p5), .val (.int (e0_1 p3)), .val (.ref c1), .val (.int (1 : Int32)), .val (.ref c0), .unset, .unset] [(.int (p1 - p5)), (.int (p0 ^^^ p5)), (.int (p5 ^^^ (-1 : Int32))), (.int p5), (.ref c1), (.int p2), (.int p1), (.int p0), (.ref b63), (.ref b63)])) rfl (by rw [hml]; rfl) (Steps.refl _) (a := b63) (argsL := [(.int p0), (.int p1), (.int p2), (.ref c1), (.int p5), (.int (p5 ^^^ (-1 : Int32))), (.int (p0 ^^^ p5)), (.int (p1 - p5))]) (rest := [(.ref b63)]) (lenOf pd_0_0 rfl) rfl (by show 2 * 0 + _ ≤ _; exact Nat.le_of_eq rfl) (hb hby at_87) (fun _ _ => ⟨rfl, e63, (by decide : 1 + 0 ≤ _), (by decide : 8 + 0 ≤ _)⟩)
        dsimp only [Pt.U, Pt.locs, Pt.cells, Pt.slots] at X66 l66 y66 z66 st66 hQ66
        subst l66 y66 z66
        obtain ⟨rfl, N66q, K66q, G66_0, G66_1, G66_2, G66_3, G66_4, G66_5, G66_6, G66_7⟩ := hQ66
        have N66 := Fr.app N0 N66q
        have K67 : Keep h0 T66.heap [] := K64.trans K66q (allS (Or.inr sz_b63) all0)
        have Z68 : n0 ≤ T66.heap.size := Nat.le_trans Z0 K67.1
        obtain ⟨LS66, X66, N66⟩ : ∃ L, Stand p l e room_1 s m #[(.int p0), (.int p1), (.int p2), (.int p3), (.int p4), (.int p5)] below meth c T66 L 1 8 ∧ Fr n0 L := ⟨_, X66, N66⟩
        have pre69 : ∀ t, Steps p.tables e below (T66.setTop (mkF m 94 #[.val (.int p0), .val (.int p1), .val (.int p2), .val (.int p3), .val (.int p4), .val (.int p5), .val (.int (e0_1 p3)), .val (.ref c1), .val (.int (1 : Int32)), .val (.ref c0), .val (.ref b63), .unset] [(.int (e0_1 p3))])) t → Steps p.tables e below (s₁.setTop (entryFrame m #[(.int p0), (.int p1), (.int p2), (.int p3), (.int p4), (.int p5)] maxLocals)) t := fun t kt => pre61 t (by
            show Steps p.tables e below (T58.setTop (mkF m 50 #[.val (.int p0), .val (.int p1), .val (.int p2), .val (.int p3), .val (.int p4), .val (.int p5), .val (.int (e0_1 p3)), .val (.ref c1), .val (.int (1 : Int32)), .unset, .unset, .unset] [(.int (1 : Int32))])) _
            refine XS.ifNo X58.here hx rfl (hb hby at_50) rfl ((if0 _ _).trans (feq (by decide : ¬ ((1 : Int32) = (0 : Int32)))).1) ?_
            show Steps p.tables e below (T58.setTop (mkF m 53 #[.val (.int p0), .val (.int p1), .val (.int p2), .val (.int p3), .val (.int p4), .val (.int p5), .val (.int (e0_1 p3)), .val (.ref c1), .val (.int (1 : Int32)), .unset, .unset, .unset] [])) _
            refine st62 _ ?_
            show Steps p.tables e below (T62.setTop (mkF m 56 #[.val (.int p0), .val (.int p1), .val (.int p2), .val (.int p3), .val (.int p4), .val (.int p5), .val (.int (e0_1 p3)), .val (.ref c1), .val (.int (1 : Int32)), .unset, .unset, .unset] [(.ref c0)])) _
            refine XS.goto X62.here hx rfl (pc0 := 56) (pc' := 62) rfl (hb hby at_56) (by decide) (by decide) ?_
            show Steps p.tables e below (T62.setTop (mkF m 62 #[.val (.int p0), .val (.int p1), .val (.int p2), .val (.int p3), .val (.int p4), .val (.int p5), .val (.int (e0_1 p3)), .val (.ref c1), .val (.int (1 : Int32)), .unset, .unset, .unset] [(.ref c0)])) _
            refine XS.astore X62.here hx rfl (hb hby at_62) rfl rfl (l' := #[.val (.int p0), .val (.int p1), .val (.int p2), .val (.int p3), .val (.int p4), .val (.int p5), .val (.int (e0_1 p3)), .val (.ref c1), .val (.int (1 : Int32)), .val (.ref c0), .unset, .unset]) rfl ?_
            show Steps p.tables e below (T62.setTop (mkF m 64 #[.val (.int p0), .val (.int p1), .val (.int p2), .val (.int p3), .val (.int p4), .val (.int p5), .val (.int (e0_1 p3)), .val (.ref c1), .val (.int (1 : Int32)), .val (.ref c0), .unset, .unset] [])) _
            refine st63 _ ?_
            show Steps p.tables e below (T63.setTop (mkF m 67 #[.val (.int p0), .val (.int p1), .val (.int p2), .val (.int p3), .val (.int p4), .val (.int p5), .val (.int (e0_1 p3)), .val (.ref c1), .val (.int (1 : Int32)), .val (.ref c0), .unset, .unset] [(.ref b63)])) _
            refine XS.dup X63.here hx rfl (hb hby at_67) rfl rfl ?_
            show Steps p.tables e below (T63.setTop (mkF m 68 #[.val (.int p0), .val (.int p1), .val (.int p2), .val (.int p3), .val (.int p4), .val (.int p5), .val (.int (e0_1 p3)), .val (.ref c1), .val (.int (1 : Int32)), .val (.ref c0), .unset, .unset] [(.ref b63), (.ref b63)])) _
            refine XS.iloadN X63.here hx rfl (hb hby at_68) rfl ?_
            show Steps p.tables e below (T63.setTop (mkF m 69 #[.val (.int p0), .val (.int p1), .val (.int p2), .val (.int p3), .val (.int p4), .val (.int p5), .val (.int (e0_1 p3)), .val (.ref c1), .val (.int (1 : Int32)), .val (.ref c0), .unset, .unset] [(.int p0), (.ref b63), (.ref b63)])) _
            refine XS.iloadN X63.here hx rfl (hb hby at_69) rfl ?_
            show Steps p.tables e below (T63.setTop (mkF m 70 #[.val (.int p0), .val (.int p1), .val (.int p2), .val (.int p3), .val (.int p4), .val (.int p5), .val (.int (e0_1 p3)), .val (.ref c1), .val (.int (1 : Int32)), .val (.ref c0), .unset, .unset] [(.int p1), (.int p0), (.ref b63), (.ref b63)])) _
            refine XS.iloadN X63.here hx rfl (hb hby at_70) rfl ?_
            show Steps p.tables e below (T63.setTop (mkF m 71 #[.val (.int p0), .val (.int p1), .val (.int p2), .val (.int p3), .val (.int p4), .val (.int p5), .val (.int (e0_1 p3)), .val (.ref c1), .val (.int (1 : Int32)), .val (.ref c0), .unset, .unset] [(.int p2), (.int p1), (.int p0), (.ref b63), (.ref b63)])) _
            refine XS.aload X63.here hx rfl (hb hby at_71) rfl rfl ?_
            show Steps p.tables e below (T63.setTop (mkF m 73 #[.val (.int p0), .val (.int p1), .val (.int p2), .val (.int p3), .val (.int p4), .val (.int p5), .val (.int (e0_1 p3)), .val (.ref c1), .val (.int (1 : Int32)), .val (.ref c0), .unset, .unset] [(.ref c1), (.int p2), (.int p1), (.int p0), (.ref b63), (.ref b63)])) _
            refine XS.iload X63.here hx rfl (hb hby at_73) rfl ?_
            show Steps p.tables e below (T63.setTop (mkF m 75 #[.val (.int p0), .val (.int p1), .val (.int p2), .val (.int p3), .val (.int p4), .val (.int p5), .val (.int (e0_1 p3)), .val (.ref c1), .val (.int (1 : Int32)), .val (.ref c0), .unset, .unset] [(.int p5), (.ref c1), (.int p2), (.int p1), (.int p0), (.ref b63), (.ref b63)])) _
            refine XS.iload X63.here hx rfl (hb hby at_75) rfl ?_
            show Steps p.tables e below (T63.setTop (mkF m 77 #[.val (.int p0), .val (.int p1), .val (.int p2), .val (.int p3), .val (.int p4), .val (.int p5), .val (.int (e0_1 p3)), .val (.ref c1), .val (.int (1 : Int32)), .val (.ref c0), .unset, .unset] [(.int p5), (.int p5), (.ref c1), (.int p2), (.int p1), (.int p0), (.ref b63), (.ref b63)])) _
            refine XS.iconst X63.here hx rfl (hb hby at_77) ?_
            show Steps p.tables e below (T63.setTop (mkF m 78 #[.val (.int p0), .val (.int p1), .val (.int p2), .val (.int p3), .val (.int p4), .val (.int p5), .val (.int (e0_1 p3)), .val (.ref c1), .val (.int (1 : Int32)), .val (.ref c0), .unset, .unset] [(.int (-1 : Int32)), (.int p5), (.int p5), (.ref c1), (.int p2), (.int p1), (.int p0), (.ref b63), (.ref b63)])) _
            refine XS.ixor X63.here hx rfl (hb hby at_78) rfl ?_
            show Steps p.tables e below (T63.setTop (mkF m 79 #[.val (.int p0), .val (.int p1), .val (.int p2), .val (.int p3), .val (.int p4), .val (.int p5), .val (.int (e0_1 p3)), .val (.ref c1), .val (.int (1 : Int32)), .val (.ref c0), .unset, .unset] [(.int (p5 ^^^ (-1 : Int32))), (.int p5), (.ref c1), (.int p2), (.int p1), (.int p0), (.ref b63), (.ref b63)])) _
            refine XS.iloadN X63.here hx rfl (hb hby at_79) rfl ?_
            show Steps p.tables e below (T63.setTop (mkF m 80 #[.val (.int p0), .val (.int p1), .val (.int p2), .val (.int p3), .val (.int p4), .val (.int p5), .val (.int (e0_1 p3)), .val (.ref c1), .val (.int (1 : Int32)), .val (.ref c0), .unset, .unset] [(.int p0), (.int (p5 ^^^ (-1 : Int32))), (.int p5), (.ref c1), (.int p2), (.int p1), (.int p0), (.ref b63), (.ref b63)])) _
            refine XS.iload X63.here hx rfl (hb hby at_80) rfl ?_
            show Steps p.tables e below (T63.setTop (mkF m 82 #[.val (.int p0), .val (.int p1), .val (.int p2), .val (.int p3), .val (.int p4), .val (.int p5), .val (.int (e0_1 p3)), .val (.ref c1), .val (.int (1 : Int32)), .val (.ref c0), .unset, .unset] [(.int p5), (.int p0), (.int (p5 ^^^ (-1 : Int32))), (.int p5), (.ref c1), (.int p2), (.int p1), (.int p0), (.ref b63), (.ref b63)])) _
            refine XS.ixor X63.here hx rfl (hb hby at_82) rfl ?_
            show Steps p.tables e below (T63.setTop (mkF m 83 #[.val (.int p0), .val (.int p1), .val (.int p2), .val (.int p3), .val (.int p4), .val (.int p5), .val (.int (e0_1 p3)), .val (.ref c1), .val (.int (1 : Int32)), .val (.ref c0), .unset, .unset] [(.int (p0 ^^^ p5)), (.int (p5 ^^^ (-1 : Int32))), (.int p5), (.ref c1), (.int p2), (.int p1), (.int p0), (.ref b63), (.ref b63)])) _
            refine XS.iloadN X63.here hx rfl (hb hby at_83) rfl ?_
            show Steps p.tables e below (T63.setTop (mkF m 84 #[.val (.int p0), .val (.int p1), .val (.int p2), .val (.int p3), .val (.int p4), .val (.int p5), .val (.int (e0_1 p3)), .val (.ref c1), .val (.int (1 : Int32)), .val (.ref c0), .unset, .unset] [(.int p1), (.int (p0 ^^^ p5)), (.int (p5 ^^^ (-1 : Int32))), (.int p5), (.ref c1), (.int p2), (.int p1), (.int p0), (.ref b63), (.ref b63)])) _
            refine XS.iload X63.here hx rfl (hb hby at_84) rfl ?_
            show Steps p.tables e below (T63.setTop (mkF m 86 #[.val (.int p0), .val (.int p1), .val (.int p2), .val (.int p3), .val (.int p4), .val (.int p5), .val (.int (e0_1 p3)), .val (.ref c1), .val (.int (1 : Int32)), .val (.ref c0), .unset, .unset] [(.int p5), (.int p1), (.int (p0 ^^^ p5)), (.int (p5 ^^^ (-1 : Int32))), (.int p5), (.ref c1), (.int p2), (.int p1), (.int p0), (.ref b63), (.ref b63)])) _
            refine XS.isub X63.here hx rfl (hb hby at_86) rfl ?_
            show Steps p.tables e below (T63.setTop (mkF m 87 #[.val (.int p0), .val (.int p1), .val (.int p2), .val (.int p3), .val (.int p4), .val (.int p5), .val (.int (e0_1 p3)), .val (.ref c1), .val (.int (1 : Int32)), .val (.ref c0), .unset, .unset] [(.int (p1 - p5)), (.int (p0 ^^^ p5)), (.int (p5 ^^^ (-1 : Int32))), (.int p5), (.ref c1), (.int p2), (.int p1), (.int p0), (.ref b63), (.ref b63)])) _
            refine st66.trans ?_
            show Steps p.tables e below (T66.setTop (mkF m 90 #[.val (.int p0), .val (.int p1), .val (.int p2), .val (.int p3), .val (.int p4), .val (.int p5), .val (.int (e0_1 p3)), .val (.ref c1), .val (.int (1 : Int32)), .val (.ref c0), .unset, .unset] [(.ref b63)])) _
            refine XS.astore X66.here hx rfl (hb hby at_90) rfl rfl (l' := #[.val (.int p0), .val (.int p1), .val (.int p2), .val (.int p3), .val (.int p4), .val (.int p5), .val (.int (e0_1 p3)), .val (.ref c1), .val (.int (1 : Int32)), .val (.ref c0), .val (.ref b63), .unset]) rfl ?_
            show Steps p.tables e below (T66.setTop (mkF m 92 #[.val (.int p0), .val (.int p1), .val (.int p2), .val (.int p3), .val (.int p4), .val (.int p5), .val (.int (e0_1 p3)), .val (.ref c1), .val (.int (1 : Int32)), .val (.ref c0), .val (.ref b63), .unset] [])) _
            refine XS.iload X66.here hx rfl (hb hby at_92) rfl ?_
            exact kt)
        have pre70 : ∀ t, Steps p.tables e below (T66.setTop (mkF m 106 #[.val (.int p0), .val (.int p1), .val (.int p2), .val (.int p3), .val (.int p4), .val (.int p5), .val (.int (e0_1 p3)), .val (.ref c1), .val (.int (1 : Int32)), .val (.ref c0), .val (.ref b63), .unset] [(.int (1 : Int32)), (.int (e0_1 p3))])) t → Steps p.tables e below (s₁.setTop (entryFrame m #[(.int p0), (.int p1), (.int p2), (.int p3), (.int p4), (.int p5)] maxLocals)) t := fun t kt => pre69 t (by
            show Steps p.tables e below (T66.setTop (mkF m 94 #[.val (.int p0), .val (.int p1), .val (.int p2), .val (.int p3), .val (.int p4), .val (.int p5), .val (.int (e0_1 p3)), .val (.ref c1), .val (.int (1 : Int32)), .val (.ref c0), .val (.ref b63), .unset] [(.int (e0_1 p3))])) _
            refine XS.ifYes X66.here hx rfl (pc0 := 94) (pc' := 103) rfl (hb hby at_94) rfl ((if0 _ _).trans (feq hc10_2).2) (by decide) (by decide) ?_
            show Steps p.tables e below (T66.setTop (mkF m 103 #[.val (.int p0), .val (.int p1), .val (.int p2), .val (.int p3), .val (.int p4), .val (.int p5), .val (.int (e0_1 p3)), .val (.ref c1), .val (.int (1 : Int32)), .val (.ref c0), .val (.ref b63), .unset] [])) _
            refine XS.iload X66.here hx rfl (hb hby at_103) rfl ?_
            show Steps p.tables e below (T66.setTop (mkF m 105 #[.val (.int p0), .val (.int p1), .val (.int p2), .val (.int p3), .val (.int p4), .val (.int p5), .val (.int (e0_1 p3)), .val (.ref c1), .val (.int (1 : Int32)), .val (.ref c0), .val (.ref b63), .unset] [(.int (e0_1 p3))])) _
            refine XS.iconst X66.here hx rfl (hb hby at_105) ?_
            exact kt)
        have pre71 : ∀ t, Steps p.tables e below (T66.setTop (mkF m 118 #[.val (.int p0), .val (.int p1), .val (.int p2), .val (.int p3), .val (.int p4), .val (.int p5), .val (.int (e0_1 p3)), .val (.ref c1), .val (.int (1 : Int32)), .val (.ref c0), .val (.ref b63), .unset] [(.int (1 : Int32))])) t → Steps p.tables e below (s₁.setTop (entryFrame m #[(.int p0), (.int p1), (.int p2), (.int p3), (.int p4), (.int p5)] maxLocals)) t := fun t kt => pre70 t (by
            show Steps p.tables e below (T66.setTop (mkF m 106 #[.val (.int p0), .val (.int p1), .val (.int p2), .val (.int p3), .val (.int p4), .val (.int p5), .val (.int (e0_1 p3)), .val (.ref c1), .val (.int (1 : Int32)), .val (.ref c0), .val (.ref b63), .unset] [(.int (1 : Int32)), (.int (e0_1 p3))])) _
            refine XS.icmpYes X66.here hx rfl (pc0 := 106) (pc' := 116) rfl (hb hby at_106) rfl (feq hc20_28).2 (by decide) (by decide) ?_
            show Steps p.tables e below (T66.setTop (mkF m 116 #[.val (.int p0), .val (.int p1), .val (.int p2), .val (.int p3), .val (.int p4), .val (.int p5), .val (.int (e0_1 p3)), .val (.ref c1), .val (.int (1 : Int32)), .val (.ref c0), .val (.ref b63), .unset] [])) _
            refine XS.iload X66.here hx rfl (hb hby at_116) rfl ?_
            exact kt)
        obtain ⟨cq72, kq72, q72a, q72b, q72c⟩ := isOf hZ rfl (E_b63.keep K66q)
        obtain ⟨_, _, ⟨T72, L72, k72, n72⟩, -, X72, ⟨Lc72, hQ72, l72, y72, z72⟩, st72⟩ := X66.virtualBack hx (y := (⟨"com/example/sekhem/sekhem/model/Effects", "countIn", "(Lcom/example/sekhem/sekhem/model/Stance;)Z"⟩ : MethodName)) (z := (⟨"com/example/sekhem/sekhem/model/Effects", "countIn", "(Lcom/example/sekhem/sekhem/model/Stance;)Z"⟩ : MethodName)) hown (mvT hZ (hw _ (List.mem_of_getElem? (i := 34) rfl))) (mvT hZ (hw _ (List.mem_of_getElem? (i := 35) rfl))) (notFace_of_selects (args := #[]) (mvT hZ (hw _ (List.mem_of_getElem? (i := 37) rfl)))) (mvT hZ (hw _ (List.mem_of_getElem? (i := 37) rfl))) (mvT hZ (hw _ (List.mem_of_getElem? (i := 36) rfl))) (by decide) (backOf (W := 0) (rm4 l Z a0 hw [] b63 c0 c1 T66.heap n0 Z68 G66_3) hZ (hw _ (List.mem_of_getElem? (i := 38) rfl)) (hw _ (List.mem_of_getElem? (i := 6) rfl)) (by decide) (by decide)) q72a q72c (g := (mkF m 132 #[.val (.int p0), .val (.int p1), .val (.int p2), .val (.int p3), .val (.int p4), .val (.int p5), .val (.int (e0_1 p3)), .val (.ref c1), .val (.int (1 : Int32)), .val (.ref c0), .val (.ref b63), .val (.int (0 : Int32))] [(.ref c0), (.ref b63)])) rfl (by rw [hml]; rfl) (Steps.refl _) (argsL := [(.ref c0)]) (rest := []) (lenOf pd_0_1 rfl) rfl (by show 2 * 0 + _ ≤ _; exact Nat.le_of_eq rfl) (hb hby at_132) (fun _ _ => ⟨rfl, rfl, (by decide : 1 + 0 ≤ _), (by decide : 8 + 0 ≤ _)⟩)
        dsimp only [Pt.U, Pt.locs, Pt.cells, Pt.slots] at X72 l72 y72 z72 st72 hQ72
        subst l72 y72 z72
        obtain ⟨rfl, N72q, e72q⟩ := hQ72
        have N72 := Fr.app N66 N72q
        have pre73 : ∀ t, Steps p.tables e below (T72.setTop (mkF m 137 #[.val (.int p0), .val (.int p1), .val (.int p2), .val (.int p3), .val (.int p4), .val (.int p5), .val (.int (e0_1 p3)), .val (.ref c1), .val (.int (1 : Int32)), .val (.ref c0), .val (.ref b63), .val (.int (0 : Int32))] [(.int (0 : Int32)), (.int (f4 c0 c1))])) t → Steps p.tables e below (s₁.setTop (entryFrame m #[(.int p0), (.int p1), (.int p2), (.int p3), (.int p4), (.int p5)] maxLocals)) t := fun t kt => pre71 t (by
            show Steps p.tables e below (T66.setTop (mkF m 118 #[.val (.int p0), .val (.int p1), .val (.int p2), .val (.int p3), .val (.int p4), .val (.int p5), .val (.int (e0_1 p3)), .val (.ref c1), .val (.int (1 : Int32)), .val (.ref c0), .val (.ref b63), .unset] [(.int (1 : Int32))])) _
            refine XS.ifYes X66.here hx rfl (pc0 := 118) (pc' := 125) rfl (hb hby at_118) rfl ((if0 _ _).trans (feq (by decide : ¬ ((1 : Int32) = (0 : Int32)))).2) (by decide) (by decide) ?_
            show Steps p.tables e below (T66.setTop (mkF m 125 #[.val (.int p0), .val (.int p1), .val (.int p2), .val (.int p3), .val (.int p4), .val (.int p5), .val (.int (e0_1 p3)), .val (.ref c1), .val (.int (1 : Int32)), .val (.ref c0), .val (.ref b63), .unset] [])) _
            refine XS.iconst X66.here hx rfl (hb hby at_125) ?_
            show Steps p.tables e below (T66.setTop (mkF m 126 #[.val (.int p0), .val (.int p1), .val (.int p2), .val (.int p3), .val (.int p4), .val (.int p5), .val (.int (e0_1 p3)), .val (.ref c1), .val (.int (1 : Int32)), .val (.ref c0), .val (.ref b63), .unset] [(.int (0 : Int32))])) _
            refine XS.istore X66.here hx rfl (hb hby at_126) rfl (l' := #[.val (.int p0), .val (.int p1), .val (.int p2), .val (.int p3), .val (.int p4), .val (.int p5), .val (.int (e0_1 p3)), .val (.ref c1), .val (.int (1 : Int32)), .val (.ref c0), .val (.ref b63), .val (.int (0 : Int32))]) rfl ?_
            show Steps p.tables e below (T66.setTop (mkF m 128 #[.val (.int p0), .val (.int p1), .val (.int p2), .val (.int p3), .val (.int p4), .val (.int p5), .val (.int (e0_1 p3)), .val (.ref c1), .val (.int (1 : Int32)), .val (.ref c0), .val (.ref b63), .val (.int (0 : Int32))] [])) _
            refine XS.aload X66.here hx rfl (hb hby at_128) rfl rfl ?_
            show Steps p.tables e below (T66.setTop (mkF m 130 #[.val (.int p0), .val (.int p1), .val (.int p2), .val (.int p3), .val (.int p4), .val (.int p5), .val (.int (e0_1 p3)), .val (.ref c1), .val (.int (1 : Int32)), .val (.ref c0), .val (.ref b63), .val (.int (0 : Int32))] [(.ref b63)])) _
            refine XS.aload X66.here hx rfl (hb hby at_130) rfl rfl ?_
            show Steps p.tables e below (T66.setTop (mkF m 132 #[.val (.int p0), .val (.int p1), .val (.int p2), .val (.int p3), .val (.int p4), .val (.int p5), .val (.int (e0_1 p3)), .val (.ref c1), .val (.int (1 : Int32)), .val (.ref c0), .val (.ref b63), .val (.int (0 : Int32))] [(.ref c0), (.ref b63)])) _
            refine st72.trans ?_
            show Steps p.tables e below (T72.setTop (mkF m 135 #[.val (.int p0), .val (.int p1), .val (.int p2), .val (.int p3), .val (.int p4), .val (.int p5), .val (.int (e0_1 p3)), .val (.ref c1), .val (.int (1 : Int32)), .val (.ref c0), .val (.ref b63), .val (.int (0 : Int32))] [(.int (f4 c0 c1))])) _
            refine XS.iload X72.here hx rfl (hb hby at_135) rfl ?_
            exact kt)
        have hd137_74 : (f4 c0 c1) = (0 : Int32) := by rw [f4]; first | exact if_pos rfl | exact if_neg ne_c0_c1 | exact if_neg (Ne.symm ne_c0_c1)
        obtain ⟨fs, hr, hrun, hended, hW, hsame⟩ := X72.leave (v := some (.int (1 : Int32))) (fun h => by rw [Bd.returns] at h; cases h)
        have hv93 : (1 : Int32) = (1 : Int32) := rfl
        refine ⟨_, _, pre73 _ ?_, hrun, hended, _, _, rfl, ?_, ⟨_, rfl⟩, hW, hsame.mono (by decide) (by decide)⟩
        · show Steps p.tables e below (T72.setTop (mkF m 137 #[.val (.int p0), .val (.int p1), .val (.int p2), .val (.int p3), .val (.int p4), .val (.int p5), .val (.int (e0_1 p3)), .val (.ref c1), .val (.int (1 : Int32)), .val (.ref c0), .val (.ref b63), .val (.int (0 : Int32))] [(.int (0 : Int32)), (.int (f4 c0 c1))])) _
          refine XS.icmpNo X72.here hx rfl (hb hby at_137) rfl (teq hd137_74).2 ?_
          show Steps p.tables e below (T72.setTop (mkF m 140 #[.val (.int p0), .val (.int p1), .val (.int p2), .val (.int p3), .val (.int p4), .val (.int p5), .val (.int (e0_1 p3)), .val (.ref c1), .val (.int (1 : Int32)), .val (.ref c0), .val (.ref b63), .val (.int (0 : Int32))] [])) _
          refine XS.iconst X72.here hx rfl (hb hby at_140) ?_
          show Steps p.tables e below (T72.setTop (mkF m 141 #[.val (.int p0), .val (.int p1), .val (.int p2), .val (.int p3), .val (.int p4), .val (.int p5), .val (.int (e0_1 p3)), .val (.ref c1), .val (.int (1 : Int32)), .val (.ref c0), .val (.ref b63), .val (.int (0 : Int32))] [(.int (1 : Int32))])) _
          refine XS.goto X72.here hx rfl (pc0 := 141) (pc' := 145) rfl (hb hby at_141) (by decide) (by decide) ?_
          show Steps p.tables e below (T72.setTop (mkF m 145 #[.val (.int p0), .val (.int p1), .val (.int p2), .val (.int p3), .val (.int p4), .val (.int p5), .val (.int (e0_1 p3)), .val (.ref c1), .val (.int (1 : Int32)), .val (.ref c0), .val (.ref b63), .val (.int (0 : Int32))] [(.int (1 : Int32))])) _
          exact retN X72 hx (t := .boolean) Bd.returns (by simp) (hb hby at_145) hr
        · show Q0 Z p0 p1 p2 p3 p4 p5 c0 c1 h0 n0 _ T72.heap _
          rw [e72q]
          exact ⟨congrArg (fun q => some (Value.int q)) hv93, N72⟩
      · have pre75 : ∀ t, Steps p.tables e below (T58.setTop (mkF m 50 #[.val (.int p0), .val (.int p1), .val (.int p2), .val (.int p3), .val (.int p4), .val (.int p5), .val (.int (e0_1 p3)), .val (.ref c1), .val (.int (0 : Int32)), .unset, .unset, .unset] [(.int (0 : Int32))])) t → Steps p.tables e below (s₁.setTop (entryFrame m #[(.int p0), (.int p1), (.int p2), (.int p3), (.int p4), (.int p5)] maxLocals)) t := fun t kt => pre59 t (by
            show Steps p.tables e below (T58.setTop (mkF m 38 #[.val (.int p0), .val (.int p1), .val (.int p2), .val (.int p3), .val (.int p4), .val (.int p5), .val (.int (e0_1 p3)), .val (.ref c1), .unset, .unset, .unset, .unset] [(.int (p4 &&& (1 : Int32)))])) _
            refine XS.ifYes X58.here hx rfl (pc0 := 38) (pc' := 45) rfl (hb hby at_38) rfl ((if0 _ _).trans (feq hc38_60).2) (by decide) (by decide) ?_
            show Steps p.tables e below (T58.setTop (mkF m 45 #[.val (.int p0), .val (.int p1), .val (.int p2), .val (.int p3), .val (.int p4), .val (.int p5), .val (.int (e0_1 p3)), .val (.ref c1), .unset, .unset, .unset, .unset] [])) _
            refine XS.iconst X58.here hx rfl (hb hby at_45) ?_
            show Steps p.tables e below (T58.setTop (mkF m 46 #[.val (.int p0), .val (.int p1), .val (.int p2), .val (.int p3), .val (.int p4), .val (.int p5), .val (.int (e0_1 p3)), .val (.ref c1), .unset, .unset, .unset, .unset] [(.int (0 : Int32))])) _
            refine XS.istore X58.here hx rfl (hb hby at_46) rfl (l' := #[.val (.int p0), .val (.int p1), .val (.int p2), .val (.int p3), .val (.int p4), .val (.int p5), .val (.int (e0_1 p3)), .val (.ref c1), .val (.int (0 : Int32)), .unset, .unset, .unset]) rfl ?_
            show Steps p.tables e below (T58.setTop (mkF m 48 #[.val (.int p0), .val (.int p1), .val (.int p2), .val (.int p3), .val (.int p4), .val (.int p5), .val (.int (e0_1 p3)), .val (.ref c1), .val (.int (0 : Int32)), .unset, .unset, .unset] [])) _
            refine XS.iload X58.here hx rfl (hb hby at_48) rfl ?_
            exact kt)
        obtain ⟨T76, X76, e76, st76⟩ := getS2 X58 hx hZ hown (host := "") (Or.inl (hw _ (List.mem_of_getElem? (i := 39) rfl))) Via.refl e58 S_DEFENDING (g := (mkF m 59 #[.val (.int p0), .val (.int p1), .val (.int p2), .val (.int p3), .val (.int p4), .val (.int p5), .val (.int (e0_1 p3)), .val (.ref c1), .val (.int (0 : Int32)), .unset, .unset, .unset] [])) rfl (hb hby at_59)
        obtain ⟨T77, h77, X77, e77, E77, A77, D77, -, st77⟩ := newO X76 hx hZ hown (hw _ (List.mem_of_getElem? (i := 4) rfl)) (hw _ (List.mem_of_getElem? (i := 5) rfl)) (hw _ (List.mem_of_getElem? (i := 6) rfl)) e76 (g := (mkF m 64 #[.val (.int p0), .val (.int p1), .val (.int p2), .val (.int p3), .val (.int p4), .val (.int p5), .val (.int (e0_1 p3)), .val (.ref c1), .val (.int (0 : Int32)), .val (.ref c1), .unset, .unset] [])) rfl (hb hby at_64) (by decide) (by decide)
        obtain ⟨b77, g77⟩ : ∃ z, z = h0.size := ⟨_, rfl⟩
        rw [← g77] at A77 D77 st77
        have g_b77 : n0 ≤ b77 := Nat.le_trans Z0 (Nat.le_of_eq g77.symm)
        have sz_b77 : h0.size ≤ b77 := Nat.le_trans (Keep.refl h0 []).1 (Nat.le_of_eq g77.symm)
        have ne_c0_b77 : c0 ≠ b77 := Nat.ne_of_lt (Nat.lt_of_lt_of_le E_c0.lt (Nat.le_of_eq g77.symm))
        have ne_c1_b77 : c1 ≠ b77 := Nat.ne_of_lt (Nat.lt_of_lt_of_le E_c1.lt (Nat.le_of_eq g77.symm))
        have K78 : Keep h0 h77 [] := (Keep.refl h0 []).ext E77
        have Z79 : n0 ≤ h77.size := Nat.le_trans Z0 K78.1
        have E_b77 := A77
        have F_strength_b77 : Fld Z h77 b77 "com/example/sekhem/sekhem/model/Effects" "strength" "I" (.int (0 : Int32)) := D77 (Or.inr (hw _ (List.mem_of_getElem? (i := 19) rfl))) (ty := .int) (by decide)
        have F_defence_b77 : Fld Z h77 b77 "com/example/sekhem/sekhem/model/Effects" "defence" "I" (.int (0 : Int32)) := D77 (Or.inr (hw _ (List.mem_of_getElem? (i := 21) rfl))) (ty := .int) (by decide)
        have F_damage_b77 : Fld Z h77 b77 "com/example/sekhem/sekhem/model/Effects" "damage" "I" (.int (0 : Int32)) := D77 (Or.inr (hw _ (List.mem_of_getElem? (i := 23) rfl))) (ty := .int) (by decide)
        have F_when_b77 : Fld Z h77 b77 "com/example/sekhem/sekhem/model/Effects" "when" "Lcom/example/sekhem/sekhem/model/Stance;" .null := D77 (Or.inr (hw _ (List.mem_of_getElem? (i := 25) rfl))) (ty := (.object "com/example/sekhem/sekhem/model/Stance")) (by decide)
        have F_moves_b77 : Fld Z h77 b77 "com/example/sekhem/sekhem/model/Effects" "moves" "I" (.int (0 : Int32)) := D77 (Or.inr (hw _ (List.mem_of_getElem? (i := 27) rfl))) (ty := .int) (by decide)
        have F_vp_b77 : Fld Z h77 b77 "com/example/sekhem/sekhem/model/Effects" "vp" "I" (.int (0 : Int32)) := D77 (Or.inr (hw _ (List.mem_of_getElem? (i := 29) rfl))) (ty := .int) (by decide)
        have F_nightPrayer_b77 : Fld Z h77 b77 "com/example/sekhem/sekhem/model/Effects" "nightPrayer" "I" (.int (0 : Int32)) := D77 (Or.inr (hw _ (List.mem_of_getElem? (i := 31) rfl))) (ty := .int) (by decide)
        have F_prayer_b77 : Fld Z h77 b77 "com/example/sekhem/sekhem/model/Effects" "prayer" "I" (.int (0 : Int32)) := D77 (Or.inr (hw _ (List.mem_of_getElem? (i := 33) rfl))) (ty := .int) (by decide)
        obtain ⟨_, _, ⟨T80, L80, k80, n80⟩, -, X80, ⟨Lc80, hQ80, l80, y80, z80⟩, st80⟩ := X77.specialBack hx (y := (⟨"com/example/sekhem/sekhem/model/Effects", "<init>", "(IIILcom/example/sekhem/sekhem/model/Stance;IIII)V"⟩ : MethodName)) rfl hown (mvT hZ (hw _ (List.mem_of_getElem? (i := 7) rfl))) (mvT hZ (hw _ (List.mem_of_getElem? (i := 8) rfl))) (mvT hZ (hw _ (List.mem_of_getElem? (i := 9) rfl))) (by decide) (backOf (W := 1) (rm1 l Z a0 hw [] b77 p0 p1 p2 c1 p5 (p5 ^^^ (-1 : Int32)) (p0 ^^^ p5) (p1 - p5) (0 : Int32) (0 : Int32) (0 : Int32) (0 : Int32) (0 : Int32) (0 : Int32) (0 : Int32) h77 n0 Z79 E_b77 F_strength_b77 g_b77 F_defence_b77 F_damage_b77 F_when_b77 F_moves_b77 F_vp_b77 F_nightPrayer_b77 F_prayer_b77) hZ (hw _ (List.mem_of_getElem? (i := 9) rfl)) (hw _ (List.mem_of_getElem? (i := 6) rfl)) (by decide) (by decide)) (g := (mkF m 87 #[.val (.int p0), .val (.int p1), .val (.int p2), .val (.int p3), .val (.int p4), .val (.int p5), .val (.int (e0_1 p3)), .val (.ref c1), .val (.int (0 : Int32)), .val (.ref c1), .unset, .unset] [(.int (p1 - p5)), (.int (p0 ^^^ p5)), (.int (p5 ^^^ (-1 : Int32))), (.int p5), (.ref c1), (.int p2), (.int p1), (.int p0), (.ref b77), (.ref b77)])) rfl (by rw [hml]; rfl) (Steps.refl _) (a := b77) (argsL := [(.int p0), (.int p1), (.int p2), (.ref c1), (.int p5), (.int (p5 ^^^ (-1 : Int32))), (.int (p0 ^^^ p5)), (.int (p1 - p5))]) (rest := [(.ref b77)]) (lenOf pd_0_0 rfl) rfl (by show 2 * 0 + _ ≤ _; exact Nat.le_of_eq rfl) (hb hby at_87) (fun _ _ => ⟨rfl, e77, (by decide : 1 + 0 ≤ _), (by decide : 8 + 0 ≤ _)⟩)
        dsimp only [Pt.U, Pt.locs, Pt.cells, Pt.slots] at X80 l80 y80 z80 st80 hQ80
        subst l80 y80 z80
        obtain ⟨rfl, N80q, K80q, G80_0, G80_1, G80_2, G80_3, G80_4, G80_5, G80_6, G80_7⟩ := hQ80
        have N80 := Fr.app N0 N80q
        have K81 : Keep h0 T80.heap [] := K78.trans K80q (allS (Or.inr sz_b77) all0)
        have Z82 : n0 ≤ T80.heap.size := Nat.le_trans Z0 K81.1
        obtain ⟨LS80, X80, N80⟩ : ∃ L, Stand p l e room_1 s m #[(.int p0), (.int p1), (.int p2), (.int p3), (.int p4), (.int p5)] below meth c T80 L 1 8 ∧ Fr n0 L := ⟨_, X80, N80⟩
        have pre83 : ∀ t, Steps p.tables e below (T80.setTop (mkF m 94 #[.val (.int p0), .val (.int p1), .val (.int p2), .val (.int p3), .val (.int p4), .val (.int p5), .val (.int (e0_1 p3)), .val (.ref c1), .val (.int (0 : Int32)), .val (.ref c1), .val (.ref b77), .unset] [(.int (e0_1 p3))])) t → Steps p.tables e below (s₁.setTop (entryFrame m #[(.int p0), (.int p1), (.int p2), (.int p3), (.int p4), (.int p5)] maxLocals)) t := fun t kt => pre75 t (by
            show Steps p.tables e below (T58.setTop (mkF m 50 #[.val (.int p0), .val (.int p1), .val (.int p2), .val (.int p3), .val (.int p4), .val (.int p5), .val (.int (e0_1 p3)), .val (.ref c1), .val (.int (0 : Int32)), .unset, .unset, .unset] [(.int (0 : Int32))])) _
            refine XS.ifYes X58.here hx rfl (pc0 := 50) (pc' := 59) rfl (hb hby at_50) rfl ((if0 _ _).trans (teq (by decide : ((0 : Int32) = (0 : Int32)))).1) (by decide) (by decide) ?_
            show Steps p.tables e below (T58.setTop (mkF m 59 #[.val (.int p0), .val (.int p1), .val (.int p2), .val (.int p3), .val (.int p4), .val (.int p5), .val (.int (e0_1 p3)), .val (.ref c1), .val (.int (0 : Int32)), .unset, .unset, .unset] [])) _
            refine st76 _ ?_
            show Steps p.tables e below (T76.setTop (mkF m 62 #[.val (.int p0), .val (.int p1), .val (.int p2), .val (.int p3), .val (.int p4), .val (.int p5), .val (.int (e0_1 p3)), .val (.ref c1), .val (.int (0 : Int32)), .unset, .unset, .unset] [(.ref c1)])) _
            refine XS.astore X76.here hx rfl (hb hby at_62) rfl rfl (l' := #[.val (.int p0), .val (.int p1), .val (.int p2), .val (.int p3), .val (.int p4), .val (.int p5), .val (.int (e0_1 p3)), .val (.ref c1), .val (.int (0 : Int32)), .val (.ref c1), .unset, .unset]) rfl ?_
            show Steps p.tables e below (T76.setTop (mkF m 64 #[.val (.int p0), .val (.int p1), .val (.int p2), .val (.int p3), .val (.int p4), .val (.int p5), .val (.int (e0_1 p3)), .val (.ref c1), .val (.int (0 : Int32)), .val (.ref c1), .unset, .unset] [])) _
            refine st77 _ ?_
            show Steps p.tables e below (T77.setTop (mkF m 67 #[.val (.int p0), .val (.int p1), .val (.int p2), .val (.int p3), .val (.int p4), .val (.int p5), .val (.int (e0_1 p3)), .val (.ref c1), .val (.int (0 : Int32)), .val (.ref c1), .unset, .unset] [(.ref b77)])) _
            refine XS.dup X77.here hx rfl (hb hby at_67) rfl rfl ?_
            show Steps p.tables e below (T77.setTop (mkF m 68 #[.val (.int p0), .val (.int p1), .val (.int p2), .val (.int p3), .val (.int p4), .val (.int p5), .val (.int (e0_1 p3)), .val (.ref c1), .val (.int (0 : Int32)), .val (.ref c1), .unset, .unset] [(.ref b77), (.ref b77)])) _
            refine XS.iloadN X77.here hx rfl (hb hby at_68) rfl ?_
            show Steps p.tables e below (T77.setTop (mkF m 69 #[.val (.int p0), .val (.int p1), .val (.int p2), .val (.int p3), .val (.int p4), .val (.int p5), .val (.int (e0_1 p3)), .val (.ref c1), .val (.int (0 : Int32)), .val (.ref c1), .unset, .unset] [(.int p0), (.ref b77), (.ref b77)])) _
            refine XS.iloadN X77.here hx rfl (hb hby at_69) rfl ?_
            show Steps p.tables e below (T77.setTop (mkF m 70 #[.val (.int p0), .val (.int p1), .val (.int p2), .val (.int p3), .val (.int p4), .val (.int p5), .val (.int (e0_1 p3)), .val (.ref c1), .val (.int (0 : Int32)), .val (.ref c1), .unset, .unset] [(.int p1), (.int p0), (.ref b77), (.ref b77)])) _
            refine XS.iloadN X77.here hx rfl (hb hby at_70) rfl ?_
            show Steps p.tables e below (T77.setTop (mkF m 71 #[.val (.int p0), .val (.int p1), .val (.int p2), .val (.int p3), .val (.int p4), .val (.int p5), .val (.int (e0_1 p3)), .val (.ref c1), .val (.int (0 : Int32)), .val (.ref c1), .unset, .unset] [(.int p2), (.int p1), (.int p0), (.ref b77), (.ref b77)])) _
            refine XS.aload X77.here hx rfl (hb hby at_71) rfl rfl ?_
            show Steps p.tables e below (T77.setTop (mkF m 73 #[.val (.int p0), .val (.int p1), .val (.int p2), .val (.int p3), .val (.int p4), .val (.int p5), .val (.int (e0_1 p3)), .val (.ref c1), .val (.int (0 : Int32)), .val (.ref c1), .unset, .unset] [(.ref c1), (.int p2), (.int p1), (.int p0), (.ref b77), (.ref b77)])) _
            refine XS.iload X77.here hx rfl (hb hby at_73) rfl ?_
            show Steps p.tables e below (T77.setTop (mkF m 75 #[.val (.int p0), .val (.int p1), .val (.int p2), .val (.int p3), .val (.int p4), .val (.int p5), .val (.int (e0_1 p3)), .val (.ref c1), .val (.int (0 : Int32)), .val (.ref c1), .unset, .unset] [(.int p5), (.ref c1), (.int p2), (.int p1), (.int p0), (.ref b77), (.ref b77)])) _
            refine XS.iload X77.here hx rfl (hb hby at_75) rfl ?_
            show Steps p.tables e below (T77.setTop (mkF m 77 #[.val (.int p0), .val (.int p1), .val (.int p2), .val (.int p3), .val (.int p4), .val (.int p5), .val (.int (e0_1 p3)), .val (.ref c1), .val (.int (0 : Int32)), .val (.ref c1), .unset, .unset] [(.int p5), (.int p5), (.ref c1), (.int p2), (.int p1), (.int p0), (.ref b77), (.ref b77)])) _
            refine XS.iconst X77.here hx rfl (hb hby at_77) ?_
            show Steps p.tables e below (T77.setTop (mkF m 78 #[.val (.int p0), .val (.int p1), .val (.int p2), .val (.int p3), .val (.int p4), .val (.int p5), .val (.int (e0_1 p3)), .val (.ref c1), .val (.int (0 : Int32)), .val (.ref c1), .unset, .unset] [(.int (-1 : Int32)), (.int p5), (.int p5), (.ref c1), (.int p2), (.int p1), (.int p0), (.ref b77), (.ref b77)])) _
            refine XS.ixor X77.here hx rfl (hb hby at_78) rfl ?_
            show Steps p.tables e below (T77.setTop (mkF m 79 #[.val (.int p0), .val (.int p1), .val (.int p2), .val (.int p3), .val (.int p4), .val (.int p5), .val (.int (e0_1 p3)), .val (.ref c1), .val (.int (0 : Int32)), .val (.ref c1), .unset, .unset] [(.int (p5 ^^^ (-1 : Int32))), (.int p5), (.ref c1), (.int p2), (.int p1), (.int p0), (.ref b77), (.ref b77)])) _
            refine XS.iloadN X77.here hx rfl (hb hby at_79) rfl ?_
            show Steps p.tables e below (T77.setTop (mkF m 80 #[.val (.int p0), .val (.int p1), .val (.int p2), .val (.int p3), .val (.int p4), .val (.int p5), .val (.int (e0_1 p3)), .val (.ref c1), .val (.int (0 : Int32)), .val (.ref c1), .unset, .unset] [(.int p0), (.int (p5 ^^^ (-1 : Int32))), (.int p5), (.ref c1), (.int p2), (.int p1), (.int p0), (.ref b77), (.ref b77)])) _
            refine XS.iload X77.here hx rfl (hb hby at_80) rfl ?_
            show Steps p.tables e below (T77.setTop (mkF m 82 #[.val (.int p0), .val (.int p1), .val (.int p2), .val (.int p3), .val (.int p4), .val (.int p5), .val (.int (e0_1 p3)), .val (.ref c1), .val (.int (0 : Int32)), .val (.ref c1), .unset, .unset] [(.int p5), (.int p0), (.int (p5 ^^^ (-1 : Int32))), (.int p5), (.ref c1), (.int p2), (.int p1), (.int p0), (.ref b77), (.ref b77)])) _
            refine XS.ixor X77.here hx rfl (hb hby at_82) rfl ?_
            show Steps p.tables e below (T77.setTop (mkF m 83 #[.val (.int p0), .val (.int p1), .val (.int p2), .val (.int p3), .val (.int p4), .val (.int p5), .val (.int (e0_1 p3)), .val (.ref c1), .val (.int (0 : Int32)), .val (.ref c1), .unset, .unset] [(.int (p0 ^^^ p5)), (.int (p5 ^^^ (-1 : Int32))), (.int p5), (.ref c1), (.int p2), (.int p1), (.int p0), (.ref b77), (.ref b77)])) _
            refine XS.iloadN X77.here hx rfl (hb hby at_83) rfl ?_
            show Steps p.tables e below (T77.setTop (mkF m 84 #[.val (.int p0), .val (.int p1), .val (.int p2), .val (.int p3), .val (.int p4), .val (.int p5), .val (.int (e0_1 p3)), .val (.ref c1), .val (.int (0 : Int32)), .val (.ref c1), .unset, .unset] [(.int p1), (.int (p0 ^^^ p5)), (.int (p5 ^^^ (-1 : Int32))), (.int p5), (.ref c1), (.int p2), (.int p1), (.int p0), (.ref b77), (.ref b77)])) _
            refine XS.iload X77.here hx rfl (hb hby at_84) rfl ?_
            show Steps p.tables e below (T77.setTop (mkF m 86 #[.val (.int p0), .val (.int p1), .val (.int p2), .val (.int p3), .val (.int p4), .val (.int p5), .val (.int (e0_1 p3)), .val (.ref c1), .val (.int (0 : Int32)), .val (.ref c1), .unset, .unset] [(.int p5), (.int p1), (.int (p0 ^^^ p5)), (.int (p5 ^^^ (-1 : Int32))), (.int p5), (.ref c1), (.int p2), (.int p1), (.int p0), (.ref b77), (.ref b77)])) _
            refine XS.isub X77.here hx rfl (hb hby at_86) rfl ?_
            show Steps p.tables e below (T77.setTop (mkF m 87 #[.val (.int p0), .val (.int p1), .val (.int p2), .val (.int p3), .val (.int p4), .val (.int p5), .val (.int (e0_1 p3)), .val (.ref c1), .val (.int (0 : Int32)), .val (.ref c1), .unset, .unset] [(.int (p1 - p5)), (.int (p0 ^^^ p5)), (.int (p5 ^^^ (-1 : Int32))), (.int p5), (.ref c1), (.int p2), (.int p1), (.int p0), (.ref b77), (.ref b77)])) _
            refine st80.trans ?_
            show Steps p.tables e below (T80.setTop (mkF m 90 #[.val (.int p0), .val (.int p1), .val (.int p2), .val (.int p3), .val (.int p4), .val (.int p5), .val (.int (e0_1 p3)), .val (.ref c1), .val (.int (0 : Int32)), .val (.ref c1), .unset, .unset] [(.ref b77)])) _
            refine XS.astore X80.here hx rfl (hb hby at_90) rfl rfl (l' := #[.val (.int p0), .val (.int p1), .val (.int p2), .val (.int p3), .val (.int p4), .val (.int p5), .val (.int (e0_1 p3)), .val (.ref c1), .val (.int (0 : Int32)), .val (.ref c1), .val (.ref b77), .unset]) rfl ?_
            show Steps p.tables e below (T80.setTop (mkF m 92 #[.val (.int p0), .val (.int p1), .val (.int p2), .val (.int p3), .val (.int p4), .val (.int p5), .val (.int (e0_1 p3)), .val (.ref c1), .val (.int (0 : Int32)), .val (.ref c1), .val (.ref b77), .unset] [])) _
            refine XS.iload X80.here hx rfl (hb hby at_92) rfl ?_
            exact kt)
        have pre84 : ∀ t, Steps p.tables e below (T80.setTop (mkF m 106 #[.val (.int p0), .val (.int p1), .val (.int p2), .val (.int p3), .val (.int p4), .val (.int p5), .val (.int (e0_1 p3)), .val (.ref c1), .val (.int (0 : Int32)), .val (.ref c1), .val (.ref b77), .unset] [(.int (1 : Int32)), (.int (e0_1 p3))])) t → Steps p.tables e below (s₁.setTop (entryFrame m #[(.int p0), (.int p1), (.int p2), (.int p3), (.int p4), (.int p5)] maxLocals)) t := fun t kt => pre83 t (by
            show Steps p.tables e below (T80.setTop (mkF m 94 #[.val (.int p0), .val (.int p1), .val (.int p2), .val (.int p3), .val (.int p4), .val (.int p5), .val (.int (e0_1 p3)), .val (.ref c1), .val (.int (0 : Int32)), .val (.ref c1), .val (.ref b77), .unset] [(.int (e0_1 p3))])) _
            refine XS.ifYes X80.here hx rfl (pc0 := 94) (pc' := 103) rfl (hb hby at_94) rfl ((if0 _ _).trans (feq hc10_2).2) (by decide) (by decide) ?_
            show Steps p.tables e below (T80.setTop (mkF m 103 #[.val (.int p0), .val (.int p1), .val (.int p2), .val (.int p3), .val (.int p4), .val (.int p5), .val (.int (e0_1 p3)), .val (.ref c1), .val (.int (0 : Int32)), .val (.ref c1), .val (.ref b77), .unset] [])) _
            refine XS.iload X80.here hx rfl (hb hby at_103) rfl ?_
            show Steps p.tables e below (T80.setTop (mkF m 105 #[.val (.int p0), .val (.int p1), .val (.int p2), .val (.int p3), .val (.int p4), .val (.int p5), .val (.int (e0_1 p3)), .val (.ref c1), .val (.int (0 : Int32)), .val (.ref c1), .val (.ref b77), .unset] [(.int (e0_1 p3))])) _
            refine XS.iconst X80.here hx rfl (hb hby at_105) ?_
            exact kt)
        have pre85 : ∀ t, Steps p.tables e below (T80.setTop (mkF m 118 #[.val (.int p0), .val (.int p1), .val (.int p2), .val (.int p3), .val (.int p4), .val (.int p5), .val (.int (e0_1 p3)), .val (.ref c1), .val (.int (0 : Int32)), .val (.ref c1), .val (.ref b77), .unset] [(.int (0 : Int32))])) t → Steps p.tables e below (s₁.setTop (entryFrame m #[(.int p0), (.int p1), (.int p2), (.int p3), (.int p4), (.int p5)] maxLocals)) t := fun t kt => pre84 t (by
            show Steps p.tables e below (T80.setTop (mkF m 106 #[.val (.int p0), .val (.int p1), .val (.int p2), .val (.int p3), .val (.int p4), .val (.int p5), .val (.int (e0_1 p3)), .val (.ref c1), .val (.int (0 : Int32)), .val (.ref c1), .val (.ref b77), .unset] [(.int (1 : Int32)), (.int (e0_1 p3))])) _
            refine XS.icmpYes X80.here hx rfl (pc0 := 106) (pc' := 116) rfl (hb hby at_106) rfl (feq hc20_28).2 (by decide) (by decide) ?_
            show Steps p.tables e below (T80.setTop (mkF m 116 #[.val (.int p0), .val (.int p1), .val (.int p2), .val (.int p3), .val (.int p4), .val (.int p5), .val (.int (e0_1 p3)), .val (.ref c1), .val (.int (0 : Int32)), .val (.ref c1), .val (.ref b77), .unset] [])) _
            refine XS.iload X80.here hx rfl (hb hby at_116) rfl ?_
            exact kt)
        obtain ⟨cq86, kq86, q86a, q86b, q86c⟩ := isOf hZ rfl (E_b77.keep K80q)
        obtain ⟨_, _, ⟨T86, L86, k86, n86⟩, -, X86, ⟨Lc86, hQ86, l86, y86, z86⟩, st86⟩ := X80.virtualBack hx (y := (⟨"com/example/sekhem/sekhem/model/Effects", "countIn", "(Lcom/example/sekhem/sekhem/model/Stance;)Z"⟩ : MethodName)) (z := (⟨"com/example/sekhem/sekhem/model/Effects", "countIn", "(Lcom/example/sekhem/sekhem/model/Stance;)Z"⟩ : MethodName)) hown (mvT hZ (hw _ (List.mem_of_getElem? (i := 34) rfl))) (mvT hZ (hw _ (List.mem_of_getElem? (i := 35) rfl))) (notFace_of_selects (args := #[]) (mvT hZ (hw _ (List.mem_of_getElem? (i := 37) rfl)))) (mvT hZ (hw _ (List.mem_of_getElem? (i := 37) rfl))) (mvT hZ (hw _ (List.mem_of_getElem? (i := 36) rfl))) (by decide) (backOf (W := 0) (rm4 l Z a0 hw [] b77 c1 c1 T80.heap n0 Z82 G80_3) hZ (hw _ (List.mem_of_getElem? (i := 38) rfl)) (hw _ (List.mem_of_getElem? (i := 6) rfl)) (by decide) (by decide)) q86a q86c (g := (mkF m 132 #[.val (.int p0), .val (.int p1), .val (.int p2), .val (.int p3), .val (.int p4), .val (.int p5), .val (.int (e0_1 p3)), .val (.ref c1), .val (.int (0 : Int32)), .val (.ref c1), .val (.ref b77), .val (.int (1 : Int32))] [(.ref c1), (.ref b77)])) rfl (by rw [hml]; rfl) (Steps.refl _) (argsL := [(.ref c1)]) (rest := []) (lenOf pd_0_1 rfl) rfl (by show 2 * 0 + _ ≤ _; exact Nat.le_of_eq rfl) (hb hby at_132) (fun _ _ => ⟨rfl, rfl, (by decide : 1 + 0 ≤ _), (by decide : 8 + 0 ≤ _)⟩)
        dsimp only [Pt.U, Pt.locs, Pt.cells, Pt.slots] at X86 l86 y86 z86 st86 hQ86
        subst l86 y86 z86
        obtain ⟨rfl, N86q, e86q⟩ := hQ86
        have N86 := Fr.app N80 N86q
        have pre87 : ∀ t, Steps p.tables e below (T86.setTop (mkF m 137 #[.val (.int p0), .val (.int p1), .val (.int p2), .val (.int p3), .val (.int p4), .val (.int p5), .val (.int (e0_1 p3)), .val (.ref c1), .val (.int (0 : Int32)), .val (.ref c1), .val (.ref b77), .val (.int (1 : Int32))] [(.int (1 : Int32)), (.int (f4 c1 c1))])) t → Steps p.tables e below (s₁.setTop (entryFrame m #[(.int p0), (.int p1), (.int p2), (.int p3), (.int p4), (.int p5)] maxLocals)) t := fun t kt => pre85 t (by
            show Steps p.tables e below (T80.setTop (mkF m 118 #[.val (.int p0), .val (.int p1), .val (.int p2), .val (.int p3), .val (.int p4), .val (.int p5), .val (.int (e0_1 p3)), .val (.ref c1), .val (.int (0 : Int32)), .val (.ref c1), .val (.ref b77), .unset] [(.int (0 : Int32))])) _
            refine XS.ifNo X80.here hx rfl (hb hby at_118) rfl ((if0 _ _).trans (teq (by decide : ((0 : Int32) = (0 : Int32)))).2) ?_
            show Steps p.tables e below (T80.setTop (mkF m 121 #[.val (.int p0), .val (.int p1), .val (.int p2), .val (.int p3), .val (.int p4), .val (.int p5), .val (.int (e0_1 p3)), .val (.ref c1), .val (.int (0 : Int32)), .val (.ref c1), .val (.ref b77), .unset] [])) _
            refine XS.iconst X80.here hx rfl (hb hby at_121) ?_
            show Steps p.tables e below (T80.setTop (mkF m 122 #[.val (.int p0), .val (.int p1), .val (.int p2), .val (.int p3), .val (.int p4), .val (.int p5), .val (.int (e0_1 p3)), .val (.ref c1), .val (.int (0 : Int32)), .val (.ref c1), .val (.ref b77), .unset] [(.int (1 : Int32))])) _
            refine XS.goto X80.here hx rfl (pc0 := 122) (pc' := 126) rfl (hb hby at_122) (by decide) (by decide) ?_
            show Steps p.tables e below (T80.setTop (mkF m 126 #[.val (.int p0), .val (.int p1), .val (.int p2), .val (.int p3), .val (.int p4), .val (.int p5), .val (.int (e0_1 p3)), .val (.ref c1), .val (.int (0 : Int32)), .val (.ref c1), .val (.ref b77), .unset] [(.int (1 : Int32))])) _
            refine XS.istore X80.here hx rfl (hb hby at_126) rfl (l' := #[.val (.int p0), .val (.int p1), .val (.int p2), .val (.int p3), .val (.int p4), .val (.int p5), .val (.int (e0_1 p3)), .val (.ref c1), .val (.int (0 : Int32)), .val (.ref c1), .val (.ref b77), .val (.int (1 : Int32))]) rfl ?_
            show Steps p.tables e below (T80.setTop (mkF m 128 #[.val (.int p0), .val (.int p1), .val (.int p2), .val (.int p3), .val (.int p4), .val (.int p5), .val (.int (e0_1 p3)), .val (.ref c1), .val (.int (0 : Int32)), .val (.ref c1), .val (.ref b77), .val (.int (1 : Int32))] [])) _
            refine XS.aload X80.here hx rfl (hb hby at_128) rfl rfl ?_
            show Steps p.tables e below (T80.setTop (mkF m 130 #[.val (.int p0), .val (.int p1), .val (.int p2), .val (.int p3), .val (.int p4), .val (.int p5), .val (.int (e0_1 p3)), .val (.ref c1), .val (.int (0 : Int32)), .val (.ref c1), .val (.ref b77), .val (.int (1 : Int32))] [(.ref b77)])) _
            refine XS.aload X80.here hx rfl (hb hby at_130) rfl rfl ?_
            show Steps p.tables e below (T80.setTop (mkF m 132 #[.val (.int p0), .val (.int p1), .val (.int p2), .val (.int p3), .val (.int p4), .val (.int p5), .val (.int (e0_1 p3)), .val (.ref c1), .val (.int (0 : Int32)), .val (.ref c1), .val (.ref b77), .val (.int (1 : Int32))] [(.ref c1), (.ref b77)])) _
            refine st86.trans ?_
            show Steps p.tables e below (T86.setTop (mkF m 135 #[.val (.int p0), .val (.int p1), .val (.int p2), .val (.int p3), .val (.int p4), .val (.int p5), .val (.int (e0_1 p3)), .val (.ref c1), .val (.int (0 : Int32)), .val (.ref c1), .val (.ref b77), .val (.int (1 : Int32))] [(.int (f4 c1 c1))])) _
            refine XS.iload X86.here hx rfl (hb hby at_135) rfl ?_
            exact kt)
        have hd137_88 : (f4 c1 c1) = (1 : Int32) := by rw [f4]; first | exact if_pos rfl | exact if_neg ne_c0_c1 | exact if_neg (Ne.symm ne_c0_c1)
        obtain ⟨fs, hr, hrun, hended, hW, hsame⟩ := X86.leave (v := some (.int (1 : Int32))) (fun h => by rw [Bd.returns] at h; cases h)
        have hv94 : (1 : Int32) = (1 : Int32) := rfl
        refine ⟨_, _, pre87 _ ?_, hrun, hended, _, _, rfl, ?_, ⟨_, rfl⟩, hW, hsame.mono (by decide) (by decide)⟩
        · show Steps p.tables e below (T86.setTop (mkF m 137 #[.val (.int p0), .val (.int p1), .val (.int p2), .val (.int p3), .val (.int p4), .val (.int p5), .val (.int (e0_1 p3)), .val (.ref c1), .val (.int (0 : Int32)), .val (.ref c1), .val (.ref b77), .val (.int (1 : Int32))] [(.int (1 : Int32)), (.int (f4 c1 c1))])) _
          refine XS.icmpNo X86.here hx rfl (hb hby at_137) rfl (teq hd137_88).2 ?_
          show Steps p.tables e below (T86.setTop (mkF m 140 #[.val (.int p0), .val (.int p1), .val (.int p2), .val (.int p3), .val (.int p4), .val (.int p5), .val (.int (e0_1 p3)), .val (.ref c1), .val (.int (0 : Int32)), .val (.ref c1), .val (.ref b77), .val (.int (1 : Int32))] [])) _
          refine XS.iconst X86.here hx rfl (hb hby at_140) ?_
          show Steps p.tables e below (T86.setTop (mkF m 141 #[.val (.int p0), .val (.int p1), .val (.int p2), .val (.int p3), .val (.int p4), .val (.int p5), .val (.int (e0_1 p3)), .val (.ref c1), .val (.int (0 : Int32)), .val (.ref c1), .val (.ref b77), .val (.int (1 : Int32))] [(.int (1 : Int32))])) _
          refine XS.goto X86.here hx rfl (pc0 := 141) (pc' := 145) rfl (hb hby at_141) (by decide) (by decide) ?_
          show Steps p.tables e below (T86.setTop (mkF m 145 #[.val (.int p0), .val (.int p1), .val (.int p2), .val (.int p3), .val (.int p4), .val (.int p5), .val (.int (e0_1 p3)), .val (.ref c1), .val (.int (0 : Int32)), .val (.ref c1), .val (.ref b77), .val (.int (1 : Int32))] [(.int (1 : Int32))])) _
          exact retN X86 hx (t := .boolean) Bd.returns (by simp) (hb hby at_145) hr
        · show Q0 Z p0 p1 p2 p3 p4 p5 c0 c1 h0 n0 _ T86.heap _
          rw [e86q]
          exact ⟨congrArg (fun q => some (Value.int q)) hv94, N86⟩
set_option maxRecDepth 65536 in
set_option maxHeartbeats 40000000 in
theorem comes_1 {Post : Tables → Env → Array Value → State → Outcome → State → Prop} (hpost : ∀ tb e args s v u, (limb_1_1.after args s (.returned v) u = true ∧ limb_1_2.after args s (.returned v) u = true ∧ True) → FrameEnd s (.returned v) u (Jvm.fieldLocs frame_1_writes args s ++ Jvm.arrayLocs frame_1_arrays args s ++ Jvm.staticLocs frame_1_statics s) 16 128 → Post tb e args s (.returned v) u) :
    ArmFor flags0 classFile x code maxLocals ret World_1 tables_1 room_1 Calls_1 rest_1 Pre_1 Post := by
  intro l hfl _ _ p e ha hc hk s m args below hf hA hF happ hP
  obtain ⟨hcalls, hrest, hpre⟩ := hP
  obtain ⟨-, -, -, hnamed, -, -, -, hat⟩ := (Spec.applies_iff hf).mp happ
  obtain ⟨hg, hn⟩ := and_e (Cond.before_iff.mp (show (Jvm.Cond.and given_1 narrow_1).before args s = true from hpre))
  obtain ⟨g1, g2⟩ := and_e hg
  obtain ⟨g3, g4⟩ := and_e g2
  obtain ⟨g5, g6⟩ := and_e g4
  obtain ⟨g7, g8⟩ := and_e g6
  obtain ⟨g9, g10⟩ := and_e g8
  obtain ⟨g11, g12⟩ := and_e g10
  obtain ⟨w0, w1, w2, w3, w4, w5, rfl⟩ : ∃ w0 w1 w2 w3 w4 w5 : Value, args = #[w0, w1, w2, w3, w4, w5] := by
    have hs : args.size = 6 := by simpa [Cond.value, given_1] using g1
    obtain ⟨L⟩ := args
    match L, hs with
    | [w0, w1, w2, w3, w4, w5], _ => exact ⟨w0, w1, w2, w3, w4, w5, rfl⟩
  have hw := fun d (hd : d ∈ tables_1) => atoms_spec (ws := Jvm.Cond.code x code maxLocals ret :: tables_1) hat d (List.mem_cons_of_mem _ hd)
  have hfit : Fit s := fun {y c} hc i hi => by
    obtain ⟨ha, rfl⟩ := Array.getElem?_eq_some_iff.mp hc
    have q := List.all_eq_true.mp ((Array.all_eq_true_iff_forall_mem.mp hF) _ (Array.getElem_mem ha)) i (List.mem_range.mpr hi)
    simpa [Array.getElem?_eq_getElem hi] using q
  obtain ⟨n1, m1⟩ := and_e hn
  obtain ⟨n2, m2⟩ := and_e m1
  obtain ⟨n3, m3⟩ := and_e m2
  obtain ⟨c0, ev_c0⟩ := exa_v n1
  have S_ATTACKING := Sta.start ev_c0 (Or.inr ⟨(hw _ (List.mem_of_getElem? (i := 2) rfl)), (hw _ (List.mem_of_getElem? (i := 3) rfl))⟩)
  have E_c0 := Exa.start ev_c0 n1
  obtain ⟨c1, ev_c1⟩ := exa_v n2
  have S_DEFENDING := Sta.start ev_c1 (Or.inr ⟨(hw _ (List.mem_of_getElem? (i := 2) rfl)), (hw _ (List.mem_of_getElem? (i := 40) rfl))⟩)
  have E_c1 := Exa.start ev_c1 n2
  have o_c1 := Fld.start ((fld_at ev_c1).symm.trans (own_eqi n3))
  have o_c0 := Fld.start ((fld_at ev_c0).symm.trans (own_eqi m3))
  have ne_c0_c1 : c0 ≠ c1 := Fld.ne o_c0 o_c1 (fun q => absurd (Value.int.inj q) (by decide))
  obtain ⟨i0, ei0⟩ := is_v g3
  obtain rfl : w0 = (.int i0) := Option.some.inj ei0
  obtain ⟨i1, ei1⟩ := is_v g5
  obtain rfl : w1 = (.int i1) := Option.some.inj ei1
  obtain ⟨i2, ei2⟩ := is_v g7
  obtain rfl : w2 = (.int i2) := Option.some.inj ei2
  obtain ⟨i3, ei3⟩ := is_v g9
  obtain rfl : w3 = (.int i3) := Option.some.inj ei3
  obtain ⟨i4, ei4⟩ := is_v g11
  obtain rfl : w4 = (.int i4) := Option.some.inj ei4
  obtain ⟨i5, ei5⟩ := is_v g12
  obtain rfl : w5 = (.int i5) := Option.some.inj ei5
  obtain ⟨n, o, h1, h2, h3, _, L, rfl, ⟨hv0, N⟩, hq⟩ := rm0 l s _ hw tables_1 i0 i1 i2 i3 i4 i5 c0 c1 s.heap s.heap.size (Nat.le_refl _) S_ATTACKING S_DEFENDING E_c0 E_c1 ne_c0_c1 p e ha hc hk s m _ below hf ((Spec.applies_iff_loose hf).mp happ).1 ⟨rfl, State.Warmed39.refl s, rfl⟩ trivial
  subst hv0
  refine ⟨n, _, h1, h2, h3, hpost _ _ _ _ _ _ ⟨Cond.after_iff.mpr rfl, Cond.after_iff.mpr (eq_i res_at (Term.int_eval (1)) rfl), trivial⟩ ⟨hq.1, hq.2.1, (hq.2.2.sift fun y hy => Or.inr (N y hy)).mono (by decide) (by decide)⟩⟩
theorem main_1_1 : Claimed_1_1 := comes_1 fun _ _ _ _ _ _ h hF => ⟨h.1, hF⟩
theorem main_1_2 : Claimed_1_2 := comes_1 fun _ _ _ _ _ _ h hF => ⟨h.2.1, hF⟩
end Jvm.Pilot.@@N@@
namespace Jvm.Pilot.@@N@@
open Jvm Jvm.ClassFile Sem Op Lib Jvm.Free Jvm.Stand Jvm.Pilot.@@N@@.Jvm.D
/-! MADE BY PROGRAM (witnessworld.py) out of the Statement's table words and the real class files: 14 classes; the members and pool entries that the words name. The judged class is class 1, her method 1. -/
namespace start1
open Jvm.ClassFile
def u (s : String) : CpInfo := .utf8 (stringToUtf16 s)
/-- a pool by its gaps: so many unusable entries, then the entry; so many at the end -/
def gap : Nat → List CpInfo → List CpInfo
  | 0, r => r
  | n + 1, r => .unusable :: gap n r
def poolList (es : List (Nat × CpInfo)) (last : Nat) : List CpInfo := es.foldr (fun e r => gap e.1 (e.2 :: r)) (gap last [])
def pool (es : List (Nat × CpInfo)) (last : Nat) : Array CpInfo := ⟨poolList es last⟩
def fileOf (pool : Array CpInfo) (this : Nat) (attrs : Array Attribute := #[]) (ms : Array MethodInfo := #[]) (fl : Nat := 33) (sup : Nat := 0) (ifs : Array Nat := #[]) (fds : Array FieldInfo := #[]) : ClassFile where
  minorVersion := 0
  majorVersion := 65
  constantPool := pool
  accessFlags := fl
  thisClass := this
  superClass := sup
  interfaces := ifs
  fields := fds
  methods := ms
  attributes := attrs
def plain (name : String) (sup : Option ClassId) : Class where
  name := name
  kind := .ordinary
  loader := none
  accessFlags := 33
  super := sup
  interfaces := #[]
  cf := none
  fields := #[]
  methods := #[]
  instanceTypes := #[]
  staticTypes := #[]
  resolved := #[]
  callSites := []
  init := .initialized
  statics := none
  mirror := none

def pool0 : Array CpInfo := pool [(5, u "<init>"), (0, u "()V"), (1, .class_ 10), (1, u "java/lang/Object")] 113

def k0c0 : Code := { maxStack := 0, maxLocals := 1, code := object_method_1_code, exceptionTable := #[], attributes := #[] }
def k0m0 : Method := { name := "<init>", desc := "()V", sig := { parameters := [], returnType := none }, accessFlags := 1, code := some k0c0 }
/-- java/lang/Object -/
def k0 : Class := { plain "java/lang/Object" none with
  accessFlags := 33
  interfaces := #[]
  cf := some (fileOf pool0 8 #[] #[{ accessFlags := 1, nameIndex := 5, descriptorIndex := 6, attributes := #[] }] 33 0 #[] #[])
  fields := #[]
  methods := #[k0m0]
  instanceTypes := #[]
  staticTypes := #[]
  resolved := Array.replicate 124 none
  statics := none }

def pool1 : Array CpInfo := pool [(2, .class_ 4), (1, u "java/lang/Object"), (0, u "<init>"), (0, u "()V"), (0, .integer 2147483647), (0, .fieldref 9 10), (0, .class_ 11), (0, .nameAndType 12 13), (0, u "com/example/sekhem/sekhem/model/Stance"), (0, u "ATTACKING"), (0, u "Lcom/example/sekhem/sekhem/model/Stance;"), (0, .fieldref 9 15), (0, .nameAndType 16 13), (0, u "DEFENDING"), (0, .class_ 18), (0, u "com/example/sekhem/sekhem/model/Effects"), (0, .methodref 17 20), (0, .nameAndType 5 21), (0, u "(IIILcom/example/sekhem/sekhem/model/Stance;IIII)V"), (0, .methodref 17 23), (0, .nameAndType 24 25), (0, u "countIn"), (0, u "(Lcom/example/sekhem/sekhem/model/Stance;)Z"), (0, .class_ 27), (0, u "com/example/sekhem/sekhem/model/EffectsCountInPinLaw"), (2, u "law"), (0, u "(IIIIII)Z")] 3

def k1m0 : Method := { name := "<init>", desc := "()V", sig := { parameters := [], returnType := none }, accessFlags := 1, code := none }
def k1c1 : Code := { maxStack := 11, maxLocals := 12, code := code, exceptionTable := #[], attributes := #[] }
def k1m1 : Method := { name := "law", desc := "(IIIIII)Z", sig := { parameters := [.int, .int, .int, .int, .int, .int], returnType := some .boolean }, accessFlags := 9, code := some k1c1 }
/-- com/example/sekhem/sekhem/model/EffectsCountInPinLaw -/
def k1 : Class := { plain "com/example/sekhem/sekhem/model/EffectsCountInPinLaw" (some 0) with
  accessFlags := 49
  interfaces := #[]
  cf := some (fileOf pool1 26 #[] #[{ accessFlags := 1, nameIndex := 5, descriptorIndex := 6, attributes := #[] }, { accessFlags := 9, nameIndex := 30, descriptorIndex := 31, attributes := #[] }] 49 2 #[] #[])
  fields := #[]
  methods := #[k1m0, k1m1]
  instanceTypes := #[]
  staticTypes := #[]
  resolved := Array.replicate 35 none
  statics := none }

def pool2 : Array CpInfo := pool [(1, .class_ 2), (0, u "java/lang/constant/Constable"), (0, .class_ 4), (0, u "java/lang/Object")] 6

/-- java/lang/constant/Constable -/
def k2 : Class := { plain "java/lang/constant/Constable" (some 0) with
  accessFlags := 1537
  interfaces := #[]
  cf := some (fileOf pool2 1 #[] #[] 1537 3 #[] #[])
  fields := #[]
  methods := #[]
  instanceTypes := #[]
  staticTypes := #[]
  resolved := Array.replicate 11 none
  statics := none }

def pool3 : Array CpInfo := pool [(1, .class_ 2), (0, u "java/lang/Comparable"), (0, .class_ 4), (0, u "java/lang/Object")] 7

/-- java/lang/Comparable -/
def k3 : Class := { plain "java/lang/Comparable" (some 0) with
  accessFlags := 1537
  interfaces := #[]
  cf := some (fileOf pool3 1 #[] #[] 1537 3 #[] #[])
  fields := #[]
  methods := #[]
  instanceTypes := #[]
  staticTypes := #[]
  resolved := Array.replicate 12 none
  statics := none }

def pool4 : Array CpInfo := pool [(1, .class_ 2), (0, u "java/io/Serializable"), (0, .class_ 4), (0, u "java/lang/Object")] 2

/-- java/io/Serializable -/
def k4 : Class := { plain "java/io/Serializable" (some 0) with
  accessFlags := 1537
  interfaces := #[]
  cf := some (fileOf pool4 1 #[] #[] 1537 3 #[] #[])
  fields := #[]
  methods := #[]
  instanceTypes := #[]
  staticTypes := #[]
  resolved := Array.replicate 7 none
  statics := none }

def pool5 : Array CpInfo := pool [(2, .class_ 4), (1, u "java/lang/Enum"), (0, u "name"), (0, u "Ljava/lang/String;"), (2, u "ordinal"), (0, u "I"), (1, .class_ 14), (1, u "java/lang/Object"), (4, u "hash"), (86, .class_ 108), (1, u "java/lang/Enum$EnumDesc"), (2, .class_ 112), (0, u "java/lang/constant/Constable"), (0, .class_ 114), (0, u "java/lang/Comparable"), (0, .class_ 116), (0, u "java/io/Serializable")] 87

/-- java/lang/Enum -/
def k5 : Class := { plain "java/lang/Enum" (some 0) with
  accessFlags := 1057
  interfaces := #[2, 3, 4]
  cf := some (fileOf pool5 2 #[.nestMembers #[106]] #[] 1057 12 #[111, 113, 115] #[{ accessFlags := 18, nameIndex := 5, descriptorIndex := 6, attributes := #[] }, { accessFlags := 18, nameIndex := 9, descriptorIndex := 10, attributes := #[] }, { accessFlags := 2, nameIndex := 19, descriptorIndex := 10, attributes := #[] }])
  fields := #[{ name := "name", type := (.object "java/lang/String"), accessFlags := 18, slot := 0, constantValue := 0 }, { name := "ordinal", type := .int, accessFlags := 18, slot := 1, constantValue := 0 }, { name := "hash", type := .int, accessFlags := 2, slot := 2, constantValue := 0 }]
  methods := #[]
  instanceTypes := #[(.object "java/lang/String"), .int, .int]
  staticTypes := #[]
  resolved := Array.replicate 204 none
  statics := none }

def pool6 : Array CpInfo := pool [(1, .class_ 2), (0, u "com/example/sekhem/sekhem/model/Stance"), (2, u "ATTACKING"), (0, u "Lcom/example/sekhem/sekhem/model/Stance;"), (2, u "DEFENDING"), (2, u "$VALUES"), (0, u "[Lcom/example/sekhem/sekhem/model/Stance;"), (6, .class_ 22), (1, u "java/lang/Enum")] 24

/-- com/example/sekhem/sekhem/model/Stance -/
def k6 : Class := { plain "com/example/sekhem/sekhem/model/Stance" (some 5) with
  accessFlags := 16433
  interfaces := #[]
  cf := some (fileOf pool6 1 #[] #[] 16433 20 #[] #[{ accessFlags := 16409, nameIndex := 5, descriptorIndex := 6, attributes := #[] }, { accessFlags := 16409, nameIndex := 9, descriptorIndex := 6, attributes := #[] }, { accessFlags := 4122, nameIndex := 12, descriptorIndex := 13, attributes := #[] }])
  fields := #[{ name := "ATTACKING", type := (.object "com/example/sekhem/sekhem/model/Stance"), accessFlags := 16409, slot := 0, constantValue := 0 }, { name := "DEFENDING", type := (.object "com/example/sekhem/sekhem/model/Stance"), accessFlags := 16409, slot := 1, constantValue := 0 }, { name := "$VALUES", type := (.array (.object "com/example/sekhem/sekhem/model/Stance")), accessFlags := 4122, slot := 2, constantValue := 0 }]
  methods := #[]
  instanceTypes := #[(.object "java/lang/String"), .int, .int]
  staticTypes := #[(.object "com/example/sekhem/sekhem/model/Stance"), (.object "com/example/sekhem/sekhem/model/Stance"), (.array (.object "com/example/sekhem/sekhem/model/Stance"))]
  resolved := Array.replicate 47 none
  statics := some 0 }

def pool7 : Array CpInfo := pool [(1, .methodref 2 3), (0, .class_ 4), (0, .nameAndType 5 6), (0, u "java/lang/Object"), (0, u "<init>"), (0, u "()V"), (0, .class_ 8), (0, u "java/lang/Record")] 13

def k7c0 : Code := { maxStack := 1, maxLocals := 1, code := jdk_30_method_1_code, exceptionTable := #[], attributes := #[] }
def k7m0 : Method := { name := "<init>", desc := "()V", sig := { parameters := [], returnType := none }, accessFlags := 4, code := some k7c0 }
/-- java/lang/Record -/
def k7 : Class := { plain "java/lang/Record" (some 0) with
  accessFlags := 1057
  interfaces := #[]
  cf := some (fileOf pool7 7 #[] #[{ accessFlags := 4, nameIndex := 5, descriptorIndex := 6, attributes := #[] }] 1057 2 #[] #[])
  fields := #[]
  methods := #[k7m0]
  instanceTypes := #[]
  staticTypes := #[]
  resolved := Array.replicate 22 none
  statics := none }

def pool8 : Array CpInfo := pool [(1, .methodref 2 3), (0, .class_ 4), (0, .nameAndType 5 6), (0, u "java/lang/Record"), (0, u "<init>"), (0, u "()V"), (0, .fieldref 8 9), (0, .class_ 10), (0, .nameAndType 11 12), (0, u "com/example/sekhem/sekhem/model/Effects"), (0, u "strength"), (0, u "I"), (0, .fieldref 8 14), (0, .nameAndType 15 12), (0, u "defence"), (0, .fieldref 8 17), (0, .nameAndType 18 12), (0, u "damage"), (0, .fieldref 8 20), (0, .nameAndType 21 22), (0, u "when"), (0, u "Lcom/example/sekhem/sekhem/model/Stance;"), (0, .fieldref 8 24), (0, .nameAndType 25 12), (0, u "moves"), (0, .fieldref 8 27), (0, .nameAndType 28 12), (0, u "vp"), (0, .fieldref 8 30), (0, .nameAndType 31 12), (0, u "nightPrayer"), (0, .fieldref 8 33), (0, .nameAndType 34 12), (0, u "prayer"), (12, u "(IIILcom/example/sekhem/sekhem/model/Stance;IIII)V"), (3, u "countIn"), (0, u "(Lcom/example/sekhem/sekhem/model/Stance;)Z")] 32

def k8c0 : Code := { maxStack := 2, maxLocals := 9, code := prog_40_method_1_code, exceptionTable := #[], attributes := #[] }
def k8m0 : Method := { name := "<init>", desc := "(IIILcom/example/sekhem/sekhem/model/Stance;IIII)V", sig := { parameters := [.int, .int, .int, (.object "com/example/sekhem/sekhem/model/Stance"), .int, .int, .int, .int], returnType := none }, accessFlags := 1, code := some k8c0 }
def k8c1 : Code := { maxStack := 2, maxLocals := 2, code := prog_40_method_2_code, exceptionTable := #[], attributes := #[] }
def k8m1 : Method := { name := "countIn", desc := "(Lcom/example/sekhem/sekhem/model/Stance;)Z", sig := { parameters := [(.object "com/example/sekhem/sekhem/model/Stance")], returnType := some .boolean }, accessFlags := 1, code := some k8c1 }
/-- com/example/sekhem/sekhem/model/Effects -/
def k8 : Class := { plain "com/example/sekhem/sekhem/model/Effects" (some 7) with
  accessFlags := 49
  interfaces := #[]
  cf := some (fileOf pool8 8 #[] #[{ accessFlags := 1, nameIndex := 5, descriptorIndex := 47, attributes := #[] }, { accessFlags := 1, nameIndex := 51, descriptorIndex := 52, attributes := #[] }] 49 2 #[] #[{ accessFlags := 18, nameIndex := 11, descriptorIndex := 12, attributes := #[] }, { accessFlags := 18, nameIndex := 15, descriptorIndex := 12, attributes := #[] }, { accessFlags := 18, nameIndex := 18, descriptorIndex := 12, attributes := #[] }, { accessFlags := 18, nameIndex := 21, descriptorIndex := 22, attributes := #[] }, { accessFlags := 18, nameIndex := 25, descriptorIndex := 12, attributes := #[] }, { accessFlags := 18, nameIndex := 28, descriptorIndex := 12, attributes := #[] }, { accessFlags := 18, nameIndex := 31, descriptorIndex := 12, attributes := #[] }, { accessFlags := 18, nameIndex := 34, descriptorIndex := 12, attributes := #[] }])
  fields := #[{ name := "strength", type := .int, accessFlags := 18, slot := 0, constantValue := 0 }, { name := "defence", type := .int, accessFlags := 18, slot := 1, constantValue := 0 }, { name := "damage", type := .int, accessFlags := 18, slot := 2, constantValue := 0 }, { name := "when", type := (.object "com/example/sekhem/sekhem/model/Stance"), accessFlags := 18, slot := 3, constantValue := 0 }, { name := "moves", type := .int, accessFlags := 18, slot := 4, constantValue := 0 }, { name := "vp", type := .int, accessFlags := 18, slot := 5, constantValue := 0 }, { name := "nightPrayer", type := .int, accessFlags := 18, slot := 6, constantValue := 0 }, { name := "prayer", type := .int, accessFlags := 18, slot := 7, constantValue := 0 }]
  methods := #[k8m0, k8m1]
  instanceTypes := #[.int, .int, .int, (.object "com/example/sekhem/sekhem/model/Stance"), .int, .int, .int, .int]
  staticTypes := #[]
  resolved := Array.replicate 85 none
  statics := none }

def pool9 : Array CpInfo := pool [(1, u "java/lang/Cloneable"), (0, .class_ 1), (0, u "java/lang/Object"), (0, .class_ 3)] 3

/-- java/lang/Cloneable -/
def k9 : Class := { plain "java/lang/Cloneable" (some 0) with
  accessFlags := 1537
  interfaces := #[]
  cf := some (fileOf pool9 2 #[] #[] 1537 4 #[] #[])
  fields := #[]
  methods := #[]
  instanceTypes := #[]
  staticTypes := #[]
  resolved := Array.replicate 8 none
  statics := none }

/-- the primitive byte -/
def k10 : Class := { plain "byte" none with kind := .primitive 'B', accessFlags := 0x411 }
/-- [B -/
def k11 : Class := { plain "[B" (some 0) with kind := .array 10 .byte, interfaces := #[9, 4], accessFlags := 1041 }

/-- the primitive int -/
def k12 : Class := { plain "int" none with kind := .primitive 'I', accessFlags := 0x411 }
/-- [I -/
def k13 : Class := { plain "[I" (some 0) with kind := .array 12 .int, interfaces := #[9, 4], accessFlags := 1041 }

def heap : Heap := #[{ cls := 6, slots := #[.ref 1, .ref 2, .null], vm := .statics 6 },
  { cls := 6, slots := #[.null, .int 0, .int 0], vm := .none },
  { cls := 6, slots := #[.null, .int 1, .int 0], vm := .none }]
def classes : Array Class := #[k0, k1, k2, k3, k4, k5, k6, k7, k8, k9, k10, k11, k12, k13]
def interned : List (Array UInt16 × Addr) := []
def slotsUsed : Nat := 9
def theMethod : MethodId := ⟨1, 1⟩
def args0 : Array Value := #[.int 5, .int 9, .int 3, .int 5, .int 7, .int 2]
def aboutOver (below : List Frame) : State where
  vm := { classes := classes, interned := interned.toArray }
  heap := heap
  slotsUsed := slotsUsed
  threads := #[{ frames := .invoking theMethod args0 :: below }]
def below0 : List Frame := [.native { method := ⟨0, 0⟩, args := #[] }]
def about1 : State := aboutOver below0
def p0 : Program := .bare "" "" ""
def e0 : Env := launch0.env 0 0 0
theorem w_frames : about1.frames = Frame.invoking theMethod args0 :: below0 := rfl
set_option maxRecDepth 65536 in
theorem w_args : argsFit about1.vm theMethod args0 = true := by decide +kernel
set_option maxRecDepth 65536 in
theorem w_heap : heapFits about1 = true := by decide +kernel
set_option maxRecDepth 65536 in
theorem w_runnable : about1.curStatus? = some .runnable := by decide +kernel
set_option maxRecDepth 65536 in
theorem w_alone : about1.alone = true := by decide +kernel
set_option maxRecDepth 65536 in
theorem w_named : about1.methodNamed? x = some theMethod := by decide +kernel
set_option maxRecDepth 65536 in
theorem w_hears : about1.hears theMethod below0 = true := by decide +kernel
set_option maxRecDepth 65536 in
theorem w_ripe : about1.ripe theMethod args0 below0 = true := by decide +kernel
theorem w_running : about1.status = .running := rfl
set_option maxRecDepth 65536 in
theorem w_room : about1.hasRoom e0.platform room_1 = true :=
  launch0.hasRoom_least _ room_1 (by decide +kernel) (by decide +kernel) (by decide +kernel) (by decide +kernel) (by decide +kernel) (by decide +kernel)
theorem allAtoms_all (ts : List Jvm.Cond) (a : Array Jvm.Value) (st : Jvm.State) : (allAtoms ts).before a st = ts.all (fun c => c.before a st) := by
  induction ts with
  | nil => rfl
  | cons c t ih =>
    show (Jvm.Cond.and c (allAtoms t)).before a st = _
    rw [Jvm.Cond.before_and, ih, List.all_cons]
def words1 : List Jvm.Cond := Jvm.Cond.code x code maxLocals ret :: tables_1
/-- a 'code' word, met by the world's own term for the bytes: nothing is compared byte by byte -/
theorem code_word {y : MethodName} {bytes : ByteArray} {mx : Nat} {rt : Option FieldType} {a : Array Value} {s : State} {m : MethodId} {meth : Method} {c : Code} (h1 : s.methodNamed? y = some m) (h2 : s.vm.method? m = some meth) (h3 : meth.code = some c) (h4 : c.code = bytes)
    (h5 : (c.maxLocals == mx && c.exceptionTable.isEmpty && decide (c.maxStack ≤ mostOperands) && decide (meth.sig.returnType = rt) && !meth.locks && decide (parseMethodDescriptor y.desc = some meth.sig)) = true) : (Jvm.Cond.code y bytes mx rt).before a s = true := by
  simp only [Bool.and_eq_true, beq_iff_eq, Bool.not_eq_true', decide_eq_true_eq] at h5
  obtain ⟨⟨⟨⟨⟨g1, g2⟩, g3⟩, g4⟩, g5⟩, g6⟩ := h5
  simp [Cond.before, Cond.holds, Cond.value, h1, h2, h3, h4, g1, g2, g3, g4, g5, g6]
def isCode : Jvm.Cond → Bool
  | .code _ _ _ _ => true
  | _ => false
theorem all_split {L : List Jvm.Cond} {P : Jvm.Cond → Bool} (h1 : L.all (fun c => isCode c || P c) = true) (h2 : ∀ c ∈ L.filter isCode, P c = true) : L.all P = true := by
  refine List.all_eq_true.mpr fun c hc => ?_
  have h := List.all_eq_true.mp h1 c hc
  rcases Bool.eq_false_or_eq_true (isCode c) with hi | hi
  · exact h2 c (List.mem_filter.mpr ⟨hc, hi⟩)
  · simpa [hi] using h
set_option maxRecDepth 65536 in
theorem w_c0 : (Jvm.Cond.code x code maxLocals ret).before args0 about1 = true := code_word (m := ⟨1, 1⟩) (meth := k1m1) (c := k1c1) (by decide +kernel) rfl rfl rfl (by decide +kernel)
set_option maxRecDepth 65536 in
theorem w_c1 : (Jvm.Cond.code ({ cls := "com/example/sekhem/sekhem/model/Effects", name := "<init>", desc := "(IIILcom/example/sekhem/sekhem/model/Stance;IIII)V" } : Jvm.MethodName) prog_40_method_1_code (9 : Nat) (Option.none : Option Jvm.ClassFile.FieldType)).before args0 about1 = true := code_word (m := ⟨8, 0⟩) (meth := k8m0) (c := k8c0) (by decide +kernel) rfl rfl rfl (by decide +kernel)
set_option maxRecDepth 65536 in
theorem w_c2 : (Jvm.Cond.code ({ cls := "java/lang/Record", name := "<init>", desc := "()V" } : Jvm.MethodName) jdk_30_method_1_code (1 : Nat) (Option.none : Option Jvm.ClassFile.FieldType)).before args0 about1 = true := code_word (m := ⟨7, 0⟩) (meth := k7m0) (c := k7c0) (by decide +kernel) rfl rfl rfl (by decide +kernel)
set_option maxRecDepth 65536 in
theorem w_c3 : (Jvm.Cond.code ({ cls := "java/lang/Object", name := "<init>", desc := "()V" } : Jvm.MethodName) object_method_1_code (1 : Nat) (Option.none : Option Jvm.ClassFile.FieldType)).before args0 about1 = true := code_word (m := ⟨0, 0⟩) (meth := k0m0) (c := k0c0) (by decide +kernel) rfl rfl rfl (by decide +kernel)
set_option maxRecDepth 65536 in
theorem w_c4 : (Jvm.Cond.code ({ cls := "com/example/sekhem/sekhem/model/Effects", name := "countIn", desc := "(Lcom/example/sekhem/sekhem/model/Stance;)Z" } : Jvm.MethodName) prog_40_method_2_code (2 : Nat) (Option.some Jvm.ClassFile.FieldType.boolean)).before args0 about1 = true := code_word (m := ⟨8, 1⟩) (meth := k8m1) (c := k8c1) (by decide +kernel) rfl rfl rfl (by decide +kernel)
def codes1 : List Jvm.Cond := [Jvm.Cond.code x code maxLocals ret, Jvm.Cond.code ({ cls := "com/example/sekhem/sekhem/model/Effects", name := "<init>", desc := "(IIILcom/example/sekhem/sekhem/model/Stance;IIII)V" } : Jvm.MethodName) prog_40_method_1_code (9 : Nat) (Option.none : Option Jvm.ClassFile.FieldType), Jvm.Cond.code ({ cls := "java/lang/Record", name := "<init>", desc := "()V" } : Jvm.MethodName) jdk_30_method_1_code (1 : Nat) (Option.none : Option Jvm.ClassFile.FieldType), Jvm.Cond.code ({ cls := "java/lang/Object", name := "<init>", desc := "()V" } : Jvm.MethodName) object_method_1_code (1 : Nat) (Option.none : Option Jvm.ClassFile.FieldType), Jvm.Cond.code ({ cls := "com/example/sekhem/sekhem/model/Effects", name := "countIn", desc := "(Lcom/example/sekhem/sekhem/model/Stance;)Z" } : Jvm.MethodName) prog_40_method_2_code (2 : Nat) (Option.some Jvm.ClassFile.FieldType.boolean)]
set_option maxRecDepth 65536 in
theorem codes_eq : words1.filter isCode = codes1 := rfl
theorem w_codes : ∀ c ∈ words1.filter isCode, c.before args0 about1 = true := by
  rw [codes_eq]
  intro c hc
  simp only [codes1, List.mem_cons, List.not_mem_nil, or_false] at hc
  rcases hc with rfl | rfl | rfl | rfl | rfl
  · exact w_c0
  · exact w_c1
  · exact w_c2
  · exact w_c3
  · exact w_c4
set_option maxRecDepth 65536 in
theorem w_t1 : (words1.take 24).all (fun c => isCode c || c.before args0 about1) = true := by decide +kernel
set_option maxRecDepth 65536 in
theorem w_t2 : (words1.drop 24).all (fun c => isCode c || c.before args0 about1) = true := by decide +kernel
theorem w_tables : (allAtoms (Jvm.Cond.code x code maxLocals ret :: tables_1)).before args0 about1 = true := by
  rw [allAtoms_all]
  show words1.all (fun c => c.before args0 about1) = true
  refine all_split ?_ w_codes
  rw [← List.take_append_drop 24 words1, List.all_append, w_t1, w_t2]
  rfl
set_option maxRecDepth 65536 in
theorem w_case : (Jvm.Cond.and given_1 narrow_1).before args0 about1 = true := by decide +kernel
theorem w_applies : (headSpec (Jvm.Cond.code x code maxLocals ret :: tables_1) room_1).applies x e0.platform about1 = true :=
  (Spec.applies_iff w_frames).mpr ⟨w_running, w_runnable, w_alone, w_named, w_hears, w_ripe, w_room, w_tables⟩
theorem atStart : AtStart classFile x code maxLocals ret World_1 tables_1 room_1 Calls_1 rest_1 Pre_1 launch0 p0 e0 about1 theMethod args0 below0 :=
  ⟨lists_1, trivial, launch0.admits_env _ _ _, launch0.least_env, fairChoices_fair.cas, fairChoices_fair.clock, w_frames, w_args, w_heap, w_applies, trivial, trivial, w_case⟩
end start1
theorem witness_1 : WitnessClaimed_1 := ⟨start1.p0, start1.e0, start1.about1, start1.theMethod, start1.args0, start1.below0, start1.atStart⟩
end Jvm.Pilot.@@N@@
