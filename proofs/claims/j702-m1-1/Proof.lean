import JvmDerived
import JvmDerived.Pilot.@@N@@Statement
import JvmDerived.Pilot.@@N@@Code
set_option linter.unusedVariables false
set_option linter.unusedSimpArgs false
namespace Jvm.RoadKit
open Sem ClassFile Op Lib Jvm.Stand Jvm.Free Jvm.LawKit
section New
variable {p : Program} {l : Launch} {e : Env} {R : Room} {s : State} {m : MethodId} {args : Array Value} {below : List Frame} {meth : Method} {c : Code} {T : State} {locs : List Loc} {cells slots : Nat}
theorem retI (X : Stand p l e R s m args below meth c T locs cells slots) (hx : p.tables.exec = Jvm.exec) {pc : Nat} {Ls : Array Slot} {z : Int32} {rest : List Value} (hret : meth.sig.returnType = some .int) (hd : decode c.code pc = .ok (.ireturn, 1)) {fs : List Frame}
    (hl : ∀ (f : JFrame) (acts : List Action), f.method = m → f.locked = none → f.entered = [] → (doReturn e (T.setTop f) acts (some (.int z))).1 = T.setFrames fs) : Steps p.tables e below (T.setTop (mkF m pc Ls (.int z :: rest))) (T.setFrames fs) := by
  have hm' : T.vm.method? m = some meth := X.method'
  have hn : narrow .int (.int z) = .int z := rfl
  show Steps p.tables e below (T.setTop { method := m, pc := pc, locals := Ls, stack := _ :: rest, locked := none }) _
  jvm_step X.here [X.here.top, hx, hd, hm', hret, hn]
  first | (intro acts; rw [hl _ acts rfl rfl rfl]) | rw [hl _ _ rfl rfl rfl]
  exact Steps.refl _
end New
end Jvm.RoadKit
namespace Jvm.Pilot.@@N@@
open Jvm Jvm.ClassFile Sem Op Lib Jvm.Free Jvm.Stand Jvm.LawKit Jvm.RoadKit Bundle Jvm.Pilot.@@N@@.Jvm.D
theorem d1_0 : decode prog_40_method_1_code 0 = .ok (.aload_n 0, 1) := by decide +kernel
theorem d1_1 : decode prog_40_method_1_code 1 = .ok (.invokespecial 1, 3) := by decide +kernel
theorem d1_4 : decode prog_40_method_1_code 4 = .ok (.aload_n 0, 1) := by decide +kernel
theorem d1_5 : decode prog_40_method_1_code 5 = .ok (.lload_n 1, 1) := by decide +kernel
theorem d1_6 : decode prog_40_method_1_code 6 = .ok (.putfield 7, 3) := by decide +kernel
theorem d1_9 : decode prog_40_method_1_code 9 = .ok (.return_, 1) := by decide +kernel
theorem pn_1 : plainName "com/example/cistern/cistern/sampling/SplitMix64" = true := by first | (simp [plainName, overriddenIn]; done) | decide +kernel
theorem ef_1 (m : MethodId) (x0 : Addr) (x1 : Int64) : entryFrame m #[(.ref x0), (.long x1)] 3 = mkF m 0 #[.val (.ref x0), .val (.long x1), .second] [] := by first | (simp [entryFrame, mkF, argsToLocals, Value.category]; done) | rfl
def Q1 (Z : State) (o0 : Addr) (q1 : Int64) (w2 : Int64) (h0 : Heap) (n0 : Nat) (v : Option Value) (h : Heap) (L : List Loc) : Prop := v = none ∧ Fr n0 L ∧ Keep h0 h [o0] ∧ Fld Z h o0 "com/example/cistern/cistern/sampling/SplitMix64" "_state" "J" (.long q1)
set_option maxRecDepth 65536 in
set_option maxHeartbeats 40000000 in
theorem rm1 (l : Launch) (Z : State) (a0 : Array Value) (hw : ∀ d ∈ tables_1, d.before a0 Z = true) (ws : List Jvm.Cond) (o0 : Addr) (q1 : Int64) (w2 : Int64) (h0 : Heap) (n0 : Nat) (Z0 : n0 ≤ h0.size) (E_o0 : Exa Z h0 o0 "com/example/cistern/cistern/sampling/SplitMix64") (F__state_o0 : Fld Z h0 o0 "com/example/cistern/cistern/sampling/SplitMix64" "_state" "J" (.long w2)) (g_o0 : n0 ≤ o0) :
    MetFree l (⟨"com/example/cistern/cistern/sampling/SplitMix64", "<init>", "(J)V"⟩ : MethodName) (head1 (Jvm.Cond.code (⟨"com/example/cistern/cistern/sampling/SplitMix64", "<init>", "(J)V"⟩ : MethodName) prog_40_method_1_code 3 none :: ws) ({ frames := 1, cells := 0, slots := 0, locals := 12 } : Room)) (fun a U => a = #[(.ref o0), (.long q1)] ∧ Z.Warmed39 U.vm ∧ U.heap = h0) (fun _ _ _ _ _ => True) (fun _ U o U' => ∃ v L, o = .returned v ∧ Q1 Z o0 q1 w2 h0 n0 v U'.heap L ∧ FrameEnd U o U' L ({ frames := 1, cells := 0, slots := 0, locals := 12 } : Room).cells ({ frames := 1, cells := 0, slots := 0, locals := 12 } : Room).slots) := by
  refine MetFree.of_bodySF (plainFor_of_name pn_1) hisR ?_
  intro p e s m args below meth c s₁ Bd hml0 hP hK
  obtain ⟨rfl, hZ, hh⟩ := hP
  have hx := Bd.exec
  have hby := Bd.bytes
  have hml : c.maxLocals = 3 := hml0
  have hown : s.vm.findClass "com/example/cistern/cistern/sampling/SplitMix64" = some m.cls := findClass_of_methodNamed Bd.named
  have hnm := (name_of_methodNamed Bd.named Bd.method).1
  have X0 : Stand p l e ({ frames := 1, cells := 0, slots := 0, locals := 12 } : Room) s m #[(.ref o0), (.long q1)] below meth c s₁ [] 0 0 := Stand.of_body Bd
  have e0 : s₁.heap = h0 := by rw [← hh, Bd.state]; rfl
  have N0 := Fr.nil n0
  have pre0 : ∀ t, Steps p.tables e below (s₁.setTop (mkF m 0 #[.val (.ref o0), .val (.long q1), .second] [])) t → Steps p.tables e below (s₁.setTop (entryFrame m #[(.ref o0), (.long q1)] 3)) t := fun t k => castTop (ef_1 m o0 q1) k
  obtain ⟨T1, X1, e1, st1⟩ := initO X0 hx hZ hown (hw _ (List.mem_of_getElem? (i := 6) rfl)) (hw _ (List.mem_of_getElem? (i := 7) rfl)) (hw _ (List.mem_of_getElem? (i := 8) rfl)) e0 (g := (mkF m 1 #[.val (.ref o0), .val (.long q1), .second] [(.ref o0)])) rfl (by rw [hml]; rfl) rfl (hb hby d1_1) (by decide) (W := 0) (by show 2 * 0 + _ ≤ _; exact Nat.le_of_eq rfl) (by decide)
  obtain ⟨T3, h3, X3, e3, W3, st3⟩ := putF X1 hx hZ hown (host := "") (Or.inl (hw _ (List.mem_of_getElem? (i := 9) rfl))) Via.refl e1 F__state_o0 E_o0 (Or.inl (hw _ (List.mem_of_getElem? (i := 10) rfl))) (hw _ (List.mem_of_getElem? (i := 1) rfl)) (ty := .long) (by decide) rfl rfl (g := (mkF m 6 #[.val (.ref o0), .val (.long q1), .second] [(.long q1), (.ref o0)])) rfl rfl (hb hby d1_6)
  have Fw3 := F__state_o0.same W3
  have K4 : Keep h0 h3 [o0] := (Keep.refl h0 [o0]).wr W3 (Or.inl (List.mem_of_getElem? (i := 0) rfl))
  have Z5 : n0 ≤ h3.size := Nat.le_trans Z0 K4.1
  have N3 := Fr.snoc X3 N0 g_o0
  obtain ⟨LS3, X3, N3⟩ : ∃ L, Stand p l e ({ frames := 1, cells := 0, slots := 0, locals := 12 } : Room) s m #[(.ref o0), (.long q1)] below meth c T3 L 0 0 ∧ Fr n0 L := ⟨_, X3, N3⟩
  obtain ⟨fs, hr, hrun, hended, hW, hsame⟩ := X3.leave (v := none) (fun _ => rfl)
  refine ⟨_, _, pre0 _ ?_, hrun, hended, _, _, rfl, ?_, ⟨_, rfl⟩, hW, hsame.mono (by decide) (by decide)⟩
  · show Steps p.tables e below (s₁.setTop (mkF m 0 #[.val (.ref o0), .val (.long q1), .second] [])) _
    refine XS.aloadN X0.here hx rfl (hb hby d1_0) rfl rfl ?_
    show Steps p.tables e below (s₁.setTop (mkF m 1 #[.val (.ref o0), .val (.long q1), .second] [(.ref o0)])) _
    refine st1 _ ?_
    show Steps p.tables e below (T1.setTop (mkF m 4 #[.val (.ref o0), .val (.long q1), .second] [])) _
    refine XS.aloadN X1.here hx rfl (hb hby d1_4) rfl rfl ?_
    show Steps p.tables e below (T1.setTop (mkF m 5 #[.val (.ref o0), .val (.long q1), .second] [(.ref o0)])) _
    refine XS.lloadN X1.here hx rfl (hb hby d1_5) rfl ?_
    show Steps p.tables e below (T1.setTop (mkF m 6 #[.val (.ref o0), .val (.long q1), .second] [(.long q1), (.ref o0)])) _
    refine st3 _ ?_
    show Steps p.tables e below (T3.setTop (mkF m 9 #[.val (.ref o0), .val (.long q1), .second] [])) _
    exact X3.returnOut hx Bd.returns (hb hby d1_9) hr
  · show Q1 Z o0 q1 w2 h0 n0 _ T3.heap _
    rw [e3]
    exact ⟨rfl, N3, K4, Fw3⟩
theorem d3_0 : decode prog_40_method_2_code 0 = .ok (.aload_n 0, 1) := by decide +kernel
theorem d3_1 : decode prog_40_method_2_code 1 = .ok (.dup, 1) := by decide +kernel
theorem d3_2 : decode prog_40_method_2_code 2 = .ok (.getfield 7, 3) := by decide +kernel
theorem d3_5 : decode prog_40_method_2_code 5 = .ok (.ldc2_w 13, 3) := by decide +kernel
theorem d3_8 : decode prog_40_method_2_code 8 = .ok (.ladd, 1) := by decide +kernel
theorem d3_9 : decode prog_40_method_2_code 9 = .ok (.putfield 7, 3) := by decide +kernel
theorem d3_12 : decode prog_40_method_2_code 12 = .ok (.aload_n 0, 1) := by decide +kernel
theorem d3_13 : decode prog_40_method_2_code 13 = .ok (.getfield 7, 3) := by decide +kernel
theorem d3_16 : decode prog_40_method_2_code 16 = .ok (.lstore_n 1, 1) := by decide +kernel
theorem d3_17 : decode prog_40_method_2_code 17 = .ok (.lload_n 1, 1) := by decide +kernel
theorem d3_18 : decode prog_40_method_2_code 18 = .ok (.lload_n 1, 1) := by decide +kernel
theorem d3_19 : decode prog_40_method_2_code 19 = .ok (.bipush 30, 2) := by decide +kernel
theorem d3_21 : decode prog_40_method_2_code 21 = .ok (.lushr, 1) := by decide +kernel
theorem d3_22 : decode prog_40_method_2_code 22 = .ok (.lxor, 1) := by decide +kernel
theorem d3_23 : decode prog_40_method_2_code 23 = .ok (.ldc2_w 15, 3) := by decide +kernel
theorem d3_26 : decode prog_40_method_2_code 26 = .ok (.lmul, 1) := by decide +kernel
theorem d3_27 : decode prog_40_method_2_code 27 = .ok (.lstore_n 1, 1) := by decide +kernel
theorem d3_28 : decode prog_40_method_2_code 28 = .ok (.lload_n 1, 1) := by decide +kernel
theorem d3_29 : decode prog_40_method_2_code 29 = .ok (.lload_n 1, 1) := by decide +kernel
theorem d3_30 : decode prog_40_method_2_code 30 = .ok (.bipush 27, 2) := by decide +kernel
theorem d3_32 : decode prog_40_method_2_code 32 = .ok (.lushr, 1) := by decide +kernel
theorem d3_33 : decode prog_40_method_2_code 33 = .ok (.lxor, 1) := by decide +kernel
theorem d3_34 : decode prog_40_method_2_code 34 = .ok (.ldc2_w 17, 3) := by decide +kernel
theorem d3_37 : decode prog_40_method_2_code 37 = .ok (.lmul, 1) := by decide +kernel
theorem d3_38 : decode prog_40_method_2_code 38 = .ok (.lstore_n 1, 1) := by decide +kernel
theorem d3_39 : decode prog_40_method_2_code 39 = .ok (.lload_n 1, 1) := by decide +kernel
theorem d3_40 : decode prog_40_method_2_code 40 = .ok (.lload_n 1, 1) := by decide +kernel
theorem d3_41 : decode prog_40_method_2_code 41 = .ok (.bipush 31, 2) := by decide +kernel
theorem d3_43 : decode prog_40_method_2_code 43 = .ok (.lushr, 1) := by decide +kernel
theorem d3_44 : decode prog_40_method_2_code 44 = .ok (.lxor, 1) := by decide +kernel
theorem d3_45 : decode prog_40_method_2_code 45 = .ok (.lreturn, 1) := by decide +kernel
theorem pn_3 : plainName "com/example/cistern/cistern/sampling/SplitMix64" = true := by first | (simp [plainName, overriddenIn]; done) | decide +kernel
theorem ef_3 (m : MethodId) (x0 : Addr) : entryFrame m #[(.ref x0)] 3 = mkF m 0 #[.val (.ref x0), .unset, .unset] [] := by first | (simp [entryFrame, mkF, argsToLocals, Value.category]; done) | rfl
def e3_1 (w1 : Int64) : Int64 := (((w1 + (-7046029254386353131 : Int64)) ^^^ (((w1 + (-7046029254386353131 : Int64)).toUInt64 >>> ((30 : Int32) &&& 0x3f).toInt64.toUInt64).toInt64)) * (-4658895280553007687 : Int64))
def e3_2 (w1 : Int64) : Int64 := (((e3_1 w1) ^^^ (((e3_1 w1).toUInt64 >>> ((27 : Int32) &&& 0x3f).toInt64.toUInt64).toInt64)) * (-7723592293110705685 : Int64))
def f3 (w1 : Int64) : Int64 :=
  ((e3_2 w1) ^^^ (((e3_2 w1).toUInt64 >>> ((31 : Int32) &&& 0x3f).toInt64.toUInt64).toInt64))
def Q3 (Z : State) (o0 : Addr) (w1 : Int64) (h0 : Heap) (n0 : Nat) (v : Option Value) (h : Heap) (L : List Loc) : Prop := v = some (.long (f3 w1)) ∧ Fr n0 L ∧ Keep h0 h [o0] ∧ Fld Z h o0 "com/example/cistern/cistern/sampling/SplitMix64" "_state" "J" (.long (w1 + (-7046029254386353131 : Int64)))
set_option maxRecDepth 65536 in
set_option maxHeartbeats 40000000 in
theorem rm3 (l : Launch) (Z : State) (a0 : Array Value) (hw : ∀ d ∈ tables_1, d.before a0 Z = true) (ws : List Jvm.Cond) (o0 : Addr) (w1 : Int64) (h0 : Heap) (n0 : Nat) (Z0 : n0 ≤ h0.size) (F__state_o0 : Fld Z h0 o0 "com/example/cistern/cistern/sampling/SplitMix64" "_state" "J" (.long w1)) (E_o0 : Exa Z h0 o0 "com/example/cistern/cistern/sampling/SplitMix64") (g_o0 : n0 ≤ o0) :
    MetFree l (⟨"com/example/cistern/cistern/sampling/SplitMix64", "nextLong", "()J"⟩ : MethodName) (head1 (Jvm.Cond.code (⟨"com/example/cistern/cistern/sampling/SplitMix64", "nextLong", "()J"⟩ : MethodName) prog_40_method_2_code 3 (some .long) :: ws) ({ frames := 0, cells := 0, slots := 0, locals := 0 } : Room)) (fun a U => a = #[(.ref o0)] ∧ Z.Warmed39 U.vm ∧ U.heap = h0) (fun _ _ _ _ _ => True) (fun _ U o U' => ∃ v L, o = .returned v ∧ Q3 Z o0 w1 h0 n0 v U'.heap L ∧ FrameEnd U o U' L ({ frames := 0, cells := 0, slots := 0, locals := 0 } : Room).cells ({ frames := 0, cells := 0, slots := 0, locals := 0 } : Room).slots) := by
  refine MetFree.of_bodySF (plainFor_of_name pn_3) hisR ?_
  intro p e s m args below meth c s₁ Bd hml0 hP hK
  obtain ⟨rfl, hZ, hh⟩ := hP
  have hx := Bd.exec
  have hby := Bd.bytes
  have hml : c.maxLocals = 3 := hml0
  have hown : s.vm.findClass "com/example/cistern/cistern/sampling/SplitMix64" = some m.cls := findClass_of_methodNamed Bd.named
  have hnm := (name_of_methodNamed Bd.named Bd.method).1
  have X0 : Stand p l e ({ frames := 0, cells := 0, slots := 0, locals := 0 } : Room) s m #[(.ref o0)] below meth c s₁ [] 0 0 := Stand.of_body Bd
  have e0 : s₁.heap = h0 := by rw [← hh, Bd.state]; rfl
  have N0 := Fr.nil n0
  have pre0 : ∀ t, Steps p.tables e below (s₁.setTop (mkF m 0 #[.val (.ref o0), .unset, .unset] [])) t → Steps p.tables e below (s₁.setTop (entryFrame m #[(.ref o0)] 3)) t := fun t k => castTop (ef_3 m o0) k
  obtain ⟨T2, X2, e2, st2⟩ := getF X0 hx hZ hown (host := "") (Or.inl (hw _ (List.mem_of_getElem? (i := 9) rfl))) Via.refl e0 F__state_o0 (g := (mkF m 2 #[.val (.ref o0), .unset, .unset] [(.ref o0), (.ref o0)])) rfl rfl (hb hby d3_2)
  obtain ⟨T3, h3, X3, e3, W3, st3⟩ := putF X2 hx hZ hown (host := "") (Or.inl (hw _ (List.mem_of_getElem? (i := 9) rfl))) Via.refl e2 F__state_o0 E_o0 (Or.inl (hw _ (List.mem_of_getElem? (i := 10) rfl))) (hw _ (List.mem_of_getElem? (i := 1) rfl)) (ty := .long) (by decide) rfl rfl (g := (mkF m 9 #[.val (.ref o0), .unset, .unset] [(.long (w1 + (-7046029254386353131 : Int64))), (.ref o0)])) rfl rfl (hb hby d3_9)
  have Fw3 := F__state_o0.same W3
  have K4 : Keep h0 h3 [o0] := (Keep.refl h0 [o0]).wr W3 (Or.inl (List.mem_of_getElem? (i := 0) rfl))
  have Z5 : n0 ≤ h3.size := Nat.le_trans Z0 K4.1
  have N3 := Fr.snoc X3 N0 g_o0
  obtain ⟨LS3, X3, N3⟩ : ∃ L, Stand p l e ({ frames := 0, cells := 0, slots := 0, locals := 0 } : Room) s m #[(.ref o0)] below meth c T3 L 0 0 ∧ Fr n0 L := ⟨_, X3, N3⟩
  obtain ⟨T6, X6, e6, st6⟩ := getF X3 hx hZ hown (host := "") (Or.inl (hw _ (List.mem_of_getElem? (i := 9) rfl))) Via.refl e3 Fw3 (g := (mkF m 13 #[.val (.ref o0), .unset, .unset] [(.ref o0)])) rfl rfl (hb hby d3_13)
  obtain ⟨fs, hr, hrun, hended, hW, hsame⟩ := X6.leave (v := some (.long ((e3_2 w1) ^^^ (((e3_2 w1).toUInt64 >>> ((31 : Int32) &&& 0x3f).toInt64.toUInt64).toInt64)))) (fun h => by rw [Bd.returns] at h; cases h)
  have hv7 : (f3 w1) = ((e3_2 w1) ^^^ (((e3_2 w1).toUInt64 >>> ((31 : Int32) &&& 0x3f).toInt64.toUInt64).toInt64)) := rfl
  refine ⟨_, _, pre0 _ ?_, hrun, hended, _, _, rfl, ?_, ⟨_, rfl⟩, hW, hsame.mono (by decide) (by decide)⟩
  · show Steps p.tables e below (s₁.setTop (mkF m 0 #[.val (.ref o0), .unset, .unset] [])) _
    refine XS.aloadN X0.here hx rfl (hb hby d3_0) rfl rfl ?_
    show Steps p.tables e below (s₁.setTop (mkF m 1 #[.val (.ref o0), .unset, .unset] [(.ref o0)])) _
    refine XS.dup X0.here hx rfl (hb hby d3_1) rfl rfl ?_
    show Steps p.tables e below (s₁.setTop (mkF m 2 #[.val (.ref o0), .unset, .unset] [(.ref o0), (.ref o0)])) _
    refine st2 _ ?_
    show Steps p.tables e below (T2.setTop (mkF m 5 #[.val (.ref o0), .unset, .unset] [(.long w1), (.ref o0)])) _
    refine X2.ldc2Long hx hown (mvT hZ (hw _ (List.mem_of_getElem? (i := 16) rfl))) (g := (mkF m 5 #[.val (.ref o0), .unset, .unset] [(.long w1), (.ref o0)])) rfl (hb hby d3_5) _ ?_
    show Steps p.tables e below (T2.setTop (mkF m 8 #[.val (.ref o0), .unset, .unset] [(.long (-7046029254386353131 : Int64)), (.long w1), (.ref o0)])) _
    refine XS.ladd X2.here hx rfl (hb hby d3_8) rfl ?_
    show Steps p.tables e below (T2.setTop (mkF m 9 #[.val (.ref o0), .unset, .unset] [(.long (w1 + (-7046029254386353131 : Int64))), (.ref o0)])) _
    refine st3 _ ?_
    show Steps p.tables e below (T3.setTop (mkF m 12 #[.val (.ref o0), .unset, .unset] [])) _
    refine XS.aloadN X3.here hx rfl (hb hby d3_12) rfl rfl ?_
    show Steps p.tables e below (T3.setTop (mkF m 13 #[.val (.ref o0), .unset, .unset] [(.ref o0)])) _
    refine st6 _ ?_
    show Steps p.tables e below (T6.setTop (mkF m 16 #[.val (.ref o0), .unset, .unset] [(.long (w1 + (-7046029254386353131 : Int64)))])) _
    refine XS.lstoreN X6.here hx rfl (hb hby d3_16) rfl (l' := #[.val (.ref o0), .val (.long (w1 + (-7046029254386353131 : Int64))), .second]) rfl ?_
    show Steps p.tables e below (T6.setTop (mkF m 17 #[.val (.ref o0), .val (.long (w1 + (-7046029254386353131 : Int64))), .second] [])) _
    refine XS.lloadN X6.here hx rfl (hb hby d3_17) rfl ?_
    show Steps p.tables e below (T6.setTop (mkF m 18 #[.val (.ref o0), .val (.long (w1 + (-7046029254386353131 : Int64))), .second] [(.long (w1 + (-7046029254386353131 : Int64)))])) _
    refine XS.lloadN X6.here hx rfl (hb hby d3_18) rfl ?_
    show Steps p.tables e below (T6.setTop (mkF m 19 #[.val (.ref o0), .val (.long (w1 + (-7046029254386353131 : Int64))), .second] [(.long (w1 + (-7046029254386353131 : Int64))), (.long (w1 + (-7046029254386353131 : Int64)))])) _
    refine XS.bipush X6.here hx rfl (hb hby d3_19) ?_
    show Steps p.tables e below (T6.setTop (mkF m 21 #[.val (.ref o0), .val (.long (w1 + (-7046029254386353131 : Int64))), .second] [(.int (30 : Int32)), (.long (w1 + (-7046029254386353131 : Int64))), (.long (w1 + (-7046029254386353131 : Int64)))])) _
    refine XS.lushr X6.here hx rfl (hb hby d3_21) rfl ?_
    show Steps p.tables e below (T6.setTop (mkF m 22 #[.val (.ref o0), .val (.long (w1 + (-7046029254386353131 : Int64))), .second] [(.long (((w1 + (-7046029254386353131 : Int64)).toUInt64 >>> ((30 : Int32) &&& 0x3f).toInt64.toUInt64).toInt64)), (.long (w1 + (-7046029254386353131 : Int64)))])) _
    refine XS.lxor X6.here hx rfl (hb hby d3_22) rfl ?_
    show Steps p.tables e below (T6.setTop (mkF m 23 #[.val (.ref o0), .val (.long (w1 + (-7046029254386353131 : Int64))), .second] [(.long ((w1 + (-7046029254386353131 : Int64)) ^^^ (((w1 + (-7046029254386353131 : Int64)).toUInt64 >>> ((30 : Int32) &&& 0x3f).toInt64.toUInt64).toInt64)))])) _
    refine X6.ldc2Long hx hown (mvT hZ (hw _ (List.mem_of_getElem? (i := 17) rfl))) (g := (mkF m 23 #[.val (.ref o0), .val (.long (w1 + (-7046029254386353131 : Int64))), .second] [(.long ((w1 + (-7046029254386353131 : Int64)) ^^^ (((w1 + (-7046029254386353131 : Int64)).toUInt64 >>> ((30 : Int32) &&& 0x3f).toInt64.toUInt64).toInt64)))])) rfl (hb hby d3_23) _ ?_
    show Steps p.tables e below (T6.setTop (mkF m 26 #[.val (.ref o0), .val (.long (w1 + (-7046029254386353131 : Int64))), .second] [(.long (-4658895280553007687 : Int64)), (.long ((w1 + (-7046029254386353131 : Int64)) ^^^ (((w1 + (-7046029254386353131 : Int64)).toUInt64 >>> ((30 : Int32) &&& 0x3f).toInt64.toUInt64).toInt64)))])) _
    refine XS.lmul X6.here hx rfl (hb hby d3_26) rfl ?_
    show Steps p.tables e below (T6.setTop (mkF m 27 #[.val (.ref o0), .val (.long (w1 + (-7046029254386353131 : Int64))), .second] [(.long (((w1 + (-7046029254386353131 : Int64)) ^^^ (((w1 + (-7046029254386353131 : Int64)).toUInt64 >>> ((30 : Int32) &&& 0x3f).toInt64.toUInt64).toInt64)) * (-4658895280553007687 : Int64)))])) _
    refine XS.lstoreN X6.here hx rfl (hb hby d3_27) rfl (l' := #[.val (.ref o0), .val (.long (e3_1 w1)), .second]) rfl ?_
    show Steps p.tables e below (T6.setTop (mkF m 28 #[.val (.ref o0), .val (.long (e3_1 w1)), .second] [])) _
    refine XS.lloadN X6.here hx rfl (hb hby d3_28) rfl ?_
    show Steps p.tables e below (T6.setTop (mkF m 29 #[.val (.ref o0), .val (.long (e3_1 w1)), .second] [(.long (e3_1 w1))])) _
    refine XS.lloadN X6.here hx rfl (hb hby d3_29) rfl ?_
    show Steps p.tables e below (T6.setTop (mkF m 30 #[.val (.ref o0), .val (.long (e3_1 w1)), .second] [(.long (e3_1 w1)), (.long (e3_1 w1))])) _
    refine XS.bipush X6.here hx rfl (hb hby d3_30) ?_
    show Steps p.tables e below (T6.setTop (mkF m 32 #[.val (.ref o0), .val (.long (e3_1 w1)), .second] [(.int (27 : Int32)), (.long (e3_1 w1)), (.long (e3_1 w1))])) _
    refine XS.lushr X6.here hx rfl (hb hby d3_32) rfl ?_
    show Steps p.tables e below (T6.setTop (mkF m 33 #[.val (.ref o0), .val (.long (e3_1 w1)), .second] [(.long (((e3_1 w1).toUInt64 >>> ((27 : Int32) &&& 0x3f).toInt64.toUInt64).toInt64)), (.long (e3_1 w1))])) _
    refine XS.lxor X6.here hx rfl (hb hby d3_33) rfl ?_
    show Steps p.tables e below (T6.setTop (mkF m 34 #[.val (.ref o0), .val (.long (e3_1 w1)), .second] [(.long ((e3_1 w1) ^^^ (((e3_1 w1).toUInt64 >>> ((27 : Int32) &&& 0x3f).toInt64.toUInt64).toInt64)))])) _
    refine X6.ldc2Long hx hown (mvT hZ (hw _ (List.mem_of_getElem? (i := 18) rfl))) (g := (mkF m 34 #[.val (.ref o0), .val (.long (e3_1 w1)), .second] [(.long ((e3_1 w1) ^^^ (((e3_1 w1).toUInt64 >>> ((27 : Int32) &&& 0x3f).toInt64.toUInt64).toInt64)))])) rfl (hb hby d3_34) _ ?_
    show Steps p.tables e below (T6.setTop (mkF m 37 #[.val (.ref o0), .val (.long (e3_1 w1)), .second] [(.long (-7723592293110705685 : Int64)), (.long ((e3_1 w1) ^^^ (((e3_1 w1).toUInt64 >>> ((27 : Int32) &&& 0x3f).toInt64.toUInt64).toInt64)))])) _
    refine XS.lmul X6.here hx rfl (hb hby d3_37) rfl ?_
    show Steps p.tables e below (T6.setTop (mkF m 38 #[.val (.ref o0), .val (.long (e3_1 w1)), .second] [(.long (((e3_1 w1) ^^^ (((e3_1 w1).toUInt64 >>> ((27 : Int32) &&& 0x3f).toInt64.toUInt64).toInt64)) * (-7723592293110705685 : Int64)))])) _
    refine XS.lstoreN X6.here hx rfl (hb hby d3_38) rfl (l' := #[.val (.ref o0), .val (.long (e3_2 w1)), .second]) rfl ?_
    show Steps p.tables e below (T6.setTop (mkF m 39 #[.val (.ref o0), .val (.long (e3_2 w1)), .second] [])) _
    refine XS.lloadN X6.here hx rfl (hb hby d3_39) rfl ?_
    show Steps p.tables e below (T6.setTop (mkF m 40 #[.val (.ref o0), .val (.long (e3_2 w1)), .second] [(.long (e3_2 w1))])) _
    refine XS.lloadN X6.here hx rfl (hb hby d3_40) rfl ?_
    show Steps p.tables e below (T6.setTop (mkF m 41 #[.val (.ref o0), .val (.long (e3_2 w1)), .second] [(.long (e3_2 w1)), (.long (e3_2 w1))])) _
    refine XS.bipush X6.here hx rfl (hb hby d3_41) ?_
    show Steps p.tables e below (T6.setTop (mkF m 43 #[.val (.ref o0), .val (.long (e3_2 w1)), .second] [(.int (31 : Int32)), (.long (e3_2 w1)), (.long (e3_2 w1))])) _
    refine XS.lushr X6.here hx rfl (hb hby d3_43) rfl ?_
    show Steps p.tables e below (T6.setTop (mkF m 44 #[.val (.ref o0), .val (.long (e3_2 w1)), .second] [(.long (((e3_2 w1).toUInt64 >>> ((31 : Int32) &&& 0x3f).toInt64.toUInt64).toInt64)), (.long (e3_2 w1))])) _
    refine XS.lxor X6.here hx rfl (hb hby d3_44) rfl ?_
    show Steps p.tables e below (T6.setTop (mkF m 45 #[.val (.ref o0), .val (.long (e3_2 w1)), .second] [(.long ((e3_2 w1) ^^^ (((e3_2 w1).toUInt64 >>> ((31 : Int32) &&& 0x3f).toInt64.toUInt64).toInt64)))])) _
    exact X6.lreturnOut hx Bd.returns (hb hby d3_45) hr
  · show Q3 Z o0 w1 h0 n0 _ T6.heap _
    rw [e6]
    exact ⟨congrArg (fun q => some (Value.long q)) hv7.symm, N3, K4, Fw3⟩
theorem d5_0 : decode method_2_code 0 = .ok (.lload_n 0, 1) := by decide +kernel
theorem d5_1 : decode method_2_code 1 = .ok (.lstore_n 2, 1) := by decide +kernel
theorem d5_2 : decode method_2_code 2 = .ok (.lload_n 2, 1) := by decide +kernel
theorem d5_3 : decode method_2_code 3 = .ok (.ldc2_w 7, 3) := by decide +kernel
theorem d5_6 : decode method_2_code 6 = .ok (.lload_n 0, 1) := by decide +kernel
theorem d5_7 : decode method_2_code 7 = .ok (.lload_n 2, 1) := by decide +kernel
theorem d5_8 : decode method_2_code 8 = .ok (.lmul, 1) := by decide +kernel
theorem d5_9 : decode method_2_code 9 = .ok (.lsub, 1) := by decide +kernel
theorem d5_10 : decode method_2_code 10 = .ok (.lmul, 1) := by decide +kernel
theorem d5_11 : decode method_2_code 11 = .ok (.lstore_n 2, 1) := by decide +kernel
theorem d5_12 : decode method_2_code 12 = .ok (.lload_n 2, 1) := by decide +kernel
theorem d5_13 : decode method_2_code 13 = .ok (.ldc2_w 7, 3) := by decide +kernel
theorem d5_16 : decode method_2_code 16 = .ok (.lload_n 0, 1) := by decide +kernel
theorem d5_17 : decode method_2_code 17 = .ok (.lload_n 2, 1) := by decide +kernel
theorem d5_18 : decode method_2_code 18 = .ok (.lmul, 1) := by decide +kernel
theorem d5_19 : decode method_2_code 19 = .ok (.lsub, 1) := by decide +kernel
theorem d5_20 : decode method_2_code 20 = .ok (.lmul, 1) := by decide +kernel
theorem d5_21 : decode method_2_code 21 = .ok (.lstore_n 2, 1) := by decide +kernel
theorem d5_22 : decode method_2_code 22 = .ok (.lload_n 2, 1) := by decide +kernel
theorem d5_23 : decode method_2_code 23 = .ok (.ldc2_w 7, 3) := by decide +kernel
theorem d5_26 : decode method_2_code 26 = .ok (.lload_n 0, 1) := by decide +kernel
theorem d5_27 : decode method_2_code 27 = .ok (.lload_n 2, 1) := by decide +kernel
theorem d5_28 : decode method_2_code 28 = .ok (.lmul, 1) := by decide +kernel
theorem d5_29 : decode method_2_code 29 = .ok (.lsub, 1) := by decide +kernel
theorem d5_30 : decode method_2_code 30 = .ok (.lmul, 1) := by decide +kernel
theorem d5_31 : decode method_2_code 31 = .ok (.lstore_n 2, 1) := by decide +kernel
theorem d5_32 : decode method_2_code 32 = .ok (.lload_n 2, 1) := by decide +kernel
theorem d5_33 : decode method_2_code 33 = .ok (.ldc2_w 7, 3) := by decide +kernel
theorem d5_36 : decode method_2_code 36 = .ok (.lload_n 0, 1) := by decide +kernel
theorem d5_37 : decode method_2_code 37 = .ok (.lload_n 2, 1) := by decide +kernel
theorem d5_38 : decode method_2_code 38 = .ok (.lmul, 1) := by decide +kernel
theorem d5_39 : decode method_2_code 39 = .ok (.lsub, 1) := by decide +kernel
theorem d5_40 : decode method_2_code 40 = .ok (.lmul, 1) := by decide +kernel
theorem d5_41 : decode method_2_code 41 = .ok (.lstore_n 2, 1) := by decide +kernel
theorem d5_42 : decode method_2_code 42 = .ok (.lload_n 2, 1) := by decide +kernel
theorem d5_43 : decode method_2_code 43 = .ok (.ldc2_w 7, 3) := by decide +kernel
theorem d5_46 : decode method_2_code 46 = .ok (.lload_n 0, 1) := by decide +kernel
theorem d5_47 : decode method_2_code 47 = .ok (.lload_n 2, 1) := by decide +kernel
theorem d5_48 : decode method_2_code 48 = .ok (.lmul, 1) := by decide +kernel
theorem d5_49 : decode method_2_code 49 = .ok (.lsub, 1) := by decide +kernel
theorem d5_50 : decode method_2_code 50 = .ok (.lmul, 1) := by decide +kernel
theorem d5_51 : decode method_2_code 51 = .ok (.lstore_n 2, 1) := by decide +kernel
theorem d5_52 : decode method_2_code 52 = .ok (.lload_n 2, 1) := by decide +kernel
theorem d5_53 : decode method_2_code 53 = .ok (.lreturn, 1) := by decide +kernel
theorem pn_5 : plainName "com/example/cistern/cistern/sampling/SplitMix64NextLongPinLaw" = true := by first | (simp [plainName, overriddenIn]; done) | decide +kernel
theorem ef_5 (m : MethodId) (x0 : Int64) : entryFrame m #[(.long x0)] 4 = mkF m 0 #[.val (.long x0), .second, .unset, .unset] [] := by first | (simp [entryFrame, mkF, argsToLocals, Value.category]; done) | rfl
def e5_1 (q0 : Int64) : Int64 := ((q0 * ((2 : Int64) - (q0 * q0))) * ((2 : Int64) - (q0 * (q0 * ((2 : Int64) - (q0 * q0))))))
def e5_2 (q0 : Int64) : Int64 := (((e5_1 q0) * ((2 : Int64) - (q0 * (e5_1 q0)))) * ((2 : Int64) - (q0 * ((e5_1 q0) * ((2 : Int64) - (q0 * (e5_1 q0)))))))
def Q5 (Z : State) (q0 : Int64) (h0 : Heap) (n0 : Nat) (v : Option Value) (h : Heap) (L : List Loc) : Prop := v = some (.long ((e5_2 q0) * ((2 : Int64) - (q0 * (e5_2 q0))))) ∧ Fr n0 L ∧ h = h0
set_option maxRecDepth 65536 in
set_option maxHeartbeats 40000000 in
theorem rm5 (l : Launch) (Z : State) (a0 : Array Value) (hw : ∀ d ∈ tables_1, d.before a0 Z = true) (ws : List Jvm.Cond) (q0 : Int64) (h0 : Heap) (n0 : Nat) (Z0 : n0 ≤ h0.size) :
    MetFree l (⟨"com/example/cistern/cistern/sampling/SplitMix64NextLongPinLaw", "inv", "(J)J"⟩ : MethodName) (head1 (Jvm.Cond.code (⟨"com/example/cistern/cistern/sampling/SplitMix64NextLongPinLaw", "inv", "(J)J"⟩ : MethodName) method_2_code 4 (some .long) :: ws) ({ frames := 0, cells := 0, slots := 0, locals := 0 } : Room)) (fun a U => a = #[(.long q0)] ∧ Z.Warmed39 U.vm ∧ U.heap = h0) (fun _ _ _ _ _ => True) (fun _ U o U' => ∃ v L, o = .returned v ∧ Q5 Z q0 h0 n0 v U'.heap L ∧ FrameEnd U o U' L ({ frames := 0, cells := 0, slots := 0, locals := 0 } : Room).cells ({ frames := 0, cells := 0, slots := 0, locals := 0 } : Room).slots) := by
  refine MetFree.of_bodySF (plainFor_of_name pn_5) hisR ?_
  intro p e s m args below meth c s₁ Bd hml0 hP hK
  obtain ⟨rfl, hZ, hh⟩ := hP
  have hx := Bd.exec
  have hby := Bd.bytes
  have hml : c.maxLocals = 4 := hml0
  have hown : s.vm.findClass "com/example/cistern/cistern/sampling/SplitMix64NextLongPinLaw" = some m.cls := findClass_of_methodNamed Bd.named
  have hnm := (name_of_methodNamed Bd.named Bd.method).1
  have X0 : Stand p l e ({ frames := 0, cells := 0, slots := 0, locals := 0 } : Room) s m #[(.long q0)] below meth c s₁ [] 0 0 := Stand.of_body Bd
  have e0 : s₁.heap = h0 := by rw [← hh, Bd.state]; rfl
  have N0 := Fr.nil n0
  have pre0 : ∀ t, Steps p.tables e below (s₁.setTop (mkF m 0 #[.val (.long q0), .second, .unset, .unset] [])) t → Steps p.tables e below (s₁.setTop (entryFrame m #[(.long q0)] 4)) t := fun t k => castTop (ef_5 m q0) k
  obtain ⟨fs, hr, hrun, hended, hW, hsame⟩ := X0.leave (v := some (.long ((e5_2 q0) * ((2 : Int64) - (q0 * (e5_2 q0)))))) (fun h => by rw [Bd.returns] at h; cases h)
  have hv1 : ((e5_2 q0) * ((2 : Int64) - (q0 * (e5_2 q0)))) = ((e5_2 q0) * ((2 : Int64) - (q0 * (e5_2 q0)))) := rfl
  refine ⟨_, _, pre0 _ ?_, hrun, hended, _, _, rfl, ?_, ⟨_, rfl⟩, hW, hsame.mono (by decide) (by decide)⟩
  · show Steps p.tables e below (s₁.setTop (mkF m 0 #[.val (.long q0), .second, .unset, .unset] [])) _
    refine XS.lloadN X0.here hx rfl (hb hby d5_0) rfl ?_
    show Steps p.tables e below (s₁.setTop (mkF m 1 #[.val (.long q0), .second, .unset, .unset] [(.long q0)])) _
    refine XS.lstoreN X0.here hx rfl (hb hby d5_1) rfl (l' := #[.val (.long q0), .second, .val (.long q0), .second]) rfl ?_
    show Steps p.tables e below (s₁.setTop (mkF m 2 #[.val (.long q0), .second, .val (.long q0), .second] [])) _
    refine XS.lloadN X0.here hx rfl (hb hby d5_2) rfl ?_
    show Steps p.tables e below (s₁.setTop (mkF m 3 #[.val (.long q0), .second, .val (.long q0), .second] [(.long q0)])) _
    refine X0.ldc2Long hx hown (mvT hZ (hw _ (List.mem_of_getElem? (i := 28) rfl))) (g := (mkF m 3 #[.val (.long q0), .second, .val (.long q0), .second] [(.long q0)])) rfl (hb hby d5_3) _ ?_
    show Steps p.tables e below (s₁.setTop (mkF m 6 #[.val (.long q0), .second, .val (.long q0), .second] [(.long (2 : Int64)), (.long q0)])) _
    refine XS.lloadN X0.here hx rfl (hb hby d5_6) rfl ?_
    show Steps p.tables e below (s₁.setTop (mkF m 7 #[.val (.long q0), .second, .val (.long q0), .second] [(.long q0), (.long (2 : Int64)), (.long q0)])) _
    refine XS.lloadN X0.here hx rfl (hb hby d5_7) rfl ?_
    show Steps p.tables e below (s₁.setTop (mkF m 8 #[.val (.long q0), .second, .val (.long q0), .second] [(.long q0), (.long q0), (.long (2 : Int64)), (.long q0)])) _
    refine XS.lmul X0.here hx rfl (hb hby d5_8) rfl ?_
    show Steps p.tables e below (s₁.setTop (mkF m 9 #[.val (.long q0), .second, .val (.long q0), .second] [(.long (q0 * q0)), (.long (2 : Int64)), (.long q0)])) _
    refine XS.lsub X0.here hx rfl (hb hby d5_9) rfl ?_
    show Steps p.tables e below (s₁.setTop (mkF m 10 #[.val (.long q0), .second, .val (.long q0), .second] [(.long ((2 : Int64) - (q0 * q0))), (.long q0)])) _
    refine XS.lmul X0.here hx rfl (hb hby d5_10) rfl ?_
    show Steps p.tables e below (s₁.setTop (mkF m 11 #[.val (.long q0), .second, .val (.long q0), .second] [(.long (q0 * ((2 : Int64) - (q0 * q0))))])) _
    refine XS.lstoreN X0.here hx rfl (hb hby d5_11) rfl (l' := #[.val (.long q0), .second, .val (.long (q0 * ((2 : Int64) - (q0 * q0)))), .second]) rfl ?_
    show Steps p.tables e below (s₁.setTop (mkF m 12 #[.val (.long q0), .second, .val (.long (q0 * ((2 : Int64) - (q0 * q0)))), .second] [])) _
    refine XS.lloadN X0.here hx rfl (hb hby d5_12) rfl ?_
    show Steps p.tables e below (s₁.setTop (mkF m 13 #[.val (.long q0), .second, .val (.long (q0 * ((2 : Int64) - (q0 * q0)))), .second] [(.long (q0 * ((2 : Int64) - (q0 * q0))))])) _
    refine X0.ldc2Long hx hown (mvT hZ (hw _ (List.mem_of_getElem? (i := 28) rfl))) (g := (mkF m 13 #[.val (.long q0), .second, .val (.long (q0 * ((2 : Int64) - (q0 * q0)))), .second] [(.long (q0 * ((2 : Int64) - (q0 * q0))))])) rfl (hb hby d5_13) _ ?_
    show Steps p.tables e below (s₁.setTop (mkF m 16 #[.val (.long q0), .second, .val (.long (q0 * ((2 : Int64) - (q0 * q0)))), .second] [(.long (2 : Int64)), (.long (q0 * ((2 : Int64) - (q0 * q0))))])) _
    refine XS.lloadN X0.here hx rfl (hb hby d5_16) rfl ?_
    show Steps p.tables e below (s₁.setTop (mkF m 17 #[.val (.long q0), .second, .val (.long (q0 * ((2 : Int64) - (q0 * q0)))), .second] [(.long q0), (.long (2 : Int64)), (.long (q0 * ((2 : Int64) - (q0 * q0))))])) _
    refine XS.lloadN X0.here hx rfl (hb hby d5_17) rfl ?_
    show Steps p.tables e below (s₁.setTop (mkF m 18 #[.val (.long q0), .second, .val (.long (q0 * ((2 : Int64) - (q0 * q0)))), .second] [(.long (q0 * ((2 : Int64) - (q0 * q0)))), (.long q0), (.long (2 : Int64)), (.long (q0 * ((2 : Int64) - (q0 * q0))))])) _
    refine XS.lmul X0.here hx rfl (hb hby d5_18) rfl ?_
    show Steps p.tables e below (s₁.setTop (mkF m 19 #[.val (.long q0), .second, .val (.long (q0 * ((2 : Int64) - (q0 * q0)))), .second] [(.long (q0 * (q0 * ((2 : Int64) - (q0 * q0))))), (.long (2 : Int64)), (.long (q0 * ((2 : Int64) - (q0 * q0))))])) _
    refine XS.lsub X0.here hx rfl (hb hby d5_19) rfl ?_
    show Steps p.tables e below (s₁.setTop (mkF m 20 #[.val (.long q0), .second, .val (.long (q0 * ((2 : Int64) - (q0 * q0)))), .second] [(.long ((2 : Int64) - (q0 * (q0 * ((2 : Int64) - (q0 * q0)))))), (.long (q0 * ((2 : Int64) - (q0 * q0))))])) _
    refine XS.lmul X0.here hx rfl (hb hby d5_20) rfl ?_
    show Steps p.tables e below (s₁.setTop (mkF m 21 #[.val (.long q0), .second, .val (.long (q0 * ((2 : Int64) - (q0 * q0)))), .second] [(.long ((q0 * ((2 : Int64) - (q0 * q0))) * ((2 : Int64) - (q0 * (q0 * ((2 : Int64) - (q0 * q0)))))))])) _
    refine XS.lstoreN X0.here hx rfl (hb hby d5_21) rfl (l' := #[.val (.long q0), .second, .val (.long (e5_1 q0)), .second]) rfl ?_
    show Steps p.tables e below (s₁.setTop (mkF m 22 #[.val (.long q0), .second, .val (.long (e5_1 q0)), .second] [])) _
    refine XS.lloadN X0.here hx rfl (hb hby d5_22) rfl ?_
    show Steps p.tables e below (s₁.setTop (mkF m 23 #[.val (.long q0), .second, .val (.long (e5_1 q0)), .second] [(.long (e5_1 q0))])) _
    refine X0.ldc2Long hx hown (mvT hZ (hw _ (List.mem_of_getElem? (i := 28) rfl))) (g := (mkF m 23 #[.val (.long q0), .second, .val (.long (e5_1 q0)), .second] [(.long (e5_1 q0))])) rfl (hb hby d5_23) _ ?_
    show Steps p.tables e below (s₁.setTop (mkF m 26 #[.val (.long q0), .second, .val (.long (e5_1 q0)), .second] [(.long (2 : Int64)), (.long (e5_1 q0))])) _
    refine XS.lloadN X0.here hx rfl (hb hby d5_26) rfl ?_
    show Steps p.tables e below (s₁.setTop (mkF m 27 #[.val (.long q0), .second, .val (.long (e5_1 q0)), .second] [(.long q0), (.long (2 : Int64)), (.long (e5_1 q0))])) _
    refine XS.lloadN X0.here hx rfl (hb hby d5_27) rfl ?_
    show Steps p.tables e below (s₁.setTop (mkF m 28 #[.val (.long q0), .second, .val (.long (e5_1 q0)), .second] [(.long (e5_1 q0)), (.long q0), (.long (2 : Int64)), (.long (e5_1 q0))])) _
    refine XS.lmul X0.here hx rfl (hb hby d5_28) rfl ?_
    show Steps p.tables e below (s₁.setTop (mkF m 29 #[.val (.long q0), .second, .val (.long (e5_1 q0)), .second] [(.long (q0 * (e5_1 q0))), (.long (2 : Int64)), (.long (e5_1 q0))])) _
    refine XS.lsub X0.here hx rfl (hb hby d5_29) rfl ?_
    show Steps p.tables e below (s₁.setTop (mkF m 30 #[.val (.long q0), .second, .val (.long (e5_1 q0)), .second] [(.long ((2 : Int64) - (q0 * (e5_1 q0)))), (.long (e5_1 q0))])) _
    refine XS.lmul X0.here hx rfl (hb hby d5_30) rfl ?_
    show Steps p.tables e below (s₁.setTop (mkF m 31 #[.val (.long q0), .second, .val (.long (e5_1 q0)), .second] [(.long ((e5_1 q0) * ((2 : Int64) - (q0 * (e5_1 q0)))))])) _
    refine XS.lstoreN X0.here hx rfl (hb hby d5_31) rfl (l' := #[.val (.long q0), .second, .val (.long ((e5_1 q0) * ((2 : Int64) - (q0 * (e5_1 q0))))), .second]) rfl ?_
    show Steps p.tables e below (s₁.setTop (mkF m 32 #[.val (.long q0), .second, .val (.long ((e5_1 q0) * ((2 : Int64) - (q0 * (e5_1 q0))))), .second] [])) _
    refine XS.lloadN X0.here hx rfl (hb hby d5_32) rfl ?_
    show Steps p.tables e below (s₁.setTop (mkF m 33 #[.val (.long q0), .second, .val (.long ((e5_1 q0) * ((2 : Int64) - (q0 * (e5_1 q0))))), .second] [(.long ((e5_1 q0) * ((2 : Int64) - (q0 * (e5_1 q0)))))])) _
    refine X0.ldc2Long hx hown (mvT hZ (hw _ (List.mem_of_getElem? (i := 28) rfl))) (g := (mkF m 33 #[.val (.long q0), .second, .val (.long ((e5_1 q0) * ((2 : Int64) - (q0 * (e5_1 q0))))), .second] [(.long ((e5_1 q0) * ((2 : Int64) - (q0 * (e5_1 q0)))))])) rfl (hb hby d5_33) _ ?_
    show Steps p.tables e below (s₁.setTop (mkF m 36 #[.val (.long q0), .second, .val (.long ((e5_1 q0) * ((2 : Int64) - (q0 * (e5_1 q0))))), .second] [(.long (2 : Int64)), (.long ((e5_1 q0) * ((2 : Int64) - (q0 * (e5_1 q0)))))])) _
    refine XS.lloadN X0.here hx rfl (hb hby d5_36) rfl ?_
    show Steps p.tables e below (s₁.setTop (mkF m 37 #[.val (.long q0), .second, .val (.long ((e5_1 q0) * ((2 : Int64) - (q0 * (e5_1 q0))))), .second] [(.long q0), (.long (2 : Int64)), (.long ((e5_1 q0) * ((2 : Int64) - (q0 * (e5_1 q0)))))])) _
    refine XS.lloadN X0.here hx rfl (hb hby d5_37) rfl ?_
    show Steps p.tables e below (s₁.setTop (mkF m 38 #[.val (.long q0), .second, .val (.long ((e5_1 q0) * ((2 : Int64) - (q0 * (e5_1 q0))))), .second] [(.long ((e5_1 q0) * ((2 : Int64) - (q0 * (e5_1 q0))))), (.long q0), (.long (2 : Int64)), (.long ((e5_1 q0) * ((2 : Int64) - (q0 * (e5_1 q0)))))])) _
    refine XS.lmul X0.here hx rfl (hb hby d5_38) rfl ?_
    show Steps p.tables e below (s₁.setTop (mkF m 39 #[.val (.long q0), .second, .val (.long ((e5_1 q0) * ((2 : Int64) - (q0 * (e5_1 q0))))), .second] [(.long (q0 * ((e5_1 q0) * ((2 : Int64) - (q0 * (e5_1 q0)))))), (.long (2 : Int64)), (.long ((e5_1 q0) * ((2 : Int64) - (q0 * (e5_1 q0)))))])) _
    refine XS.lsub X0.here hx rfl (hb hby d5_39) rfl ?_
    show Steps p.tables e below (s₁.setTop (mkF m 40 #[.val (.long q0), .second, .val (.long ((e5_1 q0) * ((2 : Int64) - (q0 * (e5_1 q0))))), .second] [(.long ((2 : Int64) - (q0 * ((e5_1 q0) * ((2 : Int64) - (q0 * (e5_1 q0))))))), (.long ((e5_1 q0) * ((2 : Int64) - (q0 * (e5_1 q0)))))])) _
    refine XS.lmul X0.here hx rfl (hb hby d5_40) rfl ?_
    show Steps p.tables e below (s₁.setTop (mkF m 41 #[.val (.long q0), .second, .val (.long ((e5_1 q0) * ((2 : Int64) - (q0 * (e5_1 q0))))), .second] [(.long (((e5_1 q0) * ((2 : Int64) - (q0 * (e5_1 q0)))) * ((2 : Int64) - (q0 * ((e5_1 q0) * ((2 : Int64) - (q0 * (e5_1 q0))))))))])) _
    refine XS.lstoreN X0.here hx rfl (hb hby d5_41) rfl (l' := #[.val (.long q0), .second, .val (.long (e5_2 q0)), .second]) rfl ?_
    show Steps p.tables e below (s₁.setTop (mkF m 42 #[.val (.long q0), .second, .val (.long (e5_2 q0)), .second] [])) _
    refine XS.lloadN X0.here hx rfl (hb hby d5_42) rfl ?_
    show Steps p.tables e below (s₁.setTop (mkF m 43 #[.val (.long q0), .second, .val (.long (e5_2 q0)), .second] [(.long (e5_2 q0))])) _
    refine X0.ldc2Long hx hown (mvT hZ (hw _ (List.mem_of_getElem? (i := 28) rfl))) (g := (mkF m 43 #[.val (.long q0), .second, .val (.long (e5_2 q0)), .second] [(.long (e5_2 q0))])) rfl (hb hby d5_43) _ ?_
    show Steps p.tables e below (s₁.setTop (mkF m 46 #[.val (.long q0), .second, .val (.long (e5_2 q0)), .second] [(.long (2 : Int64)), (.long (e5_2 q0))])) _
    refine XS.lloadN X0.here hx rfl (hb hby d5_46) rfl ?_
    show Steps p.tables e below (s₁.setTop (mkF m 47 #[.val (.long q0), .second, .val (.long (e5_2 q0)), .second] [(.long q0), (.long (2 : Int64)), (.long (e5_2 q0))])) _
    refine XS.lloadN X0.here hx rfl (hb hby d5_47) rfl ?_
    show Steps p.tables e below (s₁.setTop (mkF m 48 #[.val (.long q0), .second, .val (.long (e5_2 q0)), .second] [(.long (e5_2 q0)), (.long q0), (.long (2 : Int64)), (.long (e5_2 q0))])) _
    refine XS.lmul X0.here hx rfl (hb hby d5_48) rfl ?_
    show Steps p.tables e below (s₁.setTop (mkF m 49 #[.val (.long q0), .second, .val (.long (e5_2 q0)), .second] [(.long (q0 * (e5_2 q0))), (.long (2 : Int64)), (.long (e5_2 q0))])) _
    refine XS.lsub X0.here hx rfl (hb hby d5_49) rfl ?_
    show Steps p.tables e below (s₁.setTop (mkF m 50 #[.val (.long q0), .second, .val (.long (e5_2 q0)), .second] [(.long ((2 : Int64) - (q0 * (e5_2 q0)))), (.long (e5_2 q0))])) _
    refine XS.lmul X0.here hx rfl (hb hby d5_50) rfl ?_
    show Steps p.tables e below (s₁.setTop (mkF m 51 #[.val (.long q0), .second, .val (.long (e5_2 q0)), .second] [(.long ((e5_2 q0) * ((2 : Int64) - (q0 * (e5_2 q0)))))])) _
    refine XS.lstoreN X0.here hx rfl (hb hby d5_51) rfl (l' := #[.val (.long q0), .second, .val (.long ((e5_2 q0) * ((2 : Int64) - (q0 * (e5_2 q0))))), .second]) rfl ?_
    show Steps p.tables e below (s₁.setTop (mkF m 52 #[.val (.long q0), .second, .val (.long ((e5_2 q0) * ((2 : Int64) - (q0 * (e5_2 q0))))), .second] [])) _
    refine XS.lloadN X0.here hx rfl (hb hby d5_52) rfl ?_
    show Steps p.tables e below (s₁.setTop (mkF m 53 #[.val (.long q0), .second, .val (.long ((e5_2 q0) * ((2 : Int64) - (q0 * (e5_2 q0))))), .second] [(.long ((e5_2 q0) * ((2 : Int64) - (q0 * (e5_2 q0)))))])) _
    exact X0.lreturnOut hx Bd.returns (hb hby d5_53) hr
  · show Q5 Z q0 h0 n0 _ s₁.heap _
    rw [e0]
    exact ⟨congrArg (fun q => some (Value.long q)) hv1.symm, N0, rfl⟩
theorem d4_0 : decode method_3_code 0 = .ok (.lload_n 0, 1) := by decide +kernel
theorem d4_1 : decode method_3_code 1 = .ok (.lload_n 0, 1) := by decide +kernel
theorem d4_2 : decode method_3_code 2 = .ok (.bipush 31, 2) := by decide +kernel
theorem d4_4 : decode method_3_code 4 = .ok (.lushr, 1) := by decide +kernel
theorem d4_5 : decode method_3_code 5 = .ok (.lxor, 1) := by decide +kernel
theorem d4_6 : decode method_3_code 6 = .ok (.lload_n 0, 1) := by decide +kernel
theorem d4_7 : decode method_3_code 7 = .ok (.bipush 62, 2) := by decide +kernel
theorem d4_9 : decode method_3_code 9 = .ok (.lushr, 1) := by decide +kernel
theorem d4_10 : decode method_3_code 10 = .ok (.lxor, 1) := by decide +kernel
theorem d4_11 : decode method_3_code 11 = .ok (.lstore_n 2, 1) := by decide +kernel
theorem d4_12 : decode method_3_code 12 = .ok (.lload_n 2, 1) := by decide +kernel
theorem d4_13 : decode method_3_code 13 = .ok (.ldc2_w 9, 3) := by decide +kernel
theorem d4_16 : decode method_3_code 16 = .ok (.invokestatic 11, 3) := by decide +kernel
theorem d4_19 : decode method_3_code 19 = .ok (.lmul, 1) := by decide +kernel
theorem d4_20 : decode method_3_code 20 = .ok (.lstore 4, 2) := by decide +kernel
theorem d4_22 : decode method_3_code 22 = .ok (.lload 4, 2) := by decide +kernel
theorem d4_24 : decode method_3_code 24 = .ok (.lload 4, 2) := by decide +kernel
theorem d4_26 : decode method_3_code 26 = .ok (.bipush 27, 2) := by decide +kernel
theorem d4_28 : decode method_3_code 28 = .ok (.lushr, 1) := by decide +kernel
theorem d4_29 : decode method_3_code 29 = .ok (.lxor, 1) := by decide +kernel
theorem d4_30 : decode method_3_code 30 = .ok (.lload 4, 2) := by decide +kernel
theorem d4_32 : decode method_3_code 32 = .ok (.bipush 54, 2) := by decide +kernel
theorem d4_34 : decode method_3_code 34 = .ok (.lushr, 1) := by decide +kernel
theorem d4_35 : decode method_3_code 35 = .ok (.lxor, 1) := by decide +kernel
theorem d4_36 : decode method_3_code 36 = .ok (.lstore 6, 2) := by decide +kernel
theorem d4_38 : decode method_3_code 38 = .ok (.lload 6, 2) := by decide +kernel
theorem d4_40 : decode method_3_code 40 = .ok (.ldc2_w 17, 3) := by decide +kernel
theorem d4_43 : decode method_3_code 43 = .ok (.invokestatic 11, 3) := by decide +kernel
theorem d4_46 : decode method_3_code 46 = .ok (.lmul, 1) := by decide +kernel
theorem d4_47 : decode method_3_code 47 = .ok (.lstore 8, 2) := by decide +kernel
theorem d4_49 : decode method_3_code 49 = .ok (.lload 8, 2) := by decide +kernel
theorem d4_51 : decode method_3_code 51 = .ok (.lload 8, 2) := by decide +kernel
theorem d4_53 : decode method_3_code 53 = .ok (.bipush 30, 2) := by decide +kernel
theorem d4_55 : decode method_3_code 55 = .ok (.lushr, 1) := by decide +kernel
theorem d4_56 : decode method_3_code 56 = .ok (.lxor, 1) := by decide +kernel
theorem d4_57 : decode method_3_code 57 = .ok (.lload 8, 2) := by decide +kernel
theorem d4_59 : decode method_3_code 59 = .ok (.bipush 60, 2) := by decide +kernel
theorem d4_61 : decode method_3_code 61 = .ok (.lushr, 1) := by decide +kernel
theorem d4_62 : decode method_3_code 62 = .ok (.lxor, 1) := by decide +kernel
theorem d4_63 : decode method_3_code 63 = .ok (.lreturn, 1) := by decide +kernel
theorem pn_4 : plainName "com/example/cistern/cistern/sampling/SplitMix64NextLongPinLaw" = true := by first | (simp [plainName, overriddenIn]; done) | decide +kernel
theorem pd_4_0 : parseMethodDescriptor "(J)J" = some ⟨[.long], some .long⟩ := by decide +kernel
theorem ef_4 (m : MethodId) (x0 : Int64) : entryFrame m #[(.long x0)] 10 = mkF m 0 #[.val (.long x0), .second, .unset, .unset, .unset, .unset, .unset, .unset, .unset, .unset] [] := by first | (simp [entryFrame, mkF, argsToLocals, Value.category]; done) | rfl
def e4_1 (q0 : Int64) : Int64 := ((q0 ^^^ ((q0.toUInt64 >>> ((31 : Int32) &&& 0x3f).toInt64.toUInt64).toInt64)) ^^^ ((q0.toUInt64 >>> ((62 : Int32) &&& 0x3f).toInt64.toUInt64).toInt64))
def e4_2 (q0 : Int64) : Int64 := ((e4_1 q0) * ((e5_2 (-7723592293110705685 : Int64)) * ((2 : Int64) - ((-7723592293110705685 : Int64) * (e5_2 (-7723592293110705685 : Int64))))))
def e4_3 (q0 : Int64) : Int64 := (((e4_2 q0) ^^^ (((e4_2 q0).toUInt64 >>> ((27 : Int32) &&& 0x3f).toInt64.toUInt64).toInt64)) ^^^ (((e4_2 q0).toUInt64 >>> ((54 : Int32) &&& 0x3f).toInt64.toUInt64).toInt64))
def e4_4 (q0 : Int64) : Int64 := ((e4_3 q0) * ((e5_2 (-4658895280553007687 : Int64)) * ((2 : Int64) - ((-4658895280553007687 : Int64) * (e5_2 (-4658895280553007687 : Int64))))))
def f4 (q0 : Int64) : Int64 :=
  (((e4_4 q0) ^^^ (((e4_4 q0).toUInt64 >>> ((30 : Int32) &&& 0x3f).toInt64.toUInt64).toInt64)) ^^^ (((e4_4 q0).toUInt64 >>> ((60 : Int32) &&& 0x3f).toInt64.toUInt64).toInt64))
def Q4 (Z : State) (q0 : Int64) (h0 : Heap) (n0 : Nat) (v : Option Value) (h : Heap) (L : List Loc) : Prop := v = some (.long (f4 q0)) ∧ Fr n0 L ∧ h = h0
set_option maxRecDepth 65536 in
set_option maxHeartbeats 40000000 in
theorem rm4 (l : Launch) (Z : State) (a0 : Array Value) (hw : ∀ d ∈ tables_1, d.before a0 Z = true) (ws : List Jvm.Cond) (q0 : Int64) (h0 : Heap) (n0 : Nat) (Z0 : n0 ≤ h0.size) :
    MetFree l (⟨"com/example/cistern/cistern/sampling/SplitMix64NextLongPinLaw", "unmix", "(J)J"⟩ : MethodName) (head1 (Jvm.Cond.code (⟨"com/example/cistern/cistern/sampling/SplitMix64NextLongPinLaw", "unmix", "(J)J"⟩ : MethodName) method_3_code 10 (some .long) :: ws) ({ frames := 1, cells := 0, slots := 0, locals := 17 } : Room)) (fun a U => a = #[(.long q0)] ∧ Z.Warmed39 U.vm ∧ U.heap = h0) (fun _ _ _ _ _ => True) (fun _ U o U' => ∃ v L, o = .returned v ∧ Q4 Z q0 h0 n0 v U'.heap L ∧ FrameEnd U o U' L ({ frames := 1, cells := 0, slots := 0, locals := 17 } : Room).cells ({ frames := 1, cells := 0, slots := 0, locals := 17 } : Room).slots) := by
  refine MetFree.of_bodySF (plainFor_of_name pn_4) hisR ?_
  intro p e s m args below meth c s₁ Bd hml0 hP hK
  obtain ⟨rfl, hZ, hh⟩ := hP
  have hx := Bd.exec
  have hby := Bd.bytes
  have hml : c.maxLocals = 10 := hml0
  have hown : s.vm.findClass "com/example/cistern/cistern/sampling/SplitMix64NextLongPinLaw" = some m.cls := findClass_of_methodNamed Bd.named
  have hnm := (name_of_methodNamed Bd.named Bd.method).1
  have X0 : Stand p l e ({ frames := 1, cells := 0, slots := 0, locals := 17 } : Room) s m #[(.long q0)] below meth c s₁ [] 0 0 := Stand.of_body Bd
  have e0 : s₁.heap = h0 := by rw [← hh, Bd.state]; rfl
  have N0 := Fr.nil n0
  have pre0 : ∀ t, Steps p.tables e below (s₁.setTop (mkF m 0 #[.val (.long q0), .second, .unset, .unset, .unset, .unset, .unset, .unset, .unset, .unset] [])) t → Steps p.tables e below (s₁.setTop (entryFrame m #[(.long q0)] 10)) t := fun t k => castTop (ef_4 m q0) k
  obtain ⟨_, _, ⟨T1, L1, k1, n1⟩, -, X1, ⟨Lc1, hQ1, l1, y1, z1⟩, st1⟩ := Jvm.LawKit.callS X0 hx (y := (⟨"com/example/cistern/cistern/sampling/SplitMix64NextLongPinLaw", "inv", "(J)J"⟩ : MethodName)) hown (mvT hZ (hw _ (List.mem_of_getElem? (i := 25) rfl))) (mvT hZ (hw _ (List.mem_of_getElem? (i := 26) rfl))) (mvT hZ (hw _ (List.mem_of_getElem? (i := 22) rfl))) (mvT hZ (hw _ (List.mem_of_getElem? (i := 27) rfl))) (by decide) (backOf (W := 2) (rm5 l Z a0 hw [] (-7723592293110705685 : Int64) h0 n0 Z0 ) hZ (hw _ (List.mem_of_getElem? (i := 27) rfl)) (hw _ (List.mem_of_getElem? (i := 22) rfl)) (by decide) (by decide)) (g := (mkF m 16 #[.val (.long q0), .second, .val (.long (e4_1 q0)), .second, .unset, .unset, .unset, .unset, .unset, .unset] [(.long (-7723592293110705685 : Int64)), (.long (e4_1 q0))])) rfl (by rw [hml]; rfl) (argsL := [(.long (-7723592293110705685 : Int64))]) (rest := [(.long (e4_1 q0))]) (lenOf pd_4_0 rfl) rfl (by show 2 * 0 + _ ≤ _; exact Nat.le_of_eq rfl) (hb hby d4_16) (fun _ _ => ⟨rfl, e0, (by decide : 0 + 0 ≤ _), (by decide : 0 + 0 ≤ _)⟩)
  dsimp only [Pt.U, Pt.locs, Pt.cells, Pt.slots] at X1 l1 y1 z1 st1 hQ1
  subst l1 y1 z1
  obtain ⟨rfl, N1q, e1q⟩ := hQ1
  have N1 := Fr.app N0 N1q
  obtain ⟨_, _, ⟨T2, L2, k2, n2⟩, -, X2, ⟨Lc2, hQ2, l2, y2, z2⟩, st2⟩ := Jvm.LawKit.callS X1 hx (y := (⟨"com/example/cistern/cistern/sampling/SplitMix64NextLongPinLaw", "inv", "(J)J"⟩ : MethodName)) hown (mvT hZ (hw _ (List.mem_of_getElem? (i := 25) rfl))) (mvT hZ (hw _ (List.mem_of_getElem? (i := 26) rfl))) (mvT hZ (hw _ (List.mem_of_getElem? (i := 22) rfl))) (mvT hZ (hw _ (List.mem_of_getElem? (i := 27) rfl))) (by decide) (backOf (W := 2) (rm5 l Z a0 hw [] (-4658895280553007687 : Int64) h0 n0 Z0 ) hZ (hw _ (List.mem_of_getElem? (i := 27) rfl)) (hw _ (List.mem_of_getElem? (i := 22) rfl)) (by decide) (by decide)) (g := (mkF m 43 #[.val (.long q0), .second, .val (.long (e4_1 q0)), .second, .val (.long (e4_2 q0)), .second, .val (.long (e4_3 q0)), .second, .unset, .unset] [(.long (-4658895280553007687 : Int64)), (.long (e4_3 q0))])) rfl (by rw [hml]; rfl) (argsL := [(.long (-4658895280553007687 : Int64))]) (rest := [(.long (e4_3 q0))]) (lenOf pd_4_0 rfl) rfl (by show 2 * 0 + _ ≤ _; exact Nat.le_of_eq rfl) (hb hby d4_43) (fun _ _ => ⟨rfl, e1q, (by decide : 0 + 0 ≤ _), (by decide : 0 + 0 ≤ _)⟩)
  dsimp only [Pt.U, Pt.locs, Pt.cells, Pt.slots] at X2 l2 y2 z2 st2 hQ2
  subst l2 y2 z2
  obtain ⟨rfl, N2q, e2q⟩ := hQ2
  have N2 := Fr.app N1 N2q
  obtain ⟨fs, hr, hrun, hended, hW, hsame⟩ := X2.leave (v := some (.long (((e4_4 q0) ^^^ (((e4_4 q0).toUInt64 >>> ((30 : Int32) &&& 0x3f).toInt64.toUInt64).toInt64)) ^^^ (((e4_4 q0).toUInt64 >>> ((60 : Int32) &&& 0x3f).toInt64.toUInt64).toInt64)))) (fun h => by rw [Bd.returns] at h; cases h)
  have hv3 : (f4 q0) = (((e4_4 q0) ^^^ (((e4_4 q0).toUInt64 >>> ((30 : Int32) &&& 0x3f).toInt64.toUInt64).toInt64)) ^^^ (((e4_4 q0).toUInt64 >>> ((60 : Int32) &&& 0x3f).toInt64.toUInt64).toInt64)) := rfl
  refine ⟨_, _, pre0 _ ?_, hrun, hended, _, _, rfl, ?_, ⟨_, rfl⟩, hW, hsame.mono (by decide) (by decide)⟩
  · show Steps p.tables e below (s₁.setTop (mkF m 0 #[.val (.long q0), .second, .unset, .unset, .unset, .unset, .unset, .unset, .unset, .unset] [])) _
    refine XS.lloadN X0.here hx rfl (hb hby d4_0) rfl ?_
    show Steps p.tables e below (s₁.setTop (mkF m 1 #[.val (.long q0), .second, .unset, .unset, .unset, .unset, .unset, .unset, .unset, .unset] [(.long q0)])) _
    refine XS.lloadN X0.here hx rfl (hb hby d4_1) rfl ?_
    show Steps p.tables e below (s₁.setTop (mkF m 2 #[.val (.long q0), .second, .unset, .unset, .unset, .unset, .unset, .unset, .unset, .unset] [(.long q0), (.long q0)])) _
    refine XS.bipush X0.here hx rfl (hb hby d4_2) ?_
    show Steps p.tables e below (s₁.setTop (mkF m 4 #[.val (.long q0), .second, .unset, .unset, .unset, .unset, .unset, .unset, .unset, .unset] [(.int (31 : Int32)), (.long q0), (.long q0)])) _
    refine XS.lushr X0.here hx rfl (hb hby d4_4) rfl ?_
    show Steps p.tables e below (s₁.setTop (mkF m 5 #[.val (.long q0), .second, .unset, .unset, .unset, .unset, .unset, .unset, .unset, .unset] [(.long ((q0.toUInt64 >>> ((31 : Int32) &&& 0x3f).toInt64.toUInt64).toInt64)), (.long q0)])) _
    refine XS.lxor X0.here hx rfl (hb hby d4_5) rfl ?_
    show Steps p.tables e below (s₁.setTop (mkF m 6 #[.val (.long q0), .second, .unset, .unset, .unset, .unset, .unset, .unset, .unset, .unset] [(.long (q0 ^^^ ((q0.toUInt64 >>> ((31 : Int32) &&& 0x3f).toInt64.toUInt64).toInt64)))])) _
    refine XS.lloadN X0.here hx rfl (hb hby d4_6) rfl ?_
    show Steps p.tables e below (s₁.setTop (mkF m 7 #[.val (.long q0), .second, .unset, .unset, .unset, .unset, .unset, .unset, .unset, .unset] [(.long q0), (.long (q0 ^^^ ((q0.toUInt64 >>> ((31 : Int32) &&& 0x3f).toInt64.toUInt64).toInt64)))])) _
    refine XS.bipush X0.here hx rfl (hb hby d4_7) ?_
    show Steps p.tables e below (s₁.setTop (mkF m 9 #[.val (.long q0), .second, .unset, .unset, .unset, .unset, .unset, .unset, .unset, .unset] [(.int (62 : Int32)), (.long q0), (.long (q0 ^^^ ((q0.toUInt64 >>> ((31 : Int32) &&& 0x3f).toInt64.toUInt64).toInt64)))])) _
    refine XS.lushr X0.here hx rfl (hb hby d4_9) rfl ?_
    show Steps p.tables e below (s₁.setTop (mkF m 10 #[.val (.long q0), .second, .unset, .unset, .unset, .unset, .unset, .unset, .unset, .unset] [(.long ((q0.toUInt64 >>> ((62 : Int32) &&& 0x3f).toInt64.toUInt64).toInt64)), (.long (q0 ^^^ ((q0.toUInt64 >>> ((31 : Int32) &&& 0x3f).toInt64.toUInt64).toInt64)))])) _
    refine XS.lxor X0.here hx rfl (hb hby d4_10) rfl ?_
    show Steps p.tables e below (s₁.setTop (mkF m 11 #[.val (.long q0), .second, .unset, .unset, .unset, .unset, .unset, .unset, .unset, .unset] [(.long ((q0 ^^^ ((q0.toUInt64 >>> ((31 : Int32) &&& 0x3f).toInt64.toUInt64).toInt64)) ^^^ ((q0.toUInt64 >>> ((62 : Int32) &&& 0x3f).toInt64.toUInt64).toInt64)))])) _
    refine XS.lstoreN X0.here hx rfl (hb hby d4_11) rfl (l' := #[.val (.long q0), .second, .val (.long (e4_1 q0)), .second, .unset, .unset, .unset, .unset, .unset, .unset]) rfl ?_
    show Steps p.tables e below (s₁.setTop (mkF m 12 #[.val (.long q0), .second, .val (.long (e4_1 q0)), .second, .unset, .unset, .unset, .unset, .unset, .unset] [])) _
    refine XS.lloadN X0.here hx rfl (hb hby d4_12) rfl ?_
    show Steps p.tables e below (s₁.setTop (mkF m 13 #[.val (.long q0), .second, .val (.long (e4_1 q0)), .second, .unset, .unset, .unset, .unset, .unset, .unset] [(.long (e4_1 q0))])) _
    refine X0.ldc2Long hx hown (mvT hZ (hw _ (List.mem_of_getElem? (i := 24) rfl))) (g := (mkF m 13 #[.val (.long q0), .second, .val (.long (e4_1 q0)), .second, .unset, .unset, .unset, .unset, .unset, .unset] [(.long (e4_1 q0))])) rfl (hb hby d4_13) _ ?_
    show Steps p.tables e below (s₁.setTop (mkF m 16 #[.val (.long q0), .second, .val (.long (e4_1 q0)), .second, .unset, .unset, .unset, .unset, .unset, .unset] [(.long (-7723592293110705685 : Int64)), (.long (e4_1 q0))])) _
    refine st1 _ ?_
    show Steps p.tables e below (T1.setTop (mkF m 19 #[.val (.long q0), .second, .val (.long (e4_1 q0)), .second, .unset, .unset, .unset, .unset, .unset, .unset] [(.long ((e5_2 (-7723592293110705685 : Int64)) * ((2 : Int64) - ((-7723592293110705685 : Int64) * (e5_2 (-7723592293110705685 : Int64)))))), (.long (e4_1 q0))])) _
    refine XS.lmul X1.here hx rfl (hb hby d4_19) rfl ?_
    show Steps p.tables e below (T1.setTop (mkF m 20 #[.val (.long q0), .second, .val (.long (e4_1 q0)), .second, .unset, .unset, .unset, .unset, .unset, .unset] [(.long ((e4_1 q0) * ((e5_2 (-7723592293110705685 : Int64)) * ((2 : Int64) - ((-7723592293110705685 : Int64) * (e5_2 (-7723592293110705685 : Int64)))))))])) _
    refine XS.lstore X1.here hx rfl (hb hby d4_20) rfl (l' := #[.val (.long q0), .second, .val (.long (e4_1 q0)), .second, .val (.long (e4_2 q0)), .second, .unset, .unset, .unset, .unset]) rfl ?_
    show Steps p.tables e below (T1.setTop (mkF m 22 #[.val (.long q0), .second, .val (.long (e4_1 q0)), .second, .val (.long (e4_2 q0)), .second, .unset, .unset, .unset, .unset] [])) _
    refine XS.lload X1.here hx rfl (hb hby d4_22) rfl ?_
    show Steps p.tables e below (T1.setTop (mkF m 24 #[.val (.long q0), .second, .val (.long (e4_1 q0)), .second, .val (.long (e4_2 q0)), .second, .unset, .unset, .unset, .unset] [(.long (e4_2 q0))])) _
    refine XS.lload X1.here hx rfl (hb hby d4_24) rfl ?_
    show Steps p.tables e below (T1.setTop (mkF m 26 #[.val (.long q0), .second, .val (.long (e4_1 q0)), .second, .val (.long (e4_2 q0)), .second, .unset, .unset, .unset, .unset] [(.long (e4_2 q0)), (.long (e4_2 q0))])) _
    refine XS.bipush X1.here hx rfl (hb hby d4_26) ?_
    show Steps p.tables e below (T1.setTop (mkF m 28 #[.val (.long q0), .second, .val (.long (e4_1 q0)), .second, .val (.long (e4_2 q0)), .second, .unset, .unset, .unset, .unset] [(.int (27 : Int32)), (.long (e4_2 q0)), (.long (e4_2 q0))])) _
    refine XS.lushr X1.here hx rfl (hb hby d4_28) rfl ?_
    show Steps p.tables e below (T1.setTop (mkF m 29 #[.val (.long q0), .second, .val (.long (e4_1 q0)), .second, .val (.long (e4_2 q0)), .second, .unset, .unset, .unset, .unset] [(.long (((e4_2 q0).toUInt64 >>> ((27 : Int32) &&& 0x3f).toInt64.toUInt64).toInt64)), (.long (e4_2 q0))])) _
    refine XS.lxor X1.here hx rfl (hb hby d4_29) rfl ?_
    show Steps p.tables e below (T1.setTop (mkF m 30 #[.val (.long q0), .second, .val (.long (e4_1 q0)), .second, .val (.long (e4_2 q0)), .second, .unset, .unset, .unset, .unset] [(.long ((e4_2 q0) ^^^ (((e4_2 q0).toUInt64 >>> ((27 : Int32) &&& 0x3f).toInt64.toUInt64).toInt64)))])) _
    refine XS.lload X1.here hx rfl (hb hby d4_30) rfl ?_
    show Steps p.tables e below (T1.setTop (mkF m 32 #[.val (.long q0), .second, .val (.long (e4_1 q0)), .second, .val (.long (e4_2 q0)), .second, .unset, .unset, .unset, .unset] [(.long (e4_2 q0)), (.long ((e4_2 q0) ^^^ (((e4_2 q0).toUInt64 >>> ((27 : Int32) &&& 0x3f).toInt64.toUInt64).toInt64)))])) _
    refine XS.bipush X1.here hx rfl (hb hby d4_32) ?_
    show Steps p.tables e below (T1.setTop (mkF m 34 #[.val (.long q0), .second, .val (.long (e4_1 q0)), .second, .val (.long (e4_2 q0)), .second, .unset, .unset, .unset, .unset] [(.int (54 : Int32)), (.long (e4_2 q0)), (.long ((e4_2 q0) ^^^ (((e4_2 q0).toUInt64 >>> ((27 : Int32) &&& 0x3f).toInt64.toUInt64).toInt64)))])) _
    refine XS.lushr X1.here hx rfl (hb hby d4_34) rfl ?_
    show Steps p.tables e below (T1.setTop (mkF m 35 #[.val (.long q0), .second, .val (.long (e4_1 q0)), .second, .val (.long (e4_2 q0)), .second, .unset, .unset, .unset, .unset] [(.long (((e4_2 q0).toUInt64 >>> ((54 : Int32) &&& 0x3f).toInt64.toUInt64).toInt64)), (.long ((e4_2 q0) ^^^ (((e4_2 q0).toUInt64 >>> ((27 : Int32) &&& 0x3f).toInt64.toUInt64).toInt64)))])) _
    refine XS.lxor X1.here hx rfl (hb hby d4_35) rfl ?_
    show Steps p.tables e below (T1.setTop (mkF m 36 #[.val (.long q0), .second, .val (.long (e4_1 q0)), .second, .val (.long (e4_2 q0)), .second, .unset, .unset, .unset, .unset] [(.long (((e4_2 q0) ^^^ (((e4_2 q0).toUInt64 >>> ((27 : Int32) &&& 0x3f).toInt64.toUInt64).toInt64)) ^^^ (((e4_2 q0).toUInt64 >>> ((54 : Int32) &&& 0x3f).toInt64.toUInt64).toInt64)))])) _
    refine XS.lstore X1.here hx rfl (hb hby d4_36) rfl (l' := #[.val (.long q0), .second, .val (.long (e4_1 q0)), .second, .val (.long (e4_2 q0)), .second, .val (.long (e4_3 q0)), .second, .unset, .unset]) rfl ?_
    show Steps p.tables e below (T1.setTop (mkF m 38 #[.val (.long q0), .second, .val (.long (e4_1 q0)), .second, .val (.long (e4_2 q0)), .second, .val (.long (e4_3 q0)), .second, .unset, .unset] [])) _
    refine XS.lload X1.here hx rfl (hb hby d4_38) rfl ?_
    show Steps p.tables e below (T1.setTop (mkF m 40 #[.val (.long q0), .second, .val (.long (e4_1 q0)), .second, .val (.long (e4_2 q0)), .second, .val (.long (e4_3 q0)), .second, .unset, .unset] [(.long (e4_3 q0))])) _
    refine X1.ldc2Long hx hown (mvT hZ (hw _ (List.mem_of_getElem? (i := 29) rfl))) (g := (mkF m 40 #[.val (.long q0), .second, .val (.long (e4_1 q0)), .second, .val (.long (e4_2 q0)), .second, .val (.long (e4_3 q0)), .second, .unset, .unset] [(.long (e4_3 q0))])) rfl (hb hby d4_40) _ ?_
    show Steps p.tables e below (T1.setTop (mkF m 43 #[.val (.long q0), .second, .val (.long (e4_1 q0)), .second, .val (.long (e4_2 q0)), .second, .val (.long (e4_3 q0)), .second, .unset, .unset] [(.long (-4658895280553007687 : Int64)), (.long (e4_3 q0))])) _
    refine st2 _ ?_
    show Steps p.tables e below (T2.setTop (mkF m 46 #[.val (.long q0), .second, .val (.long (e4_1 q0)), .second, .val (.long (e4_2 q0)), .second, .val (.long (e4_3 q0)), .second, .unset, .unset] [(.long ((e5_2 (-4658895280553007687 : Int64)) * ((2 : Int64) - ((-4658895280553007687 : Int64) * (e5_2 (-4658895280553007687 : Int64)))))), (.long (e4_3 q0))])) _
    refine XS.lmul X2.here hx rfl (hb hby d4_46) rfl ?_
    show Steps p.tables e below (T2.setTop (mkF m 47 #[.val (.long q0), .second, .val (.long (e4_1 q0)), .second, .val (.long (e4_2 q0)), .second, .val (.long (e4_3 q0)), .second, .unset, .unset] [(.long ((e4_3 q0) * ((e5_2 (-4658895280553007687 : Int64)) * ((2 : Int64) - ((-4658895280553007687 : Int64) * (e5_2 (-4658895280553007687 : Int64)))))))])) _
    refine XS.lstore X2.here hx rfl (hb hby d4_47) rfl (l' := #[.val (.long q0), .second, .val (.long (e4_1 q0)), .second, .val (.long (e4_2 q0)), .second, .val (.long (e4_3 q0)), .second, .val (.long (e4_4 q0)), .second]) rfl ?_
    show Steps p.tables e below (T2.setTop (mkF m 49 #[.val (.long q0), .second, .val (.long (e4_1 q0)), .second, .val (.long (e4_2 q0)), .second, .val (.long (e4_3 q0)), .second, .val (.long (e4_4 q0)), .second] [])) _
    refine XS.lload X2.here hx rfl (hb hby d4_49) rfl ?_
    show Steps p.tables e below (T2.setTop (mkF m 51 #[.val (.long q0), .second, .val (.long (e4_1 q0)), .second, .val (.long (e4_2 q0)), .second, .val (.long (e4_3 q0)), .second, .val (.long (e4_4 q0)), .second] [(.long (e4_4 q0))])) _
    refine XS.lload X2.here hx rfl (hb hby d4_51) rfl ?_
    show Steps p.tables e below (T2.setTop (mkF m 53 #[.val (.long q0), .second, .val (.long (e4_1 q0)), .second, .val (.long (e4_2 q0)), .second, .val (.long (e4_3 q0)), .second, .val (.long (e4_4 q0)), .second] [(.long (e4_4 q0)), (.long (e4_4 q0))])) _
    refine XS.bipush X2.here hx rfl (hb hby d4_53) ?_
    show Steps p.tables e below (T2.setTop (mkF m 55 #[.val (.long q0), .second, .val (.long (e4_1 q0)), .second, .val (.long (e4_2 q0)), .second, .val (.long (e4_3 q0)), .second, .val (.long (e4_4 q0)), .second] [(.int (30 : Int32)), (.long (e4_4 q0)), (.long (e4_4 q0))])) _
    refine XS.lushr X2.here hx rfl (hb hby d4_55) rfl ?_
    show Steps p.tables e below (T2.setTop (mkF m 56 #[.val (.long q0), .second, .val (.long (e4_1 q0)), .second, .val (.long (e4_2 q0)), .second, .val (.long (e4_3 q0)), .second, .val (.long (e4_4 q0)), .second] [(.long (((e4_4 q0).toUInt64 >>> ((30 : Int32) &&& 0x3f).toInt64.toUInt64).toInt64)), (.long (e4_4 q0))])) _
    refine XS.lxor X2.here hx rfl (hb hby d4_56) rfl ?_
    show Steps p.tables e below (T2.setTop (mkF m 57 #[.val (.long q0), .second, .val (.long (e4_1 q0)), .second, .val (.long (e4_2 q0)), .second, .val (.long (e4_3 q0)), .second, .val (.long (e4_4 q0)), .second] [(.long ((e4_4 q0) ^^^ (((e4_4 q0).toUInt64 >>> ((30 : Int32) &&& 0x3f).toInt64.toUInt64).toInt64)))])) _
    refine XS.lload X2.here hx rfl (hb hby d4_57) rfl ?_
    show Steps p.tables e below (T2.setTop (mkF m 59 #[.val (.long q0), .second, .val (.long (e4_1 q0)), .second, .val (.long (e4_2 q0)), .second, .val (.long (e4_3 q0)), .second, .val (.long (e4_4 q0)), .second] [(.long (e4_4 q0)), (.long ((e4_4 q0) ^^^ (((e4_4 q0).toUInt64 >>> ((30 : Int32) &&& 0x3f).toInt64.toUInt64).toInt64)))])) _
    refine XS.bipush X2.here hx rfl (hb hby d4_59) ?_
    show Steps p.tables e below (T2.setTop (mkF m 61 #[.val (.long q0), .second, .val (.long (e4_1 q0)), .second, .val (.long (e4_2 q0)), .second, .val (.long (e4_3 q0)), .second, .val (.long (e4_4 q0)), .second] [(.int (60 : Int32)), (.long (e4_4 q0)), (.long ((e4_4 q0) ^^^ (((e4_4 q0).toUInt64 >>> ((30 : Int32) &&& 0x3f).toInt64.toUInt64).toInt64)))])) _
    refine XS.lushr X2.here hx rfl (hb hby d4_61) rfl ?_
    show Steps p.tables e below (T2.setTop (mkF m 62 #[.val (.long q0), .second, .val (.long (e4_1 q0)), .second, .val (.long (e4_2 q0)), .second, .val (.long (e4_3 q0)), .second, .val (.long (e4_4 q0)), .second] [(.long (((e4_4 q0).toUInt64 >>> ((60 : Int32) &&& 0x3f).toInt64.toUInt64).toInt64)), (.long ((e4_4 q0) ^^^ (((e4_4 q0).toUInt64 >>> ((30 : Int32) &&& 0x3f).toInt64.toUInt64).toInt64)))])) _
    refine XS.lxor X2.here hx rfl (hb hby d4_62) rfl ?_
    show Steps p.tables e below (T2.setTop (mkF m 63 #[.val (.long q0), .second, .val (.long (e4_1 q0)), .second, .val (.long (e4_2 q0)), .second, .val (.long (e4_3 q0)), .second, .val (.long (e4_4 q0)), .second] [(.long (((e4_4 q0) ^^^ (((e4_4 q0).toUInt64 >>> ((30 : Int32) &&& 0x3f).toInt64.toUInt64).toInt64)) ^^^ (((e4_4 q0).toUInt64 >>> ((60 : Int32) &&& 0x3f).toInt64.toUInt64).toInt64)))])) _
    exact X2.lreturnOut hx Bd.returns (hb hby d4_63) hr
  · show Q4 Z q0 h0 n0 _ T2.heap _
    rw [e2q]
    exact ⟨congrArg (fun q => some (Value.long q)) hv3.symm, N2, rfl⟩
theorem pn_0 : plainName "com/example/cistern/cistern/sampling/SplitMix64NextLongPinLaw" = true := by first | (simp [plainName, overriddenIn]; done) | decide +kernel
theorem pd_0_0 : parseMethodDescriptor "(J)V" = some ⟨[.long], none⟩ := by decide +kernel
theorem pd_0_1 : parseMethodDescriptor "()J" = some ⟨[], some .long⟩ := by decide +kernel
theorem pd_0_2 : parseMethodDescriptor "(J)J" = some ⟨[.long], some .long⟩ := by decide +kernel
theorem ef_0 (m : MethodId) (x0 : Int64) (x1 : Int32) : entryFrame m #[(.long x0), (.int x1)] maxLocals = mkF m 0 #[.val (.long x0), .second, .val (.int x1), .unset, .unset, .unset, .unset, .unset, .unset, .unset, .unset, .unset, .unset] [] := by first | (simp [entryFrame, mkF, argsToLocals, Value.category, maxLocals]; done) | rfl
def e0_1 (q0 : Int64) (p1 : Int32) : Int64 := (q0 + ((((p1 &&& (3 : Int32)) + (1 : Int32)).toInt64) * (-7046029254386353131 : Int64)))
def e0_2 (q0 : Int64) (p1 : Int32) : Int64 := (q0 + ((((p1 &&& (3 : Int32)) + (2 : Int32)).toInt64) * (-7046029254386353131 : Int64)))
def e0_3 (q0 : Int64) : Int64 := (f3 ((q0 + (-7046029254386353131 : Int64)) + (-7046029254386353131 : Int64)))
def e0_4 (q0 : Int64) : Int64 := (f3 (((q0 + (-7046029254386353131 : Int64)) + (-7046029254386353131 : Int64)) + (-7046029254386353131 : Int64)))
def e0_5 (q0 : Int64) : Int64 := (f3 ((((q0 + (-7046029254386353131 : Int64)) + (-7046029254386353131 : Int64)) + (-7046029254386353131 : Int64)) + (-7046029254386353131 : Int64)))
def f0 (q0 : Int64) (p1 : Int32) : Int32 :=
  if (p1 &&& (3 : Int32)) < (1 : Int32) then (if (lcmpW (f4 (f3 q0)) (e0_1 q0 p1)) = (0 : Int32) then (if (lcmpW (f4 (f3 (q0 + (-7046029254386353131 : Int64)))) (e0_2 q0 p1)) = (0 : Int32) then ((1 : Int32)) else
  ((0 : Int32))) else
  ((0 : Int32))) else
  (if (p1 &&& (3 : Int32)) < (2 : Int32) then (if (lcmpW (f4 (f3 (q0 + (-7046029254386353131 : Int64)))) (e0_1 q0 p1)) = (0 : Int32) then (if (lcmpW (f4 (e0_3 q0)) (e0_2 q0 p1)) = (0 : Int32) then ((1 : Int32)) else
  ((0 : Int32))) else
  ((0 : Int32))) else
  (if (p1 &&& (3 : Int32)) < (3 : Int32) then (if (lcmpW (f4 (e0_3 q0)) (e0_1 q0 p1)) = (0 : Int32) then (if (lcmpW (f4 (e0_4 q0)) (e0_2 q0 p1)) = (0 : Int32) then ((1 : Int32)) else
  ((0 : Int32))) else
  ((0 : Int32))) else
  (if (lcmpW (f4 (e0_4 q0)) (e0_1 q0 p1)) = (0 : Int32) then (if (lcmpW (f4 (e0_5 q0)) (e0_2 q0 p1)) = (0 : Int32) then ((1 : Int32)) else
  ((0 : Int32))) else
  ((0 : Int32)))))
theorem own_bx (z : BitVec 64) (k : Nat) (hk : 64 ≤ 3 * k) : ((z ^^^ z >>> k) ^^^ (z ^^^ z >>> k) >>> k) ^^^ (z ^^^ z >>> k) >>> (2 * k) = z := by
  apply BitVec.eq_of_getLsbD_eq
  intro i hi
  simp only [BitVec.getLsbD_xor, BitVec.getLsbD_ushiftRight]
  have h3 : z.getLsbD (k + (2 * k + i)) = false := BitVec.getLsbD_of_ge _ _ (by omega)
  rw [h3, show k + (k + i) = 2 * k + i by omega]
  cases z.getLsbD i <;> cases z.getLsbD (k + i) <;> cases z.getLsbD (2 * k + i) <;> rfl
theorem own_sh (z : Int64) (u : UInt64) (k : Nat) (hu : u.toBitVec % 64 = BitVec.ofNat 64 k) (hk : k < 64) : ((z.toUInt64 >>> u).toInt64).toBitVec = z.toBitVec >>> k := by
  show (z.toUInt64 >>> u).toBitVec = _
  rw [UInt64.toBitVec_shiftRight, hu]
  show z.toBitVec >>> (BitVec.ofNat 64 k) = _
  rw [BitVec.ushiftRight_eq', BitVec.toNat_ofNat, Nat.mod_eq_of_lt (by omega)]
theorem own_xs (z : Int64) (u v : UInt64) (k : Nat) (hu : u.toBitVec % 64 = BitVec.ofNat 64 k) (hv : v.toBitVec % 64 = BitVec.ofNat 64 (2 * k)) (hk : 2 * k < 64) (h3 : 64 ≤ 3 * k) :
    (((z ^^^ (z.toUInt64 >>> u).toInt64) ^^^ ((z ^^^ (z.toUInt64 >>> u).toInt64).toUInt64 >>> u).toInt64) ^^^ ((z ^^^ (z.toUInt64 >>> u).toInt64).toUInt64 >>> v).toInt64) = z := by
  apply Int64.toBitVec_inj.mp
  rw [Int64.toBitVec_xor, Int64.toBitVec_xor, own_sh _ u k hu (by omega), own_sh _ v (2 * k) hv hk, Int64.toBitVec_xor, own_sh _ u k hu (by omega)]
  exact own_bx _ k h3
theorem own_mix (w : Int64) : f4 (f3 w) = w + (-7046029254386353131 : Int64) := by
  have i2 : (-7723592293110705685 : Int64) * ((e5_2 (-7723592293110705685 : Int64)) * ((2 : Int64) - ((-7723592293110705685 : Int64) * (e5_2 (-7723592293110705685 : Int64))))) = 1 := by decide +kernel
  have i1 : (-4658895280553007687 : Int64) * ((e5_2 (-4658895280553007687 : Int64)) * ((2 : Int64) - ((-4658895280553007687 : Int64) * (e5_2 (-4658895280553007687 : Int64))))) = 1 := by decide +kernel
  have h1 : e4_1 (f3 w) = e3_2 w := own_xs (e3_2 w) _ _ 31 (by decide +kernel) (by decide +kernel) (by decide) (by decide)
  have h2 : e4_2 (f3 w) = (e3_1 w) ^^^ (((e3_1 w).toUInt64 >>> ((27 : Int32) &&& 0x3f).toInt64.toUInt64).toInt64) := by
    unfold e4_2
    rw [h1]
    unfold e3_2
    rw [Int64.mul_assoc, i2, Int64.mul_one]
  have h3 : e4_3 (f3 w) = e3_1 w := by
    unfold e4_3
    rw [h2]
    exact own_xs (e3_1 w) _ _ 27 (by decide +kernel) (by decide +kernel) (by decide) (by decide)
  have h4 : e4_4 (f3 w) = ((w + (-7046029254386353131 : Int64)) ^^^ (((w + (-7046029254386353131 : Int64)).toUInt64 >>> ((30 : Int32) &&& 0x3f).toInt64.toUInt64).toInt64)) := by
    unfold e4_4
    rw [h3]
    unfold e3_1
    rw [Int64.mul_assoc, i1, Int64.mul_one]
  unfold f4
  rw [h4]
  exact own_xs (w + (-7046029254386353131 : Int64)) _ _ 30 (by decide +kernel) (by decide +kernel) (by decide) (by decide)
theorem own_cases (p : Int32) : p &&& (3 : Int32) = 0 ∨ p &&& (3 : Int32) = 1 ∨ p &&& (3 : Int32) = 2 ∨ p &&& (3 : Int32) = 3 := by
  have h : (p &&& 3).toInt = p.toInt % 4 := c_mask p 3 2 (by decide) (by decide)
  have e0 : (0 : Int32).toInt = 0 := by decide
  have e1 : (1 : Int32).toInt = 1 := by decide
  have e2 : (2 : Int32).toInt = 2 := by decide
  have e3 : (3 : Int32).toInt = 3 := by decide
  rw [← Int32.toInt_inj, ← Int32.toInt_inj, ← Int32.toInt_inj, ← Int32.toInt_inj, e0, e1, e2, e3]
  omega
theorem own_law (q0 : Int64) (p1 : Int32) : f0 q0 p1 = 1 := by
  have m1 : ((0 : Int32) + 1).toInt64 * (-7046029254386353131 : Int64) = -7046029254386353131 := by decide +kernel
  unfold f0 e0_1 e0_2 e0_3 e0_4 e0_5
  simp only [own_mix]
  rcases own_cases p1 with h | h | h | h
  · simp only [h]
    rw [if_pos (show (0 : Int32) < (1 : Int32) by decide)]
    have k1 : lcmpW (q0 + (-7046029254386353131 : Int64)) (q0 + (((0 : Int32) + (1 : Int32)).toInt64 * (-7046029254386353131 : Int64))) = (0 : Int32) := by
      rw [lw_eq]; rfl
    have k2 : lcmpW (q0 + (-7046029254386353131 : Int64) + (-7046029254386353131 : Int64)) (q0 + (((0 : Int32) + (2 : Int32)).toInt64 * (-7046029254386353131 : Int64))) = (0 : Int32) := by
      rw [lw_eq, Int64.add_assoc]; rfl
    rw [if_pos k1, if_pos k2]
  · simp only [h]
    rw [if_neg (show ¬ (1 : Int32) < (1 : Int32) by decide), if_pos (show (1 : Int32) < (2 : Int32) by decide)]
    have k1 : lcmpW (q0 + (-7046029254386353131 : Int64) + (-7046029254386353131 : Int64)) (q0 + (((1 : Int32) + (1 : Int32)).toInt64 * (-7046029254386353131 : Int64))) = (0 : Int32) := by
      rw [lw_eq, Int64.add_assoc]; rfl
    have k2 : lcmpW (q0 + (-7046029254386353131 : Int64) + (-7046029254386353131 : Int64) + (-7046029254386353131 : Int64)) (q0 + (((1 : Int32) + (2 : Int32)).toInt64 * (-7046029254386353131 : Int64))) = (0 : Int32) := by
      rw [lw_eq, Int64.add_assoc, Int64.add_assoc]; rfl
    rw [if_pos k1, if_pos k2]
  · simp only [h]
    rw [if_neg (show ¬ (2 : Int32) < (1 : Int32) by decide), if_neg (show ¬ (2 : Int32) < (2 : Int32) by decide), if_pos (show (2 : Int32) < (3 : Int32) by decide)]
    have k1 : lcmpW (q0 + (-7046029254386353131 : Int64) + (-7046029254386353131 : Int64) + (-7046029254386353131 : Int64)) (q0 + (((2 : Int32) + (1 : Int32)).toInt64 * (-7046029254386353131 : Int64))) = (0 : Int32) := by
      rw [lw_eq, Int64.add_assoc, Int64.add_assoc]; rfl
    have k2 : lcmpW (q0 + (-7046029254386353131 : Int64) + (-7046029254386353131 : Int64) + (-7046029254386353131 : Int64) + (-7046029254386353131 : Int64)) (q0 + (((2 : Int32) + (2 : Int32)).toInt64 * (-7046029254386353131 : Int64))) = (0 : Int32) := by
      rw [lw_eq, Int64.add_assoc, Int64.add_assoc, Int64.add_assoc]; rfl
    rw [if_pos k1, if_pos k2]
  · simp only [h]
    rw [if_neg (show ¬ (3 : Int32) < (1 : Int32) by decide), if_neg (show ¬ (3 : Int32) < (2 : Int32) by decide), if_neg (show ¬ (3 : Int32) < (3 : Int32) by decide)]
    have k1 : lcmpW (q0 + (-7046029254386353131 : Int64) + (-7046029254386353131 : Int64) + (-7046029254386353131 : Int64) + (-7046029254386353131 : Int64)) (q0 + (((3 : Int32) + (1 : Int32)).toInt64 * (-7046029254386353131 : Int64))) = (0 : Int32) := by
      rw [lw_eq, Int64.add_assoc, Int64.add_assoc, Int64.add_assoc]; rfl
    have k2 : lcmpW (q0 + (-7046029254386353131 : Int64) + (-7046029254386353131 : Int64) + (-7046029254386353131 : Int64) + (-7046029254386353131 : Int64) + (-7046029254386353131 : Int64)) (q0 + (((3 : Int32) + (2 : Int32)).toInt64 * (-7046029254386353131 : Int64))) = (0 : Int32) := by
      rw [lw_eq, Int64.add_assoc, Int64.add_assoc, Int64.add_assoc, Int64.add_assoc]; rfl
    rw [if_pos k1, if_pos k2]
def Q0 (Z : State) (q0 : Int64) (p1 : Int32) (h0 : Heap) (n0 : Nat) (v : Option Value) (h : Heap) (L : List Loc) : Prop := v = some (.int (f0 q0 p1)) ∧ Fr n0 L
set_option maxRecDepth 65536 in
set_option maxHeartbeats 40000000 in
theorem rm0 (l : Launch) (Z : State) (a0 : Array Value) (hw : ∀ d ∈ tables_1, d.before a0 Z = true) (ws : List Jvm.Cond) (q0 : Int64) (p1 : Int32) (h0 : Heap) (n0 : Nat) (Z0 : n0 ≤ h0.size) :
    MetFree l x (head1 (Jvm.Cond.code x code maxLocals ret :: ws) room_1) (fun a U => a = #[(.long q0), (.int p1)] ∧ Z.Warmed39 U.vm ∧ U.heap = h0) (fun _ _ _ _ _ => True) (fun _ U o U' => ∃ v L, o = .returned v ∧ Q0 Z q0 p1 h0 n0 v U'.heap L ∧ FrameEnd U o U' L room_1.cells room_1.slots) := by
  refine MetFree.of_bodySF (plainFor_of_name pn_0) hisR ?_
  intro p e s m args below meth c s₁ Bd hml0 hP hK
  obtain ⟨rfl, hZ, hh⟩ := hP
  have hx := Bd.exec
  have hby := Bd.bytes
  have hml : c.maxLocals = 13 := hml0
  have hown : s.vm.findClass "com/example/cistern/cistern/sampling/SplitMix64NextLongPinLaw" = some m.cls := findClass_of_methodNamed Bd.named
  have hnm := (name_of_methodNamed Bd.named Bd.method).1
  have X0 : Stand p l e room_1 s m #[(.long q0), (.int p1)] below meth c s₁ [] 0 0 := Stand.of_body Bd
  have e0 : s₁.heap = h0 := by rw [← hh, Bd.state]; rfl
  have N0 := Fr.nil n0
  have pre0 : ∀ t, Steps p.tables e below (s₁.setTop (mkF m 0 #[.val (.long q0), .second, .val (.int p1), .unset, .unset, .unset, .unset, .unset, .unset, .unset, .unset, .unset, .unset] [])) t → Steps p.tables e below (s₁.setTop (entryFrame m #[(.long q0), (.int p1)] maxLocals)) t := fun t k => castTop (ef_0 m q0 p1) k
  obtain ⟨T1, h1, X1, e1, E1, A1, D1, -, st1⟩ := newO X0 hx hZ hown (hw _ (List.mem_of_getElem? (i := 0) rfl)) (hw _ (List.mem_of_getElem? (i := 1) rfl)) (hw _ (List.mem_of_getElem? (i := 2) rfl)) e0 (g := (mkF m 4 #[.val (.long q0), .second, .val (.int p1), .val (.int (p1 &&& (3 : Int32))), .unset, .unset, .unset, .unset, .unset, .unset, .unset, .unset, .unset] [])) rfl (hb hby at_4) (by decide) (by decide)
  obtain ⟨b1, g1⟩ : ∃ z, z = h0.size := ⟨_, rfl⟩
  rw [← g1] at A1 D1 st1
  have g_b1 : n0 ≤ b1 := Nat.le_trans Z0 (Nat.le_of_eq g1.symm)
  have sz_b1 : h0.size ≤ b1 := Nat.le_trans (Keep.refl h0 []).1 (Nat.le_of_eq g1.symm)
  have K2 : Keep h0 h1 [] := (Keep.refl h0 []).ext E1
  have Z3 : n0 ≤ h1.size := Nat.le_trans Z0 K2.1
  have E_b1 := A1
  have F__state_b1 : Fld Z h1 b1 "com/example/cistern/cistern/sampling/SplitMix64" "_state" "J" (.long (0 : Int64)) := D1 (Or.inl (hw _ (List.mem_of_getElem? (i := 10) rfl))) (ty := .long) (by decide)
  obtain ⟨_, _, ⟨T4, L4, k4, n4⟩, -, X4, ⟨Lc4, hQ4, l4, y4, z4⟩, st4⟩ := X1.specialBack hx (y := (⟨"com/example/cistern/cistern/sampling/SplitMix64", "<init>", "(J)V"⟩ : MethodName)) rfl hown (mvT hZ (hw _ (List.mem_of_getElem? (i := 3) rfl))) (mvT hZ (hw _ (List.mem_of_getElem? (i := 4) rfl))) (mvT hZ (hw _ (List.mem_of_getElem? (i := 5) rfl))) (by decide) (backOf (W := 1) (rm1 l Z a0 hw [] b1 q0 (0 : Int64) h1 n0 Z3 E_b1 F__state_b1 g_b1) hZ (hw _ (List.mem_of_getElem? (i := 5) rfl)) (hw _ (List.mem_of_getElem? (i := 2) rfl)) (by decide) (by decide)) (g := (mkF m 9 #[.val (.long q0), .second, .val (.int p1), .val (.int (p1 &&& (3 : Int32))), .unset, .unset, .unset, .unset, .unset, .unset, .unset, .unset, .unset] [(.long q0), (.ref b1), (.ref b1)])) rfl (by rw [hml]; rfl) (Steps.refl _) (a := b1) (argsL := [(.long q0)]) (rest := [(.ref b1)]) (lenOf pd_0_0 rfl) rfl (by show 2 * 0 + _ ≤ _; exact Nat.le_of_eq rfl) (hb hby at_9) (fun _ _ => ⟨rfl, e1, (by decide : 1 + 0 ≤ _), (by decide : 1 + 0 ≤ _)⟩)
  dsimp only [Pt.U, Pt.locs, Pt.cells, Pt.slots] at X4 l4 y4 z4 st4 hQ4
  subst l4 y4 z4
  obtain ⟨rfl, N4q, K4q, G4_0⟩ := hQ4
  have N4 := Fr.app N0 N4q
  have K5 : Keep h0 T4.heap [] := K2.trans K4q (allS (Or.inr sz_b1) all0)
  have Z6 : n0 ≤ T4.heap.size := Nat.le_trans Z0 K5.1
  obtain ⟨LS4, X4, N4⟩ : ∃ L, Stand p l e room_1 s m #[(.long q0), (.int p1)] below meth c T4 L 1 1 ∧ Fr n0 L := ⟨_, X4, N4⟩
  have pre7 : ∀ t, Steps p.tables e below (T4.setTop (mkF m 16 #[.val (.long q0), .second, .val (.int p1), .val (.int (p1 &&& (3 : Int32))), .val (.ref b1), .unset, .unset, .unset, .unset, .unset, .unset, .unset, .unset] [(.int (1 : Int32)), (.int (p1 &&& (3 : Int32)))])) t → Steps p.tables e below (s₁.setTop (entryFrame m #[(.long q0), (.int p1)] maxLocals)) t := fun t kt => pre0 t (by
      show Steps p.tables e below (s₁.setTop (mkF m 0 #[.val (.long q0), .second, .val (.int p1), .unset, .unset, .unset, .unset, .unset, .unset, .unset, .unset, .unset, .unset] [])) _
      refine XS.iloadN X0.here hx rfl (hb hby at_0) rfl ?_
      show Steps p.tables e below (s₁.setTop (mkF m 1 #[.val (.long q0), .second, .val (.int p1), .unset, .unset, .unset, .unset, .unset, .unset, .unset, .unset, .unset, .unset] [(.int p1)])) _
      refine XS.iconst X0.here hx rfl (hb hby at_1) ?_
      show Steps p.tables e below (s₁.setTop (mkF m 2 #[.val (.long q0), .second, .val (.int p1), .unset, .unset, .unset, .unset, .unset, .unset, .unset, .unset, .unset, .unset] [(.int (3 : Int32)), (.int p1)])) _
      refine XS.iand X0.here hx rfl (hb hby at_2) rfl ?_
      show Steps p.tables e below (s₁.setTop (mkF m 3 #[.val (.long q0), .second, .val (.int p1), .unset, .unset, .unset, .unset, .unset, .unset, .unset, .unset, .unset, .unset] [(.int (p1 &&& (3 : Int32)))])) _
      refine XS.istoreN X0.here hx rfl (hb hby at_3) rfl (l' := #[.val (.long q0), .second, .val (.int p1), .val (.int (p1 &&& (3 : Int32))), .unset, .unset, .unset, .unset, .unset, .unset, .unset, .unset, .unset]) rfl ?_
      show Steps p.tables e below (s₁.setTop (mkF m 4 #[.val (.long q0), .second, .val (.int p1), .val (.int (p1 &&& (3 : Int32))), .unset, .unset, .unset, .unset, .unset, .unset, .unset, .unset, .unset] [])) _
      refine st1 _ ?_
      show Steps p.tables e below (T1.setTop (mkF m 7 #[.val (.long q0), .second, .val (.int p1), .val (.int (p1 &&& (3 : Int32))), .unset, .unset, .unset, .unset, .unset, .unset, .unset, .unset, .unset] [(.ref b1)])) _
      refine XS.dup X1.here hx rfl (hb hby at_7) rfl rfl ?_
      show Steps p.tables e below (T1.setTop (mkF m 8 #[.val (.long q0), .second, .val (.int p1), .val (.int (p1 &&& (3 : Int32))), .unset, .unset, .unset, .unset, .unset, .unset, .unset, .unset, .unset] [(.ref b1), (.ref b1)])) _
      refine XS.lloadN X1.here hx rfl (hb hby at_8) rfl ?_
      show Steps p.tables e below (T1.setTop (mkF m 9 #[.val (.long q0), .second, .val (.int p1), .val (.int (p1 &&& (3 : Int32))), .unset, .unset, .unset, .unset, .unset, .unset, .unset, .unset, .unset] [(.long q0), (.ref b1), (.ref b1)])) _
      refine st4.trans ?_
      show Steps p.tables e below (T4.setTop (mkF m 12 #[.val (.long q0), .second, .val (.int p1), .val (.int (p1 &&& (3 : Int32))), .unset, .unset, .unset, .unset, .unset, .unset, .unset, .unset, .unset] [(.ref b1)])) _
      refine XS.astore X4.here hx rfl (hb hby at_12) rfl rfl (l' := #[.val (.long q0), .second, .val (.int p1), .val (.int (p1 &&& (3 : Int32))), .val (.ref b1), .unset, .unset, .unset, .unset, .unset, .unset, .unset, .unset]) rfl ?_
      show Steps p.tables e below (T4.setTop (mkF m 14 #[.val (.long q0), .second, .val (.int p1), .val (.int (p1 &&& (3 : Int32))), .val (.ref b1), .unset, .unset, .unset, .unset, .unset, .unset, .unset, .unset] [])) _
      refine XS.iloadN X4.here hx rfl (hb hby at_14) rfl ?_
      show Steps p.tables e below (T4.setTop (mkF m 15 #[.val (.long q0), .second, .val (.int p1), .val (.int (p1 &&& (3 : Int32))), .val (.ref b1), .unset, .unset, .unset, .unset, .unset, .unset, .unset, .unset] [(.int (p1 &&& (3 : Int32)))])) _
      refine XS.iconst X4.here hx rfl (hb hby at_15) ?_
      exact kt)
  by_cases hc16_8 : (p1 &&& (3 : Int32)) < (1 : Int32)
  · have pre9 : ∀ t, Steps p.tables e below (T4.setTop (mkF m 27 #[.val (.long q0), .second, .val (.int p1), .val (.int (p1 &&& (3 : Int32))), .val (.ref b1), .unset, .unset, .unset, .unset, .unset, .unset, .unset, .unset] [(.int (2 : Int32)), (.int (p1 &&& (3 : Int32)))])) t → Steps p.tables e below (s₁.setTop (entryFrame m #[(.long q0), (.int p1)] maxLocals)) t := fun t kt => pre7 t (by
        show Steps p.tables e below (T4.setTop (mkF m 16 #[.val (.long q0), .second, .val (.int p1), .val (.int (p1 &&& (3 : Int32))), .val (.ref b1), .unset, .unset, .unset, .unset, .unset, .unset, .unset, .unset] [(.int (1 : Int32)), (.int (p1 &&& (3 : Int32)))])) _
        refine XS.icmpYes X4.here hx rfl (pc0 := 16) (pc' := 25) rfl (hb hby at_16) rfl (tlt hc16_8).1 (by decide) (by decide) ?_
        show Steps p.tables e below (T4.setTop (mkF m 25 #[.val (.long q0), .second, .val (.int p1), .val (.int (p1 &&& (3 : Int32))), .val (.ref b1), .unset, .unset, .unset, .unset, .unset, .unset, .unset, .unset] [])) _
        refine XS.iloadN X4.here hx rfl (hb hby at_25) rfl ?_
        show Steps p.tables e below (T4.setTop (mkF m 26 #[.val (.long q0), .second, .val (.int p1), .val (.int (p1 &&& (3 : Int32))), .val (.ref b1), .unset, .unset, .unset, .unset, .unset, .unset, .unset, .unset] [(.int (p1 &&& (3 : Int32)))])) _
        refine XS.iconst X4.here hx rfl (hb hby at_26) ?_
        exact kt)
    have hd27_10 : (p1 &&& (3 : Int32)) < (2 : Int32) := Int32.lt_of_lt_of_le hc16_8 (by decide)
    have pre11 : ∀ t, Steps p.tables e below (T4.setTop (mkF m 38 #[.val (.long q0), .second, .val (.int p1), .val (.int (p1 &&& (3 : Int32))), .val (.ref b1), .unset, .unset, .unset, .unset, .unset, .unset, .unset, .unset] [(.int (3 : Int32)), (.int (p1 &&& (3 : Int32)))])) t → Steps p.tables e below (s₁.setTop (entryFrame m #[(.long q0), (.int p1)] maxLocals)) t := fun t kt => pre9 t (by
        show Steps p.tables e below (T4.setTop (mkF m 27 #[.val (.long q0), .second, .val (.int p1), .val (.int (p1 &&& (3 : Int32))), .val (.ref b1), .unset, .unset, .unset, .unset, .unset, .unset, .unset, .unset] [(.int (2 : Int32)), (.int (p1 &&& (3 : Int32)))])) _
        refine XS.icmpYes X4.here hx rfl (pc0 := 27) (pc' := 36) rfl (hb hby at_27) rfl (tlt hd27_10).1 (by decide) (by decide) ?_
        show Steps p.tables e below (T4.setTop (mkF m 36 #[.val (.long q0), .second, .val (.int p1), .val (.int (p1 &&& (3 : Int32))), .val (.ref b1), .unset, .unset, .unset, .unset, .unset, .unset, .unset, .unset] [])) _
        refine XS.iloadN X4.here hx rfl (hb hby at_36) rfl ?_
        show Steps p.tables e below (T4.setTop (mkF m 37 #[.val (.long q0), .second, .val (.int p1), .val (.int (p1 &&& (3 : Int32))), .val (.ref b1), .unset, .unset, .unset, .unset, .unset, .unset, .unset, .unset] [(.int (p1 &&& (3 : Int32)))])) _
        refine XS.iconst X4.here hx rfl (hb hby at_37) ?_
        exact kt)
    have hd38_12 : (p1 &&& (3 : Int32)) < (3 : Int32) := Int32.lt_of_lt_of_le hc16_8 (by decide)
    obtain ⟨cq13, kq13, q13a, q13b, q13c⟩ := isOf hZ rfl (E_b1.keep K4q)
    obtain ⟨_, _, ⟨T13, L13, k13, n13⟩, -, X13, ⟨Lc13, hQ13, l13, y13, z13⟩, st13⟩ := X4.virtualBack hx (y := (⟨"com/example/cistern/cistern/sampling/SplitMix64", "nextLong", "()J"⟩ : MethodName)) (z := (⟨"com/example/cistern/cistern/sampling/SplitMix64", "nextLong", "()J"⟩ : MethodName)) hown (mvT hZ (hw _ (List.mem_of_getElem? (i := 11) rfl))) (mvT hZ (hw _ (List.mem_of_getElem? (i := 12) rfl))) (notFace_of_selects (args := #[]) (mvT hZ (hw _ (List.mem_of_getElem? (i := 14) rfl)))) (mvT hZ (hw _ (List.mem_of_getElem? (i := 14) rfl))) (mvT hZ (hw _ (List.mem_of_getElem? (i := 13) rfl))) (by decide) (backOf (W := 0) (rm3 l Z a0 hw [] b1 q0 T4.heap n0 Z6 G4_0 (E_b1.keep K4q) g_b1) hZ (hw _ (List.mem_of_getElem? (i := 15) rfl)) (hw _ (List.mem_of_getElem? (i := 2) rfl)) (by decide) (by decide)) q13a q13c (g := (mkF m 49 #[.val (.long q0), .second, .val (.int p1), .val (.int (p1 &&& (3 : Int32))), .val (.ref b1), .unset, .unset, .unset, .unset, .unset, .unset, .unset, .unset] [(.ref b1)])) rfl (by rw [hml]; rfl) (Steps.refl _) (argsL := []) (rest := []) (lenOf pd_0_1 rfl) rfl (by show 2 * 0 + _ ≤ _; exact Nat.le_of_eq rfl) (hb hby at_49) (fun _ _ => ⟨rfl, rfl, (by decide : 1 + 0 ≤ _), (by decide : 1 + 0 ≤ _)⟩)
    dsimp only [Pt.U, Pt.locs, Pt.cells, Pt.slots] at X13 l13 y13 z13 st13 hQ13
    subst l13 y13 z13
    obtain ⟨rfl, N13q, K13q, G13_0⟩ := hQ13
    have N13 := Fr.app N4 N13q
    have K14 : Keep h0 T13.heap [] := K5.trans K13q (allS (Or.inr sz_b1) all0)
    have Z15 : n0 ≤ T13.heap.size := Nat.le_trans Z0 K14.1
    obtain ⟨LS13, X13, N13⟩ : ∃ L, Stand p l e room_1 s m #[(.long q0), (.int p1)] below meth c T13 L 1 1 ∧ Fr n0 L := ⟨_, X13, N13⟩
    obtain ⟨cq16, kq16, q16a, q16b, q16c⟩ := isOf hZ rfl ((E_b1.keep K4q).keep K13q)
    obtain ⟨_, _, ⟨T16, L16, k16, n16⟩, -, X16, ⟨Lc16, hQ16, l16, y16, z16⟩, st16⟩ := X13.virtualBack hx (y := (⟨"com/example/cistern/cistern/sampling/SplitMix64", "nextLong", "()J"⟩ : MethodName)) (z := (⟨"com/example/cistern/cistern/sampling/SplitMix64", "nextLong", "()J"⟩ : MethodName)) hown (mvT hZ (hw _ (List.mem_of_getElem? (i := 11) rfl))) (mvT hZ (hw _ (List.mem_of_getElem? (i := 12) rfl))) (notFace_of_selects (args := #[]) (mvT hZ (hw _ (List.mem_of_getElem? (i := 14) rfl)))) (mvT hZ (hw _ (List.mem_of_getElem? (i := 14) rfl))) (mvT hZ (hw _ (List.mem_of_getElem? (i := 13) rfl))) (by decide) (backOf (W := 0) (rm3 l Z a0 hw [] b1 (q0 + (-7046029254386353131 : Int64)) T13.heap n0 Z15 G13_0 ((E_b1.keep K4q).keep K13q) g_b1) hZ (hw _ (List.mem_of_getElem? (i := 15) rfl)) (hw _ (List.mem_of_getElem? (i := 2) rfl)) (by decide) (by decide)) q16a q16c (g := (mkF m 56 #[.val (.long q0), .second, .val (.int p1), .val (.int (p1 &&& (3 : Int32))), .val (.ref b1), .val (.long (f3 q0)), .second, .unset, .unset, .unset, .unset, .unset, .unset] [(.ref b1)])) rfl (by rw [hml]; rfl) (Steps.refl _) (argsL := []) (rest := []) (lenOf pd_0_1 rfl) rfl (by show 2 * 0 + _ ≤ _; exact Nat.le_of_eq rfl) (hb hby at_56) (fun _ _ => ⟨rfl, rfl, (by decide : 1 + 0 ≤ _), (by decide : 1 + 0 ≤ _)⟩)
    dsimp only [Pt.U, Pt.locs, Pt.cells, Pt.slots] at X16 l16 y16 z16 st16 hQ16
    subst l16 y16 z16
    obtain ⟨rfl, N16q, K16q, G16_0⟩ := hQ16
    have N16 := Fr.app N13 N16q
    have K17 : Keep h0 T16.heap [] := K14.trans K16q (allS (Or.inr sz_b1) all0)
    have Z18 : n0 ≤ T16.heap.size := Nat.le_trans Z0 K17.1
    obtain ⟨LS16, X16, N16⟩ : ∃ L, Stand p l e room_1 s m #[(.long q0), (.int p1)] below meth c T16 L 1 1 ∧ Fr n0 L := ⟨_, X16, N16⟩
    obtain ⟨_, _, ⟨T19, L19, k19, n19⟩, -, X19, ⟨Lc19, hQ19, l19, y19, z19⟩, st19⟩ := Jvm.LawKit.callS X16 hx (y := (⟨"com/example/cistern/cistern/sampling/SplitMix64NextLongPinLaw", "unmix", "(J)J"⟩ : MethodName)) hown (mvT hZ (hw _ (List.mem_of_getElem? (i := 20) rfl))) (mvT hZ (hw _ (List.mem_of_getElem? (i := 21) rfl))) (mvT hZ (hw _ (List.mem_of_getElem? (i := 22) rfl))) (mvT hZ (hw _ (List.mem_of_getElem? (i := 23) rfl))) (by decide) (backOf (W := 0) (rm4 l Z a0 hw [] (f3 q0) T16.heap n0 Z18 ) hZ (hw _ (List.mem_of_getElem? (i := 23) rfl)) (hw _ (List.mem_of_getElem? (i := 22) rfl)) (by decide) (by decide)) (g := (mkF m 87 #[.val (.long q0), .second, .val (.int p1), .val (.int (p1 &&& (3 : Int32))), .val (.ref b1), .val (.long (f3 q0)), .second, .val (.long (f3 (q0 + (-7046029254386353131 : Int64)))), .second, .val (.long (e0_1 q0 p1)), .second, .val (.long (e0_2 q0 p1)), .second] [(.long (f3 q0))])) rfl (by rw [hml]; rfl) (argsL := [(.long (f3 q0))]) (rest := []) (lenOf pd_0_2 rfl) rfl (by show 2 * 0 + _ ≤ _; exact Nat.le_of_eq rfl) (hb hby at_87) (fun _ _ => ⟨rfl, rfl, (by decide : 1 + 0 ≤ _), (by decide : 1 + 0 ≤ _)⟩)
    dsimp only [Pt.U, Pt.locs, Pt.cells, Pt.slots] at X19 l19 y19 z19 st19 hQ19
    subst l19 y19 z19
    obtain ⟨rfl, N19q, e19q⟩ := hQ19
    have N19 := Fr.app N16 N19q
    have pre20 : ∀ t, Steps p.tables e below (T19.setTop (mkF m 93 #[.val (.long q0), .second, .val (.int p1), .val (.int (p1 &&& (3 : Int32))), .val (.ref b1), .val (.long (f3 q0)), .second, .val (.long (f3 (q0 + (-7046029254386353131 : Int64)))), .second, .val (.long (e0_1 q0 p1)), .second, .val (.long (e0_2 q0 p1)), .second] [(.int (lcmpW (f4 (f3 q0)) (e0_1 q0 p1)))])) t → Steps p.tables e below (s₁.setTop (entryFrame m #[(.long q0), (.int p1)] maxLocals)) t := fun t kt => pre11 t (by
        show Steps p.tables e below (T4.setTop (mkF m 38 #[.val (.long q0), .second, .val (.int p1), .val (.int (p1 &&& (3 : Int32))), .val (.ref b1), .unset, .unset, .unset, .unset, .unset, .unset, .unset, .unset] [(.int (3 : Int32)), (.int (p1 &&& (3 : Int32)))])) _
        refine XS.icmpYes X4.here hx rfl (pc0 := 38) (pc' := 47) rfl (hb hby at_38) rfl (tlt hd38_12).1 (by decide) (by decide) ?_
        show Steps p.tables e below (T4.setTop (mkF m 47 #[.val (.long q0), .second, .val (.int p1), .val (.int (p1 &&& (3 : Int32))), .val (.ref b1), .unset, .unset, .unset, .unset, .unset, .unset, .unset, .unset] [])) _
        refine XS.aload X4.here hx rfl (hb hby at_47) rfl rfl ?_
        show Steps p.tables e below (T4.setTop (mkF m 49 #[.val (.long q0), .second, .val (.int p1), .val (.int (p1 &&& (3 : Int32))), .val (.ref b1), .unset, .unset, .unset, .unset, .unset, .unset, .unset, .unset] [(.ref b1)])) _
        refine st13.trans ?_
        show Steps p.tables e below (T13.setTop (mkF m 52 #[.val (.long q0), .second, .val (.int p1), .val (.int (p1 &&& (3 : Int32))), .val (.ref b1), .unset, .unset, .unset, .unset, .unset, .unset, .unset, .unset] [(.long (f3 q0))])) _
        refine XS.lstore X13.here hx rfl (hb hby at_52) rfl (l' := #[.val (.long q0), .second, .val (.int p1), .val (.int (p1 &&& (3 : Int32))), .val (.ref b1), .val (.long (f3 q0)), .second, .unset, .unset, .unset, .unset, .unset, .unset]) rfl ?_
        show Steps p.tables e below (T13.setTop (mkF m 54 #[.val (.long q0), .second, .val (.int p1), .val (.int (p1 &&& (3 : Int32))), .val (.ref b1), .val (.long (f3 q0)), .second, .unset, .unset, .unset, .unset, .unset, .unset] [])) _
        refine XS.aload X13.here hx rfl (hb hby at_54) rfl rfl ?_
        show Steps p.tables e below (T13.setTop (mkF m 56 #[.val (.long q0), .second, .val (.int p1), .val (.int (p1 &&& (3 : Int32))), .val (.ref b1), .val (.long (f3 q0)), .second, .unset, .unset, .unset, .unset, .unset, .unset] [(.ref b1)])) _
        refine st16.trans ?_
        show Steps p.tables e below (T16.setTop (mkF m 59 #[.val (.long q0), .second, .val (.int p1), .val (.int (p1 &&& (3 : Int32))), .val (.ref b1), .val (.long (f3 q0)), .second, .unset, .unset, .unset, .unset, .unset, .unset] [(.long (f3 (q0 + (-7046029254386353131 : Int64))))])) _
        refine XS.lstore X16.here hx rfl (hb hby at_59) rfl (l' := #[.val (.long q0), .second, .val (.int p1), .val (.int (p1 &&& (3 : Int32))), .val (.ref b1), .val (.long (f3 q0)), .second, .val (.long (f3 (q0 + (-7046029254386353131 : Int64)))), .second, .unset, .unset, .unset, .unset]) rfl ?_
        show Steps p.tables e below (T16.setTop (mkF m 61 #[.val (.long q0), .second, .val (.int p1), .val (.int (p1 &&& (3 : Int32))), .val (.ref b1), .val (.long (f3 q0)), .second, .val (.long (f3 (q0 + (-7046029254386353131 : Int64)))), .second, .unset, .unset, .unset, .unset] [])) _
        refine XS.lloadN X16.here hx rfl (hb hby at_61) rfl ?_
        show Steps p.tables e below (T16.setTop (mkF m 62 #[.val (.long q0), .second, .val (.int p1), .val (.int (p1 &&& (3 : Int32))), .val (.ref b1), .val (.long (f3 q0)), .second, .val (.long (f3 (q0 + (-7046029254386353131 : Int64)))), .second, .unset, .unset, .unset, .unset] [(.long q0)])) _
        refine XS.iloadN X16.here hx rfl (hb hby at_62) rfl ?_
        show Steps p.tables e below (T16.setTop (mkF m 63 #[.val (.long q0), .second, .val (.int p1), .val (.int (p1 &&& (3 : Int32))), .val (.ref b1), .val (.long (f3 q0)), .second, .val (.long (f3 (q0 + (-7046029254386353131 : Int64)))), .second, .unset, .unset, .unset, .unset] [(.int (p1 &&& (3 : Int32))), (.long q0)])) _
        refine XS.iconst X16.here hx rfl (hb hby at_63) ?_
        show Steps p.tables e below (T16.setTop (mkF m 64 #[.val (.long q0), .second, .val (.int p1), .val (.int (p1 &&& (3 : Int32))), .val (.ref b1), .val (.long (f3 q0)), .second, .val (.long (f3 (q0 + (-7046029254386353131 : Int64)))), .second, .unset, .unset, .unset, .unset] [(.int (1 : Int32)), (.int (p1 &&& (3 : Int32))), (.long q0)])) _
        refine XS.iadd X16.here hx rfl (hb hby at_64) rfl ?_
        show Steps p.tables e below (T16.setTop (mkF m 65 #[.val (.long q0), .second, .val (.int p1), .val (.int (p1 &&& (3 : Int32))), .val (.ref b1), .val (.long (f3 q0)), .second, .val (.long (f3 (q0 + (-7046029254386353131 : Int64)))), .second, .unset, .unset, .unset, .unset] [(.int ((p1 &&& (3 : Int32)) + (1 : Int32))), (.long q0)])) _
        refine XS.i2l X16.here hx rfl (hb hby at_65) rfl ?_
        show Steps p.tables e below (T16.setTop (mkF m 66 #[.val (.long q0), .second, .val (.int p1), .val (.int (p1 &&& (3 : Int32))), .val (.ref b1), .val (.long (f3 q0)), .second, .val (.long (f3 (q0 + (-7046029254386353131 : Int64)))), .second, .unset, .unset, .unset, .unset] [(.long (((p1 &&& (3 : Int32)) + (1 : Int32)).toInt64)), (.long q0)])) _
        refine X16.ldc2Long hx hown (mvT hZ (hw _ (List.mem_of_getElem? (i := 19) rfl))) (g := (mkF m 66 #[.val (.long q0), .second, .val (.int p1), .val (.int (p1 &&& (3 : Int32))), .val (.ref b1), .val (.long (f3 q0)), .second, .val (.long (f3 (q0 + (-7046029254386353131 : Int64)))), .second, .unset, .unset, .unset, .unset] [(.long (((p1 &&& (3 : Int32)) + (1 : Int32)).toInt64)), (.long q0)])) rfl (hb hby at_66) _ ?_
        show Steps p.tables e below (T16.setTop (mkF m 69 #[.val (.long q0), .second, .val (.int p1), .val (.int (p1 &&& (3 : Int32))), .val (.ref b1), .val (.long (f3 q0)), .second, .val (.long (f3 (q0 + (-7046029254386353131 : Int64)))), .second, .unset, .unset, .unset, .unset] [(.long (-7046029254386353131 : Int64)), (.long (((p1 &&& (3 : Int32)) + (1 : Int32)).toInt64)), (.long q0)])) _
        refine XS.lmul X16.here hx rfl (hb hby at_69) rfl ?_
        show Steps p.tables e below (T16.setTop (mkF m 70 #[.val (.long q0), .second, .val (.int p1), .val (.int (p1 &&& (3 : Int32))), .val (.ref b1), .val (.long (f3 q0)), .second, .val (.long (f3 (q0 + (-7046029254386353131 : Int64)))), .second, .unset, .unset, .unset, .unset] [(.long ((((p1 &&& (3 : Int32)) + (1 : Int32)).toInt64) * (-7046029254386353131 : Int64))), (.long q0)])) _
        refine XS.ladd X16.here hx rfl (hb hby at_70) rfl ?_
        show Steps p.tables e below (T16.setTop (mkF m 71 #[.val (.long q0), .second, .val (.int p1), .val (.int (p1 &&& (3 : Int32))), .val (.ref b1), .val (.long (f3 q0)), .second, .val (.long (f3 (q0 + (-7046029254386353131 : Int64)))), .second, .unset, .unset, .unset, .unset] [(.long (q0 + ((((p1 &&& (3 : Int32)) + (1 : Int32)).toInt64) * (-7046029254386353131 : Int64))))])) _
        refine XS.lstore X16.here hx rfl (hb hby at_71) rfl (l' := #[.val (.long q0), .second, .val (.int p1), .val (.int (p1 &&& (3 : Int32))), .val (.ref b1), .val (.long (f3 q0)), .second, .val (.long (f3 (q0 + (-7046029254386353131 : Int64)))), .second, .val (.long (e0_1 q0 p1)), .second, .unset, .unset]) rfl ?_
        show Steps p.tables e below (T16.setTop (mkF m 73 #[.val (.long q0), .second, .val (.int p1), .val (.int (p1 &&& (3 : Int32))), .val (.ref b1), .val (.long (f3 q0)), .second, .val (.long (f3 (q0 + (-7046029254386353131 : Int64)))), .second, .val (.long (e0_1 q0 p1)), .second, .unset, .unset] [])) _
        refine XS.lloadN X16.here hx rfl (hb hby at_73) rfl ?_
        show Steps p.tables e below (T16.setTop (mkF m 74 #[.val (.long q0), .second, .val (.int p1), .val (.int (p1 &&& (3 : Int32))), .val (.ref b1), .val (.long (f3 q0)), .second, .val (.long (f3 (q0 + (-7046029254386353131 : Int64)))), .second, .val (.long (e0_1 q0 p1)), .second, .unset, .unset] [(.long q0)])) _
        refine XS.iloadN X16.here hx rfl (hb hby at_74) rfl ?_
        show Steps p.tables e below (T16.setTop (mkF m 75 #[.val (.long q0), .second, .val (.int p1), .val (.int (p1 &&& (3 : Int32))), .val (.ref b1), .val (.long (f3 q0)), .second, .val (.long (f3 (q0 + (-7046029254386353131 : Int64)))), .second, .val (.long (e0_1 q0 p1)), .second, .unset, .unset] [(.int (p1 &&& (3 : Int32))), (.long q0)])) _
        refine XS.iconst X16.here hx rfl (hb hby at_75) ?_
        show Steps p.tables e below (T16.setTop (mkF m 76 #[.val (.long q0), .second, .val (.int p1), .val (.int (p1 &&& (3 : Int32))), .val (.ref b1), .val (.long (f3 q0)), .second, .val (.long (f3 (q0 + (-7046029254386353131 : Int64)))), .second, .val (.long (e0_1 q0 p1)), .second, .unset, .unset] [(.int (2 : Int32)), (.int (p1 &&& (3 : Int32))), (.long q0)])) _
        refine XS.iadd X16.here hx rfl (hb hby at_76) rfl ?_
        show Steps p.tables e below (T16.setTop (mkF m 77 #[.val (.long q0), .second, .val (.int p1), .val (.int (p1 &&& (3 : Int32))), .val (.ref b1), .val (.long (f3 q0)), .second, .val (.long (f3 (q0 + (-7046029254386353131 : Int64)))), .second, .val (.long (e0_1 q0 p1)), .second, .unset, .unset] [(.int ((p1 &&& (3 : Int32)) + (2 : Int32))), (.long q0)])) _
        refine XS.i2l X16.here hx rfl (hb hby at_77) rfl ?_
        show Steps p.tables e below (T16.setTop (mkF m 78 #[.val (.long q0), .second, .val (.int p1), .val (.int (p1 &&& (3 : Int32))), .val (.ref b1), .val (.long (f3 q0)), .second, .val (.long (f3 (q0 + (-7046029254386353131 : Int64)))), .second, .val (.long (e0_1 q0 p1)), .second, .unset, .unset] [(.long (((p1 &&& (3 : Int32)) + (2 : Int32)).toInt64)), (.long q0)])) _
        refine X16.ldc2Long hx hown (mvT hZ (hw _ (List.mem_of_getElem? (i := 19) rfl))) (g := (mkF m 78 #[.val (.long q0), .second, .val (.int p1), .val (.int (p1 &&& (3 : Int32))), .val (.ref b1), .val (.long (f3 q0)), .second, .val (.long (f3 (q0 + (-7046029254386353131 : Int64)))), .second, .val (.long (e0_1 q0 p1)), .second, .unset, .unset] [(.long (((p1 &&& (3 : Int32)) + (2 : Int32)).toInt64)), (.long q0)])) rfl (hb hby at_78) _ ?_
        show Steps p.tables e below (T16.setTop (mkF m 81 #[.val (.long q0), .second, .val (.int p1), .val (.int (p1 &&& (3 : Int32))), .val (.ref b1), .val (.long (f3 q0)), .second, .val (.long (f3 (q0 + (-7046029254386353131 : Int64)))), .second, .val (.long (e0_1 q0 p1)), .second, .unset, .unset] [(.long (-7046029254386353131 : Int64)), (.long (((p1 &&& (3 : Int32)) + (2 : Int32)).toInt64)), (.long q0)])) _
        refine XS.lmul X16.here hx rfl (hb hby at_81) rfl ?_
        show Steps p.tables e below (T16.setTop (mkF m 82 #[.val (.long q0), .second, .val (.int p1), .val (.int (p1 &&& (3 : Int32))), .val (.ref b1), .val (.long (f3 q0)), .second, .val (.long (f3 (q0 + (-7046029254386353131 : Int64)))), .second, .val (.long (e0_1 q0 p1)), .second, .unset, .unset] [(.long ((((p1 &&& (3 : Int32)) + (2 : Int32)).toInt64) * (-7046029254386353131 : Int64))), (.long q0)])) _
        refine XS.ladd X16.here hx rfl (hb hby at_82) rfl ?_
        show Steps p.tables e below (T16.setTop (mkF m 83 #[.val (.long q0), .second, .val (.int p1), .val (.int (p1 &&& (3 : Int32))), .val (.ref b1), .val (.long (f3 q0)), .second, .val (.long (f3 (q0 + (-7046029254386353131 : Int64)))), .second, .val (.long (e0_1 q0 p1)), .second, .unset, .unset] [(.long (q0 + ((((p1 &&& (3 : Int32)) + (2 : Int32)).toInt64) * (-7046029254386353131 : Int64))))])) _
        refine XS.lstore X16.here hx rfl (hb hby at_83) rfl (l' := #[.val (.long q0), .second, .val (.int p1), .val (.int (p1 &&& (3 : Int32))), .val (.ref b1), .val (.long (f3 q0)), .second, .val (.long (f3 (q0 + (-7046029254386353131 : Int64)))), .second, .val (.long (e0_1 q0 p1)), .second, .val (.long (e0_2 q0 p1)), .second]) rfl ?_
        show Steps p.tables e below (T16.setTop (mkF m 85 #[.val (.long q0), .second, .val (.int p1), .val (.int (p1 &&& (3 : Int32))), .val (.ref b1), .val (.long (f3 q0)), .second, .val (.long (f3 (q0 + (-7046029254386353131 : Int64)))), .second, .val (.long (e0_1 q0 p1)), .second, .val (.long (e0_2 q0 p1)), .second] [])) _
        refine XS.lload X16.here hx rfl (hb hby at_85) rfl ?_
        show Steps p.tables e below (T16.setTop (mkF m 87 #[.val (.long q0), .second, .val (.int p1), .val (.int (p1 &&& (3 : Int32))), .val (.ref b1), .val (.long (f3 q0)), .second, .val (.long (f3 (q0 + (-7046029254386353131 : Int64)))), .second, .val (.long (e0_1 q0 p1)), .second, .val (.long (e0_2 q0 p1)), .second] [(.long (f3 q0))])) _
        refine st19 _ ?_
        show Steps p.tables e below (T19.setTop (mkF m 90 #[.val (.long q0), .second, .val (.int p1), .val (.int (p1 &&& (3 : Int32))), .val (.ref b1), .val (.long (f3 q0)), .second, .val (.long (f3 (q0 + (-7046029254386353131 : Int64)))), .second, .val (.long (e0_1 q0 p1)), .second, .val (.long (e0_2 q0 p1)), .second] [(.long (f4 (f3 q0)))])) _
        refine XS.lload X19.here hx rfl (hb hby at_90) rfl ?_
        show Steps p.tables e below (T19.setTop (mkF m 92 #[.val (.long q0), .second, .val (.int p1), .val (.int (p1 &&& (3 : Int32))), .val (.ref b1), .val (.long (f3 q0)), .second, .val (.long (f3 (q0 + (-7046029254386353131 : Int64)))), .second, .val (.long (e0_1 q0 p1)), .second, .val (.long (e0_2 q0 p1)), .second] [(.long (e0_1 q0 p1)), (.long (f4 (f3 q0)))])) _
        refine XS.lcmp X19.here hx rfl (hb hby at_92) rfl ?_
        exact kt)
    by_cases hc93_21 : (lcmpW (f4 (f3 q0)) (e0_1 q0 p1)) = (0 : Int32)
    · obtain ⟨_, _, ⟨T22, L22, k22, n22⟩, -, X22, ⟨Lc22, hQ22, l22, y22, z22⟩, st22⟩ := Jvm.LawKit.callS X19 hx (y := (⟨"com/example/cistern/cistern/sampling/SplitMix64NextLongPinLaw", "unmix", "(J)J"⟩ : MethodName)) hown (mvT hZ (hw _ (List.mem_of_getElem? (i := 20) rfl))) (mvT hZ (hw _ (List.mem_of_getElem? (i := 21) rfl))) (mvT hZ (hw _ (List.mem_of_getElem? (i := 22) rfl))) (mvT hZ (hw _ (List.mem_of_getElem? (i := 23) rfl))) (by decide) (backOf (W := 0) (rm4 l Z a0 hw [] (f3 (q0 + (-7046029254386353131 : Int64))) T16.heap n0 Z18 ) hZ (hw _ (List.mem_of_getElem? (i := 23) rfl)) (hw _ (List.mem_of_getElem? (i := 22) rfl)) (by decide) (by decide)) (g := (mkF m 98 #[.val (.long q0), .second, .val (.int p1), .val (.int (p1 &&& (3 : Int32))), .val (.ref b1), .val (.long (f3 q0)), .second, .val (.long (f3 (q0 + (-7046029254386353131 : Int64)))), .second, .val (.long (e0_1 q0 p1)), .second, .val (.long (e0_2 q0 p1)), .second] [(.long (f3 (q0 + (-7046029254386353131 : Int64))))])) rfl (by rw [hml]; rfl) (argsL := [(.long (f3 (q0 + (-7046029254386353131 : Int64))))]) (rest := []) (lenOf pd_0_2 rfl) rfl (by show 2 * 0 + _ ≤ _; exact Nat.le_of_eq rfl) (hb hby at_98) (fun _ _ => ⟨rfl, e19q, (by decide : 1 + 0 ≤ _), (by decide : 1 + 0 ≤ _)⟩)
      dsimp only [Pt.U, Pt.locs, Pt.cells, Pt.slots] at X22 l22 y22 z22 st22 hQ22
      subst l22 y22 z22
      obtain ⟨rfl, N22q, e22q⟩ := hQ22
      have N22 := Fr.app N19 N22q
      have pre23 : ∀ t, Steps p.tables e below (T22.setTop (mkF m 104 #[.val (.long q0), .second, .val (.int p1), .val (.int (p1 &&& (3 : Int32))), .val (.ref b1), .val (.long (f3 q0)), .second, .val (.long (f3 (q0 + (-7046029254386353131 : Int64)))), .second, .val (.long (e0_1 q0 p1)), .second, .val (.long (e0_2 q0 p1)), .second] [(.int (lcmpW (f4 (f3 (q0 + (-7046029254386353131 : Int64)))) (e0_2 q0 p1)))])) t → Steps p.tables e below (s₁.setTop (entryFrame m #[(.long q0), (.int p1)] maxLocals)) t := fun t kt => pre20 t (by
          show Steps p.tables e below (T19.setTop (mkF m 93 #[.val (.long q0), .second, .val (.int p1), .val (.int (p1 &&& (3 : Int32))), .val (.ref b1), .val (.long (f3 q0)), .second, .val (.long (f3 (q0 + (-7046029254386353131 : Int64)))), .second, .val (.long (e0_1 q0 p1)), .second, .val (.long (e0_2 q0 p1)), .second] [(.int (lcmpW (f4 (f3 q0)) (e0_1 q0 p1)))])) _
          refine XS.ifNo X19.here hx rfl (hb hby at_93) rfl ((if0 _ _).trans (teq hc93_21).2) ?_
          show Steps p.tables e below (T19.setTop (mkF m 96 #[.val (.long q0), .second, .val (.int p1), .val (.int (p1 &&& (3 : Int32))), .val (.ref b1), .val (.long (f3 q0)), .second, .val (.long (f3 (q0 + (-7046029254386353131 : Int64)))), .second, .val (.long (e0_1 q0 p1)), .second, .val (.long (e0_2 q0 p1)), .second] [])) _
          refine XS.lload X19.here hx rfl (hb hby at_96) rfl ?_
          show Steps p.tables e below (T19.setTop (mkF m 98 #[.val (.long q0), .second, .val (.int p1), .val (.int (p1 &&& (3 : Int32))), .val (.ref b1), .val (.long (f3 q0)), .second, .val (.long (f3 (q0 + (-7046029254386353131 : Int64)))), .second, .val (.long (e0_1 q0 p1)), .second, .val (.long (e0_2 q0 p1)), .second] [(.long (f3 (q0 + (-7046029254386353131 : Int64))))])) _
          refine st22 _ ?_
          show Steps p.tables e below (T22.setTop (mkF m 101 #[.val (.long q0), .second, .val (.int p1), .val (.int (p1 &&& (3 : Int32))), .val (.ref b1), .val (.long (f3 q0)), .second, .val (.long (f3 (q0 + (-7046029254386353131 : Int64)))), .second, .val (.long (e0_1 q0 p1)), .second, .val (.long (e0_2 q0 p1)), .second] [(.long (f4 (f3 (q0 + (-7046029254386353131 : Int64)))))])) _
          refine XS.lload X22.here hx rfl (hb hby at_101) rfl ?_
          show Steps p.tables e below (T22.setTop (mkF m 103 #[.val (.long q0), .second, .val (.int p1), .val (.int (p1 &&& (3 : Int32))), .val (.ref b1), .val (.long (f3 q0)), .second, .val (.long (f3 (q0 + (-7046029254386353131 : Int64)))), .second, .val (.long (e0_1 q0 p1)), .second, .val (.long (e0_2 q0 p1)), .second] [(.long (e0_2 q0 p1)), (.long (f4 (f3 (q0 + (-7046029254386353131 : Int64)))))])) _
          refine XS.lcmp X22.here hx rfl (hb hby at_103) rfl ?_
          exact kt)
      by_cases hc104_24 : (lcmpW (f4 (f3 (q0 + (-7046029254386353131 : Int64)))) (e0_2 q0 p1)) = (0 : Int32)
      · obtain ⟨fs, hr, hrun, hended, hW, hsame⟩ := X22.leave (v := some (.int (1 : Int32))) (fun h => by rw [Bd.returns] at h; cases h)
        have hv77 : (f0 q0 p1) = (1 : Int32) := by rw [f0, if_pos hc16_8, if_pos hc93_21, if_pos hc104_24]
        refine ⟨_, _, pre23 _ ?_, hrun, hended, _, _, rfl, ?_, ⟨_, rfl⟩, hW, hsame.mono (by decide) (by decide)⟩
        · show Steps p.tables e below (T22.setTop (mkF m 104 #[.val (.long q0), .second, .val (.int p1), .val (.int (p1 &&& (3 : Int32))), .val (.ref b1), .val (.long (f3 q0)), .second, .val (.long (f3 (q0 + (-7046029254386353131 : Int64)))), .second, .val (.long (e0_1 q0 p1)), .second, .val (.long (e0_2 q0 p1)), .second] [(.int (lcmpW (f4 (f3 (q0 + (-7046029254386353131 : Int64)))) (e0_2 q0 p1)))])) _
          refine XS.ifNo X22.here hx rfl (hb hby at_104) rfl ((if0 _ _).trans (teq hc104_24).2) ?_
          show Steps p.tables e below (T22.setTop (mkF m 107 #[.val (.long q0), .second, .val (.int p1), .val (.int (p1 &&& (3 : Int32))), .val (.ref b1), .val (.long (f3 q0)), .second, .val (.long (f3 (q0 + (-7046029254386353131 : Int64)))), .second, .val (.long (e0_1 q0 p1)), .second, .val (.long (e0_2 q0 p1)), .second] [])) _
          refine XS.iconst X22.here hx rfl (hb hby at_107) ?_
          show Steps p.tables e below (T22.setTop (mkF m 108 #[.val (.long q0), .second, .val (.int p1), .val (.int (p1 &&& (3 : Int32))), .val (.ref b1), .val (.long (f3 q0)), .second, .val (.long (f3 (q0 + (-7046029254386353131 : Int64)))), .second, .val (.long (e0_1 q0 p1)), .second, .val (.long (e0_2 q0 p1)), .second] [(.int (1 : Int32))])) _
          refine XS.goto X22.here hx rfl (pc0 := 108) (pc' := 112) rfl (hb hby at_108) (by decide) (by decide) ?_
          show Steps p.tables e below (T22.setTop (mkF m 112 #[.val (.long q0), .second, .val (.int p1), .val (.int (p1 &&& (3 : Int32))), .val (.ref b1), .val (.long (f3 q0)), .second, .val (.long (f3 (q0 + (-7046029254386353131 : Int64)))), .second, .val (.long (e0_1 q0 p1)), .second, .val (.long (e0_2 q0 p1)), .second] [(.int (1 : Int32))])) _
          exact retN X22 hx (t := .boolean) Bd.returns (by simp) (hb hby at_112) hr
        · show Q0 Z q0 p1 h0 n0 _ T22.heap _
          rw [e22q]
          exact ⟨congrArg (fun q => some (Value.int q)) hv77.symm, N22⟩
      · obtain ⟨fs, hr, hrun, hended, hW, hsame⟩ := X22.leave (v := some (.int (0 : Int32))) (fun h => by rw [Bd.returns] at h; cases h)
        have hv78 : (f0 q0 p1) = (0 : Int32) := by rw [f0, if_pos hc16_8, if_pos hc93_21, if_neg hc104_24]
        refine ⟨_, _, pre23 _ ?_, hrun, hended, _, _, rfl, ?_, ⟨_, rfl⟩, hW, hsame.mono (by decide) (by decide)⟩
        · show Steps p.tables e below (T22.setTop (mkF m 104 #[.val (.long q0), .second, .val (.int p1), .val (.int (p1 &&& (3 : Int32))), .val (.ref b1), .val (.long (f3 q0)), .second, .val (.long (f3 (q0 + (-7046029254386353131 : Int64)))), .second, .val (.long (e0_1 q0 p1)), .second, .val (.long (e0_2 q0 p1)), .second] [(.int (lcmpW (f4 (f3 (q0 + (-7046029254386353131 : Int64)))) (e0_2 q0 p1)))])) _
          refine XS.ifYes X22.here hx rfl (pc0 := 104) (pc' := 111) rfl (hb hby at_104) rfl ((if0 _ _).trans (feq hc104_24).2) (by decide) (by decide) ?_
          show Steps p.tables e below (T22.setTop (mkF m 111 #[.val (.long q0), .second, .val (.int p1), .val (.int (p1 &&& (3 : Int32))), .val (.ref b1), .val (.long (f3 q0)), .second, .val (.long (f3 (q0 + (-7046029254386353131 : Int64)))), .second, .val (.long (e0_1 q0 p1)), .second, .val (.long (e0_2 q0 p1)), .second] [])) _
          refine XS.iconst X22.here hx rfl (hb hby at_111) ?_
          show Steps p.tables e below (T22.setTop (mkF m 112 #[.val (.long q0), .second, .val (.int p1), .val (.int (p1 &&& (3 : Int32))), .val (.ref b1), .val (.long (f3 q0)), .second, .val (.long (f3 (q0 + (-7046029254386353131 : Int64)))), .second, .val (.long (e0_1 q0 p1)), .second, .val (.long (e0_2 q0 p1)), .second] [(.int (0 : Int32))])) _
          exact retN X22 hx (t := .boolean) Bd.returns (by simp) (hb hby at_112) hr
        · show Q0 Z q0 p1 h0 n0 _ T22.heap _
          rw [e22q]
          exact ⟨congrArg (fun q => some (Value.int q)) hv78.symm, N22⟩
    · obtain ⟨fs, hr, hrun, hended, hW, hsame⟩ := X19.leave (v := some (.int (0 : Int32))) (fun h => by rw [Bd.returns] at h; cases h)
      have hv79 : (f0 q0 p1) = (0 : Int32) := by rw [f0, if_pos hc16_8, if_neg hc93_21]
      refine ⟨_, _, pre20 _ ?_, hrun, hended, _, _, rfl, ?_, ⟨_, rfl⟩, hW, hsame.mono (by decide) (by decide)⟩
      · show Steps p.tables e below (T19.setTop (mkF m 93 #[.val (.long q0), .second, .val (.int p1), .val (.int (p1 &&& (3 : Int32))), .val (.ref b1), .val (.long (f3 q0)), .second, .val (.long (f3 (q0 + (-7046029254386353131 : Int64)))), .second, .val (.long (e0_1 q0 p1)), .second, .val (.long (e0_2 q0 p1)), .second] [(.int (lcmpW (f4 (f3 q0)) (e0_1 q0 p1)))])) _
        refine XS.ifYes X19.here hx rfl (pc0 := 93) (pc' := 111) rfl (hb hby at_93) rfl ((if0 _ _).trans (feq hc93_21).2) (by decide) (by decide) ?_
        show Steps p.tables e below (T19.setTop (mkF m 111 #[.val (.long q0), .second, .val (.int p1), .val (.int (p1 &&& (3 : Int32))), .val (.ref b1), .val (.long (f3 q0)), .second, .val (.long (f3 (q0 + (-7046029254386353131 : Int64)))), .second, .val (.long (e0_1 q0 p1)), .second, .val (.long (e0_2 q0 p1)), .second] [])) _
        refine XS.iconst X19.here hx rfl (hb hby at_111) ?_
        show Steps p.tables e below (T19.setTop (mkF m 112 #[.val (.long q0), .second, .val (.int p1), .val (.int (p1 &&& (3 : Int32))), .val (.ref b1), .val (.long (f3 q0)), .second, .val (.long (f3 (q0 + (-7046029254386353131 : Int64)))), .second, .val (.long (e0_1 q0 p1)), .second, .val (.long (e0_2 q0 p1)), .second] [(.int (0 : Int32))])) _
        exact retN X19 hx (t := .boolean) Bd.returns (by simp) (hb hby at_112) hr
      · show Q0 Z q0 p1 h0 n0 _ T19.heap _
        rw [e19q]
        exact ⟨congrArg (fun q => some (Value.int q)) hv79.symm, N19⟩
  · obtain ⟨cq25, kq25, q25a, q25b, q25c⟩ := isOf hZ rfl (E_b1.keep K4q)
    obtain ⟨_, _, ⟨T25, L25, k25, n25⟩, -, X25, ⟨Lc25, hQ25, l25, y25, z25⟩, st25⟩ := X4.virtualBack hx (y := (⟨"com/example/cistern/cistern/sampling/SplitMix64", "nextLong", "()J"⟩ : MethodName)) (z := (⟨"com/example/cistern/cistern/sampling/SplitMix64", "nextLong", "()J"⟩ : MethodName)) hown (mvT hZ (hw _ (List.mem_of_getElem? (i := 11) rfl))) (mvT hZ (hw _ (List.mem_of_getElem? (i := 12) rfl))) (notFace_of_selects (args := #[]) (mvT hZ (hw _ (List.mem_of_getElem? (i := 14) rfl)))) (mvT hZ (hw _ (List.mem_of_getElem? (i := 14) rfl))) (mvT hZ (hw _ (List.mem_of_getElem? (i := 13) rfl))) (by decide) (backOf (W := 0) (rm3 l Z a0 hw [] b1 q0 T4.heap n0 Z6 G4_0 (E_b1.keep K4q) g_b1) hZ (hw _ (List.mem_of_getElem? (i := 15) rfl)) (hw _ (List.mem_of_getElem? (i := 2) rfl)) (by decide) (by decide)) q25a q25c (g := (mkF m 21 #[.val (.long q0), .second, .val (.int p1), .val (.int (p1 &&& (3 : Int32))), .val (.ref b1), .unset, .unset, .unset, .unset, .unset, .unset, .unset, .unset] [(.ref b1)])) rfl (by rw [hml]; rfl) (Steps.refl _) (argsL := []) (rest := []) (lenOf pd_0_1 rfl) rfl (by show 2 * 0 + _ ≤ _; exact Nat.le_of_eq rfl) (hb hby at_21) (fun _ _ => ⟨rfl, rfl, (by decide : 1 + 0 ≤ _), (by decide : 1 + 0 ≤ _)⟩)
    dsimp only [Pt.U, Pt.locs, Pt.cells, Pt.slots] at X25 l25 y25 z25 st25 hQ25
    subst l25 y25 z25
    obtain ⟨rfl, N25q, K25q, G25_0⟩ := hQ25
    have N25 := Fr.app N4 N25q
    have K26 : Keep h0 T25.heap [] := K5.trans K25q (allS (Or.inr sz_b1) all0)
    have Z27 : n0 ≤ T25.heap.size := Nat.le_trans Z0 K26.1
    obtain ⟨LS25, X25, N25⟩ : ∃ L, Stand p l e room_1 s m #[(.long q0), (.int p1)] below meth c T25 L 1 1 ∧ Fr n0 L := ⟨_, X25, N25⟩
    have pre28 : ∀ t, Steps p.tables e below (T25.setTop (mkF m 27 #[.val (.long q0), .second, .val (.int p1), .val (.int (p1 &&& (3 : Int32))), .val (.ref b1), .unset, .unset, .unset, .unset, .unset, .unset, .unset, .unset] [(.int (2 : Int32)), (.int (p1 &&& (3 : Int32)))])) t → Steps p.tables e below (s₁.setTop (entryFrame m #[(.long q0), (.int p1)] maxLocals)) t := fun t kt => pre7 t (by
        show Steps p.tables e below (T4.setTop (mkF m 16 #[.val (.long q0), .second, .val (.int p1), .val (.int (p1 &&& (3 : Int32))), .val (.ref b1), .unset, .unset, .unset, .unset, .unset, .unset, .unset, .unset] [(.int (1 : Int32)), (.int (p1 &&& (3 : Int32)))])) _
        refine XS.icmpNo X4.here hx rfl (hb hby at_16) rfl (flt hc16_8).1 ?_
        show Steps p.tables e below (T4.setTop (mkF m 19 #[.val (.long q0), .second, .val (.int p1), .val (.int (p1 &&& (3 : Int32))), .val (.ref b1), .unset, .unset, .unset, .unset, .unset, .unset, .unset, .unset] [])) _
        refine XS.aload X4.here hx rfl (hb hby at_19) rfl rfl ?_
        show Steps p.tables e below (T4.setTop (mkF m 21 #[.val (.long q0), .second, .val (.int p1), .val (.int (p1 &&& (3 : Int32))), .val (.ref b1), .unset, .unset, .unset, .unset, .unset, .unset, .unset, .unset] [(.ref b1)])) _
        refine st25.trans ?_
        show Steps p.tables e below (T25.setTop (mkF m 24 #[.val (.long q0), .second, .val (.int p1), .val (.int (p1 &&& (3 : Int32))), .val (.ref b1), .unset, .unset, .unset, .unset, .unset, .unset, .unset, .unset] [(.long (f3 q0))])) _
        jvm_step X25.here [X25.here.top, hx, (hb hby at_24), Value.category]
        show Steps p.tables e below (T25.setTop (mkF m 25 #[.val (.long q0), .second, .val (.int p1), .val (.int (p1 &&& (3 : Int32))), .val (.ref b1), .unset, .unset, .unset, .unset, .unset, .unset, .unset, .unset] [])) _
        refine XS.iloadN X25.here hx rfl (hb hby at_25) rfl ?_
        show Steps p.tables e below (T25.setTop (mkF m 26 #[.val (.long q0), .second, .val (.int p1), .val (.int (p1 &&& (3 : Int32))), .val (.ref b1), .unset, .unset, .unset, .unset, .unset, .unset, .unset, .unset] [(.int (p1 &&& (3 : Int32)))])) _
        refine XS.iconst X25.here hx rfl (hb hby at_26) ?_
        exact kt)
    by_cases hc27_29 : (p1 &&& (3 : Int32)) < (2 : Int32)
    · have pre30 : ∀ t, Steps p.tables e below (T25.setTop (mkF m 38 #[.val (.long q0), .second, .val (.int p1), .val (.int (p1 &&& (3 : Int32))), .val (.ref b1), .unset, .unset, .unset, .unset, .unset, .unset, .unset, .unset] [(.int (3 : Int32)), (.int (p1 &&& (3 : Int32)))])) t → Steps p.tables e below (s₁.setTop (entryFrame m #[(.long q0), (.int p1)] maxLocals)) t := fun t kt => pre28 t (by
          show Steps p.tables e below (T25.setTop (mkF m 27 #[.val (.long q0), .second, .val (.int p1), .val (.int (p1 &&& (3 : Int32))), .val (.ref b1), .unset, .unset, .unset, .unset, .unset, .unset, .unset, .unset] [(.int (2 : Int32)), (.int (p1 &&& (3 : Int32)))])) _
          refine XS.icmpYes X25.here hx rfl (pc0 := 27) (pc' := 36) rfl (hb hby at_27) rfl (tlt hc27_29).1 (by decide) (by decide) ?_
          show Steps p.tables e below (T25.setTop (mkF m 36 #[.val (.long q0), .second, .val (.int p1), .val (.int (p1 &&& (3 : Int32))), .val (.ref b1), .unset, .unset, .unset, .unset, .unset, .unset, .unset, .unset] [])) _
          refine XS.iloadN X25.here hx rfl (hb hby at_36) rfl ?_
          show Steps p.tables e below (T25.setTop (mkF m 37 #[.val (.long q0), .second, .val (.int p1), .val (.int (p1 &&& (3 : Int32))), .val (.ref b1), .unset, .unset, .unset, .unset, .unset, .unset, .unset, .unset] [(.int (p1 &&& (3 : Int32)))])) _
          refine XS.iconst X25.here hx rfl (hb hby at_37) ?_
          exact kt)
      have hd38_31 : (p1 &&& (3 : Int32)) < (3 : Int32) := Int32.lt_of_lt_of_le hc27_29 (by decide)
      obtain ⟨cq32, kq32, q32a, q32b, q32c⟩ := isOf hZ rfl ((E_b1.keep K4q).keep K25q)
      obtain ⟨_, _, ⟨T32, L32, k32, n32⟩, -, X32, ⟨Lc32, hQ32, l32, y32, z32⟩, st32⟩ := X25.virtualBack hx (y := (⟨"com/example/cistern/cistern/sampling/SplitMix64", "nextLong", "()J"⟩ : MethodName)) (z := (⟨"com/example/cistern/cistern/sampling/SplitMix64", "nextLong", "()J"⟩ : MethodName)) hown (mvT hZ (hw _ (List.mem_of_getElem? (i := 11) rfl))) (mvT hZ (hw _ (List.mem_of_getElem? (i := 12) rfl))) (notFace_of_selects (args := #[]) (mvT hZ (hw _ (List.mem_of_getElem? (i := 14) rfl)))) (mvT hZ (hw _ (List.mem_of_getElem? (i := 14) rfl))) (mvT hZ (hw _ (List.mem_of_getElem? (i := 13) rfl))) (by decide) (backOf (W := 0) (rm3 l Z a0 hw [] b1 (q0 + (-7046029254386353131 : Int64)) T25.heap n0 Z27 G25_0 ((E_b1.keep K4q).keep K25q) g_b1) hZ (hw _ (List.mem_of_getElem? (i := 15) rfl)) (hw _ (List.mem_of_getElem? (i := 2) rfl)) (by decide) (by decide)) q32a q32c (g := (mkF m 49 #[.val (.long q0), .second, .val (.int p1), .val (.int (p1 &&& (3 : Int32))), .val (.ref b1), .unset, .unset, .unset, .unset, .unset, .unset, .unset, .unset] [(.ref b1)])) rfl (by rw [hml]; rfl) (Steps.refl _) (argsL := []) (rest := []) (lenOf pd_0_1 rfl) rfl (by show 2 * 0 + _ ≤ _; exact Nat.le_of_eq rfl) (hb hby at_49) (fun _ _ => ⟨rfl, rfl, (by decide : 1 + 0 ≤ _), (by decide : 1 + 0 ≤ _)⟩)
      dsimp only [Pt.U, Pt.locs, Pt.cells, Pt.slots] at X32 l32 y32 z32 st32 hQ32
      subst l32 y32 z32
      obtain ⟨rfl, N32q, K32q, G32_0⟩ := hQ32
      have N32 := Fr.app N25 N32q
      have K33 : Keep h0 T32.heap [] := K26.trans K32q (allS (Or.inr sz_b1) all0)
      have Z34 : n0 ≤ T32.heap.size := Nat.le_trans Z0 K33.1
      obtain ⟨LS32, X32, N32⟩ : ∃ L, Stand p l e room_1 s m #[(.long q0), (.int p1)] below meth c T32 L 1 1 ∧ Fr n0 L := ⟨_, X32, N32⟩
      obtain ⟨cq35, kq35, q35a, q35b, q35c⟩ := isOf hZ rfl (((E_b1.keep K4q).keep K25q).keep K32q)
      obtain ⟨_, _, ⟨T35, L35, k35, n35⟩, -, X35, ⟨Lc35, hQ35, l35, y35, z35⟩, st35⟩ := X32.virtualBack hx (y := (⟨"com/example/cistern/cistern/sampling/SplitMix64", "nextLong", "()J"⟩ : MethodName)) (z := (⟨"com/example/cistern/cistern/sampling/SplitMix64", "nextLong", "()J"⟩ : MethodName)) hown (mvT hZ (hw _ (List.mem_of_getElem? (i := 11) rfl))) (mvT hZ (hw _ (List.mem_of_getElem? (i := 12) rfl))) (notFace_of_selects (args := #[]) (mvT hZ (hw _ (List.mem_of_getElem? (i := 14) rfl)))) (mvT hZ (hw _ (List.mem_of_getElem? (i := 14) rfl))) (mvT hZ (hw _ (List.mem_of_getElem? (i := 13) rfl))) (by decide) (backOf (W := 0) (rm3 l Z a0 hw [] b1 ((q0 + (-7046029254386353131 : Int64)) + (-7046029254386353131 : Int64)) T32.heap n0 Z34 G32_0 (((E_b1.keep K4q).keep K25q).keep K32q) g_b1) hZ (hw _ (List.mem_of_getElem? (i := 15) rfl)) (hw _ (List.mem_of_getElem? (i := 2) rfl)) (by decide) (by decide)) q35a q35c (g := (mkF m 56 #[.val (.long q0), .second, .val (.int p1), .val (.int (p1 &&& (3 : Int32))), .val (.ref b1), .val (.long (f3 (q0 + (-7046029254386353131 : Int64)))), .second, .unset, .unset, .unset, .unset, .unset, .unset] [(.ref b1)])) rfl (by rw [hml]; rfl) (Steps.refl _) (argsL := []) (rest := []) (lenOf pd_0_1 rfl) rfl (by show 2 * 0 + _ ≤ _; exact Nat.le_of_eq rfl) (hb hby at_56) (fun _ _ => ⟨rfl, rfl, (by decide : 1 + 0 ≤ _), (by decide : 1 + 0 ≤ _)⟩)
      dsimp only [Pt.U, Pt.locs, Pt.cells, Pt.slots] at X35 l35 y35 z35 st35 hQ35
      subst l35 y35 z35
      obtain ⟨rfl, N35q, K35q, G35_0⟩ := hQ35
      have N35 := Fr.app N32 N35q
      have K36 : Keep h0 T35.heap [] := K33.trans K35q (allS (Or.inr sz_b1) all0)
      have Z37 : n0 ≤ T35.heap.size := Nat.le_trans Z0 K36.1
      obtain ⟨LS35, X35, N35⟩ : ∃ L, Stand p l e room_1 s m #[(.long q0), (.int p1)] below meth c T35 L 1 1 ∧ Fr n0 L := ⟨_, X35, N35⟩
      obtain ⟨_, _, ⟨T38, L38, k38, n38⟩, -, X38, ⟨Lc38, hQ38, l38, y38, z38⟩, st38⟩ := Jvm.LawKit.callS X35 hx (y := (⟨"com/example/cistern/cistern/sampling/SplitMix64NextLongPinLaw", "unmix", "(J)J"⟩ : MethodName)) hown (mvT hZ (hw _ (List.mem_of_getElem? (i := 20) rfl))) (mvT hZ (hw _ (List.mem_of_getElem? (i := 21) rfl))) (mvT hZ (hw _ (List.mem_of_getElem? (i := 22) rfl))) (mvT hZ (hw _ (List.mem_of_getElem? (i := 23) rfl))) (by decide) (backOf (W := 0) (rm4 l Z a0 hw [] (f3 (q0 + (-7046029254386353131 : Int64))) T35.heap n0 Z37 ) hZ (hw _ (List.mem_of_getElem? (i := 23) rfl)) (hw _ (List.mem_of_getElem? (i := 22) rfl)) (by decide) (by decide)) (g := (mkF m 87 #[.val (.long q0), .second, .val (.int p1), .val (.int (p1 &&& (3 : Int32))), .val (.ref b1), .val (.long (f3 (q0 + (-7046029254386353131 : Int64)))), .second, .val (.long (e0_3 q0)), .second, .val (.long (e0_1 q0 p1)), .second, .val (.long (e0_2 q0 p1)), .second] [(.long (f3 (q0 + (-7046029254386353131 : Int64))))])) rfl (by rw [hml]; rfl) (argsL := [(.long (f3 (q0 + (-7046029254386353131 : Int64))))]) (rest := []) (lenOf pd_0_2 rfl) rfl (by show 2 * 0 + _ ≤ _; exact Nat.le_of_eq rfl) (hb hby at_87) (fun _ _ => ⟨rfl, rfl, (by decide : 1 + 0 ≤ _), (by decide : 1 + 0 ≤ _)⟩)
      dsimp only [Pt.U, Pt.locs, Pt.cells, Pt.slots] at X38 l38 y38 z38 st38 hQ38
      subst l38 y38 z38
      obtain ⟨rfl, N38q, e38q⟩ := hQ38
      have N38 := Fr.app N35 N38q
      have pre39 : ∀ t, Steps p.tables e below (T38.setTop (mkF m 93 #[.val (.long q0), .second, .val (.int p1), .val (.int (p1 &&& (3 : Int32))), .val (.ref b1), .val (.long (f3 (q0 + (-7046029254386353131 : Int64)))), .second, .val (.long (e0_3 q0)), .second, .val (.long (e0_1 q0 p1)), .second, .val (.long (e0_2 q0 p1)), .second] [(.int (lcmpW (f4 (f3 (q0 + (-7046029254386353131 : Int64)))) (e0_1 q0 p1)))])) t → Steps p.tables e below (s₁.setTop (entryFrame m #[(.long q0), (.int p1)] maxLocals)) t := fun t kt => pre30 t (by
          show Steps p.tables e below (T25.setTop (mkF m 38 #[.val (.long q0), .second, .val (.int p1), .val (.int (p1 &&& (3 : Int32))), .val (.ref b1), .unset, .unset, .unset, .unset, .unset, .unset, .unset, .unset] [(.int (3 : Int32)), (.int (p1 &&& (3 : Int32)))])) _
          refine XS.icmpYes X25.here hx rfl (pc0 := 38) (pc' := 47) rfl (hb hby at_38) rfl (tlt hd38_31).1 (by decide) (by decide) ?_
          show Steps p.tables e below (T25.setTop (mkF m 47 #[.val (.long q0), .second, .val (.int p1), .val (.int (p1 &&& (3 : Int32))), .val (.ref b1), .unset, .unset, .unset, .unset, .unset, .unset, .unset, .unset] [])) _
          refine XS.aload X25.here hx rfl (hb hby at_47) rfl rfl ?_
          show Steps p.tables e below (T25.setTop (mkF m 49 #[.val (.long q0), .second, .val (.int p1), .val (.int (p1 &&& (3 : Int32))), .val (.ref b1), .unset, .unset, .unset, .unset, .unset, .unset, .unset, .unset] [(.ref b1)])) _
          refine st32.trans ?_
          show Steps p.tables e below (T32.setTop (mkF m 52 #[.val (.long q0), .second, .val (.int p1), .val (.int (p1 &&& (3 : Int32))), .val (.ref b1), .unset, .unset, .unset, .unset, .unset, .unset, .unset, .unset] [(.long (f3 (q0 + (-7046029254386353131 : Int64))))])) _
          refine XS.lstore X32.here hx rfl (hb hby at_52) rfl (l' := #[.val (.long q0), .second, .val (.int p1), .val (.int (p1 &&& (3 : Int32))), .val (.ref b1), .val (.long (f3 (q0 + (-7046029254386353131 : Int64)))), .second, .unset, .unset, .unset, .unset, .unset, .unset]) rfl ?_
          show Steps p.tables e below (T32.setTop (mkF m 54 #[.val (.long q0), .second, .val (.int p1), .val (.int (p1 &&& (3 : Int32))), .val (.ref b1), .val (.long (f3 (q0 + (-7046029254386353131 : Int64)))), .second, .unset, .unset, .unset, .unset, .unset, .unset] [])) _
          refine XS.aload X32.here hx rfl (hb hby at_54) rfl rfl ?_
          show Steps p.tables e below (T32.setTop (mkF m 56 #[.val (.long q0), .second, .val (.int p1), .val (.int (p1 &&& (3 : Int32))), .val (.ref b1), .val (.long (f3 (q0 + (-7046029254386353131 : Int64)))), .second, .unset, .unset, .unset, .unset, .unset, .unset] [(.ref b1)])) _
          refine st35.trans ?_
          show Steps p.tables e below (T35.setTop (mkF m 59 #[.val (.long q0), .second, .val (.int p1), .val (.int (p1 &&& (3 : Int32))), .val (.ref b1), .val (.long (f3 (q0 + (-7046029254386353131 : Int64)))), .second, .unset, .unset, .unset, .unset, .unset, .unset] [(.long (f3 ((q0 + (-7046029254386353131 : Int64)) + (-7046029254386353131 : Int64))))])) _
          refine XS.lstore X35.here hx rfl (hb hby at_59) rfl (l' := #[.val (.long q0), .second, .val (.int p1), .val (.int (p1 &&& (3 : Int32))), .val (.ref b1), .val (.long (f3 (q0 + (-7046029254386353131 : Int64)))), .second, .val (.long (e0_3 q0)), .second, .unset, .unset, .unset, .unset]) rfl ?_
          show Steps p.tables e below (T35.setTop (mkF m 61 #[.val (.long q0), .second, .val (.int p1), .val (.int (p1 &&& (3 : Int32))), .val (.ref b1), .val (.long (f3 (q0 + (-7046029254386353131 : Int64)))), .second, .val (.long (e0_3 q0)), .second, .unset, .unset, .unset, .unset] [])) _
          refine XS.lloadN X35.here hx rfl (hb hby at_61) rfl ?_
          show Steps p.tables e below (T35.setTop (mkF m 62 #[.val (.long q0), .second, .val (.int p1), .val (.int (p1 &&& (3 : Int32))), .val (.ref b1), .val (.long (f3 (q0 + (-7046029254386353131 : Int64)))), .second, .val (.long (e0_3 q0)), .second, .unset, .unset, .unset, .unset] [(.long q0)])) _
          refine XS.iloadN X35.here hx rfl (hb hby at_62) rfl ?_
          show Steps p.tables e below (T35.setTop (mkF m 63 #[.val (.long q0), .second, .val (.int p1), .val (.int (p1 &&& (3 : Int32))), .val (.ref b1), .val (.long (f3 (q0 + (-7046029254386353131 : Int64)))), .second, .val (.long (e0_3 q0)), .second, .unset, .unset, .unset, .unset] [(.int (p1 &&& (3 : Int32))), (.long q0)])) _
          refine XS.iconst X35.here hx rfl (hb hby at_63) ?_
          show Steps p.tables e below (T35.setTop (mkF m 64 #[.val (.long q0), .second, .val (.int p1), .val (.int (p1 &&& (3 : Int32))), .val (.ref b1), .val (.long (f3 (q0 + (-7046029254386353131 : Int64)))), .second, .val (.long (e0_3 q0)), .second, .unset, .unset, .unset, .unset] [(.int (1 : Int32)), (.int (p1 &&& (3 : Int32))), (.long q0)])) _
          refine XS.iadd X35.here hx rfl (hb hby at_64) rfl ?_
          show Steps p.tables e below (T35.setTop (mkF m 65 #[.val (.long q0), .second, .val (.int p1), .val (.int (p1 &&& (3 : Int32))), .val (.ref b1), .val (.long (f3 (q0 + (-7046029254386353131 : Int64)))), .second, .val (.long (e0_3 q0)), .second, .unset, .unset, .unset, .unset] [(.int ((p1 &&& (3 : Int32)) + (1 : Int32))), (.long q0)])) _
          refine XS.i2l X35.here hx rfl (hb hby at_65) rfl ?_
          show Steps p.tables e below (T35.setTop (mkF m 66 #[.val (.long q0), .second, .val (.int p1), .val (.int (p1 &&& (3 : Int32))), .val (.ref b1), .val (.long (f3 (q0 + (-7046029254386353131 : Int64)))), .second, .val (.long (e0_3 q0)), .second, .unset, .unset, .unset, .unset] [(.long (((p1 &&& (3 : Int32)) + (1 : Int32)).toInt64)), (.long q0)])) _
          refine X35.ldc2Long hx hown (mvT hZ (hw _ (List.mem_of_getElem? (i := 19) rfl))) (g := (mkF m 66 #[.val (.long q0), .second, .val (.int p1), .val (.int (p1 &&& (3 : Int32))), .val (.ref b1), .val (.long (f3 (q0 + (-7046029254386353131 : Int64)))), .second, .val (.long (e0_3 q0)), .second, .unset, .unset, .unset, .unset] [(.long (((p1 &&& (3 : Int32)) + (1 : Int32)).toInt64)), (.long q0)])) rfl (hb hby at_66) _ ?_
          show Steps p.tables e below (T35.setTop (mkF m 69 #[.val (.long q0), .second, .val (.int p1), .val (.int (p1 &&& (3 : Int32))), .val (.ref b1), .val (.long (f3 (q0 + (-7046029254386353131 : Int64)))), .second, .val (.long (e0_3 q0)), .second, .unset, .unset, .unset, .unset] [(.long (-7046029254386353131 : Int64)), (.long (((p1 &&& (3 : Int32)) + (1 : Int32)).toInt64)), (.long q0)])) _
          refine XS.lmul X35.here hx rfl (hb hby at_69) rfl ?_
          show Steps p.tables e below (T35.setTop (mkF m 70 #[.val (.long q0), .second, .val (.int p1), .val (.int (p1 &&& (3 : Int32))), .val (.ref b1), .val (.long (f3 (q0 + (-7046029254386353131 : Int64)))), .second, .val (.long (e0_3 q0)), .second, .unset, .unset, .unset, .unset] [(.long ((((p1 &&& (3 : Int32)) + (1 : Int32)).toInt64) * (-7046029254386353131 : Int64))), (.long q0)])) _
          refine XS.ladd X35.here hx rfl (hb hby at_70) rfl ?_
          show Steps p.tables e below (T35.setTop (mkF m 71 #[.val (.long q0), .second, .val (.int p1), .val (.int (p1 &&& (3 : Int32))), .val (.ref b1), .val (.long (f3 (q0 + (-7046029254386353131 : Int64)))), .second, .val (.long (e0_3 q0)), .second, .unset, .unset, .unset, .unset] [(.long (q0 + ((((p1 &&& (3 : Int32)) + (1 : Int32)).toInt64) * (-7046029254386353131 : Int64))))])) _
          refine XS.lstore X35.here hx rfl (hb hby at_71) rfl (l' := #[.val (.long q0), .second, .val (.int p1), .val (.int (p1 &&& (3 : Int32))), .val (.ref b1), .val (.long (f3 (q0 + (-7046029254386353131 : Int64)))), .second, .val (.long (e0_3 q0)), .second, .val (.long (e0_1 q0 p1)), .second, .unset, .unset]) rfl ?_
          show Steps p.tables e below (T35.setTop (mkF m 73 #[.val (.long q0), .second, .val (.int p1), .val (.int (p1 &&& (3 : Int32))), .val (.ref b1), .val (.long (f3 (q0 + (-7046029254386353131 : Int64)))), .second, .val (.long (e0_3 q0)), .second, .val (.long (e0_1 q0 p1)), .second, .unset, .unset] [])) _
          refine XS.lloadN X35.here hx rfl (hb hby at_73) rfl ?_
          show Steps p.tables e below (T35.setTop (mkF m 74 #[.val (.long q0), .second, .val (.int p1), .val (.int (p1 &&& (3 : Int32))), .val (.ref b1), .val (.long (f3 (q0 + (-7046029254386353131 : Int64)))), .second, .val (.long (e0_3 q0)), .second, .val (.long (e0_1 q0 p1)), .second, .unset, .unset] [(.long q0)])) _
          refine XS.iloadN X35.here hx rfl (hb hby at_74) rfl ?_
          show Steps p.tables e below (T35.setTop (mkF m 75 #[.val (.long q0), .second, .val (.int p1), .val (.int (p1 &&& (3 : Int32))), .val (.ref b1), .val (.long (f3 (q0 + (-7046029254386353131 : Int64)))), .second, .val (.long (e0_3 q0)), .second, .val (.long (e0_1 q0 p1)), .second, .unset, .unset] [(.int (p1 &&& (3 : Int32))), (.long q0)])) _
          refine XS.iconst X35.here hx rfl (hb hby at_75) ?_
          show Steps p.tables e below (T35.setTop (mkF m 76 #[.val (.long q0), .second, .val (.int p1), .val (.int (p1 &&& (3 : Int32))), .val (.ref b1), .val (.long (f3 (q0 + (-7046029254386353131 : Int64)))), .second, .val (.long (e0_3 q0)), .second, .val (.long (e0_1 q0 p1)), .second, .unset, .unset] [(.int (2 : Int32)), (.int (p1 &&& (3 : Int32))), (.long q0)])) _
          refine XS.iadd X35.here hx rfl (hb hby at_76) rfl ?_
          show Steps p.tables e below (T35.setTop (mkF m 77 #[.val (.long q0), .second, .val (.int p1), .val (.int (p1 &&& (3 : Int32))), .val (.ref b1), .val (.long (f3 (q0 + (-7046029254386353131 : Int64)))), .second, .val (.long (e0_3 q0)), .second, .val (.long (e0_1 q0 p1)), .second, .unset, .unset] [(.int ((p1 &&& (3 : Int32)) + (2 : Int32))), (.long q0)])) _
          refine XS.i2l X35.here hx rfl (hb hby at_77) rfl ?_
          show Steps p.tables e below (T35.setTop (mkF m 78 #[.val (.long q0), .second, .val (.int p1), .val (.int (p1 &&& (3 : Int32))), .val (.ref b1), .val (.long (f3 (q0 + (-7046029254386353131 : Int64)))), .second, .val (.long (e0_3 q0)), .second, .val (.long (e0_1 q0 p1)), .second, .unset, .unset] [(.long (((p1 &&& (3 : Int32)) + (2 : Int32)).toInt64)), (.long q0)])) _
          refine X35.ldc2Long hx hown (mvT hZ (hw _ (List.mem_of_getElem? (i := 19) rfl))) (g := (mkF m 78 #[.val (.long q0), .second, .val (.int p1), .val (.int (p1 &&& (3 : Int32))), .val (.ref b1), .val (.long (f3 (q0 + (-7046029254386353131 : Int64)))), .second, .val (.long (e0_3 q0)), .second, .val (.long (e0_1 q0 p1)), .second, .unset, .unset] [(.long (((p1 &&& (3 : Int32)) + (2 : Int32)).toInt64)), (.long q0)])) rfl (hb hby at_78) _ ?_
          show Steps p.tables e below (T35.setTop (mkF m 81 #[.val (.long q0), .second, .val (.int p1), .val (.int (p1 &&& (3 : Int32))), .val (.ref b1), .val (.long (f3 (q0 + (-7046029254386353131 : Int64)))), .second, .val (.long (e0_3 q0)), .second, .val (.long (e0_1 q0 p1)), .second, .unset, .unset] [(.long (-7046029254386353131 : Int64)), (.long (((p1 &&& (3 : Int32)) + (2 : Int32)).toInt64)), (.long q0)])) _
          refine XS.lmul X35.here hx rfl (hb hby at_81) rfl ?_
          show Steps p.tables e below (T35.setTop (mkF m 82 #[.val (.long q0), .second, .val (.int p1), .val (.int (p1 &&& (3 : Int32))), .val (.ref b1), .val (.long (f3 (q0 + (-7046029254386353131 : Int64)))), .second, .val (.long (e0_3 q0)), .second, .val (.long (e0_1 q0 p1)), .second, .unset, .unset] [(.long ((((p1 &&& (3 : Int32)) + (2 : Int32)).toInt64) * (-7046029254386353131 : Int64))), (.long q0)])) _
          refine XS.ladd X35.here hx rfl (hb hby at_82) rfl ?_
          show Steps p.tables e below (T35.setTop (mkF m 83 #[.val (.long q0), .second, .val (.int p1), .val (.int (p1 &&& (3 : Int32))), .val (.ref b1), .val (.long (f3 (q0 + (-7046029254386353131 : Int64)))), .second, .val (.long (e0_3 q0)), .second, .val (.long (e0_1 q0 p1)), .second, .unset, .unset] [(.long (q0 + ((((p1 &&& (3 : Int32)) + (2 : Int32)).toInt64) * (-7046029254386353131 : Int64))))])) _
          refine XS.lstore X35.here hx rfl (hb hby at_83) rfl (l' := #[.val (.long q0), .second, .val (.int p1), .val (.int (p1 &&& (3 : Int32))), .val (.ref b1), .val (.long (f3 (q0 + (-7046029254386353131 : Int64)))), .second, .val (.long (e0_3 q0)), .second, .val (.long (e0_1 q0 p1)), .second, .val (.long (e0_2 q0 p1)), .second]) rfl ?_
          show Steps p.tables e below (T35.setTop (mkF m 85 #[.val (.long q0), .second, .val (.int p1), .val (.int (p1 &&& (3 : Int32))), .val (.ref b1), .val (.long (f3 (q0 + (-7046029254386353131 : Int64)))), .second, .val (.long (e0_3 q0)), .second, .val (.long (e0_1 q0 p1)), .second, .val (.long (e0_2 q0 p1)), .second] [])) _
          refine XS.lload X35.here hx rfl (hb hby at_85) rfl ?_
          show Steps p.tables e below (T35.setTop (mkF m 87 #[.val (.long q0), .second, .val (.int p1), .val (.int (p1 &&& (3 : Int32))), .val (.ref b1), .val (.long (f3 (q0 + (-7046029254386353131 : Int64)))), .second, .val (.long (e0_3 q0)), .second, .val (.long (e0_1 q0 p1)), .second, .val (.long (e0_2 q0 p1)), .second] [(.long (f3 (q0 + (-7046029254386353131 : Int64))))])) _
          refine st38 _ ?_
          show Steps p.tables e below (T38.setTop (mkF m 90 #[.val (.long q0), .second, .val (.int p1), .val (.int (p1 &&& (3 : Int32))), .val (.ref b1), .val (.long (f3 (q0 + (-7046029254386353131 : Int64)))), .second, .val (.long (e0_3 q0)), .second, .val (.long (e0_1 q0 p1)), .second, .val (.long (e0_2 q0 p1)), .second] [(.long (f4 (f3 (q0 + (-7046029254386353131 : Int64)))))])) _
          refine XS.lload X38.here hx rfl (hb hby at_90) rfl ?_
          show Steps p.tables e below (T38.setTop (mkF m 92 #[.val (.long q0), .second, .val (.int p1), .val (.int (p1 &&& (3 : Int32))), .val (.ref b1), .val (.long (f3 (q0 + (-7046029254386353131 : Int64)))), .second, .val (.long (e0_3 q0)), .second, .val (.long (e0_1 q0 p1)), .second, .val (.long (e0_2 q0 p1)), .second] [(.long (e0_1 q0 p1)), (.long (f4 (f3 (q0 + (-7046029254386353131 : Int64)))))])) _
          refine XS.lcmp X38.here hx rfl (hb hby at_92) rfl ?_
          exact kt)
      by_cases hc93_40 : (lcmpW (f4 (f3 (q0 + (-7046029254386353131 : Int64)))) (e0_1 q0 p1)) = (0 : Int32)
      · obtain ⟨_, _, ⟨T41, L41, k41, n41⟩, -, X41, ⟨Lc41, hQ41, l41, y41, z41⟩, st41⟩ := Jvm.LawKit.callS X38 hx (y := (⟨"com/example/cistern/cistern/sampling/SplitMix64NextLongPinLaw", "unmix", "(J)J"⟩ : MethodName)) hown (mvT hZ (hw _ (List.mem_of_getElem? (i := 20) rfl))) (mvT hZ (hw _ (List.mem_of_getElem? (i := 21) rfl))) (mvT hZ (hw _ (List.mem_of_getElem? (i := 22) rfl))) (mvT hZ (hw _ (List.mem_of_getElem? (i := 23) rfl))) (by decide) (backOf (W := 0) (rm4 l Z a0 hw [] (e0_3 q0) T35.heap n0 Z37 ) hZ (hw _ (List.mem_of_getElem? (i := 23) rfl)) (hw _ (List.mem_of_getElem? (i := 22) rfl)) (by decide) (by decide)) (g := (mkF m 98 #[.val (.long q0), .second, .val (.int p1), .val (.int (p1 &&& (3 : Int32))), .val (.ref b1), .val (.long (f3 (q0 + (-7046029254386353131 : Int64)))), .second, .val (.long (e0_3 q0)), .second, .val (.long (e0_1 q0 p1)), .second, .val (.long (e0_2 q0 p1)), .second] [(.long (e0_3 q0))])) rfl (by rw [hml]; rfl) (argsL := [(.long (e0_3 q0))]) (rest := []) (lenOf pd_0_2 rfl) rfl (by show 2 * 0 + _ ≤ _; exact Nat.le_of_eq rfl) (hb hby at_98) (fun _ _ => ⟨rfl, e38q, (by decide : 1 + 0 ≤ _), (by decide : 1 + 0 ≤ _)⟩)
        dsimp only [Pt.U, Pt.locs, Pt.cells, Pt.slots] at X41 l41 y41 z41 st41 hQ41
        subst l41 y41 z41
        obtain ⟨rfl, N41q, e41q⟩ := hQ41
        have N41 := Fr.app N38 N41q
        have pre42 : ∀ t, Steps p.tables e below (T41.setTop (mkF m 104 #[.val (.long q0), .second, .val (.int p1), .val (.int (p1 &&& (3 : Int32))), .val (.ref b1), .val (.long (f3 (q0 + (-7046029254386353131 : Int64)))), .second, .val (.long (e0_3 q0)), .second, .val (.long (e0_1 q0 p1)), .second, .val (.long (e0_2 q0 p1)), .second] [(.int (lcmpW (f4 (e0_3 q0)) (e0_2 q0 p1)))])) t → Steps p.tables e below (s₁.setTop (entryFrame m #[(.long q0), (.int p1)] maxLocals)) t := fun t kt => pre39 t (by
            show Steps p.tables e below (T38.setTop (mkF m 93 #[.val (.long q0), .second, .val (.int p1), .val (.int (p1 &&& (3 : Int32))), .val (.ref b1), .val (.long (f3 (q0 + (-7046029254386353131 : Int64)))), .second, .val (.long (e0_3 q0)), .second, .val (.long (e0_1 q0 p1)), .second, .val (.long (e0_2 q0 p1)), .second] [(.int (lcmpW (f4 (f3 (q0 + (-7046029254386353131 : Int64)))) (e0_1 q0 p1)))])) _
            refine XS.ifNo X38.here hx rfl (hb hby at_93) rfl ((if0 _ _).trans (teq hc93_40).2) ?_
            show Steps p.tables e below (T38.setTop (mkF m 96 #[.val (.long q0), .second, .val (.int p1), .val (.int (p1 &&& (3 : Int32))), .val (.ref b1), .val (.long (f3 (q0 + (-7046029254386353131 : Int64)))), .second, .val (.long (e0_3 q0)), .second, .val (.long (e0_1 q0 p1)), .second, .val (.long (e0_2 q0 p1)), .second] [])) _
            refine XS.lload X38.here hx rfl (hb hby at_96) rfl ?_
            show Steps p.tables e below (T38.setTop (mkF m 98 #[.val (.long q0), .second, .val (.int p1), .val (.int (p1 &&& (3 : Int32))), .val (.ref b1), .val (.long (f3 (q0 + (-7046029254386353131 : Int64)))), .second, .val (.long (e0_3 q0)), .second, .val (.long (e0_1 q0 p1)), .second, .val (.long (e0_2 q0 p1)), .second] [(.long (e0_3 q0))])) _
            refine st41 _ ?_
            show Steps p.tables e below (T41.setTop (mkF m 101 #[.val (.long q0), .second, .val (.int p1), .val (.int (p1 &&& (3 : Int32))), .val (.ref b1), .val (.long (f3 (q0 + (-7046029254386353131 : Int64)))), .second, .val (.long (e0_3 q0)), .second, .val (.long (e0_1 q0 p1)), .second, .val (.long (e0_2 q0 p1)), .second] [(.long (f4 (e0_3 q0)))])) _
            refine XS.lload X41.here hx rfl (hb hby at_101) rfl ?_
            show Steps p.tables e below (T41.setTop (mkF m 103 #[.val (.long q0), .second, .val (.int p1), .val (.int (p1 &&& (3 : Int32))), .val (.ref b1), .val (.long (f3 (q0 + (-7046029254386353131 : Int64)))), .second, .val (.long (e0_3 q0)), .second, .val (.long (e0_1 q0 p1)), .second, .val (.long (e0_2 q0 p1)), .second] [(.long (e0_2 q0 p1)), (.long (f4 (e0_3 q0)))])) _
            refine XS.lcmp X41.here hx rfl (hb hby at_103) rfl ?_
            exact kt)
        by_cases hc104_43 : (lcmpW (f4 (e0_3 q0)) (e0_2 q0 p1)) = (0 : Int32)
        · obtain ⟨fs, hr, hrun, hended, hW, hsame⟩ := X41.leave (v := some (.int (1 : Int32))) (fun h => by rw [Bd.returns] at h; cases h)
          have hv80 : (f0 q0 p1) = (1 : Int32) := by rw [f0, if_neg hc16_8, if_pos hc27_29, if_pos hc93_40, if_pos hc104_43]
          refine ⟨_, _, pre42 _ ?_, hrun, hended, _, _, rfl, ?_, ⟨_, rfl⟩, hW, hsame.mono (by decide) (by decide)⟩
          · show Steps p.tables e below (T41.setTop (mkF m 104 #[.val (.long q0), .second, .val (.int p1), .val (.int (p1 &&& (3 : Int32))), .val (.ref b1), .val (.long (f3 (q0 + (-7046029254386353131 : Int64)))), .second, .val (.long (e0_3 q0)), .second, .val (.long (e0_1 q0 p1)), .second, .val (.long (e0_2 q0 p1)), .second] [(.int (lcmpW (f4 (e0_3 q0)) (e0_2 q0 p1)))])) _
            refine XS.ifNo X41.here hx rfl (hb hby at_104) rfl ((if0 _ _).trans (teq hc104_43).2) ?_
            show Steps p.tables e below (T41.setTop (mkF m 107 #[.val (.long q0), .second, .val (.int p1), .val (.int (p1 &&& (3 : Int32))), .val (.ref b1), .val (.long (f3 (q0 + (-7046029254386353131 : Int64)))), .second, .val (.long (e0_3 q0)), .second, .val (.long (e0_1 q0 p1)), .second, .val (.long (e0_2 q0 p1)), .second] [])) _
            refine XS.iconst X41.here hx rfl (hb hby at_107) ?_
            show Steps p.tables e below (T41.setTop (mkF m 108 #[.val (.long q0), .second, .val (.int p1), .val (.int (p1 &&& (3 : Int32))), .val (.ref b1), .val (.long (f3 (q0 + (-7046029254386353131 : Int64)))), .second, .val (.long (e0_3 q0)), .second, .val (.long (e0_1 q0 p1)), .second, .val (.long (e0_2 q0 p1)), .second] [(.int (1 : Int32))])) _
            refine XS.goto X41.here hx rfl (pc0 := 108) (pc' := 112) rfl (hb hby at_108) (by decide) (by decide) ?_
            show Steps p.tables e below (T41.setTop (mkF m 112 #[.val (.long q0), .second, .val (.int p1), .val (.int (p1 &&& (3 : Int32))), .val (.ref b1), .val (.long (f3 (q0 + (-7046029254386353131 : Int64)))), .second, .val (.long (e0_3 q0)), .second, .val (.long (e0_1 q0 p1)), .second, .val (.long (e0_2 q0 p1)), .second] [(.int (1 : Int32))])) _
            exact retN X41 hx (t := .boolean) Bd.returns (by simp) (hb hby at_112) hr
          · show Q0 Z q0 p1 h0 n0 _ T41.heap _
            rw [e41q]
            exact ⟨congrArg (fun q => some (Value.int q)) hv80.symm, N41⟩
        · obtain ⟨fs, hr, hrun, hended, hW, hsame⟩ := X41.leave (v := some (.int (0 : Int32))) (fun h => by rw [Bd.returns] at h; cases h)
          have hv81 : (f0 q0 p1) = (0 : Int32) := by rw [f0, if_neg hc16_8, if_pos hc27_29, if_pos hc93_40, if_neg hc104_43]
          refine ⟨_, _, pre42 _ ?_, hrun, hended, _, _, rfl, ?_, ⟨_, rfl⟩, hW, hsame.mono (by decide) (by decide)⟩
          · show Steps p.tables e below (T41.setTop (mkF m 104 #[.val (.long q0), .second, .val (.int p1), .val (.int (p1 &&& (3 : Int32))), .val (.ref b1), .val (.long (f3 (q0 + (-7046029254386353131 : Int64)))), .second, .val (.long (e0_3 q0)), .second, .val (.long (e0_1 q0 p1)), .second, .val (.long (e0_2 q0 p1)), .second] [(.int (lcmpW (f4 (e0_3 q0)) (e0_2 q0 p1)))])) _
            refine XS.ifYes X41.here hx rfl (pc0 := 104) (pc' := 111) rfl (hb hby at_104) rfl ((if0 _ _).trans (feq hc104_43).2) (by decide) (by decide) ?_
            show Steps p.tables e below (T41.setTop (mkF m 111 #[.val (.long q0), .second, .val (.int p1), .val (.int (p1 &&& (3 : Int32))), .val (.ref b1), .val (.long (f3 (q0 + (-7046029254386353131 : Int64)))), .second, .val (.long (e0_3 q0)), .second, .val (.long (e0_1 q0 p1)), .second, .val (.long (e0_2 q0 p1)), .second] [])) _
            refine XS.iconst X41.here hx rfl (hb hby at_111) ?_
            show Steps p.tables e below (T41.setTop (mkF m 112 #[.val (.long q0), .second, .val (.int p1), .val (.int (p1 &&& (3 : Int32))), .val (.ref b1), .val (.long (f3 (q0 + (-7046029254386353131 : Int64)))), .second, .val (.long (e0_3 q0)), .second, .val (.long (e0_1 q0 p1)), .second, .val (.long (e0_2 q0 p1)), .second] [(.int (0 : Int32))])) _
            exact retN X41 hx (t := .boolean) Bd.returns (by simp) (hb hby at_112) hr
          · show Q0 Z q0 p1 h0 n0 _ T41.heap _
            rw [e41q]
            exact ⟨congrArg (fun q => some (Value.int q)) hv81.symm, N41⟩
      · obtain ⟨fs, hr, hrun, hended, hW, hsame⟩ := X38.leave (v := some (.int (0 : Int32))) (fun h => by rw [Bd.returns] at h; cases h)
        have hv82 : (f0 q0 p1) = (0 : Int32) := by rw [f0, if_neg hc16_8, if_pos hc27_29, if_neg hc93_40]
        refine ⟨_, _, pre39 _ ?_, hrun, hended, _, _, rfl, ?_, ⟨_, rfl⟩, hW, hsame.mono (by decide) (by decide)⟩
        · show Steps p.tables e below (T38.setTop (mkF m 93 #[.val (.long q0), .second, .val (.int p1), .val (.int (p1 &&& (3 : Int32))), .val (.ref b1), .val (.long (f3 (q0 + (-7046029254386353131 : Int64)))), .second, .val (.long (e0_3 q0)), .second, .val (.long (e0_1 q0 p1)), .second, .val (.long (e0_2 q0 p1)), .second] [(.int (lcmpW (f4 (f3 (q0 + (-7046029254386353131 : Int64)))) (e0_1 q0 p1)))])) _
          refine XS.ifYes X38.here hx rfl (pc0 := 93) (pc' := 111) rfl (hb hby at_93) rfl ((if0 _ _).trans (feq hc93_40).2) (by decide) (by decide) ?_
          show Steps p.tables e below (T38.setTop (mkF m 111 #[.val (.long q0), .second, .val (.int p1), .val (.int (p1 &&& (3 : Int32))), .val (.ref b1), .val (.long (f3 (q0 + (-7046029254386353131 : Int64)))), .second, .val (.long (e0_3 q0)), .second, .val (.long (e0_1 q0 p1)), .second, .val (.long (e0_2 q0 p1)), .second] [])) _
          refine XS.iconst X38.here hx rfl (hb hby at_111) ?_
          show Steps p.tables e below (T38.setTop (mkF m 112 #[.val (.long q0), .second, .val (.int p1), .val (.int (p1 &&& (3 : Int32))), .val (.ref b1), .val (.long (f3 (q0 + (-7046029254386353131 : Int64)))), .second, .val (.long (e0_3 q0)), .second, .val (.long (e0_1 q0 p1)), .second, .val (.long (e0_2 q0 p1)), .second] [(.int (0 : Int32))])) _
          exact retN X38 hx (t := .boolean) Bd.returns (by simp) (hb hby at_112) hr
        · show Q0 Z q0 p1 h0 n0 _ T38.heap _
          rw [e38q]
          exact ⟨congrArg (fun q => some (Value.int q)) hv82.symm, N38⟩
    · obtain ⟨cq44, kq44, q44a, q44b, q44c⟩ := isOf hZ rfl ((E_b1.keep K4q).keep K25q)
      obtain ⟨_, _, ⟨T44, L44, k44, n44⟩, -, X44, ⟨Lc44, hQ44, l44, y44, z44⟩, st44⟩ := X25.virtualBack hx (y := (⟨"com/example/cistern/cistern/sampling/SplitMix64", "nextLong", "()J"⟩ : MethodName)) (z := (⟨"com/example/cistern/cistern/sampling/SplitMix64", "nextLong", "()J"⟩ : MethodName)) hown (mvT hZ (hw _ (List.mem_of_getElem? (i := 11) rfl))) (mvT hZ (hw _ (List.mem_of_getElem? (i := 12) rfl))) (notFace_of_selects (args := #[]) (mvT hZ (hw _ (List.mem_of_getElem? (i := 14) rfl)))) (mvT hZ (hw _ (List.mem_of_getElem? (i := 14) rfl))) (mvT hZ (hw _ (List.mem_of_getElem? (i := 13) rfl))) (by decide) (backOf (W := 0) (rm3 l Z a0 hw [] b1 (q0 + (-7046029254386353131 : Int64)) T25.heap n0 Z27 G25_0 ((E_b1.keep K4q).keep K25q) g_b1) hZ (hw _ (List.mem_of_getElem? (i := 15) rfl)) (hw _ (List.mem_of_getElem? (i := 2) rfl)) (by decide) (by decide)) q44a q44c (g := (mkF m 32 #[.val (.long q0), .second, .val (.int p1), .val (.int (p1 &&& (3 : Int32))), .val (.ref b1), .unset, .unset, .unset, .unset, .unset, .unset, .unset, .unset] [(.ref b1)])) rfl (by rw [hml]; rfl) (Steps.refl _) (argsL := []) (rest := []) (lenOf pd_0_1 rfl) rfl (by show 2 * 0 + _ ≤ _; exact Nat.le_of_eq rfl) (hb hby at_32) (fun _ _ => ⟨rfl, rfl, (by decide : 1 + 0 ≤ _), (by decide : 1 + 0 ≤ _)⟩)
      dsimp only [Pt.U, Pt.locs, Pt.cells, Pt.slots] at X44 l44 y44 z44 st44 hQ44
      subst l44 y44 z44
      obtain ⟨rfl, N44q, K44q, G44_0⟩ := hQ44
      have N44 := Fr.app N25 N44q
      have K45 : Keep h0 T44.heap [] := K26.trans K44q (allS (Or.inr sz_b1) all0)
      have Z46 : n0 ≤ T44.heap.size := Nat.le_trans Z0 K45.1
      obtain ⟨LS44, X44, N44⟩ : ∃ L, Stand p l e room_1 s m #[(.long q0), (.int p1)] below meth c T44 L 1 1 ∧ Fr n0 L := ⟨_, X44, N44⟩
      have pre47 : ∀ t, Steps p.tables e below (T44.setTop (mkF m 38 #[.val (.long q0), .second, .val (.int p1), .val (.int (p1 &&& (3 : Int32))), .val (.ref b1), .unset, .unset, .unset, .unset, .unset, .unset, .unset, .unset] [(.int (3 : Int32)), (.int (p1 &&& (3 : Int32)))])) t → Steps p.tables e below (s₁.setTop (entryFrame m #[(.long q0), (.int p1)] maxLocals)) t := fun t kt => pre28 t (by
          show Steps p.tables e below (T25.setTop (mkF m 27 #[.val (.long q0), .second, .val (.int p1), .val (.int (p1 &&& (3 : Int32))), .val (.ref b1), .unset, .unset, .unset, .unset, .unset, .unset, .unset, .unset] [(.int (2 : Int32)), (.int (p1 &&& (3 : Int32)))])) _
          refine XS.icmpNo X25.here hx rfl (hb hby at_27) rfl (flt hc27_29).1 ?_
          show Steps p.tables e below (T25.setTop (mkF m 30 #[.val (.long q0), .second, .val (.int p1), .val (.int (p1 &&& (3 : Int32))), .val (.ref b1), .unset, .unset, .unset, .unset, .unset, .unset, .unset, .unset] [])) _
          refine XS.aload X25.here hx rfl (hb hby at_30) rfl rfl ?_
          show Steps p.tables e below (T25.setTop (mkF m 32 #[.val (.long q0), .second, .val (.int p1), .val (.int (p1 &&& (3 : Int32))), .val (.ref b1), .unset, .unset, .unset, .unset, .unset, .unset, .unset, .unset] [(.ref b1)])) _
          refine st44.trans ?_
          show Steps p.tables e below (T44.setTop (mkF m 35 #[.val (.long q0), .second, .val (.int p1), .val (.int (p1 &&& (3 : Int32))), .val (.ref b1), .unset, .unset, .unset, .unset, .unset, .unset, .unset, .unset] [(.long (f3 (q0 + (-7046029254386353131 : Int64))))])) _
          jvm_step X44.here [X44.here.top, hx, (hb hby at_35), Value.category]
          show Steps p.tables e below (T44.setTop (mkF m 36 #[.val (.long q0), .second, .val (.int p1), .val (.int (p1 &&& (3 : Int32))), .val (.ref b1), .unset, .unset, .unset, .unset, .unset, .unset, .unset, .unset] [])) _
          refine XS.iloadN X44.here hx rfl (hb hby at_36) rfl ?_
          show Steps p.tables e below (T44.setTop (mkF m 37 #[.val (.long q0), .second, .val (.int p1), .val (.int (p1 &&& (3 : Int32))), .val (.ref b1), .unset, .unset, .unset, .unset, .unset, .unset, .unset, .unset] [(.int (p1 &&& (3 : Int32)))])) _
          refine XS.iconst X44.here hx rfl (hb hby at_37) ?_
          exact kt)
      by_cases hc38_48 : (p1 &&& (3 : Int32)) < (3 : Int32)
      · obtain ⟨cq49, kq49, q49a, q49b, q49c⟩ := isOf hZ rfl (((E_b1.keep K4q).keep K25q).keep K44q)
        obtain ⟨_, _, ⟨T49, L49, k49, n49⟩, -, X49, ⟨Lc49, hQ49, l49, y49, z49⟩, st49⟩ := X44.virtualBack hx (y := (⟨"com/example/cistern/cistern/sampling/SplitMix64", "nextLong", "()J"⟩ : MethodName)) (z := (⟨"com/example/cistern/cistern/sampling/SplitMix64", "nextLong", "()J"⟩ : MethodName)) hown (mvT hZ (hw _ (List.mem_of_getElem? (i := 11) rfl))) (mvT hZ (hw _ (List.mem_of_getElem? (i := 12) rfl))) (notFace_of_selects (args := #[]) (mvT hZ (hw _ (List.mem_of_getElem? (i := 14) rfl)))) (mvT hZ (hw _ (List.mem_of_getElem? (i := 14) rfl))) (mvT hZ (hw _ (List.mem_of_getElem? (i := 13) rfl))) (by decide) (backOf (W := 0) (rm3 l Z a0 hw [] b1 ((q0 + (-7046029254386353131 : Int64)) + (-7046029254386353131 : Int64)) T44.heap n0 Z46 G44_0 (((E_b1.keep K4q).keep K25q).keep K44q) g_b1) hZ (hw _ (List.mem_of_getElem? (i := 15) rfl)) (hw _ (List.mem_of_getElem? (i := 2) rfl)) (by decide) (by decide)) q49a q49c (g := (mkF m 49 #[.val (.long q0), .second, .val (.int p1), .val (.int (p1 &&& (3 : Int32))), .val (.ref b1), .unset, .unset, .unset, .unset, .unset, .unset, .unset, .unset] [(.ref b1)])) rfl (by rw [hml]; rfl) (Steps.refl _) (argsL := []) (rest := []) (lenOf pd_0_1 rfl) rfl (by show 2 * 0 + _ ≤ _; exact Nat.le_of_eq rfl) (hb hby at_49) (fun _ _ => ⟨rfl, rfl, (by decide : 1 + 0 ≤ _), (by decide : 1 + 0 ≤ _)⟩)
        dsimp only [Pt.U, Pt.locs, Pt.cells, Pt.slots] at X49 l49 y49 z49 st49 hQ49
        subst l49 y49 z49
        obtain ⟨rfl, N49q, K49q, G49_0⟩ := hQ49
        have N49 := Fr.app N44 N49q
        have K50 : Keep h0 T49.heap [] := K45.trans K49q (allS (Or.inr sz_b1) all0)
        have Z51 : n0 ≤ T49.heap.size := Nat.le_trans Z0 K50.1
        obtain ⟨LS49, X49, N49⟩ : ∃ L, Stand p l e room_1 s m #[(.long q0), (.int p1)] below meth c T49 L 1 1 ∧ Fr n0 L := ⟨_, X49, N49⟩
        obtain ⟨cq52, kq52, q52a, q52b, q52c⟩ := isOf hZ rfl ((((E_b1.keep K4q).keep K25q).keep K44q).keep K49q)
        obtain ⟨_, _, ⟨T52, L52, k52, n52⟩, -, X52, ⟨Lc52, hQ52, l52, y52, z52⟩, st52⟩ := X49.virtualBack hx (y := (⟨"com/example/cistern/cistern/sampling/SplitMix64", "nextLong", "()J"⟩ : MethodName)) (z := (⟨"com/example/cistern/cistern/sampling/SplitMix64", "nextLong", "()J"⟩ : MethodName)) hown (mvT hZ (hw _ (List.mem_of_getElem? (i := 11) rfl))) (mvT hZ (hw _ (List.mem_of_getElem? (i := 12) rfl))) (notFace_of_selects (args := #[]) (mvT hZ (hw _ (List.mem_of_getElem? (i := 14) rfl)))) (mvT hZ (hw _ (List.mem_of_getElem? (i := 14) rfl))) (mvT hZ (hw _ (List.mem_of_getElem? (i := 13) rfl))) (by decide) (backOf (W := 0) (rm3 l Z a0 hw [] b1 (((q0 + (-7046029254386353131 : Int64)) + (-7046029254386353131 : Int64)) + (-7046029254386353131 : Int64)) T49.heap n0 Z51 G49_0 ((((E_b1.keep K4q).keep K25q).keep K44q).keep K49q) g_b1) hZ (hw _ (List.mem_of_getElem? (i := 15) rfl)) (hw _ (List.mem_of_getElem? (i := 2) rfl)) (by decide) (by decide)) q52a q52c (g := (mkF m 56 #[.val (.long q0), .second, .val (.int p1), .val (.int (p1 &&& (3 : Int32))), .val (.ref b1), .val (.long (e0_3 q0)), .second, .unset, .unset, .unset, .unset, .unset, .unset] [(.ref b1)])) rfl (by rw [hml]; rfl) (Steps.refl _) (argsL := []) (rest := []) (lenOf pd_0_1 rfl) rfl (by show 2 * 0 + _ ≤ _; exact Nat.le_of_eq rfl) (hb hby at_56) (fun _ _ => ⟨rfl, rfl, (by decide : 1 + 0 ≤ _), (by decide : 1 + 0 ≤ _)⟩)
        dsimp only [Pt.U, Pt.locs, Pt.cells, Pt.slots] at X52 l52 y52 z52 st52 hQ52
        subst l52 y52 z52
        obtain ⟨rfl, N52q, K52q, G52_0⟩ := hQ52
        have N52 := Fr.app N49 N52q
        have K53 : Keep h0 T52.heap [] := K50.trans K52q (allS (Or.inr sz_b1) all0)
        have Z54 : n0 ≤ T52.heap.size := Nat.le_trans Z0 K53.1
        obtain ⟨LS52, X52, N52⟩ : ∃ L, Stand p l e room_1 s m #[(.long q0), (.int p1)] below meth c T52 L 1 1 ∧ Fr n0 L := ⟨_, X52, N52⟩
        obtain ⟨_, _, ⟨T55, L55, k55, n55⟩, -, X55, ⟨Lc55, hQ55, l55, y55, z55⟩, st55⟩ := Jvm.LawKit.callS X52 hx (y := (⟨"com/example/cistern/cistern/sampling/SplitMix64NextLongPinLaw", "unmix", "(J)J"⟩ : MethodName)) hown (mvT hZ (hw _ (List.mem_of_getElem? (i := 20) rfl))) (mvT hZ (hw _ (List.mem_of_getElem? (i := 21) rfl))) (mvT hZ (hw _ (List.mem_of_getElem? (i := 22) rfl))) (mvT hZ (hw _ (List.mem_of_getElem? (i := 23) rfl))) (by decide) (backOf (W := 0) (rm4 l Z a0 hw [] (e0_3 q0) T52.heap n0 Z54 ) hZ (hw _ (List.mem_of_getElem? (i := 23) rfl)) (hw _ (List.mem_of_getElem? (i := 22) rfl)) (by decide) (by decide)) (g := (mkF m 87 #[.val (.long q0), .second, .val (.int p1), .val (.int (p1 &&& (3 : Int32))), .val (.ref b1), .val (.long (e0_3 q0)), .second, .val (.long (e0_4 q0)), .second, .val (.long (e0_1 q0 p1)), .second, .val (.long (e0_2 q0 p1)), .second] [(.long (e0_3 q0))])) rfl (by rw [hml]; rfl) (argsL := [(.long (e0_3 q0))]) (rest := []) (lenOf pd_0_2 rfl) rfl (by show 2 * 0 + _ ≤ _; exact Nat.le_of_eq rfl) (hb hby at_87) (fun _ _ => ⟨rfl, rfl, (by decide : 1 + 0 ≤ _), (by decide : 1 + 0 ≤ _)⟩)
        dsimp only [Pt.U, Pt.locs, Pt.cells, Pt.slots] at X55 l55 y55 z55 st55 hQ55
        subst l55 y55 z55
        obtain ⟨rfl, N55q, e55q⟩ := hQ55
        have N55 := Fr.app N52 N55q
        have pre56 : ∀ t, Steps p.tables e below (T55.setTop (mkF m 93 #[.val (.long q0), .second, .val (.int p1), .val (.int (p1 &&& (3 : Int32))), .val (.ref b1), .val (.long (e0_3 q0)), .second, .val (.long (e0_4 q0)), .second, .val (.long (e0_1 q0 p1)), .second, .val (.long (e0_2 q0 p1)), .second] [(.int (lcmpW (f4 (e0_3 q0)) (e0_1 q0 p1)))])) t → Steps p.tables e below (s₁.setTop (entryFrame m #[(.long q0), (.int p1)] maxLocals)) t := fun t kt => pre47 t (by
            show Steps p.tables e below (T44.setTop (mkF m 38 #[.val (.long q0), .second, .val (.int p1), .val (.int (p1 &&& (3 : Int32))), .val (.ref b1), .unset, .unset, .unset, .unset, .unset, .unset, .unset, .unset] [(.int (3 : Int32)), (.int (p1 &&& (3 : Int32)))])) _
            refine XS.icmpYes X44.here hx rfl (pc0 := 38) (pc' := 47) rfl (hb hby at_38) rfl (tlt hc38_48).1 (by decide) (by decide) ?_
            show Steps p.tables e below (T44.setTop (mkF m 47 #[.val (.long q0), .second, .val (.int p1), .val (.int (p1 &&& (3 : Int32))), .val (.ref b1), .unset, .unset, .unset, .unset, .unset, .unset, .unset, .unset] [])) _
            refine XS.aload X44.here hx rfl (hb hby at_47) rfl rfl ?_
            show Steps p.tables e below (T44.setTop (mkF m 49 #[.val (.long q0), .second, .val (.int p1), .val (.int (p1 &&& (3 : Int32))), .val (.ref b1), .unset, .unset, .unset, .unset, .unset, .unset, .unset, .unset] [(.ref b1)])) _
            refine st49.trans ?_
            show Steps p.tables e below (T49.setTop (mkF m 52 #[.val (.long q0), .second, .val (.int p1), .val (.int (p1 &&& (3 : Int32))), .val (.ref b1), .unset, .unset, .unset, .unset, .unset, .unset, .unset, .unset] [(.long (f3 ((q0 + (-7046029254386353131 : Int64)) + (-7046029254386353131 : Int64))))])) _
            refine XS.lstore X49.here hx rfl (hb hby at_52) rfl (l' := #[.val (.long q0), .second, .val (.int p1), .val (.int (p1 &&& (3 : Int32))), .val (.ref b1), .val (.long (e0_3 q0)), .second, .unset, .unset, .unset, .unset, .unset, .unset]) rfl ?_
            show Steps p.tables e below (T49.setTop (mkF m 54 #[.val (.long q0), .second, .val (.int p1), .val (.int (p1 &&& (3 : Int32))), .val (.ref b1), .val (.long (e0_3 q0)), .second, .unset, .unset, .unset, .unset, .unset, .unset] [])) _
            refine XS.aload X49.here hx rfl (hb hby at_54) rfl rfl ?_
            show Steps p.tables e below (T49.setTop (mkF m 56 #[.val (.long q0), .second, .val (.int p1), .val (.int (p1 &&& (3 : Int32))), .val (.ref b1), .val (.long (e0_3 q0)), .second, .unset, .unset, .unset, .unset, .unset, .unset] [(.ref b1)])) _
            refine st52.trans ?_
            show Steps p.tables e below (T52.setTop (mkF m 59 #[.val (.long q0), .second, .val (.int p1), .val (.int (p1 &&& (3 : Int32))), .val (.ref b1), .val (.long (e0_3 q0)), .second, .unset, .unset, .unset, .unset, .unset, .unset] [(.long (f3 (((q0 + (-7046029254386353131 : Int64)) + (-7046029254386353131 : Int64)) + (-7046029254386353131 : Int64))))])) _
            refine XS.lstore X52.here hx rfl (hb hby at_59) rfl (l' := #[.val (.long q0), .second, .val (.int p1), .val (.int (p1 &&& (3 : Int32))), .val (.ref b1), .val (.long (e0_3 q0)), .second, .val (.long (e0_4 q0)), .second, .unset, .unset, .unset, .unset]) rfl ?_
            show Steps p.tables e below (T52.setTop (mkF m 61 #[.val (.long q0), .second, .val (.int p1), .val (.int (p1 &&& (3 : Int32))), .val (.ref b1), .val (.long (e0_3 q0)), .second, .val (.long (e0_4 q0)), .second, .unset, .unset, .unset, .unset] [])) _
            refine XS.lloadN X52.here hx rfl (hb hby at_61) rfl ?_
            show Steps p.tables e below (T52.setTop (mkF m 62 #[.val (.long q0), .second, .val (.int p1), .val (.int (p1 &&& (3 : Int32))), .val (.ref b1), .val (.long (e0_3 q0)), .second, .val (.long (e0_4 q0)), .second, .unset, .unset, .unset, .unset] [(.long q0)])) _
            refine XS.iloadN X52.here hx rfl (hb hby at_62) rfl ?_
            show Steps p.tables e below (T52.setTop (mkF m 63 #[.val (.long q0), .second, .val (.int p1), .val (.int (p1 &&& (3 : Int32))), .val (.ref b1), .val (.long (e0_3 q0)), .second, .val (.long (e0_4 q0)), .second, .unset, .unset, .unset, .unset] [(.int (p1 &&& (3 : Int32))), (.long q0)])) _
            refine XS.iconst X52.here hx rfl (hb hby at_63) ?_
            show Steps p.tables e below (T52.setTop (mkF m 64 #[.val (.long q0), .second, .val (.int p1), .val (.int (p1 &&& (3 : Int32))), .val (.ref b1), .val (.long (e0_3 q0)), .second, .val (.long (e0_4 q0)), .second, .unset, .unset, .unset, .unset] [(.int (1 : Int32)), (.int (p1 &&& (3 : Int32))), (.long q0)])) _
            refine XS.iadd X52.here hx rfl (hb hby at_64) rfl ?_
            show Steps p.tables e below (T52.setTop (mkF m 65 #[.val (.long q0), .second, .val (.int p1), .val (.int (p1 &&& (3 : Int32))), .val (.ref b1), .val (.long (e0_3 q0)), .second, .val (.long (e0_4 q0)), .second, .unset, .unset, .unset, .unset] [(.int ((p1 &&& (3 : Int32)) + (1 : Int32))), (.long q0)])) _
            refine XS.i2l X52.here hx rfl (hb hby at_65) rfl ?_
            show Steps p.tables e below (T52.setTop (mkF m 66 #[.val (.long q0), .second, .val (.int p1), .val (.int (p1 &&& (3 : Int32))), .val (.ref b1), .val (.long (e0_3 q0)), .second, .val (.long (e0_4 q0)), .second, .unset, .unset, .unset, .unset] [(.long (((p1 &&& (3 : Int32)) + (1 : Int32)).toInt64)), (.long q0)])) _
            refine X52.ldc2Long hx hown (mvT hZ (hw _ (List.mem_of_getElem? (i := 19) rfl))) (g := (mkF m 66 #[.val (.long q0), .second, .val (.int p1), .val (.int (p1 &&& (3 : Int32))), .val (.ref b1), .val (.long (e0_3 q0)), .second, .val (.long (e0_4 q0)), .second, .unset, .unset, .unset, .unset] [(.long (((p1 &&& (3 : Int32)) + (1 : Int32)).toInt64)), (.long q0)])) rfl (hb hby at_66) _ ?_
            show Steps p.tables e below (T52.setTop (mkF m 69 #[.val (.long q0), .second, .val (.int p1), .val (.int (p1 &&& (3 : Int32))), .val (.ref b1), .val (.long (e0_3 q0)), .second, .val (.long (e0_4 q0)), .second, .unset, .unset, .unset, .unset] [(.long (-7046029254386353131 : Int64)), (.long (((p1 &&& (3 : Int32)) + (1 : Int32)).toInt64)), (.long q0)])) _
            refine XS.lmul X52.here hx rfl (hb hby at_69) rfl ?_
            show Steps p.tables e below (T52.setTop (mkF m 70 #[.val (.long q0), .second, .val (.int p1), .val (.int (p1 &&& (3 : Int32))), .val (.ref b1), .val (.long (e0_3 q0)), .second, .val (.long (e0_4 q0)), .second, .unset, .unset, .unset, .unset] [(.long ((((p1 &&& (3 : Int32)) + (1 : Int32)).toInt64) * (-7046029254386353131 : Int64))), (.long q0)])) _
            refine XS.ladd X52.here hx rfl (hb hby at_70) rfl ?_
            show Steps p.tables e below (T52.setTop (mkF m 71 #[.val (.long q0), .second, .val (.int p1), .val (.int (p1 &&& (3 : Int32))), .val (.ref b1), .val (.long (e0_3 q0)), .second, .val (.long (e0_4 q0)), .second, .unset, .unset, .unset, .unset] [(.long (q0 + ((((p1 &&& (3 : Int32)) + (1 : Int32)).toInt64) * (-7046029254386353131 : Int64))))])) _
            refine XS.lstore X52.here hx rfl (hb hby at_71) rfl (l' := #[.val (.long q0), .second, .val (.int p1), .val (.int (p1 &&& (3 : Int32))), .val (.ref b1), .val (.long (e0_3 q0)), .second, .val (.long (e0_4 q0)), .second, .val (.long (e0_1 q0 p1)), .second, .unset, .unset]) rfl ?_
            show Steps p.tables e below (T52.setTop (mkF m 73 #[.val (.long q0), .second, .val (.int p1), .val (.int (p1 &&& (3 : Int32))), .val (.ref b1), .val (.long (e0_3 q0)), .second, .val (.long (e0_4 q0)), .second, .val (.long (e0_1 q0 p1)), .second, .unset, .unset] [])) _
            refine XS.lloadN X52.here hx rfl (hb hby at_73) rfl ?_
            show Steps p.tables e below (T52.setTop (mkF m 74 #[.val (.long q0), .second, .val (.int p1), .val (.int (p1 &&& (3 : Int32))), .val (.ref b1), .val (.long (e0_3 q0)), .second, .val (.long (e0_4 q0)), .second, .val (.long (e0_1 q0 p1)), .second, .unset, .unset] [(.long q0)])) _
            refine XS.iloadN X52.here hx rfl (hb hby at_74) rfl ?_
            show Steps p.tables e below (T52.setTop (mkF m 75 #[.val (.long q0), .second, .val (.int p1), .val (.int (p1 &&& (3 : Int32))), .val (.ref b1), .val (.long (e0_3 q0)), .second, .val (.long (e0_4 q0)), .second, .val (.long (e0_1 q0 p1)), .second, .unset, .unset] [(.int (p1 &&& (3 : Int32))), (.long q0)])) _
            refine XS.iconst X52.here hx rfl (hb hby at_75) ?_
            show Steps p.tables e below (T52.setTop (mkF m 76 #[.val (.long q0), .second, .val (.int p1), .val (.int (p1 &&& (3 : Int32))), .val (.ref b1), .val (.long (e0_3 q0)), .second, .val (.long (e0_4 q0)), .second, .val (.long (e0_1 q0 p1)), .second, .unset, .unset] [(.int (2 : Int32)), (.int (p1 &&& (3 : Int32))), (.long q0)])) _
            refine XS.iadd X52.here hx rfl (hb hby at_76) rfl ?_
            show Steps p.tables e below (T52.setTop (mkF m 77 #[.val (.long q0), .second, .val (.int p1), .val (.int (p1 &&& (3 : Int32))), .val (.ref b1), .val (.long (e0_3 q0)), .second, .val (.long (e0_4 q0)), .second, .val (.long (e0_1 q0 p1)), .second, .unset, .unset] [(.int ((p1 &&& (3 : Int32)) + (2 : Int32))), (.long q0)])) _
            refine XS.i2l X52.here hx rfl (hb hby at_77) rfl ?_
            show Steps p.tables e below (T52.setTop (mkF m 78 #[.val (.long q0), .second, .val (.int p1), .val (.int (p1 &&& (3 : Int32))), .val (.ref b1), .val (.long (e0_3 q0)), .second, .val (.long (e0_4 q0)), .second, .val (.long (e0_1 q0 p1)), .second, .unset, .unset] [(.long (((p1 &&& (3 : Int32)) + (2 : Int32)).toInt64)), (.long q0)])) _
            refine X52.ldc2Long hx hown (mvT hZ (hw _ (List.mem_of_getElem? (i := 19) rfl))) (g := (mkF m 78 #[.val (.long q0), .second, .val (.int p1), .val (.int (p1 &&& (3 : Int32))), .val (.ref b1), .val (.long (e0_3 q0)), .second, .val (.long (e0_4 q0)), .second, .val (.long (e0_1 q0 p1)), .second, .unset, .unset] [(.long (((p1 &&& (3 : Int32)) + (2 : Int32)).toInt64)), (.long q0)])) rfl (hb hby at_78) _ ?_
            show Steps p.tables e below (T52.setTop (mkF m 81 #[.val (.long q0), .second, .val (.int p1), .val (.int (p1 &&& (3 : Int32))), .val (.ref b1), .val (.long (e0_3 q0)), .second, .val (.long (e0_4 q0)), .second, .val (.long (e0_1 q0 p1)), .second, .unset, .unset] [(.long (-7046029254386353131 : Int64)), (.long (((p1 &&& (3 : Int32)) + (2 : Int32)).toInt64)), (.long q0)])) _
            refine XS.lmul X52.here hx rfl (hb hby at_81) rfl ?_
            show Steps p.tables e below (T52.setTop (mkF m 82 #[.val (.long q0), .second, .val (.int p1), .val (.int (p1 &&& (3 : Int32))), .val (.ref b1), .val (.long (e0_3 q0)), .second, .val (.long (e0_4 q0)), .second, .val (.long (e0_1 q0 p1)), .second, .unset, .unset] [(.long ((((p1 &&& (3 : Int32)) + (2 : Int32)).toInt64) * (-7046029254386353131 : Int64))), (.long q0)])) _
            refine XS.ladd X52.here hx rfl (hb hby at_82) rfl ?_
            show Steps p.tables e below (T52.setTop (mkF m 83 #[.val (.long q0), .second, .val (.int p1), .val (.int (p1 &&& (3 : Int32))), .val (.ref b1), .val (.long (e0_3 q0)), .second, .val (.long (e0_4 q0)), .second, .val (.long (e0_1 q0 p1)), .second, .unset, .unset] [(.long (q0 + ((((p1 &&& (3 : Int32)) + (2 : Int32)).toInt64) * (-7046029254386353131 : Int64))))])) _
            refine XS.lstore X52.here hx rfl (hb hby at_83) rfl (l' := #[.val (.long q0), .second, .val (.int p1), .val (.int (p1 &&& (3 : Int32))), .val (.ref b1), .val (.long (e0_3 q0)), .second, .val (.long (e0_4 q0)), .second, .val (.long (e0_1 q0 p1)), .second, .val (.long (e0_2 q0 p1)), .second]) rfl ?_
            show Steps p.tables e below (T52.setTop (mkF m 85 #[.val (.long q0), .second, .val (.int p1), .val (.int (p1 &&& (3 : Int32))), .val (.ref b1), .val (.long (e0_3 q0)), .second, .val (.long (e0_4 q0)), .second, .val (.long (e0_1 q0 p1)), .second, .val (.long (e0_2 q0 p1)), .second] [])) _
            refine XS.lload X52.here hx rfl (hb hby at_85) rfl ?_
            show Steps p.tables e below (T52.setTop (mkF m 87 #[.val (.long q0), .second, .val (.int p1), .val (.int (p1 &&& (3 : Int32))), .val (.ref b1), .val (.long (e0_3 q0)), .second, .val (.long (e0_4 q0)), .second, .val (.long (e0_1 q0 p1)), .second, .val (.long (e0_2 q0 p1)), .second] [(.long (e0_3 q0))])) _
            refine st55 _ ?_
            show Steps p.tables e below (T55.setTop (mkF m 90 #[.val (.long q0), .second, .val (.int p1), .val (.int (p1 &&& (3 : Int32))), .val (.ref b1), .val (.long (e0_3 q0)), .second, .val (.long (e0_4 q0)), .second, .val (.long (e0_1 q0 p1)), .second, .val (.long (e0_2 q0 p1)), .second] [(.long (f4 (e0_3 q0)))])) _
            refine XS.lload X55.here hx rfl (hb hby at_90) rfl ?_
            show Steps p.tables e below (T55.setTop (mkF m 92 #[.val (.long q0), .second, .val (.int p1), .val (.int (p1 &&& (3 : Int32))), .val (.ref b1), .val (.long (e0_3 q0)), .second, .val (.long (e0_4 q0)), .second, .val (.long (e0_1 q0 p1)), .second, .val (.long (e0_2 q0 p1)), .second] [(.long (e0_1 q0 p1)), (.long (f4 (e0_3 q0)))])) _
            refine XS.lcmp X55.here hx rfl (hb hby at_92) rfl ?_
            exact kt)
        by_cases hc93_57 : (lcmpW (f4 (e0_3 q0)) (e0_1 q0 p1)) = (0 : Int32)
        · obtain ⟨_, _, ⟨T58, L58, k58, n58⟩, -, X58, ⟨Lc58, hQ58, l58, y58, z58⟩, st58⟩ := Jvm.LawKit.callS X55 hx (y := (⟨"com/example/cistern/cistern/sampling/SplitMix64NextLongPinLaw", "unmix", "(J)J"⟩ : MethodName)) hown (mvT hZ (hw _ (List.mem_of_getElem? (i := 20) rfl))) (mvT hZ (hw _ (List.mem_of_getElem? (i := 21) rfl))) (mvT hZ (hw _ (List.mem_of_getElem? (i := 22) rfl))) (mvT hZ (hw _ (List.mem_of_getElem? (i := 23) rfl))) (by decide) (backOf (W := 0) (rm4 l Z a0 hw [] (e0_4 q0) T52.heap n0 Z54 ) hZ (hw _ (List.mem_of_getElem? (i := 23) rfl)) (hw _ (List.mem_of_getElem? (i := 22) rfl)) (by decide) (by decide)) (g := (mkF m 98 #[.val (.long q0), .second, .val (.int p1), .val (.int (p1 &&& (3 : Int32))), .val (.ref b1), .val (.long (e0_3 q0)), .second, .val (.long (e0_4 q0)), .second, .val (.long (e0_1 q0 p1)), .second, .val (.long (e0_2 q0 p1)), .second] [(.long (e0_4 q0))])) rfl (by rw [hml]; rfl) (argsL := [(.long (e0_4 q0))]) (rest := []) (lenOf pd_0_2 rfl) rfl (by show 2 * 0 + _ ≤ _; exact Nat.le_of_eq rfl) (hb hby at_98) (fun _ _ => ⟨rfl, e55q, (by decide : 1 + 0 ≤ _), (by decide : 1 + 0 ≤ _)⟩)
          dsimp only [Pt.U, Pt.locs, Pt.cells, Pt.slots] at X58 l58 y58 z58 st58 hQ58
          subst l58 y58 z58
          obtain ⟨rfl, N58q, e58q⟩ := hQ58
          have N58 := Fr.app N55 N58q
          have pre59 : ∀ t, Steps p.tables e below (T58.setTop (mkF m 104 #[.val (.long q0), .second, .val (.int p1), .val (.int (p1 &&& (3 : Int32))), .val (.ref b1), .val (.long (e0_3 q0)), .second, .val (.long (e0_4 q0)), .second, .val (.long (e0_1 q0 p1)), .second, .val (.long (e0_2 q0 p1)), .second] [(.int (lcmpW (f4 (e0_4 q0)) (e0_2 q0 p1)))])) t → Steps p.tables e below (s₁.setTop (entryFrame m #[(.long q0), (.int p1)] maxLocals)) t := fun t kt => pre56 t (by
              show Steps p.tables e below (T55.setTop (mkF m 93 #[.val (.long q0), .second, .val (.int p1), .val (.int (p1 &&& (3 : Int32))), .val (.ref b1), .val (.long (e0_3 q0)), .second, .val (.long (e0_4 q0)), .second, .val (.long (e0_1 q0 p1)), .second, .val (.long (e0_2 q0 p1)), .second] [(.int (lcmpW (f4 (e0_3 q0)) (e0_1 q0 p1)))])) _
              refine XS.ifNo X55.here hx rfl (hb hby at_93) rfl ((if0 _ _).trans (teq hc93_57).2) ?_
              show Steps p.tables e below (T55.setTop (mkF m 96 #[.val (.long q0), .second, .val (.int p1), .val (.int (p1 &&& (3 : Int32))), .val (.ref b1), .val (.long (e0_3 q0)), .second, .val (.long (e0_4 q0)), .second, .val (.long (e0_1 q0 p1)), .second, .val (.long (e0_2 q0 p1)), .second] [])) _
              refine XS.lload X55.here hx rfl (hb hby at_96) rfl ?_
              show Steps p.tables e below (T55.setTop (mkF m 98 #[.val (.long q0), .second, .val (.int p1), .val (.int (p1 &&& (3 : Int32))), .val (.ref b1), .val (.long (e0_3 q0)), .second, .val (.long (e0_4 q0)), .second, .val (.long (e0_1 q0 p1)), .second, .val (.long (e0_2 q0 p1)), .second] [(.long (e0_4 q0))])) _
              refine st58 _ ?_
              show Steps p.tables e below (T58.setTop (mkF m 101 #[.val (.long q0), .second, .val (.int p1), .val (.int (p1 &&& (3 : Int32))), .val (.ref b1), .val (.long (e0_3 q0)), .second, .val (.long (e0_4 q0)), .second, .val (.long (e0_1 q0 p1)), .second, .val (.long (e0_2 q0 p1)), .second] [(.long (f4 (e0_4 q0)))])) _
              refine XS.lload X58.here hx rfl (hb hby at_101) rfl ?_
              show Steps p.tables e below (T58.setTop (mkF m 103 #[.val (.long q0), .second, .val (.int p1), .val (.int (p1 &&& (3 : Int32))), .val (.ref b1), .val (.long (e0_3 q0)), .second, .val (.long (e0_4 q0)), .second, .val (.long (e0_1 q0 p1)), .second, .val (.long (e0_2 q0 p1)), .second] [(.long (e0_2 q0 p1)), (.long (f4 (e0_4 q0)))])) _
              refine XS.lcmp X58.here hx rfl (hb hby at_103) rfl ?_
              exact kt)
          by_cases hc104_60 : (lcmpW (f4 (e0_4 q0)) (e0_2 q0 p1)) = (0 : Int32)
          · obtain ⟨fs, hr, hrun, hended, hW, hsame⟩ := X58.leave (v := some (.int (1 : Int32))) (fun h => by rw [Bd.returns] at h; cases h)
            have hv83 : (f0 q0 p1) = (1 : Int32) := by rw [f0, if_neg hc16_8, if_neg hc27_29, if_pos hc38_48, if_pos hc93_57, if_pos hc104_60]
            refine ⟨_, _, pre59 _ ?_, hrun, hended, _, _, rfl, ?_, ⟨_, rfl⟩, hW, hsame.mono (by decide) (by decide)⟩
            · show Steps p.tables e below (T58.setTop (mkF m 104 #[.val (.long q0), .second, .val (.int p1), .val (.int (p1 &&& (3 : Int32))), .val (.ref b1), .val (.long (e0_3 q0)), .second, .val (.long (e0_4 q0)), .second, .val (.long (e0_1 q0 p1)), .second, .val (.long (e0_2 q0 p1)), .second] [(.int (lcmpW (f4 (e0_4 q0)) (e0_2 q0 p1)))])) _
              refine XS.ifNo X58.here hx rfl (hb hby at_104) rfl ((if0 _ _).trans (teq hc104_60).2) ?_
              show Steps p.tables e below (T58.setTop (mkF m 107 #[.val (.long q0), .second, .val (.int p1), .val (.int (p1 &&& (3 : Int32))), .val (.ref b1), .val (.long (e0_3 q0)), .second, .val (.long (e0_4 q0)), .second, .val (.long (e0_1 q0 p1)), .second, .val (.long (e0_2 q0 p1)), .second] [])) _
              refine XS.iconst X58.here hx rfl (hb hby at_107) ?_
              show Steps p.tables e below (T58.setTop (mkF m 108 #[.val (.long q0), .second, .val (.int p1), .val (.int (p1 &&& (3 : Int32))), .val (.ref b1), .val (.long (e0_3 q0)), .second, .val (.long (e0_4 q0)), .second, .val (.long (e0_1 q0 p1)), .second, .val (.long (e0_2 q0 p1)), .second] [(.int (1 : Int32))])) _
              refine XS.goto X58.here hx rfl (pc0 := 108) (pc' := 112) rfl (hb hby at_108) (by decide) (by decide) ?_
              show Steps p.tables e below (T58.setTop (mkF m 112 #[.val (.long q0), .second, .val (.int p1), .val (.int (p1 &&& (3 : Int32))), .val (.ref b1), .val (.long (e0_3 q0)), .second, .val (.long (e0_4 q0)), .second, .val (.long (e0_1 q0 p1)), .second, .val (.long (e0_2 q0 p1)), .second] [(.int (1 : Int32))])) _
              exact retN X58 hx (t := .boolean) Bd.returns (by simp) (hb hby at_112) hr
            · show Q0 Z q0 p1 h0 n0 _ T58.heap _
              rw [e58q]
              exact ⟨congrArg (fun q => some (Value.int q)) hv83.symm, N58⟩
          · obtain ⟨fs, hr, hrun, hended, hW, hsame⟩ := X58.leave (v := some (.int (0 : Int32))) (fun h => by rw [Bd.returns] at h; cases h)
            have hv84 : (f0 q0 p1) = (0 : Int32) := by rw [f0, if_neg hc16_8, if_neg hc27_29, if_pos hc38_48, if_pos hc93_57, if_neg hc104_60]
            refine ⟨_, _, pre59 _ ?_, hrun, hended, _, _, rfl, ?_, ⟨_, rfl⟩, hW, hsame.mono (by decide) (by decide)⟩
            · show Steps p.tables e below (T58.setTop (mkF m 104 #[.val (.long q0), .second, .val (.int p1), .val (.int (p1 &&& (3 : Int32))), .val (.ref b1), .val (.long (e0_3 q0)), .second, .val (.long (e0_4 q0)), .second, .val (.long (e0_1 q0 p1)), .second, .val (.long (e0_2 q0 p1)), .second] [(.int (lcmpW (f4 (e0_4 q0)) (e0_2 q0 p1)))])) _
              refine XS.ifYes X58.here hx rfl (pc0 := 104) (pc' := 111) rfl (hb hby at_104) rfl ((if0 _ _).trans (feq hc104_60).2) (by decide) (by decide) ?_
              show Steps p.tables e below (T58.setTop (mkF m 111 #[.val (.long q0), .second, .val (.int p1), .val (.int (p1 &&& (3 : Int32))), .val (.ref b1), .val (.long (e0_3 q0)), .second, .val (.long (e0_4 q0)), .second, .val (.long (e0_1 q0 p1)), .second, .val (.long (e0_2 q0 p1)), .second] [])) _
              refine XS.iconst X58.here hx rfl (hb hby at_111) ?_
              show Steps p.tables e below (T58.setTop (mkF m 112 #[.val (.long q0), .second, .val (.int p1), .val (.int (p1 &&& (3 : Int32))), .val (.ref b1), .val (.long (e0_3 q0)), .second, .val (.long (e0_4 q0)), .second, .val (.long (e0_1 q0 p1)), .second, .val (.long (e0_2 q0 p1)), .second] [(.int (0 : Int32))])) _
              exact retN X58 hx (t := .boolean) Bd.returns (by simp) (hb hby at_112) hr
            · show Q0 Z q0 p1 h0 n0 _ T58.heap _
              rw [e58q]
              exact ⟨congrArg (fun q => some (Value.int q)) hv84.symm, N58⟩
        · obtain ⟨fs, hr, hrun, hended, hW, hsame⟩ := X55.leave (v := some (.int (0 : Int32))) (fun h => by rw [Bd.returns] at h; cases h)
          have hv85 : (f0 q0 p1) = (0 : Int32) := by rw [f0, if_neg hc16_8, if_neg hc27_29, if_pos hc38_48, if_neg hc93_57]
          refine ⟨_, _, pre56 _ ?_, hrun, hended, _, _, rfl, ?_, ⟨_, rfl⟩, hW, hsame.mono (by decide) (by decide)⟩
          · show Steps p.tables e below (T55.setTop (mkF m 93 #[.val (.long q0), .second, .val (.int p1), .val (.int (p1 &&& (3 : Int32))), .val (.ref b1), .val (.long (e0_3 q0)), .second, .val (.long (e0_4 q0)), .second, .val (.long (e0_1 q0 p1)), .second, .val (.long (e0_2 q0 p1)), .second] [(.int (lcmpW (f4 (e0_3 q0)) (e0_1 q0 p1)))])) _
            refine XS.ifYes X55.here hx rfl (pc0 := 93) (pc' := 111) rfl (hb hby at_93) rfl ((if0 _ _).trans (feq hc93_57).2) (by decide) (by decide) ?_
            show Steps p.tables e below (T55.setTop (mkF m 111 #[.val (.long q0), .second, .val (.int p1), .val (.int (p1 &&& (3 : Int32))), .val (.ref b1), .val (.long (e0_3 q0)), .second, .val (.long (e0_4 q0)), .second, .val (.long (e0_1 q0 p1)), .second, .val (.long (e0_2 q0 p1)), .second] [])) _
            refine XS.iconst X55.here hx rfl (hb hby at_111) ?_
            show Steps p.tables e below (T55.setTop (mkF m 112 #[.val (.long q0), .second, .val (.int p1), .val (.int (p1 &&& (3 : Int32))), .val (.ref b1), .val (.long (e0_3 q0)), .second, .val (.long (e0_4 q0)), .second, .val (.long (e0_1 q0 p1)), .second, .val (.long (e0_2 q0 p1)), .second] [(.int (0 : Int32))])) _
            exact retN X55 hx (t := .boolean) Bd.returns (by simp) (hb hby at_112) hr
          · show Q0 Z q0 p1 h0 n0 _ T55.heap _
            rw [e55q]
            exact ⟨congrArg (fun q => some (Value.int q)) hv85.symm, N55⟩
      · obtain ⟨cq61, kq61, q61a, q61b, q61c⟩ := isOf hZ rfl (((E_b1.keep K4q).keep K25q).keep K44q)
        obtain ⟨_, _, ⟨T61, L61, k61, n61⟩, -, X61, ⟨Lc61, hQ61, l61, y61, z61⟩, st61⟩ := X44.virtualBack hx (y := (⟨"com/example/cistern/cistern/sampling/SplitMix64", "nextLong", "()J"⟩ : MethodName)) (z := (⟨"com/example/cistern/cistern/sampling/SplitMix64", "nextLong", "()J"⟩ : MethodName)) hown (mvT hZ (hw _ (List.mem_of_getElem? (i := 11) rfl))) (mvT hZ (hw _ (List.mem_of_getElem? (i := 12) rfl))) (notFace_of_selects (args := #[]) (mvT hZ (hw _ (List.mem_of_getElem? (i := 14) rfl)))) (mvT hZ (hw _ (List.mem_of_getElem? (i := 14) rfl))) (mvT hZ (hw _ (List.mem_of_getElem? (i := 13) rfl))) (by decide) (backOf (W := 0) (rm3 l Z a0 hw [] b1 ((q0 + (-7046029254386353131 : Int64)) + (-7046029254386353131 : Int64)) T44.heap n0 Z46 G44_0 (((E_b1.keep K4q).keep K25q).keep K44q) g_b1) hZ (hw _ (List.mem_of_getElem? (i := 15) rfl)) (hw _ (List.mem_of_getElem? (i := 2) rfl)) (by decide) (by decide)) q61a q61c (g := (mkF m 43 #[.val (.long q0), .second, .val (.int p1), .val (.int (p1 &&& (3 : Int32))), .val (.ref b1), .unset, .unset, .unset, .unset, .unset, .unset, .unset, .unset] [(.ref b1)])) rfl (by rw [hml]; rfl) (Steps.refl _) (argsL := []) (rest := []) (lenOf pd_0_1 rfl) rfl (by show 2 * 0 + _ ≤ _; exact Nat.le_of_eq rfl) (hb hby at_43) (fun _ _ => ⟨rfl, rfl, (by decide : 1 + 0 ≤ _), (by decide : 1 + 0 ≤ _)⟩)
        dsimp only [Pt.U, Pt.locs, Pt.cells, Pt.slots] at X61 l61 y61 z61 st61 hQ61
        subst l61 y61 z61
        obtain ⟨rfl, N61q, K61q, G61_0⟩ := hQ61
        have N61 := Fr.app N44 N61q
        have K62 : Keep h0 T61.heap [] := K45.trans K61q (allS (Or.inr sz_b1) all0)
        have Z63 : n0 ≤ T61.heap.size := Nat.le_trans Z0 K62.1
        obtain ⟨LS61, X61, N61⟩ : ∃ L, Stand p l e room_1 s m #[(.long q0), (.int p1)] below meth c T61 L 1 1 ∧ Fr n0 L := ⟨_, X61, N61⟩
        obtain ⟨cq64, kq64, q64a, q64b, q64c⟩ := isOf hZ rfl ((((E_b1.keep K4q).keep K25q).keep K44q).keep K61q)
        obtain ⟨_, _, ⟨T64, L64, k64, n64⟩, -, X64, ⟨Lc64, hQ64, l64, y64, z64⟩, st64⟩ := X61.virtualBack hx (y := (⟨"com/example/cistern/cistern/sampling/SplitMix64", "nextLong", "()J"⟩ : MethodName)) (z := (⟨"com/example/cistern/cistern/sampling/SplitMix64", "nextLong", "()J"⟩ : MethodName)) hown (mvT hZ (hw _ (List.mem_of_getElem? (i := 11) rfl))) (mvT hZ (hw _ (List.mem_of_getElem? (i := 12) rfl))) (notFace_of_selects (args := #[]) (mvT hZ (hw _ (List.mem_of_getElem? (i := 14) rfl)))) (mvT hZ (hw _ (List.mem_of_getElem? (i := 14) rfl))) (mvT hZ (hw _ (List.mem_of_getElem? (i := 13) rfl))) (by decide) (backOf (W := 0) (rm3 l Z a0 hw [] b1 (((q0 + (-7046029254386353131 : Int64)) + (-7046029254386353131 : Int64)) + (-7046029254386353131 : Int64)) T61.heap n0 Z63 G61_0 ((((E_b1.keep K4q).keep K25q).keep K44q).keep K61q) g_b1) hZ (hw _ (List.mem_of_getElem? (i := 15) rfl)) (hw _ (List.mem_of_getElem? (i := 2) rfl)) (by decide) (by decide)) q64a q64c (g := (mkF m 49 #[.val (.long q0), .second, .val (.int p1), .val (.int (p1 &&& (3 : Int32))), .val (.ref b1), .unset, .unset, .unset, .unset, .unset, .unset, .unset, .unset] [(.ref b1)])) rfl (by rw [hml]; rfl) (Steps.refl _) (argsL := []) (rest := []) (lenOf pd_0_1 rfl) rfl (by show 2 * 0 + _ ≤ _; exact Nat.le_of_eq rfl) (hb hby at_49) (fun _ _ => ⟨rfl, rfl, (by decide : 1 + 0 ≤ _), (by decide : 1 + 0 ≤ _)⟩)
        dsimp only [Pt.U, Pt.locs, Pt.cells, Pt.slots] at X64 l64 y64 z64 st64 hQ64
        subst l64 y64 z64
        obtain ⟨rfl, N64q, K64q, G64_0⟩ := hQ64
        have N64 := Fr.app N61 N64q
        have K65 : Keep h0 T64.heap [] := K62.trans K64q (allS (Or.inr sz_b1) all0)
        have Z66 : n0 ≤ T64.heap.size := Nat.le_trans Z0 K65.1
        obtain ⟨LS64, X64, N64⟩ : ∃ L, Stand p l e room_1 s m #[(.long q0), (.int p1)] below meth c T64 L 1 1 ∧ Fr n0 L := ⟨_, X64, N64⟩
        have c68 := (((((E_b1.keep K4q).keep K25q).keep K44q).keep K61q).keep K64q)
        obtain ⟨cq67, kq67, q67a, q67b, q67c⟩ := isOf hZ rfl c68
        obtain ⟨_, _, ⟨T67, L67, k67, n67⟩, -, X67, ⟨Lc67, hQ67, l67, y67, z67⟩, st67⟩ := X64.virtualBack hx (y := (⟨"com/example/cistern/cistern/sampling/SplitMix64", "nextLong", "()J"⟩ : MethodName)) (z := (⟨"com/example/cistern/cistern/sampling/SplitMix64", "nextLong", "()J"⟩ : MethodName)) hown (mvT hZ (hw _ (List.mem_of_getElem? (i := 11) rfl))) (mvT hZ (hw _ (List.mem_of_getElem? (i := 12) rfl))) (notFace_of_selects (args := #[]) (mvT hZ (hw _ (List.mem_of_getElem? (i := 14) rfl)))) (mvT hZ (hw _ (List.mem_of_getElem? (i := 14) rfl))) (mvT hZ (hw _ (List.mem_of_getElem? (i := 13) rfl))) (by decide) (backOf (W := 0) (rm3 l Z a0 hw [] b1 ((((q0 + (-7046029254386353131 : Int64)) + (-7046029254386353131 : Int64)) + (-7046029254386353131 : Int64)) + (-7046029254386353131 : Int64)) T64.heap n0 Z66 G64_0 c68 g_b1) hZ (hw _ (List.mem_of_getElem? (i := 15) rfl)) (hw _ (List.mem_of_getElem? (i := 2) rfl)) (by decide) (by decide)) q67a q67c (g := (mkF m 56 #[.val (.long q0), .second, .val (.int p1), .val (.int (p1 &&& (3 : Int32))), .val (.ref b1), .val (.long (e0_4 q0)), .second, .unset, .unset, .unset, .unset, .unset, .unset] [(.ref b1)])) rfl (by rw [hml]; rfl) (Steps.refl _) (argsL := []) (rest := []) (lenOf pd_0_1 rfl) rfl (by show 2 * 0 + _ ≤ _; exact Nat.le_of_eq rfl) (hb hby at_56) (fun _ _ => ⟨rfl, rfl, (by decide : 1 + 0 ≤ _), (by decide : 1 + 0 ≤ _)⟩)
        dsimp only [Pt.U, Pt.locs, Pt.cells, Pt.slots] at X67 l67 y67 z67 st67 hQ67
        subst l67 y67 z67
        obtain ⟨rfl, N67q, K67q, G67_0⟩ := hQ67
        have N67 := Fr.app N64 N67q
        have K69 : Keep h0 T67.heap [] := K65.trans K67q (allS (Or.inr sz_b1) all0)
        have Z70 : n0 ≤ T67.heap.size := Nat.le_trans Z0 K69.1
        obtain ⟨LS67, X67, N67⟩ : ∃ L, Stand p l e room_1 s m #[(.long q0), (.int p1)] below meth c T67 L 1 1 ∧ Fr n0 L := ⟨_, X67, N67⟩
        obtain ⟨_, _, ⟨T71, L71, k71, n71⟩, -, X71, ⟨Lc71, hQ71, l71, y71, z71⟩, st71⟩ := Jvm.LawKit.callS X67 hx (y := (⟨"com/example/cistern/cistern/sampling/SplitMix64NextLongPinLaw", "unmix", "(J)J"⟩ : MethodName)) hown (mvT hZ (hw _ (List.mem_of_getElem? (i := 20) rfl))) (mvT hZ (hw _ (List.mem_of_getElem? (i := 21) rfl))) (mvT hZ (hw _ (List.mem_of_getElem? (i := 22) rfl))) (mvT hZ (hw _ (List.mem_of_getElem? (i := 23) rfl))) (by decide) (backOf (W := 0) (rm4 l Z a0 hw [] (e0_4 q0) T67.heap n0 Z70 ) hZ (hw _ (List.mem_of_getElem? (i := 23) rfl)) (hw _ (List.mem_of_getElem? (i := 22) rfl)) (by decide) (by decide)) (g := (mkF m 87 #[.val (.long q0), .second, .val (.int p1), .val (.int (p1 &&& (3 : Int32))), .val (.ref b1), .val (.long (e0_4 q0)), .second, .val (.long (e0_5 q0)), .second, .val (.long (e0_1 q0 p1)), .second, .val (.long (e0_2 q0 p1)), .second] [(.long (e0_4 q0))])) rfl (by rw [hml]; rfl) (argsL := [(.long (e0_4 q0))]) (rest := []) (lenOf pd_0_2 rfl) rfl (by show 2 * 0 + _ ≤ _; exact Nat.le_of_eq rfl) (hb hby at_87) (fun _ _ => ⟨rfl, rfl, (by decide : 1 + 0 ≤ _), (by decide : 1 + 0 ≤ _)⟩)
        dsimp only [Pt.U, Pt.locs, Pt.cells, Pt.slots] at X71 l71 y71 z71 st71 hQ71
        subst l71 y71 z71
        obtain ⟨rfl, N71q, e71q⟩ := hQ71
        have N71 := Fr.app N67 N71q
        have pre72 : ∀ t, Steps p.tables e below (T71.setTop (mkF m 93 #[.val (.long q0), .second, .val (.int p1), .val (.int (p1 &&& (3 : Int32))), .val (.ref b1), .val (.long (e0_4 q0)), .second, .val (.long (e0_5 q0)), .second, .val (.long (e0_1 q0 p1)), .second, .val (.long (e0_2 q0 p1)), .second] [(.int (lcmpW (f4 (e0_4 q0)) (e0_1 q0 p1)))])) t → Steps p.tables e below (s₁.setTop (entryFrame m #[(.long q0), (.int p1)] maxLocals)) t := fun t kt => pre47 t (by
            show Steps p.tables e below (T44.setTop (mkF m 38 #[.val (.long q0), .second, .val (.int p1), .val (.int (p1 &&& (3 : Int32))), .val (.ref b1), .unset, .unset, .unset, .unset, .unset, .unset, .unset, .unset] [(.int (3 : Int32)), (.int (p1 &&& (3 : Int32)))])) _
            refine XS.icmpNo X44.here hx rfl (hb hby at_38) rfl (flt hc38_48).1 ?_
            show Steps p.tables e below (T44.setTop (mkF m 41 #[.val (.long q0), .second, .val (.int p1), .val (.int (p1 &&& (3 : Int32))), .val (.ref b1), .unset, .unset, .unset, .unset, .unset, .unset, .unset, .unset] [])) _
            refine XS.aload X44.here hx rfl (hb hby at_41) rfl rfl ?_
            show Steps p.tables e below (T44.setTop (mkF m 43 #[.val (.long q0), .second, .val (.int p1), .val (.int (p1 &&& (3 : Int32))), .val (.ref b1), .unset, .unset, .unset, .unset, .unset, .unset, .unset, .unset] [(.ref b1)])) _
            refine st61.trans ?_
            show Steps p.tables e below (T61.setTop (mkF m 46 #[.val (.long q0), .second, .val (.int p1), .val (.int (p1 &&& (3 : Int32))), .val (.ref b1), .unset, .unset, .unset, .unset, .unset, .unset, .unset, .unset] [(.long (f3 ((q0 + (-7046029254386353131 : Int64)) + (-7046029254386353131 : Int64))))])) _
            jvm_step X61.here [X61.here.top, hx, (hb hby at_46), Value.category]
            show Steps p.tables e below (T61.setTop (mkF m 47 #[.val (.long q0), .second, .val (.int p1), .val (.int (p1 &&& (3 : Int32))), .val (.ref b1), .unset, .unset, .unset, .unset, .unset, .unset, .unset, .unset] [])) _
            refine XS.aload X61.here hx rfl (hb hby at_47) rfl rfl ?_
            show Steps p.tables e below (T61.setTop (mkF m 49 #[.val (.long q0), .second, .val (.int p1), .val (.int (p1 &&& (3 : Int32))), .val (.ref b1), .unset, .unset, .unset, .unset, .unset, .unset, .unset, .unset] [(.ref b1)])) _
            refine st64.trans ?_
            show Steps p.tables e below (T64.setTop (mkF m 52 #[.val (.long q0), .second, .val (.int p1), .val (.int (p1 &&& (3 : Int32))), .val (.ref b1), .unset, .unset, .unset, .unset, .unset, .unset, .unset, .unset] [(.long (f3 (((q0 + (-7046029254386353131 : Int64)) + (-7046029254386353131 : Int64)) + (-7046029254386353131 : Int64))))])) _
            refine XS.lstore X64.here hx rfl (hb hby at_52) rfl (l' := #[.val (.long q0), .second, .val (.int p1), .val (.int (p1 &&& (3 : Int32))), .val (.ref b1), .val (.long (e0_4 q0)), .second, .unset, .unset, .unset, .unset, .unset, .unset]) rfl ?_
            show Steps p.tables e below (T64.setTop (mkF m 54 #[.val (.long q0), .second, .val (.int p1), .val (.int (p1 &&& (3 : Int32))), .val (.ref b1), .val (.long (e0_4 q0)), .second, .unset, .unset, .unset, .unset, .unset, .unset] [])) _
            refine XS.aload X64.here hx rfl (hb hby at_54) rfl rfl ?_
            show Steps p.tables e below (T64.setTop (mkF m 56 #[.val (.long q0), .second, .val (.int p1), .val (.int (p1 &&& (3 : Int32))), .val (.ref b1), .val (.long (e0_4 q0)), .second, .unset, .unset, .unset, .unset, .unset, .unset] [(.ref b1)])) _
            refine st67.trans ?_
            show Steps p.tables e below (T67.setTop (mkF m 59 #[.val (.long q0), .second, .val (.int p1), .val (.int (p1 &&& (3 : Int32))), .val (.ref b1), .val (.long (e0_4 q0)), .second, .unset, .unset, .unset, .unset, .unset, .unset] [(.long (f3 ((((q0 + (-7046029254386353131 : Int64)) + (-7046029254386353131 : Int64)) + (-7046029254386353131 : Int64)) + (-7046029254386353131 : Int64))))])) _
            refine XS.lstore X67.here hx rfl (hb hby at_59) rfl (l' := #[.val (.long q0), .second, .val (.int p1), .val (.int (p1 &&& (3 : Int32))), .val (.ref b1), .val (.long (e0_4 q0)), .second, .val (.long (e0_5 q0)), .second, .unset, .unset, .unset, .unset]) rfl ?_
            show Steps p.tables e below (T67.setTop (mkF m 61 #[.val (.long q0), .second, .val (.int p1), .val (.int (p1 &&& (3 : Int32))), .val (.ref b1), .val (.long (e0_4 q0)), .second, .val (.long (e0_5 q0)), .second, .unset, .unset, .unset, .unset] [])) _
            refine XS.lloadN X67.here hx rfl (hb hby at_61) rfl ?_
            show Steps p.tables e below (T67.setTop (mkF m 62 #[.val (.long q0), .second, .val (.int p1), .val (.int (p1 &&& (3 : Int32))), .val (.ref b1), .val (.long (e0_4 q0)), .second, .val (.long (e0_5 q0)), .second, .unset, .unset, .unset, .unset] [(.long q0)])) _
            refine XS.iloadN X67.here hx rfl (hb hby at_62) rfl ?_
            show Steps p.tables e below (T67.setTop (mkF m 63 #[.val (.long q0), .second, .val (.int p1), .val (.int (p1 &&& (3 : Int32))), .val (.ref b1), .val (.long (e0_4 q0)), .second, .val (.long (e0_5 q0)), .second, .unset, .unset, .unset, .unset] [(.int (p1 &&& (3 : Int32))), (.long q0)])) _
            refine XS.iconst X67.here hx rfl (hb hby at_63) ?_
            show Steps p.tables e below (T67.setTop (mkF m 64 #[.val (.long q0), .second, .val (.int p1), .val (.int (p1 &&& (3 : Int32))), .val (.ref b1), .val (.long (e0_4 q0)), .second, .val (.long (e0_5 q0)), .second, .unset, .unset, .unset, .unset] [(.int (1 : Int32)), (.int (p1 &&& (3 : Int32))), (.long q0)])) _
            refine XS.iadd X67.here hx rfl (hb hby at_64) rfl ?_
            show Steps p.tables e below (T67.setTop (mkF m 65 #[.val (.long q0), .second, .val (.int p1), .val (.int (p1 &&& (3 : Int32))), .val (.ref b1), .val (.long (e0_4 q0)), .second, .val (.long (e0_5 q0)), .second, .unset, .unset, .unset, .unset] [(.int ((p1 &&& (3 : Int32)) + (1 : Int32))), (.long q0)])) _
            refine XS.i2l X67.here hx rfl (hb hby at_65) rfl ?_
            show Steps p.tables e below (T67.setTop (mkF m 66 #[.val (.long q0), .second, .val (.int p1), .val (.int (p1 &&& (3 : Int32))), .val (.ref b1), .val (.long (e0_4 q0)), .second, .val (.long (e0_5 q0)), .second, .unset, .unset, .unset, .unset] [(.long (((p1 &&& (3 : Int32)) + (1 : Int32)).toInt64)), (.long q0)])) _
            refine X67.ldc2Long hx hown (mvT hZ (hw _ (List.mem_of_getElem? (i := 19) rfl))) (g := (mkF m 66 #[.val (.long q0), .second, .val (.int p1), .val (.int (p1 &&& (3 : Int32))), .val (.ref b1), .val (.long (e0_4 q0)), .second, .val (.long (e0_5 q0)), .second, .unset, .unset, .unset, .unset] [(.long (((p1 &&& (3 : Int32)) + (1 : Int32)).toInt64)), (.long q0)])) rfl (hb hby at_66) _ ?_
            show Steps p.tables e below (T67.setTop (mkF m 69 #[.val (.long q0), .second, .val (.int p1), .val (.int (p1 &&& (3 : Int32))), .val (.ref b1), .val (.long (e0_4 q0)), .second, .val (.long (e0_5 q0)), .second, .unset, .unset, .unset, .unset] [(.long (-7046029254386353131 : Int64)), (.long (((p1 &&& (3 : Int32)) + (1 : Int32)).toInt64)), (.long q0)])) _
            refine XS.lmul X67.here hx rfl (hb hby at_69) rfl ?_
            show Steps p.tables e below (T67.setTop (mkF m 70 #[.val (.long q0), .second, .val (.int p1), .val (.int (p1 &&& (3 : Int32))), .val (.ref b1), .val (.long (e0_4 q0)), .second, .val (.long (e0_5 q0)), .second, .unset, .unset, .unset, .unset] [(.long ((((p1 &&& (3 : Int32)) + (1 : Int32)).toInt64) * (-7046029254386353131 : Int64))), (.long q0)])) _
            refine XS.ladd X67.here hx rfl (hb hby at_70) rfl ?_
            show Steps p.tables e below (T67.setTop (mkF m 71 #[.val (.long q0), .second, .val (.int p1), .val (.int (p1 &&& (3 : Int32))), .val (.ref b1), .val (.long (e0_4 q0)), .second, .val (.long (e0_5 q0)), .second, .unset, .unset, .unset, .unset] [(.long (q0 + ((((p1 &&& (3 : Int32)) + (1 : Int32)).toInt64) * (-7046029254386353131 : Int64))))])) _
            refine XS.lstore X67.here hx rfl (hb hby at_71) rfl (l' := #[.val (.long q0), .second, .val (.int p1), .val (.int (p1 &&& (3 : Int32))), .val (.ref b1), .val (.long (e0_4 q0)), .second, .val (.long (e0_5 q0)), .second, .val (.long (e0_1 q0 p1)), .second, .unset, .unset]) rfl ?_
            show Steps p.tables e below (T67.setTop (mkF m 73 #[.val (.long q0), .second, .val (.int p1), .val (.int (p1 &&& (3 : Int32))), .val (.ref b1), .val (.long (e0_4 q0)), .second, .val (.long (e0_5 q0)), .second, .val (.long (e0_1 q0 p1)), .second, .unset, .unset] [])) _
            refine XS.lloadN X67.here hx rfl (hb hby at_73) rfl ?_
            show Steps p.tables e below (T67.setTop (mkF m 74 #[.val (.long q0), .second, .val (.int p1), .val (.int (p1 &&& (3 : Int32))), .val (.ref b1), .val (.long (e0_4 q0)), .second, .val (.long (e0_5 q0)), .second, .val (.long (e0_1 q0 p1)), .second, .unset, .unset] [(.long q0)])) _
            refine XS.iloadN X67.here hx rfl (hb hby at_74) rfl ?_
            show Steps p.tables e below (T67.setTop (mkF m 75 #[.val (.long q0), .second, .val (.int p1), .val (.int (p1 &&& (3 : Int32))), .val (.ref b1), .val (.long (e0_4 q0)), .second, .val (.long (e0_5 q0)), .second, .val (.long (e0_1 q0 p1)), .second, .unset, .unset] [(.int (p1 &&& (3 : Int32))), (.long q0)])) _
            refine XS.iconst X67.here hx rfl (hb hby at_75) ?_
            show Steps p.tables e below (T67.setTop (mkF m 76 #[.val (.long q0), .second, .val (.int p1), .val (.int (p1 &&& (3 : Int32))), .val (.ref b1), .val (.long (e0_4 q0)), .second, .val (.long (e0_5 q0)), .second, .val (.long (e0_1 q0 p1)), .second, .unset, .unset] [(.int (2 : Int32)), (.int (p1 &&& (3 : Int32))), (.long q0)])) _
            refine XS.iadd X67.here hx rfl (hb hby at_76) rfl ?_
            show Steps p.tables e below (T67.setTop (mkF m 77 #[.val (.long q0), .second, .val (.int p1), .val (.int (p1 &&& (3 : Int32))), .val (.ref b1), .val (.long (e0_4 q0)), .second, .val (.long (e0_5 q0)), .second, .val (.long (e0_1 q0 p1)), .second, .unset, .unset] [(.int ((p1 &&& (3 : Int32)) + (2 : Int32))), (.long q0)])) _
            refine XS.i2l X67.here hx rfl (hb hby at_77) rfl ?_
            show Steps p.tables e below (T67.setTop (mkF m 78 #[.val (.long q0), .second, .val (.int p1), .val (.int (p1 &&& (3 : Int32))), .val (.ref b1), .val (.long (e0_4 q0)), .second, .val (.long (e0_5 q0)), .second, .val (.long (e0_1 q0 p1)), .second, .unset, .unset] [(.long (((p1 &&& (3 : Int32)) + (2 : Int32)).toInt64)), (.long q0)])) _
            refine X67.ldc2Long hx hown (mvT hZ (hw _ (List.mem_of_getElem? (i := 19) rfl))) (g := (mkF m 78 #[.val (.long q0), .second, .val (.int p1), .val (.int (p1 &&& (3 : Int32))), .val (.ref b1), .val (.long (e0_4 q0)), .second, .val (.long (e0_5 q0)), .second, .val (.long (e0_1 q0 p1)), .second, .unset, .unset] [(.long (((p1 &&& (3 : Int32)) + (2 : Int32)).toInt64)), (.long q0)])) rfl (hb hby at_78) _ ?_
            show Steps p.tables e below (T67.setTop (mkF m 81 #[.val (.long q0), .second, .val (.int p1), .val (.int (p1 &&& (3 : Int32))), .val (.ref b1), .val (.long (e0_4 q0)), .second, .val (.long (e0_5 q0)), .second, .val (.long (e0_1 q0 p1)), .second, .unset, .unset] [(.long (-7046029254386353131 : Int64)), (.long (((p1 &&& (3 : Int32)) + (2 : Int32)).toInt64)), (.long q0)])) _
            refine XS.lmul X67.here hx rfl (hb hby at_81) rfl ?_
            show Steps p.tables e below (T67.setTop (mkF m 82 #[.val (.long q0), .second, .val (.int p1), .val (.int (p1 &&& (3 : Int32))), .val (.ref b1), .val (.long (e0_4 q0)), .second, .val (.long (e0_5 q0)), .second, .val (.long (e0_1 q0 p1)), .second, .unset, .unset] [(.long ((((p1 &&& (3 : Int32)) + (2 : Int32)).toInt64) * (-7046029254386353131 : Int64))), (.long q0)])) _
            refine XS.ladd X67.here hx rfl (hb hby at_82) rfl ?_
            show Steps p.tables e below (T67.setTop (mkF m 83 #[.val (.long q0), .second, .val (.int p1), .val (.int (p1 &&& (3 : Int32))), .val (.ref b1), .val (.long (e0_4 q0)), .second, .val (.long (e0_5 q0)), .second, .val (.long (e0_1 q0 p1)), .second, .unset, .unset] [(.long (q0 + ((((p1 &&& (3 : Int32)) + (2 : Int32)).toInt64) * (-7046029254386353131 : Int64))))])) _
            refine XS.lstore X67.here hx rfl (hb hby at_83) rfl (l' := #[.val (.long q0), .second, .val (.int p1), .val (.int (p1 &&& (3 : Int32))), .val (.ref b1), .val (.long (e0_4 q0)), .second, .val (.long (e0_5 q0)), .second, .val (.long (e0_1 q0 p1)), .second, .val (.long (e0_2 q0 p1)), .second]) rfl ?_
            show Steps p.tables e below (T67.setTop (mkF m 85 #[.val (.long q0), .second, .val (.int p1), .val (.int (p1 &&& (3 : Int32))), .val (.ref b1), .val (.long (e0_4 q0)), .second, .val (.long (e0_5 q0)), .second, .val (.long (e0_1 q0 p1)), .second, .val (.long (e0_2 q0 p1)), .second] [])) _
            refine XS.lload X67.here hx rfl (hb hby at_85) rfl ?_
            show Steps p.tables e below (T67.setTop (mkF m 87 #[.val (.long q0), .second, .val (.int p1), .val (.int (p1 &&& (3 : Int32))), .val (.ref b1), .val (.long (e0_4 q0)), .second, .val (.long (e0_5 q0)), .second, .val (.long (e0_1 q0 p1)), .second, .val (.long (e0_2 q0 p1)), .second] [(.long (e0_4 q0))])) _
            refine st71 _ ?_
            show Steps p.tables e below (T71.setTop (mkF m 90 #[.val (.long q0), .second, .val (.int p1), .val (.int (p1 &&& (3 : Int32))), .val (.ref b1), .val (.long (e0_4 q0)), .second, .val (.long (e0_5 q0)), .second, .val (.long (e0_1 q0 p1)), .second, .val (.long (e0_2 q0 p1)), .second] [(.long (f4 (e0_4 q0)))])) _
            refine XS.lload X71.here hx rfl (hb hby at_90) rfl ?_
            show Steps p.tables e below (T71.setTop (mkF m 92 #[.val (.long q0), .second, .val (.int p1), .val (.int (p1 &&& (3 : Int32))), .val (.ref b1), .val (.long (e0_4 q0)), .second, .val (.long (e0_5 q0)), .second, .val (.long (e0_1 q0 p1)), .second, .val (.long (e0_2 q0 p1)), .second] [(.long (e0_1 q0 p1)), (.long (f4 (e0_4 q0)))])) _
            refine XS.lcmp X71.here hx rfl (hb hby at_92) rfl ?_
            exact kt)
        by_cases hc93_73 : (lcmpW (f4 (e0_4 q0)) (e0_1 q0 p1)) = (0 : Int32)
        · obtain ⟨_, _, ⟨T74, L74, k74, n74⟩, -, X74, ⟨Lc74, hQ74, l74, y74, z74⟩, st74⟩ := Jvm.LawKit.callS X71 hx (y := (⟨"com/example/cistern/cistern/sampling/SplitMix64NextLongPinLaw", "unmix", "(J)J"⟩ : MethodName)) hown (mvT hZ (hw _ (List.mem_of_getElem? (i := 20) rfl))) (mvT hZ (hw _ (List.mem_of_getElem? (i := 21) rfl))) (mvT hZ (hw _ (List.mem_of_getElem? (i := 22) rfl))) (mvT hZ (hw _ (List.mem_of_getElem? (i := 23) rfl))) (by decide) (backOf (W := 0) (rm4 l Z a0 hw [] (e0_5 q0) T67.heap n0 Z70 ) hZ (hw _ (List.mem_of_getElem? (i := 23) rfl)) (hw _ (List.mem_of_getElem? (i := 22) rfl)) (by decide) (by decide)) (g := (mkF m 98 #[.val (.long q0), .second, .val (.int p1), .val (.int (p1 &&& (3 : Int32))), .val (.ref b1), .val (.long (e0_4 q0)), .second, .val (.long (e0_5 q0)), .second, .val (.long (e0_1 q0 p1)), .second, .val (.long (e0_2 q0 p1)), .second] [(.long (e0_5 q0))])) rfl (by rw [hml]; rfl) (argsL := [(.long (e0_5 q0))]) (rest := []) (lenOf pd_0_2 rfl) rfl (by show 2 * 0 + _ ≤ _; exact Nat.le_of_eq rfl) (hb hby at_98) (fun _ _ => ⟨rfl, e71q, (by decide : 1 + 0 ≤ _), (by decide : 1 + 0 ≤ _)⟩)
          dsimp only [Pt.U, Pt.locs, Pt.cells, Pt.slots] at X74 l74 y74 z74 st74 hQ74
          subst l74 y74 z74
          obtain ⟨rfl, N74q, e74q⟩ := hQ74
          have N74 := Fr.app N71 N74q
          have pre75 : ∀ t, Steps p.tables e below (T74.setTop (mkF m 104 #[.val (.long q0), .second, .val (.int p1), .val (.int (p1 &&& (3 : Int32))), .val (.ref b1), .val (.long (e0_4 q0)), .second, .val (.long (e0_5 q0)), .second, .val (.long (e0_1 q0 p1)), .second, .val (.long (e0_2 q0 p1)), .second] [(.int (lcmpW (f4 (e0_5 q0)) (e0_2 q0 p1)))])) t → Steps p.tables e below (s₁.setTop (entryFrame m #[(.long q0), (.int p1)] maxLocals)) t := fun t kt => pre72 t (by
              show Steps p.tables e below (T71.setTop (mkF m 93 #[.val (.long q0), .second, .val (.int p1), .val (.int (p1 &&& (3 : Int32))), .val (.ref b1), .val (.long (e0_4 q0)), .second, .val (.long (e0_5 q0)), .second, .val (.long (e0_1 q0 p1)), .second, .val (.long (e0_2 q0 p1)), .second] [(.int (lcmpW (f4 (e0_4 q0)) (e0_1 q0 p1)))])) _
              refine XS.ifNo X71.here hx rfl (hb hby at_93) rfl ((if0 _ _).trans (teq hc93_73).2) ?_
              show Steps p.tables e below (T71.setTop (mkF m 96 #[.val (.long q0), .second, .val (.int p1), .val (.int (p1 &&& (3 : Int32))), .val (.ref b1), .val (.long (e0_4 q0)), .second, .val (.long (e0_5 q0)), .second, .val (.long (e0_1 q0 p1)), .second, .val (.long (e0_2 q0 p1)), .second] [])) _
              refine XS.lload X71.here hx rfl (hb hby at_96) rfl ?_
              show Steps p.tables e below (T71.setTop (mkF m 98 #[.val (.long q0), .second, .val (.int p1), .val (.int (p1 &&& (3 : Int32))), .val (.ref b1), .val (.long (e0_4 q0)), .second, .val (.long (e0_5 q0)), .second, .val (.long (e0_1 q0 p1)), .second, .val (.long (e0_2 q0 p1)), .second] [(.long (e0_5 q0))])) _
              refine st74 _ ?_
              show Steps p.tables e below (T74.setTop (mkF m 101 #[.val (.long q0), .second, .val (.int p1), .val (.int (p1 &&& (3 : Int32))), .val (.ref b1), .val (.long (e0_4 q0)), .second, .val (.long (e0_5 q0)), .second, .val (.long (e0_1 q0 p1)), .second, .val (.long (e0_2 q0 p1)), .second] [(.long (f4 (e0_5 q0)))])) _
              refine XS.lload X74.here hx rfl (hb hby at_101) rfl ?_
              show Steps p.tables e below (T74.setTop (mkF m 103 #[.val (.long q0), .second, .val (.int p1), .val (.int (p1 &&& (3 : Int32))), .val (.ref b1), .val (.long (e0_4 q0)), .second, .val (.long (e0_5 q0)), .second, .val (.long (e0_1 q0 p1)), .second, .val (.long (e0_2 q0 p1)), .second] [(.long (e0_2 q0 p1)), (.long (f4 (e0_5 q0)))])) _
              refine XS.lcmp X74.here hx rfl (hb hby at_103) rfl ?_
              exact kt)
          by_cases hc104_76 : (lcmpW (f4 (e0_5 q0)) (e0_2 q0 p1)) = (0 : Int32)
          · obtain ⟨fs, hr, hrun, hended, hW, hsame⟩ := X74.leave (v := some (.int (1 : Int32))) (fun h => by rw [Bd.returns] at h; cases h)
            have hv86 : (f0 q0 p1) = (1 : Int32) := by rw [f0, if_neg hc16_8, if_neg hc27_29, if_neg hc38_48, if_pos hc93_73, if_pos hc104_76]
            refine ⟨_, _, pre75 _ ?_, hrun, hended, _, _, rfl, ?_, ⟨_, rfl⟩, hW, hsame.mono (by decide) (by decide)⟩
            · show Steps p.tables e below (T74.setTop (mkF m 104 #[.val (.long q0), .second, .val (.int p1), .val (.int (p1 &&& (3 : Int32))), .val (.ref b1), .val (.long (e0_4 q0)), .second, .val (.long (e0_5 q0)), .second, .val (.long (e0_1 q0 p1)), .second, .val (.long (e0_2 q0 p1)), .second] [(.int (lcmpW (f4 (e0_5 q0)) (e0_2 q0 p1)))])) _
              refine XS.ifNo X74.here hx rfl (hb hby at_104) rfl ((if0 _ _).trans (teq hc104_76).2) ?_
              show Steps p.tables e below (T74.setTop (mkF m 107 #[.val (.long q0), .second, .val (.int p1), .val (.int (p1 &&& (3 : Int32))), .val (.ref b1), .val (.long (e0_4 q0)), .second, .val (.long (e0_5 q0)), .second, .val (.long (e0_1 q0 p1)), .second, .val (.long (e0_2 q0 p1)), .second] [])) _
              refine XS.iconst X74.here hx rfl (hb hby at_107) ?_
              show Steps p.tables e below (T74.setTop (mkF m 108 #[.val (.long q0), .second, .val (.int p1), .val (.int (p1 &&& (3 : Int32))), .val (.ref b1), .val (.long (e0_4 q0)), .second, .val (.long (e0_5 q0)), .second, .val (.long (e0_1 q0 p1)), .second, .val (.long (e0_2 q0 p1)), .second] [(.int (1 : Int32))])) _
              refine XS.goto X74.here hx rfl (pc0 := 108) (pc' := 112) rfl (hb hby at_108) (by decide) (by decide) ?_
              show Steps p.tables e below (T74.setTop (mkF m 112 #[.val (.long q0), .second, .val (.int p1), .val (.int (p1 &&& (3 : Int32))), .val (.ref b1), .val (.long (e0_4 q0)), .second, .val (.long (e0_5 q0)), .second, .val (.long (e0_1 q0 p1)), .second, .val (.long (e0_2 q0 p1)), .second] [(.int (1 : Int32))])) _
              exact retN X74 hx (t := .boolean) Bd.returns (by simp) (hb hby at_112) hr
            · show Q0 Z q0 p1 h0 n0 _ T74.heap _
              rw [e74q]
              exact ⟨congrArg (fun q => some (Value.int q)) hv86.symm, N74⟩
          · obtain ⟨fs, hr, hrun, hended, hW, hsame⟩ := X74.leave (v := some (.int (0 : Int32))) (fun h => by rw [Bd.returns] at h; cases h)
            have hv87 : (f0 q0 p1) = (0 : Int32) := by rw [f0, if_neg hc16_8, if_neg hc27_29, if_neg hc38_48, if_pos hc93_73, if_neg hc104_76]
            refine ⟨_, _, pre75 _ ?_, hrun, hended, _, _, rfl, ?_, ⟨_, rfl⟩, hW, hsame.mono (by decide) (by decide)⟩
            · show Steps p.tables e below (T74.setTop (mkF m 104 #[.val (.long q0), .second, .val (.int p1), .val (.int (p1 &&& (3 : Int32))), .val (.ref b1), .val (.long (e0_4 q0)), .second, .val (.long (e0_5 q0)), .second, .val (.long (e0_1 q0 p1)), .second, .val (.long (e0_2 q0 p1)), .second] [(.int (lcmpW (f4 (e0_5 q0)) (e0_2 q0 p1)))])) _
              refine XS.ifYes X74.here hx rfl (pc0 := 104) (pc' := 111) rfl (hb hby at_104) rfl ((if0 _ _).trans (feq hc104_76).2) (by decide) (by decide) ?_
              show Steps p.tables e below (T74.setTop (mkF m 111 #[.val (.long q0), .second, .val (.int p1), .val (.int (p1 &&& (3 : Int32))), .val (.ref b1), .val (.long (e0_4 q0)), .second, .val (.long (e0_5 q0)), .second, .val (.long (e0_1 q0 p1)), .second, .val (.long (e0_2 q0 p1)), .second] [])) _
              refine XS.iconst X74.here hx rfl (hb hby at_111) ?_
              show Steps p.tables e below (T74.setTop (mkF m 112 #[.val (.long q0), .second, .val (.int p1), .val (.int (p1 &&& (3 : Int32))), .val (.ref b1), .val (.long (e0_4 q0)), .second, .val (.long (e0_5 q0)), .second, .val (.long (e0_1 q0 p1)), .second, .val (.long (e0_2 q0 p1)), .second] [(.int (0 : Int32))])) _
              exact retN X74 hx (t := .boolean) Bd.returns (by simp) (hb hby at_112) hr
            · show Q0 Z q0 p1 h0 n0 _ T74.heap _
              rw [e74q]
              exact ⟨congrArg (fun q => some (Value.int q)) hv87.symm, N74⟩
        · obtain ⟨fs, hr, hrun, hended, hW, hsame⟩ := X71.leave (v := some (.int (0 : Int32))) (fun h => by rw [Bd.returns] at h; cases h)
          have hv88 : (f0 q0 p1) = (0 : Int32) := by rw [f0, if_neg hc16_8, if_neg hc27_29, if_neg hc38_48, if_neg hc93_73]
          refine ⟨_, _, pre72 _ ?_, hrun, hended, _, _, rfl, ?_, ⟨_, rfl⟩, hW, hsame.mono (by decide) (by decide)⟩
          · show Steps p.tables e below (T71.setTop (mkF m 93 #[.val (.long q0), .second, .val (.int p1), .val (.int (p1 &&& (3 : Int32))), .val (.ref b1), .val (.long (e0_4 q0)), .second, .val (.long (e0_5 q0)), .second, .val (.long (e0_1 q0 p1)), .second, .val (.long (e0_2 q0 p1)), .second] [(.int (lcmpW (f4 (e0_4 q0)) (e0_1 q0 p1)))])) _
            refine XS.ifYes X71.here hx rfl (pc0 := 93) (pc' := 111) rfl (hb hby at_93) rfl ((if0 _ _).trans (feq hc93_73).2) (by decide) (by decide) ?_
            show Steps p.tables e below (T71.setTop (mkF m 111 #[.val (.long q0), .second, .val (.int p1), .val (.int (p1 &&& (3 : Int32))), .val (.ref b1), .val (.long (e0_4 q0)), .second, .val (.long (e0_5 q0)), .second, .val (.long (e0_1 q0 p1)), .second, .val (.long (e0_2 q0 p1)), .second] [])) _
            refine XS.iconst X71.here hx rfl (hb hby at_111) ?_
            show Steps p.tables e below (T71.setTop (mkF m 112 #[.val (.long q0), .second, .val (.int p1), .val (.int (p1 &&& (3 : Int32))), .val (.ref b1), .val (.long (e0_4 q0)), .second, .val (.long (e0_5 q0)), .second, .val (.long (e0_1 q0 p1)), .second, .val (.long (e0_2 q0 p1)), .second] [(.int (0 : Int32))])) _
            exact retN X71 hx (t := .boolean) Bd.returns (by simp) (hb hby at_112) hr
          · show Q0 Z q0 p1 h0 n0 _ T71.heap _
            rw [e71q]
            exact ⟨congrArg (fun q => some (Value.int q)) hv88.symm, N71⟩
set_option maxRecDepth 65536 in
set_option maxHeartbeats 40000000 in
theorem comes_1 {Post : Tables → Env → Array Value → State → Outcome → State → Prop} (hpost : ∀ tb e args s v u, (limb_1_1.after args s (.returned v) u = true ∧ limb_1_2.after args s (.returned v) u = true ∧ True) → FrameEnd s (.returned v) u (Jvm.fieldLocs frame_1_writes args s ++ Jvm.arrayLocs frame_1_arrays args s ++ Jvm.staticLocs frame_1_statics s) 16 128 → Post tb e args s (.returned v) u) :
    ArmFor flags0 classFile x code maxLocals ret World_1 tables_1 room_1 Calls_1 rest_1 Pre_1 Post := by
  intro l hfl _ _ p e ha hc hk s m args below hf hA hF happ hP
  obtain ⟨hcalls, hrest, hpre⟩ := hP
  obtain ⟨-, -, -, hnamed, -, -, -, hat⟩ := (Spec.applies_iff hf).mp happ
  obtain ⟨hg, hn⟩ := and_e (Cond.before_iff.mp (show (Jvm.Cond.and given_1 narrow_1).before args s = true from hpre))
  obtain ⟨g1, g2⟩ := and_e hg
  obtain ⟨g3, g4⟩ := and_e g2
  obtain ⟨w0, w1, rfl⟩ : ∃ w0 w1 : Value, args = #[w0, w1] := by
    have hs : args.size = 2 := by simpa [Cond.value, given_1] using g1
    obtain ⟨L⟩ := args
    match L, hs with
    | [w0, w1], _ => exact ⟨w0, w1, rfl⟩
  have hw := fun d (hd : d ∈ tables_1) => atoms_spec (ws := Jvm.Cond.code x code maxLocals ret :: tables_1) hat d (List.mem_cons_of_mem _ hd)
  have hfit : Fit s := fun {y c} hc i hi => by
    obtain ⟨ha, rfl⟩ := Array.getElem?_eq_some_iff.mp hc
    have q := List.all_eq_true.mp ((Array.all_eq_true_iff_forall_mem.mp hF) _ (Array.getElem_mem ha)) i (List.mem_range.mpr hi)
    simpa [Array.getElem?_eq_getElem hi] using q
  obtain ⟨i0, ei0⟩ := isL_v g3
  obtain rfl : w0 = (.long i0) := Option.some.inj ei0
  obtain ⟨i1, ei1⟩ := is_v g4
  obtain rfl : w1 = (.int i1) := Option.some.inj ei1
  obtain ⟨n, o, h1, h2, h3, _, L, rfl, ⟨hv0, N⟩, hq⟩ := rm0 l s _ hw tables_1 i0 i1 s.heap s.heap.size (Nat.le_refl _) p e ha hc hk s m _ below hf ((Spec.applies_iff_loose hf).mp happ).1 ⟨rfl, State.Warmed39.refl s, rfl⟩ trivial
  rw [own_law] at hv0
  subst hv0
  refine ⟨n, _, h1, h2, h3, hpost _ _ _ _ _ _ ⟨Cond.after_iff.mpr rfl, Cond.after_iff.mpr (eq_i res_at (Term.int_eval (1)) rfl), trivial⟩ ⟨hq.1, hq.2.1, (hq.2.2.sift fun y hy => Or.inr (N y hy)).mono (by decide) (by decide)⟩⟩
theorem main_1_1 : Claimed_1_1 := comes_1 fun _ _ _ _ _ _ h hF => ⟨h.1, hF⟩
theorem main_1_2 : Claimed_1_2 := comes_1 fun _ _ _ _ _ _ h hF => ⟨h.2.1, hF⟩
end Jvm.Pilot.@@N@@
namespace Jvm.Pilot.@@N@@
open Jvm Jvm.ClassFile Sem Op Lib Jvm.Free Jvm.Stand Jvm.Pilot.@@N@@.Jvm.D
/-! MADE BY PROGRAM (witnessworld.py) out of the Statement's table words and the real class files: 9 classes; the members and pool entries that the words name. The judged class is class 1, her method 3. -/
namespace start1
open Jvm.ClassFile
def u (s : String) : CpInfo := .utf8 (stringToUtf16 s)
/-- a pool by its gaps: so many unusable entries, then the entry; so many at the end -/
def gap : Nat → List CpInfo → List CpInfo
  | 0, r => r
  | n + 1, r => .unusable :: gap n r
def poolList (es : List (Nat × CpInfo)) (last : Nat) : List CpInfo := es.foldr (fun e r => gap e.1 (e.2 :: r)) (gap last [])
def pool (es : List (Nat × CpInfo)) (last : Nat) : Array CpInfo := ⟨poolList es last⟩
def fileOf (pool : Array CpInfo) (this : Nat) (attrs : Array Attribute := #[]) (ms : Array MethodInfo := #[]) (fl : Nat := 33) (sup : Nat := 0) (ifs : Array Nat := #[]) (fds : Array FieldInfo := #[]) : ClassFile where
  minorVersion := 0
  majorVersion := 65
  constantPool := pool
  accessFlags := fl
  thisClass := this
  superClass := sup
  interfaces := ifs
  fields := fds
  methods := ms
  attributes := attrs
def plain (name : String) (sup : Option ClassId) : Class where
  name := name
  kind := .ordinary
  loader := none
  accessFlags := 33
  super := sup
  interfaces := #[]
  cf := none
  fields := #[]
  methods := #[]
  instanceTypes := #[]
  staticTypes := #[]
  resolved := #[]
  callSites := []
  init := .initialized
  statics := none
  mirror := none

def pool0 : Array CpInfo := pool [(5, u "<init>"), (0, u "()V"), (1, .class_ 10), (1, u "java/lang/Object")] 113

def k0c0 : Code := { maxStack := 0, maxLocals := 1, code := object_method_1_code, exceptionTable := #[], attributes := #[] }
def k0m0 : Method := { name := "<init>", desc := "()V", sig := { parameters := [], returnType := none }, accessFlags := 1, code := some k0c0 }
/-- java/lang/Object -/
def k0 : Class := { plain "java/lang/Object" none with
  accessFlags := 33
  interfaces := #[]
  cf := some (fileOf pool0 8 #[] #[{ accessFlags := 1, nameIndex := 5, descriptorIndex := 6, attributes := #[] }] 33 0 #[] #[])
  fields := #[]
  methods := #[k0m0]
  instanceTypes := #[]
  staticTypes := #[]
  resolved := Array.replicate 124 none
  statics := none }

def pool1 : Array CpInfo := pool [(2, .class_ 4), (1, u "java/lang/Object"), (0, u "<init>"), (0, u "()V"), (0, .long 2), (1, .long 10723151780598845931), (1, .methodref 12 13), (0, .class_ 14), (0, .nameAndType 15 16), (0, u "com/example/cistern/cistern/sampling/SplitMix64NextLongPinLaw"), (0, u "inv"), (0, u "(J)J"), (0, .long 13787848793156543929), (1, .class_ 20), (0, u "com/example/cistern/cistern/sampling/SplitMix64"), (0, .methodref 19 22), (0, .nameAndType 5 23), (0, u "(J)V"), (0, .methodref 19 25), (0, .nameAndType 26 27), (0, u "nextLong"), (0, u "()J"), (0, .long 11400714819323198485), (1, .methodref 12 31), (0, .nameAndType 32 16), (0, u "unmix"), (0, u "GAMMA"), (0, u "J"), (3, u "law"), (0, u "(JI)Z")] 3

def k1m0 : Method := { name := "<init>", desc := "()V", sig := { parameters := [], returnType := none }, accessFlags := 1, code := none }
def k1c1 : Code := { maxStack := 8, maxLocals := 4, code := method_2_code, exceptionTable := #[], attributes := #[] }
def k1m1 : Method := { name := "inv", desc := "(J)J", sig := { parameters := [.long], returnType := some .long }, accessFlags := 10, code := some k1c1 }
def k1c2 : Code := { maxStack := 5, maxLocals := 10, code := method_3_code, exceptionTable := #[], attributes := #[] }
def k1m2 : Method := { name := "unmix", desc := "(J)J", sig := { parameters := [.long], returnType := some .long }, accessFlags := 10, code := some k1c2 }
def k1c3 : Code := { maxStack := 6, maxLocals := 13, code := code, exceptionTable := #[], attributes := #[] }
def k1m3 : Method := { name := "law", desc := "(JI)Z", sig := { parameters := [.long, .int], returnType := some .boolean }, accessFlags := 9, code := some k1c3 }
/-- com/example/cistern/cistern/sampling/SplitMix64NextLongPinLaw -/
def k1 : Class := { plain "com/example/cistern/cistern/sampling/SplitMix64NextLongPinLaw" (some 0) with
  accessFlags := 49
  interfaces := #[]
  cf := some (fileOf pool1 12 #[] #[{ accessFlags := 1, nameIndex := 5, descriptorIndex := 6, attributes := #[] }, { accessFlags := 10, nameIndex := 15, descriptorIndex := 16, attributes := #[] }, { accessFlags := 10, nameIndex := 32, descriptorIndex := 16, attributes := #[] }, { accessFlags := 9, nameIndex := 38, descriptorIndex := 39, attributes := #[] }] 49 2 #[] #[{ accessFlags := 26, nameIndex := 33, descriptorIndex := 34, attributes := #[] }])
  fields := #[{ name := "GAMMA", type := .long, accessFlags := 26, slot := 0, constantValue := 0 }]
  methods := #[k1m0, k1m1, k1m2, k1m3]
  instanceTypes := #[]
  staticTypes := #[.long]
  resolved := Array.replicate 43 none
  statics := none }

def pool2 : Array CpInfo := pool [(1, .methodref 2 3), (0, .class_ 4), (0, .nameAndType 5 6), (0, u "java/lang/Object"), (0, u "<init>"), (0, u "()V"), (0, .fieldref 8 9), (0, .class_ 10), (0, .nameAndType 11 12), (0, u "com/example/cistern/cistern/sampling/SplitMix64"), (0, u "_state"), (0, u "J"), (0, .long 11400714819323198485), (1, .long 13787848793156543929), (1, .long 10723151780598845931), (3, u "nextLong"), (0, u "()J"), (2, u "GAMMA"), (1, u "(J)V")] 9

def k2c0 : Code := { maxStack := 3, maxLocals := 3, code := prog_40_method_1_code, exceptionTable := #[], attributes := #[] }
def k2m0 : Method := { name := "<init>", desc := "(J)V", sig := { parameters := [.long], returnType := none }, accessFlags := 0, code := some k2c0 }
def k2c1 : Code := { maxStack := 5, maxLocals := 3, code := prog_40_method_2_code, exceptionTable := #[], attributes := #[] }
def k2m1 : Method := { name := "nextLong", desc := "()J", sig := { parameters := [], returnType := some .long }, accessFlags := 0, code := some k2c1 }
/-- com/example/cistern/cistern/sampling/SplitMix64 -/
def k2 : Class := { plain "com/example/cistern/cistern/sampling/SplitMix64" (some 0) with
  accessFlags := 48
  interfaces := #[]
  cf := some (fileOf pool2 8 #[] #[{ accessFlags := 0, nameIndex := 5, descriptorIndex := 27, attributes := #[] }, { accessFlags := 0, nameIndex := 21, descriptorIndex := 22, attributes := #[] }] 48 2 #[] #[{ accessFlags := 26, nameIndex := 25, descriptorIndex := 12, attributes := #[] }, { accessFlags := 2, nameIndex := 11, descriptorIndex := 12, attributes := #[] }])
  fields := #[{ name := "GAMMA", type := .long, accessFlags := 26, slot := 0, constantValue := 0 }, { name := "_state", type := .long, accessFlags := 2, slot := 0, constantValue := 0 }]
  methods := #[k2m0, k2m1]
  instanceTypes := #[.long]
  staticTypes := #[.long]
  resolved := Array.replicate 37 none
  statics := none }

def pool3 : Array CpInfo := pool [(1, u "java/lang/Cloneable"), (0, .class_ 1), (0, u "java/lang/Object"), (0, .class_ 3)] 3

/-- java/lang/Cloneable -/
def k3 : Class := { plain "java/lang/Cloneable" (some 0) with
  accessFlags := 1537
  interfaces := #[]
  cf := some (fileOf pool3 2 #[] #[] 1537 4 #[] #[])
  fields := #[]
  methods := #[]
  instanceTypes := #[]
  staticTypes := #[]
  resolved := Array.replicate 8 none
  statics := none }

def pool4 : Array CpInfo := pool [(1, u "java/io/Serializable"), (0, .class_ 1), (0, u "java/lang/Object"), (0, .class_ 3)] 3

/-- java/io/Serializable -/
def k4 : Class := { plain "java/io/Serializable" (some 0) with
  accessFlags := 1537
  interfaces := #[]
  cf := some (fileOf pool4 2 #[] #[] 1537 4 #[] #[])
  fields := #[]
  methods := #[]
  instanceTypes := #[]
  staticTypes := #[]
  resolved := Array.replicate 8 none
  statics := none }

/-- the primitive byte -/
def k5 : Class := { plain "byte" none with kind := .primitive 'B', accessFlags := 0x411 }
/-- [B -/
def k6 : Class := { plain "[B" (some 0) with kind := .array 5 .byte, interfaces := #[3, 4], accessFlags := 1041 }

/-- the primitive int -/
def k7 : Class := { plain "int" none with kind := .primitive 'I', accessFlags := 0x411 }
/-- [I -/
def k8 : Class := { plain "[I" (some 0) with kind := .array 7 .int, interfaces := #[3, 4], accessFlags := 1041 }

def heap : Heap := #[]
def classes : Array Class := #[k0, k1, k2, k3, k4, k5, k6, k7, k8]
def interned : List (Array UInt16 × Addr) := []
def slotsUsed : Nat := 0
def theMethod : MethodId := ⟨1, 3⟩
def args0 : Array Value := #[.long 5, .int 9]
def aboutOver (below : List Frame) : State where
  vm := { classes := classes, interned := interned.toArray }
  heap := heap
  slotsUsed := slotsUsed
  threads := #[{ frames := .invoking theMethod args0 :: below }]
def below0 : List Frame := [.native { method := ⟨0, 0⟩, args := #[] }]
def about1 : State := aboutOver below0
def p0 : Program := .bare "" "" ""
def e0 : Env := launch0.env 0 0 0
theorem w_frames : about1.frames = Frame.invoking theMethod args0 :: below0 := rfl
set_option maxRecDepth 65536 in
theorem w_args : argsFit about1.vm theMethod args0 = true := by decide +kernel
set_option maxRecDepth 65536 in
theorem w_heap : heapFits about1 = true := by decide +kernel
set_option maxRecDepth 65536 in
theorem w_runnable : about1.curStatus? = some .runnable := by decide +kernel
set_option maxRecDepth 65536 in
theorem w_alone : about1.alone = true := by decide +kernel
set_option maxRecDepth 65536 in
theorem w_named : about1.methodNamed? x = some theMethod := by decide +kernel
set_option maxRecDepth 65536 in
theorem w_hears : about1.hears theMethod below0 = true := by decide +kernel
set_option maxRecDepth 65536 in
theorem w_ripe : about1.ripe theMethod args0 below0 = true := by decide +kernel
theorem w_running : about1.status = .running := rfl
set_option maxRecDepth 65536 in
theorem w_room : about1.hasRoom e0.platform room_1 = true :=
  launch0.hasRoom_least _ room_1 (by decide +kernel) (by decide +kernel) (by decide +kernel) (by decide +kernel) (by decide +kernel) (by decide +kernel)
theorem allAtoms_all (ts : List Jvm.Cond) (a : Array Jvm.Value) (st : Jvm.State) : (allAtoms ts).before a st = ts.all (fun c => c.before a st) := by
  induction ts with
  | nil => rfl
  | cons c t ih =>
    show (Jvm.Cond.and c (allAtoms t)).before a st = _
    rw [Jvm.Cond.before_and, ih, List.all_cons]
def words1 : List Jvm.Cond := Jvm.Cond.code x code maxLocals ret :: tables_1
/-- a 'code' word, met by the world's own term for the bytes: nothing is compared byte by byte -/
theorem code_word {y : MethodName} {bytes : ByteArray} {mx : Nat} {rt : Option FieldType} {a : Array Value} {s : State} {m : MethodId} {meth : Method} {c : Code} (h1 : s.methodNamed? y = some m) (h2 : s.vm.method? m = some meth) (h3 : meth.code = some c) (h4 : c.code = bytes)
    (h5 : (c.maxLocals == mx && c.exceptionTable.isEmpty && decide (c.maxStack ≤ mostOperands) && decide (meth.sig.returnType = rt) && !meth.locks && decide (parseMethodDescriptor y.desc = some meth.sig)) = true) : (Jvm.Cond.code y bytes mx rt).before a s = true := by
  simp only [Bool.and_eq_true, beq_iff_eq, Bool.not_eq_true', decide_eq_true_eq] at h5
  obtain ⟨⟨⟨⟨⟨g1, g2⟩, g3⟩, g4⟩, g5⟩, g6⟩ := h5
  simp [Cond.before, Cond.holds, Cond.value, h1, h2, h3, h4, g1, g2, g3, g4, g5, g6]
def isCode : Jvm.Cond → Bool
  | .code _ _ _ _ => true
  | _ => false
theorem all_split {L : List Jvm.Cond} {P : Jvm.Cond → Bool} (h1 : L.all (fun c => isCode c || P c) = true) (h2 : ∀ c ∈ L.filter isCode, P c = true) : L.all P = true := by
  refine List.all_eq_true.mpr fun c hc => ?_
  have h := List.all_eq_true.mp h1 c hc
  rcases Bool.eq_false_or_eq_true (isCode c) with hi | hi
  · exact h2 c (List.mem_filter.mpr ⟨hc, hi⟩)
  · simpa [hi] using h
set_option maxRecDepth 65536 in
theorem w_c0 : (Jvm.Cond.code x code maxLocals ret).before args0 about1 = true := code_word (m := ⟨1, 3⟩) (meth := k1m3) (c := k1c3) (by decide +kernel) rfl rfl rfl (by decide +kernel)
set_option maxRecDepth 65536 in
theorem w_c1 : (Jvm.Cond.code ({ cls := "com/example/cistern/cistern/sampling/SplitMix64", name := "<init>", desc := "(J)V" } : Jvm.MethodName) prog_40_method_1_code (3 : Nat) (Option.none : Option Jvm.ClassFile.FieldType)).before args0 about1 = true := code_word (m := ⟨2, 0⟩) (meth := k2m0) (c := k2c0) (by decide +kernel) rfl rfl rfl (by decide +kernel)
set_option maxRecDepth 65536 in
theorem w_c2 : (Jvm.Cond.code ({ cls := "java/lang/Object", name := "<init>", desc := "()V" } : Jvm.MethodName) object_method_1_code (1 : Nat) (Option.none : Option Jvm.ClassFile.FieldType)).before args0 about1 = true := code_word (m := ⟨0, 0⟩) (meth := k0m0) (c := k0c0) (by decide +kernel) rfl rfl rfl (by decide +kernel)
set_option maxRecDepth 65536 in
theorem w_c3 : (Jvm.Cond.code ({ cls := "com/example/cistern/cistern/sampling/SplitMix64", name := "nextLong", desc := "()J" } : Jvm.MethodName) prog_40_method_2_code (3 : Nat) (Option.some Jvm.ClassFile.FieldType.long)).before args0 about1 = true := code_word (m := ⟨2, 1⟩) (meth := k2m1) (c := k2c1) (by decide +kernel) rfl rfl rfl (by decide +kernel)
set_option maxRecDepth 65536 in
theorem w_c4 : (Jvm.Cond.code ({ cls := "com/example/cistern/cistern/sampling/SplitMix64NextLongPinLaw", name := "unmix", desc := "(J)J" } : Jvm.MethodName) method_3_code (10 : Nat) (Option.some Jvm.ClassFile.FieldType.long)).before args0 about1 = true := code_word (m := ⟨1, 2⟩) (meth := k1m2) (c := k1c2) (by decide +kernel) rfl rfl rfl (by decide +kernel)
set_option maxRecDepth 65536 in
theorem w_c5 : (Jvm.Cond.code ({ cls := "com/example/cistern/cistern/sampling/SplitMix64NextLongPinLaw", name := "inv", desc := "(J)J" } : Jvm.MethodName) method_2_code (4 : Nat) (Option.some Jvm.ClassFile.FieldType.long)).before args0 about1 = true := code_word (m := ⟨1, 1⟩) (meth := k1m1) (c := k1c1) (by decide +kernel) rfl rfl rfl (by decide +kernel)
def codes1 : List Jvm.Cond := [Jvm.Cond.code x code maxLocals ret, Jvm.Cond.code ({ cls := "com/example/cistern/cistern/sampling/SplitMix64", name := "<init>", desc := "(J)V" } : Jvm.MethodName) prog_40_method_1_code (3 : Nat) (Option.none : Option Jvm.ClassFile.FieldType), Jvm.Cond.code ({ cls := "java/lang/Object", name := "<init>", desc := "()V" } : Jvm.MethodName) object_method_1_code (1 : Nat) (Option.none : Option Jvm.ClassFile.FieldType), Jvm.Cond.code ({ cls := "com/example/cistern/cistern/sampling/SplitMix64", name := "nextLong", desc := "()J" } : Jvm.MethodName) prog_40_method_2_code (3 : Nat) (Option.some Jvm.ClassFile.FieldType.long), Jvm.Cond.code ({ cls := "com/example/cistern/cistern/sampling/SplitMix64NextLongPinLaw", name := "unmix", desc := "(J)J" } : Jvm.MethodName) method_3_code (10 : Nat) (Option.some Jvm.ClassFile.FieldType.long), Jvm.Cond.code ({ cls := "com/example/cistern/cistern/sampling/SplitMix64NextLongPinLaw", name := "inv", desc := "(J)J" } : Jvm.MethodName) method_2_code (4 : Nat) (Option.some Jvm.ClassFile.FieldType.long)]
set_option maxRecDepth 65536 in
theorem codes_eq : words1.filter isCode = codes1 := rfl
theorem w_codes : ∀ c ∈ words1.filter isCode, c.before args0 about1 = true := by
  rw [codes_eq]
  intro c hc
  simp only [codes1, List.mem_cons, List.not_mem_nil, or_false] at hc
  rcases hc with rfl | rfl | rfl | rfl | rfl | rfl
  · exact w_c0
  · exact w_c1
  · exact w_c2
  · exact w_c3
  · exact w_c4
  · exact w_c5
set_option maxRecDepth 65536 in
theorem w_t1 : (words1.take 24).all (fun c => isCode c || c.before args0 about1) = true := by decide +kernel
set_option maxRecDepth 65536 in
theorem w_t2 : (words1.drop 24).all (fun c => isCode c || c.before args0 about1) = true := by decide +kernel
theorem w_tables : (allAtoms (Jvm.Cond.code x code maxLocals ret :: tables_1)).before args0 about1 = true := by
  rw [allAtoms_all]
  show words1.all (fun c => c.before args0 about1) = true
  refine all_split ?_ w_codes
  rw [← List.take_append_drop 24 words1, List.all_append, w_t1, w_t2]
  rfl
set_option maxRecDepth 65536 in
theorem w_case : (Jvm.Cond.and given_1 narrow_1).before args0 about1 = true := by decide +kernel
theorem w_applies : (headSpec (Jvm.Cond.code x code maxLocals ret :: tables_1) room_1).applies x e0.platform about1 = true :=
  (Spec.applies_iff w_frames).mpr ⟨w_running, w_runnable, w_alone, w_named, w_hears, w_ripe, w_room, w_tables⟩
theorem atStart : AtStart classFile x code maxLocals ret World_1 tables_1 room_1 Calls_1 rest_1 Pre_1 launch0 p0 e0 about1 theMethod args0 below0 :=
  ⟨lists_1, trivial, launch0.admits_env _ _ _, launch0.least_env, fairChoices_fair.cas, fairChoices_fair.clock, w_frames, w_args, w_heap, w_applies, trivial, trivial, w_case⟩
end start1
theorem witness_1 : WitnessClaimed_1 := ⟨start1.p0, start1.e0, start1.about1, start1.theMethod, start1.args0, start1.below0, start1.atStart⟩
end Jvm.Pilot.@@N@@
