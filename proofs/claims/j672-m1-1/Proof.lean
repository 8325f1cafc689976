import JvmDerived
import JvmDerived.Pilot.@@N@@Statement
import JvmDerived.Pilot.@@N@@Code
set_option linter.unusedVariables false
set_option linter.unusedSimpArgs false
namespace Jvm.RoadKit
open Sem ClassFile Op Lib Jvm.Stand Jvm.Free Jvm.LawKit
section New
variable {p : Program} {l : Launch} {e : Env} {R : Room} {s : State} {m : MethodId} {args : Array Value} {below : List Frame} {meth : Method} {c : Code} {T : State} {locs : List Loc} {cells slots : Nat}
theorem retI (X : Stand p l e R s m args below meth c T locs cells slots) (hx : p.tables.exec = Jvm.exec) {pc : Nat} {Ls : Array Slot} {z : Int32} {rest : List Value} (hret : meth.sig.returnType = some .int) (hd : decode c.code pc = .ok (.ireturn, 1)) {fs : List Frame}
    (hl : ∀ (f : JFrame) (acts : List Action), f.method = m → f.locked = none → f.entered = [] → (doReturn e (T.setTop f) acts (some (.int z))).1 = T.setFrames fs) : Steps p.tables e below (T.setTop (mkF m pc Ls (.int z :: rest))) (T.setFrames fs) := by
  have hm' : T.vm.method? m = some meth := X.method'
  have hn : narrow .int (.int z) = .int z := rfl
  show Steps p.tables e below (T.setTop { method := m, pc := pc, locals := Ls, stack := _ :: rest, locked := none }) _
  jvm_step X.here [X.here.top, hx, hd, hm', hret, hn]
  first | (intro acts; rw [hl _ acts rfl rfl rfl]) | rw [hl _ _ rfl rfl rfl]
  exact Steps.refl _
end New
end Jvm.RoadKit
namespace Jvm.Pilot.@@N@@
open Jvm Jvm.ClassFile Sem Op Lib Jvm.Free Jvm.Stand Jvm.LawKit Jvm.RoadKit Bundle Jvm.Pilot.@@N@@.Jvm.D
section OwnArrays
variable {Z : State} {h h' : Heap} {a b : Addr} {ty : FieldType} {n j : Int32} {F : Nat → Int32} {G : Nat → Int64} {sl : Nat} {v : Value} {ws : List Addr} {k : ClassId} {x : Int32} {y : Int64}
/-- an array of ints (chars, bytes, booleans ..): its length and its components -/
def own_AI (Z : State) (h : Heap) (a : Addr) (ty : FieldType) (n : Int32) (F : Nat → Int32) : Prop := ∃ c : Cell, Arr Z h a c ty ∧ c.slots.size = n.toNatClampNeg ∧ ¬ n < 0 ∧ ∀ i, i < c.slots.size → c.slots[i]? = some (.int (F i)) ∧ fits ty (.int (F i)) = true
/-- an array of longs -/
def own_AJ (Z : State) (h : Heap) (a : Addr) (ty : FieldType) (n : Int32) (F : Nat → Int64) : Prop := ∃ c : Cell, Arr Z h a c ty ∧ c.slots.size = n.toNatClampNeg ∧ ¬ n < 0 ∧ ∀ i, i < c.slots.size → c.slots[i]? = some (.long (F i))
/-- an array of which the length alone is told -/
def own_AL (Z : State) (h : Heap) (a : Addr) (ty : FieldType) (n : Int32) : Prop := ∃ c : Cell, Arr Z h a c ty ∧ c.slots.size = n.toNatClampNeg ∧ ¬ n < 0 ∧ True
def own_upd {α : Type} (F : Nat → α) (i : Nat) (v : α) : Nat → α := fun q => if q = i then v else F q
theorem own_upd_at {α : Type} (F : Nat → α) (i : Nat) (v : α) (q : Nat) : own_upd F i v q = if q = i then v else F q := rfl
theorem own_lt {c : Cell} (q : ¬ (j < 0 ∨ c.slots.size ≤ j.toNatClampNeg)) : j.toNatClampNeg < c.slots.size := Nat.lt_of_not_le fun z => q (Or.inr z)
theorem own_AI.lt (H : own_AI Z h a ty n F) : a < h.size := by obtain ⟨c, A, -⟩ := H; exact A.lt
theorem own_AI.ext (H : own_AI Z h a ty n F) (E : Ext h h') : own_AI Z h' a ty n F := by obtain ⟨c, A, r⟩ := H; exact ⟨c, A.ext E, r⟩
theorem own_AI.other (H : own_AI Z h b ty n F) (W : Wr h h' a sl v) (q : b ≠ a) : own_AI Z h' b ty n F := by obtain ⟨c, A, r⟩ := H; exact ⟨c, A.other W q, r⟩
theorem own_AI.keep (H : own_AI Z h a ty n F) (K : Keep h h' ws) (q : a ∉ ws) : own_AI Z h' a ty n F := by obtain ⟨c, A, r⟩ := H; exact ⟨c, ⟨K.2.1 a c A.1 q, A.2⟩, r⟩
theorem own_AI.new (A : Arr Z h a (newA k ty n) ty) (q : ¬ n < 0) (hd : defaultValue ty = .int 0) : own_AI Z h a ty n (fun _ => 0) :=
  ⟨_, A, sz_new _ _ _, q, fun i hi => by
    rw [sz_new] at hi
    refine ⟨by simp [newA, hi, hd], ?_⟩
    rw [← hd]; cases ty <;> rfl⟩
theorem own_AI.set (H : own_AI Z h a ty n F) (hv : fits ty (.int x) = true) (W : Wr h h' a j.toNatClampNeg (.int x)) : own_AI Z h' a ty n (own_upd F j.toNatClampNeg x) := by
  obtain ⟨c, A, S, q, H⟩ := H
  refine ⟨_, A.same W, by simpa [Cell.setSlot] using S, q, fun i hi => ?_⟩
  have hi' : i < c.slots.size := by simpa [Cell.setSlot] using hi
  by_cases u : i = j.toNatClampNeg
  · rw [own_upd_at, if_pos u]; subst u; exact ⟨by simp [Cell.setSlot, hi'], hv⟩
  · rw [own_upd_at, if_neg u]
    refine ⟨?_, (H i hi').2⟩
    have := (H i hi').1
    simp only [Cell.setSlot] at this ⊢
    rw [Array.getElem?_setIfInBounds_ne (Ne.symm u)]; exact this
theorem own_AJ.lt (H : own_AJ Z h a ty n G) : a < h.size := by obtain ⟨c, A, -⟩ := H; exact A.lt
theorem own_AJ.ext (H : own_AJ Z h a ty n G) (E : Ext h h') : own_AJ Z h' a ty n G := by obtain ⟨c, A, r⟩ := H; exact ⟨c, A.ext E, r⟩
theorem own_AJ.other (H : own_AJ Z h b ty n G) (W : Wr h h' a sl v) (q : b ≠ a) : own_AJ Z h' b ty n G := by obtain ⟨c, A, r⟩ := H; exact ⟨c, A.other W q, r⟩
theorem own_AJ.keep (H : own_AJ Z h a ty n G) (K : Keep h h' ws) (q : a ∉ ws) : own_AJ Z h' a ty n G := by obtain ⟨c, A, r⟩ := H; exact ⟨c, ⟨K.2.1 a c A.1 q, A.2⟩, r⟩
theorem own_AJ.new (A : Arr Z h a (newA k .long n) .long) (q : ¬ n < 0) : own_AJ Z h a .long n (fun _ => 0) :=
  ⟨_, A, sz_new _ _ _, q, fun i hi => by rw [sz_new] at hi; simp [newA, hi, defaultValue]⟩
theorem own_AJ.set (H : own_AJ Z h a ty n G) (W : Wr h h' a j.toNatClampNeg (.long y)) : own_AJ Z h' a ty n (own_upd G j.toNatClampNeg y) := by
  obtain ⟨c, A, S, q, H⟩ := H
  refine ⟨_, A.same W, by simpa [Cell.setSlot] using S, q, fun i hi => ?_⟩
  have hi' : i < c.slots.size := by simpa [Cell.setSlot] using hi
  by_cases u : i = j.toNatClampNeg
  · rw [own_upd_at, if_pos u]; subst u; simp [Cell.setSlot, hi']
  · rw [own_upd_at, if_neg u]
    have := H i hi'
    simp only [Cell.setSlot] at this ⊢
    rw [Array.getElem?_setIfInBounds_ne (Ne.symm u)]; exact this
theorem own_AL.lt (H : own_AL Z h a ty n) : a < h.size := by obtain ⟨c, A, -⟩ := H; exact A.lt
theorem own_AL.ext (H : own_AL Z h a ty n) (E : Ext h h') : own_AL Z h' a ty n := by obtain ⟨c, A, r⟩ := H; exact ⟨c, A.ext E, r⟩
theorem own_AL.other (H : own_AL Z h b ty n) (W : Wr h h' a sl v) (q : b ≠ a) : own_AL Z h' b ty n := by obtain ⟨c, A, r⟩ := H; exact ⟨c, A.other W q, r⟩
theorem own_AL.keep (H : own_AL Z h a ty n) (K : Keep h h' ws) (q : a ∉ ws) : own_AL Z h' a ty n := by obtain ⟨c, A, r⟩ := H; exact ⟨c, ⟨K.2.1 a c A.1 q, A.2⟩, r⟩
theorem own_AL.new (A : Arr Z h a (newA k ty n) ty) (q : ¬ n < 0) : own_AL Z h a ty n := ⟨_, A, sz_new _ _ _, q, trivial⟩
theorem own_AL.set (H : own_AL Z h a ty n) (W : Wr h h' a sl v) : own_AL Z h' a ty n := by
  obtain ⟨c, A, S, q, -⟩ := H
  exact ⟨_, A.same W, by simpa [Cell.setSlot] using S, q, trivial⟩
end OwnArrays
theorem d1_0 : decode prog_102_method_3_code 0 = .ok (.iload_n 0, 1) := by decide +kernel
theorem d1_1 : decode prog_102_method_3_code 1 = .ok (.bipush 13, 2) := by decide +kernel
theorem d1_3 : decode prog_102_method_3_code 3 = .ok (.if_icmp .gt 17, 3) := by decide +kernel
theorem d1_6 : decode prog_102_method_3_code 6 = .ok (.iload_n 0, 1) := by decide +kernel
theorem d1_7 : decode prog_102_method_3_code 7 = .ok (.bipush 10, 2) := by decide +kernel
theorem d1_9 : decode prog_102_method_3_code 9 = .ok (.if_icmp .lt 7, 3) := by decide +kernel
theorem d1_12 : decode prog_102_method_3_code 12 = .ok (.iconst 1, 1) := by decide +kernel
theorem d1_13 : decode prog_102_method_3_code 13 = .ok (.goto 33, 3) := by decide +kernel
theorem d1_16 : decode prog_102_method_3_code 16 = .ok (.iconst 0, 1) := by decide +kernel
theorem d1_17 : decode prog_102_method_3_code 17 = .ok (.goto 29, 3) := by decide +kernel
theorem d1_20 : decode prog_102_method_3_code 20 = .ok (.iload_n 0, 1) := by decide +kernel
theorem d1_21 : decode prog_102_method_3_code 21 = .ok (.sipush 133, 3) := by decide +kernel
theorem d1_24 : decode prog_102_method_3_code 24 = .ok (.if_icmp .eq 17, 3) := by decide +kernel
theorem d1_27 : decode prog_102_method_3_code 27 = .ok (.iload_n 0, 1) := by decide +kernel
theorem d1_28 : decode prog_102_method_3_code 28 = .ok (.sipush 8232, 3) := by decide +kernel
theorem d1_31 : decode prog_102_method_3_code 31 = .ok (.if_icmp .eq 10, 3) := by decide +kernel
theorem d1_34 : decode prog_102_method_3_code 34 = .ok (.iload_n 0, 1) := by decide +kernel
theorem d1_35 : decode prog_102_method_3_code 35 = .ok (.sipush 8233, 3) := by decide +kernel
theorem d1_38 : decode prog_102_method_3_code 38 = .ok (.if_icmp .ne 7, 3) := by decide +kernel
theorem d1_41 : decode prog_102_method_3_code 41 = .ok (.iconst 1, 1) := by decide +kernel
theorem d1_42 : decode prog_102_method_3_code 42 = .ok (.goto 4, 3) := by decide +kernel
theorem d1_45 : decode prog_102_method_3_code 45 = .ok (.iconst 0, 1) := by decide +kernel
theorem d1_46 : decode prog_102_method_3_code 46 = .ok (.ireturn, 1) := by decide +kernel
theorem pn_1 : plainName "com/example/indentary/indentary/reader/TableLines" = true := by first | (simp [plainName, overriddenIn]; done) | decide +kernel
theorem ef_1 (m : MethodId) (x0 : Int32) : entryFrame m #[(.int x0)] 1 = mkF m 0 #[.val (.int x0)] [] := by first | (simp [entryFrame, mkF, argsToLocals, Value.category]; done) | rfl
def f1 (p0 : Int32) : Int32 :=
  if (13 : Int32) < p0 then (if p0 = (133 : Int32) then ((1 : Int32)) else
  (if p0 = (8232 : Int32) then ((1 : Int32)) else
  (if p0 = (8233 : Int32) then ((1 : Int32)) else
  ((0 : Int32))))) else
  (if p0 < (10 : Int32) then ((0 : Int32)) else
  ((1 : Int32)))
def Q1 (Z : State) (p0 : Int32) (h0 : Heap) (n0 : Nat) (v : Option Value) (h : Heap) (L : List Loc) : Prop := v = some (.int (f1 p0)) ∧ Fr n0 L ∧ h = h0
set_option maxRecDepth 65536 in
set_option maxHeartbeats 40000000 in
theorem rm1 (l : Launch) (Z : State) (a0 : Array Value) (hw : ∀ d ∈ tables_1, d.before a0 Z = true) (ws : List Jvm.Cond) (p0 : Int32) (h0 : Heap) (n0 : Nat) (Z0 : n0 ≤ h0.size) :
    MetFree l (⟨"com/example/indentary/indentary/reader/TableLines", "isLineBreak", "(C)Z"⟩ : MethodName) (head1 (Jvm.Cond.code (⟨"com/example/indentary/indentary/reader/TableLines", "isLineBreak", "(C)Z"⟩ : MethodName) prog_102_method_3_code 1 (some .boolean) :: ws) ({ frames := 0, cells := 0, slots := 0, locals := 0 } : Room)) (fun a U => a = #[(.int p0)] ∧ Z.Warmed39 U.vm ∧ U.heap = h0) (fun _ _ _ _ _ => True) (fun _ U o U' => ∃ v L, o = .returned v ∧ Q1 Z p0 h0 n0 v U'.heap L ∧ FrameEnd U o U' L ({ frames := 0, cells := 0, slots := 0, locals := 0 } : Room).cells ({ frames := 0, cells := 0, slots := 0, locals := 0 } : Room).slots) := by
  refine MetFree.of_bodySF (plainFor_of_name pn_1) hisR ?_
  intro p e s m args below meth c s₁ Bd hml0 hP hK
  obtain ⟨rfl, hZ, hh⟩ := hP
  have hx := Bd.exec
  have hby := Bd.bytes
  have hml : c.maxLocals = 1 := hml0
  have hown : s.vm.findClass "com/example/indentary/indentary/reader/TableLines" = some m.cls := findClass_of_methodNamed Bd.named
  have hnm := (name_of_methodNamed Bd.named Bd.method).1
  have X0 : Stand p l e ({ frames := 0, cells := 0, slots := 0, locals := 0 } : Room) s m #[(.int p0)] below meth c s₁ [] 0 0 := Stand.of_body Bd
  have e0 : s₁.heap = h0 := by rw [← hh, Bd.state]; rfl
  have N0 := Fr.nil n0
  have pre0 : ∀ t, Steps p.tables e below (s₁.setTop (mkF m 0 #[.val (.int p0)] [])) t → Steps p.tables e below (s₁.setTop (entryFrame m #[(.int p0)] 1)) t := fun t k => castTop (ef_1 m p0) k
  have pre1 : ∀ t, Steps p.tables e below (s₁.setTop (mkF m 3 #[.val (.int p0)] [(.int (13 : Int32)), (.int p0)])) t → Steps p.tables e below (s₁.setTop (entryFrame m #[(.int p0)] 1)) t := fun t kt => pre0 t (by
      show Steps p.tables e below (s₁.setTop (mkF m 0 #[.val (.int p0)] [])) _
      refine XS.iloadN X0.here hx rfl (hb hby d1_0) rfl ?_
      show Steps p.tables e below (s₁.setTop (mkF m 1 #[.val (.int p0)] [(.int p0)])) _
      refine XS.bipush X0.here hx rfl (hb hby d1_1) ?_
      exact kt)
  by_cases hc3_2 : (13 : Int32) < p0
  · have pre3 : ∀ t, Steps p.tables e below (s₁.setTop (mkF m 24 #[.val (.int p0)] [(.int (133 : Int32)), (.int p0)])) t → Steps p.tables e below (s₁.setTop (entryFrame m #[(.int p0)] 1)) t := fun t kt => pre1 t (by
        show Steps p.tables e below (s₁.setTop (mkF m 3 #[.val (.int p0)] [(.int (13 : Int32)), (.int p0)])) _
        refine XS.icmpYes X0.here hx rfl (pc0 := 3) (pc' := 20) rfl (hb hby d1_3) rfl (tlt hc3_2).2.2.1 (by decide) (by decide) ?_
        show Steps p.tables e below (s₁.setTop (mkF m 20 #[.val (.int p0)] [])) _
        refine XS.iloadN X0.here hx rfl (hb hby d1_20) rfl ?_
        show Steps p.tables e below (s₁.setTop (mkF m 21 #[.val (.int p0)] [(.int p0)])) _
        refine XS.sipush X0.here hx rfl (hb hby d1_21) ?_
        exact kt)
    by_cases hc24_4 : p0 = (133 : Int32)
    · obtain ⟨fs, hr, hrun, hended, hW, hsame⟩ := X0.leave (v := some (.int (1 : Int32))) (fun h => by rw [Bd.returns] at h; cases h)
      have hv11 : (f1 p0) = (1 : Int32) := by rw [f1, if_pos hc3_2, if_pos hc24_4]
      refine ⟨_, _, pre3 _ ?_, hrun, hended, _, _, rfl, ?_, ⟨_, rfl⟩, hW, hsame.mono (by decide) (by decide)⟩
      · show Steps p.tables e below (s₁.setTop (mkF m 24 #[.val (.int p0)] [(.int (133 : Int32)), (.int p0)])) _
        refine XS.icmpYes X0.here hx rfl (pc0 := 24) (pc' := 41) rfl (hb hby d1_24) rfl (teq hc24_4).1 (by decide) (by decide) ?_
        show Steps p.tables e below (s₁.setTop (mkF m 41 #[.val (.int p0)] [])) _
        refine XS.iconst X0.here hx rfl (hb hby d1_41) ?_
        show Steps p.tables e below (s₁.setTop (mkF m 42 #[.val (.int p0)] [(.int (1 : Int32))])) _
        refine XS.goto X0.here hx rfl (pc0 := 42) (pc' := 46) rfl (hb hby d1_42) (by decide) (by decide) ?_
        show Steps p.tables e below (s₁.setTop (mkF m 46 #[.val (.int p0)] [(.int (1 : Int32))])) _
        exact retN X0 hx (t := .boolean) Bd.returns (by simp) (hb hby d1_46) hr
      · show Q1 Z p0 h0 n0 _ s₁.heap _
        rw [e0]
        exact ⟨congrArg (fun q => some (Value.int q)) hv11.symm, N0, rfl⟩
    · have pre5 : ∀ t, Steps p.tables e below (s₁.setTop (mkF m 31 #[.val (.int p0)] [(.int (8232 : Int32)), (.int p0)])) t → Steps p.tables e below (s₁.setTop (entryFrame m #[(.int p0)] 1)) t := fun t kt => pre3 t (by
          show Steps p.tables e below (s₁.setTop (mkF m 24 #[.val (.int p0)] [(.int (133 : Int32)), (.int p0)])) _
          refine XS.icmpNo X0.here hx rfl (hb hby d1_24) rfl (feq hc24_4).1 ?_
          show Steps p.tables e below (s₁.setTop (mkF m 27 #[.val (.int p0)] [])) _
          refine XS.iloadN X0.here hx rfl (hb hby d1_27) rfl ?_
          show Steps p.tables e below (s₁.setTop (mkF m 28 #[.val (.int p0)] [(.int p0)])) _
          refine XS.sipush X0.here hx rfl (hb hby d1_28) ?_
          exact kt)
      by_cases hc31_6 : p0 = (8232 : Int32)
      · obtain ⟨fs, hr, hrun, hended, hW, hsame⟩ := X0.leave (v := some (.int (1 : Int32))) (fun h => by rw [Bd.returns] at h; cases h)
        have hv12 : (f1 p0) = (1 : Int32) := by rw [f1, if_pos hc3_2, if_neg hc24_4, if_pos hc31_6]
        refine ⟨_, _, pre5 _ ?_, hrun, hended, _, _, rfl, ?_, ⟨_, rfl⟩, hW, hsame.mono (by decide) (by decide)⟩
        · show Steps p.tables e below (s₁.setTop (mkF m 31 #[.val (.int p0)] [(.int (8232 : Int32)), (.int p0)])) _
          refine XS.icmpYes X0.here hx rfl (pc0 := 31) (pc' := 41) rfl (hb hby d1_31) rfl (teq hc31_6).1 (by decide) (by decide) ?_
          show Steps p.tables e below (s₁.setTop (mkF m 41 #[.val (.int p0)] [])) _
          refine XS.iconst X0.here hx rfl (hb hby d1_41) ?_
          show Steps p.tables e below (s₁.setTop (mkF m 42 #[.val (.int p0)] [(.int (1 : Int32))])) _
          refine XS.goto X0.here hx rfl (pc0 := 42) (pc' := 46) rfl (hb hby d1_42) (by decide) (by decide) ?_
          show Steps p.tables e below (s₁.setTop (mkF m 46 #[.val (.int p0)] [(.int (1 : Int32))])) _
          exact retN X0 hx (t := .boolean) Bd.returns (by simp) (hb hby d1_46) hr
        · show Q1 Z p0 h0 n0 _ s₁.heap _
          rw [e0]
          exact ⟨congrArg (fun q => some (Value.int q)) hv12.symm, N0, rfl⟩
      · have pre7 : ∀ t, Steps p.tables e below (s₁.setTop (mkF m 38 #[.val (.int p0)] [(.int (8233 : Int32)), (.int p0)])) t → Steps p.tables e below (s₁.setTop (entryFrame m #[(.int p0)] 1)) t := fun t kt => pre5 t (by
            show Steps p.tables e below (s₁.setTop (mkF m 31 #[.val (.int p0)] [(.int (8232 : Int32)), (.int p0)])) _
            refine XS.icmpNo X0.here hx rfl (hb hby d1_31) rfl (feq hc31_6).1 ?_
            show Steps p.tables e below (s₁.setTop (mkF m 34 #[.val (.int p0)] [])) _
            refine XS.iloadN X0.here hx rfl (hb hby d1_34) rfl ?_
            show Steps p.tables e below (s₁.setTop (mkF m 35 #[.val (.int p0)] [(.int p0)])) _
            refine XS.sipush X0.here hx rfl (hb hby d1_35) ?_
            exact kt)
        by_cases hc38_8 : p0 = (8233 : Int32)
        · obtain ⟨fs, hr, hrun, hended, hW, hsame⟩ := X0.leave (v := some (.int (1 : Int32))) (fun h => by rw [Bd.returns] at h; cases h)
          have hv13 : (f1 p0) = (1 : Int32) := by rw [f1, if_pos hc3_2, if_neg hc24_4, if_neg hc31_6, if_pos hc38_8]
          refine ⟨_, _, pre7 _ ?_, hrun, hended, _, _, rfl, ?_, ⟨_, rfl⟩, hW, hsame.mono (by decide) (by decide)⟩
          · show Steps p.tables e below (s₁.setTop (mkF m 38 #[.val (.int p0)] [(.int (8233 : Int32)), (.int p0)])) _
            refine XS.icmpNo X0.here hx rfl (hb hby d1_38) rfl (teq hc38_8).2 ?_
            show Steps p.tables e below (s₁.setTop (mkF m 41 #[.val (.int p0)] [])) _
            refine XS.iconst X0.here hx rfl (hb hby d1_41) ?_
            show Steps p.tables e below (s₁.setTop (mkF m 42 #[.val (.int p0)] [(.int (1 : Int32))])) _
            refine XS.goto X0.here hx rfl (pc0 := 42) (pc' := 46) rfl (hb hby d1_42) (by decide) (by decide) ?_
            show Steps p.tables e below (s₁.setTop (mkF m 46 #[.val (.int p0)] [(.int (1 : Int32))])) _
            exact retN X0 hx (t := .boolean) Bd.returns (by simp) (hb hby d1_46) hr
          · show Q1 Z p0 h0 n0 _ s₁.heap _
            rw [e0]
            exact ⟨congrArg (fun q => some (Value.int q)) hv13.symm, N0, rfl⟩
        · obtain ⟨fs, hr, hrun, hended, hW, hsame⟩ := X0.leave (v := some (.int (0 : Int32))) (fun h => by rw [Bd.returns] at h; cases h)
          have hv14 : (f1 p0) = (0 : Int32) := by rw [f1, if_pos hc3_2, if_neg hc24_4, if_neg hc31_6, if_neg hc38_8]
          refine ⟨_, _, pre7 _ ?_, hrun, hended, _, _, rfl, ?_, ⟨_, rfl⟩, hW, hsame.mono (by decide) (by decide)⟩
          · show Steps p.tables e below (s₁.setTop (mkF m 38 #[.val (.int p0)] [(.int (8233 : Int32)), (.int p0)])) _
            refine XS.icmpYes X0.here hx rfl (pc0 := 38) (pc' := 45) rfl (hb hby d1_38) rfl (feq hc38_8).2 (by decide) (by decide) ?_
            show Steps p.tables e below (s₁.setTop (mkF m 45 #[.val (.int p0)] [])) _
            refine XS.iconst X0.here hx rfl (hb hby d1_45) ?_
            show Steps p.tables e below (s₁.setTop (mkF m 46 #[.val (.int p0)] [(.int (0 : Int32))])) _
            exact retN X0 hx (t := .boolean) Bd.returns (by simp) (hb hby d1_46) hr
          · show Q1 Z p0 h0 n0 _ s₁.heap _
            rw [e0]
            exact ⟨congrArg (fun q => some (Value.int q)) hv14.symm, N0, rfl⟩
  · have pre9 : ∀ t, Steps p.tables e below (s₁.setTop (mkF m 9 #[.val (.int p0)] [(.int (10 : Int32)), (.int p0)])) t → Steps p.tables e below (s₁.setTop (entryFrame m #[(.int p0)] 1)) t := fun t kt => pre1 t (by
        show Steps p.tables e below (s₁.setTop (mkF m 3 #[.val (.int p0)] [(.int (13 : Int32)), (.int p0)])) _
        refine XS.icmpNo X0.here hx rfl (hb hby d1_3) rfl (flt hc3_2).2.2.1 ?_
        show Steps p.tables e below (s₁.setTop (mkF m 6 #[.val (.int p0)] [])) _
        refine XS.iloadN X0.here hx rfl (hb hby d1_6) rfl ?_
        show Steps p.tables e below (s₁.setTop (mkF m 7 #[.val (.int p0)] [(.int p0)])) _
        refine XS.bipush X0.here hx rfl (hb hby d1_7) ?_
        exact kt)
    by_cases hc9_10 : p0 < (10 : Int32)
    · obtain ⟨fs, hr, hrun, hended, hW, hsame⟩ := X0.leave (v := some (.int (0 : Int32))) (fun h => by rw [Bd.returns] at h; cases h)
      have hv15 : (f1 p0) = (0 : Int32) := by rw [f1, if_neg hc3_2, if_pos hc9_10]
      refine ⟨_, _, pre9 _ ?_, hrun, hended, _, _, rfl, ?_, ⟨_, rfl⟩, hW, hsame.mono (by decide) (by decide)⟩
      · show Steps p.tables e below (s₁.setTop (mkF m 9 #[.val (.int p0)] [(.int (10 : Int32)), (.int p0)])) _
        refine XS.icmpYes X0.here hx rfl (pc0 := 9) (pc' := 16) rfl (hb hby d1_9) rfl (tlt hc9_10).1 (by decide) (by decide) ?_
        show Steps p.tables e below (s₁.setTop (mkF m 16 #[.val (.int p0)] [])) _
        refine XS.iconst X0.here hx rfl (hb hby d1_16) ?_
        show Steps p.tables e below (s₁.setTop (mkF m 17 #[.val (.int p0)] [(.int (0 : Int32))])) _
        refine XS.goto X0.here hx rfl (pc0 := 17) (pc' := 46) rfl (hb hby d1_17) (by decide) (by decide) ?_
        show Steps p.tables e below (s₁.setTop (mkF m 46 #[.val (.int p0)] [(.int (0 : Int32))])) _
        exact retN X0 hx (t := .boolean) Bd.returns (by simp) (hb hby d1_46) hr
      · show Q1 Z p0 h0 n0 _ s₁.heap _
        rw [e0]
        exact ⟨congrArg (fun q => some (Value.int q)) hv15.symm, N0, rfl⟩
    · obtain ⟨fs, hr, hrun, hended, hW, hsame⟩ := X0.leave (v := some (.int (1 : Int32))) (fun h => by rw [Bd.returns] at h; cases h)
      have hv16 : (f1 p0) = (1 : Int32) := by rw [f1, if_neg hc3_2, if_neg hc9_10]
      refine ⟨_, _, pre9 _ ?_, hrun, hended, _, _, rfl, ?_, ⟨_, rfl⟩, hW, hsame.mono (by decide) (by decide)⟩
      · show Steps p.tables e below (s₁.setTop (mkF m 9 #[.val (.int p0)] [(.int (10 : Int32)), (.int p0)])) _
        refine XS.icmpNo X0.here hx rfl (hb hby d1_9) rfl (flt hc9_10).1 ?_
        show Steps p.tables e below (s₁.setTop (mkF m 12 #[.val (.int p0)] [])) _
        refine XS.iconst X0.here hx rfl (hb hby d1_12) ?_
        show Steps p.tables e below (s₁.setTop (mkF m 13 #[.val (.int p0)] [(.int (1 : Int32))])) _
        refine XS.goto X0.here hx rfl (pc0 := 13) (pc' := 46) rfl (hb hby d1_13) (by decide) (by decide) ?_
        show Steps p.tables e below (s₁.setTop (mkF m 46 #[.val (.int p0)] [(.int (1 : Int32))])) _
        exact retN X0 hx (t := .boolean) Bd.returns (by simp) (hb hby d1_46) hr
      · show Q1 Z p0 h0 n0 _ s₁.heap _
        rw [e0]
        exact ⟨congrArg (fun q => some (Value.int q)) hv16.symm, N0, rfl⟩
theorem d2_0 : decode method_2_code 0 = .ok (.iload_n 0, 1) := by decide +kernel
theorem d2_1 : decode method_2_code 1 = .ok (.istore_n 1, 1) := by decide +kernel
theorem d2_2 : decode method_2_code 2 = .ok (.iload_n 1, 1) := by decide +kernel
theorem d2_3 : decode method_2_code 3 = .ok (.bipush 10, 2) := by decide +kernel
theorem d2_5 : decode method_2_code 5 = .ok (.if_icmp .eq 42, 3) := by decide +kernel
theorem d2_8 : decode method_2_code 8 = .ok (.iload_n 1, 1) := by decide +kernel
theorem d2_9 : decode method_2_code 9 = .ok (.bipush 11, 2) := by decide +kernel
theorem d2_11 : decode method_2_code 11 = .ok (.if_icmp .eq 36, 3) := by decide +kernel
theorem d2_14 : decode method_2_code 14 = .ok (.iload_n 1, 1) := by decide +kernel
theorem d2_15 : decode method_2_code 15 = .ok (.bipush 12, 2) := by decide +kernel
theorem d2_17 : decode method_2_code 17 = .ok (.if_icmp .eq 30, 3) := by decide +kernel
theorem d2_20 : decode method_2_code 20 = .ok (.iload_n 1, 1) := by decide +kernel
theorem d2_21 : decode method_2_code 21 = .ok (.bipush 13, 2) := by decide +kernel
theorem d2_23 : decode method_2_code 23 = .ok (.if_icmp .eq 24, 3) := by decide +kernel
theorem d2_26 : decode method_2_code 26 = .ok (.iload_n 1, 1) := by decide +kernel
theorem d2_27 : decode method_2_code 27 = .ok (.sipush 133, 3) := by decide +kernel
theorem d2_30 : decode method_2_code 30 = .ok (.if_icmp .eq 17, 3) := by decide +kernel
theorem d2_33 : decode method_2_code 33 = .ok (.iload_n 1, 1) := by decide +kernel
theorem d2_34 : decode method_2_code 34 = .ok (.sipush 8232, 3) := by decide +kernel
theorem d2_37 : decode method_2_code 37 = .ok (.if_icmp .eq 10, 3) := by decide +kernel
theorem d2_40 : decode method_2_code 40 = .ok (.iload_n 1, 1) := by decide +kernel
theorem d2_41 : decode method_2_code 41 = .ok (.sipush 8233, 3) := by decide +kernel
theorem d2_44 : decode method_2_code 44 = .ok (.if_icmp .ne 7, 3) := by decide +kernel
theorem d2_47 : decode method_2_code 47 = .ok (.iconst 1, 1) := by decide +kernel
theorem d2_48 : decode method_2_code 48 = .ok (.goto 4, 3) := by decide +kernel
theorem d2_51 : decode method_2_code 51 = .ok (.iconst 0, 1) := by decide +kernel
theorem d2_52 : decode method_2_code 52 = .ok (.ireturn, 1) := by decide +kernel
theorem pn_2 : plainName "com/example/indentary/indentary/reader/TableLinesIsLineBreakPinLaw" = true := by first | (simp [plainName, overriddenIn]; done) | decide +kernel
theorem ef_2 (m : MethodId) (x0 : Int32) : entryFrame m #[(.int x0)] 2 = mkF m 0 #[.val (.int x0), .unset] [] := by first | (simp [entryFrame, mkF, argsToLocals, Value.category]; done) | rfl
def f2 (p0 : Int32) : Int32 :=
  if p0 = (10 : Int32) then ((1 : Int32)) else
  (if p0 = (11 : Int32) then ((1 : Int32)) else
  (if p0 = (12 : Int32) then ((1 : Int32)) else
  (if p0 = (13 : Int32) then ((1 : Int32)) else
  (if p0 = (133 : Int32) then ((1 : Int32)) else
  (if p0 = (8232 : Int32) then ((1 : Int32)) else
  (if p0 = (8233 : Int32) then ((1 : Int32)) else
  ((0 : Int32))))))))
def Q2 (Z : State) (p0 : Int32) (h0 : Heap) (n0 : Nat) (v : Option Value) (h : Heap) (L : List Loc) : Prop := v = some (.int (f2 p0)) ∧ Fr n0 L ∧ h = h0
set_option maxRecDepth 65536 in
set_option maxHeartbeats 40000000 in
theorem rm2 (l : Launch) (Z : State) (a0 : Array Value) (hw : ∀ d ∈ tables_1, d.before a0 Z = true) (ws : List Jvm.Cond) (p0 : Int32) (h0 : Heap) (n0 : Nat) (Z0 : n0 ≤ h0.size) :
    MetFree l (⟨"com/example/indentary/indentary/reader/TableLinesIsLineBreakPinLaw", "reference", "(C)Z"⟩ : MethodName) (head1 (Jvm.Cond.code (⟨"com/example/indentary/indentary/reader/TableLinesIsLineBreakPinLaw", "reference", "(C)Z"⟩ : MethodName) method_2_code 2 (some .boolean) :: ws) ({ frames := 0, cells := 0, slots := 0, locals := 0 } : Room)) (fun a U => a = #[(.int p0)] ∧ Z.Warmed39 U.vm ∧ U.heap = h0) (fun _ _ _ _ _ => True) (fun _ U o U' => ∃ v L, o = .returned v ∧ Q2 Z p0 h0 n0 v U'.heap L ∧ FrameEnd U o U' L ({ frames := 0, cells := 0, slots := 0, locals := 0 } : Room).cells ({ frames := 0, cells := 0, slots := 0, locals := 0 } : Room).slots) := by
  refine MetFree.of_bodySF (plainFor_of_name pn_2) hisR ?_
  intro p e s m args below meth c s₁ Bd hml0 hP hK
  obtain ⟨rfl, hZ, hh⟩ := hP
  have hx := Bd.exec
  have hby := Bd.bytes
  have hml : c.maxLocals = 2 := hml0
  have hown : s.vm.findClass "com/example/indentary/indentary/reader/TableLinesIsLineBreakPinLaw" = some m.cls := findClass_of_methodNamed Bd.named
  have hnm := (name_of_methodNamed Bd.named Bd.method).1
  have X0 : Stand p l e ({ frames := 0, cells := 0, slots := 0, locals := 0 } : Room) s m #[(.int p0)] below meth c s₁ [] 0 0 := Stand.of_body Bd
  have e0 : s₁.heap = h0 := by rw [← hh, Bd.state]; rfl
  have N0 := Fr.nil n0
  have pre0 : ∀ t, Steps p.tables e below (s₁.setTop (mkF m 0 #[.val (.int p0), .unset] [])) t → Steps p.tables e below (s₁.setTop (entryFrame m #[(.int p0)] 2)) t := fun t k => castTop (ef_2 m p0) k
  have pre1 : ∀ t, Steps p.tables e below (s₁.setTop (mkF m 5 #[.val (.int p0), .val (.int p0)] [(.int (10 : Int32)), (.int p0)])) t → Steps p.tables e below (s₁.setTop (entryFrame m #[(.int p0)] 2)) t := fun t kt => pre0 t (by
      show Steps p.tables e below (s₁.setTop (mkF m 0 #[.val (.int p0), .unset] [])) _
      refine XS.iloadN X0.here hx rfl (hb hby d2_0) rfl ?_
      show Steps p.tables e below (s₁.setTop (mkF m 1 #[.val (.int p0), .unset] [(.int p0)])) _
      refine XS.istoreN X0.here hx rfl (hb hby d2_1) rfl (l' := #[.val (.int p0), .val (.int p0)]) rfl ?_
      show Steps p.tables e below (s₁.setTop (mkF m 2 #[.val (.int p0), .val (.int p0)] [])) _
      refine XS.iloadN X0.here hx rfl (hb hby d2_2) rfl ?_
      show Steps p.tables e below (s₁.setTop (mkF m 3 #[.val (.int p0), .val (.int p0)] [(.int p0)])) _
      refine XS.bipush X0.here hx rfl (hb hby d2_3) ?_
      exact kt)
  by_cases hc5_2 : p0 = (10 : Int32)
  · obtain ⟨fs, hr, hrun, hended, hW, hsame⟩ := X0.leave (v := some (.int (1 : Int32))) (fun h => by rw [Bd.returns] at h; cases h)
    have hv15 : (f2 p0) = (1 : Int32) := by rw [f2, if_pos hc5_2]
    refine ⟨_, _, pre1 _ ?_, hrun, hended, _, _, rfl, ?_, ⟨_, rfl⟩, hW, hsame.mono (by decide) (by decide)⟩
    · show Steps p.tables e below (s₁.setTop (mkF m 5 #[.val (.int p0), .val (.int p0)] [(.int (10 : Int32)), (.int p0)])) _
      refine XS.icmpYes X0.here hx rfl (pc0 := 5) (pc' := 47) rfl (hb hby d2_5) rfl (teq hc5_2).1 (by decide) (by decide) ?_
      show Steps p.tables e below (s₁.setTop (mkF m 47 #[.val (.int p0), .val (.int p0)] [])) _
      refine XS.iconst X0.here hx rfl (hb hby d2_47) ?_
      show Steps p.tables e below (s₁.setTop (mkF m 48 #[.val (.int p0), .val (.int p0)] [(.int (1 : Int32))])) _
      refine XS.goto X0.here hx rfl (pc0 := 48) (pc' := 52) rfl (hb hby d2_48) (by decide) (by decide) ?_
      show Steps p.tables e below (s₁.setTop (mkF m 52 #[.val (.int p0), .val (.int p0)] [(.int (1 : Int32))])) _
      exact retN X0 hx (t := .boolean) Bd.returns (by simp) (hb hby d2_52) hr
    · show Q2 Z p0 h0 n0 _ s₁.heap _
      rw [e0]
      exact ⟨congrArg (fun q => some (Value.int q)) hv15.symm, N0, rfl⟩
  · have pre3 : ∀ t, Steps p.tables e below (s₁.setTop (mkF m 11 #[.val (.int p0), .val (.int p0)] [(.int (11 : Int32)), (.int p0)])) t → Steps p.tables e below (s₁.setTop (entryFrame m #[(.int p0)] 2)) t := fun t kt => pre1 t (by
        show Steps p.tables e below (s₁.setTop (mkF m 5 #[.val (.int p0), .val (.int p0)] [(.int (10 : Int32)), (.int p0)])) _
        refine XS.icmpNo X0.here hx rfl (hb hby d2_5) rfl (feq hc5_2).1 ?_
        show Steps p.tables e below (s₁.setTop (mkF m 8 #[.val (.int p0), .val (.int p0)] [])) _
        refine XS.iloadN X0.here hx rfl (hb hby d2_8) rfl ?_
        show Steps p.tables e below (s₁.setTop (mkF m 9 #[.val (.int p0), .val (.int p0)] [(.int p0)])) _
        refine XS.bipush X0.here hx rfl (hb hby d2_9) ?_
        exact kt)
    by_cases hc11_4 : p0 = (11 : Int32)
    · obtain ⟨fs, hr, hrun, hended, hW, hsame⟩ := X0.leave (v := some (.int (1 : Int32))) (fun h => by rw [Bd.returns] at h; cases h)
      have hv16 : (f2 p0) = (1 : Int32) := by rw [f2, if_neg hc5_2, if_pos hc11_4]
      refine ⟨_, _, pre3 _ ?_, hrun, hended, _, _, rfl, ?_, ⟨_, rfl⟩, hW, hsame.mono (by decide) (by decide)⟩
      · show Steps p.tables e below (s₁.setTop (mkF m 11 #[.val (.int p0), .val (.int p0)] [(.int (11 : Int32)), (.int p0)])) _
        refine XS.icmpYes X0.here hx rfl (pc0 := 11) (pc' := 47) rfl (hb hby d2_11) rfl (teq hc11_4).1 (by decide) (by decide) ?_
        show Steps p.tables e below (s₁.setTop (mkF m 47 #[.val (.int p0), .val (.int p0)] [])) _
        refine XS.iconst X0.here hx rfl (hb hby d2_47) ?_
        show Steps p.tables e below (s₁.setTop (mkF m 48 #[.val (.int p0), .val (.int p0)] [(.int (1 : Int32))])) _
        refine XS.goto X0.here hx rfl (pc0 := 48) (pc' := 52) rfl (hb hby d2_48) (by decide) (by decide) ?_
        show Steps p.tables e below (s₁.setTop (mkF m 52 #[.val (.int p0), .val (.int p0)] [(.int (1 : Int32))])) _
        exact retN X0 hx (t := .boolean) Bd.returns (by simp) (hb hby d2_52) hr
      · show Q2 Z p0 h0 n0 _ s₁.heap _
        rw [e0]
        exact ⟨congrArg (fun q => some (Value.int q)) hv16.symm, N0, rfl⟩
    · have pre5 : ∀ t, Steps p.tables e below (s₁.setTop (mkF m 17 #[.val (.int p0), .val (.int p0)] [(.int (12 : Int32)), (.int p0)])) t → Steps p.tables e below (s₁.setTop (entryFrame m #[(.int p0)] 2)) t := fun t kt => pre3 t (by
          show Steps p.tables e below (s₁.setTop (mkF m 11 #[.val (.int p0), .val (.int p0)] [(.int (11 : Int32)), (.int p0)])) _
          refine XS.icmpNo X0.here hx rfl (hb hby d2_11) rfl (feq hc11_4).1 ?_
          show Steps p.tables e below (s₁.setTop (mkF m 14 #[.val (.int p0), .val (.int p0)] [])) _
          refine XS.iloadN X0.here hx rfl (hb hby d2_14) rfl ?_
          show Steps p.tables e below (s₁.setTop (mkF m 15 #[.val (.int p0), .val (.int p0)] [(.int p0)])) _
          refine XS.bipush X0.here hx rfl (hb hby d2_15) ?_
          exact kt)
      by_cases hc17_6 : p0 = (12 : Int32)
      · obtain ⟨fs, hr, hrun, hended, hW, hsame⟩ := X0.leave (v := some (.int (1 : Int32))) (fun h => by rw [Bd.returns] at h; cases h)
        have hv17 : (f2 p0) = (1 : Int32) := by rw [f2, if_neg hc5_2, if_neg hc11_4, if_pos hc17_6]
        refine ⟨_, _, pre5 _ ?_, hrun, hended, _, _, rfl, ?_, ⟨_, rfl⟩, hW, hsame.mono (by decide) (by decide)⟩
        · show Steps p.tables e below (s₁.setTop (mkF m 17 #[.val (.int p0), .val (.int p0)] [(.int (12 : Int32)), (.int p0)])) _
          refine XS.icmpYes X0.here hx rfl (pc0 := 17) (pc' := 47) rfl (hb hby d2_17) rfl (teq hc17_6).1 (by decide) (by decide) ?_
          show Steps p.tables e below (s₁.setTop (mkF m 47 #[.val (.int p0), .val (.int p0)] [])) _
          refine XS.iconst X0.here hx rfl (hb hby d2_47) ?_
          show Steps p.tables e below (s₁.setTop (mkF m 48 #[.val (.int p0), .val (.int p0)] [(.int (1 : Int32))])) _
          refine XS.goto X0.here hx rfl (pc0 := 48) (pc' := 52) rfl (hb hby d2_48) (by decide) (by decide) ?_
          show Steps p.tables e below (s₁.setTop (mkF m 52 #[.val (.int p0), .val (.int p0)] [(.int (1 : Int32))])) _
          exact retN X0 hx (t := .boolean) Bd.returns (by simp) (hb hby d2_52) hr
        · show Q2 Z p0 h0 n0 _ s₁.heap _
          rw [e0]
          exact ⟨congrArg (fun q => some (Value.int q)) hv17.symm, N0, rfl⟩
      · have pre7 : ∀ t, Steps p.tables e below (s₁.setTop (mkF m 23 #[.val (.int p0), .val (.int p0)] [(.int (13 : Int32)), (.int p0)])) t → Steps p.tables e below (s₁.setTop (entryFrame m #[(.int p0)] 2)) t := fun t kt => pre5 t (by
            show Steps p.tables e below (s₁.setTop (mkF m 17 #[.val (.int p0), .val (.int p0)] [(.int (12 : Int32)), (.int p0)])) _
            refine XS.icmpNo X0.here hx rfl (hb hby d2_17) rfl (feq hc17_6).1 ?_
            show Steps p.tables e below (s₁.setTop (mkF m 20 #[.val (.int p0), .val (.int p0)] [])) _
            refine XS.iloadN X0.here hx rfl (hb hby d2_20) rfl ?_
            show Steps p.tables e below (s₁.setTop (mkF m 21 #[.val (.int p0), .val (.int p0)] [(.int p0)])) _
            refine XS.bipush X0.here hx rfl (hb hby d2_21) ?_
            exact kt)
        by_cases hc23_8 : p0 = (13 : Int32)
        · obtain ⟨fs, hr, hrun, hended, hW, hsame⟩ := X0.leave (v := some (.int (1 : Int32))) (fun h => by rw [Bd.returns] at h; cases h)
          have hv18 : (f2 p0) = (1 : Int32) := by rw [f2, if_neg hc5_2, if_neg hc11_4, if_neg hc17_6, if_pos hc23_8]
          refine ⟨_, _, pre7 _ ?_, hrun, hended, _, _, rfl, ?_, ⟨_, rfl⟩, hW, hsame.mono (by decide) (by decide)⟩
          · show Steps p.tables e below (s₁.setTop (mkF m 23 #[.val (.int p0), .val (.int p0)] [(.int (13 : Int32)), (.int p0)])) _
            refine XS.icmpYes X0.here hx rfl (pc0 := 23) (pc' := 47) rfl (hb hby d2_23) rfl (teq hc23_8).1 (by decide) (by decide) ?_
            show Steps p.tables e below (s₁.setTop (mkF m 47 #[.val (.int p0), .val (.int p0)] [])) _
            refine XS.iconst X0.here hx rfl (hb hby d2_47) ?_
            show Steps p.tables e below (s₁.setTop (mkF m 48 #[.val (.int p0), .val (.int p0)] [(.int (1 : Int32))])) _
            refine XS.goto X0.here hx rfl (pc0 := 48) (pc' := 52) rfl (hb hby d2_48) (by decide) (by decide) ?_
            show Steps p.tables e below (s₁.setTop (mkF m 52 #[.val (.int p0), .val (.int p0)] [(.int (1 : Int32))])) _
            exact retN X0 hx (t := .boolean) Bd.returns (by simp) (hb hby d2_52) hr
          · show Q2 Z p0 h0 n0 _ s₁.heap _
            rw [e0]
            exact ⟨congrArg (fun q => some (Value.int q)) hv18.symm, N0, rfl⟩
        · have pre9 : ∀ t, Steps p.tables e below (s₁.setTop (mkF m 30 #[.val (.int p0), .val (.int p0)] [(.int (133 : Int32)), (.int p0)])) t → Steps p.tables e below (s₁.setTop (entryFrame m #[(.int p0)] 2)) t := fun t kt => pre7 t (by
              show Steps p.tables e below (s₁.setTop (mkF m 23 #[.val (.int p0), .val (.int p0)] [(.int (13 : Int32)), (.int p0)])) _
              refine XS.icmpNo X0.here hx rfl (hb hby d2_23) rfl (feq hc23_8).1 ?_
              show Steps p.tables e below (s₁.setTop (mkF m 26 #[.val (.int p0), .val (.int p0)] [])) _
              refine XS.iloadN X0.here hx rfl (hb hby d2_26) rfl ?_
              show Steps p.tables e below (s₁.setTop (mkF m 27 #[.val (.int p0), .val (.int p0)] [(.int p0)])) _
              refine XS.sipush X0.here hx rfl (hb hby d2_27) ?_
              exact kt)
          by_cases hc30_10 : p0 = (133 : Int32)
          · obtain ⟨fs, hr, hrun, hended, hW, hsame⟩ := X0.leave (v := some (.int (1 : Int32))) (fun h => by rw [Bd.returns] at h; cases h)
            have hv19 : (f2 p0) = (1 : Int32) := by rw [f2, if_neg hc5_2, if_neg hc11_4, if_neg hc17_6, if_neg hc23_8, if_pos hc30_10]
            refine ⟨_, _, pre9 _ ?_, hrun, hended, _, _, rfl, ?_, ⟨_, rfl⟩, hW, hsame.mono (by decide) (by decide)⟩
            · show Steps p.tables e below (s₁.setTop (mkF m 30 #[.val (.int p0), .val (.int p0)] [(.int (133 : Int32)), (.int p0)])) _
              refine XS.icmpYes X0.here hx rfl (pc0 := 30) (pc' := 47) rfl (hb hby d2_30) rfl (teq hc30_10).1 (by decide) (by decide) ?_
              show Steps p.tables e below (s₁.setTop (mkF m 47 #[.val (.int p0), .val (.int p0)] [])) _
              refine XS.iconst X0.here hx rfl (hb hby d2_47) ?_
              show Steps p.tables e below (s₁.setTop (mkF m 48 #[.val (.int p0), .val (.int p0)] [(.int (1 : Int32))])) _
              refine XS.goto X0.here hx rfl (pc0 := 48) (pc' := 52) rfl (hb hby d2_48) (by decide) (by decide) ?_
              show Steps p.tables e below (s₁.setTop (mkF m 52 #[.val (.int p0), .val (.int p0)] [(.int (1 : Int32))])) _
              exact retN X0 hx (t := .boolean) Bd.returns (by simp) (hb hby d2_52) hr
            · show Q2 Z p0 h0 n0 _ s₁.heap _
              rw [e0]
              exact ⟨congrArg (fun q => some (Value.int q)) hv19.symm, N0, rfl⟩
          · have pre11 : ∀ t, Steps p.tables e below (s₁.setTop (mkF m 37 #[.val (.int p0), .val (.int p0)] [(.int (8232 : Int32)), (.int p0)])) t → Steps p.tables e below (s₁.setTop (entryFrame m #[(.int p0)] 2)) t := fun t kt => pre9 t (by
                show Steps p.tables e below (s₁.setTop (mkF m 30 #[.val (.int p0), .val (.int p0)] [(.int (133 : Int32)), (.int p0)])) _
                refine XS.icmpNo X0.here hx rfl (hb hby d2_30) rfl (feq hc30_10).1 ?_
                show Steps p.tables e below (s₁.setTop (mkF m 33 #[.val (.int p0), .val (.int p0)] [])) _
                refine XS.iloadN X0.here hx rfl (hb hby d2_33) rfl ?_
                show Steps p.tables e below (s₁.setTop (mkF m 34 #[.val (.int p0), .val (.int p0)] [(.int p0)])) _
                refine XS.sipush X0.here hx rfl (hb hby d2_34) ?_
                exact kt)
            by_cases hc37_12 : p0 = (8232 : Int32)
            · obtain ⟨fs, hr, hrun, hended, hW, hsame⟩ := X0.leave (v := some (.int (1 : Int32))) (fun h => by rw [Bd.returns] at h; cases h)
              have hv20 : (f2 p0) = (1 : Int32) := by rw [f2, if_neg hc5_2, if_neg hc11_4, if_neg hc17_6, if_neg hc23_8, if_neg hc30_10, if_pos hc37_12]
              refine ⟨_, _, pre11 _ ?_, hrun, hended, _, _, rfl, ?_, ⟨_, rfl⟩, hW, hsame.mono (by decide) (by decide)⟩
              · show Steps p.tables e below (s₁.setTop (mkF m 37 #[.val (.int p0), .val (.int p0)] [(.int (8232 : Int32)), (.int p0)])) _
                refine XS.icmpYes X0.here hx rfl (pc0 := 37) (pc' := 47) rfl (hb hby d2_37) rfl (teq hc37_12).1 (by decide) (by decide) ?_
                show Steps p.tables e below (s₁.setTop (mkF m 47 #[.val (.int p0), .val (.int p0)] [])) _
                refine XS.iconst X0.here hx rfl (hb hby d2_47) ?_
                show Steps p.tables e below (s₁.setTop (mkF m 48 #[.val (.int p0), .val (.int p0)] [(.int (1 : Int32))])) _
                refine XS.goto X0.here hx rfl (pc0 := 48) (pc' := 52) rfl (hb hby d2_48) (by decide) (by decide) ?_
                show Steps p.tables e below (s₁.setTop (mkF m 52 #[.val (.int p0), .val (.int p0)] [(.int (1 : Int32))])) _
                exact retN X0 hx (t := .boolean) Bd.returns (by simp) (hb hby d2_52) hr
              · show Q2 Z p0 h0 n0 _ s₁.heap _
                rw [e0]
                exact ⟨congrArg (fun q => some (Value.int q)) hv20.symm, N0, rfl⟩
            · have pre13 : ∀ t, Steps p.tables e below (s₁.setTop (mkF m 44 #[.val (.int p0), .val (.int p0)] [(.int (8233 : Int32)), (.int p0)])) t → Steps p.tables e below (s₁.setTop (entryFrame m #[(.int p0)] 2)) t := fun t kt => pre11 t (by
                  show Steps p.tables e below (s₁.setTop (mkF m 37 #[.val (.int p0), .val (.int p0)] [(.int (8232 : Int32)), (.int p0)])) _
                  refine XS.icmpNo X0.here hx rfl (hb hby d2_37) rfl (feq hc37_12).1 ?_
                  show Steps p.tables e below (s₁.setTop (mkF m 40 #[.val (.int p0), .val (.int p0)] [])) _
                  refine XS.iloadN X0.here hx rfl (hb hby d2_40) rfl ?_
                  show Steps p.tables e below (s₁.setTop (mkF m 41 #[.val (.int p0), .val (.int p0)] [(.int p0)])) _
                  refine XS.sipush X0.here hx rfl (hb hby d2_41) ?_
                  exact kt)
              by_cases hc44_14 : p0 = (8233 : Int32)
              · obtain ⟨fs, hr, hrun, hended, hW, hsame⟩ := X0.leave (v := some (.int (1 : Int32))) (fun h => by rw [Bd.returns] at h; cases h)
                have hv21 : (f2 p0) = (1 : Int32) := by rw [f2, if_neg hc5_2, if_neg hc11_4, if_neg hc17_6, if_neg hc23_8, if_neg hc30_10, if_neg hc37_12, if_pos hc44_14]
                refine ⟨_, _, pre13 _ ?_, hrun, hended, _, _, rfl, ?_, ⟨_, rfl⟩, hW, hsame.mono (by decide) (by decide)⟩
                · show Steps p.tables e below (s₁.setTop (mkF m 44 #[.val (.int p0), .val (.int p0)] [(.int (8233 : Int32)), (.int p0)])) _
                  refine XS.icmpNo X0.here hx rfl (hb hby d2_44) rfl (teq hc44_14).2 ?_
                  show Steps p.tables e below (s₁.setTop (mkF m 47 #[.val (.int p0), .val (.int p0)] [])) _
                  refine XS.iconst X0.here hx rfl (hb hby d2_47) ?_
                  show Steps p.tables e below (s₁.setTop (mkF m 48 #[.val (.int p0), .val (.int p0)] [(.int (1 : Int32))])) _
                  refine XS.goto X0.here hx rfl (pc0 := 48) (pc' := 52) rfl (hb hby d2_48) (by decide) (by decide) ?_
                  show Steps p.tables e below (s₁.setTop (mkF m 52 #[.val (.int p0), .val (.int p0)] [(.int (1 : Int32))])) _
                  exact retN X0 hx (t := .boolean) Bd.returns (by simp) (hb hby d2_52) hr
                · show Q2 Z p0 h0 n0 _ s₁.heap _
                  rw [e0]
                  exact ⟨congrArg (fun q => some (Value.int q)) hv21.symm, N0, rfl⟩
              · obtain ⟨fs, hr, hrun, hended, hW, hsame⟩ := X0.leave (v := some (.int (0 : Int32))) (fun h => by rw [Bd.returns] at h; cases h)
                have hv22 : (f2 p0) = (0 : Int32) := by rw [f2, if_neg hc5_2, if_neg hc11_4, if_neg hc17_6, if_neg hc23_8, if_neg hc30_10, if_neg hc37_12, if_neg hc44_14]
                refine ⟨_, _, pre13 _ ?_, hrun, hended, _, _, rfl, ?_, ⟨_, rfl⟩, hW, hsame.mono (by decide) (by decide)⟩
                · show Steps p.tables e below (s₁.setTop (mkF m 44 #[.val (.int p0), .val (.int p0)] [(.int (8233 : Int32)), (.int p0)])) _
                  refine XS.icmpYes X0.here hx rfl (pc0 := 44) (pc' := 51) rfl (hb hby d2_44) rfl (feq hc44_14).2 (by decide) (by decide) ?_
                  show Steps p.tables e below (s₁.setTop (mkF m 51 #[.val (.int p0), .val (.int p0)] [])) _
                  refine XS.iconst X0.here hx rfl (hb hby d2_51) ?_
                  show Steps p.tables e below (s₁.setTop (mkF m 52 #[.val (.int p0), .val (.int p0)] [(.int (0 : Int32))])) _
                  exact retN X0 hx (t := .boolean) Bd.returns (by simp) (hb hby d2_52) hr
                · show Q2 Z p0 h0 n0 _ s₁.heap _
                  rw [e0]
                  exact ⟨congrArg (fun q => some (Value.int q)) hv22.symm, N0, rfl⟩
theorem pn_0 : plainName "com/example/indentary/indentary/reader/TableLinesIsLineBreakPinLaw" = true := by first | (simp [plainName, overriddenIn]; done) | decide +kernel
theorem pd_0_0 : parseMethodDescriptor "(C)Z" = some ⟨[.char], some .boolean⟩ := by decide +kernel
theorem ef_0 (m : MethodId) (x0 : Int32) (x1 : Int32) : entryFrame m #[(.int x0), (.int x1)] maxLocals = mkF m 0 #[.val (.int x0), .val (.int x1), .unset, .unset] [] := by first | (simp [entryFrame, mkF, argsToLocals, Value.category, maxLocals]; done) | rfl
theorem own_eq (c k : Int32) (n : Int) (h : k.toInt = n) : c = k ↔ c.toInt = n := by rw [← h]; exact Int32.toInt_inj.symm
theorem own_same (c : Int32) : f1 c = f2 c := by
  unfold f1 f2
  have e10 : (10 : Int32).toInt = 10 := by decide
  have e11 : (11 : Int32).toInt = 11 := by decide
  have e12 : (12 : Int32).toInt = 12 := by decide
  have e13 : (13 : Int32).toInt = 13 := by decide
  have e133 : (133 : Int32).toInt = 133 := by decide
  have e8232 : (8232 : Int32).toInt = 8232 := by decide
  have e8233 : (8233 : Int32).toInt = 8233 := by decide
  simp only [Int32.lt_iff_toInt_lt, own_eq c (10 : Int32) 10 (by decide), own_eq c (11 : Int32) 11 (by decide), own_eq c (12 : Int32) 12 (by decide), own_eq c (13 : Int32) 13 (by decide), own_eq c (133 : Int32) 133 (by decide), own_eq c (8232 : Int32) 8232 (by decide), own_eq c (8233 : Int32) 8233 (by decide), e10, e11, e12, e13, e133, e8232, e8233]
  repeat' split
  all_goals first | rfl | (exfalso; omega)
theorem own_idx (x : Int32) : ¬ ((x &&& (2147483647 : Int32)) - ((x &&& (2147483647 : Int32)) / (16 : Int32)) * (16 : Int32)) < 0 ∧ ((x &&& (2147483647 : Int32)) - ((x &&& (2147483647 : Int32)) / (16 : Int32)) * (16 : Int32)) < (16 : Int32) := by
  have h1 : (x &&& 2147483647).toInt = x.toInt % 2147483648 := c_mask x 2147483647 31 (by decide) (by decide)
  have h2 := (c_irem (x &&& 2147483647) 16 16 (by decide)).1 (by omega)
  have e0 : (0 : Int32).toInt = 0 := by decide
  have en : (16 : Int32).toInt = 16 := by decide
  rw [irem_eq_mod, Int32.lt_iff_toInt_lt, Int32.lt_iff_toInt_lt, e0, en]
  omega
def Q0 (Z : State) (p0 : Int32) (p1 : Int32) (h0 : Heap) (n0 : Nat) (v : Option Value) (h : Heap) (L : List Loc) : Prop := v = some (.int (1 : Int32)) ∧ Fr n0 L
set_option maxRecDepth 65536 in
set_option maxHeartbeats 40000000 in
theorem rm0 (l : Launch) (Z : State) (a0 : Array Value) (hw : ∀ d ∈ tables_1, d.before a0 Z = true) (ws : List Jvm.Cond) (p0 : Int32) (p1 : Int32) (h0 : Heap) (n0 : Nat) (Z0 : n0 ≤ h0.size) :
    MetFree l x (head1 (Jvm.Cond.code x code maxLocals ret :: ws) room_1) (fun a U => a = #[(.int p0), (.int p1)] ∧ Z.Warmed39 U.vm ∧ U.heap = h0) (fun _ _ _ _ _ => True) (fun _ U o U' => ∃ v L, o = .returned v ∧ Q0 Z p0 p1 h0 n0 v U'.heap L ∧ FrameEnd U o U' L room_1.cells room_1.slots) := by
  refine MetFree.of_bodySF (plainFor_of_name pn_0) hisR ?_
  intro p e s m args below meth c s₁ Bd hml0 hP hK
  obtain ⟨rfl, hZ, hh⟩ := hP
  have hx := Bd.exec
  have hby := Bd.bytes
  have hml : c.maxLocals = 4 := hml0
  have hown : s.vm.findClass "com/example/indentary/indentary/reader/TableLinesIsLineBreakPinLaw" = some m.cls := findClass_of_methodNamed Bd.named
  have hnm := (name_of_methodNamed Bd.named Bd.method).1
  have X0 : Stand p l e room_1 s m #[(.int p0), (.int p1)] below meth c s₁ [] 0 0 := Stand.of_body Bd
  have e0 : s₁.heap = h0 := by rw [← hh, Bd.state]; rfl
  have N0 := Fr.nil n0
  have pre0 : ∀ t, Steps p.tables e below (s₁.setTop (mkF m 0 #[.val (.int p0), .val (.int p1), .unset, .unset] [])) t → Steps p.tables e below (s₁.setTop (entryFrame m #[(.int p0), (.int p1)] maxLocals)) t := fun t k => castTop (ef_0 m p0 p1) k
  obtain ⟨T1, h1, k1, X1, e1, E1, A1, st1⟩ := newP X0 hx hZ (hw _ (List.mem_of_getElem? (i := 0) rfl)) e0 (g := (mkF m 2 #[.val (.int p0), .val (.int p1), .unset, .unset] [(.int (16 : Int32))])) rfl (hb hby at_2) rfl (by decide) (cap := 16) (by decide) (by decide) (by decide) (by decide)
  obtain ⟨b1, g1⟩ : ∃ z, z = h0.size := ⟨_, rfl⟩
  rw [← g1] at A1 st1
  have g_b1 : n0 ≤ b1 := Nat.le_trans Z0 (Nat.le_of_eq g1.symm)
  have sz_b1 : h0.size ≤ b1 := Nat.le_trans (Keep.refl h0 []).1 (Nat.le_of_eq g1.symm)
  have K2 : Keep h0 h1 [] := (Keep.refl h0 []).ext E1
  have Z3 : n0 ≤ h1.size := Nat.le_trans Z0 K2.1
  have V_b1 : own_AI Z h1 b1 .char (16 : Int32) (fun _ => 0) := own_AI.new A1 (by decide) rfl
  obtain ⟨cl4, Ar4, Sz4, Nn4, Hs4⟩ := id V_b1
  have hin4 : ¬ ((0 : Int32) < 0 ∨ cl4.slots.size ≤ ((0 : Int32)).toNatClampNeg) := inb_of Sz4 ⟨by decide, by decide⟩
  obtain ⟨T5, h5, X5, e5, W5, st5⟩ := stC X1 hx hZ e1 Ar4 (j := (0 : Int32)) hin4 (g := (mkF m 9 #[.val (.int p0), .val (.int p1), .val (.ref b1), .unset] [(.int (9 : Int32)), (.int (0 : Int32)), (.ref b1)])) rfl rfl (hb hby at_9)
  have V5 : own_AI Z h5 b1 .char (16 : Int32) (own_upd (fun _ => 0) 0 (9 : Int32)) := own_AI.set V_b1 (fits_nar_char (9 : Int32)) W5
  obtain ⟨F5, V5⟩ : ∃ F, own_AI Z h5 b1 .char (16 : Int32) F := ⟨_, V5⟩
  have K6 : Keep h0 h5 [] := K2.wr W5 (Or.inr sz_b1)
  have Z7 : n0 ≤ h5.size := Nat.le_trans Z0 K6.1
  have N5 := Fr.snoc X5 N0 g_b1
  obtain ⟨cl8, Ar8, Sz8, Nn8, Hs8⟩ := id V5
  have hin8 : ¬ ((1 : Int32) < 0 ∨ cl8.slots.size ≤ ((1 : Int32)).toNatClampNeg) := inb_of Sz8 ⟨by decide, by decide⟩
  obtain ⟨T9, h9, X9, e9, W9, st9⟩ := stC X5 hx hZ e5 Ar8 (j := (1 : Int32)) hin8 (g := (mkF m 14 #[.val (.int p0), .val (.int p1), .val (.ref b1), .unset] [(.int (10 : Int32)), (.int (1 : Int32)), (.ref b1)])) rfl rfl (hb hby at_14)
  have V9 : own_AI Z h9 b1 .char (16 : Int32) (own_upd F5 1 (10 : Int32)) := own_AI.set V5 (fits_nar_char (10 : Int32)) W9
  obtain ⟨F9, V9⟩ : ∃ F, own_AI Z h9 b1 .char (16 : Int32) F := ⟨_, V9⟩
  have K10 : Keep h0 h9 [] := K6.wr W9 (Or.inr sz_b1)
  have Z11 : n0 ≤ h9.size := Nat.le_trans Z0 K10.1
  have N9 := Fr.snoc X9 N5 g_b1
  obtain ⟨cl12, Ar12, Sz12, Nn12, Hs12⟩ := id V9
  have hin12 : ¬ ((2 : Int32) < 0 ∨ cl12.slots.size ≤ ((2 : Int32)).toNatClampNeg) := inb_of Sz12 ⟨by decide, by decide⟩
  obtain ⟨T13, h13, X13, e13, W13, st13⟩ := stC X9 hx hZ e9 Ar12 (j := (2 : Int32)) hin12 (g := (mkF m 19 #[.val (.int p0), .val (.int p1), .val (.ref b1), .unset] [(.int (11 : Int32)), (.int (2 : Int32)), (.ref b1)])) rfl rfl (hb hby at_19)
  have V13 : own_AI Z h13 b1 .char (16 : Int32) (own_upd F9 2 (11 : Int32)) := own_AI.set V9 (fits_nar_char (11 : Int32)) W13
  obtain ⟨F13, V13⟩ : ∃ F, own_AI Z h13 b1 .char (16 : Int32) F := ⟨_, V13⟩
  have K14 : Keep h0 h13 [] := K10.wr W13 (Or.inr sz_b1)
  have Z15 : n0 ≤ h13.size := Nat.le_trans Z0 K14.1
  have N13 := Fr.snoc X13 N9 g_b1
  obtain ⟨cl16, Ar16, Sz16, Nn16, Hs16⟩ := id V13
  have hin16 : ¬ ((3 : Int32) < 0 ∨ cl16.slots.size ≤ ((3 : Int32)).toNatClampNeg) := inb_of Sz16 ⟨by decide, by decide⟩
  obtain ⟨T17, h17, X17, e17, W17, st17⟩ := stC X13 hx hZ e13 Ar16 (j := (3 : Int32)) hin16 (g := (mkF m 24 #[.val (.int p0), .val (.int p1), .val (.ref b1), .unset] [(.int (12 : Int32)), (.int (3 : Int32)), (.ref b1)])) rfl rfl (hb hby at_24)
  have V17 : own_AI Z h17 b1 .char (16 : Int32) (own_upd F13 3 (12 : Int32)) := own_AI.set V13 (fits_nar_char (12 : Int32)) W17
  obtain ⟨F17, V17⟩ : ∃ F, own_AI Z h17 b1 .char (16 : Int32) F := ⟨_, V17⟩
  have K18 : Keep h0 h17 [] := K14.wr W17 (Or.inr sz_b1)
  have Z19 : n0 ≤ h17.size := Nat.le_trans Z0 K18.1
  have N17 := Fr.snoc X17 N13 g_b1
  obtain ⟨cl20, Ar20, Sz20, Nn20, Hs20⟩ := id V17
  have hin20 : ¬ ((4 : Int32) < 0 ∨ cl20.slots.size ≤ ((4 : Int32)).toNatClampNeg) := inb_of Sz20 ⟨by decide, by decide⟩
  obtain ⟨T21, h21, X21, e21, W21, st21⟩ := stC X17 hx hZ e17 Ar20 (j := (4 : Int32)) hin20 (g := (mkF m 29 #[.val (.int p0), .val (.int p1), .val (.ref b1), .unset] [(.int (13 : Int32)), (.int (4 : Int32)), (.ref b1)])) rfl rfl (hb hby at_29)
  have V21 : own_AI Z h21 b1 .char (16 : Int32) (own_upd F17 4 (13 : Int32)) := own_AI.set V17 (fits_nar_char (13 : Int32)) W21
  obtain ⟨F21, V21⟩ : ∃ F, own_AI Z h21 b1 .char (16 : Int32) F := ⟨_, V21⟩
  have K22 : Keep h0 h21 [] := K18.wr W21 (Or.inr sz_b1)
  have Z23 : n0 ≤ h21.size := Nat.le_trans Z0 K22.1
  have N21 := Fr.snoc X21 N17 g_b1
  obtain ⟨cl24, Ar24, Sz24, Nn24, Hs24⟩ := id V21
  have hin24 : ¬ ((5 : Int32) < 0 ∨ cl24.slots.size ≤ ((5 : Int32)).toNatClampNeg) := inb_of Sz24 ⟨by decide, by decide⟩
  obtain ⟨T25, h25, X25, e25, W25, st25⟩ := stC X21 hx hZ e21 Ar24 (j := (5 : Int32)) hin24 (g := (mkF m 34 #[.val (.int p0), .val (.int p1), .val (.ref b1), .unset] [(.int (14 : Int32)), (.int (5 : Int32)), (.ref b1)])) rfl rfl (hb hby at_34)
  have V25 : own_AI Z h25 b1 .char (16 : Int32) (own_upd F21 5 (14 : Int32)) := own_AI.set V21 (fits_nar_char (14 : Int32)) W25
  obtain ⟨F25, V25⟩ : ∃ F, own_AI Z h25 b1 .char (16 : Int32) F := ⟨_, V25⟩
  have K26 : Keep h0 h25 [] := K22.wr W25 (Or.inr sz_b1)
  have Z27 : n0 ≤ h25.size := Nat.le_trans Z0 K26.1
  have N25 := Fr.snoc X25 N21 g_b1
  obtain ⟨cl28, Ar28, Sz28, Nn28, Hs28⟩ := id V25
  have hin28 : ¬ ((6 : Int32) < 0 ∨ cl28.slots.size ≤ ((6 : Int32)).toNatClampNeg) := inb_of Sz28 ⟨by decide, by decide⟩
  obtain ⟨T29, h29, X29, e29, W29, st29⟩ := stC X25 hx hZ e25 Ar28 (j := (6 : Int32)) hin28 (g := (mkF m 41 #[.val (.int p0), .val (.int p1), .val (.ref b1), .unset] [(.int (132 : Int32)), (.int (6 : Int32)), (.ref b1)])) rfl rfl (hb hby at_41)
  have V29 : own_AI Z h29 b1 .char (16 : Int32) (own_upd F25 6 (132 : Int32)) := own_AI.set V25 (fits_nar_char (132 : Int32)) W29
  obtain ⟨F29, V29⟩ : ∃ F, own_AI Z h29 b1 .char (16 : Int32) F := ⟨_, V29⟩
  have K30 : Keep h0 h29 [] := K26.wr W29 (Or.inr sz_b1)
  have Z31 : n0 ≤ h29.size := Nat.le_trans Z0 K30.1
  have N29 := Fr.snoc X29 N25 g_b1
  obtain ⟨cl32, Ar32, Sz32, Nn32, Hs32⟩ := id V29
  have hin32 : ¬ ((7 : Int32) < 0 ∨ cl32.slots.size ≤ ((7 : Int32)).toNatClampNeg) := inb_of Sz32 ⟨by decide, by decide⟩
  obtain ⟨T33, h33, X33, e33, W33, st33⟩ := stC X29 hx hZ e29 Ar32 (j := (7 : Int32)) hin32 (g := (mkF m 48 #[.val (.int p0), .val (.int p1), .val (.ref b1), .unset] [(.int (133 : Int32)), (.int (7 : Int32)), (.ref b1)])) rfl rfl (hb hby at_48)
  have V33 : own_AI Z h33 b1 .char (16 : Int32) (own_upd F29 7 (133 : Int32)) := own_AI.set V29 (fits_nar_char (133 : Int32)) W33
  obtain ⟨F33, V33⟩ : ∃ F, own_AI Z h33 b1 .char (16 : Int32) F := ⟨_, V33⟩
  have K34 : Keep h0 h33 [] := K30.wr W33 (Or.inr sz_b1)
  have Z35 : n0 ≤ h33.size := Nat.le_trans Z0 K34.1
  have N33 := Fr.snoc X33 N29 g_b1
  obtain ⟨cl36, Ar36, Sz36, Nn36, Hs36⟩ := id V33
  have hin36 : ¬ ((8 : Int32) < 0 ∨ cl36.slots.size ≤ ((8 : Int32)).toNatClampNeg) := inb_of Sz36 ⟨by decide, by decide⟩
  obtain ⟨T37, h37, X37, e37, W37, st37⟩ := stC X33 hx hZ e33 Ar36 (j := (8 : Int32)) hin36 (g := (mkF m 55 #[.val (.int p0), .val (.int p1), .val (.ref b1), .unset] [(.int (134 : Int32)), (.int (8 : Int32)), (.ref b1)])) rfl rfl (hb hby at_55)
  have V37 : own_AI Z h37 b1 .char (16 : Int32) (own_upd F33 8 (134 : Int32)) := own_AI.set V33 (fits_nar_char (134 : Int32)) W37
  obtain ⟨F37, V37⟩ : ∃ F, own_AI Z h37 b1 .char (16 : Int32) F := ⟨_, V37⟩
  have K38 : Keep h0 h37 [] := K34.wr W37 (Or.inr sz_b1)
  have Z39 : n0 ≤ h37.size := Nat.le_trans Z0 K38.1
  have N37 := Fr.snoc X37 N33 g_b1
  obtain ⟨cl40, Ar40, Sz40, Nn40, Hs40⟩ := id V37
  have hin40 : ¬ ((9 : Int32) < 0 ∨ cl40.slots.size ≤ ((9 : Int32)).toNatClampNeg) := inb_of Sz40 ⟨by decide, by decide⟩
  obtain ⟨T41, h41, X41, e41, W41, st41⟩ := stC X37 hx hZ e37 Ar40 (j := (9 : Int32)) hin40 (g := (mkF m 62 #[.val (.int p0), .val (.int p1), .val (.ref b1), .unset] [(.int (8231 : Int32)), (.int (9 : Int32)), (.ref b1)])) rfl rfl (hb hby at_62)
  have V41 : own_AI Z h41 b1 .char (16 : Int32) (own_upd F37 9 (8231 : Int32)) := own_AI.set V37 (fits_nar_char (8231 : Int32)) W41
  obtain ⟨F41, V41⟩ : ∃ F, own_AI Z h41 b1 .char (16 : Int32) F := ⟨_, V41⟩
  have K42 : Keep h0 h41 [] := K38.wr W41 (Or.inr sz_b1)
  have Z43 : n0 ≤ h41.size := Nat.le_trans Z0 K42.1
  have N41 := Fr.snoc X41 N37 g_b1
  obtain ⟨cl44, Ar44, Sz44, Nn44, Hs44⟩ := id V41
  have hin44 : ¬ ((10 : Int32) < 0 ∨ cl44.slots.size ≤ ((10 : Int32)).toNatClampNeg) := inb_of Sz44 ⟨by decide, by decide⟩
  obtain ⟨T45, h45, X45, e45, W45, st45⟩ := stC X41 hx hZ e41 Ar44 (j := (10 : Int32)) hin44 (g := (mkF m 69 #[.val (.int p0), .val (.int p1), .val (.ref b1), .unset] [(.int (8232 : Int32)), (.int (10 : Int32)), (.ref b1)])) rfl rfl (hb hby at_69)
  have V45 : own_AI Z h45 b1 .char (16 : Int32) (own_upd F41 10 (8232 : Int32)) := own_AI.set V41 (fits_nar_char (8232 : Int32)) W45
  obtain ⟨F45, V45⟩ : ∃ F, own_AI Z h45 b1 .char (16 : Int32) F := ⟨_, V45⟩
  have K46 : Keep h0 h45 [] := K42.wr W45 (Or.inr sz_b1)
  have Z47 : n0 ≤ h45.size := Nat.le_trans Z0 K46.1
  have N45 := Fr.snoc X45 N41 g_b1
  obtain ⟨cl48, Ar48, Sz48, Nn48, Hs48⟩ := id V45
  have hin48 : ¬ ((11 : Int32) < 0 ∨ cl48.slots.size ≤ ((11 : Int32)).toNatClampNeg) := inb_of Sz48 ⟨by decide, by decide⟩
  obtain ⟨T49, h49, X49, e49, W49, st49⟩ := stC X45 hx hZ e45 Ar48 (j := (11 : Int32)) hin48 (g := (mkF m 76 #[.val (.int p0), .val (.int p1), .val (.ref b1), .unset] [(.int (8233 : Int32)), (.int (11 : Int32)), (.ref b1)])) rfl rfl (hb hby at_76)
  have V49 : own_AI Z h49 b1 .char (16 : Int32) (own_upd F45 11 (8233 : Int32)) := own_AI.set V45 (fits_nar_char (8233 : Int32)) W49
  obtain ⟨F49, V49⟩ : ∃ F, own_AI Z h49 b1 .char (16 : Int32) F := ⟨_, V49⟩
  have K50 : Keep h0 h49 [] := K46.wr W49 (Or.inr sz_b1)
  have Z51 : n0 ≤ h49.size := Nat.le_trans Z0 K50.1
  have N49 := Fr.snoc X49 N45 g_b1
  obtain ⟨cl52, Ar52, Sz52, Nn52, Hs52⟩ := id V49
  have hin52 : ¬ ((12 : Int32) < 0 ∨ cl52.slots.size ≤ ((12 : Int32)).toNatClampNeg) := inb_of Sz52 ⟨by decide, by decide⟩
  obtain ⟨T53, h53, X53, e53, W53, st53⟩ := stC X49 hx hZ e49 Ar52 (j := (12 : Int32)) hin52 (g := (mkF m 83 #[.val (.int p0), .val (.int p1), .val (.ref b1), .unset] [(.int (8234 : Int32)), (.int (12 : Int32)), (.ref b1)])) rfl rfl (hb hby at_83)
  have V53 : own_AI Z h53 b1 .char (16 : Int32) (own_upd F49 12 (8234 : Int32)) := own_AI.set V49 (fits_nar_char (8234 : Int32)) W53
  obtain ⟨F53, V53⟩ : ∃ F, own_AI Z h53 b1 .char (16 : Int32) F := ⟨_, V53⟩
  have K54 : Keep h0 h53 [] := K50.wr W53 (Or.inr sz_b1)
  have Z55 : n0 ≤ h53.size := Nat.le_trans Z0 K54.1
  have N53 := Fr.snoc X53 N49 g_b1
  obtain ⟨cl56, Ar56, Sz56, Nn56, Hs56⟩ := id V53
  have hin56 : ¬ ((13 : Int32) < 0 ∨ cl56.slots.size ≤ ((13 : Int32)).toNatClampNeg) := inb_of Sz56 ⟨by decide, by decide⟩
  obtain ⟨T57, h57, X57, e57, W57, st57⟩ := stC X53 hx hZ e53 Ar56 (j := (13 : Int32)) hin56 (g := (mkF m 88 #[.val (.int p0), .val (.int p1), .val (.ref b1), .unset] [(.int (0 : Int32)), (.int (13 : Int32)), (.ref b1)])) rfl rfl (hb hby at_88)
  have V57 : own_AI Z h57 b1 .char (16 : Int32) (own_upd F53 13 (0 : Int32)) := own_AI.set V53 (fits_nar_char (0 : Int32)) W57
  obtain ⟨F57, V57⟩ : ∃ F, own_AI Z h57 b1 .char (16 : Int32) F := ⟨_, V57⟩
  have K58 : Keep h0 h57 [] := K54.wr W57 (Or.inr sz_b1)
  have Z59 : n0 ≤ h57.size := Nat.le_trans Z0 K58.1
  have N57 := Fr.snoc X57 N53 g_b1
  obtain ⟨cl60, Ar60, Sz60, Nn60, Hs60⟩ := id V57
  have hin60 : ¬ ((14 : Int32) < 0 ∨ cl60.slots.size ≤ ((14 : Int32)).toNatClampNeg) := inb_of Sz60 ⟨by decide, by decide⟩
  obtain ⟨T61, h61, X61, e61, W61, st61⟩ := stC X57 hx hZ e57 Ar60 (j := (14 : Int32)) hin60 (g := (mkF m 94 #[.val (.int p0), .val (.int p1), .val (.ref b1), .unset] [(.int (65535 : Int32)), (.int (14 : Int32)), (.ref b1)])) rfl rfl (hb hby at_94)
  have V61 : own_AI Z h61 b1 .char (16 : Int32) (own_upd F57 14 (65535 : Int32)) := own_AI.set V57 (fits_nar_char (65535 : Int32)) W61
  obtain ⟨F61, V61⟩ : ∃ F, own_AI Z h61 b1 .char (16 : Int32) F := ⟨_, V61⟩
  have K62 : Keep h0 h61 [] := K58.wr W61 (Or.inr sz_b1)
  have Z63 : n0 ≤ h61.size := Nat.le_trans Z0 K62.1
  have N61 := Fr.snoc X61 N57 g_b1
  obtain ⟨cl64, Ar64, Sz64, Nn64, Hs64⟩ := id V61
  have hin64 : ¬ ((15 : Int32) < 0 ∨ cl64.slots.size ≤ ((15 : Int32)).toNatClampNeg) := inb_of Sz64 ⟨by decide, by decide⟩
  obtain ⟨T65, h65, X65, e65, W65, st65⟩ := stC X61 hx hZ e61 Ar64 (j := (15 : Int32)) hin64 (g := (mkF m 100 #[.val (.int p0), .val (.int p1), .val (.ref b1), .unset] [(.int (32 : Int32)), (.int (15 : Int32)), (.ref b1)])) rfl rfl (hb hby at_100)
  have V65 : own_AI Z h65 b1 .char (16 : Int32) (own_upd F61 15 (32 : Int32)) := own_AI.set V61 (fits_nar_char (32 : Int32)) W65
  obtain ⟨F65, V65⟩ : ∃ F, own_AI Z h65 b1 .char (16 : Int32) F := ⟨_, V65⟩
  have K66 : Keep h0 h65 [] := K62.wr W65 (Or.inr sz_b1)
  have Z67 : n0 ≤ h65.size := Nat.le_trans Z0 K66.1
  have N65 := Fr.snoc X65 N61 g_b1
  have pre68 : ∀ t, Steps p.tables e below (T65.setTop (mkF m 104 #[.val (.int p0), .val (.int p1), .val (.ref b1), .unset] [(.int (p1 &&& (1 : Int32)))])) t → Steps p.tables e below (s₁.setTop (entryFrame m #[(.int p0), (.int p1)] maxLocals)) t := fun t kt => pre0 t (by
      show Steps p.tables e below (s₁.setTop (mkF m 0 #[.val (.int p0), .val (.int p1), .unset, .unset] [])) _
      refine XS.bipush X0.here hx rfl (hb hby at_0) ?_
      show Steps p.tables e below (s₁.setTop (mkF m 2 #[.val (.int p0), .val (.int p1), .unset, .unset] [(.int (16 : Int32))])) _
      refine st1 _ ?_
      show Steps p.tables e below (T1.setTop (mkF m 4 #[.val (.int p0), .val (.int p1), .unset, .unset] [(.ref b1)])) _
      refine XS.astoreN X1.here hx rfl (hb hby at_4) rfl rfl (l' := #[.val (.int p0), .val (.int p1), .val (.ref b1), .unset]) rfl ?_
      show Steps p.tables e below (T1.setTop (mkF m 5 #[.val (.int p0), .val (.int p1), .val (.ref b1), .unset] [])) _
      refine XS.aloadN X1.here hx rfl (hb hby at_5) rfl rfl ?_
      show Steps p.tables e below (T1.setTop (mkF m 6 #[.val (.int p0), .val (.int p1), .val (.ref b1), .unset] [(.ref b1)])) _
      refine XS.iconst X1.here hx rfl (hb hby at_6) ?_
      show Steps p.tables e below (T1.setTop (mkF m 7 #[.val (.int p0), .val (.int p1), .val (.ref b1), .unset] [(.int (0 : Int32)), (.ref b1)])) _
      refine XS.bipush X1.here hx rfl (hb hby at_7) ?_
      show Steps p.tables e below (T1.setTop (mkF m 9 #[.val (.int p0), .val (.int p1), .val (.ref b1), .unset] [(.int (9 : Int32)), (.int (0 : Int32)), (.ref b1)])) _
      refine st5 _ ?_
      show Steps p.tables e below (T5.setTop (mkF m 10 #[.val (.int p0), .val (.int p1), .val (.ref b1), .unset] [])) _
      refine XS.aloadN X5.here hx rfl (hb hby at_10) rfl rfl ?_
      show Steps p.tables e below (T5.setTop (mkF m 11 #[.val (.int p0), .val (.int p1), .val (.ref b1), .unset] [(.ref b1)])) _
      refine XS.iconst X5.here hx rfl (hb hby at_11) ?_
      show Steps p.tables e below (T5.setTop (mkF m 12 #[.val (.int p0), .val (.int p1), .val (.ref b1), .unset] [(.int (1 : Int32)), (.ref b1)])) _
      refine XS.bipush X5.here hx rfl (hb hby at_12) ?_
      show Steps p.tables e below (T5.setTop (mkF m 14 #[.val (.int p0), .val (.int p1), .val (.ref b1), .unset] [(.int (10 : Int32)), (.int (1 : Int32)), (.ref b1)])) _
      refine st9 _ ?_
      show Steps p.tables e below (T9.setTop (mkF m 15 #[.val (.int p0), .val (.int p1), .val (.ref b1), .unset] [])) _
      refine XS.aloadN X9.here hx rfl (hb hby at_15) rfl rfl ?_
      show Steps p.tables e below (T9.setTop (mkF m 16 #[.val (.int p0), .val (.int p1), .val (.ref b1), .unset] [(.ref b1)])) _
      refine XS.iconst X9.here hx rfl (hb hby at_16) ?_
      show Steps p.tables e below (T9.setTop (mkF m 17 #[.val (.int p0), .val (.int p1), .val (.ref b1), .unset] [(.int (2 : Int32)), (.ref b1)])) _
      refine XS.bipush X9.here hx rfl (hb hby at_17) ?_
      show Steps p.tables e below (T9.setTop (mkF m 19 #[.val (.int p0), .val (.int p1), .val (.ref b1), .unset] [(.int (11 : Int32)), (.int (2 : Int32)), (.ref b1)])) _
      refine st13 _ ?_
      show Steps p.tables e below (T13.setTop (mkF m 20 #[.val (.int p0), .val (.int p1), .val (.ref b1), .unset] [])) _
      refine XS.aloadN X13.here hx rfl (hb hby at_20) rfl rfl ?_
      show Steps p.tables e below (T13.setTop (mkF m 21 #[.val (.int p0), .val (.int p1), .val (.ref b1), .unset] [(.ref b1)])) _
      refine XS.iconst X13.here hx rfl (hb hby at_21) ?_
      show Steps p.tables e below (T13.setTop (mkF m 22 #[.val (.int p0), .val (.int p1), .val (.ref b1), .unset] [(.int (3 : Int32)), (.ref b1)])) _
      refine XS.bipush X13.here hx rfl (hb hby at_22) ?_
      show Steps p.tables e below (T13.setTop (mkF m 24 #[.val (.int p0), .val (.int p1), .val (.ref b1), .unset] [(.int (12 : Int32)), (.int (3 : Int32)), (.ref b1)])) _
      refine st17 _ ?_
      show Steps p.tables e below (T17.setTop (mkF m 25 #[.val (.int p0), .val (.int p1), .val (.ref b1), .unset] [])) _
      refine XS.aloadN X17.here hx rfl (hb hby at_25) rfl rfl ?_
      show Steps p.tables e below (T17.setTop (mkF m 26 #[.val (.int p0), .val (.int p1), .val (.ref b1), .unset] [(.ref b1)])) _
      refine XS.iconst X17.here hx rfl (hb hby at_26) ?_
      show Steps p.tables e below (T17.setTop (mkF m 27 #[.val (.int p0), .val (.int p1), .val (.ref b1), .unset] [(.int (4 : Int32)), (.ref b1)])) _
      refine XS.bipush X17.here hx rfl (hb hby at_27) ?_
      show Steps p.tables e below (T17.setTop (mkF m 29 #[.val (.int p0), .val (.int p1), .val (.ref b1), .unset] [(.int (13 : Int32)), (.int (4 : Int32)), (.ref b1)])) _
      refine st21 _ ?_
      show Steps p.tables e below (T21.setTop (mkF m 30 #[.val (.int p0), .val (.int p1), .val (.ref b1), .unset] [])) _
      refine XS.aloadN X21.here hx rfl (hb hby at_30) rfl rfl ?_
      show Steps p.tables e below (T21.setTop (mkF m 31 #[.val (.int p0), .val (.int p1), .val (.ref b1), .unset] [(.ref b1)])) _
      refine XS.iconst X21.here hx rfl (hb hby at_31) ?_
      show Steps p.tables e below (T21.setTop (mkF m 32 #[.val (.int p0), .val (.int p1), .val (.ref b1), .unset] [(.int (5 : Int32)), (.ref b1)])) _
      refine XS.bipush X21.here hx rfl (hb hby at_32) ?_
      show Steps p.tables e below (T21.setTop (mkF m 34 #[.val (.int p0), .val (.int p1), .val (.ref b1), .unset] [(.int (14 : Int32)), (.int (5 : Int32)), (.ref b1)])) _
      refine st25 _ ?_
      show Steps p.tables e below (T25.setTop (mkF m 35 #[.val (.int p0), .val (.int p1), .val (.ref b1), .unset] [])) _
      refine XS.aloadN X25.here hx rfl (hb hby at_35) rfl rfl ?_
      show Steps p.tables e below (T25.setTop (mkF m 36 #[.val (.int p0), .val (.int p1), .val (.ref b1), .unset] [(.ref b1)])) _
      refine XS.bipush X25.here hx rfl (hb hby at_36) ?_
      show Steps p.tables e below (T25.setTop (mkF m 38 #[.val (.int p0), .val (.int p1), .val (.ref b1), .unset] [(.int (6 : Int32)), (.ref b1)])) _
      refine XS.sipush X25.here hx rfl (hb hby at_38) ?_
      show Steps p.tables e below (T25.setTop (mkF m 41 #[.val (.int p0), .val (.int p1), .val (.ref b1), .unset] [(.int (132 : Int32)), (.int (6 : Int32)), (.ref b1)])) _
      refine st29 _ ?_
      show Steps p.tables e below (T29.setTop (mkF m 42 #[.val (.int p0), .val (.int p1), .val (.ref b1), .unset] [])) _
      refine XS.aloadN X29.here hx rfl (hb hby at_42) rfl rfl ?_
      show Steps p.tables e below (T29.setTop (mkF m 43 #[.val (.int p0), .val (.int p1), .val (.ref b1), .unset] [(.ref b1)])) _
      refine XS.bipush X29.here hx rfl (hb hby at_43) ?_
      show Steps p.tables e below (T29.setTop (mkF m 45 #[.val (.int p0), .val (.int p1), .val (.ref b1), .unset] [(.int (7 : Int32)), (.ref b1)])) _
      refine XS.sipush X29.here hx rfl (hb hby at_45) ?_
      show Steps p.tables e below (T29.setTop (mkF m 48 #[.val (.int p0), .val (.int p1), .val (.ref b1), .unset] [(.int (133 : Int32)), (.int (7 : Int32)), (.ref b1)])) _
      refine st33 _ ?_
      show Steps p.tables e below (T33.setTop (mkF m 49 #[.val (.int p0), .val (.int p1), .val (.ref b1), .unset] [])) _
      refine XS.aloadN X33.here hx rfl (hb hby at_49) rfl rfl ?_
      show Steps p.tables e below (T33.setTop (mkF m 50 #[.val (.int p0), .val (.int p1), .val (.ref b1), .unset] [(.ref b1)])) _
      refine XS.bipush X33.here hx rfl (hb hby at_50) ?_
      show Steps p.tables e below (T33.setTop (mkF m 52 #[.val (.int p0), .val (.int p1), .val (.ref b1), .unset] [(.int (8 : Int32)), (.ref b1)])) _
      refine XS.sipush X33.here hx rfl (hb hby at_52) ?_
      show Steps p.tables e below (T33.setTop (mkF m 55 #[.val (.int p0), .val (.int p1), .val (.ref b1), .unset] [(.int (134 : Int32)), (.int (8 : Int32)), (.ref b1)])) _
      refine st37 _ ?_
      show Steps p.tables e below (T37.setTop (mkF m 56 #[.val (.int p0), .val (.int p1), .val (.ref b1), .unset] [])) _
      refine XS.aloadN X37.here hx rfl (hb hby at_56) rfl rfl ?_
      show Steps p.tables e below (T37.setTop (mkF m 57 #[.val (.int p0), .val (.int p1), .val (.ref b1), .unset] [(.ref b1)])) _
      refine XS.bipush X37.here hx rfl (hb hby at_57) ?_
      show Steps p.tables e below (T37.setTop (mkF m 59 #[.val (.int p0), .val (.int p1), .val (.ref b1), .unset] [(.int (9 : Int32)), (.ref b1)])) _
      refine XS.sipush X37.here hx rfl (hb hby at_59) ?_
      show Steps p.tables e below (T37.setTop (mkF m 62 #[.val (.int p0), .val (.int p1), .val (.ref b1), .unset] [(.int (8231 : Int32)), (.int (9 : Int32)), (.ref b1)])) _
      refine st41 _ ?_
      show Steps p.tables e below (T41.setTop (mkF m 63 #[.val (.int p0), .val (.int p1), .val (.ref b1), .unset] [])) _
      refine XS.aloadN X41.here hx rfl (hb hby at_63) rfl rfl ?_
      show Steps p.tables e below (T41.setTop (mkF m 64 #[.val (.int p0), .val (.int p1), .val (.ref b1), .unset] [(.ref b1)])) _
      refine XS.bipush X41.here hx rfl (hb hby at_64) ?_
      show Steps p.tables e below (T41.setTop (mkF m 66 #[.val (.int p0), .val (.int p1), .val (.ref b1), .unset] [(.int (10 : Int32)), (.ref b1)])) _
      refine XS.sipush X41.here hx rfl (hb hby at_66) ?_
      show Steps p.tables e below (T41.setTop (mkF m 69 #[.val (.int p0), .val (.int p1), .val (.ref b1), .unset] [(.int (8232 : Int32)), (.int (10 : Int32)), (.ref b1)])) _
      refine st45 _ ?_
      show Steps p.tables e below (T45.setTop (mkF m 70 #[.val (.int p0), .val (.int p1), .val (.ref b1), .unset] [])) _
      refine XS.aloadN X45.here hx rfl (hb hby at_70) rfl rfl ?_
      show Steps p.tables e below (T45.setTop (mkF m 71 #[.val (.int p0), .val (.int p1), .val (.ref b1), .unset] [(.ref b1)])) _
      refine XS.bipush X45.here hx rfl (hb hby at_71) ?_
      show Steps p.tables e below (T45.setTop (mkF m 73 #[.val (.int p0), .val (.int p1), .val (.ref b1), .unset] [(.int (11 : Int32)), (.ref b1)])) _
      refine XS.sipush X45.here hx rfl (hb hby at_73) ?_
      show Steps p.tables e below (T45.setTop (mkF m 76 #[.val (.int p0), .val (.int p1), .val (.ref b1), .unset] [(.int (8233 : Int32)), (.int (11 : Int32)), (.ref b1)])) _
      refine st49 _ ?_
      show Steps p.tables e below (T49.setTop (mkF m 77 #[.val (.int p0), .val (.int p1), .val (.ref b1), .unset] [])) _
      refine XS.aloadN X49.here hx rfl (hb hby at_77) rfl rfl ?_
      show Steps p.tables e below (T49.setTop (mkF m 78 #[.val (.int p0), .val (.int p1), .val (.ref b1), .unset] [(.ref b1)])) _
      refine XS.bipush X49.here hx rfl (hb hby at_78) ?_
      show Steps p.tables e below (T49.setTop (mkF m 80 #[.val (.int p0), .val (.int p1), .val (.ref b1), .unset] [(.int (12 : Int32)), (.ref b1)])) _
      refine XS.sipush X49.here hx rfl (hb hby at_80) ?_
      show Steps p.tables e below (T49.setTop (mkF m 83 #[.val (.int p0), .val (.int p1), .val (.ref b1), .unset] [(.int (8234 : Int32)), (.int (12 : Int32)), (.ref b1)])) _
      refine st53 _ ?_
      show Steps p.tables e below (T53.setTop (mkF m 84 #[.val (.int p0), .val (.int p1), .val (.ref b1), .unset] [])) _
      refine XS.aloadN X53.here hx rfl (hb hby at_84) rfl rfl ?_
      show Steps p.tables e below (T53.setTop (mkF m 85 #[.val (.int p0), .val (.int p1), .val (.ref b1), .unset] [(.ref b1)])) _
      refine XS.bipush X53.here hx rfl (hb hby at_85) ?_
      show Steps p.tables e below (T53.setTop (mkF m 87 #[.val (.int p0), .val (.int p1), .val (.ref b1), .unset] [(.int (13 : Int32)), (.ref b1)])) _
      refine XS.iconst X53.here hx rfl (hb hby at_87) ?_
      show Steps p.tables e below (T53.setTop (mkF m 88 #[.val (.int p0), .val (.int p1), .val (.ref b1), .unset] [(.int (0 : Int32)), (.int (13 : Int32)), (.ref b1)])) _
      refine st57 _ ?_
      show Steps p.tables e below (T57.setTop (mkF m 89 #[.val (.int p0), .val (.int p1), .val (.ref b1), .unset] [])) _
      refine XS.aloadN X57.here hx rfl (hb hby at_89) rfl rfl ?_
      show Steps p.tables e below (T57.setTop (mkF m 90 #[.val (.int p0), .val (.int p1), .val (.ref b1), .unset] [(.ref b1)])) _
      refine XS.bipush X57.here hx rfl (hb hby at_90) ?_
      show Steps p.tables e below (T57.setTop (mkF m 92 #[.val (.int p0), .val (.int p1), .val (.ref b1), .unset] [(.int (14 : Int32)), (.ref b1)])) _
      refine X57.ldcInt hx hown (mvT hZ (hw _ (List.mem_of_getElem? (i := 1) rfl))) (g := (mkF m 92 #[.val (.int p0), .val (.int p1), .val (.ref b1), .unset] [(.int (14 : Int32)), (.ref b1)])) rfl (hb hby at_92) _ ?_
      show Steps p.tables e below (T57.setTop (mkF m 94 #[.val (.int p0), .val (.int p1), .val (.ref b1), .unset] [(.int (65535 : Int32)), (.int (14 : Int32)), (.ref b1)])) _
      refine st61 _ ?_
      show Steps p.tables e below (T61.setTop (mkF m 95 #[.val (.int p0), .val (.int p1), .val (.ref b1), .unset] [])) _
      refine XS.aloadN X61.here hx rfl (hb hby at_95) rfl rfl ?_
      show Steps p.tables e below (T61.setTop (mkF m 96 #[.val (.int p0), .val (.int p1), .val (.ref b1), .unset] [(.ref b1)])) _
      refine XS.bipush X61.here hx rfl (hb hby at_96) ?_
      show Steps p.tables e below (T61.setTop (mkF m 98 #[.val (.int p0), .val (.int p1), .val (.ref b1), .unset] [(.int (15 : Int32)), (.ref b1)])) _
      refine XS.bipush X61.here hx rfl (hb hby at_98) ?_
      show Steps p.tables e below (T61.setTop (mkF m 100 #[.val (.int p0), .val (.int p1), .val (.ref b1), .unset] [(.int (32 : Int32)), (.int (15 : Int32)), (.ref b1)])) _
      refine st65 _ ?_
      show Steps p.tables e below (T65.setTop (mkF m 101 #[.val (.int p0), .val (.int p1), .val (.ref b1), .unset] [])) _
      refine XS.iloadN X65.here hx rfl (hb hby at_101) rfl ?_
      show Steps p.tables e below (T65.setTop (mkF m 102 #[.val (.int p0), .val (.int p1), .val (.ref b1), .unset] [(.int p1)])) _
      refine XS.iconst X65.here hx rfl (hb hby at_102) ?_
      show Steps p.tables e below (T65.setTop (mkF m 103 #[.val (.int p0), .val (.int p1), .val (.ref b1), .unset] [(.int (1 : Int32)), (.int p1)])) _
      refine XS.iand X65.here hx rfl (hb hby at_103) rfl ?_
      exact kt)
  by_cases hc104_69 : (p1 &&& (1 : Int32)) = (0 : Int32)
  · obtain ⟨cl70, Ar70, Sz70, Nn70, Hs70⟩ := id V65
    have hin70 : ¬ (((p0 &&& (2147483647 : Int32)) - ((p0 &&& (2147483647 : Int32)) / (16 : Int32)) * (16 : Int32)) < 0 ∨ cl70.slots.size ≤ (((p0 &&& (2147483647 : Int32)) - ((p0 &&& (2147483647 : Int32)) / (16 : Int32)) * (16 : Int32))).toNatClampNeg) := inb_of Sz70 (own_idx _)
    have hat70 : cl70.slots[(((p0 &&& (2147483647 : Int32)) - ((p0 &&& (2147483647 : Int32)) / (16 : Int32)) * (16 : Int32))).toNatClampNeg]? = some (.int (F65 (((p0 &&& (2147483647 : Int32)) - ((p0 &&& (2147483647 : Int32)) / (16 : Int32)) * (16 : Int32))).toNatClampNeg)) := (Hs70 _ (own_lt hin70)).1
    obtain ⟨w70, hw70⟩ : ∃ z, z = (F65 (((p0 &&& (2147483647 : Int32)) - ((p0 &&& (2147483647 : Int32)) / (16 : Int32)) * (16 : Int32))).toNatClampNeg) := ⟨_, rfl⟩
    rw [← hw70] at hat70
    obtain ⟨_, _, ⟨T71, L71, k71, n71⟩, -, X71, ⟨Lc71, hQ71, l71, y71, z71⟩, st71⟩ := Jvm.LawKit.callS X65 hx (y := (⟨"com/example/indentary/indentary/reader/TableLines", "isLineBreak", "(C)Z"⟩ : MethodName)) hown (mvT hZ (hw _ (List.mem_of_getElem? (i := 2) rfl))) (mvT hZ (hw _ (List.mem_of_getElem? (i := 3) rfl))) (mvT hZ (hw _ (List.mem_of_getElem? (i := 4) rfl))) (mvT hZ (hw _ (List.mem_of_getElem? (i := 5) rfl))) (by decide) (backOf (W := 0) (rm1 l Z a0 hw [] w70 h65 n0 Z67 ) hZ (hw _ (List.mem_of_getElem? (i := 5) rfl)) (hw _ (List.mem_of_getElem? (i := 4) rfl)) (by decide) (by decide)) (g := (mkF m 124 #[.val (.int p0), .val (.int p1), .val (.ref b1), .val (.int w70)] [(.int w70)])) rfl (by rw [hml]; rfl) (argsL := [(.int w70)]) (rest := []) (lenOf pd_0_0 rfl) rfl (by show 2 * 0 + _ ≤ _; exact Nat.le_of_eq rfl) (hb hby at_124) (fun _ _ => ⟨rfl, e65, (by decide : 1 + 0 ≤ _), (by decide : 16 + 0 ≤ _)⟩)
    dsimp only [Pt.U, Pt.locs, Pt.cells, Pt.slots] at X71 l71 y71 z71 st71 hQ71
    subst l71 y71 z71
    obtain ⟨rfl, N71q, e71q⟩ := hQ71
    have N71 := Fr.app N65 N71q
    obtain ⟨_, _, ⟨T72, L72, k72, n72⟩, -, X72, ⟨Lc72, hQ72, l72, y72, z72⟩, st72⟩ := Jvm.LawKit.callS X71 hx (y := (⟨"com/example/indentary/indentary/reader/TableLinesIsLineBreakPinLaw", "reference", "(C)Z"⟩ : MethodName)) hown (mvT hZ (hw _ (List.mem_of_getElem? (i := 6) rfl))) (mvT hZ (hw _ (List.mem_of_getElem? (i := 7) rfl))) (mvT hZ (hw _ (List.mem_of_getElem? (i := 8) rfl))) (mvT hZ (hw _ (List.mem_of_getElem? (i := 9) rfl))) (by decide) (backOf (W := 1) (rm2 l Z a0 hw [] w70 h65 n0 Z67 ) hZ (hw _ (List.mem_of_getElem? (i := 9) rfl)) (hw _ (List.mem_of_getElem? (i := 8) rfl)) (by decide) (by decide)) (g := (mkF m 128 #[.val (.int p0), .val (.int p1), .val (.ref b1), .val (.int w70)] [(.int w70), (.int (f1 w70))])) rfl (by rw [hml]; rfl) (argsL := [(.int w70)]) (rest := [(.int (f1 w70))]) (lenOf pd_0_0 rfl) rfl (by show 2 * 0 + _ ≤ _; exact Nat.le_of_eq rfl) (hb hby at_128) (fun _ _ => ⟨rfl, e71q, (by decide : 1 + 0 ≤ _), (by decide : 16 + 0 ≤ _)⟩)
    dsimp only [Pt.U, Pt.locs, Pt.cells, Pt.slots] at X72 l72 y72 z72 st72 hQ72
    subst l72 y72 z72
    obtain ⟨rfl, N72q, e72q⟩ := hQ72
    have N72 := Fr.app N71 N72q
    have pre73 : ∀ t, Steps p.tables e below (T72.setTop (mkF m 131 #[.val (.int p0), .val (.int p1), .val (.ref b1), .val (.int w70)] [(.int (f2 w70)), (.int (f1 w70))])) t → Steps p.tables e below (s₁.setTop (entryFrame m #[(.int p0), (.int p1)] maxLocals)) t := fun t kt => pre68 t (by
        show Steps p.tables e below (T65.setTop (mkF m 104 #[.val (.int p0), .val (.int p1), .val (.ref b1), .unset] [(.int (p1 &&& (1 : Int32)))])) _
        refine XS.ifYes X65.here hx rfl (pc0 := 104) (pc' := 113) rfl (hb hby at_104) rfl ((if0 _ _).trans (teq hc104_69).1) (by decide) (by decide) ?_
        show Steps p.tables e below (T65.setTop (mkF m 113 #[.val (.int p0), .val (.int p1), .val (.ref b1), .unset] [])) _
        refine XS.aloadN X65.here hx rfl (hb hby at_113) rfl rfl ?_
        show Steps p.tables e below (T65.setTop (mkF m 114 #[.val (.int p0), .val (.int p1), .val (.ref b1), .unset] [(.ref b1)])) _
        refine XS.iloadN X65.here hx rfl (hb hby at_114) rfl ?_
        show Steps p.tables e below (T65.setTop (mkF m 115 #[.val (.int p0), .val (.int p1), .val (.ref b1), .unset] [(.int p0), (.ref b1)])) _
        refine X65.ldcInt hx hown (mvT hZ (hw _ (List.mem_of_getElem? (i := 10) rfl))) (g := (mkF m 115 #[.val (.int p0), .val (.int p1), .val (.ref b1), .unset] [(.int p0), (.ref b1)])) rfl (hb hby at_115) _ ?_
        show Steps p.tables e below (T65.setTop (mkF m 117 #[.val (.int p0), .val (.int p1), .val (.ref b1), .unset] [(.int (2147483647 : Int32)), (.int p0), (.ref b1)])) _
        refine XS.iand X65.here hx rfl (hb hby at_117) rfl ?_
        show Steps p.tables e below (T65.setTop (mkF m 118 #[.val (.int p0), .val (.int p1), .val (.ref b1), .unset] [(.int (p0 &&& (2147483647 : Int32))), (.ref b1)])) _
        refine XS.bipush X65.here hx rfl (hb hby at_118) ?_
        show Steps p.tables e below (T65.setTop (mkF m 120 #[.val (.int p0), .val (.int p1), .val (.ref b1), .unset] [(.int (16 : Int32)), (.int (p0 &&& (2147483647 : Int32))), (.ref b1)])) _
        refine XS.irem X65.here hx rfl (hb hby at_120) rfl (by decide) ?_
        show Steps p.tables e below (T65.setTop (mkF m 121 #[.val (.int p0), .val (.int p1), .val (.ref b1), .unset] [(.int ((p0 &&& (2147483647 : Int32)) - ((p0 &&& (2147483647 : Int32)) / (16 : Int32)) * (16 : Int32))), (.ref b1)])) _
        refine X65.caload hx (j := ((p0 &&& (2147483647 : Int32)) - ((p0 &&& (2147483647 : Int32)) / (16 : Int32)) * (16 : Int32))) (v := (.int w70)) (by rw [e65]; exact Ar70.1) (State.isArrayOf_alike hZ.alike Ar70.2.1) Ar70.2.2 hin70 hat70 (g := (mkF m 121 #[.val (.int p0), .val (.int p1), .val (.ref b1), .unset] [(.int ((p0 &&& (2147483647 : Int32)) - ((p0 &&& (2147483647 : Int32)) / (16 : Int32)) * (16 : Int32))), (.ref b1)])) rfl rfl (hb hby at_121) _ ?_
        show Steps p.tables e below (T65.setTop (mkF m 122 #[.val (.int p0), .val (.int p1), .val (.ref b1), .unset] [(.int w70)])) _
        refine XS.istoreN X65.here hx rfl (hb hby at_122) rfl (l' := #[.val (.int p0), .val (.int p1), .val (.ref b1), .val (.int w70)]) rfl ?_
        show Steps p.tables e below (T65.setTop (mkF m 123 #[.val (.int p0), .val (.int p1), .val (.ref b1), .val (.int w70)] [])) _
        refine XS.iloadN X65.here hx rfl (hb hby at_123) rfl ?_
        show Steps p.tables e below (T65.setTop (mkF m 124 #[.val (.int p0), .val (.int p1), .val (.ref b1), .val (.int w70)] [(.int w70)])) _
        refine st71 _ ?_
        show Steps p.tables e below (T71.setTop (mkF m 127 #[.val (.int p0), .val (.int p1), .val (.ref b1), .val (.int w70)] [(.int (f1 w70))])) _
        refine XS.iloadN X71.here hx rfl (hb hby at_127) rfl ?_
        show Steps p.tables e below (T71.setTop (mkF m 128 #[.val (.int p0), .val (.int p1), .val (.ref b1), .val (.int w70)] [(.int w70), (.int (f1 w70))])) _
        refine st72 _ ?_
        exact kt)
    have hd131_74 : (f1 w70) = (f2 w70) := own_same _
    obtain ⟨fs, hr, hrun, hended, hW, hsame⟩ := X72.leave (v := some (.int (1 : Int32))) (fun h => by rw [Bd.returns] at h; cases h)
    have hv79 : (1 : Int32) = (1 : Int32) := rfl
    refine ⟨_, _, pre73 _ ?_, hrun, hended, _, _, rfl, ?_, ⟨_, rfl⟩, hW, hsame.mono (by decide) (by decide)⟩
    · show Steps p.tables e below (T72.setTop (mkF m 131 #[.val (.int p0), .val (.int p1), .val (.ref b1), .val (.int w70)] [(.int (f2 w70)), (.int (f1 w70))])) _
      refine XS.icmpNo X72.here hx rfl (hb hby at_131) rfl (teq hd131_74).2 ?_
      show Steps p.tables e below (T72.setTop (mkF m 134 #[.val (.int p0), .val (.int p1), .val (.ref b1), .val (.int w70)] [])) _
      refine XS.iconst X72.here hx rfl (hb hby at_134) ?_
      show Steps p.tables e below (T72.setTop (mkF m 135 #[.val (.int p0), .val (.int p1), .val (.ref b1), .val (.int w70)] [(.int (1 : Int32))])) _
      refine XS.goto X72.here hx rfl (pc0 := 135) (pc' := 139) rfl (hb hby at_135) (by decide) (by decide) ?_
      show Steps p.tables e below (T72.setTop (mkF m 139 #[.val (.int p0), .val (.int p1), .val (.ref b1), .val (.int w70)] [(.int (1 : Int32))])) _
      exact retN X72 hx (t := .boolean) Bd.returns (by simp) (hb hby at_139) hr
    · show Q0 Z p0 p1 h0 n0 _ T72.heap _
      rw [e72q]
      exact ⟨congrArg (fun q => some (Value.int q)) hv79, N72⟩
  · obtain ⟨_, _, ⟨T75, L75, k75, n75⟩, -, X75, ⟨Lc75, hQ75, l75, y75, z75⟩, st75⟩ := Jvm.LawKit.callS X65 hx (y := (⟨"com/example/indentary/indentary/reader/TableLines", "isLineBreak", "(C)Z"⟩ : MethodName)) hown (mvT hZ (hw _ (List.mem_of_getElem? (i := 2) rfl))) (mvT hZ (hw _ (List.mem_of_getElem? (i := 3) rfl))) (mvT hZ (hw _ (List.mem_of_getElem? (i := 4) rfl))) (mvT hZ (hw _ (List.mem_of_getElem? (i := 5) rfl))) (by decide) (backOf (W := 0) (rm1 l Z a0 hw [] (p0.toUInt32.toUInt16.toUInt32.toInt32) h65 n0 Z67 ) hZ (hw _ (List.mem_of_getElem? (i := 5) rfl)) (hw _ (List.mem_of_getElem? (i := 4) rfl)) (by decide) (by decide)) (g := (mkF m 124 #[.val (.int p0), .val (.int p1), .val (.ref b1), .val (.int (p0.toUInt32.toUInt16.toUInt32.toInt32))] [(.int (p0.toUInt32.toUInt16.toUInt32.toInt32))])) rfl (by rw [hml]; rfl) (argsL := [(.int (p0.toUInt32.toUInt16.toUInt32.toInt32))]) (rest := []) (lenOf pd_0_0 rfl) rfl (by show 2 * 0 + _ ≤ _; exact Nat.le_of_eq rfl) (hb hby at_124) (fun _ _ => ⟨rfl, e65, (by decide : 1 + 0 ≤ _), (by decide : 16 + 0 ≤ _)⟩)
    dsimp only [Pt.U, Pt.locs, Pt.cells, Pt.slots] at X75 l75 y75 z75 st75 hQ75
    subst l75 y75 z75
    obtain ⟨rfl, N75q, e75q⟩ := hQ75
    have N75 := Fr.app N65 N75q
    obtain ⟨_, _, ⟨T76, L76, k76, n76⟩, -, X76, ⟨Lc76, hQ76, l76, y76, z76⟩, st76⟩ := Jvm.LawKit.callS X75 hx (y := (⟨"com/example/indentary/indentary/reader/TableLinesIsLineBreakPinLaw", "reference", "(C)Z"⟩ : MethodName)) hown (mvT hZ (hw _ (List.mem_of_getElem? (i := 6) rfl))) (mvT hZ (hw _ (List.mem_of_getElem? (i := 7) rfl))) (mvT hZ (hw _ (List.mem_of_getElem? (i := 8) rfl))) (mvT hZ (hw _ (List.mem_of_getElem? (i := 9) rfl))) (by decide) (backOf (W := 1) (rm2 l Z a0 hw [] (p0.toUInt32.toUInt16.toUInt32.toInt32) h65 n0 Z67 ) hZ (hw _ (List.mem_of_getElem? (i := 9) rfl)) (hw _ (List.mem_of_getElem? (i := 8) rfl)) (by decide) (by decide)) (g := (mkF m 128 #[.val (.int p0), .val (.int p1), .val (.ref b1), .val (.int (p0.toUInt32.toUInt16.toUInt32.toInt32))] [(.int (p0.toUInt32.toUInt16.toUInt32.toInt32)), (.int (f1 (p0.toUInt32.toUInt16.toUInt32.toInt32)))])) rfl (by rw [hml]; rfl) (argsL := [(.int (p0.toUInt32.toUInt16.toUInt32.toInt32))]) (rest := [(.int (f1 (p0.toUInt32.toUInt16.toUInt32.toInt32)))]) (lenOf pd_0_0 rfl) rfl (by show 2 * 0 + _ ≤ _; exact Nat.le_of_eq rfl) (hb hby at_128) (fun _ _ => ⟨rfl, e75q, (by decide : 1 + 0 ≤ _), (by decide : 16 + 0 ≤ _)⟩)
    dsimp only [Pt.U, Pt.locs, Pt.cells, Pt.slots] at X76 l76 y76 z76 st76 hQ76
    subst l76 y76 z76
    obtain ⟨rfl, N76q, e76q⟩ := hQ76
    have N76 := Fr.app N75 N76q
    have pre77 : ∀ t, Steps p.tables e below (T76.setTop (mkF m 131 #[.val (.int p0), .val (.int p1), .val (.ref b1), .val (.int (p0.toUInt32.toUInt16.toUInt32.toInt32))] [(.int (f2 (p0.toUInt32.toUInt16.toUInt32.toInt32))), (.int (f1 (p0.toUInt32.toUInt16.toUInt32.toInt32)))])) t → Steps p.tables e below (s₁.setTop (entryFrame m #[(.int p0), (.int p1)] maxLocals)) t := fun t kt => pre68 t (by
        show Steps p.tables e below (T65.setTop (mkF m 104 #[.val (.int p0), .val (.int p1), .val (.ref b1), .unset] [(.int (p1 &&& (1 : Int32)))])) _
        refine XS.ifNo X65.here hx rfl (hb hby at_104) rfl ((if0 _ _).trans (feq hc104_69).1) ?_
        show Steps p.tables e below (T65.setTop (mkF m 107 #[.val (.int p0), .val (.int p1), .val (.ref b1), .unset] [])) _
        refine XS.iloadN X65.here hx rfl (hb hby at_107) rfl ?_
        show Steps p.tables e below (T65.setTop (mkF m 108 #[.val (.int p0), .val (.int p1), .val (.ref b1), .unset] [(.int p0)])) _
        refine XS.i2c X65.here hx rfl (hb hby at_108) rfl ?_
        show Steps p.tables e below (T65.setTop (mkF m 109 #[.val (.int p0), .val (.int p1), .val (.ref b1), .unset] [(.int (p0.toUInt32.toUInt16.toUInt32.toInt32))])) _
        refine XS.istoreN X65.here hx rfl (hb hby at_109) rfl (l' := #[.val (.int p0), .val (.int p1), .val (.ref b1), .val (.int (p0.toUInt32.toUInt16.toUInt32.toInt32))]) rfl ?_
        show Steps p.tables e below (T65.setTop (mkF m 110 #[.val (.int p0), .val (.int p1), .val (.ref b1), .val (.int (p0.toUInt32.toUInt16.toUInt32.toInt32))] [])) _
        refine XS.goto X65.here hx rfl (pc0 := 110) (pc' := 123) rfl (hb hby at_110) (by decide) (by decide) ?_
        show Steps p.tables e below (T65.setTop (mkF m 123 #[.val (.int p0), .val (.int p1), .val (.ref b1), .val (.int (p0.toUInt32.toUInt16.toUInt32.toInt32))] [])) _
        refine XS.iloadN X65.here hx rfl (hb hby at_123) rfl ?_
        show Steps p.tables e below (T65.setTop (mkF m 124 #[.val (.int p0), .val (.int p1), .val (.ref b1), .val (.int (p0.toUInt32.toUInt16.toUInt32.toInt32))] [(.int (p0.toUInt32.toUInt16.toUInt32.toInt32))])) _
        refine st75 _ ?_
        show Steps p.tables e below (T75.setTop (mkF m 127 #[.val (.int p0), .val (.int p1), .val (.ref b1), .val (.int (p0.toUInt32.toUInt16.toUInt32.toInt32))] [(.int (f1 (p0.toUInt32.toUInt16.toUInt32.toInt32)))])) _
        refine XS.iloadN X75.here hx rfl (hb hby at_127) rfl ?_
        show Steps p.tables e below (T75.setTop (mkF m 128 #[.val (.int p0), .val (.int p1), .val (.ref b1), .val (.int (p0.toUInt32.toUInt16.toUInt32.toInt32))] [(.int (p0.toUInt32.toUInt16.toUInt32.toInt32)), (.int (f1 (p0.toUInt32.toUInt16.toUInt32.toInt32)))])) _
        refine st76 _ ?_
        exact kt)
    have hd131_78 : (f1 (p0.toUInt32.toUInt16.toUInt32.toInt32)) = (f2 (p0.toUInt32.toUInt16.toUInt32.toInt32)) := own_same _
    obtain ⟨fs, hr, hrun, hended, hW, hsame⟩ := X76.leave (v := some (.int (1 : Int32))) (fun h => by rw [Bd.returns] at h; cases h)
    have hv80 : (1 : Int32) = (1 : Int32) := rfl
    refine ⟨_, _, pre77 _ ?_, hrun, hended, _, _, rfl, ?_, ⟨_, rfl⟩, hW, hsame.mono (by decide) (by decide)⟩
    · show Steps p.tables e below (T76.setTop (mkF m 131 #[.val (.int p0), .val (.int p1), .val (.ref b1), .val (.int (p0.toUInt32.toUInt16.toUInt32.toInt32))] [(.int (f2 (p0.toUInt32.toUInt16.toUInt32.toInt32))), (.int (f1 (p0.toUInt32.toUInt16.toUInt32.toInt32)))])) _
      refine XS.icmpNo X76.here hx rfl (hb hby at_131) rfl (teq hd131_78).2 ?_
      show Steps p.tables e below (T76.setTop (mkF m 134 #[.val (.int p0), .val (.int p1), .val (.ref b1), .val (.int (p0.toUInt32.toUInt16.toUInt32.toInt32))] [])) _
      refine XS.iconst X76.here hx rfl (hb hby at_134) ?_
      show Steps p.tables e below (T76.setTop (mkF m 135 #[.val (.int p0), .val (.int p1), .val (.ref b1), .val (.int (p0.toUInt32.toUInt16.toUInt32.toInt32))] [(.int (1 : Int32))])) _
      refine XS.goto X76.here hx rfl (pc0 := 135) (pc' := 139) rfl (hb hby at_135) (by decide) (by decide) ?_
      show Steps p.tables e below (T76.setTop (mkF m 139 #[.val (.int p0), .val (.int p1), .val (.ref b1), .val (.int (p0.toUInt32.toUInt16.toUInt32.toInt32))] [(.int (1 : Int32))])) _
      exact retN X76 hx (t := .boolean) Bd.returns (by simp) (hb hby at_139) hr
    · show Q0 Z p0 p1 h0 n0 _ T76.heap _
      rw [e76q]
      exact ⟨congrArg (fun q => some (Value.int q)) hv80, N76⟩
set_option maxRecDepth 65536 in
set_option maxHeartbeats 40000000 in
theorem comes_1 {Post : Tables → Env → Array Value → State → Outcome → State → Prop} (hpost : ∀ tb e args s v u, (limb_1_1.after args s (.returned v) u = true ∧ limb_1_2.after args s (.returned v) u = true ∧ True) → FrameEnd s (.returned v) u (Jvm.fieldLocs frame_1_writes args s ++ Jvm.arrayLocs frame_1_arrays args s ++ Jvm.staticLocs frame_1_statics s) 16 128 → Post tb e args s (.returned v) u) :
    ArmFor flags0 classFile x code maxLocals ret World_1 tables_1 room_1 Calls_1 rest_1 Pre_1 Post := by
  intro l hfl _ _ p e ha hc hk s m args below hf hA hF happ hP
  obtain ⟨hcalls, hrest, hpre⟩ := hP
  obtain ⟨-, -, -, hnamed, -, -, -, hat⟩ := (Spec.applies_iff hf).mp happ
  obtain ⟨hg, hn⟩ := and_e (Cond.before_iff.mp (show (Jvm.Cond.and given_1 narrow_1).before args s = true from hpre))
  obtain ⟨g1, g2⟩ := and_e hg
  obtain ⟨g3, g4⟩ := and_e g2
  obtain ⟨w0, w1, rfl⟩ : ∃ w0 w1 : Value, args = #[w0, w1] := by
    have hs : args.size = 2 := by simpa [Cond.value, given_1] using g1
    obtain ⟨L⟩ := args
    match L, hs with
    | [w0, w1], _ => exact ⟨w0, w1, rfl⟩
  have hw := fun d (hd : d ∈ tables_1) => atoms_spec (ws := Jvm.Cond.code x code maxLocals ret :: tables_1) hat d (List.mem_cons_of_mem _ hd)
  have hfit : Fit s := fun {y c} hc i hi => by
    obtain ⟨ha, rfl⟩ := Array.getElem?_eq_some_iff.mp hc
    have q := List.all_eq_true.mp ((Array.all_eq_true_iff_forall_mem.mp hF) _ (Array.getElem_mem ha)) i (List.mem_range.mpr hi)
    simpa [Array.getElem?_eq_getElem hi] using q
  obtain ⟨i0, ei0⟩ := is_v g3
  obtain rfl : w0 = (.int i0) := Option.some.inj ei0
  obtain ⟨i1, ei1⟩ := is_v g4
  obtain rfl : w1 = (.int i1) := Option.some.inj ei1
  obtain ⟨n, o, h1, h2, h3, _, L, rfl, ⟨hv0, N⟩, hq⟩ := rm0 l s _ hw tables_1 i0 i1 s.heap s.heap.size (Nat.le_refl _) p e ha hc hk s m _ below hf ((Spec.applies_iff_loose hf).mp happ).1 ⟨rfl, State.Warmed39.refl s, rfl⟩ trivial
  subst hv0
  refine ⟨n, _, h1, h2, h3, hpost _ _ _ _ _ _ ⟨Cond.after_iff.mpr rfl, Cond.after_iff.mpr (eq_i res_at (Term.int_eval (1)) rfl), trivial⟩ ⟨hq.1, hq.2.1, (hq.2.2.sift fun y hy => Or.inr (N y hy)).mono (by decide) (by decide)⟩⟩
theorem main_1_1 : Claimed_1_1 := comes_1 fun _ _ _ _ _ _ h hF => ⟨h.1, hF⟩
theorem main_1_2 : Claimed_1_2 := comes_1 fun _ _ _ _ _ _ h hF => ⟨h.2.1, hF⟩
end Jvm.Pilot.@@N@@
namespace Jvm.Pilot.@@N@@
open Jvm Jvm.ClassFile Sem Op Lib Jvm.Free Jvm.Stand Jvm.Pilot.@@N@@.Jvm.D
/-! MADE BY PROGRAM (witnessworld.py) out of the Statement's table words and the real class files: 11 classes; the members and pool entries that the words name. The judged class is class 1, her method 2. -/
namespace start1
open Jvm.ClassFile
def u (s : String) : CpInfo := .utf8 (stringToUtf16 s)
/-- a pool by its gaps: so many unusable entries, then the entry; so many at the end -/
def gap : Nat → List CpInfo → List CpInfo
  | 0, r => r
  | n + 1, r => .unusable :: gap n r
def poolList (es : List (Nat × CpInfo)) (last : Nat) : List CpInfo := es.foldr (fun e r => gap e.1 (e.2 :: r)) (gap last [])
def pool (es : List (Nat × CpInfo)) (last : Nat) : Array CpInfo := ⟨poolList es last⟩
def fileOf (pool : Array CpInfo) (this : Nat) (attrs : Array Attribute := #[]) (ms : Array MethodInfo := #[]) (fl : Nat := 33) (sup : Nat := 0) (ifs : Array Nat := #[]) (fds : Array FieldInfo := #[]) : ClassFile where
  minorVersion := 0
  majorVersion := 65
  constantPool := pool
  accessFlags := fl
  thisClass := this
  superClass := sup
  interfaces := ifs
  fields := fds
  methods := ms
  attributes := attrs
def plain (name : String) (sup : Option ClassId) : Class where
  name := name
  kind := .ordinary
  loader := none
  accessFlags := 33
  super := sup
  interfaces := #[]
  cf := none
  fields := #[]
  methods := #[]
  instanceTypes := #[]
  staticTypes := #[]
  resolved := #[]
  callSites := []
  init := .initialized
  statics := none
  mirror := none

def pool0 : Array CpInfo := pool [(5, u "<init>"), (0, u "()V"), (1, .class_ 10), (1, u "java/lang/Object")] 113

def k0m0 : Method := { name := "<init>", desc := "()V", sig := { parameters := [], returnType := none }, accessFlags := 1, code := none }
/-- java/lang/Object -/
def k0 : Class := { plain "java/lang/Object" none with
  accessFlags := 33
  interfaces := #[]
  cf := some (fileOf pool0 8 #[] #[{ accessFlags := 1, nameIndex := 5, descriptorIndex := 6, attributes := #[] }] 33 0 #[] #[])
  fields := #[]
  methods := #[k0m0]
  instanceTypes := #[]
  staticTypes := #[]
  resolved := Array.replicate 124 none
  statics := none }

def pool1 : Array CpInfo := pool [(2, .class_ 4), (1, u "java/lang/Object"), (0, u "<init>"), (0, u "()V"), (0, .integer 65535), (0, .integer 2147483647), (0, .methodref 10 11), (0, .class_ 12), (0, .nameAndType 13 14), (0, u "com/example/indentary/indentary/reader/TableLines"), (0, u "isLineBreak"), (0, u "(C)Z"), (0, .methodref 16 17), (0, .class_ 18), (0, .nameAndType 19 14), (0, u "com/example/indentary/indentary/reader/TableLinesIsLineBreakPinLaw"), (0, u "reference"), (3, u "law"), (0, u "(II)Z")] 4

def k1m0 : Method := { name := "<init>", desc := "()V", sig := { parameters := [], returnType := none }, accessFlags := 1, code := none }
def k1c1 : Code := { maxStack := 2, maxLocals := 2, code := method_2_code, exceptionTable := #[], attributes := #[] }
def k1m1 : Method := { name := "reference", desc := "(C)Z", sig := { parameters := [.char], returnType := some .boolean }, accessFlags := 10, code := some k1c1 }
def k1c2 : Code := { maxStack := 3, maxLocals := 4, code := code, exceptionTable := #[], attributes := #[] }
def k1m2 : Method := { name := "law", desc := "(II)Z", sig := { parameters := [.int, .int], returnType := some .boolean }, accessFlags := 9, code := some k1c2 }
/-- com/example/indentary/indentary/reader/TableLinesIsLineBreakPinLaw -/
def k1 : Class := { plain "com/example/indentary/indentary/reader/TableLinesIsLineBreakPinLaw" (some 0) with
  accessFlags := 49
  interfaces := #[]
  cf := some (fileOf pool1 16 #[] #[{ accessFlags := 1, nameIndex := 5, descriptorIndex := 6, attributes := #[] }, { accessFlags := 10, nameIndex := 19, descriptorIndex := 14, attributes := #[] }, { accessFlags := 9, nameIndex := 23, descriptorIndex := 24, attributes := #[] }] 49 2 #[] #[])
  fields := #[]
  methods := #[k1m0, k1m1, k1m2]
  instanceTypes := #[]
  staticTypes := #[]
  resolved := Array.replicate 29 none
  statics := none }

def pool2 : Array CpInfo := pool [(2, .class_ 4), (1, u "java/lang/Object"), (6, .class_ 13), (1, u "com/example/indentary/indentary/reader/TableLines"), (0, u "lines"), (0, u "Ljava/util/List;"), (2, u "cells"), (2, u "starts"), (0, u "[I"), (15, u "LINE_BREAK_AT_END"), (0, u "Ljava/util/regex/Pattern;"), (24, u "lastLineUnended"), (0, u "Z"), (6, u "isLineBreak"), (0, u "(C)Z"), (86, u "UNFOLDED"), (0, u "I")] 23

def k2c0 : Code := { maxStack := 2, maxLocals := 1, code := prog_102_method_3_code, exceptionTable := #[], attributes := #[] }
def k2m0 : Method := { name := "isLineBreak", desc := "(C)Z", sig := { parameters := [.char], returnType := some .boolean }, accessFlags := 8, code := some k2c0 }
/-- com/example/indentary/indentary/reader/TableLines -/
def k2 : Class := { plain "com/example/indentary/indentary/reader/TableLines" (some 0) with
  accessFlags := 32
  interfaces := #[]
  cf := some (fileOf pool2 11 #[] #[{ accessFlags := 8, nameIndex := 72, descriptorIndex := 73, attributes := #[] }] 32 2 #[] #[{ accessFlags := 26, nameIndex := 38, descriptorIndex := 39, attributes := #[] }, { accessFlags := 26, nameIndex := 160, descriptorIndex := 161, attributes := #[] }, { accessFlags := 18, nameIndex := 14, descriptorIndex := 15, attributes := #[] }, { accessFlags := 18, nameIndex := 18, descriptorIndex := 15, attributes := #[] }, { accessFlags := 2, nameIndex := 21, descriptorIndex := 22, attributes := #[] }, { accessFlags := 2, nameIndex := 64, descriptorIndex := 65, attributes := #[] }])
  fields := #[{ name := "LINE_BREAK_AT_END", type := (.object "java/util/regex/Pattern"), accessFlags := 26, slot := 0, constantValue := 0 }, { name := "UNFOLDED", type := .int, accessFlags := 26, slot := 1, constantValue := 0 }, { name := "lines", type := (.object "java/util/List"), accessFlags := 18, slot := 0, constantValue := 0 }, { name := "cells", type := (.object "java/util/List"), accessFlags := 18, slot := 1, constantValue := 0 }, { name := "starts", type := (.array .int), accessFlags := 2, slot := 2, constantValue := 0 }, { name := "lastLineUnended", type := .boolean, accessFlags := 2, slot := 3, constantValue := 0 }]
  methods := #[k2m0]
  instanceTypes := #[(.object "java/util/List"), (.object "java/util/List"), (.array .int), .boolean]
  staticTypes := #[(.object "java/util/regex/Pattern"), .int]
  resolved := Array.replicate 185 none
  statics := none }

def pool3 : Array CpInfo := pool [(1, u "java/lang/Cloneable"), (0, .class_ 1), (0, u "java/lang/Object"), (0, .class_ 3)] 3

/-- java/lang/Cloneable -/
def k3 : Class := { plain "java/lang/Cloneable" (some 0) with
  accessFlags := 1537
  interfaces := #[]
  cf := some (fileOf pool3 2 #[] #[] 1537 4 #[] #[])
  fields := #[]
  methods := #[]
  instanceTypes := #[]
  staticTypes := #[]
  resolved := Array.replicate 8 none
  statics := none }

def pool4 : Array CpInfo := pool [(1, u "java/io/Serializable"), (0, .class_ 1), (0, u "java/lang/Object"), (0, .class_ 3)] 3

/-- java/io/Serializable -/
def k4 : Class := { plain "java/io/Serializable" (some 0) with
  accessFlags := 1537
  interfaces := #[]
  cf := some (fileOf pool4 2 #[] #[] 1537 4 #[] #[])
  fields := #[]
  methods := #[]
  instanceTypes := #[]
  staticTypes := #[]
  resolved := Array.replicate 8 none
  statics := none }

/-- the primitive byte -/
def k5 : Class := { plain "byte" none with kind := .primitive 'B', accessFlags := 0x411 }
/-- [B -/
def k6 : Class := { plain "[B" (some 0) with kind := .array 5 .byte, interfaces := #[3, 4], accessFlags := 1041 }

/-- the primitive char -/
def k7 : Class := { plain "char" none with kind := .primitive 'C', accessFlags := 0x411 }
/-- [C -/
def k8 : Class := { plain "[C" (some 0) with kind := .array 7 .char, interfaces := #[3, 4], accessFlags := 1041 }

/-- the primitive int -/
def k9 : Class := { plain "int" none with kind := .primitive 'I', accessFlags := 0x411 }
/-- [I -/
def k10 : Class := { plain "[I" (some 0) with kind := .array 9 .int, interfaces := #[3, 4], accessFlags := 1041 }

def heap : Heap := #[]
def classes : Array Class := #[k0, k1, k2, k3, k4, k5, k6, k7, k8, k9, k10]
def interned : List (Array UInt16 × Addr) := []
def slotsUsed : Nat := 0
def theMethod : MethodId := ⟨1, 2⟩
def args0 : Array Value := #[.int 5, .int 9]
def aboutOver (below : List Frame) : State where
  vm := { classes := classes, interned := interned.toArray }
  heap := heap
  slotsUsed := slotsUsed
  threads := #[{ frames := .invoking theMethod args0 :: below }]
def below0 : List Frame := [.native { method := ⟨0, 0⟩, args := #[] }]
def about1 : State := aboutOver below0
def p0 : Program := .bare "" "" ""
def e0 : Env := launch0.env 0 0 0
theorem w_frames : about1.frames = Frame.invoking theMethod args0 :: below0 := rfl
set_option maxRecDepth 65536 in
theorem w_args : argsFit about1.vm theMethod args0 = true := by decide +kernel
set_option maxRecDepth 65536 in
theorem w_heap : heapFits about1 = true := by decide +kernel
set_option maxRecDepth 65536 in
theorem w_runnable : about1.curStatus? = some .runnable := by decide +kernel
set_option maxRecDepth 65536 in
theorem w_alone : about1.alone = true := by decide +kernel
set_option maxRecDepth 65536 in
theorem w_named : about1.methodNamed? x = some theMethod := by decide +kernel
set_option maxRecDepth 65536 in
theorem w_hears : about1.hears theMethod below0 = true := by decide +kernel
set_option maxRecDepth 65536 in
theorem w_ripe : about1.ripe theMethod args0 below0 = true := by decide +kernel
theorem w_running : about1.status = .running := rfl
set_option maxRecDepth 65536 in
theorem w_room : about1.hasRoom e0.platform room_1 = true :=
  launch0.hasRoom_least _ room_1 (by decide +kernel) (by decide +kernel) (by decide +kernel) (by decide +kernel) (by decide +kernel) (by decide +kernel)
theorem allAtoms_all (ts : List Jvm.Cond) (a : Array Jvm.Value) (st : Jvm.State) : (allAtoms ts).before a st = ts.all (fun c => c.before a st) := by
  induction ts with
  | nil => rfl
  | cons c t ih =>
    show (Jvm.Cond.and c (allAtoms t)).before a st = _
    rw [Jvm.Cond.before_and, ih, List.all_cons]
def words1 : List Jvm.Cond := Jvm.Cond.code x code maxLocals ret :: tables_1
/-- a 'code' word, met by the world's own term for the bytes: nothing is compared byte by byte -/
theorem code_word {y : MethodName} {bytes : ByteArray} {mx : Nat} {rt : Option FieldType} {a : Array Value} {s : State} {m : MethodId} {meth : Method} {c : Code} (h1 : s.methodNamed? y = some m) (h2 : s.vm.method? m = some meth) (h3 : meth.code = some c) (h4 : c.code = bytes)
    (h5 : (c.maxLocals == mx && c.exceptionTable.isEmpty && decide (c.maxStack ≤ mostOperands) && decide (meth.sig.returnType = rt) && !meth.locks && decide (parseMethodDescriptor y.desc = some meth.sig)) = true) : (Jvm.Cond.code y bytes mx rt).before a s = true := by
  simp only [Bool.and_eq_true, beq_iff_eq, Bool.not_eq_true', decide_eq_true_eq] at h5
  obtain ⟨⟨⟨⟨⟨g1, g2⟩, g3⟩, g4⟩, g5⟩, g6⟩ := h5
  simp [Cond.before, Cond.holds, Cond.value, h1, h2, h3, h4, g1, g2, g3, g4, g5, g6]
def isCode : Jvm.Cond → Bool
  | .code _ _ _ _ => true
  | _ => false
theorem all_split {L : List Jvm.Cond} {P : Jvm.Cond → Bool} (h1 : L.all (fun c => isCode c || P c) = true) (h2 : ∀ c ∈ L.filter isCode, P c = true) : L.all P = true := by
  refine List.all_eq_true.mpr fun c hc => ?_
  have h := List.all_eq_true.mp h1 c hc
  rcases Bool.eq_false_or_eq_true (isCode c) with hi | hi
  · exact h2 c (List.mem_filter.mpr ⟨hc, hi⟩)
  · simpa [hi] using h
set_option maxRecDepth 65536 in
theorem w_c0 : (Jvm.Cond.code x code maxLocals ret).before args0 about1 = true := code_word (m := ⟨1, 2⟩) (meth := k1m2) (c := k1c2) (by decide +kernel) rfl rfl rfl (by decide +kernel)
set_option maxRecDepth 65536 in
theorem w_c1 : (Jvm.Cond.code ({ cls := "com/example/indentary/indentary/reader/TableLines", name := "isLineBreak", desc := "(C)Z" } : Jvm.MethodName) prog_102_method_3_code (1 : Nat) (Option.some Jvm.ClassFile.FieldType.boolean)).before args0 about1 = true := code_word (m := ⟨2, 0⟩) (meth := k2m0) (c := k2c0) (by decide +kernel) rfl rfl rfl (by decide +kernel)
set_option maxRecDepth 65536 in
theorem w_c2 : (Jvm.Cond.code ({ cls := "com/example/indentary/indentary/reader/TableLinesIsLineBreakPinLaw", name := "reference", desc := "(C)Z" } : Jvm.MethodName) method_2_code (2 : Nat) (Option.some Jvm.ClassFile.FieldType.boolean)).before args0 about1 = true := code_word (m := ⟨1, 1⟩) (meth := k1m1) (c := k1c1) (by decide +kernel) rfl rfl rfl (by decide +kernel)
def codes1 : List Jvm.Cond := [Jvm.Cond.code x code maxLocals ret, Jvm.Cond.code ({ cls := "com/example/indentary/indentary/reader/TableLines", name := "isLineBreak", desc := "(C)Z" } : Jvm.MethodName) prog_102_method_3_code (1 : Nat) (Option.some Jvm.ClassFile.FieldType.boolean), Jvm.Cond.code ({ cls := "com/example/indentary/indentary/reader/TableLinesIsLineBreakPinLaw", name := "reference", desc := "(C)Z" } : Jvm.MethodName) method_2_code (2 : Nat) (Option.some Jvm.ClassFile.FieldType.boolean)]
set_option maxRecDepth 65536 in
theorem codes_eq : words1.filter isCode = codes1 := rfl
theorem w_codes : ∀ c ∈ words1.filter isCode, c.before args0 about1 = true := by
  rw [codes_eq]
  intro c hc
  simp only [codes1, List.mem_cons, List.not_mem_nil, or_false] at hc
  rcases hc with rfl | rfl | rfl
  · exact w_c0
  · exact w_c1
  · exact w_c2
set_option maxRecDepth 65536 in
theorem w_t1 : words1.all (fun c => isCode c || c.before args0 about1) = true := by decide +kernel
theorem w_tables : (allAtoms (Jvm.Cond.code x code maxLocals ret :: tables_1)).before args0 about1 = true := by
  rw [allAtoms_all]
  show words1.all (fun c => c.before args0 about1) = true
  refine all_split ?_ w_codes
  rw [w_t1]
set_option maxRecDepth 65536 in
theorem w_case : (Jvm.Cond.and given_1 narrow_1).before args0 about1 = true := by decide +kernel
theorem w_applies : (headSpec (Jvm.Cond.code x code maxLocals ret :: tables_1) room_1).applies x e0.platform about1 = true :=
  (Spec.applies_iff w_frames).mpr ⟨w_running, w_runnable, w_alone, w_named, w_hears, w_ripe, w_room, w_tables⟩
theorem atStart : AtStart classFile x code maxLocals ret World_1 tables_1 room_1 Calls_1 rest_1 Pre_1 launch0 p0 e0 about1 theMethod args0 below0 :=
  ⟨lists_1, trivial, launch0.admits_env _ _ _, launch0.least_env, fairChoices_fair.cas, fairChoices_fair.clock, w_frames, w_args, w_heap, w_applies, trivial, trivial, w_case⟩
end start1
theorem witness_1 : WitnessClaimed_1 := ⟨start1.p0, start1.e0, start1.about1, start1.theMethod, start1.args0, start1.below0, start1.atStart⟩
end Jvm.Pilot.@@N@@
