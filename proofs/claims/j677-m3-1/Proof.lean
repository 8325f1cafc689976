import JvmDerived
import JvmDerived.Pilot.@@N@@Statement
import JvmDerived.Pilot.@@N@@Code
set_option linter.unusedVariables false
set_option linter.unusedSimpArgs false
namespace Jvm.RoadKit
open Sem ClassFile Op Lib Jvm.Stand Jvm.Free Jvm.LawKit
section New
variable {p : Program} {l : Launch} {e : Env} {R : Room} {s : State} {m : MethodId} {args : Array Value} {below : List Frame} {meth : Method} {c : Code} {T : State} {locs : List Loc} {cells slots : Nat}
theorem retI (X : Stand p l e R s m args below meth c T locs cells slots) (hx : p.tables.exec = Jvm.exec) {pc : Nat} {Ls : Array Slot} {z : Int32} {rest : List Value} (hret : meth.sig.returnType = some .int) (hd : decode c.code pc = .ok (.ireturn, 1)) {fs : List Frame}
    (hl : ∀ (f : JFrame) (acts : List Action), f.method = m → f.locked = none → f.entered = [] → (doReturn e (T.setTop f) acts (some (.int z))).1 = T.setFrames fs) : Steps p.tables e below (T.setTop (mkF m pc Ls (.int z :: rest))) (T.setFrames fs) := by
  have hm' : T.vm.method? m = some meth := X.method'
  have hn : narrow .int (.int z) = .int z := rfl
  show Steps p.tables e below (T.setTop { method := m, pc := pc, locals := Ls, stack := _ :: rest, locked := none }) _
  jvm_step X.here [X.here.top, hx, hd, hm', hret, hn]
  first | (intro acts; rw [hl _ acts rfl rfl rfl]) | rw [hl _ _ rfl rfl rfl]
  exact Steps.refl _
end New
end Jvm.RoadKit
namespace Jvm.Pilot.@@N@@
open Jvm Jvm.ClassFile Sem Op Lib Jvm.Free Jvm.Stand Jvm.LawKit Jvm.RoadKit Bundle Jvm.Pilot.@@N@@.Jvm.D
section OwnArrays
variable {Z : State} {h h' : Heap} {a b : Addr} {ty : FieldType} {n j : Int32} {F : Nat → Int32} {G : Nat → Int64} {sl : Nat} {v : Value} {ws : List Addr} {k : ClassId} {x : Int32} {y : Int64}
/-- an array of ints (chars, bytes, booleans ..): its length and its components -/
def own_AI (Z : State) (h : Heap) (a : Addr) (ty : FieldType) (n : Int32) (F : Nat → Int32) : Prop := ∃ c : Cell, Arr Z h a c ty ∧ c.slots.size = n.toNatClampNeg ∧ ¬ n < 0 ∧ ∀ i, i < c.slots.size → c.slots[i]? = some (.int (F i)) ∧ fits ty (.int (F i)) = true
/-- an array of longs -/
def own_AJ (Z : State) (h : Heap) (a : Addr) (ty : FieldType) (n : Int32) (F : Nat → Int64) : Prop := ∃ c : Cell, Arr Z h a c ty ∧ c.slots.size = n.toNatClampNeg ∧ ¬ n < 0 ∧ ∀ i, i < c.slots.size → c.slots[i]? = some (.long (F i))
/-- an array of which the length alone is told -/
def own_AL (Z : State) (h : Heap) (a : Addr) (ty : FieldType) (n : Int32) : Prop := ∃ c : Cell, Arr Z h a c ty ∧ c.slots.size = n.toNatClampNeg ∧ ¬ n < 0 ∧ True
def own_upd {α : Type} (F : Nat → α) (i : Nat) (v : α) : Nat → α := fun q => if q = i then v else F q
theorem own_upd_at {α : Type} (F : Nat → α) (i : Nat) (v : α) (q : Nat) : own_upd F i v q = if q = i then v else F q := rfl
theorem own_lt {c : Cell} (q : ¬ (j < 0 ∨ c.slots.size ≤ j.toNatClampNeg)) : j.toNatClampNeg < c.slots.size := Nat.lt_of_not_le fun z => q (Or.inr z)
theorem own_AI.lt (H : own_AI Z h a ty n F) : a < h.size := by obtain ⟨c, A, -⟩ := H; exact A.lt
theorem own_AI.ext (H : own_AI Z h a ty n F) (E : Ext h h') : own_AI Z h' a ty n F := by obtain ⟨c, A, r⟩ := H; exact ⟨c, A.ext E, r⟩
theorem own_AI.other (H : own_AI Z h b ty n F) (W : Wr h h' a sl v) (q : b ≠ a) : own_AI Z h' b ty n F := by obtain ⟨c, A, r⟩ := H; exact ⟨c, A.other W q, r⟩
theorem own_AI.keep (H : own_AI Z h a ty n F) (K : Keep h h' ws) (q : a ∉ ws) : own_AI Z h' a ty n F := by obtain ⟨c, A, r⟩ := H; exact ⟨c, ⟨K.2.1 a c A.1 q, A.2⟩, r⟩
theorem own_AI.new (A : Arr Z h a (newA k ty n) ty) (q : ¬ n < 0) (hd : defaultValue ty = .int 0) : own_AI Z h a ty n (fun _ => 0) :=
  ⟨_, A, sz_new _ _ _, q, fun i hi => by
    rw [sz_new] at hi
    refine ⟨by simp [newA, hi, hd], ?_⟩
    rw [← hd]; cases ty <;> rfl⟩
theorem own_AI.set (H : own_AI Z h a ty n F) (hv : fits ty (.int x) = true) (W : Wr h h' a j.toNatClampNeg (.int x)) : own_AI Z h' a ty n (own_upd F j.toNatClampNeg x) := by
  obtain ⟨c, A, S, q, H⟩ := H
  refine ⟨_, A.same W, by simpa [Cell.setSlot] using S, q, fun i hi => ?_⟩
  have hi' : i < c.slots.size := by simpa [Cell.setSlot] using hi
  by_cases u : i = j.toNatClampNeg
  · rw [own_upd_at, if_pos u]; subst u; exact ⟨by simp [Cell.setSlot, hi'], hv⟩
  · rw [own_upd_at, if_neg u]
    refine ⟨?_, (H i hi').2⟩
    have := (H i hi').1
    simp only [Cell.setSlot] at this ⊢
    rw [Array.getElem?_setIfInBounds_ne (Ne.symm u)]; exact this
theorem own_AJ.lt (H : own_AJ Z h a ty n G) : a < h.size := by obtain ⟨c, A, -⟩ := H; exact A.lt
theorem own_AJ.ext (H : own_AJ Z h a ty n G) (E : Ext h h') : own_AJ Z h' a ty n G := by obtain ⟨c, A, r⟩ := H; exact ⟨c, A.ext E, r⟩
theorem own_AJ.other (H : own_AJ Z h b ty n G) (W : Wr h h' a sl v) (q : b ≠ a) : own_AJ Z h' b ty n G := by obtain ⟨c, A, r⟩ := H; exact ⟨c, A.other W q, r⟩
theorem own_AJ.keep (H : own_AJ Z h a ty n G) (K : Keep h h' ws) (q : a ∉ ws) : own_AJ Z h' a ty n G := by obtain ⟨c, A, r⟩ := H; exact ⟨c, ⟨K.2.1 a c A.1 q, A.2⟩, r⟩
theorem own_AJ.new (A : Arr Z h a (newA k .long n) .long) (q : ¬ n < 0) : own_AJ Z h a .long n (fun _ => 0) :=
  ⟨_, A, sz_new _ _ _, q, fun i hi => by rw [sz_new] at hi; simp [newA, hi, defaultValue]⟩
theorem own_AJ.set (H : own_AJ Z h a ty n G) (W : Wr h h' a j.toNatClampNeg (.long y)) : own_AJ Z h' a ty n (own_upd G j.toNatClampNeg y) := by
  obtain ⟨c, A, S, q, H⟩ := H
  refine ⟨_, A.same W, by simpa [Cell.setSlot] using S, q, fun i hi => ?_⟩
  have hi' : i < c.slots.size := by simpa [Cell.setSlot] using hi
  by_cases u : i = j.toNatClampNeg
  · rw [own_upd_at, if_pos u]; subst u; simp [Cell.setSlot, hi']
  · rw [own_upd_at, if_neg u]
    have := H i hi'
    simp only [Cell.setSlot] at this ⊢
    rw [Array.getElem?_setIfInBounds_ne (Ne.symm u)]; exact this
theorem own_AL.lt (H : own_AL Z h a ty n) : a < h.size := by obtain ⟨c, A, -⟩ := H; exact A.lt
theorem own_AL.ext (H : own_AL Z h a ty n) (E : Ext h h') : own_AL Z h' a ty n := by obtain ⟨c, A, r⟩ := H; exact ⟨c, A.ext E, r⟩
theorem own_AL.other (H : own_AL Z h b ty n) (W : Wr h h' a sl v) (q : b ≠ a) : own_AL Z h' b ty n := by obtain ⟨c, A, r⟩ := H; exact ⟨c, A.other W q, r⟩
theorem own_AL.keep (H : own_AL Z h a ty n) (K : Keep h h' ws) (q : a ∉ ws) : own_AL Z h' a ty n := by obtain ⟨c, A, r⟩ := H; exact ⟨c, ⟨K.2.1 a c A.1 q, A.2⟩, r⟩
theorem own_AL.new (A : Arr Z h a (newA k ty n) ty) (q : ¬ n < 0) : own_AL Z h a ty n := ⟨_, A, sz_new _ _ _, q, trivial⟩
theorem own_AL.set (H : own_AL Z h a ty n) (W : Wr h h' a sl v) : own_AL Z h' a ty n := by
  obtain ⟨c, A, S, q, -⟩ := H
  exact ⟨_, A.same W, by simpa [Cell.setSlot] using S, q, trivial⟩
end OwnArrays
theorem d1_0 : decode prog_87_method_2_code 0 = .ok (.iload_n 0, 1) := by decide +kernel
theorem d1_1 : decode prog_87_method_2_code 1 = .ok (.bipush 9, 2) := by decide +kernel
theorem d1_3 : decode prog_87_method_2_code 3 = .ok (.if_icmp .eq 51, 3) := by decide +kernel
theorem d1_6 : decode prog_87_method_2_code 6 = .ok (.iload_n 0, 1) := by decide +kernel
theorem d1_7 : decode prog_87_method_2_code 7 = .ok (.bipush 10, 2) := by decide +kernel
theorem d1_9 : decode prog_87_method_2_code 9 = .ok (.if_icmp .eq 45, 3) := by decide +kernel
theorem d1_12 : decode prog_87_method_2_code 12 = .ok (.iload_n 0, 1) := by decide +kernel
theorem d1_13 : decode prog_87_method_2_code 13 = .ok (.bipush 13, 2) := by decide +kernel
theorem d1_15 : decode prog_87_method_2_code 15 = .ok (.if_icmp .eq 39, 3) := by decide +kernel
theorem d1_18 : decode prog_87_method_2_code 18 = .ok (.iload_n 0, 1) := by decide +kernel
theorem d1_19 : decode prog_87_method_2_code 19 = .ok (.bipush 32, 2) := by decide +kernel
theorem d1_21 : decode prog_87_method_2_code 21 = .ok (.if_icmp .lt 9, 3) := by decide +kernel
theorem d1_24 : decode prog_87_method_2_code 24 = .ok (.iload_n 0, 1) := by decide +kernel
theorem d1_25 : decode prog_87_method_2_code 25 = .ok (.ldc 7, 2) := by decide +kernel
theorem d1_27 : decode prog_87_method_2_code 27 = .ok (.if_icmp .le 27, 3) := by decide +kernel
theorem d1_30 : decode prog_87_method_2_code 30 = .ok (.iload_n 0, 1) := by decide +kernel
theorem d1_31 : decode prog_87_method_2_code 31 = .ok (.ldc 8, 2) := by decide +kernel
theorem d1_33 : decode prog_87_method_2_code 33 = .ok (.if_icmp .lt 9, 3) := by decide +kernel
theorem d1_36 : decode prog_87_method_2_code 36 = .ok (.iload_n 0, 1) := by decide +kernel
theorem d1_37 : decode prog_87_method_2_code 37 = .ok (.ldc 9, 2) := by decide +kernel
theorem d1_39 : decode prog_87_method_2_code 39 = .ok (.if_icmp .le 15, 3) := by decide +kernel
theorem d1_42 : decode prog_87_method_2_code 42 = .ok (.iload_n 0, 1) := by decide +kernel
theorem d1_43 : decode prog_87_method_2_code 43 = .ok (.ldc 10, 2) := by decide +kernel
theorem d1_45 : decode prog_87_method_2_code 45 = .ok (.if_icmp .lt 13, 3) := by decide +kernel
theorem d1_48 : decode prog_87_method_2_code 48 = .ok (.iload_n 0, 1) := by decide +kernel
theorem d1_49 : decode prog_87_method_2_code 49 = .ok (.ldc 11, 2) := by decide +kernel
theorem d1_51 : decode prog_87_method_2_code 51 = .ok (.if_icmp .gt 7, 3) := by decide +kernel
theorem d1_54 : decode prog_87_method_2_code 54 = .ok (.iconst 1, 1) := by decide +kernel
theorem d1_55 : decode prog_87_method_2_code 55 = .ok (.goto 4, 3) := by decide +kernel
theorem d1_58 : decode prog_87_method_2_code 58 = .ok (.iconst 0, 1) := by decide +kernel
theorem d1_59 : decode prog_87_method_2_code 59 = .ok (.ireturn, 1) := by decide +kernel
theorem pn_1 : plainName "com/example/cuttlefish/cuttlefish/xml/XmlNames" = true := by first | (simp [plainName, overriddenIn]; done) | decide +kernel
theorem ef_1 (m : MethodId) (x0 : Int32) : entryFrame m #[(.int x0)] 1 = mkF m 0 #[.val (.int x0)] [] := by first | (simp [entryFrame, mkF, argsToLocals, Value.category]; done) | rfl
def f1 (p0 : Int32) : Int32 :=
  if p0 = (9 : Int32) then ((1 : Int32)) else
  (if p0 = (10 : Int32) then ((1 : Int32)) else
  (if p0 = (13 : Int32) then ((1 : Int32)) else
  (if p0 < (32 : Int32) then ((0 : Int32)) else
  (if (55295 : Int32) < p0 then (if p0 < (57344 : Int32) then ((0 : Int32)) else
  (if (65533 : Int32) < p0 then (if p0 < (65536 : Int32) then ((0 : Int32)) else
  (if (1114111 : Int32) < p0 then ((0 : Int32)) else
  ((1 : Int32)))) else
  ((1 : Int32)))) else
  ((1 : Int32))))))
def Q1 (Z : State) (p0 : Int32) (h0 : Heap) (n0 : Nat) (v : Option Value) (h : Heap) (L : List Loc) : Prop := v = some (.int (f1 p0)) ∧ Fr n0 L ∧ h = h0
set_option maxRecDepth 65536 in
set_option maxHeartbeats 40000000 in
theorem rm1 (l : Launch) (Z : State) (a0 : Array Value) (hw : ∀ d ∈ tables_1, d.before a0 Z = true) (ws : List Jvm.Cond) (p0 : Int32) (h0 : Heap) (n0 : Nat) (Z0 : n0 ≤ h0.size) :
    MetFree l (⟨"com/example/cuttlefish/cuttlefish/xml/XmlNames", "isCharacter", "(I)Z"⟩ : MethodName) (head1 (Jvm.Cond.code (⟨"com/example/cuttlefish/cuttlefish/xml/XmlNames", "isCharacter", "(I)Z"⟩ : MethodName) prog_87_method_2_code 1 (some .boolean) :: ws) ({ frames := 0, cells := 0, slots := 0, locals := 0 } : Room)) (fun a U => a = #[(.int p0)] ∧ Z.Warmed39 U.vm ∧ U.heap = h0) (fun _ _ _ _ _ => True) (fun _ U o U' => ∃ v L, o = .returned v ∧ Q1 Z p0 h0 n0 v U'.heap L ∧ FrameEnd U o U' L ({ frames := 0, cells := 0, slots := 0, locals := 0 } : Room).cells ({ frames := 0, cells := 0, slots := 0, locals := 0 } : Room).slots) := by
  refine MetFree.of_bodySF (plainFor_of_name pn_1) hisR ?_
  intro p e s m args below meth c s₁ Bd hml0 hP hK
  obtain ⟨rfl, hZ, hh⟩ := hP
  have hx := Bd.exec
  have hby := Bd.bytes
  have hml : c.maxLocals = 1 := hml0
  have hown : s.vm.findClass "com/example/cuttlefish/cuttlefish/xml/XmlNames" = some m.cls := findClass_of_methodNamed Bd.named
  have hnm := (name_of_methodNamed Bd.named Bd.method).1
  have X0 : Stand p l e ({ frames := 0, cells := 0, slots := 0, locals := 0 } : Room) s m #[(.int p0)] below meth c s₁ [] 0 0 := Stand.of_body Bd
  have e0 : s₁.heap = h0 := by rw [← hh, Bd.state]; rfl
  have N0 := Fr.nil n0
  have pre0 : ∀ t, Steps p.tables e below (s₁.setTop (mkF m 0 #[.val (.int p0)] [])) t → Steps p.tables e below (s₁.setTop (entryFrame m #[(.int p0)] 1)) t := fun t k => castTop (ef_1 m p0) k
  have pre1 : ∀ t, Steps p.tables e below (s₁.setTop (mkF m 3 #[.val (.int p0)] [(.int (9 : Int32)), (.int p0)])) t → Steps p.tables e below (s₁.setTop (entryFrame m #[(.int p0)] 1)) t := fun t kt => pre0 t (by
      show Steps p.tables e below (s₁.setTop (mkF m 0 #[.val (.int p0)] [])) _
      refine XS.iloadN X0.here hx rfl (hb hby d1_0) rfl ?_
      show Steps p.tables e below (s₁.setTop (mkF m 1 #[.val (.int p0)] [(.int p0)])) _
      refine XS.bipush X0.here hx rfl (hb hby d1_1) ?_
      exact kt)
  by_cases hc3_2 : p0 = (9 : Int32)
  · obtain ⟨fs, hr, hrun, hended, hW, hsame⟩ := X0.leave (v := some (.int (1 : Int32))) (fun h => by rw [Bd.returns] at h; cases h)
    have hv25 : (f1 p0) = (1 : Int32) := by rw [f1, if_pos hc3_2]
    refine ⟨_, _, pre1 _ ?_, hrun, hended, _, _, rfl, ?_, ⟨_, rfl⟩, hW, hsame.mono (by decide) (by decide)⟩
    · show Steps p.tables e below (s₁.setTop (mkF m 3 #[.val (.int p0)] [(.int (9 : Int32)), (.int p0)])) _
      refine XS.icmpYes X0.here hx rfl (pc0 := 3) (pc' := 54) rfl (hb hby d1_3) rfl (teq hc3_2).1 (by decide) (by decide) ?_
      show Steps p.tables e below (s₁.setTop (mkF m 54 #[.val (.int p0)] [])) _
      refine XS.iconst X0.here hx rfl (hb hby d1_54) ?_
      show Steps p.tables e below (s₁.setTop (mkF m 55 #[.val (.int p0)] [(.int (1 : Int32))])) _
      refine XS.goto X0.here hx rfl (pc0 := 55) (pc' := 59) rfl (hb hby d1_55) (by decide) (by decide) ?_
      show Steps p.tables e below (s₁.setTop (mkF m 59 #[.val (.int p0)] [(.int (1 : Int32))])) _
      exact retN X0 hx (t := .boolean) Bd.returns (by simp) (hb hby d1_59) hr
    · show Q1 Z p0 h0 n0 _ s₁.heap _
      rw [e0]
      exact ⟨congrArg (fun q => some (Value.int q)) hv25.symm, N0, rfl⟩
  · have pre3 : ∀ t, Steps p.tables e below (s₁.setTop (mkF m 9 #[.val (.int p0)] [(.int (10 : Int32)), (.int p0)])) t → Steps p.tables e below (s₁.setTop (entryFrame m #[(.int p0)] 1)) t := fun t kt => pre1 t (by
        show Steps p.tables e below (s₁.setTop (mkF m 3 #[.val (.int p0)] [(.int (9 : Int32)), (.int p0)])) _
        refine XS.icmpNo X0.here hx rfl (hb hby d1_3) rfl (feq hc3_2).1 ?_
        show Steps p.tables e below (s₁.setTop (mkF m 6 #[.val (.int p0)] [])) _
        refine XS.iloadN X0.here hx rfl (hb hby d1_6) rfl ?_
        show Steps p.tables e below (s₁.setTop (mkF m 7 #[.val (.int p0)] [(.int p0)])) _
        refine XS.bipush X0.here hx rfl (hb hby d1_7) ?_
        exact kt)
    by_cases hc9_4 : p0 = (10 : Int32)
    · obtain ⟨fs, hr, hrun, hended, hW, hsame⟩ := X0.leave (v := some (.int (1 : Int32))) (fun h => by rw [Bd.returns] at h; cases h)
      have hv26 : (f1 p0) = (1 : Int32) := by rw [f1, if_neg hc3_2, if_pos hc9_4]
      refine ⟨_, _, pre3 _ ?_, hrun, hended, _, _, rfl, ?_, ⟨_, rfl⟩, hW, hsame.mono (by decide) (by decide)⟩
      · show Steps p.tables e below (s₁.setTop (mkF m 9 #[.val (.int p0)] [(.int (10 : Int32)), (.int p0)])) _
        refine XS.icmpYes X0.here hx rfl (pc0 := 9) (pc' := 54) rfl (hb hby d1_9) rfl (teq hc9_4).1 (by decide) (by decide) ?_
        show Steps p.tables e below (s₁.setTop (mkF m 54 #[.val (.int p0)] [])) _
        refine XS.iconst X0.here hx rfl (hb hby d1_54) ?_
        show Steps p.tables e below (s₁.setTop (mkF m 55 #[.val (.int p0)] [(.int (1 : Int32))])) _
        refine XS.goto X0.here hx rfl (pc0 := 55) (pc' := 59) rfl (hb hby d1_55) (by decide) (by decide) ?_
        show Steps p.tables e below (s₁.setTop (mkF m 59 #[.val (.int p0)] [(.int (1 : Int32))])) _
        exact retN X0 hx (t := .boolean) Bd.returns (by simp) (hb hby d1_59) hr
      · show Q1 Z p0 h0 n0 _ s₁.heap _
        rw [e0]
        exact ⟨congrArg (fun q => some (Value.int q)) hv26.symm, N0, rfl⟩
    · have pre5 : ∀ t, Steps p.tables e below (s₁.setTop (mkF m 15 #[.val (.int p0)] [(.int (13 : Int32)), (.int p0)])) t → Steps p.tables e below (s₁.setTop (entryFrame m #[(.int p0)] 1)) t := fun t kt => pre3 t (by
          show Steps p.tables e below (s₁.setTop (mkF m 9 #[.val (.int p0)] [(.int (10 : Int32)), (.int p0)])) _
          refine XS.icmpNo X0.here hx rfl (hb hby d1_9) rfl (feq hc9_4).1 ?_
          show Steps p.tables e below (s₁.setTop (mkF m 12 #[.val (.int p0)] [])) _
          refine XS.iloadN X0.here hx rfl (hb hby d1_12) rfl ?_
          show Steps p.tables e below (s₁.setTop (mkF m 13 #[.val (.int p0)] [(.int p0)])) _
          refine XS.bipush X0.here hx rfl (hb hby d1_13) ?_
          exact kt)
      by_cases hc15_6 : p0 = (13 : Int32)
      · obtain ⟨fs, hr, hrun, hended, hW, hsame⟩ := X0.leave (v := some (.int (1 : Int32))) (fun h => by rw [Bd.returns] at h; cases h)
        have hv27 : (f1 p0) = (1 : Int32) := by rw [f1, if_neg hc3_2, if_neg hc9_4, if_pos hc15_6]
        refine ⟨_, _, pre5 _ ?_, hrun, hended, _, _, rfl, ?_, ⟨_, rfl⟩, hW, hsame.mono (by decide) (by decide)⟩
        · show Steps p.tables e below (s₁.setTop (mkF m 15 #[.val (.int p0)] [(.int (13 : Int32)), (.int p0)])) _
          refine XS.icmpYes X0.here hx rfl (pc0 := 15) (pc' := 54) rfl (hb hby d1_15) rfl (teq hc15_6).1 (by decide) (by decide) ?_
          show Steps p.tables e below (s₁.setTop (mkF m 54 #[.val (.int p0)] [])) _
          refine XS.iconst X0.here hx rfl (hb hby d1_54) ?_
          show Steps p.tables e below (s₁.setTop (mkF m 55 #[.val (.int p0)] [(.int (1 : Int32))])) _
          refine XS.goto X0.here hx rfl (pc0 := 55) (pc' := 59) rfl (hb hby d1_55) (by decide) (by decide) ?_
          show Steps p.tables e below (s₁.setTop (mkF m 59 #[.val (.int p0)] [(.int (1 : Int32))])) _
          exact retN X0 hx (t := .boolean) Bd.returns (by simp) (hb hby d1_59) hr
        · show Q1 Z p0 h0 n0 _ s₁.heap _
          rw [e0]
          exact ⟨congrArg (fun q => some (Value.int q)) hv27.symm, N0, rfl⟩
      · have pre7 : ∀ t, Steps p.tables e below (s₁.setTop (mkF m 21 #[.val (.int p0)] [(.int (32 : Int32)), (.int p0)])) t → Steps p.tables e below (s₁.setTop (entryFrame m #[(.int p0)] 1)) t := fun t kt => pre5 t (by
            show Steps p.tables e below (s₁.setTop (mkF m 15 #[.val (.int p0)] [(.int (13 : Int32)), (.int p0)])) _
            refine XS.icmpNo X0.here hx rfl (hb hby d1_15) rfl (feq hc15_6).1 ?_
            show Steps p.tables e below (s₁.setTop (mkF m 18 #[.val (.int p0)] [])) _
            refine XS.iloadN X0.here hx rfl (hb hby d1_18) rfl ?_
            show Steps p.tables e below (s₁.setTop (mkF m 19 #[.val (.int p0)] [(.int p0)])) _
            refine XS.bipush X0.here hx rfl (hb hby d1_19) ?_
            exact kt)
        by_cases hc21_8 : p0 < (32 : Int32)
        · have pre9 : ∀ t, Steps p.tables e below (s₁.setTop (mkF m 33 #[.val (.int p0)] [(.int (57344 : Int32)), (.int p0)])) t → Steps p.tables e below (s₁.setTop (entryFrame m #[(.int p0)] 1)) t := fun t kt => pre7 t (by
              show Steps p.tables e below (s₁.setTop (mkF m 21 #[.val (.int p0)] [(.int (32 : Int32)), (.int p0)])) _
              refine XS.icmpYes X0.here hx rfl (pc0 := 21) (pc' := 30) rfl (hb hby d1_21) rfl (tlt hc21_8).1 (by decide) (by decide) ?_
              show Steps p.tables e below (s₁.setTop (mkF m 30 #[.val (.int p0)] [])) _
              refine XS.iloadN X0.here hx rfl (hb hby d1_30) rfl ?_
              show Steps p.tables e below (s₁.setTop (mkF m 31 #[.val (.int p0)] [(.int p0)])) _
              refine X0.ldcInt hx hown (mvT hZ (hw _ (List.mem_of_getElem? (i := 17) rfl))) (g := (mkF m 31 #[.val (.int p0)] [(.int p0)])) rfl (hb hby d1_31) _ ?_
              exact kt)
          have hd33_10 : p0 < (57344 : Int32) := Int32.lt_of_lt_of_le hc21_8 (by decide)
          have pre11 : ∀ t, Steps p.tables e below (s₁.setTop (mkF m 45 #[.val (.int p0)] [(.int (65536 : Int32)), (.int p0)])) t → Steps p.tables e below (s₁.setTop (entryFrame m #[(.int p0)] 1)) t := fun t kt => pre9 t (by
              show Steps p.tables e below (s₁.setTop (mkF m 33 #[.val (.int p0)] [(.int (57344 : Int32)), (.int p0)])) _
              refine XS.icmpYes X0.here hx rfl (pc0 := 33) (pc' := 42) rfl (hb hby d1_33) rfl (tlt hd33_10).1 (by decide) (by decide) ?_
              show Steps p.tables e below (s₁.setTop (mkF m 42 #[.val (.int p0)] [])) _
              refine XS.iloadN X0.here hx rfl (hb hby d1_42) rfl ?_
              show Steps p.tables e below (s₁.setTop (mkF m 43 #[.val (.int p0)] [(.int p0)])) _
              refine X0.ldcInt hx hown (mvT hZ (hw _ (List.mem_of_getElem? (i := 18) rfl))) (g := (mkF m 43 #[.val (.int p0)] [(.int p0)])) rfl (hb hby d1_43) _ ?_
              exact kt)
          have hd45_12 : p0 < (65536 : Int32) := Int32.lt_of_lt_of_le hc21_8 (by decide)
          obtain ⟨fs, hr, hrun, hended, hW, hsame⟩ := X0.leave (v := some (.int (0 : Int32))) (fun h => by rw [Bd.returns] at h; cases h)
          have hv28 : (f1 p0) = (0 : Int32) := by rw [f1, if_neg hc3_2, if_neg hc9_4, if_neg hc15_6, if_pos hc21_8]
          refine ⟨_, _, pre11 _ ?_, hrun, hended, _, _, rfl, ?_, ⟨_, rfl⟩, hW, hsame.mono (by decide) (by decide)⟩
          · show Steps p.tables e below (s₁.setTop (mkF m 45 #[.val (.int p0)] [(.int (65536 : Int32)), (.int p0)])) _
            refine XS.icmpYes X0.here hx rfl (pc0 := 45) (pc' := 58) rfl (hb hby d1_45) rfl (tlt hd45_12).1 (by decide) (by decide) ?_
            show Steps p.tables e below (s₁.setTop (mkF m 58 #[.val (.int p0)] [])) _
            refine XS.iconst X0.here hx rfl (hb hby d1_58) ?_
            show Steps p.tables e below (s₁.setTop (mkF m 59 #[.val (.int p0)] [(.int (0 : Int32))])) _
            exact retN X0 hx (t := .boolean) Bd.returns (by simp) (hb hby d1_59) hr
          · show Q1 Z p0 h0 n0 _ s₁.heap _
            rw [e0]
            exact ⟨congrArg (fun q => some (Value.int q)) hv28.symm, N0, rfl⟩
        · have pre13 : ∀ t, Steps p.tables e below (s₁.setTop (mkF m 27 #[.val (.int p0)] [(.int (55295 : Int32)), (.int p0)])) t → Steps p.tables e below (s₁.setTop (entryFrame m #[(.int p0)] 1)) t := fun t kt => pre7 t (by
              show Steps p.tables e below (s₁.setTop (mkF m 21 #[.val (.int p0)] [(.int (32 : Int32)), (.int p0)])) _
              refine XS.icmpNo X0.here hx rfl (hb hby d1_21) rfl (flt hc21_8).1 ?_
              show Steps p.tables e below (s₁.setTop (mkF m 24 #[.val (.int p0)] [])) _
              refine XS.iloadN X0.here hx rfl (hb hby d1_24) rfl ?_
              show Steps p.tables e below (s₁.setTop (mkF m 25 #[.val (.int p0)] [(.int p0)])) _
              refine X0.ldcInt hx hown (mvT hZ (hw _ (List.mem_of_getElem? (i := 23) rfl))) (g := (mkF m 25 #[.val (.int p0)] [(.int p0)])) rfl (hb hby d1_25) _ ?_
              exact kt)
          by_cases hc27_14 : (55295 : Int32) < p0
          · have pre15 : ∀ t, Steps p.tables e below (s₁.setTop (mkF m 33 #[.val (.int p0)] [(.int (57344 : Int32)), (.int p0)])) t → Steps p.tables e below (s₁.setTop (entryFrame m #[(.int p0)] 1)) t := fun t kt => pre13 t (by
                show Steps p.tables e below (s₁.setTop (mkF m 27 #[.val (.int p0)] [(.int (55295 : Int32)), (.int p0)])) _
                refine XS.icmpNo X0.here hx rfl (hb hby d1_27) rfl (tlt hc27_14).2.2.2 ?_
                show Steps p.tables e below (s₁.setTop (mkF m 30 #[.val (.int p0)] [])) _
                refine XS.iloadN X0.here hx rfl (hb hby d1_30) rfl ?_
                show Steps p.tables e below (s₁.setTop (mkF m 31 #[.val (.int p0)] [(.int p0)])) _
                refine X0.ldcInt hx hown (mvT hZ (hw _ (List.mem_of_getElem? (i := 17) rfl))) (g := (mkF m 31 #[.val (.int p0)] [(.int p0)])) rfl (hb hby d1_31) _ ?_
                exact kt)
            by_cases hc33_16 : p0 < (57344 : Int32)
            · have pre17 : ∀ t, Steps p.tables e below (s₁.setTop (mkF m 45 #[.val (.int p0)] [(.int (65536 : Int32)), (.int p0)])) t → Steps p.tables e below (s₁.setTop (entryFrame m #[(.int p0)] 1)) t := fun t kt => pre15 t (by
                  show Steps p.tables e below (s₁.setTop (mkF m 33 #[.val (.int p0)] [(.int (57344 : Int32)), (.int p0)])) _
                  refine XS.icmpYes X0.here hx rfl (pc0 := 33) (pc' := 42) rfl (hb hby d1_33) rfl (tlt hc33_16).1 (by decide) (by decide) ?_
                  show Steps p.tables e below (s₁.setTop (mkF m 42 #[.val (.int p0)] [])) _
                  refine XS.iloadN X0.here hx rfl (hb hby d1_42) rfl ?_
                  show Steps p.tables e below (s₁.setTop (mkF m 43 #[.val (.int p0)] [(.int p0)])) _
                  refine X0.ldcInt hx hown (mvT hZ (hw _ (List.mem_of_getElem? (i := 18) rfl))) (g := (mkF m 43 #[.val (.int p0)] [(.int p0)])) rfl (hb hby d1_43) _ ?_
                  exact kt)
              have hd45_18 : p0 < (65536 : Int32) := Int32.lt_of_lt_of_le hc33_16 (by decide)
              obtain ⟨fs, hr, hrun, hended, hW, hsame⟩ := X0.leave (v := some (.int (0 : Int32))) (fun h => by rw [Bd.returns] at h; cases h)
              have hv29 : (f1 p0) = (0 : Int32) := by rw [f1, if_neg hc3_2, if_neg hc9_4, if_neg hc15_6, if_neg hc21_8, if_pos hc27_14, if_pos hc33_16]
              refine ⟨_, _, pre17 _ ?_, hrun, hended, _, _, rfl, ?_, ⟨_, rfl⟩, hW, hsame.mono (by decide) (by decide)⟩
              · show Steps p.tables e below (s₁.setTop (mkF m 45 #[.val (.int p0)] [(.int (65536 : Int32)), (.int p0)])) _
                refine XS.icmpYes X0.here hx rfl (pc0 := 45) (pc' := 58) rfl (hb hby d1_45) rfl (tlt hd45_18).1 (by decide) (by decide) ?_
                show Steps p.tables e below (s₁.setTop (mkF m 58 #[.val (.int p0)] [])) _
                refine XS.iconst X0.here hx rfl (hb hby d1_58) ?_
                show Steps p.tables e below (s₁.setTop (mkF m 59 #[.val (.int p0)] [(.int (0 : Int32))])) _
                exact retN X0 hx (t := .boolean) Bd.returns (by simp) (hb hby d1_59) hr
              · show Q1 Z p0 h0 n0 _ s₁.heap _
                rw [e0]
                exact ⟨congrArg (fun q => some (Value.int q)) hv29.symm, N0, rfl⟩
            · have pre19 : ∀ t, Steps p.tables e below (s₁.setTop (mkF m 39 #[.val (.int p0)] [(.int (65533 : Int32)), (.int p0)])) t → Steps p.tables e below (s₁.setTop (entryFrame m #[(.int p0)] 1)) t := fun t kt => pre15 t (by
                  show Steps p.tables e below (s₁.setTop (mkF m 33 #[.val (.int p0)] [(.int (57344 : Int32)), (.int p0)])) _
                  refine XS.icmpNo X0.here hx rfl (hb hby d1_33) rfl (flt hc33_16).1 ?_
                  show Steps p.tables e below (s₁.setTop (mkF m 36 #[.val (.int p0)] [])) _
                  refine XS.iloadN X0.here hx rfl (hb hby d1_36) rfl ?_
                  show Steps p.tables e below (s₁.setTop (mkF m 37 #[.val (.int p0)] [(.int p0)])) _
                  refine X0.ldcInt hx hown (mvT hZ (hw _ (List.mem_of_getElem? (i := 24) rfl))) (g := (mkF m 37 #[.val (.int p0)] [(.int p0)])) rfl (hb hby d1_37) _ ?_
                  exact kt)
              by_cases hc39_20 : (65533 : Int32) < p0
              · have pre21 : ∀ t, Steps p.tables e below (s₁.setTop (mkF m 45 #[.val (.int p0)] [(.int (65536 : Int32)), (.int p0)])) t → Steps p.tables e below (s₁.setTop (entryFrame m #[(.int p0)] 1)) t := fun t kt => pre19 t (by
                    show Steps p.tables e below (s₁.setTop (mkF m 39 #[.val (.int p0)] [(.int (65533 : Int32)), (.int p0)])) _
                    refine XS.icmpNo X0.here hx rfl (hb hby d1_39) rfl (tlt hc39_20).2.2.2 ?_
                    show Steps p.tables e below (s₁.setTop (mkF m 42 #[.val (.int p0)] [])) _
                    refine XS.iloadN X0.here hx rfl (hb hby d1_42) rfl ?_
                    show Steps p.tables e below (s₁.setTop (mkF m 43 #[.val (.int p0)] [(.int p0)])) _
                    refine X0.ldcInt hx hown (mvT hZ (hw _ (List.mem_of_getElem? (i := 18) rfl))) (g := (mkF m 43 #[.val (.int p0)] [(.int p0)])) rfl (hb hby d1_43) _ ?_
                    exact kt)
                by_cases hc45_22 : p0 < (65536 : Int32)
                · obtain ⟨fs, hr, hrun, hended, hW, hsame⟩ := X0.leave (v := some (.int (0 : Int32))) (fun h => by rw [Bd.returns] at h; cases h)
                  have hv30 : (f1 p0) = (0 : Int32) := by rw [f1, if_neg hc3_2, if_neg hc9_4, if_neg hc15_6, if_neg hc21_8, if_pos hc27_14, if_neg hc33_16, if_pos hc39_20, if_pos hc45_22]
                  refine ⟨_, _, pre21 _ ?_, hrun, hended, _, _, rfl, ?_, ⟨_, rfl⟩, hW, hsame.mono (by decide) (by decide)⟩
                  · show Steps p.tables e below (s₁.setTop (mkF m 45 #[.val (.int p0)] [(.int (65536 : Int32)), (.int p0)])) _
                    refine XS.icmpYes X0.here hx rfl (pc0 := 45) (pc' := 58) rfl (hb hby d1_45) rfl (tlt hc45_22).1 (by decide) (by decide) ?_
                    show Steps p.tables e below (s₁.setTop (mkF m 58 #[.val (.int p0)] [])) _
                    refine XS.iconst X0.here hx rfl (hb hby d1_58) ?_
                    show Steps p.tables e below (s₁.setTop (mkF m 59 #[.val (.int p0)] [(.int (0 : Int32))])) _
                    exact retN X0 hx (t := .boolean) Bd.returns (by simp) (hb hby d1_59) hr
                  · show Q1 Z p0 h0 n0 _ s₁.heap _
                    rw [e0]
                    exact ⟨congrArg (fun q => some (Value.int q)) hv30.symm, N0, rfl⟩
                · have pre23 : ∀ t, Steps p.tables e below (s₁.setTop (mkF m 51 #[.val (.int p0)] [(.int (1114111 : Int32)), (.int p0)])) t → Steps p.tables e below (s₁.setTop (entryFrame m #[(.int p0)] 1)) t := fun t kt => pre21 t (by
                      show Steps p.tables e below (s₁.setTop (mkF m 45 #[.val (.int p0)] [(.int (65536 : Int32)), (.int p0)])) _
                      refine XS.icmpNo X0.here hx rfl (hb hby d1_45) rfl (flt hc45_22).1 ?_
                      show Steps p.tables e below (s₁.setTop (mkF m 48 #[.val (.int p0)] [])) _
                      refine XS.iloadN X0.here hx rfl (hb hby d1_48) rfl ?_
                      show Steps p.tables e below (s₁.setTop (mkF m 49 #[.val (.int p0)] [(.int p0)])) _
                      refine X0.ldcInt hx hown (mvT hZ (hw _ (List.mem_of_getElem? (i := 25) rfl))) (g := (mkF m 49 #[.val (.int p0)] [(.int p0)])) rfl (hb hby d1_49) _ ?_
                      exact kt)
                  by_cases hc51_24 : (1114111 : Int32) < p0
                  · obtain ⟨fs, hr, hrun, hended, hW, hsame⟩ := X0.leave (v := some (.int (0 : Int32))) (fun h => by rw [Bd.returns] at h; cases h)
                    have hv31 : (f1 p0) = (0 : Int32) := by rw [f1, if_neg hc3_2, if_neg hc9_4, if_neg hc15_6, if_neg hc21_8, if_pos hc27_14, if_neg hc33_16, if_pos hc39_20, if_neg hc45_22, if_pos hc51_24]
                    refine ⟨_, _, pre23 _ ?_, hrun, hended, _, _, rfl, ?_, ⟨_, rfl⟩, hW, hsame.mono (by decide) (by decide)⟩
                    · show Steps p.tables e below (s₁.setTop (mkF m 51 #[.val (.int p0)] [(.int (1114111 : Int32)), (.int p0)])) _
                      refine XS.icmpYes X0.here hx rfl (pc0 := 51) (pc' := 58) rfl (hb hby d1_51) rfl (tlt hc51_24).2.2.1 (by decide) (by decide) ?_
                      show Steps p.tables e below (s₁.setTop (mkF m 58 #[.val (.int p0)] [])) _
                      refine XS.iconst X0.here hx rfl (hb hby d1_58) ?_
                      show Steps p.tables e below (s₁.setTop (mkF m 59 #[.val (.int p0)] [(.int (0 : Int32))])) _
                      exact retN X0 hx (t := .boolean) Bd.returns (by simp) (hb hby d1_59) hr
                    · show Q1 Z p0 h0 n0 _ s₁.heap _
                      rw [e0]
                      exact ⟨congrArg (fun q => some (Value.int q)) hv31.symm, N0, rfl⟩
                  · obtain ⟨fs, hr, hrun, hended, hW, hsame⟩ := X0.leave (v := some (.int (1 : Int32))) (fun h => by rw [Bd.returns] at h; cases h)
                    have hv32 : (f1 p0) = (1 : Int32) := by rw [f1, if_neg hc3_2, if_neg hc9_4, if_neg hc15_6, if_neg hc21_8, if_pos hc27_14, if_neg hc33_16, if_pos hc39_20, if_neg hc45_22, if_neg hc51_24]
                    refine ⟨_, _, pre23 _ ?_, hrun, hended, _, _, rfl, ?_, ⟨_, rfl⟩, hW, hsame.mono (by decide) (by decide)⟩
                    · show Steps p.tables e below (s₁.setTop (mkF m 51 #[.val (.int p0)] [(.int (1114111 : Int32)), (.int p0)])) _
                      refine XS.icmpNo X0.here hx rfl (hb hby d1_51) rfl (flt hc51_24).2.2.1 ?_
                      show Steps p.tables e below (s₁.setTop (mkF m 54 #[.val (.int p0)] [])) _
                      refine XS.iconst X0.here hx rfl (hb hby d1_54) ?_
                      show Steps p.tables e below (s₁.setTop (mkF m 55 #[.val (.int p0)] [(.int (1 : Int32))])) _
                      refine XS.goto X0.here hx rfl (pc0 := 55) (pc' := 59) rfl (hb hby d1_55) (by decide) (by decide) ?_
                      show Steps p.tables e below (s₁.setTop (mkF m 59 #[.val (.int p0)] [(.int (1 : Int32))])) _
                      exact retN X0 hx (t := .boolean) Bd.returns (by simp) (hb hby d1_59) hr
                    · show Q1 Z p0 h0 n0 _ s₁.heap _
                      rw [e0]
                      exact ⟨congrArg (fun q => some (Value.int q)) hv32.symm, N0, rfl⟩
              · obtain ⟨fs, hr, hrun, hended, hW, hsame⟩ := X0.leave (v := some (.int (1 : Int32))) (fun h => by rw [Bd.returns] at h; cases h)
                have hv33 : (f1 p0) = (1 : Int32) := by rw [f1, if_neg hc3_2, if_neg hc9_4, if_neg hc15_6, if_neg hc21_8, if_pos hc27_14, if_neg hc33_16, if_neg hc39_20]
                refine ⟨_, _, pre19 _ ?_, hrun, hended, _, _, rfl, ?_, ⟨_, rfl⟩, hW, hsame.mono (by decide) (by decide)⟩
                · show Steps p.tables e below (s₁.setTop (mkF m 39 #[.val (.int p0)] [(.int (65533 : Int32)), (.int p0)])) _
                  refine XS.icmpYes X0.here hx rfl (pc0 := 39) (pc' := 54) rfl (hb hby d1_39) rfl (flt hc39_20).2.2.2 (by decide) (by decide) ?_
                  show Steps p.tables e below (s₁.setTop (mkF m 54 #[.val (.int p0)] [])) _
                  refine XS.iconst X0.here hx rfl (hb hby d1_54) ?_
                  show Steps p.tables e below (s₁.setTop (mkF m 55 #[.val (.int p0)] [(.int (1 : Int32))])) _
                  refine XS.goto X0.here hx rfl (pc0 := 55) (pc' := 59) rfl (hb hby d1_55) (by decide) (by decide) ?_
                  show Steps p.tables e below (s₁.setTop (mkF m 59 #[.val (.int p0)] [(.int (1 : Int32))])) _
                  exact retN X0 hx (t := .boolean) Bd.returns (by simp) (hb hby d1_59) hr
                · show Q1 Z p0 h0 n0 _ s₁.heap _
                  rw [e0]
                  exact ⟨congrArg (fun q => some (Value.int q)) hv33.symm, N0, rfl⟩
          · obtain ⟨fs, hr, hrun, hended, hW, hsame⟩ := X0.leave (v := some (.int (1 : Int32))) (fun h => by rw [Bd.returns] at h; cases h)
            have hv34 : (f1 p0) = (1 : Int32) := by rw [f1, if_neg hc3_2, if_neg hc9_4, if_neg hc15_6, if_neg hc21_8, if_neg hc27_14]
            refine ⟨_, _, pre13 _ ?_, hrun, hended, _, _, rfl, ?_, ⟨_, rfl⟩, hW, hsame.mono (by decide) (by decide)⟩
            · show Steps p.tables e below (s₁.setTop (mkF m 27 #[.val (.int p0)] [(.int (55295 : Int32)), (.int p0)])) _
              refine XS.icmpYes X0.here hx rfl (pc0 := 27) (pc' := 54) rfl (hb hby d1_27) rfl (flt hc27_14).2.2.2 (by decide) (by decide) ?_
              show Steps p.tables e below (s₁.setTop (mkF m 54 #[.val (.int p0)] [])) _
              refine XS.iconst X0.here hx rfl (hb hby d1_54) ?_
              show Steps p.tables e below (s₁.setTop (mkF m 55 #[.val (.int p0)] [(.int (1 : Int32))])) _
              refine XS.goto X0.here hx rfl (pc0 := 55) (pc' := 59) rfl (hb hby d1_55) (by decide) (by decide) ?_
              show Steps p.tables e below (s₁.setTop (mkF m 59 #[.val (.int p0)] [(.int (1 : Int32))])) _
              exact retN X0 hx (t := .boolean) Bd.returns (by simp) (hb hby d1_59) hr
            · show Q1 Z p0 h0 n0 _ s₁.heap _
              rw [e0]
              exact ⟨congrArg (fun q => some (Value.int q)) hv34.symm, N0, rfl⟩
theorem d2_0 : decode method_3_code 0 = .ok (.iload_n 0, 1) := by decide +kernel
theorem d2_1 : decode method_3_code 1 = .ok (.ifCond .lt 9, 3) := by decide +kernel
theorem d2_4 : decode method_3_code 4 = .ok (.iload_n 0, 1) := by decide +kernel
theorem d2_5 : decode method_3_code 5 = .ok (.ldc 16, 2) := by decide +kernel
theorem d2_7 : decode method_3_code 7 = .ok (.if_icmp .le 5, 3) := by decide +kernel
theorem d2_10 : decode method_3_code 10 = .ok (.iconst 0, 1) := by decide +kernel
theorem d2_11 : decode method_3_code 11 = .ok (.ireturn, 1) := by decide +kernel
theorem d2_12 : decode method_3_code 12 = .ok (.iload_n 0, 1) := by decide +kernel
theorem d2_13 : decode method_3_code 13 = .ok (.bipush 32, 2) := by decide +kernel
theorem d2_15 : decode method_3_code 15 = .ok (.if_icmp .ge 27, 3) := by decide +kernel
theorem d2_18 : decode method_3_code 18 = .ok (.iload_n 0, 1) := by decide +kernel
theorem d2_19 : decode method_3_code 19 = .ok (.bipush 9, 2) := by decide +kernel
theorem d2_21 : decode method_3_code 21 = .ok (.if_icmp .eq 15, 3) := by decide +kernel
theorem d2_24 : decode method_3_code 24 = .ok (.iload_n 0, 1) := by decide +kernel
theorem d2_25 : decode method_3_code 25 = .ok (.bipush 10, 2) := by decide +kernel
theorem d2_27 : decode method_3_code 27 = .ok (.if_icmp .eq 9, 3) := by decide +kernel
theorem d2_30 : decode method_3_code 30 = .ok (.iload_n 0, 1) := by decide +kernel
theorem d2_31 : decode method_3_code 31 = .ok (.bipush 13, 2) := by decide +kernel
theorem d2_33 : decode method_3_code 33 = .ok (.if_icmp .ne 7, 3) := by decide +kernel
theorem d2_36 : decode method_3_code 36 = .ok (.iconst 1, 1) := by decide +kernel
theorem d2_37 : decode method_3_code 37 = .ok (.goto 4, 3) := by decide +kernel
theorem d2_40 : decode method_3_code 40 = .ok (.iconst 0, 1) := by decide +kernel
theorem d2_41 : decode method_3_code 41 = .ok (.ireturn, 1) := by decide +kernel
theorem d2_42 : decode method_3_code 42 = .ok (.iload_n 0, 1) := by decide +kernel
theorem d2_43 : decode method_3_code 43 = .ok (.ldc 9, 2) := by decide +kernel
theorem d2_45 : decode method_3_code 45 = .ok (.if_icmp .lt 11, 3) := by decide +kernel
theorem d2_48 : decode method_3_code 48 = .ok (.iload_n 0, 1) := by decide +kernel
theorem d2_49 : decode method_3_code 49 = .ok (.ldc 10, 2) := by decide +kernel
theorem d2_51 : decode method_3_code 51 = .ok (.if_icmp .gt 5, 3) := by decide +kernel
theorem d2_54 : decode method_3_code 54 = .ok (.iconst 0, 1) := by decide +kernel
theorem d2_55 : decode method_3_code 55 = .ok (.ireturn, 1) := by decide +kernel
theorem d2_56 : decode method_3_code 56 = .ok (.iload_n 0, 1) := by decide +kernel
theorem d2_57 : decode method_3_code 57 = .ok (.ldc 13, 2) := by decide +kernel
theorem d2_59 : decode method_3_code 59 = .ok (.if_icmp .eq 9, 3) := by decide +kernel
theorem d2_62 : decode method_3_code 62 = .ok (.iload_n 0, 1) := by decide +kernel
theorem d2_63 : decode method_3_code 63 = .ok (.ldc 14, 2) := by decide +kernel
theorem d2_65 : decode method_3_code 65 = .ok (.if_icmp .ne 5, 3) := by decide +kernel
theorem d2_68 : decode method_3_code 68 = .ok (.iconst 0, 1) := by decide +kernel
theorem d2_69 : decode method_3_code 69 = .ok (.ireturn, 1) := by decide +kernel
theorem d2_70 : decode method_3_code 70 = .ok (.iconst 1, 1) := by decide +kernel
theorem d2_71 : decode method_3_code 71 = .ok (.ireturn, 1) := by decide +kernel
theorem pn_2 : plainName "com/example/cuttlefish/cuttlefish/xml/XmlNamesIsCharacterPinLaw" = true := by first | (simp [plainName, overriddenIn]; done) | decide +kernel
theorem ef_2 (m : MethodId) (x0 : Int32) : entryFrame m #[(.int x0)] 1 = mkF m 0 #[.val (.int x0)] [] := by first | (simp [entryFrame, mkF, argsToLocals, Value.category]; done) | rfl
def f2 (p0 : Int32) : Int32 :=
  if p0 < (0 : Int32) then ((0 : Int32)) else
  (if (1114111 : Int32) < p0 then ((0 : Int32)) else
  (if p0 < (32 : Int32) then (if p0 = (9 : Int32) then ((1 : Int32)) else
  (if p0 = (10 : Int32) then ((1 : Int32)) else
  (if p0 = (13 : Int32) then ((1 : Int32)) else
  ((0 : Int32))))) else
  (if p0 < (55296 : Int32) then (if p0 = (65534 : Int32) then ((0 : Int32)) else
  (if p0 = (65535 : Int32) then ((0 : Int32)) else
  ((1 : Int32)))) else
  (if (57343 : Int32) < p0 then (if p0 = (65534 : Int32) then ((0 : Int32)) else
  (if p0 = (65535 : Int32) then ((0 : Int32)) else
  ((1 : Int32)))) else
  ((0 : Int32))))))
def Q2 (Z : State) (p0 : Int32) (h0 : Heap) (n0 : Nat) (v : Option Value) (h : Heap) (L : List Loc) : Prop := v = some (.int (f2 p0)) ∧ Fr n0 L ∧ h = h0
set_option maxRecDepth 65536 in
set_option maxHeartbeats 40000000 in
theorem rm2 (l : Launch) (Z : State) (a0 : Array Value) (hw : ∀ d ∈ tables_1, d.before a0 Z = true) (ws : List Jvm.Cond) (p0 : Int32) (h0 : Heap) (n0 : Nat) (Z0 : n0 ≤ h0.size) :
    MetFree l (⟨"com/example/cuttlefish/cuttlefish/xml/XmlNamesIsCharacterPinLaw", "expected", "(I)Z"⟩ : MethodName) (head1 (Jvm.Cond.code (⟨"com/example/cuttlefish/cuttlefish/xml/XmlNamesIsCharacterPinLaw", "expected", "(I)Z"⟩ : MethodName) method_3_code 1 (some .boolean) :: ws) ({ frames := 0, cells := 0, slots := 0, locals := 0 } : Room)) (fun a U => a = #[(.int p0)] ∧ Z.Warmed39 U.vm ∧ U.heap = h0) (fun _ _ _ _ _ => True) (fun _ U o U' => ∃ v L, o = .returned v ∧ Q2 Z p0 h0 n0 v U'.heap L ∧ FrameEnd U o U' L ({ frames := 0, cells := 0, slots := 0, locals := 0 } : Room).cells ({ frames := 0, cells := 0, slots := 0, locals := 0 } : Room).slots) := by
  refine MetFree.of_bodySF (plainFor_of_name pn_2) hisR ?_
  intro p e s m args below meth c s₁ Bd hml0 hP hK
  obtain ⟨rfl, hZ, hh⟩ := hP
  have hx := Bd.exec
  have hby := Bd.bytes
  have hml : c.maxLocals = 1 := hml0
  have hown : s.vm.findClass "com/example/cuttlefish/cuttlefish/xml/XmlNamesIsCharacterPinLaw" = some m.cls := findClass_of_methodNamed Bd.named
  have hnm := (name_of_methodNamed Bd.named Bd.method).1
  have X0 : Stand p l e ({ frames := 0, cells := 0, slots := 0, locals := 0 } : Room) s m #[(.int p0)] below meth c s₁ [] 0 0 := Stand.of_body Bd
  have e0 : s₁.heap = h0 := by rw [← hh, Bd.state]; rfl
  have N0 := Fr.nil n0
  have pre0 : ∀ t, Steps p.tables e below (s₁.setTop (mkF m 0 #[.val (.int p0)] [])) t → Steps p.tables e below (s₁.setTop (entryFrame m #[(.int p0)] 1)) t := fun t k => castTop (ef_2 m p0) k
  have pre1 : ∀ t, Steps p.tables e below (s₁.setTop (mkF m 1 #[.val (.int p0)] [(.int p0)])) t → Steps p.tables e below (s₁.setTop (entryFrame m #[(.int p0)] 1)) t := fun t kt => pre0 t (by
      show Steps p.tables e below (s₁.setTop (mkF m 0 #[.val (.int p0)] [])) _
      refine XS.iloadN X0.here hx rfl (hb hby d2_0) rfl ?_
      exact kt)
  by_cases hc1_2 : p0 < (0 : Int32)
  · obtain ⟨fs, hr, hrun, hended, hW, hsame⟩ := X0.leave (v := some (.int (0 : Int32))) (fun h => by rw [Bd.returns] at h; cases h)
    have hv25 : (f2 p0) = (0 : Int32) := by rw [f2, if_pos hc1_2]
    refine ⟨_, _, pre1 _ ?_, hrun, hended, _, _, rfl, ?_, ⟨_, rfl⟩, hW, hsame.mono (by decide) (by decide)⟩
    · show Steps p.tables e below (s₁.setTop (mkF m 1 #[.val (.int p0)] [(.int p0)])) _
      refine XS.ifYes X0.here hx rfl (pc0 := 1) (pc' := 10) rfl (hb hby d2_1) rfl ((if0 _ _).trans (tlt hc1_2).1) (by decide) (by decide) ?_
      show Steps p.tables e below (s₁.setTop (mkF m 10 #[.val (.int p0)] [])) _
      refine XS.iconst X0.here hx rfl (hb hby d2_10) ?_
      show Steps p.tables e below (s₁.setTop (mkF m 11 #[.val (.int p0)] [(.int (0 : Int32))])) _
      exact retN X0 hx (t := .boolean) Bd.returns (by simp) (hb hby d2_11) hr
    · show Q2 Z p0 h0 n0 _ s₁.heap _
      rw [e0]
      exact ⟨congrArg (fun q => some (Value.int q)) hv25.symm, N0, rfl⟩
  · have pre3 : ∀ t, Steps p.tables e below (s₁.setTop (mkF m 7 #[.val (.int p0)] [(.int (1114111 : Int32)), (.int p0)])) t → Steps p.tables e below (s₁.setTop (entryFrame m #[(.int p0)] 1)) t := fun t kt => pre1 t (by
        show Steps p.tables e below (s₁.setTop (mkF m 1 #[.val (.int p0)] [(.int p0)])) _
        refine XS.ifNo X0.here hx rfl (hb hby d2_1) rfl ((if0 _ _).trans (flt hc1_2).1) ?_
        show Steps p.tables e below (s₁.setTop (mkF m 4 #[.val (.int p0)] [])) _
        refine XS.iloadN X0.here hx rfl (hb hby d2_4) rfl ?_
        show Steps p.tables e below (s₁.setTop (mkF m 5 #[.val (.int p0)] [(.int p0)])) _
        refine X0.ldcInt hx hown (mvT hZ (hw _ (List.mem_of_getElem? (i := 10) rfl))) (g := (mkF m 5 #[.val (.int p0)] [(.int p0)])) rfl (hb hby d2_5) _ ?_
        exact kt)
    by_cases hc7_4 : (1114111 : Int32) < p0
    · obtain ⟨fs, hr, hrun, hended, hW, hsame⟩ := X0.leave (v := some (.int (0 : Int32))) (fun h => by rw [Bd.returns] at h; cases h)
      have hv26 : (f2 p0) = (0 : Int32) := by rw [f2, if_neg hc1_2, if_pos hc7_4]
      refine ⟨_, _, pre3 _ ?_, hrun, hended, _, _, rfl, ?_, ⟨_, rfl⟩, hW, hsame.mono (by decide) (by decide)⟩
      · show Steps p.tables e below (s₁.setTop (mkF m 7 #[.val (.int p0)] [(.int (1114111 : Int32)), (.int p0)])) _
        refine XS.icmpNo X0.here hx rfl (hb hby d2_7) rfl (tlt hc7_4).2.2.2 ?_
        show Steps p.tables e below (s₁.setTop (mkF m 10 #[.val (.int p0)] [])) _
        refine XS.iconst X0.here hx rfl (hb hby d2_10) ?_
        show Steps p.tables e below (s₁.setTop (mkF m 11 #[.val (.int p0)] [(.int (0 : Int32))])) _
        exact retN X0 hx (t := .boolean) Bd.returns (by simp) (hb hby d2_11) hr
      · show Q2 Z p0 h0 n0 _ s₁.heap _
        rw [e0]
        exact ⟨congrArg (fun q => some (Value.int q)) hv26.symm, N0, rfl⟩
    · have pre5 : ∀ t, Steps p.tables e below (s₁.setTop (mkF m 15 #[.val (.int p0)] [(.int (32 : Int32)), (.int p0)])) t → Steps p.tables e below (s₁.setTop (entryFrame m #[(.int p0)] 1)) t := fun t kt => pre3 t (by
          show Steps p.tables e below (s₁.setTop (mkF m 7 #[.val (.int p0)] [(.int (1114111 : Int32)), (.int p0)])) _
          refine XS.icmpYes X0.here hx rfl (pc0 := 7) (pc' := 12) rfl (hb hby d2_7) rfl (flt hc7_4).2.2.2 (by decide) (by decide) ?_
          show Steps p.tables e below (s₁.setTop (mkF m 12 #[.val (.int p0)] [])) _
          refine XS.iloadN X0.here hx rfl (hb hby d2_12) rfl ?_
          show Steps p.tables e below (s₁.setTop (mkF m 13 #[.val (.int p0)] [(.int p0)])) _
          refine XS.bipush X0.here hx rfl (hb hby d2_13) ?_
          exact kt)
      by_cases hc15_6 : p0 < (32 : Int32)
      · have pre7 : ∀ t, Steps p.tables e below (s₁.setTop (mkF m 21 #[.val (.int p0)] [(.int (9 : Int32)), (.int p0)])) t → Steps p.tables e below (s₁.setTop (entryFrame m #[(.int p0)] 1)) t := fun t kt => pre5 t (by
            show Steps p.tables e below (s₁.setTop (mkF m 15 #[.val (.int p0)] [(.int (32 : Int32)), (.int p0)])) _
            refine XS.icmpNo X0.here hx rfl (hb hby d2_15) rfl (tlt hc15_6).2.1 ?_
            show Steps p.tables e below (s₁.setTop (mkF m 18 #[.val (.int p0)] [])) _
            refine XS.iloadN X0.here hx rfl (hb hby d2_18) rfl ?_
            show Steps p.tables e below (s₁.setTop (mkF m 19 #[.val (.int p0)] [(.int p0)])) _
            refine XS.bipush X0.here hx rfl (hb hby d2_19) ?_
            exact kt)
        by_cases hc21_8 : p0 = (9 : Int32)
        · obtain ⟨fs, hr, hrun, hended, hW, hsame⟩ := X0.leave (v := some (.int (1 : Int32))) (fun h => by rw [Bd.returns] at h; cases h)
          have hv27 : (f2 p0) = (1 : Int32) := by rw [f2, if_neg hc1_2, if_neg hc7_4, if_pos hc15_6, if_pos hc21_8]
          refine ⟨_, _, pre7 _ ?_, hrun, hended, _, _, rfl, ?_, ⟨_, rfl⟩, hW, hsame.mono (by decide) (by decide)⟩
          · show Steps p.tables e below (s₁.setTop (mkF m 21 #[.val (.int p0)] [(.int (9 : Int32)), (.int p0)])) _
            refine XS.icmpYes X0.here hx rfl (pc0 := 21) (pc' := 36) rfl (hb hby d2_21) rfl (teq hc21_8).1 (by decide) (by decide) ?_
            show Steps p.tables e below (s₁.setTop (mkF m 36 #[.val (.int p0)] [])) _
            refine XS.iconst X0.here hx rfl (hb hby d2_36) ?_
            show Steps p.tables e below (s₁.setTop (mkF m 37 #[.val (.int p0)] [(.int (1 : Int32))])) _
            refine XS.goto X0.here hx rfl (pc0 := 37) (pc' := 41) rfl (hb hby d2_37) (by decide) (by decide) ?_
            show Steps p.tables e below (s₁.setTop (mkF m 41 #[.val (.int p0)] [(.int (1 : Int32))])) _
            exact retN X0 hx (t := .boolean) Bd.returns (by simp) (hb hby d2_41) hr
          · show Q2 Z p0 h0 n0 _ s₁.heap _
            rw [e0]
            exact ⟨congrArg (fun q => some (Value.int q)) hv27.symm, N0, rfl⟩
        · have pre9 : ∀ t, Steps p.tables e below (s₁.setTop (mkF m 27 #[.val (.int p0)] [(.int (10 : Int32)), (.int p0)])) t → Steps p.tables e below (s₁.setTop (entryFrame m #[(.int p0)] 1)) t := fun t kt => pre7 t (by
              show Steps p.tables e below (s₁.setTop (mkF m 21 #[.val (.int p0)] [(.int (9 : Int32)), (.int p0)])) _
              refine XS.icmpNo X0.here hx rfl (hb hby d2_21) rfl (feq hc21_8).1 ?_
              show Steps p.tables e below (s₁.setTop (mkF m 24 #[.val (.int p0)] [])) _
              refine XS.iloadN X0.here hx rfl (hb hby d2_24) rfl ?_
              show Steps p.tables e below (s₁.setTop (mkF m 25 #[.val (.int p0)] [(.int p0)])) _
              refine XS.bipush X0.here hx rfl (hb hby d2_25) ?_
              exact kt)
          by_cases hc27_10 : p0 = (10 : Int32)
          · obtain ⟨fs, hr, hrun, hended, hW, hsame⟩ := X0.leave (v := some (.int (1 : Int32))) (fun h => by rw [Bd.returns] at h; cases h)
            have hv28 : (f2 p0) = (1 : Int32) := by rw [f2, if_neg hc1_2, if_neg hc7_4, if_pos hc15_6, if_neg hc21_8, if_pos hc27_10]
            refine ⟨_, _, pre9 _ ?_, hrun, hended, _, _, rfl, ?_, ⟨_, rfl⟩, hW, hsame.mono (by decide) (by decide)⟩
            · show Steps p.tables e below (s₁.setTop (mkF m 27 #[.val (.int p0)] [(.int (10 : Int32)), (.int p0)])) _
              refine XS.icmpYes X0.here hx rfl (pc0 := 27) (pc' := 36) rfl (hb hby d2_27) rfl (teq hc27_10).1 (by decide) (by decide) ?_
              show Steps p.tables e below (s₁.setTop (mkF m 36 #[.val (.int p0)] [])) _
              refine XS.iconst X0.here hx rfl (hb hby d2_36) ?_
              show Steps p.tables e below (s₁.setTop (mkF m 37 #[.val (.int p0)] [(.int (1 : Int32))])) _
              refine XS.goto X0.here hx rfl (pc0 := 37) (pc' := 41) rfl (hb hby d2_37) (by decide) (by decide) ?_
              show Steps p.tables e below (s₁.setTop (mkF m 41 #[.val (.int p0)] [(.int (1 : Int32))])) _
              exact retN X0 hx (t := .boolean) Bd.returns (by simp) (hb hby d2_41) hr
            · show Q2 Z p0 h0 n0 _ s₁.heap _
              rw [e0]
              exact ⟨congrArg (fun q => some (Value.int q)) hv28.symm, N0, rfl⟩
          · have pre11 : ∀ t, Steps p.tables e below (s₁.setTop (mkF m 33 #[.val (.int p0)] [(.int (13 : Int32)), (.int p0)])) t → Steps p.tables e below (s₁.setTop (entryFrame m #[(.int p0)] 1)) t := fun t kt => pre9 t (by
                show Steps p.tables e below (s₁.setTop (mkF m 27 #[.val (.int p0)] [(.int (10 : Int32)), (.int p0)])) _
                refine XS.icmpNo X0.here hx rfl (hb hby d2_27) rfl (feq hc27_10).1 ?_
                show Steps p.tables e below (s₁.setTop (mkF m 30 #[.val (.int p0)] [])) _
                refine XS.iloadN X0.here hx rfl (hb hby d2_30) rfl ?_
                show Steps p.tables e below (s₁.setTop (mkF m 31 #[.val (.int p0)] [(.int p0)])) _
                refine XS.bipush X0.here hx rfl (hb hby d2_31) ?_
                exact kt)
            by_cases hc33_12 : p0 = (13 : Int32)
            · obtain ⟨fs, hr, hrun, hended, hW, hsame⟩ := X0.leave (v := some (.int (1 : Int32))) (fun h => by rw [Bd.returns] at h; cases h)
              have hv29 : (f2 p0) = (1 : Int32) := by rw [f2, if_neg hc1_2, if_neg hc7_4, if_pos hc15_6, if_neg hc21_8, if_neg hc27_10, if_pos hc33_12]
              refine ⟨_, _, pre11 _ ?_, hrun, hended, _, _, rfl, ?_, ⟨_, rfl⟩, hW, hsame.mono (by decide) (by decide)⟩
              · show Steps p.tables e below (s₁.setTop (mkF m 33 #[.val (.int p0)] [(.int (13 : Int32)), (.int p0)])) _
                refine XS.icmpNo X0.here hx rfl (hb hby d2_33) rfl (teq hc33_12).2 ?_
                show Steps p.tables e below (s₁.setTop (mkF m 36 #[.val (.int p0)] [])) _
                refine XS.iconst X0.here hx rfl (hb hby d2_36) ?_
                show Steps p.tables e below (s₁.setTop (mkF m 37 #[.val (.int p0)] [(.int (1 : Int32))])) _
                refine XS.goto X0.here hx rfl (pc0 := 37) (pc' := 41) rfl (hb hby d2_37) (by decide) (by decide) ?_
                show Steps p.tables e below (s₁.setTop (mkF m 41 #[.val (.int p0)] [(.int (1 : Int32))])) _
                exact retN X0 hx (t := .boolean) Bd.returns (by simp) (hb hby d2_41) hr
              · show Q2 Z p0 h0 n0 _ s₁.heap _
                rw [e0]
                exact ⟨congrArg (fun q => some (Value.int q)) hv29.symm, N0, rfl⟩
            · obtain ⟨fs, hr, hrun, hended, hW, hsame⟩ := X0.leave (v := some (.int (0 : Int32))) (fun h => by rw [Bd.returns] at h; cases h)
              have hv30 : (f2 p0) = (0 : Int32) := by rw [f2, if_neg hc1_2, if_neg hc7_4, if_pos hc15_6, if_neg hc21_8, if_neg hc27_10, if_neg hc33_12]
              refine ⟨_, _, pre11 _ ?_, hrun, hended, _, _, rfl, ?_, ⟨_, rfl⟩, hW, hsame.mono (by decide) (by decide)⟩
              · show Steps p.tables e below (s₁.setTop (mkF m 33 #[.val (.int p0)] [(.int (13 : Int32)), (.int p0)])) _
                refine XS.icmpYes X0.here hx rfl (pc0 := 33) (pc' := 40) rfl (hb hby d2_33) rfl (feq hc33_12).2 (by decide) (by decide) ?_
                show Steps p.tables e below (s₁.setTop (mkF m 40 #[.val (.int p0)] [])) _
                refine XS.iconst X0.here hx rfl (hb hby d2_40) ?_
                show Steps p.tables e below (s₁.setTop (mkF m 41 #[.val (.int p0)] [(.int (0 : Int32))])) _
                exact retN X0 hx (t := .boolean) Bd.returns (by simp) (hb hby d2_41) hr
              · show Q2 Z p0 h0 n0 _ s₁.heap _
                rw [e0]
                exact ⟨congrArg (fun q => some (Value.int q)) hv30.symm, N0, rfl⟩
      · have pre13 : ∀ t, Steps p.tables e below (s₁.setTop (mkF m 45 #[.val (.int p0)] [(.int (55296 : Int32)), (.int p0)])) t → Steps p.tables e below (s₁.setTop (entryFrame m #[(.int p0)] 1)) t := fun t kt => pre5 t (by
            show Steps p.tables e below (s₁.setTop (mkF m 15 #[.val (.int p0)] [(.int (32 : Int32)), (.int p0)])) _
            refine XS.icmpYes X0.here hx rfl (pc0 := 15) (pc' := 42) rfl (hb hby d2_15) rfl (flt hc15_6).2.1 (by decide) (by decide) ?_
            show Steps p.tables e below (s₁.setTop (mkF m 42 #[.val (.int p0)] [])) _
            refine XS.iloadN X0.here hx rfl (hb hby d2_42) rfl ?_
            show Steps p.tables e below (s₁.setTop (mkF m 43 #[.val (.int p0)] [(.int p0)])) _
            refine X0.ldcInt hx hown (mvT hZ (hw _ (List.mem_of_getElem? (i := 3) rfl))) (g := (mkF m 43 #[.val (.int p0)] [(.int p0)])) rfl (hb hby d2_43) _ ?_
            exact kt)
        by_cases hc45_14 : p0 < (55296 : Int32)
        · have pre15 : ∀ t, Steps p.tables e below (s₁.setTop (mkF m 59 #[.val (.int p0)] [(.int (65534 : Int32)), (.int p0)])) t → Steps p.tables e below (s₁.setTop (entryFrame m #[(.int p0)] 1)) t := fun t kt => pre13 t (by
              show Steps p.tables e below (s₁.setTop (mkF m 45 #[.val (.int p0)] [(.int (55296 : Int32)), (.int p0)])) _
              refine XS.icmpYes X0.here hx rfl (pc0 := 45) (pc' := 56) rfl (hb hby d2_45) rfl (tlt hc45_14).1 (by decide) (by decide) ?_
              show Steps p.tables e below (s₁.setTop (mkF m 56 #[.val (.int p0)] [])) _
              refine XS.iloadN X0.here hx rfl (hb hby d2_56) rfl ?_
              show Steps p.tables e below (s₁.setTop (mkF m 57 #[.val (.int p0)] [(.int p0)])) _
              refine X0.ldcInt hx hown (mvT hZ (hw _ (List.mem_of_getElem? (i := 7) rfl))) (g := (mkF m 57 #[.val (.int p0)] [(.int p0)])) rfl (hb hby d2_57) _ ?_
              exact kt)
          by_cases hc59_16 : p0 = (65534 : Int32)
          · obtain ⟨fs, hr, hrun, hended, hW, hsame⟩ := X0.leave (v := some (.int (0 : Int32))) (fun h => by rw [Bd.returns] at h; cases h)
            have hv31 : (f2 p0) = (0 : Int32) := by rw [f2, if_neg hc1_2, if_neg hc7_4, if_neg hc15_6, if_pos hc45_14, if_pos hc59_16]
            refine ⟨_, _, pre15 _ ?_, hrun, hended, _, _, rfl, ?_, ⟨_, rfl⟩, hW, hsame.mono (by decide) (by decide)⟩
            · show Steps p.tables e below (s₁.setTop (mkF m 59 #[.val (.int p0)] [(.int (65534 : Int32)), (.int p0)])) _
              refine XS.icmpYes X0.here hx rfl (pc0 := 59) (pc' := 68) rfl (hb hby d2_59) rfl (teq hc59_16).1 (by decide) (by decide) ?_
              show Steps p.tables e below (s₁.setTop (mkF m 68 #[.val (.int p0)] [])) _
              refine XS.iconst X0.here hx rfl (hb hby d2_68) ?_
              show Steps p.tables e below (s₁.setTop (mkF m 69 #[.val (.int p0)] [(.int (0 : Int32))])) _
              exact retN X0 hx (t := .boolean) Bd.returns (by simp) (hb hby d2_69) hr
            · show Q2 Z p0 h0 n0 _ s₁.heap _
              rw [e0]
              exact ⟨congrArg (fun q => some (Value.int q)) hv31.symm, N0, rfl⟩
          · have pre17 : ∀ t, Steps p.tables e below (s₁.setTop (mkF m 65 #[.val (.int p0)] [(.int (65535 : Int32)), (.int p0)])) t → Steps p.tables e below (s₁.setTop (entryFrame m #[(.int p0)] 1)) t := fun t kt => pre15 t (by
                show Steps p.tables e below (s₁.setTop (mkF m 59 #[.val (.int p0)] [(.int (65534 : Int32)), (.int p0)])) _
                refine XS.icmpNo X0.here hx rfl (hb hby d2_59) rfl (feq hc59_16).1 ?_
                show Steps p.tables e below (s₁.setTop (mkF m 62 #[.val (.int p0)] [])) _
                refine XS.iloadN X0.here hx rfl (hb hby d2_62) rfl ?_
                show Steps p.tables e below (s₁.setTop (mkF m 63 #[.val (.int p0)] [(.int p0)])) _
                refine X0.ldcInt hx hown (mvT hZ (hw _ (List.mem_of_getElem? (i := 8) rfl))) (g := (mkF m 63 #[.val (.int p0)] [(.int p0)])) rfl (hb hby d2_63) _ ?_
                exact kt)
            by_cases hc65_18 : p0 = (65535 : Int32)
            · obtain ⟨fs, hr, hrun, hended, hW, hsame⟩ := X0.leave (v := some (.int (0 : Int32))) (fun h => by rw [Bd.returns] at h; cases h)
              have hv32 : (f2 p0) = (0 : Int32) := by rw [f2, if_neg hc1_2, if_neg hc7_4, if_neg hc15_6, if_pos hc45_14, if_neg hc59_16, if_pos hc65_18]
              refine ⟨_, _, pre17 _ ?_, hrun, hended, _, _, rfl, ?_, ⟨_, rfl⟩, hW, hsame.mono (by decide) (by decide)⟩
              · show Steps p.tables e below (s₁.setTop (mkF m 65 #[.val (.int p0)] [(.int (65535 : Int32)), (.int p0)])) _
                refine XS.icmpNo X0.here hx rfl (hb hby d2_65) rfl (teq hc65_18).2 ?_
                show Steps p.tables e below (s₁.setTop (mkF m 68 #[.val (.int p0)] [])) _
                refine XS.iconst X0.here hx rfl (hb hby d2_68) ?_
                show Steps p.tables e below (s₁.setTop (mkF m 69 #[.val (.int p0)] [(.int (0 : Int32))])) _
                exact retN X0 hx (t := .boolean) Bd.returns (by simp) (hb hby d2_69) hr
              · show Q2 Z p0 h0 n0 _ s₁.heap _
                rw [e0]
                exact ⟨congrArg (fun q => some (Value.int q)) hv32.symm, N0, rfl⟩
            · obtain ⟨fs, hr, hrun, hended, hW, hsame⟩ := X0.leave (v := some (.int (1 : Int32))) (fun h => by rw [Bd.returns] at h; cases h)
              have hv33 : (f2 p0) = (1 : Int32) := by rw [f2, if_neg hc1_2, if_neg hc7_4, if_neg hc15_6, if_pos hc45_14, if_neg hc59_16, if_neg hc65_18]
              refine ⟨_, _, pre17 _ ?_, hrun, hended, _, _, rfl, ?_, ⟨_, rfl⟩, hW, hsame.mono (by decide) (by decide)⟩
              · show Steps p.tables e below (s₁.setTop (mkF m 65 #[.val (.int p0)] [(.int (65535 : Int32)), (.int p0)])) _
                refine XS.icmpYes X0.here hx rfl (pc0 := 65) (pc' := 70) rfl (hb hby d2_65) rfl (feq hc65_18).2 (by decide) (by decide) ?_
                show Steps p.tables e below (s₁.setTop (mkF m 70 #[.val (.int p0)] [])) _
                refine XS.iconst X0.here hx rfl (hb hby d2_70) ?_
                show Steps p.tables e below (s₁.setTop (mkF m 71 #[.val (.int p0)] [(.int (1 : Int32))])) _
                exact retN X0 hx (t := .boolean) Bd.returns (by simp) (hb hby d2_71) hr
              · show Q2 Z p0 h0 n0 _ s₁.heap _
                rw [e0]
                exact ⟨congrArg (fun q => some (Value.int q)) hv33.symm, N0, rfl⟩
        · have pre19 : ∀ t, Steps p.tables e below (s₁.setTop (mkF m 51 #[.val (.int p0)] [(.int (57343 : Int32)), (.int p0)])) t → Steps p.tables e below (s₁.setTop (entryFrame m #[(.int p0)] 1)) t := fun t kt => pre13 t (by
              show Steps p.tables e below (s₁.setTop (mkF m 45 #[.val (.int p0)] [(.int (55296 : Int32)), (.int p0)])) _
              refine XS.icmpNo X0.here hx rfl (hb hby d2_45) rfl (flt hc45_14).1 ?_
              show Steps p.tables e below (s₁.setTop (mkF m 48 #[.val (.int p0)] [])) _
              refine XS.iloadN X0.here hx rfl (hb hby d2_48) rfl ?_
              show Steps p.tables e below (s₁.setTop (mkF m 49 #[.val (.int p0)] [(.int p0)])) _
              refine X0.ldcInt hx hown (mvT hZ (hw _ (List.mem_of_getElem? (i := 4) rfl))) (g := (mkF m 49 #[.val (.int p0)] [(.int p0)])) rfl (hb hby d2_49) _ ?_
              exact kt)
          by_cases hc51_20 : (57343 : Int32) < p0
          · have pre21 : ∀ t, Steps p.tables e below (s₁.setTop (mkF m 59 #[.val (.int p0)] [(.int (65534 : Int32)), (.int p0)])) t → Steps p.tables e below (s₁.setTop (entryFrame m #[(.int p0)] 1)) t := fun t kt => pre19 t (by
                show Steps p.tables e below (s₁.setTop (mkF m 51 #[.val (.int p0)] [(.int (57343 : Int32)), (.int p0)])) _
                refine XS.icmpYes X0.here hx rfl (pc0 := 51) (pc' := 56) rfl (hb hby d2_51) rfl (tlt hc51_20).2.2.1 (by decide) (by decide) ?_
                show Steps p.tables e below (s₁.setTop (mkF m 56 #[.val (.int p0)] [])) _
                refine XS.iloadN X0.here hx rfl (hb hby d2_56) rfl ?_
                show Steps p.tables e below (s₁.setTop (mkF m 57 #[.val (.int p0)] [(.int p0)])) _
                refine X0.ldcInt hx hown (mvT hZ (hw _ (List.mem_of_getElem? (i := 7) rfl))) (g := (mkF m 57 #[.val (.int p0)] [(.int p0)])) rfl (hb hby d2_57) _ ?_
                exact kt)
            by_cases hc59_22 : p0 = (65534 : Int32)
            · obtain ⟨fs, hr, hrun, hended, hW, hsame⟩ := X0.leave (v := some (.int (0 : Int32))) (fun h => by rw [Bd.returns] at h; cases h)
              have hv34 : (f2 p0) = (0 : Int32) := by rw [f2, if_neg hc1_2, if_neg hc7_4, if_neg hc15_6, if_neg hc45_14, if_pos hc51_20, if_pos hc59_22]
              refine ⟨_, _, pre21 _ ?_, hrun, hended, _, _, rfl, ?_, ⟨_, rfl⟩, hW, hsame.mono (by decide) (by decide)⟩
              · show Steps p.tables e below (s₁.setTop (mkF m 59 #[.val (.int p0)] [(.int (65534 : Int32)), (.int p0)])) _
                refine XS.icmpYes X0.here hx rfl (pc0 := 59) (pc' := 68) rfl (hb hby d2_59) rfl (teq hc59_22).1 (by decide) (by decide) ?_
                show Steps p.tables e below (s₁.setTop (mkF m 68 #[.val (.int p0)] [])) _
                refine XS.iconst X0.here hx rfl (hb hby d2_68) ?_
                show Steps p.tables e below (s₁.setTop (mkF m 69 #[.val (.int p0)] [(.int (0 : Int32))])) _
                exact retN X0 hx (t := .boolean) Bd.returns (by simp) (hb hby d2_69) hr
              · show Q2 Z p0 h0 n0 _ s₁.heap _
                rw [e0]
                exact ⟨congrArg (fun q => some (Value.int q)) hv34.symm, N0, rfl⟩
            · have pre23 : ∀ t, Steps p.tables e below (s₁.setTop (mkF m 65 #[.val (.int p0)] [(.int (65535 : Int32)), (.int p0)])) t → Steps p.tables e below (s₁.setTop (entryFrame m #[(.int p0)] 1)) t := fun t kt => pre21 t (by
                  show Steps p.tables e below (s₁.setTop (mkF m 59 #[.val (.int p0)] [(.int (65534 : Int32)), (.int p0)])) _
                  refine XS.icmpNo X0.here hx rfl (hb hby d2_59) rfl (feq hc59_22).1 ?_
                  show Steps p.tables e below (s₁.setTop (mkF m 62 #[.val (.int p0)] [])) _
                  refine XS.iloadN X0.here hx rfl (hb hby d2_62) rfl ?_
                  show Steps p.tables e below (s₁.setTop (mkF m 63 #[.val (.int p0)] [(.int p0)])) _
                  refine X0.ldcInt hx hown (mvT hZ (hw _ (List.mem_of_getElem? (i := 8) rfl))) (g := (mkF m 63 #[.val (.int p0)] [(.int p0)])) rfl (hb hby d2_63) _ ?_
                  exact kt)
              by_cases hc65_24 : p0 = (65535 : Int32)
              · obtain ⟨fs, hr, hrun, hended, hW, hsame⟩ := X0.leave (v := some (.int (0 : Int32))) (fun h => by rw [Bd.returns] at h; cases h)
                have hv35 : (f2 p0) = (0 : Int32) := by rw [f2, if_neg hc1_2, if_neg hc7_4, if_neg hc15_6, if_neg hc45_14, if_pos hc51_20, if_neg hc59_22, if_pos hc65_24]
                refine ⟨_, _, pre23 _ ?_, hrun, hended, _, _, rfl, ?_, ⟨_, rfl⟩, hW, hsame.mono (by decide) (by decide)⟩
                · show Steps p.tables e below (s₁.setTop (mkF m 65 #[.val (.int p0)] [(.int (65535 : Int32)), (.int p0)])) _
                  refine XS.icmpNo X0.here hx rfl (hb hby d2_65) rfl (teq hc65_24).2 ?_
                  show Steps p.tables e below (s₁.setTop (mkF m 68 #[.val (.int p0)] [])) _
                  refine XS.iconst X0.here hx rfl (hb hby d2_68) ?_
                  show Steps p.tables e below (s₁.setTop (mkF m 69 #[.val (.int p0)] [(.int (0 : Int32))])) _
                  exact retN X0 hx (t := .boolean) Bd.returns (by simp) (hb hby d2_69) hr
                · show Q2 Z p0 h0 n0 _ s₁.heap _
                  rw [e0]
                  exact ⟨congrArg (fun q => some (Value.int q)) hv35.symm, N0, rfl⟩
              · obtain ⟨fs, hr, hrun, hended, hW, hsame⟩ := X0.leave (v := some (.int (1 : Int32))) (fun h => by rw [Bd.returns] at h; cases h)
                have hv36 : (f2 p0) = (1 : Int32) := by rw [f2, if_neg hc1_2, if_neg hc7_4, if_neg hc15_6, if_neg hc45_14, if_pos hc51_20, if_neg hc59_22, if_neg hc65_24]
                refine ⟨_, _, pre23 _ ?_, hrun, hended, _, _, rfl, ?_, ⟨_, rfl⟩, hW, hsame.mono (by decide) (by decide)⟩
                · show Steps p.tables e below (s₁.setTop (mkF m 65 #[.val (.int p0)] [(.int (65535 : Int32)), (.int p0)])) _
                  refine XS.icmpYes X0.here hx rfl (pc0 := 65) (pc' := 70) rfl (hb hby d2_65) rfl (feq hc65_24).2 (by decide) (by decide) ?_
                  show Steps p.tables e below (s₁.setTop (mkF m 70 #[.val (.int p0)] [])) _
                  refine XS.iconst X0.here hx rfl (hb hby d2_70) ?_
                  show Steps p.tables e below (s₁.setTop (mkF m 71 #[.val (.int p0)] [(.int (1 : Int32))])) _
                  exact retN X0 hx (t := .boolean) Bd.returns (by simp) (hb hby d2_71) hr
                · show Q2 Z p0 h0 n0 _ s₁.heap _
                  rw [e0]
                  exact ⟨congrArg (fun q => some (Value.int q)) hv36.symm, N0, rfl⟩
          · obtain ⟨fs, hr, hrun, hended, hW, hsame⟩ := X0.leave (v := some (.int (0 : Int32))) (fun h => by rw [Bd.returns] at h; cases h)
            have hv37 : (f2 p0) = (0 : Int32) := by rw [f2, if_neg hc1_2, if_neg hc7_4, if_neg hc15_6, if_neg hc45_14, if_neg hc51_20]
            refine ⟨_, _, pre19 _ ?_, hrun, hended, _, _, rfl, ?_, ⟨_, rfl⟩, hW, hsame.mono (by decide) (by decide)⟩
            · show Steps p.tables e below (s₁.setTop (mkF m 51 #[.val (.int p0)] [(.int (57343 : Int32)), (.int p0)])) _
              refine XS.icmpNo X0.here hx rfl (hb hby d2_51) rfl (flt hc51_20).2.2.1 ?_
              show Steps p.tables e below (s₁.setTop (mkF m 54 #[.val (.int p0)] [])) _
              refine XS.iconst X0.here hx rfl (hb hby d2_54) ?_
              show Steps p.tables e below (s₁.setTop (mkF m 55 #[.val (.int p0)] [(.int (0 : Int32))])) _
              exact retN X0 hx (t := .boolean) Bd.returns (by simp) (hb hby d2_55) hr
            · show Q2 Z p0 h0 n0 _ s₁.heap _
              rw [e0]
              exact ⟨congrArg (fun q => some (Value.int q)) hv37.symm, N0, rfl⟩
theorem pn_0 : plainName "com/example/cuttlefish/cuttlefish/xml/XmlNamesIsCharacterPinLaw" = true := by first | (simp [plainName, overriddenIn]; done) | decide +kernel
theorem pd_0_0 : parseMethodDescriptor "(I)Z" = some ⟨[.int], some .boolean⟩ := by decide +kernel
theorem ef_0 (m : MethodId) (x0 : Int32) (x1 : Int32) : entryFrame m #[(.int x0), (.int x1)] maxLocals = mkF m 0 #[.val (.int x0), .val (.int x1), .unset, .unset] [] := by first | (simp [entryFrame, mkF, argsToLocals, Value.category, maxLocals]; done) | rfl
theorem own_clt (c k : Int32) (n : Int) (hk : k.toInt = n) (h : c.toInt < n) : c < k := by rw [Int32.lt_iff_toInt_lt, hk]; exact h
theorem own_cnlt (c k : Int32) (n : Int) (hk : k.toInt = n) (h : n ≤ c.toInt) : ¬ c < k := by rw [Int32.lt_iff_toInt_lt, hk]; omega
theorem own_cgt (c k : Int32) (n : Int) (hk : k.toInt = n) (h : n < c.toInt) : k < c := by rw [Int32.lt_iff_toInt_lt, hk]; exact h
theorem own_cngt (c k : Int32) (n : Int) (hk : k.toInt = n) (h : c.toInt ≤ n) : ¬ k < c := by rw [Int32.lt_iff_toInt_lt, hk]; omega
theorem own_cis (c k : Int32) (n : Int) (hk : k.toInt = n) (h : c.toInt = n) : c = k := Int32.toInt_inj.mp (by rw [hk]; exact h)
theorem own_cisnt (c k : Int32) (n : Int) (hk : k.toInt = n) (h : ¬ c.toInt = n) : ¬ c = k := fun q => h (by rw [q]; exact hk)
theorem own_same (c : Int32) : f1 c = f2 c := by
  have hc : (c.toInt < 0) ∨ (c.toInt = 0) ∨ (0 < c.toInt ∧ c.toInt < 9) ∨ (c.toInt = 9) ∨ (c.toInt = 10) ∨ (10 < c.toInt ∧ c.toInt < 13) ∨ (c.toInt = 13) ∨ (13 < c.toInt ∧ c.toInt < 32) ∨ (c.toInt = 32) ∨ (32 < c.toInt ∧ c.toInt < 55295) ∨ (c.toInt = 55295) ∨ (c.toInt = 55296) ∨ (55296 < c.toInt ∧ c.toInt < 57343) ∨ (c.toInt = 57343) ∨ (c.toInt = 57344) ∨ (57344 < c.toInt ∧ c.toInt < 65533) ∨ (c.toInt = 65533) ∨ (c.toInt = 65534) ∨ (c.toInt = 65535) ∨ (c.toInt = 65536) ∨ (65536 < c.toInt ∧ c.toInt < 1114111) ∨ (c.toInt = 1114111) ∨ (1114111 < c.toInt) := by omega
  rcases hc with h | h | h | h | h | h | h | h | h | h | h | h | h | h | h | h | h | h | h | h | h | h | h
  · rw [f1, if_neg (own_cisnt c (9 : Int32) 9 (by decide) (by omega)), if_neg (own_cisnt c (10 : Int32) 10 (by decide) (by omega)), if_neg (own_cisnt c (13 : Int32) 13 (by decide) (by omega)), if_pos (own_clt c (32 : Int32) 32 (by decide) (by omega)), f2, if_pos (own_clt c (0 : Int32) 0 (by decide) (by omega))]
  · rw [f1, if_neg (own_cisnt c (9 : Int32) 9 (by decide) (by omega)), if_neg (own_cisnt c (10 : Int32) 10 (by decide) (by omega)), if_neg (own_cisnt c (13 : Int32) 13 (by decide) (by omega)), if_pos (own_clt c (32 : Int32) 32 (by decide) (by omega)), f2, if_neg (own_cnlt c (0 : Int32) 0 (by decide) (by omega)), if_neg (own_cngt c (1114111 : Int32) 1114111 (by decide) (by omega)), if_pos (own_clt c (32 : Int32) 32 (by decide) (by omega)), if_neg (own_cisnt c (9 : Int32) 9 (by decide) (by omega)), if_neg (own_cisnt c (10 : Int32) 10 (by decide) (by omega)), if_neg (own_cisnt c (13 : Int32) 13 (by decide) (by omega))]
  · rw [f1, if_neg (own_cisnt c (9 : Int32) 9 (by decide) (by omega)), if_neg (own_cisnt c (10 : Int32) 10 (by decide) (by omega)), if_neg (own_cisnt c (13 : Int32) 13 (by decide) (by omega)), if_pos (own_clt c (32 : Int32) 32 (by decide) (by omega)), f2, if_neg (own_cnlt c (0 : Int32) 0 (by decide) (by omega)), if_neg (own_cngt c (1114111 : Int32) 1114111 (by decide) (by omega)), if_pos (own_clt c (32 : Int32) 32 (by decide) (by omega)), if_neg (own_cisnt c (9 : Int32) 9 (by decide) (by omega)), if_neg (own_cisnt c (10 : Int32) 10 (by decide) (by omega)), if_neg (own_cisnt c (13 : Int32) 13 (by decide) (by omega))]
  · rw [f1, if_pos (own_cis c (9 : Int32) 9 (by decide) (by omega)), f2, if_neg (own_cnlt c (0 : Int32) 0 (by decide) (by omega)), if_neg (own_cngt c (1114111 : Int32) 1114111 (by decide) (by omega)), if_pos (own_clt c (32 : Int32) 32 (by decide) (by omega)), if_pos (own_cis c (9 : Int32) 9 (by decide) (by omega))]
  · rw [f1, if_neg (own_cisnt c (9 : Int32) 9 (by decide) (by omega)), if_pos (own_cis c (10 : Int32) 10 (by decide) (by omega)), f2, if_neg (own_cnlt c (0 : Int32) 0 (by decide) (by omega)), if_neg (own_cngt c (1114111 : Int32) 1114111 (by decide) (by omega)), if_pos (own_clt c (32 : Int32) 32 (by decide) (by omega)), if_neg (own_cisnt c (9 : Int32) 9 (by decide) (by omega)), if_pos (own_cis c (10 : Int32) 10 (by decide) (by omega))]
  · rw [f1, if_neg (own_cisnt c (9 : Int32) 9 (by decide) (by omega)), if_neg (own_cisnt c (10 : Int32) 10 (by decide) (by omega)), if_neg (own_cisnt c (13 : Int32) 13 (by decide) (by omega)), if_pos (own_clt c (32 : Int32) 32 (by decide) (by omega)), f2, if_neg (own_cnlt c (0 : Int32) 0 (by decide) (by omega)), if_neg (own_cngt c (1114111 : Int32) 1114111 (by decide) (by omega)), if_pos (own_clt c (32 : Int32) 32 (by decide) (by omega)), if_neg (own_cisnt c (9 : Int32) 9 (by decide) (by omega)), if_neg (own_cisnt c (10 : Int32) 10 (by decide) (by omega)), if_neg (own_cisnt c (13 : Int32) 13 (by decide) (by omega))]
  · rw [f1, if_neg (own_cisnt c (9 : Int32) 9 (by decide) (by omega)), if_neg (own_cisnt c (10 : Int32) 10 (by decide) (by omega)), if_pos (own_cis c (13 : Int32) 13 (by decide) (by omega)), f2, if_neg (own_cnlt c (0 : Int32) 0 (by decide) (by omega)), if_neg (own_cngt c (1114111 : Int32) 1114111 (by decide) (by omega)), if_pos (own_clt c (32 : Int32) 32 (by decide) (by omega)), if_neg (own_cisnt c (9 : Int32) 9 (by decide) (by omega)), if_neg (own_cisnt c (10 : Int32) 10 (by decide) (by omega)), if_pos (own_cis c (13 : Int32) 13 (by decide) (by omega))]
  · rw [f1, if_neg (own_cisnt c (9 : Int32) 9 (by decide) (by omega)), if_neg (own_cisnt c (10 : Int32) 10 (by decide) (by omega)), if_neg (own_cisnt c (13 : Int32) 13 (by decide) (by omega)), if_pos (own_clt c (32 : Int32) 32 (by decide) (by omega)), f2, if_neg (own_cnlt c (0 : Int32) 0 (by decide) (by omega)), if_neg (own_cngt c (1114111 : Int32) 1114111 (by decide) (by omega)), if_pos (own_clt c (32 : Int32) 32 (by decide) (by omega)), if_neg (own_cisnt c (9 : Int32) 9 (by decide) (by omega)), if_neg (own_cisnt c (10 : Int32) 10 (by decide) (by omega)), if_neg (own_cisnt c (13 : Int32) 13 (by decide) (by omega))]
  · rw [f1, if_neg (own_cisnt c (9 : Int32) 9 (by decide) (by omega)), if_neg (own_cisnt c (10 : Int32) 10 (by decide) (by omega)), if_neg (own_cisnt c (13 : Int32) 13 (by decide) (by omega)), if_neg (own_cnlt c (32 : Int32) 32 (by decide) (by omega)), if_neg (own_cngt c (55295 : Int32) 55295 (by decide) (by omega)), f2, if_neg (own_cnlt c (0 : Int32) 0 (by decide) (by omega)), if_neg (own_cngt c (1114111 : Int32) 1114111 (by decide) (by omega)), if_neg (own_cnlt c (32 : Int32) 32 (by decide) (by omega)), if_pos (own_clt c (55296 : Int32) 55296 (by decide) (by omega)), if_neg (own_cisnt c (65534 : Int32) 65534 (by decide) (by omega)), if_neg (own_cisnt c (65535 : Int32) 65535 (by decide) (by omega))]
  · rw [f1, if_neg (own_cisnt c (9 : Int32) 9 (by decide) (by omega)), if_neg (own_cisnt c (10 : Int32) 10 (by decide) (by omega)), if_neg (own_cisnt c (13 : Int32) 13 (by decide) (by omega)), if_neg (own_cnlt c (32 : Int32) 32 (by decide) (by omega)), if_neg (own_cngt c (55295 : Int32) 55295 (by decide) (by omega)), f2, if_neg (own_cnlt c (0 : Int32) 0 (by decide) (by omega)), if_neg (own_cngt c (1114111 : Int32) 1114111 (by decide) (by omega)), if_neg (own_cnlt c (32 : Int32) 32 (by decide) (by omega)), if_pos (own_clt c (55296 : Int32) 55296 (by decide) (by omega)), if_neg (own_cisnt c (65534 : Int32) 65534 (by decide) (by omega)), if_neg (own_cisnt c (65535 : Int32) 65535 (by decide) (by omega))]
  · rw [f1, if_neg (own_cisnt c (9 : Int32) 9 (by decide) (by omega)), if_neg (own_cisnt c (10 : Int32) 10 (by decide) (by omega)), if_neg (own_cisnt c (13 : Int32) 13 (by decide) (by omega)), if_neg (own_cnlt c (32 : Int32) 32 (by decide) (by omega)), if_neg (own_cngt c (55295 : Int32) 55295 (by decide) (by omega)), f2, if_neg (own_cnlt c (0 : Int32) 0 (by decide) (by omega)), if_neg (own_cngt c (1114111 : Int32) 1114111 (by decide) (by omega)), if_neg (own_cnlt c (32 : Int32) 32 (by decide) (by omega)), if_pos (own_clt c (55296 : Int32) 55296 (by decide) (by omega)), if_neg (own_cisnt c (65534 : Int32) 65534 (by decide) (by omega)), if_neg (own_cisnt c (65535 : Int32) 65535 (by decide) (by omega))]
  · rw [f1, if_neg (own_cisnt c (9 : Int32) 9 (by decide) (by omega)), if_neg (own_cisnt c (10 : Int32) 10 (by decide) (by omega)), if_neg (own_cisnt c (13 : Int32) 13 (by decide) (by omega)), if_neg (own_cnlt c (32 : Int32) 32 (by decide) (by omega)), if_pos (own_cgt c (55295 : Int32) 55295 (by decide) (by omega)), if_pos (own_clt c (57344 : Int32) 57344 (by decide) (by omega)), f2, if_neg (own_cnlt c (0 : Int32) 0 (by decide) (by omega)), if_neg (own_cngt c (1114111 : Int32) 1114111 (by decide) (by omega)), if_neg (own_cnlt c (32 : Int32) 32 (by decide) (by omega)), if_neg (own_cnlt c (55296 : Int32) 55296 (by decide) (by omega)), if_neg (own_cngt c (57343 : Int32) 57343 (by decide) (by omega))]
  · rw [f1, if_neg (own_cisnt c (9 : Int32) 9 (by decide) (by omega)), if_neg (own_cisnt c (10 : Int32) 10 (by decide) (by omega)), if_neg (own_cisnt c (13 : Int32) 13 (by decide) (by omega)), if_neg (own_cnlt c (32 : Int32) 32 (by decide) (by omega)), if_pos (own_cgt c (55295 : Int32) 55295 (by decide) (by omega)), if_pos (own_clt c (57344 : Int32) 57344 (by decide) (by omega)), f2, if_neg (own_cnlt c (0 : Int32) 0 (by decide) (by omega)), if_neg (own_cngt c (1114111 : Int32) 1114111 (by decide) (by omega)), if_neg (own_cnlt c (32 : Int32) 32 (by decide) (by omega)), if_neg (own_cnlt c (55296 : Int32) 55296 (by decide) (by omega)), if_neg (own_cngt c (57343 : Int32) 57343 (by decide) (by omega))]
  · rw [f1, if_neg (own_cisnt c (9 : Int32) 9 (by decide) (by omega)), if_neg (own_cisnt c (10 : Int32) 10 (by decide) (by omega)), if_neg (own_cisnt c (13 : Int32) 13 (by decide) (by omega)), if_neg (own_cnlt c (32 : Int32) 32 (by decide) (by omega)), if_pos (own_cgt c (55295 : Int32) 55295 (by decide) (by omega)), if_pos (own_clt c (57344 : Int32) 57344 (by decide) (by omega)), f2, if_neg (own_cnlt c (0 : Int32) 0 (by decide) (by omega)), if_neg (own_cngt c (1114111 : Int32) 1114111 (by decide) (by omega)), if_neg (own_cnlt c (32 : Int32) 32 (by decide) (by omega)), if_neg (own_cnlt c (55296 : Int32) 55296 (by decide) (by omega)), if_neg (own_cngt c (57343 : Int32) 57343 (by decide) (by omega))]
  · rw [f1, if_neg (own_cisnt c (9 : Int32) 9 (by decide) (by omega)), if_neg (own_cisnt c (10 : Int32) 10 (by decide) (by omega)), if_neg (own_cisnt c (13 : Int32) 13 (by decide) (by omega)), if_neg (own_cnlt c (32 : Int32) 32 (by decide) (by omega)), if_pos (own_cgt c (55295 : Int32) 55295 (by decide) (by omega)), if_neg (own_cnlt c (57344 : Int32) 57344 (by decide) (by omega)), if_neg (own_cngt c (65533 : Int32) 65533 (by decide) (by omega)), f2, if_neg (own_cnlt c (0 : Int32) 0 (by decide) (by omega)), if_neg (own_cngt c (1114111 : Int32) 1114111 (by decide) (by omega)), if_neg (own_cnlt c (32 : Int32) 32 (by decide) (by omega)), if_neg (own_cnlt c (55296 : Int32) 55296 (by decide) (by omega)), if_pos (own_cgt c (57343 : Int32) 57343 (by decide) (by omega)), if_neg (own_cisnt c (65534 : Int32) 65534 (by decide) (by omega)), if_neg (own_cisnt c (65535 : Int32) 65535 (by decide) (by omega))]
  · rw [f1, if_neg (own_cisnt c (9 : Int32) 9 (by decide) (by omega)), if_neg (own_cisnt c (10 : Int32) 10 (by decide) (by omega)), if_neg (own_cisnt c (13 : Int32) 13 (by decide) (by omega)), if_neg (own_cnlt c (32 : Int32) 32 (by decide) (by omega)), if_pos (own_cgt c (55295 : Int32) 55295 (by decide) (by omega)), if_neg (own_cnlt c (57344 : Int32) 57344 (by decide) (by omega)), if_neg (own_cngt c (65533 : Int32) 65533 (by decide) (by omega)), f2, if_neg (own_cnlt c (0 : Int32) 0 (by decide) (by omega)), if_neg (own_cngt c (1114111 : Int32) 1114111 (by decide) (by omega)), if_neg (own_cnlt c (32 : Int32) 32 (by decide) (by omega)), if_neg (own_cnlt c (55296 : Int32) 55296 (by decide) (by omega)), if_pos (own_cgt c (57343 : Int32) 57343 (by decide) (by omega)), if_neg (own_cisnt c (65534 : Int32) 65534 (by decide) (by omega)), if_neg (own_cisnt c (65535 : Int32) 65535 (by decide) (by omega))]
  · rw [f1, if_neg (own_cisnt c (9 : Int32) 9 (by decide) (by omega)), if_neg (own_cisnt c (10 : Int32) 10 (by decide) (by omega)), if_neg (own_cisnt c (13 : Int32) 13 (by decide) (by omega)), if_neg (own_cnlt c (32 : Int32) 32 (by decide) (by omega)), if_pos (own_cgt c (55295 : Int32) 55295 (by decide) (by omega)), if_neg (own_cnlt c (57344 : Int32) 57344 (by decide) (by omega)), if_neg (own_cngt c (65533 : Int32) 65533 (by decide) (by omega)), f2, if_neg (own_cnlt c (0 : Int32) 0 (by decide) (by omega)), if_neg (own_cngt c (1114111 : Int32) 1114111 (by decide) (by omega)), if_neg (own_cnlt c (32 : Int32) 32 (by decide) (by omega)), if_neg (own_cnlt c (55296 : Int32) 55296 (by decide) (by omega)), if_pos (own_cgt c (57343 : Int32) 57343 (by decide) (by omega)), if_neg (own_cisnt c (65534 : Int32) 65534 (by decide) (by omega)), if_neg (own_cisnt c (65535 : Int32) 65535 (by decide) (by omega))]
  · rw [f1, if_neg (own_cisnt c (9 : Int32) 9 (by decide) (by omega)), if_neg (own_cisnt c (10 : Int32) 10 (by decide) (by omega)), if_neg (own_cisnt c (13 : Int32) 13 (by decide) (by omega)), if_neg (own_cnlt c (32 : Int32) 32 (by decide) (by omega)), if_pos (own_cgt c (55295 : Int32) 55295 (by decide) (by omega)), if_neg (own_cnlt c (57344 : Int32) 57344 (by decide) (by omega)), if_pos (own_cgt c (65533 : Int32) 65533 (by decide) (by omega)), if_pos (own_clt c (65536 : Int32) 65536 (by decide) (by omega)), f2, if_neg (own_cnlt c (0 : Int32) 0 (by decide) (by omega)), if_neg (own_cngt c (1114111 : Int32) 1114111 (by decide) (by omega)), if_neg (own_cnlt c (32 : Int32) 32 (by decide) (by omega)), if_neg (own_cnlt c (55296 : Int32) 55296 (by decide) (by omega)), if_pos (own_cgt c (57343 : Int32) 57343 (by decide) (by omega)), if_pos (own_cis c (65534 : Int32) 65534 (by decide) (by omega))]
  · rw [f1, if_neg (own_cisnt c (9 : Int32) 9 (by decide) (by omega)), if_neg (own_cisnt c (10 : Int32) 10 (by decide) (by omega)), if_neg (own_cisnt c (13 : Int32) 13 (by decide) (by omega)), if_neg (own_cnlt c (32 : Int32) 32 (by decide) (by omega)), if_pos (own_cgt c (55295 : Int32) 55295 (by decide) (by omega)), if_neg (own_cnlt c (57344 : Int32) 57344 (by decide) (by omega)), if_pos (own_cgt c (65533 : Int32) 65533 (by decide) (by omega)), if_pos (own_clt c (65536 : Int32) 65536 (by decide) (by omega)), f2, if_neg (own_cnlt c (0 : Int32) 0 (by decide) (by omega)), if_neg (own_cngt c (1114111 : Int32) 1114111 (by decide) (by omega)), if_neg (own_cnlt c (32 : Int32) 32 (by decide) (by omega)), if_neg (own_cnlt c (55296 : Int32) 55296 (by decide) (by omega)), if_pos (own_cgt c (57343 : Int32) 57343 (by decide) (by omega)), if_neg (own_cisnt c (65534 : Int32) 65534 (by decide) (by omega)), if_pos (own_cis c (65535 : Int32) 65535 (by decide) (by omega))]
  · rw [f1, if_neg (own_cisnt c (9 : Int32) 9 (by decide) (by omega)), if_neg (own_cisnt c (10 : Int32) 10 (by decide) (by omega)), if_neg (own_cisnt c (13 : Int32) 13 (by decide) (by omega)), if_neg (own_cnlt c (32 : Int32) 32 (by decide) (by omega)), if_pos (own_cgt c (55295 : Int32) 55295 (by decide) (by omega)), if_neg (own_cnlt c (57344 : Int32) 57344 (by decide) (by omega)), if_pos (own_cgt c (65533 : Int32) 65533 (by decide) (by omega)), if_neg (own_cnlt c (65536 : Int32) 65536 (by decide) (by omega)), if_neg (own_cngt c (1114111 : Int32) 1114111 (by decide) (by omega)), f2, if_neg (own_cnlt c (0 : Int32) 0 (by decide) (by omega)), if_neg (own_cngt c (1114111 : Int32) 1114111 (by decide) (by omega)), if_neg (own_cnlt c (32 : Int32) 32 (by decide) (by omega)), if_neg (own_cnlt c (55296 : Int32) 55296 (by decide) (by omega)), if_pos (own_cgt c (57343 : Int32) 57343 (by decide) (by omega)), if_neg (own_cisnt c (65534 : Int32) 65534 (by decide) (by omega)), if_neg (own_cisnt c (65535 : Int32) 65535 (by decide) (by omega))]
  · rw [f1, if_neg (own_cisnt c (9 : Int32) 9 (by decide) (by omega)), if_neg (own_cisnt c (10 : Int32) 10 (by decide) (by omega)), if_neg (own_cisnt c (13 : Int32) 13 (by decide) (by omega)), if_neg (own_cnlt c (32 : Int32) 32 (by decide) (by omega)), if_pos (own_cgt c (55295 : Int32) 55295 (by decide) (by omega)), if_neg (own_cnlt c (57344 : Int32) 57344 (by decide) (by omega)), if_pos (own_cgt c (65533 : Int32) 65533 (by decide) (by omega)), if_neg (own_cnlt c (65536 : Int32) 65536 (by decide) (by omega)), if_neg (own_cngt c (1114111 : Int32) 1114111 (by decide) (by omega)), f2, if_neg (own_cnlt c (0 : Int32) 0 (by decide) (by omega)), if_neg (own_cngt c (1114111 : Int32) 1114111 (by decide) (by omega)), if_neg (own_cnlt c (32 : Int32) 32 (by decide) (by omega)), if_neg (own_cnlt c (55296 : Int32) 55296 (by decide) (by omega)), if_pos (own_cgt c (57343 : Int32) 57343 (by decide) (by omega)), if_neg (own_cisnt c (65534 : Int32) 65534 (by decide) (by omega)), if_neg (own_cisnt c (65535 : Int32) 65535 (by decide) (by omega))]
  · rw [f1, if_neg (own_cisnt c (9 : Int32) 9 (by decide) (by omega)), if_neg (own_cisnt c (10 : Int32) 10 (by decide) (by omega)), if_neg (own_cisnt c (13 : Int32) 13 (by decide) (by omega)), if_neg (own_cnlt c (32 : Int32) 32 (by decide) (by omega)), if_pos (own_cgt c (55295 : Int32) 55295 (by decide) (by omega)), if_neg (own_cnlt c (57344 : Int32) 57344 (by decide) (by omega)), if_pos (own_cgt c (65533 : Int32) 65533 (by decide) (by omega)), if_neg (own_cnlt c (65536 : Int32) 65536 (by decide) (by omega)), if_neg (own_cngt c (1114111 : Int32) 1114111 (by decide) (by omega)), f2, if_neg (own_cnlt c (0 : Int32) 0 (by decide) (by omega)), if_neg (own_cngt c (1114111 : Int32) 1114111 (by decide) (by omega)), if_neg (own_cnlt c (32 : Int32) 32 (by decide) (by omega)), if_neg (own_cnlt c (55296 : Int32) 55296 (by decide) (by omega)), if_pos (own_cgt c (57343 : Int32) 57343 (by decide) (by omega)), if_neg (own_cisnt c (65534 : Int32) 65534 (by decide) (by omega)), if_neg (own_cisnt c (65535 : Int32) 65535 (by decide) (by omega))]
  · rw [f1, if_neg (own_cisnt c (9 : Int32) 9 (by decide) (by omega)), if_neg (own_cisnt c (10 : Int32) 10 (by decide) (by omega)), if_neg (own_cisnt c (13 : Int32) 13 (by decide) (by omega)), if_neg (own_cnlt c (32 : Int32) 32 (by decide) (by omega)), if_pos (own_cgt c (55295 : Int32) 55295 (by decide) (by omega)), if_neg (own_cnlt c (57344 : Int32) 57344 (by decide) (by omega)), if_pos (own_cgt c (65533 : Int32) 65533 (by decide) (by omega)), if_neg (own_cnlt c (65536 : Int32) 65536 (by decide) (by omega)), if_pos (own_cgt c (1114111 : Int32) 1114111 (by decide) (by omega)), f2, if_neg (own_cnlt c (0 : Int32) 0 (by decide) (by omega)), if_pos (own_cgt c (1114111 : Int32) 1114111 (by decide) (by omega))]
theorem own_idx (x : Int32) : ¬ ((x &&& (2147483647 : Int32)) - ((x &&& (2147483647 : Int32)) / (23 : Int32)) * (23 : Int32)) < 0 ∧ ((x &&& (2147483647 : Int32)) - ((x &&& (2147483647 : Int32)) / (23 : Int32)) * (23 : Int32)) < (23 : Int32) := by
  have h1 : (x &&& 2147483647).toInt = x.toInt % 2147483648 := c_mask x 2147483647 31 (by decide) (by decide)
  have h2 := (c_irem (x &&& 2147483647) 23 23 (by decide)).1 (by omega)
  have e0 : (0 : Int32).toInt = 0 := by decide
  have en : (23 : Int32).toInt = 23 := by decide
  rw [irem_eq_mod, Int32.lt_iff_toInt_lt, Int32.lt_iff_toInt_lt, e0, en]
  omega
def Q0 (Z : State) (p0 : Int32) (p1 : Int32) (h0 : Heap) (n0 : Nat) (v : Option Value) (h : Heap) (L : List Loc) : Prop := v = some (.int (1 : Int32)) ∧ Fr n0 L
set_option maxRecDepth 65536 in
set_option maxHeartbeats 40000000 in
theorem rm0 (l : Launch) (Z : State) (a0 : Array Value) (hw : ∀ d ∈ tables_1, d.before a0 Z = true) (ws : List Jvm.Cond) (p0 : Int32) (p1 : Int32) (h0 : Heap) (n0 : Nat) (Z0 : n0 ≤ h0.size) :
    MetFree l x (head1 (Jvm.Cond.code x code maxLocals ret :: ws) room_1) (fun a U => a = #[(.int p0), (.int p1)] ∧ Z.Warmed39 U.vm ∧ U.heap = h0) (fun _ _ _ _ _ => True) (fun _ U o U' => ∃ v L, o = .returned v ∧ Q0 Z p0 p1 h0 n0 v U'.heap L ∧ FrameEnd U o U' L room_1.cells room_1.slots) := by
  refine MetFree.of_bodySF (plainFor_of_name pn_0) hisR ?_
  intro p e s m args below meth c s₁ Bd hml0 hP hK
  obtain ⟨rfl, hZ, hh⟩ := hP
  have hx := Bd.exec
  have hby := Bd.bytes
  have hml : c.maxLocals = 4 := hml0
  have hown : s.vm.findClass "com/example/cuttlefish/cuttlefish/xml/XmlNamesIsCharacterPinLaw" = some m.cls := findClass_of_methodNamed Bd.named
  have hnm := (name_of_methodNamed Bd.named Bd.method).1
  have X0 : Stand p l e room_1 s m #[(.int p0), (.int p1)] below meth c s₁ [] 0 0 := Stand.of_body Bd
  have e0 : s₁.heap = h0 := by rw [← hh, Bd.state]; rfl
  have N0 := Fr.nil n0
  have pre0 : ∀ t, Steps p.tables e below (s₁.setTop (mkF m 0 #[.val (.int p0), .val (.int p1), .unset, .unset] [])) t → Steps p.tables e below (s₁.setTop (entryFrame m #[(.int p0), (.int p1)] maxLocals)) t := fun t k => castTop (ef_0 m p0 p1) k
  obtain ⟨T1, h1, k1, X1, e1, E1, A1, st1⟩ := newP X0 hx hZ (hw _ (List.mem_of_getElem? (i := 0) rfl)) e0 (g := (mkF m 2 #[.val (.int p0), .val (.int p1), .unset, .unset] [(.int (23 : Int32))])) rfl (hb hby at_2) rfl (by decide) (cap := 23) (by decide) (by decide) (by decide) (by decide)
  obtain ⟨b1, g1⟩ : ∃ z, z = h0.size := ⟨_, rfl⟩
  rw [← g1] at A1 st1
  have g_b1 : n0 ≤ b1 := Nat.le_trans Z0 (Nat.le_of_eq g1.symm)
  have sz_b1 : h0.size ≤ b1 := Nat.le_trans (Keep.refl h0 []).1 (Nat.le_of_eq g1.symm)
  have K2 : Keep h0 h1 [] := (Keep.refl h0 []).ext E1
  have Z3 : n0 ≤ h1.size := Nat.le_trans Z0 K2.1
  have V_b1 : own_AI Z h1 b1 .int (23 : Int32) (fun _ => 0) := own_AI.new A1 (by decide) rfl
  obtain ⟨cl4, Ar4, Sz4, Nn4, Hs4⟩ := id V_b1
  have hin4 : ¬ ((0 : Int32) < 0 ∨ cl4.slots.size ≤ ((0 : Int32)).toNatClampNeg) := inb_of Sz4 ⟨by decide, by decide⟩
  obtain ⟨T5, h5, X5, e5, W5, st5⟩ := stI X1 hx hZ e1 Ar4 (j := (0 : Int32)) hin4 (g := (mkF m 8 #[.val (.int p0), .val (.int p1), .unset, .unset] [(.int (-2147483648 : Int32)), (.int (0 : Int32)), (.ref b1), (.ref b1)])) rfl rfl (hb hby at_8)
  have V5 : own_AI Z h5 b1 .int (23 : Int32) (own_upd (fun _ => 0) 0 (-2147483648 : Int32)) := own_AI.set V_b1 rfl W5
  obtain ⟨F5, V5⟩ : ∃ F, own_AI Z h5 b1 .int (23 : Int32) F := ⟨_, V5⟩
  have K6 : Keep h0 h5 [] := K2.wr W5 (Or.inr sz_b1)
  have Z7 : n0 ≤ h5.size := Nat.le_trans Z0 K6.1
  have N5 := Fr.snoc X5 N0 g_b1
  obtain ⟨LS5, X5, N5⟩ : ∃ L, Stand p l e room_1 s m #[(.int p0), (.int p1)] below meth c T5 L 1 23 ∧ Fr n0 L := ⟨_, X5, N5⟩
  obtain ⟨cl8, Ar8, Sz8, Nn8, Hs8⟩ := id V5
  have hin8 : ¬ ((1 : Int32) < 0 ∨ cl8.slots.size ≤ ((1 : Int32)).toNatClampNeg) := inb_of Sz8 ⟨by decide, by decide⟩
  obtain ⟨T9, h9, X9, e9, W9, st9⟩ := stI X5 hx hZ e5 Ar8 (j := (1 : Int32)) hin8 (g := (mkF m 12 #[.val (.int p0), .val (.int p1), .unset, .unset] [(.int (-1 : Int32)), (.int (1 : Int32)), (.ref b1), (.ref b1)])) rfl rfl (hb hby at_12)
  have V9 : own_AI Z h9 b1 .int (23 : Int32) (own_upd F5 1 (-1 : Int32)) := own_AI.set V5 rfl W9
  obtain ⟨F9, V9⟩ : ∃ F, own_AI Z h9 b1 .int (23 : Int32) F := ⟨_, V9⟩
  have K10 : Keep h0 h9 [] := K6.wr W9 (Or.inr sz_b1)
  have Z11 : n0 ≤ h9.size := Nat.le_trans Z0 K10.1
  have N9 := Fr.snoc X9 N5 g_b1
  obtain ⟨LS9, X9, N9⟩ : ∃ L, Stand p l e room_1 s m #[(.int p0), (.int p1)] below meth c T9 L 1 23 ∧ Fr n0 L := ⟨_, X9, N9⟩
  obtain ⟨cl12, Ar12, Sz12, Nn12, Hs12⟩ := id V9
  have hin12 : ¬ ((2 : Int32) < 0 ∨ cl12.slots.size ≤ ((2 : Int32)).toNatClampNeg) := inb_of Sz12 ⟨by decide, by decide⟩
  obtain ⟨T13, h13, X13, e13, W13, st13⟩ := stI X9 hx hZ e9 Ar12 (j := (2 : Int32)) hin12 (g := (mkF m 16 #[.val (.int p0), .val (.int p1), .unset, .unset] [(.int (0 : Int32)), (.int (2 : Int32)), (.ref b1), (.ref b1)])) rfl rfl (hb hby at_16)
  have V13 : own_AI Z h13 b1 .int (23 : Int32) (own_upd F9 2 (0 : Int32)) := own_AI.set V9 rfl W13
  obtain ⟨F13, V13⟩ : ∃ F, own_AI Z h13 b1 .int (23 : Int32) F := ⟨_, V13⟩
  have K14 : Keep h0 h13 [] := K10.wr W13 (Or.inr sz_b1)
  have Z15 : n0 ≤ h13.size := Nat.le_trans Z0 K14.1
  have N13 := Fr.snoc X13 N9 g_b1
  obtain ⟨LS13, X13, N13⟩ : ∃ L, Stand p l e room_1 s m #[(.int p0), (.int p1)] below meth c T13 L 1 23 ∧ Fr n0 L := ⟨_, X13, N13⟩
  obtain ⟨cl16, Ar16, Sz16, Nn16, Hs16⟩ := id V13
  have hin16 : ¬ ((3 : Int32) < 0 ∨ cl16.slots.size ≤ ((3 : Int32)).toNatClampNeg) := inb_of Sz16 ⟨by decide, by decide⟩
  obtain ⟨T17, h17, X17, e17, W17, st17⟩ := stI X13 hx hZ e13 Ar16 (j := (3 : Int32)) hin16 (g := (mkF m 21 #[.val (.int p0), .val (.int p1), .unset, .unset] [(.int (8 : Int32)), (.int (3 : Int32)), (.ref b1), (.ref b1)])) rfl rfl (hb hby at_21)
  have V17 : own_AI Z h17 b1 .int (23 : Int32) (own_upd F13 3 (8 : Int32)) := own_AI.set V13 rfl W17
  obtain ⟨F17, V17⟩ : ∃ F, own_AI Z h17 b1 .int (23 : Int32) F := ⟨_, V17⟩
  have K18 : Keep h0 h17 [] := K14.wr W17 (Or.inr sz_b1)
  have Z19 : n0 ≤ h17.size := Nat.le_trans Z0 K18.1
  have N17 := Fr.snoc X17 N13 g_b1
  obtain ⟨LS17, X17, N17⟩ : ∃ L, Stand p l e room_1 s m #[(.int p0), (.int p1)] below meth c T17 L 1 23 ∧ Fr n0 L := ⟨_, X17, N17⟩
  obtain ⟨cl20, Ar20, Sz20, Nn20, Hs20⟩ := id V17
  have hin20 : ¬ ((4 : Int32) < 0 ∨ cl20.slots.size ≤ ((4 : Int32)).toNatClampNeg) := inb_of Sz20 ⟨by decide, by decide⟩
  obtain ⟨T21, h21, X21, e21, W21, st21⟩ := stI X17 hx hZ e17 Ar20 (j := (4 : Int32)) hin20 (g := (mkF m 26 #[.val (.int p0), .val (.int p1), .unset, .unset] [(.int (9 : Int32)), (.int (4 : Int32)), (.ref b1), (.ref b1)])) rfl rfl (hb hby at_26)
  have V21 : own_AI Z h21 b1 .int (23 : Int32) (own_upd F17 4 (9 : Int32)) := own_AI.set V17 rfl W21
  obtain ⟨F21, V21⟩ : ∃ F, own_AI Z h21 b1 .int (23 : Int32) F := ⟨_, V21⟩
  have K22 : Keep h0 h21 [] := K18.wr W21 (Or.inr sz_b1)
  have Z23 : n0 ≤ h21.size := Nat.le_trans Z0 K22.1
  have N21 := Fr.snoc X21 N17 g_b1
  obtain ⟨LS21, X21, N21⟩ : ∃ L, Stand p l e room_1 s m #[(.int p0), (.int p1)] below meth c T21 L 1 23 ∧ Fr n0 L := ⟨_, X21, N21⟩
  obtain ⟨cl24, Ar24, Sz24, Nn24, Hs24⟩ := id V21
  have hin24 : ¬ ((5 : Int32) < 0 ∨ cl24.slots.size ≤ ((5 : Int32)).toNatClampNeg) := inb_of Sz24 ⟨by decide, by decide⟩
  obtain ⟨T25, h25, X25, e25, W25, st25⟩ := stI X21 hx hZ e21 Ar24 (j := (5 : Int32)) hin24 (g := (mkF m 31 #[.val (.int p0), .val (.int p1), .unset, .unset] [(.int (10 : Int32)), (.int (5 : Int32)), (.ref b1), (.ref b1)])) rfl rfl (hb hby at_31)
  have V25 : own_AI Z h25 b1 .int (23 : Int32) (own_upd F21 5 (10 : Int32)) := own_AI.set V21 rfl W25
  obtain ⟨F25, V25⟩ : ∃ F, own_AI Z h25 b1 .int (23 : Int32) F := ⟨_, V25⟩
  have K26 : Keep h0 h25 [] := K22.wr W25 (Or.inr sz_b1)
  have Z27 : n0 ≤ h25.size := Nat.le_trans Z0 K26.1
  have N25 := Fr.snoc X25 N21 g_b1
  obtain ⟨LS25, X25, N25⟩ : ∃ L, Stand p l e room_1 s m #[(.int p0), (.int p1)] below meth c T25 L 1 23 ∧ Fr n0 L := ⟨_, X25, N25⟩
  obtain ⟨cl28, Ar28, Sz28, Nn28, Hs28⟩ := id V25
  have hin28 : ¬ ((6 : Int32) < 0 ∨ cl28.slots.size ≤ ((6 : Int32)).toNatClampNeg) := inb_of Sz28 ⟨by decide, by decide⟩
  obtain ⟨T29, h29, X29, e29, W29, st29⟩ := stI X25 hx hZ e25 Ar28 (j := (6 : Int32)) hin28 (g := (mkF m 37 #[.val (.int p0), .val (.int p1), .unset, .unset] [(.int (11 : Int32)), (.int (6 : Int32)), (.ref b1), (.ref b1)])) rfl rfl (hb hby at_37)
  have V29 : own_AI Z h29 b1 .int (23 : Int32) (own_upd F25 6 (11 : Int32)) := own_AI.set V25 rfl W29
  obtain ⟨F29, V29⟩ : ∃ F, own_AI Z h29 b1 .int (23 : Int32) F := ⟨_, V29⟩
  have K30 : Keep h0 h29 [] := K26.wr W29 (Or.inr sz_b1)
  have Z31 : n0 ≤ h29.size := Nat.le_trans Z0 K30.1
  have N29 := Fr.snoc X29 N25 g_b1
  obtain ⟨LS29, X29, N29⟩ : ∃ L, Stand p l e room_1 s m #[(.int p0), (.int p1)] below meth c T29 L 1 23 ∧ Fr n0 L := ⟨_, X29, N29⟩
  obtain ⟨cl32, Ar32, Sz32, Nn32, Hs32⟩ := id V29
  have hin32 : ¬ ((7 : Int32) < 0 ∨ cl32.slots.size ≤ ((7 : Int32)).toNatClampNeg) := inb_of Sz32 ⟨by decide, by decide⟩
  obtain ⟨T33, h33, X33, e33, W33, st33⟩ := stI X29 hx hZ e29 Ar32 (j := (7 : Int32)) hin32 (g := (mkF m 43 #[.val (.int p0), .val (.int p1), .unset, .unset] [(.int (12 : Int32)), (.int (7 : Int32)), (.ref b1), (.ref b1)])) rfl rfl (hb hby at_43)
  have V33 : own_AI Z h33 b1 .int (23 : Int32) (own_upd F29 7 (12 : Int32)) := own_AI.set V29 rfl W33
  obtain ⟨F33, V33⟩ : ∃ F, own_AI Z h33 b1 .int (23 : Int32) F := ⟨_, V33⟩
  have K34 : Keep h0 h33 [] := K30.wr W33 (Or.inr sz_b1)
  have Z35 : n0 ≤ h33.size := Nat.le_trans Z0 K34.1
  have N33 := Fr.snoc X33 N29 g_b1
  obtain ⟨LS33, X33, N33⟩ : ∃ L, Stand p l e room_1 s m #[(.int p0), (.int p1)] below meth c T33 L 1 23 ∧ Fr n0 L := ⟨_, X33, N33⟩
  obtain ⟨cl36, Ar36, Sz36, Nn36, Hs36⟩ := id V33
  have hin36 : ¬ ((8 : Int32) < 0 ∨ cl36.slots.size ≤ ((8 : Int32)).toNatClampNeg) := inb_of Sz36 ⟨by decide, by decide⟩
  obtain ⟨T37, h37, X37, e37, W37, st37⟩ := stI X33 hx hZ e33 Ar36 (j := (8 : Int32)) hin36 (g := (mkF m 49 #[.val (.int p0), .val (.int p1), .unset, .unset] [(.int (13 : Int32)), (.int (8 : Int32)), (.ref b1), (.ref b1)])) rfl rfl (hb hby at_49)
  have V37 : own_AI Z h37 b1 .int (23 : Int32) (own_upd F33 8 (13 : Int32)) := own_AI.set V33 rfl W37
  obtain ⟨F37, V37⟩ : ∃ F, own_AI Z h37 b1 .int (23 : Int32) F := ⟨_, V37⟩
  have K38 : Keep h0 h37 [] := K34.wr W37 (Or.inr sz_b1)
  have Z39 : n0 ≤ h37.size := Nat.le_trans Z0 K38.1
  have N37 := Fr.snoc X37 N33 g_b1
  obtain ⟨LS37, X37, N37⟩ : ∃ L, Stand p l e room_1 s m #[(.int p0), (.int p1)] below meth c T37 L 1 23 ∧ Fr n0 L := ⟨_, X37, N37⟩
  obtain ⟨cl40, Ar40, Sz40, Nn40, Hs40⟩ := id V37
  have hin40 : ¬ ((9 : Int32) < 0 ∨ cl40.slots.size ≤ ((9 : Int32)).toNatClampNeg) := inb_of Sz40 ⟨by decide, by decide⟩
  obtain ⟨T41, h41, X41, e41, W41, st41⟩ := stI X37 hx hZ e37 Ar40 (j := (9 : Int32)) hin40 (g := (mkF m 55 #[.val (.int p0), .val (.int p1), .unset, .unset] [(.int (14 : Int32)), (.int (9 : Int32)), (.ref b1), (.ref b1)])) rfl rfl (hb hby at_55)
  have V41 : own_AI Z h41 b1 .int (23 : Int32) (own_upd F37 9 (14 : Int32)) := own_AI.set V37 rfl W41
  obtain ⟨F41, V41⟩ : ∃ F, own_AI Z h41 b1 .int (23 : Int32) F := ⟨_, V41⟩
  have K42 : Keep h0 h41 [] := K38.wr W41 (Or.inr sz_b1)
  have Z43 : n0 ≤ h41.size := Nat.le_trans Z0 K42.1
  have N41 := Fr.snoc X41 N37 g_b1
  obtain ⟨LS41, X41, N41⟩ : ∃ L, Stand p l e room_1 s m #[(.int p0), (.int p1)] below meth c T41 L 1 23 ∧ Fr n0 L := ⟨_, X41, N41⟩
  obtain ⟨cl44, Ar44, Sz44, Nn44, Hs44⟩ := id V41
  have hin44 : ¬ ((10 : Int32) < 0 ∨ cl44.slots.size ≤ ((10 : Int32)).toNatClampNeg) := inb_of Sz44 ⟨by decide, by decide⟩
  obtain ⟨T45, h45, X45, e45, W45, st45⟩ := stI X41 hx hZ e41 Ar44 (j := (10 : Int32)) hin44 (g := (mkF m 61 #[.val (.int p0), .val (.int p1), .unset, .unset] [(.int (31 : Int32)), (.int (10 : Int32)), (.ref b1), (.ref b1)])) rfl rfl (hb hby at_61)
  have V45 : own_AI Z h45 b1 .int (23 : Int32) (own_upd F41 10 (31 : Int32)) := own_AI.set V41 rfl W45
  obtain ⟨F45, V45⟩ : ∃ F, own_AI Z h45 b1 .int (23 : Int32) F := ⟨_, V45⟩
  have K46 : Keep h0 h45 [] := K42.wr W45 (Or.inr sz_b1)
  have Z47 : n0 ≤ h45.size := Nat.le_trans Z0 K46.1
  have N45 := Fr.snoc X45 N41 g_b1
  obtain ⟨LS45, X45, N45⟩ : ∃ L, Stand p l e room_1 s m #[(.int p0), (.int p1)] below meth c T45 L 1 23 ∧ Fr n0 L := ⟨_, X45, N45⟩
  obtain ⟨cl48, Ar48, Sz48, Nn48, Hs48⟩ := id V45
  have hin48 : ¬ ((11 : Int32) < 0 ∨ cl48.slots.size ≤ ((11 : Int32)).toNatClampNeg) := inb_of Sz48 ⟨by decide, by decide⟩
  obtain ⟨T49, h49, X49, e49, W49, st49⟩ := stI X45 hx hZ e45 Ar48 (j := (11 : Int32)) hin48 (g := (mkF m 67 #[.val (.int p0), .val (.int p1), .unset, .unset] [(.int (32 : Int32)), (.int (11 : Int32)), (.ref b1), (.ref b1)])) rfl rfl (hb hby at_67)
  have V49 : own_AI Z h49 b1 .int (23 : Int32) (own_upd F45 11 (32 : Int32)) := own_AI.set V45 rfl W49
  obtain ⟨F49, V49⟩ : ∃ F, own_AI Z h49 b1 .int (23 : Int32) F := ⟨_, V49⟩
  have K50 : Keep h0 h49 [] := K46.wr W49 (Or.inr sz_b1)
  have Z51 : n0 ≤ h49.size := Nat.le_trans Z0 K50.1
  have N49 := Fr.snoc X49 N45 g_b1
  obtain ⟨LS49, X49, N49⟩ : ∃ L, Stand p l e room_1 s m #[(.int p0), (.int p1)] below meth c T49 L 1 23 ∧ Fr n0 L := ⟨_, X49, N49⟩
  obtain ⟨cl52, Ar52, Sz52, Nn52, Hs52⟩ := id V49
  have hin52 : ¬ ((12 : Int32) < 0 ∨ cl52.slots.size ≤ ((12 : Int32)).toNatClampNeg) := inb_of Sz52 ⟨by decide, by decide⟩
  obtain ⟨T53, h53, X53, e53, W53, st53⟩ := stI X49 hx hZ e49 Ar52 (j := (12 : Int32)) hin52 (g := (mkF m 73 #[.val (.int p0), .val (.int p1), .unset, .unset] [(.int (55295 : Int32)), (.int (12 : Int32)), (.ref b1), (.ref b1)])) rfl rfl (hb hby at_73)
  have V53 : own_AI Z h53 b1 .int (23 : Int32) (own_upd F49 12 (55295 : Int32)) := own_AI.set V49 rfl W53
  obtain ⟨F53, V53⟩ : ∃ F, own_AI Z h53 b1 .int (23 : Int32) F := ⟨_, V53⟩
  have K54 : Keep h0 h53 [] := K50.wr W53 (Or.inr sz_b1)
  have Z55 : n0 ≤ h53.size := Nat.le_trans Z0 K54.1
  have N53 := Fr.snoc X53 N49 g_b1
  obtain ⟨LS53, X53, N53⟩ : ∃ L, Stand p l e room_1 s m #[(.int p0), (.int p1)] below meth c T53 L 1 23 ∧ Fr n0 L := ⟨_, X53, N53⟩
  obtain ⟨cl56, Ar56, Sz56, Nn56, Hs56⟩ := id V53
  have hin56 : ¬ ((13 : Int32) < 0 ∨ cl56.slots.size ≤ ((13 : Int32)).toNatClampNeg) := inb_of Sz56 ⟨by decide, by decide⟩
  obtain ⟨T57, h57, X57, e57, W57, st57⟩ := stI X53 hx hZ e53 Ar56 (j := (13 : Int32)) hin56 (g := (mkF m 79 #[.val (.int p0), .val (.int p1), .unset, .unset] [(.int (55296 : Int32)), (.int (13 : Int32)), (.ref b1), (.ref b1)])) rfl rfl (hb hby at_79)
  have V57 : own_AI Z h57 b1 .int (23 : Int32) (own_upd F53 13 (55296 : Int32)) := own_AI.set V53 rfl W57
  obtain ⟨F57, V57⟩ : ∃ F, own_AI Z h57 b1 .int (23 : Int32) F := ⟨_, V57⟩
  have K58 : Keep h0 h57 [] := K54.wr W57 (Or.inr sz_b1)
  have Z59 : n0 ≤ h57.size := Nat.le_trans Z0 K58.1
  have N57 := Fr.snoc X57 N53 g_b1
  obtain ⟨LS57, X57, N57⟩ : ∃ L, Stand p l e room_1 s m #[(.int p0), (.int p1)] below meth c T57 L 1 23 ∧ Fr n0 L := ⟨_, X57, N57⟩
  obtain ⟨cl60, Ar60, Sz60, Nn60, Hs60⟩ := id V57
  have hin60 : ¬ ((14 : Int32) < 0 ∨ cl60.slots.size ≤ ((14 : Int32)).toNatClampNeg) := inb_of Sz60 ⟨by decide, by decide⟩
  obtain ⟨T61, h61, X61, e61, W61, st61⟩ := stI X57 hx hZ e57 Ar60 (j := (14 : Int32)) hin60 (g := (mkF m 85 #[.val (.int p0), .val (.int p1), .unset, .unset] [(.int (57343 : Int32)), (.int (14 : Int32)), (.ref b1), (.ref b1)])) rfl rfl (hb hby at_85)
  have V61 : own_AI Z h61 b1 .int (23 : Int32) (own_upd F57 14 (57343 : Int32)) := own_AI.set V57 rfl W61
  obtain ⟨F61, V61⟩ : ∃ F, own_AI Z h61 b1 .int (23 : Int32) F := ⟨_, V61⟩
  have K62 : Keep h0 h61 [] := K58.wr W61 (Or.inr sz_b1)
  have Z63 : n0 ≤ h61.size := Nat.le_trans Z0 K62.1
  have N61 := Fr.snoc X61 N57 g_b1
  obtain ⟨LS61, X61, N61⟩ : ∃ L, Stand p l e room_1 s m #[(.int p0), (.int p1)] below meth c T61 L 1 23 ∧ Fr n0 L := ⟨_, X61, N61⟩
  obtain ⟨cl64, Ar64, Sz64, Nn64, Hs64⟩ := id V61
  have hin64 : ¬ ((15 : Int32) < 0 ∨ cl64.slots.size ≤ ((15 : Int32)).toNatClampNeg) := inb_of Sz64 ⟨by decide, by decide⟩
  obtain ⟨T65, h65, X65, e65, W65, st65⟩ := stI X61 hx hZ e61 Ar64 (j := (15 : Int32)) hin64 (g := (mkF m 91 #[.val (.int p0), .val (.int p1), .unset, .unset] [(.int (57344 : Int32)), (.int (15 : Int32)), (.ref b1), (.ref b1)])) rfl rfl (hb hby at_91)
  have V65 : own_AI Z h65 b1 .int (23 : Int32) (own_upd F61 15 (57344 : Int32)) := own_AI.set V61 rfl W65
  obtain ⟨F65, V65⟩ : ∃ F, own_AI Z h65 b1 .int (23 : Int32) F := ⟨_, V65⟩
  have K66 : Keep h0 h65 [] := K62.wr W65 (Or.inr sz_b1)
  have Z67 : n0 ≤ h65.size := Nat.le_trans Z0 K66.1
  have N65 := Fr.snoc X65 N61 g_b1
  obtain ⟨LS65, X65, N65⟩ : ∃ L, Stand p l e room_1 s m #[(.int p0), (.int p1)] below meth c T65 L 1 23 ∧ Fr n0 L := ⟨_, X65, N65⟩
  obtain ⟨cl68, Ar68, Sz68, Nn68, Hs68⟩ := id V65
  have hin68 : ¬ ((16 : Int32) < 0 ∨ cl68.slots.size ≤ ((16 : Int32)).toNatClampNeg) := inb_of Sz68 ⟨by decide, by decide⟩
  obtain ⟨T69, h69, X69, e69, W69, st69⟩ := stI X65 hx hZ e65 Ar68 (j := (16 : Int32)) hin68 (g := (mkF m 97 #[.val (.int p0), .val (.int p1), .unset, .unset] [(.int (65533 : Int32)), (.int (16 : Int32)), (.ref b1), (.ref b1)])) rfl rfl (hb hby at_97)
  have V69 : own_AI Z h69 b1 .int (23 : Int32) (own_upd F65 16 (65533 : Int32)) := own_AI.set V65 rfl W69
  obtain ⟨F69, V69⟩ : ∃ F, own_AI Z h69 b1 .int (23 : Int32) F := ⟨_, V69⟩
  have K70 : Keep h0 h69 [] := K66.wr W69 (Or.inr sz_b1)
  have Z71 : n0 ≤ h69.size := Nat.le_trans Z0 K70.1
  have N69 := Fr.snoc X69 N65 g_b1
  obtain ⟨LS69, X69, N69⟩ : ∃ L, Stand p l e room_1 s m #[(.int p0), (.int p1)] below meth c T69 L 1 23 ∧ Fr n0 L := ⟨_, X69, N69⟩
  obtain ⟨cl72, Ar72, Sz72, Nn72, Hs72⟩ := id V69
  have hin72 : ¬ ((17 : Int32) < 0 ∨ cl72.slots.size ≤ ((17 : Int32)).toNatClampNeg) := inb_of Sz72 ⟨by decide, by decide⟩
  obtain ⟨T73, h73, X73, e73, W73, st73⟩ := stI X69 hx hZ e69 Ar72 (j := (17 : Int32)) hin72 (g := (mkF m 103 #[.val (.int p0), .val (.int p1), .unset, .unset] [(.int (65534 : Int32)), (.int (17 : Int32)), (.ref b1), (.ref b1)])) rfl rfl (hb hby at_103)
  have V73 : own_AI Z h73 b1 .int (23 : Int32) (own_upd F69 17 (65534 : Int32)) := own_AI.set V69 rfl W73
  obtain ⟨F73, V73⟩ : ∃ F, own_AI Z h73 b1 .int (23 : Int32) F := ⟨_, V73⟩
  have K74 : Keep h0 h73 [] := K70.wr W73 (Or.inr sz_b1)
  have Z75 : n0 ≤ h73.size := Nat.le_trans Z0 K74.1
  have N73 := Fr.snoc X73 N69 g_b1
  obtain ⟨LS73, X73, N73⟩ : ∃ L, Stand p l e room_1 s m #[(.int p0), (.int p1)] below meth c T73 L 1 23 ∧ Fr n0 L := ⟨_, X73, N73⟩
  obtain ⟨cl76, Ar76, Sz76, Nn76, Hs76⟩ := id V73
  have hin76 : ¬ ((18 : Int32) < 0 ∨ cl76.slots.size ≤ ((18 : Int32)).toNatClampNeg) := inb_of Sz76 ⟨by decide, by decide⟩
  obtain ⟨T77, h77, X77, e77, W77, st77⟩ := stI X73 hx hZ e73 Ar76 (j := (18 : Int32)) hin76 (g := (mkF m 109 #[.val (.int p0), .val (.int p1), .unset, .unset] [(.int (65535 : Int32)), (.int (18 : Int32)), (.ref b1), (.ref b1)])) rfl rfl (hb hby at_109)
  have V77 : own_AI Z h77 b1 .int (23 : Int32) (own_upd F73 18 (65535 : Int32)) := own_AI.set V73 rfl W77
  obtain ⟨F77, V77⟩ : ∃ F, own_AI Z h77 b1 .int (23 : Int32) F := ⟨_, V77⟩
  have K78 : Keep h0 h77 [] := K74.wr W77 (Or.inr sz_b1)
  have Z79 : n0 ≤ h77.size := Nat.le_trans Z0 K78.1
  have N77 := Fr.snoc X77 N73 g_b1
  obtain ⟨LS77, X77, N77⟩ : ∃ L, Stand p l e room_1 s m #[(.int p0), (.int p1)] below meth c T77 L 1 23 ∧ Fr n0 L := ⟨_, X77, N77⟩
  obtain ⟨cl80, Ar80, Sz80, Nn80, Hs80⟩ := id V77
  have hin80 : ¬ ((19 : Int32) < 0 ∨ cl80.slots.size ≤ ((19 : Int32)).toNatClampNeg) := inb_of Sz80 ⟨by decide, by decide⟩
  obtain ⟨T81, h81, X81, e81, W81, st81⟩ := stI X77 hx hZ e77 Ar80 (j := (19 : Int32)) hin80 (g := (mkF m 115 #[.val (.int p0), .val (.int p1), .unset, .unset] [(.int (65536 : Int32)), (.int (19 : Int32)), (.ref b1), (.ref b1)])) rfl rfl (hb hby at_115)
  have V81 : own_AI Z h81 b1 .int (23 : Int32) (own_upd F77 19 (65536 : Int32)) := own_AI.set V77 rfl W81
  obtain ⟨F81, V81⟩ : ∃ F, own_AI Z h81 b1 .int (23 : Int32) F := ⟨_, V81⟩
  have K82 : Keep h0 h81 [] := K78.wr W81 (Or.inr sz_b1)
  have Z83 : n0 ≤ h81.size := Nat.le_trans Z0 K82.1
  have N81 := Fr.snoc X81 N77 g_b1
  obtain ⟨LS81, X81, N81⟩ : ∃ L, Stand p l e room_1 s m #[(.int p0), (.int p1)] below meth c T81 L 1 23 ∧ Fr n0 L := ⟨_, X81, N81⟩
  obtain ⟨cl84, Ar84, Sz84, Nn84, Hs84⟩ := id V81
  have hin84 : ¬ ((20 : Int32) < 0 ∨ cl84.slots.size ≤ ((20 : Int32)).toNatClampNeg) := inb_of Sz84 ⟨by decide, by decide⟩
  obtain ⟨T85, h85, X85, e85, W85, st85⟩ := stI X81 hx hZ e81 Ar84 (j := (20 : Int32)) hin84 (g := (mkF m 121 #[.val (.int p0), .val (.int p1), .unset, .unset] [(.int (1114111 : Int32)), (.int (20 : Int32)), (.ref b1), (.ref b1)])) rfl rfl (hb hby at_121)
  have V85 : own_AI Z h85 b1 .int (23 : Int32) (own_upd F81 20 (1114111 : Int32)) := own_AI.set V81 rfl W85
  obtain ⟨F85, V85⟩ : ∃ F, own_AI Z h85 b1 .int (23 : Int32) F := ⟨_, V85⟩
  have K86 : Keep h0 h85 [] := K82.wr W85 (Or.inr sz_b1)
  have Z87 : n0 ≤ h85.size := Nat.le_trans Z0 K86.1
  have N85 := Fr.snoc X85 N81 g_b1
  obtain ⟨LS85, X85, N85⟩ : ∃ L, Stand p l e room_1 s m #[(.int p0), (.int p1)] below meth c T85 L 1 23 ∧ Fr n0 L := ⟨_, X85, N85⟩
  obtain ⟨cl88, Ar88, Sz88, Nn88, Hs88⟩ := id V85
  have hin88 : ¬ ((21 : Int32) < 0 ∨ cl88.slots.size ≤ ((21 : Int32)).toNatClampNeg) := inb_of Sz88 ⟨by decide, by decide⟩
  obtain ⟨T89, h89, X89, e89, W89, st89⟩ := stI X85 hx hZ e85 Ar88 (j := (21 : Int32)) hin88 (g := (mkF m 127 #[.val (.int p0), .val (.int p1), .unset, .unset] [(.int (1114112 : Int32)), (.int (21 : Int32)), (.ref b1), (.ref b1)])) rfl rfl (hb hby at_127)
  have V89 : own_AI Z h89 b1 .int (23 : Int32) (own_upd F85 21 (1114112 : Int32)) := own_AI.set V85 rfl W89
  obtain ⟨F89, V89⟩ : ∃ F, own_AI Z h89 b1 .int (23 : Int32) F := ⟨_, V89⟩
  have K90 : Keep h0 h89 [] := K86.wr W89 (Or.inr sz_b1)
  have Z91 : n0 ≤ h89.size := Nat.le_trans Z0 K90.1
  have N89 := Fr.snoc X89 N85 g_b1
  obtain ⟨LS89, X89, N89⟩ : ∃ L, Stand p l e room_1 s m #[(.int p0), (.int p1)] below meth c T89 L 1 23 ∧ Fr n0 L := ⟨_, X89, N89⟩
  obtain ⟨cl92, Ar92, Sz92, Nn92, Hs92⟩ := id V89
  have hin92 : ¬ ((22 : Int32) < 0 ∨ cl92.slots.size ≤ ((22 : Int32)).toNatClampNeg) := inb_of Sz92 ⟨by decide, by decide⟩
  obtain ⟨T93, h93, X93, e93, W93, st93⟩ := stI X89 hx hZ e89 Ar92 (j := (22 : Int32)) hin92 (g := (mkF m 133 #[.val (.int p0), .val (.int p1), .unset, .unset] [(.int (2147483647 : Int32)), (.int (22 : Int32)), (.ref b1), (.ref b1)])) rfl rfl (hb hby at_133)
  have V93 : own_AI Z h93 b1 .int (23 : Int32) (own_upd F89 22 (2147483647 : Int32)) := own_AI.set V89 rfl W93
  obtain ⟨F93, V93⟩ : ∃ F, own_AI Z h93 b1 .int (23 : Int32) F := ⟨_, V93⟩
  have K94 : Keep h0 h93 [] := K90.wr W93 (Or.inr sz_b1)
  have Z95 : n0 ≤ h93.size := Nat.le_trans Z0 K94.1
  have N93 := Fr.snoc X93 N89 g_b1
  obtain ⟨LS93, X93, N93⟩ : ∃ L, Stand p l e room_1 s m #[(.int p0), (.int p1)] below meth c T93 L 1 23 ∧ Fr n0 L := ⟨_, X93, N93⟩
  obtain ⟨cl96, Ar96, Sz96, Nn96, Hs96⟩ := id V93
  have hin96 : ¬ (((p1 &&& (2147483647 : Int32)) - ((p1 &&& (2147483647 : Int32)) / (23 : Int32)) * (23 : Int32)) < 0 ∨ cl96.slots.size ≤ (((p1 &&& (2147483647 : Int32)) - ((p1 &&& (2147483647 : Int32)) / (23 : Int32)) * (23 : Int32))).toNatClampNeg) := inb_of Sz96 (own_idx _)
  have hat96 : cl96.slots[(((p1 &&& (2147483647 : Int32)) - ((p1 &&& (2147483647 : Int32)) / (23 : Int32)) * (23 : Int32))).toNatClampNeg]? = some (.int (F93 (((p1 &&& (2147483647 : Int32)) - ((p1 &&& (2147483647 : Int32)) / (23 : Int32)) * (23 : Int32))).toNatClampNeg)) := (Hs96 _ (own_lt hin96)).1
  obtain ⟨w96, hw96⟩ : ∃ z, z = (F93 (((p1 &&& (2147483647 : Int32)) - ((p1 &&& (2147483647 : Int32)) / (23 : Int32)) * (23 : Int32))).toNatClampNeg) := ⟨_, rfl⟩
  rw [← hw96] at hat96
  obtain ⟨_, _, ⟨T97, L97, k97, n97⟩, -, X97, ⟨Lc97, hQ97, l97, y97, z97⟩, st97⟩ := Jvm.LawKit.callS X93 hx (y := (⟨"com/example/cuttlefish/cuttlefish/xml/XmlNames", "isCharacter", "(I)Z"⟩ : MethodName)) hown (mvT hZ (hw _ (List.mem_of_getElem? (i := 13) rfl))) (mvT hZ (hw _ (List.mem_of_getElem? (i := 14) rfl))) (mvT hZ (hw _ (List.mem_of_getElem? (i := 15) rfl))) (mvT hZ (hw _ (List.mem_of_getElem? (i := 16) rfl))) (by decide) (backOf (W := 0) (rm1 l Z a0 hw [] p0 h93 n0 Z95 ) hZ (hw _ (List.mem_of_getElem? (i := 16) rfl)) (hw _ (List.mem_of_getElem? (i := 15) rfl)) (by decide) (by decide)) (g := (mkF m 146 #[.val (.int p0), .val (.int p1), .val (.ref b1), .val (.int w96)] [(.int p0)])) rfl (by rw [hml]; rfl) (argsL := [(.int p0)]) (rest := []) (lenOf pd_0_0 rfl) rfl (by show 2 * 0 + _ ≤ _; exact Nat.le_of_eq rfl) (hb hby at_146) (fun _ _ => ⟨rfl, e93, (by decide : 1 + 0 ≤ _), (by decide : 23 + 0 ≤ _)⟩)
  dsimp only [Pt.U, Pt.locs, Pt.cells, Pt.slots] at X97 l97 y97 z97 st97 hQ97
  subst l97 y97 z97
  obtain ⟨rfl, N97q, e97q⟩ := hQ97
  have N97 := Fr.app N93 N97q
  obtain ⟨_, _, ⟨T98, L98, k98, n98⟩, -, X98, ⟨Lc98, hQ98, l98, y98, z98⟩, st98⟩ := Jvm.LawKit.callS X97 hx (y := (⟨"com/example/cuttlefish/cuttlefish/xml/XmlNamesIsCharacterPinLaw", "expected", "(I)Z"⟩ : MethodName)) hown (mvT hZ (hw _ (List.mem_of_getElem? (i := 19) rfl))) (mvT hZ (hw _ (List.mem_of_getElem? (i := 20) rfl))) (mvT hZ (hw _ (List.mem_of_getElem? (i := 21) rfl))) (mvT hZ (hw _ (List.mem_of_getElem? (i := 22) rfl))) (by decide) (backOf (W := 1) (rm2 l Z a0 hw [] p0 h93 n0 Z95 ) hZ (hw _ (List.mem_of_getElem? (i := 22) rfl)) (hw _ (List.mem_of_getElem? (i := 21) rfl)) (by decide) (by decide)) (g := (mkF m 150 #[.val (.int p0), .val (.int p1), .val (.ref b1), .val (.int w96)] [(.int p0), (.int (f1 p0))])) rfl (by rw [hml]; rfl) (argsL := [(.int p0)]) (rest := [(.int (f1 p0))]) (lenOf pd_0_0 rfl) rfl (by show 2 * 0 + _ ≤ _; exact Nat.le_of_eq rfl) (hb hby at_150) (fun _ _ => ⟨rfl, e97q, (by decide : 1 + 0 ≤ _), (by decide : 23 + 0 ≤ _)⟩)
  dsimp only [Pt.U, Pt.locs, Pt.cells, Pt.slots] at X98 l98 y98 z98 st98 hQ98
  subst l98 y98 z98
  obtain ⟨rfl, N98q, e98q⟩ := hQ98
  have N98 := Fr.app N97 N98q
  have pre99 : ∀ t, Steps p.tables e below (T98.setTop (mkF m 153 #[.val (.int p0), .val (.int p1), .val (.ref b1), .val (.int w96)] [(.int (f2 p0)), (.int (f1 p0))])) t → Steps p.tables e below (s₁.setTop (entryFrame m #[(.int p0), (.int p1)] maxLocals)) t := fun t kt => pre0 t (by
      show Steps p.tables e below (s₁.setTop (mkF m 0 #[.val (.int p0), .val (.int p1), .unset, .unset] [])) _
      refine XS.bipush X0.here hx rfl (hb hby at_0) ?_
      show Steps p.tables e below (s₁.setTop (mkF m 2 #[.val (.int p0), .val (.int p1), .unset, .unset] [(.int (23 : Int32))])) _
      refine st1 _ ?_
      show Steps p.tables e below (T1.setTop (mkF m 4 #[.val (.int p0), .val (.int p1), .unset, .unset] [(.ref b1)])) _
      refine XS.dup X1.here hx rfl (hb hby at_4) rfl rfl ?_
      show Steps p.tables e below (T1.setTop (mkF m 5 #[.val (.int p0), .val (.int p1), .unset, .unset] [(.ref b1), (.ref b1)])) _
      refine XS.iconst X1.here hx rfl (hb hby at_5) ?_
      show Steps p.tables e below (T1.setTop (mkF m 6 #[.val (.int p0), .val (.int p1), .unset, .unset] [(.int (0 : Int32)), (.ref b1), (.ref b1)])) _
      refine X1.ldcInt hx hown (mvT hZ (hw _ (List.mem_of_getElem? (i := 1) rfl))) (g := (mkF m 6 #[.val (.int p0), .val (.int p1), .unset, .unset] [(.int (0 : Int32)), (.ref b1), (.ref b1)])) rfl (hb hby at_6) _ ?_
      show Steps p.tables e below (T1.setTop (mkF m 8 #[.val (.int p0), .val (.int p1), .unset, .unset] [(.int (-2147483648 : Int32)), (.int (0 : Int32)), (.ref b1), (.ref b1)])) _
      refine st5 _ ?_
      show Steps p.tables e below (T5.setTop (mkF m 9 #[.val (.int p0), .val (.int p1), .unset, .unset] [(.ref b1)])) _
      refine XS.dup X5.here hx rfl (hb hby at_9) rfl rfl ?_
      show Steps p.tables e below (T5.setTop (mkF m 10 #[.val (.int p0), .val (.int p1), .unset, .unset] [(.ref b1), (.ref b1)])) _
      refine XS.iconst X5.here hx rfl (hb hby at_10) ?_
      show Steps p.tables e below (T5.setTop (mkF m 11 #[.val (.int p0), .val (.int p1), .unset, .unset] [(.int (1 : Int32)), (.ref b1), (.ref b1)])) _
      refine XS.iconst X5.here hx rfl (hb hby at_11) ?_
      show Steps p.tables e below (T5.setTop (mkF m 12 #[.val (.int p0), .val (.int p1), .unset, .unset] [(.int (-1 : Int32)), (.int (1 : Int32)), (.ref b1), (.ref b1)])) _
      refine st9 _ ?_
      show Steps p.tables e below (T9.setTop (mkF m 13 #[.val (.int p0), .val (.int p1), .unset, .unset] [(.ref b1)])) _
      refine XS.dup X9.here hx rfl (hb hby at_13) rfl rfl ?_
      show Steps p.tables e below (T9.setTop (mkF m 14 #[.val (.int p0), .val (.int p1), .unset, .unset] [(.ref b1), (.ref b1)])) _
      refine XS.iconst X9.here hx rfl (hb hby at_14) ?_
      show Steps p.tables e below (T9.setTop (mkF m 15 #[.val (.int p0), .val (.int p1), .unset, .unset] [(.int (2 : Int32)), (.ref b1), (.ref b1)])) _
      refine XS.iconst X9.here hx rfl (hb hby at_15) ?_
      show Steps p.tables e below (T9.setTop (mkF m 16 #[.val (.int p0), .val (.int p1), .unset, .unset] [(.int (0 : Int32)), (.int (2 : Int32)), (.ref b1), (.ref b1)])) _
      refine st13 _ ?_
      show Steps p.tables e below (T13.setTop (mkF m 17 #[.val (.int p0), .val (.int p1), .unset, .unset] [(.ref b1)])) _
      refine XS.dup X13.here hx rfl (hb hby at_17) rfl rfl ?_
      show Steps p.tables e below (T13.setTop (mkF m 18 #[.val (.int p0), .val (.int p1), .unset, .unset] [(.ref b1), (.ref b1)])) _
      refine XS.iconst X13.here hx rfl (hb hby at_18) ?_
      show Steps p.tables e below (T13.setTop (mkF m 19 #[.val (.int p0), .val (.int p1), .unset, .unset] [(.int (3 : Int32)), (.ref b1), (.ref b1)])) _
      refine XS.bipush X13.here hx rfl (hb hby at_19) ?_
      show Steps p.tables e below (T13.setTop (mkF m 21 #[.val (.int p0), .val (.int p1), .unset, .unset] [(.int (8 : Int32)), (.int (3 : Int32)), (.ref b1), (.ref b1)])) _
      refine st17 _ ?_
      show Steps p.tables e below (T17.setTop (mkF m 22 #[.val (.int p0), .val (.int p1), .unset, .unset] [(.ref b1)])) _
      refine XS.dup X17.here hx rfl (hb hby at_22) rfl rfl ?_
      show Steps p.tables e below (T17.setTop (mkF m 23 #[.val (.int p0), .val (.int p1), .unset, .unset] [(.ref b1), (.ref b1)])) _
      refine XS.iconst X17.here hx rfl (hb hby at_23) ?_
      show Steps p.tables e below (T17.setTop (mkF m 24 #[.val (.int p0), .val (.int p1), .unset, .unset] [(.int (4 : Int32)), (.ref b1), (.ref b1)])) _
      refine XS.bipush X17.here hx rfl (hb hby at_24) ?_
      show Steps p.tables e below (T17.setTop (mkF m 26 #[.val (.int p0), .val (.int p1), .unset, .unset] [(.int (9 : Int32)), (.int (4 : Int32)), (.ref b1), (.ref b1)])) _
      refine st21 _ ?_
      show Steps p.tables e below (T21.setTop (mkF m 27 #[.val (.int p0), .val (.int p1), .unset, .unset] [(.ref b1)])) _
      refine XS.dup X21.here hx rfl (hb hby at_27) rfl rfl ?_
      show Steps p.tables e below (T21.setTop (mkF m 28 #[.val (.int p0), .val (.int p1), .unset, .unset] [(.ref b1), (.ref b1)])) _
      refine XS.iconst X21.here hx rfl (hb hby at_28) ?_
      show Steps p.tables e below (T21.setTop (mkF m 29 #[.val (.int p0), .val (.int p1), .unset, .unset] [(.int (5 : Int32)), (.ref b1), (.ref b1)])) _
      refine XS.bipush X21.here hx rfl (hb hby at_29) ?_
      show Steps p.tables e below (T21.setTop (mkF m 31 #[.val (.int p0), .val (.int p1), .unset, .unset] [(.int (10 : Int32)), (.int (5 : Int32)), (.ref b1), (.ref b1)])) _
      refine st25 _ ?_
      show Steps p.tables e below (T25.setTop (mkF m 32 #[.val (.int p0), .val (.int p1), .unset, .unset] [(.ref b1)])) _
      refine XS.dup X25.here hx rfl (hb hby at_32) rfl rfl ?_
      show Steps p.tables e below (T25.setTop (mkF m 33 #[.val (.int p0), .val (.int p1), .unset, .unset] [(.ref b1), (.ref b1)])) _
      refine XS.bipush X25.here hx rfl (hb hby at_33) ?_
      show Steps p.tables e below (T25.setTop (mkF m 35 #[.val (.int p0), .val (.int p1), .unset, .unset] [(.int (6 : Int32)), (.ref b1), (.ref b1)])) _
      refine XS.bipush X25.here hx rfl (hb hby at_35) ?_
      show Steps p.tables e below (T25.setTop (mkF m 37 #[.val (.int p0), .val (.int p1), .unset, .unset] [(.int (11 : Int32)), (.int (6 : Int32)), (.ref b1), (.ref b1)])) _
      refine st29 _ ?_
      show Steps p.tables e below (T29.setTop (mkF m 38 #[.val (.int p0), .val (.int p1), .unset, .unset] [(.ref b1)])) _
      refine XS.dup X29.here hx rfl (hb hby at_38) rfl rfl ?_
      show Steps p.tables e below (T29.setTop (mkF m 39 #[.val (.int p0), .val (.int p1), .unset, .unset] [(.ref b1), (.ref b1)])) _
      refine XS.bipush X29.here hx rfl (hb hby at_39) ?_
      show Steps p.tables e below (T29.setTop (mkF m 41 #[.val (.int p0), .val (.int p1), .unset, .unset] [(.int (7 : Int32)), (.ref b1), (.ref b1)])) _
      refine XS.bipush X29.here hx rfl (hb hby at_41) ?_
      show Steps p.tables e below (T29.setTop (mkF m 43 #[.val (.int p0), .val (.int p1), .unset, .unset] [(.int (12 : Int32)), (.int (7 : Int32)), (.ref b1), (.ref b1)])) _
      refine st33 _ ?_
      show Steps p.tables e below (T33.setTop (mkF m 44 #[.val (.int p0), .val (.int p1), .unset, .unset] [(.ref b1)])) _
      refine XS.dup X33.here hx rfl (hb hby at_44) rfl rfl ?_
      show Steps p.tables e below (T33.setTop (mkF m 45 #[.val (.int p0), .val (.int p1), .unset, .unset] [(.ref b1), (.ref b1)])) _
      refine XS.bipush X33.here hx rfl (hb hby at_45) ?_
      show Steps p.tables e below (T33.setTop (mkF m 47 #[.val (.int p0), .val (.int p1), .unset, .unset] [(.int (8 : Int32)), (.ref b1), (.ref b1)])) _
      refine XS.bipush X33.here hx rfl (hb hby at_47) ?_
      show Steps p.tables e below (T33.setTop (mkF m 49 #[.val (.int p0), .val (.int p1), .unset, .unset] [(.int (13 : Int32)), (.int (8 : Int32)), (.ref b1), (.ref b1)])) _
      refine st37 _ ?_
      show Steps p.tables e below (T37.setTop (mkF m 50 #[.val (.int p0), .val (.int p1), .unset, .unset] [(.ref b1)])) _
      refine XS.dup X37.here hx rfl (hb hby at_50) rfl rfl ?_
      show Steps p.tables e below (T37.setTop (mkF m 51 #[.val (.int p0), .val (.int p1), .unset, .unset] [(.ref b1), (.ref b1)])) _
      refine XS.bipush X37.here hx rfl (hb hby at_51) ?_
      show Steps p.tables e below (T37.setTop (mkF m 53 #[.val (.int p0), .val (.int p1), .unset, .unset] [(.int (9 : Int32)), (.ref b1), (.ref b1)])) _
      refine XS.bipush X37.here hx rfl (hb hby at_53) ?_
      show Steps p.tables e below (T37.setTop (mkF m 55 #[.val (.int p0), .val (.int p1), .unset, .unset] [(.int (14 : Int32)), (.int (9 : Int32)), (.ref b1), (.ref b1)])) _
      refine st41 _ ?_
      show Steps p.tables e below (T41.setTop (mkF m 56 #[.val (.int p0), .val (.int p1), .unset, .unset] [(.ref b1)])) _
      refine XS.dup X41.here hx rfl (hb hby at_56) rfl rfl ?_
      show Steps p.tables e below (T41.setTop (mkF m 57 #[.val (.int p0), .val (.int p1), .unset, .unset] [(.ref b1), (.ref b1)])) _
      refine XS.bipush X41.here hx rfl (hb hby at_57) ?_
      show Steps p.tables e below (T41.setTop (mkF m 59 #[.val (.int p0), .val (.int p1), .unset, .unset] [(.int (10 : Int32)), (.ref b1), (.ref b1)])) _
      refine XS.bipush X41.here hx rfl (hb hby at_59) ?_
      show Steps p.tables e below (T41.setTop (mkF m 61 #[.val (.int p0), .val (.int p1), .unset, .unset] [(.int (31 : Int32)), (.int (10 : Int32)), (.ref b1), (.ref b1)])) _
      refine st45 _ ?_
      show Steps p.tables e below (T45.setTop (mkF m 62 #[.val (.int p0), .val (.int p1), .unset, .unset] [(.ref b1)])) _
      refine XS.dup X45.here hx rfl (hb hby at_62) rfl rfl ?_
      show Steps p.tables e below (T45.setTop (mkF m 63 #[.val (.int p0), .val (.int p1), .unset, .unset] [(.ref b1), (.ref b1)])) _
      refine XS.bipush X45.here hx rfl (hb hby at_63) ?_
      show Steps p.tables e below (T45.setTop (mkF m 65 #[.val (.int p0), .val (.int p1), .unset, .unset] [(.int (11 : Int32)), (.ref b1), (.ref b1)])) _
      refine XS.bipush X45.here hx rfl (hb hby at_65) ?_
      show Steps p.tables e below (T45.setTop (mkF m 67 #[.val (.int p0), .val (.int p1), .unset, .unset] [(.int (32 : Int32)), (.int (11 : Int32)), (.ref b1), (.ref b1)])) _
      refine st49 _ ?_
      show Steps p.tables e below (T49.setTop (mkF m 68 #[.val (.int p0), .val (.int p1), .unset, .unset] [(.ref b1)])) _
      refine XS.dup X49.here hx rfl (hb hby at_68) rfl rfl ?_
      show Steps p.tables e below (T49.setTop (mkF m 69 #[.val (.int p0), .val (.int p1), .unset, .unset] [(.ref b1), (.ref b1)])) _
      refine XS.bipush X49.here hx rfl (hb hby at_69) ?_
      show Steps p.tables e below (T49.setTop (mkF m 71 #[.val (.int p0), .val (.int p1), .unset, .unset] [(.int (12 : Int32)), (.ref b1), (.ref b1)])) _
      refine X49.ldcInt hx hown (mvT hZ (hw _ (List.mem_of_getElem? (i := 2) rfl))) (g := (mkF m 71 #[.val (.int p0), .val (.int p1), .unset, .unset] [(.int (12 : Int32)), (.ref b1), (.ref b1)])) rfl (hb hby at_71) _ ?_
      show Steps p.tables e below (T49.setTop (mkF m 73 #[.val (.int p0), .val (.int p1), .unset, .unset] [(.int (55295 : Int32)), (.int (12 : Int32)), (.ref b1), (.ref b1)])) _
      refine st53 _ ?_
      show Steps p.tables e below (T53.setTop (mkF m 74 #[.val (.int p0), .val (.int p1), .unset, .unset] [(.ref b1)])) _
      refine XS.dup X53.here hx rfl (hb hby at_74) rfl rfl ?_
      show Steps p.tables e below (T53.setTop (mkF m 75 #[.val (.int p0), .val (.int p1), .unset, .unset] [(.ref b1), (.ref b1)])) _
      refine XS.bipush X53.here hx rfl (hb hby at_75) ?_
      show Steps p.tables e below (T53.setTop (mkF m 77 #[.val (.int p0), .val (.int p1), .unset, .unset] [(.int (13 : Int32)), (.ref b1), (.ref b1)])) _
      refine X53.ldcInt hx hown (mvT hZ (hw _ (List.mem_of_getElem? (i := 3) rfl))) (g := (mkF m 77 #[.val (.int p0), .val (.int p1), .unset, .unset] [(.int (13 : Int32)), (.ref b1), (.ref b1)])) rfl (hb hby at_77) _ ?_
      show Steps p.tables e below (T53.setTop (mkF m 79 #[.val (.int p0), .val (.int p1), .unset, .unset] [(.int (55296 : Int32)), (.int (13 : Int32)), (.ref b1), (.ref b1)])) _
      refine st57 _ ?_
      show Steps p.tables e below (T57.setTop (mkF m 80 #[.val (.int p0), .val (.int p1), .unset, .unset] [(.ref b1)])) _
      refine XS.dup X57.here hx rfl (hb hby at_80) rfl rfl ?_
      show Steps p.tables e below (T57.setTop (mkF m 81 #[.val (.int p0), .val (.int p1), .unset, .unset] [(.ref b1), (.ref b1)])) _
      refine XS.bipush X57.here hx rfl (hb hby at_81) ?_
      show Steps p.tables e below (T57.setTop (mkF m 83 #[.val (.int p0), .val (.int p1), .unset, .unset] [(.int (14 : Int32)), (.ref b1), (.ref b1)])) _
      refine X57.ldcInt hx hown (mvT hZ (hw _ (List.mem_of_getElem? (i := 4) rfl))) (g := (mkF m 83 #[.val (.int p0), .val (.int p1), .unset, .unset] [(.int (14 : Int32)), (.ref b1), (.ref b1)])) rfl (hb hby at_83) _ ?_
      show Steps p.tables e below (T57.setTop (mkF m 85 #[.val (.int p0), .val (.int p1), .unset, .unset] [(.int (57343 : Int32)), (.int (14 : Int32)), (.ref b1), (.ref b1)])) _
      refine st61 _ ?_
      show Steps p.tables e below (T61.setTop (mkF m 86 #[.val (.int p0), .val (.int p1), .unset, .unset] [(.ref b1)])) _
      refine XS.dup X61.here hx rfl (hb hby at_86) rfl rfl ?_
      show Steps p.tables e below (T61.setTop (mkF m 87 #[.val (.int p0), .val (.int p1), .unset, .unset] [(.ref b1), (.ref b1)])) _
      refine XS.bipush X61.here hx rfl (hb hby at_87) ?_
      show Steps p.tables e below (T61.setTop (mkF m 89 #[.val (.int p0), .val (.int p1), .unset, .unset] [(.int (15 : Int32)), (.ref b1), (.ref b1)])) _
      refine X61.ldcInt hx hown (mvT hZ (hw _ (List.mem_of_getElem? (i := 5) rfl))) (g := (mkF m 89 #[.val (.int p0), .val (.int p1), .unset, .unset] [(.int (15 : Int32)), (.ref b1), (.ref b1)])) rfl (hb hby at_89) _ ?_
      show Steps p.tables e below (T61.setTop (mkF m 91 #[.val (.int p0), .val (.int p1), .unset, .unset] [(.int (57344 : Int32)), (.int (15 : Int32)), (.ref b1), (.ref b1)])) _
      refine st65 _ ?_
      show Steps p.tables e below (T65.setTop (mkF m 92 #[.val (.int p0), .val (.int p1), .unset, .unset] [(.ref b1)])) _
      refine XS.dup X65.here hx rfl (hb hby at_92) rfl rfl ?_
      show Steps p.tables e below (T65.setTop (mkF m 93 #[.val (.int p0), .val (.int p1), .unset, .unset] [(.ref b1), (.ref b1)])) _
      refine XS.bipush X65.here hx rfl (hb hby at_93) ?_
      show Steps p.tables e below (T65.setTop (mkF m 95 #[.val (.int p0), .val (.int p1), .unset, .unset] [(.int (16 : Int32)), (.ref b1), (.ref b1)])) _
      refine X65.ldcInt hx hown (mvT hZ (hw _ (List.mem_of_getElem? (i := 6) rfl))) (g := (mkF m 95 #[.val (.int p0), .val (.int p1), .unset, .unset] [(.int (16 : Int32)), (.ref b1), (.ref b1)])) rfl (hb hby at_95) _ ?_
      show Steps p.tables e below (T65.setTop (mkF m 97 #[.val (.int p0), .val (.int p1), .unset, .unset] [(.int (65533 : Int32)), (.int (16 : Int32)), (.ref b1), (.ref b1)])) _
      refine st69 _ ?_
      show Steps p.tables e below (T69.setTop (mkF m 98 #[.val (.int p0), .val (.int p1), .unset, .unset] [(.ref b1)])) _
      refine XS.dup X69.here hx rfl (hb hby at_98) rfl rfl ?_
      show Steps p.tables e below (T69.setTop (mkF m 99 #[.val (.int p0), .val (.int p1), .unset, .unset] [(.ref b1), (.ref b1)])) _
      refine XS.bipush X69.here hx rfl (hb hby at_99) ?_
      show Steps p.tables e below (T69.setTop (mkF m 101 #[.val (.int p0), .val (.int p1), .unset, .unset] [(.int (17 : Int32)), (.ref b1), (.ref b1)])) _
      refine X69.ldcInt hx hown (mvT hZ (hw _ (List.mem_of_getElem? (i := 7) rfl))) (g := (mkF m 101 #[.val (.int p0), .val (.int p1), .unset, .unset] [(.int (17 : Int32)), (.ref b1), (.ref b1)])) rfl (hb hby at_101) _ ?_
      show Steps p.tables e below (T69.setTop (mkF m 103 #[.val (.int p0), .val (.int p1), .unset, .unset] [(.int (65534 : Int32)), (.int (17 : Int32)), (.ref b1), (.ref b1)])) _
      refine st73 _ ?_
      show Steps p.tables e below (T73.setTop (mkF m 104 #[.val (.int p0), .val (.int p1), .unset, .unset] [(.ref b1)])) _
      refine XS.dup X73.here hx rfl (hb hby at_104) rfl rfl ?_
      show Steps p.tables e below (T73.setTop (mkF m 105 #[.val (.int p0), .val (.int p1), .unset, .unset] [(.ref b1), (.ref b1)])) _
      refine XS.bipush X73.here hx rfl (hb hby at_105) ?_
      show Steps p.tables e below (T73.setTop (mkF m 107 #[.val (.int p0), .val (.int p1), .unset, .unset] [(.int (18 : Int32)), (.ref b1), (.ref b1)])) _
      refine X73.ldcInt hx hown (mvT hZ (hw _ (List.mem_of_getElem? (i := 8) rfl))) (g := (mkF m 107 #[.val (.int p0), .val (.int p1), .unset, .unset] [(.int (18 : Int32)), (.ref b1), (.ref b1)])) rfl (hb hby at_107) _ ?_
      show Steps p.tables e below (T73.setTop (mkF m 109 #[.val (.int p0), .val (.int p1), .unset, .unset] [(.int (65535 : Int32)), (.int (18 : Int32)), (.ref b1), (.ref b1)])) _
      refine st77 _ ?_
      show Steps p.tables e below (T77.setTop (mkF m 110 #[.val (.int p0), .val (.int p1), .unset, .unset] [(.ref b1)])) _
      refine XS.dup X77.here hx rfl (hb hby at_110) rfl rfl ?_
      show Steps p.tables e below (T77.setTop (mkF m 111 #[.val (.int p0), .val (.int p1), .unset, .unset] [(.ref b1), (.ref b1)])) _
      refine XS.bipush X77.here hx rfl (hb hby at_111) ?_
      show Steps p.tables e below (T77.setTop (mkF m 113 #[.val (.int p0), .val (.int p1), .unset, .unset] [(.int (19 : Int32)), (.ref b1), (.ref b1)])) _
      refine X77.ldcInt hx hown (mvT hZ (hw _ (List.mem_of_getElem? (i := 9) rfl))) (g := (mkF m 113 #[.val (.int p0), .val (.int p1), .unset, .unset] [(.int (19 : Int32)), (.ref b1), (.ref b1)])) rfl (hb hby at_113) _ ?_
      show Steps p.tables e below (T77.setTop (mkF m 115 #[.val (.int p0), .val (.int p1), .unset, .unset] [(.int (65536 : Int32)), (.int (19 : Int32)), (.ref b1), (.ref b1)])) _
      refine st81 _ ?_
      show Steps p.tables e below (T81.setTop (mkF m 116 #[.val (.int p0), .val (.int p1), .unset, .unset] [(.ref b1)])) _
      refine XS.dup X81.here hx rfl (hb hby at_116) rfl rfl ?_
      show Steps p.tables e below (T81.setTop (mkF m 117 #[.val (.int p0), .val (.int p1), .unset, .unset] [(.ref b1), (.ref b1)])) _
      refine XS.bipush X81.here hx rfl (hb hby at_117) ?_
      show Steps p.tables e below (T81.setTop (mkF m 119 #[.val (.int p0), .val (.int p1), .unset, .unset] [(.int (20 : Int32)), (.ref b1), (.ref b1)])) _
      refine X81.ldcInt hx hown (mvT hZ (hw _ (List.mem_of_getElem? (i := 10) rfl))) (g := (mkF m 119 #[.val (.int p0), .val (.int p1), .unset, .unset] [(.int (20 : Int32)), (.ref b1), (.ref b1)])) rfl (hb hby at_119) _ ?_
      show Steps p.tables e below (T81.setTop (mkF m 121 #[.val (.int p0), .val (.int p1), .unset, .unset] [(.int (1114111 : Int32)), (.int (20 : Int32)), (.ref b1), (.ref b1)])) _
      refine st85 _ ?_
      show Steps p.tables e below (T85.setTop (mkF m 122 #[.val (.int p0), .val (.int p1), .unset, .unset] [(.ref b1)])) _
      refine XS.dup X85.here hx rfl (hb hby at_122) rfl rfl ?_
      show Steps p.tables e below (T85.setTop (mkF m 123 #[.val (.int p0), .val (.int p1), .unset, .unset] [(.ref b1), (.ref b1)])) _
      refine XS.bipush X85.here hx rfl (hb hby at_123) ?_
      show Steps p.tables e below (T85.setTop (mkF m 125 #[.val (.int p0), .val (.int p1), .unset, .unset] [(.int (21 : Int32)), (.ref b1), (.ref b1)])) _
      refine X85.ldcInt hx hown (mvT hZ (hw _ (List.mem_of_getElem? (i := 11) rfl))) (g := (mkF m 125 #[.val (.int p0), .val (.int p1), .unset, .unset] [(.int (21 : Int32)), (.ref b1), (.ref b1)])) rfl (hb hby at_125) _ ?_
      show Steps p.tables e below (T85.setTop (mkF m 127 #[.val (.int p0), .val (.int p1), .unset, .unset] [(.int (1114112 : Int32)), (.int (21 : Int32)), (.ref b1), (.ref b1)])) _
      refine st89 _ ?_
      show Steps p.tables e below (T89.setTop (mkF m 128 #[.val (.int p0), .val (.int p1), .unset, .unset] [(.ref b1)])) _
      refine XS.dup X89.here hx rfl (hb hby at_128) rfl rfl ?_
      show Steps p.tables e below (T89.setTop (mkF m 129 #[.val (.int p0), .val (.int p1), .unset, .unset] [(.ref b1), (.ref b1)])) _
      refine XS.bipush X89.here hx rfl (hb hby at_129) ?_
      show Steps p.tables e below (T89.setTop (mkF m 131 #[.val (.int p0), .val (.int p1), .unset, .unset] [(.int (22 : Int32)), (.ref b1), (.ref b1)])) _
      refine X89.ldcInt hx hown (mvT hZ (hw _ (List.mem_of_getElem? (i := 12) rfl))) (g := (mkF m 131 #[.val (.int p0), .val (.int p1), .unset, .unset] [(.int (22 : Int32)), (.ref b1), (.ref b1)])) rfl (hb hby at_131) _ ?_
      show Steps p.tables e below (T89.setTop (mkF m 133 #[.val (.int p0), .val (.int p1), .unset, .unset] [(.int (2147483647 : Int32)), (.int (22 : Int32)), (.ref b1), (.ref b1)])) _
      refine st93 _ ?_
      show Steps p.tables e below (T93.setTop (mkF m 134 #[.val (.int p0), .val (.int p1), .unset, .unset] [(.ref b1)])) _
      refine XS.astoreN X93.here hx rfl (hb hby at_134) rfl rfl (l' := #[.val (.int p0), .val (.int p1), .val (.ref b1), .unset]) rfl ?_
      show Steps p.tables e below (T93.setTop (mkF m 135 #[.val (.int p0), .val (.int p1), .val (.ref b1), .unset] [])) _
      refine XS.aloadN X93.here hx rfl (hb hby at_135) rfl rfl ?_
      show Steps p.tables e below (T93.setTop (mkF m 136 #[.val (.int p0), .val (.int p1), .val (.ref b1), .unset] [(.ref b1)])) _
      refine XS.iloadN X93.here hx rfl (hb hby at_136) rfl ?_
      show Steps p.tables e below (T93.setTop (mkF m 137 #[.val (.int p0), .val (.int p1), .val (.ref b1), .unset] [(.int p1), (.ref b1)])) _
      refine X93.ldcInt hx hown (mvT hZ (hw _ (List.mem_of_getElem? (i := 12) rfl))) (g := (mkF m 137 #[.val (.int p0), .val (.int p1), .val (.ref b1), .unset] [(.int p1), (.ref b1)])) rfl (hb hby at_137) _ ?_
      show Steps p.tables e below (T93.setTop (mkF m 139 #[.val (.int p0), .val (.int p1), .val (.ref b1), .unset] [(.int (2147483647 : Int32)), (.int p1), (.ref b1)])) _
      refine XS.iand X93.here hx rfl (hb hby at_139) rfl ?_
      show Steps p.tables e below (T93.setTop (mkF m 140 #[.val (.int p0), .val (.int p1), .val (.ref b1), .unset] [(.int (p1 &&& (2147483647 : Int32))), (.ref b1)])) _
      refine XS.bipush X93.here hx rfl (hb hby at_140) ?_
      show Steps p.tables e below (T93.setTop (mkF m 142 #[.val (.int p0), .val (.int p1), .val (.ref b1), .unset] [(.int (23 : Int32)), (.int (p1 &&& (2147483647 : Int32))), (.ref b1)])) _
      refine XS.irem X93.here hx rfl (hb hby at_142) rfl (by decide) ?_
      show Steps p.tables e below (T93.setTop (mkF m 143 #[.val (.int p0), .val (.int p1), .val (.ref b1), .unset] [(.int ((p1 &&& (2147483647 : Int32)) - ((p1 &&& (2147483647 : Int32)) / (23 : Int32)) * (23 : Int32))), (.ref b1)])) _
      refine X93.iaload hx (j := ((p1 &&& (2147483647 : Int32)) - ((p1 &&& (2147483647 : Int32)) / (23 : Int32)) * (23 : Int32))) (v := (.int w96)) (by rw [e93]; exact Ar96.1) (State.isArrayOf_alike hZ.alike Ar96.2.1) Ar96.2.2 hin96 hat96 (g := (mkF m 143 #[.val (.int p0), .val (.int p1), .val (.ref b1), .unset] [(.int ((p1 &&& (2147483647 : Int32)) - ((p1 &&& (2147483647 : Int32)) / (23 : Int32)) * (23 : Int32))), (.ref b1)])) rfl rfl (hb hby at_143) _ ?_
      show Steps p.tables e below (T93.setTop (mkF m 144 #[.val (.int p0), .val (.int p1), .val (.ref b1), .unset] [(.int w96)])) _
      refine XS.istoreN X93.here hx rfl (hb hby at_144) rfl (l' := #[.val (.int p0), .val (.int p1), .val (.ref b1), .val (.int w96)]) rfl ?_
      show Steps p.tables e below (T93.setTop (mkF m 145 #[.val (.int p0), .val (.int p1), .val (.ref b1), .val (.int w96)] [])) _
      refine XS.iloadN X93.here hx rfl (hb hby at_145) rfl ?_
      show Steps p.tables e below (T93.setTop (mkF m 146 #[.val (.int p0), .val (.int p1), .val (.ref b1), .val (.int w96)] [(.int p0)])) _
      refine st97 _ ?_
      show Steps p.tables e below (T97.setTop (mkF m 149 #[.val (.int p0), .val (.int p1), .val (.ref b1), .val (.int w96)] [(.int (f1 p0))])) _
      refine XS.iloadN X97.here hx rfl (hb hby at_149) rfl ?_
      show Steps p.tables e below (T97.setTop (mkF m 150 #[.val (.int p0), .val (.int p1), .val (.ref b1), .val (.int w96)] [(.int p0), (.int (f1 p0))])) _
      refine st98 _ ?_
      exact kt)
  have hd153_100 : (f1 p0) = (f2 p0) := own_same _
  obtain ⟨_, _, ⟨T101, L101, k101, n101⟩, -, X101, ⟨Lc101, hQ101, l101, y101, z101⟩, st101⟩ := Jvm.LawKit.callS X98 hx (y := (⟨"com/example/cuttlefish/cuttlefish/xml/XmlNames", "isCharacter", "(I)Z"⟩ : MethodName)) hown (mvT hZ (hw _ (List.mem_of_getElem? (i := 13) rfl))) (mvT hZ (hw _ (List.mem_of_getElem? (i := 14) rfl))) (mvT hZ (hw _ (List.mem_of_getElem? (i := 15) rfl))) (mvT hZ (hw _ (List.mem_of_getElem? (i := 16) rfl))) (by decide) (backOf (W := 0) (rm1 l Z a0 hw [] w96 h93 n0 Z95 ) hZ (hw _ (List.mem_of_getElem? (i := 16) rfl)) (hw _ (List.mem_of_getElem? (i := 15) rfl)) (by decide) (by decide)) (g := (mkF m 157 #[.val (.int p0), .val (.int p1), .val (.ref b1), .val (.int w96)] [(.int w96)])) rfl (by rw [hml]; rfl) (argsL := [(.int w96)]) (rest := []) (lenOf pd_0_0 rfl) rfl (by show 2 * 0 + _ ≤ _; exact Nat.le_of_eq rfl) (hb hby at_157) (fun _ _ => ⟨rfl, e98q, (by decide : 1 + 0 ≤ _), (by decide : 23 + 0 ≤ _)⟩)
  dsimp only [Pt.U, Pt.locs, Pt.cells, Pt.slots] at X101 l101 y101 z101 st101 hQ101
  subst l101 y101 z101
  obtain ⟨rfl, N101q, e101q⟩ := hQ101
  have N101 := Fr.app N98 N101q
  obtain ⟨_, _, ⟨T102, L102, k102, n102⟩, -, X102, ⟨Lc102, hQ102, l102, y102, z102⟩, st102⟩ := Jvm.LawKit.callS X101 hx (y := (⟨"com/example/cuttlefish/cuttlefish/xml/XmlNamesIsCharacterPinLaw", "expected", "(I)Z"⟩ : MethodName)) hown (mvT hZ (hw _ (List.mem_of_getElem? (i := 19) rfl))) (mvT hZ (hw _ (List.mem_of_getElem? (i := 20) rfl))) (mvT hZ (hw _ (List.mem_of_getElem? (i := 21) rfl))) (mvT hZ (hw _ (List.mem_of_getElem? (i := 22) rfl))) (by decide) (backOf (W := 1) (rm2 l Z a0 hw [] w96 h93 n0 Z95 ) hZ (hw _ (List.mem_of_getElem? (i := 22) rfl)) (hw _ (List.mem_of_getElem? (i := 21) rfl)) (by decide) (by decide)) (g := (mkF m 161 #[.val (.int p0), .val (.int p1), .val (.ref b1), .val (.int w96)] [(.int w96), (.int (f1 w96))])) rfl (by rw [hml]; rfl) (argsL := [(.int w96)]) (rest := [(.int (f1 w96))]) (lenOf pd_0_0 rfl) rfl (by show 2 * 0 + _ ≤ _; exact Nat.le_of_eq rfl) (hb hby at_161) (fun _ _ => ⟨rfl, e101q, (by decide : 1 + 0 ≤ _), (by decide : 23 + 0 ≤ _)⟩)
  dsimp only [Pt.U, Pt.locs, Pt.cells, Pt.slots] at X102 l102 y102 z102 st102 hQ102
  subst l102 y102 z102
  obtain ⟨rfl, N102q, e102q⟩ := hQ102
  have N102 := Fr.app N101 N102q
  have pre103 : ∀ t, Steps p.tables e below (T102.setTop (mkF m 164 #[.val (.int p0), .val (.int p1), .val (.ref b1), .val (.int w96)] [(.int (f2 w96)), (.int (f1 w96))])) t → Steps p.tables e below (s₁.setTop (entryFrame m #[(.int p0), (.int p1)] maxLocals)) t := fun t kt => pre99 t (by
      show Steps p.tables e below (T98.setTop (mkF m 153 #[.val (.int p0), .val (.int p1), .val (.ref b1), .val (.int w96)] [(.int (f2 p0)), (.int (f1 p0))])) _
      refine XS.icmpNo X98.here hx rfl (hb hby at_153) rfl (teq hd153_100).2 ?_
      show Steps p.tables e below (T98.setTop (mkF m 156 #[.val (.int p0), .val (.int p1), .val (.ref b1), .val (.int w96)] [])) _
      refine XS.iloadN X98.here hx rfl (hb hby at_156) rfl ?_
      show Steps p.tables e below (T98.setTop (mkF m 157 #[.val (.int p0), .val (.int p1), .val (.ref b1), .val (.int w96)] [(.int w96)])) _
      refine st101 _ ?_
      show Steps p.tables e below (T101.setTop (mkF m 160 #[.val (.int p0), .val (.int p1), .val (.ref b1), .val (.int w96)] [(.int (f1 w96))])) _
      refine XS.iloadN X101.here hx rfl (hb hby at_160) rfl ?_
      show Steps p.tables e below (T101.setTop (mkF m 161 #[.val (.int p0), .val (.int p1), .val (.ref b1), .val (.int w96)] [(.int w96), (.int (f1 w96))])) _
      refine st102 _ ?_
      exact kt)
  have hd164_104 : (f1 w96) = (f2 w96) := own_same _
  obtain ⟨fs, hr, hrun, hended, hW, hsame⟩ := X102.leave (v := some (.int (1 : Int32))) (fun h => by rw [Bd.returns] at h; cases h)
  have hv105 : (1 : Int32) = (1 : Int32) := rfl
  refine ⟨_, _, pre103 _ ?_, hrun, hended, _, _, rfl, ?_, ⟨_, rfl⟩, hW, hsame.mono (by decide) (by decide)⟩
  · show Steps p.tables e below (T102.setTop (mkF m 164 #[.val (.int p0), .val (.int p1), .val (.ref b1), .val (.int w96)] [(.int (f2 w96)), (.int (f1 w96))])) _
    refine XS.icmpNo X102.here hx rfl (hb hby at_164) rfl (teq hd164_104).2 ?_
    show Steps p.tables e below (T102.setTop (mkF m 167 #[.val (.int p0), .val (.int p1), .val (.ref b1), .val (.int w96)] [])) _
    refine XS.iconst X102.here hx rfl (hb hby at_167) ?_
    show Steps p.tables e below (T102.setTop (mkF m 168 #[.val (.int p0), .val (.int p1), .val (.ref b1), .val (.int w96)] [(.int (1 : Int32))])) _
    refine XS.goto X102.here hx rfl (pc0 := 168) (pc' := 172) rfl (hb hby at_168) (by decide) (by decide) ?_
    show Steps p.tables e below (T102.setTop (mkF m 172 #[.val (.int p0), .val (.int p1), .val (.ref b1), .val (.int w96)] [(.int (1 : Int32))])) _
    exact retN X102 hx (t := .boolean) Bd.returns (by simp) (hb hby at_172) hr
  · show Q0 Z p0 p1 h0 n0 _ T102.heap _
    rw [e102q]
    exact ⟨congrArg (fun q => some (Value.int q)) hv105, N102⟩
set_option maxRecDepth 65536 in
set_option maxHeartbeats 40000000 in
theorem comes_1 {Post : Tables → Env → Array Value → State → Outcome → State → Prop} (hpost : ∀ tb e args s v u, (limb_1_1.after args s (.returned v) u = true ∧ limb_1_2.after args s (.returned v) u = true ∧ True) → FrameEnd s (.returned v) u (Jvm.fieldLocs frame_1_writes args s ++ Jvm.arrayLocs frame_1_arrays args s ++ Jvm.staticLocs frame_1_statics s) 16 128 → Post tb e args s (.returned v) u) :
    ArmFor flags0 classFile x code maxLocals ret World_1 tables_1 room_1 Calls_1 rest_1 Pre_1 Post := by
  intro l hfl _ _ p e ha hc hk s m args below hf hA hF happ hP
  obtain ⟨hcalls, hrest, hpre⟩ := hP
  obtain ⟨-, -, -, hnamed, -, -, -, hat⟩ := (Spec.applies_iff hf).mp happ
  obtain ⟨hg, hn⟩ := and_e (Cond.before_iff.mp (show (Jvm.Cond.and given_1 narrow_1).before args s = true from hpre))
  obtain ⟨g1, g2⟩ := and_e hg
  obtain ⟨g3, g4⟩ := and_e g2
  obtain ⟨w0, w1, rfl⟩ : ∃ w0 w1 : Value, args = #[w0, w1] := by
    have hs : args.size = 2 := by simpa [Cond.value, given_1] using g1
    obtain ⟨L⟩ := args
    match L, hs with
    | [w0, w1], _ => exact ⟨w0, w1, rfl⟩
  have hw := fun d (hd : d ∈ tables_1) => atoms_spec (ws := Jvm.Cond.code x code maxLocals ret :: tables_1) hat d (List.mem_cons_of_mem _ hd)
  have hfit : Fit s := fun {y c} hc i hi => by
    obtain ⟨ha, rfl⟩ := Array.getElem?_eq_some_iff.mp hc
    have q := List.all_eq_true.mp ((Array.all_eq_true_iff_forall_mem.mp hF) _ (Array.getElem_mem ha)) i (List.mem_range.mpr hi)
    simpa [Array.getElem?_eq_getElem hi] using q
  obtain ⟨i0, ei0⟩ := is_v g3
  obtain rfl : w0 = (.int i0) := Option.some.inj ei0
  obtain ⟨i1, ei1⟩ := is_v g4
  obtain rfl : w1 = (.int i1) := Option.some.inj ei1
  obtain ⟨n, o, h1, h2, h3, _, L, rfl, ⟨hv0, N⟩, hq⟩ := rm0 l s _ hw tables_1 i0 i1 s.heap s.heap.size (Nat.le_refl _) p e ha hc hk s m _ below hf ((Spec.applies_iff_loose hf).mp happ).1 ⟨rfl, State.Warmed39.refl s, rfl⟩ trivial
  subst hv0
  refine ⟨n, _, h1, h2, h3, hpost _ _ _ _ _ _ ⟨Cond.after_iff.mpr rfl, Cond.after_iff.mpr (eq_i res_at (Term.int_eval (1)) rfl), trivial⟩ ⟨hq.1, hq.2.1, (hq.2.2.sift fun y hy => Or.inr (N y hy)).mono (by decide) (by decide)⟩⟩
theorem main_1_1 : Claimed_1_1 := comes_1 fun _ _ _ _ _ _ h hF => ⟨h.1, hF⟩
theorem main_1_2 : Claimed_1_2 := comes_1 fun _ _ _ _ _ _ h hF => ⟨h.2.1, hF⟩
end Jvm.Pilot.@@N@@
namespace Jvm.Pilot.@@N@@
open Jvm Jvm.ClassFile Sem Op Lib Jvm.Free Jvm.Stand Jvm.Pilot.@@N@@.Jvm.D
/-! MADE BY PROGRAM (witnessworld.py) out of the Statement's table words and the real class files: 9 classes; the members and pool entries that the words name. The judged class is class 1, her method 1. -/
namespace start1
open Jvm.ClassFile
def u (s : String) : CpInfo := .utf8 (stringToUtf16 s)
/-- a pool by its gaps: so many unusable entries, then the entry; so many at the end -/
def gap : Nat → List CpInfo → List CpInfo
  | 0, r => r
  | n + 1, r => .unusable :: gap n r
def poolList (es : List (Nat × CpInfo)) (last : Nat) : List CpInfo := es.foldr (fun e r => gap e.1 (e.2 :: r)) (gap last [])
def pool (es : List (Nat × CpInfo)) (last : Nat) : Array CpInfo := ⟨poolList es last⟩
def fileOf (pool : Array CpInfo) (this : Nat) (attrs : Array Attribute := #[]) (ms : Array MethodInfo := #[]) (fl : Nat := 33) (sup : Nat := 0) (ifs : Array Nat := #[]) (fds : Array FieldInfo := #[]) : ClassFile where
  minorVersion := 0
  majorVersion := 65
  constantPool := pool
  accessFlags := fl
  thisClass := this
  superClass := sup
  interfaces := ifs
  fields := fds
  methods := ms
  attributes := attrs
def plain (name : String) (sup : Option ClassId) : Class where
  name := name
  kind := .ordinary
  loader := none
  accessFlags := 33
  super := sup
  interfaces := #[]
  cf := none
  fields := #[]
  methods := #[]
  instanceTypes := #[]
  staticTypes := #[]
  resolved := #[]
  callSites := []
  init := .initialized
  statics := none
  mirror := none

def pool0 : Array CpInfo := pool [(5, u "<init>"), (0, u "()V"), (1, .class_ 10), (1, u "java/lang/Object")] 113

def k0m0 : Method := { name := "<init>", desc := "()V", sig := { parameters := [], returnType := none }, accessFlags := 1, code := none }
/-- java/lang/Object -/
def k0 : Class := { plain "java/lang/Object" none with
  accessFlags := 33
  interfaces := #[]
  cf := some (fileOf pool0 8 #[] #[{ accessFlags := 1, nameIndex := 5, descriptorIndex := 6, attributes := #[] }] 33 0 #[] #[])
  fields := #[]
  methods := #[k0m0]
  instanceTypes := #[]
  staticTypes := #[]
  resolved := Array.replicate 124 none
  statics := none }

def pool1 : Array CpInfo := pool [(2, .class_ 4), (1, u "java/lang/Object"), (0, u "<init>"), (0, u "()V"), (0, .integer 2147483648), (0, .integer 55295), (0, .integer 55296), (0, .integer 57343), (0, .integer 57344), (0, .integer 65533), (0, .integer 65534), (0, .integer 65535), (0, .integer 65536), (0, .integer 1114111), (0, .integer 1114112), (0, .integer 2147483647), (0, .methodref 20 21), (0, .class_ 22), (0, .nameAndType 23 24), (0, u "com/example/cuttlefish/cuttlefish/xml/XmlNames"), (0, u "isCharacter"), (0, u "(I)Z"), (0, .methodref 26 27), (0, .class_ 28), (0, .nameAndType 29 24), (0, u "com/example/cuttlefish/cuttlefish/xml/XmlNamesIsCharacterPinLaw"), (0, u "expected"), (2, u "law"), (0, u "(II)Z")] 5

def k1m0 : Method := { name := "<init>", desc := "()V", sig := { parameters := [], returnType := none }, accessFlags := 1, code := none }
def k1c1 : Code := { maxStack := 4, maxLocals := 4, code := code, exceptionTable := #[], attributes := #[] }
def k1m1 : Method := { name := "law", desc := "(II)Z", sig := { parameters := [.int, .int], returnType := some .boolean }, accessFlags := 9, code := some k1c1 }
def k1c2 : Code := { maxStack := 2, maxLocals := 1, code := method_3_code, exceptionTable := #[], attributes := #[] }
def k1m2 : Method := { name := "expected", desc := "(I)Z", sig := { parameters := [.int], returnType := some .boolean }, accessFlags := 10, code := some k1c2 }
/-- com/example/cuttlefish/cuttlefish/xml/XmlNamesIsCharacterPinLaw -/
def k1 : Class := { plain "com/example/cuttlefish/cuttlefish/xml/XmlNamesIsCharacterPinLaw" (some 0) with
  accessFlags := 49
  interfaces := #[]
  cf := some (fileOf pool1 26 #[] #[{ accessFlags := 1, nameIndex := 5, descriptorIndex := 6, attributes := #[] }, { accessFlags := 9, nameIndex := 32, descriptorIndex := 33, attributes := #[] }, { accessFlags := 10, nameIndex := 29, descriptorIndex := 24, attributes := #[] }] 49 2 #[] #[])
  fields := #[]
  methods := #[k1m0, k1m1, k1m2]
  instanceTypes := #[]
  staticTypes := #[]
  resolved := Array.replicate 39 none
  statics := none }

def pool2 : Array CpInfo := pool [(2, .class_ 4), (1, u "java/lang/Object"), (0, u "<init>"), (0, u "()V"), (0, .integer 55295), (0, .integer 57344), (0, .integer 65533), (0, .integer 65536), (0, .integer 1114111), (17, .class_ 31), (1, u "com/example/cuttlefish/cuttlefish/xml/XmlNames"), (0, u "NAME_START"), (0, u "[Z"), (6, u "NAME"), (3, u "(I)Z"), (24, u "CANNOT_HOLD"), (0, u "Ljava/lang/String;"), (5, u "isCharacter")] 30

def k2m0 : Method := { name := "<init>", desc := "()V", sig := { parameters := [], returnType := none }, accessFlags := 2, code := none }
def k2c1 : Code := { maxStack := 2, maxLocals := 1, code := prog_87_method_2_code, exceptionTable := #[], attributes := #[] }
def k2m1 : Method := { name := "isCharacter", desc := "(I)Z", sig := { parameters := [.int], returnType := some .boolean }, accessFlags := 9, code := some k2c1 }
/-- com/example/cuttlefish/cuttlefish/xml/XmlNames -/
def k2 : Class := { plain "com/example/cuttlefish/cuttlefish/xml/XmlNames" (some 0) with
  accessFlags := 49
  interfaces := #[]
  cf := some (fileOf pool2 29 #[] #[{ accessFlags := 2, nameIndex := 5, descriptorIndex := 6, attributes := #[] }, { accessFlags := 9, nameIndex := 76, descriptorIndex := 44, attributes := #[] }] 49 2 #[] #[{ accessFlags := 26, nameIndex := 32, descriptorIndex := 33, attributes := #[] }, { accessFlags := 26, nameIndex := 40, descriptorIndex := 33, attributes := #[] }, { accessFlags := 25, nameIndex := 69, descriptorIndex := 70, attributes := #[] }])
  fields := #[{ name := "NAME_START", type := (.array .boolean), accessFlags := 26, slot := 0, constantValue := 0 }, { name := "NAME", type := (.array .boolean), accessFlags := 26, slot := 1, constantValue := 0 }, { name := "CANNOT_HOLD", type := (.object "java/lang/String"), accessFlags := 25, slot := 2, constantValue := 0 }]
  methods := #[k2m0, k2m1]
  instanceTypes := #[]
  staticTypes := #[(.array .boolean), (.array .boolean), (.object "java/lang/String")]
  resolved := Array.replicate 107 none
  statics := none }

def pool3 : Array CpInfo := pool [(1, u "java/lang/Cloneable"), (0, .class_ 1), (0, u "java/lang/Object"), (0, .class_ 3)] 3

/-- java/lang/Cloneable -/
def k3 : Class := { plain "java/lang/Cloneable" (some 0) with
  accessFlags := 1537
  interfaces := #[]
  cf := some (fileOf pool3 2 #[] #[] 1537 4 #[] #[])
  fields := #[]
  methods := #[]
  instanceTypes := #[]
  staticTypes := #[]
  resolved := Array.replicate 8 none
  statics := none }

def pool4 : Array CpInfo := pool [(1, u "java/io/Serializable"), (0, .class_ 1), (0, u "java/lang/Object"), (0, .class_ 3)] 3

/-- java/io/Serializable -/
def k4 : Class := { plain "java/io/Serializable" (some 0) with
  accessFlags := 1537
  interfaces := #[]
  cf := some (fileOf pool4 2 #[] #[] 1537 4 #[] #[])
  fields := #[]
  methods := #[]
  instanceTypes := #[]
  staticTypes := #[]
  resolved := Array.replicate 8 none
  statics := none }

/-- the primitive byte -/
def k5 : Class := { plain "byte" none with kind := .primitive 'B', accessFlags := 0x411 }
/-- [B -/
def k6 : Class := { plain "[B" (some 0) with kind := .array 5 .byte, interfaces := #[3, 4], accessFlags := 1041 }

/-- the primitive int -/
def k7 : Class := { plain "int" none with kind := .primitive 'I', accessFlags := 0x411 }
/-- [I -/
def k8 : Class := { plain "[I" (some 0) with kind := .array 7 .int, interfaces := #[3, 4], accessFlags := 1041 }

def heap : Heap := #[]
def classes : Array Class := #[k0, k1, k2, k3, k4, k5, k6, k7, k8]
def interned : List (Array UInt16 × Addr) := []
def slotsUsed : Nat := 0
def theMethod : MethodId := ⟨1, 1⟩
def args0 : Array Value := #[.int 5, .int 9]
def aboutOver (below : List Frame) : State where
  vm := { classes := classes, interned := interned.toArray }
  heap := heap
  slotsUsed := slotsUsed
  threads := #[{ frames := .invoking theMethod args0 :: below }]
def below0 : List Frame := [.native { method := ⟨0, 0⟩, args := #[] }]
def about1 : State := aboutOver below0
def p0 : Program := .bare "" "" ""
def e0 : Env := launch0.env 0 0 0
theorem w_frames : about1.frames = Frame.invoking theMethod args0 :: below0 := rfl
set_option maxRecDepth 65536 in
theorem w_args : argsFit about1.vm theMethod args0 = true := by decide +kernel
set_option maxRecDepth 65536 in
theorem w_heap : heapFits about1 = true := by decide +kernel
set_option maxRecDepth 65536 in
theorem w_runnable : about1.curStatus? = some .runnable := by decide +kernel
set_option maxRecDepth 65536 in
theorem w_alone : about1.alone = true := by decide +kernel
set_option maxRecDepth 65536 in
theorem w_named : about1.methodNamed? x = some theMethod := by decide +kernel
set_option maxRecDepth 65536 in
theorem w_hears : about1.hears theMethod below0 = true := by decide +kernel
set_option maxRecDepth 65536 in
theorem w_ripe : about1.ripe theMethod args0 below0 = true := by decide +kernel
theorem w_running : about1.status = .running := rfl
set_option maxRecDepth 65536 in
theorem w_room : about1.hasRoom e0.platform room_1 = true :=
  launch0.hasRoom_least _ room_1 (by decide +kernel) (by decide +kernel) (by decide +kernel) (by decide +kernel) (by decide +kernel) (by decide +kernel)
theorem allAtoms_all (ts : List Jvm.Cond) (a : Array Jvm.Value) (st : Jvm.State) : (allAtoms ts).before a st = ts.all (fun c => c.before a st) := by
  induction ts with
  | nil => rfl
  | cons c t ih =>
    show (Jvm.Cond.and c (allAtoms t)).before a st = _
    rw [Jvm.Cond.before_and, ih, List.all_cons]
def words1 : List Jvm.Cond := Jvm.Cond.code x code maxLocals ret :: tables_1
/-- a 'code' word, met by the world's own term for the bytes: nothing is compared byte by byte -/
theorem code_word {y : MethodName} {bytes : ByteArray} {mx : Nat} {rt : Option FieldType} {a : Array Value} {s : State} {m : MethodId} {meth : Method} {c : Code} (h1 : s.methodNamed? y = some m) (h2 : s.vm.method? m = some meth) (h3 : meth.code = some c) (h4 : c.code = bytes)
    (h5 : (c.maxLocals == mx && c.exceptionTable.isEmpty && decide (c.maxStack ≤ mostOperands) && decide (meth.sig.returnType = rt) && !meth.locks && decide (parseMethodDescriptor y.desc = some meth.sig)) = true) : (Jvm.Cond.code y bytes mx rt).before a s = true := by
  simp only [Bool.and_eq_true, beq_iff_eq, Bool.not_eq_true', decide_eq_true_eq] at h5
  obtain ⟨⟨⟨⟨⟨g1, g2⟩, g3⟩, g4⟩, g5⟩, g6⟩ := h5
  simp [Cond.before, Cond.holds, Cond.value, h1, h2, h3, h4, g1, g2, g3, g4, g5, g6]
def isCode : Jvm.Cond → Bool
  | .code _ _ _ _ => true
  | _ => false
theorem all_split {L : List Jvm.Cond} {P : Jvm.Cond → Bool} (h1 : L.all (fun c => isCode c || P c) = true) (h2 : ∀ c ∈ L.filter isCode, P c = true) : L.all P = true := by
  refine List.all_eq_true.mpr fun c hc => ?_
  have h := List.all_eq_true.mp h1 c hc
  rcases Bool.eq_false_or_eq_true (isCode c) with hi | hi
  · exact h2 c (List.mem_filter.mpr ⟨hc, hi⟩)
  · simpa [hi] using h
set_option maxRecDepth 65536 in
theorem w_c0 : (Jvm.Cond.code x code maxLocals ret).before args0 about1 = true := code_word (m := ⟨1, 1⟩) (meth := k1m1) (c := k1c1) (by decide +kernel) rfl rfl rfl (by decide +kernel)
set_option maxRecDepth 65536 in
theorem w_c1 : (Jvm.Cond.code ({ cls := "com/example/cuttlefish/cuttlefish/xml/XmlNames", name := "isCharacter", desc := "(I)Z" } : Jvm.MethodName) prog_87_method_2_code (1 : Nat) (Option.some Jvm.ClassFile.FieldType.boolean)).before args0 about1 = true := code_word (m := ⟨2, 1⟩) (meth := k2m1) (c := k2c1) (by decide +kernel) rfl rfl rfl (by decide +kernel)
set_option maxRecDepth 65536 in
theorem w_c2 : (Jvm.Cond.code ({ cls := "com/example/cuttlefish/cuttlefish/xml/XmlNamesIsCharacterPinLaw", name := "expected", desc := "(I)Z" } : Jvm.MethodName) method_3_code (1 : Nat) (Option.some Jvm.ClassFile.FieldType.boolean)).before args0 about1 = true := code_word (m := ⟨1, 2⟩) (meth := k1m2) (c := k1c2) (by decide +kernel) rfl rfl rfl (by decide +kernel)
def codes1 : List Jvm.Cond := [Jvm.Cond.code x code maxLocals ret, Jvm.Cond.code ({ cls := "com/example/cuttlefish/cuttlefish/xml/XmlNames", name := "isCharacter", desc := "(I)Z" } : Jvm.MethodName) prog_87_method_2_code (1 : Nat) (Option.some Jvm.ClassFile.FieldType.boolean), Jvm.Cond.code ({ cls := "com/example/cuttlefish/cuttlefish/xml/XmlNamesIsCharacterPinLaw", name := "expected", desc := "(I)Z" } : Jvm.MethodName) method_3_code (1 : Nat) (Option.some Jvm.ClassFile.FieldType.boolean)]
set_option maxRecDepth 65536 in
theorem codes_eq : words1.filter isCode = codes1 := rfl
theorem w_codes : ∀ c ∈ words1.filter isCode, c.before args0 about1 = true := by
  rw [codes_eq]
  intro c hc
  simp only [codes1, List.mem_cons, List.not_mem_nil, or_false] at hc
  rcases hc with rfl | rfl | rfl
  · exact w_c0
  · exact w_c1
  · exact w_c2
set_option maxRecDepth 65536 in
theorem w_t1 : (words1.take 24).all (fun c => isCode c || c.before args0 about1) = true := by decide +kernel
set_option maxRecDepth 65536 in
theorem w_t2 : (words1.drop 24).all (fun c => isCode c || c.before args0 about1) = true := by decide +kernel
theorem w_tables : (allAtoms (Jvm.Cond.code x code maxLocals ret :: tables_1)).before args0 about1 = true := by
  rw [allAtoms_all]
  show words1.all (fun c => c.before args0 about1) = true
  refine all_split ?_ w_codes
  rw [← List.take_append_drop 24 words1, List.all_append, w_t1, w_t2]
  rfl
set_option maxRecDepth 65536 in
theorem w_case : (Jvm.Cond.and given_1 narrow_1).before args0 about1 = true := by decide +kernel
theorem w_applies : (headSpec (Jvm.Cond.code x code maxLocals ret :: tables_1) room_1).applies x e0.platform about1 = true :=
  (Spec.applies_iff w_frames).mpr ⟨w_running, w_runnable, w_alone, w_named, w_hears, w_ripe, w_room, w_tables⟩
theorem atStart : AtStart classFile x code maxLocals ret World_1 tables_1 room_1 Calls_1 rest_1 Pre_1 launch0 p0 e0 about1 theMethod args0 below0 :=
  ⟨lists_1, trivial, launch0.admits_env _ _ _, launch0.least_env, fairChoices_fair.cas, fairChoices_fair.clock, w_frames, w_args, w_heap, w_applies, trivial, trivial, w_case⟩
end start1
theorem witness_1 : WitnessClaimed_1 := ⟨start1.p0, start1.e0, start1.about1, start1.theMethod, start1.args0, start1.below0, start1.atStart⟩
end Jvm.Pilot.@@N@@
