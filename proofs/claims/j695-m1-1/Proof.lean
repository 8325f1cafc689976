import JvmDerived
import JvmDerived.Pilot.@@N@@Statement
import JvmDerived.Pilot.@@N@@Code
set_option linter.unusedVariables false
set_option linter.unusedSimpArgs false
namespace Jvm.RoadKit
open Sem ClassFile Op Lib Jvm.Stand Jvm.Free Jvm.LawKit
section New
variable {p : Program} {l : Launch} {e : Env} {R : Room} {s : State} {m : MethodId} {args : Array Value} {below : List Frame} {meth : Method} {c : Code} {T : State} {locs : List Loc} {cells slots : Nat}
theorem retI (X : Stand p l e R s m args below meth c T locs cells slots) (hx : p.tables.exec = Jvm.exec) {pc : Nat} {Ls : Array Slot} {z : Int32} {rest : List Value} (hret : meth.sig.returnType = some .int) (hd : decode c.code pc = .ok (.ireturn, 1)) {fs : List Frame}
    (hl : ∀ (f : JFrame) (acts : List Action), f.method = m → f.locked = none → f.entered = [] → (doReturn e (T.setTop f) acts (some (.int z))).1 = T.setFrames fs) : Steps p.tables e below (T.setTop (mkF m pc Ls (.int z :: rest))) (T.setFrames fs) := by
  have hm' : T.vm.method? m = some meth := X.method'
  have hn : narrow .int (.int z) = .int z := rfl
  show Steps p.tables e below (T.setTop { method := m, pc := pc, locals := Ls, stack := _ :: rest, locked := none }) _
  jvm_step X.here [X.here.top, hx, hd, hm', hret, hn]
  first | (intro acts; rw [hl _ acts rfl rfl rfl]) | rw [hl _ _ rfl rfl rfl]
  exact Steps.refl _
end New
end Jvm.RoadKit
namespace Jvm.Pilot.@@N@@
open Jvm Jvm.ClassFile Sem Op Lib Jvm.Free Jvm.Stand Jvm.LawKit Jvm.RoadKit Bundle Jvm.Pilot.@@N@@.Jvm.D
section OwnArrays
variable {Z : State} {h h' : Heap} {a b : Addr} {ty : FieldType} {n j : Int32} {F : Nat → Int32} {G : Nat → Int64} {sl : Nat} {v : Value} {ws : List Addr} {k : ClassId} {x : Int32} {y : Int64}
/-- an array of ints (chars, bytes, booleans ..): its length and its components -/
def own_AI (Z : State) (h : Heap) (a : Addr) (ty : FieldType) (n : Int32) (F : Nat → Int32) : Prop := ∃ c : Cell, Arr Z h a c ty ∧ c.slots.size = n.toNatClampNeg ∧ ¬ n < 0 ∧ ∀ i, i < c.slots.size → c.slots[i]? = some (.int (F i)) ∧ fits ty (.int (F i)) = true
/-- an array of longs -/
def own_AJ (Z : State) (h : Heap) (a : Addr) (ty : FieldType) (n : Int32) (F : Nat → Int64) : Prop := ∃ c : Cell, Arr Z h a c ty ∧ c.slots.size = n.toNatClampNeg ∧ ¬ n < 0 ∧ ∀ i, i < c.slots.size → c.slots[i]? = some (.long (F i))
/-- an array of which the length alone is told -/
def own_AL (Z : State) (h : Heap) (a : Addr) (ty : FieldType) (n : Int32) : Prop := ∃ c : Cell, Arr Z h a c ty ∧ c.slots.size = n.toNatClampNeg ∧ ¬ n < 0 ∧ True
def own_upd {α : Type} (F : Nat → α) (i : Nat) (v : α) : Nat → α := fun q => if q = i then v else F q
theorem own_upd_at {α : Type} (F : Nat → α) (i : Nat) (v : α) (q : Nat) : own_upd F i v q = if q = i then v else F q := rfl
theorem own_lt {c : Cell} (q : ¬ (j < 0 ∨ c.slots.size ≤ j.toNatClampNeg)) : j.toNatClampNeg < c.slots.size := Nat.lt_of_not_le fun z => q (Or.inr z)
theorem own_AI.lt (H : own_AI Z h a ty n F) : a < h.size := by obtain ⟨c, A, -⟩ := H; exact A.lt
theorem own_AI.ext (H : own_AI Z h a ty n F) (E : Ext h h') : own_AI Z h' a ty n F := by obtain ⟨c, A, r⟩ := H; exact ⟨c, A.ext E, r⟩
theorem own_AI.other (H : own_AI Z h b ty n F) (W : Wr h h' a sl v) (q : b ≠ a) : own_AI Z h' b ty n F := by obtain ⟨c, A, r⟩ := H; exact ⟨c, A.other W q, r⟩
theorem own_AI.keep (H : own_AI Z h a ty n F) (K : Keep h h' ws) (q : a ∉ ws) : own_AI Z h' a ty n F := by obtain ⟨c, A, r⟩ := H; exact ⟨c, ⟨K.2.1 a c A.1 q, A.2⟩, r⟩
theorem own_AI.new (A : Arr Z h a (newA k ty n) ty) (q : ¬ n < 0) (hd : defaultValue ty = .int 0) : own_AI Z h a ty n (fun _ => 0) :=
  ⟨_, A, sz_new _ _ _, q, fun i hi => by
    rw [sz_new] at hi
    refine ⟨by simp [newA, hi, hd], ?_⟩
    rw [← hd]; cases ty <;> rfl⟩
theorem own_AI.set (H : own_AI Z h a ty n F) (hv : fits ty (.int x) = true) (W : Wr h h' a j.toNatClampNeg (.int x)) : own_AI Z h' a ty n (own_upd F j.toNatClampNeg x) := by
  obtain ⟨c, A, S, q, H⟩ := H
  refine ⟨_, A.same W, by simpa [Cell.setSlot] using S, q, fun i hi => ?_⟩
  have hi' : i < c.slots.size := by simpa [Cell.setSlot] using hi
  by_cases u : i = j.toNatClampNeg
  · rw [own_upd_at, if_pos u]; subst u; exact ⟨by simp [Cell.setSlot, hi'], hv⟩
  · rw [own_upd_at, if_neg u]
    refine ⟨?_, (H i hi').2⟩
    have := (H i hi').1
    simp only [Cell.setSlot] at this ⊢
    rw [Array.getElem?_setIfInBounds_ne (Ne.symm u)]; exact this
theorem own_AJ.lt (H : own_AJ Z h a ty n G) : a < h.size := by obtain ⟨c, A, -⟩ := H; exact A.lt
theorem own_AJ.ext (H : own_AJ Z h a ty n G) (E : Ext h h') : own_AJ Z h' a ty n G := by obtain ⟨c, A, r⟩ := H; exact ⟨c, A.ext E, r⟩
theorem own_AJ.other (H : own_AJ Z h b ty n G) (W : Wr h h' a sl v) (q : b ≠ a) : own_AJ Z h' b ty n G := by obtain ⟨c, A, r⟩ := H; exact ⟨c, A.other W q, r⟩
theorem own_AJ.keep (H : own_AJ Z h a ty n G) (K : Keep h h' ws) (q : a ∉ ws) : own_AJ Z h' a ty n G := by obtain ⟨c, A, r⟩ := H; exact ⟨c, ⟨K.2.1 a c A.1 q, A.2⟩, r⟩
theorem own_AJ.new (A : Arr Z h a (newA k .long n) .long) (q : ¬ n < 0) : own_AJ Z h a .long n (fun _ => 0) :=
  ⟨_, A, sz_new _ _ _, q, fun i hi => by rw [sz_new] at hi; simp [newA, hi, defaultValue]⟩
theorem own_AJ.set (H : own_AJ Z h a ty n G) (W : Wr h h' a j.toNatClampNeg (.long y)) : own_AJ Z h' a ty n (own_upd G j.toNatClampNeg y) := by
  obtain ⟨c, A, S, q, H⟩ := H
  refine ⟨_, A.same W, by simpa [Cell.setSlot] using S, q, fun i hi => ?_⟩
  have hi' : i < c.slots.size := by simpa [Cell.setSlot] using hi
  by_cases u : i = j.toNatClampNeg
  · rw [own_upd_at, if_pos u]; subst u; simp [Cell.setSlot, hi']
  · rw [own_upd_at, if_neg u]
    have := H i hi'
    simp only [Cell.setSlot] at this ⊢
    rw [Array.getElem?_setIfInBounds_ne (Ne.symm u)]; exact this
theorem own_AL.lt (H : own_AL Z h a ty n) : a < h.size := by obtain ⟨c, A, -⟩ := H; exact A.lt
theorem own_AL.ext (H : own_AL Z h a ty n) (E : Ext h h') : own_AL Z h' a ty n := by obtain ⟨c, A, r⟩ := H; exact ⟨c, A.ext E, r⟩
theorem own_AL.other (H : own_AL Z h b ty n) (W : Wr h h' a sl v) (q : b ≠ a) : own_AL Z h' b ty n := by obtain ⟨c, A, r⟩ := H; exact ⟨c, A.other W q, r⟩
theorem own_AL.keep (H : own_AL Z h a ty n) (K : Keep h h' ws) (q : a ∉ ws) : own_AL Z h' a ty n := by obtain ⟨c, A, r⟩ := H; exact ⟨c, ⟨K.2.1 a c A.1 q, A.2⟩, r⟩
theorem own_AL.new (A : Arr Z h a (newA k ty n) ty) (q : ¬ n < 0) : own_AL Z h a ty n := ⟨_, A, sz_new _ _ _, q, trivial⟩
theorem own_AL.set (H : own_AL Z h a ty n) (W : Wr h h' a sl v) : own_AL Z h' a ty n := by
  obtain ⟨c, A, S, q, -⟩ := H
  exact ⟨_, A.same W, by simpa [Cell.setSlot] using S, q, trivial⟩
/-- an array of doubles -/
def own_AD (Z : State) (h : Heap) (a : Addr) (ty : FieldType) (n : Int32) (F : Nat → UInt64) : Prop := ∃ c : Cell, Arr Z h a c ty ∧ c.slots.size = n.toNatClampNeg ∧ ¬ n < 0 ∧ ∀ i, i < c.slots.size → c.slots[i]? = some (.double (F i))
theorem own_AD.lt {G : Nat → UInt64} (H : own_AD Z h a ty n G) : a < h.size := by obtain ⟨c, A, -⟩ := H; exact A.lt
theorem own_AD.ext {G : Nat → UInt64} (H : own_AD Z h a ty n G) (E : Ext h h') : own_AD Z h' a ty n G := by obtain ⟨c, A, r⟩ := H; exact ⟨c, A.ext E, r⟩
theorem own_AD.other {G : Nat → UInt64} (H : own_AD Z h b ty n G) (W : Wr h h' a sl v) (q : b ≠ a) : own_AD Z h' b ty n G := by obtain ⟨c, A, r⟩ := H; exact ⟨c, A.other W q, r⟩
theorem own_AD.keep {G : Nat → UInt64} (H : own_AD Z h a ty n G) (K : Keep h h' ws) (q : a ∉ ws) : own_AD Z h' a ty n G := by obtain ⟨c, A, r⟩ := H; exact ⟨c, ⟨K.2.1 a c A.1 q, A.2⟩, r⟩
theorem own_AD.new (A : Arr Z h a (newA k .double n) .double) (q : ¬ n < 0) : own_AD Z h a .double n (fun _ => 0) :=
  ⟨_, A, sz_new _ _ _, q, fun i hi => by rw [sz_new] at hi; simp [newA, hi, defaultValue]⟩
theorem own_AD.set {G : Nat → UInt64} {y : UInt64} (H : own_AD Z h a ty n G) (W : Wr h h' a j.toNatClampNeg (.double y)) : own_AD Z h' a ty n (own_upd G j.toNatClampNeg y) := by
  obtain ⟨c, A, S, q, H⟩ := H
  refine ⟨_, A.same W, by simpa [Cell.setSlot] using S, q, fun i hi => ?_⟩
  have hi' : i < c.slots.size := by simpa [Cell.setSlot] using hi
  by_cases u : i = j.toNatClampNeg
  · rw [own_upd_at, if_pos u]; subst u; simp [Cell.setSlot, hi']
  · rw [own_upd_at, if_neg u]
    have := H i hi'
    simp only [Cell.setSlot] at this ⊢
    rw [Array.getElem?_setIfInBounds_ne (Ne.symm u)]; exact this
end OwnArrays
theorem own_retD {p : Program} {l : Launch} {e : Env} {R : Room} {s : State} {m : MethodId} {args : Array Value} {below : List Frame} {meth : Method} {c : Code} {T : State} {locs : List Loc} {cells slots : Nat} (X : Stand p l e R s m args below meth c T locs cells slots) (hx : p.tables.exec = Jvm.exec) {pc : Nat} {Ls : Array Slot} {z : UInt64} {rest : List Value} (hret : meth.sig.returnType = some .double) (hd : decode c.code pc = .ok (.dreturn, 1)) {fs : List Frame}
    (hl : ∀ (f : JFrame) (acts : List Action), f.method = m → f.locked = none → f.entered = [] → (doReturn e (T.setTop f) acts (some (.double z))).1 = T.setFrames fs) : Steps p.tables e below (T.setTop (mkF m pc Ls (.double z :: rest))) (T.setFrames fs) := by
  have hm' : T.vm.method? m = some meth := X.method'
  have hn : narrow .double (.double z) = .double z := rfl
  show Steps p.tables e below (T.setTop { method := m, pc := pc, locals := Ls, stack := _ :: rest, locked := none }) _
  jvm_step X.here [X.here.top, hx, hd, hm', hret, hn]
  first | (intro acts; rw [hl _ acts rfl rfl rfl]) | rw [hl _ _ rfl rfl rfl]
  exact Steps.refl _
theorem d2_0 : decode jdk_30_method_1_code 0 = .ok (.aload_n 0, 1) := by decide +kernel
theorem d2_1 : decode jdk_30_method_1_code 1 = .ok (.invokespecial 1, 3) := by decide +kernel
theorem d2_4 : decode jdk_30_method_1_code 4 = .ok (.return_, 1) := by decide +kernel
theorem pn_2 : plainName "java/lang/Record" = true := by first | (simp [plainName, overriddenIn]; done) | decide +kernel
theorem ef_2 (m : MethodId) (x0 : Addr) : entryFrame m #[(.ref x0)] 1 = mkF m 0 #[.val (.ref x0)] [] := by first | (simp [entryFrame, mkF, argsToLocals, Value.category]; done) | rfl
def Q2 (Z : State) (o0 : Addr) (h0 : Heap) (n0 : Nat) (v : Option Value) (h : Heap) (L : List Loc) : Prop := v = none ∧ Fr n0 L ∧ h = h0
set_option maxRecDepth 65536 in
set_option maxHeartbeats 40000000 in
theorem rm2 (l : Launch) (Z : State) (a0 : Array Value) (hw : ∀ d ∈ tables_1, d.before a0 Z = true) (ws : List Jvm.Cond) (o0 : Addr) (h0 : Heap) (n0 : Nat) (Z0 : n0 ≤ h0.size) :
    MetFree l (⟨"java/lang/Record", "<init>", "()V"⟩ : MethodName) (head1 (Jvm.Cond.code (⟨"java/lang/Record", "<init>", "()V"⟩ : MethodName) jdk_30_method_1_code 1 none :: ws) ({ frames := 1, cells := 0, slots := 0, locals := 12 } : Room)) (fun a U => a = #[(.ref o0)] ∧ Z.Warmed39 U.vm ∧ U.heap = h0) (fun _ _ _ _ _ => True) (fun _ U o U' => ∃ v L, o = .returned v ∧ Q2 Z o0 h0 n0 v U'.heap L ∧ FrameEnd U o U' L ({ frames := 1, cells := 0, slots := 0, locals := 12 } : Room).cells ({ frames := 1, cells := 0, slots := 0, locals := 12 } : Room).slots) := by
  refine MetFree.of_bodySF (plainFor_of_name pn_2) hisR ?_
  intro p e s m args below meth c s₁ Bd hml0 hP hK
  obtain ⟨rfl, hZ, hh⟩ := hP
  have hx := Bd.exec
  have hby := Bd.bytes
  have hml : c.maxLocals = 1 := hml0
  have hown : s.vm.findClass "java/lang/Record" = some m.cls := findClass_of_methodNamed Bd.named
  have hnm := (name_of_methodNamed Bd.named Bd.method).1
  have X0 : Stand p l e ({ frames := 1, cells := 0, slots := 0, locals := 12 } : Room) s m #[(.ref o0)] below meth c s₁ [] 0 0 := Stand.of_body Bd
  have e0 : s₁.heap = h0 := by rw [← hh, Bd.state]; rfl
  have N0 := Fr.nil n0
  have pre0 : ∀ t, Steps p.tables e below (s₁.setTop (mkF m 0 #[.val (.ref o0)] [])) t → Steps p.tables e below (s₁.setTop (entryFrame m #[(.ref o0)] 1)) t := fun t k => castTop (ef_2 m o0) k
  obtain ⟨T1, X1, e1, st1⟩ := initO X0 hx hZ hown (hw _ (List.mem_of_getElem? (i := 12) rfl)) (hw _ (List.mem_of_getElem? (i := 13) rfl)) (hw _ (List.mem_of_getElem? (i := 14) rfl)) e0 (g := (mkF m 1 #[.val (.ref o0)] [(.ref o0)])) rfl (by rw [hml]; rfl) rfl (hb hby d2_1) (by decide) (W := 0) (by show 2 * 0 + _ ≤ _; exact Nat.le_of_eq rfl) (by decide)
  obtain ⟨fs, hr, hrun, hended, hW, hsame⟩ := X1.leave (v := none) (fun _ => rfl)
  refine ⟨_, _, pre0 _ ?_, hrun, hended, _, _, rfl, ?_, ⟨_, rfl⟩, hW, hsame.mono (by decide) (by decide)⟩
  · show Steps p.tables e below (s₁.setTop (mkF m 0 #[.val (.ref o0)] [])) _
    refine XS.aloadN X0.here hx rfl (hb hby d2_0) rfl rfl ?_
    show Steps p.tables e below (s₁.setTop (mkF m 1 #[.val (.ref o0)] [(.ref o0)])) _
    refine st1 _ ?_
    show Steps p.tables e below (T1.setTop (mkF m 4 #[.val (.ref o0)] [])) _
    exact X1.returnOut hx Bd.returns (hb hby d2_4) hr
  · show Q2 Z o0 h0 n0 _ T1.heap _
    rw [e1]
    exact ⟨rfl, N0, rfl⟩
theorem d1_0 : decode prog_44_method_1_code 0 = .ok (.aload_n 0, 1) := by decide +kernel
theorem d1_1 : decode prog_44_method_1_code 1 = .ok (.invokespecial 1, 3) := by decide +kernel
theorem d1_4 : decode prog_44_method_1_code 4 = .ok (.iconst 3, 1) := by decide +kernel
theorem d1_5 : decode prog_44_method_1_code 5 = .ok (.newarray .double, 2) := by decide +kernel
theorem d1_7 : decode prog_44_method_1_code 7 = .ok (.dup, 1) := by decide +kernel
theorem d1_8 : decode prog_44_method_1_code 8 = .ok (.iconst 0, 1) := by decide +kernel
theorem d1_9 : decode prog_44_method_1_code 9 = .ok (.dload_n 1, 1) := by decide +kernel
theorem d1_10 : decode prog_44_method_1_code 10 = .ok (.dastore, 1) := by decide +kernel
theorem d1_11 : decode prog_44_method_1_code 11 = .ok (.dup, 1) := by decide +kernel
theorem d1_12 : decode prog_44_method_1_code 12 = .ok (.iconst 1, 1) := by decide +kernel
theorem d1_13 : decode prog_44_method_1_code 13 = .ok (.dload_n 3, 1) := by decide +kernel
theorem d1_14 : decode prog_44_method_1_code 14 = .ok (.dastore, 1) := by decide +kernel
theorem d1_15 : decode prog_44_method_1_code 15 = .ok (.dup, 1) := by decide +kernel
theorem d1_16 : decode prog_44_method_1_code 16 = .ok (.iconst 2, 1) := by decide +kernel
theorem d1_17 : decode prog_44_method_1_code 17 = .ok (.dload 5, 2) := by decide +kernel
theorem d1_19 : decode prog_44_method_1_code 19 = .ok (.dastore, 1) := by decide +kernel
theorem d1_20 : decode prog_44_method_1_code 20 = .ok (.astore 7, 2) := by decide +kernel
theorem d1_22 : decode prog_44_method_1_code 22 = .ok (.aload 7, 2) := by decide +kernel
theorem d1_24 : decode prog_44_method_1_code 24 = .ok (.arraylength, 1) := by decide +kernel
theorem d1_25 : decode prog_44_method_1_code 25 = .ok (.istore 8, 2) := by decide +kernel
theorem d1_27 : decode prog_44_method_1_code 27 = .ok (.iconst 0, 1) := by decide +kernel
theorem d1_28 : decode prog_44_method_1_code 28 = .ok (.istore 9, 2) := by decide +kernel
theorem d1_30 : decode prog_44_method_1_code 30 = .ok (.iload 9, 2) := by decide +kernel
theorem d1_32 : decode prog_44_method_1_code 32 = .ok (.iload 8, 2) := by decide +kernel
theorem d1_34 : decode prog_44_method_1_code 34 = .ok (.if_icmp .ge 47, 3) := by decide +kernel
theorem d1_37 : decode prog_44_method_1_code 37 = .ok (.aload 7, 2) := by decide +kernel
theorem d1_39 : decode prog_44_method_1_code 39 = .ok (.iload 9, 2) := by decide +kernel
theorem d1_41 : decode prog_44_method_1_code 41 = .ok (.daload, 1) := by decide +kernel
theorem d1_42 : decode prog_44_method_1_code 42 = .ok (.dstore 10, 2) := by decide +kernel
theorem d1_44 : decode prog_44_method_1_code 44 = .ok (.dload 10, 2) := by decide +kernel
theorem d1_46 : decode prog_44_method_1_code 46 = .ok (.dconst 0, 1) := by decide +kernel
theorem d1_47 : decode prog_44_method_1_code 47 = .ok (.dcmp .l, 1) := by decide +kernel
theorem d1_48 : decode prog_44_method_1_code 48 = .ok (.ifCond .lt 12, 3) := by decide +kernel
theorem d1_51 : decode prog_44_method_1_code 51 = .ok (.dload 10, 2) := by decide +kernel
theorem d1_53 : decode prog_44_method_1_code 53 = .ok (.ldc2_w 9, 3) := by decide +kernel
theorem d1_56 : decode prog_44_method_1_code 56 = .ok (.dcmp .g, 1) := by decide +kernel
theorem d1_57 : decode prog_44_method_1_code 57 = .ok (.ifCond .lt 18, 3) := by decide +kernel
theorem d1_75 : decode prog_44_method_1_code 75 = .ok (.iinc 9 1, 3) := by decide +kernel
theorem d1_78 : decode prog_44_method_1_code 78 = .ok (.goto (-48), 3) := by decide +kernel
theorem d1_81 : decode prog_44_method_1_code 81 = .ok (.aload_n 0, 1) := by decide +kernel
theorem d1_82 : decode prog_44_method_1_code 82 = .ok (.dload_n 1, 1) := by decide +kernel
theorem d1_83 : decode prog_44_method_1_code 83 = .ok (.putfield 20, 3) := by decide +kernel
theorem d1_86 : decode prog_44_method_1_code 86 = .ok (.aload_n 0, 1) := by decide +kernel
theorem d1_87 : decode prog_44_method_1_code 87 = .ok (.dload_n 3, 1) := by decide +kernel
theorem d1_88 : decode prog_44_method_1_code 88 = .ok (.putfield 26, 3) := by decide +kernel
theorem d1_91 : decode prog_44_method_1_code 91 = .ok (.aload_n 0, 1) := by decide +kernel
theorem d1_92 : decode prog_44_method_1_code 92 = .ok (.dload 5, 2) := by decide +kernel
theorem d1_94 : decode prog_44_method_1_code 94 = .ok (.putfield 29, 3) := by decide +kernel
theorem d1_97 : decode prog_44_method_1_code 97 = .ok (.return_, 1) := by decide +kernel
theorem pn_1 : plainName "com/example/cabweave/cabweave/Weights" = true := by first | (simp [plainName, overriddenIn]; done) | decide +kernel
theorem pd_1_0 : parseMethodDescriptor "()V" = some ⟨[], none⟩ := by decide +kernel
theorem ef_1 (m : MethodId) (x0 : Addr) (x1 : UInt64) (x2 : UInt64) (x3 : UInt64) : entryFrame m #[(.ref x0), (.double x1), (.double x2), (.double x3)] 12 = mkF m 0 #[.val (.ref x0), .val (.double x1), .second, .val (.double x2), .second, .val (.double x3), .second, .unset, .unset, .unset, .unset, .unset] [] := by first | (simp [entryFrame, mkF, argsToLocals, Value.category]; done) | rfl
def Q1 (Z : State) (o0 : Addr) (d1 : UInt64) (d2 : UInt64) (d3 : UInt64) (w37 : UInt64) (w42 : UInt64) (w47 : UInt64) (h0 : Heap) (n0 : Nat) (v : Option Value) (h : Heap) (L : List Loc) : Prop := v = none ∧ Fr n0 L ∧ Keep h0 h [o0] ∧ Fld Z h o0 "com/example/cabweave/cabweave/Weights" "driving" "D" (.double d1) ∧ Fld Z h o0 "com/example/cabweave/cabweave/Weights" "extraRide" "D" (.double d2) ∧ Fld Z h o0 "com/example/cabweave/cabweave/Weights" "waiting" "D" (.double d3)
set_option maxRecDepth 65536 in
set_option maxHeartbeats 40000000 in
theorem rm1 (l : Launch) (Z : State) (a0 : Array Value) (hw : ∀ d ∈ tables_1, d.before a0 Z = true) (ws : List Jvm.Cond) (o0 : Addr) (d1 : UInt64) (d2 : UInt64) (d3 : UInt64) (w37 : UInt64) (w42 : UInt64) (w47 : UInt64) (h0 : Heap) (n0 : Nat) (Z0 : n0 ≤ h0.size) (E_o0 : Exa Z h0 o0 "com/example/cabweave/cabweave/Weights") (g_o0 : n0 ≤ o0) (hz_d1 : ¬ (cmpValue (FP.dcmp d1 FP.dconst0) .l) < (0 : Int32)) (hz_d2 : ¬ (cmpValue (FP.dcmp d2 FP.dconst0) .l) < (0 : Int32)) (hz_d3 : ¬ (cmpValue (FP.dcmp d3 FP.dconst0) .l) < (0 : Int32)) (hi_d1 : (cmpValue (FP.dcmp d1 (9218868437227405312 : UInt64)) .g) < (0 : Int32)) (hi_d2 : (cmpValue (FP.dcmp d2 (9218868437227405312 : UInt64)) .g) < (0 : Int32)) (hi_d3 : (cmpValue (FP.dcmp d3 (9218868437227405312 : UInt64)) .g) < (0 : Int32)) (F_driving_o0 : Fld Z h0 o0 "com/example/cabweave/cabweave/Weights" "driving" "D" (.double w37)) (F_extraRide_o0 : Fld Z h0 o0 "com/example/cabweave/cabweave/Weights" "extraRide" "D" (.double w42)) (F_waiting_o0 : Fld Z h0 o0 "com/example/cabweave/cabweave/Weights" "waiting" "D" (.double w47)) :
    MetFree l (⟨"com/example/cabweave/cabweave/Weights", "<init>", "(DDD)V"⟩ : MethodName) (head1 (Jvm.Cond.code (⟨"com/example/cabweave/cabweave/Weights", "<init>", "(DDD)V"⟩ : MethodName) prog_44_method_1_code 12 none :: ws) ({ frames := 2, cells := 1, slots := 3, locals := 24 } : Room)) (fun a U => a = #[(.ref o0), (.double d1), (.double d2), (.double d3)] ∧ Z.Warmed39 U.vm ∧ U.heap = h0) (fun _ _ _ _ _ => True) (fun _ U o U' => ∃ v L, o = .returned v ∧ Q1 Z o0 d1 d2 d3 w37 w42 w47 h0 n0 v U'.heap L ∧ FrameEnd U o U' L ({ frames := 2, cells := 1, slots := 3, locals := 24 } : Room).cells ({ frames := 2, cells := 1, slots := 3, locals := 24 } : Room).slots) := by
  refine MetFree.of_bodySF (plainFor_of_name pn_1) hisR ?_
  intro p e s m args below meth c s₁ Bd hml0 hP hK
  obtain ⟨rfl, hZ, hh⟩ := hP
  have hx := Bd.exec
  have hby := Bd.bytes
  have hml : c.maxLocals = 12 := hml0
  have hown : s.vm.findClass "com/example/cabweave/cabweave/Weights" = some m.cls := findClass_of_methodNamed Bd.named
  have hnm := (name_of_methodNamed Bd.named Bd.method).1
  have X0 : Stand p l e ({ frames := 2, cells := 1, slots := 3, locals := 24 } : Room) s m #[(.ref o0), (.double d1), (.double d2), (.double d3)] below meth c s₁ [] 0 0 := Stand.of_body Bd
  have e0 : s₁.heap = h0 := by rw [← hh, Bd.state]; rfl
  have N0 := Fr.nil n0
  have pre0 : ∀ t, Steps p.tables e below (s₁.setTop (mkF m 0 #[.val (.ref o0), .val (.double d1), .second, .val (.double d2), .second, .val (.double d3), .second, .unset, .unset, .unset, .unset, .unset] [])) t → Steps p.tables e below (s₁.setTop (entryFrame m #[(.ref o0), (.double d1), (.double d2), (.double d3)] 12)) t := fun t k => castTop (ef_1 m o0 d1 d2 d3) k
  obtain ⟨_, _, ⟨T1, L1, k1, n1⟩, -, X1, ⟨Lc1, hQ1, l1, y1, z1⟩, st1⟩ := X0.specialBack hx (y := (⟨"java/lang/Record", "<init>", "()V"⟩ : MethodName)) rfl hown (mvT hZ (hw _ (List.mem_of_getElem? (i := 7) rfl))) (mvT hZ (hw _ (List.mem_of_getElem? (i := 8) rfl))) (mvT hZ (hw _ (List.mem_of_getElem? (i := 11) rfl))) (by decide) (backOf (W := 0) (rm2 l Z a0 hw [] o0 h0 n0 Z0 ) hZ (hw _ (List.mem_of_getElem? (i := 11) rfl)) (hw _ (List.mem_of_getElem? (i := 10) rfl)) (by decide) (by decide)) (g := (mkF m 1 #[.val (.ref o0), .val (.double d1), .second, .val (.double d2), .second, .val (.double d3), .second, .unset, .unset, .unset, .unset, .unset] [(.ref o0)])) rfl (by rw [hml]; rfl) (Steps.refl _) (a := o0) (argsL := []) (rest := []) (lenOf pd_1_0 rfl) rfl (by show 2 * 0 + _ ≤ _; exact Nat.le_of_eq rfl) (hb hby d1_1) (fun _ _ => ⟨rfl, e0, (by decide : 0 + 0 ≤ _), (by decide : 0 + 0 ≤ _)⟩)
  dsimp only [Pt.U, Pt.locs, Pt.cells, Pt.slots] at X1 l1 y1 z1 st1 hQ1
  subst l1 y1 z1
  obtain ⟨rfl, N1q, e1q⟩ := hQ1
  have N1 := Fr.app N0 N1q
  obtain ⟨T2, h2, k2, X2, e2, E2, A2, st2⟩ := newP X1 hx hZ (hw _ (List.mem_of_getElem? (i := 15) rfl)) e1q (g := (mkF m 5 #[.val (.ref o0), .val (.double d1), .second, .val (.double d2), .second, .val (.double d3), .second, .unset, .unset, .unset, .unset, .unset] [(.int (3 : Int32))])) rfl (hb hby d1_5) rfl (by decide) (cap := 3) (by decide) (by decide) (by decide) (by decide)
  obtain ⟨b2, g2⟩ : ∃ z, z = h0.size := ⟨_, rfl⟩
  rw [← g2] at A2 st2
  have g_b2 : n0 ≤ b2 := Nat.le_trans Z0 (Nat.le_of_eq g2.symm)
  have sz_b2 : h0.size ≤ b2 := Nat.le_trans (Keep.refl h0 [o0]).1 (Nat.le_of_eq g2.symm)
  have ne_o0_b2 : o0 ≠ b2 := Nat.ne_of_lt (Nat.lt_of_lt_of_le E_o0.lt (Nat.le_of_eq g2.symm))
  have K3 : Keep h0 h2 [o0] := (Keep.refl h0 [o0]).ext E2
  have Z4 : n0 ≤ h2.size := Nat.le_trans Z0 K3.1
  have V_b2 : own_AD Z h2 b2 .double (3 : Int32) (fun _ => 0) := own_AD.new A2 (by decide)
  obtain ⟨cl5, Ar5, Sz5, Nn5, Hs5⟩ := id V_b2
  have hin5 : ¬ ((0 : Int32) < 0 ∨ cl5.slots.size ≤ ((0 : Int32)).toNatClampNeg) := inb_of Sz5 ⟨by decide, by decide⟩
  obtain ⟨T6, h6, X6, e6, W6, st6⟩ := stD X2 hx hZ e2 Ar5 (j := (0 : Int32)) hin5 (g := (mkF m 10 #[.val (.ref o0), .val (.double d1), .second, .val (.double d2), .second, .val (.double d3), .second, .unset, .unset, .unset, .unset, .unset] [(.double d1), (.int (0 : Int32)), (.ref b2), (.ref b2)])) rfl rfl (hb hby d1_10)
  have V6 : own_AD Z h6 b2 .double (3 : Int32) (own_upd (fun _ => 0) 0 d1) := own_AD.set V_b2 W6
  have K7 : Keep h0 h6 [o0] := K3.wr W6 (Or.inr sz_b2)
  have Z8 : n0 ≤ h6.size := Nat.le_trans Z0 K7.1
  have N6 := Fr.snoc X6 N1 g_b2
  obtain ⟨LS6, X6, N6⟩ : ∃ L, Stand p l e ({ frames := 2, cells := 1, slots := 3, locals := 24 } : Room) s m #[(.ref o0), (.double d1), (.double d2), (.double d3)] below meth c T6 L 1 3 ∧ Fr n0 L := ⟨_, X6, N6⟩
  obtain ⟨cl9, Ar9, Sz9, Nn9, Hs9⟩ := id V6
  have hin9 : ¬ ((1 : Int32) < 0 ∨ cl9.slots.size ≤ ((1 : Int32)).toNatClampNeg) := inb_of Sz9 ⟨by decide, by decide⟩
  obtain ⟨T10, h10, X10, e10, W10, st10⟩ := stD X6 hx hZ e6 Ar9 (j := (1 : Int32)) hin9 (g := (mkF m 14 #[.val (.ref o0), .val (.double d1), .second, .val (.double d2), .second, .val (.double d3), .second, .unset, .unset, .unset, .unset, .unset] [(.double d2), (.int (1 : Int32)), (.ref b2), (.ref b2)])) rfl rfl (hb hby d1_14)
  have V10 : own_AD Z h10 b2 .double (3 : Int32) (own_upd (own_upd (fun _ => 0) 0 d1) 1 d2) := own_AD.set V6 W10
  have K11 : Keep h0 h10 [o0] := K7.wr W10 (Or.inr sz_b2)
  have Z12 : n0 ≤ h10.size := Nat.le_trans Z0 K11.1
  have N10 := Fr.snoc X10 N6 g_b2
  obtain ⟨LS10, X10, N10⟩ : ∃ L, Stand p l e ({ frames := 2, cells := 1, slots := 3, locals := 24 } : Room) s m #[(.ref o0), (.double d1), (.double d2), (.double d3)] below meth c T10 L 1 3 ∧ Fr n0 L := ⟨_, X10, N10⟩
  obtain ⟨cl13, Ar13, Sz13, Nn13, Hs13⟩ := id V10
  have hin13 : ¬ ((2 : Int32) < 0 ∨ cl13.slots.size ≤ ((2 : Int32)).toNatClampNeg) := inb_of Sz13 ⟨by decide, by decide⟩
  obtain ⟨T14, h14, X14, e14, W14, st14⟩ := stD X10 hx hZ e10 Ar13 (j := (2 : Int32)) hin13 (g := (mkF m 19 #[.val (.ref o0), .val (.double d1), .second, .val (.double d2), .second, .val (.double d3), .second, .unset, .unset, .unset, .unset, .unset] [(.double d3), (.int (2 : Int32)), (.ref b2), (.ref b2)])) rfl rfl (hb hby d1_19)
  have V14 : own_AD Z h14 b2 .double (3 : Int32) (own_upd (own_upd (own_upd (fun _ => 0) 0 d1) 1 d2) 2 d3) := own_AD.set V10 W14
  have K15 : Keep h0 h14 [o0] := K11.wr W14 (Or.inr sz_b2)
  have Z16 : n0 ≤ h14.size := Nat.le_trans Z0 K15.1
  have N14 := Fr.snoc X14 N10 g_b2
  obtain ⟨LS14, X14, N14⟩ : ∃ L, Stand p l e ({ frames := 2, cells := 1, slots := 3, locals := 24 } : Room) s m #[(.ref o0), (.double d1), (.double d2), (.double d3)] below meth c T14 L 1 3 ∧ Fr n0 L := ⟨_, X14, N14⟩
  obtain ⟨cl17, Ar17, Sz17, Nn17, -⟩ := id V14
  have pre18 : ∀ t, Steps p.tables e below (T14.setTop (mkF m 34 #[.val (.ref o0), .val (.double d1), .second, .val (.double d2), .second, .val (.double d3), .second, .val (.ref b2), .val (.int (3 : Int32)), .val (.int (0 : Int32)), .unset, .unset] [(.int (3 : Int32)), (.int (0 : Int32))])) t → Steps p.tables e below (s₁.setTop (entryFrame m #[(.ref o0), (.double d1), (.double d2), (.double d3)] 12)) t := fun t kt => pre0 t (by
      show Steps p.tables e below (s₁.setTop (mkF m 0 #[.val (.ref o0), .val (.double d1), .second, .val (.double d2), .second, .val (.double d3), .second, .unset, .unset, .unset, .unset, .unset] [])) _
      refine XS.aloadN X0.here hx rfl (hb hby d1_0) rfl rfl ?_
      show Steps p.tables e below (s₁.setTop (mkF m 1 #[.val (.ref o0), .val (.double d1), .second, .val (.double d2), .second, .val (.double d3), .second, .unset, .unset, .unset, .unset, .unset] [(.ref o0)])) _
      refine st1.trans ?_
      show Steps p.tables e below (T1.setTop (mkF m 4 #[.val (.ref o0), .val (.double d1), .second, .val (.double d2), .second, .val (.double d3), .second, .unset, .unset, .unset, .unset, .unset] [])) _
      refine XS.iconst X1.here hx rfl (hb hby d1_4) ?_
      show Steps p.tables e below (T1.setTop (mkF m 5 #[.val (.ref o0), .val (.double d1), .second, .val (.double d2), .second, .val (.double d3), .second, .unset, .unset, .unset, .unset, .unset] [(.int (3 : Int32))])) _
      refine st2 _ ?_
      show Steps p.tables e below (T2.setTop (mkF m 7 #[.val (.ref o0), .val (.double d1), .second, .val (.double d2), .second, .val (.double d3), .second, .unset, .unset, .unset, .unset, .unset] [(.ref b2)])) _
      refine XS.dup X2.here hx rfl (hb hby d1_7) rfl rfl ?_
      show Steps p.tables e below (T2.setTop (mkF m 8 #[.val (.ref o0), .val (.double d1), .second, .val (.double d2), .second, .val (.double d3), .second, .unset, .unset, .unset, .unset, .unset] [(.ref b2), (.ref b2)])) _
      refine XS.iconst X2.here hx rfl (hb hby d1_8) ?_
      show Steps p.tables e below (T2.setTop (mkF m 9 #[.val (.ref o0), .val (.double d1), .second, .val (.double d2), .second, .val (.double d3), .second, .unset, .unset, .unset, .unset, .unset] [(.int (0 : Int32)), (.ref b2), (.ref b2)])) _
      refine XS.dloadN X2.here hx rfl (hb hby d1_9) rfl ?_
      show Steps p.tables e below (T2.setTop (mkF m 10 #[.val (.ref o0), .val (.double d1), .second, .val (.double d2), .second, .val (.double d3), .second, .unset, .unset, .unset, .unset, .unset] [(.double d1), (.int (0 : Int32)), (.ref b2), (.ref b2)])) _
      refine st6 _ ?_
      show Steps p.tables e below (T6.setTop (mkF m 11 #[.val (.ref o0), .val (.double d1), .second, .val (.double d2), .second, .val (.double d3), .second, .unset, .unset, .unset, .unset, .unset] [(.ref b2)])) _
      refine XS.dup X6.here hx rfl (hb hby d1_11) rfl rfl ?_
      show Steps p.tables e below (T6.setTop (mkF m 12 #[.val (.ref o0), .val (.double d1), .second, .val (.double d2), .second, .val (.double d3), .second, .unset, .unset, .unset, .unset, .unset] [(.ref b2), (.ref b2)])) _
      refine XS.iconst X6.here hx rfl (hb hby d1_12) ?_
      show Steps p.tables e below (T6.setTop (mkF m 13 #[.val (.ref o0), .val (.double d1), .second, .val (.double d2), .second, .val (.double d3), .second, .unset, .unset, .unset, .unset, .unset] [(.int (1 : Int32)), (.ref b2), (.ref b2)])) _
      refine XS.dloadN X6.here hx rfl (hb hby d1_13) rfl ?_
      show Steps p.tables e below (T6.setTop (mkF m 14 #[.val (.ref o0), .val (.double d1), .second, .val (.double d2), .second, .val (.double d3), .second, .unset, .unset, .unset, .unset, .unset] [(.double d2), (.int (1 : Int32)), (.ref b2), (.ref b2)])) _
      refine st10 _ ?_
      show Steps p.tables e below (T10.setTop (mkF m 15 #[.val (.ref o0), .val (.double d1), .second, .val (.double d2), .second, .val (.double d3), .second, .unset, .unset, .unset, .unset, .unset] [(.ref b2)])) _
      refine XS.dup X10.here hx rfl (hb hby d1_15) rfl rfl ?_
      show Steps p.tables e below (T10.setTop (mkF m 16 #[.val (.ref o0), .val (.double d1), .second, .val (.double d2), .second, .val (.double d3), .second, .unset, .unset, .unset, .unset, .unset] [(.ref b2), (.ref b2)])) _
      refine XS.iconst X10.here hx rfl (hb hby d1_16) ?_
      show Steps p.tables e below (T10.setTop (mkF m 17 #[.val (.ref o0), .val (.double d1), .second, .val (.double d2), .second, .val (.double d3), .second, .unset, .unset, .unset, .unset, .unset] [(.int (2 : Int32)), (.ref b2), (.ref b2)])) _
      refine XS.dload X10.here hx rfl (hb hby d1_17) rfl ?_
      show Steps p.tables e below (T10.setTop (mkF m 19 #[.val (.ref o0), .val (.double d1), .second, .val (.double d2), .second, .val (.double d3), .second, .unset, .unset, .unset, .unset, .unset] [(.double d3), (.int (2 : Int32)), (.ref b2), (.ref b2)])) _
      refine st14 _ ?_
      show Steps p.tables e below (T14.setTop (mkF m 20 #[.val (.ref o0), .val (.double d1), .second, .val (.double d2), .second, .val (.double d3), .second, .unset, .unset, .unset, .unset, .unset] [(.ref b2)])) _
      refine XS.astore X14.here hx rfl (hb hby d1_20) rfl rfl (l' := #[.val (.ref o0), .val (.double d1), .second, .val (.double d2), .second, .val (.double d3), .second, .val (.ref b2), .unset, .unset, .unset, .unset]) rfl ?_
      show Steps p.tables e below (T14.setTop (mkF m 22 #[.val (.ref o0), .val (.double d1), .second, .val (.double d2), .second, .val (.double d3), .second, .val (.ref b2), .unset, .unset, .unset, .unset] [])) _
      refine XS.aload X14.here hx rfl (hb hby d1_22) rfl rfl ?_
      show Steps p.tables e below (T14.setTop (mkF m 24 #[.val (.ref o0), .val (.double d1), .second, .val (.double d2), .second, .val (.double d3), .second, .val (.ref b2), .unset, .unset, .unset, .unset] [(.ref b2)])) _
      refine X14.arraylength hx (by rw [e14]; exact Ar17.1) (State.isArrayOf_alike hZ.alike Ar17.2.1) (g := (mkF m 24 #[.val (.ref o0), .val (.double d1), .second, .val (.double d2), .second, .val (.double d3), .second, .val (.ref b2), .unset, .unset, .unset, .unset] [(.ref b2)])) rfl rfl (hb hby d1_24) _ ?_
      rw [len_of Sz17 Nn17]
      show Steps p.tables e below (T14.setTop (mkF m 25 #[.val (.ref o0), .val (.double d1), .second, .val (.double d2), .second, .val (.double d3), .second, .val (.ref b2), .unset, .unset, .unset, .unset] [(.int (3 : Int32))])) _
      refine XS.istore X14.here hx rfl (hb hby d1_25) rfl (l' := #[.val (.ref o0), .val (.double d1), .second, .val (.double d2), .second, .val (.double d3), .second, .val (.ref b2), .val (.int (3 : Int32)), .unset, .unset, .unset]) rfl ?_
      show Steps p.tables e below (T14.setTop (mkF m 27 #[.val (.ref o0), .val (.double d1), .second, .val (.double d2), .second, .val (.double d3), .second, .val (.ref b2), .val (.int (3 : Int32)), .unset, .unset, .unset] [])) _
      refine XS.iconst X14.here hx rfl (hb hby d1_27) ?_
      show Steps p.tables e below (T14.setTop (mkF m 28 #[.val (.ref o0), .val (.double d1), .second, .val (.double d2), .second, .val (.double d3), .second, .val (.ref b2), .val (.int (3 : Int32)), .unset, .unset, .unset] [(.int (0 : Int32))])) _
      refine XS.istore X14.here hx rfl (hb hby d1_28) rfl (l' := #[.val (.ref o0), .val (.double d1), .second, .val (.double d2), .second, .val (.double d3), .second, .val (.ref b2), .val (.int (3 : Int32)), .val (.int (0 : Int32)), .unset, .unset]) rfl ?_
      show Steps p.tables e below (T14.setTop (mkF m 30 #[.val (.ref o0), .val (.double d1), .second, .val (.double d2), .second, .val (.double d3), .second, .val (.ref b2), .val (.int (3 : Int32)), .val (.int (0 : Int32)), .unset, .unset] [])) _
      refine XS.iload X14.here hx rfl (hb hby d1_30) rfl ?_
      show Steps p.tables e below (T14.setTop (mkF m 32 #[.val (.ref o0), .val (.double d1), .second, .val (.double d2), .second, .val (.double d3), .second, .val (.ref b2), .val (.int (3 : Int32)), .val (.int (0 : Int32)), .unset, .unset] [(.int (0 : Int32))])) _
      refine XS.iload X14.here hx rfl (hb hby d1_32) rfl ?_
      exact kt)
  obtain ⟨cl19, Ar19, Sz19, Nn19, Hs19⟩ := id V14
  have hin19 : ¬ ((0 : Int32) < 0 ∨ cl19.slots.size ≤ ((0 : Int32)).toNatClampNeg) := inb_of Sz19 ⟨by decide, by decide⟩
  have hat19 : cl19.slots[((0 : Int32)).toNatClampNeg]? = some (.double d1) := Hs19 _ (own_lt hin19)
  have pre20 : ∀ t, Steps p.tables e below (T14.setTop (mkF m 48 #[.val (.ref o0), .val (.double d1), .second, .val (.double d2), .second, .val (.double d3), .second, .val (.ref b2), .val (.int (3 : Int32)), .val (.int (0 : Int32)), .val (.double d1), .second] [(.int (cmpValue (FP.dcmp d1 FP.dconst0) .l))])) t → Steps p.tables e below (s₁.setTop (entryFrame m #[(.ref o0), (.double d1), (.double d2), (.double d3)] 12)) t := fun t kt => pre18 t (by
      show Steps p.tables e below (T14.setTop (mkF m 34 #[.val (.ref o0), .val (.double d1), .second, .val (.double d2), .second, .val (.double d3), .second, .val (.ref b2), .val (.int (3 : Int32)), .val (.int (0 : Int32)), .unset, .unset] [(.int (3 : Int32)), (.int (0 : Int32))])) _
      refine XS.icmpNo X14.here hx rfl (hb hby d1_34) rfl (tlt (by decide : ((0 : Int32) < (3 : Int32)))).2.1 ?_
      show Steps p.tables e below (T14.setTop (mkF m 37 #[.val (.ref o0), .val (.double d1), .second, .val (.double d2), .second, .val (.double d3), .second, .val (.ref b2), .val (.int (3 : Int32)), .val (.int (0 : Int32)), .unset, .unset] [])) _
      refine XS.aload X14.here hx rfl (hb hby d1_37) rfl rfl ?_
      show Steps p.tables e below (T14.setTop (mkF m 39 #[.val (.ref o0), .val (.double d1), .second, .val (.double d2), .second, .val (.double d3), .second, .val (.ref b2), .val (.int (3 : Int32)), .val (.int (0 : Int32)), .unset, .unset] [(.ref b2)])) _
      refine XS.iload X14.here hx rfl (hb hby d1_39) rfl ?_
      show Steps p.tables e below (T14.setTop (mkF m 41 #[.val (.ref o0), .val (.double d1), .second, .val (.double d2), .second, .val (.double d3), .second, .val (.ref b2), .val (.int (3 : Int32)), .val (.int (0 : Int32)), .unset, .unset] [(.int (0 : Int32)), (.ref b2)])) _
      refine X14.daload hx (j := (0 : Int32)) (v := (.double d1)) (by rw [e14]; exact Ar19.1) (State.isArrayOf_alike hZ.alike Ar19.2.1) Ar19.2.2 hin19 hat19 (g := (mkF m 41 #[.val (.ref o0), .val (.double d1), .second, .val (.double d2), .second, .val (.double d3), .second, .val (.ref b2), .val (.int (3 : Int32)), .val (.int (0 : Int32)), .unset, .unset] [(.int (0 : Int32)), (.ref b2)])) rfl rfl (hb hby d1_41) _ ?_
      show Steps p.tables e below (T14.setTop (mkF m 42 #[.val (.ref o0), .val (.double d1), .second, .val (.double d2), .second, .val (.double d3), .second, .val (.ref b2), .val (.int (3 : Int32)), .val (.int (0 : Int32)), .unset, .unset] [(.double d1)])) _
      refine XS.dstore X14.here hx rfl (hb hby d1_42) rfl (l' := #[.val (.ref o0), .val (.double d1), .second, .val (.double d2), .second, .val (.double d3), .second, .val (.ref b2), .val (.int (3 : Int32)), .val (.int (0 : Int32)), .val (.double d1), .second]) rfl ?_
      show Steps p.tables e below (T14.setTop (mkF m 44 #[.val (.ref o0), .val (.double d1), .second, .val (.double d2), .second, .val (.double d3), .second, .val (.ref b2), .val (.int (3 : Int32)), .val (.int (0 : Int32)), .val (.double d1), .second] [])) _
      refine XS.dload X14.here hx rfl (hb hby d1_44) rfl ?_
      show Steps p.tables e below (T14.setTop (mkF m 46 #[.val (.ref o0), .val (.double d1), .second, .val (.double d2), .second, .val (.double d3), .second, .val (.ref b2), .val (.int (3 : Int32)), .val (.int (0 : Int32)), .val (.double d1), .second] [(.double d1)])) _
      refine XS.dconst0 X14.here hx rfl (hb hby d1_46) rfl ?_
      show Steps p.tables e below (T14.setTop (mkF m 47 #[.val (.ref o0), .val (.double d1), .second, .val (.double d2), .second, .val (.double d3), .second, .val (.ref b2), .val (.int (3 : Int32)), .val (.int (0 : Int32)), .val (.double d1), .second] [(.double FP.dconst0), (.double d1)])) _
      refine XS.dcmpS X14.here hx rfl (hb hby d1_47) rfl rfl ?_
      exact kt)
  have hd48_21 : ¬ ((cmpValue (FP.dcmp d1 FP.dconst0) .l) < (0 : Int32)) := hz_d1
  have pre22 : ∀ t, Steps p.tables e below (T14.setTop (mkF m 57 #[.val (.ref o0), .val (.double d1), .second, .val (.double d2), .second, .val (.double d3), .second, .val (.ref b2), .val (.int (3 : Int32)), .val (.int (0 : Int32)), .val (.double d1), .second] [(.int (cmpValue (FP.dcmp d1 (9218868437227405312 : UInt64)) .g))])) t → Steps p.tables e below (s₁.setTop (entryFrame m #[(.ref o0), (.double d1), (.double d2), (.double d3)] 12)) t := fun t kt => pre20 t (by
      show Steps p.tables e below (T14.setTop (mkF m 48 #[.val (.ref o0), .val (.double d1), .second, .val (.double d2), .second, .val (.double d3), .second, .val (.ref b2), .val (.int (3 : Int32)), .val (.int (0 : Int32)), .val (.double d1), .second] [(.int (cmpValue (FP.dcmp d1 FP.dconst0) .l))])) _
      refine XS.ifNo X14.here hx rfl (hb hby d1_48) rfl ((if0 _ _).trans (flt hd48_21).1) ?_
      show Steps p.tables e below (T14.setTop (mkF m 51 #[.val (.ref o0), .val (.double d1), .second, .val (.double d2), .second, .val (.double d3), .second, .val (.ref b2), .val (.int (3 : Int32)), .val (.int (0 : Int32)), .val (.double d1), .second] [])) _
      refine XS.dload X14.here hx rfl (hb hby d1_51) rfl ?_
      show Steps p.tables e below (T14.setTop (mkF m 53 #[.val (.ref o0), .val (.double d1), .second, .val (.double d2), .second, .val (.double d3), .second, .val (.ref b2), .val (.int (3 : Int32)), .val (.int (0 : Int32)), .val (.double d1), .second] [(.double d1)])) _
      refine X14.ldc2DoubleC hx hown (mvT hZ (hw _ (List.mem_of_getElem? (i := 16) rfl))) (g := (mkF m 53 #[.val (.ref o0), .val (.double d1), .second, .val (.double d2), .second, .val (.double d3), .second, .val (.ref b2), .val (.int (3 : Int32)), .val (.int (0 : Int32)), .val (.double d1), .second] [(.double d1)])) rfl (hb hby d1_53) _ ?_
      show Steps p.tables e below (T14.setTop (mkF m 56 #[.val (.ref o0), .val (.double d1), .second, .val (.double d2), .second, .val (.double d3), .second, .val (.ref b2), .val (.int (3 : Int32)), .val (.int (0 : Int32)), .val (.double d1), .second] [(.double (9218868437227405312 : UInt64)), (.double d1)])) _
      refine XS.dcmpS X14.here hx rfl (hb hby d1_56) rfl rfl ?_
      exact kt)
  have hd57_23 : (cmpValue (FP.dcmp d1 (9218868437227405312 : UInt64)) .g) < (0 : Int32) := hi_d1
  have pre24 : ∀ t, Steps p.tables e below (T14.setTop (mkF m 34 #[.val (.ref o0), .val (.double d1), .second, .val (.double d2), .second, .val (.double d3), .second, .val (.ref b2), .val (.int (3 : Int32)), .val (.int (1 : Int32)), .val (.double d1), .second] [(.int (3 : Int32)), (.int (1 : Int32))])) t → Steps p.tables e below (s₁.setTop (entryFrame m #[(.ref o0), (.double d1), (.double d2), (.double d3)] 12)) t := fun t kt => pre22 t (by
      show Steps p.tables e below (T14.setTop (mkF m 57 #[.val (.ref o0), .val (.double d1), .second, .val (.double d2), .second, .val (.double d3), .second, .val (.ref b2), .val (.int (3 : Int32)), .val (.int (0 : Int32)), .val (.double d1), .second] [(.int (cmpValue (FP.dcmp d1 (9218868437227405312 : UInt64)) .g))])) _
      refine XS.ifYes X14.here hx rfl (pc0 := 57) (pc' := 75) rfl (hb hby d1_57) rfl ((if0 _ _).trans (tlt hd57_23).1) (by decide) (by decide) ?_
      show Steps p.tables e below (T14.setTop (mkF m 75 #[.val (.ref o0), .val (.double d1), .second, .val (.double d2), .second, .val (.double d3), .second, .val (.ref b2), .val (.int (3 : Int32)), .val (.int (0 : Int32)), .val (.double d1), .second] [])) _
      refine XS.iinc X14.here hx rfl (hb hby d1_75) rfl (l' := #[.val (.ref o0), .val (.double d1), .second, .val (.double d2), .second, .val (.double d3), .second, .val (.ref b2), .val (.int (3 : Int32)), .val (.int (1 : Int32)), .val (.double d1), .second]) rfl ?_
      show Steps p.tables e below (T14.setTop (mkF m 78 #[.val (.ref o0), .val (.double d1), .second, .val (.double d2), .second, .val (.double d3), .second, .val (.ref b2), .val (.int (3 : Int32)), .val (.int (1 : Int32)), .val (.double d1), .second] [])) _
      refine XS.goto X14.here hx rfl (pc0 := 78) (pc' := 30) rfl (hb hby d1_78) (by decide) (by decide) ?_
      show Steps p.tables e below (T14.setTop (mkF m 30 #[.val (.ref o0), .val (.double d1), .second, .val (.double d2), .second, .val (.double d3), .second, .val (.ref b2), .val (.int (3 : Int32)), .val (.int (1 : Int32)), .val (.double d1), .second] [])) _
      refine XS.iload X14.here hx rfl (hb hby d1_30) rfl ?_
      show Steps p.tables e below (T14.setTop (mkF m 32 #[.val (.ref o0), .val (.double d1), .second, .val (.double d2), .second, .val (.double d3), .second, .val (.ref b2), .val (.int (3 : Int32)), .val (.int (1 : Int32)), .val (.double d1), .second] [(.int (1 : Int32))])) _
      refine XS.iload X14.here hx rfl (hb hby d1_32) rfl ?_
      exact kt)
  obtain ⟨cl25, Ar25, Sz25, Nn25, Hs25⟩ := id V14
  have hin25 : ¬ ((1 : Int32) < 0 ∨ cl25.slots.size ≤ ((1 : Int32)).toNatClampNeg) := inb_of Sz25 ⟨by decide, by decide⟩
  have hat25 : cl25.slots[((1 : Int32)).toNatClampNeg]? = some (.double d2) := Hs25 _ (own_lt hin25)
  have pre26 : ∀ t, Steps p.tables e below (T14.setTop (mkF m 48 #[.val (.ref o0), .val (.double d1), .second, .val (.double d2), .second, .val (.double d3), .second, .val (.ref b2), .val (.int (3 : Int32)), .val (.int (1 : Int32)), .val (.double d2), .second] [(.int (cmpValue (FP.dcmp d2 FP.dconst0) .l))])) t → Steps p.tables e below (s₁.setTop (entryFrame m #[(.ref o0), (.double d1), (.double d2), (.double d3)] 12)) t := fun t kt => pre24 t (by
      show Steps p.tables e below (T14.setTop (mkF m 34 #[.val (.ref o0), .val (.double d1), .second, .val (.double d2), .second, .val (.double d3), .second, .val (.ref b2), .val (.int (3 : Int32)), .val (.int (1 : Int32)), .val (.double d1), .second] [(.int (3 : Int32)), (.int (1 : Int32))])) _
      refine XS.icmpNo X14.here hx rfl (hb hby d1_34) rfl (tlt (by decide : ((1 : Int32) < (3 : Int32)))).2.1 ?_
      show Steps p.tables e below (T14.setTop (mkF m 37 #[.val (.ref o0), .val (.double d1), .second, .val (.double d2), .second, .val (.double d3), .second, .val (.ref b2), .val (.int (3 : Int32)), .val (.int (1 : Int32)), .val (.double d1), .second] [])) _
      refine XS.aload X14.here hx rfl (hb hby d1_37) rfl rfl ?_
      show Steps p.tables e below (T14.setTop (mkF m 39 #[.val (.ref o0), .val (.double d1), .second, .val (.double d2), .second, .val (.double d3), .second, .val (.ref b2), .val (.int (3 : Int32)), .val (.int (1 : Int32)), .val (.double d1), .second] [(.ref b2)])) _
      refine XS.iload X14.here hx rfl (hb hby d1_39) rfl ?_
      show Steps p.tables e below (T14.setTop (mkF m 41 #[.val (.ref o0), .val (.double d1), .second, .val (.double d2), .second, .val (.double d3), .second, .val (.ref b2), .val (.int (3 : Int32)), .val (.int (1 : Int32)), .val (.double d1), .second] [(.int (1 : Int32)), (.ref b2)])) _
      refine X14.daload hx (j := (1 : Int32)) (v := (.double d2)) (by rw [e14]; exact Ar25.1) (State.isArrayOf_alike hZ.alike Ar25.2.1) Ar25.2.2 hin25 hat25 (g := (mkF m 41 #[.val (.ref o0), .val (.double d1), .second, .val (.double d2), .second, .val (.double d3), .second, .val (.ref b2), .val (.int (3 : Int32)), .val (.int (1 : Int32)), .val (.double d1), .second] [(.int (1 : Int32)), (.ref b2)])) rfl rfl (hb hby d1_41) _ ?_
      show Steps p.tables e below (T14.setTop (mkF m 42 #[.val (.ref o0), .val (.double d1), .second, .val (.double d2), .second, .val (.double d3), .second, .val (.ref b2), .val (.int (3 : Int32)), .val (.int (1 : Int32)), .val (.double d1), .second] [(.double d2)])) _
      refine XS.dstore X14.here hx rfl (hb hby d1_42) rfl (l' := #[.val (.ref o0), .val (.double d1), .second, .val (.double d2), .second, .val (.double d3), .second, .val (.ref b2), .val (.int (3 : Int32)), .val (.int (1 : Int32)), .val (.double d2), .second]) rfl ?_
      show Steps p.tables e below (T14.setTop (mkF m 44 #[.val (.ref o0), .val (.double d1), .second, .val (.double d2), .second, .val (.double d3), .second, .val (.ref b2), .val (.int (3 : Int32)), .val (.int (1 : Int32)), .val (.double d2), .second] [])) _
      refine XS.dload X14.here hx rfl (hb hby d1_44) rfl ?_
      show Steps p.tables e below (T14.setTop (mkF m 46 #[.val (.ref o0), .val (.double d1), .second, .val (.double d2), .second, .val (.double d3), .second, .val (.ref b2), .val (.int (3 : Int32)), .val (.int (1 : Int32)), .val (.double d2), .second] [(.double d2)])) _
      refine XS.dconst0 X14.here hx rfl (hb hby d1_46) rfl ?_
      show Steps p.tables e below (T14.setTop (mkF m 47 #[.val (.ref o0), .val (.double d1), .second, .val (.double d2), .second, .val (.double d3), .second, .val (.ref b2), .val (.int (3 : Int32)), .val (.int (1 : Int32)), .val (.double d2), .second] [(.double FP.dconst0), (.double d2)])) _
      refine XS.dcmpS X14.here hx rfl (hb hby d1_47) rfl rfl ?_
      exact kt)
  have hd48_27 : ¬ ((cmpValue (FP.dcmp d2 FP.dconst0) .l) < (0 : Int32)) := hz_d2
  have pre28 : ∀ t, Steps p.tables e below (T14.setTop (mkF m 57 #[.val (.ref o0), .val (.double d1), .second, .val (.double d2), .second, .val (.double d3), .second, .val (.ref b2), .val (.int (3 : Int32)), .val (.int (1 : Int32)), .val (.double d2), .second] [(.int (cmpValue (FP.dcmp d2 (9218868437227405312 : UInt64)) .g))])) t → Steps p.tables e below (s₁.setTop (entryFrame m #[(.ref o0), (.double d1), (.double d2), (.double d3)] 12)) t := fun t kt => pre26 t (by
      show Steps p.tables e below (T14.setTop (mkF m 48 #[.val (.ref o0), .val (.double d1), .second, .val (.double d2), .second, .val (.double d3), .second, .val (.ref b2), .val (.int (3 : Int32)), .val (.int (1 : Int32)), .val (.double d2), .second] [(.int (cmpValue (FP.dcmp d2 FP.dconst0) .l))])) _
      refine XS.ifNo X14.here hx rfl (hb hby d1_48) rfl ((if0 _ _).trans (flt hd48_27).1) ?_
      show Steps p.tables e below (T14.setTop (mkF m 51 #[.val (.ref o0), .val (.double d1), .second, .val (.double d2), .second, .val (.double d3), .second, .val (.ref b2), .val (.int (3 : Int32)), .val (.int (1 : Int32)), .val (.double d2), .second] [])) _
      refine XS.dload X14.here hx rfl (hb hby d1_51) rfl ?_
      show Steps p.tables e below (T14.setTop (mkF m 53 #[.val (.ref o0), .val (.double d1), .second, .val (.double d2), .second, .val (.double d3), .second, .val (.ref b2), .val (.int (3 : Int32)), .val (.int (1 : Int32)), .val (.double d2), .second] [(.double d2)])) _
      refine X14.ldc2DoubleC hx hown (mvT hZ (hw _ (List.mem_of_getElem? (i := 16) rfl))) (g := (mkF m 53 #[.val (.ref o0), .val (.double d1), .second, .val (.double d2), .second, .val (.double d3), .second, .val (.ref b2), .val (.int (3 : Int32)), .val (.int (1 : Int32)), .val (.double d2), .second] [(.double d2)])) rfl (hb hby d1_53) _ ?_
      show Steps p.tables e below (T14.setTop (mkF m 56 #[.val (.ref o0), .val (.double d1), .second, .val (.double d2), .second, .val (.double d3), .second, .val (.ref b2), .val (.int (3 : Int32)), .val (.int (1 : Int32)), .val (.double d2), .second] [(.double (9218868437227405312 : UInt64)), (.double d2)])) _
      refine XS.dcmpS X14.here hx rfl (hb hby d1_56) rfl rfl ?_
      exact kt)
  have hd57_29 : (cmpValue (FP.dcmp d2 (9218868437227405312 : UInt64)) .g) < (0 : Int32) := hi_d2
  have pre30 : ∀ t, Steps p.tables e below (T14.setTop (mkF m 34 #[.val (.ref o0), .val (.double d1), .second, .val (.double d2), .second, .val (.double d3), .second, .val (.ref b2), .val (.int (3 : Int32)), .val (.int (2 : Int32)), .val (.double d2), .second] [(.int (3 : Int32)), (.int (2 : Int32))])) t → Steps p.tables e below (s₁.setTop (entryFrame m #[(.ref o0), (.double d1), (.double d2), (.double d3)] 12)) t := fun t kt => pre28 t (by
      show Steps p.tables e below (T14.setTop (mkF m 57 #[.val (.ref o0), .val (.double d1), .second, .val (.double d2), .second, .val (.double d3), .second, .val (.ref b2), .val (.int (3 : Int32)), .val (.int (1 : Int32)), .val (.double d2), .second] [(.int (cmpValue (FP.dcmp d2 (9218868437227405312 : UInt64)) .g))])) _
      refine XS.ifYes X14.here hx rfl (pc0 := 57) (pc' := 75) rfl (hb hby d1_57) rfl ((if0 _ _).trans (tlt hd57_29).1) (by decide) (by decide) ?_
      show Steps p.tables e below (T14.setTop (mkF m 75 #[.val (.ref o0), .val (.double d1), .second, .val (.double d2), .second, .val (.double d3), .second, .val (.ref b2), .val (.int (3 : Int32)), .val (.int (1 : Int32)), .val (.double d2), .second] [])) _
      refine XS.iinc X14.here hx rfl (hb hby d1_75) rfl (l' := #[.val (.ref o0), .val (.double d1), .second, .val (.double d2), .second, .val (.double d3), .second, .val (.ref b2), .val (.int (3 : Int32)), .val (.int (2 : Int32)), .val (.double d2), .second]) rfl ?_
      show Steps p.tables e below (T14.setTop (mkF m 78 #[.val (.ref o0), .val (.double d1), .second, .val (.double d2), .second, .val (.double d3), .second, .val (.ref b2), .val (.int (3 : Int32)), .val (.int (2 : Int32)), .val (.double d2), .second] [])) _
      refine XS.goto X14.here hx rfl (pc0 := 78) (pc' := 30) rfl (hb hby d1_78) (by decide) (by decide) ?_
      show Steps p.tables e below (T14.setTop (mkF m 30 #[.val (.ref o0), .val (.double d1), .second, .val (.double d2), .second, .val (.double d3), .second, .val (.ref b2), .val (.int (3 : Int32)), .val (.int (2 : Int32)), .val (.double d2), .second] [])) _
      refine XS.iload X14.here hx rfl (hb hby d1_30) rfl ?_
      show Steps p.tables e below (T14.setTop (mkF m 32 #[.val (.ref o0), .val (.double d1), .second, .val (.double d2), .second, .val (.double d3), .second, .val (.ref b2), .val (.int (3 : Int32)), .val (.int (2 : Int32)), .val (.double d2), .second] [(.int (2 : Int32))])) _
      refine XS.iload X14.here hx rfl (hb hby d1_32) rfl ?_
      exact kt)
  obtain ⟨cl31, Ar31, Sz31, Nn31, Hs31⟩ := id V14
  have hin31 : ¬ ((2 : Int32) < 0 ∨ cl31.slots.size ≤ ((2 : Int32)).toNatClampNeg) := inb_of Sz31 ⟨by decide, by decide⟩
  have hat31 : cl31.slots[((2 : Int32)).toNatClampNeg]? = some (.double d3) := Hs31 _ (own_lt hin31)
  have pre32 : ∀ t, Steps p.tables e below (T14.setTop (mkF m 48 #[.val (.ref o0), .val (.double d1), .second, .val (.double d2), .second, .val (.double d3), .second, .val (.ref b2), .val (.int (3 : Int32)), .val (.int (2 : Int32)), .val (.double d3), .second] [(.int (cmpValue (FP.dcmp d3 FP.dconst0) .l))])) t → Steps p.tables e below (s₁.setTop (entryFrame m #[(.ref o0), (.double d1), (.double d2), (.double d3)] 12)) t := fun t kt => pre30 t (by
      show Steps p.tables e below (T14.setTop (mkF m 34 #[.val (.ref o0), .val (.double d1), .second, .val (.double d2), .second, .val (.double d3), .second, .val (.ref b2), .val (.int (3 : Int32)), .val (.int (2 : Int32)), .val (.double d2), .second] [(.int (3 : Int32)), (.int (2 : Int32))])) _
      refine XS.icmpNo X14.here hx rfl (hb hby d1_34) rfl (tlt (by decide : ((2 : Int32) < (3 : Int32)))).2.1 ?_
      show Steps p.tables e below (T14.setTop (mkF m 37 #[.val (.ref o0), .val (.double d1), .second, .val (.double d2), .second, .val (.double d3), .second, .val (.ref b2), .val (.int (3 : Int32)), .val (.int (2 : Int32)), .val (.double d2), .second] [])) _
      refine XS.aload X14.here hx rfl (hb hby d1_37) rfl rfl ?_
      show Steps p.tables e below (T14.setTop (mkF m 39 #[.val (.ref o0), .val (.double d1), .second, .val (.double d2), .second, .val (.double d3), .second, .val (.ref b2), .val (.int (3 : Int32)), .val (.int (2 : Int32)), .val (.double d2), .second] [(.ref b2)])) _
      refine XS.iload X14.here hx rfl (hb hby d1_39) rfl ?_
      show Steps p.tables e below (T14.setTop (mkF m 41 #[.val (.ref o0), .val (.double d1), .second, .val (.double d2), .second, .val (.double d3), .second, .val (.ref b2), .val (.int (3 : Int32)), .val (.int (2 : Int32)), .val (.double d2), .second] [(.int (2 : Int32)), (.ref b2)])) _
      refine X14.daload hx (j := (2 : Int32)) (v := (.double d3)) (by rw [e14]; exact Ar31.1) (State.isArrayOf_alike hZ.alike Ar31.2.1) Ar31.2.2 hin31 hat31 (g := (mkF m 41 #[.val (.ref o0), .val (.double d1), .second, .val (.double d2), .second, .val (.double d3), .second, .val (.ref b2), .val (.int (3 : Int32)), .val (.int (2 : Int32)), .val (.double d2), .second] [(.int (2 : Int32)), (.ref b2)])) rfl rfl (hb hby d1_41) _ ?_
      show Steps p.tables e below (T14.setTop (mkF m 42 #[.val (.ref o0), .val (.double d1), .second, .val (.double d2), .second, .val (.double d3), .second, .val (.ref b2), .val (.int (3 : Int32)), .val (.int (2 : Int32)), .val (.double d2), .second] [(.double d3)])) _
      refine XS.dstore X14.here hx rfl (hb hby d1_42) rfl (l' := #[.val (.ref o0), .val (.double d1), .second, .val (.double d2), .second, .val (.double d3), .second, .val (.ref b2), .val (.int (3 : Int32)), .val (.int (2 : Int32)), .val (.double d3), .second]) rfl ?_
      show Steps p.tables e below (T14.setTop (mkF m 44 #[.val (.ref o0), .val (.double d1), .second, .val (.double d2), .second, .val (.double d3), .second, .val (.ref b2), .val (.int (3 : Int32)), .val (.int (2 : Int32)), .val (.double d3), .second] [])) _
      refine XS.dload X14.here hx rfl (hb hby d1_44) rfl ?_
      show Steps p.tables e below (T14.setTop (mkF m 46 #[.val (.ref o0), .val (.double d1), .second, .val (.double d2), .second, .val (.double d3), .second, .val (.ref b2), .val (.int (3 : Int32)), .val (.int (2 : Int32)), .val (.double d3), .second] [(.double d3)])) _
      refine XS.dconst0 X14.here hx rfl (hb hby d1_46) rfl ?_
      show Steps p.tables e below (T14.setTop (mkF m 47 #[.val (.ref o0), .val (.double d1), .second, .val (.double d2), .second, .val (.double d3), .second, .val (.ref b2), .val (.int (3 : Int32)), .val (.int (2 : Int32)), .val (.double d3), .second] [(.double FP.dconst0), (.double d3)])) _
      refine XS.dcmpS X14.here hx rfl (hb hby d1_47) rfl rfl ?_
      exact kt)
  have hd48_33 : ¬ ((cmpValue (FP.dcmp d3 FP.dconst0) .l) < (0 : Int32)) := hz_d3
  have pre34 : ∀ t, Steps p.tables e below (T14.setTop (mkF m 57 #[.val (.ref o0), .val (.double d1), .second, .val (.double d2), .second, .val (.double d3), .second, .val (.ref b2), .val (.int (3 : Int32)), .val (.int (2 : Int32)), .val (.double d3), .second] [(.int (cmpValue (FP.dcmp d3 (9218868437227405312 : UInt64)) .g))])) t → Steps p.tables e below (s₁.setTop (entryFrame m #[(.ref o0), (.double d1), (.double d2), (.double d3)] 12)) t := fun t kt => pre32 t (by
      show Steps p.tables e below (T14.setTop (mkF m 48 #[.val (.ref o0), .val (.double d1), .second, .val (.double d2), .second, .val (.double d3), .second, .val (.ref b2), .val (.int (3 : Int32)), .val (.int (2 : Int32)), .val (.double d3), .second] [(.int (cmpValue (FP.dcmp d3 FP.dconst0) .l))])) _
      refine XS.ifNo X14.here hx rfl (hb hby d1_48) rfl ((if0 _ _).trans (flt hd48_33).1) ?_
      show Steps p.tables e below (T14.setTop (mkF m 51 #[.val (.ref o0), .val (.double d1), .second, .val (.double d2), .second, .val (.double d3), .second, .val (.ref b2), .val (.int (3 : Int32)), .val (.int (2 : Int32)), .val (.double d3), .second] [])) _
      refine XS.dload X14.here hx rfl (hb hby d1_51) rfl ?_
      show Steps p.tables e below (T14.setTop (mkF m 53 #[.val (.ref o0), .val (.double d1), .second, .val (.double d2), .second, .val (.double d3), .second, .val (.ref b2), .val (.int (3 : Int32)), .val (.int (2 : Int32)), .val (.double d3), .second] [(.double d3)])) _
      refine X14.ldc2DoubleC hx hown (mvT hZ (hw _ (List.mem_of_getElem? (i := 16) rfl))) (g := (mkF m 53 #[.val (.ref o0), .val (.double d1), .second, .val (.double d2), .second, .val (.double d3), .second, .val (.ref b2), .val (.int (3 : Int32)), .val (.int (2 : Int32)), .val (.double d3), .second] [(.double d3)])) rfl (hb hby d1_53) _ ?_
      show Steps p.tables e below (T14.setTop (mkF m 56 #[.val (.ref o0), .val (.double d1), .second, .val (.double d2), .second, .val (.double d3), .second, .val (.ref b2), .val (.int (3 : Int32)), .val (.int (2 : Int32)), .val (.double d3), .second] [(.double (9218868437227405312 : UInt64)), (.double d3)])) _
      refine XS.dcmpS X14.here hx rfl (hb hby d1_56) rfl rfl ?_
      exact kt)
  have hd57_35 : (cmpValue (FP.dcmp d3 (9218868437227405312 : UInt64)) .g) < (0 : Int32) := hi_d3
  have pre36 : ∀ t, Steps p.tables e below (T14.setTop (mkF m 34 #[.val (.ref o0), .val (.double d1), .second, .val (.double d2), .second, .val (.double d3), .second, .val (.ref b2), .val (.int (3 : Int32)), .val (.int (3 : Int32)), .val (.double d3), .second] [(.int (3 : Int32)), (.int (3 : Int32))])) t → Steps p.tables e below (s₁.setTop (entryFrame m #[(.ref o0), (.double d1), (.double d2), (.double d3)] 12)) t := fun t kt => pre34 t (by
      show Steps p.tables e below (T14.setTop (mkF m 57 #[.val (.ref o0), .val (.double d1), .second, .val (.double d2), .second, .val (.double d3), .second, .val (.ref b2), .val (.int (3 : Int32)), .val (.int (2 : Int32)), .val (.double d3), .second] [(.int (cmpValue (FP.dcmp d3 (9218868437227405312 : UInt64)) .g))])) _
      refine XS.ifYes X14.here hx rfl (pc0 := 57) (pc' := 75) rfl (hb hby d1_57) rfl ((if0 _ _).trans (tlt hd57_35).1) (by decide) (by decide) ?_
      show Steps p.tables e below (T14.setTop (mkF m 75 #[.val (.ref o0), .val (.double d1), .second, .val (.double d2), .second, .val (.double d3), .second, .val (.ref b2), .val (.int (3 : Int32)), .val (.int (2 : Int32)), .val (.double d3), .second] [])) _
      refine XS.iinc X14.here hx rfl (hb hby d1_75) rfl (l' := #[.val (.ref o0), .val (.double d1), .second, .val (.double d2), .second, .val (.double d3), .second, .val (.ref b2), .val (.int (3 : Int32)), .val (.int (3 : Int32)), .val (.double d3), .second]) rfl ?_
      show Steps p.tables e below (T14.setTop (mkF m 78 #[.val (.ref o0), .val (.double d1), .second, .val (.double d2), .second, .val (.double d3), .second, .val (.ref b2), .val (.int (3 : Int32)), .val (.int (3 : Int32)), .val (.double d3), .second] [])) _
      refine XS.goto X14.here hx rfl (pc0 := 78) (pc' := 30) rfl (hb hby d1_78) (by decide) (by decide) ?_
      show Steps p.tables e below (T14.setTop (mkF m 30 #[.val (.ref o0), .val (.double d1), .second, .val (.double d2), .second, .val (.double d3), .second, .val (.ref b2), .val (.int (3 : Int32)), .val (.int (3 : Int32)), .val (.double d3), .second] [])) _
      refine XS.iload X14.here hx rfl (hb hby d1_30) rfl ?_
      show Steps p.tables e below (T14.setTop (mkF m 32 #[.val (.ref o0), .val (.double d1), .second, .val (.double d2), .second, .val (.double d3), .second, .val (.ref b2), .val (.int (3 : Int32)), .val (.int (3 : Int32)), .val (.double d3), .second] [(.int (3 : Int32))])) _
      refine XS.iload X14.here hx rfl (hb hby d1_32) rfl ?_
      exact kt)
  have c38 := ((((F_driving_o0.ext E2).other W6 (Or.inl ne_o0_b2)).other W10 (Or.inl ne_o0_b2)).other W14 (Or.inl ne_o0_b2))
  obtain ⟨T39, h39, X39, e39, W39, st39⟩ := putF X14 hx hZ hown (host := "") (Or.inl (hw _ (List.mem_of_getElem? (i := 17) rfl))) Via.refl e14 c38 ((((E_o0.ext E2).wr W6).wr W10).wr W14) (Or.inr ⟨(hw _ (List.mem_of_getElem? (i := 18) rfl)), rfl, hnm⟩) (hw _ (List.mem_of_getElem? (i := 2) rfl)) (ty := .double) (by decide) rfl rfl (g := (mkF m 83 #[.val (.ref o0), .val (.double d1), .second, .val (.double d2), .second, .val (.double d3), .second, .val (.ref b2), .val (.int (3 : Int32)), .val (.int (3 : Int32)), .val (.double d3), .second] [(.double d1), (.ref o0)])) rfl rfl (hb hby d1_83)
  have Fw39 := c38.same W39
  have K40 : Keep h0 h39 [o0] := K15.wr W39 (Or.inl (List.mem_of_getElem? (i := 0) rfl))
  have Z41 : n0 ≤ h39.size := Nat.le_trans Z0 K40.1
  have N39 := Fr.snoc X39 N14 g_o0
  obtain ⟨LS39, X39, N39⟩ : ∃ L, Stand p l e ({ frames := 2, cells := 1, slots := 3, locals := 24 } : Room) s m #[(.ref o0), (.double d1), (.double d2), (.double d3)] below meth c T39 L 1 3 ∧ Fr n0 L := ⟨_, X39, N39⟩
  have c43 := (((((F_extraRide_o0.ext E2).other W6 (Or.inl ne_o0_b2)).other W10 (Or.inl ne_o0_b2)).other W14 (Or.inl ne_o0_b2)).other W39 (Or.inr (slot_ne (Or.inr (hw _ (List.mem_of_getElem? (i := 20) rfl))) (Or.inr (hw _ (List.mem_of_getElem? (i := 18) rfl))) (by decide) (t := .double) (t' := .double) (by decide) (by decide))))
  obtain ⟨T44, h44, X44, e44, W44, st44⟩ := putF X39 hx hZ hown (host := "") (Or.inl (hw _ (List.mem_of_getElem? (i := 19) rfl))) Via.refl e39 c43 (((((E_o0.ext E2).wr W6).wr W10).wr W14).wr W39) (Or.inr ⟨(hw _ (List.mem_of_getElem? (i := 20) rfl)), rfl, hnm⟩) (hw _ (List.mem_of_getElem? (i := 2) rfl)) (ty := .double) (by decide) rfl rfl (g := (mkF m 88 #[.val (.ref o0), .val (.double d1), .second, .val (.double d2), .second, .val (.double d3), .second, .val (.ref b2), .val (.int (3 : Int32)), .val (.int (3 : Int32)), .val (.double d3), .second] [(.double d2), (.ref o0)])) rfl rfl (hb hby d1_88)
  have Fw44 := c43.same W44
  have K45 : Keep h0 h44 [o0] := K40.wr W44 (Or.inl (List.mem_of_getElem? (i := 0) rfl))
  have Z46 : n0 ≤ h44.size := Nat.le_trans Z0 K45.1
  have N44 := Fr.snoc X44 N39 g_o0
  obtain ⟨LS44, X44, N44⟩ : ∃ L, Stand p l e ({ frames := 2, cells := 1, slots := 3, locals := 24 } : Room) s m #[(.ref o0), (.double d1), (.double d2), (.double d3)] below meth c T44 L 1 3 ∧ Fr n0 L := ⟨_, X44, N44⟩
  have c48 := ((((((F_waiting_o0.ext E2).other W6 (Or.inl ne_o0_b2)).other W10 (Or.inl ne_o0_b2)).other W14 (Or.inl ne_o0_b2)).other W39 (Or.inr (slot_ne (Or.inr (hw _ (List.mem_of_getElem? (i := 22) rfl))) (Or.inr (hw _ (List.mem_of_getElem? (i := 18) rfl))) (by decide) (t := .double) (t' := .double) (by decide) (by decide)))).other W44 (Or.inr (slot_ne (Or.inr (hw _ (List.mem_of_getElem? (i := 22) rfl))) (Or.inr (hw _ (List.mem_of_getElem? (i := 20) rfl))) (by decide) (t := .double) (t' := .double) (by decide) (by decide))))
  obtain ⟨T49, h49, X49, e49, W49, st49⟩ := putF X44 hx hZ hown (host := "") (Or.inl (hw _ (List.mem_of_getElem? (i := 21) rfl))) Via.refl e44 c48 ((((((E_o0.ext E2).wr W6).wr W10).wr W14).wr W39).wr W44) (Or.inr ⟨(hw _ (List.mem_of_getElem? (i := 22) rfl)), rfl, hnm⟩) (hw _ (List.mem_of_getElem? (i := 2) rfl)) (ty := .double) (by decide) rfl rfl (g := (mkF m 94 #[.val (.ref o0), .val (.double d1), .second, .val (.double d2), .second, .val (.double d3), .second, .val (.ref b2), .val (.int (3 : Int32)), .val (.int (3 : Int32)), .val (.double d3), .second] [(.double d3), (.ref o0)])) rfl rfl (hb hby d1_94)
  have Fw49 := c48.same W49
  have K50 : Keep h0 h49 [o0] := K45.wr W49 (Or.inl (List.mem_of_getElem? (i := 0) rfl))
  have Z51 : n0 ≤ h49.size := Nat.le_trans Z0 K50.1
  have N49 := Fr.snoc X49 N44 g_o0
  obtain ⟨LS49, X49, N49⟩ : ∃ L, Stand p l e ({ frames := 2, cells := 1, slots := 3, locals := 24 } : Room) s m #[(.ref o0), (.double d1), (.double d2), (.double d3)] below meth c T49 L 1 3 ∧ Fr n0 L := ⟨_, X49, N49⟩
  obtain ⟨fs, hr, hrun, hended, hW, hsame⟩ := X49.leave (v := none) (fun _ => rfl)
  have c52 := ((Fw39.other W44 (Or.inr (slot_ne (Or.inr (hw _ (List.mem_of_getElem? (i := 18) rfl))) (Or.inr (hw _ (List.mem_of_getElem? (i := 20) rfl))) (by decide) (t := .double) (t' := .double) (by decide) (by decide)))).other W49 (Or.inr (slot_ne (Or.inr (hw _ (List.mem_of_getElem? (i := 18) rfl))) (Or.inr (hw _ (List.mem_of_getElem? (i := 22) rfl))) (by decide) (t := .double) (t' := .double) (by decide) (by decide))))
  have c53 := (Fw44.other W49 (Or.inr (slot_ne (Or.inr (hw _ (List.mem_of_getElem? (i := 20) rfl))) (Or.inr (hw _ (List.mem_of_getElem? (i := 22) rfl))) (by decide) (t := .double) (t' := .double) (by decide) (by decide))))
  refine ⟨_, _, pre36 _ ?_, hrun, hended, _, _, rfl, ?_, ⟨_, rfl⟩, hW, hsame.mono (by decide) (by decide)⟩
  · show Steps p.tables e below (T14.setTop (mkF m 34 #[.val (.ref o0), .val (.double d1), .second, .val (.double d2), .second, .val (.double d3), .second, .val (.ref b2), .val (.int (3 : Int32)), .val (.int (3 : Int32)), .val (.double d3), .second] [(.int (3 : Int32)), (.int (3 : Int32))])) _
    refine XS.icmpYes X14.here hx rfl (pc0 := 34) (pc' := 81) rfl (hb hby d1_34) rfl (flt (by decide : ¬ ((3 : Int32) < (3 : Int32)))).2.1 (by decide) (by decide) ?_
    show Steps p.tables e below (T14.setTop (mkF m 81 #[.val (.ref o0), .val (.double d1), .second, .val (.double d2), .second, .val (.double d3), .second, .val (.ref b2), .val (.int (3 : Int32)), .val (.int (3 : Int32)), .val (.double d3), .second] [])) _
    refine XS.aloadN X14.here hx rfl (hb hby d1_81) rfl rfl ?_
    show Steps p.tables e below (T14.setTop (mkF m 82 #[.val (.ref o0), .val (.double d1), .second, .val (.double d2), .second, .val (.double d3), .second, .val (.ref b2), .val (.int (3 : Int32)), .val (.int (3 : Int32)), .val (.double d3), .second] [(.ref o0)])) _
    refine XS.dloadN X14.here hx rfl (hb hby d1_82) rfl ?_
    show Steps p.tables e below (T14.setTop (mkF m 83 #[.val (.ref o0), .val (.double d1), .second, .val (.double d2), .second, .val (.double d3), .second, .val (.ref b2), .val (.int (3 : Int32)), .val (.int (3 : Int32)), .val (.double d3), .second] [(.double d1), (.ref o0)])) _
    refine st39 _ ?_
    show Steps p.tables e below (T39.setTop (mkF m 86 #[.val (.ref o0), .val (.double d1), .second, .val (.double d2), .second, .val (.double d3), .second, .val (.ref b2), .val (.int (3 : Int32)), .val (.int (3 : Int32)), .val (.double d3), .second] [])) _
    refine XS.aloadN X39.here hx rfl (hb hby d1_86) rfl rfl ?_
    show Steps p.tables e below (T39.setTop (mkF m 87 #[.val (.ref o0), .val (.double d1), .second, .val (.double d2), .second, .val (.double d3), .second, .val (.ref b2), .val (.int (3 : Int32)), .val (.int (3 : Int32)), .val (.double d3), .second] [(.ref o0)])) _
    refine XS.dloadN X39.here hx rfl (hb hby d1_87) rfl ?_
    show Steps p.tables e below (T39.setTop (mkF m 88 #[.val (.ref o0), .val (.double d1), .second, .val (.double d2), .second, .val (.double d3), .second, .val (.ref b2), .val (.int (3 : Int32)), .val (.int (3 : Int32)), .val (.double d3), .second] [(.double d2), (.ref o0)])) _
    refine st44 _ ?_
    show Steps p.tables e below (T44.setTop (mkF m 91 #[.val (.ref o0), .val (.double d1), .second, .val (.double d2), .second, .val (.double d3), .second, .val (.ref b2), .val (.int (3 : Int32)), .val (.int (3 : Int32)), .val (.double d3), .second] [])) _
    refine XS.aloadN X44.here hx rfl (hb hby d1_91) rfl rfl ?_
    show Steps p.tables e below (T44.setTop (mkF m 92 #[.val (.ref o0), .val (.double d1), .second, .val (.double d2), .second, .val (.double d3), .second, .val (.ref b2), .val (.int (3 : Int32)), .val (.int (3 : Int32)), .val (.double d3), .second] [(.ref o0)])) _
    refine XS.dload X44.here hx rfl (hb hby d1_92) rfl ?_
    show Steps p.tables e below (T44.setTop (mkF m 94 #[.val (.ref o0), .val (.double d1), .second, .val (.double d2), .second, .val (.double d3), .second, .val (.ref b2), .val (.int (3 : Int32)), .val (.int (3 : Int32)), .val (.double d3), .second] [(.double d3), (.ref o0)])) _
    refine st49 _ ?_
    show Steps p.tables e below (T49.setTop (mkF m 97 #[.val (.ref o0), .val (.double d1), .second, .val (.double d2), .second, .val (.double d3), .second, .val (.ref b2), .val (.int (3 : Int32)), .val (.int (3 : Int32)), .val (.double d3), .second] [])) _
    exact X49.returnOut hx Bd.returns (hb hby d1_97) hr
  · show Q1 Z o0 d1 d2 d3 w37 w42 w47 h0 n0 _ T49.heap _
    rw [e49]
    exact ⟨rfl, N49, K50, c52, c53, Fw49⟩
theorem d4_0 : decode prog_44_method_2_code 0 = .ok (.aload_n 0, 1) := by decide +kernel
theorem d4_1 : decode prog_44_method_2_code 1 = .ok (.getfield 20, 3) := by decide +kernel
theorem d4_4 : decode prog_44_method_2_code 4 = .ok (.dload_n 1, 1) := by decide +kernel
theorem d4_5 : decode prog_44_method_2_code 5 = .ok (.dmul, 1) := by decide +kernel
theorem d4_6 : decode prog_44_method_2_code 6 = .ok (.aload_n 0, 1) := by decide +kernel
theorem d4_7 : decode prog_44_method_2_code 7 = .ok (.getfield 26, 3) := by decide +kernel
theorem d4_10 : decode prog_44_method_2_code 10 = .ok (.dload_n 3, 1) := by decide +kernel
theorem d4_11 : decode prog_44_method_2_code 11 = .ok (.dmul, 1) := by decide +kernel
theorem d4_12 : decode prog_44_method_2_code 12 = .ok (.dadd, 1) := by decide +kernel
theorem d4_13 : decode prog_44_method_2_code 13 = .ok (.aload_n 0, 1) := by decide +kernel
theorem d4_14 : decode prog_44_method_2_code 14 = .ok (.getfield 29, 3) := by decide +kernel
theorem d4_17 : decode prog_44_method_2_code 17 = .ok (.dload 5, 2) := by decide +kernel
theorem d4_19 : decode prog_44_method_2_code 19 = .ok (.dmul, 1) := by decide +kernel
theorem d4_20 : decode prog_44_method_2_code 20 = .ok (.dadd, 1) := by decide +kernel
theorem d4_21 : decode prog_44_method_2_code 21 = .ok (.dreturn, 1) := by decide +kernel
theorem pn_4 : plainName "com/example/cabweave/cabweave/Weights" = true := by first | (simp [plainName, overriddenIn]; done) | decide +kernel
theorem ef_4 (m : MethodId) (x0 : Addr) (x1 : UInt64) (x2 : UInt64) (x3 : UInt64) : entryFrame m #[(.ref x0), (.double x1), (.double x2), (.double x3)] 7 = mkF m 0 #[.val (.ref x0), .val (.double x1), .second, .val (.double x2), .second, .val (.double x3), .second] [] := by first | (simp [entryFrame, mkF, argsToLocals, Value.category]; done) | rfl
def f4 (d1 : UInt64) (d2 : UInt64) (d3 : UInt64) (x1 : UInt64) (x2 : UInt64) (x3 : UInt64) : UInt64 :=
  (FP.dadd (FP.dadd (FP.dmul x1 d1) (FP.dmul x2 d2)) (FP.dmul x3 d3))
def Q4 (Z : State) (o0 : Addr) (d1 : UInt64) (d2 : UInt64) (d3 : UInt64) (x1 : UInt64) (x2 : UInt64) (x3 : UInt64) (h0 : Heap) (n0 : Nat) (v : Option Value) (h : Heap) (L : List Loc) : Prop := v = some (.double (f4 d1 d2 d3 x1 x2 x3)) ∧ Fr n0 L ∧ h = h0
set_option maxRecDepth 65536 in
set_option maxHeartbeats 40000000 in
theorem rm4 (l : Launch) (Z : State) (a0 : Array Value) (hw : ∀ d ∈ tables_1, d.before a0 Z = true) (ws : List Jvm.Cond) (o0 : Addr) (d1 : UInt64) (d2 : UInt64) (d3 : UInt64) (x1 : UInt64) (x2 : UInt64) (x3 : UInt64) (h0 : Heap) (n0 : Nat) (Z0 : n0 ≤ h0.size) (F_driving_o0 : Fld Z h0 o0 "com/example/cabweave/cabweave/Weights" "driving" "D" (.double x1)) (F_extraRide_o0 : Fld Z h0 o0 "com/example/cabweave/cabweave/Weights" "extraRide" "D" (.double x2)) (F_waiting_o0 : Fld Z h0 o0 "com/example/cabweave/cabweave/Weights" "waiting" "D" (.double x3)) (n1 : Jvm.Free.Fl.NoNaN64 (FP.dmul x1 d1)) (n2 : Jvm.Free.Fl.NoNaN64 (FP.dmul x2 d2)) (n3 : Jvm.Free.Fl.NoNaN64 (FP.dadd (FP.dmul x1 d1) (FP.dmul x2 d2))) (n4 : Jvm.Free.Fl.NoNaN64 (FP.dmul x3 d3)) (n5 : Jvm.Free.Fl.NoNaN64 (FP.dadd (FP.dadd (FP.dmul x1 d1) (FP.dmul x2 d2)) (FP.dmul x3 d3))) :
    MetFree l (⟨"com/example/cabweave/cabweave/Weights", "cost", "(DDD)D"⟩ : MethodName) (head1 (Jvm.Cond.code (⟨"com/example/cabweave/cabweave/Weights", "cost", "(DDD)D"⟩ : MethodName) prog_44_method_2_code 7 (some .double) :: ws) ({ frames := 0, cells := 0, slots := 0, locals := 0 } : Room)) (fun a U => a = #[(.ref o0), (.double d1), (.double d2), (.double d3)] ∧ Z.Warmed39 U.vm ∧ U.heap = h0) (fun _ _ _ _ _ => True) (fun _ U o U' => ∃ v L, o = .returned v ∧ Q4 Z o0 d1 d2 d3 x1 x2 x3 h0 n0 v U'.heap L ∧ FrameEnd U o U' L ({ frames := 0, cells := 0, slots := 0, locals := 0 } : Room).cells ({ frames := 0, cells := 0, slots := 0, locals := 0 } : Room).slots) := by
  refine MetFree.of_bodySF (plainFor_of_name pn_4) hisR ?_
  intro p e s m args below meth c s₁ Bd hml0 hP hK
  obtain ⟨rfl, hZ, hh⟩ := hP
  have hx := Bd.exec
  have hby := Bd.bytes
  have hml : c.maxLocals = 7 := hml0
  have hown : s.vm.findClass "com/example/cabweave/cabweave/Weights" = some m.cls := findClass_of_methodNamed Bd.named
  have hnm := (name_of_methodNamed Bd.named Bd.method).1
  have X0 : Stand p l e ({ frames := 0, cells := 0, slots := 0, locals := 0 } : Room) s m #[(.ref o0), (.double d1), (.double d2), (.double d3)] below meth c s₁ [] 0 0 := Stand.of_body Bd
  have e0 : s₁.heap = h0 := by rw [← hh, Bd.state]; rfl
  have N0 := Fr.nil n0
  have pre0 : ∀ t, Steps p.tables e below (s₁.setTop (mkF m 0 #[.val (.ref o0), .val (.double d1), .second, .val (.double d2), .second, .val (.double d3), .second] [])) t → Steps p.tables e below (s₁.setTop (entryFrame m #[(.ref o0), (.double d1), (.double d2), (.double d3)] 7)) t := fun t k => castTop (ef_4 m o0 d1 d2 d3) k
  obtain ⟨T1, X1, e1, st1⟩ := getF X0 hx hZ hown (host := "") (Or.inl (hw _ (List.mem_of_getElem? (i := 17) rfl))) Via.refl e0 F_driving_o0 (g := (mkF m 1 #[.val (.ref o0), .val (.double d1), .second, .val (.double d2), .second, .val (.double d3), .second] [(.ref o0)])) rfl rfl (hb hby d4_1)
  obtain ⟨T2, X2, e2, st2⟩ := getF X1 hx hZ hown (host := "") (Or.inl (hw _ (List.mem_of_getElem? (i := 19) rfl))) Via.refl e1 F_extraRide_o0 (g := (mkF m 7 #[.val (.ref o0), .val (.double d1), .second, .val (.double d2), .second, .val (.double d3), .second] [(.ref o0), (.double (FP.dmul x1 d1))])) rfl rfl (hb hby d4_7)
  obtain ⟨T3, X3, e3, st3⟩ := getF X2 hx hZ hown (host := "") (Or.inl (hw _ (List.mem_of_getElem? (i := 21) rfl))) Via.refl e2 F_waiting_o0 (g := (mkF m 14 #[.val (.ref o0), .val (.double d1), .second, .val (.double d2), .second, .val (.double d3), .second] [(.ref o0), (.double (FP.dadd (FP.dmul x1 d1) (FP.dmul x2 d2)))])) rfl rfl (hb hby d4_14)
  obtain ⟨fs, hr, hrun, hended, hW, hsame⟩ := X3.leave (v := some (.double (FP.dadd (FP.dadd (FP.dmul x1 d1) (FP.dmul x2 d2)) (FP.dmul x3 d3)))) (fun h => by rw [Bd.returns] at h; cases h)
  have hv4 : (f4 d1 d2 d3 x1 x2 x3) = (FP.dadd (FP.dadd (FP.dmul x1 d1) (FP.dmul x2 d2)) (FP.dmul x3 d3)) := rfl
  refine ⟨_, _, pre0 _ ?_, hrun, hended, _, _, rfl, ?_, ⟨_, rfl⟩, hW, hsame.mono (by decide) (by decide)⟩
  · show Steps p.tables e below (s₁.setTop (mkF m 0 #[.val (.ref o0), .val (.double d1), .second, .val (.double d2), .second, .val (.double d3), .second] [])) _
    refine XS.aloadN X0.here hx rfl (hb hby d4_0) rfl rfl ?_
    show Steps p.tables e below (s₁.setTop (mkF m 1 #[.val (.ref o0), .val (.double d1), .second, .val (.double d2), .second, .val (.double d3), .second] [(.ref o0)])) _
    refine st1 _ ?_
    show Steps p.tables e below (T1.setTop (mkF m 4 #[.val (.ref o0), .val (.double d1), .second, .val (.double d2), .second, .val (.double d3), .second] [(.double x1)])) _
    refine XS.dloadN X1.here hx rfl (hb hby d4_4) rfl ?_
    show Steps p.tables e below (T1.setTop (mkF m 5 #[.val (.ref o0), .val (.double d1), .second, .val (.double d2), .second, .val (.double d3), .second] [(.double d1), (.double x1)])) _
    refine XS.dmulS X1.here hx rfl (hb hby d4_5) rfl n1 rfl ?_
    show Steps p.tables e below (T1.setTop (mkF m 6 #[.val (.ref o0), .val (.double d1), .second, .val (.double d2), .second, .val (.double d3), .second] [(.double (FP.dmul x1 d1))])) _
    refine XS.aloadN X1.here hx rfl (hb hby d4_6) rfl rfl ?_
    show Steps p.tables e below (T1.setTop (mkF m 7 #[.val (.ref o0), .val (.double d1), .second, .val (.double d2), .second, .val (.double d3), .second] [(.ref o0), (.double (FP.dmul x1 d1))])) _
    refine st2 _ ?_
    show Steps p.tables e below (T2.setTop (mkF m 10 #[.val (.ref o0), .val (.double d1), .second, .val (.double d2), .second, .val (.double d3), .second] [(.double x2), (.double (FP.dmul x1 d1))])) _
    refine XS.dloadN X2.here hx rfl (hb hby d4_10) rfl ?_
    show Steps p.tables e below (T2.setTop (mkF m 11 #[.val (.ref o0), .val (.double d1), .second, .val (.double d2), .second, .val (.double d3), .second] [(.double d2), (.double x2), (.double (FP.dmul x1 d1))])) _
    refine XS.dmulS X2.here hx rfl (hb hby d4_11) rfl n2 rfl ?_
    show Steps p.tables e below (T2.setTop (mkF m 12 #[.val (.ref o0), .val (.double d1), .second, .val (.double d2), .second, .val (.double d3), .second] [(.double (FP.dmul x2 d2)), (.double (FP.dmul x1 d1))])) _
    refine XS.daddS X2.here hx rfl (hb hby d4_12) rfl n3 rfl ?_
    show Steps p.tables e below (T2.setTop (mkF m 13 #[.val (.ref o0), .val (.double d1), .second, .val (.double d2), .second, .val (.double d3), .second] [(.double (FP.dadd (FP.dmul x1 d1) (FP.dmul x2 d2)))])) _
    refine XS.aloadN X2.here hx rfl (hb hby d4_13) rfl rfl ?_
    show Steps p.tables e below (T2.setTop (mkF m 14 #[.val (.ref o0), .val (.double d1), .second, .val (.double d2), .second, .val (.double d3), .second] [(.ref o0), (.double (FP.dadd (FP.dmul x1 d1) (FP.dmul x2 d2)))])) _
    refine st3 _ ?_
    show Steps p.tables e below (T3.setTop (mkF m 17 #[.val (.ref o0), .val (.double d1), .second, .val (.double d2), .second, .val (.double d3), .second] [(.double x3), (.double (FP.dadd (FP.dmul x1 d1) (FP.dmul x2 d2)))])) _
    refine XS.dload X3.here hx rfl (hb hby d4_17) rfl ?_
    show Steps p.tables e below (T3.setTop (mkF m 19 #[.val (.ref o0), .val (.double d1), .second, .val (.double d2), .second, .val (.double d3), .second] [(.double d3), (.double x3), (.double (FP.dadd (FP.dmul x1 d1) (FP.dmul x2 d2)))])) _
    refine XS.dmulS X3.here hx rfl (hb hby d4_19) rfl n4 rfl ?_
    show Steps p.tables e below (T3.setTop (mkF m 20 #[.val (.ref o0), .val (.double d1), .second, .val (.double d2), .second, .val (.double d3), .second] [(.double (FP.dmul x3 d3)), (.double (FP.dadd (FP.dmul x1 d1) (FP.dmul x2 d2)))])) _
    refine XS.daddS X3.here hx rfl (hb hby d4_20) rfl n5 rfl ?_
    show Steps p.tables e below (T3.setTop (mkF m 21 #[.val (.ref o0), .val (.double d1), .second, .val (.double d2), .second, .val (.double d3), .second] [(.double (FP.dadd (FP.dadd (FP.dmul x1 d1) (FP.dmul x2 d2)) (FP.dmul x3 d3)))])) _
    exact own_retD X3 hx Bd.returns (hb hby d4_21) hr
  · show Q4 Z o0 d1 d2 d3 x1 x2 x3 h0 n0 _ T3.heap _
    rw [e3]
    exact ⟨congrArg (fun q => some (Value.double q)) hv4.symm, N0, rfl⟩
theorem pn_0 : plainName "com/example/cabweave/cabweave/WeightsCostPinLaw" = true := by first | (simp [plainName, overriddenIn]; done) | decide +kernel
theorem pd_0_0 : parseMethodDescriptor "(DDD)V" = some ⟨[.double, .double, .double], none⟩ := by decide +kernel
theorem pd_0_1 : parseMethodDescriptor "(DDD)D" = some ⟨[.double, .double, .double], some .double⟩ := by decide +kernel
theorem ef_0 (m : MethodId) (x0 : Int32) (x1 : Int32) (x2 : Int32) (x3 : Int32) (x4 : Int32) (x5 : Int32) : entryFrame m #[(.int x0), (.int x1), (.int x2), (.int x3), (.int x4), (.int x5)] maxLocals = mkF m 0 #[.val (.int x0), .val (.int x1), .val (.int x2), .val (.int x3), .val (.int x4), .val (.int x5), .unset, .unset, .unset, .unset, .unset, .unset, .unset, .unset, .unset, .unset, .unset, .unset, .unset, .unset, .unset, .unset, .unset] [] := by first | (simp [entryFrame, mkF, argsToLocals, Value.category, maxLocals]; done) | rfl
def e0_1 (p0 : Int32) (p1 : Int32) (p2 : Int32) (p3 : Int32) (p4 : Int32) (p5 : Int32) : Int64 := (((((p0 &&& (1048575 : Int32)).toInt64) * ((p3 >>> ((11 : Int32) &&& 31)).toInt64)) + (((p1 &&& (1048575 : Int32)).toInt64) * ((p4 >>> ((11 : Int32) &&& 31)).toInt64))) + (((p2 &&& (1048575 : Int32)).toInt64) * ((p5 >>> ((11 : Int32) &&& 31)).toInt64)))
theorem own_w (x : Int32) : 0 ≤ ((x &&& (1048575 : Int32)).toInt64).toInt ∧ ((x &&& (1048575 : Int32)).toInt64).toInt ≤ 1048575 := by
  have h1 : (x &&& 1048575).toInt = x.toInt % 1048576 := c_mask x 1048575 20 (by decide) (by decide)
  have h2 := c_i2l (x &&& 1048575)
  omega
theorem own_m (x : Int32) : -1048576 ≤ ((x >>> ((11 : Int32) &&& 31)).toInt64).toInt ∧ ((x >>> ((11 : Int32) &&& 31)).toInt64).toInt ≤ 1048575 := by
  have h1 : (x >>> ((11 : Int32) &&& 31)).toInt = x.toInt / 2048 := c_ishr x 11 11 (by decide)
  have h2 := c_i2l (x >>> ((11 : Int32) &&& 31))
  have h3 := rng32 x
  omega
theorem own_dw (x : Int32) : FP.Core.DInt ((x &&& (1048575 : Int32)).toInt64).toInt (FP.l2d ((x &&& (1048575 : Int32)).toInt64)) := by
  refine FP.Core.l2d_int ?_
  have h := own_w x
  have e : (2 : Nat) ^ 53 = 9007199254740992 := by decide
  rw [e]; omega
theorem own_dm (x : Int32) : FP.Core.DInt ((x >>> ((11 : Int32) &&& 31)).toInt64).toInt (FP.l2d ((x >>> ((11 : Int32) &&& 31)).toInt64)) := by
  refine FP.Core.l2d_int ?_
  have h := own_m x
  have e : (2 : Nat) ^ 53 = 9007199254740992 := by decide
  rw [e]; omega
theorem own_nan {i : Int} {a : UInt64} (h : FP.Core.DInt i a) : Jvm.Free.Fl.NoNaN64 a := Jvm.Free.Fl.val64_no.mpr (FP.Core.DInt_ne_nan h)
theorem own_hz (x : Int32) : ¬ (cmpValue (FP.dcmp (FP.l2d ((x &&& (1048575 : Int32)).toInt64)) FP.dconst0) .l) < (0 : Int32) := by
  have z : FP.Core.DInt (0 : Int64).toInt (FP.l2d 0) := FP.Core.l2d_int (by decide)
  have e : FP.dconst0 = FP.l2d 0 := by rw [l2d_zero]; rfl
  have q : FP.dcmp (FP.l2d ((x &&& (1048575 : Int32)).toInt64)) (FP.l2d 0) = some (compare ((x &&& (1048575 : Int32)).toInt64).toInt (0 : Int64).toInt) := FP.Core.dcmp_int (own_dw x) z
  have w := own_w x
  have e0 : (0 : Int64).toInt = 0 := by decide
  rw [e, q, e0]
  generalize ((x &&& (1048575 : Int32)).toInt64).toInt = y at *
  by_cases h : y = 0
  · rw [Int.compare_eq_eq.mpr h]; decide
  · rw [Int.compare_eq_gt.mpr (by omega)]; decide
theorem own_hi (x : Int32) : (cmpValue (FP.dcmp (FP.l2d ((x &&& (1048575 : Int32)).toInt64)) (9218868437227405312 : UInt64)) .g) < (0 : Int32) := by
  rw [dcmp_pinf (Jvm.Free.Fl.l2d_fin _) .g]; decide
theorem own_pr (a b : Int32) : -1099511627776 ≤ ((a &&& (1048575 : Int32)).toInt64).toInt * ((b >>> ((11 : Int32) &&& 31)).toInt64).toInt ∧ ((a &&& (1048575 : Int32)).toInt64).toInt * ((b >>> ((11 : Int32) &&& 31)).toInt64).toInt ≤ 1099511627776 := by
  have h1 := own_w a
  have h2 := own_m b
  have := mc h1.1 h1.2 h2.1 h2.2
  generalize ((a &&& (1048575 : Int32)).toInt64).toInt = x at *
  generalize ((b >>> ((11 : Int32) &&& 31)).toInt64).toInt = y at *
  generalize x * y = z at *
  omega
theorem own_e53 : (2 : Nat) ^ 53 = 9007199254740992 := by decide
theorem own_dp (a b : Int32) : FP.Core.DInt (((a &&& (1048575 : Int32)).toInt64).toInt * ((b >>> ((11 : Int32) &&& 31)).toInt64).toInt) (FP.dmul (FP.l2d ((a &&& (1048575 : Int32)).toInt64)) (FP.l2d ((b >>> ((11 : Int32) &&& 31)).toInt64))) :=
  FP.Core.dmul_int (own_dw a) (own_dm b) (by have := own_pr a b; rw [own_e53]; omega)
theorem own_m1 (a b : Int32) : Jvm.Free.Fl.NoNaN64 (FP.dmul (FP.l2d ((a &&& (1048575 : Int32)).toInt64)) (FP.l2d ((b >>> ((11 : Int32) &&& 31)).toInt64))) := own_nan (own_dp a b)
theorem own_ds (a b c d : Int32) : FP.Core.DInt (((a &&& (1048575 : Int32)).toInt64).toInt * ((b >>> ((11 : Int32) &&& 31)).toInt64).toInt + ((c &&& (1048575 : Int32)).toInt64).toInt * ((d >>> ((11 : Int32) &&& 31)).toInt64).toInt) (FP.dadd (FP.dmul (FP.l2d ((a &&& (1048575 : Int32)).toInt64)) (FP.l2d ((b >>> ((11 : Int32) &&& 31)).toInt64))) (FP.dmul (FP.l2d ((c &&& (1048575 : Int32)).toInt64)) (FP.l2d ((d >>> ((11 : Int32) &&& 31)).toInt64)))) :=
  FP.Core.dadd_int (own_dp a b) (own_dp c d) (by have := own_pr a b; have := own_pr c d; rw [own_e53]; omega)
theorem own_m2 (a b c d : Int32) : Jvm.Free.Fl.NoNaN64 (FP.dadd (FP.dmul (FP.l2d ((a &&& (1048575 : Int32)).toInt64)) (FP.l2d ((b >>> ((11 : Int32) &&& 31)).toInt64))) (FP.dmul (FP.l2d ((c &&& (1048575 : Int32)).toInt64)) (FP.l2d ((d >>> ((11 : Int32) &&& 31)).toInt64)))) := own_nan (own_ds a b c d)
theorem own_dt (a b c d u v : Int32) : FP.Core.DInt (((a &&& (1048575 : Int32)).toInt64).toInt * ((b >>> ((11 : Int32) &&& 31)).toInt64).toInt + ((c &&& (1048575 : Int32)).toInt64).toInt * ((d >>> ((11 : Int32) &&& 31)).toInt64).toInt + ((u &&& (1048575 : Int32)).toInt64).toInt * ((v >>> ((11 : Int32) &&& 31)).toInt64).toInt) (FP.dadd (FP.dadd (FP.dmul (FP.l2d ((a &&& (1048575 : Int32)).toInt64)) (FP.l2d ((b >>> ((11 : Int32) &&& 31)).toInt64))) (FP.dmul (FP.l2d ((c &&& (1048575 : Int32)).toInt64)) (FP.l2d ((d >>> ((11 : Int32) &&& 31)).toInt64)))) (FP.dmul (FP.l2d ((u &&& (1048575 : Int32)).toInt64)) (FP.l2d ((v >>> ((11 : Int32) &&& 31)).toInt64)))) :=
  FP.Core.dadd_int (own_ds a b c d) (own_dp u v) (by have := own_pr a b; have := own_pr c d; have := own_pr u v; rw [own_e53]; omega)
theorem own_m3 (a b c d u v : Int32) : Jvm.Free.Fl.NoNaN64 (FP.dadd (FP.dadd (FP.dmul (FP.l2d ((a &&& (1048575 : Int32)).toInt64)) (FP.l2d ((b >>> ((11 : Int32) &&& 31)).toInt64))) (FP.dmul (FP.l2d ((c &&& (1048575 : Int32)).toInt64)) (FP.l2d ((d >>> ((11 : Int32) &&& 31)).toInt64)))) (FP.dmul (FP.l2d ((u &&& (1048575 : Int32)).toInt64)) (FP.l2d ((v >>> ((11 : Int32) &&& 31)).toInt64)))) := own_nan (own_dt a b c d u v)
theorem own_pm (a b : Int32) : (((a &&& (1048575 : Int32)).toInt64) * ((b >>> ((11 : Int32) &&& 31)).toInt64)).toInt = ((a &&& (1048575 : Int32)).toInt64).toInt * ((b >>> ((11 : Int32) &&& 31)).toInt64).toInt := by
  have h := own_pr a b
  have q := c_lmul ((a &&& (1048575 : Int32)).toInt64) ((b >>> ((11 : Int32) &&& 31)).toInt64)
  have r := rng64 (((a &&& (1048575 : Int32)).toInt64) * ((b >>> ((11 : Int32) &&& 31)).toInt64))
  generalize ((a &&& (1048575 : Int32)).toInt64).toInt * ((b >>> ((11 : Int32) &&& 31)).toInt64).toInt = z at *
  omega
theorem own_exp (p0 p1 p2 p3 p4 p5 : Int32) : (e0_1 p0 p1 p2 p3 p4 p5).toInt = ((p0 &&& (1048575 : Int32)).toInt64).toInt * ((p3 >>> ((11 : Int32) &&& 31)).toInt64).toInt + ((p1 &&& (1048575 : Int32)).toInt64).toInt * ((p4 >>> ((11 : Int32) &&& 31)).toInt64).toInt + ((p2 &&& (1048575 : Int32)).toInt64).toInt * ((p5 >>> ((11 : Int32) &&& 31)).toInt64).toInt ∧ (e0_1 p0 p1 p2 p3 p4 p5).toInt.natAbs ≤ 2 ^ 53 := by
  have a1 := own_pr p0 p3
  have a2 := own_pr p1 p4
  have a3 := own_pr p2 p5
  have b1 := own_pm p0 p3
  have b2 := own_pm p1 p4
  have b3 := own_pm p2 p5
  rw [own_e53]
  unfold e0_1
  generalize ((p0 &&& (1048575 : Int32)).toInt64) * ((p3 >>> ((11 : Int32) &&& 31)).toInt64) = x at *
  generalize ((p1 &&& (1048575 : Int32)).toInt64) * ((p4 >>> ((11 : Int32) &&& 31)).toInt64) = y at *
  generalize ((p2 &&& (1048575 : Int32)).toInt64) * ((p5 >>> ((11 : Int32) &&& 31)).toInt64) = z at *
  have c1 := c_ladd x y
  have c2 := rng64 (x + y)
  have c3 := c_ladd (x + y) z
  have c4 := rng64 (x + y + z)
  omega
theorem own_fin (p0 p1 p2 p3 p4 p5 : Int32) : (cmpValue (FP.dcmp (f4 (FP.l2d ((p3 >>> ((11 : Int32) &&& 31)).toInt64)) (FP.l2d ((p4 >>> ((11 : Int32) &&& 31)).toInt64)) (FP.l2d ((p5 >>> ((11 : Int32) &&& 31)).toInt64)) (FP.l2d ((p0 &&& (1048575 : Int32)).toInt64)) (FP.l2d ((p1 &&& (1048575 : Int32)).toInt64)) (FP.l2d ((p2 &&& (1048575 : Int32)).toInt64))) (FP.l2d (e0_1 p0 p1 p2 p3 p4 p5))) .l) = (0 : Int32) := by
  obtain ⟨h1, h2⟩ := own_exp p0 p1 p2 p3 p4 p5
  have q := FP.Core.dcmp_int (own_dt p0 p3 p1 p4 p2 p5) (FP.Core.l2d_int h2)
  rw [h1, Int.compare_eq_eq.mpr rfl] at q
  have q' : FP.dcmp (f4 (FP.l2d ((p3 >>> ((11 : Int32) &&& 31)).toInt64)) (FP.l2d ((p4 >>> ((11 : Int32) &&& 31)).toInt64)) (FP.l2d ((p5 >>> ((11 : Int32) &&& 31)).toInt64)) (FP.l2d ((p0 &&& (1048575 : Int32)).toInt64)) (FP.l2d ((p1 &&& (1048575 : Int32)).toInt64)) (FP.l2d ((p2 &&& (1048575 : Int32)).toInt64))) (FP.l2d (e0_1 p0 p1 p2 p3 p4 p5)) = some .eq := q
  rw [q']
  rfl
def Q0 (Z : State) (p0 : Int32) (p1 : Int32) (p2 : Int32) (p3 : Int32) (p4 : Int32) (p5 : Int32) (h0 : Heap) (n0 : Nat) (v : Option Value) (h : Heap) (L : List Loc) : Prop := v = some (.int (1 : Int32)) ∧ Fr n0 L
set_option maxRecDepth 65536 in
set_option maxHeartbeats 40000000 in
theorem rm0 (l : Launch) (Z : State) (a0 : Array Value) (hw : ∀ d ∈ tables_1, d.before a0 Z = true) (ws : List Jvm.Cond) (p0 : Int32) (p1 : Int32) (p2 : Int32) (p3 : Int32) (p4 : Int32) (p5 : Int32) (h0 : Heap) (n0 : Nat) (Z0 : n0 ≤ h0.size) :
    MetFree l x (head1 (Jvm.Cond.code x code maxLocals ret :: ws) room_1) (fun a U => a = #[(.int p0), (.int p1), (.int p2), (.int p3), (.int p4), (.int p5)] ∧ Z.Warmed39 U.vm ∧ U.heap = h0) (fun _ _ _ _ _ => True) (fun _ U o U' => ∃ v L, o = .returned v ∧ Q0 Z p0 p1 p2 p3 p4 p5 h0 n0 v U'.heap L ∧ FrameEnd U o U' L room_1.cells room_1.slots) := by
  refine MetFree.of_bodySF (plainFor_of_name pn_0) hisR ?_
  intro p e s m args below meth c s₁ Bd hml0 hP hK
  obtain ⟨rfl, hZ, hh⟩ := hP
  have hx := Bd.exec
  have hby := Bd.bytes
  have hml : c.maxLocals = 23 := hml0
  have hown : s.vm.findClass "com/example/cabweave/cabweave/WeightsCostPinLaw" = some m.cls := findClass_of_methodNamed Bd.named
  have hnm := (name_of_methodNamed Bd.named Bd.method).1
  have X0 : Stand p l e room_1 s m #[(.int p0), (.int p1), (.int p2), (.int p3), (.int p4), (.int p5)] below meth c s₁ [] 0 0 := Stand.of_body Bd
  have e0 : s₁.heap = h0 := by rw [← hh, Bd.state]; rfl
  have N0 := Fr.nil n0
  have pre0 : ∀ t, Steps p.tables e below (s₁.setTop (mkF m 0 #[.val (.int p0), .val (.int p1), .val (.int p2), .val (.int p3), .val (.int p4), .val (.int p5), .unset, .unset, .unset, .unset, .unset, .unset, .unset, .unset, .unset, .unset, .unset, .unset, .unset, .unset, .unset, .unset, .unset] [])) t → Steps p.tables e below (s₁.setTop (entryFrame m #[(.int p0), (.int p1), (.int p2), (.int p3), (.int p4), (.int p5)] maxLocals)) t := fun t k => castTop (ef_0 m p0 p1 p2 p3 p4 p5) k
  obtain ⟨T1, h1, X1, e1, E1, A1, D1, -, st1⟩ := newO X0 hx hZ hown (hw _ (List.mem_of_getElem? (i := 1) rfl)) (hw _ (List.mem_of_getElem? (i := 2) rfl)) (hw _ (List.mem_of_getElem? (i := 3) rfl)) e0 (g := (mkF m 44 #[.val (.int p0), .val (.int p1), .val (.int p2), .val (.int p3), .val (.int p4), .val (.int p5), .val (.long ((p0 &&& (1048575 : Int32)).toInt64)), .second, .val (.long ((p1 &&& (1048575 : Int32)).toInt64)), .second, .val (.long ((p2 &&& (1048575 : Int32)).toInt64)), .second, .val (.long ((p3 >>> ((11 : Int32) &&& 31)).toInt64)), .second, .val (.long ((p4 >>> ((11 : Int32) &&& 31)).toInt64)), .second, .val (.long ((p5 >>> ((11 : Int32) &&& 31)).toInt64)), .second, .unset, .unset, .unset, .unset, .unset] [])) rfl (hb hby at_44) (by decide) (by decide)
  obtain ⟨b1, g1⟩ : ∃ z, z = h0.size := ⟨_, rfl⟩
  rw [← g1] at A1 D1 st1
  have g_b1 : n0 ≤ b1 := Nat.le_trans Z0 (Nat.le_of_eq g1.symm)
  have sz_b1 : h0.size ≤ b1 := Nat.le_trans (Keep.refl h0 []).1 (Nat.le_of_eq g1.symm)
  have K2 : Keep h0 h1 [] := (Keep.refl h0 []).ext E1
  have Z3 : n0 ≤ h1.size := Nat.le_trans Z0 K2.1
  have E_b1 := A1
  have F_driving_b1 : Fld Z h1 b1 "com/example/cabweave/cabweave/Weights" "driving" "D" (.double (0 : UInt64)) := D1 (Or.inr (hw _ (List.mem_of_getElem? (i := 18) rfl))) (ty := .double) (by decide)
  have F_extraRide_b1 : Fld Z h1 b1 "com/example/cabweave/cabweave/Weights" "extraRide" "D" (.double (0 : UInt64)) := D1 (Or.inr (hw _ (List.mem_of_getElem? (i := 20) rfl))) (ty := .double) (by decide)
  have F_waiting_b1 : Fld Z h1 b1 "com/example/cabweave/cabweave/Weights" "waiting" "D" (.double (0 : UInt64)) := D1 (Or.inr (hw _ (List.mem_of_getElem? (i := 22) rfl))) (ty := .double) (by decide)
  obtain ⟨_, _, ⟨T4, L4, k4, n4⟩, -, X4, ⟨Lc4, hQ4, l4, y4, z4⟩, st4⟩ := X1.specialBack hx (y := (⟨"com/example/cabweave/cabweave/Weights", "<init>", "(DDD)V"⟩ : MethodName)) rfl hown (mvT hZ (hw _ (List.mem_of_getElem? (i := 4) rfl))) (mvT hZ (hw _ (List.mem_of_getElem? (i := 5) rfl))) (mvT hZ (hw _ (List.mem_of_getElem? (i := 6) rfl))) (by decide) (backOf (W := 1) (rm1 l Z a0 hw [] b1 (FP.l2d ((p0 &&& (1048575 : Int32)).toInt64)) (FP.l2d ((p1 &&& (1048575 : Int32)).toInt64)) (FP.l2d ((p2 &&& (1048575 : Int32)).toInt64)) (0 : UInt64) (0 : UInt64) (0 : UInt64) h1 n0 Z3 E_b1 g_b1 (own_hz _) (own_hz _) (own_hz _) (own_hi _) (own_hi _) (own_hi _) F_driving_b1 F_extraRide_b1 F_waiting_b1) hZ (hw _ (List.mem_of_getElem? (i := 6) rfl)) (hw _ (List.mem_of_getElem? (i := 3) rfl)) (by decide) (by decide)) (g := (mkF m 57 #[.val (.int p0), .val (.int p1), .val (.int p2), .val (.int p3), .val (.int p4), .val (.int p5), .val (.long ((p0 &&& (1048575 : Int32)).toInt64)), .second, .val (.long ((p1 &&& (1048575 : Int32)).toInt64)), .second, .val (.long ((p2 &&& (1048575 : Int32)).toInt64)), .second, .val (.long ((p3 >>> ((11 : Int32) &&& 31)).toInt64)), .second, .val (.long ((p4 >>> ((11 : Int32) &&& 31)).toInt64)), .second, .val (.long ((p5 >>> ((11 : Int32) &&& 31)).toInt64)), .second, .unset, .unset, .unset, .unset, .unset] [(.double (FP.l2d ((p2 &&& (1048575 : Int32)).toInt64))), (.double (FP.l2d ((p1 &&& (1048575 : Int32)).toInt64))), (.double (FP.l2d ((p0 &&& (1048575 : Int32)).toInt64))), (.ref b1), (.ref b1)])) rfl (by rw [hml]; rfl) (Steps.refl _) (a := b1) (argsL := [(.double (FP.l2d ((p0 &&& (1048575 : Int32)).toInt64))), (.double (FP.l2d ((p1 &&& (1048575 : Int32)).toInt64))), (.double (FP.l2d ((p2 &&& (1048575 : Int32)).toInt64)))]) (rest := [(.ref b1)]) (lenOf pd_0_0 rfl) rfl (by show 2 * 0 + _ ≤ _; exact Nat.le_of_eq rfl) (hb hby at_57) (fun _ _ => ⟨rfl, e1, (by decide : 1 + 1 ≤ _), (by decide : 3 + 3 ≤ _)⟩)
  dsimp only [Pt.U, Pt.locs, Pt.cells, Pt.slots] at X4 l4 y4 z4 st4 hQ4
  subst l4 y4 z4
  obtain ⟨rfl, N4q, K4q, G4_0, G4_1, G4_2⟩ := hQ4
  have N4 := Fr.app N0 N4q
  have K5 : Keep h0 T4.heap [] := K2.trans K4q (allS (Or.inr sz_b1) all0)
  have Z6 : n0 ≤ T4.heap.size := Nat.le_trans Z0 K5.1
  obtain ⟨LS4, X4, N4⟩ : ∃ L, Stand p l e room_1 s m #[(.int p0), (.int p1), (.int p2), (.int p3), (.int p4), (.int p5)] below meth c T4 L 2 6 ∧ Fr n0 L := ⟨_, X4, N4⟩
  obtain ⟨cq7, kq7, q7a, q7b, q7c⟩ := isOf hZ rfl (E_b1.keep K4q)
  obtain ⟨_, _, ⟨T7, L7, k7, n7⟩, -, X7, ⟨Lc7, hQ7, l7, y7, z7⟩, st7⟩ := X4.virtualBack hx (y := (⟨"com/example/cabweave/cabweave/Weights", "cost", "(DDD)D"⟩ : MethodName)) (z := (⟨"com/example/cabweave/cabweave/Weights", "cost", "(DDD)D"⟩ : MethodName)) hown (mvT hZ (hw _ (List.mem_of_getElem? (i := 23) rfl))) (mvT hZ (hw _ (List.mem_of_getElem? (i := 24) rfl))) (notFace_of_selects (args := #[]) (mvT hZ (hw _ (List.mem_of_getElem? (i := 26) rfl)))) (mvT hZ (hw _ (List.mem_of_getElem? (i := 26) rfl))) (mvT hZ (hw _ (List.mem_of_getElem? (i := 25) rfl))) (by decide) (backOf (W := 0) (rm4 l Z a0 hw [] b1 (FP.l2d ((p3 >>> ((11 : Int32) &&& 31)).toInt64)) (FP.l2d ((p4 >>> ((11 : Int32) &&& 31)).toInt64)) (FP.l2d ((p5 >>> ((11 : Int32) &&& 31)).toInt64)) (FP.l2d ((p0 &&& (1048575 : Int32)).toInt64)) (FP.l2d ((p1 &&& (1048575 : Int32)).toInt64)) (FP.l2d ((p2 &&& (1048575 : Int32)).toInt64)) T4.heap n0 Z6 G4_0 G4_1 G4_2 (own_m1 _ _) (own_m1 _ _) (own_m2 _ _ _ _) (own_m1 _ _) (own_m3 _ _ _ _ _ _)) hZ (hw _ (List.mem_of_getElem? (i := 27) rfl)) (hw _ (List.mem_of_getElem? (i := 3) rfl)) (by decide) (by decide)) q7a q7c (g := (mkF m 92 #[.val (.int p0), .val (.int p1), .val (.int p2), .val (.int p3), .val (.int p4), .val (.int p5), .val (.long ((p0 &&& (1048575 : Int32)).toInt64)), .second, .val (.long ((p1 &&& (1048575 : Int32)).toInt64)), .second, .val (.long ((p2 &&& (1048575 : Int32)).toInt64)), .second, .val (.long ((p3 >>> ((11 : Int32) &&& 31)).toInt64)), .second, .val (.long ((p4 >>> ((11 : Int32) &&& 31)).toInt64)), .second, .val (.long ((p5 >>> ((11 : Int32) &&& 31)).toInt64)), .second, .val (.ref b1), .val (.long (e0_1 p0 p1 p2 p3 p4 p5)), .second, .unset, .unset] [(.double (FP.l2d ((p5 >>> ((11 : Int32) &&& 31)).toInt64))), (.double (FP.l2d ((p4 >>> ((11 : Int32) &&& 31)).toInt64))), (.double (FP.l2d ((p3 >>> ((11 : Int32) &&& 31)).toInt64))), (.ref b1)])) rfl (by rw [hml]; rfl) (Steps.refl _) (argsL := [(.double (FP.l2d ((p3 >>> ((11 : Int32) &&& 31)).toInt64))), (.double (FP.l2d ((p4 >>> ((11 : Int32) &&& 31)).toInt64))), (.double (FP.l2d ((p5 >>> ((11 : Int32) &&& 31)).toInt64)))]) (rest := []) (lenOf pd_0_1 rfl) rfl (by show 2 * 0 + _ ≤ _; exact Nat.le_of_eq rfl) (hb hby at_92) (fun _ _ => ⟨rfl, rfl, (by decide : 2 + 0 ≤ _), (by decide : 6 + 0 ≤ _)⟩)
  dsimp only [Pt.U, Pt.locs, Pt.cells, Pt.slots] at X7 l7 y7 z7 st7 hQ7
  subst l7 y7 z7
  obtain ⟨rfl, N7q, e7q⟩ := hQ7
  have N7 := Fr.app N4 N7q
  have pre8 : ∀ t, Steps p.tables e below (T7.setTop (mkF m 103 #[.val (.int p0), .val (.int p1), .val (.int p2), .val (.int p3), .val (.int p4), .val (.int p5), .val (.long ((p0 &&& (1048575 : Int32)).toInt64)), .second, .val (.long ((p1 &&& (1048575 : Int32)).toInt64)), .second, .val (.long ((p2 &&& (1048575 : Int32)).toInt64)), .second, .val (.long ((p3 >>> ((11 : Int32) &&& 31)).toInt64)), .second, .val (.long ((p4 >>> ((11 : Int32) &&& 31)).toInt64)), .second, .val (.long ((p5 >>> ((11 : Int32) &&& 31)).toInt64)), .second, .val (.ref b1), .val (.long (e0_1 p0 p1 p2 p3 p4 p5)), .second, .val (.double (f4 (FP.l2d ((p3 >>> ((11 : Int32) &&& 31)).toInt64)) (FP.l2d ((p4 >>> ((11 : Int32) &&& 31)).toInt64)) (FP.l2d ((p5 >>> ((11 : Int32) &&& 31)).toInt64)) (FP.l2d ((p0 &&& (1048575 : Int32)).toInt64)) (FP.l2d ((p1 &&& (1048575 : Int32)).toInt64)) (FP.l2d ((p2 &&& (1048575 : Int32)).toInt64)))), .second] [(.int (cmpValue (FP.dcmp (f4 (FP.l2d ((p3 >>> ((11 : Int32) &&& 31)).toInt64)) (FP.l2d ((p4 >>> ((11 : Int32) &&& 31)).toInt64)) (FP.l2d ((p5 >>> ((11 : Int32) &&& 31)).toInt64)) (FP.l2d ((p0 &&& (1048575 : Int32)).toInt64)) (FP.l2d ((p1 &&& (1048575 : Int32)).toInt64)) (FP.l2d ((p2 &&& (1048575 : Int32)).toInt64))) (FP.l2d (e0_1 p0 p1 p2 p3 p4 p5))) .l))])) t → Steps p.tables e below (s₁.setTop (entryFrame m #[(.int p0), (.int p1), (.int p2), (.int p3), (.int p4), (.int p5)] maxLocals)) t := fun t kt => pre0 t (by
      show Steps p.tables e below (s₁.setTop (mkF m 0 #[.val (.int p0), .val (.int p1), .val (.int p2), .val (.int p3), .val (.int p4), .val (.int p5), .unset, .unset, .unset, .unset, .unset, .unset, .unset, .unset, .unset, .unset, .unset, .unset, .unset, .unset, .unset, .unset, .unset] [])) _
      refine XS.iloadN X0.here hx rfl (hb hby at_0) rfl ?_
      show Steps p.tables e below (s₁.setTop (mkF m 1 #[.val (.int p0), .val (.int p1), .val (.int p2), .val (.int p3), .val (.int p4), .val (.int p5), .unset, .unset, .unset, .unset, .unset, .unset, .unset, .unset, .unset, .unset, .unset, .unset, .unset, .unset, .unset, .unset, .unset] [(.int p0)])) _
      refine X0.ldcInt hx hown (mvT hZ (hw _ (List.mem_of_getElem? (i := 0) rfl))) (g := (mkF m 1 #[.val (.int p0), .val (.int p1), .val (.int p2), .val (.int p3), .val (.int p4), .val (.int p5), .unset, .unset, .unset, .unset, .unset, .unset, .unset, .unset, .unset, .unset, .unset, .unset, .unset, .unset, .unset, .unset, .unset] [(.int p0)])) rfl (hb hby at_1) _ ?_
      show Steps p.tables e below (s₁.setTop (mkF m 3 #[.val (.int p0), .val (.int p1), .val (.int p2), .val (.int p3), .val (.int p4), .val (.int p5), .unset, .unset, .unset, .unset, .unset, .unset, .unset, .unset, .unset, .unset, .unset, .unset, .unset, .unset, .unset, .unset, .unset] [(.int (1048575 : Int32)), (.int p0)])) _
      refine XS.iand X0.here hx rfl (hb hby at_3) rfl ?_
      show Steps p.tables e below (s₁.setTop (mkF m 4 #[.val (.int p0), .val (.int p1), .val (.int p2), .val (.int p3), .val (.int p4), .val (.int p5), .unset, .unset, .unset, .unset, .unset, .unset, .unset, .unset, .unset, .unset, .unset, .unset, .unset, .unset, .unset, .unset, .unset] [(.int (p0 &&& (1048575 : Int32)))])) _
      refine XS.i2l X0.here hx rfl (hb hby at_4) rfl ?_
      show Steps p.tables e below (s₁.setTop (mkF m 5 #[.val (.int p0), .val (.int p1), .val (.int p2), .val (.int p3), .val (.int p4), .val (.int p5), .unset, .unset, .unset, .unset, .unset, .unset, .unset, .unset, .unset, .unset, .unset, .unset, .unset, .unset, .unset, .unset, .unset] [(.long ((p0 &&& (1048575 : Int32)).toInt64))])) _
      refine XS.lstore X0.here hx rfl (hb hby at_5) rfl (l' := #[.val (.int p0), .val (.int p1), .val (.int p2), .val (.int p3), .val (.int p4), .val (.int p5), .val (.long ((p0 &&& (1048575 : Int32)).toInt64)), .second, .unset, .unset, .unset, .unset, .unset, .unset, .unset, .unset, .unset, .unset, .unset, .unset, .unset, .unset, .unset]) rfl ?_
      show Steps p.tables e below (s₁.setTop (mkF m 7 #[.val (.int p0), .val (.int p1), .val (.int p2), .val (.int p3), .val (.int p4), .val (.int p5), .val (.long ((p0 &&& (1048575 : Int32)).toInt64)), .second, .unset, .unset, .unset, .unset, .unset, .unset, .unset, .unset, .unset, .unset, .unset, .unset, .unset, .unset, .unset] [])) _
      refine XS.iloadN X0.here hx rfl (hb hby at_7) rfl ?_
      show Steps p.tables e below (s₁.setTop (mkF m 8 #[.val (.int p0), .val (.int p1), .val (.int p2), .val (.int p3), .val (.int p4), .val (.int p5), .val (.long ((p0 &&& (1048575 : Int32)).toInt64)), .second, .unset, .unset, .unset, .unset, .unset, .unset, .unset, .unset, .unset, .unset, .unset, .unset, .unset, .unset, .unset] [(.int p1)])) _
      refine X0.ldcInt hx hown (mvT hZ (hw _ (List.mem_of_getElem? (i := 0) rfl))) (g := (mkF m 8 #[.val (.int p0), .val (.int p1), .val (.int p2), .val (.int p3), .val (.int p4), .val (.int p5), .val (.long ((p0 &&& (1048575 : Int32)).toInt64)), .second, .unset, .unset, .unset, .unset, .unset, .unset, .unset, .unset, .unset, .unset, .unset, .unset, .unset, .unset, .unset] [(.int p1)])) rfl (hb hby at_8) _ ?_
      show Steps p.tables e below (s₁.setTop (mkF m 10 #[.val (.int p0), .val (.int p1), .val (.int p2), .val (.int p3), .val (.int p4), .val (.int p5), .val (.long ((p0 &&& (1048575 : Int32)).toInt64)), .second, .unset, .unset, .unset, .unset, .unset, .unset, .unset, .unset, .unset, .unset, .unset, .unset, .unset, .unset, .unset] [(.int (1048575 : Int32)), (.int p1)])) _
      refine XS.iand X0.here hx rfl (hb hby at_10) rfl ?_
      show Steps p.tables e below (s₁.setTop (mkF m 11 #[.val (.int p0), .val (.int p1), .val (.int p2), .val (.int p3), .val (.int p4), .val (.int p5), .val (.long ((p0 &&& (1048575 : Int32)).toInt64)), .second, .unset, .unset, .unset, .unset, .unset, .unset, .unset, .unset, .unset, .unset, .unset, .unset, .unset, .unset, .unset] [(.int (p1 &&& (1048575 : Int32)))])) _
      refine XS.i2l X0.here hx rfl (hb hby at_11) rfl ?_
      show Steps p.tables e below (s₁.setTop (mkF m 12 #[.val (.int p0), .val (.int p1), .val (.int p2), .val (.int p3), .val (.int p4), .val (.int p5), .val (.long ((p0 &&& (1048575 : Int32)).toInt64)), .second, .unset, .unset, .unset, .unset, .unset, .unset, .unset, .unset, .unset, .unset, .unset, .unset, .unset, .unset, .unset] [(.long ((p1 &&& (1048575 : Int32)).toInt64))])) _
      refine XS.lstore X0.here hx rfl (hb hby at_12) rfl (l' := #[.val (.int p0), .val (.int p1), .val (.int p2), .val (.int p3), .val (.int p4), .val (.int p5), .val (.long ((p0 &&& (1048575 : Int32)).toInt64)), .second, .val (.long ((p1 &&& (1048575 : Int32)).toInt64)), .second, .unset, .unset, .unset, .unset, .unset, .unset, .unset, .unset, .unset, .unset, .unset, .unset, .unset]) rfl ?_
      show Steps p.tables e below (s₁.setTop (mkF m 14 #[.val (.int p0), .val (.int p1), .val (.int p2), .val (.int p3), .val (.int p4), .val (.int p5), .val (.long ((p0 &&& (1048575 : Int32)).toInt64)), .second, .val (.long ((p1 &&& (1048575 : Int32)).toInt64)), .second, .unset, .unset, .unset, .unset, .unset, .unset, .unset, .unset, .unset, .unset, .unset, .unset, .unset] [])) _
      refine XS.iloadN X0.here hx rfl (hb hby at_14) rfl ?_
      show Steps p.tables e below (s₁.setTop (mkF m 15 #[.val (.int p0), .val (.int p1), .val (.int p2), .val (.int p3), .val (.int p4), .val (.int p5), .val (.long ((p0 &&& (1048575 : Int32)).toInt64)), .second, .val (.long ((p1 &&& (1048575 : Int32)).toInt64)), .second, .unset, .unset, .unset, .unset, .unset, .unset, .unset, .unset, .unset, .unset, .unset, .unset, .unset] [(.int p2)])) _
      refine X0.ldcInt hx hown (mvT hZ (hw _ (List.mem_of_getElem? (i := 0) rfl))) (g := (mkF m 15 #[.val (.int p0), .val (.int p1), .val (.int p2), .val (.int p3), .val (.int p4), .val (.int p5), .val (.long ((p0 &&& (1048575 : Int32)).toInt64)), .second, .val (.long ((p1 &&& (1048575 : Int32)).toInt64)), .second, .unset, .unset, .unset, .unset, .unset, .unset, .unset, .unset, .unset, .unset, .unset, .unset, .unset] [(.int p2)])) rfl (hb hby at_15) _ ?_
      show Steps p.tables e below (s₁.setTop (mkF m 17 #[.val (.int p0), .val (.int p1), .val (.int p2), .val (.int p3), .val (.int p4), .val (.int p5), .val (.long ((p0 &&& (1048575 : Int32)).toInt64)), .second, .val (.long ((p1 &&& (1048575 : Int32)).toInt64)), .second, .unset, .unset, .unset, .unset, .unset, .unset, .unset, .unset, .unset, .unset, .unset, .unset, .unset] [(.int (1048575 : Int32)), (.int p2)])) _
      refine XS.iand X0.here hx rfl (hb hby at_17) rfl ?_
      show Steps p.tables e below (s₁.setTop (mkF m 18 #[.val (.int p0), .val (.int p1), .val (.int p2), .val (.int p3), .val (.int p4), .val (.int p5), .val (.long ((p0 &&& (1048575 : Int32)).toInt64)), .second, .val (.long ((p1 &&& (1048575 : Int32)).toInt64)), .second, .unset, .unset, .unset, .unset, .unset, .unset, .unset, .unset, .unset, .unset, .unset, .unset, .unset] [(.int (p2 &&& (1048575 : Int32)))])) _
      refine XS.i2l X0.here hx rfl (hb hby at_18) rfl ?_
      show Steps p.tables e below (s₁.setTop (mkF m 19 #[.val (.int p0), .val (.int p1), .val (.int p2), .val (.int p3), .val (.int p4), .val (.int p5), .val (.long ((p0 &&& (1048575 : Int32)).toInt64)), .second, .val (.long ((p1 &&& (1048575 : Int32)).toInt64)), .second, .unset, .unset, .unset, .unset, .unset, .unset, .unset, .unset, .unset, .unset, .unset, .unset, .unset] [(.long ((p2 &&& (1048575 : Int32)).toInt64))])) _
      refine XS.lstore X0.here hx rfl (hb hby at_19) rfl (l' := #[.val (.int p0), .val (.int p1), .val (.int p2), .val (.int p3), .val (.int p4), .val (.int p5), .val (.long ((p0 &&& (1048575 : Int32)).toInt64)), .second, .val (.long ((p1 &&& (1048575 : Int32)).toInt64)), .second, .val (.long ((p2 &&& (1048575 : Int32)).toInt64)), .second, .unset, .unset, .unset, .unset, .unset, .unset, .unset, .unset, .unset, .unset, .unset]) rfl ?_
      show Steps p.tables e below (s₁.setTop (mkF m 21 #[.val (.int p0), .val (.int p1), .val (.int p2), .val (.int p3), .val (.int p4), .val (.int p5), .val (.long ((p0 &&& (1048575 : Int32)).toInt64)), .second, .val (.long ((p1 &&& (1048575 : Int32)).toInt64)), .second, .val (.long ((p2 &&& (1048575 : Int32)).toInt64)), .second, .unset, .unset, .unset, .unset, .unset, .unset, .unset, .unset, .unset, .unset, .unset] [])) _
      refine XS.iloadN X0.here hx rfl (hb hby at_21) rfl ?_
      show Steps p.tables e below (s₁.setTop (mkF m 22 #[.val (.int p0), .val (.int p1), .val (.int p2), .val (.int p3), .val (.int p4), .val (.int p5), .val (.long ((p0 &&& (1048575 : Int32)).toInt64)), .second, .val (.long ((p1 &&& (1048575 : Int32)).toInt64)), .second, .val (.long ((p2 &&& (1048575 : Int32)).toInt64)), .second, .unset, .unset, .unset, .unset, .unset, .unset, .unset, .unset, .unset, .unset, .unset] [(.int p3)])) _
      refine XS.bipush X0.here hx rfl (hb hby at_22) ?_
      show Steps p.tables e below (s₁.setTop (mkF m 24 #[.val (.int p0), .val (.int p1), .val (.int p2), .val (.int p3), .val (.int p4), .val (.int p5), .val (.long ((p0 &&& (1048575 : Int32)).toInt64)), .second, .val (.long ((p1 &&& (1048575 : Int32)).toInt64)), .second, .val (.long ((p2 &&& (1048575 : Int32)).toInt64)), .second, .unset, .unset, .unset, .unset, .unset, .unset, .unset, .unset, .unset, .unset, .unset] [(.int (11 : Int32)), (.int p3)])) _
      refine XS.ishr X0.here hx rfl (hb hby at_24) rfl ?_
      show Steps p.tables e below (s₁.setTop (mkF m 25 #[.val (.int p0), .val (.int p1), .val (.int p2), .val (.int p3), .val (.int p4), .val (.int p5), .val (.long ((p0 &&& (1048575 : Int32)).toInt64)), .second, .val (.long ((p1 &&& (1048575 : Int32)).toInt64)), .second, .val (.long ((p2 &&& (1048575 : Int32)).toInt64)), .second, .unset, .unset, .unset, .unset, .unset, .unset, .unset, .unset, .unset, .unset, .unset] [(.int (p3 >>> ((11 : Int32) &&& 31)))])) _
      refine XS.i2l X0.here hx rfl (hb hby at_25) rfl ?_
      show Steps p.tables e below (s₁.setTop (mkF m 26 #[.val (.int p0), .val (.int p1), .val (.int p2), .val (.int p3), .val (.int p4), .val (.int p5), .val (.long ((p0 &&& (1048575 : Int32)).toInt64)), .second, .val (.long ((p1 &&& (1048575 : Int32)).toInt64)), .second, .val (.long ((p2 &&& (1048575 : Int32)).toInt64)), .second, .unset, .unset, .unset, .unset, .unset, .unset, .unset, .unset, .unset, .unset, .unset] [(.long ((p3 >>> ((11 : Int32) &&& 31)).toInt64))])) _
      refine XS.lstore X0.here hx rfl (hb hby at_26) rfl (l' := #[.val (.int p0), .val (.int p1), .val (.int p2), .val (.int p3), .val (.int p4), .val (.int p5), .val (.long ((p0 &&& (1048575 : Int32)).toInt64)), .second, .val (.long ((p1 &&& (1048575 : Int32)).toInt64)), .second, .val (.long ((p2 &&& (1048575 : Int32)).toInt64)), .second, .val (.long ((p3 >>> ((11 : Int32) &&& 31)).toInt64)), .second, .unset, .unset, .unset, .unset, .unset, .unset, .unset, .unset, .unset]) rfl ?_
      show Steps p.tables e below (s₁.setTop (mkF m 28 #[.val (.int p0), .val (.int p1), .val (.int p2), .val (.int p3), .val (.int p4), .val (.int p5), .val (.long ((p0 &&& (1048575 : Int32)).toInt64)), .second, .val (.long ((p1 &&& (1048575 : Int32)).toInt64)), .second, .val (.long ((p2 &&& (1048575 : Int32)).toInt64)), .second, .val (.long ((p3 >>> ((11 : Int32) &&& 31)).toInt64)), .second, .unset, .unset, .unset, .unset, .unset, .unset, .unset, .unset, .unset] [])) _
      refine XS.iload X0.here hx rfl (hb hby at_28) rfl ?_
      show Steps p.tables e below (s₁.setTop (mkF m 30 #[.val (.int p0), .val (.int p1), .val (.int p2), .val (.int p3), .val (.int p4), .val (.int p5), .val (.long ((p0 &&& (1048575 : Int32)).toInt64)), .second, .val (.long ((p1 &&& (1048575 : Int32)).toInt64)), .second, .val (.long ((p2 &&& (1048575 : Int32)).toInt64)), .second, .val (.long ((p3 >>> ((11 : Int32) &&& 31)).toInt64)), .second, .unset, .unset, .unset, .unset, .unset, .unset, .unset, .unset, .unset] [(.int p4)])) _
      refine XS.bipush X0.here hx rfl (hb hby at_30) ?_
      show Steps p.tables e below (s₁.setTop (mkF m 32 #[.val (.int p0), .val (.int p1), .val (.int p2), .val (.int p3), .val (.int p4), .val (.int p5), .val (.long ((p0 &&& (1048575 : Int32)).toInt64)), .second, .val (.long ((p1 &&& (1048575 : Int32)).toInt64)), .second, .val (.long ((p2 &&& (1048575 : Int32)).toInt64)), .second, .val (.long ((p3 >>> ((11 : Int32) &&& 31)).toInt64)), .second, .unset, .unset, .unset, .unset, .unset, .unset, .unset, .unset, .unset] [(.int (11 : Int32)), (.int p4)])) _
      refine XS.ishr X0.here hx rfl (hb hby at_32) rfl ?_
      show Steps p.tables e below (s₁.setTop (mkF m 33 #[.val (.int p0), .val (.int p1), .val (.int p2), .val (.int p3), .val (.int p4), .val (.int p5), .val (.long ((p0 &&& (1048575 : Int32)).toInt64)), .second, .val (.long ((p1 &&& (1048575 : Int32)).toInt64)), .second, .val (.long ((p2 &&& (1048575 : Int32)).toInt64)), .second, .val (.long ((p3 >>> ((11 : Int32) &&& 31)).toInt64)), .second, .unset, .unset, .unset, .unset, .unset, .unset, .unset, .unset, .unset] [(.int (p4 >>> ((11 : Int32) &&& 31)))])) _
      refine XS.i2l X0.here hx rfl (hb hby at_33) rfl ?_
      show Steps p.tables e below (s₁.setTop (mkF m 34 #[.val (.int p0), .val (.int p1), .val (.int p2), .val (.int p3), .val (.int p4), .val (.int p5), .val (.long ((p0 &&& (1048575 : Int32)).toInt64)), .second, .val (.long ((p1 &&& (1048575 : Int32)).toInt64)), .second, .val (.long ((p2 &&& (1048575 : Int32)).toInt64)), .second, .val (.long ((p3 >>> ((11 : Int32) &&& 31)).toInt64)), .second, .unset, .unset, .unset, .unset, .unset, .unset, .unset, .unset, .unset] [(.long ((p4 >>> ((11 : Int32) &&& 31)).toInt64))])) _
      refine XS.lstore X0.here hx rfl (hb hby at_34) rfl (l' := #[.val (.int p0), .val (.int p1), .val (.int p2), .val (.int p3), .val (.int p4), .val (.int p5), .val (.long ((p0 &&& (1048575 : Int32)).toInt64)), .second, .val (.long ((p1 &&& (1048575 : Int32)).toInt64)), .second, .val (.long ((p2 &&& (1048575 : Int32)).toInt64)), .second, .val (.long ((p3 >>> ((11 : Int32) &&& 31)).toInt64)), .second, .val (.long ((p4 >>> ((11 : Int32) &&& 31)).toInt64)), .second, .unset, .unset, .unset, .unset, .unset, .unset, .unset]) rfl ?_
      show Steps p.tables e below (s₁.setTop (mkF m 36 #[.val (.int p0), .val (.int p1), .val (.int p2), .val (.int p3), .val (.int p4), .val (.int p5), .val (.long ((p0 &&& (1048575 : Int32)).toInt64)), .second, .val (.long ((p1 &&& (1048575 : Int32)).toInt64)), .second, .val (.long ((p2 &&& (1048575 : Int32)).toInt64)), .second, .val (.long ((p3 >>> ((11 : Int32) &&& 31)).toInt64)), .second, .val (.long ((p4 >>> ((11 : Int32) &&& 31)).toInt64)), .second, .unset, .unset, .unset, .unset, .unset, .unset, .unset] [])) _
      refine XS.iload X0.here hx rfl (hb hby at_36) rfl ?_
      show Steps p.tables e below (s₁.setTop (mkF m 38 #[.val (.int p0), .val (.int p1), .val (.int p2), .val (.int p3), .val (.int p4), .val (.int p5), .val (.long ((p0 &&& (1048575 : Int32)).toInt64)), .second, .val (.long ((p1 &&& (1048575 : Int32)).toInt64)), .second, .val (.long ((p2 &&& (1048575 : Int32)).toInt64)), .second, .val (.long ((p3 >>> ((11 : Int32) &&& 31)).toInt64)), .second, .val (.long ((p4 >>> ((11 : Int32) &&& 31)).toInt64)), .second, .unset, .unset, .unset, .unset, .unset, .unset, .unset] [(.int p5)])) _
      refine XS.bipush X0.here hx rfl (hb hby at_38) ?_
      show Steps p.tables e below (s₁.setTop (mkF m 40 #[.val (.int p0), .val (.int p1), .val (.int p2), .val (.int p3), .val (.int p4), .val (.int p5), .val (.long ((p0 &&& (1048575 : Int32)).toInt64)), .second, .val (.long ((p1 &&& (1048575 : Int32)).toInt64)), .second, .val (.long ((p2 &&& (1048575 : Int32)).toInt64)), .second, .val (.long ((p3 >>> ((11 : Int32) &&& 31)).toInt64)), .second, .val (.long ((p4 >>> ((11 : Int32) &&& 31)).toInt64)), .second, .unset, .unset, .unset, .unset, .unset, .unset, .unset] [(.int (11 : Int32)), (.int p5)])) _
      refine XS.ishr X0.here hx rfl (hb hby at_40) rfl ?_
      show Steps p.tables e below (s₁.setTop (mkF m 41 #[.val (.int p0), .val (.int p1), .val (.int p2), .val (.int p3), .val (.int p4), .val (.int p5), .val (.long ((p0 &&& (1048575 : Int32)).toInt64)), .second, .val (.long ((p1 &&& (1048575 : Int32)).toInt64)), .second, .val (.long ((p2 &&& (1048575 : Int32)).toInt64)), .second, .val (.long ((p3 >>> ((11 : Int32) &&& 31)).toInt64)), .second, .val (.long ((p4 >>> ((11 : Int32) &&& 31)).toInt64)), .second, .unset, .unset, .unset, .unset, .unset, .unset, .unset] [(.int (p5 >>> ((11 : Int32) &&& 31)))])) _
      refine XS.i2l X0.here hx rfl (hb hby at_41) rfl ?_
      show Steps p.tables e below (s₁.setTop (mkF m 42 #[.val (.int p0), .val (.int p1), .val (.int p2), .val (.int p3), .val (.int p4), .val (.int p5), .val (.long ((p0 &&& (1048575 : Int32)).toInt64)), .second, .val (.long ((p1 &&& (1048575 : Int32)).toInt64)), .second, .val (.long ((p2 &&& (1048575 : Int32)).toInt64)), .second, .val (.long ((p3 >>> ((11 : Int32) &&& 31)).toInt64)), .second, .val (.long ((p4 >>> ((11 : Int32) &&& 31)).toInt64)), .second, .unset, .unset, .unset, .unset, .unset, .unset, .unset] [(.long ((p5 >>> ((11 : Int32) &&& 31)).toInt64))])) _
      refine XS.lstore X0.here hx rfl (hb hby at_42) rfl (l' := #[.val (.int p0), .val (.int p1), .val (.int p2), .val (.int p3), .val (.int p4), .val (.int p5), .val (.long ((p0 &&& (1048575 : Int32)).toInt64)), .second, .val (.long ((p1 &&& (1048575 : Int32)).toInt64)), .second, .val (.long ((p2 &&& (1048575 : Int32)).toInt64)), .second, .val (.long ((p3 >>> ((11 : Int32) &&& 31)).toInt64)), .second, .val (.long ((p4 >>> ((11 : Int32) &&& 31)).toInt64)), .second, .val (.long ((p5 >>> ((11 : Int32) &&& 31)).toInt64)), .second, .unset, .unset, .unset, .unset, .unset]) rfl ?_
      show Steps p.tables e below (s₁.setTop (mkF m 44 #[.val (.int p0), .val (.int p1), .val (.int p2), .val (.int p3), .val (.int p4), .val (.int p5), .val (.long ((p0 &&& (1048575 : Int32)).toInt64)), .second, .val (.long ((p1 &&& (1048575 : Int32)).toInt64)), .second, .val (.long ((p2 &&& (1048575 : Int32)).toInt64)), .second, .val (.long ((p3 >>> ((11 : Int32) &&& 31)).toInt64)), .second, .val (.long ((p4 >>> ((11 : Int32) &&& 31)).toInt64)), .second, .val (.long ((p5 >>> ((11 : Int32) &&& 31)).toInt64)), .second, .unset, .unset, .unset, .unset, .unset] [])) _
      refine st1 _ ?_
      show Steps p.tables e below (T1.setTop (mkF m 47 #[.val (.int p0), .val (.int p1), .val (.int p2), .val (.int p3), .val (.int p4), .val (.int p5), .val (.long ((p0 &&& (1048575 : Int32)).toInt64)), .second, .val (.long ((p1 &&& (1048575 : Int32)).toInt64)), .second, .val (.long ((p2 &&& (1048575 : Int32)).toInt64)), .second, .val (.long ((p3 >>> ((11 : Int32) &&& 31)).toInt64)), .second, .val (.long ((p4 >>> ((11 : Int32) &&& 31)).toInt64)), .second, .val (.long ((p5 >>> ((11 : Int32) &&& 31)).toInt64)), .second, .unset, .unset, .unset, .unset, .unset] [(.ref b1)])) _
      refine XS.dup X1.here hx rfl (hb hby at_47) rfl rfl ?_
      show Steps p.tables e below (T1.setTop (mkF m 48 #[.val (.int p0), .val (.int p1), .val (.int p2), .val (.int p3), .val (.int p4), .val (.int p5), .val (.long ((p0 &&& (1048575 : Int32)).toInt64)), .second, .val (.long ((p1 &&& (1048575 : Int32)).toInt64)), .second, .val (.long ((p2 &&& (1048575 : Int32)).toInt64)), .second, .val (.long ((p3 >>> ((11 : Int32) &&& 31)).toInt64)), .second, .val (.long ((p4 >>> ((11 : Int32) &&& 31)).toInt64)), .second, .val (.long ((p5 >>> ((11 : Int32) &&& 31)).toInt64)), .second, .unset, .unset, .unset, .unset, .unset] [(.ref b1), (.ref b1)])) _
      refine XS.lload X1.here hx rfl (hb hby at_48) rfl ?_
      show Steps p.tables e below (T1.setTop (mkF m 50 #[.val (.int p0), .val (.int p1), .val (.int p2), .val (.int p3), .val (.int p4), .val (.int p5), .val (.long ((p0 &&& (1048575 : Int32)).toInt64)), .second, .val (.long ((p1 &&& (1048575 : Int32)).toInt64)), .second, .val (.long ((p2 &&& (1048575 : Int32)).toInt64)), .second, .val (.long ((p3 >>> ((11 : Int32) &&& 31)).toInt64)), .second, .val (.long ((p4 >>> ((11 : Int32) &&& 31)).toInt64)), .second, .val (.long ((p5 >>> ((11 : Int32) &&& 31)).toInt64)), .second, .unset, .unset, .unset, .unset, .unset] [(.long ((p0 &&& (1048575 : Int32)).toInt64)), (.ref b1), (.ref b1)])) _
      refine XS.l2dS X1.here hx rfl (hb hby at_50) rfl rfl ?_
      show Steps p.tables e below (T1.setTop (mkF m 51 #[.val (.int p0), .val (.int p1), .val (.int p2), .val (.int p3), .val (.int p4), .val (.int p5), .val (.long ((p0 &&& (1048575 : Int32)).toInt64)), .second, .val (.long ((p1 &&& (1048575 : Int32)).toInt64)), .second, .val (.long ((p2 &&& (1048575 : Int32)).toInt64)), .second, .val (.long ((p3 >>> ((11 : Int32) &&& 31)).toInt64)), .second, .val (.long ((p4 >>> ((11 : Int32) &&& 31)).toInt64)), .second, .val (.long ((p5 >>> ((11 : Int32) &&& 31)).toInt64)), .second, .unset, .unset, .unset, .unset, .unset] [(.double (FP.l2d ((p0 &&& (1048575 : Int32)).toInt64))), (.ref b1), (.ref b1)])) _
      refine XS.lload X1.here hx rfl (hb hby at_51) rfl ?_
      show Steps p.tables e below (T1.setTop (mkF m 53 #[.val (.int p0), .val (.int p1), .val (.int p2), .val (.int p3), .val (.int p4), .val (.int p5), .val (.long ((p0 &&& (1048575 : Int32)).toInt64)), .second, .val (.long ((p1 &&& (1048575 : Int32)).toInt64)), .second, .val (.long ((p2 &&& (1048575 : Int32)).toInt64)), .second, .val (.long ((p3 >>> ((11 : Int32) &&& 31)).toInt64)), .second, .val (.long ((p4 >>> ((11 : Int32) &&& 31)).toInt64)), .second, .val (.long ((p5 >>> ((11 : Int32) &&& 31)).toInt64)), .second, .unset, .unset, .unset, .unset, .unset] [(.long ((p1 &&& (1048575 : Int32)).toInt64)), (.double (FP.l2d ((p0 &&& (1048575 : Int32)).toInt64))), (.ref b1), (.ref b1)])) _
      refine XS.l2dS X1.here hx rfl (hb hby at_53) rfl rfl ?_
      show Steps p.tables e below (T1.setTop (mkF m 54 #[.val (.int p0), .val (.int p1), .val (.int p2), .val (.int p3), .val (.int p4), .val (.int p5), .val (.long ((p0 &&& (1048575 : Int32)).toInt64)), .second, .val (.long ((p1 &&& (1048575 : Int32)).toInt64)), .second, .val (.long ((p2 &&& (1048575 : Int32)).toInt64)), .second, .val (.long ((p3 >>> ((11 : Int32) &&& 31)).toInt64)), .second, .val (.long ((p4 >>> ((11 : Int32) &&& 31)).toInt64)), .second, .val (.long ((p5 >>> ((11 : Int32) &&& 31)).toInt64)), .second, .unset, .unset, .unset, .unset, .unset] [(.double (FP.l2d ((p1 &&& (1048575 : Int32)).toInt64))), (.double (FP.l2d ((p0 &&& (1048575 : Int32)).toInt64))), (.ref b1), (.ref b1)])) _
      refine XS.lload X1.here hx rfl (hb hby at_54) rfl ?_
      show Steps p.tables e below (T1.setTop (mkF m 56 #[.val (.int p0), .val (.int p1), .val (.int p2), .val (.int p3), .val (.int p4), .val (.int p5), .val (.long ((p0 &&& (1048575 : Int32)).toInt64)), .second, .val (.long ((p1 &&& (1048575 : Int32)).toInt64)), .second, .val (.long ((p2 &&& (1048575 : Int32)).toInt64)), .second, .val (.long ((p3 >>> ((11 : Int32) &&& 31)).toInt64)), .second, .val (.long ((p4 >>> ((11 : Int32) &&& 31)).toInt64)), .second, .val (.long ((p5 >>> ((11 : Int32) &&& 31)).toInt64)), .second, .unset, .unset, .unset, .unset, .unset] [(.long ((p2 &&& (1048575 : Int32)).toInt64)), (.double (FP.l2d ((p1 &&& (1048575 : Int32)).toInt64))), (.double (FP.l2d ((p0 &&& (1048575 : Int32)).toInt64))), (.ref b1), (.ref b1)])) _
      refine XS.l2dS X1.here hx rfl (hb hby at_56) rfl rfl ?_
      show Steps p.tables e below (T1.setTop (mkF m 57 #[.val (.int p0), .val (.int p1), .val (.int p2), .val (.int p3), .val (.int p4), .val (.int p5), .val (.long ((p0 &&& (1048575 : Int32)).toInt64)), .second, .val (.long ((p1 &&& (1048575 : Int32)).toInt64)), .second, .val (.long ((p2 &&& (1048575 : Int32)).toInt64)), .second, .val (.long ((p3 >>> ((11 : Int32) &&& 31)).toInt64)), .second, .val (.long ((p4 >>> ((11 : Int32) &&& 31)).toInt64)), .second, .val (.long ((p5 >>> ((11 : Int32) &&& 31)).toInt64)), .second, .unset, .unset, .unset, .unset, .unset] [(.double (FP.l2d ((p2 &&& (1048575 : Int32)).toInt64))), (.double (FP.l2d ((p1 &&& (1048575 : Int32)).toInt64))), (.double (FP.l2d ((p0 &&& (1048575 : Int32)).toInt64))), (.ref b1), (.ref b1)])) _
      refine st4.trans ?_
      show Steps p.tables e below (T4.setTop (mkF m 60 #[.val (.int p0), .val (.int p1), .val (.int p2), .val (.int p3), .val (.int p4), .val (.int p5), .val (.long ((p0 &&& (1048575 : Int32)).toInt64)), .second, .val (.long ((p1 &&& (1048575 : Int32)).toInt64)), .second, .val (.long ((p2 &&& (1048575 : Int32)).toInt64)), .second, .val (.long ((p3 >>> ((11 : Int32) &&& 31)).toInt64)), .second, .val (.long ((p4 >>> ((11 : Int32) &&& 31)).toInt64)), .second, .val (.long ((p5 >>> ((11 : Int32) &&& 31)).toInt64)), .second, .unset, .unset, .unset, .unset, .unset] [(.ref b1)])) _
      refine XS.astore X4.here hx rfl (hb hby at_60) rfl rfl (l' := #[.val (.int p0), .val (.int p1), .val (.int p2), .val (.int p3), .val (.int p4), .val (.int p5), .val (.long ((p0 &&& (1048575 : Int32)).toInt64)), .second, .val (.long ((p1 &&& (1048575 : Int32)).toInt64)), .second, .val (.long ((p2 &&& (1048575 : Int32)).toInt64)), .second, .val (.long ((p3 >>> ((11 : Int32) &&& 31)).toInt64)), .second, .val (.long ((p4 >>> ((11 : Int32) &&& 31)).toInt64)), .second, .val (.long ((p5 >>> ((11 : Int32) &&& 31)).toInt64)), .second, .val (.ref b1), .unset, .unset, .unset, .unset]) rfl ?_
      show Steps p.tables e below (T4.setTop (mkF m 62 #[.val (.int p0), .val (.int p1), .val (.int p2), .val (.int p3), .val (.int p4), .val (.int p5), .val (.long ((p0 &&& (1048575 : Int32)).toInt64)), .second, .val (.long ((p1 &&& (1048575 : Int32)).toInt64)), .second, .val (.long ((p2 &&& (1048575 : Int32)).toInt64)), .second, .val (.long ((p3 >>> ((11 : Int32) &&& 31)).toInt64)), .second, .val (.long ((p4 >>> ((11 : Int32) &&& 31)).toInt64)), .second, .val (.long ((p5 >>> ((11 : Int32) &&& 31)).toInt64)), .second, .val (.ref b1), .unset, .unset, .unset, .unset] [])) _
      refine XS.lload X4.here hx rfl (hb hby at_62) rfl ?_
      show Steps p.tables e below (T4.setTop (mkF m 64 #[.val (.int p0), .val (.int p1), .val (.int p2), .val (.int p3), .val (.int p4), .val (.int p5), .val (.long ((p0 &&& (1048575 : Int32)).toInt64)), .second, .val (.long ((p1 &&& (1048575 : Int32)).toInt64)), .second, .val (.long ((p2 &&& (1048575 : Int32)).toInt64)), .second, .val (.long ((p3 >>> ((11 : Int32) &&& 31)).toInt64)), .second, .val (.long ((p4 >>> ((11 : Int32) &&& 31)).toInt64)), .second, .val (.long ((p5 >>> ((11 : Int32) &&& 31)).toInt64)), .second, .val (.ref b1), .unset, .unset, .unset, .unset] [(.long ((p0 &&& (1048575 : Int32)).toInt64))])) _
      refine XS.lload X4.here hx rfl (hb hby at_64) rfl ?_
      show Steps p.tables e below (T4.setTop (mkF m 66 #[.val (.int p0), .val (.int p1), .val (.int p2), .val (.int p3), .val (.int p4), .val (.int p5), .val (.long ((p0 &&& (1048575 : Int32)).toInt64)), .second, .val (.long ((p1 &&& (1048575 : Int32)).toInt64)), .second, .val (.long ((p2 &&& (1048575 : Int32)).toInt64)), .second, .val (.long ((p3 >>> ((11 : Int32) &&& 31)).toInt64)), .second, .val (.long ((p4 >>> ((11 : Int32) &&& 31)).toInt64)), .second, .val (.long ((p5 >>> ((11 : Int32) &&& 31)).toInt64)), .second, .val (.ref b1), .unset, .unset, .unset, .unset] [(.long ((p3 >>> ((11 : Int32) &&& 31)).toInt64)), (.long ((p0 &&& (1048575 : Int32)).toInt64))])) _
      refine XS.lmul X4.here hx rfl (hb hby at_66) rfl ?_
      show Steps p.tables e below (T4.setTop (mkF m 67 #[.val (.int p0), .val (.int p1), .val (.int p2), .val (.int p3), .val (.int p4), .val (.int p5), .val (.long ((p0 &&& (1048575 : Int32)).toInt64)), .second, .val (.long ((p1 &&& (1048575 : Int32)).toInt64)), .second, .val (.long ((p2 &&& (1048575 : Int32)).toInt64)), .second, .val (.long ((p3 >>> ((11 : Int32) &&& 31)).toInt64)), .second, .val (.long ((p4 >>> ((11 : Int32) &&& 31)).toInt64)), .second, .val (.long ((p5 >>> ((11 : Int32) &&& 31)).toInt64)), .second, .val (.ref b1), .unset, .unset, .unset, .unset] [(.long (((p0 &&& (1048575 : Int32)).toInt64) * ((p3 >>> ((11 : Int32) &&& 31)).toInt64)))])) _
      refine XS.lload X4.here hx rfl (hb hby at_67) rfl ?_
      show Steps p.tables e below (T4.setTop (mkF m 69 #[.val (.int p0), .val (.int p1), .val (.int p2), .val (.int p3), .val (.int p4), .val (.int p5), .val (.long ((p0 &&& (1048575 : Int32)).toInt64)), .second, .val (.long ((p1 &&& (1048575 : Int32)).toInt64)), .second, .val (.long ((p2 &&& (1048575 : Int32)).toInt64)), .second, .val (.long ((p3 >>> ((11 : Int32) &&& 31)).toInt64)), .second, .val (.long ((p4 >>> ((11 : Int32) &&& 31)).toInt64)), .second, .val (.long ((p5 >>> ((11 : Int32) &&& 31)).toInt64)), .second, .val (.ref b1), .unset, .unset, .unset, .unset] [(.long ((p1 &&& (1048575 : Int32)).toInt64)), (.long (((p0 &&& (1048575 : Int32)).toInt64) * ((p3 >>> ((11 : Int32) &&& 31)).toInt64)))])) _
      refine XS.lload X4.here hx rfl (hb hby at_69) rfl ?_
      show Steps p.tables e below (T4.setTop (mkF m 71 #[.val (.int p0), .val (.int p1), .val (.int p2), .val (.int p3), .val (.int p4), .val (.int p5), .val (.long ((p0 &&& (1048575 : Int32)).toInt64)), .second, .val (.long ((p1 &&& (1048575 : Int32)).toInt64)), .second, .val (.long ((p2 &&& (1048575 : Int32)).toInt64)), .second, .val (.long ((p3 >>> ((11 : Int32) &&& 31)).toInt64)), .second, .val (.long ((p4 >>> ((11 : Int32) &&& 31)).toInt64)), .second, .val (.long ((p5 >>> ((11 : Int32) &&& 31)).toInt64)), .second, .val (.ref b1), .unset, .unset, .unset, .unset] [(.long ((p4 >>> ((11 : Int32) &&& 31)).toInt64)), (.long ((p1 &&& (1048575 : Int32)).toInt64)), (.long (((p0 &&& (1048575 : Int32)).toInt64) * ((p3 >>> ((11 : Int32) &&& 31)).toInt64)))])) _
      refine XS.lmul X4.here hx rfl (hb hby at_71) rfl ?_
      show Steps p.tables e below (T4.setTop (mkF m 72 #[.val (.int p0), .val (.int p1), .val (.int p2), .val (.int p3), .val (.int p4), .val (.int p5), .val (.long ((p0 &&& (1048575 : Int32)).toInt64)), .second, .val (.long ((p1 &&& (1048575 : Int32)).toInt64)), .second, .val (.long ((p2 &&& (1048575 : Int32)).toInt64)), .second, .val (.long ((p3 >>> ((11 : Int32) &&& 31)).toInt64)), .second, .val (.long ((p4 >>> ((11 : Int32) &&& 31)).toInt64)), .second, .val (.long ((p5 >>> ((11 : Int32) &&& 31)).toInt64)), .second, .val (.ref b1), .unset, .unset, .unset, .unset] [(.long (((p1 &&& (1048575 : Int32)).toInt64) * ((p4 >>> ((11 : Int32) &&& 31)).toInt64))), (.long (((p0 &&& (1048575 : Int32)).toInt64) * ((p3 >>> ((11 : Int32) &&& 31)).toInt64)))])) _
      refine XS.ladd X4.here hx rfl (hb hby at_72) rfl ?_
      show Steps p.tables e below (T4.setTop (mkF m 73 #[.val (.int p0), .val (.int p1), .val (.int p2), .val (.int p3), .val (.int p4), .val (.int p5), .val (.long ((p0 &&& (1048575 : Int32)).toInt64)), .second, .val (.long ((p1 &&& (1048575 : Int32)).toInt64)), .second, .val (.long ((p2 &&& (1048575 : Int32)).toInt64)), .second, .val (.long ((p3 >>> ((11 : Int32) &&& 31)).toInt64)), .second, .val (.long ((p4 >>> ((11 : Int32) &&& 31)).toInt64)), .second, .val (.long ((p5 >>> ((11 : Int32) &&& 31)).toInt64)), .second, .val (.ref b1), .unset, .unset, .unset, .unset] [(.long ((((p0 &&& (1048575 : Int32)).toInt64) * ((p3 >>> ((11 : Int32) &&& 31)).toInt64)) + (((p1 &&& (1048575 : Int32)).toInt64) * ((p4 >>> ((11 : Int32) &&& 31)).toInt64))))])) _
      refine XS.lload X4.here hx rfl (hb hby at_73) rfl ?_
      show Steps p.tables e below (T4.setTop (mkF m 75 #[.val (.int p0), .val (.int p1), .val (.int p2), .val (.int p3), .val (.int p4), .val (.int p5), .val (.long ((p0 &&& (1048575 : Int32)).toInt64)), .second, .val (.long ((p1 &&& (1048575 : Int32)).toInt64)), .second, .val (.long ((p2 &&& (1048575 : Int32)).toInt64)), .second, .val (.long ((p3 >>> ((11 : Int32) &&& 31)).toInt64)), .second, .val (.long ((p4 >>> ((11 : Int32) &&& 31)).toInt64)), .second, .val (.long ((p5 >>> ((11 : Int32) &&& 31)).toInt64)), .second, .val (.ref b1), .unset, .unset, .unset, .unset] [(.long ((p2 &&& (1048575 : Int32)).toInt64)), (.long ((((p0 &&& (1048575 : Int32)).toInt64) * ((p3 >>> ((11 : Int32) &&& 31)).toInt64)) + (((p1 &&& (1048575 : Int32)).toInt64) * ((p4 >>> ((11 : Int32) &&& 31)).toInt64))))])) _
      refine XS.lload X4.here hx rfl (hb hby at_75) rfl ?_
      show Steps p.tables e below (T4.setTop (mkF m 77 #[.val (.int p0), .val (.int p1), .val (.int p2), .val (.int p3), .val (.int p4), .val (.int p5), .val (.long ((p0 &&& (1048575 : Int32)).toInt64)), .second, .val (.long ((p1 &&& (1048575 : Int32)).toInt64)), .second, .val (.long ((p2 &&& (1048575 : Int32)).toInt64)), .second, .val (.long ((p3 >>> ((11 : Int32) &&& 31)).toInt64)), .second, .val (.long ((p4 >>> ((11 : Int32) &&& 31)).toInt64)), .second, .val (.long ((p5 >>> ((11 : Int32) &&& 31)).toInt64)), .second, .val (.ref b1), .unset, .unset, .unset, .unset] [(.long ((p5 >>> ((11 : Int32) &&& 31)).toInt64)), (.long ((p2 &&& (1048575 : Int32)).toInt64)), (.long ((((p0 &&& (1048575 : Int32)).toInt64) * ((p3 >>> ((11 : Int32) &&& 31)).toInt64)) + (((p1 &&& (1048575 : Int32)).toInt64) * ((p4 >>> ((11 : Int32) &&& 31)).toInt64))))])) _
      refine XS.lmul X4.here hx rfl (hb hby at_77) rfl ?_
      show Steps p.tables e below (T4.setTop (mkF m 78 #[.val (.int p0), .val (.int p1), .val (.int p2), .val (.int p3), .val (.int p4), .val (.int p5), .val (.long ((p0 &&& (1048575 : Int32)).toInt64)), .second, .val (.long ((p1 &&& (1048575 : Int32)).toInt64)), .second, .val (.long ((p2 &&& (1048575 : Int32)).toInt64)), .second, .val (.long ((p3 >>> ((11 : Int32) &&& 31)).toInt64)), .second, .val (.long ((p4 >>> ((11 : Int32) &&& 31)).toInt64)), .second, .val (.long ((p5 >>> ((11 : Int32) &&& 31)).toInt64)), .second, .val (.ref b1), .unset, .unset, .unset, .unset] [(.long (((p2 &&& (1048575 : Int32)).toInt64) * ((p5 >>> ((11 : Int32) &&& 31)).toInt64))), (.long ((((p0 &&& (1048575 : Int32)).toInt64) * ((p3 >>> ((11 : Int32) &&& 31)).toInt64)) + (((p1 &&& (1048575 : Int32)).toInt64) * ((p4 >>> ((11 : Int32) &&& 31)).toInt64))))])) _
      refine XS.ladd X4.here hx rfl (hb hby at_78) rfl ?_
      show Steps p.tables e below (T4.setTop (mkF m 79 #[.val (.int p0), .val (.int p1), .val (.int p2), .val (.int p3), .val (.int p4), .val (.int p5), .val (.long ((p0 &&& (1048575 : Int32)).toInt64)), .second, .val (.long ((p1 &&& (1048575 : Int32)).toInt64)), .second, .val (.long ((p2 &&& (1048575 : Int32)).toInt64)), .second, .val (.long ((p3 >>> ((11 : Int32) &&& 31)).toInt64)), .second, .val (.long ((p4 >>> ((11 : Int32) &&& 31)).toInt64)), .second, .val (.long ((p5 >>> ((11 : Int32) &&& 31)).toInt64)), .second, .val (.ref b1), .unset, .unset, .unset, .unset] [(.long (((((p0 &&& (1048575 : Int32)).toInt64) * ((p3 >>> ((11 : Int32) &&& 31)).toInt64)) + (((p1 &&& (1048575 : Int32)).toInt64) * ((p4 >>> ((11 : Int32) &&& 31)).toInt64))) + (((p2 &&& (1048575 : Int32)).toInt64) * ((p5 >>> ((11 : Int32) &&& 31)).toInt64))))])) _
      refine XS.lstore X4.here hx rfl (hb hby at_79) rfl (l' := #[.val (.int p0), .val (.int p1), .val (.int p2), .val (.int p3), .val (.int p4), .val (.int p5), .val (.long ((p0 &&& (1048575 : Int32)).toInt64)), .second, .val (.long ((p1 &&& (1048575 : Int32)).toInt64)), .second, .val (.long ((p2 &&& (1048575 : Int32)).toInt64)), .second, .val (.long ((p3 >>> ((11 : Int32) &&& 31)).toInt64)), .second, .val (.long ((p4 >>> ((11 : Int32) &&& 31)).toInt64)), .second, .val (.long ((p5 >>> ((11 : Int32) &&& 31)).toInt64)), .second, .val (.ref b1), .val (.long (e0_1 p0 p1 p2 p3 p4 p5)), .second, .unset, .unset]) rfl ?_
      show Steps p.tables e below (T4.setTop (mkF m 81 #[.val (.int p0), .val (.int p1), .val (.int p2), .val (.int p3), .val (.int p4), .val (.int p5), .val (.long ((p0 &&& (1048575 : Int32)).toInt64)), .second, .val (.long ((p1 &&& (1048575 : Int32)).toInt64)), .second, .val (.long ((p2 &&& (1048575 : Int32)).toInt64)), .second, .val (.long ((p3 >>> ((11 : Int32) &&& 31)).toInt64)), .second, .val (.long ((p4 >>> ((11 : Int32) &&& 31)).toInt64)), .second, .val (.long ((p5 >>> ((11 : Int32) &&& 31)).toInt64)), .second, .val (.ref b1), .val (.long (e0_1 p0 p1 p2 p3 p4 p5)), .second, .unset, .unset] [])) _
      refine XS.aload X4.here hx rfl (hb hby at_81) rfl rfl ?_
      show Steps p.tables e below (T4.setTop (mkF m 83 #[.val (.int p0), .val (.int p1), .val (.int p2), .val (.int p3), .val (.int p4), .val (.int p5), .val (.long ((p0 &&& (1048575 : Int32)).toInt64)), .second, .val (.long ((p1 &&& (1048575 : Int32)).toInt64)), .second, .val (.long ((p2 &&& (1048575 : Int32)).toInt64)), .second, .val (.long ((p3 >>> ((11 : Int32) &&& 31)).toInt64)), .second, .val (.long ((p4 >>> ((11 : Int32) &&& 31)).toInt64)), .second, .val (.long ((p5 >>> ((11 : Int32) &&& 31)).toInt64)), .second, .val (.ref b1), .val (.long (e0_1 p0 p1 p2 p3 p4 p5)), .second, .unset, .unset] [(.ref b1)])) _
      refine XS.lload X4.here hx rfl (hb hby at_83) rfl ?_
      show Steps p.tables e below (T4.setTop (mkF m 85 #[.val (.int p0), .val (.int p1), .val (.int p2), .val (.int p3), .val (.int p4), .val (.int p5), .val (.long ((p0 &&& (1048575 : Int32)).toInt64)), .second, .val (.long ((p1 &&& (1048575 : Int32)).toInt64)), .second, .val (.long ((p2 &&& (1048575 : Int32)).toInt64)), .second, .val (.long ((p3 >>> ((11 : Int32) &&& 31)).toInt64)), .second, .val (.long ((p4 >>> ((11 : Int32) &&& 31)).toInt64)), .second, .val (.long ((p5 >>> ((11 : Int32) &&& 31)).toInt64)), .second, .val (.ref b1), .val (.long (e0_1 p0 p1 p2 p3 p4 p5)), .second, .unset, .unset] [(.long ((p3 >>> ((11 : Int32) &&& 31)).toInt64)), (.ref b1)])) _
      refine XS.l2dS X4.here hx rfl (hb hby at_85) rfl rfl ?_
      show Steps p.tables e below (T4.setTop (mkF m 86 #[.val (.int p0), .val (.int p1), .val (.int p2), .val (.int p3), .val (.int p4), .val (.int p5), .val (.long ((p0 &&& (1048575 : Int32)).toInt64)), .second, .val (.long ((p1 &&& (1048575 : Int32)).toInt64)), .second, .val (.long ((p2 &&& (1048575 : Int32)).toInt64)), .second, .val (.long ((p3 >>> ((11 : Int32) &&& 31)).toInt64)), .second, .val (.long ((p4 >>> ((11 : Int32) &&& 31)).toInt64)), .second, .val (.long ((p5 >>> ((11 : Int32) &&& 31)).toInt64)), .second, .val (.ref b1), .val (.long (e0_1 p0 p1 p2 p3 p4 p5)), .second, .unset, .unset] [(.double (FP.l2d ((p3 >>> ((11 : Int32) &&& 31)).toInt64))), (.ref b1)])) _
      refine XS.lload X4.here hx rfl (hb hby at_86) rfl ?_
      show Steps p.tables e below (T4.setTop (mkF m 88 #[.val (.int p0), .val (.int p1), .val (.int p2), .val (.int p3), .val (.int p4), .val (.int p5), .val (.long ((p0 &&& (1048575 : Int32)).toInt64)), .second, .val (.long ((p1 &&& (1048575 : Int32)).toInt64)), .second, .val (.long ((p2 &&& (1048575 : Int32)).toInt64)), .second, .val (.long ((p3 >>> ((11 : Int32) &&& 31)).toInt64)), .second, .val (.long ((p4 >>> ((11 : Int32) &&& 31)).toInt64)), .second, .val (.long ((p5 >>> ((11 : Int32) &&& 31)).toInt64)), .second, .val (.ref b1), .val (.long (e0_1 p0 p1 p2 p3 p4 p5)), .second, .unset, .unset] [(.long ((p4 >>> ((11 : Int32) &&& 31)).toInt64)), (.double (FP.l2d ((p3 >>> ((11 : Int32) &&& 31)).toInt64))), (.ref b1)])) _
      refine XS.l2dS X4.here hx rfl (hb hby at_88) rfl rfl ?_
      show Steps p.tables e below (T4.setTop (mkF m 89 #[.val (.int p0), .val (.int p1), .val (.int p2), .val (.int p3), .val (.int p4), .val (.int p5), .val (.long ((p0 &&& (1048575 : Int32)).toInt64)), .second, .val (.long ((p1 &&& (1048575 : Int32)).toInt64)), .second, .val (.long ((p2 &&& (1048575 : Int32)).toInt64)), .second, .val (.long ((p3 >>> ((11 : Int32) &&& 31)).toInt64)), .second, .val (.long ((p4 >>> ((11 : Int32) &&& 31)).toInt64)), .second, .val (.long ((p5 >>> ((11 : Int32) &&& 31)).toInt64)), .second, .val (.ref b1), .val (.long (e0_1 p0 p1 p2 p3 p4 p5)), .second, .unset, .unset] [(.double (FP.l2d ((p4 >>> ((11 : Int32) &&& 31)).toInt64))), (.double (FP.l2d ((p3 >>> ((11 : Int32) &&& 31)).toInt64))), (.ref b1)])) _
      refine XS.lload X4.here hx rfl (hb hby at_89) rfl ?_
      show Steps p.tables e below (T4.setTop (mkF m 91 #[.val (.int p0), .val (.int p1), .val (.int p2), .val (.int p3), .val (.int p4), .val (.int p5), .val (.long ((p0 &&& (1048575 : Int32)).toInt64)), .second, .val (.long ((p1 &&& (1048575 : Int32)).toInt64)), .second, .val (.long ((p2 &&& (1048575 : Int32)).toInt64)), .second, .val (.long ((p3 >>> ((11 : Int32) &&& 31)).toInt64)), .second, .val (.long ((p4 >>> ((11 : Int32) &&& 31)).toInt64)), .second, .val (.long ((p5 >>> ((11 : Int32) &&& 31)).toInt64)), .second, .val (.ref b1), .val (.long (e0_1 p0 p1 p2 p3 p4 p5)), .second, .unset, .unset] [(.long ((p5 >>> ((11 : Int32) &&& 31)).toInt64)), (.double (FP.l2d ((p4 >>> ((11 : Int32) &&& 31)).toInt64))), (.double (FP.l2d ((p3 >>> ((11 : Int32) &&& 31)).toInt64))), (.ref b1)])) _
      refine XS.l2dS X4.here hx rfl (hb hby at_91) rfl rfl ?_
      show Steps p.tables e below (T4.setTop (mkF m 92 #[.val (.int p0), .val (.int p1), .val (.int p2), .val (.int p3), .val (.int p4), .val (.int p5), .val (.long ((p0 &&& (1048575 : Int32)).toInt64)), .second, .val (.long ((p1 &&& (1048575 : Int32)).toInt64)), .second, .val (.long ((p2 &&& (1048575 : Int32)).toInt64)), .second, .val (.long ((p3 >>> ((11 : Int32) &&& 31)).toInt64)), .second, .val (.long ((p4 >>> ((11 : Int32) &&& 31)).toInt64)), .second, .val (.long ((p5 >>> ((11 : Int32) &&& 31)).toInt64)), .second, .val (.ref b1), .val (.long (e0_1 p0 p1 p2 p3 p4 p5)), .second, .unset, .unset] [(.double (FP.l2d ((p5 >>> ((11 : Int32) &&& 31)).toInt64))), (.double (FP.l2d ((p4 >>> ((11 : Int32) &&& 31)).toInt64))), (.double (FP.l2d ((p3 >>> ((11 : Int32) &&& 31)).toInt64))), (.ref b1)])) _
      refine st7.trans ?_
      show Steps p.tables e below (T7.setTop (mkF m 95 #[.val (.int p0), .val (.int p1), .val (.int p2), .val (.int p3), .val (.int p4), .val (.int p5), .val (.long ((p0 &&& (1048575 : Int32)).toInt64)), .second, .val (.long ((p1 &&& (1048575 : Int32)).toInt64)), .second, .val (.long ((p2 &&& (1048575 : Int32)).toInt64)), .second, .val (.long ((p3 >>> ((11 : Int32) &&& 31)).toInt64)), .second, .val (.long ((p4 >>> ((11 : Int32) &&& 31)).toInt64)), .second, .val (.long ((p5 >>> ((11 : Int32) &&& 31)).toInt64)), .second, .val (.ref b1), .val (.long (e0_1 p0 p1 p2 p3 p4 p5)), .second, .unset, .unset] [(.double (f4 (FP.l2d ((p3 >>> ((11 : Int32) &&& 31)).toInt64)) (FP.l2d ((p4 >>> ((11 : Int32) &&& 31)).toInt64)) (FP.l2d ((p5 >>> ((11 : Int32) &&& 31)).toInt64)) (FP.l2d ((p0 &&& (1048575 : Int32)).toInt64)) (FP.l2d ((p1 &&& (1048575 : Int32)).toInt64)) (FP.l2d ((p2 &&& (1048575 : Int32)).toInt64))))])) _
      refine XS.dstore X7.here hx rfl (hb hby at_95) rfl (l' := #[.val (.int p0), .val (.int p1), .val (.int p2), .val (.int p3), .val (.int p4), .val (.int p5), .val (.long ((p0 &&& (1048575 : Int32)).toInt64)), .second, .val (.long ((p1 &&& (1048575 : Int32)).toInt64)), .second, .val (.long ((p2 &&& (1048575 : Int32)).toInt64)), .second, .val (.long ((p3 >>> ((11 : Int32) &&& 31)).toInt64)), .second, .val (.long ((p4 >>> ((11 : Int32) &&& 31)).toInt64)), .second, .val (.long ((p5 >>> ((11 : Int32) &&& 31)).toInt64)), .second, .val (.ref b1), .val (.long (e0_1 p0 p1 p2 p3 p4 p5)), .second, .val (.double (f4 (FP.l2d ((p3 >>> ((11 : Int32) &&& 31)).toInt64)) (FP.l2d ((p4 >>> ((11 : Int32) &&& 31)).toInt64)) (FP.l2d ((p5 >>> ((11 : Int32) &&& 31)).toInt64)) (FP.l2d ((p0 &&& (1048575 : Int32)).toInt64)) (FP.l2d ((p1 &&& (1048575 : Int32)).toInt64)) (FP.l2d ((p2 &&& (1048575 : Int32)).toInt64)))), .second]) rfl ?_
      show Steps p.tables e below (T7.setTop (mkF m 97 #[.val (.int p0), .val (.int p1), .val (.int p2), .val (.int p3), .val (.int p4), .val (.int p5), .val (.long ((p0 &&& (1048575 : Int32)).toInt64)), .second, .val (.long ((p1 &&& (1048575 : Int32)).toInt64)), .second, .val (.long ((p2 &&& (1048575 : Int32)).toInt64)), .second, .val (.long ((p3 >>> ((11 : Int32) &&& 31)).toInt64)), .second, .val (.long ((p4 >>> ((11 : Int32) &&& 31)).toInt64)), .second, .val (.long ((p5 >>> ((11 : Int32) &&& 31)).toInt64)), .second, .val (.ref b1), .val (.long (e0_1 p0 p1 p2 p3 p4 p5)), .second, .val (.double (f4 (FP.l2d ((p3 >>> ((11 : Int32) &&& 31)).toInt64)) (FP.l2d ((p4 >>> ((11 : Int32) &&& 31)).toInt64)) (FP.l2d ((p5 >>> ((11 : Int32) &&& 31)).toInt64)) (FP.l2d ((p0 &&& (1048575 : Int32)).toInt64)) (FP.l2d ((p1 &&& (1048575 : Int32)).toInt64)) (FP.l2d ((p2 &&& (1048575 : Int32)).toInt64)))), .second] [])) _
      refine XS.dload X7.here hx rfl (hb hby at_97) rfl ?_
      show Steps p.tables e below (T7.setTop (mkF m 99 #[.val (.int p0), .val (.int p1), .val (.int p2), .val (.int p3), .val (.int p4), .val (.int p5), .val (.long ((p0 &&& (1048575 : Int32)).toInt64)), .second, .val (.long ((p1 &&& (1048575 : Int32)).toInt64)), .second, .val (.long ((p2 &&& (1048575 : Int32)).toInt64)), .second, .val (.long ((p3 >>> ((11 : Int32) &&& 31)).toInt64)), .second, .val (.long ((p4 >>> ((11 : Int32) &&& 31)).toInt64)), .second, .val (.long ((p5 >>> ((11 : Int32) &&& 31)).toInt64)), .second, .val (.ref b1), .val (.long (e0_1 p0 p1 p2 p3 p4 p5)), .second, .val (.double (f4 (FP.l2d ((p3 >>> ((11 : Int32) &&& 31)).toInt64)) (FP.l2d ((p4 >>> ((11 : Int32) &&& 31)).toInt64)) (FP.l2d ((p5 >>> ((11 : Int32) &&& 31)).toInt64)) (FP.l2d ((p0 &&& (1048575 : Int32)).toInt64)) (FP.l2d ((p1 &&& (1048575 : Int32)).toInt64)) (FP.l2d ((p2 &&& (1048575 : Int32)).toInt64)))), .second] [(.double (f4 (FP.l2d ((p3 >>> ((11 : Int32) &&& 31)).toInt64)) (FP.l2d ((p4 >>> ((11 : Int32) &&& 31)).toInt64)) (FP.l2d ((p5 >>> ((11 : Int32) &&& 31)).toInt64)) (FP.l2d ((p0 &&& (1048575 : Int32)).toInt64)) (FP.l2d ((p1 &&& (1048575 : Int32)).toInt64)) (FP.l2d ((p2 &&& (1048575 : Int32)).toInt64))))])) _
      refine XS.lload X7.here hx rfl (hb hby at_99) rfl ?_
      show Steps p.tables e below (T7.setTop (mkF m 101 #[.val (.int p0), .val (.int p1), .val (.int p2), .val (.int p3), .val (.int p4), .val (.int p5), .val (.long ((p0 &&& (1048575 : Int32)).toInt64)), .second, .val (.long ((p1 &&& (1048575 : Int32)).toInt64)), .second, .val (.long ((p2 &&& (1048575 : Int32)).toInt64)), .second, .val (.long ((p3 >>> ((11 : Int32) &&& 31)).toInt64)), .second, .val (.long ((p4 >>> ((11 : Int32) &&& 31)).toInt64)), .second, .val (.long ((p5 >>> ((11 : Int32) &&& 31)).toInt64)), .second, .val (.ref b1), .val (.long (e0_1 p0 p1 p2 p3 p4 p5)), .second, .val (.double (f4 (FP.l2d ((p3 >>> ((11 : Int32) &&& 31)).toInt64)) (FP.l2d ((p4 >>> ((11 : Int32) &&& 31)).toInt64)) (FP.l2d ((p5 >>> ((11 : Int32) &&& 31)).toInt64)) (FP.l2d ((p0 &&& (1048575 : Int32)).toInt64)) (FP.l2d ((p1 &&& (1048575 : Int32)).toInt64)) (FP.l2d ((p2 &&& (1048575 : Int32)).toInt64)))), .second] [(.long (e0_1 p0 p1 p2 p3 p4 p5)), (.double (f4 (FP.l2d ((p3 >>> ((11 : Int32) &&& 31)).toInt64)) (FP.l2d ((p4 >>> ((11 : Int32) &&& 31)).toInt64)) (FP.l2d ((p5 >>> ((11 : Int32) &&& 31)).toInt64)) (FP.l2d ((p0 &&& (1048575 : Int32)).toInt64)) (FP.l2d ((p1 &&& (1048575 : Int32)).toInt64)) (FP.l2d ((p2 &&& (1048575 : Int32)).toInt64))))])) _
      refine XS.l2dS X7.here hx rfl (hb hby at_101) rfl rfl ?_
      show Steps p.tables e below (T7.setTop (mkF m 102 #[.val (.int p0), .val (.int p1), .val (.int p2), .val (.int p3), .val (.int p4), .val (.int p5), .val (.long ((p0 &&& (1048575 : Int32)).toInt64)), .second, .val (.long ((p1 &&& (1048575 : Int32)).toInt64)), .second, .val (.long ((p2 &&& (1048575 : Int32)).toInt64)), .second, .val (.long ((p3 >>> ((11 : Int32) &&& 31)).toInt64)), .second, .val (.long ((p4 >>> ((11 : Int32) &&& 31)).toInt64)), .second, .val (.long ((p5 >>> ((11 : Int32) &&& 31)).toInt64)), .second, .val (.ref b1), .val (.long (e0_1 p0 p1 p2 p3 p4 p5)), .second, .val (.double (f4 (FP.l2d ((p3 >>> ((11 : Int32) &&& 31)).toInt64)) (FP.l2d ((p4 >>> ((11 : Int32) &&& 31)).toInt64)) (FP.l2d ((p5 >>> ((11 : Int32) &&& 31)).toInt64)) (FP.l2d ((p0 &&& (1048575 : Int32)).toInt64)) (FP.l2d ((p1 &&& (1048575 : Int32)).toInt64)) (FP.l2d ((p2 &&& (1048575 : Int32)).toInt64)))), .second] [(.double (FP.l2d (e0_1 p0 p1 p2 p3 p4 p5))), (.double (f4 (FP.l2d ((p3 >>> ((11 : Int32) &&& 31)).toInt64)) (FP.l2d ((p4 >>> ((11 : Int32) &&& 31)).toInt64)) (FP.l2d ((p5 >>> ((11 : Int32) &&& 31)).toInt64)) (FP.l2d ((p0 &&& (1048575 : Int32)).toInt64)) (FP.l2d ((p1 &&& (1048575 : Int32)).toInt64)) (FP.l2d ((p2 &&& (1048575 : Int32)).toInt64))))])) _
      refine XS.dcmpS X7.here hx rfl (hb hby at_102) rfl rfl ?_
      exact kt)
  have hd103_9 : (cmpValue (FP.dcmp (f4 (FP.l2d ((p3 >>> ((11 : Int32) &&& 31)).toInt64)) (FP.l2d ((p4 >>> ((11 : Int32) &&& 31)).toInt64)) (FP.l2d ((p5 >>> ((11 : Int32) &&& 31)).toInt64)) (FP.l2d ((p0 &&& (1048575 : Int32)).toInt64)) (FP.l2d ((p1 &&& (1048575 : Int32)).toInt64)) (FP.l2d ((p2 &&& (1048575 : Int32)).toInt64))) (FP.l2d (e0_1 p0 p1 p2 p3 p4 p5))) .l) = (0 : Int32) := own_fin _ _ _ _ _ _
  obtain ⟨fs, hr, hrun, hended, hW, hsame⟩ := X7.leave (v := some (.int (1 : Int32))) (fun h => by rw [Bd.returns] at h; cases h)
  have hv10 : (1 : Int32) = (1 : Int32) := rfl
  refine ⟨_, _, pre8 _ ?_, hrun, hended, _, _, rfl, ?_, ⟨_, rfl⟩, hW, hsame.mono (by decide) (by decide)⟩
  · show Steps p.tables e below (T7.setTop (mkF m 103 #[.val (.int p0), .val (.int p1), .val (.int p2), .val (.int p3), .val (.int p4), .val (.int p5), .val (.long ((p0 &&& (1048575 : Int32)).toInt64)), .second, .val (.long ((p1 &&& (1048575 : Int32)).toInt64)), .second, .val (.long ((p2 &&& (1048575 : Int32)).toInt64)), .second, .val (.long ((p3 >>> ((11 : Int32) &&& 31)).toInt64)), .second, .val (.long ((p4 >>> ((11 : Int32) &&& 31)).toInt64)), .second, .val (.long ((p5 >>> ((11 : Int32) &&& 31)).toInt64)), .second, .val (.ref b1), .val (.long (e0_1 p0 p1 p2 p3 p4 p5)), .second, .val (.double (f4 (FP.l2d ((p3 >>> ((11 : Int32) &&& 31)).toInt64)) (FP.l2d ((p4 >>> ((11 : Int32) &&& 31)).toInt64)) (FP.l2d ((p5 >>> ((11 : Int32) &&& 31)).toInt64)) (FP.l2d ((p0 &&& (1048575 : Int32)).toInt64)) (FP.l2d ((p1 &&& (1048575 : Int32)).toInt64)) (FP.l2d ((p2 &&& (1048575 : Int32)).toInt64)))), .second] [(.int (cmpValue (FP.dcmp (f4 (FP.l2d ((p3 >>> ((11 : Int32) &&& 31)).toInt64)) (FP.l2d ((p4 >>> ((11 : Int32) &&& 31)).toInt64)) (FP.l2d ((p5 >>> ((11 : Int32) &&& 31)).toInt64)) (FP.l2d ((p0 &&& (1048575 : Int32)).toInt64)) (FP.l2d ((p1 &&& (1048575 : Int32)).toInt64)) (FP.l2d ((p2 &&& (1048575 : Int32)).toInt64))) (FP.l2d (e0_1 p0 p1 p2 p3 p4 p5))) .l))])) _
    refine XS.ifNo X7.here hx rfl (hb hby at_103) rfl ((if0 _ _).trans (teq hd103_9).2) ?_
    show Steps p.tables e below (T7.setTop (mkF m 106 #[.val (.int p0), .val (.int p1), .val (.int p2), .val (.int p3), .val (.int p4), .val (.int p5), .val (.long ((p0 &&& (1048575 : Int32)).toInt64)), .second, .val (.long ((p1 &&& (1048575 : Int32)).toInt64)), .second, .val (.long ((p2 &&& (1048575 : Int32)).toInt64)), .second, .val (.long ((p3 >>> ((11 : Int32) &&& 31)).toInt64)), .second, .val (.long ((p4 >>> ((11 : Int32) &&& 31)).toInt64)), .second, .val (.long ((p5 >>> ((11 : Int32) &&& 31)).toInt64)), .second, .val (.ref b1), .val (.long (e0_1 p0 p1 p2 p3 p4 p5)), .second, .val (.double (f4 (FP.l2d ((p3 >>> ((11 : Int32) &&& 31)).toInt64)) (FP.l2d ((p4 >>> ((11 : Int32) &&& 31)).toInt64)) (FP.l2d ((p5 >>> ((11 : Int32) &&& 31)).toInt64)) (FP.l2d ((p0 &&& (1048575 : Int32)).toInt64)) (FP.l2d ((p1 &&& (1048575 : Int32)).toInt64)) (FP.l2d ((p2 &&& (1048575 : Int32)).toInt64)))), .second] [])) _
    refine XS.iconst X7.here hx rfl (hb hby at_106) ?_
    show Steps p.tables e below (T7.setTop (mkF m 107 #[.val (.int p0), .val (.int p1), .val (.int p2), .val (.int p3), .val (.int p4), .val (.int p5), .val (.long ((p0 &&& (1048575 : Int32)).toInt64)), .second, .val (.long ((p1 &&& (1048575 : Int32)).toInt64)), .second, .val (.long ((p2 &&& (1048575 : Int32)).toInt64)), .second, .val (.long ((p3 >>> ((11 : Int32) &&& 31)).toInt64)), .second, .val (.long ((p4 >>> ((11 : Int32) &&& 31)).toInt64)), .second, .val (.long ((p5 >>> ((11 : Int32) &&& 31)).toInt64)), .second, .val (.ref b1), .val (.long (e0_1 p0 p1 p2 p3 p4 p5)), .second, .val (.double (f4 (FP.l2d ((p3 >>> ((11 : Int32) &&& 31)).toInt64)) (FP.l2d ((p4 >>> ((11 : Int32) &&& 31)).toInt64)) (FP.l2d ((p5 >>> ((11 : Int32) &&& 31)).toInt64)) (FP.l2d ((p0 &&& (1048575 : Int32)).toInt64)) (FP.l2d ((p1 &&& (1048575 : Int32)).toInt64)) (FP.l2d ((p2 &&& (1048575 : Int32)).toInt64)))), .second] [(.int (1 : Int32))])) _
    refine XS.goto X7.here hx rfl (pc0 := 107) (pc' := 111) rfl (hb hby at_107) (by decide) (by decide) ?_
    show Steps p.tables e below (T7.setTop (mkF m 111 #[.val (.int p0), .val (.int p1), .val (.int p2), .val (.int p3), .val (.int p4), .val (.int p5), .val (.long ((p0 &&& (1048575 : Int32)).toInt64)), .second, .val (.long ((p1 &&& (1048575 : Int32)).toInt64)), .second, .val (.long ((p2 &&& (1048575 : Int32)).toInt64)), .second, .val (.long ((p3 >>> ((11 : Int32) &&& 31)).toInt64)), .second, .val (.long ((p4 >>> ((11 : Int32) &&& 31)).toInt64)), .second, .val (.long ((p5 >>> ((11 : Int32) &&& 31)).toInt64)), .second, .val (.ref b1), .val (.long (e0_1 p0 p1 p2 p3 p4 p5)), .second, .val (.double (f4 (FP.l2d ((p3 >>> ((11 : Int32) &&& 31)).toInt64)) (FP.l2d ((p4 >>> ((11 : Int32) &&& 31)).toInt64)) (FP.l2d ((p5 >>> ((11 : Int32) &&& 31)).toInt64)) (FP.l2d ((p0 &&& (1048575 : Int32)).toInt64)) (FP.l2d ((p1 &&& (1048575 : Int32)).toInt64)) (FP.l2d ((p2 &&& (1048575 : Int32)).toInt64)))), .second] [(.int (1 : Int32))])) _
    exact retN X7 hx (t := .boolean) Bd.returns (by simp) (hb hby at_111) hr
  · show Q0 Z p0 p1 p2 p3 p4 p5 h0 n0 _ T7.heap _
    rw [e7q]
    exact ⟨congrArg (fun q => some (Value.int q)) hv10, N7⟩
set_option maxRecDepth 65536 in
set_option maxHeartbeats 40000000 in
theorem comes_1 {Post : Tables → Env → Array Value → State → Outcome → State → Prop} (hpost : ∀ tb e args s v u, (limb_1_1.after args s (.returned v) u = true ∧ limb_1_2.after args s (.returned v) u = true ∧ True) → FrameEnd s (.returned v) u (Jvm.fieldLocs frame_1_writes args s ++ Jvm.arrayLocs frame_1_arrays args s ++ Jvm.staticLocs frame_1_statics s) 16 128 → Post tb e args s (.returned v) u) :
    ArmFor flags0 classFile x code maxLocals ret World_1 tables_1 room_1 Calls_1 rest_1 Pre_1 Post := by
  intro l hfl _ _ p e ha hc hk s m args below hf hA hF happ hP
  obtain ⟨hcalls, hrest, hpre⟩ := hP
  obtain ⟨-, -, -, hnamed, -, -, -, hat⟩ := (Spec.applies_iff hf).mp happ
  obtain ⟨hg, hn⟩ := and_e (Cond.before_iff.mp (show (Jvm.Cond.and given_1 narrow_1).before args s = true from hpre))
  obtain ⟨g1, g2⟩ := and_e hg
  obtain ⟨g3, g4⟩ := and_e g2
  obtain ⟨g5, g6⟩ := and_e g4
  obtain ⟨g7, g8⟩ := and_e g6
  obtain ⟨g9, g10⟩ := and_e g8
  obtain ⟨g11, g12⟩ := and_e g10
  obtain ⟨w0, w1, w2, w3, w4, w5, rfl⟩ : ∃ w0 w1 w2 w3 w4 w5 : Value, args = #[w0, w1, w2, w3, w4, w5] := by
    have hs : args.size = 6 := by simpa [Cond.value, given_1] using g1
    obtain ⟨L⟩ := args
    match L, hs with
    | [w0, w1, w2, w3, w4, w5], _ => exact ⟨w0, w1, w2, w3, w4, w5, rfl⟩
  have hw := fun d (hd : d ∈ tables_1) => atoms_spec (ws := Jvm.Cond.code x code maxLocals ret :: tables_1) hat d (List.mem_cons_of_mem _ hd)
  have hfit : Fit s := fun {y c} hc i hi => by
    obtain ⟨ha, rfl⟩ := Array.getElem?_eq_some_iff.mp hc
    have q := List.all_eq_true.mp ((Array.all_eq_true_iff_forall_mem.mp hF) _ (Array.getElem_mem ha)) i (List.mem_range.mpr hi)
    simpa [Array.getElem?_eq_getElem hi] using q
  obtain ⟨i0, ei0⟩ := is_v g3
  obtain rfl : w0 = (.int i0) := Option.some.inj ei0
  obtain ⟨i1, ei1⟩ := is_v g5
  obtain rfl : w1 = (.int i1) := Option.some.inj ei1
  obtain ⟨i2, ei2⟩ := is_v g7
  obtain rfl : w2 = (.int i2) := Option.some.inj ei2
  obtain ⟨i3, ei3⟩ := is_v g9
  obtain rfl : w3 = (.int i3) := Option.some.inj ei3
  obtain ⟨i4, ei4⟩ := is_v g11
  obtain rfl : w4 = (.int i4) := Option.some.inj ei4
  obtain ⟨i5, ei5⟩ := is_v g12
  obtain rfl : w5 = (.int i5) := Option.some.inj ei5
  obtain ⟨n, o, h1, h2, h3, _, L, rfl, ⟨hv0, N⟩, hq⟩ := rm0 l s _ hw tables_1 i0 i1 i2 i3 i4 i5 s.heap s.heap.size (Nat.le_refl _) p e ha hc hk s m _ below hf ((Spec.applies_iff_loose hf).mp happ).1 ⟨rfl, State.Warmed39.refl s, rfl⟩ trivial
  subst hv0
  refine ⟨n, _, h1, h2, h3, hpost _ _ _ _ _ _ ⟨Cond.after_iff.mpr rfl, Cond.after_iff.mpr (eq_i res_at (Term.int_eval (1)) rfl), trivial⟩ ⟨hq.1, hq.2.1, (hq.2.2.sift fun y hy => Or.inr (N y hy)).mono (by decide) (by decide)⟩⟩
theorem main_1_1 : Claimed_1_1 := comes_1 fun _ _ _ _ _ _ h hF => ⟨h.1, hF⟩
theorem main_1_2 : Claimed_1_2 := comes_1 fun _ _ _ _ _ _ h hF => ⟨h.2.1, hF⟩
end Jvm.Pilot.@@N@@
namespace Jvm.Pilot.@@N@@
open Jvm Jvm.ClassFile Sem Op Lib Jvm.Free Jvm.Stand Jvm.Pilot.@@N@@.Jvm.D
/-! MADE BY PROGRAM (witnessworld.py) out of the Statement's table words and the real class files: 12 classes; the members and pool entries that the words name. The judged class is class 1, her method 1. -/
namespace start1
open Jvm.ClassFile
def u (s : String) : CpInfo := .utf8 (stringToUtf16 s)
/-- a pool by its gaps: so many unusable entries, then the entry; so many at the end -/
def gap : Nat → List CpInfo → List CpInfo
  | 0, r => r
  | n + 1, r => .unusable :: gap n r
def poolList (es : List (Nat × CpInfo)) (last : Nat) : List CpInfo := es.foldr (fun e r => gap e.1 (e.2 :: r)) (gap last [])
def pool (es : List (Nat × CpInfo)) (last : Nat) : Array CpInfo := ⟨poolList es last⟩
def fileOf (pool : Array CpInfo) (this : Nat) (attrs : Array Attribute := #[]) (ms : Array MethodInfo := #[]) (fl : Nat := 33) (sup : Nat := 0) (ifs : Array Nat := #[]) (fds : Array FieldInfo := #[]) : ClassFile where
  minorVersion := 0
  majorVersion := 65
  constantPool := pool
  accessFlags := fl
  thisClass := this
  superClass := sup
  interfaces := ifs
  fields := fds
  methods := ms
  attributes := attrs
def plain (name : String) (sup : Option ClassId) : Class where
  name := name
  kind := .ordinary
  loader := none
  accessFlags := 33
  super := sup
  interfaces := #[]
  cf := none
  fields := #[]
  methods := #[]
  instanceTypes := #[]
  staticTypes := #[]
  resolved := #[]
  callSites := []
  init := .initialized
  statics := none
  mirror := none

def pool0 : Array CpInfo := pool [(5, u "<init>"), (0, u "()V"), (1, .class_ 10), (1, u "java/lang/Object")] 113

def k0c0 : Code := { maxStack := 0, maxLocals := 1, code := object_method_1_code, exceptionTable := #[], attributes := #[] }
def k0m0 : Method := { name := "<init>", desc := "()V", sig := { parameters := [], returnType := none }, accessFlags := 1, code := some k0c0 }
/-- java/lang/Object -/
def k0 : Class := { plain "java/lang/Object" none with
  accessFlags := 33
  interfaces := #[]
  cf := some (fileOf pool0 8 #[] #[{ accessFlags := 1, nameIndex := 5, descriptorIndex := 6, attributes := #[] }] 33 0 #[] #[])
  fields := #[]
  methods := #[k0m0]
  instanceTypes := #[]
  staticTypes := #[]
  resolved := Array.replicate 124 none
  statics := none }

def pool1 : Array CpInfo := pool [(2, .class_ 4), (1, u "java/lang/Object"), (0, u "<init>"), (0, u "()V"), (0, .integer 1048575), (0, .class_ 9), (0, u "com/example/cabweave/cabweave/Weights"), (0, .methodref 8 11), (0, .nameAndType 5 12), (0, u "(DDD)V"), (0, .methodref 8 14), (0, .nameAndType 15 16), (0, u "cost"), (0, u "(DDD)D"), (0, .class_ 18), (0, u "com/example/cabweave/cabweave/WeightsCostPinLaw"), (2, u "law"), (0, u "(IIIIII)Z")] 3

def k1m0 : Method := { name := "<init>", desc := "()V", sig := { parameters := [], returnType := none }, accessFlags := 1, code := none }
def k1c1 : Code := { maxStack := 8, maxLocals := 23, code := code, exceptionTable := #[], attributes := #[] }
def k1m1 : Method := { name := "law", desc := "(IIIIII)Z", sig := { parameters := [.int, .int, .int, .int, .int, .int], returnType := some .boolean }, accessFlags := 9, code := some k1c1 }
/-- com/example/cabweave/cabweave/WeightsCostPinLaw -/
def k1 : Class := { plain "com/example/cabweave/cabweave/WeightsCostPinLaw" (some 0) with
  accessFlags := 49
  interfaces := #[]
  cf := some (fileOf pool1 17 #[] #[{ accessFlags := 1, nameIndex := 5, descriptorIndex := 6, attributes := #[] }, { accessFlags := 9, nameIndex := 21, descriptorIndex := 22, attributes := #[] }] 49 2 #[] #[])
  fields := #[]
  methods := #[k1m0, k1m1]
  instanceTypes := #[]
  staticTypes := #[]
  resolved := Array.replicate 26 none
  statics := none }

def pool2 : Array CpInfo := pool [(1, .methodref 2 3), (0, .class_ 4), (0, .nameAndType 5 6), (0, u "java/lang/Object"), (0, u "<init>"), (0, u "()V"), (0, .class_ 8), (0, u "java/lang/Record")] 13

def k2c0 : Code := { maxStack := 1, maxLocals := 1, code := jdk_30_method_1_code, exceptionTable := #[], attributes := #[] }
def k2m0 : Method := { name := "<init>", desc := "()V", sig := { parameters := [], returnType := none }, accessFlags := 4, code := some k2c0 }
/-- java/lang/Record -/
def k2 : Class := { plain "java/lang/Record" (some 0) with
  accessFlags := 1057
  interfaces := #[]
  cf := some (fileOf pool2 7 #[] #[{ accessFlags := 4, nameIndex := 5, descriptorIndex := 6, attributes := #[] }] 1057 2 #[] #[])
  fields := #[]
  methods := #[k2m0]
  instanceTypes := #[]
  staticTypes := #[]
  resolved := Array.replicate 22 none
  statics := none }

def pool3 : Array CpInfo := pool [(1, .methodref 2 3), (0, .class_ 4), (0, .nameAndType 5 6), (0, u "java/lang/Record"), (0, u "<init>"), (0, u "()V"), (2, .double 9218868437227405312), (10, .fieldref 21 22), (0, .class_ 23), (0, .nameAndType 24 25), (0, u "com/example/cabweave/cabweave/Weights"), (0, u "driving"), (0, u "D"), (0, .fieldref 21 27), (0, .nameAndType 28 25), (0, u "extraRide"), (0, .fieldref 21 30), (0, .nameAndType 31 25), (0, u "waiting"), (12, u "(DDD)V"), (6, u "cost"), (0, u "(DDD)D")] 34

def k3c0 : Code := { maxStack := 5, maxLocals := 12, code := prog_44_method_1_code, exceptionTable := #[], attributes := #[] }
def k3m0 : Method := { name := "<init>", desc := "(DDD)V", sig := { parameters := [.double, .double, .double], returnType := none }, accessFlags := 1, code := some k3c0 }
def k3c1 : Code := { maxStack := 6, maxLocals := 7, code := prog_44_method_2_code, exceptionTable := #[], attributes := #[] }
def k3m1 : Method := { name := "cost", desc := "(DDD)D", sig := { parameters := [.double, .double, .double], returnType := some .double }, accessFlags := 1, code := some k3c1 }
/-- com/example/cabweave/cabweave/Weights -/
def k3 : Class := { plain "com/example/cabweave/cabweave/Weights" (some 2) with
  accessFlags := 49
  interfaces := #[]
  cf := some (fileOf pool3 21 #[] #[{ accessFlags := 1, nameIndex := 5, descriptorIndex := 44, attributes := #[] }, { accessFlags := 1, nameIndex := 51, descriptorIndex := 52, attributes := #[] }] 49 2 #[] #[{ accessFlags := 18, nameIndex := 24, descriptorIndex := 25, attributes := #[] }, { accessFlags := 18, nameIndex := 28, descriptorIndex := 25, attributes := #[] }, { accessFlags := 18, nameIndex := 31, descriptorIndex := 25, attributes := #[] }])
  fields := #[{ name := "driving", type := .double, accessFlags := 18, slot := 0, constantValue := 0 }, { name := "extraRide", type := .double, accessFlags := 18, slot := 1, constantValue := 0 }, { name := "waiting", type := .double, accessFlags := 18, slot := 2, constantValue := 0 }]
  methods := #[k3m0, k3m1]
  instanceTypes := #[.double, .double, .double]
  staticTypes := #[]
  resolved := Array.replicate 87 none
  statics := none }

def pool4 : Array CpInfo := pool [(1, u "java/lang/Cloneable"), (0, .class_ 1), (0, u "java/lang/Object"), (0, .class_ 3)] 3

/-- java/lang/Cloneable -/
def k4 : Class := { plain "java/lang/Cloneable" (some 0) with
  accessFlags := 1537
  interfaces := #[]
  cf := some (fileOf pool4 2 #[] #[] 1537 4 #[] #[])
  fields := #[]
  methods := #[]
  instanceTypes := #[]
  staticTypes := #[]
  resolved := Array.replicate 8 none
  statics := none }

def pool5 : Array CpInfo := pool [(1, u "java/io/Serializable"), (0, .class_ 1), (0, u "java/lang/Object"), (0, .class_ 3)] 3

/-- java/io/Serializable -/
def k5 : Class := { plain "java/io/Serializable" (some 0) with
  accessFlags := 1537
  interfaces := #[]
  cf := some (fileOf pool5 2 #[] #[] 1537 4 #[] #[])
  fields := #[]
  methods := #[]
  instanceTypes := #[]
  staticTypes := #[]
  resolved := Array.replicate 8 none
  statics := none }

/-- the primitive byte -/
def k6 : Class := { plain "byte" none with kind := .primitive 'B', accessFlags := 0x411 }
/-- [B -/
def k7 : Class := { plain "[B" (some 0) with kind := .array 6 .byte, interfaces := #[4, 5], accessFlags := 1041 }

/-- the primitive double -/
def k8 : Class := { plain "double" none with kind := .primitive 'D', accessFlags := 0x411 }
/-- [D -/
def k9 : Class := { plain "[D" (some 0) with kind := .array 8 .double, interfaces := #[4, 5], accessFlags := 1041 }

/-- the primitive int -/
def k10 : Class := { plain "int" none with kind := .primitive 'I', accessFlags := 0x411 }
/-- [I -/
def k11 : Class := { plain "[I" (some 0) with kind := .array 10 .int, interfaces := #[4, 5], accessFlags := 1041 }

def heap : Heap := #[]
def classes : Array Class := #[k0, k1, k2, k3, k4, k5, k6, k7, k8, k9, k10, k11]
def interned : List (Array UInt16 × Addr) := []
def slotsUsed : Nat := 0
def theMethod : MethodId := ⟨1, 1⟩
def args0 : Array Value := #[.int 5, .int 9, .int 3, .int 5, .int 7, .int 2]
def aboutOver (below : List Frame) : State where
  vm := { classes := classes, interned := interned.toArray }
  heap := heap
  slotsUsed := slotsUsed
  threads := #[{ frames := .invoking theMethod args0 :: below }]
def below0 : List Frame := [.native { method := ⟨0, 0⟩, args := #[] }]
def about1 : State := aboutOver below0
def p0 : Program := .bare "" "" ""
def e0 : Env := launch0.env 0 0 0
theorem w_frames : about1.frames = Frame.invoking theMethod args0 :: below0 := rfl
set_option maxRecDepth 65536 in
theorem w_args : argsFit about1.vm theMethod args0 = true := by decide +kernel
set_option maxRecDepth 65536 in
theorem w_heap : heapFits about1 = true := by decide +kernel
set_option maxRecDepth 65536 in
theorem w_runnable : about1.curStatus? = some .runnable := by decide +kernel
set_option maxRecDepth 65536 in
theorem w_alone : about1.alone = true := by decide +kernel
set_option maxRecDepth 65536 in
theorem w_named : about1.methodNamed? x = some theMethod := by decide +kernel
set_option maxRecDepth 65536 in
theorem w_hears : about1.hears theMethod below0 = true := by decide +kernel
set_option maxRecDepth 65536 in
theorem w_ripe : about1.ripe theMethod args0 below0 = true := by decide +kernel
theorem w_running : about1.status = .running := rfl
set_option maxRecDepth 65536 in
theorem w_room : about1.hasRoom e0.platform room_1 = true :=
  launch0.hasRoom_least _ room_1 (by decide +kernel) (by decide +kernel) (by decide +kernel) (by decide +kernel) (by decide +kernel) (by decide +kernel)
theorem allAtoms_all (ts : List Jvm.Cond) (a : Array Jvm.Value) (st : Jvm.State) : (allAtoms ts).before a st = ts.all (fun c => c.before a st) := by
  induction ts with
  | nil => rfl
  | cons c t ih =>
    show (Jvm.Cond.and c (allAtoms t)).before a st = _
    rw [Jvm.Cond.before_and, ih, List.all_cons]
def words1 : List Jvm.Cond := Jvm.Cond.code x code maxLocals ret :: tables_1
/-- a 'code' word, met by the world's own term for the bytes: nothing is compared byte by byte -/
theorem code_word {y : MethodName} {bytes : ByteArray} {mx : Nat} {rt : Option FieldType} {a : Array Value} {s : State} {m : MethodId} {meth : Method} {c : Code} (h1 : s.methodNamed? y = some m) (h2 : s.vm.method? m = some meth) (h3 : meth.code = some c) (h4 : c.code = bytes)
    (h5 : (c.maxLocals == mx && c.exceptionTable.isEmpty && decide (c.maxStack ≤ mostOperands) && decide (meth.sig.returnType = rt) && !meth.locks && decide (parseMethodDescriptor y.desc = some meth.sig)) = true) : (Jvm.Cond.code y bytes mx rt).before a s = true := by
  simp only [Bool.and_eq_true, beq_iff_eq, Bool.not_eq_true', decide_eq_true_eq] at h5
  obtain ⟨⟨⟨⟨⟨g1, g2⟩, g3⟩, g4⟩, g5⟩, g6⟩ := h5
  simp [Cond.before, Cond.holds, Cond.value, h1, h2, h3, h4, g1, g2, g3, g4, g5, g6]
def isCode : Jvm.Cond → Bool
  | .code _ _ _ _ => true
  | _ => false
theorem all_split {L : List Jvm.Cond} {P : Jvm.Cond → Bool} (h1 : L.all (fun c => isCode c || P c) = true) (h2 : ∀ c ∈ L.filter isCode, P c = true) : L.all P = true := by
  refine List.all_eq_true.mpr fun c hc => ?_
  have h := List.all_eq_true.mp h1 c hc
  rcases Bool.eq_false_or_eq_true (isCode c) with hi | hi
  · exact h2 c (List.mem_filter.mpr ⟨hc, hi⟩)
  · simpa [hi] using h
set_option maxRecDepth 65536 in
theorem w_c0 : (Jvm.Cond.code x code maxLocals ret).before args0 about1 = true := code_word (m := ⟨1, 1⟩) (meth := k1m1) (c := k1c1) (by decide +kernel) rfl rfl rfl (by decide +kernel)
set_option maxRecDepth 65536 in
theorem w_c1 : (Jvm.Cond.code ({ cls := "com/example/cabweave/cabweave/Weights", name := "<init>", desc := "(DDD)V" } : Jvm.MethodName) prog_44_method_1_code (12 : Nat) (Option.none : Option Jvm.ClassFile.FieldType)).before args0 about1 = true := code_word (m := ⟨3, 0⟩) (meth := k3m0) (c := k3c0) (by decide +kernel) rfl rfl rfl (by decide +kernel)
set_option maxRecDepth 65536 in
theorem w_c2 : (Jvm.Cond.code ({ cls := "java/lang/Record", name := "<init>", desc := "()V" } : Jvm.MethodName) jdk_30_method_1_code (1 : Nat) (Option.none : Option Jvm.ClassFile.FieldType)).before args0 about1 = true := code_word (m := ⟨2, 0⟩) (meth := k2m0) (c := k2c0) (by decide +kernel) rfl rfl rfl (by decide +kernel)
set_option maxRecDepth 65536 in
theorem w_c3 : (Jvm.Cond.code ({ cls := "java/lang/Object", name := "<init>", desc := "()V" } : Jvm.MethodName) object_method_1_code (1 : Nat) (Option.none : Option Jvm.ClassFile.FieldType)).before args0 about1 = true := code_word (m := ⟨0, 0⟩) (meth := k0m0) (c := k0c0) (by decide +kernel) rfl rfl rfl (by decide +kernel)
set_option maxRecDepth 65536 in
theorem w_c4 : (Jvm.Cond.code ({ cls := "com/example/cabweave/cabweave/Weights", name := "cost", desc := "(DDD)D" } : Jvm.MethodName) prog_44_method_2_code (7 : Nat) (Option.some Jvm.ClassFile.FieldType.double)).before args0 about1 = true := code_word (m := ⟨3, 1⟩) (meth := k3m1) (c := k3c1) (by decide +kernel) rfl rfl rfl (by decide +kernel)
def codes1 : List Jvm.Cond := [Jvm.Cond.code x code maxLocals ret, Jvm.Cond.code ({ cls := "com/example/cabweave/cabweave/Weights", name := "<init>", desc := "(DDD)V" } : Jvm.MethodName) prog_44_method_1_code (12 : Nat) (Option.none : Option Jvm.ClassFile.FieldType), Jvm.Cond.code ({ cls := "java/lang/Record", name := "<init>", desc := "()V" } : Jvm.MethodName) jdk_30_method_1_code (1 : Nat) (Option.none : Option Jvm.ClassFile.FieldType), Jvm.Cond.code ({ cls := "java/lang/Object", name := "<init>", desc := "()V" } : Jvm.MethodName) object_method_1_code (1 : Nat) (Option.none : Option Jvm.ClassFile.FieldType), Jvm.Cond.code ({ cls := "com/example/cabweave/cabweave/Weights", name := "cost", desc := "(DDD)D" } : Jvm.MethodName) prog_44_method_2_code (7 : Nat) (Option.some Jvm.ClassFile.FieldType.double)]
set_option maxRecDepth 65536 in
theorem codes_eq : words1.filter isCode = codes1 := rfl
theorem w_codes : ∀ c ∈ words1.filter isCode, c.before args0 about1 = true := by
  rw [codes_eq]
  intro c hc
  simp only [codes1, List.mem_cons, List.not_mem_nil, or_false] at hc
  rcases hc with rfl | rfl | rfl | rfl | rfl
  · exact w_c0
  · exact w_c1
  · exact w_c2
  · exact w_c3
  · exact w_c4
set_option maxRecDepth 65536 in
theorem w_t1 : (words1.take 24).all (fun c => isCode c || c.before args0 about1) = true := by decide +kernel
set_option maxRecDepth 65536 in
theorem w_t2 : (words1.drop 24).all (fun c => isCode c || c.before args0 about1) = true := by decide +kernel
theorem w_tables : (allAtoms (Jvm.Cond.code x code maxLocals ret :: tables_1)).before args0 about1 = true := by
  rw [allAtoms_all]
  show words1.all (fun c => c.before args0 about1) = true
  refine all_split ?_ w_codes
  rw [← List.take_append_drop 24 words1, List.all_append, w_t1, w_t2]
  rfl
set_option maxRecDepth 65536 in
theorem w_case : (Jvm.Cond.and given_1 narrow_1).before args0 about1 = true := by decide +kernel
theorem w_applies : (headSpec (Jvm.Cond.code x code maxLocals ret :: tables_1) room_1).applies x e0.platform about1 = true :=
  (Spec.applies_iff w_frames).mpr ⟨w_running, w_runnable, w_alone, w_named, w_hears, w_ripe, w_room, w_tables⟩
theorem atStart : AtStart classFile x code maxLocals ret World_1 tables_1 room_1 Calls_1 rest_1 Pre_1 launch0 p0 e0 about1 theMethod args0 below0 :=
  ⟨lists_1, trivial, launch0.admits_env _ _ _, launch0.least_env, fairChoices_fair.cas, fairChoices_fair.clock, w_frames, w_args, w_heap, w_applies, trivial, trivial, w_case⟩
end start1
theorem witness_1 : WitnessClaimed_1 := ⟨start1.p0, start1.e0, start1.about1, start1.theMethod, start1.args0, start1.below0, start1.atStart⟩
end Jvm.Pilot.@@N@@
