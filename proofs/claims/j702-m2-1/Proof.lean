import JvmDerived
import JvmDerived.Pilot.@@N@@Statement
import JvmDerived.Pilot.@@N@@Code
set_option linter.unusedVariables false
set_option linter.unusedSimpArgs false
namespace Jvm.RoadKit
open Sem ClassFile Op Lib Jvm.Stand Jvm.Free Jvm.LawKit
section New
variable {p : Program} {l : Launch} {e : Env} {R : Room} {s : State} {m : MethodId} {args : Array Value} {below : List Frame} {meth : Method} {c : Code} {T : State} {locs : List Loc} {cells slots : Nat}
theorem retI (X : Stand p l e R s m args below meth c T locs cells slots) (hx : p.tables.exec = Jvm.exec) {pc : Nat} {Ls : Array Slot} {z : Int32} {rest : List Value} (hret : meth.sig.returnType = some .int) (hd : decode c.code pc = .ok (.ireturn, 1)) {fs : List Frame}
    (hl : ∀ (f : JFrame) (acts : List Action), f.method = m → f.locked = none → f.entered = [] → (doReturn e (T.setTop f) acts (some (.int z))).1 = T.setFrames fs) : Steps p.tables e below (T.setTop (mkF m pc Ls (.int z :: rest))) (T.setFrames fs) := by
  have hm' : T.vm.method? m = some meth := X.method'
  have hn : narrow .int (.int z) = .int z := rfl
  show Steps p.tables e below (T.setTop { method := m, pc := pc, locals := Ls, stack := _ :: rest, locked := none }) _
  jvm_step X.here [X.here.top, hx, hd, hm', hret, hn]
  first | (intro acts; rw [hl _ acts rfl rfl rfl]) | rw [hl _ _ rfl rfl rfl]
  exact Steps.refl _
end New
end Jvm.RoadKit
namespace Jvm.Pilot.@@N@@
open Jvm Jvm.ClassFile Sem Op Lib Jvm.Free Jvm.Stand Jvm.LawKit Jvm.RoadKit Bundle Jvm.Pilot.@@N@@.Jvm.D
section OwnArrays
variable {Z : State} {h h' : Heap} {a b : Addr} {ty : FieldType} {n j : Int32} {F : Nat → Int32} {G : Nat → Int64} {sl : Nat} {v : Value} {ws : List Addr} {k : ClassId} {x : Int32} {y : Int64}
/-- an array of ints (chars, bytes, booleans ..): its length and its components -/
def own_AI (Z : State) (h : Heap) (a : Addr) (ty : FieldType) (n : Int32) (F : Nat → Int32) : Prop := ∃ c : Cell, Arr Z h a c ty ∧ c.slots.size = n.toNatClampNeg ∧ ¬ n < 0 ∧ ∀ i, i < c.slots.size → c.slots[i]? = some (.int (F i)) ∧ fits ty (.int (F i)) = true
/-- an array of longs -/
def own_AJ (Z : State) (h : Heap) (a : Addr) (ty : FieldType) (n : Int32) (F : Nat → Int64) : Prop := ∃ c : Cell, Arr Z h a c ty ∧ c.slots.size = n.toNatClampNeg ∧ ¬ n < 0 ∧ ∀ i, i < c.slots.size → c.slots[i]? = some (.long (F i))
/-- an array of which the length alone is told -/
def own_AL (Z : State) (h : Heap) (a : Addr) (ty : FieldType) (n : Int32) : Prop := ∃ c : Cell, Arr Z h a c ty ∧ c.slots.size = n.toNatClampNeg ∧ ¬ n < 0 ∧ True
def own_upd {α : Type} (F : Nat → α) (i : Nat) (v : α) : Nat → α := fun q => if q = i then v else F q
theorem own_upd_at {α : Type} (F : Nat → α) (i : Nat) (v : α) (q : Nat) : own_upd F i v q = if q = i then v else F q := rfl
theorem own_lt {c : Cell} (q : ¬ (j < 0 ∨ c.slots.size ≤ j.toNatClampNeg)) : j.toNatClampNeg < c.slots.size := Nat.lt_of_not_le fun z => q (Or.inr z)
theorem own_AI.lt (H : own_AI Z h a ty n F) : a < h.size := by obtain ⟨c, A, -⟩ := H; exact A.lt
theorem own_AI.ext (H : own_AI Z h a ty n F) (E : Ext h h') : own_AI Z h' a ty n F := by obtain ⟨c, A, r⟩ := H; exact ⟨c, A.ext E, r⟩
theorem own_AI.other (H : own_AI Z h b ty n F) (W : Wr h h' a sl v) (q : b ≠ a) : own_AI Z h' b ty n F := by obtain ⟨c, A, r⟩ := H; exact ⟨c, A.other W q, r⟩
theorem own_AI.keep (H : own_AI Z h a ty n F) (K : Keep h h' ws) (q : a ∉ ws) : own_AI Z h' a ty n F := by obtain ⟨c, A, r⟩ := H; exact ⟨c, ⟨K.2.1 a c A.1 q, A.2⟩, r⟩
theorem own_AI.new (A : Arr Z h a (newA k ty n) ty) (q : ¬ n < 0) (hd : defaultValue ty = .int 0) : own_AI Z h a ty n (fun _ => 0) :=
  ⟨_, A, sz_new _ _ _, q, fun i hi => by
    rw [sz_new] at hi
    refine ⟨by simp [newA, hi, hd], ?_⟩
    rw [← hd]; cases ty <;> rfl⟩
theorem own_AI.set (H : own_AI Z h a ty n F) (hv : fits ty (.int x) = true) (W : Wr h h' a j.toNatClampNeg (.int x)) : own_AI Z h' a ty n (own_upd F j.toNatClampNeg x) := by
  obtain ⟨c, A, S, q, H⟩ := H
  refine ⟨_, A.same W, by simpa [Cell.setSlot] using S, q, fun i hi => ?_⟩
  have hi' : i < c.slots.size := by simpa [Cell.setSlot] using hi
  by_cases u : i = j.toNatClampNeg
  · rw [own_upd_at, if_pos u]; subst u; exact ⟨by simp [Cell.setSlot, hi'], hv⟩
  · rw [own_upd_at, if_neg u]
    refine ⟨?_, (H i hi').2⟩
    have := (H i hi').1
    simp only [Cell.setSlot] at this ⊢
    rw [Array.getElem?_setIfInBounds_ne (Ne.symm u)]; exact this
theorem own_AJ.lt (H : own_AJ Z h a ty n G) : a < h.size := by obtain ⟨c, A, -⟩ := H; exact A.lt
theorem own_AJ.ext (H : own_AJ Z h a ty n G) (E : Ext h h') : own_AJ Z h' a ty n G := by obtain ⟨c, A, r⟩ := H; exact ⟨c, A.ext E, r⟩
theorem own_AJ.other (H : own_AJ Z h b ty n G) (W : Wr h h' a sl v) (q : b ≠ a) : own_AJ Z h' b ty n G := by obtain ⟨c, A, r⟩ := H; exact ⟨c, A.other W q, r⟩
theorem own_AJ.keep (H : own_AJ Z h a ty n G) (K : Keep h h' ws) (q : a ∉ ws) : own_AJ Z h' a ty n G := by obtain ⟨c, A, r⟩ := H; exact ⟨c, ⟨K.2.1 a c A.1 q, A.2⟩, r⟩
theorem own_AJ.new (A : Arr Z h a (newA k .long n) .long) (q : ¬ n < 0) : own_AJ Z h a .long n (fun _ => 0) :=
  ⟨_, A, sz_new _ _ _, q, fun i hi => by rw [sz_new] at hi; simp [newA, hi, defaultValue]⟩
theorem own_AJ.set (H : own_AJ Z h a ty n G) (W : Wr h h' a j.toNatClampNeg (.long y)) : own_AJ Z h' a ty n (own_upd G j.toNatClampNeg y) := by
  obtain ⟨c, A, S, q, H⟩ := H
  refine ⟨_, A.same W, by simpa [Cell.setSlot] using S, q, fun i hi => ?_⟩
  have hi' : i < c.slots.size := by simpa [Cell.setSlot] using hi
  by_cases u : i = j.toNatClampNeg
  · rw [own_upd_at, if_pos u]; subst u; simp [Cell.setSlot, hi']
  · rw [own_upd_at, if_neg u]
    have := H i hi'
    simp only [Cell.setSlot] at this ⊢
    rw [Array.getElem?_setIfInBounds_ne (Ne.symm u)]; exact this
theorem own_AL.lt (H : own_AL Z h a ty n) : a < h.size := by obtain ⟨c, A, -⟩ := H; exact A.lt
theorem own_AL.ext (H : own_AL Z h a ty n) (E : Ext h h') : own_AL Z h' a ty n := by obtain ⟨c, A, r⟩ := H; exact ⟨c, A.ext E, r⟩
theorem own_AL.other (H : own_AL Z h b ty n) (W : Wr h h' a sl v) (q : b ≠ a) : own_AL Z h' b ty n := by obtain ⟨c, A, r⟩ := H; exact ⟨c, A.other W q, r⟩
theorem own_AL.keep (H : own_AL Z h a ty n) (K : Keep h h' ws) (q : a ∉ ws) : own_AL Z h' a ty n := by obtain ⟨c, A, r⟩ := H; exact ⟨c, ⟨K.2.1 a c A.1 q, A.2⟩, r⟩
theorem own_AL.new (A : Arr Z h a (newA k ty n) ty) (q : ¬ n < 0) : own_AL Z h a ty n := ⟨_, A, sz_new _ _ _, q, trivial⟩
theorem own_AL.set (H : own_AL Z h a ty n) (W : Wr h h' a sl v) : own_AL Z h' a ty n := by
  obtain ⟨c, A, S, q, -⟩ := H
  exact ⟨_, A.same W, by simpa [Cell.setSlot] using S, q, trivial⟩
/-- an array of doubles -/
def own_AD (Z : State) (h : Heap) (a : Addr) (ty : FieldType) (n : Int32) (F : Nat → UInt64) : Prop := ∃ c : Cell, Arr Z h a c ty ∧ c.slots.size = n.toNatClampNeg ∧ ¬ n < 0 ∧ ∀ i, i < c.slots.size → c.slots[i]? = some (.double (F i))
theorem own_AD.lt {G : Nat → UInt64} (H : own_AD Z h a ty n G) : a < h.size := by obtain ⟨c, A, -⟩ := H; exact A.lt
theorem own_AD.ext {G : Nat → UInt64} (H : own_AD Z h a ty n G) (E : Ext h h') : own_AD Z h' a ty n G := by obtain ⟨c, A, r⟩ := H; exact ⟨c, A.ext E, r⟩
theorem own_AD.other {G : Nat → UInt64} (H : own_AD Z h b ty n G) (W : Wr h h' a sl v) (q : b ≠ a) : own_AD Z h' b ty n G := by obtain ⟨c, A, r⟩ := H; exact ⟨c, A.other W q, r⟩
theorem own_AD.keep {G : Nat → UInt64} (H : own_AD Z h a ty n G) (K : Keep h h' ws) (q : a ∉ ws) : own_AD Z h' a ty n G := by obtain ⟨c, A, r⟩ := H; exact ⟨c, ⟨K.2.1 a c A.1 q, A.2⟩, r⟩
theorem own_AD.new (A : Arr Z h a (newA k .double n) .double) (q : ¬ n < 0) : own_AD Z h a .double n (fun _ => 0) :=
  ⟨_, A, sz_new _ _ _, q, fun i hi => by rw [sz_new] at hi; simp [newA, hi, defaultValue]⟩
theorem own_AD.set {G : Nat → UInt64} {y : UInt64} (H : own_AD Z h a ty n G) (W : Wr h h' a j.toNatClampNeg (.double y)) : own_AD Z h' a ty n (own_upd G j.toNatClampNeg y) := by
  obtain ⟨c, A, S, q, H⟩ := H
  refine ⟨_, A.same W, by simpa [Cell.setSlot] using S, q, fun i hi => ?_⟩
  have hi' : i < c.slots.size := by simpa [Cell.setSlot] using hi
  by_cases u : i = j.toNatClampNeg
  · rw [own_upd_at, if_pos u]; subst u; simp [Cell.setSlot, hi']
  · rw [own_upd_at, if_neg u]
    have := H i hi'
    simp only [Cell.setSlot] at this ⊢
    rw [Array.getElem?_setIfInBounds_ne (Ne.symm u)]; exact this
theorem own_AI.congr {F' : Nat → Int32} (H : own_AI Z h a ty n F) (q : ∀ i, i < n.toNatClampNeg → F i = F' i) : own_AI Z h a ty n F' := by
  obtain ⟨c, A, S, N, H⟩ := H
  exact ⟨c, A, S, N, fun i hi => by rw [← q i (S ▸ hi)]; exact H i hi⟩
theorem own_AJ.congr {G' : Nat → Int64} (H : own_AJ Z h a ty n G) (q : ∀ i, i < n.toNatClampNeg → G i = G' i) : own_AJ Z h a ty n G' := by
  obtain ⟨c, A, S, N, H⟩ := H
  exact ⟨c, A, S, N, fun i hi => by rw [← q i (S ▸ hi)]; exact H i hi⟩
end OwnArrays
theorem own_same {a0 : Array Value} {Z : State} {C : String} {x y z : MethodName} (hy : y.cls = z.cls) (hne : y.cls ≠ "java/lang/invoke/MethodHandle" ∧ y.cls ≠ "java/lang/invoke/VarHandle") (w1 : (Cond.declares y).before a0 Z = true) (w3 : (Cond.selects C x z).before a0 Z = true) :
    (Cond.sameMethod y.cls y.cls y.name y.desc).before a0 Z = true := by
  obtain ⟨r0, r, hn, hrm, hstR, hsigR⟩ := Cond.declares_spec w1
  obtain ⟨c2, r2, m2, q1, q2, q3, q4, kP, hkP, hkPi⟩ := Cond.selects_spec w3
  have h1 := findClass_of_methodNamed hn
  have h2 := findClass_of_methodNamed q3
  have h3 := State.methodFound?_of_named hn hne
  rw [← hy] at h2
  have e : r0.cls = m2.cls := Option.some.inj (h1.symm.trans h2)
  have hn' : Z.methodNamed? ⟨y.cls, y.name, y.desc⟩ = some r0 := hn
  simp only [Cond.before, Cond.holds, Cond.value, h1, h3, hn']
  rw [e, hkP]
  simp [hkPi]
theorem own_selp {s : State} {args : Array Value} {y z : MethodName} (hz : z.cls = y.cls) (hs : (Jvm.Cond.selects y.cls z z).before args s = true) (hpriv : s.PrivateAt y) (hinst : (Jvm.Cond.instanceMethod y).before args s = true) (hy : y.cls ≠ "java/lang/invoke/MethodHandle" ∧ y.cls ≠ "java/lang/invoke/VarHandle") : (Jvm.Cond.selects y.cls y y).before args s = true := by
  obtain ⟨c2, r2, m2, q1, q2, q3, q4, kP, hkP, hkPi⟩ := Cond.selects_spec hs
  have h1 := findClass_of_methodNamed q3
  rw [hz] at h1
  exact Jvm.Stand.selects_self_of_private h1 hkP hkPi hpriv hinst hy
theorem d1_0 : decode method_2_code 0 = .ok (.iload_n 0, 1) := by decide +kernel
theorem d1_1 : decode method_2_code 1 = .ok (.iconst 3, 1) := by decide +kernel
theorem d1_2 : decode method_2_code 2 = .ok (.iand, 1) := by decide +kernel
theorem d1_3 : decode method_2_code 3 = .ok (.istore_n 1, 1) := by decide +kernel
theorem d1_4 : decode method_2_code 4 = .ok (.iload_n 1, 1) := by decide +kernel
theorem d1_5 : decode method_2_code 5 = .ok (.ifCond .ne 6, 3) := by decide +kernel
theorem d1_8 : decode method_2_code 8 = .ok (.bipush 34, 2) := by decide +kernel
theorem d1_10 : decode method_2_code 10 = .ok (.ireturn, 1) := by decide +kernel
theorem d1_11 : decode method_2_code 11 = .ok (.iload_n 1, 1) := by decide +kernel
theorem d1_12 : decode method_2_code 12 = .ok (.iconst 1, 1) := by decide +kernel
theorem d1_13 : decode method_2_code 13 = .ok (.if_icmp .ne 6, 3) := by decide +kernel
theorem d1_16 : decode method_2_code 16 = .ok (.bipush 44, 2) := by decide +kernel
theorem d1_18 : decode method_2_code 18 = .ok (.ireturn, 1) := by decide +kernel
theorem d1_19 : decode method_2_code 19 = .ok (.iload_n 1, 1) := by decide +kernel
theorem d1_20 : decode method_2_code 20 = .ok (.iconst 2, 1) := by decide +kernel
theorem d1_21 : decode method_2_code 21 = .ok (.if_icmp .ne 6, 3) := by decide +kernel
theorem d1_24 : decode method_2_code 24 = .ok (.bipush 10, 2) := by decide +kernel
theorem d1_26 : decode method_2_code 26 = .ok (.ireturn, 1) := by decide +kernel
theorem d1_27 : decode method_2_code 27 = .ok (.iload_n 0, 1) := by decide +kernel
theorem d1_28 : decode method_2_code 28 = .ok (.iconst 2, 1) := by decide +kernel
theorem d1_29 : decode method_2_code 29 = .ok (.iushr, 1) := by decide +kernel
theorem d1_30 : decode method_2_code 30 = .ok (.i2b, 1) := by decide +kernel
theorem d1_31 : decode method_2_code 31 = .ok (.ireturn, 1) := by decide +kernel
theorem pn_1 : plainName "com/example/cistern/cistern/io/CsvReaderInRecordPinLaw" = true := by first | (simp [plainName, overriddenIn]; done) | decide +kernel
theorem ef_1 (m : MethodId) (x0 : Int32) : entryFrame m #[(.int x0)] 2 = mkF m 0 #[.val (.int x0), .unset] [] := by first | (simp [entryFrame, mkF, argsToLocals, Value.category]; done) | rfl
def f1 (p0 : Int32) : Int32 :=
  if (p0 &&& (3 : Int32)) = (0 : Int32) then ((34 : Int32)) else
  (if (p0 &&& (3 : Int32)) = (1 : Int32) then ((44 : Int32)) else
  (if (p0 &&& (3 : Int32)) = (2 : Int32) then ((10 : Int32)) else
  ((nar .byte (((p0.toUInt32 >>> ((2 : Int32) &&& 31).toUInt32).toInt32).toInt8.toInt32)))))
def Q1 (Z : State) (p0 : Int32) (h0 : Heap) (n0 : Nat) (v : Option Value) (h : Heap) (L : List Loc) : Prop := v = some (.int (f1 p0)) ∧ Fr n0 L ∧ h = h0
set_option maxRecDepth 65536 in
set_option maxHeartbeats 40000000 in
theorem rm1 (l : Launch) (Z : State) (a0 : Array Value) (hw : ∀ d ∈ tables_1, d.before a0 Z = true) (ws : List Jvm.Cond) (p0 : Int32) (h0 : Heap) (n0 : Nat) (Z0 : n0 ≤ h0.size) :
    MetFree l (⟨"com/example/cistern/cistern/io/CsvReaderInRecordPinLaw", "draw", "(I)B"⟩ : MethodName) (head1 (Jvm.Cond.code (⟨"com/example/cistern/cistern/io/CsvReaderInRecordPinLaw", "draw", "(I)B"⟩ : MethodName) method_2_code 2 (some .byte) :: ws) ({ frames := 0, cells := 0, slots := 0, locals := 0 } : Room)) (fun a U => a = #[(.int p0)] ∧ Z.Warmed39 U.vm ∧ U.heap = h0) (fun _ _ _ _ _ => True) (fun _ U o U' => ∃ v L, o = .returned v ∧ Q1 Z p0 h0 n0 v U'.heap L ∧ FrameEnd U o U' L ({ frames := 0, cells := 0, slots := 0, locals := 0 } : Room).cells ({ frames := 0, cells := 0, slots := 0, locals := 0 } : Room).slots) := by
  refine MetFree.of_bodySF (plainFor_of_name pn_1) hisR ?_
  intro p e s m args below meth c s₁ Bd hml0 hP hK
  obtain ⟨rfl, hZ, hh⟩ := hP
  have hx := Bd.exec
  have hby := Bd.bytes
  have hml : c.maxLocals = 2 := hml0
  have hown : s.vm.findClass "com/example/cistern/cistern/io/CsvReaderInRecordPinLaw" = some m.cls := findClass_of_methodNamed Bd.named
  have hnm := (name_of_methodNamed Bd.named Bd.method).1
  have X0 : Stand p l e ({ frames := 0, cells := 0, slots := 0, locals := 0 } : Room) s m #[(.int p0)] below meth c s₁ [] 0 0 := Stand.of_body Bd
  have e0 : s₁.heap = h0 := by rw [← hh, Bd.state]; rfl
  have N0 := Fr.nil n0
  have pre0 : ∀ t, Steps p.tables e below (s₁.setTop (mkF m 0 #[.val (.int p0), .unset] [])) t → Steps p.tables e below (s₁.setTop (entryFrame m #[(.int p0)] 2)) t := fun t k => castTop (ef_1 m p0) k
  have pre1 : ∀ t, Steps p.tables e below (s₁.setTop (mkF m 5 #[.val (.int p0), .val (.int (p0 &&& (3 : Int32)))] [(.int (p0 &&& (3 : Int32)))])) t → Steps p.tables e below (s₁.setTop (entryFrame m #[(.int p0)] 2)) t := fun t kt => pre0 t (by
      show Steps p.tables e below (s₁.setTop (mkF m 0 #[.val (.int p0), .unset] [])) _
      refine XS.iloadN X0.here hx rfl (hb hby d1_0) rfl ?_
      show Steps p.tables e below (s₁.setTop (mkF m 1 #[.val (.int p0), .unset] [(.int p0)])) _
      refine XS.iconst X0.here hx rfl (hb hby d1_1) ?_
      show Steps p.tables e below (s₁.setTop (mkF m 2 #[.val (.int p0), .unset] [(.int (3 : Int32)), (.int p0)])) _
      refine XS.iand X0.here hx rfl (hb hby d1_2) rfl ?_
      show Steps p.tables e below (s₁.setTop (mkF m 3 #[.val (.int p0), .unset] [(.int (p0 &&& (3 : Int32)))])) _
      refine XS.istoreN X0.here hx rfl (hb hby d1_3) rfl (l' := #[.val (.int p0), .val (.int (p0 &&& (3 : Int32)))]) rfl ?_
      show Steps p.tables e below (s₁.setTop (mkF m 4 #[.val (.int p0), .val (.int (p0 &&& (3 : Int32)))] [])) _
      refine XS.iloadN X0.here hx rfl (hb hby d1_4) rfl ?_
      exact kt)
  by_cases hc5_2 : (p0 &&& (3 : Int32)) = (0 : Int32)
  · obtain ⟨fs, hr, hrun, hended, hW, hsame⟩ := X0.leave (v := some (.int (34 : Int32))) (fun h => by rw [Bd.returns] at h; cases h)
    have hv7 : (f1 p0) = (34 : Int32) := by rw [f1, if_pos hc5_2]
    refine ⟨_, _, pre1 _ ?_, hrun, hended, _, _, rfl, ?_, ⟨_, rfl⟩, hW, hsame.mono (by decide) (by decide)⟩
    · show Steps p.tables e below (s₁.setTop (mkF m 5 #[.val (.int p0), .val (.int (p0 &&& (3 : Int32)))] [(.int (p0 &&& (3 : Int32)))])) _
      refine XS.ifNo X0.here hx rfl (hb hby d1_5) rfl ((if0 _ _).trans (teq hc5_2).2) ?_
      show Steps p.tables e below (s₁.setTop (mkF m 8 #[.val (.int p0), .val (.int (p0 &&& (3 : Int32)))] [])) _
      refine XS.bipush X0.here hx rfl (hb hby d1_8) ?_
      show Steps p.tables e below (s₁.setTop (mkF m 10 #[.val (.int p0), .val (.int (p0 &&& (3 : Int32)))] [(.int (34 : Int32))])) _
      exact retN X0 hx (t := .byte) Bd.returns (by simp) (hb hby d1_10) hr
    · show Q1 Z p0 h0 n0 _ s₁.heap _
      rw [e0]
      exact ⟨congrArg (fun q => some (Value.int q)) hv7.symm, N0, rfl⟩
  · have pre3 : ∀ t, Steps p.tables e below (s₁.setTop (mkF m 13 #[.val (.int p0), .val (.int (p0 &&& (3 : Int32)))] [(.int (1 : Int32)), (.int (p0 &&& (3 : Int32)))])) t → Steps p.tables e below (s₁.setTop (entryFrame m #[(.int p0)] 2)) t := fun t kt => pre1 t (by
        show Steps p.tables e below (s₁.setTop (mkF m 5 #[.val (.int p0), .val (.int (p0 &&& (3 : Int32)))] [(.int (p0 &&& (3 : Int32)))])) _
        refine XS.ifYes X0.here hx rfl (pc0 := 5) (pc' := 11) rfl (hb hby d1_5) rfl ((if0 _ _).trans (feq hc5_2).2) (by decide) (by decide) ?_
        show Steps p.tables e below (s₁.setTop (mkF m 11 #[.val (.int p0), .val (.int (p0 &&& (3 : Int32)))] [])) _
        refine XS.iloadN X0.here hx rfl (hb hby d1_11) rfl ?_
        show Steps p.tables e below (s₁.setTop (mkF m 12 #[.val (.int p0), .val (.int (p0 &&& (3 : Int32)))] [(.int (p0 &&& (3 : Int32)))])) _
        refine XS.iconst X0.here hx rfl (hb hby d1_12) ?_
        exact kt)
    by_cases hc13_4 : (p0 &&& (3 : Int32)) = (1 : Int32)
    · obtain ⟨fs, hr, hrun, hended, hW, hsame⟩ := X0.leave (v := some (.int (44 : Int32))) (fun h => by rw [Bd.returns] at h; cases h)
      have hv8 : (f1 p0) = (44 : Int32) := by rw [f1, if_neg hc5_2, if_pos hc13_4]
      refine ⟨_, _, pre3 _ ?_, hrun, hended, _, _, rfl, ?_, ⟨_, rfl⟩, hW, hsame.mono (by decide) (by decide)⟩
      · show Steps p.tables e below (s₁.setTop (mkF m 13 #[.val (.int p0), .val (.int (p0 &&& (3 : Int32)))] [(.int (1 : Int32)), (.int (p0 &&& (3 : Int32)))])) _
        refine XS.icmpNo X0.here hx rfl (hb hby d1_13) rfl (teq hc13_4).2 ?_
        show Steps p.tables e below (s₁.setTop (mkF m 16 #[.val (.int p0), .val (.int (p0 &&& (3 : Int32)))] [])) _
        refine XS.bipush X0.here hx rfl (hb hby d1_16) ?_
        show Steps p.tables e below (s₁.setTop (mkF m 18 #[.val (.int p0), .val (.int (p0 &&& (3 : Int32)))] [(.int (44 : Int32))])) _
        exact retN X0 hx (t := .byte) Bd.returns (by simp) (hb hby d1_18) hr
      · show Q1 Z p0 h0 n0 _ s₁.heap _
        rw [e0]
        exact ⟨congrArg (fun q => some (Value.int q)) hv8.symm, N0, rfl⟩
    · have pre5 : ∀ t, Steps p.tables e below (s₁.setTop (mkF m 21 #[.val (.int p0), .val (.int (p0 &&& (3 : Int32)))] [(.int (2 : Int32)), (.int (p0 &&& (3 : Int32)))])) t → Steps p.tables e below (s₁.setTop (entryFrame m #[(.int p0)] 2)) t := fun t kt => pre3 t (by
          show Steps p.tables e below (s₁.setTop (mkF m 13 #[.val (.int p0), .val (.int (p0 &&& (3 : Int32)))] [(.int (1 : Int32)), (.int (p0 &&& (3 : Int32)))])) _
          refine XS.icmpYes X0.here hx rfl (pc0 := 13) (pc' := 19) rfl (hb hby d1_13) rfl (feq hc13_4).2 (by decide) (by decide) ?_
          show Steps p.tables e below (s₁.setTop (mkF m 19 #[.val (.int p0), .val (.int (p0 &&& (3 : Int32)))] [])) _
          refine XS.iloadN X0.here hx rfl (hb hby d1_19) rfl ?_
          show Steps p.tables e below (s₁.setTop (mkF m 20 #[.val (.int p0), .val (.int (p0 &&& (3 : Int32)))] [(.int (p0 &&& (3 : Int32)))])) _
          refine XS.iconst X0.here hx rfl (hb hby d1_20) ?_
          exact kt)
      by_cases hc21_6 : (p0 &&& (3 : Int32)) = (2 : Int32)
      · obtain ⟨fs, hr, hrun, hended, hW, hsame⟩ := X0.leave (v := some (.int (10 : Int32))) (fun h => by rw [Bd.returns] at h; cases h)
        have hv9 : (f1 p0) = (10 : Int32) := by rw [f1, if_neg hc5_2, if_neg hc13_4, if_pos hc21_6]
        refine ⟨_, _, pre5 _ ?_, hrun, hended, _, _, rfl, ?_, ⟨_, rfl⟩, hW, hsame.mono (by decide) (by decide)⟩
        · show Steps p.tables e below (s₁.setTop (mkF m 21 #[.val (.int p0), .val (.int (p0 &&& (3 : Int32)))] [(.int (2 : Int32)), (.int (p0 &&& (3 : Int32)))])) _
          refine XS.icmpNo X0.here hx rfl (hb hby d1_21) rfl (teq hc21_6).2 ?_
          show Steps p.tables e below (s₁.setTop (mkF m 24 #[.val (.int p0), .val (.int (p0 &&& (3 : Int32)))] [])) _
          refine XS.bipush X0.here hx rfl (hb hby d1_24) ?_
          show Steps p.tables e below (s₁.setTop (mkF m 26 #[.val (.int p0), .val (.int (p0 &&& (3 : Int32)))] [(.int (10 : Int32))])) _
          exact retN X0 hx (t := .byte) Bd.returns (by simp) (hb hby d1_26) hr
        · show Q1 Z p0 h0 n0 _ s₁.heap _
          rw [e0]
          exact ⟨congrArg (fun q => some (Value.int q)) hv9.symm, N0, rfl⟩
      · obtain ⟨fs, hr, hrun, hended, hW, hsame⟩ := X0.leave (v := some (.int (nar .byte (((p0.toUInt32 >>> ((2 : Int32) &&& 31).toUInt32).toInt32).toInt8.toInt32)))) (fun h => by rw [Bd.returns] at h; cases h)
        have hv10 : (f1 p0) = (nar .byte (((p0.toUInt32 >>> ((2 : Int32) &&& 31).toUInt32).toInt32).toInt8.toInt32)) := by rw [f1, if_neg hc5_2, if_neg hc13_4, if_neg hc21_6]
        refine ⟨_, _, pre5 _ ?_, hrun, hended, _, _, rfl, ?_, ⟨_, rfl⟩, hW, hsame.mono (by decide) (by decide)⟩
        · show Steps p.tables e below (s₁.setTop (mkF m 21 #[.val (.int p0), .val (.int (p0 &&& (3 : Int32)))] [(.int (2 : Int32)), (.int (p0 &&& (3 : Int32)))])) _
          refine XS.icmpYes X0.here hx rfl (pc0 := 21) (pc' := 27) rfl (hb hby d1_21) rfl (feq hc21_6).2 (by decide) (by decide) ?_
          show Steps p.tables e below (s₁.setTop (mkF m 27 #[.val (.int p0), .val (.int (p0 &&& (3 : Int32)))] [])) _
          refine XS.iloadN X0.here hx rfl (hb hby d1_27) rfl ?_
          show Steps p.tables e below (s₁.setTop (mkF m 28 #[.val (.int p0), .val (.int (p0 &&& (3 : Int32)))] [(.int p0)])) _
          refine XS.iconst X0.here hx rfl (hb hby d1_28) ?_
          show Steps p.tables e below (s₁.setTop (mkF m 29 #[.val (.int p0), .val (.int (p0 &&& (3 : Int32)))] [(.int (2 : Int32)), (.int p0)])) _
          refine XS.iushr X0.here hx rfl (hb hby d1_29) rfl ?_
          show Steps p.tables e below (s₁.setTop (mkF m 30 #[.val (.int p0), .val (.int (p0 &&& (3 : Int32)))] [(.int ((p0.toUInt32 >>> ((2 : Int32) &&& 31).toUInt32).toInt32))])) _
          refine XS.i2b X0.here hx rfl (hb hby d1_30) rfl ?_
          show Steps p.tables e below (s₁.setTop (mkF m 31 #[.val (.int p0), .val (.int (p0 &&& (3 : Int32)))] [(.int (((p0.toUInt32 >>> ((2 : Int32) &&& 31).toUInt32).toInt32).toInt8.toInt32))])) _
          exact retN X0 hx (t := .byte) Bd.returns (by simp) (hb hby d1_31) hr
        · show Q1 Z p0 h0 n0 _ s₁.heap _
          rw [e0]
          exact ⟨congrArg (fun q => some (Value.int q)) hv10.symm, N0, rfl⟩
theorem d3_0 : decode prog_24_method_1_code 0 = .ok (.aload_n 0, 1) := by decide +kernel
theorem d3_1 : decode prog_24_method_1_code 1 = .ok (.invokespecial 3, 3) := by decide +kernel
theorem d3_4 : decode prog_24_method_1_code 4 = .ok (.aload_n 0, 1) := by decide +kernel
theorem d3_5 : decode prog_24_method_1_code 5 = .ok (.ldc 11, 2) := by decide +kernel
theorem d3_7 : decode prog_24_method_1_code 7 = .ok (.newarray .byte, 2) := by decide +kernel
theorem d3_9 : decode prog_24_method_1_code 9 = .ok (.putfield 12, 3) := by decide +kernel
theorem d3_12 : decode prog_24_method_1_code 12 = .ok (.aload_n 0, 1) := by decide +kernel
theorem d3_13 : decode prog_24_method_1_code 13 = .ok (.iconst 1, 1) := by decide +kernel
theorem d3_14 : decode prog_24_method_1_code 14 = .ok (.putfield 16, 3) := by decide +kernel
theorem d3_17 : decode prog_24_method_1_code 17 = .ok (.aload_n 0, 1) := by decide +kernel
theorem d3_18 : decode prog_24_method_1_code 18 = .ok (.iconst 1, 1) := by decide +kernel
theorem d3_19 : decode prog_24_method_1_code 19 = .ok (.putfield 20, 3) := by decide +kernel
theorem d3_22 : decode prog_24_method_1_code 22 = .ok (.aload_n 0, 1) := by decide +kernel
theorem d3_23 : decode prog_24_method_1_code 23 = .ok (.getstatic 23, 3) := by decide +kernel
theorem d3_26 : decode prog_24_method_1_code 26 = .ok (.putfield 26, 3) := by decide +kernel
theorem d3_29 : decode prog_24_method_1_code 29 = .ok (.return_, 1) := by decide +kernel
theorem pn_3 : plainName "com/example/cistern/cistern/io/RecordReader" = true := by first | (simp [plainName, overriddenIn]; done) | decide +kernel
theorem ef_3 (m : MethodId) (x0 : Addr) : entryFrame m #[(.ref x0)] 1 = mkF m 0 #[.val (.ref x0)] [] := by first | (simp [entryFrame, mkF, argsToLocals, Value.category]; done) | rfl
def Q3 (Z : State) (o0 : Addr) (vq : Int32) (vc : Int32) (vo : Int64) (vr : Int64) (vd : Int32) (w8 : Int32) (w13 : Int32) (w18 : Addr) (h0 : Heap) (n0 : Nat) (v : Option Value) (h : Heap) (L : List Loc) : Prop := ∃ r_o0__buffer : Addr, v = none ∧ Fr n0 L ∧ Keep h0 h [o0] ∧ n0 ≤ r_o0__buffer ∧ h0.size ≤ r_o0__buffer ∧ Fld Z h o0 "com/example/cistern/cistern/io/RecordReader" "_buffer" "[B" (.ref r_o0__buffer) ∧ own_AI Z h r_o0__buffer .byte (65537 : Int32) (fun _ => 0) ∧ Fld Z h o0 "com/example/cistern/cistern/io/RecordReader" "_start" "I" (.int (1 : Int32)) ∧ Fld Z h o0 "com/example/cistern/cistern/io/RecordReader" "_end" "I" (.int (1 : Int32)) ∧ Fld Z h o0 "com/example/cistern/cistern/io/RecordReader" "_built" "[B" (.ref w18) ∧ Fld Z h o0 "com/example/cistern/cistern/io/CsvReader" "_quoted" "Z" (.int vq) ∧ Fld Z h o0 "com/example/cistern/cistern/io/CsvReader" "_closed" "Z" (.int vc) ∧ Fld Z h o0 "com/example/cistern/cistern/io/RecordReader" "_in" "Ljava/io/InputStream;" .null ∧ Fld Z h o0 "com/example/cistern/cistern/io/RecordReader" "_offset" "J" (.long vo) ∧ Fld Z h o0 "com/example/cistern/cistern/io/RecordReader" "_records" "J" (.long vr) ∧ Fld Z h o0 "com/example/cistern/cistern/io/RecordReader" "_ended" "Z" (.int vd)
set_option maxRecDepth 65536 in
set_option maxHeartbeats 40000000 in
theorem rm3 (l : Launch) (Z : State) (a0 : Array Value) (hw : ∀ d ∈ tables_1, d.before a0 Z = true) (ws : List Jvm.Cond) (o0 : Addr) (vq : Int32) (vc : Int32) (vo : Int64) (vr : Int64) (vd : Int32) (w8 : Int32) (w13 : Int32) (w18 : Addr) (h0 : Heap) (n0 : Nat) (Z0 : n0 ≤ h0.size) (E_o0 : Exa Z h0 o0 "com/example/cistern/cistern/io/CsvReader") (F__quoted_o0 : Fld Z h0 o0 "com/example/cistern/cistern/io/CsvReader" "_quoted" "Z" (.int vq)) (F__closed_o0 : Fld Z h0 o0 "com/example/cistern/cistern/io/CsvReader" "_closed" "Z" (.int vc)) (F__in_o0 : Fld Z h0 o0 "com/example/cistern/cistern/io/RecordReader" "_in" "Ljava/io/InputStream;" .null) (F__offset_o0 : Fld Z h0 o0 "com/example/cistern/cistern/io/RecordReader" "_offset" "J" (.long vo)) (F__records_o0 : Fld Z h0 o0 "com/example/cistern/cistern/io/RecordReader" "_records" "J" (.long vr)) (F__ended_o0 : Fld Z h0 o0 "com/example/cistern/cistern/io/RecordReader" "_ended" "Z" (.int vd)) (g_o0 : n0 ≤ o0) (F__buffer_o0 : Fld Z h0 o0 "com/example/cistern/cistern/io/RecordReader" "_buffer" "[B" .null) (F__start_o0 : Fld Z h0 o0 "com/example/cistern/cistern/io/RecordReader" "_start" "I" (.int w8)) (F__end_o0 : Fld Z h0 o0 "com/example/cistern/cistern/io/RecordReader" "_end" "I" (.int w13)) (S_NO_BYTES : Sta Z h0 "com/example/cistern/cistern/io/RecordReader" "NO_BYTES" "[B" (.ref w18)) (F__built_o0 : Fld Z h0 o0 "com/example/cistern/cistern/io/RecordReader" "_built" "[B" .null) :
    MetFree l (⟨"com/example/cistern/cistern/io/RecordReader", "<init>", "()V"⟩ : MethodName) (head1 (Jvm.Cond.code (⟨"com/example/cistern/cistern/io/RecordReader", "<init>", "()V"⟩ : MethodName) prog_24_method_1_code 1 none :: ws) ({ frames := 1, cells := 1, slots := 65537, locals := 12 } : Room)) (fun a U => a = #[(.ref o0)] ∧ Z.Warmed39 U.vm ∧ U.heap = h0) (fun _ _ _ _ _ => True) (fun _ U o U' => ∃ v L, o = .returned v ∧ Q3 Z o0 vq vc vo vr vd w8 w13 w18 h0 n0 v U'.heap L ∧ FrameEnd U o U' L ({ frames := 1, cells := 1, slots := 65537, locals := 12 } : Room).cells ({ frames := 1, cells := 1, slots := 65537, locals := 12 } : Room).slots) := by
  refine MetFree.of_bodySF (plainFor_of_name pn_3) hisR ?_
  intro p e s m args below meth c s₁ Bd hml0 hP hK
  obtain ⟨rfl, hZ, hh⟩ := hP
  have hx := Bd.exec
  have hby := Bd.bytes
  have hml : c.maxLocals = 1 := hml0
  have hown : s.vm.findClass "com/example/cistern/cistern/io/RecordReader" = some m.cls := findClass_of_methodNamed Bd.named
  have hnm := (name_of_methodNamed Bd.named Bd.method).1
  have X0 : Stand p l e ({ frames := 1, cells := 1, slots := 65537, locals := 12 } : Room) s m #[(.ref o0)] below meth c s₁ [] 0 0 := Stand.of_body Bd
  have e0 : s₁.heap = h0 := by rw [← hh, Bd.state]; rfl
  have N0 := Fr.nil n0
  have pre0 : ∀ t, Steps p.tables e below (s₁.setTop (mkF m 0 #[.val (.ref o0)] [])) t → Steps p.tables e below (s₁.setTop (entryFrame m #[(.ref o0)] 1)) t := fun t k => castTop (ef_3 m o0) k
  obtain ⟨T1, X1, e1, st1⟩ := initO X0 hx hZ hown (hw _ (List.mem_of_getElem? (i := 15) rfl)) (hw _ (List.mem_of_getElem? (i := 16) rfl)) (hw _ (List.mem_of_getElem? (i := 17) rfl)) e0 (g := (mkF m 1 #[.val (.ref o0)] [(.ref o0)])) rfl (by rw [hml]; rfl) rfl (hb hby d3_1) (by decide) (W := 0) (by show 2 * 0 + _ ≤ _; exact Nat.le_of_eq rfl) (by decide)
  obtain ⟨T2, h2, k2, X2, e2, E2, A2, st2⟩ := newP X1 hx hZ (hw _ (List.mem_of_getElem? (i := 19) rfl)) e1 (g := (mkF m 7 #[.val (.ref o0)] [(.int (65537 : Int32)), (.ref o0)])) rfl (hb hby d3_7) rfl (by decide) (cap := 65537) (by decide) (by decide) (by decide) (by decide)
  obtain ⟨b2, g2⟩ : ∃ z, z = h0.size := ⟨_, rfl⟩
  rw [← g2] at A2 st2
  have g_b2 : n0 ≤ b2 := Nat.le_trans Z0 (Nat.le_of_eq g2.symm)
  have sz_b2 : h0.size ≤ b2 := Nat.le_trans (Keep.refl h0 [o0]).1 (Nat.le_of_eq g2.symm)
  have ne_o0_b2 : o0 ≠ b2 := Nat.ne_of_lt (Nat.lt_of_lt_of_le E_o0.lt (Nat.le_of_eq g2.symm))
  have K3 : Keep h0 h2 [o0] := (Keep.refl h0 [o0]).ext E2
  have Z4 : n0 ≤ h2.size := Nat.le_trans Z0 K3.1
  have V_b2 : own_AI Z h2 b2 .byte (65537 : Int32) (fun _ => 0) := own_AI.new A2 (by decide) rfl
  obtain ⟨T5, h5, X5, e5, W5, st5⟩ := putF X2 hx hZ hown (host := "") (Or.inl (hw _ (List.mem_of_getElem? (i := 20) rfl))) Via.refl e2 (F__buffer_o0.ext E2) (E_o0.ext E2) (Or.inr ⟨(hw _ (List.mem_of_getElem? (i := 21) rfl)), rfl, hnm⟩) (hw _ (List.mem_of_getElem? (i := 5) rfl)) (ty := (.array .byte)) (by decide) rfl rfl (g := (mkF m 9 #[.val (.ref o0)] [(.ref b2), (.ref o0)])) rfl rfl (hb hby d3_9)
  have Fw5 := (F__buffer_o0.ext E2).same W5
  have K6 : Keep h0 h5 [o0] := K3.wr W5 (Or.inl (List.mem_of_getElem? (i := 0) rfl))
  have Z7 : n0 ≤ h5.size := Nat.le_trans Z0 K6.1
  have N5 := Fr.snoc X5 N0 g_o0
  obtain ⟨LS5, X5, N5⟩ : ∃ L, Stand p l e ({ frames := 1, cells := 1, slots := 65537, locals := 12 } : Room) s m #[(.ref o0)] below meth c T5 L 1 65537 ∧ Fr n0 L := ⟨_, X5, N5⟩
  have c9 := ((F__start_o0.ext E2).other W5 (Or.inr (slot_ne (Or.inl (hw _ (List.mem_of_getElem? (i := 23) rfl))) (Or.inr (hw _ (List.mem_of_getElem? (i := 21) rfl))) (by decide) (t := .int) (t' := (.array .byte)) (by decide) (by decide))))
  obtain ⟨T10, h10, X10, e10, W10, st10⟩ := putF X5 hx hZ hown (host := "") (Or.inl (hw _ (List.mem_of_getElem? (i := 22) rfl))) Via.refl e5 c9 ((E_o0.ext E2).wr W5) (Or.inl (hw _ (List.mem_of_getElem? (i := 23) rfl))) (hw _ (List.mem_of_getElem? (i := 5) rfl)) (ty := .int) (by decide) rfl rfl (g := (mkF m 14 #[.val (.ref o0)] [(.int (1 : Int32)), (.ref o0)])) rfl rfl (hb hby d3_14)
  have Fw10 := c9.same W10
  have K11 : Keep h0 h10 [o0] := K6.wr W10 (Or.inl (List.mem_of_getElem? (i := 0) rfl))
  have Z12 : n0 ≤ h10.size := Nat.le_trans Z0 K11.1
  have N10 := Fr.snoc X10 N5 g_o0
  obtain ⟨LS10, X10, N10⟩ : ∃ L, Stand p l e ({ frames := 1, cells := 1, slots := 65537, locals := 12 } : Room) s m #[(.ref o0)] below meth c T10 L 1 65537 ∧ Fr n0 L := ⟨_, X10, N10⟩
  have c14 := (((F__end_o0.ext E2).other W5 (Or.inr (slot_ne (Or.inl (hw _ (List.mem_of_getElem? (i := 25) rfl))) (Or.inr (hw _ (List.mem_of_getElem? (i := 21) rfl))) (by decide) (t := .int) (t' := (.array .byte)) (by decide) (by decide)))).other W10 (Or.inr (slot_ne (Or.inl (hw _ (List.mem_of_getElem? (i := 25) rfl))) (Or.inl (hw _ (List.mem_of_getElem? (i := 23) rfl))) (by decide) (t := .int) (t' := .int) (by decide) (by decide))))
  obtain ⟨T15, h15, X15, e15, W15, st15⟩ := putF X10 hx hZ hown (host := "") (Or.inl (hw _ (List.mem_of_getElem? (i := 24) rfl))) Via.refl e10 c14 (((E_o0.ext E2).wr W5).wr W10) (Or.inl (hw _ (List.mem_of_getElem? (i := 25) rfl))) (hw _ (List.mem_of_getElem? (i := 5) rfl)) (ty := .int) (by decide) rfl rfl (g := (mkF m 19 #[.val (.ref o0)] [(.int (1 : Int32)), (.ref o0)])) rfl rfl (hb hby d3_19)
  have Fw15 := c14.same W15
  have K16 : Keep h0 h15 [o0] := K11.wr W15 (Or.inl (List.mem_of_getElem? (i := 0) rfl))
  have Z17 : n0 ≤ h15.size := Nat.le_trans Z0 K16.1
  have N15 := Fr.snoc X15 N10 g_o0
  obtain ⟨LS15, X15, N15⟩ : ∃ L, Stand p l e ({ frames := 1, cells := 1, slots := 65537, locals := 12 } : Room) s m #[(.ref o0)] below meth c T15 L 1 65537 ∧ Fr n0 L := ⟨_, X15, N15⟩
  obtain ⟨T19, X19, e19, st19⟩ := getS2 X15 hx hZ hown (host := "") (Or.inl (hw _ (List.mem_of_getElem? (i := 26) rfl))) Via.refl e15 ((((S_NO_BYTES.ext E2).wr W5).wr W10).wr W15) (g := (mkF m 23 #[.val (.ref o0)] [(.ref o0)])) rfl (hb hby d3_23)
  have c20 := ((((F__built_o0.ext E2).other W5 (Or.inr (slot_ne (Or.inl (hw _ (List.mem_of_getElem? (i := 29) rfl))) (Or.inr (hw _ (List.mem_of_getElem? (i := 21) rfl))) (by decide) (t := (.array .byte)) (t' := (.array .byte)) (by decide) (by decide)))).other W10 (Or.inr (slot_ne (Or.inl (hw _ (List.mem_of_getElem? (i := 29) rfl))) (Or.inl (hw _ (List.mem_of_getElem? (i := 23) rfl))) (by decide) (t := (.array .byte)) (t' := .int) (by decide) (by decide)))).other W15 (Or.inr (slot_ne (Or.inl (hw _ (List.mem_of_getElem? (i := 29) rfl))) (Or.inl (hw _ (List.mem_of_getElem? (i := 25) rfl))) (by decide) (t := (.array .byte)) (t' := .int) (by decide) (by decide))))
  obtain ⟨T21, h21, X21, e21, W21, st21⟩ := putF X19 hx hZ hown (host := "") (Or.inl (hw _ (List.mem_of_getElem? (i := 28) rfl))) Via.refl e19 c20 ((((E_o0.ext E2).wr W5).wr W10).wr W15) (Or.inl (hw _ (List.mem_of_getElem? (i := 29) rfl))) (hw _ (List.mem_of_getElem? (i := 5) rfl)) (ty := (.array .byte)) (by decide) rfl rfl (g := (mkF m 26 #[.val (.ref o0)] [(.ref w18), (.ref o0)])) rfl rfl (hb hby d3_26)
  have Fw21 := c20.same W21
  have K22 : Keep h0 h21 [o0] := K16.wr W21 (Or.inl (List.mem_of_getElem? (i := 0) rfl))
  have Z23 : n0 ≤ h21.size := Nat.le_trans Z0 K22.1
  have N21 := Fr.snoc X21 N15 g_o0
  obtain ⟨LS21, X21, N21⟩ : ∃ L, Stand p l e ({ frames := 1, cells := 1, slots := 65537, locals := 12 } : Room) s m #[(.ref o0)] below meth c T21 L 1 65537 ∧ Fr n0 L := ⟨_, X21, N21⟩
  obtain ⟨fs, hr, hrun, hended, hW, hsame⟩ := X21.leave (v := none) (fun _ => rfl)
  have c24 := (((Fw5.other W10 (Or.inr (slot_ne (Or.inr (hw _ (List.mem_of_getElem? (i := 21) rfl))) (Or.inl (hw _ (List.mem_of_getElem? (i := 23) rfl))) (by decide) (t := (.array .byte)) (t' := .int) (by decide) (by decide)))).other W15 (Or.inr (slot_ne (Or.inr (hw _ (List.mem_of_getElem? (i := 21) rfl))) (Or.inl (hw _ (List.mem_of_getElem? (i := 25) rfl))) (by decide) (t := (.array .byte)) (t' := .int) (by decide) (by decide)))).other W21 (Or.inr (slot_ne (Or.inr (hw _ (List.mem_of_getElem? (i := 21) rfl))) (Or.inl (hw _ (List.mem_of_getElem? (i := 29) rfl))) (by decide) (t := (.array .byte)) (t' := (.array .byte)) (by decide) (by decide))))
  have c25 := ((((V_b2.other W5 (Ne.symm ne_o0_b2)).other W10 (Ne.symm ne_o0_b2)).other W15 (Ne.symm ne_o0_b2)).other W21 (Ne.symm ne_o0_b2))
  have c26 := ((Fw10.other W15 (Or.inr (slot_ne (Or.inl (hw _ (List.mem_of_getElem? (i := 23) rfl))) (Or.inl (hw _ (List.mem_of_getElem? (i := 25) rfl))) (by decide) (t := .int) (t' := .int) (by decide) (by decide)))).other W21 (Or.inr (slot_ne (Or.inl (hw _ (List.mem_of_getElem? (i := 23) rfl))) (Or.inl (hw _ (List.mem_of_getElem? (i := 29) rfl))) (by decide) (t := .int) (t' := (.array .byte)) (by decide) (by decide))))
  have c27 := (Fw15.other W21 (Or.inr (slot_ne (Or.inl (hw _ (List.mem_of_getElem? (i := 25) rfl))) (Or.inl (hw _ (List.mem_of_getElem? (i := 29) rfl))) (by decide) (t := .int) (t' := (.array .byte)) (by decide) (by decide))))
  have c28 := (((((F__quoted_o0.ext E2).other W5 (Or.inr (slot_ne (Or.inl (hw _ (List.mem_of_getElem? (i := 49) rfl))) (Or.inr (hw _ (List.mem_of_getElem? (i := 21) rfl))) (by decide) (t := .boolean) (t' := (.array .byte)) (by decide) (by decide)))).other W10 (Or.inr (slot_ne (Or.inl (hw _ (List.mem_of_getElem? (i := 49) rfl))) (Or.inl (hw _ (List.mem_of_getElem? (i := 23) rfl))) (by decide) (t := .boolean) (t' := .int) (by decide) (by decide)))).other W15 (Or.inr (slot_ne (Or.inl (hw _ (List.mem_of_getElem? (i := 49) rfl))) (Or.inl (hw _ (List.mem_of_getElem? (i := 25) rfl))) (by decide) (t := .boolean) (t' := .int) (by decide) (by decide)))).other W21 (Or.inr (slot_ne (Or.inl (hw _ (List.mem_of_getElem? (i := 49) rfl))) (Or.inl (hw _ (List.mem_of_getElem? (i := 29) rfl))) (by decide) (t := .boolean) (t' := (.array .byte)) (by decide) (by decide))))
  have c29 := (((((F__closed_o0.ext E2).other W5 (Or.inr (slot_ne (Or.inl (hw _ (List.mem_of_getElem? (i := 74) rfl))) (Or.inr (hw _ (List.mem_of_getElem? (i := 21) rfl))) (by decide) (t := .boolean) (t' := (.array .byte)) (by decide) (by decide)))).other W10 (Or.inr (slot_ne (Or.inl (hw _ (List.mem_of_getElem? (i := 74) rfl))) (Or.inl (hw _ (List.mem_of_getElem? (i := 23) rfl))) (by decide) (t := .boolean) (t' := .int) (by decide) (by decide)))).other W15 (Or.inr (slot_ne (Or.inl (hw _ (List.mem_of_getElem? (i := 74) rfl))) (Or.inl (hw _ (List.mem_of_getElem? (i := 25) rfl))) (by decide) (t := .boolean) (t' := .int) (by decide) (by decide)))).other W21 (Or.inr (slot_ne (Or.inl (hw _ (List.mem_of_getElem? (i := 74) rfl))) (Or.inl (hw _ (List.mem_of_getElem? (i := 29) rfl))) (by decide) (t := .boolean) (t' := (.array .byte)) (by decide) (by decide))))
  have c30 := (((((F__in_o0.ext E2).other W5 (Or.inr (slot_ne (Or.inl (hw _ (List.mem_of_getElem? (i := 41) rfl))) (Or.inr (hw _ (List.mem_of_getElem? (i := 21) rfl))) (by decide) (t := (.object "java/io/InputStream")) (t' := (.array .byte)) (by decide) (by decide)))).other W10 (Or.inr (slot_ne (Or.inl (hw _ (List.mem_of_getElem? (i := 41) rfl))) (Or.inl (hw _ (List.mem_of_getElem? (i := 23) rfl))) (by decide) (t := (.object "java/io/InputStream")) (t' := .int) (by decide) (by decide)))).other W15 (Or.inr (slot_ne (Or.inl (hw _ (List.mem_of_getElem? (i := 41) rfl))) (Or.inl (hw _ (List.mem_of_getElem? (i := 25) rfl))) (by decide) (t := (.object "java/io/InputStream")) (t' := .int) (by decide) (by decide)))).other W21 (Or.inr (slot_ne (Or.inl (hw _ (List.mem_of_getElem? (i := 41) rfl))) (Or.inl (hw _ (List.mem_of_getElem? (i := 29) rfl))) (by decide) (t := (.object "java/io/InputStream")) (t' := (.array .byte)) (by decide) (by decide))))
  have c31 := (((((F__offset_o0.ext E2).other W5 (Or.inr (slot_ne (Or.inl (hw _ (List.mem_of_getElem? (i := 43) rfl))) (Or.inr (hw _ (List.mem_of_getElem? (i := 21) rfl))) (by decide) (t := .long) (t' := (.array .byte)) (by decide) (by decide)))).other W10 (Or.inr (slot_ne (Or.inl (hw _ (List.mem_of_getElem? (i := 43) rfl))) (Or.inl (hw _ (List.mem_of_getElem? (i := 23) rfl))) (by decide) (t := .long) (t' := .int) (by decide) (by decide)))).other W15 (Or.inr (slot_ne (Or.inl (hw _ (List.mem_of_getElem? (i := 43) rfl))) (Or.inl (hw _ (List.mem_of_getElem? (i := 25) rfl))) (by decide) (t := .long) (t' := .int) (by decide) (by decide)))).other W21 (Or.inr (slot_ne (Or.inl (hw _ (List.mem_of_getElem? (i := 43) rfl))) (Or.inl (hw _ (List.mem_of_getElem? (i := 29) rfl))) (by decide) (t := .long) (t' := (.array .byte)) (by decide) (by decide))))
  have c32 := (((((F__records_o0.ext E2).other W5 (Or.inr (slot_ne (Or.inl (hw _ (List.mem_of_getElem? (i := 45) rfl))) (Or.inr (hw _ (List.mem_of_getElem? (i := 21) rfl))) (by decide) (t := .long) (t' := (.array .byte)) (by decide) (by decide)))).other W10 (Or.inr (slot_ne (Or.inl (hw _ (List.mem_of_getElem? (i := 45) rfl))) (Or.inl (hw _ (List.mem_of_getElem? (i := 23) rfl))) (by decide) (t := .long) (t' := .int) (by decide) (by decide)))).other W15 (Or.inr (slot_ne (Or.inl (hw _ (List.mem_of_getElem? (i := 45) rfl))) (Or.inl (hw _ (List.mem_of_getElem? (i := 25) rfl))) (by decide) (t := .long) (t' := .int) (by decide) (by decide)))).other W21 (Or.inr (slot_ne (Or.inl (hw _ (List.mem_of_getElem? (i := 45) rfl))) (Or.inl (hw _ (List.mem_of_getElem? (i := 29) rfl))) (by decide) (t := .long) (t' := (.array .byte)) (by decide) (by decide))))
  have c33 := (((((F__ended_o0.ext E2).other W5 (Or.inr (slot_ne (Or.inl (hw _ (List.mem_of_getElem? (i := 47) rfl))) (Or.inr (hw _ (List.mem_of_getElem? (i := 21) rfl))) (by decide) (t := .boolean) (t' := (.array .byte)) (by decide) (by decide)))).other W10 (Or.inr (slot_ne (Or.inl (hw _ (List.mem_of_getElem? (i := 47) rfl))) (Or.inl (hw _ (List.mem_of_getElem? (i := 23) rfl))) (by decide) (t := .boolean) (t' := .int) (by decide) (by decide)))).other W15 (Or.inr (slot_ne (Or.inl (hw _ (List.mem_of_getElem? (i := 47) rfl))) (Or.inl (hw _ (List.mem_of_getElem? (i := 25) rfl))) (by decide) (t := .boolean) (t' := .int) (by decide) (by decide)))).other W21 (Or.inr (slot_ne (Or.inl (hw _ (List.mem_of_getElem? (i := 47) rfl))) (Or.inl (hw _ (List.mem_of_getElem? (i := 29) rfl))) (by decide) (t := .boolean) (t' := (.array .byte)) (by decide) (by decide))))
  refine ⟨_, _, pre0 _ ?_, hrun, hended, _, _, rfl, ?_, ⟨_, rfl⟩, hW, hsame.mono (by decide) (by decide)⟩
  · show Steps p.tables e below (s₁.setTop (mkF m 0 #[.val (.ref o0)] [])) _
    refine XS.aloadN X0.here hx rfl (hb hby d3_0) rfl rfl ?_
    show Steps p.tables e below (s₁.setTop (mkF m 1 #[.val (.ref o0)] [(.ref o0)])) _
    refine st1 _ ?_
    show Steps p.tables e below (T1.setTop (mkF m 4 #[.val (.ref o0)] [])) _
    refine XS.aloadN X1.here hx rfl (hb hby d3_4) rfl rfl ?_
    show Steps p.tables e below (T1.setTop (mkF m 5 #[.val (.ref o0)] [(.ref o0)])) _
    refine X1.ldcInt hx hown (mvT hZ (hw _ (List.mem_of_getElem? (i := 18) rfl))) (g := (mkF m 5 #[.val (.ref o0)] [(.ref o0)])) rfl (hb hby d3_5) _ ?_
    show Steps p.tables e below (T1.setTop (mkF m 7 #[.val (.ref o0)] [(.int (65537 : Int32)), (.ref o0)])) _
    refine st2 _ ?_
    show Steps p.tables e below (T2.setTop (mkF m 9 #[.val (.ref o0)] [(.ref b2), (.ref o0)])) _
    refine st5 _ ?_
    show Steps p.tables e below (T5.setTop (mkF m 12 #[.val (.ref o0)] [])) _
    refine XS.aloadN X5.here hx rfl (hb hby d3_12) rfl rfl ?_
    show Steps p.tables e below (T5.setTop (mkF m 13 #[.val (.ref o0)] [(.ref o0)])) _
    refine XS.iconst X5.here hx rfl (hb hby d3_13) ?_
    show Steps p.tables e below (T5.setTop (mkF m 14 #[.val (.ref o0)] [(.int (1 : Int32)), (.ref o0)])) _
    refine st10 _ ?_
    show Steps p.tables e below (T10.setTop (mkF m 17 #[.val (.ref o0)] [])) _
    refine XS.aloadN X10.here hx rfl (hb hby d3_17) rfl rfl ?_
    show Steps p.tables e below (T10.setTop (mkF m 18 #[.val (.ref o0)] [(.ref o0)])) _
    refine XS.iconst X10.here hx rfl (hb hby d3_18) ?_
    show Steps p.tables e below (T10.setTop (mkF m 19 #[.val (.ref o0)] [(.int (1 : Int32)), (.ref o0)])) _
    refine st15 _ ?_
    show Steps p.tables e below (T15.setTop (mkF m 22 #[.val (.ref o0)] [])) _
    refine XS.aloadN X15.here hx rfl (hb hby d3_22) rfl rfl ?_
    show Steps p.tables e below (T15.setTop (mkF m 23 #[.val (.ref o0)] [(.ref o0)])) _
    refine st19 _ ?_
    show Steps p.tables e below (T19.setTop (mkF m 26 #[.val (.ref o0)] [(.ref w18), (.ref o0)])) _
    refine st21 _ ?_
    show Steps p.tables e below (T21.setTop (mkF m 29 #[.val (.ref o0)] [])) _
    exact X21.returnOut hx Bd.returns (hb hby d3_29) hr
  · show Q3 Z o0 vq vc vo vr vd w8 w13 w18 h0 n0 _ T21.heap _
    rw [e21]
    exact ⟨b2, rfl, N21, K22, g_b2, sz_b2, c24, c25, c26, c27, Fw21, c28, c29, c30, c31, c32, c33⟩
theorem d2_0 : decode prog_14_method_1_code 0 = .ok (.aload_n 0, 1) := by decide +kernel
theorem d2_1 : decode prog_14_method_1_code 1 = .ok (.invokespecial 1, 3) := by decide +kernel
theorem d2_4 : decode prog_14_method_1_code 4 = .ok (.return_, 1) := by decide +kernel
theorem pn_2 : plainName "com/example/cistern/cistern/io/CsvReader" = true := by first | (simp [plainName, overriddenIn]; done) | decide +kernel
theorem pd_2_0 : parseMethodDescriptor "()V" = some ⟨[], none⟩ := by decide +kernel
theorem ef_2 (m : MethodId) (x0 : Addr) : entryFrame m #[(.ref x0)] 1 = mkF m 0 #[.val (.ref x0)] [] := by first | (simp [entryFrame, mkF, argsToLocals, Value.category]; done) | rfl
def Q2 (Z : State) (o0 : Addr) (vq : Int32) (vc : Int32) (vo : Int64) (vr : Int64) (vd : Int32) (w2 : Int32) (w3 : Int32) (w4 : Addr) (h0 : Heap) (n0 : Nat) (v : Option Value) (h : Heap) (L : List Loc) : Prop := ∃ r_o0__buffer : Addr, v = none ∧ Fr n0 L ∧ Keep h0 h [o0] ∧ n0 ≤ r_o0__buffer ∧ h0.size ≤ r_o0__buffer ∧ Fld Z h o0 "com/example/cistern/cistern/io/RecordReader" "_buffer" "[B" (.ref r_o0__buffer) ∧ own_AI Z h r_o0__buffer .byte (65537 : Int32) (fun _ => 0) ∧ Fld Z h o0 "com/example/cistern/cistern/io/RecordReader" "_start" "I" (.int (1 : Int32)) ∧ Fld Z h o0 "com/example/cistern/cistern/io/RecordReader" "_end" "I" (.int (1 : Int32)) ∧ Fld Z h o0 "com/example/cistern/cistern/io/RecordReader" "_built" "[B" (.ref w4) ∧ Fld Z h o0 "com/example/cistern/cistern/io/CsvReader" "_quoted" "Z" (.int vq) ∧ Fld Z h o0 "com/example/cistern/cistern/io/CsvReader" "_closed" "Z" (.int vc) ∧ Fld Z h o0 "com/example/cistern/cistern/io/RecordReader" "_in" "Ljava/io/InputStream;" .null ∧ Fld Z h o0 "com/example/cistern/cistern/io/RecordReader" "_offset" "J" (.long vo) ∧ Fld Z h o0 "com/example/cistern/cistern/io/RecordReader" "_records" "J" (.long vr) ∧ Fld Z h o0 "com/example/cistern/cistern/io/RecordReader" "_ended" "Z" (.int vd)
set_option maxRecDepth 65536 in
set_option maxHeartbeats 40000000 in
theorem rm2 (l : Launch) (Z : State) (a0 : Array Value) (hw : ∀ d ∈ tables_1, d.before a0 Z = true) (ws : List Jvm.Cond) (o0 : Addr) (vq : Int32) (vc : Int32) (vo : Int64) (vr : Int64) (vd : Int32) (w2 : Int32) (w3 : Int32) (w4 : Addr) (h0 : Heap) (n0 : Nat) (Z0 : n0 ≤ h0.size) (E_o0 : Exa Z h0 o0 "com/example/cistern/cistern/io/CsvReader") (F__quoted_o0 : Fld Z h0 o0 "com/example/cistern/cistern/io/CsvReader" "_quoted" "Z" (.int vq)) (F__closed_o0 : Fld Z h0 o0 "com/example/cistern/cistern/io/CsvReader" "_closed" "Z" (.int vc)) (F__in_o0 : Fld Z h0 o0 "com/example/cistern/cistern/io/RecordReader" "_in" "Ljava/io/InputStream;" .null) (F__offset_o0 : Fld Z h0 o0 "com/example/cistern/cistern/io/RecordReader" "_offset" "J" (.long vo)) (F__records_o0 : Fld Z h0 o0 "com/example/cistern/cistern/io/RecordReader" "_records" "J" (.long vr)) (F__ended_o0 : Fld Z h0 o0 "com/example/cistern/cistern/io/RecordReader" "_ended" "Z" (.int vd)) (g_o0 : n0 ≤ o0) (F__buffer_o0 : Fld Z h0 o0 "com/example/cistern/cistern/io/RecordReader" "_buffer" "[B" .null) (F__start_o0 : Fld Z h0 o0 "com/example/cistern/cistern/io/RecordReader" "_start" "I" (.int w2)) (F__end_o0 : Fld Z h0 o0 "com/example/cistern/cistern/io/RecordReader" "_end" "I" (.int w3)) (S_NO_BYTES : Sta Z h0 "com/example/cistern/cistern/io/RecordReader" "NO_BYTES" "[B" (.ref w4)) (F__built_o0 : Fld Z h0 o0 "com/example/cistern/cistern/io/RecordReader" "_built" "[B" .null) :
    MetFree l (⟨"com/example/cistern/cistern/io/CsvReader", "<init>", "()V"⟩ : MethodName) (head1 (Jvm.Cond.code (⟨"com/example/cistern/cistern/io/CsvReader", "<init>", "()V"⟩ : MethodName) prog_14_method_1_code 1 none :: ws) ({ frames := 2, cells := 1, slots := 65537, locals := 24 } : Room)) (fun a U => a = #[(.ref o0)] ∧ Z.Warmed39 U.vm ∧ U.heap = h0) (fun _ _ _ _ _ => True) (fun _ U o U' => ∃ v L, o = .returned v ∧ Q2 Z o0 vq vc vo vr vd w2 w3 w4 h0 n0 v U'.heap L ∧ FrameEnd U o U' L ({ frames := 2, cells := 1, slots := 65537, locals := 24 } : Room).cells ({ frames := 2, cells := 1, slots := 65537, locals := 24 } : Room).slots) := by
  refine MetFree.of_bodySF (plainFor_of_name pn_2) hisR ?_
  intro p e s m args below meth c s₁ Bd hml0 hP hK
  obtain ⟨rfl, hZ, hh⟩ := hP
  have hx := Bd.exec
  have hby := Bd.bytes
  have hml : c.maxLocals = 1 := hml0
  have hown : s.vm.findClass "com/example/cistern/cistern/io/CsvReader" = some m.cls := findClass_of_methodNamed Bd.named
  have hnm := (name_of_methodNamed Bd.named Bd.method).1
  have X0 : Stand p l e ({ frames := 2, cells := 1, slots := 65537, locals := 24 } : Room) s m #[(.ref o0)] below meth c s₁ [] 0 0 := Stand.of_body Bd
  have e0 : s₁.heap = h0 := by rw [← hh, Bd.state]; rfl
  have N0 := Fr.nil n0
  have pre0 : ∀ t, Steps p.tables e below (s₁.setTop (mkF m 0 #[.val (.ref o0)] [])) t → Steps p.tables e below (s₁.setTop (entryFrame m #[(.ref o0)] 1)) t := fun t k => castTop (ef_2 m o0) k
  obtain ⟨_, _, ⟨T1, L1, k1, n1⟩, -, X1, ⟨Lc1, hQ1, l1, y1, z1⟩, st1⟩ := X0.specialBack hx (y := (⟨"com/example/cistern/cistern/io/RecordReader", "<init>", "()V"⟩ : MethodName)) rfl hown (mvT hZ (hw _ (List.mem_of_getElem? (i := 10) rfl))) (mvT hZ (hw _ (List.mem_of_getElem? (i := 11) rfl))) (mvT hZ (hw _ (List.mem_of_getElem? (i := 14) rfl))) (by decide) (backOf (W := 0) (rm3 l Z a0 hw [] o0 vq vc vo vr vd w2 w3 w4 h0 n0 Z0 E_o0 F__quoted_o0 F__closed_o0 F__in_o0 F__offset_o0 F__records_o0 F__ended_o0 g_o0 F__buffer_o0 F__start_o0 F__end_o0 S_NO_BYTES F__built_o0) hZ (hw _ (List.mem_of_getElem? (i := 14) rfl)) (hw _ (List.mem_of_getElem? (i := 13) rfl)) (by decide) (by decide)) (g := (mkF m 1 #[.val (.ref o0)] [(.ref o0)])) rfl (by rw [hml]; rfl) (Steps.refl _) (a := o0) (argsL := []) (rest := []) (lenOf pd_2_0 rfl) rfl (by show 2 * 0 + _ ≤ _; exact Nat.le_of_eq rfl) (hb hby d2_1) (fun _ _ => ⟨rfl, e0, (by decide : 0 + 1 ≤ _), (by decide : 0 + 65537 ≤ _)⟩)
  dsimp only [Pt.U, Pt.locs, Pt.cells, Pt.slots] at X1 l1 y1 z1 st1 hQ1
  subst l1 y1 z1
  obtain ⟨r_o0__buffer_1, rfl, N1q, K1q, g_r_o0__buffer_1, szq_r_o0__buffer_1, G1_0, G1_1, G1_2, G1_3, G1_4, G1_5, G1_6, G1_7, G1_8, G1_9, G1_10⟩ := hQ1
  have N1 := Fr.app N0 N1q
  have ne_o0_r_o0__buffer_1 : o0 ≠ r_o0__buffer_1 := Nat.ne_of_lt (Nat.lt_of_lt_of_le E_o0.lt szq_r_o0__buffer_1)
  have sz_r_o0__buffer_1 : h0.size ≤ r_o0__buffer_1 := Nat.le_trans (Keep.refl h0 [o0]).1 szq_r_o0__buffer_1
  have K5 : Keep h0 T1.heap [o0] := (Keep.refl h0 [o0]).trans K1q (allS (Or.inl (List.mem_of_getElem? (i := 0) rfl)) all0)
  have Z6 : n0 ≤ T1.heap.size := Nat.le_trans Z0 K5.1
  obtain ⟨LS1, X1, N1⟩ : ∃ L, Stand p l e ({ frames := 2, cells := 1, slots := 65537, locals := 24 } : Room) s m #[(.ref o0)] below meth c T1 L 1 65537 ∧ Fr n0 L := ⟨_, X1, N1⟩
  obtain ⟨fs, hr, hrun, hended, hW, hsame⟩ := X1.leave (v := none) (fun _ => rfl)
  refine ⟨_, _, pre0 _ ?_, hrun, hended, _, _, rfl, ?_, ⟨_, rfl⟩, hW, hsame.mono (by decide) (by decide)⟩
  · show Steps p.tables e below (s₁.setTop (mkF m 0 #[.val (.ref o0)] [])) _
    refine XS.aloadN X0.here hx rfl (hb hby d2_0) rfl rfl ?_
    show Steps p.tables e below (s₁.setTop (mkF m 1 #[.val (.ref o0)] [(.ref o0)])) _
    refine st1.trans ?_
    show Steps p.tables e below (T1.setTop (mkF m 4 #[.val (.ref o0)] [])) _
    exact X1.returnOut hx Bd.returns (hb hby d2_4) hr
  · show Q2 Z o0 vq vc vo vr vd w2 w3 w4 h0 n0 _ T1.heap _
    exact ⟨r_o0__buffer_1, rfl, N1, K5, g_r_o0__buffer_1, sz_r_o0__buffer_1, G1_0, G1_1, G1_2, G1_3, G1_4, G1_5, G1_6, G1_7, G1_8, G1_9, G1_10⟩
theorem d6_0 : decode prog_24_method_2_code 0 = .ok (.aload_n 0, 1) := by decide +kernel
theorem d6_1 : decode prog_24_method_2_code 1 = .ok (.aload_n 1, 1) := by decide +kernel
theorem d6_2 : decode prog_24_method_2_code 2 = .ok (.putfield 29, 3) := by decide +kernel
theorem d6_5 : decode prog_24_method_2_code 5 = .ok (.aload_n 0, 1) := by decide +kernel
theorem d6_6 : decode prog_24_method_2_code 6 = .ok (.getfield 12, 3) := by decide +kernel
theorem d6_9 : decode prog_24_method_2_code 9 = .ok (.iconst 0, 1) := by decide +kernel
theorem d6_10 : decode prog_24_method_2_code 10 = .ok (.bipush 10, 2) := by decide +kernel
theorem d6_12 : decode prog_24_method_2_code 12 = .ok (.bastore, 1) := by decide +kernel
theorem d6_13 : decode prog_24_method_2_code 13 = .ok (.aload_n 0, 1) := by decide +kernel
theorem d6_14 : decode prog_24_method_2_code 14 = .ok (.iconst 1, 1) := by decide +kernel
theorem d6_15 : decode prog_24_method_2_code 15 = .ok (.putfield 16, 3) := by decide +kernel
theorem d6_18 : decode prog_24_method_2_code 18 = .ok (.aload_n 0, 1) := by decide +kernel
theorem d6_19 : decode prog_24_method_2_code 19 = .ok (.iconst 1, 1) := by decide +kernel
theorem d6_20 : decode prog_24_method_2_code 20 = .ok (.putfield 20, 3) := by decide +kernel
theorem d6_23 : decode prog_24_method_2_code 23 = .ok (.aload_n 0, 1) := by decide +kernel
theorem d6_24 : decode prog_24_method_2_code 24 = .ok (.lconst 0, 1) := by decide +kernel
theorem d6_25 : decode prog_24_method_2_code 25 = .ok (.putfield 33, 3) := by decide +kernel
theorem d6_28 : decode prog_24_method_2_code 28 = .ok (.aload_n 0, 1) := by decide +kernel
theorem d6_29 : decode prog_24_method_2_code 29 = .ok (.lconst 0, 1) := by decide +kernel
theorem d6_30 : decode prog_24_method_2_code 30 = .ok (.putfield 37, 3) := by decide +kernel
theorem d6_33 : decode prog_24_method_2_code 33 = .ok (.aload_n 0, 1) := by decide +kernel
theorem d6_34 : decode prog_24_method_2_code 34 = .ok (.iconst 0, 1) := by decide +kernel
theorem d6_35 : decode prog_24_method_2_code 35 = .ok (.putfield 40, 3) := by decide +kernel
theorem d6_38 : decode prog_24_method_2_code 38 = .ok (.return_, 1) := by decide +kernel
theorem pn_6 : plainName "com/example/cistern/cistern/io/RecordReader" = true := by first | (simp [plainName, overriddenIn]; done) | decide +kernel
theorem ef_6 (m : MethodId) (x0 : Addr) : entryFrame m #[(.ref x0), .null] 2 = mkF m 0 #[.val (.ref x0), .val .null] [] := by first | (simp [entryFrame, mkF, argsToLocals, Value.category]; done) | rfl
def Q6 (Z : State) (o0 : Addr) (r1 : Addr) (vq : Int32) (vc : Int32) (F : Nat → Int32) (w10 : Int32) (w15 : Int32) (w20 : Int64) (w25 : Int64) (w30 : Int32) (h0 : Heap) (n0 : Nat) (v : Option Value) (h : Heap) (L : List Loc) : Prop := v = none ∧ Fr n0 L ∧ Keep h0 h [o0, r1] ∧ Fld Z h o0 "com/example/cistern/cistern/io/RecordReader" "_in" "Ljava/io/InputStream;" .null ∧ own_AI Z h r1 .byte (65537 : Int32) (own_upd F 0 (10 : Int32)) ∧ Fld Z h o0 "com/example/cistern/cistern/io/RecordReader" "_start" "I" (.int (1 : Int32)) ∧ Fld Z h o0 "com/example/cistern/cistern/io/RecordReader" "_end" "I" (.int (1 : Int32)) ∧ Fld Z h o0 "com/example/cistern/cistern/io/RecordReader" "_offset" "J" (.long (0 : Int64)) ∧ Fld Z h o0 "com/example/cistern/cistern/io/RecordReader" "_records" "J" (.long (0 : Int64)) ∧ Fld Z h o0 "com/example/cistern/cistern/io/RecordReader" "_ended" "Z" (.int (0 : Int32)) ∧ Fld Z h o0 "com/example/cistern/cistern/io/RecordReader" "_buffer" "[B" (.ref r1) ∧ Fld Z h o0 "com/example/cistern/cistern/io/CsvReader" "_quoted" "Z" (.int vq) ∧ Fld Z h o0 "com/example/cistern/cistern/io/CsvReader" "_closed" "Z" (.int vc)
set_option maxRecDepth 65536 in
set_option maxHeartbeats 40000000 in
theorem rm6 (l : Launch) (Z : State) (a0 : Array Value) (hw : ∀ d ∈ tables_1, d.before a0 Z = true) (ws : List Jvm.Cond) (o0 : Addr) (r1 : Addr) (vq : Int32) (vc : Int32) (F : Nat → Int32) (w10 : Int32) (w15 : Int32) (w20 : Int64) (w25 : Int64) (w30 : Int32) (h0 : Heap) (n0 : Nat) (Z0 : n0 ≤ h0.size) (E_o0 : Exa Z h0 o0 "com/example/cistern/cistern/io/CsvReader") (F__buffer_o0 : Fld Z h0 o0 "com/example/cistern/cistern/io/RecordReader" "_buffer" "[B" (.ref r1)) (F__quoted_o0 : Fld Z h0 o0 "com/example/cistern/cistern/io/CsvReader" "_quoted" "Z" (.int vq)) (F__closed_o0 : Fld Z h0 o0 "com/example/cistern/cistern/io/CsvReader" "_closed" "Z" (.int vc)) (V_r1 : own_AI Z h0 r1 .byte (65537 : Int32) F) (ne_o0_r1 : o0 ≠ r1) (g_o0 : n0 ≤ o0) (g_r1 : n0 ≤ r1) (F__in_o0 : Fld Z h0 o0 "com/example/cistern/cistern/io/RecordReader" "_in" "Ljava/io/InputStream;" .null) (F__start_o0 : Fld Z h0 o0 "com/example/cistern/cistern/io/RecordReader" "_start" "I" (.int w10)) (F__end_o0 : Fld Z h0 o0 "com/example/cistern/cistern/io/RecordReader" "_end" "I" (.int w15)) (F__offset_o0 : Fld Z h0 o0 "com/example/cistern/cistern/io/RecordReader" "_offset" "J" (.long w20)) (F__records_o0 : Fld Z h0 o0 "com/example/cistern/cistern/io/RecordReader" "_records" "J" (.long w25)) (F__ended_o0 : Fld Z h0 o0 "com/example/cistern/cistern/io/RecordReader" "_ended" "Z" (.int w30)) :
    MetFree l (⟨"com/example/cistern/cistern/io/RecordReader", "start", "(Ljava/io/InputStream;)V"⟩ : MethodName) (head1 (Jvm.Cond.code (⟨"com/example/cistern/cistern/io/RecordReader", "start", "(Ljava/io/InputStream;)V"⟩ : MethodName) prog_24_method_2_code 2 none :: ws) ({ frames := 0, cells := 0, slots := 0, locals := 0 } : Room)) (fun a U => a = #[(.ref o0), .null] ∧ Z.Warmed39 U.vm ∧ U.heap = h0) (fun _ _ _ _ _ => True) (fun _ U o U' => ∃ v L, o = .returned v ∧ Q6 Z o0 r1 vq vc F w10 w15 w20 w25 w30 h0 n0 v U'.heap L ∧ FrameEnd U o U' L ({ frames := 0, cells := 0, slots := 0, locals := 0 } : Room).cells ({ frames := 0, cells := 0, slots := 0, locals := 0 } : Room).slots) := by
  refine MetFree.of_bodySF (plainFor_of_name pn_6) hisR ?_
  intro p e s m args below meth c s₁ Bd hml0 hP hK
  obtain ⟨rfl, hZ, hh⟩ := hP
  have hx := Bd.exec
  have hby := Bd.bytes
  have hml : c.maxLocals = 2 := hml0
  have hown : s.vm.findClass "com/example/cistern/cistern/io/RecordReader" = some m.cls := findClass_of_methodNamed Bd.named
  have hnm := (name_of_methodNamed Bd.named Bd.method).1
  have X0 : Stand p l e ({ frames := 0, cells := 0, slots := 0, locals := 0 } : Room) s m #[(.ref o0), .null] below meth c s₁ [] 0 0 := Stand.of_body Bd
  have e0 : s₁.heap = h0 := by rw [← hh, Bd.state]; rfl
  have N0 := Fr.nil n0
  have pre0 : ∀ t, Steps p.tables e below (s₁.setTop (mkF m 0 #[.val (.ref o0), .val .null] [])) t → Steps p.tables e below (s₁.setTop (entryFrame m #[(.ref o0), .null] 2)) t := fun t k => castTop (ef_6 m o0) k
  obtain ⟨T1, h1, X1, e1, W1, st1⟩ := putF X0 hx hZ hown (host := "") (Or.inl (hw _ (List.mem_of_getElem? (i := 40) rfl))) Via.refl e0 F__in_o0 E_o0 (Or.inl (hw _ (List.mem_of_getElem? (i := 41) rfl))) (hw _ (List.mem_of_getElem? (i := 5) rfl)) (ty := (.object "java/io/InputStream")) (by decide) rfl rfl (g := (mkF m 2 #[.val (.ref o0), .val .null] [.null, (.ref o0)])) rfl rfl (hb hby d6_2)
  have Fw1 := F__in_o0.same W1
  have K2 : Keep h0 h1 [o0, r1] := (Keep.refl h0 [o0, r1]).wr W1 (Or.inl (List.mem_of_getElem? (i := 0) rfl))
  have Z3 : n0 ≤ h1.size := Nat.le_trans Z0 K2.1
  have N1 := Fr.snoc X1 N0 g_o0
  obtain ⟨LS1, X1, N1⟩ : ∃ L, Stand p l e ({ frames := 0, cells := 0, slots := 0, locals := 0 } : Room) s m #[(.ref o0), .null] below meth c T1 L 0 0 ∧ Fr n0 L := ⟨_, X1, N1⟩
  have c4 := (F__buffer_o0.other W1 (Or.inr (slot_ne (Or.inr (hw _ (List.mem_of_getElem? (i := 21) rfl))) (Or.inl (hw _ (List.mem_of_getElem? (i := 41) rfl))) (by decide) (t := (.array .byte)) (t' := (.object "java/io/InputStream")) (by decide) (by decide))))
  obtain ⟨T5, X5, e5, st5⟩ := getF X1 hx hZ hown (host := "") (Or.inl (hw _ (List.mem_of_getElem? (i := 20) rfl))) Via.refl e1 c4 (g := (mkF m 6 #[.val (.ref o0), .val .null] [(.ref o0)])) rfl rfl (hb hby d6_6)
  obtain ⟨cl6, Ar6, Sz6, Nn6, Hs6⟩ := id (V_r1.other W1 (Ne.symm ne_o0_r1))
  have hin6 : ¬ ((0 : Int32) < 0 ∨ cl6.slots.size ≤ ((0 : Int32)).toNatClampNeg) := inb_of Sz6 ⟨by decide, by decide⟩
  obtain ⟨T7, h7, X7, e7, W7, st7⟩ := stB X5 hx hZ e5 Ar6 (j := (0 : Int32)) hin6 (g := (mkF m 12 #[.val (.ref o0), .val .null] [(.int (10 : Int32)), (.int (0 : Int32)), (.ref r1)])) rfl rfl (hb hby d6_12)
  have V7 : own_AI Z h7 r1 .byte (65537 : Int32) (own_upd F 0 (10 : Int32)) := own_AI.set (V_r1.other W1 (Ne.symm ne_o0_r1)) (fits_nar_byte (10 : Int32)) W7
  have K8 : Keep h0 h7 [o0, r1] := K2.wr W7 (Or.inl (List.mem_of_getElem? (i := 1) rfl))
  have Z9 : n0 ≤ h7.size := Nat.le_trans Z0 K8.1
  have N7 := Fr.snoc X7 N1 g_r1
  obtain ⟨LS7, X7, N7⟩ : ∃ L, Stand p l e ({ frames := 0, cells := 0, slots := 0, locals := 0 } : Room) s m #[(.ref o0), .null] below meth c T7 L 0 0 ∧ Fr n0 L := ⟨_, X7, N7⟩
  have c11 := ((F__start_o0.other W1 (Or.inr (slot_ne (Or.inl (hw _ (List.mem_of_getElem? (i := 23) rfl))) (Or.inl (hw _ (List.mem_of_getElem? (i := 41) rfl))) (by decide) (t := .int) (t' := (.object "java/io/InputStream")) (by decide) (by decide)))).other W7 (Or.inl ne_o0_r1))
  obtain ⟨T12, h12, X12, e12, W12, st12⟩ := putF X7 hx hZ hown (host := "") (Or.inl (hw _ (List.mem_of_getElem? (i := 22) rfl))) Via.refl e7 c11 ((E_o0.wr W1).wr W7) (Or.inl (hw _ (List.mem_of_getElem? (i := 23) rfl))) (hw _ (List.mem_of_getElem? (i := 5) rfl)) (ty := .int) (by decide) rfl rfl (g := (mkF m 15 #[.val (.ref o0), .val .null] [(.int (1 : Int32)), (.ref o0)])) rfl rfl (hb hby d6_15)
  have Fw12 := c11.same W12
  have K13 : Keep h0 h12 [o0, r1] := K8.wr W12 (Or.inl (List.mem_of_getElem? (i := 0) rfl))
  have Z14 : n0 ≤ h12.size := Nat.le_trans Z0 K13.1
  have N12 := Fr.snoc X12 N7 g_o0
  obtain ⟨LS12, X12, N12⟩ : ∃ L, Stand p l e ({ frames := 0, cells := 0, slots := 0, locals := 0 } : Room) s m #[(.ref o0), .null] below meth c T12 L 0 0 ∧ Fr n0 L := ⟨_, X12, N12⟩
  have c16 := (((F__end_o0.other W1 (Or.inr (slot_ne (Or.inl (hw _ (List.mem_of_getElem? (i := 25) rfl))) (Or.inl (hw _ (List.mem_of_getElem? (i := 41) rfl))) (by decide) (t := .int) (t' := (.object "java/io/InputStream")) (by decide) (by decide)))).other W7 (Or.inl ne_o0_r1)).other W12 (Or.inr (slot_ne (Or.inl (hw _ (List.mem_of_getElem? (i := 25) rfl))) (Or.inl (hw _ (List.mem_of_getElem? (i := 23) rfl))) (by decide) (t := .int) (t' := .int) (by decide) (by decide))))
  obtain ⟨T17, h17, X17, e17, W17, st17⟩ := putF X12 hx hZ hown (host := "") (Or.inl (hw _ (List.mem_of_getElem? (i := 24) rfl))) Via.refl e12 c16 (((E_o0.wr W1).wr W7).wr W12) (Or.inl (hw _ (List.mem_of_getElem? (i := 25) rfl))) (hw _ (List.mem_of_getElem? (i := 5) rfl)) (ty := .int) (by decide) rfl rfl (g := (mkF m 20 #[.val (.ref o0), .val .null] [(.int (1 : Int32)), (.ref o0)])) rfl rfl (hb hby d6_20)
  have Fw17 := c16.same W17
  have K18 : Keep h0 h17 [o0, r1] := K13.wr W17 (Or.inl (List.mem_of_getElem? (i := 0) rfl))
  have Z19 : n0 ≤ h17.size := Nat.le_trans Z0 K18.1
  have N17 := Fr.snoc X17 N12 g_o0
  obtain ⟨LS17, X17, N17⟩ : ∃ L, Stand p l e ({ frames := 0, cells := 0, slots := 0, locals := 0 } : Room) s m #[(.ref o0), .null] below meth c T17 L 0 0 ∧ Fr n0 L := ⟨_, X17, N17⟩
  have c21 := ((((F__offset_o0.other W1 (Or.inr (slot_ne (Or.inl (hw _ (List.mem_of_getElem? (i := 43) rfl))) (Or.inl (hw _ (List.mem_of_getElem? (i := 41) rfl))) (by decide) (t := .long) (t' := (.object "java/io/InputStream")) (by decide) (by decide)))).other W7 (Or.inl ne_o0_r1)).other W12 (Or.inr (slot_ne (Or.inl (hw _ (List.mem_of_getElem? (i := 43) rfl))) (Or.inl (hw _ (List.mem_of_getElem? (i := 23) rfl))) (by decide) (t := .long) (t' := .int) (by decide) (by decide)))).other W17 (Or.inr (slot_ne (Or.inl (hw _ (List.mem_of_getElem? (i := 43) rfl))) (Or.inl (hw _ (List.mem_of_getElem? (i := 25) rfl))) (by decide) (t := .long) (t' := .int) (by decide) (by decide))))
  obtain ⟨T22, h22, X22, e22, W22, st22⟩ := putF X17 hx hZ hown (host := "") (Or.inl (hw _ (List.mem_of_getElem? (i := 42) rfl))) Via.refl e17 c21 ((((E_o0.wr W1).wr W7).wr W12).wr W17) (Or.inl (hw _ (List.mem_of_getElem? (i := 43) rfl))) (hw _ (List.mem_of_getElem? (i := 5) rfl)) (ty := .long) (by decide) rfl rfl (g := (mkF m 25 #[.val (.ref o0), .val .null] [(.long (0 : Int64)), (.ref o0)])) rfl rfl (hb hby d6_25)
  have Fw22 := c21.same W22
  have K23 : Keep h0 h22 [o0, r1] := K18.wr W22 (Or.inl (List.mem_of_getElem? (i := 0) rfl))
  have Z24 : n0 ≤ h22.size := Nat.le_trans Z0 K23.1
  have N22 := Fr.snoc X22 N17 g_o0
  obtain ⟨LS22, X22, N22⟩ : ∃ L, Stand p l e ({ frames := 0, cells := 0, slots := 0, locals := 0 } : Room) s m #[(.ref o0), .null] below meth c T22 L 0 0 ∧ Fr n0 L := ⟨_, X22, N22⟩
  have c26 := (((((F__records_o0.other W1 (Or.inr (slot_ne (Or.inl (hw _ (List.mem_of_getElem? (i := 45) rfl))) (Or.inl (hw _ (List.mem_of_getElem? (i := 41) rfl))) (by decide) (t := .long) (t' := (.object "java/io/InputStream")) (by decide) (by decide)))).other W7 (Or.inl ne_o0_r1)).other W12 (Or.inr (slot_ne (Or.inl (hw _ (List.mem_of_getElem? (i := 45) rfl))) (Or.inl (hw _ (List.mem_of_getElem? (i := 23) rfl))) (by decide) (t := .long) (t' := .int) (by decide) (by decide)))).other W17 (Or.inr (slot_ne (Or.inl (hw _ (List.mem_of_getElem? (i := 45) rfl))) (Or.inl (hw _ (List.mem_of_getElem? (i := 25) rfl))) (by decide) (t := .long) (t' := .int) (by decide) (by decide)))).other W22 (Or.inr (slot_ne (Or.inl (hw _ (List.mem_of_getElem? (i := 45) rfl))) (Or.inl (hw _ (List.mem_of_getElem? (i := 43) rfl))) (by decide) (t := .long) (t' := .long) (by decide) (by decide))))
  obtain ⟨T27, h27, X27, e27, W27, st27⟩ := putF X22 hx hZ hown (host := "") (Or.inl (hw _ (List.mem_of_getElem? (i := 44) rfl))) Via.refl e22 c26 (((((E_o0.wr W1).wr W7).wr W12).wr W17).wr W22) (Or.inl (hw _ (List.mem_of_getElem? (i := 45) rfl))) (hw _ (List.mem_of_getElem? (i := 5) rfl)) (ty := .long) (by decide) rfl rfl (g := (mkF m 30 #[.val (.ref o0), .val .null] [(.long (0 : Int64)), (.ref o0)])) rfl rfl (hb hby d6_30)
  have Fw27 := c26.same W27
  have K28 : Keep h0 h27 [o0, r1] := K23.wr W27 (Or.inl (List.mem_of_getElem? (i := 0) rfl))
  have Z29 : n0 ≤ h27.size := Nat.le_trans Z0 K28.1
  have N27 := Fr.snoc X27 N22 g_o0
  obtain ⟨LS27, X27, N27⟩ : ∃ L, Stand p l e ({ frames := 0, cells := 0, slots := 0, locals := 0 } : Room) s m #[(.ref o0), .null] below meth c T27 L 0 0 ∧ Fr n0 L := ⟨_, X27, N27⟩
  have c31 := ((((((F__ended_o0.other W1 (Or.inr (slot_ne (Or.inl (hw _ (List.mem_of_getElem? (i := 47) rfl))) (Or.inl (hw _ (List.mem_of_getElem? (i := 41) rfl))) (by decide) (t := .boolean) (t' := (.object "java/io/InputStream")) (by decide) (by decide)))).other W7 (Or.inl ne_o0_r1)).other W12 (Or.inr (slot_ne (Or.inl (hw _ (List.mem_of_getElem? (i := 47) rfl))) (Or.inl (hw _ (List.mem_of_getElem? (i := 23) rfl))) (by decide) (t := .boolean) (t' := .int) (by decide) (by decide)))).other W17 (Or.inr (slot_ne (Or.inl (hw _ (List.mem_of_getElem? (i := 47) rfl))) (Or.inl (hw _ (List.mem_of_getElem? (i := 25) rfl))) (by decide) (t := .boolean) (t' := .int) (by decide) (by decide)))).other W22 (Or.inr (slot_ne (Or.inl (hw _ (List.mem_of_getElem? (i := 47) rfl))) (Or.inl (hw _ (List.mem_of_getElem? (i := 43) rfl))) (by decide) (t := .boolean) (t' := .long) (by decide) (by decide)))).other W27 (Or.inr (slot_ne (Or.inl (hw _ (List.mem_of_getElem? (i := 47) rfl))) (Or.inl (hw _ (List.mem_of_getElem? (i := 45) rfl))) (by decide) (t := .boolean) (t' := .long) (by decide) (by decide))))
  obtain ⟨T32, h32, X32, e32, W32, st32⟩ := putFN X27 hx hZ hown (hw _ (List.mem_of_getElem? (i := 46) rfl)) Via.refl e27 c31 ((((((E_o0.wr W1).wr W7).wr W12).wr W17).wr W22).wr W27) (Or.inl (hw _ (List.mem_of_getElem? (i := 47) rfl))) (hw _ (List.mem_of_getElem? (i := 5) rfl)) (ty := .boolean) (v' := (.int (0 : Int32))) (by decide) rfl (fits_nar_bool (0 : Int32)) (g := (mkF m 35 #[.val (.ref o0), .val .null] [(.int (0 : Int32)), (.ref o0)])) rfl rfl (hb hby d6_35)
  have Fw32 := c31.same W32
  have K33 : Keep h0 h32 [o0, r1] := K28.wr W32 (Or.inl (List.mem_of_getElem? (i := 0) rfl))
  have Z34 : n0 ≤ h32.size := Nat.le_trans Z0 K33.1
  have N32 := Fr.snoc X32 N27 g_o0
  obtain ⟨LS32, X32, N32⟩ : ∃ L, Stand p l e ({ frames := 0, cells := 0, slots := 0, locals := 0 } : Room) s m #[(.ref o0), .null] below meth c T32 L 0 0 ∧ Fr n0 L := ⟨_, X32, N32⟩
  obtain ⟨fs, hr, hrun, hended, hW, hsame⟩ := X32.leave (v := none) (fun _ => rfl)
  have c35 := ((((((Fw1.other W7 (Or.inl ne_o0_r1)).other W12 (Or.inr (slot_ne (Or.inl (hw _ (List.mem_of_getElem? (i := 41) rfl))) (Or.inl (hw _ (List.mem_of_getElem? (i := 23) rfl))) (by decide) (t := (.object "java/io/InputStream")) (t' := .int) (by decide) (by decide)))).other W17 (Or.inr (slot_ne (Or.inl (hw _ (List.mem_of_getElem? (i := 41) rfl))) (Or.inl (hw _ (List.mem_of_getElem? (i := 25) rfl))) (by decide) (t := (.object "java/io/InputStream")) (t' := .int) (by decide) (by decide)))).other W22 (Or.inr (slot_ne (Or.inl (hw _ (List.mem_of_getElem? (i := 41) rfl))) (Or.inl (hw _ (List.mem_of_getElem? (i := 43) rfl))) (by decide) (t := (.object "java/io/InputStream")) (t' := .long) (by decide) (by decide)))).other W27 (Or.inr (slot_ne (Or.inl (hw _ (List.mem_of_getElem? (i := 41) rfl))) (Or.inl (hw _ (List.mem_of_getElem? (i := 45) rfl))) (by decide) (t := (.object "java/io/InputStream")) (t' := .long) (by decide) (by decide)))).other W32 (Or.inr (slot_ne (Or.inl (hw _ (List.mem_of_getElem? (i := 41) rfl))) (Or.inl (hw _ (List.mem_of_getElem? (i := 47) rfl))) (by decide) (t := (.object "java/io/InputStream")) (t' := .boolean) (by decide) (by decide))))
  have c36 := (((((V7.other W12 (Ne.symm ne_o0_r1)).other W17 (Ne.symm ne_o0_r1)).other W22 (Ne.symm ne_o0_r1)).other W27 (Ne.symm ne_o0_r1)).other W32 (Ne.symm ne_o0_r1))
  have c37 := ((((Fw12.other W17 (Or.inr (slot_ne (Or.inl (hw _ (List.mem_of_getElem? (i := 23) rfl))) (Or.inl (hw _ (List.mem_of_getElem? (i := 25) rfl))) (by decide) (t := .int) (t' := .int) (by decide) (by decide)))).other W22 (Or.inr (slot_ne (Or.inl (hw _ (List.mem_of_getElem? (i := 23) rfl))) (Or.inl (hw _ (List.mem_of_getElem? (i := 43) rfl))) (by decide) (t := .int) (t' := .long) (by decide) (by decide)))).other W27 (Or.inr (slot_ne (Or.inl (hw _ (List.mem_of_getElem? (i := 23) rfl))) (Or.inl (hw _ (List.mem_of_getElem? (i := 45) rfl))) (by decide) (t := .int) (t' := .long) (by decide) (by decide)))).other W32 (Or.inr (slot_ne (Or.inl (hw _ (List.mem_of_getElem? (i := 23) rfl))) (Or.inl (hw _ (List.mem_of_getElem? (i := 47) rfl))) (by decide) (t := .int) (t' := .boolean) (by decide) (by decide))))
  have c38 := (((Fw17.other W22 (Or.inr (slot_ne (Or.inl (hw _ (List.mem_of_getElem? (i := 25) rfl))) (Or.inl (hw _ (List.mem_of_getElem? (i := 43) rfl))) (by decide) (t := .int) (t' := .long) (by decide) (by decide)))).other W27 (Or.inr (slot_ne (Or.inl (hw _ (List.mem_of_getElem? (i := 25) rfl))) (Or.inl (hw _ (List.mem_of_getElem? (i := 45) rfl))) (by decide) (t := .int) (t' := .long) (by decide) (by decide)))).other W32 (Or.inr (slot_ne (Or.inl (hw _ (List.mem_of_getElem? (i := 25) rfl))) (Or.inl (hw _ (List.mem_of_getElem? (i := 47) rfl))) (by decide) (t := .int) (t' := .boolean) (by decide) (by decide))))
  have c39 := ((Fw22.other W27 (Or.inr (slot_ne (Or.inl (hw _ (List.mem_of_getElem? (i := 43) rfl))) (Or.inl (hw _ (List.mem_of_getElem? (i := 45) rfl))) (by decide) (t := .long) (t' := .long) (by decide) (by decide)))).other W32 (Or.inr (slot_ne (Or.inl (hw _ (List.mem_of_getElem? (i := 43) rfl))) (Or.inl (hw _ (List.mem_of_getElem? (i := 47) rfl))) (by decide) (t := .long) (t' := .boolean) (by decide) (by decide))))
  have c40 := (Fw27.other W32 (Or.inr (slot_ne (Or.inl (hw _ (List.mem_of_getElem? (i := 45) rfl))) (Or.inl (hw _ (List.mem_of_getElem? (i := 47) rfl))) (by decide) (t := .long) (t' := .boolean) (by decide) (by decide))))
  have c41 := ((((((c4.other W7 (Or.inl ne_o0_r1)).other W12 (Or.inr (slot_ne (Or.inr (hw _ (List.mem_of_getElem? (i := 21) rfl))) (Or.inl (hw _ (List.mem_of_getElem? (i := 23) rfl))) (by decide) (t := (.array .byte)) (t' := .int) (by decide) (by decide)))).other W17 (Or.inr (slot_ne (Or.inr (hw _ (List.mem_of_getElem? (i := 21) rfl))) (Or.inl (hw _ (List.mem_of_getElem? (i := 25) rfl))) (by decide) (t := (.array .byte)) (t' := .int) (by decide) (by decide)))).other W22 (Or.inr (slot_ne (Or.inr (hw _ (List.mem_of_getElem? (i := 21) rfl))) (Or.inl (hw _ (List.mem_of_getElem? (i := 43) rfl))) (by decide) (t := (.array .byte)) (t' := .long) (by decide) (by decide)))).other W27 (Or.inr (slot_ne (Or.inr (hw _ (List.mem_of_getElem? (i := 21) rfl))) (Or.inl (hw _ (List.mem_of_getElem? (i := 45) rfl))) (by decide) (t := (.array .byte)) (t' := .long) (by decide) (by decide)))).other W32 (Or.inr (slot_ne (Or.inr (hw _ (List.mem_of_getElem? (i := 21) rfl))) (Or.inl (hw _ (List.mem_of_getElem? (i := 47) rfl))) (by decide) (t := (.array .byte)) (t' := .boolean) (by decide) (by decide))))
  have c42 := (((((((F__quoted_o0.other W1 (Or.inr (slot_ne (Or.inl (hw _ (List.mem_of_getElem? (i := 49) rfl))) (Or.inl (hw _ (List.mem_of_getElem? (i := 41) rfl))) (by decide) (t := .boolean) (t' := (.object "java/io/InputStream")) (by decide) (by decide)))).other W7 (Or.inl ne_o0_r1)).other W12 (Or.inr (slot_ne (Or.inl (hw _ (List.mem_of_getElem? (i := 49) rfl))) (Or.inl (hw _ (List.mem_of_getElem? (i := 23) rfl))) (by decide) (t := .boolean) (t' := .int) (by decide) (by decide)))).other W17 (Or.inr (slot_ne (Or.inl (hw _ (List.mem_of_getElem? (i := 49) rfl))) (Or.inl (hw _ (List.mem_of_getElem? (i := 25) rfl))) (by decide) (t := .boolean) (t' := .int) (by decide) (by decide)))).other W22 (Or.inr (slot_ne (Or.inl (hw _ (List.mem_of_getElem? (i := 49) rfl))) (Or.inl (hw _ (List.mem_of_getElem? (i := 43) rfl))) (by decide) (t := .boolean) (t' := .long) (by decide) (by decide)))).other W27 (Or.inr (slot_ne (Or.inl (hw _ (List.mem_of_getElem? (i := 49) rfl))) (Or.inl (hw _ (List.mem_of_getElem? (i := 45) rfl))) (by decide) (t := .boolean) (t' := .long) (by decide) (by decide)))).other W32 (Or.inr (slot_ne (Or.inl (hw _ (List.mem_of_getElem? (i := 49) rfl))) (Or.inl (hw _ (List.mem_of_getElem? (i := 47) rfl))) (by decide) (t := .boolean) (t' := .boolean) (by decide) (by decide))))
  have c43 := (((((((F__closed_o0.other W1 (Or.inr (slot_ne (Or.inl (hw _ (List.mem_of_getElem? (i := 74) rfl))) (Or.inl (hw _ (List.mem_of_getElem? (i := 41) rfl))) (by decide) (t := .boolean) (t' := (.object "java/io/InputStream")) (by decide) (by decide)))).other W7 (Or.inl ne_o0_r1)).other W12 (Or.inr (slot_ne (Or.inl (hw _ (List.mem_of_getElem? (i := 74) rfl))) (Or.inl (hw _ (List.mem_of_getElem? (i := 23) rfl))) (by decide) (t := .boolean) (t' := .int) (by decide) (by decide)))).other W17 (Or.inr (slot_ne (Or.inl (hw _ (List.mem_of_getElem? (i := 74) rfl))) (Or.inl (hw _ (List.mem_of_getElem? (i := 25) rfl))) (by decide) (t := .boolean) (t' := .int) (by decide) (by decide)))).other W22 (Or.inr (slot_ne (Or.inl (hw _ (List.mem_of_getElem? (i := 74) rfl))) (Or.inl (hw _ (List.mem_of_getElem? (i := 43) rfl))) (by decide) (t := .boolean) (t' := .long) (by decide) (by decide)))).other W27 (Or.inr (slot_ne (Or.inl (hw _ (List.mem_of_getElem? (i := 74) rfl))) (Or.inl (hw _ (List.mem_of_getElem? (i := 45) rfl))) (by decide) (t := .boolean) (t' := .long) (by decide) (by decide)))).other W32 (Or.inr (slot_ne (Or.inl (hw _ (List.mem_of_getElem? (i := 74) rfl))) (Or.inl (hw _ (List.mem_of_getElem? (i := 47) rfl))) (by decide) (t := .boolean) (t' := .boolean) (by decide) (by decide))))
  refine ⟨_, _, pre0 _ ?_, hrun, hended, _, _, rfl, ?_, ⟨_, rfl⟩, hW, hsame.mono (by decide) (by decide)⟩
  · show Steps p.tables e below (s₁.setTop (mkF m 0 #[.val (.ref o0), .val .null] [])) _
    refine XS.aloadN X0.here hx rfl (hb hby d6_0) rfl rfl ?_
    show Steps p.tables e below (s₁.setTop (mkF m 1 #[.val (.ref o0), .val .null] [(.ref o0)])) _
    refine XS.aloadN X0.here hx rfl (hb hby d6_1) rfl rfl ?_
    show Steps p.tables e below (s₁.setTop (mkF m 2 #[.val (.ref o0), .val .null] [.null, (.ref o0)])) _
    refine st1 _ ?_
    show Steps p.tables e below (T1.setTop (mkF m 5 #[.val (.ref o0), .val .null] [])) _
    refine XS.aloadN X1.here hx rfl (hb hby d6_5) rfl rfl ?_
    show Steps p.tables e below (T1.setTop (mkF m 6 #[.val (.ref o0), .val .null] [(.ref o0)])) _
    refine st5 _ ?_
    show Steps p.tables e below (T5.setTop (mkF m 9 #[.val (.ref o0), .val .null] [(.ref r1)])) _
    refine XS.iconst X5.here hx rfl (hb hby d6_9) ?_
    show Steps p.tables e below (T5.setTop (mkF m 10 #[.val (.ref o0), .val .null] [(.int (0 : Int32)), (.ref r1)])) _
    refine XS.bipush X5.here hx rfl (hb hby d6_10) ?_
    show Steps p.tables e below (T5.setTop (mkF m 12 #[.val (.ref o0), .val .null] [(.int (10 : Int32)), (.int (0 : Int32)), (.ref r1)])) _
    refine st7 _ ?_
    show Steps p.tables e below (T7.setTop (mkF m 13 #[.val (.ref o0), .val .null] [])) _
    refine XS.aloadN X7.here hx rfl (hb hby d6_13) rfl rfl ?_
    show Steps p.tables e below (T7.setTop (mkF m 14 #[.val (.ref o0), .val .null] [(.ref o0)])) _
    refine XS.iconst X7.here hx rfl (hb hby d6_14) ?_
    show Steps p.tables e below (T7.setTop (mkF m 15 #[.val (.ref o0), .val .null] [(.int (1 : Int32)), (.ref o0)])) _
    refine st12 _ ?_
    show Steps p.tables e below (T12.setTop (mkF m 18 #[.val (.ref o0), .val .null] [])) _
    refine XS.aloadN X12.here hx rfl (hb hby d6_18) rfl rfl ?_
    show Steps p.tables e below (T12.setTop (mkF m 19 #[.val (.ref o0), .val .null] [(.ref o0)])) _
    refine XS.iconst X12.here hx rfl (hb hby d6_19) ?_
    show Steps p.tables e below (T12.setTop (mkF m 20 #[.val (.ref o0), .val .null] [(.int (1 : Int32)), (.ref o0)])) _
    refine st17 _ ?_
    show Steps p.tables e below (T17.setTop (mkF m 23 #[.val (.ref o0), .val .null] [])) _
    refine XS.aloadN X17.here hx rfl (hb hby d6_23) rfl rfl ?_
    show Steps p.tables e below (T17.setTop (mkF m 24 #[.val (.ref o0), .val .null] [(.ref o0)])) _
    refine XS.lconst X17.here hx rfl (hb hby d6_24) ?_
    show Steps p.tables e below (T17.setTop (mkF m 25 #[.val (.ref o0), .val .null] [(.long (0 : Int64)), (.ref o0)])) _
    refine st22 _ ?_
    show Steps p.tables e below (T22.setTop (mkF m 28 #[.val (.ref o0), .val .null] [])) _
    refine XS.aloadN X22.here hx rfl (hb hby d6_28) rfl rfl ?_
    show Steps p.tables e below (T22.setTop (mkF m 29 #[.val (.ref o0), .val .null] [(.ref o0)])) _
    refine XS.lconst X22.here hx rfl (hb hby d6_29) ?_
    show Steps p.tables e below (T22.setTop (mkF m 30 #[.val (.ref o0), .val .null] [(.long (0 : Int64)), (.ref o0)])) _
    refine st27 _ ?_
    show Steps p.tables e below (T27.setTop (mkF m 33 #[.val (.ref o0), .val .null] [])) _
    refine XS.aloadN X27.here hx rfl (hb hby d6_33) rfl rfl ?_
    show Steps p.tables e below (T27.setTop (mkF m 34 #[.val (.ref o0), .val .null] [(.ref o0)])) _
    refine XS.iconst X27.here hx rfl (hb hby d6_34) ?_
    show Steps p.tables e below (T27.setTop (mkF m 35 #[.val (.ref o0), .val .null] [(.int (0 : Int32)), (.ref o0)])) _
    refine st32 _ ?_
    show Steps p.tables e below (T32.setTop (mkF m 38 #[.val (.ref o0), .val .null] [])) _
    exact X32.returnOut hx Bd.returns (hb hby d6_38) hr
  · show Q6 Z o0 r1 vq vc F w10 w15 w20 w25 w30 h0 n0 _ T32.heap _
    rw [e32]
    exact ⟨rfl, N32, K33, c35, c36, c37, c38, c39, c40, Fw32, c41, c42, c43⟩
theorem d5_0 : decode prog_14_method_3_code 0 = .ok (.aload_n 0, 1) := by decide +kernel
theorem d5_1 : decode prog_14_method_3_code 1 = .ok (.aload_n 1, 1) := by decide +kernel
theorem d5_2 : decode prog_14_method_3_code 2 = .ok (.invokespecial 9, 3) := by decide +kernel
theorem d5_5 : decode prog_14_method_3_code 5 = .ok (.aload_n 0, 1) := by decide +kernel
theorem d5_6 : decode prog_14_method_3_code 6 = .ok (.iconst 0, 1) := by decide +kernel
theorem d5_7 : decode prog_14_method_3_code 7 = .ok (.putfield 13, 3) := by decide +kernel
theorem d5_10 : decode prog_14_method_3_code 10 = .ok (.return_, 1) := by decide +kernel
theorem pn_5 : plainName "com/example/cistern/cistern/io/CsvReader" = true := by first | (simp [plainName, overriddenIn]; done) | decide +kernel
theorem pd_5_0 : parseMethodDescriptor "(Ljava/io/InputStream;)V" = some ⟨[(.object "java/io/InputStream")], none⟩ := by decide +kernel
theorem ef_5 (m : MethodId) (x0 : Addr) : entryFrame m #[(.ref x0), .null] 2 = mkF m 0 #[.val (.ref x0), .val .null] [] := by first | (simp [entryFrame, mkF, argsToLocals, Value.category]; done) | rfl
def Q5 (Z : State) (o0 : Addr) (r1 : Addr) (vq : Int32) (vc : Int32) (F : Nat → Int32) (w2 : Int32) (w3 : Int32) (w4 : Int64) (w5 : Int64) (w6 : Int32) (h0 : Heap) (n0 : Nat) (v : Option Value) (h : Heap) (L : List Loc) : Prop := v = none ∧ Fr n0 L ∧ Keep h0 h [r1, o0] ∧ Fld Z h o0 "com/example/cistern/cistern/io/RecordReader" "_in" "Ljava/io/InputStream;" .null ∧ own_AI Z h r1 .byte (65537 : Int32) (own_upd F 0 (10 : Int32)) ∧ Fld Z h o0 "com/example/cistern/cistern/io/RecordReader" "_start" "I" (.int (1 : Int32)) ∧ Fld Z h o0 "com/example/cistern/cistern/io/RecordReader" "_end" "I" (.int (1 : Int32)) ∧ Fld Z h o0 "com/example/cistern/cistern/io/RecordReader" "_offset" "J" (.long (0 : Int64)) ∧ Fld Z h o0 "com/example/cistern/cistern/io/RecordReader" "_records" "J" (.long (0 : Int64)) ∧ Fld Z h o0 "com/example/cistern/cistern/io/RecordReader" "_ended" "Z" (.int (0 : Int32)) ∧ Fld Z h o0 "com/example/cistern/cistern/io/RecordReader" "_buffer" "[B" (.ref r1) ∧ Fld Z h o0 "com/example/cistern/cistern/io/CsvReader" "_quoted" "Z" (.int (0 : Int32)) ∧ Fld Z h o0 "com/example/cistern/cistern/io/CsvReader" "_closed" "Z" (.int vc)
set_option maxRecDepth 65536 in
set_option maxHeartbeats 40000000 in
theorem rm5 (l : Launch) (Z : State) (a0 : Array Value) (hw : ∀ d ∈ tables_1, d.before a0 Z = true) (ws : List Jvm.Cond) (o0 : Addr) (r1 : Addr) (vq : Int32) (vc : Int32) (F : Nat → Int32) (w2 : Int32) (w3 : Int32) (w4 : Int64) (w5 : Int64) (w6 : Int32) (h0 : Heap) (n0 : Nat) (Z0 : n0 ≤ h0.size) (E_o0 : Exa Z h0 o0 "com/example/cistern/cistern/io/CsvReader") (F__buffer_o0 : Fld Z h0 o0 "com/example/cistern/cistern/io/RecordReader" "_buffer" "[B" (.ref r1)) (F__quoted_o0 : Fld Z h0 o0 "com/example/cistern/cistern/io/CsvReader" "_quoted" "Z" (.int vq)) (F__closed_o0 : Fld Z h0 o0 "com/example/cistern/cistern/io/CsvReader" "_closed" "Z" (.int vc)) (V_r1 : own_AI Z h0 r1 .byte (65537 : Int32) F) (ne_o0_r1 : o0 ≠ r1) (g_o0 : n0 ≤ o0) (g_r1 : n0 ≤ r1) (F__in_o0 : Fld Z h0 o0 "com/example/cistern/cistern/io/RecordReader" "_in" "Ljava/io/InputStream;" .null) (F__start_o0 : Fld Z h0 o0 "com/example/cistern/cistern/io/RecordReader" "_start" "I" (.int w2)) (F__end_o0 : Fld Z h0 o0 "com/example/cistern/cistern/io/RecordReader" "_end" "I" (.int w3)) (F__offset_o0 : Fld Z h0 o0 "com/example/cistern/cistern/io/RecordReader" "_offset" "J" (.long w4)) (F__records_o0 : Fld Z h0 o0 "com/example/cistern/cistern/io/RecordReader" "_records" "J" (.long w5)) (F__ended_o0 : Fld Z h0 o0 "com/example/cistern/cistern/io/RecordReader" "_ended" "Z" (.int w6)) :
    MetFree l (⟨"com/example/cistern/cistern/io/CsvReader", "start", "(Ljava/io/InputStream;)V"⟩ : MethodName) (head1 (Jvm.Cond.code (⟨"com/example/cistern/cistern/io/CsvReader", "start", "(Ljava/io/InputStream;)V"⟩ : MethodName) prog_14_method_3_code 2 none :: ws) ({ frames := 1, cells := 0, slots := 0, locals := 13 } : Room)) (fun a U => a = #[(.ref o0), .null] ∧ Z.Warmed39 U.vm ∧ U.heap = h0) (fun _ _ _ _ _ => True) (fun _ U o U' => ∃ v L, o = .returned v ∧ Q5 Z o0 r1 vq vc F w2 w3 w4 w5 w6 h0 n0 v U'.heap L ∧ FrameEnd U o U' L ({ frames := 1, cells := 0, slots := 0, locals := 13 } : Room).cells ({ frames := 1, cells := 0, slots := 0, locals := 13 } : Room).slots) := by
  refine MetFree.of_bodySF (plainFor_of_name pn_5) hisR ?_
  intro p e s m args below meth c s₁ Bd hml0 hP hK
  obtain ⟨rfl, hZ, hh⟩ := hP
  have hx := Bd.exec
  have hby := Bd.bytes
  have hml : c.maxLocals = 2 := hml0
  have hown : s.vm.findClass "com/example/cistern/cistern/io/CsvReader" = some m.cls := findClass_of_methodNamed Bd.named
  have hnm := (name_of_methodNamed Bd.named Bd.method).1
  have X0 : Stand p l e ({ frames := 1, cells := 0, slots := 0, locals := 13 } : Room) s m #[(.ref o0), .null] below meth c s₁ [] 0 0 := Stand.of_body Bd
  have e0 : s₁.heap = h0 := by rw [← hh, Bd.state]; rfl
  have N0 := Fr.nil n0
  have pre0 : ∀ t, Steps p.tables e below (s₁.setTop (mkF m 0 #[.val (.ref o0), .val .null] [])) t → Steps p.tables e below (s₁.setTop (entryFrame m #[(.ref o0), .null] 2)) t := fun t k => castTop (ef_5 m o0) k
  obtain ⟨_, _, ⟨T1, L1, k1, n1⟩, -, X1, ⟨Lc1, hQ1, l1, y1, z1⟩, st1⟩ := superBack X0 hx hZ (y := (⟨"com/example/cistern/cistern/io/RecordReader", "start", "(Ljava/io/InputStream;)V"⟩ : MethodName)) hown (hw _ (List.mem_of_getElem? (i := 35) rfl)) (own_same (by rfl) (by decide) (hw _ (List.mem_of_getElem? (i := 38) rfl)) (hw _ (List.mem_of_getElem? (i := 65) rfl))) (hw _ (List.mem_of_getElem? (i := 36) rfl)) (hw _ (List.mem_of_getElem? (i := 37) rfl)) (by decide) (backOf (W := 0) (rm6 l Z a0 hw [] o0 r1 vq vc F w2 w3 w4 w5 w6 h0 n0 Z0 E_o0 F__buffer_o0 F__quoted_o0 F__closed_o0 V_r1 ne_o0_r1 g_o0 g_r1 F__in_o0 F__start_o0 F__end_o0 F__offset_o0 F__records_o0 F__ended_o0) hZ (hw _ (List.mem_of_getElem? (i := 39) rfl)) (hw _ (List.mem_of_getElem? (i := 13) rfl)) (by decide) (by decide)) e0 (Ins.self E_o0) (g := (mkF m 2 #[.val (.ref o0), .val .null] [.null, (.ref o0)])) rfl (by rw [hml]; rfl) (hw _ (List.mem_of_getElem? (i := 39) rfl)) (argsL := [.null]) (rest := []) (lenOf pd_5_0 rfl) rfl (by show 2 * 0 + _ ≤ _; exact Nat.le_of_eq rfl) (hb hby d5_2) (fun _ _ => ⟨rfl, e0, (by decide : 0 + 0 ≤ _), (by decide : 0 + 0 ≤ _)⟩)
  dsimp only [Pt.U, Pt.locs, Pt.cells, Pt.slots] at X1 l1 y1 z1 st1 hQ1
  subst l1 y1 z1
  obtain ⟨rfl, N1q, K1q, G1_0, G1_1, G1_2, G1_3, G1_4, G1_5, G1_6, G1_7, G1_8, G1_9⟩ := hQ1
  have N1 := Fr.app N0 N1q
  have K7 : Keep h0 T1.heap [r1, o0] := (Keep.refl h0 [r1, o0]).trans K1q (allS (Or.inl (List.mem_of_getElem? (i := 1) rfl)) (allS (Or.inl (List.mem_of_getElem? (i := 0) rfl)) all0))
  have Z8 : n0 ≤ T1.heap.size := Nat.le_trans Z0 K7.1
  obtain ⟨LS1, X1, N1⟩ : ∃ L, Stand p l e ({ frames := 1, cells := 0, slots := 0, locals := 13 } : Room) s m #[(.ref o0), .null] below meth c T1 L 0 0 ∧ Fr n0 L := ⟨_, X1, N1⟩
  obtain ⟨T9, h9, X9, e9, W9, st9⟩ := putFN X1 hx hZ hown (hw _ (List.mem_of_getElem? (i := 48) rfl)) Via.refl rfl G1_8 (E_o0.keep K1q) (Or.inl (hw _ (List.mem_of_getElem? (i := 49) rfl))) (hw _ (List.mem_of_getElem? (i := 5) rfl)) (ty := .boolean) (v' := (.int (0 : Int32))) (by decide) rfl (fits_nar_bool (0 : Int32)) (g := (mkF m 7 #[.val (.ref o0), .val .null] [(.int (0 : Int32)), (.ref o0)])) rfl rfl (hb hby d5_7)
  have Fw9 := G1_8.same W9
  have K10 : Keep h0 h9 [r1, o0] := K7.wr W9 (Or.inl (List.mem_of_getElem? (i := 1) rfl))
  have Z11 : n0 ≤ h9.size := Nat.le_trans Z0 K10.1
  have N9 := Fr.snoc X9 N1 g_o0
  obtain ⟨LS9, X9, N9⟩ : ∃ L, Stand p l e ({ frames := 1, cells := 0, slots := 0, locals := 13 } : Room) s m #[(.ref o0), .null] below meth c T9 L 0 0 ∧ Fr n0 L := ⟨_, X9, N9⟩
  obtain ⟨fs, hr, hrun, hended, hW, hsame⟩ := X9.leave (v := none) (fun _ => rfl)
  have c12 := (G1_0.other W9 (Or.inr (slot_ne (Or.inl (hw _ (List.mem_of_getElem? (i := 41) rfl))) (Or.inl (hw _ (List.mem_of_getElem? (i := 49) rfl))) (by decide) (t := (.object "java/io/InputStream")) (t' := .boolean) (by decide) (by decide))))
  have c13 := (G1_2.other W9 (Or.inr (slot_ne (Or.inl (hw _ (List.mem_of_getElem? (i := 23) rfl))) (Or.inl (hw _ (List.mem_of_getElem? (i := 49) rfl))) (by decide) (t := .int) (t' := .boolean) (by decide) (by decide))))
  have c14 := (G1_3.other W9 (Or.inr (slot_ne (Or.inl (hw _ (List.mem_of_getElem? (i := 25) rfl))) (Or.inl (hw _ (List.mem_of_getElem? (i := 49) rfl))) (by decide) (t := .int) (t' := .boolean) (by decide) (by decide))))
  have c15 := (G1_4.other W9 (Or.inr (slot_ne (Or.inl (hw _ (List.mem_of_getElem? (i := 43) rfl))) (Or.inl (hw _ (List.mem_of_getElem? (i := 49) rfl))) (by decide) (t := .long) (t' := .boolean) (by decide) (by decide))))
  have c16 := (G1_5.other W9 (Or.inr (slot_ne (Or.inl (hw _ (List.mem_of_getElem? (i := 45) rfl))) (Or.inl (hw _ (List.mem_of_getElem? (i := 49) rfl))) (by decide) (t := .long) (t' := .boolean) (by decide) (by decide))))
  have c17 := (G1_6.other W9 (Or.inr (slot_ne (Or.inl (hw _ (List.mem_of_getElem? (i := 47) rfl))) (Or.inl (hw _ (List.mem_of_getElem? (i := 49) rfl))) (by decide) (t := .boolean) (t' := .boolean) (by decide) (by decide))))
  have c18 := (G1_7.other W9 (Or.inr (slot_ne (Or.inr (hw _ (List.mem_of_getElem? (i := 21) rfl))) (Or.inl (hw _ (List.mem_of_getElem? (i := 49) rfl))) (by decide) (t := (.array .byte)) (t' := .boolean) (by decide) (by decide))))
  have c19 := (G1_9.other W9 (Or.inr (slot_ne (Or.inl (hw _ (List.mem_of_getElem? (i := 74) rfl))) (Or.inl (hw _ (List.mem_of_getElem? (i := 49) rfl))) (by decide) (t := .boolean) (t' := .boolean) (by decide) (by decide))))
  refine ⟨_, _, pre0 _ ?_, hrun, hended, _, _, rfl, ?_, ⟨_, rfl⟩, hW, hsame.mono (by decide) (by decide)⟩
  · show Steps p.tables e below (s₁.setTop (mkF m 0 #[.val (.ref o0), .val .null] [])) _
    refine XS.aloadN X0.here hx rfl (hb hby d5_0) rfl rfl ?_
    show Steps p.tables e below (s₁.setTop (mkF m 1 #[.val (.ref o0), .val .null] [(.ref o0)])) _
    refine XS.aloadN X0.here hx rfl (hb hby d5_1) rfl rfl ?_
    show Steps p.tables e below (s₁.setTop (mkF m 2 #[.val (.ref o0), .val .null] [.null, (.ref o0)])) _
    refine st1.trans ?_
    show Steps p.tables e below (T1.setTop (mkF m 5 #[.val (.ref o0), .val .null] [])) _
    refine XS.aloadN X1.here hx rfl (hb hby d5_5) rfl rfl ?_
    show Steps p.tables e below (T1.setTop (mkF m 6 #[.val (.ref o0), .val .null] [(.ref o0)])) _
    refine XS.iconst X1.here hx rfl (hb hby d5_6) ?_
    show Steps p.tables e below (T1.setTop (mkF m 7 #[.val (.ref o0), .val .null] [(.int (0 : Int32)), (.ref o0)])) _
    refine st9 _ ?_
    show Steps p.tables e below (T9.setTop (mkF m 10 #[.val (.ref o0), .val .null] [])) _
    exact X9.returnOut hx Bd.returns (hb hby d5_10) hr
  · show Q5 Z o0 r1 vq vc F w2 w3 w4 w5 w6 h0 n0 _ T9.heap _
    rw [e9]
    exact ⟨rfl, N9, K10, c12, (G1_1.other W9 (Ne.symm ne_o0_r1)), c13, c14, c15, c16, c17, c18, Fw9, c19⟩
theorem d8_0 : decode prog_24_method_11_code 0 = .ok (.aload_n 0, 1) := by decide +kernel
theorem d8_1 : decode prog_24_method_11_code 1 = .ok (.getfield 16, 3) := by decide +kernel
theorem d8_4 : decode prog_24_method_11_code 4 = .ok (.aload_n 0, 1) := by decide +kernel
theorem d8_5 : decode prog_24_method_11_code 5 = .ok (.getfield 20, 3) := by decide +kernel
theorem d8_8 : decode prog_24_method_11_code 8 = .ok (.aload_n 0, 1) := by decide +kernel
theorem d8_9 : decode prog_24_method_11_code 9 = .ok (.getfield 16, 3) := by decide +kernel
theorem d8_12 : decode prog_24_method_11_code 12 = .ok (.isub, 1) := by decide +kernel
theorem d8_13 : decode prog_24_method_11_code 13 = .ok (.bipush (-8), 2) := by decide +kernel
theorem d8_15 : decode prog_24_method_11_code 15 = .ok (.iand, 1) := by decide +kernel
theorem d8_16 : decode prog_24_method_11_code 16 = .ok (.iadd, 1) := by decide +kernel
theorem d8_17 : decode prog_24_method_11_code 17 = .ok (.ireturn, 1) := by decide +kernel
theorem pn_8 : plainName "com/example/cistern/cistern/io/RecordReader" = true := by first | (simp [plainName, overriddenIn]; done) | decide +kernel
theorem ef_8 (m : MethodId) (x0 : Addr) : entryFrame m #[(.ref x0)] 1 = mkF m 0 #[.val (.ref x0)] [] := by first | (simp [entryFrame, mkF, argsToLocals, Value.category]; done) | rfl
def Q8 (Z : State) (o0 : Addr) (w1 : Int32) (w3 : Int32) (h0 : Heap) (n0 : Nat) (v : Option Value) (h : Heap) (L : List Loc) : Prop := v = some (.int (w1 + ((w3 - w1) &&& (-8 : Int32)))) ∧ Fr n0 L ∧ h = h0
set_option maxRecDepth 65536 in
set_option maxHeartbeats 40000000 in
theorem rm8 (l : Launch) (Z : State) (a0 : Array Value) (hw : ∀ d ∈ tables_1, d.before a0 Z = true) (ws : List Jvm.Cond) (o0 : Addr) (w1 : Int32) (w3 : Int32) (h0 : Heap) (n0 : Nat) (Z0 : n0 ≤ h0.size) (E_o0 : Exa Z h0 o0 "com/example/cistern/cistern/io/CsvReader") (F__start_o0 : Fld Z h0 o0 "com/example/cistern/cistern/io/RecordReader" "_start" "I" (.int w1)) (F__end_o0 : Fld Z h0 o0 "com/example/cistern/cistern/io/RecordReader" "_end" "I" (.int w3)) :
    MetFree l (⟨"com/example/cistern/cistern/io/RecordReader", "wordsEnd", "()I"⟩ : MethodName) (head1 (Jvm.Cond.code (⟨"com/example/cistern/cistern/io/RecordReader", "wordsEnd", "()I"⟩ : MethodName) prog_24_method_11_code 1 (some .int) :: ws) ({ frames := 0, cells := 0, slots := 0, locals := 0 } : Room)) (fun a U => a = #[(.ref o0)] ∧ Z.Warmed39 U.vm ∧ U.heap = h0) (fun _ _ _ _ _ => True) (fun _ U o U' => ∃ v L, o = .returned v ∧ Q8 Z o0 w1 w3 h0 n0 v U'.heap L ∧ FrameEnd U o U' L ({ frames := 0, cells := 0, slots := 0, locals := 0 } : Room).cells ({ frames := 0, cells := 0, slots := 0, locals := 0 } : Room).slots) := by
  refine MetFree.of_bodySF (plainFor_of_name pn_8) hisR ?_
  intro p e s m args below meth c s₁ Bd hml0 hP hK
  obtain ⟨rfl, hZ, hh⟩ := hP
  have hx := Bd.exec
  have hby := Bd.bytes
  have hml : c.maxLocals = 1 := hml0
  have hown : s.vm.findClass "com/example/cistern/cistern/io/RecordReader" = some m.cls := findClass_of_methodNamed Bd.named
  have hnm := (name_of_methodNamed Bd.named Bd.method).1
  have X0 : Stand p l e ({ frames := 0, cells := 0, slots := 0, locals := 0 } : Room) s m #[(.ref o0)] below meth c s₁ [] 0 0 := Stand.of_body Bd
  have e0 : s₁.heap = h0 := by rw [← hh, Bd.state]; rfl
  have N0 := Fr.nil n0
  have pre0 : ∀ t, Steps p.tables e below (s₁.setTop (mkF m 0 #[.val (.ref o0)] [])) t → Steps p.tables e below (s₁.setTop (entryFrame m #[(.ref o0)] 1)) t := fun t k => castTop (ef_8 m o0) k
  obtain ⟨T2, X2, e2, st2⟩ := getF X0 hx hZ hown (host := "") (Or.inl (hw _ (List.mem_of_getElem? (i := 22) rfl))) Via.refl e0 F__start_o0 (g := (mkF m 1 #[.val (.ref o0)] [(.ref o0)])) rfl rfl (hb hby d8_1)
  obtain ⟨T4, X4, e4, st4⟩ := getF X2 hx hZ hown (host := "") (Or.inl (hw _ (List.mem_of_getElem? (i := 24) rfl))) Via.refl e2 F__end_o0 (g := (mkF m 5 #[.val (.ref o0)] [(.ref o0), (.int w1)])) rfl rfl (hb hby d8_5)
  obtain ⟨T5, X5, e5, st5⟩ := getF X4 hx hZ hown (host := "") (Or.inl (hw _ (List.mem_of_getElem? (i := 22) rfl))) Via.refl e4 F__start_o0 (g := (mkF m 9 #[.val (.ref o0)] [(.ref o0), (.int w3), (.int w1)])) rfl rfl (hb hby d8_9)
  obtain ⟨fs, hr, hrun, hended, hW, hsame⟩ := X5.leave (v := some (.int (w1 + ((w3 - w1) &&& (-8 : Int32))))) (fun h => by rw [Bd.returns] at h; cases h)
  have hv6 : (w1 + ((w3 - w1) &&& (-8 : Int32))) = (w1 + ((w3 - w1) &&& (-8 : Int32))) := rfl
  refine ⟨_, _, pre0 _ ?_, hrun, hended, _, _, rfl, ?_, ⟨_, rfl⟩, hW, hsame.mono (by decide) (by decide)⟩
  · show Steps p.tables e below (s₁.setTop (mkF m 0 #[.val (.ref o0)] [])) _
    refine XS.aloadN X0.here hx rfl (hb hby d8_0) rfl rfl ?_
    show Steps p.tables e below (s₁.setTop (mkF m 1 #[.val (.ref o0)] [(.ref o0)])) _
    refine st2 _ ?_
    show Steps p.tables e below (T2.setTop (mkF m 4 #[.val (.ref o0)] [(.int w1)])) _
    refine XS.aloadN X2.here hx rfl (hb hby d8_4) rfl rfl ?_
    show Steps p.tables e below (T2.setTop (mkF m 5 #[.val (.ref o0)] [(.ref o0), (.int w1)])) _
    refine st4 _ ?_
    show Steps p.tables e below (T4.setTop (mkF m 8 #[.val (.ref o0)] [(.int w3), (.int w1)])) _
    refine XS.aloadN X4.here hx rfl (hb hby d8_8) rfl rfl ?_
    show Steps p.tables e below (T4.setTop (mkF m 9 #[.val (.ref o0)] [(.ref o0), (.int w3), (.int w1)])) _
    refine st5 _ ?_
    show Steps p.tables e below (T5.setTop (mkF m 12 #[.val (.ref o0)] [(.int w1), (.int w3), (.int w1)])) _
    refine XS.isub X5.here hx rfl (hb hby d8_12) rfl ?_
    show Steps p.tables e below (T5.setTop (mkF m 13 #[.val (.ref o0)] [(.int (w3 - w1)), (.int w1)])) _
    refine XS.bipush X5.here hx rfl (hb hby d8_13) ?_
    show Steps p.tables e below (T5.setTop (mkF m 15 #[.val (.ref o0)] [(.int (-8 : Int32)), (.int (w3 - w1)), (.int w1)])) _
    refine XS.iand X5.here hx rfl (hb hby d8_15) rfl ?_
    show Steps p.tables e below (T5.setTop (mkF m 16 #[.val (.ref o0)] [(.int ((w3 - w1) &&& (-8 : Int32))), (.int w1)])) _
    refine XS.iadd X5.here hx rfl (hb hby d8_16) rfl ?_
    show Steps p.tables e below (T5.setTop (mkF m 17 #[.val (.ref o0)] [(.int (w1 + ((w3 - w1) &&& (-8 : Int32))))])) _
    exact retI X5 hx Bd.returns (hb hby d8_17) hr
  · show Q8 Z o0 w1 w3 h0 n0 _ T5.heap _
    rw [e5]
    exact ⟨congrArg (fun q => some (Value.int q)) hv6.symm, N0, rfl⟩
theorem d10_0 : decode prog_14_method_2_code 0 = .ok (.iload_n 0, 1) := by decide +kernel
theorem d10_1 : decode prog_14_method_2_code 1 = .ok (.bipush 44, 2) := by decide +kernel
theorem d10_3 : decode prog_14_method_2_code 3 = .ok (.if_icmp .eq 19, 3) := by decide +kernel
theorem d10_6 : decode prog_14_method_2_code 6 = .ok (.iload_n 0, 1) := by decide +kernel
theorem d10_7 : decode prog_14_method_2_code 7 = .ok (.bipush 10, 2) := by decide +kernel
theorem d10_9 : decode prog_14_method_2_code 9 = .ok (.if_icmp .eq 13, 3) := by decide +kernel
theorem d10_12 : decode prog_14_method_2_code 12 = .ok (.iload_n 0, 1) := by decide +kernel
theorem d10_13 : decode prog_14_method_2_code 13 = .ok (.bipush 34, 2) := by decide +kernel
theorem d10_15 : decode prog_14_method_2_code 15 = .ok (.if_icmp .ne 11, 3) := by decide +kernel
theorem d10_18 : decode prog_14_method_2_code 18 = .ok (.iload_n 1, 1) := by decide +kernel
theorem d10_19 : decode prog_14_method_2_code 19 = .ok (.ifCond .eq 7, 3) := by decide +kernel
theorem d10_22 : decode prog_14_method_2_code 22 = .ok (.iconst 1, 1) := by decide +kernel
theorem d10_23 : decode prog_14_method_2_code 23 = .ok (.goto 4, 3) := by decide +kernel
theorem d10_26 : decode prog_14_method_2_code 26 = .ok (.iconst 0, 1) := by decide +kernel
theorem d10_27 : decode prog_14_method_2_code 27 = .ok (.ireturn, 1) := by decide +kernel
theorem pn_10 : plainName "com/example/cistern/cistern/io/CsvReader" = true := by first | (simp [plainName, overriddenIn]; done) | decide +kernel
theorem ef_10 (m : MethodId) (x0 : Int32) (x1 : Int32) : entryFrame m #[(.int x0), (.int x1)] 2 = mkF m 0 #[.val (.int x0), .val (.int x1)] [] := by first | (simp [entryFrame, mkF, argsToLocals, Value.category]; done) | rfl
def f10 (p0 : Int32) (p1 : Int32) : Int32 :=
  if p0 = (44 : Int32) then ((1 : Int32)) else
  (if p0 = (10 : Int32) then ((1 : Int32)) else
  (if p0 = (34 : Int32) then (if p1 = (0 : Int32) then ((0 : Int32)) else
  ((1 : Int32))) else
  ((0 : Int32))))
def Q10 (Z : State) (p0 : Int32) (p1 : Int32) (h0 : Heap) (n0 : Nat) (v : Option Value) (h : Heap) (L : List Loc) : Prop := v = some (.int (f10 p0 p1)) ∧ Fr n0 L ∧ h = h0
set_option maxRecDepth 65536 in
set_option maxHeartbeats 40000000 in
theorem rm10 (l : Launch) (Z : State) (a0 : Array Value) (hw : ∀ d ∈ tables_1, d.before a0 Z = true) (ws : List Jvm.Cond) (p0 : Int32) (p1 : Int32) (h0 : Heap) (n0 : Nat) (Z0 : n0 ≤ h0.size) :
    MetFree l (⟨"com/example/cistern/cistern/io/CsvReader", "opensField", "(BZ)Z"⟩ : MethodName) (head1 (Jvm.Cond.code (⟨"com/example/cistern/cistern/io/CsvReader", "opensField", "(BZ)Z"⟩ : MethodName) prog_14_method_2_code 2 (some .boolean) :: ws) ({ frames := 0, cells := 0, slots := 0, locals := 0 } : Room)) (fun a U => a = #[(.int p0), (.int p1)] ∧ Z.Warmed39 U.vm ∧ U.heap = h0) (fun _ _ _ _ _ => True) (fun _ U o U' => ∃ v L, o = .returned v ∧ Q10 Z p0 p1 h0 n0 v U'.heap L ∧ FrameEnd U o U' L ({ frames := 0, cells := 0, slots := 0, locals := 0 } : Room).cells ({ frames := 0, cells := 0, slots := 0, locals := 0 } : Room).slots) := by
  refine MetFree.of_bodySF (plainFor_of_name pn_10) hisR ?_
  intro p e s m args below meth c s₁ Bd hml0 hP hK
  obtain ⟨rfl, hZ, hh⟩ := hP
  have hx := Bd.exec
  have hby := Bd.bytes
  have hml : c.maxLocals = 2 := hml0
  have hown : s.vm.findClass "com/example/cistern/cistern/io/CsvReader" = some m.cls := findClass_of_methodNamed Bd.named
  have hnm := (name_of_methodNamed Bd.named Bd.method).1
  have X0 : Stand p l e ({ frames := 0, cells := 0, slots := 0, locals := 0 } : Room) s m #[(.int p0), (.int p1)] below meth c s₁ [] 0 0 := Stand.of_body Bd
  have e0 : s₁.heap = h0 := by rw [← hh, Bd.state]; rfl
  have N0 := Fr.nil n0
  have pre0 : ∀ t, Steps p.tables e below (s₁.setTop (mkF m 0 #[.val (.int p0), .val (.int p1)] [])) t → Steps p.tables e below (s₁.setTop (entryFrame m #[(.int p0), (.int p1)] 2)) t := fun t k => castTop (ef_10 m p0 p1) k
  have pre1 : ∀ t, Steps p.tables e below (s₁.setTop (mkF m 3 #[.val (.int p0), .val (.int p1)] [(.int (44 : Int32)), (.int p0)])) t → Steps p.tables e below (s₁.setTop (entryFrame m #[(.int p0), (.int p1)] 2)) t := fun t kt => pre0 t (by
      show Steps p.tables e below (s₁.setTop (mkF m 0 #[.val (.int p0), .val (.int p1)] [])) _
      refine XS.iloadN X0.here hx rfl (hb hby d10_0) rfl ?_
      show Steps p.tables e below (s₁.setTop (mkF m 1 #[.val (.int p0), .val (.int p1)] [(.int p0)])) _
      refine XS.bipush X0.here hx rfl (hb hby d10_1) ?_
      exact kt)
  by_cases hc3_2 : p0 = (44 : Int32)
  · obtain ⟨fs, hr, hrun, hended, hW, hsame⟩ := X0.leave (v := some (.int (1 : Int32))) (fun h => by rw [Bd.returns] at h; cases h)
    have hv9 : (f10 p0 p1) = (1 : Int32) := by rw [f10, if_pos hc3_2]
    refine ⟨_, _, pre1 _ ?_, hrun, hended, _, _, rfl, ?_, ⟨_, rfl⟩, hW, hsame.mono (by decide) (by decide)⟩
    · show Steps p.tables e below (s₁.setTop (mkF m 3 #[.val (.int p0), .val (.int p1)] [(.int (44 : Int32)), (.int p0)])) _
      refine XS.icmpYes X0.here hx rfl (pc0 := 3) (pc' := 22) rfl (hb hby d10_3) rfl (teq hc3_2).1 (by decide) (by decide) ?_
      show Steps p.tables e below (s₁.setTop (mkF m 22 #[.val (.int p0), .val (.int p1)] [])) _
      refine XS.iconst X0.here hx rfl (hb hby d10_22) ?_
      show Steps p.tables e below (s₁.setTop (mkF m 23 #[.val (.int p0), .val (.int p1)] [(.int (1 : Int32))])) _
      refine XS.goto X0.here hx rfl (pc0 := 23) (pc' := 27) rfl (hb hby d10_23) (by decide) (by decide) ?_
      show Steps p.tables e below (s₁.setTop (mkF m 27 #[.val (.int p0), .val (.int p1)] [(.int (1 : Int32))])) _
      exact retN X0 hx (t := .boolean) Bd.returns (by simp) (hb hby d10_27) hr
    · show Q10 Z p0 p1 h0 n0 _ s₁.heap _
      rw [e0]
      exact ⟨congrArg (fun q => some (Value.int q)) hv9.symm, N0, rfl⟩
  · have pre3 : ∀ t, Steps p.tables e below (s₁.setTop (mkF m 9 #[.val (.int p0), .val (.int p1)] [(.int (10 : Int32)), (.int p0)])) t → Steps p.tables e below (s₁.setTop (entryFrame m #[(.int p0), (.int p1)] 2)) t := fun t kt => pre1 t (by
        show Steps p.tables e below (s₁.setTop (mkF m 3 #[.val (.int p0), .val (.int p1)] [(.int (44 : Int32)), (.int p0)])) _
        refine XS.icmpNo X0.here hx rfl (hb hby d10_3) rfl (feq hc3_2).1 ?_
        show Steps p.tables e below (s₁.setTop (mkF m 6 #[.val (.int p0), .val (.int p1)] [])) _
        refine XS.iloadN X0.here hx rfl (hb hby d10_6) rfl ?_
        show Steps p.tables e below (s₁.setTop (mkF m 7 #[.val (.int p0), .val (.int p1)] [(.int p0)])) _
        refine XS.bipush X0.here hx rfl (hb hby d10_7) ?_
        exact kt)
    by_cases hc9_4 : p0 = (10 : Int32)
    · obtain ⟨fs, hr, hrun, hended, hW, hsame⟩ := X0.leave (v := some (.int (1 : Int32))) (fun h => by rw [Bd.returns] at h; cases h)
      have hv10 : (f10 p0 p1) = (1 : Int32) := by rw [f10, if_neg hc3_2, if_pos hc9_4]
      refine ⟨_, _, pre3 _ ?_, hrun, hended, _, _, rfl, ?_, ⟨_, rfl⟩, hW, hsame.mono (by decide) (by decide)⟩
      · show Steps p.tables e below (s₁.setTop (mkF m 9 #[.val (.int p0), .val (.int p1)] [(.int (10 : Int32)), (.int p0)])) _
        refine XS.icmpYes X0.here hx rfl (pc0 := 9) (pc' := 22) rfl (hb hby d10_9) rfl (teq hc9_4).1 (by decide) (by decide) ?_
        show Steps p.tables e below (s₁.setTop (mkF m 22 #[.val (.int p0), .val (.int p1)] [])) _
        refine XS.iconst X0.here hx rfl (hb hby d10_22) ?_
        show Steps p.tables e below (s₁.setTop (mkF m 23 #[.val (.int p0), .val (.int p1)] [(.int (1 : Int32))])) _
        refine XS.goto X0.here hx rfl (pc0 := 23) (pc' := 27) rfl (hb hby d10_23) (by decide) (by decide) ?_
        show Steps p.tables e below (s₁.setTop (mkF m 27 #[.val (.int p0), .val (.int p1)] [(.int (1 : Int32))])) _
        exact retN X0 hx (t := .boolean) Bd.returns (by simp) (hb hby d10_27) hr
      · show Q10 Z p0 p1 h0 n0 _ s₁.heap _
        rw [e0]
        exact ⟨congrArg (fun q => some (Value.int q)) hv10.symm, N0, rfl⟩
    · have pre5 : ∀ t, Steps p.tables e below (s₁.setTop (mkF m 15 #[.val (.int p0), .val (.int p1)] [(.int (34 : Int32)), (.int p0)])) t → Steps p.tables e below (s₁.setTop (entryFrame m #[(.int p0), (.int p1)] 2)) t := fun t kt => pre3 t (by
          show Steps p.tables e below (s₁.setTop (mkF m 9 #[.val (.int p0), .val (.int p1)] [(.int (10 : Int32)), (.int p0)])) _
          refine XS.icmpNo X0.here hx rfl (hb hby d10_9) rfl (feq hc9_4).1 ?_
          show Steps p.tables e below (s₁.setTop (mkF m 12 #[.val (.int p0), .val (.int p1)] [])) _
          refine XS.iloadN X0.here hx rfl (hb hby d10_12) rfl ?_
          show Steps p.tables e below (s₁.setTop (mkF m 13 #[.val (.int p0), .val (.int p1)] [(.int p0)])) _
          refine XS.bipush X0.here hx rfl (hb hby d10_13) ?_
          exact kt)
      by_cases hc15_6 : p0 = (34 : Int32)
      · have pre7 : ∀ t, Steps p.tables e below (s₁.setTop (mkF m 19 #[.val (.int p0), .val (.int p1)] [(.int p1)])) t → Steps p.tables e below (s₁.setTop (entryFrame m #[(.int p0), (.int p1)] 2)) t := fun t kt => pre5 t (by
            show Steps p.tables e below (s₁.setTop (mkF m 15 #[.val (.int p0), .val (.int p1)] [(.int (34 : Int32)), (.int p0)])) _
            refine XS.icmpNo X0.here hx rfl (hb hby d10_15) rfl (teq hc15_6).2 ?_
            show Steps p.tables e below (s₁.setTop (mkF m 18 #[.val (.int p0), .val (.int p1)] [])) _
            refine XS.iloadN X0.here hx rfl (hb hby d10_18) rfl ?_
            exact kt)
        by_cases hc19_8 : p1 = (0 : Int32)
        · obtain ⟨fs, hr, hrun, hended, hW, hsame⟩ := X0.leave (v := some (.int (0 : Int32))) (fun h => by rw [Bd.returns] at h; cases h)
          have hv11 : (f10 p0 p1) = (0 : Int32) := by rw [f10, if_neg hc3_2, if_neg hc9_4, if_pos hc15_6, if_pos hc19_8]
          refine ⟨_, _, pre7 _ ?_, hrun, hended, _, _, rfl, ?_, ⟨_, rfl⟩, hW, hsame.mono (by decide) (by decide)⟩
          · show Steps p.tables e below (s₁.setTop (mkF m 19 #[.val (.int p0), .val (.int p1)] [(.int p1)])) _
            refine XS.ifYes X0.here hx rfl (pc0 := 19) (pc' := 26) rfl (hb hby d10_19) rfl ((if0 _ _).trans (teq hc19_8).1) (by decide) (by decide) ?_
            show Steps p.tables e below (s₁.setTop (mkF m 26 #[.val (.int p0), .val (.int p1)] [])) _
            refine XS.iconst X0.here hx rfl (hb hby d10_26) ?_
            show Steps p.tables e below (s₁.setTop (mkF m 27 #[.val (.int p0), .val (.int p1)] [(.int (0 : Int32))])) _
            exact retN X0 hx (t := .boolean) Bd.returns (by simp) (hb hby d10_27) hr
          · show Q10 Z p0 p1 h0 n0 _ s₁.heap _
            rw [e0]
            exact ⟨congrArg (fun q => some (Value.int q)) hv11.symm, N0, rfl⟩
        · obtain ⟨fs, hr, hrun, hended, hW, hsame⟩ := X0.leave (v := some (.int (1 : Int32))) (fun h => by rw [Bd.returns] at h; cases h)
          have hv12 : (f10 p0 p1) = (1 : Int32) := by rw [f10, if_neg hc3_2, if_neg hc9_4, if_pos hc15_6, if_neg hc19_8]
          refine ⟨_, _, pre7 _ ?_, hrun, hended, _, _, rfl, ?_, ⟨_, rfl⟩, hW, hsame.mono (by decide) (by decide)⟩
          · show Steps p.tables e below (s₁.setTop (mkF m 19 #[.val (.int p0), .val (.int p1)] [(.int p1)])) _
            refine XS.ifNo X0.here hx rfl (hb hby d10_19) rfl ((if0 _ _).trans (feq hc19_8).1) ?_
            show Steps p.tables e below (s₁.setTop (mkF m 22 #[.val (.int p0), .val (.int p1)] [])) _
            refine XS.iconst X0.here hx rfl (hb hby d10_22) ?_
            show Steps p.tables e below (s₁.setTop (mkF m 23 #[.val (.int p0), .val (.int p1)] [(.int (1 : Int32))])) _
            refine XS.goto X0.here hx rfl (pc0 := 23) (pc' := 27) rfl (hb hby d10_23) (by decide) (by decide) ?_
            show Steps p.tables e below (s₁.setTop (mkF m 27 #[.val (.int p0), .val (.int p1)] [(.int (1 : Int32))])) _
            exact retN X0 hx (t := .boolean) Bd.returns (by simp) (hb hby d10_27) hr
          · show Q10 Z p0 p1 h0 n0 _ s₁.heap _
            rw [e0]
            exact ⟨congrArg (fun q => some (Value.int q)) hv12.symm, N0, rfl⟩
      · obtain ⟨fs, hr, hrun, hended, hW, hsame⟩ := X0.leave (v := some (.int (0 : Int32))) (fun h => by rw [Bd.returns] at h; cases h)
        have hv13 : (f10 p0 p1) = (0 : Int32) := by rw [f10, if_neg hc3_2, if_neg hc9_4, if_neg hc15_6]
        refine ⟨_, _, pre5 _ ?_, hrun, hended, _, _, rfl, ?_, ⟨_, rfl⟩, hW, hsame.mono (by decide) (by decide)⟩
        · show Steps p.tables e below (s₁.setTop (mkF m 15 #[.val (.int p0), .val (.int p1)] [(.int (34 : Int32)), (.int p0)])) _
          refine XS.icmpYes X0.here hx rfl (pc0 := 15) (pc' := 26) rfl (hb hby d10_15) rfl (feq hc15_6).2 (by decide) (by decide) ?_
          show Steps p.tables e below (s₁.setTop (mkF m 26 #[.val (.int p0), .val (.int p1)] [])) _
          refine XS.iconst X0.here hx rfl (hb hby d10_26) ?_
          show Steps p.tables e below (s₁.setTop (mkF m 27 #[.val (.int p0), .val (.int p1)] [(.int (0 : Int32))])) _
          exact retN X0 hx (t := .boolean) Bd.returns (by simp) (hb hby d10_27) hr
        · show Q10 Z p0 p1 h0 n0 _ s₁.heap _
          rw [e0]
          exact ⟨congrArg (fun q => some (Value.int q)) hv13.symm, N0, rfl⟩
theorem d9_0 : decode prog_14_method_11_code 0 = .ok (.iconst 0, 1) := by decide +kernel
theorem d9_1 : decode prog_14_method_11_code 1 = .ok (.istore_n 2, 1) := by decide +kernel
theorem d9_2 : decode prog_14_method_11_code 2 = .ok (.aload_n 0, 1) := by decide +kernel
theorem d9_3 : decode prog_14_method_11_code 3 = .ok (.getfield 47, 3) := by decide +kernel
theorem d9_6 : decode prog_14_method_11_code 6 = .ok (.iload_n 1, 1) := by decide +kernel
theorem d9_7 : decode prog_14_method_11_code 7 = .ok (.baload, 1) := by decide +kernel
theorem d9_8 : decode prog_14_method_11_code 8 = .ok (.bipush 10, 2) := by decide +kernel
theorem d9_10 : decode prog_14_method_11_code 10 = .ok (.if_icmp .ne 19, 3) := by decide +kernel
theorem d9_13 : decode prog_14_method_11_code 13 = .ok (.aload_n 0, 1) := by decide +kernel
theorem d9_14 : decode prog_14_method_11_code 14 = .ok (.getfield 13, 3) := by decide +kernel
theorem d9_17 : decode prog_14_method_11_code 17 = .ok (.ifCond .ne 7, 3) := by decide +kernel
theorem d9_20 : decode prog_14_method_11_code 20 = .ok (.iconst 1, 1) := by decide +kernel
theorem d9_21 : decode prog_14_method_11_code 21 = .ok (.goto 4, 3) := by decide +kernel
theorem d9_24 : decode prog_14_method_11_code 24 = .ok (.iconst 0, 1) := by decide +kernel
theorem d9_25 : decode prog_14_method_11_code 25 = .ok (.istore_n 2, 1) := by decide +kernel
theorem d9_26 : decode prog_14_method_11_code 26 = .ok (.goto 47, 3) := by decide +kernel
theorem d9_29 : decode prog_14_method_11_code 29 = .ok (.aload_n 0, 1) := by decide +kernel
theorem d9_30 : decode prog_14_method_11_code 30 = .ok (.getfield 13, 3) := by decide +kernel
theorem d9_33 : decode prog_14_method_11_code 33 = .ok (.ifCond .eq 16, 3) := by decide +kernel
theorem d9_36 : decode prog_14_method_11_code 36 = .ok (.aload_n 0, 1) := by decide +kernel
theorem d9_37 : decode prog_14_method_11_code 37 = .ok (.iconst 0, 1) := by decide +kernel
theorem d9_38 : decode prog_14_method_11_code 38 = .ok (.putfield 13, 3) := by decide +kernel
theorem d9_41 : decode prog_14_method_11_code 41 = .ok (.aload_n 0, 1) := by decide +kernel
theorem d9_42 : decode prog_14_method_11_code 42 = .ok (.iconst 1, 1) := by decide +kernel
theorem d9_43 : decode prog_14_method_11_code 43 = .ok (.putfield 57, 3) := by decide +kernel
theorem d9_46 : decode prog_14_method_11_code 46 = .ok (.goto 27, 3) := by decide +kernel
theorem d9_49 : decode prog_14_method_11_code 49 = .ok (.aload_n 0, 1) := by decide +kernel
theorem d9_50 : decode prog_14_method_11_code 50 = .ok (.aload_n 0, 1) := by decide +kernel
theorem d9_51 : decode prog_14_method_11_code 51 = .ok (.getfield 47, 3) := by decide +kernel
theorem d9_54 : decode prog_14_method_11_code 54 = .ok (.iload_n 1, 1) := by decide +kernel
theorem d9_55 : decode prog_14_method_11_code 55 = .ok (.iconst 1, 1) := by decide +kernel
theorem d9_56 : decode prog_14_method_11_code 56 = .ok (.isub, 1) := by decide +kernel
theorem d9_57 : decode prog_14_method_11_code 57 = .ok (.baload, 1) := by decide +kernel
theorem d9_58 : decode prog_14_method_11_code 58 = .ok (.aload_n 0, 1) := by decide +kernel
theorem d9_59 : decode prog_14_method_11_code 59 = .ok (.getfield 57, 3) := by decide +kernel
theorem d9_62 : decode prog_14_method_11_code 62 = .ok (.invokestatic 99, 3) := by decide +kernel
theorem d9_65 : decode prog_14_method_11_code 65 = .ok (.putfield 13, 3) := by decide +kernel
theorem d9_68 : decode prog_14_method_11_code 68 = .ok (.aload_n 0, 1) := by decide +kernel
theorem d9_69 : decode prog_14_method_11_code 69 = .ok (.iconst 0, 1) := by decide +kernel
theorem d9_70 : decode prog_14_method_11_code 70 = .ok (.putfield 57, 3) := by decide +kernel
theorem d9_73 : decode prog_14_method_11_code 73 = .ok (.iload_n 2, 1) := by decide +kernel
theorem d9_74 : decode prog_14_method_11_code 74 = .ok (.ireturn, 1) := by decide +kernel
theorem pn_9 : plainName "com/example/cistern/cistern/io/CsvReader" = true := by first | (simp [plainName, overriddenIn]; done) | decide +kernel
theorem pd_9_0 : parseMethodDescriptor "(BZ)Z" = some ⟨[.byte, .boolean], some .boolean⟩ := by decide +kernel
theorem ef_9 (m : MethodId) (x0 : Addr) (x1 : Int32) : entryFrame m #[(.ref x0), (.int x1)] 3 = mkF m 0 #[.val (.ref x0), .val (.int x1), .unset] [] := by first | (simp [entryFrame, mkF, argsToLocals, Value.category]; done) | rfl
def f9 (p1 : Int32) (vq : Int32) (F : Nat → Int32) : Int32 :=
  if (F (p1).toNatClampNeg) = (10 : Int32) then (if vq = (0 : Int32) then ((1 : Int32)) else
  ((0 : Int32))) else
  (if vq = (0 : Int32) then ((0 : Int32)) else
  ((0 : Int32)))
def f9_h__quoted (p1 : Int32) (vq : Int32) (vc : Int32) (F : Nat → Int32) : Int32 :=
  if (F (p1).toNatClampNeg) = (10 : Int32) then (if vq = (0 : Int32) then (vq) else
  (vq)) else
  (if vq = (0 : Int32) then ((nar .boolean (f10 (F ((p1 - (1 : Int32))).toNatClampNeg) vc))) else
  ((0 : Int32)))
def f9_h__closed (p1 : Int32) (vq : Int32) (vc : Int32) (F : Nat → Int32) : Int32 :=
  if (F (p1).toNatClampNeg) = (10 : Int32) then (if vq = (0 : Int32) then (vc) else
  (vc)) else
  (if vq = (0 : Int32) then ((0 : Int32)) else
  ((1 : Int32)))
theorem own_e0 {p q : Int32} {F : Nat → Int32} (h : F p.toNatClampNeg = (34 : Int32)) : f9 p q F = (0 : Int32) := by
  unfold f9
  rw [if_neg (by rw [h]; decide)]
  split <;> rfl
theorem own_e1 {p q : Int32} {F : Nat → Int32} (h : F p.toNatClampNeg = (10 : Int32)) (hq : q = (0 : Int32)) : ¬ f9 p q F = (0 : Int32) := by
  unfold f9
  rw [if_pos h, if_pos hq]
  decide
theorem own_e2 {p q : Int32} {F : Nat → Int32} (h : ¬ f9 p q F = (0 : Int32)) : q = (0 : Int32) := by
  unfold f9 at h
  by_cases hq : q = (0 : Int32)
  · exact hq
  · simp [hq] at h
def Q9 (Z : State) (o0 : Addr) (p1 : Int32) (r1 : Addr) (vq : Int32) (vc : Int32) (vs : Int32) (ve : Int32) (F : Nat → Int32) (h0 : Heap) (n0 : Nat) (v : Option Value) (h : Heap) (L : List Loc) : Prop := v = some (.int (f9 p1 vq F)) ∧ Fr n0 L ∧ Keep h0 h [o0] ∧ Fld Z h o0 "com/example/cistern/cistern/io/CsvReader" "_quoted" "Z" (.int (f9_h__quoted p1 vq vc F)) ∧ Fld Z h o0 "com/example/cistern/cistern/io/CsvReader" "_closed" "Z" (.int (f9_h__closed p1 vq vc F)) ∧ Fld Z h o0 "com/example/cistern/cistern/io/RecordReader" "_buffer" "[B" (.ref r1) ∧ Fld Z h o0 "com/example/cistern/cistern/io/RecordReader" "_start" "I" (.int vs) ∧ Fld Z h o0 "com/example/cistern/cistern/io/RecordReader" "_end" "I" (.int ve)
set_option maxRecDepth 65536 in
set_option maxHeartbeats 40000000 in
theorem rm9 (l : Launch) (Z : State) (a0 : Array Value) (hw : ∀ d ∈ tables_1, d.before a0 Z = true) (ws : List Jvm.Cond) (o0 : Addr) (p1 : Int32) (r1 : Addr) (vq : Int32) (vc : Int32) (vs : Int32) (ve : Int32) (F : Nat → Int32) (h0 : Heap) (n0 : Nat) (Z0 : n0 ≤ h0.size) (E_o0 : Exa Z h0 o0 "com/example/cistern/cistern/io/CsvReader") (F__buffer_o0 : Fld Z h0 o0 "com/example/cistern/cistern/io/RecordReader" "_buffer" "[B" (.ref r1)) (F__quoted_o0 : Fld Z h0 o0 "com/example/cistern/cistern/io/CsvReader" "_quoted" "Z" (.int vq)) (F__closed_o0 : Fld Z h0 o0 "com/example/cistern/cistern/io/CsvReader" "_closed" "Z" (.int vc)) (F__start_o0 : Fld Z h0 o0 "com/example/cistern/cistern/io/RecordReader" "_start" "I" (.int vs)) (F__end_o0 : Fld Z h0 o0 "com/example/cistern/cistern/io/RecordReader" "_end" "I" (.int ve)) (V_r1 : own_AI Z h0 r1 .byte (65537 : Int32) F) (ne_o0_r1 : o0 ≠ r1) (g_o0 : n0 ≤ o0) (h1 : ¬ p1 < 0 ∧ p1 < (65537 : Int32)) (h2 : ¬ (p1 - (1 : Int32)) < 0 ∧ (p1 - (1 : Int32)) < (65537 : Int32)) :
    MetFree l (⟨"com/example/cistern/cistern/io/CsvReader", "endsRecord", "(I)Z"⟩ : MethodName) (head1 (Jvm.Cond.code (⟨"com/example/cistern/cistern/io/CsvReader", "endsRecord", "(I)Z"⟩ : MethodName) prog_14_method_11_code 3 (some .boolean) :: ws) ({ frames := 1, cells := 0, slots := 0, locals := 14 } : Room)) (fun a U => a = #[(.ref o0), (.int p1)] ∧ Z.Warmed39 U.vm ∧ U.heap = h0) (fun _ _ _ _ _ => True) (fun _ U o U' => ∃ v L, o = .returned v ∧ Q9 Z o0 p1 r1 vq vc vs ve F h0 n0 v U'.heap L ∧ FrameEnd U o U' L ({ frames := 1, cells := 0, slots := 0, locals := 14 } : Room).cells ({ frames := 1, cells := 0, slots := 0, locals := 14 } : Room).slots) := by
  refine MetFree.of_bodySF (plainFor_of_name pn_9) hisR ?_
  intro p e s m args below meth c s₁ Bd hml0 hP hK
  obtain ⟨rfl, hZ, hh⟩ := hP
  have hx := Bd.exec
  have hby := Bd.bytes
  have hml : c.maxLocals = 3 := hml0
  have hown : s.vm.findClass "com/example/cistern/cistern/io/CsvReader" = some m.cls := findClass_of_methodNamed Bd.named
  have hnm := (name_of_methodNamed Bd.named Bd.method).1
  have X0 : Stand p l e ({ frames := 1, cells := 0, slots := 0, locals := 14 } : Room) s m #[(.ref o0), (.int p1)] below meth c s₁ [] 0 0 := Stand.of_body Bd
  have e0 : s₁.heap = h0 := by rw [← hh, Bd.state]; rfl
  have N0 := Fr.nil n0
  have pre0 : ∀ t, Steps p.tables e below (s₁.setTop (mkF m 0 #[.val (.ref o0), .val (.int p1), .unset] [])) t → Steps p.tables e below (s₁.setTop (entryFrame m #[(.ref o0), (.int p1)] 3)) t := fun t k => castTop (ef_9 m o0 p1) k
  obtain ⟨T1, X1, e1, st1⟩ := getF X0 hx hZ hown (host := "") (Or.inl (hw _ (List.mem_of_getElem? (i := 68) rfl))) (Via.of (hw _ (List.mem_of_getElem? (i := 51) rfl))) e0 F__buffer_o0 (g := (mkF m 3 #[.val (.ref o0), .val (.int p1), .val (.int (0 : Int32))] [(.ref o0)])) rfl rfl (hb hby d9_3)
  obtain ⟨cl2, Ar2, Sz2, Nn2, Hs2⟩ := id V_r1
  have hin2 : ¬ (p1 < 0 ∨ cl2.slots.size ≤ (p1).toNatClampNeg) := inb_of Sz2 h1
  have hat2 : cl2.slots[(p1).toNatClampNeg]? = some (.int (F (p1).toNatClampNeg)) := (Hs2 _ (own_lt hin2)).1
  have pre3 : ∀ t, Steps p.tables e below (T1.setTop (mkF m 10 #[.val (.ref o0), .val (.int p1), .val (.int (0 : Int32))] [(.int (10 : Int32)), (.int (F (p1).toNatClampNeg))])) t → Steps p.tables e below (s₁.setTop (entryFrame m #[(.ref o0), (.int p1)] 3)) t := fun t kt => pre0 t (by
      show Steps p.tables e below (s₁.setTop (mkF m 0 #[.val (.ref o0), .val (.int p1), .unset] [])) _
      refine XS.iconst X0.here hx rfl (hb hby d9_0) ?_
      show Steps p.tables e below (s₁.setTop (mkF m 1 #[.val (.ref o0), .val (.int p1), .unset] [(.int (0 : Int32))])) _
      refine XS.istoreN X0.here hx rfl (hb hby d9_1) rfl (l' := #[.val (.ref o0), .val (.int p1), .val (.int (0 : Int32))]) rfl ?_
      show Steps p.tables e below (s₁.setTop (mkF m 2 #[.val (.ref o0), .val (.int p1), .val (.int (0 : Int32))] [])) _
      refine XS.aloadN X0.here hx rfl (hb hby d9_2) rfl rfl ?_
      show Steps p.tables e below (s₁.setTop (mkF m 3 #[.val (.ref o0), .val (.int p1), .val (.int (0 : Int32))] [(.ref o0)])) _
      refine st1 _ ?_
      show Steps p.tables e below (T1.setTop (mkF m 6 #[.val (.ref o0), .val (.int p1), .val (.int (0 : Int32))] [(.ref r1)])) _
      refine XS.iloadN X1.here hx rfl (hb hby d9_6) rfl ?_
      show Steps p.tables e below (T1.setTop (mkF m 7 #[.val (.ref o0), .val (.int p1), .val (.int (0 : Int32))] [(.int p1), (.ref r1)])) _
      refine X1.baloadBytes hx (j := p1) (v := (.int (F (p1).toNatClampNeg))) (by rw [e1]; exact Ar2.1) (State.isArrayOf_alike hZ.alike Ar2.2.1) Ar2.2.2 hin2 hat2 (g := (mkF m 7 #[.val (.ref o0), .val (.int p1), .val (.int (0 : Int32))] [(.int p1), (.ref r1)])) rfl rfl (hb hby d9_7) _ ?_
      show Steps p.tables e below (T1.setTop (mkF m 8 #[.val (.ref o0), .val (.int p1), .val (.int (0 : Int32))] [(.int (F (p1).toNatClampNeg))])) _
      refine XS.bipush X1.here hx rfl (hb hby d9_8) ?_
      exact kt)
  by_cases hc10_4 : (F (p1).toNatClampNeg) = (10 : Int32)
  · obtain ⟨T5, X5, e5, st5⟩ := getF X1 hx hZ hown (host := "") (Or.inl (hw _ (List.mem_of_getElem? (i := 48) rfl))) Via.refl e1 F__quoted_o0 (g := (mkF m 14 #[.val (.ref o0), .val (.int p1), .val (.int (0 : Int32))] [(.ref o0)])) rfl rfl (hb hby d9_14)
    have pre6 : ∀ t, Steps p.tables e below (T5.setTop (mkF m 17 #[.val (.ref o0), .val (.int p1), .val (.int (0 : Int32))] [(.int vq)])) t → Steps p.tables e below (s₁.setTop (entryFrame m #[(.ref o0), (.int p1)] 3)) t := fun t kt => pre3 t (by
        show Steps p.tables e below (T1.setTop (mkF m 10 #[.val (.ref o0), .val (.int p1), .val (.int (0 : Int32))] [(.int (10 : Int32)), (.int (F (p1).toNatClampNeg))])) _
        refine XS.icmpNo X1.here hx rfl (hb hby d9_10) rfl (teq hc10_4).2 ?_
        show Steps p.tables e below (T1.setTop (mkF m 13 #[.val (.ref o0), .val (.int p1), .val (.int (0 : Int32))] [])) _
        refine XS.aloadN X1.here hx rfl (hb hby d9_13) rfl rfl ?_
        show Steps p.tables e below (T1.setTop (mkF m 14 #[.val (.ref o0), .val (.int p1), .val (.int (0 : Int32))] [(.ref o0)])) _
        refine st5 _ ?_
        exact kt)
    by_cases hc17_7 : vq = (0 : Int32)
    · obtain ⟨fs, hr, hrun, hended, hW, hsame⟩ := X5.leave (v := some (.int (1 : Int32))) (fun h => by rw [Bd.returns] at h; cases h)
      have hv29 : (f9 p1 vq F) = (1 : Int32) := by rw [f9, if_pos hc10_4, if_pos hc17_7]
      refine ⟨_, _, pre6 _ ?_, hrun, hended, _, _, rfl, ?_, ⟨_, rfl⟩, hW, hsame.mono (by decide) (by decide)⟩
      · show Steps p.tables e below (T5.setTop (mkF m 17 #[.val (.ref o0), .val (.int p1), .val (.int (0 : Int32))] [(.int vq)])) _
        refine XS.ifNo X5.here hx rfl (hb hby d9_17) rfl ((if0 _ _).trans (teq hc17_7).2) ?_
        show Steps p.tables e below (T5.setTop (mkF m 20 #[.val (.ref o0), .val (.int p1), .val (.int (0 : Int32))] [])) _
        refine XS.iconst X5.here hx rfl (hb hby d9_20) ?_
        show Steps p.tables e below (T5.setTop (mkF m 21 #[.val (.ref o0), .val (.int p1), .val (.int (0 : Int32))] [(.int (1 : Int32))])) _
        refine XS.goto X5.here hx rfl (pc0 := 21) (pc' := 25) rfl (hb hby d9_21) (by decide) (by decide) ?_
        show Steps p.tables e below (T5.setTop (mkF m 25 #[.val (.ref o0), .val (.int p1), .val (.int (0 : Int32))] [(.int (1 : Int32))])) _
        refine XS.istoreN X5.here hx rfl (hb hby d9_25) rfl (l' := #[.val (.ref o0), .val (.int p1), .val (.int (1 : Int32))]) rfl ?_
        show Steps p.tables e below (T5.setTop (mkF m 26 #[.val (.ref o0), .val (.int p1), .val (.int (1 : Int32))] [])) _
        refine XS.goto X5.here hx rfl (pc0 := 26) (pc' := 73) rfl (hb hby d9_26) (by decide) (by decide) ?_
        show Steps p.tables e below (T5.setTop (mkF m 73 #[.val (.ref o0), .val (.int p1), .val (.int (1 : Int32))] [])) _
        refine XS.iloadN X5.here hx rfl (hb hby d9_73) rfl ?_
        show Steps p.tables e below (T5.setTop (mkF m 74 #[.val (.ref o0), .val (.int p1), .val (.int (1 : Int32))] [(.int (1 : Int32))])) _
        exact retN X5 hx (t := .boolean) Bd.returns (by simp) (hb hby d9_74) hr
      · show Q9 Z o0 p1 r1 vq vc vs ve F h0 n0 _ T5.heap _
        rw [e5]
        exact ⟨congrArg (fun q => some (Value.int q)) hv29.symm, N0, (Keep.refl h0 [o0]), (by rw [f9_h__quoted, if_pos hc10_4, if_pos hc17_7]; exact F__quoted_o0), (by rw [f9_h__closed, if_pos hc10_4, if_pos hc17_7]; exact F__closed_o0), F__buffer_o0, F__start_o0, F__end_o0⟩
    · obtain ⟨fs, hr, hrun, hended, hW, hsame⟩ := X5.leave (v := some (.int (0 : Int32))) (fun h => by rw [Bd.returns] at h; cases h)
      have hv30 : (f9 p1 vq F) = (0 : Int32) := by rw [f9, if_pos hc10_4, if_neg hc17_7]
      refine ⟨_, _, pre6 _ ?_, hrun, hended, _, _, rfl, ?_, ⟨_, rfl⟩, hW, hsame.mono (by decide) (by decide)⟩
      · show Steps p.tables e below (T5.setTop (mkF m 17 #[.val (.ref o0), .val (.int p1), .val (.int (0 : Int32))] [(.int vq)])) _
        refine XS.ifYes X5.here hx rfl (pc0 := 17) (pc' := 24) rfl (hb hby d9_17) rfl ((if0 _ _).trans (feq hc17_7).2) (by decide) (by decide) ?_
        show Steps p.tables e below (T5.setTop (mkF m 24 #[.val (.ref o0), .val (.int p1), .val (.int (0 : Int32))] [])) _
        refine XS.iconst X5.here hx rfl (hb hby d9_24) ?_
        show Steps p.tables e below (T5.setTop (mkF m 25 #[.val (.ref o0), .val (.int p1), .val (.int (0 : Int32))] [(.int (0 : Int32))])) _
        refine XS.istoreN X5.here hx rfl (hb hby d9_25) rfl (l' := #[.val (.ref o0), .val (.int p1), .val (.int (0 : Int32))]) rfl ?_
        show Steps p.tables e below (T5.setTop (mkF m 26 #[.val (.ref o0), .val (.int p1), .val (.int (0 : Int32))] [])) _
        refine XS.goto X5.here hx rfl (pc0 := 26) (pc' := 73) rfl (hb hby d9_26) (by decide) (by decide) ?_
        show Steps p.tables e below (T5.setTop (mkF m 73 #[.val (.ref o0), .val (.int p1), .val (.int (0 : Int32))] [])) _
        refine XS.iloadN X5.here hx rfl (hb hby d9_73) rfl ?_
        show Steps p.tables e below (T5.setTop (mkF m 74 #[.val (.ref o0), .val (.int p1), .val (.int (0 : Int32))] [(.int (0 : Int32))])) _
        exact retN X5 hx (t := .boolean) Bd.returns (by simp) (hb hby d9_74) hr
      · show Q9 Z o0 p1 r1 vq vc vs ve F h0 n0 _ T5.heap _
        rw [e5]
        exact ⟨congrArg (fun q => some (Value.int q)) hv30.symm, N0, (Keep.refl h0 [o0]), (by rw [f9_h__quoted, if_pos hc10_4, if_neg hc17_7]; exact F__quoted_o0), (by rw [f9_h__closed, if_pos hc10_4, if_neg hc17_7]; exact F__closed_o0), F__buffer_o0, F__start_o0, F__end_o0⟩
  · obtain ⟨T8, X8, e8, st8⟩ := getF X1 hx hZ hown (host := "") (Or.inl (hw _ (List.mem_of_getElem? (i := 48) rfl))) Via.refl e1 F__quoted_o0 (g := (mkF m 30 #[.val (.ref o0), .val (.int p1), .val (.int (0 : Int32))] [(.ref o0)])) rfl rfl (hb hby d9_30)
    have pre9 : ∀ t, Steps p.tables e below (T8.setTop (mkF m 33 #[.val (.ref o0), .val (.int p1), .val (.int (0 : Int32))] [(.int vq)])) t → Steps p.tables e below (s₁.setTop (entryFrame m #[(.ref o0), (.int p1)] 3)) t := fun t kt => pre3 t (by
        show Steps p.tables e below (T1.setTop (mkF m 10 #[.val (.ref o0), .val (.int p1), .val (.int (0 : Int32))] [(.int (10 : Int32)), (.int (F (p1).toNatClampNeg))])) _
        refine XS.icmpYes X1.here hx rfl (pc0 := 10) (pc' := 29) rfl (hb hby d9_10) rfl (feq hc10_4).2 (by decide) (by decide) ?_
        show Steps p.tables e below (T1.setTop (mkF m 29 #[.val (.ref o0), .val (.int p1), .val (.int (0 : Int32))] [])) _
        refine XS.aloadN X1.here hx rfl (hb hby d9_29) rfl rfl ?_
        show Steps p.tables e below (T1.setTop (mkF m 30 #[.val (.ref o0), .val (.int p1), .val (.int (0 : Int32))] [(.ref o0)])) _
        refine st8 _ ?_
        exact kt)
    by_cases hc33_10 : vq = (0 : Int32)
    · obtain ⟨T11, X11, e11, st11⟩ := getF X8 hx hZ hown (host := "") (Or.inl (hw _ (List.mem_of_getElem? (i := 68) rfl))) (Via.of (hw _ (List.mem_of_getElem? (i := 51) rfl))) e8 F__buffer_o0 (g := (mkF m 51 #[.val (.ref o0), .val (.int p1), .val (.int (0 : Int32))] [(.ref o0), (.ref o0)])) rfl rfl (hb hby d9_51)
      obtain ⟨cl12, Ar12, Sz12, Nn12, Hs12⟩ := id V_r1
      have hin12 : ¬ ((p1 - (1 : Int32)) < 0 ∨ cl12.slots.size ≤ ((p1 - (1 : Int32))).toNatClampNeg) := inb_of Sz12 h2
      have hat12 : cl12.slots[((p1 - (1 : Int32))).toNatClampNeg]? = some (.int (F ((p1 - (1 : Int32))).toNatClampNeg)) := (Hs12 _ (own_lt hin12)).1
      obtain ⟨T13, X13, e13, st13⟩ := getF X11 hx hZ hown (host := "") (Or.inl (hw _ (List.mem_of_getElem? (i := 73) rfl))) Via.refl e11 F__closed_o0 (g := (mkF m 59 #[.val (.ref o0), .val (.int p1), .val (.int (0 : Int32))] [(.ref o0), (.int (F ((p1 - (1 : Int32))).toNatClampNeg)), (.ref o0)])) rfl rfl (hb hby d9_59)
      obtain ⟨_, _, ⟨T14, L14, k14, n14⟩, -, X14, ⟨Lc14, hQ14, l14, y14, z14⟩, st14⟩ := Jvm.LawKit.callS X13 hx (y := (⟨"com/example/cistern/cistern/io/CsvReader", "opensField", "(BZ)Z"⟩ : MethodName)) hown (mvT hZ (hw _ (List.mem_of_getElem? (i := 75) rfl))) (mvT hZ (hw _ (List.mem_of_getElem? (i := 76) rfl))) (mvT hZ (hw _ (List.mem_of_getElem? (i := 6) rfl))) (mvT hZ (hw _ (List.mem_of_getElem? (i := 77) rfl))) (by decide) (backOf (W := 1) (rm10 l Z a0 hw [] (F ((p1 - (1 : Int32))).toNatClampNeg) vc h0 n0 Z0 ) hZ (hw _ (List.mem_of_getElem? (i := 77) rfl)) (hw _ (List.mem_of_getElem? (i := 6) rfl)) (by decide) (by decide)) (g := (mkF m 62 #[.val (.ref o0), .val (.int p1), .val (.int (0 : Int32))] [(.int vc), (.int (F ((p1 - (1 : Int32))).toNatClampNeg)), (.ref o0)])) rfl (by rw [hml]; rfl) (argsL := [(.int (F ((p1 - (1 : Int32))).toNatClampNeg)), (.int vc)]) (rest := [(.ref o0)]) (lenOf pd_9_0 rfl) rfl (by show 2 * 0 + _ ≤ _; exact Nat.le_of_eq rfl) (hb hby d9_62) (fun _ _ => ⟨rfl, e13, (by decide : 0 + 0 ≤ _), (by decide : 0 + 0 ≤ _)⟩)
      dsimp only [Pt.U, Pt.locs, Pt.cells, Pt.slots] at X14 l14 y14 z14 st14 hQ14
      subst l14 y14 z14
      obtain ⟨rfl, N14q, e14q⟩ := hQ14
      have N14 := Fr.app N0 N14q
      obtain ⟨T15, h15, X15, e15, W15, st15⟩ := putFN X14 hx hZ hown (hw _ (List.mem_of_getElem? (i := 48) rfl)) Via.refl e14q F__quoted_o0 E_o0 (Or.inl (hw _ (List.mem_of_getElem? (i := 49) rfl))) (hw _ (List.mem_of_getElem? (i := 5) rfl)) (ty := .boolean) (v' := (.int (nar .boolean (f10 (F ((p1 - (1 : Int32))).toNatClampNeg) vc)))) (by decide) rfl (fits_nar_bool (f10 (F ((p1 - (1 : Int32))).toNatClampNeg) vc)) (g := (mkF m 65 #[.val (.ref o0), .val (.int p1), .val (.int (0 : Int32))] [(.int (f10 (F ((p1 - (1 : Int32))).toNatClampNeg) vc)), (.ref o0)])) rfl rfl (hb hby d9_65)
      have Fw15 := F__quoted_o0.same W15
      have K16 : Keep h0 h15 [o0] := (Keep.refl h0 [o0]).wr W15 (Or.inl (List.mem_of_getElem? (i := 0) rfl))
      have Z17 : n0 ≤ h15.size := Nat.le_trans Z0 K16.1
      have N15 := Fr.snoc X15 N14 g_o0
      obtain ⟨LS15, X15, N15⟩ : ∃ L, Stand p l e ({ frames := 1, cells := 0, slots := 0, locals := 14 } : Room) s m #[(.ref o0), (.int p1)] below meth c T15 L 0 0 ∧ Fr n0 L := ⟨_, X15, N15⟩
      have c18 := (F__closed_o0.other W15 (Or.inr (slot_ne (Or.inl (hw _ (List.mem_of_getElem? (i := 74) rfl))) (Or.inl (hw _ (List.mem_of_getElem? (i := 49) rfl))) (by decide) (t := .boolean) (t' := .boolean) (by decide) (by decide))))
      obtain ⟨T19, h19, X19, e19, W19, st19⟩ := putFN X15 hx hZ hown (hw _ (List.mem_of_getElem? (i := 73) rfl)) Via.refl e15 c18 (E_o0.wr W15) (Or.inl (hw _ (List.mem_of_getElem? (i := 74) rfl))) (hw _ (List.mem_of_getElem? (i := 5) rfl)) (ty := .boolean) (v' := (.int (0 : Int32))) (by decide) rfl (fits_nar_bool (0 : Int32)) (g := (mkF m 70 #[.val (.ref o0), .val (.int p1), .val (.int (0 : Int32))] [(.int (0 : Int32)), (.ref o0)])) rfl rfl (hb hby d9_70)
      have Fw19 := c18.same W19
      have K20 : Keep h0 h19 [o0] := K16.wr W19 (Or.inl (List.mem_of_getElem? (i := 0) rfl))
      have Z21 : n0 ≤ h19.size := Nat.le_trans Z0 K20.1
      have N19 := Fr.snoc X19 N15 g_o0
      obtain ⟨LS19, X19, N19⟩ : ∃ L, Stand p l e ({ frames := 1, cells := 0, slots := 0, locals := 14 } : Room) s m #[(.ref o0), (.int p1)] below meth c T19 L 0 0 ∧ Fr n0 L := ⟨_, X19, N19⟩
      obtain ⟨fs, hr, hrun, hended, hW, hsame⟩ := X19.leave (v := some (.int (0 : Int32))) (fun h => by rw [Bd.returns] at h; cases h)
      have hv31 : (f9 p1 vq F) = (0 : Int32) := by rw [f9, if_neg hc10_4, if_pos hc33_10]
      have c32 := (Fw15.other W19 (Or.inr (slot_ne (Or.inl (hw _ (List.mem_of_getElem? (i := 49) rfl))) (Or.inl (hw _ (List.mem_of_getElem? (i := 74) rfl))) (by decide) (t := .boolean) (t' := .boolean) (by decide) (by decide))))
      have c33 := ((F__buffer_o0.other W15 (Or.inr (slot_ne (Or.inr (hw _ (List.mem_of_getElem? (i := 21) rfl))) (Or.inl (hw _ (List.mem_of_getElem? (i := 49) rfl))) (by decide) (t := (.array .byte)) (t' := .boolean) (by decide) (by decide)))).other W19 (Or.inr (slot_ne (Or.inr (hw _ (List.mem_of_getElem? (i := 21) rfl))) (Or.inl (hw _ (List.mem_of_getElem? (i := 74) rfl))) (by decide) (t := (.array .byte)) (t' := .boolean) (by decide) (by decide))))
      have c34 := ((F__start_o0.other W15 (Or.inr (slot_ne (Or.inl (hw _ (List.mem_of_getElem? (i := 23) rfl))) (Or.inl (hw _ (List.mem_of_getElem? (i := 49) rfl))) (by decide) (t := .int) (t' := .boolean) (by decide) (by decide)))).other W19 (Or.inr (slot_ne (Or.inl (hw _ (List.mem_of_getElem? (i := 23) rfl))) (Or.inl (hw _ (List.mem_of_getElem? (i := 74) rfl))) (by decide) (t := .int) (t' := .boolean) (by decide) (by decide))))
      have c35 := ((F__end_o0.other W15 (Or.inr (slot_ne (Or.inl (hw _ (List.mem_of_getElem? (i := 25) rfl))) (Or.inl (hw _ (List.mem_of_getElem? (i := 49) rfl))) (by decide) (t := .int) (t' := .boolean) (by decide) (by decide)))).other W19 (Or.inr (slot_ne (Or.inl (hw _ (List.mem_of_getElem? (i := 25) rfl))) (Or.inl (hw _ (List.mem_of_getElem? (i := 74) rfl))) (by decide) (t := .int) (t' := .boolean) (by decide) (by decide))))
      refine ⟨_, _, pre9 _ ?_, hrun, hended, _, _, rfl, ?_, ⟨_, rfl⟩, hW, hsame.mono (by decide) (by decide)⟩
      · show Steps p.tables e below (T8.setTop (mkF m 33 #[.val (.ref o0), .val (.int p1), .val (.int (0 : Int32))] [(.int vq)])) _
        refine XS.ifYes X8.here hx rfl (pc0 := 33) (pc' := 49) rfl (hb hby d9_33) rfl ((if0 _ _).trans (teq hc33_10).1) (by decide) (by decide) ?_
        show Steps p.tables e below (T8.setTop (mkF m 49 #[.val (.ref o0), .val (.int p1), .val (.int (0 : Int32))] [])) _
        refine XS.aloadN X8.here hx rfl (hb hby d9_49) rfl rfl ?_
        show Steps p.tables e below (T8.setTop (mkF m 50 #[.val (.ref o0), .val (.int p1), .val (.int (0 : Int32))] [(.ref o0)])) _
        refine XS.aloadN X8.here hx rfl (hb hby d9_50) rfl rfl ?_
        show Steps p.tables e below (T8.setTop (mkF m 51 #[.val (.ref o0), .val (.int p1), .val (.int (0 : Int32))] [(.ref o0), (.ref o0)])) _
        refine st11 _ ?_
        show Steps p.tables e below (T11.setTop (mkF m 54 #[.val (.ref o0), .val (.int p1), .val (.int (0 : Int32))] [(.ref r1), (.ref o0)])) _
        refine XS.iloadN X11.here hx rfl (hb hby d9_54) rfl ?_
        show Steps p.tables e below (T11.setTop (mkF m 55 #[.val (.ref o0), .val (.int p1), .val (.int (0 : Int32))] [(.int p1), (.ref r1), (.ref o0)])) _
        refine XS.iconst X11.here hx rfl (hb hby d9_55) ?_
        show Steps p.tables e below (T11.setTop (mkF m 56 #[.val (.ref o0), .val (.int p1), .val (.int (0 : Int32))] [(.int (1 : Int32)), (.int p1), (.ref r1), (.ref o0)])) _
        refine XS.isub X11.here hx rfl (hb hby d9_56) rfl ?_
        show Steps p.tables e below (T11.setTop (mkF m 57 #[.val (.ref o0), .val (.int p1), .val (.int (0 : Int32))] [(.int (p1 - (1 : Int32))), (.ref r1), (.ref o0)])) _
        refine X11.baloadBytes hx (j := (p1 - (1 : Int32))) (v := (.int (F ((p1 - (1 : Int32))).toNatClampNeg))) (by rw [e11]; exact Ar12.1) (State.isArrayOf_alike hZ.alike Ar12.2.1) Ar12.2.2 hin12 hat12 (g := (mkF m 57 #[.val (.ref o0), .val (.int p1), .val (.int (0 : Int32))] [(.int (p1 - (1 : Int32))), (.ref r1), (.ref o0)])) rfl rfl (hb hby d9_57) _ ?_
        show Steps p.tables e below (T11.setTop (mkF m 58 #[.val (.ref o0), .val (.int p1), .val (.int (0 : Int32))] [(.int (F ((p1 - (1 : Int32))).toNatClampNeg)), (.ref o0)])) _
        refine XS.aloadN X11.here hx rfl (hb hby d9_58) rfl rfl ?_
        show Steps p.tables e below (T11.setTop (mkF m 59 #[.val (.ref o0), .val (.int p1), .val (.int (0 : Int32))] [(.ref o0), (.int (F ((p1 - (1 : Int32))).toNatClampNeg)), (.ref o0)])) _
        refine st13 _ ?_
        show Steps p.tables e below (T13.setTop (mkF m 62 #[.val (.ref o0), .val (.int p1), .val (.int (0 : Int32))] [(.int vc), (.int (F ((p1 - (1 : Int32))).toNatClampNeg)), (.ref o0)])) _
        refine st14 _ ?_
        show Steps p.tables e below (T14.setTop (mkF m 65 #[.val (.ref o0), .val (.int p1), .val (.int (0 : Int32))] [(.int (f10 (F ((p1 - (1 : Int32))).toNatClampNeg) vc)), (.ref o0)])) _
        refine st15 _ ?_
        show Steps p.tables e below (T15.setTop (mkF m 68 #[.val (.ref o0), .val (.int p1), .val (.int (0 : Int32))] [])) _
        refine XS.aloadN X15.here hx rfl (hb hby d9_68) rfl rfl ?_
        show Steps p.tables e below (T15.setTop (mkF m 69 #[.val (.ref o0), .val (.int p1), .val (.int (0 : Int32))] [(.ref o0)])) _
        refine XS.iconst X15.here hx rfl (hb hby d9_69) ?_
        show Steps p.tables e below (T15.setTop (mkF m 70 #[.val (.ref o0), .val (.int p1), .val (.int (0 : Int32))] [(.int (0 : Int32)), (.ref o0)])) _
        refine st19 _ ?_
        show Steps p.tables e below (T19.setTop (mkF m 73 #[.val (.ref o0), .val (.int p1), .val (.int (0 : Int32))] [])) _
        refine XS.iloadN X19.here hx rfl (hb hby d9_73) rfl ?_
        show Steps p.tables e below (T19.setTop (mkF m 74 #[.val (.ref o0), .val (.int p1), .val (.int (0 : Int32))] [(.int (0 : Int32))])) _
        exact retN X19 hx (t := .boolean) Bd.returns (by simp) (hb hby d9_74) hr
      · show Q9 Z o0 p1 r1 vq vc vs ve F h0 n0 _ T19.heap _
        rw [e19]
        exact ⟨congrArg (fun q => some (Value.int q)) hv31.symm, N19, K20, (by rw [f9_h__quoted, if_neg hc10_4, if_pos hc33_10]; exact c32), (by rw [f9_h__closed, if_neg hc10_4, if_pos hc33_10]; exact Fw19), c33, c34, c35⟩
    · obtain ⟨T22, h22, X22, e22, W22, st22⟩ := putFN X8 hx hZ hown (hw _ (List.mem_of_getElem? (i := 48) rfl)) Via.refl e8 F__quoted_o0 E_o0 (Or.inl (hw _ (List.mem_of_getElem? (i := 49) rfl))) (hw _ (List.mem_of_getElem? (i := 5) rfl)) (ty := .boolean) (v' := (.int (0 : Int32))) (by decide) rfl (fits_nar_bool (0 : Int32)) (g := (mkF m 38 #[.val (.ref o0), .val (.int p1), .val (.int (0 : Int32))] [(.int (0 : Int32)), (.ref o0)])) rfl rfl (hb hby d9_38)
      have Fw22 := F__quoted_o0.same W22
      have K23 : Keep h0 h22 [o0] := (Keep.refl h0 [o0]).wr W22 (Or.inl (List.mem_of_getElem? (i := 0) rfl))
      have Z24 : n0 ≤ h22.size := Nat.le_trans Z0 K23.1
      have N22 := Fr.snoc X22 N0 g_o0
      obtain ⟨LS22, X22, N22⟩ : ∃ L, Stand p l e ({ frames := 1, cells := 0, slots := 0, locals := 14 } : Room) s m #[(.ref o0), (.int p1)] below meth c T22 L 0 0 ∧ Fr n0 L := ⟨_, X22, N22⟩
      have c25 := (F__closed_o0.other W22 (Or.inr (slot_ne (Or.inl (hw _ (List.mem_of_getElem? (i := 74) rfl))) (Or.inl (hw _ (List.mem_of_getElem? (i := 49) rfl))) (by decide) (t := .boolean) (t' := .boolean) (by decide) (by decide))))
      obtain ⟨T26, h26, X26, e26, W26, st26⟩ := putFN X22 hx hZ hown (hw _ (List.mem_of_getElem? (i := 73) rfl)) Via.refl e22 c25 (E_o0.wr W22) (Or.inl (hw _ (List.mem_of_getElem? (i := 74) rfl))) (hw _ (List.mem_of_getElem? (i := 5) rfl)) (ty := .boolean) (v' := (.int (1 : Int32))) (by decide) rfl (fits_nar_bool (1 : Int32)) (g := (mkF m 43 #[.val (.ref o0), .val (.int p1), .val (.int (0 : Int32))] [(.int (1 : Int32)), (.ref o0)])) rfl rfl (hb hby d9_43)
      have Fw26 := c25.same W26
      have K27 : Keep h0 h26 [o0] := K23.wr W26 (Or.inl (List.mem_of_getElem? (i := 0) rfl))
      have Z28 : n0 ≤ h26.size := Nat.le_trans Z0 K27.1
      have N26 := Fr.snoc X26 N22 g_o0
      obtain ⟨LS26, X26, N26⟩ : ∃ L, Stand p l e ({ frames := 1, cells := 0, slots := 0, locals := 14 } : Room) s m #[(.ref o0), (.int p1)] below meth c T26 L 0 0 ∧ Fr n0 L := ⟨_, X26, N26⟩
      obtain ⟨fs, hr, hrun, hended, hW, hsame⟩ := X26.leave (v := some (.int (0 : Int32))) (fun h => by rw [Bd.returns] at h; cases h)
      have hv36 : (f9 p1 vq F) = (0 : Int32) := by rw [f9, if_neg hc10_4, if_neg hc33_10]
      have c37 := (Fw22.other W26 (Or.inr (slot_ne (Or.inl (hw _ (List.mem_of_getElem? (i := 49) rfl))) (Or.inl (hw _ (List.mem_of_getElem? (i := 74) rfl))) (by decide) (t := .boolean) (t' := .boolean) (by decide) (by decide))))
      have c38 := ((F__buffer_o0.other W22 (Or.inr (slot_ne (Or.inr (hw _ (List.mem_of_getElem? (i := 21) rfl))) (Or.inl (hw _ (List.mem_of_getElem? (i := 49) rfl))) (by decide) (t := (.array .byte)) (t' := .boolean) (by decide) (by decide)))).other W26 (Or.inr (slot_ne (Or.inr (hw _ (List.mem_of_getElem? (i := 21) rfl))) (Or.inl (hw _ (List.mem_of_getElem? (i := 74) rfl))) (by decide) (t := (.array .byte)) (t' := .boolean) (by decide) (by decide))))
      have c39 := ((F__start_o0.other W22 (Or.inr (slot_ne (Or.inl (hw _ (List.mem_of_getElem? (i := 23) rfl))) (Or.inl (hw _ (List.mem_of_getElem? (i := 49) rfl))) (by decide) (t := .int) (t' := .boolean) (by decide) (by decide)))).other W26 (Or.inr (slot_ne (Or.inl (hw _ (List.mem_of_getElem? (i := 23) rfl))) (Or.inl (hw _ (List.mem_of_getElem? (i := 74) rfl))) (by decide) (t := .int) (t' := .boolean) (by decide) (by decide))))
      have c40 := ((F__end_o0.other W22 (Or.inr (slot_ne (Or.inl (hw _ (List.mem_of_getElem? (i := 25) rfl))) (Or.inl (hw _ (List.mem_of_getElem? (i := 49) rfl))) (by decide) (t := .int) (t' := .boolean) (by decide) (by decide)))).other W26 (Or.inr (slot_ne (Or.inl (hw _ (List.mem_of_getElem? (i := 25) rfl))) (Or.inl (hw _ (List.mem_of_getElem? (i := 74) rfl))) (by decide) (t := .int) (t' := .boolean) (by decide) (by decide))))
      refine ⟨_, _, pre9 _ ?_, hrun, hended, _, _, rfl, ?_, ⟨_, rfl⟩, hW, hsame.mono (by decide) (by decide)⟩
      · show Steps p.tables e below (T8.setTop (mkF m 33 #[.val (.ref o0), .val (.int p1), .val (.int (0 : Int32))] [(.int vq)])) _
        refine XS.ifNo X8.here hx rfl (hb hby d9_33) rfl ((if0 _ _).trans (feq hc33_10).1) ?_
        show Steps p.tables e below (T8.setTop (mkF m 36 #[.val (.ref o0), .val (.int p1), .val (.int (0 : Int32))] [])) _
        refine XS.aloadN X8.here hx rfl (hb hby d9_36) rfl rfl ?_
        show Steps p.tables e below (T8.setTop (mkF m 37 #[.val (.ref o0), .val (.int p1), .val (.int (0 : Int32))] [(.ref o0)])) _
        refine XS.iconst X8.here hx rfl (hb hby d9_37) ?_
        show Steps p.tables e below (T8.setTop (mkF m 38 #[.val (.ref o0), .val (.int p1), .val (.int (0 : Int32))] [(.int (0 : Int32)), (.ref o0)])) _
        refine st22 _ ?_
        show Steps p.tables e below (T22.setTop (mkF m 41 #[.val (.ref o0), .val (.int p1), .val (.int (0 : Int32))] [])) _
        refine XS.aloadN X22.here hx rfl (hb hby d9_41) rfl rfl ?_
        show Steps p.tables e below (T22.setTop (mkF m 42 #[.val (.ref o0), .val (.int p1), .val (.int (0 : Int32))] [(.ref o0)])) _
        refine XS.iconst X22.here hx rfl (hb hby d9_42) ?_
        show Steps p.tables e below (T22.setTop (mkF m 43 #[.val (.ref o0), .val (.int p1), .val (.int (0 : Int32))] [(.int (1 : Int32)), (.ref o0)])) _
        refine st26 _ ?_
        show Steps p.tables e below (T26.setTop (mkF m 46 #[.val (.ref o0), .val (.int p1), .val (.int (0 : Int32))] [])) _
        refine XS.goto X26.here hx rfl (pc0 := 46) (pc' := 73) rfl (hb hby d9_46) (by decide) (by decide) ?_
        show Steps p.tables e below (T26.setTop (mkF m 73 #[.val (.ref o0), .val (.int p1), .val (.int (0 : Int32))] [])) _
        refine XS.iloadN X26.here hx rfl (hb hby d9_73) rfl ?_
        show Steps p.tables e below (T26.setTop (mkF m 74 #[.val (.ref o0), .val (.int p1), .val (.int (0 : Int32))] [(.int (0 : Int32))])) _
        exact retN X26 hx (t := .boolean) Bd.returns (by simp) (hb hby d9_74) hr
      · show Q9 Z o0 p1 r1 vq vc vs ve F h0 n0 _ T26.heap _
        rw [e26]
        exact ⟨congrArg (fun q => some (Value.int q)) hv36.symm, N26, K27, (by rw [f9_h__quoted, if_neg hc10_4, if_neg hc33_10]; exact c37), (by rw [f9_h__closed, if_neg hc10_4, if_neg hc33_10]; exact Fw26), c38, c39, c40⟩
theorem d7_0 : decode prog_14_method_4_code 0 = .ok (.lconst 0, 1) := by decide +kernel
theorem d7_1 : decode prog_14_method_4_code 1 = .ok (.lstore_n 3, 1) := by decide +kernel
theorem d7_2 : decode prog_14_method_4_code 2 = .ok (.aload_n 0, 1) := by decide +kernel
theorem d7_3 : decode prog_14_method_4_code 3 = .ok (.getfield 17, 3) := by decide +kernel
theorem d7_6 : decode prog_14_method_4_code 6 = .ok (.istore 5, 2) := by decide +kernel
theorem d7_8 : decode prog_14_method_4_code 8 = .ok (.aload_n 0, 1) := by decide +kernel
theorem d7_9 : decode prog_14_method_4_code 9 = .ok (.invokevirtual 21, 3) := by decide +kernel
theorem d7_12 : decode prog_14_method_4_code 12 = .ok (.istore 6, 2) := by decide +kernel
theorem d7_14 : decode prog_14_method_4_code 14 = .ok (.iload 5, 2) := by decide +kernel
theorem d7_16 : decode prog_14_method_4_code 16 = .ok (.iload 6, 2) := by decide +kernel
theorem d7_18 : decode prog_14_method_4_code 18 = .ok (.if_icmp .ge 232, 3) := by decide +kernel
theorem d7_250 : decode prog_14_method_4_code 250 = .ok (.iload 5, 2) := by decide +kernel
theorem d7_252 : decode prog_14_method_4_code 252 = .ok (.aload_n 0, 1) := by decide +kernel
theorem d7_253 : decode prog_14_method_4_code 253 = .ok (.getfield 74, 3) := by decide +kernel
theorem d7_256 : decode prog_14_method_4_code 256 = .ok (.if_icmp .ge 61, 3) := by decide +kernel
theorem d7_259 : decode prog_14_method_4_code 259 = .ok (.aload_n 0, 1) := by decide +kernel
theorem d7_260 : decode prog_14_method_4_code 260 = .ok (.getfield 47, 3) := by decide +kernel
theorem d7_263 : decode prog_14_method_4_code 263 = .ok (.iload 5, 2) := by decide +kernel
theorem d7_265 : decode prog_14_method_4_code 265 = .ok (.baload, 1) := by decide +kernel
theorem d7_266 : decode prog_14_method_4_code 266 = .ok (.istore 6, 2) := by decide +kernel
theorem d7_268 : decode prog_14_method_4_code 268 = .ok (.iload 6, 2) := by decide +kernel
theorem d7_270 : decode prog_14_method_4_code 270 = .ok (.bipush 34, 2) := by decide +kernel
theorem d7_272 : decode prog_14_method_4_code 272 = .ok (.if_icmp .eq 10, 3) := by decide +kernel
theorem d7_275 : decode prog_14_method_4_code 275 = .ok (.iload 6, 2) := by decide +kernel
theorem d7_277 : decode prog_14_method_4_code 277 = .ok (.bipush 10, 2) := by decide +kernel
theorem d7_279 : decode prog_14_method_4_code 279 = .ok (.if_icmp .ne 32, 3) := by decide +kernel
theorem d7_282 : decode prog_14_method_4_code 282 = .ok (.aload_n 0, 1) := by decide +kernel
theorem d7_283 : decode prog_14_method_4_code 283 = .ok (.iload 5, 2) := by decide +kernel
theorem d7_285 : decode prog_14_method_4_code 285 = .ok (.invokevirtual 77, 3) := by decide +kernel
theorem d7_288 : decode prog_14_method_4_code 288 = .ok (.ifCond .eq 23, 3) := by decide +kernel
theorem d7_291 : decode prog_14_method_4_code 291 = .ok (.lload_n 3, 1) := by decide +kernel
theorem d7_292 : decode prog_14_method_4_code 292 = .ok (.lconst 1, 1) := by decide +kernel
theorem d7_293 : decode prog_14_method_4_code 293 = .ok (.ladd, 1) := by decide +kernel
theorem d7_294 : decode prog_14_method_4_code 294 = .ok (.dup2, 1) := by decide +kernel
theorem d7_295 : decode prog_14_method_4_code 295 = .ok (.lstore_n 3, 1) := by decide +kernel
theorem d7_296 : decode prog_14_method_4_code 296 = .ok (.lload_n 1, 1) := by decide +kernel
theorem d7_297 : decode prog_14_method_4_code 297 = .ok (.lcmp, 1) := by decide +kernel
theorem d7_298 : decode prog_14_method_4_code 298 = .ok (.ifCond .ne 13, 3) := by decide +kernel
theorem d7_301 : decode prog_14_method_4_code 301 = .ok (.aload_n 0, 1) := by decide +kernel
theorem d7_302 : decode prog_14_method_4_code 302 = .ok (.iload 5, 2) := by decide +kernel
theorem d7_304 : decode prog_14_method_4_code 304 = .ok (.iconst 1, 1) := by decide +kernel
theorem d7_305 : decode prog_14_method_4_code 305 = .ok (.iadd, 1) := by decide +kernel
theorem d7_306 : decode prog_14_method_4_code 306 = .ok (.putfield 17, 3) := by decide +kernel
theorem d7_309 : decode prog_14_method_4_code 309 = .ok (.lload_n 1, 1) := by decide +kernel
theorem d7_310 : decode prog_14_method_4_code 310 = .ok (.lreturn, 1) := by decide +kernel
theorem d7_311 : decode prog_14_method_4_code 311 = .ok (.iinc 5 1, 3) := by decide +kernel
theorem d7_314 : decode prog_14_method_4_code 314 = .ok (.goto (-64), 3) := by decide +kernel
theorem d7_317 : decode prog_14_method_4_code 317 = .ok (.aload_n 0, 1) := by decide +kernel
theorem d7_318 : decode prog_14_method_4_code 318 = .ok (.aload_n 0, 1) := by decide +kernel
theorem d7_319 : decode prog_14_method_4_code 319 = .ok (.getfield 74, 3) := by decide +kernel
theorem d7_322 : decode prog_14_method_4_code 322 = .ok (.putfield 17, 3) := by decide +kernel
theorem d7_325 : decode prog_14_method_4_code 325 = .ok (.lload_n 3, 1) := by decide +kernel
theorem d7_326 : decode prog_14_method_4_code 326 = .ok (.lreturn, 1) := by decide +kernel
theorem pn_7 : plainName "com/example/cistern/cistern/io/CsvReader" = true := by first | (simp [plainName, overriddenIn]; done) | decide +kernel
theorem pd_7_0 : parseMethodDescriptor "()I" = some ⟨[], some .int⟩ := by decide +kernel
theorem pd_7_1 : parseMethodDescriptor "(I)Z" = some ⟨[.int], some .boolean⟩ := by decide +kernel
theorem ef_7 (m : MethodId) (x0 : Addr) (x1 : Int64) : entryFrame m #[(.ref x0), (.long x1)] 19 = mkF m 0 #[.val (.ref x0), .val (.long x1), .second, .unset, .unset, .unset, .unset, .unset, .unset, .unset, .unset, .unset, .unset, .unset, .unset, .unset, .unset, .unset, .unset] [] := by first | (simp [entryFrame, mkF, argsToLocals, Value.category]; done) | rfl
def e7_1  : Int32 := ((1 : Int32) + (((5 : Int32) - (1 : Int32)) &&& (-8 : Int32)))
def hj7_259__quoted (F : Nat → Int32) : Int32 :=
  if (F 1) = (34 : Int32) then ((f9_h__quoted (1 : Int32) (0 : Int32) (0 : Int32) F)) else
  (if (F 1) = (10 : Int32) then (if (f9 (1 : Int32) (0 : Int32) F) = (0 : Int32) then ((f9_h__quoted (1 : Int32) (0 : Int32) (0 : Int32) F)) else
  ((f9_h__quoted (1 : Int32) (0 : Int32) (0 : Int32) F))) else
  ((0 : Int32)))
def hj7_259__closed (F : Nat → Int32) : Int32 :=
  if (F 1) = (34 : Int32) then ((f9_h__closed (1 : Int32) (0 : Int32) (0 : Int32) F)) else
  (if (F 1) = (10 : Int32) then (if (f9 (1 : Int32) (0 : Int32) F) = (0 : Int32) then ((f9_h__closed (1 : Int32) (0 : Int32) (0 : Int32) F)) else
  ((f9_h__closed (1 : Int32) (0 : Int32) (0 : Int32) F))) else
  ((0 : Int32)))
def hj7_259_L3 (F : Nat → Int32) : Int64 :=
  if (F 1) = (34 : Int32) then ((0 : Int64)) else
  (if (F 1) = (10 : Int32) then (if (f9 (1 : Int32) (0 : Int32) F) = (0 : Int32) then ((0 : Int64)) else
  (((0 : Int64) + (1 : Int64)))) else
  ((0 : Int64)))
def hj7_259__quoted' (F : Nat → Int32) : Int32 :=
  if (F 2) = (34 : Int32) then ((f9_h__quoted (2 : Int32) (hj7_259__quoted F) (hj7_259__closed F) F)) else
  (if (F 2) = (10 : Int32) then (if (f9 (2 : Int32) (hj7_259__quoted F) F) = (0 : Int32) then ((f9_h__quoted (2 : Int32) (hj7_259__quoted F) (hj7_259__closed F) F)) else
  ((f9_h__quoted (2 : Int32) (hj7_259__quoted F) (hj7_259__closed F) F))) else
  ((hj7_259__quoted F)))
def hj7_259__closed' (F : Nat → Int32) : Int32 :=
  if (F 2) = (34 : Int32) then ((f9_h__closed (2 : Int32) (hj7_259__quoted F) (hj7_259__closed F) F)) else
  (if (F 2) = (10 : Int32) then (if (f9 (2 : Int32) (hj7_259__quoted F) F) = (0 : Int32) then ((f9_h__closed (2 : Int32) (hj7_259__quoted F) (hj7_259__closed F) F)) else
  ((f9_h__closed (2 : Int32) (hj7_259__quoted F) (hj7_259__closed F) F))) else
  ((hj7_259__closed F)))
def hj7_259_L3' (F : Nat → Int32) : Int64 :=
  if (F 2) = (34 : Int32) then ((hj7_259_L3 F)) else
  (if (F 2) = (10 : Int32) then (if (f9 (2 : Int32) (hj7_259__quoted F) F) = (0 : Int32) then ((hj7_259_L3 F)) else
  (((hj7_259_L3 F) + (1 : Int64)))) else
  ((hj7_259_L3 F)))
def hj7_259__quoted'' (F : Nat → Int32) : Int32 :=
  if (F 3) = (34 : Int32) then ((f9_h__quoted (3 : Int32) (hj7_259__quoted' F) (hj7_259__closed' F) F)) else
  (if (F 3) = (10 : Int32) then (if (f9 (3 : Int32) (hj7_259__quoted' F) F) = (0 : Int32) then ((f9_h__quoted (3 : Int32) (hj7_259__quoted' F) (hj7_259__closed' F) F)) else
  ((f9_h__quoted (3 : Int32) (hj7_259__quoted' F) (hj7_259__closed' F) F))) else
  ((hj7_259__quoted' F)))
def hj7_259__closed'' (F : Nat → Int32) : Int32 :=
  if (F 3) = (34 : Int32) then ((f9_h__closed (3 : Int32) (hj7_259__quoted' F) (hj7_259__closed' F) F)) else
  (if (F 3) = (10 : Int32) then (if (f9 (3 : Int32) (hj7_259__quoted' F) F) = (0 : Int32) then ((f9_h__closed (3 : Int32) (hj7_259__quoted' F) (hj7_259__closed' F) F)) else
  ((f9_h__closed (3 : Int32) (hj7_259__quoted' F) (hj7_259__closed' F) F))) else
  ((hj7_259__closed' F)))
def hj7_259_L3'' (F : Nat → Int32) : Int64 :=
  if (F 3) = (34 : Int32) then ((hj7_259_L3' F)) else
  (if (F 3) = (10 : Int32) then (if (f9 (3 : Int32) (hj7_259__quoted' F) F) = (0 : Int32) then ((hj7_259_L3' F)) else
  (((hj7_259_L3' F) + (1 : Int64)))) else
  ((hj7_259_L3' F)))
def hj7_259__quoted''' (F : Nat → Int32) : Int32 :=
  if (F 4) = (34 : Int32) then ((f9_h__quoted (4 : Int32) (hj7_259__quoted'' F) (hj7_259__closed'' F) F)) else
  (if (F 4) = (10 : Int32) then (if (f9 (4 : Int32) (hj7_259__quoted'' F) F) = (0 : Int32) then ((f9_h__quoted (4 : Int32) (hj7_259__quoted'' F) (hj7_259__closed'' F) F)) else
  ((f9_h__quoted (4 : Int32) (hj7_259__quoted'' F) (hj7_259__closed'' F) F))) else
  ((hj7_259__quoted'' F)))
def hj7_259__closed''' (F : Nat → Int32) : Int32 :=
  if (F 4) = (34 : Int32) then ((f9_h__closed (4 : Int32) (hj7_259__quoted'' F) (hj7_259__closed'' F) F)) else
  (if (F 4) = (10 : Int32) then (if (f9 (4 : Int32) (hj7_259__quoted'' F) F) = (0 : Int32) then ((f9_h__closed (4 : Int32) (hj7_259__quoted'' F) (hj7_259__closed'' F) F)) else
  ((f9_h__closed (4 : Int32) (hj7_259__quoted'' F) (hj7_259__closed'' F) F))) else
  ((hj7_259__closed'' F)))
def hj7_259_L3''' (F : Nat → Int32) : Int64 :=
  if (F 4) = (34 : Int32) then ((hj7_259_L3'' F)) else
  (if (F 4) = (10 : Int32) then (if (f9 (4 : Int32) (hj7_259__quoted'' F) F) = (0 : Int32) then ((hj7_259_L3'' F)) else
  (((hj7_259_L3'' F) + (1 : Int64)))) else
  ((hj7_259_L3'' F)))
def f7 (q1 : Int64) (F : Nat → Int32) : Int64 :=
  if ((F 1) = (10 : Int32) ∧ (0 : Int32) = (0 : Int32) ∧ ((0 : Int64) + (1 : Int64)) = q1) then (q1) else
  (if ((F 2) = (10 : Int32) ∧ (hj7_259__quoted F) = (0 : Int32) ∧ ((hj7_259_L3 F) + (1 : Int64)) = q1) then (q1) else
  (if ((F 3) = (10 : Int32) ∧ (hj7_259__quoted' F) = (0 : Int32) ∧ ((hj7_259_L3' F) + (1 : Int64)) = q1) then (q1) else
  (if ((F 4) = (10 : Int32) ∧ (hj7_259__quoted'' F) = (0 : Int32) ∧ ((hj7_259_L3'' F) + (1 : Int64)) = q1) then (q1) else
  ((hj7_259_L3''' F)))))
def f7_h__quoted (q1 : Int64) (F : Nat → Int32) : Int32 :=
  if ((F 1) = (10 : Int32) ∧ (0 : Int32) = (0 : Int32) ∧ ((0 : Int64) + (1 : Int64)) = q1) then ((f9_h__quoted (1 : Int32) (0 : Int32) (0 : Int32) F)) else
  (if ((F 2) = (10 : Int32) ∧ (hj7_259__quoted F) = (0 : Int32) ∧ ((hj7_259_L3 F) + (1 : Int64)) = q1) then ((f9_h__quoted (2 : Int32) (hj7_259__quoted F) (hj7_259__closed F) F)) else
  (if ((F 3) = (10 : Int32) ∧ (hj7_259__quoted' F) = (0 : Int32) ∧ ((hj7_259_L3' F) + (1 : Int64)) = q1) then ((f9_h__quoted (3 : Int32) (hj7_259__quoted' F) (hj7_259__closed' F) F)) else
  (if ((F 4) = (10 : Int32) ∧ (hj7_259__quoted'' F) = (0 : Int32) ∧ ((hj7_259_L3'' F) + (1 : Int64)) = q1) then ((f9_h__quoted (4 : Int32) (hj7_259__quoted'' F) (hj7_259__closed'' F) F)) else
  ((hj7_259__quoted''' F)))))
def f7_h__closed (q1 : Int64) (F : Nat → Int32) : Int32 :=
  if ((F 1) = (10 : Int32) ∧ (0 : Int32) = (0 : Int32) ∧ ((0 : Int64) + (1 : Int64)) = q1) then ((f9_h__closed (1 : Int32) (0 : Int32) (0 : Int32) F)) else
  (if ((F 2) = (10 : Int32) ∧ (hj7_259__quoted F) = (0 : Int32) ∧ ((hj7_259_L3 F) + (1 : Int64)) = q1) then ((f9_h__closed (2 : Int32) (hj7_259__quoted F) (hj7_259__closed F) F)) else
  (if ((F 3) = (10 : Int32) ∧ (hj7_259__quoted' F) = (0 : Int32) ∧ ((hj7_259_L3' F) + (1 : Int64)) = q1) then ((f9_h__closed (3 : Int32) (hj7_259__quoted' F) (hj7_259__closed' F) F)) else
  (if ((F 4) = (10 : Int32) ∧ (hj7_259__quoted'' F) = (0 : Int32) ∧ ((hj7_259_L3'' F) + (1 : Int64)) = q1) then ((f9_h__closed (4 : Int32) (hj7_259__quoted'' F) (hj7_259__closed'' F) F)) else
  ((hj7_259__closed''' F)))))
def f7_h__start (q1 : Int64) (F : Nat → Int32) : Int32 :=
  if ((F 1) = (10 : Int32) ∧ (0 : Int32) = (0 : Int32) ∧ ((0 : Int64) + (1 : Int64)) = q1) then (((1 : Int32) + (1 : Int32))) else
  (if ((F 2) = (10 : Int32) ∧ (hj7_259__quoted F) = (0 : Int32) ∧ ((hj7_259_L3 F) + (1 : Int64)) = q1) then (((2 : Int32) + (1 : Int32))) else
  (if ((F 3) = (10 : Int32) ∧ (hj7_259__quoted' F) = (0 : Int32) ∧ ((hj7_259_L3' F) + (1 : Int64)) = q1) then (((3 : Int32) + (1 : Int32))) else
  (if ((F 4) = (10 : Int32) ∧ (hj7_259__quoted'' F) = (0 : Int32) ∧ ((hj7_259_L3'' F) + (1 : Int64)) = q1) then (((4 : Int32) + (1 : Int32))) else
  ((5 : Int32)))))
def f7_h__end (q1 : Int64) (F : Nat → Int32) : Int32 :=
  if ((F 1) = (10 : Int32) ∧ (0 : Int32) = (0 : Int32) ∧ ((0 : Int64) + (1 : Int64)) = q1) then ((5 : Int32)) else
  (if ((F 2) = (10 : Int32) ∧ (hj7_259__quoted F) = (0 : Int32) ∧ ((hj7_259_L3 F) + (1 : Int64)) = q1) then ((5 : Int32)) else
  (if ((F 3) = (10 : Int32) ∧ (hj7_259__quoted' F) = (0 : Int32) ∧ ((hj7_259_L3' F) + (1 : Int64)) = q1) then ((5 : Int32)) else
  (if ((F 4) = (10 : Int32) ∧ (hj7_259__quoted'' F) = (0 : Int32) ∧ ((hj7_259_L3'' F) + (1 : Int64)) = q1) then ((5 : Int32)) else
  ((5 : Int32)))))
def Q7 (Z : State) (o0 : Addr) (q1 : Int64) (r1 : Addr) (F : Nat → Int32) (h0 : Heap) (n0 : Nat) (v : Option Value) (h : Heap) (L : List Loc) : Prop := v = some (.long (f7 q1 F)) ∧ Fr n0 L ∧ Keep h0 h [o0] ∧ Fld Z h o0 "com/example/cistern/cistern/io/CsvReader" "_quoted" "Z" (.int (f7_h__quoted q1 F)) ∧ Fld Z h o0 "com/example/cistern/cistern/io/CsvReader" "_closed" "Z" (.int (f7_h__closed q1 F)) ∧ Fld Z h o0 "com/example/cistern/cistern/io/RecordReader" "_buffer" "[B" (.ref r1) ∧ Fld Z h o0 "com/example/cistern/cistern/io/RecordReader" "_start" "I" (.int (f7_h__start q1 F)) ∧ Fld Z h o0 "com/example/cistern/cistern/io/RecordReader" "_end" "I" (.int (f7_h__end q1 F))
set_option maxRecDepth 65536 in
set_option maxHeartbeats 40000000 in
theorem rm7 (l : Launch) (Z : State) (a0 : Array Value) (hw : ∀ d ∈ tables_1, d.before a0 Z = true) (ws : List Jvm.Cond) (o0 : Addr) (q1 : Int64) (r1 : Addr) (F : Nat → Int32) (h0 : Heap) (n0 : Nat) (Z0 : n0 ≤ h0.size) (E_o0 : Exa Z h0 o0 "com/example/cistern/cistern/io/CsvReader") (F__buffer_o0 : Fld Z h0 o0 "com/example/cistern/cistern/io/RecordReader" "_buffer" "[B" (.ref r1)) (F__start_o0 : Fld Z h0 o0 "com/example/cistern/cistern/io/RecordReader" "_start" "I" (.int (1 : Int32))) (F__end_o0 : Fld Z h0 o0 "com/example/cistern/cistern/io/RecordReader" "_end" "I" (.int (5 : Int32))) (F__quoted_o0 : Fld Z h0 o0 "com/example/cistern/cistern/io/CsvReader" "_quoted" "Z" (.int (0 : Int32))) (F__closed_o0 : Fld Z h0 o0 "com/example/cistern/cistern/io/CsvReader" "_closed" "Z" (.int (0 : Int32))) (V_r1 : own_AI Z h0 r1 .byte (65537 : Int32) F) (ne_o0_r1 : o0 ≠ r1) (g_o0 : n0 ≤ o0) :
    MetFree l (⟨"com/example/cistern/cistern/io/CsvReader", "passEnds", "(J)J"⟩ : MethodName) (head1 (Jvm.Cond.code (⟨"com/example/cistern/cistern/io/CsvReader", "passEnds", "(J)J"⟩ : MethodName) prog_14_method_4_code 19 (some .long) :: ws) ({ frames := 2, cells := 0, slots := 0, locals := 28 } : Room)) (fun a U => a = #[(.ref o0), (.long q1)] ∧ Z.Warmed39 U.vm ∧ U.heap = h0) (fun _ _ _ _ _ => True) (fun _ U o U' => ∃ v L, o = .returned v ∧ Q7 Z o0 q1 r1 F h0 n0 v U'.heap L ∧ FrameEnd U o U' L ({ frames := 2, cells := 0, slots := 0, locals := 28 } : Room).cells ({ frames := 2, cells := 0, slots := 0, locals := 28 } : Room).slots) := by
  refine MetFree.of_bodySF (plainFor_of_name pn_7) hisR ?_
  intro p e s m args below meth c s₁ Bd hml0 hP hK
  obtain ⟨rfl, hZ, hh⟩ := hP
  have hx := Bd.exec
  have hby := Bd.bytes
  have hml : c.maxLocals = 19 := hml0
  have hown : s.vm.findClass "com/example/cistern/cistern/io/CsvReader" = some m.cls := findClass_of_methodNamed Bd.named
  have hnm := (name_of_methodNamed Bd.named Bd.method).1
  have X0 : Stand p l e ({ frames := 2, cells := 0, slots := 0, locals := 28 } : Room) s m #[(.ref o0), (.long q1)] below meth c s₁ [] 0 0 := Stand.of_body Bd
  have e0 : s₁.heap = h0 := by rw [← hh, Bd.state]; rfl
  have N0 := Fr.nil n0
  have pre0 : ∀ t, Steps p.tables e below (s₁.setTop (mkF m 0 #[.val (.ref o0), .val (.long q1), .second, .unset, .unset, .unset, .unset, .unset, .unset, .unset, .unset, .unset, .unset, .unset, .unset, .unset, .unset, .unset, .unset] [])) t → Steps p.tables e below (s₁.setTop (entryFrame m #[(.ref o0), (.long q1)] 19)) t := fun t k => castTop (ef_7 m o0 q1) k
  obtain ⟨T1, X1, e1, st1⟩ := getF X0 hx hZ hown (host := "") (Or.inl (hw _ (List.mem_of_getElem? (i := 59) rfl))) (Via.of (hw _ (List.mem_of_getElem? (i := 60) rfl))) e0 F__start_o0 (g := (mkF m 3 #[.val (.ref o0), .val (.long q1), .second, .val (.long (0 : Int64)), .second, .unset, .unset, .unset, .unset, .unset, .unset, .unset, .unset, .unset, .unset, .unset, .unset, .unset, .unset] [(.ref o0)])) rfl rfl (hb hby d7_3)
  obtain ⟨cq2, kq2, q2a, q2b, q2c⟩ := isOf hZ e1 E_o0
  obtain ⟨_, _, ⟨T2, L2, k2, n2⟩, -, X2, ⟨Lc2, hQ2, l2, y2, z2⟩, st2⟩ := X1.virtualBackUp hx (owner := "com/example/cistern/cistern/io/RecordReader") (x := (⟨"com/example/cistern/cistern/io/CsvReader", "wordsEnd", "()I"⟩ : MethodName)) (y := (⟨"com/example/cistern/cistern/io/RecordReader", "wordsEnd", "()I"⟩ : MethodName)) hown (mvT hZ (hw _ (List.mem_of_getElem? (i := 61) rfl))) (mvT hZ (hw _ (List.mem_of_getElem? (i := 62) rfl))) (mvT hZ (hw _ (List.mem_of_getElem? (i := 63) rfl))) (by decide) (mvT hZ (hw _ (List.mem_of_getElem? (i := 65) rfl))) (mvT hZ (hw _ (List.mem_of_getElem? (i := 64) rfl))) (backOf (W := 0) (rm8 l Z a0 hw [] o0 (1 : Int32) (5 : Int32) h0 n0 Z0 E_o0 F__start_o0 F__end_o0) hZ (hw _ (List.mem_of_getElem? (i := 66) rfl)) (hw _ (List.mem_of_getElem? (i := 13) rfl)) (by decide) (by decide)) q2a q2c (g := (mkF m 9 #[.val (.ref o0), .val (.long q1), .second, .val (.long (0 : Int64)), .second, .val (.int (1 : Int32)), .unset, .unset, .unset, .unset, .unset, .unset, .unset, .unset, .unset, .unset, .unset, .unset, .unset] [(.ref o0)])) rfl (by rw [hml]; rfl) (Steps.refl _) (argsL := []) (rest := []) (lenOf pd_7_0 rfl) rfl (by show 2 * 0 + _ ≤ _; exact Nat.le_of_eq rfl) (hb hby d7_9) (fun _ _ => ⟨rfl, e1, (by decide : 0 + 0 ≤ _), (by decide : 0 + 0 ≤ _)⟩)
  dsimp only [Pt.U, Pt.locs, Pt.cells, Pt.slots] at X2 l2 y2 z2 st2 hQ2
  subst l2 y2 z2
  obtain ⟨rfl, N2q, e2q⟩ := hQ2
  have N2 := Fr.app N0 N2q
  have pre3 : ∀ t, Steps p.tables e below (T2.setTop (mkF m 18 #[.val (.ref o0), .val (.long q1), .second, .val (.long (0 : Int64)), .second, .val (.int (1 : Int32)), .val (.int (e7_1)), .unset, .unset, .unset, .unset, .unset, .unset, .unset, .unset, .unset, .unset, .unset, .unset] [(.int (e7_1)), (.int (1 : Int32))])) t → Steps p.tables e below (s₁.setTop (entryFrame m #[(.ref o0), (.long q1)] 19)) t := fun t kt => pre0 t (by
      show Steps p.tables e below (s₁.setTop (mkF m 0 #[.val (.ref o0), .val (.long q1), .second, .unset, .unset, .unset, .unset, .unset, .unset, .unset, .unset, .unset, .unset, .unset, .unset, .unset, .unset, .unset, .unset] [])) _
      refine XS.lconst X0.here hx rfl (hb hby d7_0) ?_
      show Steps p.tables e below (s₁.setTop (mkF m 1 #[.val (.ref o0), .val (.long q1), .second, .unset, .unset, .unset, .unset, .unset, .unset, .unset, .unset, .unset, .unset, .unset, .unset, .unset, .unset, .unset, .unset] [(.long (0 : Int64))])) _
      refine XS.lstoreN X0.here hx rfl (hb hby d7_1) rfl (l' := #[.val (.ref o0), .val (.long q1), .second, .val (.long (0 : Int64)), .second, .unset, .unset, .unset, .unset, .unset, .unset, .unset, .unset, .unset, .unset, .unset, .unset, .unset, .unset]) rfl ?_
      show Steps p.tables e below (s₁.setTop (mkF m 2 #[.val (.ref o0), .val (.long q1), .second, .val (.long (0 : Int64)), .second, .unset, .unset, .unset, .unset, .unset, .unset, .unset, .unset, .unset, .unset, .unset, .unset, .unset, .unset] [])) _
      refine XS.aloadN X0.here hx rfl (hb hby d7_2) rfl rfl ?_
      show Steps p.tables e below (s₁.setTop (mkF m 3 #[.val (.ref o0), .val (.long q1), .second, .val (.long (0 : Int64)), .second, .unset, .unset, .unset, .unset, .unset, .unset, .unset, .unset, .unset, .unset, .unset, .unset, .unset, .unset] [(.ref o0)])) _
      refine st1 _ ?_
      show Steps p.tables e below (T1.setTop (mkF m 6 #[.val (.ref o0), .val (.long q1), .second, .val (.long (0 : Int64)), .second, .unset, .unset, .unset, .unset, .unset, .unset, .unset, .unset, .unset, .unset, .unset, .unset, .unset, .unset] [(.int (1 : Int32))])) _
      refine XS.istore X1.here hx rfl (hb hby d7_6) rfl (l' := #[.val (.ref o0), .val (.long q1), .second, .val (.long (0 : Int64)), .second, .val (.int (1 : Int32)), .unset, .unset, .unset, .unset, .unset, .unset, .unset, .unset, .unset, .unset, .unset, .unset, .unset]) rfl ?_
      show Steps p.tables e below (T1.setTop (mkF m 8 #[.val (.ref o0), .val (.long q1), .second, .val (.long (0 : Int64)), .second, .val (.int (1 : Int32)), .unset, .unset, .unset, .unset, .unset, .unset, .unset, .unset, .unset, .unset, .unset, .unset, .unset] [])) _
      refine XS.aloadN X1.here hx rfl (hb hby d7_8) rfl rfl ?_
      show Steps p.tables e below (T1.setTop (mkF m 9 #[.val (.ref o0), .val (.long q1), .second, .val (.long (0 : Int64)), .second, .val (.int (1 : Int32)), .unset, .unset, .unset, .unset, .unset, .unset, .unset, .unset, .unset, .unset, .unset, .unset, .unset] [(.ref o0)])) _
      refine st2.trans ?_
      show Steps p.tables e below (T2.setTop (mkF m 12 #[.val (.ref o0), .val (.long q1), .second, .val (.long (0 : Int64)), .second, .val (.int (1 : Int32)), .unset, .unset, .unset, .unset, .unset, .unset, .unset, .unset, .unset, .unset, .unset, .unset, .unset] [(.int ((1 : Int32) + (((5 : Int32) - (1 : Int32)) &&& (-8 : Int32))))])) _
      refine XS.istore X2.here hx rfl (hb hby d7_12) rfl (l' := #[.val (.ref o0), .val (.long q1), .second, .val (.long (0 : Int64)), .second, .val (.int (1 : Int32)), .val (.int (e7_1)), .unset, .unset, .unset, .unset, .unset, .unset, .unset, .unset, .unset, .unset, .unset, .unset]) rfl ?_
      show Steps p.tables e below (T2.setTop (mkF m 14 #[.val (.ref o0), .val (.long q1), .second, .val (.long (0 : Int64)), .second, .val (.int (1 : Int32)), .val (.int (e7_1)), .unset, .unset, .unset, .unset, .unset, .unset, .unset, .unset, .unset, .unset, .unset, .unset] [])) _
      refine XS.iload X2.here hx rfl (hb hby d7_14) rfl ?_
      show Steps p.tables e below (T2.setTop (mkF m 16 #[.val (.ref o0), .val (.long q1), .second, .val (.long (0 : Int64)), .second, .val (.int (1 : Int32)), .val (.int (e7_1)), .unset, .unset, .unset, .unset, .unset, .unset, .unset, .unset, .unset, .unset, .unset, .unset] [(.int (1 : Int32))])) _
      refine XS.iload X2.here hx rfl (hb hby d7_16) rfl ?_
      exact kt)
  have hd18_4 : ¬ ((1 : Int32) < (e7_1)) := by decide
  obtain ⟨T5, X5, e5, st5⟩ := getF X2 hx hZ hown (host := "") (Or.inl (hw _ (List.mem_of_getElem? (i := 67) rfl))) (Via.of (hw _ (List.mem_of_getElem? (i := 53) rfl))) e2q F__end_o0 (g := (mkF m 253 #[.val (.ref o0), .val (.long q1), .second, .val (.long (0 : Int64)), .second, .val (.int (1 : Int32)), .val (.int (e7_1)), .unset, .unset, .unset, .unset, .unset, .unset, .unset, .unset, .unset, .unset, .unset, .unset] [(.ref o0), (.int (1 : Int32))])) rfl rfl (hb hby d7_253)
  have pre6 : ∀ t, Steps p.tables e below (T5.setTop (mkF m 256 #[.val (.ref o0), .val (.long q1), .second, .val (.long (0 : Int64)), .second, .val (.int (1 : Int32)), .val (.int (e7_1)), .unset, .unset, .unset, .unset, .unset, .unset, .unset, .unset, .unset, .unset, .unset, .unset] [(.int (5 : Int32)), (.int (1 : Int32))])) t → Steps p.tables e below (s₁.setTop (entryFrame m #[(.ref o0), (.long q1)] 19)) t := fun t kt => pre3 t (by
      show Steps p.tables e below (T2.setTop (mkF m 18 #[.val (.ref o0), .val (.long q1), .second, .val (.long (0 : Int64)), .second, .val (.int (1 : Int32)), .val (.int (e7_1)), .unset, .unset, .unset, .unset, .unset, .unset, .unset, .unset, .unset, .unset, .unset, .unset] [(.int (e7_1)), (.int (1 : Int32))])) _
      refine XS.icmpYes X2.here hx rfl (pc0 := 18) (pc' := 250) rfl (hb hby d7_18) rfl (flt hd18_4).2.1 (by decide) (by decide) ?_
      show Steps p.tables e below (T2.setTop (mkF m 250 #[.val (.ref o0), .val (.long q1), .second, .val (.long (0 : Int64)), .second, .val (.int (1 : Int32)), .val (.int (e7_1)), .unset, .unset, .unset, .unset, .unset, .unset, .unset, .unset, .unset, .unset, .unset, .unset] [])) _
      refine XS.iload X2.here hx rfl (hb hby d7_250) rfl ?_
      show Steps p.tables e below (T2.setTop (mkF m 252 #[.val (.ref o0), .val (.long q1), .second, .val (.long (0 : Int64)), .second, .val (.int (1 : Int32)), .val (.int (e7_1)), .unset, .unset, .unset, .unset, .unset, .unset, .unset, .unset, .unset, .unset, .unset, .unset] [(.int (1 : Int32))])) _
      refine XS.aloadN X2.here hx rfl (hb hby d7_252) rfl rfl ?_
      show Steps p.tables e below (T2.setTop (mkF m 253 #[.val (.ref o0), .val (.long q1), .second, .val (.long (0 : Int64)), .second, .val (.int (1 : Int32)), .val (.int (e7_1)), .unset, .unset, .unset, .unset, .unset, .unset, .unset, .unset, .unset, .unset, .unset, .unset] [(.ref o0), (.int (1 : Int32))])) _
      refine st5 _ ?_
      exact kt)
  have pre7 : ∀ t, Steps p.tables e below (T5.setTop (mkF m 259 #[.val (.ref o0), .val (.long q1), .second, .val (.long (0 : Int64)), .second, .val (.int (1 : Int32)), .val (.int (e7_1)), .unset, .unset, .unset, .unset, .unset, .unset, .unset, .unset, .unset, .unset, .unset, .unset] [])) t → Steps p.tables e below (s₁.setTop (entryFrame m #[(.ref o0), (.long q1)] 19)) t := fun t kt => pre6 t (by
      show Steps p.tables e below (T5.setTop (mkF m 256 #[.val (.ref o0), .val (.long q1), .second, .val (.long (0 : Int64)), .second, .val (.int (1 : Int32)), .val (.int (e7_1)), .unset, .unset, .unset, .unset, .unset, .unset, .unset, .unset, .unset, .unset, .unset, .unset] [(.int (5 : Int32)), (.int (1 : Int32))])) _
      refine XS.icmpNo X5.here hx rfl (hb hby d7_256) rfl (tlt (by decide : ((1 : Int32) < (5 : Int32)))).2.1 ?_
      exact kt)
  by_cases hR259_8 : ((F 1) = (10 : Int32) ∧ (0 : Int32) = (0 : Int32) ∧ ((0 : Int64) + (1 : Int64)) = q1)
  · obtain ⟨T9, X9, e9, st9⟩ := getF X5 hx hZ hown (host := "") (Or.inl (hw _ (List.mem_of_getElem? (i := 68) rfl))) (Via.of (hw _ (List.mem_of_getElem? (i := 51) rfl))) e5 F__buffer_o0 (g := (mkF m 260 #[.val (.ref o0), .val (.long q1), .second, .val (.long (0 : Int64)), .second, .val (.int (1 : Int32)), .val (.int (e7_1)), .unset, .unset, .unset, .unset, .unset, .unset, .unset, .unset, .unset, .unset, .unset, .unset] [(.ref o0)])) rfl rfl (hb hby d7_260)
    obtain ⟨cl10, Ar10, Sz10, Nn10, Hs10⟩ := id V_r1
    have hin10 : ¬ ((1 : Int32) < 0 ∨ cl10.slots.size ≤ ((1 : Int32)).toNatClampNeg) := inb_of Sz10 ⟨by decide, by decide⟩
    have hat10 : cl10.slots[((1 : Int32)).toNatClampNeg]? = some (.int (F 1)) := (Hs10 _ (own_lt hin10)).1
    have pre11 : ∀ t, Steps p.tables e below (T9.setTop (mkF m 272 #[.val (.ref o0), .val (.long q1), .second, .val (.long (0 : Int64)), .second, .val (.int (1 : Int32)), .val (.int (F 1)), .unset, .unset, .unset, .unset, .unset, .unset, .unset, .unset, .unset, .unset, .unset, .unset] [(.int (34 : Int32)), (.int (F 1))])) t → Steps p.tables e below (s₁.setTop (entryFrame m #[(.ref o0), (.long q1)] 19)) t := fun t kt => pre7 t (by
        show Steps p.tables e below (T5.setTop (mkF m 259 #[.val (.ref o0), .val (.long q1), .second, .val (.long (0 : Int64)), .second, .val (.int (1 : Int32)), .val (.int (e7_1)), .unset, .unset, .unset, .unset, .unset, .unset, .unset, .unset, .unset, .unset, .unset, .unset] [])) _
        refine XS.aloadN X5.here hx rfl (hb hby d7_259) rfl rfl ?_
        show Steps p.tables e below (T5.setTop (mkF m 260 #[.val (.ref o0), .val (.long q1), .second, .val (.long (0 : Int64)), .second, .val (.int (1 : Int32)), .val (.int (e7_1)), .unset, .unset, .unset, .unset, .unset, .unset, .unset, .unset, .unset, .unset, .unset, .unset] [(.ref o0)])) _
        refine st9 _ ?_
        show Steps p.tables e below (T9.setTop (mkF m 263 #[.val (.ref o0), .val (.long q1), .second, .val (.long (0 : Int64)), .second, .val (.int (1 : Int32)), .val (.int (e7_1)), .unset, .unset, .unset, .unset, .unset, .unset, .unset, .unset, .unset, .unset, .unset, .unset] [(.ref r1)])) _
        refine XS.iload X9.here hx rfl (hb hby d7_263) rfl ?_
        show Steps p.tables e below (T9.setTop (mkF m 265 #[.val (.ref o0), .val (.long q1), .second, .val (.long (0 : Int64)), .second, .val (.int (1 : Int32)), .val (.int (e7_1)), .unset, .unset, .unset, .unset, .unset, .unset, .unset, .unset, .unset, .unset, .unset, .unset] [(.int (1 : Int32)), (.ref r1)])) _
        refine X9.baloadBytes hx (j := (1 : Int32)) (v := (.int (F 1))) (by rw [e9]; exact Ar10.1) (State.isArrayOf_alike hZ.alike Ar10.2.1) Ar10.2.2 hin10 hat10 (g := (mkF m 265 #[.val (.ref o0), .val (.long q1), .second, .val (.long (0 : Int64)), .second, .val (.int (1 : Int32)), .val (.int (e7_1)), .unset, .unset, .unset, .unset, .unset, .unset, .unset, .unset, .unset, .unset, .unset, .unset] [(.int (1 : Int32)), (.ref r1)])) rfl rfl (hb hby d7_265) _ ?_
        show Steps p.tables e below (T9.setTop (mkF m 266 #[.val (.ref o0), .val (.long q1), .second, .val (.long (0 : Int64)), .second, .val (.int (1 : Int32)), .val (.int (e7_1)), .unset, .unset, .unset, .unset, .unset, .unset, .unset, .unset, .unset, .unset, .unset, .unset] [(.int (F 1))])) _
        refine XS.istore X9.here hx rfl (hb hby d7_266) rfl (l' := #[.val (.ref o0), .val (.long q1), .second, .val (.long (0 : Int64)), .second, .val (.int (1 : Int32)), .val (.int (F 1)), .unset, .unset, .unset, .unset, .unset, .unset, .unset, .unset, .unset, .unset, .unset, .unset]) rfl ?_
        show Steps p.tables e below (T9.setTop (mkF m 268 #[.val (.ref o0), .val (.long q1), .second, .val (.long (0 : Int64)), .second, .val (.int (1 : Int32)), .val (.int (F 1)), .unset, .unset, .unset, .unset, .unset, .unset, .unset, .unset, .unset, .unset, .unset, .unset] [])) _
        refine XS.iload X9.here hx rfl (hb hby d7_268) rfl ?_
        show Steps p.tables e below (T9.setTop (mkF m 270 #[.val (.ref o0), .val (.long q1), .second, .val (.long (0 : Int64)), .second, .val (.int (1 : Int32)), .val (.int (F 1)), .unset, .unset, .unset, .unset, .unset, .unset, .unset, .unset, .unset, .unset, .unset, .unset] [(.int (F 1))])) _
        refine XS.bipush X9.here hx rfl (hb hby d7_270) ?_
        exact kt)
    have hd272_12 : ¬ ((F 1) = (34 : Int32)) := fun z => absurd (hR259_8.1.symm.trans z) (by decide)
    have pre13 : ∀ t, Steps p.tables e below (T9.setTop (mkF m 279 #[.val (.ref o0), .val (.long q1), .second, .val (.long (0 : Int64)), .second, .val (.int (1 : Int32)), .val (.int (F 1)), .unset, .unset, .unset, .unset, .unset, .unset, .unset, .unset, .unset, .unset, .unset, .unset] [(.int (10 : Int32)), (.int (F 1))])) t → Steps p.tables e below (s₁.setTop (entryFrame m #[(.ref o0), (.long q1)] 19)) t := fun t kt => pre11 t (by
        show Steps p.tables e below (T9.setTop (mkF m 272 #[.val (.ref o0), .val (.long q1), .second, .val (.long (0 : Int64)), .second, .val (.int (1 : Int32)), .val (.int (F 1)), .unset, .unset, .unset, .unset, .unset, .unset, .unset, .unset, .unset, .unset, .unset, .unset] [(.int (34 : Int32)), (.int (F 1))])) _
        refine XS.icmpNo X9.here hx rfl (hb hby d7_272) rfl (feq hd272_12).1 ?_
        show Steps p.tables e below (T9.setTop (mkF m 275 #[.val (.ref o0), .val (.long q1), .second, .val (.long (0 : Int64)), .second, .val (.int (1 : Int32)), .val (.int (F 1)), .unset, .unset, .unset, .unset, .unset, .unset, .unset, .unset, .unset, .unset, .unset, .unset] [])) _
        refine XS.iload X9.here hx rfl (hb hby d7_275) rfl ?_
        show Steps p.tables e below (T9.setTop (mkF m 277 #[.val (.ref o0), .val (.long q1), .second, .val (.long (0 : Int64)), .second, .val (.int (1 : Int32)), .val (.int (F 1)), .unset, .unset, .unset, .unset, .unset, .unset, .unset, .unset, .unset, .unset, .unset, .unset] [(.int (F 1))])) _
        refine XS.bipush X9.here hx rfl (hb hby d7_277) ?_
        exact kt)
    have hd279_14 : (F 1) = (10 : Int32) := hR259_8.1
    obtain ⟨cq15, q15, q15'⟩ := E_o0.cell
    obtain ⟨_, _, ⟨T15, L15, k15, n15⟩, -, X15, ⟨Lc15, hQ15, l15, y15, z15⟩, st15⟩ := X9.privateBack hx (y := (⟨"com/example/cistern/cistern/io/CsvReader", "endsRecord", "(I)Z"⟩ : MethodName)) hown (mvT hZ (hw _ (List.mem_of_getElem? (i := 69) rfl))) (mvT hZ (hw _ (List.mem_of_getElem? (i := 70) rfl))) (own_selp (z := (⟨"com/example/cistern/cistern/io/CsvReader", "start", "(Ljava/io/InputStream;)V"⟩ : MethodName)) rfl (mvT hZ (hw _ (List.mem_of_getElem? (i := 33) rfl))) (Cond.privateMethod_at (mvP hZ (hw _ (List.mem_of_getElem? (i := 71) rfl)) (args := #[]))) (mvT hZ (hw _ (List.mem_of_getElem? (i := 70) rfl))) (by decide)) (Cond.privateMethod_at (mvP hZ (hw _ (List.mem_of_getElem? (i := 71) rfl)) (args := #[]))) (mvT hZ (hw _ (List.mem_of_getElem? (i := 72) rfl))) (by decide) (backOf (W := 0) (rm9 l Z a0 hw [] o0 (1 : Int32) r1 (0 : Int32) (0 : Int32) (1 : Int32) (5 : Int32) F h0 n0 Z0 E_o0 F__buffer_o0 F__quoted_o0 F__closed_o0 F__start_o0 F__end_o0 V_r1 ne_o0_r1 g_o0 (by decide) (by decide)) hZ (hw _ (List.mem_of_getElem? (i := 72) rfl)) (hw _ (List.mem_of_getElem? (i := 6) rfl)) (by decide) (by decide)) (g := (mkF m 285 #[.val (.ref o0), .val (.long q1), .second, .val (.long (0 : Int64)), .second, .val (.int (1 : Int32)), .val (.int (F 1)), .unset, .unset, .unset, .unset, .unset, .unset, .unset, .unset, .unset, .unset, .unset, .unset] [(.int (1 : Int32)), (.ref o0)])) rfl (by rw [hml]; rfl) (Steps.refl _) (a := o0) (by rw [e9]; exact q15) q15' (argsL := [(.int (1 : Int32))]) (rest := []) (lenOf pd_7_1 rfl) rfl (by show 2 * 0 + _ ≤ _; exact Nat.le_of_eq rfl) (hb hby d7_285) (fun _ _ => ⟨rfl, e9, (by decide : 0 + 0 ≤ _), (by decide : 0 + 0 ≤ _)⟩)
    dsimp only [Pt.U, Pt.locs, Pt.cells, Pt.slots] at X15 l15 y15 z15 st15 hQ15
    subst l15 y15 z15
    obtain ⟨rfl, N15q, K15q, G15_0, G15_1, G15_2, G15_3, G15_4⟩ := hQ15
    have N15 := Fr.app N2 N15q
    have K16 : Keep h0 T15.heap [o0] := (Keep.refl h0 [o0]).trans K15q (allS (Or.inl (List.mem_of_getElem? (i := 0) rfl)) all0)
    have Z17 : n0 ≤ T15.heap.size := Nat.le_trans Z0 K16.1
    obtain ⟨LS15, X15, N15⟩ : ∃ L, Stand p l e ({ frames := 2, cells := 0, slots := 0, locals := 28 } : Room) s m #[(.ref o0), (.long q1)] below meth c T15 L 0 0 ∧ Fr n0 L := ⟨_, X15, N15⟩
    have pre18 : ∀ t, Steps p.tables e below (T15.setTop (mkF m 288 #[.val (.ref o0), .val (.long q1), .second, .val (.long (0 : Int64)), .second, .val (.int (1 : Int32)), .val (.int (F 1)), .unset, .unset, .unset, .unset, .unset, .unset, .unset, .unset, .unset, .unset, .unset, .unset] [(.int (f9 (1 : Int32) (0 : Int32) F))])) t → Steps p.tables e below (s₁.setTop (entryFrame m #[(.ref o0), (.long q1)] 19)) t := fun t kt => pre13 t (by
        show Steps p.tables e below (T9.setTop (mkF m 279 #[.val (.ref o0), .val (.long q1), .second, .val (.long (0 : Int64)), .second, .val (.int (1 : Int32)), .val (.int (F 1)), .unset, .unset, .unset, .unset, .unset, .unset, .unset, .unset, .unset, .unset, .unset, .unset] [(.int (10 : Int32)), (.int (F 1))])) _
        refine XS.icmpNo X9.here hx rfl (hb hby d7_279) rfl (teq hd279_14).2 ?_
        show Steps p.tables e below (T9.setTop (mkF m 282 #[.val (.ref o0), .val (.long q1), .second, .val (.long (0 : Int64)), .second, .val (.int (1 : Int32)), .val (.int (F 1)), .unset, .unset, .unset, .unset, .unset, .unset, .unset, .unset, .unset, .unset, .unset, .unset] [])) _
        refine XS.aloadN X9.here hx rfl (hb hby d7_282) rfl rfl ?_
        show Steps p.tables e below (T9.setTop (mkF m 283 #[.val (.ref o0), .val (.long q1), .second, .val (.long (0 : Int64)), .second, .val (.int (1 : Int32)), .val (.int (F 1)), .unset, .unset, .unset, .unset, .unset, .unset, .unset, .unset, .unset, .unset, .unset, .unset] [(.ref o0)])) _
        refine XS.iload X9.here hx rfl (hb hby d7_283) rfl ?_
        show Steps p.tables e below (T9.setTop (mkF m 285 #[.val (.ref o0), .val (.long q1), .second, .val (.long (0 : Int64)), .second, .val (.int (1 : Int32)), .val (.int (F 1)), .unset, .unset, .unset, .unset, .unset, .unset, .unset, .unset, .unset, .unset, .unset, .unset] [(.int (1 : Int32)), (.ref o0)])) _
        refine st15.trans ?_
        exact kt)
    have hd288_19 : ¬ ((f9 (1 : Int32) (0 : Int32) F) = (0 : Int32)) := own_e1 hR259_8.1 hR259_8.2.1
    have pre20 : ∀ t, Steps p.tables e below (T15.setTop (mkF m 298 #[.val (.ref o0), .val (.long q1), .second, .val (.long ((0 : Int64) + (1 : Int64))), .second, .val (.int (1 : Int32)), .val (.int (F 1)), .unset, .unset, .unset, .unset, .unset, .unset, .unset, .unset, .unset, .unset, .unset, .unset] [(.int (lcmpW ((0 : Int64) + (1 : Int64)) q1))])) t → Steps p.tables e below (s₁.setTop (entryFrame m #[(.ref o0), (.long q1)] 19)) t := fun t kt => pre18 t (by
        show Steps p.tables e below (T15.setTop (mkF m 288 #[.val (.ref o0), .val (.long q1), .second, .val (.long (0 : Int64)), .second, .val (.int (1 : Int32)), .val (.int (F 1)), .unset, .unset, .unset, .unset, .unset, .unset, .unset, .unset, .unset, .unset, .unset, .unset] [(.int (f9 (1 : Int32) (0 : Int32) F))])) _
        refine XS.ifNo X15.here hx rfl (hb hby d7_288) rfl ((if0 _ _).trans (feq hd288_19).1) ?_
        show Steps p.tables e below (T15.setTop (mkF m 291 #[.val (.ref o0), .val (.long q1), .second, .val (.long (0 : Int64)), .second, .val (.int (1 : Int32)), .val (.int (F 1)), .unset, .unset, .unset, .unset, .unset, .unset, .unset, .unset, .unset, .unset, .unset, .unset] [])) _
        refine XS.lloadN X15.here hx rfl (hb hby d7_291) rfl ?_
        show Steps p.tables e below (T15.setTop (mkF m 292 #[.val (.ref o0), .val (.long q1), .second, .val (.long (0 : Int64)), .second, .val (.int (1 : Int32)), .val (.int (F 1)), .unset, .unset, .unset, .unset, .unset, .unset, .unset, .unset, .unset, .unset, .unset, .unset] [(.long (0 : Int64))])) _
        refine XS.lconst X15.here hx rfl (hb hby d7_292) ?_
        show Steps p.tables e below (T15.setTop (mkF m 293 #[.val (.ref o0), .val (.long q1), .second, .val (.long (0 : Int64)), .second, .val (.int (1 : Int32)), .val (.int (F 1)), .unset, .unset, .unset, .unset, .unset, .unset, .unset, .unset, .unset, .unset, .unset, .unset] [(.long (1 : Int64)), (.long (0 : Int64))])) _
        refine XS.ladd X15.here hx rfl (hb hby d7_293) rfl ?_
        show Steps p.tables e below (T15.setTop (mkF m 294 #[.val (.ref o0), .val (.long q1), .second, .val (.long (0 : Int64)), .second, .val (.int (1 : Int32)), .val (.int (F 1)), .unset, .unset, .unset, .unset, .unset, .unset, .unset, .unset, .unset, .unset, .unset, .unset] [(.long ((0 : Int64) + (1 : Int64)))])) _
        jvm_step X15.here [X15.here.top, hx, (hb hby d7_294), Value.category]
        show Steps p.tables e below (T15.setTop (mkF m 295 #[.val (.ref o0), .val (.long q1), .second, .val (.long (0 : Int64)), .second, .val (.int (1 : Int32)), .val (.int (F 1)), .unset, .unset, .unset, .unset, .unset, .unset, .unset, .unset, .unset, .unset, .unset, .unset] [(.long ((0 : Int64) + (1 : Int64))), (.long ((0 : Int64) + (1 : Int64)))])) _
        refine XS.lstoreN X15.here hx rfl (hb hby d7_295) rfl (l' := #[.val (.ref o0), .val (.long q1), .second, .val (.long ((0 : Int64) + (1 : Int64))), .second, .val (.int (1 : Int32)), .val (.int (F 1)), .unset, .unset, .unset, .unset, .unset, .unset, .unset, .unset, .unset, .unset, .unset, .unset]) rfl ?_
        show Steps p.tables e below (T15.setTop (mkF m 296 #[.val (.ref o0), .val (.long q1), .second, .val (.long ((0 : Int64) + (1 : Int64))), .second, .val (.int (1 : Int32)), .val (.int (F 1)), .unset, .unset, .unset, .unset, .unset, .unset, .unset, .unset, .unset, .unset, .unset, .unset] [(.long ((0 : Int64) + (1 : Int64)))])) _
        refine XS.lloadN X15.here hx rfl (hb hby d7_296) rfl ?_
        show Steps p.tables e below (T15.setTop (mkF m 297 #[.val (.ref o0), .val (.long q1), .second, .val (.long ((0 : Int64) + (1 : Int64))), .second, .val (.int (1 : Int32)), .val (.int (F 1)), .unset, .unset, .unset, .unset, .unset, .unset, .unset, .unset, .unset, .unset, .unset, .unset] [(.long q1), (.long ((0 : Int64) + (1 : Int64)))])) _
        refine XS.lcmp X15.here hx rfl (hb hby d7_297) rfl ?_
        exact kt)
    have hd298_21 : (lcmpW ((0 : Int64) + (1 : Int64)) q1) = (0 : Int32) := (lw_eq _ _).mpr hR259_8.2.2
    obtain ⟨T22, h22, X22, e22, W22, st22⟩ := putF X15 hx hZ hown (host := "") (Or.inl (hw _ (List.mem_of_getElem? (i := 59) rfl))) (Via.of (hw _ (List.mem_of_getElem? (i := 60) rfl))) rfl G15_3 (E_o0.keep K15q) (Or.inl (hw _ (List.mem_of_getElem? (i := 23) rfl))) (hw _ (List.mem_of_getElem? (i := 5) rfl)) (ty := .int) (by decide) rfl rfl (g := (mkF m 306 #[.val (.ref o0), .val (.long q1), .second, .val (.long ((0 : Int64) + (1 : Int64))), .second, .val (.int (1 : Int32)), .val (.int (F 1)), .unset, .unset, .unset, .unset, .unset, .unset, .unset, .unset, .unset, .unset, .unset, .unset] [(.int ((1 : Int32) + (1 : Int32))), (.ref o0)])) rfl rfl (hb hby d7_306)
    have Fw22 := G15_3.same W22
    have K23 : Keep h0 h22 [o0] := K16.wr W22 (Or.inl (List.mem_of_getElem? (i := 0) rfl))
    have Z24 : n0 ≤ h22.size := Nat.le_trans Z0 K23.1
    have N22 := Fr.snoc X22 N15 g_o0
    obtain ⟨LS22, X22, N22⟩ : ∃ L, Stand p l e ({ frames := 2, cells := 0, slots := 0, locals := 28 } : Room) s m #[(.ref o0), (.long q1)] below meth c T22 L 0 0 ∧ Fr n0 L := ⟨_, X22, N22⟩
    obtain ⟨fs, hr, hrun, hended, hW, hsame⟩ := X22.leave (v := some (.long q1)) (fun h => by rw [Bd.returns] at h; cases h)
    have hv187 : (f7 q1 F) = q1 := by rw [f7, if_pos hR259_8]
    have c188 := (G15_0.other W22 (Or.inr (slot_ne (Or.inl (hw _ (List.mem_of_getElem? (i := 49) rfl))) (Or.inl (hw _ (List.mem_of_getElem? (i := 23) rfl))) (by decide) (t := .boolean) (t' := .int) (by decide) (by decide))))
    have c189 := (G15_1.other W22 (Or.inr (slot_ne (Or.inl (hw _ (List.mem_of_getElem? (i := 74) rfl))) (Or.inl (hw _ (List.mem_of_getElem? (i := 23) rfl))) (by decide) (t := .boolean) (t' := .int) (by decide) (by decide))))
    have c190 := (G15_2.other W22 (Or.inr (slot_ne (Or.inr (hw _ (List.mem_of_getElem? (i := 21) rfl))) (Or.inl (hw _ (List.mem_of_getElem? (i := 23) rfl))) (by decide) (t := (.array .byte)) (t' := .int) (by decide) (by decide))))
    have c191 := (G15_4.other W22 (Or.inr (slot_ne (Or.inl (hw _ (List.mem_of_getElem? (i := 25) rfl))) (Or.inl (hw _ (List.mem_of_getElem? (i := 23) rfl))) (by decide) (t := .int) (t' := .int) (by decide) (by decide))))
    refine ⟨_, _, pre20 _ ?_, hrun, hended, _, _, rfl, ?_, ⟨_, rfl⟩, hW, hsame.mono (by decide) (by decide)⟩
    · show Steps p.tables e below (T15.setTop (mkF m 298 #[.val (.ref o0), .val (.long q1), .second, .val (.long ((0 : Int64) + (1 : Int64))), .second, .val (.int (1 : Int32)), .val (.int (F 1)), .unset, .unset, .unset, .unset, .unset, .unset, .unset, .unset, .unset, .unset, .unset, .unset] [(.int (lcmpW ((0 : Int64) + (1 : Int64)) q1))])) _
      refine XS.ifNo X15.here hx rfl (hb hby d7_298) rfl ((if0 _ _).trans (teq hd298_21).2) ?_
      show Steps p.tables e below (T15.setTop (mkF m 301 #[.val (.ref o0), .val (.long q1), .second, .val (.long ((0 : Int64) + (1 : Int64))), .second, .val (.int (1 : Int32)), .val (.int (F 1)), .unset, .unset, .unset, .unset, .unset, .unset, .unset, .unset, .unset, .unset, .unset, .unset] [])) _
      refine XS.aloadN X15.here hx rfl (hb hby d7_301) rfl rfl ?_
      show Steps p.tables e below (T15.setTop (mkF m 302 #[.val (.ref o0), .val (.long q1), .second, .val (.long ((0 : Int64) + (1 : Int64))), .second, .val (.int (1 : Int32)), .val (.int (F 1)), .unset, .unset, .unset, .unset, .unset, .unset, .unset, .unset, .unset, .unset, .unset, .unset] [(.ref o0)])) _
      refine XS.iload X15.here hx rfl (hb hby d7_302) rfl ?_
      show Steps p.tables e below (T15.setTop (mkF m 304 #[.val (.ref o0), .val (.long q1), .second, .val (.long ((0 : Int64) + (1 : Int64))), .second, .val (.int (1 : Int32)), .val (.int (F 1)), .unset, .unset, .unset, .unset, .unset, .unset, .unset, .unset, .unset, .unset, .unset, .unset] [(.int (1 : Int32)), (.ref o0)])) _
      refine XS.iconst X15.here hx rfl (hb hby d7_304) ?_
      show Steps p.tables e below (T15.setTop (mkF m 305 #[.val (.ref o0), .val (.long q1), .second, .val (.long ((0 : Int64) + (1 : Int64))), .second, .val (.int (1 : Int32)), .val (.int (F 1)), .unset, .unset, .unset, .unset, .unset, .unset, .unset, .unset, .unset, .unset, .unset, .unset] [(.int (1 : Int32)), (.int (1 : Int32)), (.ref o0)])) _
      refine XS.iadd X15.here hx rfl (hb hby d7_305) rfl ?_
      show Steps p.tables e below (T15.setTop (mkF m 306 #[.val (.ref o0), .val (.long q1), .second, .val (.long ((0 : Int64) + (1 : Int64))), .second, .val (.int (1 : Int32)), .val (.int (F 1)), .unset, .unset, .unset, .unset, .unset, .unset, .unset, .unset, .unset, .unset, .unset, .unset] [(.int ((1 : Int32) + (1 : Int32))), (.ref o0)])) _
      refine st22 _ ?_
      show Steps p.tables e below (T22.setTop (mkF m 309 #[.val (.ref o0), .val (.long q1), .second, .val (.long ((0 : Int64) + (1 : Int64))), .second, .val (.int (1 : Int32)), .val (.int (F 1)), .unset, .unset, .unset, .unset, .unset, .unset, .unset, .unset, .unset, .unset, .unset, .unset] [])) _
      refine XS.lloadN X22.here hx rfl (hb hby d7_309) rfl ?_
      show Steps p.tables e below (T22.setTop (mkF m 310 #[.val (.ref o0), .val (.long q1), .second, .val (.long ((0 : Int64) + (1 : Int64))), .second, .val (.int (1 : Int32)), .val (.int (F 1)), .unset, .unset, .unset, .unset, .unset, .unset, .unset, .unset, .unset, .unset, .unset, .unset] [(.long q1)])) _
      exact X22.lreturnOut hx Bd.returns (hb hby d7_310) hr
    · show Q7 Z o0 q1 r1 F h0 n0 _ T22.heap _
      rw [e22]
      exact ⟨congrArg (fun q => some (Value.long q)) hv187.symm, N22, K23, (by rw [f7_h__quoted, if_pos hR259_8]; exact c188), (by rw [f7_h__closed, if_pos hR259_8]; exact c189), c190, (by rw [f7_h__start, if_pos hR259_8]; exact Fw22), (by rw [f7_h__end, if_pos hR259_8]; exact c191)⟩
  · obtain ⟨T25, h25, L25, X25, e25, N25, K25q, V25_0, V25_1, V25_2, V25_3, V25_4, st25⟩ : ∃ (T' : State) (h' : Heap) (L' : List Loc), Stand p l e ({ frames := 2, cells := 0, slots := 0, locals := 28 } : Room) s m #[(.ref o0), (.long q1)] below meth c T' L' 0 0 ∧ T'.heap = h' ∧ Fr n0 L' ∧ Keep h0 h' [o0] ∧ Fld Z h' o0 "com/example/cistern/cistern/io/RecordReader" "_buffer" "[B" (.ref r1) ∧ Fld Z h' o0 "com/example/cistern/cistern/io/RecordReader" "_start" "I" (.int (1 : Int32)) ∧ Fld Z h' o0 "com/example/cistern/cistern/io/RecordReader" "_end" "I" (.int (5 : Int32)) ∧ Fld Z h' o0 "com/example/cistern/cistern/io/CsvReader" "_quoted" "Z" (.int (hj7_259__quoted F)) ∧ Fld Z h' o0 "com/example/cistern/cistern/io/CsvReader" "_closed" "Z" (.int (hj7_259__closed F)) ∧ ∀ t, Steps p.tables e below (T'.setTop (mkF m 311 #[.val (.ref o0), .val (.long q1), .second, .val (.long (hj7_259_L3 F)), .second, .val (.int (1 : Int32)), .val (.int (F 1)), .unset, .unset, .unset, .unset, .unset, .unset, .unset, .unset, .unset, .unset, .unset, .unset] [])) t → Steps p.tables e below (s₁.setTop (entryFrame m #[(.ref o0), (.long q1)] 19)) t := by
      obtain ⟨T26, X26, e26, st26⟩ := getF X5 hx hZ hown (host := "") (Or.inl (hw _ (List.mem_of_getElem? (i := 68) rfl))) (Via.of (hw _ (List.mem_of_getElem? (i := 51) rfl))) e5 F__buffer_o0 (g := (mkF m 260 #[.val (.ref o0), .val (.long q1), .second, .val (.long (0 : Int64)), .second, .val (.int (1 : Int32)), .val (.int (e7_1)), .unset, .unset, .unset, .unset, .unset, .unset, .unset, .unset, .unset, .unset, .unset, .unset] [(.ref o0)])) rfl rfl (hb hby d7_260)
      obtain ⟨cl27, Ar27, Sz27, Nn27, Hs27⟩ := id V_r1
      have hin27 : ¬ ((1 : Int32) < 0 ∨ cl27.slots.size ≤ ((1 : Int32)).toNatClampNeg) := inb_of Sz27 ⟨by decide, by decide⟩
      have hat27 : cl27.slots[((1 : Int32)).toNatClampNeg]? = some (.int (F 1)) := (Hs27 _ (own_lt hin27)).1
      have pre28 : ∀ t, Steps p.tables e below (T26.setTop (mkF m 272 #[.val (.ref o0), .val (.long q1), .second, .val (.long (0 : Int64)), .second, .val (.int (1 : Int32)), .val (.int (F 1)), .unset, .unset, .unset, .unset, .unset, .unset, .unset, .unset, .unset, .unset, .unset, .unset] [(.int (34 : Int32)), (.int (F 1))])) t → Steps p.tables e below (s₁.setTop (entryFrame m #[(.ref o0), (.long q1)] 19)) t := fun t kt => pre7 t (by
          show Steps p.tables e below (T5.setTop (mkF m 259 #[.val (.ref o0), .val (.long q1), .second, .val (.long (0 : Int64)), .second, .val (.int (1 : Int32)), .val (.int (e7_1)), .unset, .unset, .unset, .unset, .unset, .unset, .unset, .unset, .unset, .unset, .unset, .unset] [])) _
          refine XS.aloadN X5.here hx rfl (hb hby d7_259) rfl rfl ?_
          show Steps p.tables e below (T5.setTop (mkF m 260 #[.val (.ref o0), .val (.long q1), .second, .val (.long (0 : Int64)), .second, .val (.int (1 : Int32)), .val (.int (e7_1)), .unset, .unset, .unset, .unset, .unset, .unset, .unset, .unset, .unset, .unset, .unset, .unset] [(.ref o0)])) _
          refine st26 _ ?_
          show Steps p.tables e below (T26.setTop (mkF m 263 #[.val (.ref o0), .val (.long q1), .second, .val (.long (0 : Int64)), .second, .val (.int (1 : Int32)), .val (.int (e7_1)), .unset, .unset, .unset, .unset, .unset, .unset, .unset, .unset, .unset, .unset, .unset, .unset] [(.ref r1)])) _
          refine XS.iload X26.here hx rfl (hb hby d7_263) rfl ?_
          show Steps p.tables e below (T26.setTop (mkF m 265 #[.val (.ref o0), .val (.long q1), .second, .val (.long (0 : Int64)), .second, .val (.int (1 : Int32)), .val (.int (e7_1)), .unset, .unset, .unset, .unset, .unset, .unset, .unset, .unset, .unset, .unset, .unset, .unset] [(.int (1 : Int32)), (.ref r1)])) _
          refine X26.baloadBytes hx (j := (1 : Int32)) (v := (.int (F 1))) (by rw [e26]; exact Ar27.1) (State.isArrayOf_alike hZ.alike Ar27.2.1) Ar27.2.2 hin27 hat27 (g := (mkF m 265 #[.val (.ref o0), .val (.long q1), .second, .val (.long (0 : Int64)), .second, .val (.int (1 : Int32)), .val (.int (e7_1)), .unset, .unset, .unset, .unset, .unset, .unset, .unset, .unset, .unset, .unset, .unset, .unset] [(.int (1 : Int32)), (.ref r1)])) rfl rfl (hb hby d7_265) _ ?_
          show Steps p.tables e below (T26.setTop (mkF m 266 #[.val (.ref o0), .val (.long q1), .second, .val (.long (0 : Int64)), .second, .val (.int (1 : Int32)), .val (.int (e7_1)), .unset, .unset, .unset, .unset, .unset, .unset, .unset, .unset, .unset, .unset, .unset, .unset] [(.int (F 1))])) _
          refine XS.istore X26.here hx rfl (hb hby d7_266) rfl (l' := #[.val (.ref o0), .val (.long q1), .second, .val (.long (0 : Int64)), .second, .val (.int (1 : Int32)), .val (.int (F 1)), .unset, .unset, .unset, .unset, .unset, .unset, .unset, .unset, .unset, .unset, .unset, .unset]) rfl ?_
          show Steps p.tables e below (T26.setTop (mkF m 268 #[.val (.ref o0), .val (.long q1), .second, .val (.long (0 : Int64)), .second, .val (.int (1 : Int32)), .val (.int (F 1)), .unset, .unset, .unset, .unset, .unset, .unset, .unset, .unset, .unset, .unset, .unset, .unset] [])) _
          refine XS.iload X26.here hx rfl (hb hby d7_268) rfl ?_
          show Steps p.tables e below (T26.setTop (mkF m 270 #[.val (.ref o0), .val (.long q1), .second, .val (.long (0 : Int64)), .second, .val (.int (1 : Int32)), .val (.int (F 1)), .unset, .unset, .unset, .unset, .unset, .unset, .unset, .unset, .unset, .unset, .unset, .unset] [(.int (F 1))])) _
          refine XS.bipush X26.here hx rfl (hb hby d7_270) ?_
          exact kt)
      by_cases hc272_29 : (F 1) = (34 : Int32)
      · obtain ⟨cq30, q30, q30'⟩ := E_o0.cell
        obtain ⟨_, _, ⟨T30, L30, k30, n30⟩, -, X30, ⟨Lc30, hQ30, l30, y30, z30⟩, st30⟩ := X26.privateBack hx (y := (⟨"com/example/cistern/cistern/io/CsvReader", "endsRecord", "(I)Z"⟩ : MethodName)) hown (mvT hZ (hw _ (List.mem_of_getElem? (i := 69) rfl))) (mvT hZ (hw _ (List.mem_of_getElem? (i := 70) rfl))) (own_selp (z := (⟨"com/example/cistern/cistern/io/CsvReader", "start", "(Ljava/io/InputStream;)V"⟩ : MethodName)) rfl (mvT hZ (hw _ (List.mem_of_getElem? (i := 33) rfl))) (Cond.privateMethod_at (mvP hZ (hw _ (List.mem_of_getElem? (i := 71) rfl)) (args := #[]))) (mvT hZ (hw _ (List.mem_of_getElem? (i := 70) rfl))) (by decide)) (Cond.privateMethod_at (mvP hZ (hw _ (List.mem_of_getElem? (i := 71) rfl)) (args := #[]))) (mvT hZ (hw _ (List.mem_of_getElem? (i := 72) rfl))) (by decide) (backOf (W := 0) (rm9 l Z a0 hw [] o0 (1 : Int32) r1 (0 : Int32) (0 : Int32) (1 : Int32) (5 : Int32) F h0 n0 Z0 E_o0 F__buffer_o0 F__quoted_o0 F__closed_o0 F__start_o0 F__end_o0 V_r1 ne_o0_r1 g_o0 (by decide) (by decide)) hZ (hw _ (List.mem_of_getElem? (i := 72) rfl)) (hw _ (List.mem_of_getElem? (i := 6) rfl)) (by decide) (by decide)) (g := (mkF m 285 #[.val (.ref o0), .val (.long q1), .second, .val (.long (0 : Int64)), .second, .val (.int (1 : Int32)), .val (.int (F 1)), .unset, .unset, .unset, .unset, .unset, .unset, .unset, .unset, .unset, .unset, .unset, .unset] [(.int (1 : Int32)), (.ref o0)])) rfl (by rw [hml]; rfl) (Steps.refl _) (a := o0) (by rw [e26]; exact q30) q30' (argsL := [(.int (1 : Int32))]) (rest := []) (lenOf pd_7_1 rfl) rfl (by show 2 * 0 + _ ≤ _; exact Nat.le_of_eq rfl) (hb hby d7_285) (fun _ _ => ⟨rfl, e26, (by decide : 0 + 0 ≤ _), (by decide : 0 + 0 ≤ _)⟩)
        dsimp only [Pt.U, Pt.locs, Pt.cells, Pt.slots] at X30 l30 y30 z30 st30 hQ30
        subst l30 y30 z30
        obtain ⟨rfl, N30q, K30q, G30_0, G30_1, G30_2, G30_3, G30_4⟩ := hQ30
        have N30 := Fr.app N2 N30q
        have K31 : Keep h0 T30.heap [o0] := (Keep.refl h0 [o0]).trans K30q (allS (Or.inl (List.mem_of_getElem? (i := 0) rfl)) all0)
        have KL32 : Keep h0 T30.heap [o0] := (Keep.refl h0 [o0]).trans K30q (allS (Or.inl (List.mem_of_getElem? (i := 0) rfl)) all0)
        have Z33 : n0 ≤ T30.heap.size := Nat.le_trans Z0 K31.1
        obtain ⟨LS30, X30, N30⟩ : ∃ L, Stand p l e ({ frames := 2, cells := 0, slots := 0, locals := 28 } : Room) s m #[(.ref o0), (.long q1)] below meth c T30 L 0 0 ∧ Fr n0 L := ⟨_, X30, N30⟩
        have pre34 : ∀ t, Steps p.tables e below (T30.setTop (mkF m 288 #[.val (.ref o0), .val (.long q1), .second, .val (.long (0 : Int64)), .second, .val (.int (1 : Int32)), .val (.int (F 1)), .unset, .unset, .unset, .unset, .unset, .unset, .unset, .unset, .unset, .unset, .unset, .unset] [(.int (f9 (1 : Int32) (0 : Int32) F))])) t → Steps p.tables e below (s₁.setTop (entryFrame m #[(.ref o0), (.long q1)] 19)) t := fun t kt => pre28 t (by
            show Steps p.tables e below (T26.setTop (mkF m 272 #[.val (.ref o0), .val (.long q1), .second, .val (.long (0 : Int64)), .second, .val (.int (1 : Int32)), .val (.int (F 1)), .unset, .unset, .unset, .unset, .unset, .unset, .unset, .unset, .unset, .unset, .unset, .unset] [(.int (34 : Int32)), (.int (F 1))])) _
            refine XS.icmpYes X26.here hx rfl (pc0 := 272) (pc' := 282) rfl (hb hby d7_272) rfl (teq hc272_29).1 (by decide) (by decide) ?_
            show Steps p.tables e below (T26.setTop (mkF m 282 #[.val (.ref o0), .val (.long q1), .second, .val (.long (0 : Int64)), .second, .val (.int (1 : Int32)), .val (.int (F 1)), .unset, .unset, .unset, .unset, .unset, .unset, .unset, .unset, .unset, .unset, .unset, .unset] [])) _
            refine XS.aloadN X26.here hx rfl (hb hby d7_282) rfl rfl ?_
            show Steps p.tables e below (T26.setTop (mkF m 283 #[.val (.ref o0), .val (.long q1), .second, .val (.long (0 : Int64)), .second, .val (.int (1 : Int32)), .val (.int (F 1)), .unset, .unset, .unset, .unset, .unset, .unset, .unset, .unset, .unset, .unset, .unset, .unset] [(.ref o0)])) _
            refine XS.iload X26.here hx rfl (hb hby d7_283) rfl ?_
            show Steps p.tables e below (T26.setTop (mkF m 285 #[.val (.ref o0), .val (.long q1), .second, .val (.long (0 : Int64)), .second, .val (.int (1 : Int32)), .val (.int (F 1)), .unset, .unset, .unset, .unset, .unset, .unset, .unset, .unset, .unset, .unset, .unset, .unset] [(.int (1 : Int32)), (.ref o0)])) _
            refine st30.trans ?_
            exact kt)
        have hd288_35 : (f9 (1 : Int32) (0 : Int32) F) = (0 : Int32) := own_e0 hc272_29
        refine ⟨T30, T30.heap, _, X30, rfl, N30, KL32, G30_2, G30_3, G30_4, (by rw [hj7_259__quoted, if_pos hc272_29]; exact G30_0), (by rw [hj7_259__closed, if_pos hc272_29]; exact G30_1), fun t kt => ?_⟩
        rw [show (hj7_259_L3 F) = (0 : Int64) from by rw [hj7_259_L3, if_pos hc272_29]] at kt
        refine pre34 t ?_
        show Steps p.tables e below (T30.setTop (mkF m 288 #[.val (.ref o0), .val (.long q1), .second, .val (.long (0 : Int64)), .second, .val (.int (1 : Int32)), .val (.int (F 1)), .unset, .unset, .unset, .unset, .unset, .unset, .unset, .unset, .unset, .unset, .unset, .unset] [(.int (f9 (1 : Int32) (0 : Int32) F))])) _
        refine XS.ifYes X30.here hx rfl (pc0 := 288) (pc' := 311) rfl (hb hby d7_288) rfl ((if0 _ _).trans (teq hd288_35).1) (by decide) (by decide) ?_
        exact kt
      · have pre36 : ∀ t, Steps p.tables e below (T26.setTop (mkF m 279 #[.val (.ref o0), .val (.long q1), .second, .val (.long (0 : Int64)), .second, .val (.int (1 : Int32)), .val (.int (F 1)), .unset, .unset, .unset, .unset, .unset, .unset, .unset, .unset, .unset, .unset, .unset, .unset] [(.int (10 : Int32)), (.int (F 1))])) t → Steps p.tables e below (s₁.setTop (entryFrame m #[(.ref o0), (.long q1)] 19)) t := fun t kt => pre28 t (by
            show Steps p.tables e below (T26.setTop (mkF m 272 #[.val (.ref o0), .val (.long q1), .second, .val (.long (0 : Int64)), .second, .val (.int (1 : Int32)), .val (.int (F 1)), .unset, .unset, .unset, .unset, .unset, .unset, .unset, .unset, .unset, .unset, .unset, .unset] [(.int (34 : Int32)), (.int (F 1))])) _
            refine XS.icmpNo X26.here hx rfl (hb hby d7_272) rfl (feq hc272_29).1 ?_
            show Steps p.tables e below (T26.setTop (mkF m 275 #[.val (.ref o0), .val (.long q1), .second, .val (.long (0 : Int64)), .second, .val (.int (1 : Int32)), .val (.int (F 1)), .unset, .unset, .unset, .unset, .unset, .unset, .unset, .unset, .unset, .unset, .unset, .unset] [])) _
            refine XS.iload X26.here hx rfl (hb hby d7_275) rfl ?_
            show Steps p.tables e below (T26.setTop (mkF m 277 #[.val (.ref o0), .val (.long q1), .second, .val (.long (0 : Int64)), .second, .val (.int (1 : Int32)), .val (.int (F 1)), .unset, .unset, .unset, .unset, .unset, .unset, .unset, .unset, .unset, .unset, .unset, .unset] [(.int (F 1))])) _
            refine XS.bipush X26.here hx rfl (hb hby d7_277) ?_
            exact kt)
        by_cases hc279_37 : (F 1) = (10 : Int32)
        · obtain ⟨cq38, q38, q38'⟩ := E_o0.cell
          obtain ⟨_, _, ⟨T38, L38, k38, n38⟩, -, X38, ⟨Lc38, hQ38, l38, y38, z38⟩, st38⟩ := X26.privateBack hx (y := (⟨"com/example/cistern/cistern/io/CsvReader", "endsRecord", "(I)Z"⟩ : MethodName)) hown (mvT hZ (hw _ (List.mem_of_getElem? (i := 69) rfl))) (mvT hZ (hw _ (List.mem_of_getElem? (i := 70) rfl))) (own_selp (z := (⟨"com/example/cistern/cistern/io/CsvReader", "start", "(Ljava/io/InputStream;)V"⟩ : MethodName)) rfl (mvT hZ (hw _ (List.mem_of_getElem? (i := 33) rfl))) (Cond.privateMethod_at (mvP hZ (hw _ (List.mem_of_getElem? (i := 71) rfl)) (args := #[]))) (mvT hZ (hw _ (List.mem_of_getElem? (i := 70) rfl))) (by decide)) (Cond.privateMethod_at (mvP hZ (hw _ (List.mem_of_getElem? (i := 71) rfl)) (args := #[]))) (mvT hZ (hw _ (List.mem_of_getElem? (i := 72) rfl))) (by decide) (backOf (W := 0) (rm9 l Z a0 hw [] o0 (1 : Int32) r1 (0 : Int32) (0 : Int32) (1 : Int32) (5 : Int32) F h0 n0 Z0 E_o0 F__buffer_o0 F__quoted_o0 F__closed_o0 F__start_o0 F__end_o0 V_r1 ne_o0_r1 g_o0 (by decide) (by decide)) hZ (hw _ (List.mem_of_getElem? (i := 72) rfl)) (hw _ (List.mem_of_getElem? (i := 6) rfl)) (by decide) (by decide)) (g := (mkF m 285 #[.val (.ref o0), .val (.long q1), .second, .val (.long (0 : Int64)), .second, .val (.int (1 : Int32)), .val (.int (F 1)), .unset, .unset, .unset, .unset, .unset, .unset, .unset, .unset, .unset, .unset, .unset, .unset] [(.int (1 : Int32)), (.ref o0)])) rfl (by rw [hml]; rfl) (Steps.refl _) (a := o0) (by rw [e26]; exact q38) q38' (argsL := [(.int (1 : Int32))]) (rest := []) (lenOf pd_7_1 rfl) rfl (by show 2 * 0 + _ ≤ _; exact Nat.le_of_eq rfl) (hb hby d7_285) (fun _ _ => ⟨rfl, e26, (by decide : 0 + 0 ≤ _), (by decide : 0 + 0 ≤ _)⟩)
          dsimp only [Pt.U, Pt.locs, Pt.cells, Pt.slots] at X38 l38 y38 z38 st38 hQ38
          subst l38 y38 z38
          obtain ⟨rfl, N38q, K38q, G38_0, G38_1, G38_2, G38_3, G38_4⟩ := hQ38
          have N38 := Fr.app N2 N38q
          have K39 : Keep h0 T38.heap [o0] := (Keep.refl h0 [o0]).trans K38q (allS (Or.inl (List.mem_of_getElem? (i := 0) rfl)) all0)
          have KL40 : Keep h0 T38.heap [o0] := (Keep.refl h0 [o0]).trans K38q (allS (Or.inl (List.mem_of_getElem? (i := 0) rfl)) all0)
          have Z41 : n0 ≤ T38.heap.size := Nat.le_trans Z0 K39.1
          obtain ⟨LS38, X38, N38⟩ : ∃ L, Stand p l e ({ frames := 2, cells := 0, slots := 0, locals := 28 } : Room) s m #[(.ref o0), (.long q1)] below meth c T38 L 0 0 ∧ Fr n0 L := ⟨_, X38, N38⟩
          have pre42 : ∀ t, Steps p.tables e below (T38.setTop (mkF m 288 #[.val (.ref o0), .val (.long q1), .second, .val (.long (0 : Int64)), .second, .val (.int (1 : Int32)), .val (.int (F 1)), .unset, .unset, .unset, .unset, .unset, .unset, .unset, .unset, .unset, .unset, .unset, .unset] [(.int (f9 (1 : Int32) (0 : Int32) F))])) t → Steps p.tables e below (s₁.setTop (entryFrame m #[(.ref o0), (.long q1)] 19)) t := fun t kt => pre36 t (by
              show Steps p.tables e below (T26.setTop (mkF m 279 #[.val (.ref o0), .val (.long q1), .second, .val (.long (0 : Int64)), .second, .val (.int (1 : Int32)), .val (.int (F 1)), .unset, .unset, .unset, .unset, .unset, .unset, .unset, .unset, .unset, .unset, .unset, .unset] [(.int (10 : Int32)), (.int (F 1))])) _
              refine XS.icmpNo X26.here hx rfl (hb hby d7_279) rfl (teq hc279_37).2 ?_
              show Steps p.tables e below (T26.setTop (mkF m 282 #[.val (.ref o0), .val (.long q1), .second, .val (.long (0 : Int64)), .second, .val (.int (1 : Int32)), .val (.int (F 1)), .unset, .unset, .unset, .unset, .unset, .unset, .unset, .unset, .unset, .unset, .unset, .unset] [])) _
              refine XS.aloadN X26.here hx rfl (hb hby d7_282) rfl rfl ?_
              show Steps p.tables e below (T26.setTop (mkF m 283 #[.val (.ref o0), .val (.long q1), .second, .val (.long (0 : Int64)), .second, .val (.int (1 : Int32)), .val (.int (F 1)), .unset, .unset, .unset, .unset, .unset, .unset, .unset, .unset, .unset, .unset, .unset, .unset] [(.ref o0)])) _
              refine XS.iload X26.here hx rfl (hb hby d7_283) rfl ?_
              show Steps p.tables e below (T26.setTop (mkF m 285 #[.val (.ref o0), .val (.long q1), .second, .val (.long (0 : Int64)), .second, .val (.int (1 : Int32)), .val (.int (F 1)), .unset, .unset, .unset, .unset, .unset, .unset, .unset, .unset, .unset, .unset, .unset, .unset] [(.int (1 : Int32)), (.ref o0)])) _
              refine st38.trans ?_
              exact kt)
          by_cases hc288_43 : (f9 (1 : Int32) (0 : Int32) F) = (0 : Int32)
          · refine ⟨T38, T38.heap, _, X38, rfl, N38, KL40, G38_2, G38_3, G38_4, (by rw [hj7_259__quoted, if_neg hc272_29, if_pos hc279_37, if_pos hc288_43]; exact G38_0), (by rw [hj7_259__closed, if_neg hc272_29, if_pos hc279_37, if_pos hc288_43]; exact G38_1), fun t kt => ?_⟩
            rw [show (hj7_259_L3 F) = (0 : Int64) from by rw [hj7_259_L3, if_neg hc272_29, if_pos hc279_37, if_pos hc288_43]] at kt
            refine pre42 t ?_
            show Steps p.tables e below (T38.setTop (mkF m 288 #[.val (.ref o0), .val (.long q1), .second, .val (.long (0 : Int64)), .second, .val (.int (1 : Int32)), .val (.int (F 1)), .unset, .unset, .unset, .unset, .unset, .unset, .unset, .unset, .unset, .unset, .unset, .unset] [(.int (f9 (1 : Int32) (0 : Int32) F))])) _
            refine XS.ifYes X38.here hx rfl (pc0 := 288) (pc' := 311) rfl (hb hby d7_288) rfl ((if0 _ _).trans (teq hc288_43).1) (by decide) (by decide) ?_
            exact kt
          · have pre44 : ∀ t, Steps p.tables e below (T38.setTop (mkF m 298 #[.val (.ref o0), .val (.long q1), .second, .val (.long ((0 : Int64) + (1 : Int64))), .second, .val (.int (1 : Int32)), .val (.int (F 1)), .unset, .unset, .unset, .unset, .unset, .unset, .unset, .unset, .unset, .unset, .unset, .unset] [(.int (lcmpW ((0 : Int64) + (1 : Int64)) q1))])) t → Steps p.tables e below (s₁.setTop (entryFrame m #[(.ref o0), (.long q1)] 19)) t := fun t kt => pre42 t (by
                show Steps p.tables e below (T38.setTop (mkF m 288 #[.val (.ref o0), .val (.long q1), .second, .val (.long (0 : Int64)), .second, .val (.int (1 : Int32)), .val (.int (F 1)), .unset, .unset, .unset, .unset, .unset, .unset, .unset, .unset, .unset, .unset, .unset, .unset] [(.int (f9 (1 : Int32) (0 : Int32) F))])) _
                refine XS.ifNo X38.here hx rfl (hb hby d7_288) rfl ((if0 _ _).trans (feq hc288_43).1) ?_
                show Steps p.tables e below (T38.setTop (mkF m 291 #[.val (.ref o0), .val (.long q1), .second, .val (.long (0 : Int64)), .second, .val (.int (1 : Int32)), .val (.int (F 1)), .unset, .unset, .unset, .unset, .unset, .unset, .unset, .unset, .unset, .unset, .unset, .unset] [])) _
                refine XS.lloadN X38.here hx rfl (hb hby d7_291) rfl ?_
                show Steps p.tables e below (T38.setTop (mkF m 292 #[.val (.ref o0), .val (.long q1), .second, .val (.long (0 : Int64)), .second, .val (.int (1 : Int32)), .val (.int (F 1)), .unset, .unset, .unset, .unset, .unset, .unset, .unset, .unset, .unset, .unset, .unset, .unset] [(.long (0 : Int64))])) _
                refine XS.lconst X38.here hx rfl (hb hby d7_292) ?_
                show Steps p.tables e below (T38.setTop (mkF m 293 #[.val (.ref o0), .val (.long q1), .second, .val (.long (0 : Int64)), .second, .val (.int (1 : Int32)), .val (.int (F 1)), .unset, .unset, .unset, .unset, .unset, .unset, .unset, .unset, .unset, .unset, .unset, .unset] [(.long (1 : Int64)), (.long (0 : Int64))])) _
                refine XS.ladd X38.here hx rfl (hb hby d7_293) rfl ?_
                show Steps p.tables e below (T38.setTop (mkF m 294 #[.val (.ref o0), .val (.long q1), .second, .val (.long (0 : Int64)), .second, .val (.int (1 : Int32)), .val (.int (F 1)), .unset, .unset, .unset, .unset, .unset, .unset, .unset, .unset, .unset, .unset, .unset, .unset] [(.long ((0 : Int64) + (1 : Int64)))])) _
                jvm_step X38.here [X38.here.top, hx, (hb hby d7_294), Value.category]
                show Steps p.tables e below (T38.setTop (mkF m 295 #[.val (.ref o0), .val (.long q1), .second, .val (.long (0 : Int64)), .second, .val (.int (1 : Int32)), .val (.int (F 1)), .unset, .unset, .unset, .unset, .unset, .unset, .unset, .unset, .unset, .unset, .unset, .unset] [(.long ((0 : Int64) + (1 : Int64))), (.long ((0 : Int64) + (1 : Int64)))])) _
                refine XS.lstoreN X38.here hx rfl (hb hby d7_295) rfl (l' := #[.val (.ref o0), .val (.long q1), .second, .val (.long ((0 : Int64) + (1 : Int64))), .second, .val (.int (1 : Int32)), .val (.int (F 1)), .unset, .unset, .unset, .unset, .unset, .unset, .unset, .unset, .unset, .unset, .unset, .unset]) rfl ?_
                show Steps p.tables e below (T38.setTop (mkF m 296 #[.val (.ref o0), .val (.long q1), .second, .val (.long ((0 : Int64) + (1 : Int64))), .second, .val (.int (1 : Int32)), .val (.int (F 1)), .unset, .unset, .unset, .unset, .unset, .unset, .unset, .unset, .unset, .unset, .unset, .unset] [(.long ((0 : Int64) + (1 : Int64)))])) _
                refine XS.lloadN X38.here hx rfl (hb hby d7_296) rfl ?_
                show Steps p.tables e below (T38.setTop (mkF m 297 #[.val (.ref o0), .val (.long q1), .second, .val (.long ((0 : Int64) + (1 : Int64))), .second, .val (.int (1 : Int32)), .val (.int (F 1)), .unset, .unset, .unset, .unset, .unset, .unset, .unset, .unset, .unset, .unset, .unset, .unset] [(.long q1), (.long ((0 : Int64) + (1 : Int64)))])) _
                refine XS.lcmp X38.here hx rfl (hb hby d7_297) rfl ?_
                exact kt)
            have hd298_45 : ¬ ((lcmpW ((0 : Int64) + (1 : Int64)) q1) = (0 : Int32)) := fun z => hR259_8 ⟨hc279_37, own_e2 hc288_43, (lw_eq _ _).mp z⟩
            refine ⟨T38, T38.heap, _, X38, rfl, N38, KL40, G38_2, G38_3, G38_4, (by rw [hj7_259__quoted, if_neg hc272_29, if_pos hc279_37, if_neg hc288_43]; exact G38_0), (by rw [hj7_259__closed, if_neg hc272_29, if_pos hc279_37, if_neg hc288_43]; exact G38_1), fun t kt => ?_⟩
            rw [show (hj7_259_L3 F) = ((0 : Int64) + (1 : Int64)) from by rw [hj7_259_L3, if_neg hc272_29, if_pos hc279_37, if_neg hc288_43]] at kt
            refine pre44 t ?_
            show Steps p.tables e below (T38.setTop (mkF m 298 #[.val (.ref o0), .val (.long q1), .second, .val (.long ((0 : Int64) + (1 : Int64))), .second, .val (.int (1 : Int32)), .val (.int (F 1)), .unset, .unset, .unset, .unset, .unset, .unset, .unset, .unset, .unset, .unset, .unset, .unset] [(.int (lcmpW ((0 : Int64) + (1 : Int64)) q1))])) _
            refine XS.ifYes X38.here hx rfl (pc0 := 298) (pc' := 311) rfl (hb hby d7_298) rfl ((if0 _ _).trans (feq hd298_45).2) (by decide) (by decide) ?_
            exact kt
        · refine ⟨T26, h0, _, X26, e26, N2, (Keep.refl h0 [o0]), F__buffer_o0, F__start_o0, F__end_o0, (by rw [hj7_259__quoted, if_neg hc272_29, if_neg hc279_37]; exact F__quoted_o0), (by rw [hj7_259__closed, if_neg hc272_29, if_neg hc279_37]; exact F__closed_o0), fun t kt => ?_⟩
          rw [show (hj7_259_L3 F) = (0 : Int64) from by rw [hj7_259_L3, if_neg hc272_29, if_neg hc279_37]] at kt
          refine pre36 t ?_
          show Steps p.tables e below (T26.setTop (mkF m 279 #[.val (.ref o0), .val (.long q1), .second, .val (.long (0 : Int64)), .second, .val (.int (1 : Int32)), .val (.int (F 1)), .unset, .unset, .unset, .unset, .unset, .unset, .unset, .unset, .unset, .unset, .unset, .unset] [(.int (10 : Int32)), (.int (F 1))])) _
          refine XS.icmpYes X26.here hx rfl (pc0 := 279) (pc' := 311) rfl (hb hby d7_279) rfl (feq hc279_37).2 (by decide) (by decide) ?_
          exact kt
    have pre25 := st25
    have K46 : Keep h0 h25 [o0] := (Keep.refl h0 [o0]).trans K25q (allS (Or.inl (List.mem_of_getElem? (i := 0) rfl)) all0)
    have Z47 : n0 ≤ h25.size := Nat.le_trans Z0 K46.1
    obtain ⟨T48, X48, e48, st48⟩ := getF X25 hx hZ hown (host := "") (Or.inl (hw _ (List.mem_of_getElem? (i := 67) rfl))) (Via.of (hw _ (List.mem_of_getElem? (i := 53) rfl))) e25 V25_2 (g := (mkF m 253 #[.val (.ref o0), .val (.long q1), .second, .val (.long (hj7_259_L3 F)), .second, .val (.int (2 : Int32)), .val (.int (F 1)), .unset, .unset, .unset, .unset, .unset, .unset, .unset, .unset, .unset, .unset, .unset, .unset] [(.ref o0), (.int (2 : Int32))])) rfl rfl (hb hby d7_253)
    have pre49 : ∀ t, Steps p.tables e below (T48.setTop (mkF m 256 #[.val (.ref o0), .val (.long q1), .second, .val (.long (hj7_259_L3 F)), .second, .val (.int (2 : Int32)), .val (.int (F 1)), .unset, .unset, .unset, .unset, .unset, .unset, .unset, .unset, .unset, .unset, .unset, .unset] [(.int (5 : Int32)), (.int (2 : Int32))])) t → Steps p.tables e below (s₁.setTop (entryFrame m #[(.ref o0), (.long q1)] 19)) t := fun t kt => pre25 t (by
        show Steps p.tables e below (T25.setTop (mkF m 311 #[.val (.ref o0), .val (.long q1), .second, .val (.long (hj7_259_L3 F)), .second, .val (.int (1 : Int32)), .val (.int (F 1)), .unset, .unset, .unset, .unset, .unset, .unset, .unset, .unset, .unset, .unset, .unset, .unset] [])) _
        refine XS.iinc X25.here hx rfl (hb hby d7_311) rfl (l' := #[.val (.ref o0), .val (.long q1), .second, .val (.long (hj7_259_L3 F)), .second, .val (.int (2 : Int32)), .val (.int (F 1)), .unset, .unset, .unset, .unset, .unset, .unset, .unset, .unset, .unset, .unset, .unset, .unset]) rfl ?_
        show Steps p.tables e below (T25.setTop (mkF m 314 #[.val (.ref o0), .val (.long q1), .second, .val (.long (hj7_259_L3 F)), .second, .val (.int (2 : Int32)), .val (.int (F 1)), .unset, .unset, .unset, .unset, .unset, .unset, .unset, .unset, .unset, .unset, .unset, .unset] [])) _
        refine XS.goto X25.here hx rfl (pc0 := 314) (pc' := 250) rfl (hb hby d7_314) (by decide) (by decide) ?_
        show Steps p.tables e below (T25.setTop (mkF m 250 #[.val (.ref o0), .val (.long q1), .second, .val (.long (hj7_259_L3 F)), .second, .val (.int (2 : Int32)), .val (.int (F 1)), .unset, .unset, .unset, .unset, .unset, .unset, .unset, .unset, .unset, .unset, .unset, .unset] [])) _
        refine XS.iload X25.here hx rfl (hb hby d7_250) rfl ?_
        show Steps p.tables e below (T25.setTop (mkF m 252 #[.val (.ref o0), .val (.long q1), .second, .val (.long (hj7_259_L3 F)), .second, .val (.int (2 : Int32)), .val (.int (F 1)), .unset, .unset, .unset, .unset, .unset, .unset, .unset, .unset, .unset, .unset, .unset, .unset] [(.int (2 : Int32))])) _
        refine XS.aloadN X25.here hx rfl (hb hby d7_252) rfl rfl ?_
        show Steps p.tables e below (T25.setTop (mkF m 253 #[.val (.ref o0), .val (.long q1), .second, .val (.long (hj7_259_L3 F)), .second, .val (.int (2 : Int32)), .val (.int (F 1)), .unset, .unset, .unset, .unset, .unset, .unset, .unset, .unset, .unset, .unset, .unset, .unset] [(.ref o0), (.int (2 : Int32))])) _
        refine st48 _ ?_
        exact kt)
    have pre50 : ∀ t, Steps p.tables e below (T48.setTop (mkF m 259 #[.val (.ref o0), .val (.long q1), .second, .val (.long (hj7_259_L3 F)), .second, .val (.int (2 : Int32)), .val (.int (F 1)), .unset, .unset, .unset, .unset, .unset, .unset, .unset, .unset, .unset, .unset, .unset, .unset] [])) t → Steps p.tables e below (s₁.setTop (entryFrame m #[(.ref o0), (.long q1)] 19)) t := fun t kt => pre49 t (by
        show Steps p.tables e below (T48.setTop (mkF m 256 #[.val (.ref o0), .val (.long q1), .second, .val (.long (hj7_259_L3 F)), .second, .val (.int (2 : Int32)), .val (.int (F 1)), .unset, .unset, .unset, .unset, .unset, .unset, .unset, .unset, .unset, .unset, .unset, .unset] [(.int (5 : Int32)), (.int (2 : Int32))])) _
        refine XS.icmpNo X48.here hx rfl (hb hby d7_256) rfl (tlt (by decide : ((2 : Int32) < (5 : Int32)))).2.1 ?_
        exact kt)
    by_cases hR259_51 : ((F 2) = (10 : Int32) ∧ (hj7_259__quoted F) = (0 : Int32) ∧ ((hj7_259_L3 F) + (1 : Int64)) = q1)
    · obtain ⟨T52, X52, e52, st52⟩ := getF X48 hx hZ hown (host := "") (Or.inl (hw _ (List.mem_of_getElem? (i := 68) rfl))) (Via.of (hw _ (List.mem_of_getElem? (i := 51) rfl))) e48 V25_0 (g := (mkF m 260 #[.val (.ref o0), .val (.long q1), .second, .val (.long (hj7_259_L3 F)), .second, .val (.int (2 : Int32)), .val (.int (F 1)), .unset, .unset, .unset, .unset, .unset, .unset, .unset, .unset, .unset, .unset, .unset, .unset] [(.ref o0)])) rfl rfl (hb hby d7_260)
      obtain ⟨cl53, Ar53, Sz53, Nn53, Hs53⟩ := id (V_r1.keep K25q (ninS (Ne.symm ne_o0_r1) nin0))
      have hin53 : ¬ ((2 : Int32) < 0 ∨ cl53.slots.size ≤ ((2 : Int32)).toNatClampNeg) := inb_of Sz53 ⟨by decide, by decide⟩
      have hat53 : cl53.slots[((2 : Int32)).toNatClampNeg]? = some (.int (F 2)) := (Hs53 _ (own_lt hin53)).1
      have pre54 : ∀ t, Steps p.tables e below (T52.setTop (mkF m 272 #[.val (.ref o0), .val (.long q1), .second, .val (.long (hj7_259_L3 F)), .second, .val (.int (2 : Int32)), .val (.int (F 2)), .unset, .unset, .unset, .unset, .unset, .unset, .unset, .unset, .unset, .unset, .unset, .unset] [(.int (34 : Int32)), (.int (F 2))])) t → Steps p.tables e below (s₁.setTop (entryFrame m #[(.ref o0), (.long q1)] 19)) t := fun t kt => pre50 t (by
          show Steps p.tables e below (T48.setTop (mkF m 259 #[.val (.ref o0), .val (.long q1), .second, .val (.long (hj7_259_L3 F)), .second, .val (.int (2 : Int32)), .val (.int (F 1)), .unset, .unset, .unset, .unset, .unset, .unset, .unset, .unset, .unset, .unset, .unset, .unset] [])) _
          refine XS.aloadN X48.here hx rfl (hb hby d7_259) rfl rfl ?_
          show Steps p.tables e below (T48.setTop (mkF m 260 #[.val (.ref o0), .val (.long q1), .second, .val (.long (hj7_259_L3 F)), .second, .val (.int (2 : Int32)), .val (.int (F 1)), .unset, .unset, .unset, .unset, .unset, .unset, .unset, .unset, .unset, .unset, .unset, .unset] [(.ref o0)])) _
          refine st52 _ ?_
          show Steps p.tables e below (T52.setTop (mkF m 263 #[.val (.ref o0), .val (.long q1), .second, .val (.long (hj7_259_L3 F)), .second, .val (.int (2 : Int32)), .val (.int (F 1)), .unset, .unset, .unset, .unset, .unset, .unset, .unset, .unset, .unset, .unset, .unset, .unset] [(.ref r1)])) _
          refine XS.iload X52.here hx rfl (hb hby d7_263) rfl ?_
          show Steps p.tables e below (T52.setTop (mkF m 265 #[.val (.ref o0), .val (.long q1), .second, .val (.long (hj7_259_L3 F)), .second, .val (.int (2 : Int32)), .val (.int (F 1)), .unset, .unset, .unset, .unset, .unset, .unset, .unset, .unset, .unset, .unset, .unset, .unset] [(.int (2 : Int32)), (.ref r1)])) _
          refine X52.baloadBytes hx (j := (2 : Int32)) (v := (.int (F 2))) (by rw [e52]; exact Ar53.1) (State.isArrayOf_alike hZ.alike Ar53.2.1) Ar53.2.2 hin53 hat53 (g := (mkF m 265 #[.val (.ref o0), .val (.long q1), .second, .val (.long (hj7_259_L3 F)), .second, .val (.int (2 : Int32)), .val (.int (F 1)), .unset, .unset, .unset, .unset, .unset, .unset, .unset, .unset, .unset, .unset, .unset, .unset] [(.int (2 : Int32)), (.ref r1)])) rfl rfl (hb hby d7_265) _ ?_
          show Steps p.tables e below (T52.setTop (mkF m 266 #[.val (.ref o0), .val (.long q1), .second, .val (.long (hj7_259_L3 F)), .second, .val (.int (2 : Int32)), .val (.int (F 1)), .unset, .unset, .unset, .unset, .unset, .unset, .unset, .unset, .unset, .unset, .unset, .unset] [(.int (F 2))])) _
          refine XS.istore X52.here hx rfl (hb hby d7_266) rfl (l' := #[.val (.ref o0), .val (.long q1), .second, .val (.long (hj7_259_L3 F)), .second, .val (.int (2 : Int32)), .val (.int (F 2)), .unset, .unset, .unset, .unset, .unset, .unset, .unset, .unset, .unset, .unset, .unset, .unset]) rfl ?_
          show Steps p.tables e below (T52.setTop (mkF m 268 #[.val (.ref o0), .val (.long q1), .second, .val (.long (hj7_259_L3 F)), .second, .val (.int (2 : Int32)), .val (.int (F 2)), .unset, .unset, .unset, .unset, .unset, .unset, .unset, .unset, .unset, .unset, .unset, .unset] [])) _
          refine XS.iload X52.here hx rfl (hb hby d7_268) rfl ?_
          show Steps p.tables e below (T52.setTop (mkF m 270 #[.val (.ref o0), .val (.long q1), .second, .val (.long (hj7_259_L3 F)), .second, .val (.int (2 : Int32)), .val (.int (F 2)), .unset, .unset, .unset, .unset, .unset, .unset, .unset, .unset, .unset, .unset, .unset, .unset] [(.int (F 2))])) _
          refine XS.bipush X52.here hx rfl (hb hby d7_270) ?_
          exact kt)
      have hd272_55 : ¬ ((F 2) = (34 : Int32)) := fun z => absurd (hR259_51.1.symm.trans z) (by decide)
      have pre56 : ∀ t, Steps p.tables e below (T52.setTop (mkF m 279 #[.val (.ref o0), .val (.long q1), .second, .val (.long (hj7_259_L3 F)), .second, .val (.int (2 : Int32)), .val (.int (F 2)), .unset, .unset, .unset, .unset, .unset, .unset, .unset, .unset, .unset, .unset, .unset, .unset] [(.int (10 : Int32)), (.int (F 2))])) t → Steps p.tables e below (s₁.setTop (entryFrame m #[(.ref o0), (.long q1)] 19)) t := fun t kt => pre54 t (by
          show Steps p.tables e below (T52.setTop (mkF m 272 #[.val (.ref o0), .val (.long q1), .second, .val (.long (hj7_259_L3 F)), .second, .val (.int (2 : Int32)), .val (.int (F 2)), .unset, .unset, .unset, .unset, .unset, .unset, .unset, .unset, .unset, .unset, .unset, .unset] [(.int (34 : Int32)), (.int (F 2))])) _
          refine XS.icmpNo X52.here hx rfl (hb hby d7_272) rfl (feq hd272_55).1 ?_
          show Steps p.tables e below (T52.setTop (mkF m 275 #[.val (.ref o0), .val (.long q1), .second, .val (.long (hj7_259_L3 F)), .second, .val (.int (2 : Int32)), .val (.int (F 2)), .unset, .unset, .unset, .unset, .unset, .unset, .unset, .unset, .unset, .unset, .unset, .unset] [])) _
          refine XS.iload X52.here hx rfl (hb hby d7_275) rfl ?_
          show Steps p.tables e below (T52.setTop (mkF m 277 #[.val (.ref o0), .val (.long q1), .second, .val (.long (hj7_259_L3 F)), .second, .val (.int (2 : Int32)), .val (.int (F 2)), .unset, .unset, .unset, .unset, .unset, .unset, .unset, .unset, .unset, .unset, .unset, .unset] [(.int (F 2))])) _
          refine XS.bipush X52.here hx rfl (hb hby d7_277) ?_
          exact kt)
      have hd279_57 : (F 2) = (10 : Int32) := hR259_51.1
      obtain ⟨cq58, q58, q58'⟩ := (E_o0.keep K25q).cell
      obtain ⟨_, _, ⟨T58, L58, k58, n58⟩, -, X58, ⟨Lc58, hQ58, l58, y58, z58⟩, st58⟩ := X52.privateBack hx (y := (⟨"com/example/cistern/cistern/io/CsvReader", "endsRecord", "(I)Z"⟩ : MethodName)) hown (mvT hZ (hw _ (List.mem_of_getElem? (i := 69) rfl))) (mvT hZ (hw _ (List.mem_of_getElem? (i := 70) rfl))) (own_selp (z := (⟨"com/example/cistern/cistern/io/CsvReader", "start", "(Ljava/io/InputStream;)V"⟩ : MethodName)) rfl (mvT hZ (hw _ (List.mem_of_getElem? (i := 33) rfl))) (Cond.privateMethod_at (mvP hZ (hw _ (List.mem_of_getElem? (i := 71) rfl)) (args := #[]))) (mvT hZ (hw _ (List.mem_of_getElem? (i := 70) rfl))) (by decide)) (Cond.privateMethod_at (mvP hZ (hw _ (List.mem_of_getElem? (i := 71) rfl)) (args := #[]))) (mvT hZ (hw _ (List.mem_of_getElem? (i := 72) rfl))) (by decide) (backOf (W := 0) (rm9 l Z a0 hw [] o0 (2 : Int32) r1 (hj7_259__quoted F) (hj7_259__closed F) (1 : Int32) (5 : Int32) F h25 n0 Z47 (E_o0.keep K25q) V25_0 V25_3 V25_4 V25_1 V25_2 (V_r1.keep K25q (ninS (Ne.symm ne_o0_r1) nin0)) ne_o0_r1 g_o0 (by decide) (by decide)) hZ (hw _ (List.mem_of_getElem? (i := 72) rfl)) (hw _ (List.mem_of_getElem? (i := 6) rfl)) (by decide) (by decide)) (g := (mkF m 285 #[.val (.ref o0), .val (.long q1), .second, .val (.long (hj7_259_L3 F)), .second, .val (.int (2 : Int32)), .val (.int (F 2)), .unset, .unset, .unset, .unset, .unset, .unset, .unset, .unset, .unset, .unset, .unset, .unset] [(.int (2 : Int32)), (.ref o0)])) rfl (by rw [hml]; rfl) (Steps.refl _) (a := o0) (by rw [e52]; exact q58) q58' (argsL := [(.int (2 : Int32))]) (rest := []) (lenOf pd_7_1 rfl) rfl (by show 2 * 0 + _ ≤ _; exact Nat.le_of_eq rfl) (hb hby d7_285) (fun _ _ => ⟨rfl, e52, (by decide : 0 + 0 ≤ _), (by decide : 0 + 0 ≤ _)⟩)
      dsimp only [Pt.U, Pt.locs, Pt.cells, Pt.slots] at X58 l58 y58 z58 st58 hQ58
      subst l58 y58 z58
      obtain ⟨rfl, N58q, K58q, G58_0, G58_1, G58_2, G58_3, G58_4⟩ := hQ58
      have N58 := Fr.app N25 N58q
      have K59 : Keep h0 T58.heap [o0] := K46.trans K58q (allS (Or.inl (List.mem_of_getElem? (i := 0) rfl)) all0)
      have Z60 : n0 ≤ T58.heap.size := Nat.le_trans Z0 K59.1
      obtain ⟨LS58, X58, N58⟩ : ∃ L, Stand p l e ({ frames := 2, cells := 0, slots := 0, locals := 28 } : Room) s m #[(.ref o0), (.long q1)] below meth c T58 L 0 0 ∧ Fr n0 L := ⟨_, X58, N58⟩
      have pre61 : ∀ t, Steps p.tables e below (T58.setTop (mkF m 288 #[.val (.ref o0), .val (.long q1), .second, .val (.long (hj7_259_L3 F)), .second, .val (.int (2 : Int32)), .val (.int (F 2)), .unset, .unset, .unset, .unset, .unset, .unset, .unset, .unset, .unset, .unset, .unset, .unset] [(.int (f9 (2 : Int32) (hj7_259__quoted F) F))])) t → Steps p.tables e below (s₁.setTop (entryFrame m #[(.ref o0), (.long q1)] 19)) t := fun t kt => pre56 t (by
          show Steps p.tables e below (T52.setTop (mkF m 279 #[.val (.ref o0), .val (.long q1), .second, .val (.long (hj7_259_L3 F)), .second, .val (.int (2 : Int32)), .val (.int (F 2)), .unset, .unset, .unset, .unset, .unset, .unset, .unset, .unset, .unset, .unset, .unset, .unset] [(.int (10 : Int32)), (.int (F 2))])) _
          refine XS.icmpNo X52.here hx rfl (hb hby d7_279) rfl (teq hd279_57).2 ?_
          show Steps p.tables e below (T52.setTop (mkF m 282 #[.val (.ref o0), .val (.long q1), .second, .val (.long (hj7_259_L3 F)), .second, .val (.int (2 : Int32)), .val (.int (F 2)), .unset, .unset, .unset, .unset, .unset, .unset, .unset, .unset, .unset, .unset, .unset, .unset] [])) _
          refine XS.aloadN X52.here hx rfl (hb hby d7_282) rfl rfl ?_
          show Steps p.tables e below (T52.setTop (mkF m 283 #[.val (.ref o0), .val (.long q1), .second, .val (.long (hj7_259_L3 F)), .second, .val (.int (2 : Int32)), .val (.int (F 2)), .unset, .unset, .unset, .unset, .unset, .unset, .unset, .unset, .unset, .unset, .unset, .unset] [(.ref o0)])) _
          refine XS.iload X52.here hx rfl (hb hby d7_283) rfl ?_
          show Steps p.tables e below (T52.setTop (mkF m 285 #[.val (.ref o0), .val (.long q1), .second, .val (.long (hj7_259_L3 F)), .second, .val (.int (2 : Int32)), .val (.int (F 2)), .unset, .unset, .unset, .unset, .unset, .unset, .unset, .unset, .unset, .unset, .unset, .unset] [(.int (2 : Int32)), (.ref o0)])) _
          refine st58.trans ?_
          exact kt)
      have hd288_62 : ¬ ((f9 (2 : Int32) (hj7_259__quoted F) F) = (0 : Int32)) := own_e1 hR259_51.1 hR259_51.2.1
      have pre63 : ∀ t, Steps p.tables e below (T58.setTop (mkF m 298 #[.val (.ref o0), .val (.long q1), .second, .val (.long ((hj7_259_L3 F) + (1 : Int64))), .second, .val (.int (2 : Int32)), .val (.int (F 2)), .unset, .unset, .unset, .unset, .unset, .unset, .unset, .unset, .unset, .unset, .unset, .unset] [(.int (lcmpW ((hj7_259_L3 F) + (1 : Int64)) q1))])) t → Steps p.tables e below (s₁.setTop (entryFrame m #[(.ref o0), (.long q1)] 19)) t := fun t kt => pre61 t (by
          show Steps p.tables e below (T58.setTop (mkF m 288 #[.val (.ref o0), .val (.long q1), .second, .val (.long (hj7_259_L3 F)), .second, .val (.int (2 : Int32)), .val (.int (F 2)), .unset, .unset, .unset, .unset, .unset, .unset, .unset, .unset, .unset, .unset, .unset, .unset] [(.int (f9 (2 : Int32) (hj7_259__quoted F) F))])) _
          refine XS.ifNo X58.here hx rfl (hb hby d7_288) rfl ((if0 _ _).trans (feq hd288_62).1) ?_
          show Steps p.tables e below (T58.setTop (mkF m 291 #[.val (.ref o0), .val (.long q1), .second, .val (.long (hj7_259_L3 F)), .second, .val (.int (2 : Int32)), .val (.int (F 2)), .unset, .unset, .unset, .unset, .unset, .unset, .unset, .unset, .unset, .unset, .unset, .unset] [])) _
          refine XS.lloadN X58.here hx rfl (hb hby d7_291) rfl ?_
          show Steps p.tables e below (T58.setTop (mkF m 292 #[.val (.ref o0), .val (.long q1), .second, .val (.long (hj7_259_L3 F)), .second, .val (.int (2 : Int32)), .val (.int (F 2)), .unset, .unset, .unset, .unset, .unset, .unset, .unset, .unset, .unset, .unset, .unset, .unset] [(.long (hj7_259_L3 F))])) _
          refine XS.lconst X58.here hx rfl (hb hby d7_292) ?_
          show Steps p.tables e below (T58.setTop (mkF m 293 #[.val (.ref o0), .val (.long q1), .second, .val (.long (hj7_259_L3 F)), .second, .val (.int (2 : Int32)), .val (.int (F 2)), .unset, .unset, .unset, .unset, .unset, .unset, .unset, .unset, .unset, .unset, .unset, .unset] [(.long (1 : Int64)), (.long (hj7_259_L3 F))])) _
          refine XS.ladd X58.here hx rfl (hb hby d7_293) rfl ?_
          show Steps p.tables e below (T58.setTop (mkF m 294 #[.val (.ref o0), .val (.long q1), .second, .val (.long (hj7_259_L3 F)), .second, .val (.int (2 : Int32)), .val (.int (F 2)), .unset, .unset, .unset, .unset, .unset, .unset, .unset, .unset, .unset, .unset, .unset, .unset] [(.long ((hj7_259_L3 F) + (1 : Int64)))])) _
          jvm_step X58.here [X58.here.top, hx, (hb hby d7_294), Value.category]
          show Steps p.tables e below (T58.setTop (mkF m 295 #[.val (.ref o0), .val (.long q1), .second, .val (.long (hj7_259_L3 F)), .second, .val (.int (2 : Int32)), .val (.int (F 2)), .unset, .unset, .unset, .unset, .unset, .unset, .unset, .unset, .unset, .unset, .unset, .unset] [(.long ((hj7_259_L3 F) + (1 : Int64))), (.long ((hj7_259_L3 F) + (1 : Int64)))])) _
          refine XS.lstoreN X58.here hx rfl (hb hby d7_295) rfl (l' := #[.val (.ref o0), .val (.long q1), .second, .val (.long ((hj7_259_L3 F) + (1 : Int64))), .second, .val (.int (2 : Int32)), .val (.int (F 2)), .unset, .unset, .unset, .unset, .unset, .unset, .unset, .unset, .unset, .unset, .unset, .unset]) rfl ?_
          show Steps p.tables e below (T58.setTop (mkF m 296 #[.val (.ref o0), .val (.long q1), .second, .val (.long ((hj7_259_L3 F) + (1 : Int64))), .second, .val (.int (2 : Int32)), .val (.int (F 2)), .unset, .unset, .unset, .unset, .unset, .unset, .unset, .unset, .unset, .unset, .unset, .unset] [(.long ((hj7_259_L3 F) + (1 : Int64)))])) _
          refine XS.lloadN X58.here hx rfl (hb hby d7_296) rfl ?_
          show Steps p.tables e below (T58.setTop (mkF m 297 #[.val (.ref o0), .val (.long q1), .second, .val (.long ((hj7_259_L3 F) + (1 : Int64))), .second, .val (.int (2 : Int32)), .val (.int (F 2)), .unset, .unset, .unset, .unset, .unset, .unset, .unset, .unset, .unset, .unset, .unset, .unset] [(.long q1), (.long ((hj7_259_L3 F) + (1 : Int64)))])) _
          refine XS.lcmp X58.here hx rfl (hb hby d7_297) rfl ?_
          exact kt)
      have hd298_64 : (lcmpW ((hj7_259_L3 F) + (1 : Int64)) q1) = (0 : Int32) := (lw_eq _ _).mpr hR259_51.2.2
      obtain ⟨T65, h65, X65, e65, W65, st65⟩ := putF X58 hx hZ hown (host := "") (Or.inl (hw _ (List.mem_of_getElem? (i := 59) rfl))) (Via.of (hw _ (List.mem_of_getElem? (i := 60) rfl))) rfl G58_3 ((E_o0.keep K25q).keep K58q) (Or.inl (hw _ (List.mem_of_getElem? (i := 23) rfl))) (hw _ (List.mem_of_getElem? (i := 5) rfl)) (ty := .int) (by decide) rfl rfl (g := (mkF m 306 #[.val (.ref o0), .val (.long q1), .second, .val (.long ((hj7_259_L3 F) + (1 : Int64))), .second, .val (.int (2 : Int32)), .val (.int (F 2)), .unset, .unset, .unset, .unset, .unset, .unset, .unset, .unset, .unset, .unset, .unset, .unset] [(.int ((2 : Int32) + (1 : Int32))), (.ref o0)])) rfl rfl (hb hby d7_306)
      have Fw65 := G58_3.same W65
      have K66 : Keep h0 h65 [o0] := K59.wr W65 (Or.inl (List.mem_of_getElem? (i := 0) rfl))
      have Z67 : n0 ≤ h65.size := Nat.le_trans Z0 K66.1
      have N65 := Fr.snoc X65 N58 g_o0
      obtain ⟨LS65, X65, N65⟩ : ∃ L, Stand p l e ({ frames := 2, cells := 0, slots := 0, locals := 28 } : Room) s m #[(.ref o0), (.long q1)] below meth c T65 L 0 0 ∧ Fr n0 L := ⟨_, X65, N65⟩
      obtain ⟨fs, hr, hrun, hended, hW, hsame⟩ := X65.leave (v := some (.long q1)) (fun h => by rw [Bd.returns] at h; cases h)
      have hv192 : (f7 q1 F) = q1 := by rw [f7, if_neg hR259_8, if_pos hR259_51]
      have c193 := (G58_0.other W65 (Or.inr (slot_ne (Or.inl (hw _ (List.mem_of_getElem? (i := 49) rfl))) (Or.inl (hw _ (List.mem_of_getElem? (i := 23) rfl))) (by decide) (t := .boolean) (t' := .int) (by decide) (by decide))))
      have c194 := (G58_1.other W65 (Or.inr (slot_ne (Or.inl (hw _ (List.mem_of_getElem? (i := 74) rfl))) (Or.inl (hw _ (List.mem_of_getElem? (i := 23) rfl))) (by decide) (t := .boolean) (t' := .int) (by decide) (by decide))))
      have c195 := (G58_2.other W65 (Or.inr (slot_ne (Or.inr (hw _ (List.mem_of_getElem? (i := 21) rfl))) (Or.inl (hw _ (List.mem_of_getElem? (i := 23) rfl))) (by decide) (t := (.array .byte)) (t' := .int) (by decide) (by decide))))
      have c196 := (G58_4.other W65 (Or.inr (slot_ne (Or.inl (hw _ (List.mem_of_getElem? (i := 25) rfl))) (Or.inl (hw _ (List.mem_of_getElem? (i := 23) rfl))) (by decide) (t := .int) (t' := .int) (by decide) (by decide))))
      refine ⟨_, _, pre63 _ ?_, hrun, hended, _, _, rfl, ?_, ⟨_, rfl⟩, hW, hsame.mono (by decide) (by decide)⟩
      · show Steps p.tables e below (T58.setTop (mkF m 298 #[.val (.ref o0), .val (.long q1), .second, .val (.long ((hj7_259_L3 F) + (1 : Int64))), .second, .val (.int (2 : Int32)), .val (.int (F 2)), .unset, .unset, .unset, .unset, .unset, .unset, .unset, .unset, .unset, .unset, .unset, .unset] [(.int (lcmpW ((hj7_259_L3 F) + (1 : Int64)) q1))])) _
        refine XS.ifNo X58.here hx rfl (hb hby d7_298) rfl ((if0 _ _).trans (teq hd298_64).2) ?_
        show Steps p.tables e below (T58.setTop (mkF m 301 #[.val (.ref o0), .val (.long q1), .second, .val (.long ((hj7_259_L3 F) + (1 : Int64))), .second, .val (.int (2 : Int32)), .val (.int (F 2)), .unset, .unset, .unset, .unset, .unset, .unset, .unset, .unset, .unset, .unset, .unset, .unset] [])) _
        refine XS.aloadN X58.here hx rfl (hb hby d7_301) rfl rfl ?_
        show Steps p.tables e below (T58.setTop (mkF m 302 #[.val (.ref o0), .val (.long q1), .second, .val (.long ((hj7_259_L3 F) + (1 : Int64))), .second, .val (.int (2 : Int32)), .val (.int (F 2)), .unset, .unset, .unset, .unset, .unset, .unset, .unset, .unset, .unset, .unset, .unset, .unset] [(.ref o0)])) _
        refine XS.iload X58.here hx rfl (hb hby d7_302) rfl ?_
        show Steps p.tables e below (T58.setTop (mkF m 304 #[.val (.ref o0), .val (.long q1), .second, .val (.long ((hj7_259_L3 F) + (1 : Int64))), .second, .val (.int (2 : Int32)), .val (.int (F 2)), .unset, .unset, .unset, .unset, .unset, .unset, .unset, .unset, .unset, .unset, .unset, .unset] [(.int (2 : Int32)), (.ref o0)])) _
        refine XS.iconst X58.here hx rfl (hb hby d7_304) ?_
        show Steps p.tables e below (T58.setTop (mkF m 305 #[.val (.ref o0), .val (.long q1), .second, .val (.long ((hj7_259_L3 F) + (1 : Int64))), .second, .val (.int (2 : Int32)), .val (.int (F 2)), .unset, .unset, .unset, .unset, .unset, .unset, .unset, .unset, .unset, .unset, .unset, .unset] [(.int (1 : Int32)), (.int (2 : Int32)), (.ref o0)])) _
        refine XS.iadd X58.here hx rfl (hb hby d7_305) rfl ?_
        show Steps p.tables e below (T58.setTop (mkF m 306 #[.val (.ref o0), .val (.long q1), .second, .val (.long ((hj7_259_L3 F) + (1 : Int64))), .second, .val (.int (2 : Int32)), .val (.int (F 2)), .unset, .unset, .unset, .unset, .unset, .unset, .unset, .unset, .unset, .unset, .unset, .unset] [(.int ((2 : Int32) + (1 : Int32))), (.ref o0)])) _
        refine st65 _ ?_
        show Steps p.tables e below (T65.setTop (mkF m 309 #[.val (.ref o0), .val (.long q1), .second, .val (.long ((hj7_259_L3 F) + (1 : Int64))), .second, .val (.int (2 : Int32)), .val (.int (F 2)), .unset, .unset, .unset, .unset, .unset, .unset, .unset, .unset, .unset, .unset, .unset, .unset] [])) _
        refine XS.lloadN X65.here hx rfl (hb hby d7_309) rfl ?_
        show Steps p.tables e below (T65.setTop (mkF m 310 #[.val (.ref o0), .val (.long q1), .second, .val (.long ((hj7_259_L3 F) + (1 : Int64))), .second, .val (.int (2 : Int32)), .val (.int (F 2)), .unset, .unset, .unset, .unset, .unset, .unset, .unset, .unset, .unset, .unset, .unset, .unset] [(.long q1)])) _
        exact X65.lreturnOut hx Bd.returns (hb hby d7_310) hr
      · show Q7 Z o0 q1 r1 F h0 n0 _ T65.heap _
        rw [e65]
        exact ⟨congrArg (fun q => some (Value.long q)) hv192.symm, N65, K66, (by rw [f7_h__quoted, if_neg hR259_8, if_pos hR259_51]; exact c193), (by rw [f7_h__closed, if_neg hR259_8, if_pos hR259_51]; exact c194), c195, (by rw [f7_h__start, if_neg hR259_8, if_pos hR259_51]; exact Fw65), (by rw [f7_h__end, if_neg hR259_8, if_pos hR259_51]; exact c196)⟩
    · obtain ⟨T68, h68, L68, X68, e68, N68, K68q, V68_0, V68_1, V68_2, V68_3, V68_4, st68⟩ : ∃ (T' : State) (h' : Heap) (L' : List Loc), Stand p l e ({ frames := 2, cells := 0, slots := 0, locals := 28 } : Room) s m #[(.ref o0), (.long q1)] below meth c T' L' 0 0 ∧ T'.heap = h' ∧ Fr n0 L' ∧ Keep h25 h' [o0] ∧ Fld Z h' o0 "com/example/cistern/cistern/io/RecordReader" "_buffer" "[B" (.ref r1) ∧ Fld Z h' o0 "com/example/cistern/cistern/io/RecordReader" "_start" "I" (.int (1 : Int32)) ∧ Fld Z h' o0 "com/example/cistern/cistern/io/RecordReader" "_end" "I" (.int (5 : Int32)) ∧ Fld Z h' o0 "com/example/cistern/cistern/io/CsvReader" "_quoted" "Z" (.int (hj7_259__quoted' F)) ∧ Fld Z h' o0 "com/example/cistern/cistern/io/CsvReader" "_closed" "Z" (.int (hj7_259__closed' F)) ∧ ∀ t, Steps p.tables e below (T'.setTop (mkF m 311 #[.val (.ref o0), .val (.long q1), .second, .val (.long (hj7_259_L3' F)), .second, .val (.int (2 : Int32)), .val (.int (F 2)), .unset, .unset, .unset, .unset, .unset, .unset, .unset, .unset, .unset, .unset, .unset, .unset] [])) t → Steps p.tables e below (s₁.setTop (entryFrame m #[(.ref o0), (.long q1)] 19)) t := by
        obtain ⟨T69, X69, e69, st69⟩ := getF X48 hx hZ hown (host := "") (Or.inl (hw _ (List.mem_of_getElem? (i := 68) rfl))) (Via.of (hw _ (List.mem_of_getElem? (i := 51) rfl))) e48 V25_0 (g := (mkF m 260 #[.val (.ref o0), .val (.long q1), .second, .val (.long (hj7_259_L3 F)), .second, .val (.int (2 : Int32)), .val (.int (F 1)), .unset, .unset, .unset, .unset, .unset, .unset, .unset, .unset, .unset, .unset, .unset, .unset] [(.ref o0)])) rfl rfl (hb hby d7_260)
        obtain ⟨cl70, Ar70, Sz70, Nn70, Hs70⟩ := id (V_r1.keep K25q (ninS (Ne.symm ne_o0_r1) nin0))
        have hin70 : ¬ ((2 : Int32) < 0 ∨ cl70.slots.size ≤ ((2 : Int32)).toNatClampNeg) := inb_of Sz70 ⟨by decide, by decide⟩
        have hat70 : cl70.slots[((2 : Int32)).toNatClampNeg]? = some (.int (F 2)) := (Hs70 _ (own_lt hin70)).1
        have pre71 : ∀ t, Steps p.tables e below (T69.setTop (mkF m 272 #[.val (.ref o0), .val (.long q1), .second, .val (.long (hj7_259_L3 F)), .second, .val (.int (2 : Int32)), .val (.int (F 2)), .unset, .unset, .unset, .unset, .unset, .unset, .unset, .unset, .unset, .unset, .unset, .unset] [(.int (34 : Int32)), (.int (F 2))])) t → Steps p.tables e below (s₁.setTop (entryFrame m #[(.ref o0), (.long q1)] 19)) t := fun t kt => pre50 t (by
            show Steps p.tables e below (T48.setTop (mkF m 259 #[.val (.ref o0), .val (.long q1), .second, .val (.long (hj7_259_L3 F)), .second, .val (.int (2 : Int32)), .val (.int (F 1)), .unset, .unset, .unset, .unset, .unset, .unset, .unset, .unset, .unset, .unset, .unset, .unset] [])) _
            refine XS.aloadN X48.here hx rfl (hb hby d7_259) rfl rfl ?_
            show Steps p.tables e below (T48.setTop (mkF m 260 #[.val (.ref o0), .val (.long q1), .second, .val (.long (hj7_259_L3 F)), .second, .val (.int (2 : Int32)), .val (.int (F 1)), .unset, .unset, .unset, .unset, .unset, .unset, .unset, .unset, .unset, .unset, .unset, .unset] [(.ref o0)])) _
            refine st69 _ ?_
            show Steps p.tables e below (T69.setTop (mkF m 263 #[.val (.ref o0), .val (.long q1), .second, .val (.long (hj7_259_L3 F)), .second, .val (.int (2 : Int32)), .val (.int (F 1)), .unset, .unset, .unset, .unset, .unset, .unset, .unset, .unset, .unset, .unset, .unset, .unset] [(.ref r1)])) _
            refine XS.iload X69.here hx rfl (hb hby d7_263) rfl ?_
            show Steps p.tables e below (T69.setTop (mkF m 265 #[.val (.ref o0), .val (.long q1), .second, .val (.long (hj7_259_L3 F)), .second, .val (.int (2 : Int32)), .val (.int (F 1)), .unset, .unset, .unset, .unset, .unset, .unset, .unset, .unset, .unset, .unset, .unset, .unset] [(.int (2 : Int32)), (.ref r1)])) _
            refine X69.baloadBytes hx (j := (2 : Int32)) (v := (.int (F 2))) (by rw [e69]; exact Ar70.1) (State.isArrayOf_alike hZ.alike Ar70.2.1) Ar70.2.2 hin70 hat70 (g := (mkF m 265 #[.val (.ref o0), .val (.long q1), .second, .val (.long (hj7_259_L3 F)), .second, .val (.int (2 : Int32)), .val (.int (F 1)), .unset, .unset, .unset, .unset, .unset, .unset, .unset, .unset, .unset, .unset, .unset, .unset] [(.int (2 : Int32)), (.ref r1)])) rfl rfl (hb hby d7_265) _ ?_
            show Steps p.tables e below (T69.setTop (mkF m 266 #[.val (.ref o0), .val (.long q1), .second, .val (.long (hj7_259_L3 F)), .second, .val (.int (2 : Int32)), .val (.int (F 1)), .unset, .unset, .unset, .unset, .unset, .unset, .unset, .unset, .unset, .unset, .unset, .unset] [(.int (F 2))])) _
            refine XS.istore X69.here hx rfl (hb hby d7_266) rfl (l' := #[.val (.ref o0), .val (.long q1), .second, .val (.long (hj7_259_L3 F)), .second, .val (.int (2 : Int32)), .val (.int (F 2)), .unset, .unset, .unset, .unset, .unset, .unset, .unset, .unset, .unset, .unset, .unset, .unset]) rfl ?_
            show Steps p.tables e below (T69.setTop (mkF m 268 #[.val (.ref o0), .val (.long q1), .second, .val (.long (hj7_259_L3 F)), .second, .val (.int (2 : Int32)), .val (.int (F 2)), .unset, .unset, .unset, .unset, .unset, .unset, .unset, .unset, .unset, .unset, .unset, .unset] [])) _
            refine XS.iload X69.here hx rfl (hb hby d7_268) rfl ?_
            show Steps p.tables e below (T69.setTop (mkF m 270 #[.val (.ref o0), .val (.long q1), .second, .val (.long (hj7_259_L3 F)), .second, .val (.int (2 : Int32)), .val (.int (F 2)), .unset, .unset, .unset, .unset, .unset, .unset, .unset, .unset, .unset, .unset, .unset, .unset] [(.int (F 2))])) _
            refine XS.bipush X69.here hx rfl (hb hby d7_270) ?_
            exact kt)
        by_cases hc272_72 : (F 2) = (34 : Int32)
        · obtain ⟨cq73, q73, q73'⟩ := (E_o0.keep K25q).cell
          obtain ⟨_, _, ⟨T73, L73, k73, n73⟩, -, X73, ⟨Lc73, hQ73, l73, y73, z73⟩, st73⟩ := X69.privateBack hx (y := (⟨"com/example/cistern/cistern/io/CsvReader", "endsRecord", "(I)Z"⟩ : MethodName)) hown (mvT hZ (hw _ (List.mem_of_getElem? (i := 69) rfl))) (mvT hZ (hw _ (List.mem_of_getElem? (i := 70) rfl))) (own_selp (z := (⟨"com/example/cistern/cistern/io/CsvReader", "start", "(Ljava/io/InputStream;)V"⟩ : MethodName)) rfl (mvT hZ (hw _ (List.mem_of_getElem? (i := 33) rfl))) (Cond.privateMethod_at (mvP hZ (hw _ (List.mem_of_getElem? (i := 71) rfl)) (args := #[]))) (mvT hZ (hw _ (List.mem_of_getElem? (i := 70) rfl))) (by decide)) (Cond.privateMethod_at (mvP hZ (hw _ (List.mem_of_getElem? (i := 71) rfl)) (args := #[]))) (mvT hZ (hw _ (List.mem_of_getElem? (i := 72) rfl))) (by decide) (backOf (W := 0) (rm9 l Z a0 hw [] o0 (2 : Int32) r1 (hj7_259__quoted F) (hj7_259__closed F) (1 : Int32) (5 : Int32) F h25 n0 Z47 (E_o0.keep K25q) V25_0 V25_3 V25_4 V25_1 V25_2 (V_r1.keep K25q (ninS (Ne.symm ne_o0_r1) nin0)) ne_o0_r1 g_o0 (by decide) (by decide)) hZ (hw _ (List.mem_of_getElem? (i := 72) rfl)) (hw _ (List.mem_of_getElem? (i := 6) rfl)) (by decide) (by decide)) (g := (mkF m 285 #[.val (.ref o0), .val (.long q1), .second, .val (.long (hj7_259_L3 F)), .second, .val (.int (2 : Int32)), .val (.int (F 2)), .unset, .unset, .unset, .unset, .unset, .unset, .unset, .unset, .unset, .unset, .unset, .unset] [(.int (2 : Int32)), (.ref o0)])) rfl (by rw [hml]; rfl) (Steps.refl _) (a := o0) (by rw [e69]; exact q73) q73' (argsL := [(.int (2 : Int32))]) (rest := []) (lenOf pd_7_1 rfl) rfl (by show 2 * 0 + _ ≤ _; exact Nat.le_of_eq rfl) (hb hby d7_285) (fun _ _ => ⟨rfl, e69, (by decide : 0 + 0 ≤ _), (by decide : 0 + 0 ≤ _)⟩)
          dsimp only [Pt.U, Pt.locs, Pt.cells, Pt.slots] at X73 l73 y73 z73 st73 hQ73
          subst l73 y73 z73
          obtain ⟨rfl, N73q, K73q, G73_0, G73_1, G73_2, G73_3, G73_4⟩ := hQ73
          have N73 := Fr.app N25 N73q
          have K74 : Keep h0 T73.heap [o0] := K46.trans K73q (allS (Or.inl (List.mem_of_getElem? (i := 0) rfl)) all0)
          have KL75 : Keep h25 T73.heap [o0] := (Keep.refl h25 [o0]).trans K73q (allS (Or.inl (List.mem_of_getElem? (i := 0) rfl)) all0)
          have Z76 : n0 ≤ T73.heap.size := Nat.le_trans Z0 K74.1
          obtain ⟨LS73, X73, N73⟩ : ∃ L, Stand p l e ({ frames := 2, cells := 0, slots := 0, locals := 28 } : Room) s m #[(.ref o0), (.long q1)] below meth c T73 L 0 0 ∧ Fr n0 L := ⟨_, X73, N73⟩
          have pre77 : ∀ t, Steps p.tables e below (T73.setTop (mkF m 288 #[.val (.ref o0), .val (.long q1), .second, .val (.long (hj7_259_L3 F)), .second, .val (.int (2 : Int32)), .val (.int (F 2)), .unset, .unset, .unset, .unset, .unset, .unset, .unset, .unset, .unset, .unset, .unset, .unset] [(.int (f9 (2 : Int32) (hj7_259__quoted F) F))])) t → Steps p.tables e below (s₁.setTop (entryFrame m #[(.ref o0), (.long q1)] 19)) t := fun t kt => pre71 t (by
              show Steps p.tables e below (T69.setTop (mkF m 272 #[.val (.ref o0), .val (.long q1), .second, .val (.long (hj7_259_L3 F)), .second, .val (.int (2 : Int32)), .val (.int (F 2)), .unset, .unset, .unset, .unset, .unset, .unset, .unset, .unset, .unset, .unset, .unset, .unset] [(.int (34 : Int32)), (.int (F 2))])) _
              refine XS.icmpYes X69.here hx rfl (pc0 := 272) (pc' := 282) rfl (hb hby d7_272) rfl (teq hc272_72).1 (by decide) (by decide) ?_
              show Steps p.tables e below (T69.setTop (mkF m 282 #[.val (.ref o0), .val (.long q1), .second, .val (.long (hj7_259_L3 F)), .second, .val (.int (2 : Int32)), .val (.int (F 2)), .unset, .unset, .unset, .unset, .unset, .unset, .unset, .unset, .unset, .unset, .unset, .unset] [])) _
              refine XS.aloadN X69.here hx rfl (hb hby d7_282) rfl rfl ?_
              show Steps p.tables e below (T69.setTop (mkF m 283 #[.val (.ref o0), .val (.long q1), .second, .val (.long (hj7_259_L3 F)), .second, .val (.int (2 : Int32)), .val (.int (F 2)), .unset, .unset, .unset, .unset, .unset, .unset, .unset, .unset, .unset, .unset, .unset, .unset] [(.ref o0)])) _
              refine XS.iload X69.here hx rfl (hb hby d7_283) rfl ?_
              show Steps p.tables e below (T69.setTop (mkF m 285 #[.val (.ref o0), .val (.long q1), .second, .val (.long (hj7_259_L3 F)), .second, .val (.int (2 : Int32)), .val (.int (F 2)), .unset, .unset, .unset, .unset, .unset, .unset, .unset, .unset, .unset, .unset, .unset, .unset] [(.int (2 : Int32)), (.ref o0)])) _
              refine st73.trans ?_
              exact kt)
          have hd288_78 : (f9 (2 : Int32) (hj7_259__quoted F) F) = (0 : Int32) := own_e0 hc272_72
          refine ⟨T73, T73.heap, _, X73, rfl, N73, KL75, G73_2, G73_3, G73_4, (by rw [hj7_259__quoted', if_pos hc272_72]; exact G73_0), (by rw [hj7_259__closed', if_pos hc272_72]; exact G73_1), fun t kt => ?_⟩
          rw [show (hj7_259_L3' F) = (hj7_259_L3 F) from by rw [hj7_259_L3', if_pos hc272_72]] at kt
          refine pre77 t ?_
          show Steps p.tables e below (T73.setTop (mkF m 288 #[.val (.ref o0), .val (.long q1), .second, .val (.long (hj7_259_L3 F)), .second, .val (.int (2 : Int32)), .val (.int (F 2)), .unset, .unset, .unset, .unset, .unset, .unset, .unset, .unset, .unset, .unset, .unset, .unset] [(.int (f9 (2 : Int32) (hj7_259__quoted F) F))])) _
          refine XS.ifYes X73.here hx rfl (pc0 := 288) (pc' := 311) rfl (hb hby d7_288) rfl ((if0 _ _).trans (teq hd288_78).1) (by decide) (by decide) ?_
          exact kt
        · have pre79 : ∀ t, Steps p.tables e below (T69.setTop (mkF m 279 #[.val (.ref o0), .val (.long q1), .second, .val (.long (hj7_259_L3 F)), .second, .val (.int (2 : Int32)), .val (.int (F 2)), .unset, .unset, .unset, .unset, .unset, .unset, .unset, .unset, .unset, .unset, .unset, .unset] [(.int (10 : Int32)), (.int (F 2))])) t → Steps p.tables e below (s₁.setTop (entryFrame m #[(.ref o0), (.long q1)] 19)) t := fun t kt => pre71 t (by
              show Steps p.tables e below (T69.setTop (mkF m 272 #[.val (.ref o0), .val (.long q1), .second, .val (.long (hj7_259_L3 F)), .second, .val (.int (2 : Int32)), .val (.int (F 2)), .unset, .unset, .unset, .unset, .unset, .unset, .unset, .unset, .unset, .unset, .unset, .unset] [(.int (34 : Int32)), (.int (F 2))])) _
              refine XS.icmpNo X69.here hx rfl (hb hby d7_272) rfl (feq hc272_72).1 ?_
              show Steps p.tables e below (T69.setTop (mkF m 275 #[.val (.ref o0), .val (.long q1), .second, .val (.long (hj7_259_L3 F)), .second, .val (.int (2 : Int32)), .val (.int (F 2)), .unset, .unset, .unset, .unset, .unset, .unset, .unset, .unset, .unset, .unset, .unset, .unset] [])) _
              refine XS.iload X69.here hx rfl (hb hby d7_275) rfl ?_
              show Steps p.tables e below (T69.setTop (mkF m 277 #[.val (.ref o0), .val (.long q1), .second, .val (.long (hj7_259_L3 F)), .second, .val (.int (2 : Int32)), .val (.int (F 2)), .unset, .unset, .unset, .unset, .unset, .unset, .unset, .unset, .unset, .unset, .unset, .unset] [(.int (F 2))])) _
              refine XS.bipush X69.here hx rfl (hb hby d7_277) ?_
              exact kt)
          by_cases hc279_80 : (F 2) = (10 : Int32)
          · obtain ⟨cq81, q81, q81'⟩ := (E_o0.keep K25q).cell
            obtain ⟨_, _, ⟨T81, L81, k81, n81⟩, -, X81, ⟨Lc81, hQ81, l81, y81, z81⟩, st81⟩ := X69.privateBack hx (y := (⟨"com/example/cistern/cistern/io/CsvReader", "endsRecord", "(I)Z"⟩ : MethodName)) hown (mvT hZ (hw _ (List.mem_of_getElem? (i := 69) rfl))) (mvT hZ (hw _ (List.mem_of_getElem? (i := 70) rfl))) (own_selp (z := (⟨"com/example/cistern/cistern/io/CsvReader", "start", "(Ljava/io/InputStream;)V"⟩ : MethodName)) rfl (mvT hZ (hw _ (List.mem_of_getElem? (i := 33) rfl))) (Cond.privateMethod_at (mvP hZ (hw _ (List.mem_of_getElem? (i := 71) rfl)) (args := #[]))) (mvT hZ (hw _ (List.mem_of_getElem? (i := 70) rfl))) (by decide)) (Cond.privateMethod_at (mvP hZ (hw _ (List.mem_of_getElem? (i := 71) rfl)) (args := #[]))) (mvT hZ (hw _ (List.mem_of_getElem? (i := 72) rfl))) (by decide) (backOf (W := 0) (rm9 l Z a0 hw [] o0 (2 : Int32) r1 (hj7_259__quoted F) (hj7_259__closed F) (1 : Int32) (5 : Int32) F h25 n0 Z47 (E_o0.keep K25q) V25_0 V25_3 V25_4 V25_1 V25_2 (V_r1.keep K25q (ninS (Ne.symm ne_o0_r1) nin0)) ne_o0_r1 g_o0 (by decide) (by decide)) hZ (hw _ (List.mem_of_getElem? (i := 72) rfl)) (hw _ (List.mem_of_getElem? (i := 6) rfl)) (by decide) (by decide)) (g := (mkF m 285 #[.val (.ref o0), .val (.long q1), .second, .val (.long (hj7_259_L3 F)), .second, .val (.int (2 : Int32)), .val (.int (F 2)), .unset, .unset, .unset, .unset, .unset, .unset, .unset, .unset, .unset, .unset, .unset, .unset] [(.int (2 : Int32)), (.ref o0)])) rfl (by rw [hml]; rfl) (Steps.refl _) (a := o0) (by rw [e69]; exact q81) q81' (argsL := [(.int (2 : Int32))]) (rest := []) (lenOf pd_7_1 rfl) rfl (by show 2 * 0 + _ ≤ _; exact Nat.le_of_eq rfl) (hb hby d7_285) (fun _ _ => ⟨rfl, e69, (by decide : 0 + 0 ≤ _), (by decide : 0 + 0 ≤ _)⟩)
            dsimp only [Pt.U, Pt.locs, Pt.cells, Pt.slots] at X81 l81 y81 z81 st81 hQ81
            subst l81 y81 z81
            obtain ⟨rfl, N81q, K81q, G81_0, G81_1, G81_2, G81_3, G81_4⟩ := hQ81
            have N81 := Fr.app N25 N81q
            have K82 : Keep h0 T81.heap [o0] := K46.trans K81q (allS (Or.inl (List.mem_of_getElem? (i := 0) rfl)) all0)
            have KL83 : Keep h25 T81.heap [o0] := (Keep.refl h25 [o0]).trans K81q (allS (Or.inl (List.mem_of_getElem? (i := 0) rfl)) all0)
            have Z84 : n0 ≤ T81.heap.size := Nat.le_trans Z0 K82.1
            obtain ⟨LS81, X81, N81⟩ : ∃ L, Stand p l e ({ frames := 2, cells := 0, slots := 0, locals := 28 } : Room) s m #[(.ref o0), (.long q1)] below meth c T81 L 0 0 ∧ Fr n0 L := ⟨_, X81, N81⟩
            have pre85 : ∀ t, Steps p.tables e below (T81.setTop (mkF m 288 #[.val (.ref o0), .val (.long q1), .second, .val (.long (hj7_259_L3 F)), .second, .val (.int (2 : Int32)), .val (.int (F 2)), .unset, .unset, .unset, .unset, .unset, .unset, .unset, .unset, .unset, .unset, .unset, .unset] [(.int (f9 (2 : Int32) (hj7_259__quoted F) F))])) t → Steps p.tables e below (s₁.setTop (entryFrame m #[(.ref o0), (.long q1)] 19)) t := fun t kt => pre79 t (by
                show Steps p.tables e below (T69.setTop (mkF m 279 #[.val (.ref o0), .val (.long q1), .second, .val (.long (hj7_259_L3 F)), .second, .val (.int (2 : Int32)), .val (.int (F 2)), .unset, .unset, .unset, .unset, .unset, .unset, .unset, .unset, .unset, .unset, .unset, .unset] [(.int (10 : Int32)), (.int (F 2))])) _
                refine XS.icmpNo X69.here hx rfl (hb hby d7_279) rfl (teq hc279_80).2 ?_
                show Steps p.tables e below (T69.setTop (mkF m 282 #[.val (.ref o0), .val (.long q1), .second, .val (.long (hj7_259_L3 F)), .second, .val (.int (2 : Int32)), .val (.int (F 2)), .unset, .unset, .unset, .unset, .unset, .unset, .unset, .unset, .unset, .unset, .unset, .unset] [])) _
                refine XS.aloadN X69.here hx rfl (hb hby d7_282) rfl rfl ?_
                show Steps p.tables e below (T69.setTop (mkF m 283 #[.val (.ref o0), .val (.long q1), .second, .val (.long (hj7_259_L3 F)), .second, .val (.int (2 : Int32)), .val (.int (F 2)), .unset, .unset, .unset, .unset, .unset, .unset, .unset, .unset, .unset, .unset, .unset, .unset] [(.ref o0)])) _
                refine XS.iload X69.here hx rfl (hb hby d7_283) rfl ?_
                show Steps p.tables e below (T69.setTop (mkF m 285 #[.val (.ref o0), .val (.long q1), .second, .val (.long (hj7_259_L3 F)), .second, .val (.int (2 : Int32)), .val (.int (F 2)), .unset, .unset, .unset, .unset, .unset, .unset, .unset, .unset, .unset, .unset, .unset, .unset] [(.int (2 : Int32)), (.ref o0)])) _
                refine st81.trans ?_
                exact kt)
            by_cases hc288_86 : (f9 (2 : Int32) (hj7_259__quoted F) F) = (0 : Int32)
            · refine ⟨T81, T81.heap, _, X81, rfl, N81, KL83, G81_2, G81_3, G81_4, (by rw [hj7_259__quoted', if_neg hc272_72, if_pos hc279_80, if_pos hc288_86]; exact G81_0), (by rw [hj7_259__closed', if_neg hc272_72, if_pos hc279_80, if_pos hc288_86]; exact G81_1), fun t kt => ?_⟩
              rw [show (hj7_259_L3' F) = (hj7_259_L3 F) from by rw [hj7_259_L3', if_neg hc272_72, if_pos hc279_80, if_pos hc288_86]] at kt
              refine pre85 t ?_
              show Steps p.tables e below (T81.setTop (mkF m 288 #[.val (.ref o0), .val (.long q1), .second, .val (.long (hj7_259_L3 F)), .second, .val (.int (2 : Int32)), .val (.int (F 2)), .unset, .unset, .unset, .unset, .unset, .unset, .unset, .unset, .unset, .unset, .unset, .unset] [(.int (f9 (2 : Int32) (hj7_259__quoted F) F))])) _
              refine XS.ifYes X81.here hx rfl (pc0 := 288) (pc' := 311) rfl (hb hby d7_288) rfl ((if0 _ _).trans (teq hc288_86).1) (by decide) (by decide) ?_
              exact kt
            · have pre87 : ∀ t, Steps p.tables e below (T81.setTop (mkF m 298 #[.val (.ref o0), .val (.long q1), .second, .val (.long ((hj7_259_L3 F) + (1 : Int64))), .second, .val (.int (2 : Int32)), .val (.int (F 2)), .unset, .unset, .unset, .unset, .unset, .unset, .unset, .unset, .unset, .unset, .unset, .unset] [(.int (lcmpW ((hj7_259_L3 F) + (1 : Int64)) q1))])) t → Steps p.tables e below (s₁.setTop (entryFrame m #[(.ref o0), (.long q1)] 19)) t := fun t kt => pre85 t (by
                  show Steps p.tables e below (T81.setTop (mkF m 288 #[.val (.ref o0), .val (.long q1), .second, .val (.long (hj7_259_L3 F)), .second, .val (.int (2 : Int32)), .val (.int (F 2)), .unset, .unset, .unset, .unset, .unset, .unset, .unset, .unset, .unset, .unset, .unset, .unset] [(.int (f9 (2 : Int32) (hj7_259__quoted F) F))])) _
                  refine XS.ifNo X81.here hx rfl (hb hby d7_288) rfl ((if0 _ _).trans (feq hc288_86).1) ?_
                  show Steps p.tables e below (T81.setTop (mkF m 291 #[.val (.ref o0), .val (.long q1), .second, .val (.long (hj7_259_L3 F)), .second, .val (.int (2 : Int32)), .val (.int (F 2)), .unset, .unset, .unset, .unset, .unset, .unset, .unset, .unset, .unset, .unset, .unset, .unset] [])) _
                  refine XS.lloadN X81.here hx rfl (hb hby d7_291) rfl ?_
                  show Steps p.tables e below (T81.setTop (mkF m 292 #[.val (.ref o0), .val (.long q1), .second, .val (.long (hj7_259_L3 F)), .second, .val (.int (2 : Int32)), .val (.int (F 2)), .unset, .unset, .unset, .unset, .unset, .unset, .unset, .unset, .unset, .unset, .unset, .unset] [(.long (hj7_259_L3 F))])) _
                  refine XS.lconst X81.here hx rfl (hb hby d7_292) ?_
                  show Steps p.tables e below (T81.setTop (mkF m 293 #[.val (.ref o0), .val (.long q1), .second, .val (.long (hj7_259_L3 F)), .second, .val (.int (2 : Int32)), .val (.int (F 2)), .unset, .unset, .unset, .unset, .unset, .unset, .unset, .unset, .unset, .unset, .unset, .unset] [(.long (1 : Int64)), (.long (hj7_259_L3 F))])) _
                  refine XS.ladd X81.here hx rfl (hb hby d7_293) rfl ?_
                  show Steps p.tables e below (T81.setTop (mkF m 294 #[.val (.ref o0), .val (.long q1), .second, .val (.long (hj7_259_L3 F)), .second, .val (.int (2 : Int32)), .val (.int (F 2)), .unset, .unset, .unset, .unset, .unset, .unset, .unset, .unset, .unset, .unset, .unset, .unset] [(.long ((hj7_259_L3 F) + (1 : Int64)))])) _
                  jvm_step X81.here [X81.here.top, hx, (hb hby d7_294), Value.category]
                  show Steps p.tables e below (T81.setTop (mkF m 295 #[.val (.ref o0), .val (.long q1), .second, .val (.long (hj7_259_L3 F)), .second, .val (.int (2 : Int32)), .val (.int (F 2)), .unset, .unset, .unset, .unset, .unset, .unset, .unset, .unset, .unset, .unset, .unset, .unset] [(.long ((hj7_259_L3 F) + (1 : Int64))), (.long ((hj7_259_L3 F) + (1 : Int64)))])) _
                  refine XS.lstoreN X81.here hx rfl (hb hby d7_295) rfl (l' := #[.val (.ref o0), .val (.long q1), .second, .val (.long ((hj7_259_L3 F) + (1 : Int64))), .second, .val (.int (2 : Int32)), .val (.int (F 2)), .unset, .unset, .unset, .unset, .unset, .unset, .unset, .unset, .unset, .unset, .unset, .unset]) rfl ?_
                  show Steps p.tables e below (T81.setTop (mkF m 296 #[.val (.ref o0), .val (.long q1), .second, .val (.long ((hj7_259_L3 F) + (1 : Int64))), .second, .val (.int (2 : Int32)), .val (.int (F 2)), .unset, .unset, .unset, .unset, .unset, .unset, .unset, .unset, .unset, .unset, .unset, .unset] [(.long ((hj7_259_L3 F) + (1 : Int64)))])) _
                  refine XS.lloadN X81.here hx rfl (hb hby d7_296) rfl ?_
                  show Steps p.tables e below (T81.setTop (mkF m 297 #[.val (.ref o0), .val (.long q1), .second, .val (.long ((hj7_259_L3 F) + (1 : Int64))), .second, .val (.int (2 : Int32)), .val (.int (F 2)), .unset, .unset, .unset, .unset, .unset, .unset, .unset, .unset, .unset, .unset, .unset, .unset] [(.long q1), (.long ((hj7_259_L3 F) + (1 : Int64)))])) _
                  refine XS.lcmp X81.here hx rfl (hb hby d7_297) rfl ?_
                  exact kt)
              have hd298_88 : ¬ ((lcmpW ((hj7_259_L3 F) + (1 : Int64)) q1) = (0 : Int32)) := fun z => hR259_51 ⟨hc279_80, own_e2 hc288_86, (lw_eq _ _).mp z⟩
              refine ⟨T81, T81.heap, _, X81, rfl, N81, KL83, G81_2, G81_3, G81_4, (by rw [hj7_259__quoted', if_neg hc272_72, if_pos hc279_80, if_neg hc288_86]; exact G81_0), (by rw [hj7_259__closed', if_neg hc272_72, if_pos hc279_80, if_neg hc288_86]; exact G81_1), fun t kt => ?_⟩
              rw [show (hj7_259_L3' F) = ((hj7_259_L3 F) + (1 : Int64)) from by rw [hj7_259_L3', if_neg hc272_72, if_pos hc279_80, if_neg hc288_86]] at kt
              refine pre87 t ?_
              show Steps p.tables e below (T81.setTop (mkF m 298 #[.val (.ref o0), .val (.long q1), .second, .val (.long ((hj7_259_L3 F) + (1 : Int64))), .second, .val (.int (2 : Int32)), .val (.int (F 2)), .unset, .unset, .unset, .unset, .unset, .unset, .unset, .unset, .unset, .unset, .unset, .unset] [(.int (lcmpW ((hj7_259_L3 F) + (1 : Int64)) q1))])) _
              refine XS.ifYes X81.here hx rfl (pc0 := 298) (pc' := 311) rfl (hb hby d7_298) rfl ((if0 _ _).trans (feq hd298_88).2) (by decide) (by decide) ?_
              exact kt
          · refine ⟨T69, h25, _, X69, e69, N25, (Keep.refl h25 [o0]), V25_0, V25_1, V25_2, (by rw [hj7_259__quoted', if_neg hc272_72, if_neg hc279_80]; exact V25_3), (by rw [hj7_259__closed', if_neg hc272_72, if_neg hc279_80]; exact V25_4), fun t kt => ?_⟩
            rw [show (hj7_259_L3' F) = (hj7_259_L3 F) from by rw [hj7_259_L3', if_neg hc272_72, if_neg hc279_80]] at kt
            refine pre79 t ?_
            show Steps p.tables e below (T69.setTop (mkF m 279 #[.val (.ref o0), .val (.long q1), .second, .val (.long (hj7_259_L3 F)), .second, .val (.int (2 : Int32)), .val (.int (F 2)), .unset, .unset, .unset, .unset, .unset, .unset, .unset, .unset, .unset, .unset, .unset, .unset] [(.int (10 : Int32)), (.int (F 2))])) _
            refine XS.icmpYes X69.here hx rfl (pc0 := 279) (pc' := 311) rfl (hb hby d7_279) rfl (feq hc279_80).2 (by decide) (by decide) ?_
            exact kt
      have pre68 := st68
      have K89 : Keep h0 h68 [o0] := K46.trans K68q (allS (Or.inl (List.mem_of_getElem? (i := 0) rfl)) all0)
      have Z90 : n0 ≤ h68.size := Nat.le_trans Z0 K89.1
      obtain ⟨T91, X91, e91, st91⟩ := getF X68 hx hZ hown (host := "") (Or.inl (hw _ (List.mem_of_getElem? (i := 67) rfl))) (Via.of (hw _ (List.mem_of_getElem? (i := 53) rfl))) e68 V68_2 (g := (mkF m 253 #[.val (.ref o0), .val (.long q1), .second, .val (.long (hj7_259_L3' F)), .second, .val (.int (3 : Int32)), .val (.int (F 2)), .unset, .unset, .unset, .unset, .unset, .unset, .unset, .unset, .unset, .unset, .unset, .unset] [(.ref o0), (.int (3 : Int32))])) rfl rfl (hb hby d7_253)
      have pre92 : ∀ t, Steps p.tables e below (T91.setTop (mkF m 256 #[.val (.ref o0), .val (.long q1), .second, .val (.long (hj7_259_L3' F)), .second, .val (.int (3 : Int32)), .val (.int (F 2)), .unset, .unset, .unset, .unset, .unset, .unset, .unset, .unset, .unset, .unset, .unset, .unset] [(.int (5 : Int32)), (.int (3 : Int32))])) t → Steps p.tables e below (s₁.setTop (entryFrame m #[(.ref o0), (.long q1)] 19)) t := fun t kt => pre68 t (by
          show Steps p.tables e below (T68.setTop (mkF m 311 #[.val (.ref o0), .val (.long q1), .second, .val (.long (hj7_259_L3' F)), .second, .val (.int (2 : Int32)), .val (.int (F 2)), .unset, .unset, .unset, .unset, .unset, .unset, .unset, .unset, .unset, .unset, .unset, .unset] [])) _
          refine XS.iinc X68.here hx rfl (hb hby d7_311) rfl (l' := #[.val (.ref o0), .val (.long q1), .second, .val (.long (hj7_259_L3' F)), .second, .val (.int (3 : Int32)), .val (.int (F 2)), .unset, .unset, .unset, .unset, .unset, .unset, .unset, .unset, .unset, .unset, .unset, .unset]) rfl ?_
          show Steps p.tables e below (T68.setTop (mkF m 314 #[.val (.ref o0), .val (.long q1), .second, .val (.long (hj7_259_L3' F)), .second, .val (.int (3 : Int32)), .val (.int (F 2)), .unset, .unset, .unset, .unset, .unset, .unset, .unset, .unset, .unset, .unset, .unset, .unset] [])) _
          refine XS.goto X68.here hx rfl (pc0 := 314) (pc' := 250) rfl (hb hby d7_314) (by decide) (by decide) ?_
          show Steps p.tables e below (T68.setTop (mkF m 250 #[.val (.ref o0), .val (.long q1), .second, .val (.long (hj7_259_L3' F)), .second, .val (.int (3 : Int32)), .val (.int (F 2)), .unset, .unset, .unset, .unset, .unset, .unset, .unset, .unset, .unset, .unset, .unset, .unset] [])) _
          refine XS.iload X68.here hx rfl (hb hby d7_250) rfl ?_
          show Steps p.tables e below (T68.setTop (mkF m 252 #[.val (.ref o0), .val (.long q1), .second, .val (.long (hj7_259_L3' F)), .second, .val (.int (3 : Int32)), .val (.int (F 2)), .unset, .unset, .unset, .unset, .unset, .unset, .unset, .unset, .unset, .unset, .unset, .unset] [(.int (3 : Int32))])) _
          refine XS.aloadN X68.here hx rfl (hb hby d7_252) rfl rfl ?_
          show Steps p.tables e below (T68.setTop (mkF m 253 #[.val (.ref o0), .val (.long q1), .second, .val (.long (hj7_259_L3' F)), .second, .val (.int (3 : Int32)), .val (.int (F 2)), .unset, .unset, .unset, .unset, .unset, .unset, .unset, .unset, .unset, .unset, .unset, .unset] [(.ref o0), (.int (3 : Int32))])) _
          refine st91 _ ?_
          exact kt)
      have pre93 : ∀ t, Steps p.tables e below (T91.setTop (mkF m 259 #[.val (.ref o0), .val (.long q1), .second, .val (.long (hj7_259_L3' F)), .second, .val (.int (3 : Int32)), .val (.int (F 2)), .unset, .unset, .unset, .unset, .unset, .unset, .unset, .unset, .unset, .unset, .unset, .unset] [])) t → Steps p.tables e below (s₁.setTop (entryFrame m #[(.ref o0), (.long q1)] 19)) t := fun t kt => pre92 t (by
          show Steps p.tables e below (T91.setTop (mkF m 256 #[.val (.ref o0), .val (.long q1), .second, .val (.long (hj7_259_L3' F)), .second, .val (.int (3 : Int32)), .val (.int (F 2)), .unset, .unset, .unset, .unset, .unset, .unset, .unset, .unset, .unset, .unset, .unset, .unset] [(.int (5 : Int32)), (.int (3 : Int32))])) _
          refine XS.icmpNo X91.here hx rfl (hb hby d7_256) rfl (tlt (by decide : ((3 : Int32) < (5 : Int32)))).2.1 ?_
          exact kt)
      by_cases hR259_94 : ((F 3) = (10 : Int32) ∧ (hj7_259__quoted' F) = (0 : Int32) ∧ ((hj7_259_L3' F) + (1 : Int64)) = q1)
      · obtain ⟨T95, X95, e95, st95⟩ := getF X91 hx hZ hown (host := "") (Or.inl (hw _ (List.mem_of_getElem? (i := 68) rfl))) (Via.of (hw _ (List.mem_of_getElem? (i := 51) rfl))) e91 V68_0 (g := (mkF m 260 #[.val (.ref o0), .val (.long q1), .second, .val (.long (hj7_259_L3' F)), .second, .val (.int (3 : Int32)), .val (.int (F 2)), .unset, .unset, .unset, .unset, .unset, .unset, .unset, .unset, .unset, .unset, .unset, .unset] [(.ref o0)])) rfl rfl (hb hby d7_260)
        have c97 := ((V_r1.keep K25q (ninS (Ne.symm ne_o0_r1) nin0)).keep K68q (ninS (Ne.symm ne_o0_r1) nin0))
        obtain ⟨cl96, Ar96, Sz96, Nn96, Hs96⟩ := id c97
        have hin96 : ¬ ((3 : Int32) < 0 ∨ cl96.slots.size ≤ ((3 : Int32)).toNatClampNeg) := inb_of Sz96 ⟨by decide, by decide⟩
        have hat96 : cl96.slots[((3 : Int32)).toNatClampNeg]? = some (.int (F 3)) := (Hs96 _ (own_lt hin96)).1
        have pre98 : ∀ t, Steps p.tables e below (T95.setTop (mkF m 272 #[.val (.ref o0), .val (.long q1), .second, .val (.long (hj7_259_L3' F)), .second, .val (.int (3 : Int32)), .val (.int (F 3)), .unset, .unset, .unset, .unset, .unset, .unset, .unset, .unset, .unset, .unset, .unset, .unset] [(.int (34 : Int32)), (.int (F 3))])) t → Steps p.tables e below (s₁.setTop (entryFrame m #[(.ref o0), (.long q1)] 19)) t := fun t kt => pre93 t (by
            show Steps p.tables e below (T91.setTop (mkF m 259 #[.val (.ref o0), .val (.long q1), .second, .val (.long (hj7_259_L3' F)), .second, .val (.int (3 : Int32)), .val (.int (F 2)), .unset, .unset, .unset, .unset, .unset, .unset, .unset, .unset, .unset, .unset, .unset, .unset] [])) _
            refine XS.aloadN X91.here hx rfl (hb hby d7_259) rfl rfl ?_
            show Steps p.tables e below (T91.setTop (mkF m 260 #[.val (.ref o0), .val (.long q1), .second, .val (.long (hj7_259_L3' F)), .second, .val (.int (3 : Int32)), .val (.int (F 2)), .unset, .unset, .unset, .unset, .unset, .unset, .unset, .unset, .unset, .unset, .unset, .unset] [(.ref o0)])) _
            refine st95 _ ?_
            show Steps p.tables e below (T95.setTop (mkF m 263 #[.val (.ref o0), .val (.long q1), .second, .val (.long (hj7_259_L3' F)), .second, .val (.int (3 : Int32)), .val (.int (F 2)), .unset, .unset, .unset, .unset, .unset, .unset, .unset, .unset, .unset, .unset, .unset, .unset] [(.ref r1)])) _
            refine XS.iload X95.here hx rfl (hb hby d7_263) rfl ?_
            show Steps p.tables e below (T95.setTop (mkF m 265 #[.val (.ref o0), .val (.long q1), .second, .val (.long (hj7_259_L3' F)), .second, .val (.int (3 : Int32)), .val (.int (F 2)), .unset, .unset, .unset, .unset, .unset, .unset, .unset, .unset, .unset, .unset, .unset, .unset] [(.int (3 : Int32)), (.ref r1)])) _
            refine X95.baloadBytes hx (j := (3 : Int32)) (v := (.int (F 3))) (by rw [e95]; exact Ar96.1) (State.isArrayOf_alike hZ.alike Ar96.2.1) Ar96.2.2 hin96 hat96 (g := (mkF m 265 #[.val (.ref o0), .val (.long q1), .second, .val (.long (hj7_259_L3' F)), .second, .val (.int (3 : Int32)), .val (.int (F 2)), .unset, .unset, .unset, .unset, .unset, .unset, .unset, .unset, .unset, .unset, .unset, .unset] [(.int (3 : Int32)), (.ref r1)])) rfl rfl (hb hby d7_265) _ ?_
            show Steps p.tables e below (T95.setTop (mkF m 266 #[.val (.ref o0), .val (.long q1), .second, .val (.long (hj7_259_L3' F)), .second, .val (.int (3 : Int32)), .val (.int (F 2)), .unset, .unset, .unset, .unset, .unset, .unset, .unset, .unset, .unset, .unset, .unset, .unset] [(.int (F 3))])) _
            refine XS.istore X95.here hx rfl (hb hby d7_266) rfl (l' := #[.val (.ref o0), .val (.long q1), .second, .val (.long (hj7_259_L3' F)), .second, .val (.int (3 : Int32)), .val (.int (F 3)), .unset, .unset, .unset, .unset, .unset, .unset, .unset, .unset, .unset, .unset, .unset, .unset]) rfl ?_
            show Steps p.tables e below (T95.setTop (mkF m 268 #[.val (.ref o0), .val (.long q1), .second, .val (.long (hj7_259_L3' F)), .second, .val (.int (3 : Int32)), .val (.int (F 3)), .unset, .unset, .unset, .unset, .unset, .unset, .unset, .unset, .unset, .unset, .unset, .unset] [])) _
            refine XS.iload X95.here hx rfl (hb hby d7_268) rfl ?_
            show Steps p.tables e below (T95.setTop (mkF m 270 #[.val (.ref o0), .val (.long q1), .second, .val (.long (hj7_259_L3' F)), .second, .val (.int (3 : Int32)), .val (.int (F 3)), .unset, .unset, .unset, .unset, .unset, .unset, .unset, .unset, .unset, .unset, .unset, .unset] [(.int (F 3))])) _
            refine XS.bipush X95.here hx rfl (hb hby d7_270) ?_
            exact kt)
        have hd272_99 : ¬ ((F 3) = (34 : Int32)) := fun z => absurd (hR259_94.1.symm.trans z) (by decide)
        have pre100 : ∀ t, Steps p.tables e below (T95.setTop (mkF m 279 #[.val (.ref o0), .val (.long q1), .second, .val (.long (hj7_259_L3' F)), .second, .val (.int (3 : Int32)), .val (.int (F 3)), .unset, .unset, .unset, .unset, .unset, .unset, .unset, .unset, .unset, .unset, .unset, .unset] [(.int (10 : Int32)), (.int (F 3))])) t → Steps p.tables e below (s₁.setTop (entryFrame m #[(.ref o0), (.long q1)] 19)) t := fun t kt => pre98 t (by
            show Steps p.tables e below (T95.setTop (mkF m 272 #[.val (.ref o0), .val (.long q1), .second, .val (.long (hj7_259_L3' F)), .second, .val (.int (3 : Int32)), .val (.int (F 3)), .unset, .unset, .unset, .unset, .unset, .unset, .unset, .unset, .unset, .unset, .unset, .unset] [(.int (34 : Int32)), (.int (F 3))])) _
            refine XS.icmpNo X95.here hx rfl (hb hby d7_272) rfl (feq hd272_99).1 ?_
            show Steps p.tables e below (T95.setTop (mkF m 275 #[.val (.ref o0), .val (.long q1), .second, .val (.long (hj7_259_L3' F)), .second, .val (.int (3 : Int32)), .val (.int (F 3)), .unset, .unset, .unset, .unset, .unset, .unset, .unset, .unset, .unset, .unset, .unset, .unset] [])) _
            refine XS.iload X95.here hx rfl (hb hby d7_275) rfl ?_
            show Steps p.tables e below (T95.setTop (mkF m 277 #[.val (.ref o0), .val (.long q1), .second, .val (.long (hj7_259_L3' F)), .second, .val (.int (3 : Int32)), .val (.int (F 3)), .unset, .unset, .unset, .unset, .unset, .unset, .unset, .unset, .unset, .unset, .unset, .unset] [(.int (F 3))])) _
            refine XS.bipush X95.here hx rfl (hb hby d7_277) ?_
            exact kt)
        have hd279_101 : (F 3) = (10 : Int32) := hR259_94.1
        obtain ⟨cq102, q102, q102'⟩ := ((E_o0.keep K25q).keep K68q).cell
        obtain ⟨_, _, ⟨T102, L102, k102, n102⟩, -, X102, ⟨Lc102, hQ102, l102, y102, z102⟩, st102⟩ := X95.privateBack hx (y := (⟨"com/example/cistern/cistern/io/CsvReader", "endsRecord", "(I)Z"⟩ : MethodName)) hown (mvT hZ (hw _ (List.mem_of_getElem? (i := 69) rfl))) (mvT hZ (hw _ (List.mem_of_getElem? (i := 70) rfl))) (own_selp (z := (⟨"com/example/cistern/cistern/io/CsvReader", "start", "(Ljava/io/InputStream;)V"⟩ : MethodName)) rfl (mvT hZ (hw _ (List.mem_of_getElem? (i := 33) rfl))) (Cond.privateMethod_at (mvP hZ (hw _ (List.mem_of_getElem? (i := 71) rfl)) (args := #[]))) (mvT hZ (hw _ (List.mem_of_getElem? (i := 70) rfl))) (by decide)) (Cond.privateMethod_at (mvP hZ (hw _ (List.mem_of_getElem? (i := 71) rfl)) (args := #[]))) (mvT hZ (hw _ (List.mem_of_getElem? (i := 72) rfl))) (by decide) (backOf (W := 0) (rm9 l Z a0 hw [] o0 (3 : Int32) r1 (hj7_259__quoted' F) (hj7_259__closed' F) (1 : Int32) (5 : Int32) F h68 n0 Z90 ((E_o0.keep K25q).keep K68q) V68_0 V68_3 V68_4 V68_1 V68_2 c97 ne_o0_r1 g_o0 (by decide) (by decide)) hZ (hw _ (List.mem_of_getElem? (i := 72) rfl)) (hw _ (List.mem_of_getElem? (i := 6) rfl)) (by decide) (by decide)) (g := (mkF m 285 #[.val (.ref o0), .val (.long q1), .second, .val (.long (hj7_259_L3' F)), .second, .val (.int (3 : Int32)), .val (.int (F 3)), .unset, .unset, .unset, .unset, .unset, .unset, .unset, .unset, .unset, .unset, .unset, .unset] [(.int (3 : Int32)), (.ref o0)])) rfl (by rw [hml]; rfl) (Steps.refl _) (a := o0) (by rw [e95]; exact q102) q102' (argsL := [(.int (3 : Int32))]) (rest := []) (lenOf pd_7_1 rfl) rfl (by show 2 * 0 + _ ≤ _; exact Nat.le_of_eq rfl) (hb hby d7_285) (fun _ _ => ⟨rfl, e95, (by decide : 0 + 0 ≤ _), (by decide : 0 + 0 ≤ _)⟩)
        dsimp only [Pt.U, Pt.locs, Pt.cells, Pt.slots] at X102 l102 y102 z102 st102 hQ102
        subst l102 y102 z102
        obtain ⟨rfl, N102q, K102q, G102_0, G102_1, G102_2, G102_3, G102_4⟩ := hQ102
        have N102 := Fr.app N68 N102q
        have K103 : Keep h0 T102.heap [o0] := K89.trans K102q (allS (Or.inl (List.mem_of_getElem? (i := 0) rfl)) all0)
        have Z104 : n0 ≤ T102.heap.size := Nat.le_trans Z0 K103.1
        obtain ⟨LS102, X102, N102⟩ : ∃ L, Stand p l e ({ frames := 2, cells := 0, slots := 0, locals := 28 } : Room) s m #[(.ref o0), (.long q1)] below meth c T102 L 0 0 ∧ Fr n0 L := ⟨_, X102, N102⟩
        have pre105 : ∀ t, Steps p.tables e below (T102.setTop (mkF m 288 #[.val (.ref o0), .val (.long q1), .second, .val (.long (hj7_259_L3' F)), .second, .val (.int (3 : Int32)), .val (.int (F 3)), .unset, .unset, .unset, .unset, .unset, .unset, .unset, .unset, .unset, .unset, .unset, .unset] [(.int (f9 (3 : Int32) (hj7_259__quoted' F) F))])) t → Steps p.tables e below (s₁.setTop (entryFrame m #[(.ref o0), (.long q1)] 19)) t := fun t kt => pre100 t (by
            show Steps p.tables e below (T95.setTop (mkF m 279 #[.val (.ref o0), .val (.long q1), .second, .val (.long (hj7_259_L3' F)), .second, .val (.int (3 : Int32)), .val (.int (F 3)), .unset, .unset, .unset, .unset, .unset, .unset, .unset, .unset, .unset, .unset, .unset, .unset] [(.int (10 : Int32)), (.int (F 3))])) _
            refine XS.icmpNo X95.here hx rfl (hb hby d7_279) rfl (teq hd279_101).2 ?_
            show Steps p.tables e below (T95.setTop (mkF m 282 #[.val (.ref o0), .val (.long q1), .second, .val (.long (hj7_259_L3' F)), .second, .val (.int (3 : Int32)), .val (.int (F 3)), .unset, .unset, .unset, .unset, .unset, .unset, .unset, .unset, .unset, .unset, .unset, .unset] [])) _
            refine XS.aloadN X95.here hx rfl (hb hby d7_282) rfl rfl ?_
            show Steps p.tables e below (T95.setTop (mkF m 283 #[.val (.ref o0), .val (.long q1), .second, .val (.long (hj7_259_L3' F)), .second, .val (.int (3 : Int32)), .val (.int (F 3)), .unset, .unset, .unset, .unset, .unset, .unset, .unset, .unset, .unset, .unset, .unset, .unset] [(.ref o0)])) _
            refine XS.iload X95.here hx rfl (hb hby d7_283) rfl ?_
            show Steps p.tables e below (T95.setTop (mkF m 285 #[.val (.ref o0), .val (.long q1), .second, .val (.long (hj7_259_L3' F)), .second, .val (.int (3 : Int32)), .val (.int (F 3)), .unset, .unset, .unset, .unset, .unset, .unset, .unset, .unset, .unset, .unset, .unset, .unset] [(.int (3 : Int32)), (.ref o0)])) _
            refine st102.trans ?_
            exact kt)
        have hd288_106 : ¬ ((f9 (3 : Int32) (hj7_259__quoted' F) F) = (0 : Int32)) := own_e1 hR259_94.1 hR259_94.2.1
        have pre107 : ∀ t, Steps p.tables e below (T102.setTop (mkF m 298 #[.val (.ref o0), .val (.long q1), .second, .val (.long ((hj7_259_L3' F) + (1 : Int64))), .second, .val (.int (3 : Int32)), .val (.int (F 3)), .unset, .unset, .unset, .unset, .unset, .unset, .unset, .unset, .unset, .unset, .unset, .unset] [(.int (lcmpW ((hj7_259_L3' F) + (1 : Int64)) q1))])) t → Steps p.tables e below (s₁.setTop (entryFrame m #[(.ref o0), (.long q1)] 19)) t := fun t kt => pre105 t (by
            show Steps p.tables e below (T102.setTop (mkF m 288 #[.val (.ref o0), .val (.long q1), .second, .val (.long (hj7_259_L3' F)), .second, .val (.int (3 : Int32)), .val (.int (F 3)), .unset, .unset, .unset, .unset, .unset, .unset, .unset, .unset, .unset, .unset, .unset, .unset] [(.int (f9 (3 : Int32) (hj7_259__quoted' F) F))])) _
            refine XS.ifNo X102.here hx rfl (hb hby d7_288) rfl ((if0 _ _).trans (feq hd288_106).1) ?_
            show Steps p.tables e below (T102.setTop (mkF m 291 #[.val (.ref o0), .val (.long q1), .second, .val (.long (hj7_259_L3' F)), .second, .val (.int (3 : Int32)), .val (.int (F 3)), .unset, .unset, .unset, .unset, .unset, .unset, .unset, .unset, .unset, .unset, .unset, .unset] [])) _
            refine XS.lloadN X102.here hx rfl (hb hby d7_291) rfl ?_
            show Steps p.tables e below (T102.setTop (mkF m 292 #[.val (.ref o0), .val (.long q1), .second, .val (.long (hj7_259_L3' F)), .second, .val (.int (3 : Int32)), .val (.int (F 3)), .unset, .unset, .unset, .unset, .unset, .unset, .unset, .unset, .unset, .unset, .unset, .unset] [(.long (hj7_259_L3' F))])) _
            refine XS.lconst X102.here hx rfl (hb hby d7_292) ?_
            show Steps p.tables e below (T102.setTop (mkF m 293 #[.val (.ref o0), .val (.long q1), .second, .val (.long (hj7_259_L3' F)), .second, .val (.int (3 : Int32)), .val (.int (F 3)), .unset, .unset, .unset, .unset, .unset, .unset, .unset, .unset, .unset, .unset, .unset, .unset] [(.long (1 : Int64)), (.long (hj7_259_L3' F))])) _
            refine XS.ladd X102.here hx rfl (hb hby d7_293) rfl ?_
            show Steps p.tables e below (T102.setTop (mkF m 294 #[.val (.ref o0), .val (.long q1), .second, .val (.long (hj7_259_L3' F)), .second, .val (.int (3 : Int32)), .val (.int (F 3)), .unset, .unset, .unset, .unset, .unset, .unset, .unset, .unset, .unset, .unset, .unset, .unset] [(.long ((hj7_259_L3' F) + (1 : Int64)))])) _
            jvm_step X102.here [X102.here.top, hx, (hb hby d7_294), Value.category]
            show Steps p.tables e below (T102.setTop (mkF m 295 #[.val (.ref o0), .val (.long q1), .second, .val (.long (hj7_259_L3' F)), .second, .val (.int (3 : Int32)), .val (.int (F 3)), .unset, .unset, .unset, .unset, .unset, .unset, .unset, .unset, .unset, .unset, .unset, .unset] [(.long ((hj7_259_L3' F) + (1 : Int64))), (.long ((hj7_259_L3' F) + (1 : Int64)))])) _
            refine XS.lstoreN X102.here hx rfl (hb hby d7_295) rfl (l' := #[.val (.ref o0), .val (.long q1), .second, .val (.long ((hj7_259_L3' F) + (1 : Int64))), .second, .val (.int (3 : Int32)), .val (.int (F 3)), .unset, .unset, .unset, .unset, .unset, .unset, .unset, .unset, .unset, .unset, .unset, .unset]) rfl ?_
            show Steps p.tables e below (T102.setTop (mkF m 296 #[.val (.ref o0), .val (.long q1), .second, .val (.long ((hj7_259_L3' F) + (1 : Int64))), .second, .val (.int (3 : Int32)), .val (.int (F 3)), .unset, .unset, .unset, .unset, .unset, .unset, .unset, .unset, .unset, .unset, .unset, .unset] [(.long ((hj7_259_L3' F) + (1 : Int64)))])) _
            refine XS.lloadN X102.here hx rfl (hb hby d7_296) rfl ?_
            show Steps p.tables e below (T102.setTop (mkF m 297 #[.val (.ref o0), .val (.long q1), .second, .val (.long ((hj7_259_L3' F) + (1 : Int64))), .second, .val (.int (3 : Int32)), .val (.int (F 3)), .unset, .unset, .unset, .unset, .unset, .unset, .unset, .unset, .unset, .unset, .unset, .unset] [(.long q1), (.long ((hj7_259_L3' F) + (1 : Int64)))])) _
            refine XS.lcmp X102.here hx rfl (hb hby d7_297) rfl ?_
            exact kt)
        have hd298_108 : (lcmpW ((hj7_259_L3' F) + (1 : Int64)) q1) = (0 : Int32) := (lw_eq _ _).mpr hR259_94.2.2
        obtain ⟨T109, h109, X109, e109, W109, st109⟩ := putF X102 hx hZ hown (host := "") (Or.inl (hw _ (List.mem_of_getElem? (i := 59) rfl))) (Via.of (hw _ (List.mem_of_getElem? (i := 60) rfl))) rfl G102_3 (((E_o0.keep K25q).keep K68q).keep K102q) (Or.inl (hw _ (List.mem_of_getElem? (i := 23) rfl))) (hw _ (List.mem_of_getElem? (i := 5) rfl)) (ty := .int) (by decide) rfl rfl (g := (mkF m 306 #[.val (.ref o0), .val (.long q1), .second, .val (.long ((hj7_259_L3' F) + (1 : Int64))), .second, .val (.int (3 : Int32)), .val (.int (F 3)), .unset, .unset, .unset, .unset, .unset, .unset, .unset, .unset, .unset, .unset, .unset, .unset] [(.int ((3 : Int32) + (1 : Int32))), (.ref o0)])) rfl rfl (hb hby d7_306)
        have Fw109 := G102_3.same W109
        have K110 : Keep h0 h109 [o0] := K103.wr W109 (Or.inl (List.mem_of_getElem? (i := 0) rfl))
        have Z111 : n0 ≤ h109.size := Nat.le_trans Z0 K110.1
        have N109 := Fr.snoc X109 N102 g_o0
        obtain ⟨LS109, X109, N109⟩ : ∃ L, Stand p l e ({ frames := 2, cells := 0, slots := 0, locals := 28 } : Room) s m #[(.ref o0), (.long q1)] below meth c T109 L 0 0 ∧ Fr n0 L := ⟨_, X109, N109⟩
        obtain ⟨fs, hr, hrun, hended, hW, hsame⟩ := X109.leave (v := some (.long q1)) (fun h => by rw [Bd.returns] at h; cases h)
        have hv197 : (f7 q1 F) = q1 := by rw [f7, if_neg hR259_8, if_neg hR259_51, if_pos hR259_94]
        have c198 := (G102_0.other W109 (Or.inr (slot_ne (Or.inl (hw _ (List.mem_of_getElem? (i := 49) rfl))) (Or.inl (hw _ (List.mem_of_getElem? (i := 23) rfl))) (by decide) (t := .boolean) (t' := .int) (by decide) (by decide))))
        have c199 := (G102_1.other W109 (Or.inr (slot_ne (Or.inl (hw _ (List.mem_of_getElem? (i := 74) rfl))) (Or.inl (hw _ (List.mem_of_getElem? (i := 23) rfl))) (by decide) (t := .boolean) (t' := .int) (by decide) (by decide))))
        have c200 := (G102_2.other W109 (Or.inr (slot_ne (Or.inr (hw _ (List.mem_of_getElem? (i := 21) rfl))) (Or.inl (hw _ (List.mem_of_getElem? (i := 23) rfl))) (by decide) (t := (.array .byte)) (t' := .int) (by decide) (by decide))))
        have c201 := (G102_4.other W109 (Or.inr (slot_ne (Or.inl (hw _ (List.mem_of_getElem? (i := 25) rfl))) (Or.inl (hw _ (List.mem_of_getElem? (i := 23) rfl))) (by decide) (t := .int) (t' := .int) (by decide) (by decide))))
        refine ⟨_, _, pre107 _ ?_, hrun, hended, _, _, rfl, ?_, ⟨_, rfl⟩, hW, hsame.mono (by decide) (by decide)⟩
        · show Steps p.tables e below (T102.setTop (mkF m 298 #[.val (.ref o0), .val (.long q1), .second, .val (.long ((hj7_259_L3' F) + (1 : Int64))), .second, .val (.int (3 : Int32)), .val (.int (F 3)), .unset, .unset, .unset, .unset, .unset, .unset, .unset, .unset, .unset, .unset, .unset, .unset] [(.int (lcmpW ((hj7_259_L3' F) + (1 : Int64)) q1))])) _
          refine XS.ifNo X102.here hx rfl (hb hby d7_298) rfl ((if0 _ _).trans (teq hd298_108).2) ?_
          show Steps p.tables e below (T102.setTop (mkF m 301 #[.val (.ref o0), .val (.long q1), .second, .val (.long ((hj7_259_L3' F) + (1 : Int64))), .second, .val (.int (3 : Int32)), .val (.int (F 3)), .unset, .unset, .unset, .unset, .unset, .unset, .unset, .unset, .unset, .unset, .unset, .unset] [])) _
          refine XS.aloadN X102.here hx rfl (hb hby d7_301) rfl rfl ?_
          show Steps p.tables e below (T102.setTop (mkF m 302 #[.val (.ref o0), .val (.long q1), .second, .val (.long ((hj7_259_L3' F) + (1 : Int64))), .second, .val (.int (3 : Int32)), .val (.int (F 3)), .unset, .unset, .unset, .unset, .unset, .unset, .unset, .unset, .unset, .unset, .unset, .unset] [(.ref o0)])) _
          refine XS.iload X102.here hx rfl (hb hby d7_302) rfl ?_
          show Steps p.tables e below (T102.setTop (mkF m 304 #[.val (.ref o0), .val (.long q1), .second, .val (.long ((hj7_259_L3' F) + (1 : Int64))), .second, .val (.int (3 : Int32)), .val (.int (F 3)), .unset, .unset, .unset, .unset, .unset, .unset, .unset, .unset, .unset, .unset, .unset, .unset] [(.int (3 : Int32)), (.ref o0)])) _
          refine XS.iconst X102.here hx rfl (hb hby d7_304) ?_
          show Steps p.tables e below (T102.setTop (mkF m 305 #[.val (.ref o0), .val (.long q1), .second, .val (.long ((hj7_259_L3' F) + (1 : Int64))), .second, .val (.int (3 : Int32)), .val (.int (F 3)), .unset, .unset, .unset, .unset, .unset, .unset, .unset, .unset, .unset, .unset, .unset, .unset] [(.int (1 : Int32)), (.int (3 : Int32)), (.ref o0)])) _
          refine XS.iadd X102.here hx rfl (hb hby d7_305) rfl ?_
          show Steps p.tables e below (T102.setTop (mkF m 306 #[.val (.ref o0), .val (.long q1), .second, .val (.long ((hj7_259_L3' F) + (1 : Int64))), .second, .val (.int (3 : Int32)), .val (.int (F 3)), .unset, .unset, .unset, .unset, .unset, .unset, .unset, .unset, .unset, .unset, .unset, .unset] [(.int ((3 : Int32) + (1 : Int32))), (.ref o0)])) _
          refine st109 _ ?_
          show Steps p.tables e below (T109.setTop (mkF m 309 #[.val (.ref o0), .val (.long q1), .second, .val (.long ((hj7_259_L3' F) + (1 : Int64))), .second, .val (.int (3 : Int32)), .val (.int (F 3)), .unset, .unset, .unset, .unset, .unset, .unset, .unset, .unset, .unset, .unset, .unset, .unset] [])) _
          refine XS.lloadN X109.here hx rfl (hb hby d7_309) rfl ?_
          show Steps p.tables e below (T109.setTop (mkF m 310 #[.val (.ref o0), .val (.long q1), .second, .val (.long ((hj7_259_L3' F) + (1 : Int64))), .second, .val (.int (3 : Int32)), .val (.int (F 3)), .unset, .unset, .unset, .unset, .unset, .unset, .unset, .unset, .unset, .unset, .unset, .unset] [(.long q1)])) _
          exact X109.lreturnOut hx Bd.returns (hb hby d7_310) hr
        · show Q7 Z o0 q1 r1 F h0 n0 _ T109.heap _
          rw [e109]
          exact ⟨congrArg (fun q => some (Value.long q)) hv197.symm, N109, K110, (by rw [f7_h__quoted, if_neg hR259_8, if_neg hR259_51, if_pos hR259_94]; exact c198), (by rw [f7_h__closed, if_neg hR259_8, if_neg hR259_51, if_pos hR259_94]; exact c199), c200, (by rw [f7_h__start, if_neg hR259_8, if_neg hR259_51, if_pos hR259_94]; exact Fw109), (by rw [f7_h__end, if_neg hR259_8, if_neg hR259_51, if_pos hR259_94]; exact c201)⟩
      · obtain ⟨T112, h112, L112, X112, e112, N112, K112q, V112_0, V112_1, V112_2, V112_3, V112_4, st112⟩ : ∃ (T' : State) (h' : Heap) (L' : List Loc), Stand p l e ({ frames := 2, cells := 0, slots := 0, locals := 28 } : Room) s m #[(.ref o0), (.long q1)] below meth c T' L' 0 0 ∧ T'.heap = h' ∧ Fr n0 L' ∧ Keep h68 h' [o0] ∧ Fld Z h' o0 "com/example/cistern/cistern/io/RecordReader" "_buffer" "[B" (.ref r1) ∧ Fld Z h' o0 "com/example/cistern/cistern/io/RecordReader" "_start" "I" (.int (1 : Int32)) ∧ Fld Z h' o0 "com/example/cistern/cistern/io/RecordReader" "_end" "I" (.int (5 : Int32)) ∧ Fld Z h' o0 "com/example/cistern/cistern/io/CsvReader" "_quoted" "Z" (.int (hj7_259__quoted'' F)) ∧ Fld Z h' o0 "com/example/cistern/cistern/io/CsvReader" "_closed" "Z" (.int (hj7_259__closed'' F)) ∧ ∀ t, Steps p.tables e below (T'.setTop (mkF m 311 #[.val (.ref o0), .val (.long q1), .second, .val (.long (hj7_259_L3'' F)), .second, .val (.int (3 : Int32)), .val (.int (F 3)), .unset, .unset, .unset, .unset, .unset, .unset, .unset, .unset, .unset, .unset, .unset, .unset] [])) t → Steps p.tables e below (s₁.setTop (entryFrame m #[(.ref o0), (.long q1)] 19)) t := by
          obtain ⟨T113, X113, e113, st113⟩ := getF X91 hx hZ hown (host := "") (Or.inl (hw _ (List.mem_of_getElem? (i := 68) rfl))) (Via.of (hw _ (List.mem_of_getElem? (i := 51) rfl))) e91 V68_0 (g := (mkF m 260 #[.val (.ref o0), .val (.long q1), .second, .val (.long (hj7_259_L3' F)), .second, .val (.int (3 : Int32)), .val (.int (F 2)), .unset, .unset, .unset, .unset, .unset, .unset, .unset, .unset, .unset, .unset, .unset, .unset] [(.ref o0)])) rfl rfl (hb hby d7_260)
          have c115 := ((V_r1.keep K25q (ninS (Ne.symm ne_o0_r1) nin0)).keep K68q (ninS (Ne.symm ne_o0_r1) nin0))
          obtain ⟨cl114, Ar114, Sz114, Nn114, Hs114⟩ := id c115
          have hin114 : ¬ ((3 : Int32) < 0 ∨ cl114.slots.size ≤ ((3 : Int32)).toNatClampNeg) := inb_of Sz114 ⟨by decide, by decide⟩
          have hat114 : cl114.slots[((3 : Int32)).toNatClampNeg]? = some (.int (F 3)) := (Hs114 _ (own_lt hin114)).1
          have pre116 : ∀ t, Steps p.tables e below (T113.setTop (mkF m 272 #[.val (.ref o0), .val (.long q1), .second, .val (.long (hj7_259_L3' F)), .second, .val (.int (3 : Int32)), .val (.int (F 3)), .unset, .unset, .unset, .unset, .unset, .unset, .unset, .unset, .unset, .unset, .unset, .unset] [(.int (34 : Int32)), (.int (F 3))])) t → Steps p.tables e below (s₁.setTop (entryFrame m #[(.ref o0), (.long q1)] 19)) t := fun t kt => pre93 t (by
              show Steps p.tables e below (T91.setTop (mkF m 259 #[.val (.ref o0), .val (.long q1), .second, .val (.long (hj7_259_L3' F)), .second, .val (.int (3 : Int32)), .val (.int (F 2)), .unset, .unset, .unset, .unset, .unset, .unset, .unset, .unset, .unset, .unset, .unset, .unset] [])) _
              refine XS.aloadN X91.here hx rfl (hb hby d7_259) rfl rfl ?_
              show Steps p.tables e below (T91.setTop (mkF m 260 #[.val (.ref o0), .val (.long q1), .second, .val (.long (hj7_259_L3' F)), .second, .val (.int (3 : Int32)), .val (.int (F 2)), .unset, .unset, .unset, .unset, .unset, .unset, .unset, .unset, .unset, .unset, .unset, .unset] [(.ref o0)])) _
              refine st113 _ ?_
              show Steps p.tables e below (T113.setTop (mkF m 263 #[.val (.ref o0), .val (.long q1), .second, .val (.long (hj7_259_L3' F)), .second, .val (.int (3 : Int32)), .val (.int (F 2)), .unset, .unset, .unset, .unset, .unset, .unset, .unset, .unset, .unset, .unset, .unset, .unset] [(.ref r1)])) _
              refine XS.iload X113.here hx rfl (hb hby d7_263) rfl ?_
              show Steps p.tables e below (T113.setTop (mkF m 265 #[.val (.ref o0), .val (.long q1), .second, .val (.long (hj7_259_L3' F)), .second, .val (.int (3 : Int32)), .val (.int (F 2)), .unset, .unset, .unset, .unset, .unset, .unset, .unset, .unset, .unset, .unset, .unset, .unset] [(.int (3 : Int32)), (.ref r1)])) _
              refine X113.baloadBytes hx (j := (3 : Int32)) (v := (.int (F 3))) (by rw [e113]; exact Ar114.1) (State.isArrayOf_alike hZ.alike Ar114.2.1) Ar114.2.2 hin114 hat114 (g := (mkF m 265 #[.val (.ref o0), .val (.long q1), .second, .val (.long (hj7_259_L3' F)), .second, .val (.int (3 : Int32)), .val (.int (F 2)), .unset, .unset, .unset, .unset, .unset, .unset, .unset, .unset, .unset, .unset, .unset, .unset] [(.int (3 : Int32)), (.ref r1)])) rfl rfl (hb hby d7_265) _ ?_
              show Steps p.tables e below (T113.setTop (mkF m 266 #[.val (.ref o0), .val (.long q1), .second, .val (.long (hj7_259_L3' F)), .second, .val (.int (3 : Int32)), .val (.int (F 2)), .unset, .unset, .unset, .unset, .unset, .unset, .unset, .unset, .unset, .unset, .unset, .unset] [(.int (F 3))])) _
              refine XS.istore X113.here hx rfl (hb hby d7_266) rfl (l' := #[.val (.ref o0), .val (.long q1), .second, .val (.long (hj7_259_L3' F)), .second, .val (.int (3 : Int32)), .val (.int (F 3)), .unset, .unset, .unset, .unset, .unset, .unset, .unset, .unset, .unset, .unset, .unset, .unset]) rfl ?_
              show Steps p.tables e below (T113.setTop (mkF m 268 #[.val (.ref o0), .val (.long q1), .second, .val (.long (hj7_259_L3' F)), .second, .val (.int (3 : Int32)), .val (.int (F 3)), .unset, .unset, .unset, .unset, .unset, .unset, .unset, .unset, .unset, .unset, .unset, .unset] [])) _
              refine XS.iload X113.here hx rfl (hb hby d7_268) rfl ?_
              show Steps p.tables e below (T113.setTop (mkF m 270 #[.val (.ref o0), .val (.long q1), .second, .val (.long (hj7_259_L3' F)), .second, .val (.int (3 : Int32)), .val (.int (F 3)), .unset, .unset, .unset, .unset, .unset, .unset, .unset, .unset, .unset, .unset, .unset, .unset] [(.int (F 3))])) _
              refine XS.bipush X113.here hx rfl (hb hby d7_270) ?_
              exact kt)
          by_cases hc272_117 : (F 3) = (34 : Int32)
          · obtain ⟨cq118, q118, q118'⟩ := ((E_o0.keep K25q).keep K68q).cell
            obtain ⟨_, _, ⟨T118, L118, k118, n118⟩, -, X118, ⟨Lc118, hQ118, l118, y118, z118⟩, st118⟩ := X113.privateBack hx (y := (⟨"com/example/cistern/cistern/io/CsvReader", "endsRecord", "(I)Z"⟩ : MethodName)) hown (mvT hZ (hw _ (List.mem_of_getElem? (i := 69) rfl))) (mvT hZ (hw _ (List.mem_of_getElem? (i := 70) rfl))) (own_selp (z := (⟨"com/example/cistern/cistern/io/CsvReader", "start", "(Ljava/io/InputStream;)V"⟩ : MethodName)) rfl (mvT hZ (hw _ (List.mem_of_getElem? (i := 33) rfl))) (Cond.privateMethod_at (mvP hZ (hw _ (List.mem_of_getElem? (i := 71) rfl)) (args := #[]))) (mvT hZ (hw _ (List.mem_of_getElem? (i := 70) rfl))) (by decide)) (Cond.privateMethod_at (mvP hZ (hw _ (List.mem_of_getElem? (i := 71) rfl)) (args := #[]))) (mvT hZ (hw _ (List.mem_of_getElem? (i := 72) rfl))) (by decide) (backOf (W := 0) (rm9 l Z a0 hw [] o0 (3 : Int32) r1 (hj7_259__quoted' F) (hj7_259__closed' F) (1 : Int32) (5 : Int32) F h68 n0 Z90 ((E_o0.keep K25q).keep K68q) V68_0 V68_3 V68_4 V68_1 V68_2 c115 ne_o0_r1 g_o0 (by decide) (by decide)) hZ (hw _ (List.mem_of_getElem? (i := 72) rfl)) (hw _ (List.mem_of_getElem? (i := 6) rfl)) (by decide) (by decide)) (g := (mkF m 285 #[.val (.ref o0), .val (.long q1), .second, .val (.long (hj7_259_L3' F)), .second, .val (.int (3 : Int32)), .val (.int (F 3)), .unset, .unset, .unset, .unset, .unset, .unset, .unset, .unset, .unset, .unset, .unset, .unset] [(.int (3 : Int32)), (.ref o0)])) rfl (by rw [hml]; rfl) (Steps.refl _) (a := o0) (by rw [e113]; exact q118) q118' (argsL := [(.int (3 : Int32))]) (rest := []) (lenOf pd_7_1 rfl) rfl (by show 2 * 0 + _ ≤ _; exact Nat.le_of_eq rfl) (hb hby d7_285) (fun _ _ => ⟨rfl, e113, (by decide : 0 + 0 ≤ _), (by decide : 0 + 0 ≤ _)⟩)
            dsimp only [Pt.U, Pt.locs, Pt.cells, Pt.slots] at X118 l118 y118 z118 st118 hQ118
            subst l118 y118 z118
            obtain ⟨rfl, N118q, K118q, G118_0, G118_1, G118_2, G118_3, G118_4⟩ := hQ118
            have N118 := Fr.app N68 N118q
            have K119 : Keep h0 T118.heap [o0] := K89.trans K118q (allS (Or.inl (List.mem_of_getElem? (i := 0) rfl)) all0)
            have KL120 : Keep h68 T118.heap [o0] := (Keep.refl h68 [o0]).trans K118q (allS (Or.inl (List.mem_of_getElem? (i := 0) rfl)) all0)
            have Z121 : n0 ≤ T118.heap.size := Nat.le_trans Z0 K119.1
            obtain ⟨LS118, X118, N118⟩ : ∃ L, Stand p l e ({ frames := 2, cells := 0, slots := 0, locals := 28 } : Room) s m #[(.ref o0), (.long q1)] below meth c T118 L 0 0 ∧ Fr n0 L := ⟨_, X118, N118⟩
            have pre122 : ∀ t, Steps p.tables e below (T118.setTop (mkF m 288 #[.val (.ref o0), .val (.long q1), .second, .val (.long (hj7_259_L3' F)), .second, .val (.int (3 : Int32)), .val (.int (F 3)), .unset, .unset, .unset, .unset, .unset, .unset, .unset, .unset, .unset, .unset, .unset, .unset] [(.int (f9 (3 : Int32) (hj7_259__quoted' F) F))])) t → Steps p.tables e below (s₁.setTop (entryFrame m #[(.ref o0), (.long q1)] 19)) t := fun t kt => pre116 t (by
                show Steps p.tables e below (T113.setTop (mkF m 272 #[.val (.ref o0), .val (.long q1), .second, .val (.long (hj7_259_L3' F)), .second, .val (.int (3 : Int32)), .val (.int (F 3)), .unset, .unset, .unset, .unset, .unset, .unset, .unset, .unset, .unset, .unset, .unset, .unset] [(.int (34 : Int32)), (.int (F 3))])) _
                refine XS.icmpYes X113.here hx rfl (pc0 := 272) (pc' := 282) rfl (hb hby d7_272) rfl (teq hc272_117).1 (by decide) (by decide) ?_
                show Steps p.tables e below (T113.setTop (mkF m 282 #[.val (.ref o0), .val (.long q1), .second, .val (.long (hj7_259_L3' F)), .second, .val (.int (3 : Int32)), .val (.int (F 3)), .unset, .unset, .unset, .unset, .unset, .unset, .unset, .unset, .unset, .unset, .unset, .unset] [])) _
                refine XS.aloadN X113.here hx rfl (hb hby d7_282) rfl rfl ?_
                show Steps p.tables e below (T113.setTop (mkF m 283 #[.val (.ref o0), .val (.long q1), .second, .val (.long (hj7_259_L3' F)), .second, .val (.int (3 : Int32)), .val (.int (F 3)), .unset, .unset, .unset, .unset, .unset, .unset, .unset, .unset, .unset, .unset, .unset, .unset] [(.ref o0)])) _
                refine XS.iload X113.here hx rfl (hb hby d7_283) rfl ?_
                show Steps p.tables e below (T113.setTop (mkF m 285 #[.val (.ref o0), .val (.long q1), .second, .val (.long (hj7_259_L3' F)), .second, .val (.int (3 : Int32)), .val (.int (F 3)), .unset, .unset, .unset, .unset, .unset, .unset, .unset, .unset, .unset, .unset, .unset, .unset] [(.int (3 : Int32)), (.ref o0)])) _
                refine st118.trans ?_
                exact kt)
            have hd288_123 : (f9 (3 : Int32) (hj7_259__quoted' F) F) = (0 : Int32) := own_e0 hc272_117
            refine ⟨T118, T118.heap, _, X118, rfl, N118, KL120, G118_2, G118_3, G118_4, (by rw [hj7_259__quoted'', if_pos hc272_117]; exact G118_0), (by rw [hj7_259__closed'', if_pos hc272_117]; exact G118_1), fun t kt => ?_⟩
            rw [show (hj7_259_L3'' F) = (hj7_259_L3' F) from by rw [hj7_259_L3'', if_pos hc272_117]] at kt
            refine pre122 t ?_
            show Steps p.tables e below (T118.setTop (mkF m 288 #[.val (.ref o0), .val (.long q1), .second, .val (.long (hj7_259_L3' F)), .second, .val (.int (3 : Int32)), .val (.int (F 3)), .unset, .unset, .unset, .unset, .unset, .unset, .unset, .unset, .unset, .unset, .unset, .unset] [(.int (f9 (3 : Int32) (hj7_259__quoted' F) F))])) _
            refine XS.ifYes X118.here hx rfl (pc0 := 288) (pc' := 311) rfl (hb hby d7_288) rfl ((if0 _ _).trans (teq hd288_123).1) (by decide) (by decide) ?_
            exact kt
          · have pre124 : ∀ t, Steps p.tables e below (T113.setTop (mkF m 279 #[.val (.ref o0), .val (.long q1), .second, .val (.long (hj7_259_L3' F)), .second, .val (.int (3 : Int32)), .val (.int (F 3)), .unset, .unset, .unset, .unset, .unset, .unset, .unset, .unset, .unset, .unset, .unset, .unset] [(.int (10 : Int32)), (.int (F 3))])) t → Steps p.tables e below (s₁.setTop (entryFrame m #[(.ref o0), (.long q1)] 19)) t := fun t kt => pre116 t (by
                show Steps p.tables e below (T113.setTop (mkF m 272 #[.val (.ref o0), .val (.long q1), .second, .val (.long (hj7_259_L3' F)), .second, .val (.int (3 : Int32)), .val (.int (F 3)), .unset, .unset, .unset, .unset, .unset, .unset, .unset, .unset, .unset, .unset, .unset, .unset] [(.int (34 : Int32)), (.int (F 3))])) _
                refine XS.icmpNo X113.here hx rfl (hb hby d7_272) rfl (feq hc272_117).1 ?_
                show Steps p.tables e below (T113.setTop (mkF m 275 #[.val (.ref o0), .val (.long q1), .second, .val (.long (hj7_259_L3' F)), .second, .val (.int (3 : Int32)), .val (.int (F 3)), .unset, .unset, .unset, .unset, .unset, .unset, .unset, .unset, .unset, .unset, .unset, .unset] [])) _
                refine XS.iload X113.here hx rfl (hb hby d7_275) rfl ?_
                show Steps p.tables e below (T113.setTop (mkF m 277 #[.val (.ref o0), .val (.long q1), .second, .val (.long (hj7_259_L3' F)), .second, .val (.int (3 : Int32)), .val (.int (F 3)), .unset, .unset, .unset, .unset, .unset, .unset, .unset, .unset, .unset, .unset, .unset, .unset] [(.int (F 3))])) _
                refine XS.bipush X113.here hx rfl (hb hby d7_277) ?_
                exact kt)
            by_cases hc279_125 : (F 3) = (10 : Int32)
            · obtain ⟨cq126, q126, q126'⟩ := ((E_o0.keep K25q).keep K68q).cell
              obtain ⟨_, _, ⟨T126, L126, k126, n126⟩, -, X126, ⟨Lc126, hQ126, l126, y126, z126⟩, st126⟩ := X113.privateBack hx (y := (⟨"com/example/cistern/cistern/io/CsvReader", "endsRecord", "(I)Z"⟩ : MethodName)) hown (mvT hZ (hw _ (List.mem_of_getElem? (i := 69) rfl))) (mvT hZ (hw _ (List.mem_of_getElem? (i := 70) rfl))) (own_selp (z := (⟨"com/example/cistern/cistern/io/CsvReader", "start", "(Ljava/io/InputStream;)V"⟩ : MethodName)) rfl (mvT hZ (hw _ (List.mem_of_getElem? (i := 33) rfl))) (Cond.privateMethod_at (mvP hZ (hw _ (List.mem_of_getElem? (i := 71) rfl)) (args := #[]))) (mvT hZ (hw _ (List.mem_of_getElem? (i := 70) rfl))) (by decide)) (Cond.privateMethod_at (mvP hZ (hw _ (List.mem_of_getElem? (i := 71) rfl)) (args := #[]))) (mvT hZ (hw _ (List.mem_of_getElem? (i := 72) rfl))) (by decide) (backOf (W := 0) (rm9 l Z a0 hw [] o0 (3 : Int32) r1 (hj7_259__quoted' F) (hj7_259__closed' F) (1 : Int32) (5 : Int32) F h68 n0 Z90 ((E_o0.keep K25q).keep K68q) V68_0 V68_3 V68_4 V68_1 V68_2 c115 ne_o0_r1 g_o0 (by decide) (by decide)) hZ (hw _ (List.mem_of_getElem? (i := 72) rfl)) (hw _ (List.mem_of_getElem? (i := 6) rfl)) (by decide) (by decide)) (g := (mkF m 285 #[.val (.ref o0), .val (.long q1), .second, .val (.long (hj7_259_L3' F)), .second, .val (.int (3 : Int32)), .val (.int (F 3)), .unset, .unset, .unset, .unset, .unset, .unset, .unset, .unset, .unset, .unset, .unset, .unset] [(.int (3 : Int32)), (.ref o0)])) rfl (by rw [hml]; rfl) (Steps.refl _) (a := o0) (by rw [e113]; exact q126) q126' (argsL := [(.int (3 : Int32))]) (rest := []) (lenOf pd_7_1 rfl) rfl (by show 2 * 0 + _ ≤ _; exact Nat.le_of_eq rfl) (hb hby d7_285) (fun _ _ => ⟨rfl, e113, (by decide : 0 + 0 ≤ _), (by decide : 0 + 0 ≤ _)⟩)
              dsimp only [Pt.U, Pt.locs, Pt.cells, Pt.slots] at X126 l126 y126 z126 st126 hQ126
              subst l126 y126 z126
              obtain ⟨rfl, N126q, K126q, G126_0, G126_1, G126_2, G126_3, G126_4⟩ := hQ126
              have N126 := Fr.app N68 N126q
              have K127 : Keep h0 T126.heap [o0] := K89.trans K126q (allS (Or.inl (List.mem_of_getElem? (i := 0) rfl)) all0)
              have KL128 : Keep h68 T126.heap [o0] := (Keep.refl h68 [o0]).trans K126q (allS (Or.inl (List.mem_of_getElem? (i := 0) rfl)) all0)
              have Z129 : n0 ≤ T126.heap.size := Nat.le_trans Z0 K127.1
              obtain ⟨LS126, X126, N126⟩ : ∃ L, Stand p l e ({ frames := 2, cells := 0, slots := 0, locals := 28 } : Room) s m #[(.ref o0), (.long q1)] below meth c T126 L 0 0 ∧ Fr n0 L := ⟨_, X126, N126⟩
              have pre130 : ∀ t, Steps p.tables e below (T126.setTop (mkF m 288 #[.val (.ref o0), .val (.long q1), .second, .val (.long (hj7_259_L3' F)), .second, .val (.int (3 : Int32)), .val (.int (F 3)), .unset, .unset, .unset, .unset, .unset, .unset, .unset, .unset, .unset, .unset, .unset, .unset] [(.int (f9 (3 : Int32) (hj7_259__quoted' F) F))])) t → Steps p.tables e below (s₁.setTop (entryFrame m #[(.ref o0), (.long q1)] 19)) t := fun t kt => pre124 t (by
                  show Steps p.tables e below (T113.setTop (mkF m 279 #[.val (.ref o0), .val (.long q1), .second, .val (.long (hj7_259_L3' F)), .second, .val (.int (3 : Int32)), .val (.int (F 3)), .unset, .unset, .unset, .unset, .unset, .unset, .unset, .unset, .unset, .unset, .unset, .unset] [(.int (10 : Int32)), (.int (F 3))])) _
                  refine XS.icmpNo X113.here hx rfl (hb hby d7_279) rfl (teq hc279_125).2 ?_
                  show Steps p.tables e below (T113.setTop (mkF m 282 #[.val (.ref o0), .val (.long q1), .second, .val (.long (hj7_259_L3' F)), .second, .val (.int (3 : Int32)), .val (.int (F 3)), .unset, .unset, .unset, .unset, .unset, .unset, .unset, .unset, .unset, .unset, .unset, .unset] [])) _
                  refine XS.aloadN X113.here hx rfl (hb hby d7_282) rfl rfl ?_
                  show Steps p.tables e below (T113.setTop (mkF m 283 #[.val (.ref o0), .val (.long q1), .second, .val (.long (hj7_259_L3' F)), .second, .val (.int (3 : Int32)), .val (.int (F 3)), .unset, .unset, .unset, .unset, .unset, .unset, .unset, .unset, .unset, .unset, .unset, .unset] [(.ref o0)])) _
                  refine XS.iload X113.here hx rfl (hb hby d7_283) rfl ?_
                  show Steps p.tables e below (T113.setTop (mkF m 285 #[.val (.ref o0), .val (.long q1), .second, .val (.long (hj7_259_L3' F)), .second, .val (.int (3 : Int32)), .val (.int (F 3)), .unset, .unset, .unset, .unset, .unset, .unset, .unset, .unset, .unset, .unset, .unset, .unset] [(.int (3 : Int32)), (.ref o0)])) _
                  refine st126.trans ?_
                  exact kt)
              by_cases hc288_131 : (f9 (3 : Int32) (hj7_259__quoted' F) F) = (0 : Int32)
              · refine ⟨T126, T126.heap, _, X126, rfl, N126, KL128, G126_2, G126_3, G126_4, (by rw [hj7_259__quoted'', if_neg hc272_117, if_pos hc279_125, if_pos hc288_131]; exact G126_0), (by rw [hj7_259__closed'', if_neg hc272_117, if_pos hc279_125, if_pos hc288_131]; exact G126_1), fun t kt => ?_⟩
                rw [show (hj7_259_L3'' F) = (hj7_259_L3' F) from by rw [hj7_259_L3'', if_neg hc272_117, if_pos hc279_125, if_pos hc288_131]] at kt
                refine pre130 t ?_
                show Steps p.tables e below (T126.setTop (mkF m 288 #[.val (.ref o0), .val (.long q1), .second, .val (.long (hj7_259_L3' F)), .second, .val (.int (3 : Int32)), .val (.int (F 3)), .unset, .unset, .unset, .unset, .unset, .unset, .unset, .unset, .unset, .unset, .unset, .unset] [(.int (f9 (3 : Int32) (hj7_259__quoted' F) F))])) _
                refine XS.ifYes X126.here hx rfl (pc0 := 288) (pc' := 311) rfl (hb hby d7_288) rfl ((if0 _ _).trans (teq hc288_131).1) (by decide) (by decide) ?_
                exact kt
              · have pre132 : ∀ t, Steps p.tables e below (T126.setTop (mkF m 298 #[.val (.ref o0), .val (.long q1), .second, .val (.long ((hj7_259_L3' F) + (1 : Int64))), .second, .val (.int (3 : Int32)), .val (.int (F 3)), .unset, .unset, .unset, .unset, .unset, .unset, .unset, .unset, .unset, .unset, .unset, .unset] [(.int (lcmpW ((hj7_259_L3' F) + (1 : Int64)) q1))])) t → Steps p.tables e below (s₁.setTop (entryFrame m #[(.ref o0), (.long q1)] 19)) t := fun t kt => pre130 t (by
                    show Steps p.tables e below (T126.setTop (mkF m 288 #[.val (.ref o0), .val (.long q1), .second, .val (.long (hj7_259_L3' F)), .second, .val (.int (3 : Int32)), .val (.int (F 3)), .unset, .unset, .unset, .unset, .unset, .unset, .unset, .unset, .unset, .unset, .unset, .unset] [(.int (f9 (3 : Int32) (hj7_259__quoted' F) F))])) _
                    refine XS.ifNo X126.here hx rfl (hb hby d7_288) rfl ((if0 _ _).trans (feq hc288_131).1) ?_
                    show Steps p.tables e below (T126.setTop (mkF m 291 #[.val (.ref o0), .val (.long q1), .second, .val (.long (hj7_259_L3' F)), .second, .val (.int (3 : Int32)), .val (.int (F 3)), .unset, .unset, .unset, .unset, .unset, .unset, .unset, .unset, .unset, .unset, .unset, .unset] [])) _
                    refine XS.lloadN X126.here hx rfl (hb hby d7_291) rfl ?_
                    show Steps p.tables e below (T126.setTop (mkF m 292 #[.val (.ref o0), .val (.long q1), .second, .val (.long (hj7_259_L3' F)), .second, .val (.int (3 : Int32)), .val (.int (F 3)), .unset, .unset, .unset, .unset, .unset, .unset, .unset, .unset, .unset, .unset, .unset, .unset] [(.long (hj7_259_L3' F))])) _
                    refine XS.lconst X126.here hx rfl (hb hby d7_292) ?_
                    show Steps p.tables e below (T126.setTop (mkF m 293 #[.val (.ref o0), .val (.long q1), .second, .val (.long (hj7_259_L3' F)), .second, .val (.int (3 : Int32)), .val (.int (F 3)), .unset, .unset, .unset, .unset, .unset, .unset, .unset, .unset, .unset, .unset, .unset, .unset] [(.long (1 : Int64)), (.long (hj7_259_L3' F))])) _
                    refine XS.ladd X126.here hx rfl (hb hby d7_293) rfl ?_
                    show Steps p.tables e below (T126.setTop (mkF m 294 #[.val (.ref o0), .val (.long q1), .second, .val (.long (hj7_259_L3' F)), .second, .val (.int (3 : Int32)), .val (.int (F 3)), .unset, .unset, .unset, .unset, .unset, .unset, .unset, .unset, .unset, .unset, .unset, .unset] [(.long ((hj7_259_L3' F) + (1 : Int64)))])) _
                    jvm_step X126.here [X126.here.top, hx, (hb hby d7_294), Value.category]
                    show Steps p.tables e below (T126.setTop (mkF m 295 #[.val (.ref o0), .val (.long q1), .second, .val (.long (hj7_259_L3' F)), .second, .val (.int (3 : Int32)), .val (.int (F 3)), .unset, .unset, .unset, .unset, .unset, .unset, .unset, .unset, .unset, .unset, .unset, .unset] [(.long ((hj7_259_L3' F) + (1 : Int64))), (.long ((hj7_259_L3' F) + (1 : Int64)))])) _
                    refine XS.lstoreN X126.here hx rfl (hb hby d7_295) rfl (l' := #[.val (.ref o0), .val (.long q1), .second, .val (.long ((hj7_259_L3' F) + (1 : Int64))), .second, .val (.int (3 : Int32)), .val (.int (F 3)), .unset, .unset, .unset, .unset, .unset, .unset, .unset, .unset, .unset, .unset, .unset, .unset]) rfl ?_
                    show Steps p.tables e below (T126.setTop (mkF m 296 #[.val (.ref o0), .val (.long q1), .second, .val (.long ((hj7_259_L3' F) + (1 : Int64))), .second, .val (.int (3 : Int32)), .val (.int (F 3)), .unset, .unset, .unset, .unset, .unset, .unset, .unset, .unset, .unset, .unset, .unset, .unset] [(.long ((hj7_259_L3' F) + (1 : Int64)))])) _
                    refine XS.lloadN X126.here hx rfl (hb hby d7_296) rfl ?_
                    show Steps p.tables e below (T126.setTop (mkF m 297 #[.val (.ref o0), .val (.long q1), .second, .val (.long ((hj7_259_L3' F) + (1 : Int64))), .second, .val (.int (3 : Int32)), .val (.int (F 3)), .unset, .unset, .unset, .unset, .unset, .unset, .unset, .unset, .unset, .unset, .unset, .unset] [(.long q1), (.long ((hj7_259_L3' F) + (1 : Int64)))])) _
                    refine XS.lcmp X126.here hx rfl (hb hby d7_297) rfl ?_
                    exact kt)
                have hd298_133 : ¬ ((lcmpW ((hj7_259_L3' F) + (1 : Int64)) q1) = (0 : Int32)) := fun z => hR259_94 ⟨hc279_125, own_e2 hc288_131, (lw_eq _ _).mp z⟩
                refine ⟨T126, T126.heap, _, X126, rfl, N126, KL128, G126_2, G126_3, G126_4, (by rw [hj7_259__quoted'', if_neg hc272_117, if_pos hc279_125, if_neg hc288_131]; exact G126_0), (by rw [hj7_259__closed'', if_neg hc272_117, if_pos hc279_125, if_neg hc288_131]; exact G126_1), fun t kt => ?_⟩
                rw [show (hj7_259_L3'' F) = ((hj7_259_L3' F) + (1 : Int64)) from by rw [hj7_259_L3'', if_neg hc272_117, if_pos hc279_125, if_neg hc288_131]] at kt
                refine pre132 t ?_
                show Steps p.tables e below (T126.setTop (mkF m 298 #[.val (.ref o0), .val (.long q1), .second, .val (.long ((hj7_259_L3' F) + (1 : Int64))), .second, .val (.int (3 : Int32)), .val (.int (F 3)), .unset, .unset, .unset, .unset, .unset, .unset, .unset, .unset, .unset, .unset, .unset, .unset] [(.int (lcmpW ((hj7_259_L3' F) + (1 : Int64)) q1))])) _
                refine XS.ifYes X126.here hx rfl (pc0 := 298) (pc' := 311) rfl (hb hby d7_298) rfl ((if0 _ _).trans (feq hd298_133).2) (by decide) (by decide) ?_
                exact kt
            · refine ⟨T113, h68, _, X113, e113, N68, (Keep.refl h68 [o0]), V68_0, V68_1, V68_2, (by rw [hj7_259__quoted'', if_neg hc272_117, if_neg hc279_125]; exact V68_3), (by rw [hj7_259__closed'', if_neg hc272_117, if_neg hc279_125]; exact V68_4), fun t kt => ?_⟩
              rw [show (hj7_259_L3'' F) = (hj7_259_L3' F) from by rw [hj7_259_L3'', if_neg hc272_117, if_neg hc279_125]] at kt
              refine pre124 t ?_
              show Steps p.tables e below (T113.setTop (mkF m 279 #[.val (.ref o0), .val (.long q1), .second, .val (.long (hj7_259_L3' F)), .second, .val (.int (3 : Int32)), .val (.int (F 3)), .unset, .unset, .unset, .unset, .unset, .unset, .unset, .unset, .unset, .unset, .unset, .unset] [(.int (10 : Int32)), (.int (F 3))])) _
              refine XS.icmpYes X113.here hx rfl (pc0 := 279) (pc' := 311) rfl (hb hby d7_279) rfl (feq hc279_125).2 (by decide) (by decide) ?_
              exact kt
        have pre112 := st112
        have K134 : Keep h0 h112 [o0] := K89.trans K112q (allS (Or.inl (List.mem_of_getElem? (i := 0) rfl)) all0)
        have Z135 : n0 ≤ h112.size := Nat.le_trans Z0 K134.1
        obtain ⟨T136, X136, e136, st136⟩ := getF X112 hx hZ hown (host := "") (Or.inl (hw _ (List.mem_of_getElem? (i := 67) rfl))) (Via.of (hw _ (List.mem_of_getElem? (i := 53) rfl))) e112 V112_2 (g := (mkF m 253 #[.val (.ref o0), .val (.long q1), .second, .val (.long (hj7_259_L3'' F)), .second, .val (.int (4 : Int32)), .val (.int (F 3)), .unset, .unset, .unset, .unset, .unset, .unset, .unset, .unset, .unset, .unset, .unset, .unset] [(.ref o0), (.int (4 : Int32))])) rfl rfl (hb hby d7_253)
        have pre137 : ∀ t, Steps p.tables e below (T136.setTop (mkF m 256 #[.val (.ref o0), .val (.long q1), .second, .val (.long (hj7_259_L3'' F)), .second, .val (.int (4 : Int32)), .val (.int (F 3)), .unset, .unset, .unset, .unset, .unset, .unset, .unset, .unset, .unset, .unset, .unset, .unset] [(.int (5 : Int32)), (.int (4 : Int32))])) t → Steps p.tables e below (s₁.setTop (entryFrame m #[(.ref o0), (.long q1)] 19)) t := fun t kt => pre112 t (by
            show Steps p.tables e below (T112.setTop (mkF m 311 #[.val (.ref o0), .val (.long q1), .second, .val (.long (hj7_259_L3'' F)), .second, .val (.int (3 : Int32)), .val (.int (F 3)), .unset, .unset, .unset, .unset, .unset, .unset, .unset, .unset, .unset, .unset, .unset, .unset] [])) _
            refine XS.iinc X112.here hx rfl (hb hby d7_311) rfl (l' := #[.val (.ref o0), .val (.long q1), .second, .val (.long (hj7_259_L3'' F)), .second, .val (.int (4 : Int32)), .val (.int (F 3)), .unset, .unset, .unset, .unset, .unset, .unset, .unset, .unset, .unset, .unset, .unset, .unset]) rfl ?_
            show Steps p.tables e below (T112.setTop (mkF m 314 #[.val (.ref o0), .val (.long q1), .second, .val (.long (hj7_259_L3'' F)), .second, .val (.int (4 : Int32)), .val (.int (F 3)), .unset, .unset, .unset, .unset, .unset, .unset, .unset, .unset, .unset, .unset, .unset, .unset] [])) _
            refine XS.goto X112.here hx rfl (pc0 := 314) (pc' := 250) rfl (hb hby d7_314) (by decide) (by decide) ?_
            show Steps p.tables e below (T112.setTop (mkF m 250 #[.val (.ref o0), .val (.long q1), .second, .val (.long (hj7_259_L3'' F)), .second, .val (.int (4 : Int32)), .val (.int (F 3)), .unset, .unset, .unset, .unset, .unset, .unset, .unset, .unset, .unset, .unset, .unset, .unset] [])) _
            refine XS.iload X112.here hx rfl (hb hby d7_250) rfl ?_
            show Steps p.tables e below (T112.setTop (mkF m 252 #[.val (.ref o0), .val (.long q1), .second, .val (.long (hj7_259_L3'' F)), .second, .val (.int (4 : Int32)), .val (.int (F 3)), .unset, .unset, .unset, .unset, .unset, .unset, .unset, .unset, .unset, .unset, .unset, .unset] [(.int (4 : Int32))])) _
            refine XS.aloadN X112.here hx rfl (hb hby d7_252) rfl rfl ?_
            show Steps p.tables e below (T112.setTop (mkF m 253 #[.val (.ref o0), .val (.long q1), .second, .val (.long (hj7_259_L3'' F)), .second, .val (.int (4 : Int32)), .val (.int (F 3)), .unset, .unset, .unset, .unset, .unset, .unset, .unset, .unset, .unset, .unset, .unset, .unset] [(.ref o0), (.int (4 : Int32))])) _
            refine st136 _ ?_
            exact kt)
        have pre138 : ∀ t, Steps p.tables e below (T136.setTop (mkF m 259 #[.val (.ref o0), .val (.long q1), .second, .val (.long (hj7_259_L3'' F)), .second, .val (.int (4 : Int32)), .val (.int (F 3)), .unset, .unset, .unset, .unset, .unset, .unset, .unset, .unset, .unset, .unset, .unset, .unset] [])) t → Steps p.tables e below (s₁.setTop (entryFrame m #[(.ref o0), (.long q1)] 19)) t := fun t kt => pre137 t (by
            show Steps p.tables e below (T136.setTop (mkF m 256 #[.val (.ref o0), .val (.long q1), .second, .val (.long (hj7_259_L3'' F)), .second, .val (.int (4 : Int32)), .val (.int (F 3)), .unset, .unset, .unset, .unset, .unset, .unset, .unset, .unset, .unset, .unset, .unset, .unset] [(.int (5 : Int32)), (.int (4 : Int32))])) _
            refine XS.icmpNo X136.here hx rfl (hb hby d7_256) rfl (tlt (by decide : ((4 : Int32) < (5 : Int32)))).2.1 ?_
            exact kt)
        by_cases hR259_139 : ((F 4) = (10 : Int32) ∧ (hj7_259__quoted'' F) = (0 : Int32) ∧ ((hj7_259_L3'' F) + (1 : Int64)) = q1)
        · obtain ⟨T140, X140, e140, st140⟩ := getF X136 hx hZ hown (host := "") (Or.inl (hw _ (List.mem_of_getElem? (i := 68) rfl))) (Via.of (hw _ (List.mem_of_getElem? (i := 51) rfl))) e136 V112_0 (g := (mkF m 260 #[.val (.ref o0), .val (.long q1), .second, .val (.long (hj7_259_L3'' F)), .second, .val (.int (4 : Int32)), .val (.int (F 3)), .unset, .unset, .unset, .unset, .unset, .unset, .unset, .unset, .unset, .unset, .unset, .unset] [(.ref o0)])) rfl rfl (hb hby d7_260)
          have c142 := (((V_r1.keep K25q (ninS (Ne.symm ne_o0_r1) nin0)).keep K68q (ninS (Ne.symm ne_o0_r1) nin0)).keep K112q (ninS (Ne.symm ne_o0_r1) nin0))
          obtain ⟨cl141, Ar141, Sz141, Nn141, Hs141⟩ := id c142
          have hin141 : ¬ ((4 : Int32) < 0 ∨ cl141.slots.size ≤ ((4 : Int32)).toNatClampNeg) := inb_of Sz141 ⟨by decide, by decide⟩
          have hat141 : cl141.slots[((4 : Int32)).toNatClampNeg]? = some (.int (F 4)) := (Hs141 _ (own_lt hin141)).1
          have pre143 : ∀ t, Steps p.tables e below (T140.setTop (mkF m 272 #[.val (.ref o0), .val (.long q1), .second, .val (.long (hj7_259_L3'' F)), .second, .val (.int (4 : Int32)), .val (.int (F 4)), .unset, .unset, .unset, .unset, .unset, .unset, .unset, .unset, .unset, .unset, .unset, .unset] [(.int (34 : Int32)), (.int (F 4))])) t → Steps p.tables e below (s₁.setTop (entryFrame m #[(.ref o0), (.long q1)] 19)) t := fun t kt => pre138 t (by
              show Steps p.tables e below (T136.setTop (mkF m 259 #[.val (.ref o0), .val (.long q1), .second, .val (.long (hj7_259_L3'' F)), .second, .val (.int (4 : Int32)), .val (.int (F 3)), .unset, .unset, .unset, .unset, .unset, .unset, .unset, .unset, .unset, .unset, .unset, .unset] [])) _
              refine XS.aloadN X136.here hx rfl (hb hby d7_259) rfl rfl ?_
              show Steps p.tables e below (T136.setTop (mkF m 260 #[.val (.ref o0), .val (.long q1), .second, .val (.long (hj7_259_L3'' F)), .second, .val (.int (4 : Int32)), .val (.int (F 3)), .unset, .unset, .unset, .unset, .unset, .unset, .unset, .unset, .unset, .unset, .unset, .unset] [(.ref o0)])) _
              refine st140 _ ?_
              show Steps p.tables e below (T140.setTop (mkF m 263 #[.val (.ref o0), .val (.long q1), .second, .val (.long (hj7_259_L3'' F)), .second, .val (.int (4 : Int32)), .val (.int (F 3)), .unset, .unset, .unset, .unset, .unset, .unset, .unset, .unset, .unset, .unset, .unset, .unset] [(.ref r1)])) _
              refine XS.iload X140.here hx rfl (hb hby d7_263) rfl ?_
              show Steps p.tables e below (T140.setTop (mkF m 265 #[.val (.ref o0), .val (.long q1), .second, .val (.long (hj7_259_L3'' F)), .second, .val (.int (4 : Int32)), .val (.int (F 3)), .unset, .unset, .unset, .unset, .unset, .unset, .unset, .unset, .unset, .unset, .unset, .unset] [(.int (4 : Int32)), (.ref r1)])) _
              refine X140.baloadBytes hx (j := (4 : Int32)) (v := (.int (F 4))) (by rw [e140]; exact Ar141.1) (State.isArrayOf_alike hZ.alike Ar141.2.1) Ar141.2.2 hin141 hat141 (g := (mkF m 265 #[.val (.ref o0), .val (.long q1), .second, .val (.long (hj7_259_L3'' F)), .second, .val (.int (4 : Int32)), .val (.int (F 3)), .unset, .unset, .unset, .unset, .unset, .unset, .unset, .unset, .unset, .unset, .unset, .unset] [(.int (4 : Int32)), (.ref r1)])) rfl rfl (hb hby d7_265) _ ?_
              show Steps p.tables e below (T140.setTop (mkF m 266 #[.val (.ref o0), .val (.long q1), .second, .val (.long (hj7_259_L3'' F)), .second, .val (.int (4 : Int32)), .val (.int (F 3)), .unset, .unset, .unset, .unset, .unset, .unset, .unset, .unset, .unset, .unset, .unset, .unset] [(.int (F 4))])) _
              refine XS.istore X140.here hx rfl (hb hby d7_266) rfl (l' := #[.val (.ref o0), .val (.long q1), .second, .val (.long (hj7_259_L3'' F)), .second, .val (.int (4 : Int32)), .val (.int (F 4)), .unset, .unset, .unset, .unset, .unset, .unset, .unset, .unset, .unset, .unset, .unset, .unset]) rfl ?_
              show Steps p.tables e below (T140.setTop (mkF m 268 #[.val (.ref o0), .val (.long q1), .second, .val (.long (hj7_259_L3'' F)), .second, .val (.int (4 : Int32)), .val (.int (F 4)), .unset, .unset, .unset, .unset, .unset, .unset, .unset, .unset, .unset, .unset, .unset, .unset] [])) _
              refine XS.iload X140.here hx rfl (hb hby d7_268) rfl ?_
              show Steps p.tables e below (T140.setTop (mkF m 270 #[.val (.ref o0), .val (.long q1), .second, .val (.long (hj7_259_L3'' F)), .second, .val (.int (4 : Int32)), .val (.int (F 4)), .unset, .unset, .unset, .unset, .unset, .unset, .unset, .unset, .unset, .unset, .unset, .unset] [(.int (F 4))])) _
              refine XS.bipush X140.here hx rfl (hb hby d7_270) ?_
              exact kt)
          have hd272_144 : ¬ ((F 4) = (34 : Int32)) := fun z => absurd (hR259_139.1.symm.trans z) (by decide)
          have pre145 : ∀ t, Steps p.tables e below (T140.setTop (mkF m 279 #[.val (.ref o0), .val (.long q1), .second, .val (.long (hj7_259_L3'' F)), .second, .val (.int (4 : Int32)), .val (.int (F 4)), .unset, .unset, .unset, .unset, .unset, .unset, .unset, .unset, .unset, .unset, .unset, .unset] [(.int (10 : Int32)), (.int (F 4))])) t → Steps p.tables e below (s₁.setTop (entryFrame m #[(.ref o0), (.long q1)] 19)) t := fun t kt => pre143 t (by
              show Steps p.tables e below (T140.setTop (mkF m 272 #[.val (.ref o0), .val (.long q1), .second, .val (.long (hj7_259_L3'' F)), .second, .val (.int (4 : Int32)), .val (.int (F 4)), .unset, .unset, .unset, .unset, .unset, .unset, .unset, .unset, .unset, .unset, .unset, .unset] [(.int (34 : Int32)), (.int (F 4))])) _
              refine XS.icmpNo X140.here hx rfl (hb hby d7_272) rfl (feq hd272_144).1 ?_
              show Steps p.tables e below (T140.setTop (mkF m 275 #[.val (.ref o0), .val (.long q1), .second, .val (.long (hj7_259_L3'' F)), .second, .val (.int (4 : Int32)), .val (.int (F 4)), .unset, .unset, .unset, .unset, .unset, .unset, .unset, .unset, .unset, .unset, .unset, .unset] [])) _
              refine XS.iload X140.here hx rfl (hb hby d7_275) rfl ?_
              show Steps p.tables e below (T140.setTop (mkF m 277 #[.val (.ref o0), .val (.long q1), .second, .val (.long (hj7_259_L3'' F)), .second, .val (.int (4 : Int32)), .val (.int (F 4)), .unset, .unset, .unset, .unset, .unset, .unset, .unset, .unset, .unset, .unset, .unset, .unset] [(.int (F 4))])) _
              refine XS.bipush X140.here hx rfl (hb hby d7_277) ?_
              exact kt)
          have hd279_146 : (F 4) = (10 : Int32) := hR259_139.1
          obtain ⟨cq147, q147, q147'⟩ := (((E_o0.keep K25q).keep K68q).keep K112q).cell
          obtain ⟨_, _, ⟨T147, L147, k147, n147⟩, -, X147, ⟨Lc147, hQ147, l147, y147, z147⟩, st147⟩ := X140.privateBack hx (y := (⟨"com/example/cistern/cistern/io/CsvReader", "endsRecord", "(I)Z"⟩ : MethodName)) hown (mvT hZ (hw _ (List.mem_of_getElem? (i := 69) rfl))) (mvT hZ (hw _ (List.mem_of_getElem? (i := 70) rfl))) (own_selp (z := (⟨"com/example/cistern/cistern/io/CsvReader", "start", "(Ljava/io/InputStream;)V"⟩ : MethodName)) rfl (mvT hZ (hw _ (List.mem_of_getElem? (i := 33) rfl))) (Cond.privateMethod_at (mvP hZ (hw _ (List.mem_of_getElem? (i := 71) rfl)) (args := #[]))) (mvT hZ (hw _ (List.mem_of_getElem? (i := 70) rfl))) (by decide)) (Cond.privateMethod_at (mvP hZ (hw _ (List.mem_of_getElem? (i := 71) rfl)) (args := #[]))) (mvT hZ (hw _ (List.mem_of_getElem? (i := 72) rfl))) (by decide) (backOf (W := 0) (rm9 l Z a0 hw [] o0 (4 : Int32) r1 (hj7_259__quoted'' F) (hj7_259__closed'' F) (1 : Int32) (5 : Int32) F h112 n0 Z135 (((E_o0.keep K25q).keep K68q).keep K112q) V112_0 V112_3 V112_4 V112_1 V112_2 c142 ne_o0_r1 g_o0 (by decide) (by decide)) hZ (hw _ (List.mem_of_getElem? (i := 72) rfl)) (hw _ (List.mem_of_getElem? (i := 6) rfl)) (by decide) (by decide)) (g := (mkF m 285 #[.val (.ref o0), .val (.long q1), .second, .val (.long (hj7_259_L3'' F)), .second, .val (.int (4 : Int32)), .val (.int (F 4)), .unset, .unset, .unset, .unset, .unset, .unset, .unset, .unset, .unset, .unset, .unset, .unset] [(.int (4 : Int32)), (.ref o0)])) rfl (by rw [hml]; rfl) (Steps.refl _) (a := o0) (by rw [e140]; exact q147) q147' (argsL := [(.int (4 : Int32))]) (rest := []) (lenOf pd_7_1 rfl) rfl (by show 2 * 0 + _ ≤ _; exact Nat.le_of_eq rfl) (hb hby d7_285) (fun _ _ => ⟨rfl, e140, (by decide : 0 + 0 ≤ _), (by decide : 0 + 0 ≤ _)⟩)
          dsimp only [Pt.U, Pt.locs, Pt.cells, Pt.slots] at X147 l147 y147 z147 st147 hQ147
          subst l147 y147 z147
          obtain ⟨rfl, N147q, K147q, G147_0, G147_1, G147_2, G147_3, G147_4⟩ := hQ147
          have N147 := Fr.app N112 N147q
          have K148 : Keep h0 T147.heap [o0] := K134.trans K147q (allS (Or.inl (List.mem_of_getElem? (i := 0) rfl)) all0)
          have Z149 : n0 ≤ T147.heap.size := Nat.le_trans Z0 K148.1
          obtain ⟨LS147, X147, N147⟩ : ∃ L, Stand p l e ({ frames := 2, cells := 0, slots := 0, locals := 28 } : Room) s m #[(.ref o0), (.long q1)] below meth c T147 L 0 0 ∧ Fr n0 L := ⟨_, X147, N147⟩
          have pre150 : ∀ t, Steps p.tables e below (T147.setTop (mkF m 288 #[.val (.ref o0), .val (.long q1), .second, .val (.long (hj7_259_L3'' F)), .second, .val (.int (4 : Int32)), .val (.int (F 4)), .unset, .unset, .unset, .unset, .unset, .unset, .unset, .unset, .unset, .unset, .unset, .unset] [(.int (f9 (4 : Int32) (hj7_259__quoted'' F) F))])) t → Steps p.tables e below (s₁.setTop (entryFrame m #[(.ref o0), (.long q1)] 19)) t := fun t kt => pre145 t (by
              show Steps p.tables e below (T140.setTop (mkF m 279 #[.val (.ref o0), .val (.long q1), .second, .val (.long (hj7_259_L3'' F)), .second, .val (.int (4 : Int32)), .val (.int (F 4)), .unset, .unset, .unset, .unset, .unset, .unset, .unset, .unset, .unset, .unset, .unset, .unset] [(.int (10 : Int32)), (.int (F 4))])) _
              refine XS.icmpNo X140.here hx rfl (hb hby d7_279) rfl (teq hd279_146).2 ?_
              show Steps p.tables e below (T140.setTop (mkF m 282 #[.val (.ref o0), .val (.long q1), .second, .val (.long (hj7_259_L3'' F)), .second, .val (.int (4 : Int32)), .val (.int (F 4)), .unset, .unset, .unset, .unset, .unset, .unset, .unset, .unset, .unset, .unset, .unset, .unset] [])) _
              refine XS.aloadN X140.here hx rfl (hb hby d7_282) rfl rfl ?_
              show Steps p.tables e below (T140.setTop (mkF m 283 #[.val (.ref o0), .val (.long q1), .second, .val (.long (hj7_259_L3'' F)), .second, .val (.int (4 : Int32)), .val (.int (F 4)), .unset, .unset, .unset, .unset, .unset, .unset, .unset, .unset, .unset, .unset, .unset, .unset] [(.ref o0)])) _
              refine XS.iload X140.here hx rfl (hb hby d7_283) rfl ?_
              show Steps p.tables e below (T140.setTop (mkF m 285 #[.val (.ref o0), .val (.long q1), .second, .val (.long (hj7_259_L3'' F)), .second, .val (.int (4 : Int32)), .val (.int (F 4)), .unset, .unset, .unset, .unset, .unset, .unset, .unset, .unset, .unset, .unset, .unset, .unset] [(.int (4 : Int32)), (.ref o0)])) _
              refine st147.trans ?_
              exact kt)
          have hd288_151 : ¬ ((f9 (4 : Int32) (hj7_259__quoted'' F) F) = (0 : Int32)) := own_e1 hR259_139.1 hR259_139.2.1
          have pre152 : ∀ t, Steps p.tables e below (T147.setTop (mkF m 298 #[.val (.ref o0), .val (.long q1), .second, .val (.long ((hj7_259_L3'' F) + (1 : Int64))), .second, .val (.int (4 : Int32)), .val (.int (F 4)), .unset, .unset, .unset, .unset, .unset, .unset, .unset, .unset, .unset, .unset, .unset, .unset] [(.int (lcmpW ((hj7_259_L3'' F) + (1 : Int64)) q1))])) t → Steps p.tables e below (s₁.setTop (entryFrame m #[(.ref o0), (.long q1)] 19)) t := fun t kt => pre150 t (by
              show Steps p.tables e below (T147.setTop (mkF m 288 #[.val (.ref o0), .val (.long q1), .second, .val (.long (hj7_259_L3'' F)), .second, .val (.int (4 : Int32)), .val (.int (F 4)), .unset, .unset, .unset, .unset, .unset, .unset, .unset, .unset, .unset, .unset, .unset, .unset] [(.int (f9 (4 : Int32) (hj7_259__quoted'' F) F))])) _
              refine XS.ifNo X147.here hx rfl (hb hby d7_288) rfl ((if0 _ _).trans (feq hd288_151).1) ?_
              show Steps p.tables e below (T147.setTop (mkF m 291 #[.val (.ref o0), .val (.long q1), .second, .val (.long (hj7_259_L3'' F)), .second, .val (.int (4 : Int32)), .val (.int (F 4)), .unset, .unset, .unset, .unset, .unset, .unset, .unset, .unset, .unset, .unset, .unset, .unset] [])) _
              refine XS.lloadN X147.here hx rfl (hb hby d7_291) rfl ?_
              show Steps p.tables e below (T147.setTop (mkF m 292 #[.val (.ref o0), .val (.long q1), .second, .val (.long (hj7_259_L3'' F)), .second, .val (.int (4 : Int32)), .val (.int (F 4)), .unset, .unset, .unset, .unset, .unset, .unset, .unset, .unset, .unset, .unset, .unset, .unset] [(.long (hj7_259_L3'' F))])) _
              refine XS.lconst X147.here hx rfl (hb hby d7_292) ?_
              show Steps p.tables e below (T147.setTop (mkF m 293 #[.val (.ref o0), .val (.long q1), .second, .val (.long (hj7_259_L3'' F)), .second, .val (.int (4 : Int32)), .val (.int (F 4)), .unset, .unset, .unset, .unset, .unset, .unset, .unset, .unset, .unset, .unset, .unset, .unset] [(.long (1 : Int64)), (.long (hj7_259_L3'' F))])) _
              refine XS.ladd X147.here hx rfl (hb hby d7_293) rfl ?_
              show Steps p.tables e below (T147.setTop (mkF m 294 #[.val (.ref o0), .val (.long q1), .second, .val (.long (hj7_259_L3'' F)), .second, .val (.int (4 : Int32)), .val (.int (F 4)), .unset, .unset, .unset, .unset, .unset, .unset, .unset, .unset, .unset, .unset, .unset, .unset] [(.long ((hj7_259_L3'' F) + (1 : Int64)))])) _
              jvm_step X147.here [X147.here.top, hx, (hb hby d7_294), Value.category]
              show Steps p.tables e below (T147.setTop (mkF m 295 #[.val (.ref o0), .val (.long q1), .second, .val (.long (hj7_259_L3'' F)), .second, .val (.int (4 : Int32)), .val (.int (F 4)), .unset, .unset, .unset, .unset, .unset, .unset, .unset, .unset, .unset, .unset, .unset, .unset] [(.long ((hj7_259_L3'' F) + (1 : Int64))), (.long ((hj7_259_L3'' F) + (1 : Int64)))])) _
              refine XS.lstoreN X147.here hx rfl (hb hby d7_295) rfl (l' := #[.val (.ref o0), .val (.long q1), .second, .val (.long ((hj7_259_L3'' F) + (1 : Int64))), .second, .val (.int (4 : Int32)), .val (.int (F 4)), .unset, .unset, .unset, .unset, .unset, .unset, .unset, .unset, .unset, .unset, .unset, .unset]) rfl ?_
              show Steps p.tables e below (T147.setTop (mkF m 296 #[.val (.ref o0), .val (.long q1), .second, .val (.long ((hj7_259_L3'' F) + (1 : Int64))), .second, .val (.int (4 : Int32)), .val (.int (F 4)), .unset, .unset, .unset, .unset, .unset, .unset, .unset, .unset, .unset, .unset, .unset, .unset] [(.long ((hj7_259_L3'' F) + (1 : Int64)))])) _
              refine XS.lloadN X147.here hx rfl (hb hby d7_296) rfl ?_
              show Steps p.tables e below (T147.setTop (mkF m 297 #[.val (.ref o0), .val (.long q1), .second, .val (.long ((hj7_259_L3'' F) + (1 : Int64))), .second, .val (.int (4 : Int32)), .val (.int (F 4)), .unset, .unset, .unset, .unset, .unset, .unset, .unset, .unset, .unset, .unset, .unset, .unset] [(.long q1), (.long ((hj7_259_L3'' F) + (1 : Int64)))])) _
              refine XS.lcmp X147.here hx rfl (hb hby d7_297) rfl ?_
              exact kt)
          have hd298_153 : (lcmpW ((hj7_259_L3'' F) + (1 : Int64)) q1) = (0 : Int32) := (lw_eq _ _).mpr hR259_139.2.2
          obtain ⟨T154, h154, X154, e154, W154, st154⟩ := putF X147 hx hZ hown (host := "") (Or.inl (hw _ (List.mem_of_getElem? (i := 59) rfl))) (Via.of (hw _ (List.mem_of_getElem? (i := 60) rfl))) rfl G147_3 ((((E_o0.keep K25q).keep K68q).keep K112q).keep K147q) (Or.inl (hw _ (List.mem_of_getElem? (i := 23) rfl))) (hw _ (List.mem_of_getElem? (i := 5) rfl)) (ty := .int) (by decide) rfl rfl (g := (mkF m 306 #[.val (.ref o0), .val (.long q1), .second, .val (.long ((hj7_259_L3'' F) + (1 : Int64))), .second, .val (.int (4 : Int32)), .val (.int (F 4)), .unset, .unset, .unset, .unset, .unset, .unset, .unset, .unset, .unset, .unset, .unset, .unset] [(.int ((4 : Int32) + (1 : Int32))), (.ref o0)])) rfl rfl (hb hby d7_306)
          have Fw154 := G147_3.same W154
          have K155 : Keep h0 h154 [o0] := K148.wr W154 (Or.inl (List.mem_of_getElem? (i := 0) rfl))
          have Z156 : n0 ≤ h154.size := Nat.le_trans Z0 K155.1
          have N154 := Fr.snoc X154 N147 g_o0
          obtain ⟨LS154, X154, N154⟩ : ∃ L, Stand p l e ({ frames := 2, cells := 0, slots := 0, locals := 28 } : Room) s m #[(.ref o0), (.long q1)] below meth c T154 L 0 0 ∧ Fr n0 L := ⟨_, X154, N154⟩
          obtain ⟨fs, hr, hrun, hended, hW, hsame⟩ := X154.leave (v := some (.long q1)) (fun h => by rw [Bd.returns] at h; cases h)
          have hv202 : (f7 q1 F) = q1 := by rw [f7, if_neg hR259_8, if_neg hR259_51, if_neg hR259_94, if_pos hR259_139]
          have c203 := (G147_0.other W154 (Or.inr (slot_ne (Or.inl (hw _ (List.mem_of_getElem? (i := 49) rfl))) (Or.inl (hw _ (List.mem_of_getElem? (i := 23) rfl))) (by decide) (t := .boolean) (t' := .int) (by decide) (by decide))))
          have c204 := (G147_1.other W154 (Or.inr (slot_ne (Or.inl (hw _ (List.mem_of_getElem? (i := 74) rfl))) (Or.inl (hw _ (List.mem_of_getElem? (i := 23) rfl))) (by decide) (t := .boolean) (t' := .int) (by decide) (by decide))))
          have c205 := (G147_2.other W154 (Or.inr (slot_ne (Or.inr (hw _ (List.mem_of_getElem? (i := 21) rfl))) (Or.inl (hw _ (List.mem_of_getElem? (i := 23) rfl))) (by decide) (t := (.array .byte)) (t' := .int) (by decide) (by decide))))
          have c206 := (G147_4.other W154 (Or.inr (slot_ne (Or.inl (hw _ (List.mem_of_getElem? (i := 25) rfl))) (Or.inl (hw _ (List.mem_of_getElem? (i := 23) rfl))) (by decide) (t := .int) (t' := .int) (by decide) (by decide))))
          refine ⟨_, _, pre152 _ ?_, hrun, hended, _, _, rfl, ?_, ⟨_, rfl⟩, hW, hsame.mono (by decide) (by decide)⟩
          · show Steps p.tables e below (T147.setTop (mkF m 298 #[.val (.ref o0), .val (.long q1), .second, .val (.long ((hj7_259_L3'' F) + (1 : Int64))), .second, .val (.int (4 : Int32)), .val (.int (F 4)), .unset, .unset, .unset, .unset, .unset, .unset, .unset, .unset, .unset, .unset, .unset, .unset] [(.int (lcmpW ((hj7_259_L3'' F) + (1 : Int64)) q1))])) _
            refine XS.ifNo X147.here hx rfl (hb hby d7_298) rfl ((if0 _ _).trans (teq hd298_153).2) ?_
            show Steps p.tables e below (T147.setTop (mkF m 301 #[.val (.ref o0), .val (.long q1), .second, .val (.long ((hj7_259_L3'' F) + (1 : Int64))), .second, .val (.int (4 : Int32)), .val (.int (F 4)), .unset, .unset, .unset, .unset, .unset, .unset, .unset, .unset, .unset, .unset, .unset, .unset] [])) _
            refine XS.aloadN X147.here hx rfl (hb hby d7_301) rfl rfl ?_
            show Steps p.tables e below (T147.setTop (mkF m 302 #[.val (.ref o0), .val (.long q1), .second, .val (.long ((hj7_259_L3'' F) + (1 : Int64))), .second, .val (.int (4 : Int32)), .val (.int (F 4)), .unset, .unset, .unset, .unset, .unset, .unset, .unset, .unset, .unset, .unset, .unset, .unset] [(.ref o0)])) _
            refine XS.iload X147.here hx rfl (hb hby d7_302) rfl ?_
            show Steps p.tables e below (T147.setTop (mkF m 304 #[.val (.ref o0), .val (.long q1), .second, .val (.long ((hj7_259_L3'' F) + (1 : Int64))), .second, .val (.int (4 : Int32)), .val (.int (F 4)), .unset, .unset, .unset, .unset, .unset, .unset, .unset, .unset, .unset, .unset, .unset, .unset] [(.int (4 : Int32)), (.ref o0)])) _
            refine XS.iconst X147.here hx rfl (hb hby d7_304) ?_
            show Steps p.tables e below (T147.setTop (mkF m 305 #[.val (.ref o0), .val (.long q1), .second, .val (.long ((hj7_259_L3'' F) + (1 : Int64))), .second, .val (.int (4 : Int32)), .val (.int (F 4)), .unset, .unset, .unset, .unset, .unset, .unset, .unset, .unset, .unset, .unset, .unset, .unset] [(.int (1 : Int32)), (.int (4 : Int32)), (.ref o0)])) _
            refine XS.iadd X147.here hx rfl (hb hby d7_305) rfl ?_
            show Steps p.tables e below (T147.setTop (mkF m 306 #[.val (.ref o0), .val (.long q1), .second, .val (.long ((hj7_259_L3'' F) + (1 : Int64))), .second, .val (.int (4 : Int32)), .val (.int (F 4)), .unset, .unset, .unset, .unset, .unset, .unset, .unset, .unset, .unset, .unset, .unset, .unset] [(.int ((4 : Int32) + (1 : Int32))), (.ref o0)])) _
            refine st154 _ ?_
            show Steps p.tables e below (T154.setTop (mkF m 309 #[.val (.ref o0), .val (.long q1), .second, .val (.long ((hj7_259_L3'' F) + (1 : Int64))), .second, .val (.int (4 : Int32)), .val (.int (F 4)), .unset, .unset, .unset, .unset, .unset, .unset, .unset, .unset, .unset, .unset, .unset, .unset] [])) _
            refine XS.lloadN X154.here hx rfl (hb hby d7_309) rfl ?_
            show Steps p.tables e below (T154.setTop (mkF m 310 #[.val (.ref o0), .val (.long q1), .second, .val (.long ((hj7_259_L3'' F) + (1 : Int64))), .second, .val (.int (4 : Int32)), .val (.int (F 4)), .unset, .unset, .unset, .unset, .unset, .unset, .unset, .unset, .unset, .unset, .unset, .unset] [(.long q1)])) _
            exact X154.lreturnOut hx Bd.returns (hb hby d7_310) hr
          · show Q7 Z o0 q1 r1 F h0 n0 _ T154.heap _
            rw [e154]
            exact ⟨congrArg (fun q => some (Value.long q)) hv202.symm, N154, K155, (by rw [f7_h__quoted, if_neg hR259_8, if_neg hR259_51, if_neg hR259_94, if_pos hR259_139]; exact c203), (by rw [f7_h__closed, if_neg hR259_8, if_neg hR259_51, if_neg hR259_94, if_pos hR259_139]; exact c204), c205, (by rw [f7_h__start, if_neg hR259_8, if_neg hR259_51, if_neg hR259_94, if_pos hR259_139]; exact Fw154), (by rw [f7_h__end, if_neg hR259_8, if_neg hR259_51, if_neg hR259_94, if_pos hR259_139]; exact c206)⟩
        · obtain ⟨T157, h157, L157, X157, e157, N157, K157q, V157_0, V157_1, V157_2, V157_3, V157_4, st157⟩ : ∃ (T' : State) (h' : Heap) (L' : List Loc), Stand p l e ({ frames := 2, cells := 0, slots := 0, locals := 28 } : Room) s m #[(.ref o0), (.long q1)] below meth c T' L' 0 0 ∧ T'.heap = h' ∧ Fr n0 L' ∧ Keep h112 h' [o0] ∧ Fld Z h' o0 "com/example/cistern/cistern/io/RecordReader" "_buffer" "[B" (.ref r1) ∧ Fld Z h' o0 "com/example/cistern/cistern/io/RecordReader" "_start" "I" (.int (1 : Int32)) ∧ Fld Z h' o0 "com/example/cistern/cistern/io/RecordReader" "_end" "I" (.int (5 : Int32)) ∧ Fld Z h' o0 "com/example/cistern/cistern/io/CsvReader" "_quoted" "Z" (.int (hj7_259__quoted''' F)) ∧ Fld Z h' o0 "com/example/cistern/cistern/io/CsvReader" "_closed" "Z" (.int (hj7_259__closed''' F)) ∧ ∀ t, Steps p.tables e below (T'.setTop (mkF m 311 #[.val (.ref o0), .val (.long q1), .second, .val (.long (hj7_259_L3''' F)), .second, .val (.int (4 : Int32)), .val (.int (F 4)), .unset, .unset, .unset, .unset, .unset, .unset, .unset, .unset, .unset, .unset, .unset, .unset] [])) t → Steps p.tables e below (s₁.setTop (entryFrame m #[(.ref o0), (.long q1)] 19)) t := by
            obtain ⟨T158, X158, e158, st158⟩ := getF X136 hx hZ hown (host := "") (Or.inl (hw _ (List.mem_of_getElem? (i := 68) rfl))) (Via.of (hw _ (List.mem_of_getElem? (i := 51) rfl))) e136 V112_0 (g := (mkF m 260 #[.val (.ref o0), .val (.long q1), .second, .val (.long (hj7_259_L3'' F)), .second, .val (.int (4 : Int32)), .val (.int (F 3)), .unset, .unset, .unset, .unset, .unset, .unset, .unset, .unset, .unset, .unset, .unset, .unset] [(.ref o0)])) rfl rfl (hb hby d7_260)
            have c160 := (((V_r1.keep K25q (ninS (Ne.symm ne_o0_r1) nin0)).keep K68q (ninS (Ne.symm ne_o0_r1) nin0)).keep K112q (ninS (Ne.symm ne_o0_r1) nin0))
            obtain ⟨cl159, Ar159, Sz159, Nn159, Hs159⟩ := id c160
            have hin159 : ¬ ((4 : Int32) < 0 ∨ cl159.slots.size ≤ ((4 : Int32)).toNatClampNeg) := inb_of Sz159 ⟨by decide, by decide⟩
            have hat159 : cl159.slots[((4 : Int32)).toNatClampNeg]? = some (.int (F 4)) := (Hs159 _ (own_lt hin159)).1
            have pre161 : ∀ t, Steps p.tables e below (T158.setTop (mkF m 272 #[.val (.ref o0), .val (.long q1), .second, .val (.long (hj7_259_L3'' F)), .second, .val (.int (4 : Int32)), .val (.int (F 4)), .unset, .unset, .unset, .unset, .unset, .unset, .unset, .unset, .unset, .unset, .unset, .unset] [(.int (34 : Int32)), (.int (F 4))])) t → Steps p.tables e below (s₁.setTop (entryFrame m #[(.ref o0), (.long q1)] 19)) t := fun t kt => pre138 t (by
                show Steps p.tables e below (T136.setTop (mkF m 259 #[.val (.ref o0), .val (.long q1), .second, .val (.long (hj7_259_L3'' F)), .second, .val (.int (4 : Int32)), .val (.int (F 3)), .unset, .unset, .unset, .unset, .unset, .unset, .unset, .unset, .unset, .unset, .unset, .unset] [])) _
                refine XS.aloadN X136.here hx rfl (hb hby d7_259) rfl rfl ?_
                show Steps p.tables e below (T136.setTop (mkF m 260 #[.val (.ref o0), .val (.long q1), .second, .val (.long (hj7_259_L3'' F)), .second, .val (.int (4 : Int32)), .val (.int (F 3)), .unset, .unset, .unset, .unset, .unset, .unset, .unset, .unset, .unset, .unset, .unset, .unset] [(.ref o0)])) _
                refine st158 _ ?_
                show Steps p.tables e below (T158.setTop (mkF m 263 #[.val (.ref o0), .val (.long q1), .second, .val (.long (hj7_259_L3'' F)), .second, .val (.int (4 : Int32)), .val (.int (F 3)), .unset, .unset, .unset, .unset, .unset, .unset, .unset, .unset, .unset, .unset, .unset, .unset] [(.ref r1)])) _
                refine XS.iload X158.here hx rfl (hb hby d7_263) rfl ?_
                show Steps p.tables e below (T158.setTop (mkF m 265 #[.val (.ref o0), .val (.long q1), .second, .val (.long (hj7_259_L3'' F)), .second, .val (.int (4 : Int32)), .val (.int (F 3)), .unset, .unset, .unset, .unset, .unset, .unset, .unset, .unset, .unset, .unset, .unset, .unset] [(.int (4 : Int32)), (.ref r1)])) _
                refine X158.baloadBytes hx (j := (4 : Int32)) (v := (.int (F 4))) (by rw [e158]; exact Ar159.1) (State.isArrayOf_alike hZ.alike Ar159.2.1) Ar159.2.2 hin159 hat159 (g := (mkF m 265 #[.val (.ref o0), .val (.long q1), .second, .val (.long (hj7_259_L3'' F)), .second, .val (.int (4 : Int32)), .val (.int (F 3)), .unset, .unset, .unset, .unset, .unset, .unset, .unset, .unset, .unset, .unset, .unset, .unset] [(.int (4 : Int32)), (.ref r1)])) rfl rfl (hb hby d7_265) _ ?_
                show Steps p.tables e below (T158.setTop (mkF m 266 #[.val (.ref o0), .val (.long q1), .second, .val (.long (hj7_259_L3'' F)), .second, .val (.int (4 : Int32)), .val (.int (F 3)), .unset, .unset, .unset, .unset, .unset, .unset, .unset, .unset, .unset, .unset, .unset, .unset] [(.int (F 4))])) _
                refine XS.istore X158.here hx rfl (hb hby d7_266) rfl (l' := #[.val (.ref o0), .val (.long q1), .second, .val (.long (hj7_259_L3'' F)), .second, .val (.int (4 : Int32)), .val (.int (F 4)), .unset, .unset, .unset, .unset, .unset, .unset, .unset, .unset, .unset, .unset, .unset, .unset]) rfl ?_
                show Steps p.tables e below (T158.setTop (mkF m 268 #[.val (.ref o0), .val (.long q1), .second, .val (.long (hj7_259_L3'' F)), .second, .val (.int (4 : Int32)), .val (.int (F 4)), .unset, .unset, .unset, .unset, .unset, .unset, .unset, .unset, .unset, .unset, .unset, .unset] [])) _
                refine XS.iload X158.here hx rfl (hb hby d7_268) rfl ?_
                show Steps p.tables e below (T158.setTop (mkF m 270 #[.val (.ref o0), .val (.long q1), .second, .val (.long (hj7_259_L3'' F)), .second, .val (.int (4 : Int32)), .val (.int (F 4)), .unset, .unset, .unset, .unset, .unset, .unset, .unset, .unset, .unset, .unset, .unset, .unset] [(.int (F 4))])) _
                refine XS.bipush X158.here hx rfl (hb hby d7_270) ?_
                exact kt)
            by_cases hc272_162 : (F 4) = (34 : Int32)
            · obtain ⟨cq163, q163, q163'⟩ := (((E_o0.keep K25q).keep K68q).keep K112q).cell
              obtain ⟨_, _, ⟨T163, L163, k163, n163⟩, -, X163, ⟨Lc163, hQ163, l163, y163, z163⟩, st163⟩ := X158.privateBack hx (y := (⟨"com/example/cistern/cistern/io/CsvReader", "endsRecord", "(I)Z"⟩ : MethodName)) hown (mvT hZ (hw _ (List.mem_of_getElem? (i := 69) rfl))) (mvT hZ (hw _ (List.mem_of_getElem? (i := 70) rfl))) (own_selp (z := (⟨"com/example/cistern/cistern/io/CsvReader", "start", "(Ljava/io/InputStream;)V"⟩ : MethodName)) rfl (mvT hZ (hw _ (List.mem_of_getElem? (i := 33) rfl))) (Cond.privateMethod_at (mvP hZ (hw _ (List.mem_of_getElem? (i := 71) rfl)) (args := #[]))) (mvT hZ (hw _ (List.mem_of_getElem? (i := 70) rfl))) (by decide)) (Cond.privateMethod_at (mvP hZ (hw _ (List.mem_of_getElem? (i := 71) rfl)) (args := #[]))) (mvT hZ (hw _ (List.mem_of_getElem? (i := 72) rfl))) (by decide) (backOf (W := 0) (rm9 l Z a0 hw [] o0 (4 : Int32) r1 (hj7_259__quoted'' F) (hj7_259__closed'' F) (1 : Int32) (5 : Int32) F h112 n0 Z135 (((E_o0.keep K25q).keep K68q).keep K112q) V112_0 V112_3 V112_4 V112_1 V112_2 c160 ne_o0_r1 g_o0 (by decide) (by decide)) hZ (hw _ (List.mem_of_getElem? (i := 72) rfl)) (hw _ (List.mem_of_getElem? (i := 6) rfl)) (by decide) (by decide)) (g := (mkF m 285 #[.val (.ref o0), .val (.long q1), .second, .val (.long (hj7_259_L3'' F)), .second, .val (.int (4 : Int32)), .val (.int (F 4)), .unset, .unset, .unset, .unset, .unset, .unset, .unset, .unset, .unset, .unset, .unset, .unset] [(.int (4 : Int32)), (.ref o0)])) rfl (by rw [hml]; rfl) (Steps.refl _) (a := o0) (by rw [e158]; exact q163) q163' (argsL := [(.int (4 : Int32))]) (rest := []) (lenOf pd_7_1 rfl) rfl (by show 2 * 0 + _ ≤ _; exact Nat.le_of_eq rfl) (hb hby d7_285) (fun _ _ => ⟨rfl, e158, (by decide : 0 + 0 ≤ _), (by decide : 0 + 0 ≤ _)⟩)
              dsimp only [Pt.U, Pt.locs, Pt.cells, Pt.slots] at X163 l163 y163 z163 st163 hQ163
              subst l163 y163 z163
              obtain ⟨rfl, N163q, K163q, G163_0, G163_1, G163_2, G163_3, G163_4⟩ := hQ163
              have N163 := Fr.app N112 N163q
              have K164 : Keep h0 T163.heap [o0] := K134.trans K163q (allS (Or.inl (List.mem_of_getElem? (i := 0) rfl)) all0)
              have KL165 : Keep h112 T163.heap [o0] := (Keep.refl h112 [o0]).trans K163q (allS (Or.inl (List.mem_of_getElem? (i := 0) rfl)) all0)
              have Z166 : n0 ≤ T163.heap.size := Nat.le_trans Z0 K164.1
              obtain ⟨LS163, X163, N163⟩ : ∃ L, Stand p l e ({ frames := 2, cells := 0, slots := 0, locals := 28 } : Room) s m #[(.ref o0), (.long q1)] below meth c T163 L 0 0 ∧ Fr n0 L := ⟨_, X163, N163⟩
              have pre167 : ∀ t, Steps p.tables e below (T163.setTop (mkF m 288 #[.val (.ref o0), .val (.long q1), .second, .val (.long (hj7_259_L3'' F)), .second, .val (.int (4 : Int32)), .val (.int (F 4)), .unset, .unset, .unset, .unset, .unset, .unset, .unset, .unset, .unset, .unset, .unset, .unset] [(.int (f9 (4 : Int32) (hj7_259__quoted'' F) F))])) t → Steps p.tables e below (s₁.setTop (entryFrame m #[(.ref o0), (.long q1)] 19)) t := fun t kt => pre161 t (by
                  show Steps p.tables e below (T158.setTop (mkF m 272 #[.val (.ref o0), .val (.long q1), .second, .val (.long (hj7_259_L3'' F)), .second, .val (.int (4 : Int32)), .val (.int (F 4)), .unset, .unset, .unset, .unset, .unset, .unset, .unset, .unset, .unset, .unset, .unset, .unset] [(.int (34 : Int32)), (.int (F 4))])) _
                  refine XS.icmpYes X158.here hx rfl (pc0 := 272) (pc' := 282) rfl (hb hby d7_272) rfl (teq hc272_162).1 (by decide) (by decide) ?_
                  show Steps p.tables e below (T158.setTop (mkF m 282 #[.val (.ref o0), .val (.long q1), .second, .val (.long (hj7_259_L3'' F)), .second, .val (.int (4 : Int32)), .val (.int (F 4)), .unset, .unset, .unset, .unset, .unset, .unset, .unset, .unset, .unset, .unset, .unset, .unset] [])) _
                  refine XS.aloadN X158.here hx rfl (hb hby d7_282) rfl rfl ?_
                  show Steps p.tables e below (T158.setTop (mkF m 283 #[.val (.ref o0), .val (.long q1), .second, .val (.long (hj7_259_L3'' F)), .second, .val (.int (4 : Int32)), .val (.int (F 4)), .unset, .unset, .unset, .unset, .unset, .unset, .unset, .unset, .unset, .unset, .unset, .unset] [(.ref o0)])) _
                  refine XS.iload X158.here hx rfl (hb hby d7_283) rfl ?_
                  show Steps p.tables e below (T158.setTop (mkF m 285 #[.val (.ref o0), .val (.long q1), .second, .val (.long (hj7_259_L3'' F)), .second, .val (.int (4 : Int32)), .val (.int (F 4)), .unset, .unset, .unset, .unset, .unset, .unset, .unset, .unset, .unset, .unset, .unset, .unset] [(.int (4 : Int32)), (.ref o0)])) _
                  refine st163.trans ?_
                  exact kt)
              have hd288_168 : (f9 (4 : Int32) (hj7_259__quoted'' F) F) = (0 : Int32) := own_e0 hc272_162
              refine ⟨T163, T163.heap, _, X163, rfl, N163, KL165, G163_2, G163_3, G163_4, (by rw [hj7_259__quoted''', if_pos hc272_162]; exact G163_0), (by rw [hj7_259__closed''', if_pos hc272_162]; exact G163_1), fun t kt => ?_⟩
              rw [show (hj7_259_L3''' F) = (hj7_259_L3'' F) from by rw [hj7_259_L3''', if_pos hc272_162]] at kt
              refine pre167 t ?_
              show Steps p.tables e below (T163.setTop (mkF m 288 #[.val (.ref o0), .val (.long q1), .second, .val (.long (hj7_259_L3'' F)), .second, .val (.int (4 : Int32)), .val (.int (F 4)), .unset, .unset, .unset, .unset, .unset, .unset, .unset, .unset, .unset, .unset, .unset, .unset] [(.int (f9 (4 : Int32) (hj7_259__quoted'' F) F))])) _
              refine XS.ifYes X163.here hx rfl (pc0 := 288) (pc' := 311) rfl (hb hby d7_288) rfl ((if0 _ _).trans (teq hd288_168).1) (by decide) (by decide) ?_
              exact kt
            · have pre169 : ∀ t, Steps p.tables e below (T158.setTop (mkF m 279 #[.val (.ref o0), .val (.long q1), .second, .val (.long (hj7_259_L3'' F)), .second, .val (.int (4 : Int32)), .val (.int (F 4)), .unset, .unset, .unset, .unset, .unset, .unset, .unset, .unset, .unset, .unset, .unset, .unset] [(.int (10 : Int32)), (.int (F 4))])) t → Steps p.tables e below (s₁.setTop (entryFrame m #[(.ref o0), (.long q1)] 19)) t := fun t kt => pre161 t (by
                  show Steps p.tables e below (T158.setTop (mkF m 272 #[.val (.ref o0), .val (.long q1), .second, .val (.long (hj7_259_L3'' F)), .second, .val (.int (4 : Int32)), .val (.int (F 4)), .unset, .unset, .unset, .unset, .unset, .unset, .unset, .unset, .unset, .unset, .unset, .unset] [(.int (34 : Int32)), (.int (F 4))])) _
                  refine XS.icmpNo X158.here hx rfl (hb hby d7_272) rfl (feq hc272_162).1 ?_
                  show Steps p.tables e below (T158.setTop (mkF m 275 #[.val (.ref o0), .val (.long q1), .second, .val (.long (hj7_259_L3'' F)), .second, .val (.int (4 : Int32)), .val (.int (F 4)), .unset, .unset, .unset, .unset, .unset, .unset, .unset, .unset, .unset, .unset, .unset, .unset] [])) _
                  refine XS.iload X158.here hx rfl (hb hby d7_275) rfl ?_
                  show Steps p.tables e below (T158.setTop (mkF m 277 #[.val (.ref o0), .val (.long q1), .second, .val (.long (hj7_259_L3'' F)), .second, .val (.int (4 : Int32)), .val (.int (F 4)), .unset, .unset, .unset, .unset, .unset, .unset, .unset, .unset, .unset, .unset, .unset, .unset] [(.int (F 4))])) _
                  refine XS.bipush X158.here hx rfl (hb hby d7_277) ?_
                  exact kt)
              by_cases hc279_170 : (F 4) = (10 : Int32)
              · obtain ⟨cq171, q171, q171'⟩ := (((E_o0.keep K25q).keep K68q).keep K112q).cell
                obtain ⟨_, _, ⟨T171, L171, k171, n171⟩, -, X171, ⟨Lc171, hQ171, l171, y171, z171⟩, st171⟩ := X158.privateBack hx (y := (⟨"com/example/cistern/cistern/io/CsvReader", "endsRecord", "(I)Z"⟩ : MethodName)) hown (mvT hZ (hw _ (List.mem_of_getElem? (i := 69) rfl))) (mvT hZ (hw _ (List.mem_of_getElem? (i := 70) rfl))) (own_selp (z := (⟨"com/example/cistern/cistern/io/CsvReader", "start", "(Ljava/io/InputStream;)V"⟩ : MethodName)) rfl (mvT hZ (hw _ (List.mem_of_getElem? (i := 33) rfl))) (Cond.privateMethod_at (mvP hZ (hw _ (List.mem_of_getElem? (i := 71) rfl)) (args := #[]))) (mvT hZ (hw _ (List.mem_of_getElem? (i := 70) rfl))) (by decide)) (Cond.privateMethod_at (mvP hZ (hw _ (List.mem_of_getElem? (i := 71) rfl)) (args := #[]))) (mvT hZ (hw _ (List.mem_of_getElem? (i := 72) rfl))) (by decide) (backOf (W := 0) (rm9 l Z a0 hw [] o0 (4 : Int32) r1 (hj7_259__quoted'' F) (hj7_259__closed'' F) (1 : Int32) (5 : Int32) F h112 n0 Z135 (((E_o0.keep K25q).keep K68q).keep K112q) V112_0 V112_3 V112_4 V112_1 V112_2 c160 ne_o0_r1 g_o0 (by decide) (by decide)) hZ (hw _ (List.mem_of_getElem? (i := 72) rfl)) (hw _ (List.mem_of_getElem? (i := 6) rfl)) (by decide) (by decide)) (g := (mkF m 285 #[.val (.ref o0), .val (.long q1), .second, .val (.long (hj7_259_L3'' F)), .second, .val (.int (4 : Int32)), .val (.int (F 4)), .unset, .unset, .unset, .unset, .unset, .unset, .unset, .unset, .unset, .unset, .unset, .unset] [(.int (4 : Int32)), (.ref o0)])) rfl (by rw [hml]; rfl) (Steps.refl _) (a := o0) (by rw [e158]; exact q171) q171' (argsL := [(.int (4 : Int32))]) (rest := []) (lenOf pd_7_1 rfl) rfl (by show 2 * 0 + _ ≤ _; exact Nat.le_of_eq rfl) (hb hby d7_285) (fun _ _ => ⟨rfl, e158, (by decide : 0 + 0 ≤ _), (by decide : 0 + 0 ≤ _)⟩)
                dsimp only [Pt.U, Pt.locs, Pt.cells, Pt.slots] at X171 l171 y171 z171 st171 hQ171
                subst l171 y171 z171
                obtain ⟨rfl, N171q, K171q, G171_0, G171_1, G171_2, G171_3, G171_4⟩ := hQ171
                have N171 := Fr.app N112 N171q
                have K172 : Keep h0 T171.heap [o0] := K134.trans K171q (allS (Or.inl (List.mem_of_getElem? (i := 0) rfl)) all0)
                have KL173 : Keep h112 T171.heap [o0] := (Keep.refl h112 [o0]).trans K171q (allS (Or.inl (List.mem_of_getElem? (i := 0) rfl)) all0)
                have Z174 : n0 ≤ T171.heap.size := Nat.le_trans Z0 K172.1
                obtain ⟨LS171, X171, N171⟩ : ∃ L, Stand p l e ({ frames := 2, cells := 0, slots := 0, locals := 28 } : Room) s m #[(.ref o0), (.long q1)] below meth c T171 L 0 0 ∧ Fr n0 L := ⟨_, X171, N171⟩
                have pre175 : ∀ t, Steps p.tables e below (T171.setTop (mkF m 288 #[.val (.ref o0), .val (.long q1), .second, .val (.long (hj7_259_L3'' F)), .second, .val (.int (4 : Int32)), .val (.int (F 4)), .unset, .unset, .unset, .unset, .unset, .unset, .unset, .unset, .unset, .unset, .unset, .unset] [(.int (f9 (4 : Int32) (hj7_259__quoted'' F) F))])) t → Steps p.tables e below (s₁.setTop (entryFrame m #[(.ref o0), (.long q1)] 19)) t := fun t kt => pre169 t (by
                    show Steps p.tables e below (T158.setTop (mkF m 279 #[.val (.ref o0), .val (.long q1), .second, .val (.long (hj7_259_L3'' F)), .second, .val (.int (4 : Int32)), .val (.int (F 4)), .unset, .unset, .unset, .unset, .unset, .unset, .unset, .unset, .unset, .unset, .unset, .unset] [(.int (10 : Int32)), (.int (F 4))])) _
                    refine XS.icmpNo X158.here hx rfl (hb hby d7_279) rfl (teq hc279_170).2 ?_
                    show Steps p.tables e below (T158.setTop (mkF m 282 #[.val (.ref o0), .val (.long q1), .second, .val (.long (hj7_259_L3'' F)), .second, .val (.int (4 : Int32)), .val (.int (F 4)), .unset, .unset, .unset, .unset, .unset, .unset, .unset, .unset, .unset, .unset, .unset, .unset] [])) _
                    refine XS.aloadN X158.here hx rfl (hb hby d7_282) rfl rfl ?_
                    show Steps p.tables e below (T158.setTop (mkF m 283 #[.val (.ref o0), .val (.long q1), .second, .val (.long (hj7_259_L3'' F)), .second, .val (.int (4 : Int32)), .val (.int (F 4)), .unset, .unset, .unset, .unset, .unset, .unset, .unset, .unset, .unset, .unset, .unset, .unset] [(.ref o0)])) _
                    refine XS.iload X158.here hx rfl (hb hby d7_283) rfl ?_
                    show Steps p.tables e below (T158.setTop (mkF m 285 #[.val (.ref o0), .val (.long q1), .second, .val (.long (hj7_259_L3'' F)), .second, .val (.int (4 : Int32)), .val (.int (F 4)), .unset, .unset, .unset, .unset, .unset, .unset, .unset, .unset, .unset, .unset, .unset, .unset] [(.int (4 : Int32)), (.ref o0)])) _
                    refine st171.trans ?_
                    exact kt)
                by_cases hc288_176 : (f9 (4 : Int32) (hj7_259__quoted'' F) F) = (0 : Int32)
                · refine ⟨T171, T171.heap, _, X171, rfl, N171, KL173, G171_2, G171_3, G171_4, (by rw [hj7_259__quoted''', if_neg hc272_162, if_pos hc279_170, if_pos hc288_176]; exact G171_0), (by rw [hj7_259__closed''', if_neg hc272_162, if_pos hc279_170, if_pos hc288_176]; exact G171_1), fun t kt => ?_⟩
                  rw [show (hj7_259_L3''' F) = (hj7_259_L3'' F) from by rw [hj7_259_L3''', if_neg hc272_162, if_pos hc279_170, if_pos hc288_176]] at kt
                  refine pre175 t ?_
                  show Steps p.tables e below (T171.setTop (mkF m 288 #[.val (.ref o0), .val (.long q1), .second, .val (.long (hj7_259_L3'' F)), .second, .val (.int (4 : Int32)), .val (.int (F 4)), .unset, .unset, .unset, .unset, .unset, .unset, .unset, .unset, .unset, .unset, .unset, .unset] [(.int (f9 (4 : Int32) (hj7_259__quoted'' F) F))])) _
                  refine XS.ifYes X171.here hx rfl (pc0 := 288) (pc' := 311) rfl (hb hby d7_288) rfl ((if0 _ _).trans (teq hc288_176).1) (by decide) (by decide) ?_
                  exact kt
                · have pre177 : ∀ t, Steps p.tables e below (T171.setTop (mkF m 298 #[.val (.ref o0), .val (.long q1), .second, .val (.long ((hj7_259_L3'' F) + (1 : Int64))), .second, .val (.int (4 : Int32)), .val (.int (F 4)), .unset, .unset, .unset, .unset, .unset, .unset, .unset, .unset, .unset, .unset, .unset, .unset] [(.int (lcmpW ((hj7_259_L3'' F) + (1 : Int64)) q1))])) t → Steps p.tables e below (s₁.setTop (entryFrame m #[(.ref o0), (.long q1)] 19)) t := fun t kt => pre175 t (by
                      show Steps p.tables e below (T171.setTop (mkF m 288 #[.val (.ref o0), .val (.long q1), .second, .val (.long (hj7_259_L3'' F)), .second, .val (.int (4 : Int32)), .val (.int (F 4)), .unset, .unset, .unset, .unset, .unset, .unset, .unset, .unset, .unset, .unset, .unset, .unset] [(.int (f9 (4 : Int32) (hj7_259__quoted'' F) F))])) _
                      refine XS.ifNo X171.here hx rfl (hb hby d7_288) rfl ((if0 _ _).trans (feq hc288_176).1) ?_
                      show Steps p.tables e below (T171.setTop (mkF m 291 #[.val (.ref o0), .val (.long q1), .second, .val (.long (hj7_259_L3'' F)), .second, .val (.int (4 : Int32)), .val (.int (F 4)), .unset, .unset, .unset, .unset, .unset, .unset, .unset, .unset, .unset, .unset, .unset, .unset] [])) _
                      refine XS.lloadN X171.here hx rfl (hb hby d7_291) rfl ?_
                      show Steps p.tables e below (T171.setTop (mkF m 292 #[.val (.ref o0), .val (.long q1), .second, .val (.long (hj7_259_L3'' F)), .second, .val (.int (4 : Int32)), .val (.int (F 4)), .unset, .unset, .unset, .unset, .unset, .unset, .unset, .unset, .unset, .unset, .unset, .unset] [(.long (hj7_259_L3'' F))])) _
                      refine XS.lconst X171.here hx rfl (hb hby d7_292) ?_
                      show Steps p.tables e below (T171.setTop (mkF m 293 #[.val (.ref o0), .val (.long q1), .second, .val (.long (hj7_259_L3'' F)), .second, .val (.int (4 : Int32)), .val (.int (F 4)), .unset, .unset, .unset, .unset, .unset, .unset, .unset, .unset, .unset, .unset, .unset, .unset] [(.long (1 : Int64)), (.long (hj7_259_L3'' F))])) _
                      refine XS.ladd X171.here hx rfl (hb hby d7_293) rfl ?_
                      show Steps p.tables e below (T171.setTop (mkF m 294 #[.val (.ref o0), .val (.long q1), .second, .val (.long (hj7_259_L3'' F)), .second, .val (.int (4 : Int32)), .val (.int (F 4)), .unset, .unset, .unset, .unset, .unset, .unset, .unset, .unset, .unset, .unset, .unset, .unset] [(.long ((hj7_259_L3'' F) + (1 : Int64)))])) _
                      jvm_step X171.here [X171.here.top, hx, (hb hby d7_294), Value.category]
                      show Steps p.tables e below (T171.setTop (mkF m 295 #[.val (.ref o0), .val (.long q1), .second, .val (.long (hj7_259_L3'' F)), .second, .val (.int (4 : Int32)), .val (.int (F 4)), .unset, .unset, .unset, .unset, .unset, .unset, .unset, .unset, .unset, .unset, .unset, .unset] [(.long ((hj7_259_L3'' F) + (1 : Int64))), (.long ((hj7_259_L3'' F) + (1 : Int64)))])) _
                      refine XS.lstoreN X171.here hx rfl (hb hby d7_295) rfl (l' := #[.val (.ref o0), .val (.long q1), .second, .val (.long ((hj7_259_L3'' F) + (1 : Int64))), .second, .val (.int (4 : Int32)), .val (.int (F 4)), .unset, .unset, .unset, .unset, .unset, .unset, .unset, .unset, .unset, .unset, .unset, .unset]) rfl ?_
                      show Steps p.tables e below (T171.setTop (mkF m 296 #[.val (.ref o0), .val (.long q1), .second, .val (.long ((hj7_259_L3'' F) + (1 : Int64))), .second, .val (.int (4 : Int32)), .val (.int (F 4)), .unset, .unset, .unset, .unset, .unset, .unset, .unset, .unset, .unset, .unset, .unset, .unset] [(.long ((hj7_259_L3'' F) + (1 : Int64)))])) _
                      refine XS.lloadN X171.here hx rfl (hb hby d7_296) rfl ?_
                      show Steps p.tables e below (T171.setTop (mkF m 297 #[.val (.ref o0), .val (.long q1), .second, .val (.long ((hj7_259_L3'' F) + (1 : Int64))), .second, .val (.int (4 : Int32)), .val (.int (F 4)), .unset, .unset, .unset, .unset, .unset, .unset, .unset, .unset, .unset, .unset, .unset, .unset] [(.long q1), (.long ((hj7_259_L3'' F) + (1 : Int64)))])) _
                      refine XS.lcmp X171.here hx rfl (hb hby d7_297) rfl ?_
                      exact kt)
                  have hd298_178 : ¬ ((lcmpW ((hj7_259_L3'' F) + (1 : Int64)) q1) = (0 : Int32)) := fun z => hR259_139 ⟨hc279_170, own_e2 hc288_176, (lw_eq _ _).mp z⟩
                  refine ⟨T171, T171.heap, _, X171, rfl, N171, KL173, G171_2, G171_3, G171_4, (by rw [hj7_259__quoted''', if_neg hc272_162, if_pos hc279_170, if_neg hc288_176]; exact G171_0), (by rw [hj7_259__closed''', if_neg hc272_162, if_pos hc279_170, if_neg hc288_176]; exact G171_1), fun t kt => ?_⟩
                  rw [show (hj7_259_L3''' F) = ((hj7_259_L3'' F) + (1 : Int64)) from by rw [hj7_259_L3''', if_neg hc272_162, if_pos hc279_170, if_neg hc288_176]] at kt
                  refine pre177 t ?_
                  show Steps p.tables e below (T171.setTop (mkF m 298 #[.val (.ref o0), .val (.long q1), .second, .val (.long ((hj7_259_L3'' F) + (1 : Int64))), .second, .val (.int (4 : Int32)), .val (.int (F 4)), .unset, .unset, .unset, .unset, .unset, .unset, .unset, .unset, .unset, .unset, .unset, .unset] [(.int (lcmpW ((hj7_259_L3'' F) + (1 : Int64)) q1))])) _
                  refine XS.ifYes X171.here hx rfl (pc0 := 298) (pc' := 311) rfl (hb hby d7_298) rfl ((if0 _ _).trans (feq hd298_178).2) (by decide) (by decide) ?_
                  exact kt
              · refine ⟨T158, h112, _, X158, e158, N112, (Keep.refl h112 [o0]), V112_0, V112_1, V112_2, (by rw [hj7_259__quoted''', if_neg hc272_162, if_neg hc279_170]; exact V112_3), (by rw [hj7_259__closed''', if_neg hc272_162, if_neg hc279_170]; exact V112_4), fun t kt => ?_⟩
                rw [show (hj7_259_L3''' F) = (hj7_259_L3'' F) from by rw [hj7_259_L3''', if_neg hc272_162, if_neg hc279_170]] at kt
                refine pre169 t ?_
                show Steps p.tables e below (T158.setTop (mkF m 279 #[.val (.ref o0), .val (.long q1), .second, .val (.long (hj7_259_L3'' F)), .second, .val (.int (4 : Int32)), .val (.int (F 4)), .unset, .unset, .unset, .unset, .unset, .unset, .unset, .unset, .unset, .unset, .unset, .unset] [(.int (10 : Int32)), (.int (F 4))])) _
                refine XS.icmpYes X158.here hx rfl (pc0 := 279) (pc' := 311) rfl (hb hby d7_279) rfl (feq hc279_170).2 (by decide) (by decide) ?_
                exact kt
          have pre157 := st157
          have K179 : Keep h0 h157 [o0] := K134.trans K157q (allS (Or.inl (List.mem_of_getElem? (i := 0) rfl)) all0)
          have Z180 : n0 ≤ h157.size := Nat.le_trans Z0 K179.1
          obtain ⟨T181, X181, e181, st181⟩ := getF X157 hx hZ hown (host := "") (Or.inl (hw _ (List.mem_of_getElem? (i := 67) rfl))) (Via.of (hw _ (List.mem_of_getElem? (i := 53) rfl))) e157 V157_2 (g := (mkF m 253 #[.val (.ref o0), .val (.long q1), .second, .val (.long (hj7_259_L3''' F)), .second, .val (.int (5 : Int32)), .val (.int (F 4)), .unset, .unset, .unset, .unset, .unset, .unset, .unset, .unset, .unset, .unset, .unset, .unset] [(.ref o0), (.int (5 : Int32))])) rfl rfl (hb hby d7_253)
          have pre182 : ∀ t, Steps p.tables e below (T181.setTop (mkF m 256 #[.val (.ref o0), .val (.long q1), .second, .val (.long (hj7_259_L3''' F)), .second, .val (.int (5 : Int32)), .val (.int (F 4)), .unset, .unset, .unset, .unset, .unset, .unset, .unset, .unset, .unset, .unset, .unset, .unset] [(.int (5 : Int32)), (.int (5 : Int32))])) t → Steps p.tables e below (s₁.setTop (entryFrame m #[(.ref o0), (.long q1)] 19)) t := fun t kt => pre157 t (by
              show Steps p.tables e below (T157.setTop (mkF m 311 #[.val (.ref o0), .val (.long q1), .second, .val (.long (hj7_259_L3''' F)), .second, .val (.int (4 : Int32)), .val (.int (F 4)), .unset, .unset, .unset, .unset, .unset, .unset, .unset, .unset, .unset, .unset, .unset, .unset] [])) _
              refine XS.iinc X157.here hx rfl (hb hby d7_311) rfl (l' := #[.val (.ref o0), .val (.long q1), .second, .val (.long (hj7_259_L3''' F)), .second, .val (.int (5 : Int32)), .val (.int (F 4)), .unset, .unset, .unset, .unset, .unset, .unset, .unset, .unset, .unset, .unset, .unset, .unset]) rfl ?_
              show Steps p.tables e below (T157.setTop (mkF m 314 #[.val (.ref o0), .val (.long q1), .second, .val (.long (hj7_259_L3''' F)), .second, .val (.int (5 : Int32)), .val (.int (F 4)), .unset, .unset, .unset, .unset, .unset, .unset, .unset, .unset, .unset, .unset, .unset, .unset] [])) _
              refine XS.goto X157.here hx rfl (pc0 := 314) (pc' := 250) rfl (hb hby d7_314) (by decide) (by decide) ?_
              show Steps p.tables e below (T157.setTop (mkF m 250 #[.val (.ref o0), .val (.long q1), .second, .val (.long (hj7_259_L3''' F)), .second, .val (.int (5 : Int32)), .val (.int (F 4)), .unset, .unset, .unset, .unset, .unset, .unset, .unset, .unset, .unset, .unset, .unset, .unset] [])) _
              refine XS.iload X157.here hx rfl (hb hby d7_250) rfl ?_
              show Steps p.tables e below (T157.setTop (mkF m 252 #[.val (.ref o0), .val (.long q1), .second, .val (.long (hj7_259_L3''' F)), .second, .val (.int (5 : Int32)), .val (.int (F 4)), .unset, .unset, .unset, .unset, .unset, .unset, .unset, .unset, .unset, .unset, .unset, .unset] [(.int (5 : Int32))])) _
              refine XS.aloadN X157.here hx rfl (hb hby d7_252) rfl rfl ?_
              show Steps p.tables e below (T157.setTop (mkF m 253 #[.val (.ref o0), .val (.long q1), .second, .val (.long (hj7_259_L3''' F)), .second, .val (.int (5 : Int32)), .val (.int (F 4)), .unset, .unset, .unset, .unset, .unset, .unset, .unset, .unset, .unset, .unset, .unset, .unset] [(.ref o0), (.int (5 : Int32))])) _
              refine st181 _ ?_
              exact kt)
          obtain ⟨T183, X183, e183, st183⟩ := getF X181 hx hZ hown (host := "") (Or.inl (hw _ (List.mem_of_getElem? (i := 67) rfl))) (Via.of (hw _ (List.mem_of_getElem? (i := 53) rfl))) e181 V157_2 (g := (mkF m 319 #[.val (.ref o0), .val (.long q1), .second, .val (.long (hj7_259_L3''' F)), .second, .val (.int (5 : Int32)), .val (.int (F 4)), .unset, .unset, .unset, .unset, .unset, .unset, .unset, .unset, .unset, .unset, .unset, .unset] [(.ref o0), (.ref o0)])) rfl rfl (hb hby d7_319)
          obtain ⟨T184, h184, X184, e184, W184, st184⟩ := putF X183 hx hZ hown (host := "") (Or.inl (hw _ (List.mem_of_getElem? (i := 59) rfl))) (Via.of (hw _ (List.mem_of_getElem? (i := 60) rfl))) e183 V157_1 ((((E_o0.keep K25q).keep K68q).keep K112q).keep K157q) (Or.inl (hw _ (List.mem_of_getElem? (i := 23) rfl))) (hw _ (List.mem_of_getElem? (i := 5) rfl)) (ty := .int) (by decide) rfl rfl (g := (mkF m 322 #[.val (.ref o0), .val (.long q1), .second, .val (.long (hj7_259_L3''' F)), .second, .val (.int (5 : Int32)), .val (.int (F 4)), .unset, .unset, .unset, .unset, .unset, .unset, .unset, .unset, .unset, .unset, .unset, .unset] [(.int (5 : Int32)), (.ref o0)])) rfl rfl (hb hby d7_322)
          have Fw184 := V157_1.same W184
          have K185 : Keep h0 h184 [o0] := K179.wr W184 (Or.inl (List.mem_of_getElem? (i := 0) rfl))
          have Z186 : n0 ≤ h184.size := Nat.le_trans Z0 K185.1
          have N184 := Fr.snoc X184 N157 g_o0
          obtain ⟨LS184, X184, N184⟩ : ∃ L, Stand p l e ({ frames := 2, cells := 0, slots := 0, locals := 28 } : Room) s m #[(.ref o0), (.long q1)] below meth c T184 L 0 0 ∧ Fr n0 L := ⟨_, X184, N184⟩
          obtain ⟨fs, hr, hrun, hended, hW, hsame⟩ := X184.leave (v := some (.long (hj7_259_L3''' F))) (fun h => by rw [Bd.returns] at h; cases h)
          have hv207 : (f7 q1 F) = (hj7_259_L3''' F) := by rw [f7, if_neg hR259_8, if_neg hR259_51, if_neg hR259_94, if_neg hR259_139]
          have c208 := (V157_3.other W184 (Or.inr (slot_ne (Or.inl (hw _ (List.mem_of_getElem? (i := 49) rfl))) (Or.inl (hw _ (List.mem_of_getElem? (i := 23) rfl))) (by decide) (t := .boolean) (t' := .int) (by decide) (by decide))))
          have c209 := (V157_4.other W184 (Or.inr (slot_ne (Or.inl (hw _ (List.mem_of_getElem? (i := 74) rfl))) (Or.inl (hw _ (List.mem_of_getElem? (i := 23) rfl))) (by decide) (t := .boolean) (t' := .int) (by decide) (by decide))))
          have c210 := (V157_0.other W184 (Or.inr (slot_ne (Or.inr (hw _ (List.mem_of_getElem? (i := 21) rfl))) (Or.inl (hw _ (List.mem_of_getElem? (i := 23) rfl))) (by decide) (t := (.array .byte)) (t' := .int) (by decide) (by decide))))
          have c211 := (V157_2.other W184 (Or.inr (slot_ne (Or.inl (hw _ (List.mem_of_getElem? (i := 25) rfl))) (Or.inl (hw _ (List.mem_of_getElem? (i := 23) rfl))) (by decide) (t := .int) (t' := .int) (by decide) (by decide))))
          refine ⟨_, _, pre182 _ ?_, hrun, hended, _, _, rfl, ?_, ⟨_, rfl⟩, hW, hsame.mono (by decide) (by decide)⟩
          · show Steps p.tables e below (T181.setTop (mkF m 256 #[.val (.ref o0), .val (.long q1), .second, .val (.long (hj7_259_L3''' F)), .second, .val (.int (5 : Int32)), .val (.int (F 4)), .unset, .unset, .unset, .unset, .unset, .unset, .unset, .unset, .unset, .unset, .unset, .unset] [(.int (5 : Int32)), (.int (5 : Int32))])) _
            refine XS.icmpYes X181.here hx rfl (pc0 := 256) (pc' := 317) rfl (hb hby d7_256) rfl (flt (by decide : ¬ ((5 : Int32) < (5 : Int32)))).2.1 (by decide) (by decide) ?_
            show Steps p.tables e below (T181.setTop (mkF m 317 #[.val (.ref o0), .val (.long q1), .second, .val (.long (hj7_259_L3''' F)), .second, .val (.int (5 : Int32)), .val (.int (F 4)), .unset, .unset, .unset, .unset, .unset, .unset, .unset, .unset, .unset, .unset, .unset, .unset] [])) _
            refine XS.aloadN X181.here hx rfl (hb hby d7_317) rfl rfl ?_
            show Steps p.tables e below (T181.setTop (mkF m 318 #[.val (.ref o0), .val (.long q1), .second, .val (.long (hj7_259_L3''' F)), .second, .val (.int (5 : Int32)), .val (.int (F 4)), .unset, .unset, .unset, .unset, .unset, .unset, .unset, .unset, .unset, .unset, .unset, .unset] [(.ref o0)])) _
            refine XS.aloadN X181.here hx rfl (hb hby d7_318) rfl rfl ?_
            show Steps p.tables e below (T181.setTop (mkF m 319 #[.val (.ref o0), .val (.long q1), .second, .val (.long (hj7_259_L3''' F)), .second, .val (.int (5 : Int32)), .val (.int (F 4)), .unset, .unset, .unset, .unset, .unset, .unset, .unset, .unset, .unset, .unset, .unset, .unset] [(.ref o0), (.ref o0)])) _
            refine st183 _ ?_
            show Steps p.tables e below (T183.setTop (mkF m 322 #[.val (.ref o0), .val (.long q1), .second, .val (.long (hj7_259_L3''' F)), .second, .val (.int (5 : Int32)), .val (.int (F 4)), .unset, .unset, .unset, .unset, .unset, .unset, .unset, .unset, .unset, .unset, .unset, .unset] [(.int (5 : Int32)), (.ref o0)])) _
            refine st184 _ ?_
            show Steps p.tables e below (T184.setTop (mkF m 325 #[.val (.ref o0), .val (.long q1), .second, .val (.long (hj7_259_L3''' F)), .second, .val (.int (5 : Int32)), .val (.int (F 4)), .unset, .unset, .unset, .unset, .unset, .unset, .unset, .unset, .unset, .unset, .unset, .unset] [])) _
            refine XS.lloadN X184.here hx rfl (hb hby d7_325) rfl ?_
            show Steps p.tables e below (T184.setTop (mkF m 326 #[.val (.ref o0), .val (.long q1), .second, .val (.long (hj7_259_L3''' F)), .second, .val (.int (5 : Int32)), .val (.int (F 4)), .unset, .unset, .unset, .unset, .unset, .unset, .unset, .unset, .unset, .unset, .unset, .unset] [(.long (hj7_259_L3''' F))])) _
            exact X184.lreturnOut hx Bd.returns (hb hby d7_326) hr
          · show Q7 Z o0 q1 r1 F h0 n0 _ T184.heap _
            rw [e184]
            exact ⟨congrArg (fun q => some (Value.long q)) hv207.symm, N184, K185, (by rw [f7_h__quoted, if_neg hR259_8, if_neg hR259_51, if_neg hR259_94, if_neg hR259_139]; exact c208), (by rw [f7_h__closed, if_neg hR259_8, if_neg hR259_51, if_neg hR259_94, if_neg hR259_139]; exact c209), c210, (by rw [f7_h__start, if_neg hR259_8, if_neg hR259_51, if_neg hR259_94, if_neg hR259_139]; exact Fw184), (by rw [f7_h__end, if_neg hR259_8, if_neg hR259_51, if_neg hR259_94, if_neg hR259_139]; exact c211)⟩
theorem d11_0 : decode prog_14_method_5_code 0 = .ok (.aload_n 0, 1) := by decide +kernel
theorem d11_1 : decode prog_14_method_5_code 1 = .ok (.getfield 13, 3) := by decide +kernel
theorem d11_4 : decode prog_14_method_5_code 4 = .ok (.ifCond .ne 19, 3) := by decide +kernel
theorem d11_7 : decode prog_14_method_5_code 7 = .ok (.aload_n 0, 1) := by decide +kernel
theorem d11_8 : decode prog_14_method_5_code 8 = .ok (.getfield 47, 3) := by decide +kernel
theorem d11_11 : decode prog_14_method_5_code 11 = .ok (.aload_n 0, 1) := by decide +kernel
theorem d11_12 : decode prog_14_method_5_code 12 = .ok (.getfield 17, 3) := by decide +kernel
theorem d11_15 : decode prog_14_method_5_code 15 = .ok (.iconst 1, 1) := by decide +kernel
theorem d11_16 : decode prog_14_method_5_code 16 = .ok (.isub, 1) := by decide +kernel
theorem d11_17 : decode prog_14_method_5_code 17 = .ok (.baload, 1) := by decide +kernel
theorem d11_18 : decode prog_14_method_5_code 18 = .ok (.bipush 10, 2) := by decide +kernel
theorem d11_20 : decode prog_14_method_5_code 20 = .ok (.if_icmp .eq 7, 3) := by decide +kernel
theorem d11_23 : decode prog_14_method_5_code 23 = .ok (.iconst 1, 1) := by decide +kernel
theorem d11_24 : decode prog_14_method_5_code 24 = .ok (.goto 4, 3) := by decide +kernel
theorem d11_27 : decode prog_14_method_5_code 27 = .ok (.iconst 0, 1) := by decide +kernel
theorem d11_28 : decode prog_14_method_5_code 28 = .ok (.ireturn, 1) := by decide +kernel
theorem pn_11 : plainName "com/example/cistern/cistern/io/CsvReader" = true := by first | (simp [plainName, overriddenIn]; done) | decide +kernel
theorem ef_11 (m : MethodId) (x0 : Addr) : entryFrame m #[(.ref x0)] 1 = mkF m 0 #[.val (.ref x0)] [] := by first | (simp [entryFrame, mkF, argsToLocals, Value.category]; done) | rfl
def f11 (vq : Int32) (vs : Int32) (F : Nat → Int32) : Int32 :=
  if vq = (0 : Int32) then (if (F ((vs - (1 : Int32))).toNatClampNeg) = (10 : Int32) then ((0 : Int32)) else
  ((1 : Int32))) else
  ((1 : Int32))
def Q11 (Z : State) (o0 : Addr) (r1 : Addr) (vq : Int32) (vs : Int32) (F : Nat → Int32) (h0 : Heap) (n0 : Nat) (v : Option Value) (h : Heap) (L : List Loc) : Prop := v = some (.int (f11 vq vs F)) ∧ Fr n0 L ∧ h = h0
set_option maxRecDepth 65536 in
set_option maxHeartbeats 40000000 in
theorem rm11 (l : Launch) (Z : State) (a0 : Array Value) (hw : ∀ d ∈ tables_1, d.before a0 Z = true) (ws : List Jvm.Cond) (o0 : Addr) (r1 : Addr) (vq : Int32) (vs : Int32) (F : Nat → Int32) (h0 : Heap) (n0 : Nat) (Z0 : n0 ≤ h0.size) (E_o0 : Exa Z h0 o0 "com/example/cistern/cistern/io/CsvReader") (F__buffer_o0 : Fld Z h0 o0 "com/example/cistern/cistern/io/RecordReader" "_buffer" "[B" (.ref r1)) (F__quoted_o0 : Fld Z h0 o0 "com/example/cistern/cistern/io/CsvReader" "_quoted" "Z" (.int vq)) (F__start_o0 : Fld Z h0 o0 "com/example/cistern/cistern/io/RecordReader" "_start" "I" (.int vs)) (V_r1 : own_AI Z h0 r1 .byte (65537 : Int32) F) (h1 : ¬ (vs - (1 : Int32)) < 0 ∧ (vs - (1 : Int32)) < (65537 : Int32)) :
    MetFree l (⟨"com/example/cistern/cistern/io/CsvReader", "inRecord", "()Z"⟩ : MethodName) (head1 (Jvm.Cond.code (⟨"com/example/cistern/cistern/io/CsvReader", "inRecord", "()Z"⟩ : MethodName) prog_14_method_5_code 1 (some .boolean) :: ws) ({ frames := 0, cells := 0, slots := 0, locals := 0 } : Room)) (fun a U => a = #[(.ref o0)] ∧ Z.Warmed39 U.vm ∧ U.heap = h0) (fun _ _ _ _ _ => True) (fun _ U o U' => ∃ v L, o = .returned v ∧ Q11 Z o0 r1 vq vs F h0 n0 v U'.heap L ∧ FrameEnd U o U' L ({ frames := 0, cells := 0, slots := 0, locals := 0 } : Room).cells ({ frames := 0, cells := 0, slots := 0, locals := 0 } : Room).slots) := by
  refine MetFree.of_bodySF (plainFor_of_name pn_11) hisR ?_
  intro p e s m args below meth c s₁ Bd hml0 hP hK
  obtain ⟨rfl, hZ, hh⟩ := hP
  have hx := Bd.exec
  have hby := Bd.bytes
  have hml : c.maxLocals = 1 := hml0
  have hown : s.vm.findClass "com/example/cistern/cistern/io/CsvReader" = some m.cls := findClass_of_methodNamed Bd.named
  have hnm := (name_of_methodNamed Bd.named Bd.method).1
  have X0 : Stand p l e ({ frames := 0, cells := 0, slots := 0, locals := 0 } : Room) s m #[(.ref o0)] below meth c s₁ [] 0 0 := Stand.of_body Bd
  have e0 : s₁.heap = h0 := by rw [← hh, Bd.state]; rfl
  have N0 := Fr.nil n0
  have pre0 : ∀ t, Steps p.tables e below (s₁.setTop (mkF m 0 #[.val (.ref o0)] [])) t → Steps p.tables e below (s₁.setTop (entryFrame m #[(.ref o0)] 1)) t := fun t k => castTop (ef_11 m o0) k
  obtain ⟨T1, X1, e1, st1⟩ := getF X0 hx hZ hown (host := "") (Or.inl (hw _ (List.mem_of_getElem? (i := 48) rfl))) Via.refl e0 F__quoted_o0 (g := (mkF m 1 #[.val (.ref o0)] [(.ref o0)])) rfl rfl (hb hby d11_1)
  have pre2 : ∀ t, Steps p.tables e below (T1.setTop (mkF m 4 #[.val (.ref o0)] [(.int vq)])) t → Steps p.tables e below (s₁.setTop (entryFrame m #[(.ref o0)] 1)) t := fun t kt => pre0 t (by
      show Steps p.tables e below (s₁.setTop (mkF m 0 #[.val (.ref o0)] [])) _
      refine XS.aloadN X0.here hx rfl (hb hby d11_0) rfl rfl ?_
      show Steps p.tables e below (s₁.setTop (mkF m 1 #[.val (.ref o0)] [(.ref o0)])) _
      refine st1 _ ?_
      exact kt)
  by_cases hc4_3 : vq = (0 : Int32)
  · obtain ⟨T4, X4, e4, st4⟩ := getF X1 hx hZ hown (host := "") (Or.inl (hw _ (List.mem_of_getElem? (i := 68) rfl))) (Via.of (hw _ (List.mem_of_getElem? (i := 51) rfl))) e1 F__buffer_o0 (g := (mkF m 8 #[.val (.ref o0)] [(.ref o0)])) rfl rfl (hb hby d11_8)
    obtain ⟨T5, X5, e5, st5⟩ := getF X4 hx hZ hown (host := "") (Or.inl (hw _ (List.mem_of_getElem? (i := 59) rfl))) (Via.of (hw _ (List.mem_of_getElem? (i := 60) rfl))) e4 F__start_o0 (g := (mkF m 12 #[.val (.ref o0)] [(.ref o0), (.ref r1)])) rfl rfl (hb hby d11_12)
    obtain ⟨cl6, Ar6, Sz6, Nn6, Hs6⟩ := id V_r1
    have hin6 : ¬ ((vs - (1 : Int32)) < 0 ∨ cl6.slots.size ≤ ((vs - (1 : Int32))).toNatClampNeg) := inb_of Sz6 h1
    have hat6 : cl6.slots[((vs - (1 : Int32))).toNatClampNeg]? = some (.int (F ((vs - (1 : Int32))).toNatClampNeg)) := (Hs6 _ (own_lt hin6)).1
    have pre7 : ∀ t, Steps p.tables e below (T5.setTop (mkF m 20 #[.val (.ref o0)] [(.int (10 : Int32)), (.int (F ((vs - (1 : Int32))).toNatClampNeg))])) t → Steps p.tables e below (s₁.setTop (entryFrame m #[(.ref o0)] 1)) t := fun t kt => pre2 t (by
        show Steps p.tables e below (T1.setTop (mkF m 4 #[.val (.ref o0)] [(.int vq)])) _
        refine XS.ifNo X1.here hx rfl (hb hby d11_4) rfl ((if0 _ _).trans (teq hc4_3).2) ?_
        show Steps p.tables e below (T1.setTop (mkF m 7 #[.val (.ref o0)] [])) _
        refine XS.aloadN X1.here hx rfl (hb hby d11_7) rfl rfl ?_
        show Steps p.tables e below (T1.setTop (mkF m 8 #[.val (.ref o0)] [(.ref o0)])) _
        refine st4 _ ?_
        show Steps p.tables e below (T4.setTop (mkF m 11 #[.val (.ref o0)] [(.ref r1)])) _
        refine XS.aloadN X4.here hx rfl (hb hby d11_11) rfl rfl ?_
        show Steps p.tables e below (T4.setTop (mkF m 12 #[.val (.ref o0)] [(.ref o0), (.ref r1)])) _
        refine st5 _ ?_
        show Steps p.tables e below (T5.setTop (mkF m 15 #[.val (.ref o0)] [(.int vs), (.ref r1)])) _
        refine XS.iconst X5.here hx rfl (hb hby d11_15) ?_
        show Steps p.tables e below (T5.setTop (mkF m 16 #[.val (.ref o0)] [(.int (1 : Int32)), (.int vs), (.ref r1)])) _
        refine XS.isub X5.here hx rfl (hb hby d11_16) rfl ?_
        show Steps p.tables e below (T5.setTop (mkF m 17 #[.val (.ref o0)] [(.int (vs - (1 : Int32))), (.ref r1)])) _
        refine X5.baloadBytes hx (j := (vs - (1 : Int32))) (v := (.int (F ((vs - (1 : Int32))).toNatClampNeg))) (by rw [e5]; exact Ar6.1) (State.isArrayOf_alike hZ.alike Ar6.2.1) Ar6.2.2 hin6 hat6 (g := (mkF m 17 #[.val (.ref o0)] [(.int (vs - (1 : Int32))), (.ref r1)])) rfl rfl (hb hby d11_17) _ ?_
        show Steps p.tables e below (T5.setTop (mkF m 18 #[.val (.ref o0)] [(.int (F ((vs - (1 : Int32))).toNatClampNeg))])) _
        refine XS.bipush X5.here hx rfl (hb hby d11_18) ?_
        exact kt)
    by_cases hc20_8 : (F ((vs - (1 : Int32))).toNatClampNeg) = (10 : Int32)
    · obtain ⟨fs, hr, hrun, hended, hW, hsame⟩ := X5.leave (v := some (.int (0 : Int32))) (fun h => by rw [Bd.returns] at h; cases h)
      have hv9 : (f11 vq vs F) = (0 : Int32) := by rw [f11, if_pos hc4_3, if_pos hc20_8]
      refine ⟨_, _, pre7 _ ?_, hrun, hended, _, _, rfl, ?_, ⟨_, rfl⟩, hW, hsame.mono (by decide) (by decide)⟩
      · show Steps p.tables e below (T5.setTop (mkF m 20 #[.val (.ref o0)] [(.int (10 : Int32)), (.int (F ((vs - (1 : Int32))).toNatClampNeg))])) _
        refine XS.icmpYes X5.here hx rfl (pc0 := 20) (pc' := 27) rfl (hb hby d11_20) rfl (teq hc20_8).1 (by decide) (by decide) ?_
        show Steps p.tables e below (T5.setTop (mkF m 27 #[.val (.ref o0)] [])) _
        refine XS.iconst X5.here hx rfl (hb hby d11_27) ?_
        show Steps p.tables e below (T5.setTop (mkF m 28 #[.val (.ref o0)] [(.int (0 : Int32))])) _
        exact retN X5 hx (t := .boolean) Bd.returns (by simp) (hb hby d11_28) hr
      · show Q11 Z o0 r1 vq vs F h0 n0 _ T5.heap _
        rw [e5]
        exact ⟨congrArg (fun q => some (Value.int q)) hv9.symm, N0, rfl⟩
    · obtain ⟨fs, hr, hrun, hended, hW, hsame⟩ := X5.leave (v := some (.int (1 : Int32))) (fun h => by rw [Bd.returns] at h; cases h)
      have hv10 : (f11 vq vs F) = (1 : Int32) := by rw [f11, if_pos hc4_3, if_neg hc20_8]
      refine ⟨_, _, pre7 _ ?_, hrun, hended, _, _, rfl, ?_, ⟨_, rfl⟩, hW, hsame.mono (by decide) (by decide)⟩
      · show Steps p.tables e below (T5.setTop (mkF m 20 #[.val (.ref o0)] [(.int (10 : Int32)), (.int (F ((vs - (1 : Int32))).toNatClampNeg))])) _
        refine XS.icmpNo X5.here hx rfl (hb hby d11_20) rfl (feq hc20_8).1 ?_
        show Steps p.tables e below (T5.setTop (mkF m 23 #[.val (.ref o0)] [])) _
        refine XS.iconst X5.here hx rfl (hb hby d11_23) ?_
        show Steps p.tables e below (T5.setTop (mkF m 24 #[.val (.ref o0)] [(.int (1 : Int32))])) _
        refine XS.goto X5.here hx rfl (pc0 := 24) (pc' := 28) rfl (hb hby d11_24) (by decide) (by decide) ?_
        show Steps p.tables e below (T5.setTop (mkF m 28 #[.val (.ref o0)] [(.int (1 : Int32))])) _
        exact retN X5 hx (t := .boolean) Bd.returns (by simp) (hb hby d11_28) hr
      · show Q11 Z o0 r1 vq vs F h0 n0 _ T5.heap _
        rw [e5]
        exact ⟨congrArg (fun q => some (Value.int q)) hv10.symm, N0, rfl⟩
  · obtain ⟨fs, hr, hrun, hended, hW, hsame⟩ := X1.leave (v := some (.int (1 : Int32))) (fun h => by rw [Bd.returns] at h; cases h)
    have hv11 : (f11 vq vs F) = (1 : Int32) := by rw [f11, if_neg hc4_3]
    refine ⟨_, _, pre2 _ ?_, hrun, hended, _, _, rfl, ?_, ⟨_, rfl⟩, hW, hsame.mono (by decide) (by decide)⟩
    · show Steps p.tables e below (T1.setTop (mkF m 4 #[.val (.ref o0)] [(.int vq)])) _
      refine XS.ifYes X1.here hx rfl (pc0 := 4) (pc' := 23) rfl (hb hby d11_4) rfl ((if0 _ _).trans (feq hc4_3).2) (by decide) (by decide) ?_
      show Steps p.tables e below (T1.setTop (mkF m 23 #[.val (.ref o0)] [])) _
      refine XS.iconst X1.here hx rfl (hb hby d11_23) ?_
      show Steps p.tables e below (T1.setTop (mkF m 24 #[.val (.ref o0)] [(.int (1 : Int32))])) _
      refine XS.goto X1.here hx rfl (pc0 := 24) (pc' := 28) rfl (hb hby d11_24) (by decide) (by decide) ?_
      show Steps p.tables e below (T1.setTop (mkF m 28 #[.val (.ref o0)] [(.int (1 : Int32))])) _
      exact retN X1 hx (t := .boolean) Bd.returns (by simp) (hb hby d11_28) hr
    · show Q11 Z o0 r1 vq vs F h0 n0 _ T1.heap _
      rw [e1]
      exact ⟨congrArg (fun q => some (Value.int q)) hv11.symm, N0, rfl⟩
theorem d12_0 : decode method_3_code 0 = .ok (.iload_n 1, 1) := by decide +kernel
theorem d12_1 : decode method_3_code 1 = .ok (.bipush 34, 2) := by decide +kernel
theorem d12_3 : decode method_3_code 3 = .ok (.if_icmp .ne 7, 3) := by decide +kernel
theorem d12_6 : decode method_3_code 6 = .ok (.iconst 1, 1) := by decide +kernel
theorem d12_7 : decode method_3_code 7 = .ok (.goto 4, 3) := by decide +kernel
theorem d12_10 : decode method_3_code 10 = .ok (.iconst 0, 1) := by decide +kernel
theorem d12_11 : decode method_3_code 11 = .ok (.istore_n 2, 1) := by decide +kernel
theorem d12_12 : decode method_3_code 12 = .ok (.iload_n 1, 1) := by decide +kernel
theorem d12_13 : decode method_3_code 13 = .ok (.bipush 44, 2) := by decide +kernel
theorem d12_15 : decode method_3_code 15 = .ok (.if_icmp .ne 7, 3) := by decide +kernel
theorem d12_18 : decode method_3_code 18 = .ok (.iconst 1, 1) := by decide +kernel
theorem d12_19 : decode method_3_code 19 = .ok (.goto 4, 3) := by decide +kernel
theorem d12_22 : decode method_3_code 22 = .ok (.iconst 0, 1) := by decide +kernel
theorem d12_23 : decode method_3_code 23 = .ok (.istore_n 3, 1) := by decide +kernel
theorem d12_24 : decode method_3_code 24 = .ok (.iload_n 1, 1) := by decide +kernel
theorem d12_25 : decode method_3_code 25 = .ok (.bipush 10, 2) := by decide +kernel
theorem d12_27 : decode method_3_code 27 = .ok (.if_icmp .ne 7, 3) := by decide +kernel
theorem d12_30 : decode method_3_code 30 = .ok (.iconst 1, 1) := by decide +kernel
theorem d12_31 : decode method_3_code 31 = .ok (.goto 4, 3) := by decide +kernel
theorem d12_34 : decode method_3_code 34 = .ok (.iconst 0, 1) := by decide +kernel
theorem d12_35 : decode method_3_code 35 = .ok (.istore 4, 2) := by decide +kernel
theorem d12_37 : decode method_3_code 37 = .ok (.iload_n 0, 1) := by decide +kernel
theorem d12_38 : decode method_3_code 38 = .ok (.iconst 2, 1) := by decide +kernel
theorem d12_39 : decode method_3_code 39 = .ok (.if_icmp .ne 13, 3) := by decide +kernel
theorem d12_42 : decode method_3_code 42 = .ok (.iload_n 2, 1) := by decide +kernel
theorem d12_43 : decode method_3_code 43 = .ok (.ifCond .eq 7, 3) := by decide +kernel
theorem d12_46 : decode method_3_code 46 = .ok (.iconst 3, 1) := by decide +kernel
theorem d12_47 : decode method_3_code 47 = .ok (.goto 4, 3) := by decide +kernel
theorem d12_50 : decode method_3_code 50 = .ok (.iconst 2, 1) := by decide +kernel
theorem d12_51 : decode method_3_code 51 = .ok (.ireturn, 1) := by decide +kernel
theorem d12_52 : decode method_3_code 52 = .ok (.iload 4, 2) := by decide +kernel
theorem d12_54 : decode method_3_code 54 = .ok (.ifCond .eq 5, 3) := by decide +kernel
theorem d12_57 : decode method_3_code 57 = .ok (.iconst 4, 1) := by decide +kernel
theorem d12_58 : decode method_3_code 58 = .ok (.ireturn, 1) := by decide +kernel
theorem d12_59 : decode method_3_code 59 = .ok (.iload_n 3, 1) := by decide +kernel
theorem d12_60 : decode method_3_code 60 = .ok (.ifCond .eq 5, 3) := by decide +kernel
theorem d12_63 : decode method_3_code 63 = .ok (.iconst 0, 1) := by decide +kernel
theorem d12_64 : decode method_3_code 64 = .ok (.ireturn, 1) := by decide +kernel
theorem d12_65 : decode method_3_code 65 = .ok (.iload_n 2, 1) := by decide +kernel
theorem d12_66 : decode method_3_code 66 = .ok (.ifCond .eq 16, 3) := by decide +kernel
theorem d12_69 : decode method_3_code 69 = .ok (.iload_n 0, 1) := by decide +kernel
theorem d12_70 : decode method_3_code 70 = .ok (.ifCond .eq 8, 3) := by decide +kernel
theorem d12_73 : decode method_3_code 73 = .ok (.iload_n 0, 1) := by decide +kernel
theorem d12_74 : decode method_3_code 74 = .ok (.iconst 3, 1) := by decide +kernel
theorem d12_75 : decode method_3_code 75 = .ok (.if_icmp .ne 5, 3) := by decide +kernel
theorem d12_78 : decode method_3_code 78 = .ok (.iconst 2, 1) := by decide +kernel
theorem d12_79 : decode method_3_code 79 = .ok (.ireturn, 1) := by decide +kernel
theorem d12_80 : decode method_3_code 80 = .ok (.iconst 1, 1) := by decide +kernel
theorem d12_81 : decode method_3_code 81 = .ok (.ireturn, 1) := by decide +kernel
theorem d12_82 : decode method_3_code 82 = .ok (.iconst 1, 1) := by decide +kernel
theorem d12_83 : decode method_3_code 83 = .ok (.ireturn, 1) := by decide +kernel
theorem pn_12 : plainName "com/example/cistern/cistern/io/CsvReaderInRecordPinLaw" = true := by first | (simp [plainName, overriddenIn]; done) | decide +kernel
theorem ef_12 (m : MethodId) (x0 : Int32) (x1 : Int32) : entryFrame m #[(.int x0), (.int x1)] 5 = mkF m 0 #[.val (.int x0), .val (.int x1), .unset, .unset, .unset] [] := by first | (simp [entryFrame, mkF, argsToLocals, Value.category]; done) | rfl
def f12 (p0 : Int32) (p1 : Int32) : Int32 :=
  if p1 = (34 : Int32) then (if p1 = (44 : Int32) then (if p1 = (10 : Int32) then (if p0 = (2 : Int32) then ((3 : Int32)) else
  ((4 : Int32))) else
  (if p0 = (2 : Int32) then ((3 : Int32)) else
  ((0 : Int32)))) else
  (if p1 = (10 : Int32) then (if p0 = (2 : Int32) then ((3 : Int32)) else
  ((4 : Int32))) else
  (if p0 = (2 : Int32) then ((3 : Int32)) else
  (if p0 = (0 : Int32) then ((2 : Int32)) else
  (if p0 = (3 : Int32) then ((2 : Int32)) else
  ((1 : Int32))))))) else
  (if p1 = (44 : Int32) then (if p1 = (10 : Int32) then (if p0 = (2 : Int32) then ((2 : Int32)) else
  ((4 : Int32))) else
  (if p0 = (2 : Int32) then ((2 : Int32)) else
  ((0 : Int32)))) else
  (if p1 = (10 : Int32) then (if p0 = (2 : Int32) then ((2 : Int32)) else
  ((4 : Int32))) else
  (if p0 = (2 : Int32) then ((2 : Int32)) else
  ((1 : Int32)))))
def Q12 (Z : State) (p0 : Int32) (p1 : Int32) (h0 : Heap) (n0 : Nat) (v : Option Value) (h : Heap) (L : List Loc) : Prop := v = some (.int (f12 p0 p1)) ∧ Fr n0 L ∧ h = h0
set_option maxRecDepth 65536 in
set_option maxHeartbeats 40000000 in
theorem rm12 (l : Launch) (Z : State) (a0 : Array Value) (hw : ∀ d ∈ tables_1, d.before a0 Z = true) (ws : List Jvm.Cond) (p0 : Int32) (p1 : Int32) (h0 : Heap) (n0 : Nat) (Z0 : n0 ≤ h0.size) :
    MetFree l (⟨"com/example/cistern/cistern/io/CsvReaderInRecordPinLaw", "step", "(IB)I"⟩ : MethodName) (head1 (Jvm.Cond.code (⟨"com/example/cistern/cistern/io/CsvReaderInRecordPinLaw", "step", "(IB)I"⟩ : MethodName) method_3_code 5 (some .int) :: ws) ({ frames := 0, cells := 0, slots := 0, locals := 0 } : Room)) (fun a U => a = #[(.int p0), (.int p1)] ∧ Z.Warmed39 U.vm ∧ U.heap = h0) (fun _ _ _ _ _ => True) (fun _ U o U' => ∃ v L, o = .returned v ∧ Q12 Z p0 p1 h0 n0 v U'.heap L ∧ FrameEnd U o U' L ({ frames := 0, cells := 0, slots := 0, locals := 0 } : Room).cells ({ frames := 0, cells := 0, slots := 0, locals := 0 } : Room).slots) := by
  refine MetFree.of_bodySF (plainFor_of_name pn_12) hisR ?_
  intro p e s m args below meth c s₁ Bd hml0 hP hK
  obtain ⟨rfl, hZ, hh⟩ := hP
  have hx := Bd.exec
  have hby := Bd.bytes
  have hml : c.maxLocals = 5 := hml0
  have hown : s.vm.findClass "com/example/cistern/cistern/io/CsvReaderInRecordPinLaw" = some m.cls := findClass_of_methodNamed Bd.named
  have hnm := (name_of_methodNamed Bd.named Bd.method).1
  have X0 : Stand p l e ({ frames := 0, cells := 0, slots := 0, locals := 0 } : Room) s m #[(.int p0), (.int p1)] below meth c s₁ [] 0 0 := Stand.of_body Bd
  have e0 : s₁.heap = h0 := by rw [← hh, Bd.state]; rfl
  have N0 := Fr.nil n0
  have pre0 : ∀ t, Steps p.tables e below (s₁.setTop (mkF m 0 #[.val (.int p0), .val (.int p1), .unset, .unset, .unset] [])) t → Steps p.tables e below (s₁.setTop (entryFrame m #[(.int p0), (.int p1)] 5)) t := fun t k => castTop (ef_12 m p0 p1) k
  have pre1 : ∀ t, Steps p.tables e below (s₁.setTop (mkF m 3 #[.val (.int p0), .val (.int p1), .unset, .unset, .unset] [(.int (34 : Int32)), (.int p1)])) t → Steps p.tables e below (s₁.setTop (entryFrame m #[(.int p0), (.int p1)] 5)) t := fun t kt => pre0 t (by
      show Steps p.tables e below (s₁.setTop (mkF m 0 #[.val (.int p0), .val (.int p1), .unset, .unset, .unset] [])) _
      refine XS.iloadN X0.here hx rfl (hb hby d12_0) rfl ?_
      show Steps p.tables e below (s₁.setTop (mkF m 1 #[.val (.int p0), .val (.int p1), .unset, .unset, .unset] [(.int p1)])) _
      refine XS.bipush X0.here hx rfl (hb hby d12_1) ?_
      exact kt)
  by_cases hc3_2 : p1 = (34 : Int32)
  · have pre3 : ∀ t, Steps p.tables e below (s₁.setTop (mkF m 15 #[.val (.int p0), .val (.int p1), .val (.int (1 : Int32)), .unset, .unset] [(.int (44 : Int32)), (.int p1)])) t → Steps p.tables e below (s₁.setTop (entryFrame m #[(.int p0), (.int p1)] 5)) t := fun t kt => pre1 t (by
        show Steps p.tables e below (s₁.setTop (mkF m 3 #[.val (.int p0), .val (.int p1), .unset, .unset, .unset] [(.int (34 : Int32)), (.int p1)])) _
        refine XS.icmpNo X0.here hx rfl (hb hby d12_3) rfl (teq hc3_2).2 ?_
        show Steps p.tables e below (s₁.setTop (mkF m 6 #[.val (.int p0), .val (.int p1), .unset, .unset, .unset] [])) _
        refine XS.iconst X0.here hx rfl (hb hby d12_6) ?_
        show Steps p.tables e below (s₁.setTop (mkF m 7 #[.val (.int p0), .val (.int p1), .unset, .unset, .unset] [(.int (1 : Int32))])) _
        refine XS.goto X0.here hx rfl (pc0 := 7) (pc' := 11) rfl (hb hby d12_7) (by decide) (by decide) ?_
        show Steps p.tables e below (s₁.setTop (mkF m 11 #[.val (.int p0), .val (.int p1), .unset, .unset, .unset] [(.int (1 : Int32))])) _
        refine XS.istoreN X0.here hx rfl (hb hby d12_11) rfl (l' := #[.val (.int p0), .val (.int p1), .val (.int (1 : Int32)), .unset, .unset]) rfl ?_
        show Steps p.tables e below (s₁.setTop (mkF m 12 #[.val (.int p0), .val (.int p1), .val (.int (1 : Int32)), .unset, .unset] [])) _
        refine XS.iloadN X0.here hx rfl (hb hby d12_12) rfl ?_
        show Steps p.tables e below (s₁.setTop (mkF m 13 #[.val (.int p0), .val (.int p1), .val (.int (1 : Int32)), .unset, .unset] [(.int p1)])) _
        refine XS.bipush X0.here hx rfl (hb hby d12_13) ?_
        exact kt)
    by_cases hc15_4 : p1 = (44 : Int32)
    · have pre5 : ∀ t, Steps p.tables e below (s₁.setTop (mkF m 27 #[.val (.int p0), .val (.int p1), .val (.int (1 : Int32)), .val (.int (1 : Int32)), .unset] [(.int (10 : Int32)), (.int p1)])) t → Steps p.tables e below (s₁.setTop (entryFrame m #[(.int p0), (.int p1)] 5)) t := fun t kt => pre3 t (by
          show Steps p.tables e below (s₁.setTop (mkF m 15 #[.val (.int p0), .val (.int p1), .val (.int (1 : Int32)), .unset, .unset] [(.int (44 : Int32)), (.int p1)])) _
          refine XS.icmpNo X0.here hx rfl (hb hby d12_15) rfl (teq hc15_4).2 ?_
          show Steps p.tables e below (s₁.setTop (mkF m 18 #[.val (.int p0), .val (.int p1), .val (.int (1 : Int32)), .unset, .unset] [])) _
          refine XS.iconst X0.here hx rfl (hb hby d12_18) ?_
          show Steps p.tables e below (s₁.setTop (mkF m 19 #[.val (.int p0), .val (.int p1), .val (.int (1 : Int32)), .unset, .unset] [(.int (1 : Int32))])) _
          refine XS.goto X0.here hx rfl (pc0 := 19) (pc' := 23) rfl (hb hby d12_19) (by decide) (by decide) ?_
          show Steps p.tables e below (s₁.setTop (mkF m 23 #[.val (.int p0), .val (.int p1), .val (.int (1 : Int32)), .unset, .unset] [(.int (1 : Int32))])) _
          refine XS.istoreN X0.here hx rfl (hb hby d12_23) rfl (l' := #[.val (.int p0), .val (.int p1), .val (.int (1 : Int32)), .val (.int (1 : Int32)), .unset]) rfl ?_
          show Steps p.tables e below (s₁.setTop (mkF m 24 #[.val (.int p0), .val (.int p1), .val (.int (1 : Int32)), .val (.int (1 : Int32)), .unset] [])) _
          refine XS.iloadN X0.here hx rfl (hb hby d12_24) rfl ?_
          show Steps p.tables e below (s₁.setTop (mkF m 25 #[.val (.int p0), .val (.int p1), .val (.int (1 : Int32)), .val (.int (1 : Int32)), .unset] [(.int p1)])) _
          refine XS.bipush X0.here hx rfl (hb hby d12_25) ?_
          exact kt)
      by_cases hc27_6 : p1 = (10 : Int32)
      · have pre7 : ∀ t, Steps p.tables e below (s₁.setTop (mkF m 39 #[.val (.int p0), .val (.int p1), .val (.int (1 : Int32)), .val (.int (1 : Int32)), .val (.int (1 : Int32))] [(.int (2 : Int32)), (.int p0)])) t → Steps p.tables e below (s₁.setTop (entryFrame m #[(.int p0), (.int p1)] 5)) t := fun t kt => pre5 t (by
            show Steps p.tables e below (s₁.setTop (mkF m 27 #[.val (.int p0), .val (.int p1), .val (.int (1 : Int32)), .val (.int (1 : Int32)), .unset] [(.int (10 : Int32)), (.int p1)])) _
            refine XS.icmpNo X0.here hx rfl (hb hby d12_27) rfl (teq hc27_6).2 ?_
            show Steps p.tables e below (s₁.setTop (mkF m 30 #[.val (.int p0), .val (.int p1), .val (.int (1 : Int32)), .val (.int (1 : Int32)), .unset] [])) _
            refine XS.iconst X0.here hx rfl (hb hby d12_30) ?_
            show Steps p.tables e below (s₁.setTop (mkF m 31 #[.val (.int p0), .val (.int p1), .val (.int (1 : Int32)), .val (.int (1 : Int32)), .unset] [(.int (1 : Int32))])) _
            refine XS.goto X0.here hx rfl (pc0 := 31) (pc' := 35) rfl (hb hby d12_31) (by decide) (by decide) ?_
            show Steps p.tables e below (s₁.setTop (mkF m 35 #[.val (.int p0), .val (.int p1), .val (.int (1 : Int32)), .val (.int (1 : Int32)), .unset] [(.int (1 : Int32))])) _
            refine XS.istore X0.here hx rfl (hb hby d12_35) rfl (l' := #[.val (.int p0), .val (.int p1), .val (.int (1 : Int32)), .val (.int (1 : Int32)), .val (.int (1 : Int32))]) rfl ?_
            show Steps p.tables e below (s₁.setTop (mkF m 37 #[.val (.int p0), .val (.int p1), .val (.int (1 : Int32)), .val (.int (1 : Int32)), .val (.int (1 : Int32))] [])) _
            refine XS.iloadN X0.here hx rfl (hb hby d12_37) rfl ?_
            show Steps p.tables e below (s₁.setTop (mkF m 38 #[.val (.int p0), .val (.int p1), .val (.int (1 : Int32)), .val (.int (1 : Int32)), .val (.int (1 : Int32))] [(.int p0)])) _
            refine XS.iconst X0.here hx rfl (hb hby d12_38) ?_
            exact kt)
        by_cases hc39_8 : p0 = (2 : Int32)
        · have pre9 : ∀ t, Steps p.tables e below (s₁.setTop (mkF m 43 #[.val (.int p0), .val (.int p1), .val (.int (1 : Int32)), .val (.int (1 : Int32)), .val (.int (1 : Int32))] [(.int (1 : Int32))])) t → Steps p.tables e below (s₁.setTop (entryFrame m #[(.int p0), (.int p1)] 5)) t := fun t kt => pre7 t (by
              show Steps p.tables e below (s₁.setTop (mkF m 39 #[.val (.int p0), .val (.int p1), .val (.int (1 : Int32)), .val (.int (1 : Int32)), .val (.int (1 : Int32))] [(.int (2 : Int32)), (.int p0)])) _
              refine XS.icmpNo X0.here hx rfl (hb hby d12_39) rfl (teq hc39_8).2 ?_
              show Steps p.tables e below (s₁.setTop (mkF m 42 #[.val (.int p0), .val (.int p1), .val (.int (1 : Int32)), .val (.int (1 : Int32)), .val (.int (1 : Int32))] [])) _
              refine XS.iloadN X0.here hx rfl (hb hby d12_42) rfl ?_
              exact kt)
          obtain ⟨fs, hr, hrun, hended, hW, hsame⟩ := X0.leave (v := some (.int (3 : Int32))) (fun h => by rw [Bd.returns] at h; cases h)
          have hv57 : (f12 p0 p1) = (3 : Int32) := by rw [f12, if_pos hc3_2, if_pos hc15_4, if_pos hc27_6, if_pos hc39_8]
          refine ⟨_, _, pre9 _ ?_, hrun, hended, _, _, rfl, ?_, ⟨_, rfl⟩, hW, hsame.mono (by decide) (by decide)⟩
          · show Steps p.tables e below (s₁.setTop (mkF m 43 #[.val (.int p0), .val (.int p1), .val (.int (1 : Int32)), .val (.int (1 : Int32)), .val (.int (1 : Int32))] [(.int (1 : Int32))])) _
            refine XS.ifNo X0.here hx rfl (hb hby d12_43) rfl ((if0 _ _).trans (feq (by decide : ¬ ((1 : Int32) = (0 : Int32)))).1) ?_
            show Steps p.tables e below (s₁.setTop (mkF m 46 #[.val (.int p0), .val (.int p1), .val (.int (1 : Int32)), .val (.int (1 : Int32)), .val (.int (1 : Int32))] [])) _
            refine XS.iconst X0.here hx rfl (hb hby d12_46) ?_
            show Steps p.tables e below (s₁.setTop (mkF m 47 #[.val (.int p0), .val (.int p1), .val (.int (1 : Int32)), .val (.int (1 : Int32)), .val (.int (1 : Int32))] [(.int (3 : Int32))])) _
            refine XS.goto X0.here hx rfl (pc0 := 47) (pc' := 51) rfl (hb hby d12_47) (by decide) (by decide) ?_
            show Steps p.tables e below (s₁.setTop (mkF m 51 #[.val (.int p0), .val (.int p1), .val (.int (1 : Int32)), .val (.int (1 : Int32)), .val (.int (1 : Int32))] [(.int (3 : Int32))])) _
            exact retI X0 hx Bd.returns (hb hby d12_51) hr
          · show Q12 Z p0 p1 h0 n0 _ s₁.heap _
            rw [e0]
            exact ⟨congrArg (fun q => some (Value.int q)) hv57.symm, N0, rfl⟩
        · have pre10 : ∀ t, Steps p.tables e below (s₁.setTop (mkF m 54 #[.val (.int p0), .val (.int p1), .val (.int (1 : Int32)), .val (.int (1 : Int32)), .val (.int (1 : Int32))] [(.int (1 : Int32))])) t → Steps p.tables e below (s₁.setTop (entryFrame m #[(.int p0), (.int p1)] 5)) t := fun t kt => pre7 t (by
              show Steps p.tables e below (s₁.setTop (mkF m 39 #[.val (.int p0), .val (.int p1), .val (.int (1 : Int32)), .val (.int (1 : Int32)), .val (.int (1 : Int32))] [(.int (2 : Int32)), (.int p0)])) _
              refine XS.icmpYes X0.here hx rfl (pc0 := 39) (pc' := 52) rfl (hb hby d12_39) rfl (feq hc39_8).2 (by decide) (by decide) ?_
              show Steps p.tables e below (s₁.setTop (mkF m 52 #[.val (.int p0), .val (.int p1), .val (.int (1 : Int32)), .val (.int (1 : Int32)), .val (.int (1 : Int32))] [])) _
              refine XS.iload X0.here hx rfl (hb hby d12_52) rfl ?_
              exact kt)
          obtain ⟨fs, hr, hrun, hended, hW, hsame⟩ := X0.leave (v := some (.int (4 : Int32))) (fun h => by rw [Bd.returns] at h; cases h)
          have hv58 : (f12 p0 p1) = (4 : Int32) := by rw [f12, if_pos hc3_2, if_pos hc15_4, if_pos hc27_6, if_neg hc39_8]
          refine ⟨_, _, pre10 _ ?_, hrun, hended, _, _, rfl, ?_, ⟨_, rfl⟩, hW, hsame.mono (by decide) (by decide)⟩
          · show Steps p.tables e below (s₁.setTop (mkF m 54 #[.val (.int p0), .val (.int p1), .val (.int (1 : Int32)), .val (.int (1 : Int32)), .val (.int (1 : Int32))] [(.int (1 : Int32))])) _
            refine XS.ifNo X0.here hx rfl (hb hby d12_54) rfl ((if0 _ _).trans (feq (by decide : ¬ ((1 : Int32) = (0 : Int32)))).1) ?_
            show Steps p.tables e below (s₁.setTop (mkF m 57 #[.val (.int p0), .val (.int p1), .val (.int (1 : Int32)), .val (.int (1 : Int32)), .val (.int (1 : Int32))] [])) _
            refine XS.iconst X0.here hx rfl (hb hby d12_57) ?_
            show Steps p.tables e below (s₁.setTop (mkF m 58 #[.val (.int p0), .val (.int p1), .val (.int (1 : Int32)), .val (.int (1 : Int32)), .val (.int (1 : Int32))] [(.int (4 : Int32))])) _
            exact retI X0 hx Bd.returns (hb hby d12_58) hr
          · show Q12 Z p0 p1 h0 n0 _ s₁.heap _
            rw [e0]
            exact ⟨congrArg (fun q => some (Value.int q)) hv58.symm, N0, rfl⟩
      · have pre11 : ∀ t, Steps p.tables e below (s₁.setTop (mkF m 39 #[.val (.int p0), .val (.int p1), .val (.int (1 : Int32)), .val (.int (1 : Int32)), .val (.int (0 : Int32))] [(.int (2 : Int32)), (.int p0)])) t → Steps p.tables e below (s₁.setTop (entryFrame m #[(.int p0), (.int p1)] 5)) t := fun t kt => pre5 t (by
            show Steps p.tables e below (s₁.setTop (mkF m 27 #[.val (.int p0), .val (.int p1), .val (.int (1 : Int32)), .val (.int (1 : Int32)), .unset] [(.int (10 : Int32)), (.int p1)])) _
            refine XS.icmpYes X0.here hx rfl (pc0 := 27) (pc' := 34) rfl (hb hby d12_27) rfl (feq hc27_6).2 (by decide) (by decide) ?_
            show Steps p.tables e below (s₁.setTop (mkF m 34 #[.val (.int p0), .val (.int p1), .val (.int (1 : Int32)), .val (.int (1 : Int32)), .unset] [])) _
            refine XS.iconst X0.here hx rfl (hb hby d12_34) ?_
            show Steps p.tables e below (s₁.setTop (mkF m 35 #[.val (.int p0), .val (.int p1), .val (.int (1 : Int32)), .val (.int (1 : Int32)), .unset] [(.int (0 : Int32))])) _
            refine XS.istore X0.here hx rfl (hb hby d12_35) rfl (l' := #[.val (.int p0), .val (.int p1), .val (.int (1 : Int32)), .val (.int (1 : Int32)), .val (.int (0 : Int32))]) rfl ?_
            show Steps p.tables e below (s₁.setTop (mkF m 37 #[.val (.int p0), .val (.int p1), .val (.int (1 : Int32)), .val (.int (1 : Int32)), .val (.int (0 : Int32))] [])) _
            refine XS.iloadN X0.here hx rfl (hb hby d12_37) rfl ?_
            show Steps p.tables e below (s₁.setTop (mkF m 38 #[.val (.int p0), .val (.int p1), .val (.int (1 : Int32)), .val (.int (1 : Int32)), .val (.int (0 : Int32))] [(.int p0)])) _
            refine XS.iconst X0.here hx rfl (hb hby d12_38) ?_
            exact kt)
        by_cases hc39_12 : p0 = (2 : Int32)
        · have pre13 : ∀ t, Steps p.tables e below (s₁.setTop (mkF m 43 #[.val (.int p0), .val (.int p1), .val (.int (1 : Int32)), .val (.int (1 : Int32)), .val (.int (0 : Int32))] [(.int (1 : Int32))])) t → Steps p.tables e below (s₁.setTop (entryFrame m #[(.int p0), (.int p1)] 5)) t := fun t kt => pre11 t (by
              show Steps p.tables e below (s₁.setTop (mkF m 39 #[.val (.int p0), .val (.int p1), .val (.int (1 : Int32)), .val (.int (1 : Int32)), .val (.int (0 : Int32))] [(.int (2 : Int32)), (.int p0)])) _
              refine XS.icmpNo X0.here hx rfl (hb hby d12_39) rfl (teq hc39_12).2 ?_
              show Steps p.tables e below (s₁.setTop (mkF m 42 #[.val (.int p0), .val (.int p1), .val (.int (1 : Int32)), .val (.int (1 : Int32)), .val (.int (0 : Int32))] [])) _
              refine XS.iloadN X0.here hx rfl (hb hby d12_42) rfl ?_
              exact kt)
          obtain ⟨fs, hr, hrun, hended, hW, hsame⟩ := X0.leave (v := some (.int (3 : Int32))) (fun h => by rw [Bd.returns] at h; cases h)
          have hv59 : (f12 p0 p1) = (3 : Int32) := by rw [f12, if_pos hc3_2, if_pos hc15_4, if_neg hc27_6, if_pos hc39_12]
          refine ⟨_, _, pre13 _ ?_, hrun, hended, _, _, rfl, ?_, ⟨_, rfl⟩, hW, hsame.mono (by decide) (by decide)⟩
          · show Steps p.tables e below (s₁.setTop (mkF m 43 #[.val (.int p0), .val (.int p1), .val (.int (1 : Int32)), .val (.int (1 : Int32)), .val (.int (0 : Int32))] [(.int (1 : Int32))])) _
            refine XS.ifNo X0.here hx rfl (hb hby d12_43) rfl ((if0 _ _).trans (feq (by decide : ¬ ((1 : Int32) = (0 : Int32)))).1) ?_
            show Steps p.tables e below (s₁.setTop (mkF m 46 #[.val (.int p0), .val (.int p1), .val (.int (1 : Int32)), .val (.int (1 : Int32)), .val (.int (0 : Int32))] [])) _
            refine XS.iconst X0.here hx rfl (hb hby d12_46) ?_
            show Steps p.tables e below (s₁.setTop (mkF m 47 #[.val (.int p0), .val (.int p1), .val (.int (1 : Int32)), .val (.int (1 : Int32)), .val (.int (0 : Int32))] [(.int (3 : Int32))])) _
            refine XS.goto X0.here hx rfl (pc0 := 47) (pc' := 51) rfl (hb hby d12_47) (by decide) (by decide) ?_
            show Steps p.tables e below (s₁.setTop (mkF m 51 #[.val (.int p0), .val (.int p1), .val (.int (1 : Int32)), .val (.int (1 : Int32)), .val (.int (0 : Int32))] [(.int (3 : Int32))])) _
            exact retI X0 hx Bd.returns (hb hby d12_51) hr
          · show Q12 Z p0 p1 h0 n0 _ s₁.heap _
            rw [e0]
            exact ⟨congrArg (fun q => some (Value.int q)) hv59.symm, N0, rfl⟩
        · have pre14 : ∀ t, Steps p.tables e below (s₁.setTop (mkF m 54 #[.val (.int p0), .val (.int p1), .val (.int (1 : Int32)), .val (.int (1 : Int32)), .val (.int (0 : Int32))] [(.int (0 : Int32))])) t → Steps p.tables e below (s₁.setTop (entryFrame m #[(.int p0), (.int p1)] 5)) t := fun t kt => pre11 t (by
              show Steps p.tables e below (s₁.setTop (mkF m 39 #[.val (.int p0), .val (.int p1), .val (.int (1 : Int32)), .val (.int (1 : Int32)), .val (.int (0 : Int32))] [(.int (2 : Int32)), (.int p0)])) _
              refine XS.icmpYes X0.here hx rfl (pc0 := 39) (pc' := 52) rfl (hb hby d12_39) rfl (feq hc39_12).2 (by decide) (by decide) ?_
              show Steps p.tables e below (s₁.setTop (mkF m 52 #[.val (.int p0), .val (.int p1), .val (.int (1 : Int32)), .val (.int (1 : Int32)), .val (.int (0 : Int32))] [])) _
              refine XS.iload X0.here hx rfl (hb hby d12_52) rfl ?_
              exact kt)
          have pre15 : ∀ t, Steps p.tables e below (s₁.setTop (mkF m 60 #[.val (.int p0), .val (.int p1), .val (.int (1 : Int32)), .val (.int (1 : Int32)), .val (.int (0 : Int32))] [(.int (1 : Int32))])) t → Steps p.tables e below (s₁.setTop (entryFrame m #[(.int p0), (.int p1)] 5)) t := fun t kt => pre14 t (by
              show Steps p.tables e below (s₁.setTop (mkF m 54 #[.val (.int p0), .val (.int p1), .val (.int (1 : Int32)), .val (.int (1 : Int32)), .val (.int (0 : Int32))] [(.int (0 : Int32))])) _
              refine XS.ifYes X0.here hx rfl (pc0 := 54) (pc' := 59) rfl (hb hby d12_54) rfl ((if0 _ _).trans (teq (by decide : ((0 : Int32) = (0 : Int32)))).1) (by decide) (by decide) ?_
              show Steps p.tables e below (s₁.setTop (mkF m 59 #[.val (.int p0), .val (.int p1), .val (.int (1 : Int32)), .val (.int (1 : Int32)), .val (.int (0 : Int32))] [])) _
              refine XS.iloadN X0.here hx rfl (hb hby d12_59) rfl ?_
              exact kt)
          obtain ⟨fs, hr, hrun, hended, hW, hsame⟩ := X0.leave (v := some (.int (0 : Int32))) (fun h => by rw [Bd.returns] at h; cases h)
          have hv60 : (f12 p0 p1) = (0 : Int32) := by rw [f12, if_pos hc3_2, if_pos hc15_4, if_neg hc27_6, if_neg hc39_12]
          refine ⟨_, _, pre15 _ ?_, hrun, hended, _, _, rfl, ?_, ⟨_, rfl⟩, hW, hsame.mono (by decide) (by decide)⟩
          · show Steps p.tables e below (s₁.setTop (mkF m 60 #[.val (.int p0), .val (.int p1), .val (.int (1 : Int32)), .val (.int (1 : Int32)), .val (.int (0 : Int32))] [(.int (1 : Int32))])) _
            refine XS.ifNo X0.here hx rfl (hb hby d12_60) rfl ((if0 _ _).trans (feq (by decide : ¬ ((1 : Int32) = (0 : Int32)))).1) ?_
            show Steps p.tables e below (s₁.setTop (mkF m 63 #[.val (.int p0), .val (.int p1), .val (.int (1 : Int32)), .val (.int (1 : Int32)), .val (.int (0 : Int32))] [])) _
            refine XS.iconst X0.here hx rfl (hb hby d12_63) ?_
            show Steps p.tables e below (s₁.setTop (mkF m 64 #[.val (.int p0), .val (.int p1), .val (.int (1 : Int32)), .val (.int (1 : Int32)), .val (.int (0 : Int32))] [(.int (0 : Int32))])) _
            exact retI X0 hx Bd.returns (hb hby d12_64) hr
          · show Q12 Z p0 p1 h0 n0 _ s₁.heap _
            rw [e0]
            exact ⟨congrArg (fun q => some (Value.int q)) hv60.symm, N0, rfl⟩
    · have pre16 : ∀ t, Steps p.tables e below (s₁.setTop (mkF m 27 #[.val (.int p0), .val (.int p1), .val (.int (1 : Int32)), .val (.int (0 : Int32)), .unset] [(.int (10 : Int32)), (.int p1)])) t → Steps p.tables e below (s₁.setTop (entryFrame m #[(.int p0), (.int p1)] 5)) t := fun t kt => pre3 t (by
          show Steps p.tables e below (s₁.setTop (mkF m 15 #[.val (.int p0), .val (.int p1), .val (.int (1 : Int32)), .unset, .unset] [(.int (44 : Int32)), (.int p1)])) _
          refine XS.icmpYes X0.here hx rfl (pc0 := 15) (pc' := 22) rfl (hb hby d12_15) rfl (feq hc15_4).2 (by decide) (by decide) ?_
          show Steps p.tables e below (s₁.setTop (mkF m 22 #[.val (.int p0), .val (.int p1), .val (.int (1 : Int32)), .unset, .unset] [])) _
          refine XS.iconst X0.here hx rfl (hb hby d12_22) ?_
          show Steps p.tables e below (s₁.setTop (mkF m 23 #[.val (.int p0), .val (.int p1), .val (.int (1 : Int32)), .unset, .unset] [(.int (0 : Int32))])) _
          refine XS.istoreN X0.here hx rfl (hb hby d12_23) rfl (l' := #[.val (.int p0), .val (.int p1), .val (.int (1 : Int32)), .val (.int (0 : Int32)), .unset]) rfl ?_
          show Steps p.tables e below (s₁.setTop (mkF m 24 #[.val (.int p0), .val (.int p1), .val (.int (1 : Int32)), .val (.int (0 : Int32)), .unset] [])) _
          refine XS.iloadN X0.here hx rfl (hb hby d12_24) rfl ?_
          show Steps p.tables e below (s₁.setTop (mkF m 25 #[.val (.int p0), .val (.int p1), .val (.int (1 : Int32)), .val (.int (0 : Int32)), .unset] [(.int p1)])) _
          refine XS.bipush X0.here hx rfl (hb hby d12_25) ?_
          exact kt)
      by_cases hc27_17 : p1 = (10 : Int32)
      · have pre18 : ∀ t, Steps p.tables e below (s₁.setTop (mkF m 39 #[.val (.int p0), .val (.int p1), .val (.int (1 : Int32)), .val (.int (0 : Int32)), .val (.int (1 : Int32))] [(.int (2 : Int32)), (.int p0)])) t → Steps p.tables e below (s₁.setTop (entryFrame m #[(.int p0), (.int p1)] 5)) t := fun t kt => pre16 t (by
            show Steps p.tables e below (s₁.setTop (mkF m 27 #[.val (.int p0), .val (.int p1), .val (.int (1 : Int32)), .val (.int (0 : Int32)), .unset] [(.int (10 : Int32)), (.int p1)])) _
            refine XS.icmpNo X0.here hx rfl (hb hby d12_27) rfl (teq hc27_17).2 ?_
            show Steps p.tables e below (s₁.setTop (mkF m 30 #[.val (.int p0), .val (.int p1), .val (.int (1 : Int32)), .val (.int (0 : Int32)), .unset] [])) _
            refine XS.iconst X0.here hx rfl (hb hby d12_30) ?_
            show Steps p.tables e below (s₁.setTop (mkF m 31 #[.val (.int p0), .val (.int p1), .val (.int (1 : Int32)), .val (.int (0 : Int32)), .unset] [(.int (1 : Int32))])) _
            refine XS.goto X0.here hx rfl (pc0 := 31) (pc' := 35) rfl (hb hby d12_31) (by decide) (by decide) ?_
            show Steps p.tables e below (s₁.setTop (mkF m 35 #[.val (.int p0), .val (.int p1), .val (.int (1 : Int32)), .val (.int (0 : Int32)), .unset] [(.int (1 : Int32))])) _
            refine XS.istore X0.here hx rfl (hb hby d12_35) rfl (l' := #[.val (.int p0), .val (.int p1), .val (.int (1 : Int32)), .val (.int (0 : Int32)), .val (.int (1 : Int32))]) rfl ?_
            show Steps p.tables e below (s₁.setTop (mkF m 37 #[.val (.int p0), .val (.int p1), .val (.int (1 : Int32)), .val (.int (0 : Int32)), .val (.int (1 : Int32))] [])) _
            refine XS.iloadN X0.here hx rfl (hb hby d12_37) rfl ?_
            show Steps p.tables e below (s₁.setTop (mkF m 38 #[.val (.int p0), .val (.int p1), .val (.int (1 : Int32)), .val (.int (0 : Int32)), .val (.int (1 : Int32))] [(.int p0)])) _
            refine XS.iconst X0.here hx rfl (hb hby d12_38) ?_
            exact kt)
        by_cases hc39_19 : p0 = (2 : Int32)
        · have pre20 : ∀ t, Steps p.tables e below (s₁.setTop (mkF m 43 #[.val (.int p0), .val (.int p1), .val (.int (1 : Int32)), .val (.int (0 : Int32)), .val (.int (1 : Int32))] [(.int (1 : Int32))])) t → Steps p.tables e below (s₁.setTop (entryFrame m #[(.int p0), (.int p1)] 5)) t := fun t kt => pre18 t (by
              show Steps p.tables e below (s₁.setTop (mkF m 39 #[.val (.int p0), .val (.int p1), .val (.int (1 : Int32)), .val (.int (0 : Int32)), .val (.int (1 : Int32))] [(.int (2 : Int32)), (.int p0)])) _
              refine XS.icmpNo X0.here hx rfl (hb hby d12_39) rfl (teq hc39_19).2 ?_
              show Steps p.tables e below (s₁.setTop (mkF m 42 #[.val (.int p0), .val (.int p1), .val (.int (1 : Int32)), .val (.int (0 : Int32)), .val (.int (1 : Int32))] [])) _
              refine XS.iloadN X0.here hx rfl (hb hby d12_42) rfl ?_
              exact kt)
          obtain ⟨fs, hr, hrun, hended, hW, hsame⟩ := X0.leave (v := some (.int (3 : Int32))) (fun h => by rw [Bd.returns] at h; cases h)
          have hv61 : (f12 p0 p1) = (3 : Int32) := by rw [f12, if_pos hc3_2, if_neg hc15_4, if_pos hc27_17, if_pos hc39_19]
          refine ⟨_, _, pre20 _ ?_, hrun, hended, _, _, rfl, ?_, ⟨_, rfl⟩, hW, hsame.mono (by decide) (by decide)⟩
          · show Steps p.tables e below (s₁.setTop (mkF m 43 #[.val (.int p0), .val (.int p1), .val (.int (1 : Int32)), .val (.int (0 : Int32)), .val (.int (1 : Int32))] [(.int (1 : Int32))])) _
            refine XS.ifNo X0.here hx rfl (hb hby d12_43) rfl ((if0 _ _).trans (feq (by decide : ¬ ((1 : Int32) = (0 : Int32)))).1) ?_
            show Steps p.tables e below (s₁.setTop (mkF m 46 #[.val (.int p0), .val (.int p1), .val (.int (1 : Int32)), .val (.int (0 : Int32)), .val (.int (1 : Int32))] [])) _
            refine XS.iconst X0.here hx rfl (hb hby d12_46) ?_
            show Steps p.tables e below (s₁.setTop (mkF m 47 #[.val (.int p0), .val (.int p1), .val (.int (1 : Int32)), .val (.int (0 : Int32)), .val (.int (1 : Int32))] [(.int (3 : Int32))])) _
            refine XS.goto X0.here hx rfl (pc0 := 47) (pc' := 51) rfl (hb hby d12_47) (by decide) (by decide) ?_
            show Steps p.tables e below (s₁.setTop (mkF m 51 #[.val (.int p0), .val (.int p1), .val (.int (1 : Int32)), .val (.int (0 : Int32)), .val (.int (1 : Int32))] [(.int (3 : Int32))])) _
            exact retI X0 hx Bd.returns (hb hby d12_51) hr
          · show Q12 Z p0 p1 h0 n0 _ s₁.heap _
            rw [e0]
            exact ⟨congrArg (fun q => some (Value.int q)) hv61.symm, N0, rfl⟩
        · have pre21 : ∀ t, Steps p.tables e below (s₁.setTop (mkF m 54 #[.val (.int p0), .val (.int p1), .val (.int (1 : Int32)), .val (.int (0 : Int32)), .val (.int (1 : Int32))] [(.int (1 : Int32))])) t → Steps p.tables e below (s₁.setTop (entryFrame m #[(.int p0), (.int p1)] 5)) t := fun t kt => pre18 t (by
              show Steps p.tables e below (s₁.setTop (mkF m 39 #[.val (.int p0), .val (.int p1), .val (.int (1 : Int32)), .val (.int (0 : Int32)), .val (.int (1 : Int32))] [(.int (2 : Int32)), (.int p0)])) _
              refine XS.icmpYes X0.here hx rfl (pc0 := 39) (pc' := 52) rfl (hb hby d12_39) rfl (feq hc39_19).2 (by decide) (by decide) ?_
              show Steps p.tables e below (s₁.setTop (mkF m 52 #[.val (.int p0), .val (.int p1), .val (.int (1 : Int32)), .val (.int (0 : Int32)), .val (.int (1 : Int32))] [])) _
              refine XS.iload X0.here hx rfl (hb hby d12_52) rfl ?_
              exact kt)
          obtain ⟨fs, hr, hrun, hended, hW, hsame⟩ := X0.leave (v := some (.int (4 : Int32))) (fun h => by rw [Bd.returns] at h; cases h)
          have hv62 : (f12 p0 p1) = (4 : Int32) := by rw [f12, if_pos hc3_2, if_neg hc15_4, if_pos hc27_17, if_neg hc39_19]
          refine ⟨_, _, pre21 _ ?_, hrun, hended, _, _, rfl, ?_, ⟨_, rfl⟩, hW, hsame.mono (by decide) (by decide)⟩
          · show Steps p.tables e below (s₁.setTop (mkF m 54 #[.val (.int p0), .val (.int p1), .val (.int (1 : Int32)), .val (.int (0 : Int32)), .val (.int (1 : Int32))] [(.int (1 : Int32))])) _
            refine XS.ifNo X0.here hx rfl (hb hby d12_54) rfl ((if0 _ _).trans (feq (by decide : ¬ ((1 : Int32) = (0 : Int32)))).1) ?_
            show Steps p.tables e below (s₁.setTop (mkF m 57 #[.val (.int p0), .val (.int p1), .val (.int (1 : Int32)), .val (.int (0 : Int32)), .val (.int (1 : Int32))] [])) _
            refine XS.iconst X0.here hx rfl (hb hby d12_57) ?_
            show Steps p.tables e below (s₁.setTop (mkF m 58 #[.val (.int p0), .val (.int p1), .val (.int (1 : Int32)), .val (.int (0 : Int32)), .val (.int (1 : Int32))] [(.int (4 : Int32))])) _
            exact retI X0 hx Bd.returns (hb hby d12_58) hr
          · show Q12 Z p0 p1 h0 n0 _ s₁.heap _
            rw [e0]
            exact ⟨congrArg (fun q => some (Value.int q)) hv62.symm, N0, rfl⟩
      · have pre22 : ∀ t, Steps p.tables e below (s₁.setTop (mkF m 39 #[.val (.int p0), .val (.int p1), .val (.int (1 : Int32)), .val (.int (0 : Int32)), .val (.int (0 : Int32))] [(.int (2 : Int32)), (.int p0)])) t → Steps p.tables e below (s₁.setTop (entryFrame m #[(.int p0), (.int p1)] 5)) t := fun t kt => pre16 t (by
            show Steps p.tables e below (s₁.setTop (mkF m 27 #[.val (.int p0), .val (.int p1), .val (.int (1 : Int32)), .val (.int (0 : Int32)), .unset] [(.int (10 : Int32)), (.int p1)])) _
            refine XS.icmpYes X0.here hx rfl (pc0 := 27) (pc' := 34) rfl (hb hby d12_27) rfl (feq hc27_17).2 (by decide) (by decide) ?_
            show Steps p.tables e below (s₁.setTop (mkF m 34 #[.val (.int p0), .val (.int p1), .val (.int (1 : Int32)), .val (.int (0 : Int32)), .unset] [])) _
            refine XS.iconst X0.here hx rfl (hb hby d12_34) ?_
            show Steps p.tables e below (s₁.setTop (mkF m 35 #[.val (.int p0), .val (.int p1), .val (.int (1 : Int32)), .val (.int (0 : Int32)), .unset] [(.int (0 : Int32))])) _
            refine XS.istore X0.here hx rfl (hb hby d12_35) rfl (l' := #[.val (.int p0), .val (.int p1), .val (.int (1 : Int32)), .val (.int (0 : Int32)), .val (.int (0 : Int32))]) rfl ?_
            show Steps p.tables e below (s₁.setTop (mkF m 37 #[.val (.int p0), .val (.int p1), .val (.int (1 : Int32)), .val (.int (0 : Int32)), .val (.int (0 : Int32))] [])) _
            refine XS.iloadN X0.here hx rfl (hb hby d12_37) rfl ?_
            show Steps p.tables e below (s₁.setTop (mkF m 38 #[.val (.int p0), .val (.int p1), .val (.int (1 : Int32)), .val (.int (0 : Int32)), .val (.int (0 : Int32))] [(.int p0)])) _
            refine XS.iconst X0.here hx rfl (hb hby d12_38) ?_
            exact kt)
        by_cases hc39_23 : p0 = (2 : Int32)
        · have pre24 : ∀ t, Steps p.tables e below (s₁.setTop (mkF m 43 #[.val (.int p0), .val (.int p1), .val (.int (1 : Int32)), .val (.int (0 : Int32)), .val (.int (0 : Int32))] [(.int (1 : Int32))])) t → Steps p.tables e below (s₁.setTop (entryFrame m #[(.int p0), (.int p1)] 5)) t := fun t kt => pre22 t (by
              show Steps p.tables e below (s₁.setTop (mkF m 39 #[.val (.int p0), .val (.int p1), .val (.int (1 : Int32)), .val (.int (0 : Int32)), .val (.int (0 : Int32))] [(.int (2 : Int32)), (.int p0)])) _
              refine XS.icmpNo X0.here hx rfl (hb hby d12_39) rfl (teq hc39_23).2 ?_
              show Steps p.tables e below (s₁.setTop (mkF m 42 #[.val (.int p0), .val (.int p1), .val (.int (1 : Int32)), .val (.int (0 : Int32)), .val (.int (0 : Int32))] [])) _
              refine XS.iloadN X0.here hx rfl (hb hby d12_42) rfl ?_
              exact kt)
          obtain ⟨fs, hr, hrun, hended, hW, hsame⟩ := X0.leave (v := some (.int (3 : Int32))) (fun h => by rw [Bd.returns] at h; cases h)
          have hv63 : (f12 p0 p1) = (3 : Int32) := by rw [f12, if_pos hc3_2, if_neg hc15_4, if_neg hc27_17, if_pos hc39_23]
          refine ⟨_, _, pre24 _ ?_, hrun, hended, _, _, rfl, ?_, ⟨_, rfl⟩, hW, hsame.mono (by decide) (by decide)⟩
          · show Steps p.tables e below (s₁.setTop (mkF m 43 #[.val (.int p0), .val (.int p1), .val (.int (1 : Int32)), .val (.int (0 : Int32)), .val (.int (0 : Int32))] [(.int (1 : Int32))])) _
            refine XS.ifNo X0.here hx rfl (hb hby d12_43) rfl ((if0 _ _).trans (feq (by decide : ¬ ((1 : Int32) = (0 : Int32)))).1) ?_
            show Steps p.tables e below (s₁.setTop (mkF m 46 #[.val (.int p0), .val (.int p1), .val (.int (1 : Int32)), .val (.int (0 : Int32)), .val (.int (0 : Int32))] [])) _
            refine XS.iconst X0.here hx rfl (hb hby d12_46) ?_
            show Steps p.tables e below (s₁.setTop (mkF m 47 #[.val (.int p0), .val (.int p1), .val (.int (1 : Int32)), .val (.int (0 : Int32)), .val (.int (0 : Int32))] [(.int (3 : Int32))])) _
            refine XS.goto X0.here hx rfl (pc0 := 47) (pc' := 51) rfl (hb hby d12_47) (by decide) (by decide) ?_
            show Steps p.tables e below (s₁.setTop (mkF m 51 #[.val (.int p0), .val (.int p1), .val (.int (1 : Int32)), .val (.int (0 : Int32)), .val (.int (0 : Int32))] [(.int (3 : Int32))])) _
            exact retI X0 hx Bd.returns (hb hby d12_51) hr
          · show Q12 Z p0 p1 h0 n0 _ s₁.heap _
            rw [e0]
            exact ⟨congrArg (fun q => some (Value.int q)) hv63.symm, N0, rfl⟩
        · have pre25 : ∀ t, Steps p.tables e below (s₁.setTop (mkF m 54 #[.val (.int p0), .val (.int p1), .val (.int (1 : Int32)), .val (.int (0 : Int32)), .val (.int (0 : Int32))] [(.int (0 : Int32))])) t → Steps p.tables e below (s₁.setTop (entryFrame m #[(.int p0), (.int p1)] 5)) t := fun t kt => pre22 t (by
              show Steps p.tables e below (s₁.setTop (mkF m 39 #[.val (.int p0), .val (.int p1), .val (.int (1 : Int32)), .val (.int (0 : Int32)), .val (.int (0 : Int32))] [(.int (2 : Int32)), (.int p0)])) _
              refine XS.icmpYes X0.here hx rfl (pc0 := 39) (pc' := 52) rfl (hb hby d12_39) rfl (feq hc39_23).2 (by decide) (by decide) ?_
              show Steps p.tables e below (s₁.setTop (mkF m 52 #[.val (.int p0), .val (.int p1), .val (.int (1 : Int32)), .val (.int (0 : Int32)), .val (.int (0 : Int32))] [])) _
              refine XS.iload X0.here hx rfl (hb hby d12_52) rfl ?_
              exact kt)
          have pre26 : ∀ t, Steps p.tables e below (s₁.setTop (mkF m 60 #[.val (.int p0), .val (.int p1), .val (.int (1 : Int32)), .val (.int (0 : Int32)), .val (.int (0 : Int32))] [(.int (0 : Int32))])) t → Steps p.tables e below (s₁.setTop (entryFrame m #[(.int p0), (.int p1)] 5)) t := fun t kt => pre25 t (by
              show Steps p.tables e below (s₁.setTop (mkF m 54 #[.val (.int p0), .val (.int p1), .val (.int (1 : Int32)), .val (.int (0 : Int32)), .val (.int (0 : Int32))] [(.int (0 : Int32))])) _
              refine XS.ifYes X0.here hx rfl (pc0 := 54) (pc' := 59) rfl (hb hby d12_54) rfl ((if0 _ _).trans (teq (by decide : ((0 : Int32) = (0 : Int32)))).1) (by decide) (by decide) ?_
              show Steps p.tables e below (s₁.setTop (mkF m 59 #[.val (.int p0), .val (.int p1), .val (.int (1 : Int32)), .val (.int (0 : Int32)), .val (.int (0 : Int32))] [])) _
              refine XS.iloadN X0.here hx rfl (hb hby d12_59) rfl ?_
              exact kt)
          have pre27 : ∀ t, Steps p.tables e below (s₁.setTop (mkF m 66 #[.val (.int p0), .val (.int p1), .val (.int (1 : Int32)), .val (.int (0 : Int32)), .val (.int (0 : Int32))] [(.int (1 : Int32))])) t → Steps p.tables e below (s₁.setTop (entryFrame m #[(.int p0), (.int p1)] 5)) t := fun t kt => pre26 t (by
              show Steps p.tables e below (s₁.setTop (mkF m 60 #[.val (.int p0), .val (.int p1), .val (.int (1 : Int32)), .val (.int (0 : Int32)), .val (.int (0 : Int32))] [(.int (0 : Int32))])) _
              refine XS.ifYes X0.here hx rfl (pc0 := 60) (pc' := 65) rfl (hb hby d12_60) rfl ((if0 _ _).trans (teq (by decide : ((0 : Int32) = (0 : Int32)))).1) (by decide) (by decide) ?_
              show Steps p.tables e below (s₁.setTop (mkF m 65 #[.val (.int p0), .val (.int p1), .val (.int (1 : Int32)), .val (.int (0 : Int32)), .val (.int (0 : Int32))] [])) _
              refine XS.iloadN X0.here hx rfl (hb hby d12_65) rfl ?_
              exact kt)
          have pre28 : ∀ t, Steps p.tables e below (s₁.setTop (mkF m 70 #[.val (.int p0), .val (.int p1), .val (.int (1 : Int32)), .val (.int (0 : Int32)), .val (.int (0 : Int32))] [(.int p0)])) t → Steps p.tables e below (s₁.setTop (entryFrame m #[(.int p0), (.int p1)] 5)) t := fun t kt => pre27 t (by
              show Steps p.tables e below (s₁.setTop (mkF m 66 #[.val (.int p0), .val (.int p1), .val (.int (1 : Int32)), .val (.int (0 : Int32)), .val (.int (0 : Int32))] [(.int (1 : Int32))])) _
              refine XS.ifNo X0.here hx rfl (hb hby d12_66) rfl ((if0 _ _).trans (feq (by decide : ¬ ((1 : Int32) = (0 : Int32)))).1) ?_
              show Steps p.tables e below (s₁.setTop (mkF m 69 #[.val (.int p0), .val (.int p1), .val (.int (1 : Int32)), .val (.int (0 : Int32)), .val (.int (0 : Int32))] [])) _
              refine XS.iloadN X0.here hx rfl (hb hby d12_69) rfl ?_
              exact kt)
          by_cases hc70_29 : p0 = (0 : Int32)
          · obtain ⟨fs, hr, hrun, hended, hW, hsame⟩ := X0.leave (v := some (.int (2 : Int32))) (fun h => by rw [Bd.returns] at h; cases h)
            have hv64 : (f12 p0 p1) = (2 : Int32) := by rw [f12, if_pos hc3_2, if_neg hc15_4, if_neg hc27_17, if_neg hc39_23, if_pos hc70_29]
            refine ⟨_, _, pre28 _ ?_, hrun, hended, _, _, rfl, ?_, ⟨_, rfl⟩, hW, hsame.mono (by decide) (by decide)⟩
            · show Steps p.tables e below (s₁.setTop (mkF m 70 #[.val (.int p0), .val (.int p1), .val (.int (1 : Int32)), .val (.int (0 : Int32)), .val (.int (0 : Int32))] [(.int p0)])) _
              refine XS.ifYes X0.here hx rfl (pc0 := 70) (pc' := 78) rfl (hb hby d12_70) rfl ((if0 _ _).trans (teq hc70_29).1) (by decide) (by decide) ?_
              show Steps p.tables e below (s₁.setTop (mkF m 78 #[.val (.int p0), .val (.int p1), .val (.int (1 : Int32)), .val (.int (0 : Int32)), .val (.int (0 : Int32))] [])) _
              refine XS.iconst X0.here hx rfl (hb hby d12_78) ?_
              show Steps p.tables e below (s₁.setTop (mkF m 79 #[.val (.int p0), .val (.int p1), .val (.int (1 : Int32)), .val (.int (0 : Int32)), .val (.int (0 : Int32))] [(.int (2 : Int32))])) _
              exact retI X0 hx Bd.returns (hb hby d12_79) hr
            · show Q12 Z p0 p1 h0 n0 _ s₁.heap _
              rw [e0]
              exact ⟨congrArg (fun q => some (Value.int q)) hv64.symm, N0, rfl⟩
          · have pre30 : ∀ t, Steps p.tables e below (s₁.setTop (mkF m 75 #[.val (.int p0), .val (.int p1), .val (.int (1 : Int32)), .val (.int (0 : Int32)), .val (.int (0 : Int32))] [(.int (3 : Int32)), (.int p0)])) t → Steps p.tables e below (s₁.setTop (entryFrame m #[(.int p0), (.int p1)] 5)) t := fun t kt => pre28 t (by
                show Steps p.tables e below (s₁.setTop (mkF m 70 #[.val (.int p0), .val (.int p1), .val (.int (1 : Int32)), .val (.int (0 : Int32)), .val (.int (0 : Int32))] [(.int p0)])) _
                refine XS.ifNo X0.here hx rfl (hb hby d12_70) rfl ((if0 _ _).trans (feq hc70_29).1) ?_
                show Steps p.tables e below (s₁.setTop (mkF m 73 #[.val (.int p0), .val (.int p1), .val (.int (1 : Int32)), .val (.int (0 : Int32)), .val (.int (0 : Int32))] [])) _
                refine XS.iloadN X0.here hx rfl (hb hby d12_73) rfl ?_
                show Steps p.tables e below (s₁.setTop (mkF m 74 #[.val (.int p0), .val (.int p1), .val (.int (1 : Int32)), .val (.int (0 : Int32)), .val (.int (0 : Int32))] [(.int p0)])) _
                refine XS.iconst X0.here hx rfl (hb hby d12_74) ?_
                exact kt)
            by_cases hc75_31 : p0 = (3 : Int32)
            · obtain ⟨fs, hr, hrun, hended, hW, hsame⟩ := X0.leave (v := some (.int (2 : Int32))) (fun h => by rw [Bd.returns] at h; cases h)
              have hv65 : (f12 p0 p1) = (2 : Int32) := by rw [f12, if_pos hc3_2, if_neg hc15_4, if_neg hc27_17, if_neg hc39_23, if_neg hc70_29, if_pos hc75_31]
              refine ⟨_, _, pre30 _ ?_, hrun, hended, _, _, rfl, ?_, ⟨_, rfl⟩, hW, hsame.mono (by decide) (by decide)⟩
              · show Steps p.tables e below (s₁.setTop (mkF m 75 #[.val (.int p0), .val (.int p1), .val (.int (1 : Int32)), .val (.int (0 : Int32)), .val (.int (0 : Int32))] [(.int (3 : Int32)), (.int p0)])) _
                refine XS.icmpNo X0.here hx rfl (hb hby d12_75) rfl (teq hc75_31).2 ?_
                show Steps p.tables e below (s₁.setTop (mkF m 78 #[.val (.int p0), .val (.int p1), .val (.int (1 : Int32)), .val (.int (0 : Int32)), .val (.int (0 : Int32))] [])) _
                refine XS.iconst X0.here hx rfl (hb hby d12_78) ?_
                show Steps p.tables e below (s₁.setTop (mkF m 79 #[.val (.int p0), .val (.int p1), .val (.int (1 : Int32)), .val (.int (0 : Int32)), .val (.int (0 : Int32))] [(.int (2 : Int32))])) _
                exact retI X0 hx Bd.returns (hb hby d12_79) hr
              · show Q12 Z p0 p1 h0 n0 _ s₁.heap _
                rw [e0]
                exact ⟨congrArg (fun q => some (Value.int q)) hv65.symm, N0, rfl⟩
            · obtain ⟨fs, hr, hrun, hended, hW, hsame⟩ := X0.leave (v := some (.int (1 : Int32))) (fun h => by rw [Bd.returns] at h; cases h)
              have hv66 : (f12 p0 p1) = (1 : Int32) := by rw [f12, if_pos hc3_2, if_neg hc15_4, if_neg hc27_17, if_neg hc39_23, if_neg hc70_29, if_neg hc75_31]
              refine ⟨_, _, pre30 _ ?_, hrun, hended, _, _, rfl, ?_, ⟨_, rfl⟩, hW, hsame.mono (by decide) (by decide)⟩
              · show Steps p.tables e below (s₁.setTop (mkF m 75 #[.val (.int p0), .val (.int p1), .val (.int (1 : Int32)), .val (.int (0 : Int32)), .val (.int (0 : Int32))] [(.int (3 : Int32)), (.int p0)])) _
                refine XS.icmpYes X0.here hx rfl (pc0 := 75) (pc' := 80) rfl (hb hby d12_75) rfl (feq hc75_31).2 (by decide) (by decide) ?_
                show Steps p.tables e below (s₁.setTop (mkF m 80 #[.val (.int p0), .val (.int p1), .val (.int (1 : Int32)), .val (.int (0 : Int32)), .val (.int (0 : Int32))] [])) _
                refine XS.iconst X0.here hx rfl (hb hby d12_80) ?_
                show Steps p.tables e below (s₁.setTop (mkF m 81 #[.val (.int p0), .val (.int p1), .val (.int (1 : Int32)), .val (.int (0 : Int32)), .val (.int (0 : Int32))] [(.int (1 : Int32))])) _
                exact retI X0 hx Bd.returns (hb hby d12_81) hr
              · show Q12 Z p0 p1 h0 n0 _ s₁.heap _
                rw [e0]
                exact ⟨congrArg (fun q => some (Value.int q)) hv66.symm, N0, rfl⟩
  · have pre32 : ∀ t, Steps p.tables e below (s₁.setTop (mkF m 15 #[.val (.int p0), .val (.int p1), .val (.int (0 : Int32)), .unset, .unset] [(.int (44 : Int32)), (.int p1)])) t → Steps p.tables e below (s₁.setTop (entryFrame m #[(.int p0), (.int p1)] 5)) t := fun t kt => pre1 t (by
        show Steps p.tables e below (s₁.setTop (mkF m 3 #[.val (.int p0), .val (.int p1), .unset, .unset, .unset] [(.int (34 : Int32)), (.int p1)])) _
        refine XS.icmpYes X0.here hx rfl (pc0 := 3) (pc' := 10) rfl (hb hby d12_3) rfl (feq hc3_2).2 (by decide) (by decide) ?_
        show Steps p.tables e below (s₁.setTop (mkF m 10 #[.val (.int p0), .val (.int p1), .unset, .unset, .unset] [])) _
        refine XS.iconst X0.here hx rfl (hb hby d12_10) ?_
        show Steps p.tables e below (s₁.setTop (mkF m 11 #[.val (.int p0), .val (.int p1), .unset, .unset, .unset] [(.int (0 : Int32))])) _
        refine XS.istoreN X0.here hx rfl (hb hby d12_11) rfl (l' := #[.val (.int p0), .val (.int p1), .val (.int (0 : Int32)), .unset, .unset]) rfl ?_
        show Steps p.tables e below (s₁.setTop (mkF m 12 #[.val (.int p0), .val (.int p1), .val (.int (0 : Int32)), .unset, .unset] [])) _
        refine XS.iloadN X0.here hx rfl (hb hby d12_12) rfl ?_
        show Steps p.tables e below (s₁.setTop (mkF m 13 #[.val (.int p0), .val (.int p1), .val (.int (0 : Int32)), .unset, .unset] [(.int p1)])) _
        refine XS.bipush X0.here hx rfl (hb hby d12_13) ?_
        exact kt)
    by_cases hc15_33 : p1 = (44 : Int32)
    · have pre34 : ∀ t, Steps p.tables e below (s₁.setTop (mkF m 27 #[.val (.int p0), .val (.int p1), .val (.int (0 : Int32)), .val (.int (1 : Int32)), .unset] [(.int (10 : Int32)), (.int p1)])) t → Steps p.tables e below (s₁.setTop (entryFrame m #[(.int p0), (.int p1)] 5)) t := fun t kt => pre32 t (by
          show Steps p.tables e below (s₁.setTop (mkF m 15 #[.val (.int p0), .val (.int p1), .val (.int (0 : Int32)), .unset, .unset] [(.int (44 : Int32)), (.int p1)])) _
          refine XS.icmpNo X0.here hx rfl (hb hby d12_15) rfl (teq hc15_33).2 ?_
          show Steps p.tables e below (s₁.setTop (mkF m 18 #[.val (.int p0), .val (.int p1), .val (.int (0 : Int32)), .unset, .unset] [])) _
          refine XS.iconst X0.here hx rfl (hb hby d12_18) ?_
          show Steps p.tables e below (s₁.setTop (mkF m 19 #[.val (.int p0), .val (.int p1), .val (.int (0 : Int32)), .unset, .unset] [(.int (1 : Int32))])) _
          refine XS.goto X0.here hx rfl (pc0 := 19) (pc' := 23) rfl (hb hby d12_19) (by decide) (by decide) ?_
          show Steps p.tables e below (s₁.setTop (mkF m 23 #[.val (.int p0), .val (.int p1), .val (.int (0 : Int32)), .unset, .unset] [(.int (1 : Int32))])) _
          refine XS.istoreN X0.here hx rfl (hb hby d12_23) rfl (l' := #[.val (.int p0), .val (.int p1), .val (.int (0 : Int32)), .val (.int (1 : Int32)), .unset]) rfl ?_
          show Steps p.tables e below (s₁.setTop (mkF m 24 #[.val (.int p0), .val (.int p1), .val (.int (0 : Int32)), .val (.int (1 : Int32)), .unset] [])) _
          refine XS.iloadN X0.here hx rfl (hb hby d12_24) rfl ?_
          show Steps p.tables e below (s₁.setTop (mkF m 25 #[.val (.int p0), .val (.int p1), .val (.int (0 : Int32)), .val (.int (1 : Int32)), .unset] [(.int p1)])) _
          refine XS.bipush X0.here hx rfl (hb hby d12_25) ?_
          exact kt)
      by_cases hc27_35 : p1 = (10 : Int32)
      · have pre36 : ∀ t, Steps p.tables e below (s₁.setTop (mkF m 39 #[.val (.int p0), .val (.int p1), .val (.int (0 : Int32)), .val (.int (1 : Int32)), .val (.int (1 : Int32))] [(.int (2 : Int32)), (.int p0)])) t → Steps p.tables e below (s₁.setTop (entryFrame m #[(.int p0), (.int p1)] 5)) t := fun t kt => pre34 t (by
            show Steps p.tables e below (s₁.setTop (mkF m 27 #[.val (.int p0), .val (.int p1), .val (.int (0 : Int32)), .val (.int (1 : Int32)), .unset] [(.int (10 : Int32)), (.int p1)])) _
            refine XS.icmpNo X0.here hx rfl (hb hby d12_27) rfl (teq hc27_35).2 ?_
            show Steps p.tables e below (s₁.setTop (mkF m 30 #[.val (.int p0), .val (.int p1), .val (.int (0 : Int32)), .val (.int (1 : Int32)), .unset] [])) _
            refine XS.iconst X0.here hx rfl (hb hby d12_30) ?_
            show Steps p.tables e below (s₁.setTop (mkF m 31 #[.val (.int p0), .val (.int p1), .val (.int (0 : Int32)), .val (.int (1 : Int32)), .unset] [(.int (1 : Int32))])) _
            refine XS.goto X0.here hx rfl (pc0 := 31) (pc' := 35) rfl (hb hby d12_31) (by decide) (by decide) ?_
            show Steps p.tables e below (s₁.setTop (mkF m 35 #[.val (.int p0), .val (.int p1), .val (.int (0 : Int32)), .val (.int (1 : Int32)), .unset] [(.int (1 : Int32))])) _
            refine XS.istore X0.here hx rfl (hb hby d12_35) rfl (l' := #[.val (.int p0), .val (.int p1), .val (.int (0 : Int32)), .val (.int (1 : Int32)), .val (.int (1 : Int32))]) rfl ?_
            show Steps p.tables e below (s₁.setTop (mkF m 37 #[.val (.int p0), .val (.int p1), .val (.int (0 : Int32)), .val (.int (1 : Int32)), .val (.int (1 : Int32))] [])) _
            refine XS.iloadN X0.here hx rfl (hb hby d12_37) rfl ?_
            show Steps p.tables e below (s₁.setTop (mkF m 38 #[.val (.int p0), .val (.int p1), .val (.int (0 : Int32)), .val (.int (1 : Int32)), .val (.int (1 : Int32))] [(.int p0)])) _
            refine XS.iconst X0.here hx rfl (hb hby d12_38) ?_
            exact kt)
        by_cases hc39_37 : p0 = (2 : Int32)
        · have pre38 : ∀ t, Steps p.tables e below (s₁.setTop (mkF m 43 #[.val (.int p0), .val (.int p1), .val (.int (0 : Int32)), .val (.int (1 : Int32)), .val (.int (1 : Int32))] [(.int (0 : Int32))])) t → Steps p.tables e below (s₁.setTop (entryFrame m #[(.int p0), (.int p1)] 5)) t := fun t kt => pre36 t (by
              show Steps p.tables e below (s₁.setTop (mkF m 39 #[.val (.int p0), .val (.int p1), .val (.int (0 : Int32)), .val (.int (1 : Int32)), .val (.int (1 : Int32))] [(.int (2 : Int32)), (.int p0)])) _
              refine XS.icmpNo X0.here hx rfl (hb hby d12_39) rfl (teq hc39_37).2 ?_
              show Steps p.tables e below (s₁.setTop (mkF m 42 #[.val (.int p0), .val (.int p1), .val (.int (0 : Int32)), .val (.int (1 : Int32)), .val (.int (1 : Int32))] [])) _
              refine XS.iloadN X0.here hx rfl (hb hby d12_42) rfl ?_
              exact kt)
          obtain ⟨fs, hr, hrun, hended, hW, hsame⟩ := X0.leave (v := some (.int (2 : Int32))) (fun h => by rw [Bd.returns] at h; cases h)
          have hv67 : (f12 p0 p1) = (2 : Int32) := by rw [f12, if_neg hc3_2, if_pos hc15_33, if_pos hc27_35, if_pos hc39_37]
          refine ⟨_, _, pre38 _ ?_, hrun, hended, _, _, rfl, ?_, ⟨_, rfl⟩, hW, hsame.mono (by decide) (by decide)⟩
          · show Steps p.tables e below (s₁.setTop (mkF m 43 #[.val (.int p0), .val (.int p1), .val (.int (0 : Int32)), .val (.int (1 : Int32)), .val (.int (1 : Int32))] [(.int (0 : Int32))])) _
            refine XS.ifYes X0.here hx rfl (pc0 := 43) (pc' := 50) rfl (hb hby d12_43) rfl ((if0 _ _).trans (teq (by decide : ((0 : Int32) = (0 : Int32)))).1) (by decide) (by decide) ?_
            show Steps p.tables e below (s₁.setTop (mkF m 50 #[.val (.int p0), .val (.int p1), .val (.int (0 : Int32)), .val (.int (1 : Int32)), .val (.int (1 : Int32))] [])) _
            refine XS.iconst X0.here hx rfl (hb hby d12_50) ?_
            show Steps p.tables e below (s₁.setTop (mkF m 51 #[.val (.int p0), .val (.int p1), .val (.int (0 : Int32)), .val (.int (1 : Int32)), .val (.int (1 : Int32))] [(.int (2 : Int32))])) _
            exact retI X0 hx Bd.returns (hb hby d12_51) hr
          · show Q12 Z p0 p1 h0 n0 _ s₁.heap _
            rw [e0]
            exact ⟨congrArg (fun q => some (Value.int q)) hv67.symm, N0, rfl⟩
        · have pre39 : ∀ t, Steps p.tables e below (s₁.setTop (mkF m 54 #[.val (.int p0), .val (.int p1), .val (.int (0 : Int32)), .val (.int (1 : Int32)), .val (.int (1 : Int32))] [(.int (1 : Int32))])) t → Steps p.tables e below (s₁.setTop (entryFrame m #[(.int p0), (.int p1)] 5)) t := fun t kt => pre36 t (by
              show Steps p.tables e below (s₁.setTop (mkF m 39 #[.val (.int p0), .val (.int p1), .val (.int (0 : Int32)), .val (.int (1 : Int32)), .val (.int (1 : Int32))] [(.int (2 : Int32)), (.int p0)])) _
              refine XS.icmpYes X0.here hx rfl (pc0 := 39) (pc' := 52) rfl (hb hby d12_39) rfl (feq hc39_37).2 (by decide) (by decide) ?_
              show Steps p.tables e below (s₁.setTop (mkF m 52 #[.val (.int p0), .val (.int p1), .val (.int (0 : Int32)), .val (.int (1 : Int32)), .val (.int (1 : Int32))] [])) _
              refine XS.iload X0.here hx rfl (hb hby d12_52) rfl ?_
              exact kt)
          obtain ⟨fs, hr, hrun, hended, hW, hsame⟩ := X0.leave (v := some (.int (4 : Int32))) (fun h => by rw [Bd.returns] at h; cases h)
          have hv68 : (f12 p0 p1) = (4 : Int32) := by rw [f12, if_neg hc3_2, if_pos hc15_33, if_pos hc27_35, if_neg hc39_37]
          refine ⟨_, _, pre39 _ ?_, hrun, hended, _, _, rfl, ?_, ⟨_, rfl⟩, hW, hsame.mono (by decide) (by decide)⟩
          · show Steps p.tables e below (s₁.setTop (mkF m 54 #[.val (.int p0), .val (.int p1), .val (.int (0 : Int32)), .val (.int (1 : Int32)), .val (.int (1 : Int32))] [(.int (1 : Int32))])) _
            refine XS.ifNo X0.here hx rfl (hb hby d12_54) rfl ((if0 _ _).trans (feq (by decide : ¬ ((1 : Int32) = (0 : Int32)))).1) ?_
            show Steps p.tables e below (s₁.setTop (mkF m 57 #[.val (.int p0), .val (.int p1), .val (.int (0 : Int32)), .val (.int (1 : Int32)), .val (.int (1 : Int32))] [])) _
            refine XS.iconst X0.here hx rfl (hb hby d12_57) ?_
            show Steps p.tables e below (s₁.setTop (mkF m 58 #[.val (.int p0), .val (.int p1), .val (.int (0 : Int32)), .val (.int (1 : Int32)), .val (.int (1 : Int32))] [(.int (4 : Int32))])) _
            exact retI X0 hx Bd.returns (hb hby d12_58) hr
          · show Q12 Z p0 p1 h0 n0 _ s₁.heap _
            rw [e0]
            exact ⟨congrArg (fun q => some (Value.int q)) hv68.symm, N0, rfl⟩
      · have pre40 : ∀ t, Steps p.tables e below (s₁.setTop (mkF m 39 #[.val (.int p0), .val (.int p1), .val (.int (0 : Int32)), .val (.int (1 : Int32)), .val (.int (0 : Int32))] [(.int (2 : Int32)), (.int p0)])) t → Steps p.tables e below (s₁.setTop (entryFrame m #[(.int p0), (.int p1)] 5)) t := fun t kt => pre34 t (by
            show Steps p.tables e below (s₁.setTop (mkF m 27 #[.val (.int p0), .val (.int p1), .val (.int (0 : Int32)), .val (.int (1 : Int32)), .unset] [(.int (10 : Int32)), (.int p1)])) _
            refine XS.icmpYes X0.here hx rfl (pc0 := 27) (pc' := 34) rfl (hb hby d12_27) rfl (feq hc27_35).2 (by decide) (by decide) ?_
            show Steps p.tables e below (s₁.setTop (mkF m 34 #[.val (.int p0), .val (.int p1), .val (.int (0 : Int32)), .val (.int (1 : Int32)), .unset] [])) _
            refine XS.iconst X0.here hx rfl (hb hby d12_34) ?_
            show Steps p.tables e below (s₁.setTop (mkF m 35 #[.val (.int p0), .val (.int p1), .val (.int (0 : Int32)), .val (.int (1 : Int32)), .unset] [(.int (0 : Int32))])) _
            refine XS.istore X0.here hx rfl (hb hby d12_35) rfl (l' := #[.val (.int p0), .val (.int p1), .val (.int (0 : Int32)), .val (.int (1 : Int32)), .val (.int (0 : Int32))]) rfl ?_
            show Steps p.tables e below (s₁.setTop (mkF m 37 #[.val (.int p0), .val (.int p1), .val (.int (0 : Int32)), .val (.int (1 : Int32)), .val (.int (0 : Int32))] [])) _
            refine XS.iloadN X0.here hx rfl (hb hby d12_37) rfl ?_
            show Steps p.tables e below (s₁.setTop (mkF m 38 #[.val (.int p0), .val (.int p1), .val (.int (0 : Int32)), .val (.int (1 : Int32)), .val (.int (0 : Int32))] [(.int p0)])) _
            refine XS.iconst X0.here hx rfl (hb hby d12_38) ?_
            exact kt)
        by_cases hc39_41 : p0 = (2 : Int32)
        · have pre42 : ∀ t, Steps p.tables e below (s₁.setTop (mkF m 43 #[.val (.int p0), .val (.int p1), .val (.int (0 : Int32)), .val (.int (1 : Int32)), .val (.int (0 : Int32))] [(.int (0 : Int32))])) t → Steps p.tables e below (s₁.setTop (entryFrame m #[(.int p0), (.int p1)] 5)) t := fun t kt => pre40 t (by
              show Steps p.tables e below (s₁.setTop (mkF m 39 #[.val (.int p0), .val (.int p1), .val (.int (0 : Int32)), .val (.int (1 : Int32)), .val (.int (0 : Int32))] [(.int (2 : Int32)), (.int p0)])) _
              refine XS.icmpNo X0.here hx rfl (hb hby d12_39) rfl (teq hc39_41).2 ?_
              show Steps p.tables e below (s₁.setTop (mkF m 42 #[.val (.int p0), .val (.int p1), .val (.int (0 : Int32)), .val (.int (1 : Int32)), .val (.int (0 : Int32))] [])) _
              refine XS.iloadN X0.here hx rfl (hb hby d12_42) rfl ?_
              exact kt)
          obtain ⟨fs, hr, hrun, hended, hW, hsame⟩ := X0.leave (v := some (.int (2 : Int32))) (fun h => by rw [Bd.returns] at h; cases h)
          have hv69 : (f12 p0 p1) = (2 : Int32) := by rw [f12, if_neg hc3_2, if_pos hc15_33, if_neg hc27_35, if_pos hc39_41]
          refine ⟨_, _, pre42 _ ?_, hrun, hended, _, _, rfl, ?_, ⟨_, rfl⟩, hW, hsame.mono (by decide) (by decide)⟩
          · show Steps p.tables e below (s₁.setTop (mkF m 43 #[.val (.int p0), .val (.int p1), .val (.int (0 : Int32)), .val (.int (1 : Int32)), .val (.int (0 : Int32))] [(.int (0 : Int32))])) _
            refine XS.ifYes X0.here hx rfl (pc0 := 43) (pc' := 50) rfl (hb hby d12_43) rfl ((if0 _ _).trans (teq (by decide : ((0 : Int32) = (0 : Int32)))).1) (by decide) (by decide) ?_
            show Steps p.tables e below (s₁.setTop (mkF m 50 #[.val (.int p0), .val (.int p1), .val (.int (0 : Int32)), .val (.int (1 : Int32)), .val (.int (0 : Int32))] [])) _
            refine XS.iconst X0.here hx rfl (hb hby d12_50) ?_
            show Steps p.tables e below (s₁.setTop (mkF m 51 #[.val (.int p0), .val (.int p1), .val (.int (0 : Int32)), .val (.int (1 : Int32)), .val (.int (0 : Int32))] [(.int (2 : Int32))])) _
            exact retI X0 hx Bd.returns (hb hby d12_51) hr
          · show Q12 Z p0 p1 h0 n0 _ s₁.heap _
            rw [e0]
            exact ⟨congrArg (fun q => some (Value.int q)) hv69.symm, N0, rfl⟩
        · have pre43 : ∀ t, Steps p.tables e below (s₁.setTop (mkF m 54 #[.val (.int p0), .val (.int p1), .val (.int (0 : Int32)), .val (.int (1 : Int32)), .val (.int (0 : Int32))] [(.int (0 : Int32))])) t → Steps p.tables e below (s₁.setTop (entryFrame m #[(.int p0), (.int p1)] 5)) t := fun t kt => pre40 t (by
              show Steps p.tables e below (s₁.setTop (mkF m 39 #[.val (.int p0), .val (.int p1), .val (.int (0 : Int32)), .val (.int (1 : Int32)), .val (.int (0 : Int32))] [(.int (2 : Int32)), (.int p0)])) _
              refine XS.icmpYes X0.here hx rfl (pc0 := 39) (pc' := 52) rfl (hb hby d12_39) rfl (feq hc39_41).2 (by decide) (by decide) ?_
              show Steps p.tables e below (s₁.setTop (mkF m 52 #[.val (.int p0), .val (.int p1), .val (.int (0 : Int32)), .val (.int (1 : Int32)), .val (.int (0 : Int32))] [])) _
              refine XS.iload X0.here hx rfl (hb hby d12_52) rfl ?_
              exact kt)
          have pre44 : ∀ t, Steps p.tables e below (s₁.setTop (mkF m 60 #[.val (.int p0), .val (.int p1), .val (.int (0 : Int32)), .val (.int (1 : Int32)), .val (.int (0 : Int32))] [(.int (1 : Int32))])) t → Steps p.tables e below (s₁.setTop (entryFrame m #[(.int p0), (.int p1)] 5)) t := fun t kt => pre43 t (by
              show Steps p.tables e below (s₁.setTop (mkF m 54 #[.val (.int p0), .val (.int p1), .val (.int (0 : Int32)), .val (.int (1 : Int32)), .val (.int (0 : Int32))] [(.int (0 : Int32))])) _
              refine XS.ifYes X0.here hx rfl (pc0 := 54) (pc' := 59) rfl (hb hby d12_54) rfl ((if0 _ _).trans (teq (by decide : ((0 : Int32) = (0 : Int32)))).1) (by decide) (by decide) ?_
              show Steps p.tables e below (s₁.setTop (mkF m 59 #[.val (.int p0), .val (.int p1), .val (.int (0 : Int32)), .val (.int (1 : Int32)), .val (.int (0 : Int32))] [])) _
              refine XS.iloadN X0.here hx rfl (hb hby d12_59) rfl ?_
              exact kt)
          obtain ⟨fs, hr, hrun, hended, hW, hsame⟩ := X0.leave (v := some (.int (0 : Int32))) (fun h => by rw [Bd.returns] at h; cases h)
          have hv70 : (f12 p0 p1) = (0 : Int32) := by rw [f12, if_neg hc3_2, if_pos hc15_33, if_neg hc27_35, if_neg hc39_41]
          refine ⟨_, _, pre44 _ ?_, hrun, hended, _, _, rfl, ?_, ⟨_, rfl⟩, hW, hsame.mono (by decide) (by decide)⟩
          · show Steps p.tables e below (s₁.setTop (mkF m 60 #[.val (.int p0), .val (.int p1), .val (.int (0 : Int32)), .val (.int (1 : Int32)), .val (.int (0 : Int32))] [(.int (1 : Int32))])) _
            refine XS.ifNo X0.here hx rfl (hb hby d12_60) rfl ((if0 _ _).trans (feq (by decide : ¬ ((1 : Int32) = (0 : Int32)))).1) ?_
            show Steps p.tables e below (s₁.setTop (mkF m 63 #[.val (.int p0), .val (.int p1), .val (.int (0 : Int32)), .val (.int (1 : Int32)), .val (.int (0 : Int32))] [])) _
            refine XS.iconst X0.here hx rfl (hb hby d12_63) ?_
            show Steps p.tables e below (s₁.setTop (mkF m 64 #[.val (.int p0), .val (.int p1), .val (.int (0 : Int32)), .val (.int (1 : Int32)), .val (.int (0 : Int32))] [(.int (0 : Int32))])) _
            exact retI X0 hx Bd.returns (hb hby d12_64) hr
          · show Q12 Z p0 p1 h0 n0 _ s₁.heap _
            rw [e0]
            exact ⟨congrArg (fun q => some (Value.int q)) hv70.symm, N0, rfl⟩
    · have pre45 : ∀ t, Steps p.tables e below (s₁.setTop (mkF m 27 #[.val (.int p0), .val (.int p1), .val (.int (0 : Int32)), .val (.int (0 : Int32)), .unset] [(.int (10 : Int32)), (.int p1)])) t → Steps p.tables e below (s₁.setTop (entryFrame m #[(.int p0), (.int p1)] 5)) t := fun t kt => pre32 t (by
          show Steps p.tables e below (s₁.setTop (mkF m 15 #[.val (.int p0), .val (.int p1), .val (.int (0 : Int32)), .unset, .unset] [(.int (44 : Int32)), (.int p1)])) _
          refine XS.icmpYes X0.here hx rfl (pc0 := 15) (pc' := 22) rfl (hb hby d12_15) rfl (feq hc15_33).2 (by decide) (by decide) ?_
          show Steps p.tables e below (s₁.setTop (mkF m 22 #[.val (.int p0), .val (.int p1), .val (.int (0 : Int32)), .unset, .unset] [])) _
          refine XS.iconst X0.here hx rfl (hb hby d12_22) ?_
          show Steps p.tables e below (s₁.setTop (mkF m 23 #[.val (.int p0), .val (.int p1), .val (.int (0 : Int32)), .unset, .unset] [(.int (0 : Int32))])) _
          refine XS.istoreN X0.here hx rfl (hb hby d12_23) rfl (l' := #[.val (.int p0), .val (.int p1), .val (.int (0 : Int32)), .val (.int (0 : Int32)), .unset]) rfl ?_
          show Steps p.tables e below (s₁.setTop (mkF m 24 #[.val (.int p0), .val (.int p1), .val (.int (0 : Int32)), .val (.int (0 : Int32)), .unset] [])) _
          refine XS.iloadN X0.here hx rfl (hb hby d12_24) rfl ?_
          show Steps p.tables e below (s₁.setTop (mkF m 25 #[.val (.int p0), .val (.int p1), .val (.int (0 : Int32)), .val (.int (0 : Int32)), .unset] [(.int p1)])) _
          refine XS.bipush X0.here hx rfl (hb hby d12_25) ?_
          exact kt)
      by_cases hc27_46 : p1 = (10 : Int32)
      · have pre47 : ∀ t, Steps p.tables e below (s₁.setTop (mkF m 39 #[.val (.int p0), .val (.int p1), .val (.int (0 : Int32)), .val (.int (0 : Int32)), .val (.int (1 : Int32))] [(.int (2 : Int32)), (.int p0)])) t → Steps p.tables e below (s₁.setTop (entryFrame m #[(.int p0), (.int p1)] 5)) t := fun t kt => pre45 t (by
            show Steps p.tables e below (s₁.setTop (mkF m 27 #[.val (.int p0), .val (.int p1), .val (.int (0 : Int32)), .val (.int (0 : Int32)), .unset] [(.int (10 : Int32)), (.int p1)])) _
            refine XS.icmpNo X0.here hx rfl (hb hby d12_27) rfl (teq hc27_46).2 ?_
            show Steps p.tables e below (s₁.setTop (mkF m 30 #[.val (.int p0), .val (.int p1), .val (.int (0 : Int32)), .val (.int (0 : Int32)), .unset] [])) _
            refine XS.iconst X0.here hx rfl (hb hby d12_30) ?_
            show Steps p.tables e below (s₁.setTop (mkF m 31 #[.val (.int p0), .val (.int p1), .val (.int (0 : Int32)), .val (.int (0 : Int32)), .unset] [(.int (1 : Int32))])) _
            refine XS.goto X0.here hx rfl (pc0 := 31) (pc' := 35) rfl (hb hby d12_31) (by decide) (by decide) ?_
            show Steps p.tables e below (s₁.setTop (mkF m 35 #[.val (.int p0), .val (.int p1), .val (.int (0 : Int32)), .val (.int (0 : Int32)), .unset] [(.int (1 : Int32))])) _
            refine XS.istore X0.here hx rfl (hb hby d12_35) rfl (l' := #[.val (.int p0), .val (.int p1), .val (.int (0 : Int32)), .val (.int (0 : Int32)), .val (.int (1 : Int32))]) rfl ?_
            show Steps p.tables e below (s₁.setTop (mkF m 37 #[.val (.int p0), .val (.int p1), .val (.int (0 : Int32)), .val (.int (0 : Int32)), .val (.int (1 : Int32))] [])) _
            refine XS.iloadN X0.here hx rfl (hb hby d12_37) rfl ?_
            show Steps p.tables e below (s₁.setTop (mkF m 38 #[.val (.int p0), .val (.int p1), .val (.int (0 : Int32)), .val (.int (0 : Int32)), .val (.int (1 : Int32))] [(.int p0)])) _
            refine XS.iconst X0.here hx rfl (hb hby d12_38) ?_
            exact kt)
        by_cases hc39_48 : p0 = (2 : Int32)
        · have pre49 : ∀ t, Steps p.tables e below (s₁.setTop (mkF m 43 #[.val (.int p0), .val (.int p1), .val (.int (0 : Int32)), .val (.int (0 : Int32)), .val (.int (1 : Int32))] [(.int (0 : Int32))])) t → Steps p.tables e below (s₁.setTop (entryFrame m #[(.int p0), (.int p1)] 5)) t := fun t kt => pre47 t (by
              show Steps p.tables e below (s₁.setTop (mkF m 39 #[.val (.int p0), .val (.int p1), .val (.int (0 : Int32)), .val (.int (0 : Int32)), .val (.int (1 : Int32))] [(.int (2 : Int32)), (.int p0)])) _
              refine XS.icmpNo X0.here hx rfl (hb hby d12_39) rfl (teq hc39_48).2 ?_
              show Steps p.tables e below (s₁.setTop (mkF m 42 #[.val (.int p0), .val (.int p1), .val (.int (0 : Int32)), .val (.int (0 : Int32)), .val (.int (1 : Int32))] [])) _
              refine XS.iloadN X0.here hx rfl (hb hby d12_42) rfl ?_
              exact kt)
          obtain ⟨fs, hr, hrun, hended, hW, hsame⟩ := X0.leave (v := some (.int (2 : Int32))) (fun h => by rw [Bd.returns] at h; cases h)
          have hv71 : (f12 p0 p1) = (2 : Int32) := by rw [f12, if_neg hc3_2, if_neg hc15_33, if_pos hc27_46, if_pos hc39_48]
          refine ⟨_, _, pre49 _ ?_, hrun, hended, _, _, rfl, ?_, ⟨_, rfl⟩, hW, hsame.mono (by decide) (by decide)⟩
          · show Steps p.tables e below (s₁.setTop (mkF m 43 #[.val (.int p0), .val (.int p1), .val (.int (0 : Int32)), .val (.int (0 : Int32)), .val (.int (1 : Int32))] [(.int (0 : Int32))])) _
            refine XS.ifYes X0.here hx rfl (pc0 := 43) (pc' := 50) rfl (hb hby d12_43) rfl ((if0 _ _).trans (teq (by decide : ((0 : Int32) = (0 : Int32)))).1) (by decide) (by decide) ?_
            show Steps p.tables e below (s₁.setTop (mkF m 50 #[.val (.int p0), .val (.int p1), .val (.int (0 : Int32)), .val (.int (0 : Int32)), .val (.int (1 : Int32))] [])) _
            refine XS.iconst X0.here hx rfl (hb hby d12_50) ?_
            show Steps p.tables e below (s₁.setTop (mkF m 51 #[.val (.int p0), .val (.int p1), .val (.int (0 : Int32)), .val (.int (0 : Int32)), .val (.int (1 : Int32))] [(.int (2 : Int32))])) _
            exact retI X0 hx Bd.returns (hb hby d12_51) hr
          · show Q12 Z p0 p1 h0 n0 _ s₁.heap _
            rw [e0]
            exact ⟨congrArg (fun q => some (Value.int q)) hv71.symm, N0, rfl⟩
        · have pre50 : ∀ t, Steps p.tables e below (s₁.setTop (mkF m 54 #[.val (.int p0), .val (.int p1), .val (.int (0 : Int32)), .val (.int (0 : Int32)), .val (.int (1 : Int32))] [(.int (1 : Int32))])) t → Steps p.tables e below (s₁.setTop (entryFrame m #[(.int p0), (.int p1)] 5)) t := fun t kt => pre47 t (by
              show Steps p.tables e below (s₁.setTop (mkF m 39 #[.val (.int p0), .val (.int p1), .val (.int (0 : Int32)), .val (.int (0 : Int32)), .val (.int (1 : Int32))] [(.int (2 : Int32)), (.int p0)])) _
              refine XS.icmpYes X0.here hx rfl (pc0 := 39) (pc' := 52) rfl (hb hby d12_39) rfl (feq hc39_48).2 (by decide) (by decide) ?_
              show Steps p.tables e below (s₁.setTop (mkF m 52 #[.val (.int p0), .val (.int p1), .val (.int (0 : Int32)), .val (.int (0 : Int32)), .val (.int (1 : Int32))] [])) _
              refine XS.iload X0.here hx rfl (hb hby d12_52) rfl ?_
              exact kt)
          obtain ⟨fs, hr, hrun, hended, hW, hsame⟩ := X0.leave (v := some (.int (4 : Int32))) (fun h => by rw [Bd.returns] at h; cases h)
          have hv72 : (f12 p0 p1) = (4 : Int32) := by rw [f12, if_neg hc3_2, if_neg hc15_33, if_pos hc27_46, if_neg hc39_48]
          refine ⟨_, _, pre50 _ ?_, hrun, hended, _, _, rfl, ?_, ⟨_, rfl⟩, hW, hsame.mono (by decide) (by decide)⟩
          · show Steps p.tables e below (s₁.setTop (mkF m 54 #[.val (.int p0), .val (.int p1), .val (.int (0 : Int32)), .val (.int (0 : Int32)), .val (.int (1 : Int32))] [(.int (1 : Int32))])) _
            refine XS.ifNo X0.here hx rfl (hb hby d12_54) rfl ((if0 _ _).trans (feq (by decide : ¬ ((1 : Int32) = (0 : Int32)))).1) ?_
            show Steps p.tables e below (s₁.setTop (mkF m 57 #[.val (.int p0), .val (.int p1), .val (.int (0 : Int32)), .val (.int (0 : Int32)), .val (.int (1 : Int32))] [])) _
            refine XS.iconst X0.here hx rfl (hb hby d12_57) ?_
            show Steps p.tables e below (s₁.setTop (mkF m 58 #[.val (.int p0), .val (.int p1), .val (.int (0 : Int32)), .val (.int (0 : Int32)), .val (.int (1 : Int32))] [(.int (4 : Int32))])) _
            exact retI X0 hx Bd.returns (hb hby d12_58) hr
          · show Q12 Z p0 p1 h0 n0 _ s₁.heap _
            rw [e0]
            exact ⟨congrArg (fun q => some (Value.int q)) hv72.symm, N0, rfl⟩
      · have pre51 : ∀ t, Steps p.tables e below (s₁.setTop (mkF m 39 #[.val (.int p0), .val (.int p1), .val (.int (0 : Int32)), .val (.int (0 : Int32)), .val (.int (0 : Int32))] [(.int (2 : Int32)), (.int p0)])) t → Steps p.tables e below (s₁.setTop (entryFrame m #[(.int p0), (.int p1)] 5)) t := fun t kt => pre45 t (by
            show Steps p.tables e below (s₁.setTop (mkF m 27 #[.val (.int p0), .val (.int p1), .val (.int (0 : Int32)), .val (.int (0 : Int32)), .unset] [(.int (10 : Int32)), (.int p1)])) _
            refine XS.icmpYes X0.here hx rfl (pc0 := 27) (pc' := 34) rfl (hb hby d12_27) rfl (feq hc27_46).2 (by decide) (by decide) ?_
            show Steps p.tables e below (s₁.setTop (mkF m 34 #[.val (.int p0), .val (.int p1), .val (.int (0 : Int32)), .val (.int (0 : Int32)), .unset] [])) _
            refine XS.iconst X0.here hx rfl (hb hby d12_34) ?_
            show Steps p.tables e below (s₁.setTop (mkF m 35 #[.val (.int p0), .val (.int p1), .val (.int (0 : Int32)), .val (.int (0 : Int32)), .unset] [(.int (0 : Int32))])) _
            refine XS.istore X0.here hx rfl (hb hby d12_35) rfl (l' := #[.val (.int p0), .val (.int p1), .val (.int (0 : Int32)), .val (.int (0 : Int32)), .val (.int (0 : Int32))]) rfl ?_
            show Steps p.tables e below (s₁.setTop (mkF m 37 #[.val (.int p0), .val (.int p1), .val (.int (0 : Int32)), .val (.int (0 : Int32)), .val (.int (0 : Int32))] [])) _
            refine XS.iloadN X0.here hx rfl (hb hby d12_37) rfl ?_
            show Steps p.tables e below (s₁.setTop (mkF m 38 #[.val (.int p0), .val (.int p1), .val (.int (0 : Int32)), .val (.int (0 : Int32)), .val (.int (0 : Int32))] [(.int p0)])) _
            refine XS.iconst X0.here hx rfl (hb hby d12_38) ?_
            exact kt)
        by_cases hc39_52 : p0 = (2 : Int32)
        · have pre53 : ∀ t, Steps p.tables e below (s₁.setTop (mkF m 43 #[.val (.int p0), .val (.int p1), .val (.int (0 : Int32)), .val (.int (0 : Int32)), .val (.int (0 : Int32))] [(.int (0 : Int32))])) t → Steps p.tables e below (s₁.setTop (entryFrame m #[(.int p0), (.int p1)] 5)) t := fun t kt => pre51 t (by
              show Steps p.tables e below (s₁.setTop (mkF m 39 #[.val (.int p0), .val (.int p1), .val (.int (0 : Int32)), .val (.int (0 : Int32)), .val (.int (0 : Int32))] [(.int (2 : Int32)), (.int p0)])) _
              refine XS.icmpNo X0.here hx rfl (hb hby d12_39) rfl (teq hc39_52).2 ?_
              show Steps p.tables e below (s₁.setTop (mkF m 42 #[.val (.int p0), .val (.int p1), .val (.int (0 : Int32)), .val (.int (0 : Int32)), .val (.int (0 : Int32))] [])) _
              refine XS.iloadN X0.here hx rfl (hb hby d12_42) rfl ?_
              exact kt)
          obtain ⟨fs, hr, hrun, hended, hW, hsame⟩ := X0.leave (v := some (.int (2 : Int32))) (fun h => by rw [Bd.returns] at h; cases h)
          have hv73 : (f12 p0 p1) = (2 : Int32) := by rw [f12, if_neg hc3_2, if_neg hc15_33, if_neg hc27_46, if_pos hc39_52]
          refine ⟨_, _, pre53 _ ?_, hrun, hended, _, _, rfl, ?_, ⟨_, rfl⟩, hW, hsame.mono (by decide) (by decide)⟩
          · show Steps p.tables e below (s₁.setTop (mkF m 43 #[.val (.int p0), .val (.int p1), .val (.int (0 : Int32)), .val (.int (0 : Int32)), .val (.int (0 : Int32))] [(.int (0 : Int32))])) _
            refine XS.ifYes X0.here hx rfl (pc0 := 43) (pc' := 50) rfl (hb hby d12_43) rfl ((if0 _ _).trans (teq (by decide : ((0 : Int32) = (0 : Int32)))).1) (by decide) (by decide) ?_
            show Steps p.tables e below (s₁.setTop (mkF m 50 #[.val (.int p0), .val (.int p1), .val (.int (0 : Int32)), .val (.int (0 : Int32)), .val (.int (0 : Int32))] [])) _
            refine XS.iconst X0.here hx rfl (hb hby d12_50) ?_
            show Steps p.tables e below (s₁.setTop (mkF m 51 #[.val (.int p0), .val (.int p1), .val (.int (0 : Int32)), .val (.int (0 : Int32)), .val (.int (0 : Int32))] [(.int (2 : Int32))])) _
            exact retI X0 hx Bd.returns (hb hby d12_51) hr
          · show Q12 Z p0 p1 h0 n0 _ s₁.heap _
            rw [e0]
            exact ⟨congrArg (fun q => some (Value.int q)) hv73.symm, N0, rfl⟩
        · have pre54 : ∀ t, Steps p.tables e below (s₁.setTop (mkF m 54 #[.val (.int p0), .val (.int p1), .val (.int (0 : Int32)), .val (.int (0 : Int32)), .val (.int (0 : Int32))] [(.int (0 : Int32))])) t → Steps p.tables e below (s₁.setTop (entryFrame m #[(.int p0), (.int p1)] 5)) t := fun t kt => pre51 t (by
              show Steps p.tables e below (s₁.setTop (mkF m 39 #[.val (.int p0), .val (.int p1), .val (.int (0 : Int32)), .val (.int (0 : Int32)), .val (.int (0 : Int32))] [(.int (2 : Int32)), (.int p0)])) _
              refine XS.icmpYes X0.here hx rfl (pc0 := 39) (pc' := 52) rfl (hb hby d12_39) rfl (feq hc39_52).2 (by decide) (by decide) ?_
              show Steps p.tables e below (s₁.setTop (mkF m 52 #[.val (.int p0), .val (.int p1), .val (.int (0 : Int32)), .val (.int (0 : Int32)), .val (.int (0 : Int32))] [])) _
              refine XS.iload X0.here hx rfl (hb hby d12_52) rfl ?_
              exact kt)
          have pre55 : ∀ t, Steps p.tables e below (s₁.setTop (mkF m 60 #[.val (.int p0), .val (.int p1), .val (.int (0 : Int32)), .val (.int (0 : Int32)), .val (.int (0 : Int32))] [(.int (0 : Int32))])) t → Steps p.tables e below (s₁.setTop (entryFrame m #[(.int p0), (.int p1)] 5)) t := fun t kt => pre54 t (by
              show Steps p.tables e below (s₁.setTop (mkF m 54 #[.val (.int p0), .val (.int p1), .val (.int (0 : Int32)), .val (.int (0 : Int32)), .val (.int (0 : Int32))] [(.int (0 : Int32))])) _
              refine XS.ifYes X0.here hx rfl (pc0 := 54) (pc' := 59) rfl (hb hby d12_54) rfl ((if0 _ _).trans (teq (by decide : ((0 : Int32) = (0 : Int32)))).1) (by decide) (by decide) ?_
              show Steps p.tables e below (s₁.setTop (mkF m 59 #[.val (.int p0), .val (.int p1), .val (.int (0 : Int32)), .val (.int (0 : Int32)), .val (.int (0 : Int32))] [])) _
              refine XS.iloadN X0.here hx rfl (hb hby d12_59) rfl ?_
              exact kt)
          have pre56 : ∀ t, Steps p.tables e below (s₁.setTop (mkF m 66 #[.val (.int p0), .val (.int p1), .val (.int (0 : Int32)), .val (.int (0 : Int32)), .val (.int (0 : Int32))] [(.int (0 : Int32))])) t → Steps p.tables e below (s₁.setTop (entryFrame m #[(.int p0), (.int p1)] 5)) t := fun t kt => pre55 t (by
              show Steps p.tables e below (s₁.setTop (mkF m 60 #[.val (.int p0), .val (.int p1), .val (.int (0 : Int32)), .val (.int (0 : Int32)), .val (.int (0 : Int32))] [(.int (0 : Int32))])) _
              refine XS.ifYes X0.here hx rfl (pc0 := 60) (pc' := 65) rfl (hb hby d12_60) rfl ((if0 _ _).trans (teq (by decide : ((0 : Int32) = (0 : Int32)))).1) (by decide) (by decide) ?_
              show Steps p.tables e below (s₁.setTop (mkF m 65 #[.val (.int p0), .val (.int p1), .val (.int (0 : Int32)), .val (.int (0 : Int32)), .val (.int (0 : Int32))] [])) _
              refine XS.iloadN X0.here hx rfl (hb hby d12_65) rfl ?_
              exact kt)
          obtain ⟨fs, hr, hrun, hended, hW, hsame⟩ := X0.leave (v := some (.int (1 : Int32))) (fun h => by rw [Bd.returns] at h; cases h)
          have hv74 : (f12 p0 p1) = (1 : Int32) := by rw [f12, if_neg hc3_2, if_neg hc15_33, if_neg hc27_46, if_neg hc39_52]
          refine ⟨_, _, pre56 _ ?_, hrun, hended, _, _, rfl, ?_, ⟨_, rfl⟩, hW, hsame.mono (by decide) (by decide)⟩
          · show Steps p.tables e below (s₁.setTop (mkF m 66 #[.val (.int p0), .val (.int p1), .val (.int (0 : Int32)), .val (.int (0 : Int32)), .val (.int (0 : Int32))] [(.int (0 : Int32))])) _
            refine XS.ifYes X0.here hx rfl (pc0 := 66) (pc' := 82) rfl (hb hby d12_66) rfl ((if0 _ _).trans (teq (by decide : ((0 : Int32) = (0 : Int32)))).1) (by decide) (by decide) ?_
            show Steps p.tables e below (s₁.setTop (mkF m 82 #[.val (.int p0), .val (.int p1), .val (.int (0 : Int32)), .val (.int (0 : Int32)), .val (.int (0 : Int32))] [])) _
            refine XS.iconst X0.here hx rfl (hb hby d12_82) ?_
            show Steps p.tables e below (s₁.setTop (mkF m 83 #[.val (.int p0), .val (.int p1), .val (.int (0 : Int32)), .val (.int (0 : Int32)), .val (.int (0 : Int32))] [(.int (1 : Int32))])) _
            exact retI X0 hx Bd.returns (hb hby d12_83) hr
          · show Q12 Z p0 p1 h0 n0 _ s₁.heap _
            rw [e0]
            exact ⟨congrArg (fun q => some (Value.int q)) hv74.symm, N0, rfl⟩
theorem pn_0 : plainName "com/example/cistern/cistern/io/CsvReaderInRecordPinLaw" = true := by first | (simp [plainName, overriddenIn]; done) | decide +kernel
theorem pd_0_0 : parseMethodDescriptor "(I)B" = some ⟨[.int], some .byte⟩ := by decide +kernel
theorem pd_0_1 : parseMethodDescriptor "()V" = some ⟨[], none⟩ := by decide +kernel
theorem pd_0_2 : parseMethodDescriptor "(Ljava/io/InputStream;)V" = some ⟨[(.object "java/io/InputStream")], none⟩ := by decide +kernel
theorem pd_0_3 : parseMethodDescriptor "(J)J" = some ⟨[.long], some .long⟩ := by decide +kernel
theorem pd_0_4 : parseMethodDescriptor "()Z" = some ⟨[], some .boolean⟩ := by decide +kernel
theorem pd_0_5 : parseMethodDescriptor "(IB)I" = some ⟨[.int, .byte], some .int⟩ := by decide +kernel
theorem ef_0 (m : MethodId) (x0 : Int32) (x1 : Int32) (x2 : Int32) (x3 : Int32) (x4 : Int32) : entryFrame m #[(.int x0), (.int x1), (.int x2), (.int x3), (.int x4)] maxLocals = mkF m 0 #[.val (.int x0), .val (.int x1), .val (.int x2), .val (.int x3), .val (.int x4), .unset, .unset, .unset, .unset, .unset, .unset, .unset, .unset, .unset, .unset, .unset, .unset, .unset, .unset, .unset] [] := by first | (simp [entryFrame, mkF, argsToLocals, Value.category, maxLocals]; done) | rfl
def e0_1 (p0 : Int32) (p1 : Int32) (p2 : Int32) (p3 : Int32) (p4 : Int32) : Int32 := (f11 (f7_h__quoted (((1 : Int32) + (p4 &&& (3 : Int32))).toInt64) (own_upd (own_upd (own_upd (own_upd (own_upd (fun _ => 0) 0 (10 : Int32)) 1 (nar .byte (f1 p0))) 2 (nar .byte (f1 p1))) 3 (nar .byte (f1 p2))) 4 (nar .byte (f1 p3)))) (f7_h__start (((1 : Int32) + (p4 &&& (3 : Int32))).toInt64) (own_upd (own_upd (own_upd (own_upd (own_upd (fun _ => 0) 0 (10 : Int32)) 1 (nar .byte (f1 p0))) 2 (nar .byte (f1 p1))) 3 (nar .byte (f1 p2))) 4 (nar .byte (f1 p3)))) (own_upd (own_upd (own_upd (own_upd (own_upd (fun _ => 0) 0 (10 : Int32)) 1 (nar .byte (f1 p0))) 2 (nar .byte (f1 p1))) 3 (nar .byte (f1 p2))) 4 (nar .byte (f1 p3))))
def e0_2 (p0 : Int32) (p1 : Int32) : Int32 := (((f12 (0 : Int32) (f1 p0)) >>> ((2 : Int32) &&& 31)) + ((f12 ((f12 (0 : Int32) (f1 p0)) &&& (3 : Int32)) (f1 p1)) >>> ((2 : Int32) &&& 31)))
def e0_3 (p0 : Int32) (p1 : Int32) (p2 : Int32) : Int32 := (f12 ((f12 ((f12 (0 : Int32) (f1 p0)) &&& (3 : Int32)) (f1 p1)) &&& (3 : Int32)) (f1 p2))
def e0_4 (p0 : Int32) (p1 : Int32) (p2 : Int32) (p3 : Int32) : Int32 := (((e0_2 p0 p1) + ((e0_3 p0 p1 p2) >>> ((2 : Int32) &&& 31))) + ((f12 ((e0_3 p0 p1 p2) &&& (3 : Int32)) (f1 p3)) >>> ((2 : Int32) &&& 31)))
def j0_179_S0 (p0 : Int32) (p1 : Int32) (p2 : Int32) (p3 : Int32) (p4 : Int32) : Int32 :=
  if (lcmpW ((e0_4 p0 p1 p2 p3).toInt64) (((1 : Int32) + (p4 &&& (3 : Int32))).toInt64)) < (0 : Int32) then (if ((f12 ((e0_3 p0 p1 p2) &&& (3 : Int32)) (f1 p3)) &&& (4 : Int32)) = (0 : Int32) then ((0 : Int32)) else
  ((1 : Int32))) else
  ((1 : Int32))
def j0_202_S0 (p0 : Int32) (p1 : Int32) (p2 : Int32) (p3 : Int32) (p4 : Int32) : Int32 :=
  if (j0_179_S0 p0 p1 p2 p3 p4) = (0 : Int32) then ((1 : Int32)) else
  ((0 : Int32))
theorem own_sb (w : Int64) (F : Nat → Int32) : ¬ (f7_h__start w F - (1 : Int32)) < 0 ∧ (f7_h__start w F - (1 : Int32)) < (65537 : Int32) := by
  unfold f7_h__start
  repeat' split
  all_goals decide
def own_cl (x : Int32) : Int32 := if x = (34 : Int32) then 34 else if x = (44 : Int32) then 44 else if x = (10 : Int32) then 10 else 0
theorem own_c34 (x : Int32) : (own_cl x = (34 : Int32)) = (x = (34 : Int32)) := by
  unfold own_cl
  by_cases a : x = (34 : Int32)
  · simp [a]
  · by_cases b : x = (44 : Int32)
    · subst b; simp
    · by_cases c : x = (10 : Int32)
      · subst c; simp
      · simp [a, b, c]
theorem own_c44 (x : Int32) : (own_cl x = (44 : Int32)) = (x = (44 : Int32)) := by
  unfold own_cl
  by_cases a : x = (34 : Int32)
  · subst a; simp
  · by_cases b : x = (44 : Int32)
    · subst b; simp
    · by_cases c : x = (10 : Int32)
      · subst c; simp
      · simp [a, b, c]
theorem own_c10 (x : Int32) : (own_cl x = (10 : Int32)) = (x = (10 : Int32)) := by
  unfold own_cl
  by_cases a : x = (34 : Int32)
  · subst a; simp
  · by_cases b : x = (44 : Int32)
    · subst b; simp
    · by_cases c : x = (10 : Int32)
      · subst c; simp
      · simp [a, b, c]
theorem own_f12 (s x : Int32) : f12 s (own_cl x) = f12 s x := by
  unfold f12
  simp only [own_c34, own_c44, own_c10]
theorem own_f10 (x c : Int32) : f10 (own_cl x) c = f10 x c := by
  unfold f10
  simp only [own_c34, own_c44, own_c10]
theorem own_f9 (p q : Int32) (F : Nat → Int32) : f9 p q (fun i => own_cl (F i)) = f9 p q F := by
  unfold f9
  simp only [own_c10]
theorem own_f9q (p q c : Int32) (F : Nat → Int32) : f9_h__quoted p q c (fun i => own_cl (F i)) = f9_h__quoted p q c F := by
  unfold f9_h__quoted
  simp only [own_c10, own_f10]
theorem own_f9c (p q c : Int32) (F : Nat → Int32) : f9_h__closed p q c (fun i => own_cl (F i)) = f9_h__closed p q c F := by
  unfold f9_h__closed
  simp only [own_c10]
theorem own_q1 (F : Nat → Int32) : hj7_259__quoted (fun i => own_cl (F i)) = hj7_259__quoted F := by
  unfold hj7_259__quoted
  simp only [own_c34, own_c10, own_f9, own_f9q]
theorem own_k1 (F : Nat → Int32) : hj7_259__closed (fun i => own_cl (F i)) = hj7_259__closed F := by
  unfold hj7_259__closed
  simp only [own_c34, own_c10, own_f9, own_f9c]
theorem own_n1 (F : Nat → Int32) : hj7_259_L3 (fun i => own_cl (F i)) = hj7_259_L3 F := by
  unfold hj7_259_L3
  simp only [own_c34, own_c10, own_f9]
theorem own_q2 (F : Nat → Int32) : hj7_259__quoted' (fun i => own_cl (F i)) = hj7_259__quoted' F := by
  unfold hj7_259__quoted'
  simp only [own_c34, own_c10, own_f9, own_f9q, own_q1, own_k1]
theorem own_k2 (F : Nat → Int32) : hj7_259__closed' (fun i => own_cl (F i)) = hj7_259__closed' F := by
  unfold hj7_259__closed'
  simp only [own_c34, own_c10, own_f9, own_f9c, own_q1, own_k1]
theorem own_n2 (F : Nat → Int32) : hj7_259_L3' (fun i => own_cl (F i)) = hj7_259_L3' F := by
  unfold hj7_259_L3'
  simp only [own_c34, own_c10, own_f9, own_q1, own_n1]
theorem own_q3 (F : Nat → Int32) : hj7_259__quoted'' (fun i => own_cl (F i)) = hj7_259__quoted'' F := by
  unfold hj7_259__quoted''
  simp only [own_c34, own_c10, own_f9, own_f9q, own_q2, own_k2]
theorem own_k3 (F : Nat → Int32) : hj7_259__closed'' (fun i => own_cl (F i)) = hj7_259__closed'' F := by
  unfold hj7_259__closed''
  simp only [own_c34, own_c10, own_f9, own_f9c, own_q2, own_k2]
theorem own_n3 (F : Nat → Int32) : hj7_259_L3'' (fun i => own_cl (F i)) = hj7_259_L3'' F := by
  unfold hj7_259_L3''
  simp only [own_c34, own_c10, own_f9, own_q2, own_n2]
theorem own_q4 (F : Nat → Int32) : hj7_259__quoted''' (fun i => own_cl (F i)) = hj7_259__quoted''' F := by
  unfold hj7_259__quoted'''
  simp only [own_c34, own_c10, own_f9, own_f9q, own_q3, own_k3]
theorem own_f7q (w : Int64) (F : Nat → Int32) : f7_h__quoted w (fun i => own_cl (F i)) = f7_h__quoted w F := by
  unfold f7_h__quoted
  simp only [own_c10, own_f9q, own_q1, own_k1, own_n1, own_q2, own_k2, own_n2, own_q3, own_k3, own_n3, own_q4]
theorem own_f7s (w : Int64) (F : Nat → Int32) : f7_h__start w (fun i => own_cl (F i)) = f7_h__start w F := by
  unfold f7_h__start
  simp only [own_c10, own_q1, own_n1, own_q2, own_n2, own_q3, own_n3]
theorem own_f11 (q s : Int32) (F : Nat → Int32) : f11 q s (fun i => own_cl (F i)) = f11 q s F := by
  unfold f11
  simp only [own_c10]
def own_FX (a b c d : Int32) : Nat → Int32 := own_upd (own_upd (own_upd (own_upd (own_upd (fun _ => 0) 0 (10 : Int32)) 1 a) 2 b) 3 c) 4 d
theorem own_FXc (a b c d : Int32) : (fun i => own_cl (own_FX a b c d i)) = own_FX (own_cl a) (own_cl b) (own_cl c) (own_cl d) := by
  funext i
  unfold own_FX
  simp only [own_upd_at]
  repeat' split
  all_goals first | rfl | decide
def own_L (a b c d : Int32) (w : Int64) : Int32 := f11 (f7_h__quoted w (own_FX a b c d)) (f7_h__start w (own_FX a b c d)) (own_FX a b c d)
theorem own_Lc (a b c d : Int32) (w : Int64) : own_L (own_cl a) (own_cl b) (own_cl c) (own_cl d) w = own_L a b c d w := by
  unfold own_L
  rw [← own_FXc, own_f7q, own_f7s, own_f11]
def own_3 (a b c : Int32) : Int32 := f12 ((f12 ((f12 (0 : Int32) a) &&& (3 : Int32)) b) &&& (3 : Int32)) c
def own_4 (a b c d : Int32) : Int32 := ((((f12 (0 : Int32) a) >>> ((2 : Int32) &&& 31)) + ((f12 ((f12 (0 : Int32) a) &&& (3 : Int32)) b) >>> ((2 : Int32) &&& 31))) + ((own_3 a b c) >>> ((2 : Int32) &&& 31))) + ((f12 ((own_3 a b c) &&& (3 : Int32)) d) >>> ((2 : Int32) &&& 31))
def own_R (a b c d : Int32) (w : Int64) : Int32 := if (if (lcmpW ((own_4 a b c d).toInt64) w) < (0 : Int32) then (if ((f12 ((own_3 a b c) &&& (3 : Int32)) d) &&& (4 : Int32)) = (0 : Int32) then ((0 : Int32)) else ((1 : Int32))) else ((1 : Int32))) = (0 : Int32) then (1 : Int32) else (0 : Int32)
theorem own_Rc (a b c d : Int32) (w : Int64) : own_R (own_cl a) (own_cl b) (own_cl c) (own_cl d) w = own_R a b c d w := by
  unfold own_R own_4 own_3
  simp only [own_f12]
theorem own_clm (x : Int32) : own_cl x ∈ [(34 : Int32), 44, 10, 0] := by
  unfold own_cl
  repeat' split
  all_goals decide
theorem own_all : ∀ a ∈ [(34 : Int32), 44, 10, 0], ∀ b ∈ [(34 : Int32), 44, 10, 0], ∀ c ∈ [(34 : Int32), 44, 10, 0], ∀ d ∈ [(34 : Int32), 44, 10, 0], ∀ w ∈ [(0 : Int32), 1, 2, 3], own_L a b c d (((1 : Int32) + w).toInt64) = own_R a b c d (((1 : Int32) + w).toInt64) := by
  decide +kernel
theorem own_m3 (x : Int32) : (x &&& (3 : Int32)) ∈ [(0 : Int32), 1, 2, 3] := by
  have h : (x &&& (3 : Int32)).toInt = x.toInt % 4 := c_mask x 3 2 (by decide) (by decide)
  have h4 : (x &&& (3 : Int32)).toInt = 0 ∨ (x &&& (3 : Int32)).toInt = 1 ∨ (x &&& (3 : Int32)).toInt = 2 ∨ (x &&& (3 : Int32)).toInt = 3 := by omega
  rcases h4 with q | q | q | q
  · rw [show (x &&& (3 : Int32)) = 0 from Int32.toInt_inj.mp (q.trans (by decide))]; decide
  · rw [show (x &&& (3 : Int32)) = 1 from Int32.toInt_inj.mp (q.trans (by decide))]; decide
  · rw [show (x &&& (3 : Int32)) = 2 from Int32.toInt_inj.mp (q.trans (by decide))]; decide
  · rw [show (x &&& (3 : Int32)) = 3 from Int32.toInt_inj.mp (q.trans (by decide))]; decide
theorem own_nb (x : Int32) : nar .byte (nar .byte x) = nar .byte x := by
  unfold nar
  simp
theorem own_nf (x : Int32) : nar .byte (f1 x) = f1 x := by
  unfold f1
  repeat' split
  all_goals first | decide | exact own_nb _
theorem own_law (p0 p1 p2 p3 p4 : Int32) : (e0_1 p0 p1 p2 p3 p4) = (j0_202_S0 p0 p1 p2 p3 p4) := by
  have hL : e0_1 p0 p1 p2 p3 p4 = own_L (f1 p0) (f1 p1) (f1 p2) (f1 p3) (((1 : Int32) + (p4 &&& (3 : Int32))).toInt64) := by
    unfold e0_1
    rw [own_nf, own_nf, own_nf, own_nf]
    rfl
  have hR : j0_202_S0 p0 p1 p2 p3 p4 = own_R (f1 p0) (f1 p1) (f1 p2) (f1 p3) (((1 : Int32) + (p4 &&& (3 : Int32))).toInt64) := rfl
  rw [hL, hR, ← own_Lc, ← own_Rc]
  exact own_all _ (own_clm _) _ (own_clm _) _ (own_clm _) _ (own_clm _) _ (own_m3 _)
def Q0 (Z : State) (p0 : Int32) (p1 : Int32) (p2 : Int32) (p3 : Int32) (p4 : Int32) (w9 : Addr) (h0 : Heap) (n0 : Nat) (v : Option Value) (h : Heap) (L : List Loc) : Prop := v = some (.int (1 : Int32)) ∧ Fr n0 L
set_option maxRecDepth 65536 in
set_option maxHeartbeats 40000000 in
theorem rm0 (l : Launch) (Z : State) (a0 : Array Value) (hw : ∀ d ∈ tables_1, d.before a0 Z = true) (ws : List Jvm.Cond) (p0 : Int32) (p1 : Int32) (p2 : Int32) (p3 : Int32) (p4 : Int32) (w9 : Addr) (h0 : Heap) (n0 : Nat) (Z0 : n0 ≤ h0.size) (S_NO_BYTES : Sta Z h0 "com/example/cistern/cistern/io/RecordReader" "NO_BYTES" "[B" (.ref w9)) :
    MetFree l x (head1 (Jvm.Cond.code x code maxLocals ret :: ws) room_1) (fun a U => a = #[(.int p0), (.int p1), (.int p2), (.int p3), (.int p4)] ∧ Z.Warmed39 U.vm ∧ U.heap = h0) (fun _ _ _ _ _ => True) (fun _ U o U' => ∃ v L, o = .returned v ∧ Q0 Z p0 p1 p2 p3 p4 w9 h0 n0 v U'.heap L ∧ FrameEnd U o U' L room_1.cells room_1.slots) := by
  refine MetFree.of_bodySF (plainFor_of_name pn_0) hisR ?_
  intro p e s m args below meth c s₁ Bd hml0 hP hK
  obtain ⟨rfl, hZ, hh⟩ := hP
  have hx := Bd.exec
  have hby := Bd.bytes
  have hml : c.maxLocals = 20 := hml0
  have hown : s.vm.findClass "com/example/cistern/cistern/io/CsvReaderInRecordPinLaw" = some m.cls := findClass_of_methodNamed Bd.named
  have hnm := (name_of_methodNamed Bd.named Bd.method).1
  have X0 : Stand p l e room_1 s m #[(.int p0), (.int p1), (.int p2), (.int p3), (.int p4)] below meth c s₁ [] 0 0 := Stand.of_body Bd
  have e0 : s₁.heap = h0 := by rw [← hh, Bd.state]; rfl
  have N0 := Fr.nil n0
  have pre0 : ∀ t, Steps p.tables e below (s₁.setTop (mkF m 0 #[.val (.int p0), .val (.int p1), .val (.int p2), .val (.int p3), .val (.int p4), .unset, .unset, .unset, .unset, .unset, .unset, .unset, .unset, .unset, .unset, .unset, .unset, .unset, .unset, .unset] [])) t → Steps p.tables e below (s₁.setTop (entryFrame m #[(.int p0), (.int p1), (.int p2), (.int p3), (.int p4)] maxLocals)) t := fun t k => castTop (ef_0 m p0 p1 p2 p3 p4) k
  obtain ⟨_, _, ⟨T1, L1, k1, n1⟩, -, X1, ⟨Lc1, hQ1, l1, y1, z1⟩, st1⟩ := Jvm.LawKit.callS X0 hx (y := (⟨"com/example/cistern/cistern/io/CsvReaderInRecordPinLaw", "draw", "(I)B"⟩ : MethodName)) hown (mvT hZ (hw _ (List.mem_of_getElem? (i := 0) rfl))) (mvT hZ (hw _ (List.mem_of_getElem? (i := 1) rfl))) (mvT hZ (hw _ (List.mem_of_getElem? (i := 2) rfl))) (mvT hZ (hw _ (List.mem_of_getElem? (i := 3) rfl))) (by decide) (backOf (W := 0) (rm1 l Z a0 hw [] p0 h0 n0 Z0 ) hZ (hw _ (List.mem_of_getElem? (i := 3) rfl)) (hw _ (List.mem_of_getElem? (i := 2) rfl)) (by decide) (by decide)) (g := (mkF m 1 #[.val (.int p0), .val (.int p1), .val (.int p2), .val (.int p3), .val (.int p4), .unset, .unset, .unset, .unset, .unset, .unset, .unset, .unset, .unset, .unset, .unset, .unset, .unset, .unset, .unset] [(.int p0)])) rfl (by rw [hml]; rfl) (argsL := [(.int p0)]) (rest := []) (lenOf pd_0_0 rfl) rfl (by show 2 * 0 + _ ≤ _; exact Nat.le_of_eq rfl) (hb hby at_1) (fun _ _ => ⟨rfl, e0, (by decide : 0 + 0 ≤ _), (by decide : 0 + 0 ≤ _)⟩)
  dsimp only [Pt.U, Pt.locs, Pt.cells, Pt.slots] at X1 l1 y1 z1 st1 hQ1
  subst l1 y1 z1
  obtain ⟨rfl, N1q, e1q⟩ := hQ1
  have N1 := Fr.app N0 N1q
  obtain ⟨_, _, ⟨T2, L2, k2, n2⟩, -, X2, ⟨Lc2, hQ2, l2, y2, z2⟩, st2⟩ := Jvm.LawKit.callS X1 hx (y := (⟨"com/example/cistern/cistern/io/CsvReaderInRecordPinLaw", "draw", "(I)B"⟩ : MethodName)) hown (mvT hZ (hw _ (List.mem_of_getElem? (i := 0) rfl))) (mvT hZ (hw _ (List.mem_of_getElem? (i := 1) rfl))) (mvT hZ (hw _ (List.mem_of_getElem? (i := 2) rfl))) (mvT hZ (hw _ (List.mem_of_getElem? (i := 3) rfl))) (by decide) (backOf (W := 0) (rm1 l Z a0 hw [] p1 h0 n0 Z0 ) hZ (hw _ (List.mem_of_getElem? (i := 3) rfl)) (hw _ (List.mem_of_getElem? (i := 2) rfl)) (by decide) (by decide)) (g := (mkF m 7 #[.val (.int p0), .val (.int p1), .val (.int p2), .val (.int p3), .val (.int p4), .val (.int (f1 p0)), .unset, .unset, .unset, .unset, .unset, .unset, .unset, .unset, .unset, .unset, .unset, .unset, .unset, .unset] [(.int p1)])) rfl (by rw [hml]; rfl) (argsL := [(.int p1)]) (rest := []) (lenOf pd_0_0 rfl) rfl (by show 2 * 0 + _ ≤ _; exact Nat.le_of_eq rfl) (hb hby at_7) (fun _ _ => ⟨rfl, e1q, (by decide : 0 + 0 ≤ _), (by decide : 0 + 0 ≤ _)⟩)
  dsimp only [Pt.U, Pt.locs, Pt.cells, Pt.slots] at X2 l2 y2 z2 st2 hQ2
  subst l2 y2 z2
  obtain ⟨rfl, N2q, e2q⟩ := hQ2
  have N2 := Fr.app N1 N2q
  obtain ⟨_, _, ⟨T3, L3, k3, n3⟩, -, X3, ⟨Lc3, hQ3, l3, y3, z3⟩, st3⟩ := Jvm.LawKit.callS X2 hx (y := (⟨"com/example/cistern/cistern/io/CsvReaderInRecordPinLaw", "draw", "(I)B"⟩ : MethodName)) hown (mvT hZ (hw _ (List.mem_of_getElem? (i := 0) rfl))) (mvT hZ (hw _ (List.mem_of_getElem? (i := 1) rfl))) (mvT hZ (hw _ (List.mem_of_getElem? (i := 2) rfl))) (mvT hZ (hw _ (List.mem_of_getElem? (i := 3) rfl))) (by decide) (backOf (W := 0) (rm1 l Z a0 hw [] p2 h0 n0 Z0 ) hZ (hw _ (List.mem_of_getElem? (i := 3) rfl)) (hw _ (List.mem_of_getElem? (i := 2) rfl)) (by decide) (by decide)) (g := (mkF m 13 #[.val (.int p0), .val (.int p1), .val (.int p2), .val (.int p3), .val (.int p4), .val (.int (f1 p0)), .val (.int (f1 p1)), .unset, .unset, .unset, .unset, .unset, .unset, .unset, .unset, .unset, .unset, .unset, .unset, .unset] [(.int p2)])) rfl (by rw [hml]; rfl) (argsL := [(.int p2)]) (rest := []) (lenOf pd_0_0 rfl) rfl (by show 2 * 0 + _ ≤ _; exact Nat.le_of_eq rfl) (hb hby at_13) (fun _ _ => ⟨rfl, e2q, (by decide : 0 + 0 ≤ _), (by decide : 0 + 0 ≤ _)⟩)
  dsimp only [Pt.U, Pt.locs, Pt.cells, Pt.slots] at X3 l3 y3 z3 st3 hQ3
  subst l3 y3 z3
  obtain ⟨rfl, N3q, e3q⟩ := hQ3
  have N3 := Fr.app N2 N3q
  obtain ⟨_, _, ⟨T4, L4, k4, n4⟩, -, X4, ⟨Lc4, hQ4, l4, y4, z4⟩, st4⟩ := Jvm.LawKit.callS X3 hx (y := (⟨"com/example/cistern/cistern/io/CsvReaderInRecordPinLaw", "draw", "(I)B"⟩ : MethodName)) hown (mvT hZ (hw _ (List.mem_of_getElem? (i := 0) rfl))) (mvT hZ (hw _ (List.mem_of_getElem? (i := 1) rfl))) (mvT hZ (hw _ (List.mem_of_getElem? (i := 2) rfl))) (mvT hZ (hw _ (List.mem_of_getElem? (i := 3) rfl))) (by decide) (backOf (W := 0) (rm1 l Z a0 hw [] p3 h0 n0 Z0 ) hZ (hw _ (List.mem_of_getElem? (i := 3) rfl)) (hw _ (List.mem_of_getElem? (i := 2) rfl)) (by decide) (by decide)) (g := (mkF m 19 #[.val (.int p0), .val (.int p1), .val (.int p2), .val (.int p3), .val (.int p4), .val (.int (f1 p0)), .val (.int (f1 p1)), .val (.int (f1 p2)), .unset, .unset, .unset, .unset, .unset, .unset, .unset, .unset, .unset, .unset, .unset, .unset] [(.int p3)])) rfl (by rw [hml]; rfl) (argsL := [(.int p3)]) (rest := []) (lenOf pd_0_0 rfl) rfl (by show 2 * 0 + _ ≤ _; exact Nat.le_of_eq rfl) (hb hby at_19) (fun _ _ => ⟨rfl, e3q, (by decide : 0 + 0 ≤ _), (by decide : 0 + 0 ≤ _)⟩)
  dsimp only [Pt.U, Pt.locs, Pt.cells, Pt.slots] at X4 l4 y4 z4 st4 hQ4
  subst l4 y4 z4
  obtain ⟨rfl, N4q, e4q⟩ := hQ4
  have N4 := Fr.app N3 N4q
  obtain ⟨T5, h5, X5, e5, E5, A5, D5, -, st5⟩ := newO X4 hx hZ hown (hw _ (List.mem_of_getElem? (i := 4) rfl)) (hw _ (List.mem_of_getElem? (i := 5) rfl)) (hw _ (List.mem_of_getElem? (i := 6) rfl)) e4q (g := (mkF m 24 #[.val (.int p0), .val (.int p1), .val (.int p2), .val (.int p3), .val (.int p4), .val (.int (f1 p0)), .val (.int (f1 p1)), .val (.int (f1 p2)), .val (.int (f1 p3)), .unset, .unset, .unset, .unset, .unset, .unset, .unset, .unset, .unset, .unset, .unset] [])) rfl (hb hby at_24) (by decide) (by decide)
  obtain ⟨b5, g5⟩ : ∃ z, z = h0.size := ⟨_, rfl⟩
  rw [← g5] at A5 D5 st5
  have g_b5 : n0 ≤ b5 := Nat.le_trans Z0 (Nat.le_of_eq g5.symm)
  have sz_b5 : h0.size ≤ b5 := Nat.le_trans (Keep.refl h0 []).1 (Nat.le_of_eq g5.symm)
  have K6 : Keep h0 h5 [] := (Keep.refl h0 []).ext E5
  have Z7 : n0 ≤ h5.size := Nat.le_trans Z0 K6.1
  have E_b5 := A5
  have F__buffer_b5 : Fld Z h5 b5 "com/example/cistern/cistern/io/RecordReader" "_buffer" "[B" .null := D5 (Or.inr (hw _ (List.mem_of_getElem? (i := 21) rfl))) (ty := (.array .byte)) (by decide)
  have F__start_b5 : Fld Z h5 b5 "com/example/cistern/cistern/io/RecordReader" "_start" "I" (.int (0 : Int32)) := D5 (Or.inl (hw _ (List.mem_of_getElem? (i := 23) rfl))) (ty := .int) (by decide)
  have F__end_b5 : Fld Z h5 b5 "com/example/cistern/cistern/io/RecordReader" "_end" "I" (.int (0 : Int32)) := D5 (Or.inl (hw _ (List.mem_of_getElem? (i := 25) rfl))) (ty := .int) (by decide)
  have F__built_b5 : Fld Z h5 b5 "com/example/cistern/cistern/io/RecordReader" "_built" "[B" .null := D5 (Or.inl (hw _ (List.mem_of_getElem? (i := 29) rfl))) (ty := (.array .byte)) (by decide)
  have F__in_b5 : Fld Z h5 b5 "com/example/cistern/cistern/io/RecordReader" "_in" "Ljava/io/InputStream;" .null := D5 (Or.inl (hw _ (List.mem_of_getElem? (i := 41) rfl))) (ty := (.object "java/io/InputStream")) (by decide)
  have F__offset_b5 : Fld Z h5 b5 "com/example/cistern/cistern/io/RecordReader" "_offset" "J" (.long (0 : Int64)) := D5 (Or.inl (hw _ (List.mem_of_getElem? (i := 43) rfl))) (ty := .long) (by decide)
  have F__records_b5 : Fld Z h5 b5 "com/example/cistern/cistern/io/RecordReader" "_records" "J" (.long (0 : Int64)) := D5 (Or.inl (hw _ (List.mem_of_getElem? (i := 45) rfl))) (ty := .long) (by decide)
  have F__ended_b5 : Fld Z h5 b5 "com/example/cistern/cistern/io/RecordReader" "_ended" "Z" (.int (0 : Int32)) := D5 (Or.inl (hw _ (List.mem_of_getElem? (i := 47) rfl))) (ty := .boolean) (by decide)
  have F__quoted_b5 : Fld Z h5 b5 "com/example/cistern/cistern/io/CsvReader" "_quoted" "Z" (.int (0 : Int32)) := D5 (Or.inl (hw _ (List.mem_of_getElem? (i := 49) rfl))) (ty := .boolean) (by decide)
  have F__closed_b5 : Fld Z h5 b5 "com/example/cistern/cistern/io/CsvReader" "_closed" "Z" (.int (0 : Int32)) := D5 (Or.inl (hw _ (List.mem_of_getElem? (i := 74) rfl))) (ty := .boolean) (by decide)
  obtain ⟨_, _, ⟨T8, L8, k8, n8⟩, -, X8, ⟨Lc8, hQ8, l8, y8, z8⟩, st8⟩ := X5.specialBack hx (y := (⟨"com/example/cistern/cistern/io/CsvReader", "<init>", "()V"⟩ : MethodName)) rfl hown (mvT hZ (hw _ (List.mem_of_getElem? (i := 7) rfl))) (mvT hZ (hw _ (List.mem_of_getElem? (i := 8) rfl))) (mvT hZ (hw _ (List.mem_of_getElem? (i := 9) rfl))) (by decide) (backOf (W := 1) (rm2 l Z a0 hw [] b5 (0 : Int32) (0 : Int32) (0 : Int64) (0 : Int64) (0 : Int32) (0 : Int32) (0 : Int32) w9 h5 n0 Z7 E_b5 F__quoted_b5 F__closed_b5 F__in_b5 F__offset_b5 F__records_b5 F__ended_b5 g_b5 F__buffer_b5 F__start_b5 F__end_b5 (S_NO_BYTES.ext E5) F__built_b5) hZ (hw _ (List.mem_of_getElem? (i := 9) rfl)) (hw _ (List.mem_of_getElem? (i := 6) rfl)) (by decide) (by decide)) (g := (mkF m 28 #[.val (.int p0), .val (.int p1), .val (.int p2), .val (.int p3), .val (.int p4), .val (.int (f1 p0)), .val (.int (f1 p1)), .val (.int (f1 p2)), .val (.int (f1 p3)), .unset, .unset, .unset, .unset, .unset, .unset, .unset, .unset, .unset, .unset, .unset] [(.ref b5), (.ref b5)])) rfl (by rw [hml]; rfl) (Steps.refl _) (a := b5) (argsL := []) (rest := [(.ref b5)]) (lenOf pd_0_1 rfl) rfl (by show 2 * 0 + _ ≤ _; exact Nat.le_of_eq rfl) (hb hby at_28) (fun _ _ => ⟨rfl, e5, (by decide : 1 + 1 ≤ _), (by decide : 10 + 65537 ≤ _)⟩)
  dsimp only [Pt.U, Pt.locs, Pt.cells, Pt.slots] at X8 l8 y8 z8 st8 hQ8
  subst l8 y8 z8
  obtain ⟨r_o0__buffer_8, rfl, N8q, K8q, g_r_o0__buffer_8, szq_r_o0__buffer_8, G8_0, G8_1, G8_2, G8_3, G8_4, G8_5, G8_6, G8_7, G8_8, G8_9, G8_10⟩ := hQ8
  have N8 := Fr.app N4 N8q
  have ne_b5_r_o0__buffer_8 : b5 ≠ r_o0__buffer_8 := Nat.ne_of_lt (Nat.lt_of_lt_of_le E_b5.lt szq_r_o0__buffer_8)
  have sz_r_o0__buffer_8 : h0.size ≤ r_o0__buffer_8 := Nat.le_trans K6.1 szq_r_o0__buffer_8
  have K10 : Keep h0 T8.heap [] := K6.trans K8q (allS (Or.inr sz_b5) all0)
  have Z11 : n0 ≤ T8.heap.size := Nat.le_trans Z0 K10.1
  obtain ⟨LS8, X8, N8⟩ : ∃ L, Stand p l e room_1 s m #[(.int p0), (.int p1), (.int p2), (.int p3), (.int p4)] below meth c T8 L 2 65547 ∧ Fr n0 L := ⟨_, X8, N8⟩
  obtain ⟨cq12, kq12, q12a, q12b, q12c⟩ := isOf hZ rfl (E_b5.keep K8q)
  obtain ⟨_, _, ⟨T12, L12, k12, n12⟩, -, X12, ⟨Lc12, hQ12, l12, y12, z12⟩, st12⟩ := X8.virtualBack hx (y := (⟨"com/example/cistern/cistern/io/CsvReader", "start", "(Ljava/io/InputStream;)V"⟩ : MethodName)) (z := (⟨"com/example/cistern/cistern/io/CsvReader", "start", "(Ljava/io/InputStream;)V"⟩ : MethodName)) hown (mvT hZ (hw _ (List.mem_of_getElem? (i := 30) rfl))) (mvT hZ (hw _ (List.mem_of_getElem? (i := 31) rfl))) (notFace_of_selects (args := #[]) (mvT hZ (hw _ (List.mem_of_getElem? (i := 33) rfl)))) (mvT hZ (hw _ (List.mem_of_getElem? (i := 33) rfl))) (mvT hZ (hw _ (List.mem_of_getElem? (i := 32) rfl))) (by decide) (backOf (W := 0) (rm5 l Z a0 hw [] b5 r_o0__buffer_8 (0 : Int32) (0 : Int32) (fun _ => 0) (1 : Int32) (1 : Int32) (0 : Int64) (0 : Int64) (0 : Int32) T8.heap n0 Z11 (E_b5.keep K8q) G8_0 G8_5 G8_6 G8_1 ne_b5_r_o0__buffer_8 g_b5 g_r_o0__buffer_8 G8_7 G8_2 G8_3 G8_8 G8_9 G8_10) hZ (hw _ (List.mem_of_getElem? (i := 34) rfl)) (hw _ (List.mem_of_getElem? (i := 6) rfl)) (by decide) (by decide)) q12a q12c (g := (mkF m 36 #[.val (.int p0), .val (.int p1), .val (.int p2), .val (.int p3), .val (.int p4), .val (.int (f1 p0)), .val (.int (f1 p1)), .val (.int (f1 p2)), .val (.int (f1 p3)), .val (.ref b5), .unset, .unset, .unset, .unset, .unset, .unset, .unset, .unset, .unset, .unset] [.null, (.ref b5)])) rfl (by rw [hml]; rfl) (Steps.refl _) (argsL := [.null]) (rest := []) (lenOf pd_0_2 rfl) rfl (by show 2 * 0 + _ ≤ _; exact Nat.le_of_eq rfl) (hb hby at_36) (fun _ _ => ⟨rfl, rfl, (by decide : 2 + 0 ≤ _), (by decide : 65547 + 0 ≤ _)⟩)
  dsimp only [Pt.U, Pt.locs, Pt.cells, Pt.slots] at X12 l12 y12 z12 st12 hQ12
  subst l12 y12 z12
  obtain ⟨rfl, N12q, K12q, G12_0, G12_1, G12_2, G12_3, G12_4, G12_5, G12_6, G12_7, G12_8, G12_9⟩ := hQ12
  have N12 := Fr.app N8 N12q
  have K13 : Keep h0 T12.heap [] := K10.trans K12q (allS (Or.inr sz_r_o0__buffer_8) (allS (Or.inr sz_b5) all0))
  have Z14 : n0 ≤ T12.heap.size := Nat.le_trans Z0 K13.1
  obtain ⟨LS12, X12, N12⟩ : ∃ L, Stand p l e room_1 s m #[(.int p0), (.int p1), (.int p2), (.int p3), (.int p4)] below meth c T12 L 2 65547 ∧ Fr n0 L := ⟨_, X12, N12⟩
  obtain ⟨T15, X15, e15, st15⟩ := getF X12 hx hZ hown (host := "") (Or.inl (hw _ (List.mem_of_getElem? (i := 50) rfl))) (Via.of (hw _ (List.mem_of_getElem? (i := 51) rfl))) rfl G12_7 (g := (mkF m 41 #[.val (.int p0), .val (.int p1), .val (.int p2), .val (.int p3), .val (.int p4), .val (.int (f1 p0)), .val (.int (f1 p1)), .val (.int (f1 p2)), .val (.int (f1 p3)), .val (.ref b5), .unset, .unset, .unset, .unset, .unset, .unset, .unset, .unset, .unset, .unset] [(.ref b5)])) rfl rfl (hb hby at_41)
  obtain ⟨cl16, Ar16, Sz16, Nn16, Hs16⟩ := id G12_1
  have hin16 : ¬ ((1 : Int32) < 0 ∨ cl16.slots.size ≤ ((1 : Int32)).toNatClampNeg) := inb_of Sz16 ⟨by decide, by decide⟩
  obtain ⟨T17, h17, X17, e17, W17, st17⟩ := stB X15 hx hZ e15 Ar16 (j := (1 : Int32)) hin16 (g := (mkF m 47 #[.val (.int p0), .val (.int p1), .val (.int p2), .val (.int p3), .val (.int p4), .val (.int (f1 p0)), .val (.int (f1 p1)), .val (.int (f1 p2)), .val (.int (f1 p3)), .val (.ref b5), .unset, .unset, .unset, .unset, .unset, .unset, .unset, .unset, .unset, .unset] [(.int (f1 p0)), (.int (1 : Int32)), (.ref r_o0__buffer_8)])) rfl rfl (hb hby at_47)
  have V17 : own_AI Z h17 r_o0__buffer_8 .byte (65537 : Int32) (own_upd (own_upd (fun _ => 0) 0 (10 : Int32)) 1 (nar .byte (f1 p0))) := own_AI.set G12_1 (fits_nar_byte (f1 p0)) W17
  have K18 : Keep h0 h17 [] := K13.wr W17 (Or.inr sz_r_o0__buffer_8)
  have Z19 : n0 ≤ h17.size := Nat.le_trans Z0 K18.1
  have N17 := Fr.snoc X17 N12 g_r_o0__buffer_8
  obtain ⟨LS17, X17, N17⟩ : ∃ L, Stand p l e room_1 s m #[(.int p0), (.int p1), (.int p2), (.int p3), (.int p4)] below meth c T17 L 2 65547 ∧ Fr n0 L := ⟨_, X17, N17⟩
  obtain ⟨T20, X20, e20, st20⟩ := getF X17 hx hZ hown (host := "") (Or.inl (hw _ (List.mem_of_getElem? (i := 50) rfl))) (Via.of (hw _ (List.mem_of_getElem? (i := 51) rfl))) e17 (G12_7.other W17 (Or.inl ne_b5_r_o0__buffer_8)) (g := (mkF m 50 #[.val (.int p0), .val (.int p1), .val (.int p2), .val (.int p3), .val (.int p4), .val (.int (f1 p0)), .val (.int (f1 p1)), .val (.int (f1 p2)), .val (.int (f1 p3)), .val (.ref b5), .unset, .unset, .unset, .unset, .unset, .unset, .unset, .unset, .unset, .unset] [(.ref b5)])) rfl rfl (hb hby at_50)
  obtain ⟨cl21, Ar21, Sz21, Nn21, Hs21⟩ := id V17
  have hin21 : ¬ ((2 : Int32) < 0 ∨ cl21.slots.size ≤ ((2 : Int32)).toNatClampNeg) := inb_of Sz21 ⟨by decide, by decide⟩
  obtain ⟨T22, h22, X22, e22, W22, st22⟩ := stB X20 hx hZ e20 Ar21 (j := (2 : Int32)) hin21 (g := (mkF m 56 #[.val (.int p0), .val (.int p1), .val (.int p2), .val (.int p3), .val (.int p4), .val (.int (f1 p0)), .val (.int (f1 p1)), .val (.int (f1 p2)), .val (.int (f1 p3)), .val (.ref b5), .unset, .unset, .unset, .unset, .unset, .unset, .unset, .unset, .unset, .unset] [(.int (f1 p1)), (.int (2 : Int32)), (.ref r_o0__buffer_8)])) rfl rfl (hb hby at_56)
  have V22 : own_AI Z h22 r_o0__buffer_8 .byte (65537 : Int32) (own_upd (own_upd (own_upd (fun _ => 0) 0 (10 : Int32)) 1 (nar .byte (f1 p0))) 2 (nar .byte (f1 p1))) := own_AI.set V17 (fits_nar_byte (f1 p1)) W22
  have K23 : Keep h0 h22 [] := K18.wr W22 (Or.inr sz_r_o0__buffer_8)
  have Z24 : n0 ≤ h22.size := Nat.le_trans Z0 K23.1
  have N22 := Fr.snoc X22 N17 g_r_o0__buffer_8
  obtain ⟨LS22, X22, N22⟩ : ∃ L, Stand p l e room_1 s m #[(.int p0), (.int p1), (.int p2), (.int p3), (.int p4)] below meth c T22 L 2 65547 ∧ Fr n0 L := ⟨_, X22, N22⟩
  have c25 := ((G12_7.other W17 (Or.inl ne_b5_r_o0__buffer_8)).other W22 (Or.inl ne_b5_r_o0__buffer_8))
  obtain ⟨T26, X26, e26, st26⟩ := getF X22 hx hZ hown (host := "") (Or.inl (hw _ (List.mem_of_getElem? (i := 50) rfl))) (Via.of (hw _ (List.mem_of_getElem? (i := 51) rfl))) e22 c25 (g := (mkF m 59 #[.val (.int p0), .val (.int p1), .val (.int p2), .val (.int p3), .val (.int p4), .val (.int (f1 p0)), .val (.int (f1 p1)), .val (.int (f1 p2)), .val (.int (f1 p3)), .val (.ref b5), .unset, .unset, .unset, .unset, .unset, .unset, .unset, .unset, .unset, .unset] [(.ref b5)])) rfl rfl (hb hby at_59)
  obtain ⟨cl27, Ar27, Sz27, Nn27, Hs27⟩ := id V22
  have hin27 : ¬ ((3 : Int32) < 0 ∨ cl27.slots.size ≤ ((3 : Int32)).toNatClampNeg) := inb_of Sz27 ⟨by decide, by decide⟩
  obtain ⟨T28, h28, X28, e28, W28, st28⟩ := stB X26 hx hZ e26 Ar27 (j := (3 : Int32)) hin27 (g := (mkF m 65 #[.val (.int p0), .val (.int p1), .val (.int p2), .val (.int p3), .val (.int p4), .val (.int (f1 p0)), .val (.int (f1 p1)), .val (.int (f1 p2)), .val (.int (f1 p3)), .val (.ref b5), .unset, .unset, .unset, .unset, .unset, .unset, .unset, .unset, .unset, .unset] [(.int (f1 p2)), (.int (3 : Int32)), (.ref r_o0__buffer_8)])) rfl rfl (hb hby at_65)
  have V28 : own_AI Z h28 r_o0__buffer_8 .byte (65537 : Int32) (own_upd (own_upd (own_upd (own_upd (fun _ => 0) 0 (10 : Int32)) 1 (nar .byte (f1 p0))) 2 (nar .byte (f1 p1))) 3 (nar .byte (f1 p2))) := own_AI.set V22 (fits_nar_byte (f1 p2)) W28
  have K29 : Keep h0 h28 [] := K23.wr W28 (Or.inr sz_r_o0__buffer_8)
  have Z30 : n0 ≤ h28.size := Nat.le_trans Z0 K29.1
  have N28 := Fr.snoc X28 N22 g_r_o0__buffer_8
  obtain ⟨LS28, X28, N28⟩ : ∃ L, Stand p l e room_1 s m #[(.int p0), (.int p1), (.int p2), (.int p3), (.int p4)] below meth c T28 L 2 65547 ∧ Fr n0 L := ⟨_, X28, N28⟩
  obtain ⟨T31, X31, e31, st31⟩ := getF X28 hx hZ hown (host := "") (Or.inl (hw _ (List.mem_of_getElem? (i := 50) rfl))) (Via.of (hw _ (List.mem_of_getElem? (i := 51) rfl))) e28 (c25.other W28 (Or.inl ne_b5_r_o0__buffer_8)) (g := (mkF m 68 #[.val (.int p0), .val (.int p1), .val (.int p2), .val (.int p3), .val (.int p4), .val (.int (f1 p0)), .val (.int (f1 p1)), .val (.int (f1 p2)), .val (.int (f1 p3)), .val (.ref b5), .unset, .unset, .unset, .unset, .unset, .unset, .unset, .unset, .unset, .unset] [(.ref b5)])) rfl rfl (hb hby at_68)
  obtain ⟨cl32, Ar32, Sz32, Nn32, Hs32⟩ := id V28
  have hin32 : ¬ ((4 : Int32) < 0 ∨ cl32.slots.size ≤ ((4 : Int32)).toNatClampNeg) := inb_of Sz32 ⟨by decide, by decide⟩
  obtain ⟨T33, h33, X33, e33, W33, st33⟩ := stB X31 hx hZ e31 Ar32 (j := (4 : Int32)) hin32 (g := (mkF m 74 #[.val (.int p0), .val (.int p1), .val (.int p2), .val (.int p3), .val (.int p4), .val (.int (f1 p0)), .val (.int (f1 p1)), .val (.int (f1 p2)), .val (.int (f1 p3)), .val (.ref b5), .unset, .unset, .unset, .unset, .unset, .unset, .unset, .unset, .unset, .unset] [(.int (f1 p3)), (.int (4 : Int32)), (.ref r_o0__buffer_8)])) rfl rfl (hb hby at_74)
  have V33 : own_AI Z h33 r_o0__buffer_8 .byte (65537 : Int32) (own_upd (own_upd (own_upd (own_upd (own_upd (fun _ => 0) 0 (10 : Int32)) 1 (nar .byte (f1 p0))) 2 (nar .byte (f1 p1))) 3 (nar .byte (f1 p2))) 4 (nar .byte (f1 p3))) := own_AI.set V28 (fits_nar_byte (f1 p3)) W33
  have K34 : Keep h0 h33 [] := K29.wr W33 (Or.inr sz_r_o0__buffer_8)
  have Z35 : n0 ≤ h33.size := Nat.le_trans Z0 K34.1
  have N33 := Fr.snoc X33 N28 g_r_o0__buffer_8
  obtain ⟨LS33, X33, N33⟩ : ∃ L, Stand p l e room_1 s m #[(.int p0), (.int p1), (.int p2), (.int p3), (.int p4)] below meth c T33 L 2 65547 ∧ Fr n0 L := ⟨_, X33, N33⟩
  have c36 := ((((((E_b5.keep K8q).keep K12q).wr W17).wr W22).wr W28).wr W33)
  have c37 := ((((G12_3.other W17 (Or.inl ne_b5_r_o0__buffer_8)).other W22 (Or.inl ne_b5_r_o0__buffer_8)).other W28 (Or.inl ne_b5_r_o0__buffer_8)).other W33 (Or.inl ne_b5_r_o0__buffer_8))
  obtain ⟨T38, h38, X38, e38, W38, st38⟩ := putF X33 hx hZ hown (host := "") (Or.inl (hw _ (List.mem_of_getElem? (i := 52) rfl))) (Via.of (hw _ (List.mem_of_getElem? (i := 53) rfl))) e33 c37 c36 (Or.inl (hw _ (List.mem_of_getElem? (i := 25) rfl))) (hw _ (List.mem_of_getElem? (i := 5) rfl)) (ty := .int) (by decide) rfl rfl (g := (mkF m 78 #[.val (.int p0), .val (.int p1), .val (.int p2), .val (.int p3), .val (.int p4), .val (.int (f1 p0)), .val (.int (f1 p1)), .val (.int (f1 p2)), .val (.int (f1 p3)), .val (.ref b5), .unset, .unset, .unset, .unset, .unset, .unset, .unset, .unset, .unset, .unset] [(.int (5 : Int32)), (.ref b5)])) rfl rfl (hb hby at_78)
  have Fw38 := c37.same W38
  have K39 : Keep h0 h38 [] := K34.wr W38 (Or.inr sz_b5)
  have Z40 : n0 ≤ h38.size := Nat.le_trans Z0 K39.1
  have N38 := Fr.snoc X38 N33 g_b5
  obtain ⟨LS38, X38, N38⟩ : ∃ L, Stand p l e room_1 s m #[(.int p0), (.int p1), (.int p2), (.int p3), (.int p4)] below meth c T38 L 2 65547 ∧ Fr n0 L := ⟨_, X38, N38⟩
  have c42 := (((c25.other W28 (Or.inl ne_b5_r_o0__buffer_8)).other W33 (Or.inl ne_b5_r_o0__buffer_8)).other W38 (Or.inr (slot_ne (Or.inr (hw _ (List.mem_of_getElem? (i := 21) rfl))) (Or.inl (hw _ (List.mem_of_getElem? (i := 25) rfl))) (by decide) (t := (.array .byte)) (t' := .int) (by decide) (by decide))))
  have c43 := (((((G12_2.other W17 (Or.inl ne_b5_r_o0__buffer_8)).other W22 (Or.inl ne_b5_r_o0__buffer_8)).other W28 (Or.inl ne_b5_r_o0__buffer_8)).other W33 (Or.inl ne_b5_r_o0__buffer_8)).other W38 (Or.inr (slot_ne (Or.inl (hw _ (List.mem_of_getElem? (i := 23) rfl))) (Or.inl (hw _ (List.mem_of_getElem? (i := 25) rfl))) (by decide) (t := .int) (t' := .int) (by decide) (by decide))))
  have c44 := (((((G12_8.other W17 (Or.inl ne_b5_r_o0__buffer_8)).other W22 (Or.inl ne_b5_r_o0__buffer_8)).other W28 (Or.inl ne_b5_r_o0__buffer_8)).other W33 (Or.inl ne_b5_r_o0__buffer_8)).other W38 (Or.inr (slot_ne (Or.inl (hw _ (List.mem_of_getElem? (i := 49) rfl))) (Or.inl (hw _ (List.mem_of_getElem? (i := 25) rfl))) (by decide) (t := .boolean) (t' := .int) (by decide) (by decide))))
  have c45 := (((((G12_9.other W17 (Or.inl ne_b5_r_o0__buffer_8)).other W22 (Or.inl ne_b5_r_o0__buffer_8)).other W28 (Or.inl ne_b5_r_o0__buffer_8)).other W33 (Or.inl ne_b5_r_o0__buffer_8)).other W38 (Or.inr (slot_ne (Or.inl (hw _ (List.mem_of_getElem? (i := 74) rfl))) (Or.inl (hw _ (List.mem_of_getElem? (i := 25) rfl))) (by decide) (t := .boolean) (t' := .int) (by decide) (by decide))))
  obtain ⟨cq41, kq41, q41a, q41b, q41c⟩ := isOf hZ e38 (c36.wr W38)
  obtain ⟨_, _, ⟨T41, L41, k41, n41⟩, -, X41, ⟨Lc41, hQ41, l41, y41, z41⟩, st41⟩ := X38.virtualBack hx (y := (⟨"com/example/cistern/cistern/io/CsvReader", "passEnds", "(J)J"⟩ : MethodName)) (z := (⟨"com/example/cistern/cistern/io/CsvReader", "passEnds", "(J)J"⟩ : MethodName)) hown (mvT hZ (hw _ (List.mem_of_getElem? (i := 54) rfl))) (mvT hZ (hw _ (List.mem_of_getElem? (i := 55) rfl))) (notFace_of_selects (args := #[]) (mvT hZ (hw _ (List.mem_of_getElem? (i := 57) rfl)))) (mvT hZ (hw _ (List.mem_of_getElem? (i := 57) rfl))) (mvT hZ (hw _ (List.mem_of_getElem? (i := 56) rfl))) (by decide) (backOf (W := 0) (rm7 l Z a0 hw [] b5 (((1 : Int32) + (p4 &&& (3 : Int32))).toInt64) r_o0__buffer_8 (own_upd (own_upd (own_upd (own_upd (own_upd (fun _ => 0) 0 (10 : Int32)) 1 (nar .byte (f1 p0))) 2 (nar .byte (f1 p1))) 3 (nar .byte (f1 p2))) 4 (nar .byte (f1 p3))) h38 n0 Z40 (c36.wr W38) c42 c43 Fw38 c44 c45 (V33.other W38 (Ne.symm ne_b5_r_o0__buffer_8)) ne_b5_r_o0__buffer_8 g_b5) hZ (hw _ (List.mem_of_getElem? (i := 58) rfl)) (hw _ (List.mem_of_getElem? (i := 6) rfl)) (by decide) (by decide)) q41a q41c (g := (mkF m 94 #[.val (.int p0), .val (.int p1), .val (.int p2), .val (.int p3), .val (.int p4), .val (.int (f1 p0)), .val (.int (f1 p1)), .val (.int (f1 p2)), .val (.int (f1 p3)), .val (.ref b5), .val (.long (((1 : Int32) + (p4 &&& (3 : Int32))).toInt64)), .second, .unset, .unset, .unset, .unset, .unset, .unset, .unset, .unset] [(.long (((1 : Int32) + (p4 &&& (3 : Int32))).toInt64)), (.ref b5)])) rfl (by rw [hml]; rfl) (Steps.refl _) (argsL := [(.long (((1 : Int32) + (p4 &&& (3 : Int32))).toInt64))]) (rest := []) (lenOf pd_0_3 rfl) rfl (by show 2 * 0 + _ ≤ _; exact Nat.le_of_eq rfl) (hb hby at_94) (fun _ _ => ⟨rfl, e38, (by decide : 2 + 0 ≤ _), (by decide : 65547 + 0 ≤ _)⟩)
  dsimp only [Pt.U, Pt.locs, Pt.cells, Pt.slots] at X41 l41 y41 z41 st41 hQ41
  subst l41 y41 z41
  obtain ⟨rfl, N41q, K41q, G41_0, G41_1, G41_2, G41_3, G41_4⟩ := hQ41
  have N41 := Fr.app N38 N41q
  have K46 : Keep h0 T41.heap [] := K39.trans K41q (allS (Or.inr sz_b5) all0)
  have Z47 : n0 ≤ T41.heap.size := Nat.le_trans Z0 K46.1
  obtain ⟨LS41, X41, N41⟩ : ∃ L, Stand p l e room_1 s m #[(.int p0), (.int p1), (.int p2), (.int p3), (.int p4)] below meth c T41 L 2 65547 ∧ Fr n0 L := ⟨_, X41, N41⟩
  have c49 := ((V33.other W38 (Ne.symm ne_b5_r_o0__buffer_8)).keep K41q (ninS (Ne.symm ne_b5_r_o0__buffer_8) nin0))
  obtain ⟨cq48, kq48, q48a, q48b, q48c⟩ := isOf hZ rfl ((c36.wr W38).keep K41q)
  obtain ⟨_, _, ⟨T48, L48, k48, n48⟩, -, X48, ⟨Lc48, hQ48, l48, y48, z48⟩, st48⟩ := X41.virtualBack hx (y := (⟨"com/example/cistern/cistern/io/CsvReader", "inRecord", "()Z"⟩ : MethodName)) (z := (⟨"com/example/cistern/cistern/io/CsvReader", "inRecord", "()Z"⟩ : MethodName)) hown (mvT hZ (hw _ (List.mem_of_getElem? (i := 78) rfl))) (mvT hZ (hw _ (List.mem_of_getElem? (i := 79) rfl))) (notFace_of_selects (args := #[]) (mvT hZ (hw _ (List.mem_of_getElem? (i := 81) rfl)))) (mvT hZ (hw _ (List.mem_of_getElem? (i := 81) rfl))) (mvT hZ (hw _ (List.mem_of_getElem? (i := 80) rfl))) (by decide) (backOf (W := 0) (rm11 l Z a0 hw [] b5 r_o0__buffer_8 (f7_h__quoted (((1 : Int32) + (p4 &&& (3 : Int32))).toInt64) (own_upd (own_upd (own_upd (own_upd (own_upd (fun _ => 0) 0 (10 : Int32)) 1 (nar .byte (f1 p0))) 2 (nar .byte (f1 p1))) 3 (nar .byte (f1 p2))) 4 (nar .byte (f1 p3)))) (f7_h__start (((1 : Int32) + (p4 &&& (3 : Int32))).toInt64) (own_upd (own_upd (own_upd (own_upd (own_upd (fun _ => 0) 0 (10 : Int32)) 1 (nar .byte (f1 p0))) 2 (nar .byte (f1 p1))) 3 (nar .byte (f1 p2))) 4 (nar .byte (f1 p3)))) (own_upd (own_upd (own_upd (own_upd (own_upd (fun _ => 0) 0 (10 : Int32)) 1 (nar .byte (f1 p0))) 2 (nar .byte (f1 p1))) 3 (nar .byte (f1 p2))) 4 (nar .byte (f1 p3))) T41.heap n0 Z47 ((c36.wr W38).keep K41q) G41_2 G41_0 G41_3 c49 (own_sb _ _)) hZ (hw _ (List.mem_of_getElem? (i := 82) rfl)) (hw _ (List.mem_of_getElem? (i := 6) rfl)) (by decide) (by decide)) q48a q48c (g := (mkF m 100 #[.val (.int p0), .val (.int p1), .val (.int p2), .val (.int p3), .val (.int p4), .val (.int (f1 p0)), .val (.int (f1 p1)), .val (.int (f1 p2)), .val (.int (f1 p3)), .val (.ref b5), .val (.long (((1 : Int32) + (p4 &&& (3 : Int32))).toInt64)), .second, .unset, .unset, .unset, .unset, .unset, .unset, .unset, .unset] [(.ref b5)])) rfl (by rw [hml]; rfl) (Steps.refl _) (argsL := []) (rest := []) (lenOf pd_0_4 rfl) rfl (by show 2 * 0 + _ ≤ _; exact Nat.le_of_eq rfl) (hb hby at_100) (fun _ _ => ⟨rfl, rfl, (by decide : 2 + 0 ≤ _), (by decide : 65547 + 0 ≤ _)⟩)
  dsimp only [Pt.U, Pt.locs, Pt.cells, Pt.slots] at X48 l48 y48 z48 st48 hQ48
  subst l48 y48 z48
  obtain ⟨rfl, N48q, e48q⟩ := hQ48
  have N48 := Fr.app N41 N48q
  obtain ⟨_, _, ⟨T50, L50, k50, n50⟩, -, X50, ⟨Lc50, hQ50, l50, y50, z50⟩, st50⟩ := Jvm.LawKit.callS X48 hx (y := (⟨"com/example/cistern/cistern/io/CsvReaderInRecordPinLaw", "step", "(IB)I"⟩ : MethodName)) hown (mvT hZ (hw _ (List.mem_of_getElem? (i := 83) rfl))) (mvT hZ (hw _ (List.mem_of_getElem? (i := 84) rfl))) (mvT hZ (hw _ (List.mem_of_getElem? (i := 2) rfl))) (mvT hZ (hw _ (List.mem_of_getElem? (i := 85) rfl))) (by decide) (backOf (W := 0) (rm12 l Z a0 hw [] (0 : Int32) (f1 p0) T41.heap n0 Z47 ) hZ (hw _ (List.mem_of_getElem? (i := 85) rfl)) (hw _ (List.mem_of_getElem? (i := 2) rfl)) (by decide) (by decide)) (g := (mkF m 108 #[.val (.int p0), .val (.int p1), .val (.int p2), .val (.int p3), .val (.int p4), .val (.int (f1 p0)), .val (.int (f1 p1)), .val (.int (f1 p2)), .val (.int (f1 p3)), .val (.ref b5), .val (.long (((1 : Int32) + (p4 &&& (3 : Int32))).toInt64)), .second, .val (.int (e0_1 p0 p1 p2 p3 p4)), .unset, .unset, .unset, .unset, .unset, .unset, .unset] [(.int (f1 p0)), (.int (0 : Int32))])) rfl (by rw [hml]; rfl) (argsL := [(.int (0 : Int32)), (.int (f1 p0))]) (rest := []) (lenOf pd_0_5 rfl) rfl (by show 2 * 0 + _ ≤ _; exact Nat.le_of_eq rfl) (hb hby at_108) (fun _ _ => ⟨rfl, e48q, (by decide : 2 + 0 ≤ _), (by decide : 65547 + 0 ≤ _)⟩)
  dsimp only [Pt.U, Pt.locs, Pt.cells, Pt.slots] at X50 l50 y50 z50 st50 hQ50
  subst l50 y50 z50
  obtain ⟨rfl, N50q, e50q⟩ := hQ50
  have N50 := Fr.app N48 N50q
  obtain ⟨_, _, ⟨T51, L51, k51, n51⟩, -, X51, ⟨Lc51, hQ51, l51, y51, z51⟩, st51⟩ := Jvm.LawKit.callS X50 hx (y := (⟨"com/example/cistern/cistern/io/CsvReaderInRecordPinLaw", "step", "(IB)I"⟩ : MethodName)) hown (mvT hZ (hw _ (List.mem_of_getElem? (i := 83) rfl))) (mvT hZ (hw _ (List.mem_of_getElem? (i := 84) rfl))) (mvT hZ (hw _ (List.mem_of_getElem? (i := 2) rfl))) (mvT hZ (hw _ (List.mem_of_getElem? (i := 85) rfl))) (by decide) (backOf (W := 0) (rm12 l Z a0 hw [] ((f12 (0 : Int32) (f1 p0)) &&& (3 : Int32)) (f1 p1) T41.heap n0 Z47 ) hZ (hw _ (List.mem_of_getElem? (i := 85) rfl)) (hw _ (List.mem_of_getElem? (i := 2) rfl)) (by decide) (by decide)) (g := (mkF m 125 #[.val (.int p0), .val (.int p1), .val (.int p2), .val (.int p3), .val (.int p4), .val (.int (f1 p0)), .val (.int (f1 p1)), .val (.int (f1 p2)), .val (.int (f1 p3)), .val (.ref b5), .val (.long (((1 : Int32) + (p4 &&& (3 : Int32))).toInt64)), .second, .val (.int (e0_1 p0 p1 p2 p3 p4)), .val (.int (f12 (0 : Int32) (f1 p0))), .val (.int ((f12 (0 : Int32) (f1 p0)) >>> ((2 : Int32) &&& 31))), .unset, .unset, .unset, .unset, .unset] [(.int (f1 p1)), (.int ((f12 (0 : Int32) (f1 p0)) &&& (3 : Int32)))])) rfl (by rw [hml]; rfl) (argsL := [(.int ((f12 (0 : Int32) (f1 p0)) &&& (3 : Int32))), (.int (f1 p1))]) (rest := []) (lenOf pd_0_5 rfl) rfl (by show 2 * 0 + _ ≤ _; exact Nat.le_of_eq rfl) (hb hby at_125) (fun _ _ => ⟨rfl, e50q, (by decide : 2 + 0 ≤ _), (by decide : 65547 + 0 ≤ _)⟩)
  dsimp only [Pt.U, Pt.locs, Pt.cells, Pt.slots] at X51 l51 y51 z51 st51 hQ51
  subst l51 y51 z51
  obtain ⟨rfl, N51q, e51q⟩ := hQ51
  have N51 := Fr.app N50 N51q
  obtain ⟨_, _, ⟨T52, L52, k52, n52⟩, -, X52, ⟨Lc52, hQ52, l52, y52, z52⟩, st52⟩ := Jvm.LawKit.callS X51 hx (y := (⟨"com/example/cistern/cistern/io/CsvReaderInRecordPinLaw", "step", "(IB)I"⟩ : MethodName)) hown (mvT hZ (hw _ (List.mem_of_getElem? (i := 83) rfl))) (mvT hZ (hw _ (List.mem_of_getElem? (i := 84) rfl))) (mvT hZ (hw _ (List.mem_of_getElem? (i := 2) rfl))) (mvT hZ (hw _ (List.mem_of_getElem? (i := 85) rfl))) (by decide) (backOf (W := 0) (rm12 l Z a0 hw [] ((f12 ((f12 (0 : Int32) (f1 p0)) &&& (3 : Int32)) (f1 p1)) &&& (3 : Int32)) (f1 p2) T41.heap n0 Z47 ) hZ (hw _ (List.mem_of_getElem? (i := 85) rfl)) (hw _ (List.mem_of_getElem? (i := 2) rfl)) (by decide) (by decide)) (g := (mkF m 145 #[.val (.int p0), .val (.int p1), .val (.int p2), .val (.int p3), .val (.int p4), .val (.int (f1 p0)), .val (.int (f1 p1)), .val (.int (f1 p2)), .val (.int (f1 p3)), .val (.ref b5), .val (.long (((1 : Int32) + (p4 &&& (3 : Int32))).toInt64)), .second, .val (.int (e0_1 p0 p1 p2 p3 p4)), .val (.int (f12 (0 : Int32) (f1 p0))), .val (.int (e0_2 p0 p1)), .val (.int (f12 ((f12 (0 : Int32) (f1 p0)) &&& (3 : Int32)) (f1 p1))), .unset, .unset, .unset, .unset] [(.int (f1 p2)), (.int ((f12 ((f12 (0 : Int32) (f1 p0)) &&& (3 : Int32)) (f1 p1)) &&& (3 : Int32)))])) rfl (by rw [hml]; rfl) (argsL := [(.int ((f12 ((f12 (0 : Int32) (f1 p0)) &&& (3 : Int32)) (f1 p1)) &&& (3 : Int32))), (.int (f1 p2))]) (rest := []) (lenOf pd_0_5 rfl) rfl (by show 2 * 0 + _ ≤ _; exact Nat.le_of_eq rfl) (hb hby at_145) (fun _ _ => ⟨rfl, e51q, (by decide : 2 + 0 ≤ _), (by decide : 65547 + 0 ≤ _)⟩)
  dsimp only [Pt.U, Pt.locs, Pt.cells, Pt.slots] at X52 l52 y52 z52 st52 hQ52
  subst l52 y52 z52
  obtain ⟨rfl, N52q, e52q⟩ := hQ52
  have N52 := Fr.app N51 N52q
  obtain ⟨_, _, ⟨T53, L53, k53, n53⟩, -, X53, ⟨Lc53, hQ53, l53, y53, z53⟩, st53⟩ := Jvm.LawKit.callS X52 hx (y := (⟨"com/example/cistern/cistern/io/CsvReaderInRecordPinLaw", "step", "(IB)I"⟩ : MethodName)) hown (mvT hZ (hw _ (List.mem_of_getElem? (i := 83) rfl))) (mvT hZ (hw _ (List.mem_of_getElem? (i := 84) rfl))) (mvT hZ (hw _ (List.mem_of_getElem? (i := 2) rfl))) (mvT hZ (hw _ (List.mem_of_getElem? (i := 85) rfl))) (by decide) (backOf (W := 0) (rm12 l Z a0 hw [] ((e0_3 p0 p1 p2) &&& (3 : Int32)) (f1 p3) T41.heap n0 Z47 ) hZ (hw _ (List.mem_of_getElem? (i := 85) rfl)) (hw _ (List.mem_of_getElem? (i := 2) rfl)) (by decide) (by decide)) (g := (mkF m 165 #[.val (.int p0), .val (.int p1), .val (.int p2), .val (.int p3), .val (.int p4), .val (.int (f1 p0)), .val (.int (f1 p1)), .val (.int (f1 p2)), .val (.int (f1 p3)), .val (.ref b5), .val (.long (((1 : Int32) + (p4 &&& (3 : Int32))).toInt64)), .second, .val (.int (e0_1 p0 p1 p2 p3 p4)), .val (.int (f12 (0 : Int32) (f1 p0))), .val (.int ((e0_2 p0 p1) + ((e0_3 p0 p1 p2) >>> ((2 : Int32) &&& 31)))), .val (.int (f12 ((f12 (0 : Int32) (f1 p0)) &&& (3 : Int32)) (f1 p1))), .val (.int (e0_3 p0 p1 p2)), .unset, .unset, .unset] [(.int (f1 p3)), (.int ((e0_3 p0 p1 p2) &&& (3 : Int32)))])) rfl (by rw [hml]; rfl) (argsL := [(.int ((e0_3 p0 p1 p2) &&& (3 : Int32))), (.int (f1 p3))]) (rest := []) (lenOf pd_0_5 rfl) rfl (by show 2 * 0 + _ ≤ _; exact Nat.le_of_eq rfl) (hb hby at_165) (fun _ _ => ⟨rfl, e52q, (by decide : 2 + 0 ≤ _), (by decide : 65547 + 0 ≤ _)⟩)
  dsimp only [Pt.U, Pt.locs, Pt.cells, Pt.slots] at X53 l53 y53 z53 st53 hQ53
  subst l53 y53 z53
  obtain ⟨rfl, N53q, e53q⟩ := hQ53
  have N53 := Fr.app N52 N53q
  have pre54 : ∀ t, Steps p.tables e below (T53.setTop (mkF m 179 #[.val (.int p0), .val (.int p1), .val (.int p2), .val (.int p3), .val (.int p4), .val (.int (f1 p0)), .val (.int (f1 p1)), .val (.int (f1 p2)), .val (.int (f1 p3)), .val (.ref b5), .val (.long (((1 : Int32) + (p4 &&& (3 : Int32))).toInt64)), .second, .val (.int (e0_1 p0 p1 p2 p3 p4)), .val (.int (f12 (0 : Int32) (f1 p0))), .val (.int (e0_4 p0 p1 p2 p3)), .val (.int (f12 ((f12 (0 : Int32) (f1 p0)) &&& (3 : Int32)) (f1 p1))), .val (.int (e0_3 p0 p1 p2)), .val (.int (f12 ((e0_3 p0 p1 p2) &&& (3 : Int32)) (f1 p3))), .unset, .unset] [])) t → Steps p.tables e below (s₁.setTop (entryFrame m #[(.int p0), (.int p1), (.int p2), (.int p3), (.int p4)] maxLocals)) t := fun t kt => pre0 t (by
      show Steps p.tables e below (s₁.setTop (mkF m 0 #[.val (.int p0), .val (.int p1), .val (.int p2), .val (.int p3), .val (.int p4), .unset, .unset, .unset, .unset, .unset, .unset, .unset, .unset, .unset, .unset, .unset, .unset, .unset, .unset, .unset] [])) _
      refine XS.iloadN X0.here hx rfl (hb hby at_0) rfl ?_
      show Steps p.tables e below (s₁.setTop (mkF m 1 #[.val (.int p0), .val (.int p1), .val (.int p2), .val (.int p3), .val (.int p4), .unset, .unset, .unset, .unset, .unset, .unset, .unset, .unset, .unset, .unset, .unset, .unset, .unset, .unset, .unset] [(.int p0)])) _
      refine st1 _ ?_
      show Steps p.tables e below (T1.setTop (mkF m 4 #[.val (.int p0), .val (.int p1), .val (.int p2), .val (.int p3), .val (.int p4), .unset, .unset, .unset, .unset, .unset, .unset, .unset, .unset, .unset, .unset, .unset, .unset, .unset, .unset, .unset] [(.int (f1 p0))])) _
      refine XS.istore X1.here hx rfl (hb hby at_4) rfl (l' := #[.val (.int p0), .val (.int p1), .val (.int p2), .val (.int p3), .val (.int p4), .val (.int (f1 p0)), .unset, .unset, .unset, .unset, .unset, .unset, .unset, .unset, .unset, .unset, .unset, .unset, .unset, .unset]) rfl ?_
      show Steps p.tables e below (T1.setTop (mkF m 6 #[.val (.int p0), .val (.int p1), .val (.int p2), .val (.int p3), .val (.int p4), .val (.int (f1 p0)), .unset, .unset, .unset, .unset, .unset, .unset, .unset, .unset, .unset, .unset, .unset, .unset, .unset, .unset] [])) _
      refine XS.iloadN X1.here hx rfl (hb hby at_6) rfl ?_
      show Steps p.tables e below (T1.setTop (mkF m 7 #[.val (.int p0), .val (.int p1), .val (.int p2), .val (.int p3), .val (.int p4), .val (.int (f1 p0)), .unset, .unset, .unset, .unset, .unset, .unset, .unset, .unset, .unset, .unset, .unset, .unset, .unset, .unset] [(.int p1)])) _
      refine st2 _ ?_
      show Steps p.tables e below (T2.setTop (mkF m 10 #[.val (.int p0), .val (.int p1), .val (.int p2), .val (.int p3), .val (.int p4), .val (.int (f1 p0)), .unset, .unset, .unset, .unset, .unset, .unset, .unset, .unset, .unset, .unset, .unset, .unset, .unset, .unset] [(.int (f1 p1))])) _
      refine XS.istore X2.here hx rfl (hb hby at_10) rfl (l' := #[.val (.int p0), .val (.int p1), .val (.int p2), .val (.int p3), .val (.int p4), .val (.int (f1 p0)), .val (.int (f1 p1)), .unset, .unset, .unset, .unset, .unset, .unset, .unset, .unset, .unset, .unset, .unset, .unset, .unset]) rfl ?_
      show Steps p.tables e below (T2.setTop (mkF m 12 #[.val (.int p0), .val (.int p1), .val (.int p2), .val (.int p3), .val (.int p4), .val (.int (f1 p0)), .val (.int (f1 p1)), .unset, .unset, .unset, .unset, .unset, .unset, .unset, .unset, .unset, .unset, .unset, .unset, .unset] [])) _
      refine XS.iloadN X2.here hx rfl (hb hby at_12) rfl ?_
      show Steps p.tables e below (T2.setTop (mkF m 13 #[.val (.int p0), .val (.int p1), .val (.int p2), .val (.int p3), .val (.int p4), .val (.int (f1 p0)), .val (.int (f1 p1)), .unset, .unset, .unset, .unset, .unset, .unset, .unset, .unset, .unset, .unset, .unset, .unset, .unset] [(.int p2)])) _
      refine st3 _ ?_
      show Steps p.tables e below (T3.setTop (mkF m 16 #[.val (.int p0), .val (.int p1), .val (.int p2), .val (.int p3), .val (.int p4), .val (.int (f1 p0)), .val (.int (f1 p1)), .unset, .unset, .unset, .unset, .unset, .unset, .unset, .unset, .unset, .unset, .unset, .unset, .unset] [(.int (f1 p2))])) _
      refine XS.istore X3.here hx rfl (hb hby at_16) rfl (l' := #[.val (.int p0), .val (.int p1), .val (.int p2), .val (.int p3), .val (.int p4), .val (.int (f1 p0)), .val (.int (f1 p1)), .val (.int (f1 p2)), .unset, .unset, .unset, .unset, .unset, .unset, .unset, .unset, .unset, .unset, .unset, .unset]) rfl ?_
      show Steps p.tables e below (T3.setTop (mkF m 18 #[.val (.int p0), .val (.int p1), .val (.int p2), .val (.int p3), .val (.int p4), .val (.int (f1 p0)), .val (.int (f1 p1)), .val (.int (f1 p2)), .unset, .unset, .unset, .unset, .unset, .unset, .unset, .unset, .unset, .unset, .unset, .unset] [])) _
      refine XS.iloadN X3.here hx rfl (hb hby at_18) rfl ?_
      show Steps p.tables e below (T3.setTop (mkF m 19 #[.val (.int p0), .val (.int p1), .val (.int p2), .val (.int p3), .val (.int p4), .val (.int (f1 p0)), .val (.int (f1 p1)), .val (.int (f1 p2)), .unset, .unset, .unset, .unset, .unset, .unset, .unset, .unset, .unset, .unset, .unset, .unset] [(.int p3)])) _
      refine st4 _ ?_
      show Steps p.tables e below (T4.setTop (mkF m 22 #[.val (.int p0), .val (.int p1), .val (.int p2), .val (.int p3), .val (.int p4), .val (.int (f1 p0)), .val (.int (f1 p1)), .val (.int (f1 p2)), .unset, .unset, .unset, .unset, .unset, .unset, .unset, .unset, .unset, .unset, .unset, .unset] [(.int (f1 p3))])) _
      refine XS.istore X4.here hx rfl (hb hby at_22) rfl (l' := #[.val (.int p0), .val (.int p1), .val (.int p2), .val (.int p3), .val (.int p4), .val (.int (f1 p0)), .val (.int (f1 p1)), .val (.int (f1 p2)), .val (.int (f1 p3)), .unset, .unset, .unset, .unset, .unset, .unset, .unset, .unset, .unset, .unset, .unset]) rfl ?_
      show Steps p.tables e below (T4.setTop (mkF m 24 #[.val (.int p0), .val (.int p1), .val (.int p2), .val (.int p3), .val (.int p4), .val (.int (f1 p0)), .val (.int (f1 p1)), .val (.int (f1 p2)), .val (.int (f1 p3)), .unset, .unset, .unset, .unset, .unset, .unset, .unset, .unset, .unset, .unset, .unset] [])) _
      refine st5 _ ?_
      show Steps p.tables e below (T5.setTop (mkF m 27 #[.val (.int p0), .val (.int p1), .val (.int p2), .val (.int p3), .val (.int p4), .val (.int (f1 p0)), .val (.int (f1 p1)), .val (.int (f1 p2)), .val (.int (f1 p3)), .unset, .unset, .unset, .unset, .unset, .unset, .unset, .unset, .unset, .unset, .unset] [(.ref b5)])) _
      refine XS.dup X5.here hx rfl (hb hby at_27) rfl rfl ?_
      show Steps p.tables e below (T5.setTop (mkF m 28 #[.val (.int p0), .val (.int p1), .val (.int p2), .val (.int p3), .val (.int p4), .val (.int (f1 p0)), .val (.int (f1 p1)), .val (.int (f1 p2)), .val (.int (f1 p3)), .unset, .unset, .unset, .unset, .unset, .unset, .unset, .unset, .unset, .unset, .unset] [(.ref b5), (.ref b5)])) _
      refine st8.trans ?_
      show Steps p.tables e below (T8.setTop (mkF m 31 #[.val (.int p0), .val (.int p1), .val (.int p2), .val (.int p3), .val (.int p4), .val (.int (f1 p0)), .val (.int (f1 p1)), .val (.int (f1 p2)), .val (.int (f1 p3)), .unset, .unset, .unset, .unset, .unset, .unset, .unset, .unset, .unset, .unset, .unset] [(.ref b5)])) _
      refine XS.astore X8.here hx rfl (hb hby at_31) rfl rfl (l' := #[.val (.int p0), .val (.int p1), .val (.int p2), .val (.int p3), .val (.int p4), .val (.int (f1 p0)), .val (.int (f1 p1)), .val (.int (f1 p2)), .val (.int (f1 p3)), .val (.ref b5), .unset, .unset, .unset, .unset, .unset, .unset, .unset, .unset, .unset, .unset]) rfl ?_
      show Steps p.tables e below (T8.setTop (mkF m 33 #[.val (.int p0), .val (.int p1), .val (.int p2), .val (.int p3), .val (.int p4), .val (.int (f1 p0)), .val (.int (f1 p1)), .val (.int (f1 p2)), .val (.int (f1 p3)), .val (.ref b5), .unset, .unset, .unset, .unset, .unset, .unset, .unset, .unset, .unset, .unset] [])) _
      refine XS.aload X8.here hx rfl (hb hby at_33) rfl rfl ?_
      show Steps p.tables e below (T8.setTop (mkF m 35 #[.val (.int p0), .val (.int p1), .val (.int p2), .val (.int p3), .val (.int p4), .val (.int (f1 p0)), .val (.int (f1 p1)), .val (.int (f1 p2)), .val (.int (f1 p3)), .val (.ref b5), .unset, .unset, .unset, .unset, .unset, .unset, .unset, .unset, .unset, .unset] [(.ref b5)])) _
      refine XS.aconstNull X8.here hx rfl (hb hby at_35) ?_
      show Steps p.tables e below (T8.setTop (mkF m 36 #[.val (.int p0), .val (.int p1), .val (.int p2), .val (.int p3), .val (.int p4), .val (.int (f1 p0)), .val (.int (f1 p1)), .val (.int (f1 p2)), .val (.int (f1 p3)), .val (.ref b5), .unset, .unset, .unset, .unset, .unset, .unset, .unset, .unset, .unset, .unset] [.null, (.ref b5)])) _
      refine st12.trans ?_
      show Steps p.tables e below (T12.setTop (mkF m 39 #[.val (.int p0), .val (.int p1), .val (.int p2), .val (.int p3), .val (.int p4), .val (.int (f1 p0)), .val (.int (f1 p1)), .val (.int (f1 p2)), .val (.int (f1 p3)), .val (.ref b5), .unset, .unset, .unset, .unset, .unset, .unset, .unset, .unset, .unset, .unset] [])) _
      refine XS.aload X12.here hx rfl (hb hby at_39) rfl rfl ?_
      show Steps p.tables e below (T12.setTop (mkF m 41 #[.val (.int p0), .val (.int p1), .val (.int p2), .val (.int p3), .val (.int p4), .val (.int (f1 p0)), .val (.int (f1 p1)), .val (.int (f1 p2)), .val (.int (f1 p3)), .val (.ref b5), .unset, .unset, .unset, .unset, .unset, .unset, .unset, .unset, .unset, .unset] [(.ref b5)])) _
      refine st15 _ ?_
      show Steps p.tables e below (T15.setTop (mkF m 44 #[.val (.int p0), .val (.int p1), .val (.int p2), .val (.int p3), .val (.int p4), .val (.int (f1 p0)), .val (.int (f1 p1)), .val (.int (f1 p2)), .val (.int (f1 p3)), .val (.ref b5), .unset, .unset, .unset, .unset, .unset, .unset, .unset, .unset, .unset, .unset] [(.ref r_o0__buffer_8)])) _
      refine XS.iconst X15.here hx rfl (hb hby at_44) ?_
      show Steps p.tables e below (T15.setTop (mkF m 45 #[.val (.int p0), .val (.int p1), .val (.int p2), .val (.int p3), .val (.int p4), .val (.int (f1 p0)), .val (.int (f1 p1)), .val (.int (f1 p2)), .val (.int (f1 p3)), .val (.ref b5), .unset, .unset, .unset, .unset, .unset, .unset, .unset, .unset, .unset, .unset] [(.int (1 : Int32)), (.ref r_o0__buffer_8)])) _
      refine XS.iload X15.here hx rfl (hb hby at_45) rfl ?_
      show Steps p.tables e below (T15.setTop (mkF m 47 #[.val (.int p0), .val (.int p1), .val (.int p2), .val (.int p3), .val (.int p4), .val (.int (f1 p0)), .val (.int (f1 p1)), .val (.int (f1 p2)), .val (.int (f1 p3)), .val (.ref b5), .unset, .unset, .unset, .unset, .unset, .unset, .unset, .unset, .unset, .unset] [(.int (f1 p0)), (.int (1 : Int32)), (.ref r_o0__buffer_8)])) _
      refine st17 _ ?_
      show Steps p.tables e below (T17.setTop (mkF m 48 #[.val (.int p0), .val (.int p1), .val (.int p2), .val (.int p3), .val (.int p4), .val (.int (f1 p0)), .val (.int (f1 p1)), .val (.int (f1 p2)), .val (.int (f1 p3)), .val (.ref b5), .unset, .unset, .unset, .unset, .unset, .unset, .unset, .unset, .unset, .unset] [])) _
      refine XS.aload X17.here hx rfl (hb hby at_48) rfl rfl ?_
      show Steps p.tables e below (T17.setTop (mkF m 50 #[.val (.int p0), .val (.int p1), .val (.int p2), .val (.int p3), .val (.int p4), .val (.int (f1 p0)), .val (.int (f1 p1)), .val (.int (f1 p2)), .val (.int (f1 p3)), .val (.ref b5), .unset, .unset, .unset, .unset, .unset, .unset, .unset, .unset, .unset, .unset] [(.ref b5)])) _
      refine st20 _ ?_
      show Steps p.tables e below (T20.setTop (mkF m 53 #[.val (.int p0), .val (.int p1), .val (.int p2), .val (.int p3), .val (.int p4), .val (.int (f1 p0)), .val (.int (f1 p1)), .val (.int (f1 p2)), .val (.int (f1 p3)), .val (.ref b5), .unset, .unset, .unset, .unset, .unset, .unset, .unset, .unset, .unset, .unset] [(.ref r_o0__buffer_8)])) _
      refine XS.iconst X20.here hx rfl (hb hby at_53) ?_
      show Steps p.tables e below (T20.setTop (mkF m 54 #[.val (.int p0), .val (.int p1), .val (.int p2), .val (.int p3), .val (.int p4), .val (.int (f1 p0)), .val (.int (f1 p1)), .val (.int (f1 p2)), .val (.int (f1 p3)), .val (.ref b5), .unset, .unset, .unset, .unset, .unset, .unset, .unset, .unset, .unset, .unset] [(.int (2 : Int32)), (.ref r_o0__buffer_8)])) _
      refine XS.iload X20.here hx rfl (hb hby at_54) rfl ?_
      show Steps p.tables e below (T20.setTop (mkF m 56 #[.val (.int p0), .val (.int p1), .val (.int p2), .val (.int p3), .val (.int p4), .val (.int (f1 p0)), .val (.int (f1 p1)), .val (.int (f1 p2)), .val (.int (f1 p3)), .val (.ref b5), .unset, .unset, .unset, .unset, .unset, .unset, .unset, .unset, .unset, .unset] [(.int (f1 p1)), (.int (2 : Int32)), (.ref r_o0__buffer_8)])) _
      refine st22 _ ?_
      show Steps p.tables e below (T22.setTop (mkF m 57 #[.val (.int p0), .val (.int p1), .val (.int p2), .val (.int p3), .val (.int p4), .val (.int (f1 p0)), .val (.int (f1 p1)), .val (.int (f1 p2)), .val (.int (f1 p3)), .val (.ref b5), .unset, .unset, .unset, .unset, .unset, .unset, .unset, .unset, .unset, .unset] [])) _
      refine XS.aload X22.here hx rfl (hb hby at_57) rfl rfl ?_
      show Steps p.tables e below (T22.setTop (mkF m 59 #[.val (.int p0), .val (.int p1), .val (.int p2), .val (.int p3), .val (.int p4), .val (.int (f1 p0)), .val (.int (f1 p1)), .val (.int (f1 p2)), .val (.int (f1 p3)), .val (.ref b5), .unset, .unset, .unset, .unset, .unset, .unset, .unset, .unset, .unset, .unset] [(.ref b5)])) _
      refine st26 _ ?_
      show Steps p.tables e below (T26.setTop (mkF m 62 #[.val (.int p0), .val (.int p1), .val (.int p2), .val (.int p3), .val (.int p4), .val (.int (f1 p0)), .val (.int (f1 p1)), .val (.int (f1 p2)), .val (.int (f1 p3)), .val (.ref b5), .unset, .unset, .unset, .unset, .unset, .unset, .unset, .unset, .unset, .unset] [(.ref r_o0__buffer_8)])) _
      refine XS.iconst X26.here hx rfl (hb hby at_62) ?_
      show Steps p.tables e below (T26.setTop (mkF m 63 #[.val (.int p0), .val (.int p1), .val (.int p2), .val (.int p3), .val (.int p4), .val (.int (f1 p0)), .val (.int (f1 p1)), .val (.int (f1 p2)), .val (.int (f1 p3)), .val (.ref b5), .unset, .unset, .unset, .unset, .unset, .unset, .unset, .unset, .unset, .unset] [(.int (3 : Int32)), (.ref r_o0__buffer_8)])) _
      refine XS.iload X26.here hx rfl (hb hby at_63) rfl ?_
      show Steps p.tables e below (T26.setTop (mkF m 65 #[.val (.int p0), .val (.int p1), .val (.int p2), .val (.int p3), .val (.int p4), .val (.int (f1 p0)), .val (.int (f1 p1)), .val (.int (f1 p2)), .val (.int (f1 p3)), .val (.ref b5), .unset, .unset, .unset, .unset, .unset, .unset, .unset, .unset, .unset, .unset] [(.int (f1 p2)), (.int (3 : Int32)), (.ref r_o0__buffer_8)])) _
      refine st28 _ ?_
      show Steps p.tables e below (T28.setTop (mkF m 66 #[.val (.int p0), .val (.int p1), .val (.int p2), .val (.int p3), .val (.int p4), .val (.int (f1 p0)), .val (.int (f1 p1)), .val (.int (f1 p2)), .val (.int (f1 p3)), .val (.ref b5), .unset, .unset, .unset, .unset, .unset, .unset, .unset, .unset, .unset, .unset] [])) _
      refine XS.aload X28.here hx rfl (hb hby at_66) rfl rfl ?_
      show Steps p.tables e below (T28.setTop (mkF m 68 #[.val (.int p0), .val (.int p1), .val (.int p2), .val (.int p3), .val (.int p4), .val (.int (f1 p0)), .val (.int (f1 p1)), .val (.int (f1 p2)), .val (.int (f1 p3)), .val (.ref b5), .unset, .unset, .unset, .unset, .unset, .unset, .unset, .unset, .unset, .unset] [(.ref b5)])) _
      refine st31 _ ?_
      show Steps p.tables e below (T31.setTop (mkF m 71 #[.val (.int p0), .val (.int p1), .val (.int p2), .val (.int p3), .val (.int p4), .val (.int (f1 p0)), .val (.int (f1 p1)), .val (.int (f1 p2)), .val (.int (f1 p3)), .val (.ref b5), .unset, .unset, .unset, .unset, .unset, .unset, .unset, .unset, .unset, .unset] [(.ref r_o0__buffer_8)])) _
      refine XS.iconst X31.here hx rfl (hb hby at_71) ?_
      show Steps p.tables e below (T31.setTop (mkF m 72 #[.val (.int p0), .val (.int p1), .val (.int p2), .val (.int p3), .val (.int p4), .val (.int (f1 p0)), .val (.int (f1 p1)), .val (.int (f1 p2)), .val (.int (f1 p3)), .val (.ref b5), .unset, .unset, .unset, .unset, .unset, .unset, .unset, .unset, .unset, .unset] [(.int (4 : Int32)), (.ref r_o0__buffer_8)])) _
      refine XS.iload X31.here hx rfl (hb hby at_72) rfl ?_
      show Steps p.tables e below (T31.setTop (mkF m 74 #[.val (.int p0), .val (.int p1), .val (.int p2), .val (.int p3), .val (.int p4), .val (.int (f1 p0)), .val (.int (f1 p1)), .val (.int (f1 p2)), .val (.int (f1 p3)), .val (.ref b5), .unset, .unset, .unset, .unset, .unset, .unset, .unset, .unset, .unset, .unset] [(.int (f1 p3)), (.int (4 : Int32)), (.ref r_o0__buffer_8)])) _
      refine st33 _ ?_
      show Steps p.tables e below (T33.setTop (mkF m 75 #[.val (.int p0), .val (.int p1), .val (.int p2), .val (.int p3), .val (.int p4), .val (.int (f1 p0)), .val (.int (f1 p1)), .val (.int (f1 p2)), .val (.int (f1 p3)), .val (.ref b5), .unset, .unset, .unset, .unset, .unset, .unset, .unset, .unset, .unset, .unset] [])) _
      refine XS.aload X33.here hx rfl (hb hby at_75) rfl rfl ?_
      show Steps p.tables e below (T33.setTop (mkF m 77 #[.val (.int p0), .val (.int p1), .val (.int p2), .val (.int p3), .val (.int p4), .val (.int (f1 p0)), .val (.int (f1 p1)), .val (.int (f1 p2)), .val (.int (f1 p3)), .val (.ref b5), .unset, .unset, .unset, .unset, .unset, .unset, .unset, .unset, .unset, .unset] [(.ref b5)])) _
      refine XS.iconst X33.here hx rfl (hb hby at_77) ?_
      show Steps p.tables e below (T33.setTop (mkF m 78 #[.val (.int p0), .val (.int p1), .val (.int p2), .val (.int p3), .val (.int p4), .val (.int (f1 p0)), .val (.int (f1 p1)), .val (.int (f1 p2)), .val (.int (f1 p3)), .val (.ref b5), .unset, .unset, .unset, .unset, .unset, .unset, .unset, .unset, .unset, .unset] [(.int (5 : Int32)), (.ref b5)])) _
      refine st38 _ ?_
      show Steps p.tables e below (T38.setTop (mkF m 81 #[.val (.int p0), .val (.int p1), .val (.int p2), .val (.int p3), .val (.int p4), .val (.int (f1 p0)), .val (.int (f1 p1)), .val (.int (f1 p2)), .val (.int (f1 p3)), .val (.ref b5), .unset, .unset, .unset, .unset, .unset, .unset, .unset, .unset, .unset, .unset] [])) _
      refine XS.iconst X38.here hx rfl (hb hby at_81) ?_
      show Steps p.tables e below (T38.setTop (mkF m 82 #[.val (.int p0), .val (.int p1), .val (.int p2), .val (.int p3), .val (.int p4), .val (.int (f1 p0)), .val (.int (f1 p1)), .val (.int (f1 p2)), .val (.int (f1 p3)), .val (.ref b5), .unset, .unset, .unset, .unset, .unset, .unset, .unset, .unset, .unset, .unset] [(.int (1 : Int32))])) _
      refine XS.iload X38.here hx rfl (hb hby at_82) rfl ?_
      show Steps p.tables e below (T38.setTop (mkF m 84 #[.val (.int p0), .val (.int p1), .val (.int p2), .val (.int p3), .val (.int p4), .val (.int (f1 p0)), .val (.int (f1 p1)), .val (.int (f1 p2)), .val (.int (f1 p3)), .val (.ref b5), .unset, .unset, .unset, .unset, .unset, .unset, .unset, .unset, .unset, .unset] [(.int p4), (.int (1 : Int32))])) _
      refine XS.iconst X38.here hx rfl (hb hby at_84) ?_
      show Steps p.tables e below (T38.setTop (mkF m 85 #[.val (.int p0), .val (.int p1), .val (.int p2), .val (.int p3), .val (.int p4), .val (.int (f1 p0)), .val (.int (f1 p1)), .val (.int (f1 p2)), .val (.int (f1 p3)), .val (.ref b5), .unset, .unset, .unset, .unset, .unset, .unset, .unset, .unset, .unset, .unset] [(.int (3 : Int32)), (.int p4), (.int (1 : Int32))])) _
      refine XS.iand X38.here hx rfl (hb hby at_85) rfl ?_
      show Steps p.tables e below (T38.setTop (mkF m 86 #[.val (.int p0), .val (.int p1), .val (.int p2), .val (.int p3), .val (.int p4), .val (.int (f1 p0)), .val (.int (f1 p1)), .val (.int (f1 p2)), .val (.int (f1 p3)), .val (.ref b5), .unset, .unset, .unset, .unset, .unset, .unset, .unset, .unset, .unset, .unset] [(.int (p4 &&& (3 : Int32))), (.int (1 : Int32))])) _
      refine XS.iadd X38.here hx rfl (hb hby at_86) rfl ?_
      show Steps p.tables e below (T38.setTop (mkF m 87 #[.val (.int p0), .val (.int p1), .val (.int p2), .val (.int p3), .val (.int p4), .val (.int (f1 p0)), .val (.int (f1 p1)), .val (.int (f1 p2)), .val (.int (f1 p3)), .val (.ref b5), .unset, .unset, .unset, .unset, .unset, .unset, .unset, .unset, .unset, .unset] [(.int ((1 : Int32) + (p4 &&& (3 : Int32))))])) _
      refine XS.i2l X38.here hx rfl (hb hby at_87) rfl ?_
      show Steps p.tables e below (T38.setTop (mkF m 88 #[.val (.int p0), .val (.int p1), .val (.int p2), .val (.int p3), .val (.int p4), .val (.int (f1 p0)), .val (.int (f1 p1)), .val (.int (f1 p2)), .val (.int (f1 p3)), .val (.ref b5), .unset, .unset, .unset, .unset, .unset, .unset, .unset, .unset, .unset, .unset] [(.long (((1 : Int32) + (p4 &&& (3 : Int32))).toInt64))])) _
      refine XS.lstore X38.here hx rfl (hb hby at_88) rfl (l' := #[.val (.int p0), .val (.int p1), .val (.int p2), .val (.int p3), .val (.int p4), .val (.int (f1 p0)), .val (.int (f1 p1)), .val (.int (f1 p2)), .val (.int (f1 p3)), .val (.ref b5), .val (.long (((1 : Int32) + (p4 &&& (3 : Int32))).toInt64)), .second, .unset, .unset, .unset, .unset, .unset, .unset, .unset, .unset]) rfl ?_
      show Steps p.tables e below (T38.setTop (mkF m 90 #[.val (.int p0), .val (.int p1), .val (.int p2), .val (.int p3), .val (.int p4), .val (.int (f1 p0)), .val (.int (f1 p1)), .val (.int (f1 p2)), .val (.int (f1 p3)), .val (.ref b5), .val (.long (((1 : Int32) + (p4 &&& (3 : Int32))).toInt64)), .second, .unset, .unset, .unset, .unset, .unset, .unset, .unset, .unset] [])) _
      refine XS.aload X38.here hx rfl (hb hby at_90) rfl rfl ?_
      show Steps p.tables e below (T38.setTop (mkF m 92 #[.val (.int p0), .val (.int p1), .val (.int p2), .val (.int p3), .val (.int p4), .val (.int (f1 p0)), .val (.int (f1 p1)), .val (.int (f1 p2)), .val (.int (f1 p3)), .val (.ref b5), .val (.long (((1 : Int32) + (p4 &&& (3 : Int32))).toInt64)), .second, .unset, .unset, .unset, .unset, .unset, .unset, .unset, .unset] [(.ref b5)])) _
      refine XS.lload X38.here hx rfl (hb hby at_92) rfl ?_
      show Steps p.tables e below (T38.setTop (mkF m 94 #[.val (.int p0), .val (.int p1), .val (.int p2), .val (.int p3), .val (.int p4), .val (.int (f1 p0)), .val (.int (f1 p1)), .val (.int (f1 p2)), .val (.int (f1 p3)), .val (.ref b5), .val (.long (((1 : Int32) + (p4 &&& (3 : Int32))).toInt64)), .second, .unset, .unset, .unset, .unset, .unset, .unset, .unset, .unset] [(.long (((1 : Int32) + (p4 &&& (3 : Int32))).toInt64)), (.ref b5)])) _
      refine st41.trans ?_
      show Steps p.tables e below (T41.setTop (mkF m 97 #[.val (.int p0), .val (.int p1), .val (.int p2), .val (.int p3), .val (.int p4), .val (.int (f1 p0)), .val (.int (f1 p1)), .val (.int (f1 p2)), .val (.int (f1 p3)), .val (.ref b5), .val (.long (((1 : Int32) + (p4 &&& (3 : Int32))).toInt64)), .second, .unset, .unset, .unset, .unset, .unset, .unset, .unset, .unset] [(.long (f7 (((1 : Int32) + (p4 &&& (3 : Int32))).toInt64) (own_upd (own_upd (own_upd (own_upd (own_upd (fun _ => 0) 0 (10 : Int32)) 1 (nar .byte (f1 p0))) 2 (nar .byte (f1 p1))) 3 (nar .byte (f1 p2))) 4 (nar .byte (f1 p3)))))])) _
      jvm_step X41.here [X41.here.top, hx, (hb hby at_97), Value.category]
      show Steps p.tables e below (T41.setTop (mkF m 98 #[.val (.int p0), .val (.int p1), .val (.int p2), .val (.int p3), .val (.int p4), .val (.int (f1 p0)), .val (.int (f1 p1)), .val (.int (f1 p2)), .val (.int (f1 p3)), .val (.ref b5), .val (.long (((1 : Int32) + (p4 &&& (3 : Int32))).toInt64)), .second, .unset, .unset, .unset, .unset, .unset, .unset, .unset, .unset] [])) _
      refine XS.aload X41.here hx rfl (hb hby at_98) rfl rfl ?_
      show Steps p.tables e below (T41.setTop (mkF m 100 #[.val (.int p0), .val (.int p1), .val (.int p2), .val (.int p3), .val (.int p4), .val (.int (f1 p0)), .val (.int (f1 p1)), .val (.int (f1 p2)), .val (.int (f1 p3)), .val (.ref b5), .val (.long (((1 : Int32) + (p4 &&& (3 : Int32))).toInt64)), .second, .unset, .unset, .unset, .unset, .unset, .unset, .unset, .unset] [(.ref b5)])) _
      refine st48.trans ?_
      show Steps p.tables e below (T48.setTop (mkF m 103 #[.val (.int p0), .val (.int p1), .val (.int p2), .val (.int p3), .val (.int p4), .val (.int (f1 p0)), .val (.int (f1 p1)), .val (.int (f1 p2)), .val (.int (f1 p3)), .val (.ref b5), .val (.long (((1 : Int32) + (p4 &&& (3 : Int32))).toInt64)), .second, .unset, .unset, .unset, .unset, .unset, .unset, .unset, .unset] [(.int (f11 (f7_h__quoted (((1 : Int32) + (p4 &&& (3 : Int32))).toInt64) (own_upd (own_upd (own_upd (own_upd (own_upd (fun _ => 0) 0 (10 : Int32)) 1 (nar .byte (f1 p0))) 2 (nar .byte (f1 p1))) 3 (nar .byte (f1 p2))) 4 (nar .byte (f1 p3)))) (f7_h__start (((1 : Int32) + (p4 &&& (3 : Int32))).toInt64) (own_upd (own_upd (own_upd (own_upd (own_upd (fun _ => 0) 0 (10 : Int32)) 1 (nar .byte (f1 p0))) 2 (nar .byte (f1 p1))) 3 (nar .byte (f1 p2))) 4 (nar .byte (f1 p3)))) (own_upd (own_upd (own_upd (own_upd (own_upd (fun _ => 0) 0 (10 : Int32)) 1 (nar .byte (f1 p0))) 2 (nar .byte (f1 p1))) 3 (nar .byte (f1 p2))) 4 (nar .byte (f1 p3)))))])) _
      refine XS.istore X48.here hx rfl (hb hby at_103) rfl (l' := #[.val (.int p0), .val (.int p1), .val (.int p2), .val (.int p3), .val (.int p4), .val (.int (f1 p0)), .val (.int (f1 p1)), .val (.int (f1 p2)), .val (.int (f1 p3)), .val (.ref b5), .val (.long (((1 : Int32) + (p4 &&& (3 : Int32))).toInt64)), .second, .val (.int (e0_1 p0 p1 p2 p3 p4)), .unset, .unset, .unset, .unset, .unset, .unset, .unset]) rfl ?_
      show Steps p.tables e below (T48.setTop (mkF m 105 #[.val (.int p0), .val (.int p1), .val (.int p2), .val (.int p3), .val (.int p4), .val (.int (f1 p0)), .val (.int (f1 p1)), .val (.int (f1 p2)), .val (.int (f1 p3)), .val (.ref b5), .val (.long (((1 : Int32) + (p4 &&& (3 : Int32))).toInt64)), .second, .val (.int (e0_1 p0 p1 p2 p3 p4)), .unset, .unset, .unset, .unset, .unset, .unset, .unset] [])) _
      refine XS.iconst X48.here hx rfl (hb hby at_105) ?_
      show Steps p.tables e below (T48.setTop (mkF m 106 #[.val (.int p0), .val (.int p1), .val (.int p2), .val (.int p3), .val (.int p4), .val (.int (f1 p0)), .val (.int (f1 p1)), .val (.int (f1 p2)), .val (.int (f1 p3)), .val (.ref b5), .val (.long (((1 : Int32) + (p4 &&& (3 : Int32))).toInt64)), .second, .val (.int (e0_1 p0 p1 p2 p3 p4)), .unset, .unset, .unset, .unset, .unset, .unset, .unset] [(.int (0 : Int32))])) _
      refine XS.iload X48.here hx rfl (hb hby at_106) rfl ?_
      show Steps p.tables e below (T48.setTop (mkF m 108 #[.val (.int p0), .val (.int p1), .val (.int p2), .val (.int p3), .val (.int p4), .val (.int (f1 p0)), .val (.int (f1 p1)), .val (.int (f1 p2)), .val (.int (f1 p3)), .val (.ref b5), .val (.long (((1 : Int32) + (p4 &&& (3 : Int32))).toInt64)), .second, .val (.int (e0_1 p0 p1 p2 p3 p4)), .unset, .unset, .unset, .unset, .unset, .unset, .unset] [(.int (f1 p0)), (.int (0 : Int32))])) _
      refine st50 _ ?_
      show Steps p.tables e below (T50.setTop (mkF m 111 #[.val (.int p0), .val (.int p1), .val (.int p2), .val (.int p3), .val (.int p4), .val (.int (f1 p0)), .val (.int (f1 p1)), .val (.int (f1 p2)), .val (.int (f1 p3)), .val (.ref b5), .val (.long (((1 : Int32) + (p4 &&& (3 : Int32))).toInt64)), .second, .val (.int (e0_1 p0 p1 p2 p3 p4)), .unset, .unset, .unset, .unset, .unset, .unset, .unset] [(.int (f12 (0 : Int32) (f1 p0)))])) _
      refine XS.istore X50.here hx rfl (hb hby at_111) rfl (l' := #[.val (.int p0), .val (.int p1), .val (.int p2), .val (.int p3), .val (.int p4), .val (.int (f1 p0)), .val (.int (f1 p1)), .val (.int (f1 p2)), .val (.int (f1 p3)), .val (.ref b5), .val (.long (((1 : Int32) + (p4 &&& (3 : Int32))).toInt64)), .second, .val (.int (e0_1 p0 p1 p2 p3 p4)), .val (.int (f12 (0 : Int32) (f1 p0))), .unset, .unset, .unset, .unset, .unset, .unset]) rfl ?_
      show Steps p.tables e below (T50.setTop (mkF m 113 #[.val (.int p0), .val (.int p1), .val (.int p2), .val (.int p3), .val (.int p4), .val (.int (f1 p0)), .val (.int (f1 p1)), .val (.int (f1 p2)), .val (.int (f1 p3)), .val (.ref b5), .val (.long (((1 : Int32) + (p4 &&& (3 : Int32))).toInt64)), .second, .val (.int (e0_1 p0 p1 p2 p3 p4)), .val (.int (f12 (0 : Int32) (f1 p0))), .unset, .unset, .unset, .unset, .unset, .unset] [])) _
      refine XS.iload X50.here hx rfl (hb hby at_113) rfl ?_
      show Steps p.tables e below (T50.setTop (mkF m 115 #[.val (.int p0), .val (.int p1), .val (.int p2), .val (.int p3), .val (.int p4), .val (.int (f1 p0)), .val (.int (f1 p1)), .val (.int (f1 p2)), .val (.int (f1 p3)), .val (.ref b5), .val (.long (((1 : Int32) + (p4 &&& (3 : Int32))).toInt64)), .second, .val (.int (e0_1 p0 p1 p2 p3 p4)), .val (.int (f12 (0 : Int32) (f1 p0))), .unset, .unset, .unset, .unset, .unset, .unset] [(.int (f12 (0 : Int32) (f1 p0)))])) _
      refine XS.iconst X50.here hx rfl (hb hby at_115) ?_
      show Steps p.tables e below (T50.setTop (mkF m 116 #[.val (.int p0), .val (.int p1), .val (.int p2), .val (.int p3), .val (.int p4), .val (.int (f1 p0)), .val (.int (f1 p1)), .val (.int (f1 p2)), .val (.int (f1 p3)), .val (.ref b5), .val (.long (((1 : Int32) + (p4 &&& (3 : Int32))).toInt64)), .second, .val (.int (e0_1 p0 p1 p2 p3 p4)), .val (.int (f12 (0 : Int32) (f1 p0))), .unset, .unset, .unset, .unset, .unset, .unset] [(.int (2 : Int32)), (.int (f12 (0 : Int32) (f1 p0)))])) _
      refine XS.ishr X50.here hx rfl (hb hby at_116) rfl ?_
      show Steps p.tables e below (T50.setTop (mkF m 117 #[.val (.int p0), .val (.int p1), .val (.int p2), .val (.int p3), .val (.int p4), .val (.int (f1 p0)), .val (.int (f1 p1)), .val (.int (f1 p2)), .val (.int (f1 p3)), .val (.ref b5), .val (.long (((1 : Int32) + (p4 &&& (3 : Int32))).toInt64)), .second, .val (.int (e0_1 p0 p1 p2 p3 p4)), .val (.int (f12 (0 : Int32) (f1 p0))), .unset, .unset, .unset, .unset, .unset, .unset] [(.int ((f12 (0 : Int32) (f1 p0)) >>> ((2 : Int32) &&& 31)))])) _
      refine XS.istore X50.here hx rfl (hb hby at_117) rfl (l' := #[.val (.int p0), .val (.int p1), .val (.int p2), .val (.int p3), .val (.int p4), .val (.int (f1 p0)), .val (.int (f1 p1)), .val (.int (f1 p2)), .val (.int (f1 p3)), .val (.ref b5), .val (.long (((1 : Int32) + (p4 &&& (3 : Int32))).toInt64)), .second, .val (.int (e0_1 p0 p1 p2 p3 p4)), .val (.int (f12 (0 : Int32) (f1 p0))), .val (.int ((f12 (0 : Int32) (f1 p0)) >>> ((2 : Int32) &&& 31))), .unset, .unset, .unset, .unset, .unset]) rfl ?_
      show Steps p.tables e below (T50.setTop (mkF m 119 #[.val (.int p0), .val (.int p1), .val (.int p2), .val (.int p3), .val (.int p4), .val (.int (f1 p0)), .val (.int (f1 p1)), .val (.int (f1 p2)), .val (.int (f1 p3)), .val (.ref b5), .val (.long (((1 : Int32) + (p4 &&& (3 : Int32))).toInt64)), .second, .val (.int (e0_1 p0 p1 p2 p3 p4)), .val (.int (f12 (0 : Int32) (f1 p0))), .val (.int ((f12 (0 : Int32) (f1 p0)) >>> ((2 : Int32) &&& 31))), .unset, .unset, .unset, .unset, .unset] [])) _
      refine XS.iload X50.here hx rfl (hb hby at_119) rfl ?_
      show Steps p.tables e below (T50.setTop (mkF m 121 #[.val (.int p0), .val (.int p1), .val (.int p2), .val (.int p3), .val (.int p4), .val (.int (f1 p0)), .val (.int (f1 p1)), .val (.int (f1 p2)), .val (.int (f1 p3)), .val (.ref b5), .val (.long (((1 : Int32) + (p4 &&& (3 : Int32))).toInt64)), .second, .val (.int (e0_1 p0 p1 p2 p3 p4)), .val (.int (f12 (0 : Int32) (f1 p0))), .val (.int ((f12 (0 : Int32) (f1 p0)) >>> ((2 : Int32) &&& 31))), .unset, .unset, .unset, .unset, .unset] [(.int (f12 (0 : Int32) (f1 p0)))])) _
      refine XS.iconst X50.here hx rfl (hb hby at_121) ?_
      show Steps p.tables e below (T50.setTop (mkF m 122 #[.val (.int p0), .val (.int p1), .val (.int p2), .val (.int p3), .val (.int p4), .val (.int (f1 p0)), .val (.int (f1 p1)), .val (.int (f1 p2)), .val (.int (f1 p3)), .val (.ref b5), .val (.long (((1 : Int32) + (p4 &&& (3 : Int32))).toInt64)), .second, .val (.int (e0_1 p0 p1 p2 p3 p4)), .val (.int (f12 (0 : Int32) (f1 p0))), .val (.int ((f12 (0 : Int32) (f1 p0)) >>> ((2 : Int32) &&& 31))), .unset, .unset, .unset, .unset, .unset] [(.int (3 : Int32)), (.int (f12 (0 : Int32) (f1 p0)))])) _
      refine XS.iand X50.here hx rfl (hb hby at_122) rfl ?_
      show Steps p.tables e below (T50.setTop (mkF m 123 #[.val (.int p0), .val (.int p1), .val (.int p2), .val (.int p3), .val (.int p4), .val (.int (f1 p0)), .val (.int (f1 p1)), .val (.int (f1 p2)), .val (.int (f1 p3)), .val (.ref b5), .val (.long (((1 : Int32) + (p4 &&& (3 : Int32))).toInt64)), .second, .val (.int (e0_1 p0 p1 p2 p3 p4)), .val (.int (f12 (0 : Int32) (f1 p0))), .val (.int ((f12 (0 : Int32) (f1 p0)) >>> ((2 : Int32) &&& 31))), .unset, .unset, .unset, .unset, .unset] [(.int ((f12 (0 : Int32) (f1 p0)) &&& (3 : Int32)))])) _
      refine XS.iload X50.here hx rfl (hb hby at_123) rfl ?_
      show Steps p.tables e below (T50.setTop (mkF m 125 #[.val (.int p0), .val (.int p1), .val (.int p2), .val (.int p3), .val (.int p4), .val (.int (f1 p0)), .val (.int (f1 p1)), .val (.int (f1 p2)), .val (.int (f1 p3)), .val (.ref b5), .val (.long (((1 : Int32) + (p4 &&& (3 : Int32))).toInt64)), .second, .val (.int (e0_1 p0 p1 p2 p3 p4)), .val (.int (f12 (0 : Int32) (f1 p0))), .val (.int ((f12 (0 : Int32) (f1 p0)) >>> ((2 : Int32) &&& 31))), .unset, .unset, .unset, .unset, .unset] [(.int (f1 p1)), (.int ((f12 (0 : Int32) (f1 p0)) &&& (3 : Int32)))])) _
      refine st51 _ ?_
      show Steps p.tables e below (T51.setTop (mkF m 128 #[.val (.int p0), .val (.int p1), .val (.int p2), .val (.int p3), .val (.int p4), .val (.int (f1 p0)), .val (.int (f1 p1)), .val (.int (f1 p2)), .val (.int (f1 p3)), .val (.ref b5), .val (.long (((1 : Int32) + (p4 &&& (3 : Int32))).toInt64)), .second, .val (.int (e0_1 p0 p1 p2 p3 p4)), .val (.int (f12 (0 : Int32) (f1 p0))), .val (.int ((f12 (0 : Int32) (f1 p0)) >>> ((2 : Int32) &&& 31))), .unset, .unset, .unset, .unset, .unset] [(.int (f12 ((f12 (0 : Int32) (f1 p0)) &&& (3 : Int32)) (f1 p1)))])) _
      refine XS.istore X51.here hx rfl (hb hby at_128) rfl (l' := #[.val (.int p0), .val (.int p1), .val (.int p2), .val (.int p3), .val (.int p4), .val (.int (f1 p0)), .val (.int (f1 p1)), .val (.int (f1 p2)), .val (.int (f1 p3)), .val (.ref b5), .val (.long (((1 : Int32) + (p4 &&& (3 : Int32))).toInt64)), .second, .val (.int (e0_1 p0 p1 p2 p3 p4)), .val (.int (f12 (0 : Int32) (f1 p0))), .val (.int ((f12 (0 : Int32) (f1 p0)) >>> ((2 : Int32) &&& 31))), .val (.int (f12 ((f12 (0 : Int32) (f1 p0)) &&& (3 : Int32)) (f1 p1))), .unset, .unset, .unset, .unset]) rfl ?_
      show Steps p.tables e below (T51.setTop (mkF m 130 #[.val (.int p0), .val (.int p1), .val (.int p2), .val (.int p3), .val (.int p4), .val (.int (f1 p0)), .val (.int (f1 p1)), .val (.int (f1 p2)), .val (.int (f1 p3)), .val (.ref b5), .val (.long (((1 : Int32) + (p4 &&& (3 : Int32))).toInt64)), .second, .val (.int (e0_1 p0 p1 p2 p3 p4)), .val (.int (f12 (0 : Int32) (f1 p0))), .val (.int ((f12 (0 : Int32) (f1 p0)) >>> ((2 : Int32) &&& 31))), .val (.int (f12 ((f12 (0 : Int32) (f1 p0)) &&& (3 : Int32)) (f1 p1))), .unset, .unset, .unset, .unset] [])) _
      refine XS.iload X51.here hx rfl (hb hby at_130) rfl ?_
      show Steps p.tables e below (T51.setTop (mkF m 132 #[.val (.int p0), .val (.int p1), .val (.int p2), .val (.int p3), .val (.int p4), .val (.int (f1 p0)), .val (.int (f1 p1)), .val (.int (f1 p2)), .val (.int (f1 p3)), .val (.ref b5), .val (.long (((1 : Int32) + (p4 &&& (3 : Int32))).toInt64)), .second, .val (.int (e0_1 p0 p1 p2 p3 p4)), .val (.int (f12 (0 : Int32) (f1 p0))), .val (.int ((f12 (0 : Int32) (f1 p0)) >>> ((2 : Int32) &&& 31))), .val (.int (f12 ((f12 (0 : Int32) (f1 p0)) &&& (3 : Int32)) (f1 p1))), .unset, .unset, .unset, .unset] [(.int ((f12 (0 : Int32) (f1 p0)) >>> ((2 : Int32) &&& 31)))])) _
      refine XS.iload X51.here hx rfl (hb hby at_132) rfl ?_
      show Steps p.tables e below (T51.setTop (mkF m 134 #[.val (.int p0), .val (.int p1), .val (.int p2), .val (.int p3), .val (.int p4), .val (.int (f1 p0)), .val (.int (f1 p1)), .val (.int (f1 p2)), .val (.int (f1 p3)), .val (.ref b5), .val (.long (((1 : Int32) + (p4 &&& (3 : Int32))).toInt64)), .second, .val (.int (e0_1 p0 p1 p2 p3 p4)), .val (.int (f12 (0 : Int32) (f1 p0))), .val (.int ((f12 (0 : Int32) (f1 p0)) >>> ((2 : Int32) &&& 31))), .val (.int (f12 ((f12 (0 : Int32) (f1 p0)) &&& (3 : Int32)) (f1 p1))), .unset, .unset, .unset, .unset] [(.int (f12 ((f12 (0 : Int32) (f1 p0)) &&& (3 : Int32)) (f1 p1))), (.int ((f12 (0 : Int32) (f1 p0)) >>> ((2 : Int32) &&& 31)))])) _
      refine XS.iconst X51.here hx rfl (hb hby at_134) ?_
      show Steps p.tables e below (T51.setTop (mkF m 135 #[.val (.int p0), .val (.int p1), .val (.int p2), .val (.int p3), .val (.int p4), .val (.int (f1 p0)), .val (.int (f1 p1)), .val (.int (f1 p2)), .val (.int (f1 p3)), .val (.ref b5), .val (.long (((1 : Int32) + (p4 &&& (3 : Int32))).toInt64)), .second, .val (.int (e0_1 p0 p1 p2 p3 p4)), .val (.int (f12 (0 : Int32) (f1 p0))), .val (.int ((f12 (0 : Int32) (f1 p0)) >>> ((2 : Int32) &&& 31))), .val (.int (f12 ((f12 (0 : Int32) (f1 p0)) &&& (3 : Int32)) (f1 p1))), .unset, .unset, .unset, .unset] [(.int (2 : Int32)), (.int (f12 ((f12 (0 : Int32) (f1 p0)) &&& (3 : Int32)) (f1 p1))), (.int ((f12 (0 : Int32) (f1 p0)) >>> ((2 : Int32) &&& 31)))])) _
      refine XS.ishr X51.here hx rfl (hb hby at_135) rfl ?_
      show Steps p.tables e below (T51.setTop (mkF m 136 #[.val (.int p0), .val (.int p1), .val (.int p2), .val (.int p3), .val (.int p4), .val (.int (f1 p0)), .val (.int (f1 p1)), .val (.int (f1 p2)), .val (.int (f1 p3)), .val (.ref b5), .val (.long (((1 : Int32) + (p4 &&& (3 : Int32))).toInt64)), .second, .val (.int (e0_1 p0 p1 p2 p3 p4)), .val (.int (f12 (0 : Int32) (f1 p0))), .val (.int ((f12 (0 : Int32) (f1 p0)) >>> ((2 : Int32) &&& 31))), .val (.int (f12 ((f12 (0 : Int32) (f1 p0)) &&& (3 : Int32)) (f1 p1))), .unset, .unset, .unset, .unset] [(.int ((f12 ((f12 (0 : Int32) (f1 p0)) &&& (3 : Int32)) (f1 p1)) >>> ((2 : Int32) &&& 31))), (.int ((f12 (0 : Int32) (f1 p0)) >>> ((2 : Int32) &&& 31)))])) _
      refine XS.iadd X51.here hx rfl (hb hby at_136) rfl ?_
      show Steps p.tables e below (T51.setTop (mkF m 137 #[.val (.int p0), .val (.int p1), .val (.int p2), .val (.int p3), .val (.int p4), .val (.int (f1 p0)), .val (.int (f1 p1)), .val (.int (f1 p2)), .val (.int (f1 p3)), .val (.ref b5), .val (.long (((1 : Int32) + (p4 &&& (3 : Int32))).toInt64)), .second, .val (.int (e0_1 p0 p1 p2 p3 p4)), .val (.int (f12 (0 : Int32) (f1 p0))), .val (.int ((f12 (0 : Int32) (f1 p0)) >>> ((2 : Int32) &&& 31))), .val (.int (f12 ((f12 (0 : Int32) (f1 p0)) &&& (3 : Int32)) (f1 p1))), .unset, .unset, .unset, .unset] [(.int (((f12 (0 : Int32) (f1 p0)) >>> ((2 : Int32) &&& 31)) + ((f12 ((f12 (0 : Int32) (f1 p0)) &&& (3 : Int32)) (f1 p1)) >>> ((2 : Int32) &&& 31))))])) _
      refine XS.istore X51.here hx rfl (hb hby at_137) rfl (l' := #[.val (.int p0), .val (.int p1), .val (.int p2), .val (.int p3), .val (.int p4), .val (.int (f1 p0)), .val (.int (f1 p1)), .val (.int (f1 p2)), .val (.int (f1 p3)), .val (.ref b5), .val (.long (((1 : Int32) + (p4 &&& (3 : Int32))).toInt64)), .second, .val (.int (e0_1 p0 p1 p2 p3 p4)), .val (.int (f12 (0 : Int32) (f1 p0))), .val (.int (e0_2 p0 p1)), .val (.int (f12 ((f12 (0 : Int32) (f1 p0)) &&& (3 : Int32)) (f1 p1))), .unset, .unset, .unset, .unset]) rfl ?_
      show Steps p.tables e below (T51.setTop (mkF m 139 #[.val (.int p0), .val (.int p1), .val (.int p2), .val (.int p3), .val (.int p4), .val (.int (f1 p0)), .val (.int (f1 p1)), .val (.int (f1 p2)), .val (.int (f1 p3)), .val (.ref b5), .val (.long (((1 : Int32) + (p4 &&& (3 : Int32))).toInt64)), .second, .val (.int (e0_1 p0 p1 p2 p3 p4)), .val (.int (f12 (0 : Int32) (f1 p0))), .val (.int (e0_2 p0 p1)), .val (.int (f12 ((f12 (0 : Int32) (f1 p0)) &&& (3 : Int32)) (f1 p1))), .unset, .unset, .unset, .unset] [])) _
      refine XS.iload X51.here hx rfl (hb hby at_139) rfl ?_
      show Steps p.tables e below (T51.setTop (mkF m 141 #[.val (.int p0), .val (.int p1), .val (.int p2), .val (.int p3), .val (.int p4), .val (.int (f1 p0)), .val (.int (f1 p1)), .val (.int (f1 p2)), .val (.int (f1 p3)), .val (.ref b5), .val (.long (((1 : Int32) + (p4 &&& (3 : Int32))).toInt64)), .second, .val (.int (e0_1 p0 p1 p2 p3 p4)), .val (.int (f12 (0 : Int32) (f1 p0))), .val (.int (e0_2 p0 p1)), .val (.int (f12 ((f12 (0 : Int32) (f1 p0)) &&& (3 : Int32)) (f1 p1))), .unset, .unset, .unset, .unset] [(.int (f12 ((f12 (0 : Int32) (f1 p0)) &&& (3 : Int32)) (f1 p1)))])) _
      refine XS.iconst X51.here hx rfl (hb hby at_141) ?_
      show Steps p.tables e below (T51.setTop (mkF m 142 #[.val (.int p0), .val (.int p1), .val (.int p2), .val (.int p3), .val (.int p4), .val (.int (f1 p0)), .val (.int (f1 p1)), .val (.int (f1 p2)), .val (.int (f1 p3)), .val (.ref b5), .val (.long (((1 : Int32) + (p4 &&& (3 : Int32))).toInt64)), .second, .val (.int (e0_1 p0 p1 p2 p3 p4)), .val (.int (f12 (0 : Int32) (f1 p0))), .val (.int (e0_2 p0 p1)), .val (.int (f12 ((f12 (0 : Int32) (f1 p0)) &&& (3 : Int32)) (f1 p1))), .unset, .unset, .unset, .unset] [(.int (3 : Int32)), (.int (f12 ((f12 (0 : Int32) (f1 p0)) &&& (3 : Int32)) (f1 p1)))])) _
      refine XS.iand X51.here hx rfl (hb hby at_142) rfl ?_
      show Steps p.tables e below (T51.setTop (mkF m 143 #[.val (.int p0), .val (.int p1), .val (.int p2), .val (.int p3), .val (.int p4), .val (.int (f1 p0)), .val (.int (f1 p1)), .val (.int (f1 p2)), .val (.int (f1 p3)), .val (.ref b5), .val (.long (((1 : Int32) + (p4 &&& (3 : Int32))).toInt64)), .second, .val (.int (e0_1 p0 p1 p2 p3 p4)), .val (.int (f12 (0 : Int32) (f1 p0))), .val (.int (e0_2 p0 p1)), .val (.int (f12 ((f12 (0 : Int32) (f1 p0)) &&& (3 : Int32)) (f1 p1))), .unset, .unset, .unset, .unset] [(.int ((f12 ((f12 (0 : Int32) (f1 p0)) &&& (3 : Int32)) (f1 p1)) &&& (3 : Int32)))])) _
      refine XS.iload X51.here hx rfl (hb hby at_143) rfl ?_
      show Steps p.tables e below (T51.setTop (mkF m 145 #[.val (.int p0), .val (.int p1), .val (.int p2), .val (.int p3), .val (.int p4), .val (.int (f1 p0)), .val (.int (f1 p1)), .val (.int (f1 p2)), .val (.int (f1 p3)), .val (.ref b5), .val (.long (((1 : Int32) + (p4 &&& (3 : Int32))).toInt64)), .second, .val (.int (e0_1 p0 p1 p2 p3 p4)), .val (.int (f12 (0 : Int32) (f1 p0))), .val (.int (e0_2 p0 p1)), .val (.int (f12 ((f12 (0 : Int32) (f1 p0)) &&& (3 : Int32)) (f1 p1))), .unset, .unset, .unset, .unset] [(.int (f1 p2)), (.int ((f12 ((f12 (0 : Int32) (f1 p0)) &&& (3 : Int32)) (f1 p1)) &&& (3 : Int32)))])) _
      refine st52 _ ?_
      show Steps p.tables e below (T52.setTop (mkF m 148 #[.val (.int p0), .val (.int p1), .val (.int p2), .val (.int p3), .val (.int p4), .val (.int (f1 p0)), .val (.int (f1 p1)), .val (.int (f1 p2)), .val (.int (f1 p3)), .val (.ref b5), .val (.long (((1 : Int32) + (p4 &&& (3 : Int32))).toInt64)), .second, .val (.int (e0_1 p0 p1 p2 p3 p4)), .val (.int (f12 (0 : Int32) (f1 p0))), .val (.int (e0_2 p0 p1)), .val (.int (f12 ((f12 (0 : Int32) (f1 p0)) &&& (3 : Int32)) (f1 p1))), .unset, .unset, .unset, .unset] [(.int (f12 ((f12 ((f12 (0 : Int32) (f1 p0)) &&& (3 : Int32)) (f1 p1)) &&& (3 : Int32)) (f1 p2)))])) _
      refine XS.istore X52.here hx rfl (hb hby at_148) rfl (l' := #[.val (.int p0), .val (.int p1), .val (.int p2), .val (.int p3), .val (.int p4), .val (.int (f1 p0)), .val (.int (f1 p1)), .val (.int (f1 p2)), .val (.int (f1 p3)), .val (.ref b5), .val (.long (((1 : Int32) + (p4 &&& (3 : Int32))).toInt64)), .second, .val (.int (e0_1 p0 p1 p2 p3 p4)), .val (.int (f12 (0 : Int32) (f1 p0))), .val (.int (e0_2 p0 p1)), .val (.int (f12 ((f12 (0 : Int32) (f1 p0)) &&& (3 : Int32)) (f1 p1))), .val (.int (e0_3 p0 p1 p2)), .unset, .unset, .unset]) rfl ?_
      show Steps p.tables e below (T52.setTop (mkF m 150 #[.val (.int p0), .val (.int p1), .val (.int p2), .val (.int p3), .val (.int p4), .val (.int (f1 p0)), .val (.int (f1 p1)), .val (.int (f1 p2)), .val (.int (f1 p3)), .val (.ref b5), .val (.long (((1 : Int32) + (p4 &&& (3 : Int32))).toInt64)), .second, .val (.int (e0_1 p0 p1 p2 p3 p4)), .val (.int (f12 (0 : Int32) (f1 p0))), .val (.int (e0_2 p0 p1)), .val (.int (f12 ((f12 (0 : Int32) (f1 p0)) &&& (3 : Int32)) (f1 p1))), .val (.int (e0_3 p0 p1 p2)), .unset, .unset, .unset] [])) _
      refine XS.iload X52.here hx rfl (hb hby at_150) rfl ?_
      show Steps p.tables e below (T52.setTop (mkF m 152 #[.val (.int p0), .val (.int p1), .val (.int p2), .val (.int p3), .val (.int p4), .val (.int (f1 p0)), .val (.int (f1 p1)), .val (.int (f1 p2)), .val (.int (f1 p3)), .val (.ref b5), .val (.long (((1 : Int32) + (p4 &&& (3 : Int32))).toInt64)), .second, .val (.int (e0_1 p0 p1 p2 p3 p4)), .val (.int (f12 (0 : Int32) (f1 p0))), .val (.int (e0_2 p0 p1)), .val (.int (f12 ((f12 (0 : Int32) (f1 p0)) &&& (3 : Int32)) (f1 p1))), .val (.int (e0_3 p0 p1 p2)), .unset, .unset, .unset] [(.int (e0_2 p0 p1))])) _
      refine XS.iload X52.here hx rfl (hb hby at_152) rfl ?_
      show Steps p.tables e below (T52.setTop (mkF m 154 #[.val (.int p0), .val (.int p1), .val (.int p2), .val (.int p3), .val (.int p4), .val (.int (f1 p0)), .val (.int (f1 p1)), .val (.int (f1 p2)), .val (.int (f1 p3)), .val (.ref b5), .val (.long (((1 : Int32) + (p4 &&& (3 : Int32))).toInt64)), .second, .val (.int (e0_1 p0 p1 p2 p3 p4)), .val (.int (f12 (0 : Int32) (f1 p0))), .val (.int (e0_2 p0 p1)), .val (.int (f12 ((f12 (0 : Int32) (f1 p0)) &&& (3 : Int32)) (f1 p1))), .val (.int (e0_3 p0 p1 p2)), .unset, .unset, .unset] [(.int (e0_3 p0 p1 p2)), (.int (e0_2 p0 p1))])) _
      refine XS.iconst X52.here hx rfl (hb hby at_154) ?_
      show Steps p.tables e below (T52.setTop (mkF m 155 #[.val (.int p0), .val (.int p1), .val (.int p2), .val (.int p3), .val (.int p4), .val (.int (f1 p0)), .val (.int (f1 p1)), .val (.int (f1 p2)), .val (.int (f1 p3)), .val (.ref b5), .val (.long (((1 : Int32) + (p4 &&& (3 : Int32))).toInt64)), .second, .val (.int (e0_1 p0 p1 p2 p3 p4)), .val (.int (f12 (0 : Int32) (f1 p0))), .val (.int (e0_2 p0 p1)), .val (.int (f12 ((f12 (0 : Int32) (f1 p0)) &&& (3 : Int32)) (f1 p1))), .val (.int (e0_3 p0 p1 p2)), .unset, .unset, .unset] [(.int (2 : Int32)), (.int (e0_3 p0 p1 p2)), (.int (e0_2 p0 p1))])) _
      refine XS.ishr X52.here hx rfl (hb hby at_155) rfl ?_
      show Steps p.tables e below (T52.setTop (mkF m 156 #[.val (.int p0), .val (.int p1), .val (.int p2), .val (.int p3), .val (.int p4), .val (.int (f1 p0)), .val (.int (f1 p1)), .val (.int (f1 p2)), .val (.int (f1 p3)), .val (.ref b5), .val (.long (((1 : Int32) + (p4 &&& (3 : Int32))).toInt64)), .second, .val (.int (e0_1 p0 p1 p2 p3 p4)), .val (.int (f12 (0 : Int32) (f1 p0))), .val (.int (e0_2 p0 p1)), .val (.int (f12 ((f12 (0 : Int32) (f1 p0)) &&& (3 : Int32)) (f1 p1))), .val (.int (e0_3 p0 p1 p2)), .unset, .unset, .unset] [(.int ((e0_3 p0 p1 p2) >>> ((2 : Int32) &&& 31))), (.int (e0_2 p0 p1))])) _
      refine XS.iadd X52.here hx rfl (hb hby at_156) rfl ?_
      show Steps p.tables e below (T52.setTop (mkF m 157 #[.val (.int p0), .val (.int p1), .val (.int p2), .val (.int p3), .val (.int p4), .val (.int (f1 p0)), .val (.int (f1 p1)), .val (.int (f1 p2)), .val (.int (f1 p3)), .val (.ref b5), .val (.long (((1 : Int32) + (p4 &&& (3 : Int32))).toInt64)), .second, .val (.int (e0_1 p0 p1 p2 p3 p4)), .val (.int (f12 (0 : Int32) (f1 p0))), .val (.int (e0_2 p0 p1)), .val (.int (f12 ((f12 (0 : Int32) (f1 p0)) &&& (3 : Int32)) (f1 p1))), .val (.int (e0_3 p0 p1 p2)), .unset, .unset, .unset] [(.int ((e0_2 p0 p1) + ((e0_3 p0 p1 p2) >>> ((2 : Int32) &&& 31))))])) _
      refine XS.istore X52.here hx rfl (hb hby at_157) rfl (l' := #[.val (.int p0), .val (.int p1), .val (.int p2), .val (.int p3), .val (.int p4), .val (.int (f1 p0)), .val (.int (f1 p1)), .val (.int (f1 p2)), .val (.int (f1 p3)), .val (.ref b5), .val (.long (((1 : Int32) + (p4 &&& (3 : Int32))).toInt64)), .second, .val (.int (e0_1 p0 p1 p2 p3 p4)), .val (.int (f12 (0 : Int32) (f1 p0))), .val (.int ((e0_2 p0 p1) + ((e0_3 p0 p1 p2) >>> ((2 : Int32) &&& 31)))), .val (.int (f12 ((f12 (0 : Int32) (f1 p0)) &&& (3 : Int32)) (f1 p1))), .val (.int (e0_3 p0 p1 p2)), .unset, .unset, .unset]) rfl ?_
      show Steps p.tables e below (T52.setTop (mkF m 159 #[.val (.int p0), .val (.int p1), .val (.int p2), .val (.int p3), .val (.int p4), .val (.int (f1 p0)), .val (.int (f1 p1)), .val (.int (f1 p2)), .val (.int (f1 p3)), .val (.ref b5), .val (.long (((1 : Int32) + (p4 &&& (3 : Int32))).toInt64)), .second, .val (.int (e0_1 p0 p1 p2 p3 p4)), .val (.int (f12 (0 : Int32) (f1 p0))), .val (.int ((e0_2 p0 p1) + ((e0_3 p0 p1 p2) >>> ((2 : Int32) &&& 31)))), .val (.int (f12 ((f12 (0 : Int32) (f1 p0)) &&& (3 : Int32)) (f1 p1))), .val (.int (e0_3 p0 p1 p2)), .unset, .unset, .unset] [])) _
      refine XS.iload X52.here hx rfl (hb hby at_159) rfl ?_
      show Steps p.tables e below (T52.setTop (mkF m 161 #[.val (.int p0), .val (.int p1), .val (.int p2), .val (.int p3), .val (.int p4), .val (.int (f1 p0)), .val (.int (f1 p1)), .val (.int (f1 p2)), .val (.int (f1 p3)), .val (.ref b5), .val (.long (((1 : Int32) + (p4 &&& (3 : Int32))).toInt64)), .second, .val (.int (e0_1 p0 p1 p2 p3 p4)), .val (.int (f12 (0 : Int32) (f1 p0))), .val (.int ((e0_2 p0 p1) + ((e0_3 p0 p1 p2) >>> ((2 : Int32) &&& 31)))), .val (.int (f12 ((f12 (0 : Int32) (f1 p0)) &&& (3 : Int32)) (f1 p1))), .val (.int (e0_3 p0 p1 p2)), .unset, .unset, .unset] [(.int (e0_3 p0 p1 p2))])) _
      refine XS.iconst X52.here hx rfl (hb hby at_161) ?_
      show Steps p.tables e below (T52.setTop (mkF m 162 #[.val (.int p0), .val (.int p1), .val (.int p2), .val (.int p3), .val (.int p4), .val (.int (f1 p0)), .val (.int (f1 p1)), .val (.int (f1 p2)), .val (.int (f1 p3)), .val (.ref b5), .val (.long (((1 : Int32) + (p4 &&& (3 : Int32))).toInt64)), .second, .val (.int (e0_1 p0 p1 p2 p3 p4)), .val (.int (f12 (0 : Int32) (f1 p0))), .val (.int ((e0_2 p0 p1) + ((e0_3 p0 p1 p2) >>> ((2 : Int32) &&& 31)))), .val (.int (f12 ((f12 (0 : Int32) (f1 p0)) &&& (3 : Int32)) (f1 p1))), .val (.int (e0_3 p0 p1 p2)), .unset, .unset, .unset] [(.int (3 : Int32)), (.int (e0_3 p0 p1 p2))])) _
      refine XS.iand X52.here hx rfl (hb hby at_162) rfl ?_
      show Steps p.tables e below (T52.setTop (mkF m 163 #[.val (.int p0), .val (.int p1), .val (.int p2), .val (.int p3), .val (.int p4), .val (.int (f1 p0)), .val (.int (f1 p1)), .val (.int (f1 p2)), .val (.int (f1 p3)), .val (.ref b5), .val (.long (((1 : Int32) + (p4 &&& (3 : Int32))).toInt64)), .second, .val (.int (e0_1 p0 p1 p2 p3 p4)), .val (.int (f12 (0 : Int32) (f1 p0))), .val (.int ((e0_2 p0 p1) + ((e0_3 p0 p1 p2) >>> ((2 : Int32) &&& 31)))), .val (.int (f12 ((f12 (0 : Int32) (f1 p0)) &&& (3 : Int32)) (f1 p1))), .val (.int (e0_3 p0 p1 p2)), .unset, .unset, .unset] [(.int ((e0_3 p0 p1 p2) &&& (3 : Int32)))])) _
      refine XS.iload X52.here hx rfl (hb hby at_163) rfl ?_
      show Steps p.tables e below (T52.setTop (mkF m 165 #[.val (.int p0), .val (.int p1), .val (.int p2), .val (.int p3), .val (.int p4), .val (.int (f1 p0)), .val (.int (f1 p1)), .val (.int (f1 p2)), .val (.int (f1 p3)), .val (.ref b5), .val (.long (((1 : Int32) + (p4 &&& (3 : Int32))).toInt64)), .second, .val (.int (e0_1 p0 p1 p2 p3 p4)), .val (.int (f12 (0 : Int32) (f1 p0))), .val (.int ((e0_2 p0 p1) + ((e0_3 p0 p1 p2) >>> ((2 : Int32) &&& 31)))), .val (.int (f12 ((f12 (0 : Int32) (f1 p0)) &&& (3 : Int32)) (f1 p1))), .val (.int (e0_3 p0 p1 p2)), .unset, .unset, .unset] [(.int (f1 p3)), (.int ((e0_3 p0 p1 p2) &&& (3 : Int32)))])) _
      refine st53 _ ?_
      show Steps p.tables e below (T53.setTop (mkF m 168 #[.val (.int p0), .val (.int p1), .val (.int p2), .val (.int p3), .val (.int p4), .val (.int (f1 p0)), .val (.int (f1 p1)), .val (.int (f1 p2)), .val (.int (f1 p3)), .val (.ref b5), .val (.long (((1 : Int32) + (p4 &&& (3 : Int32))).toInt64)), .second, .val (.int (e0_1 p0 p1 p2 p3 p4)), .val (.int (f12 (0 : Int32) (f1 p0))), .val (.int ((e0_2 p0 p1) + ((e0_3 p0 p1 p2) >>> ((2 : Int32) &&& 31)))), .val (.int (f12 ((f12 (0 : Int32) (f1 p0)) &&& (3 : Int32)) (f1 p1))), .val (.int (e0_3 p0 p1 p2)), .unset, .unset, .unset] [(.int (f12 ((e0_3 p0 p1 p2) &&& (3 : Int32)) (f1 p3)))])) _
      refine XS.istore X53.here hx rfl (hb hby at_168) rfl (l' := #[.val (.int p0), .val (.int p1), .val (.int p2), .val (.int p3), .val (.int p4), .val (.int (f1 p0)), .val (.int (f1 p1)), .val (.int (f1 p2)), .val (.int (f1 p3)), .val (.ref b5), .val (.long (((1 : Int32) + (p4 &&& (3 : Int32))).toInt64)), .second, .val (.int (e0_1 p0 p1 p2 p3 p4)), .val (.int (f12 (0 : Int32) (f1 p0))), .val (.int ((e0_2 p0 p1) + ((e0_3 p0 p1 p2) >>> ((2 : Int32) &&& 31)))), .val (.int (f12 ((f12 (0 : Int32) (f1 p0)) &&& (3 : Int32)) (f1 p1))), .val (.int (e0_3 p0 p1 p2)), .val (.int (f12 ((e0_3 p0 p1 p2) &&& (3 : Int32)) (f1 p3))), .unset, .unset]) rfl ?_
      show Steps p.tables e below (T53.setTop (mkF m 170 #[.val (.int p0), .val (.int p1), .val (.int p2), .val (.int p3), .val (.int p4), .val (.int (f1 p0)), .val (.int (f1 p1)), .val (.int (f1 p2)), .val (.int (f1 p3)), .val (.ref b5), .val (.long (((1 : Int32) + (p4 &&& (3 : Int32))).toInt64)), .second, .val (.int (e0_1 p0 p1 p2 p3 p4)), .val (.int (f12 (0 : Int32) (f1 p0))), .val (.int ((e0_2 p0 p1) + ((e0_3 p0 p1 p2) >>> ((2 : Int32) &&& 31)))), .val (.int (f12 ((f12 (0 : Int32) (f1 p0)) &&& (3 : Int32)) (f1 p1))), .val (.int (e0_3 p0 p1 p2)), .val (.int (f12 ((e0_3 p0 p1 p2) &&& (3 : Int32)) (f1 p3))), .unset, .unset] [])) _
      refine XS.iload X53.here hx rfl (hb hby at_170) rfl ?_
      show Steps p.tables e below (T53.setTop (mkF m 172 #[.val (.int p0), .val (.int p1), .val (.int p2), .val (.int p3), .val (.int p4), .val (.int (f1 p0)), .val (.int (f1 p1)), .val (.int (f1 p2)), .val (.int (f1 p3)), .val (.ref b5), .val (.long (((1 : Int32) + (p4 &&& (3 : Int32))).toInt64)), .second, .val (.int (e0_1 p0 p1 p2 p3 p4)), .val (.int (f12 (0 : Int32) (f1 p0))), .val (.int ((e0_2 p0 p1) + ((e0_3 p0 p1 p2) >>> ((2 : Int32) &&& 31)))), .val (.int (f12 ((f12 (0 : Int32) (f1 p0)) &&& (3 : Int32)) (f1 p1))), .val (.int (e0_3 p0 p1 p2)), .val (.int (f12 ((e0_3 p0 p1 p2) &&& (3 : Int32)) (f1 p3))), .unset, .unset] [(.int ((e0_2 p0 p1) + ((e0_3 p0 p1 p2) >>> ((2 : Int32) &&& 31))))])) _
      refine XS.iload X53.here hx rfl (hb hby at_172) rfl ?_
      show Steps p.tables e below (T53.setTop (mkF m 174 #[.val (.int p0), .val (.int p1), .val (.int p2), .val (.int p3), .val (.int p4), .val (.int (f1 p0)), .val (.int (f1 p1)), .val (.int (f1 p2)), .val (.int (f1 p3)), .val (.ref b5), .val (.long (((1 : Int32) + (p4 &&& (3 : Int32))).toInt64)), .second, .val (.int (e0_1 p0 p1 p2 p3 p4)), .val (.int (f12 (0 : Int32) (f1 p0))), .val (.int ((e0_2 p0 p1) + ((e0_3 p0 p1 p2) >>> ((2 : Int32) &&& 31)))), .val (.int (f12 ((f12 (0 : Int32) (f1 p0)) &&& (3 : Int32)) (f1 p1))), .val (.int (e0_3 p0 p1 p2)), .val (.int (f12 ((e0_3 p0 p1 p2) &&& (3 : Int32)) (f1 p3))), .unset, .unset] [(.int (f12 ((e0_3 p0 p1 p2) &&& (3 : Int32)) (f1 p3))), (.int ((e0_2 p0 p1) + ((e0_3 p0 p1 p2) >>> ((2 : Int32) &&& 31))))])) _
      refine XS.iconst X53.here hx rfl (hb hby at_174) ?_
      show Steps p.tables e below (T53.setTop (mkF m 175 #[.val (.int p0), .val (.int p1), .val (.int p2), .val (.int p3), .val (.int p4), .val (.int (f1 p0)), .val (.int (f1 p1)), .val (.int (f1 p2)), .val (.int (f1 p3)), .val (.ref b5), .val (.long (((1 : Int32) + (p4 &&& (3 : Int32))).toInt64)), .second, .val (.int (e0_1 p0 p1 p2 p3 p4)), .val (.int (f12 (0 : Int32) (f1 p0))), .val (.int ((e0_2 p0 p1) + ((e0_3 p0 p1 p2) >>> ((2 : Int32) &&& 31)))), .val (.int (f12 ((f12 (0 : Int32) (f1 p0)) &&& (3 : Int32)) (f1 p1))), .val (.int (e0_3 p0 p1 p2)), .val (.int (f12 ((e0_3 p0 p1 p2) &&& (3 : Int32)) (f1 p3))), .unset, .unset] [(.int (2 : Int32)), (.int (f12 ((e0_3 p0 p1 p2) &&& (3 : Int32)) (f1 p3))), (.int ((e0_2 p0 p1) + ((e0_3 p0 p1 p2) >>> ((2 : Int32) &&& 31))))])) _
      refine XS.ishr X53.here hx rfl (hb hby at_175) rfl ?_
      show Steps p.tables e below (T53.setTop (mkF m 176 #[.val (.int p0), .val (.int p1), .val (.int p2), .val (.int p3), .val (.int p4), .val (.int (f1 p0)), .val (.int (f1 p1)), .val (.int (f1 p2)), .val (.int (f1 p3)), .val (.ref b5), .val (.long (((1 : Int32) + (p4 &&& (3 : Int32))).toInt64)), .second, .val (.int (e0_1 p0 p1 p2 p3 p4)), .val (.int (f12 (0 : Int32) (f1 p0))), .val (.int ((e0_2 p0 p1) + ((e0_3 p0 p1 p2) >>> ((2 : Int32) &&& 31)))), .val (.int (f12 ((f12 (0 : Int32) (f1 p0)) &&& (3 : Int32)) (f1 p1))), .val (.int (e0_3 p0 p1 p2)), .val (.int (f12 ((e0_3 p0 p1 p2) &&& (3 : Int32)) (f1 p3))), .unset, .unset] [(.int ((f12 ((e0_3 p0 p1 p2) &&& (3 : Int32)) (f1 p3)) >>> ((2 : Int32) &&& 31))), (.int ((e0_2 p0 p1) + ((e0_3 p0 p1 p2) >>> ((2 : Int32) &&& 31))))])) _
      refine XS.iadd X53.here hx rfl (hb hby at_176) rfl ?_
      show Steps p.tables e below (T53.setTop (mkF m 177 #[.val (.int p0), .val (.int p1), .val (.int p2), .val (.int p3), .val (.int p4), .val (.int (f1 p0)), .val (.int (f1 p1)), .val (.int (f1 p2)), .val (.int (f1 p3)), .val (.ref b5), .val (.long (((1 : Int32) + (p4 &&& (3 : Int32))).toInt64)), .second, .val (.int (e0_1 p0 p1 p2 p3 p4)), .val (.int (f12 (0 : Int32) (f1 p0))), .val (.int ((e0_2 p0 p1) + ((e0_3 p0 p1 p2) >>> ((2 : Int32) &&& 31)))), .val (.int (f12 ((f12 (0 : Int32) (f1 p0)) &&& (3 : Int32)) (f1 p1))), .val (.int (e0_3 p0 p1 p2)), .val (.int (f12 ((e0_3 p0 p1 p2) &&& (3 : Int32)) (f1 p3))), .unset, .unset] [(.int (((e0_2 p0 p1) + ((e0_3 p0 p1 p2) >>> ((2 : Int32) &&& 31))) + ((f12 ((e0_3 p0 p1 p2) &&& (3 : Int32)) (f1 p3)) >>> ((2 : Int32) &&& 31))))])) _
      refine XS.istore X53.here hx rfl (hb hby at_177) rfl (l' := #[.val (.int p0), .val (.int p1), .val (.int p2), .val (.int p3), .val (.int p4), .val (.int (f1 p0)), .val (.int (f1 p1)), .val (.int (f1 p2)), .val (.int (f1 p3)), .val (.ref b5), .val (.long (((1 : Int32) + (p4 &&& (3 : Int32))).toInt64)), .second, .val (.int (e0_1 p0 p1 p2 p3 p4)), .val (.int (f12 (0 : Int32) (f1 p0))), .val (.int (e0_4 p0 p1 p2 p3)), .val (.int (f12 ((f12 (0 : Int32) (f1 p0)) &&& (3 : Int32)) (f1 p1))), .val (.int (e0_3 p0 p1 p2)), .val (.int (f12 ((e0_3 p0 p1 p2) &&& (3 : Int32)) (f1 p3))), .unset, .unset]) rfl ?_
      exact kt)
  have preB55 : ∀ t, Steps p.tables e below (T53.setTop (mkF m 200 #[.val (.int p0), .val (.int p1), .val (.int p2), .val (.int p3), .val (.int p4), .val (.int (f1 p0)), .val (.int (f1 p1)), .val (.int (f1 p2)), .val (.int (f1 p3)), .val (.ref b5), .val (.long (((1 : Int32) + (p4 &&& (3 : Int32))).toInt64)), .second, .val (.int (e0_1 p0 p1 p2 p3 p4)), .val (.int (f12 (0 : Int32) (f1 p0))), .val (.int (e0_4 p0 p1 p2 p3)), .val (.int (f12 ((f12 (0 : Int32) (f1 p0)) &&& (3 : Int32)) (f1 p1))), .val (.int (e0_3 p0 p1 p2)), .val (.int (f12 ((e0_3 p0 p1 p2) &&& (3 : Int32)) (f1 p3))), .unset, .unset] [(.int (j0_179_S0 p0 p1 p2 p3 p4))])) t → Steps p.tables e below (s₁.setTop (entryFrame m #[(.int p0), (.int p1), (.int p2), (.int p3), (.int p4)] maxLocals)) t := by
    intro t kt
    have pre56 : ∀ t, Steps p.tables e below (T53.setTop (mkF m 185 #[.val (.int p0), .val (.int p1), .val (.int p2), .val (.int p3), .val (.int p4), .val (.int (f1 p0)), .val (.int (f1 p1)), .val (.int (f1 p2)), .val (.int (f1 p3)), .val (.ref b5), .val (.long (((1 : Int32) + (p4 &&& (3 : Int32))).toInt64)), .second, .val (.int (e0_1 p0 p1 p2 p3 p4)), .val (.int (f12 (0 : Int32) (f1 p0))), .val (.int (e0_4 p0 p1 p2 p3)), .val (.int (f12 ((f12 (0 : Int32) (f1 p0)) &&& (3 : Int32)) (f1 p1))), .val (.int (e0_3 p0 p1 p2)), .val (.int (f12 ((e0_3 p0 p1 p2) &&& (3 : Int32)) (f1 p3))), .unset, .unset] [(.int (lcmpW ((e0_4 p0 p1 p2 p3).toInt64) (((1 : Int32) + (p4 &&& (3 : Int32))).toInt64)))])) t → Steps p.tables e below (s₁.setTop (entryFrame m #[(.int p0), (.int p1), (.int p2), (.int p3), (.int p4)] maxLocals)) t := fun t kt => pre54 t (by
        show Steps p.tables e below (T53.setTop (mkF m 179 #[.val (.int p0), .val (.int p1), .val (.int p2), .val (.int p3), .val (.int p4), .val (.int (f1 p0)), .val (.int (f1 p1)), .val (.int (f1 p2)), .val (.int (f1 p3)), .val (.ref b5), .val (.long (((1 : Int32) + (p4 &&& (3 : Int32))).toInt64)), .second, .val (.int (e0_1 p0 p1 p2 p3 p4)), .val (.int (f12 (0 : Int32) (f1 p0))), .val (.int (e0_4 p0 p1 p2 p3)), .val (.int (f12 ((f12 (0 : Int32) (f1 p0)) &&& (3 : Int32)) (f1 p1))), .val (.int (e0_3 p0 p1 p2)), .val (.int (f12 ((e0_3 p0 p1 p2) &&& (3 : Int32)) (f1 p3))), .unset, .unset] [])) _
        refine XS.iload X53.here hx rfl (hb hby at_179) rfl ?_
        show Steps p.tables e below (T53.setTop (mkF m 181 #[.val (.int p0), .val (.int p1), .val (.int p2), .val (.int p3), .val (.int p4), .val (.int (f1 p0)), .val (.int (f1 p1)), .val (.int (f1 p2)), .val (.int (f1 p3)), .val (.ref b5), .val (.long (((1 : Int32) + (p4 &&& (3 : Int32))).toInt64)), .second, .val (.int (e0_1 p0 p1 p2 p3 p4)), .val (.int (f12 (0 : Int32) (f1 p0))), .val (.int (e0_4 p0 p1 p2 p3)), .val (.int (f12 ((f12 (0 : Int32) (f1 p0)) &&& (3 : Int32)) (f1 p1))), .val (.int (e0_3 p0 p1 p2)), .val (.int (f12 ((e0_3 p0 p1 p2) &&& (3 : Int32)) (f1 p3))), .unset, .unset] [(.int (e0_4 p0 p1 p2 p3))])) _
        refine XS.i2l X53.here hx rfl (hb hby at_181) rfl ?_
        show Steps p.tables e below (T53.setTop (mkF m 182 #[.val (.int p0), .val (.int p1), .val (.int p2), .val (.int p3), .val (.int p4), .val (.int (f1 p0)), .val (.int (f1 p1)), .val (.int (f1 p2)), .val (.int (f1 p3)), .val (.ref b5), .val (.long (((1 : Int32) + (p4 &&& (3 : Int32))).toInt64)), .second, .val (.int (e0_1 p0 p1 p2 p3 p4)), .val (.int (f12 (0 : Int32) (f1 p0))), .val (.int (e0_4 p0 p1 p2 p3)), .val (.int (f12 ((f12 (0 : Int32) (f1 p0)) &&& (3 : Int32)) (f1 p1))), .val (.int (e0_3 p0 p1 p2)), .val (.int (f12 ((e0_3 p0 p1 p2) &&& (3 : Int32)) (f1 p3))), .unset, .unset] [(.long ((e0_4 p0 p1 p2 p3).toInt64))])) _
        refine XS.lload X53.here hx rfl (hb hby at_182) rfl ?_
        show Steps p.tables e below (T53.setTop (mkF m 184 #[.val (.int p0), .val (.int p1), .val (.int p2), .val (.int p3), .val (.int p4), .val (.int (f1 p0)), .val (.int (f1 p1)), .val (.int (f1 p2)), .val (.int (f1 p3)), .val (.ref b5), .val (.long (((1 : Int32) + (p4 &&& (3 : Int32))).toInt64)), .second, .val (.int (e0_1 p0 p1 p2 p3 p4)), .val (.int (f12 (0 : Int32) (f1 p0))), .val (.int (e0_4 p0 p1 p2 p3)), .val (.int (f12 ((f12 (0 : Int32) (f1 p0)) &&& (3 : Int32)) (f1 p1))), .val (.int (e0_3 p0 p1 p2)), .val (.int (f12 ((e0_3 p0 p1 p2) &&& (3 : Int32)) (f1 p3))), .unset, .unset] [(.long (((1 : Int32) + (p4 &&& (3 : Int32))).toInt64)), (.long ((e0_4 p0 p1 p2 p3).toInt64))])) _
        refine XS.lcmp X53.here hx rfl (hb hby at_184) rfl ?_
        exact kt)
    by_cases hc185_57 : (lcmpW ((e0_4 p0 p1 p2 p3).toInt64) (((1 : Int32) + (p4 &&& (3 : Int32))).toInt64)) < (0 : Int32)
    · have pre58 : ∀ t, Steps p.tables e below (T53.setTop (mkF m 192 #[.val (.int p0), .val (.int p1), .val (.int p2), .val (.int p3), .val (.int p4), .val (.int (f1 p0)), .val (.int (f1 p1)), .val (.int (f1 p2)), .val (.int (f1 p3)), .val (.ref b5), .val (.long (((1 : Int32) + (p4 &&& (3 : Int32))).toInt64)), .second, .val (.int (e0_1 p0 p1 p2 p3 p4)), .val (.int (f12 (0 : Int32) (f1 p0))), .val (.int (e0_4 p0 p1 p2 p3)), .val (.int (f12 ((f12 (0 : Int32) (f1 p0)) &&& (3 : Int32)) (f1 p1))), .val (.int (e0_3 p0 p1 p2)), .val (.int (f12 ((e0_3 p0 p1 p2) &&& (3 : Int32)) (f1 p3))), .unset, .unset] [(.int ((f12 ((e0_3 p0 p1 p2) &&& (3 : Int32)) (f1 p3)) &&& (4 : Int32)))])) t → Steps p.tables e below (s₁.setTop (entryFrame m #[(.int p0), (.int p1), (.int p2), (.int p3), (.int p4)] maxLocals)) t := fun t kt => pre56 t (by
          show Steps p.tables e below (T53.setTop (mkF m 185 #[.val (.int p0), .val (.int p1), .val (.int p2), .val (.int p3), .val (.int p4), .val (.int (f1 p0)), .val (.int (f1 p1)), .val (.int (f1 p2)), .val (.int (f1 p3)), .val (.ref b5), .val (.long (((1 : Int32) + (p4 &&& (3 : Int32))).toInt64)), .second, .val (.int (e0_1 p0 p1 p2 p3 p4)), .val (.int (f12 (0 : Int32) (f1 p0))), .val (.int (e0_4 p0 p1 p2 p3)), .val (.int (f12 ((f12 (0 : Int32) (f1 p0)) &&& (3 : Int32)) (f1 p1))), .val (.int (e0_3 p0 p1 p2)), .val (.int (f12 ((e0_3 p0 p1 p2) &&& (3 : Int32)) (f1 p3))), .unset, .unset] [(.int (lcmpW ((e0_4 p0 p1 p2 p3).toInt64) (((1 : Int32) + (p4 &&& (3 : Int32))).toInt64)))])) _
          refine XS.ifNo X53.here hx rfl (hb hby at_185) rfl ((if0 _ _).trans (tlt hc185_57).2.1) ?_
          show Steps p.tables e below (T53.setTop (mkF m 188 #[.val (.int p0), .val (.int p1), .val (.int p2), .val (.int p3), .val (.int p4), .val (.int (f1 p0)), .val (.int (f1 p1)), .val (.int (f1 p2)), .val (.int (f1 p3)), .val (.ref b5), .val (.long (((1 : Int32) + (p4 &&& (3 : Int32))).toInt64)), .second, .val (.int (e0_1 p0 p1 p2 p3 p4)), .val (.int (f12 (0 : Int32) (f1 p0))), .val (.int (e0_4 p0 p1 p2 p3)), .val (.int (f12 ((f12 (0 : Int32) (f1 p0)) &&& (3 : Int32)) (f1 p1))), .val (.int (e0_3 p0 p1 p2)), .val (.int (f12 ((e0_3 p0 p1 p2) &&& (3 : Int32)) (f1 p3))), .unset, .unset] [])) _
          refine XS.iload X53.here hx rfl (hb hby at_188) rfl ?_
          show Steps p.tables e below (T53.setTop (mkF m 190 #[.val (.int p0), .val (.int p1), .val (.int p2), .val (.int p3), .val (.int p4), .val (.int (f1 p0)), .val (.int (f1 p1)), .val (.int (f1 p2)), .val (.int (f1 p3)), .val (.ref b5), .val (.long (((1 : Int32) + (p4 &&& (3 : Int32))).toInt64)), .second, .val (.int (e0_1 p0 p1 p2 p3 p4)), .val (.int (f12 (0 : Int32) (f1 p0))), .val (.int (e0_4 p0 p1 p2 p3)), .val (.int (f12 ((f12 (0 : Int32) (f1 p0)) &&& (3 : Int32)) (f1 p1))), .val (.int (e0_3 p0 p1 p2)), .val (.int (f12 ((e0_3 p0 p1 p2) &&& (3 : Int32)) (f1 p3))), .unset, .unset] [(.int (f12 ((e0_3 p0 p1 p2) &&& (3 : Int32)) (f1 p3)))])) _
          refine XS.iconst X53.here hx rfl (hb hby at_190) ?_
          show Steps p.tables e below (T53.setTop (mkF m 191 #[.val (.int p0), .val (.int p1), .val (.int p2), .val (.int p3), .val (.int p4), .val (.int (f1 p0)), .val (.int (f1 p1)), .val (.int (f1 p2)), .val (.int (f1 p3)), .val (.ref b5), .val (.long (((1 : Int32) + (p4 &&& (3 : Int32))).toInt64)), .second, .val (.int (e0_1 p0 p1 p2 p3 p4)), .val (.int (f12 (0 : Int32) (f1 p0))), .val (.int (e0_4 p0 p1 p2 p3)), .val (.int (f12 ((f12 (0 : Int32) (f1 p0)) &&& (3 : Int32)) (f1 p1))), .val (.int (e0_3 p0 p1 p2)), .val (.int (f12 ((e0_3 p0 p1 p2) &&& (3 : Int32)) (f1 p3))), .unset, .unset] [(.int (4 : Int32)), (.int (f12 ((e0_3 p0 p1 p2) &&& (3 : Int32)) (f1 p3)))])) _
          refine XS.iand X53.here hx rfl (hb hby at_191) rfl ?_
          exact kt)
      by_cases hc192_59 : ((f12 ((e0_3 p0 p1 p2) &&& (3 : Int32)) (f1 p3)) &&& (4 : Int32)) = (0 : Int32)
      · rw [show (j0_179_S0 p0 p1 p2 p3 p4) = (0 : Int32) from by rw [j0_179_S0, if_pos hc185_57, if_pos hc192_59]] at kt
        refine pre58 t ?_
        show Steps p.tables e below (T53.setTop (mkF m 192 #[.val (.int p0), .val (.int p1), .val (.int p2), .val (.int p3), .val (.int p4), .val (.int (f1 p0)), .val (.int (f1 p1)), .val (.int (f1 p2)), .val (.int (f1 p3)), .val (.ref b5), .val (.long (((1 : Int32) + (p4 &&& (3 : Int32))).toInt64)), .second, .val (.int (e0_1 p0 p1 p2 p3 p4)), .val (.int (f12 (0 : Int32) (f1 p0))), .val (.int (e0_4 p0 p1 p2 p3)), .val (.int (f12 ((f12 (0 : Int32) (f1 p0)) &&& (3 : Int32)) (f1 p1))), .val (.int (e0_3 p0 p1 p2)), .val (.int (f12 ((e0_3 p0 p1 p2) &&& (3 : Int32)) (f1 p3))), .unset, .unset] [(.int ((f12 ((e0_3 p0 p1 p2) &&& (3 : Int32)) (f1 p3)) &&& (4 : Int32)))])) _
        refine XS.ifYes X53.here hx rfl (pc0 := 192) (pc' := 199) rfl (hb hby at_192) rfl ((if0 _ _).trans (teq hc192_59).1) (by decide) (by decide) ?_
        show Steps p.tables e below (T53.setTop (mkF m 199 #[.val (.int p0), .val (.int p1), .val (.int p2), .val (.int p3), .val (.int p4), .val (.int (f1 p0)), .val (.int (f1 p1)), .val (.int (f1 p2)), .val (.int (f1 p3)), .val (.ref b5), .val (.long (((1 : Int32) + (p4 &&& (3 : Int32))).toInt64)), .second, .val (.int (e0_1 p0 p1 p2 p3 p4)), .val (.int (f12 (0 : Int32) (f1 p0))), .val (.int (e0_4 p0 p1 p2 p3)), .val (.int (f12 ((f12 (0 : Int32) (f1 p0)) &&& (3 : Int32)) (f1 p1))), .val (.int (e0_3 p0 p1 p2)), .val (.int (f12 ((e0_3 p0 p1 p2) &&& (3 : Int32)) (f1 p3))), .unset, .unset] [])) _
        refine XS.iconst X53.here hx rfl (hb hby at_199) ?_
        exact kt
      · rw [show (j0_179_S0 p0 p1 p2 p3 p4) = (1 : Int32) from by rw [j0_179_S0, if_pos hc185_57, if_neg hc192_59]] at kt
        refine pre58 t ?_
        show Steps p.tables e below (T53.setTop (mkF m 192 #[.val (.int p0), .val (.int p1), .val (.int p2), .val (.int p3), .val (.int p4), .val (.int (f1 p0)), .val (.int (f1 p1)), .val (.int (f1 p2)), .val (.int (f1 p3)), .val (.ref b5), .val (.long (((1 : Int32) + (p4 &&& (3 : Int32))).toInt64)), .second, .val (.int (e0_1 p0 p1 p2 p3 p4)), .val (.int (f12 (0 : Int32) (f1 p0))), .val (.int (e0_4 p0 p1 p2 p3)), .val (.int (f12 ((f12 (0 : Int32) (f1 p0)) &&& (3 : Int32)) (f1 p1))), .val (.int (e0_3 p0 p1 p2)), .val (.int (f12 ((e0_3 p0 p1 p2) &&& (3 : Int32)) (f1 p3))), .unset, .unset] [(.int ((f12 ((e0_3 p0 p1 p2) &&& (3 : Int32)) (f1 p3)) &&& (4 : Int32)))])) _
        refine XS.ifNo X53.here hx rfl (hb hby at_192) rfl ((if0 _ _).trans (feq hc192_59).1) ?_
        show Steps p.tables e below (T53.setTop (mkF m 195 #[.val (.int p0), .val (.int p1), .val (.int p2), .val (.int p3), .val (.int p4), .val (.int (f1 p0)), .val (.int (f1 p1)), .val (.int (f1 p2)), .val (.int (f1 p3)), .val (.ref b5), .val (.long (((1 : Int32) + (p4 &&& (3 : Int32))).toInt64)), .second, .val (.int (e0_1 p0 p1 p2 p3 p4)), .val (.int (f12 (0 : Int32) (f1 p0))), .val (.int (e0_4 p0 p1 p2 p3)), .val (.int (f12 ((f12 (0 : Int32) (f1 p0)) &&& (3 : Int32)) (f1 p1))), .val (.int (e0_3 p0 p1 p2)), .val (.int (f12 ((e0_3 p0 p1 p2) &&& (3 : Int32)) (f1 p3))), .unset, .unset] [])) _
        refine XS.iconst X53.here hx rfl (hb hby at_195) ?_
        show Steps p.tables e below (T53.setTop (mkF m 196 #[.val (.int p0), .val (.int p1), .val (.int p2), .val (.int p3), .val (.int p4), .val (.int (f1 p0)), .val (.int (f1 p1)), .val (.int (f1 p2)), .val (.int (f1 p3)), .val (.ref b5), .val (.long (((1 : Int32) + (p4 &&& (3 : Int32))).toInt64)), .second, .val (.int (e0_1 p0 p1 p2 p3 p4)), .val (.int (f12 (0 : Int32) (f1 p0))), .val (.int (e0_4 p0 p1 p2 p3)), .val (.int (f12 ((f12 (0 : Int32) (f1 p0)) &&& (3 : Int32)) (f1 p1))), .val (.int (e0_3 p0 p1 p2)), .val (.int (f12 ((e0_3 p0 p1 p2) &&& (3 : Int32)) (f1 p3))), .unset, .unset] [(.int (1 : Int32))])) _
        refine XS.goto X53.here hx rfl (pc0 := 196) (pc' := 200) rfl (hb hby at_196) (by decide) (by decide) ?_
        exact kt
    · rw [show (j0_179_S0 p0 p1 p2 p3 p4) = (1 : Int32) from by rw [j0_179_S0, if_neg hc185_57]] at kt
      refine pre56 t ?_
      show Steps p.tables e below (T53.setTop (mkF m 185 #[.val (.int p0), .val (.int p1), .val (.int p2), .val (.int p3), .val (.int p4), .val (.int (f1 p0)), .val (.int (f1 p1)), .val (.int (f1 p2)), .val (.int (f1 p3)), .val (.ref b5), .val (.long (((1 : Int32) + (p4 &&& (3 : Int32))).toInt64)), .second, .val (.int (e0_1 p0 p1 p2 p3 p4)), .val (.int (f12 (0 : Int32) (f1 p0))), .val (.int (e0_4 p0 p1 p2 p3)), .val (.int (f12 ((f12 (0 : Int32) (f1 p0)) &&& (3 : Int32)) (f1 p1))), .val (.int (e0_3 p0 p1 p2)), .val (.int (f12 ((e0_3 p0 p1 p2) &&& (3 : Int32)) (f1 p3))), .unset, .unset] [(.int (lcmpW ((e0_4 p0 p1 p2 p3).toInt64) (((1 : Int32) + (p4 &&& (3 : Int32))).toInt64)))])) _
      refine XS.ifYes X53.here hx rfl (pc0 := 185) (pc' := 195) rfl (hb hby at_185) rfl ((if0 _ _).trans (flt hc185_57).2.1) (by decide) (by decide) ?_
      show Steps p.tables e below (T53.setTop (mkF m 195 #[.val (.int p0), .val (.int p1), .val (.int p2), .val (.int p3), .val (.int p4), .val (.int (f1 p0)), .val (.int (f1 p1)), .val (.int (f1 p2)), .val (.int (f1 p3)), .val (.ref b5), .val (.long (((1 : Int32) + (p4 &&& (3 : Int32))).toInt64)), .second, .val (.int (e0_1 p0 p1 p2 p3 p4)), .val (.int (f12 (0 : Int32) (f1 p0))), .val (.int (e0_4 p0 p1 p2 p3)), .val (.int (f12 ((f12 (0 : Int32) (f1 p0)) &&& (3 : Int32)) (f1 p1))), .val (.int (e0_3 p0 p1 p2)), .val (.int (f12 ((e0_3 p0 p1 p2) &&& (3 : Int32)) (f1 p3))), .unset, .unset] [])) _
      refine XS.iconst X53.here hx rfl (hb hby at_195) ?_
      show Steps p.tables e below (T53.setTop (mkF m 196 #[.val (.int p0), .val (.int p1), .val (.int p2), .val (.int p3), .val (.int p4), .val (.int (f1 p0)), .val (.int (f1 p1)), .val (.int (f1 p2)), .val (.int (f1 p3)), .val (.ref b5), .val (.long (((1 : Int32) + (p4 &&& (3 : Int32))).toInt64)), .second, .val (.int (e0_1 p0 p1 p2 p3 p4)), .val (.int (f12 (0 : Int32) (f1 p0))), .val (.int (e0_4 p0 p1 p2 p3)), .val (.int (f12 ((f12 (0 : Int32) (f1 p0)) &&& (3 : Int32)) (f1 p1))), .val (.int (e0_3 p0 p1 p2)), .val (.int (f12 ((e0_3 p0 p1 p2) &&& (3 : Int32)) (f1 p3))), .unset, .unset] [(.int (1 : Int32))])) _
      refine XS.goto X53.here hx rfl (pc0 := 196) (pc' := 200) rfl (hb hby at_196) (by decide) (by decide) ?_
      exact kt
  have pre60 : ∀ t, Steps p.tables e below (T53.setTop (mkF m 202 #[.val (.int p0), .val (.int p1), .val (.int p2), .val (.int p3), .val (.int p4), .val (.int (f1 p0)), .val (.int (f1 p1)), .val (.int (f1 p2)), .val (.int (f1 p3)), .val (.ref b5), .val (.long (((1 : Int32) + (p4 &&& (3 : Int32))).toInt64)), .second, .val (.int (e0_1 p0 p1 p2 p3 p4)), .val (.int (f12 (0 : Int32) (f1 p0))), .val (.int (e0_4 p0 p1 p2 p3)), .val (.int (f12 ((f12 (0 : Int32) (f1 p0)) &&& (3 : Int32)) (f1 p1))), .val (.int (e0_3 p0 p1 p2)), .val (.int (f12 ((e0_3 p0 p1 p2) &&& (3 : Int32)) (f1 p3))), .val (.int (j0_179_S0 p0 p1 p2 p3 p4)), .unset] [])) t → Steps p.tables e below (s₁.setTop (entryFrame m #[(.int p0), (.int p1), (.int p2), (.int p3), (.int p4)] maxLocals)) t := fun t kt => preB55 t (by
      show Steps p.tables e below (T53.setTop (mkF m 200 #[.val (.int p0), .val (.int p1), .val (.int p2), .val (.int p3), .val (.int p4), .val (.int (f1 p0)), .val (.int (f1 p1)), .val (.int (f1 p2)), .val (.int (f1 p3)), .val (.ref b5), .val (.long (((1 : Int32) + (p4 &&& (3 : Int32))).toInt64)), .second, .val (.int (e0_1 p0 p1 p2 p3 p4)), .val (.int (f12 (0 : Int32) (f1 p0))), .val (.int (e0_4 p0 p1 p2 p3)), .val (.int (f12 ((f12 (0 : Int32) (f1 p0)) &&& (3 : Int32)) (f1 p1))), .val (.int (e0_3 p0 p1 p2)), .val (.int (f12 ((e0_3 p0 p1 p2) &&& (3 : Int32)) (f1 p3))), .unset, .unset] [(.int (j0_179_S0 p0 p1 p2 p3 p4))])) _
      refine XS.istore X53.here hx rfl (hb hby at_200) rfl (l' := #[.val (.int p0), .val (.int p1), .val (.int p2), .val (.int p3), .val (.int p4), .val (.int (f1 p0)), .val (.int (f1 p1)), .val (.int (f1 p2)), .val (.int (f1 p3)), .val (.ref b5), .val (.long (((1 : Int32) + (p4 &&& (3 : Int32))).toInt64)), .second, .val (.int (e0_1 p0 p1 p2 p3 p4)), .val (.int (f12 (0 : Int32) (f1 p0))), .val (.int (e0_4 p0 p1 p2 p3)), .val (.int (f12 ((f12 (0 : Int32) (f1 p0)) &&& (3 : Int32)) (f1 p1))), .val (.int (e0_3 p0 p1 p2)), .val (.int (f12 ((e0_3 p0 p1 p2) &&& (3 : Int32)) (f1 p3))), .val (.int (j0_179_S0 p0 p1 p2 p3 p4)), .unset]) rfl ?_
      exact kt)
  have preB61 : ∀ t, Steps p.tables e below (T53.setTop (mkF m 212 #[.val (.int p0), .val (.int p1), .val (.int p2), .val (.int p3), .val (.int p4), .val (.int (f1 p0)), .val (.int (f1 p1)), .val (.int (f1 p2)), .val (.int (f1 p3)), .val (.ref b5), .val (.long (((1 : Int32) + (p4 &&& (3 : Int32))).toInt64)), .second, .val (.int (e0_1 p0 p1 p2 p3 p4)), .val (.int (f12 (0 : Int32) (f1 p0))), .val (.int (e0_4 p0 p1 p2 p3)), .val (.int (f12 ((f12 (0 : Int32) (f1 p0)) &&& (3 : Int32)) (f1 p1))), .val (.int (e0_3 p0 p1 p2)), .val (.int (f12 ((e0_3 p0 p1 p2) &&& (3 : Int32)) (f1 p3))), .val (.int (j0_179_S0 p0 p1 p2 p3 p4)), .unset] [(.int (j0_202_S0 p0 p1 p2 p3 p4))])) t → Steps p.tables e below (s₁.setTop (entryFrame m #[(.int p0), (.int p1), (.int p2), (.int p3), (.int p4)] maxLocals)) t := by
    intro t kt
    have pre62 : ∀ t, Steps p.tables e below (T53.setTop (mkF m 204 #[.val (.int p0), .val (.int p1), .val (.int p2), .val (.int p3), .val (.int p4), .val (.int (f1 p0)), .val (.int (f1 p1)), .val (.int (f1 p2)), .val (.int (f1 p3)), .val (.ref b5), .val (.long (((1 : Int32) + (p4 &&& (3 : Int32))).toInt64)), .second, .val (.int (e0_1 p0 p1 p2 p3 p4)), .val (.int (f12 (0 : Int32) (f1 p0))), .val (.int (e0_4 p0 p1 p2 p3)), .val (.int (f12 ((f12 (0 : Int32) (f1 p0)) &&& (3 : Int32)) (f1 p1))), .val (.int (e0_3 p0 p1 p2)), .val (.int (f12 ((e0_3 p0 p1 p2) &&& (3 : Int32)) (f1 p3))), .val (.int (j0_179_S0 p0 p1 p2 p3 p4)), .unset] [(.int (j0_179_S0 p0 p1 p2 p3 p4))])) t → Steps p.tables e below (s₁.setTop (entryFrame m #[(.int p0), (.int p1), (.int p2), (.int p3), (.int p4)] maxLocals)) t := fun t kt => pre60 t (by
        show Steps p.tables e below (T53.setTop (mkF m 202 #[.val (.int p0), .val (.int p1), .val (.int p2), .val (.int p3), .val (.int p4), .val (.int (f1 p0)), .val (.int (f1 p1)), .val (.int (f1 p2)), .val (.int (f1 p3)), .val (.ref b5), .val (.long (((1 : Int32) + (p4 &&& (3 : Int32))).toInt64)), .second, .val (.int (e0_1 p0 p1 p2 p3 p4)), .val (.int (f12 (0 : Int32) (f1 p0))), .val (.int (e0_4 p0 p1 p2 p3)), .val (.int (f12 ((f12 (0 : Int32) (f1 p0)) &&& (3 : Int32)) (f1 p1))), .val (.int (e0_3 p0 p1 p2)), .val (.int (f12 ((e0_3 p0 p1 p2) &&& (3 : Int32)) (f1 p3))), .val (.int (j0_179_S0 p0 p1 p2 p3 p4)), .unset] [])) _
        refine XS.iload X53.here hx rfl (hb hby at_202) rfl ?_
        exact kt)
    by_cases hc204_63 : (j0_179_S0 p0 p1 p2 p3 p4) = (0 : Int32)
    · rw [show (j0_202_S0 p0 p1 p2 p3 p4) = (1 : Int32) from by rw [j0_202_S0, if_pos hc204_63]] at kt
      refine pre62 t ?_
      show Steps p.tables e below (T53.setTop (mkF m 204 #[.val (.int p0), .val (.int p1), .val (.int p2), .val (.int p3), .val (.int p4), .val (.int (f1 p0)), .val (.int (f1 p1)), .val (.int (f1 p2)), .val (.int (f1 p3)), .val (.ref b5), .val (.long (((1 : Int32) + (p4 &&& (3 : Int32))).toInt64)), .second, .val (.int (e0_1 p0 p1 p2 p3 p4)), .val (.int (f12 (0 : Int32) (f1 p0))), .val (.int (e0_4 p0 p1 p2 p3)), .val (.int (f12 ((f12 (0 : Int32) (f1 p0)) &&& (3 : Int32)) (f1 p1))), .val (.int (e0_3 p0 p1 p2)), .val (.int (f12 ((e0_3 p0 p1 p2) &&& (3 : Int32)) (f1 p3))), .val (.int (j0_179_S0 p0 p1 p2 p3 p4)), .unset] [(.int (j0_179_S0 p0 p1 p2 p3 p4))])) _
      refine XS.ifNo X53.here hx rfl (hb hby at_204) rfl ((if0 _ _).trans (teq hc204_63).2) ?_
      show Steps p.tables e below (T53.setTop (mkF m 207 #[.val (.int p0), .val (.int p1), .val (.int p2), .val (.int p3), .val (.int p4), .val (.int (f1 p0)), .val (.int (f1 p1)), .val (.int (f1 p2)), .val (.int (f1 p3)), .val (.ref b5), .val (.long (((1 : Int32) + (p4 &&& (3 : Int32))).toInt64)), .second, .val (.int (e0_1 p0 p1 p2 p3 p4)), .val (.int (f12 (0 : Int32) (f1 p0))), .val (.int (e0_4 p0 p1 p2 p3)), .val (.int (f12 ((f12 (0 : Int32) (f1 p0)) &&& (3 : Int32)) (f1 p1))), .val (.int (e0_3 p0 p1 p2)), .val (.int (f12 ((e0_3 p0 p1 p2) &&& (3 : Int32)) (f1 p3))), .val (.int (j0_179_S0 p0 p1 p2 p3 p4)), .unset] [])) _
      refine XS.iconst X53.here hx rfl (hb hby at_207) ?_
      show Steps p.tables e below (T53.setTop (mkF m 208 #[.val (.int p0), .val (.int p1), .val (.int p2), .val (.int p3), .val (.int p4), .val (.int (f1 p0)), .val (.int (f1 p1)), .val (.int (f1 p2)), .val (.int (f1 p3)), .val (.ref b5), .val (.long (((1 : Int32) + (p4 &&& (3 : Int32))).toInt64)), .second, .val (.int (e0_1 p0 p1 p2 p3 p4)), .val (.int (f12 (0 : Int32) (f1 p0))), .val (.int (e0_4 p0 p1 p2 p3)), .val (.int (f12 ((f12 (0 : Int32) (f1 p0)) &&& (3 : Int32)) (f1 p1))), .val (.int (e0_3 p0 p1 p2)), .val (.int (f12 ((e0_3 p0 p1 p2) &&& (3 : Int32)) (f1 p3))), .val (.int (j0_179_S0 p0 p1 p2 p3 p4)), .unset] [(.int (1 : Int32))])) _
      refine XS.goto X53.here hx rfl (pc0 := 208) (pc' := 212) rfl (hb hby at_208) (by decide) (by decide) ?_
      exact kt
    · rw [show (j0_202_S0 p0 p1 p2 p3 p4) = (0 : Int32) from by rw [j0_202_S0, if_neg hc204_63]] at kt
      refine pre62 t ?_
      show Steps p.tables e below (T53.setTop (mkF m 204 #[.val (.int p0), .val (.int p1), .val (.int p2), .val (.int p3), .val (.int p4), .val (.int (f1 p0)), .val (.int (f1 p1)), .val (.int (f1 p2)), .val (.int (f1 p3)), .val (.ref b5), .val (.long (((1 : Int32) + (p4 &&& (3 : Int32))).toInt64)), .second, .val (.int (e0_1 p0 p1 p2 p3 p4)), .val (.int (f12 (0 : Int32) (f1 p0))), .val (.int (e0_4 p0 p1 p2 p3)), .val (.int (f12 ((f12 (0 : Int32) (f1 p0)) &&& (3 : Int32)) (f1 p1))), .val (.int (e0_3 p0 p1 p2)), .val (.int (f12 ((e0_3 p0 p1 p2) &&& (3 : Int32)) (f1 p3))), .val (.int (j0_179_S0 p0 p1 p2 p3 p4)), .unset] [(.int (j0_179_S0 p0 p1 p2 p3 p4))])) _
      refine XS.ifYes X53.here hx rfl (pc0 := 204) (pc' := 211) rfl (hb hby at_204) rfl ((if0 _ _).trans (feq hc204_63).2) (by decide) (by decide) ?_
      show Steps p.tables e below (T53.setTop (mkF m 211 #[.val (.int p0), .val (.int p1), .val (.int p2), .val (.int p3), .val (.int p4), .val (.int (f1 p0)), .val (.int (f1 p1)), .val (.int (f1 p2)), .val (.int (f1 p3)), .val (.ref b5), .val (.long (((1 : Int32) + (p4 &&& (3 : Int32))).toInt64)), .second, .val (.int (e0_1 p0 p1 p2 p3 p4)), .val (.int (f12 (0 : Int32) (f1 p0))), .val (.int (e0_4 p0 p1 p2 p3)), .val (.int (f12 ((f12 (0 : Int32) (f1 p0)) &&& (3 : Int32)) (f1 p1))), .val (.int (e0_3 p0 p1 p2)), .val (.int (f12 ((e0_3 p0 p1 p2) &&& (3 : Int32)) (f1 p3))), .val (.int (j0_179_S0 p0 p1 p2 p3 p4)), .unset] [])) _
      refine XS.iconst X53.here hx rfl (hb hby at_211) ?_
      exact kt
  have pre64 : ∀ t, Steps p.tables e below (T53.setTop (mkF m 218 #[.val (.int p0), .val (.int p1), .val (.int p2), .val (.int p3), .val (.int p4), .val (.int (f1 p0)), .val (.int (f1 p1)), .val (.int (f1 p2)), .val (.int (f1 p3)), .val (.ref b5), .val (.long (((1 : Int32) + (p4 &&& (3 : Int32))).toInt64)), .second, .val (.int (e0_1 p0 p1 p2 p3 p4)), .val (.int (f12 (0 : Int32) (f1 p0))), .val (.int (e0_4 p0 p1 p2 p3)), .val (.int (f12 ((f12 (0 : Int32) (f1 p0)) &&& (3 : Int32)) (f1 p1))), .val (.int (e0_3 p0 p1 p2)), .val (.int (f12 ((e0_3 p0 p1 p2) &&& (3 : Int32)) (f1 p3))), .val (.int (j0_179_S0 p0 p1 p2 p3 p4)), .val (.int (j0_202_S0 p0 p1 p2 p3 p4))] [(.int (j0_202_S0 p0 p1 p2 p3 p4)), (.int (e0_1 p0 p1 p2 p3 p4))])) t → Steps p.tables e below (s₁.setTop (entryFrame m #[(.int p0), (.int p1), (.int p2), (.int p3), (.int p4)] maxLocals)) t := fun t kt => preB61 t (by
      show Steps p.tables e below (T53.setTop (mkF m 212 #[.val (.int p0), .val (.int p1), .val (.int p2), .val (.int p3), .val (.int p4), .val (.int (f1 p0)), .val (.int (f1 p1)), .val (.int (f1 p2)), .val (.int (f1 p3)), .val (.ref b5), .val (.long (((1 : Int32) + (p4 &&& (3 : Int32))).toInt64)), .second, .val (.int (e0_1 p0 p1 p2 p3 p4)), .val (.int (f12 (0 : Int32) (f1 p0))), .val (.int (e0_4 p0 p1 p2 p3)), .val (.int (f12 ((f12 (0 : Int32) (f1 p0)) &&& (3 : Int32)) (f1 p1))), .val (.int (e0_3 p0 p1 p2)), .val (.int (f12 ((e0_3 p0 p1 p2) &&& (3 : Int32)) (f1 p3))), .val (.int (j0_179_S0 p0 p1 p2 p3 p4)), .unset] [(.int (j0_202_S0 p0 p1 p2 p3 p4))])) _
      refine XS.istore X53.here hx rfl (hb hby at_212) rfl (l' := #[.val (.int p0), .val (.int p1), .val (.int p2), .val (.int p3), .val (.int p4), .val (.int (f1 p0)), .val (.int (f1 p1)), .val (.int (f1 p2)), .val (.int (f1 p3)), .val (.ref b5), .val (.long (((1 : Int32) + (p4 &&& (3 : Int32))).toInt64)), .second, .val (.int (e0_1 p0 p1 p2 p3 p4)), .val (.int (f12 (0 : Int32) (f1 p0))), .val (.int (e0_4 p0 p1 p2 p3)), .val (.int (f12 ((f12 (0 : Int32) (f1 p0)) &&& (3 : Int32)) (f1 p1))), .val (.int (e0_3 p0 p1 p2)), .val (.int (f12 ((e0_3 p0 p1 p2) &&& (3 : Int32)) (f1 p3))), .val (.int (j0_179_S0 p0 p1 p2 p3 p4)), .val (.int (j0_202_S0 p0 p1 p2 p3 p4))]) rfl ?_
      show Steps p.tables e below (T53.setTop (mkF m 214 #[.val (.int p0), .val (.int p1), .val (.int p2), .val (.int p3), .val (.int p4), .val (.int (f1 p0)), .val (.int (f1 p1)), .val (.int (f1 p2)), .val (.int (f1 p3)), .val (.ref b5), .val (.long (((1 : Int32) + (p4 &&& (3 : Int32))).toInt64)), .second, .val (.int (e0_1 p0 p1 p2 p3 p4)), .val (.int (f12 (0 : Int32) (f1 p0))), .val (.int (e0_4 p0 p1 p2 p3)), .val (.int (f12 ((f12 (0 : Int32) (f1 p0)) &&& (3 : Int32)) (f1 p1))), .val (.int (e0_3 p0 p1 p2)), .val (.int (f12 ((e0_3 p0 p1 p2) &&& (3 : Int32)) (f1 p3))), .val (.int (j0_179_S0 p0 p1 p2 p3 p4)), .val (.int (j0_202_S0 p0 p1 p2 p3 p4))] [])) _
      refine XS.iload X53.here hx rfl (hb hby at_214) rfl ?_
      show Steps p.tables e below (T53.setTop (mkF m 216 #[.val (.int p0), .val (.int p1), .val (.int p2), .val (.int p3), .val (.int p4), .val (.int (f1 p0)), .val (.int (f1 p1)), .val (.int (f1 p2)), .val (.int (f1 p3)), .val (.ref b5), .val (.long (((1 : Int32) + (p4 &&& (3 : Int32))).toInt64)), .second, .val (.int (e0_1 p0 p1 p2 p3 p4)), .val (.int (f12 (0 : Int32) (f1 p0))), .val (.int (e0_4 p0 p1 p2 p3)), .val (.int (f12 ((f12 (0 : Int32) (f1 p0)) &&& (3 : Int32)) (f1 p1))), .val (.int (e0_3 p0 p1 p2)), .val (.int (f12 ((e0_3 p0 p1 p2) &&& (3 : Int32)) (f1 p3))), .val (.int (j0_179_S0 p0 p1 p2 p3 p4)), .val (.int (j0_202_S0 p0 p1 p2 p3 p4))] [(.int (e0_1 p0 p1 p2 p3 p4))])) _
      refine XS.iload X53.here hx rfl (hb hby at_216) rfl ?_
      exact kt)
  have hd218_65 : (e0_1 p0 p1 p2 p3 p4) = (j0_202_S0 p0 p1 p2 p3 p4) := own_law p0 p1 p2 p3 p4
  obtain ⟨fs, hr, hrun, hended, hW, hsame⟩ := X53.leave (v := some (.int (1 : Int32))) (fun h => by rw [Bd.returns] at h; cases h)
  have hv66 : (1 : Int32) = (1 : Int32) := rfl
  refine ⟨_, _, pre64 _ ?_, hrun, hended, _, _, rfl, ?_, ⟨_, rfl⟩, hW, hsame.mono (by decide) (by decide)⟩
  · show Steps p.tables e below (T53.setTop (mkF m 218 #[.val (.int p0), .val (.int p1), .val (.int p2), .val (.int p3), .val (.int p4), .val (.int (f1 p0)), .val (.int (f1 p1)), .val (.int (f1 p2)), .val (.int (f1 p3)), .val (.ref b5), .val (.long (((1 : Int32) + (p4 &&& (3 : Int32))).toInt64)), .second, .val (.int (e0_1 p0 p1 p2 p3 p4)), .val (.int (f12 (0 : Int32) (f1 p0))), .val (.int (e0_4 p0 p1 p2 p3)), .val (.int (f12 ((f12 (0 : Int32) (f1 p0)) &&& (3 : Int32)) (f1 p1))), .val (.int (e0_3 p0 p1 p2)), .val (.int (f12 ((e0_3 p0 p1 p2) &&& (3 : Int32)) (f1 p3))), .val (.int (j0_179_S0 p0 p1 p2 p3 p4)), .val (.int (j0_202_S0 p0 p1 p2 p3 p4))] [(.int (j0_202_S0 p0 p1 p2 p3 p4)), (.int (e0_1 p0 p1 p2 p3 p4))])) _
    refine XS.icmpNo X53.here hx rfl (hb hby at_218) rfl (teq hd218_65).2 ?_
    show Steps p.tables e below (T53.setTop (mkF m 221 #[.val (.int p0), .val (.int p1), .val (.int p2), .val (.int p3), .val (.int p4), .val (.int (f1 p0)), .val (.int (f1 p1)), .val (.int (f1 p2)), .val (.int (f1 p3)), .val (.ref b5), .val (.long (((1 : Int32) + (p4 &&& (3 : Int32))).toInt64)), .second, .val (.int (e0_1 p0 p1 p2 p3 p4)), .val (.int (f12 (0 : Int32) (f1 p0))), .val (.int (e0_4 p0 p1 p2 p3)), .val (.int (f12 ((f12 (0 : Int32) (f1 p0)) &&& (3 : Int32)) (f1 p1))), .val (.int (e0_3 p0 p1 p2)), .val (.int (f12 ((e0_3 p0 p1 p2) &&& (3 : Int32)) (f1 p3))), .val (.int (j0_179_S0 p0 p1 p2 p3 p4)), .val (.int (j0_202_S0 p0 p1 p2 p3 p4))] [])) _
    refine XS.iconst X53.here hx rfl (hb hby at_221) ?_
    show Steps p.tables e below (T53.setTop (mkF m 222 #[.val (.int p0), .val (.int p1), .val (.int p2), .val (.int p3), .val (.int p4), .val (.int (f1 p0)), .val (.int (f1 p1)), .val (.int (f1 p2)), .val (.int (f1 p3)), .val (.ref b5), .val (.long (((1 : Int32) + (p4 &&& (3 : Int32))).toInt64)), .second, .val (.int (e0_1 p0 p1 p2 p3 p4)), .val (.int (f12 (0 : Int32) (f1 p0))), .val (.int (e0_4 p0 p1 p2 p3)), .val (.int (f12 ((f12 (0 : Int32) (f1 p0)) &&& (3 : Int32)) (f1 p1))), .val (.int (e0_3 p0 p1 p2)), .val (.int (f12 ((e0_3 p0 p1 p2) &&& (3 : Int32)) (f1 p3))), .val (.int (j0_179_S0 p0 p1 p2 p3 p4)), .val (.int (j0_202_S0 p0 p1 p2 p3 p4))] [(.int (1 : Int32))])) _
    refine XS.goto X53.here hx rfl (pc0 := 222) (pc' := 226) rfl (hb hby at_222) (by decide) (by decide) ?_
    show Steps p.tables e below (T53.setTop (mkF m 226 #[.val (.int p0), .val (.int p1), .val (.int p2), .val (.int p3), .val (.int p4), .val (.int (f1 p0)), .val (.int (f1 p1)), .val (.int (f1 p2)), .val (.int (f1 p3)), .val (.ref b5), .val (.long (((1 : Int32) + (p4 &&& (3 : Int32))).toInt64)), .second, .val (.int (e0_1 p0 p1 p2 p3 p4)), .val (.int (f12 (0 : Int32) (f1 p0))), .val (.int (e0_4 p0 p1 p2 p3)), .val (.int (f12 ((f12 (0 : Int32) (f1 p0)) &&& (3 : Int32)) (f1 p1))), .val (.int (e0_3 p0 p1 p2)), .val (.int (f12 ((e0_3 p0 p1 p2) &&& (3 : Int32)) (f1 p3))), .val (.int (j0_179_S0 p0 p1 p2 p3 p4)), .val (.int (j0_202_S0 p0 p1 p2 p3 p4))] [(.int (1 : Int32))])) _
    exact retN X53 hx (t := .boolean) Bd.returns (by simp) (hb hby at_226) hr
  · show Q0 Z p0 p1 p2 p3 p4 w9 h0 n0 _ T53.heap _
    rw [e53q]
    exact ⟨congrArg (fun q => some (Value.int q)) hv66, N53⟩
set_option maxRecDepth 65536 in
set_option maxHeartbeats 40000000 in
theorem comes_1 {Post : Tables → Env → Array Value → State → Outcome → State → Prop} (hpost : ∀ tb e args s v u, (limb_1_1.after args s (.returned v) u = true ∧ limb_1_2.after args s (.returned v) u = true ∧ True) → FrameEnd s (.returned v) u (Jvm.fieldLocs frame_1_writes args s ++ Jvm.arrayLocs frame_1_arrays args s ++ Jvm.staticLocs frame_1_statics s) 16 131200 → Post tb e args s (.returned v) u) :
    ArmFor flags0 classFile x code maxLocals ret World_1 tables_1 room_1 Calls_1 rest_1 Pre_1 Post := by
  intro l hfl _ _ p e ha hc hk s m args below hf hA hF happ hP
  obtain ⟨hcalls, hrest, hpre⟩ := hP
  obtain ⟨-, -, -, hnamed, -, -, -, hat⟩ := (Spec.applies_iff hf).mp happ
  obtain ⟨hg, hn⟩ := and_e (Cond.before_iff.mp (show (Jvm.Cond.and given_1 narrow_1).before args s = true from hpre))
  obtain ⟨g1, g2⟩ := and_e hg
  obtain ⟨g3, g4⟩ := and_e g2
  obtain ⟨g5, g6⟩ := and_e g4
  obtain ⟨g7, g8⟩ := and_e g6
  obtain ⟨g9, g10⟩ := and_e g8
  obtain ⟨w0, w1, w2, w3, w4, rfl⟩ : ∃ w0 w1 w2 w3 w4 : Value, args = #[w0, w1, w2, w3, w4] := by
    have hs : args.size = 5 := by simpa [Cond.value, given_1] using g1
    obtain ⟨L⟩ := args
    match L, hs with
    | [w0, w1, w2, w3, w4], _ => exact ⟨w0, w1, w2, w3, w4, rfl⟩
  have hw := fun d (hd : d ∈ tables_1) => atoms_spec (ws := Jvm.Cond.code x code maxLocals ret :: tables_1) hat d (List.mem_cons_of_mem _ hd)
  have hfit : Fit s := fun {y c} hc i hi => by
    obtain ⟨ha, rfl⟩ := Array.getElem?_eq_some_iff.mp hc
    have q := List.all_eq_true.mp ((Array.all_eq_true_iff_forall_mem.mp hF) _ (Array.getElem_mem ha)) i (List.mem_range.mpr hi)
    simpa [Array.getElem?_eq_getElem hi] using q
  obtain ⟨n1, m1⟩ := and_e hn
  obtain ⟨t1, ev⟩ := arr_v n1
  have S_NO_BYTES := Sta.start ev (Or.inr ⟨(hw _ (List.mem_of_getElem? (i := 13) rfl)), (hw _ (List.mem_of_getElem? (i := 27) rfl))⟩)
  obtain ⟨i0, ei0⟩ := is_v g3
  obtain rfl : w0 = (.int i0) := Option.some.inj ei0
  obtain ⟨i1, ei1⟩ := is_v g5
  obtain rfl : w1 = (.int i1) := Option.some.inj ei1
  obtain ⟨i2, ei2⟩ := is_v g7
  obtain rfl : w2 = (.int i2) := Option.some.inj ei2
  obtain ⟨i3, ei3⟩ := is_v g9
  obtain rfl : w3 = (.int i3) := Option.some.inj ei3
  obtain ⟨i4, ei4⟩ := is_v g10
  obtain rfl : w4 = (.int i4) := Option.some.inj ei4
  obtain ⟨n, o, h1, h2, h3, _, L, rfl, ⟨hv0, N⟩, hq⟩ := rm0 l s _ hw tables_1 i0 i1 i2 i3 i4 t1 s.heap s.heap.size (Nat.le_refl _) S_NO_BYTES p e ha hc hk s m _ below hf ((Spec.applies_iff_loose hf).mp happ).1 ⟨rfl, State.Warmed39.refl s, rfl⟩ trivial
  subst hv0
  refine ⟨n, _, h1, h2, h3, hpost _ _ _ _ _ _ ⟨Cond.after_iff.mpr rfl, Cond.after_iff.mpr (eq_i res_at (Term.int_eval (1)) rfl), trivial⟩ ⟨hq.1, hq.2.1, (hq.2.2.sift fun y hy => Or.inr (N y hy)).mono (by decide) (by decide)⟩⟩
theorem main_1_1 : Claimed_1_1 := comes_1 fun _ _ _ _ _ _ h hF => ⟨h.1, hF⟩
theorem main_1_2 : Claimed_1_2 := comes_1 fun _ _ _ _ _ _ h hF => ⟨h.2.1, hF⟩
end Jvm.Pilot.@@N@@
namespace Jvm.Pilot.@@N@@
open Jvm Jvm.ClassFile Sem Op Lib Jvm.Free Jvm.Stand Jvm.Pilot.@@N@@.Jvm.D
/-! MADE BY PROGRAM (witnessworld.py) out of the Statement's table words and the real class files: 10 classes; the members and pool entries that the words name. The judged class is class 1, her method 3. -/
namespace start1
open Jvm.ClassFile
def u (s : String) : CpInfo := .utf8 (stringToUtf16 s)
/-- a pool by its gaps: so many unusable entries, then the entry; so many at the end -/
def gap : Nat → List CpInfo → List CpInfo
  | 0, r => r
  | n + 1, r => .unusable :: gap n r
def poolList (es : List (Nat × CpInfo)) (last : Nat) : List CpInfo := es.foldr (fun e r => gap e.1 (e.2 :: r)) (gap last [])
def pool (es : List (Nat × CpInfo)) (last : Nat) : Array CpInfo := ⟨poolList es last⟩
def fileOf (pool : Array CpInfo) (this : Nat) (attrs : Array Attribute := #[]) (ms : Array MethodInfo := #[]) (fl : Nat := 33) (sup : Nat := 0) (ifs : Array Nat := #[]) (fds : Array FieldInfo := #[]) : ClassFile where
  minorVersion := 0
  majorVersion := 65
  constantPool := pool
  accessFlags := fl
  thisClass := this
  superClass := sup
  interfaces := ifs
  fields := fds
  methods := ms
  attributes := attrs
def plain (name : String) (sup : Option ClassId) : Class where
  name := name
  kind := .ordinary
  loader := none
  accessFlags := 33
  super := sup
  interfaces := #[]
  cf := none
  fields := #[]
  methods := #[]
  instanceTypes := #[]
  staticTypes := #[]
  resolved := #[]
  callSites := []
  init := .initialized
  statics := none
  mirror := none

def pool0 : Array CpInfo := pool [(5, u "<init>"), (0, u "()V"), (1, .class_ 10), (1, u "java/lang/Object")] 113

def k0c0 : Code := { maxStack := 0, maxLocals := 1, code := object_method_1_code, exceptionTable := #[], attributes := #[] }
def k0m0 : Method := { name := "<init>", desc := "()V", sig := { parameters := [], returnType := none }, accessFlags := 1, code := some k0c0 }
/-- java/lang/Object -/
def k0 : Class := { plain "java/lang/Object" none with
  accessFlags := 33
  interfaces := #[]
  cf := some (fileOf pool0 8 #[] #[{ accessFlags := 1, nameIndex := 5, descriptorIndex := 6, attributes := #[] }] 33 0 #[] #[])
  fields := #[]
  methods := #[k0m0]
  instanceTypes := #[]
  staticTypes := #[]
  resolved := Array.replicate 124 none
  statics := none }

def pool1 : Array CpInfo := pool [(2, .class_ 4), (0, .nameAndType 5 6), (0, u "java/lang/Object"), (0, u "<init>"), (0, u "()V"), (0, .methodref 8 9), (0, .class_ 10), (0, .nameAndType 11 12), (0, u "com/example/cistern/cistern/io/CsvReaderInRecordPinLaw"), (0, u "draw"), (0, u "(I)B"), (0, .class_ 14), (0, u "com/example/cistern/cistern/io/CsvReader"), (0, .methodref 13 3), (0, .methodref 13 17), (0, .nameAndType 18 19), (0, u "start"), (0, u "(Ljava/io/InputStream;)V"), (0, .fieldref 13 21), (0, .nameAndType 22 23), (0, u "_buffer"), (0, u "[B"), (0, .fieldref 13 25), (0, .nameAndType 26 27), (0, u "_end"), (0, u "I"), (0, .methodref 13 29), (0, .nameAndType 30 31), (0, u "passEnds"), (0, u "(J)J"), (0, .methodref 13 33), (0, .nameAndType 34 35), (0, u "inRecord"), (0, u "()Z"), (0, .methodref 8 37), (0, .nameAndType 38 39), (0, u "step"), (0, u "(IB)I"), (3, u "law"), (0, u "(IIIII)Z")] 2

def k1m0 : Method := { name := "<init>", desc := "()V", sig := { parameters := [], returnType := none }, accessFlags := 1, code := none }
def k1c1 : Code := { maxStack := 2, maxLocals := 2, code := method_2_code, exceptionTable := #[], attributes := #[] }
def k1m1 : Method := { name := "draw", desc := "(I)B", sig := { parameters := [.int], returnType := some .byte }, accessFlags := 10, code := some k1c1 }
def k1c2 : Code := { maxStack := 2, maxLocals := 5, code := method_3_code, exceptionTable := #[], attributes := #[] }
def k1m2 : Method := { name := "step", desc := "(IB)I", sig := { parameters := [.int, .byte], returnType := some .int }, accessFlags := 10, code := some k1c2 }
def k1c3 : Code := { maxStack := 4, maxLocals := 20, code := code, exceptionTable := #[], attributes := #[] }
def k1m3 : Method := { name := "law", desc := "(IIIII)Z", sig := { parameters := [.int, .int, .int, .int, .int], returnType := some .boolean }, accessFlags := 9, code := some k1c3 }
/-- com/example/cistern/cistern/io/CsvReaderInRecordPinLaw -/
def k1 : Class := { plain "com/example/cistern/cistern/io/CsvReaderInRecordPinLaw" (some 0) with
  accessFlags := 49
  interfaces := #[]
  cf := some (fileOf pool1 8 #[] #[{ accessFlags := 1, nameIndex := 5, descriptorIndex := 6, attributes := #[] }, { accessFlags := 10, nameIndex := 11, descriptorIndex := 12, attributes := #[] }, { accessFlags := 10, nameIndex := 38, descriptorIndex := 39, attributes := #[] }, { accessFlags := 9, nameIndex := 43, descriptorIndex := 44, attributes := #[] }] 49 2 #[] #[])
  fields := #[]
  methods := #[k1m0, k1m1, k1m2, k1m3]
  instanceTypes := #[]
  staticTypes := #[]
  resolved := Array.replicate 47 none
  statics := none }

def pool2 : Array CpInfo := pool [(3, .methodref 4 5), (0, .class_ 6), (0, .nameAndType 7 8), (0, u "java/lang/Object"), (0, u "<init>"), (0, u "()V"), (0, .class_ 10), (0, u "com/example/cistern/cistern/io/RecordReader"), (0, .integer 65537), (0, .fieldref 9 13), (0, .nameAndType 14 15), (0, u "_buffer"), (0, u "[B"), (0, .fieldref 9 17), (0, .nameAndType 18 19), (0, u "_start"), (0, u "I"), (0, .fieldref 9 21), (0, .nameAndType 22 19), (0, u "_end"), (0, .fieldref 9 24), (0, .nameAndType 25 15), (0, u "NO_BYTES"), (0, .fieldref 9 27), (0, .nameAndType 28 15), (0, u "_built"), (0, .fieldref 9 30), (0, .nameAndType 31 32), (0, u "_in"), (0, u "Ljava/io/InputStream;"), (0, .fieldref 9 34), (0, .nameAndType 35 36), (0, u "_offset"), (0, u "J"), (0, .fieldref 9 38), (0, .nameAndType 39 36), (0, u "_records"), (0, .fieldref 9 41), (0, .nameAndType 42 43), (0, u "_ended"), (0, u "Z"), (38, u "WORDS"), (0, u "Ljava/lang/invoke/VarHandle;"), (21, .class_ 107), (1, u "com/example/cistern/cistern/io/RecordReader$Receiver"), (100, u "BUFFER_SIZE"), (1, u "LOW_SEVEN_BITS"), (0, u "ONE_IN_EACH_BYTE"), (0, u "MAX_RECORD_LENGTH"), (2, u "start"), (0, u "(Ljava/io/InputStream;)V"), (6, u "wordsEnd"), (0, u "()I")] 30

def k2c0 : Code := { maxStack := 2, maxLocals := 1, code := prog_24_method_1_code, exceptionTable := #[], attributes := #[] }
def k2m0 : Method := { name := "<init>", desc := "()V", sig := { parameters := [], returnType := none }, accessFlags := 1, code := some k2c0 }
def k2c1 : Code := { maxStack := 3, maxLocals := 2, code := prog_24_method_2_code, exceptionTable := #[], attributes := #[] }
def k2m1 : Method := { name := "start", desc := "(Ljava/io/InputStream;)V", sig := { parameters := [(.object "java/io/InputStream")], returnType := none }, accessFlags := 1, code := some k2c1 }
def k2c2 : Code := { maxStack := 3, maxLocals := 1, code := prog_24_method_11_code, exceptionTable := #[], attributes := #[] }
def k2m2 : Method := { name := "wordsEnd", desc := "()I", sig := { parameters := [], returnType := some .int }, accessFlags := 20, code := some k2c2 }
/-- com/example/cistern/cistern/io/RecordReader -/
def k2 : Class := { plain "com/example/cistern/cistern/io/RecordReader" (some 0) with
  accessFlags := 1057
  interfaces := #[]
  cf := some (fileOf pool2 9 #[.nestMembers #[105]] #[{ accessFlags := 1, nameIndex := 7, descriptorIndex := 8, attributes := #[] }, { accessFlags := 1, nameIndex := 215, descriptorIndex := 216, attributes := #[] }, { accessFlags := 20, nameIndex := 223, descriptorIndex := 224, attributes := #[] }] 1057 4 #[] #[{ accessFlags := 26, nameIndex := 208, descriptorIndex := 19, attributes := #[] }, { accessFlags := 26, nameIndex := 82, descriptorIndex := 83, attributes := #[] }, { accessFlags := 26, nameIndex := 210, descriptorIndex := 36, attributes := #[] }, { accessFlags := 26, nameIndex := 211, descriptorIndex := 36, attributes := #[] }, { accessFlags := 26, nameIndex := 212, descriptorIndex := 36, attributes := #[] }, { accessFlags := 26, nameIndex := 25, descriptorIndex := 15, attributes := #[] }, { accessFlags := 20, nameIndex := 14, descriptorIndex := 15, attributes := #[] }, { accessFlags := 4, nameIndex := 18, descriptorIndex := 19, attributes := #[] }, { accessFlags := 4, nameIndex := 22, descriptorIndex := 19, attributes := #[] }, { accessFlags := 2, nameIndex := 31, descriptorIndex := 32, attributes := #[] }, { accessFlags := 2, nameIndex := 35, descriptorIndex := 36, attributes := #[] }, { accessFlags := 2, nameIndex := 39, descriptorIndex := 36, attributes := #[] }, { accessFlags := 2, nameIndex := 42, descriptorIndex := 43, attributes := #[] }, { accessFlags := 2, nameIndex := 28, descriptorIndex := 15, attributes := #[] }])
  fields := #[{ name := "BUFFER_SIZE", type := .int, accessFlags := 26, slot := 0, constantValue := 0 }, { name := "WORDS", type := (.object "java/lang/invoke/VarHandle"), accessFlags := 26, slot := 1, constantValue := 0 }, { name := "LOW_SEVEN_BITS", type := .long, accessFlags := 26, slot := 2, constantValue := 0 }, { name := "ONE_IN_EACH_BYTE", type := .long, accessFlags := 26, slot := 3, constantValue := 0 }, { name := "MAX_RECORD_LENGTH", type := .long, accessFlags := 26, slot := 4, constantValue := 0 }, { name := "NO_BYTES", type := (.array .byte), accessFlags := 26, slot := 5, constantValue := 0 }, { name := "_buffer", type := (.array .byte), accessFlags := 20, slot := 0, constantValue := 0 }, { name := "_start", type := .int, accessFlags := 4, slot := 1, constantValue := 0 }, { name := "_end", type := .int, accessFlags := 4, slot := 2, constantValue := 0 }, { name := "_in", type := (.object "java/io/InputStream"), accessFlags := 2, slot := 3, constantValue := 0 }, { name := "_offset", type := .long, accessFlags := 2, slot := 4, constantValue := 0 }, { name := "_records", type := .long, accessFlags := 2, slot := 5, constantValue := 0 }, { name := "_ended", type := .boolean, accessFlags := 2, slot := 6, constantValue := 0 }, { name := "_built", type := (.array .byte), accessFlags := 2, slot := 7, constantValue := 0 }]
  methods := #[k2m0, k2m1, k2m2]
  instanceTypes := #[(.array .byte), .int, .int, (.object "java/io/InputStream"), .long, .long, .boolean, (.array .byte)]
  staticTypes := #[.int, (.object "java/lang/invoke/VarHandle"), .long, .long, .long, (.array .byte)]
  resolved := Array.replicate 255 none
  statics := some 0 }

def pool3 : Array CpInfo := pool [(1, .methodref 2 3), (0, .class_ 4), (0, .nameAndType 5 6), (0, u "com/example/cistern/cistern/io/RecordReader"), (0, u "<init>"), (0, u "()V"), (0, .class_ 8), (0, u "com/example/cistern/cistern/io/CsvReader"), (0, .methodref 2 10), (0, .nameAndType 11 12), (0, u "start"), (0, u "(Ljava/io/InputStream;)V"), (0, .fieldref 7 14), (0, .nameAndType 15 16), (0, u "_quoted"), (0, u "Z"), (0, .fieldref 7 18), (0, .nameAndType 19 20), (0, u "_start"), (0, u "I"), (0, .methodref 7 22), (0, .nameAndType 23 24), (0, u "wordsEnd"), (0, u "()I"), (6, u "QUOTES"), (0, u "J"), (6, u "LFS"), (3, u "(J)J"), (2, u "COMMAS"), (0, .fieldref 7 48), (0, .nameAndType 49 50), (0, u "_buffer"), (0, u "[B"), (4, .long 18446744073709551615), (1, .fieldref 7 58), (0, .nameAndType 59 16), (0, u "_closed"), (14, .fieldref 7 75), (0, .nameAndType 76 20), (0, u "_end"), (0, .methodref 7 78), (0, .nameAndType 79 80), (0, u "endsRecord"), (0, u "(I)Z"), (17, u "HIGH_BITS"), (0, .methodref 7 100), (0, .nameAndType 101 102), (0, u "opensField"), (0, u "(BZ)Z"), (10, u "QUOTE"), (0, u "B"), (2, u "COMMA"), (1, u "LF"), (1, u "FIRST_HIGH_BIT"), (3, u "passEnds"), (0, u "inRecord"), (0, u "()Z")] 7

def k3c0 : Code := { maxStack := 1, maxLocals := 1, code := prog_14_method_1_code, exceptionTable := #[], attributes := #[] }
def k3m0 : Method := { name := "<init>", desc := "()V", sig := { parameters := [], returnType := none }, accessFlags := 1, code := some k3c0 }
def k3c1 : Code := { maxStack := 2, maxLocals := 2, code := prog_14_method_2_code, exceptionTable := #[], attributes := #[] }
def k3m1 : Method := { name := "opensField", desc := "(BZ)Z", sig := { parameters := [.byte, .boolean], returnType := some .boolean }, accessFlags := 8, code := some k3c1 }
def k3c2 : Code := { maxStack := 2, maxLocals := 2, code := prog_14_method_3_code, exceptionTable := #[], attributes := #[] }
def k3m2 : Method := { name := "start", desc := "(Ljava/io/InputStream;)V", sig := { parameters := [(.object "java/io/InputStream")], returnType := none }, accessFlags := 1, code := some k3c2 }
def k3c3 : Code := { maxStack := 8, maxLocals := 19, code := prog_14_method_4_code, exceptionTable := #[], attributes := #[] }
def k3m3 : Method := { name := "passEnds", desc := "(J)J", sig := { parameters := [.long], returnType := some .long }, accessFlags := 4, code := some k3c3 }
def k3c4 : Code := { maxStack := 3, maxLocals := 1, code := prog_14_method_5_code, exceptionTable := #[], attributes := #[] }
def k3m4 : Method := { name := "inRecord", desc := "()Z", sig := { parameters := [], returnType := some .boolean }, accessFlags := 4, code := some k3c4 }
def k3c5 : Code := { maxStack := 4, maxLocals := 3, code := prog_14_method_11_code, exceptionTable := #[], attributes := #[] }
def k3m5 : Method := { name := "endsRecord", desc := "(I)Z", sig := { parameters := [.int], returnType := some .boolean }, accessFlags := 2, code := some k3c5 }
/-- com/example/cistern/cistern/io/CsvReader -/
def k3 : Class := { plain "com/example/cistern/cistern/io/CsvReader" (some 2) with
  accessFlags := 49
  interfaces := #[]
  cf := some (fileOf pool3 7 #[] #[{ accessFlags := 1, nameIndex := 5, descriptorIndex := 6, attributes := #[] }, { accessFlags := 8, nameIndex := 101, descriptorIndex := 102, attributes := #[] }, { accessFlags := 1, nameIndex := 11, descriptorIndex := 12, attributes := #[] }, { accessFlags := 4, nameIndex := 125, descriptorIndex := 43, attributes := #[] }, { accessFlags := 4, nameIndex := 126, descriptorIndex := 127, attributes := #[] }, { accessFlags := 2, nameIndex := 79, descriptorIndex := 80, attributes := #[] }] 49 2 #[] #[{ accessFlags := 24, nameIndex := 113, descriptorIndex := 114, attributes := #[] }, { accessFlags := 24, nameIndex := 117, descriptorIndex := 114, attributes := #[] }, { accessFlags := 24, nameIndex := 119, descriptorIndex := 114, attributes := #[] }, { accessFlags := 26, nameIndex := 31, descriptorIndex := 32, attributes := #[] }, { accessFlags := 26, nameIndex := 46, descriptorIndex := 32, attributes := #[] }, { accessFlags := 26, nameIndex := 39, descriptorIndex := 32, attributes := #[] }, { accessFlags := 26, nameIndex := 98, descriptorIndex := 32, attributes := #[] }, { accessFlags := 26, nameIndex := 121, descriptorIndex := 32, attributes := #[] }, { accessFlags := 2, nameIndex := 15, descriptorIndex := 16, attributes := #[] }, { accessFlags := 2, nameIndex := 59, descriptorIndex := 16, attributes := #[] }])
  fields := #[{ name := "QUOTE", type := .byte, accessFlags := 24, slot := 0, constantValue := 0 }, { name := "COMMA", type := .byte, accessFlags := 24, slot := 1, constantValue := 0 }, { name := "LF", type := .byte, accessFlags := 24, slot := 2, constantValue := 0 }, { name := "QUOTES", type := .long, accessFlags := 26, slot := 3, constantValue := 0 }, { name := "COMMAS", type := .long, accessFlags := 26, slot := 4, constantValue := 0 }, { name := "LFS", type := .long, accessFlags := 26, slot := 5, constantValue := 0 }, { name := "HIGH_BITS", type := .long, accessFlags := 26, slot := 6, constantValue := 0 }, { name := "FIRST_HIGH_BIT", type := .long, accessFlags := 26, slot := 7, constantValue := 0 }, { name := "_quoted", type := .boolean, accessFlags := 2, slot := 8, constantValue := 0 }, { name := "_closed", type := .boolean, accessFlags := 2, slot := 9, constantValue := 0 }]
  methods := #[k3m0, k3m1, k3m2, k3m3, k3m4, k3m5]
  instanceTypes := #[(.array .byte), .int, .int, (.object "java/io/InputStream"), .long, .long, .boolean, (.array .byte), .boolean, .boolean]
  staticTypes := #[.byte, .byte, .byte, .long, .long, .long, .long, .long]
  resolved := Array.replicate 135 none
  statics := none }

def pool4 : Array CpInfo := pool [(1, u "java/lang/Cloneable"), (0, .class_ 1), (0, u "java/lang/Object"), (0, .class_ 3)] 3

/-- java/lang/Cloneable -/
def k4 : Class := { plain "java/lang/Cloneable" (some 0) with
  accessFlags := 1537
  interfaces := #[]
  cf := some (fileOf pool4 2 #[] #[] 1537 4 #[] #[])
  fields := #[]
  methods := #[]
  instanceTypes := #[]
  staticTypes := #[]
  resolved := Array.replicate 8 none
  statics := none }

def pool5 : Array CpInfo := pool [(1, u "java/io/Serializable"), (0, .class_ 1), (0, u "java/lang/Object"), (0, .class_ 3)] 3

/-- java/io/Serializable -/
def k5 : Class := { plain "java/io/Serializable" (some 0) with
  accessFlags := 1537
  interfaces := #[]
  cf := some (fileOf pool5 2 #[] #[] 1537 4 #[] #[])
  fields := #[]
  methods := #[]
  instanceTypes := #[]
  staticTypes := #[]
  resolved := Array.replicate 8 none
  statics := none }

/-- the primitive byte -/
def k6 : Class := { plain "byte" none with kind := .primitive 'B', accessFlags := 0x411 }
/-- [B -/
def k7 : Class := { plain "[B" (some 0) with kind := .array 6 .byte, interfaces := #[4, 5], accessFlags := 1041 }

/-- the primitive int -/
def k8 : Class := { plain "int" none with kind := .primitive 'I', accessFlags := 0x411 }
/-- [I -/
def k9 : Class := { plain "[I" (some 0) with kind := .array 8 .int, interfaces := #[4, 5], accessFlags := 1041 }

def heap : Heap := #[{ cls := 2, slots := #[.int 0, .null, .long 0, .long 0, .long 0, .ref 1], vm := .statics 2 },
  { cls := 7, slots := #[], vm := .none }]
def classes : Array Class := #[k0, k1, k2, k3, k4, k5, k6, k7, k8, k9]
def interned : List (Array UInt16 × Addr) := []
def slotsUsed : Nat := 6
def theMethod : MethodId := ⟨1, 3⟩
def args0 : Array Value := #[.int 5, .int 9, .int 3, .int 5, .int 7]
def aboutOver (below : List Frame) : State where
  vm := { classes := classes, interned := interned.toArray }
  heap := heap
  slotsUsed := slotsUsed
  threads := #[{ frames := .invoking theMethod args0 :: below }]
def below0 : List Frame := [.native { method := ⟨0, 0⟩, args := #[] }]
def about1 : State := aboutOver below0
def p0 : Program := .bare "" "" ""
def e0 : Env := launch0.env 0 0 0
theorem w_frames : about1.frames = Frame.invoking theMethod args0 :: below0 := rfl
set_option maxRecDepth 65536 in
theorem w_args : argsFit about1.vm theMethod args0 = true := by decide +kernel
set_option maxRecDepth 65536 in
theorem w_heap : heapFits about1 = true := by decide +kernel
set_option maxRecDepth 65536 in
theorem w_runnable : about1.curStatus? = some .runnable := by decide +kernel
set_option maxRecDepth 65536 in
theorem w_alone : about1.alone = true := by decide +kernel
set_option maxRecDepth 65536 in
theorem w_named : about1.methodNamed? x = some theMethod := by decide +kernel
set_option maxRecDepth 65536 in
theorem w_hears : about1.hears theMethod below0 = true := by decide +kernel
set_option maxRecDepth 65536 in
theorem w_ripe : about1.ripe theMethod args0 below0 = true := by decide +kernel
theorem w_running : about1.status = .running := rfl
set_option maxRecDepth 65536 in
theorem w_room : about1.hasRoom e0.platform room_1 = true :=
  launch0.hasRoom_least _ room_1 (by decide +kernel) (by decide +kernel) (by decide +kernel) (by decide +kernel) (by decide +kernel) (by decide +kernel)
theorem allAtoms_all (ts : List Jvm.Cond) (a : Array Jvm.Value) (st : Jvm.State) : (allAtoms ts).before a st = ts.all (fun c => c.before a st) := by
  induction ts with
  | nil => rfl
  | cons c t ih =>
    show (Jvm.Cond.and c (allAtoms t)).before a st = _
    rw [Jvm.Cond.before_and, ih, List.all_cons]
def words1 : List Jvm.Cond := Jvm.Cond.code x code maxLocals ret :: tables_1
/-- a 'code' word, met by the world's own term for the bytes: nothing is compared byte by byte -/
theorem code_word {y : MethodName} {bytes : ByteArray} {mx : Nat} {rt : Option FieldType} {a : Array Value} {s : State} {m : MethodId} {meth : Method} {c : Code} (h1 : s.methodNamed? y = some m) (h2 : s.vm.method? m = some meth) (h3 : meth.code = some c) (h4 : c.code = bytes)
    (h5 : (c.maxLocals == mx && c.exceptionTable.isEmpty && decide (c.maxStack ≤ mostOperands) && decide (meth.sig.returnType = rt) && !meth.locks && decide (parseMethodDescriptor y.desc = some meth.sig)) = true) : (Jvm.Cond.code y bytes mx rt).before a s = true := by
  simp only [Bool.and_eq_true, beq_iff_eq, Bool.not_eq_true', decide_eq_true_eq] at h5
  obtain ⟨⟨⟨⟨⟨g1, g2⟩, g3⟩, g4⟩, g5⟩, g6⟩ := h5
  simp [Cond.before, Cond.holds, Cond.value, h1, h2, h3, h4, g1, g2, g3, g4, g5, g6]
def isCode : Jvm.Cond → Bool
  | .code _ _ _ _ => true
  | _ => false
theorem all_split {L : List Jvm.Cond} {P : Jvm.Cond → Bool} (h1 : L.all (fun c => isCode c || P c) = true) (h2 : ∀ c ∈ L.filter isCode, P c = true) : L.all P = true := by
  refine List.all_eq_true.mpr fun c hc => ?_
  have h := List.all_eq_true.mp h1 c hc
  rcases Bool.eq_false_or_eq_true (isCode c) with hi | hi
  · exact h2 c (List.mem_filter.mpr ⟨hc, hi⟩)
  · simpa [hi] using h
set_option maxRecDepth 65536 in
theorem w_c0 : (Jvm.Cond.code x code maxLocals ret).before args0 about1 = true := code_word (m := ⟨1, 3⟩) (meth := k1m3) (c := k1c3) (by decide +kernel) rfl rfl rfl (by decide +kernel)
set_option maxRecDepth 65536 in
theorem w_c1 : (Jvm.Cond.code ({ cls := "com/example/cistern/cistern/io/CsvReaderInRecordPinLaw", name := "draw", desc := "(I)B" } : Jvm.MethodName) method_2_code (2 : Nat) (Option.some Jvm.ClassFile.FieldType.byte)).before args0 about1 = true := code_word (m := ⟨1, 1⟩) (meth := k1m1) (c := k1c1) (by decide +kernel) rfl rfl rfl (by decide +kernel)
set_option maxRecDepth 65536 in
theorem w_c2 : (Jvm.Cond.code ({ cls := "com/example/cistern/cistern/io/CsvReader", name := "<init>", desc := "()V" } : Jvm.MethodName) prog_14_method_1_code (1 : Nat) (Option.none : Option Jvm.ClassFile.FieldType)).before args0 about1 = true := code_word (m := ⟨3, 0⟩) (meth := k3m0) (c := k3c0) (by decide +kernel) rfl rfl rfl (by decide +kernel)
set_option maxRecDepth 65536 in
theorem w_c3 : (Jvm.Cond.code ({ cls := "com/example/cistern/cistern/io/RecordReader", name := "<init>", desc := "()V" } : Jvm.MethodName) prog_24_method_1_code (1 : Nat) (Option.none : Option Jvm.ClassFile.FieldType)).before args0 about1 = true := code_word (m := ⟨2, 0⟩) (meth := k2m0) (c := k2c0) (by decide +kernel) rfl rfl rfl (by decide +kernel)
set_option maxRecDepth 65536 in
theorem w_c4 : (Jvm.Cond.code ({ cls := "java/lang/Object", name := "<init>", desc := "()V" } : Jvm.MethodName) object_method_1_code (1 : Nat) (Option.none : Option Jvm.ClassFile.FieldType)).before args0 about1 = true := code_word (m := ⟨0, 0⟩) (meth := k0m0) (c := k0c0) (by decide +kernel) rfl rfl rfl (by decide +kernel)
set_option maxRecDepth 65536 in
theorem w_c5 : (Jvm.Cond.code ({ cls := "com/example/cistern/cistern/io/CsvReader", name := "start", desc := "(Ljava/io/InputStream;)V" } : Jvm.MethodName) prog_14_method_3_code (2 : Nat) (Option.none : Option Jvm.ClassFile.FieldType)).before args0 about1 = true := code_word (m := ⟨3, 2⟩) (meth := k3m2) (c := k3c2) (by decide +kernel) rfl rfl rfl (by decide +kernel)
set_option maxRecDepth 65536 in
theorem w_c6 : (Jvm.Cond.code ({ cls := "com/example/cistern/cistern/io/RecordReader", name := "start", desc := "(Ljava/io/InputStream;)V" } : Jvm.MethodName) prog_24_method_2_code (2 : Nat) (Option.none : Option Jvm.ClassFile.FieldType)).before args0 about1 = true := code_word (m := ⟨2, 1⟩) (meth := k2m1) (c := k2c1) (by decide +kernel) rfl rfl rfl (by decide +kernel)
set_option maxRecDepth 65536 in
theorem w_c7 : (Jvm.Cond.code ({ cls := "com/example/cistern/cistern/io/CsvReader", name := "passEnds", desc := "(J)J" } : Jvm.MethodName) prog_14_method_4_code (19 : Nat) (Option.some Jvm.ClassFile.FieldType.long)).before args0 about1 = true := code_word (m := ⟨3, 3⟩) (meth := k3m3) (c := k3c3) (by decide +kernel) rfl rfl rfl (by decide +kernel)
set_option maxRecDepth 65536 in
theorem w_c8 : (Jvm.Cond.code ({ cls := "com/example/cistern/cistern/io/RecordReader", name := "wordsEnd", desc := "()I" } : Jvm.MethodName) prog_24_method_11_code (1 : Nat) (Option.some Jvm.ClassFile.FieldType.int)).before args0 about1 = true := code_word (m := ⟨2, 2⟩) (meth := k2m2) (c := k2c2) (by decide +kernel) rfl rfl rfl (by decide +kernel)
set_option maxRecDepth 65536 in
theorem w_c9 : (Jvm.Cond.code ({ cls := "com/example/cistern/cistern/io/CsvReader", name := "endsRecord", desc := "(I)Z" } : Jvm.MethodName) prog_14_method_11_code (3 : Nat) (Option.some Jvm.ClassFile.FieldType.boolean)).before args0 about1 = true := code_word (m := ⟨3, 5⟩) (meth := k3m5) (c := k3c5) (by decide +kernel) rfl rfl rfl (by decide +kernel)
set_option maxRecDepth 65536 in
theorem w_c10 : (Jvm.Cond.code ({ cls := "com/example/cistern/cistern/io/CsvReader", name := "opensField", desc := "(BZ)Z" } : Jvm.MethodName) prog_14_method_2_code (2 : Nat) (Option.some Jvm.ClassFile.FieldType.boolean)).before args0 about1 = true := code_word (m := ⟨3, 1⟩) (meth := k3m1) (c := k3c1) (by decide +kernel) rfl rfl rfl (by decide +kernel)
set_option maxRecDepth 65536 in
theorem w_c11 : (Jvm.Cond.code ({ cls := "com/example/cistern/cistern/io/CsvReader", name := "inRecord", desc := "()Z" } : Jvm.MethodName) prog_14_method_5_code (1 : Nat) (Option.some Jvm.ClassFile.FieldType.boolean)).before args0 about1 = true := code_word (m := ⟨3, 4⟩) (meth := k3m4) (c := k3c4) (by decide +kernel) rfl rfl rfl (by decide +kernel)
set_option maxRecDepth 65536 in
theorem w_c12 : (Jvm.Cond.code ({ cls := "com/example/cistern/cistern/io/CsvReaderInRecordPinLaw", name := "step", desc := "(IB)I" } : Jvm.MethodName) method_3_code (5 : Nat) (Option.some Jvm.ClassFile.FieldType.int)).before args0 about1 = true := code_word (m := ⟨1, 2⟩) (meth := k1m2) (c := k1c2) (by decide +kernel) rfl rfl rfl (by decide +kernel)
def codes1 : List Jvm.Cond := [Jvm.Cond.code x code maxLocals ret, Jvm.Cond.code ({ cls := "com/example/cistern/cistern/io/CsvReaderInRecordPinLaw", name := "draw", desc := "(I)B" } : Jvm.MethodName) method_2_code (2 : Nat) (Option.some Jvm.ClassFile.FieldType.byte), Jvm.Cond.code ({ cls := "com/example/cistern/cistern/io/CsvReader", name := "<init>", desc := "()V" } : Jvm.MethodName) prog_14_method_1_code (1 : Nat) (Option.none : Option Jvm.ClassFile.FieldType), Jvm.Cond.code ({ cls := "com/example/cistern/cistern/io/RecordReader", name := "<init>", desc := "()V" } : Jvm.MethodName) prog_24_method_1_code (1 : Nat) (Option.none : Option Jvm.ClassFile.FieldType), Jvm.Cond.code ({ cls := "java/lang/Object", name := "<init>", desc := "()V" } : Jvm.MethodName) object_method_1_code (1 : Nat) (Option.none : Option Jvm.ClassFile.FieldType), Jvm.Cond.code ({ cls := "com/example/cistern/cistern/io/CsvReader", name := "start", desc := "(Ljava/io/InputStream;)V" } : Jvm.MethodName) prog_14_method_3_code (2 : Nat) (Option.none : Option Jvm.ClassFile.FieldType), Jvm.Cond.code ({ cls := "com/example/cistern/cistern/io/RecordReader", name := "start", desc := "(Ljava/io/InputStream;)V" } : Jvm.MethodName) prog_24_method_2_code (2 : Nat) (Option.none : Option Jvm.ClassFile.FieldType), Jvm.Cond.code ({ cls := "com/example/cistern/cistern/io/CsvReader", name := "passEnds", desc := "(J)J" } : Jvm.MethodName) prog_14_method_4_code (19 : Nat) (Option.some Jvm.ClassFile.FieldType.long), Jvm.Cond.code ({ cls := "com/example/cistern/cistern/io/RecordReader", name := "wordsEnd", desc := "()I" } : Jvm.MethodName) prog_24_method_11_code (1 : Nat) (Option.some Jvm.ClassFile.FieldType.int), Jvm.Cond.code ({ cls := "com/example/cistern/cistern/io/CsvReader", name := "endsRecord", desc := "(I)Z" } : Jvm.MethodName) prog_14_method_11_code (3 : Nat) (Option.some Jvm.ClassFile.FieldType.boolean), Jvm.Cond.code ({ cls := "com/example/cistern/cistern/io/CsvReader", name := "opensField", desc := "(BZ)Z" } : Jvm.MethodName) prog_14_method_2_code (2 : Nat) (Option.some Jvm.ClassFile.FieldType.boolean), Jvm.Cond.code ({ cls := "com/example/cistern/cistern/io/CsvReader", name := "inRecord", desc := "()Z" } : Jvm.MethodName) prog_14_method_5_code (1 : Nat) (Option.some Jvm.ClassFile.FieldType.boolean), Jvm.Cond.code ({ cls := "com/example/cistern/cistern/io/CsvReaderInRecordPinLaw", name := "step", desc := "(IB)I" } : Jvm.MethodName) method_3_code (5 : Nat) (Option.some Jvm.ClassFile.FieldType.int)]
set_option maxRecDepth 65536 in
theorem codes_eq : words1.filter isCode = codes1 := rfl
theorem w_codes : ∀ c ∈ words1.filter isCode, c.before args0 about1 = true := by
  rw [codes_eq]
  intro c hc
  simp only [codes1, List.mem_cons, List.not_mem_nil, or_false] at hc
  rcases hc with rfl | rfl | rfl | rfl | rfl | rfl | rfl | rfl | rfl | rfl | rfl | rfl | rfl
  · exact w_c0
  · exact w_c1
  · exact w_c2
  · exact w_c3
  · exact w_c4
  · exact w_c5
  · exact w_c6
  · exact w_c7
  · exact w_c8
  · exact w_c9
  · exact w_c10
  · exact w_c11
  · exact w_c12
set_option maxRecDepth 65536 in
theorem w_t1 : (words1.take 24).all (fun c => isCode c || c.before args0 about1) = true := by decide +kernel
set_option maxRecDepth 65536 in
theorem w_t2 : ((words1.drop 24).take 24).all (fun c => isCode c || c.before args0 about1) = true := by decide +kernel
set_option maxRecDepth 65536 in
theorem w_t3 : (((words1.drop 24).drop 24).take 24).all (fun c => isCode c || c.before args0 about1) = true := by decide +kernel
set_option maxRecDepth 65536 in
theorem w_t4 : (((words1.drop 24).drop 24).drop 24).all (fun c => isCode c || c.before args0 about1) = true := by decide +kernel
theorem w_tables : (allAtoms (Jvm.Cond.code x code maxLocals ret :: tables_1)).before args0 about1 = true := by
  rw [allAtoms_all]
  show words1.all (fun c => c.before args0 about1) = true
  refine all_split ?_ w_codes
  rw [← List.take_append_drop 24 words1, List.all_append, w_t1, ← List.take_append_drop 24 (words1.drop 24), List.all_append, w_t2, ← List.take_append_drop 24 ((words1.drop 24).drop 24), List.all_append, w_t3, w_t4]
  rfl
set_option maxRecDepth 65536 in
theorem w_case : (Jvm.Cond.and given_1 narrow_1).before args0 about1 = true := by decide +kernel
theorem w_applies : (headSpec (Jvm.Cond.code x code maxLocals ret :: tables_1) room_1).applies x e0.platform about1 = true :=
  (Spec.applies_iff w_frames).mpr ⟨w_running, w_runnable, w_alone, w_named, w_hears, w_ripe, w_room, w_tables⟩
theorem atStart : AtStart classFile x code maxLocals ret World_1 tables_1 room_1 Calls_1 rest_1 Pre_1 launch0 p0 e0 about1 theMethod args0 below0 :=
  ⟨lists_1, trivial, launch0.admits_env _ _ _, launch0.least_env, fairChoices_fair.cas, fairChoices_fair.clock, w_frames, w_args, w_heap, w_applies, trivial, trivial, w_case⟩
end start1
theorem witness_1 : WitnessClaimed_1 := ⟨start1.p0, start1.e0, start1.about1, start1.theMethod, start1.args0, start1.below0, start1.atStart⟩
end Jvm.Pilot.@@N@@
