import JvmDerived
import JvmDerived.Pilot.@@N@@Statement
import JvmDerived.Pilot.@@N@@Code
set_option linter.unusedVariables false
set_option linter.unusedSimpArgs false
namespace Jvm.RoadKit
open Sem ClassFile Op Lib Jvm.Stand Jvm.Free Jvm.LawKit
section New
variable {p : Program} {l : Launch} {e : Env} {R : Room} {s : State} {m : MethodId} {args : Array Value} {below : List Frame} {meth : Method} {c : Code} {T : State} {locs : List Loc} {cells slots : Nat}
theorem retI (X : Stand p l e R s m args below meth c T locs cells slots) (hx : p.tables.exec = Jvm.exec) {pc : Nat} {Ls : Array Slot} {z : Int32} {rest : List Value} (hret : meth.sig.returnType = some .int) (hd : decode c.code pc = .ok (.ireturn, 1)) {fs : List Frame}
    (hl : ∀ (f : JFrame) (acts : List Action), f.method = m → f.locked = none → f.entered = [] → (doReturn e (T.setTop f) acts (some (.int z))).1 = T.setFrames fs) : Steps p.tables e below (T.setTop (mkF m pc Ls (.int z :: rest))) (T.setFrames fs) := by
  have hm' : T.vm.method? m = some meth := X.method'
  have hn : narrow .int (.int z) = .int z := rfl
  show Steps p.tables e below (T.setTop { method := m, pc := pc, locals := Ls, stack := _ :: rest, locked := none }) _
  jvm_step X.here [X.here.top, hx, hd, hm', hret, hn]
  first | (intro acts; rw [hl _ acts rfl rfl rfl]) | rw [hl _ _ rfl rfl rfl]
  exact Steps.refl _
end New
end Jvm.RoadKit
namespace Jvm.Pilot.@@N@@
open Jvm Jvm.ClassFile Sem Op Lib Jvm.Free Jvm.Stand Jvm.LawKit Jvm.RoadKit Bundle Jvm.Pilot.@@N@@.Jvm.D
section OwnArrays
variable {Z : State} {h h' : Heap} {a b : Addr} {ty : FieldType} {n j : Int32} {F : Nat → Int32} {G : Nat → Int64} {sl : Nat} {v : Value} {ws : List Addr} {k : ClassId} {x : Int32} {y : Int64}
/-- an array of ints (chars, bytes, booleans ..): its length and its components -/
def own_AI (Z : State) (h : Heap) (a : Addr) (ty : FieldType) (n : Int32) (F : Nat → Int32) : Prop := ∃ c : Cell, Arr Z h a c ty ∧ c.slots.size = n.toNatClampNeg ∧ ¬ n < 0 ∧ ∀ i, i < c.slots.size → c.slots[i]? = some (.int (F i)) ∧ fits ty (.int (F i)) = true
/-- an array of longs -/
def own_AJ (Z : State) (h : Heap) (a : Addr) (ty : FieldType) (n : Int32) (F : Nat → Int64) : Prop := ∃ c : Cell, Arr Z h a c ty ∧ c.slots.size = n.toNatClampNeg ∧ ¬ n < 0 ∧ ∀ i, i < c.slots.size → c.slots[i]? = some (.long (F i))
/-- an array of which the length alone is told -/
def own_AL (Z : State) (h : Heap) (a : Addr) (ty : FieldType) (n : Int32) : Prop := ∃ c : Cell, Arr Z h a c ty ∧ c.slots.size = n.toNatClampNeg ∧ ¬ n < 0 ∧ True
def own_upd {α : Type} (F : Nat → α) (i : Nat) (v : α) : Nat → α := fun q => if q = i then v else F q
theorem own_upd_at {α : Type} (F : Nat → α) (i : Nat) (v : α) (q : Nat) : own_upd F i v q = if q = i then v else F q := rfl
theorem own_lt {c : Cell} (q : ¬ (j < 0 ∨ c.slots.size ≤ j.toNatClampNeg)) : j.toNatClampNeg < c.slots.size := Nat.lt_of_not_le fun z => q (Or.inr z)
theorem own_AI.lt (H : own_AI Z h a ty n F) : a < h.size := by obtain ⟨c, A, -⟩ := H; exact A.lt
theorem own_AI.ext (H : own_AI Z h a ty n F) (E : Ext h h') : own_AI Z h' a ty n F := by obtain ⟨c, A, r⟩ := H; exact ⟨c, A.ext E, r⟩
theorem own_AI.other (H : own_AI Z h b ty n F) (W : Wr h h' a sl v) (q : b ≠ a) : own_AI Z h' b ty n F := by obtain ⟨c, A, r⟩ := H; exact ⟨c, A.other W q, r⟩
theorem own_AI.keep (H : own_AI Z h a ty n F) (K : Keep h h' ws) (q : a ∉ ws) : own_AI Z h' a ty n F := by obtain ⟨c, A, r⟩ := H; exact ⟨c, ⟨K.2.1 a c A.1 q, A.2⟩, r⟩
theorem own_AI.new (A : Arr Z h a (newA k ty n) ty) (q : ¬ n < 0) (hd : defaultValue ty = .int 0) : own_AI Z h a ty n (fun _ => 0) :=
  ⟨_, A, sz_new _ _ _, q, fun i hi => by
    rw [sz_new] at hi
    refine ⟨by simp [newA, hi, hd], ?_⟩
    rw [← hd]; cases ty <;> rfl⟩
theorem own_AI.set (H : own_AI Z h a ty n F) (hv : fits ty (.int x) = true) (W : Wr h h' a j.toNatClampNeg (.int x)) : own_AI Z h' a ty n (own_upd F j.toNatClampNeg x) := by
  obtain ⟨c, A, S, q, H⟩ := H
  refine ⟨_, A.same W, by simpa [Cell.setSlot] using S, q, fun i hi => ?_⟩
  have hi' : i < c.slots.size := by simpa [Cell.setSlot] using hi
  by_cases u : i = j.toNatClampNeg
  · rw [own_upd_at, if_pos u]; subst u; exact ⟨by simp [Cell.setSlot, hi'], hv⟩
  · rw [own_upd_at, if_neg u]
    refine ⟨?_, (H i hi').2⟩
    have := (H i hi').1
    simp only [Cell.setSlot] at this ⊢
    rw [Array.getElem?_setIfInBounds_ne (Ne.symm u)]; exact this
theorem own_AJ.lt (H : own_AJ Z h a ty n G) : a < h.size := by obtain ⟨c, A, -⟩ := H; exact A.lt
theorem own_AJ.ext (H : own_AJ Z h a ty n G) (E : Ext h h') : own_AJ Z h' a ty n G := by obtain ⟨c, A, r⟩ := H; exact ⟨c, A.ext E, r⟩
theorem own_AJ.other (H : own_AJ Z h b ty n G) (W : Wr h h' a sl v) (q : b ≠ a) : own_AJ Z h' b ty n G := by obtain ⟨c, A, r⟩ := H; exact ⟨c, A.other W q, r⟩
theorem own_AJ.keep (H : own_AJ Z h a ty n G) (K : Keep h h' ws) (q : a ∉ ws) : own_AJ Z h' a ty n G := by obtain ⟨c, A, r⟩ := H; exact ⟨c, ⟨K.2.1 a c A.1 q, A.2⟩, r⟩
theorem own_AJ.new (A : Arr Z h a (newA k .long n) .long) (q : ¬ n < 0) : own_AJ Z h a .long n (fun _ => 0) :=
  ⟨_, A, sz_new _ _ _, q, fun i hi => by rw [sz_new] at hi; simp [newA, hi, defaultValue]⟩
theorem own_AJ.set (H : own_AJ Z h a ty n G) (W : Wr h h' a j.toNatClampNeg (.long y)) : own_AJ Z h' a ty n (own_upd G j.toNatClampNeg y) := by
  obtain ⟨c, A, S, q, H⟩ := H
  refine ⟨_, A.same W, by simpa [Cell.setSlot] using S, q, fun i hi => ?_⟩
  have hi' : i < c.slots.size := by simpa [Cell.setSlot] using hi
  by_cases u : i = j.toNatClampNeg
  · rw [own_upd_at, if_pos u]; subst u; simp [Cell.setSlot, hi']
  · rw [own_upd_at, if_neg u]
    have := H i hi'
    simp only [Cell.setSlot] at this ⊢
    rw [Array.getElem?_setIfInBounds_ne (Ne.symm u)]; exact this
theorem own_AL.lt (H : own_AL Z h a ty n) : a < h.size := by obtain ⟨c, A, -⟩ := H; exact A.lt
theorem own_AL.ext (H : own_AL Z h a ty n) (E : Ext h h') : own_AL Z h' a ty n := by obtain ⟨c, A, r⟩ := H; exact ⟨c, A.ext E, r⟩
theorem own_AL.other (H : own_AL Z h b ty n) (W : Wr h h' a sl v) (q : b ≠ a) : own_AL Z h' b ty n := by obtain ⟨c, A, r⟩ := H; exact ⟨c, A.other W q, r⟩
theorem own_AL.keep (H : own_AL Z h a ty n) (K : Keep h h' ws) (q : a ∉ ws) : own_AL Z h' a ty n := by obtain ⟨c, A, r⟩ := H; exact ⟨c, ⟨K.2.1 a c A.1 q, A.2⟩, r⟩
theorem own_AL.new (A : Arr Z h a (newA k ty n) ty) (q : ¬ n < 0) : own_AL Z h a ty n := ⟨_, A, sz_new _ _ _, q, trivial⟩
theorem own_AL.set (H : own_AL Z h a ty n) (W : Wr h h' a sl v) : own_AL Z h' a ty n := by
  obtain ⟨c, A, S, q, -⟩ := H
  exact ⟨_, A.same W, by simpa [Cell.setSlot] using S, q, trivial⟩
end OwnArrays
theorem own_nn {p : Int32} (h : 0 ≤ p.toInt ∧ p.toInt ≤ 15) : ¬ (p + 2) < 0 := by
  have h1 := c_iadd p 2
  have h2 := rng32 (p + 2)
  have e2 : (2 : Int32).toInt = 2 := by decide
  have e0 : (0 : Int32).toInt = 0 := by decide
  rw [e2] at h1
  rw [Int32.lt_iff_toInt_lt, e0]
  omega
theorem own_cap {p : Int32} (h : 0 ≤ p.toInt ∧ p.toInt ≤ 15) : (p + 2).toNatClampNeg ≤ 17 := by
  have h1 := c_iadd p 2
  have h2 := rng32 (p + 2)
  have e2 : (2 : Int32).toInt = 2 := by decide
  rw [e2] at h1
  unfold Int32.toNatClampNeg
  omega
theorem own_b0 {i L : Int32} (hi : 1 ≤ i.toInt) (h : i < L) : ¬ i < 0 ∧ i < L := by
  have e0 : (0 : Int32).toInt = 0 := by decide
  refine ⟨?_, h⟩
  rw [Int32.lt_iff_toInt_lt, e0]; omega
theorem own_b1 {i L : Int32} (hi : 1 ≤ i.toInt) (h : i < L) : ¬ (i - 1) < 0 ∧ (i - 1) < L := by
  have e0 : (0 : Int32).toInt = 0 := by decide
  have e1 : (1 : Int32).toInt = 1 := by decide
  have h1 := c_isub i 1
  have h2 := rng32 (i - 1)
  have h3 := rng32 i
  rw [e1] at h1
  rw [Int32.lt_iff_toInt_lt] at h
  rw [Int32.lt_iff_toInt_lt, Int32.lt_iff_toInt_lt, e0]; omega
theorem own_i1 {i p : Int32} (hp : 0 ≤ p.toInt ∧ p.toInt ≤ 15) (hi : 1 ≤ i.toInt) (h : i < p + 2) : 1 ≤ (i + 1).toInt ∧ (i + 1).toInt = i.toInt + 1 ∧ i.toInt < 17 := by
  have h1 := c_iadd p 2
  have h2 := rng32 (p + 2)
  have e2 : (2 : Int32).toInt = 2 := by decide
  have e1 : (1 : Int32).toInt = 1 := by decide
  rw [e2] at h1
  have h3 := c_iadd i 1
  have h4 := rng32 (i + 1)
  rw [e1] at h3
  rw [Int32.lt_iff_toInt_lt] at h
  omega
theorem own_k1 {i p : Int32} (hp : 0 ≤ p.toInt ∧ p.toInt ≤ 15) (hi : 1 ≤ i.toInt) (h : i < p + 2) {k : Nat} (hk : (17 - i.toInt).toNat < k + 1) : (17 - (i + 1).toInt).toNat < k := by
  have := own_i1 hp hi h
  omega
theorem own_p0 {p : Int32} (h : 0 ≤ p.toInt ∧ p.toInt ≤ 15) : ¬ p < 0 := by
  have e0 : (0 : Int32).toInt = 0 := by decide
  rw [Int32.lt_iff_toInt_lt, e0]; omega
theorem own_p1 {p : Int32} (h : 0 ≤ p.toInt ∧ p.toInt ≤ 15) : ¬ (2147483645 : Int32) < p := by
  have e0 : (2147483645 : Int32).toInt = 2147483645 := by decide
  rw [Int32.lt_iff_toInt_lt, e0]; omega
theorem own_p2 {p : Int32} (h : 1 ≤ p.toInt) : ¬ p < 1 := by
  have e0 : (1 : Int32).toInt = 1 := by decide
  rw [Int32.lt_iff_toInt_lt, e0]; omega
theorem d1_0 : decode jdk_29_method_65_code 0 = .ok (.iload_n 0, 1) := by decide +kernel
theorem d1_1 : decode jdk_29_method_65_code 1 = .ok (.iload_n 1, 1) := by decide +kernel
theorem d1_2 : decode jdk_29_method_65_code 2 = .ok (.if_icmp .lt 7, 3) := by decide +kernel
theorem d1_5 : decode jdk_29_method_65_code 5 = .ok (.iload_n 0, 1) := by decide +kernel
theorem d1_6 : decode jdk_29_method_65_code 6 = .ok (.goto 4, 3) := by decide +kernel
theorem d1_9 : decode jdk_29_method_65_code 9 = .ok (.iload_n 1, 1) := by decide +kernel
theorem d1_10 : decode jdk_29_method_65_code 10 = .ok (.ireturn, 1) := by decide +kernel
theorem ef_1 (m : MethodId) (x0 : Int32) (x1 : Int32) : entryFrame m #[(.int x0), (.int x1)] 2 = mkF m 0 #[.val (.int x0), .val (.int x1)] [] := by first | (simp [entryFrame, mkF, argsToLocals, Value.category]; done) | rfl
def f1 (p0 : Int32) (p1 : Int32) : Int32 :=
  if p0 < p1 then (p1) else
  (p0)
theorem own_m15 (x : Int32) : 0 ≤ (x &&& (15 : Int32)).toInt ∧ (x &&& (15 : Int32)).toInt ≤ 15 := by
  have h : (x &&& 15).toInt = x.toInt % 16 := c_mask x 15 4 (by decide) (by decide)
  omega
theorem own_f1 (x : Int32) : 1 ≤ (f1 (1 : Int32) x).toInt := by
  have e1 : (1 : Int32).toInt = 1 := by decide
  unfold f1
  split
  · rename_i h; rw [Int32.lt_iff_toInt_lt, e1] at h; omega
  · rw [e1]; omega
def Q1 (Z : State) (p0 : Int32) (p1 : Int32) (h0 : Heap) (n0 : Nat) (v : Option Value) (h : Heap) (L : List Loc) : Prop := v = some (.int (f1 p0 p1)) ∧ Fr n0 L ∧ h = h0
set_option maxRecDepth 65536 in
set_option maxHeartbeats 40000000 in
theorem rm1 (l : Launch) (Z : State) (a0 : Array Value) (hw : ∀ d ∈ tables_1, d.before a0 Z = true) (ws : List Jvm.Cond) (p0 : Int32) (p1 : Int32) (h0 : Heap) (n0 : Nat) (Z0 : n0 ≤ h0.size) :
    MetFree l (⟨"java/lang/Math", "max", "(II)I"⟩ : MethodName) (head1 (Jvm.Cond.code (⟨"java/lang/Math", "max", "(II)I"⟩ : MethodName) jdk_29_method_65_code 2 (some .int) :: ws) ({ frames := 0, cells := 0, slots := 0, locals := 0 } : Room)) (fun a U => a = #[(.int p0), (.int p1)] ∧ Z.Warmed39 U.vm ∧ U.heap = h0) (fun _ _ _ _ _ => True) (fun _ U o U' => ∃ v L, o = .returned v ∧ Q1 Z p0 p1 h0 n0 v U'.heap L ∧ FrameEnd U o U' L ({ frames := 0, cells := 0, slots := 0, locals := 0 } : Room).cells ({ frames := 0, cells := 0, slots := 0, locals := 0 } : Room).slots) := by
  refine MetFree.of_bodySF (Jvm.Free.JP.mathPlain rfl (by decide +kernel)) hisR ?_
  intro p e s m args below meth c s₁ Bd hml0 hP hK
  obtain ⟨rfl, hZ, hh⟩ := hP
  have hx := Bd.exec
  have hby := Bd.bytes
  have hml : c.maxLocals = 2 := hml0
  have hown : s.vm.findClass "java/lang/Math" = some m.cls := findClass_of_methodNamed Bd.named
  have hnm := (name_of_methodNamed Bd.named Bd.method).1
  have X0 : Stand p l e ({ frames := 0, cells := 0, slots := 0, locals := 0 } : Room) s m #[(.int p0), (.int p1)] below meth c s₁ [] 0 0 := Stand.of_body Bd
  have e0 : s₁.heap = h0 := by rw [← hh, Bd.state]; rfl
  have N0 := Fr.nil n0
  have pre0 : ∀ t, Steps p.tables e below (s₁.setTop (mkF m 0 #[.val (.int p0), .val (.int p1)] [])) t → Steps p.tables e below (s₁.setTop (entryFrame m #[(.int p0), (.int p1)] 2)) t := fun t k => castTop (ef_1 m p0 p1) k
  have pre1 : ∀ t, Steps p.tables e below (s₁.setTop (mkF m 2 #[.val (.int p0), .val (.int p1)] [(.int p1), (.int p0)])) t → Steps p.tables e below (s₁.setTop (entryFrame m #[(.int p0), (.int p1)] 2)) t := fun t kt => pre0 t (by
      show Steps p.tables e below (s₁.setTop (mkF m 0 #[.val (.int p0), .val (.int p1)] [])) _
      refine XS.iloadN X0.here hx rfl (hb hby d1_0) rfl ?_
      show Steps p.tables e below (s₁.setTop (mkF m 1 #[.val (.int p0), .val (.int p1)] [(.int p0)])) _
      refine XS.iloadN X0.here hx rfl (hb hby d1_1) rfl ?_
      exact kt)
  by_cases hc2_2 : p0 < p1
  · obtain ⟨fs, hr, hrun, hended, hW, hsame⟩ := X0.leave (v := some (.int p1)) (fun h => by rw [Bd.returns] at h; cases h)
    have hv3 : (f1 p0 p1) = p1 := by rw [f1, if_pos hc2_2]
    refine ⟨_, _, pre1 _ ?_, hrun, hended, _, _, rfl, ?_, ⟨_, rfl⟩, hW, hsame.mono (by decide) (by decide)⟩
    · show Steps p.tables e below (s₁.setTop (mkF m 2 #[.val (.int p0), .val (.int p1)] [(.int p1), (.int p0)])) _
      refine XS.icmpYes X0.here hx rfl (pc0 := 2) (pc' := 9) rfl (hb hby d1_2) rfl (tlt hc2_2).1 (by decide) (by decide) ?_
      show Steps p.tables e below (s₁.setTop (mkF m 9 #[.val (.int p0), .val (.int p1)] [])) _
      refine XS.iloadN X0.here hx rfl (hb hby d1_9) rfl ?_
      show Steps p.tables e below (s₁.setTop (mkF m 10 #[.val (.int p0), .val (.int p1)] [(.int p1)])) _
      exact retI X0 hx Bd.returns (hb hby d1_10) hr
    · show Q1 Z p0 p1 h0 n0 _ s₁.heap _
      rw [e0]
      exact ⟨congrArg (fun q => some (Value.int q)) hv3.symm, N0, rfl⟩
  · obtain ⟨fs, hr, hrun, hended, hW, hsame⟩ := X0.leave (v := some (.int p0)) (fun h => by rw [Bd.returns] at h; cases h)
    have hv4 : (f1 p0 p1) = p0 := by rw [f1, if_neg hc2_2]
    refine ⟨_, _, pre1 _ ?_, hrun, hended, _, _, rfl, ?_, ⟨_, rfl⟩, hW, hsame.mono (by decide) (by decide)⟩
    · show Steps p.tables e below (s₁.setTop (mkF m 2 #[.val (.int p0), .val (.int p1)] [(.int p1), (.int p0)])) _
      refine XS.icmpNo X0.here hx rfl (hb hby d1_2) rfl (flt hc2_2).1 ?_
      show Steps p.tables e below (s₁.setTop (mkF m 5 #[.val (.int p0), .val (.int p1)] [])) _
      refine XS.iloadN X0.here hx rfl (hb hby d1_5) rfl ?_
      show Steps p.tables e below (s₁.setTop (mkF m 6 #[.val (.int p0), .val (.int p1)] [(.int p0)])) _
      refine XS.goto X0.here hx rfl (pc0 := 6) (pc' := 10) rfl (hb hby d1_6) (by decide) (by decide) ?_
      show Steps p.tables e below (s₁.setTop (mkF m 10 #[.val (.int p0), .val (.int p1)] [(.int p0)])) _
      exact retI X0 hx Bd.returns (hb hby d1_10) hr
    · show Q1 Z p0 p1 h0 n0 _ s₁.heap _
      rw [e0]
      exact ⟨congrArg (fun q => some (Value.int q)) hv4.symm, N0, rfl⟩
theorem d4_0 : decode jdk_29_method_69_code 0 = .ok (.iload_n 0, 1) := by decide +kernel
theorem d4_1 : decode jdk_29_method_69_code 1 = .ok (.iload_n 1, 1) := by decide +kernel
theorem d4_2 : decode jdk_29_method_69_code 2 = .ok (.if_icmp .gt 7, 3) := by decide +kernel
theorem d4_5 : decode jdk_29_method_69_code 5 = .ok (.iload_n 0, 1) := by decide +kernel
theorem d4_6 : decode jdk_29_method_69_code 6 = .ok (.goto 4, 3) := by decide +kernel
theorem d4_9 : decode jdk_29_method_69_code 9 = .ok (.iload_n 1, 1) := by decide +kernel
theorem d4_10 : decode jdk_29_method_69_code 10 = .ok (.ireturn, 1) := by decide +kernel
theorem ef_4 (m : MethodId) (x0 : Int32) (x1 : Int32) : entryFrame m #[(.int x0), (.int x1)] 2 = mkF m 0 #[.val (.int x0), .val (.int x1)] [] := by first | (simp [entryFrame, mkF, argsToLocals, Value.category]; done) | rfl
def f4 (p0 : Int32) (p1 : Int32) : Int32 :=
  if p1 < p0 then (p1) else
  (p0)
def Q4 (Z : State) (p0 : Int32) (p1 : Int32) (h0 : Heap) (n0 : Nat) (v : Option Value) (h : Heap) (L : List Loc) : Prop := v = some (.int (f4 p0 p1)) ∧ Fr n0 L ∧ h = h0
set_option maxRecDepth 65536 in
set_option maxHeartbeats 40000000 in
theorem rm4 (l : Launch) (Z : State) (a0 : Array Value) (hw : ∀ d ∈ tables_1, d.before a0 Z = true) (ws : List Jvm.Cond) (p0 : Int32) (p1 : Int32) (h0 : Heap) (n0 : Nat) (Z0 : n0 ≤ h0.size) :
    MetFree l (⟨"java/lang/Math", "min", "(II)I"⟩ : MethodName) (head1 (Jvm.Cond.code (⟨"java/lang/Math", "min", "(II)I"⟩ : MethodName) jdk_29_method_69_code 2 (some .int) :: ws) ({ frames := 0, cells := 0, slots := 0, locals := 0 } : Room)) (fun a U => a = #[(.int p0), (.int p1)] ∧ Z.Warmed39 U.vm ∧ U.heap = h0) (fun _ _ _ _ _ => True) (fun _ U o U' => ∃ v L, o = .returned v ∧ Q4 Z p0 p1 h0 n0 v U'.heap L ∧ FrameEnd U o U' L ({ frames := 0, cells := 0, slots := 0, locals := 0 } : Room).cells ({ frames := 0, cells := 0, slots := 0, locals := 0 } : Room).slots) := by
  refine MetFree.of_bodySF (Jvm.Free.JP.mathPlain rfl (by decide +kernel)) hisR ?_
  intro p e s m args below meth c s₁ Bd hml0 hP hK
  obtain ⟨rfl, hZ, hh⟩ := hP
  have hx := Bd.exec
  have hby := Bd.bytes
  have hml : c.maxLocals = 2 := hml0
  have hown : s.vm.findClass "java/lang/Math" = some m.cls := findClass_of_methodNamed Bd.named
  have hnm := (name_of_methodNamed Bd.named Bd.method).1
  have X0 : Stand p l e ({ frames := 0, cells := 0, slots := 0, locals := 0 } : Room) s m #[(.int p0), (.int p1)] below meth c s₁ [] 0 0 := Stand.of_body Bd
  have e0 : s₁.heap = h0 := by rw [← hh, Bd.state]; rfl
  have N0 := Fr.nil n0
  have pre0 : ∀ t, Steps p.tables e below (s₁.setTop (mkF m 0 #[.val (.int p0), .val (.int p1)] [])) t → Steps p.tables e below (s₁.setTop (entryFrame m #[(.int p0), (.int p1)] 2)) t := fun t k => castTop (ef_4 m p0 p1) k
  have pre1 : ∀ t, Steps p.tables e below (s₁.setTop (mkF m 2 #[.val (.int p0), .val (.int p1)] [(.int p1), (.int p0)])) t → Steps p.tables e below (s₁.setTop (entryFrame m #[(.int p0), (.int p1)] 2)) t := fun t kt => pre0 t (by
      show Steps p.tables e below (s₁.setTop (mkF m 0 #[.val (.int p0), .val (.int p1)] [])) _
      refine XS.iloadN X0.here hx rfl (hb hby d4_0) rfl ?_
      show Steps p.tables e below (s₁.setTop (mkF m 1 #[.val (.int p0), .val (.int p1)] [(.int p0)])) _
      refine XS.iloadN X0.here hx rfl (hb hby d4_1) rfl ?_
      exact kt)
  by_cases hc2_2 : p1 < p0
  · obtain ⟨fs, hr, hrun, hended, hW, hsame⟩ := X0.leave (v := some (.int p1)) (fun h => by rw [Bd.returns] at h; cases h)
    have hv3 : (f4 p0 p1) = p1 := by rw [f4, if_pos hc2_2]
    refine ⟨_, _, pre1 _ ?_, hrun, hended, _, _, rfl, ?_, ⟨_, rfl⟩, hW, hsame.mono (by decide) (by decide)⟩
    · show Steps p.tables e below (s₁.setTop (mkF m 2 #[.val (.int p0), .val (.int p1)] [(.int p1), (.int p0)])) _
      refine XS.icmpYes X0.here hx rfl (pc0 := 2) (pc' := 9) rfl (hb hby d4_2) rfl (tlt hc2_2).2.2.1 (by decide) (by decide) ?_
      show Steps p.tables e below (s₁.setTop (mkF m 9 #[.val (.int p0), .val (.int p1)] [])) _
      refine XS.iloadN X0.here hx rfl (hb hby d4_9) rfl ?_
      show Steps p.tables e below (s₁.setTop (mkF m 10 #[.val (.int p0), .val (.int p1)] [(.int p1)])) _
      exact retI X0 hx Bd.returns (hb hby d4_10) hr
    · show Q4 Z p0 p1 h0 n0 _ s₁.heap _
      rw [e0]
      exact ⟨congrArg (fun q => some (Value.int q)) hv3.symm, N0, rfl⟩
  · obtain ⟨fs, hr, hrun, hended, hW, hsame⟩ := X0.leave (v := some (.int p0)) (fun h => by rw [Bd.returns] at h; cases h)
    have hv4 : (f4 p0 p1) = p0 := by rw [f4, if_neg hc2_2]
    refine ⟨_, _, pre1 _ ?_, hrun, hended, _, _, rfl, ?_, ⟨_, rfl⟩, hW, hsame.mono (by decide) (by decide)⟩
    · show Steps p.tables e below (s₁.setTop (mkF m 2 #[.val (.int p0), .val (.int p1)] [(.int p1), (.int p0)])) _
      refine XS.icmpNo X0.here hx rfl (hb hby d4_2) rfl (flt hc2_2).2.2.1 ?_
      show Steps p.tables e below (s₁.setTop (mkF m 5 #[.val (.int p0), .val (.int p1)] [])) _
      refine XS.iloadN X0.here hx rfl (hb hby d4_5) rfl ?_
      show Steps p.tables e below (s₁.setTop (mkF m 6 #[.val (.int p0), .val (.int p1)] [(.int p0)])) _
      refine XS.goto X0.here hx rfl (pc0 := 6) (pc' := 10) rfl (hb hby d4_6) (by decide) (by decide) ?_
      show Steps p.tables e below (s₁.setTop (mkF m 10 #[.val (.int p0), .val (.int p1)] [(.int p0)])) _
      exact retI X0 hx Bd.returns (hb hby d4_10) hr
    · show Q4 Z p0 p1 h0 n0 _ s₁.heap _
      rw [e0]
      exact ⟨congrArg (fun q => some (Value.int q)) hv4.symm, N0, rfl⟩
theorem d2_0 : decode prog_22_method_1_code 0 = .ok (.aload_n 0, 1) := by decide +kernel
theorem d2_1 : decode prog_22_method_1_code 1 = .ok (.invokespecial 1, 3) := by decide +kernel
theorem d2_4 : decode prog_22_method_1_code 4 = .ok (.aload_n 3, 1) := by decide +kernel
theorem d2_5 : decode prog_22_method_1_code 5 = .ok (.arraylength, 1) := by decide +kernel
theorem d2_6 : decode prog_22_method_1_code 6 = .ok (.istore 7, 2) := by decide +kernel
theorem d2_8 : decode prog_22_method_1_code 8 = .ok (.iload_n 1, 1) := by decide +kernel
theorem d2_9 : decode prog_22_method_1_code 9 = .ok (.ifCond .lt 14, 3) := by decide +kernel
theorem d2_12 : decode prog_22_method_1_code 12 = .ok (.iload_n 1, 1) := by decide +kernel
theorem d2_13 : decode prog_22_method_1_code 13 = .ok (.ldc 9, 2) := by decide +kernel
theorem d2_15 : decode prog_22_method_1_code 15 = .ok (.if_icmp .gt 8, 3) := by decide +kernel
theorem d2_18 : decode prog_22_method_1_code 18 = .ok (.iload_n 2, 1) := by decide +kernel
theorem d2_19 : decode prog_22_method_1_code 19 = .ok (.iconst 1, 1) := by decide +kernel
theorem d2_20 : decode prog_22_method_1_code 20 = .ok (.if_icmp .ge 18, 3) := by decide +kernel
theorem d2_38 : decode prog_22_method_1_code 38 = .ok (.aload 4, 2) := by decide +kernel
theorem d2_40 : decode prog_22_method_1_code 40 = .ok (.arraylength, 1) := by decide +kernel
theorem d2_41 : decode prog_22_method_1_code 41 = .ok (.iload 7, 2) := by decide +kernel
theorem d2_43 : decode prog_22_method_1_code 43 = .ok (.if_icmp .ne 19, 3) := by decide +kernel
theorem d2_46 : decode prog_22_method_1_code 46 = .ok (.aload 5, 2) := by decide +kernel
theorem d2_48 : decode prog_22_method_1_code 48 = .ok (.arraylength, 1) := by decide +kernel
theorem d2_49 : decode prog_22_method_1_code 49 = .ok (.iload 7, 2) := by decide +kernel
theorem d2_51 : decode prog_22_method_1_code 51 = .ok (.if_icmp .ne 11, 3) := by decide +kernel
theorem d2_54 : decode prog_22_method_1_code 54 = .ok (.aload 6, 2) := by decide +kernel
theorem d2_56 : decode prog_22_method_1_code 56 = .ok (.arraylength, 1) := by decide +kernel
theorem d2_57 : decode prog_22_method_1_code 57 = .ok (.iload 7, 2) := by decide +kernel
theorem d2_59 : decode prog_22_method_1_code 59 = .ok (.if_icmp .eq 13, 3) := by decide +kernel
theorem d2_72 : decode prog_22_method_1_code 72 = .ok (.aload_n 0, 1) := by decide +kernel
theorem d2_73 : decode prog_22_method_1_code 73 = .ok (.iload_n 1, 1) := by decide +kernel
theorem d2_74 : decode prog_22_method_1_code 74 = .ok (.putfield 21, 3) := by decide +kernel
theorem d2_77 : decode prog_22_method_1_code 77 = .ok (.aload_n 0, 1) := by decide +kernel
theorem d2_78 : decode prog_22_method_1_code 78 = .ok (.iload_n 2, 1) := by decide +kernel
theorem d2_79 : decode prog_22_method_1_code 79 = .ok (.putfield 27, 3) := by decide +kernel
theorem d2_82 : decode prog_22_method_1_code 82 = .ok (.aload_n 0, 1) := by decide +kernel
theorem d2_83 : decode prog_22_method_1_code 83 = .ok (.iload_n 1, 1) := by decide +kernel
theorem d2_84 : decode prog_22_method_1_code 84 = .ok (.iconst 2, 1) := by decide +kernel
theorem d2_85 : decode prog_22_method_1_code 85 = .ok (.iadd, 1) := by decide +kernel
theorem d2_86 : decode prog_22_method_1_code 86 = .ok (.newarray .int, 2) := by decide +kernel
theorem d2_88 : decode prog_22_method_1_code 88 = .ok (.putfield 30, 3) := by decide +kernel
theorem d2_91 : decode prog_22_method_1_code 91 = .ok (.iconst 0, 1) := by decide +kernel
theorem d2_92 : decode prog_22_method_1_code 92 = .ok (.istore 8, 2) := by decide +kernel
theorem d2_94 : decode prog_22_method_1_code 94 = .ok (.iload 8, 2) := by decide +kernel
theorem d2_96 : decode prog_22_method_1_code 96 = .ok (.iload 7, 2) := by decide +kernel
theorem d2_98 : decode prog_22_method_1_code 98 = .ok (.if_icmp .ge 61, 3) := by decide +kernel
theorem d2_159 : decode prog_22_method_1_code 159 = .ok (.iconst 1, 1) := by decide +kernel
theorem d2_160 : decode prog_22_method_1_code 160 = .ok (.istore 8, 2) := by decide +kernel
theorem d2_162 : decode prog_22_method_1_code 162 = .ok (.iload 8, 2) := by decide +kernel
theorem d2_164 : decode prog_22_method_1_code 164 = .ok (.aload_n 0, 1) := by decide +kernel
theorem d2_165 : decode prog_22_method_1_code 165 = .ok (.getfield 30, 3) := by decide +kernel
theorem d2_168 : decode prog_22_method_1_code 168 = .ok (.arraylength, 1) := by decide +kernel
theorem d2_169 : decode prog_22_method_1_code 169 = .ok (.if_icmp .ge 28, 3) := by decide +kernel
theorem d2_172 : decode prog_22_method_1_code 172 = .ok (.aload_n 0, 1) := by decide +kernel
theorem d2_173 : decode prog_22_method_1_code 173 = .ok (.getfield 30, 3) := by decide +kernel
theorem d2_176 : decode prog_22_method_1_code 176 = .ok (.iload 8, 2) := by decide +kernel
theorem d2_178 : decode prog_22_method_1_code 178 = .ok (.dup2, 1) := by decide +kernel
theorem d2_179 : decode prog_22_method_1_code 179 = .ok (.iaload, 1) := by decide +kernel
theorem d2_180 : decode prog_22_method_1_code 180 = .ok (.aload_n 0, 1) := by decide +kernel
theorem d2_181 : decode prog_22_method_1_code 181 = .ok (.getfield 30, 3) := by decide +kernel
theorem d2_184 : decode prog_22_method_1_code 184 = .ok (.iload 8, 2) := by decide +kernel
theorem d2_186 : decode prog_22_method_1_code 186 = .ok (.iconst 1, 1) := by decide +kernel
theorem d2_187 : decode prog_22_method_1_code 187 = .ok (.isub, 1) := by decide +kernel
theorem d2_188 : decode prog_22_method_1_code 188 = .ok (.iaload, 1) := by decide +kernel
theorem d2_189 : decode prog_22_method_1_code 189 = .ok (.iadd, 1) := by decide +kernel
theorem d2_190 : decode prog_22_method_1_code 190 = .ok (.iastore, 1) := by decide +kernel
theorem d2_191 : decode prog_22_method_1_code 191 = .ok (.iinc 8 1, 3) := by decide +kernel
theorem d2_194 : decode prog_22_method_1_code 194 = .ok (.goto (-32), 3) := by decide +kernel
theorem d2_197 : decode prog_22_method_1_code 197 = .ok (.aload_n 0, 1) := by decide +kernel
theorem d2_198 : decode prog_22_method_1_code 198 = .ok (.iload 7, 2) := by decide +kernel
theorem d2_200 : decode prog_22_method_1_code 200 = .ok (.newarray .int, 2) := by decide +kernel
theorem d2_202 : decode prog_22_method_1_code 202 = .ok (.putfield 46, 3) := by decide +kernel
theorem d2_205 : decode prog_22_method_1_code 205 = .ok (.aload_n 0, 1) := by decide +kernel
theorem d2_206 : decode prog_22_method_1_code 206 = .ok (.iload 7, 2) := by decide +kernel
theorem d2_208 : decode prog_22_method_1_code 208 = .ok (.newarray .int, 2) := by decide +kernel
theorem d2_210 : decode prog_22_method_1_code 210 = .ok (.putfield 49, 3) := by decide +kernel
theorem d2_213 : decode prog_22_method_1_code 213 = .ok (.aload_n 0, 1) := by decide +kernel
theorem d2_214 : decode prog_22_method_1_code 214 = .ok (.iload 7, 2) := by decide +kernel
theorem d2_216 : decode prog_22_method_1_code 216 = .ok (.newarray .double, 2) := by decide +kernel
theorem d2_218 : decode prog_22_method_1_code 218 = .ok (.putfield 52, 3) := by decide +kernel
theorem d2_221 : decode prog_22_method_1_code 221 = .ok (.aload_n 0, 1) := by decide +kernel
theorem d2_222 : decode prog_22_method_1_code 222 = .ok (.iload 7, 2) := by decide +kernel
theorem d2_224 : decode prog_22_method_1_code 224 = .ok (.newarray .double, 2) := by decide +kernel
theorem d2_226 : decode prog_22_method_1_code 226 = .ok (.putfield 55, 3) := by decide +kernel
theorem d2_229 : decode prog_22_method_1_code 229 = .ok (.aload_n 0, 1) := by decide +kernel
theorem d2_230 : decode prog_22_method_1_code 230 = .ok (.getfield 30, 3) := by decide +kernel
theorem d2_233 : decode prog_22_method_1_code 233 = .ok (.invokevirtual 57, 3) := by decide +kernel
theorem d2_236 : decode prog_22_method_1_code 236 = .ok (.checkcast 58, 3) := by decide +kernel
theorem d2_239 : decode prog_22_method_1_code 239 = .ok (.astore 8, 2) := by decide +kernel
theorem d2_241 : decode prog_22_method_1_code 241 = .ok (.iconst 0, 1) := by decide +kernel
theorem d2_242 : decode prog_22_method_1_code 242 = .ok (.istore 9, 2) := by decide +kernel
theorem d2_244 : decode prog_22_method_1_code 244 = .ok (.iload 9, 2) := by decide +kernel
theorem d2_246 : decode prog_22_method_1_code 246 = .ok (.iload 7, 2) := by decide +kernel
theorem d2_248 : decode prog_22_method_1_code 248 = .ok (.if_icmp .ge 70, 3) := by decide +kernel
theorem d2_318 : decode prog_22_method_1_code 318 = .ok (.return_, 1) := by decide +kernel
theorem pn_2 : plainName "com/example/cabweave/cabweave/Network" = true := by first | (simp [plainName, overriddenIn]; done) | decide +kernel
theorem ef_2 (m : MethodId) (x0 : Addr) (x1 : Int32) (x2 : Int32) (x3 : Addr) (x4 : Addr) (x5 : Addr) (x6 : Addr) : entryFrame m #[(.ref x0), (.int x1), (.int x2), (.ref x3), (.ref x4), (.ref x5), (.ref x6)] 11 = mkF m 0 #[.val (.ref x0), .val (.int x1), .val (.int x2), .val (.ref x3), .val (.ref x4), .val (.ref x5), .val (.ref x6), .unset, .unset, .unset, .unset] [] := by first | (simp [entryFrame, mkF, argsToLocals, Value.category]; done) | rfl
def Q2 (Z : State) (o0 : Addr) (p1 : Int32) (p2 : Int32) (o3 : Addr) (o4 : Addr) (o5 : Addr) (o6 : Addr) (F3 : Nat → Int32) (F4 : Nat → Int32) (w15 : Int32) (w19 : Int32) (h0 : Heap) (n0 : Nat) (v : Option Value) (h : Heap) (L : List Loc) : Prop := v = none ∧ Fr n0 L ∧ Keep h0 h [o0] ∧ Fld Z h o0 "com/example/cabweave/cabweave/Network" "nodeCount" "I" (.int p1) ∧ Fld Z h o0 "com/example/cabweave/cabweave/Network" "firstThruNode" "I" (.int p2)
set_option maxRecDepth 65536 in
set_option maxHeartbeats 40000000 in
theorem rm2 (l : Launch) (Z : State) (a0 : Array Value) (hw : ∀ d ∈ tables_1, d.before a0 Z = true) (ws : List Jvm.Cond) (o0 : Addr) (p1 : Int32) (p2 : Int32) (o3 : Addr) (o4 : Addr) (o5 : Addr) (o6 : Addr) (F3 : Nat → Int32) (F4 : Nat → Int32) (w15 : Int32) (w19 : Int32) (h0 : Heap) (n0 : Nat) (Z0 : n0 ≤ h0.size) (E_o0 : Exa Z h0 o0 "com/example/cabweave/cabweave/Network") (V_o3 : own_AI Z h0 o3 .int (0 : Int32) F3) (V_o4 : own_AI Z h0 o4 .int (0 : Int32) F4) (V_o5 : own_AL Z h0 o5 .double (0 : Int32)) (V_o6 : own_AL Z h0 o6 .double (0 : Int32)) (g_o0 : n0 ≤ o0) (ne_o0_o3 : o0 ≠ o3) (ne_o0_o4 : o0 ≠ o4) (ne_o0_o5 : o0 ≠ o5) (ne_o0_o6 : o0 ≠ o6) (hn : 0 ≤ p1.toInt ∧ p1.toInt ≤ 15) (hf : 1 ≤ p2.toInt) (F_nodeCount_o0 : Fld Z h0 o0 "com/example/cabweave/cabweave/Network" "nodeCount" "I" (.int w15)) (F_firstThruNode_o0 : Fld Z h0 o0 "com/example/cabweave/cabweave/Network" "firstThruNode" "I" (.int w19)) (F_firstOut_o0 : Fld Z h0 o0 "com/example/cabweave/cabweave/Network" "firstOut" "[I" .null) (F_tail_o0 : Fld Z h0 o0 "com/example/cabweave/cabweave/Network" "tail" "[I" .null) (F_head_o0 : Fld Z h0 o0 "com/example/cabweave/cabweave/Network" "head" "[I" .null) (F_length_o0 : Fld Z h0 o0 "com/example/cabweave/cabweave/Network" "length" "[D" .null) (F_time_o0 : Fld Z h0 o0 "com/example/cabweave/cabweave/Network" "time" "[D" .null) :
    MetFree l (⟨"com/example/cabweave/cabweave/Network", "<init>", "(II[I[I[D[D)V"⟩ : MethodName) (head1 (Jvm.Cond.code (⟨"com/example/cabweave/cabweave/Network", "<init>", "(II[I[I[D[D)V"⟩ : MethodName) prog_22_method_1_code 11 none :: ws) ({ frames := 1, cells := 6, slots := 34, locals := 14 } : Room)) (fun a U => a = #[(.ref o0), (.int p1), (.int p2), (.ref o3), (.ref o4), (.ref o5), (.ref o6)] ∧ Z.Warmed39 U.vm ∧ U.heap = h0) (fun _ _ _ _ _ => True) (fun _ U o U' => ∃ v L, o = .returned v ∧ Q2 Z o0 p1 p2 o3 o4 o5 o6 F3 F4 w15 w19 h0 n0 v U'.heap L ∧ FrameEnd U o U' L ({ frames := 1, cells := 6, slots := 34, locals := 14 } : Room).cells ({ frames := 1, cells := 6, slots := 34, locals := 14 } : Room).slots) := by
  refine MetFree.of_bodySF (plainFor_of_name pn_2) hisR ?_
  intro p e s m args below meth c s₁ Bd hml0 hP hK
  obtain ⟨rfl, hZ, hh⟩ := hP
  have hx := Bd.exec
  have hby := Bd.bytes
  have hml : c.maxLocals = 11 := hml0
  have hown : s.vm.findClass "com/example/cabweave/cabweave/Network" = some m.cls := findClass_of_methodNamed Bd.named
  have hnm := (name_of_methodNamed Bd.named Bd.method).1
  have X0 : Stand p l e ({ frames := 1, cells := 6, slots := 34, locals := 14 } : Room) s m #[(.ref o0), (.int p1), (.int p2), (.ref o3), (.ref o4), (.ref o5), (.ref o6)] below meth c s₁ [] 0 0 := Stand.of_body Bd
  have e0 : s₁.heap = h0 := by rw [← hh, Bd.state]; rfl
  have N0 := Fr.nil n0
  have pre0 : ∀ t, Steps p.tables e below (s₁.setTop (mkF m 0 #[.val (.ref o0), .val (.int p1), .val (.int p2), .val (.ref o3), .val (.ref o4), .val (.ref o5), .val (.ref o6), .unset, .unset, .unset, .unset] [])) t → Steps p.tables e below (s₁.setTop (entryFrame m #[(.ref o0), (.int p1), (.int p2), (.ref o3), (.ref o4), (.ref o5), (.ref o6)] 11)) t := fun t k => castTop (ef_2 m o0 p1 p2 o3 o4 o5 o6) k
  obtain ⟨T1, X1, e1, st1⟩ := initO X0 hx hZ hown (hw _ (List.mem_of_getElem? (i := 13) rfl)) (hw _ (List.mem_of_getElem? (i := 14) rfl)) (hw _ (List.mem_of_getElem? (i := 15) rfl)) e0 (g := (mkF m 1 #[.val (.ref o0), .val (.int p1), .val (.int p2), .val (.ref o3), .val (.ref o4), .val (.ref o5), .val (.ref o6), .unset, .unset, .unset, .unset] [(.ref o0)])) rfl (by rw [hml]; rfl) rfl (hb hby d2_1) (by decide) (W := 0) (by show 2 * 0 + _ ≤ _; exact Nat.le_of_eq rfl) (by decide)
  obtain ⟨cl2, Ar2, Sz2, Nn2, -⟩ := id V_o3
  have pre3 : ∀ t, Steps p.tables e below (T1.setTop (mkF m 9 #[.val (.ref o0), .val (.int p1), .val (.int p2), .val (.ref o3), .val (.ref o4), .val (.ref o5), .val (.ref o6), .val (.int (0 : Int32)), .unset, .unset, .unset] [(.int p1)])) t → Steps p.tables e below (s₁.setTop (entryFrame m #[(.ref o0), (.int p1), (.int p2), (.ref o3), (.ref o4), (.ref o5), (.ref o6)] 11)) t := fun t kt => pre0 t (by
      show Steps p.tables e below (s₁.setTop (mkF m 0 #[.val (.ref o0), .val (.int p1), .val (.int p2), .val (.ref o3), .val (.ref o4), .val (.ref o5), .val (.ref o6), .unset, .unset, .unset, .unset] [])) _
      refine XS.aloadN X0.here hx rfl (hb hby d2_0) rfl rfl ?_
      show Steps p.tables e below (s₁.setTop (mkF m 1 #[.val (.ref o0), .val (.int p1), .val (.int p2), .val (.ref o3), .val (.ref o4), .val (.ref o5), .val (.ref o6), .unset, .unset, .unset, .unset] [(.ref o0)])) _
      refine st1 _ ?_
      show Steps p.tables e below (T1.setTop (mkF m 4 #[.val (.ref o0), .val (.int p1), .val (.int p2), .val (.ref o3), .val (.ref o4), .val (.ref o5), .val (.ref o6), .unset, .unset, .unset, .unset] [])) _
      refine XS.aloadN X1.here hx rfl (hb hby d2_4) rfl rfl ?_
      show Steps p.tables e below (T1.setTop (mkF m 5 #[.val (.ref o0), .val (.int p1), .val (.int p2), .val (.ref o3), .val (.ref o4), .val (.ref o5), .val (.ref o6), .unset, .unset, .unset, .unset] [(.ref o3)])) _
      refine X1.arraylength hx (by rw [e1]; exact Ar2.1) (State.isArrayOf_alike hZ.alike Ar2.2.1) (g := (mkF m 5 #[.val (.ref o0), .val (.int p1), .val (.int p2), .val (.ref o3), .val (.ref o4), .val (.ref o5), .val (.ref o6), .unset, .unset, .unset, .unset] [(.ref o3)])) rfl rfl (hb hby d2_5) _ ?_
      rw [len_of Sz2 Nn2]
      show Steps p.tables e below (T1.setTop (mkF m 6 #[.val (.ref o0), .val (.int p1), .val (.int p2), .val (.ref o3), .val (.ref o4), .val (.ref o5), .val (.ref o6), .unset, .unset, .unset, .unset] [(.int (0 : Int32))])) _
      refine XS.istore X1.here hx rfl (hb hby d2_6) rfl (l' := #[.val (.ref o0), .val (.int p1), .val (.int p2), .val (.ref o3), .val (.ref o4), .val (.ref o5), .val (.ref o6), .val (.int (0 : Int32)), .unset, .unset, .unset]) rfl ?_
      show Steps p.tables e below (T1.setTop (mkF m 8 #[.val (.ref o0), .val (.int p1), .val (.int p2), .val (.ref o3), .val (.ref o4), .val (.ref o5), .val (.ref o6), .val (.int (0 : Int32)), .unset, .unset, .unset] [])) _
      refine XS.iloadN X1.here hx rfl (hb hby d2_8) rfl ?_
      exact kt)
  have hd9_4 : ¬ (p1 < (0 : Int32)) := own_p0 hn
  have pre5 : ∀ t, Steps p.tables e below (T1.setTop (mkF m 15 #[.val (.ref o0), .val (.int p1), .val (.int p2), .val (.ref o3), .val (.ref o4), .val (.ref o5), .val (.ref o6), .val (.int (0 : Int32)), .unset, .unset, .unset] [(.int (2147483645 : Int32)), (.int p1)])) t → Steps p.tables e below (s₁.setTop (entryFrame m #[(.ref o0), (.int p1), (.int p2), (.ref o3), (.ref o4), (.ref o5), (.ref o6)] 11)) t := fun t kt => pre3 t (by
      show Steps p.tables e below (T1.setTop (mkF m 9 #[.val (.ref o0), .val (.int p1), .val (.int p2), .val (.ref o3), .val (.ref o4), .val (.ref o5), .val (.ref o6), .val (.int (0 : Int32)), .unset, .unset, .unset] [(.int p1)])) _
      refine XS.ifNo X1.here hx rfl (hb hby d2_9) rfl ((if0 _ _).trans (flt hd9_4).1) ?_
      show Steps p.tables e below (T1.setTop (mkF m 12 #[.val (.ref o0), .val (.int p1), .val (.int p2), .val (.ref o3), .val (.ref o4), .val (.ref o5), .val (.ref o6), .val (.int (0 : Int32)), .unset, .unset, .unset] [])) _
      refine XS.iloadN X1.here hx rfl (hb hby d2_12) rfl ?_
      show Steps p.tables e below (T1.setTop (mkF m 13 #[.val (.ref o0), .val (.int p1), .val (.int p2), .val (.ref o3), .val (.ref o4), .val (.ref o5), .val (.ref o6), .val (.int (0 : Int32)), .unset, .unset, .unset] [(.int p1)])) _
      refine X1.ldcInt hx hown (mvT hZ (hw _ (List.mem_of_getElem? (i := 16) rfl))) (g := (mkF m 13 #[.val (.ref o0), .val (.int p1), .val (.int p2), .val (.ref o3), .val (.ref o4), .val (.ref o5), .val (.ref o6), .val (.int (0 : Int32)), .unset, .unset, .unset] [(.int p1)])) rfl (hb hby d2_13) _ ?_
      exact kt)
  have hd15_6 : ¬ ((2147483645 : Int32) < p1) := own_p1 hn
  have pre7 : ∀ t, Steps p.tables e below (T1.setTop (mkF m 20 #[.val (.ref o0), .val (.int p1), .val (.int p2), .val (.ref o3), .val (.ref o4), .val (.ref o5), .val (.ref o6), .val (.int (0 : Int32)), .unset, .unset, .unset] [(.int (1 : Int32)), (.int p2)])) t → Steps p.tables e below (s₁.setTop (entryFrame m #[(.ref o0), (.int p1), (.int p2), (.ref o3), (.ref o4), (.ref o5), (.ref o6)] 11)) t := fun t kt => pre5 t (by
      show Steps p.tables e below (T1.setTop (mkF m 15 #[.val (.ref o0), .val (.int p1), .val (.int p2), .val (.ref o3), .val (.ref o4), .val (.ref o5), .val (.ref o6), .val (.int (0 : Int32)), .unset, .unset, .unset] [(.int (2147483645 : Int32)), (.int p1)])) _
      refine XS.icmpNo X1.here hx rfl (hb hby d2_15) rfl (flt hd15_6).2.2.1 ?_
      show Steps p.tables e below (T1.setTop (mkF m 18 #[.val (.ref o0), .val (.int p1), .val (.int p2), .val (.ref o3), .val (.ref o4), .val (.ref o5), .val (.ref o6), .val (.int (0 : Int32)), .unset, .unset, .unset] [])) _
      refine XS.iloadN X1.here hx rfl (hb hby d2_18) rfl ?_
      show Steps p.tables e below (T1.setTop (mkF m 19 #[.val (.ref o0), .val (.int p1), .val (.int p2), .val (.ref o3), .val (.ref o4), .val (.ref o5), .val (.ref o6), .val (.int (0 : Int32)), .unset, .unset, .unset] [(.int p2)])) _
      refine XS.iconst X1.here hx rfl (hb hby d2_19) ?_
      exact kt)
  have hd20_8 : ¬ (p2 < (1 : Int32)) := own_p2 hf
  obtain ⟨cl9, Ar9, Sz9, Nn9, -⟩ := id V_o4
  have pre10 : ∀ t, Steps p.tables e below (T1.setTop (mkF m 43 #[.val (.ref o0), .val (.int p1), .val (.int p2), .val (.ref o3), .val (.ref o4), .val (.ref o5), .val (.ref o6), .val (.int (0 : Int32)), .unset, .unset, .unset] [(.int (0 : Int32)), (.int (0 : Int32))])) t → Steps p.tables e below (s₁.setTop (entryFrame m #[(.ref o0), (.int p1), (.int p2), (.ref o3), (.ref o4), (.ref o5), (.ref o6)] 11)) t := fun t kt => pre7 t (by
      show Steps p.tables e below (T1.setTop (mkF m 20 #[.val (.ref o0), .val (.int p1), .val (.int p2), .val (.ref o3), .val (.ref o4), .val (.ref o5), .val (.ref o6), .val (.int (0 : Int32)), .unset, .unset, .unset] [(.int (1 : Int32)), (.int p2)])) _
      refine XS.icmpYes X1.here hx rfl (pc0 := 20) (pc' := 38) rfl (hb hby d2_20) rfl (flt hd20_8).2.1 (by decide) (by decide) ?_
      show Steps p.tables e below (T1.setTop (mkF m 38 #[.val (.ref o0), .val (.int p1), .val (.int p2), .val (.ref o3), .val (.ref o4), .val (.ref o5), .val (.ref o6), .val (.int (0 : Int32)), .unset, .unset, .unset] [])) _
      refine XS.aload X1.here hx rfl (hb hby d2_38) rfl rfl ?_
      show Steps p.tables e below (T1.setTop (mkF m 40 #[.val (.ref o0), .val (.int p1), .val (.int p2), .val (.ref o3), .val (.ref o4), .val (.ref o5), .val (.ref o6), .val (.int (0 : Int32)), .unset, .unset, .unset] [(.ref o4)])) _
      refine X1.arraylength hx (by rw [e1]; exact Ar9.1) (State.isArrayOf_alike hZ.alike Ar9.2.1) (g := (mkF m 40 #[.val (.ref o0), .val (.int p1), .val (.int p2), .val (.ref o3), .val (.ref o4), .val (.ref o5), .val (.ref o6), .val (.int (0 : Int32)), .unset, .unset, .unset] [(.ref o4)])) rfl rfl (hb hby d2_40) _ ?_
      rw [len_of Sz9 Nn9]
      show Steps p.tables e below (T1.setTop (mkF m 41 #[.val (.ref o0), .val (.int p1), .val (.int p2), .val (.ref o3), .val (.ref o4), .val (.ref o5), .val (.ref o6), .val (.int (0 : Int32)), .unset, .unset, .unset] [(.int (0 : Int32))])) _
      refine XS.iload X1.here hx rfl (hb hby d2_41) rfl ?_
      exact kt)
  obtain ⟨cl11, Ar11, Sz11, Nn11, -⟩ := id V_o5
  have pre12 : ∀ t, Steps p.tables e below (T1.setTop (mkF m 51 #[.val (.ref o0), .val (.int p1), .val (.int p2), .val (.ref o3), .val (.ref o4), .val (.ref o5), .val (.ref o6), .val (.int (0 : Int32)), .unset, .unset, .unset] [(.int (0 : Int32)), (.int (0 : Int32))])) t → Steps p.tables e below (s₁.setTop (entryFrame m #[(.ref o0), (.int p1), (.int p2), (.ref o3), (.ref o4), (.ref o5), (.ref o6)] 11)) t := fun t kt => pre10 t (by
      show Steps p.tables e below (T1.setTop (mkF m 43 #[.val (.ref o0), .val (.int p1), .val (.int p2), .val (.ref o3), .val (.ref o4), .val (.ref o5), .val (.ref o6), .val (.int (0 : Int32)), .unset, .unset, .unset] [(.int (0 : Int32)), (.int (0 : Int32))])) _
      refine XS.icmpNo X1.here hx rfl (hb hby d2_43) rfl (teq (by decide : ((0 : Int32) = (0 : Int32)))).2 ?_
      show Steps p.tables e below (T1.setTop (mkF m 46 #[.val (.ref o0), .val (.int p1), .val (.int p2), .val (.ref o3), .val (.ref o4), .val (.ref o5), .val (.ref o6), .val (.int (0 : Int32)), .unset, .unset, .unset] [])) _
      refine XS.aload X1.here hx rfl (hb hby d2_46) rfl rfl ?_
      show Steps p.tables e below (T1.setTop (mkF m 48 #[.val (.ref o0), .val (.int p1), .val (.int p2), .val (.ref o3), .val (.ref o4), .val (.ref o5), .val (.ref o6), .val (.int (0 : Int32)), .unset, .unset, .unset] [(.ref o5)])) _
      refine X1.arraylength hx (by rw [e1]; exact Ar11.1) (State.isArrayOf_alike hZ.alike Ar11.2.1) (g := (mkF m 48 #[.val (.ref o0), .val (.int p1), .val (.int p2), .val (.ref o3), .val (.ref o4), .val (.ref o5), .val (.ref o6), .val (.int (0 : Int32)), .unset, .unset, .unset] [(.ref o5)])) rfl rfl (hb hby d2_48) _ ?_
      rw [len_of Sz11 Nn11]
      show Steps p.tables e below (T1.setTop (mkF m 49 #[.val (.ref o0), .val (.int p1), .val (.int p2), .val (.ref o3), .val (.ref o4), .val (.ref o5), .val (.ref o6), .val (.int (0 : Int32)), .unset, .unset, .unset] [(.int (0 : Int32))])) _
      refine XS.iload X1.here hx rfl (hb hby d2_49) rfl ?_
      exact kt)
  obtain ⟨cl13, Ar13, Sz13, Nn13, -⟩ := id V_o6
  have pre14 : ∀ t, Steps p.tables e below (T1.setTop (mkF m 59 #[.val (.ref o0), .val (.int p1), .val (.int p2), .val (.ref o3), .val (.ref o4), .val (.ref o5), .val (.ref o6), .val (.int (0 : Int32)), .unset, .unset, .unset] [(.int (0 : Int32)), (.int (0 : Int32))])) t → Steps p.tables e below (s₁.setTop (entryFrame m #[(.ref o0), (.int p1), (.int p2), (.ref o3), (.ref o4), (.ref o5), (.ref o6)] 11)) t := fun t kt => pre12 t (by
      show Steps p.tables e below (T1.setTop (mkF m 51 #[.val (.ref o0), .val (.int p1), .val (.int p2), .val (.ref o3), .val (.ref o4), .val (.ref o5), .val (.ref o6), .val (.int (0 : Int32)), .unset, .unset, .unset] [(.int (0 : Int32)), (.int (0 : Int32))])) _
      refine XS.icmpNo X1.here hx rfl (hb hby d2_51) rfl (teq (by decide : ((0 : Int32) = (0 : Int32)))).2 ?_
      show Steps p.tables e below (T1.setTop (mkF m 54 #[.val (.ref o0), .val (.int p1), .val (.int p2), .val (.ref o3), .val (.ref o4), .val (.ref o5), .val (.ref o6), .val (.int (0 : Int32)), .unset, .unset, .unset] [])) _
      refine XS.aload X1.here hx rfl (hb hby d2_54) rfl rfl ?_
      show Steps p.tables e below (T1.setTop (mkF m 56 #[.val (.ref o0), .val (.int p1), .val (.int p2), .val (.ref o3), .val (.ref o4), .val (.ref o5), .val (.ref o6), .val (.int (0 : Int32)), .unset, .unset, .unset] [(.ref o6)])) _
      refine X1.arraylength hx (by rw [e1]; exact Ar13.1) (State.isArrayOf_alike hZ.alike Ar13.2.1) (g := (mkF m 56 #[.val (.ref o0), .val (.int p1), .val (.int p2), .val (.ref o3), .val (.ref o4), .val (.ref o5), .val (.ref o6), .val (.int (0 : Int32)), .unset, .unset, .unset] [(.ref o6)])) rfl rfl (hb hby d2_56) _ ?_
      rw [len_of Sz13 Nn13]
      show Steps p.tables e below (T1.setTop (mkF m 57 #[.val (.ref o0), .val (.int p1), .val (.int p2), .val (.ref o3), .val (.ref o4), .val (.ref o5), .val (.ref o6), .val (.int (0 : Int32)), .unset, .unset, .unset] [(.int (0 : Int32))])) _
      refine XS.iload X1.here hx rfl (hb hby d2_57) rfl ?_
      exact kt)
  obtain ⟨T16, h16, X16, e16, W16, st16⟩ := putF X1 hx hZ hown (host := "") (Or.inl (hw _ (List.mem_of_getElem? (i := 17) rfl))) Via.refl e1 F_nodeCount_o0 E_o0 (Or.inr ⟨(hw _ (List.mem_of_getElem? (i := 18) rfl)), rfl, hnm⟩) (hw _ (List.mem_of_getElem? (i := 6) rfl)) (ty := .int) (by decide) rfl rfl (g := (mkF m 74 #[.val (.ref o0), .val (.int p1), .val (.int p2), .val (.ref o3), .val (.ref o4), .val (.ref o5), .val (.ref o6), .val (.int (0 : Int32)), .unset, .unset, .unset] [(.int p1), (.ref o0)])) rfl rfl (hb hby d2_74)
  have Fw16 := F_nodeCount_o0.same W16
  have K17 : Keep h0 h16 [o0] := (Keep.refl h0 [o0]).wr W16 (Or.inl (List.mem_of_getElem? (i := 0) rfl))
  have Z18 : n0 ≤ h16.size := Nat.le_trans Z0 K17.1
  have N16 := Fr.snoc X16 N0 g_o0
  obtain ⟨LS16, X16, N16⟩ : ∃ L, Stand p l e ({ frames := 1, cells := 6, slots := 34, locals := 14 } : Room) s m #[(.ref o0), (.int p1), (.int p2), (.ref o3), (.ref o4), (.ref o5), (.ref o6)] below meth c T16 L 0 0 ∧ Fr n0 L := ⟨_, X16, N16⟩
  have c20 := (F_firstThruNode_o0.other W16 (Or.inr (slot_ne (Or.inr (hw _ (List.mem_of_getElem? (i := 20) rfl))) (Or.inr (hw _ (List.mem_of_getElem? (i := 18) rfl))) (by decide) (t := .int) (t' := .int) (by decide) (by decide))))
  obtain ⟨T21, h21, X21, e21, W21, st21⟩ := putF X16 hx hZ hown (host := "") (Or.inl (hw _ (List.mem_of_getElem? (i := 19) rfl))) Via.refl e16 c20 (E_o0.wr W16) (Or.inr ⟨(hw _ (List.mem_of_getElem? (i := 20) rfl)), rfl, hnm⟩) (hw _ (List.mem_of_getElem? (i := 6) rfl)) (ty := .int) (by decide) rfl rfl (g := (mkF m 79 #[.val (.ref o0), .val (.int p1), .val (.int p2), .val (.ref o3), .val (.ref o4), .val (.ref o5), .val (.ref o6), .val (.int (0 : Int32)), .unset, .unset, .unset] [(.int p2), (.ref o0)])) rfl rfl (hb hby d2_79)
  have Fw21 := c20.same W21
  have K22 : Keep h0 h21 [o0] := K17.wr W21 (Or.inl (List.mem_of_getElem? (i := 0) rfl))
  have Z23 : n0 ≤ h21.size := Nat.le_trans Z0 K22.1
  have N21 := Fr.snoc X21 N16 g_o0
  obtain ⟨LS21, X21, N21⟩ : ∃ L, Stand p l e ({ frames := 1, cells := 6, slots := 34, locals := 14 } : Room) s m #[(.ref o0), (.int p1), (.int p2), (.ref o3), (.ref o4), (.ref o5), (.ref o6)] below meth c T21 L 0 0 ∧ Fr n0 L := ⟨_, X21, N21⟩
  obtain ⟨T24, h24, k24, X24, e24, E24, A24, B24, st24⟩ := newPE X21 hx hZ (hw _ (List.mem_of_getElem? (i := 8) rfl)) e21 (g := (mkF m 86 #[.val (.ref o0), .val (.int p1), .val (.int p2), .val (.ref o3), .val (.ref o4), .val (.ref o5), .val (.ref o6), .val (.int (0 : Int32)), .unset, .unset, .unset] [(.int (p1 + (2 : Int32))), (.ref o0)])) rfl (hb hby d2_86) rfl (own_nn hn) (cap := 17) (own_cap hn) (by decide) (by decide) (by decide) (ad := "[I") (by decide)
  obtain ⟨b24, g24⟩ : ∃ z, z = h21.size := ⟨_, rfl⟩
  rw [← g24] at A24 B24 st24
  have g_b24 : n0 ≤ b24 := Nat.le_trans Z23 (Nat.le_of_eq g24.symm)
  have sz_b24 : h0.size ≤ b24 := Nat.le_trans K22.1 (Nat.le_of_eq g24.symm)
  have ne_o0_b24 : o0 ≠ b24 := Nat.ne_of_lt (Nat.lt_of_lt_of_le ((E_o0.wr W16).wr W21).lt (Nat.le_of_eq g24.symm))
  have c25 := ((V_o3.other W16 (Ne.symm ne_o0_o3)).other W21 (Ne.symm ne_o0_o3))
  have ne_o3_b24 : o3 ≠ b24 := Nat.ne_of_lt (Nat.lt_of_lt_of_le c25.lt (Nat.le_of_eq g24.symm))
  have c26 := ((V_o4.other W16 (Ne.symm ne_o0_o4)).other W21 (Ne.symm ne_o0_o4))
  have ne_o4_b24 : o4 ≠ b24 := Nat.ne_of_lt (Nat.lt_of_lt_of_le c26.lt (Nat.le_of_eq g24.symm))
  have c27 := ((V_o5.other W16 (Ne.symm ne_o0_o5)).other W21 (Ne.symm ne_o0_o5))
  have ne_o5_b24 : o5 ≠ b24 := Nat.ne_of_lt (Nat.lt_of_lt_of_le c27.lt (Nat.le_of_eq g24.symm))
  have c28 := ((V_o6.other W16 (Ne.symm ne_o0_o6)).other W21 (Ne.symm ne_o0_o6))
  have ne_o6_b24 : o6 ≠ b24 := Nat.ne_of_lt (Nat.lt_of_lt_of_le c28.lt (Nat.le_of_eq g24.symm))
  have K29 : Keep h0 h24 [o0] := K22.ext E24
  have Z30 : n0 ≤ h24.size := Nat.le_trans Z0 K29.1
  have E_b24 := B24
  have V_b24 : own_AI Z h24 b24 .int (p1 + (2 : Int32)) (fun _ => 0) := own_AI.new A24 (own_nn hn) rfl
  have c31 := (((F_firstOut_o0.other W16 (Or.inr (slot_ne (Or.inr (hw _ (List.mem_of_getElem? (i := 22) rfl))) (Or.inr (hw _ (List.mem_of_getElem? (i := 18) rfl))) (by decide) (t := (.array .int)) (t' := .int) (by decide) (by decide)))).other W21 (Or.inr (slot_ne (Or.inr (hw _ (List.mem_of_getElem? (i := 22) rfl))) (Or.inr (hw _ (List.mem_of_getElem? (i := 20) rfl))) (by decide) (t := (.array .int)) (t' := .int) (by decide) (by decide)))).ext E24)
  obtain ⟨T32, h32, X32, e32, W32, st32⟩ := putF X24 hx hZ hown (host := "") (Or.inl (hw _ (List.mem_of_getElem? (i := 21) rfl))) Via.refl e24 c31 (((E_o0.wr W16).wr W21).ext E24) (Or.inr ⟨(hw _ (List.mem_of_getElem? (i := 22) rfl)), rfl, hnm⟩) (hw _ (List.mem_of_getElem? (i := 6) rfl)) (ty := (.array .int)) (by decide) rfl rfl (g := (mkF m 88 #[.val (.ref o0), .val (.int p1), .val (.int p2), .val (.ref o3), .val (.ref o4), .val (.ref o5), .val (.ref o6), .val (.int (0 : Int32)), .unset, .unset, .unset] [(.ref b24), (.ref o0)])) rfl rfl (hb hby d2_88)
  have Fw32 := c31.same W32
  have K33 : Keep h0 h32 [o0] := K29.wr W32 (Or.inl (List.mem_of_getElem? (i := 0) rfl))
  have Z34 : n0 ≤ h32.size := Nat.le_trans Z0 K33.1
  have N32 := Fr.snoc X32 N21 g_o0
  obtain ⟨LS32, X32, N32⟩ : ∃ L, Stand p l e ({ frames := 1, cells := 6, slots := 34, locals := 14 } : Room) s m #[(.ref o0), (.int p1), (.int p2), (.ref o3), (.ref o4), (.ref o5), (.ref o6)] below meth c T32 L 1 17 ∧ Fr n0 L := ⟨_, X32, N32⟩
  have pre35 : ∀ t, Steps p.tables e below (T32.setTop (mkF m 98 #[.val (.ref o0), .val (.int p1), .val (.int p2), .val (.ref o3), .val (.ref o4), .val (.ref o5), .val (.ref o6), .val (.int (0 : Int32)), .val (.int (0 : Int32)), .unset, .unset] [(.int (0 : Int32)), (.int (0 : Int32))])) t → Steps p.tables e below (s₁.setTop (entryFrame m #[(.ref o0), (.int p1), (.int p2), (.ref o3), (.ref o4), (.ref o5), (.ref o6)] 11)) t := fun t kt => pre14 t (by
      show Steps p.tables e below (T1.setTop (mkF m 59 #[.val (.ref o0), .val (.int p1), .val (.int p2), .val (.ref o3), .val (.ref o4), .val (.ref o5), .val (.ref o6), .val (.int (0 : Int32)), .unset, .unset, .unset] [(.int (0 : Int32)), (.int (0 : Int32))])) _
      refine XS.icmpYes X1.here hx rfl (pc0 := 59) (pc' := 72) rfl (hb hby d2_59) rfl (teq (by decide : ((0 : Int32) = (0 : Int32)))).1 (by decide) (by decide) ?_
      show Steps p.tables e below (T1.setTop (mkF m 72 #[.val (.ref o0), .val (.int p1), .val (.int p2), .val (.ref o3), .val (.ref o4), .val (.ref o5), .val (.ref o6), .val (.int (0 : Int32)), .unset, .unset, .unset] [])) _
      refine XS.aloadN X1.here hx rfl (hb hby d2_72) rfl rfl ?_
      show Steps p.tables e below (T1.setTop (mkF m 73 #[.val (.ref o0), .val (.int p1), .val (.int p2), .val (.ref o3), .val (.ref o4), .val (.ref o5), .val (.ref o6), .val (.int (0 : Int32)), .unset, .unset, .unset] [(.ref o0)])) _
      refine XS.iloadN X1.here hx rfl (hb hby d2_73) rfl ?_
      show Steps p.tables e below (T1.setTop (mkF m 74 #[.val (.ref o0), .val (.int p1), .val (.int p2), .val (.ref o3), .val (.ref o4), .val (.ref o5), .val (.ref o6), .val (.int (0 : Int32)), .unset, .unset, .unset] [(.int p1), (.ref o0)])) _
      refine st16 _ ?_
      show Steps p.tables e below (T16.setTop (mkF m 77 #[.val (.ref o0), .val (.int p1), .val (.int p2), .val (.ref o3), .val (.ref o4), .val (.ref o5), .val (.ref o6), .val (.int (0 : Int32)), .unset, .unset, .unset] [])) _
      refine XS.aloadN X16.here hx rfl (hb hby d2_77) rfl rfl ?_
      show Steps p.tables e below (T16.setTop (mkF m 78 #[.val (.ref o0), .val (.int p1), .val (.int p2), .val (.ref o3), .val (.ref o4), .val (.ref o5), .val (.ref o6), .val (.int (0 : Int32)), .unset, .unset, .unset] [(.ref o0)])) _
      refine XS.iloadN X16.here hx rfl (hb hby d2_78) rfl ?_
      show Steps p.tables e below (T16.setTop (mkF m 79 #[.val (.ref o0), .val (.int p1), .val (.int p2), .val (.ref o3), .val (.ref o4), .val (.ref o5), .val (.ref o6), .val (.int (0 : Int32)), .unset, .unset, .unset] [(.int p2), (.ref o0)])) _
      refine st21 _ ?_
      show Steps p.tables e below (T21.setTop (mkF m 82 #[.val (.ref o0), .val (.int p1), .val (.int p2), .val (.ref o3), .val (.ref o4), .val (.ref o5), .val (.ref o6), .val (.int (0 : Int32)), .unset, .unset, .unset] [])) _
      refine XS.aloadN X21.here hx rfl (hb hby d2_82) rfl rfl ?_
      show Steps p.tables e below (T21.setTop (mkF m 83 #[.val (.ref o0), .val (.int p1), .val (.int p2), .val (.ref o3), .val (.ref o4), .val (.ref o5), .val (.ref o6), .val (.int (0 : Int32)), .unset, .unset, .unset] [(.ref o0)])) _
      refine XS.iloadN X21.here hx rfl (hb hby d2_83) rfl ?_
      show Steps p.tables e below (T21.setTop (mkF m 84 #[.val (.ref o0), .val (.int p1), .val (.int p2), .val (.ref o3), .val (.ref o4), .val (.ref o5), .val (.ref o6), .val (.int (0 : Int32)), .unset, .unset, .unset] [(.int p1), (.ref o0)])) _
      refine XS.iconst X21.here hx rfl (hb hby d2_84) ?_
      show Steps p.tables e below (T21.setTop (mkF m 85 #[.val (.ref o0), .val (.int p1), .val (.int p2), .val (.ref o3), .val (.ref o4), .val (.ref o5), .val (.ref o6), .val (.int (0 : Int32)), .unset, .unset, .unset] [(.int (2 : Int32)), (.int p1), (.ref o0)])) _
      refine XS.iadd X21.here hx rfl (hb hby d2_85) rfl ?_
      show Steps p.tables e below (T21.setTop (mkF m 86 #[.val (.ref o0), .val (.int p1), .val (.int p2), .val (.ref o3), .val (.ref o4), .val (.ref o5), .val (.ref o6), .val (.int (0 : Int32)), .unset, .unset, .unset] [(.int (p1 + (2 : Int32))), (.ref o0)])) _
      refine st24 _ ?_
      show Steps p.tables e below (T24.setTop (mkF m 88 #[.val (.ref o0), .val (.int p1), .val (.int p2), .val (.ref o3), .val (.ref o4), .val (.ref o5), .val (.ref o6), .val (.int (0 : Int32)), .unset, .unset, .unset] [(.ref b24), (.ref o0)])) _
      refine st32 _ ?_
      show Steps p.tables e below (T32.setTop (mkF m 91 #[.val (.ref o0), .val (.int p1), .val (.int p2), .val (.ref o3), .val (.ref o4), .val (.ref o5), .val (.ref o6), .val (.int (0 : Int32)), .unset, .unset, .unset] [])) _
      refine XS.iconst X32.here hx rfl (hb hby d2_91) ?_
      show Steps p.tables e below (T32.setTop (mkF m 92 #[.val (.ref o0), .val (.int p1), .val (.int p2), .val (.ref o3), .val (.ref o4), .val (.ref o5), .val (.ref o6), .val (.int (0 : Int32)), .unset, .unset, .unset] [(.int (0 : Int32))])) _
      refine XS.istore X32.here hx rfl (hb hby d2_92) rfl (l' := #[.val (.ref o0), .val (.int p1), .val (.int p2), .val (.ref o3), .val (.ref o4), .val (.ref o5), .val (.ref o6), .val (.int (0 : Int32)), .val (.int (0 : Int32)), .unset, .unset]) rfl ?_
      show Steps p.tables e below (T32.setTop (mkF m 94 #[.val (.ref o0), .val (.int p1), .val (.int p2), .val (.ref o3), .val (.ref o4), .val (.ref o5), .val (.ref o6), .val (.int (0 : Int32)), .val (.int (0 : Int32)), .unset, .unset] [])) _
      refine XS.iload X32.here hx rfl (hb hby d2_94) rfl ?_
      show Steps p.tables e below (T32.setTop (mkF m 96 #[.val (.ref o0), .val (.int p1), .val (.int p2), .val (.ref o3), .val (.ref o4), .val (.ref o5), .val (.ref o6), .val (.int (0 : Int32)), .val (.int (0 : Int32)), .unset, .unset] [(.int (0 : Int32))])) _
      refine XS.iload X32.here hx rfl (hb hby d2_96) rfl ?_
      exact kt)
  have pre36 : ∀ t, Steps p.tables e below (T32.setTop (mkF m 162 #[.val (.ref o0), .val (.int p1), .val (.int p2), .val (.ref o3), .val (.ref o4), .val (.ref o5), .val (.ref o6), .val (.int (0 : Int32)), .val (.int (1 : Int32)), .unset, .unset] [])) t → Steps p.tables e below (s₁.setTop (entryFrame m #[(.ref o0), (.int p1), (.int p2), (.ref o3), (.ref o4), (.ref o5), (.ref o6)] 11)) t := fun t kt => pre35 t (by
      show Steps p.tables e below (T32.setTop (mkF m 98 #[.val (.ref o0), .val (.int p1), .val (.int p2), .val (.ref o3), .val (.ref o4), .val (.ref o5), .val (.ref o6), .val (.int (0 : Int32)), .val (.int (0 : Int32)), .unset, .unset] [(.int (0 : Int32)), (.int (0 : Int32))])) _
      refine XS.icmpYes X32.here hx rfl (pc0 := 98) (pc' := 159) rfl (hb hby d2_98) rfl (flt (by decide : ¬ ((0 : Int32) < (0 : Int32)))).2.1 (by decide) (by decide) ?_
      show Steps p.tables e below (T32.setTop (mkF m 159 #[.val (.ref o0), .val (.int p1), .val (.int p2), .val (.ref o3), .val (.ref o4), .val (.ref o5), .val (.ref o6), .val (.int (0 : Int32)), .val (.int (0 : Int32)), .unset, .unset] [])) _
      refine XS.iconst X32.here hx rfl (hb hby d2_159) ?_
      show Steps p.tables e below (T32.setTop (mkF m 160 #[.val (.ref o0), .val (.int p1), .val (.int p2), .val (.ref o3), .val (.ref o4), .val (.ref o5), .val (.ref o6), .val (.int (0 : Int32)), .val (.int (0 : Int32)), .unset, .unset] [(.int (1 : Int32))])) _
      refine XS.istore X32.here hx rfl (hb hby d2_160) rfl (l' := #[.val (.ref o0), .val (.int p1), .val (.int p2), .val (.ref o3), .val (.ref o4), .val (.ref o5), .val (.ref o6), .val (.int (0 : Int32)), .val (.int (1 : Int32)), .unset, .unset]) rfl ?_
      exact kt)
  have loop37 : ∀ (k : Nat) (i37 : Int32) (F37_0 : Nat → Int32) (TL37 : State) (hL37 : Heap) (LL37 : List Loc), (1 ≤ i37.toInt) → (17 - i37.toInt).toNat < k → Stand p l e ({ frames := 1, cells := 6, slots := 34, locals := 14 } : Room) s m #[(.ref o0), (.int p1), (.int p2), (.ref o3), (.ref o4), (.ref o5), (.ref o6)] below meth c TL37 LL37 1 17 → TL37.heap = hL37 → Fr n0 LL37 → Keep h32 hL37 [b24] → own_AI Z hL37 b24 .int (p1 + (2 : Int32)) F37_0 → ∃ (i37' : Int32) (F37_0' : Nat → Int32) (T' : State) (h' : Heap) (L' : List Loc), Stand p l e ({ frames := 1, cells := 6, slots := 34, locals := 14 } : Room) s m #[(.ref o0), (.int p1), (.int p2), (.ref o3), (.ref o4), (.ref o5), (.ref o6)] below meth c T' L' 1 17 ∧ T'.heap = h' ∧ Fr n0 L' ∧ Keep h32 h' [b24] ∧ own_AI Z h' b24 .int (p1 + (2 : Int32)) F37_0' ∧ ∀ t, Steps p.tables e below (T'.setTop (mkF m 197 #[.val (.ref o0), .val (.int p1), .val (.int p2), .val (.ref o3), .val (.ref o4), .val (.ref o5), .val (.ref o6), .val (.int (0 : Int32)), .val (.int i37'), .unset, .unset] [])) t → Steps p.tables e below (TL37.setTop (mkF m 162 #[.val (.ref o0), .val (.int p1), .val (.int p2), .val (.ref o3), .val (.ref o4), .val (.ref o5), .val (.ref o6), .val (.int (0 : Int32)), .val (.int i37), .unset, .unset] [])) t := by
    intro k
    induction k with
    | zero => intro i37 F37_0 TL37 hL37 LL37 hi hmu; exact absurd hmu (Nat.not_lt_zero _)
    | succ k ih =>
      intro i37 F37_0 TL37 hL37 LL37 hi hmu XL37 eL37 NL37 KL37 VL37_0
      have preL37 : ∀ t, Steps p.tables e below (TL37.setTop (mkF m 162 #[.val (.ref o0), .val (.int p1), .val (.int p2), .val (.ref o3), .val (.ref o4), .val (.ref o5), .val (.ref o6), .val (.int (0 : Int32)), .val (.int i37), .unset, .unset] [])) t → Steps p.tables e below (TL37.setTop (mkF m 162 #[.val (.ref o0), .val (.int p1), .val (.int p2), .val (.ref o3), .val (.ref o4), .val (.ref o5), .val (.ref o6), .val (.int (0 : Int32)), .val (.int i37), .unset, .unset] [])) t := fun _ q => q
      have K38 : Keep h0 hL37 [o0] := K33.trans KL37 (allS (Or.inr sz_b24) all0)
      have Z39 : n0 ≤ hL37.size := Nat.le_trans Z0 K38.1
      obtain ⟨T40, X40, e40, st40⟩ := getF XL37 hx hZ hown (host := "") (Or.inl (hw _ (List.mem_of_getElem? (i := 21) rfl))) Via.refl eL37 (Fw32.keep KL37 (ninS ne_o0_b24 nin0)) (g := (mkF m 165 #[.val (.ref o0), .val (.int p1), .val (.int p2), .val (.ref o3), .val (.ref o4), .val (.ref o5), .val (.ref o6), .val (.int (0 : Int32)), .val (.int i37), .unset, .unset] [(.ref o0), (.int i37)])) rfl rfl (hb hby d2_165)
      obtain ⟨cl41, Ar41, Sz41, Nn41, -⟩ := id VL37_0
      have pre42 : ∀ t, Steps p.tables e below (T40.setTop (mkF m 169 #[.val (.ref o0), .val (.int p1), .val (.int p2), .val (.ref o3), .val (.ref o4), .val (.ref o5), .val (.ref o6), .val (.int (0 : Int32)), .val (.int i37), .unset, .unset] [(.int (p1 + (2 : Int32))), (.int i37)])) t → Steps p.tables e below (TL37.setTop (mkF m 162 #[.val (.ref o0), .val (.int p1), .val (.int p2), .val (.ref o3), .val (.ref o4), .val (.ref o5), .val (.ref o6), .val (.int (0 : Int32)), .val (.int i37), .unset, .unset] [])) t := fun t kt => preL37 t (by
          show Steps p.tables e below (TL37.setTop (mkF m 162 #[.val (.ref o0), .val (.int p1), .val (.int p2), .val (.ref o3), .val (.ref o4), .val (.ref o5), .val (.ref o6), .val (.int (0 : Int32)), .val (.int i37), .unset, .unset] [])) _
          refine XS.iload XL37.here hx rfl (hb hby d2_162) rfl ?_
          show Steps p.tables e below (TL37.setTop (mkF m 164 #[.val (.ref o0), .val (.int p1), .val (.int p2), .val (.ref o3), .val (.ref o4), .val (.ref o5), .val (.ref o6), .val (.int (0 : Int32)), .val (.int i37), .unset, .unset] [(.int i37)])) _
          refine XS.aloadN XL37.here hx rfl (hb hby d2_164) rfl rfl ?_
          show Steps p.tables e below (TL37.setTop (mkF m 165 #[.val (.ref o0), .val (.int p1), .val (.int p2), .val (.ref o3), .val (.ref o4), .val (.ref o5), .val (.ref o6), .val (.int (0 : Int32)), .val (.int i37), .unset, .unset] [(.ref o0), (.int i37)])) _
          refine st40 _ ?_
          show Steps p.tables e below (T40.setTop (mkF m 168 #[.val (.ref o0), .val (.int p1), .val (.int p2), .val (.ref o3), .val (.ref o4), .val (.ref o5), .val (.ref o6), .val (.int (0 : Int32)), .val (.int i37), .unset, .unset] [(.ref b24), (.int i37)])) _
          refine X40.arraylength hx (by rw [e40]; exact Ar41.1) (State.isArrayOf_alike hZ.alike Ar41.2.1) (g := (mkF m 168 #[.val (.ref o0), .val (.int p1), .val (.int p2), .val (.ref o3), .val (.ref o4), .val (.ref o5), .val (.ref o6), .val (.int (0 : Int32)), .val (.int i37), .unset, .unset] [(.ref b24), (.int i37)])) rfl rfl (hb hby d2_168) _ ?_
          rw [len_of Sz41 Nn41]
          exact kt)
      by_cases hc169_43 : i37 < (p1 + (2 : Int32))
      · obtain ⟨T44, X44, e44, st44⟩ := getF X40 hx hZ hown (host := "") (Or.inl (hw _ (List.mem_of_getElem? (i := 21) rfl))) Via.refl e40 (Fw32.keep KL37 (ninS ne_o0_b24 nin0)) (g := (mkF m 173 #[.val (.ref o0), .val (.int p1), .val (.int p2), .val (.ref o3), .val (.ref o4), .val (.ref o5), .val (.ref o6), .val (.int (0 : Int32)), .val (.int i37), .unset, .unset] [(.ref o0)])) rfl rfl (hb hby d2_173)
        obtain ⟨cl45, Ar45, Sz45, Nn45, Hs45⟩ := id VL37_0
        have hin45 : ¬ (i37 < 0 ∨ cl45.slots.size ≤ (i37).toNatClampNeg) := inb_of Sz45 (own_b0 hi hc169_43)
        have hat45 : cl45.slots[(i37).toNatClampNeg]? = some (.int (F37_0 (i37).toNatClampNeg)) := (Hs45 _ (own_lt hin45)).1
        obtain ⟨T46, X46, e46, st46⟩ := getF X44 hx hZ hown (host := "") (Or.inl (hw _ (List.mem_of_getElem? (i := 21) rfl))) Via.refl e44 (Fw32.keep KL37 (ninS ne_o0_b24 nin0)) (g := (mkF m 181 #[.val (.ref o0), .val (.int p1), .val (.int p2), .val (.ref o3), .val (.ref o4), .val (.ref o5), .val (.ref o6), .val (.int (0 : Int32)), .val (.int i37), .unset, .unset] [(.ref o0), (.int (F37_0 (i37).toNatClampNeg)), (.int i37), (.ref b24)])) rfl rfl (hb hby d2_181)
        obtain ⟨cl47, Ar47, Sz47, Nn47, Hs47⟩ := id VL37_0
        have hin47 : ¬ ((i37 - (1 : Int32)) < 0 ∨ cl47.slots.size ≤ ((i37 - (1 : Int32))).toNatClampNeg) := inb_of Sz47 (own_b1 hi hc169_43)
        have hat47 : cl47.slots[((i37 - (1 : Int32))).toNatClampNeg]? = some (.int (F37_0 ((i37 - (1 : Int32))).toNatClampNeg)) := (Hs47 _ (own_lt hin47)).1
        obtain ⟨cl48, Ar48, Sz48, Nn48, Hs48⟩ := id VL37_0
        have hin48 : ¬ (i37 < 0 ∨ cl48.slots.size ≤ (i37).toNatClampNeg) := inb_of Sz48 (own_b0 hi hc169_43)
        obtain ⟨T49, h49, X49, e49, W49, st49⟩ := stI X46 hx hZ e46 Ar48 (j := i37) hin48 (g := (mkF m 190 #[.val (.ref o0), .val (.int p1), .val (.int p2), .val (.ref o3), .val (.ref o4), .val (.ref o5), .val (.ref o6), .val (.int (0 : Int32)), .val (.int i37), .unset, .unset] [(.int ((F37_0 (i37).toNatClampNeg) + (F37_0 ((i37 - (1 : Int32))).toNatClampNeg))), (.int i37), (.ref b24)])) rfl rfl (hb hby d2_190)
        have V49 : own_AI Z h49 b24 .int (p1 + (2 : Int32)) (own_upd F37_0 (i37).toNatClampNeg ((F37_0 (i37).toNatClampNeg) + (F37_0 ((i37 - (1 : Int32))).toNatClampNeg))) := own_AI.set VL37_0 rfl W49
        have K50 : Keep h0 h49 [o0] := K38.wr W49 (Or.inr sz_b24)
        have KL51 : Keep h32 h49 [b24] := KL37.wr W49 (Or.inl (List.mem_of_getElem? (i := 0) rfl))
        have Z52 : n0 ≤ h49.size := Nat.le_trans Z0 K50.1
        have N49 := Fr.snoc X49 NL37 g_b24
        obtain ⟨LS49, X49, N49⟩ : ∃ L, Stand p l e ({ frames := 1, cells := 6, slots := 34, locals := 14 } : Room) s m #[(.ref o0), (.int p1), (.int p2), (.ref o3), (.ref o4), (.ref o5), (.ref o6)] below meth c T49 L 1 17 ∧ Fr n0 L := ⟨_, X49, N49⟩
        obtain ⟨y53_0, y53_1, T53, h53, L53, X53, e53, N53, K53, V53_0, st53⟩ := ih ((i37 + (1 : Int32))) ((own_upd F37_0 (i37).toNatClampNeg ((F37_0 (i37).toNatClampNeg) + (F37_0 ((i37 - (1 : Int32))).toNatClampNeg)))) T49 h49 _ ((own_i1 hn hi hc169_43).1) (own_k1 hn hi hc169_43 hmu) X49 e49 N49 KL51 V49
        refine ⟨y53_0, y53_1, T53, h53, L53, X53, e53, N53, K53, V53_0, fun t kt => pre42 t ?_⟩
        show Steps p.tables e below (T40.setTop (mkF m 169 #[.val (.ref o0), .val (.int p1), .val (.int p2), .val (.ref o3), .val (.ref o4), .val (.ref o5), .val (.ref o6), .val (.int (0 : Int32)), .val (.int i37), .unset, .unset] [(.int (p1 + (2 : Int32))), (.int i37)])) _
        refine XS.icmpNo X40.here hx rfl (hb hby d2_169) rfl (tlt hc169_43).2.1 ?_
        show Steps p.tables e below (T40.setTop (mkF m 172 #[.val (.ref o0), .val (.int p1), .val (.int p2), .val (.ref o3), .val (.ref o4), .val (.ref o5), .val (.ref o6), .val (.int (0 : Int32)), .val (.int i37), .unset, .unset] [])) _
        refine XS.aloadN X40.here hx rfl (hb hby d2_172) rfl rfl ?_
        show Steps p.tables e below (T40.setTop (mkF m 173 #[.val (.ref o0), .val (.int p1), .val (.int p2), .val (.ref o3), .val (.ref o4), .val (.ref o5), .val (.ref o6), .val (.int (0 : Int32)), .val (.int i37), .unset, .unset] [(.ref o0)])) _
        refine st44 _ ?_
        show Steps p.tables e below (T44.setTop (mkF m 176 #[.val (.ref o0), .val (.int p1), .val (.int p2), .val (.ref o3), .val (.ref o4), .val (.ref o5), .val (.ref o6), .val (.int (0 : Int32)), .val (.int i37), .unset, .unset] [(.ref b24)])) _
        refine XS.iload X44.here hx rfl (hb hby d2_176) rfl ?_
        show Steps p.tables e below (T44.setTop (mkF m 178 #[.val (.ref o0), .val (.int p1), .val (.int p2), .val (.ref o3), .val (.ref o4), .val (.ref o5), .val (.ref o6), .val (.int (0 : Int32)), .val (.int i37), .unset, .unset] [(.int i37), (.ref b24)])) _
        jvm_step X44.here [X44.here.top, hx, (hb hby d2_178), Value.category]
        show Steps p.tables e below (T44.setTop (mkF m 179 #[.val (.ref o0), .val (.int p1), .val (.int p2), .val (.ref o3), .val (.ref o4), .val (.ref o5), .val (.ref o6), .val (.int (0 : Int32)), .val (.int i37), .unset, .unset] [(.int i37), (.ref b24), (.int i37), (.ref b24)])) _
        refine X44.iaload hx (j := i37) (v := (.int (F37_0 (i37).toNatClampNeg))) (by rw [e44]; exact Ar45.1) (State.isArrayOf_alike hZ.alike Ar45.2.1) Ar45.2.2 hin45 hat45 (g := (mkF m 179 #[.val (.ref o0), .val (.int p1), .val (.int p2), .val (.ref o3), .val (.ref o4), .val (.ref o5), .val (.ref o6), .val (.int (0 : Int32)), .val (.int i37), .unset, .unset] [(.int i37), (.ref b24), (.int i37), (.ref b24)])) rfl rfl (hb hby d2_179) _ ?_
        show Steps p.tables e below (T44.setTop (mkF m 180 #[.val (.ref o0), .val (.int p1), .val (.int p2), .val (.ref o3), .val (.ref o4), .val (.ref o5), .val (.ref o6), .val (.int (0 : Int32)), .val (.int i37), .unset, .unset] [(.int (F37_0 (i37).toNatClampNeg)), (.int i37), (.ref b24)])) _
        refine XS.aloadN X44.here hx rfl (hb hby d2_180) rfl rfl ?_
        show Steps p.tables e below (T44.setTop (mkF m 181 #[.val (.ref o0), .val (.int p1), .val (.int p2), .val (.ref o3), .val (.ref o4), .val (.ref o5), .val (.ref o6), .val (.int (0 : Int32)), .val (.int i37), .unset, .unset] [(.ref o0), (.int (F37_0 (i37).toNatClampNeg)), (.int i37), (.ref b24)])) _
        refine st46 _ ?_
        show Steps p.tables e below (T46.setTop (mkF m 184 #[.val (.ref o0), .val (.int p1), .val (.int p2), .val (.ref o3), .val (.ref o4), .val (.ref o5), .val (.ref o6), .val (.int (0 : Int32)), .val (.int i37), .unset, .unset] [(.ref b24), (.int (F37_0 (i37).toNatClampNeg)), (.int i37), (.ref b24)])) _
        refine XS.iload X46.here hx rfl (hb hby d2_184) rfl ?_
        show Steps p.tables e below (T46.setTop (mkF m 186 #[.val (.ref o0), .val (.int p1), .val (.int p2), .val (.ref o3), .val (.ref o4), .val (.ref o5), .val (.ref o6), .val (.int (0 : Int32)), .val (.int i37), .unset, .unset] [(.int i37), (.ref b24), (.int (F37_0 (i37).toNatClampNeg)), (.int i37), (.ref b24)])) _
        refine XS.iconst X46.here hx rfl (hb hby d2_186) ?_
        show Steps p.tables e below (T46.setTop (mkF m 187 #[.val (.ref o0), .val (.int p1), .val (.int p2), .val (.ref o3), .val (.ref o4), .val (.ref o5), .val (.ref o6), .val (.int (0 : Int32)), .val (.int i37), .unset, .unset] [(.int (1 : Int32)), (.int i37), (.ref b24), (.int (F37_0 (i37).toNatClampNeg)), (.int i37), (.ref b24)])) _
        refine XS.isub X46.here hx rfl (hb hby d2_187) rfl ?_
        show Steps p.tables e below (T46.setTop (mkF m 188 #[.val (.ref o0), .val (.int p1), .val (.int p2), .val (.ref o3), .val (.ref o4), .val (.ref o5), .val (.ref o6), .val (.int (0 : Int32)), .val (.int i37), .unset, .unset] [(.int (i37 - (1 : Int32))), (.ref b24), (.int (F37_0 (i37).toNatClampNeg)), (.int i37), (.ref b24)])) _
        refine X46.iaload hx (j := (i37 - (1 : Int32))) (v := (.int (F37_0 ((i37 - (1 : Int32))).toNatClampNeg))) (by rw [e46]; exact Ar47.1) (State.isArrayOf_alike hZ.alike Ar47.2.1) Ar47.2.2 hin47 hat47 (g := (mkF m 188 #[.val (.ref o0), .val (.int p1), .val (.int p2), .val (.ref o3), .val (.ref o4), .val (.ref o5), .val (.ref o6), .val (.int (0 : Int32)), .val (.int i37), .unset, .unset] [(.int (i37 - (1 : Int32))), (.ref b24), (.int (F37_0 (i37).toNatClampNeg)), (.int i37), (.ref b24)])) rfl rfl (hb hby d2_188) _ ?_
        show Steps p.tables e below (T46.setTop (mkF m 189 #[.val (.ref o0), .val (.int p1), .val (.int p2), .val (.ref o3), .val (.ref o4), .val (.ref o5), .val (.ref o6), .val (.int (0 : Int32)), .val (.int i37), .unset, .unset] [(.int (F37_0 ((i37 - (1 : Int32))).toNatClampNeg)), (.int (F37_0 (i37).toNatClampNeg)), (.int i37), (.ref b24)])) _
        refine XS.iadd X46.here hx rfl (hb hby d2_189) rfl ?_
        show Steps p.tables e below (T46.setTop (mkF m 190 #[.val (.ref o0), .val (.int p1), .val (.int p2), .val (.ref o3), .val (.ref o4), .val (.ref o5), .val (.ref o6), .val (.int (0 : Int32)), .val (.int i37), .unset, .unset] [(.int ((F37_0 (i37).toNatClampNeg) + (F37_0 ((i37 - (1 : Int32))).toNatClampNeg))), (.int i37), (.ref b24)])) _
        refine st49 _ ?_
        show Steps p.tables e below (T49.setTop (mkF m 191 #[.val (.ref o0), .val (.int p1), .val (.int p2), .val (.ref o3), .val (.ref o4), .val (.ref o5), .val (.ref o6), .val (.int (0 : Int32)), .val (.int i37), .unset, .unset] [])) _
        refine XS.iinc X49.here hx rfl (hb hby d2_191) rfl (l' := #[.val (.ref o0), .val (.int p1), .val (.int p2), .val (.ref o3), .val (.ref o4), .val (.ref o5), .val (.ref o6), .val (.int (0 : Int32)), .val (.int (i37 + (1 : Int32))), .unset, .unset]) rfl ?_
        show Steps p.tables e below (T49.setTop (mkF m 194 #[.val (.ref o0), .val (.int p1), .val (.int p2), .val (.ref o3), .val (.ref o4), .val (.ref o5), .val (.ref o6), .val (.int (0 : Int32)), .val (.int (i37 + (1 : Int32))), .unset, .unset] [])) _
        refine XS.goto X49.here hx rfl (pc0 := 194) (pc' := 162) rfl (hb hby d2_194) (by decide) (by decide) ?_
        exact st53 t kt
      · refine ⟨i37, F37_0, T40, hL37, _, X40, e40, NL37, KL37, VL37_0, fun t kt => pre42 t ?_⟩
        show Steps p.tables e below (T40.setTop (mkF m 169 #[.val (.ref o0), .val (.int p1), .val (.int p2), .val (.ref o3), .val (.ref o4), .val (.ref o5), .val (.ref o6), .val (.int (0 : Int32)), .val (.int i37), .unset, .unset] [(.int (p1 + (2 : Int32))), (.int i37)])) _
        refine XS.icmpYes X40.here hx rfl (pc0 := 169) (pc' := 197) rfl (hb hby d2_169) rfl (flt hc169_43).2.1 (by decide) (by decide) ?_
        exact kt
  obtain ⟨i37x, F37_0x, T37, h37, L37, X37, e37, N37, Kx37, Vx37_0, st37⟩ := loop37 _ ((1 : Int32)) ((fun _ => 0)) T32 h32 _ (by decide) (Nat.lt_succ_self _) X32 e32 N32 (Keep.refl _ _) (V_b24.other W32 (Ne.symm ne_o0_b24))
  have K54 : Keep h0 h37 [o0] := K33.trans Kx37 (allS (Or.inr sz_b24) all0)
  have Z55 : n0 ≤ h37.size := Nat.le_trans Z0 K54.1
  obtain ⟨T56, h56, k56, X56, e56, E56, A56, st56⟩ := newP X37 hx hZ (hw _ (List.mem_of_getElem? (i := 8) rfl)) e37 (g := (mkF m 200 #[.val (.ref o0), .val (.int p1), .val (.int p2), .val (.ref o3), .val (.ref o4), .val (.ref o5), .val (.ref o6), .val (.int (0 : Int32)), .val (.int i37x), .unset, .unset] [(.int (0 : Int32)), (.ref o0)])) rfl (hb hby d2_200) rfl (by decide) (cap := 0) (by decide) (by decide) (by decide) (by decide)
  obtain ⟨b56, g56⟩ : ∃ z, z = h37.size := ⟨_, rfl⟩
  rw [← g56] at A56 st56
  have g_b56 : n0 ≤ b56 := Nat.le_trans Z55 (Nat.le_of_eq g56.symm)
  have sz_b56 : h0.size ≤ b56 := Nat.le_trans K54.1 (Nat.le_of_eq g56.symm)
  have ne_o0_b56 : o0 ≠ b56 := Nat.ne_of_lt (Nat.lt_of_lt_of_le (((((E_o0.wr W16).wr W21).ext E24).wr W32).keep Kx37).lt (Nat.le_of_eq g56.symm))
  have c57 := (((c25.ext E24).other W32 (Ne.symm ne_o0_o3)).keep Kx37 (ninS ne_o3_b24 nin0))
  have ne_o3_b56 : o3 ≠ b56 := Nat.ne_of_lt (Nat.lt_of_lt_of_le c57.lt (Nat.le_of_eq g56.symm))
  have c58 := (((c26.ext E24).other W32 (Ne.symm ne_o0_o4)).keep Kx37 (ninS ne_o4_b24 nin0))
  have ne_o4_b56 : o4 ≠ b56 := Nat.ne_of_lt (Nat.lt_of_lt_of_le c58.lt (Nat.le_of_eq g56.symm))
  have c59 := (((c27.ext E24).other W32 (Ne.symm ne_o0_o5)).keep Kx37 (ninS ne_o5_b24 nin0))
  have ne_o5_b56 : o5 ≠ b56 := Nat.ne_of_lt (Nat.lt_of_lt_of_le c59.lt (Nat.le_of_eq g56.symm))
  have c60 := (((c28.ext E24).other W32 (Ne.symm ne_o0_o6)).keep Kx37 (ninS ne_o6_b24 nin0))
  have ne_o6_b56 : o6 ≠ b56 := Nat.ne_of_lt (Nat.lt_of_lt_of_le c60.lt (Nat.le_of_eq g56.symm))
  have ne_b24_b56 : b24 ≠ b56 := Nat.ne_of_lt (Nat.lt_of_lt_of_le ((E_b24.wr W32).keep Kx37).lt (Nat.le_of_eq g56.symm))
  have K61 : Keep h0 h56 [o0] := K54.ext E56
  have Z62 : n0 ≤ h56.size := Nat.le_trans Z0 K61.1
  have V_b56 : own_AI Z h56 b56 .int (0 : Int32) (fun _ => 0) := own_AI.new A56 (by decide) rfl
  have c63 := ((((((E_o0.wr W16).wr W21).ext E24).wr W32).keep Kx37).ext E56)
  have c64 := ((((((F_tail_o0.other W16 (Or.inr (slot_ne (Or.inr (hw _ (List.mem_of_getElem? (i := 24) rfl))) (Or.inr (hw _ (List.mem_of_getElem? (i := 18) rfl))) (by decide) (t := (.array .int)) (t' := .int) (by decide) (by decide)))).other W21 (Or.inr (slot_ne (Or.inr (hw _ (List.mem_of_getElem? (i := 24) rfl))) (Or.inr (hw _ (List.mem_of_getElem? (i := 20) rfl))) (by decide) (t := (.array .int)) (t' := .int) (by decide) (by decide)))).ext E24).other W32 (Or.inr (slot_ne (Or.inr (hw _ (List.mem_of_getElem? (i := 24) rfl))) (Or.inr (hw _ (List.mem_of_getElem? (i := 22) rfl))) (by decide) (t := (.array .int)) (t' := (.array .int)) (by decide) (by decide)))).keep Kx37 (ninS ne_o0_b24 nin0)).ext E56)
  obtain ⟨T65, h65, X65, e65, W65, st65⟩ := putF X56 hx hZ hown (host := "") (Or.inl (hw _ (List.mem_of_getElem? (i := 23) rfl))) Via.refl e56 c64 c63 (Or.inr ⟨(hw _ (List.mem_of_getElem? (i := 24) rfl)), rfl, hnm⟩) (hw _ (List.mem_of_getElem? (i := 6) rfl)) (ty := (.array .int)) (by decide) rfl rfl (g := (mkF m 202 #[.val (.ref o0), .val (.int p1), .val (.int p2), .val (.ref o3), .val (.ref o4), .val (.ref o5), .val (.ref o6), .val (.int (0 : Int32)), .val (.int i37x), .unset, .unset] [(.ref b56), (.ref o0)])) rfl rfl (hb hby d2_202)
  have Fw65 := c64.same W65
  have K66 : Keep h0 h65 [o0] := K61.wr W65 (Or.inl (List.mem_of_getElem? (i := 0) rfl))
  have Z67 : n0 ≤ h65.size := Nat.le_trans Z0 K66.1
  have N65 := Fr.snoc X65 N37 g_o0
  obtain ⟨LS65, X65, N65⟩ : ∃ L, Stand p l e ({ frames := 1, cells := 6, slots := 34, locals := 14 } : Room) s m #[(.ref o0), (.int p1), (.int p2), (.ref o3), (.ref o4), (.ref o5), (.ref o6)] below meth c T65 L 2 17 ∧ Fr n0 L := ⟨_, X65, N65⟩
  obtain ⟨T68, h68, k68, X68, e68, E68, A68, st68⟩ := newP X65 hx hZ (hw _ (List.mem_of_getElem? (i := 8) rfl)) e65 (g := (mkF m 208 #[.val (.ref o0), .val (.int p1), .val (.int p2), .val (.ref o3), .val (.ref o4), .val (.ref o5), .val (.ref o6), .val (.int (0 : Int32)), .val (.int i37x), .unset, .unset] [(.int (0 : Int32)), (.ref o0)])) rfl (hb hby d2_208) rfl (by decide) (cap := 0) (by decide) (by decide) (by decide) (by decide)
  obtain ⟨b68, g68⟩ : ∃ z, z = h65.size := ⟨_, rfl⟩
  rw [← g68] at A68 st68
  have g_b68 : n0 ≤ b68 := Nat.le_trans Z67 (Nat.le_of_eq g68.symm)
  have sz_b68 : h0.size ≤ b68 := Nat.le_trans K66.1 (Nat.le_of_eq g68.symm)
  have ne_o0_b68 : o0 ≠ b68 := Nat.ne_of_lt (Nat.lt_of_lt_of_le (c63.wr W65).lt (Nat.le_of_eq g68.symm))
  have ne_o3_b68 : o3 ≠ b68 := Nat.ne_of_lt (Nat.lt_of_lt_of_le ((c57.ext E56).other W65 (Ne.symm ne_o0_o3)).lt (Nat.le_of_eq g68.symm))
  have ne_o4_b68 : o4 ≠ b68 := Nat.ne_of_lt (Nat.lt_of_lt_of_le ((c58.ext E56).other W65 (Ne.symm ne_o0_o4)).lt (Nat.le_of_eq g68.symm))
  have ne_o5_b68 : o5 ≠ b68 := Nat.ne_of_lt (Nat.lt_of_lt_of_le ((c59.ext E56).other W65 (Ne.symm ne_o0_o5)).lt (Nat.le_of_eq g68.symm))
  have ne_o6_b68 : o6 ≠ b68 := Nat.ne_of_lt (Nat.lt_of_lt_of_le ((c60.ext E56).other W65 (Ne.symm ne_o0_o6)).lt (Nat.le_of_eq g68.symm))
  have ne_b24_b68 : b24 ≠ b68 := Nat.ne_of_lt (Nat.lt_of_lt_of_le ((((E_b24.wr W32).keep Kx37).ext E56).wr W65).lt (Nat.le_of_eq g68.symm))
  have ne_b56_b68 : b56 ≠ b68 := Nat.ne_of_lt (Nat.lt_of_lt_of_le (V_b56.other W65 (Ne.symm ne_o0_b56)).lt (Nat.le_of_eq g68.symm))
  have K69 : Keep h0 h68 [o0] := K66.ext E68
  have Z70 : n0 ≤ h68.size := Nat.le_trans Z0 K69.1
  have V_b68 : own_AI Z h68 b68 .int (0 : Int32) (fun _ => 0) := own_AI.new A68 (by decide) rfl
  have c71 := ((((((((F_head_o0.other W16 (Or.inr (slot_ne (Or.inr (hw _ (List.mem_of_getElem? (i := 26) rfl))) (Or.inr (hw _ (List.mem_of_getElem? (i := 18) rfl))) (by decide) (t := (.array .int)) (t' := .int) (by decide) (by decide)))).other W21 (Or.inr (slot_ne (Or.inr (hw _ (List.mem_of_getElem? (i := 26) rfl))) (Or.inr (hw _ (List.mem_of_getElem? (i := 20) rfl))) (by decide) (t := (.array .int)) (t' := .int) (by decide) (by decide)))).ext E24).other W32 (Or.inr (slot_ne (Or.inr (hw _ (List.mem_of_getElem? (i := 26) rfl))) (Or.inr (hw _ (List.mem_of_getElem? (i := 22) rfl))) (by decide) (t := (.array .int)) (t' := (.array .int)) (by decide) (by decide)))).keep Kx37 (ninS ne_o0_b24 nin0)).ext E56).other W65 (Or.inr (slot_ne (Or.inr (hw _ (List.mem_of_getElem? (i := 26) rfl))) (Or.inr (hw _ (List.mem_of_getElem? (i := 24) rfl))) (by decide) (t := (.array .int)) (t' := (.array .int)) (by decide) (by decide)))).ext E68)
  obtain ⟨T72, h72, X72, e72, W72, st72⟩ := putF X68 hx hZ hown (host := "") (Or.inl (hw _ (List.mem_of_getElem? (i := 25) rfl))) Via.refl e68 c71 ((c63.wr W65).ext E68) (Or.inr ⟨(hw _ (List.mem_of_getElem? (i := 26) rfl)), rfl, hnm⟩) (hw _ (List.mem_of_getElem? (i := 6) rfl)) (ty := (.array .int)) (by decide) rfl rfl (g := (mkF m 210 #[.val (.ref o0), .val (.int p1), .val (.int p2), .val (.ref o3), .val (.ref o4), .val (.ref o5), .val (.ref o6), .val (.int (0 : Int32)), .val (.int i37x), .unset, .unset] [(.ref b68), (.ref o0)])) rfl rfl (hb hby d2_210)
  have Fw72 := c71.same W72
  have K73 : Keep h0 h72 [o0] := K69.wr W72 (Or.inl (List.mem_of_getElem? (i := 0) rfl))
  have Z74 : n0 ≤ h72.size := Nat.le_trans Z0 K73.1
  have N72 := Fr.snoc X72 N65 g_o0
  obtain ⟨LS72, X72, N72⟩ : ∃ L, Stand p l e ({ frames := 1, cells := 6, slots := 34, locals := 14 } : Room) s m #[(.ref o0), (.int p1), (.int p2), (.ref o3), (.ref o4), (.ref o5), (.ref o6)] below meth c T72 L 3 17 ∧ Fr n0 L := ⟨_, X72, N72⟩
  obtain ⟨T75, h75, k75, X75, e75, E75, A75, st75⟩ := newP X72 hx hZ (hw _ (List.mem_of_getElem? (i := 9) rfl)) e72 (g := (mkF m 216 #[.val (.ref o0), .val (.int p1), .val (.int p2), .val (.ref o3), .val (.ref o4), .val (.ref o5), .val (.ref o6), .val (.int (0 : Int32)), .val (.int i37x), .unset, .unset] [(.int (0 : Int32)), (.ref o0)])) rfl (hb hby d2_216) rfl (by decide) (cap := 0) (by decide) (by decide) (by decide) (by decide)
  obtain ⟨b75, g75⟩ : ∃ z, z = h72.size := ⟨_, rfl⟩
  rw [← g75] at A75 st75
  have g_b75 : n0 ≤ b75 := Nat.le_trans Z74 (Nat.le_of_eq g75.symm)
  have sz_b75 : h0.size ≤ b75 := Nat.le_trans K73.1 (Nat.le_of_eq g75.symm)
  have ne_o0_b75 : o0 ≠ b75 := Nat.ne_of_lt (Nat.lt_of_lt_of_le (((c63.wr W65).ext E68).wr W72).lt (Nat.le_of_eq g75.symm))
  have c76 := ((((c57.ext E56).other W65 (Ne.symm ne_o0_o3)).ext E68).other W72 (Ne.symm ne_o0_o3))
  have ne_o3_b75 : o3 ≠ b75 := Nat.ne_of_lt (Nat.lt_of_lt_of_le c76.lt (Nat.le_of_eq g75.symm))
  have c77 := ((((c58.ext E56).other W65 (Ne.symm ne_o0_o4)).ext E68).other W72 (Ne.symm ne_o0_o4))
  have ne_o4_b75 : o4 ≠ b75 := Nat.ne_of_lt (Nat.lt_of_lt_of_le c77.lt (Nat.le_of_eq g75.symm))
  have c78 := ((((c59.ext E56).other W65 (Ne.symm ne_o0_o5)).ext E68).other W72 (Ne.symm ne_o0_o5))
  have ne_o5_b75 : o5 ≠ b75 := Nat.ne_of_lt (Nat.lt_of_lt_of_le c78.lt (Nat.le_of_eq g75.symm))
  have c79 := ((((c60.ext E56).other W65 (Ne.symm ne_o0_o6)).ext E68).other W72 (Ne.symm ne_o0_o6))
  have ne_o6_b75 : o6 ≠ b75 := Nat.ne_of_lt (Nat.lt_of_lt_of_le c79.lt (Nat.le_of_eq g75.symm))
  have c80 := ((((((E_b24.wr W32).keep Kx37).ext E56).wr W65).ext E68).wr W72)
  have ne_b24_b75 : b24 ≠ b75 := Nat.ne_of_lt (Nat.lt_of_lt_of_le c80.lt (Nat.le_of_eq g75.symm))
  have c81 := (((V_b56.other W65 (Ne.symm ne_o0_b56)).ext E68).other W72 (Ne.symm ne_o0_b56))
  have ne_b56_b75 : b56 ≠ b75 := Nat.ne_of_lt (Nat.lt_of_lt_of_le c81.lt (Nat.le_of_eq g75.symm))
  have ne_b68_b75 : b68 ≠ b75 := Nat.ne_of_lt (Nat.lt_of_lt_of_le (V_b68.other W72 (Ne.symm ne_o0_b68)).lt (Nat.le_of_eq g75.symm))
  have K82 : Keep h0 h75 [o0] := K73.ext E75
  have Z83 : n0 ≤ h75.size := Nat.le_trans Z0 K82.1
  have V_b75 : own_AL Z h75 b75 .double (0 : Int32) := own_AL.new A75 (by decide)
  have c84 := ((((((((((F_length_o0.other W16 (Or.inr (slot_ne (Or.inr (hw _ (List.mem_of_getElem? (i := 28) rfl))) (Or.inr (hw _ (List.mem_of_getElem? (i := 18) rfl))) (by decide) (t := (.array .double)) (t' := .int) (by decide) (by decide)))).other W21 (Or.inr (slot_ne (Or.inr (hw _ (List.mem_of_getElem? (i := 28) rfl))) (Or.inr (hw _ (List.mem_of_getElem? (i := 20) rfl))) (by decide) (t := (.array .double)) (t' := .int) (by decide) (by decide)))).ext E24).other W32 (Or.inr (slot_ne (Or.inr (hw _ (List.mem_of_getElem? (i := 28) rfl))) (Or.inr (hw _ (List.mem_of_getElem? (i := 22) rfl))) (by decide) (t := (.array .double)) (t' := (.array .int)) (by decide) (by decide)))).keep Kx37 (ninS ne_o0_b24 nin0)).ext E56).other W65 (Or.inr (slot_ne (Or.inr (hw _ (List.mem_of_getElem? (i := 28) rfl))) (Or.inr (hw _ (List.mem_of_getElem? (i := 24) rfl))) (by decide) (t := (.array .double)) (t' := (.array .int)) (by decide) (by decide)))).ext E68).other W72 (Or.inr (slot_ne (Or.inr (hw _ (List.mem_of_getElem? (i := 28) rfl))) (Or.inr (hw _ (List.mem_of_getElem? (i := 26) rfl))) (by decide) (t := (.array .double)) (t' := (.array .int)) (by decide) (by decide)))).ext E75)
  obtain ⟨T85, h85, X85, e85, W85, st85⟩ := putF X75 hx hZ hown (host := "") (Or.inl (hw _ (List.mem_of_getElem? (i := 27) rfl))) Via.refl e75 c84 ((((c63.wr W65).ext E68).wr W72).ext E75) (Or.inr ⟨(hw _ (List.mem_of_getElem? (i := 28) rfl)), rfl, hnm⟩) (hw _ (List.mem_of_getElem? (i := 6) rfl)) (ty := (.array .double)) (by decide) rfl rfl (g := (mkF m 218 #[.val (.ref o0), .val (.int p1), .val (.int p2), .val (.ref o3), .val (.ref o4), .val (.ref o5), .val (.ref o6), .val (.int (0 : Int32)), .val (.int i37x), .unset, .unset] [(.ref b75), (.ref o0)])) rfl rfl (hb hby d2_218)
  have Fw85 := c84.same W85
  have K86 : Keep h0 h85 [o0] := K82.wr W85 (Or.inl (List.mem_of_getElem? (i := 0) rfl))
  have Z87 : n0 ≤ h85.size := Nat.le_trans Z0 K86.1
  have N85 := Fr.snoc X85 N72 g_o0
  obtain ⟨LS85, X85, N85⟩ : ∃ L, Stand p l e ({ frames := 1, cells := 6, slots := 34, locals := 14 } : Room) s m #[(.ref o0), (.int p1), (.int p2), (.ref o3), (.ref o4), (.ref o5), (.ref o6)] below meth c T85 L 4 17 ∧ Fr n0 L := ⟨_, X85, N85⟩
  obtain ⟨T88, h88, k88, X88, e88, E88, A88, st88⟩ := newP X85 hx hZ (hw _ (List.mem_of_getElem? (i := 9) rfl)) e85 (g := (mkF m 224 #[.val (.ref o0), .val (.int p1), .val (.int p2), .val (.ref o3), .val (.ref o4), .val (.ref o5), .val (.ref o6), .val (.int (0 : Int32)), .val (.int i37x), .unset, .unset] [(.int (0 : Int32)), (.ref o0)])) rfl (hb hby d2_224) rfl (by decide) (cap := 0) (by decide) (by decide) (by decide) (by decide)
  obtain ⟨b88, g88⟩ : ∃ z, z = h85.size := ⟨_, rfl⟩
  rw [← g88] at A88 st88
  have g_b88 : n0 ≤ b88 := Nat.le_trans Z87 (Nat.le_of_eq g88.symm)
  have sz_b88 : h0.size ≤ b88 := Nat.le_trans K86.1 (Nat.le_of_eq g88.symm)
  have ne_o0_b88 : o0 ≠ b88 := Nat.ne_of_lt (Nat.lt_of_lt_of_le (((((c63.wr W65).ext E68).wr W72).ext E75).wr W85).lt (Nat.le_of_eq g88.symm))
  have ne_o3_b88 : o3 ≠ b88 := Nat.ne_of_lt (Nat.lt_of_lt_of_le ((c76.ext E75).other W85 (Ne.symm ne_o0_o3)).lt (Nat.le_of_eq g88.symm))
  have ne_o4_b88 : o4 ≠ b88 := Nat.ne_of_lt (Nat.lt_of_lt_of_le ((c77.ext E75).other W85 (Ne.symm ne_o0_o4)).lt (Nat.le_of_eq g88.symm))
  have ne_o5_b88 : o5 ≠ b88 := Nat.ne_of_lt (Nat.lt_of_lt_of_le ((c78.ext E75).other W85 (Ne.symm ne_o0_o5)).lt (Nat.le_of_eq g88.symm))
  have ne_o6_b88 : o6 ≠ b88 := Nat.ne_of_lt (Nat.lt_of_lt_of_le ((c79.ext E75).other W85 (Ne.symm ne_o0_o6)).lt (Nat.le_of_eq g88.symm))
  have ne_b24_b88 : b24 ≠ b88 := Nat.ne_of_lt (Nat.lt_of_lt_of_le ((c80.ext E75).wr W85).lt (Nat.le_of_eq g88.symm))
  have ne_b56_b88 : b56 ≠ b88 := Nat.ne_of_lt (Nat.lt_of_lt_of_le ((c81.ext E75).other W85 (Ne.symm ne_o0_b56)).lt (Nat.le_of_eq g88.symm))
  have c89 := (((V_b68.other W72 (Ne.symm ne_o0_b68)).ext E75).other W85 (Ne.symm ne_o0_b68))
  have ne_b68_b88 : b68 ≠ b88 := Nat.ne_of_lt (Nat.lt_of_lt_of_le c89.lt (Nat.le_of_eq g88.symm))
  have ne_b75_b88 : b75 ≠ b88 := Nat.ne_of_lt (Nat.lt_of_lt_of_le (V_b75.other W85 (Ne.symm ne_o0_b75)).lt (Nat.le_of_eq g88.symm))
  have K90 : Keep h0 h88 [o0] := K86.ext E88
  have Z91 : n0 ≤ h88.size := Nat.le_trans Z0 K90.1
  have V_b88 : own_AL Z h88 b88 .double (0 : Int32) := own_AL.new A88 (by decide)
  have c92 := ((((((((((((F_time_o0.other W16 (Or.inr (slot_ne (Or.inr (hw _ (List.mem_of_getElem? (i := 30) rfl))) (Or.inr (hw _ (List.mem_of_getElem? (i := 18) rfl))) (by decide) (t := (.array .double)) (t' := .int) (by decide) (by decide)))).other W21 (Or.inr (slot_ne (Or.inr (hw _ (List.mem_of_getElem? (i := 30) rfl))) (Or.inr (hw _ (List.mem_of_getElem? (i := 20) rfl))) (by decide) (t := (.array .double)) (t' := .int) (by decide) (by decide)))).ext E24).other W32 (Or.inr (slot_ne (Or.inr (hw _ (List.mem_of_getElem? (i := 30) rfl))) (Or.inr (hw _ (List.mem_of_getElem? (i := 22) rfl))) (by decide) (t := (.array .double)) (t' := (.array .int)) (by decide) (by decide)))).keep Kx37 (ninS ne_o0_b24 nin0)).ext E56).other W65 (Or.inr (slot_ne (Or.inr (hw _ (List.mem_of_getElem? (i := 30) rfl))) (Or.inr (hw _ (List.mem_of_getElem? (i := 24) rfl))) (by decide) (t := (.array .double)) (t' := (.array .int)) (by decide) (by decide)))).ext E68).other W72 (Or.inr (slot_ne (Or.inr (hw _ (List.mem_of_getElem? (i := 30) rfl))) (Or.inr (hw _ (List.mem_of_getElem? (i := 26) rfl))) (by decide) (t := (.array .double)) (t' := (.array .int)) (by decide) (by decide)))).ext E75).other W85 (Or.inr (slot_ne (Or.inr (hw _ (List.mem_of_getElem? (i := 30) rfl))) (Or.inr (hw _ (List.mem_of_getElem? (i := 28) rfl))) (by decide) (t := (.array .double)) (t' := (.array .double)) (by decide) (by decide)))).ext E88)
  obtain ⟨T93, h93, X93, e93, W93, st93⟩ := putF X88 hx hZ hown (host := "") (Or.inl (hw _ (List.mem_of_getElem? (i := 29) rfl))) Via.refl e88 c92 ((((((c63.wr W65).ext E68).wr W72).ext E75).wr W85).ext E88) (Or.inr ⟨(hw _ (List.mem_of_getElem? (i := 30) rfl)), rfl, hnm⟩) (hw _ (List.mem_of_getElem? (i := 6) rfl)) (ty := (.array .double)) (by decide) rfl rfl (g := (mkF m 226 #[.val (.ref o0), .val (.int p1), .val (.int p2), .val (.ref o3), .val (.ref o4), .val (.ref o5), .val (.ref o6), .val (.int (0 : Int32)), .val (.int i37x), .unset, .unset] [(.ref b88), (.ref o0)])) rfl rfl (hb hby d2_226)
  have Fw93 := c92.same W93
  have K94 : Keep h0 h93 [o0] := K90.wr W93 (Or.inl (List.mem_of_getElem? (i := 0) rfl))
  have Z95 : n0 ≤ h93.size := Nat.le_trans Z0 K94.1
  have N93 := Fr.snoc X93 N85 g_o0
  obtain ⟨LS93, X93, N93⟩ : ∃ L, Stand p l e ({ frames := 1, cells := 6, slots := 34, locals := 14 } : Room) s m #[(.ref o0), (.int p1), (.int p2), (.ref o3), (.ref o4), (.ref o5), (.ref o6)] below meth c T93 L 5 17 ∧ Fr n0 L := ⟨_, X93, N93⟩
  have c96 := (((((((((Fw32.keep Kx37 (ninS ne_o0_b24 nin0)).ext E56).other W65 (Or.inr (slot_ne (Or.inr (hw _ (List.mem_of_getElem? (i := 22) rfl))) (Or.inr (hw _ (List.mem_of_getElem? (i := 24) rfl))) (by decide) (t := (.array .int)) (t' := (.array .int)) (by decide) (by decide)))).ext E68).other W72 (Or.inr (slot_ne (Or.inr (hw _ (List.mem_of_getElem? (i := 22) rfl))) (Or.inr (hw _ (List.mem_of_getElem? (i := 26) rfl))) (by decide) (t := (.array .int)) (t' := (.array .int)) (by decide) (by decide)))).ext E75).other W85 (Or.inr (slot_ne (Or.inr (hw _ (List.mem_of_getElem? (i := 22) rfl))) (Or.inr (hw _ (List.mem_of_getElem? (i := 28) rfl))) (by decide) (t := (.array .int)) (t' := (.array .double)) (by decide) (by decide)))).ext E88).other W93 (Or.inr (slot_ne (Or.inr (hw _ (List.mem_of_getElem? (i := 22) rfl))) (Or.inr (hw _ (List.mem_of_getElem? (i := 30) rfl))) (by decide) (t := (.array .int)) (t' := (.array .double)) (by decide) (by decide))))
  obtain ⟨T97, X97, e97, st97⟩ := getF X93 hx hZ hown (host := "") (Or.inl (hw _ (List.mem_of_getElem? (i := 21) rfl))) Via.refl e93 c96 (g := (mkF m 230 #[.val (.ref o0), .val (.int p1), .val (.int p2), .val (.ref o3), .val (.ref o4), .val (.ref o5), .val (.ref o6), .val (.int (0 : Int32)), .val (.int i37x), .unset, .unset] [(.ref o0)])) rfl rfl (hb hby d2_230)
  have c99 := ((((((((Vx37_0.ext E56).other W65 (Ne.symm ne_o0_b24)).ext E68).other W72 (Ne.symm ne_o0_b24)).ext E75).other W85 (Ne.symm ne_o0_b24)).ext E88).other W93 (Ne.symm ne_o0_b24))
  obtain ⟨cl98, Ar98, Sz98, Nn98, Hs98⟩ := id c99
  have FC98 : FitC Z cl98 := fitC_of Ar98 fun i hi v hv => by rw [(Hs98 i hi).1] at hv; cases hv; exact (Hs98 i hi).2
  obtain ⟨T100, h100, X100, e100, E100, A100, B100, st100⟩ := cloneA X97 hx hZ hown (hw _ (List.mem_of_getElem? (i := 31) rfl)) (hw _ (List.mem_of_getElem? (i := 32) rfl)) (hw _ (List.mem_of_getElem? (i := 36) rfl)) (hw _ (List.mem_of_getElem? (i := 34) rfl)) (hw _ (List.mem_of_getElem? (i := 35) rfl)) (hw _ (List.mem_of_getElem? (i := 37) rfl)) e97 Ar98 ((((c80.ext E75).wr W85).ext E88).wr W93) FC98 (g := (mkF m 233 #[.val (.ref o0), .val (.int p1), .val (.int p2), .val (.ref o3), .val (.ref o4), .val (.ref o5), .val (.ref o6), .val (.int (0 : Int32)), .val (.int i37x), .unset, .unset] [(.ref b24)])) rfl (by rw [hml]; rfl) rfl (hb hby d2_233) (by decide) (W := 0) (cap := 17) (by show 2 * 0 + _ ≤ _; exact Nat.le_of_eq rfl) (by decide) (by rw [Sz98]; exact own_cap hn) (by decide) (by decide)
  obtain ⟨b100, g100⟩ : ∃ z, z = h93.size := ⟨_, rfl⟩
  rw [← g100] at A100 B100 st100
  have g_b100 : n0 ≤ b100 := Nat.le_trans Z95 (Nat.le_of_eq g100.symm)
  have sz_b100 : h0.size ≤ b100 := Nat.le_trans K94.1 (Nat.le_of_eq g100.symm)
  have c101 := (((((((c63.wr W65).ext E68).wr W72).ext E75).wr W85).ext E88).wr W93)
  have ne_o0_b100 : o0 ≠ b100 := Nat.ne_of_lt (Nat.lt_of_lt_of_le c101.lt (Nat.le_of_eq g100.symm))
  have c102 := ((((c76.ext E75).other W85 (Ne.symm ne_o0_o3)).ext E88).other W93 (Ne.symm ne_o0_o3))
  have ne_o3_b100 : o3 ≠ b100 := Nat.ne_of_lt (Nat.lt_of_lt_of_le c102.lt (Nat.le_of_eq g100.symm))
  have c103 := ((((c77.ext E75).other W85 (Ne.symm ne_o0_o4)).ext E88).other W93 (Ne.symm ne_o0_o4))
  have ne_o4_b100 : o4 ≠ b100 := Nat.ne_of_lt (Nat.lt_of_lt_of_le c103.lt (Nat.le_of_eq g100.symm))
  have c104 := ((((c78.ext E75).other W85 (Ne.symm ne_o0_o5)).ext E88).other W93 (Ne.symm ne_o0_o5))
  have ne_o5_b100 : o5 ≠ b100 := Nat.ne_of_lt (Nat.lt_of_lt_of_le c104.lt (Nat.le_of_eq g100.symm))
  have c105 := ((((c79.ext E75).other W85 (Ne.symm ne_o0_o6)).ext E88).other W93 (Ne.symm ne_o0_o6))
  have ne_o6_b100 : o6 ≠ b100 := Nat.ne_of_lt (Nat.lt_of_lt_of_le c105.lt (Nat.le_of_eq g100.symm))
  have ne_b24_b100 : b24 ≠ b100 := Nat.ne_of_lt (Nat.lt_of_lt_of_le ((((c80.ext E75).wr W85).ext E88).wr W93).lt (Nat.le_of_eq g100.symm))
  have c106 := ((((c81.ext E75).other W85 (Ne.symm ne_o0_b56)).ext E88).other W93 (Ne.symm ne_o0_b56))
  have ne_b56_b100 : b56 ≠ b100 := Nat.ne_of_lt (Nat.lt_of_lt_of_le c106.lt (Nat.le_of_eq g100.symm))
  have ne_b68_b100 : b68 ≠ b100 := Nat.ne_of_lt (Nat.lt_of_lt_of_le ((c89.ext E88).other W93 (Ne.symm ne_o0_b68)).lt (Nat.le_of_eq g100.symm))
  have c107 := (((V_b75.other W85 (Ne.symm ne_o0_b75)).ext E88).other W93 (Ne.symm ne_o0_b75))
  have ne_b75_b100 : b75 ≠ b100 := Nat.ne_of_lt (Nat.lt_of_lt_of_le c107.lt (Nat.le_of_eq g100.symm))
  have ne_b88_b100 : b88 ≠ b100 := Nat.ne_of_lt (Nat.lt_of_lt_of_le (V_b88.other W93 (Ne.symm ne_o0_b88)).lt (Nat.le_of_eq g100.symm))
  have K108 : Keep h0 h100 [o0] := K94.ext E100
  have Z109 : n0 ≤ h100.size := Nat.le_trans Z0 K108.1
  have E_b100 := B100
  have V_b100 : own_AI Z h100 b100 .int (p1 + (2 : Int32)) F37_0x := ⟨_, A100, Sz98, Nn98, Hs98⟩
  obtain ⟨T110, X110, e110, st110⟩ := castY X100 hx hZ hown (hw _ (List.mem_of_getElem? (i := 38) rfl)) e100 (Ins.self E_b100) (g := (mkF m 236 #[.val (.ref o0), .val (.int p1), .val (.int p2), .val (.ref o3), .val (.ref o4), .val (.ref o5), .val (.ref o6), .val (.int (0 : Int32)), .val (.int i37x), .unset, .unset] [(.ref b100)])) rfl rfl (hb hby d2_236)
  have pre111 : ∀ t, Steps p.tables e below (T110.setTop (mkF m 248 #[.val (.ref o0), .val (.int p1), .val (.int p2), .val (.ref o3), .val (.ref o4), .val (.ref o5), .val (.ref o6), .val (.int (0 : Int32)), .val (.ref b100), .val (.int (0 : Int32)), .unset] [(.int (0 : Int32)), (.int (0 : Int32))])) t → Steps p.tables e below (s₁.setTop (entryFrame m #[(.ref o0), (.int p1), (.int p2), (.ref o3), (.ref o4), (.ref o5), (.ref o6)] 11)) t := fun t kt => pre36 t (by
      show Steps p.tables e below (T32.setTop (mkF m 162 #[.val (.ref o0), .val (.int p1), .val (.int p2), .val (.ref o3), .val (.ref o4), .val (.ref o5), .val (.ref o6), .val (.int (0 : Int32)), .val (.int (1 : Int32)), .unset, .unset] [])) _
      refine st37 _ ?_
      show Steps p.tables e below (T37.setTop (mkF m 197 #[.val (.ref o0), .val (.int p1), .val (.int p2), .val (.ref o3), .val (.ref o4), .val (.ref o5), .val (.ref o6), .val (.int (0 : Int32)), .val (.int i37x), .unset, .unset] [])) _
      refine XS.aloadN X37.here hx rfl (hb hby d2_197) rfl rfl ?_
      show Steps p.tables e below (T37.setTop (mkF m 198 #[.val (.ref o0), .val (.int p1), .val (.int p2), .val (.ref o3), .val (.ref o4), .val (.ref o5), .val (.ref o6), .val (.int (0 : Int32)), .val (.int i37x), .unset, .unset] [(.ref o0)])) _
      refine XS.iload X37.here hx rfl (hb hby d2_198) rfl ?_
      show Steps p.tables e below (T37.setTop (mkF m 200 #[.val (.ref o0), .val (.int p1), .val (.int p2), .val (.ref o3), .val (.ref o4), .val (.ref o5), .val (.ref o6), .val (.int (0 : Int32)), .val (.int i37x), .unset, .unset] [(.int (0 : Int32)), (.ref o0)])) _
      refine st56 _ ?_
      show Steps p.tables e below (T56.setTop (mkF m 202 #[.val (.ref o0), .val (.int p1), .val (.int p2), .val (.ref o3), .val (.ref o4), .val (.ref o5), .val (.ref o6), .val (.int (0 : Int32)), .val (.int i37x), .unset, .unset] [(.ref b56), (.ref o0)])) _
      refine st65 _ ?_
      show Steps p.tables e below (T65.setTop (mkF m 205 #[.val (.ref o0), .val (.int p1), .val (.int p2), .val (.ref o3), .val (.ref o4), .val (.ref o5), .val (.ref o6), .val (.int (0 : Int32)), .val (.int i37x), .unset, .unset] [])) _
      refine XS.aloadN X65.here hx rfl (hb hby d2_205) rfl rfl ?_
      show Steps p.tables e below (T65.setTop (mkF m 206 #[.val (.ref o0), .val (.int p1), .val (.int p2), .val (.ref o3), .val (.ref o4), .val (.ref o5), .val (.ref o6), .val (.int (0 : Int32)), .val (.int i37x), .unset, .unset] [(.ref o0)])) _
      refine XS.iload X65.here hx rfl (hb hby d2_206) rfl ?_
      show Steps p.tables e below (T65.setTop (mkF m 208 #[.val (.ref o0), .val (.int p1), .val (.int p2), .val (.ref o3), .val (.ref o4), .val (.ref o5), .val (.ref o6), .val (.int (0 : Int32)), .val (.int i37x), .unset, .unset] [(.int (0 : Int32)), (.ref o0)])) _
      refine st68 _ ?_
      show Steps p.tables e below (T68.setTop (mkF m 210 #[.val (.ref o0), .val (.int p1), .val (.int p2), .val (.ref o3), .val (.ref o4), .val (.ref o5), .val (.ref o6), .val (.int (0 : Int32)), .val (.int i37x), .unset, .unset] [(.ref b68), (.ref o0)])) _
      refine st72 _ ?_
      show Steps p.tables e below (T72.setTop (mkF m 213 #[.val (.ref o0), .val (.int p1), .val (.int p2), .val (.ref o3), .val (.ref o4), .val (.ref o5), .val (.ref o6), .val (.int (0 : Int32)), .val (.int i37x), .unset, .unset] [])) _
      refine XS.aloadN X72.here hx rfl (hb hby d2_213) rfl rfl ?_
      show Steps p.tables e below (T72.setTop (mkF m 214 #[.val (.ref o0), .val (.int p1), .val (.int p2), .val (.ref o3), .val (.ref o4), .val (.ref o5), .val (.ref o6), .val (.int (0 : Int32)), .val (.int i37x), .unset, .unset] [(.ref o0)])) _
      refine XS.iload X72.here hx rfl (hb hby d2_214) rfl ?_
      show Steps p.tables e below (T72.setTop (mkF m 216 #[.val (.ref o0), .val (.int p1), .val (.int p2), .val (.ref o3), .val (.ref o4), .val (.ref o5), .val (.ref o6), .val (.int (0 : Int32)), .val (.int i37x), .unset, .unset] [(.int (0 : Int32)), (.ref o0)])) _
      refine st75 _ ?_
      show Steps p.tables e below (T75.setTop (mkF m 218 #[.val (.ref o0), .val (.int p1), .val (.int p2), .val (.ref o3), .val (.ref o4), .val (.ref o5), .val (.ref o6), .val (.int (0 : Int32)), .val (.int i37x), .unset, .unset] [(.ref b75), (.ref o0)])) _
      refine st85 _ ?_
      show Steps p.tables e below (T85.setTop (mkF m 221 #[.val (.ref o0), .val (.int p1), .val (.int p2), .val (.ref o3), .val (.ref o4), .val (.ref o5), .val (.ref o6), .val (.int (0 : Int32)), .val (.int i37x), .unset, .unset] [])) _
      refine XS.aloadN X85.here hx rfl (hb hby d2_221) rfl rfl ?_
      show Steps p.tables e below (T85.setTop (mkF m 222 #[.val (.ref o0), .val (.int p1), .val (.int p2), .val (.ref o3), .val (.ref o4), .val (.ref o5), .val (.ref o6), .val (.int (0 : Int32)), .val (.int i37x), .unset, .unset] [(.ref o0)])) _
      refine XS.iload X85.here hx rfl (hb hby d2_222) rfl ?_
      show Steps p.tables e below (T85.setTop (mkF m 224 #[.val (.ref o0), .val (.int p1), .val (.int p2), .val (.ref o3), .val (.ref o4), .val (.ref o5), .val (.ref o6), .val (.int (0 : Int32)), .val (.int i37x), .unset, .unset] [(.int (0 : Int32)), (.ref o0)])) _
      refine st88 _ ?_
      show Steps p.tables e below (T88.setTop (mkF m 226 #[.val (.ref o0), .val (.int p1), .val (.int p2), .val (.ref o3), .val (.ref o4), .val (.ref o5), .val (.ref o6), .val (.int (0 : Int32)), .val (.int i37x), .unset, .unset] [(.ref b88), (.ref o0)])) _
      refine st93 _ ?_
      show Steps p.tables e below (T93.setTop (mkF m 229 #[.val (.ref o0), .val (.int p1), .val (.int p2), .val (.ref o3), .val (.ref o4), .val (.ref o5), .val (.ref o6), .val (.int (0 : Int32)), .val (.int i37x), .unset, .unset] [])) _
      refine XS.aloadN X93.here hx rfl (hb hby d2_229) rfl rfl ?_
      show Steps p.tables e below (T93.setTop (mkF m 230 #[.val (.ref o0), .val (.int p1), .val (.int p2), .val (.ref o3), .val (.ref o4), .val (.ref o5), .val (.ref o6), .val (.int (0 : Int32)), .val (.int i37x), .unset, .unset] [(.ref o0)])) _
      refine st97 _ ?_
      show Steps p.tables e below (T97.setTop (mkF m 233 #[.val (.ref o0), .val (.int p1), .val (.int p2), .val (.ref o3), .val (.ref o4), .val (.ref o5), .val (.ref o6), .val (.int (0 : Int32)), .val (.int i37x), .unset, .unset] [(.ref b24)])) _
      refine st100 _ ?_
      show Steps p.tables e below (T100.setTop (mkF m 236 #[.val (.ref o0), .val (.int p1), .val (.int p2), .val (.ref o3), .val (.ref o4), .val (.ref o5), .val (.ref o6), .val (.int (0 : Int32)), .val (.int i37x), .unset, .unset] [(.ref b100)])) _
      refine st110 _ ?_
      show Steps p.tables e below (T110.setTop (mkF m 239 #[.val (.ref o0), .val (.int p1), .val (.int p2), .val (.ref o3), .val (.ref o4), .val (.ref o5), .val (.ref o6), .val (.int (0 : Int32)), .val (.int i37x), .unset, .unset] [(.ref b100)])) _
      refine XS.astore X110.here hx rfl (hb hby d2_239) rfl rfl (l' := #[.val (.ref o0), .val (.int p1), .val (.int p2), .val (.ref o3), .val (.ref o4), .val (.ref o5), .val (.ref o6), .val (.int (0 : Int32)), .val (.ref b100), .unset, .unset]) rfl ?_
      show Steps p.tables e below (T110.setTop (mkF m 241 #[.val (.ref o0), .val (.int p1), .val (.int p2), .val (.ref o3), .val (.ref o4), .val (.ref o5), .val (.ref o6), .val (.int (0 : Int32)), .val (.ref b100), .unset, .unset] [])) _
      refine XS.iconst X110.here hx rfl (hb hby d2_241) ?_
      show Steps p.tables e below (T110.setTop (mkF m 242 #[.val (.ref o0), .val (.int p1), .val (.int p2), .val (.ref o3), .val (.ref o4), .val (.ref o5), .val (.ref o6), .val (.int (0 : Int32)), .val (.ref b100), .unset, .unset] [(.int (0 : Int32))])) _
      refine XS.istore X110.here hx rfl (hb hby d2_242) rfl (l' := #[.val (.ref o0), .val (.int p1), .val (.int p2), .val (.ref o3), .val (.ref o4), .val (.ref o5), .val (.ref o6), .val (.int (0 : Int32)), .val (.ref b100), .val (.int (0 : Int32)), .unset]) rfl ?_
      show Steps p.tables e below (T110.setTop (mkF m 244 #[.val (.ref o0), .val (.int p1), .val (.int p2), .val (.ref o3), .val (.ref o4), .val (.ref o5), .val (.ref o6), .val (.int (0 : Int32)), .val (.ref b100), .val (.int (0 : Int32)), .unset] [])) _
      refine XS.iload X110.here hx rfl (hb hby d2_244) rfl ?_
      show Steps p.tables e below (T110.setTop (mkF m 246 #[.val (.ref o0), .val (.int p1), .val (.int p2), .val (.ref o3), .val (.ref o4), .val (.ref o5), .val (.ref o6), .val (.int (0 : Int32)), .val (.ref b100), .val (.int (0 : Int32)), .unset] [(.int (0 : Int32))])) _
      refine XS.iload X110.here hx rfl (hb hby d2_246) rfl ?_
      exact kt)
  obtain ⟨fs, hr, hrun, hended, hW, hsame⟩ := X110.leave (v := none) (fun _ => rfl)
  have c112 := (((((((((((((Fw16.other W21 (Or.inr (slot_ne (Or.inr (hw _ (List.mem_of_getElem? (i := 18) rfl))) (Or.inr (hw _ (List.mem_of_getElem? (i := 20) rfl))) (by decide) (t := .int) (t' := .int) (by decide) (by decide)))).ext E24).other W32 (Or.inr (slot_ne (Or.inr (hw _ (List.mem_of_getElem? (i := 18) rfl))) (Or.inr (hw _ (List.mem_of_getElem? (i := 22) rfl))) (by decide) (t := .int) (t' := (.array .int)) (by decide) (by decide)))).keep Kx37 (ninS ne_o0_b24 nin0)).ext E56).other W65 (Or.inr (slot_ne (Or.inr (hw _ (List.mem_of_getElem? (i := 18) rfl))) (Or.inr (hw _ (List.mem_of_getElem? (i := 24) rfl))) (by decide) (t := .int) (t' := (.array .int)) (by decide) (by decide)))).ext E68).other W72 (Or.inr (slot_ne (Or.inr (hw _ (List.mem_of_getElem? (i := 18) rfl))) (Or.inr (hw _ (List.mem_of_getElem? (i := 26) rfl))) (by decide) (t := .int) (t' := (.array .int)) (by decide) (by decide)))).ext E75).other W85 (Or.inr (slot_ne (Or.inr (hw _ (List.mem_of_getElem? (i := 18) rfl))) (Or.inr (hw _ (List.mem_of_getElem? (i := 28) rfl))) (by decide) (t := .int) (t' := (.array .double)) (by decide) (by decide)))).ext E88).other W93 (Or.inr (slot_ne (Or.inr (hw _ (List.mem_of_getElem? (i := 18) rfl))) (Or.inr (hw _ (List.mem_of_getElem? (i := 30) rfl))) (by decide) (t := .int) (t' := (.array .double)) (by decide) (by decide)))).ext E100)
  have c113 := ((((((((((((Fw21.ext E24).other W32 (Or.inr (slot_ne (Or.inr (hw _ (List.mem_of_getElem? (i := 20) rfl))) (Or.inr (hw _ (List.mem_of_getElem? (i := 22) rfl))) (by decide) (t := .int) (t' := (.array .int)) (by decide) (by decide)))).keep Kx37 (ninS ne_o0_b24 nin0)).ext E56).other W65 (Or.inr (slot_ne (Or.inr (hw _ (List.mem_of_getElem? (i := 20) rfl))) (Or.inr (hw _ (List.mem_of_getElem? (i := 24) rfl))) (by decide) (t := .int) (t' := (.array .int)) (by decide) (by decide)))).ext E68).other W72 (Or.inr (slot_ne (Or.inr (hw _ (List.mem_of_getElem? (i := 20) rfl))) (Or.inr (hw _ (List.mem_of_getElem? (i := 26) rfl))) (by decide) (t := .int) (t' := (.array .int)) (by decide) (by decide)))).ext E75).other W85 (Or.inr (slot_ne (Or.inr (hw _ (List.mem_of_getElem? (i := 20) rfl))) (Or.inr (hw _ (List.mem_of_getElem? (i := 28) rfl))) (by decide) (t := .int) (t' := (.array .double)) (by decide) (by decide)))).ext E88).other W93 (Or.inr (slot_ne (Or.inr (hw _ (List.mem_of_getElem? (i := 20) rfl))) (Or.inr (hw _ (List.mem_of_getElem? (i := 30) rfl))) (by decide) (t := .int) (t' := (.array .double)) (by decide) (by decide)))).ext E100)
  refine ⟨_, _, pre111 _ ?_, hrun, hended, _, _, rfl, ?_, ⟨_, rfl⟩, hW, hsame.mono (by decide) (by decide)⟩
  · show Steps p.tables e below (T110.setTop (mkF m 248 #[.val (.ref o0), .val (.int p1), .val (.int p2), .val (.ref o3), .val (.ref o4), .val (.ref o5), .val (.ref o6), .val (.int (0 : Int32)), .val (.ref b100), .val (.int (0 : Int32)), .unset] [(.int (0 : Int32)), (.int (0 : Int32))])) _
    refine XS.icmpYes X110.here hx rfl (pc0 := 248) (pc' := 318) rfl (hb hby d2_248) rfl (flt (by decide : ¬ ((0 : Int32) < (0 : Int32)))).2.1 (by decide) (by decide) ?_
    show Steps p.tables e below (T110.setTop (mkF m 318 #[.val (.ref o0), .val (.int p1), .val (.int p2), .val (.ref o3), .val (.ref o4), .val (.ref o5), .val (.ref o6), .val (.int (0 : Int32)), .val (.ref b100), .val (.int (0 : Int32)), .unset] [])) _
    exact X110.returnOut hx Bd.returns (hb hby d2_318) hr
  · show Q2 Z o0 p1 p2 o3 o4 o5 o6 F3 F4 w15 w19 h0 n0 _ T110.heap _
    rw [e110]
    exact ⟨rfl, N93, K108, c112, c113⟩
theorem d5_0 : decode prog_22_method_8_code 0 = .ok (.iload_n 1, 1) := by decide +kernel
theorem d5_1 : decode prog_22_method_8_code 1 = .ok (.aload_n 0, 1) := by decide +kernel
theorem d5_2 : decode prog_22_method_8_code 2 = .ok (.getfield 27, 3) := by decide +kernel
theorem d5_5 : decode prog_22_method_8_code 5 = .ok (.if_icmp .ge 7, 3) := by decide +kernel
theorem d5_8 : decode prog_22_method_8_code 8 = .ok (.iconst 1, 1) := by decide +kernel
theorem d5_9 : decode prog_22_method_8_code 9 = .ok (.goto 4, 3) := by decide +kernel
theorem d5_12 : decode prog_22_method_8_code 12 = .ok (.iconst 0, 1) := by decide +kernel
theorem d5_13 : decode prog_22_method_8_code 13 = .ok (.ireturn, 1) := by decide +kernel
theorem pn_5 : plainName "com/example/cabweave/cabweave/Network" = true := by first | (simp [plainName, overriddenIn]; done) | decide +kernel
theorem ef_5 (m : MethodId) (x0 : Addr) (x1 : Int32) : entryFrame m #[(.ref x0), (.int x1)] 2 = mkF m 0 #[.val (.ref x0), .val (.int x1)] [] := by first | (simp [entryFrame, mkF, argsToLocals, Value.category]; done) | rfl
def f5 (p1 : Int32) (w1 : Int32) : Int32 :=
  if p1 < w1 then ((1 : Int32)) else
  ((0 : Int32))
def Q5 (Z : State) (o0 : Addr) (p1 : Int32) (w1 : Int32) (h0 : Heap) (n0 : Nat) (v : Option Value) (h : Heap) (L : List Loc) : Prop := v = some (.int (f5 p1 w1)) ∧ Fr n0 L ∧ h = h0
set_option maxRecDepth 65536 in
set_option maxHeartbeats 40000000 in
theorem rm5 (l : Launch) (Z : State) (a0 : Array Value) (hw : ∀ d ∈ tables_1, d.before a0 Z = true) (ws : List Jvm.Cond) (o0 : Addr) (p1 : Int32) (w1 : Int32) (h0 : Heap) (n0 : Nat) (Z0 : n0 ≤ h0.size) (F_firstThruNode_o0 : Fld Z h0 o0 "com/example/cabweave/cabweave/Network" "firstThruNode" "I" (.int w1)) :
    MetFree l (⟨"com/example/cabweave/cabweave/Network", "isZone", "(I)Z"⟩ : MethodName) (head1 (Jvm.Cond.code (⟨"com/example/cabweave/cabweave/Network", "isZone", "(I)Z"⟩ : MethodName) prog_22_method_8_code 2 (some .boolean) :: ws) ({ frames := 0, cells := 0, slots := 0, locals := 0 } : Room)) (fun a U => a = #[(.ref o0), (.int p1)] ∧ Z.Warmed39 U.vm ∧ U.heap = h0) (fun _ _ _ _ _ => True) (fun _ U o U' => ∃ v L, o = .returned v ∧ Q5 Z o0 p1 w1 h0 n0 v U'.heap L ∧ FrameEnd U o U' L ({ frames := 0, cells := 0, slots := 0, locals := 0 } : Room).cells ({ frames := 0, cells := 0, slots := 0, locals := 0 } : Room).slots) := by
  refine MetFree.of_bodySF (plainFor_of_name pn_5) hisR ?_
  intro p e s m args below meth c s₁ Bd hml0 hP hK
  obtain ⟨rfl, hZ, hh⟩ := hP
  have hx := Bd.exec
  have hby := Bd.bytes
  have hml : c.maxLocals = 2 := hml0
  have hown : s.vm.findClass "com/example/cabweave/cabweave/Network" = some m.cls := findClass_of_methodNamed Bd.named
  have hnm := (name_of_methodNamed Bd.named Bd.method).1
  have X0 : Stand p l e ({ frames := 0, cells := 0, slots := 0, locals := 0 } : Room) s m #[(.ref o0), (.int p1)] below meth c s₁ [] 0 0 := Stand.of_body Bd
  have e0 : s₁.heap = h0 := by rw [← hh, Bd.state]; rfl
  have N0 := Fr.nil n0
  have pre0 : ∀ t, Steps p.tables e below (s₁.setTop (mkF m 0 #[.val (.ref o0), .val (.int p1)] [])) t → Steps p.tables e below (s₁.setTop (entryFrame m #[(.ref o0), (.int p1)] 2)) t := fun t k => castTop (ef_5 m o0 p1) k
  obtain ⟨T2, X2, e2, st2⟩ := getF X0 hx hZ hown (host := "") (Or.inl (hw _ (List.mem_of_getElem? (i := 19) rfl))) Via.refl e0 F_firstThruNode_o0 (g := (mkF m 2 #[.val (.ref o0), .val (.int p1)] [(.ref o0), (.int p1)])) rfl rfl (hb hby d5_2)
  have pre3 : ∀ t, Steps p.tables e below (T2.setTop (mkF m 5 #[.val (.ref o0), .val (.int p1)] [(.int w1), (.int p1)])) t → Steps p.tables e below (s₁.setTop (entryFrame m #[(.ref o0), (.int p1)] 2)) t := fun t kt => pre0 t (by
      show Steps p.tables e below (s₁.setTop (mkF m 0 #[.val (.ref o0), .val (.int p1)] [])) _
      refine XS.iloadN X0.here hx rfl (hb hby d5_0) rfl ?_
      show Steps p.tables e below (s₁.setTop (mkF m 1 #[.val (.ref o0), .val (.int p1)] [(.int p1)])) _
      refine XS.aloadN X0.here hx rfl (hb hby d5_1) rfl rfl ?_
      show Steps p.tables e below (s₁.setTop (mkF m 2 #[.val (.ref o0), .val (.int p1)] [(.ref o0), (.int p1)])) _
      refine st2 _ ?_
      exact kt)
  by_cases hc5_4 : p1 < w1
  · obtain ⟨fs, hr, hrun, hended, hW, hsame⟩ := X2.leave (v := some (.int (1 : Int32))) (fun h => by rw [Bd.returns] at h; cases h)
    have hv5 : (f5 p1 w1) = (1 : Int32) := by rw [f5, if_pos hc5_4]
    refine ⟨_, _, pre3 _ ?_, hrun, hended, _, _, rfl, ?_, ⟨_, rfl⟩, hW, hsame.mono (by decide) (by decide)⟩
    · show Steps p.tables e below (T2.setTop (mkF m 5 #[.val (.ref o0), .val (.int p1)] [(.int w1), (.int p1)])) _
      refine XS.icmpNo X2.here hx rfl (hb hby d5_5) rfl (tlt hc5_4).2.1 ?_
      show Steps p.tables e below (T2.setTop (mkF m 8 #[.val (.ref o0), .val (.int p1)] [])) _
      refine XS.iconst X2.here hx rfl (hb hby d5_8) ?_
      show Steps p.tables e below (T2.setTop (mkF m 9 #[.val (.ref o0), .val (.int p1)] [(.int (1 : Int32))])) _
      refine XS.goto X2.here hx rfl (pc0 := 9) (pc' := 13) rfl (hb hby d5_9) (by decide) (by decide) ?_
      show Steps p.tables e below (T2.setTop (mkF m 13 #[.val (.ref o0), .val (.int p1)] [(.int (1 : Int32))])) _
      exact retN X2 hx (t := .boolean) Bd.returns (by simp) (hb hby d5_13) hr
    · show Q5 Z o0 p1 w1 h0 n0 _ T2.heap _
      rw [e2]
      exact ⟨congrArg (fun q => some (Value.int q)) hv5.symm, N0, rfl⟩
  · obtain ⟨fs, hr, hrun, hended, hW, hsame⟩ := X2.leave (v := some (.int (0 : Int32))) (fun h => by rw [Bd.returns] at h; cases h)
    have hv6 : (f5 p1 w1) = (0 : Int32) := by rw [f5, if_neg hc5_4]
    refine ⟨_, _, pre3 _ ?_, hrun, hended, _, _, rfl, ?_, ⟨_, rfl⟩, hW, hsame.mono (by decide) (by decide)⟩
    · show Steps p.tables e below (T2.setTop (mkF m 5 #[.val (.ref o0), .val (.int p1)] [(.int w1), (.int p1)])) _
      refine XS.icmpYes X2.here hx rfl (pc0 := 5) (pc' := 12) rfl (hb hby d5_5) rfl (flt hc5_4).2.1 (by decide) (by decide) ?_
      show Steps p.tables e below (T2.setTop (mkF m 12 #[.val (.ref o0), .val (.int p1)] [])) _
      refine XS.iconst X2.here hx rfl (hb hby d5_12) ?_
      show Steps p.tables e below (T2.setTop (mkF m 13 #[.val (.ref o0), .val (.int p1)] [(.int (0 : Int32))])) _
      exact retN X2 hx (t := .boolean) Bd.returns (by simp) (hb hby d5_13) hr
    · show Q5 Z o0 p1 w1 h0 n0 _ T2.heap _
      rw [e2]
      exact ⟨congrArg (fun q => some (Value.int q)) hv6.symm, N0, rfl⟩
theorem d6_0 : decode prog_22_method_5_code 0 = .ok (.aload_n 0, 1) := by decide +kernel
theorem d6_1 : decode prog_22_method_5_code 1 = .ok (.getfield 27, 3) := by decide +kernel
theorem d6_4 : decode prog_22_method_5_code 4 = .ok (.ireturn, 1) := by decide +kernel
theorem pn_6 : plainName "com/example/cabweave/cabweave/Network" = true := by first | (simp [plainName, overriddenIn]; done) | decide +kernel
theorem ef_6 (m : MethodId) (x0 : Addr) : entryFrame m #[(.ref x0)] 1 = mkF m 0 #[.val (.ref x0)] [] := by first | (simp [entryFrame, mkF, argsToLocals, Value.category]; done) | rfl
def Q6 (Z : State) (o0 : Addr) (w1 : Int32) (h0 : Heap) (n0 : Nat) (v : Option Value) (h : Heap) (L : List Loc) : Prop := v = some (.int w1) ∧ Fr n0 L ∧ h = h0
set_option maxRecDepth 65536 in
set_option maxHeartbeats 40000000 in
theorem rm6 (l : Launch) (Z : State) (a0 : Array Value) (hw : ∀ d ∈ tables_1, d.before a0 Z = true) (ws : List Jvm.Cond) (o0 : Addr) (w1 : Int32) (h0 : Heap) (n0 : Nat) (Z0 : n0 ≤ h0.size) (F_firstThruNode_o0 : Fld Z h0 o0 "com/example/cabweave/cabweave/Network" "firstThruNode" "I" (.int w1)) :
    MetFree l (⟨"com/example/cabweave/cabweave/Network", "firstThruNode", "()I"⟩ : MethodName) (head1 (Jvm.Cond.code (⟨"com/example/cabweave/cabweave/Network", "firstThruNode", "()I"⟩ : MethodName) prog_22_method_5_code 1 (some .int) :: ws) ({ frames := 0, cells := 0, slots := 0, locals := 0 } : Room)) (fun a U => a = #[(.ref o0)] ∧ Z.Warmed39 U.vm ∧ U.heap = h0) (fun _ _ _ _ _ => True) (fun _ U o U' => ∃ v L, o = .returned v ∧ Q6 Z o0 w1 h0 n0 v U'.heap L ∧ FrameEnd U o U' L ({ frames := 0, cells := 0, slots := 0, locals := 0 } : Room).cells ({ frames := 0, cells := 0, slots := 0, locals := 0 } : Room).slots) := by
  refine MetFree.of_bodySF (plainFor_of_name pn_6) hisR ?_
  intro p e s m args below meth c s₁ Bd hml0 hP hK
  obtain ⟨rfl, hZ, hh⟩ := hP
  have hx := Bd.exec
  have hby := Bd.bytes
  have hml : c.maxLocals = 1 := hml0
  have hown : s.vm.findClass "com/example/cabweave/cabweave/Network" = some m.cls := findClass_of_methodNamed Bd.named
  have hnm := (name_of_methodNamed Bd.named Bd.method).1
  have X0 : Stand p l e ({ frames := 0, cells := 0, slots := 0, locals := 0 } : Room) s m #[(.ref o0)] below meth c s₁ [] 0 0 := Stand.of_body Bd
  have e0 : s₁.heap = h0 := by rw [← hh, Bd.state]; rfl
  have N0 := Fr.nil n0
  have pre0 : ∀ t, Steps p.tables e below (s₁.setTop (mkF m 0 #[.val (.ref o0)] [])) t → Steps p.tables e below (s₁.setTop (entryFrame m #[(.ref o0)] 1)) t := fun t k => castTop (ef_6 m o0) k
  obtain ⟨T2, X2, e2, st2⟩ := getF X0 hx hZ hown (host := "") (Or.inl (hw _ (List.mem_of_getElem? (i := 19) rfl))) Via.refl e0 F_firstThruNode_o0 (g := (mkF m 1 #[.val (.ref o0)] [(.ref o0)])) rfl rfl (hb hby d6_1)
  obtain ⟨fs, hr, hrun, hended, hW, hsame⟩ := X2.leave (v := some (.int w1)) (fun h => by rw [Bd.returns] at h; cases h)
  have hv3 : w1 = w1 := rfl
  refine ⟨_, _, pre0 _ ?_, hrun, hended, _, _, rfl, ?_, ⟨_, rfl⟩, hW, hsame.mono (by decide) (by decide)⟩
  · show Steps p.tables e below (s₁.setTop (mkF m 0 #[.val (.ref o0)] [])) _
    refine XS.aloadN X0.here hx rfl (hb hby d6_0) rfl rfl ?_
    show Steps p.tables e below (s₁.setTop (mkF m 1 #[.val (.ref o0)] [(.ref o0)])) _
    refine st2 _ ?_
    show Steps p.tables e below (T2.setTop (mkF m 4 #[.val (.ref o0)] [(.int w1)])) _
    exact retI X2 hx Bd.returns (hb hby d6_4) hr
  · show Q6 Z o0 w1 h0 n0 _ T2.heap _
    rw [e2]
    exact ⟨congrArg (fun q => some (Value.int q)) hv3.symm, N0, rfl⟩
theorem pn_0 : plainName "com/example/cabweave/cabweave/NetworkIsZonePinLaw" = true := by first | (simp [plainName, overriddenIn]; done) | decide +kernel
theorem pd_0_0 : parseMethodDescriptor "(II)I" = some ⟨[.int, .int], some .int⟩ := by decide +kernel
theorem pd_0_1 : parseMethodDescriptor "(II[I[I[D[D)V" = some ⟨[.int, .int, (.array .int), (.array .int), (.array .double), (.array .double)], none⟩ := by decide +kernel
theorem pd_0_2 : parseMethodDescriptor "(I)Z" = some ⟨[.int], some .boolean⟩ := by decide +kernel
theorem pd_0_3 : parseMethodDescriptor "()I" = some ⟨[], some .int⟩ := by decide +kernel
theorem ef_0 (m : MethodId) (x0 : Int32) (x1 : Int32) (x2 : Int32) (x3 : Int32) : entryFrame m #[(.int x0), (.int x1), (.int x2), (.int x3)] maxLocals = mkF m 0 #[.val (.int x0), .val (.int x1), .val (.int x2), .val (.int x3), .unset, .unset, .unset, .unset, .unset, .unset, .unset, .unset, .unset, .unset] [] := by first | (simp [entryFrame, mkF, argsToLocals, Value.category, maxLocals]; done) | rfl
def e0_1 (p1 : Int32) : Int32 := (f5 ((f1 (1 : Int32) (p1 &&& (2147483647 : Int32))) - (1 : Int32)) (f1 (1 : Int32) (p1 &&& (2147483647 : Int32))))
def e0_2 (p1 : Int32) : Int32 := (f5 (f1 (1 : Int32) (p1 &&& (2147483647 : Int32))) (f1 (1 : Int32) (p1 &&& (2147483647 : Int32))))
def e0_3 (p1 : Int32) (p2 : Int32) (p3 : Int32) : Int32 := (f5 (f1 p2 p3) (f1 (1 : Int32) (p1 &&& (2147483647 : Int32))))
def e0_4 (p1 : Int32) (p2 : Int32) (p3 : Int32) : Int32 := (f5 (f4 p2 p3) (f1 (1 : Int32) (p1 &&& (2147483647 : Int32))))
def f0 (p1 : Int32) (p2 : Int32) (p3 : Int32) : Int32 :=
  if (e0_3 p1 p2 p3) = (0 : Int32) then (if (e0_1 p1) = (0 : Int32) then ((0 : Int32)) else
  (if (e0_2 p1) = (0 : Int32) then (if (f1 (1 : Int32) (p1 &&& (2147483647 : Int32))) = (f1 (1 : Int32) (p1 &&& (2147483647 : Int32))) then ((1 : Int32)) else
  ((0 : Int32))) else
  ((0 : Int32)))) else
  (if (e0_4 p1 p2 p3) = (0 : Int32) then (if (e0_1 p1) = (0 : Int32) then ((0 : Int32)) else
  (if (e0_2 p1) = (0 : Int32) then ((0 : Int32)) else
  ((0 : Int32)))) else
  (if (e0_1 p1) = (0 : Int32) then ((0 : Int32)) else
  (if (e0_2 p1) = (0 : Int32) then (if (f1 (1 : Int32) (p1 &&& (2147483647 : Int32))) = (f1 (1 : Int32) (p1 &&& (2147483647 : Int32))) then ((1 : Int32)) else
  ((0 : Int32))) else
  ((0 : Int32)))))
theorem own_f5 (x n : Int32) : f5 x n = if x.toInt < n.toInt then 1 else 0 := by
  unfold f5
  simp only [Int32.lt_iff_toInt_lt]
theorem own_law (p1 p2 p3 : Int32) : f0 p1 p2 p3 = 1 := by
  have hf := own_f1 (p1 &&& 2147483647)
  have e1 : (1 : Int32).toInt = 1 := by decide
  have e0 : (0 : Int32).toInt = 0 := by decide
  unfold f0 e0_1 e0_2 e0_3 e0_4
  generalize f1 1 (p1 &&& 2147483647) = f at *
  have b1 := c_isub f 1
  have b2 := rng32 (f - 1)
  have b3 := rng32 f
  rw [e1] at b1
  have h1 : f5 (f - 1) f = 1 := by rw [own_f5, if_pos (by omega)]
  have h2 : f5 f f = 0 := by rw [own_f5, if_neg (by omega)]
  have h3 : (f4 p2 p3).toInt ≤ (f1 p2 p3).toInt := by
    unfold f4 f1
    simp only [Int32.lt_iff_toInt_lt]
    repeat' split
    all_goals omega
  rw [h1, h2]
  have h4 : f5 (f1 p2 p3) f = 0 ∨ f5 (f4 p2 p3) f = 1 := by
    rw [own_f5, own_f5]
    by_cases q : (f1 p2 p3).toInt < f.toInt
    · right; rw [if_pos (by omega)]
    · left; rw [if_neg q]
  rcases h4 with h | h
  · simp [h]
  · by_cases q : f5 (f1 p2 p3) f = 0 <;> simp [h, q]
def Q0 (Z : State) (p0 : Int32) (p1 : Int32) (p2 : Int32) (p3 : Int32) (h0 : Heap) (n0 : Nat) (v : Option Value) (h : Heap) (L : List Loc) : Prop := v = some (.int (f0 p1 p2 p3)) ∧ Fr n0 L
set_option maxRecDepth 65536 in
set_option maxHeartbeats 40000000 in
theorem rm0 (l : Launch) (Z : State) (a0 : Array Value) (hw : ∀ d ∈ tables_1, d.before a0 Z = true) (ws : List Jvm.Cond) (p0 : Int32) (p1 : Int32) (p2 : Int32) (p3 : Int32) (h0 : Heap) (n0 : Nat) (Z0 : n0 ≤ h0.size) :
    MetFree l x (head1 (Jvm.Cond.code x code maxLocals ret :: ws) room_1) (fun a U => a = #[(.int p0), (.int p1), (.int p2), (.int p3)] ∧ Z.Warmed39 U.vm ∧ U.heap = h0) (fun _ _ _ _ _ => True) (fun _ U o U' => ∃ v L, o = .returned v ∧ Q0 Z p0 p1 p2 p3 h0 n0 v U'.heap L ∧ FrameEnd U o U' L room_1.cells room_1.slots) := by
  refine MetFree.of_bodySF (plainFor_of_name pn_0) hisR ?_
  intro p e s m args below meth c s₁ Bd hml0 hP hK
  obtain ⟨rfl, hZ, hh⟩ := hP
  have hx := Bd.exec
  have hby := Bd.bytes
  have hml : c.maxLocals = 14 := hml0
  have hown : s.vm.findClass "com/example/cabweave/cabweave/NetworkIsZonePinLaw" = some m.cls := findClass_of_methodNamed Bd.named
  have hnm := (name_of_methodNamed Bd.named Bd.method).1
  have X0 : Stand p l e room_1 s m #[(.int p0), (.int p1), (.int p2), (.int p3)] below meth c s₁ [] 0 0 := Stand.of_body Bd
  have e0 : s₁.heap = h0 := by rw [← hh, Bd.state]; rfl
  have N0 := Fr.nil n0
  have pre0 : ∀ t, Steps p.tables e below (s₁.setTop (mkF m 0 #[.val (.int p0), .val (.int p1), .val (.int p2), .val (.int p3), .unset, .unset, .unset, .unset, .unset, .unset, .unset, .unset, .unset, .unset] [])) t → Steps p.tables e below (s₁.setTop (entryFrame m #[(.int p0), (.int p1), (.int p2), (.int p3)] maxLocals)) t := fun t k => castTop (ef_0 m p0 p1 p2 p3) k
  obtain ⟨_, _, ⟨T1, L1, k1, n1⟩, -, X1, ⟨Lc1, hQ1, l1, y1, z1⟩, st1⟩ := Jvm.LawKit.callS X0 hx (y := (⟨"java/lang/Math", "max", "(II)I"⟩ : MethodName)) hown (mvT hZ (hw _ (List.mem_of_getElem? (i := 1) rfl))) (mvT hZ (hw _ (List.mem_of_getElem? (i := 2) rfl))) (mvT hZ (hw _ (List.mem_of_getElem? (i := 3) rfl))) (mvT hZ (hw _ (List.mem_of_getElem? (i := 4) rfl))) (by decide) (backOf (W := 0) (rm1 l Z a0 hw [] (1 : Int32) (p1 &&& (2147483647 : Int32)) h0 n0 Z0 ) hZ (hw _ (List.mem_of_getElem? (i := 4) rfl)) (hw _ (List.mem_of_getElem? (i := 3) rfl)) (by decide) (by decide)) (g := (mkF m 11 #[.val (.int p0), .val (.int p1), .val (.int p2), .val (.int p3), .val (.int (p0 &&& (15 : Int32))), .unset, .unset, .unset, .unset, .unset, .unset, .unset, .unset, .unset] [(.int (p1 &&& (2147483647 : Int32))), (.int (1 : Int32))])) rfl (by rw [hml]; rfl) (argsL := [(.int (1 : Int32)), (.int (p1 &&& (2147483647 : Int32)))]) (rest := []) (lenOf pd_0_0 rfl) rfl (by show 2 * 0 + _ ≤ _; exact Nat.le_of_eq rfl) (hb hby at_11) (fun _ _ => ⟨rfl, e0, (by decide : 0 + 0 ≤ _), (by decide : 0 + 0 ≤ _)⟩)
  dsimp only [Pt.U, Pt.locs, Pt.cells, Pt.slots] at X1 l1 y1 z1 st1 hQ1
  subst l1 y1 z1
  obtain ⟨rfl, N1q, e1q⟩ := hQ1
  have N1 := Fr.app N0 N1q
  obtain ⟨T2, h2, X2, e2, E2, A2, D2, -, st2⟩ := newO X1 hx hZ hown (hw _ (List.mem_of_getElem? (i := 5) rfl)) (hw _ (List.mem_of_getElem? (i := 6) rfl)) (hw _ (List.mem_of_getElem? (i := 7) rfl)) e1q (g := (mkF m 16 #[.val (.int p0), .val (.int p1), .val (.int p2), .val (.int p3), .val (.int (p0 &&& (15 : Int32))), .val (.int (f1 (1 : Int32) (p1 &&& (2147483647 : Int32)))), .unset, .unset, .unset, .unset, .unset, .unset, .unset, .unset] [])) rfl (hb hby at_16) (by decide) (by decide)
  obtain ⟨b2, g2⟩ : ∃ z, z = h0.size := ⟨_, rfl⟩
  rw [← g2] at A2 D2 st2
  have g_b2 : n0 ≤ b2 := Nat.le_trans Z0 (Nat.le_of_eq g2.symm)
  have sz_b2 : h0.size ≤ b2 := Nat.le_trans (Keep.refl h0 []).1 (Nat.le_of_eq g2.symm)
  have K3 : Keep h0 h2 [] := (Keep.refl h0 []).ext E2
  have Z4 : n0 ≤ h2.size := Nat.le_trans Z0 K3.1
  have E_b2 := A2
  have F_nodeCount_b2 : Fld Z h2 b2 "com/example/cabweave/cabweave/Network" "nodeCount" "I" (.int (0 : Int32)) := D2 (Or.inr (hw _ (List.mem_of_getElem? (i := 18) rfl))) (ty := .int) (by decide)
  have F_firstThruNode_b2 : Fld Z h2 b2 "com/example/cabweave/cabweave/Network" "firstThruNode" "I" (.int (0 : Int32)) := D2 (Or.inr (hw _ (List.mem_of_getElem? (i := 20) rfl))) (ty := .int) (by decide)
  have F_firstOut_b2 : Fld Z h2 b2 "com/example/cabweave/cabweave/Network" "firstOut" "[I" .null := D2 (Or.inr (hw _ (List.mem_of_getElem? (i := 22) rfl))) (ty := (.array .int)) (by decide)
  have F_tail_b2 : Fld Z h2 b2 "com/example/cabweave/cabweave/Network" "tail" "[I" .null := D2 (Or.inr (hw _ (List.mem_of_getElem? (i := 24) rfl))) (ty := (.array .int)) (by decide)
  have F_head_b2 : Fld Z h2 b2 "com/example/cabweave/cabweave/Network" "head" "[I" .null := D2 (Or.inr (hw _ (List.mem_of_getElem? (i := 26) rfl))) (ty := (.array .int)) (by decide)
  have F_length_b2 : Fld Z h2 b2 "com/example/cabweave/cabweave/Network" "length" "[D" .null := D2 (Or.inr (hw _ (List.mem_of_getElem? (i := 28) rfl))) (ty := (.array .double)) (by decide)
  have F_time_b2 : Fld Z h2 b2 "com/example/cabweave/cabweave/Network" "time" "[D" .null := D2 (Or.inr (hw _ (List.mem_of_getElem? (i := 30) rfl))) (ty := (.array .double)) (by decide)
  obtain ⟨T5, h5, k5, X5, e5, E5, A5, st5⟩ := newP X2 hx hZ (hw _ (List.mem_of_getElem? (i := 8) rfl)) e2 (g := (mkF m 25 #[.val (.int p0), .val (.int p1), .val (.int p2), .val (.int p3), .val (.int (p0 &&& (15 : Int32))), .val (.int (f1 (1 : Int32) (p1 &&& (2147483647 : Int32)))), .unset, .unset, .unset, .unset, .unset, .unset, .unset, .unset] [(.int (0 : Int32)), (.int (f1 (1 : Int32) (p1 &&& (2147483647 : Int32)))), (.int (p0 &&& (15 : Int32))), (.ref b2), (.ref b2)])) rfl (hb hby at_25) rfl (by decide) (cap := 0) (by decide) (by decide) (by decide) (by decide)
  obtain ⟨b5, g5⟩ : ∃ z, z = h2.size := ⟨_, rfl⟩
  rw [← g5] at A5 st5
  have g_b5 : n0 ≤ b5 := Nat.le_trans Z4 (Nat.le_of_eq g5.symm)
  have sz_b5 : h0.size ≤ b5 := Nat.le_trans K3.1 (Nat.le_of_eq g5.symm)
  have ne_b2_b5 : b2 ≠ b5 := Nat.ne_of_lt (Nat.lt_of_lt_of_le E_b2.lt (Nat.le_of_eq g5.symm))
  have K6 : Keep h0 h5 [] := K3.ext E5
  have Z7 : n0 ≤ h5.size := Nat.le_trans Z0 K6.1
  have V_b5 : own_AI Z h5 b5 .int (0 : Int32) (fun _ => 0) := own_AI.new A5 (by decide) rfl
  obtain ⟨T8, h8, k8, X8, e8, E8, A8, st8⟩ := newP X5 hx hZ (hw _ (List.mem_of_getElem? (i := 8) rfl)) e5 (g := (mkF m 28 #[.val (.int p0), .val (.int p1), .val (.int p2), .val (.int p3), .val (.int (p0 &&& (15 : Int32))), .val (.int (f1 (1 : Int32) (p1 &&& (2147483647 : Int32)))), .unset, .unset, .unset, .unset, .unset, .unset, .unset, .unset] [(.int (0 : Int32)), (.ref b5), (.int (f1 (1 : Int32) (p1 &&& (2147483647 : Int32)))), (.int (p0 &&& (15 : Int32))), (.ref b2), (.ref b2)])) rfl (hb hby at_28) rfl (by decide) (cap := 0) (by decide) (by decide) (by decide) (by decide)
  obtain ⟨b8, g8⟩ : ∃ z, z = h5.size := ⟨_, rfl⟩
  rw [← g8] at A8 st8
  have g_b8 : n0 ≤ b8 := Nat.le_trans Z7 (Nat.le_of_eq g8.symm)
  have sz_b8 : h0.size ≤ b8 := Nat.le_trans K6.1 (Nat.le_of_eq g8.symm)
  have ne_b2_b8 : b2 ≠ b8 := Nat.ne_of_lt (Nat.lt_of_lt_of_le (E_b2.ext E5).lt (Nat.le_of_eq g8.symm))
  have ne_b5_b8 : b5 ≠ b8 := Nat.ne_of_lt (Nat.lt_of_lt_of_le V_b5.lt (Nat.le_of_eq g8.symm))
  have K9 : Keep h0 h8 [] := K6.ext E8
  have Z10 : n0 ≤ h8.size := Nat.le_trans Z0 K9.1
  have V_b8 : own_AI Z h8 b8 .int (0 : Int32) (fun _ => 0) := own_AI.new A8 (by decide) rfl
  obtain ⟨T11, h11, k11, X11, e11, E11, A11, st11⟩ := newP X8 hx hZ (hw _ (List.mem_of_getElem? (i := 9) rfl)) e8 (g := (mkF m 31 #[.val (.int p0), .val (.int p1), .val (.int p2), .val (.int p3), .val (.int (p0 &&& (15 : Int32))), .val (.int (f1 (1 : Int32) (p1 &&& (2147483647 : Int32)))), .unset, .unset, .unset, .unset, .unset, .unset, .unset, .unset] [(.int (0 : Int32)), (.ref b8), (.ref b5), (.int (f1 (1 : Int32) (p1 &&& (2147483647 : Int32)))), (.int (p0 &&& (15 : Int32))), (.ref b2), (.ref b2)])) rfl (hb hby at_31) rfl (by decide) (cap := 0) (by decide) (by decide) (by decide) (by decide)
  obtain ⟨b11, g11⟩ : ∃ z, z = h8.size := ⟨_, rfl⟩
  rw [← g11] at A11 st11
  have g_b11 : n0 ≤ b11 := Nat.le_trans Z10 (Nat.le_of_eq g11.symm)
  have sz_b11 : h0.size ≤ b11 := Nat.le_trans K9.1 (Nat.le_of_eq g11.symm)
  have ne_b2_b11 : b2 ≠ b11 := Nat.ne_of_lt (Nat.lt_of_lt_of_le ((E_b2.ext E5).ext E8).lt (Nat.le_of_eq g11.symm))
  have ne_b5_b11 : b5 ≠ b11 := Nat.ne_of_lt (Nat.lt_of_lt_of_le (V_b5.ext E8).lt (Nat.le_of_eq g11.symm))
  have ne_b8_b11 : b8 ≠ b11 := Nat.ne_of_lt (Nat.lt_of_lt_of_le V_b8.lt (Nat.le_of_eq g11.symm))
  have K12 : Keep h0 h11 [] := K9.ext E11
  have Z13 : n0 ≤ h11.size := Nat.le_trans Z0 K12.1
  have V_b11 : own_AL Z h11 b11 .double (0 : Int32) := own_AL.new A11 (by decide)
  obtain ⟨T14, h14, k14, X14, e14, E14, A14, st14⟩ := newP X11 hx hZ (hw _ (List.mem_of_getElem? (i := 9) rfl)) e11 (g := (mkF m 34 #[.val (.int p0), .val (.int p1), .val (.int p2), .val (.int p3), .val (.int (p0 &&& (15 : Int32))), .val (.int (f1 (1 : Int32) (p1 &&& (2147483647 : Int32)))), .unset, .unset, .unset, .unset, .unset, .unset, .unset, .unset] [(.int (0 : Int32)), (.ref b11), (.ref b8), (.ref b5), (.int (f1 (1 : Int32) (p1 &&& (2147483647 : Int32)))), (.int (p0 &&& (15 : Int32))), (.ref b2), (.ref b2)])) rfl (hb hby at_34) rfl (by decide) (cap := 0) (by decide) (by decide) (by decide) (by decide)
  obtain ⟨b14, g14⟩ : ∃ z, z = h11.size := ⟨_, rfl⟩
  rw [← g14] at A14 st14
  have g_b14 : n0 ≤ b14 := Nat.le_trans Z13 (Nat.le_of_eq g14.symm)
  have sz_b14 : h0.size ≤ b14 := Nat.le_trans K12.1 (Nat.le_of_eq g14.symm)
  have ne_b2_b14 : b2 ≠ b14 := Nat.ne_of_lt (Nat.lt_of_lt_of_le (((E_b2.ext E5).ext E8).ext E11).lt (Nat.le_of_eq g14.symm))
  have ne_b5_b14 : b5 ≠ b14 := Nat.ne_of_lt (Nat.lt_of_lt_of_le ((V_b5.ext E8).ext E11).lt (Nat.le_of_eq g14.symm))
  have ne_b8_b14 : b8 ≠ b14 := Nat.ne_of_lt (Nat.lt_of_lt_of_le (V_b8.ext E11).lt (Nat.le_of_eq g14.symm))
  have ne_b11_b14 : b11 ≠ b14 := Nat.ne_of_lt (Nat.lt_of_lt_of_le V_b11.lt (Nat.le_of_eq g14.symm))
  have K15 : Keep h0 h14 [] := K12.ext E14
  have Z16 : n0 ≤ h14.size := Nat.le_trans Z0 K15.1
  have V_b14 : own_AL Z h14 b14 .double (0 : Int32) := own_AL.new A14 (by decide)
  obtain ⟨_, _, ⟨T17, L17, k17, n17⟩, -, X17, ⟨Lc17, hQ17, l17, y17, z17⟩, st17⟩ := X14.specialBack hx (y := (⟨"com/example/cabweave/cabweave/Network", "<init>", "(II[I[I[D[D)V"⟩ : MethodName)) rfl hown (mvT hZ (hw _ (List.mem_of_getElem? (i := 10) rfl))) (mvT hZ (hw _ (List.mem_of_getElem? (i := 11) rfl))) (mvT hZ (hw _ (List.mem_of_getElem? (i := 12) rfl))) (by decide) (backOf (W := 1) (rm2 l Z a0 hw [] b2 (p0 &&& (15 : Int32)) (f1 (1 : Int32) (p1 &&& (2147483647 : Int32))) b5 b8 b11 b14 (fun _ => 0) (fun _ => 0) (0 : Int32) (0 : Int32) h14 n0 Z16 ((((E_b2.ext E5).ext E8).ext E11).ext E14) (((V_b5.ext E8).ext E11).ext E14) ((V_b8.ext E11).ext E14) (V_b11.ext E14) V_b14 g_b2 ne_b2_b5 ne_b2_b8 ne_b2_b11 ne_b2_b14 (own_m15 _) (own_f1 _) ((((F_nodeCount_b2.ext E5).ext E8).ext E11).ext E14) ((((F_firstThruNode_b2.ext E5).ext E8).ext E11).ext E14) ((((F_firstOut_b2.ext E5).ext E8).ext E11).ext E14) ((((F_tail_b2.ext E5).ext E8).ext E11).ext E14) ((((F_head_b2.ext E5).ext E8).ext E11).ext E14) ((((F_length_b2.ext E5).ext E8).ext E11).ext E14) ((((F_time_b2.ext E5).ext E8).ext E11).ext E14)) hZ (hw _ (List.mem_of_getElem? (i := 12) rfl)) (hw _ (List.mem_of_getElem? (i := 7) rfl)) (by decide) (by decide)) (g := (mkF m 36 #[.val (.int p0), .val (.int p1), .val (.int p2), .val (.int p3), .val (.int (p0 &&& (15 : Int32))), .val (.int (f1 (1 : Int32) (p1 &&& (2147483647 : Int32)))), .unset, .unset, .unset, .unset, .unset, .unset, .unset, .unset] [(.ref b14), (.ref b11), (.ref b8), (.ref b5), (.int (f1 (1 : Int32) (p1 &&& (2147483647 : Int32)))), (.int (p0 &&& (15 : Int32))), (.ref b2), (.ref b2)])) rfl (by rw [hml]; rfl) (Steps.refl _) (a := b2) (argsL := [(.int (p0 &&& (15 : Int32))), (.int (f1 (1 : Int32) (p1 &&& (2147483647 : Int32)))), (.ref b5), (.ref b8), (.ref b11), (.ref b14)]) (rest := [(.ref b2)]) (lenOf pd_0_1 rfl) rfl (by show 2 * 0 + _ ≤ _; exact Nat.le_of_eq rfl) (hb hby at_36) (fun _ _ => ⟨rfl, e14, (by decide : 5 + 6 ≤ _), (by decide : 7 + 34 ≤ _)⟩)
  dsimp only [Pt.U, Pt.locs, Pt.cells, Pt.slots] at X17 l17 y17 z17 st17 hQ17
  subst l17 y17 z17
  obtain ⟨rfl, N17q, K17q, G17_0, G17_1⟩ := hQ17
  have N17 := Fr.app N1 N17q
  have K18 : Keep h0 T17.heap [] := K15.trans K17q (allS (Or.inr sz_b2) all0)
  have Z19 : n0 ≤ T17.heap.size := Nat.le_trans Z0 K18.1
  obtain ⟨LS17, X17, N17⟩ : ∃ L, Stand p l e room_1 s m #[(.int p0), (.int p1), (.int p2), (.int p3)] below meth c T17 L 11 41 ∧ Fr n0 L := ⟨_, X17, N17⟩
  obtain ⟨_, _, ⟨T20, L20, k20, n20⟩, -, X20, ⟨Lc20, hQ20, l20, y20, z20⟩, st20⟩ := Jvm.LawKit.callS X17 hx (y := (⟨"java/lang/Math", "min", "(II)I"⟩ : MethodName)) hown (mvT hZ (hw _ (List.mem_of_getElem? (i := 40) rfl))) (mvT hZ (hw _ (List.mem_of_getElem? (i := 41) rfl))) (mvT hZ (hw _ (List.mem_of_getElem? (i := 3) rfl))) (mvT hZ (hw _ (List.mem_of_getElem? (i := 42) rfl))) (by decide) (backOf (W := 0) (rm4 l Z a0 hw [] p2 p3 T17.heap n0 Z19 ) hZ (hw _ (List.mem_of_getElem? (i := 42) rfl)) (hw _ (List.mem_of_getElem? (i := 3) rfl)) (by decide) (by decide)) (g := (mkF m 43 #[.val (.int p0), .val (.int p1), .val (.int p2), .val (.int p3), .val (.int (p0 &&& (15 : Int32))), .val (.int (f1 (1 : Int32) (p1 &&& (2147483647 : Int32)))), .val (.ref b2), .unset, .unset, .unset, .unset, .unset, .unset, .unset] [(.int p3), (.int p2)])) rfl (by rw [hml]; rfl) (argsL := [(.int p2), (.int p3)]) (rest := []) (lenOf pd_0_0 rfl) rfl (by show 2 * 0 + _ ≤ _; exact Nat.le_of_eq rfl) (hb hby at_43) (fun _ _ => ⟨rfl, rfl, (by decide : 11 + 0 ≤ _), (by decide : 41 + 0 ≤ _)⟩)
  dsimp only [Pt.U, Pt.locs, Pt.cells, Pt.slots] at X20 l20 y20 z20 st20 hQ20
  subst l20 y20 z20
  obtain ⟨rfl, N20q, e20q⟩ := hQ20
  have N20 := Fr.app N17 N20q
  obtain ⟨_, _, ⟨T21, L21, k21, n21⟩, -, X21, ⟨Lc21, hQ21, l21, y21, z21⟩, st21⟩ := Jvm.LawKit.callS X20 hx (y := (⟨"java/lang/Math", "max", "(II)I"⟩ : MethodName)) hown (mvT hZ (hw _ (List.mem_of_getElem? (i := 1) rfl))) (mvT hZ (hw _ (List.mem_of_getElem? (i := 2) rfl))) (mvT hZ (hw _ (List.mem_of_getElem? (i := 3) rfl))) (mvT hZ (hw _ (List.mem_of_getElem? (i := 4) rfl))) (by decide) (backOf (W := 0) (rm1 l Z a0 hw [] p2 p3 T17.heap n0 Z19 ) hZ (hw _ (List.mem_of_getElem? (i := 4) rfl)) (hw _ (List.mem_of_getElem? (i := 3) rfl)) (by decide) (by decide)) (g := (mkF m 50 #[.val (.int p0), .val (.int p1), .val (.int p2), .val (.int p3), .val (.int (p0 &&& (15 : Int32))), .val (.int (f1 (1 : Int32) (p1 &&& (2147483647 : Int32)))), .val (.ref b2), .val (.int (f4 p2 p3)), .unset, .unset, .unset, .unset, .unset, .unset] [(.int p3), (.int p2)])) rfl (by rw [hml]; rfl) (argsL := [(.int p2), (.int p3)]) (rest := []) (lenOf pd_0_0 rfl) rfl (by show 2 * 0 + _ ≤ _; exact Nat.le_of_eq rfl) (hb hby at_50) (fun _ _ => ⟨rfl, e20q, (by decide : 11 + 0 ≤ _), (by decide : 41 + 0 ≤ _)⟩)
  dsimp only [Pt.U, Pt.locs, Pt.cells, Pt.slots] at X21 l21 y21 z21 st21 hQ21
  subst l21 y21 z21
  obtain ⟨rfl, N21q, e21q⟩ := hQ21
  have N21 := Fr.app N20 N21q
  obtain ⟨cq22, kq22, q22a, q22b, q22c⟩ := isOf hZ e21q (((((E_b2.ext E5).ext E8).ext E11).ext E14).keep K17q)
  obtain ⟨_, _, ⟨T22, L22, k22, n22⟩, -, X22, ⟨Lc22, hQ22, l22, y22, z22⟩, st22⟩ := X21.virtualBack hx (y := (⟨"com/example/cabweave/cabweave/Network", "isZone", "(I)Z"⟩ : MethodName)) (z := (⟨"com/example/cabweave/cabweave/Network", "isZone", "(I)Z"⟩ : MethodName)) hown (mvT hZ (hw _ (List.mem_of_getElem? (i := 43) rfl))) (mvT hZ (hw _ (List.mem_of_getElem? (i := 44) rfl))) (notFace_of_selects (args := #[]) (mvT hZ (hw _ (List.mem_of_getElem? (i := 46) rfl)))) (mvT hZ (hw _ (List.mem_of_getElem? (i := 46) rfl))) (mvT hZ (hw _ (List.mem_of_getElem? (i := 45) rfl))) (by decide) (backOf (W := 0) (rm5 l Z a0 hw [] b2 ((f1 (1 : Int32) (p1 &&& (2147483647 : Int32))) - (1 : Int32)) (f1 (1 : Int32) (p1 &&& (2147483647 : Int32))) T17.heap n0 Z19 G17_1) hZ (hw _ (List.mem_of_getElem? (i := 47) rfl)) (hw _ (List.mem_of_getElem? (i := 7) rfl)) (by decide) (by decide)) q22a q22c (g := (mkF m 61 #[.val (.int p0), .val (.int p1), .val (.int p2), .val (.int p3), .val (.int (p0 &&& (15 : Int32))), .val (.int (f1 (1 : Int32) (p1 &&& (2147483647 : Int32)))), .val (.ref b2), .val (.int (f4 p2 p3)), .val (.int (f1 p2 p3)), .unset, .unset, .unset, .unset, .unset] [(.int ((f1 (1 : Int32) (p1 &&& (2147483647 : Int32))) - (1 : Int32))), (.ref b2)])) rfl (by rw [hml]; rfl) (Steps.refl _) (argsL := [(.int ((f1 (1 : Int32) (p1 &&& (2147483647 : Int32))) - (1 : Int32)))]) (rest := []) (lenOf pd_0_2 rfl) rfl (by show 2 * 0 + _ ≤ _; exact Nat.le_of_eq rfl) (hb hby at_61) (fun _ _ => ⟨rfl, e21q, (by decide : 11 + 0 ≤ _), (by decide : 41 + 0 ≤ _)⟩)
  dsimp only [Pt.U, Pt.locs, Pt.cells, Pt.slots] at X22 l22 y22 z22 st22 hQ22
  subst l22 y22 z22
  obtain ⟨rfl, N22q, e22q⟩ := hQ22
  have N22 := Fr.app N21 N22q
  obtain ⟨cq23, kq23, q23a, q23b, q23c⟩ := isOf hZ e22q (((((E_b2.ext E5).ext E8).ext E11).ext E14).keep K17q)
  obtain ⟨_, _, ⟨T23, L23, k23, n23⟩, -, X23, ⟨Lc23, hQ23, l23, y23, z23⟩, st23⟩ := X22.virtualBack hx (y := (⟨"com/example/cabweave/cabweave/Network", "isZone", "(I)Z"⟩ : MethodName)) (z := (⟨"com/example/cabweave/cabweave/Network", "isZone", "(I)Z"⟩ : MethodName)) hown (mvT hZ (hw _ (List.mem_of_getElem? (i := 43) rfl))) (mvT hZ (hw _ (List.mem_of_getElem? (i := 44) rfl))) (notFace_of_selects (args := #[]) (mvT hZ (hw _ (List.mem_of_getElem? (i := 46) rfl)))) (mvT hZ (hw _ (List.mem_of_getElem? (i := 46) rfl))) (mvT hZ (hw _ (List.mem_of_getElem? (i := 45) rfl))) (by decide) (backOf (W := 0) (rm5 l Z a0 hw [] b2 (f1 (1 : Int32) (p1 &&& (2147483647 : Int32))) (f1 (1 : Int32) (p1 &&& (2147483647 : Int32))) T17.heap n0 Z19 G17_1) hZ (hw _ (List.mem_of_getElem? (i := 47) rfl)) (hw _ (List.mem_of_getElem? (i := 7) rfl)) (by decide) (by decide)) q23a q23c (g := (mkF m 70 #[.val (.int p0), .val (.int p1), .val (.int p2), .val (.int p3), .val (.int (p0 &&& (15 : Int32))), .val (.int (f1 (1 : Int32) (p1 &&& (2147483647 : Int32)))), .val (.ref b2), .val (.int (f4 p2 p3)), .val (.int (f1 p2 p3)), .val (.int (e0_1 p1)), .unset, .unset, .unset, .unset] [(.int (f1 (1 : Int32) (p1 &&& (2147483647 : Int32)))), (.ref b2)])) rfl (by rw [hml]; rfl) (Steps.refl _) (argsL := [(.int (f1 (1 : Int32) (p1 &&& (2147483647 : Int32))))]) (rest := []) (lenOf pd_0_2 rfl) rfl (by show 2 * 0 + _ ≤ _; exact Nat.le_of_eq rfl) (hb hby at_70) (fun _ _ => ⟨rfl, e22q, (by decide : 11 + 0 ≤ _), (by decide : 41 + 0 ≤ _)⟩)
  dsimp only [Pt.U, Pt.locs, Pt.cells, Pt.slots] at X23 l23 y23 z23 st23 hQ23
  subst l23 y23 z23
  obtain ⟨rfl, N23q, e23q⟩ := hQ23
  have N23 := Fr.app N22 N23q
  obtain ⟨cq24, kq24, q24a, q24b, q24c⟩ := isOf hZ e23q (((((E_b2.ext E5).ext E8).ext E11).ext E14).keep K17q)
  obtain ⟨_, _, ⟨T24, L24, k24, n24⟩, -, X24, ⟨Lc24, hQ24, l24, y24, z24⟩, st24⟩ := X23.virtualBack hx (y := (⟨"com/example/cabweave/cabweave/Network", "isZone", "(I)Z"⟩ : MethodName)) (z := (⟨"com/example/cabweave/cabweave/Network", "isZone", "(I)Z"⟩ : MethodName)) hown (mvT hZ (hw _ (List.mem_of_getElem? (i := 43) rfl))) (mvT hZ (hw _ (List.mem_of_getElem? (i := 44) rfl))) (notFace_of_selects (args := #[]) (mvT hZ (hw _ (List.mem_of_getElem? (i := 46) rfl)))) (mvT hZ (hw _ (List.mem_of_getElem? (i := 46) rfl))) (mvT hZ (hw _ (List.mem_of_getElem? (i := 45) rfl))) (by decide) (backOf (W := 0) (rm5 l Z a0 hw [] b2 (f1 p2 p3) (f1 (1 : Int32) (p1 &&& (2147483647 : Int32))) T17.heap n0 Z19 G17_1) hZ (hw _ (List.mem_of_getElem? (i := 47) rfl)) (hw _ (List.mem_of_getElem? (i := 7) rfl)) (by decide) (by decide)) q24a q24c (g := (mkF m 79 #[.val (.int p0), .val (.int p1), .val (.int p2), .val (.int p3), .val (.int (p0 &&& (15 : Int32))), .val (.int (f1 (1 : Int32) (p1 &&& (2147483647 : Int32)))), .val (.ref b2), .val (.int (f4 p2 p3)), .val (.int (f1 p2 p3)), .val (.int (e0_1 p1)), .val (.int (e0_2 p1)), .unset, .unset, .unset] [(.int (f1 p2 p3)), (.ref b2)])) rfl (by rw [hml]; rfl) (Steps.refl _) (argsL := [(.int (f1 p2 p3))]) (rest := []) (lenOf pd_0_2 rfl) rfl (by show 2 * 0 + _ ≤ _; exact Nat.le_of_eq rfl) (hb hby at_79) (fun _ _ => ⟨rfl, e23q, (by decide : 11 + 0 ≤ _), (by decide : 41 + 0 ≤ _)⟩)
  dsimp only [Pt.U, Pt.locs, Pt.cells, Pt.slots] at X24 l24 y24 z24 st24 hQ24
  subst l24 y24 z24
  obtain ⟨rfl, N24q, e24q⟩ := hQ24
  have N24 := Fr.app N23 N24q
  obtain ⟨cq25, kq25, q25a, q25b, q25c⟩ := isOf hZ e24q (((((E_b2.ext E5).ext E8).ext E11).ext E14).keep K17q)
  obtain ⟨_, _, ⟨T25, L25, k25, n25⟩, -, X25, ⟨Lc25, hQ25, l25, y25, z25⟩, st25⟩ := X24.virtualBack hx (y := (⟨"com/example/cabweave/cabweave/Network", "isZone", "(I)Z"⟩ : MethodName)) (z := (⟨"com/example/cabweave/cabweave/Network", "isZone", "(I)Z"⟩ : MethodName)) hown (mvT hZ (hw _ (List.mem_of_getElem? (i := 43) rfl))) (mvT hZ (hw _ (List.mem_of_getElem? (i := 44) rfl))) (notFace_of_selects (args := #[]) (mvT hZ (hw _ (List.mem_of_getElem? (i := 46) rfl)))) (mvT hZ (hw _ (List.mem_of_getElem? (i := 46) rfl))) (mvT hZ (hw _ (List.mem_of_getElem? (i := 45) rfl))) (by decide) (backOf (W := 0) (rm5 l Z a0 hw [] b2 (f4 p2 p3) (f1 (1 : Int32) (p1 &&& (2147483647 : Int32))) T17.heap n0 Z19 G17_1) hZ (hw _ (List.mem_of_getElem? (i := 47) rfl)) (hw _ (List.mem_of_getElem? (i := 7) rfl)) (by decide) (by decide)) q25a q25c (g := (mkF m 88 #[.val (.int p0), .val (.int p1), .val (.int p2), .val (.int p3), .val (.int (p0 &&& (15 : Int32))), .val (.int (f1 (1 : Int32) (p1 &&& (2147483647 : Int32)))), .val (.ref b2), .val (.int (f4 p2 p3)), .val (.int (f1 p2 p3)), .val (.int (e0_1 p1)), .val (.int (e0_2 p1)), .val (.int (e0_3 p1 p2 p3)), .unset, .unset] [(.int (f4 p2 p3)), (.ref b2)])) rfl (by rw [hml]; rfl) (Steps.refl _) (argsL := [(.int (f4 p2 p3))]) (rest := []) (lenOf pd_0_2 rfl) rfl (by show 2 * 0 + _ ≤ _; exact Nat.le_of_eq rfl) (hb hby at_88) (fun _ _ => ⟨rfl, e24q, (by decide : 11 + 0 ≤ _), (by decide : 41 + 0 ≤ _)⟩)
  dsimp only [Pt.U, Pt.locs, Pt.cells, Pt.slots] at X25 l25 y25 z25 st25 hQ25
  subst l25 y25 z25
  obtain ⟨rfl, N25q, e25q⟩ := hQ25
  have N25 := Fr.app N24 N25q
  have pre26 : ∀ t, Steps p.tables e below (T25.setTop (mkF m 95 #[.val (.int p0), .val (.int p1), .val (.int p2), .val (.int p3), .val (.int (p0 &&& (15 : Int32))), .val (.int (f1 (1 : Int32) (p1 &&& (2147483647 : Int32)))), .val (.ref b2), .val (.int (f4 p2 p3)), .val (.int (f1 p2 p3)), .val (.int (e0_1 p1)), .val (.int (e0_2 p1)), .val (.int (e0_3 p1 p2 p3)), .val (.int (e0_4 p1 p2 p3)), .unset] [(.int (e0_3 p1 p2 p3))])) t → Steps p.tables e below (s₁.setTop (entryFrame m #[(.int p0), (.int p1), (.int p2), (.int p3)] maxLocals)) t := fun t kt => pre0 t (by
      show Steps p.tables e below (s₁.setTop (mkF m 0 #[.val (.int p0), .val (.int p1), .val (.int p2), .val (.int p3), .unset, .unset, .unset, .unset, .unset, .unset, .unset, .unset, .unset, .unset] [])) _
      refine XS.iloadN X0.here hx rfl (hb hby at_0) rfl ?_
      show Steps p.tables e below (s₁.setTop (mkF m 1 #[.val (.int p0), .val (.int p1), .val (.int p2), .val (.int p3), .unset, .unset, .unset, .unset, .unset, .unset, .unset, .unset, .unset, .unset] [(.int p0)])) _
      refine XS.bipush X0.here hx rfl (hb hby at_1) ?_
      show Steps p.tables e below (s₁.setTop (mkF m 3 #[.val (.int p0), .val (.int p1), .val (.int p2), .val (.int p3), .unset, .unset, .unset, .unset, .unset, .unset, .unset, .unset, .unset, .unset] [(.int (15 : Int32)), (.int p0)])) _
      refine XS.iand X0.here hx rfl (hb hby at_3) rfl ?_
      show Steps p.tables e below (s₁.setTop (mkF m 4 #[.val (.int p0), .val (.int p1), .val (.int p2), .val (.int p3), .unset, .unset, .unset, .unset, .unset, .unset, .unset, .unset, .unset, .unset] [(.int (p0 &&& (15 : Int32)))])) _
      refine XS.istore X0.here hx rfl (hb hby at_4) rfl (l' := #[.val (.int p0), .val (.int p1), .val (.int p2), .val (.int p3), .val (.int (p0 &&& (15 : Int32))), .unset, .unset, .unset, .unset, .unset, .unset, .unset, .unset, .unset]) rfl ?_
      show Steps p.tables e below (s₁.setTop (mkF m 6 #[.val (.int p0), .val (.int p1), .val (.int p2), .val (.int p3), .val (.int (p0 &&& (15 : Int32))), .unset, .unset, .unset, .unset, .unset, .unset, .unset, .unset, .unset] [])) _
      refine XS.iconst X0.here hx rfl (hb hby at_6) ?_
      show Steps p.tables e below (s₁.setTop (mkF m 7 #[.val (.int p0), .val (.int p1), .val (.int p2), .val (.int p3), .val (.int (p0 &&& (15 : Int32))), .unset, .unset, .unset, .unset, .unset, .unset, .unset, .unset, .unset] [(.int (1 : Int32))])) _
      refine XS.iloadN X0.here hx rfl (hb hby at_7) rfl ?_
      show Steps p.tables e below (s₁.setTop (mkF m 8 #[.val (.int p0), .val (.int p1), .val (.int p2), .val (.int p3), .val (.int (p0 &&& (15 : Int32))), .unset, .unset, .unset, .unset, .unset, .unset, .unset, .unset, .unset] [(.int p1), (.int (1 : Int32))])) _
      refine X0.ldcInt hx hown (mvT hZ (hw _ (List.mem_of_getElem? (i := 0) rfl))) (g := (mkF m 8 #[.val (.int p0), .val (.int p1), .val (.int p2), .val (.int p3), .val (.int (p0 &&& (15 : Int32))), .unset, .unset, .unset, .unset, .unset, .unset, .unset, .unset, .unset] [(.int p1), (.int (1 : Int32))])) rfl (hb hby at_8) _ ?_
      show Steps p.tables e below (s₁.setTop (mkF m 10 #[.val (.int p0), .val (.int p1), .val (.int p2), .val (.int p3), .val (.int (p0 &&& (15 : Int32))), .unset, .unset, .unset, .unset, .unset, .unset, .unset, .unset, .unset] [(.int (2147483647 : Int32)), (.int p1), (.int (1 : Int32))])) _
      refine XS.iand X0.here hx rfl (hb hby at_10) rfl ?_
      show Steps p.tables e below (s₁.setTop (mkF m 11 #[.val (.int p0), .val (.int p1), .val (.int p2), .val (.int p3), .val (.int (p0 &&& (15 : Int32))), .unset, .unset, .unset, .unset, .unset, .unset, .unset, .unset, .unset] [(.int (p1 &&& (2147483647 : Int32))), (.int (1 : Int32))])) _
      refine st1 _ ?_
      show Steps p.tables e below (T1.setTop (mkF m 14 #[.val (.int p0), .val (.int p1), .val (.int p2), .val (.int p3), .val (.int (p0 &&& (15 : Int32))), .unset, .unset, .unset, .unset, .unset, .unset, .unset, .unset, .unset] [(.int (f1 (1 : Int32) (p1 &&& (2147483647 : Int32))))])) _
      refine XS.istore X1.here hx rfl (hb hby at_14) rfl (l' := #[.val (.int p0), .val (.int p1), .val (.int p2), .val (.int p3), .val (.int (p0 &&& (15 : Int32))), .val (.int (f1 (1 : Int32) (p1 &&& (2147483647 : Int32)))), .unset, .unset, .unset, .unset, .unset, .unset, .unset, .unset]) rfl ?_
      show Steps p.tables e below (T1.setTop (mkF m 16 #[.val (.int p0), .val (.int p1), .val (.int p2), .val (.int p3), .val (.int (p0 &&& (15 : Int32))), .val (.int (f1 (1 : Int32) (p1 &&& (2147483647 : Int32)))), .unset, .unset, .unset, .unset, .unset, .unset, .unset, .unset] [])) _
      refine st2 _ ?_
      show Steps p.tables e below (T2.setTop (mkF m 19 #[.val (.int p0), .val (.int p1), .val (.int p2), .val (.int p3), .val (.int (p0 &&& (15 : Int32))), .val (.int (f1 (1 : Int32) (p1 &&& (2147483647 : Int32)))), .unset, .unset, .unset, .unset, .unset, .unset, .unset, .unset] [(.ref b2)])) _
      refine XS.dup X2.here hx rfl (hb hby at_19) rfl rfl ?_
      show Steps p.tables e below (T2.setTop (mkF m 20 #[.val (.int p0), .val (.int p1), .val (.int p2), .val (.int p3), .val (.int (p0 &&& (15 : Int32))), .val (.int (f1 (1 : Int32) (p1 &&& (2147483647 : Int32)))), .unset, .unset, .unset, .unset, .unset, .unset, .unset, .unset] [(.ref b2), (.ref b2)])) _
      refine XS.iload X2.here hx rfl (hb hby at_20) rfl ?_
      show Steps p.tables e below (T2.setTop (mkF m 22 #[.val (.int p0), .val (.int p1), .val (.int p2), .val (.int p3), .val (.int (p0 &&& (15 : Int32))), .val (.int (f1 (1 : Int32) (p1 &&& (2147483647 : Int32)))), .unset, .unset, .unset, .unset, .unset, .unset, .unset, .unset] [(.int (p0 &&& (15 : Int32))), (.ref b2), (.ref b2)])) _
      refine XS.iload X2.here hx rfl (hb hby at_22) rfl ?_
      show Steps p.tables e below (T2.setTop (mkF m 24 #[.val (.int p0), .val (.int p1), .val (.int p2), .val (.int p3), .val (.int (p0 &&& (15 : Int32))), .val (.int (f1 (1 : Int32) (p1 &&& (2147483647 : Int32)))), .unset, .unset, .unset, .unset, .unset, .unset, .unset, .unset] [(.int (f1 (1 : Int32) (p1 &&& (2147483647 : Int32)))), (.int (p0 &&& (15 : Int32))), (.ref b2), (.ref b2)])) _
      refine XS.iconst X2.here hx rfl (hb hby at_24) ?_
      show Steps p.tables e below (T2.setTop (mkF m 25 #[.val (.int p0), .val (.int p1), .val (.int p2), .val (.int p3), .val (.int (p0 &&& (15 : Int32))), .val (.int (f1 (1 : Int32) (p1 &&& (2147483647 : Int32)))), .unset, .unset, .unset, .unset, .unset, .unset, .unset, .unset] [(.int (0 : Int32)), (.int (f1 (1 : Int32) (p1 &&& (2147483647 : Int32)))), (.int (p0 &&& (15 : Int32))), (.ref b2), (.ref b2)])) _
      refine st5 _ ?_
      show Steps p.tables e below (T5.setTop (mkF m 27 #[.val (.int p0), .val (.int p1), .val (.int p2), .val (.int p3), .val (.int (p0 &&& (15 : Int32))), .val (.int (f1 (1 : Int32) (p1 &&& (2147483647 : Int32)))), .unset, .unset, .unset, .unset, .unset, .unset, .unset, .unset] [(.ref b5), (.int (f1 (1 : Int32) (p1 &&& (2147483647 : Int32)))), (.int (p0 &&& (15 : Int32))), (.ref b2), (.ref b2)])) _
      refine XS.iconst X5.here hx rfl (hb hby at_27) ?_
      show Steps p.tables e below (T5.setTop (mkF m 28 #[.val (.int p0), .val (.int p1), .val (.int p2), .val (.int p3), .val (.int (p0 &&& (15 : Int32))), .val (.int (f1 (1 : Int32) (p1 &&& (2147483647 : Int32)))), .unset, .unset, .unset, .unset, .unset, .unset, .unset, .unset] [(.int (0 : Int32)), (.ref b5), (.int (f1 (1 : Int32) (p1 &&& (2147483647 : Int32)))), (.int (p0 &&& (15 : Int32))), (.ref b2), (.ref b2)])) _
      refine st8 _ ?_
      show Steps p.tables e below (T8.setTop (mkF m 30 #[.val (.int p0), .val (.int p1), .val (.int p2), .val (.int p3), .val (.int (p0 &&& (15 : Int32))), .val (.int (f1 (1 : Int32) (p1 &&& (2147483647 : Int32)))), .unset, .unset, .unset, .unset, .unset, .unset, .unset, .unset] [(.ref b8), (.ref b5), (.int (f1 (1 : Int32) (p1 &&& (2147483647 : Int32)))), (.int (p0 &&& (15 : Int32))), (.ref b2), (.ref b2)])) _
      refine XS.iconst X8.here hx rfl (hb hby at_30) ?_
      show Steps p.tables e below (T8.setTop (mkF m 31 #[.val (.int p0), .val (.int p1), .val (.int p2), .val (.int p3), .val (.int (p0 &&& (15 : Int32))), .val (.int (f1 (1 : Int32) (p1 &&& (2147483647 : Int32)))), .unset, .unset, .unset, .unset, .unset, .unset, .unset, .unset] [(.int (0 : Int32)), (.ref b8), (.ref b5), (.int (f1 (1 : Int32) (p1 &&& (2147483647 : Int32)))), (.int (p0 &&& (15 : Int32))), (.ref b2), (.ref b2)])) _
      refine st11 _ ?_
      show Steps p.tables e below (T11.setTop (mkF m 33 #[.val (.int p0), .val (.int p1), .val (.int p2), .val (.int p3), .val (.int (p0 &&& (15 : Int32))), .val (.int (f1 (1 : Int32) (p1 &&& (2147483647 : Int32)))), .unset, .unset, .unset, .unset, .unset, .unset, .unset, .unset] [(.ref b11), (.ref b8), (.ref b5), (.int (f1 (1 : Int32) (p1 &&& (2147483647 : Int32)))), (.int (p0 &&& (15 : Int32))), (.ref b2), (.ref b2)])) _
      refine XS.iconst X11.here hx rfl (hb hby at_33) ?_
      show Steps p.tables e below (T11.setTop (mkF m 34 #[.val (.int p0), .val (.int p1), .val (.int p2), .val (.int p3), .val (.int (p0 &&& (15 : Int32))), .val (.int (f1 (1 : Int32) (p1 &&& (2147483647 : Int32)))), .unset, .unset, .unset, .unset, .unset, .unset, .unset, .unset] [(.int (0 : Int32)), (.ref b11), (.ref b8), (.ref b5), (.int (f1 (1 : Int32) (p1 &&& (2147483647 : Int32)))), (.int (p0 &&& (15 : Int32))), (.ref b2), (.ref b2)])) _
      refine st14 _ ?_
      show Steps p.tables e below (T14.setTop (mkF m 36 #[.val (.int p0), .val (.int p1), .val (.int p2), .val (.int p3), .val (.int (p0 &&& (15 : Int32))), .val (.int (f1 (1 : Int32) (p1 &&& (2147483647 : Int32)))), .unset, .unset, .unset, .unset, .unset, .unset, .unset, .unset] [(.ref b14), (.ref b11), (.ref b8), (.ref b5), (.int (f1 (1 : Int32) (p1 &&& (2147483647 : Int32)))), (.int (p0 &&& (15 : Int32))), (.ref b2), (.ref b2)])) _
      refine st17.trans ?_
      show Steps p.tables e below (T17.setTop (mkF m 39 #[.val (.int p0), .val (.int p1), .val (.int p2), .val (.int p3), .val (.int (p0 &&& (15 : Int32))), .val (.int (f1 (1 : Int32) (p1 &&& (2147483647 : Int32)))), .unset, .unset, .unset, .unset, .unset, .unset, .unset, .unset] [(.ref b2)])) _
      refine XS.astore X17.here hx rfl (hb hby at_39) rfl rfl (l' := #[.val (.int p0), .val (.int p1), .val (.int p2), .val (.int p3), .val (.int (p0 &&& (15 : Int32))), .val (.int (f1 (1 : Int32) (p1 &&& (2147483647 : Int32)))), .val (.ref b2), .unset, .unset, .unset, .unset, .unset, .unset, .unset]) rfl ?_
      show Steps p.tables e below (T17.setTop (mkF m 41 #[.val (.int p0), .val (.int p1), .val (.int p2), .val (.int p3), .val (.int (p0 &&& (15 : Int32))), .val (.int (f1 (1 : Int32) (p1 &&& (2147483647 : Int32)))), .val (.ref b2), .unset, .unset, .unset, .unset, .unset, .unset, .unset] [])) _
      refine XS.iloadN X17.here hx rfl (hb hby at_41) rfl ?_
      show Steps p.tables e below (T17.setTop (mkF m 42 #[.val (.int p0), .val (.int p1), .val (.int p2), .val (.int p3), .val (.int (p0 &&& (15 : Int32))), .val (.int (f1 (1 : Int32) (p1 &&& (2147483647 : Int32)))), .val (.ref b2), .unset, .unset, .unset, .unset, .unset, .unset, .unset] [(.int p2)])) _
      refine XS.iloadN X17.here hx rfl (hb hby at_42) rfl ?_
      show Steps p.tables e below (T17.setTop (mkF m 43 #[.val (.int p0), .val (.int p1), .val (.int p2), .val (.int p3), .val (.int (p0 &&& (15 : Int32))), .val (.int (f1 (1 : Int32) (p1 &&& (2147483647 : Int32)))), .val (.ref b2), .unset, .unset, .unset, .unset, .unset, .unset, .unset] [(.int p3), (.int p2)])) _
      refine st20 _ ?_
      show Steps p.tables e below (T20.setTop (mkF m 46 #[.val (.int p0), .val (.int p1), .val (.int p2), .val (.int p3), .val (.int (p0 &&& (15 : Int32))), .val (.int (f1 (1 : Int32) (p1 &&& (2147483647 : Int32)))), .val (.ref b2), .unset, .unset, .unset, .unset, .unset, .unset, .unset] [(.int (f4 p2 p3))])) _
      refine XS.istore X20.here hx rfl (hb hby at_46) rfl (l' := #[.val (.int p0), .val (.int p1), .val (.int p2), .val (.int p3), .val (.int (p0 &&& (15 : Int32))), .val (.int (f1 (1 : Int32) (p1 &&& (2147483647 : Int32)))), .val (.ref b2), .val (.int (f4 p2 p3)), .unset, .unset, .unset, .unset, .unset, .unset]) rfl ?_
      show Steps p.tables e below (T20.setTop (mkF m 48 #[.val (.int p0), .val (.int p1), .val (.int p2), .val (.int p3), .val (.int (p0 &&& (15 : Int32))), .val (.int (f1 (1 : Int32) (p1 &&& (2147483647 : Int32)))), .val (.ref b2), .val (.int (f4 p2 p3)), .unset, .unset, .unset, .unset, .unset, .unset] [])) _
      refine XS.iloadN X20.here hx rfl (hb hby at_48) rfl ?_
      show Steps p.tables e below (T20.setTop (mkF m 49 #[.val (.int p0), .val (.int p1), .val (.int p2), .val (.int p3), .val (.int (p0 &&& (15 : Int32))), .val (.int (f1 (1 : Int32) (p1 &&& (2147483647 : Int32)))), .val (.ref b2), .val (.int (f4 p2 p3)), .unset, .unset, .unset, .unset, .unset, .unset] [(.int p2)])) _
      refine XS.iloadN X20.here hx rfl (hb hby at_49) rfl ?_
      show Steps p.tables e below (T20.setTop (mkF m 50 #[.val (.int p0), .val (.int p1), .val (.int p2), .val (.int p3), .val (.int (p0 &&& (15 : Int32))), .val (.int (f1 (1 : Int32) (p1 &&& (2147483647 : Int32)))), .val (.ref b2), .val (.int (f4 p2 p3)), .unset, .unset, .unset, .unset, .unset, .unset] [(.int p3), (.int p2)])) _
      refine st21 _ ?_
      show Steps p.tables e below (T21.setTop (mkF m 53 #[.val (.int p0), .val (.int p1), .val (.int p2), .val (.int p3), .val (.int (p0 &&& (15 : Int32))), .val (.int (f1 (1 : Int32) (p1 &&& (2147483647 : Int32)))), .val (.ref b2), .val (.int (f4 p2 p3)), .unset, .unset, .unset, .unset, .unset, .unset] [(.int (f1 p2 p3))])) _
      refine XS.istore X21.here hx rfl (hb hby at_53) rfl (l' := #[.val (.int p0), .val (.int p1), .val (.int p2), .val (.int p3), .val (.int (p0 &&& (15 : Int32))), .val (.int (f1 (1 : Int32) (p1 &&& (2147483647 : Int32)))), .val (.ref b2), .val (.int (f4 p2 p3)), .val (.int (f1 p2 p3)), .unset, .unset, .unset, .unset, .unset]) rfl ?_
      show Steps p.tables e below (T21.setTop (mkF m 55 #[.val (.int p0), .val (.int p1), .val (.int p2), .val (.int p3), .val (.int (p0 &&& (15 : Int32))), .val (.int (f1 (1 : Int32) (p1 &&& (2147483647 : Int32)))), .val (.ref b2), .val (.int (f4 p2 p3)), .val (.int (f1 p2 p3)), .unset, .unset, .unset, .unset, .unset] [])) _
      refine XS.aload X21.here hx rfl (hb hby at_55) rfl rfl ?_
      show Steps p.tables e below (T21.setTop (mkF m 57 #[.val (.int p0), .val (.int p1), .val (.int p2), .val (.int p3), .val (.int (p0 &&& (15 : Int32))), .val (.int (f1 (1 : Int32) (p1 &&& (2147483647 : Int32)))), .val (.ref b2), .val (.int (f4 p2 p3)), .val (.int (f1 p2 p3)), .unset, .unset, .unset, .unset, .unset] [(.ref b2)])) _
      refine XS.iload X21.here hx rfl (hb hby at_57) rfl ?_
      show Steps p.tables e below (T21.setTop (mkF m 59 #[.val (.int p0), .val (.int p1), .val (.int p2), .val (.int p3), .val (.int (p0 &&& (15 : Int32))), .val (.int (f1 (1 : Int32) (p1 &&& (2147483647 : Int32)))), .val (.ref b2), .val (.int (f4 p2 p3)), .val (.int (f1 p2 p3)), .unset, .unset, .unset, .unset, .unset] [(.int (f1 (1 : Int32) (p1 &&& (2147483647 : Int32)))), (.ref b2)])) _
      refine XS.iconst X21.here hx rfl (hb hby at_59) ?_
      show Steps p.tables e below (T21.setTop (mkF m 60 #[.val (.int p0), .val (.int p1), .val (.int p2), .val (.int p3), .val (.int (p0 &&& (15 : Int32))), .val (.int (f1 (1 : Int32) (p1 &&& (2147483647 : Int32)))), .val (.ref b2), .val (.int (f4 p2 p3)), .val (.int (f1 p2 p3)), .unset, .unset, .unset, .unset, .unset] [(.int (1 : Int32)), (.int (f1 (1 : Int32) (p1 &&& (2147483647 : Int32)))), (.ref b2)])) _
      refine XS.isub X21.here hx rfl (hb hby at_60) rfl ?_
      show Steps p.tables e below (T21.setTop (mkF m 61 #[.val (.int p0), .val (.int p1), .val (.int p2), .val (.int p3), .val (.int (p0 &&& (15 : Int32))), .val (.int (f1 (1 : Int32) (p1 &&& (2147483647 : Int32)))), .val (.ref b2), .val (.int (f4 p2 p3)), .val (.int (f1 p2 p3)), .unset, .unset, .unset, .unset, .unset] [(.int ((f1 (1 : Int32) (p1 &&& (2147483647 : Int32))) - (1 : Int32))), (.ref b2)])) _
      refine st22.trans ?_
      show Steps p.tables e below (T22.setTop (mkF m 64 #[.val (.int p0), .val (.int p1), .val (.int p2), .val (.int p3), .val (.int (p0 &&& (15 : Int32))), .val (.int (f1 (1 : Int32) (p1 &&& (2147483647 : Int32)))), .val (.ref b2), .val (.int (f4 p2 p3)), .val (.int (f1 p2 p3)), .unset, .unset, .unset, .unset, .unset] [(.int (f5 ((f1 (1 : Int32) (p1 &&& (2147483647 : Int32))) - (1 : Int32)) (f1 (1 : Int32) (p1 &&& (2147483647 : Int32)))))])) _
      refine XS.istore X22.here hx rfl (hb hby at_64) rfl (l' := #[.val (.int p0), .val (.int p1), .val (.int p2), .val (.int p3), .val (.int (p0 &&& (15 : Int32))), .val (.int (f1 (1 : Int32) (p1 &&& (2147483647 : Int32)))), .val (.ref b2), .val (.int (f4 p2 p3)), .val (.int (f1 p2 p3)), .val (.int (e0_1 p1)), .unset, .unset, .unset, .unset]) rfl ?_
      show Steps p.tables e below (T22.setTop (mkF m 66 #[.val (.int p0), .val (.int p1), .val (.int p2), .val (.int p3), .val (.int (p0 &&& (15 : Int32))), .val (.int (f1 (1 : Int32) (p1 &&& (2147483647 : Int32)))), .val (.ref b2), .val (.int (f4 p2 p3)), .val (.int (f1 p2 p3)), .val (.int (e0_1 p1)), .unset, .unset, .unset, .unset] [])) _
      refine XS.aload X22.here hx rfl (hb hby at_66) rfl rfl ?_
      show Steps p.tables e below (T22.setTop (mkF m 68 #[.val (.int p0), .val (.int p1), .val (.int p2), .val (.int p3), .val (.int (p0 &&& (15 : Int32))), .val (.int (f1 (1 : Int32) (p1 &&& (2147483647 : Int32)))), .val (.ref b2), .val (.int (f4 p2 p3)), .val (.int (f1 p2 p3)), .val (.int (e0_1 p1)), .unset, .unset, .unset, .unset] [(.ref b2)])) _
      refine XS.iload X22.here hx rfl (hb hby at_68) rfl ?_
      show Steps p.tables e below (T22.setTop (mkF m 70 #[.val (.int p0), .val (.int p1), .val (.int p2), .val (.int p3), .val (.int (p0 &&& (15 : Int32))), .val (.int (f1 (1 : Int32) (p1 &&& (2147483647 : Int32)))), .val (.ref b2), .val (.int (f4 p2 p3)), .val (.int (f1 p2 p3)), .val (.int (e0_1 p1)), .unset, .unset, .unset, .unset] [(.int (f1 (1 : Int32) (p1 &&& (2147483647 : Int32)))), (.ref b2)])) _
      refine st23.trans ?_
      show Steps p.tables e below (T23.setTop (mkF m 73 #[.val (.int p0), .val (.int p1), .val (.int p2), .val (.int p3), .val (.int (p0 &&& (15 : Int32))), .val (.int (f1 (1 : Int32) (p1 &&& (2147483647 : Int32)))), .val (.ref b2), .val (.int (f4 p2 p3)), .val (.int (f1 p2 p3)), .val (.int (e0_1 p1)), .unset, .unset, .unset, .unset] [(.int (f5 (f1 (1 : Int32) (p1 &&& (2147483647 : Int32))) (f1 (1 : Int32) (p1 &&& (2147483647 : Int32)))))])) _
      refine XS.istore X23.here hx rfl (hb hby at_73) rfl (l' := #[.val (.int p0), .val (.int p1), .val (.int p2), .val (.int p3), .val (.int (p0 &&& (15 : Int32))), .val (.int (f1 (1 : Int32) (p1 &&& (2147483647 : Int32)))), .val (.ref b2), .val (.int (f4 p2 p3)), .val (.int (f1 p2 p3)), .val (.int (e0_1 p1)), .val (.int (e0_2 p1)), .unset, .unset, .unset]) rfl ?_
      show Steps p.tables e below (T23.setTop (mkF m 75 #[.val (.int p0), .val (.int p1), .val (.int p2), .val (.int p3), .val (.int (p0 &&& (15 : Int32))), .val (.int (f1 (1 : Int32) (p1 &&& (2147483647 : Int32)))), .val (.ref b2), .val (.int (f4 p2 p3)), .val (.int (f1 p2 p3)), .val (.int (e0_1 p1)), .val (.int (e0_2 p1)), .unset, .unset, .unset] [])) _
      refine XS.aload X23.here hx rfl (hb hby at_75) rfl rfl ?_
      show Steps p.tables e below (T23.setTop (mkF m 77 #[.val (.int p0), .val (.int p1), .val (.int p2), .val (.int p3), .val (.int (p0 &&& (15 : Int32))), .val (.int (f1 (1 : Int32) (p1 &&& (2147483647 : Int32)))), .val (.ref b2), .val (.int (f4 p2 p3)), .val (.int (f1 p2 p3)), .val (.int (e0_1 p1)), .val (.int (e0_2 p1)), .unset, .unset, .unset] [(.ref b2)])) _
      refine XS.iload X23.here hx rfl (hb hby at_77) rfl ?_
      show Steps p.tables e below (T23.setTop (mkF m 79 #[.val (.int p0), .val (.int p1), .val (.int p2), .val (.int p3), .val (.int (p0 &&& (15 : Int32))), .val (.int (f1 (1 : Int32) (p1 &&& (2147483647 : Int32)))), .val (.ref b2), .val (.int (f4 p2 p3)), .val (.int (f1 p2 p3)), .val (.int (e0_1 p1)), .val (.int (e0_2 p1)), .unset, .unset, .unset] [(.int (f1 p2 p3)), (.ref b2)])) _
      refine st24.trans ?_
      show Steps p.tables e below (T24.setTop (mkF m 82 #[.val (.int p0), .val (.int p1), .val (.int p2), .val (.int p3), .val (.int (p0 &&& (15 : Int32))), .val (.int (f1 (1 : Int32) (p1 &&& (2147483647 : Int32)))), .val (.ref b2), .val (.int (f4 p2 p3)), .val (.int (f1 p2 p3)), .val (.int (e0_1 p1)), .val (.int (e0_2 p1)), .unset, .unset, .unset] [(.int (f5 (f1 p2 p3) (f1 (1 : Int32) (p1 &&& (2147483647 : Int32)))))])) _
      refine XS.istore X24.here hx rfl (hb hby at_82) rfl (l' := #[.val (.int p0), .val (.int p1), .val (.int p2), .val (.int p3), .val (.int (p0 &&& (15 : Int32))), .val (.int (f1 (1 : Int32) (p1 &&& (2147483647 : Int32)))), .val (.ref b2), .val (.int (f4 p2 p3)), .val (.int (f1 p2 p3)), .val (.int (e0_1 p1)), .val (.int (e0_2 p1)), .val (.int (e0_3 p1 p2 p3)), .unset, .unset]) rfl ?_
      show Steps p.tables e below (T24.setTop (mkF m 84 #[.val (.int p0), .val (.int p1), .val (.int p2), .val (.int p3), .val (.int (p0 &&& (15 : Int32))), .val (.int (f1 (1 : Int32) (p1 &&& (2147483647 : Int32)))), .val (.ref b2), .val (.int (f4 p2 p3)), .val (.int (f1 p2 p3)), .val (.int (e0_1 p1)), .val (.int (e0_2 p1)), .val (.int (e0_3 p1 p2 p3)), .unset, .unset] [])) _
      refine XS.aload X24.here hx rfl (hb hby at_84) rfl rfl ?_
      show Steps p.tables e below (T24.setTop (mkF m 86 #[.val (.int p0), .val (.int p1), .val (.int p2), .val (.int p3), .val (.int (p0 &&& (15 : Int32))), .val (.int (f1 (1 : Int32) (p1 &&& (2147483647 : Int32)))), .val (.ref b2), .val (.int (f4 p2 p3)), .val (.int (f1 p2 p3)), .val (.int (e0_1 p1)), .val (.int (e0_2 p1)), .val (.int (e0_3 p1 p2 p3)), .unset, .unset] [(.ref b2)])) _
      refine XS.iload X24.here hx rfl (hb hby at_86) rfl ?_
      show Steps p.tables e below (T24.setTop (mkF m 88 #[.val (.int p0), .val (.int p1), .val (.int p2), .val (.int p3), .val (.int (p0 &&& (15 : Int32))), .val (.int (f1 (1 : Int32) (p1 &&& (2147483647 : Int32)))), .val (.ref b2), .val (.int (f4 p2 p3)), .val (.int (f1 p2 p3)), .val (.int (e0_1 p1)), .val (.int (e0_2 p1)), .val (.int (e0_3 p1 p2 p3)), .unset, .unset] [(.int (f4 p2 p3)), (.ref b2)])) _
      refine st25.trans ?_
      show Steps p.tables e below (T25.setTop (mkF m 91 #[.val (.int p0), .val (.int p1), .val (.int p2), .val (.int p3), .val (.int (p0 &&& (15 : Int32))), .val (.int (f1 (1 : Int32) (p1 &&& (2147483647 : Int32)))), .val (.ref b2), .val (.int (f4 p2 p3)), .val (.int (f1 p2 p3)), .val (.int (e0_1 p1)), .val (.int (e0_2 p1)), .val (.int (e0_3 p1 p2 p3)), .unset, .unset] [(.int (f5 (f4 p2 p3) (f1 (1 : Int32) (p1 &&& (2147483647 : Int32)))))])) _
      refine XS.istore X25.here hx rfl (hb hby at_91) rfl (l' := #[.val (.int p0), .val (.int p1), .val (.int p2), .val (.int p3), .val (.int (p0 &&& (15 : Int32))), .val (.int (f1 (1 : Int32) (p1 &&& (2147483647 : Int32)))), .val (.ref b2), .val (.int (f4 p2 p3)), .val (.int (f1 p2 p3)), .val (.int (e0_1 p1)), .val (.int (e0_2 p1)), .val (.int (e0_3 p1 p2 p3)), .val (.int (e0_4 p1 p2 p3)), .unset]) rfl ?_
      show Steps p.tables e below (T25.setTop (mkF m 93 #[.val (.int p0), .val (.int p1), .val (.int p2), .val (.int p3), .val (.int (p0 &&& (15 : Int32))), .val (.int (f1 (1 : Int32) (p1 &&& (2147483647 : Int32)))), .val (.ref b2), .val (.int (f4 p2 p3)), .val (.int (f1 p2 p3)), .val (.int (e0_1 p1)), .val (.int (e0_2 p1)), .val (.int (e0_3 p1 p2 p3)), .val (.int (e0_4 p1 p2 p3)), .unset] [])) _
      refine XS.iload X25.here hx rfl (hb hby at_93) rfl ?_
      exact kt)
  by_cases hc95_27 : (e0_3 p1 p2 p3) = (0 : Int32)
  · have pre28 : ∀ t, Steps p.tables e below (T25.setTop (mkF m 112 #[.val (.int p0), .val (.int p1), .val (.int p2), .val (.int p3), .val (.int (p0 &&& (15 : Int32))), .val (.int (f1 (1 : Int32) (p1 &&& (2147483647 : Int32)))), .val (.ref b2), .val (.int (f4 p2 p3)), .val (.int (f1 p2 p3)), .val (.int (e0_1 p1)), .val (.int (e0_2 p1)), .val (.int (e0_3 p1 p2 p3)), .val (.int (e0_4 p1 p2 p3)), .val (.int (1 : Int32))] [(.int (e0_1 p1))])) t → Steps p.tables e below (s₁.setTop (entryFrame m #[(.int p0), (.int p1), (.int p2), (.int p3)] maxLocals)) t := fun t kt => pre26 t (by
        show Steps p.tables e below (T25.setTop (mkF m 95 #[.val (.int p0), .val (.int p1), .val (.int p2), .val (.int p3), .val (.int (p0 &&& (15 : Int32))), .val (.int (f1 (1 : Int32) (p1 &&& (2147483647 : Int32)))), .val (.ref b2), .val (.int (f4 p2 p3)), .val (.int (f1 p2 p3)), .val (.int (e0_1 p1)), .val (.int (e0_2 p1)), .val (.int (e0_3 p1 p2 p3)), .val (.int (e0_4 p1 p2 p3)), .unset] [(.int (e0_3 p1 p2 p3))])) _
        refine XS.ifYes X25.here hx rfl (pc0 := 95) (pc' := 103) rfl (hb hby at_95) rfl ((if0 _ _).trans (teq hc95_27).1) (by decide) (by decide) ?_
        show Steps p.tables e below (T25.setTop (mkF m 103 #[.val (.int p0), .val (.int p1), .val (.int p2), .val (.int p3), .val (.int (p0 &&& (15 : Int32))), .val (.int (f1 (1 : Int32) (p1 &&& (2147483647 : Int32)))), .val (.ref b2), .val (.int (f4 p2 p3)), .val (.int (f1 p2 p3)), .val (.int (e0_1 p1)), .val (.int (e0_2 p1)), .val (.int (e0_3 p1 p2 p3)), .val (.int (e0_4 p1 p2 p3)), .unset] [])) _
        refine XS.iconst X25.here hx rfl (hb hby at_103) ?_
        show Steps p.tables e below (T25.setTop (mkF m 104 #[.val (.int p0), .val (.int p1), .val (.int p2), .val (.int p3), .val (.int (p0 &&& (15 : Int32))), .val (.int (f1 (1 : Int32) (p1 &&& (2147483647 : Int32)))), .val (.ref b2), .val (.int (f4 p2 p3)), .val (.int (f1 p2 p3)), .val (.int (e0_1 p1)), .val (.int (e0_2 p1)), .val (.int (e0_3 p1 p2 p3)), .val (.int (e0_4 p1 p2 p3)), .unset] [(.int (1 : Int32))])) _
        refine XS.goto X25.here hx rfl (pc0 := 104) (pc' := 108) rfl (hb hby at_104) (by decide) (by decide) ?_
        show Steps p.tables e below (T25.setTop (mkF m 108 #[.val (.int p0), .val (.int p1), .val (.int p2), .val (.int p3), .val (.int (p0 &&& (15 : Int32))), .val (.int (f1 (1 : Int32) (p1 &&& (2147483647 : Int32)))), .val (.ref b2), .val (.int (f4 p2 p3)), .val (.int (f1 p2 p3)), .val (.int (e0_1 p1)), .val (.int (e0_2 p1)), .val (.int (e0_3 p1 p2 p3)), .val (.int (e0_4 p1 p2 p3)), .unset] [(.int (1 : Int32))])) _
        refine XS.istore X25.here hx rfl (hb hby at_108) rfl (l' := #[.val (.int p0), .val (.int p1), .val (.int p2), .val (.int p3), .val (.int (p0 &&& (15 : Int32))), .val (.int (f1 (1 : Int32) (p1 &&& (2147483647 : Int32)))), .val (.ref b2), .val (.int (f4 p2 p3)), .val (.int (f1 p2 p3)), .val (.int (e0_1 p1)), .val (.int (e0_2 p1)), .val (.int (e0_3 p1 p2 p3)), .val (.int (e0_4 p1 p2 p3)), .val (.int (1 : Int32))]) rfl ?_
        show Steps p.tables e below (T25.setTop (mkF m 110 #[.val (.int p0), .val (.int p1), .val (.int p2), .val (.int p3), .val (.int (p0 &&& (15 : Int32))), .val (.int (f1 (1 : Int32) (p1 &&& (2147483647 : Int32)))), .val (.ref b2), .val (.int (f4 p2 p3)), .val (.int (f1 p2 p3)), .val (.int (e0_1 p1)), .val (.int (e0_2 p1)), .val (.int (e0_3 p1 p2 p3)), .val (.int (e0_4 p1 p2 p3)), .val (.int (1 : Int32))] [])) _
        refine XS.iload X25.here hx rfl (hb hby at_110) rfl ?_
        exact kt)
    by_cases hc112_29 : (e0_1 p1) = (0 : Int32)
    · obtain ⟨fs, hr, hrun, hended, hW, hsame⟩ := X25.leave (v := some (.int (0 : Int32))) (fun h => by rw [Bd.returns] at h; cases h)
      have hv51 : (f0 p1 p2 p3) = (0 : Int32) := by rw [f0, if_pos hc95_27, if_pos hc112_29]
      refine ⟨_, _, pre28 _ ?_, hrun, hended, _, _, rfl, ?_, ⟨_, rfl⟩, hW, hsame.mono (by decide) (by decide)⟩
      · show Steps p.tables e below (T25.setTop (mkF m 112 #[.val (.int p0), .val (.int p1), .val (.int p2), .val (.int p3), .val (.int (p0 &&& (15 : Int32))), .val (.int (f1 (1 : Int32) (p1 &&& (2147483647 : Int32)))), .val (.ref b2), .val (.int (f4 p2 p3)), .val (.int (f1 p2 p3)), .val (.int (e0_1 p1)), .val (.int (e0_2 p1)), .val (.int (e0_3 p1 p2 p3)), .val (.int (e0_4 p1 p2 p3)), .val (.int (1 : Int32))] [(.int (e0_1 p1))])) _
        refine XS.ifYes X25.here hx rfl (pc0 := 112) (pc' := 139) rfl (hb hby at_112) rfl ((if0 _ _).trans (teq hc112_29).1) (by decide) (by decide) ?_
        show Steps p.tables e below (T25.setTop (mkF m 139 #[.val (.int p0), .val (.int p1), .val (.int p2), .val (.int p3), .val (.int (p0 &&& (15 : Int32))), .val (.int (f1 (1 : Int32) (p1 &&& (2147483647 : Int32)))), .val (.ref b2), .val (.int (f4 p2 p3)), .val (.int (f1 p2 p3)), .val (.int (e0_1 p1)), .val (.int (e0_2 p1)), .val (.int (e0_3 p1 p2 p3)), .val (.int (e0_4 p1 p2 p3)), .val (.int (1 : Int32))] [])) _
        refine XS.iconst X25.here hx rfl (hb hby at_139) ?_
        show Steps p.tables e below (T25.setTop (mkF m 140 #[.val (.int p0), .val (.int p1), .val (.int p2), .val (.int p3), .val (.int (p0 &&& (15 : Int32))), .val (.int (f1 (1 : Int32) (p1 &&& (2147483647 : Int32)))), .val (.ref b2), .val (.int (f4 p2 p3)), .val (.int (f1 p2 p3)), .val (.int (e0_1 p1)), .val (.int (e0_2 p1)), .val (.int (e0_3 p1 p2 p3)), .val (.int (e0_4 p1 p2 p3)), .val (.int (1 : Int32))] [(.int (0 : Int32))])) _
        exact retN X25 hx (t := .boolean) Bd.returns (by simp) (hb hby at_140) hr
      · show Q0 Z p0 p1 p2 p3 h0 n0 _ T25.heap _
        rw [e25q]
        exact ⟨congrArg (fun q => some (Value.int q)) hv51.symm, N25⟩
    · have pre30 : ∀ t, Steps p.tables e below (T25.setTop (mkF m 117 #[.val (.int p0), .val (.int p1), .val (.int p2), .val (.int p3), .val (.int (p0 &&& (15 : Int32))), .val (.int (f1 (1 : Int32) (p1 &&& (2147483647 : Int32)))), .val (.ref b2), .val (.int (f4 p2 p3)), .val (.int (f1 p2 p3)), .val (.int (e0_1 p1)), .val (.int (e0_2 p1)), .val (.int (e0_3 p1 p2 p3)), .val (.int (e0_4 p1 p2 p3)), .val (.int (1 : Int32))] [(.int (e0_2 p1))])) t → Steps p.tables e below (s₁.setTop (entryFrame m #[(.int p0), (.int p1), (.int p2), (.int p3)] maxLocals)) t := fun t kt => pre28 t (by
          show Steps p.tables e below (T25.setTop (mkF m 112 #[.val (.int p0), .val (.int p1), .val (.int p2), .val (.int p3), .val (.int (p0 &&& (15 : Int32))), .val (.int (f1 (1 : Int32) (p1 &&& (2147483647 : Int32)))), .val (.ref b2), .val (.int (f4 p2 p3)), .val (.int (f1 p2 p3)), .val (.int (e0_1 p1)), .val (.int (e0_2 p1)), .val (.int (e0_3 p1 p2 p3)), .val (.int (e0_4 p1 p2 p3)), .val (.int (1 : Int32))] [(.int (e0_1 p1))])) _
          refine XS.ifNo X25.here hx rfl (hb hby at_112) rfl ((if0 _ _).trans (feq hc112_29).1) ?_
          show Steps p.tables e below (T25.setTop (mkF m 115 #[.val (.int p0), .val (.int p1), .val (.int p2), .val (.int p3), .val (.int (p0 &&& (15 : Int32))), .val (.int (f1 (1 : Int32) (p1 &&& (2147483647 : Int32)))), .val (.ref b2), .val (.int (f4 p2 p3)), .val (.int (f1 p2 p3)), .val (.int (e0_1 p1)), .val (.int (e0_2 p1)), .val (.int (e0_3 p1 p2 p3)), .val (.int (e0_4 p1 p2 p3)), .val (.int (1 : Int32))] [])) _
          refine XS.iload X25.here hx rfl (hb hby at_115) rfl ?_
          exact kt)
      by_cases hc117_31 : (e0_2 p1) = (0 : Int32)
      · have pre32 : ∀ t, Steps p.tables e below (T25.setTop (mkF m 122 #[.val (.int p0), .val (.int p1), .val (.int p2), .val (.int p3), .val (.int (p0 &&& (15 : Int32))), .val (.int (f1 (1 : Int32) (p1 &&& (2147483647 : Int32)))), .val (.ref b2), .val (.int (f4 p2 p3)), .val (.int (f1 p2 p3)), .val (.int (e0_1 p1)), .val (.int (e0_2 p1)), .val (.int (e0_3 p1 p2 p3)), .val (.int (e0_4 p1 p2 p3)), .val (.int (1 : Int32))] [(.int (1 : Int32))])) t → Steps p.tables e below (s₁.setTop (entryFrame m #[(.int p0), (.int p1), (.int p2), (.int p3)] maxLocals)) t := fun t kt => pre30 t (by
            show Steps p.tables e below (T25.setTop (mkF m 117 #[.val (.int p0), .val (.int p1), .val (.int p2), .val (.int p3), .val (.int (p0 &&& (15 : Int32))), .val (.int (f1 (1 : Int32) (p1 &&& (2147483647 : Int32)))), .val (.ref b2), .val (.int (f4 p2 p3)), .val (.int (f1 p2 p3)), .val (.int (e0_1 p1)), .val (.int (e0_2 p1)), .val (.int (e0_3 p1 p2 p3)), .val (.int (e0_4 p1 p2 p3)), .val (.int (1 : Int32))] [(.int (e0_2 p1))])) _
            refine XS.ifNo X25.here hx rfl (hb hby at_117) rfl ((if0 _ _).trans (teq hc117_31).2) ?_
            show Steps p.tables e below (T25.setTop (mkF m 120 #[.val (.int p0), .val (.int p1), .val (.int p2), .val (.int p3), .val (.int (p0 &&& (15 : Int32))), .val (.int (f1 (1 : Int32) (p1 &&& (2147483647 : Int32)))), .val (.ref b2), .val (.int (f4 p2 p3)), .val (.int (f1 p2 p3)), .val (.int (e0_1 p1)), .val (.int (e0_2 p1)), .val (.int (e0_3 p1 p2 p3)), .val (.int (e0_4 p1 p2 p3)), .val (.int (1 : Int32))] [])) _
            refine XS.iload X25.here hx rfl (hb hby at_120) rfl ?_
            exact kt)
        obtain ⟨cq33, kq33, q33a, q33b, q33c⟩ := isOf hZ e25q (((((E_b2.ext E5).ext E8).ext E11).ext E14).keep K17q)
        obtain ⟨_, _, ⟨T33, L33, k33, n33⟩, -, X33, ⟨Lc33, hQ33, l33, y33, z33⟩, st33⟩ := X25.virtualBack hx (y := (⟨"com/example/cabweave/cabweave/Network", "firstThruNode", "()I"⟩ : MethodName)) (z := (⟨"com/example/cabweave/cabweave/Network", "firstThruNode", "()I"⟩ : MethodName)) hown (mvT hZ (hw _ (List.mem_of_getElem? (i := 48) rfl))) (mvT hZ (hw _ (List.mem_of_getElem? (i := 49) rfl))) (notFace_of_selects (args := #[]) (mvT hZ (hw _ (List.mem_of_getElem? (i := 51) rfl)))) (mvT hZ (hw _ (List.mem_of_getElem? (i := 51) rfl))) (mvT hZ (hw _ (List.mem_of_getElem? (i := 50) rfl))) (by decide) (backOf (W := 0) (rm6 l Z a0 hw [] b2 (f1 (1 : Int32) (p1 &&& (2147483647 : Int32))) T17.heap n0 Z19 G17_1) hZ (hw _ (List.mem_of_getElem? (i := 52) rfl)) (hw _ (List.mem_of_getElem? (i := 7) rfl)) (by decide) (by decide)) q33a q33c (g := (mkF m 127 #[.val (.int p0), .val (.int p1), .val (.int p2), .val (.int p3), .val (.int (p0 &&& (15 : Int32))), .val (.int (f1 (1 : Int32) (p1 &&& (2147483647 : Int32)))), .val (.ref b2), .val (.int (f4 p2 p3)), .val (.int (f1 p2 p3)), .val (.int (e0_1 p1)), .val (.int (e0_2 p1)), .val (.int (e0_3 p1 p2 p3)), .val (.int (e0_4 p1 p2 p3)), .val (.int (1 : Int32))] [(.ref b2)])) rfl (by rw [hml]; rfl) (Steps.refl _) (argsL := []) (rest := []) (lenOf pd_0_3 rfl) rfl (by show 2 * 0 + _ ≤ _; exact Nat.le_of_eq rfl) (hb hby at_127) (fun _ _ => ⟨rfl, e25q, (by decide : 11 + 0 ≤ _), (by decide : 41 + 0 ≤ _)⟩)
        dsimp only [Pt.U, Pt.locs, Pt.cells, Pt.slots] at X33 l33 y33 z33 st33 hQ33
        subst l33 y33 z33
        obtain ⟨rfl, N33q, e33q⟩ := hQ33
        have N33 := Fr.app N25 N33q
        have pre34 : ∀ t, Steps p.tables e below (T33.setTop (mkF m 132 #[.val (.int p0), .val (.int p1), .val (.int p2), .val (.int p3), .val (.int (p0 &&& (15 : Int32))), .val (.int (f1 (1 : Int32) (p1 &&& (2147483647 : Int32)))), .val (.ref b2), .val (.int (f4 p2 p3)), .val (.int (f1 p2 p3)), .val (.int (e0_1 p1)), .val (.int (e0_2 p1)), .val (.int (e0_3 p1 p2 p3)), .val (.int (e0_4 p1 p2 p3)), .val (.int (1 : Int32))] [(.int (f1 (1 : Int32) (p1 &&& (2147483647 : Int32)))), (.int (f1 (1 : Int32) (p1 &&& (2147483647 : Int32))))])) t → Steps p.tables e below (s₁.setTop (entryFrame m #[(.int p0), (.int p1), (.int p2), (.int p3)] maxLocals)) t := fun t kt => pre32 t (by
            show Steps p.tables e below (T25.setTop (mkF m 122 #[.val (.int p0), .val (.int p1), .val (.int p2), .val (.int p3), .val (.int (p0 &&& (15 : Int32))), .val (.int (f1 (1 : Int32) (p1 &&& (2147483647 : Int32)))), .val (.ref b2), .val (.int (f4 p2 p3)), .val (.int (f1 p2 p3)), .val (.int (e0_1 p1)), .val (.int (e0_2 p1)), .val (.int (e0_3 p1 p2 p3)), .val (.int (e0_4 p1 p2 p3)), .val (.int (1 : Int32))] [(.int (1 : Int32))])) _
            refine XS.ifNo X25.here hx rfl (hb hby at_122) rfl ((if0 _ _).trans (feq (by decide : ¬ ((1 : Int32) = (0 : Int32)))).1) ?_
            show Steps p.tables e below (T25.setTop (mkF m 125 #[.val (.int p0), .val (.int p1), .val (.int p2), .val (.int p3), .val (.int (p0 &&& (15 : Int32))), .val (.int (f1 (1 : Int32) (p1 &&& (2147483647 : Int32)))), .val (.ref b2), .val (.int (f4 p2 p3)), .val (.int (f1 p2 p3)), .val (.int (e0_1 p1)), .val (.int (e0_2 p1)), .val (.int (e0_3 p1 p2 p3)), .val (.int (e0_4 p1 p2 p3)), .val (.int (1 : Int32))] [])) _
            refine XS.aload X25.here hx rfl (hb hby at_125) rfl rfl ?_
            show Steps p.tables e below (T25.setTop (mkF m 127 #[.val (.int p0), .val (.int p1), .val (.int p2), .val (.int p3), .val (.int (p0 &&& (15 : Int32))), .val (.int (f1 (1 : Int32) (p1 &&& (2147483647 : Int32)))), .val (.ref b2), .val (.int (f4 p2 p3)), .val (.int (f1 p2 p3)), .val (.int (e0_1 p1)), .val (.int (e0_2 p1)), .val (.int (e0_3 p1 p2 p3)), .val (.int (e0_4 p1 p2 p3)), .val (.int (1 : Int32))] [(.ref b2)])) _
            refine st33.trans ?_
            show Steps p.tables e below (T33.setTop (mkF m 130 #[.val (.int p0), .val (.int p1), .val (.int p2), .val (.int p3), .val (.int (p0 &&& (15 : Int32))), .val (.int (f1 (1 : Int32) (p1 &&& (2147483647 : Int32)))), .val (.ref b2), .val (.int (f4 p2 p3)), .val (.int (f1 p2 p3)), .val (.int (e0_1 p1)), .val (.int (e0_2 p1)), .val (.int (e0_3 p1 p2 p3)), .val (.int (e0_4 p1 p2 p3)), .val (.int (1 : Int32))] [(.int (f1 (1 : Int32) (p1 &&& (2147483647 : Int32))))])) _
            refine XS.iload X33.here hx rfl (hb hby at_130) rfl ?_
            exact kt)
        by_cases hc132_35 : (f1 (1 : Int32) (p1 &&& (2147483647 : Int32))) = (f1 (1 : Int32) (p1 &&& (2147483647 : Int32)))
        · obtain ⟨fs, hr, hrun, hended, hW, hsame⟩ := X33.leave (v := some (.int (1 : Int32))) (fun h => by rw [Bd.returns] at h; cases h)
          have hv52 : (f0 p1 p2 p3) = (1 : Int32) := by rw [f0, if_pos hc95_27, if_neg hc112_29, if_pos hc117_31, if_pos hc132_35]
          refine ⟨_, _, pre34 _ ?_, hrun, hended, _, _, rfl, ?_, ⟨_, rfl⟩, hW, hsame.mono (by decide) (by decide)⟩
          · show Steps p.tables e below (T33.setTop (mkF m 132 #[.val (.int p0), .val (.int p1), .val (.int p2), .val (.int p3), .val (.int (p0 &&& (15 : Int32))), .val (.int (f1 (1 : Int32) (p1 &&& (2147483647 : Int32)))), .val (.ref b2), .val (.int (f4 p2 p3)), .val (.int (f1 p2 p3)), .val (.int (e0_1 p1)), .val (.int (e0_2 p1)), .val (.int (e0_3 p1 p2 p3)), .val (.int (e0_4 p1 p2 p3)), .val (.int (1 : Int32))] [(.int (f1 (1 : Int32) (p1 &&& (2147483647 : Int32)))), (.int (f1 (1 : Int32) (p1 &&& (2147483647 : Int32))))])) _
            refine XS.icmpNo X33.here hx rfl (hb hby at_132) rfl (teq hc132_35).2 ?_
            show Steps p.tables e below (T33.setTop (mkF m 135 #[.val (.int p0), .val (.int p1), .val (.int p2), .val (.int p3), .val (.int (p0 &&& (15 : Int32))), .val (.int (f1 (1 : Int32) (p1 &&& (2147483647 : Int32)))), .val (.ref b2), .val (.int (f4 p2 p3)), .val (.int (f1 p2 p3)), .val (.int (e0_1 p1)), .val (.int (e0_2 p1)), .val (.int (e0_3 p1 p2 p3)), .val (.int (e0_4 p1 p2 p3)), .val (.int (1 : Int32))] [])) _
            refine XS.iconst X33.here hx rfl (hb hby at_135) ?_
            show Steps p.tables e below (T33.setTop (mkF m 136 #[.val (.int p0), .val (.int p1), .val (.int p2), .val (.int p3), .val (.int (p0 &&& (15 : Int32))), .val (.int (f1 (1 : Int32) (p1 &&& (2147483647 : Int32)))), .val (.ref b2), .val (.int (f4 p2 p3)), .val (.int (f1 p2 p3)), .val (.int (e0_1 p1)), .val (.int (e0_2 p1)), .val (.int (e0_3 p1 p2 p3)), .val (.int (e0_4 p1 p2 p3)), .val (.int (1 : Int32))] [(.int (1 : Int32))])) _
            refine XS.goto X33.here hx rfl (pc0 := 136) (pc' := 140) rfl (hb hby at_136) (by decide) (by decide) ?_
            show Steps p.tables e below (T33.setTop (mkF m 140 #[.val (.int p0), .val (.int p1), .val (.int p2), .val (.int p3), .val (.int (p0 &&& (15 : Int32))), .val (.int (f1 (1 : Int32) (p1 &&& (2147483647 : Int32)))), .val (.ref b2), .val (.int (f4 p2 p3)), .val (.int (f1 p2 p3)), .val (.int (e0_1 p1)), .val (.int (e0_2 p1)), .val (.int (e0_3 p1 p2 p3)), .val (.int (e0_4 p1 p2 p3)), .val (.int (1 : Int32))] [(.int (1 : Int32))])) _
            exact retN X33 hx (t := .boolean) Bd.returns (by simp) (hb hby at_140) hr
          · show Q0 Z p0 p1 p2 p3 h0 n0 _ T33.heap _
            rw [e33q]
            exact ⟨congrArg (fun q => some (Value.int q)) hv52.symm, N33⟩
        · obtain ⟨fs, hr, hrun, hended, hW, hsame⟩ := X33.leave (v := some (.int (0 : Int32))) (fun h => by rw [Bd.returns] at h; cases h)
          have hv53 : (f0 p1 p2 p3) = (0 : Int32) := by rw [f0, if_pos hc95_27, if_neg hc112_29, if_pos hc117_31, if_neg hc132_35]
          refine ⟨_, _, pre34 _ ?_, hrun, hended, _, _, rfl, ?_, ⟨_, rfl⟩, hW, hsame.mono (by decide) (by decide)⟩
          · show Steps p.tables e below (T33.setTop (mkF m 132 #[.val (.int p0), .val (.int p1), .val (.int p2), .val (.int p3), .val (.int (p0 &&& (15 : Int32))), .val (.int (f1 (1 : Int32) (p1 &&& (2147483647 : Int32)))), .val (.ref b2), .val (.int (f4 p2 p3)), .val (.int (f1 p2 p3)), .val (.int (e0_1 p1)), .val (.int (e0_2 p1)), .val (.int (e0_3 p1 p2 p3)), .val (.int (e0_4 p1 p2 p3)), .val (.int (1 : Int32))] [(.int (f1 (1 : Int32) (p1 &&& (2147483647 : Int32)))), (.int (f1 (1 : Int32) (p1 &&& (2147483647 : Int32))))])) _
            refine XS.icmpYes X33.here hx rfl (pc0 := 132) (pc' := 139) rfl (hb hby at_132) rfl (feq hc132_35).2 (by decide) (by decide) ?_
            show Steps p.tables e below (T33.setTop (mkF m 139 #[.val (.int p0), .val (.int p1), .val (.int p2), .val (.int p3), .val (.int (p0 &&& (15 : Int32))), .val (.int (f1 (1 : Int32) (p1 &&& (2147483647 : Int32)))), .val (.ref b2), .val (.int (f4 p2 p3)), .val (.int (f1 p2 p3)), .val (.int (e0_1 p1)), .val (.int (e0_2 p1)), .val (.int (e0_3 p1 p2 p3)), .val (.int (e0_4 p1 p2 p3)), .val (.int (1 : Int32))] [])) _
            refine XS.iconst X33.here hx rfl (hb hby at_139) ?_
            show Steps p.tables e below (T33.setTop (mkF m 140 #[.val (.int p0), .val (.int p1), .val (.int p2), .val (.int p3), .val (.int (p0 &&& (15 : Int32))), .val (.int (f1 (1 : Int32) (p1 &&& (2147483647 : Int32)))), .val (.ref b2), .val (.int (f4 p2 p3)), .val (.int (f1 p2 p3)), .val (.int (e0_1 p1)), .val (.int (e0_2 p1)), .val (.int (e0_3 p1 p2 p3)), .val (.int (e0_4 p1 p2 p3)), .val (.int (1 : Int32))] [(.int (0 : Int32))])) _
            exact retN X33 hx (t := .boolean) Bd.returns (by simp) (hb hby at_140) hr
          · show Q0 Z p0 p1 p2 p3 h0 n0 _ T33.heap _
            rw [e33q]
            exact ⟨congrArg (fun q => some (Value.int q)) hv53.symm, N33⟩
      · obtain ⟨fs, hr, hrun, hended, hW, hsame⟩ := X25.leave (v := some (.int (0 : Int32))) (fun h => by rw [Bd.returns] at h; cases h)
        have hv54 : (f0 p1 p2 p3) = (0 : Int32) := by rw [f0, if_pos hc95_27, if_neg hc112_29, if_neg hc117_31]
        refine ⟨_, _, pre30 _ ?_, hrun, hended, _, _, rfl, ?_, ⟨_, rfl⟩, hW, hsame.mono (by decide) (by decide)⟩
        · show Steps p.tables e below (T25.setTop (mkF m 117 #[.val (.int p0), .val (.int p1), .val (.int p2), .val (.int p3), .val (.int (p0 &&& (15 : Int32))), .val (.int (f1 (1 : Int32) (p1 &&& (2147483647 : Int32)))), .val (.ref b2), .val (.int (f4 p2 p3)), .val (.int (f1 p2 p3)), .val (.int (e0_1 p1)), .val (.int (e0_2 p1)), .val (.int (e0_3 p1 p2 p3)), .val (.int (e0_4 p1 p2 p3)), .val (.int (1 : Int32))] [(.int (e0_2 p1))])) _
          refine XS.ifYes X25.here hx rfl (pc0 := 117) (pc' := 139) rfl (hb hby at_117) rfl ((if0 _ _).trans (feq hc117_31).2) (by decide) (by decide) ?_
          show Steps p.tables e below (T25.setTop (mkF m 139 #[.val (.int p0), .val (.int p1), .val (.int p2), .val (.int p3), .val (.int (p0 &&& (15 : Int32))), .val (.int (f1 (1 : Int32) (p1 &&& (2147483647 : Int32)))), .val (.ref b2), .val (.int (f4 p2 p3)), .val (.int (f1 p2 p3)), .val (.int (e0_1 p1)), .val (.int (e0_2 p1)), .val (.int (e0_3 p1 p2 p3)), .val (.int (e0_4 p1 p2 p3)), .val (.int (1 : Int32))] [])) _
          refine XS.iconst X25.here hx rfl (hb hby at_139) ?_
          show Steps p.tables e below (T25.setTop (mkF m 140 #[.val (.int p0), .val (.int p1), .val (.int p2), .val (.int p3), .val (.int (p0 &&& (15 : Int32))), .val (.int (f1 (1 : Int32) (p1 &&& (2147483647 : Int32)))), .val (.ref b2), .val (.int (f4 p2 p3)), .val (.int (f1 p2 p3)), .val (.int (e0_1 p1)), .val (.int (e0_2 p1)), .val (.int (e0_3 p1 p2 p3)), .val (.int (e0_4 p1 p2 p3)), .val (.int (1 : Int32))] [(.int (0 : Int32))])) _
          exact retN X25 hx (t := .boolean) Bd.returns (by simp) (hb hby at_140) hr
        · show Q0 Z p0 p1 p2 p3 h0 n0 _ T25.heap _
          rw [e25q]
          exact ⟨congrArg (fun q => some (Value.int q)) hv54.symm, N25⟩
  · have pre36 : ∀ t, Steps p.tables e below (T25.setTop (mkF m 100 #[.val (.int p0), .val (.int p1), .val (.int p2), .val (.int p3), .val (.int (p0 &&& (15 : Int32))), .val (.int (f1 (1 : Int32) (p1 &&& (2147483647 : Int32)))), .val (.ref b2), .val (.int (f4 p2 p3)), .val (.int (f1 p2 p3)), .val (.int (e0_1 p1)), .val (.int (e0_2 p1)), .val (.int (e0_3 p1 p2 p3)), .val (.int (e0_4 p1 p2 p3)), .unset] [(.int (e0_4 p1 p2 p3))])) t → Steps p.tables e below (s₁.setTop (entryFrame m #[(.int p0), (.int p1), (.int p2), (.int p3)] maxLocals)) t := fun t kt => pre26 t (by
        show Steps p.tables e below (T25.setTop (mkF m 95 #[.val (.int p0), .val (.int p1), .val (.int p2), .val (.int p3), .val (.int (p0 &&& (15 : Int32))), .val (.int (f1 (1 : Int32) (p1 &&& (2147483647 : Int32)))), .val (.ref b2), .val (.int (f4 p2 p3)), .val (.int (f1 p2 p3)), .val (.int (e0_1 p1)), .val (.int (e0_2 p1)), .val (.int (e0_3 p1 p2 p3)), .val (.int (e0_4 p1 p2 p3)), .unset] [(.int (e0_3 p1 p2 p3))])) _
        refine XS.ifNo X25.here hx rfl (hb hby at_95) rfl ((if0 _ _).trans (feq hc95_27).1) ?_
        show Steps p.tables e below (T25.setTop (mkF m 98 #[.val (.int p0), .val (.int p1), .val (.int p2), .val (.int p3), .val (.int (p0 &&& (15 : Int32))), .val (.int (f1 (1 : Int32) (p1 &&& (2147483647 : Int32)))), .val (.ref b2), .val (.int (f4 p2 p3)), .val (.int (f1 p2 p3)), .val (.int (e0_1 p1)), .val (.int (e0_2 p1)), .val (.int (e0_3 p1 p2 p3)), .val (.int (e0_4 p1 p2 p3)), .unset] [])) _
        refine XS.iload X25.here hx rfl (hb hby at_98) rfl ?_
        exact kt)
    by_cases hc100_37 : (e0_4 p1 p2 p3) = (0 : Int32)
    · have pre38 : ∀ t, Steps p.tables e below (T25.setTop (mkF m 112 #[.val (.int p0), .val (.int p1), .val (.int p2), .val (.int p3), .val (.int (p0 &&& (15 : Int32))), .val (.int (f1 (1 : Int32) (p1 &&& (2147483647 : Int32)))), .val (.ref b2), .val (.int (f4 p2 p3)), .val (.int (f1 p2 p3)), .val (.int (e0_1 p1)), .val (.int (e0_2 p1)), .val (.int (e0_3 p1 p2 p3)), .val (.int (e0_4 p1 p2 p3)), .val (.int (0 : Int32))] [(.int (e0_1 p1))])) t → Steps p.tables e below (s₁.setTop (entryFrame m #[(.int p0), (.int p1), (.int p2), (.int p3)] maxLocals)) t := fun t kt => pre36 t (by
          show Steps p.tables e below (T25.setTop (mkF m 100 #[.val (.int p0), .val (.int p1), .val (.int p2), .val (.int p3), .val (.int (p0 &&& (15 : Int32))), .val (.int (f1 (1 : Int32) (p1 &&& (2147483647 : Int32)))), .val (.ref b2), .val (.int (f4 p2 p3)), .val (.int (f1 p2 p3)), .val (.int (e0_1 p1)), .val (.int (e0_2 p1)), .val (.int (e0_3 p1 p2 p3)), .val (.int (e0_4 p1 p2 p3)), .unset] [(.int (e0_4 p1 p2 p3))])) _
          refine XS.ifYes X25.here hx rfl (pc0 := 100) (pc' := 107) rfl (hb hby at_100) rfl ((if0 _ _).trans (teq hc100_37).1) (by decide) (by decide) ?_
          show Steps p.tables e below (T25.setTop (mkF m 107 #[.val (.int p0), .val (.int p1), .val (.int p2), .val (.int p3), .val (.int (p0 &&& (15 : Int32))), .val (.int (f1 (1 : Int32) (p1 &&& (2147483647 : Int32)))), .val (.ref b2), .val (.int (f4 p2 p3)), .val (.int (f1 p2 p3)), .val (.int (e0_1 p1)), .val (.int (e0_2 p1)), .val (.int (e0_3 p1 p2 p3)), .val (.int (e0_4 p1 p2 p3)), .unset] [])) _
          refine XS.iconst X25.here hx rfl (hb hby at_107) ?_
          show Steps p.tables e below (T25.setTop (mkF m 108 #[.val (.int p0), .val (.int p1), .val (.int p2), .val (.int p3), .val (.int (p0 &&& (15 : Int32))), .val (.int (f1 (1 : Int32) (p1 &&& (2147483647 : Int32)))), .val (.ref b2), .val (.int (f4 p2 p3)), .val (.int (f1 p2 p3)), .val (.int (e0_1 p1)), .val (.int (e0_2 p1)), .val (.int (e0_3 p1 p2 p3)), .val (.int (e0_4 p1 p2 p3)), .unset] [(.int (0 : Int32))])) _
          refine XS.istore X25.here hx rfl (hb hby at_108) rfl (l' := #[.val (.int p0), .val (.int p1), .val (.int p2), .val (.int p3), .val (.int (p0 &&& (15 : Int32))), .val (.int (f1 (1 : Int32) (p1 &&& (2147483647 : Int32)))), .val (.ref b2), .val (.int (f4 p2 p3)), .val (.int (f1 p2 p3)), .val (.int (e0_1 p1)), .val (.int (e0_2 p1)), .val (.int (e0_3 p1 p2 p3)), .val (.int (e0_4 p1 p2 p3)), .val (.int (0 : Int32))]) rfl ?_
          show Steps p.tables e below (T25.setTop (mkF m 110 #[.val (.int p0), .val (.int p1), .val (.int p2), .val (.int p3), .val (.int (p0 &&& (15 : Int32))), .val (.int (f1 (1 : Int32) (p1 &&& (2147483647 : Int32)))), .val (.ref b2), .val (.int (f4 p2 p3)), .val (.int (f1 p2 p3)), .val (.int (e0_1 p1)), .val (.int (e0_2 p1)), .val (.int (e0_3 p1 p2 p3)), .val (.int (e0_4 p1 p2 p3)), .val (.int (0 : Int32))] [])) _
          refine XS.iload X25.here hx rfl (hb hby at_110) rfl ?_
          exact kt)
      by_cases hc112_39 : (e0_1 p1) = (0 : Int32)
      · obtain ⟨fs, hr, hrun, hended, hW, hsame⟩ := X25.leave (v := some (.int (0 : Int32))) (fun h => by rw [Bd.returns] at h; cases h)
        have hv55 : (f0 p1 p2 p3) = (0 : Int32) := by rw [f0, if_neg hc95_27, if_pos hc100_37, if_pos hc112_39]
        refine ⟨_, _, pre38 _ ?_, hrun, hended, _, _, rfl, ?_, ⟨_, rfl⟩, hW, hsame.mono (by decide) (by decide)⟩
        · show Steps p.tables e below (T25.setTop (mkF m 112 #[.val (.int p0), .val (.int p1), .val (.int p2), .val (.int p3), .val (.int (p0 &&& (15 : Int32))), .val (.int (f1 (1 : Int32) (p1 &&& (2147483647 : Int32)))), .val (.ref b2), .val (.int (f4 p2 p3)), .val (.int (f1 p2 p3)), .val (.int (e0_1 p1)), .val (.int (e0_2 p1)), .val (.int (e0_3 p1 p2 p3)), .val (.int (e0_4 p1 p2 p3)), .val (.int (0 : Int32))] [(.int (e0_1 p1))])) _
          refine XS.ifYes X25.here hx rfl (pc0 := 112) (pc' := 139) rfl (hb hby at_112) rfl ((if0 _ _).trans (teq hc112_39).1) (by decide) (by decide) ?_
          show Steps p.tables e below (T25.setTop (mkF m 139 #[.val (.int p0), .val (.int p1), .val (.int p2), .val (.int p3), .val (.int (p0 &&& (15 : Int32))), .val (.int (f1 (1 : Int32) (p1 &&& (2147483647 : Int32)))), .val (.ref b2), .val (.int (f4 p2 p3)), .val (.int (f1 p2 p3)), .val (.int (e0_1 p1)), .val (.int (e0_2 p1)), .val (.int (e0_3 p1 p2 p3)), .val (.int (e0_4 p1 p2 p3)), .val (.int (0 : Int32))] [])) _
          refine XS.iconst X25.here hx rfl (hb hby at_139) ?_
          show Steps p.tables e below (T25.setTop (mkF m 140 #[.val (.int p0), .val (.int p1), .val (.int p2), .val (.int p3), .val (.int (p0 &&& (15 : Int32))), .val (.int (f1 (1 : Int32) (p1 &&& (2147483647 : Int32)))), .val (.ref b2), .val (.int (f4 p2 p3)), .val (.int (f1 p2 p3)), .val (.int (e0_1 p1)), .val (.int (e0_2 p1)), .val (.int (e0_3 p1 p2 p3)), .val (.int (e0_4 p1 p2 p3)), .val (.int (0 : Int32))] [(.int (0 : Int32))])) _
          exact retN X25 hx (t := .boolean) Bd.returns (by simp) (hb hby at_140) hr
        · show Q0 Z p0 p1 p2 p3 h0 n0 _ T25.heap _
          rw [e25q]
          exact ⟨congrArg (fun q => some (Value.int q)) hv55.symm, N25⟩
      · have pre40 : ∀ t, Steps p.tables e below (T25.setTop (mkF m 117 #[.val (.int p0), .val (.int p1), .val (.int p2), .val (.int p3), .val (.int (p0 &&& (15 : Int32))), .val (.int (f1 (1 : Int32) (p1 &&& (2147483647 : Int32)))), .val (.ref b2), .val (.int (f4 p2 p3)), .val (.int (f1 p2 p3)), .val (.int (e0_1 p1)), .val (.int (e0_2 p1)), .val (.int (e0_3 p1 p2 p3)), .val (.int (e0_4 p1 p2 p3)), .val (.int (0 : Int32))] [(.int (e0_2 p1))])) t → Steps p.tables e below (s₁.setTop (entryFrame m #[(.int p0), (.int p1), (.int p2), (.int p3)] maxLocals)) t := fun t kt => pre38 t (by
            show Steps p.tables e below (T25.setTop (mkF m 112 #[.val (.int p0), .val (.int p1), .val (.int p2), .val (.int p3), .val (.int (p0 &&& (15 : Int32))), .val (.int (f1 (1 : Int32) (p1 &&& (2147483647 : Int32)))), .val (.ref b2), .val (.int (f4 p2 p3)), .val (.int (f1 p2 p3)), .val (.int (e0_1 p1)), .val (.int (e0_2 p1)), .val (.int (e0_3 p1 p2 p3)), .val (.int (e0_4 p1 p2 p3)), .val (.int (0 : Int32))] [(.int (e0_1 p1))])) _
            refine XS.ifNo X25.here hx rfl (hb hby at_112) rfl ((if0 _ _).trans (feq hc112_39).1) ?_
            show Steps p.tables e below (T25.setTop (mkF m 115 #[.val (.int p0), .val (.int p1), .val (.int p2), .val (.int p3), .val (.int (p0 &&& (15 : Int32))), .val (.int (f1 (1 : Int32) (p1 &&& (2147483647 : Int32)))), .val (.ref b2), .val (.int (f4 p2 p3)), .val (.int (f1 p2 p3)), .val (.int (e0_1 p1)), .val (.int (e0_2 p1)), .val (.int (e0_3 p1 p2 p3)), .val (.int (e0_4 p1 p2 p3)), .val (.int (0 : Int32))] [])) _
            refine XS.iload X25.here hx rfl (hb hby at_115) rfl ?_
            exact kt)
        by_cases hc117_41 : (e0_2 p1) = (0 : Int32)
        · have pre42 : ∀ t, Steps p.tables e below (T25.setTop (mkF m 122 #[.val (.int p0), .val (.int p1), .val (.int p2), .val (.int p3), .val (.int (p0 &&& (15 : Int32))), .val (.int (f1 (1 : Int32) (p1 &&& (2147483647 : Int32)))), .val (.ref b2), .val (.int (f4 p2 p3)), .val (.int (f1 p2 p3)), .val (.int (e0_1 p1)), .val (.int (e0_2 p1)), .val (.int (e0_3 p1 p2 p3)), .val (.int (e0_4 p1 p2 p3)), .val (.int (0 : Int32))] [(.int (0 : Int32))])) t → Steps p.tables e below (s₁.setTop (entryFrame m #[(.int p0), (.int p1), (.int p2), (.int p3)] maxLocals)) t := fun t kt => pre40 t (by
              show Steps p.tables e below (T25.setTop (mkF m 117 #[.val (.int p0), .val (.int p1), .val (.int p2), .val (.int p3), .val (.int (p0 &&& (15 : Int32))), .val (.int (f1 (1 : Int32) (p1 &&& (2147483647 : Int32)))), .val (.ref b2), .val (.int (f4 p2 p3)), .val (.int (f1 p2 p3)), .val (.int (e0_1 p1)), .val (.int (e0_2 p1)), .val (.int (e0_3 p1 p2 p3)), .val (.int (e0_4 p1 p2 p3)), .val (.int (0 : Int32))] [(.int (e0_2 p1))])) _
              refine XS.ifNo X25.here hx rfl (hb hby at_117) rfl ((if0 _ _).trans (teq hc117_41).2) ?_
              show Steps p.tables e below (T25.setTop (mkF m 120 #[.val (.int p0), .val (.int p1), .val (.int p2), .val (.int p3), .val (.int (p0 &&& (15 : Int32))), .val (.int (f1 (1 : Int32) (p1 &&& (2147483647 : Int32)))), .val (.ref b2), .val (.int (f4 p2 p3)), .val (.int (f1 p2 p3)), .val (.int (e0_1 p1)), .val (.int (e0_2 p1)), .val (.int (e0_3 p1 p2 p3)), .val (.int (e0_4 p1 p2 p3)), .val (.int (0 : Int32))] [])) _
              refine XS.iload X25.here hx rfl (hb hby at_120) rfl ?_
              exact kt)
          obtain ⟨fs, hr, hrun, hended, hW, hsame⟩ := X25.leave (v := some (.int (0 : Int32))) (fun h => by rw [Bd.returns] at h; cases h)
          have hv56 : (f0 p1 p2 p3) = (0 : Int32) := by rw [f0, if_neg hc95_27, if_pos hc100_37, if_neg hc112_39, if_pos hc117_41]
          refine ⟨_, _, pre42 _ ?_, hrun, hended, _, _, rfl, ?_, ⟨_, rfl⟩, hW, hsame.mono (by decide) (by decide)⟩
          · show Steps p.tables e below (T25.setTop (mkF m 122 #[.val (.int p0), .val (.int p1), .val (.int p2), .val (.int p3), .val (.int (p0 &&& (15 : Int32))), .val (.int (f1 (1 : Int32) (p1 &&& (2147483647 : Int32)))), .val (.ref b2), .val (.int (f4 p2 p3)), .val (.int (f1 p2 p3)), .val (.int (e0_1 p1)), .val (.int (e0_2 p1)), .val (.int (e0_3 p1 p2 p3)), .val (.int (e0_4 p1 p2 p3)), .val (.int (0 : Int32))] [(.int (0 : Int32))])) _
            refine XS.ifYes X25.here hx rfl (pc0 := 122) (pc' := 139) rfl (hb hby at_122) rfl ((if0 _ _).trans (teq (by decide : ((0 : Int32) = (0 : Int32)))).1) (by decide) (by decide) ?_
            show Steps p.tables e below (T25.setTop (mkF m 139 #[.val (.int p0), .val (.int p1), .val (.int p2), .val (.int p3), .val (.int (p0 &&& (15 : Int32))), .val (.int (f1 (1 : Int32) (p1 &&& (2147483647 : Int32)))), .val (.ref b2), .val (.int (f4 p2 p3)), .val (.int (f1 p2 p3)), .val (.int (e0_1 p1)), .val (.int (e0_2 p1)), .val (.int (e0_3 p1 p2 p3)), .val (.int (e0_4 p1 p2 p3)), .val (.int (0 : Int32))] [])) _
            refine XS.iconst X25.here hx rfl (hb hby at_139) ?_
            show Steps p.tables e below (T25.setTop (mkF m 140 #[.val (.int p0), .val (.int p1), .val (.int p2), .val (.int p3), .val (.int (p0 &&& (15 : Int32))), .val (.int (f1 (1 : Int32) (p1 &&& (2147483647 : Int32)))), .val (.ref b2), .val (.int (f4 p2 p3)), .val (.int (f1 p2 p3)), .val (.int (e0_1 p1)), .val (.int (e0_2 p1)), .val (.int (e0_3 p1 p2 p3)), .val (.int (e0_4 p1 p2 p3)), .val (.int (0 : Int32))] [(.int (0 : Int32))])) _
            exact retN X25 hx (t := .boolean) Bd.returns (by simp) (hb hby at_140) hr
          · show Q0 Z p0 p1 p2 p3 h0 n0 _ T25.heap _
            rw [e25q]
            exact ⟨congrArg (fun q => some (Value.int q)) hv56.symm, N25⟩
        · obtain ⟨fs, hr, hrun, hended, hW, hsame⟩ := X25.leave (v := some (.int (0 : Int32))) (fun h => by rw [Bd.returns] at h; cases h)
          have hv57 : (f0 p1 p2 p3) = (0 : Int32) := by rw [f0, if_neg hc95_27, if_pos hc100_37, if_neg hc112_39, if_neg hc117_41]
          refine ⟨_, _, pre40 _ ?_, hrun, hended, _, _, rfl, ?_, ⟨_, rfl⟩, hW, hsame.mono (by decide) (by decide)⟩
          · show Steps p.tables e below (T25.setTop (mkF m 117 #[.val (.int p0), .val (.int p1), .val (.int p2), .val (.int p3), .val (.int (p0 &&& (15 : Int32))), .val (.int (f1 (1 : Int32) (p1 &&& (2147483647 : Int32)))), .val (.ref b2), .val (.int (f4 p2 p3)), .val (.int (f1 p2 p3)), .val (.int (e0_1 p1)), .val (.int (e0_2 p1)), .val (.int (e0_3 p1 p2 p3)), .val (.int (e0_4 p1 p2 p3)), .val (.int (0 : Int32))] [(.int (e0_2 p1))])) _
            refine XS.ifYes X25.here hx rfl (pc0 := 117) (pc' := 139) rfl (hb hby at_117) rfl ((if0 _ _).trans (feq hc117_41).2) (by decide) (by decide) ?_
            show Steps p.tables e below (T25.setTop (mkF m 139 #[.val (.int p0), .val (.int p1), .val (.int p2), .val (.int p3), .val (.int (p0 &&& (15 : Int32))), .val (.int (f1 (1 : Int32) (p1 &&& (2147483647 : Int32)))), .val (.ref b2), .val (.int (f4 p2 p3)), .val (.int (f1 p2 p3)), .val (.int (e0_1 p1)), .val (.int (e0_2 p1)), .val (.int (e0_3 p1 p2 p3)), .val (.int (e0_4 p1 p2 p3)), .val (.int (0 : Int32))] [])) _
            refine XS.iconst X25.here hx rfl (hb hby at_139) ?_
            show Steps p.tables e below (T25.setTop (mkF m 140 #[.val (.int p0), .val (.int p1), .val (.int p2), .val (.int p3), .val (.int (p0 &&& (15 : Int32))), .val (.int (f1 (1 : Int32) (p1 &&& (2147483647 : Int32)))), .val (.ref b2), .val (.int (f4 p2 p3)), .val (.int (f1 p2 p3)), .val (.int (e0_1 p1)), .val (.int (e0_2 p1)), .val (.int (e0_3 p1 p2 p3)), .val (.int (e0_4 p1 p2 p3)), .val (.int (0 : Int32))] [(.int (0 : Int32))])) _
            exact retN X25 hx (t := .boolean) Bd.returns (by simp) (hb hby at_140) hr
          · show Q0 Z p0 p1 p2 p3 h0 n0 _ T25.heap _
            rw [e25q]
            exact ⟨congrArg (fun q => some (Value.int q)) hv57.symm, N25⟩
    · have pre43 : ∀ t, Steps p.tables e below (T25.setTop (mkF m 112 #[.val (.int p0), .val (.int p1), .val (.int p2), .val (.int p3), .val (.int (p0 &&& (15 : Int32))), .val (.int (f1 (1 : Int32) (p1 &&& (2147483647 : Int32)))), .val (.ref b2), .val (.int (f4 p2 p3)), .val (.int (f1 p2 p3)), .val (.int (e0_1 p1)), .val (.int (e0_2 p1)), .val (.int (e0_3 p1 p2 p3)), .val (.int (e0_4 p1 p2 p3)), .val (.int (1 : Int32))] [(.int (e0_1 p1))])) t → Steps p.tables e below (s₁.setTop (entryFrame m #[(.int p0), (.int p1), (.int p2), (.int p3)] maxLocals)) t := fun t kt => pre36 t (by
          show Steps p.tables e below (T25.setTop (mkF m 100 #[.val (.int p0), .val (.int p1), .val (.int p2), .val (.int p3), .val (.int (p0 &&& (15 : Int32))), .val (.int (f1 (1 : Int32) (p1 &&& (2147483647 : Int32)))), .val (.ref b2), .val (.int (f4 p2 p3)), .val (.int (f1 p2 p3)), .val (.int (e0_1 p1)), .val (.int (e0_2 p1)), .val (.int (e0_3 p1 p2 p3)), .val (.int (e0_4 p1 p2 p3)), .unset] [(.int (e0_4 p1 p2 p3))])) _
          refine XS.ifNo X25.here hx rfl (hb hby at_100) rfl ((if0 _ _).trans (feq hc100_37).1) ?_
          show Steps p.tables e below (T25.setTop (mkF m 103 #[.val (.int p0), .val (.int p1), .val (.int p2), .val (.int p3), .val (.int (p0 &&& (15 : Int32))), .val (.int (f1 (1 : Int32) (p1 &&& (2147483647 : Int32)))), .val (.ref b2), .val (.int (f4 p2 p3)), .val (.int (f1 p2 p3)), .val (.int (e0_1 p1)), .val (.int (e0_2 p1)), .val (.int (e0_3 p1 p2 p3)), .val (.int (e0_4 p1 p2 p3)), .unset] [])) _
          refine XS.iconst X25.here hx rfl (hb hby at_103) ?_
          show Steps p.tables e below (T25.setTop (mkF m 104 #[.val (.int p0), .val (.int p1), .val (.int p2), .val (.int p3), .val (.int (p0 &&& (15 : Int32))), .val (.int (f1 (1 : Int32) (p1 &&& (2147483647 : Int32)))), .val (.ref b2), .val (.int (f4 p2 p3)), .val (.int (f1 p2 p3)), .val (.int (e0_1 p1)), .val (.int (e0_2 p1)), .val (.int (e0_3 p1 p2 p3)), .val (.int (e0_4 p1 p2 p3)), .unset] [(.int (1 : Int32))])) _
          refine XS.goto X25.here hx rfl (pc0 := 104) (pc' := 108) rfl (hb hby at_104) (by decide) (by decide) ?_
          show Steps p.tables e below (T25.setTop (mkF m 108 #[.val (.int p0), .val (.int p1), .val (.int p2), .val (.int p3), .val (.int (p0 &&& (15 : Int32))), .val (.int (f1 (1 : Int32) (p1 &&& (2147483647 : Int32)))), .val (.ref b2), .val (.int (f4 p2 p3)), .val (.int (f1 p2 p3)), .val (.int (e0_1 p1)), .val (.int (e0_2 p1)), .val (.int (e0_3 p1 p2 p3)), .val (.int (e0_4 p1 p2 p3)), .unset] [(.int (1 : Int32))])) _
          refine XS.istore X25.here hx rfl (hb hby at_108) rfl (l' := #[.val (.int p0), .val (.int p1), .val (.int p2), .val (.int p3), .val (.int (p0 &&& (15 : Int32))), .val (.int (f1 (1 : Int32) (p1 &&& (2147483647 : Int32)))), .val (.ref b2), .val (.int (f4 p2 p3)), .val (.int (f1 p2 p3)), .val (.int (e0_1 p1)), .val (.int (e0_2 p1)), .val (.int (e0_3 p1 p2 p3)), .val (.int (e0_4 p1 p2 p3)), .val (.int (1 : Int32))]) rfl ?_
          show Steps p.tables e below (T25.setTop (mkF m 110 #[.val (.int p0), .val (.int p1), .val (.int p2), .val (.int p3), .val (.int (p0 &&& (15 : Int32))), .val (.int (f1 (1 : Int32) (p1 &&& (2147483647 : Int32)))), .val (.ref b2), .val (.int (f4 p2 p3)), .val (.int (f1 p2 p3)), .val (.int (e0_1 p1)), .val (.int (e0_2 p1)), .val (.int (e0_3 p1 p2 p3)), .val (.int (e0_4 p1 p2 p3)), .val (.int (1 : Int32))] [])) _
          refine XS.iload X25.here hx rfl (hb hby at_110) rfl ?_
          exact kt)
      by_cases hc112_44 : (e0_1 p1) = (0 : Int32)
      · obtain ⟨fs, hr, hrun, hended, hW, hsame⟩ := X25.leave (v := some (.int (0 : Int32))) (fun h => by rw [Bd.returns] at h; cases h)
        have hv58 : (f0 p1 p2 p3) = (0 : Int32) := by rw [f0, if_neg hc95_27, if_neg hc100_37, if_pos hc112_44]
        refine ⟨_, _, pre43 _ ?_, hrun, hended, _, _, rfl, ?_, ⟨_, rfl⟩, hW, hsame.mono (by decide) (by decide)⟩
        · show Steps p.tables e below (T25.setTop (mkF m 112 #[.val (.int p0), .val (.int p1), .val (.int p2), .val (.int p3), .val (.int (p0 &&& (15 : Int32))), .val (.int (f1 (1 : Int32) (p1 &&& (2147483647 : Int32)))), .val (.ref b2), .val (.int (f4 p2 p3)), .val (.int (f1 p2 p3)), .val (.int (e0_1 p1)), .val (.int (e0_2 p1)), .val (.int (e0_3 p1 p2 p3)), .val (.int (e0_4 p1 p2 p3)), .val (.int (1 : Int32))] [(.int (e0_1 p1))])) _
          refine XS.ifYes X25.here hx rfl (pc0 := 112) (pc' := 139) rfl (hb hby at_112) rfl ((if0 _ _).trans (teq hc112_44).1) (by decide) (by decide) ?_
          show Steps p.tables e below (T25.setTop (mkF m 139 #[.val (.int p0), .val (.int p1), .val (.int p2), .val (.int p3), .val (.int (p0 &&& (15 : Int32))), .val (.int (f1 (1 : Int32) (p1 &&& (2147483647 : Int32)))), .val (.ref b2), .val (.int (f4 p2 p3)), .val (.int (f1 p2 p3)), .val (.int (e0_1 p1)), .val (.int (e0_2 p1)), .val (.int (e0_3 p1 p2 p3)), .val (.int (e0_4 p1 p2 p3)), .val (.int (1 : Int32))] [])) _
          refine XS.iconst X25.here hx rfl (hb hby at_139) ?_
          show Steps p.tables e below (T25.setTop (mkF m 140 #[.val (.int p0), .val (.int p1), .val (.int p2), .val (.int p3), .val (.int (p0 &&& (15 : Int32))), .val (.int (f1 (1 : Int32) (p1 &&& (2147483647 : Int32)))), .val (.ref b2), .val (.int (f4 p2 p3)), .val (.int (f1 p2 p3)), .val (.int (e0_1 p1)), .val (.int (e0_2 p1)), .val (.int (e0_3 p1 p2 p3)), .val (.int (e0_4 p1 p2 p3)), .val (.int (1 : Int32))] [(.int (0 : Int32))])) _
          exact retN X25 hx (t := .boolean) Bd.returns (by simp) (hb hby at_140) hr
        · show Q0 Z p0 p1 p2 p3 h0 n0 _ T25.heap _
          rw [e25q]
          exact ⟨congrArg (fun q => some (Value.int q)) hv58.symm, N25⟩
      · have pre45 : ∀ t, Steps p.tables e below (T25.setTop (mkF m 117 #[.val (.int p0), .val (.int p1), .val (.int p2), .val (.int p3), .val (.int (p0 &&& (15 : Int32))), .val (.int (f1 (1 : Int32) (p1 &&& (2147483647 : Int32)))), .val (.ref b2), .val (.int (f4 p2 p3)), .val (.int (f1 p2 p3)), .val (.int (e0_1 p1)), .val (.int (e0_2 p1)), .val (.int (e0_3 p1 p2 p3)), .val (.int (e0_4 p1 p2 p3)), .val (.int (1 : Int32))] [(.int (e0_2 p1))])) t → Steps p.tables e below (s₁.setTop (entryFrame m #[(.int p0), (.int p1), (.int p2), (.int p3)] maxLocals)) t := fun t kt => pre43 t (by
            show Steps p.tables e below (T25.setTop (mkF m 112 #[.val (.int p0), .val (.int p1), .val (.int p2), .val (.int p3), .val (.int (p0 &&& (15 : Int32))), .val (.int (f1 (1 : Int32) (p1 &&& (2147483647 : Int32)))), .val (.ref b2), .val (.int (f4 p2 p3)), .val (.int (f1 p2 p3)), .val (.int (e0_1 p1)), .val (.int (e0_2 p1)), .val (.int (e0_3 p1 p2 p3)), .val (.int (e0_4 p1 p2 p3)), .val (.int (1 : Int32))] [(.int (e0_1 p1))])) _
            refine XS.ifNo X25.here hx rfl (hb hby at_112) rfl ((if0 _ _).trans (feq hc112_44).1) ?_
            show Steps p.tables e below (T25.setTop (mkF m 115 #[.val (.int p0), .val (.int p1), .val (.int p2), .val (.int p3), .val (.int (p0 &&& (15 : Int32))), .val (.int (f1 (1 : Int32) (p1 &&& (2147483647 : Int32)))), .val (.ref b2), .val (.int (f4 p2 p3)), .val (.int (f1 p2 p3)), .val (.int (e0_1 p1)), .val (.int (e0_2 p1)), .val (.int (e0_3 p1 p2 p3)), .val (.int (e0_4 p1 p2 p3)), .val (.int (1 : Int32))] [])) _
            refine XS.iload X25.here hx rfl (hb hby at_115) rfl ?_
            exact kt)
        by_cases hc117_46 : (e0_2 p1) = (0 : Int32)
        · have pre47 : ∀ t, Steps p.tables e below (T25.setTop (mkF m 122 #[.val (.int p0), .val (.int p1), .val (.int p2), .val (.int p3), .val (.int (p0 &&& (15 : Int32))), .val (.int (f1 (1 : Int32) (p1 &&& (2147483647 : Int32)))), .val (.ref b2), .val (.int (f4 p2 p3)), .val (.int (f1 p2 p3)), .val (.int (e0_1 p1)), .val (.int (e0_2 p1)), .val (.int (e0_3 p1 p2 p3)), .val (.int (e0_4 p1 p2 p3)), .val (.int (1 : Int32))] [(.int (1 : Int32))])) t → Steps p.tables e below (s₁.setTop (entryFrame m #[(.int p0), (.int p1), (.int p2), (.int p3)] maxLocals)) t := fun t kt => pre45 t (by
              show Steps p.tables e below (T25.setTop (mkF m 117 #[.val (.int p0), .val (.int p1), .val (.int p2), .val (.int p3), .val (.int (p0 &&& (15 : Int32))), .val (.int (f1 (1 : Int32) (p1 &&& (2147483647 : Int32)))), .val (.ref b2), .val (.int (f4 p2 p3)), .val (.int (f1 p2 p3)), .val (.int (e0_1 p1)), .val (.int (e0_2 p1)), .val (.int (e0_3 p1 p2 p3)), .val (.int (e0_4 p1 p2 p3)), .val (.int (1 : Int32))] [(.int (e0_2 p1))])) _
              refine XS.ifNo X25.here hx rfl (hb hby at_117) rfl ((if0 _ _).trans (teq hc117_46).2) ?_
              show Steps p.tables e below (T25.setTop (mkF m 120 #[.val (.int p0), .val (.int p1), .val (.int p2), .val (.int p3), .val (.int (p0 &&& (15 : Int32))), .val (.int (f1 (1 : Int32) (p1 &&& (2147483647 : Int32)))), .val (.ref b2), .val (.int (f4 p2 p3)), .val (.int (f1 p2 p3)), .val (.int (e0_1 p1)), .val (.int (e0_2 p1)), .val (.int (e0_3 p1 p2 p3)), .val (.int (e0_4 p1 p2 p3)), .val (.int (1 : Int32))] [])) _
              refine XS.iload X25.here hx rfl (hb hby at_120) rfl ?_
              exact kt)
          obtain ⟨cq48, kq48, q48a, q48b, q48c⟩ := isOf hZ e25q (((((E_b2.ext E5).ext E8).ext E11).ext E14).keep K17q)
          obtain ⟨_, _, ⟨T48, L48, k48, n48⟩, -, X48, ⟨Lc48, hQ48, l48, y48, z48⟩, st48⟩ := X25.virtualBack hx (y := (⟨"com/example/cabweave/cabweave/Network", "firstThruNode", "()I"⟩ : MethodName)) (z := (⟨"com/example/cabweave/cabweave/Network", "firstThruNode", "()I"⟩ : MethodName)) hown (mvT hZ (hw _ (List.mem_of_getElem? (i := 48) rfl))) (mvT hZ (hw _ (List.mem_of_getElem? (i := 49) rfl))) (notFace_of_selects (args := #[]) (mvT hZ (hw _ (List.mem_of_getElem? (i := 51) rfl)))) (mvT hZ (hw _ (List.mem_of_getElem? (i := 51) rfl))) (mvT hZ (hw _ (List.mem_of_getElem? (i := 50) rfl))) (by decide) (backOf (W := 0) (rm6 l Z a0 hw [] b2 (f1 (1 : Int32) (p1 &&& (2147483647 : Int32))) T17.heap n0 Z19 G17_1) hZ (hw _ (List.mem_of_getElem? (i := 52) rfl)) (hw _ (List.mem_of_getElem? (i := 7) rfl)) (by decide) (by decide)) q48a q48c (g := (mkF m 127 #[.val (.int p0), .val (.int p1), .val (.int p2), .val (.int p3), .val (.int (p0 &&& (15 : Int32))), .val (.int (f1 (1 : Int32) (p1 &&& (2147483647 : Int32)))), .val (.ref b2), .val (.int (f4 p2 p3)), .val (.int (f1 p2 p3)), .val (.int (e0_1 p1)), .val (.int (e0_2 p1)), .val (.int (e0_3 p1 p2 p3)), .val (.int (e0_4 p1 p2 p3)), .val (.int (1 : Int32))] [(.ref b2)])) rfl (by rw [hml]; rfl) (Steps.refl _) (argsL := []) (rest := []) (lenOf pd_0_3 rfl) rfl (by show 2 * 0 + _ ≤ _; exact Nat.le_of_eq rfl) (hb hby at_127) (fun _ _ => ⟨rfl, e25q, (by decide : 11 + 0 ≤ _), (by decide : 41 + 0 ≤ _)⟩)
          dsimp only [Pt.U, Pt.locs, Pt.cells, Pt.slots] at X48 l48 y48 z48 st48 hQ48
          subst l48 y48 z48
          obtain ⟨rfl, N48q, e48q⟩ := hQ48
          have N48 := Fr.app N25 N48q
          have pre49 : ∀ t, Steps p.tables e below (T48.setTop (mkF m 132 #[.val (.int p0), .val (.int p1), .val (.int p2), .val (.int p3), .val (.int (p0 &&& (15 : Int32))), .val (.int (f1 (1 : Int32) (p1 &&& (2147483647 : Int32)))), .val (.ref b2), .val (.int (f4 p2 p3)), .val (.int (f1 p2 p3)), .val (.int (e0_1 p1)), .val (.int (e0_2 p1)), .val (.int (e0_3 p1 p2 p3)), .val (.int (e0_4 p1 p2 p3)), .val (.int (1 : Int32))] [(.int (f1 (1 : Int32) (p1 &&& (2147483647 : Int32)))), (.int (f1 (1 : Int32) (p1 &&& (2147483647 : Int32))))])) t → Steps p.tables e below (s₁.setTop (entryFrame m #[(.int p0), (.int p1), (.int p2), (.int p3)] maxLocals)) t := fun t kt => pre47 t (by
              show Steps p.tables e below (T25.setTop (mkF m 122 #[.val (.int p0), .val (.int p1), .val (.int p2), .val (.int p3), .val (.int (p0 &&& (15 : Int32))), .val (.int (f1 (1 : Int32) (p1 &&& (2147483647 : Int32)))), .val (.ref b2), .val (.int (f4 p2 p3)), .val (.int (f1 p2 p3)), .val (.int (e0_1 p1)), .val (.int (e0_2 p1)), .val (.int (e0_3 p1 p2 p3)), .val (.int (e0_4 p1 p2 p3)), .val (.int (1 : Int32))] [(.int (1 : Int32))])) _
              refine XS.ifNo X25.here hx rfl (hb hby at_122) rfl ((if0 _ _).trans (feq (by decide : ¬ ((1 : Int32) = (0 : Int32)))).1) ?_
              show Steps p.tables e below (T25.setTop (mkF m 125 #[.val (.int p0), .val (.int p1), .val (.int p2), .val (.int p3), .val (.int (p0 &&& (15 : Int32))), .val (.int (f1 (1 : Int32) (p1 &&& (2147483647 : Int32)))), .val (.ref b2), .val (.int (f4 p2 p3)), .val (.int (f1 p2 p3)), .val (.int (e0_1 p1)), .val (.int (e0_2 p1)), .val (.int (e0_3 p1 p2 p3)), .val (.int (e0_4 p1 p2 p3)), .val (.int (1 : Int32))] [])) _
              refine XS.aload X25.here hx rfl (hb hby at_125) rfl rfl ?_
              show Steps p.tables e below (T25.setTop (mkF m 127 #[.val (.int p0), .val (.int p1), .val (.int p2), .val (.int p3), .val (.int (p0 &&& (15 : Int32))), .val (.int (f1 (1 : Int32) (p1 &&& (2147483647 : Int32)))), .val (.ref b2), .val (.int (f4 p2 p3)), .val (.int (f1 p2 p3)), .val (.int (e0_1 p1)), .val (.int (e0_2 p1)), .val (.int (e0_3 p1 p2 p3)), .val (.int (e0_4 p1 p2 p3)), .val (.int (1 : Int32))] [(.ref b2)])) _
              refine st48.trans ?_
              show Steps p.tables e below (T48.setTop (mkF m 130 #[.val (.int p0), .val (.int p1), .val (.int p2), .val (.int p3), .val (.int (p0 &&& (15 : Int32))), .val (.int (f1 (1 : Int32) (p1 &&& (2147483647 : Int32)))), .val (.ref b2), .val (.int (f4 p2 p3)), .val (.int (f1 p2 p3)), .val (.int (e0_1 p1)), .val (.int (e0_2 p1)), .val (.int (e0_3 p1 p2 p3)), .val (.int (e0_4 p1 p2 p3)), .val (.int (1 : Int32))] [(.int (f1 (1 : Int32) (p1 &&& (2147483647 : Int32))))])) _
              refine XS.iload X48.here hx rfl (hb hby at_130) rfl ?_
              exact kt)
          by_cases hc132_50 : (f1 (1 : Int32) (p1 &&& (2147483647 : Int32))) = (f1 (1 : Int32) (p1 &&& (2147483647 : Int32)))
          · obtain ⟨fs, hr, hrun, hended, hW, hsame⟩ := X48.leave (v := some (.int (1 : Int32))) (fun h => by rw [Bd.returns] at h; cases h)
            have hv59 : (f0 p1 p2 p3) = (1 : Int32) := by rw [f0, if_neg hc95_27, if_neg hc100_37, if_neg hc112_44, if_pos hc117_46, if_pos hc132_50]
            refine ⟨_, _, pre49 _ ?_, hrun, hended, _, _, rfl, ?_, ⟨_, rfl⟩, hW, hsame.mono (by decide) (by decide)⟩
            · show Steps p.tables e below (T48.setTop (mkF m 132 #[.val (.int p0), .val (.int p1), .val (.int p2), .val (.int p3), .val (.int (p0 &&& (15 : Int32))), .val (.int (f1 (1 : Int32) (p1 &&& (2147483647 : Int32)))), .val (.ref b2), .val (.int (f4 p2 p3)), .val (.int (f1 p2 p3)), .val (.int (e0_1 p1)), .val (.int (e0_2 p1)), .val (.int (e0_3 p1 p2 p3)), .val (.int (e0_4 p1 p2 p3)), .val (.int (1 : Int32))] [(.int (f1 (1 : Int32) (p1 &&& (2147483647 : Int32)))), (.int (f1 (1 : Int32) (p1 &&& (2147483647 : Int32))))])) _
              refine XS.icmpNo X48.here hx rfl (hb hby at_132) rfl (teq hc132_50).2 ?_
              show Steps p.tables e below (T48.setTop (mkF m 135 #[.val (.int p0), .val (.int p1), .val (.int p2), .val (.int p3), .val (.int (p0 &&& (15 : Int32))), .val (.int (f1 (1 : Int32) (p1 &&& (2147483647 : Int32)))), .val (.ref b2), .val (.int (f4 p2 p3)), .val (.int (f1 p2 p3)), .val (.int (e0_1 p1)), .val (.int (e0_2 p1)), .val (.int (e0_3 p1 p2 p3)), .val (.int (e0_4 p1 p2 p3)), .val (.int (1 : Int32))] [])) _
              refine XS.iconst X48.here hx rfl (hb hby at_135) ?_
              show Steps p.tables e below (T48.setTop (mkF m 136 #[.val (.int p0), .val (.int p1), .val (.int p2), .val (.int p3), .val (.int (p0 &&& (15 : Int32))), .val (.int (f1 (1 : Int32) (p1 &&& (2147483647 : Int32)))), .val (.ref b2), .val (.int (f4 p2 p3)), .val (.int (f1 p2 p3)), .val (.int (e0_1 p1)), .val (.int (e0_2 p1)), .val (.int (e0_3 p1 p2 p3)), .val (.int (e0_4 p1 p2 p3)), .val (.int (1 : Int32))] [(.int (1 : Int32))])) _
              refine XS.goto X48.here hx rfl (pc0 := 136) (pc' := 140) rfl (hb hby at_136) (by decide) (by decide) ?_
              show Steps p.tables e below (T48.setTop (mkF m 140 #[.val (.int p0), .val (.int p1), .val (.int p2), .val (.int p3), .val (.int (p0 &&& (15 : Int32))), .val (.int (f1 (1 : Int32) (p1 &&& (2147483647 : Int32)))), .val (.ref b2), .val (.int (f4 p2 p3)), .val (.int (f1 p2 p3)), .val (.int (e0_1 p1)), .val (.int (e0_2 p1)), .val (.int (e0_3 p1 p2 p3)), .val (.int (e0_4 p1 p2 p3)), .val (.int (1 : Int32))] [(.int (1 : Int32))])) _
              exact retN X48 hx (t := .boolean) Bd.returns (by simp) (hb hby at_140) hr
            · show Q0 Z p0 p1 p2 p3 h0 n0 _ T48.heap _
              rw [e48q]
              exact ⟨congrArg (fun q => some (Value.int q)) hv59.symm, N48⟩
          · obtain ⟨fs, hr, hrun, hended, hW, hsame⟩ := X48.leave (v := some (.int (0 : Int32))) (fun h => by rw [Bd.returns] at h; cases h)
            have hv60 : (f0 p1 p2 p3) = (0 : Int32) := by rw [f0, if_neg hc95_27, if_neg hc100_37, if_neg hc112_44, if_pos hc117_46, if_neg hc132_50]
            refine ⟨_, _, pre49 _ ?_, hrun, hended, _, _, rfl, ?_, ⟨_, rfl⟩, hW, hsame.mono (by decide) (by decide)⟩
            · show Steps p.tables e below (T48.setTop (mkF m 132 #[.val (.int p0), .val (.int p1), .val (.int p2), .val (.int p3), .val (.int (p0 &&& (15 : Int32))), .val (.int (f1 (1 : Int32) (p1 &&& (2147483647 : Int32)))), .val (.ref b2), .val (.int (f4 p2 p3)), .val (.int (f1 p2 p3)), .val (.int (e0_1 p1)), .val (.int (e0_2 p1)), .val (.int (e0_3 p1 p2 p3)), .val (.int (e0_4 p1 p2 p3)), .val (.int (1 : Int32))] [(.int (f1 (1 : Int32) (p1 &&& (2147483647 : Int32)))), (.int (f1 (1 : Int32) (p1 &&& (2147483647 : Int32))))])) _
              refine XS.icmpYes X48.here hx rfl (pc0 := 132) (pc' := 139) rfl (hb hby at_132) rfl (feq hc132_50).2 (by decide) (by decide) ?_
              show Steps p.tables e below (T48.setTop (mkF m 139 #[.val (.int p0), .val (.int p1), .val (.int p2), .val (.int p3), .val (.int (p0 &&& (15 : Int32))), .val (.int (f1 (1 : Int32) (p1 &&& (2147483647 : Int32)))), .val (.ref b2), .val (.int (f4 p2 p3)), .val (.int (f1 p2 p3)), .val (.int (e0_1 p1)), .val (.int (e0_2 p1)), .val (.int (e0_3 p1 p2 p3)), .val (.int (e0_4 p1 p2 p3)), .val (.int (1 : Int32))] [])) _
              refine XS.iconst X48.here hx rfl (hb hby at_139) ?_
              show Steps p.tables e below (T48.setTop (mkF m 140 #[.val (.int p0), .val (.int p1), .val (.int p2), .val (.int p3), .val (.int (p0 &&& (15 : Int32))), .val (.int (f1 (1 : Int32) (p1 &&& (2147483647 : Int32)))), .val (.ref b2), .val (.int (f4 p2 p3)), .val (.int (f1 p2 p3)), .val (.int (e0_1 p1)), .val (.int (e0_2 p1)), .val (.int (e0_3 p1 p2 p3)), .val (.int (e0_4 p1 p2 p3)), .val (.int (1 : Int32))] [(.int (0 : Int32))])) _
              exact retN X48 hx (t := .boolean) Bd.returns (by simp) (hb hby at_140) hr
            · show Q0 Z p0 p1 p2 p3 h0 n0 _ T48.heap _
              rw [e48q]
              exact ⟨congrArg (fun q => some (Value.int q)) hv60.symm, N48⟩
        · obtain ⟨fs, hr, hrun, hended, hW, hsame⟩ := X25.leave (v := some (.int (0 : Int32))) (fun h => by rw [Bd.returns] at h; cases h)
          have hv61 : (f0 p1 p2 p3) = (0 : Int32) := by rw [f0, if_neg hc95_27, if_neg hc100_37, if_neg hc112_44, if_neg hc117_46]
          refine ⟨_, _, pre45 _ ?_, hrun, hended, _, _, rfl, ?_, ⟨_, rfl⟩, hW, hsame.mono (by decide) (by decide)⟩
          · show Steps p.tables e below (T25.setTop (mkF m 117 #[.val (.int p0), .val (.int p1), .val (.int p2), .val (.int p3), .val (.int (p0 &&& (15 : Int32))), .val (.int (f1 (1 : Int32) (p1 &&& (2147483647 : Int32)))), .val (.ref b2), .val (.int (f4 p2 p3)), .val (.int (f1 p2 p3)), .val (.int (e0_1 p1)), .val (.int (e0_2 p1)), .val (.int (e0_3 p1 p2 p3)), .val (.int (e0_4 p1 p2 p3)), .val (.int (1 : Int32))] [(.int (e0_2 p1))])) _
            refine XS.ifYes X25.here hx rfl (pc0 := 117) (pc' := 139) rfl (hb hby at_117) rfl ((if0 _ _).trans (feq hc117_46).2) (by decide) (by decide) ?_
            show Steps p.tables e below (T25.setTop (mkF m 139 #[.val (.int p0), .val (.int p1), .val (.int p2), .val (.int p3), .val (.int (p0 &&& (15 : Int32))), .val (.int (f1 (1 : Int32) (p1 &&& (2147483647 : Int32)))), .val (.ref b2), .val (.int (f4 p2 p3)), .val (.int (f1 p2 p3)), .val (.int (e0_1 p1)), .val (.int (e0_2 p1)), .val (.int (e0_3 p1 p2 p3)), .val (.int (e0_4 p1 p2 p3)), .val (.int (1 : Int32))] [])) _
            refine XS.iconst X25.here hx rfl (hb hby at_139) ?_
            show Steps p.tables e below (T25.setTop (mkF m 140 #[.val (.int p0), .val (.int p1), .val (.int p2), .val (.int p3), .val (.int (p0 &&& (15 : Int32))), .val (.int (f1 (1 : Int32) (p1 &&& (2147483647 : Int32)))), .val (.ref b2), .val (.int (f4 p2 p3)), .val (.int (f1 p2 p3)), .val (.int (e0_1 p1)), .val (.int (e0_2 p1)), .val (.int (e0_3 p1 p2 p3)), .val (.int (e0_4 p1 p2 p3)), .val (.int (1 : Int32))] [(.int (0 : Int32))])) _
            exact retN X25 hx (t := .boolean) Bd.returns (by simp) (hb hby at_140) hr
          · show Q0 Z p0 p1 p2 p3 h0 n0 _ T25.heap _
            rw [e25q]
            exact ⟨congrArg (fun q => some (Value.int q)) hv61.symm, N25⟩
set_option maxRecDepth 65536 in
set_option maxHeartbeats 40000000 in
theorem comes_1 {Post : Tables → Env → Array Value → State → Outcome → State → Prop} (hpost : ∀ tb e args s v u, (limb_1_1.after args s (.returned v) u = true ∧ limb_1_2.after args s (.returned v) u = true ∧ True) → FrameEnd s (.returned v) u (Jvm.fieldLocs frame_1_writes args s ++ Jvm.arrayLocs frame_1_arrays args s ++ Jvm.staticLocs frame_1_statics s) 32 192 → Post tb e args s (.returned v) u) :
    ArmFor flags0 classFile x code maxLocals ret World_1 tables_1 room_1 Calls_1 rest_1 Pre_1 Post := by
  intro l hfl _ _ p e ha hc hk s m args below hf hA hF happ hP
  obtain ⟨hcalls, hrest, hpre⟩ := hP
  obtain ⟨-, -, -, hnamed, -, -, -, hat⟩ := (Spec.applies_iff hf).mp happ
  obtain ⟨hg, hn⟩ := and_e (Cond.before_iff.mp (show (Jvm.Cond.and given_1 narrow_1).before args s = true from hpre))
  obtain ⟨g1, g2⟩ := and_e hg
  obtain ⟨g3, g4⟩ := and_e g2
  obtain ⟨g5, g6⟩ := and_e g4
  obtain ⟨g7, g8⟩ := and_e g6
  obtain ⟨w0, w1, w2, w3, rfl⟩ : ∃ w0 w1 w2 w3 : Value, args = #[w0, w1, w2, w3] := by
    have hs : args.size = 4 := by simpa [Cond.value, given_1] using g1
    obtain ⟨L⟩ := args
    match L, hs with
    | [w0, w1, w2, w3], _ => exact ⟨w0, w1, w2, w3, rfl⟩
  have hw := fun d (hd : d ∈ tables_1) => atoms_spec (ws := Jvm.Cond.code x code maxLocals ret :: tables_1) hat d (List.mem_cons_of_mem _ hd)
  have hfit : Fit s := fun {y c} hc i hi => by
    obtain ⟨ha, rfl⟩ := Array.getElem?_eq_some_iff.mp hc
    have q := List.all_eq_true.mp ((Array.all_eq_true_iff_forall_mem.mp hF) _ (Array.getElem_mem ha)) i (List.mem_range.mpr hi)
    simpa [Array.getElem?_eq_getElem hi] using q
  obtain ⟨i0, ei0⟩ := is_v g3
  obtain rfl : w0 = (.int i0) := Option.some.inj ei0
  obtain ⟨i1, ei1⟩ := is_v g5
  obtain rfl : w1 = (.int i1) := Option.some.inj ei1
  obtain ⟨i2, ei2⟩ := is_v g7
  obtain rfl : w2 = (.int i2) := Option.some.inj ei2
  obtain ⟨i3, ei3⟩ := is_v g8
  obtain rfl : w3 = (.int i3) := Option.some.inj ei3
  obtain ⟨n, o, h1, h2, h3, _, L, rfl, ⟨hv0, N⟩, hq⟩ := rm0 l s _ hw tables_1 i0 i1 i2 i3 s.heap s.heap.size (Nat.le_refl _) p e ha hc hk s m _ below hf ((Spec.applies_iff_loose hf).mp happ).1 ⟨rfl, State.Warmed39.refl s, rfl⟩ trivial
  rw [own_law] at hv0
  subst hv0
  refine ⟨n, _, h1, h2, h3, hpost _ _ _ _ _ _ ⟨Cond.after_iff.mpr rfl, Cond.after_iff.mpr (eq_i res_at (Term.int_eval (1)) rfl), trivial⟩ ⟨hq.1, hq.2.1, (hq.2.2.sift fun y hy => Or.inr (N y hy)).mono (by decide) (by decide)⟩⟩
theorem main_1_1 : Claimed_1_1 := comes_1 fun _ _ _ _ _ _ h hF => ⟨h.1, hF⟩
theorem main_1_2 : Claimed_1_2 := comes_1 fun _ _ _ _ _ _ h hF => ⟨h.2.1, hF⟩
end Jvm.Pilot.@@N@@
namespace Jvm.Pilot.@@N@@
open Jvm Jvm.ClassFile Sem Op Lib Jvm.Free Jvm.Stand Jvm.Pilot.@@N@@.Jvm.D
/-! MADE BY PROGRAM (witnessworld.py) out of the Statement's table words and the real class files: 10 classes; the members and pool entries that the words name. The judged class is class 1, her method 1. -/
namespace start1
open Jvm.ClassFile
def u (s : String) : CpInfo := .utf8 (stringToUtf16 s)
/-- a pool by its gaps: so many unusable entries, then the entry; so many at the end -/
def gap : Nat → List CpInfo → List CpInfo
  | 0, r => r
  | n + 1, r => .unusable :: gap n r
def poolList (es : List (Nat × CpInfo)) (last : Nat) : List CpInfo := es.foldr (fun e r => gap e.1 (e.2 :: r)) (gap last [])
def pool (es : List (Nat × CpInfo)) (last : Nat) : Array CpInfo := ⟨poolList es last⟩
def fileOf (pool : Array CpInfo) (this : Nat) (attrs : Array Attribute := #[]) (ms : Array MethodInfo := #[]) (fl : Nat := 33) (sup : Nat := 0) (ifs : Array Nat := #[]) (fds : Array FieldInfo := #[]) : ClassFile where
  minorVersion := 0
  majorVersion := 65
  constantPool := pool
  accessFlags := fl
  thisClass := this
  superClass := sup
  interfaces := ifs
  fields := fds
  methods := ms
  attributes := attrs
def plain (name : String) (sup : Option ClassId) : Class where
  name := name
  kind := .ordinary
  loader := none
  accessFlags := 33
  super := sup
  interfaces := #[]
  cf := none
  fields := #[]
  methods := #[]
  instanceTypes := #[]
  staticTypes := #[]
  resolved := #[]
  callSites := []
  init := .initialized
  statics := none
  mirror := none

def pool0 : Array CpInfo := pool [(5, u "<init>"), (0, u "()V"), (1, .class_ 10), (1, u "java/lang/Object"), (85, u "clone"), (0, u "()Ljava/lang/Object;")] 26

def k0c0 : Code := { maxStack := 0, maxLocals := 1, code := object_method_1_code, exceptionTable := #[], attributes := #[] }
def k0m0 : Method := { name := "<init>", desc := "()V", sig := { parameters := [], returnType := none }, accessFlags := 1, code := some k0c0 }
def k0m1 : Method := { name := "clone", desc := "()Ljava/lang/Object;", sig := { parameters := [], returnType := some (.object "java/lang/Object") }, accessFlags := 260, code := none }
/-- java/lang/Object -/
def k0 : Class := { plain "java/lang/Object" none with
  accessFlags := 33
  interfaces := #[]
  cf := some (fileOf pool0 8 #[] #[{ accessFlags := 1, nameIndex := 5, descriptorIndex := 6, attributes := #[] }, { accessFlags := 260, nameIndex := 96, descriptorIndex := 97, attributes := #[] }] 33 0 #[] #[])
  fields := #[]
  methods := #[k0m0, k0m1]
  instanceTypes := #[]
  staticTypes := #[]
  resolved := Array.replicate 124 none
  statics := none }

def pool1 : Array CpInfo := pool [(2, .class_ 4), (1, u "java/lang/Object"), (0, u "<init>"), (0, u "()V"), (0, .integer 2147483647), (0, .methodref 9 10), (0, .class_ 11), (0, .nameAndType 12 13), (0, u "java/lang/Math"), (0, u "max"), (0, u "(II)I"), (0, .class_ 15), (0, u "com/example/cabweave/cabweave/Network"), (0, .methodref 14 17), (0, .nameAndType 5 18), (0, u "(II[I[I[D[D)V"), (0, .methodref 9 20), (0, .nameAndType 21 13), (0, u "min"), (0, .methodref 14 23), (0, .nameAndType 24 25), (0, u "isZone"), (0, u "(I)Z"), (0, .methodref 14 27), (0, .nameAndType 28 29), (0, u "firstThruNode"), (0, u "()I"), (0, .class_ 31), (0, u "com/example/cabweave/cabweave/NetworkIsZonePinLaw"), (2, u "law"), (0, u "(IIII)Z")] 3

def k1m0 : Method := { name := "<init>", desc := "()V", sig := { parameters := [], returnType := none }, accessFlags := 1, code := none }
def k1c1 : Code := { maxStack := 8, maxLocals := 14, code := code, exceptionTable := #[], attributes := #[] }
def k1m1 : Method := { name := "law", desc := "(IIII)Z", sig := { parameters := [.int, .int, .int, .int], returnType := some .boolean }, accessFlags := 9, code := some k1c1 }
/-- com/example/cabweave/cabweave/NetworkIsZonePinLaw -/
def k1 : Class := { plain "com/example/cabweave/cabweave/NetworkIsZonePinLaw" (some 0) with
  accessFlags := 49
  interfaces := #[]
  cf := some (fileOf pool1 30 #[] #[{ accessFlags := 1, nameIndex := 5, descriptorIndex := 6, attributes := #[] }, { accessFlags := 9, nameIndex := 34, descriptorIndex := 35, attributes := #[] }] 49 2 #[] #[])
  fields := #[]
  methods := #[k1m0, k1m1]
  instanceTypes := #[]
  staticTypes := #[]
  resolved := Array.replicate 39 none
  statics := none }

def pool2 : Array CpInfo := pool [(1, .class_ 2), (0, u "java/lang/Math"), (1, .class_ 6), (1, u "java/lang/Object"), (0, u "<init>"), (0, u "()V"), (89, .class_ 100), (1, u "java/lang/Math$RandomNumberGeneratorHolder"), (71, u "negativeZeroFloatBits"), (0, u "J"), (2, u "negativeZeroDoubleBits"), (21, u "max"), (2, u "min"), (43, u "$assertionsDisabled"), (0, u "Z"), (88, u "(II)I"), (2, u "twoToTheDoubleScaleDown"), (0, u "D"), (4, u "twoToTheDoubleScaleUp"), (9, u "E"), (3, u "PI"), (2, u "TAU"), (2, u "DEGREES_TO_RADIANS"), (0, u "RADIANS_TO_DEGREES")] 94

def k2m0 : Method := { name := "<init>", desc := "()V", sig := { parameters := [], returnType := none }, accessFlags := 2, code := none }
def k2c1 : Code := { maxStack := 2, maxLocals := 2, code := jdk_29_method_65_code, exceptionTable := #[], attributes := #[] }
def k2m1 : Method := { name := "max", desc := "(II)I", sig := { parameters := [.int, .int], returnType := some .int }, accessFlags := 9, code := some k2c1 }
def k2c2 : Code := { maxStack := 2, maxLocals := 2, code := jdk_29_method_69_code, exceptionTable := #[], attributes := #[] }
def k2m2 : Method := { name := "min", desc := "(II)I", sig := { parameters := [.int, .int], returnType := some .int }, accessFlags := 9, code := some k2c2 }
/-- java/lang/Math -/
def k2 : Class := { plain "java/lang/Math" (some 0) with
  accessFlags := 49
  interfaces := #[]
  cf := some (fileOf pool2 1 #[.nestMembers #[98]] #[{ accessFlags := 2, nameIndex := 7, descriptorIndex := 8, attributes := #[] }, { accessFlags := 9, nameIndex := 198, descriptorIndex := 335, attributes := #[] }, { accessFlags := 9, nameIndex := 201, descriptorIndex := 335, attributes := #[] }] 49 4 #[] #[{ accessFlags := 25, nameIndex := 354, descriptorIndex := 339, attributes := #[] }, { accessFlags := 25, nameIndex := 358, descriptorIndex := 339, attributes := #[] }, { accessFlags := 25, nameIndex := 361, descriptorIndex := 339, attributes := #[] }, { accessFlags := 26, nameIndex := 364, descriptorIndex := 339, attributes := #[] }, { accessFlags := 26, nameIndex := 365, descriptorIndex := 339, attributes := #[] }, { accessFlags := 26, nameIndex := 172, descriptorIndex := 173, attributes := #[] }, { accessFlags := 26, nameIndex := 176, descriptorIndex := 173, attributes := #[] }, { accessFlags := 8, nameIndex := 344, descriptorIndex := 339, attributes := #[] }, { accessFlags := 8, nameIndex := 338, descriptorIndex := 339, attributes := #[] }, { accessFlags := 4120, nameIndex := 245, descriptorIndex := 246, attributes := #[] }])
  fields := #[{ name := "E", type := .double, accessFlags := 25, slot := 0, constantValue := 0 }, { name := "PI", type := .double, accessFlags := 25, slot := 1, constantValue := 0 }, { name := "TAU", type := .double, accessFlags := 25, slot := 2, constantValue := 0 }, { name := "DEGREES_TO_RADIANS", type := .double, accessFlags := 26, slot := 3, constantValue := 0 }, { name := "RADIANS_TO_DEGREES", type := .double, accessFlags := 26, slot := 4, constantValue := 0 }, { name := "negativeZeroFloatBits", type := .long, accessFlags := 26, slot := 5, constantValue := 0 }, { name := "negativeZeroDoubleBits", type := .long, accessFlags := 26, slot := 6, constantValue := 0 }, { name := "twoToTheDoubleScaleUp", type := .double, accessFlags := 8, slot := 7, constantValue := 0 }, { name := "twoToTheDoubleScaleDown", type := .double, accessFlags := 8, slot := 8, constantValue := 0 }, { name := "$assertionsDisabled", type := .boolean, accessFlags := 4120, slot := 9, constantValue := 0 }]
  methods := #[k2m0, k2m1, k2m2]
  instanceTypes := #[]
  staticTypes := #[.double, .double, .double, .double, .double, .long, .long, .double, .double, .boolean]
  resolved := Array.replicate 460 none
  statics := none }

def pool3 : Array CpInfo := pool [(1, .methodref 2 3), (0, .class_ 4), (0, .nameAndType 5 6), (0, u "java/lang/Object"), (0, u "<init>"), (0, u "()V"), (2, .integer 2147483645), (11, .fieldref 22 23), (0, .class_ 24), (0, .nameAndType 25 26), (0, u "com/example/cabweave/cabweave/Network"), (0, u "nodeCount"), (0, u "I"), (0, .fieldref 22 28), (0, .nameAndType 29 26), (0, u "firstThruNode"), (0, .fieldref 22 31), (0, .nameAndType 32 33), (0, u "firstOut"), (0, u "[I"), (5, u "length"), (5, u "time"), (0, .fieldref 22 47), (0, .nameAndType 48 33), (0, u "tail"), (0, .fieldref 22 50), (0, .nameAndType 51 33), (0, u "head"), (0, .fieldref 22 53), (0, .nameAndType 39 54), (0, u "[D"), (0, .fieldref 22 56), (0, .nameAndType 45 54), (0, .methodref 58 59), (0, .class_ 33), (0, .nameAndType 60 61), (0, u "clone"), (0, u "()Ljava/lang/Object;"), (3, u "(I)Z"), (8, u "(II[I[I[D[D)V"), (4, u "()I"), (1, u "isZone")] 25

def k3c0 : Code := { maxStack := 6, maxLocals := 11, code := prog_22_method_1_code, exceptionTable := #[], attributes := #[] }
def k3m0 : Method := { name := "<init>", desc := "(II[I[I[D[D)V", sig := { parameters := [.int, .int, (.array .int), (.array .int), (.array .double), (.array .double)], returnType := none }, accessFlags := 1, code := some k3c0 }
def k3c1 : Code := { maxStack := 1, maxLocals := 1, code := prog_22_method_5_code, exceptionTable := #[], attributes := #[] }
def k3m1 : Method := { name := "firstThruNode", desc := "()I", sig := { parameters := [], returnType := some .int }, accessFlags := 1, code := some k3c1 }
def k3c2 : Code := { maxStack := 2, maxLocals := 2, code := prog_22_method_8_code, exceptionTable := #[], attributes := #[] }
def k3m2 : Method := { name := "isZone", desc := "(I)Z", sig := { parameters := [.int], returnType := some .boolean }, accessFlags := 1, code := some k3c2 }
/-- com/example/cabweave/cabweave/Network -/
def k3 : Class := { plain "com/example/cabweave/cabweave/Network" (some 0) with
  accessFlags := 49
  interfaces := #[]
  cf := some (fileOf pool3 22 #[] #[{ accessFlags := 1, nameIndex := 5, descriptorIndex := 74, attributes := #[] }, { accessFlags := 1, nameIndex := 29, descriptorIndex := 79, attributes := #[] }, { accessFlags := 1, nameIndex := 81, descriptorIndex := 65, attributes := #[] }] 49 2 #[] #[{ accessFlags := 18, nameIndex := 25, descriptorIndex := 26, attributes := #[] }, { accessFlags := 18, nameIndex := 29, descriptorIndex := 26, attributes := #[] }, { accessFlags := 18, nameIndex := 32, descriptorIndex := 33, attributes := #[] }, { accessFlags := 18, nameIndex := 48, descriptorIndex := 33, attributes := #[] }, { accessFlags := 18, nameIndex := 51, descriptorIndex := 33, attributes := #[] }, { accessFlags := 18, nameIndex := 39, descriptorIndex := 54, attributes := #[] }, { accessFlags := 18, nameIndex := 45, descriptorIndex := 54, attributes := #[] }])
  fields := #[{ name := "nodeCount", type := .int, accessFlags := 18, slot := 0, constantValue := 0 }, { name := "firstThruNode", type := .int, accessFlags := 18, slot := 1, constantValue := 0 }, { name := "firstOut", type := (.array .int), accessFlags := 18, slot := 2, constantValue := 0 }, { name := "tail", type := (.array .int), accessFlags := 18, slot := 3, constantValue := 0 }, { name := "head", type := (.array .int), accessFlags := 18, slot := 4, constantValue := 0 }, { name := "length", type := (.array .double), accessFlags := 18, slot := 5, constantValue := 0 }, { name := "time", type := (.array .double), accessFlags := 18, slot := 6, constantValue := 0 }]
  methods := #[k3m0, k3m1, k3m2]
  instanceTypes := #[.int, .int, (.array .int), (.array .int), (.array .int), (.array .double), (.array .double)]
  staticTypes := #[]
  resolved := Array.replicate 107 none
  statics := none }

def pool4 : Array CpInfo := pool [(1, .class_ 2), (0, u "java/lang/Cloneable"), (0, .class_ 4), (0, u "java/lang/Object")] 2

/-- java/lang/Cloneable -/
def k4 : Class := { plain "java/lang/Cloneable" (some 0) with
  accessFlags := 1537
  interfaces := #[]
  cf := some (fileOf pool4 1 #[] #[] 1537 3 #[] #[])
  fields := #[]
  methods := #[]
  instanceTypes := #[]
  staticTypes := #[]
  resolved := Array.replicate 7 none
  statics := none }

def pool5 : Array CpInfo := pool [(1, u "java/io/Serializable"), (0, .class_ 1), (0, u "java/lang/Object"), (0, .class_ 3)] 3

/-- java/io/Serializable -/
def k5 : Class := { plain "java/io/Serializable" (some 0) with
  accessFlags := 1537
  interfaces := #[]
  cf := some (fileOf pool5 2 #[] #[] 1537 4 #[] #[])
  fields := #[]
  methods := #[]
  instanceTypes := #[]
  staticTypes := #[]
  resolved := Array.replicate 8 none
  statics := none }

/-- the primitive byte -/
def k6 : Class := { plain "byte" none with kind := .primitive 'B', accessFlags := 0x411 }
/-- [B -/
def k7 : Class := { plain "[B" (some 0) with kind := .array 6 .byte, interfaces := #[4, 5], accessFlags := 1041 }

/-- the primitive int -/
def k8 : Class := { plain "int" none with kind := .primitive 'I', accessFlags := 0x411 }
/-- [I -/
def k9 : Class := { plain "[I" (some 0) with kind := .array 8 .int, interfaces := #[4, 5], accessFlags := 1041 }

/-- the primitive double -/
def k10 : Class := { plain "double" none with kind := .primitive 'D', accessFlags := 0x411 }
/-- [D -/
def k11 : Class := { plain "[D" (some 0) with kind := .array 10 .double, interfaces := #[4, 5], accessFlags := 1041 }

def heap : Heap := #[]
def classes : Array Class := #[k0, k1, k2, k3, k4, k5, k6, k7, k8, k9, k10, k11]
def interned : List (Array UInt16 × Addr) := []
def slotsUsed : Nat := 0
def theMethod : MethodId := ⟨1, 1⟩
def args0 : Array Value := #[.int 5, .int 9, .int 3, .int 5]
def aboutOver (below : List Frame) : State where
  vm := { classes := classes, interned := interned.toArray }
  heap := heap
  slotsUsed := slotsUsed
  threads := #[{ frames := .invoking theMethod args0 :: below }]
def below0 : List Frame := [.native { method := ⟨0, 0⟩, args := #[] }]
def about1 : State := aboutOver below0
def p0 : Program := .bare "" "" ""
def e0 : Env := launch0.env 0 0 0
theorem w_frames : about1.frames = Frame.invoking theMethod args0 :: below0 := rfl
set_option maxRecDepth 65536 in
theorem w_args : argsFit about1.vm theMethod args0 = true := by decide +kernel
set_option maxRecDepth 65536 in
theorem w_heap : heapFits about1 = true := by decide +kernel
set_option maxRecDepth 65536 in
theorem w_runnable : about1.curStatus? = some .runnable := by decide +kernel
set_option maxRecDepth 65536 in
theorem w_alone : about1.alone = true := by decide +kernel
set_option maxRecDepth 65536 in
theorem w_named : about1.methodNamed? x = some theMethod := by decide +kernel
set_option maxRecDepth 65536 in
theorem w_hears : about1.hears theMethod below0 = true := by decide +kernel
set_option maxRecDepth 65536 in
theorem w_ripe : about1.ripe theMethod args0 below0 = true := by decide +kernel
theorem w_running : about1.status = .running := rfl
set_option maxRecDepth 65536 in
theorem w_room : about1.hasRoom e0.platform room_1 = true :=
  launch0.hasRoom_least _ room_1 (by decide +kernel) (by decide +kernel) (by decide +kernel) (by decide +kernel) (by decide +kernel) (by decide +kernel)
theorem allAtoms_all (ts : List Jvm.Cond) (a : Array Jvm.Value) (st : Jvm.State) : (allAtoms ts).before a st = ts.all (fun c => c.before a st) := by
  induction ts with
  | nil => rfl
  | cons c t ih =>
    show (Jvm.Cond.and c (allAtoms t)).before a st = _
    rw [Jvm.Cond.before_and, ih, List.all_cons]
def words1 : List Jvm.Cond := Jvm.Cond.code x code maxLocals ret :: tables_1
/-- a 'code' word, met by the world's own term for the bytes: nothing is compared byte by byte -/
theorem code_word {y : MethodName} {bytes : ByteArray} {mx : Nat} {rt : Option FieldType} {a : Array Value} {s : State} {m : MethodId} {meth : Method} {c : Code} (h1 : s.methodNamed? y = some m) (h2 : s.vm.method? m = some meth) (h3 : meth.code = some c) (h4 : c.code = bytes)
    (h5 : (c.maxLocals == mx && c.exceptionTable.isEmpty && decide (c.maxStack ≤ mostOperands) && decide (meth.sig.returnType = rt) && !meth.locks && decide (parseMethodDescriptor y.desc = some meth.sig)) = true) : (Jvm.Cond.code y bytes mx rt).before a s = true := by
  simp only [Bool.and_eq_true, beq_iff_eq, Bool.not_eq_true', decide_eq_true_eq] at h5
  obtain ⟨⟨⟨⟨⟨g1, g2⟩, g3⟩, g4⟩, g5⟩, g6⟩ := h5
  simp [Cond.before, Cond.holds, Cond.value, h1, h2, h3, h4, g1, g2, g3, g4, g5, g6]
def isCode : Jvm.Cond → Bool
  | .code _ _ _ _ => true
  | _ => false
theorem all_split {L : List Jvm.Cond} {P : Jvm.Cond → Bool} (h1 : L.all (fun c => isCode c || P c) = true) (h2 : ∀ c ∈ L.filter isCode, P c = true) : L.all P = true := by
  refine List.all_eq_true.mpr fun c hc => ?_
  have h := List.all_eq_true.mp h1 c hc
  rcases Bool.eq_false_or_eq_true (isCode c) with hi | hi
  · exact h2 c (List.mem_filter.mpr ⟨hc, hi⟩)
  · simpa [hi] using h
set_option maxRecDepth 65536 in
theorem w_c0 : (Jvm.Cond.code x code maxLocals ret).before args0 about1 = true := code_word (m := ⟨1, 1⟩) (meth := k1m1) (c := k1c1) (by decide +kernel) rfl rfl rfl (by decide +kernel)
set_option maxRecDepth 65536 in
theorem w_c1 : (Jvm.Cond.code ({ cls := "java/lang/Math", name := "max", desc := "(II)I" } : Jvm.MethodName) jdk_29_method_65_code (2 : Nat) (Option.some Jvm.ClassFile.FieldType.int)).before args0 about1 = true := code_word (m := ⟨2, 1⟩) (meth := k2m1) (c := k2c1) (by decide +kernel) rfl rfl rfl (by decide +kernel)
set_option maxRecDepth 65536 in
theorem w_c2 : (Jvm.Cond.code ({ cls := "com/example/cabweave/cabweave/Network", name := "<init>", desc := "(II[I[I[D[D)V" } : Jvm.MethodName) prog_22_method_1_code (11 : Nat) (Option.none : Option Jvm.ClassFile.FieldType)).before args0 about1 = true := code_word (m := ⟨3, 0⟩) (meth := k3m0) (c := k3c0) (by decide +kernel) rfl rfl rfl (by decide +kernel)
set_option maxRecDepth 65536 in
theorem w_c3 : (Jvm.Cond.code ({ cls := "java/lang/Object", name := "<init>", desc := "()V" } : Jvm.MethodName) object_method_1_code (1 : Nat) (Option.none : Option Jvm.ClassFile.FieldType)).before args0 about1 = true := code_word (m := ⟨0, 0⟩) (meth := k0m0) (c := k0c0) (by decide +kernel) rfl rfl rfl (by decide +kernel)
set_option maxRecDepth 65536 in
theorem w_c4 : (Jvm.Cond.code ({ cls := "java/lang/Math", name := "min", desc := "(II)I" } : Jvm.MethodName) jdk_29_method_69_code (2 : Nat) (Option.some Jvm.ClassFile.FieldType.int)).before args0 about1 = true := code_word (m := ⟨2, 2⟩) (meth := k2m2) (c := k2c2) (by decide +kernel) rfl rfl rfl (by decide +kernel)
set_option maxRecDepth 65536 in
theorem w_c5 : (Jvm.Cond.code ({ cls := "com/example/cabweave/cabweave/Network", name := "isZone", desc := "(I)Z" } : Jvm.MethodName) prog_22_method_8_code (2 : Nat) (Option.some Jvm.ClassFile.FieldType.boolean)).before args0 about1 = true := code_word (m := ⟨3, 2⟩) (meth := k3m2) (c := k3c2) (by decide +kernel) rfl rfl rfl (by decide +kernel)
set_option maxRecDepth 65536 in
theorem w_c6 : (Jvm.Cond.code ({ cls := "com/example/cabweave/cabweave/Network", name := "firstThruNode", desc := "()I" } : Jvm.MethodName) prog_22_method_5_code (1 : Nat) (Option.some Jvm.ClassFile.FieldType.int)).before args0 about1 = true := code_word (m := ⟨3, 1⟩) (meth := k3m1) (c := k3c1) (by decide +kernel) rfl rfl rfl (by decide +kernel)
def codes1 : List Jvm.Cond := [Jvm.Cond.code x code maxLocals ret, Jvm.Cond.code ({ cls := "java/lang/Math", name := "max", desc := "(II)I" } : Jvm.MethodName) jdk_29_method_65_code (2 : Nat) (Option.some Jvm.ClassFile.FieldType.int), Jvm.Cond.code ({ cls := "com/example/cabweave/cabweave/Network", name := "<init>", desc := "(II[I[I[D[D)V" } : Jvm.MethodName) prog_22_method_1_code (11 : Nat) (Option.none : Option Jvm.ClassFile.FieldType), Jvm.Cond.code ({ cls := "java/lang/Object", name := "<init>", desc := "()V" } : Jvm.MethodName) object_method_1_code (1 : Nat) (Option.none : Option Jvm.ClassFile.FieldType), Jvm.Cond.code ({ cls := "java/lang/Math", name := "min", desc := "(II)I" } : Jvm.MethodName) jdk_29_method_69_code (2 : Nat) (Option.some Jvm.ClassFile.FieldType.int), Jvm.Cond.code ({ cls := "com/example/cabweave/cabweave/Network", name := "isZone", desc := "(I)Z" } : Jvm.MethodName) prog_22_method_8_code (2 : Nat) (Option.some Jvm.ClassFile.FieldType.boolean), Jvm.Cond.code ({ cls := "com/example/cabweave/cabweave/Network", name := "firstThruNode", desc := "()I" } : Jvm.MethodName) prog_22_method_5_code (1 : Nat) (Option.some Jvm.ClassFile.FieldType.int)]
set_option maxRecDepth 65536 in
theorem codes_eq : words1.filter isCode = codes1 := rfl
theorem w_codes : ∀ c ∈ words1.filter isCode, c.before args0 about1 = true := by
  rw [codes_eq]
  intro c hc
  simp only [codes1, List.mem_cons, List.not_mem_nil, or_false] at hc
  rcases hc with rfl | rfl | rfl | rfl | rfl | rfl | rfl
  · exact w_c0
  · exact w_c1
  · exact w_c2
  · exact w_c3
  · exact w_c4
  · exact w_c5
  · exact w_c6
set_option maxRecDepth 65536 in
theorem w_t1 : (words1.take 24).all (fun c => isCode c || c.before args0 about1) = true := by decide +kernel
set_option maxRecDepth 65536 in
theorem w_t2 : ((words1.drop 24).take 24).all (fun c => isCode c || c.before args0 about1) = true := by decide +kernel
set_option maxRecDepth 65536 in
theorem w_t3 : ((words1.drop 24).drop 24).all (fun c => isCode c || c.before args0 about1) = true := by decide +kernel
theorem w_tables : (allAtoms (Jvm.Cond.code x code maxLocals ret :: tables_1)).before args0 about1 = true := by
  rw [allAtoms_all]
  show words1.all (fun c => c.before args0 about1) = true
  refine all_split ?_ w_codes
  rw [← List.take_append_drop 24 words1, List.all_append, w_t1, ← List.take_append_drop 24 (words1.drop 24), List.all_append, w_t2, w_t3]
  rfl
set_option maxRecDepth 65536 in
theorem w_case : (Jvm.Cond.and given_1 narrow_1).before args0 about1 = true := by decide +kernel
theorem w_applies : (headSpec (Jvm.Cond.code x code maxLocals ret :: tables_1) room_1).applies x e0.platform about1 = true :=
  (Spec.applies_iff w_frames).mpr ⟨w_running, w_runnable, w_alone, w_named, w_hears, w_ripe, w_room, w_tables⟩
theorem atStart : AtStart classFile x code maxLocals ret World_1 tables_1 room_1 Calls_1 rest_1 Pre_1 launch0 p0 e0 about1 theMethod args0 below0 :=
  ⟨lists_1, trivial, launch0.admits_env _ _ _, launch0.least_env, fairChoices_fair.cas, fairChoices_fair.clock, w_frames, w_args, w_heap, w_applies, trivial, trivial, w_case⟩
end start1
theorem witness_1 : WitnessClaimed_1 := ⟨start1.p0, start1.e0, start1.about1, start1.theMethod, start1.args0, start1.below0, start1.atStart⟩
end Jvm.Pilot.@@N@@
