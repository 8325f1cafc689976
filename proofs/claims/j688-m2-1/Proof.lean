import JvmDerived
import JvmDerived.Pilot.@@N@@Statement
import JvmDerived.Pilot.@@N@@Code
set_option linter.unusedVariables false
set_option linter.unusedSimpArgs false
namespace Jvm.RoadKit
open Sem ClassFile Op Lib Jvm.Stand Jvm.Free Jvm.LawKit
section New
variable {p : Program} {l : Launch} {e : Env} {R : Room} {s : State} {m : MethodId} {args : Array Value} {below : List Frame} {meth : Method} {c : Code} {T : State} {locs : List Loc} {cells slots : Nat}
theorem retI (X : Stand p l e R s m args below meth c T locs cells slots) (hx : p.tables.exec = Jvm.exec) {pc : Nat} {Ls : Array Slot} {z : Int32} {rest : List Value} (hret : meth.sig.returnType = some .int) (hd : decode c.code pc = .ok (.ireturn, 1)) {fs : List Frame}
    (hl : ∀ (f : JFrame) (acts : List Action), f.method = m → f.locked = none → f.entered = [] → (doReturn e (T.setTop f) acts (some (.int z))).1 = T.setFrames fs) : Steps p.tables e below (T.setTop (mkF m pc Ls (.int z :: rest))) (T.setFrames fs) := by
  have hm' : T.vm.method? m = some meth := X.method'
  have hn : narrow .int (.int z) = .int z := rfl
  show Steps p.tables e below (T.setTop { method := m, pc := pc, locals := Ls, stack := _ :: rest, locked := none }) _
  jvm_step X.here [X.here.top, hx, hd, hm', hret, hn]
  first | (intro acts; rw [hl _ acts rfl rfl rfl]) | rw [hl _ _ rfl rfl rfl]
  exact Steps.refl _
end New
end Jvm.RoadKit
namespace Jvm.Pilot.@@N@@
open Jvm Jvm.ClassFile Sem Op Lib Jvm.Free Jvm.Stand Jvm.LawKit Jvm.RoadKit Bundle Jvm.Pilot.@@N@@.Jvm.D
section OwnArrays
variable {Z : State} {h h' : Heap} {a b : Addr} {ty : FieldType} {n j : Int32} {F : Nat → Int32} {G : Nat → Int64} {sl : Nat} {v : Value} {ws : List Addr} {k : ClassId} {x : Int32} {y : Int64}
/-- an array of ints (chars, bytes, booleans ..): its length and its components -/
def own_AI (Z : State) (h : Heap) (a : Addr) (ty : FieldType) (n : Int32) (F : Nat → Int32) : Prop := ∃ c : Cell, Arr Z h a c ty ∧ c.slots.size = n.toNatClampNeg ∧ ¬ n < 0 ∧ ∀ i, i < c.slots.size → c.slots[i]? = some (.int (F i)) ∧ fits ty (.int (F i)) = true
/-- an array of longs -/
def own_AJ (Z : State) (h : Heap) (a : Addr) (ty : FieldType) (n : Int32) (F : Nat → Int64) : Prop := ∃ c : Cell, Arr Z h a c ty ∧ c.slots.size = n.toNatClampNeg ∧ ¬ n < 0 ∧ ∀ i, i < c.slots.size → c.slots[i]? = some (.long (F i))
/-- an array of which the length alone is told -/
def own_AL (Z : State) (h : Heap) (a : Addr) (ty : FieldType) (n : Int32) : Prop := ∃ c : Cell, Arr Z h a c ty ∧ c.slots.size = n.toNatClampNeg ∧ ¬ n < 0 ∧ True
def own_upd {α : Type} (F : Nat → α) (i : Nat) (v : α) : Nat → α := fun q => if q = i then v else F q
theorem own_upd_at {α : Type} (F : Nat → α) (i : Nat) (v : α) (q : Nat) : own_upd F i v q = if q = i then v else F q := rfl
theorem own_lt {c : Cell} (q : ¬ (j < 0 ∨ c.slots.size ≤ j.toNatClampNeg)) : j.toNatClampNeg < c.slots.size := Nat.lt_of_not_le fun z => q (Or.inr z)
theorem own_AI.lt (H : own_AI Z h a ty n F) : a < h.size := by obtain ⟨c, A, -⟩ := H; exact A.lt
theorem own_AI.ext (H : own_AI Z h a ty n F) (E : Ext h h') : own_AI Z h' a ty n F := by obtain ⟨c, A, r⟩ := H; exact ⟨c, A.ext E, r⟩
theorem own_AI.other (H : own_AI Z h b ty n F) (W : Wr h h' a sl v) (q : b ≠ a) : own_AI Z h' b ty n F := by obtain ⟨c, A, r⟩ := H; exact ⟨c, A.other W q, r⟩
theorem own_AI.keep (H : own_AI Z h a ty n F) (K : Keep h h' ws) (q : a ∉ ws) : own_AI Z h' a ty n F := by obtain ⟨c, A, r⟩ := H; exact ⟨c, ⟨K.2.1 a c A.1 q, A.2⟩, r⟩
theorem own_AI.new (A : Arr Z h a (newA k ty n) ty) (q : ¬ n < 0) (hd : defaultValue ty = .int 0) : own_AI Z h a ty n (fun _ => 0) :=
  ⟨_, A, sz_new _ _ _, q, fun i hi => by
    rw [sz_new] at hi
    refine ⟨by simp [newA, hi, hd], ?_⟩
    rw [← hd]; cases ty <;> rfl⟩
theorem own_AI.set (H : own_AI Z h a ty n F) (hv : fits ty (.int x) = true) (W : Wr h h' a j.toNatClampNeg (.int x)) : own_AI Z h' a ty n (own_upd F j.toNatClampNeg x) := by
  obtain ⟨c, A, S, q, H⟩ := H
  refine ⟨_, A.same W, by simpa [Cell.setSlot] using S, q, fun i hi => ?_⟩
  have hi' : i < c.slots.size := by simpa [Cell.setSlot] using hi
  by_cases u : i = j.toNatClampNeg
  · rw [own_upd_at, if_pos u]; subst u; exact ⟨by simp [Cell.setSlot, hi'], hv⟩
  · rw [own_upd_at, if_neg u]
    refine ⟨?_, (H i hi').2⟩
    have := (H i hi').1
    simp only [Cell.setSlot] at this ⊢
    rw [Array.getElem?_setIfInBounds_ne (Ne.symm u)]; exact this
theorem own_AJ.lt (H : own_AJ Z h a ty n G) : a < h.size := by obtain ⟨c, A, -⟩ := H; exact A.lt
theorem own_AJ.ext (H : own_AJ Z h a ty n G) (E : Ext h h') : own_AJ Z h' a ty n G := by obtain ⟨c, A, r⟩ := H; exact ⟨c, A.ext E, r⟩
theorem own_AJ.other (H : own_AJ Z h b ty n G) (W : Wr h h' a sl v) (q : b ≠ a) : own_AJ Z h' b ty n G := by obtain ⟨c, A, r⟩ := H; exact ⟨c, A.other W q, r⟩
theorem own_AJ.keep (H : own_AJ Z h a ty n G) (K : Keep h h' ws) (q : a ∉ ws) : own_AJ Z h' a ty n G := by obtain ⟨c, A, r⟩ := H; exact ⟨c, ⟨K.2.1 a c A.1 q, A.2⟩, r⟩
theorem own_AJ.new (A : Arr Z h a (newA k .long n) .long) (q : ¬ n < 0) : own_AJ Z h a .long n (fun _ => 0) :=
  ⟨_, A, sz_new _ _ _, q, fun i hi => by rw [sz_new] at hi; simp [newA, hi, defaultValue]⟩
theorem own_AJ.set (H : own_AJ Z h a ty n G) (W : Wr h h' a j.toNatClampNeg (.long y)) : own_AJ Z h' a ty n (own_upd G j.toNatClampNeg y) := by
  obtain ⟨c, A, S, q, H⟩ := H
  refine ⟨_, A.same W, by simpa [Cell.setSlot] using S, q, fun i hi => ?_⟩
  have hi' : i < c.slots.size := by simpa [Cell.setSlot] using hi
  by_cases u : i = j.toNatClampNeg
  · rw [own_upd_at, if_pos u]; subst u; simp [Cell.setSlot, hi']
  · rw [own_upd_at, if_neg u]
    have := H i hi'
    simp only [Cell.setSlot] at this ⊢
    rw [Array.getElem?_setIfInBounds_ne (Ne.symm u)]; exact this
theorem own_AL.lt (H : own_AL Z h a ty n) : a < h.size := by obtain ⟨c, A, -⟩ := H; exact A.lt
theorem own_AL.ext (H : own_AL Z h a ty n) (E : Ext h h') : own_AL Z h' a ty n := by obtain ⟨c, A, r⟩ := H; exact ⟨c, A.ext E, r⟩
theorem own_AL.other (H : own_AL Z h b ty n) (W : Wr h h' a sl v) (q : b ≠ a) : own_AL Z h' b ty n := by obtain ⟨c, A, r⟩ := H; exact ⟨c, A.other W q, r⟩
theorem own_AL.keep (H : own_AL Z h a ty n) (K : Keep h h' ws) (q : a ∉ ws) : own_AL Z h' a ty n := by obtain ⟨c, A, r⟩ := H; exact ⟨c, ⟨K.2.1 a c A.1 q, A.2⟩, r⟩
theorem own_AL.new (A : Arr Z h a (newA k ty n) ty) (q : ¬ n < 0) : own_AL Z h a ty n := ⟨_, A, sz_new _ _ _, q, trivial⟩
theorem own_AL.set (H : own_AL Z h a ty n) (W : Wr h h' a sl v) : own_AL Z h' a ty n := by
  obtain ⟨c, A, S, q, -⟩ := H
  exact ⟨_, A.same W, by simpa [Cell.setSlot] using S, q, trivial⟩
/-- an array of doubles -/
def own_AD (Z : State) (h : Heap) (a : Addr) (ty : FieldType) (n : Int32) (F : Nat → UInt64) : Prop := ∃ c : Cell, Arr Z h a c ty ∧ c.slots.size = n.toNatClampNeg ∧ ¬ n < 0 ∧ ∀ i, i < c.slots.size → c.slots[i]? = some (.double (F i))
theorem own_AD.lt {G : Nat → UInt64} (H : own_AD Z h a ty n G) : a < h.size := by obtain ⟨c, A, -⟩ := H; exact A.lt
theorem own_AD.ext {G : Nat → UInt64} (H : own_AD Z h a ty n G) (E : Ext h h') : own_AD Z h' a ty n G := by obtain ⟨c, A, r⟩ := H; exact ⟨c, A.ext E, r⟩
theorem own_AD.other {G : Nat → UInt64} (H : own_AD Z h b ty n G) (W : Wr h h' a sl v) (q : b ≠ a) : own_AD Z h' b ty n G := by obtain ⟨c, A, r⟩ := H; exact ⟨c, A.other W q, r⟩
theorem own_AD.keep {G : Nat → UInt64} (H : own_AD Z h a ty n G) (K : Keep h h' ws) (q : a ∉ ws) : own_AD Z h' a ty n G := by obtain ⟨c, A, r⟩ := H; exact ⟨c, ⟨K.2.1 a c A.1 q, A.2⟩, r⟩
theorem own_AD.new (A : Arr Z h a (newA k .double n) .double) (q : ¬ n < 0) : own_AD Z h a .double n (fun _ => 0) :=
  ⟨_, A, sz_new _ _ _, q, fun i hi => by rw [sz_new] at hi; simp [newA, hi, defaultValue]⟩
theorem own_AD.set {G : Nat → UInt64} {y : UInt64} (H : own_AD Z h a ty n G) (W : Wr h h' a j.toNatClampNeg (.double y)) : own_AD Z h' a ty n (own_upd G j.toNatClampNeg y) := by
  obtain ⟨c, A, S, q, H⟩ := H
  refine ⟨_, A.same W, by simpa [Cell.setSlot] using S, q, fun i hi => ?_⟩
  have hi' : i < c.slots.size := by simpa [Cell.setSlot] using hi
  by_cases u : i = j.toNatClampNeg
  · rw [own_upd_at, if_pos u]; subst u; simp [Cell.setSlot, hi']
  · rw [own_upd_at, if_neg u]
    have := H i hi'
    simp only [Cell.setSlot] at this ⊢
    rw [Array.getElem?_setIfInBounds_ne (Ne.symm u)]; exact this
theorem own_AI.congr {F' : Nat → Int32} (H : own_AI Z h a ty n F) (q : ∀ i, i < n.toNatClampNeg → F i = F' i) : own_AI Z h a ty n F' := by
  obtain ⟨c, A, S, N, H⟩ := H
  exact ⟨c, A, S, N, fun i hi => by rw [← q i (S ▸ hi)]; exact H i hi⟩
theorem own_AJ.congr {G' : Nat → Int64} (H : own_AJ Z h a ty n G) (q : ∀ i, i < n.toNatClampNeg → G i = G' i) : own_AJ Z h a ty n G' := by
  obtain ⟨c, A, S, N, H⟩ := H
  exact ⟨c, A, S, N, fun i hi => by rw [← q i (S ▸ hi)]; exact H i hi⟩
end OwnArrays
theorem own_Sta_keep {Z : State} {h h' : Heap} {C n d : String} {w : Value} {ws : List Addr} (F : Sta Z h C n d w) (K : Keep h h' ws) (q : ∀ x ∈ ws, ∃ c : Cell, h[x]? = some c ∧ c.vm.isStatics = false) : Sta Z h' C n d w := by
  obtain ⟨cf, i, k, f, st, cell, h1, h2, h3, h4, h5, h6, r⟩ := F
  refine ⟨cf, i, k, f, st, cell, h1, h2, h3, h4, K.2.1 _ _ h5 fun hm => ?_, h6, r⟩
  obtain ⟨c, g1, g2⟩ := q _ hm
  cases g1.symm.trans h5
  rw [h6] at g2
  cases g2
theorem own_Exa_st {Z : State} {h : Heap} {a : Addr} {C : String} (E : Exa Z h a C) : ∃ c : Cell, h[a]? = some c ∧ c.vm.isStatics = false := by
  obtain ⟨c, _, h1, -, -, h4, -⟩ := E
  exact ⟨c, h1, h4⟩
theorem own_AI_st {Z : State} {h : Heap} {a : Addr} {ty : FieldType} {n : Int32} {F : Nat → Int32} (H : own_AI Z h a ty n F) : ∃ c : Cell, h[a]? = some c ∧ c.vm.isStatics = false := by
  obtain ⟨c, A, -⟩ := H
  obtain ⟨os, -⟩ := State.isArrayOf_alike (Vm.Alike.refl _) A.2.1
  refine ⟨c, A.1, ?_⟩
  cases hv : c.vm <;> first | rfl | exact absurd hv (os _)

theorem own_four {x : Int32} (h : ¬ x < 0 ∧ x < (4 : Int32)) : x = 0 ∨ x = 1 ∨ x = 2 ∨ x = 3 := by
  have h1 : ¬ x.toInt < 0 := fun z => h.1 (Int32.lt_iff_toInt_lt.mpr z)
  have h2 : x.toInt < 4 := Int32.lt_iff_toInt_lt.mp h.2
  have h3 : x.toInt = 0 ∨ x.toInt = 1 ∨ x.toInt = 2 ∨ x.toInt = 3 := by omega
  rcases h3 with e | e | e | e
  · exact Or.inl (Int32.toInt_inj.mp (e.trans (by decide)))
  · exact Or.inr (Or.inl (Int32.toInt_inj.mp (e.trans (by decide))))
  · exact Or.inr (Or.inr (Or.inl (Int32.toInt_inj.mp (e.trans (by decide)))))
  · exact Or.inr (Or.inr (Or.inr (Int32.toInt_inj.mp (e.trans (by decide)))))
theorem own_t4 {x : Int32} (h : ¬ x < 0 ∧ x < (4 : Int32)) : ¬ ((((x + (1 : Int32)) + (1 : Int32)) + (1 : Int32)) + (1 : Int32)) < (4 : Int32) := by rcases own_four h with rfl | rfl | rfl | rfl <;> decide
theorem own_b1 {x : Int32} (h : ¬ x < 0 ∧ x < (4 : Int32)) (k : (x + (1 : Int32)) < (4 : Int32)) : ¬ (x + (1 : Int32)) < 0 ∧ (x + (1 : Int32)) < (4 : Int32) := ⟨by rcases own_four h with rfl | rfl | rfl | rfl <;> decide, k⟩
theorem own_b2 {x : Int32} (h : ¬ x < 0 ∧ x < (4 : Int32)) (k : ((x + (1 : Int32)) + (1 : Int32)) < (4 : Int32)) : ¬ ((x + (1 : Int32)) + (1 : Int32)) < 0 ∧ ((x + (1 : Int32)) + (1 : Int32)) < (4 : Int32) := ⟨by rcases own_four h with rfl | rfl | rfl | rfl <;> decide, k⟩
theorem own_b3 {x : Int32} (h : ¬ x < 0 ∧ x < (4 : Int32)) (k : (((x + (1 : Int32)) + (1 : Int32)) + (1 : Int32)) < (4 : Int32)) : ¬ (((x + (1 : Int32)) + (1 : Int32)) + (1 : Int32)) < 0 ∧ (((x + (1 : Int32)) + (1 : Int32)) + (1 : Int32)) < (4 : Int32) := ⟨by rcases own_four h with rfl | rfl | rfl | rfl <;> decide, k⟩
theorem own_s1 {x : Int32} (h : ¬ x < 0 ∧ x < (4 : Int32)) : ¬ (x <<< ((1 : Int32) &&& 31)) < 0 ∧ (x <<< ((1 : Int32) &&& 31)) < (8 : Int32) := by rcases own_four h with rfl | rfl | rfl | rfl <;> decide
theorem own_s2 {x : Int32} (h : ¬ x < 0 ∧ x < (4 : Int32)) : ¬ ((x <<< ((1 : Int32) &&& 31)) + (1 : Int32)) < 0 ∧ ((x <<< ((1 : Int32) &&& 31)) + (1 : Int32)) < (8 : Int32) := by rcases own_four h with rfl | rfl | rfl | rfl <;> decide
theorem own_ck {x : Int32} (h : ¬ x < 0 ∧ x < (4 : Int32)) : ¬ x < 0 ∧ ¬ (4 : Int32) < x ∧ ¬ (4 : Int32) < (4 : Int32) := by rcases own_four h with rfl | rfl | rfl | rfl <;> decide
def own_ch (F : Nat → Int32) : Prop := ∀ i, i < 4 → ∃ u : UInt16, F i = u.toUInt32.toInt32

theorem d28_0 : decode jdk_41_method_12_code 0 = .ok (.iload_n 0, 1) := by decide +kernel
theorem d28_1 : decode jdk_41_method_12_code 1 = .ok (.ifCond .lt 13, 3) := by decide +kernel
theorem d28_4 : decode jdk_41_method_12_code 4 = .ok (.iload_n 0, 1) := by decide +kernel
theorem d28_5 : decode jdk_41_method_12_code 5 = .ok (.iload_n 1, 1) := by decide +kernel
theorem d28_6 : decode jdk_41_method_12_code 6 = .ok (.if_icmp .gt 8, 3) := by decide +kernel
theorem d28_9 : decode jdk_41_method_12_code 9 = .ok (.iload_n 1, 1) := by decide +kernel
theorem d28_10 : decode jdk_41_method_12_code 10 = .ok (.iload_n 2, 1) := by decide +kernel
theorem d28_11 : decode jdk_41_method_12_code 11 = .ok (.if_icmp .le 11, 3) := by decide +kernel
theorem d28_22 : decode jdk_41_method_12_code 22 = .ok (.iload_n 0, 1) := by decide +kernel
theorem d28_23 : decode jdk_41_method_12_code 23 = .ok (.ireturn, 1) := by decide +kernel
theorem pn_28r : plainName "jdk/internal/util/Preconditions" = true := by first | (simp [plainName, overriddenIn]; done) | decide +kernel
theorem ef_28r (m : MethodId) (x0 : Int32) (x1 : Int32) (x2 : Int32) (x3 : Addr) : entryFrame m #[(.int x0), (.int x1), (.int x2), (.ref x3)] 4 = mkF m 0 #[.val (.int x0), .val (.int x1), .val (.int x2), .val (.ref x3)] [] := by first | (simp [entryFrame, mkF, argsToLocals, Value.category]; done) | rfl
def Q28r (Z : State) (p0 : Int32) (p1 : Int32) (p2 : Int32) (o3 : Addr) (h0 : Heap) (n0 : Nat) (v : Option Value) (h : Heap) (L : List Loc) : Prop := v = some (.int p0) ∧ Fr n0 L ∧ h = h0
set_option maxRecDepth 65536 in
set_option maxHeartbeats 40000000 in
theorem rm28r (l : Launch) (Z : State) (a0 : Array Value) (hw : ∀ d ∈ tables_1, d.before a0 Z = true) (ws : List Jvm.Cond) (p0 : Int32) (p1 : Int32) (p2 : Int32) (o3 : Addr) (h0 : Heap) (n0 : Nat) (Z0 : n0 ≤ h0.size) (h : ¬ p0 < 0 ∧ ¬ p1 < p0 ∧ ¬ p2 < p1) :
    MetFree l (⟨"jdk/internal/util/Preconditions", "checkFromToIndex", "(IIILjava/util/function/BiFunction;)I"⟩ : MethodName) (head1 (Jvm.Cond.code (⟨"jdk/internal/util/Preconditions", "checkFromToIndex", "(IIILjava/util/function/BiFunction;)I"⟩ : MethodName) jdk_41_method_12_code 4 (some .int) :: ws) ({ frames := 0, cells := 0, slots := 0, locals := 0 } : Room)) (fun a U => a = #[(.int p0), (.int p1), (.int p2), (.ref o3)] ∧ Z.Warmed39 U.vm ∧ U.heap = h0) (fun _ _ _ _ _ => True) (fun _ U o U' => ∃ v L, o = .returned v ∧ Q28r Z p0 p1 p2 o3 h0 n0 v U'.heap L ∧ FrameEnd U o U' L ({ frames := 0, cells := 0, slots := 0, locals := 0 } : Room).cells ({ frames := 0, cells := 0, slots := 0, locals := 0 } : Room).slots) := by
  refine MetFree.of_bodySF (plainFor_of_name pn_28r) hisR ?_
  intro p e s m args below meth c s₁ Bd hml0 hP hK
  obtain ⟨rfl, hZ, hh⟩ := hP
  have hx := Bd.exec
  have hby := Bd.bytes
  have hml : c.maxLocals = 4 := hml0
  have hown : s.vm.findClass "jdk/internal/util/Preconditions" = some m.cls := findClass_of_methodNamed Bd.named
  have hnm := (name_of_methodNamed Bd.named Bd.method).1
  have X0 : Stand p l e ({ frames := 0, cells := 0, slots := 0, locals := 0 } : Room) s m #[(.int p0), (.int p1), (.int p2), (.ref o3)] below meth c s₁ [] 0 0 := Stand.of_body Bd
  have e0 : s₁.heap = h0 := by rw [← hh, Bd.state]; rfl
  have N0 := Fr.nil n0
  have pre0 : ∀ t, Steps p.tables e below (s₁.setTop (mkF m 0 #[.val (.int p0), .val (.int p1), .val (.int p2), .val (.ref o3)] [])) t → Steps p.tables e below (s₁.setTop (entryFrame m #[(.int p0), (.int p1), (.int p2), (.ref o3)] 4)) t := fun t k => castTop (ef_28r m p0 p1 p2 o3) k
  have pre1 : ∀ t, Steps p.tables e below (s₁.setTop (mkF m 1 #[.val (.int p0), .val (.int p1), .val (.int p2), .val (.ref o3)] [(.int p0)])) t → Steps p.tables e below (s₁.setTop (entryFrame m #[(.int p0), (.int p1), (.int p2), (.ref o3)] 4)) t := fun t kt => pre0 t (by
      show Steps p.tables e below (s₁.setTop (mkF m 0 #[.val (.int p0), .val (.int p1), .val (.int p2), .val (.ref o3)] [])) _
      refine XS.iloadN X0.here hx rfl (hb hby d28_0) rfl ?_
      exact kt)
  have hd1_2 : ¬ (p0 < (0 : Int32)) := h.1
  have pre3 : ∀ t, Steps p.tables e below (s₁.setTop (mkF m 6 #[.val (.int p0), .val (.int p1), .val (.int p2), .val (.ref o3)] [(.int p1), (.int p0)])) t → Steps p.tables e below (s₁.setTop (entryFrame m #[(.int p0), (.int p1), (.int p2), (.ref o3)] 4)) t := fun t kt => pre1 t (by
      show Steps p.tables e below (s₁.setTop (mkF m 1 #[.val (.int p0), .val (.int p1), .val (.int p2), .val (.ref o3)] [(.int p0)])) _
      refine XS.ifNo X0.here hx rfl (hb hby d28_1) rfl ((if0 _ _).trans (flt hd1_2).1) ?_
      show Steps p.tables e below (s₁.setTop (mkF m 4 #[.val (.int p0), .val (.int p1), .val (.int p2), .val (.ref o3)] [])) _
      refine XS.iloadN X0.here hx rfl (hb hby d28_4) rfl ?_
      show Steps p.tables e below (s₁.setTop (mkF m 5 #[.val (.int p0), .val (.int p1), .val (.int p2), .val (.ref o3)] [(.int p0)])) _
      refine XS.iloadN X0.here hx rfl (hb hby d28_5) rfl ?_
      exact kt)
  have hd6_4 : ¬ (p1 < p0) := h.2.1
  have pre5 : ∀ t, Steps p.tables e below (s₁.setTop (mkF m 11 #[.val (.int p0), .val (.int p1), .val (.int p2), .val (.ref o3)] [(.int p2), (.int p1)])) t → Steps p.tables e below (s₁.setTop (entryFrame m #[(.int p0), (.int p1), (.int p2), (.ref o3)] 4)) t := fun t kt => pre3 t (by
      show Steps p.tables e below (s₁.setTop (mkF m 6 #[.val (.int p0), .val (.int p1), .val (.int p2), .val (.ref o3)] [(.int p1), (.int p0)])) _
      refine XS.icmpNo X0.here hx rfl (hb hby d28_6) rfl (flt hd6_4).2.2.1 ?_
      show Steps p.tables e below (s₁.setTop (mkF m 9 #[.val (.int p0), .val (.int p1), .val (.int p2), .val (.ref o3)] [])) _
      refine XS.iloadN X0.here hx rfl (hb hby d28_9) rfl ?_
      show Steps p.tables e below (s₁.setTop (mkF m 10 #[.val (.int p0), .val (.int p1), .val (.int p2), .val (.ref o3)] [(.int p1)])) _
      refine XS.iloadN X0.here hx rfl (hb hby d28_10) rfl ?_
      exact kt)
  have hd11_6 : ¬ (p2 < p1) := h.2.2
  obtain ⟨fs, hr, hrun, hended, hW, hsame⟩ := X0.leave (v := some (.int p0)) (fun h => by rw [Bd.returns] at h; cases h)
  have hv7 : p0 = p0 := rfl
  refine ⟨_, _, pre5 _ ?_, hrun, hended, _, _, rfl, ?_, ⟨_, rfl⟩, hW, hsame.mono (by decide) (by decide)⟩
  · show Steps p.tables e below (s₁.setTop (mkF m 11 #[.val (.int p0), .val (.int p1), .val (.int p2), .val (.ref o3)] [(.int p2), (.int p1)])) _
    refine XS.icmpYes X0.here hx rfl (pc0 := 11) (pc' := 22) rfl (hb hby d28_11) rfl (flt hd11_6).2.2.2 (by decide) (by decide) ?_
    show Steps p.tables e below (s₁.setTop (mkF m 22 #[.val (.int p0), .val (.int p1), .val (.int p2), .val (.ref o3)] [])) _
    refine XS.iloadN X0.here hx rfl (hb hby d28_22) rfl ?_
    show Steps p.tables e below (s₁.setTop (mkF m 23 #[.val (.int p0), .val (.int p1), .val (.int p2), .val (.ref o3)] [(.int p0)])) _
    exact retI X0 hx Bd.returns (hb hby d28_23) hr
  · show Q28r Z p0 p1 p2 o3 h0 n0 _ s₁.heap _
    rw [e0]
    exact ⟨congrArg (fun q => some (Value.int q)) hv7.symm, N0, rfl⟩
theorem pn_28n : plainName "jdk/internal/util/Preconditions" = true := by first | (simp [plainName, overriddenIn]; done) | decide +kernel
theorem ef_28n (m : MethodId) (x0 : Int32) (x1 : Int32) (x2 : Int32) : entryFrame m #[(.int x0), (.int x1), (.int x2), .null] 4 = mkF m 0 #[.val (.int x0), .val (.int x1), .val (.int x2), .val .null] [] := by first | (simp [entryFrame, mkF, argsToLocals, Value.category]; done) | rfl
def Q28n (Z : State) (p0 : Int32) (p1 : Int32) (p2 : Int32) (h0 : Heap) (n0 : Nat) (v : Option Value) (h : Heap) (L : List Loc) : Prop := v = some (.int p0) ∧ Fr n0 L ∧ h = h0
set_option maxRecDepth 65536 in
set_option maxHeartbeats 40000000 in
theorem rm28n (l : Launch) (Z : State) (a0 : Array Value) (hw : ∀ d ∈ tables_1, d.before a0 Z = true) (ws : List Jvm.Cond) (p0 : Int32) (p1 : Int32) (p2 : Int32) (h0 : Heap) (n0 : Nat) (Z0 : n0 ≤ h0.size) (h : ¬ p0 < 0 ∧ ¬ p1 < p0 ∧ ¬ p2 < p1) :
    MetFree l (⟨"jdk/internal/util/Preconditions", "checkFromToIndex", "(IIILjava/util/function/BiFunction;)I"⟩ : MethodName) (head1 (Jvm.Cond.code (⟨"jdk/internal/util/Preconditions", "checkFromToIndex", "(IIILjava/util/function/BiFunction;)I"⟩ : MethodName) jdk_41_method_12_code 4 (some .int) :: ws) ({ frames := 0, cells := 0, slots := 0, locals := 0 } : Room)) (fun a U => a = #[(.int p0), (.int p1), (.int p2), .null] ∧ Z.Warmed39 U.vm ∧ U.heap = h0) (fun _ _ _ _ _ => True) (fun _ U o U' => ∃ v L, o = .returned v ∧ Q28n Z p0 p1 p2 h0 n0 v U'.heap L ∧ FrameEnd U o U' L ({ frames := 0, cells := 0, slots := 0, locals := 0 } : Room).cells ({ frames := 0, cells := 0, slots := 0, locals := 0 } : Room).slots) := by
  refine MetFree.of_bodySF (plainFor_of_name pn_28n) hisR ?_
  intro p e s m args below meth c s₁ Bd hml0 hP hK
  obtain ⟨rfl, hZ, hh⟩ := hP
  have hx := Bd.exec
  have hby := Bd.bytes
  have hml : c.maxLocals = 4 := hml0
  have hown : s.vm.findClass "jdk/internal/util/Preconditions" = some m.cls := findClass_of_methodNamed Bd.named
  have hnm := (name_of_methodNamed Bd.named Bd.method).1
  have X0 : Stand p l e ({ frames := 0, cells := 0, slots := 0, locals := 0 } : Room) s m #[(.int p0), (.int p1), (.int p2), .null] below meth c s₁ [] 0 0 := Stand.of_body Bd
  have e0 : s₁.heap = h0 := by rw [← hh, Bd.state]; rfl
  have N0 := Fr.nil n0
  have pre0 : ∀ t, Steps p.tables e below (s₁.setTop (mkF m 0 #[.val (.int p0), .val (.int p1), .val (.int p2), .val .null] [])) t → Steps p.tables e below (s₁.setTop (entryFrame m #[(.int p0), (.int p1), (.int p2), .null] 4)) t := fun t k => castTop (ef_28n m p0 p1 p2) k
  have pre1 : ∀ t, Steps p.tables e below (s₁.setTop (mkF m 1 #[.val (.int p0), .val (.int p1), .val (.int p2), .val .null] [(.int p0)])) t → Steps p.tables e below (s₁.setTop (entryFrame m #[(.int p0), (.int p1), (.int p2), .null] 4)) t := fun t kt => pre0 t (by
      show Steps p.tables e below (s₁.setTop (mkF m 0 #[.val (.int p0), .val (.int p1), .val (.int p2), .val .null] [])) _
      refine XS.iloadN X0.here hx rfl (hb hby d28_0) rfl ?_
      exact kt)
  have hd1_2 : ¬ (p0 < (0 : Int32)) := h.1
  have pre3 : ∀ t, Steps p.tables e below (s₁.setTop (mkF m 6 #[.val (.int p0), .val (.int p1), .val (.int p2), .val .null] [(.int p1), (.int p0)])) t → Steps p.tables e below (s₁.setTop (entryFrame m #[(.int p0), (.int p1), (.int p2), .null] 4)) t := fun t kt => pre1 t (by
      show Steps p.tables e below (s₁.setTop (mkF m 1 #[.val (.int p0), .val (.int p1), .val (.int p2), .val .null] [(.int p0)])) _
      refine XS.ifNo X0.here hx rfl (hb hby d28_1) rfl ((if0 _ _).trans (flt hd1_2).1) ?_
      show Steps p.tables e below (s₁.setTop (mkF m 4 #[.val (.int p0), .val (.int p1), .val (.int p2), .val .null] [])) _
      refine XS.iloadN X0.here hx rfl (hb hby d28_4) rfl ?_
      show Steps p.tables e below (s₁.setTop (mkF m 5 #[.val (.int p0), .val (.int p1), .val (.int p2), .val .null] [(.int p0)])) _
      refine XS.iloadN X0.here hx rfl (hb hby d28_5) rfl ?_
      exact kt)
  have hd6_4 : ¬ (p1 < p0) := h.2.1
  have pre5 : ∀ t, Steps p.tables e below (s₁.setTop (mkF m 11 #[.val (.int p0), .val (.int p1), .val (.int p2), .val .null] [(.int p2), (.int p1)])) t → Steps p.tables e below (s₁.setTop (entryFrame m #[(.int p0), (.int p1), (.int p2), .null] 4)) t := fun t kt => pre3 t (by
      show Steps p.tables e below (s₁.setTop (mkF m 6 #[.val (.int p0), .val (.int p1), .val (.int p2), .val .null] [(.int p1), (.int p0)])) _
      refine XS.icmpNo X0.here hx rfl (hb hby d28_6) rfl (flt hd6_4).2.2.1 ?_
      show Steps p.tables e below (s₁.setTop (mkF m 9 #[.val (.int p0), .val (.int p1), .val (.int p2), .val .null] [])) _
      refine XS.iloadN X0.here hx rfl (hb hby d28_9) rfl ?_
      show Steps p.tables e below (s₁.setTop (mkF m 10 #[.val (.int p0), .val (.int p1), .val (.int p2), .val .null] [(.int p1)])) _
      refine XS.iloadN X0.here hx rfl (hb hby d28_10) rfl ?_
      exact kt)
  have hd11_6 : ¬ (p2 < p1) := h.2.2
  obtain ⟨fs, hr, hrun, hended, hW, hsame⟩ := X0.leave (v := some (.int p0)) (fun h => by rw [Bd.returns] at h; cases h)
  have hv7 : p0 = p0 := rfl
  refine ⟨_, _, pre5 _ ?_, hrun, hended, _, _, rfl, ?_, ⟨_, rfl⟩, hW, hsame.mono (by decide) (by decide)⟩
  · show Steps p.tables e below (s₁.setTop (mkF m 11 #[.val (.int p0), .val (.int p1), .val (.int p2), .val .null] [(.int p2), (.int p1)])) _
    refine XS.icmpYes X0.here hx rfl (pc0 := 11) (pc' := 22) rfl (hb hby d28_11) rfl (flt hd11_6).2.2.2 (by decide) (by decide) ?_
    show Steps p.tables e below (s₁.setTop (mkF m 22 #[.val (.int p0), .val (.int p1), .val (.int p2), .val .null] [])) _
    refine XS.iloadN X0.here hx rfl (hb hby d28_22) rfl ?_
    show Steps p.tables e below (s₁.setTop (mkF m 23 #[.val (.int p0), .val (.int p1), .val (.int p2), .val .null] [(.int p0)])) _
    exact retI X0 hx Bd.returns (hb hby d28_23) hr
  · show Q28n Z p0 p1 p2 h0 n0 _ s₁.heap _
    rw [e0]
    exact ⟨congrArg (fun q => some (Value.int q)) hv7.symm, N0, rfl⟩
theorem d27_0 : decode jdk_42_method_158_code 0 = .ok (.iload_n 0, 1) := by decide +kernel
theorem d27_1 : decode jdk_42_method_158_code 1 = .ok (.iload_n 1, 1) := by decide +kernel
theorem d27_2 : decode jdk_42_method_158_code 2 = .ok (.iload_n 2, 1) := by decide +kernel
theorem d27_3 : decode jdk_42_method_158_code 3 = .ok (.getstatic 1053, 3) := by decide +kernel
theorem d27_6 : decode jdk_42_method_158_code 6 = .ok (.invokestatic 1062, 3) := by decide +kernel
theorem d27_9 : decode jdk_42_method_158_code 9 = .ok (.pop, 1) := by decide +kernel
theorem d27_10 : decode jdk_42_method_158_code 10 = .ok (.return_, 1) := by decide +kernel
theorem pn_27r : plainName "java/lang/String" = true := by first | (simp [plainName, overriddenIn]; done) | decide +kernel
theorem pd_27r_0 : parseMethodDescriptor "(IIILjava/util/function/BiFunction;)I" = some ⟨[.int, .int, .int, (.object "java/util/function/BiFunction")], some .int⟩ := by decide +kernel
theorem ef_27r (m : MethodId) (x0 : Int32) (x1 : Int32) (x2 : Int32) : entryFrame m #[(.int x0), (.int x1), (.int x2)] 3 = mkF m 0 #[.val (.int x0), .val (.int x1), .val (.int x2)] [] := by first | (simp [entryFrame, mkF, argsToLocals, Value.category]; done) | rfl
def Q27r (Z : State) (p0 : Int32) (p1 : Int32) (p2 : Int32) (fm : Addr) (h0 : Heap) (n0 : Nat) (v : Option Value) (h : Heap) (L : List Loc) : Prop := v = none ∧ Fr n0 L ∧ h = h0
set_option maxRecDepth 65536 in
set_option maxHeartbeats 40000000 in
theorem rm27r (l : Launch) (Z : State) (a0 : Array Value) (hw : ∀ d ∈ tables_1, d.before a0 Z = true) (ws : List Jvm.Cond) (p0 : Int32) (p1 : Int32) (p2 : Int32) (fm : Addr) (h0 : Heap) (n0 : Nat) (Z0 : n0 ≤ h0.size) (S_SIOOBE_FORMATTER : Sta Z h0 "jdk/internal/util/Preconditions" "SIOOBE_FORMATTER" "Ljava/util/function/BiFunction;" (.ref fm)) (h : ¬ p0 < 0 ∧ ¬ p1 < p0 ∧ ¬ p2 < p1) :
    MetFree l (⟨"java/lang/String", "checkBoundsBeginEnd", "(III)V"⟩ : MethodName) (head1 (Jvm.Cond.code (⟨"java/lang/String", "checkBoundsBeginEnd", "(III)V"⟩ : MethodName) jdk_42_method_158_code 3 none :: ws) ({ frames := 1, cells := 0, slots := 0, locals := 15 } : Room)) (fun a U => a = #[(.int p0), (.int p1), (.int p2)] ∧ Z.Warmed39 U.vm ∧ U.heap = h0) (fun _ _ _ _ _ => True) (fun _ U o U' => ∃ v L, o = .returned v ∧ Q27r Z p0 p1 p2 fm h0 n0 v U'.heap L ∧ FrameEnd U o U' L ({ frames := 1, cells := 0, slots := 0, locals := 15 } : Room).cells ({ frames := 1, cells := 0, slots := 0, locals := 15 } : Room).slots) := by
  refine MetFree.of_bodySF (plainFor_of_name pn_27r) hisR ?_
  intro p e s m args below meth c s₁ Bd hml0 hP hK
  obtain ⟨rfl, hZ, hh⟩ := hP
  have hx := Bd.exec
  have hby := Bd.bytes
  have hml : c.maxLocals = 3 := hml0
  have hown : s.vm.findClass "java/lang/String" = some m.cls := findClass_of_methodNamed Bd.named
  have hnm := (name_of_methodNamed Bd.named Bd.method).1
  have X0 : Stand p l e ({ frames := 1, cells := 0, slots := 0, locals := 15 } : Room) s m #[(.int p0), (.int p1), (.int p2)] below meth c s₁ [] 0 0 := Stand.of_body Bd
  have e0 : s₁.heap = h0 := by rw [← hh, Bd.state]; rfl
  have N0 := Fr.nil n0
  have pre0 : ∀ t, Steps p.tables e below (s₁.setTop (mkF m 0 #[.val (.int p0), .val (.int p1), .val (.int p2)] [])) t → Steps p.tables e below (s₁.setTop (entryFrame m #[(.int p0), (.int p1), (.int p2)] 3)) t := fun t k => castTop (ef_27r m p0 p1 p2) k
  obtain ⟨T1, X1, e1, st1⟩ := getS2 X0 hx hZ hown (host := "") (Or.inl (hw _ (List.mem_of_getElem? (i := 112) rfl))) Via.refl e0 S_SIOOBE_FORMATTER (g := (mkF m 3 #[.val (.int p0), .val (.int p1), .val (.int p2)] [(.int p2), (.int p1), (.int p0)])) rfl (hb hby d27_3)
  obtain ⟨_, _, ⟨T2, L2, k2, n2⟩, -, X2, ⟨Lc2, hQ2, l2, y2, z2⟩, st2⟩ := Jvm.LawKit.callS X1 hx (y := (⟨"jdk/internal/util/Preconditions", "checkFromToIndex", "(IIILjava/util/function/BiFunction;)I"⟩ : MethodName)) hown (mvT hZ (hw _ (List.mem_of_getElem? (i := 114) rfl))) (mvT hZ (hw _ (List.mem_of_getElem? (i := 115) rfl))) (mvT hZ (hw _ (List.mem_of_getElem? (i := 113) rfl))) (mvT hZ (hw _ (List.mem_of_getElem? (i := 116) rfl))) (by decide) (backOf (W := 0) (rm28r l Z a0 hw [] p0 p1 p2 fm h0 n0 Z0 (h)) hZ (hw _ (List.mem_of_getElem? (i := 116) rfl)) (hw _ (List.mem_of_getElem? (i := 113) rfl)) (by decide) (by decide)) (g := (mkF m 6 #[.val (.int p0), .val (.int p1), .val (.int p2)] [(.ref fm), (.int p2), (.int p1), (.int p0)])) rfl (by rw [hml]; rfl) (argsL := [(.int p0), (.int p1), (.int p2), (.ref fm)]) (rest := []) (lenOf pd_27r_0 rfl) rfl (by show 2 * 0 + _ ≤ _; exact Nat.le_of_eq rfl) (hb hby d27_6) (fun _ _ => ⟨rfl, e1, (by decide : 0 + 0 ≤ _), (by decide : 0 + 0 ≤ _)⟩)
  dsimp only [Pt.U, Pt.locs, Pt.cells, Pt.slots] at X2 l2 y2 z2 st2 hQ2
  subst l2 y2 z2
  obtain ⟨rfl, N2q, e2q⟩ := hQ2
  have N2 := Fr.app N0 N2q
  obtain ⟨fs, hr, hrun, hended, hW, hsame⟩ := X2.leave (v := none) (fun _ => rfl)
  refine ⟨_, _, pre0 _ ?_, hrun, hended, _, _, rfl, ?_, ⟨_, rfl⟩, hW, hsame.mono (by decide) (by decide)⟩
  · show Steps p.tables e below (s₁.setTop (mkF m 0 #[.val (.int p0), .val (.int p1), .val (.int p2)] [])) _
    refine XS.iloadN X0.here hx rfl (hb hby d27_0) rfl ?_
    show Steps p.tables e below (s₁.setTop (mkF m 1 #[.val (.int p0), .val (.int p1), .val (.int p2)] [(.int p0)])) _
    refine XS.iloadN X0.here hx rfl (hb hby d27_1) rfl ?_
    show Steps p.tables e below (s₁.setTop (mkF m 2 #[.val (.int p0), .val (.int p1), .val (.int p2)] [(.int p1), (.int p0)])) _
    refine XS.iloadN X0.here hx rfl (hb hby d27_2) rfl ?_
    show Steps p.tables e below (s₁.setTop (mkF m 3 #[.val (.int p0), .val (.int p1), .val (.int p2)] [(.int p2), (.int p1), (.int p0)])) _
    refine st1 _ ?_
    show Steps p.tables e below (T1.setTop (mkF m 6 #[.val (.int p0), .val (.int p1), .val (.int p2)] [(.ref fm), (.int p2), (.int p1), (.int p0)])) _
    refine st2 _ ?_
    show Steps p.tables e below (T2.setTop (mkF m 9 #[.val (.int p0), .val (.int p1), .val (.int p2)] [(.int p0)])) _
    refine XS.pop X2.here hx rfl (hb hby d27_9) rfl rfl ?_
    show Steps p.tables e below (T2.setTop (mkF m 10 #[.val (.int p0), .val (.int p1), .val (.int p2)] [])) _
    exact X2.returnOut hx Bd.returns (hb hby d27_10) hr
  · show Q27r Z p0 p1 p2 fm h0 n0 _ T2.heap _
    rw [e2q]
    exact ⟨rfl, N2, rfl⟩
theorem pn_27n : plainName "java/lang/String" = true := by first | (simp [plainName, overriddenIn]; done) | decide +kernel
theorem pd_27n_0 : parseMethodDescriptor "(IIILjava/util/function/BiFunction;)I" = some ⟨[.int, .int, .int, (.object "java/util/function/BiFunction")], some .int⟩ := by decide +kernel
theorem ef_27n (m : MethodId) (x0 : Int32) (x1 : Int32) (x2 : Int32) : entryFrame m #[(.int x0), (.int x1), (.int x2)] 3 = mkF m 0 #[.val (.int x0), .val (.int x1), .val (.int x2)] [] := by first | (simp [entryFrame, mkF, argsToLocals, Value.category]; done) | rfl
def Q27n (Z : State) (p0 : Int32) (p1 : Int32) (p2 : Int32) (h0 : Heap) (n0 : Nat) (v : Option Value) (h : Heap) (L : List Loc) : Prop := v = none ∧ Fr n0 L ∧ h = h0
set_option maxRecDepth 65536 in
set_option maxHeartbeats 40000000 in
theorem rm27n (l : Launch) (Z : State) (a0 : Array Value) (hw : ∀ d ∈ tables_1, d.before a0 Z = true) (ws : List Jvm.Cond) (p0 : Int32) (p1 : Int32) (p2 : Int32) (h0 : Heap) (n0 : Nat) (Z0 : n0 ≤ h0.size) (S_SIOOBE_FORMATTER : Sta Z h0 "jdk/internal/util/Preconditions" "SIOOBE_FORMATTER" "Ljava/util/function/BiFunction;" .null) (h : ¬ p0 < 0 ∧ ¬ p1 < p0 ∧ ¬ p2 < p1) :
    MetFree l (⟨"java/lang/String", "checkBoundsBeginEnd", "(III)V"⟩ : MethodName) (head1 (Jvm.Cond.code (⟨"java/lang/String", "checkBoundsBeginEnd", "(III)V"⟩ : MethodName) jdk_42_method_158_code 3 none :: ws) ({ frames := 1, cells := 0, slots := 0, locals := 15 } : Room)) (fun a U => a = #[(.int p0), (.int p1), (.int p2)] ∧ Z.Warmed39 U.vm ∧ U.heap = h0) (fun _ _ _ _ _ => True) (fun _ U o U' => ∃ v L, o = .returned v ∧ Q27n Z p0 p1 p2 h0 n0 v U'.heap L ∧ FrameEnd U o U' L ({ frames := 1, cells := 0, slots := 0, locals := 15 } : Room).cells ({ frames := 1, cells := 0, slots := 0, locals := 15 } : Room).slots) := by
  refine MetFree.of_bodySF (plainFor_of_name pn_27n) hisR ?_
  intro p e s m args below meth c s₁ Bd hml0 hP hK
  obtain ⟨rfl, hZ, hh⟩ := hP
  have hx := Bd.exec
  have hby := Bd.bytes
  have hml : c.maxLocals = 3 := hml0
  have hown : s.vm.findClass "java/lang/String" = some m.cls := findClass_of_methodNamed Bd.named
  have hnm := (name_of_methodNamed Bd.named Bd.method).1
  have X0 : Stand p l e ({ frames := 1, cells := 0, slots := 0, locals := 15 } : Room) s m #[(.int p0), (.int p1), (.int p2)] below meth c s₁ [] 0 0 := Stand.of_body Bd
  have e0 : s₁.heap = h0 := by rw [← hh, Bd.state]; rfl
  have N0 := Fr.nil n0
  have pre0 : ∀ t, Steps p.tables e below (s₁.setTop (mkF m 0 #[.val (.int p0), .val (.int p1), .val (.int p2)] [])) t → Steps p.tables e below (s₁.setTop (entryFrame m #[(.int p0), (.int p1), (.int p2)] 3)) t := fun t k => castTop (ef_27n m p0 p1 p2) k
  obtain ⟨T1, X1, e1, st1⟩ := getS2 X0 hx hZ hown (host := "") (Or.inl (hw _ (List.mem_of_getElem? (i := 112) rfl))) Via.refl e0 S_SIOOBE_FORMATTER (g := (mkF m 3 #[.val (.int p0), .val (.int p1), .val (.int p2)] [(.int p2), (.int p1), (.int p0)])) rfl (hb hby d27_3)
  obtain ⟨_, _, ⟨T2, L2, k2, n2⟩, -, X2, ⟨Lc2, hQ2, l2, y2, z2⟩, st2⟩ := Jvm.LawKit.callS X1 hx (y := (⟨"jdk/internal/util/Preconditions", "checkFromToIndex", "(IIILjava/util/function/BiFunction;)I"⟩ : MethodName)) hown (mvT hZ (hw _ (List.mem_of_getElem? (i := 114) rfl))) (mvT hZ (hw _ (List.mem_of_getElem? (i := 115) rfl))) (mvT hZ (hw _ (List.mem_of_getElem? (i := 113) rfl))) (mvT hZ (hw _ (List.mem_of_getElem? (i := 116) rfl))) (by decide) (backOf (W := 0) (rm28n l Z a0 hw [] p0 p1 p2 h0 n0 Z0 (h)) hZ (hw _ (List.mem_of_getElem? (i := 116) rfl)) (hw _ (List.mem_of_getElem? (i := 113) rfl)) (by decide) (by decide)) (g := (mkF m 6 #[.val (.int p0), .val (.int p1), .val (.int p2)] [.null, (.int p2), (.int p1), (.int p0)])) rfl (by rw [hml]; rfl) (argsL := [(.int p0), (.int p1), (.int p2), .null]) (rest := []) (lenOf pd_27n_0 rfl) rfl (by show 2 * 0 + _ ≤ _; exact Nat.le_of_eq rfl) (hb hby d27_6) (fun _ _ => ⟨rfl, e1, (by decide : 0 + 0 ≤ _), (by decide : 0 + 0 ≤ _)⟩)
  dsimp only [Pt.U, Pt.locs, Pt.cells, Pt.slots] at X2 l2 y2 z2 st2 hQ2
  subst l2 y2 z2
  obtain ⟨rfl, N2q, e2q⟩ := hQ2
  have N2 := Fr.app N0 N2q
  obtain ⟨fs, hr, hrun, hended, hW, hsame⟩ := X2.leave (v := none) (fun _ => rfl)
  refine ⟨_, _, pre0 _ ?_, hrun, hended, _, _, rfl, ?_, ⟨_, rfl⟩, hW, hsame.mono (by decide) (by decide)⟩
  · show Steps p.tables e below (s₁.setTop (mkF m 0 #[.val (.int p0), .val (.int p1), .val (.int p2)] [])) _
    refine XS.iloadN X0.here hx rfl (hb hby d27_0) rfl ?_
    show Steps p.tables e below (s₁.setTop (mkF m 1 #[.val (.int p0), .val (.int p1), .val (.int p2)] [(.int p0)])) _
    refine XS.iloadN X0.here hx rfl (hb hby d27_1) rfl ?_
    show Steps p.tables e below (s₁.setTop (mkF m 2 #[.val (.int p0), .val (.int p1), .val (.int p2)] [(.int p1), (.int p0)])) _
    refine XS.iloadN X0.here hx rfl (hb hby d27_2) rfl ?_
    show Steps p.tables e below (s₁.setTop (mkF m 3 #[.val (.int p0), .val (.int p1), .val (.int p2)] [(.int p2), (.int p1), (.int p0)])) _
    refine st1 _ ?_
    show Steps p.tables e below (T1.setTop (mkF m 6 #[.val (.int p0), .val (.int p1), .val (.int p2)] [.null, (.int p2), (.int p1), (.int p0)])) _
    refine st2 _ ?_
    show Steps p.tables e below (T2.setTop (mkF m 9 #[.val (.int p0), .val (.int p1), .val (.int p2)] [(.int p0)])) _
    refine XS.pop X2.here hx rfl (hb hby d27_9) rfl rfl ?_
    show Steps p.tables e below (T2.setTop (mkF m 10 #[.val (.int p0), .val (.int p1), .val (.int p2)] [])) _
    exact X2.returnOut hx Bd.returns (hb hby d27_10) hr
  · show Q27n Z p0 p1 p2 h0 n0 _ T2.heap _
    rw [e2q]
    exact ⟨rfl, N2, rfl⟩
def Q27 (Z : State) (p0 p1 p2 : Int32) (fm : Value) (h0 : Heap) (n0 : Nat) (v : Option Value) (h : Heap) (L : List Loc) : Prop := v = none ∧ Fr n0 L ∧ h = h0
theorem rm27 (l : Launch) (Z : State) (a0 : Array Value) (hw : ∀ d ∈ tables_1, d.before a0 Z = true) (ws : List Jvm.Cond) (p0 p1 p2 : Int32) (fm : Value) (h0 : Heap) (n0 : Nat) (Z0 : n0 ≤ h0.size) (S_SIOOBE_FORMATTER : Sta Z h0 "jdk/internal/util/Preconditions" "SIOOBE_FORMATTER" "Ljava/util/function/BiFunction;" fm) (hfm : fm.isRef = true) (h : ¬ p0 < 0 ∧ ¬ p1 < p0 ∧ ¬ p2 < p1) :
    MetFree l (⟨"java/lang/String", "checkBoundsBeginEnd", "(III)V"⟩ : MethodName) (head1 (Jvm.Cond.code (⟨"java/lang/String", "checkBoundsBeginEnd", "(III)V"⟩ : MethodName) jdk_42_method_158_code 3 none :: ws) ({ frames := 1, cells := 0, slots := 0, locals := 15 } : Room)) (fun a U => a = #[(.int p0), (.int p1), (.int p2)] ∧ Z.Warmed39 U.vm ∧ U.heap = h0) (fun _ _ _ _ _ => True) (fun _ U o U' => ∃ v L, o = .returned v ∧ Q27 Z p0 p1 p2 fm h0 n0 v U'.heap L ∧ FrameEnd U o U' L ({ frames := 1, cells := 0, slots := 0, locals := 15 } : Room).cells ({ frames := 1, cells := 0, slots := 0, locals := 15 } : Room).slots) := by
  rcases ref_cases hfm with rfl | ⟨a, rfl⟩
  · exact rm27n l Z a0 hw ws p0 p1 p2 h0 n0 Z0 S_SIOOBE_FORMATTER h
  · exact rm27r l Z a0 hw ws p0 p1 p2 a h0 n0 Z0 S_SIOOBE_FORMATTER h
theorem d26_0 : decode jdk_52_method_6_code 0 = .ok (.aload_n 0, 1) := by decide +kernel
theorem d26_1 : decode jdk_52_method_6_code 1 = .ok (.arraylength, 1) := by decide +kernel
theorem d26_2 : decode jdk_52_method_6_code 2 = .ok (.iconst 1, 1) := by decide +kernel
theorem d26_3 : decode jdk_52_method_6_code 3 = .ok (.ishr, 1) := by decide +kernel
theorem d26_4 : decode jdk_52_method_6_code 4 = .ok (.ireturn, 1) := by decide +kernel
theorem pn_26 : plainName "java/lang/StringUTF16" = true := by first | (simp [plainName, overriddenIn]; done) | decide +kernel
theorem ef_26 (m : MethodId) (x0 : Addr) : entryFrame m #[(.ref x0)] 1 = mkF m 0 #[.val (.ref x0)] [] := by first | (simp [entryFrame, mkF, argsToLocals, Value.category]; done) | rfl
def Q26 (Z : State) (o0 : Addr) (F : Nat → Int32) (h0 : Heap) (n0 : Nat) (v : Option Value) (h : Heap) (L : List Loc) : Prop := v = some (.int (4 : Int32)) ∧ Fr n0 L ∧ h = h0
set_option maxRecDepth 65536 in
set_option maxHeartbeats 40000000 in
theorem rm26 (l : Launch) (Z : State) (a0 : Array Value) (hw : ∀ d ∈ tables_1, d.before a0 Z = true) (ws : List Jvm.Cond) (o0 : Addr) (F : Nat → Int32) (h0 : Heap) (n0 : Nat) (Z0 : n0 ≤ h0.size) (V_o0 : own_AI Z h0 o0 .byte (8 : Int32) F) :
    MetFree l (⟨"java/lang/StringUTF16", "length", "([B)I"⟩ : MethodName) (head1 (Jvm.Cond.code (⟨"java/lang/StringUTF16", "length", "([B)I"⟩ : MethodName) jdk_52_method_6_code 1 (some .int) :: ws) ({ frames := 0, cells := 0, slots := 0, locals := 0 } : Room)) (fun a U => a = #[(.ref o0)] ∧ Z.Warmed39 U.vm ∧ U.heap = h0) (fun _ _ _ _ _ => True) (fun _ U o U' => ∃ v L, o = .returned v ∧ Q26 Z o0 F h0 n0 v U'.heap L ∧ FrameEnd U o U' L ({ frames := 0, cells := 0, slots := 0, locals := 0 } : Room).cells ({ frames := 0, cells := 0, slots := 0, locals := 0 } : Room).slots) := by
  refine MetFree.of_bodySF (plainFor_of_name pn_26) hisR ?_
  intro p e s m args below meth c s₁ Bd hml0 hP hK
  obtain ⟨rfl, hZ, hh⟩ := hP
  have hx := Bd.exec
  have hby := Bd.bytes
  have hml : c.maxLocals = 1 := hml0
  have hown : s.vm.findClass "java/lang/StringUTF16" = some m.cls := findClass_of_methodNamed Bd.named
  have hnm := (name_of_methodNamed Bd.named Bd.method).1
  have X0 : Stand p l e ({ frames := 0, cells := 0, slots := 0, locals := 0 } : Room) s m #[(.ref o0)] below meth c s₁ [] 0 0 := Stand.of_body Bd
  have e0 : s₁.heap = h0 := by rw [← hh, Bd.state]; rfl
  have N0 := Fr.nil n0
  have pre0 : ∀ t, Steps p.tables e below (s₁.setTop (mkF m 0 #[.val (.ref o0)] [])) t → Steps p.tables e below (s₁.setTop (entryFrame m #[(.ref o0)] 1)) t := fun t k => castTop (ef_26 m o0) k
  obtain ⟨cl1, Ar1, Sz1, Nn1, -⟩ := id V_o0
  obtain ⟨fs, hr, hrun, hended, hW, hsame⟩ := X0.leave (v := some (.int (4 : Int32))) (fun h => by rw [Bd.returns] at h; cases h)
  have hv2 : (4 : Int32) = (4 : Int32) := rfl
  refine ⟨_, _, pre0 _ ?_, hrun, hended, _, _, rfl, ?_, ⟨_, rfl⟩, hW, hsame.mono (by decide) (by decide)⟩
  · show Steps p.tables e below (s₁.setTop (mkF m 0 #[.val (.ref o0)] [])) _
    refine XS.aloadN X0.here hx rfl (hb hby d26_0) rfl rfl ?_
    show Steps p.tables e below (s₁.setTop (mkF m 1 #[.val (.ref o0)] [(.ref o0)])) _
    refine X0.arraylength hx (by rw [e0]; exact Ar1.1) (State.isArrayOf_alike hZ.alike Ar1.2.1) (g := (mkF m 1 #[.val (.ref o0)] [(.ref o0)])) rfl rfl (hb hby d26_1) _ ?_
    rw [len_of Sz1 Nn1]
    show Steps p.tables e below (s₁.setTop (mkF m 2 #[.val (.ref o0)] [(.int (8 : Int32))])) _
    refine XS.iconst X0.here hx rfl (hb hby d26_2) ?_
    show Steps p.tables e below (s₁.setTop (mkF m 3 #[.val (.ref o0)] [(.int (1 : Int32)), (.int (8 : Int32))])) _
    refine XS.ishr X0.here hx rfl (hb hby d26_3) rfl ?_
    show Steps p.tables e below (s₁.setTop (mkF m 4 #[.val (.ref o0)] [(.int (4 : Int32))])) _
    exact retI X0 hx Bd.returns (hb hby d26_4) hr
  · show Q26 Z o0 F h0 n0 _ s₁.heap _
    rw [e0]
    exact ⟨congrArg (fun q => some (Value.int q)) hv2.symm, N0, rfl⟩
theorem d25_0 : decode jdk_52_method_93_code 0 = .ok (.iload_n 0, 1) := by decide +kernel
theorem d25_1 : decode jdk_52_method_93_code 1 = .ok (.iload_n 1, 1) := by decide +kernel
theorem d25_2 : decode jdk_52_method_93_code 2 = .ok (.aload_n 2, 1) := by decide +kernel
theorem d25_3 : decode jdk_52_method_93_code 3 = .ok (.invokestatic 48, 3) := by decide +kernel
theorem d25_6 : decode jdk_52_method_93_code 6 = .ok (.invokestatic 241, 3) := by decide +kernel
theorem d25_9 : decode jdk_52_method_93_code 9 = .ok (.return_, 1) := by decide +kernel
theorem pn_25 : plainName "java/lang/StringUTF16" = true := by first | (simp [plainName, overriddenIn]; done) | decide +kernel
theorem pd_25_0 : parseMethodDescriptor "([B)I" = some ⟨[(.array .byte)], some .int⟩ := by decide +kernel
theorem pd_25_1 : parseMethodDescriptor "(III)V" = some ⟨[.int, .int, .int], none⟩ := by decide +kernel
theorem ef_25 (m : MethodId) (x0 : Int32) (x1 : Int32) (x2 : Addr) : entryFrame m #[(.int x0), (.int x1), (.ref x2)] 3 = mkF m 0 #[.val (.int x0), .val (.int x1), .val (.ref x2)] [] := by first | (simp [entryFrame, mkF, argsToLocals, Value.category]; done) | rfl
def Q25 (Z : State) (p0 : Int32) (p1 : Int32) (o2 : Addr) (fm : Value) (F : Nat → Int32) (h0 : Heap) (n0 : Nat) (v : Option Value) (h : Heap) (L : List Loc) : Prop := v = none ∧ Fr n0 L ∧ h = h0
set_option maxRecDepth 65536 in
set_option maxHeartbeats 40000000 in
theorem rm25 (l : Launch) (Z : State) (a0 : Array Value) (hw : ∀ d ∈ tables_1, d.before a0 Z = true) (ws : List Jvm.Cond) (p0 : Int32) (p1 : Int32) (o2 : Addr) (fm : Value) (F : Nat → Int32) (h0 : Heap) (n0 : Nat) (Z0 : n0 ≤ h0.size) (S_SIOOBE_FORMATTER : Sta Z h0 "jdk/internal/util/Preconditions" "SIOOBE_FORMATTER" "Ljava/util/function/BiFunction;" fm) (hfm : fm.isRef = true) (V_o2 : own_AI Z h0 o2 .byte (8 : Int32) F) (h : ¬ p0 < 0 ∧ ¬ p1 < p0 ∧ ¬ (4 : Int32) < p1) :
    MetFree l (⟨"java/lang/StringUTF16", "checkBoundsBeginEnd", "(II[B)V"⟩ : MethodName) (head1 (Jvm.Cond.code (⟨"java/lang/StringUTF16", "checkBoundsBeginEnd", "(II[B)V"⟩ : MethodName) jdk_52_method_93_code 3 none :: ws) ({ frames := 2, cells := 0, slots := 0, locals := 29 } : Room)) (fun a U => a = #[(.int p0), (.int p1), (.ref o2)] ∧ Z.Warmed39 U.vm ∧ U.heap = h0) (fun _ _ _ _ _ => True) (fun _ U o U' => ∃ v L, o = .returned v ∧ Q25 Z p0 p1 o2 fm F h0 n0 v U'.heap L ∧ FrameEnd U o U' L ({ frames := 2, cells := 0, slots := 0, locals := 29 } : Room).cells ({ frames := 2, cells := 0, slots := 0, locals := 29 } : Room).slots) := by
  refine MetFree.of_bodySF (plainFor_of_name pn_25) hisR ?_
  intro p e s m args below meth c s₁ Bd hml0 hP hK
  obtain ⟨rfl, hZ, hh⟩ := hP
  have hx := Bd.exec
  have hby := Bd.bytes
  have hml : c.maxLocals = 3 := hml0
  have hown : s.vm.findClass "java/lang/StringUTF16" = some m.cls := findClass_of_methodNamed Bd.named
  have hnm := (name_of_methodNamed Bd.named Bd.method).1
  have X0 : Stand p l e ({ frames := 2, cells := 0, slots := 0, locals := 29 } : Room) s m #[(.int p0), (.int p1), (.ref o2)] below meth c s₁ [] 0 0 := Stand.of_body Bd
  have e0 : s₁.heap = h0 := by rw [← hh, Bd.state]; rfl
  have N0 := Fr.nil n0
  have pre0 : ∀ t, Steps p.tables e below (s₁.setTop (mkF m 0 #[.val (.int p0), .val (.int p1), .val (.ref o2)] [])) t → Steps p.tables e below (s₁.setTop (entryFrame m #[(.int p0), (.int p1), (.ref o2)] 3)) t := fun t k => castTop (ef_25 m p0 p1 o2) k
  obtain ⟨_, _, ⟨T1, L1, k1, n1⟩, -, X1, ⟨Lc1, hQ1, l1, y1, z1⟩, st1⟩ := Jvm.LawKit.callS X0 hx (y := (⟨"java/lang/StringUTF16", "length", "([B)I"⟩ : MethodName)) hown (mvT hZ (hw _ (List.mem_of_getElem? (i := 106) rfl))) (mvT hZ (hw _ (List.mem_of_getElem? (i := 107) rfl))) (mvT hZ (hw _ (List.mem_of_getElem? (i := 17) rfl))) (mvT hZ (hw _ (List.mem_of_getElem? (i := 108) rfl))) (by decide) (backOf (W := 2) (rm26 l Z a0 hw [] o2 F h0 n0 Z0 V_o2) hZ (hw _ (List.mem_of_getElem? (i := 108) rfl)) (hw _ (List.mem_of_getElem? (i := 17) rfl)) (by decide) (by decide)) (g := (mkF m 3 #[.val (.int p0), .val (.int p1), .val (.ref o2)] [(.ref o2), (.int p1), (.int p0)])) rfl (by rw [hml]; rfl) (argsL := [(.ref o2)]) (rest := [(.int p1), (.int p0)]) (lenOf pd_25_0 rfl) rfl (by show 2 * 0 + _ ≤ _; exact Nat.le_of_eq rfl) (hb hby d25_3) (fun _ _ => ⟨rfl, e0, (by decide : 0 + 0 ≤ _), (by decide : 0 + 0 ≤ _)⟩)
  dsimp only [Pt.U, Pt.locs, Pt.cells, Pt.slots] at X1 l1 y1 z1 st1 hQ1
  subst l1 y1 z1
  obtain ⟨rfl, N1q, e1q⟩ := hQ1
  have N1 := Fr.app N0 N1q
  obtain ⟨_, _, ⟨T2, L2, k2, n2⟩, -, X2, ⟨Lc2, hQ2, l2, y2, z2⟩, st2⟩ := Jvm.LawKit.callS X1 hx (y := (⟨"java/lang/String", "checkBoundsBeginEnd", "(III)V"⟩ : MethodName)) hown (mvT hZ (hw _ (List.mem_of_getElem? (i := 109) rfl))) (mvT hZ (hw _ (List.mem_of_getElem? (i := 110) rfl))) (mvT hZ (hw _ (List.mem_of_getElem? (i := 3) rfl))) (mvT hZ (hw _ (List.mem_of_getElem? (i := 111) rfl))) (by decide) (backOf (W := 0) (rm27 l Z a0 hw [] p0 p1 (4 : Int32) fm h0 n0 Z0 S_SIOOBE_FORMATTER (hfm) (h)) hZ (hw _ (List.mem_of_getElem? (i := 111) rfl)) (hw _ (List.mem_of_getElem? (i := 3) rfl)) (by decide) (by decide)) (g := (mkF m 6 #[.val (.int p0), .val (.int p1), .val (.ref o2)] [(.int (4 : Int32)), (.int p1), (.int p0)])) rfl (by rw [hml]; rfl) (argsL := [(.int p0), (.int p1), (.int (4 : Int32))]) (rest := []) (lenOf pd_25_1 rfl) rfl (by show 2 * 0 + _ ≤ _; exact Nat.le_of_eq rfl) (hb hby d25_6) (fun _ _ => ⟨rfl, e1q, (by decide : 0 + 0 ≤ _), (by decide : 0 + 0 ≤ _)⟩)
  dsimp only [Pt.U, Pt.locs, Pt.cells, Pt.slots] at X2 l2 y2 z2 st2 hQ2
  subst l2 y2 z2
  obtain ⟨rfl, N2q, e2q⟩ := hQ2
  have N2 := Fr.app N1 N2q
  obtain ⟨fs, hr, hrun, hended, hW, hsame⟩ := X2.leave (v := none) (fun _ => rfl)
  refine ⟨_, _, pre0 _ ?_, hrun, hended, _, _, rfl, ?_, ⟨_, rfl⟩, hW, hsame.mono (by decide) (by decide)⟩
  · show Steps p.tables e below (s₁.setTop (mkF m 0 #[.val (.int p0), .val (.int p1), .val (.ref o2)] [])) _
    refine XS.iloadN X0.here hx rfl (hb hby d25_0) rfl ?_
    show Steps p.tables e below (s₁.setTop (mkF m 1 #[.val (.int p0), .val (.int p1), .val (.ref o2)] [(.int p0)])) _
    refine XS.iloadN X0.here hx rfl (hb hby d25_1) rfl ?_
    show Steps p.tables e below (s₁.setTop (mkF m 2 #[.val (.int p0), .val (.int p1), .val (.ref o2)] [(.int p1), (.int p0)])) _
    refine XS.aloadN X0.here hx rfl (hb hby d25_2) rfl rfl ?_
    show Steps p.tables e below (s₁.setTop (mkF m 3 #[.val (.int p0), .val (.int p1), .val (.ref o2)] [(.ref o2), (.int p1), (.int p0)])) _
    refine st1 _ ?_
    show Steps p.tables e below (T1.setTop (mkF m 6 #[.val (.int p0), .val (.int p1), .val (.ref o2)] [(.int (4 : Int32)), (.int p1), (.int p0)])) _
    refine st2 _ ?_
    show Steps p.tables e below (T2.setTop (mkF m 9 #[.val (.int p0), .val (.int p1), .val (.ref o2)] [])) _
    exact X2.returnOut hx Bd.returns (hb hby d25_9) hr
  · show Q25 Z p0 p1 o2 fm F h0 n0 _ T2.heap _
    rw [e2q]
    exact ⟨rfl, N2, rfl⟩
theorem d22_0 : decode jdk_52_method_5_code 0 = .ok (.getstatic 44, 3) := by decide +kernel
theorem d22_3 : decode jdk_52_method_5_code 3 = .ok (.ifCond .ne 25, 3) := by decide +kernel
theorem d22_28 : decode jdk_52_method_5_code 28 = .ok (.iload_n 1, 1) := by decide +kernel
theorem d22_29 : decode jdk_52_method_5_code 29 = .ok (.iconst 1, 1) := by decide +kernel
theorem d22_30 : decode jdk_52_method_5_code 30 = .ok (.ishl, 1) := by decide +kernel
theorem d22_31 : decode jdk_52_method_5_code 31 = .ok (.istore_n 1, 1) := by decide +kernel
theorem d22_32 : decode jdk_52_method_5_code 32 = .ok (.aload_n 0, 1) := by decide +kernel
theorem d22_33 : decode jdk_52_method_5_code 33 = .ok (.iload_n 1, 1) := by decide +kernel
theorem d22_34 : decode jdk_52_method_5_code 34 = .ok (.iinc 1 1, 3) := by decide +kernel
theorem d22_37 : decode jdk_52_method_5_code 37 = .ok (.baload, 1) := by decide +kernel
theorem d22_38 : decode jdk_52_method_5_code 38 = .ok (.sipush 255, 3) := by decide +kernel
theorem d22_41 : decode jdk_52_method_5_code 41 = .ok (.iand, 1) := by decide +kernel
theorem d22_42 : decode jdk_52_method_5_code 42 = .ok (.getstatic 59, 3) := by decide +kernel
theorem d22_45 : decode jdk_52_method_5_code 45 = .ok (.ishl, 1) := by decide +kernel
theorem d22_46 : decode jdk_52_method_5_code 46 = .ok (.aload_n 0, 1) := by decide +kernel
theorem d22_47 : decode jdk_52_method_5_code 47 = .ok (.iload_n 1, 1) := by decide +kernel
theorem d22_48 : decode jdk_52_method_5_code 48 = .ok (.baload, 1) := by decide +kernel
theorem d22_49 : decode jdk_52_method_5_code 49 = .ok (.sipush 255, 3) := by decide +kernel
theorem d22_52 : decode jdk_52_method_5_code 52 = .ok (.iand, 1) := by decide +kernel
theorem d22_53 : decode jdk_52_method_5_code 53 = .ok (.getstatic 63, 3) := by decide +kernel
theorem d22_56 : decode jdk_52_method_5_code 56 = .ok (.ishl, 1) := by decide +kernel
theorem d22_57 : decode jdk_52_method_5_code 57 = .ok (.ior, 1) := by decide +kernel
theorem d22_58 : decode jdk_52_method_5_code 58 = .ok (.i2c, 1) := by decide +kernel
theorem d22_59 : decode jdk_52_method_5_code 59 = .ok (.ireturn, 1) := by decide +kernel
theorem pn_22 : plainName "java/lang/StringUTF16" = true := by first | (simp [plainName, overriddenIn]; done) | decide +kernel
theorem ef_22 (m : MethodId) (x0 : Addr) (x1 : Int32) : entryFrame m #[(.ref x0), (.int x1)] 2 = mkF m 0 #[.val (.ref x0), .val (.int x1)] [] := by first | (simp [entryFrame, mkF, argsToLocals, Value.category]; done) | rfl
def f22 (p1 : Int32) (F : Nat → Int32) : Int32 :=
  (nar .char (((((F ((p1 <<< ((1 : Int32) &&& 31))).toNatClampNeg) &&& (255 : Int32)) <<< ((0 : Int32) &&& 31)) ||| (((F (((p1 <<< ((1 : Int32) &&& 31)) + (1 : Int32))).toNatClampNeg) &&& (255 : Int32)) <<< ((8 : Int32) &&& 31))).toUInt32.toUInt16.toUInt32.toInt32))
def Q22 (Z : State) (o0 : Addr) (p1 : Int32) (F : Nat → Int32) (h0 : Heap) (n0 : Nat) (v : Option Value) (h : Heap) (L : List Loc) : Prop := v = some (.int (f22 p1 F)) ∧ Fr n0 L ∧ h = h0
set_option maxRecDepth 65536 in
set_option maxHeartbeats 40000000 in
theorem rm22 (l : Launch) (Z : State) (a0 : Array Value) (hw : ∀ d ∈ tables_1, d.before a0 Z = true) (ws : List Jvm.Cond) (o0 : Addr) (p1 : Int32) (F : Nat → Int32) (h0 : Heap) (n0 : Nat) (Z0 : n0 ≤ h0.size) (S__assertionsDisabled : Sta Z h0 "java/lang/StringUTF16" "$assertionsDisabled" "Z" (.int (1 : Int32))) (S_HI_BYTE_SHIFT : Sta Z h0 "java/lang/StringUTF16" "HI_BYTE_SHIFT" "I" (.int (0 : Int32))) (S_LO_BYTE_SHIFT : Sta Z h0 "java/lang/StringUTF16" "LO_BYTE_SHIFT" "I" (.int (8 : Int32))) (V_o0 : own_AI Z h0 o0 .byte (8 : Int32) F) (h : ¬ p1 < 0 ∧ p1 < (4 : Int32)) :
    MetFree l (⟨"java/lang/StringUTF16", "getChar", "([BI)C"⟩ : MethodName) (head1 (Jvm.Cond.code (⟨"java/lang/StringUTF16", "getChar", "([BI)C"⟩ : MethodName) jdk_52_method_5_code 2 (some .char) :: ws) ({ frames := 0, cells := 0, slots := 0, locals := 0 } : Room)) (fun a U => a = #[(.ref o0), (.int p1)] ∧ Z.Warmed39 U.vm ∧ U.heap = h0) (fun _ _ _ _ _ => True) (fun _ U o U' => ∃ v L, o = .returned v ∧ Q22 Z o0 p1 F h0 n0 v U'.heap L ∧ FrameEnd U o U' L ({ frames := 0, cells := 0, slots := 0, locals := 0 } : Room).cells ({ frames := 0, cells := 0, slots := 0, locals := 0 } : Room).slots) := by
  refine MetFree.of_bodySF (plainFor_of_name pn_22) hisR ?_
  intro p e s m args below meth c s₁ Bd hml0 hP hK
  obtain ⟨rfl, hZ, hh⟩ := hP
  have hx := Bd.exec
  have hby := Bd.bytes
  have hml : c.maxLocals = 2 := hml0
  have hown : s.vm.findClass "java/lang/StringUTF16" = some m.cls := findClass_of_methodNamed Bd.named
  have hnm := (name_of_methodNamed Bd.named Bd.method).1
  have X0 : Stand p l e ({ frames := 0, cells := 0, slots := 0, locals := 0 } : Room) s m #[(.ref o0), (.int p1)] below meth c s₁ [] 0 0 := Stand.of_body Bd
  have e0 : s₁.heap = h0 := by rw [← hh, Bd.state]; rfl
  have N0 := Fr.nil n0
  have pre0 : ∀ t, Steps p.tables e below (s₁.setTop (mkF m 0 #[.val (.ref o0), .val (.int p1)] [])) t → Steps p.tables e below (s₁.setTop (entryFrame m #[(.ref o0), (.int p1)] 2)) t := fun t k => castTop (ef_22 m o0 p1) k
  obtain ⟨T1, X1, e1, st1⟩ := getS2 X0 hx hZ hown (host := "") (Or.inl (hw _ (List.mem_of_getElem? (i := 88) rfl))) Via.refl e0 S__assertionsDisabled (g := (mkF m 0 #[.val (.ref o0), .val (.int p1)] [])) rfl (hb hby d22_0)
  have pre2 : ∀ t, Steps p.tables e below (T1.setTop (mkF m 3 #[.val (.ref o0), .val (.int p1)] [(.int (1 : Int32))])) t → Steps p.tables e below (s₁.setTop (entryFrame m #[(.ref o0), (.int p1)] 2)) t := fun t kt => pre0 t (by
      show Steps p.tables e below (s₁.setTop (mkF m 0 #[.val (.ref o0), .val (.int p1)] [])) _
      refine st1 _ ?_
      exact kt)
  obtain ⟨cl3, Ar3, Sz3, Nn3, Hs3⟩ := id V_o0
  have hin3 : ¬ ((p1 <<< ((1 : Int32) &&& 31)) < 0 ∨ cl3.slots.size ≤ ((p1 <<< ((1 : Int32) &&& 31))).toNatClampNeg) := inb_of Sz3 (own_s1 h)
  have hat3 : cl3.slots[((p1 <<< ((1 : Int32) &&& 31))).toNatClampNeg]? = some (.int (F ((p1 <<< ((1 : Int32) &&& 31))).toNatClampNeg)) := (Hs3 _ (own_lt hin3)).1
  obtain ⟨T4, X4, e4, st4⟩ := getS2 X1 hx hZ hown (host := "") (Or.inl (hw _ (List.mem_of_getElem? (i := 89) rfl))) Via.refl e1 S_HI_BYTE_SHIFT (g := (mkF m 42 #[.val (.ref o0), .val (.int ((p1 <<< ((1 : Int32) &&& 31)) + (1 : Int32)))] [(.int ((F ((p1 <<< ((1 : Int32) &&& 31))).toNatClampNeg) &&& (255 : Int32)))])) rfl (hb hby d22_42)
  obtain ⟨cl5, Ar5, Sz5, Nn5, Hs5⟩ := id V_o0
  have hin5 : ¬ (((p1 <<< ((1 : Int32) &&& 31)) + (1 : Int32)) < 0 ∨ cl5.slots.size ≤ (((p1 <<< ((1 : Int32) &&& 31)) + (1 : Int32))).toNatClampNeg) := inb_of Sz5 (own_s2 h)
  have hat5 : cl5.slots[(((p1 <<< ((1 : Int32) &&& 31)) + (1 : Int32))).toNatClampNeg]? = some (.int (F (((p1 <<< ((1 : Int32) &&& 31)) + (1 : Int32))).toNatClampNeg)) := (Hs5 _ (own_lt hin5)).1
  obtain ⟨T6, X6, e6, st6⟩ := getS2 X4 hx hZ hown (host := "") (Or.inl (hw _ (List.mem_of_getElem? (i := 90) rfl))) Via.refl e4 S_LO_BYTE_SHIFT (g := (mkF m 53 #[.val (.ref o0), .val (.int ((p1 <<< ((1 : Int32) &&& 31)) + (1 : Int32)))] [(.int ((F (((p1 <<< ((1 : Int32) &&& 31)) + (1 : Int32))).toNatClampNeg) &&& (255 : Int32))), (.int (((F ((p1 <<< ((1 : Int32) &&& 31))).toNatClampNeg) &&& (255 : Int32)) <<< ((0 : Int32) &&& 31)))])) rfl (hb hby d22_53)
  obtain ⟨fs, hr, hrun, hended, hW, hsame⟩ := X6.leave (v := some (.int (nar .char (((((F ((p1 <<< ((1 : Int32) &&& 31))).toNatClampNeg) &&& (255 : Int32)) <<< ((0 : Int32) &&& 31)) ||| (((F (((p1 <<< ((1 : Int32) &&& 31)) + (1 : Int32))).toNatClampNeg) &&& (255 : Int32)) <<< ((8 : Int32) &&& 31))).toUInt32.toUInt16.toUInt32.toInt32)))) (fun h => by rw [Bd.returns] at h; cases h)
  have hv7 : (f22 p1 F) = (nar .char (((((F ((p1 <<< ((1 : Int32) &&& 31))).toNatClampNeg) &&& (255 : Int32)) <<< ((0 : Int32) &&& 31)) ||| (((F (((p1 <<< ((1 : Int32) &&& 31)) + (1 : Int32))).toNatClampNeg) &&& (255 : Int32)) <<< ((8 : Int32) &&& 31))).toUInt32.toUInt16.toUInt32.toInt32)) := rfl
  refine ⟨_, _, pre2 _ ?_, hrun, hended, _, _, rfl, ?_, ⟨_, rfl⟩, hW, hsame.mono (by decide) (by decide)⟩
  · show Steps p.tables e below (T1.setTop (mkF m 3 #[.val (.ref o0), .val (.int p1)] [(.int (1 : Int32))])) _
    refine XS.ifYes X1.here hx rfl (pc0 := 3) (pc' := 28) rfl (hb hby d22_3) rfl ((if0 _ _).trans (feq (by decide : ¬ ((1 : Int32) = (0 : Int32)))).2) (by decide) (by decide) ?_
    show Steps p.tables e below (T1.setTop (mkF m 28 #[.val (.ref o0), .val (.int p1)] [])) _
    refine XS.iloadN X1.here hx rfl (hb hby d22_28) rfl ?_
    show Steps p.tables e below (T1.setTop (mkF m 29 #[.val (.ref o0), .val (.int p1)] [(.int p1)])) _
    refine XS.iconst X1.here hx rfl (hb hby d22_29) ?_
    show Steps p.tables e below (T1.setTop (mkF m 30 #[.val (.ref o0), .val (.int p1)] [(.int (1 : Int32)), (.int p1)])) _
    refine XS.ishl X1.here hx rfl (hb hby d22_30) rfl ?_
    show Steps p.tables e below (T1.setTop (mkF m 31 #[.val (.ref o0), .val (.int p1)] [(.int (p1 <<< ((1 : Int32) &&& 31)))])) _
    refine XS.istoreN X1.here hx rfl (hb hby d22_31) rfl (l' := #[.val (.ref o0), .val (.int (p1 <<< ((1 : Int32) &&& 31)))]) rfl ?_
    show Steps p.tables e below (T1.setTop (mkF m 32 #[.val (.ref o0), .val (.int (p1 <<< ((1 : Int32) &&& 31)))] [])) _
    refine XS.aloadN X1.here hx rfl (hb hby d22_32) rfl rfl ?_
    show Steps p.tables e below (T1.setTop (mkF m 33 #[.val (.ref o0), .val (.int (p1 <<< ((1 : Int32) &&& 31)))] [(.ref o0)])) _
    refine XS.iloadN X1.here hx rfl (hb hby d22_33) rfl ?_
    show Steps p.tables e below (T1.setTop (mkF m 34 #[.val (.ref o0), .val (.int (p1 <<< ((1 : Int32) &&& 31)))] [(.int (p1 <<< ((1 : Int32) &&& 31))), (.ref o0)])) _
    refine XS.iinc X1.here hx rfl (hb hby d22_34) rfl (l' := #[.val (.ref o0), .val (.int ((p1 <<< ((1 : Int32) &&& 31)) + (1 : Int32)))]) rfl ?_
    show Steps p.tables e below (T1.setTop (mkF m 37 #[.val (.ref o0), .val (.int ((p1 <<< ((1 : Int32) &&& 31)) + (1 : Int32)))] [(.int (p1 <<< ((1 : Int32) &&& 31))), (.ref o0)])) _
    refine X1.baloadBytes hx (j := (p1 <<< ((1 : Int32) &&& 31))) (v := (.int (F ((p1 <<< ((1 : Int32) &&& 31))).toNatClampNeg))) (by rw [e1]; exact Ar3.1) (State.isArrayOf_alike hZ.alike Ar3.2.1) Ar3.2.2 hin3 hat3 (g := (mkF m 37 #[.val (.ref o0), .val (.int ((p1 <<< ((1 : Int32) &&& 31)) + (1 : Int32)))] [(.int (p1 <<< ((1 : Int32) &&& 31))), (.ref o0)])) rfl rfl (hb hby d22_37) _ ?_
    show Steps p.tables e below (T1.setTop (mkF m 38 #[.val (.ref o0), .val (.int ((p1 <<< ((1 : Int32) &&& 31)) + (1 : Int32)))] [(.int (F ((p1 <<< ((1 : Int32) &&& 31))).toNatClampNeg))])) _
    refine XS.sipush X1.here hx rfl (hb hby d22_38) ?_
    show Steps p.tables e below (T1.setTop (mkF m 41 #[.val (.ref o0), .val (.int ((p1 <<< ((1 : Int32) &&& 31)) + (1 : Int32)))] [(.int (255 : Int32)), (.int (F ((p1 <<< ((1 : Int32) &&& 31))).toNatClampNeg))])) _
    refine XS.iand X1.here hx rfl (hb hby d22_41) rfl ?_
    show Steps p.tables e below (T1.setTop (mkF m 42 #[.val (.ref o0), .val (.int ((p1 <<< ((1 : Int32) &&& 31)) + (1 : Int32)))] [(.int ((F ((p1 <<< ((1 : Int32) &&& 31))).toNatClampNeg) &&& (255 : Int32)))])) _
    refine st4 _ ?_
    show Steps p.tables e below (T4.setTop (mkF m 45 #[.val (.ref o0), .val (.int ((p1 <<< ((1 : Int32) &&& 31)) + (1 : Int32)))] [(.int (0 : Int32)), (.int ((F ((p1 <<< ((1 : Int32) &&& 31))).toNatClampNeg) &&& (255 : Int32)))])) _
    refine XS.ishl X4.here hx rfl (hb hby d22_45) rfl ?_
    show Steps p.tables e below (T4.setTop (mkF m 46 #[.val (.ref o0), .val (.int ((p1 <<< ((1 : Int32) &&& 31)) + (1 : Int32)))] [(.int (((F ((p1 <<< ((1 : Int32) &&& 31))).toNatClampNeg) &&& (255 : Int32)) <<< ((0 : Int32) &&& 31)))])) _
    refine XS.aloadN X4.here hx rfl (hb hby d22_46) rfl rfl ?_
    show Steps p.tables e below (T4.setTop (mkF m 47 #[.val (.ref o0), .val (.int ((p1 <<< ((1 : Int32) &&& 31)) + (1 : Int32)))] [(.ref o0), (.int (((F ((p1 <<< ((1 : Int32) &&& 31))).toNatClampNeg) &&& (255 : Int32)) <<< ((0 : Int32) &&& 31)))])) _
    refine XS.iloadN X4.here hx rfl (hb hby d22_47) rfl ?_
    show Steps p.tables e below (T4.setTop (mkF m 48 #[.val (.ref o0), .val (.int ((p1 <<< ((1 : Int32) &&& 31)) + (1 : Int32)))] [(.int ((p1 <<< ((1 : Int32) &&& 31)) + (1 : Int32))), (.ref o0), (.int (((F ((p1 <<< ((1 : Int32) &&& 31))).toNatClampNeg) &&& (255 : Int32)) <<< ((0 : Int32) &&& 31)))])) _
    refine X4.baloadBytes hx (j := ((p1 <<< ((1 : Int32) &&& 31)) + (1 : Int32))) (v := (.int (F (((p1 <<< ((1 : Int32) &&& 31)) + (1 : Int32))).toNatClampNeg))) (by rw [e4]; exact Ar5.1) (State.isArrayOf_alike hZ.alike Ar5.2.1) Ar5.2.2 hin5 hat5 (g := (mkF m 48 #[.val (.ref o0), .val (.int ((p1 <<< ((1 : Int32) &&& 31)) + (1 : Int32)))] [(.int ((p1 <<< ((1 : Int32) &&& 31)) + (1 : Int32))), (.ref o0), (.int (((F ((p1 <<< ((1 : Int32) &&& 31))).toNatClampNeg) &&& (255 : Int32)) <<< ((0 : Int32) &&& 31)))])) rfl rfl (hb hby d22_48) _ ?_
    show Steps p.tables e below (T4.setTop (mkF m 49 #[.val (.ref o0), .val (.int ((p1 <<< ((1 : Int32) &&& 31)) + (1 : Int32)))] [(.int (F (((p1 <<< ((1 : Int32) &&& 31)) + (1 : Int32))).toNatClampNeg)), (.int (((F ((p1 <<< ((1 : Int32) &&& 31))).toNatClampNeg) &&& (255 : Int32)) <<< ((0 : Int32) &&& 31)))])) _
    refine XS.sipush X4.here hx rfl (hb hby d22_49) ?_
    show Steps p.tables e below (T4.setTop (mkF m 52 #[.val (.ref o0), .val (.int ((p1 <<< ((1 : Int32) &&& 31)) + (1 : Int32)))] [(.int (255 : Int32)), (.int (F (((p1 <<< ((1 : Int32) &&& 31)) + (1 : Int32))).toNatClampNeg)), (.int (((F ((p1 <<< ((1 : Int32) &&& 31))).toNatClampNeg) &&& (255 : Int32)) <<< ((0 : Int32) &&& 31)))])) _
    refine XS.iand X4.here hx rfl (hb hby d22_52) rfl ?_
    show Steps p.tables e below (T4.setTop (mkF m 53 #[.val (.ref o0), .val (.int ((p1 <<< ((1 : Int32) &&& 31)) + (1 : Int32)))] [(.int ((F (((p1 <<< ((1 : Int32) &&& 31)) + (1 : Int32))).toNatClampNeg) &&& (255 : Int32))), (.int (((F ((p1 <<< ((1 : Int32) &&& 31))).toNatClampNeg) &&& (255 : Int32)) <<< ((0 : Int32) &&& 31)))])) _
    refine st6 _ ?_
    show Steps p.tables e below (T6.setTop (mkF m 56 #[.val (.ref o0), .val (.int ((p1 <<< ((1 : Int32) &&& 31)) + (1 : Int32)))] [(.int (8 : Int32)), (.int ((F (((p1 <<< ((1 : Int32) &&& 31)) + (1 : Int32))).toNatClampNeg) &&& (255 : Int32))), (.int (((F ((p1 <<< ((1 : Int32) &&& 31))).toNatClampNeg) &&& (255 : Int32)) <<< ((0 : Int32) &&& 31)))])) _
    refine XS.ishl X6.here hx rfl (hb hby d22_56) rfl ?_
    show Steps p.tables e below (T6.setTop (mkF m 57 #[.val (.ref o0), .val (.int ((p1 <<< ((1 : Int32) &&& 31)) + (1 : Int32)))] [(.int (((F (((p1 <<< ((1 : Int32) &&& 31)) + (1 : Int32))).toNatClampNeg) &&& (255 : Int32)) <<< ((8 : Int32) &&& 31))), (.int (((F ((p1 <<< ((1 : Int32) &&& 31))).toNatClampNeg) &&& (255 : Int32)) <<< ((0 : Int32) &&& 31)))])) _
    refine XS.ior X6.here hx rfl (hb hby d22_57) rfl ?_
    show Steps p.tables e below (T6.setTop (mkF m 58 #[.val (.ref o0), .val (.int ((p1 <<< ((1 : Int32) &&& 31)) + (1 : Int32)))] [(.int ((((F ((p1 <<< ((1 : Int32) &&& 31))).toNatClampNeg) &&& (255 : Int32)) <<< ((0 : Int32) &&& 31)) ||| (((F (((p1 <<< ((1 : Int32) &&& 31)) + (1 : Int32))).toNatClampNeg) &&& (255 : Int32)) <<< ((8 : Int32) &&& 31))))])) _
    refine XS.i2c X6.here hx rfl (hb hby d22_58) rfl ?_
    show Steps p.tables e below (T6.setTop (mkF m 59 #[.val (.ref o0), .val (.int ((p1 <<< ((1 : Int32) &&& 31)) + (1 : Int32)))] [(.int (((((F ((p1 <<< ((1 : Int32) &&& 31))).toNatClampNeg) &&& (255 : Int32)) <<< ((0 : Int32) &&& 31)) ||| (((F (((p1 <<< ((1 : Int32) &&& 31)) + (1 : Int32))).toNatClampNeg) &&& (255 : Int32)) <<< ((8 : Int32) &&& 31))).toUInt32.toUInt16.toUInt32.toInt32))])) _
    exact retN X6 hx (t := .char) Bd.returns (by simp) (hb hby d22_59) hr
  · show Q22 Z o0 p1 F h0 n0 _ T6.heap _
    rw [e6]
    exact ⟨congrArg (fun q => some (Value.int q)) hv7.symm, N0, rfl⟩
theorem d21_0 : decode jdk_52_method_4_code 0 = .ok (.getstatic 44, 3) := by decide +kernel
theorem d21_3 : decode jdk_52_method_4_code 3 = .ok (.ifCond .ne 25, 3) := by decide +kernel
theorem d21_28 : decode jdk_52_method_4_code 28 = .ok (.iload_n 1, 1) := by decide +kernel
theorem d21_29 : decode jdk_52_method_4_code 29 = .ok (.iconst 1, 1) := by decide +kernel
theorem d21_30 : decode jdk_52_method_4_code 30 = .ok (.ishl, 1) := by decide +kernel
theorem d21_31 : decode jdk_52_method_4_code 31 = .ok (.istore_n 1, 1) := by decide +kernel
theorem d21_32 : decode jdk_52_method_4_code 32 = .ok (.aload_n 0, 1) := by decide +kernel
theorem d21_33 : decode jdk_52_method_4_code 33 = .ok (.iload_n 1, 1) := by decide +kernel
theorem d21_34 : decode jdk_52_method_4_code 34 = .ok (.iinc 1 1, 3) := by decide +kernel
theorem d21_37 : decode jdk_52_method_4_code 37 = .ok (.iload_n 2, 1) := by decide +kernel
theorem d21_38 : decode jdk_52_method_4_code 38 = .ok (.getstatic 59, 3) := by decide +kernel
theorem d21_41 : decode jdk_52_method_4_code 41 = .ok (.ishr, 1) := by decide +kernel
theorem d21_42 : decode jdk_52_method_4_code 42 = .ok (.i2b, 1) := by decide +kernel
theorem d21_43 : decode jdk_52_method_4_code 43 = .ok (.bastore, 1) := by decide +kernel
theorem d21_44 : decode jdk_52_method_4_code 44 = .ok (.aload_n 0, 1) := by decide +kernel
theorem d21_45 : decode jdk_52_method_4_code 45 = .ok (.iload_n 1, 1) := by decide +kernel
theorem d21_46 : decode jdk_52_method_4_code 46 = .ok (.iload_n 2, 1) := by decide +kernel
theorem d21_47 : decode jdk_52_method_4_code 47 = .ok (.getstatic 63, 3) := by decide +kernel
theorem d21_50 : decode jdk_52_method_4_code 50 = .ok (.ishr, 1) := by decide +kernel
theorem d21_51 : decode jdk_52_method_4_code 51 = .ok (.i2b, 1) := by decide +kernel
theorem d21_52 : decode jdk_52_method_4_code 52 = .ok (.bastore, 1) := by decide +kernel
theorem d21_53 : decode jdk_52_method_4_code 53 = .ok (.return_, 1) := by decide +kernel
theorem pn_21 : plainName "java/lang/StringUTF16" = true := by first | (simp [plainName, overriddenIn]; done) | decide +kernel
theorem ef_21 (m : MethodId) (x0 : Addr) (x1 : Int32) (x2 : Int32) : entryFrame m #[(.ref x0), (.int x1), (.int x2)] 3 = mkF m 0 #[.val (.ref x0), .val (.int x1), .val (.int x2)] [] := by first | (simp [entryFrame, mkF, argsToLocals, Value.category]; done) | rfl
def f21_o0_a (p1 : Int32) (p2 : Int32) (F : Nat → Int32) : Nat → Int32 :=
  (own_upd (own_upd F ((p1 <<< ((1 : Int32) &&& 31))).toNatClampNeg (nar .byte ((p2 >>> ((0 : Int32) &&& 31)).toInt8.toInt32))) (((p1 <<< ((1 : Int32) &&& 31)) + (1 : Int32))).toNatClampNeg (nar .byte ((p2 >>> ((8 : Int32) &&& 31)).toInt8.toInt32)))
def Q21 (Z : State) (o0 : Addr) (p1 : Int32) (p2 : Int32) (F : Nat → Int32) (h0 : Heap) (n0 : Nat) (v : Option Value) (h : Heap) (L : List Loc) : Prop := v = none ∧ Fr n0 L ∧ Keep h0 h [o0] ∧ own_AI Z h o0 .byte (8 : Int32) (f21_o0_a p1 p2 F)
set_option maxRecDepth 65536 in
set_option maxHeartbeats 40000000 in
theorem rm21 (l : Launch) (Z : State) (a0 : Array Value) (hw : ∀ d ∈ tables_1, d.before a0 Z = true) (ws : List Jvm.Cond) (o0 : Addr) (p1 : Int32) (p2 : Int32) (F : Nat → Int32) (h0 : Heap) (n0 : Nat) (Z0 : n0 ≤ h0.size) (S__assertionsDisabled : Sta Z h0 "java/lang/StringUTF16" "$assertionsDisabled" "Z" (.int (1 : Int32))) (S_HI_BYTE_SHIFT : Sta Z h0 "java/lang/StringUTF16" "HI_BYTE_SHIFT" "I" (.int (0 : Int32))) (S_LO_BYTE_SHIFT : Sta Z h0 "java/lang/StringUTF16" "LO_BYTE_SHIFT" "I" (.int (8 : Int32))) (V_o0 : own_AI Z h0 o0 .byte (8 : Int32) F) (g_o0 : n0 ≤ o0) (h : ¬ p1 < 0 ∧ p1 < (4 : Int32)) :
    MetFree l (⟨"java/lang/StringUTF16", "putChar", "([BII)V"⟩ : MethodName) (head1 (Jvm.Cond.code (⟨"java/lang/StringUTF16", "putChar", "([BII)V"⟩ : MethodName) jdk_52_method_4_code 3 none :: ws) ({ frames := 0, cells := 0, slots := 0, locals := 0 } : Room)) (fun a U => a = #[(.ref o0), (.int p1), (.int p2)] ∧ Z.Warmed39 U.vm ∧ U.heap = h0) (fun _ _ _ _ _ => True) (fun _ U o U' => ∃ v L, o = .returned v ∧ Q21 Z o0 p1 p2 F h0 n0 v U'.heap L ∧ FrameEnd U o U' L ({ frames := 0, cells := 0, slots := 0, locals := 0 } : Room).cells ({ frames := 0, cells := 0, slots := 0, locals := 0 } : Room).slots) := by
  refine MetFree.of_bodySF (plainFor_of_name pn_21) hisR ?_
  intro p e s m args below meth c s₁ Bd hml0 hP hK
  obtain ⟨rfl, hZ, hh⟩ := hP
  have hx := Bd.exec
  have hby := Bd.bytes
  have hml : c.maxLocals = 3 := hml0
  have hown : s.vm.findClass "java/lang/StringUTF16" = some m.cls := findClass_of_methodNamed Bd.named
  have hnm := (name_of_methodNamed Bd.named Bd.method).1
  have X0 : Stand p l e ({ frames := 0, cells := 0, slots := 0, locals := 0 } : Room) s m #[(.ref o0), (.int p1), (.int p2)] below meth c s₁ [] 0 0 := Stand.of_body Bd
  have e0 : s₁.heap = h0 := by rw [← hh, Bd.state]; rfl
  have N0 := Fr.nil n0
  have pre0 : ∀ t, Steps p.tables e below (s₁.setTop (mkF m 0 #[.val (.ref o0), .val (.int p1), .val (.int p2)] [])) t → Steps p.tables e below (s₁.setTop (entryFrame m #[(.ref o0), (.int p1), (.int p2)] 3)) t := fun t k => castTop (ef_21 m o0 p1 p2) k
  obtain ⟨T1, X1, e1, st1⟩ := getS2 X0 hx hZ hown (host := "") (Or.inl (hw _ (List.mem_of_getElem? (i := 88) rfl))) Via.refl e0 S__assertionsDisabled (g := (mkF m 0 #[.val (.ref o0), .val (.int p1), .val (.int p2)] [])) rfl (hb hby d21_0)
  have pre2 : ∀ t, Steps p.tables e below (T1.setTop (mkF m 3 #[.val (.ref o0), .val (.int p1), .val (.int p2)] [(.int (1 : Int32))])) t → Steps p.tables e below (s₁.setTop (entryFrame m #[(.ref o0), (.int p1), (.int p2)] 3)) t := fun t kt => pre0 t (by
      show Steps p.tables e below (s₁.setTop (mkF m 0 #[.val (.ref o0), .val (.int p1), .val (.int p2)] [])) _
      refine st1 _ ?_
      exact kt)
  obtain ⟨T3, X3, e3, st3⟩ := getS2 X1 hx hZ hown (host := "") (Or.inl (hw _ (List.mem_of_getElem? (i := 89) rfl))) Via.refl e1 S_HI_BYTE_SHIFT (g := (mkF m 38 #[.val (.ref o0), .val (.int ((p1 <<< ((1 : Int32) &&& 31)) + (1 : Int32))), .val (.int p2)] [(.int p2), (.int (p1 <<< ((1 : Int32) &&& 31))), (.ref o0)])) rfl (hb hby d21_38)
  obtain ⟨cl4, Ar4, Sz4, Nn4, Hs4⟩ := id V_o0
  have hin4 : ¬ ((p1 <<< ((1 : Int32) &&& 31)) < 0 ∨ cl4.slots.size ≤ ((p1 <<< ((1 : Int32) &&& 31))).toNatClampNeg) := inb_of Sz4 (own_s1 h)
  obtain ⟨T5, h5, X5, e5, W5, st5⟩ := stB X3 hx hZ e3 Ar4 (j := (p1 <<< ((1 : Int32) &&& 31))) hin4 (g := (mkF m 43 #[.val (.ref o0), .val (.int ((p1 <<< ((1 : Int32) &&& 31)) + (1 : Int32))), .val (.int p2)] [(.int ((p2 >>> ((0 : Int32) &&& 31)).toInt8.toInt32)), (.int (p1 <<< ((1 : Int32) &&& 31))), (.ref o0)])) rfl rfl (hb hby d21_43)
  have V5 : own_AI Z h5 o0 .byte (8 : Int32) (own_upd F ((p1 <<< ((1 : Int32) &&& 31))).toNatClampNeg (nar .byte ((p2 >>> ((0 : Int32) &&& 31)).toInt8.toInt32))) := own_AI.set V_o0 (fits_nar_byte ((p2 >>> ((0 : Int32) &&& 31)).toInt8.toInt32)) W5
  have K6 : Keep h0 h5 [o0] := (Keep.refl h0 [o0]).wr W5 (Or.inl (List.mem_of_getElem? (i := 0) rfl))
  have Z7 : n0 ≤ h5.size := Nat.le_trans Z0 K6.1
  have N5 := Fr.snoc X5 N0 g_o0
  obtain ⟨LS5, X5, N5⟩ : ∃ L, Stand p l e ({ frames := 0, cells := 0, slots := 0, locals := 0 } : Room) s m #[(.ref o0), (.int p1), (.int p2)] below meth c T5 L 0 0 ∧ Fr n0 L := ⟨_, X5, N5⟩
  obtain ⟨T8, X8, e8, st8⟩ := getS2 X5 hx hZ hown (host := "") (Or.inl (hw _ (List.mem_of_getElem? (i := 90) rfl))) Via.refl e5 (S_LO_BYTE_SHIFT.wr W5) (g := (mkF m 47 #[.val (.ref o0), .val (.int ((p1 <<< ((1 : Int32) &&& 31)) + (1 : Int32))), .val (.int p2)] [(.int p2), (.int ((p1 <<< ((1 : Int32) &&& 31)) + (1 : Int32))), (.ref o0)])) rfl (hb hby d21_47)
  obtain ⟨cl9, Ar9, Sz9, Nn9, Hs9⟩ := id V5
  have hin9 : ¬ (((p1 <<< ((1 : Int32) &&& 31)) + (1 : Int32)) < 0 ∨ cl9.slots.size ≤ (((p1 <<< ((1 : Int32) &&& 31)) + (1 : Int32))).toNatClampNeg) := inb_of Sz9 (own_s2 h)
  obtain ⟨T10, h10, X10, e10, W10, st10⟩ := stB X8 hx hZ e8 Ar9 (j := ((p1 <<< ((1 : Int32) &&& 31)) + (1 : Int32))) hin9 (g := (mkF m 52 #[.val (.ref o0), .val (.int ((p1 <<< ((1 : Int32) &&& 31)) + (1 : Int32))), .val (.int p2)] [(.int ((p2 >>> ((8 : Int32) &&& 31)).toInt8.toInt32)), (.int ((p1 <<< ((1 : Int32) &&& 31)) + (1 : Int32))), (.ref o0)])) rfl rfl (hb hby d21_52)
  have V10 : own_AI Z h10 o0 .byte (8 : Int32) (own_upd (own_upd F ((p1 <<< ((1 : Int32) &&& 31))).toNatClampNeg (nar .byte ((p2 >>> ((0 : Int32) &&& 31)).toInt8.toInt32))) (((p1 <<< ((1 : Int32) &&& 31)) + (1 : Int32))).toNatClampNeg (nar .byte ((p2 >>> ((8 : Int32) &&& 31)).toInt8.toInt32))) := own_AI.set V5 (fits_nar_byte ((p2 >>> ((8 : Int32) &&& 31)).toInt8.toInt32)) W10
  have K11 : Keep h0 h10 [o0] := K6.wr W10 (Or.inl (List.mem_of_getElem? (i := 0) rfl))
  have Z12 : n0 ≤ h10.size := Nat.le_trans Z0 K11.1
  have N10 := Fr.snoc X10 N5 g_o0
  obtain ⟨LS10, X10, N10⟩ : ∃ L, Stand p l e ({ frames := 0, cells := 0, slots := 0, locals := 0 } : Room) s m #[(.ref o0), (.int p1), (.int p2)] below meth c T10 L 0 0 ∧ Fr n0 L := ⟨_, X10, N10⟩
  obtain ⟨fs, hr, hrun, hended, hW, hsame⟩ := X10.leave (v := none) (fun _ => rfl)
  refine ⟨_, _, pre2 _ ?_, hrun, hended, _, _, rfl, ?_, ⟨_, rfl⟩, hW, hsame.mono (by decide) (by decide)⟩
  · show Steps p.tables e below (T1.setTop (mkF m 3 #[.val (.ref o0), .val (.int p1), .val (.int p2)] [(.int (1 : Int32))])) _
    refine XS.ifYes X1.here hx rfl (pc0 := 3) (pc' := 28) rfl (hb hby d21_3) rfl ((if0 _ _).trans (feq (by decide : ¬ ((1 : Int32) = (0 : Int32)))).2) (by decide) (by decide) ?_
    show Steps p.tables e below (T1.setTop (mkF m 28 #[.val (.ref o0), .val (.int p1), .val (.int p2)] [])) _
    refine XS.iloadN X1.here hx rfl (hb hby d21_28) rfl ?_
    show Steps p.tables e below (T1.setTop (mkF m 29 #[.val (.ref o0), .val (.int p1), .val (.int p2)] [(.int p1)])) _
    refine XS.iconst X1.here hx rfl (hb hby d21_29) ?_
    show Steps p.tables e below (T1.setTop (mkF m 30 #[.val (.ref o0), .val (.int p1), .val (.int p2)] [(.int (1 : Int32)), (.int p1)])) _
    refine XS.ishl X1.here hx rfl (hb hby d21_30) rfl ?_
    show Steps p.tables e below (T1.setTop (mkF m 31 #[.val (.ref o0), .val (.int p1), .val (.int p2)] [(.int (p1 <<< ((1 : Int32) &&& 31)))])) _
    refine XS.istoreN X1.here hx rfl (hb hby d21_31) rfl (l' := #[.val (.ref o0), .val (.int (p1 <<< ((1 : Int32) &&& 31))), .val (.int p2)]) rfl ?_
    show Steps p.tables e below (T1.setTop (mkF m 32 #[.val (.ref o0), .val (.int (p1 <<< ((1 : Int32) &&& 31))), .val (.int p2)] [])) _
    refine XS.aloadN X1.here hx rfl (hb hby d21_32) rfl rfl ?_
    show Steps p.tables e below (T1.setTop (mkF m 33 #[.val (.ref o0), .val (.int (p1 <<< ((1 : Int32) &&& 31))), .val (.int p2)] [(.ref o0)])) _
    refine XS.iloadN X1.here hx rfl (hb hby d21_33) rfl ?_
    show Steps p.tables e below (T1.setTop (mkF m 34 #[.val (.ref o0), .val (.int (p1 <<< ((1 : Int32) &&& 31))), .val (.int p2)] [(.int (p1 <<< ((1 : Int32) &&& 31))), (.ref o0)])) _
    refine XS.iinc X1.here hx rfl (hb hby d21_34) rfl (l' := #[.val (.ref o0), .val (.int ((p1 <<< ((1 : Int32) &&& 31)) + (1 : Int32))), .val (.int p2)]) rfl ?_
    show Steps p.tables e below (T1.setTop (mkF m 37 #[.val (.ref o0), .val (.int ((p1 <<< ((1 : Int32) &&& 31)) + (1 : Int32))), .val (.int p2)] [(.int (p1 <<< ((1 : Int32) &&& 31))), (.ref o0)])) _
    refine XS.iloadN X1.here hx rfl (hb hby d21_37) rfl ?_
    show Steps p.tables e below (T1.setTop (mkF m 38 #[.val (.ref o0), .val (.int ((p1 <<< ((1 : Int32) &&& 31)) + (1 : Int32))), .val (.int p2)] [(.int p2), (.int (p1 <<< ((1 : Int32) &&& 31))), (.ref o0)])) _
    refine st3 _ ?_
    show Steps p.tables e below (T3.setTop (mkF m 41 #[.val (.ref o0), .val (.int ((p1 <<< ((1 : Int32) &&& 31)) + (1 : Int32))), .val (.int p2)] [(.int (0 : Int32)), (.int p2), (.int (p1 <<< ((1 : Int32) &&& 31))), (.ref o0)])) _
    refine XS.ishr X3.here hx rfl (hb hby d21_41) rfl ?_
    show Steps p.tables e below (T3.setTop (mkF m 42 #[.val (.ref o0), .val (.int ((p1 <<< ((1 : Int32) &&& 31)) + (1 : Int32))), .val (.int p2)] [(.int (p2 >>> ((0 : Int32) &&& 31))), (.int (p1 <<< ((1 : Int32) &&& 31))), (.ref o0)])) _
    refine XS.i2b X3.here hx rfl (hb hby d21_42) rfl ?_
    show Steps p.tables e below (T3.setTop (mkF m 43 #[.val (.ref o0), .val (.int ((p1 <<< ((1 : Int32) &&& 31)) + (1 : Int32))), .val (.int p2)] [(.int ((p2 >>> ((0 : Int32) &&& 31)).toInt8.toInt32)), (.int (p1 <<< ((1 : Int32) &&& 31))), (.ref o0)])) _
    refine st5 _ ?_
    show Steps p.tables e below (T5.setTop (mkF m 44 #[.val (.ref o0), .val (.int ((p1 <<< ((1 : Int32) &&& 31)) + (1 : Int32))), .val (.int p2)] [])) _
    refine XS.aloadN X5.here hx rfl (hb hby d21_44) rfl rfl ?_
    show Steps p.tables e below (T5.setTop (mkF m 45 #[.val (.ref o0), .val (.int ((p1 <<< ((1 : Int32) &&& 31)) + (1 : Int32))), .val (.int p2)] [(.ref o0)])) _
    refine XS.iloadN X5.here hx rfl (hb hby d21_45) rfl ?_
    show Steps p.tables e below (T5.setTop (mkF m 46 #[.val (.ref o0), .val (.int ((p1 <<< ((1 : Int32) &&& 31)) + (1 : Int32))), .val (.int p2)] [(.int ((p1 <<< ((1 : Int32) &&& 31)) + (1 : Int32))), (.ref o0)])) _
    refine XS.iloadN X5.here hx rfl (hb hby d21_46) rfl ?_
    show Steps p.tables e below (T5.setTop (mkF m 47 #[.val (.ref o0), .val (.int ((p1 <<< ((1 : Int32) &&& 31)) + (1 : Int32))), .val (.int p2)] [(.int p2), (.int ((p1 <<< ((1 : Int32) &&& 31)) + (1 : Int32))), (.ref o0)])) _
    refine st8 _ ?_
    show Steps p.tables e below (T8.setTop (mkF m 50 #[.val (.ref o0), .val (.int ((p1 <<< ((1 : Int32) &&& 31)) + (1 : Int32))), .val (.int p2)] [(.int (8 : Int32)), (.int p2), (.int ((p1 <<< ((1 : Int32) &&& 31)) + (1 : Int32))), (.ref o0)])) _
    refine XS.ishr X8.here hx rfl (hb hby d21_50) rfl ?_
    show Steps p.tables e below (T8.setTop (mkF m 51 #[.val (.ref o0), .val (.int ((p1 <<< ((1 : Int32) &&& 31)) + (1 : Int32))), .val (.int p2)] [(.int (p2 >>> ((8 : Int32) &&& 31))), (.int ((p1 <<< ((1 : Int32) &&& 31)) + (1 : Int32))), (.ref o0)])) _
    refine XS.i2b X8.here hx rfl (hb hby d21_51) rfl ?_
    show Steps p.tables e below (T8.setTop (mkF m 52 #[.val (.ref o0), .val (.int ((p1 <<< ((1 : Int32) &&& 31)) + (1 : Int32))), .val (.int p2)] [(.int ((p2 >>> ((8 : Int32) &&& 31)).toInt8.toInt32)), (.int ((p1 <<< ((1 : Int32) &&& 31)) + (1 : Int32))), (.ref o0)])) _
    refine st10 _ ?_
    show Steps p.tables e below (T10.setTop (mkF m 53 #[.val (.ref o0), .val (.int ((p1 <<< ((1 : Int32) &&& 31)) + (1 : Int32))), .val (.int p2)] [])) _
    exact X10.returnOut hx Bd.returns (hb hby d21_53) hr
  · show Q21 Z o0 p1 p2 F h0 n0 _ T10.heap _
    rw [e10]
    exact ⟨rfl, N10, K11, (by rw [f21_o0_a]; exact V10)⟩
theorem d20_0 : decode jdk_52_method_3_code 0 = .ok (.iload_n 0, 1) := by decide +kernel
theorem d20_1 : decode jdk_52_method_3_code 1 = .ok (.ifCond .ge 11, 3) := by decide +kernel
theorem d20_12 : decode jdk_52_method_3_code 12 = .ok (.iload_n 0, 1) := by decide +kernel
theorem d20_13 : decode jdk_52_method_3_code 13 = .ok (.ldc 20, 2) := by decide +kernel
theorem d20_15 : decode jdk_52_method_3_code 15 = .ok (.if_icmp .lt 40, 3) := by decide +kernel
theorem d20_55 : decode jdk_52_method_3_code 55 = .ok (.iload_n 0, 1) := by decide +kernel
theorem d20_56 : decode jdk_52_method_3_code 56 = .ok (.iconst 1, 1) := by decide +kernel
theorem d20_57 : decode jdk_52_method_3_code 57 = .ok (.ishl, 1) := by decide +kernel
theorem d20_58 : decode jdk_52_method_3_code 58 = .ok (.ireturn, 1) := by decide +kernel
theorem pn_20 : plainName "java/lang/StringUTF16" = true := by first | (simp [plainName, overriddenIn]; done) | decide +kernel
theorem ef_20 (m : MethodId) (x0 : Int32) : entryFrame m #[(.int x0)] 1 = mkF m 0 #[.val (.int x0)] [] := by first | (simp [entryFrame, mkF, argsToLocals, Value.category]; done) | rfl
def Q20 (Z : State)  (h0 : Heap) (n0 : Nat) (v : Option Value) (h : Heap) (L : List Loc) : Prop := v = some (.int (8 : Int32)) ∧ Fr n0 L ∧ h = h0
set_option maxRecDepth 65536 in
set_option maxHeartbeats 40000000 in
theorem rm20 (l : Launch) (Z : State) (a0 : Array Value) (hw : ∀ d ∈ tables_1, d.before a0 Z = true) (ws : List Jvm.Cond)  (h0 : Heap) (n0 : Nat) (Z0 : n0 ≤ h0.size) :
    MetFree l (⟨"java/lang/StringUTF16", "newBytesLength", "(I)I"⟩ : MethodName) (head1 (Jvm.Cond.code (⟨"java/lang/StringUTF16", "newBytesLength", "(I)I"⟩ : MethodName) jdk_52_method_3_code 1 (some .int) :: ws) ({ frames := 0, cells := 0, slots := 0, locals := 0 } : Room)) (fun a U => a = #[(.int (4 : Int32))] ∧ Z.Warmed39 U.vm ∧ U.heap = h0) (fun _ _ _ _ _ => True) (fun _ U o U' => ∃ v L, o = .returned v ∧ Q20 Z  h0 n0 v U'.heap L ∧ FrameEnd U o U' L ({ frames := 0, cells := 0, slots := 0, locals := 0 } : Room).cells ({ frames := 0, cells := 0, slots := 0, locals := 0 } : Room).slots) := by
  refine MetFree.of_bodySF (plainFor_of_name pn_20) hisR ?_
  intro p e s m args below meth c s₁ Bd hml0 hP hK
  obtain ⟨rfl, hZ, hh⟩ := hP
  have hx := Bd.exec
  have hby := Bd.bytes
  have hml : c.maxLocals = 1 := hml0
  have hown : s.vm.findClass "java/lang/StringUTF16" = some m.cls := findClass_of_methodNamed Bd.named
  have hnm := (name_of_methodNamed Bd.named Bd.method).1
  have X0 : Stand p l e ({ frames := 0, cells := 0, slots := 0, locals := 0 } : Room) s m #[(.int (4 : Int32))] below meth c s₁ [] 0 0 := Stand.of_body Bd
  have e0 : s₁.heap = h0 := by rw [← hh, Bd.state]; rfl
  have N0 := Fr.nil n0
  have pre0 : ∀ t, Steps p.tables e below (s₁.setTop (mkF m 0 #[.val (.int (4 : Int32))] [])) t → Steps p.tables e below (s₁.setTop (entryFrame m #[(.int (4 : Int32))] 1)) t := fun t k => castTop (ef_20 m (4 : Int32)) k
  have pre1 : ∀ t, Steps p.tables e below (s₁.setTop (mkF m 1 #[.val (.int (4 : Int32))] [(.int (4 : Int32))])) t → Steps p.tables e below (s₁.setTop (entryFrame m #[(.int (4 : Int32))] 1)) t := fun t kt => pre0 t (by
      show Steps p.tables e below (s₁.setTop (mkF m 0 #[.val (.int (4 : Int32))] [])) _
      refine XS.iloadN X0.here hx rfl (hb hby d20_0) rfl ?_
      exact kt)
  have pre2 : ∀ t, Steps p.tables e below (s₁.setTop (mkF m 15 #[.val (.int (4 : Int32))] [(.int (1073741823 : Int32)), (.int (4 : Int32))])) t → Steps p.tables e below (s₁.setTop (entryFrame m #[(.int (4 : Int32))] 1)) t := fun t kt => pre1 t (by
      show Steps p.tables e below (s₁.setTop (mkF m 1 #[.val (.int (4 : Int32))] [(.int (4 : Int32))])) _
      refine XS.ifYes X0.here hx rfl (pc0 := 1) (pc' := 12) rfl (hb hby d20_1) rfl ((if0 _ _).trans (flt (by decide : ¬ ((4 : Int32) < (0 : Int32)))).2.1) (by decide) (by decide) ?_
      show Steps p.tables e below (s₁.setTop (mkF m 12 #[.val (.int (4 : Int32))] [])) _
      refine XS.iloadN X0.here hx rfl (hb hby d20_12) rfl ?_
      show Steps p.tables e below (s₁.setTop (mkF m 13 #[.val (.int (4 : Int32))] [(.int (4 : Int32))])) _
      refine X0.ldcInt hx hown (mvT hZ (hw _ (List.mem_of_getElem? (i := 84) rfl))) (g := (mkF m 13 #[.val (.int (4 : Int32))] [(.int (4 : Int32))])) rfl (hb hby d20_13) _ ?_
      exact kt)
  obtain ⟨fs, hr, hrun, hended, hW, hsame⟩ := X0.leave (v := some (.int (8 : Int32))) (fun h => by rw [Bd.returns] at h; cases h)
  have hv3 : (8 : Int32) = (8 : Int32) := rfl
  refine ⟨_, _, pre2 _ ?_, hrun, hended, _, _, rfl, ?_, ⟨_, rfl⟩, hW, hsame.mono (by decide) (by decide)⟩
  · show Steps p.tables e below (s₁.setTop (mkF m 15 #[.val (.int (4 : Int32))] [(.int (1073741823 : Int32)), (.int (4 : Int32))])) _
    refine XS.icmpYes X0.here hx rfl (pc0 := 15) (pc' := 55) rfl (hb hby d20_15) rfl (tlt (by decide : ((4 : Int32) < (1073741823 : Int32)))).1 (by decide) (by decide) ?_
    show Steps p.tables e below (s₁.setTop (mkF m 55 #[.val (.int (4 : Int32))] [])) _
    refine XS.iloadN X0.here hx rfl (hb hby d20_55) rfl ?_
    show Steps p.tables e below (s₁.setTop (mkF m 56 #[.val (.int (4 : Int32))] [(.int (4 : Int32))])) _
    refine XS.iconst X0.here hx rfl (hb hby d20_56) ?_
    show Steps p.tables e below (s₁.setTop (mkF m 57 #[.val (.int (4 : Int32))] [(.int (1 : Int32)), (.int (4 : Int32))])) _
    refine XS.ishl X0.here hx rfl (hb hby d20_57) rfl ?_
    show Steps p.tables e below (s₁.setTop (mkF m 58 #[.val (.int (4 : Int32))] [(.int (8 : Int32))])) _
    exact retI X0 hx Bd.returns (hb hby d20_58) hr
  · show Q20 Z  h0 n0 _ s₁.heap _
    rw [e0]
    exact ⟨congrArg (fun q => some (Value.int q)) hv3.symm, N0, rfl⟩
theorem d19_0 : decode jdk_52_method_2_code 0 = .ok (.iload_n 0, 1) := by decide +kernel
theorem d19_1 : decode jdk_52_method_2_code 1 = .ok (.invokestatic 11, 3) := by decide +kernel
theorem d19_4 : decode jdk_52_method_2_code 4 = .ok (.newarray .byte, 2) := by decide +kernel
theorem d19_6 : decode jdk_52_method_2_code 6 = .ok (.areturn, 1) := by decide +kernel
theorem pn_19 : plainName "java/lang/StringUTF16" = true := by first | (simp [plainName, overriddenIn]; done) | decide +kernel
theorem pd_19_0 : parseMethodDescriptor "(I)I" = some ⟨[.int], some .int⟩ := by decide +kernel
theorem ef_19 (m : MethodId) (x0 : Int32) : entryFrame m #[(.int x0)] 1 = mkF m 0 #[.val (.int x0)] [] := by first | (simp [entryFrame, mkF, argsToLocals, Value.category]; done) | rfl
def Q19 (Z : State)  (h0 : Heap) (n0 : Nat) (v : Option Value) (h : Heap) (L : List Loc) : Prop := ∃ r : Addr, v = some (.ref r) ∧ Fr n0 L ∧ Keep h0 h [] ∧ n0 ≤ r ∧ h0.size ≤ r ∧ own_AI Z h r .byte (8 : Int32) (fun _ => 0)
set_option maxRecDepth 65536 in
set_option maxHeartbeats 40000000 in
theorem rm19 (l : Launch) (Z : State) (a0 : Array Value) (hw : ∀ d ∈ tables_1, d.before a0 Z = true) (ws : List Jvm.Cond)  (h0 : Heap) (n0 : Nat) (Z0 : n0 ≤ h0.size) :
    MetFree l (⟨"java/lang/StringUTF16", "newBytesFor", "(I)[B"⟩ : MethodName) (head1 (Jvm.Cond.code (⟨"java/lang/StringUTF16", "newBytesFor", "(I)[B"⟩ : MethodName) jdk_52_method_2_code 1 (some (.array .byte)) :: ws) ({ frames := 1, cells := 1, slots := 8, locals := 12 } : Room)) (fun a U => a = #[(.int (4 : Int32))] ∧ Z.Warmed39 U.vm ∧ U.heap = h0) (fun _ _ _ _ _ => True) (fun _ U o U' => ∃ v L, o = .returned v ∧ Q19 Z  h0 n0 v U'.heap L ∧ FrameEnd U o U' L ({ frames := 1, cells := 1, slots := 8, locals := 12 } : Room).cells ({ frames := 1, cells := 1, slots := 8, locals := 12 } : Room).slots) := by
  refine MetFree.of_bodySF (plainFor_of_name pn_19) hisR ?_
  intro p e s m args below meth c s₁ Bd hml0 hP hK
  obtain ⟨rfl, hZ, hh⟩ := hP
  have hx := Bd.exec
  have hby := Bd.bytes
  have hml : c.maxLocals = 1 := hml0
  have hown : s.vm.findClass "java/lang/StringUTF16" = some m.cls := findClass_of_methodNamed Bd.named
  have hnm := (name_of_methodNamed Bd.named Bd.method).1
  have X0 : Stand p l e ({ frames := 1, cells := 1, slots := 8, locals := 12 } : Room) s m #[(.int (4 : Int32))] below meth c s₁ [] 0 0 := Stand.of_body Bd
  have e0 : s₁.heap = h0 := by rw [← hh, Bd.state]; rfl
  have N0 := Fr.nil n0
  have pre0 : ∀ t, Steps p.tables e below (s₁.setTop (mkF m 0 #[.val (.int (4 : Int32))] [])) t → Steps p.tables e below (s₁.setTop (entryFrame m #[(.int (4 : Int32))] 1)) t := fun t k => castTop (ef_19 m (4 : Int32)) k
  obtain ⟨_, _, ⟨T1, L1, k1, n1⟩, -, X1, ⟨Lc1, hQ1, l1, y1, z1⟩, st1⟩ := Jvm.LawKit.callS X0 hx (y := (⟨"java/lang/StringUTF16", "newBytesLength", "(I)I"⟩ : MethodName)) hown (mvT hZ (hw _ (List.mem_of_getElem? (i := 81) rfl))) (mvT hZ (hw _ (List.mem_of_getElem? (i := 82) rfl))) (mvT hZ (hw _ (List.mem_of_getElem? (i := 17) rfl))) (mvT hZ (hw _ (List.mem_of_getElem? (i := 83) rfl))) (by decide) (backOf (W := 0) (rm20 l Z a0 hw []  h0 n0 Z0 ) hZ (hw _ (List.mem_of_getElem? (i := 83) rfl)) (hw _ (List.mem_of_getElem? (i := 17) rfl)) (by decide) (by decide)) (g := (mkF m 1 #[.val (.int (4 : Int32))] [(.int (4 : Int32))])) rfl (by rw [hml]; rfl) (argsL := [(.int (4 : Int32))]) (rest := []) (lenOf pd_19_0 rfl) rfl (by show 2 * 0 + _ ≤ _; exact Nat.le_of_eq rfl) (hb hby d19_1) (fun _ _ => ⟨rfl, e0, (by decide : 0 + 0 ≤ _), (by decide : 0 + 0 ≤ _)⟩)
  dsimp only [Pt.U, Pt.locs, Pt.cells, Pt.slots] at X1 l1 y1 z1 st1 hQ1
  subst l1 y1 z1
  obtain ⟨rfl, N1q, e1q⟩ := hQ1
  have N1 := Fr.app N0 N1q
  obtain ⟨T2, h2, k2, X2, e2, E2, A2, st2⟩ := newP X1 hx hZ (hw _ (List.mem_of_getElem? (i := 19) rfl)) e1q (g := (mkF m 4 #[.val (.int (4 : Int32))] [(.int (8 : Int32))])) rfl (hb hby d19_4) rfl (by decide) (cap := 8) (by decide) (by decide) (by decide) (by decide)
  obtain ⟨b2, g2⟩ : ∃ z, z = h0.size := ⟨_, rfl⟩
  rw [← g2] at A2 st2
  have g_b2 : n0 ≤ b2 := Nat.le_trans Z0 (Nat.le_of_eq g2.symm)
  have sz_b2 : h0.size ≤ b2 := Nat.le_trans (Keep.refl h0 []).1 (Nat.le_of_eq g2.symm)
  have K3 : Keep h0 h2 [] := (Keep.refl h0 []).ext E2
  have Z4 : n0 ≤ h2.size := Nat.le_trans Z0 K3.1
  have V_b2 : own_AI Z h2 b2 .byte (8 : Int32) (fun _ => 0) := own_AI.new A2 (by decide) rfl
  obtain ⟨fs, hr, hrun, hended, hW, hsame⟩ := X2.leave (v := some (.ref b2)) (fun h => by rw [Bd.returns] at h; cases h)
  refine ⟨_, _, pre0 _ ?_, hrun, hended, _, _, rfl, ?_, ⟨_, rfl⟩, hW, hsame.mono (by decide) (by decide)⟩
  · show Steps p.tables e below (s₁.setTop (mkF m 0 #[.val (.int (4 : Int32))] [])) _
    refine XS.iloadN X0.here hx rfl (hb hby d19_0) rfl ?_
    show Steps p.tables e below (s₁.setTop (mkF m 1 #[.val (.int (4 : Int32))] [(.int (4 : Int32))])) _
    refine st1 _ ?_
    show Steps p.tables e below (T1.setTop (mkF m 4 #[.val (.int (4 : Int32))] [(.int (8 : Int32))])) _
    refine st2 _ ?_
    show Steps p.tables e below (T2.setTop (mkF m 6 #[.val (.int (4 : Int32))] [(.ref b2)])) _
    jvm_step X2.here [X2.here.top, hx, (hb hby d19_6), X2.method', Bd.returns, Value.isRef, FieldType.isReference]
    first | (intro acts; rw [hr _ acts rfl rfl rfl]) | rw [hr _ _ rfl rfl rfl]
    exact Steps.refl _
  · show Q19 Z  h0 n0 _ T2.heap _
    rw [e2]
    exact ⟨b2, rfl, N1, K3, g_b2, sz_b2, V_b2⟩
theorem d18_0 : decode jdk_52_method_14_code 0 = .ok (.iload_n 2, 1) := by decide +kernel
theorem d18_1 : decode jdk_52_method_14_code 1 = .ok (.invokestatic 107, 3) := by decide +kernel
theorem d18_4 : decode jdk_52_method_14_code 4 = .ok (.astore_n 3, 1) := by decide +kernel
theorem d18_5 : decode jdk_52_method_14_code 5 = .ok (.iconst 0, 1) := by decide +kernel
theorem d18_6 : decode jdk_52_method_14_code 6 = .ok (.istore 4, 2) := by decide +kernel
theorem d18_8 : decode jdk_52_method_14_code 8 = .ok (.iload 4, 2) := by decide +kernel
theorem d18_10 : decode jdk_52_method_14_code 10 = .ok (.iload_n 2, 1) := by decide +kernel
theorem d18_11 : decode jdk_52_method_14_code 11 = .ok (.if_icmp .ge 21, 3) := by decide +kernel
theorem d18_14 : decode jdk_52_method_14_code 14 = .ok (.aload_n 3, 1) := by decide +kernel
theorem d18_15 : decode jdk_52_method_14_code 15 = .ok (.iload 4, 2) := by decide +kernel
theorem d18_17 : decode jdk_52_method_14_code 17 = .ok (.aload_n 0, 1) := by decide +kernel
theorem d18_18 : decode jdk_52_method_14_code 18 = .ok (.iload_n 1, 1) := by decide +kernel
theorem d18_19 : decode jdk_52_method_14_code 19 = .ok (.caload, 1) := by decide +kernel
theorem d18_20 : decode jdk_52_method_14_code 20 = .ok (.invokestatic 111, 3) := by decide +kernel
theorem d18_23 : decode jdk_52_method_14_code 23 = .ok (.iinc 1 1, 3) := by decide +kernel
theorem d18_26 : decode jdk_52_method_14_code 26 = .ok (.iinc 4 1, 3) := by decide +kernel
theorem d18_29 : decode jdk_52_method_14_code 29 = .ok (.goto (-21), 3) := by decide +kernel
theorem d18_32 : decode jdk_52_method_14_code 32 = .ok (.aload_n 3, 1) := by decide +kernel
theorem d18_33 : decode jdk_52_method_14_code 33 = .ok (.areturn, 1) := by decide +kernel
theorem pn_18 : plainName "java/lang/StringUTF16" = true := by first | (simp [plainName, overriddenIn]; done) | decide +kernel
theorem pd_18_0 : parseMethodDescriptor "(I)[B" = some ⟨[.int], some (.array .byte)⟩ := by decide +kernel
theorem pd_18_1 : parseMethodDescriptor "([BII)V" = some ⟨[(.array .byte), .int, .int], none⟩ := by decide +kernel
theorem ef_18 (m : MethodId) (x0 : Addr) (x1 : Int32) (x2 : Int32) : entryFrame m #[(.ref x0), (.int x1), (.int x2)] 5 = mkF m 0 #[.val (.ref x0), .val (.int x1), .val (.int x2), .unset, .unset] [] := by first | (simp [entryFrame, mkF, argsToLocals, Value.category]; done) | rfl
def f18_r_a (F : Nat → Int32) : Nat → Int32 :=
  (f21_o0_a (3 : Int32) (F 3) (f21_o0_a (2 : Int32) (F 2) (f21_o0_a (1 : Int32) (F 1) (f21_o0_a (0 : Int32) (F 0) (fun _ => 0)))))
def Q18 (Z : State) (o0 : Addr) (F : Nat → Int32) (h0 : Heap) (n0 : Nat) (v : Option Value) (h : Heap) (L : List Loc) : Prop := ∃ r : Addr, v = some (.ref r) ∧ Fr n0 L ∧ Keep h0 h [] ∧ n0 ≤ r ∧ h0.size ≤ r ∧ own_AI Z h r .byte (8 : Int32) (f18_r_a F)
set_option maxRecDepth 65536 in
set_option maxHeartbeats 40000000 in
theorem rm18 (l : Launch) (Z : State) (a0 : Array Value) (hw : ∀ d ∈ tables_1, d.before a0 Z = true) (ws : List Jvm.Cond) (o0 : Addr) (F : Nat → Int32) (h0 : Heap) (n0 : Nat) (Z0 : n0 ≤ h0.size) (S__assertionsDisabled : Sta Z h0 "java/lang/StringUTF16" "$assertionsDisabled" "Z" (.int (1 : Int32))) (S_HI_BYTE_SHIFT : Sta Z h0 "java/lang/StringUTF16" "HI_BYTE_SHIFT" "I" (.int (0 : Int32))) (S_LO_BYTE_SHIFT : Sta Z h0 "java/lang/StringUTF16" "LO_BYTE_SHIFT" "I" (.int (8 : Int32))) (V_o0 : own_AI Z h0 o0 .char (4 : Int32) F) :
    MetFree l (⟨"java/lang/StringUTF16", "toBytes", "([CII)[B"⟩ : MethodName) (head1 (Jvm.Cond.code (⟨"java/lang/StringUTF16", "toBytes", "([CII)[B"⟩ : MethodName) jdk_52_method_14_code 5 (some (.array .byte)) :: ws) ({ frames := 2, cells := 1, slots := 8, locals := 24 } : Room)) (fun a U => a = #[(.ref o0), (.int (0 : Int32)), (.int (4 : Int32))] ∧ Z.Warmed39 U.vm ∧ U.heap = h0) (fun _ _ _ _ _ => True) (fun _ U o U' => ∃ v L, o = .returned v ∧ Q18 Z o0 F h0 n0 v U'.heap L ∧ FrameEnd U o U' L ({ frames := 2, cells := 1, slots := 8, locals := 24 } : Room).cells ({ frames := 2, cells := 1, slots := 8, locals := 24 } : Room).slots) := by
  refine MetFree.of_bodySF (plainFor_of_name pn_18) hisR ?_
  intro p e s m args below meth c s₁ Bd hml0 hP hK
  obtain ⟨rfl, hZ, hh⟩ := hP
  have hx := Bd.exec
  have hby := Bd.bytes
  have hml : c.maxLocals = 5 := hml0
  have hown : s.vm.findClass "java/lang/StringUTF16" = some m.cls := findClass_of_methodNamed Bd.named
  have hnm := (name_of_methodNamed Bd.named Bd.method).1
  have X0 : Stand p l e ({ frames := 2, cells := 1, slots := 8, locals := 24 } : Room) s m #[(.ref o0), (.int (0 : Int32)), (.int (4 : Int32))] below meth c s₁ [] 0 0 := Stand.of_body Bd
  have e0 : s₁.heap = h0 := by rw [← hh, Bd.state]; rfl
  have N0 := Fr.nil n0
  have pre0 : ∀ t, Steps p.tables e below (s₁.setTop (mkF m 0 #[.val (.ref o0), .val (.int (0 : Int32)), .val (.int (4 : Int32)), .unset, .unset] [])) t → Steps p.tables e below (s₁.setTop (entryFrame m #[(.ref o0), (.int (0 : Int32)), (.int (4 : Int32))] 5)) t := fun t k => castTop (ef_18 m o0 (0 : Int32) (4 : Int32)) k
  obtain ⟨_, _, ⟨T1, L1, k1, n1⟩, -, X1, ⟨Lc1, hQ1, l1, y1, z1⟩, st1⟩ := Jvm.LawKit.callS X0 hx (y := (⟨"java/lang/StringUTF16", "newBytesFor", "(I)[B"⟩ : MethodName)) hown (mvT hZ (hw _ (List.mem_of_getElem? (i := 78) rfl))) (mvT hZ (hw _ (List.mem_of_getElem? (i := 79) rfl))) (mvT hZ (hw _ (List.mem_of_getElem? (i := 17) rfl))) (mvT hZ (hw _ (List.mem_of_getElem? (i := 80) rfl))) (by decide) (backOf (W := 0) (rm19 l Z a0 hw []  h0 n0 Z0 ) hZ (hw _ (List.mem_of_getElem? (i := 80) rfl)) (hw _ (List.mem_of_getElem? (i := 17) rfl)) (by decide) (by decide)) (g := (mkF m 1 #[.val (.ref o0), .val (.int (0 : Int32)), .val (.int (4 : Int32)), .unset, .unset] [(.int (4 : Int32))])) rfl (by rw [hml]; rfl) (argsL := [(.int (4 : Int32))]) (rest := []) (lenOf pd_18_0 rfl) rfl (by show 2 * 0 + _ ≤ _; exact Nat.le_of_eq rfl) (hb hby d18_1) (fun _ _ => ⟨rfl, e0, (by decide : 0 + 1 ≤ _), (by decide : 0 + 8 ≤ _)⟩)
  dsimp only [Pt.U, Pt.locs, Pt.cells, Pt.slots] at X1 l1 y1 z1 st1 hQ1
  subst l1 y1 z1
  obtain ⟨b_1, rfl, N1q, K1q, g_b_1, szq_b_1, G1_0⟩ := hQ1
  have N1 := Fr.app N0 N1q
  have ne_o0_b_1 : o0 ≠ b_1 := Nat.ne_of_lt (Nat.lt_of_lt_of_le V_o0.lt szq_b_1)
  have sz_b_1 : h0.size ≤ b_1 := Nat.le_trans (Keep.refl h0 []).1 szq_b_1
  have S2 := own_Sta_keep S__assertionsDisabled K1q all0
  have S3 := own_Sta_keep S_HI_BYTE_SHIFT K1q all0
  have S4 := own_Sta_keep S_LO_BYTE_SHIFT K1q all0
  have K5 : Keep h0 T1.heap [] := (Keep.refl h0 []).trans K1q all0
  have Z6 : n0 ≤ T1.heap.size := Nat.le_trans Z0 K5.1
  obtain ⟨LS1, X1, N1⟩ : ∃ L, Stand p l e ({ frames := 2, cells := 1, slots := 8, locals := 24 } : Room) s m #[(.ref o0), (.int (0 : Int32)), (.int (4 : Int32))] below meth c T1 L 1 8 ∧ Fr n0 L := ⟨_, X1, N1⟩
  have pre7 : ∀ t, Steps p.tables e below (T1.setTop (mkF m 11 #[.val (.ref o0), .val (.int (0 : Int32)), .val (.int (4 : Int32)), .val (.ref b_1), .val (.int (0 : Int32))] [(.int (4 : Int32)), (.int (0 : Int32))])) t → Steps p.tables e below (s₁.setTop (entryFrame m #[(.ref o0), (.int (0 : Int32)), (.int (4 : Int32))] 5)) t := fun t kt => pre0 t (by
      show Steps p.tables e below (s₁.setTop (mkF m 0 #[.val (.ref o0), .val (.int (0 : Int32)), .val (.int (4 : Int32)), .unset, .unset] [])) _
      refine XS.iloadN X0.here hx rfl (hb hby d18_0) rfl ?_
      show Steps p.tables e below (s₁.setTop (mkF m 1 #[.val (.ref o0), .val (.int (0 : Int32)), .val (.int (4 : Int32)), .unset, .unset] [(.int (4 : Int32))])) _
      refine st1 _ ?_
      show Steps p.tables e below (T1.setTop (mkF m 4 #[.val (.ref o0), .val (.int (0 : Int32)), .val (.int (4 : Int32)), .unset, .unset] [(.ref b_1)])) _
      refine XS.astoreN X1.here hx rfl (hb hby d18_4) rfl rfl (l' := #[.val (.ref o0), .val (.int (0 : Int32)), .val (.int (4 : Int32)), .val (.ref b_1), .unset]) rfl ?_
      show Steps p.tables e below (T1.setTop (mkF m 5 #[.val (.ref o0), .val (.int (0 : Int32)), .val (.int (4 : Int32)), .val (.ref b_1), .unset] [])) _
      refine XS.iconst X1.here hx rfl (hb hby d18_5) ?_
      show Steps p.tables e below (T1.setTop (mkF m 6 #[.val (.ref o0), .val (.int (0 : Int32)), .val (.int (4 : Int32)), .val (.ref b_1), .unset] [(.int (0 : Int32))])) _
      refine XS.istore X1.here hx rfl (hb hby d18_6) rfl (l' := #[.val (.ref o0), .val (.int (0 : Int32)), .val (.int (4 : Int32)), .val (.ref b_1), .val (.int (0 : Int32))]) rfl ?_
      show Steps p.tables e below (T1.setTop (mkF m 8 #[.val (.ref o0), .val (.int (0 : Int32)), .val (.int (4 : Int32)), .val (.ref b_1), .val (.int (0 : Int32))] [])) _
      refine XS.iload X1.here hx rfl (hb hby d18_8) rfl ?_
      show Steps p.tables e below (T1.setTop (mkF m 10 #[.val (.ref o0), .val (.int (0 : Int32)), .val (.int (4 : Int32)), .val (.ref b_1), .val (.int (0 : Int32))] [(.int (0 : Int32))])) _
      refine XS.iloadN X1.here hx rfl (hb hby d18_10) rfl ?_
      exact kt)
  obtain ⟨cl8, Ar8, Sz8, Nn8, Hs8⟩ := id (V_o0.keep K1q nin0)
  have hin8 : ¬ ((0 : Int32) < 0 ∨ cl8.slots.size ≤ ((0 : Int32)).toNatClampNeg) := inb_of Sz8 ⟨by decide, by decide⟩
  have hat8 : cl8.slots[((0 : Int32)).toNatClampNeg]? = some (.int (F 0)) := (Hs8 _ (own_lt hin8)).1
  obtain ⟨_, _, ⟨T9, L9, k9, n9⟩, -, X9, ⟨Lc9, hQ9, l9, y9, z9⟩, st9⟩ := Jvm.LawKit.callS X1 hx (y := (⟨"java/lang/StringUTF16", "putChar", "([BII)V"⟩ : MethodName)) hown (mvT hZ (hw _ (List.mem_of_getElem? (i := 85) rfl))) (mvT hZ (hw _ (List.mem_of_getElem? (i := 86) rfl))) (mvT hZ (hw _ (List.mem_of_getElem? (i := 17) rfl))) (mvT hZ (hw _ (List.mem_of_getElem? (i := 87) rfl))) (by decide) (backOf (W := 0) (rm21 l Z a0 hw [] b_1 (0 : Int32) (F 0) (fun _ => 0) T1.heap n0 Z6 S2 S3 S4 G1_0 g_b_1 (by decide)) hZ (hw _ (List.mem_of_getElem? (i := 87) rfl)) (hw _ (List.mem_of_getElem? (i := 17) rfl)) (by decide) (by decide)) (g := (mkF m 20 #[.val (.ref o0), .val (.int (0 : Int32)), .val (.int (4 : Int32)), .val (.ref b_1), .val (.int (0 : Int32))] [(.int (F 0)), (.int (0 : Int32)), (.ref b_1)])) rfl (by rw [hml]; rfl) (argsL := [(.ref b_1), (.int (0 : Int32)), (.int (F 0))]) (rest := []) (lenOf pd_18_1 rfl) rfl (by show 2 * 0 + _ ≤ _; exact Nat.le_of_eq rfl) (hb hby d18_20) (fun _ _ => ⟨rfl, rfl, (by decide : 1 + 0 ≤ _), (by decide : 8 + 0 ≤ _)⟩)
  dsimp only [Pt.U, Pt.locs, Pt.cells, Pt.slots] at X9 l9 y9 z9 st9 hQ9
  subst l9 y9 z9
  obtain ⟨rfl, N9q, K9q, G9_0⟩ := hQ9
  have N9 := Fr.app N1 N9q
  have S10 := own_Sta_keep S2 K9q (allS (own_AI_st G1_0) all0)
  have S11 := own_Sta_keep S3 K9q (allS (own_AI_st G1_0) all0)
  have S12 := own_Sta_keep S4 K9q (allS (own_AI_st G1_0) all0)
  have K13 : Keep h0 T9.heap [] := K5.trans K9q (allS (Or.inr sz_b_1) all0)
  have Z14 : n0 ≤ T9.heap.size := Nat.le_trans Z0 K13.1
  obtain ⟨LS9, X9, N9⟩ : ∃ L, Stand p l e ({ frames := 2, cells := 1, slots := 8, locals := 24 } : Room) s m #[(.ref o0), (.int (0 : Int32)), (.int (4 : Int32))] below meth c T9 L 1 8 ∧ Fr n0 L := ⟨_, X9, N9⟩
  have pre15 : ∀ t, Steps p.tables e below (T9.setTop (mkF m 11 #[.val (.ref o0), .val (.int (1 : Int32)), .val (.int (4 : Int32)), .val (.ref b_1), .val (.int (1 : Int32))] [(.int (4 : Int32)), (.int (1 : Int32))])) t → Steps p.tables e below (s₁.setTop (entryFrame m #[(.ref o0), (.int (0 : Int32)), (.int (4 : Int32))] 5)) t := fun t kt => pre7 t (by
      show Steps p.tables e below (T1.setTop (mkF m 11 #[.val (.ref o0), .val (.int (0 : Int32)), .val (.int (4 : Int32)), .val (.ref b_1), .val (.int (0 : Int32))] [(.int (4 : Int32)), (.int (0 : Int32))])) _
      refine XS.icmpNo X1.here hx rfl (hb hby d18_11) rfl (tlt (by decide : ((0 : Int32) < (4 : Int32)))).2.1 ?_
      show Steps p.tables e below (T1.setTop (mkF m 14 #[.val (.ref o0), .val (.int (0 : Int32)), .val (.int (4 : Int32)), .val (.ref b_1), .val (.int (0 : Int32))] [])) _
      refine XS.aloadN X1.here hx rfl (hb hby d18_14) rfl rfl ?_
      show Steps p.tables e below (T1.setTop (mkF m 15 #[.val (.ref o0), .val (.int (0 : Int32)), .val (.int (4 : Int32)), .val (.ref b_1), .val (.int (0 : Int32))] [(.ref b_1)])) _
      refine XS.iload X1.here hx rfl (hb hby d18_15) rfl ?_
      show Steps p.tables e below (T1.setTop (mkF m 17 #[.val (.ref o0), .val (.int (0 : Int32)), .val (.int (4 : Int32)), .val (.ref b_1), .val (.int (0 : Int32))] [(.int (0 : Int32)), (.ref b_1)])) _
      refine XS.aloadN X1.here hx rfl (hb hby d18_17) rfl rfl ?_
      show Steps p.tables e below (T1.setTop (mkF m 18 #[.val (.ref o0), .val (.int (0 : Int32)), .val (.int (4 : Int32)), .val (.ref b_1), .val (.int (0 : Int32))] [(.ref o0), (.int (0 : Int32)), (.ref b_1)])) _
      refine XS.iloadN X1.here hx rfl (hb hby d18_18) rfl ?_
      show Steps p.tables e below (T1.setTop (mkF m 19 #[.val (.ref o0), .val (.int (0 : Int32)), .val (.int (4 : Int32)), .val (.ref b_1), .val (.int (0 : Int32))] [(.int (0 : Int32)), (.ref o0), (.int (0 : Int32)), (.ref b_1)])) _
      refine X1.caload hx (j := (0 : Int32)) (v := (.int (F 0))) Ar8.1 (State.isArrayOf_alike hZ.alike Ar8.2.1) Ar8.2.2 hin8 hat8 (g := (mkF m 19 #[.val (.ref o0), .val (.int (0 : Int32)), .val (.int (4 : Int32)), .val (.ref b_1), .val (.int (0 : Int32))] [(.int (0 : Int32)), (.ref o0), (.int (0 : Int32)), (.ref b_1)])) rfl rfl (hb hby d18_19) _ ?_
      show Steps p.tables e below (T1.setTop (mkF m 20 #[.val (.ref o0), .val (.int (0 : Int32)), .val (.int (4 : Int32)), .val (.ref b_1), .val (.int (0 : Int32))] [(.int (F 0)), (.int (0 : Int32)), (.ref b_1)])) _
      refine st9 _ ?_
      show Steps p.tables e below (T9.setTop (mkF m 23 #[.val (.ref o0), .val (.int (0 : Int32)), .val (.int (4 : Int32)), .val (.ref b_1), .val (.int (0 : Int32))] [])) _
      refine XS.iinc X9.here hx rfl (hb hby d18_23) rfl (l' := #[.val (.ref o0), .val (.int (1 : Int32)), .val (.int (4 : Int32)), .val (.ref b_1), .val (.int (0 : Int32))]) rfl ?_
      show Steps p.tables e below (T9.setTop (mkF m 26 #[.val (.ref o0), .val (.int (1 : Int32)), .val (.int (4 : Int32)), .val (.ref b_1), .val (.int (0 : Int32))] [])) _
      refine XS.iinc X9.here hx rfl (hb hby d18_26) rfl (l' := #[.val (.ref o0), .val (.int (1 : Int32)), .val (.int (4 : Int32)), .val (.ref b_1), .val (.int (1 : Int32))]) rfl ?_
      show Steps p.tables e below (T9.setTop (mkF m 29 #[.val (.ref o0), .val (.int (1 : Int32)), .val (.int (4 : Int32)), .val (.ref b_1), .val (.int (1 : Int32))] [])) _
      refine XS.goto X9.here hx rfl (pc0 := 29) (pc' := 8) rfl (hb hby d18_29) (by decide) (by decide) ?_
      show Steps p.tables e below (T9.setTop (mkF m 8 #[.val (.ref o0), .val (.int (1 : Int32)), .val (.int (4 : Int32)), .val (.ref b_1), .val (.int (1 : Int32))] [])) _
      refine XS.iload X9.here hx rfl (hb hby d18_8) rfl ?_
      show Steps p.tables e below (T9.setTop (mkF m 10 #[.val (.ref o0), .val (.int (1 : Int32)), .val (.int (4 : Int32)), .val (.ref b_1), .val (.int (1 : Int32))] [(.int (1 : Int32))])) _
      refine XS.iloadN X9.here hx rfl (hb hby d18_10) rfl ?_
      exact kt)
  obtain ⟨cl16, Ar16, Sz16, Nn16, Hs16⟩ := id ((V_o0.keep K1q nin0).keep K9q (ninS ne_o0_b_1 nin0))
  have hin16 : ¬ ((1 : Int32) < 0 ∨ cl16.slots.size ≤ ((1 : Int32)).toNatClampNeg) := inb_of Sz16 ⟨by decide, by decide⟩
  have hat16 : cl16.slots[((1 : Int32)).toNatClampNeg]? = some (.int (F 1)) := (Hs16 _ (own_lt hin16)).1
  obtain ⟨_, _, ⟨T17, L17, k17, n17⟩, -, X17, ⟨Lc17, hQ17, l17, y17, z17⟩, st17⟩ := Jvm.LawKit.callS X9 hx (y := (⟨"java/lang/StringUTF16", "putChar", "([BII)V"⟩ : MethodName)) hown (mvT hZ (hw _ (List.mem_of_getElem? (i := 85) rfl))) (mvT hZ (hw _ (List.mem_of_getElem? (i := 86) rfl))) (mvT hZ (hw _ (List.mem_of_getElem? (i := 17) rfl))) (mvT hZ (hw _ (List.mem_of_getElem? (i := 87) rfl))) (by decide) (backOf (W := 0) (rm21 l Z a0 hw [] b_1 (1 : Int32) (F 1) (f21_o0_a (0 : Int32) (F 0) (fun _ => 0)) T9.heap n0 Z14 S10 S11 S12 G9_0 g_b_1 (by decide)) hZ (hw _ (List.mem_of_getElem? (i := 87) rfl)) (hw _ (List.mem_of_getElem? (i := 17) rfl)) (by decide) (by decide)) (g := (mkF m 20 #[.val (.ref o0), .val (.int (1 : Int32)), .val (.int (4 : Int32)), .val (.ref b_1), .val (.int (1 : Int32))] [(.int (F 1)), (.int (1 : Int32)), (.ref b_1)])) rfl (by rw [hml]; rfl) (argsL := [(.ref b_1), (.int (1 : Int32)), (.int (F 1))]) (rest := []) (lenOf pd_18_1 rfl) rfl (by show 2 * 0 + _ ≤ _; exact Nat.le_of_eq rfl) (hb hby d18_20) (fun _ _ => ⟨rfl, rfl, (by decide : 1 + 0 ≤ _), (by decide : 8 + 0 ≤ _)⟩)
  dsimp only [Pt.U, Pt.locs, Pt.cells, Pt.slots] at X17 l17 y17 z17 st17 hQ17
  subst l17 y17 z17
  obtain ⟨rfl, N17q, K17q, G17_0⟩ := hQ17
  have N17 := Fr.app N9 N17q
  have S18 := own_Sta_keep S10 K17q (allS (own_AI_st G9_0) all0)
  have S19 := own_Sta_keep S11 K17q (allS (own_AI_st G9_0) all0)
  have S20 := own_Sta_keep S12 K17q (allS (own_AI_st G9_0) all0)
  have K21 : Keep h0 T17.heap [] := K13.trans K17q (allS (Or.inr sz_b_1) all0)
  have Z22 : n0 ≤ T17.heap.size := Nat.le_trans Z0 K21.1
  obtain ⟨LS17, X17, N17⟩ : ∃ L, Stand p l e ({ frames := 2, cells := 1, slots := 8, locals := 24 } : Room) s m #[(.ref o0), (.int (0 : Int32)), (.int (4 : Int32))] below meth c T17 L 1 8 ∧ Fr n0 L := ⟨_, X17, N17⟩
  have pre23 : ∀ t, Steps p.tables e below (T17.setTop (mkF m 11 #[.val (.ref o0), .val (.int (2 : Int32)), .val (.int (4 : Int32)), .val (.ref b_1), .val (.int (2 : Int32))] [(.int (4 : Int32)), (.int (2 : Int32))])) t → Steps p.tables e below (s₁.setTop (entryFrame m #[(.ref o0), (.int (0 : Int32)), (.int (4 : Int32))] 5)) t := fun t kt => pre15 t (by
      show Steps p.tables e below (T9.setTop (mkF m 11 #[.val (.ref o0), .val (.int (1 : Int32)), .val (.int (4 : Int32)), .val (.ref b_1), .val (.int (1 : Int32))] [(.int (4 : Int32)), (.int (1 : Int32))])) _
      refine XS.icmpNo X9.here hx rfl (hb hby d18_11) rfl (tlt (by decide : ((1 : Int32) < (4 : Int32)))).2.1 ?_
      show Steps p.tables e below (T9.setTop (mkF m 14 #[.val (.ref o0), .val (.int (1 : Int32)), .val (.int (4 : Int32)), .val (.ref b_1), .val (.int (1 : Int32))] [])) _
      refine XS.aloadN X9.here hx rfl (hb hby d18_14) rfl rfl ?_
      show Steps p.tables e below (T9.setTop (mkF m 15 #[.val (.ref o0), .val (.int (1 : Int32)), .val (.int (4 : Int32)), .val (.ref b_1), .val (.int (1 : Int32))] [(.ref b_1)])) _
      refine XS.iload X9.here hx rfl (hb hby d18_15) rfl ?_
      show Steps p.tables e below (T9.setTop (mkF m 17 #[.val (.ref o0), .val (.int (1 : Int32)), .val (.int (4 : Int32)), .val (.ref b_1), .val (.int (1 : Int32))] [(.int (1 : Int32)), (.ref b_1)])) _
      refine XS.aloadN X9.here hx rfl (hb hby d18_17) rfl rfl ?_
      show Steps p.tables e below (T9.setTop (mkF m 18 #[.val (.ref o0), .val (.int (1 : Int32)), .val (.int (4 : Int32)), .val (.ref b_1), .val (.int (1 : Int32))] [(.ref o0), (.int (1 : Int32)), (.ref b_1)])) _
      refine XS.iloadN X9.here hx rfl (hb hby d18_18) rfl ?_
      show Steps p.tables e below (T9.setTop (mkF m 19 #[.val (.ref o0), .val (.int (1 : Int32)), .val (.int (4 : Int32)), .val (.ref b_1), .val (.int (1 : Int32))] [(.int (1 : Int32)), (.ref o0), (.int (1 : Int32)), (.ref b_1)])) _
      refine X9.caload hx (j := (1 : Int32)) (v := (.int (F 1))) Ar16.1 (State.isArrayOf_alike hZ.alike Ar16.2.1) Ar16.2.2 hin16 hat16 (g := (mkF m 19 #[.val (.ref o0), .val (.int (1 : Int32)), .val (.int (4 : Int32)), .val (.ref b_1), .val (.int (1 : Int32))] [(.int (1 : Int32)), (.ref o0), (.int (1 : Int32)), (.ref b_1)])) rfl rfl (hb hby d18_19) _ ?_
      show Steps p.tables e below (T9.setTop (mkF m 20 #[.val (.ref o0), .val (.int (1 : Int32)), .val (.int (4 : Int32)), .val (.ref b_1), .val (.int (1 : Int32))] [(.int (F 1)), (.int (1 : Int32)), (.ref b_1)])) _
      refine st17 _ ?_
      show Steps p.tables e below (T17.setTop (mkF m 23 #[.val (.ref o0), .val (.int (1 : Int32)), .val (.int (4 : Int32)), .val (.ref b_1), .val (.int (1 : Int32))] [])) _
      refine XS.iinc X17.here hx rfl (hb hby d18_23) rfl (l' := #[.val (.ref o0), .val (.int (2 : Int32)), .val (.int (4 : Int32)), .val (.ref b_1), .val (.int (1 : Int32))]) rfl ?_
      show Steps p.tables e below (T17.setTop (mkF m 26 #[.val (.ref o0), .val (.int (2 : Int32)), .val (.int (4 : Int32)), .val (.ref b_1), .val (.int (1 : Int32))] [])) _
      refine XS.iinc X17.here hx rfl (hb hby d18_26) rfl (l' := #[.val (.ref o0), .val (.int (2 : Int32)), .val (.int (4 : Int32)), .val (.ref b_1), .val (.int (2 : Int32))]) rfl ?_
      show Steps p.tables e below (T17.setTop (mkF m 29 #[.val (.ref o0), .val (.int (2 : Int32)), .val (.int (4 : Int32)), .val (.ref b_1), .val (.int (2 : Int32))] [])) _
      refine XS.goto X17.here hx rfl (pc0 := 29) (pc' := 8) rfl (hb hby d18_29) (by decide) (by decide) ?_
      show Steps p.tables e below (T17.setTop (mkF m 8 #[.val (.ref o0), .val (.int (2 : Int32)), .val (.int (4 : Int32)), .val (.ref b_1), .val (.int (2 : Int32))] [])) _
      refine XS.iload X17.here hx rfl (hb hby d18_8) rfl ?_
      show Steps p.tables e below (T17.setTop (mkF m 10 #[.val (.ref o0), .val (.int (2 : Int32)), .val (.int (4 : Int32)), .val (.ref b_1), .val (.int (2 : Int32))] [(.int (2 : Int32))])) _
      refine XS.iloadN X17.here hx rfl (hb hby d18_10) rfl ?_
      exact kt)
  have c25 := (((V_o0.keep K1q nin0).keep K9q (ninS ne_o0_b_1 nin0)).keep K17q (ninS ne_o0_b_1 nin0))
  obtain ⟨cl24, Ar24, Sz24, Nn24, Hs24⟩ := id c25
  have hin24 : ¬ ((2 : Int32) < 0 ∨ cl24.slots.size ≤ ((2 : Int32)).toNatClampNeg) := inb_of Sz24 ⟨by decide, by decide⟩
  have hat24 : cl24.slots[((2 : Int32)).toNatClampNeg]? = some (.int (F 2)) := (Hs24 _ (own_lt hin24)).1
  obtain ⟨_, _, ⟨T26, L26, k26, n26⟩, -, X26, ⟨Lc26, hQ26, l26, y26, z26⟩, st26⟩ := Jvm.LawKit.callS X17 hx (y := (⟨"java/lang/StringUTF16", "putChar", "([BII)V"⟩ : MethodName)) hown (mvT hZ (hw _ (List.mem_of_getElem? (i := 85) rfl))) (mvT hZ (hw _ (List.mem_of_getElem? (i := 86) rfl))) (mvT hZ (hw _ (List.mem_of_getElem? (i := 17) rfl))) (mvT hZ (hw _ (List.mem_of_getElem? (i := 87) rfl))) (by decide) (backOf (W := 0) (rm21 l Z a0 hw [] b_1 (2 : Int32) (F 2) (f21_o0_a (1 : Int32) (F 1) (f21_o0_a (0 : Int32) (F 0) (fun _ => 0))) T17.heap n0 Z22 S18 S19 S20 G17_0 g_b_1 (by decide)) hZ (hw _ (List.mem_of_getElem? (i := 87) rfl)) (hw _ (List.mem_of_getElem? (i := 17) rfl)) (by decide) (by decide)) (g := (mkF m 20 #[.val (.ref o0), .val (.int (2 : Int32)), .val (.int (4 : Int32)), .val (.ref b_1), .val (.int (2 : Int32))] [(.int (F 2)), (.int (2 : Int32)), (.ref b_1)])) rfl (by rw [hml]; rfl) (argsL := [(.ref b_1), (.int (2 : Int32)), (.int (F 2))]) (rest := []) (lenOf pd_18_1 rfl) rfl (by show 2 * 0 + _ ≤ _; exact Nat.le_of_eq rfl) (hb hby d18_20) (fun _ _ => ⟨rfl, rfl, (by decide : 1 + 0 ≤ _), (by decide : 8 + 0 ≤ _)⟩)
  dsimp only [Pt.U, Pt.locs, Pt.cells, Pt.slots] at X26 l26 y26 z26 st26 hQ26
  subst l26 y26 z26
  obtain ⟨rfl, N26q, K26q, G26_0⟩ := hQ26
  have N26 := Fr.app N17 N26q
  have S27 := own_Sta_keep S18 K26q (allS (own_AI_st G17_0) all0)
  have S28 := own_Sta_keep S19 K26q (allS (own_AI_st G17_0) all0)
  have S29 := own_Sta_keep S20 K26q (allS (own_AI_st G17_0) all0)
  have K30 : Keep h0 T26.heap [] := K21.trans K26q (allS (Or.inr sz_b_1) all0)
  have Z31 : n0 ≤ T26.heap.size := Nat.le_trans Z0 K30.1
  obtain ⟨LS26, X26, N26⟩ : ∃ L, Stand p l e ({ frames := 2, cells := 1, slots := 8, locals := 24 } : Room) s m #[(.ref o0), (.int (0 : Int32)), (.int (4 : Int32))] below meth c T26 L 1 8 ∧ Fr n0 L := ⟨_, X26, N26⟩
  have pre32 : ∀ t, Steps p.tables e below (T26.setTop (mkF m 11 #[.val (.ref o0), .val (.int (3 : Int32)), .val (.int (4 : Int32)), .val (.ref b_1), .val (.int (3 : Int32))] [(.int (4 : Int32)), (.int (3 : Int32))])) t → Steps p.tables e below (s₁.setTop (entryFrame m #[(.ref o0), (.int (0 : Int32)), (.int (4 : Int32))] 5)) t := fun t kt => pre23 t (by
      show Steps p.tables e below (T17.setTop (mkF m 11 #[.val (.ref o0), .val (.int (2 : Int32)), .val (.int (4 : Int32)), .val (.ref b_1), .val (.int (2 : Int32))] [(.int (4 : Int32)), (.int (2 : Int32))])) _
      refine XS.icmpNo X17.here hx rfl (hb hby d18_11) rfl (tlt (by decide : ((2 : Int32) < (4 : Int32)))).2.1 ?_
      show Steps p.tables e below (T17.setTop (mkF m 14 #[.val (.ref o0), .val (.int (2 : Int32)), .val (.int (4 : Int32)), .val (.ref b_1), .val (.int (2 : Int32))] [])) _
      refine XS.aloadN X17.here hx rfl (hb hby d18_14) rfl rfl ?_
      show Steps p.tables e below (T17.setTop (mkF m 15 #[.val (.ref o0), .val (.int (2 : Int32)), .val (.int (4 : Int32)), .val (.ref b_1), .val (.int (2 : Int32))] [(.ref b_1)])) _
      refine XS.iload X17.here hx rfl (hb hby d18_15) rfl ?_
      show Steps p.tables e below (T17.setTop (mkF m 17 #[.val (.ref o0), .val (.int (2 : Int32)), .val (.int (4 : Int32)), .val (.ref b_1), .val (.int (2 : Int32))] [(.int (2 : Int32)), (.ref b_1)])) _
      refine XS.aloadN X17.here hx rfl (hb hby d18_17) rfl rfl ?_
      show Steps p.tables e below (T17.setTop (mkF m 18 #[.val (.ref o0), .val (.int (2 : Int32)), .val (.int (4 : Int32)), .val (.ref b_1), .val (.int (2 : Int32))] [(.ref o0), (.int (2 : Int32)), (.ref b_1)])) _
      refine XS.iloadN X17.here hx rfl (hb hby d18_18) rfl ?_
      show Steps p.tables e below (T17.setTop (mkF m 19 #[.val (.ref o0), .val (.int (2 : Int32)), .val (.int (4 : Int32)), .val (.ref b_1), .val (.int (2 : Int32))] [(.int (2 : Int32)), (.ref o0), (.int (2 : Int32)), (.ref b_1)])) _
      refine X17.caload hx (j := (2 : Int32)) (v := (.int (F 2))) Ar24.1 (State.isArrayOf_alike hZ.alike Ar24.2.1) Ar24.2.2 hin24 hat24 (g := (mkF m 19 #[.val (.ref o0), .val (.int (2 : Int32)), .val (.int (4 : Int32)), .val (.ref b_1), .val (.int (2 : Int32))] [(.int (2 : Int32)), (.ref o0), (.int (2 : Int32)), (.ref b_1)])) rfl rfl (hb hby d18_19) _ ?_
      show Steps p.tables e below (T17.setTop (mkF m 20 #[.val (.ref o0), .val (.int (2 : Int32)), .val (.int (4 : Int32)), .val (.ref b_1), .val (.int (2 : Int32))] [(.int (F 2)), (.int (2 : Int32)), (.ref b_1)])) _
      refine st26 _ ?_
      show Steps p.tables e below (T26.setTop (mkF m 23 #[.val (.ref o0), .val (.int (2 : Int32)), .val (.int (4 : Int32)), .val (.ref b_1), .val (.int (2 : Int32))] [])) _
      refine XS.iinc X26.here hx rfl (hb hby d18_23) rfl (l' := #[.val (.ref o0), .val (.int (3 : Int32)), .val (.int (4 : Int32)), .val (.ref b_1), .val (.int (2 : Int32))]) rfl ?_
      show Steps p.tables e below (T26.setTop (mkF m 26 #[.val (.ref o0), .val (.int (3 : Int32)), .val (.int (4 : Int32)), .val (.ref b_1), .val (.int (2 : Int32))] [])) _
      refine XS.iinc X26.here hx rfl (hb hby d18_26) rfl (l' := #[.val (.ref o0), .val (.int (3 : Int32)), .val (.int (4 : Int32)), .val (.ref b_1), .val (.int (3 : Int32))]) rfl ?_
      show Steps p.tables e below (T26.setTop (mkF m 29 #[.val (.ref o0), .val (.int (3 : Int32)), .val (.int (4 : Int32)), .val (.ref b_1), .val (.int (3 : Int32))] [])) _
      refine XS.goto X26.here hx rfl (pc0 := 29) (pc' := 8) rfl (hb hby d18_29) (by decide) (by decide) ?_
      show Steps p.tables e below (T26.setTop (mkF m 8 #[.val (.ref o0), .val (.int (3 : Int32)), .val (.int (4 : Int32)), .val (.ref b_1), .val (.int (3 : Int32))] [])) _
      refine XS.iload X26.here hx rfl (hb hby d18_8) rfl ?_
      show Steps p.tables e below (T26.setTop (mkF m 10 #[.val (.ref o0), .val (.int (3 : Int32)), .val (.int (4 : Int32)), .val (.ref b_1), .val (.int (3 : Int32))] [(.int (3 : Int32))])) _
      refine XS.iloadN X26.here hx rfl (hb hby d18_10) rfl ?_
      exact kt)
  obtain ⟨cl33, Ar33, Sz33, Nn33, Hs33⟩ := id (c25.keep K26q (ninS ne_o0_b_1 nin0))
  have hin33 : ¬ ((3 : Int32) < 0 ∨ cl33.slots.size ≤ ((3 : Int32)).toNatClampNeg) := inb_of Sz33 ⟨by decide, by decide⟩
  have hat33 : cl33.slots[((3 : Int32)).toNatClampNeg]? = some (.int (F 3)) := (Hs33 _ (own_lt hin33)).1
  obtain ⟨_, _, ⟨T34, L34, k34, n34⟩, -, X34, ⟨Lc34, hQ34, l34, y34, z34⟩, st34⟩ := Jvm.LawKit.callS X26 hx (y := (⟨"java/lang/StringUTF16", "putChar", "([BII)V"⟩ : MethodName)) hown (mvT hZ (hw _ (List.mem_of_getElem? (i := 85) rfl))) (mvT hZ (hw _ (List.mem_of_getElem? (i := 86) rfl))) (mvT hZ (hw _ (List.mem_of_getElem? (i := 17) rfl))) (mvT hZ (hw _ (List.mem_of_getElem? (i := 87) rfl))) (by decide) (backOf (W := 0) (rm21 l Z a0 hw [] b_1 (3 : Int32) (F 3) (f21_o0_a (2 : Int32) (F 2) (f21_o0_a (1 : Int32) (F 1) (f21_o0_a (0 : Int32) (F 0) (fun _ => 0)))) T26.heap n0 Z31 S27 S28 S29 G26_0 g_b_1 (by decide)) hZ (hw _ (List.mem_of_getElem? (i := 87) rfl)) (hw _ (List.mem_of_getElem? (i := 17) rfl)) (by decide) (by decide)) (g := (mkF m 20 #[.val (.ref o0), .val (.int (3 : Int32)), .val (.int (4 : Int32)), .val (.ref b_1), .val (.int (3 : Int32))] [(.int (F 3)), (.int (3 : Int32)), (.ref b_1)])) rfl (by rw [hml]; rfl) (argsL := [(.ref b_1), (.int (3 : Int32)), (.int (F 3))]) (rest := []) (lenOf pd_18_1 rfl) rfl (by show 2 * 0 + _ ≤ _; exact Nat.le_of_eq rfl) (hb hby d18_20) (fun _ _ => ⟨rfl, rfl, (by decide : 1 + 0 ≤ _), (by decide : 8 + 0 ≤ _)⟩)
  dsimp only [Pt.U, Pt.locs, Pt.cells, Pt.slots] at X34 l34 y34 z34 st34 hQ34
  subst l34 y34 z34
  obtain ⟨rfl, N34q, K34q, G34_0⟩ := hQ34
  have N34 := Fr.app N26 N34q
  have S35 := own_Sta_keep S27 K34q (allS (own_AI_st G26_0) all0)
  have S36 := own_Sta_keep S28 K34q (allS (own_AI_st G26_0) all0)
  have S37 := own_Sta_keep S29 K34q (allS (own_AI_st G26_0) all0)
  have K38 : Keep h0 T34.heap [] := K30.trans K34q (allS (Or.inr sz_b_1) all0)
  have Z39 : n0 ≤ T34.heap.size := Nat.le_trans Z0 K38.1
  obtain ⟨LS34, X34, N34⟩ : ∃ L, Stand p l e ({ frames := 2, cells := 1, slots := 8, locals := 24 } : Room) s m #[(.ref o0), (.int (0 : Int32)), (.int (4 : Int32))] below meth c T34 L 1 8 ∧ Fr n0 L := ⟨_, X34, N34⟩
  have pre40 : ∀ t, Steps p.tables e below (T34.setTop (mkF m 11 #[.val (.ref o0), .val (.int (4 : Int32)), .val (.int (4 : Int32)), .val (.ref b_1), .val (.int (4 : Int32))] [(.int (4 : Int32)), (.int (4 : Int32))])) t → Steps p.tables e below (s₁.setTop (entryFrame m #[(.ref o0), (.int (0 : Int32)), (.int (4 : Int32))] 5)) t := fun t kt => pre32 t (by
      show Steps p.tables e below (T26.setTop (mkF m 11 #[.val (.ref o0), .val (.int (3 : Int32)), .val (.int (4 : Int32)), .val (.ref b_1), .val (.int (3 : Int32))] [(.int (4 : Int32)), (.int (3 : Int32))])) _
      refine XS.icmpNo X26.here hx rfl (hb hby d18_11) rfl (tlt (by decide : ((3 : Int32) < (4 : Int32)))).2.1 ?_
      show Steps p.tables e below (T26.setTop (mkF m 14 #[.val (.ref o0), .val (.int (3 : Int32)), .val (.int (4 : Int32)), .val (.ref b_1), .val (.int (3 : Int32))] [])) _
      refine XS.aloadN X26.here hx rfl (hb hby d18_14) rfl rfl ?_
      show Steps p.tables e below (T26.setTop (mkF m 15 #[.val (.ref o0), .val (.int (3 : Int32)), .val (.int (4 : Int32)), .val (.ref b_1), .val (.int (3 : Int32))] [(.ref b_1)])) _
      refine XS.iload X26.here hx rfl (hb hby d18_15) rfl ?_
      show Steps p.tables e below (T26.setTop (mkF m 17 #[.val (.ref o0), .val (.int (3 : Int32)), .val (.int (4 : Int32)), .val (.ref b_1), .val (.int (3 : Int32))] [(.int (3 : Int32)), (.ref b_1)])) _
      refine XS.aloadN X26.here hx rfl (hb hby d18_17) rfl rfl ?_
      show Steps p.tables e below (T26.setTop (mkF m 18 #[.val (.ref o0), .val (.int (3 : Int32)), .val (.int (4 : Int32)), .val (.ref b_1), .val (.int (3 : Int32))] [(.ref o0), (.int (3 : Int32)), (.ref b_1)])) _
      refine XS.iloadN X26.here hx rfl (hb hby d18_18) rfl ?_
      show Steps p.tables e below (T26.setTop (mkF m 19 #[.val (.ref o0), .val (.int (3 : Int32)), .val (.int (4 : Int32)), .val (.ref b_1), .val (.int (3 : Int32))] [(.int (3 : Int32)), (.ref o0), (.int (3 : Int32)), (.ref b_1)])) _
      refine X26.caload hx (j := (3 : Int32)) (v := (.int (F 3))) Ar33.1 (State.isArrayOf_alike hZ.alike Ar33.2.1) Ar33.2.2 hin33 hat33 (g := (mkF m 19 #[.val (.ref o0), .val (.int (3 : Int32)), .val (.int (4 : Int32)), .val (.ref b_1), .val (.int (3 : Int32))] [(.int (3 : Int32)), (.ref o0), (.int (3 : Int32)), (.ref b_1)])) rfl rfl (hb hby d18_19) _ ?_
      show Steps p.tables e below (T26.setTop (mkF m 20 #[.val (.ref o0), .val (.int (3 : Int32)), .val (.int (4 : Int32)), .val (.ref b_1), .val (.int (3 : Int32))] [(.int (F 3)), (.int (3 : Int32)), (.ref b_1)])) _
      refine st34 _ ?_
      show Steps p.tables e below (T34.setTop (mkF m 23 #[.val (.ref o0), .val (.int (3 : Int32)), .val (.int (4 : Int32)), .val (.ref b_1), .val (.int (3 : Int32))] [])) _
      refine XS.iinc X34.here hx rfl (hb hby d18_23) rfl (l' := #[.val (.ref o0), .val (.int (4 : Int32)), .val (.int (4 : Int32)), .val (.ref b_1), .val (.int (3 : Int32))]) rfl ?_
      show Steps p.tables e below (T34.setTop (mkF m 26 #[.val (.ref o0), .val (.int (4 : Int32)), .val (.int (4 : Int32)), .val (.ref b_1), .val (.int (3 : Int32))] [])) _
      refine XS.iinc X34.here hx rfl (hb hby d18_26) rfl (l' := #[.val (.ref o0), .val (.int (4 : Int32)), .val (.int (4 : Int32)), .val (.ref b_1), .val (.int (4 : Int32))]) rfl ?_
      show Steps p.tables e below (T34.setTop (mkF m 29 #[.val (.ref o0), .val (.int (4 : Int32)), .val (.int (4 : Int32)), .val (.ref b_1), .val (.int (4 : Int32))] [])) _
      refine XS.goto X34.here hx rfl (pc0 := 29) (pc' := 8) rfl (hb hby d18_29) (by decide) (by decide) ?_
      show Steps p.tables e below (T34.setTop (mkF m 8 #[.val (.ref o0), .val (.int (4 : Int32)), .val (.int (4 : Int32)), .val (.ref b_1), .val (.int (4 : Int32))] [])) _
      refine XS.iload X34.here hx rfl (hb hby d18_8) rfl ?_
      show Steps p.tables e below (T34.setTop (mkF m 10 #[.val (.ref o0), .val (.int (4 : Int32)), .val (.int (4 : Int32)), .val (.ref b_1), .val (.int (4 : Int32))] [(.int (4 : Int32))])) _
      refine XS.iloadN X34.here hx rfl (hb hby d18_10) rfl ?_
      exact kt)
  obtain ⟨fs, hr, hrun, hended, hW, hsame⟩ := X34.leave (v := some (.ref b_1)) (fun h => by rw [Bd.returns] at h; cases h)
  refine ⟨_, _, pre40 _ ?_, hrun, hended, _, _, rfl, ?_, ⟨_, rfl⟩, hW, hsame.mono (by decide) (by decide)⟩
  · show Steps p.tables e below (T34.setTop (mkF m 11 #[.val (.ref o0), .val (.int (4 : Int32)), .val (.int (4 : Int32)), .val (.ref b_1), .val (.int (4 : Int32))] [(.int (4 : Int32)), (.int (4 : Int32))])) _
    refine XS.icmpYes X34.here hx rfl (pc0 := 11) (pc' := 32) rfl (hb hby d18_11) rfl (flt (by decide : ¬ ((4 : Int32) < (4 : Int32)))).2.1 (by decide) (by decide) ?_
    show Steps p.tables e below (T34.setTop (mkF m 32 #[.val (.ref o0), .val (.int (4 : Int32)), .val (.int (4 : Int32)), .val (.ref b_1), .val (.int (4 : Int32))] [])) _
    refine XS.aloadN X34.here hx rfl (hb hby d18_32) rfl rfl ?_
    show Steps p.tables e below (T34.setTop (mkF m 33 #[.val (.ref o0), .val (.int (4 : Int32)), .val (.int (4 : Int32)), .val (.ref b_1), .val (.int (4 : Int32))] [(.ref b_1)])) _
    jvm_step X34.here [X34.here.top, hx, (hb hby d18_33), X34.method', Bd.returns, Value.isRef, FieldType.isReference]
    first | (intro acts; rw [hr _ acts rfl rfl rfl]) | rw [hr _ _ rfl rfl rfl]
    exact Steps.refl _
  · show Q18 Z o0 F h0 n0 _ T34.heap _
    exact ⟨b_1, rfl, N34, K38, g_b_1, sz_b_1, (by rw [f18_r_a]; exact G34_0)⟩
theorem d5_0 : decode jdk_52_method_21_code 0 = .ok (.iconst 0, 1) := by decide +kernel
theorem d5_1 : decode jdk_52_method_21_code 1 = .ok (.istore 5, 2) := by decide +kernel
theorem d5_3 : decode jdk_52_method_21_code 3 = .ok (.iload 5, 2) := by decide +kernel
theorem d5_5 : decode jdk_52_method_21_code 5 = .ok (.iload 4, 2) := by decide +kernel
theorem d5_7 : decode jdk_52_method_21_code 7 = .ok (.if_icmp .ge 37, 3) := by decide +kernel
theorem d5_10 : decode jdk_52_method_21_code 10 = .ok (.aload_n 0, 1) := by decide +kernel
theorem d5_11 : decode jdk_52_method_21_code 11 = .ok (.iload_n 1, 1) := by decide +kernel
theorem d5_12 : decode jdk_52_method_21_code 12 = .ok (.caload, 1) := by decide +kernel
theorem d5_13 : decode jdk_52_method_21_code 13 = .ok (.istore 6, 2) := by decide +kernel
theorem d5_15 : decode jdk_52_method_21_code 15 = .ok (.iload 6, 2) := by decide +kernel
theorem d5_17 : decode jdk_52_method_21_code 17 = .ok (.sipush 255, 3) := by decide +kernel
theorem d5_20 : decode jdk_52_method_21_code 20 = .ok (.if_icmp .le 6, 3) := by decide +kernel
theorem d5_26 : decode jdk_52_method_21_code 26 = .ok (.aload_n 2, 1) := by decide +kernel
theorem d5_27 : decode jdk_52_method_21_code 27 = .ok (.iload_n 3, 1) := by decide +kernel
theorem d5_28 : decode jdk_52_method_21_code 28 = .ok (.iload 6, 2) := by decide +kernel
theorem d5_30 : decode jdk_52_method_21_code 30 = .ok (.i2b, 1) := by decide +kernel
theorem d5_31 : decode jdk_52_method_21_code 31 = .ok (.bastore, 1) := by decide +kernel
theorem d5_32 : decode jdk_52_method_21_code 32 = .ok (.iinc 1 1, 3) := by decide +kernel
theorem d5_35 : decode jdk_52_method_21_code 35 = .ok (.iinc 3 1, 3) := by decide +kernel
theorem d5_38 : decode jdk_52_method_21_code 38 = .ok (.iinc 5 1, 3) := by decide +kernel
theorem d5_41 : decode jdk_52_method_21_code 41 = .ok (.goto (-38), 3) := by decide +kernel
theorem d5_44 : decode jdk_52_method_21_code 44 = .ok (.iload 4, 2) := by decide +kernel
theorem d5_46 : decode jdk_52_method_21_code 46 = .ok (.ireturn, 1) := by decide +kernel
theorem pn_5l : plainName "java/lang/StringUTF16" = true := by first | (simp [plainName, overriddenIn]; done) | decide +kernel
theorem ef_5l (m : MethodId) (x0 : Addr) (x1 : Int32) (x2 : Addr) (x3 : Int32) (x4 : Int32) : entryFrame m #[(.ref x0), (.int x1), (.ref x2), (.int x3), (.int x4)] 7 = mkF m 0 #[.val (.ref x0), .val (.int x1), .val (.ref x2), .val (.int x3), .val (.int x4), .unset, .unset] [] := by first | (simp [entryFrame, mkF, argsToLocals, Value.category]; done) | rfl
def f5l_o2_a (F : Nat → Int32) (G : Nat → Int32) : Nat → Int32 :=
  (own_upd (own_upd (own_upd (own_upd G 0 (nar .byte ((F 0).toInt8.toInt32))) 1 (nar .byte ((F 1).toInt8.toInt32))) 2 (nar .byte ((F 2).toInt8.toInt32))) 3 (nar .byte ((F 3).toInt8.toInt32)))
def Q5l (Z : State) (o0 : Addr) (o2 : Addr) (F : Nat → Int32) (G : Nat → Int32) (h0 : Heap) (n0 : Nat) (v : Option Value) (h : Heap) (L : List Loc) : Prop := v = some (.int (4 : Int32)) ∧ Fr n0 L ∧ Keep h0 h [o2] ∧ own_AI Z h o2 .byte (4 : Int32) (f5l_o2_a F G)
set_option maxRecDepth 65536 in
set_option maxHeartbeats 40000000 in
theorem rm5l (l : Launch) (Z : State) (a0 : Array Value) (hw : ∀ d ∈ tables_1, d.before a0 Z = true) (ws : List Jvm.Cond) (o0 : Addr) (o2 : Addr) (F : Nat → Int32) (G : Nat → Int32) (h0 : Heap) (n0 : Nat) (Z0 : n0 ≤ h0.size) (V_o0 : own_AI Z h0 o0 .char (4 : Int32) F) (V_o2 : own_AI Z h0 o2 .byte (4 : Int32) G) (ne_o0_o2 : o0 ≠ o2) (g_o2 : n0 ≤ o2) (hA : (¬ (255 : Int32) < F 0 ∧ ¬ (255 : Int32) < F 1 ∧ ¬ (255 : Int32) < F 2 ∧ ¬ (255 : Int32) < F 3)) :
    MetFree l (⟨"java/lang/StringUTF16", "compress", "([CI[BII)I"⟩ : MethodName) (head1 (Jvm.Cond.code (⟨"java/lang/StringUTF16", "compress", "([CI[BII)I"⟩ : MethodName) jdk_52_method_21_code 7 (some .int) :: ws) ({ frames := 0, cells := 0, slots := 0, locals := 0 } : Room)) (fun a U => a = #[(.ref o0), (.int (0 : Int32)), (.ref o2), (.int (0 : Int32)), (.int (4 : Int32))] ∧ Z.Warmed39 U.vm ∧ U.heap = h0) (fun _ _ _ _ _ => True) (fun _ U o U' => ∃ v L, o = .returned v ∧ Q5l Z o0 o2 F G h0 n0 v U'.heap L ∧ FrameEnd U o U' L ({ frames := 0, cells := 0, slots := 0, locals := 0 } : Room).cells ({ frames := 0, cells := 0, slots := 0, locals := 0 } : Room).slots) := by
  refine MetFree.of_bodySF (plainFor_of_name pn_5l) hisR ?_
  intro p e s m args below meth c s₁ Bd hml0 hP hK
  obtain ⟨rfl, hZ, hh⟩ := hP
  have hx := Bd.exec
  have hby := Bd.bytes
  have hml : c.maxLocals = 7 := hml0
  have hown : s.vm.findClass "java/lang/StringUTF16" = some m.cls := findClass_of_methodNamed Bd.named
  have hnm := (name_of_methodNamed Bd.named Bd.method).1
  have X0 : Stand p l e ({ frames := 0, cells := 0, slots := 0, locals := 0 } : Room) s m #[(.ref o0), (.int (0 : Int32)), (.ref o2), (.int (0 : Int32)), (.int (4 : Int32))] below meth c s₁ [] 0 0 := Stand.of_body Bd
  have e0 : s₁.heap = h0 := by rw [← hh, Bd.state]; rfl
  have N0 := Fr.nil n0
  have pre0 : ∀ t, Steps p.tables e below (s₁.setTop (mkF m 0 #[.val (.ref o0), .val (.int (0 : Int32)), .val (.ref o2), .val (.int (0 : Int32)), .val (.int (4 : Int32)), .unset, .unset] [])) t → Steps p.tables e below (s₁.setTop (entryFrame m #[(.ref o0), (.int (0 : Int32)), (.ref o2), (.int (0 : Int32)), (.int (4 : Int32))] 7)) t := fun t k => castTop (ef_5l m o0 (0 : Int32) o2 (0 : Int32) (4 : Int32)) k
  have pre1 : ∀ t, Steps p.tables e below (s₁.setTop (mkF m 7 #[.val (.ref o0), .val (.int (0 : Int32)), .val (.ref o2), .val (.int (0 : Int32)), .val (.int (4 : Int32)), .val (.int (0 : Int32)), .unset] [(.int (4 : Int32)), (.int (0 : Int32))])) t → Steps p.tables e below (s₁.setTop (entryFrame m #[(.ref o0), (.int (0 : Int32)), (.ref o2), (.int (0 : Int32)), (.int (4 : Int32))] 7)) t := fun t kt => pre0 t (by
      show Steps p.tables e below (s₁.setTop (mkF m 0 #[.val (.ref o0), .val (.int (0 : Int32)), .val (.ref o2), .val (.int (0 : Int32)), .val (.int (4 : Int32)), .unset, .unset] [])) _
      refine XS.iconst X0.here hx rfl (hb hby d5_0) ?_
      show Steps p.tables e below (s₁.setTop (mkF m 1 #[.val (.ref o0), .val (.int (0 : Int32)), .val (.ref o2), .val (.int (0 : Int32)), .val (.int (4 : Int32)), .unset, .unset] [(.int (0 : Int32))])) _
      refine XS.istore X0.here hx rfl (hb hby d5_1) rfl (l' := #[.val (.ref o0), .val (.int (0 : Int32)), .val (.ref o2), .val (.int (0 : Int32)), .val (.int (4 : Int32)), .val (.int (0 : Int32)), .unset]) rfl ?_
      show Steps p.tables e below (s₁.setTop (mkF m 3 #[.val (.ref o0), .val (.int (0 : Int32)), .val (.ref o2), .val (.int (0 : Int32)), .val (.int (4 : Int32)), .val (.int (0 : Int32)), .unset] [])) _
      refine XS.iload X0.here hx rfl (hb hby d5_3) rfl ?_
      show Steps p.tables e below (s₁.setTop (mkF m 5 #[.val (.ref o0), .val (.int (0 : Int32)), .val (.ref o2), .val (.int (0 : Int32)), .val (.int (4 : Int32)), .val (.int (0 : Int32)), .unset] [(.int (0 : Int32))])) _
      refine XS.iload X0.here hx rfl (hb hby d5_5) rfl ?_
      exact kt)
  obtain ⟨cl2, Ar2, Sz2, Nn2, Hs2⟩ := id V_o0
  have hin2 : ¬ ((0 : Int32) < 0 ∨ cl2.slots.size ≤ ((0 : Int32)).toNatClampNeg) := inb_of Sz2 ⟨by decide, by decide⟩
  have hat2 : cl2.slots[((0 : Int32)).toNatClampNeg]? = some (.int (F 0)) := (Hs2 _ (own_lt hin2)).1
  have pre3 : ∀ t, Steps p.tables e below (s₁.setTop (mkF m 20 #[.val (.ref o0), .val (.int (0 : Int32)), .val (.ref o2), .val (.int (0 : Int32)), .val (.int (4 : Int32)), .val (.int (0 : Int32)), .val (.int (F 0))] [(.int (255 : Int32)), (.int (F 0))])) t → Steps p.tables e below (s₁.setTop (entryFrame m #[(.ref o0), (.int (0 : Int32)), (.ref o2), (.int (0 : Int32)), (.int (4 : Int32))] 7)) t := fun t kt => pre1 t (by
      show Steps p.tables e below (s₁.setTop (mkF m 7 #[.val (.ref o0), .val (.int (0 : Int32)), .val (.ref o2), .val (.int (0 : Int32)), .val (.int (4 : Int32)), .val (.int (0 : Int32)), .unset] [(.int (4 : Int32)), (.int (0 : Int32))])) _
      refine XS.icmpNo X0.here hx rfl (hb hby d5_7) rfl (tlt (by decide : ((0 : Int32) < (4 : Int32)))).2.1 ?_
      show Steps p.tables e below (s₁.setTop (mkF m 10 #[.val (.ref o0), .val (.int (0 : Int32)), .val (.ref o2), .val (.int (0 : Int32)), .val (.int (4 : Int32)), .val (.int (0 : Int32)), .unset] [])) _
      refine XS.aloadN X0.here hx rfl (hb hby d5_10) rfl rfl ?_
      show Steps p.tables e below (s₁.setTop (mkF m 11 #[.val (.ref o0), .val (.int (0 : Int32)), .val (.ref o2), .val (.int (0 : Int32)), .val (.int (4 : Int32)), .val (.int (0 : Int32)), .unset] [(.ref o0)])) _
      refine XS.iloadN X0.here hx rfl (hb hby d5_11) rfl ?_
      show Steps p.tables e below (s₁.setTop (mkF m 12 #[.val (.ref o0), .val (.int (0 : Int32)), .val (.ref o2), .val (.int (0 : Int32)), .val (.int (4 : Int32)), .val (.int (0 : Int32)), .unset] [(.int (0 : Int32)), (.ref o0)])) _
      refine X0.caload hx (j := (0 : Int32)) (v := (.int (F 0))) (by rw [e0]; exact Ar2.1) (State.isArrayOf_alike hZ.alike Ar2.2.1) Ar2.2.2 hin2 hat2 (g := (mkF m 12 #[.val (.ref o0), .val (.int (0 : Int32)), .val (.ref o2), .val (.int (0 : Int32)), .val (.int (4 : Int32)), .val (.int (0 : Int32)), .unset] [(.int (0 : Int32)), (.ref o0)])) rfl rfl (hb hby d5_12) _ ?_
      show Steps p.tables e below (s₁.setTop (mkF m 13 #[.val (.ref o0), .val (.int (0 : Int32)), .val (.ref o2), .val (.int (0 : Int32)), .val (.int (4 : Int32)), .val (.int (0 : Int32)), .unset] [(.int (F 0))])) _
      refine XS.istore X0.here hx rfl (hb hby d5_13) rfl (l' := #[.val (.ref o0), .val (.int (0 : Int32)), .val (.ref o2), .val (.int (0 : Int32)), .val (.int (4 : Int32)), .val (.int (0 : Int32)), .val (.int (F 0))]) rfl ?_
      show Steps p.tables e below (s₁.setTop (mkF m 15 #[.val (.ref o0), .val (.int (0 : Int32)), .val (.ref o2), .val (.int (0 : Int32)), .val (.int (4 : Int32)), .val (.int (0 : Int32)), .val (.int (F 0))] [])) _
      refine XS.iload X0.here hx rfl (hb hby d5_15) rfl ?_
      show Steps p.tables e below (s₁.setTop (mkF m 17 #[.val (.ref o0), .val (.int (0 : Int32)), .val (.ref o2), .val (.int (0 : Int32)), .val (.int (4 : Int32)), .val (.int (0 : Int32)), .val (.int (F 0))] [(.int (F 0))])) _
      refine XS.sipush X0.here hx rfl (hb hby d5_17) ?_
      exact kt)
  have hd20_4 : ¬ ((255 : Int32) < (F 0)) := hA.1
  obtain ⟨cl5, Ar5, Sz5, Nn5, Hs5⟩ := id V_o2
  have hin5 : ¬ ((0 : Int32) < 0 ∨ cl5.slots.size ≤ ((0 : Int32)).toNatClampNeg) := inb_of Sz5 ⟨by decide, by decide⟩
  obtain ⟨T6, h6, X6, e6, W6, st6⟩ := stB X0 hx hZ e0 Ar5 (j := (0 : Int32)) hin5 (g := (mkF m 31 #[.val (.ref o0), .val (.int (0 : Int32)), .val (.ref o2), .val (.int (0 : Int32)), .val (.int (4 : Int32)), .val (.int (0 : Int32)), .val (.int (F 0))] [(.int ((F 0).toInt8.toInt32)), (.int (0 : Int32)), (.ref o2)])) rfl rfl (hb hby d5_31)
  have V6 : own_AI Z h6 o2 .byte (4 : Int32) (own_upd G 0 (nar .byte ((F 0).toInt8.toInt32))) := own_AI.set V_o2 (fits_nar_byte ((F 0).toInt8.toInt32)) W6
  have K7 : Keep h0 h6 [o2] := (Keep.refl h0 [o2]).wr W6 (Or.inl (List.mem_of_getElem? (i := 0) rfl))
  have Z8 : n0 ≤ h6.size := Nat.le_trans Z0 K7.1
  have N6 := Fr.snoc X6 N0 g_o2
  obtain ⟨LS6, X6, N6⟩ : ∃ L, Stand p l e ({ frames := 0, cells := 0, slots := 0, locals := 0 } : Room) s m #[(.ref o0), (.int (0 : Int32)), (.ref o2), (.int (0 : Int32)), (.int (4 : Int32))] below meth c T6 L 0 0 ∧ Fr n0 L := ⟨_, X6, N6⟩
  have pre9 : ∀ t, Steps p.tables e below (T6.setTop (mkF m 7 #[.val (.ref o0), .val (.int (1 : Int32)), .val (.ref o2), .val (.int (1 : Int32)), .val (.int (4 : Int32)), .val (.int (1 : Int32)), .val (.int (F 0))] [(.int (4 : Int32)), (.int (1 : Int32))])) t → Steps p.tables e below (s₁.setTop (entryFrame m #[(.ref o0), (.int (0 : Int32)), (.ref o2), (.int (0 : Int32)), (.int (4 : Int32))] 7)) t := fun t kt => pre3 t (by
      show Steps p.tables e below (s₁.setTop (mkF m 20 #[.val (.ref o0), .val (.int (0 : Int32)), .val (.ref o2), .val (.int (0 : Int32)), .val (.int (4 : Int32)), .val (.int (0 : Int32)), .val (.int (F 0))] [(.int (255 : Int32)), (.int (F 0))])) _
      refine XS.icmpYes X0.here hx rfl (pc0 := 20) (pc' := 26) rfl (hb hby d5_20) rfl (flt hd20_4).2.2.2 (by decide) (by decide) ?_
      show Steps p.tables e below (s₁.setTop (mkF m 26 #[.val (.ref o0), .val (.int (0 : Int32)), .val (.ref o2), .val (.int (0 : Int32)), .val (.int (4 : Int32)), .val (.int (0 : Int32)), .val (.int (F 0))] [])) _
      refine XS.aloadN X0.here hx rfl (hb hby d5_26) rfl rfl ?_
      show Steps p.tables e below (s₁.setTop (mkF m 27 #[.val (.ref o0), .val (.int (0 : Int32)), .val (.ref o2), .val (.int (0 : Int32)), .val (.int (4 : Int32)), .val (.int (0 : Int32)), .val (.int (F 0))] [(.ref o2)])) _
      refine XS.iloadN X0.here hx rfl (hb hby d5_27) rfl ?_
      show Steps p.tables e below (s₁.setTop (mkF m 28 #[.val (.ref o0), .val (.int (0 : Int32)), .val (.ref o2), .val (.int (0 : Int32)), .val (.int (4 : Int32)), .val (.int (0 : Int32)), .val (.int (F 0))] [(.int (0 : Int32)), (.ref o2)])) _
      refine XS.iload X0.here hx rfl (hb hby d5_28) rfl ?_
      show Steps p.tables e below (s₁.setTop (mkF m 30 #[.val (.ref o0), .val (.int (0 : Int32)), .val (.ref o2), .val (.int (0 : Int32)), .val (.int (4 : Int32)), .val (.int (0 : Int32)), .val (.int (F 0))] [(.int (F 0)), (.int (0 : Int32)), (.ref o2)])) _
      refine XS.i2b X0.here hx rfl (hb hby d5_30) rfl ?_
      show Steps p.tables e below (s₁.setTop (mkF m 31 #[.val (.ref o0), .val (.int (0 : Int32)), .val (.ref o2), .val (.int (0 : Int32)), .val (.int (4 : Int32)), .val (.int (0 : Int32)), .val (.int (F 0))] [(.int ((F 0).toInt8.toInt32)), (.int (0 : Int32)), (.ref o2)])) _
      refine st6 _ ?_
      show Steps p.tables e below (T6.setTop (mkF m 32 #[.val (.ref o0), .val (.int (0 : Int32)), .val (.ref o2), .val (.int (0 : Int32)), .val (.int (4 : Int32)), .val (.int (0 : Int32)), .val (.int (F 0))] [])) _
      refine XS.iinc X6.here hx rfl (hb hby d5_32) rfl (l' := #[.val (.ref o0), .val (.int (1 : Int32)), .val (.ref o2), .val (.int (0 : Int32)), .val (.int (4 : Int32)), .val (.int (0 : Int32)), .val (.int (F 0))]) rfl ?_
      show Steps p.tables e below (T6.setTop (mkF m 35 #[.val (.ref o0), .val (.int (1 : Int32)), .val (.ref o2), .val (.int (0 : Int32)), .val (.int (4 : Int32)), .val (.int (0 : Int32)), .val (.int (F 0))] [])) _
      refine XS.iinc X6.here hx rfl (hb hby d5_35) rfl (l' := #[.val (.ref o0), .val (.int (1 : Int32)), .val (.ref o2), .val (.int (1 : Int32)), .val (.int (4 : Int32)), .val (.int (0 : Int32)), .val (.int (F 0))]) rfl ?_
      show Steps p.tables e below (T6.setTop (mkF m 38 #[.val (.ref o0), .val (.int (1 : Int32)), .val (.ref o2), .val (.int (1 : Int32)), .val (.int (4 : Int32)), .val (.int (0 : Int32)), .val (.int (F 0))] [])) _
      refine XS.iinc X6.here hx rfl (hb hby d5_38) rfl (l' := #[.val (.ref o0), .val (.int (1 : Int32)), .val (.ref o2), .val (.int (1 : Int32)), .val (.int (4 : Int32)), .val (.int (1 : Int32)), .val (.int (F 0))]) rfl ?_
      show Steps p.tables e below (T6.setTop (mkF m 41 #[.val (.ref o0), .val (.int (1 : Int32)), .val (.ref o2), .val (.int (1 : Int32)), .val (.int (4 : Int32)), .val (.int (1 : Int32)), .val (.int (F 0))] [])) _
      refine XS.goto X6.here hx rfl (pc0 := 41) (pc' := 3) rfl (hb hby d5_41) (by decide) (by decide) ?_
      show Steps p.tables e below (T6.setTop (mkF m 3 #[.val (.ref o0), .val (.int (1 : Int32)), .val (.ref o2), .val (.int (1 : Int32)), .val (.int (4 : Int32)), .val (.int (1 : Int32)), .val (.int (F 0))] [])) _
      refine XS.iload X6.here hx rfl (hb hby d5_3) rfl ?_
      show Steps p.tables e below (T6.setTop (mkF m 5 #[.val (.ref o0), .val (.int (1 : Int32)), .val (.ref o2), .val (.int (1 : Int32)), .val (.int (4 : Int32)), .val (.int (1 : Int32)), .val (.int (F 0))] [(.int (1 : Int32))])) _
      refine XS.iload X6.here hx rfl (hb hby d5_5) rfl ?_
      exact kt)
  obtain ⟨cl10, Ar10, Sz10, Nn10, Hs10⟩ := id (V_o0.other W6 ne_o0_o2)
  have hin10 : ¬ ((1 : Int32) < 0 ∨ cl10.slots.size ≤ ((1 : Int32)).toNatClampNeg) := inb_of Sz10 ⟨by decide, by decide⟩
  have hat10 : cl10.slots[((1 : Int32)).toNatClampNeg]? = some (.int (F 1)) := (Hs10 _ (own_lt hin10)).1
  have pre11 : ∀ t, Steps p.tables e below (T6.setTop (mkF m 20 #[.val (.ref o0), .val (.int (1 : Int32)), .val (.ref o2), .val (.int (1 : Int32)), .val (.int (4 : Int32)), .val (.int (1 : Int32)), .val (.int (F 1))] [(.int (255 : Int32)), (.int (F 1))])) t → Steps p.tables e below (s₁.setTop (entryFrame m #[(.ref o0), (.int (0 : Int32)), (.ref o2), (.int (0 : Int32)), (.int (4 : Int32))] 7)) t := fun t kt => pre9 t (by
      show Steps p.tables e below (T6.setTop (mkF m 7 #[.val (.ref o0), .val (.int (1 : Int32)), .val (.ref o2), .val (.int (1 : Int32)), .val (.int (4 : Int32)), .val (.int (1 : Int32)), .val (.int (F 0))] [(.int (4 : Int32)), (.int (1 : Int32))])) _
      refine XS.icmpNo X6.here hx rfl (hb hby d5_7) rfl (tlt (by decide : ((1 : Int32) < (4 : Int32)))).2.1 ?_
      show Steps p.tables e below (T6.setTop (mkF m 10 #[.val (.ref o0), .val (.int (1 : Int32)), .val (.ref o2), .val (.int (1 : Int32)), .val (.int (4 : Int32)), .val (.int (1 : Int32)), .val (.int (F 0))] [])) _
      refine XS.aloadN X6.here hx rfl (hb hby d5_10) rfl rfl ?_
      show Steps p.tables e below (T6.setTop (mkF m 11 #[.val (.ref o0), .val (.int (1 : Int32)), .val (.ref o2), .val (.int (1 : Int32)), .val (.int (4 : Int32)), .val (.int (1 : Int32)), .val (.int (F 0))] [(.ref o0)])) _
      refine XS.iloadN X6.here hx rfl (hb hby d5_11) rfl ?_
      show Steps p.tables e below (T6.setTop (mkF m 12 #[.val (.ref o0), .val (.int (1 : Int32)), .val (.ref o2), .val (.int (1 : Int32)), .val (.int (4 : Int32)), .val (.int (1 : Int32)), .val (.int (F 0))] [(.int (1 : Int32)), (.ref o0)])) _
      refine X6.caload hx (j := (1 : Int32)) (v := (.int (F 1))) (by rw [e6]; exact Ar10.1) (State.isArrayOf_alike hZ.alike Ar10.2.1) Ar10.2.2 hin10 hat10 (g := (mkF m 12 #[.val (.ref o0), .val (.int (1 : Int32)), .val (.ref o2), .val (.int (1 : Int32)), .val (.int (4 : Int32)), .val (.int (1 : Int32)), .val (.int (F 0))] [(.int (1 : Int32)), (.ref o0)])) rfl rfl (hb hby d5_12) _ ?_
      show Steps p.tables e below (T6.setTop (mkF m 13 #[.val (.ref o0), .val (.int (1 : Int32)), .val (.ref o2), .val (.int (1 : Int32)), .val (.int (4 : Int32)), .val (.int (1 : Int32)), .val (.int (F 0))] [(.int (F 1))])) _
      refine XS.istore X6.here hx rfl (hb hby d5_13) rfl (l' := #[.val (.ref o0), .val (.int (1 : Int32)), .val (.ref o2), .val (.int (1 : Int32)), .val (.int (4 : Int32)), .val (.int (1 : Int32)), .val (.int (F 1))]) rfl ?_
      show Steps p.tables e below (T6.setTop (mkF m 15 #[.val (.ref o0), .val (.int (1 : Int32)), .val (.ref o2), .val (.int (1 : Int32)), .val (.int (4 : Int32)), .val (.int (1 : Int32)), .val (.int (F 1))] [])) _
      refine XS.iload X6.here hx rfl (hb hby d5_15) rfl ?_
      show Steps p.tables e below (T6.setTop (mkF m 17 #[.val (.ref o0), .val (.int (1 : Int32)), .val (.ref o2), .val (.int (1 : Int32)), .val (.int (4 : Int32)), .val (.int (1 : Int32)), .val (.int (F 1))] [(.int (F 1))])) _
      refine XS.sipush X6.here hx rfl (hb hby d5_17) ?_
      exact kt)
  have hd20_12 : ¬ ((255 : Int32) < (F 1)) := hA.2.1
  obtain ⟨cl13, Ar13, Sz13, Nn13, Hs13⟩ := id V6
  have hin13 : ¬ ((1 : Int32) < 0 ∨ cl13.slots.size ≤ ((1 : Int32)).toNatClampNeg) := inb_of Sz13 ⟨by decide, by decide⟩
  obtain ⟨T14, h14, X14, e14, W14, st14⟩ := stB X6 hx hZ e6 Ar13 (j := (1 : Int32)) hin13 (g := (mkF m 31 #[.val (.ref o0), .val (.int (1 : Int32)), .val (.ref o2), .val (.int (1 : Int32)), .val (.int (4 : Int32)), .val (.int (1 : Int32)), .val (.int (F 1))] [(.int ((F 1).toInt8.toInt32)), (.int (1 : Int32)), (.ref o2)])) rfl rfl (hb hby d5_31)
  have V14 : own_AI Z h14 o2 .byte (4 : Int32) (own_upd (own_upd G 0 (nar .byte ((F 0).toInt8.toInt32))) 1 (nar .byte ((F 1).toInt8.toInt32))) := own_AI.set V6 (fits_nar_byte ((F 1).toInt8.toInt32)) W14
  have K15 : Keep h0 h14 [o2] := K7.wr W14 (Or.inl (List.mem_of_getElem? (i := 0) rfl))
  have Z16 : n0 ≤ h14.size := Nat.le_trans Z0 K15.1
  have N14 := Fr.snoc X14 N6 g_o2
  obtain ⟨LS14, X14, N14⟩ : ∃ L, Stand p l e ({ frames := 0, cells := 0, slots := 0, locals := 0 } : Room) s m #[(.ref o0), (.int (0 : Int32)), (.ref o2), (.int (0 : Int32)), (.int (4 : Int32))] below meth c T14 L 0 0 ∧ Fr n0 L := ⟨_, X14, N14⟩
  have pre17 : ∀ t, Steps p.tables e below (T14.setTop (mkF m 7 #[.val (.ref o0), .val (.int (2 : Int32)), .val (.ref o2), .val (.int (2 : Int32)), .val (.int (4 : Int32)), .val (.int (2 : Int32)), .val (.int (F 1))] [(.int (4 : Int32)), (.int (2 : Int32))])) t → Steps p.tables e below (s₁.setTop (entryFrame m #[(.ref o0), (.int (0 : Int32)), (.ref o2), (.int (0 : Int32)), (.int (4 : Int32))] 7)) t := fun t kt => pre11 t (by
      show Steps p.tables e below (T6.setTop (mkF m 20 #[.val (.ref o0), .val (.int (1 : Int32)), .val (.ref o2), .val (.int (1 : Int32)), .val (.int (4 : Int32)), .val (.int (1 : Int32)), .val (.int (F 1))] [(.int (255 : Int32)), (.int (F 1))])) _
      refine XS.icmpYes X6.here hx rfl (pc0 := 20) (pc' := 26) rfl (hb hby d5_20) rfl (flt hd20_12).2.2.2 (by decide) (by decide) ?_
      show Steps p.tables e below (T6.setTop (mkF m 26 #[.val (.ref o0), .val (.int (1 : Int32)), .val (.ref o2), .val (.int (1 : Int32)), .val (.int (4 : Int32)), .val (.int (1 : Int32)), .val (.int (F 1))] [])) _
      refine XS.aloadN X6.here hx rfl (hb hby d5_26) rfl rfl ?_
      show Steps p.tables e below (T6.setTop (mkF m 27 #[.val (.ref o0), .val (.int (1 : Int32)), .val (.ref o2), .val (.int (1 : Int32)), .val (.int (4 : Int32)), .val (.int (1 : Int32)), .val (.int (F 1))] [(.ref o2)])) _
      refine XS.iloadN X6.here hx rfl (hb hby d5_27) rfl ?_
      show Steps p.tables e below (T6.setTop (mkF m 28 #[.val (.ref o0), .val (.int (1 : Int32)), .val (.ref o2), .val (.int (1 : Int32)), .val (.int (4 : Int32)), .val (.int (1 : Int32)), .val (.int (F 1))] [(.int (1 : Int32)), (.ref o2)])) _
      refine XS.iload X6.here hx rfl (hb hby d5_28) rfl ?_
      show Steps p.tables e below (T6.setTop (mkF m 30 #[.val (.ref o0), .val (.int (1 : Int32)), .val (.ref o2), .val (.int (1 : Int32)), .val (.int (4 : Int32)), .val (.int (1 : Int32)), .val (.int (F 1))] [(.int (F 1)), (.int (1 : Int32)), (.ref o2)])) _
      refine XS.i2b X6.here hx rfl (hb hby d5_30) rfl ?_
      show Steps p.tables e below (T6.setTop (mkF m 31 #[.val (.ref o0), .val (.int (1 : Int32)), .val (.ref o2), .val (.int (1 : Int32)), .val (.int (4 : Int32)), .val (.int (1 : Int32)), .val (.int (F 1))] [(.int ((F 1).toInt8.toInt32)), (.int (1 : Int32)), (.ref o2)])) _
      refine st14 _ ?_
      show Steps p.tables e below (T14.setTop (mkF m 32 #[.val (.ref o0), .val (.int (1 : Int32)), .val (.ref o2), .val (.int (1 : Int32)), .val (.int (4 : Int32)), .val (.int (1 : Int32)), .val (.int (F 1))] [])) _
      refine XS.iinc X14.here hx rfl (hb hby d5_32) rfl (l' := #[.val (.ref o0), .val (.int (2 : Int32)), .val (.ref o2), .val (.int (1 : Int32)), .val (.int (4 : Int32)), .val (.int (1 : Int32)), .val (.int (F 1))]) rfl ?_
      show Steps p.tables e below (T14.setTop (mkF m 35 #[.val (.ref o0), .val (.int (2 : Int32)), .val (.ref o2), .val (.int (1 : Int32)), .val (.int (4 : Int32)), .val (.int (1 : Int32)), .val (.int (F 1))] [])) _
      refine XS.iinc X14.here hx rfl (hb hby d5_35) rfl (l' := #[.val (.ref o0), .val (.int (2 : Int32)), .val (.ref o2), .val (.int (2 : Int32)), .val (.int (4 : Int32)), .val (.int (1 : Int32)), .val (.int (F 1))]) rfl ?_
      show Steps p.tables e below (T14.setTop (mkF m 38 #[.val (.ref o0), .val (.int (2 : Int32)), .val (.ref o2), .val (.int (2 : Int32)), .val (.int (4 : Int32)), .val (.int (1 : Int32)), .val (.int (F 1))] [])) _
      refine XS.iinc X14.here hx rfl (hb hby d5_38) rfl (l' := #[.val (.ref o0), .val (.int (2 : Int32)), .val (.ref o2), .val (.int (2 : Int32)), .val (.int (4 : Int32)), .val (.int (2 : Int32)), .val (.int (F 1))]) rfl ?_
      show Steps p.tables e below (T14.setTop (mkF m 41 #[.val (.ref o0), .val (.int (2 : Int32)), .val (.ref o2), .val (.int (2 : Int32)), .val (.int (4 : Int32)), .val (.int (2 : Int32)), .val (.int (F 1))] [])) _
      refine XS.goto X14.here hx rfl (pc0 := 41) (pc' := 3) rfl (hb hby d5_41) (by decide) (by decide) ?_
      show Steps p.tables e below (T14.setTop (mkF m 3 #[.val (.ref o0), .val (.int (2 : Int32)), .val (.ref o2), .val (.int (2 : Int32)), .val (.int (4 : Int32)), .val (.int (2 : Int32)), .val (.int (F 1))] [])) _
      refine XS.iload X14.here hx rfl (hb hby d5_3) rfl ?_
      show Steps p.tables e below (T14.setTop (mkF m 5 #[.val (.ref o0), .val (.int (2 : Int32)), .val (.ref o2), .val (.int (2 : Int32)), .val (.int (4 : Int32)), .val (.int (2 : Int32)), .val (.int (F 1))] [(.int (2 : Int32))])) _
      refine XS.iload X14.here hx rfl (hb hby d5_5) rfl ?_
      exact kt)
  obtain ⟨cl18, Ar18, Sz18, Nn18, Hs18⟩ := id ((V_o0.other W6 ne_o0_o2).other W14 ne_o0_o2)
  have hin18 : ¬ ((2 : Int32) < 0 ∨ cl18.slots.size ≤ ((2 : Int32)).toNatClampNeg) := inb_of Sz18 ⟨by decide, by decide⟩
  have hat18 : cl18.slots[((2 : Int32)).toNatClampNeg]? = some (.int (F 2)) := (Hs18 _ (own_lt hin18)).1
  have pre19 : ∀ t, Steps p.tables e below (T14.setTop (mkF m 20 #[.val (.ref o0), .val (.int (2 : Int32)), .val (.ref o2), .val (.int (2 : Int32)), .val (.int (4 : Int32)), .val (.int (2 : Int32)), .val (.int (F 2))] [(.int (255 : Int32)), (.int (F 2))])) t → Steps p.tables e below (s₁.setTop (entryFrame m #[(.ref o0), (.int (0 : Int32)), (.ref o2), (.int (0 : Int32)), (.int (4 : Int32))] 7)) t := fun t kt => pre17 t (by
      show Steps p.tables e below (T14.setTop (mkF m 7 #[.val (.ref o0), .val (.int (2 : Int32)), .val (.ref o2), .val (.int (2 : Int32)), .val (.int (4 : Int32)), .val (.int (2 : Int32)), .val (.int (F 1))] [(.int (4 : Int32)), (.int (2 : Int32))])) _
      refine XS.icmpNo X14.here hx rfl (hb hby d5_7) rfl (tlt (by decide : ((2 : Int32) < (4 : Int32)))).2.1 ?_
      show Steps p.tables e below (T14.setTop (mkF m 10 #[.val (.ref o0), .val (.int (2 : Int32)), .val (.ref o2), .val (.int (2 : Int32)), .val (.int (4 : Int32)), .val (.int (2 : Int32)), .val (.int (F 1))] [])) _
      refine XS.aloadN X14.here hx rfl (hb hby d5_10) rfl rfl ?_
      show Steps p.tables e below (T14.setTop (mkF m 11 #[.val (.ref o0), .val (.int (2 : Int32)), .val (.ref o2), .val (.int (2 : Int32)), .val (.int (4 : Int32)), .val (.int (2 : Int32)), .val (.int (F 1))] [(.ref o0)])) _
      refine XS.iloadN X14.here hx rfl (hb hby d5_11) rfl ?_
      show Steps p.tables e below (T14.setTop (mkF m 12 #[.val (.ref o0), .val (.int (2 : Int32)), .val (.ref o2), .val (.int (2 : Int32)), .val (.int (4 : Int32)), .val (.int (2 : Int32)), .val (.int (F 1))] [(.int (2 : Int32)), (.ref o0)])) _
      refine X14.caload hx (j := (2 : Int32)) (v := (.int (F 2))) (by rw [e14]; exact Ar18.1) (State.isArrayOf_alike hZ.alike Ar18.2.1) Ar18.2.2 hin18 hat18 (g := (mkF m 12 #[.val (.ref o0), .val (.int (2 : Int32)), .val (.ref o2), .val (.int (2 : Int32)), .val (.int (4 : Int32)), .val (.int (2 : Int32)), .val (.int (F 1))] [(.int (2 : Int32)), (.ref o0)])) rfl rfl (hb hby d5_12) _ ?_
      show Steps p.tables e below (T14.setTop (mkF m 13 #[.val (.ref o0), .val (.int (2 : Int32)), .val (.ref o2), .val (.int (2 : Int32)), .val (.int (4 : Int32)), .val (.int (2 : Int32)), .val (.int (F 1))] [(.int (F 2))])) _
      refine XS.istore X14.here hx rfl (hb hby d5_13) rfl (l' := #[.val (.ref o0), .val (.int (2 : Int32)), .val (.ref o2), .val (.int (2 : Int32)), .val (.int (4 : Int32)), .val (.int (2 : Int32)), .val (.int (F 2))]) rfl ?_
      show Steps p.tables e below (T14.setTop (mkF m 15 #[.val (.ref o0), .val (.int (2 : Int32)), .val (.ref o2), .val (.int (2 : Int32)), .val (.int (4 : Int32)), .val (.int (2 : Int32)), .val (.int (F 2))] [])) _
      refine XS.iload X14.here hx rfl (hb hby d5_15) rfl ?_
      show Steps p.tables e below (T14.setTop (mkF m 17 #[.val (.ref o0), .val (.int (2 : Int32)), .val (.ref o2), .val (.int (2 : Int32)), .val (.int (4 : Int32)), .val (.int (2 : Int32)), .val (.int (F 2))] [(.int (F 2))])) _
      refine XS.sipush X14.here hx rfl (hb hby d5_17) ?_
      exact kt)
  have hd20_20 : ¬ ((255 : Int32) < (F 2)) := hA.2.2.1
  obtain ⟨cl21, Ar21, Sz21, Nn21, Hs21⟩ := id V14
  have hin21 : ¬ ((2 : Int32) < 0 ∨ cl21.slots.size ≤ ((2 : Int32)).toNatClampNeg) := inb_of Sz21 ⟨by decide, by decide⟩
  obtain ⟨T22, h22, X22, e22, W22, st22⟩ := stB X14 hx hZ e14 Ar21 (j := (2 : Int32)) hin21 (g := (mkF m 31 #[.val (.ref o0), .val (.int (2 : Int32)), .val (.ref o2), .val (.int (2 : Int32)), .val (.int (4 : Int32)), .val (.int (2 : Int32)), .val (.int (F 2))] [(.int ((F 2).toInt8.toInt32)), (.int (2 : Int32)), (.ref o2)])) rfl rfl (hb hby d5_31)
  have V22 : own_AI Z h22 o2 .byte (4 : Int32) (own_upd (own_upd (own_upd G 0 (nar .byte ((F 0).toInt8.toInt32))) 1 (nar .byte ((F 1).toInt8.toInt32))) 2 (nar .byte ((F 2).toInt8.toInt32))) := own_AI.set V14 (fits_nar_byte ((F 2).toInt8.toInt32)) W22
  have K23 : Keep h0 h22 [o2] := K15.wr W22 (Or.inl (List.mem_of_getElem? (i := 0) rfl))
  have Z24 : n0 ≤ h22.size := Nat.le_trans Z0 K23.1
  have N22 := Fr.snoc X22 N14 g_o2
  obtain ⟨LS22, X22, N22⟩ : ∃ L, Stand p l e ({ frames := 0, cells := 0, slots := 0, locals := 0 } : Room) s m #[(.ref o0), (.int (0 : Int32)), (.ref o2), (.int (0 : Int32)), (.int (4 : Int32))] below meth c T22 L 0 0 ∧ Fr n0 L := ⟨_, X22, N22⟩
  have pre25 : ∀ t, Steps p.tables e below (T22.setTop (mkF m 7 #[.val (.ref o0), .val (.int (3 : Int32)), .val (.ref o2), .val (.int (3 : Int32)), .val (.int (4 : Int32)), .val (.int (3 : Int32)), .val (.int (F 2))] [(.int (4 : Int32)), (.int (3 : Int32))])) t → Steps p.tables e below (s₁.setTop (entryFrame m #[(.ref o0), (.int (0 : Int32)), (.ref o2), (.int (0 : Int32)), (.int (4 : Int32))] 7)) t := fun t kt => pre19 t (by
      show Steps p.tables e below (T14.setTop (mkF m 20 #[.val (.ref o0), .val (.int (2 : Int32)), .val (.ref o2), .val (.int (2 : Int32)), .val (.int (4 : Int32)), .val (.int (2 : Int32)), .val (.int (F 2))] [(.int (255 : Int32)), (.int (F 2))])) _
      refine XS.icmpYes X14.here hx rfl (pc0 := 20) (pc' := 26) rfl (hb hby d5_20) rfl (flt hd20_20).2.2.2 (by decide) (by decide) ?_
      show Steps p.tables e below (T14.setTop (mkF m 26 #[.val (.ref o0), .val (.int (2 : Int32)), .val (.ref o2), .val (.int (2 : Int32)), .val (.int (4 : Int32)), .val (.int (2 : Int32)), .val (.int (F 2))] [])) _
      refine XS.aloadN X14.here hx rfl (hb hby d5_26) rfl rfl ?_
      show Steps p.tables e below (T14.setTop (mkF m 27 #[.val (.ref o0), .val (.int (2 : Int32)), .val (.ref o2), .val (.int (2 : Int32)), .val (.int (4 : Int32)), .val (.int (2 : Int32)), .val (.int (F 2))] [(.ref o2)])) _
      refine XS.iloadN X14.here hx rfl (hb hby d5_27) rfl ?_
      show Steps p.tables e below (T14.setTop (mkF m 28 #[.val (.ref o0), .val (.int (2 : Int32)), .val (.ref o2), .val (.int (2 : Int32)), .val (.int (4 : Int32)), .val (.int (2 : Int32)), .val (.int (F 2))] [(.int (2 : Int32)), (.ref o2)])) _
      refine XS.iload X14.here hx rfl (hb hby d5_28) rfl ?_
      show Steps p.tables e below (T14.setTop (mkF m 30 #[.val (.ref o0), .val (.int (2 : Int32)), .val (.ref o2), .val (.int (2 : Int32)), .val (.int (4 : Int32)), .val (.int (2 : Int32)), .val (.int (F 2))] [(.int (F 2)), (.int (2 : Int32)), (.ref o2)])) _
      refine XS.i2b X14.here hx rfl (hb hby d5_30) rfl ?_
      show Steps p.tables e below (T14.setTop (mkF m 31 #[.val (.ref o0), .val (.int (2 : Int32)), .val (.ref o2), .val (.int (2 : Int32)), .val (.int (4 : Int32)), .val (.int (2 : Int32)), .val (.int (F 2))] [(.int ((F 2).toInt8.toInt32)), (.int (2 : Int32)), (.ref o2)])) _
      refine st22 _ ?_
      show Steps p.tables e below (T22.setTop (mkF m 32 #[.val (.ref o0), .val (.int (2 : Int32)), .val (.ref o2), .val (.int (2 : Int32)), .val (.int (4 : Int32)), .val (.int (2 : Int32)), .val (.int (F 2))] [])) _
      refine XS.iinc X22.here hx rfl (hb hby d5_32) rfl (l' := #[.val (.ref o0), .val (.int (3 : Int32)), .val (.ref o2), .val (.int (2 : Int32)), .val (.int (4 : Int32)), .val (.int (2 : Int32)), .val (.int (F 2))]) rfl ?_
      show Steps p.tables e below (T22.setTop (mkF m 35 #[.val (.ref o0), .val (.int (3 : Int32)), .val (.ref o2), .val (.int (2 : Int32)), .val (.int (4 : Int32)), .val (.int (2 : Int32)), .val (.int (F 2))] [])) _
      refine XS.iinc X22.here hx rfl (hb hby d5_35) rfl (l' := #[.val (.ref o0), .val (.int (3 : Int32)), .val (.ref o2), .val (.int (3 : Int32)), .val (.int (4 : Int32)), .val (.int (2 : Int32)), .val (.int (F 2))]) rfl ?_
      show Steps p.tables e below (T22.setTop (mkF m 38 #[.val (.ref o0), .val (.int (3 : Int32)), .val (.ref o2), .val (.int (3 : Int32)), .val (.int (4 : Int32)), .val (.int (2 : Int32)), .val (.int (F 2))] [])) _
      refine XS.iinc X22.here hx rfl (hb hby d5_38) rfl (l' := #[.val (.ref o0), .val (.int (3 : Int32)), .val (.ref o2), .val (.int (3 : Int32)), .val (.int (4 : Int32)), .val (.int (3 : Int32)), .val (.int (F 2))]) rfl ?_
      show Steps p.tables e below (T22.setTop (mkF m 41 #[.val (.ref o0), .val (.int (3 : Int32)), .val (.ref o2), .val (.int (3 : Int32)), .val (.int (4 : Int32)), .val (.int (3 : Int32)), .val (.int (F 2))] [])) _
      refine XS.goto X22.here hx rfl (pc0 := 41) (pc' := 3) rfl (hb hby d5_41) (by decide) (by decide) ?_
      show Steps p.tables e below (T22.setTop (mkF m 3 #[.val (.ref o0), .val (.int (3 : Int32)), .val (.ref o2), .val (.int (3 : Int32)), .val (.int (4 : Int32)), .val (.int (3 : Int32)), .val (.int (F 2))] [])) _
      refine XS.iload X22.here hx rfl (hb hby d5_3) rfl ?_
      show Steps p.tables e below (T22.setTop (mkF m 5 #[.val (.ref o0), .val (.int (3 : Int32)), .val (.ref o2), .val (.int (3 : Int32)), .val (.int (4 : Int32)), .val (.int (3 : Int32)), .val (.int (F 2))] [(.int (3 : Int32))])) _
      refine XS.iload X22.here hx rfl (hb hby d5_5) rfl ?_
      exact kt)
  have c27 := (((V_o0.other W6 ne_o0_o2).other W14 ne_o0_o2).other W22 ne_o0_o2)
  obtain ⟨cl26, Ar26, Sz26, Nn26, Hs26⟩ := id c27
  have hin26 : ¬ ((3 : Int32) < 0 ∨ cl26.slots.size ≤ ((3 : Int32)).toNatClampNeg) := inb_of Sz26 ⟨by decide, by decide⟩
  have hat26 : cl26.slots[((3 : Int32)).toNatClampNeg]? = some (.int (F 3)) := (Hs26 _ (own_lt hin26)).1
  have pre28 : ∀ t, Steps p.tables e below (T22.setTop (mkF m 20 #[.val (.ref o0), .val (.int (3 : Int32)), .val (.ref o2), .val (.int (3 : Int32)), .val (.int (4 : Int32)), .val (.int (3 : Int32)), .val (.int (F 3))] [(.int (255 : Int32)), (.int (F 3))])) t → Steps p.tables e below (s₁.setTop (entryFrame m #[(.ref o0), (.int (0 : Int32)), (.ref o2), (.int (0 : Int32)), (.int (4 : Int32))] 7)) t := fun t kt => pre25 t (by
      show Steps p.tables e below (T22.setTop (mkF m 7 #[.val (.ref o0), .val (.int (3 : Int32)), .val (.ref o2), .val (.int (3 : Int32)), .val (.int (4 : Int32)), .val (.int (3 : Int32)), .val (.int (F 2))] [(.int (4 : Int32)), (.int (3 : Int32))])) _
      refine XS.icmpNo X22.here hx rfl (hb hby d5_7) rfl (tlt (by decide : ((3 : Int32) < (4 : Int32)))).2.1 ?_
      show Steps p.tables e below (T22.setTop (mkF m 10 #[.val (.ref o0), .val (.int (3 : Int32)), .val (.ref o2), .val (.int (3 : Int32)), .val (.int (4 : Int32)), .val (.int (3 : Int32)), .val (.int (F 2))] [])) _
      refine XS.aloadN X22.here hx rfl (hb hby d5_10) rfl rfl ?_
      show Steps p.tables e below (T22.setTop (mkF m 11 #[.val (.ref o0), .val (.int (3 : Int32)), .val (.ref o2), .val (.int (3 : Int32)), .val (.int (4 : Int32)), .val (.int (3 : Int32)), .val (.int (F 2))] [(.ref o0)])) _
      refine XS.iloadN X22.here hx rfl (hb hby d5_11) rfl ?_
      show Steps p.tables e below (T22.setTop (mkF m 12 #[.val (.ref o0), .val (.int (3 : Int32)), .val (.ref o2), .val (.int (3 : Int32)), .val (.int (4 : Int32)), .val (.int (3 : Int32)), .val (.int (F 2))] [(.int (3 : Int32)), (.ref o0)])) _
      refine X22.caload hx (j := (3 : Int32)) (v := (.int (F 3))) (by rw [e22]; exact Ar26.1) (State.isArrayOf_alike hZ.alike Ar26.2.1) Ar26.2.2 hin26 hat26 (g := (mkF m 12 #[.val (.ref o0), .val (.int (3 : Int32)), .val (.ref o2), .val (.int (3 : Int32)), .val (.int (4 : Int32)), .val (.int (3 : Int32)), .val (.int (F 2))] [(.int (3 : Int32)), (.ref o0)])) rfl rfl (hb hby d5_12) _ ?_
      show Steps p.tables e below (T22.setTop (mkF m 13 #[.val (.ref o0), .val (.int (3 : Int32)), .val (.ref o2), .val (.int (3 : Int32)), .val (.int (4 : Int32)), .val (.int (3 : Int32)), .val (.int (F 2))] [(.int (F 3))])) _
      refine XS.istore X22.here hx rfl (hb hby d5_13) rfl (l' := #[.val (.ref o0), .val (.int (3 : Int32)), .val (.ref o2), .val (.int (3 : Int32)), .val (.int (4 : Int32)), .val (.int (3 : Int32)), .val (.int (F 3))]) rfl ?_
      show Steps p.tables e below (T22.setTop (mkF m 15 #[.val (.ref o0), .val (.int (3 : Int32)), .val (.ref o2), .val (.int (3 : Int32)), .val (.int (4 : Int32)), .val (.int (3 : Int32)), .val (.int (F 3))] [])) _
      refine XS.iload X22.here hx rfl (hb hby d5_15) rfl ?_
      show Steps p.tables e below (T22.setTop (mkF m 17 #[.val (.ref o0), .val (.int (3 : Int32)), .val (.ref o2), .val (.int (3 : Int32)), .val (.int (4 : Int32)), .val (.int (3 : Int32)), .val (.int (F 3))] [(.int (F 3))])) _
      refine XS.sipush X22.here hx rfl (hb hby d5_17) ?_
      exact kt)
  have hd20_29 : ¬ ((255 : Int32) < (F 3)) := hA.2.2.2
  obtain ⟨cl30, Ar30, Sz30, Nn30, Hs30⟩ := id V22
  have hin30 : ¬ ((3 : Int32) < 0 ∨ cl30.slots.size ≤ ((3 : Int32)).toNatClampNeg) := inb_of Sz30 ⟨by decide, by decide⟩
  obtain ⟨T31, h31, X31, e31, W31, st31⟩ := stB X22 hx hZ e22 Ar30 (j := (3 : Int32)) hin30 (g := (mkF m 31 #[.val (.ref o0), .val (.int (3 : Int32)), .val (.ref o2), .val (.int (3 : Int32)), .val (.int (4 : Int32)), .val (.int (3 : Int32)), .val (.int (F 3))] [(.int ((F 3).toInt8.toInt32)), (.int (3 : Int32)), (.ref o2)])) rfl rfl (hb hby d5_31)
  have V31 : own_AI Z h31 o2 .byte (4 : Int32) (own_upd (own_upd (own_upd (own_upd G 0 (nar .byte ((F 0).toInt8.toInt32))) 1 (nar .byte ((F 1).toInt8.toInt32))) 2 (nar .byte ((F 2).toInt8.toInt32))) 3 (nar .byte ((F 3).toInt8.toInt32))) := own_AI.set V22 (fits_nar_byte ((F 3).toInt8.toInt32)) W31
  have K32 : Keep h0 h31 [o2] := K23.wr W31 (Or.inl (List.mem_of_getElem? (i := 0) rfl))
  have Z33 : n0 ≤ h31.size := Nat.le_trans Z0 K32.1
  have N31 := Fr.snoc X31 N22 g_o2
  obtain ⟨LS31, X31, N31⟩ : ∃ L, Stand p l e ({ frames := 0, cells := 0, slots := 0, locals := 0 } : Room) s m #[(.ref o0), (.int (0 : Int32)), (.ref o2), (.int (0 : Int32)), (.int (4 : Int32))] below meth c T31 L 0 0 ∧ Fr n0 L := ⟨_, X31, N31⟩
  have pre34 : ∀ t, Steps p.tables e below (T31.setTop (mkF m 7 #[.val (.ref o0), .val (.int (4 : Int32)), .val (.ref o2), .val (.int (4 : Int32)), .val (.int (4 : Int32)), .val (.int (4 : Int32)), .val (.int (F 3))] [(.int (4 : Int32)), (.int (4 : Int32))])) t → Steps p.tables e below (s₁.setTop (entryFrame m #[(.ref o0), (.int (0 : Int32)), (.ref o2), (.int (0 : Int32)), (.int (4 : Int32))] 7)) t := fun t kt => pre28 t (by
      show Steps p.tables e below (T22.setTop (mkF m 20 #[.val (.ref o0), .val (.int (3 : Int32)), .val (.ref o2), .val (.int (3 : Int32)), .val (.int (4 : Int32)), .val (.int (3 : Int32)), .val (.int (F 3))] [(.int (255 : Int32)), (.int (F 3))])) _
      refine XS.icmpYes X22.here hx rfl (pc0 := 20) (pc' := 26) rfl (hb hby d5_20) rfl (flt hd20_29).2.2.2 (by decide) (by decide) ?_
      show Steps p.tables e below (T22.setTop (mkF m 26 #[.val (.ref o0), .val (.int (3 : Int32)), .val (.ref o2), .val (.int (3 : Int32)), .val (.int (4 : Int32)), .val (.int (3 : Int32)), .val (.int (F 3))] [])) _
      refine XS.aloadN X22.here hx rfl (hb hby d5_26) rfl rfl ?_
      show Steps p.tables e below (T22.setTop (mkF m 27 #[.val (.ref o0), .val (.int (3 : Int32)), .val (.ref o2), .val (.int (3 : Int32)), .val (.int (4 : Int32)), .val (.int (3 : Int32)), .val (.int (F 3))] [(.ref o2)])) _
      refine XS.iloadN X22.here hx rfl (hb hby d5_27) rfl ?_
      show Steps p.tables e below (T22.setTop (mkF m 28 #[.val (.ref o0), .val (.int (3 : Int32)), .val (.ref o2), .val (.int (3 : Int32)), .val (.int (4 : Int32)), .val (.int (3 : Int32)), .val (.int (F 3))] [(.int (3 : Int32)), (.ref o2)])) _
      refine XS.iload X22.here hx rfl (hb hby d5_28) rfl ?_
      show Steps p.tables e below (T22.setTop (mkF m 30 #[.val (.ref o0), .val (.int (3 : Int32)), .val (.ref o2), .val (.int (3 : Int32)), .val (.int (4 : Int32)), .val (.int (3 : Int32)), .val (.int (F 3))] [(.int (F 3)), (.int (3 : Int32)), (.ref o2)])) _
      refine XS.i2b X22.here hx rfl (hb hby d5_30) rfl ?_
      show Steps p.tables e below (T22.setTop (mkF m 31 #[.val (.ref o0), .val (.int (3 : Int32)), .val (.ref o2), .val (.int (3 : Int32)), .val (.int (4 : Int32)), .val (.int (3 : Int32)), .val (.int (F 3))] [(.int ((F 3).toInt8.toInt32)), (.int (3 : Int32)), (.ref o2)])) _
      refine st31 _ ?_
      show Steps p.tables e below (T31.setTop (mkF m 32 #[.val (.ref o0), .val (.int (3 : Int32)), .val (.ref o2), .val (.int (3 : Int32)), .val (.int (4 : Int32)), .val (.int (3 : Int32)), .val (.int (F 3))] [])) _
      refine XS.iinc X31.here hx rfl (hb hby d5_32) rfl (l' := #[.val (.ref o0), .val (.int (4 : Int32)), .val (.ref o2), .val (.int (3 : Int32)), .val (.int (4 : Int32)), .val (.int (3 : Int32)), .val (.int (F 3))]) rfl ?_
      show Steps p.tables e below (T31.setTop (mkF m 35 #[.val (.ref o0), .val (.int (4 : Int32)), .val (.ref o2), .val (.int (3 : Int32)), .val (.int (4 : Int32)), .val (.int (3 : Int32)), .val (.int (F 3))] [])) _
      refine XS.iinc X31.here hx rfl (hb hby d5_35) rfl (l' := #[.val (.ref o0), .val (.int (4 : Int32)), .val (.ref o2), .val (.int (4 : Int32)), .val (.int (4 : Int32)), .val (.int (3 : Int32)), .val (.int (F 3))]) rfl ?_
      show Steps p.tables e below (T31.setTop (mkF m 38 #[.val (.ref o0), .val (.int (4 : Int32)), .val (.ref o2), .val (.int (4 : Int32)), .val (.int (4 : Int32)), .val (.int (3 : Int32)), .val (.int (F 3))] [])) _
      refine XS.iinc X31.here hx rfl (hb hby d5_38) rfl (l' := #[.val (.ref o0), .val (.int (4 : Int32)), .val (.ref o2), .val (.int (4 : Int32)), .val (.int (4 : Int32)), .val (.int (4 : Int32)), .val (.int (F 3))]) rfl ?_
      show Steps p.tables e below (T31.setTop (mkF m 41 #[.val (.ref o0), .val (.int (4 : Int32)), .val (.ref o2), .val (.int (4 : Int32)), .val (.int (4 : Int32)), .val (.int (4 : Int32)), .val (.int (F 3))] [])) _
      refine XS.goto X31.here hx rfl (pc0 := 41) (pc' := 3) rfl (hb hby d5_41) (by decide) (by decide) ?_
      show Steps p.tables e below (T31.setTop (mkF m 3 #[.val (.ref o0), .val (.int (4 : Int32)), .val (.ref o2), .val (.int (4 : Int32)), .val (.int (4 : Int32)), .val (.int (4 : Int32)), .val (.int (F 3))] [])) _
      refine XS.iload X31.here hx rfl (hb hby d5_3) rfl ?_
      show Steps p.tables e below (T31.setTop (mkF m 5 #[.val (.ref o0), .val (.int (4 : Int32)), .val (.ref o2), .val (.int (4 : Int32)), .val (.int (4 : Int32)), .val (.int (4 : Int32)), .val (.int (F 3))] [(.int (4 : Int32))])) _
      refine XS.iload X31.here hx rfl (hb hby d5_5) rfl ?_
      exact kt)
  obtain ⟨fs, hr, hrun, hended, hW, hsame⟩ := X31.leave (v := some (.int (4 : Int32))) (fun h => by rw [Bd.returns] at h; cases h)
  have hv35 : (4 : Int32) = (4 : Int32) := rfl
  refine ⟨_, _, pre34 _ ?_, hrun, hended, _, _, rfl, ?_, ⟨_, rfl⟩, hW, hsame.mono (by decide) (by decide)⟩
  · show Steps p.tables e below (T31.setTop (mkF m 7 #[.val (.ref o0), .val (.int (4 : Int32)), .val (.ref o2), .val (.int (4 : Int32)), .val (.int (4 : Int32)), .val (.int (4 : Int32)), .val (.int (F 3))] [(.int (4 : Int32)), (.int (4 : Int32))])) _
    refine XS.icmpYes X31.here hx rfl (pc0 := 7) (pc' := 44) rfl (hb hby d5_7) rfl (flt (by decide : ¬ ((4 : Int32) < (4 : Int32)))).2.1 (by decide) (by decide) ?_
    show Steps p.tables e below (T31.setTop (mkF m 44 #[.val (.ref o0), .val (.int (4 : Int32)), .val (.ref o2), .val (.int (4 : Int32)), .val (.int (4 : Int32)), .val (.int (4 : Int32)), .val (.int (F 3))] [])) _
    refine XS.iload X31.here hx rfl (hb hby d5_44) rfl ?_
    show Steps p.tables e below (T31.setTop (mkF m 46 #[.val (.ref o0), .val (.int (4 : Int32)), .val (.ref o2), .val (.int (4 : Int32)), .val (.int (4 : Int32)), .val (.int (4 : Int32)), .val (.int (F 3))] [(.int (4 : Int32))])) _
    exact retI X31 hx Bd.returns (hb hby d5_46) hr
  · show Q5l Z o0 o2 F G h0 n0 _ T31.heap _
    rw [e31]
    exact ⟨congrArg (fun q => some (Value.int q)) hv35.symm, N31, K32, (by rw [f5l_o2_a]; exact V31)⟩
theorem d5_23 : decode jdk_52_method_21_code 23 = .ok (.iload 5, 2) := by decide +kernel
theorem d5_25 : decode jdk_52_method_21_code 25 = .ok (.ireturn, 1) := by decide +kernel
theorem pn_5u : plainName "java/lang/StringUTF16" = true := by first | (simp [plainName, overriddenIn]; done) | decide +kernel
theorem ef_5u (m : MethodId) (x0 : Addr) (x1 : Int32) (x2 : Addr) (x3 : Int32) (x4 : Int32) : entryFrame m #[(.ref x0), (.int x1), (.ref x2), (.int x3), (.int x4)] 7 = mkF m 0 #[.val (.ref x0), .val (.int x1), .val (.ref x2), .val (.int x3), .val (.int x4), .unset, .unset] [] := by first | (simp [entryFrame, mkF, argsToLocals, Value.category]; done) | rfl
def f5u (F : Nat → Int32) : Int32 :=
  if (255 : Int32) < (F 0) then ((0 : Int32)) else
  (if (255 : Int32) < (F 1) then ((1 : Int32)) else
  (if (255 : Int32) < (F 2) then ((2 : Int32)) else
  ((3 : Int32))))
def f5u_o2_a (F : Nat → Int32) (G : Nat → Int32) : Nat → Int32 :=
  if (255 : Int32) < (F 0) then (G) else
  (if (255 : Int32) < (F 1) then ((own_upd G 0 (nar .byte ((F 0).toInt8.toInt32)))) else
  (if (255 : Int32) < (F 2) then ((own_upd (own_upd G 0 (nar .byte ((F 0).toInt8.toInt32))) 1 (nar .byte ((F 1).toInt8.toInt32)))) else
  ((own_upd (own_upd (own_upd G 0 (nar .byte ((F 0).toInt8.toInt32))) 1 (nar .byte ((F 1).toInt8.toInt32))) 2 (nar .byte ((F 2).toInt8.toInt32))))))
theorem own_c5 (F : Nat → Int32) : ¬ (f5u F) = (4 : Int32) := by unfold f5u; repeat' split
                                                                 all_goals decide
theorem own_c5b (F : Nat → Int32) : ¬ (f5u F) < 0 ∧ (f5u F) < (4 : Int32) := by
  unfold f5u; repeat' split
  all_goals decide
theorem own_two (u : UInt16) : nar .char ((((nar .byte ((u.toUInt32.toInt32 >>> ((0 : Int32) &&& 31)).toInt8.toInt32)) &&& (255 : Int32)) <<< ((0 : Int32) &&& 31)) ||| (((nar .byte ((u.toUInt32.toInt32 >>> ((8 : Int32) &&& 31)).toInt8.toInt32)) &&& (255 : Int32)) <<< ((8 : Int32) &&& 31))).toUInt32.toUInt16.toUInt32.toInt32 = u.toUInt32.toInt32 := by
  obtain ⟨b⟩ := u
  apply Int32.toBitVec_inj.mp
  have e0 : (((0 : Int32) &&& 31).toBitVec.smod 32) = 0#32 := by decide
  have e8 : (((8 : Int32) &&& 31).toBitVec.smod 32) = 8#32 := by decide
  simp only [nar]
  show BitVec.setWidth 32 (BitVec.setWidth 16 (BitVec.setWidth 32 (BitVec.setWidth 16 (((((((((BitVec.setWidth 32 b).sshiftRight' (((0 : Int32) &&& 31).toBitVec.smod 32)).signExtend 8).signExtend 32).signExtend 8).signExtend 32) &&& 255#32) <<< (((0 : Int32) &&& 31).toBitVec.smod 32)) ||| ((((((((BitVec.setWidth 32 b).sshiftRight' (((8 : Int32) &&& 31).toBitVec.smod 32)).signExtend 8).signExtend 32).signExtend 8).signExtend 32) &&& 255#32) <<< (((8 : Int32) &&& 31).toBitVec.smod 32)))))) = BitVec.setWidth 32 b
  rw [e0, e8]
  apply BitVec.eq_of_getLsbD_eq
  intro i hi
  simp only [BitVec.sshiftRight', BitVec.shiftLeft_eq', BitVec.getLsbD_sshiftRight, BitVec.toNat_ofNat, BitVec.getLsbD_setWidth, BitVec.getLsbD_or, BitVec.getLsbD_shiftLeft, BitVec.getLsbD_and, BitVec.getLsbD_signExtend]
  have : i = 0 ∨ i = 1 ∨ i = 2 ∨ i = 3 ∨ i = 4 ∨ i = 5 ∨ i = 6 ∨ i = 7 ∨ i = 8 ∨ i = 9 ∨ i = 10 ∨ i = 11 ∨ i = 12 ∨ i = 13 ∨ i = 14 ∨ i = 15 ∨ 16 ≤ i := by omega
  rcases this with rfl | rfl | rfl | rfl | rfl | rfl | rfl | rfl | rfl | rfl | rfl | rfl | rfl | rfl | rfl | rfl | h16
  rotate_right
  · rw [BitVec.getLsbD_of_ge b i h16, show decide (i < 16) = false from decide_eq_false (by omega)]; simp
  all_goals simp
theorem own_gc (F : Nat → Int32) (h : own_ch F) (k : Nat) (hk : k < 4) (x : Int32) (hx : x = Int32.ofNat k) : f22 x (f18_r_a F) = F k := by
  subst hx
  obtain ⟨u, hu⟩ := h k hk
  have h4 : k = 0 ∨ k = 1 ∨ k = 2 ∨ k = 3 := by omega
  rw [hu, ← own_two u, ← hu]
  rcases h4 with rfl | rfl | rfl | rfl <;> rfl
theorem own_c5c {F : Nat → Int32} (h : own_ch F) (hA : ¬ (¬ (255 : Int32) < F 0 ∧ ¬ (255 : Int32) < F 1 ∧ ¬ (255 : Int32) < F 2 ∧ ¬ (255 : Int32) < F 3)) : (255 : Int32) < f22 (f5u F) (f18_r_a F) := by
  by_cases c0 : (255 : Int32) < F 0
  · rw [show f5u F = 0 from by rw [f5u, if_pos c0], own_gc F h 0 (by decide) (0 : Int32) (by decide)]; exact c0
  · by_cases c1 : (255 : Int32) < F 1
    · rw [show f5u F = 1 from by rw [f5u, if_neg c0, if_pos c1], own_gc F h 1 (by decide) (1 : Int32) (by decide)]; exact c1
    · by_cases c2 : (255 : Int32) < F 2
      · rw [show f5u F = 2 from by rw [f5u, if_neg c0, if_neg c1, if_pos c2], own_gc F h 2 (by decide) (2 : Int32) (by decide)]; exact c2
      · rw [show f5u F = 3 from by rw [f5u, if_neg c0, if_neg c1, if_neg c2], own_gc F h 3 (by decide) (3 : Int32) (by decide)]; exact Classical.byContradiction fun z => hA ⟨c0, c1, c2, z⟩

def Q5u (Z : State) (o0 : Addr) (o2 : Addr) (F : Nat → Int32) (G : Nat → Int32) (h0 : Heap) (n0 : Nat) (v : Option Value) (h : Heap) (L : List Loc) : Prop := v = some (.int (f5u F)) ∧ Fr n0 L ∧ Keep h0 h [o2] ∧ own_AI Z h o2 .byte (4 : Int32) (f5u_o2_a F G)
set_option maxRecDepth 65536 in
set_option maxHeartbeats 40000000 in
theorem rm5u (l : Launch) (Z : State) (a0 : Array Value) (hw : ∀ d ∈ tables_1, d.before a0 Z = true) (ws : List Jvm.Cond) (o0 : Addr) (o2 : Addr) (F : Nat → Int32) (G : Nat → Int32) (h0 : Heap) (n0 : Nat) (Z0 : n0 ≤ h0.size) (V_o0 : own_AI Z h0 o0 .char (4 : Int32) F) (V_o2 : own_AI Z h0 o2 .byte (4 : Int32) G) (ne_o0_o2 : o0 ≠ o2) (g_o2 : n0 ≤ o2) (hA : ¬ (¬ (255 : Int32) < F 0 ∧ ¬ (255 : Int32) < F 1 ∧ ¬ (255 : Int32) < F 2 ∧ ¬ (255 : Int32) < F 3)) :
    MetFree l (⟨"java/lang/StringUTF16", "compress", "([CI[BII)I"⟩ : MethodName) (head1 (Jvm.Cond.code (⟨"java/lang/StringUTF16", "compress", "([CI[BII)I"⟩ : MethodName) jdk_52_method_21_code 7 (some .int) :: ws) ({ frames := 0, cells := 0, slots := 0, locals := 0 } : Room)) (fun a U => a = #[(.ref o0), (.int (0 : Int32)), (.ref o2), (.int (0 : Int32)), (.int (4 : Int32))] ∧ Z.Warmed39 U.vm ∧ U.heap = h0) (fun _ _ _ _ _ => True) (fun _ U o U' => ∃ v L, o = .returned v ∧ Q5u Z o0 o2 F G h0 n0 v U'.heap L ∧ FrameEnd U o U' L ({ frames := 0, cells := 0, slots := 0, locals := 0 } : Room).cells ({ frames := 0, cells := 0, slots := 0, locals := 0 } : Room).slots) := by
  refine MetFree.of_bodySF (plainFor_of_name pn_5u) hisR ?_
  intro p e s m args below meth c s₁ Bd hml0 hP hK
  obtain ⟨rfl, hZ, hh⟩ := hP
  have hx := Bd.exec
  have hby := Bd.bytes
  have hml : c.maxLocals = 7 := hml0
  have hown : s.vm.findClass "java/lang/StringUTF16" = some m.cls := findClass_of_methodNamed Bd.named
  have hnm := (name_of_methodNamed Bd.named Bd.method).1
  have X0 : Stand p l e ({ frames := 0, cells := 0, slots := 0, locals := 0 } : Room) s m #[(.ref o0), (.int (0 : Int32)), (.ref o2), (.int (0 : Int32)), (.int (4 : Int32))] below meth c s₁ [] 0 0 := Stand.of_body Bd
  have e0 : s₁.heap = h0 := by rw [← hh, Bd.state]; rfl
  have N0 := Fr.nil n0
  have pre0 : ∀ t, Steps p.tables e below (s₁.setTop (mkF m 0 #[.val (.ref o0), .val (.int (0 : Int32)), .val (.ref o2), .val (.int (0 : Int32)), .val (.int (4 : Int32)), .unset, .unset] [])) t → Steps p.tables e below (s₁.setTop (entryFrame m #[(.ref o0), (.int (0 : Int32)), (.ref o2), (.int (0 : Int32)), (.int (4 : Int32))] 7)) t := fun t k => castTop (ef_5u m o0 (0 : Int32) o2 (0 : Int32) (4 : Int32)) k
  have pre1 : ∀ t, Steps p.tables e below (s₁.setTop (mkF m 7 #[.val (.ref o0), .val (.int (0 : Int32)), .val (.ref o2), .val (.int (0 : Int32)), .val (.int (4 : Int32)), .val (.int (0 : Int32)), .unset] [(.int (4 : Int32)), (.int (0 : Int32))])) t → Steps p.tables e below (s₁.setTop (entryFrame m #[(.ref o0), (.int (0 : Int32)), (.ref o2), (.int (0 : Int32)), (.int (4 : Int32))] 7)) t := fun t kt => pre0 t (by
      show Steps p.tables e below (s₁.setTop (mkF m 0 #[.val (.ref o0), .val (.int (0 : Int32)), .val (.ref o2), .val (.int (0 : Int32)), .val (.int (4 : Int32)), .unset, .unset] [])) _
      refine XS.iconst X0.here hx rfl (hb hby d5_0) ?_
      show Steps p.tables e below (s₁.setTop (mkF m 1 #[.val (.ref o0), .val (.int (0 : Int32)), .val (.ref o2), .val (.int (0 : Int32)), .val (.int (4 : Int32)), .unset, .unset] [(.int (0 : Int32))])) _
      refine XS.istore X0.here hx rfl (hb hby d5_1) rfl (l' := #[.val (.ref o0), .val (.int (0 : Int32)), .val (.ref o2), .val (.int (0 : Int32)), .val (.int (4 : Int32)), .val (.int (0 : Int32)), .unset]) rfl ?_
      show Steps p.tables e below (s₁.setTop (mkF m 3 #[.val (.ref o0), .val (.int (0 : Int32)), .val (.ref o2), .val (.int (0 : Int32)), .val (.int (4 : Int32)), .val (.int (0 : Int32)), .unset] [])) _
      refine XS.iload X0.here hx rfl (hb hby d5_3) rfl ?_
      show Steps p.tables e below (s₁.setTop (mkF m 5 #[.val (.ref o0), .val (.int (0 : Int32)), .val (.ref o2), .val (.int (0 : Int32)), .val (.int (4 : Int32)), .val (.int (0 : Int32)), .unset] [(.int (0 : Int32))])) _
      refine XS.iload X0.here hx rfl (hb hby d5_5) rfl ?_
      exact kt)
  obtain ⟨cl2, Ar2, Sz2, Nn2, Hs2⟩ := id V_o0
  have hin2 : ¬ ((0 : Int32) < 0 ∨ cl2.slots.size ≤ ((0 : Int32)).toNatClampNeg) := inb_of Sz2 ⟨by decide, by decide⟩
  have hat2 : cl2.slots[((0 : Int32)).toNatClampNeg]? = some (.int (F 0)) := (Hs2 _ (own_lt hin2)).1
  have pre3 : ∀ t, Steps p.tables e below (s₁.setTop (mkF m 20 #[.val (.ref o0), .val (.int (0 : Int32)), .val (.ref o2), .val (.int (0 : Int32)), .val (.int (4 : Int32)), .val (.int (0 : Int32)), .val (.int (F 0))] [(.int (255 : Int32)), (.int (F 0))])) t → Steps p.tables e below (s₁.setTop (entryFrame m #[(.ref o0), (.int (0 : Int32)), (.ref o2), (.int (0 : Int32)), (.int (4 : Int32))] 7)) t := fun t kt => pre1 t (by
      show Steps p.tables e below (s₁.setTop (mkF m 7 #[.val (.ref o0), .val (.int (0 : Int32)), .val (.ref o2), .val (.int (0 : Int32)), .val (.int (4 : Int32)), .val (.int (0 : Int32)), .unset] [(.int (4 : Int32)), (.int (0 : Int32))])) _
      refine XS.icmpNo X0.here hx rfl (hb hby d5_7) rfl (tlt (by decide : ((0 : Int32) < (4 : Int32)))).2.1 ?_
      show Steps p.tables e below (s₁.setTop (mkF m 10 #[.val (.ref o0), .val (.int (0 : Int32)), .val (.ref o2), .val (.int (0 : Int32)), .val (.int (4 : Int32)), .val (.int (0 : Int32)), .unset] [])) _
      refine XS.aloadN X0.here hx rfl (hb hby d5_10) rfl rfl ?_
      show Steps p.tables e below (s₁.setTop (mkF m 11 #[.val (.ref o0), .val (.int (0 : Int32)), .val (.ref o2), .val (.int (0 : Int32)), .val (.int (4 : Int32)), .val (.int (0 : Int32)), .unset] [(.ref o0)])) _
      refine XS.iloadN X0.here hx rfl (hb hby d5_11) rfl ?_
      show Steps p.tables e below (s₁.setTop (mkF m 12 #[.val (.ref o0), .val (.int (0 : Int32)), .val (.ref o2), .val (.int (0 : Int32)), .val (.int (4 : Int32)), .val (.int (0 : Int32)), .unset] [(.int (0 : Int32)), (.ref o0)])) _
      refine X0.caload hx (j := (0 : Int32)) (v := (.int (F 0))) (by rw [e0]; exact Ar2.1) (State.isArrayOf_alike hZ.alike Ar2.2.1) Ar2.2.2 hin2 hat2 (g := (mkF m 12 #[.val (.ref o0), .val (.int (0 : Int32)), .val (.ref o2), .val (.int (0 : Int32)), .val (.int (4 : Int32)), .val (.int (0 : Int32)), .unset] [(.int (0 : Int32)), (.ref o0)])) rfl rfl (hb hby d5_12) _ ?_
      show Steps p.tables e below (s₁.setTop (mkF m 13 #[.val (.ref o0), .val (.int (0 : Int32)), .val (.ref o2), .val (.int (0 : Int32)), .val (.int (4 : Int32)), .val (.int (0 : Int32)), .unset] [(.int (F 0))])) _
      refine XS.istore X0.here hx rfl (hb hby d5_13) rfl (l' := #[.val (.ref o0), .val (.int (0 : Int32)), .val (.ref o2), .val (.int (0 : Int32)), .val (.int (4 : Int32)), .val (.int (0 : Int32)), .val (.int (F 0))]) rfl ?_
      show Steps p.tables e below (s₁.setTop (mkF m 15 #[.val (.ref o0), .val (.int (0 : Int32)), .val (.ref o2), .val (.int (0 : Int32)), .val (.int (4 : Int32)), .val (.int (0 : Int32)), .val (.int (F 0))] [])) _
      refine XS.iload X0.here hx rfl (hb hby d5_15) rfl ?_
      show Steps p.tables e below (s₁.setTop (mkF m 17 #[.val (.ref o0), .val (.int (0 : Int32)), .val (.ref o2), .val (.int (0 : Int32)), .val (.int (4 : Int32)), .val (.int (0 : Int32)), .val (.int (F 0))] [(.int (F 0))])) _
      refine XS.sipush X0.here hx rfl (hb hby d5_17) ?_
      exact kt)
  by_cases hc20_4 : (255 : Int32) < (F 0)
  · obtain ⟨fs, hr, hrun, hended, hW, hsame⟩ := X0.leave (v := some (.int (0 : Int32))) (fun h => by rw [Bd.returns] at h; cases h)
    have hv30 : (f5u F) = (0 : Int32) := by rw [f5u, if_pos hc20_4]
    refine ⟨_, _, pre3 _ ?_, hrun, hended, _, _, rfl, ?_, ⟨_, rfl⟩, hW, hsame.mono (by decide) (by decide)⟩
    · show Steps p.tables e below (s₁.setTop (mkF m 20 #[.val (.ref o0), .val (.int (0 : Int32)), .val (.ref o2), .val (.int (0 : Int32)), .val (.int (4 : Int32)), .val (.int (0 : Int32)), .val (.int (F 0))] [(.int (255 : Int32)), (.int (F 0))])) _
      refine XS.icmpNo X0.here hx rfl (hb hby d5_20) rfl (tlt hc20_4).2.2.2 ?_
      show Steps p.tables e below (s₁.setTop (mkF m 23 #[.val (.ref o0), .val (.int (0 : Int32)), .val (.ref o2), .val (.int (0 : Int32)), .val (.int (4 : Int32)), .val (.int (0 : Int32)), .val (.int (F 0))] [])) _
      refine XS.iload X0.here hx rfl (hb hby d5_23) rfl ?_
      show Steps p.tables e below (s₁.setTop (mkF m 25 #[.val (.ref o0), .val (.int (0 : Int32)), .val (.ref o2), .val (.int (0 : Int32)), .val (.int (4 : Int32)), .val (.int (0 : Int32)), .val (.int (F 0))] [(.int (0 : Int32))])) _
      exact retI X0 hx Bd.returns (hb hby d5_25) hr
    · show Q5u Z o0 o2 F G h0 n0 _ s₁.heap _
      rw [e0]
      exact ⟨congrArg (fun q => some (Value.int q)) hv30.symm, N0, (Keep.refl h0 [o2]), (by rw [f5u_o2_a, if_pos hc20_4]; exact V_o2)⟩
  · obtain ⟨cl5, Ar5, Sz5, Nn5, Hs5⟩ := id V_o2
    have hin5 : ¬ ((0 : Int32) < 0 ∨ cl5.slots.size ≤ ((0 : Int32)).toNatClampNeg) := inb_of Sz5 ⟨by decide, by decide⟩
    obtain ⟨T6, h6, X6, e6, W6, st6⟩ := stB X0 hx hZ e0 Ar5 (j := (0 : Int32)) hin5 (g := (mkF m 31 #[.val (.ref o0), .val (.int (0 : Int32)), .val (.ref o2), .val (.int (0 : Int32)), .val (.int (4 : Int32)), .val (.int (0 : Int32)), .val (.int (F 0))] [(.int ((F 0).toInt8.toInt32)), (.int (0 : Int32)), (.ref o2)])) rfl rfl (hb hby d5_31)
    have V6 : own_AI Z h6 o2 .byte (4 : Int32) (own_upd G 0 (nar .byte ((F 0).toInt8.toInt32))) := own_AI.set V_o2 (fits_nar_byte ((F 0).toInt8.toInt32)) W6
    have K7 : Keep h0 h6 [o2] := (Keep.refl h0 [o2]).wr W6 (Or.inl (List.mem_of_getElem? (i := 0) rfl))
    have Z8 : n0 ≤ h6.size := Nat.le_trans Z0 K7.1
    have N6 := Fr.snoc X6 N0 g_o2
    obtain ⟨LS6, X6, N6⟩ : ∃ L, Stand p l e ({ frames := 0, cells := 0, slots := 0, locals := 0 } : Room) s m #[(.ref o0), (.int (0 : Int32)), (.ref o2), (.int (0 : Int32)), (.int (4 : Int32))] below meth c T6 L 0 0 ∧ Fr n0 L := ⟨_, X6, N6⟩
    have pre9 : ∀ t, Steps p.tables e below (T6.setTop (mkF m 7 #[.val (.ref o0), .val (.int (1 : Int32)), .val (.ref o2), .val (.int (1 : Int32)), .val (.int (4 : Int32)), .val (.int (1 : Int32)), .val (.int (F 0))] [(.int (4 : Int32)), (.int (1 : Int32))])) t → Steps p.tables e below (s₁.setTop (entryFrame m #[(.ref o0), (.int (0 : Int32)), (.ref o2), (.int (0 : Int32)), (.int (4 : Int32))] 7)) t := fun t kt => pre3 t (by
        show Steps p.tables e below (s₁.setTop (mkF m 20 #[.val (.ref o0), .val (.int (0 : Int32)), .val (.ref o2), .val (.int (0 : Int32)), .val (.int (4 : Int32)), .val (.int (0 : Int32)), .val (.int (F 0))] [(.int (255 : Int32)), (.int (F 0))])) _
        refine XS.icmpYes X0.here hx rfl (pc0 := 20) (pc' := 26) rfl (hb hby d5_20) rfl (flt hc20_4).2.2.2 (by decide) (by decide) ?_
        show Steps p.tables e below (s₁.setTop (mkF m 26 #[.val (.ref o0), .val (.int (0 : Int32)), .val (.ref o2), .val (.int (0 : Int32)), .val (.int (4 : Int32)), .val (.int (0 : Int32)), .val (.int (F 0))] [])) _
        refine XS.aloadN X0.here hx rfl (hb hby d5_26) rfl rfl ?_
        show Steps p.tables e below (s₁.setTop (mkF m 27 #[.val (.ref o0), .val (.int (0 : Int32)), .val (.ref o2), .val (.int (0 : Int32)), .val (.int (4 : Int32)), .val (.int (0 : Int32)), .val (.int (F 0))] [(.ref o2)])) _
        refine XS.iloadN X0.here hx rfl (hb hby d5_27) rfl ?_
        show Steps p.tables e below (s₁.setTop (mkF m 28 #[.val (.ref o0), .val (.int (0 : Int32)), .val (.ref o2), .val (.int (0 : Int32)), .val (.int (4 : Int32)), .val (.int (0 : Int32)), .val (.int (F 0))] [(.int (0 : Int32)), (.ref o2)])) _
        refine XS.iload X0.here hx rfl (hb hby d5_28) rfl ?_
        show Steps p.tables e below (s₁.setTop (mkF m 30 #[.val (.ref o0), .val (.int (0 : Int32)), .val (.ref o2), .val (.int (0 : Int32)), .val (.int (4 : Int32)), .val (.int (0 : Int32)), .val (.int (F 0))] [(.int (F 0)), (.int (0 : Int32)), (.ref o2)])) _
        refine XS.i2b X0.here hx rfl (hb hby d5_30) rfl ?_
        show Steps p.tables e below (s₁.setTop (mkF m 31 #[.val (.ref o0), .val (.int (0 : Int32)), .val (.ref o2), .val (.int (0 : Int32)), .val (.int (4 : Int32)), .val (.int (0 : Int32)), .val (.int (F 0))] [(.int ((F 0).toInt8.toInt32)), (.int (0 : Int32)), (.ref o2)])) _
        refine st6 _ ?_
        show Steps p.tables e below (T6.setTop (mkF m 32 #[.val (.ref o0), .val (.int (0 : Int32)), .val (.ref o2), .val (.int (0 : Int32)), .val (.int (4 : Int32)), .val (.int (0 : Int32)), .val (.int (F 0))] [])) _
        refine XS.iinc X6.here hx rfl (hb hby d5_32) rfl (l' := #[.val (.ref o0), .val (.int (1 : Int32)), .val (.ref o2), .val (.int (0 : Int32)), .val (.int (4 : Int32)), .val (.int (0 : Int32)), .val (.int (F 0))]) rfl ?_
        show Steps p.tables e below (T6.setTop (mkF m 35 #[.val (.ref o0), .val (.int (1 : Int32)), .val (.ref o2), .val (.int (0 : Int32)), .val (.int (4 : Int32)), .val (.int (0 : Int32)), .val (.int (F 0))] [])) _
        refine XS.iinc X6.here hx rfl (hb hby d5_35) rfl (l' := #[.val (.ref o0), .val (.int (1 : Int32)), .val (.ref o2), .val (.int (1 : Int32)), .val (.int (4 : Int32)), .val (.int (0 : Int32)), .val (.int (F 0))]) rfl ?_
        show Steps p.tables e below (T6.setTop (mkF m 38 #[.val (.ref o0), .val (.int (1 : Int32)), .val (.ref o2), .val (.int (1 : Int32)), .val (.int (4 : Int32)), .val (.int (0 : Int32)), .val (.int (F 0))] [])) _
        refine XS.iinc X6.here hx rfl (hb hby d5_38) rfl (l' := #[.val (.ref o0), .val (.int (1 : Int32)), .val (.ref o2), .val (.int (1 : Int32)), .val (.int (4 : Int32)), .val (.int (1 : Int32)), .val (.int (F 0))]) rfl ?_
        show Steps p.tables e below (T6.setTop (mkF m 41 #[.val (.ref o0), .val (.int (1 : Int32)), .val (.ref o2), .val (.int (1 : Int32)), .val (.int (4 : Int32)), .val (.int (1 : Int32)), .val (.int (F 0))] [])) _
        refine XS.goto X6.here hx rfl (pc0 := 41) (pc' := 3) rfl (hb hby d5_41) (by decide) (by decide) ?_
        show Steps p.tables e below (T6.setTop (mkF m 3 #[.val (.ref o0), .val (.int (1 : Int32)), .val (.ref o2), .val (.int (1 : Int32)), .val (.int (4 : Int32)), .val (.int (1 : Int32)), .val (.int (F 0))] [])) _
        refine XS.iload X6.here hx rfl (hb hby d5_3) rfl ?_
        show Steps p.tables e below (T6.setTop (mkF m 5 #[.val (.ref o0), .val (.int (1 : Int32)), .val (.ref o2), .val (.int (1 : Int32)), .val (.int (4 : Int32)), .val (.int (1 : Int32)), .val (.int (F 0))] [(.int (1 : Int32))])) _
        refine XS.iload X6.here hx rfl (hb hby d5_5) rfl ?_
        exact kt)
    obtain ⟨cl10, Ar10, Sz10, Nn10, Hs10⟩ := id (V_o0.other W6 ne_o0_o2)
    have hin10 : ¬ ((1 : Int32) < 0 ∨ cl10.slots.size ≤ ((1 : Int32)).toNatClampNeg) := inb_of Sz10 ⟨by decide, by decide⟩
    have hat10 : cl10.slots[((1 : Int32)).toNatClampNeg]? = some (.int (F 1)) := (Hs10 _ (own_lt hin10)).1
    have pre11 : ∀ t, Steps p.tables e below (T6.setTop (mkF m 20 #[.val (.ref o0), .val (.int (1 : Int32)), .val (.ref o2), .val (.int (1 : Int32)), .val (.int (4 : Int32)), .val (.int (1 : Int32)), .val (.int (F 1))] [(.int (255 : Int32)), (.int (F 1))])) t → Steps p.tables e below (s₁.setTop (entryFrame m #[(.ref o0), (.int (0 : Int32)), (.ref o2), (.int (0 : Int32)), (.int (4 : Int32))] 7)) t := fun t kt => pre9 t (by
        show Steps p.tables e below (T6.setTop (mkF m 7 #[.val (.ref o0), .val (.int (1 : Int32)), .val (.ref o2), .val (.int (1 : Int32)), .val (.int (4 : Int32)), .val (.int (1 : Int32)), .val (.int (F 0))] [(.int (4 : Int32)), (.int (1 : Int32))])) _
        refine XS.icmpNo X6.here hx rfl (hb hby d5_7) rfl (tlt (by decide : ((1 : Int32) < (4 : Int32)))).2.1 ?_
        show Steps p.tables e below (T6.setTop (mkF m 10 #[.val (.ref o0), .val (.int (1 : Int32)), .val (.ref o2), .val (.int (1 : Int32)), .val (.int (4 : Int32)), .val (.int (1 : Int32)), .val (.int (F 0))] [])) _
        refine XS.aloadN X6.here hx rfl (hb hby d5_10) rfl rfl ?_
        show Steps p.tables e below (T6.setTop (mkF m 11 #[.val (.ref o0), .val (.int (1 : Int32)), .val (.ref o2), .val (.int (1 : Int32)), .val (.int (4 : Int32)), .val (.int (1 : Int32)), .val (.int (F 0))] [(.ref o0)])) _
        refine XS.iloadN X6.here hx rfl (hb hby d5_11) rfl ?_
        show Steps p.tables e below (T6.setTop (mkF m 12 #[.val (.ref o0), .val (.int (1 : Int32)), .val (.ref o2), .val (.int (1 : Int32)), .val (.int (4 : Int32)), .val (.int (1 : Int32)), .val (.int (F 0))] [(.int (1 : Int32)), (.ref o0)])) _
        refine X6.caload hx (j := (1 : Int32)) (v := (.int (F 1))) (by rw [e6]; exact Ar10.1) (State.isArrayOf_alike hZ.alike Ar10.2.1) Ar10.2.2 hin10 hat10 (g := (mkF m 12 #[.val (.ref o0), .val (.int (1 : Int32)), .val (.ref o2), .val (.int (1 : Int32)), .val (.int (4 : Int32)), .val (.int (1 : Int32)), .val (.int (F 0))] [(.int (1 : Int32)), (.ref o0)])) rfl rfl (hb hby d5_12) _ ?_
        show Steps p.tables e below (T6.setTop (mkF m 13 #[.val (.ref o0), .val (.int (1 : Int32)), .val (.ref o2), .val (.int (1 : Int32)), .val (.int (4 : Int32)), .val (.int (1 : Int32)), .val (.int (F 0))] [(.int (F 1))])) _
        refine XS.istore X6.here hx rfl (hb hby d5_13) rfl (l' := #[.val (.ref o0), .val (.int (1 : Int32)), .val (.ref o2), .val (.int (1 : Int32)), .val (.int (4 : Int32)), .val (.int (1 : Int32)), .val (.int (F 1))]) rfl ?_
        show Steps p.tables e below (T6.setTop (mkF m 15 #[.val (.ref o0), .val (.int (1 : Int32)), .val (.ref o2), .val (.int (1 : Int32)), .val (.int (4 : Int32)), .val (.int (1 : Int32)), .val (.int (F 1))] [])) _
        refine XS.iload X6.here hx rfl (hb hby d5_15) rfl ?_
        show Steps p.tables e below (T6.setTop (mkF m 17 #[.val (.ref o0), .val (.int (1 : Int32)), .val (.ref o2), .val (.int (1 : Int32)), .val (.int (4 : Int32)), .val (.int (1 : Int32)), .val (.int (F 1))] [(.int (F 1))])) _
        refine XS.sipush X6.here hx rfl (hb hby d5_17) ?_
        exact kt)
    by_cases hc20_12 : (255 : Int32) < (F 1)
    · obtain ⟨fs, hr, hrun, hended, hW, hsame⟩ := X6.leave (v := some (.int (1 : Int32))) (fun h => by rw [Bd.returns] at h; cases h)
      have hv31 : (f5u F) = (1 : Int32) := by rw [f5u, if_neg hc20_4, if_pos hc20_12]
      refine ⟨_, _, pre11 _ ?_, hrun, hended, _, _, rfl, ?_, ⟨_, rfl⟩, hW, hsame.mono (by decide) (by decide)⟩
      · show Steps p.tables e below (T6.setTop (mkF m 20 #[.val (.ref o0), .val (.int (1 : Int32)), .val (.ref o2), .val (.int (1 : Int32)), .val (.int (4 : Int32)), .val (.int (1 : Int32)), .val (.int (F 1))] [(.int (255 : Int32)), (.int (F 1))])) _
        refine XS.icmpNo X6.here hx rfl (hb hby d5_20) rfl (tlt hc20_12).2.2.2 ?_
        show Steps p.tables e below (T6.setTop (mkF m 23 #[.val (.ref o0), .val (.int (1 : Int32)), .val (.ref o2), .val (.int (1 : Int32)), .val (.int (4 : Int32)), .val (.int (1 : Int32)), .val (.int (F 1))] [])) _
        refine XS.iload X6.here hx rfl (hb hby d5_23) rfl ?_
        show Steps p.tables e below (T6.setTop (mkF m 25 #[.val (.ref o0), .val (.int (1 : Int32)), .val (.ref o2), .val (.int (1 : Int32)), .val (.int (4 : Int32)), .val (.int (1 : Int32)), .val (.int (F 1))] [(.int (1 : Int32))])) _
        exact retI X6 hx Bd.returns (hb hby d5_25) hr
      · show Q5u Z o0 o2 F G h0 n0 _ T6.heap _
        rw [e6]
        exact ⟨congrArg (fun q => some (Value.int q)) hv31.symm, N6, K7, (by rw [f5u_o2_a, if_neg hc20_4, if_pos hc20_12]; exact V6)⟩
    · obtain ⟨cl13, Ar13, Sz13, Nn13, Hs13⟩ := id V6
      have hin13 : ¬ ((1 : Int32) < 0 ∨ cl13.slots.size ≤ ((1 : Int32)).toNatClampNeg) := inb_of Sz13 ⟨by decide, by decide⟩
      obtain ⟨T14, h14, X14, e14, W14, st14⟩ := stB X6 hx hZ e6 Ar13 (j := (1 : Int32)) hin13 (g := (mkF m 31 #[.val (.ref o0), .val (.int (1 : Int32)), .val (.ref o2), .val (.int (1 : Int32)), .val (.int (4 : Int32)), .val (.int (1 : Int32)), .val (.int (F 1))] [(.int ((F 1).toInt8.toInt32)), (.int (1 : Int32)), (.ref o2)])) rfl rfl (hb hby d5_31)
      have V14 : own_AI Z h14 o2 .byte (4 : Int32) (own_upd (own_upd G 0 (nar .byte ((F 0).toInt8.toInt32))) 1 (nar .byte ((F 1).toInt8.toInt32))) := own_AI.set V6 (fits_nar_byte ((F 1).toInt8.toInt32)) W14
      have K15 : Keep h0 h14 [o2] := K7.wr W14 (Or.inl (List.mem_of_getElem? (i := 0) rfl))
      have Z16 : n0 ≤ h14.size := Nat.le_trans Z0 K15.1
      have N14 := Fr.snoc X14 N6 g_o2
      obtain ⟨LS14, X14, N14⟩ : ∃ L, Stand p l e ({ frames := 0, cells := 0, slots := 0, locals := 0 } : Room) s m #[(.ref o0), (.int (0 : Int32)), (.ref o2), (.int (0 : Int32)), (.int (4 : Int32))] below meth c T14 L 0 0 ∧ Fr n0 L := ⟨_, X14, N14⟩
      have pre17 : ∀ t, Steps p.tables e below (T14.setTop (mkF m 7 #[.val (.ref o0), .val (.int (2 : Int32)), .val (.ref o2), .val (.int (2 : Int32)), .val (.int (4 : Int32)), .val (.int (2 : Int32)), .val (.int (F 1))] [(.int (4 : Int32)), (.int (2 : Int32))])) t → Steps p.tables e below (s₁.setTop (entryFrame m #[(.ref o0), (.int (0 : Int32)), (.ref o2), (.int (0 : Int32)), (.int (4 : Int32))] 7)) t := fun t kt => pre11 t (by
          show Steps p.tables e below (T6.setTop (mkF m 20 #[.val (.ref o0), .val (.int (1 : Int32)), .val (.ref o2), .val (.int (1 : Int32)), .val (.int (4 : Int32)), .val (.int (1 : Int32)), .val (.int (F 1))] [(.int (255 : Int32)), (.int (F 1))])) _
          refine XS.icmpYes X6.here hx rfl (pc0 := 20) (pc' := 26) rfl (hb hby d5_20) rfl (flt hc20_12).2.2.2 (by decide) (by decide) ?_
          show Steps p.tables e below (T6.setTop (mkF m 26 #[.val (.ref o0), .val (.int (1 : Int32)), .val (.ref o2), .val (.int (1 : Int32)), .val (.int (4 : Int32)), .val (.int (1 : Int32)), .val (.int (F 1))] [])) _
          refine XS.aloadN X6.here hx rfl (hb hby d5_26) rfl rfl ?_
          show Steps p.tables e below (T6.setTop (mkF m 27 #[.val (.ref o0), .val (.int (1 : Int32)), .val (.ref o2), .val (.int (1 : Int32)), .val (.int (4 : Int32)), .val (.int (1 : Int32)), .val (.int (F 1))] [(.ref o2)])) _
          refine XS.iloadN X6.here hx rfl (hb hby d5_27) rfl ?_
          show Steps p.tables e below (T6.setTop (mkF m 28 #[.val (.ref o0), .val (.int (1 : Int32)), .val (.ref o2), .val (.int (1 : Int32)), .val (.int (4 : Int32)), .val (.int (1 : Int32)), .val (.int (F 1))] [(.int (1 : Int32)), (.ref o2)])) _
          refine XS.iload X6.here hx rfl (hb hby d5_28) rfl ?_
          show Steps p.tables e below (T6.setTop (mkF m 30 #[.val (.ref o0), .val (.int (1 : Int32)), .val (.ref o2), .val (.int (1 : Int32)), .val (.int (4 : Int32)), .val (.int (1 : Int32)), .val (.int (F 1))] [(.int (F 1)), (.int (1 : Int32)), (.ref o2)])) _
          refine XS.i2b X6.here hx rfl (hb hby d5_30) rfl ?_
          show Steps p.tables e below (T6.setTop (mkF m 31 #[.val (.ref o0), .val (.int (1 : Int32)), .val (.ref o2), .val (.int (1 : Int32)), .val (.int (4 : Int32)), .val (.int (1 : Int32)), .val (.int (F 1))] [(.int ((F 1).toInt8.toInt32)), (.int (1 : Int32)), (.ref o2)])) _
          refine st14 _ ?_
          show Steps p.tables e below (T14.setTop (mkF m 32 #[.val (.ref o0), .val (.int (1 : Int32)), .val (.ref o2), .val (.int (1 : Int32)), .val (.int (4 : Int32)), .val (.int (1 : Int32)), .val (.int (F 1))] [])) _
          refine XS.iinc X14.here hx rfl (hb hby d5_32) rfl (l' := #[.val (.ref o0), .val (.int (2 : Int32)), .val (.ref o2), .val (.int (1 : Int32)), .val (.int (4 : Int32)), .val (.int (1 : Int32)), .val (.int (F 1))]) rfl ?_
          show Steps p.tables e below (T14.setTop (mkF m 35 #[.val (.ref o0), .val (.int (2 : Int32)), .val (.ref o2), .val (.int (1 : Int32)), .val (.int (4 : Int32)), .val (.int (1 : Int32)), .val (.int (F 1))] [])) _
          refine XS.iinc X14.here hx rfl (hb hby d5_35) rfl (l' := #[.val (.ref o0), .val (.int (2 : Int32)), .val (.ref o2), .val (.int (2 : Int32)), .val (.int (4 : Int32)), .val (.int (1 : Int32)), .val (.int (F 1))]) rfl ?_
          show Steps p.tables e below (T14.setTop (mkF m 38 #[.val (.ref o0), .val (.int (2 : Int32)), .val (.ref o2), .val (.int (2 : Int32)), .val (.int (4 : Int32)), .val (.int (1 : Int32)), .val (.int (F 1))] [])) _
          refine XS.iinc X14.here hx rfl (hb hby d5_38) rfl (l' := #[.val (.ref o0), .val (.int (2 : Int32)), .val (.ref o2), .val (.int (2 : Int32)), .val (.int (4 : Int32)), .val (.int (2 : Int32)), .val (.int (F 1))]) rfl ?_
          show Steps p.tables e below (T14.setTop (mkF m 41 #[.val (.ref o0), .val (.int (2 : Int32)), .val (.ref o2), .val (.int (2 : Int32)), .val (.int (4 : Int32)), .val (.int (2 : Int32)), .val (.int (F 1))] [])) _
          refine XS.goto X14.here hx rfl (pc0 := 41) (pc' := 3) rfl (hb hby d5_41) (by decide) (by decide) ?_
          show Steps p.tables e below (T14.setTop (mkF m 3 #[.val (.ref o0), .val (.int (2 : Int32)), .val (.ref o2), .val (.int (2 : Int32)), .val (.int (4 : Int32)), .val (.int (2 : Int32)), .val (.int (F 1))] [])) _
          refine XS.iload X14.here hx rfl (hb hby d5_3) rfl ?_
          show Steps p.tables e below (T14.setTop (mkF m 5 #[.val (.ref o0), .val (.int (2 : Int32)), .val (.ref o2), .val (.int (2 : Int32)), .val (.int (4 : Int32)), .val (.int (2 : Int32)), .val (.int (F 1))] [(.int (2 : Int32))])) _
          refine XS.iload X14.here hx rfl (hb hby d5_5) rfl ?_
          exact kt)
      obtain ⟨cl18, Ar18, Sz18, Nn18, Hs18⟩ := id ((V_o0.other W6 ne_o0_o2).other W14 ne_o0_o2)
      have hin18 : ¬ ((2 : Int32) < 0 ∨ cl18.slots.size ≤ ((2 : Int32)).toNatClampNeg) := inb_of Sz18 ⟨by decide, by decide⟩
      have hat18 : cl18.slots[((2 : Int32)).toNatClampNeg]? = some (.int (F 2)) := (Hs18 _ (own_lt hin18)).1
      have pre19 : ∀ t, Steps p.tables e below (T14.setTop (mkF m 20 #[.val (.ref o0), .val (.int (2 : Int32)), .val (.ref o2), .val (.int (2 : Int32)), .val (.int (4 : Int32)), .val (.int (2 : Int32)), .val (.int (F 2))] [(.int (255 : Int32)), (.int (F 2))])) t → Steps p.tables e below (s₁.setTop (entryFrame m #[(.ref o0), (.int (0 : Int32)), (.ref o2), (.int (0 : Int32)), (.int (4 : Int32))] 7)) t := fun t kt => pre17 t (by
          show Steps p.tables e below (T14.setTop (mkF m 7 #[.val (.ref o0), .val (.int (2 : Int32)), .val (.ref o2), .val (.int (2 : Int32)), .val (.int (4 : Int32)), .val (.int (2 : Int32)), .val (.int (F 1))] [(.int (4 : Int32)), (.int (2 : Int32))])) _
          refine XS.icmpNo X14.here hx rfl (hb hby d5_7) rfl (tlt (by decide : ((2 : Int32) < (4 : Int32)))).2.1 ?_
          show Steps p.tables e below (T14.setTop (mkF m 10 #[.val (.ref o0), .val (.int (2 : Int32)), .val (.ref o2), .val (.int (2 : Int32)), .val (.int (4 : Int32)), .val (.int (2 : Int32)), .val (.int (F 1))] [])) _
          refine XS.aloadN X14.here hx rfl (hb hby d5_10) rfl rfl ?_
          show Steps p.tables e below (T14.setTop (mkF m 11 #[.val (.ref o0), .val (.int (2 : Int32)), .val (.ref o2), .val (.int (2 : Int32)), .val (.int (4 : Int32)), .val (.int (2 : Int32)), .val (.int (F 1))] [(.ref o0)])) _
          refine XS.iloadN X14.here hx rfl (hb hby d5_11) rfl ?_
          show Steps p.tables e below (T14.setTop (mkF m 12 #[.val (.ref o0), .val (.int (2 : Int32)), .val (.ref o2), .val (.int (2 : Int32)), .val (.int (4 : Int32)), .val (.int (2 : Int32)), .val (.int (F 1))] [(.int (2 : Int32)), (.ref o0)])) _
          refine X14.caload hx (j := (2 : Int32)) (v := (.int (F 2))) (by rw [e14]; exact Ar18.1) (State.isArrayOf_alike hZ.alike Ar18.2.1) Ar18.2.2 hin18 hat18 (g := (mkF m 12 #[.val (.ref o0), .val (.int (2 : Int32)), .val (.ref o2), .val (.int (2 : Int32)), .val (.int (4 : Int32)), .val (.int (2 : Int32)), .val (.int (F 1))] [(.int (2 : Int32)), (.ref o0)])) rfl rfl (hb hby d5_12) _ ?_
          show Steps p.tables e below (T14.setTop (mkF m 13 #[.val (.ref o0), .val (.int (2 : Int32)), .val (.ref o2), .val (.int (2 : Int32)), .val (.int (4 : Int32)), .val (.int (2 : Int32)), .val (.int (F 1))] [(.int (F 2))])) _
          refine XS.istore X14.here hx rfl (hb hby d5_13) rfl (l' := #[.val (.ref o0), .val (.int (2 : Int32)), .val (.ref o2), .val (.int (2 : Int32)), .val (.int (4 : Int32)), .val (.int (2 : Int32)), .val (.int (F 2))]) rfl ?_
          show Steps p.tables e below (T14.setTop (mkF m 15 #[.val (.ref o0), .val (.int (2 : Int32)), .val (.ref o2), .val (.int (2 : Int32)), .val (.int (4 : Int32)), .val (.int (2 : Int32)), .val (.int (F 2))] [])) _
          refine XS.iload X14.here hx rfl (hb hby d5_15) rfl ?_
          show Steps p.tables e below (T14.setTop (mkF m 17 #[.val (.ref o0), .val (.int (2 : Int32)), .val (.ref o2), .val (.int (2 : Int32)), .val (.int (4 : Int32)), .val (.int (2 : Int32)), .val (.int (F 2))] [(.int (F 2))])) _
          refine XS.sipush X14.here hx rfl (hb hby d5_17) ?_
          exact kt)
      by_cases hc20_20 : (255 : Int32) < (F 2)
      · obtain ⟨fs, hr, hrun, hended, hW, hsame⟩ := X14.leave (v := some (.int (2 : Int32))) (fun h => by rw [Bd.returns] at h; cases h)
        have hv32 : (f5u F) = (2 : Int32) := by rw [f5u, if_neg hc20_4, if_neg hc20_12, if_pos hc20_20]
        refine ⟨_, _, pre19 _ ?_, hrun, hended, _, _, rfl, ?_, ⟨_, rfl⟩, hW, hsame.mono (by decide) (by decide)⟩
        · show Steps p.tables e below (T14.setTop (mkF m 20 #[.val (.ref o0), .val (.int (2 : Int32)), .val (.ref o2), .val (.int (2 : Int32)), .val (.int (4 : Int32)), .val (.int (2 : Int32)), .val (.int (F 2))] [(.int (255 : Int32)), (.int (F 2))])) _
          refine XS.icmpNo X14.here hx rfl (hb hby d5_20) rfl (tlt hc20_20).2.2.2 ?_
          show Steps p.tables e below (T14.setTop (mkF m 23 #[.val (.ref o0), .val (.int (2 : Int32)), .val (.ref o2), .val (.int (2 : Int32)), .val (.int (4 : Int32)), .val (.int (2 : Int32)), .val (.int (F 2))] [])) _
          refine XS.iload X14.here hx rfl (hb hby d5_23) rfl ?_
          show Steps p.tables e below (T14.setTop (mkF m 25 #[.val (.ref o0), .val (.int (2 : Int32)), .val (.ref o2), .val (.int (2 : Int32)), .val (.int (4 : Int32)), .val (.int (2 : Int32)), .val (.int (F 2))] [(.int (2 : Int32))])) _
          exact retI X14 hx Bd.returns (hb hby d5_25) hr
        · show Q5u Z o0 o2 F G h0 n0 _ T14.heap _
          rw [e14]
          exact ⟨congrArg (fun q => some (Value.int q)) hv32.symm, N14, K15, (by rw [f5u_o2_a, if_neg hc20_4, if_neg hc20_12, if_pos hc20_20]; exact V14)⟩
      · obtain ⟨cl21, Ar21, Sz21, Nn21, Hs21⟩ := id V14
        have hin21 : ¬ ((2 : Int32) < 0 ∨ cl21.slots.size ≤ ((2 : Int32)).toNatClampNeg) := inb_of Sz21 ⟨by decide, by decide⟩
        obtain ⟨T22, h22, X22, e22, W22, st22⟩ := stB X14 hx hZ e14 Ar21 (j := (2 : Int32)) hin21 (g := (mkF m 31 #[.val (.ref o0), .val (.int (2 : Int32)), .val (.ref o2), .val (.int (2 : Int32)), .val (.int (4 : Int32)), .val (.int (2 : Int32)), .val (.int (F 2))] [(.int ((F 2).toInt8.toInt32)), (.int (2 : Int32)), (.ref o2)])) rfl rfl (hb hby d5_31)
        have V22 : own_AI Z h22 o2 .byte (4 : Int32) (own_upd (own_upd (own_upd G 0 (nar .byte ((F 0).toInt8.toInt32))) 1 (nar .byte ((F 1).toInt8.toInt32))) 2 (nar .byte ((F 2).toInt8.toInt32))) := own_AI.set V14 (fits_nar_byte ((F 2).toInt8.toInt32)) W22
        have K23 : Keep h0 h22 [o2] := K15.wr W22 (Or.inl (List.mem_of_getElem? (i := 0) rfl))
        have Z24 : n0 ≤ h22.size := Nat.le_trans Z0 K23.1
        have N22 := Fr.snoc X22 N14 g_o2
        obtain ⟨LS22, X22, N22⟩ : ∃ L, Stand p l e ({ frames := 0, cells := 0, slots := 0, locals := 0 } : Room) s m #[(.ref o0), (.int (0 : Int32)), (.ref o2), (.int (0 : Int32)), (.int (4 : Int32))] below meth c T22 L 0 0 ∧ Fr n0 L := ⟨_, X22, N22⟩
        have pre25 : ∀ t, Steps p.tables e below (T22.setTop (mkF m 7 #[.val (.ref o0), .val (.int (3 : Int32)), .val (.ref o2), .val (.int (3 : Int32)), .val (.int (4 : Int32)), .val (.int (3 : Int32)), .val (.int (F 2))] [(.int (4 : Int32)), (.int (3 : Int32))])) t → Steps p.tables e below (s₁.setTop (entryFrame m #[(.ref o0), (.int (0 : Int32)), (.ref o2), (.int (0 : Int32)), (.int (4 : Int32))] 7)) t := fun t kt => pre19 t (by
            show Steps p.tables e below (T14.setTop (mkF m 20 #[.val (.ref o0), .val (.int (2 : Int32)), .val (.ref o2), .val (.int (2 : Int32)), .val (.int (4 : Int32)), .val (.int (2 : Int32)), .val (.int (F 2))] [(.int (255 : Int32)), (.int (F 2))])) _
            refine XS.icmpYes X14.here hx rfl (pc0 := 20) (pc' := 26) rfl (hb hby d5_20) rfl (flt hc20_20).2.2.2 (by decide) (by decide) ?_
            show Steps p.tables e below (T14.setTop (mkF m 26 #[.val (.ref o0), .val (.int (2 : Int32)), .val (.ref o2), .val (.int (2 : Int32)), .val (.int (4 : Int32)), .val (.int (2 : Int32)), .val (.int (F 2))] [])) _
            refine XS.aloadN X14.here hx rfl (hb hby d5_26) rfl rfl ?_
            show Steps p.tables e below (T14.setTop (mkF m 27 #[.val (.ref o0), .val (.int (2 : Int32)), .val (.ref o2), .val (.int (2 : Int32)), .val (.int (4 : Int32)), .val (.int (2 : Int32)), .val (.int (F 2))] [(.ref o2)])) _
            refine XS.iloadN X14.here hx rfl (hb hby d5_27) rfl ?_
            show Steps p.tables e below (T14.setTop (mkF m 28 #[.val (.ref o0), .val (.int (2 : Int32)), .val (.ref o2), .val (.int (2 : Int32)), .val (.int (4 : Int32)), .val (.int (2 : Int32)), .val (.int (F 2))] [(.int (2 : Int32)), (.ref o2)])) _
            refine XS.iload X14.here hx rfl (hb hby d5_28) rfl ?_
            show Steps p.tables e below (T14.setTop (mkF m 30 #[.val (.ref o0), .val (.int (2 : Int32)), .val (.ref o2), .val (.int (2 : Int32)), .val (.int (4 : Int32)), .val (.int (2 : Int32)), .val (.int (F 2))] [(.int (F 2)), (.int (2 : Int32)), (.ref o2)])) _
            refine XS.i2b X14.here hx rfl (hb hby d5_30) rfl ?_
            show Steps p.tables e below (T14.setTop (mkF m 31 #[.val (.ref o0), .val (.int (2 : Int32)), .val (.ref o2), .val (.int (2 : Int32)), .val (.int (4 : Int32)), .val (.int (2 : Int32)), .val (.int (F 2))] [(.int ((F 2).toInt8.toInt32)), (.int (2 : Int32)), (.ref o2)])) _
            refine st22 _ ?_
            show Steps p.tables e below (T22.setTop (mkF m 32 #[.val (.ref o0), .val (.int (2 : Int32)), .val (.ref o2), .val (.int (2 : Int32)), .val (.int (4 : Int32)), .val (.int (2 : Int32)), .val (.int (F 2))] [])) _
            refine XS.iinc X22.here hx rfl (hb hby d5_32) rfl (l' := #[.val (.ref o0), .val (.int (3 : Int32)), .val (.ref o2), .val (.int (2 : Int32)), .val (.int (4 : Int32)), .val (.int (2 : Int32)), .val (.int (F 2))]) rfl ?_
            show Steps p.tables e below (T22.setTop (mkF m 35 #[.val (.ref o0), .val (.int (3 : Int32)), .val (.ref o2), .val (.int (2 : Int32)), .val (.int (4 : Int32)), .val (.int (2 : Int32)), .val (.int (F 2))] [])) _
            refine XS.iinc X22.here hx rfl (hb hby d5_35) rfl (l' := #[.val (.ref o0), .val (.int (3 : Int32)), .val (.ref o2), .val (.int (3 : Int32)), .val (.int (4 : Int32)), .val (.int (2 : Int32)), .val (.int (F 2))]) rfl ?_
            show Steps p.tables e below (T22.setTop (mkF m 38 #[.val (.ref o0), .val (.int (3 : Int32)), .val (.ref o2), .val (.int (3 : Int32)), .val (.int (4 : Int32)), .val (.int (2 : Int32)), .val (.int (F 2))] [])) _
            refine XS.iinc X22.here hx rfl (hb hby d5_38) rfl (l' := #[.val (.ref o0), .val (.int (3 : Int32)), .val (.ref o2), .val (.int (3 : Int32)), .val (.int (4 : Int32)), .val (.int (3 : Int32)), .val (.int (F 2))]) rfl ?_
            show Steps p.tables e below (T22.setTop (mkF m 41 #[.val (.ref o0), .val (.int (3 : Int32)), .val (.ref o2), .val (.int (3 : Int32)), .val (.int (4 : Int32)), .val (.int (3 : Int32)), .val (.int (F 2))] [])) _
            refine XS.goto X22.here hx rfl (pc0 := 41) (pc' := 3) rfl (hb hby d5_41) (by decide) (by decide) ?_
            show Steps p.tables e below (T22.setTop (mkF m 3 #[.val (.ref o0), .val (.int (3 : Int32)), .val (.ref o2), .val (.int (3 : Int32)), .val (.int (4 : Int32)), .val (.int (3 : Int32)), .val (.int (F 2))] [])) _
            refine XS.iload X22.here hx rfl (hb hby d5_3) rfl ?_
            show Steps p.tables e below (T22.setTop (mkF m 5 #[.val (.ref o0), .val (.int (3 : Int32)), .val (.ref o2), .val (.int (3 : Int32)), .val (.int (4 : Int32)), .val (.int (3 : Int32)), .val (.int (F 2))] [(.int (3 : Int32))])) _
            refine XS.iload X22.here hx rfl (hb hby d5_5) rfl ?_
            exact kt)
        have c27 := (((V_o0.other W6 ne_o0_o2).other W14 ne_o0_o2).other W22 ne_o0_o2)
        obtain ⟨cl26, Ar26, Sz26, Nn26, Hs26⟩ := id c27
        have hin26 : ¬ ((3 : Int32) < 0 ∨ cl26.slots.size ≤ ((3 : Int32)).toNatClampNeg) := inb_of Sz26 ⟨by decide, by decide⟩
        have hat26 : cl26.slots[((3 : Int32)).toNatClampNeg]? = some (.int (F 3)) := (Hs26 _ (own_lt hin26)).1
        have pre28 : ∀ t, Steps p.tables e below (T22.setTop (mkF m 20 #[.val (.ref o0), .val (.int (3 : Int32)), .val (.ref o2), .val (.int (3 : Int32)), .val (.int (4 : Int32)), .val (.int (3 : Int32)), .val (.int (F 3))] [(.int (255 : Int32)), (.int (F 3))])) t → Steps p.tables e below (s₁.setTop (entryFrame m #[(.ref o0), (.int (0 : Int32)), (.ref o2), (.int (0 : Int32)), (.int (4 : Int32))] 7)) t := fun t kt => pre25 t (by
            show Steps p.tables e below (T22.setTop (mkF m 7 #[.val (.ref o0), .val (.int (3 : Int32)), .val (.ref o2), .val (.int (3 : Int32)), .val (.int (4 : Int32)), .val (.int (3 : Int32)), .val (.int (F 2))] [(.int (4 : Int32)), (.int (3 : Int32))])) _
            refine XS.icmpNo X22.here hx rfl (hb hby d5_7) rfl (tlt (by decide : ((3 : Int32) < (4 : Int32)))).2.1 ?_
            show Steps p.tables e below (T22.setTop (mkF m 10 #[.val (.ref o0), .val (.int (3 : Int32)), .val (.ref o2), .val (.int (3 : Int32)), .val (.int (4 : Int32)), .val (.int (3 : Int32)), .val (.int (F 2))] [])) _
            refine XS.aloadN X22.here hx rfl (hb hby d5_10) rfl rfl ?_
            show Steps p.tables e below (T22.setTop (mkF m 11 #[.val (.ref o0), .val (.int (3 : Int32)), .val (.ref o2), .val (.int (3 : Int32)), .val (.int (4 : Int32)), .val (.int (3 : Int32)), .val (.int (F 2))] [(.ref o0)])) _
            refine XS.iloadN X22.here hx rfl (hb hby d5_11) rfl ?_
            show Steps p.tables e below (T22.setTop (mkF m 12 #[.val (.ref o0), .val (.int (3 : Int32)), .val (.ref o2), .val (.int (3 : Int32)), .val (.int (4 : Int32)), .val (.int (3 : Int32)), .val (.int (F 2))] [(.int (3 : Int32)), (.ref o0)])) _
            refine X22.caload hx (j := (3 : Int32)) (v := (.int (F 3))) (by rw [e22]; exact Ar26.1) (State.isArrayOf_alike hZ.alike Ar26.2.1) Ar26.2.2 hin26 hat26 (g := (mkF m 12 #[.val (.ref o0), .val (.int (3 : Int32)), .val (.ref o2), .val (.int (3 : Int32)), .val (.int (4 : Int32)), .val (.int (3 : Int32)), .val (.int (F 2))] [(.int (3 : Int32)), (.ref o0)])) rfl rfl (hb hby d5_12) _ ?_
            show Steps p.tables e below (T22.setTop (mkF m 13 #[.val (.ref o0), .val (.int (3 : Int32)), .val (.ref o2), .val (.int (3 : Int32)), .val (.int (4 : Int32)), .val (.int (3 : Int32)), .val (.int (F 2))] [(.int (F 3))])) _
            refine XS.istore X22.here hx rfl (hb hby d5_13) rfl (l' := #[.val (.ref o0), .val (.int (3 : Int32)), .val (.ref o2), .val (.int (3 : Int32)), .val (.int (4 : Int32)), .val (.int (3 : Int32)), .val (.int (F 3))]) rfl ?_
            show Steps p.tables e below (T22.setTop (mkF m 15 #[.val (.ref o0), .val (.int (3 : Int32)), .val (.ref o2), .val (.int (3 : Int32)), .val (.int (4 : Int32)), .val (.int (3 : Int32)), .val (.int (F 3))] [])) _
            refine XS.iload X22.here hx rfl (hb hby d5_15) rfl ?_
            show Steps p.tables e below (T22.setTop (mkF m 17 #[.val (.ref o0), .val (.int (3 : Int32)), .val (.ref o2), .val (.int (3 : Int32)), .val (.int (4 : Int32)), .val (.int (3 : Int32)), .val (.int (F 3))] [(.int (F 3))])) _
            refine XS.sipush X22.here hx rfl (hb hby d5_17) ?_
            exact kt)
        have hd20_29 : (255 : Int32) < (F 3) := Classical.byContradiction fun z => hA ⟨hc20_4, hc20_12, hc20_20, z⟩
        obtain ⟨fs, hr, hrun, hended, hW, hsame⟩ := X22.leave (v := some (.int (3 : Int32))) (fun h => by rw [Bd.returns] at h; cases h)
        have hv33 : (f5u F) = (3 : Int32) := by rw [f5u, if_neg hc20_4, if_neg hc20_12, if_neg hc20_20]
        refine ⟨_, _, pre28 _ ?_, hrun, hended, _, _, rfl, ?_, ⟨_, rfl⟩, hW, hsame.mono (by decide) (by decide)⟩
        · show Steps p.tables e below (T22.setTop (mkF m 20 #[.val (.ref o0), .val (.int (3 : Int32)), .val (.ref o2), .val (.int (3 : Int32)), .val (.int (4 : Int32)), .val (.int (3 : Int32)), .val (.int (F 3))] [(.int (255 : Int32)), (.int (F 3))])) _
          refine XS.icmpNo X22.here hx rfl (hb hby d5_20) rfl (tlt hd20_29).2.2.2 ?_
          show Steps p.tables e below (T22.setTop (mkF m 23 #[.val (.ref o0), .val (.int (3 : Int32)), .val (.ref o2), .val (.int (3 : Int32)), .val (.int (4 : Int32)), .val (.int (3 : Int32)), .val (.int (F 3))] [])) _
          refine XS.iload X22.here hx rfl (hb hby d5_23) rfl ?_
          show Steps p.tables e below (T22.setTop (mkF m 25 #[.val (.ref o0), .val (.int (3 : Int32)), .val (.ref o2), .val (.int (3 : Int32)), .val (.int (4 : Int32)), .val (.int (3 : Int32)), .val (.int (F 3))] [(.int (3 : Int32))])) _
          exact retI X22 hx Bd.returns (hb hby d5_25) hr
        · show Q5u Z o0 o2 F G h0 n0 _ T22.heap _
          rw [e22]
          exact ⟨congrArg (fun q => some (Value.int q)) hv33.symm, N22, K23, (by rw [f5u_o2_a, if_neg hc20_4, if_neg hc20_12, if_neg hc20_20]; exact V22)⟩
theorem d4_0 : decode jdk_52_method_16_code 0 = .ok (.iload_n 2, 1) := by decide +kernel
theorem d4_1 : decode jdk_52_method_16_code 1 = .ok (.newarray .byte, 2) := by decide +kernel
theorem d4_3 : decode jdk_52_method_16_code 3 = .ok (.astore_n 3, 1) := by decide +kernel
theorem d4_4 : decode jdk_52_method_16_code 4 = .ok (.aload_n 0, 1) := by decide +kernel
theorem d4_5 : decode jdk_52_method_16_code 5 = .ok (.iload_n 1, 1) := by decide +kernel
theorem d4_6 : decode jdk_52_method_16_code 6 = .ok (.aload_n 3, 1) := by decide +kernel
theorem d4_7 : decode jdk_52_method_16_code 7 = .ok (.iconst 0, 1) := by decide +kernel
theorem d4_8 : decode jdk_52_method_16_code 8 = .ok (.iload_n 2, 1) := by decide +kernel
theorem d4_9 : decode jdk_52_method_16_code 9 = .ok (.invokestatic 115, 3) := by decide +kernel
theorem d4_12 : decode jdk_52_method_16_code 12 = .ok (.istore 4, 2) := by decide +kernel
theorem d4_14 : decode jdk_52_method_16_code 14 = .ok (.iload 4, 2) := by decide +kernel
theorem d4_16 : decode jdk_52_method_16_code 16 = .ok (.iload_n 2, 1) := by decide +kernel
theorem d4_17 : decode jdk_52_method_16_code 17 = .ok (.if_icmp .eq 40, 3) := by decide +kernel
theorem d4_57 : decode jdk_52_method_16_code 57 = .ok (.aload_n 3, 1) := by decide +kernel
theorem d4_58 : decode jdk_52_method_16_code 58 = .ok (.areturn, 1) := by decide +kernel
theorem pn_4l : plainName "java/lang/StringUTF16" = true := by first | (simp [plainName, overriddenIn]; done) | decide +kernel
theorem pd_4l_0 : parseMethodDescriptor "([CI[BII)I" = some ⟨[(.array .char), .int, (.array .byte), .int, .int], some .int⟩ := by decide +kernel
theorem ef_4l (m : MethodId) (x0 : Addr) (x1 : Int32) (x2 : Int32) : entryFrame m #[(.ref x0), (.int x1), (.int x2)] 6 = mkF m 0 #[.val (.ref x0), .val (.int x1), .val (.int x2), .unset, .unset, .unset] [] := by first | (simp [entryFrame, mkF, argsToLocals, Value.category]; done) | rfl
def Q4l (Z : State) (o0 : Addr) (F : Nat → Int32) (h0 : Heap) (n0 : Nat) (v : Option Value) (h : Heap) (L : List Loc) : Prop := ∃ r : Addr, v = some (.ref r) ∧ Fr n0 L ∧ Keep h0 h [] ∧ n0 ≤ r ∧ h0.size ≤ r ∧ own_AI Z h r .byte (4 : Int32) (f5l_o2_a F (fun _ => 0))
set_option maxRecDepth 65536 in
set_option maxHeartbeats 40000000 in
theorem rm4l (l : Launch) (Z : State) (a0 : Array Value) (hw : ∀ d ∈ tables_1, d.before a0 Z = true) (ws : List Jvm.Cond) (o0 : Addr) (F : Nat → Int32) (h0 : Heap) (n0 : Nat) (Z0 : n0 ≤ h0.size) (V_o0 : own_AI Z h0 o0 .char (4 : Int32) F) (hA : (¬ (255 : Int32) < F 0 ∧ ¬ (255 : Int32) < F 1 ∧ ¬ (255 : Int32) < F 2 ∧ ¬ (255 : Int32) < F 3)) :
    MetFree l (⟨"java/lang/StringUTF16", "compress", "([CII)[B"⟩ : MethodName) (head1 (Jvm.Cond.code (⟨"java/lang/StringUTF16", "compress", "([CII)[B"⟩ : MethodName) jdk_52_method_16_code 6 (some (.array .byte)) :: ws) ({ frames := 1, cells := 1, slots := 4, locals := 18 } : Room)) (fun a U => a = #[(.ref o0), (.int (0 : Int32)), (.int (4 : Int32))] ∧ Z.Warmed39 U.vm ∧ U.heap = h0) (fun _ _ _ _ _ => True) (fun _ U o U' => ∃ v L, o = .returned v ∧ Q4l Z o0 F h0 n0 v U'.heap L ∧ FrameEnd U o U' L ({ frames := 1, cells := 1, slots := 4, locals := 18 } : Room).cells ({ frames := 1, cells := 1, slots := 4, locals := 18 } : Room).slots) := by
  refine MetFree.of_bodySF (plainFor_of_name pn_4l) hisR ?_
  intro p e s m args below meth c s₁ Bd hml0 hP hK
  obtain ⟨rfl, hZ, hh⟩ := hP
  have hx := Bd.exec
  have hby := Bd.bytes
  have hml : c.maxLocals = 6 := hml0
  have hown : s.vm.findClass "java/lang/StringUTF16" = some m.cls := findClass_of_methodNamed Bd.named
  have hnm := (name_of_methodNamed Bd.named Bd.method).1
  have X0 : Stand p l e ({ frames := 1, cells := 1, slots := 4, locals := 18 } : Room) s m #[(.ref o0), (.int (0 : Int32)), (.int (4 : Int32))] below meth c s₁ [] 0 0 := Stand.of_body Bd
  have e0 : s₁.heap = h0 := by rw [← hh, Bd.state]; rfl
  have N0 := Fr.nil n0
  have pre0 : ∀ t, Steps p.tables e below (s₁.setTop (mkF m 0 #[.val (.ref o0), .val (.int (0 : Int32)), .val (.int (4 : Int32)), .unset, .unset, .unset] [])) t → Steps p.tables e below (s₁.setTop (entryFrame m #[(.ref o0), (.int (0 : Int32)), (.int (4 : Int32))] 6)) t := fun t k => castTop (ef_4l m o0 (0 : Int32) (4 : Int32)) k
  obtain ⟨T1, h1, k1, X1, e1, E1, A1, st1⟩ := newP X0 hx hZ (hw _ (List.mem_of_getElem? (i := 19) rfl)) e0 (g := (mkF m 1 #[.val (.ref o0), .val (.int (0 : Int32)), .val (.int (4 : Int32)), .unset, .unset, .unset] [(.int (4 : Int32))])) rfl (hb hby d4_1) rfl (by decide) (cap := 4) (by decide) (by decide) (by decide) (by decide)
  obtain ⟨b1, g1⟩ : ∃ z, z = h0.size := ⟨_, rfl⟩
  rw [← g1] at A1 st1
  have g_b1 : n0 ≤ b1 := Nat.le_trans Z0 (Nat.le_of_eq g1.symm)
  have sz_b1 : h0.size ≤ b1 := Nat.le_trans (Keep.refl h0 []).1 (Nat.le_of_eq g1.symm)
  have ne_o0_b1 : o0 ≠ b1 := Nat.ne_of_lt (Nat.lt_of_lt_of_le V_o0.lt (Nat.le_of_eq g1.symm))
  have K2 : Keep h0 h1 [] := (Keep.refl h0 []).ext E1
  have Z3 : n0 ≤ h1.size := Nat.le_trans Z0 K2.1
  have V_b1 : own_AI Z h1 b1 .byte (4 : Int32) (fun _ => 0) := own_AI.new A1 (by decide) rfl
  obtain ⟨_, _, ⟨T4, L4, k4, n4⟩, -, X4, ⟨Lc4, hQ4, l4, y4, z4⟩, st4⟩ := Jvm.LawKit.callS X1 hx (y := (⟨"java/lang/StringUTF16", "compress", "([CI[BII)I"⟩ : MethodName)) hown (mvT hZ (hw _ (List.mem_of_getElem? (i := 20) rfl))) (mvT hZ (hw _ (List.mem_of_getElem? (i := 21) rfl))) (mvT hZ (hw _ (List.mem_of_getElem? (i := 17) rfl))) (mvT hZ (hw _ (List.mem_of_getElem? (i := 22) rfl))) (by decide) (backOf (W := 0) (rm5l l Z a0 hw [] o0 b1 F (fun _ => 0) h1 n0 Z3 (V_o0.ext E1) V_b1 ne_o0_b1 g_b1 (hA)) hZ (hw _ (List.mem_of_getElem? (i := 22) rfl)) (hw _ (List.mem_of_getElem? (i := 17) rfl)) (by decide) (by decide)) (g := (mkF m 9 #[.val (.ref o0), .val (.int (0 : Int32)), .val (.int (4 : Int32)), .val (.ref b1), .unset, .unset] [(.int (4 : Int32)), (.int (0 : Int32)), (.ref b1), (.int (0 : Int32)), (.ref o0)])) rfl (by rw [hml]; rfl) (argsL := [(.ref o0), (.int (0 : Int32)), (.ref b1), (.int (0 : Int32)), (.int (4 : Int32))]) (rest := []) (lenOf pd_4l_0 rfl) rfl (by show 2 * 0 + _ ≤ _; exact Nat.le_of_eq rfl) (hb hby d4_9) (fun _ _ => ⟨rfl, e1, (by decide : 1 + 0 ≤ _), (by decide : 4 + 0 ≤ _)⟩)
  dsimp only [Pt.U, Pt.locs, Pt.cells, Pt.slots] at X4 l4 y4 z4 st4 hQ4
  subst l4 y4 z4
  obtain ⟨rfl, N4q, K4q, G4_0⟩ := hQ4
  have N4 := Fr.app N0 N4q
  have K5 : Keep h0 T4.heap [] := K2.trans K4q (allS (Or.inr sz_b1) all0)
  have Z6 : n0 ≤ T4.heap.size := Nat.le_trans Z0 K5.1
  obtain ⟨LS4, X4, N4⟩ : ∃ L, Stand p l e ({ frames := 1, cells := 1, slots := 4, locals := 18 } : Room) s m #[(.ref o0), (.int (0 : Int32)), (.int (4 : Int32))] below meth c T4 L 1 4 ∧ Fr n0 L := ⟨_, X4, N4⟩
  have pre7 : ∀ t, Steps p.tables e below (T4.setTop (mkF m 17 #[.val (.ref o0), .val (.int (0 : Int32)), .val (.int (4 : Int32)), .val (.ref b1), .val (.int (4 : Int32)), .unset] [(.int (4 : Int32)), (.int (4 : Int32))])) t → Steps p.tables e below (s₁.setTop (entryFrame m #[(.ref o0), (.int (0 : Int32)), (.int (4 : Int32))] 6)) t := fun t kt => pre0 t (by
      show Steps p.tables e below (s₁.setTop (mkF m 0 #[.val (.ref o0), .val (.int (0 : Int32)), .val (.int (4 : Int32)), .unset, .unset, .unset] [])) _
      refine XS.iloadN X0.here hx rfl (hb hby d4_0) rfl ?_
      show Steps p.tables e below (s₁.setTop (mkF m 1 #[.val (.ref o0), .val (.int (0 : Int32)), .val (.int (4 : Int32)), .unset, .unset, .unset] [(.int (4 : Int32))])) _
      refine st1 _ ?_
      show Steps p.tables e below (T1.setTop (mkF m 3 #[.val (.ref o0), .val (.int (0 : Int32)), .val (.int (4 : Int32)), .unset, .unset, .unset] [(.ref b1)])) _
      refine XS.astoreN X1.here hx rfl (hb hby d4_3) rfl rfl (l' := #[.val (.ref o0), .val (.int (0 : Int32)), .val (.int (4 : Int32)), .val (.ref b1), .unset, .unset]) rfl ?_
      show Steps p.tables e below (T1.setTop (mkF m 4 #[.val (.ref o0), .val (.int (0 : Int32)), .val (.int (4 : Int32)), .val (.ref b1), .unset, .unset] [])) _
      refine XS.aloadN X1.here hx rfl (hb hby d4_4) rfl rfl ?_
      show Steps p.tables e below (T1.setTop (mkF m 5 #[.val (.ref o0), .val (.int (0 : Int32)), .val (.int (4 : Int32)), .val (.ref b1), .unset, .unset] [(.ref o0)])) _
      refine XS.iloadN X1.here hx rfl (hb hby d4_5) rfl ?_
      show Steps p.tables e below (T1.setTop (mkF m 6 #[.val (.ref o0), .val (.int (0 : Int32)), .val (.int (4 : Int32)), .val (.ref b1), .unset, .unset] [(.int (0 : Int32)), (.ref o0)])) _
      refine XS.aloadN X1.here hx rfl (hb hby d4_6) rfl rfl ?_
      show Steps p.tables e below (T1.setTop (mkF m 7 #[.val (.ref o0), .val (.int (0 : Int32)), .val (.int (4 : Int32)), .val (.ref b1), .unset, .unset] [(.ref b1), (.int (0 : Int32)), (.ref o0)])) _
      refine XS.iconst X1.here hx rfl (hb hby d4_7) ?_
      show Steps p.tables e below (T1.setTop (mkF m 8 #[.val (.ref o0), .val (.int (0 : Int32)), .val (.int (4 : Int32)), .val (.ref b1), .unset, .unset] [(.int (0 : Int32)), (.ref b1), (.int (0 : Int32)), (.ref o0)])) _
      refine XS.iloadN X1.here hx rfl (hb hby d4_8) rfl ?_
      show Steps p.tables e below (T1.setTop (mkF m 9 #[.val (.ref o0), .val (.int (0 : Int32)), .val (.int (4 : Int32)), .val (.ref b1), .unset, .unset] [(.int (4 : Int32)), (.int (0 : Int32)), (.ref b1), (.int (0 : Int32)), (.ref o0)])) _
      refine st4 _ ?_
      show Steps p.tables e below (T4.setTop (mkF m 12 #[.val (.ref o0), .val (.int (0 : Int32)), .val (.int (4 : Int32)), .val (.ref b1), .unset, .unset] [(.int (4 : Int32))])) _
      refine XS.istore X4.here hx rfl (hb hby d4_12) rfl (l' := #[.val (.ref o0), .val (.int (0 : Int32)), .val (.int (4 : Int32)), .val (.ref b1), .val (.int (4 : Int32)), .unset]) rfl ?_
      show Steps p.tables e below (T4.setTop (mkF m 14 #[.val (.ref o0), .val (.int (0 : Int32)), .val (.int (4 : Int32)), .val (.ref b1), .val (.int (4 : Int32)), .unset] [])) _
      refine XS.iload X4.here hx rfl (hb hby d4_14) rfl ?_
      show Steps p.tables e below (T4.setTop (mkF m 16 #[.val (.ref o0), .val (.int (0 : Int32)), .val (.int (4 : Int32)), .val (.ref b1), .val (.int (4 : Int32)), .unset] [(.int (4 : Int32))])) _
      refine XS.iloadN X4.here hx rfl (hb hby d4_16) rfl ?_
      exact kt)
  obtain ⟨fs, hr, hrun, hended, hW, hsame⟩ := X4.leave (v := some (.ref b1)) (fun h => by rw [Bd.returns] at h; cases h)
  refine ⟨_, _, pre7 _ ?_, hrun, hended, _, _, rfl, ?_, ⟨_, rfl⟩, hW, hsame.mono (by decide) (by decide)⟩
  · show Steps p.tables e below (T4.setTop (mkF m 17 #[.val (.ref o0), .val (.int (0 : Int32)), .val (.int (4 : Int32)), .val (.ref b1), .val (.int (4 : Int32)), .unset] [(.int (4 : Int32)), (.int (4 : Int32))])) _
    refine XS.icmpYes X4.here hx rfl (pc0 := 17) (pc' := 57) rfl (hb hby d4_17) rfl (teq (by decide : ((4 : Int32) = (4 : Int32)))).1 (by decide) (by decide) ?_
    show Steps p.tables e below (T4.setTop (mkF m 57 #[.val (.ref o0), .val (.int (0 : Int32)), .val (.int (4 : Int32)), .val (.ref b1), .val (.int (4 : Int32)), .unset] [])) _
    refine XS.aloadN X4.here hx rfl (hb hby d4_57) rfl rfl ?_
    show Steps p.tables e below (T4.setTop (mkF m 58 #[.val (.ref o0), .val (.int (0 : Int32)), .val (.int (4 : Int32)), .val (.ref b1), .val (.int (4 : Int32)), .unset] [(.ref b1)])) _
    jvm_step X4.here [X4.here.top, hx, (hb hby d4_58), X4.method', Bd.returns, Value.isRef, FieldType.isReference]
    first | (intro acts; rw [hr _ acts rfl rfl rfl]) | rw [hr _ _ rfl rfl rfl]
    exact Steps.refl _
  · show Q4l Z o0 F h0 n0 _ T4.heap _
    exact ⟨b1, rfl, N4, K5, g_b1, sz_b1, G4_0⟩
theorem d4_20 : decode jdk_52_method_16_code 20 = .ok (.aload_n 0, 1) := by decide +kernel
theorem d4_21 : decode jdk_52_method_16_code 21 = .ok (.iload_n 1, 1) := by decide +kernel
theorem d4_22 : decode jdk_52_method_16_code 22 = .ok (.iload_n 2, 1) := by decide +kernel
theorem d4_23 : decode jdk_52_method_16_code 23 = .ok (.invokestatic 119, 3) := by decide +kernel
theorem d4_26 : decode jdk_52_method_16_code 26 = .ok (.astore 5, 2) := by decide +kernel
theorem d4_28 : decode jdk_52_method_16_code 28 = .ok (.aload 5, 2) := by decide +kernel
theorem d4_30 : decode jdk_52_method_16_code 30 = .ok (.iload 4, 2) := by decide +kernel
theorem d4_32 : decode jdk_52_method_16_code 32 = .ok (.invokestatic 71, 3) := by decide +kernel
theorem d4_35 : decode jdk_52_method_16_code 35 = .ok (.sipush 255, 3) := by decide +kernel
theorem d4_38 : decode jdk_52_method_16_code 38 = .ok (.if_icmp .gt 16, 3) := by decide +kernel
theorem d4_54 : decode jdk_52_method_16_code 54 = .ok (.aload 5, 2) := by decide +kernel
theorem d4_56 : decode jdk_52_method_16_code 56 = .ok (.areturn, 1) := by decide +kernel
theorem pn_4u : plainName "java/lang/StringUTF16" = true := by first | (simp [plainName, overriddenIn]; done) | decide +kernel
theorem pd_4u_0 : parseMethodDescriptor "([CI[BII)I" = some ⟨[(.array .char), .int, (.array .byte), .int, .int], some .int⟩ := by decide +kernel
theorem pd_4u_1 : parseMethodDescriptor "([CII)[B" = some ⟨[(.array .char), .int, .int], some (.array .byte)⟩ := by decide +kernel
theorem pd_4u_2 : parseMethodDescriptor "([BI)C" = some ⟨[(.array .byte), .int], some .char⟩ := by decide +kernel
theorem ef_4u (m : MethodId) (x0 : Addr) (x1 : Int32) (x2 : Int32) : entryFrame m #[(.ref x0), (.int x1), (.int x2)] 6 = mkF m 0 #[.val (.ref x0), .val (.int x1), .val (.int x2), .unset, .unset, .unset] [] := by first | (simp [entryFrame, mkF, argsToLocals, Value.category]; done) | rfl
def Q4u (Z : State) (o0 : Addr) (F : Nat → Int32) (h0 : Heap) (n0 : Nat) (v : Option Value) (h : Heap) (L : List Loc) : Prop := ∃ r : Addr, v = some (.ref r) ∧ Fr n0 L ∧ Keep h0 h [] ∧ n0 ≤ r ∧ h0.size ≤ r ∧ own_AI Z h r .byte (8 : Int32) (f18_r_a F)
set_option maxRecDepth 65536 in
set_option maxHeartbeats 40000000 in
theorem rm4u (l : Launch) (Z : State) (a0 : Array Value) (hw : ∀ d ∈ tables_1, d.before a0 Z = true) (ws : List Jvm.Cond) (o0 : Addr) (F : Nat → Int32) (h0 : Heap) (n0 : Nat) (Z0 : n0 ≤ h0.size) (S__assertionsDisabled : Sta Z h0 "java/lang/StringUTF16" "$assertionsDisabled" "Z" (.int (1 : Int32))) (S_HI_BYTE_SHIFT : Sta Z h0 "java/lang/StringUTF16" "HI_BYTE_SHIFT" "I" (.int (0 : Int32))) (S_LO_BYTE_SHIFT : Sta Z h0 "java/lang/StringUTF16" "LO_BYTE_SHIFT" "I" (.int (8 : Int32))) (V_o0 : own_AI Z h0 o0 .char (4 : Int32) F) (hA : ¬ (¬ (255 : Int32) < F 0 ∧ ¬ (255 : Int32) < F 1 ∧ ¬ (255 : Int32) < F 2 ∧ ¬ (255 : Int32) < F 3)) (hch : own_ch F) :
    MetFree l (⟨"java/lang/StringUTF16", "compress", "([CII)[B"⟩ : MethodName) (head1 (Jvm.Cond.code (⟨"java/lang/StringUTF16", "compress", "([CII)[B"⟩ : MethodName) jdk_52_method_16_code 6 (some (.array .byte)) :: ws) ({ frames := 3, cells := 2, slots := 12, locals := 40 } : Room)) (fun a U => a = #[(.ref o0), (.int (0 : Int32)), (.int (4 : Int32))] ∧ Z.Warmed39 U.vm ∧ U.heap = h0) (fun _ _ _ _ _ => True) (fun _ U o U' => ∃ v L, o = .returned v ∧ Q4u Z o0 F h0 n0 v U'.heap L ∧ FrameEnd U o U' L ({ frames := 3, cells := 2, slots := 12, locals := 40 } : Room).cells ({ frames := 3, cells := 2, slots := 12, locals := 40 } : Room).slots) := by
  refine MetFree.of_bodySF (plainFor_of_name pn_4u) hisR ?_
  intro p e s m args below meth c s₁ Bd hml0 hP hK
  obtain ⟨rfl, hZ, hh⟩ := hP
  have hx := Bd.exec
  have hby := Bd.bytes
  have hml : c.maxLocals = 6 := hml0
  have hown : s.vm.findClass "java/lang/StringUTF16" = some m.cls := findClass_of_methodNamed Bd.named
  have hnm := (name_of_methodNamed Bd.named Bd.method).1
  have X0 : Stand p l e ({ frames := 3, cells := 2, slots := 12, locals := 40 } : Room) s m #[(.ref o0), (.int (0 : Int32)), (.int (4 : Int32))] below meth c s₁ [] 0 0 := Stand.of_body Bd
  have e0 : s₁.heap = h0 := by rw [← hh, Bd.state]; rfl
  have N0 := Fr.nil n0
  have pre0 : ∀ t, Steps p.tables e below (s₁.setTop (mkF m 0 #[.val (.ref o0), .val (.int (0 : Int32)), .val (.int (4 : Int32)), .unset, .unset, .unset] [])) t → Steps p.tables e below (s₁.setTop (entryFrame m #[(.ref o0), (.int (0 : Int32)), (.int (4 : Int32))] 6)) t := fun t k => castTop (ef_4u m o0 (0 : Int32) (4 : Int32)) k
  obtain ⟨T1, h1, k1, X1, e1, E1, A1, st1⟩ := newP X0 hx hZ (hw _ (List.mem_of_getElem? (i := 19) rfl)) e0 (g := (mkF m 1 #[.val (.ref o0), .val (.int (0 : Int32)), .val (.int (4 : Int32)), .unset, .unset, .unset] [(.int (4 : Int32))])) rfl (hb hby d4_1) rfl (by decide) (cap := 4) (by decide) (by decide) (by decide) (by decide)
  obtain ⟨b1, g1⟩ : ∃ z, z = h0.size := ⟨_, rfl⟩
  rw [← g1] at A1 st1
  have g_b1 : n0 ≤ b1 := Nat.le_trans Z0 (Nat.le_of_eq g1.symm)
  have sz_b1 : h0.size ≤ b1 := Nat.le_trans (Keep.refl h0 []).1 (Nat.le_of_eq g1.symm)
  have ne_o0_b1 : o0 ≠ b1 := Nat.ne_of_lt (Nat.lt_of_lt_of_le V_o0.lt (Nat.le_of_eq g1.symm))
  have K2 : Keep h0 h1 [] := (Keep.refl h0 []).ext E1
  have Z3 : n0 ≤ h1.size := Nat.le_trans Z0 K2.1
  have V_b1 : own_AI Z h1 b1 .byte (4 : Int32) (fun _ => 0) := own_AI.new A1 (by decide) rfl
  obtain ⟨_, _, ⟨T4, L4, k4, n4⟩, -, X4, ⟨Lc4, hQ4, l4, y4, z4⟩, st4⟩ := Jvm.LawKit.callS X1 hx (y := (⟨"java/lang/StringUTF16", "compress", "([CI[BII)I"⟩ : MethodName)) hown (mvT hZ (hw _ (List.mem_of_getElem? (i := 20) rfl))) (mvT hZ (hw _ (List.mem_of_getElem? (i := 21) rfl))) (mvT hZ (hw _ (List.mem_of_getElem? (i := 17) rfl))) (mvT hZ (hw _ (List.mem_of_getElem? (i := 22) rfl))) (by decide) (backOf (W := 0) (rm5u l Z a0 hw [] o0 b1 F (fun _ => 0) h1 n0 Z3 (V_o0.ext E1) V_b1 ne_o0_b1 g_b1 (hA)) hZ (hw _ (List.mem_of_getElem? (i := 22) rfl)) (hw _ (List.mem_of_getElem? (i := 17) rfl)) (by decide) (by decide)) (g := (mkF m 9 #[.val (.ref o0), .val (.int (0 : Int32)), .val (.int (4 : Int32)), .val (.ref b1), .unset, .unset] [(.int (4 : Int32)), (.int (0 : Int32)), (.ref b1), (.int (0 : Int32)), (.ref o0)])) rfl (by rw [hml]; rfl) (argsL := [(.ref o0), (.int (0 : Int32)), (.ref b1), (.int (0 : Int32)), (.int (4 : Int32))]) (rest := []) (lenOf pd_4u_0 rfl) rfl (by show 2 * 0 + _ ≤ _; exact Nat.le_of_eq rfl) (hb hby d4_9) (fun _ _ => ⟨rfl, e1, (by decide : 1 + 0 ≤ _), (by decide : 4 + 0 ≤ _)⟩)
  dsimp only [Pt.U, Pt.locs, Pt.cells, Pt.slots] at X4 l4 y4 z4 st4 hQ4
  subst l4 y4 z4
  obtain ⟨rfl, N4q, K4q, G4_0⟩ := hQ4
  have N4 := Fr.app N0 N4q
  have S5 := own_Sta_keep (S__assertionsDisabled.ext E1) K4q (allS (own_AI_st V_b1) all0)
  have S6 := own_Sta_keep (S_HI_BYTE_SHIFT.ext E1) K4q (allS (own_AI_st V_b1) all0)
  have S7 := own_Sta_keep (S_LO_BYTE_SHIFT.ext E1) K4q (allS (own_AI_st V_b1) all0)
  have K8 : Keep h0 T4.heap [] := K2.trans K4q (allS (Or.inr sz_b1) all0)
  have Z9 : n0 ≤ T4.heap.size := Nat.le_trans Z0 K8.1
  obtain ⟨LS4, X4, N4⟩ : ∃ L, Stand p l e ({ frames := 3, cells := 2, slots := 12, locals := 40 } : Room) s m #[(.ref o0), (.int (0 : Int32)), (.int (4 : Int32))] below meth c T4 L 1 4 ∧ Fr n0 L := ⟨_, X4, N4⟩
  have pre10 : ∀ t, Steps p.tables e below (T4.setTop (mkF m 17 #[.val (.ref o0), .val (.int (0 : Int32)), .val (.int (4 : Int32)), .val (.ref b1), .val (.int (f5u F)), .unset] [(.int (4 : Int32)), (.int (f5u F))])) t → Steps p.tables e below (s₁.setTop (entryFrame m #[(.ref o0), (.int (0 : Int32)), (.int (4 : Int32))] 6)) t := fun t kt => pre0 t (by
      show Steps p.tables e below (s₁.setTop (mkF m 0 #[.val (.ref o0), .val (.int (0 : Int32)), .val (.int (4 : Int32)), .unset, .unset, .unset] [])) _
      refine XS.iloadN X0.here hx rfl (hb hby d4_0) rfl ?_
      show Steps p.tables e below (s₁.setTop (mkF m 1 #[.val (.ref o0), .val (.int (0 : Int32)), .val (.int (4 : Int32)), .unset, .unset, .unset] [(.int (4 : Int32))])) _
      refine st1 _ ?_
      show Steps p.tables e below (T1.setTop (mkF m 3 #[.val (.ref o0), .val (.int (0 : Int32)), .val (.int (4 : Int32)), .unset, .unset, .unset] [(.ref b1)])) _
      refine XS.astoreN X1.here hx rfl (hb hby d4_3) rfl rfl (l' := #[.val (.ref o0), .val (.int (0 : Int32)), .val (.int (4 : Int32)), .val (.ref b1), .unset, .unset]) rfl ?_
      show Steps p.tables e below (T1.setTop (mkF m 4 #[.val (.ref o0), .val (.int (0 : Int32)), .val (.int (4 : Int32)), .val (.ref b1), .unset, .unset] [])) _
      refine XS.aloadN X1.here hx rfl (hb hby d4_4) rfl rfl ?_
      show Steps p.tables e below (T1.setTop (mkF m 5 #[.val (.ref o0), .val (.int (0 : Int32)), .val (.int (4 : Int32)), .val (.ref b1), .unset, .unset] [(.ref o0)])) _
      refine XS.iloadN X1.here hx rfl (hb hby d4_5) rfl ?_
      show Steps p.tables e below (T1.setTop (mkF m 6 #[.val (.ref o0), .val (.int (0 : Int32)), .val (.int (4 : Int32)), .val (.ref b1), .unset, .unset] [(.int (0 : Int32)), (.ref o0)])) _
      refine XS.aloadN X1.here hx rfl (hb hby d4_6) rfl rfl ?_
      show Steps p.tables e below (T1.setTop (mkF m 7 #[.val (.ref o0), .val (.int (0 : Int32)), .val (.int (4 : Int32)), .val (.ref b1), .unset, .unset] [(.ref b1), (.int (0 : Int32)), (.ref o0)])) _
      refine XS.iconst X1.here hx rfl (hb hby d4_7) ?_
      show Steps p.tables e below (T1.setTop (mkF m 8 #[.val (.ref o0), .val (.int (0 : Int32)), .val (.int (4 : Int32)), .val (.ref b1), .unset, .unset] [(.int (0 : Int32)), (.ref b1), (.int (0 : Int32)), (.ref o0)])) _
      refine XS.iloadN X1.here hx rfl (hb hby d4_8) rfl ?_
      show Steps p.tables e below (T1.setTop (mkF m 9 #[.val (.ref o0), .val (.int (0 : Int32)), .val (.int (4 : Int32)), .val (.ref b1), .unset, .unset] [(.int (4 : Int32)), (.int (0 : Int32)), (.ref b1), (.int (0 : Int32)), (.ref o0)])) _
      refine st4 _ ?_
      show Steps p.tables e below (T4.setTop (mkF m 12 #[.val (.ref o0), .val (.int (0 : Int32)), .val (.int (4 : Int32)), .val (.ref b1), .unset, .unset] [(.int (f5u F))])) _
      refine XS.istore X4.here hx rfl (hb hby d4_12) rfl (l' := #[.val (.ref o0), .val (.int (0 : Int32)), .val (.int (4 : Int32)), .val (.ref b1), .val (.int (f5u F)), .unset]) rfl ?_
      show Steps p.tables e below (T4.setTop (mkF m 14 #[.val (.ref o0), .val (.int (0 : Int32)), .val (.int (4 : Int32)), .val (.ref b1), .val (.int (f5u F)), .unset] [])) _
      refine XS.iload X4.here hx rfl (hb hby d4_14) rfl ?_
      show Steps p.tables e below (T4.setTop (mkF m 16 #[.val (.ref o0), .val (.int (0 : Int32)), .val (.int (4 : Int32)), .val (.ref b1), .val (.int (f5u F)), .unset] [(.int (f5u F))])) _
      refine XS.iloadN X4.here hx rfl (hb hby d4_16) rfl ?_
      exact kt)
  have hd17_11 : ¬ ((f5u F) = (4 : Int32)) := own_c5 F
  obtain ⟨_, _, ⟨T12, L12, k12, n12⟩, -, X12, ⟨Lc12, hQ12, l12, y12, z12⟩, st12⟩ := Jvm.LawKit.callS X4 hx (y := (⟨"java/lang/StringUTF16", "toBytes", "([CII)[B"⟩ : MethodName)) hown (mvT hZ (hw _ (List.mem_of_getElem? (i := 75) rfl))) (mvT hZ (hw _ (List.mem_of_getElem? (i := 76) rfl))) (mvT hZ (hw _ (List.mem_of_getElem? (i := 17) rfl))) (mvT hZ (hw _ (List.mem_of_getElem? (i := 77) rfl))) (by decide) (backOf (W := 0) (rm18 l Z a0 hw [] o0 F T4.heap n0 Z9 S5 S6 S7 ((V_o0.ext E1).keep K4q (ninS ne_o0_b1 nin0))) hZ (hw _ (List.mem_of_getElem? (i := 77) rfl)) (hw _ (List.mem_of_getElem? (i := 17) rfl)) (by decide) (by decide)) (g := (mkF m 23 #[.val (.ref o0), .val (.int (0 : Int32)), .val (.int (4 : Int32)), .val (.ref b1), .val (.int (f5u F)), .unset] [(.int (4 : Int32)), (.int (0 : Int32)), (.ref o0)])) rfl (by rw [hml]; rfl) (argsL := [(.ref o0), (.int (0 : Int32)), (.int (4 : Int32))]) (rest := []) (lenOf pd_4u_1 rfl) rfl (by show 2 * 0 + _ ≤ _; exact Nat.le_of_eq rfl) (hb hby d4_23) (fun _ _ => ⟨rfl, rfl, (by decide : 1 + 1 ≤ _), (by decide : 4 + 8 ≤ _)⟩)
  dsimp only [Pt.U, Pt.locs, Pt.cells, Pt.slots] at X12 l12 y12 z12 st12 hQ12
  subst l12 y12 z12
  obtain ⟨b_12, rfl, N12q, K12q, g_b_12, szq_b_12, G12_0⟩ := hQ12
  have N12 := Fr.app N4 N12q
  have ne_o0_b_12 : o0 ≠ b_12 := Nat.ne_of_lt (Nat.lt_of_lt_of_le ((V_o0.ext E1).keep K4q (ninS ne_o0_b1 nin0)).lt szq_b_12)
  have ne_b1_b_12 : b1 ≠ b_12 := Nat.ne_of_lt (Nat.lt_of_lt_of_le G4_0.lt szq_b_12)
  have sz_b_12 : h0.size ≤ b_12 := Nat.le_trans K8.1 szq_b_12
  have S13 := own_Sta_keep S5 K12q all0
  have S14 := own_Sta_keep S6 K12q all0
  have S15 := own_Sta_keep S7 K12q all0
  have K16 : Keep h0 T12.heap [] := K8.trans K12q all0
  have Z17 : n0 ≤ T12.heap.size := Nat.le_trans Z0 K16.1
  obtain ⟨LS12, X12, N12⟩ : ∃ L, Stand p l e ({ frames := 3, cells := 2, slots := 12, locals := 40 } : Room) s m #[(.ref o0), (.int (0 : Int32)), (.int (4 : Int32))] below meth c T12 L 2 12 ∧ Fr n0 L := ⟨_, X12, N12⟩
  obtain ⟨_, _, ⟨T18, L18, k18, n18⟩, -, X18, ⟨Lc18, hQ18, l18, y18, z18⟩, st18⟩ := Jvm.LawKit.callS X12 hx (y := (⟨"java/lang/StringUTF16", "getChar", "([BI)C"⟩ : MethodName)) hown (mvT hZ (hw _ (List.mem_of_getElem? (i := 91) rfl))) (mvT hZ (hw _ (List.mem_of_getElem? (i := 92) rfl))) (mvT hZ (hw _ (List.mem_of_getElem? (i := 17) rfl))) (mvT hZ (hw _ (List.mem_of_getElem? (i := 93) rfl))) (by decide) (backOf (W := 0) (rm22 l Z a0 hw [] b_12 (f5u F) (f18_r_a F) T12.heap n0 Z17 S13 S14 S15 G12_0 (own_c5b F)) hZ (hw _ (List.mem_of_getElem? (i := 93) rfl)) (hw _ (List.mem_of_getElem? (i := 17) rfl)) (by decide) (by decide)) (g := (mkF m 32 #[.val (.ref o0), .val (.int (0 : Int32)), .val (.int (4 : Int32)), .val (.ref b1), .val (.int (f5u F)), .val (.ref b_12)] [(.int (f5u F)), (.ref b_12)])) rfl (by rw [hml]; rfl) (argsL := [(.ref b_12), (.int (f5u F))]) (rest := []) (lenOf pd_4u_2 rfl) rfl (by show 2 * 0 + _ ≤ _; exact Nat.le_of_eq rfl) (hb hby d4_32) (fun _ _ => ⟨rfl, rfl, (by decide : 2 + 0 ≤ _), (by decide : 12 + 0 ≤ _)⟩)
  dsimp only [Pt.U, Pt.locs, Pt.cells, Pt.slots] at X18 l18 y18 z18 st18 hQ18
  subst l18 y18 z18
  obtain ⟨rfl, N18q, e18q⟩ := hQ18
  have N18 := Fr.app N12 N18q
  have pre19 : ∀ t, Steps p.tables e below (T18.setTop (mkF m 38 #[.val (.ref o0), .val (.int (0 : Int32)), .val (.int (4 : Int32)), .val (.ref b1), .val (.int (f5u F)), .val (.ref b_12)] [(.int (255 : Int32)), (.int (f22 (f5u F) (f18_r_a F)))])) t → Steps p.tables e below (s₁.setTop (entryFrame m #[(.ref o0), (.int (0 : Int32)), (.int (4 : Int32))] 6)) t := fun t kt => pre10 t (by
      show Steps p.tables e below (T4.setTop (mkF m 17 #[.val (.ref o0), .val (.int (0 : Int32)), .val (.int (4 : Int32)), .val (.ref b1), .val (.int (f5u F)), .unset] [(.int (4 : Int32)), (.int (f5u F))])) _
      refine XS.icmpNo X4.here hx rfl (hb hby d4_17) rfl (feq hd17_11).1 ?_
      show Steps p.tables e below (T4.setTop (mkF m 20 #[.val (.ref o0), .val (.int (0 : Int32)), .val (.int (4 : Int32)), .val (.ref b1), .val (.int (f5u F)), .unset] [])) _
      refine XS.aloadN X4.here hx rfl (hb hby d4_20) rfl rfl ?_
      show Steps p.tables e below (T4.setTop (mkF m 21 #[.val (.ref o0), .val (.int (0 : Int32)), .val (.int (4 : Int32)), .val (.ref b1), .val (.int (f5u F)), .unset] [(.ref o0)])) _
      refine XS.iloadN X4.here hx rfl (hb hby d4_21) rfl ?_
      show Steps p.tables e below (T4.setTop (mkF m 22 #[.val (.ref o0), .val (.int (0 : Int32)), .val (.int (4 : Int32)), .val (.ref b1), .val (.int (f5u F)), .unset] [(.int (0 : Int32)), (.ref o0)])) _
      refine XS.iloadN X4.here hx rfl (hb hby d4_22) rfl ?_
      show Steps p.tables e below (T4.setTop (mkF m 23 #[.val (.ref o0), .val (.int (0 : Int32)), .val (.int (4 : Int32)), .val (.ref b1), .val (.int (f5u F)), .unset] [(.int (4 : Int32)), (.int (0 : Int32)), (.ref o0)])) _
      refine st12 _ ?_
      show Steps p.tables e below (T12.setTop (mkF m 26 #[.val (.ref o0), .val (.int (0 : Int32)), .val (.int (4 : Int32)), .val (.ref b1), .val (.int (f5u F)), .unset] [(.ref b_12)])) _
      refine XS.astore X12.here hx rfl (hb hby d4_26) rfl rfl (l' := #[.val (.ref o0), .val (.int (0 : Int32)), .val (.int (4 : Int32)), .val (.ref b1), .val (.int (f5u F)), .val (.ref b_12)]) rfl ?_
      show Steps p.tables e below (T12.setTop (mkF m 28 #[.val (.ref o0), .val (.int (0 : Int32)), .val (.int (4 : Int32)), .val (.ref b1), .val (.int (f5u F)), .val (.ref b_12)] [])) _
      refine XS.aload X12.here hx rfl (hb hby d4_28) rfl rfl ?_
      show Steps p.tables e below (T12.setTop (mkF m 30 #[.val (.ref o0), .val (.int (0 : Int32)), .val (.int (4 : Int32)), .val (.ref b1), .val (.int (f5u F)), .val (.ref b_12)] [(.ref b_12)])) _
      refine XS.iload X12.here hx rfl (hb hby d4_30) rfl ?_
      show Steps p.tables e below (T12.setTop (mkF m 32 #[.val (.ref o0), .val (.int (0 : Int32)), .val (.int (4 : Int32)), .val (.ref b1), .val (.int (f5u F)), .val (.ref b_12)] [(.int (f5u F)), (.ref b_12)])) _
      refine st18 _ ?_
      show Steps p.tables e below (T18.setTop (mkF m 35 #[.val (.ref o0), .val (.int (0 : Int32)), .val (.int (4 : Int32)), .val (.ref b1), .val (.int (f5u F)), .val (.ref b_12)] [(.int (f22 (f5u F) (f18_r_a F)))])) _
      refine XS.sipush X18.here hx rfl (hb hby d4_35) ?_
      exact kt)
  have hd38_20 : (255 : Int32) < (f22 (f5u F) (f18_r_a F)) := own_c5c hch hA
  obtain ⟨fs, hr, hrun, hended, hW, hsame⟩ := X18.leave (v := some (.ref b_12)) (fun h => by rw [Bd.returns] at h; cases h)
  refine ⟨_, _, pre19 _ ?_, hrun, hended, _, _, rfl, ?_, ⟨_, rfl⟩, hW, hsame.mono (by decide) (by decide)⟩
  · show Steps p.tables e below (T18.setTop (mkF m 38 #[.val (.ref o0), .val (.int (0 : Int32)), .val (.int (4 : Int32)), .val (.ref b1), .val (.int (f5u F)), .val (.ref b_12)] [(.int (255 : Int32)), (.int (f22 (f5u F) (f18_r_a F)))])) _
    refine XS.icmpYes X18.here hx rfl (pc0 := 38) (pc' := 54) rfl (hb hby d4_38) rfl (tlt hd38_20).2.2.1 (by decide) (by decide) ?_
    show Steps p.tables e below (T18.setTop (mkF m 54 #[.val (.ref o0), .val (.int (0 : Int32)), .val (.int (4 : Int32)), .val (.ref b1), .val (.int (f5u F)), .val (.ref b_12)] [])) _
    refine XS.aload X18.here hx rfl (hb hby d4_54) rfl rfl ?_
    show Steps p.tables e below (T18.setTop (mkF m 56 #[.val (.ref o0), .val (.int (0 : Int32)), .val (.int (4 : Int32)), .val (.ref b1), .val (.int (f5u F)), .val (.ref b_12)] [(.ref b_12)])) _
    jvm_step X18.here [X18.here.top, hx, (hb hby d4_56), X18.method', Bd.returns, Value.isRef, FieldType.isReference]
    first | (intro acts; rw [hr _ acts rfl rfl rfl]) | rw [hr _ _ rfl rfl rfl]
    exact Steps.refl _
  · show Q4u Z o0 F h0 n0 _ T18.heap _
    rw [e18q]
    exact ⟨b_12, rfl, N18, K16, g_b_12, sz_b_12, G12_0⟩
theorem d6_0 : decode jdk_52_method_15_code 0 = .ok (.iload_n 1, 1) := by decide +kernel
theorem d6_1 : decode jdk_52_method_15_code 1 = .ok (.aload_n 0, 1) := by decide +kernel
theorem d6_2 : decode jdk_52_method_15_code 2 = .ok (.arraylength, 1) := by decide +kernel
theorem d6_3 : decode jdk_52_method_15_code 3 = .ok (.isub, 1) := by decide +kernel
theorem d6_4 : decode jdk_52_method_15_code 4 = .ok (.bipush 31, 2) := by decide +kernel
theorem d6_6 : decode jdk_52_method_15_code 6 = .ok (.iushr, 1) := by decide +kernel
theorem d6_7 : decode jdk_52_method_15_code 7 = .ok (.i2b, 1) := by decide +kernel
theorem d6_8 : decode jdk_52_method_15_code 8 = .ok (.ireturn, 1) := by decide +kernel
theorem pn_6l : plainName "java/lang/StringUTF16" = true := by first | (simp [plainName, overriddenIn]; done) | decide +kernel
theorem ef_6l (m : MethodId) (x0 : Addr) (x1 : Int32) : entryFrame m #[(.ref x0), (.int x1)] 2 = mkF m 0 #[.val (.ref x0), .val (.int x1)] [] := by first | (simp [entryFrame, mkF, argsToLocals, Value.category]; done) | rfl
def Q6l (Z : State) (o0 : Addr) (F : Nat → Int32) (h0 : Heap) (n0 : Nat) (v : Option Value) (h : Heap) (L : List Loc) : Prop := v = some (.int (0 : Int32)) ∧ Fr n0 L ∧ h = h0
set_option maxRecDepth 65536 in
set_option maxHeartbeats 40000000 in
theorem rm6l (l : Launch) (Z : State) (a0 : Array Value) (hw : ∀ d ∈ tables_1, d.before a0 Z = true) (ws : List Jvm.Cond) (o0 : Addr) (F : Nat → Int32) (h0 : Heap) (n0 : Nat) (Z0 : n0 ≤ h0.size) (V_o0 : own_AI Z h0 o0 .byte (4 : Int32) F) :
    MetFree l (⟨"java/lang/StringUTF16", "coderFromArrayLen", "([BI)B"⟩ : MethodName) (head1 (Jvm.Cond.code (⟨"java/lang/StringUTF16", "coderFromArrayLen", "([BI)B"⟩ : MethodName) jdk_52_method_15_code 2 (some .byte) :: ws) ({ frames := 0, cells := 0, slots := 0, locals := 0 } : Room)) (fun a U => a = #[(.ref o0), (.int (4 : Int32))] ∧ Z.Warmed39 U.vm ∧ U.heap = h0) (fun _ _ _ _ _ => True) (fun _ U o U' => ∃ v L, o = .returned v ∧ Q6l Z o0 F h0 n0 v U'.heap L ∧ FrameEnd U o U' L ({ frames := 0, cells := 0, slots := 0, locals := 0 } : Room).cells ({ frames := 0, cells := 0, slots := 0, locals := 0 } : Room).slots) := by
  refine MetFree.of_bodySF (plainFor_of_name pn_6l) hisR ?_
  intro p e s m args below meth c s₁ Bd hml0 hP hK
  obtain ⟨rfl, hZ, hh⟩ := hP
  have hx := Bd.exec
  have hby := Bd.bytes
  have hml : c.maxLocals = 2 := hml0
  have hown : s.vm.findClass "java/lang/StringUTF16" = some m.cls := findClass_of_methodNamed Bd.named
  have hnm := (name_of_methodNamed Bd.named Bd.method).1
  have X0 : Stand p l e ({ frames := 0, cells := 0, slots := 0, locals := 0 } : Room) s m #[(.ref o0), (.int (4 : Int32))] below meth c s₁ [] 0 0 := Stand.of_body Bd
  have e0 : s₁.heap = h0 := by rw [← hh, Bd.state]; rfl
  have N0 := Fr.nil n0
  have pre0 : ∀ t, Steps p.tables e below (s₁.setTop (mkF m 0 #[.val (.ref o0), .val (.int (4 : Int32))] [])) t → Steps p.tables e below (s₁.setTop (entryFrame m #[(.ref o0), (.int (4 : Int32))] 2)) t := fun t k => castTop (ef_6l m o0 (4 : Int32)) k
  obtain ⟨cl1, Ar1, Sz1, Nn1, -⟩ := id V_o0
  obtain ⟨fs, hr, hrun, hended, hW, hsame⟩ := X0.leave (v := some (.int (0 : Int32))) (fun h => by rw [Bd.returns] at h; cases h)
  have hv2 : (0 : Int32) = (0 : Int32) := rfl
  refine ⟨_, _, pre0 _ ?_, hrun, hended, _, _, rfl, ?_, ⟨_, rfl⟩, hW, hsame.mono (by decide) (by decide)⟩
  · show Steps p.tables e below (s₁.setTop (mkF m 0 #[.val (.ref o0), .val (.int (4 : Int32))] [])) _
    refine XS.iloadN X0.here hx rfl (hb hby d6_0) rfl ?_
    show Steps p.tables e below (s₁.setTop (mkF m 1 #[.val (.ref o0), .val (.int (4 : Int32))] [(.int (4 : Int32))])) _
    refine XS.aloadN X0.here hx rfl (hb hby d6_1) rfl rfl ?_
    show Steps p.tables e below (s₁.setTop (mkF m 2 #[.val (.ref o0), .val (.int (4 : Int32))] [(.ref o0), (.int (4 : Int32))])) _
    refine X0.arraylength hx (by rw [e0]; exact Ar1.1) (State.isArrayOf_alike hZ.alike Ar1.2.1) (g := (mkF m 2 #[.val (.ref o0), .val (.int (4 : Int32))] [(.ref o0), (.int (4 : Int32))])) rfl rfl (hb hby d6_2) _ ?_
    rw [len_of Sz1 Nn1]
    show Steps p.tables e below (s₁.setTop (mkF m 3 #[.val (.ref o0), .val (.int (4 : Int32))] [(.int (4 : Int32)), (.int (4 : Int32))])) _
    refine XS.isub X0.here hx rfl (hb hby d6_3) rfl ?_
    show Steps p.tables e below (s₁.setTop (mkF m 4 #[.val (.ref o0), .val (.int (4 : Int32))] [(.int (0 : Int32))])) _
    refine XS.bipush X0.here hx rfl (hb hby d6_4) ?_
    show Steps p.tables e below (s₁.setTop (mkF m 6 #[.val (.ref o0), .val (.int (4 : Int32))] [(.int (31 : Int32)), (.int (0 : Int32))])) _
    refine XS.iushr X0.here hx rfl (hb hby d6_6) rfl ?_
    show Steps p.tables e below (s₁.setTop (mkF m 7 #[.val (.ref o0), .val (.int (4 : Int32))] [(.int (0 : Int32))])) _
    refine XS.i2b X0.here hx rfl (hb hby d6_7) rfl ?_
    show Steps p.tables e below (s₁.setTop (mkF m 8 #[.val (.ref o0), .val (.int (4 : Int32))] [(.int (0 : Int32))])) _
    exact retN X0 hx (t := .byte) Bd.returns (by simp) (hb hby d6_8) hr
  · show Q6l Z o0 F h0 n0 _ s₁.heap _
    rw [e0]
    exact ⟨congrArg (fun q => some (Value.int q)) hv2.symm, N0, rfl⟩
theorem pn_6u : plainName "java/lang/StringUTF16" = true := by first | (simp [plainName, overriddenIn]; done) | decide +kernel
theorem ef_6u (m : MethodId) (x0 : Addr) (x1 : Int32) : entryFrame m #[(.ref x0), (.int x1)] 2 = mkF m 0 #[.val (.ref x0), .val (.int x1)] [] := by first | (simp [entryFrame, mkF, argsToLocals, Value.category]; done) | rfl
def Q6u (Z : State) (o0 : Addr) (F : Nat → Int32) (h0 : Heap) (n0 : Nat) (v : Option Value) (h : Heap) (L : List Loc) : Prop := v = some (.int (1 : Int32)) ∧ Fr n0 L ∧ h = h0
set_option maxRecDepth 65536 in
set_option maxHeartbeats 40000000 in
theorem rm6u (l : Launch) (Z : State) (a0 : Array Value) (hw : ∀ d ∈ tables_1, d.before a0 Z = true) (ws : List Jvm.Cond) (o0 : Addr) (F : Nat → Int32) (h0 : Heap) (n0 : Nat) (Z0 : n0 ≤ h0.size) (V_o0 : own_AI Z h0 o0 .byte (8 : Int32) F) :
    MetFree l (⟨"java/lang/StringUTF16", "coderFromArrayLen", "([BI)B"⟩ : MethodName) (head1 (Jvm.Cond.code (⟨"java/lang/StringUTF16", "coderFromArrayLen", "([BI)B"⟩ : MethodName) jdk_52_method_15_code 2 (some .byte) :: ws) ({ frames := 0, cells := 0, slots := 0, locals := 0 } : Room)) (fun a U => a = #[(.ref o0), (.int (4 : Int32))] ∧ Z.Warmed39 U.vm ∧ U.heap = h0) (fun _ _ _ _ _ => True) (fun _ U o U' => ∃ v L, o = .returned v ∧ Q6u Z o0 F h0 n0 v U'.heap L ∧ FrameEnd U o U' L ({ frames := 0, cells := 0, slots := 0, locals := 0 } : Room).cells ({ frames := 0, cells := 0, slots := 0, locals := 0 } : Room).slots) := by
  refine MetFree.of_bodySF (plainFor_of_name pn_6u) hisR ?_
  intro p e s m args below meth c s₁ Bd hml0 hP hK
  obtain ⟨rfl, hZ, hh⟩ := hP
  have hx := Bd.exec
  have hby := Bd.bytes
  have hml : c.maxLocals = 2 := hml0
  have hown : s.vm.findClass "java/lang/StringUTF16" = some m.cls := findClass_of_methodNamed Bd.named
  have hnm := (name_of_methodNamed Bd.named Bd.method).1
  have X0 : Stand p l e ({ frames := 0, cells := 0, slots := 0, locals := 0 } : Room) s m #[(.ref o0), (.int (4 : Int32))] below meth c s₁ [] 0 0 := Stand.of_body Bd
  have e0 : s₁.heap = h0 := by rw [← hh, Bd.state]; rfl
  have N0 := Fr.nil n0
  have pre0 : ∀ t, Steps p.tables e below (s₁.setTop (mkF m 0 #[.val (.ref o0), .val (.int (4 : Int32))] [])) t → Steps p.tables e below (s₁.setTop (entryFrame m #[(.ref o0), (.int (4 : Int32))] 2)) t := fun t k => castTop (ef_6u m o0 (4 : Int32)) k
  obtain ⟨cl1, Ar1, Sz1, Nn1, -⟩ := id V_o0
  obtain ⟨fs, hr, hrun, hended, hW, hsame⟩ := X0.leave (v := some (.int (1 : Int32))) (fun h => by rw [Bd.returns] at h; cases h)
  have hv2 : (1 : Int32) = (1 : Int32) := rfl
  refine ⟨_, _, pre0 _ ?_, hrun, hended, _, _, rfl, ?_, ⟨_, rfl⟩, hW, hsame.mono (by decide) (by decide)⟩
  · show Steps p.tables e below (s₁.setTop (mkF m 0 #[.val (.ref o0), .val (.int (4 : Int32))] [])) _
    refine XS.iloadN X0.here hx rfl (hb hby d6_0) rfl ?_
    show Steps p.tables e below (s₁.setTop (mkF m 1 #[.val (.ref o0), .val (.int (4 : Int32))] [(.int (4 : Int32))])) _
    refine XS.aloadN X0.here hx rfl (hb hby d6_1) rfl rfl ?_
    show Steps p.tables e below (s₁.setTop (mkF m 2 #[.val (.ref o0), .val (.int (4 : Int32))] [(.ref o0), (.int (4 : Int32))])) _
    refine X0.arraylength hx (by rw [e0]; exact Ar1.1) (State.isArrayOf_alike hZ.alike Ar1.2.1) (g := (mkF m 2 #[.val (.ref o0), .val (.int (4 : Int32))] [(.ref o0), (.int (4 : Int32))])) rfl rfl (hb hby d6_2) _ ?_
    rw [len_of Sz1 Nn1]
    show Steps p.tables e below (s₁.setTop (mkF m 3 #[.val (.ref o0), .val (.int (4 : Int32))] [(.int (8 : Int32)), (.int (4 : Int32))])) _
    refine XS.isub X0.here hx rfl (hb hby d6_3) rfl ?_
    show Steps p.tables e below (s₁.setTop (mkF m 4 #[.val (.ref o0), .val (.int (4 : Int32))] [(.int (-4 : Int32))])) _
    refine XS.bipush X0.here hx rfl (hb hby d6_4) ?_
    show Steps p.tables e below (s₁.setTop (mkF m 6 #[.val (.ref o0), .val (.int (4 : Int32))] [(.int (31 : Int32)), (.int (-4 : Int32))])) _
    refine XS.iushr X0.here hx rfl (hb hby d6_6) rfl ?_
    show Steps p.tables e below (s₁.setTop (mkF m 7 #[.val (.ref o0), .val (.int (4 : Int32))] [(.int (1 : Int32))])) _
    refine XS.i2b X0.here hx rfl (hb hby d6_7) rfl ?_
    show Steps p.tables e below (s₁.setTop (mkF m 8 #[.val (.ref o0), .val (.int (4 : Int32))] [(.int (1 : Int32))])) _
    exact retN X0 hx (t := .byte) Bd.returns (by simp) (hb hby d6_8) hr
  · show Q6u Z o0 F h0 n0 _ s₁.heap _
    rw [e0]
    exact ⟨congrArg (fun q => some (Value.int q)) hv2.symm, N0, rfl⟩
theorem d2_0 : decode jdk_42_method_149_code 0 = .ok (.aload_n 0, 1) := by decide +kernel
theorem d2_1 : decode jdk_42_method_149_code 1 = .ok (.invokespecial 1, 3) := by decide +kernel
theorem d2_4 : decode jdk_42_method_149_code 4 = .ok (.iload_n 3, 1) := by decide +kernel
theorem d2_5 : decode jdk_42_method_149_code 5 = .ok (.ifCond .ne 22, 3) := by decide +kernel
theorem d2_27 : decode jdk_42_method_149_code 27 = .ok (.getstatic 38, 3) := by decide +kernel
theorem d2_30 : decode jdk_42_method_149_code 30 = .ok (.ifCond .eq 28, 3) := by decide +kernel
theorem d2_33 : decode jdk_42_method_149_code 33 = .ok (.aload_n 1, 1) := by decide +kernel
theorem d2_34 : decode jdk_42_method_149_code 34 = .ok (.iload_n 2, 1) := by decide +kernel
theorem d2_35 : decode jdk_42_method_149_code 35 = .ok (.iload_n 3, 1) := by decide +kernel
theorem d2_36 : decode jdk_42_method_149_code 36 = .ok (.invokestatic 177, 3) := by decide +kernel
theorem d2_39 : decode jdk_42_method_149_code 39 = .ok (.astore 5, 2) := by decide +kernel
theorem d2_41 : decode jdk_42_method_149_code 41 = .ok (.aload_n 0, 1) := by decide +kernel
theorem d2_42 : decode jdk_42_method_149_code 42 = .ok (.aload 5, 2) := by decide +kernel
theorem d2_44 : decode jdk_42_method_149_code 44 = .ok (.iload_n 3, 1) := by decide +kernel
theorem d2_45 : decode jdk_42_method_149_code 45 = .ok (.invokestatic 47, 3) := by decide +kernel
theorem d2_48 : decode jdk_42_method_149_code 48 = .ok (.putfield 15, 3) := by decide +kernel
theorem d2_51 : decode jdk_42_method_149_code 51 = .ok (.aload_n 0, 1) := by decide +kernel
theorem d2_52 : decode jdk_42_method_149_code 52 = .ok (.aload 5, 2) := by decide +kernel
theorem d2_54 : decode jdk_42_method_149_code 54 = .ok (.putfield 9, 3) := by decide +kernel
theorem d2_57 : decode jdk_42_method_149_code 57 = .ok (.return_, 1) := by decide +kernel
theorem pn_2l : plainName "java/lang/String" = true := by first | (simp [plainName, overriddenIn]; done) | decide +kernel
theorem pd_2l_0 : parseMethodDescriptor "([CII)[B" = some ⟨[(.array .char), .int, .int], some (.array .byte)⟩ := by decide +kernel
theorem pd_2l_1 : parseMethodDescriptor "([BI)B" = some ⟨[(.array .byte), .int], some .byte⟩ := by decide +kernel
theorem ef_2l (m : MethodId) (x0 : Addr) (x1 : Addr) (x2 : Int32) (x3 : Int32) : entryFrame m #[(.ref x0), (.ref x1), (.int x2), (.int x3), .null] 6 = mkF m 0 #[.val (.ref x0), .val (.ref x1), .val (.int x2), .val (.int x3), .val .null, .unset] [] := by first | (simp [entryFrame, mkF, argsToLocals, Value.category]; done) | rfl
def Q2l (Z : State) (o0 : Addr) (o1 : Addr) (cs : Int32) (F : Nat → Int32) (h0 : Heap) (n0 : Nat) (v : Option Value) (h : Heap) (L : List Loc) : Prop := ∃ r_o0_value : Addr, v = none ∧ Fr n0 L ∧ Keep h0 h [o0] ∧ n0 ≤ r_o0_value ∧ h0.size ≤ r_o0_value ∧ Fld Z h o0 "java/lang/String" "coder" "B" (.int (0 : Int32)) ∧ Fld Z h o0 "java/lang/String" "value" "[B" (.ref r_o0_value) ∧ own_AI Z h r_o0_value .byte (4 : Int32) (f5l_o2_a F (fun _ => 0))
set_option maxRecDepth 65536 in
set_option maxHeartbeats 40000000 in
theorem rm2l (l : Launch) (Z : State) (a0 : Array Value) (hw : ∀ d ∈ tables_1, d.before a0 Z = true) (ws : List Jvm.Cond) (o0 : Addr) (o1 : Addr) (cs : Int32) (F : Nat → Int32) (h0 : Heap) (n0 : Nat) (Z0 : n0 ≤ h0.size) (S_COMPACT_STRINGS : Sta Z h0 "java/lang/String" "COMPACT_STRINGS" "Z" (.int cs)) (hcs : ¬ cs = (0 : Int32)) (V_o1 : own_AI Z h0 o1 .char (4 : Int32) F) (E_o0 : Exa Z h0 o0 "java/lang/String") (F_coder_o0 : Fld Z h0 o0 "java/lang/String" "coder" "B" (.int (0 : Int32))) (F_value_o0 : Fld Z h0 o0 "java/lang/String" "value" "[B" .null) (g_o0 : n0 ≤ o0) (ne_o0_o1 : o0 ≠ o1) (hA : (¬ (255 : Int32) < F 0 ∧ ¬ (255 : Int32) < F 1 ∧ ¬ (255 : Int32) < F 2 ∧ ¬ (255 : Int32) < F 3)) :
    MetFree l (⟨"java/lang/String", "<init>", "([CIILjava/lang/Void;)V"⟩ : MethodName) (head1 (Jvm.Cond.code (⟨"java/lang/String", "<init>", "([CIILjava/lang/Void;)V"⟩ : MethodName) jdk_42_method_149_code 6 none :: ws) ({ frames := 2, cells := 1, slots := 4, locals := 35 } : Room)) (fun a U => a = #[(.ref o0), (.ref o1), (.int (0 : Int32)), (.int (4 : Int32)), .null] ∧ Z.Warmed39 U.vm ∧ U.heap = h0) (fun _ _ _ _ _ => True) (fun _ U o U' => ∃ v L, o = .returned v ∧ Q2l Z o0 o1 cs F h0 n0 v U'.heap L ∧ FrameEnd U o U' L ({ frames := 2, cells := 1, slots := 4, locals := 35 } : Room).cells ({ frames := 2, cells := 1, slots := 4, locals := 35 } : Room).slots) := by
  refine MetFree.of_bodySF (plainFor_of_name pn_2l) hisR ?_
  intro p e s m args below meth c s₁ Bd hml0 hP hK
  obtain ⟨rfl, hZ, hh⟩ := hP
  have hx := Bd.exec
  have hby := Bd.bytes
  have hml : c.maxLocals = 6 := hml0
  have hown : s.vm.findClass "java/lang/String" = some m.cls := findClass_of_methodNamed Bd.named
  have hnm := (name_of_methodNamed Bd.named Bd.method).1
  have X0 : Stand p l e ({ frames := 2, cells := 1, slots := 4, locals := 35 } : Room) s m #[(.ref o0), (.ref o1), (.int (0 : Int32)), (.int (4 : Int32)), .null] below meth c s₁ [] 0 0 := Stand.of_body Bd
  have e0 : s₁.heap = h0 := by rw [← hh, Bd.state]; rfl
  have N0 := Fr.nil n0
  have pre0 : ∀ t, Steps p.tables e below (s₁.setTop (mkF m 0 #[.val (.ref o0), .val (.ref o1), .val (.int (0 : Int32)), .val (.int (4 : Int32)), .val .null, .unset] [])) t → Steps p.tables e below (s₁.setTop (entryFrame m #[(.ref o0), (.ref o1), (.int (0 : Int32)), (.int (4 : Int32)), .null] 6)) t := fun t k => castTop (ef_2l m o0 o1 (0 : Int32) (4 : Int32)) k
  obtain ⟨T1, X1, e1, st1⟩ := initO X0 hx hZ hown (hw _ (List.mem_of_getElem? (i := 11) rfl)) (hw _ (List.mem_of_getElem? (i := 12) rfl)) (hw _ (List.mem_of_getElem? (i := 13) rfl)) e0 (g := (mkF m 1 #[.val (.ref o0), .val (.ref o1), .val (.int (0 : Int32)), .val (.int (4 : Int32)), .val .null, .unset] [(.ref o0)])) rfl (by rw [hml]; rfl) rfl (hb hby d2_1) (by decide) (W := 0) (by show 2 * 0 + _ ≤ _; exact Nat.le_of_eq rfl) (by decide)
  have pre2 : ∀ t, Steps p.tables e below (T1.setTop (mkF m 5 #[.val (.ref o0), .val (.ref o1), .val (.int (0 : Int32)), .val (.int (4 : Int32)), .val .null, .unset] [(.int (4 : Int32))])) t → Steps p.tables e below (s₁.setTop (entryFrame m #[(.ref o0), (.ref o1), (.int (0 : Int32)), (.int (4 : Int32)), .null] 6)) t := fun t kt => pre0 t (by
      show Steps p.tables e below (s₁.setTop (mkF m 0 #[.val (.ref o0), .val (.ref o1), .val (.int (0 : Int32)), .val (.int (4 : Int32)), .val .null, .unset] [])) _
      refine XS.aloadN X0.here hx rfl (hb hby d2_0) rfl rfl ?_
      show Steps p.tables e below (s₁.setTop (mkF m 1 #[.val (.ref o0), .val (.ref o1), .val (.int (0 : Int32)), .val (.int (4 : Int32)), .val .null, .unset] [(.ref o0)])) _
      refine st1 _ ?_
      show Steps p.tables e below (T1.setTop (mkF m 4 #[.val (.ref o0), .val (.ref o1), .val (.int (0 : Int32)), .val (.int (4 : Int32)), .val .null, .unset] [])) _
      refine XS.iloadN X1.here hx rfl (hb hby d2_4) rfl ?_
      exact kt)
  obtain ⟨T3, X3, e3, st3⟩ := getS2 X1 hx hZ hown (host := "") (Or.inl (hw _ (List.mem_of_getElem? (i := 14) rfl))) Via.refl e1 S_COMPACT_STRINGS (g := (mkF m 27 #[.val (.ref o0), .val (.ref o1), .val (.int (0 : Int32)), .val (.int (4 : Int32)), .val .null, .unset] [])) rfl (hb hby d2_27)
  have pre4 : ∀ t, Steps p.tables e below (T3.setTop (mkF m 30 #[.val (.ref o0), .val (.ref o1), .val (.int (0 : Int32)), .val (.int (4 : Int32)), .val .null, .unset] [(.int cs)])) t → Steps p.tables e below (s₁.setTop (entryFrame m #[(.ref o0), (.ref o1), (.int (0 : Int32)), (.int (4 : Int32)), .null] 6)) t := fun t kt => pre2 t (by
      show Steps p.tables e below (T1.setTop (mkF m 5 #[.val (.ref o0), .val (.ref o1), .val (.int (0 : Int32)), .val (.int (4 : Int32)), .val .null, .unset] [(.int (4 : Int32))])) _
      refine XS.ifYes X1.here hx rfl (pc0 := 5) (pc' := 27) rfl (hb hby d2_5) rfl ((if0 _ _).trans (feq (by decide : ¬ ((4 : Int32) = (0 : Int32)))).2) (by decide) (by decide) ?_
      show Steps p.tables e below (T1.setTop (mkF m 27 #[.val (.ref o0), .val (.ref o1), .val (.int (0 : Int32)), .val (.int (4 : Int32)), .val .null, .unset] [])) _
      refine st3 _ ?_
      exact kt)
  have hd30_5 : ¬ (cs = (0 : Int32)) := hcs
  obtain ⟨_, _, ⟨T6, L6, k6, n6⟩, -, X6, ⟨Lc6, hQ6, l6, y6, z6⟩, st6⟩ := Jvm.LawKit.callS X3 hx (y := (⟨"java/lang/StringUTF16", "compress", "([CII)[B"⟩ : MethodName)) hown (mvT hZ (hw _ (List.mem_of_getElem? (i := 15) rfl))) (mvT hZ (hw _ (List.mem_of_getElem? (i := 16) rfl))) (mvT hZ (hw _ (List.mem_of_getElem? (i := 17) rfl))) (mvT hZ (hw _ (List.mem_of_getElem? (i := 18) rfl))) (by decide) (backOf (W := 0) (rm4l l Z a0 hw [] o1 F h0 n0 Z0 V_o1 (hA)) hZ (hw _ (List.mem_of_getElem? (i := 18) rfl)) (hw _ (List.mem_of_getElem? (i := 17) rfl)) (by decide) (by decide)) (g := (mkF m 36 #[.val (.ref o0), .val (.ref o1), .val (.int (0 : Int32)), .val (.int (4 : Int32)), .val .null, .unset] [(.int (4 : Int32)), (.int (0 : Int32)), (.ref o1)])) rfl (by rw [hml]; rfl) (argsL := [(.ref o1), (.int (0 : Int32)), (.int (4 : Int32))]) (rest := []) (lenOf pd_2l_0 rfl) rfl (by show 2 * 0 + _ ≤ _; exact Nat.le_of_eq rfl) (hb hby d2_36) (fun _ _ => ⟨rfl, e3, (by decide : 0 + 1 ≤ _), (by decide : 0 + 4 ≤ _)⟩)
  dsimp only [Pt.U, Pt.locs, Pt.cells, Pt.slots] at X6 l6 y6 z6 st6 hQ6
  subst l6 y6 z6
  obtain ⟨b_6, rfl, N6q, K6q, g_b_6, szq_b_6, G6_0⟩ := hQ6
  have N6 := Fr.app N0 N6q
  have ne_o1_b_6 : o1 ≠ b_6 := Nat.ne_of_lt (Nat.lt_of_lt_of_le V_o1.lt szq_b_6)
  have ne_o0_b_6 : o0 ≠ b_6 := Nat.ne_of_lt (Nat.lt_of_lt_of_le E_o0.lt szq_b_6)
  have sz_b_6 : h0.size ≤ b_6 := Nat.le_trans (Keep.refl h0 [o0]).1 szq_b_6
  have S7 := own_Sta_keep S_COMPACT_STRINGS K6q all0
  have K8 : Keep h0 T6.heap [o0] := (Keep.refl h0 [o0]).trans K6q all0
  have Z9 : n0 ≤ T6.heap.size := Nat.le_trans Z0 K8.1
  obtain ⟨LS6, X6, N6⟩ : ∃ L, Stand p l e ({ frames := 2, cells := 1, slots := 4, locals := 35 } : Room) s m #[(.ref o0), (.ref o1), (.int (0 : Int32)), (.int (4 : Int32)), .null] below meth c T6 L 1 4 ∧ Fr n0 L := ⟨_, X6, N6⟩
  obtain ⟨_, _, ⟨T10, L10, k10, n10⟩, -, X10, ⟨Lc10, hQ10, l10, y10, z10⟩, st10⟩ := Jvm.LawKit.callS X6 hx (y := (⟨"java/lang/StringUTF16", "coderFromArrayLen", "([BI)B"⟩ : MethodName)) hown (mvT hZ (hw _ (List.mem_of_getElem? (i := 23) rfl))) (mvT hZ (hw _ (List.mem_of_getElem? (i := 24) rfl))) (mvT hZ (hw _ (List.mem_of_getElem? (i := 17) rfl))) (mvT hZ (hw _ (List.mem_of_getElem? (i := 25) rfl))) (by decide) (backOf (W := 1) (rm6l l Z a0 hw [] b_6 (f5l_o2_a F (fun _ => 0)) T6.heap n0 Z9 G6_0) hZ (hw _ (List.mem_of_getElem? (i := 25) rfl)) (hw _ (List.mem_of_getElem? (i := 17) rfl)) (by decide) (by decide)) (g := (mkF m 45 #[.val (.ref o0), .val (.ref o1), .val (.int (0 : Int32)), .val (.int (4 : Int32)), .val .null, .val (.ref b_6)] [(.int (4 : Int32)), (.ref b_6), (.ref o0)])) rfl (by rw [hml]; rfl) (argsL := [(.ref b_6), (.int (4 : Int32))]) (rest := [(.ref o0)]) (lenOf pd_2l_1 rfl) rfl (by show 2 * 0 + _ ≤ _; exact Nat.le_of_eq rfl) (hb hby d2_45) (fun _ _ => ⟨rfl, rfl, (by decide : 1 + 0 ≤ _), (by decide : 4 + 0 ≤ _)⟩)
  dsimp only [Pt.U, Pt.locs, Pt.cells, Pt.slots] at X10 l10 y10 z10 st10 hQ10
  subst l10 y10 z10
  obtain ⟨rfl, N10q, e10q⟩ := hQ10
  have N10 := Fr.app N6 N10q
  obtain ⟨T11, h11, X11, e11, W11, st11⟩ := putFN X10 hx hZ hown (hw _ (List.mem_of_getElem? (i := 26) rfl)) Via.refl e10q (F_coder_o0.keep K6q nin0) (E_o0.keep K6q) (Or.inr ⟨(hw _ (List.mem_of_getElem? (i := 27) rfl)), rfl, hnm⟩) (hw _ (List.mem_of_getElem? (i := 2) rfl)) (ty := .byte) (v' := (.int (0 : Int32))) (by decide) rfl (fits_nar_byte (0 : Int32)) (g := (mkF m 48 #[.val (.ref o0), .val (.ref o1), .val (.int (0 : Int32)), .val (.int (4 : Int32)), .val .null, .val (.ref b_6)] [(.int (0 : Int32)), (.ref o0)])) rfl rfl (hb hby d2_48)
  have Fw11 := (F_coder_o0.keep K6q nin0).same W11
  have K12 : Keep h0 h11 [o0] := K8.wr W11 (Or.inl (List.mem_of_getElem? (i := 0) rfl))
  have Z13 : n0 ≤ h11.size := Nat.le_trans Z0 K12.1
  have N11 := Fr.snoc X11 N10 g_o0
  obtain ⟨LS11, X11, N11⟩ : ∃ L, Stand p l e ({ frames := 2, cells := 1, slots := 4, locals := 35 } : Room) s m #[(.ref o0), (.ref o1), (.int (0 : Int32)), (.int (4 : Int32)), .null] below meth c T11 L 1 4 ∧ Fr n0 L := ⟨_, X11, N11⟩
  have c14 := ((F_value_o0.keep K6q nin0).other W11 (Or.inr (slot_ne (Or.inr (hw _ (List.mem_of_getElem? (i := 29) rfl))) (Or.inr (hw _ (List.mem_of_getElem? (i := 27) rfl))) (by decide) (t := (.array .byte)) (t' := .byte) (by decide) (by decide))))
  obtain ⟨T15, h15, X15, e15, W15, st15⟩ := putF X11 hx hZ hown (host := "") (Or.inl (hw _ (List.mem_of_getElem? (i := 28) rfl))) Via.refl e11 c14 ((E_o0.keep K6q).wr W11) (Or.inr ⟨(hw _ (List.mem_of_getElem? (i := 29) rfl)), rfl, hnm⟩) (hw _ (List.mem_of_getElem? (i := 2) rfl)) (ty := (.array .byte)) (by decide) rfl rfl (g := (mkF m 54 #[.val (.ref o0), .val (.ref o1), .val (.int (0 : Int32)), .val (.int (4 : Int32)), .val .null, .val (.ref b_6)] [(.ref b_6), (.ref o0)])) rfl rfl (hb hby d2_54)
  have Fw15 := c14.same W15
  have K16 : Keep h0 h15 [o0] := K12.wr W15 (Or.inl (List.mem_of_getElem? (i := 0) rfl))
  have Z17 : n0 ≤ h15.size := Nat.le_trans Z0 K16.1
  have N15 := Fr.snoc X15 N11 g_o0
  obtain ⟨LS15, X15, N15⟩ : ∃ L, Stand p l e ({ frames := 2, cells := 1, slots := 4, locals := 35 } : Room) s m #[(.ref o0), (.ref o1), (.int (0 : Int32)), (.int (4 : Int32)), .null] below meth c T15 L 1 4 ∧ Fr n0 L := ⟨_, X15, N15⟩
  obtain ⟨fs, hr, hrun, hended, hW, hsame⟩ := X15.leave (v := none) (fun _ => rfl)
  have c18 := (Fw11.other W15 (Or.inr (slot_ne (Or.inr (hw _ (List.mem_of_getElem? (i := 27) rfl))) (Or.inr (hw _ (List.mem_of_getElem? (i := 29) rfl))) (by decide) (t := .byte) (t' := (.array .byte)) (by decide) (by decide))))
  have c19 := ((G6_0.other W11 (Ne.symm ne_o0_b_6)).other W15 (Ne.symm ne_o0_b_6))
  refine ⟨_, _, pre4 _ ?_, hrun, hended, _, _, rfl, ?_, ⟨_, rfl⟩, hW, hsame.mono (by decide) (by decide)⟩
  · show Steps p.tables e below (T3.setTop (mkF m 30 #[.val (.ref o0), .val (.ref o1), .val (.int (0 : Int32)), .val (.int (4 : Int32)), .val .null, .unset] [(.int cs)])) _
    refine XS.ifNo X3.here hx rfl (hb hby d2_30) rfl ((if0 _ _).trans (feq hd30_5).1) ?_
    show Steps p.tables e below (T3.setTop (mkF m 33 #[.val (.ref o0), .val (.ref o1), .val (.int (0 : Int32)), .val (.int (4 : Int32)), .val .null, .unset] [])) _
    refine XS.aloadN X3.here hx rfl (hb hby d2_33) rfl rfl ?_
    show Steps p.tables e below (T3.setTop (mkF m 34 #[.val (.ref o0), .val (.ref o1), .val (.int (0 : Int32)), .val (.int (4 : Int32)), .val .null, .unset] [(.ref o1)])) _
    refine XS.iloadN X3.here hx rfl (hb hby d2_34) rfl ?_
    show Steps p.tables e below (T3.setTop (mkF m 35 #[.val (.ref o0), .val (.ref o1), .val (.int (0 : Int32)), .val (.int (4 : Int32)), .val .null, .unset] [(.int (0 : Int32)), (.ref o1)])) _
    refine XS.iloadN X3.here hx rfl (hb hby d2_35) rfl ?_
    show Steps p.tables e below (T3.setTop (mkF m 36 #[.val (.ref o0), .val (.ref o1), .val (.int (0 : Int32)), .val (.int (4 : Int32)), .val .null, .unset] [(.int (4 : Int32)), (.int (0 : Int32)), (.ref o1)])) _
    refine st6 _ ?_
    show Steps p.tables e below (T6.setTop (mkF m 39 #[.val (.ref o0), .val (.ref o1), .val (.int (0 : Int32)), .val (.int (4 : Int32)), .val .null, .unset] [(.ref b_6)])) _
    refine XS.astore X6.here hx rfl (hb hby d2_39) rfl rfl (l' := #[.val (.ref o0), .val (.ref o1), .val (.int (0 : Int32)), .val (.int (4 : Int32)), .val .null, .val (.ref b_6)]) rfl ?_
    show Steps p.tables e below (T6.setTop (mkF m 41 #[.val (.ref o0), .val (.ref o1), .val (.int (0 : Int32)), .val (.int (4 : Int32)), .val .null, .val (.ref b_6)] [])) _
    refine XS.aloadN X6.here hx rfl (hb hby d2_41) rfl rfl ?_
    show Steps p.tables e below (T6.setTop (mkF m 42 #[.val (.ref o0), .val (.ref o1), .val (.int (0 : Int32)), .val (.int (4 : Int32)), .val .null, .val (.ref b_6)] [(.ref o0)])) _
    refine XS.aload X6.here hx rfl (hb hby d2_42) rfl rfl ?_
    show Steps p.tables e below (T6.setTop (mkF m 44 #[.val (.ref o0), .val (.ref o1), .val (.int (0 : Int32)), .val (.int (4 : Int32)), .val .null, .val (.ref b_6)] [(.ref b_6), (.ref o0)])) _
    refine XS.iloadN X6.here hx rfl (hb hby d2_44) rfl ?_
    show Steps p.tables e below (T6.setTop (mkF m 45 #[.val (.ref o0), .val (.ref o1), .val (.int (0 : Int32)), .val (.int (4 : Int32)), .val .null, .val (.ref b_6)] [(.int (4 : Int32)), (.ref b_6), (.ref o0)])) _
    refine st10 _ ?_
    show Steps p.tables e below (T10.setTop (mkF m 48 #[.val (.ref o0), .val (.ref o1), .val (.int (0 : Int32)), .val (.int (4 : Int32)), .val .null, .val (.ref b_6)] [(.int (0 : Int32)), (.ref o0)])) _
    refine st11 _ ?_
    show Steps p.tables e below (T11.setTop (mkF m 51 #[.val (.ref o0), .val (.ref o1), .val (.int (0 : Int32)), .val (.int (4 : Int32)), .val .null, .val (.ref b_6)] [])) _
    refine XS.aloadN X11.here hx rfl (hb hby d2_51) rfl rfl ?_
    show Steps p.tables e below (T11.setTop (mkF m 52 #[.val (.ref o0), .val (.ref o1), .val (.int (0 : Int32)), .val (.int (4 : Int32)), .val .null, .val (.ref b_6)] [(.ref o0)])) _
    refine XS.aload X11.here hx rfl (hb hby d2_52) rfl rfl ?_
    show Steps p.tables e below (T11.setTop (mkF m 54 #[.val (.ref o0), .val (.ref o1), .val (.int (0 : Int32)), .val (.int (4 : Int32)), .val .null, .val (.ref b_6)] [(.ref b_6), (.ref o0)])) _
    refine st15 _ ?_
    show Steps p.tables e below (T15.setTop (mkF m 57 #[.val (.ref o0), .val (.ref o1), .val (.int (0 : Int32)), .val (.int (4 : Int32)), .val .null, .val (.ref b_6)] [])) _
    exact X15.returnOut hx Bd.returns (hb hby d2_57) hr
  · show Q2l Z o0 o1 cs F h0 n0 _ T15.heap _
    rw [e15]
    exact ⟨b_6, rfl, N15, K16, g_b_6, sz_b_6, c18, Fw15, c19⟩
theorem pn_2u : plainName "java/lang/String" = true := by first | (simp [plainName, overriddenIn]; done) | decide +kernel
theorem pd_2u_0 : parseMethodDescriptor "([CII)[B" = some ⟨[(.array .char), .int, .int], some (.array .byte)⟩ := by decide +kernel
theorem pd_2u_1 : parseMethodDescriptor "([BI)B" = some ⟨[(.array .byte), .int], some .byte⟩ := by decide +kernel
theorem ef_2u (m : MethodId) (x0 : Addr) (x1 : Addr) (x2 : Int32) (x3 : Int32) : entryFrame m #[(.ref x0), (.ref x1), (.int x2), (.int x3), .null] 6 = mkF m 0 #[.val (.ref x0), .val (.ref x1), .val (.int x2), .val (.int x3), .val .null, .unset] [] := by first | (simp [entryFrame, mkF, argsToLocals, Value.category]; done) | rfl
def Q2u (Z : State) (o0 : Addr) (o1 : Addr) (cs : Int32) (F : Nat → Int32) (h0 : Heap) (n0 : Nat) (v : Option Value) (h : Heap) (L : List Loc) : Prop := ∃ r_o0_value : Addr, v = none ∧ Fr n0 L ∧ Keep h0 h [o0] ∧ n0 ≤ r_o0_value ∧ h0.size ≤ r_o0_value ∧ Fld Z h o0 "java/lang/String" "coder" "B" (.int (1 : Int32)) ∧ Fld Z h o0 "java/lang/String" "value" "[B" (.ref r_o0_value) ∧ own_AI Z h r_o0_value .byte (8 : Int32) (f18_r_a F)
set_option maxRecDepth 65536 in
set_option maxHeartbeats 40000000 in
theorem rm2u (l : Launch) (Z : State) (a0 : Array Value) (hw : ∀ d ∈ tables_1, d.before a0 Z = true) (ws : List Jvm.Cond) (o0 : Addr) (o1 : Addr) (cs : Int32) (F : Nat → Int32) (h0 : Heap) (n0 : Nat) (Z0 : n0 ≤ h0.size) (S_COMPACT_STRINGS : Sta Z h0 "java/lang/String" "COMPACT_STRINGS" "Z" (.int cs)) (hcs : ¬ cs = (0 : Int32)) (V_o1 : own_AI Z h0 o1 .char (4 : Int32) F) (E_o0 : Exa Z h0 o0 "java/lang/String") (F_coder_o0 : Fld Z h0 o0 "java/lang/String" "coder" "B" (.int (0 : Int32))) (F_value_o0 : Fld Z h0 o0 "java/lang/String" "value" "[B" .null) (g_o0 : n0 ≤ o0) (ne_o0_o1 : o0 ≠ o1) (S__assertionsDisabled : Sta Z h0 "java/lang/StringUTF16" "$assertionsDisabled" "Z" (.int (1 : Int32))) (S_HI_BYTE_SHIFT : Sta Z h0 "java/lang/StringUTF16" "HI_BYTE_SHIFT" "I" (.int (0 : Int32))) (S_LO_BYTE_SHIFT : Sta Z h0 "java/lang/StringUTF16" "LO_BYTE_SHIFT" "I" (.int (8 : Int32))) (hA : ¬ (¬ (255 : Int32) < F 0 ∧ ¬ (255 : Int32) < F 1 ∧ ¬ (255 : Int32) < F 2 ∧ ¬ (255 : Int32) < F 3)) (hch : own_ch F) :
    MetFree l (⟨"java/lang/String", "<init>", "([CIILjava/lang/Void;)V"⟩ : MethodName) (head1 (Jvm.Cond.code (⟨"java/lang/String", "<init>", "([CIILjava/lang/Void;)V"⟩ : MethodName) jdk_42_method_149_code 6 none :: ws) ({ frames := 4, cells := 2, slots := 12, locals := 57 } : Room)) (fun a U => a = #[(.ref o0), (.ref o1), (.int (0 : Int32)), (.int (4 : Int32)), .null] ∧ Z.Warmed39 U.vm ∧ U.heap = h0) (fun _ _ _ _ _ => True) (fun _ U o U' => ∃ v L, o = .returned v ∧ Q2u Z o0 o1 cs F h0 n0 v U'.heap L ∧ FrameEnd U o U' L ({ frames := 4, cells := 2, slots := 12, locals := 57 } : Room).cells ({ frames := 4, cells := 2, slots := 12, locals := 57 } : Room).slots) := by
  refine MetFree.of_bodySF (plainFor_of_name pn_2u) hisR ?_
  intro p e s m args below meth c s₁ Bd hml0 hP hK
  obtain ⟨rfl, hZ, hh⟩ := hP
  have hx := Bd.exec
  have hby := Bd.bytes
  have hml : c.maxLocals = 6 := hml0
  have hown : s.vm.findClass "java/lang/String" = some m.cls := findClass_of_methodNamed Bd.named
  have hnm := (name_of_methodNamed Bd.named Bd.method).1
  have X0 : Stand p l e ({ frames := 4, cells := 2, slots := 12, locals := 57 } : Room) s m #[(.ref o0), (.ref o1), (.int (0 : Int32)), (.int (4 : Int32)), .null] below meth c s₁ [] 0 0 := Stand.of_body Bd
  have e0 : s₁.heap = h0 := by rw [← hh, Bd.state]; rfl
  have N0 := Fr.nil n0
  have pre0 : ∀ t, Steps p.tables e below (s₁.setTop (mkF m 0 #[.val (.ref o0), .val (.ref o1), .val (.int (0 : Int32)), .val (.int (4 : Int32)), .val .null, .unset] [])) t → Steps p.tables e below (s₁.setTop (entryFrame m #[(.ref o0), (.ref o1), (.int (0 : Int32)), (.int (4 : Int32)), .null] 6)) t := fun t k => castTop (ef_2u m o0 o1 (0 : Int32) (4 : Int32)) k
  obtain ⟨T1, X1, e1, st1⟩ := initO X0 hx hZ hown (hw _ (List.mem_of_getElem? (i := 11) rfl)) (hw _ (List.mem_of_getElem? (i := 12) rfl)) (hw _ (List.mem_of_getElem? (i := 13) rfl)) e0 (g := (mkF m 1 #[.val (.ref o0), .val (.ref o1), .val (.int (0 : Int32)), .val (.int (4 : Int32)), .val .null, .unset] [(.ref o0)])) rfl (by rw [hml]; rfl) rfl (hb hby d2_1) (by decide) (W := 0) (by show 2 * 0 + _ ≤ _; exact Nat.le_of_eq rfl) (by decide)
  have pre2 : ∀ t, Steps p.tables e below (T1.setTop (mkF m 5 #[.val (.ref o0), .val (.ref o1), .val (.int (0 : Int32)), .val (.int (4 : Int32)), .val .null, .unset] [(.int (4 : Int32))])) t → Steps p.tables e below (s₁.setTop (entryFrame m #[(.ref o0), (.ref o1), (.int (0 : Int32)), (.int (4 : Int32)), .null] 6)) t := fun t kt => pre0 t (by
      show Steps p.tables e below (s₁.setTop (mkF m 0 #[.val (.ref o0), .val (.ref o1), .val (.int (0 : Int32)), .val (.int (4 : Int32)), .val .null, .unset] [])) _
      refine XS.aloadN X0.here hx rfl (hb hby d2_0) rfl rfl ?_
      show Steps p.tables e below (s₁.setTop (mkF m 1 #[.val (.ref o0), .val (.ref o1), .val (.int (0 : Int32)), .val (.int (4 : Int32)), .val .null, .unset] [(.ref o0)])) _
      refine st1 _ ?_
      show Steps p.tables e below (T1.setTop (mkF m 4 #[.val (.ref o0), .val (.ref o1), .val (.int (0 : Int32)), .val (.int (4 : Int32)), .val .null, .unset] [])) _
      refine XS.iloadN X1.here hx rfl (hb hby d2_4) rfl ?_
      exact kt)
  obtain ⟨T3, X3, e3, st3⟩ := getS2 X1 hx hZ hown (host := "") (Or.inl (hw _ (List.mem_of_getElem? (i := 14) rfl))) Via.refl e1 S_COMPACT_STRINGS (g := (mkF m 27 #[.val (.ref o0), .val (.ref o1), .val (.int (0 : Int32)), .val (.int (4 : Int32)), .val .null, .unset] [])) rfl (hb hby d2_27)
  have pre4 : ∀ t, Steps p.tables e below (T3.setTop (mkF m 30 #[.val (.ref o0), .val (.ref o1), .val (.int (0 : Int32)), .val (.int (4 : Int32)), .val .null, .unset] [(.int cs)])) t → Steps p.tables e below (s₁.setTop (entryFrame m #[(.ref o0), (.ref o1), (.int (0 : Int32)), (.int (4 : Int32)), .null] 6)) t := fun t kt => pre2 t (by
      show Steps p.tables e below (T1.setTop (mkF m 5 #[.val (.ref o0), .val (.ref o1), .val (.int (0 : Int32)), .val (.int (4 : Int32)), .val .null, .unset] [(.int (4 : Int32))])) _
      refine XS.ifYes X1.here hx rfl (pc0 := 5) (pc' := 27) rfl (hb hby d2_5) rfl ((if0 _ _).trans (feq (by decide : ¬ ((4 : Int32) = (0 : Int32)))).2) (by decide) (by decide) ?_
      show Steps p.tables e below (T1.setTop (mkF m 27 #[.val (.ref o0), .val (.ref o1), .val (.int (0 : Int32)), .val (.int (4 : Int32)), .val .null, .unset] [])) _
      refine st3 _ ?_
      exact kt)
  have hd30_5 : ¬ (cs = (0 : Int32)) := hcs
  obtain ⟨_, _, ⟨T6, L6, k6, n6⟩, -, X6, ⟨Lc6, hQ6, l6, y6, z6⟩, st6⟩ := Jvm.LawKit.callS X3 hx (y := (⟨"java/lang/StringUTF16", "compress", "([CII)[B"⟩ : MethodName)) hown (mvT hZ (hw _ (List.mem_of_getElem? (i := 15) rfl))) (mvT hZ (hw _ (List.mem_of_getElem? (i := 16) rfl))) (mvT hZ (hw _ (List.mem_of_getElem? (i := 17) rfl))) (mvT hZ (hw _ (List.mem_of_getElem? (i := 18) rfl))) (by decide) (backOf (W := 0) (rm4u l Z a0 hw [] o1 F h0 n0 Z0 S__assertionsDisabled S_HI_BYTE_SHIFT S_LO_BYTE_SHIFT V_o1 (hA) (hch)) hZ (hw _ (List.mem_of_getElem? (i := 18) rfl)) (hw _ (List.mem_of_getElem? (i := 17) rfl)) (by decide) (by decide)) (g := (mkF m 36 #[.val (.ref o0), .val (.ref o1), .val (.int (0 : Int32)), .val (.int (4 : Int32)), .val .null, .unset] [(.int (4 : Int32)), (.int (0 : Int32)), (.ref o1)])) rfl (by rw [hml]; rfl) (argsL := [(.ref o1), (.int (0 : Int32)), (.int (4 : Int32))]) (rest := []) (lenOf pd_2u_0 rfl) rfl (by show 2 * 0 + _ ≤ _; exact Nat.le_of_eq rfl) (hb hby d2_36) (fun _ _ => ⟨rfl, e3, (by decide : 0 + 2 ≤ _), (by decide : 0 + 12 ≤ _)⟩)
  dsimp only [Pt.U, Pt.locs, Pt.cells, Pt.slots] at X6 l6 y6 z6 st6 hQ6
  subst l6 y6 z6
  obtain ⟨b_6, rfl, N6q, K6q, g_b_6, szq_b_6, G6_0⟩ := hQ6
  have N6 := Fr.app N0 N6q
  have ne_o1_b_6 : o1 ≠ b_6 := Nat.ne_of_lt (Nat.lt_of_lt_of_le V_o1.lt szq_b_6)
  have ne_o0_b_6 : o0 ≠ b_6 := Nat.ne_of_lt (Nat.lt_of_lt_of_le E_o0.lt szq_b_6)
  have sz_b_6 : h0.size ≤ b_6 := Nat.le_trans (Keep.refl h0 [o0]).1 szq_b_6
  have S7 := own_Sta_keep S_COMPACT_STRINGS K6q all0
  have S8 := own_Sta_keep S__assertionsDisabled K6q all0
  have S9 := own_Sta_keep S_HI_BYTE_SHIFT K6q all0
  have S10 := own_Sta_keep S_LO_BYTE_SHIFT K6q all0
  have K11 : Keep h0 T6.heap [o0] := (Keep.refl h0 [o0]).trans K6q all0
  have Z12 : n0 ≤ T6.heap.size := Nat.le_trans Z0 K11.1
  obtain ⟨LS6, X6, N6⟩ : ∃ L, Stand p l e ({ frames := 4, cells := 2, slots := 12, locals := 57 } : Room) s m #[(.ref o0), (.ref o1), (.int (0 : Int32)), (.int (4 : Int32)), .null] below meth c T6 L 2 12 ∧ Fr n0 L := ⟨_, X6, N6⟩
  obtain ⟨_, _, ⟨T13, L13, k13, n13⟩, -, X13, ⟨Lc13, hQ13, l13, y13, z13⟩, st13⟩ := Jvm.LawKit.callS X6 hx (y := (⟨"java/lang/StringUTF16", "coderFromArrayLen", "([BI)B"⟩ : MethodName)) hown (mvT hZ (hw _ (List.mem_of_getElem? (i := 23) rfl))) (mvT hZ (hw _ (List.mem_of_getElem? (i := 24) rfl))) (mvT hZ (hw _ (List.mem_of_getElem? (i := 17) rfl))) (mvT hZ (hw _ (List.mem_of_getElem? (i := 25) rfl))) (by decide) (backOf (W := 1) (rm6u l Z a0 hw [] b_6 (f18_r_a F) T6.heap n0 Z12 G6_0) hZ (hw _ (List.mem_of_getElem? (i := 25) rfl)) (hw _ (List.mem_of_getElem? (i := 17) rfl)) (by decide) (by decide)) (g := (mkF m 45 #[.val (.ref o0), .val (.ref o1), .val (.int (0 : Int32)), .val (.int (4 : Int32)), .val .null, .val (.ref b_6)] [(.int (4 : Int32)), (.ref b_6), (.ref o0)])) rfl (by rw [hml]; rfl) (argsL := [(.ref b_6), (.int (4 : Int32))]) (rest := [(.ref o0)]) (lenOf pd_2u_1 rfl) rfl (by show 2 * 0 + _ ≤ _; exact Nat.le_of_eq rfl) (hb hby d2_45) (fun _ _ => ⟨rfl, rfl, (by decide : 2 + 0 ≤ _), (by decide : 12 + 0 ≤ _)⟩)
  dsimp only [Pt.U, Pt.locs, Pt.cells, Pt.slots] at X13 l13 y13 z13 st13 hQ13
  subst l13 y13 z13
  obtain ⟨rfl, N13q, e13q⟩ := hQ13
  have N13 := Fr.app N6 N13q
  obtain ⟨T14, h14, X14, e14, W14, st14⟩ := putFN X13 hx hZ hown (hw _ (List.mem_of_getElem? (i := 26) rfl)) Via.refl e13q (F_coder_o0.keep K6q nin0) (E_o0.keep K6q) (Or.inr ⟨(hw _ (List.mem_of_getElem? (i := 27) rfl)), rfl, hnm⟩) (hw _ (List.mem_of_getElem? (i := 2) rfl)) (ty := .byte) (v' := (.int (1 : Int32))) (by decide) rfl (fits_nar_byte (1 : Int32)) (g := (mkF m 48 #[.val (.ref o0), .val (.ref o1), .val (.int (0 : Int32)), .val (.int (4 : Int32)), .val .null, .val (.ref b_6)] [(.int (1 : Int32)), (.ref o0)])) rfl rfl (hb hby d2_48)
  have Fw14 := (F_coder_o0.keep K6q nin0).same W14
  have K15 : Keep h0 h14 [o0] := K11.wr W14 (Or.inl (List.mem_of_getElem? (i := 0) rfl))
  have Z16 : n0 ≤ h14.size := Nat.le_trans Z0 K15.1
  have N14 := Fr.snoc X14 N13 g_o0
  obtain ⟨LS14, X14, N14⟩ : ∃ L, Stand p l e ({ frames := 4, cells := 2, slots := 12, locals := 57 } : Room) s m #[(.ref o0), (.ref o1), (.int (0 : Int32)), (.int (4 : Int32)), .null] below meth c T14 L 2 12 ∧ Fr n0 L := ⟨_, X14, N14⟩
  have c17 := ((F_value_o0.keep K6q nin0).other W14 (Or.inr (slot_ne (Or.inr (hw _ (List.mem_of_getElem? (i := 29) rfl))) (Or.inr (hw _ (List.mem_of_getElem? (i := 27) rfl))) (by decide) (t := (.array .byte)) (t' := .byte) (by decide) (by decide))))
  obtain ⟨T18, h18, X18, e18, W18, st18⟩ := putF X14 hx hZ hown (host := "") (Or.inl (hw _ (List.mem_of_getElem? (i := 28) rfl))) Via.refl e14 c17 ((E_o0.keep K6q).wr W14) (Or.inr ⟨(hw _ (List.mem_of_getElem? (i := 29) rfl)), rfl, hnm⟩) (hw _ (List.mem_of_getElem? (i := 2) rfl)) (ty := (.array .byte)) (by decide) rfl rfl (g := (mkF m 54 #[.val (.ref o0), .val (.ref o1), .val (.int (0 : Int32)), .val (.int (4 : Int32)), .val .null, .val (.ref b_6)] [(.ref b_6), (.ref o0)])) rfl rfl (hb hby d2_54)
  have Fw18 := c17.same W18
  have K19 : Keep h0 h18 [o0] := K15.wr W18 (Or.inl (List.mem_of_getElem? (i := 0) rfl))
  have Z20 : n0 ≤ h18.size := Nat.le_trans Z0 K19.1
  have N18 := Fr.snoc X18 N14 g_o0
  obtain ⟨LS18, X18, N18⟩ : ∃ L, Stand p l e ({ frames := 4, cells := 2, slots := 12, locals := 57 } : Room) s m #[(.ref o0), (.ref o1), (.int (0 : Int32)), (.int (4 : Int32)), .null] below meth c T18 L 2 12 ∧ Fr n0 L := ⟨_, X18, N18⟩
  obtain ⟨fs, hr, hrun, hended, hW, hsame⟩ := X18.leave (v := none) (fun _ => rfl)
  have c21 := (Fw14.other W18 (Or.inr (slot_ne (Or.inr (hw _ (List.mem_of_getElem? (i := 27) rfl))) (Or.inr (hw _ (List.mem_of_getElem? (i := 29) rfl))) (by decide) (t := .byte) (t' := (.array .byte)) (by decide) (by decide))))
  have c22 := ((G6_0.other W14 (Ne.symm ne_o0_b_6)).other W18 (Ne.symm ne_o0_b_6))
  refine ⟨_, _, pre4 _ ?_, hrun, hended, _, _, rfl, ?_, ⟨_, rfl⟩, hW, hsame.mono (by decide) (by decide)⟩
  · show Steps p.tables e below (T3.setTop (mkF m 30 #[.val (.ref o0), .val (.ref o1), .val (.int (0 : Int32)), .val (.int (4 : Int32)), .val .null, .unset] [(.int cs)])) _
    refine XS.ifNo X3.here hx rfl (hb hby d2_30) rfl ((if0 _ _).trans (feq hd30_5).1) ?_
    show Steps p.tables e below (T3.setTop (mkF m 33 #[.val (.ref o0), .val (.ref o1), .val (.int (0 : Int32)), .val (.int (4 : Int32)), .val .null, .unset] [])) _
    refine XS.aloadN X3.here hx rfl (hb hby d2_33) rfl rfl ?_
    show Steps p.tables e below (T3.setTop (mkF m 34 #[.val (.ref o0), .val (.ref o1), .val (.int (0 : Int32)), .val (.int (4 : Int32)), .val .null, .unset] [(.ref o1)])) _
    refine XS.iloadN X3.here hx rfl (hb hby d2_34) rfl ?_
    show Steps p.tables e below (T3.setTop (mkF m 35 #[.val (.ref o0), .val (.ref o1), .val (.int (0 : Int32)), .val (.int (4 : Int32)), .val .null, .unset] [(.int (0 : Int32)), (.ref o1)])) _
    refine XS.iloadN X3.here hx rfl (hb hby d2_35) rfl ?_
    show Steps p.tables e below (T3.setTop (mkF m 36 #[.val (.ref o0), .val (.ref o1), .val (.int (0 : Int32)), .val (.int (4 : Int32)), .val .null, .unset] [(.int (4 : Int32)), (.int (0 : Int32)), (.ref o1)])) _
    refine st6 _ ?_
    show Steps p.tables e below (T6.setTop (mkF m 39 #[.val (.ref o0), .val (.ref o1), .val (.int (0 : Int32)), .val (.int (4 : Int32)), .val .null, .unset] [(.ref b_6)])) _
    refine XS.astore X6.here hx rfl (hb hby d2_39) rfl rfl (l' := #[.val (.ref o0), .val (.ref o1), .val (.int (0 : Int32)), .val (.int (4 : Int32)), .val .null, .val (.ref b_6)]) rfl ?_
    show Steps p.tables e below (T6.setTop (mkF m 41 #[.val (.ref o0), .val (.ref o1), .val (.int (0 : Int32)), .val (.int (4 : Int32)), .val .null, .val (.ref b_6)] [])) _
    refine XS.aloadN X6.here hx rfl (hb hby d2_41) rfl rfl ?_
    show Steps p.tables e below (T6.setTop (mkF m 42 #[.val (.ref o0), .val (.ref o1), .val (.int (0 : Int32)), .val (.int (4 : Int32)), .val .null, .val (.ref b_6)] [(.ref o0)])) _
    refine XS.aload X6.here hx rfl (hb hby d2_42) rfl rfl ?_
    show Steps p.tables e below (T6.setTop (mkF m 44 #[.val (.ref o0), .val (.ref o1), .val (.int (0 : Int32)), .val (.int (4 : Int32)), .val .null, .val (.ref b_6)] [(.ref b_6), (.ref o0)])) _
    refine XS.iloadN X6.here hx rfl (hb hby d2_44) rfl ?_
    show Steps p.tables e below (T6.setTop (mkF m 45 #[.val (.ref o0), .val (.ref o1), .val (.int (0 : Int32)), .val (.int (4 : Int32)), .val .null, .val (.ref b_6)] [(.int (4 : Int32)), (.ref b_6), (.ref o0)])) _
    refine st13 _ ?_
    show Steps p.tables e below (T13.setTop (mkF m 48 #[.val (.ref o0), .val (.ref o1), .val (.int (0 : Int32)), .val (.int (4 : Int32)), .val .null, .val (.ref b_6)] [(.int (1 : Int32)), (.ref o0)])) _
    refine st14 _ ?_
    show Steps p.tables e below (T14.setTop (mkF m 51 #[.val (.ref o0), .val (.ref o1), .val (.int (0 : Int32)), .val (.int (4 : Int32)), .val .null, .val (.ref b_6)] [])) _
    refine XS.aloadN X14.here hx rfl (hb hby d2_51) rfl rfl ?_
    show Steps p.tables e below (T14.setTop (mkF m 52 #[.val (.ref o0), .val (.ref o1), .val (.int (0 : Int32)), .val (.int (4 : Int32)), .val .null, .val (.ref b_6)] [(.ref o0)])) _
    refine XS.aload X14.here hx rfl (hb hby d2_52) rfl rfl ?_
    show Steps p.tables e below (T14.setTop (mkF m 54 #[.val (.ref o0), .val (.ref o1), .val (.int (0 : Int32)), .val (.int (4 : Int32)), .val .null, .val (.ref b_6)] [(.ref b_6), (.ref o0)])) _
    refine st18 _ ?_
    show Steps p.tables e below (T18.setTop (mkF m 57 #[.val (.ref o0), .val (.ref o1), .val (.int (0 : Int32)), .val (.int (4 : Int32)), .val .null, .val (.ref b_6)] [])) _
    exact X18.returnOut hx Bd.returns (hb hby d2_57) hr
  · show Q2u Z o0 o1 cs F h0 n0 _ T18.heap _
    rw [e18]
    exact ⟨b_6, rfl, N18, K19, g_b_6, sz_b_6, c21, Fw18, c22⟩
theorem d1_0 : decode jdk_42_method_3_code 0 = .ok (.aload_n 0, 1) := by decide +kernel
theorem d1_1 : decode jdk_42_method_3_code 1 = .ok (.aload_n 1, 1) := by decide +kernel
theorem d1_2 : decode jdk_42_method_3_code 2 = .ok (.iconst 0, 1) := by decide +kernel
theorem d1_3 : decode jdk_42_method_3_code 3 = .ok (.aload_n 1, 1) := by decide +kernel
theorem d1_4 : decode jdk_42_method_3_code 4 = .ok (.arraylength, 1) := by decide +kernel
theorem d1_5 : decode jdk_42_method_3_code 5 = .ok (.aconst_null, 1) := by decide +kernel
theorem d1_6 : decode jdk_42_method_3_code 6 = .ok (.invokespecial 27, 3) := by decide +kernel
theorem d1_9 : decode jdk_42_method_3_code 9 = .ok (.return_, 1) := by decide +kernel
theorem pn_1l : plainName "java/lang/String" = true := by first | (simp [plainName, overriddenIn]; done) | decide +kernel
theorem pd_1l_0 : parseMethodDescriptor "([CIILjava/lang/Void;)V" = some ⟨[(.array .char), .int, .int, (.object "java/lang/Void")], none⟩ := by decide +kernel
theorem ef_1l (m : MethodId) (x0 : Addr) (x1 : Addr) : entryFrame m #[(.ref x0), (.ref x1)] 2 = mkF m 0 #[.val (.ref x0), .val (.ref x1)] [] := by first | (simp [entryFrame, mkF, argsToLocals, Value.category]; done) | rfl
def Q1l (Z : State) (o0 : Addr) (o1 : Addr) (cs : Int32) (F : Nat → Int32) (h0 : Heap) (n0 : Nat) (v : Option Value) (h : Heap) (L : List Loc) : Prop := ∃ r_o0_value : Addr, v = none ∧ Fr n0 L ∧ Keep h0 h [o0] ∧ n0 ≤ r_o0_value ∧ h0.size ≤ r_o0_value ∧ Fld Z h o0 "java/lang/String" "coder" "B" (.int (0 : Int32)) ∧ Fld Z h o0 "java/lang/String" "value" "[B" (.ref r_o0_value) ∧ own_AI Z h r_o0_value .byte (4 : Int32) (f5l_o2_a F (fun _ => 0))
set_option maxRecDepth 65536 in
set_option maxHeartbeats 40000000 in
theorem rm1l (l : Launch) (Z : State) (a0 : Array Value) (hw : ∀ d ∈ tables_1, d.before a0 Z = true) (ws : List Jvm.Cond) (o0 : Addr) (o1 : Addr) (cs : Int32) (F : Nat → Int32) (h0 : Heap) (n0 : Nat) (Z0 : n0 ≤ h0.size) (S_COMPACT_STRINGS : Sta Z h0 "java/lang/String" "COMPACT_STRINGS" "Z" (.int cs)) (hcs : ¬ cs = (0 : Int32)) (V_o1 : own_AI Z h0 o1 .char (4 : Int32) F) (E_o0 : Exa Z h0 o0 "java/lang/String") (F_coder_o0 : Fld Z h0 o0 "java/lang/String" "coder" "B" (.int (0 : Int32))) (F_value_o0 : Fld Z h0 o0 "java/lang/String" "value" "[B" .null) (g_o0 : n0 ≤ o0) (ne_o0_o1 : o0 ≠ o1) (hA : (¬ (255 : Int32) < F 0 ∧ ¬ (255 : Int32) < F 1 ∧ ¬ (255 : Int32) < F 2 ∧ ¬ (255 : Int32) < F 3)) :
    MetFree l (⟨"java/lang/String", "<init>", "([C)V"⟩ : MethodName) (head1 (Jvm.Cond.code (⟨"java/lang/String", "<init>", "([C)V"⟩ : MethodName) jdk_42_method_3_code 2 none :: ws) ({ frames := 3, cells := 1, slots := 4, locals := 52 } : Room)) (fun a U => a = #[(.ref o0), (.ref o1)] ∧ Z.Warmed39 U.vm ∧ U.heap = h0) (fun _ _ _ _ _ => True) (fun _ U o U' => ∃ v L, o = .returned v ∧ Q1l Z o0 o1 cs F h0 n0 v U'.heap L ∧ FrameEnd U o U' L ({ frames := 3, cells := 1, slots := 4, locals := 52 } : Room).cells ({ frames := 3, cells := 1, slots := 4, locals := 52 } : Room).slots) := by
  refine MetFree.of_bodySF (plainFor_of_name pn_1l) hisR ?_
  intro p e s m args below meth c s₁ Bd hml0 hP hK
  obtain ⟨rfl, hZ, hh⟩ := hP
  have hx := Bd.exec
  have hby := Bd.bytes
  have hml : c.maxLocals = 2 := hml0
  have hown : s.vm.findClass "java/lang/String" = some m.cls := findClass_of_methodNamed Bd.named
  have hnm := (name_of_methodNamed Bd.named Bd.method).1
  have X0 : Stand p l e ({ frames := 3, cells := 1, slots := 4, locals := 52 } : Room) s m #[(.ref o0), (.ref o1)] below meth c s₁ [] 0 0 := Stand.of_body Bd
  have e0 : s₁.heap = h0 := by rw [← hh, Bd.state]; rfl
  have N0 := Fr.nil n0
  have pre0 : ∀ t, Steps p.tables e below (s₁.setTop (mkF m 0 #[.val (.ref o0), .val (.ref o1)] [])) t → Steps p.tables e below (s₁.setTop (entryFrame m #[(.ref o0), (.ref o1)] 2)) t := fun t k => castTop (ef_1l m o0 o1) k
  obtain ⟨cl1, Ar1, Sz1, Nn1, -⟩ := id V_o1
  obtain ⟨_, _, ⟨T2, L2, k2, n2⟩, -, X2, ⟨Lc2, hQ2, l2, y2, z2⟩, st2⟩ := X0.specialBack hx (y := (⟨"java/lang/String", "<init>", "([CIILjava/lang/Void;)V"⟩ : MethodName)) rfl hown (mvT hZ (hw _ (List.mem_of_getElem? (i := 7) rfl))) (mvT hZ (hw _ (List.mem_of_getElem? (i := 8) rfl))) (mvT hZ (hw _ (List.mem_of_getElem? (i := 10) rfl))) (by decide) (backOf (W := 0) (rm2l l Z a0 hw [] o0 o1 cs F h0 n0 Z0 S_COMPACT_STRINGS (hcs) V_o1 E_o0 F_coder_o0 F_value_o0 g_o0 ne_o0_o1 (hA)) hZ (hw _ (List.mem_of_getElem? (i := 10) rfl)) (hw _ (List.mem_of_getElem? (i := 3) rfl)) (by decide) (by decide)) (g := (mkF m 6 #[.val (.ref o0), .val (.ref o1)] [.null, (.int (4 : Int32)), (.int (0 : Int32)), (.ref o1), (.ref o0)])) rfl (by rw [hml]; rfl) (Steps.refl _) (a := o0) (argsL := [(.ref o1), (.int (0 : Int32)), (.int (4 : Int32)), .null]) (rest := []) (lenOf pd_1l_0 rfl) rfl (by show 2 * 0 + _ ≤ _; exact Nat.le_of_eq rfl) (hb hby d1_6) (fun _ _ => ⟨rfl, e0, (by decide : 0 + 1 ≤ _), (by decide : 0 + 4 ≤ _)⟩)
  dsimp only [Pt.U, Pt.locs, Pt.cells, Pt.slots] at X2 l2 y2 z2 st2 hQ2
  subst l2 y2 z2
  obtain ⟨r_o0_value_2, rfl, N2q, K2q, g_r_o0_value_2, szq_r_o0_value_2, G2_0, G2_1, G2_2⟩ := hQ2
  have N2 := Fr.app N0 N2q
  have ne_o1_r_o0_value_2 : o1 ≠ r_o0_value_2 := Nat.ne_of_lt (Nat.lt_of_lt_of_le V_o1.lt szq_r_o0_value_2)
  have ne_o0_r_o0_value_2 : o0 ≠ r_o0_value_2 := Nat.ne_of_lt (Nat.lt_of_lt_of_le E_o0.lt szq_r_o0_value_2)
  have sz_r_o0_value_2 : h0.size ≤ r_o0_value_2 := Nat.le_trans (Keep.refl h0 [o0]).1 szq_r_o0_value_2
  have S3 := own_Sta_keep S_COMPACT_STRINGS K2q (allS (own_Exa_st E_o0) all0)
  have K4 : Keep h0 T2.heap [o0] := (Keep.refl h0 [o0]).trans K2q (allS (Or.inl (List.mem_of_getElem? (i := 0) rfl)) all0)
  have Z5 : n0 ≤ T2.heap.size := Nat.le_trans Z0 K4.1
  obtain ⟨LS2, X2, N2⟩ : ∃ L, Stand p l e ({ frames := 3, cells := 1, slots := 4, locals := 52 } : Room) s m #[(.ref o0), (.ref o1)] below meth c T2 L 1 4 ∧ Fr n0 L := ⟨_, X2, N2⟩
  obtain ⟨fs, hr, hrun, hended, hW, hsame⟩ := X2.leave (v := none) (fun _ => rfl)
  refine ⟨_, _, pre0 _ ?_, hrun, hended, _, _, rfl, ?_, ⟨_, rfl⟩, hW, hsame.mono (by decide) (by decide)⟩
  · show Steps p.tables e below (s₁.setTop (mkF m 0 #[.val (.ref o0), .val (.ref o1)] [])) _
    refine XS.aloadN X0.here hx rfl (hb hby d1_0) rfl rfl ?_
    show Steps p.tables e below (s₁.setTop (mkF m 1 #[.val (.ref o0), .val (.ref o1)] [(.ref o0)])) _
    refine XS.aloadN X0.here hx rfl (hb hby d1_1) rfl rfl ?_
    show Steps p.tables e below (s₁.setTop (mkF m 2 #[.val (.ref o0), .val (.ref o1)] [(.ref o1), (.ref o0)])) _
    refine XS.iconst X0.here hx rfl (hb hby d1_2) ?_
    show Steps p.tables e below (s₁.setTop (mkF m 3 #[.val (.ref o0), .val (.ref o1)] [(.int (0 : Int32)), (.ref o1), (.ref o0)])) _
    refine XS.aloadN X0.here hx rfl (hb hby d1_3) rfl rfl ?_
    show Steps p.tables e below (s₁.setTop (mkF m 4 #[.val (.ref o0), .val (.ref o1)] [(.ref o1), (.int (0 : Int32)), (.ref o1), (.ref o0)])) _
    refine X0.arraylength hx (by rw [e0]; exact Ar1.1) (State.isArrayOf_alike hZ.alike Ar1.2.1) (g := (mkF m 4 #[.val (.ref o0), .val (.ref o1)] [(.ref o1), (.int (0 : Int32)), (.ref o1), (.ref o0)])) rfl rfl (hb hby d1_4) _ ?_
    rw [len_of Sz1 Nn1]
    show Steps p.tables e below (s₁.setTop (mkF m 5 #[.val (.ref o0), .val (.ref o1)] [(.int (4 : Int32)), (.int (0 : Int32)), (.ref o1), (.ref o0)])) _
    refine XS.aconstNull X0.here hx rfl (hb hby d1_5) ?_
    show Steps p.tables e below (s₁.setTop (mkF m 6 #[.val (.ref o0), .val (.ref o1)] [.null, (.int (4 : Int32)), (.int (0 : Int32)), (.ref o1), (.ref o0)])) _
    refine st2.trans ?_
    show Steps p.tables e below (T2.setTop (mkF m 9 #[.val (.ref o0), .val (.ref o1)] [])) _
    exact X2.returnOut hx Bd.returns (hb hby d1_9) hr
  · show Q1l Z o0 o1 cs F h0 n0 _ T2.heap _
    exact ⟨r_o0_value_2, rfl, N2, K4, g_r_o0_value_2, sz_r_o0_value_2, G2_0, G2_1, G2_2⟩
theorem pn_1u : plainName "java/lang/String" = true := by first | (simp [plainName, overriddenIn]; done) | decide +kernel
theorem pd_1u_0 : parseMethodDescriptor "([CIILjava/lang/Void;)V" = some ⟨[(.array .char), .int, .int, (.object "java/lang/Void")], none⟩ := by decide +kernel
theorem ef_1u (m : MethodId) (x0 : Addr) (x1 : Addr) : entryFrame m #[(.ref x0), (.ref x1)] 2 = mkF m 0 #[.val (.ref x0), .val (.ref x1)] [] := by first | (simp [entryFrame, mkF, argsToLocals, Value.category]; done) | rfl
def Q1u (Z : State) (o0 : Addr) (o1 : Addr) (cs : Int32) (F : Nat → Int32) (h0 : Heap) (n0 : Nat) (v : Option Value) (h : Heap) (L : List Loc) : Prop := ∃ r_o0_value : Addr, v = none ∧ Fr n0 L ∧ Keep h0 h [o0] ∧ n0 ≤ r_o0_value ∧ h0.size ≤ r_o0_value ∧ Fld Z h o0 "java/lang/String" "coder" "B" (.int (1 : Int32)) ∧ Fld Z h o0 "java/lang/String" "value" "[B" (.ref r_o0_value) ∧ own_AI Z h r_o0_value .byte (8 : Int32) (f18_r_a F)
set_option maxRecDepth 65536 in
set_option maxHeartbeats 40000000 in
theorem rm1u (l : Launch) (Z : State) (a0 : Array Value) (hw : ∀ d ∈ tables_1, d.before a0 Z = true) (ws : List Jvm.Cond) (o0 : Addr) (o1 : Addr) (cs : Int32) (F : Nat → Int32) (h0 : Heap) (n0 : Nat) (Z0 : n0 ≤ h0.size) (S_COMPACT_STRINGS : Sta Z h0 "java/lang/String" "COMPACT_STRINGS" "Z" (.int cs)) (hcs : ¬ cs = (0 : Int32)) (V_o1 : own_AI Z h0 o1 .char (4 : Int32) F) (E_o0 : Exa Z h0 o0 "java/lang/String") (F_coder_o0 : Fld Z h0 o0 "java/lang/String" "coder" "B" (.int (0 : Int32))) (F_value_o0 : Fld Z h0 o0 "java/lang/String" "value" "[B" .null) (g_o0 : n0 ≤ o0) (ne_o0_o1 : o0 ≠ o1) (S__assertionsDisabled : Sta Z h0 "java/lang/StringUTF16" "$assertionsDisabled" "Z" (.int (1 : Int32))) (S_HI_BYTE_SHIFT : Sta Z h0 "java/lang/StringUTF16" "HI_BYTE_SHIFT" "I" (.int (0 : Int32))) (S_LO_BYTE_SHIFT : Sta Z h0 "java/lang/StringUTF16" "LO_BYTE_SHIFT" "I" (.int (8 : Int32))) (hA : ¬ (¬ (255 : Int32) < F 0 ∧ ¬ (255 : Int32) < F 1 ∧ ¬ (255 : Int32) < F 2 ∧ ¬ (255 : Int32) < F 3)) (hch : own_ch F) :
    MetFree l (⟨"java/lang/String", "<init>", "([C)V"⟩ : MethodName) (head1 (Jvm.Cond.code (⟨"java/lang/String", "<init>", "([C)V"⟩ : MethodName) jdk_42_method_3_code 2 none :: ws) ({ frames := 5, cells := 2, slots := 12, locals := 74 } : Room)) (fun a U => a = #[(.ref o0), (.ref o1)] ∧ Z.Warmed39 U.vm ∧ U.heap = h0) (fun _ _ _ _ _ => True) (fun _ U o U' => ∃ v L, o = .returned v ∧ Q1u Z o0 o1 cs F h0 n0 v U'.heap L ∧ FrameEnd U o U' L ({ frames := 5, cells := 2, slots := 12, locals := 74 } : Room).cells ({ frames := 5, cells := 2, slots := 12, locals := 74 } : Room).slots) := by
  refine MetFree.of_bodySF (plainFor_of_name pn_1u) hisR ?_
  intro p e s m args below meth c s₁ Bd hml0 hP hK
  obtain ⟨rfl, hZ, hh⟩ := hP
  have hx := Bd.exec
  have hby := Bd.bytes
  have hml : c.maxLocals = 2 := hml0
  have hown : s.vm.findClass "java/lang/String" = some m.cls := findClass_of_methodNamed Bd.named
  have hnm := (name_of_methodNamed Bd.named Bd.method).1
  have X0 : Stand p l e ({ frames := 5, cells := 2, slots := 12, locals := 74 } : Room) s m #[(.ref o0), (.ref o1)] below meth c s₁ [] 0 0 := Stand.of_body Bd
  have e0 : s₁.heap = h0 := by rw [← hh, Bd.state]; rfl
  have N0 := Fr.nil n0
  have pre0 : ∀ t, Steps p.tables e below (s₁.setTop (mkF m 0 #[.val (.ref o0), .val (.ref o1)] [])) t → Steps p.tables e below (s₁.setTop (entryFrame m #[(.ref o0), (.ref o1)] 2)) t := fun t k => castTop (ef_1u m o0 o1) k
  obtain ⟨cl1, Ar1, Sz1, Nn1, -⟩ := id V_o1
  obtain ⟨_, _, ⟨T2, L2, k2, n2⟩, -, X2, ⟨Lc2, hQ2, l2, y2, z2⟩, st2⟩ := X0.specialBack hx (y := (⟨"java/lang/String", "<init>", "([CIILjava/lang/Void;)V"⟩ : MethodName)) rfl hown (mvT hZ (hw _ (List.mem_of_getElem? (i := 7) rfl))) (mvT hZ (hw _ (List.mem_of_getElem? (i := 8) rfl))) (mvT hZ (hw _ (List.mem_of_getElem? (i := 10) rfl))) (by decide) (backOf (W := 0) (rm2u l Z a0 hw [] o0 o1 cs F h0 n0 Z0 S_COMPACT_STRINGS (hcs) V_o1 E_o0 F_coder_o0 F_value_o0 g_o0 ne_o0_o1 S__assertionsDisabled S_HI_BYTE_SHIFT S_LO_BYTE_SHIFT (hA) (hch)) hZ (hw _ (List.mem_of_getElem? (i := 10) rfl)) (hw _ (List.mem_of_getElem? (i := 3) rfl)) (by decide) (by decide)) (g := (mkF m 6 #[.val (.ref o0), .val (.ref o1)] [.null, (.int (4 : Int32)), (.int (0 : Int32)), (.ref o1), (.ref o0)])) rfl (by rw [hml]; rfl) (Steps.refl _) (a := o0) (argsL := [(.ref o1), (.int (0 : Int32)), (.int (4 : Int32)), .null]) (rest := []) (lenOf pd_1u_0 rfl) rfl (by show 2 * 0 + _ ≤ _; exact Nat.le_of_eq rfl) (hb hby d1_6) (fun _ _ => ⟨rfl, e0, (by decide : 0 + 2 ≤ _), (by decide : 0 + 12 ≤ _)⟩)
  dsimp only [Pt.U, Pt.locs, Pt.cells, Pt.slots] at X2 l2 y2 z2 st2 hQ2
  subst l2 y2 z2
  obtain ⟨r_o0_value_2, rfl, N2q, K2q, g_r_o0_value_2, szq_r_o0_value_2, G2_0, G2_1, G2_2⟩ := hQ2
  have N2 := Fr.app N0 N2q
  have ne_o1_r_o0_value_2 : o1 ≠ r_o0_value_2 := Nat.ne_of_lt (Nat.lt_of_lt_of_le V_o1.lt szq_r_o0_value_2)
  have ne_o0_r_o0_value_2 : o0 ≠ r_o0_value_2 := Nat.ne_of_lt (Nat.lt_of_lt_of_le E_o0.lt szq_r_o0_value_2)
  have sz_r_o0_value_2 : h0.size ≤ r_o0_value_2 := Nat.le_trans (Keep.refl h0 [o0]).1 szq_r_o0_value_2
  have S3 := own_Sta_keep S_COMPACT_STRINGS K2q (allS (own_Exa_st E_o0) all0)
  have S4 := own_Sta_keep S__assertionsDisabled K2q (allS (own_Exa_st E_o0) all0)
  have S5 := own_Sta_keep S_HI_BYTE_SHIFT K2q (allS (own_Exa_st E_o0) all0)
  have S6 := own_Sta_keep S_LO_BYTE_SHIFT K2q (allS (own_Exa_st E_o0) all0)
  have K7 : Keep h0 T2.heap [o0] := (Keep.refl h0 [o0]).trans K2q (allS (Or.inl (List.mem_of_getElem? (i := 0) rfl)) all0)
  have Z8 : n0 ≤ T2.heap.size := Nat.le_trans Z0 K7.1
  obtain ⟨LS2, X2, N2⟩ : ∃ L, Stand p l e ({ frames := 5, cells := 2, slots := 12, locals := 74 } : Room) s m #[(.ref o0), (.ref o1)] below meth c T2 L 2 12 ∧ Fr n0 L := ⟨_, X2, N2⟩
  obtain ⟨fs, hr, hrun, hended, hW, hsame⟩ := X2.leave (v := none) (fun _ => rfl)
  refine ⟨_, _, pre0 _ ?_, hrun, hended, _, _, rfl, ?_, ⟨_, rfl⟩, hW, hsame.mono (by decide) (by decide)⟩
  · show Steps p.tables e below (s₁.setTop (mkF m 0 #[.val (.ref o0), .val (.ref o1)] [])) _
    refine XS.aloadN X0.here hx rfl (hb hby d1_0) rfl rfl ?_
    show Steps p.tables e below (s₁.setTop (mkF m 1 #[.val (.ref o0), .val (.ref o1)] [(.ref o0)])) _
    refine XS.aloadN X0.here hx rfl (hb hby d1_1) rfl rfl ?_
    show Steps p.tables e below (s₁.setTop (mkF m 2 #[.val (.ref o0), .val (.ref o1)] [(.ref o1), (.ref o0)])) _
    refine XS.iconst X0.here hx rfl (hb hby d1_2) ?_
    show Steps p.tables e below (s₁.setTop (mkF m 3 #[.val (.ref o0), .val (.ref o1)] [(.int (0 : Int32)), (.ref o1), (.ref o0)])) _
    refine XS.aloadN X0.here hx rfl (hb hby d1_3) rfl rfl ?_
    show Steps p.tables e below (s₁.setTop (mkF m 4 #[.val (.ref o0), .val (.ref o1)] [(.ref o1), (.int (0 : Int32)), (.ref o1), (.ref o0)])) _
    refine X0.arraylength hx (by rw [e0]; exact Ar1.1) (State.isArrayOf_alike hZ.alike Ar1.2.1) (g := (mkF m 4 #[.val (.ref o0), .val (.ref o1)] [(.ref o1), (.int (0 : Int32)), (.ref o1), (.ref o0)])) rfl rfl (hb hby d1_4) _ ?_
    rw [len_of Sz1 Nn1]
    show Steps p.tables e below (s₁.setTop (mkF m 5 #[.val (.ref o0), .val (.ref o1)] [(.int (4 : Int32)), (.int (0 : Int32)), (.ref o1), (.ref o0)])) _
    refine XS.aconstNull X0.here hx rfl (hb hby d1_5) ?_
    show Steps p.tables e below (s₁.setTop (mkF m 6 #[.val (.ref o0), .val (.ref o1)] [.null, (.int (4 : Int32)), (.int (0 : Int32)), (.ref o1), (.ref o0)])) _
    refine st2.trans ?_
    show Steps p.tables e below (T2.setTop (mkF m 9 #[.val (.ref o0), .val (.ref o1)] [])) _
    exact X2.returnOut hx Bd.returns (hb hby d1_9) hr
  · show Q1u Z o0 o1 cs F h0 n0 _ T2.heap _
    exact ⟨r_o0_value_2, rfl, N2, K7, g_r_o0_value_2, sz_r_o0_value_2, G2_0, G2_1, G2_2⟩
theorem d7_0 : decode method_2_code 0 = .ok (.iload_n 2, 1) := by decide +kernel
theorem d7_1 : decode method_2_code 1 = .ok (.iload_n 3, 1) := by decide +kernel
theorem d7_2 : decode method_2_code 2 = .ok (.if_icmp .lt 20, 3) := by decide +kernel
theorem d7_5 : decode method_2_code 5 = .ok (.iload_n 2, 1) := by decide +kernel
theorem d7_6 : decode method_2_code 6 = .ok (.iload 4, 2) := by decide +kernel
theorem d7_8 : decode method_2_code 8 = .ok (.if_icmp .ge 14, 3) := by decide +kernel
theorem d7_11 : decode method_2_code 11 = .ok (.aload_n 0, 1) := by decide +kernel
theorem d7_12 : decode method_2_code 12 = .ok (.iload_n 2, 1) := by decide +kernel
theorem d7_13 : decode method_2_code 13 = .ok (.caload, 1) := by decide +kernel
theorem d7_14 : decode method_2_code 14 = .ok (.iload_n 1, 1) := by decide +kernel
theorem d7_15 : decode method_2_code 15 = .ok (.if_icmp .ne 7, 3) := by decide +kernel
theorem d7_18 : decode method_2_code 18 = .ok (.iconst 1, 1) := by decide +kernel
theorem d7_19 : decode method_2_code 19 = .ok (.goto 4, 3) := by decide +kernel
theorem d7_22 : decode method_2_code 22 = .ok (.iconst 0, 1) := by decide +kernel
theorem d7_23 : decode method_2_code 23 = .ok (.ireturn, 1) := by decide +kernel
theorem pn_7 : plainName "com/example/corvid/corvid/internal/StringEscapesIndexOfPinLaw" = true := by first | (simp [plainName, overriddenIn]; done) | decide +kernel
theorem ef_7 (m : MethodId) (x0 : Addr) (x1 : Int32) (x2 : Int32) (x3 : Int32) (x4 : Int32) : entryFrame m #[(.ref x0), (.int x1), (.int x2), (.int x3), (.int x4)] 5 = mkF m 0 #[.val (.ref x0), .val (.int x1), .val (.int x2), .val (.int x3), .val (.int x4)] [] := by first | (simp [entryFrame, mkF, argsToLocals, Value.category]; done) | rfl
def f7 (p1 : Int32) (p2 : Int32) (p3 : Int32) (p4 : Int32) (F : Nat → Int32) : Int32 :=
  if p2 < p3 then ((0 : Int32)) else
  (if p2 < p4 then (if (F (p2).toNatClampNeg) = p1 then ((1 : Int32)) else
  ((0 : Int32))) else
  ((0 : Int32)))
def Q7 (Z : State) (o0 : Addr) (p1 : Int32) (p2 : Int32) (p3 : Int32) (p4 : Int32) (F : Nat → Int32) (h0 : Heap) (n0 : Nat) (v : Option Value) (h : Heap) (L : List Loc) : Prop := v = some (.int (f7 p1 p2 p3 p4 F)) ∧ Fr n0 L ∧ h = h0
set_option maxRecDepth 65536 in
set_option maxHeartbeats 40000000 in
theorem rm7 (l : Launch) (Z : State) (a0 : Array Value) (hw : ∀ d ∈ tables_1, d.before a0 Z = true) (ws : List Jvm.Cond) (o0 : Addr) (p1 : Int32) (p2 : Int32) (p3 : Int32) (p4 : Int32) (F : Nat → Int32) (h0 : Heap) (n0 : Nat) (Z0 : n0 ≤ h0.size) (V_o0 : own_AI Z h0 o0 .char (4 : Int32) F) (h : ¬ p2 < 0 ∧ p2 < (4 : Int32)) :
    MetFree l (⟨"com/example/corvid/corvid/internal/StringEscapesIndexOfPinLaw", "hit", "([CCIII)Z"⟩ : MethodName) (head1 (Jvm.Cond.code (⟨"com/example/corvid/corvid/internal/StringEscapesIndexOfPinLaw", "hit", "([CCIII)Z"⟩ : MethodName) method_2_code 5 (some .boolean) :: ws) ({ frames := 0, cells := 0, slots := 0, locals := 0 } : Room)) (fun a U => a = #[(.ref o0), (.int p1), (.int p2), (.int p3), (.int p4)] ∧ Z.Warmed39 U.vm ∧ U.heap = h0) (fun _ _ _ _ _ => True) (fun _ U o U' => ∃ v L, o = .returned v ∧ Q7 Z o0 p1 p2 p3 p4 F h0 n0 v U'.heap L ∧ FrameEnd U o U' L ({ frames := 0, cells := 0, slots := 0, locals := 0 } : Room).cells ({ frames := 0, cells := 0, slots := 0, locals := 0 } : Room).slots) := by
  refine MetFree.of_bodySF (plainFor_of_name pn_7) hisR ?_
  intro p e s m args below meth c s₁ Bd hml0 hP hK
  obtain ⟨rfl, hZ, hh⟩ := hP
  have hx := Bd.exec
  have hby := Bd.bytes
  have hml : c.maxLocals = 5 := hml0
  have hown : s.vm.findClass "com/example/corvid/corvid/internal/StringEscapesIndexOfPinLaw" = some m.cls := findClass_of_methodNamed Bd.named
  have hnm := (name_of_methodNamed Bd.named Bd.method).1
  have X0 : Stand p l e ({ frames := 0, cells := 0, slots := 0, locals := 0 } : Room) s m #[(.ref o0), (.int p1), (.int p2), (.int p3), (.int p4)] below meth c s₁ [] 0 0 := Stand.of_body Bd
  have e0 : s₁.heap = h0 := by rw [← hh, Bd.state]; rfl
  have N0 := Fr.nil n0
  have pre0 : ∀ t, Steps p.tables e below (s₁.setTop (mkF m 0 #[.val (.ref o0), .val (.int p1), .val (.int p2), .val (.int p3), .val (.int p4)] [])) t → Steps p.tables e below (s₁.setTop (entryFrame m #[(.ref o0), (.int p1), (.int p2), (.int p3), (.int p4)] 5)) t := fun t k => castTop (ef_7 m o0 p1 p2 p3 p4) k
  have pre1 : ∀ t, Steps p.tables e below (s₁.setTop (mkF m 2 #[.val (.ref o0), .val (.int p1), .val (.int p2), .val (.int p3), .val (.int p4)] [(.int p3), (.int p2)])) t → Steps p.tables e below (s₁.setTop (entryFrame m #[(.ref o0), (.int p1), (.int p2), (.int p3), (.int p4)] 5)) t := fun t kt => pre0 t (by
      show Steps p.tables e below (s₁.setTop (mkF m 0 #[.val (.ref o0), .val (.int p1), .val (.int p2), .val (.int p3), .val (.int p4)] [])) _
      refine XS.iloadN X0.here hx rfl (hb hby d7_0) rfl ?_
      show Steps p.tables e below (s₁.setTop (mkF m 1 #[.val (.ref o0), .val (.int p1), .val (.int p2), .val (.int p3), .val (.int p4)] [(.int p2)])) _
      refine XS.iloadN X0.here hx rfl (hb hby d7_1) rfl ?_
      exact kt)
  by_cases hc2_2 : p2 < p3
  · obtain ⟨fs, hr, hrun, hended, hW, hsame⟩ := X0.leave (v := some (.int (0 : Int32))) (fun h => by rw [Bd.returns] at h; cases h)
    have hv8 : (f7 p1 p2 p3 p4 F) = (0 : Int32) := by rw [f7, if_pos hc2_2]
    refine ⟨_, _, pre1 _ ?_, hrun, hended, _, _, rfl, ?_, ⟨_, rfl⟩, hW, hsame.mono (by decide) (by decide)⟩
    · show Steps p.tables e below (s₁.setTop (mkF m 2 #[.val (.ref o0), .val (.int p1), .val (.int p2), .val (.int p3), .val (.int p4)] [(.int p3), (.int p2)])) _
      refine XS.icmpYes X0.here hx rfl (pc0 := 2) (pc' := 22) rfl (hb hby d7_2) rfl (tlt hc2_2).1 (by decide) (by decide) ?_
      show Steps p.tables e below (s₁.setTop (mkF m 22 #[.val (.ref o0), .val (.int p1), .val (.int p2), .val (.int p3), .val (.int p4)] [])) _
      refine XS.iconst X0.here hx rfl (hb hby d7_22) ?_
      show Steps p.tables e below (s₁.setTop (mkF m 23 #[.val (.ref o0), .val (.int p1), .val (.int p2), .val (.int p3), .val (.int p4)] [(.int (0 : Int32))])) _
      exact retN X0 hx (t := .boolean) Bd.returns (by simp) (hb hby d7_23) hr
    · show Q7 Z o0 p1 p2 p3 p4 F h0 n0 _ s₁.heap _
      rw [e0]
      exact ⟨congrArg (fun q => some (Value.int q)) hv8.symm, N0, rfl⟩
  · have pre3 : ∀ t, Steps p.tables e below (s₁.setTop (mkF m 8 #[.val (.ref o0), .val (.int p1), .val (.int p2), .val (.int p3), .val (.int p4)] [(.int p4), (.int p2)])) t → Steps p.tables e below (s₁.setTop (entryFrame m #[(.ref o0), (.int p1), (.int p2), (.int p3), (.int p4)] 5)) t := fun t kt => pre1 t (by
        show Steps p.tables e below (s₁.setTop (mkF m 2 #[.val (.ref o0), .val (.int p1), .val (.int p2), .val (.int p3), .val (.int p4)] [(.int p3), (.int p2)])) _
        refine XS.icmpNo X0.here hx rfl (hb hby d7_2) rfl (flt hc2_2).1 ?_
        show Steps p.tables e below (s₁.setTop (mkF m 5 #[.val (.ref o0), .val (.int p1), .val (.int p2), .val (.int p3), .val (.int p4)] [])) _
        refine XS.iloadN X0.here hx rfl (hb hby d7_5) rfl ?_
        show Steps p.tables e below (s₁.setTop (mkF m 6 #[.val (.ref o0), .val (.int p1), .val (.int p2), .val (.int p3), .val (.int p4)] [(.int p2)])) _
        refine XS.iload X0.here hx rfl (hb hby d7_6) rfl ?_
        exact kt)
    by_cases hc8_4 : p2 < p4
    · obtain ⟨cl5, Ar5, Sz5, Nn5, Hs5⟩ := id V_o0
      have hin5 : ¬ (p2 < 0 ∨ cl5.slots.size ≤ (p2).toNatClampNeg) := inb_of Sz5 h
      have hat5 : cl5.slots[(p2).toNatClampNeg]? = some (.int (F (p2).toNatClampNeg)) := (Hs5 _ (own_lt hin5)).1
      have pre6 : ∀ t, Steps p.tables e below (s₁.setTop (mkF m 15 #[.val (.ref o0), .val (.int p1), .val (.int p2), .val (.int p3), .val (.int p4)] [(.int p1), (.int (F (p2).toNatClampNeg))])) t → Steps p.tables e below (s₁.setTop (entryFrame m #[(.ref o0), (.int p1), (.int p2), (.int p3), (.int p4)] 5)) t := fun t kt => pre3 t (by
          show Steps p.tables e below (s₁.setTop (mkF m 8 #[.val (.ref o0), .val (.int p1), .val (.int p2), .val (.int p3), .val (.int p4)] [(.int p4), (.int p2)])) _
          refine XS.icmpNo X0.here hx rfl (hb hby d7_8) rfl (tlt hc8_4).2.1 ?_
          show Steps p.tables e below (s₁.setTop (mkF m 11 #[.val (.ref o0), .val (.int p1), .val (.int p2), .val (.int p3), .val (.int p4)] [])) _
          refine XS.aloadN X0.here hx rfl (hb hby d7_11) rfl rfl ?_
          show Steps p.tables e below (s₁.setTop (mkF m 12 #[.val (.ref o0), .val (.int p1), .val (.int p2), .val (.int p3), .val (.int p4)] [(.ref o0)])) _
          refine XS.iloadN X0.here hx rfl (hb hby d7_12) rfl ?_
          show Steps p.tables e below (s₁.setTop (mkF m 13 #[.val (.ref o0), .val (.int p1), .val (.int p2), .val (.int p3), .val (.int p4)] [(.int p2), (.ref o0)])) _
          refine X0.caload hx (j := p2) (v := (.int (F (p2).toNatClampNeg))) (by rw [e0]; exact Ar5.1) (State.isArrayOf_alike hZ.alike Ar5.2.1) Ar5.2.2 hin5 hat5 (g := (mkF m 13 #[.val (.ref o0), .val (.int p1), .val (.int p2), .val (.int p3), .val (.int p4)] [(.int p2), (.ref o0)])) rfl rfl (hb hby d7_13) _ ?_
          show Steps p.tables e below (s₁.setTop (mkF m 14 #[.val (.ref o0), .val (.int p1), .val (.int p2), .val (.int p3), .val (.int p4)] [(.int (F (p2).toNatClampNeg))])) _
          refine XS.iloadN X0.here hx rfl (hb hby d7_14) rfl ?_
          exact kt)
      by_cases hc15_7 : (F (p2).toNatClampNeg) = p1
      · obtain ⟨fs, hr, hrun, hended, hW, hsame⟩ := X0.leave (v := some (.int (1 : Int32))) (fun h => by rw [Bd.returns] at h; cases h)
        have hv9 : (f7 p1 p2 p3 p4 F) = (1 : Int32) := by rw [f7, if_neg hc2_2, if_pos hc8_4, if_pos hc15_7]
        refine ⟨_, _, pre6 _ ?_, hrun, hended, _, _, rfl, ?_, ⟨_, rfl⟩, hW, hsame.mono (by decide) (by decide)⟩
        · show Steps p.tables e below (s₁.setTop (mkF m 15 #[.val (.ref o0), .val (.int p1), .val (.int p2), .val (.int p3), .val (.int p4)] [(.int p1), (.int (F (p2).toNatClampNeg))])) _
          refine XS.icmpNo X0.here hx rfl (hb hby d7_15) rfl (teq hc15_7).2 ?_
          show Steps p.tables e below (s₁.setTop (mkF m 18 #[.val (.ref o0), .val (.int p1), .val (.int p2), .val (.int p3), .val (.int p4)] [])) _
          refine XS.iconst X0.here hx rfl (hb hby d7_18) ?_
          show Steps p.tables e below (s₁.setTop (mkF m 19 #[.val (.ref o0), .val (.int p1), .val (.int p2), .val (.int p3), .val (.int p4)] [(.int (1 : Int32))])) _
          refine XS.goto X0.here hx rfl (pc0 := 19) (pc' := 23) rfl (hb hby d7_19) (by decide) (by decide) ?_
          show Steps p.tables e below (s₁.setTop (mkF m 23 #[.val (.ref o0), .val (.int p1), .val (.int p2), .val (.int p3), .val (.int p4)] [(.int (1 : Int32))])) _
          exact retN X0 hx (t := .boolean) Bd.returns (by simp) (hb hby d7_23) hr
        · show Q7 Z o0 p1 p2 p3 p4 F h0 n0 _ s₁.heap _
          rw [e0]
          exact ⟨congrArg (fun q => some (Value.int q)) hv9.symm, N0, rfl⟩
      · obtain ⟨fs, hr, hrun, hended, hW, hsame⟩ := X0.leave (v := some (.int (0 : Int32))) (fun h => by rw [Bd.returns] at h; cases h)
        have hv10 : (f7 p1 p2 p3 p4 F) = (0 : Int32) := by rw [f7, if_neg hc2_2, if_pos hc8_4, if_neg hc15_7]
        refine ⟨_, _, pre6 _ ?_, hrun, hended, _, _, rfl, ?_, ⟨_, rfl⟩, hW, hsame.mono (by decide) (by decide)⟩
        · show Steps p.tables e below (s₁.setTop (mkF m 15 #[.val (.ref o0), .val (.int p1), .val (.int p2), .val (.int p3), .val (.int p4)] [(.int p1), (.int (F (p2).toNatClampNeg))])) _
          refine XS.icmpYes X0.here hx rfl (pc0 := 15) (pc' := 22) rfl (hb hby d7_15) rfl (feq hc15_7).2 (by decide) (by decide) ?_
          show Steps p.tables e below (s₁.setTop (mkF m 22 #[.val (.ref o0), .val (.int p1), .val (.int p2), .val (.int p3), .val (.int p4)] [])) _
          refine XS.iconst X0.here hx rfl (hb hby d7_22) ?_
          show Steps p.tables e below (s₁.setTop (mkF m 23 #[.val (.ref o0), .val (.int p1), .val (.int p2), .val (.int p3), .val (.int p4)] [(.int (0 : Int32))])) _
          exact retN X0 hx (t := .boolean) Bd.returns (by simp) (hb hby d7_23) hr
        · show Q7 Z o0 p1 p2 p3 p4 F h0 n0 _ s₁.heap _
          rw [e0]
          exact ⟨congrArg (fun q => some (Value.int q)) hv10.symm, N0, rfl⟩
    · obtain ⟨fs, hr, hrun, hended, hW, hsame⟩ := X0.leave (v := some (.int (0 : Int32))) (fun h => by rw [Bd.returns] at h; cases h)
      have hv11 : (f7 p1 p2 p3 p4 F) = (0 : Int32) := by rw [f7, if_neg hc2_2, if_neg hc8_4]
      refine ⟨_, _, pre3 _ ?_, hrun, hended, _, _, rfl, ?_, ⟨_, rfl⟩, hW, hsame.mono (by decide) (by decide)⟩
      · show Steps p.tables e below (s₁.setTop (mkF m 8 #[.val (.ref o0), .val (.int p1), .val (.int p2), .val (.int p3), .val (.int p4)] [(.int p4), (.int p2)])) _
        refine XS.icmpYes X0.here hx rfl (pc0 := 8) (pc' := 22) rfl (hb hby d7_8) rfl (flt hc8_4).2.1 (by decide) (by decide) ?_
        show Steps p.tables e below (s₁.setTop (mkF m 22 #[.val (.ref o0), .val (.int p1), .val (.int p2), .val (.int p3), .val (.int p4)] [])) _
        refine XS.iconst X0.here hx rfl (hb hby d7_22) ?_
        show Steps p.tables e below (s₁.setTop (mkF m 23 #[.val (.ref o0), .val (.int p1), .val (.int p2), .val (.int p3), .val (.int p4)] [(.int (0 : Int32))])) _
        exact retN X0 hx (t := .boolean) Bd.returns (by simp) (hb hby d7_23) hr
      · show Q7 Z o0 p1 p2 p3 p4 F h0 n0 _ s₁.heap _
        rw [e0]
        exact ⟨congrArg (fun q => some (Value.int q)) hv11.symm, N0, rfl⟩
theorem d12_0 : decode jdk_42_method_152_code 0 = .ok (.getstatic 38, 3) := by decide +kernel
theorem d12_3 : decode jdk_42_method_152_code 3 = .ok (.ifCond .eq 10, 3) := by decide +kernel
theorem d12_6 : decode jdk_42_method_152_code 6 = .ok (.aload_n 0, 1) := by decide +kernel
theorem d12_7 : decode jdk_42_method_152_code 7 = .ok (.getfield 15, 3) := by decide +kernel
theorem d12_10 : decode jdk_42_method_152_code 10 = .ok (.goto 4, 3) := by decide +kernel
theorem d12_14 : decode jdk_42_method_152_code 14 = .ok (.ireturn, 1) := by decide +kernel
theorem pn_12l : plainName "java/lang/String" = true := by first | (simp [plainName, overriddenIn]; done) | decide +kernel
theorem ef_12l (m : MethodId) (x0 : Addr) : entryFrame m #[(.ref x0)] 1 = mkF m 0 #[.val (.ref x0)] [] := by first | (simp [entryFrame, mkF, argsToLocals, Value.category]; done) | rfl
def Q12l (Z : State) (o0 : Addr) (cs : Int32) (h0 : Heap) (n0 : Nat) (v : Option Value) (h : Heap) (L : List Loc) : Prop := v = some (.int (0 : Int32)) ∧ Fr n0 L ∧ h = h0
set_option maxRecDepth 65536 in
set_option maxHeartbeats 40000000 in
theorem rm12l (l : Launch) (Z : State) (a0 : Array Value) (hw : ∀ d ∈ tables_1, d.before a0 Z = true) (ws : List Jvm.Cond) (o0 : Addr) (cs : Int32) (h0 : Heap) (n0 : Nat) (Z0 : n0 ≤ h0.size) (S_COMPACT_STRINGS : Sta Z h0 "java/lang/String" "COMPACT_STRINGS" "Z" (.int cs)) (hcs : ¬ cs = (0 : Int32)) (F_coder_o0 : Fld Z h0 o0 "java/lang/String" "coder" "B" (.int (0 : Int32))) :
    MetFree l (⟨"java/lang/String", "coder", "()B"⟩ : MethodName) (head1 (Jvm.Cond.code (⟨"java/lang/String", "coder", "()B"⟩ : MethodName) jdk_42_method_152_code 1 (some .byte) :: ws) ({ frames := 0, cells := 0, slots := 0, locals := 0 } : Room)) (fun a U => a = #[(.ref o0)] ∧ Z.Warmed39 U.vm ∧ U.heap = h0) (fun _ _ _ _ _ => True) (fun _ U o U' => ∃ v L, o = .returned v ∧ Q12l Z o0 cs h0 n0 v U'.heap L ∧ FrameEnd U o U' L ({ frames := 0, cells := 0, slots := 0, locals := 0 } : Room).cells ({ frames := 0, cells := 0, slots := 0, locals := 0 } : Room).slots) := by
  refine MetFree.of_bodySF (plainFor_of_name pn_12l) hisR ?_
  intro p e s m args below meth c s₁ Bd hml0 hP hK
  obtain ⟨rfl, hZ, hh⟩ := hP
  have hx := Bd.exec
  have hby := Bd.bytes
  have hml : c.maxLocals = 1 := hml0
  have hown : s.vm.findClass "java/lang/String" = some m.cls := findClass_of_methodNamed Bd.named
  have hnm := (name_of_methodNamed Bd.named Bd.method).1
  have X0 : Stand p l e ({ frames := 0, cells := 0, slots := 0, locals := 0 } : Room) s m #[(.ref o0)] below meth c s₁ [] 0 0 := Stand.of_body Bd
  have e0 : s₁.heap = h0 := by rw [← hh, Bd.state]; rfl
  have N0 := Fr.nil n0
  have pre0 : ∀ t, Steps p.tables e below (s₁.setTop (mkF m 0 #[.val (.ref o0)] [])) t → Steps p.tables e below (s₁.setTop (entryFrame m #[(.ref o0)] 1)) t := fun t k => castTop (ef_12l m o0) k
  obtain ⟨T1, X1, e1, st1⟩ := getS2 X0 hx hZ hown (host := "") (Or.inl (hw _ (List.mem_of_getElem? (i := 14) rfl))) Via.refl e0 S_COMPACT_STRINGS (g := (mkF m 0 #[.val (.ref o0)] [])) rfl (hb hby d12_0)
  have pre2 : ∀ t, Steps p.tables e below (T1.setTop (mkF m 3 #[.val (.ref o0)] [(.int cs)])) t → Steps p.tables e below (s₁.setTop (entryFrame m #[(.ref o0)] 1)) t := fun t kt => pre0 t (by
      show Steps p.tables e below (s₁.setTop (mkF m 0 #[.val (.ref o0)] [])) _
      refine st1 _ ?_
      exact kt)
  have hd3_3 : ¬ (cs = (0 : Int32)) := hcs
  obtain ⟨T4, X4, e4, st4⟩ := getF X1 hx hZ hown (host := "") (Or.inl (hw _ (List.mem_of_getElem? (i := 26) rfl))) Via.refl e1 F_coder_o0 (g := (mkF m 7 #[.val (.ref o0)] [(.ref o0)])) rfl rfl (hb hby d12_7)
  obtain ⟨fs, hr, hrun, hended, hW, hsame⟩ := X4.leave (v := some (.int (0 : Int32))) (fun h => by rw [Bd.returns] at h; cases h)
  have hv5 : (0 : Int32) = (0 : Int32) := rfl
  refine ⟨_, _, pre2 _ ?_, hrun, hended, _, _, rfl, ?_, ⟨_, rfl⟩, hW, hsame.mono (by decide) (by decide)⟩
  · show Steps p.tables e below (T1.setTop (mkF m 3 #[.val (.ref o0)] [(.int cs)])) _
    refine XS.ifNo X1.here hx rfl (hb hby d12_3) rfl ((if0 _ _).trans (feq hd3_3).1) ?_
    show Steps p.tables e below (T1.setTop (mkF m 6 #[.val (.ref o0)] [])) _
    refine XS.aloadN X1.here hx rfl (hb hby d12_6) rfl rfl ?_
    show Steps p.tables e below (T1.setTop (mkF m 7 #[.val (.ref o0)] [(.ref o0)])) _
    refine st4 _ ?_
    show Steps p.tables e below (T4.setTop (mkF m 10 #[.val (.ref o0)] [(.int (0 : Int32))])) _
    refine XS.goto X4.here hx rfl (pc0 := 10) (pc' := 14) rfl (hb hby d12_10) (by decide) (by decide) ?_
    show Steps p.tables e below (T4.setTop (mkF m 14 #[.val (.ref o0)] [(.int (0 : Int32))])) _
    exact retN X4 hx (t := .byte) Bd.returns (by simp) (hb hby d12_14) hr
  · show Q12l Z o0 cs h0 n0 _ T4.heap _
    rw [e4]
    exact ⟨congrArg (fun q => some (Value.int q)) hv5.symm, N0, rfl⟩
theorem pn_12u : plainName "java/lang/String" = true := by first | (simp [plainName, overriddenIn]; done) | decide +kernel
theorem ef_12u (m : MethodId) (x0 : Addr) : entryFrame m #[(.ref x0)] 1 = mkF m 0 #[.val (.ref x0)] [] := by first | (simp [entryFrame, mkF, argsToLocals, Value.category]; done) | rfl
def Q12u (Z : State) (o0 : Addr) (cs : Int32) (h0 : Heap) (n0 : Nat) (v : Option Value) (h : Heap) (L : List Loc) : Prop := v = some (.int (1 : Int32)) ∧ Fr n0 L ∧ h = h0
set_option maxRecDepth 65536 in
set_option maxHeartbeats 40000000 in
theorem rm12u (l : Launch) (Z : State) (a0 : Array Value) (hw : ∀ d ∈ tables_1, d.before a0 Z = true) (ws : List Jvm.Cond) (o0 : Addr) (cs : Int32) (h0 : Heap) (n0 : Nat) (Z0 : n0 ≤ h0.size) (S_COMPACT_STRINGS : Sta Z h0 "java/lang/String" "COMPACT_STRINGS" "Z" (.int cs)) (hcs : ¬ cs = (0 : Int32)) (F_coder_o0 : Fld Z h0 o0 "java/lang/String" "coder" "B" (.int (1 : Int32))) :
    MetFree l (⟨"java/lang/String", "coder", "()B"⟩ : MethodName) (head1 (Jvm.Cond.code (⟨"java/lang/String", "coder", "()B"⟩ : MethodName) jdk_42_method_152_code 1 (some .byte) :: ws) ({ frames := 0, cells := 0, slots := 0, locals := 0 } : Room)) (fun a U => a = #[(.ref o0)] ∧ Z.Warmed39 U.vm ∧ U.heap = h0) (fun _ _ _ _ _ => True) (fun _ U o U' => ∃ v L, o = .returned v ∧ Q12u Z o0 cs h0 n0 v U'.heap L ∧ FrameEnd U o U' L ({ frames := 0, cells := 0, slots := 0, locals := 0 } : Room).cells ({ frames := 0, cells := 0, slots := 0, locals := 0 } : Room).slots) := by
  refine MetFree.of_bodySF (plainFor_of_name pn_12u) hisR ?_
  intro p e s m args below meth c s₁ Bd hml0 hP hK
  obtain ⟨rfl, hZ, hh⟩ := hP
  have hx := Bd.exec
  have hby := Bd.bytes
  have hml : c.maxLocals = 1 := hml0
  have hown : s.vm.findClass "java/lang/String" = some m.cls := findClass_of_methodNamed Bd.named
  have hnm := (name_of_methodNamed Bd.named Bd.method).1
  have X0 : Stand p l e ({ frames := 0, cells := 0, slots := 0, locals := 0 } : Room) s m #[(.ref o0)] below meth c s₁ [] 0 0 := Stand.of_body Bd
  have e0 : s₁.heap = h0 := by rw [← hh, Bd.state]; rfl
  have N0 := Fr.nil n0
  have pre0 : ∀ t, Steps p.tables e below (s₁.setTop (mkF m 0 #[.val (.ref o0)] [])) t → Steps p.tables e below (s₁.setTop (entryFrame m #[(.ref o0)] 1)) t := fun t k => castTop (ef_12u m o0) k
  obtain ⟨T1, X1, e1, st1⟩ := getS2 X0 hx hZ hown (host := "") (Or.inl (hw _ (List.mem_of_getElem? (i := 14) rfl))) Via.refl e0 S_COMPACT_STRINGS (g := (mkF m 0 #[.val (.ref o0)] [])) rfl (hb hby d12_0)
  have pre2 : ∀ t, Steps p.tables e below (T1.setTop (mkF m 3 #[.val (.ref o0)] [(.int cs)])) t → Steps p.tables e below (s₁.setTop (entryFrame m #[(.ref o0)] 1)) t := fun t kt => pre0 t (by
      show Steps p.tables e below (s₁.setTop (mkF m 0 #[.val (.ref o0)] [])) _
      refine st1 _ ?_
      exact kt)
  have hd3_3 : ¬ (cs = (0 : Int32)) := hcs
  obtain ⟨T4, X4, e4, st4⟩ := getF X1 hx hZ hown (host := "") (Or.inl (hw _ (List.mem_of_getElem? (i := 26) rfl))) Via.refl e1 F_coder_o0 (g := (mkF m 7 #[.val (.ref o0)] [(.ref o0)])) rfl rfl (hb hby d12_7)
  obtain ⟨fs, hr, hrun, hended, hW, hsame⟩ := X4.leave (v := some (.int (1 : Int32))) (fun h => by rw [Bd.returns] at h; cases h)
  have hv5 : (1 : Int32) = (1 : Int32) := rfl
  refine ⟨_, _, pre2 _ ?_, hrun, hended, _, _, rfl, ?_, ⟨_, rfl⟩, hW, hsame.mono (by decide) (by decide)⟩
  · show Steps p.tables e below (T1.setTop (mkF m 3 #[.val (.ref o0)] [(.int cs)])) _
    refine XS.ifNo X1.here hx rfl (hb hby d12_3) rfl ((if0 _ _).trans (feq hd3_3).1) ?_
    show Steps p.tables e below (T1.setTop (mkF m 6 #[.val (.ref o0)] [])) _
    refine XS.aloadN X1.here hx rfl (hb hby d12_6) rfl rfl ?_
    show Steps p.tables e below (T1.setTop (mkF m 7 #[.val (.ref o0)] [(.ref o0)])) _
    refine st4 _ ?_
    show Steps p.tables e below (T4.setTop (mkF m 10 #[.val (.ref o0)] [(.int (1 : Int32))])) _
    refine XS.goto X4.here hx rfl (pc0 := 10) (pc' := 14) rfl (hb hby d12_10) (by decide) (by decide) ?_
    show Steps p.tables e below (T4.setTop (mkF m 14 #[.val (.ref o0)] [(.int (1 : Int32))])) _
    exact retN X4 hx (t := .byte) Bd.returns (by simp) (hb hby d12_14) hr
  · show Q12u Z o0 cs h0 n0 _ T4.heap _
    rw [e4]
    exact ⟨congrArg (fun q => some (Value.int q)) hv5.symm, N0, rfl⟩
theorem d11_0 : decode jdk_42_method_54_code 0 = .ok (.aload_n 0, 1) := by decide +kernel
theorem d11_1 : decode jdk_42_method_54_code 1 = .ok (.getfield 9, 3) := by decide +kernel
theorem d11_4 : decode jdk_42_method_54_code 4 = .ok (.arraylength, 1) := by decide +kernel
theorem d11_5 : decode jdk_42_method_54_code 5 = .ok (.aload_n 0, 1) := by decide +kernel
theorem d11_6 : decode jdk_42_method_54_code 6 = .ok (.invokevirtual 335, 3) := by decide +kernel
theorem d11_9 : decode jdk_42_method_54_code 9 = .ok (.ishr, 1) := by decide +kernel
theorem d11_10 : decode jdk_42_method_54_code 10 = .ok (.ireturn, 1) := by decide +kernel
theorem pn_11l : plainName "java/lang/String" = true := by first | (simp [plainName, overriddenIn]; done) | decide +kernel
theorem pd_11l_0 : parseMethodDescriptor "()B" = some ⟨[], some .byte⟩ := by decide +kernel
theorem ef_11l (m : MethodId) (x0 : Addr) : entryFrame m #[(.ref x0)] 1 = mkF m 0 #[.val (.ref x0)] [] := by first | (simp [entryFrame, mkF, argsToLocals, Value.category]; done) | rfl
def Q11l (Z : State) (o0 : Addr) (cs : Int32) (va : Addr) (F : Nat → Int32) (h0 : Heap) (n0 : Nat) (v : Option Value) (h : Heap) (L : List Loc) : Prop := v = some (.int (4 : Int32)) ∧ Fr n0 L ∧ h = h0
set_option maxRecDepth 65536 in
set_option maxHeartbeats 40000000 in
theorem rm11l (l : Launch) (Z : State) (a0 : Array Value) (hw : ∀ d ∈ tables_1, d.before a0 Z = true) (ws : List Jvm.Cond) (o0 : Addr) (cs : Int32) (va : Addr) (F : Nat → Int32) (h0 : Heap) (n0 : Nat) (Z0 : n0 ≤ h0.size) (S_COMPACT_STRINGS : Sta Z h0 "java/lang/String" "COMPACT_STRINGS" "Z" (.int cs)) (hcs : ¬ cs = (0 : Int32)) (F_coder_o0 : Fld Z h0 o0 "java/lang/String" "coder" "B" (.int (0 : Int32))) (F_value_o0 : Fld Z h0 o0 "java/lang/String" "value" "[B" (.ref va)) (V_va : own_AI Z h0 va .byte (4 : Int32) F) (E_o0 : Exa Z h0 o0 "java/lang/String") :
    MetFree l (⟨"java/lang/String", "length", "()I"⟩ : MethodName) (head1 (Jvm.Cond.code (⟨"java/lang/String", "length", "()I"⟩ : MethodName) jdk_42_method_54_code 1 (some .int) :: ws) ({ frames := 1, cells := 0, slots := 0, locals := 13 } : Room)) (fun a U => a = #[(.ref o0)] ∧ Z.Warmed39 U.vm ∧ U.heap = h0) (fun _ _ _ _ _ => True) (fun _ U o U' => ∃ v L, o = .returned v ∧ Q11l Z o0 cs va F h0 n0 v U'.heap L ∧ FrameEnd U o U' L ({ frames := 1, cells := 0, slots := 0, locals := 13 } : Room).cells ({ frames := 1, cells := 0, slots := 0, locals := 13 } : Room).slots) := by
  refine MetFree.of_bodySF (plainFor_of_name pn_11l) hisR ?_
  intro p e s m args below meth c s₁ Bd hml0 hP hK
  obtain ⟨rfl, hZ, hh⟩ := hP
  have hx := Bd.exec
  have hby := Bd.bytes
  have hml : c.maxLocals = 1 := hml0
  have hown : s.vm.findClass "java/lang/String" = some m.cls := findClass_of_methodNamed Bd.named
  have hnm := (name_of_methodNamed Bd.named Bd.method).1
  have X0 : Stand p l e ({ frames := 1, cells := 0, slots := 0, locals := 13 } : Room) s m #[(.ref o0)] below meth c s₁ [] 0 0 := Stand.of_body Bd
  have e0 : s₁.heap = h0 := by rw [← hh, Bd.state]; rfl
  have N0 := Fr.nil n0
  have pre0 : ∀ t, Steps p.tables e below (s₁.setTop (mkF m 0 #[.val (.ref o0)] [])) t → Steps p.tables e below (s₁.setTop (entryFrame m #[(.ref o0)] 1)) t := fun t k => castTop (ef_11l m o0) k
  obtain ⟨T1, X1, e1, st1⟩ := getF X0 hx hZ hown (host := "") (Or.inl (hw _ (List.mem_of_getElem? (i := 28) rfl))) Via.refl e0 F_value_o0 (g := (mkF m 1 #[.val (.ref o0)] [(.ref o0)])) rfl rfl (hb hby d11_1)
  obtain ⟨cl2, Ar2, Sz2, Nn2, -⟩ := id V_va
  obtain ⟨cq3, kq3, q3a, q3b, q3c⟩ := isOf hZ e1 E_o0
  obtain ⟨_, _, ⟨T3, L3, k3, n3⟩, -, X3, ⟨Lc3, hQ3, l3, y3, z3⟩, st3⟩ := X1.virtualBack hx (y := (⟨"java/lang/String", "coder", "()B"⟩ : MethodName)) (z := (⟨"java/lang/String", "coder", "()B"⟩ : MethodName)) hown (mvT hZ (hw _ (List.mem_of_getElem? (i := 53) rfl))) (mvT hZ (hw _ (List.mem_of_getElem? (i := 54) rfl))) (notFace_of_selects (args := #[]) (mvT hZ (hw _ (List.mem_of_getElem? (i := 56) rfl)))) (mvT hZ (hw _ (List.mem_of_getElem? (i := 56) rfl))) (mvT hZ (hw _ (List.mem_of_getElem? (i := 55) rfl))) (by decide) (backOf (W := 1) (rm12l l Z a0 hw [] o0 cs h0 n0 Z0 S_COMPACT_STRINGS (hcs) F_coder_o0) hZ (hw _ (List.mem_of_getElem? (i := 57) rfl)) (hw _ (List.mem_of_getElem? (i := 3) rfl)) (by decide) (by decide)) q3a q3c (g := (mkF m 6 #[.val (.ref o0)] [(.ref o0), (.int (4 : Int32))])) rfl (by rw [hml]; rfl) (Steps.refl _) (argsL := []) (rest := [(.int (4 : Int32))]) (lenOf pd_11l_0 rfl) rfl (by show 2 * 0 + _ ≤ _; exact Nat.le_of_eq rfl) (hb hby d11_6) (fun _ _ => ⟨rfl, e1, (by decide : 0 + 0 ≤ _), (by decide : 0 + 0 ≤ _)⟩)
  dsimp only [Pt.U, Pt.locs, Pt.cells, Pt.slots] at X3 l3 y3 z3 st3 hQ3
  subst l3 y3 z3
  obtain ⟨rfl, N3q, e3q⟩ := hQ3
  have N3 := Fr.app N0 N3q
  obtain ⟨fs, hr, hrun, hended, hW, hsame⟩ := X3.leave (v := some (.int (4 : Int32))) (fun h => by rw [Bd.returns] at h; cases h)
  have hv4 : (4 : Int32) = (4 : Int32) := rfl
  refine ⟨_, _, pre0 _ ?_, hrun, hended, _, _, rfl, ?_, ⟨_, rfl⟩, hW, hsame.mono (by decide) (by decide)⟩
  · show Steps p.tables e below (s₁.setTop (mkF m 0 #[.val (.ref o0)] [])) _
    refine XS.aloadN X0.here hx rfl (hb hby d11_0) rfl rfl ?_
    show Steps p.tables e below (s₁.setTop (mkF m 1 #[.val (.ref o0)] [(.ref o0)])) _
    refine st1 _ ?_
    show Steps p.tables e below (T1.setTop (mkF m 4 #[.val (.ref o0)] [(.ref va)])) _
    refine X1.arraylength hx (by rw [e1]; exact Ar2.1) (State.isArrayOf_alike hZ.alike Ar2.2.1) (g := (mkF m 4 #[.val (.ref o0)] [(.ref va)])) rfl rfl (hb hby d11_4) _ ?_
    rw [len_of Sz2 Nn2]
    show Steps p.tables e below (T1.setTop (mkF m 5 #[.val (.ref o0)] [(.int (4 : Int32))])) _
    refine XS.aloadN X1.here hx rfl (hb hby d11_5) rfl rfl ?_
    show Steps p.tables e below (T1.setTop (mkF m 6 #[.val (.ref o0)] [(.ref o0), (.int (4 : Int32))])) _
    refine st3.trans ?_
    show Steps p.tables e below (T3.setTop (mkF m 9 #[.val (.ref o0)] [(.int (0 : Int32)), (.int (4 : Int32))])) _
    refine XS.ishr X3.here hx rfl (hb hby d11_9) rfl ?_
    show Steps p.tables e below (T3.setTop (mkF m 10 #[.val (.ref o0)] [(.int (4 : Int32))])) _
    exact retI X3 hx Bd.returns (hb hby d11_10) hr
  · show Q11l Z o0 cs va F h0 n0 _ T3.heap _
    rw [e3q]
    exact ⟨congrArg (fun q => some (Value.int q)) hv4.symm, N3, rfl⟩
theorem pn_11u : plainName "java/lang/String" = true := by first | (simp [plainName, overriddenIn]; done) | decide +kernel
theorem pd_11u_0 : parseMethodDescriptor "()B" = some ⟨[], some .byte⟩ := by decide +kernel
theorem ef_11u (m : MethodId) (x0 : Addr) : entryFrame m #[(.ref x0)] 1 = mkF m 0 #[.val (.ref x0)] [] := by first | (simp [entryFrame, mkF, argsToLocals, Value.category]; done) | rfl
def Q11u (Z : State) (o0 : Addr) (cs : Int32) (va : Addr) (F : Nat → Int32) (h0 : Heap) (n0 : Nat) (v : Option Value) (h : Heap) (L : List Loc) : Prop := v = some (.int (4 : Int32)) ∧ Fr n0 L ∧ h = h0
set_option maxRecDepth 65536 in
set_option maxHeartbeats 40000000 in
theorem rm11u (l : Launch) (Z : State) (a0 : Array Value) (hw : ∀ d ∈ tables_1, d.before a0 Z = true) (ws : List Jvm.Cond) (o0 : Addr) (cs : Int32) (va : Addr) (F : Nat → Int32) (h0 : Heap) (n0 : Nat) (Z0 : n0 ≤ h0.size) (S_COMPACT_STRINGS : Sta Z h0 "java/lang/String" "COMPACT_STRINGS" "Z" (.int cs)) (hcs : ¬ cs = (0 : Int32)) (F_coder_o0 : Fld Z h0 o0 "java/lang/String" "coder" "B" (.int (1 : Int32))) (F_value_o0 : Fld Z h0 o0 "java/lang/String" "value" "[B" (.ref va)) (V_va : own_AI Z h0 va .byte (8 : Int32) F) (E_o0 : Exa Z h0 o0 "java/lang/String") :
    MetFree l (⟨"java/lang/String", "length", "()I"⟩ : MethodName) (head1 (Jvm.Cond.code (⟨"java/lang/String", "length", "()I"⟩ : MethodName) jdk_42_method_54_code 1 (some .int) :: ws) ({ frames := 1, cells := 0, slots := 0, locals := 13 } : Room)) (fun a U => a = #[(.ref o0)] ∧ Z.Warmed39 U.vm ∧ U.heap = h0) (fun _ _ _ _ _ => True) (fun _ U o U' => ∃ v L, o = .returned v ∧ Q11u Z o0 cs va F h0 n0 v U'.heap L ∧ FrameEnd U o U' L ({ frames := 1, cells := 0, slots := 0, locals := 13 } : Room).cells ({ frames := 1, cells := 0, slots := 0, locals := 13 } : Room).slots) := by
  refine MetFree.of_bodySF (plainFor_of_name pn_11u) hisR ?_
  intro p e s m args below meth c s₁ Bd hml0 hP hK
  obtain ⟨rfl, hZ, hh⟩ := hP
  have hx := Bd.exec
  have hby := Bd.bytes
  have hml : c.maxLocals = 1 := hml0
  have hown : s.vm.findClass "java/lang/String" = some m.cls := findClass_of_methodNamed Bd.named
  have hnm := (name_of_methodNamed Bd.named Bd.method).1
  have X0 : Stand p l e ({ frames := 1, cells := 0, slots := 0, locals := 13 } : Room) s m #[(.ref o0)] below meth c s₁ [] 0 0 := Stand.of_body Bd
  have e0 : s₁.heap = h0 := by rw [← hh, Bd.state]; rfl
  have N0 := Fr.nil n0
  have pre0 : ∀ t, Steps p.tables e below (s₁.setTop (mkF m 0 #[.val (.ref o0)] [])) t → Steps p.tables e below (s₁.setTop (entryFrame m #[(.ref o0)] 1)) t := fun t k => castTop (ef_11u m o0) k
  obtain ⟨T1, X1, e1, st1⟩ := getF X0 hx hZ hown (host := "") (Or.inl (hw _ (List.mem_of_getElem? (i := 28) rfl))) Via.refl e0 F_value_o0 (g := (mkF m 1 #[.val (.ref o0)] [(.ref o0)])) rfl rfl (hb hby d11_1)
  obtain ⟨cl2, Ar2, Sz2, Nn2, -⟩ := id V_va
  obtain ⟨cq3, kq3, q3a, q3b, q3c⟩ := isOf hZ e1 E_o0
  obtain ⟨_, _, ⟨T3, L3, k3, n3⟩, -, X3, ⟨Lc3, hQ3, l3, y3, z3⟩, st3⟩ := X1.virtualBack hx (y := (⟨"java/lang/String", "coder", "()B"⟩ : MethodName)) (z := (⟨"java/lang/String", "coder", "()B"⟩ : MethodName)) hown (mvT hZ (hw _ (List.mem_of_getElem? (i := 53) rfl))) (mvT hZ (hw _ (List.mem_of_getElem? (i := 54) rfl))) (notFace_of_selects (args := #[]) (mvT hZ (hw _ (List.mem_of_getElem? (i := 56) rfl)))) (mvT hZ (hw _ (List.mem_of_getElem? (i := 56) rfl))) (mvT hZ (hw _ (List.mem_of_getElem? (i := 55) rfl))) (by decide) (backOf (W := 1) (rm12u l Z a0 hw [] o0 cs h0 n0 Z0 S_COMPACT_STRINGS (hcs) F_coder_o0) hZ (hw _ (List.mem_of_getElem? (i := 57) rfl)) (hw _ (List.mem_of_getElem? (i := 3) rfl)) (by decide) (by decide)) q3a q3c (g := (mkF m 6 #[.val (.ref o0)] [(.ref o0), (.int (8 : Int32))])) rfl (by rw [hml]; rfl) (Steps.refl _) (argsL := []) (rest := [(.int (8 : Int32))]) (lenOf pd_11u_0 rfl) rfl (by show 2 * 0 + _ ≤ _; exact Nat.le_of_eq rfl) (hb hby d11_6) (fun _ _ => ⟨rfl, e1, (by decide : 0 + 0 ≤ _), (by decide : 0 + 0 ≤ _)⟩)
  dsimp only [Pt.U, Pt.locs, Pt.cells, Pt.slots] at X3 l3 y3 z3 st3 hQ3
  subst l3 y3 z3
  obtain ⟨rfl, N3q, e3q⟩ := hQ3
  have N3 := Fr.app N0 N3q
  obtain ⟨fs, hr, hrun, hended, hW, hsame⟩ := X3.leave (v := some (.int (4 : Int32))) (fun h => by rw [Bd.returns] at h; cases h)
  have hv4 : (4 : Int32) = (4 : Int32) := rfl
  refine ⟨_, _, pre0 _ ?_, hrun, hended, _, _, rfl, ?_, ⟨_, rfl⟩, hW, hsame.mono (by decide) (by decide)⟩
  · show Steps p.tables e below (s₁.setTop (mkF m 0 #[.val (.ref o0)] [])) _
    refine XS.aloadN X0.here hx rfl (hb hby d11_0) rfl rfl ?_
    show Steps p.tables e below (s₁.setTop (mkF m 1 #[.val (.ref o0)] [(.ref o0)])) _
    refine st1 _ ?_
    show Steps p.tables e below (T1.setTop (mkF m 4 #[.val (.ref o0)] [(.ref va)])) _
    refine X1.arraylength hx (by rw [e1]; exact Ar2.1) (State.isArrayOf_alike hZ.alike Ar2.2.1) (g := (mkF m 4 #[.val (.ref o0)] [(.ref va)])) rfl rfl (hb hby d11_4) _ ?_
    rw [len_of Sz2 Nn2]
    show Steps p.tables e below (T1.setTop (mkF m 5 #[.val (.ref o0)] [(.int (8 : Int32))])) _
    refine XS.aloadN X1.here hx rfl (hb hby d11_5) rfl rfl ?_
    show Steps p.tables e below (T1.setTop (mkF m 6 #[.val (.ref o0)] [(.ref o0), (.int (8 : Int32))])) _
    refine st3.trans ?_
    show Steps p.tables e below (T3.setTop (mkF m 9 #[.val (.ref o0)] [(.int (1 : Int32)), (.int (8 : Int32))])) _
    refine XS.ishr X3.here hx rfl (hb hby d11_9) rfl ?_
    show Steps p.tables e below (T3.setTop (mkF m 10 #[.val (.ref o0)] [(.int (4 : Int32))])) _
    exact retI X3 hx Bd.returns (hb hby d11_10) hr
  · show Q11u Z o0 cs va F h0 n0 _ T3.heap _
    rw [e3q]
    exact ⟨congrArg (fun q => some (Value.int q)) hv4.symm, N3, rfl⟩
theorem d10_0 : decode jdk_42_method_154_code 0 = .ok (.getstatic 38, 3) := by decide +kernel
theorem d10_3 : decode jdk_42_method_154_code 3 = .ok (.ifCond .eq 14, 3) := by decide +kernel
theorem d10_6 : decode jdk_42_method_154_code 6 = .ok (.aload_n 0, 1) := by decide +kernel
theorem d10_7 : decode jdk_42_method_154_code 7 = .ok (.getfield 15, 3) := by decide +kernel
theorem d10_10 : decode jdk_42_method_154_code 10 = .ok (.ifCond .ne 7, 3) := by decide +kernel
theorem d10_13 : decode jdk_42_method_154_code 13 = .ok (.iconst 1, 1) := by decide +kernel
theorem d10_14 : decode jdk_42_method_154_code 14 = .ok (.goto 4, 3) := by decide +kernel
theorem d10_18 : decode jdk_42_method_154_code 18 = .ok (.ireturn, 1) := by decide +kernel
theorem pn_10l : plainName "java/lang/String" = true := by first | (simp [plainName, overriddenIn]; done) | decide +kernel
theorem ef_10l (m : MethodId) (x0 : Addr) : entryFrame m #[(.ref x0)] 1 = mkF m 0 #[.val (.ref x0)] [] := by first | (simp [entryFrame, mkF, argsToLocals, Value.category]; done) | rfl
def Q10l (Z : State) (o0 : Addr) (cs : Int32) (h0 : Heap) (n0 : Nat) (v : Option Value) (h : Heap) (L : List Loc) : Prop := v = some (.int (1 : Int32)) ∧ Fr n0 L ∧ h = h0
set_option maxRecDepth 65536 in
set_option maxHeartbeats 40000000 in
theorem rm10l (l : Launch) (Z : State) (a0 : Array Value) (hw : ∀ d ∈ tables_1, d.before a0 Z = true) (ws : List Jvm.Cond) (o0 : Addr) (cs : Int32) (h0 : Heap) (n0 : Nat) (Z0 : n0 ≤ h0.size) (S_COMPACT_STRINGS : Sta Z h0 "java/lang/String" "COMPACT_STRINGS" "Z" (.int cs)) (hcs : ¬ cs = (0 : Int32)) (F_coder_o0 : Fld Z h0 o0 "java/lang/String" "coder" "B" (.int (0 : Int32))) :
    MetFree l (⟨"java/lang/String", "isLatin1", "()Z"⟩ : MethodName) (head1 (Jvm.Cond.code (⟨"java/lang/String", "isLatin1", "()Z"⟩ : MethodName) jdk_42_method_154_code 1 (some .boolean) :: ws) ({ frames := 0, cells := 0, slots := 0, locals := 0 } : Room)) (fun a U => a = #[(.ref o0)] ∧ Z.Warmed39 U.vm ∧ U.heap = h0) (fun _ _ _ _ _ => True) (fun _ U o U' => ∃ v L, o = .returned v ∧ Q10l Z o0 cs h0 n0 v U'.heap L ∧ FrameEnd U o U' L ({ frames := 0, cells := 0, slots := 0, locals := 0 } : Room).cells ({ frames := 0, cells := 0, slots := 0, locals := 0 } : Room).slots) := by
  refine MetFree.of_bodySF (plainFor_of_name pn_10l) hisR ?_
  intro p e s m args below meth c s₁ Bd hml0 hP hK
  obtain ⟨rfl, hZ, hh⟩ := hP
  have hx := Bd.exec
  have hby := Bd.bytes
  have hml : c.maxLocals = 1 := hml0
  have hown : s.vm.findClass "java/lang/String" = some m.cls := findClass_of_methodNamed Bd.named
  have hnm := (name_of_methodNamed Bd.named Bd.method).1
  have X0 : Stand p l e ({ frames := 0, cells := 0, slots := 0, locals := 0 } : Room) s m #[(.ref o0)] below meth c s₁ [] 0 0 := Stand.of_body Bd
  have e0 : s₁.heap = h0 := by rw [← hh, Bd.state]; rfl
  have N0 := Fr.nil n0
  have pre0 : ∀ t, Steps p.tables e below (s₁.setTop (mkF m 0 #[.val (.ref o0)] [])) t → Steps p.tables e below (s₁.setTop (entryFrame m #[(.ref o0)] 1)) t := fun t k => castTop (ef_10l m o0) k
  obtain ⟨T1, X1, e1, st1⟩ := getS2 X0 hx hZ hown (host := "") (Or.inl (hw _ (List.mem_of_getElem? (i := 14) rfl))) Via.refl e0 S_COMPACT_STRINGS (g := (mkF m 0 #[.val (.ref o0)] [])) rfl (hb hby d10_0)
  have pre2 : ∀ t, Steps p.tables e below (T1.setTop (mkF m 3 #[.val (.ref o0)] [(.int cs)])) t → Steps p.tables e below (s₁.setTop (entryFrame m #[(.ref o0)] 1)) t := fun t kt => pre0 t (by
      show Steps p.tables e below (s₁.setTop (mkF m 0 #[.val (.ref o0)] [])) _
      refine st1 _ ?_
      exact kt)
  have hd3_3 : ¬ (cs = (0 : Int32)) := hcs
  obtain ⟨T4, X4, e4, st4⟩ := getF X1 hx hZ hown (host := "") (Or.inl (hw _ (List.mem_of_getElem? (i := 26) rfl))) Via.refl e1 F_coder_o0 (g := (mkF m 7 #[.val (.ref o0)] [(.ref o0)])) rfl rfl (hb hby d10_7)
  have pre5 : ∀ t, Steps p.tables e below (T4.setTop (mkF m 10 #[.val (.ref o0)] [(.int (0 : Int32))])) t → Steps p.tables e below (s₁.setTop (entryFrame m #[(.ref o0)] 1)) t := fun t kt => pre2 t (by
      show Steps p.tables e below (T1.setTop (mkF m 3 #[.val (.ref o0)] [(.int cs)])) _
      refine XS.ifNo X1.here hx rfl (hb hby d10_3) rfl ((if0 _ _).trans (feq hd3_3).1) ?_
      show Steps p.tables e below (T1.setTop (mkF m 6 #[.val (.ref o0)] [])) _
      refine XS.aloadN X1.here hx rfl (hb hby d10_6) rfl rfl ?_
      show Steps p.tables e below (T1.setTop (mkF m 7 #[.val (.ref o0)] [(.ref o0)])) _
      refine st4 _ ?_
      exact kt)
  obtain ⟨fs, hr, hrun, hended, hW, hsame⟩ := X4.leave (v := some (.int (1 : Int32))) (fun h => by rw [Bd.returns] at h; cases h)
  have hv6 : (1 : Int32) = (1 : Int32) := rfl
  refine ⟨_, _, pre5 _ ?_, hrun, hended, _, _, rfl, ?_, ⟨_, rfl⟩, hW, hsame.mono (by decide) (by decide)⟩
  · show Steps p.tables e below (T4.setTop (mkF m 10 #[.val (.ref o0)] [(.int (0 : Int32))])) _
    refine XS.ifNo X4.here hx rfl (hb hby d10_10) rfl ((if0 _ _).trans (teq (by decide : ((0 : Int32) = (0 : Int32)))).2) ?_
    show Steps p.tables e below (T4.setTop (mkF m 13 #[.val (.ref o0)] [])) _
    refine XS.iconst X4.here hx rfl (hb hby d10_13) ?_
    show Steps p.tables e below (T4.setTop (mkF m 14 #[.val (.ref o0)] [(.int (1 : Int32))])) _
    refine XS.goto X4.here hx rfl (pc0 := 14) (pc' := 18) rfl (hb hby d10_14) (by decide) (by decide) ?_
    show Steps p.tables e below (T4.setTop (mkF m 18 #[.val (.ref o0)] [(.int (1 : Int32))])) _
    exact retN X4 hx (t := .boolean) Bd.returns (by simp) (hb hby d10_18) hr
  · show Q10l Z o0 cs h0 n0 _ T4.heap _
    rw [e4]
    exact ⟨congrArg (fun q => some (Value.int q)) hv6.symm, N0, rfl⟩
theorem d10_17 : decode jdk_42_method_154_code 17 = .ok (.iconst 0, 1) := by decide +kernel
theorem pn_10u : plainName "java/lang/String" = true := by first | (simp [plainName, overriddenIn]; done) | decide +kernel
theorem ef_10u (m : MethodId) (x0 : Addr) : entryFrame m #[(.ref x0)] 1 = mkF m 0 #[.val (.ref x0)] [] := by first | (simp [entryFrame, mkF, argsToLocals, Value.category]; done) | rfl
def Q10u (Z : State) (o0 : Addr) (cs : Int32) (h0 : Heap) (n0 : Nat) (v : Option Value) (h : Heap) (L : List Loc) : Prop := v = some (.int (0 : Int32)) ∧ Fr n0 L ∧ h = h0
set_option maxRecDepth 65536 in
set_option maxHeartbeats 40000000 in
theorem rm10u (l : Launch) (Z : State) (a0 : Array Value) (hw : ∀ d ∈ tables_1, d.before a0 Z = true) (ws : List Jvm.Cond) (o0 : Addr) (cs : Int32) (h0 : Heap) (n0 : Nat) (Z0 : n0 ≤ h0.size) (S_COMPACT_STRINGS : Sta Z h0 "java/lang/String" "COMPACT_STRINGS" "Z" (.int cs)) (hcs : ¬ cs = (0 : Int32)) (F_coder_o0 : Fld Z h0 o0 "java/lang/String" "coder" "B" (.int (1 : Int32))) :
    MetFree l (⟨"java/lang/String", "isLatin1", "()Z"⟩ : MethodName) (head1 (Jvm.Cond.code (⟨"java/lang/String", "isLatin1", "()Z"⟩ : MethodName) jdk_42_method_154_code 1 (some .boolean) :: ws) ({ frames := 0, cells := 0, slots := 0, locals := 0 } : Room)) (fun a U => a = #[(.ref o0)] ∧ Z.Warmed39 U.vm ∧ U.heap = h0) (fun _ _ _ _ _ => True) (fun _ U o U' => ∃ v L, o = .returned v ∧ Q10u Z o0 cs h0 n0 v U'.heap L ∧ FrameEnd U o U' L ({ frames := 0, cells := 0, slots := 0, locals := 0 } : Room).cells ({ frames := 0, cells := 0, slots := 0, locals := 0 } : Room).slots) := by
  refine MetFree.of_bodySF (plainFor_of_name pn_10u) hisR ?_
  intro p e s m args below meth c s₁ Bd hml0 hP hK
  obtain ⟨rfl, hZ, hh⟩ := hP
  have hx := Bd.exec
  have hby := Bd.bytes
  have hml : c.maxLocals = 1 := hml0
  have hown : s.vm.findClass "java/lang/String" = some m.cls := findClass_of_methodNamed Bd.named
  have hnm := (name_of_methodNamed Bd.named Bd.method).1
  have X0 : Stand p l e ({ frames := 0, cells := 0, slots := 0, locals := 0 } : Room) s m #[(.ref o0)] below meth c s₁ [] 0 0 := Stand.of_body Bd
  have e0 : s₁.heap = h0 := by rw [← hh, Bd.state]; rfl
  have N0 := Fr.nil n0
  have pre0 : ∀ t, Steps p.tables e below (s₁.setTop (mkF m 0 #[.val (.ref o0)] [])) t → Steps p.tables e below (s₁.setTop (entryFrame m #[(.ref o0)] 1)) t := fun t k => castTop (ef_10u m o0) k
  obtain ⟨T1, X1, e1, st1⟩ := getS2 X0 hx hZ hown (host := "") (Or.inl (hw _ (List.mem_of_getElem? (i := 14) rfl))) Via.refl e0 S_COMPACT_STRINGS (g := (mkF m 0 #[.val (.ref o0)] [])) rfl (hb hby d10_0)
  have pre2 : ∀ t, Steps p.tables e below (T1.setTop (mkF m 3 #[.val (.ref o0)] [(.int cs)])) t → Steps p.tables e below (s₁.setTop (entryFrame m #[(.ref o0)] 1)) t := fun t kt => pre0 t (by
      show Steps p.tables e below (s₁.setTop (mkF m 0 #[.val (.ref o0)] [])) _
      refine st1 _ ?_
      exact kt)
  have hd3_3 : ¬ (cs = (0 : Int32)) := hcs
  obtain ⟨T4, X4, e4, st4⟩ := getF X1 hx hZ hown (host := "") (Or.inl (hw _ (List.mem_of_getElem? (i := 26) rfl))) Via.refl e1 F_coder_o0 (g := (mkF m 7 #[.val (.ref o0)] [(.ref o0)])) rfl rfl (hb hby d10_7)
  have pre5 : ∀ t, Steps p.tables e below (T4.setTop (mkF m 10 #[.val (.ref o0)] [(.int (1 : Int32))])) t → Steps p.tables e below (s₁.setTop (entryFrame m #[(.ref o0)] 1)) t := fun t kt => pre2 t (by
      show Steps p.tables e below (T1.setTop (mkF m 3 #[.val (.ref o0)] [(.int cs)])) _
      refine XS.ifNo X1.here hx rfl (hb hby d10_3) rfl ((if0 _ _).trans (feq hd3_3).1) ?_
      show Steps p.tables e below (T1.setTop (mkF m 6 #[.val (.ref o0)] [])) _
      refine XS.aloadN X1.here hx rfl (hb hby d10_6) rfl rfl ?_
      show Steps p.tables e below (T1.setTop (mkF m 7 #[.val (.ref o0)] [(.ref o0)])) _
      refine st4 _ ?_
      exact kt)
  obtain ⟨fs, hr, hrun, hended, hW, hsame⟩ := X4.leave (v := some (.int (0 : Int32))) (fun h => by rw [Bd.returns] at h; cases h)
  have hv6 : (0 : Int32) = (0 : Int32) := rfl
  refine ⟨_, _, pre5 _ ?_, hrun, hended, _, _, rfl, ?_, ⟨_, rfl⟩, hW, hsame.mono (by decide) (by decide)⟩
  · show Steps p.tables e below (T4.setTop (mkF m 10 #[.val (.ref o0)] [(.int (1 : Int32))])) _
    refine XS.ifYes X4.here hx rfl (pc0 := 10) (pc' := 17) rfl (hb hby d10_10) rfl ((if0 _ _).trans (feq (by decide : ¬ ((1 : Int32) = (0 : Int32)))).2) (by decide) (by decide) ?_
    show Steps p.tables e below (T4.setTop (mkF m 17 #[.val (.ref o0)] [])) _
    refine XS.iconst X4.here hx rfl (hb hby d10_17) ?_
    show Steps p.tables e below (T4.setTop (mkF m 18 #[.val (.ref o0)] [(.int (0 : Int32))])) _
    exact retN X4 hx (t := .boolean) Bd.returns (by simp) (hb hby d10_18) hr
  · show Q10u Z o0 cs h0 n0 _ T4.heap _
    rw [e4]
    exact ⟨congrArg (fun q => some (Value.int q)) hv6.symm, N0, rfl⟩
theorem d15_0 : decode jdk_29_method_65_code 0 = .ok (.iload_n 0, 1) := by decide +kernel
theorem d15_1 : decode jdk_29_method_65_code 1 = .ok (.iload_n 1, 1) := by decide +kernel
theorem d15_2 : decode jdk_29_method_65_code 2 = .ok (.if_icmp .lt 7, 3) := by decide +kernel
theorem d15_5 : decode jdk_29_method_65_code 5 = .ok (.iload_n 0, 1) := by decide +kernel
theorem d15_6 : decode jdk_29_method_65_code 6 = .ok (.goto 4, 3) := by decide +kernel
theorem d15_10 : decode jdk_29_method_65_code 10 = .ok (.ireturn, 1) := by decide +kernel
theorem ef_15 (m : MethodId) (x0 : Int32) (x1 : Int32) : entryFrame m #[(.int x0), (.int x1)] 2 = mkF m 0 #[.val (.int x0), .val (.int x1)] [] := by first | (simp [entryFrame, mkF, argsToLocals, Value.category]; done) | rfl
def Q15 (Z : State) (p0 : Int32) (h0 : Heap) (n0 : Nat) (v : Option Value) (h : Heap) (L : List Loc) : Prop := v = some (.int p0) ∧ Fr n0 L ∧ h = h0
set_option maxRecDepth 65536 in
set_option maxHeartbeats 40000000 in
theorem rm15 (l : Launch) (Z : State) (a0 : Array Value) (hw : ∀ d ∈ tables_1, d.before a0 Z = true) (ws : List Jvm.Cond) (p0 : Int32) (h0 : Heap) (n0 : Nat) (Z0 : n0 ≤ h0.size) (h : ¬ p0 < 0) :
    MetFree l (⟨"java/lang/Math", "max", "(II)I"⟩ : MethodName) (head1 (Jvm.Cond.code (⟨"java/lang/Math", "max", "(II)I"⟩ : MethodName) jdk_29_method_65_code 2 (some .int) :: ws) ({ frames := 0, cells := 0, slots := 0, locals := 0 } : Room)) (fun a U => a = #[(.int p0), (.int (0 : Int32))] ∧ Z.Warmed39 U.vm ∧ U.heap = h0) (fun _ _ _ _ _ => True) (fun _ U o U' => ∃ v L, o = .returned v ∧ Q15 Z p0 h0 n0 v U'.heap L ∧ FrameEnd U o U' L ({ frames := 0, cells := 0, slots := 0, locals := 0 } : Room).cells ({ frames := 0, cells := 0, slots := 0, locals := 0 } : Room).slots) := by
  refine MetFree.of_bodySF (Jvm.Free.JP.mathPlain rfl (by decide +kernel)) hisR ?_
  intro p e s m args below meth c s₁ Bd hml0 hP hK
  obtain ⟨rfl, hZ, hh⟩ := hP
  have hx := Bd.exec
  have hby := Bd.bytes
  have hml : c.maxLocals = 2 := hml0
  have hown : s.vm.findClass "java/lang/Math" = some m.cls := findClass_of_methodNamed Bd.named
  have hnm := (name_of_methodNamed Bd.named Bd.method).1
  have X0 : Stand p l e ({ frames := 0, cells := 0, slots := 0, locals := 0 } : Room) s m #[(.int p0), (.int (0 : Int32))] below meth c s₁ [] 0 0 := Stand.of_body Bd
  have e0 : s₁.heap = h0 := by rw [← hh, Bd.state]; rfl
  have N0 := Fr.nil n0
  have pre0 : ∀ t, Steps p.tables e below (s₁.setTop (mkF m 0 #[.val (.int p0), .val (.int (0 : Int32))] [])) t → Steps p.tables e below (s₁.setTop (entryFrame m #[(.int p0), (.int (0 : Int32))] 2)) t := fun t k => castTop (ef_15 m p0 (0 : Int32)) k
  have pre1 : ∀ t, Steps p.tables e below (s₁.setTop (mkF m 2 #[.val (.int p0), .val (.int (0 : Int32))] [(.int (0 : Int32)), (.int p0)])) t → Steps p.tables e below (s₁.setTop (entryFrame m #[(.int p0), (.int (0 : Int32))] 2)) t := fun t kt => pre0 t (by
      show Steps p.tables e below (s₁.setTop (mkF m 0 #[.val (.int p0), .val (.int (0 : Int32))] [])) _
      refine XS.iloadN X0.here hx rfl (hb hby d15_0) rfl ?_
      show Steps p.tables e below (s₁.setTop (mkF m 1 #[.val (.int p0), .val (.int (0 : Int32))] [(.int p0)])) _
      refine XS.iloadN X0.here hx rfl (hb hby d15_1) rfl ?_
      exact kt)
  have hd2_2 : ¬ (p0 < (0 : Int32)) := h
  obtain ⟨fs, hr, hrun, hended, hW, hsame⟩ := X0.leave (v := some (.int p0)) (fun h => by rw [Bd.returns] at h; cases h)
  have hv3 : p0 = p0 := rfl
  refine ⟨_, _, pre1 _ ?_, hrun, hended, _, _, rfl, ?_, ⟨_, rfl⟩, hW, hsame.mono (by decide) (by decide)⟩
  · show Steps p.tables e below (s₁.setTop (mkF m 2 #[.val (.int p0), .val (.int (0 : Int32))] [(.int (0 : Int32)), (.int p0)])) _
    refine XS.icmpNo X0.here hx rfl (hb hby d15_2) rfl (flt hd2_2).1 ?_
    show Steps p.tables e below (s₁.setTop (mkF m 5 #[.val (.int p0), .val (.int (0 : Int32))] [])) _
    refine XS.iloadN X0.here hx rfl (hb hby d15_5) rfl ?_
    show Steps p.tables e below (s₁.setTop (mkF m 6 #[.val (.int p0), .val (.int (0 : Int32))] [(.int p0)])) _
    refine XS.goto X0.here hx rfl (pc0 := 6) (pc' := 10) rfl (hb hby d15_6) (by decide) (by decide) ?_
    show Steps p.tables e below (s₁.setTop (mkF m 10 #[.val (.int p0), .val (.int (0 : Int32))] [(.int p0)])) _
    exact retI X0 hx Bd.returns (hb hby d15_10) hr
  · show Q15 Z p0 h0 n0 _ s₁.heap _
    rw [e0]
    exact ⟨congrArg (fun q => some (Value.int q)) hv3.symm, N0, rfl⟩
theorem d16_0 : decode jdk_29_method_69_code 0 = .ok (.iload_n 0, 1) := by decide +kernel
theorem d16_1 : decode jdk_29_method_69_code 1 = .ok (.iload_n 1, 1) := by decide +kernel
theorem d16_2 : decode jdk_29_method_69_code 2 = .ok (.if_icmp .gt 7, 3) := by decide +kernel
theorem d16_5 : decode jdk_29_method_69_code 5 = .ok (.iload_n 0, 1) := by decide +kernel
theorem d16_6 : decode jdk_29_method_69_code 6 = .ok (.goto 4, 3) := by decide +kernel
theorem d16_10 : decode jdk_29_method_69_code 10 = .ok (.ireturn, 1) := by decide +kernel
theorem ef_16 (m : MethodId) (x0 : Int32) (x1 : Int32) : entryFrame m #[(.int x0), (.int x1)] 2 = mkF m 0 #[.val (.int x0), .val (.int x1)] [] := by first | (simp [entryFrame, mkF, argsToLocals, Value.category]; done) | rfl
def Q16 (Z : State)  (h0 : Heap) (n0 : Nat) (v : Option Value) (h : Heap) (L : List Loc) : Prop := v = some (.int (4 : Int32)) ∧ Fr n0 L ∧ h = h0
set_option maxRecDepth 65536 in
set_option maxHeartbeats 40000000 in
theorem rm16 (l : Launch) (Z : State) (a0 : Array Value) (hw : ∀ d ∈ tables_1, d.before a0 Z = true) (ws : List Jvm.Cond)  (h0 : Heap) (n0 : Nat) (Z0 : n0 ≤ h0.size) :
    MetFree l (⟨"java/lang/Math", "min", "(II)I"⟩ : MethodName) (head1 (Jvm.Cond.code (⟨"java/lang/Math", "min", "(II)I"⟩ : MethodName) jdk_29_method_69_code 2 (some .int) :: ws) ({ frames := 0, cells := 0, slots := 0, locals := 0 } : Room)) (fun a U => a = #[(.int (4 : Int32)), (.int (4 : Int32))] ∧ Z.Warmed39 U.vm ∧ U.heap = h0) (fun _ _ _ _ _ => True) (fun _ U o U' => ∃ v L, o = .returned v ∧ Q16 Z  h0 n0 v U'.heap L ∧ FrameEnd U o U' L ({ frames := 0, cells := 0, slots := 0, locals := 0 } : Room).cells ({ frames := 0, cells := 0, slots := 0, locals := 0 } : Room).slots) := by
  refine MetFree.of_bodySF (Jvm.Free.JP.mathPlain rfl (by decide +kernel)) hisR ?_
  intro p e s m args below meth c s₁ Bd hml0 hP hK
  obtain ⟨rfl, hZ, hh⟩ := hP
  have hx := Bd.exec
  have hby := Bd.bytes
  have hml : c.maxLocals = 2 := hml0
  have hown : s.vm.findClass "java/lang/Math" = some m.cls := findClass_of_methodNamed Bd.named
  have hnm := (name_of_methodNamed Bd.named Bd.method).1
  have X0 : Stand p l e ({ frames := 0, cells := 0, slots := 0, locals := 0 } : Room) s m #[(.int (4 : Int32)), (.int (4 : Int32))] below meth c s₁ [] 0 0 := Stand.of_body Bd
  have e0 : s₁.heap = h0 := by rw [← hh, Bd.state]; rfl
  have N0 := Fr.nil n0
  have pre0 : ∀ t, Steps p.tables e below (s₁.setTop (mkF m 0 #[.val (.int (4 : Int32)), .val (.int (4 : Int32))] [])) t → Steps p.tables e below (s₁.setTop (entryFrame m #[(.int (4 : Int32)), (.int (4 : Int32))] 2)) t := fun t k => castTop (ef_16 m (4 : Int32) (4 : Int32)) k
  have pre1 : ∀ t, Steps p.tables e below (s₁.setTop (mkF m 2 #[.val (.int (4 : Int32)), .val (.int (4 : Int32))] [(.int (4 : Int32)), (.int (4 : Int32))])) t → Steps p.tables e below (s₁.setTop (entryFrame m #[(.int (4 : Int32)), (.int (4 : Int32))] 2)) t := fun t kt => pre0 t (by
      show Steps p.tables e below (s₁.setTop (mkF m 0 #[.val (.int (4 : Int32)), .val (.int (4 : Int32))] [])) _
      refine XS.iloadN X0.here hx rfl (hb hby d16_0) rfl ?_
      show Steps p.tables e below (s₁.setTop (mkF m 1 #[.val (.int (4 : Int32)), .val (.int (4 : Int32))] [(.int (4 : Int32))])) _
      refine XS.iloadN X0.here hx rfl (hb hby d16_1) rfl ?_
      exact kt)
  obtain ⟨fs, hr, hrun, hended, hW, hsame⟩ := X0.leave (v := some (.int (4 : Int32))) (fun h => by rw [Bd.returns] at h; cases h)
  have hv2 : (4 : Int32) = (4 : Int32) := rfl
  refine ⟨_, _, pre1 _ ?_, hrun, hended, _, _, rfl, ?_, ⟨_, rfl⟩, hW, hsame.mono (by decide) (by decide)⟩
  · show Steps p.tables e below (s₁.setTop (mkF m 2 #[.val (.int (4 : Int32)), .val (.int (4 : Int32))] [(.int (4 : Int32)), (.int (4 : Int32))])) _
    refine XS.icmpNo X0.here hx rfl (hb hby d16_2) rfl (flt (by decide : ¬ ((4 : Int32) < (4 : Int32)))).2.2.1 ?_
    show Steps p.tables e below (s₁.setTop (mkF m 5 #[.val (.int (4 : Int32)), .val (.int (4 : Int32))] [])) _
    refine XS.iloadN X0.here hx rfl (hb hby d16_5) rfl ?_
    show Steps p.tables e below (s₁.setTop (mkF m 6 #[.val (.int (4 : Int32)), .val (.int (4 : Int32))] [(.int (4 : Int32))])) _
    refine XS.goto X0.here hx rfl (pc0 := 6) (pc' := 10) rfl (hb hby d16_6) (by decide) (by decide) ?_
    show Steps p.tables e below (s₁.setTop (mkF m 10 #[.val (.int (4 : Int32)), .val (.int (4 : Int32))] [(.int (4 : Int32))])) _
    exact retI X0 hx Bd.returns (hb hby d16_10) hr
  · show Q16 Z  h0 n0 _ s₁.heap _
    rw [e0]
    exact ⟨congrArg (fun q => some (Value.int q)) hv2.symm, N0, rfl⟩
theorem d14_0 : decode jdk_43_method_4_code 0 = .ok (.iload_n 0, 1) := by decide +kernel
theorem d14_1 : decode jdk_43_method_4_code 1 = .ok (.ifCond .lt 14, 3) := by decide +kernel
theorem d14_4 : decode jdk_43_method_4_code 4 = .ok (.iload_n 0, 1) := by decide +kernel
theorem d14_5 : decode jdk_43_method_4_code 5 = .ok (.sipush 255, 3) := by decide +kernel
theorem d14_8 : decode jdk_43_method_4_code 8 = .ok (.if_icmp .gt 7, 3) := by decide +kernel
theorem d14_11 : decode jdk_43_method_4_code 11 = .ok (.iconst 1, 1) := by decide +kernel
theorem d14_12 : decode jdk_43_method_4_code 12 = .ok (.goto 4, 3) := by decide +kernel
theorem d14_15 : decode jdk_43_method_4_code 15 = .ok (.iconst 0, 1) := by decide +kernel
theorem d14_16 : decode jdk_43_method_4_code 16 = .ok (.ireturn, 1) := by decide +kernel
theorem pn_14 : plainName "java/lang/StringLatin1" = true := by first | (simp [plainName, overriddenIn]; done) | decide +kernel
theorem ef_14 (m : MethodId) (x0 : Int32) : entryFrame m #[(.int x0)] 1 = mkF m 0 #[.val (.int x0)] [] := by first | (simp [entryFrame, mkF, argsToLocals, Value.category]; done) | rfl
def f14 (p0 : Int32) : Int32 :=
  if (255 : Int32) < p0 then ((0 : Int32)) else
  ((1 : Int32))
def Q14 (Z : State) (p0 : Int32) (h0 : Heap) (n0 : Nat) (v : Option Value) (h : Heap) (L : List Loc) : Prop := v = some (.int (f14 p0)) ∧ Fr n0 L ∧ h = h0
set_option maxRecDepth 65536 in
set_option maxHeartbeats 40000000 in
theorem rm14 (l : Launch) (Z : State) (a0 : Array Value) (hw : ∀ d ∈ tables_1, d.before a0 Z = true) (ws : List Jvm.Cond) (p0 : Int32) (h0 : Heap) (n0 : Nat) (Z0 : n0 ≤ h0.size) (h : ¬ p0 < 0) :
    MetFree l (⟨"java/lang/StringLatin1", "canEncode", "(I)Z"⟩ : MethodName) (head1 (Jvm.Cond.code (⟨"java/lang/StringLatin1", "canEncode", "(I)Z"⟩ : MethodName) jdk_43_method_4_code 1 (some .boolean) :: ws) ({ frames := 0, cells := 0, slots := 0, locals := 0 } : Room)) (fun a U => a = #[(.int p0)] ∧ Z.Warmed39 U.vm ∧ U.heap = h0) (fun _ _ _ _ _ => True) (fun _ U o U' => ∃ v L, o = .returned v ∧ Q14 Z p0 h0 n0 v U'.heap L ∧ FrameEnd U o U' L ({ frames := 0, cells := 0, slots := 0, locals := 0 } : Room).cells ({ frames := 0, cells := 0, slots := 0, locals := 0 } : Room).slots) := by
  refine MetFree.of_bodySF (plainFor_of_name pn_14) hisR ?_
  intro p e s m args below meth c s₁ Bd hml0 hP hK
  obtain ⟨rfl, hZ, hh⟩ := hP
  have hx := Bd.exec
  have hby := Bd.bytes
  have hml : c.maxLocals = 1 := hml0
  have hown : s.vm.findClass "java/lang/StringLatin1" = some m.cls := findClass_of_methodNamed Bd.named
  have hnm := (name_of_methodNamed Bd.named Bd.method).1
  have X0 : Stand p l e ({ frames := 0, cells := 0, slots := 0, locals := 0 } : Room) s m #[(.int p0)] below meth c s₁ [] 0 0 := Stand.of_body Bd
  have e0 : s₁.heap = h0 := by rw [← hh, Bd.state]; rfl
  have N0 := Fr.nil n0
  have pre0 : ∀ t, Steps p.tables e below (s₁.setTop (mkF m 0 #[.val (.int p0)] [])) t → Steps p.tables e below (s₁.setTop (entryFrame m #[(.int p0)] 1)) t := fun t k => castTop (ef_14 m p0) k
  have pre1 : ∀ t, Steps p.tables e below (s₁.setTop (mkF m 1 #[.val (.int p0)] [(.int p0)])) t → Steps p.tables e below (s₁.setTop (entryFrame m #[(.int p0)] 1)) t := fun t kt => pre0 t (by
      show Steps p.tables e below (s₁.setTop (mkF m 0 #[.val (.int p0)] [])) _
      refine XS.iloadN X0.here hx rfl (hb hby d14_0) rfl ?_
      exact kt)
  have hd1_2 : ¬ (p0 < (0 : Int32)) := h
  have pre3 : ∀ t, Steps p.tables e below (s₁.setTop (mkF m 8 #[.val (.int p0)] [(.int (255 : Int32)), (.int p0)])) t → Steps p.tables e below (s₁.setTop (entryFrame m #[(.int p0)] 1)) t := fun t kt => pre1 t (by
      show Steps p.tables e below (s₁.setTop (mkF m 1 #[.val (.int p0)] [(.int p0)])) _
      refine XS.ifNo X0.here hx rfl (hb hby d14_1) rfl ((if0 _ _).trans (flt hd1_2).1) ?_
      show Steps p.tables e below (s₁.setTop (mkF m 4 #[.val (.int p0)] [])) _
      refine XS.iloadN X0.here hx rfl (hb hby d14_4) rfl ?_
      show Steps p.tables e below (s₁.setTop (mkF m 5 #[.val (.int p0)] [(.int p0)])) _
      refine XS.sipush X0.here hx rfl (hb hby d14_5) ?_
      exact kt)
  by_cases hc8_4 : (255 : Int32) < p0
  · obtain ⟨fs, hr, hrun, hended, hW, hsame⟩ := X0.leave (v := some (.int (0 : Int32))) (fun h => by rw [Bd.returns] at h; cases h)
    have hv5 : (f14 p0) = (0 : Int32) := by rw [f14, if_pos hc8_4]
    refine ⟨_, _, pre3 _ ?_, hrun, hended, _, _, rfl, ?_, ⟨_, rfl⟩, hW, hsame.mono (by decide) (by decide)⟩
    · show Steps p.tables e below (s₁.setTop (mkF m 8 #[.val (.int p0)] [(.int (255 : Int32)), (.int p0)])) _
      refine XS.icmpYes X0.here hx rfl (pc0 := 8) (pc' := 15) rfl (hb hby d14_8) rfl (tlt hc8_4).2.2.1 (by decide) (by decide) ?_
      show Steps p.tables e below (s₁.setTop (mkF m 15 #[.val (.int p0)] [])) _
      refine XS.iconst X0.here hx rfl (hb hby d14_15) ?_
      show Steps p.tables e below (s₁.setTop (mkF m 16 #[.val (.int p0)] [(.int (0 : Int32))])) _
      exact retN X0 hx (t := .boolean) Bd.returns (by simp) (hb hby d14_16) hr
    · show Q14 Z p0 h0 n0 _ s₁.heap _
      rw [e0]
      exact ⟨congrArg (fun q => some (Value.int q)) hv5.symm, N0, rfl⟩
  · obtain ⟨fs, hr, hrun, hended, hW, hsame⟩ := X0.leave (v := some (.int (1 : Int32))) (fun h => by rw [Bd.returns] at h; cases h)
    have hv6 : (f14 p0) = (1 : Int32) := by rw [f14, if_neg hc8_4]
    refine ⟨_, _, pre3 _ ?_, hrun, hended, _, _, rfl, ?_, ⟨_, rfl⟩, hW, hsame.mono (by decide) (by decide)⟩
    · show Steps p.tables e below (s₁.setTop (mkF m 8 #[.val (.int p0)] [(.int (255 : Int32)), (.int p0)])) _
      refine XS.icmpNo X0.here hx rfl (hb hby d14_8) rfl (flt hc8_4).2.2.1 ?_
      show Steps p.tables e below (s₁.setTop (mkF m 11 #[.val (.int p0)] [])) _
      refine XS.iconst X0.here hx rfl (hb hby d14_11) ?_
      show Steps p.tables e below (s₁.setTop (mkF m 12 #[.val (.int p0)] [(.int (1 : Int32))])) _
      refine XS.goto X0.here hx rfl (pc0 := 12) (pc' := 16) rfl (hb hby d14_12) (by decide) (by decide) ?_
      show Steps p.tables e below (s₁.setTop (mkF m 16 #[.val (.int p0)] [(.int (1 : Int32))])) _
      exact retN X0 hx (t := .boolean) Bd.returns (by simp) (hb hby d14_16) hr
    · show Q14 Z p0 h0 n0 _ s₁.heap _
      rw [e0]
      exact ⟨congrArg (fun q => some (Value.int q)) hv6.symm, N0, rfl⟩
theorem d17_0 : decode jdk_43_method_23_code 0 = .ok (.iload_n 1, 1) := by decide +kernel
theorem d17_1 : decode jdk_43_method_23_code 1 = .ok (.i2b, 1) := by decide +kernel
theorem d17_2 : decode jdk_43_method_23_code 2 = .ok (.istore 4, 2) := by decide +kernel
theorem d17_4 : decode jdk_43_method_23_code 4 = .ok (.iload_n 2, 1) := by decide +kernel
theorem d17_5 : decode jdk_43_method_23_code 5 = .ok (.istore 5, 2) := by decide +kernel
theorem d17_7 : decode jdk_43_method_23_code 7 = .ok (.iload 5, 2) := by decide +kernel
theorem d17_9 : decode jdk_43_method_23_code 9 = .ok (.iload_n 3, 1) := by decide +kernel
theorem d17_10 : decode jdk_43_method_23_code 10 = .ok (.if_icmp .ge 21, 3) := by decide +kernel
theorem d17_13 : decode jdk_43_method_23_code 13 = .ok (.aload_n 0, 1) := by decide +kernel
theorem d17_14 : decode jdk_43_method_23_code 14 = .ok (.iload 5, 2) := by decide +kernel
theorem d17_16 : decode jdk_43_method_23_code 16 = .ok (.baload, 1) := by decide +kernel
theorem d17_17 : decode jdk_43_method_23_code 17 = .ok (.iload 4, 2) := by decide +kernel
theorem d17_19 : decode jdk_43_method_23_code 19 = .ok (.if_icmp .ne 6, 3) := by decide +kernel
theorem d17_22 : decode jdk_43_method_23_code 22 = .ok (.iload 5, 2) := by decide +kernel
theorem d17_24 : decode jdk_43_method_23_code 24 = .ok (.ireturn, 1) := by decide +kernel
theorem d17_25 : decode jdk_43_method_23_code 25 = .ok (.iinc 5 1, 3) := by decide +kernel
theorem d17_28 : decode jdk_43_method_23_code 28 = .ok (.goto (-21), 3) := by decide +kernel
theorem d17_31 : decode jdk_43_method_23_code 31 = .ok (.iconst (-1), 1) := by decide +kernel
theorem d17_32 : decode jdk_43_method_23_code 32 = .ok (.ireturn, 1) := by decide +kernel
theorem pn_17 : plainName "java/lang/StringLatin1" = true := by first | (simp [plainName, overriddenIn]; done) | decide +kernel
theorem ef_17 (m : MethodId) (x0 : Addr) (x1 : Int32) (x2 : Int32) (x3 : Int32) : entryFrame m #[(.ref x0), (.int x1), (.int x2), (.int x3)] 6 = mkF m 0 #[.val (.ref x0), .val (.int x1), .val (.int x2), .val (.int x3), .unset, .unset] [] := by first | (simp [entryFrame, mkF, argsToLocals, Value.category]; done) | rfl
def f17 (p1 : Int32) (p2 : Int32) (F : Nat → Int32) : Int32 :=
  if (F (p2).toNatClampNeg) = (p1.toInt8.toInt32) then (p2) else
  (if (p2 + (1 : Int32)) < (4 : Int32) then (if (F ((p2 + (1 : Int32))).toNatClampNeg) = (p1.toInt8.toInt32) then ((p2 + (1 : Int32))) else
  (if ((p2 + (1 : Int32)) + (1 : Int32)) < (4 : Int32) then (if (F (((p2 + (1 : Int32)) + (1 : Int32))).toNatClampNeg) = (p1.toInt8.toInt32) then (((p2 + (1 : Int32)) + (1 : Int32))) else
  (if (((p2 + (1 : Int32)) + (1 : Int32)) + (1 : Int32)) < (4 : Int32) then (if (F ((((p2 + (1 : Int32)) + (1 : Int32)) + (1 : Int32))).toNatClampNeg) = (p1.toInt8.toInt32) then ((((p2 + (1 : Int32)) + (1 : Int32)) + (1 : Int32))) else
  ((-1 : Int32))) else
  ((-1 : Int32)))) else
  ((-1 : Int32)))) else
  ((-1 : Int32)))
def Q17 (Z : State) (o0 : Addr) (p1 : Int32) (p2 : Int32) (F : Nat → Int32) (h0 : Heap) (n0 : Nat) (v : Option Value) (h : Heap) (L : List Loc) : Prop := v = some (.int (f17 p1 p2 F)) ∧ Fr n0 L ∧ h = h0
set_option maxRecDepth 65536 in
set_option maxHeartbeats 40000000 in
theorem rm17 (l : Launch) (Z : State) (a0 : Array Value) (hw : ∀ d ∈ tables_1, d.before a0 Z = true) (ws : List Jvm.Cond) (o0 : Addr) (p1 : Int32) (p2 : Int32) (F : Nat → Int32) (h0 : Heap) (n0 : Nat) (Z0 : n0 ≤ h0.size) (V_o0 : own_AI Z h0 o0 .byte (4 : Int32) F) (h : ¬ p2 < 0 ∧ p2 < (4 : Int32)) :
    MetFree l (⟨"java/lang/StringLatin1", "indexOfChar", "([BIII)I"⟩ : MethodName) (head1 (Jvm.Cond.code (⟨"java/lang/StringLatin1", "indexOfChar", "([BIII)I"⟩ : MethodName) jdk_43_method_23_code 6 (some .int) :: ws) ({ frames := 0, cells := 0, slots := 0, locals := 0 } : Room)) (fun a U => a = #[(.ref o0), (.int p1), (.int p2), (.int (4 : Int32))] ∧ Z.Warmed39 U.vm ∧ U.heap = h0) (fun _ _ _ _ _ => True) (fun _ U o U' => ∃ v L, o = .returned v ∧ Q17 Z o0 p1 p2 F h0 n0 v U'.heap L ∧ FrameEnd U o U' L ({ frames := 0, cells := 0, slots := 0, locals := 0 } : Room).cells ({ frames := 0, cells := 0, slots := 0, locals := 0 } : Room).slots) := by
  refine MetFree.of_bodySF (plainFor_of_name pn_17) hisR ?_
  intro p e s m args below meth c s₁ Bd hml0 hP hK
  obtain ⟨rfl, hZ, hh⟩ := hP
  have hx := Bd.exec
  have hby := Bd.bytes
  have hml : c.maxLocals = 6 := hml0
  have hown : s.vm.findClass "java/lang/StringLatin1" = some m.cls := findClass_of_methodNamed Bd.named
  have hnm := (name_of_methodNamed Bd.named Bd.method).1
  have X0 : Stand p l e ({ frames := 0, cells := 0, slots := 0, locals := 0 } : Room) s m #[(.ref o0), (.int p1), (.int p2), (.int (4 : Int32))] below meth c s₁ [] 0 0 := Stand.of_body Bd
  have e0 : s₁.heap = h0 := by rw [← hh, Bd.state]; rfl
  have N0 := Fr.nil n0
  have pre0 : ∀ t, Steps p.tables e below (s₁.setTop (mkF m 0 #[.val (.ref o0), .val (.int p1), .val (.int p2), .val (.int (4 : Int32)), .unset, .unset] [])) t → Steps p.tables e below (s₁.setTop (entryFrame m #[(.ref o0), (.int p1), (.int p2), (.int (4 : Int32))] 6)) t := fun t k => castTop (ef_17 m o0 p1 p2 (4 : Int32)) k
  have pre1 : ∀ t, Steps p.tables e below (s₁.setTop (mkF m 10 #[.val (.ref o0), .val (.int p1), .val (.int p2), .val (.int (4 : Int32)), .val (.int (p1.toInt8.toInt32)), .val (.int p2)] [(.int (4 : Int32)), (.int p2)])) t → Steps p.tables e below (s₁.setTop (entryFrame m #[(.ref o0), (.int p1), (.int p2), (.int (4 : Int32))] 6)) t := fun t kt => pre0 t (by
      show Steps p.tables e below (s₁.setTop (mkF m 0 #[.val (.ref o0), .val (.int p1), .val (.int p2), .val (.int (4 : Int32)), .unset, .unset] [])) _
      refine XS.iloadN X0.here hx rfl (hb hby d17_0) rfl ?_
      show Steps p.tables e below (s₁.setTop (mkF m 1 #[.val (.ref o0), .val (.int p1), .val (.int p2), .val (.int (4 : Int32)), .unset, .unset] [(.int p1)])) _
      refine XS.i2b X0.here hx rfl (hb hby d17_1) rfl ?_
      show Steps p.tables e below (s₁.setTop (mkF m 2 #[.val (.ref o0), .val (.int p1), .val (.int p2), .val (.int (4 : Int32)), .unset, .unset] [(.int (p1.toInt8.toInt32))])) _
      refine XS.istore X0.here hx rfl (hb hby d17_2) rfl (l' := #[.val (.ref o0), .val (.int p1), .val (.int p2), .val (.int (4 : Int32)), .val (.int (p1.toInt8.toInt32)), .unset]) rfl ?_
      show Steps p.tables e below (s₁.setTop (mkF m 4 #[.val (.ref o0), .val (.int p1), .val (.int p2), .val (.int (4 : Int32)), .val (.int (p1.toInt8.toInt32)), .unset] [])) _
      refine XS.iloadN X0.here hx rfl (hb hby d17_4) rfl ?_
      show Steps p.tables e below (s₁.setTop (mkF m 5 #[.val (.ref o0), .val (.int p1), .val (.int p2), .val (.int (4 : Int32)), .val (.int (p1.toInt8.toInt32)), .unset] [(.int p2)])) _
      refine XS.istore X0.here hx rfl (hb hby d17_5) rfl (l' := #[.val (.ref o0), .val (.int p1), .val (.int p2), .val (.int (4 : Int32)), .val (.int (p1.toInt8.toInt32)), .val (.int p2)]) rfl ?_
      show Steps p.tables e below (s₁.setTop (mkF m 7 #[.val (.ref o0), .val (.int p1), .val (.int p2), .val (.int (4 : Int32)), .val (.int (p1.toInt8.toInt32)), .val (.int p2)] [])) _
      refine XS.iload X0.here hx rfl (hb hby d17_7) rfl ?_
      show Steps p.tables e below (s₁.setTop (mkF m 9 #[.val (.ref o0), .val (.int p1), .val (.int p2), .val (.int (4 : Int32)), .val (.int (p1.toInt8.toInt32)), .val (.int p2)] [(.int p2)])) _
      refine XS.iloadN X0.here hx rfl (hb hby d17_9) rfl ?_
      exact kt)
  have hd10_2 : p2 < (4 : Int32) := h.2
  obtain ⟨cl3, Ar3, Sz3, Nn3, Hs3⟩ := id V_o0
  have hin3 : ¬ (p2 < 0 ∨ cl3.slots.size ≤ (p2).toNatClampNeg) := inb_of Sz3 h
  have hat3 : cl3.slots[(p2).toNatClampNeg]? = some (.int (F (p2).toNatClampNeg)) := (Hs3 _ (own_lt hin3)).1
  have pre4 : ∀ t, Steps p.tables e below (s₁.setTop (mkF m 19 #[.val (.ref o0), .val (.int p1), .val (.int p2), .val (.int (4 : Int32)), .val (.int (p1.toInt8.toInt32)), .val (.int p2)] [(.int (p1.toInt8.toInt32)), (.int (F (p2).toNatClampNeg))])) t → Steps p.tables e below (s₁.setTop (entryFrame m #[(.ref o0), (.int p1), (.int p2), (.int (4 : Int32))] 6)) t := fun t kt => pre1 t (by
      show Steps p.tables e below (s₁.setTop (mkF m 10 #[.val (.ref o0), .val (.int p1), .val (.int p2), .val (.int (4 : Int32)), .val (.int (p1.toInt8.toInt32)), .val (.int p2)] [(.int (4 : Int32)), (.int p2)])) _
      refine XS.icmpNo X0.here hx rfl (hb hby d17_10) rfl (tlt hd10_2).2.1 ?_
      show Steps p.tables e below (s₁.setTop (mkF m 13 #[.val (.ref o0), .val (.int p1), .val (.int p2), .val (.int (4 : Int32)), .val (.int (p1.toInt8.toInt32)), .val (.int p2)] [])) _
      refine XS.aloadN X0.here hx rfl (hb hby d17_13) rfl rfl ?_
      show Steps p.tables e below (s₁.setTop (mkF m 14 #[.val (.ref o0), .val (.int p1), .val (.int p2), .val (.int (4 : Int32)), .val (.int (p1.toInt8.toInt32)), .val (.int p2)] [(.ref o0)])) _
      refine XS.iload X0.here hx rfl (hb hby d17_14) rfl ?_
      show Steps p.tables e below (s₁.setTop (mkF m 16 #[.val (.ref o0), .val (.int p1), .val (.int p2), .val (.int (4 : Int32)), .val (.int (p1.toInt8.toInt32)), .val (.int p2)] [(.int p2), (.ref o0)])) _
      refine X0.baloadBytes hx (j := p2) (v := (.int (F (p2).toNatClampNeg))) (by rw [e0]; exact Ar3.1) (State.isArrayOf_alike hZ.alike Ar3.2.1) Ar3.2.2 hin3 hat3 (g := (mkF m 16 #[.val (.ref o0), .val (.int p1), .val (.int p2), .val (.int (4 : Int32)), .val (.int (p1.toInt8.toInt32)), .val (.int p2)] [(.int p2), (.ref o0)])) rfl rfl (hb hby d17_16) _ ?_
      show Steps p.tables e below (s₁.setTop (mkF m 17 #[.val (.ref o0), .val (.int p1), .val (.int p2), .val (.int (4 : Int32)), .val (.int (p1.toInt8.toInt32)), .val (.int p2)] [(.int (F (p2).toNatClampNeg))])) _
      refine XS.iload X0.here hx rfl (hb hby d17_17) rfl ?_
      exact kt)
  by_cases hc19_5 : (F (p2).toNatClampNeg) = (p1.toInt8.toInt32)
  · obtain ⟨fs, hr, hrun, hended, hW, hsame⟩ := X0.leave (v := some (.int p2)) (fun h => by rw [Bd.returns] at h; cases h)
    have hv23 : (f17 p1 p2 F) = p2 := by rw [f17, if_pos hc19_5]
    refine ⟨_, _, pre4 _ ?_, hrun, hended, _, _, rfl, ?_, ⟨_, rfl⟩, hW, hsame.mono (by decide) (by decide)⟩
    · show Steps p.tables e below (s₁.setTop (mkF m 19 #[.val (.ref o0), .val (.int p1), .val (.int p2), .val (.int (4 : Int32)), .val (.int (p1.toInt8.toInt32)), .val (.int p2)] [(.int (p1.toInt8.toInt32)), (.int (F (p2).toNatClampNeg))])) _
      refine XS.icmpNo X0.here hx rfl (hb hby d17_19) rfl (teq hc19_5).2 ?_
      show Steps p.tables e below (s₁.setTop (mkF m 22 #[.val (.ref o0), .val (.int p1), .val (.int p2), .val (.int (4 : Int32)), .val (.int (p1.toInt8.toInt32)), .val (.int p2)] [])) _
      refine XS.iload X0.here hx rfl (hb hby d17_22) rfl ?_
      show Steps p.tables e below (s₁.setTop (mkF m 24 #[.val (.ref o0), .val (.int p1), .val (.int p2), .val (.int (4 : Int32)), .val (.int (p1.toInt8.toInt32)), .val (.int p2)] [(.int p2)])) _
      exact retI X0 hx Bd.returns (hb hby d17_24) hr
    · show Q17 Z o0 p1 p2 F h0 n0 _ s₁.heap _
      rw [e0]
      exact ⟨congrArg (fun q => some (Value.int q)) hv23.symm, N0, rfl⟩
  · have pre6 : ∀ t, Steps p.tables e below (s₁.setTop (mkF m 10 #[.val (.ref o0), .val (.int p1), .val (.int p2), .val (.int (4 : Int32)), .val (.int (p1.toInt8.toInt32)), .val (.int (p2 + (1 : Int32)))] [(.int (4 : Int32)), (.int (p2 + (1 : Int32)))])) t → Steps p.tables e below (s₁.setTop (entryFrame m #[(.ref o0), (.int p1), (.int p2), (.int (4 : Int32))] 6)) t := fun t kt => pre4 t (by
        show Steps p.tables e below (s₁.setTop (mkF m 19 #[.val (.ref o0), .val (.int p1), .val (.int p2), .val (.int (4 : Int32)), .val (.int (p1.toInt8.toInt32)), .val (.int p2)] [(.int (p1.toInt8.toInt32)), (.int (F (p2).toNatClampNeg))])) _
        refine XS.icmpYes X0.here hx rfl (pc0 := 19) (pc' := 25) rfl (hb hby d17_19) rfl (feq hc19_5).2 (by decide) (by decide) ?_
        show Steps p.tables e below (s₁.setTop (mkF m 25 #[.val (.ref o0), .val (.int p1), .val (.int p2), .val (.int (4 : Int32)), .val (.int (p1.toInt8.toInt32)), .val (.int p2)] [])) _
        refine XS.iinc X0.here hx rfl (hb hby d17_25) rfl (l' := #[.val (.ref o0), .val (.int p1), .val (.int p2), .val (.int (4 : Int32)), .val (.int (p1.toInt8.toInt32)), .val (.int (p2 + (1 : Int32)))]) rfl ?_
        show Steps p.tables e below (s₁.setTop (mkF m 28 #[.val (.ref o0), .val (.int p1), .val (.int p2), .val (.int (4 : Int32)), .val (.int (p1.toInt8.toInt32)), .val (.int (p2 + (1 : Int32)))] [])) _
        refine XS.goto X0.here hx rfl (pc0 := 28) (pc' := 7) rfl (hb hby d17_28) (by decide) (by decide) ?_
        show Steps p.tables e below (s₁.setTop (mkF m 7 #[.val (.ref o0), .val (.int p1), .val (.int p2), .val (.int (4 : Int32)), .val (.int (p1.toInt8.toInt32)), .val (.int (p2 + (1 : Int32)))] [])) _
        refine XS.iload X0.here hx rfl (hb hby d17_7) rfl ?_
        show Steps p.tables e below (s₁.setTop (mkF m 9 #[.val (.ref o0), .val (.int p1), .val (.int p2), .val (.int (4 : Int32)), .val (.int (p1.toInt8.toInt32)), .val (.int (p2 + (1 : Int32)))] [(.int (p2 + (1 : Int32)))])) _
        refine XS.iloadN X0.here hx rfl (hb hby d17_9) rfl ?_
        exact kt)
    by_cases hc10_7 : (p2 + (1 : Int32)) < (4 : Int32)
    · obtain ⟨cl8, Ar8, Sz8, Nn8, Hs8⟩ := id V_o0
      have hin8 : ¬ ((p2 + (1 : Int32)) < 0 ∨ cl8.slots.size ≤ ((p2 + (1 : Int32))).toNatClampNeg) := inb_of Sz8 (own_b1 h hc10_7)
      have hat8 : cl8.slots[((p2 + (1 : Int32))).toNatClampNeg]? = some (.int (F ((p2 + (1 : Int32))).toNatClampNeg)) := (Hs8 _ (own_lt hin8)).1
      have pre9 : ∀ t, Steps p.tables e below (s₁.setTop (mkF m 19 #[.val (.ref o0), .val (.int p1), .val (.int p2), .val (.int (4 : Int32)), .val (.int (p1.toInt8.toInt32)), .val (.int (p2 + (1 : Int32)))] [(.int (p1.toInt8.toInt32)), (.int (F ((p2 + (1 : Int32))).toNatClampNeg))])) t → Steps p.tables e below (s₁.setTop (entryFrame m #[(.ref o0), (.int p1), (.int p2), (.int (4 : Int32))] 6)) t := fun t kt => pre6 t (by
          show Steps p.tables e below (s₁.setTop (mkF m 10 #[.val (.ref o0), .val (.int p1), .val (.int p2), .val (.int (4 : Int32)), .val (.int (p1.toInt8.toInt32)), .val (.int (p2 + (1 : Int32)))] [(.int (4 : Int32)), (.int (p2 + (1 : Int32)))])) _
          refine XS.icmpNo X0.here hx rfl (hb hby d17_10) rfl (tlt hc10_7).2.1 ?_
          show Steps p.tables e below (s₁.setTop (mkF m 13 #[.val (.ref o0), .val (.int p1), .val (.int p2), .val (.int (4 : Int32)), .val (.int (p1.toInt8.toInt32)), .val (.int (p2 + (1 : Int32)))] [])) _
          refine XS.aloadN X0.here hx rfl (hb hby d17_13) rfl rfl ?_
          show Steps p.tables e below (s₁.setTop (mkF m 14 #[.val (.ref o0), .val (.int p1), .val (.int p2), .val (.int (4 : Int32)), .val (.int (p1.toInt8.toInt32)), .val (.int (p2 + (1 : Int32)))] [(.ref o0)])) _
          refine XS.iload X0.here hx rfl (hb hby d17_14) rfl ?_
          show Steps p.tables e below (s₁.setTop (mkF m 16 #[.val (.ref o0), .val (.int p1), .val (.int p2), .val (.int (4 : Int32)), .val (.int (p1.toInt8.toInt32)), .val (.int (p2 + (1 : Int32)))] [(.int (p2 + (1 : Int32))), (.ref o0)])) _
          refine X0.baloadBytes hx (j := (p2 + (1 : Int32))) (v := (.int (F ((p2 + (1 : Int32))).toNatClampNeg))) (by rw [e0]; exact Ar8.1) (State.isArrayOf_alike hZ.alike Ar8.2.1) Ar8.2.2 hin8 hat8 (g := (mkF m 16 #[.val (.ref o0), .val (.int p1), .val (.int p2), .val (.int (4 : Int32)), .val (.int (p1.toInt8.toInt32)), .val (.int (p2 + (1 : Int32)))] [(.int (p2 + (1 : Int32))), (.ref o0)])) rfl rfl (hb hby d17_16) _ ?_
          show Steps p.tables e below (s₁.setTop (mkF m 17 #[.val (.ref o0), .val (.int p1), .val (.int p2), .val (.int (4 : Int32)), .val (.int (p1.toInt8.toInt32)), .val (.int (p2 + (1 : Int32)))] [(.int (F ((p2 + (1 : Int32))).toNatClampNeg))])) _
          refine XS.iload X0.here hx rfl (hb hby d17_17) rfl ?_
          exact kt)
      by_cases hc19_10 : (F ((p2 + (1 : Int32))).toNatClampNeg) = (p1.toInt8.toInt32)
      · obtain ⟨fs, hr, hrun, hended, hW, hsame⟩ := X0.leave (v := some (.int (p2 + (1 : Int32)))) (fun h => by rw [Bd.returns] at h; cases h)
        have hv24 : (f17 p1 p2 F) = (p2 + (1 : Int32)) := by rw [f17, if_neg hc19_5, if_pos hc10_7, if_pos hc19_10]
        refine ⟨_, _, pre9 _ ?_, hrun, hended, _, _, rfl, ?_, ⟨_, rfl⟩, hW, hsame.mono (by decide) (by decide)⟩
        · show Steps p.tables e below (s₁.setTop (mkF m 19 #[.val (.ref o0), .val (.int p1), .val (.int p2), .val (.int (4 : Int32)), .val (.int (p1.toInt8.toInt32)), .val (.int (p2 + (1 : Int32)))] [(.int (p1.toInt8.toInt32)), (.int (F ((p2 + (1 : Int32))).toNatClampNeg))])) _
          refine XS.icmpNo X0.here hx rfl (hb hby d17_19) rfl (teq hc19_10).2 ?_
          show Steps p.tables e below (s₁.setTop (mkF m 22 #[.val (.ref o0), .val (.int p1), .val (.int p2), .val (.int (4 : Int32)), .val (.int (p1.toInt8.toInt32)), .val (.int (p2 + (1 : Int32)))] [])) _
          refine XS.iload X0.here hx rfl (hb hby d17_22) rfl ?_
          show Steps p.tables e below (s₁.setTop (mkF m 24 #[.val (.ref o0), .val (.int p1), .val (.int p2), .val (.int (4 : Int32)), .val (.int (p1.toInt8.toInt32)), .val (.int (p2 + (1 : Int32)))] [(.int (p2 + (1 : Int32)))])) _
          exact retI X0 hx Bd.returns (hb hby d17_24) hr
        · show Q17 Z o0 p1 p2 F h0 n0 _ s₁.heap _
          rw [e0]
          exact ⟨congrArg (fun q => some (Value.int q)) hv24.symm, N0, rfl⟩
      · have pre11 : ∀ t, Steps p.tables e below (s₁.setTop (mkF m 10 #[.val (.ref o0), .val (.int p1), .val (.int p2), .val (.int (4 : Int32)), .val (.int (p1.toInt8.toInt32)), .val (.int ((p2 + (1 : Int32)) + (1 : Int32)))] [(.int (4 : Int32)), (.int ((p2 + (1 : Int32)) + (1 : Int32)))])) t → Steps p.tables e below (s₁.setTop (entryFrame m #[(.ref o0), (.int p1), (.int p2), (.int (4 : Int32))] 6)) t := fun t kt => pre9 t (by
            show Steps p.tables e below (s₁.setTop (mkF m 19 #[.val (.ref o0), .val (.int p1), .val (.int p2), .val (.int (4 : Int32)), .val (.int (p1.toInt8.toInt32)), .val (.int (p2 + (1 : Int32)))] [(.int (p1.toInt8.toInt32)), (.int (F ((p2 + (1 : Int32))).toNatClampNeg))])) _
            refine XS.icmpYes X0.here hx rfl (pc0 := 19) (pc' := 25) rfl (hb hby d17_19) rfl (feq hc19_10).2 (by decide) (by decide) ?_
            show Steps p.tables e below (s₁.setTop (mkF m 25 #[.val (.ref o0), .val (.int p1), .val (.int p2), .val (.int (4 : Int32)), .val (.int (p1.toInt8.toInt32)), .val (.int (p2 + (1 : Int32)))] [])) _
            refine XS.iinc X0.here hx rfl (hb hby d17_25) rfl (l' := #[.val (.ref o0), .val (.int p1), .val (.int p2), .val (.int (4 : Int32)), .val (.int (p1.toInt8.toInt32)), .val (.int ((p2 + (1 : Int32)) + (1 : Int32)))]) rfl ?_
            show Steps p.tables e below (s₁.setTop (mkF m 28 #[.val (.ref o0), .val (.int p1), .val (.int p2), .val (.int (4 : Int32)), .val (.int (p1.toInt8.toInt32)), .val (.int ((p2 + (1 : Int32)) + (1 : Int32)))] [])) _
            refine XS.goto X0.here hx rfl (pc0 := 28) (pc' := 7) rfl (hb hby d17_28) (by decide) (by decide) ?_
            show Steps p.tables e below (s₁.setTop (mkF m 7 #[.val (.ref o0), .val (.int p1), .val (.int p2), .val (.int (4 : Int32)), .val (.int (p1.toInt8.toInt32)), .val (.int ((p2 + (1 : Int32)) + (1 : Int32)))] [])) _
            refine XS.iload X0.here hx rfl (hb hby d17_7) rfl ?_
            show Steps p.tables e below (s₁.setTop (mkF m 9 #[.val (.ref o0), .val (.int p1), .val (.int p2), .val (.int (4 : Int32)), .val (.int (p1.toInt8.toInt32)), .val (.int ((p2 + (1 : Int32)) + (1 : Int32)))] [(.int ((p2 + (1 : Int32)) + (1 : Int32)))])) _
            refine XS.iloadN X0.here hx rfl (hb hby d17_9) rfl ?_
            exact kt)
        by_cases hc10_12 : ((p2 + (1 : Int32)) + (1 : Int32)) < (4 : Int32)
        · obtain ⟨cl13, Ar13, Sz13, Nn13, Hs13⟩ := id V_o0
          have hin13 : ¬ (((p2 + (1 : Int32)) + (1 : Int32)) < 0 ∨ cl13.slots.size ≤ (((p2 + (1 : Int32)) + (1 : Int32))).toNatClampNeg) := inb_of Sz13 (own_b2 h hc10_12)
          have hat13 : cl13.slots[(((p2 + (1 : Int32)) + (1 : Int32))).toNatClampNeg]? = some (.int (F (((p2 + (1 : Int32)) + (1 : Int32))).toNatClampNeg)) := (Hs13 _ (own_lt hin13)).1
          have pre14 : ∀ t, Steps p.tables e below (s₁.setTop (mkF m 19 #[.val (.ref o0), .val (.int p1), .val (.int p2), .val (.int (4 : Int32)), .val (.int (p1.toInt8.toInt32)), .val (.int ((p2 + (1 : Int32)) + (1 : Int32)))] [(.int (p1.toInt8.toInt32)), (.int (F (((p2 + (1 : Int32)) + (1 : Int32))).toNatClampNeg))])) t → Steps p.tables e below (s₁.setTop (entryFrame m #[(.ref o0), (.int p1), (.int p2), (.int (4 : Int32))] 6)) t := fun t kt => pre11 t (by
              show Steps p.tables e below (s₁.setTop (mkF m 10 #[.val (.ref o0), .val (.int p1), .val (.int p2), .val (.int (4 : Int32)), .val (.int (p1.toInt8.toInt32)), .val (.int ((p2 + (1 : Int32)) + (1 : Int32)))] [(.int (4 : Int32)), (.int ((p2 + (1 : Int32)) + (1 : Int32)))])) _
              refine XS.icmpNo X0.here hx rfl (hb hby d17_10) rfl (tlt hc10_12).2.1 ?_
              show Steps p.tables e below (s₁.setTop (mkF m 13 #[.val (.ref o0), .val (.int p1), .val (.int p2), .val (.int (4 : Int32)), .val (.int (p1.toInt8.toInt32)), .val (.int ((p2 + (1 : Int32)) + (1 : Int32)))] [])) _
              refine XS.aloadN X0.here hx rfl (hb hby d17_13) rfl rfl ?_
              show Steps p.tables e below (s₁.setTop (mkF m 14 #[.val (.ref o0), .val (.int p1), .val (.int p2), .val (.int (4 : Int32)), .val (.int (p1.toInt8.toInt32)), .val (.int ((p2 + (1 : Int32)) + (1 : Int32)))] [(.ref o0)])) _
              refine XS.iload X0.here hx rfl (hb hby d17_14) rfl ?_
              show Steps p.tables e below (s₁.setTop (mkF m 16 #[.val (.ref o0), .val (.int p1), .val (.int p2), .val (.int (4 : Int32)), .val (.int (p1.toInt8.toInt32)), .val (.int ((p2 + (1 : Int32)) + (1 : Int32)))] [(.int ((p2 + (1 : Int32)) + (1 : Int32))), (.ref o0)])) _
              refine X0.baloadBytes hx (j := ((p2 + (1 : Int32)) + (1 : Int32))) (v := (.int (F (((p2 + (1 : Int32)) + (1 : Int32))).toNatClampNeg))) (by rw [e0]; exact Ar13.1) (State.isArrayOf_alike hZ.alike Ar13.2.1) Ar13.2.2 hin13 hat13 (g := (mkF m 16 #[.val (.ref o0), .val (.int p1), .val (.int p2), .val (.int (4 : Int32)), .val (.int (p1.toInt8.toInt32)), .val (.int ((p2 + (1 : Int32)) + (1 : Int32)))] [(.int ((p2 + (1 : Int32)) + (1 : Int32))), (.ref o0)])) rfl rfl (hb hby d17_16) _ ?_
              show Steps p.tables e below (s₁.setTop (mkF m 17 #[.val (.ref o0), .val (.int p1), .val (.int p2), .val (.int (4 : Int32)), .val (.int (p1.toInt8.toInt32)), .val (.int ((p2 + (1 : Int32)) + (1 : Int32)))] [(.int (F (((p2 + (1 : Int32)) + (1 : Int32))).toNatClampNeg))])) _
              refine XS.iload X0.here hx rfl (hb hby d17_17) rfl ?_
              exact kt)
          by_cases hc19_15 : (F (((p2 + (1 : Int32)) + (1 : Int32))).toNatClampNeg) = (p1.toInt8.toInt32)
          · obtain ⟨fs, hr, hrun, hended, hW, hsame⟩ := X0.leave (v := some (.int ((p2 + (1 : Int32)) + (1 : Int32)))) (fun h => by rw [Bd.returns] at h; cases h)
            have hv25 : (f17 p1 p2 F) = ((p2 + (1 : Int32)) + (1 : Int32)) := by rw [f17, if_neg hc19_5, if_pos hc10_7, if_neg hc19_10, if_pos hc10_12, if_pos hc19_15]
            refine ⟨_, _, pre14 _ ?_, hrun, hended, _, _, rfl, ?_, ⟨_, rfl⟩, hW, hsame.mono (by decide) (by decide)⟩
            · show Steps p.tables e below (s₁.setTop (mkF m 19 #[.val (.ref o0), .val (.int p1), .val (.int p2), .val (.int (4 : Int32)), .val (.int (p1.toInt8.toInt32)), .val (.int ((p2 + (1 : Int32)) + (1 : Int32)))] [(.int (p1.toInt8.toInt32)), (.int (F (((p2 + (1 : Int32)) + (1 : Int32))).toNatClampNeg))])) _
              refine XS.icmpNo X0.here hx rfl (hb hby d17_19) rfl (teq hc19_15).2 ?_
              show Steps p.tables e below (s₁.setTop (mkF m 22 #[.val (.ref o0), .val (.int p1), .val (.int p2), .val (.int (4 : Int32)), .val (.int (p1.toInt8.toInt32)), .val (.int ((p2 + (1 : Int32)) + (1 : Int32)))] [])) _
              refine XS.iload X0.here hx rfl (hb hby d17_22) rfl ?_
              show Steps p.tables e below (s₁.setTop (mkF m 24 #[.val (.ref o0), .val (.int p1), .val (.int p2), .val (.int (4 : Int32)), .val (.int (p1.toInt8.toInt32)), .val (.int ((p2 + (1 : Int32)) + (1 : Int32)))] [(.int ((p2 + (1 : Int32)) + (1 : Int32)))])) _
              exact retI X0 hx Bd.returns (hb hby d17_24) hr
            · show Q17 Z o0 p1 p2 F h0 n0 _ s₁.heap _
              rw [e0]
              exact ⟨congrArg (fun q => some (Value.int q)) hv25.symm, N0, rfl⟩
          · have pre16 : ∀ t, Steps p.tables e below (s₁.setTop (mkF m 10 #[.val (.ref o0), .val (.int p1), .val (.int p2), .val (.int (4 : Int32)), .val (.int (p1.toInt8.toInt32)), .val (.int (((p2 + (1 : Int32)) + (1 : Int32)) + (1 : Int32)))] [(.int (4 : Int32)), (.int (((p2 + (1 : Int32)) + (1 : Int32)) + (1 : Int32)))])) t → Steps p.tables e below (s₁.setTop (entryFrame m #[(.ref o0), (.int p1), (.int p2), (.int (4 : Int32))] 6)) t := fun t kt => pre14 t (by
                show Steps p.tables e below (s₁.setTop (mkF m 19 #[.val (.ref o0), .val (.int p1), .val (.int p2), .val (.int (4 : Int32)), .val (.int (p1.toInt8.toInt32)), .val (.int ((p2 + (1 : Int32)) + (1 : Int32)))] [(.int (p1.toInt8.toInt32)), (.int (F (((p2 + (1 : Int32)) + (1 : Int32))).toNatClampNeg))])) _
                refine XS.icmpYes X0.here hx rfl (pc0 := 19) (pc' := 25) rfl (hb hby d17_19) rfl (feq hc19_15).2 (by decide) (by decide) ?_
                show Steps p.tables e below (s₁.setTop (mkF m 25 #[.val (.ref o0), .val (.int p1), .val (.int p2), .val (.int (4 : Int32)), .val (.int (p1.toInt8.toInt32)), .val (.int ((p2 + (1 : Int32)) + (1 : Int32)))] [])) _
                refine XS.iinc X0.here hx rfl (hb hby d17_25) rfl (l' := #[.val (.ref o0), .val (.int p1), .val (.int p2), .val (.int (4 : Int32)), .val (.int (p1.toInt8.toInt32)), .val (.int (((p2 + (1 : Int32)) + (1 : Int32)) + (1 : Int32)))]) rfl ?_
                show Steps p.tables e below (s₁.setTop (mkF m 28 #[.val (.ref o0), .val (.int p1), .val (.int p2), .val (.int (4 : Int32)), .val (.int (p1.toInt8.toInt32)), .val (.int (((p2 + (1 : Int32)) + (1 : Int32)) + (1 : Int32)))] [])) _
                refine XS.goto X0.here hx rfl (pc0 := 28) (pc' := 7) rfl (hb hby d17_28) (by decide) (by decide) ?_
                show Steps p.tables e below (s₁.setTop (mkF m 7 #[.val (.ref o0), .val (.int p1), .val (.int p2), .val (.int (4 : Int32)), .val (.int (p1.toInt8.toInt32)), .val (.int (((p2 + (1 : Int32)) + (1 : Int32)) + (1 : Int32)))] [])) _
                refine XS.iload X0.here hx rfl (hb hby d17_7) rfl ?_
                show Steps p.tables e below (s₁.setTop (mkF m 9 #[.val (.ref o0), .val (.int p1), .val (.int p2), .val (.int (4 : Int32)), .val (.int (p1.toInt8.toInt32)), .val (.int (((p2 + (1 : Int32)) + (1 : Int32)) + (1 : Int32)))] [(.int (((p2 + (1 : Int32)) + (1 : Int32)) + (1 : Int32)))])) _
                refine XS.iloadN X0.here hx rfl (hb hby d17_9) rfl ?_
                exact kt)
            by_cases hc10_17 : (((p2 + (1 : Int32)) + (1 : Int32)) + (1 : Int32)) < (4 : Int32)
            · obtain ⟨cl18, Ar18, Sz18, Nn18, Hs18⟩ := id V_o0
              have hin18 : ¬ ((((p2 + (1 : Int32)) + (1 : Int32)) + (1 : Int32)) < 0 ∨ cl18.slots.size ≤ ((((p2 + (1 : Int32)) + (1 : Int32)) + (1 : Int32))).toNatClampNeg) := inb_of Sz18 (own_b3 h hc10_17)
              have hat18 : cl18.slots[((((p2 + (1 : Int32)) + (1 : Int32)) + (1 : Int32))).toNatClampNeg]? = some (.int (F ((((p2 + (1 : Int32)) + (1 : Int32)) + (1 : Int32))).toNatClampNeg)) := (Hs18 _ (own_lt hin18)).1
              have pre19 : ∀ t, Steps p.tables e below (s₁.setTop (mkF m 19 #[.val (.ref o0), .val (.int p1), .val (.int p2), .val (.int (4 : Int32)), .val (.int (p1.toInt8.toInt32)), .val (.int (((p2 + (1 : Int32)) + (1 : Int32)) + (1 : Int32)))] [(.int (p1.toInt8.toInt32)), (.int (F ((((p2 + (1 : Int32)) + (1 : Int32)) + (1 : Int32))).toNatClampNeg))])) t → Steps p.tables e below (s₁.setTop (entryFrame m #[(.ref o0), (.int p1), (.int p2), (.int (4 : Int32))] 6)) t := fun t kt => pre16 t (by
                  show Steps p.tables e below (s₁.setTop (mkF m 10 #[.val (.ref o0), .val (.int p1), .val (.int p2), .val (.int (4 : Int32)), .val (.int (p1.toInt8.toInt32)), .val (.int (((p2 + (1 : Int32)) + (1 : Int32)) + (1 : Int32)))] [(.int (4 : Int32)), (.int (((p2 + (1 : Int32)) + (1 : Int32)) + (1 : Int32)))])) _
                  refine XS.icmpNo X0.here hx rfl (hb hby d17_10) rfl (tlt hc10_17).2.1 ?_
                  show Steps p.tables e below (s₁.setTop (mkF m 13 #[.val (.ref o0), .val (.int p1), .val (.int p2), .val (.int (4 : Int32)), .val (.int (p1.toInt8.toInt32)), .val (.int (((p2 + (1 : Int32)) + (1 : Int32)) + (1 : Int32)))] [])) _
                  refine XS.aloadN X0.here hx rfl (hb hby d17_13) rfl rfl ?_
                  show Steps p.tables e below (s₁.setTop (mkF m 14 #[.val (.ref o0), .val (.int p1), .val (.int p2), .val (.int (4 : Int32)), .val (.int (p1.toInt8.toInt32)), .val (.int (((p2 + (1 : Int32)) + (1 : Int32)) + (1 : Int32)))] [(.ref o0)])) _
                  refine XS.iload X0.here hx rfl (hb hby d17_14) rfl ?_
                  show Steps p.tables e below (s₁.setTop (mkF m 16 #[.val (.ref o0), .val (.int p1), .val (.int p2), .val (.int (4 : Int32)), .val (.int (p1.toInt8.toInt32)), .val (.int (((p2 + (1 : Int32)) + (1 : Int32)) + (1 : Int32)))] [(.int (((p2 + (1 : Int32)) + (1 : Int32)) + (1 : Int32))), (.ref o0)])) _
                  refine X0.baloadBytes hx (j := (((p2 + (1 : Int32)) + (1 : Int32)) + (1 : Int32))) (v := (.int (F ((((p2 + (1 : Int32)) + (1 : Int32)) + (1 : Int32))).toNatClampNeg))) (by rw [e0]; exact Ar18.1) (State.isArrayOf_alike hZ.alike Ar18.2.1) Ar18.2.2 hin18 hat18 (g := (mkF m 16 #[.val (.ref o0), .val (.int p1), .val (.int p2), .val (.int (4 : Int32)), .val (.int (p1.toInt8.toInt32)), .val (.int (((p2 + (1 : Int32)) + (1 : Int32)) + (1 : Int32)))] [(.int (((p2 + (1 : Int32)) + (1 : Int32)) + (1 : Int32))), (.ref o0)])) rfl rfl (hb hby d17_16) _ ?_
                  show Steps p.tables e below (s₁.setTop (mkF m 17 #[.val (.ref o0), .val (.int p1), .val (.int p2), .val (.int (4 : Int32)), .val (.int (p1.toInt8.toInt32)), .val (.int (((p2 + (1 : Int32)) + (1 : Int32)) + (1 : Int32)))] [(.int (F ((((p2 + (1 : Int32)) + (1 : Int32)) + (1 : Int32))).toNatClampNeg))])) _
                  refine XS.iload X0.here hx rfl (hb hby d17_17) rfl ?_
                  exact kt)
              by_cases hc19_20 : (F ((((p2 + (1 : Int32)) + (1 : Int32)) + (1 : Int32))).toNatClampNeg) = (p1.toInt8.toInt32)
              · obtain ⟨fs, hr, hrun, hended, hW, hsame⟩ := X0.leave (v := some (.int (((p2 + (1 : Int32)) + (1 : Int32)) + (1 : Int32)))) (fun h => by rw [Bd.returns] at h; cases h)
                have hv26 : (f17 p1 p2 F) = (((p2 + (1 : Int32)) + (1 : Int32)) + (1 : Int32)) := by rw [f17, if_neg hc19_5, if_pos hc10_7, if_neg hc19_10, if_pos hc10_12, if_neg hc19_15, if_pos hc10_17, if_pos hc19_20]
                refine ⟨_, _, pre19 _ ?_, hrun, hended, _, _, rfl, ?_, ⟨_, rfl⟩, hW, hsame.mono (by decide) (by decide)⟩
                · show Steps p.tables e below (s₁.setTop (mkF m 19 #[.val (.ref o0), .val (.int p1), .val (.int p2), .val (.int (4 : Int32)), .val (.int (p1.toInt8.toInt32)), .val (.int (((p2 + (1 : Int32)) + (1 : Int32)) + (1 : Int32)))] [(.int (p1.toInt8.toInt32)), (.int (F ((((p2 + (1 : Int32)) + (1 : Int32)) + (1 : Int32))).toNatClampNeg))])) _
                  refine XS.icmpNo X0.here hx rfl (hb hby d17_19) rfl (teq hc19_20).2 ?_
                  show Steps p.tables e below (s₁.setTop (mkF m 22 #[.val (.ref o0), .val (.int p1), .val (.int p2), .val (.int (4 : Int32)), .val (.int (p1.toInt8.toInt32)), .val (.int (((p2 + (1 : Int32)) + (1 : Int32)) + (1 : Int32)))] [])) _
                  refine XS.iload X0.here hx rfl (hb hby d17_22) rfl ?_
                  show Steps p.tables e below (s₁.setTop (mkF m 24 #[.val (.ref o0), .val (.int p1), .val (.int p2), .val (.int (4 : Int32)), .val (.int (p1.toInt8.toInt32)), .val (.int (((p2 + (1 : Int32)) + (1 : Int32)) + (1 : Int32)))] [(.int (((p2 + (1 : Int32)) + (1 : Int32)) + (1 : Int32)))])) _
                  exact retI X0 hx Bd.returns (hb hby d17_24) hr
                · show Q17 Z o0 p1 p2 F h0 n0 _ s₁.heap _
                  rw [e0]
                  exact ⟨congrArg (fun q => some (Value.int q)) hv26.symm, N0, rfl⟩
              · have pre21 : ∀ t, Steps p.tables e below (s₁.setTop (mkF m 10 #[.val (.ref o0), .val (.int p1), .val (.int p2), .val (.int (4 : Int32)), .val (.int (p1.toInt8.toInt32)), .val (.int ((((p2 + (1 : Int32)) + (1 : Int32)) + (1 : Int32)) + (1 : Int32)))] [(.int (4 : Int32)), (.int ((((p2 + (1 : Int32)) + (1 : Int32)) + (1 : Int32)) + (1 : Int32)))])) t → Steps p.tables e below (s₁.setTop (entryFrame m #[(.ref o0), (.int p1), (.int p2), (.int (4 : Int32))] 6)) t := fun t kt => pre19 t (by
                    show Steps p.tables e below (s₁.setTop (mkF m 19 #[.val (.ref o0), .val (.int p1), .val (.int p2), .val (.int (4 : Int32)), .val (.int (p1.toInt8.toInt32)), .val (.int (((p2 + (1 : Int32)) + (1 : Int32)) + (1 : Int32)))] [(.int (p1.toInt8.toInt32)), (.int (F ((((p2 + (1 : Int32)) + (1 : Int32)) + (1 : Int32))).toNatClampNeg))])) _
                    refine XS.icmpYes X0.here hx rfl (pc0 := 19) (pc' := 25) rfl (hb hby d17_19) rfl (feq hc19_20).2 (by decide) (by decide) ?_
                    show Steps p.tables e below (s₁.setTop (mkF m 25 #[.val (.ref o0), .val (.int p1), .val (.int p2), .val (.int (4 : Int32)), .val (.int (p1.toInt8.toInt32)), .val (.int (((p2 + (1 : Int32)) + (1 : Int32)) + (1 : Int32)))] [])) _
                    refine XS.iinc X0.here hx rfl (hb hby d17_25) rfl (l' := #[.val (.ref o0), .val (.int p1), .val (.int p2), .val (.int (4 : Int32)), .val (.int (p1.toInt8.toInt32)), .val (.int ((((p2 + (1 : Int32)) + (1 : Int32)) + (1 : Int32)) + (1 : Int32)))]) rfl ?_
                    show Steps p.tables e below (s₁.setTop (mkF m 28 #[.val (.ref o0), .val (.int p1), .val (.int p2), .val (.int (4 : Int32)), .val (.int (p1.toInt8.toInt32)), .val (.int ((((p2 + (1 : Int32)) + (1 : Int32)) + (1 : Int32)) + (1 : Int32)))] [])) _
                    refine XS.goto X0.here hx rfl (pc0 := 28) (pc' := 7) rfl (hb hby d17_28) (by decide) (by decide) ?_
                    show Steps p.tables e below (s₁.setTop (mkF m 7 #[.val (.ref o0), .val (.int p1), .val (.int p2), .val (.int (4 : Int32)), .val (.int (p1.toInt8.toInt32)), .val (.int ((((p2 + (1 : Int32)) + (1 : Int32)) + (1 : Int32)) + (1 : Int32)))] [])) _
                    refine XS.iload X0.here hx rfl (hb hby d17_7) rfl ?_
                    show Steps p.tables e below (s₁.setTop (mkF m 9 #[.val (.ref o0), .val (.int p1), .val (.int p2), .val (.int (4 : Int32)), .val (.int (p1.toInt8.toInt32)), .val (.int ((((p2 + (1 : Int32)) + (1 : Int32)) + (1 : Int32)) + (1 : Int32)))] [(.int ((((p2 + (1 : Int32)) + (1 : Int32)) + (1 : Int32)) + (1 : Int32)))])) _
                    refine XS.iloadN X0.here hx rfl (hb hby d17_9) rfl ?_
                    exact kt)
                have hd10_22 : ¬ (((((p2 + (1 : Int32)) + (1 : Int32)) + (1 : Int32)) + (1 : Int32)) < (4 : Int32)) := own_t4 h
                obtain ⟨fs, hr, hrun, hended, hW, hsame⟩ := X0.leave (v := some (.int (-1 : Int32))) (fun h => by rw [Bd.returns] at h; cases h)
                have hv27 : (f17 p1 p2 F) = (-1 : Int32) := by rw [f17, if_neg hc19_5, if_pos hc10_7, if_neg hc19_10, if_pos hc10_12, if_neg hc19_15, if_pos hc10_17, if_neg hc19_20]
                refine ⟨_, _, pre21 _ ?_, hrun, hended, _, _, rfl, ?_, ⟨_, rfl⟩, hW, hsame.mono (by decide) (by decide)⟩
                · show Steps p.tables e below (s₁.setTop (mkF m 10 #[.val (.ref o0), .val (.int p1), .val (.int p2), .val (.int (4 : Int32)), .val (.int (p1.toInt8.toInt32)), .val (.int ((((p2 + (1 : Int32)) + (1 : Int32)) + (1 : Int32)) + (1 : Int32)))] [(.int (4 : Int32)), (.int ((((p2 + (1 : Int32)) + (1 : Int32)) + (1 : Int32)) + (1 : Int32)))])) _
                  refine XS.icmpYes X0.here hx rfl (pc0 := 10) (pc' := 31) rfl (hb hby d17_10) rfl (flt hd10_22).2.1 (by decide) (by decide) ?_
                  show Steps p.tables e below (s₁.setTop (mkF m 31 #[.val (.ref o0), .val (.int p1), .val (.int p2), .val (.int (4 : Int32)), .val (.int (p1.toInt8.toInt32)), .val (.int ((((p2 + (1 : Int32)) + (1 : Int32)) + (1 : Int32)) + (1 : Int32)))] [])) _
                  refine XS.iconst X0.here hx rfl (hb hby d17_31) ?_
                  show Steps p.tables e below (s₁.setTop (mkF m 32 #[.val (.ref o0), .val (.int p1), .val (.int p2), .val (.int (4 : Int32)), .val (.int (p1.toInt8.toInt32)), .val (.int ((((p2 + (1 : Int32)) + (1 : Int32)) + (1 : Int32)) + (1 : Int32)))] [(.int (-1 : Int32))])) _
                  exact retI X0 hx Bd.returns (hb hby d17_32) hr
                · show Q17 Z o0 p1 p2 F h0 n0 _ s₁.heap _
                  rw [e0]
                  exact ⟨congrArg (fun q => some (Value.int q)) hv27.symm, N0, rfl⟩
            · obtain ⟨fs, hr, hrun, hended, hW, hsame⟩ := X0.leave (v := some (.int (-1 : Int32))) (fun h => by rw [Bd.returns] at h; cases h)
              have hv28 : (f17 p1 p2 F) = (-1 : Int32) := by rw [f17, if_neg hc19_5, if_pos hc10_7, if_neg hc19_10, if_pos hc10_12, if_neg hc19_15, if_neg hc10_17]
              refine ⟨_, _, pre16 _ ?_, hrun, hended, _, _, rfl, ?_, ⟨_, rfl⟩, hW, hsame.mono (by decide) (by decide)⟩
              · show Steps p.tables e below (s₁.setTop (mkF m 10 #[.val (.ref o0), .val (.int p1), .val (.int p2), .val (.int (4 : Int32)), .val (.int (p1.toInt8.toInt32)), .val (.int (((p2 + (1 : Int32)) + (1 : Int32)) + (1 : Int32)))] [(.int (4 : Int32)), (.int (((p2 + (1 : Int32)) + (1 : Int32)) + (1 : Int32)))])) _
                refine XS.icmpYes X0.here hx rfl (pc0 := 10) (pc' := 31) rfl (hb hby d17_10) rfl (flt hc10_17).2.1 (by decide) (by decide) ?_
                show Steps p.tables e below (s₁.setTop (mkF m 31 #[.val (.ref o0), .val (.int p1), .val (.int p2), .val (.int (4 : Int32)), .val (.int (p1.toInt8.toInt32)), .val (.int (((p2 + (1 : Int32)) + (1 : Int32)) + (1 : Int32)))] [])) _
                refine XS.iconst X0.here hx rfl (hb hby d17_31) ?_
                show Steps p.tables e below (s₁.setTop (mkF m 32 #[.val (.ref o0), .val (.int p1), .val (.int p2), .val (.int (4 : Int32)), .val (.int (p1.toInt8.toInt32)), .val (.int (((p2 + (1 : Int32)) + (1 : Int32)) + (1 : Int32)))] [(.int (-1 : Int32))])) _
                exact retI X0 hx Bd.returns (hb hby d17_32) hr
              · show Q17 Z o0 p1 p2 F h0 n0 _ s₁.heap _
                rw [e0]
                exact ⟨congrArg (fun q => some (Value.int q)) hv28.symm, N0, rfl⟩
        · obtain ⟨fs, hr, hrun, hended, hW, hsame⟩ := X0.leave (v := some (.int (-1 : Int32))) (fun h => by rw [Bd.returns] at h; cases h)
          have hv29 : (f17 p1 p2 F) = (-1 : Int32) := by rw [f17, if_neg hc19_5, if_pos hc10_7, if_neg hc19_10, if_neg hc10_12]
          refine ⟨_, _, pre11 _ ?_, hrun, hended, _, _, rfl, ?_, ⟨_, rfl⟩, hW, hsame.mono (by decide) (by decide)⟩
          · show Steps p.tables e below (s₁.setTop (mkF m 10 #[.val (.ref o0), .val (.int p1), .val (.int p2), .val (.int (4 : Int32)), .val (.int (p1.toInt8.toInt32)), .val (.int ((p2 + (1 : Int32)) + (1 : Int32)))] [(.int (4 : Int32)), (.int ((p2 + (1 : Int32)) + (1 : Int32)))])) _
            refine XS.icmpYes X0.here hx rfl (pc0 := 10) (pc' := 31) rfl (hb hby d17_10) rfl (flt hc10_12).2.1 (by decide) (by decide) ?_
            show Steps p.tables e below (s₁.setTop (mkF m 31 #[.val (.ref o0), .val (.int p1), .val (.int p2), .val (.int (4 : Int32)), .val (.int (p1.toInt8.toInt32)), .val (.int ((p2 + (1 : Int32)) + (1 : Int32)))] [])) _
            refine XS.iconst X0.here hx rfl (hb hby d17_31) ?_
            show Steps p.tables e below (s₁.setTop (mkF m 32 #[.val (.ref o0), .val (.int p1), .val (.int p2), .val (.int (4 : Int32)), .val (.int (p1.toInt8.toInt32)), .val (.int ((p2 + (1 : Int32)) + (1 : Int32)))] [(.int (-1 : Int32))])) _
            exact retI X0 hx Bd.returns (hb hby d17_32) hr
          · show Q17 Z o0 p1 p2 F h0 n0 _ s₁.heap _
            rw [e0]
            exact ⟨congrArg (fun q => some (Value.int q)) hv29.symm, N0, rfl⟩
    · obtain ⟨fs, hr, hrun, hended, hW, hsame⟩ := X0.leave (v := some (.int (-1 : Int32))) (fun h => by rw [Bd.returns] at h; cases h)
      have hv30 : (f17 p1 p2 F) = (-1 : Int32) := by rw [f17, if_neg hc19_5, if_neg hc10_7]
      refine ⟨_, _, pre6 _ ?_, hrun, hended, _, _, rfl, ?_, ⟨_, rfl⟩, hW, hsame.mono (by decide) (by decide)⟩
      · show Steps p.tables e below (s₁.setTop (mkF m 10 #[.val (.ref o0), .val (.int p1), .val (.int p2), .val (.int (4 : Int32)), .val (.int (p1.toInt8.toInt32)), .val (.int (p2 + (1 : Int32)))] [(.int (4 : Int32)), (.int (p2 + (1 : Int32)))])) _
        refine XS.icmpYes X0.here hx rfl (pc0 := 10) (pc' := 31) rfl (hb hby d17_10) rfl (flt hc10_7).2.1 (by decide) (by decide) ?_
        show Steps p.tables e below (s₁.setTop (mkF m 31 #[.val (.ref o0), .val (.int p1), .val (.int p2), .val (.int (4 : Int32)), .val (.int (p1.toInt8.toInt32)), .val (.int (p2 + (1 : Int32)))] [])) _
        refine XS.iconst X0.here hx rfl (hb hby d17_31) ?_
        show Steps p.tables e below (s₁.setTop (mkF m 32 #[.val (.ref o0), .val (.int p1), .val (.int p2), .val (.int (4 : Int32)), .val (.int (p1.toInt8.toInt32)), .val (.int (p2 + (1 : Int32)))] [(.int (-1 : Int32))])) _
        exact retI X0 hx Bd.returns (hb hby d17_32) hr
      · show Q17 Z o0 p1 p2 F h0 n0 _ s₁.heap _
        rw [e0]
        exact ⟨congrArg (fun q => some (Value.int q)) hv30.symm, N0, rfl⟩
theorem d13_0 : decode jdk_43_method_22_code 0 = .ok (.iload_n 1, 1) := by decide +kernel
theorem d13_1 : decode jdk_43_method_22_code 1 = .ok (.invokestatic 88, 3) := by decide +kernel
theorem d13_4 : decode jdk_43_method_22_code 4 = .ok (.ifCond .ne 5, 3) := by decide +kernel
theorem d13_7 : decode jdk_43_method_22_code 7 = .ok (.iconst (-1), 1) := by decide +kernel
theorem d13_8 : decode jdk_43_method_22_code 8 = .ok (.ireturn, 1) := by decide +kernel
theorem d13_9 : decode jdk_43_method_22_code 9 = .ok (.iload_n 2, 1) := by decide +kernel
theorem d13_10 : decode jdk_43_method_22_code 10 = .ok (.iconst 0, 1) := by decide +kernel
theorem d13_11 : decode jdk_43_method_22_code 11 = .ok (.invokestatic 92, 3) := by decide +kernel
theorem d13_14 : decode jdk_43_method_22_code 14 = .ok (.istore_n 2, 1) := by decide +kernel
theorem d13_15 : decode jdk_43_method_22_code 15 = .ok (.iload_n 3, 1) := by decide +kernel
theorem d13_16 : decode jdk_43_method_22_code 16 = .ok (.aload_n 0, 1) := by decide +kernel
theorem d13_17 : decode jdk_43_method_22_code 17 = .ok (.arraylength, 1) := by decide +kernel
theorem d13_18 : decode jdk_43_method_22_code 18 = .ok (.invokestatic 38, 3) := by decide +kernel
theorem d13_21 : decode jdk_43_method_22_code 21 = .ok (.istore_n 3, 1) := by decide +kernel
theorem d13_22 : decode jdk_43_method_22_code 22 = .ok (.iload_n 2, 1) := by decide +kernel
theorem d13_23 : decode jdk_43_method_22_code 23 = .ok (.iload_n 3, 1) := by decide +kernel
theorem d13_24 : decode jdk_43_method_22_code 24 = .ok (.if_icmp .lt 5, 3) := by decide +kernel
theorem d13_27 : decode jdk_43_method_22_code 27 = .ok (.iconst (-1), 1) := by decide +kernel
theorem d13_28 : decode jdk_43_method_22_code 28 = .ok (.ireturn, 1) := by decide +kernel
theorem d13_29 : decode jdk_43_method_22_code 29 = .ok (.aload_n 0, 1) := by decide +kernel
theorem d13_30 : decode jdk_43_method_22_code 30 = .ok (.iload_n 1, 1) := by decide +kernel
theorem d13_31 : decode jdk_43_method_22_code 31 = .ok (.iload_n 2, 1) := by decide +kernel
theorem d13_32 : decode jdk_43_method_22_code 32 = .ok (.iload_n 3, 1) := by decide +kernel
theorem d13_33 : decode jdk_43_method_22_code 33 = .ok (.invokestatic 95, 3) := by decide +kernel
theorem d13_36 : decode jdk_43_method_22_code 36 = .ok (.ireturn, 1) := by decide +kernel
theorem pn_13 : plainName "java/lang/StringLatin1" = true := by first | (simp [plainName, overriddenIn]; done) | decide +kernel
theorem pd_13_0 : parseMethodDescriptor "(I)Z" = some ⟨[.int], some .boolean⟩ := by decide +kernel
theorem pd_13_1 : parseMethodDescriptor "(II)I" = some ⟨[.int, .int], some .int⟩ := by decide +kernel
theorem pd_13_2 : parseMethodDescriptor "([BIII)I" = some ⟨[(.array .byte), .int, .int, .int], some .int⟩ := by decide +kernel
theorem ef_13 (m : MethodId) (x0 : Addr) (x1 : Int32) (x2 : Int32) (x3 : Int32) : entryFrame m #[(.ref x0), (.int x1), (.int x2), (.int x3)] 4 = mkF m 0 #[.val (.ref x0), .val (.int x1), .val (.int x2), .val (.int x3)] [] := by first | (simp [entryFrame, mkF, argsToLocals, Value.category]; done) | rfl
def f13 (p1 : Int32) (p2 : Int32) (F : Nat → Int32) : Int32 :=
  if (f14 p1) = (0 : Int32) then ((-1 : Int32)) else
  (if p2 < (4 : Int32) then ((f17 p1 p2 F)) else
  ((-1 : Int32)))
def Q13 (Z : State) (o0 : Addr) (p1 : Int32) (p2 : Int32) (F : Nat → Int32) (h0 : Heap) (n0 : Nat) (v : Option Value) (h : Heap) (L : List Loc) : Prop := v = some (.int (f13 p1 p2 F)) ∧ Fr n0 L ∧ h = h0
set_option maxRecDepth 65536 in
set_option maxHeartbeats 40000000 in
theorem rm13 (l : Launch) (Z : State) (a0 : Array Value) (hw : ∀ d ∈ tables_1, d.before a0 Z = true) (ws : List Jvm.Cond) (o0 : Addr) (p1 : Int32) (p2 : Int32) (F : Nat → Int32) (h0 : Heap) (n0 : Nat) (Z0 : n0 ≤ h0.size) (V_o0 : own_AI Z h0 o0 .byte (4 : Int32) F) (hn : ¬ p2 < 0) (h0c : ¬ p1 < 0) :
    MetFree l (⟨"java/lang/StringLatin1", "indexOf", "([BIII)I"⟩ : MethodName) (head1 (Jvm.Cond.code (⟨"java/lang/StringLatin1", "indexOf", "([BIII)I"⟩ : MethodName) jdk_43_method_22_code 4 (some .int) :: ws) ({ frames := 1, cells := 0, slots := 0, locals := 17 } : Room)) (fun a U => a = #[(.ref o0), (.int p1), (.int p2), (.int (4 : Int32))] ∧ Z.Warmed39 U.vm ∧ U.heap = h0) (fun _ _ _ _ _ => True) (fun _ U o U' => ∃ v L, o = .returned v ∧ Q13 Z o0 p1 p2 F h0 n0 v U'.heap L ∧ FrameEnd U o U' L ({ frames := 1, cells := 0, slots := 0, locals := 17 } : Room).cells ({ frames := 1, cells := 0, slots := 0, locals := 17 } : Room).slots) := by
  refine MetFree.of_bodySF (plainFor_of_name pn_13) hisR ?_
  intro p e s m args below meth c s₁ Bd hml0 hP hK
  obtain ⟨rfl, hZ, hh⟩ := hP
  have hx := Bd.exec
  have hby := Bd.bytes
  have hml : c.maxLocals = 4 := hml0
  have hown : s.vm.findClass "java/lang/StringLatin1" = some m.cls := findClass_of_methodNamed Bd.named
  have hnm := (name_of_methodNamed Bd.named Bd.method).1
  have X0 : Stand p l e ({ frames := 1, cells := 0, slots := 0, locals := 17 } : Room) s m #[(.ref o0), (.int p1), (.int p2), (.int (4 : Int32))] below meth c s₁ [] 0 0 := Stand.of_body Bd
  have e0 : s₁.heap = h0 := by rw [← hh, Bd.state]; rfl
  have N0 := Fr.nil n0
  have pre0 : ∀ t, Steps p.tables e below (s₁.setTop (mkF m 0 #[.val (.ref o0), .val (.int p1), .val (.int p2), .val (.int (4 : Int32))] [])) t → Steps p.tables e below (s₁.setTop (entryFrame m #[(.ref o0), (.int p1), (.int p2), (.int (4 : Int32))] 4)) t := fun t k => castTop (ef_13 m o0 p1 p2 (4 : Int32)) k
  obtain ⟨_, _, ⟨T1, L1, k1, n1⟩, -, X1, ⟨Lc1, hQ1, l1, y1, z1⟩, st1⟩ := Jvm.LawKit.callS X0 hx (y := (⟨"java/lang/StringLatin1", "canEncode", "(I)Z"⟩ : MethodName)) hown (mvT hZ (hw _ (List.mem_of_getElem? (i := 62) rfl))) (mvT hZ (hw _ (List.mem_of_getElem? (i := 63) rfl))) (mvT hZ (hw _ (List.mem_of_getElem? (i := 60) rfl))) (mvT hZ (hw _ (List.mem_of_getElem? (i := 64) rfl))) (by decide) (backOf (W := 0) (rm14 l Z a0 hw [] p1 h0 n0 Z0 (h0c)) hZ (hw _ (List.mem_of_getElem? (i := 64) rfl)) (hw _ (List.mem_of_getElem? (i := 60) rfl)) (by decide) (by decide)) (g := (mkF m 1 #[.val (.ref o0), .val (.int p1), .val (.int p2), .val (.int (4 : Int32))] [(.int p1)])) rfl (by rw [hml]; rfl) (argsL := [(.int p1)]) (rest := []) (lenOf pd_13_0 rfl) rfl (by show 2 * 0 + _ ≤ _; exact Nat.le_of_eq rfl) (hb hby d13_1) (fun _ _ => ⟨rfl, e0, (by decide : 0 + 0 ≤ _), (by decide : 0 + 0 ≤ _)⟩)
  dsimp only [Pt.U, Pt.locs, Pt.cells, Pt.slots] at X1 l1 y1 z1 st1 hQ1
  subst l1 y1 z1
  obtain ⟨rfl, N1q, e1q⟩ := hQ1
  have N1 := Fr.app N0 N1q
  have pre2 : ∀ t, Steps p.tables e below (T1.setTop (mkF m 4 #[.val (.ref o0), .val (.int p1), .val (.int p2), .val (.int (4 : Int32))] [(.int (f14 p1))])) t → Steps p.tables e below (s₁.setTop (entryFrame m #[(.ref o0), (.int p1), (.int p2), (.int (4 : Int32))] 4)) t := fun t kt => pre0 t (by
      show Steps p.tables e below (s₁.setTop (mkF m 0 #[.val (.ref o0), .val (.int p1), .val (.int p2), .val (.int (4 : Int32))] [])) _
      refine XS.iloadN X0.here hx rfl (hb hby d13_0) rfl ?_
      show Steps p.tables e below (s₁.setTop (mkF m 1 #[.val (.ref o0), .val (.int p1), .val (.int p2), .val (.int (4 : Int32))] [(.int p1)])) _
      refine st1 _ ?_
      exact kt)
  by_cases hc4_3 : (f14 p1) = (0 : Int32)
  · obtain ⟨fs, hr, hrun, hended, hW, hsame⟩ := X1.leave (v := some (.int (-1 : Int32))) (fun h => by rw [Bd.returns] at h; cases h)
    have hv10 : (f13 p1 p2 F) = (-1 : Int32) := by rw [f13, if_pos hc4_3]
    refine ⟨_, _, pre2 _ ?_, hrun, hended, _, _, rfl, ?_, ⟨_, rfl⟩, hW, hsame.mono (by decide) (by decide)⟩
    · show Steps p.tables e below (T1.setTop (mkF m 4 #[.val (.ref o0), .val (.int p1), .val (.int p2), .val (.int (4 : Int32))] [(.int (f14 p1))])) _
      refine XS.ifNo X1.here hx rfl (hb hby d13_4) rfl ((if0 _ _).trans (teq hc4_3).2) ?_
      show Steps p.tables e below (T1.setTop (mkF m 7 #[.val (.ref o0), .val (.int p1), .val (.int p2), .val (.int (4 : Int32))] [])) _
      refine XS.iconst X1.here hx rfl (hb hby d13_7) ?_
      show Steps p.tables e below (T1.setTop (mkF m 8 #[.val (.ref o0), .val (.int p1), .val (.int p2), .val (.int (4 : Int32))] [(.int (-1 : Int32))])) _
      exact retI X1 hx Bd.returns (hb hby d13_8) hr
    · show Q13 Z o0 p1 p2 F h0 n0 _ T1.heap _
      rw [e1q]
      exact ⟨congrArg (fun q => some (Value.int q)) hv10.symm, N1, rfl⟩
  · obtain ⟨_, _, ⟨T4, L4, k4, n4⟩, -, X4, ⟨Lc4, hQ4, l4, y4, z4⟩, st4⟩ := Jvm.LawKit.callS X1 hx (y := (⟨"java/lang/Math", "max", "(II)I"⟩ : MethodName)) hown (mvT hZ (hw _ (List.mem_of_getElem? (i := 65) rfl))) (mvT hZ (hw _ (List.mem_of_getElem? (i := 66) rfl))) (mvT hZ (hw _ (List.mem_of_getElem? (i := 67) rfl))) (mvT hZ (hw _ (List.mem_of_getElem? (i := 68) rfl))) (by decide) (backOf (W := 0) (rm15 l Z a0 hw [] p2 h0 n0 Z0 (hn)) hZ (hw _ (List.mem_of_getElem? (i := 68) rfl)) (hw _ (List.mem_of_getElem? (i := 67) rfl)) (by decide) (by decide)) (g := (mkF m 11 #[.val (.ref o0), .val (.int p1), .val (.int p2), .val (.int (4 : Int32))] [(.int (0 : Int32)), (.int p2)])) rfl (by rw [hml]; rfl) (argsL := [(.int p2), (.int (0 : Int32))]) (rest := []) (lenOf pd_13_1 rfl) rfl (by show 2 * 0 + _ ≤ _; exact Nat.le_of_eq rfl) (hb hby d13_11) (fun _ _ => ⟨rfl, e1q, (by decide : 0 + 0 ≤ _), (by decide : 0 + 0 ≤ _)⟩)
    dsimp only [Pt.U, Pt.locs, Pt.cells, Pt.slots] at X4 l4 y4 z4 st4 hQ4
    subst l4 y4 z4
    obtain ⟨rfl, N4q, e4q⟩ := hQ4
    have N4 := Fr.app N1 N4q
    obtain ⟨cl5, Ar5, Sz5, Nn5, -⟩ := id V_o0
    obtain ⟨_, _, ⟨T6, L6, k6, n6⟩, -, X6, ⟨Lc6, hQ6, l6, y6, z6⟩, st6⟩ := Jvm.LawKit.callS X4 hx (y := (⟨"java/lang/Math", "min", "(II)I"⟩ : MethodName)) hown (mvT hZ (hw _ (List.mem_of_getElem? (i := 69) rfl))) (mvT hZ (hw _ (List.mem_of_getElem? (i := 70) rfl))) (mvT hZ (hw _ (List.mem_of_getElem? (i := 67) rfl))) (mvT hZ (hw _ (List.mem_of_getElem? (i := 71) rfl))) (by decide) (backOf (W := 0) (rm16 l Z a0 hw []  h0 n0 Z0 ) hZ (hw _ (List.mem_of_getElem? (i := 71) rfl)) (hw _ (List.mem_of_getElem? (i := 67) rfl)) (by decide) (by decide)) (g := (mkF m 18 #[.val (.ref o0), .val (.int p1), .val (.int p2), .val (.int (4 : Int32))] [(.int (4 : Int32)), (.int (4 : Int32))])) rfl (by rw [hml]; rfl) (argsL := [(.int (4 : Int32)), (.int (4 : Int32))]) (rest := []) (lenOf pd_13_1 rfl) rfl (by show 2 * 0 + _ ≤ _; exact Nat.le_of_eq rfl) (hb hby d13_18) (fun _ _ => ⟨rfl, e4q, (by decide : 0 + 0 ≤ _), (by decide : 0 + 0 ≤ _)⟩)
    dsimp only [Pt.U, Pt.locs, Pt.cells, Pt.slots] at X6 l6 y6 z6 st6 hQ6
    subst l6 y6 z6
    obtain ⟨rfl, N6q, e6q⟩ := hQ6
    have N6 := Fr.app N4 N6q
    have pre7 : ∀ t, Steps p.tables e below (T6.setTop (mkF m 24 #[.val (.ref o0), .val (.int p1), .val (.int p2), .val (.int (4 : Int32))] [(.int (4 : Int32)), (.int p2)])) t → Steps p.tables e below (s₁.setTop (entryFrame m #[(.ref o0), (.int p1), (.int p2), (.int (4 : Int32))] 4)) t := fun t kt => pre2 t (by
        show Steps p.tables e below (T1.setTop (mkF m 4 #[.val (.ref o0), .val (.int p1), .val (.int p2), .val (.int (4 : Int32))] [(.int (f14 p1))])) _
        refine XS.ifYes X1.here hx rfl (pc0 := 4) (pc' := 9) rfl (hb hby d13_4) rfl ((if0 _ _).trans (feq hc4_3).2) (by decide) (by decide) ?_
        show Steps p.tables e below (T1.setTop (mkF m 9 #[.val (.ref o0), .val (.int p1), .val (.int p2), .val (.int (4 : Int32))] [])) _
        refine XS.iloadN X1.here hx rfl (hb hby d13_9) rfl ?_
        show Steps p.tables e below (T1.setTop (mkF m 10 #[.val (.ref o0), .val (.int p1), .val (.int p2), .val (.int (4 : Int32))] [(.int p2)])) _
        refine XS.iconst X1.here hx rfl (hb hby d13_10) ?_
        show Steps p.tables e below (T1.setTop (mkF m 11 #[.val (.ref o0), .val (.int p1), .val (.int p2), .val (.int (4 : Int32))] [(.int (0 : Int32)), (.int p2)])) _
        refine st4 _ ?_
        show Steps p.tables e below (T4.setTop (mkF m 14 #[.val (.ref o0), .val (.int p1), .val (.int p2), .val (.int (4 : Int32))] [(.int p2)])) _
        refine XS.istoreN X4.here hx rfl (hb hby d13_14) rfl (l' := #[.val (.ref o0), .val (.int p1), .val (.int p2), .val (.int (4 : Int32))]) rfl ?_
        show Steps p.tables e below (T4.setTop (mkF m 15 #[.val (.ref o0), .val (.int p1), .val (.int p2), .val (.int (4 : Int32))] [])) _
        refine XS.iloadN X4.here hx rfl (hb hby d13_15) rfl ?_
        show Steps p.tables e below (T4.setTop (mkF m 16 #[.val (.ref o0), .val (.int p1), .val (.int p2), .val (.int (4 : Int32))] [(.int (4 : Int32))])) _
        refine XS.aloadN X4.here hx rfl (hb hby d13_16) rfl rfl ?_
        show Steps p.tables e below (T4.setTop (mkF m 17 #[.val (.ref o0), .val (.int p1), .val (.int p2), .val (.int (4 : Int32))] [(.ref o0), (.int (4 : Int32))])) _
        refine X4.arraylength hx (by rw [e4q]; exact Ar5.1) (State.isArrayOf_alike hZ.alike Ar5.2.1) (g := (mkF m 17 #[.val (.ref o0), .val (.int p1), .val (.int p2), .val (.int (4 : Int32))] [(.ref o0), (.int (4 : Int32))])) rfl rfl (hb hby d13_17) _ ?_
        rw [len_of Sz5 Nn5]
        show Steps p.tables e below (T4.setTop (mkF m 18 #[.val (.ref o0), .val (.int p1), .val (.int p2), .val (.int (4 : Int32))] [(.int (4 : Int32)), (.int (4 : Int32))])) _
        refine st6 _ ?_
        show Steps p.tables e below (T6.setTop (mkF m 21 #[.val (.ref o0), .val (.int p1), .val (.int p2), .val (.int (4 : Int32))] [(.int (4 : Int32))])) _
        refine XS.istoreN X6.here hx rfl (hb hby d13_21) rfl (l' := #[.val (.ref o0), .val (.int p1), .val (.int p2), .val (.int (4 : Int32))]) rfl ?_
        show Steps p.tables e below (T6.setTop (mkF m 22 #[.val (.ref o0), .val (.int p1), .val (.int p2), .val (.int (4 : Int32))] [])) _
        refine XS.iloadN X6.here hx rfl (hb hby d13_22) rfl ?_
        show Steps p.tables e below (T6.setTop (mkF m 23 #[.val (.ref o0), .val (.int p1), .val (.int p2), .val (.int (4 : Int32))] [(.int p2)])) _
        refine XS.iloadN X6.here hx rfl (hb hby d13_23) rfl ?_
        exact kt)
    by_cases hc24_8 : p2 < (4 : Int32)
    · obtain ⟨_, _, ⟨T9, L9, k9, n9⟩, -, X9, ⟨Lc9, hQ9, l9, y9, z9⟩, st9⟩ := Jvm.LawKit.callS X6 hx (y := (⟨"java/lang/StringLatin1", "indexOfChar", "([BIII)I"⟩ : MethodName)) hown (mvT hZ (hw _ (List.mem_of_getElem? (i := 72) rfl))) (mvT hZ (hw _ (List.mem_of_getElem? (i := 73) rfl))) (mvT hZ (hw _ (List.mem_of_getElem? (i := 60) rfl))) (mvT hZ (hw _ (List.mem_of_getElem? (i := 74) rfl))) (by decide) (backOf (W := 0) (rm17 l Z a0 hw [] o0 p1 p2 F h0 n0 Z0 V_o0 (⟨hn, hc24_8⟩)) hZ (hw _ (List.mem_of_getElem? (i := 74) rfl)) (hw _ (List.mem_of_getElem? (i := 60) rfl)) (by decide) (by decide)) (g := (mkF m 33 #[.val (.ref o0), .val (.int p1), .val (.int p2), .val (.int (4 : Int32))] [(.int (4 : Int32)), (.int p2), (.int p1), (.ref o0)])) rfl (by rw [hml]; rfl) (argsL := [(.ref o0), (.int p1), (.int p2), (.int (4 : Int32))]) (rest := []) (lenOf pd_13_2 rfl) rfl (by show 2 * 0 + _ ≤ _; exact Nat.le_of_eq rfl) (hb hby d13_33) (fun _ _ => ⟨rfl, e6q, (by decide : 0 + 0 ≤ _), (by decide : 0 + 0 ≤ _)⟩)
      dsimp only [Pt.U, Pt.locs, Pt.cells, Pt.slots] at X9 l9 y9 z9 st9 hQ9
      subst l9 y9 z9
      obtain ⟨rfl, N9q, e9q⟩ := hQ9
      have N9 := Fr.app N6 N9q
      obtain ⟨fs, hr, hrun, hended, hW, hsame⟩ := X9.leave (v := some (.int (f17 p1 p2 F))) (fun h => by rw [Bd.returns] at h; cases h)
      have hv11 : (f13 p1 p2 F) = (f17 p1 p2 F) := by rw [f13, if_neg hc4_3, if_pos hc24_8]
      refine ⟨_, _, pre7 _ ?_, hrun, hended, _, _, rfl, ?_, ⟨_, rfl⟩, hW, hsame.mono (by decide) (by decide)⟩
      · show Steps p.tables e below (T6.setTop (mkF m 24 #[.val (.ref o0), .val (.int p1), .val (.int p2), .val (.int (4 : Int32))] [(.int (4 : Int32)), (.int p2)])) _
        refine XS.icmpYes X6.here hx rfl (pc0 := 24) (pc' := 29) rfl (hb hby d13_24) rfl (tlt hc24_8).1 (by decide) (by decide) ?_
        show Steps p.tables e below (T6.setTop (mkF m 29 #[.val (.ref o0), .val (.int p1), .val (.int p2), .val (.int (4 : Int32))] [])) _
        refine XS.aloadN X6.here hx rfl (hb hby d13_29) rfl rfl ?_
        show Steps p.tables e below (T6.setTop (mkF m 30 #[.val (.ref o0), .val (.int p1), .val (.int p2), .val (.int (4 : Int32))] [(.ref o0)])) _
        refine XS.iloadN X6.here hx rfl (hb hby d13_30) rfl ?_
        show Steps p.tables e below (T6.setTop (mkF m 31 #[.val (.ref o0), .val (.int p1), .val (.int p2), .val (.int (4 : Int32))] [(.int p1), (.ref o0)])) _
        refine XS.iloadN X6.here hx rfl (hb hby d13_31) rfl ?_
        show Steps p.tables e below (T6.setTop (mkF m 32 #[.val (.ref o0), .val (.int p1), .val (.int p2), .val (.int (4 : Int32))] [(.int p2), (.int p1), (.ref o0)])) _
        refine XS.iloadN X6.here hx rfl (hb hby d13_32) rfl ?_
        show Steps p.tables e below (T6.setTop (mkF m 33 #[.val (.ref o0), .val (.int p1), .val (.int p2), .val (.int (4 : Int32))] [(.int (4 : Int32)), (.int p2), (.int p1), (.ref o0)])) _
        refine st9 _ ?_
        show Steps p.tables e below (T9.setTop (mkF m 36 #[.val (.ref o0), .val (.int p1), .val (.int p2), .val (.int (4 : Int32))] [(.int (f17 p1 p2 F))])) _
        exact retI X9 hx Bd.returns (hb hby d13_36) hr
      · show Q13 Z o0 p1 p2 F h0 n0 _ T9.heap _
        rw [e9q]
        exact ⟨congrArg (fun q => some (Value.int q)) hv11.symm, N9, rfl⟩
    · obtain ⟨fs, hr, hrun, hended, hW, hsame⟩ := X6.leave (v := some (.int (-1 : Int32))) (fun h => by rw [Bd.returns] at h; cases h)
      have hv12 : (f13 p1 p2 F) = (-1 : Int32) := by rw [f13, if_neg hc4_3, if_neg hc24_8]
      refine ⟨_, _, pre7 _ ?_, hrun, hended, _, _, rfl, ?_, ⟨_, rfl⟩, hW, hsame.mono (by decide) (by decide)⟩
      · show Steps p.tables e below (T6.setTop (mkF m 24 #[.val (.ref o0), .val (.int p1), .val (.int p2), .val (.int (4 : Int32))] [(.int (4 : Int32)), (.int p2)])) _
        refine XS.icmpNo X6.here hx rfl (hb hby d13_24) rfl (flt hc24_8).1 ?_
        show Steps p.tables e below (T6.setTop (mkF m 27 #[.val (.ref o0), .val (.int p1), .val (.int p2), .val (.int (4 : Int32))] [])) _
        refine XS.iconst X6.here hx rfl (hb hby d13_27) ?_
        show Steps p.tables e below (T6.setTop (mkF m 28 #[.val (.ref o0), .val (.int p1), .val (.int p2), .val (.int (4 : Int32))] [(.int (-1 : Int32))])) _
        exact retI X6 hx Bd.returns (hb hby d13_28) hr
      · show Q13 Z o0 p1 p2 F h0 n0 _ T6.heap _
        rw [e6q]
        exact ⟨congrArg (fun q => some (Value.int q)) hv12.symm, N6, rfl⟩
theorem d29_0 : decode jdk_52_method_48_code 0 = .ok (.iload_n 2, 1) := by decide +kernel
theorem d29_1 : decode jdk_52_method_48_code 1 = .ok (.istore 4, 2) := by decide +kernel
theorem d29_3 : decode jdk_52_method_48_code 3 = .ok (.iload 4, 2) := by decide +kernel
theorem d29_5 : decode jdk_52_method_48_code 5 = .ok (.iload_n 3, 1) := by decide +kernel
theorem d29_6 : decode jdk_52_method_48_code 6 = .ok (.if_icmp .ge 22, 3) := by decide +kernel
theorem d29_9 : decode jdk_52_method_48_code 9 = .ok (.aload_n 0, 1) := by decide +kernel
theorem d29_10 : decode jdk_52_method_48_code 10 = .ok (.iload 4, 2) := by decide +kernel
theorem d29_12 : decode jdk_52_method_48_code 12 = .ok (.invokestatic 71, 3) := by decide +kernel
theorem d29_15 : decode jdk_52_method_48_code 15 = .ok (.iload_n 1, 1) := by decide +kernel
theorem d29_16 : decode jdk_52_method_48_code 16 = .ok (.if_icmp .ne 6, 3) := by decide +kernel
theorem d29_19 : decode jdk_52_method_48_code 19 = .ok (.iload 4, 2) := by decide +kernel
theorem d29_21 : decode jdk_52_method_48_code 21 = .ok (.ireturn, 1) := by decide +kernel
theorem d29_22 : decode jdk_52_method_48_code 22 = .ok (.iinc 4 1, 3) := by decide +kernel
theorem d29_25 : decode jdk_52_method_48_code 25 = .ok (.goto (-22), 3) := by decide +kernel
theorem d29_28 : decode jdk_52_method_48_code 28 = .ok (.iconst (-1), 1) := by decide +kernel
theorem d29_29 : decode jdk_52_method_48_code 29 = .ok (.ireturn, 1) := by decide +kernel
theorem pn_29 : plainName "java/lang/StringUTF16" = true := by first | (simp [plainName, overriddenIn]; done) | decide +kernel
theorem pd_29_0 : parseMethodDescriptor "([BI)C" = some ⟨[(.array .byte), .int], some .char⟩ := by decide +kernel
theorem ef_29 (m : MethodId) (x0 : Addr) (x1 : Int32) (x2 : Int32) (x3 : Int32) : entryFrame m #[(.ref x0), (.int x1), (.int x2), (.int x3)] 5 = mkF m 0 #[.val (.ref x0), .val (.int x1), .val (.int x2), .val (.int x3), .unset] [] := by first | (simp [entryFrame, mkF, argsToLocals, Value.category]; done) | rfl
def f29 (p1 : Int32) (p2 : Int32) (F : Nat → Int32) : Int32 :=
  if (f22 p2 F) = p1 then (p2) else
  (if (p2 + (1 : Int32)) < (4 : Int32) then (if (f22 (p2 + (1 : Int32)) F) = p1 then ((p2 + (1 : Int32))) else
  (if ((p2 + (1 : Int32)) + (1 : Int32)) < (4 : Int32) then (if (f22 ((p2 + (1 : Int32)) + (1 : Int32)) F) = p1 then (((p2 + (1 : Int32)) + (1 : Int32))) else
  (if (((p2 + (1 : Int32)) + (1 : Int32)) + (1 : Int32)) < (4 : Int32) then (if (f22 (((p2 + (1 : Int32)) + (1 : Int32)) + (1 : Int32)) F) = p1 then ((((p2 + (1 : Int32)) + (1 : Int32)) + (1 : Int32))) else
  ((-1 : Int32))) else
  ((-1 : Int32)))) else
  ((-1 : Int32)))) else
  ((-1 : Int32)))
def Q29 (Z : State) (o0 : Addr) (p1 : Int32) (p2 : Int32) (F : Nat → Int32) (h0 : Heap) (n0 : Nat) (v : Option Value) (h : Heap) (L : List Loc) : Prop := v = some (.int (f29 p1 p2 F)) ∧ Fr n0 L ∧ h = h0
set_option maxRecDepth 65536 in
set_option maxHeartbeats 40000000 in
theorem rm29 (l : Launch) (Z : State) (a0 : Array Value) (hw : ∀ d ∈ tables_1, d.before a0 Z = true) (ws : List Jvm.Cond) (o0 : Addr) (p1 : Int32) (p2 : Int32) (F : Nat → Int32) (h0 : Heap) (n0 : Nat) (Z0 : n0 ≤ h0.size) (S__assertionsDisabled : Sta Z h0 "java/lang/StringUTF16" "$assertionsDisabled" "Z" (.int (1 : Int32))) (S_HI_BYTE_SHIFT : Sta Z h0 "java/lang/StringUTF16" "HI_BYTE_SHIFT" "I" (.int (0 : Int32))) (S_LO_BYTE_SHIFT : Sta Z h0 "java/lang/StringUTF16" "LO_BYTE_SHIFT" "I" (.int (8 : Int32))) (V_o0 : own_AI Z h0 o0 .byte (8 : Int32) F) (h : ¬ p2 < 0 ∧ p2 < (4 : Int32)) :
    MetFree l (⟨"java/lang/StringUTF16", "indexOfCharUnsafe", "([BIII)I"⟩ : MethodName) (head1 (Jvm.Cond.code (⟨"java/lang/StringUTF16", "indexOfCharUnsafe", "([BIII)I"⟩ : MethodName) jdk_52_method_48_code 5 (some .int) :: ws) ({ frames := 1, cells := 0, slots := 0, locals := 13 } : Room)) (fun a U => a = #[(.ref o0), (.int p1), (.int p2), (.int (4 : Int32))] ∧ Z.Warmed39 U.vm ∧ U.heap = h0) (fun _ _ _ _ _ => True) (fun _ U o U' => ∃ v L, o = .returned v ∧ Q29 Z o0 p1 p2 F h0 n0 v U'.heap L ∧ FrameEnd U o U' L ({ frames := 1, cells := 0, slots := 0, locals := 13 } : Room).cells ({ frames := 1, cells := 0, slots := 0, locals := 13 } : Room).slots) := by
  refine MetFree.of_bodySF (plainFor_of_name pn_29) hisR ?_
  intro p e s m args below meth c s₁ Bd hml0 hP hK
  obtain ⟨rfl, hZ, hh⟩ := hP
  have hx := Bd.exec
  have hby := Bd.bytes
  have hml : c.maxLocals = 5 := hml0
  have hown : s.vm.findClass "java/lang/StringUTF16" = some m.cls := findClass_of_methodNamed Bd.named
  have hnm := (name_of_methodNamed Bd.named Bd.method).1
  have X0 : Stand p l e ({ frames := 1, cells := 0, slots := 0, locals := 13 } : Room) s m #[(.ref o0), (.int p1), (.int p2), (.int (4 : Int32))] below meth c s₁ [] 0 0 := Stand.of_body Bd
  have e0 : s₁.heap = h0 := by rw [← hh, Bd.state]; rfl
  have N0 := Fr.nil n0
  have pre0 : ∀ t, Steps p.tables e below (s₁.setTop (mkF m 0 #[.val (.ref o0), .val (.int p1), .val (.int p2), .val (.int (4 : Int32)), .unset] [])) t → Steps p.tables e below (s₁.setTop (entryFrame m #[(.ref o0), (.int p1), (.int p2), (.int (4 : Int32))] 5)) t := fun t k => castTop (ef_29 m o0 p1 p2 (4 : Int32)) k
  have pre1 : ∀ t, Steps p.tables e below (s₁.setTop (mkF m 6 #[.val (.ref o0), .val (.int p1), .val (.int p2), .val (.int (4 : Int32)), .val (.int p2)] [(.int (4 : Int32)), (.int p2)])) t → Steps p.tables e below (s₁.setTop (entryFrame m #[(.ref o0), (.int p1), (.int p2), (.int (4 : Int32))] 5)) t := fun t kt => pre0 t (by
      show Steps p.tables e below (s₁.setTop (mkF m 0 #[.val (.ref o0), .val (.int p1), .val (.int p2), .val (.int (4 : Int32)), .unset] [])) _
      refine XS.iloadN X0.here hx rfl (hb hby d29_0) rfl ?_
      show Steps p.tables e below (s₁.setTop (mkF m 1 #[.val (.ref o0), .val (.int p1), .val (.int p2), .val (.int (4 : Int32)), .unset] [(.int p2)])) _
      refine XS.istore X0.here hx rfl (hb hby d29_1) rfl (l' := #[.val (.ref o0), .val (.int p1), .val (.int p2), .val (.int (4 : Int32)), .val (.int p2)]) rfl ?_
      show Steps p.tables e below (s₁.setTop (mkF m 3 #[.val (.ref o0), .val (.int p1), .val (.int p2), .val (.int (4 : Int32)), .val (.int p2)] [])) _
      refine XS.iload X0.here hx rfl (hb hby d29_3) rfl ?_
      show Steps p.tables e below (s₁.setTop (mkF m 5 #[.val (.ref o0), .val (.int p1), .val (.int p2), .val (.int (4 : Int32)), .val (.int p2)] [(.int p2)])) _
      refine XS.iloadN X0.here hx rfl (hb hby d29_5) rfl ?_
      exact kt)
  have hd6_2 : p2 < (4 : Int32) := h.2
  obtain ⟨_, _, ⟨T3, L3, k3, n3⟩, -, X3, ⟨Lc3, hQ3, l3, y3, z3⟩, st3⟩ := Jvm.LawKit.callS X0 hx (y := (⟨"java/lang/StringUTF16", "getChar", "([BI)C"⟩ : MethodName)) hown (mvT hZ (hw _ (List.mem_of_getElem? (i := 91) rfl))) (mvT hZ (hw _ (List.mem_of_getElem? (i := 92) rfl))) (mvT hZ (hw _ (List.mem_of_getElem? (i := 17) rfl))) (mvT hZ (hw _ (List.mem_of_getElem? (i := 93) rfl))) (by decide) (backOf (W := 0) (rm22 l Z a0 hw [] o0 p2 F h0 n0 Z0 S__assertionsDisabled S_HI_BYTE_SHIFT S_LO_BYTE_SHIFT V_o0 (h)) hZ (hw _ (List.mem_of_getElem? (i := 93) rfl)) (hw _ (List.mem_of_getElem? (i := 17) rfl)) (by decide) (by decide)) (g := (mkF m 12 #[.val (.ref o0), .val (.int p1), .val (.int p2), .val (.int (4 : Int32)), .val (.int p2)] [(.int p2), (.ref o0)])) rfl (by rw [hml]; rfl) (argsL := [(.ref o0), (.int p2)]) (rest := []) (lenOf pd_29_0 rfl) rfl (by show 2 * 0 + _ ≤ _; exact Nat.le_of_eq rfl) (hb hby d29_12) (fun _ _ => ⟨rfl, e0, (by decide : 0 + 0 ≤ _), (by decide : 0 + 0 ≤ _)⟩)
  dsimp only [Pt.U, Pt.locs, Pt.cells, Pt.slots] at X3 l3 y3 z3 st3 hQ3
  subst l3 y3 z3
  obtain ⟨rfl, N3q, e3q⟩ := hQ3
  have N3 := Fr.app N0 N3q
  have pre4 : ∀ t, Steps p.tables e below (T3.setTop (mkF m 16 #[.val (.ref o0), .val (.int p1), .val (.int p2), .val (.int (4 : Int32)), .val (.int p2)] [(.int p1), (.int (f22 p2 F))])) t → Steps p.tables e below (s₁.setTop (entryFrame m #[(.ref o0), (.int p1), (.int p2), (.int (4 : Int32))] 5)) t := fun t kt => pre1 t (by
      show Steps p.tables e below (s₁.setTop (mkF m 6 #[.val (.ref o0), .val (.int p1), .val (.int p2), .val (.int (4 : Int32)), .val (.int p2)] [(.int (4 : Int32)), (.int p2)])) _
      refine XS.icmpNo X0.here hx rfl (hb hby d29_6) rfl (tlt hd6_2).2.1 ?_
      show Steps p.tables e below (s₁.setTop (mkF m 9 #[.val (.ref o0), .val (.int p1), .val (.int p2), .val (.int (4 : Int32)), .val (.int p2)] [])) _
      refine XS.aloadN X0.here hx rfl (hb hby d29_9) rfl rfl ?_
      show Steps p.tables e below (s₁.setTop (mkF m 10 #[.val (.ref o0), .val (.int p1), .val (.int p2), .val (.int (4 : Int32)), .val (.int p2)] [(.ref o0)])) _
      refine XS.iload X0.here hx rfl (hb hby d29_10) rfl ?_
      show Steps p.tables e below (s₁.setTop (mkF m 12 #[.val (.ref o0), .val (.int p1), .val (.int p2), .val (.int (4 : Int32)), .val (.int p2)] [(.int p2), (.ref o0)])) _
      refine st3 _ ?_
      show Steps p.tables e below (T3.setTop (mkF m 15 #[.val (.ref o0), .val (.int p1), .val (.int p2), .val (.int (4 : Int32)), .val (.int p2)] [(.int (f22 p2 F))])) _
      refine XS.iloadN X3.here hx rfl (hb hby d29_15) rfl ?_
      exact kt)
  by_cases hc16_5 : (f22 p2 F) = p1
  · obtain ⟨fs, hr, hrun, hended, hW, hsame⟩ := X3.leave (v := some (.int p2)) (fun h => by rw [Bd.returns] at h; cases h)
    have hv23 : (f29 p1 p2 F) = p2 := by rw [f29, if_pos hc16_5]
    refine ⟨_, _, pre4 _ ?_, hrun, hended, _, _, rfl, ?_, ⟨_, rfl⟩, hW, hsame.mono (by decide) (by decide)⟩
    · show Steps p.tables e below (T3.setTop (mkF m 16 #[.val (.ref o0), .val (.int p1), .val (.int p2), .val (.int (4 : Int32)), .val (.int p2)] [(.int p1), (.int (f22 p2 F))])) _
      refine XS.icmpNo X3.here hx rfl (hb hby d29_16) rfl (teq hc16_5).2 ?_
      show Steps p.tables e below (T3.setTop (mkF m 19 #[.val (.ref o0), .val (.int p1), .val (.int p2), .val (.int (4 : Int32)), .val (.int p2)] [])) _
      refine XS.iload X3.here hx rfl (hb hby d29_19) rfl ?_
      show Steps p.tables e below (T3.setTop (mkF m 21 #[.val (.ref o0), .val (.int p1), .val (.int p2), .val (.int (4 : Int32)), .val (.int p2)] [(.int p2)])) _
      exact retI X3 hx Bd.returns (hb hby d29_21) hr
    · show Q29 Z o0 p1 p2 F h0 n0 _ T3.heap _
      rw [e3q]
      exact ⟨congrArg (fun q => some (Value.int q)) hv23.symm, N3, rfl⟩
  · have pre6 : ∀ t, Steps p.tables e below (T3.setTop (mkF m 6 #[.val (.ref o0), .val (.int p1), .val (.int p2), .val (.int (4 : Int32)), .val (.int (p2 + (1 : Int32)))] [(.int (4 : Int32)), (.int (p2 + (1 : Int32)))])) t → Steps p.tables e below (s₁.setTop (entryFrame m #[(.ref o0), (.int p1), (.int p2), (.int (4 : Int32))] 5)) t := fun t kt => pre4 t (by
        show Steps p.tables e below (T3.setTop (mkF m 16 #[.val (.ref o0), .val (.int p1), .val (.int p2), .val (.int (4 : Int32)), .val (.int p2)] [(.int p1), (.int (f22 p2 F))])) _
        refine XS.icmpYes X3.here hx rfl (pc0 := 16) (pc' := 22) rfl (hb hby d29_16) rfl (feq hc16_5).2 (by decide) (by decide) ?_
        show Steps p.tables e below (T3.setTop (mkF m 22 #[.val (.ref o0), .val (.int p1), .val (.int p2), .val (.int (4 : Int32)), .val (.int p2)] [])) _
        refine XS.iinc X3.here hx rfl (hb hby d29_22) rfl (l' := #[.val (.ref o0), .val (.int p1), .val (.int p2), .val (.int (4 : Int32)), .val (.int (p2 + (1 : Int32)))]) rfl ?_
        show Steps p.tables e below (T3.setTop (mkF m 25 #[.val (.ref o0), .val (.int p1), .val (.int p2), .val (.int (4 : Int32)), .val (.int (p2 + (1 : Int32)))] [])) _
        refine XS.goto X3.here hx rfl (pc0 := 25) (pc' := 3) rfl (hb hby d29_25) (by decide) (by decide) ?_
        show Steps p.tables e below (T3.setTop (mkF m 3 #[.val (.ref o0), .val (.int p1), .val (.int p2), .val (.int (4 : Int32)), .val (.int (p2 + (1 : Int32)))] [])) _
        refine XS.iload X3.here hx rfl (hb hby d29_3) rfl ?_
        show Steps p.tables e below (T3.setTop (mkF m 5 #[.val (.ref o0), .val (.int p1), .val (.int p2), .val (.int (4 : Int32)), .val (.int (p2 + (1 : Int32)))] [(.int (p2 + (1 : Int32)))])) _
        refine XS.iloadN X3.here hx rfl (hb hby d29_5) rfl ?_
        exact kt)
    by_cases hc6_7 : (p2 + (1 : Int32)) < (4 : Int32)
    · obtain ⟨_, _, ⟨T8, L8, k8, n8⟩, -, X8, ⟨Lc8, hQ8, l8, y8, z8⟩, st8⟩ := Jvm.LawKit.callS X3 hx (y := (⟨"java/lang/StringUTF16", "getChar", "([BI)C"⟩ : MethodName)) hown (mvT hZ (hw _ (List.mem_of_getElem? (i := 91) rfl))) (mvT hZ (hw _ (List.mem_of_getElem? (i := 92) rfl))) (mvT hZ (hw _ (List.mem_of_getElem? (i := 17) rfl))) (mvT hZ (hw _ (List.mem_of_getElem? (i := 93) rfl))) (by decide) (backOf (W := 0) (rm22 l Z a0 hw [] o0 (p2 + (1 : Int32)) F h0 n0 Z0 S__assertionsDisabled S_HI_BYTE_SHIFT S_LO_BYTE_SHIFT V_o0 ((own_b1 h hc6_7))) hZ (hw _ (List.mem_of_getElem? (i := 93) rfl)) (hw _ (List.mem_of_getElem? (i := 17) rfl)) (by decide) (by decide)) (g := (mkF m 12 #[.val (.ref o0), .val (.int p1), .val (.int p2), .val (.int (4 : Int32)), .val (.int (p2 + (1 : Int32)))] [(.int (p2 + (1 : Int32))), (.ref o0)])) rfl (by rw [hml]; rfl) (argsL := [(.ref o0), (.int (p2 + (1 : Int32)))]) (rest := []) (lenOf pd_29_0 rfl) rfl (by show 2 * 0 + _ ≤ _; exact Nat.le_of_eq rfl) (hb hby d29_12) (fun _ _ => ⟨rfl, e3q, (by decide : 0 + 0 ≤ _), (by decide : 0 + 0 ≤ _)⟩)
      dsimp only [Pt.U, Pt.locs, Pt.cells, Pt.slots] at X8 l8 y8 z8 st8 hQ8
      subst l8 y8 z8
      obtain ⟨rfl, N8q, e8q⟩ := hQ8
      have N8 := Fr.app N3 N8q
      have pre9 : ∀ t, Steps p.tables e below (T8.setTop (mkF m 16 #[.val (.ref o0), .val (.int p1), .val (.int p2), .val (.int (4 : Int32)), .val (.int (p2 + (1 : Int32)))] [(.int p1), (.int (f22 (p2 + (1 : Int32)) F))])) t → Steps p.tables e below (s₁.setTop (entryFrame m #[(.ref o0), (.int p1), (.int p2), (.int (4 : Int32))] 5)) t := fun t kt => pre6 t (by
          show Steps p.tables e below (T3.setTop (mkF m 6 #[.val (.ref o0), .val (.int p1), .val (.int p2), .val (.int (4 : Int32)), .val (.int (p2 + (1 : Int32)))] [(.int (4 : Int32)), (.int (p2 + (1 : Int32)))])) _
          refine XS.icmpNo X3.here hx rfl (hb hby d29_6) rfl (tlt hc6_7).2.1 ?_
          show Steps p.tables e below (T3.setTop (mkF m 9 #[.val (.ref o0), .val (.int p1), .val (.int p2), .val (.int (4 : Int32)), .val (.int (p2 + (1 : Int32)))] [])) _
          refine XS.aloadN X3.here hx rfl (hb hby d29_9) rfl rfl ?_
          show Steps p.tables e below (T3.setTop (mkF m 10 #[.val (.ref o0), .val (.int p1), .val (.int p2), .val (.int (4 : Int32)), .val (.int (p2 + (1 : Int32)))] [(.ref o0)])) _
          refine XS.iload X3.here hx rfl (hb hby d29_10) rfl ?_
          show Steps p.tables e below (T3.setTop (mkF m 12 #[.val (.ref o0), .val (.int p1), .val (.int p2), .val (.int (4 : Int32)), .val (.int (p2 + (1 : Int32)))] [(.int (p2 + (1 : Int32))), (.ref o0)])) _
          refine st8 _ ?_
          show Steps p.tables e below (T8.setTop (mkF m 15 #[.val (.ref o0), .val (.int p1), .val (.int p2), .val (.int (4 : Int32)), .val (.int (p2 + (1 : Int32)))] [(.int (f22 (p2 + (1 : Int32)) F))])) _
          refine XS.iloadN X8.here hx rfl (hb hby d29_15) rfl ?_
          exact kt)
      by_cases hc16_10 : (f22 (p2 + (1 : Int32)) F) = p1
      · obtain ⟨fs, hr, hrun, hended, hW, hsame⟩ := X8.leave (v := some (.int (p2 + (1 : Int32)))) (fun h => by rw [Bd.returns] at h; cases h)
        have hv24 : (f29 p1 p2 F) = (p2 + (1 : Int32)) := by rw [f29, if_neg hc16_5, if_pos hc6_7, if_pos hc16_10]
        refine ⟨_, _, pre9 _ ?_, hrun, hended, _, _, rfl, ?_, ⟨_, rfl⟩, hW, hsame.mono (by decide) (by decide)⟩
        · show Steps p.tables e below (T8.setTop (mkF m 16 #[.val (.ref o0), .val (.int p1), .val (.int p2), .val (.int (4 : Int32)), .val (.int (p2 + (1 : Int32)))] [(.int p1), (.int (f22 (p2 + (1 : Int32)) F))])) _
          refine XS.icmpNo X8.here hx rfl (hb hby d29_16) rfl (teq hc16_10).2 ?_
          show Steps p.tables e below (T8.setTop (mkF m 19 #[.val (.ref o0), .val (.int p1), .val (.int p2), .val (.int (4 : Int32)), .val (.int (p2 + (1 : Int32)))] [])) _
          refine XS.iload X8.here hx rfl (hb hby d29_19) rfl ?_
          show Steps p.tables e below (T8.setTop (mkF m 21 #[.val (.ref o0), .val (.int p1), .val (.int p2), .val (.int (4 : Int32)), .val (.int (p2 + (1 : Int32)))] [(.int (p2 + (1 : Int32)))])) _
          exact retI X8 hx Bd.returns (hb hby d29_21) hr
        · show Q29 Z o0 p1 p2 F h0 n0 _ T8.heap _
          rw [e8q]
          exact ⟨congrArg (fun q => some (Value.int q)) hv24.symm, N8, rfl⟩
      · have pre11 : ∀ t, Steps p.tables e below (T8.setTop (mkF m 6 #[.val (.ref o0), .val (.int p1), .val (.int p2), .val (.int (4 : Int32)), .val (.int ((p2 + (1 : Int32)) + (1 : Int32)))] [(.int (4 : Int32)), (.int ((p2 + (1 : Int32)) + (1 : Int32)))])) t → Steps p.tables e below (s₁.setTop (entryFrame m #[(.ref o0), (.int p1), (.int p2), (.int (4 : Int32))] 5)) t := fun t kt => pre9 t (by
            show Steps p.tables e below (T8.setTop (mkF m 16 #[.val (.ref o0), .val (.int p1), .val (.int p2), .val (.int (4 : Int32)), .val (.int (p2 + (1 : Int32)))] [(.int p1), (.int (f22 (p2 + (1 : Int32)) F))])) _
            refine XS.icmpYes X8.here hx rfl (pc0 := 16) (pc' := 22) rfl (hb hby d29_16) rfl (feq hc16_10).2 (by decide) (by decide) ?_
            show Steps p.tables e below (T8.setTop (mkF m 22 #[.val (.ref o0), .val (.int p1), .val (.int p2), .val (.int (4 : Int32)), .val (.int (p2 + (1 : Int32)))] [])) _
            refine XS.iinc X8.here hx rfl (hb hby d29_22) rfl (l' := #[.val (.ref o0), .val (.int p1), .val (.int p2), .val (.int (4 : Int32)), .val (.int ((p2 + (1 : Int32)) + (1 : Int32)))]) rfl ?_
            show Steps p.tables e below (T8.setTop (mkF m 25 #[.val (.ref o0), .val (.int p1), .val (.int p2), .val (.int (4 : Int32)), .val (.int ((p2 + (1 : Int32)) + (1 : Int32)))] [])) _
            refine XS.goto X8.here hx rfl (pc0 := 25) (pc' := 3) rfl (hb hby d29_25) (by decide) (by decide) ?_
            show Steps p.tables e below (T8.setTop (mkF m 3 #[.val (.ref o0), .val (.int p1), .val (.int p2), .val (.int (4 : Int32)), .val (.int ((p2 + (1 : Int32)) + (1 : Int32)))] [])) _
            refine XS.iload X8.here hx rfl (hb hby d29_3) rfl ?_
            show Steps p.tables e below (T8.setTop (mkF m 5 #[.val (.ref o0), .val (.int p1), .val (.int p2), .val (.int (4 : Int32)), .val (.int ((p2 + (1 : Int32)) + (1 : Int32)))] [(.int ((p2 + (1 : Int32)) + (1 : Int32)))])) _
            refine XS.iloadN X8.here hx rfl (hb hby d29_5) rfl ?_
            exact kt)
        by_cases hc6_12 : ((p2 + (1 : Int32)) + (1 : Int32)) < (4 : Int32)
        · obtain ⟨_, _, ⟨T13, L13, k13, n13⟩, -, X13, ⟨Lc13, hQ13, l13, y13, z13⟩, st13⟩ := Jvm.LawKit.callS X8 hx (y := (⟨"java/lang/StringUTF16", "getChar", "([BI)C"⟩ : MethodName)) hown (mvT hZ (hw _ (List.mem_of_getElem? (i := 91) rfl))) (mvT hZ (hw _ (List.mem_of_getElem? (i := 92) rfl))) (mvT hZ (hw _ (List.mem_of_getElem? (i := 17) rfl))) (mvT hZ (hw _ (List.mem_of_getElem? (i := 93) rfl))) (by decide) (backOf (W := 0) (rm22 l Z a0 hw [] o0 ((p2 + (1 : Int32)) + (1 : Int32)) F h0 n0 Z0 S__assertionsDisabled S_HI_BYTE_SHIFT S_LO_BYTE_SHIFT V_o0 ((own_b2 h hc6_12))) hZ (hw _ (List.mem_of_getElem? (i := 93) rfl)) (hw _ (List.mem_of_getElem? (i := 17) rfl)) (by decide) (by decide)) (g := (mkF m 12 #[.val (.ref o0), .val (.int p1), .val (.int p2), .val (.int (4 : Int32)), .val (.int ((p2 + (1 : Int32)) + (1 : Int32)))] [(.int ((p2 + (1 : Int32)) + (1 : Int32))), (.ref o0)])) rfl (by rw [hml]; rfl) (argsL := [(.ref o0), (.int ((p2 + (1 : Int32)) + (1 : Int32)))]) (rest := []) (lenOf pd_29_0 rfl) rfl (by show 2 * 0 + _ ≤ _; exact Nat.le_of_eq rfl) (hb hby d29_12) (fun _ _ => ⟨rfl, e8q, (by decide : 0 + 0 ≤ _), (by decide : 0 + 0 ≤ _)⟩)
          dsimp only [Pt.U, Pt.locs, Pt.cells, Pt.slots] at X13 l13 y13 z13 st13 hQ13
          subst l13 y13 z13
          obtain ⟨rfl, N13q, e13q⟩ := hQ13
          have N13 := Fr.app N8 N13q
          have pre14 : ∀ t, Steps p.tables e below (T13.setTop (mkF m 16 #[.val (.ref o0), .val (.int p1), .val (.int p2), .val (.int (4 : Int32)), .val (.int ((p2 + (1 : Int32)) + (1 : Int32)))] [(.int p1), (.int (f22 ((p2 + (1 : Int32)) + (1 : Int32)) F))])) t → Steps p.tables e below (s₁.setTop (entryFrame m #[(.ref o0), (.int p1), (.int p2), (.int (4 : Int32))] 5)) t := fun t kt => pre11 t (by
              show Steps p.tables e below (T8.setTop (mkF m 6 #[.val (.ref o0), .val (.int p1), .val (.int p2), .val (.int (4 : Int32)), .val (.int ((p2 + (1 : Int32)) + (1 : Int32)))] [(.int (4 : Int32)), (.int ((p2 + (1 : Int32)) + (1 : Int32)))])) _
              refine XS.icmpNo X8.here hx rfl (hb hby d29_6) rfl (tlt hc6_12).2.1 ?_
              show Steps p.tables e below (T8.setTop (mkF m 9 #[.val (.ref o0), .val (.int p1), .val (.int p2), .val (.int (4 : Int32)), .val (.int ((p2 + (1 : Int32)) + (1 : Int32)))] [])) _
              refine XS.aloadN X8.here hx rfl (hb hby d29_9) rfl rfl ?_
              show Steps p.tables e below (T8.setTop (mkF m 10 #[.val (.ref o0), .val (.int p1), .val (.int p2), .val (.int (4 : Int32)), .val (.int ((p2 + (1 : Int32)) + (1 : Int32)))] [(.ref o0)])) _
              refine XS.iload X8.here hx rfl (hb hby d29_10) rfl ?_
              show Steps p.tables e below (T8.setTop (mkF m 12 #[.val (.ref o0), .val (.int p1), .val (.int p2), .val (.int (4 : Int32)), .val (.int ((p2 + (1 : Int32)) + (1 : Int32)))] [(.int ((p2 + (1 : Int32)) + (1 : Int32))), (.ref o0)])) _
              refine st13 _ ?_
              show Steps p.tables e below (T13.setTop (mkF m 15 #[.val (.ref o0), .val (.int p1), .val (.int p2), .val (.int (4 : Int32)), .val (.int ((p2 + (1 : Int32)) + (1 : Int32)))] [(.int (f22 ((p2 + (1 : Int32)) + (1 : Int32)) F))])) _
              refine XS.iloadN X13.here hx rfl (hb hby d29_15) rfl ?_
              exact kt)
          by_cases hc16_15 : (f22 ((p2 + (1 : Int32)) + (1 : Int32)) F) = p1
          · obtain ⟨fs, hr, hrun, hended, hW, hsame⟩ := X13.leave (v := some (.int ((p2 + (1 : Int32)) + (1 : Int32)))) (fun h => by rw [Bd.returns] at h; cases h)
            have hv25 : (f29 p1 p2 F) = ((p2 + (1 : Int32)) + (1 : Int32)) := by rw [f29, if_neg hc16_5, if_pos hc6_7, if_neg hc16_10, if_pos hc6_12, if_pos hc16_15]
            refine ⟨_, _, pre14 _ ?_, hrun, hended, _, _, rfl, ?_, ⟨_, rfl⟩, hW, hsame.mono (by decide) (by decide)⟩
            · show Steps p.tables e below (T13.setTop (mkF m 16 #[.val (.ref o0), .val (.int p1), .val (.int p2), .val (.int (4 : Int32)), .val (.int ((p2 + (1 : Int32)) + (1 : Int32)))] [(.int p1), (.int (f22 ((p2 + (1 : Int32)) + (1 : Int32)) F))])) _
              refine XS.icmpNo X13.here hx rfl (hb hby d29_16) rfl (teq hc16_15).2 ?_
              show Steps p.tables e below (T13.setTop (mkF m 19 #[.val (.ref o0), .val (.int p1), .val (.int p2), .val (.int (4 : Int32)), .val (.int ((p2 + (1 : Int32)) + (1 : Int32)))] [])) _
              refine XS.iload X13.here hx rfl (hb hby d29_19) rfl ?_
              show Steps p.tables e below (T13.setTop (mkF m 21 #[.val (.ref o0), .val (.int p1), .val (.int p2), .val (.int (4 : Int32)), .val (.int ((p2 + (1 : Int32)) + (1 : Int32)))] [(.int ((p2 + (1 : Int32)) + (1 : Int32)))])) _
              exact retI X13 hx Bd.returns (hb hby d29_21) hr
            · show Q29 Z o0 p1 p2 F h0 n0 _ T13.heap _
              rw [e13q]
              exact ⟨congrArg (fun q => some (Value.int q)) hv25.symm, N13, rfl⟩
          · have pre16 : ∀ t, Steps p.tables e below (T13.setTop (mkF m 6 #[.val (.ref o0), .val (.int p1), .val (.int p2), .val (.int (4 : Int32)), .val (.int (((p2 + (1 : Int32)) + (1 : Int32)) + (1 : Int32)))] [(.int (4 : Int32)), (.int (((p2 + (1 : Int32)) + (1 : Int32)) + (1 : Int32)))])) t → Steps p.tables e below (s₁.setTop (entryFrame m #[(.ref o0), (.int p1), (.int p2), (.int (4 : Int32))] 5)) t := fun t kt => pre14 t (by
                show Steps p.tables e below (T13.setTop (mkF m 16 #[.val (.ref o0), .val (.int p1), .val (.int p2), .val (.int (4 : Int32)), .val (.int ((p2 + (1 : Int32)) + (1 : Int32)))] [(.int p1), (.int (f22 ((p2 + (1 : Int32)) + (1 : Int32)) F))])) _
                refine XS.icmpYes X13.here hx rfl (pc0 := 16) (pc' := 22) rfl (hb hby d29_16) rfl (feq hc16_15).2 (by decide) (by decide) ?_
                show Steps p.tables e below (T13.setTop (mkF m 22 #[.val (.ref o0), .val (.int p1), .val (.int p2), .val (.int (4 : Int32)), .val (.int ((p2 + (1 : Int32)) + (1 : Int32)))] [])) _
                refine XS.iinc X13.here hx rfl (hb hby d29_22) rfl (l' := #[.val (.ref o0), .val (.int p1), .val (.int p2), .val (.int (4 : Int32)), .val (.int (((p2 + (1 : Int32)) + (1 : Int32)) + (1 : Int32)))]) rfl ?_
                show Steps p.tables e below (T13.setTop (mkF m 25 #[.val (.ref o0), .val (.int p1), .val (.int p2), .val (.int (4 : Int32)), .val (.int (((p2 + (1 : Int32)) + (1 : Int32)) + (1 : Int32)))] [])) _
                refine XS.goto X13.here hx rfl (pc0 := 25) (pc' := 3) rfl (hb hby d29_25) (by decide) (by decide) ?_
                show Steps p.tables e below (T13.setTop (mkF m 3 #[.val (.ref o0), .val (.int p1), .val (.int p2), .val (.int (4 : Int32)), .val (.int (((p2 + (1 : Int32)) + (1 : Int32)) + (1 : Int32)))] [])) _
                refine XS.iload X13.here hx rfl (hb hby d29_3) rfl ?_
                show Steps p.tables e below (T13.setTop (mkF m 5 #[.val (.ref o0), .val (.int p1), .val (.int p2), .val (.int (4 : Int32)), .val (.int (((p2 + (1 : Int32)) + (1 : Int32)) + (1 : Int32)))] [(.int (((p2 + (1 : Int32)) + (1 : Int32)) + (1 : Int32)))])) _
                refine XS.iloadN X13.here hx rfl (hb hby d29_5) rfl ?_
                exact kt)
            by_cases hc6_17 : (((p2 + (1 : Int32)) + (1 : Int32)) + (1 : Int32)) < (4 : Int32)
            · obtain ⟨_, _, ⟨T18, L18, k18, n18⟩, -, X18, ⟨Lc18, hQ18, l18, y18, z18⟩, st18⟩ := Jvm.LawKit.callS X13 hx (y := (⟨"java/lang/StringUTF16", "getChar", "([BI)C"⟩ : MethodName)) hown (mvT hZ (hw _ (List.mem_of_getElem? (i := 91) rfl))) (mvT hZ (hw _ (List.mem_of_getElem? (i := 92) rfl))) (mvT hZ (hw _ (List.mem_of_getElem? (i := 17) rfl))) (mvT hZ (hw _ (List.mem_of_getElem? (i := 93) rfl))) (by decide) (backOf (W := 0) (rm22 l Z a0 hw [] o0 (((p2 + (1 : Int32)) + (1 : Int32)) + (1 : Int32)) F h0 n0 Z0 S__assertionsDisabled S_HI_BYTE_SHIFT S_LO_BYTE_SHIFT V_o0 ((own_b3 h hc6_17))) hZ (hw _ (List.mem_of_getElem? (i := 93) rfl)) (hw _ (List.mem_of_getElem? (i := 17) rfl)) (by decide) (by decide)) (g := (mkF m 12 #[.val (.ref o0), .val (.int p1), .val (.int p2), .val (.int (4 : Int32)), .val (.int (((p2 + (1 : Int32)) + (1 : Int32)) + (1 : Int32)))] [(.int (((p2 + (1 : Int32)) + (1 : Int32)) + (1 : Int32))), (.ref o0)])) rfl (by rw [hml]; rfl) (argsL := [(.ref o0), (.int (((p2 + (1 : Int32)) + (1 : Int32)) + (1 : Int32)))]) (rest := []) (lenOf pd_29_0 rfl) rfl (by show 2 * 0 + _ ≤ _; exact Nat.le_of_eq rfl) (hb hby d29_12) (fun _ _ => ⟨rfl, e13q, (by decide : 0 + 0 ≤ _), (by decide : 0 + 0 ≤ _)⟩)
              dsimp only [Pt.U, Pt.locs, Pt.cells, Pt.slots] at X18 l18 y18 z18 st18 hQ18
              subst l18 y18 z18
              obtain ⟨rfl, N18q, e18q⟩ := hQ18
              have N18 := Fr.app N13 N18q
              have pre19 : ∀ t, Steps p.tables e below (T18.setTop (mkF m 16 #[.val (.ref o0), .val (.int p1), .val (.int p2), .val (.int (4 : Int32)), .val (.int (((p2 + (1 : Int32)) + (1 : Int32)) + (1 : Int32)))] [(.int p1), (.int (f22 (((p2 + (1 : Int32)) + (1 : Int32)) + (1 : Int32)) F))])) t → Steps p.tables e below (s₁.setTop (entryFrame m #[(.ref o0), (.int p1), (.int p2), (.int (4 : Int32))] 5)) t := fun t kt => pre16 t (by
                  show Steps p.tables e below (T13.setTop (mkF m 6 #[.val (.ref o0), .val (.int p1), .val (.int p2), .val (.int (4 : Int32)), .val (.int (((p2 + (1 : Int32)) + (1 : Int32)) + (1 : Int32)))] [(.int (4 : Int32)), (.int (((p2 + (1 : Int32)) + (1 : Int32)) + (1 : Int32)))])) _
                  refine XS.icmpNo X13.here hx rfl (hb hby d29_6) rfl (tlt hc6_17).2.1 ?_
                  show Steps p.tables e below (T13.setTop (mkF m 9 #[.val (.ref o0), .val (.int p1), .val (.int p2), .val (.int (4 : Int32)), .val (.int (((p2 + (1 : Int32)) + (1 : Int32)) + (1 : Int32)))] [])) _
                  refine XS.aloadN X13.here hx rfl (hb hby d29_9) rfl rfl ?_
                  show Steps p.tables e below (T13.setTop (mkF m 10 #[.val (.ref o0), .val (.int p1), .val (.int p2), .val (.int (4 : Int32)), .val (.int (((p2 + (1 : Int32)) + (1 : Int32)) + (1 : Int32)))] [(.ref o0)])) _
                  refine XS.iload X13.here hx rfl (hb hby d29_10) rfl ?_
                  show Steps p.tables e below (T13.setTop (mkF m 12 #[.val (.ref o0), .val (.int p1), .val (.int p2), .val (.int (4 : Int32)), .val (.int (((p2 + (1 : Int32)) + (1 : Int32)) + (1 : Int32)))] [(.int (((p2 + (1 : Int32)) + (1 : Int32)) + (1 : Int32))), (.ref o0)])) _
                  refine st18 _ ?_
                  show Steps p.tables e below (T18.setTop (mkF m 15 #[.val (.ref o0), .val (.int p1), .val (.int p2), .val (.int (4 : Int32)), .val (.int (((p2 + (1 : Int32)) + (1 : Int32)) + (1 : Int32)))] [(.int (f22 (((p2 + (1 : Int32)) + (1 : Int32)) + (1 : Int32)) F))])) _
                  refine XS.iloadN X18.here hx rfl (hb hby d29_15) rfl ?_
                  exact kt)
              by_cases hc16_20 : (f22 (((p2 + (1 : Int32)) + (1 : Int32)) + (1 : Int32)) F) = p1
              · obtain ⟨fs, hr, hrun, hended, hW, hsame⟩ := X18.leave (v := some (.int (((p2 + (1 : Int32)) + (1 : Int32)) + (1 : Int32)))) (fun h => by rw [Bd.returns] at h; cases h)
                have hv26 : (f29 p1 p2 F) = (((p2 + (1 : Int32)) + (1 : Int32)) + (1 : Int32)) := by rw [f29, if_neg hc16_5, if_pos hc6_7, if_neg hc16_10, if_pos hc6_12, if_neg hc16_15, if_pos hc6_17, if_pos hc16_20]
                refine ⟨_, _, pre19 _ ?_, hrun, hended, _, _, rfl, ?_, ⟨_, rfl⟩, hW, hsame.mono (by decide) (by decide)⟩
                · show Steps p.tables e below (T18.setTop (mkF m 16 #[.val (.ref o0), .val (.int p1), .val (.int p2), .val (.int (4 : Int32)), .val (.int (((p2 + (1 : Int32)) + (1 : Int32)) + (1 : Int32)))] [(.int p1), (.int (f22 (((p2 + (1 : Int32)) + (1 : Int32)) + (1 : Int32)) F))])) _
                  refine XS.icmpNo X18.here hx rfl (hb hby d29_16) rfl (teq hc16_20).2 ?_
                  show Steps p.tables e below (T18.setTop (mkF m 19 #[.val (.ref o0), .val (.int p1), .val (.int p2), .val (.int (4 : Int32)), .val (.int (((p2 + (1 : Int32)) + (1 : Int32)) + (1 : Int32)))] [])) _
                  refine XS.iload X18.here hx rfl (hb hby d29_19) rfl ?_
                  show Steps p.tables e below (T18.setTop (mkF m 21 #[.val (.ref o0), .val (.int p1), .val (.int p2), .val (.int (4 : Int32)), .val (.int (((p2 + (1 : Int32)) + (1 : Int32)) + (1 : Int32)))] [(.int (((p2 + (1 : Int32)) + (1 : Int32)) + (1 : Int32)))])) _
                  exact retI X18 hx Bd.returns (hb hby d29_21) hr
                · show Q29 Z o0 p1 p2 F h0 n0 _ T18.heap _
                  rw [e18q]
                  exact ⟨congrArg (fun q => some (Value.int q)) hv26.symm, N18, rfl⟩
              · have pre21 : ∀ t, Steps p.tables e below (T18.setTop (mkF m 6 #[.val (.ref o0), .val (.int p1), .val (.int p2), .val (.int (4 : Int32)), .val (.int ((((p2 + (1 : Int32)) + (1 : Int32)) + (1 : Int32)) + (1 : Int32)))] [(.int (4 : Int32)), (.int ((((p2 + (1 : Int32)) + (1 : Int32)) + (1 : Int32)) + (1 : Int32)))])) t → Steps p.tables e below (s₁.setTop (entryFrame m #[(.ref o0), (.int p1), (.int p2), (.int (4 : Int32))] 5)) t := fun t kt => pre19 t (by
                    show Steps p.tables e below (T18.setTop (mkF m 16 #[.val (.ref o0), .val (.int p1), .val (.int p2), .val (.int (4 : Int32)), .val (.int (((p2 + (1 : Int32)) + (1 : Int32)) + (1 : Int32)))] [(.int p1), (.int (f22 (((p2 + (1 : Int32)) + (1 : Int32)) + (1 : Int32)) F))])) _
                    refine XS.icmpYes X18.here hx rfl (pc0 := 16) (pc' := 22) rfl (hb hby d29_16) rfl (feq hc16_20).2 (by decide) (by decide) ?_
                    show Steps p.tables e below (T18.setTop (mkF m 22 #[.val (.ref o0), .val (.int p1), .val (.int p2), .val (.int (4 : Int32)), .val (.int (((p2 + (1 : Int32)) + (1 : Int32)) + (1 : Int32)))] [])) _
                    refine XS.iinc X18.here hx rfl (hb hby d29_22) rfl (l' := #[.val (.ref o0), .val (.int p1), .val (.int p2), .val (.int (4 : Int32)), .val (.int ((((p2 + (1 : Int32)) + (1 : Int32)) + (1 : Int32)) + (1 : Int32)))]) rfl ?_
                    show Steps p.tables e below (T18.setTop (mkF m 25 #[.val (.ref o0), .val (.int p1), .val (.int p2), .val (.int (4 : Int32)), .val (.int ((((p2 + (1 : Int32)) + (1 : Int32)) + (1 : Int32)) + (1 : Int32)))] [])) _
                    refine XS.goto X18.here hx rfl (pc0 := 25) (pc' := 3) rfl (hb hby d29_25) (by decide) (by decide) ?_
                    show Steps p.tables e below (T18.setTop (mkF m 3 #[.val (.ref o0), .val (.int p1), .val (.int p2), .val (.int (4 : Int32)), .val (.int ((((p2 + (1 : Int32)) + (1 : Int32)) + (1 : Int32)) + (1 : Int32)))] [])) _
                    refine XS.iload X18.here hx rfl (hb hby d29_3) rfl ?_
                    show Steps p.tables e below (T18.setTop (mkF m 5 #[.val (.ref o0), .val (.int p1), .val (.int p2), .val (.int (4 : Int32)), .val (.int ((((p2 + (1 : Int32)) + (1 : Int32)) + (1 : Int32)) + (1 : Int32)))] [(.int ((((p2 + (1 : Int32)) + (1 : Int32)) + (1 : Int32)) + (1 : Int32)))])) _
                    refine XS.iloadN X18.here hx rfl (hb hby d29_5) rfl ?_
                    exact kt)
                have hd6_22 : ¬ (((((p2 + (1 : Int32)) + (1 : Int32)) + (1 : Int32)) + (1 : Int32)) < (4 : Int32)) := own_t4 h
                obtain ⟨fs, hr, hrun, hended, hW, hsame⟩ := X18.leave (v := some (.int (-1 : Int32))) (fun h => by rw [Bd.returns] at h; cases h)
                have hv27 : (f29 p1 p2 F) = (-1 : Int32) := by rw [f29, if_neg hc16_5, if_pos hc6_7, if_neg hc16_10, if_pos hc6_12, if_neg hc16_15, if_pos hc6_17, if_neg hc16_20]
                refine ⟨_, _, pre21 _ ?_, hrun, hended, _, _, rfl, ?_, ⟨_, rfl⟩, hW, hsame.mono (by decide) (by decide)⟩
                · show Steps p.tables e below (T18.setTop (mkF m 6 #[.val (.ref o0), .val (.int p1), .val (.int p2), .val (.int (4 : Int32)), .val (.int ((((p2 + (1 : Int32)) + (1 : Int32)) + (1 : Int32)) + (1 : Int32)))] [(.int (4 : Int32)), (.int ((((p2 + (1 : Int32)) + (1 : Int32)) + (1 : Int32)) + (1 : Int32)))])) _
                  refine XS.icmpYes X18.here hx rfl (pc0 := 6) (pc' := 28) rfl (hb hby d29_6) rfl (flt hd6_22).2.1 (by decide) (by decide) ?_
                  show Steps p.tables e below (T18.setTop (mkF m 28 #[.val (.ref o0), .val (.int p1), .val (.int p2), .val (.int (4 : Int32)), .val (.int ((((p2 + (1 : Int32)) + (1 : Int32)) + (1 : Int32)) + (1 : Int32)))] [])) _
                  refine XS.iconst X18.here hx rfl (hb hby d29_28) ?_
                  show Steps p.tables e below (T18.setTop (mkF m 29 #[.val (.ref o0), .val (.int p1), .val (.int p2), .val (.int (4 : Int32)), .val (.int ((((p2 + (1 : Int32)) + (1 : Int32)) + (1 : Int32)) + (1 : Int32)))] [(.int (-1 : Int32))])) _
                  exact retI X18 hx Bd.returns (hb hby d29_29) hr
                · show Q29 Z o0 p1 p2 F h0 n0 _ T18.heap _
                  rw [e18q]
                  exact ⟨congrArg (fun q => some (Value.int q)) hv27.symm, N18, rfl⟩
            · obtain ⟨fs, hr, hrun, hended, hW, hsame⟩ := X13.leave (v := some (.int (-1 : Int32))) (fun h => by rw [Bd.returns] at h; cases h)
              have hv28 : (f29 p1 p2 F) = (-1 : Int32) := by rw [f29, if_neg hc16_5, if_pos hc6_7, if_neg hc16_10, if_pos hc6_12, if_neg hc16_15, if_neg hc6_17]
              refine ⟨_, _, pre16 _ ?_, hrun, hended, _, _, rfl, ?_, ⟨_, rfl⟩, hW, hsame.mono (by decide) (by decide)⟩
              · show Steps p.tables e below (T13.setTop (mkF m 6 #[.val (.ref o0), .val (.int p1), .val (.int p2), .val (.int (4 : Int32)), .val (.int (((p2 + (1 : Int32)) + (1 : Int32)) + (1 : Int32)))] [(.int (4 : Int32)), (.int (((p2 + (1 : Int32)) + (1 : Int32)) + (1 : Int32)))])) _
                refine XS.icmpYes X13.here hx rfl (pc0 := 6) (pc' := 28) rfl (hb hby d29_6) rfl (flt hc6_17).2.1 (by decide) (by decide) ?_
                show Steps p.tables e below (T13.setTop (mkF m 28 #[.val (.ref o0), .val (.int p1), .val (.int p2), .val (.int (4 : Int32)), .val (.int (((p2 + (1 : Int32)) + (1 : Int32)) + (1 : Int32)))] [])) _
                refine XS.iconst X13.here hx rfl (hb hby d29_28) ?_
                show Steps p.tables e below (T13.setTop (mkF m 29 #[.val (.ref o0), .val (.int p1), .val (.int p2), .val (.int (4 : Int32)), .val (.int (((p2 + (1 : Int32)) + (1 : Int32)) + (1 : Int32)))] [(.int (-1 : Int32))])) _
                exact retI X13 hx Bd.returns (hb hby d29_29) hr
              · show Q29 Z o0 p1 p2 F h0 n0 _ T13.heap _
                rw [e13q]
                exact ⟨congrArg (fun q => some (Value.int q)) hv28.symm, N13, rfl⟩
        · obtain ⟨fs, hr, hrun, hended, hW, hsame⟩ := X8.leave (v := some (.int (-1 : Int32))) (fun h => by rw [Bd.returns] at h; cases h)
          have hv29 : (f29 p1 p2 F) = (-1 : Int32) := by rw [f29, if_neg hc16_5, if_pos hc6_7, if_neg hc16_10, if_neg hc6_12]
          refine ⟨_, _, pre11 _ ?_, hrun, hended, _, _, rfl, ?_, ⟨_, rfl⟩, hW, hsame.mono (by decide) (by decide)⟩
          · show Steps p.tables e below (T8.setTop (mkF m 6 #[.val (.ref o0), .val (.int p1), .val (.int p2), .val (.int (4 : Int32)), .val (.int ((p2 + (1 : Int32)) + (1 : Int32)))] [(.int (4 : Int32)), (.int ((p2 + (1 : Int32)) + (1 : Int32)))])) _
            refine XS.icmpYes X8.here hx rfl (pc0 := 6) (pc' := 28) rfl (hb hby d29_6) rfl (flt hc6_12).2.1 (by decide) (by decide) ?_
            show Steps p.tables e below (T8.setTop (mkF m 28 #[.val (.ref o0), .val (.int p1), .val (.int p2), .val (.int (4 : Int32)), .val (.int ((p2 + (1 : Int32)) + (1 : Int32)))] [])) _
            refine XS.iconst X8.here hx rfl (hb hby d29_28) ?_
            show Steps p.tables e below (T8.setTop (mkF m 29 #[.val (.ref o0), .val (.int p1), .val (.int p2), .val (.int (4 : Int32)), .val (.int ((p2 + (1 : Int32)) + (1 : Int32)))] [(.int (-1 : Int32))])) _
            exact retI X8 hx Bd.returns (hb hby d29_29) hr
          · show Q29 Z o0 p1 p2 F h0 n0 _ T8.heap _
            rw [e8q]
            exact ⟨congrArg (fun q => some (Value.int q)) hv29.symm, N8, rfl⟩
    · obtain ⟨fs, hr, hrun, hended, hW, hsame⟩ := X3.leave (v := some (.int (-1 : Int32))) (fun h => by rw [Bd.returns] at h; cases h)
      have hv30 : (f29 p1 p2 F) = (-1 : Int32) := by rw [f29, if_neg hc16_5, if_neg hc6_7]
      refine ⟨_, _, pre6 _ ?_, hrun, hended, _, _, rfl, ?_, ⟨_, rfl⟩, hW, hsame.mono (by decide) (by decide)⟩
      · show Steps p.tables e below (T3.setTop (mkF m 6 #[.val (.ref o0), .val (.int p1), .val (.int p2), .val (.int (4 : Int32)), .val (.int (p2 + (1 : Int32)))] [(.int (4 : Int32)), (.int (p2 + (1 : Int32)))])) _
        refine XS.icmpYes X3.here hx rfl (pc0 := 6) (pc' := 28) rfl (hb hby d29_6) rfl (flt hc6_7).2.1 (by decide) (by decide) ?_
        show Steps p.tables e below (T3.setTop (mkF m 28 #[.val (.ref o0), .val (.int p1), .val (.int p2), .val (.int (4 : Int32)), .val (.int (p2 + (1 : Int32)))] [])) _
        refine XS.iconst X3.here hx rfl (hb hby d29_28) ?_
        show Steps p.tables e below (T3.setTop (mkF m 29 #[.val (.ref o0), .val (.int p1), .val (.int p2), .val (.int (4 : Int32)), .val (.int (p2 + (1 : Int32)))] [(.int (-1 : Int32))])) _
        exact retI X3 hx Bd.returns (hb hby d29_29) hr
      · show Q29 Z o0 p1 p2 F h0 n0 _ T3.heap _
        rw [e3q]
        exact ⟨congrArg (fun q => some (Value.int q)) hv30.symm, N3, rfl⟩
theorem d24_0 : decode jdk_52_method_47_code 0 = .ok (.iload_n 2, 1) := by decide +kernel
theorem d24_1 : decode jdk_52_method_47_code 1 = .ok (.iload_n 3, 1) := by decide +kernel
theorem d24_2 : decode jdk_52_method_47_code 2 = .ok (.aload_n 0, 1) := by decide +kernel
theorem d24_3 : decode jdk_52_method_47_code 3 = .ok (.invokestatic 96, 3) := by decide +kernel
theorem d24_6 : decode jdk_52_method_47_code 6 = .ok (.aload_n 0, 1) := by decide +kernel
theorem d24_7 : decode jdk_52_method_47_code 7 = .ok (.iload_n 1, 1) := by decide +kernel
theorem d24_8 : decode jdk_52_method_47_code 8 = .ok (.iload_n 2, 1) := by decide +kernel
theorem d24_9 : decode jdk_52_method_47_code 9 = .ok (.iload_n 3, 1) := by decide +kernel
theorem d24_10 : decode jdk_52_method_47_code 10 = .ok (.invokestatic 244, 3) := by decide +kernel
theorem d24_13 : decode jdk_52_method_47_code 13 = .ok (.ireturn, 1) := by decide +kernel
theorem pn_24 : plainName "java/lang/StringUTF16" = true := by first | (simp [plainName, overriddenIn]; done) | decide +kernel
theorem pd_24_0 : parseMethodDescriptor "(II[B)V" = some ⟨[.int, .int, (.array .byte)], none⟩ := by decide +kernel
theorem pd_24_1 : parseMethodDescriptor "([BIII)I" = some ⟨[(.array .byte), .int, .int, .int], some .int⟩ := by decide +kernel
theorem ef_24 (m : MethodId) (x0 : Addr) (x1 : Int32) (x2 : Int32) (x3 : Int32) : entryFrame m #[(.ref x0), (.int x1), (.int x2), (.int x3)] 4 = mkF m 0 #[.val (.ref x0), .val (.int x1), .val (.int x2), .val (.int x3)] [] := by first | (simp [entryFrame, mkF, argsToLocals, Value.category]; done) | rfl
def Q24 (Z : State) (o0 : Addr) (p1 : Int32) (p2 : Int32) (fm : Value) (F : Nat → Int32) (h0 : Heap) (n0 : Nat) (v : Option Value) (h : Heap) (L : List Loc) : Prop := v = some (.int (f29 p1 p2 F)) ∧ Fr n0 L ∧ h = h0
set_option maxRecDepth 65536 in
set_option maxHeartbeats 40000000 in
theorem rm24 (l : Launch) (Z : State) (a0 : Array Value) (hw : ∀ d ∈ tables_1, d.before a0 Z = true) (ws : List Jvm.Cond) (o0 : Addr) (p1 : Int32) (p2 : Int32) (fm : Value) (F : Nat → Int32) (h0 : Heap) (n0 : Nat) (Z0 : n0 ≤ h0.size) (S__assertionsDisabled : Sta Z h0 "java/lang/StringUTF16" "$assertionsDisabled" "Z" (.int (1 : Int32))) (S_HI_BYTE_SHIFT : Sta Z h0 "java/lang/StringUTF16" "HI_BYTE_SHIFT" "I" (.int (0 : Int32))) (S_LO_BYTE_SHIFT : Sta Z h0 "java/lang/StringUTF16" "LO_BYTE_SHIFT" "I" (.int (8 : Int32))) (S_SIOOBE_FORMATTER : Sta Z h0 "jdk/internal/util/Preconditions" "SIOOBE_FORMATTER" "Ljava/util/function/BiFunction;" fm) (hfm : fm.isRef = true) (V_o0 : own_AI Z h0 o0 .byte (8 : Int32) F) (h : ¬ p2 < 0 ∧ p2 < (4 : Int32)) :
    MetFree l (⟨"java/lang/StringUTF16", "indexOfChar", "([BIII)I"⟩ : MethodName) (head1 (Jvm.Cond.code (⟨"java/lang/StringUTF16", "indexOfChar", "([BIII)I"⟩ : MethodName) jdk_52_method_47_code 4 (some .int) :: ws) ({ frames := 3, cells := 0, slots := 0, locals := 43 } : Room)) (fun a U => a = #[(.ref o0), (.int p1), (.int p2), (.int (4 : Int32))] ∧ Z.Warmed39 U.vm ∧ U.heap = h0) (fun _ _ _ _ _ => True) (fun _ U o U' => ∃ v L, o = .returned v ∧ Q24 Z o0 p1 p2 fm F h0 n0 v U'.heap L ∧ FrameEnd U o U' L ({ frames := 3, cells := 0, slots := 0, locals := 43 } : Room).cells ({ frames := 3, cells := 0, slots := 0, locals := 43 } : Room).slots) := by
  refine MetFree.of_bodySF (plainFor_of_name pn_24) hisR ?_
  intro p e s m args below meth c s₁ Bd hml0 hP hK
  obtain ⟨rfl, hZ, hh⟩ := hP
  have hx := Bd.exec
  have hby := Bd.bytes
  have hml : c.maxLocals = 4 := hml0
  have hown : s.vm.findClass "java/lang/StringUTF16" = some m.cls := findClass_of_methodNamed Bd.named
  have hnm := (name_of_methodNamed Bd.named Bd.method).1
  have X0 : Stand p l e ({ frames := 3, cells := 0, slots := 0, locals := 43 } : Room) s m #[(.ref o0), (.int p1), (.int p2), (.int (4 : Int32))] below meth c s₁ [] 0 0 := Stand.of_body Bd
  have e0 : s₁.heap = h0 := by rw [← hh, Bd.state]; rfl
  have N0 := Fr.nil n0
  have pre0 : ∀ t, Steps p.tables e below (s₁.setTop (mkF m 0 #[.val (.ref o0), .val (.int p1), .val (.int p2), .val (.int (4 : Int32))] [])) t → Steps p.tables e below (s₁.setTop (entryFrame m #[(.ref o0), (.int p1), (.int p2), (.int (4 : Int32))] 4)) t := fun t k => castTop (ef_24 m o0 p1 p2 (4 : Int32)) k
  obtain ⟨_, _, ⟨T1, L1, k1, n1⟩, -, X1, ⟨Lc1, hQ1, l1, y1, z1⟩, st1⟩ := Jvm.LawKit.callS X0 hx (y := (⟨"java/lang/StringUTF16", "checkBoundsBeginEnd", "(II[B)V"⟩ : MethodName)) hown (mvT hZ (hw _ (List.mem_of_getElem? (i := 103) rfl))) (mvT hZ (hw _ (List.mem_of_getElem? (i := 104) rfl))) (mvT hZ (hw _ (List.mem_of_getElem? (i := 17) rfl))) (mvT hZ (hw _ (List.mem_of_getElem? (i := 105) rfl))) (by decide) (backOf (W := 0) (rm25 l Z a0 hw [] p2 (4 : Int32) o0 fm F h0 n0 Z0 S_SIOOBE_FORMATTER (hfm) V_o0 (own_ck h)) hZ (hw _ (List.mem_of_getElem? (i := 105) rfl)) (hw _ (List.mem_of_getElem? (i := 17) rfl)) (by decide) (by decide)) (g := (mkF m 3 #[.val (.ref o0), .val (.int p1), .val (.int p2), .val (.int (4 : Int32))] [(.ref o0), (.int (4 : Int32)), (.int p2)])) rfl (by rw [hml]; rfl) (argsL := [(.int p2), (.int (4 : Int32)), (.ref o0)]) (rest := []) (lenOf pd_24_0 rfl) rfl (by show 2 * 0 + _ ≤ _; exact Nat.le_of_eq rfl) (hb hby d24_3) (fun _ _ => ⟨rfl, e0, (by decide : 0 + 0 ≤ _), (by decide : 0 + 0 ≤ _)⟩)
  dsimp only [Pt.U, Pt.locs, Pt.cells, Pt.slots] at X1 l1 y1 z1 st1 hQ1
  subst l1 y1 z1
  obtain ⟨rfl, N1q, e1q⟩ := hQ1
  have N1 := Fr.app N0 N1q
  obtain ⟨_, _, ⟨T2, L2, k2, n2⟩, -, X2, ⟨Lc2, hQ2, l2, y2, z2⟩, st2⟩ := Jvm.LawKit.callS X1 hx (y := (⟨"java/lang/StringUTF16", "indexOfCharUnsafe", "([BIII)I"⟩ : MethodName)) hown (mvT hZ (hw _ (List.mem_of_getElem? (i := 117) rfl))) (mvT hZ (hw _ (List.mem_of_getElem? (i := 118) rfl))) (mvT hZ (hw _ (List.mem_of_getElem? (i := 17) rfl))) (mvT hZ (hw _ (List.mem_of_getElem? (i := 119) rfl))) (by decide) (backOf (W := 0) (rm29 l Z a0 hw [] o0 p1 p2 F h0 n0 Z0 S__assertionsDisabled S_HI_BYTE_SHIFT S_LO_BYTE_SHIFT V_o0 (h)) hZ (hw _ (List.mem_of_getElem? (i := 119) rfl)) (hw _ (List.mem_of_getElem? (i := 17) rfl)) (by decide) (by decide)) (g := (mkF m 10 #[.val (.ref o0), .val (.int p1), .val (.int p2), .val (.int (4 : Int32))] [(.int (4 : Int32)), (.int p2), (.int p1), (.ref o0)])) rfl (by rw [hml]; rfl) (argsL := [(.ref o0), (.int p1), (.int p2), (.int (4 : Int32))]) (rest := []) (lenOf pd_24_1 rfl) rfl (by show 2 * 0 + _ ≤ _; exact Nat.le_of_eq rfl) (hb hby d24_10) (fun _ _ => ⟨rfl, e1q, (by decide : 0 + 0 ≤ _), (by decide : 0 + 0 ≤ _)⟩)
  dsimp only [Pt.U, Pt.locs, Pt.cells, Pt.slots] at X2 l2 y2 z2 st2 hQ2
  subst l2 y2 z2
  obtain ⟨rfl, N2q, e2q⟩ := hQ2
  have N2 := Fr.app N1 N2q
  obtain ⟨fs, hr, hrun, hended, hW, hsame⟩ := X2.leave (v := some (.int (f29 p1 p2 F))) (fun h => by rw [Bd.returns] at h; cases h)
  have hv3 : (f29 p1 p2 F) = (f29 p1 p2 F) := rfl
  refine ⟨_, _, pre0 _ ?_, hrun, hended, _, _, rfl, ?_, ⟨_, rfl⟩, hW, hsame.mono (by decide) (by decide)⟩
  · show Steps p.tables e below (s₁.setTop (mkF m 0 #[.val (.ref o0), .val (.int p1), .val (.int p2), .val (.int (4 : Int32))] [])) _
    refine XS.iloadN X0.here hx rfl (hb hby d24_0) rfl ?_
    show Steps p.tables e below (s₁.setTop (mkF m 1 #[.val (.ref o0), .val (.int p1), .val (.int p2), .val (.int (4 : Int32))] [(.int p2)])) _
    refine XS.iloadN X0.here hx rfl (hb hby d24_1) rfl ?_
    show Steps p.tables e below (s₁.setTop (mkF m 2 #[.val (.ref o0), .val (.int p1), .val (.int p2), .val (.int (4 : Int32))] [(.int (4 : Int32)), (.int p2)])) _
    refine XS.aloadN X0.here hx rfl (hb hby d24_2) rfl rfl ?_
    show Steps p.tables e below (s₁.setTop (mkF m 3 #[.val (.ref o0), .val (.int p1), .val (.int p2), .val (.int (4 : Int32))] [(.ref o0), (.int (4 : Int32)), (.int p2)])) _
    refine st1 _ ?_
    show Steps p.tables e below (T1.setTop (mkF m 6 #[.val (.ref o0), .val (.int p1), .val (.int p2), .val (.int (4 : Int32))] [])) _
    refine XS.aloadN X1.here hx rfl (hb hby d24_6) rfl rfl ?_
    show Steps p.tables e below (T1.setTop (mkF m 7 #[.val (.ref o0), .val (.int p1), .val (.int p2), .val (.int (4 : Int32))] [(.ref o0)])) _
    refine XS.iloadN X1.here hx rfl (hb hby d24_7) rfl ?_
    show Steps p.tables e below (T1.setTop (mkF m 8 #[.val (.ref o0), .val (.int p1), .val (.int p2), .val (.int (4 : Int32))] [(.int p1), (.ref o0)])) _
    refine XS.iloadN X1.here hx rfl (hb hby d24_8) rfl ?_
    show Steps p.tables e below (T1.setTop (mkF m 9 #[.val (.ref o0), .val (.int p1), .val (.int p2), .val (.int (4 : Int32))] [(.int p2), (.int p1), (.ref o0)])) _
    refine XS.iloadN X1.here hx rfl (hb hby d24_9) rfl ?_
    show Steps p.tables e below (T1.setTop (mkF m 10 #[.val (.ref o0), .val (.int p1), .val (.int p2), .val (.int (4 : Int32))] [(.int (4 : Int32)), (.int p2), (.int p1), (.ref o0)])) _
    refine st2 _ ?_
    show Steps p.tables e below (T2.setTop (mkF m 13 #[.val (.ref o0), .val (.int p1), .val (.int p2), .val (.int (4 : Int32))] [(.int (f29 p1 p2 F))])) _
    exact retI X2 hx Bd.returns (hb hby d24_13) hr
  · show Q24 Z o0 p1 p2 fm F h0 n0 _ T2.heap _
    rw [e2q]
    exact ⟨congrArg (fun q => some (Value.int q)) hv3.symm, N2, rfl⟩
theorem d23_0 : decode jdk_52_method_40_code 0 = .ok (.iload_n 2, 1) := by decide +kernel
theorem d23_1 : decode jdk_52_method_40_code 1 = .ok (.iconst 0, 1) := by decide +kernel
theorem d23_2 : decode jdk_52_method_40_code 2 = .ok (.invokestatic 224, 3) := by decide +kernel
theorem d23_5 : decode jdk_52_method_40_code 5 = .ok (.istore_n 2, 1) := by decide +kernel
theorem d23_6 : decode jdk_52_method_40_code 6 = .ok (.iload_n 3, 1) := by decide +kernel
theorem d23_7 : decode jdk_52_method_40_code 7 = .ok (.aload_n 0, 1) := by decide +kernel
theorem d23_8 : decode jdk_52_method_40_code 8 = .ok (.arraylength, 1) := by decide +kernel
theorem d23_9 : decode jdk_52_method_40_code 9 = .ok (.iconst 1, 1) := by decide +kernel
theorem d23_10 : decode jdk_52_method_40_code 10 = .ok (.ishr, 1) := by decide +kernel
theorem d23_11 : decode jdk_52_method_40_code 11 = .ok (.invokestatic 183, 3) := by decide +kernel
theorem d23_14 : decode jdk_52_method_40_code 14 = .ok (.istore_n 3, 1) := by decide +kernel
theorem d23_15 : decode jdk_52_method_40_code 15 = .ok (.iload_n 2, 1) := by decide +kernel
theorem d23_16 : decode jdk_52_method_40_code 16 = .ok (.iload_n 3, 1) := by decide +kernel
theorem d23_17 : decode jdk_52_method_40_code 17 = .ok (.if_icmp .lt 5, 3) := by decide +kernel
theorem d23_20 : decode jdk_52_method_40_code 20 = .ok (.iconst (-1), 1) := by decide +kernel
theorem d23_21 : decode jdk_52_method_40_code 21 = .ok (.ireturn, 1) := by decide +kernel
theorem d23_22 : decode jdk_52_method_40_code 22 = .ok (.iload_n 1, 1) := by decide +kernel
theorem d23_23 : decode jdk_52_method_40_code 23 = .ok (.ldc 227, 2) := by decide +kernel
theorem d23_25 : decode jdk_52_method_40_code 25 = .ok (.if_icmp .ge 11, 3) := by decide +kernel
theorem d23_28 : decode jdk_52_method_40_code 28 = .ok (.aload_n 0, 1) := by decide +kernel
theorem d23_29 : decode jdk_52_method_40_code 29 = .ok (.iload_n 1, 1) := by decide +kernel
theorem d23_30 : decode jdk_52_method_40_code 30 = .ok (.iload_n 2, 1) := by decide +kernel
theorem d23_31 : decode jdk_52_method_40_code 31 = .ok (.iload_n 3, 1) := by decide +kernel
theorem d23_32 : decode jdk_52_method_40_code 32 = .ok (.invokestatic 228, 3) := by decide +kernel
theorem d23_35 : decode jdk_52_method_40_code 35 = .ok (.ireturn, 1) := by decide +kernel
theorem pn_23 : plainName "java/lang/StringUTF16" = true := by first | (simp [plainName, overriddenIn]; done) | decide +kernel
theorem pd_23_0 : parseMethodDescriptor "(II)I" = some ⟨[.int, .int], some .int⟩ := by decide +kernel
theorem pd_23_1 : parseMethodDescriptor "([BIII)I" = some ⟨[(.array .byte), .int, .int, .int], some .int⟩ := by decide +kernel
theorem ef_23 (m : MethodId) (x0 : Addr) (x1 : Int32) (x2 : Int32) (x3 : Int32) : entryFrame m #[(.ref x0), (.int x1), (.int x2), (.int x3)] 4 = mkF m 0 #[.val (.ref x0), .val (.int x1), .val (.int x2), .val (.int x3)] [] := by first | (simp [entryFrame, mkF, argsToLocals, Value.category]; done) | rfl
def f23 (p1 : Int32) (p2 : Int32) (F : Nat → Int32) : Int32 :=
  if p2 < (4 : Int32) then ((f29 p1 p2 F)) else
  ((-1 : Int32))
def Q23 (Z : State) (o0 : Addr) (p1 : Int32) (p2 : Int32) (fm : Value) (F : Nat → Int32) (h0 : Heap) (n0 : Nat) (v : Option Value) (h : Heap) (L : List Loc) : Prop := v = some (.int (f23 p1 p2 F)) ∧ Fr n0 L ∧ h = h0
set_option maxRecDepth 65536 in
set_option maxHeartbeats 40000000 in
theorem rm23 (l : Launch) (Z : State) (a0 : Array Value) (hw : ∀ d ∈ tables_1, d.before a0 Z = true) (ws : List Jvm.Cond) (o0 : Addr) (p1 : Int32) (p2 : Int32) (fm : Value) (F : Nat → Int32) (h0 : Heap) (n0 : Nat) (Z0 : n0 ≤ h0.size) (S__assertionsDisabled : Sta Z h0 "java/lang/StringUTF16" "$assertionsDisabled" "Z" (.int (1 : Int32))) (S_HI_BYTE_SHIFT : Sta Z h0 "java/lang/StringUTF16" "HI_BYTE_SHIFT" "I" (.int (0 : Int32))) (S_LO_BYTE_SHIFT : Sta Z h0 "java/lang/StringUTF16" "LO_BYTE_SHIFT" "I" (.int (8 : Int32))) (S_SIOOBE_FORMATTER : Sta Z h0 "jdk/internal/util/Preconditions" "SIOOBE_FORMATTER" "Ljava/util/function/BiFunction;" fm) (hfm : fm.isRef = true) (V_o0 : own_AI Z h0 o0 .byte (8 : Int32) F) (hn : ¬ p2 < 0) (hc : p1 < (65536 : Int32)) :
    MetFree l (⟨"java/lang/StringUTF16", "indexOf", "([BIII)I"⟩ : MethodName) (head1 (Jvm.Cond.code (⟨"java/lang/StringUTF16", "indexOf", "([BIII)I"⟩ : MethodName) jdk_52_method_40_code 4 (some .int) :: ws) ({ frames := 4, cells := 0, slots := 0, locals := 58 } : Room)) (fun a U => a = #[(.ref o0), (.int p1), (.int p2), (.int (4 : Int32))] ∧ Z.Warmed39 U.vm ∧ U.heap = h0) (fun _ _ _ _ _ => True) (fun _ U o U' => ∃ v L, o = .returned v ∧ Q23 Z o0 p1 p2 fm F h0 n0 v U'.heap L ∧ FrameEnd U o U' L ({ frames := 4, cells := 0, slots := 0, locals := 58 } : Room).cells ({ frames := 4, cells := 0, slots := 0, locals := 58 } : Room).slots) := by
  refine MetFree.of_bodySF (plainFor_of_name pn_23) hisR ?_
  intro p e s m args below meth c s₁ Bd hml0 hP hK
  obtain ⟨rfl, hZ, hh⟩ := hP
  have hx := Bd.exec
  have hby := Bd.bytes
  have hml : c.maxLocals = 4 := hml0
  have hown : s.vm.findClass "java/lang/StringUTF16" = some m.cls := findClass_of_methodNamed Bd.named
  have hnm := (name_of_methodNamed Bd.named Bd.method).1
  have X0 : Stand p l e ({ frames := 4, cells := 0, slots := 0, locals := 58 } : Room) s m #[(.ref o0), (.int p1), (.int p2), (.int (4 : Int32))] below meth c s₁ [] 0 0 := Stand.of_body Bd
  have e0 : s₁.heap = h0 := by rw [← hh, Bd.state]; rfl
  have N0 := Fr.nil n0
  have pre0 : ∀ t, Steps p.tables e below (s₁.setTop (mkF m 0 #[.val (.ref o0), .val (.int p1), .val (.int p2), .val (.int (4 : Int32))] [])) t → Steps p.tables e below (s₁.setTop (entryFrame m #[(.ref o0), (.int p1), (.int p2), (.int (4 : Int32))] 4)) t := fun t k => castTop (ef_23 m o0 p1 p2 (4 : Int32)) k
  obtain ⟨_, _, ⟨T1, L1, k1, n1⟩, -, X1, ⟨Lc1, hQ1, l1, y1, z1⟩, st1⟩ := Jvm.LawKit.callS X0 hx (y := (⟨"java/lang/Math", "max", "(II)I"⟩ : MethodName)) hown (mvT hZ (hw _ (List.mem_of_getElem? (i := 97) rfl))) (mvT hZ (hw _ (List.mem_of_getElem? (i := 66) rfl))) (mvT hZ (hw _ (List.mem_of_getElem? (i := 67) rfl))) (mvT hZ (hw _ (List.mem_of_getElem? (i := 68) rfl))) (by decide) (backOf (W := 0) (rm15 l Z a0 hw [] p2 h0 n0 Z0 (hn)) hZ (hw _ (List.mem_of_getElem? (i := 68) rfl)) (hw _ (List.mem_of_getElem? (i := 67) rfl)) (by decide) (by decide)) (g := (mkF m 2 #[.val (.ref o0), .val (.int p1), .val (.int p2), .val (.int (4 : Int32))] [(.int (0 : Int32)), (.int p2)])) rfl (by rw [hml]; rfl) (argsL := [(.int p2), (.int (0 : Int32))]) (rest := []) (lenOf pd_23_0 rfl) rfl (by show 2 * 0 + _ ≤ _; exact Nat.le_of_eq rfl) (hb hby d23_2) (fun _ _ => ⟨rfl, e0, (by decide : 0 + 0 ≤ _), (by decide : 0 + 0 ≤ _)⟩)
  dsimp only [Pt.U, Pt.locs, Pt.cells, Pt.slots] at X1 l1 y1 z1 st1 hQ1
  subst l1 y1 z1
  obtain ⟨rfl, N1q, e1q⟩ := hQ1
  have N1 := Fr.app N0 N1q
  obtain ⟨cl2, Ar2, Sz2, Nn2, -⟩ := id V_o0
  obtain ⟨_, _, ⟨T3, L3, k3, n3⟩, -, X3, ⟨Lc3, hQ3, l3, y3, z3⟩, st3⟩ := Jvm.LawKit.callS X1 hx (y := (⟨"java/lang/Math", "min", "(II)I"⟩ : MethodName)) hown (mvT hZ (hw _ (List.mem_of_getElem? (i := 98) rfl))) (mvT hZ (hw _ (List.mem_of_getElem? (i := 70) rfl))) (mvT hZ (hw _ (List.mem_of_getElem? (i := 67) rfl))) (mvT hZ (hw _ (List.mem_of_getElem? (i := 71) rfl))) (by decide) (backOf (W := 0) (rm16 l Z a0 hw []  h0 n0 Z0 ) hZ (hw _ (List.mem_of_getElem? (i := 71) rfl)) (hw _ (List.mem_of_getElem? (i := 67) rfl)) (by decide) (by decide)) (g := (mkF m 11 #[.val (.ref o0), .val (.int p1), .val (.int p2), .val (.int (4 : Int32))] [(.int (4 : Int32)), (.int (4 : Int32))])) rfl (by rw [hml]; rfl) (argsL := [(.int (4 : Int32)), (.int (4 : Int32))]) (rest := []) (lenOf pd_23_0 rfl) rfl (by show 2 * 0 + _ ≤ _; exact Nat.le_of_eq rfl) (hb hby d23_11) (fun _ _ => ⟨rfl, e1q, (by decide : 0 + 0 ≤ _), (by decide : 0 + 0 ≤ _)⟩)
  dsimp only [Pt.U, Pt.locs, Pt.cells, Pt.slots] at X3 l3 y3 z3 st3 hQ3
  subst l3 y3 z3
  obtain ⟨rfl, N3q, e3q⟩ := hQ3
  have N3 := Fr.app N1 N3q
  have pre4 : ∀ t, Steps p.tables e below (T3.setTop (mkF m 17 #[.val (.ref o0), .val (.int p1), .val (.int p2), .val (.int (4 : Int32))] [(.int (4 : Int32)), (.int p2)])) t → Steps p.tables e below (s₁.setTop (entryFrame m #[(.ref o0), (.int p1), (.int p2), (.int (4 : Int32))] 4)) t := fun t kt => pre0 t (by
      show Steps p.tables e below (s₁.setTop (mkF m 0 #[.val (.ref o0), .val (.int p1), .val (.int p2), .val (.int (4 : Int32))] [])) _
      refine XS.iloadN X0.here hx rfl (hb hby d23_0) rfl ?_
      show Steps p.tables e below (s₁.setTop (mkF m 1 #[.val (.ref o0), .val (.int p1), .val (.int p2), .val (.int (4 : Int32))] [(.int p2)])) _
      refine XS.iconst X0.here hx rfl (hb hby d23_1) ?_
      show Steps p.tables e below (s₁.setTop (mkF m 2 #[.val (.ref o0), .val (.int p1), .val (.int p2), .val (.int (4 : Int32))] [(.int (0 : Int32)), (.int p2)])) _
      refine st1 _ ?_
      show Steps p.tables e below (T1.setTop (mkF m 5 #[.val (.ref o0), .val (.int p1), .val (.int p2), .val (.int (4 : Int32))] [(.int p2)])) _
      refine XS.istoreN X1.here hx rfl (hb hby d23_5) rfl (l' := #[.val (.ref o0), .val (.int p1), .val (.int p2), .val (.int (4 : Int32))]) rfl ?_
      show Steps p.tables e below (T1.setTop (mkF m 6 #[.val (.ref o0), .val (.int p1), .val (.int p2), .val (.int (4 : Int32))] [])) _
      refine XS.iloadN X1.here hx rfl (hb hby d23_6) rfl ?_
      show Steps p.tables e below (T1.setTop (mkF m 7 #[.val (.ref o0), .val (.int p1), .val (.int p2), .val (.int (4 : Int32))] [(.int (4 : Int32))])) _
      refine XS.aloadN X1.here hx rfl (hb hby d23_7) rfl rfl ?_
      show Steps p.tables e below (T1.setTop (mkF m 8 #[.val (.ref o0), .val (.int p1), .val (.int p2), .val (.int (4 : Int32))] [(.ref o0), (.int (4 : Int32))])) _
      refine X1.arraylength hx (by rw [e1q]; exact Ar2.1) (State.isArrayOf_alike hZ.alike Ar2.2.1) (g := (mkF m 8 #[.val (.ref o0), .val (.int p1), .val (.int p2), .val (.int (4 : Int32))] [(.ref o0), (.int (4 : Int32))])) rfl rfl (hb hby d23_8) _ ?_
      rw [len_of Sz2 Nn2]
      show Steps p.tables e below (T1.setTop (mkF m 9 #[.val (.ref o0), .val (.int p1), .val (.int p2), .val (.int (4 : Int32))] [(.int (8 : Int32)), (.int (4 : Int32))])) _
      refine XS.iconst X1.here hx rfl (hb hby d23_9) ?_
      show Steps p.tables e below (T1.setTop (mkF m 10 #[.val (.ref o0), .val (.int p1), .val (.int p2), .val (.int (4 : Int32))] [(.int (1 : Int32)), (.int (8 : Int32)), (.int (4 : Int32))])) _
      refine XS.ishr X1.here hx rfl (hb hby d23_10) rfl ?_
      show Steps p.tables e below (T1.setTop (mkF m 11 #[.val (.ref o0), .val (.int p1), .val (.int p2), .val (.int (4 : Int32))] [(.int (4 : Int32)), (.int (4 : Int32))])) _
      refine st3 _ ?_
      show Steps p.tables e below (T3.setTop (mkF m 14 #[.val (.ref o0), .val (.int p1), .val (.int p2), .val (.int (4 : Int32))] [(.int (4 : Int32))])) _
      refine XS.istoreN X3.here hx rfl (hb hby d23_14) rfl (l' := #[.val (.ref o0), .val (.int p1), .val (.int p2), .val (.int (4 : Int32))]) rfl ?_
      show Steps p.tables e below (T3.setTop (mkF m 15 #[.val (.ref o0), .val (.int p1), .val (.int p2), .val (.int (4 : Int32))] [])) _
      refine XS.iloadN X3.here hx rfl (hb hby d23_15) rfl ?_
      show Steps p.tables e below (T3.setTop (mkF m 16 #[.val (.ref o0), .val (.int p1), .val (.int p2), .val (.int (4 : Int32))] [(.int p2)])) _
      refine XS.iloadN X3.here hx rfl (hb hby d23_16) rfl ?_
      exact kt)
  by_cases hc17_5 : p2 < (4 : Int32)
  · have pre6 : ∀ t, Steps p.tables e below (T3.setTop (mkF m 25 #[.val (.ref o0), .val (.int p1), .val (.int p2), .val (.int (4 : Int32))] [(.int (65536 : Int32)), (.int p1)])) t → Steps p.tables e below (s₁.setTop (entryFrame m #[(.ref o0), (.int p1), (.int p2), (.int (4 : Int32))] 4)) t := fun t kt => pre4 t (by
        show Steps p.tables e below (T3.setTop (mkF m 17 #[.val (.ref o0), .val (.int p1), .val (.int p2), .val (.int (4 : Int32))] [(.int (4 : Int32)), (.int p2)])) _
        refine XS.icmpYes X3.here hx rfl (pc0 := 17) (pc' := 22) rfl (hb hby d23_17) rfl (tlt hc17_5).1 (by decide) (by decide) ?_
        show Steps p.tables e below (T3.setTop (mkF m 22 #[.val (.ref o0), .val (.int p1), .val (.int p2), .val (.int (4 : Int32))] [])) _
        refine XS.iloadN X3.here hx rfl (hb hby d23_22) rfl ?_
        show Steps p.tables e below (T3.setTop (mkF m 23 #[.val (.ref o0), .val (.int p1), .val (.int p2), .val (.int (4 : Int32))] [(.int p1)])) _
        refine X3.ldcInt hx hown (mvT hZ (hw _ (List.mem_of_getElem? (i := 99) rfl))) (g := (mkF m 23 #[.val (.ref o0), .val (.int p1), .val (.int p2), .val (.int (4 : Int32))] [(.int p1)])) rfl (hb hby d23_23) _ ?_
        exact kt)
    have hd25_7 : p1 < (65536 : Int32) := hc
    obtain ⟨_, _, ⟨T8, L8, k8, n8⟩, -, X8, ⟨Lc8, hQ8, l8, y8, z8⟩, st8⟩ := Jvm.LawKit.callS X3 hx (y := (⟨"java/lang/StringUTF16", "indexOfChar", "([BIII)I"⟩ : MethodName)) hown (mvT hZ (hw _ (List.mem_of_getElem? (i := 100) rfl))) (mvT hZ (hw _ (List.mem_of_getElem? (i := 101) rfl))) (mvT hZ (hw _ (List.mem_of_getElem? (i := 17) rfl))) (mvT hZ (hw _ (List.mem_of_getElem? (i := 102) rfl))) (by decide) (backOf (W := 0) (rm24 l Z a0 hw [] o0 p1 p2 fm F h0 n0 Z0 S__assertionsDisabled S_HI_BYTE_SHIFT S_LO_BYTE_SHIFT S_SIOOBE_FORMATTER (hfm) V_o0 (⟨hn, hc17_5⟩)) hZ (hw _ (List.mem_of_getElem? (i := 102) rfl)) (hw _ (List.mem_of_getElem? (i := 17) rfl)) (by decide) (by decide)) (g := (mkF m 32 #[.val (.ref o0), .val (.int p1), .val (.int p2), .val (.int (4 : Int32))] [(.int (4 : Int32)), (.int p2), (.int p1), (.ref o0)])) rfl (by rw [hml]; rfl) (argsL := [(.ref o0), (.int p1), (.int p2), (.int (4 : Int32))]) (rest := []) (lenOf pd_23_1 rfl) rfl (by show 2 * 0 + _ ≤ _; exact Nat.le_of_eq rfl) (hb hby d23_32) (fun _ _ => ⟨rfl, e3q, (by decide : 0 + 0 ≤ _), (by decide : 0 + 0 ≤ _)⟩)
    dsimp only [Pt.U, Pt.locs, Pt.cells, Pt.slots] at X8 l8 y8 z8 st8 hQ8
    subst l8 y8 z8
    obtain ⟨rfl, N8q, e8q⟩ := hQ8
    have N8 := Fr.app N3 N8q
    obtain ⟨fs, hr, hrun, hended, hW, hsame⟩ := X8.leave (v := some (.int (f29 p1 p2 F))) (fun h => by rw [Bd.returns] at h; cases h)
    have hv9 : (f23 p1 p2 F) = (f29 p1 p2 F) := by rw [f23, if_pos hc17_5]
    refine ⟨_, _, pre6 _ ?_, hrun, hended, _, _, rfl, ?_, ⟨_, rfl⟩, hW, hsame.mono (by decide) (by decide)⟩
    · show Steps p.tables e below (T3.setTop (mkF m 25 #[.val (.ref o0), .val (.int p1), .val (.int p2), .val (.int (4 : Int32))] [(.int (65536 : Int32)), (.int p1)])) _
      refine XS.icmpNo X3.here hx rfl (hb hby d23_25) rfl (tlt hd25_7).2.1 ?_
      show Steps p.tables e below (T3.setTop (mkF m 28 #[.val (.ref o0), .val (.int p1), .val (.int p2), .val (.int (4 : Int32))] [])) _
      refine XS.aloadN X3.here hx rfl (hb hby d23_28) rfl rfl ?_
      show Steps p.tables e below (T3.setTop (mkF m 29 #[.val (.ref o0), .val (.int p1), .val (.int p2), .val (.int (4 : Int32))] [(.ref o0)])) _
      refine XS.iloadN X3.here hx rfl (hb hby d23_29) rfl ?_
      show Steps p.tables e below (T3.setTop (mkF m 30 #[.val (.ref o0), .val (.int p1), .val (.int p2), .val (.int (4 : Int32))] [(.int p1), (.ref o0)])) _
      refine XS.iloadN X3.here hx rfl (hb hby d23_30) rfl ?_
      show Steps p.tables e below (T3.setTop (mkF m 31 #[.val (.ref o0), .val (.int p1), .val (.int p2), .val (.int (4 : Int32))] [(.int p2), (.int p1), (.ref o0)])) _
      refine XS.iloadN X3.here hx rfl (hb hby d23_31) rfl ?_
      show Steps p.tables e below (T3.setTop (mkF m 32 #[.val (.ref o0), .val (.int p1), .val (.int p2), .val (.int (4 : Int32))] [(.int (4 : Int32)), (.int p2), (.int p1), (.ref o0)])) _
      refine st8 _ ?_
      show Steps p.tables e below (T8.setTop (mkF m 35 #[.val (.ref o0), .val (.int p1), .val (.int p2), .val (.int (4 : Int32))] [(.int (f29 p1 p2 F))])) _
      exact retI X8 hx Bd.returns (hb hby d23_35) hr
    · show Q23 Z o0 p1 p2 fm F h0 n0 _ T8.heap _
      rw [e8q]
      exact ⟨congrArg (fun q => some (Value.int q)) hv9.symm, N8, rfl⟩
  · obtain ⟨fs, hr, hrun, hended, hW, hsame⟩ := X3.leave (v := some (.int (-1 : Int32))) (fun h => by rw [Bd.returns] at h; cases h)
    have hv10 : (f23 p1 p2 F) = (-1 : Int32) := by rw [f23, if_neg hc17_5]
    refine ⟨_, _, pre4 _ ?_, hrun, hended, _, _, rfl, ?_, ⟨_, rfl⟩, hW, hsame.mono (by decide) (by decide)⟩
    · show Steps p.tables e below (T3.setTop (mkF m 17 #[.val (.ref o0), .val (.int p1), .val (.int p2), .val (.int (4 : Int32))] [(.int (4 : Int32)), (.int p2)])) _
      refine XS.icmpNo X3.here hx rfl (hb hby d23_17) rfl (flt hc17_5).1 ?_
      show Steps p.tables e below (T3.setTop (mkF m 20 #[.val (.ref o0), .val (.int p1), .val (.int p2), .val (.int (4 : Int32))] [])) _
      refine XS.iconst X3.here hx rfl (hb hby d23_20) ?_
      show Steps p.tables e below (T3.setTop (mkF m 21 #[.val (.ref o0), .val (.int p1), .val (.int p2), .val (.int (4 : Int32))] [(.int (-1 : Int32))])) _
      exact retI X3 hx Bd.returns (hb hby d23_21) hr
    · show Q23 Z o0 p1 p2 fm F h0 n0 _ T3.heap _
      rw [e3q]
      exact ⟨congrArg (fun q => some (Value.int q)) hv10.symm, N3, rfl⟩
theorem d9_0 : decode jdk_42_method_80_code 0 = .ok (.aload_n 0, 1) := by decide +kernel
theorem d9_1 : decode jdk_42_method_80_code 1 = .ok (.invokevirtual 492, 3) := by decide +kernel
theorem d9_4 : decode jdk_42_method_80_code 4 = .ok (.ifCond .eq 19, 3) := by decide +kernel
theorem d9_7 : decode jdk_42_method_80_code 7 = .ok (.aload_n 0, 1) := by decide +kernel
theorem d9_8 : decode jdk_42_method_80_code 8 = .ok (.getfield 9, 3) := by decide +kernel
theorem d9_11 : decode jdk_42_method_80_code 11 = .ok (.iload_n 1, 1) := by decide +kernel
theorem d9_12 : decode jdk_42_method_80_code 12 = .ok (.iload_n 2, 1) := by decide +kernel
theorem d9_13 : decode jdk_42_method_80_code 13 = .ok (.aload_n 0, 1) := by decide +kernel
theorem d9_14 : decode jdk_42_method_80_code 14 = .ok (.invokevirtual 505, 3) := by decide +kernel
theorem d9_17 : decode jdk_42_method_80_code 17 = .ok (.invokestatic 637, 3) := by decide +kernel
theorem d9_20 : decode jdk_42_method_80_code 20 = .ok (.goto 16, 3) := by decide +kernel
theorem d9_36 : decode jdk_42_method_80_code 36 = .ok (.ireturn, 1) := by decide +kernel
theorem pn_9l : plainName "java/lang/String" = true := by first | (simp [plainName, overriddenIn]; done) | decide +kernel
theorem pd_9l_0 : parseMethodDescriptor "()Z" = some ⟨[], some .boolean⟩ := by decide +kernel
theorem pd_9l_1 : parseMethodDescriptor "()I" = some ⟨[], some .int⟩ := by decide +kernel
theorem pd_9l_2 : parseMethodDescriptor "([BIII)I" = some ⟨[(.array .byte), .int, .int, .int], some .int⟩ := by decide +kernel
theorem ef_9l (m : MethodId) (x0 : Addr) (x1 : Int32) (x2 : Int32) : entryFrame m #[(.ref x0), (.int x1), (.int x2)] 3 = mkF m 0 #[.val (.ref x0), .val (.int x1), .val (.int x2)] [] := by first | (simp [entryFrame, mkF, argsToLocals, Value.category]; done) | rfl
def Q9l (Z : State) (o0 : Addr) (p1 : Int32) (p2 : Int32) (cs : Int32) (va : Addr) (F : Nat → Int32) (h0 : Heap) (n0 : Nat) (v : Option Value) (h : Heap) (L : List Loc) : Prop := v = some (.int (f13 p1 p2 F)) ∧ Fr n0 L ∧ h = h0
set_option maxRecDepth 65536 in
set_option maxHeartbeats 40000000 in
theorem rm9l (l : Launch) (Z : State) (a0 : Array Value) (hw : ∀ d ∈ tables_1, d.before a0 Z = true) (ws : List Jvm.Cond) (o0 : Addr) (p1 : Int32) (p2 : Int32) (cs : Int32) (va : Addr) (F : Nat → Int32) (h0 : Heap) (n0 : Nat) (Z0 : n0 ≤ h0.size) (S_COMPACT_STRINGS : Sta Z h0 "java/lang/String" "COMPACT_STRINGS" "Z" (.int cs)) (hcs : ¬ cs = (0 : Int32)) (F_coder_o0 : Fld Z h0 o0 "java/lang/String" "coder" "B" (.int (0 : Int32))) (F_value_o0 : Fld Z h0 o0 "java/lang/String" "value" "[B" (.ref va)) (V_va : own_AI Z h0 va .byte (4 : Int32) F) (E_o0 : Exa Z h0 o0 "java/lang/String") (h0c : ¬ p1 < 0) (hn : ¬ p2 < 0) :
    MetFree l (⟨"java/lang/String", "indexOf", "(II)I"⟩ : MethodName) (head1 (Jvm.Cond.code (⟨"java/lang/String", "indexOf", "(II)I"⟩ : MethodName) jdk_42_method_80_code 3 (some .int) :: ws) ({ frames := 2, cells := 0, slots := 0, locals := 32 } : Room)) (fun a U => a = #[(.ref o0), (.int p1), (.int p2)] ∧ Z.Warmed39 U.vm ∧ U.heap = h0) (fun _ _ _ _ _ => True) (fun _ U o U' => ∃ v L, o = .returned v ∧ Q9l Z o0 p1 p2 cs va F h0 n0 v U'.heap L ∧ FrameEnd U o U' L ({ frames := 2, cells := 0, slots := 0, locals := 32 } : Room).cells ({ frames := 2, cells := 0, slots := 0, locals := 32 } : Room).slots) := by
  refine MetFree.of_bodySF (plainFor_of_name pn_9l) hisR ?_
  intro p e s m args below meth c s₁ Bd hml0 hP hK
  obtain ⟨rfl, hZ, hh⟩ := hP
  have hx := Bd.exec
  have hby := Bd.bytes
  have hml : c.maxLocals = 3 := hml0
  have hown : s.vm.findClass "java/lang/String" = some m.cls := findClass_of_methodNamed Bd.named
  have hnm := (name_of_methodNamed Bd.named Bd.method).1
  have X0 : Stand p l e ({ frames := 2, cells := 0, slots := 0, locals := 32 } : Room) s m #[(.ref o0), (.int p1), (.int p2)] below meth c s₁ [] 0 0 := Stand.of_body Bd
  have e0 : s₁.heap = h0 := by rw [← hh, Bd.state]; rfl
  have N0 := Fr.nil n0
  have pre0 : ∀ t, Steps p.tables e below (s₁.setTop (mkF m 0 #[.val (.ref o0), .val (.int p1), .val (.int p2)] [])) t → Steps p.tables e below (s₁.setTop (entryFrame m #[(.ref o0), (.int p1), (.int p2)] 3)) t := fun t k => castTop (ef_9l m o0 p1 p2) k
  obtain ⟨cq1, kq1, q1a, q1b, q1c⟩ := isOf hZ e0 E_o0
  obtain ⟨_, _, ⟨T1, L1, k1, n1⟩, -, X1, ⟨Lc1, hQ1, l1, y1, z1⟩, st1⟩ := X0.virtualBack hx (y := (⟨"java/lang/String", "isLatin1", "()Z"⟩ : MethodName)) (z := (⟨"java/lang/String", "isLatin1", "()Z"⟩ : MethodName)) hown (mvT hZ (hw _ (List.mem_of_getElem? (i := 43) rfl))) (mvT hZ (hw _ (List.mem_of_getElem? (i := 44) rfl))) (notFace_of_selects (args := #[]) (mvT hZ (hw _ (List.mem_of_getElem? (i := 46) rfl)))) (mvT hZ (hw _ (List.mem_of_getElem? (i := 46) rfl))) (mvT hZ (hw _ (List.mem_of_getElem? (i := 45) rfl))) (by decide) (backOf (W := 0) (rm10l l Z a0 hw [] o0 cs h0 n0 Z0 S_COMPACT_STRINGS (hcs) F_coder_o0) hZ (hw _ (List.mem_of_getElem? (i := 47) rfl)) (hw _ (List.mem_of_getElem? (i := 3) rfl)) (by decide) (by decide)) q1a q1c (g := (mkF m 1 #[.val (.ref o0), .val (.int p1), .val (.int p2)] [(.ref o0)])) rfl (by rw [hml]; rfl) (Steps.refl _) (argsL := []) (rest := []) (lenOf pd_9l_0 rfl) rfl (by show 2 * 0 + _ ≤ _; exact Nat.le_of_eq rfl) (hb hby d9_1) (fun _ _ => ⟨rfl, e0, (by decide : 0 + 0 ≤ _), (by decide : 0 + 0 ≤ _)⟩)
  dsimp only [Pt.U, Pt.locs, Pt.cells, Pt.slots] at X1 l1 y1 z1 st1 hQ1
  subst l1 y1 z1
  obtain ⟨rfl, N1q, e1q⟩ := hQ1
  have N1 := Fr.app N0 N1q
  have pre2 : ∀ t, Steps p.tables e below (T1.setTop (mkF m 4 #[.val (.ref o0), .val (.int p1), .val (.int p2)] [(.int (1 : Int32))])) t → Steps p.tables e below (s₁.setTop (entryFrame m #[(.ref o0), (.int p1), (.int p2)] 3)) t := fun t kt => pre0 t (by
      show Steps p.tables e below (s₁.setTop (mkF m 0 #[.val (.ref o0), .val (.int p1), .val (.int p2)] [])) _
      refine XS.aloadN X0.here hx rfl (hb hby d9_0) rfl rfl ?_
      show Steps p.tables e below (s₁.setTop (mkF m 1 #[.val (.ref o0), .val (.int p1), .val (.int p2)] [(.ref o0)])) _
      refine st1.trans ?_
      exact kt)
  obtain ⟨T3, X3, e3, st3⟩ := getF X1 hx hZ hown (host := "") (Or.inl (hw _ (List.mem_of_getElem? (i := 28) rfl))) Via.refl e1q F_value_o0 (g := (mkF m 8 #[.val (.ref o0), .val (.int p1), .val (.int p2)] [(.ref o0)])) rfl rfl (hb hby d9_8)
  obtain ⟨cq4, kq4, q4a, q4b, q4c⟩ := isOf hZ e3 E_o0
  obtain ⟨_, _, ⟨T4, L4, k4, n4⟩, -, X4, ⟨Lc4, hQ4, l4, y4, z4⟩, st4⟩ := X3.virtualBack hx (y := (⟨"java/lang/String", "length", "()I"⟩ : MethodName)) (z := (⟨"java/lang/String", "length", "()I"⟩ : MethodName)) hown (mvT hZ (hw _ (List.mem_of_getElem? (i := 48) rfl))) (mvT hZ (hw _ (List.mem_of_getElem? (i := 49) rfl))) (notFace_of_selects (args := #[]) (mvT hZ (hw _ (List.mem_of_getElem? (i := 51) rfl)))) (mvT hZ (hw _ (List.mem_of_getElem? (i := 51) rfl))) (mvT hZ (hw _ (List.mem_of_getElem? (i := 50) rfl))) (by decide) (backOf (W := 3) (rm11l l Z a0 hw [] o0 cs va F h0 n0 Z0 S_COMPACT_STRINGS (hcs) F_coder_o0 F_value_o0 V_va E_o0) hZ (hw _ (List.mem_of_getElem? (i := 52) rfl)) (hw _ (List.mem_of_getElem? (i := 3) rfl)) (by decide) (by decide)) q4a q4c (g := (mkF m 14 #[.val (.ref o0), .val (.int p1), .val (.int p2)] [(.ref o0), (.int p2), (.int p1), (.ref va)])) rfl (by rw [hml]; rfl) (Steps.refl _) (argsL := []) (rest := [(.int p2), (.int p1), (.ref va)]) (lenOf pd_9l_1 rfl) rfl (by show 2 * 0 + _ ≤ _; exact Nat.le_of_eq rfl) (hb hby d9_14) (fun _ _ => ⟨rfl, e3, (by decide : 0 + 0 ≤ _), (by decide : 0 + 0 ≤ _)⟩)
  dsimp only [Pt.U, Pt.locs, Pt.cells, Pt.slots] at X4 l4 y4 z4 st4 hQ4
  subst l4 y4 z4
  obtain ⟨rfl, N4q, e4q⟩ := hQ4
  have N4 := Fr.app N1 N4q
  obtain ⟨_, _, ⟨T5, L5, k5, n5⟩, -, X5, ⟨Lc5, hQ5, l5, y5, z5⟩, st5⟩ := Jvm.LawKit.callS X4 hx (y := (⟨"java/lang/StringLatin1", "indexOf", "([BIII)I"⟩ : MethodName)) hown (mvT hZ (hw _ (List.mem_of_getElem? (i := 58) rfl))) (mvT hZ (hw _ (List.mem_of_getElem? (i := 59) rfl))) (mvT hZ (hw _ (List.mem_of_getElem? (i := 60) rfl))) (mvT hZ (hw _ (List.mem_of_getElem? (i := 61) rfl))) (by decide) (backOf (W := 0) (rm13 l Z a0 hw [] va p1 p2 F h0 n0 Z0 V_va (hn) (h0c)) hZ (hw _ (List.mem_of_getElem? (i := 61) rfl)) (hw _ (List.mem_of_getElem? (i := 60) rfl)) (by decide) (by decide)) (g := (mkF m 17 #[.val (.ref o0), .val (.int p1), .val (.int p2)] [(.int (4 : Int32)), (.int p2), (.int p1), (.ref va)])) rfl (by rw [hml]; rfl) (argsL := [(.ref va), (.int p1), (.int p2), (.int (4 : Int32))]) (rest := []) (lenOf pd_9l_2 rfl) rfl (by show 2 * 0 + _ ≤ _; exact Nat.le_of_eq rfl) (hb hby d9_17) (fun _ _ => ⟨rfl, e4q, (by decide : 0 + 0 ≤ _), (by decide : 0 + 0 ≤ _)⟩)
  dsimp only [Pt.U, Pt.locs, Pt.cells, Pt.slots] at X5 l5 y5 z5 st5 hQ5
  subst l5 y5 z5
  obtain ⟨rfl, N5q, e5q⟩ := hQ5
  have N5 := Fr.app N4 N5q
  obtain ⟨fs, hr, hrun, hended, hW, hsame⟩ := X5.leave (v := some (.int (f13 p1 p2 F))) (fun h => by rw [Bd.returns] at h; cases h)
  have hv6 : (f13 p1 p2 F) = (f13 p1 p2 F) := rfl
  refine ⟨_, _, pre2 _ ?_, hrun, hended, _, _, rfl, ?_, ⟨_, rfl⟩, hW, hsame.mono (by decide) (by decide)⟩
  · show Steps p.tables e below (T1.setTop (mkF m 4 #[.val (.ref o0), .val (.int p1), .val (.int p2)] [(.int (1 : Int32))])) _
    refine XS.ifNo X1.here hx rfl (hb hby d9_4) rfl ((if0 _ _).trans (feq (by decide : ¬ ((1 : Int32) = (0 : Int32)))).1) ?_
    show Steps p.tables e below (T1.setTop (mkF m 7 #[.val (.ref o0), .val (.int p1), .val (.int p2)] [])) _
    refine XS.aloadN X1.here hx rfl (hb hby d9_7) rfl rfl ?_
    show Steps p.tables e below (T1.setTop (mkF m 8 #[.val (.ref o0), .val (.int p1), .val (.int p2)] [(.ref o0)])) _
    refine st3 _ ?_
    show Steps p.tables e below (T3.setTop (mkF m 11 #[.val (.ref o0), .val (.int p1), .val (.int p2)] [(.ref va)])) _
    refine XS.iloadN X3.here hx rfl (hb hby d9_11) rfl ?_
    show Steps p.tables e below (T3.setTop (mkF m 12 #[.val (.ref o0), .val (.int p1), .val (.int p2)] [(.int p1), (.ref va)])) _
    refine XS.iloadN X3.here hx rfl (hb hby d9_12) rfl ?_
    show Steps p.tables e below (T3.setTop (mkF m 13 #[.val (.ref o0), .val (.int p1), .val (.int p2)] [(.int p2), (.int p1), (.ref va)])) _
    refine XS.aloadN X3.here hx rfl (hb hby d9_13) rfl rfl ?_
    show Steps p.tables e below (T3.setTop (mkF m 14 #[.val (.ref o0), .val (.int p1), .val (.int p2)] [(.ref o0), (.int p2), (.int p1), (.ref va)])) _
    refine st4.trans ?_
    show Steps p.tables e below (T4.setTop (mkF m 17 #[.val (.ref o0), .val (.int p1), .val (.int p2)] [(.int (4 : Int32)), (.int p2), (.int p1), (.ref va)])) _
    refine st5 _ ?_
    show Steps p.tables e below (T5.setTop (mkF m 20 #[.val (.ref o0), .val (.int p1), .val (.int p2)] [(.int (f13 p1 p2 F))])) _
    refine XS.goto X5.here hx rfl (pc0 := 20) (pc' := 36) rfl (hb hby d9_20) (by decide) (by decide) ?_
    show Steps p.tables e below (T5.setTop (mkF m 36 #[.val (.ref o0), .val (.int p1), .val (.int p2)] [(.int (f13 p1 p2 F))])) _
    exact retI X5 hx Bd.returns (hb hby d9_36) hr
  · show Q9l Z o0 p1 p2 cs va F h0 n0 _ T5.heap _
    rw [e5q]
    exact ⟨congrArg (fun q => some (Value.int q)) hv6.symm, N5, rfl⟩
theorem d9_23 : decode jdk_42_method_80_code 23 = .ok (.aload_n 0, 1) := by decide +kernel
theorem d9_24 : decode jdk_42_method_80_code 24 = .ok (.getfield 9, 3) := by decide +kernel
theorem d9_27 : decode jdk_42_method_80_code 27 = .ok (.iload_n 1, 1) := by decide +kernel
theorem d9_28 : decode jdk_42_method_80_code 28 = .ok (.iload_n 2, 1) := by decide +kernel
theorem d9_29 : decode jdk_42_method_80_code 29 = .ok (.aload_n 0, 1) := by decide +kernel
theorem d9_30 : decode jdk_42_method_80_code 30 = .ok (.invokevirtual 505, 3) := by decide +kernel
theorem d9_33 : decode jdk_42_method_80_code 33 = .ok (.invokestatic 640, 3) := by decide +kernel
theorem pn_9u : plainName "java/lang/String" = true := by first | (simp [plainName, overriddenIn]; done) | decide +kernel
theorem pd_9u_0 : parseMethodDescriptor "()Z" = some ⟨[], some .boolean⟩ := by decide +kernel
theorem pd_9u_1 : parseMethodDescriptor "()I" = some ⟨[], some .int⟩ := by decide +kernel
theorem pd_9u_2 : parseMethodDescriptor "([BIII)I" = some ⟨[(.array .byte), .int, .int, .int], some .int⟩ := by decide +kernel
theorem ef_9u (m : MethodId) (x0 : Addr) (x1 : Int32) (x2 : Int32) : entryFrame m #[(.ref x0), (.int x1), (.int x2)] 3 = mkF m 0 #[.val (.ref x0), .val (.int x1), .val (.int x2)] [] := by first | (simp [entryFrame, mkF, argsToLocals, Value.category]; done) | rfl
def Q9u (Z : State) (o0 : Addr) (p1 : Int32) (p2 : Int32) (cs : Int32) (va : Addr) (F : Nat → Int32) (fm : Value) (h0 : Heap) (n0 : Nat) (v : Option Value) (h : Heap) (L : List Loc) : Prop := v = some (.int (f23 p1 p2 F)) ∧ Fr n0 L ∧ h = h0
set_option maxRecDepth 65536 in
set_option maxHeartbeats 40000000 in
theorem rm9u (l : Launch) (Z : State) (a0 : Array Value) (hw : ∀ d ∈ tables_1, d.before a0 Z = true) (ws : List Jvm.Cond) (o0 : Addr) (p1 : Int32) (p2 : Int32) (cs : Int32) (va : Addr) (F : Nat → Int32) (fm : Value) (h0 : Heap) (n0 : Nat) (Z0 : n0 ≤ h0.size) (S_COMPACT_STRINGS : Sta Z h0 "java/lang/String" "COMPACT_STRINGS" "Z" (.int cs)) (hcs : ¬ cs = (0 : Int32)) (F_coder_o0 : Fld Z h0 o0 "java/lang/String" "coder" "B" (.int (1 : Int32))) (F_value_o0 : Fld Z h0 o0 "java/lang/String" "value" "[B" (.ref va)) (V_va : own_AI Z h0 va .byte (8 : Int32) F) (E_o0 : Exa Z h0 o0 "java/lang/String") (S__assertionsDisabled : Sta Z h0 "java/lang/StringUTF16" "$assertionsDisabled" "Z" (.int (1 : Int32))) (S_HI_BYTE_SHIFT : Sta Z h0 "java/lang/StringUTF16" "HI_BYTE_SHIFT" "I" (.int (0 : Int32))) (S_LO_BYTE_SHIFT : Sta Z h0 "java/lang/StringUTF16" "LO_BYTE_SHIFT" "I" (.int (8 : Int32))) (S_SIOOBE_FORMATTER : Sta Z h0 "jdk/internal/util/Preconditions" "SIOOBE_FORMATTER" "Ljava/util/function/BiFunction;" fm) (hfm : fm.isRef = true) (hc : p1 < (65536 : Int32)) (hn : ¬ p2 < 0) :
    MetFree l (⟨"java/lang/String", "indexOf", "(II)I"⟩ : MethodName) (head1 (Jvm.Cond.code (⟨"java/lang/String", "indexOf", "(II)I"⟩ : MethodName) jdk_42_method_80_code 3 (some .int) :: ws) ({ frames := 5, cells := 0, slots := 0, locals := 73 } : Room)) (fun a U => a = #[(.ref o0), (.int p1), (.int p2)] ∧ Z.Warmed39 U.vm ∧ U.heap = h0) (fun _ _ _ _ _ => True) (fun _ U o U' => ∃ v L, o = .returned v ∧ Q9u Z o0 p1 p2 cs va F fm h0 n0 v U'.heap L ∧ FrameEnd U o U' L ({ frames := 5, cells := 0, slots := 0, locals := 73 } : Room).cells ({ frames := 5, cells := 0, slots := 0, locals := 73 } : Room).slots) := by
  refine MetFree.of_bodySF (plainFor_of_name pn_9u) hisR ?_
  intro p e s m args below meth c s₁ Bd hml0 hP hK
  obtain ⟨rfl, hZ, hh⟩ := hP
  have hx := Bd.exec
  have hby := Bd.bytes
  have hml : c.maxLocals = 3 := hml0
  have hown : s.vm.findClass "java/lang/String" = some m.cls := findClass_of_methodNamed Bd.named
  have hnm := (name_of_methodNamed Bd.named Bd.method).1
  have X0 : Stand p l e ({ frames := 5, cells := 0, slots := 0, locals := 73 } : Room) s m #[(.ref o0), (.int p1), (.int p2)] below meth c s₁ [] 0 0 := Stand.of_body Bd
  have e0 : s₁.heap = h0 := by rw [← hh, Bd.state]; rfl
  have N0 := Fr.nil n0
  have pre0 : ∀ t, Steps p.tables e below (s₁.setTop (mkF m 0 #[.val (.ref o0), .val (.int p1), .val (.int p2)] [])) t → Steps p.tables e below (s₁.setTop (entryFrame m #[(.ref o0), (.int p1), (.int p2)] 3)) t := fun t k => castTop (ef_9u m o0 p1 p2) k
  obtain ⟨cq1, kq1, q1a, q1b, q1c⟩ := isOf hZ e0 E_o0
  obtain ⟨_, _, ⟨T1, L1, k1, n1⟩, -, X1, ⟨Lc1, hQ1, l1, y1, z1⟩, st1⟩ := X0.virtualBack hx (y := (⟨"java/lang/String", "isLatin1", "()Z"⟩ : MethodName)) (z := (⟨"java/lang/String", "isLatin1", "()Z"⟩ : MethodName)) hown (mvT hZ (hw _ (List.mem_of_getElem? (i := 43) rfl))) (mvT hZ (hw _ (List.mem_of_getElem? (i := 44) rfl))) (notFace_of_selects (args := #[]) (mvT hZ (hw _ (List.mem_of_getElem? (i := 46) rfl)))) (mvT hZ (hw _ (List.mem_of_getElem? (i := 46) rfl))) (mvT hZ (hw _ (List.mem_of_getElem? (i := 45) rfl))) (by decide) (backOf (W := 0) (rm10u l Z a0 hw [] o0 cs h0 n0 Z0 S_COMPACT_STRINGS (hcs) F_coder_o0) hZ (hw _ (List.mem_of_getElem? (i := 47) rfl)) (hw _ (List.mem_of_getElem? (i := 3) rfl)) (by decide) (by decide)) q1a q1c (g := (mkF m 1 #[.val (.ref o0), .val (.int p1), .val (.int p2)] [(.ref o0)])) rfl (by rw [hml]; rfl) (Steps.refl _) (argsL := []) (rest := []) (lenOf pd_9u_0 rfl) rfl (by show 2 * 0 + _ ≤ _; exact Nat.le_of_eq rfl) (hb hby d9_1) (fun _ _ => ⟨rfl, e0, (by decide : 0 + 0 ≤ _), (by decide : 0 + 0 ≤ _)⟩)
  dsimp only [Pt.U, Pt.locs, Pt.cells, Pt.slots] at X1 l1 y1 z1 st1 hQ1
  subst l1 y1 z1
  obtain ⟨rfl, N1q, e1q⟩ := hQ1
  have N1 := Fr.app N0 N1q
  have pre2 : ∀ t, Steps p.tables e below (T1.setTop (mkF m 4 #[.val (.ref o0), .val (.int p1), .val (.int p2)] [(.int (0 : Int32))])) t → Steps p.tables e below (s₁.setTop (entryFrame m #[(.ref o0), (.int p1), (.int p2)] 3)) t := fun t kt => pre0 t (by
      show Steps p.tables e below (s₁.setTop (mkF m 0 #[.val (.ref o0), .val (.int p1), .val (.int p2)] [])) _
      refine XS.aloadN X0.here hx rfl (hb hby d9_0) rfl rfl ?_
      show Steps p.tables e below (s₁.setTop (mkF m 1 #[.val (.ref o0), .val (.int p1), .val (.int p2)] [(.ref o0)])) _
      refine st1.trans ?_
      exact kt)
  obtain ⟨T3, X3, e3, st3⟩ := getF X1 hx hZ hown (host := "") (Or.inl (hw _ (List.mem_of_getElem? (i := 28) rfl))) Via.refl e1q F_value_o0 (g := (mkF m 24 #[.val (.ref o0), .val (.int p1), .val (.int p2)] [(.ref o0)])) rfl rfl (hb hby d9_24)
  obtain ⟨cq4, kq4, q4a, q4b, q4c⟩ := isOf hZ e3 E_o0
  obtain ⟨_, _, ⟨T4, L4, k4, n4⟩, -, X4, ⟨Lc4, hQ4, l4, y4, z4⟩, st4⟩ := X3.virtualBack hx (y := (⟨"java/lang/String", "length", "()I"⟩ : MethodName)) (z := (⟨"java/lang/String", "length", "()I"⟩ : MethodName)) hown (mvT hZ (hw _ (List.mem_of_getElem? (i := 48) rfl))) (mvT hZ (hw _ (List.mem_of_getElem? (i := 49) rfl))) (notFace_of_selects (args := #[]) (mvT hZ (hw _ (List.mem_of_getElem? (i := 51) rfl)))) (mvT hZ (hw _ (List.mem_of_getElem? (i := 51) rfl))) (mvT hZ (hw _ (List.mem_of_getElem? (i := 50) rfl))) (by decide) (backOf (W := 3) (rm11u l Z a0 hw [] o0 cs va F h0 n0 Z0 S_COMPACT_STRINGS (hcs) F_coder_o0 F_value_o0 V_va E_o0) hZ (hw _ (List.mem_of_getElem? (i := 52) rfl)) (hw _ (List.mem_of_getElem? (i := 3) rfl)) (by decide) (by decide)) q4a q4c (g := (mkF m 30 #[.val (.ref o0), .val (.int p1), .val (.int p2)] [(.ref o0), (.int p2), (.int p1), (.ref va)])) rfl (by rw [hml]; rfl) (Steps.refl _) (argsL := []) (rest := [(.int p2), (.int p1), (.ref va)]) (lenOf pd_9u_1 rfl) rfl (by show 2 * 0 + _ ≤ _; exact Nat.le_of_eq rfl) (hb hby d9_30) (fun _ _ => ⟨rfl, e3, (by decide : 0 + 0 ≤ _), (by decide : 0 + 0 ≤ _)⟩)
  dsimp only [Pt.U, Pt.locs, Pt.cells, Pt.slots] at X4 l4 y4 z4 st4 hQ4
  subst l4 y4 z4
  obtain ⟨rfl, N4q, e4q⟩ := hQ4
  have N4 := Fr.app N1 N4q
  obtain ⟨_, _, ⟨T5, L5, k5, n5⟩, -, X5, ⟨Lc5, hQ5, l5, y5, z5⟩, st5⟩ := Jvm.LawKit.callS X4 hx (y := (⟨"java/lang/StringUTF16", "indexOf", "([BIII)I"⟩ : MethodName)) hown (mvT hZ (hw _ (List.mem_of_getElem? (i := 94) rfl))) (mvT hZ (hw _ (List.mem_of_getElem? (i := 95) rfl))) (mvT hZ (hw _ (List.mem_of_getElem? (i := 17) rfl))) (mvT hZ (hw _ (List.mem_of_getElem? (i := 96) rfl))) (by decide) (backOf (W := 0) (rm23 l Z a0 hw [] va p1 p2 fm F h0 n0 Z0 S__assertionsDisabled S_HI_BYTE_SHIFT S_LO_BYTE_SHIFT S_SIOOBE_FORMATTER (hfm) V_va (hn) (hc)) hZ (hw _ (List.mem_of_getElem? (i := 96) rfl)) (hw _ (List.mem_of_getElem? (i := 17) rfl)) (by decide) (by decide)) (g := (mkF m 33 #[.val (.ref o0), .val (.int p1), .val (.int p2)] [(.int (4 : Int32)), (.int p2), (.int p1), (.ref va)])) rfl (by rw [hml]; rfl) (argsL := [(.ref va), (.int p1), (.int p2), (.int (4 : Int32))]) (rest := []) (lenOf pd_9u_2 rfl) rfl (by show 2 * 0 + _ ≤ _; exact Nat.le_of_eq rfl) (hb hby d9_33) (fun _ _ => ⟨rfl, e4q, (by decide : 0 + 0 ≤ _), (by decide : 0 + 0 ≤ _)⟩)
  dsimp only [Pt.U, Pt.locs, Pt.cells, Pt.slots] at X5 l5 y5 z5 st5 hQ5
  subst l5 y5 z5
  obtain ⟨rfl, N5q, e5q⟩ := hQ5
  have N5 := Fr.app N4 N5q
  obtain ⟨fs, hr, hrun, hended, hW, hsame⟩ := X5.leave (v := some (.int (f23 p1 p2 F))) (fun h => by rw [Bd.returns] at h; cases h)
  have hv6 : (f23 p1 p2 F) = (f23 p1 p2 F) := rfl
  refine ⟨_, _, pre2 _ ?_, hrun, hended, _, _, rfl, ?_, ⟨_, rfl⟩, hW, hsame.mono (by decide) (by decide)⟩
  · show Steps p.tables e below (T1.setTop (mkF m 4 #[.val (.ref o0), .val (.int p1), .val (.int p2)] [(.int (0 : Int32))])) _
    refine XS.ifYes X1.here hx rfl (pc0 := 4) (pc' := 23) rfl (hb hby d9_4) rfl ((if0 _ _).trans (teq (by decide : ((0 : Int32) = (0 : Int32)))).1) (by decide) (by decide) ?_
    show Steps p.tables e below (T1.setTop (mkF m 23 #[.val (.ref o0), .val (.int p1), .val (.int p2)] [])) _
    refine XS.aloadN X1.here hx rfl (hb hby d9_23) rfl rfl ?_
    show Steps p.tables e below (T1.setTop (mkF m 24 #[.val (.ref o0), .val (.int p1), .val (.int p2)] [(.ref o0)])) _
    refine st3 _ ?_
    show Steps p.tables e below (T3.setTop (mkF m 27 #[.val (.ref o0), .val (.int p1), .val (.int p2)] [(.ref va)])) _
    refine XS.iloadN X3.here hx rfl (hb hby d9_27) rfl ?_
    show Steps p.tables e below (T3.setTop (mkF m 28 #[.val (.ref o0), .val (.int p1), .val (.int p2)] [(.int p1), (.ref va)])) _
    refine XS.iloadN X3.here hx rfl (hb hby d9_28) rfl ?_
    show Steps p.tables e below (T3.setTop (mkF m 29 #[.val (.ref o0), .val (.int p1), .val (.int p2)] [(.int p2), (.int p1), (.ref va)])) _
    refine XS.aloadN X3.here hx rfl (hb hby d9_29) rfl rfl ?_
    show Steps p.tables e below (T3.setTop (mkF m 30 #[.val (.ref o0), .val (.int p1), .val (.int p2)] [(.ref o0), (.int p2), (.int p1), (.ref va)])) _
    refine st4.trans ?_
    show Steps p.tables e below (T4.setTop (mkF m 33 #[.val (.ref o0), .val (.int p1), .val (.int p2)] [(.int (4 : Int32)), (.int p2), (.int p1), (.ref va)])) _
    refine st5 _ ?_
    show Steps p.tables e below (T5.setTop (mkF m 36 #[.val (.ref o0), .val (.int p1), .val (.int p2)] [(.int (f23 p1 p2 F))])) _
    exact retI X5 hx Bd.returns (hb hby d9_36) hr
  · show Q9u Z o0 p1 p2 cs va F fm h0 n0 _ T5.heap _
    rw [e5q]
    exact ⟨congrArg (fun q => some (Value.int q)) hv6.symm, N5, rfl⟩
theorem d8_0 : decode prog_13_method_25_code 0 = .ok (.aload_n 0, 1) := by decide +kernel
theorem d8_1 : decode prog_13_method_25_code 1 = .ok (.iload_n 1, 1) := by decide +kernel
theorem d8_2 : decode prog_13_method_25_code 2 = .ok (.iload_n 2, 1) := by decide +kernel
theorem d8_3 : decode prog_13_method_25_code 3 = .ok (.invokevirtual 251, 3) := by decide +kernel
theorem d8_6 : decode prog_13_method_25_code 6 = .ok (.istore 4, 2) := by decide +kernel
theorem d8_8 : decode prog_13_method_25_code 8 = .ok (.iload 4, 2) := by decide +kernel
theorem d8_10 : decode prog_13_method_25_code 10 = .ok (.ifCond .lt 9, 3) := by decide +kernel
theorem d8_13 : decode prog_13_method_25_code 13 = .ok (.iload 4, 2) := by decide +kernel
theorem d8_15 : decode prog_13_method_25_code 15 = .ok (.iload_n 3, 1) := by decide +kernel
theorem d8_16 : decode prog_13_method_25_code 16 = .ok (.if_icmp .le 7, 3) := by decide +kernel
theorem d8_19 : decode prog_13_method_25_code 19 = .ok (.iload_n 3, 1) := by decide +kernel
theorem d8_20 : decode prog_13_method_25_code 20 = .ok (.goto 5, 3) := by decide +kernel
theorem d8_23 : decode prog_13_method_25_code 23 = .ok (.iload 4, 2) := by decide +kernel
theorem d8_25 : decode prog_13_method_25_code 25 = .ok (.ireturn, 1) := by decide +kernel
theorem pn_8l : plainName "com/example/corvid/corvid/internal/StringEscapes" = true := by first | (simp [plainName, overriddenIn]; done) | decide +kernel
theorem pd_8l_0 : parseMethodDescriptor "(II)I" = some ⟨[.int, .int], some .int⟩ := by decide +kernel
theorem ef_8l (m : MethodId) (x0 : Addr) (x1 : Int32) (x2 : Int32) (x3 : Int32) : entryFrame m #[(.ref x0), (.int x1), (.int x2), (.int x3)] 5 = mkF m 0 #[.val (.ref x0), .val (.int x1), .val (.int x2), .val (.int x3), .unset] [] := by first | (simp [entryFrame, mkF, argsToLocals, Value.category]; done) | rfl
def f8l (p1 : Int32) (p2 : Int32) (p3 : Int32) (F : Nat → Int32) : Int32 :=
  if (f13 p1 p2 F) < (0 : Int32) then (p3) else
  (if p3 < (f13 p1 p2 F) then (p3) else
  ((f13 p1 p2 F)))
def Q8l (Z : State) (o0 : Addr) (p1 : Int32) (p2 : Int32) (p3 : Int32) (cs : Int32) (va : Addr) (F : Nat → Int32) (h0 : Heap) (n0 : Nat) (v : Option Value) (h : Heap) (L : List Loc) : Prop := v = some (.int (f8l p1 p2 p3 F)) ∧ Fr n0 L ∧ h = h0
set_option maxRecDepth 65536 in
set_option maxHeartbeats 40000000 in
theorem rm8l (l : Launch) (Z : State) (a0 : Array Value) (hw : ∀ d ∈ tables_1, d.before a0 Z = true) (ws : List Jvm.Cond) (o0 : Addr) (p1 : Int32) (p2 : Int32) (p3 : Int32) (cs : Int32) (va : Addr) (F : Nat → Int32) (h0 : Heap) (n0 : Nat) (Z0 : n0 ≤ h0.size) (S_COMPACT_STRINGS : Sta Z h0 "java/lang/String" "COMPACT_STRINGS" "Z" (.int cs)) (hcs : ¬ cs = (0 : Int32)) (F_coder_o0 : Fld Z h0 o0 "java/lang/String" "coder" "B" (.int (0 : Int32))) (F_value_o0 : Fld Z h0 o0 "java/lang/String" "value" "[B" (.ref va)) (V_va : own_AI Z h0 va .byte (4 : Int32) F) (E_o0 : Exa Z h0 o0 "java/lang/String") (h0c : ¬ p1 < 0) (hn : ¬ p2 < 0) :
    MetFree l (⟨"com/example/corvid/corvid/internal/StringEscapes", "indexOf", "(Ljava/lang/String;CII)I"⟩ : MethodName) (head1 (Jvm.Cond.code (⟨"com/example/corvid/corvid/internal/StringEscapes", "indexOf", "(Ljava/lang/String;CII)I"⟩ : MethodName) prog_13_method_25_code 5 (some .int) :: ws) ({ frames := 3, cells := 0, slots := 0, locals := 46 } : Room)) (fun a U => a = #[(.ref o0), (.int p1), (.int p2), (.int p3)] ∧ Z.Warmed39 U.vm ∧ U.heap = h0) (fun _ _ _ _ _ => True) (fun _ U o U' => ∃ v L, o = .returned v ∧ Q8l Z o0 p1 p2 p3 cs va F h0 n0 v U'.heap L ∧ FrameEnd U o U' L ({ frames := 3, cells := 0, slots := 0, locals := 46 } : Room).cells ({ frames := 3, cells := 0, slots := 0, locals := 46 } : Room).slots) := by
  refine MetFree.of_bodySF (plainFor_of_name pn_8l) hisR ?_
  intro p e s m args below meth c s₁ Bd hml0 hP hK
  obtain ⟨rfl, hZ, hh⟩ := hP
  have hx := Bd.exec
  have hby := Bd.bytes
  have hml : c.maxLocals = 5 := hml0
  have hown : s.vm.findClass "com/example/corvid/corvid/internal/StringEscapes" = some m.cls := findClass_of_methodNamed Bd.named
  have hnm := (name_of_methodNamed Bd.named Bd.method).1
  have X0 : Stand p l e ({ frames := 3, cells := 0, slots := 0, locals := 46 } : Room) s m #[(.ref o0), (.int p1), (.int p2), (.int p3)] below meth c s₁ [] 0 0 := Stand.of_body Bd
  have e0 : s₁.heap = h0 := by rw [← hh, Bd.state]; rfl
  have N0 := Fr.nil n0
  have pre0 : ∀ t, Steps p.tables e below (s₁.setTop (mkF m 0 #[.val (.ref o0), .val (.int p1), .val (.int p2), .val (.int p3), .unset] [])) t → Steps p.tables e below (s₁.setTop (entryFrame m #[(.ref o0), (.int p1), (.int p2), (.int p3)] 5)) t := fun t k => castTop (ef_8l m o0 p1 p2 p3) k
  obtain ⟨cq1, kq1, q1a, q1b, q1c⟩ := isOf hZ e0 E_o0
  obtain ⟨_, _, ⟨T1, L1, k1, n1⟩, -, X1, ⟨Lc1, hQ1, l1, y1, z1⟩, st1⟩ := X0.virtualBack hx (y := (⟨"java/lang/String", "indexOf", "(II)I"⟩ : MethodName)) (z := (⟨"java/lang/String", "indexOf", "(II)I"⟩ : MethodName)) hown (mvT hZ (hw _ (List.mem_of_getElem? (i := 38) rfl))) (mvT hZ (hw _ (List.mem_of_getElem? (i := 39) rfl))) (notFace_of_selects (args := #[]) (mvT hZ (hw _ (List.mem_of_getElem? (i := 41) rfl)))) (mvT hZ (hw _ (List.mem_of_getElem? (i := 41) rfl))) (mvT hZ (hw _ (List.mem_of_getElem? (i := 40) rfl))) (by decide) (backOf (W := 0) (rm9l l Z a0 hw [] o0 p1 p2 cs va F h0 n0 Z0 S_COMPACT_STRINGS (hcs) F_coder_o0 F_value_o0 V_va E_o0 (h0c) (hn)) hZ (hw _ (List.mem_of_getElem? (i := 42) rfl)) (hw _ (List.mem_of_getElem? (i := 3) rfl)) (by decide) (by decide)) q1a q1c (g := (mkF m 3 #[.val (.ref o0), .val (.int p1), .val (.int p2), .val (.int p3), .unset] [(.int p2), (.int p1), (.ref o0)])) rfl (by rw [hml]; rfl) (Steps.refl _) (argsL := [(.int p1), (.int p2)]) (rest := []) (lenOf pd_8l_0 rfl) rfl (by show 2 * 0 + _ ≤ _; exact Nat.le_of_eq rfl) (hb hby d8_3) (fun _ _ => ⟨rfl, e0, (by decide : 0 + 0 ≤ _), (by decide : 0 + 0 ≤ _)⟩)
  dsimp only [Pt.U, Pt.locs, Pt.cells, Pt.slots] at X1 l1 y1 z1 st1 hQ1
  subst l1 y1 z1
  obtain ⟨rfl, N1q, e1q⟩ := hQ1
  have N1 := Fr.app N0 N1q
  have pre2 : ∀ t, Steps p.tables e below (T1.setTop (mkF m 10 #[.val (.ref o0), .val (.int p1), .val (.int p2), .val (.int p3), .val (.int (f13 p1 p2 F))] [(.int (f13 p1 p2 F))])) t → Steps p.tables e below (s₁.setTop (entryFrame m #[(.ref o0), (.int p1), (.int p2), (.int p3)] 5)) t := fun t kt => pre0 t (by
      show Steps p.tables e below (s₁.setTop (mkF m 0 #[.val (.ref o0), .val (.int p1), .val (.int p2), .val (.int p3), .unset] [])) _
      refine XS.aloadN X0.here hx rfl (hb hby d8_0) rfl rfl ?_
      show Steps p.tables e below (s₁.setTop (mkF m 1 #[.val (.ref o0), .val (.int p1), .val (.int p2), .val (.int p3), .unset] [(.ref o0)])) _
      refine XS.iloadN X0.here hx rfl (hb hby d8_1) rfl ?_
      show Steps p.tables e below (s₁.setTop (mkF m 2 #[.val (.ref o0), .val (.int p1), .val (.int p2), .val (.int p3), .unset] [(.int p1), (.ref o0)])) _
      refine XS.iloadN X0.here hx rfl (hb hby d8_2) rfl ?_
      show Steps p.tables e below (s₁.setTop (mkF m 3 #[.val (.ref o0), .val (.int p1), .val (.int p2), .val (.int p3), .unset] [(.int p2), (.int p1), (.ref o0)])) _
      refine st1.trans ?_
      show Steps p.tables e below (T1.setTop (mkF m 6 #[.val (.ref o0), .val (.int p1), .val (.int p2), .val (.int p3), .unset] [(.int (f13 p1 p2 F))])) _
      refine XS.istore X1.here hx rfl (hb hby d8_6) rfl (l' := #[.val (.ref o0), .val (.int p1), .val (.int p2), .val (.int p3), .val (.int (f13 p1 p2 F))]) rfl ?_
      show Steps p.tables e below (T1.setTop (mkF m 8 #[.val (.ref o0), .val (.int p1), .val (.int p2), .val (.int p3), .val (.int (f13 p1 p2 F))] [])) _
      refine XS.iload X1.here hx rfl (hb hby d8_8) rfl ?_
      exact kt)
  by_cases hc10_3 : (f13 p1 p2 F) < (0 : Int32)
  · obtain ⟨fs, hr, hrun, hended, hW, hsame⟩ := X1.leave (v := some (.int p3)) (fun h => by rw [Bd.returns] at h; cases h)
    have hv6 : (f8l p1 p2 p3 F) = p3 := by rw [f8l, if_pos hc10_3]
    refine ⟨_, _, pre2 _ ?_, hrun, hended, _, _, rfl, ?_, ⟨_, rfl⟩, hW, hsame.mono (by decide) (by decide)⟩
    · show Steps p.tables e below (T1.setTop (mkF m 10 #[.val (.ref o0), .val (.int p1), .val (.int p2), .val (.int p3), .val (.int (f13 p1 p2 F))] [(.int (f13 p1 p2 F))])) _
      refine XS.ifYes X1.here hx rfl (pc0 := 10) (pc' := 19) rfl (hb hby d8_10) rfl ((if0 _ _).trans (tlt hc10_3).1) (by decide) (by decide) ?_
      show Steps p.tables e below (T1.setTop (mkF m 19 #[.val (.ref o0), .val (.int p1), .val (.int p2), .val (.int p3), .val (.int (f13 p1 p2 F))] [])) _
      refine XS.iloadN X1.here hx rfl (hb hby d8_19) rfl ?_
      show Steps p.tables e below (T1.setTop (mkF m 20 #[.val (.ref o0), .val (.int p1), .val (.int p2), .val (.int p3), .val (.int (f13 p1 p2 F))] [(.int p3)])) _
      refine XS.goto X1.here hx rfl (pc0 := 20) (pc' := 25) rfl (hb hby d8_20) (by decide) (by decide) ?_
      show Steps p.tables e below (T1.setTop (mkF m 25 #[.val (.ref o0), .val (.int p1), .val (.int p2), .val (.int p3), .val (.int (f13 p1 p2 F))] [(.int p3)])) _
      exact retI X1 hx Bd.returns (hb hby d8_25) hr
    · show Q8l Z o0 p1 p2 p3 cs va F h0 n0 _ T1.heap _
      rw [e1q]
      exact ⟨congrArg (fun q => some (Value.int q)) hv6.symm, N1, rfl⟩
  · have pre4 : ∀ t, Steps p.tables e below (T1.setTop (mkF m 16 #[.val (.ref o0), .val (.int p1), .val (.int p2), .val (.int p3), .val (.int (f13 p1 p2 F))] [(.int p3), (.int (f13 p1 p2 F))])) t → Steps p.tables e below (s₁.setTop (entryFrame m #[(.ref o0), (.int p1), (.int p2), (.int p3)] 5)) t := fun t kt => pre2 t (by
        show Steps p.tables e below (T1.setTop (mkF m 10 #[.val (.ref o0), .val (.int p1), .val (.int p2), .val (.int p3), .val (.int (f13 p1 p2 F))] [(.int (f13 p1 p2 F))])) _
        refine XS.ifNo X1.here hx rfl (hb hby d8_10) rfl ((if0 _ _).trans (flt hc10_3).1) ?_
        show Steps p.tables e below (T1.setTop (mkF m 13 #[.val (.ref o0), .val (.int p1), .val (.int p2), .val (.int p3), .val (.int (f13 p1 p2 F))] [])) _
        refine XS.iload X1.here hx rfl (hb hby d8_13) rfl ?_
        show Steps p.tables e below (T1.setTop (mkF m 15 #[.val (.ref o0), .val (.int p1), .val (.int p2), .val (.int p3), .val (.int (f13 p1 p2 F))] [(.int (f13 p1 p2 F))])) _
        refine XS.iloadN X1.here hx rfl (hb hby d8_15) rfl ?_
        exact kt)
    by_cases hc16_5 : p3 < (f13 p1 p2 F)
    · obtain ⟨fs, hr, hrun, hended, hW, hsame⟩ := X1.leave (v := some (.int p3)) (fun h => by rw [Bd.returns] at h; cases h)
      have hv7 : (f8l p1 p2 p3 F) = p3 := by rw [f8l, if_neg hc10_3, if_pos hc16_5]
      refine ⟨_, _, pre4 _ ?_, hrun, hended, _, _, rfl, ?_, ⟨_, rfl⟩, hW, hsame.mono (by decide) (by decide)⟩
      · show Steps p.tables e below (T1.setTop (mkF m 16 #[.val (.ref o0), .val (.int p1), .val (.int p2), .val (.int p3), .val (.int (f13 p1 p2 F))] [(.int p3), (.int (f13 p1 p2 F))])) _
        refine XS.icmpNo X1.here hx rfl (hb hby d8_16) rfl (tlt hc16_5).2.2.2 ?_
        show Steps p.tables e below (T1.setTop (mkF m 19 #[.val (.ref o0), .val (.int p1), .val (.int p2), .val (.int p3), .val (.int (f13 p1 p2 F))] [])) _
        refine XS.iloadN X1.here hx rfl (hb hby d8_19) rfl ?_
        show Steps p.tables e below (T1.setTop (mkF m 20 #[.val (.ref o0), .val (.int p1), .val (.int p2), .val (.int p3), .val (.int (f13 p1 p2 F))] [(.int p3)])) _
        refine XS.goto X1.here hx rfl (pc0 := 20) (pc' := 25) rfl (hb hby d8_20) (by decide) (by decide) ?_
        show Steps p.tables e below (T1.setTop (mkF m 25 #[.val (.ref o0), .val (.int p1), .val (.int p2), .val (.int p3), .val (.int (f13 p1 p2 F))] [(.int p3)])) _
        exact retI X1 hx Bd.returns (hb hby d8_25) hr
      · show Q8l Z o0 p1 p2 p3 cs va F h0 n0 _ T1.heap _
        rw [e1q]
        exact ⟨congrArg (fun q => some (Value.int q)) hv7.symm, N1, rfl⟩
    · obtain ⟨fs, hr, hrun, hended, hW, hsame⟩ := X1.leave (v := some (.int (f13 p1 p2 F))) (fun h => by rw [Bd.returns] at h; cases h)
      have hv8 : (f8l p1 p2 p3 F) = (f13 p1 p2 F) := by rw [f8l, if_neg hc10_3, if_neg hc16_5]
      refine ⟨_, _, pre4 _ ?_, hrun, hended, _, _, rfl, ?_, ⟨_, rfl⟩, hW, hsame.mono (by decide) (by decide)⟩
      · show Steps p.tables e below (T1.setTop (mkF m 16 #[.val (.ref o0), .val (.int p1), .val (.int p2), .val (.int p3), .val (.int (f13 p1 p2 F))] [(.int p3), (.int (f13 p1 p2 F))])) _
        refine XS.icmpYes X1.here hx rfl (pc0 := 16) (pc' := 23) rfl (hb hby d8_16) rfl (flt hc16_5).2.2.2 (by decide) (by decide) ?_
        show Steps p.tables e below (T1.setTop (mkF m 23 #[.val (.ref o0), .val (.int p1), .val (.int p2), .val (.int p3), .val (.int (f13 p1 p2 F))] [])) _
        refine XS.iload X1.here hx rfl (hb hby d8_23) rfl ?_
        show Steps p.tables e below (T1.setTop (mkF m 25 #[.val (.ref o0), .val (.int p1), .val (.int p2), .val (.int p3), .val (.int (f13 p1 p2 F))] [(.int (f13 p1 p2 F))])) _
        exact retI X1 hx Bd.returns (hb hby d8_25) hr
      · show Q8l Z o0 p1 p2 p3 cs va F h0 n0 _ T1.heap _
        rw [e1q]
        exact ⟨congrArg (fun q => some (Value.int q)) hv8.symm, N1, rfl⟩
theorem pn_8u : plainName "com/example/corvid/corvid/internal/StringEscapes" = true := by first | (simp [plainName, overriddenIn]; done) | decide +kernel
theorem pd_8u_0 : parseMethodDescriptor "(II)I" = some ⟨[.int, .int], some .int⟩ := by decide +kernel
theorem ef_8u (m : MethodId) (x0 : Addr) (x1 : Int32) (x2 : Int32) (x3 : Int32) : entryFrame m #[(.ref x0), (.int x1), (.int x2), (.int x3)] 5 = mkF m 0 #[.val (.ref x0), .val (.int x1), .val (.int x2), .val (.int x3), .unset] [] := by first | (simp [entryFrame, mkF, argsToLocals, Value.category]; done) | rfl
def f8u (p1 : Int32) (p2 : Int32) (p3 : Int32) (F : Nat → Int32) : Int32 :=
  if (f23 p1 p2 F) < (0 : Int32) then (p3) else
  (if p3 < (f23 p1 p2 F) then (p3) else
  ((f23 p1 p2 F)))
def Q8u (Z : State) (o0 : Addr) (p1 : Int32) (p2 : Int32) (p3 : Int32) (cs : Int32) (va : Addr) (F : Nat → Int32) (fm : Value) (h0 : Heap) (n0 : Nat) (v : Option Value) (h : Heap) (L : List Loc) : Prop := v = some (.int (f8u p1 p2 p3 F)) ∧ Fr n0 L ∧ h = h0
set_option maxRecDepth 65536 in
set_option maxHeartbeats 40000000 in
theorem rm8u (l : Launch) (Z : State) (a0 : Array Value) (hw : ∀ d ∈ tables_1, d.before a0 Z = true) (ws : List Jvm.Cond) (o0 : Addr) (p1 : Int32) (p2 : Int32) (p3 : Int32) (cs : Int32) (va : Addr) (F : Nat → Int32) (fm : Value) (h0 : Heap) (n0 : Nat) (Z0 : n0 ≤ h0.size) (S_COMPACT_STRINGS : Sta Z h0 "java/lang/String" "COMPACT_STRINGS" "Z" (.int cs)) (hcs : ¬ cs = (0 : Int32)) (F_coder_o0 : Fld Z h0 o0 "java/lang/String" "coder" "B" (.int (1 : Int32))) (F_value_o0 : Fld Z h0 o0 "java/lang/String" "value" "[B" (.ref va)) (V_va : own_AI Z h0 va .byte (8 : Int32) F) (E_o0 : Exa Z h0 o0 "java/lang/String") (S__assertionsDisabled : Sta Z h0 "java/lang/StringUTF16" "$assertionsDisabled" "Z" (.int (1 : Int32))) (S_HI_BYTE_SHIFT : Sta Z h0 "java/lang/StringUTF16" "HI_BYTE_SHIFT" "I" (.int (0 : Int32))) (S_LO_BYTE_SHIFT : Sta Z h0 "java/lang/StringUTF16" "LO_BYTE_SHIFT" "I" (.int (8 : Int32))) (S_SIOOBE_FORMATTER : Sta Z h0 "jdk/internal/util/Preconditions" "SIOOBE_FORMATTER" "Ljava/util/function/BiFunction;" fm) (hfm : fm.isRef = true) (hc : p1 < (65536 : Int32)) (hn : ¬ p2 < 0) :
    MetFree l (⟨"com/example/corvid/corvid/internal/StringEscapes", "indexOf", "(Ljava/lang/String;CII)I"⟩ : MethodName) (head1 (Jvm.Cond.code (⟨"com/example/corvid/corvid/internal/StringEscapes", "indexOf", "(Ljava/lang/String;CII)I"⟩ : MethodName) prog_13_method_25_code 5 (some .int) :: ws) ({ frames := 6, cells := 0, slots := 0, locals := 87 } : Room)) (fun a U => a = #[(.ref o0), (.int p1), (.int p2), (.int p3)] ∧ Z.Warmed39 U.vm ∧ U.heap = h0) (fun _ _ _ _ _ => True) (fun _ U o U' => ∃ v L, o = .returned v ∧ Q8u Z o0 p1 p2 p3 cs va F fm h0 n0 v U'.heap L ∧ FrameEnd U o U' L ({ frames := 6, cells := 0, slots := 0, locals := 87 } : Room).cells ({ frames := 6, cells := 0, slots := 0, locals := 87 } : Room).slots) := by
  refine MetFree.of_bodySF (plainFor_of_name pn_8u) hisR ?_
  intro p e s m args below meth c s₁ Bd hml0 hP hK
  obtain ⟨rfl, hZ, hh⟩ := hP
  have hx := Bd.exec
  have hby := Bd.bytes
  have hml : c.maxLocals = 5 := hml0
  have hown : s.vm.findClass "com/example/corvid/corvid/internal/StringEscapes" = some m.cls := findClass_of_methodNamed Bd.named
  have hnm := (name_of_methodNamed Bd.named Bd.method).1
  have X0 : Stand p l e ({ frames := 6, cells := 0, slots := 0, locals := 87 } : Room) s m #[(.ref o0), (.int p1), (.int p2), (.int p3)] below meth c s₁ [] 0 0 := Stand.of_body Bd
  have e0 : s₁.heap = h0 := by rw [← hh, Bd.state]; rfl
  have N0 := Fr.nil n0
  have pre0 : ∀ t, Steps p.tables e below (s₁.setTop (mkF m 0 #[.val (.ref o0), .val (.int p1), .val (.int p2), .val (.int p3), .unset] [])) t → Steps p.tables e below (s₁.setTop (entryFrame m #[(.ref o0), (.int p1), (.int p2), (.int p3)] 5)) t := fun t k => castTop (ef_8u m o0 p1 p2 p3) k
  obtain ⟨cq1, kq1, q1a, q1b, q1c⟩ := isOf hZ e0 E_o0
  obtain ⟨_, _, ⟨T1, L1, k1, n1⟩, -, X1, ⟨Lc1, hQ1, l1, y1, z1⟩, st1⟩ := X0.virtualBack hx (y := (⟨"java/lang/String", "indexOf", "(II)I"⟩ : MethodName)) (z := (⟨"java/lang/String", "indexOf", "(II)I"⟩ : MethodName)) hown (mvT hZ (hw _ (List.mem_of_getElem? (i := 38) rfl))) (mvT hZ (hw _ (List.mem_of_getElem? (i := 39) rfl))) (notFace_of_selects (args := #[]) (mvT hZ (hw _ (List.mem_of_getElem? (i := 41) rfl)))) (mvT hZ (hw _ (List.mem_of_getElem? (i := 41) rfl))) (mvT hZ (hw _ (List.mem_of_getElem? (i := 40) rfl))) (by decide) (backOf (W := 0) (rm9u l Z a0 hw [] o0 p1 p2 cs va F fm h0 n0 Z0 S_COMPACT_STRINGS (hcs) F_coder_o0 F_value_o0 V_va E_o0 S__assertionsDisabled S_HI_BYTE_SHIFT S_LO_BYTE_SHIFT S_SIOOBE_FORMATTER (hfm) (hc) (hn)) hZ (hw _ (List.mem_of_getElem? (i := 42) rfl)) (hw _ (List.mem_of_getElem? (i := 3) rfl)) (by decide) (by decide)) q1a q1c (g := (mkF m 3 #[.val (.ref o0), .val (.int p1), .val (.int p2), .val (.int p3), .unset] [(.int p2), (.int p1), (.ref o0)])) rfl (by rw [hml]; rfl) (Steps.refl _) (argsL := [(.int p1), (.int p2)]) (rest := []) (lenOf pd_8u_0 rfl) rfl (by show 2 * 0 + _ ≤ _; exact Nat.le_of_eq rfl) (hb hby d8_3) (fun _ _ => ⟨rfl, e0, (by decide : 0 + 0 ≤ _), (by decide : 0 + 0 ≤ _)⟩)
  dsimp only [Pt.U, Pt.locs, Pt.cells, Pt.slots] at X1 l1 y1 z1 st1 hQ1
  subst l1 y1 z1
  obtain ⟨rfl, N1q, e1q⟩ := hQ1
  have N1 := Fr.app N0 N1q
  have pre2 : ∀ t, Steps p.tables e below (T1.setTop (mkF m 10 #[.val (.ref o0), .val (.int p1), .val (.int p2), .val (.int p3), .val (.int (f23 p1 p2 F))] [(.int (f23 p1 p2 F))])) t → Steps p.tables e below (s₁.setTop (entryFrame m #[(.ref o0), (.int p1), (.int p2), (.int p3)] 5)) t := fun t kt => pre0 t (by
      show Steps p.tables e below (s₁.setTop (mkF m 0 #[.val (.ref o0), .val (.int p1), .val (.int p2), .val (.int p3), .unset] [])) _
      refine XS.aloadN X0.here hx rfl (hb hby d8_0) rfl rfl ?_
      show Steps p.tables e below (s₁.setTop (mkF m 1 #[.val (.ref o0), .val (.int p1), .val (.int p2), .val (.int p3), .unset] [(.ref o0)])) _
      refine XS.iloadN X0.here hx rfl (hb hby d8_1) rfl ?_
      show Steps p.tables e below (s₁.setTop (mkF m 2 #[.val (.ref o0), .val (.int p1), .val (.int p2), .val (.int p3), .unset] [(.int p1), (.ref o0)])) _
      refine XS.iloadN X0.here hx rfl (hb hby d8_2) rfl ?_
      show Steps p.tables e below (s₁.setTop (mkF m 3 #[.val (.ref o0), .val (.int p1), .val (.int p2), .val (.int p3), .unset] [(.int p2), (.int p1), (.ref o0)])) _
      refine st1.trans ?_
      show Steps p.tables e below (T1.setTop (mkF m 6 #[.val (.ref o0), .val (.int p1), .val (.int p2), .val (.int p3), .unset] [(.int (f23 p1 p2 F))])) _
      refine XS.istore X1.here hx rfl (hb hby d8_6) rfl (l' := #[.val (.ref o0), .val (.int p1), .val (.int p2), .val (.int p3), .val (.int (f23 p1 p2 F))]) rfl ?_
      show Steps p.tables e below (T1.setTop (mkF m 8 #[.val (.ref o0), .val (.int p1), .val (.int p2), .val (.int p3), .val (.int (f23 p1 p2 F))] [])) _
      refine XS.iload X1.here hx rfl (hb hby d8_8) rfl ?_
      exact kt)
  by_cases hc10_3 : (f23 p1 p2 F) < (0 : Int32)
  · obtain ⟨fs, hr, hrun, hended, hW, hsame⟩ := X1.leave (v := some (.int p3)) (fun h => by rw [Bd.returns] at h; cases h)
    have hv6 : (f8u p1 p2 p3 F) = p3 := by rw [f8u, if_pos hc10_3]
    refine ⟨_, _, pre2 _ ?_, hrun, hended, _, _, rfl, ?_, ⟨_, rfl⟩, hW, hsame.mono (by decide) (by decide)⟩
    · show Steps p.tables e below (T1.setTop (mkF m 10 #[.val (.ref o0), .val (.int p1), .val (.int p2), .val (.int p3), .val (.int (f23 p1 p2 F))] [(.int (f23 p1 p2 F))])) _
      refine XS.ifYes X1.here hx rfl (pc0 := 10) (pc' := 19) rfl (hb hby d8_10) rfl ((if0 _ _).trans (tlt hc10_3).1) (by decide) (by decide) ?_
      show Steps p.tables e below (T1.setTop (mkF m 19 #[.val (.ref o0), .val (.int p1), .val (.int p2), .val (.int p3), .val (.int (f23 p1 p2 F))] [])) _
      refine XS.iloadN X1.here hx rfl (hb hby d8_19) rfl ?_
      show Steps p.tables e below (T1.setTop (mkF m 20 #[.val (.ref o0), .val (.int p1), .val (.int p2), .val (.int p3), .val (.int (f23 p1 p2 F))] [(.int p3)])) _
      refine XS.goto X1.here hx rfl (pc0 := 20) (pc' := 25) rfl (hb hby d8_20) (by decide) (by decide) ?_
      show Steps p.tables e below (T1.setTop (mkF m 25 #[.val (.ref o0), .val (.int p1), .val (.int p2), .val (.int p3), .val (.int (f23 p1 p2 F))] [(.int p3)])) _
      exact retI X1 hx Bd.returns (hb hby d8_25) hr
    · show Q8u Z o0 p1 p2 p3 cs va F fm h0 n0 _ T1.heap _
      rw [e1q]
      exact ⟨congrArg (fun q => some (Value.int q)) hv6.symm, N1, rfl⟩
  · have pre4 : ∀ t, Steps p.tables e below (T1.setTop (mkF m 16 #[.val (.ref o0), .val (.int p1), .val (.int p2), .val (.int p3), .val (.int (f23 p1 p2 F))] [(.int p3), (.int (f23 p1 p2 F))])) t → Steps p.tables e below (s₁.setTop (entryFrame m #[(.ref o0), (.int p1), (.int p2), (.int p3)] 5)) t := fun t kt => pre2 t (by
        show Steps p.tables e below (T1.setTop (mkF m 10 #[.val (.ref o0), .val (.int p1), .val (.int p2), .val (.int p3), .val (.int (f23 p1 p2 F))] [(.int (f23 p1 p2 F))])) _
        refine XS.ifNo X1.here hx rfl (hb hby d8_10) rfl ((if0 _ _).trans (flt hc10_3).1) ?_
        show Steps p.tables e below (T1.setTop (mkF m 13 #[.val (.ref o0), .val (.int p1), .val (.int p2), .val (.int p3), .val (.int (f23 p1 p2 F))] [])) _
        refine XS.iload X1.here hx rfl (hb hby d8_13) rfl ?_
        show Steps p.tables e below (T1.setTop (mkF m 15 #[.val (.ref o0), .val (.int p1), .val (.int p2), .val (.int p3), .val (.int (f23 p1 p2 F))] [(.int (f23 p1 p2 F))])) _
        refine XS.iloadN X1.here hx rfl (hb hby d8_15) rfl ?_
        exact kt)
    by_cases hc16_5 : p3 < (f23 p1 p2 F)
    · obtain ⟨fs, hr, hrun, hended, hW, hsame⟩ := X1.leave (v := some (.int p3)) (fun h => by rw [Bd.returns] at h; cases h)
      have hv7 : (f8u p1 p2 p3 F) = p3 := by rw [f8u, if_neg hc10_3, if_pos hc16_5]
      refine ⟨_, _, pre4 _ ?_, hrun, hended, _, _, rfl, ?_, ⟨_, rfl⟩, hW, hsame.mono (by decide) (by decide)⟩
      · show Steps p.tables e below (T1.setTop (mkF m 16 #[.val (.ref o0), .val (.int p1), .val (.int p2), .val (.int p3), .val (.int (f23 p1 p2 F))] [(.int p3), (.int (f23 p1 p2 F))])) _
        refine XS.icmpNo X1.here hx rfl (hb hby d8_16) rfl (tlt hc16_5).2.2.2 ?_
        show Steps p.tables e below (T1.setTop (mkF m 19 #[.val (.ref o0), .val (.int p1), .val (.int p2), .val (.int p3), .val (.int (f23 p1 p2 F))] [])) _
        refine XS.iloadN X1.here hx rfl (hb hby d8_19) rfl ?_
        show Steps p.tables e below (T1.setTop (mkF m 20 #[.val (.ref o0), .val (.int p1), .val (.int p2), .val (.int p3), .val (.int (f23 p1 p2 F))] [(.int p3)])) _
        refine XS.goto X1.here hx rfl (pc0 := 20) (pc' := 25) rfl (hb hby d8_20) (by decide) (by decide) ?_
        show Steps p.tables e below (T1.setTop (mkF m 25 #[.val (.ref o0), .val (.int p1), .val (.int p2), .val (.int p3), .val (.int (f23 p1 p2 F))] [(.int p3)])) _
        exact retI X1 hx Bd.returns (hb hby d8_25) hr
      · show Q8u Z o0 p1 p2 p3 cs va F fm h0 n0 _ T1.heap _
        rw [e1q]
        exact ⟨congrArg (fun q => some (Value.int q)) hv7.symm, N1, rfl⟩
    · obtain ⟨fs, hr, hrun, hended, hW, hsame⟩ := X1.leave (v := some (.int (f23 p1 p2 F))) (fun h => by rw [Bd.returns] at h; cases h)
      have hv8 : (f8u p1 p2 p3 F) = (f23 p1 p2 F) := by rw [f8u, if_neg hc10_3, if_neg hc16_5]
      refine ⟨_, _, pre4 _ ?_, hrun, hended, _, _, rfl, ?_, ⟨_, rfl⟩, hW, hsame.mono (by decide) (by decide)⟩
      · show Steps p.tables e below (T1.setTop (mkF m 16 #[.val (.ref o0), .val (.int p1), .val (.int p2), .val (.int p3), .val (.int (f23 p1 p2 F))] [(.int p3), (.int (f23 p1 p2 F))])) _
        refine XS.icmpYes X1.here hx rfl (pc0 := 16) (pc' := 23) rfl (hb hby d8_16) rfl (flt hc16_5).2.2.2 (by decide) (by decide) ?_
        show Steps p.tables e below (T1.setTop (mkF m 23 #[.val (.ref o0), .val (.int p1), .val (.int p2), .val (.int p3), .val (.int (f23 p1 p2 F))] [])) _
        refine XS.iload X1.here hx rfl (hb hby d8_23) rfl ?_
        show Steps p.tables e below (T1.setTop (mkF m 25 #[.val (.ref o0), .val (.int p1), .val (.int p2), .val (.int p3), .val (.int (f23 p1 p2 F))] [(.int (f23 p1 p2 F))])) _
        exact retI X1 hx Bd.returns (hb hby d8_25) hr
      · show Q8u Z o0 p1 p2 p3 cs va F fm h0 n0 _ T1.heap _
        rw [e1q]
        exact ⟨congrArg (fun q => some (Value.int q)) hv8.symm, N1, rfl⟩
theorem pn_0 : plainName "com/example/corvid/corvid/internal/StringEscapesIndexOfPinLaw" = true := by first | (simp [plainName, overriddenIn]; done) | decide +kernel
theorem pd_0_0 : parseMethodDescriptor "([C)V" = some ⟨[(.array .char)], none⟩ := by decide +kernel
theorem pd_0_1 : parseMethodDescriptor "([CCIII)Z" = some ⟨[(.array .char), .char, .int, .int, .int], some .boolean⟩ := by decide +kernel
theorem pd_0_2 : parseMethodDescriptor "(Ljava/lang/String;CII)I" = some ⟨[(.object "java/lang/String"), .char, .int, .int], some .int⟩ := by decide +kernel
theorem ef_0 (m : MethodId) (x0 : Int32) (x1 : Int32) (x2 : Int32) (x3 : Int32) : entryFrame m #[(.int x0), (.int x1), (.int x2), (.int x3)] maxLocals = mkF m 0 #[.val (.int x0), .val (.int x1), .val (.int x2), .val (.int x3), .unset, .unset, .unset, .unset, .unset, .unset] [] := by first | (simp [entryFrame, mkF, argsToLocals, Value.category, maxLocals]; done) | rfl
def j0_12_S0 (p0 : Int32) (p1 : Int32) (p3 : Int32) : Int32 :=
  if (p3 &&& (1 : Int32)) = (0 : Int32) then ((p1.toUInt32.toUInt16.toUInt32.toInt32)) else
  ((p0.toUInt32.toUInt16.toUInt32.toInt32))
def j0_29_S0 (p0 : Int32) (p1 : Int32) (p3 : Int32) : Int32 :=
  if (p3 &&& (2 : Int32)) = (0 : Int32) then ((((p1.toUInt32 >>> ((16 : Int32) &&& 31).toUInt32).toInt32).toUInt32.toUInt16.toUInt32.toInt32)) else
  ((p0.toUInt32.toUInt16.toUInt32.toInt32))
def j0_49_S0 (p0 : Int32) (p2 : Int32) (p3 : Int32) : Int32 :=
  if (p3 &&& (4 : Int32)) = (0 : Int32) then ((p2.toUInt32.toUInt16.toUInt32.toInt32)) else
  ((p0.toUInt32.toUInt16.toUInt32.toInt32))
def j0_66_S0 (p0 : Int32) (p2 : Int32) (p3 : Int32) : Int32 :=
  if (p3 &&& (8 : Int32)) = (0 : Int32) then ((((p2.toUInt32 >>> ((16 : Int32) &&& 31).toUInt32).toInt32).toUInt32.toUInt16.toUInt32.toInt32)) else
  ((p0.toUInt32.toUInt16.toUInt32.toInt32))
def e0_1 (p3 : Int32) : Int32 := ((((p3.toUInt32 >>> ((4 : Int32) &&& 31).toUInt32).toInt32) &&& (7 : Int32)) - ((((p3.toUInt32 >>> ((4 : Int32) &&& 31).toUInt32).toInt32) &&& (7 : Int32)) / (5 : Int32)) * (5 : Int32))
def e0_2 (p3 : Int32) : Int32 := ((e0_1 p3) + ((((p3.toUInt32 >>> ((8 : Int32) &&& 31).toUInt32).toInt32) &&& (7 : Int32)) - ((((p3.toUInt32 >>> ((8 : Int32) &&& 31).toUInt32).toInt32) &&& (7 : Int32)) / ((5 : Int32) - (e0_1 p3))) * ((5 : Int32) - (e0_1 p3))))
theorem own_eqi {args : Array Value} {s : State} {t : Term} {k : Int32} (h : (Jvm.Cond.eq t (.int k)).value args s none s [] = some true) : t.eval args s none [] s = some (.int k) := by
  obtain ⟨x, y, h1, h2, h3, h4⟩ := cmp_v (Or.inl h)
  have h2' : some (Value.int k) = some y := h2
  cases h2'
  obtain ⟨z, rfl⟩ := h4
  simp only [Jvm.Cond.value, h1, h2] at h
  simp at h
  rw [h1, h]
theorem own_nei {args : Array Value} {s : State} {t : Term} {k x : Int32} (e : t.eval args s none [] s = some (.int x)) (h : (Jvm.Cond.not (Jvm.Cond.eq t (.int k))).value args s none s [] = some true) : ¬ x = k := by
  intro q
  subst q
  have h1 := not_v h
  have h2 : (Term.int x).eval args s none [] s = some (.int x) := rfl
  simp only [Jvm.Cond.value, e, h2] at h1
  simp at h1
theorem own_ch0 (a b c d : Int32) : own_ch (own_upd (own_upd (own_upd (own_upd (fun _ => 0) 0 (nar .char a)) 1 (nar .char b)) 2 (nar .char c)) 3 (nar .char d)) := by
  intro i hi
  have h : i = 0 ∨ i = 1 ∨ i = 2 ∨ i = 3 := by omega
  rcases h with rfl | rfl | rfl | rfl
  · exact ⟨a.toUInt32.toUInt16, rfl⟩
  · exact ⟨b.toUInt32.toUInt16, rfl⟩
  · exact ⟨c.toUInt32.toUInt16, rfl⟩
  · exact ⟨d.toUInt32.toUInt16, rfl⟩
theorem own_and7 (x : Int32) : x &&& (7 : Int32) = 0 ∨ x &&& (7 : Int32) = 1 ∨ x &&& (7 : Int32) = 2 ∨ x &&& (7 : Int32) = 3 ∨ x &&& (7 : Int32) = 4 ∨ x &&& (7 : Int32) = 5 ∨ x &&& (7 : Int32) = 6 ∨ x &&& (7 : Int32) = 7 := by
  have h : (x &&& (7 : Int32)).toBitVec.toNat ≤ 7 := by
    show (x.toBitVec &&& 7#32).toNat ≤ 7
    rw [BitVec.toNat_and]; exact Nat.and_le_right
  have k : ∀ n : Nat, (x &&& (7 : Int32)).toBitVec.toNat = n → n ≤ 7 → x &&& (7 : Int32) = Int32.ofNat n := fun n e hn => by
    apply Int32.toBitVec_inj.mp; apply BitVec.eq_of_toNat_eq; rw [e]
    show n = (BitVec.ofNat 32 n).toNat
    rw [BitVec.toNat_ofNat]; omega
  have h8 : (x &&& (7 : Int32)).toBitVec.toNat = 0 ∨ (x &&& (7 : Int32)).toBitVec.toNat = 1 ∨ (x &&& (7 : Int32)).toBitVec.toNat = 2 ∨ (x &&& (7 : Int32)).toBitVec.toNat = 3 ∨ (x &&& (7 : Int32)).toBitVec.toNat = 4 ∨ (x &&& (7 : Int32)).toBitVec.toNat = 5 ∨ (x &&& (7 : Int32)).toBitVec.toNat = 6 ∨ (x &&& (7 : Int32)).toBitVec.toNat = 7 := by omega
  rcases h8 with e | e | e | e | e | e | e | e
  · exact Or.inl (k _ e (by decide))
  · exact Or.inr (Or.inl (k _ e (by decide)))
  · exact Or.inr (Or.inr (Or.inl (k _ e (by decide))))
  · exact Or.inr (Or.inr (Or.inr (Or.inl (k _ e (by decide)))))
  · exact Or.inr (Or.inr (Or.inr (Or.inr (Or.inl (k _ e (by decide))))))
  · exact Or.inr (Or.inr (Or.inr (Or.inr (Or.inr (Or.inl (k _ e (by decide)))))))
  · exact Or.inr (Or.inr (Or.inr (Or.inr (Or.inr (Or.inr (Or.inl (k _ e (by decide))))))))
  · exact Or.inr (Or.inr (Or.inr (Or.inr (Or.inr (Or.inr (Or.inr (k _ e (by decide))))))))
theorem own_f5 (p3 : Int32) : e0_1 p3 = 0 ∨ e0_1 p3 = 1 ∨ e0_1 p3 = 2 ∨ e0_1 p3 = 3 ∨ e0_1 p3 = 4 := by
  unfold e0_1
  rcases own_and7 ((p3.toUInt32 >>> ((4 : Int32) &&& 31).toUInt32).toInt32) with h | h | h | h | h | h | h | h <;> rw [h] <;> decide
theorem own_fr (p3 : Int32) : ¬ (e0_1 p3) < 0 := by rcases own_f5 p3 with h | h | h | h | h <;> rw [h] <;> decide
theorem own_ne5 (p3 : Int32) : ((5 : Int32) - (e0_1 p3)) ≠ 0 := by rcases own_f5 p3 with h | h | h | h | h <;> rw [h] <;> decide
theorem own_ci (u : UInt16) : (u.toUInt32.toInt32).toInt = u.toNat := by
  have hu := u.toNat_lt
  show ((u.toUInt32).toBitVec).toInt = _
  have hm : (u.toUInt32).toBitVec.toNat = u.toNat := by
    show (u.toUInt32).toNat = _
    simp
  rw [BitVec.toInt_eq_toNat_cond, hm, if_pos (by omega)]
theorem own_c0 (p0 : Int32) : ¬ (p0.toUInt32.toUInt16.toUInt32.toInt32) < 0 := by
  rw [Int32.lt_iff_toInt_lt, own_ci, show (0 : Int32).toInt = 0 from by decide]; omega
theorem own_c1 (p0 : Int32) : (p0.toUInt32.toUInt16.toUInt32.toInt32) < (65536 : Int32) := by
  have := (p0.toUInt32.toUInt16).toNat_lt
  rw [Int32.lt_iff_toInt_lt, own_ci, show (65536 : Int32).toInt = 65536 from by decide]; omega
/-- the scan of four answers from x on -/
def own_fst (e0 e1 e2 e3 : Bool) (x : Int32) : Int32 :=
  if x = 0 then (if e0 = true then 0 else if e1 = true then 1 else if e2 = true then 2 else if e3 = true then 3 else -1)
  else if x = 1 then (if e1 = true then 1 else if e2 = true then 2 else if e3 = true then 3 else -1)
  else if x = 2 then (if e2 = true then 2 else if e3 = true then 3 else -1)
  else if x = 3 then (if e3 = true then 3 else -1) else -1
def own_g8 (r y : Int32) : Int32 := if r < (0 : Int32) then y else if y < r then y else r
def own_h7 (e : Bool) (k x y : Int32) : Int32 := if k < x then (0 : Int32) else if k < y then (if e = true then (1 : Int32) else (0 : Int32)) else (0 : Int32)
def own_ex (e0 e1 e2 e3 : Bool) (x y : Int32) : Int32 :=
  if own_h7 e0 0 x y = (0 : Int32) then (if own_h7 e1 1 x y = (0 : Int32) then (if own_h7 e2 2 x y = (0 : Int32) then (if own_h7 e3 3 x y = (0 : Int32) then y else 3) else 2) else 1) else 0
theorem own_big : ∀ e0 e1 e2 e3 : Bool, ∀ f ∈ [(0 : Int32), 1, 2, 3, 4], ∀ z ∈ [(0 : Int32), 1, 2, 3, 4, 5, 6, 7], own_g8 (own_fst e0 e1 e2 e3 f) (f + (z - (z / ((5 : Int32) - f)) * ((5 : Int32) - f))) = own_ex e0 e1 e2 e3 f (f + (z - (z / ((5 : Int32) - f)) * ((5 : Int32) - f))) := by decide +kernel
theorem own_all (e0 e1 e2 e3 : Bool) (p3 : Int32) : own_g8 (own_fst e0 e1 e2 e3 (e0_1 p3)) (e0_2 p3) = own_ex e0 e1 e2 e3 (e0_1 p3) (e0_2 p3) := by
  rw [e0_2]
  refine own_big e0 e1 e2 e3 _ ?_ _ ?_
  · rcases own_f5 p3 with h | h | h | h | h <;> rw [h] <;> decide
  · rcases own_and7 ((p3.toUInt32 >>> ((8 : Int32) &&& 31).toUInt32).toInt32) with h | h | h | h | h | h | h | h <;> rw [h] <;> decide
theorem own_hit (c x y : Int32) (F : Nat → Int32) (k : Int32) (n : Nat) (hk : k.toNatClampNeg = n) : f7 c k x y F = own_h7 (decide (F n = c)) k x y := by
  unfold f7 own_h7; rw [hk]; simp only [decide_eq_true_eq]
/-- what the law awaits -/
theorem own_want (c p3 : Int32) (F : Nat → Int32) : own_g8 (own_fst (decide (F 0 = c)) (decide (F 1 = c)) (decide (F 2 = c)) (decide (F 3 = c)) (e0_1 p3)) (e0_2 p3) =
    if (f7 c (0 : Int32) (e0_1 p3) (e0_2 p3) F) = (0 : Int32) then (if (f7 c (1 : Int32) (e0_1 p3) (e0_2 p3) F) = (0 : Int32) then (if (f7 c (2 : Int32) (e0_1 p3) (e0_2 p3) F) = (0 : Int32) then (if (f7 c (3 : Int32) (e0_1 p3) (e0_2 p3) F) = (0 : Int32) then (e0_2 p3) else (3 : Int32)) else (2 : Int32)) else (1 : Int32)) else (0 : Int32) := by
  rw [own_all, own_ex, own_hit c _ _ F 0 0 rfl, own_hit c _ _ F 1 1 rfl, own_hit c _ _ F 2 2 rfl, own_hit c _ _ F 3 3 rfl]
theorem own_a0 : (0 : Int32) + (1 : Int32) = 1 := by decide
theorem own_a1 : (1 : Int32) + (1 : Int32) = 2 := by decide
theorem own_a2 : (2 : Int32) + (1 : Int32) = 3 := by decide
theorem own_a3 : (3 : Int32) + (1 : Int32) = 4 := by decide
theorem own_a4 : (4 : Int32) + (1 : Int32) = 5 := by decide
theorem own_a5 : (5 : Int32) + (1 : Int32) = 6 := by decide
theorem own_l0 : ((0 : Int32) < (4 : Int32)) = True := by decide
theorem own_l1 : ((1 : Int32) < (4 : Int32)) = True := by decide
theorem own_l2 : ((2 : Int32) < (4 : Int32)) = True := by decide
theorem own_l3 : ((3 : Int32) < (4 : Int32)) = True := by decide
theorem own_l4 : ((4 : Int32) < (4 : Int32)) = False := by decide
theorem own_l5 : ((5 : Int32) < (4 : Int32)) = False := by decide
theorem own_l6 : ((6 : Int32) < (4 : Int32)) = False := by decide
theorem own_m0 : (0 : Int32).toNatClampNeg = 0 := by decide
theorem own_m1 : (1 : Int32).toNatClampNeg = 1 := by decide
theorem own_m2 : (2 : Int32).toNatClampNeg = 2 := by decide
theorem own_m3 : (3 : Int32).toNatClampNeg = 3 := by decide
theorem own_q (a b : Nat) (h : a ≠ b) (ha : a < 5) (hb : b < 5) : (Int32.ofNat a = Int32.ofNat b) = False := by
  have : ∀ a b : Fin 5, a ≠ b → (Int32.ofNat a ≠ Int32.ofNat b) := by decide
  exact eq_false (this ⟨a, ha⟩ ⟨b, hb⟩ (fun q => h (congrArg Fin.val q)))
theorem own_uf (c x : Int32) (F : Nat → Int32) (h : own_ch F) (hx : x = 0 ∨ x = 1 ∨ x = 2 ∨ x = 3 ∨ x = 4) : f23 c x (f18_r_a F) = own_fst (decide (F 0 = c)) (decide (F 1 = c)) (decide (F 2 = c)) (decide (F 3 = c)) x := by
  have g0 := own_gc F h 0 (by decide) (0 : Int32) (by decide)
  have g1 := own_gc F h 1 (by decide) (1 : Int32) (by decide)
  have g2 := own_gc F h 2 (by decide) (2 : Int32) (by decide)
  have g3 := own_gc F h 3 (by decide) (3 : Int32) (by decide)
  rcases hx with rfl | rfl | rfl | rfl | rfl <;> simp only [f23, f29, own_fst, own_a0, own_a1, own_a2, own_a3, own_a4, own_a5, own_l0, own_l1, own_l2, own_l3, own_l4, own_l5, own_l6, g0, g1, g2, g3, if_true, if_false, decide_eq_true_eq] <;> rfl
theorem own_nb (x : Int32) : nar .byte (x.toInt8.toInt32) = x.toInt8.toInt32 := by
  show x.toInt8.toInt32.toInt8.toInt32 = _
  rw [Int8.toInt8_toInt32]
theorem own_b256 : ∀ n : Fin 256, ((Int32.ofNat n.val).toInt8.toInt32 &&& (255 : Int32)) = Int32.ofNat n.val := by decide +kernel
theorem own_lb (u : UInt16) (h : ¬ (255 : Int32) < u.toUInt32.toInt32) : ((u.toUInt32.toInt32).toInt8.toInt32 &&& (255 : Int32)) = u.toUInt32.toInt32 := by
  have hn : u.toNat < 256 := by
    rw [Int32.lt_iff_toInt_lt, own_ci, show (255 : Int32).toInt = 255 from by decide] at h; omega
  have e : u.toUInt32.toInt32 = Int32.ofNat u.toNat := by
    apply Int32.toInt_inj.mp; rw [own_ci, Int32.toInt_ofNat_of_lt (by omega)]
  rw [e]; exact own_b256 ⟨u.toNat, hn⟩
theorem own_lq (u v : UInt16) (hu : ¬ (255 : Int32) < u.toUInt32.toInt32) (hv : ¬ (255 : Int32) < v.toUInt32.toInt32) : (nar .byte ((u.toUInt32.toInt32).toInt8.toInt32) = (v.toUInt32.toInt32).toInt8.toInt32) = (u.toUInt32.toInt32 = v.toUInt32.toInt32) := by
  apply propext; rw [own_nb]
  exact ⟨fun q => by rw [← own_lb u hu, q, own_lb v hv], fun q => by rw [q]⟩
theorem own_lf (v : UInt16) (x : Int32) (F : Nat → Int32) (h : own_ch F) (hA : (¬ (255 : Int32) < F 0 ∧ ¬ (255 : Int32) < F 1 ∧ ¬ (255 : Int32) < F 2 ∧ ¬ (255 : Int32) < F 3)) (hx : x = 0 ∨ x = 1 ∨ x = 2 ∨ x = 3 ∨ x = 4) : f13 v.toUInt32.toInt32 x (f5l_o2_a F (fun _ => 0)) = own_fst (decide (F 0 = v.toUInt32.toInt32)) (decide (F 1 = v.toUInt32.toInt32)) (decide (F 2 = v.toUInt32.toInt32)) (decide (F 3 = v.toUInt32.toInt32)) x := by
  obtain ⟨u0, e0⟩ := h 0 (by decide)
  obtain ⟨u1, e1⟩ := h 1 (by decide)
  obtain ⟨u2, e2⟩ := h 2 (by decide)
  obtain ⟨u3, e3⟩ := h 3 (by decide)
  obtain ⟨h0, h1, h2, h3⟩ := hA
  have k0 : f5l_o2_a F (fun _ => 0) 0 = nar .byte ((F 0).toInt8.toInt32) := rfl
  have k1 : f5l_o2_a F (fun _ => 0) 1 = nar .byte ((F 1).toInt8.toInt32) := rfl
  have k2 : f5l_o2_a F (fun _ => 0) 2 = nar .byte ((F 2).toInt8.toInt32) := rfl
  have k3 : f5l_o2_a F (fun _ => 0) 3 = nar .byte ((F 3).toInt8.toInt32) := rfl
  rw [e0] at k0 h0; rw [e1] at k1 h1; rw [e2] at k2 h2; rw [e3] at k3 h3
  rw [e0, e1, e2, e3]
  by_cases c : (255 : Int32) < v.toUInt32.toInt32
  · have hd : ∀ u : UInt16, ¬ (255 : Int32) < u.toUInt32.toInt32 → decide (u.toUInt32.toInt32 = v.toUInt32.toInt32) = false := fun u hu => decide_eq_false fun q => hu (q ▸ c)
    rw [f13, f14, if_pos c, if_pos rfl, hd _ h0, hd _ h1, hd _ h2, hd _ h3]
    rcases hx with rfl | rfl | rfl | rfl | rfl <;> decide
  · have q0 := own_lq u0 v h0 c
    have q1 := own_lq u1 v h1 c
    have q2 := own_lq u2 v h2 c
    have q3 := own_lq u3 v h3 c
    rw [f13, f14, if_neg c, if_neg (by decide)]
    rcases hx with rfl | rfl | rfl | rfl | rfl <;> simp only [f17, own_fst, own_a0, own_a1, own_a2, own_a3, own_a4, own_a5, own_l0, own_l1, own_l2, own_l3, own_l4, own_l5, own_l6, own_m0, own_m1, own_m2, own_m3, k0, k1, k2, k3, q0, q1, q2, q3, if_true, if_false, decide_eq_true_eq] <;> rfl
theorem own_law_l (F : Nat → Int32) (h : own_ch F) (hA : (¬ (255 : Int32) < F 0 ∧ ¬ (255 : Int32) < F 1 ∧ ¬ (255 : Int32) < F 2 ∧ ¬ (255 : Int32) < F 3)) (p0 p3 : Int32) : (f8l (p0.toUInt32.toUInt16.toUInt32.toInt32) (e0_1 p3) (e0_2 p3) (f5l_o2_a F (fun _ => 0))) =
    if (f7 (p0.toUInt32.toUInt16.toUInt32.toInt32) (0 : Int32) (e0_1 p3) (e0_2 p3) F) = (0 : Int32) then (if (f7 (p0.toUInt32.toUInt16.toUInt32.toInt32) (1 : Int32) (e0_1 p3) (e0_2 p3) F) = (0 : Int32) then (if (f7 (p0.toUInt32.toUInt16.toUInt32.toInt32) (2 : Int32) (e0_1 p3) (e0_2 p3) F) = (0 : Int32) then (if (f7 (p0.toUInt32.toUInt16.toUInt32.toInt32) (3 : Int32) (e0_1 p3) (e0_2 p3) F) = (0 : Int32) then (e0_2 p3) else (3 : Int32)) else (2 : Int32)) else (1 : Int32)) else (0 : Int32) := by
  rw [← own_want, ← own_lf _ _ F h hA (own_f5 p3)]; rfl
theorem own_law_u (F : Nat → Int32) (h : own_ch F) (p0 p3 : Int32) : (f8u (p0.toUInt32.toUInt16.toUInt32.toInt32) (e0_1 p3) (e0_2 p3) (f18_r_a F)) =
    if (f7 (p0.toUInt32.toUInt16.toUInt32.toInt32) (0 : Int32) (e0_1 p3) (e0_2 p3) F) = (0 : Int32) then (if (f7 (p0.toUInt32.toUInt16.toUInt32.toInt32) (1 : Int32) (e0_1 p3) (e0_2 p3) F) = (0 : Int32) then (if (f7 (p0.toUInt32.toUInt16.toUInt32.toInt32) (2 : Int32) (e0_1 p3) (e0_2 p3) F) = (0 : Int32) then (if (f7 (p0.toUInt32.toUInt16.toUInt32.toInt32) (3 : Int32) (e0_1 p3) (e0_2 p3) F) = (0 : Int32) then (e0_2 p3) else (3 : Int32)) else (2 : Int32)) else (1 : Int32)) else (0 : Int32) := by
  rw [← own_want, ← own_uf _ _ F h (own_f5 p3)]; rfl
def Q0 (Z : State) (p0 : Int32) (p1 : Int32) (p2 : Int32) (p3 : Int32) (cs : Int32) (fm : Value) (h0 : Heap) (n0 : Nat) (v : Option Value) (h : Heap) (L : List Loc) : Prop := v = some (.int (1 : Int32)) ∧ Fr n0 L
set_option maxRecDepth 65536 in
set_option maxHeartbeats 40000000 in
theorem rm0 (l : Launch) (Z : State) (a0 : Array Value) (hw : ∀ d ∈ tables_1, d.before a0 Z = true) (ws : List Jvm.Cond) (p0 : Int32) (p1 : Int32) (p2 : Int32) (p3 : Int32) (cs : Int32) (fm : Value) (h0 : Heap) (n0 : Nat) (Z0 : n0 ≤ h0.size) (S_COMPACT_STRINGS : Sta Z h0 "java/lang/String" "COMPACT_STRINGS" "Z" (.int cs)) (hcs : ¬ cs = (0 : Int32)) (S__assertionsDisabled : Sta Z h0 "java/lang/StringUTF16" "$assertionsDisabled" "Z" (.int (1 : Int32))) (S_HI_BYTE_SHIFT : Sta Z h0 "java/lang/StringUTF16" "HI_BYTE_SHIFT" "I" (.int (0 : Int32))) (S_LO_BYTE_SHIFT : Sta Z h0 "java/lang/StringUTF16" "LO_BYTE_SHIFT" "I" (.int (8 : Int32))) (S_SIOOBE_FORMATTER : Sta Z h0 "jdk/internal/util/Preconditions" "SIOOBE_FORMATTER" "Ljava/util/function/BiFunction;" fm) (hfm : fm.isRef = true) :
    MetFree l x (head1 (Jvm.Cond.code x code maxLocals ret :: ws) room_1) (fun a U => a = #[(.int p0), (.int p1), (.int p2), (.int p3)] ∧ Z.Warmed39 U.vm ∧ U.heap = h0) (fun _ _ _ _ _ => True) (fun _ U o U' => ∃ v L, o = .returned v ∧ Q0 Z p0 p1 p2 p3 cs fm h0 n0 v U'.heap L ∧ FrameEnd U o U' L room_1.cells room_1.slots) := by
  refine MetFree.of_bodySF (plainFor_of_name pn_0) hisR ?_
  intro p e s m args below meth c s₁ Bd hml0 hP hK
  obtain ⟨rfl, hZ, hh⟩ := hP
  have hx := Bd.exec
  have hby := Bd.bytes
  have hml : c.maxLocals = 10 := hml0
  have hown : s.vm.findClass "com/example/corvid/corvid/internal/StringEscapesIndexOfPinLaw" = some m.cls := findClass_of_methodNamed Bd.named
  have hnm := (name_of_methodNamed Bd.named Bd.method).1
  have X0 : Stand p l e room_1 s m #[(.int p0), (.int p1), (.int p2), (.int p3)] below meth c s₁ [] 0 0 := Stand.of_body Bd
  have e0 : s₁.heap = h0 := by rw [← hh, Bd.state]; rfl
  have N0 := Fr.nil n0
  have pre0 : ∀ t, Steps p.tables e below (s₁.setTop (mkF m 0 #[.val (.int p0), .val (.int p1), .val (.int p2), .val (.int p3), .unset, .unset, .unset, .unset, .unset, .unset] [])) t → Steps p.tables e below (s₁.setTop (entryFrame m #[(.int p0), (.int p1), (.int p2), (.int p3)] maxLocals)) t := fun t k => castTop (ef_0 m p0 p1 p2 p3) k
  obtain ⟨T1, h1, k1, X1, e1, E1, A1, st1⟩ := newP X0 hx hZ (hw _ (List.mem_of_getElem? (i := 0) rfl)) e0 (g := (mkF m 5 #[.val (.int p0), .val (.int p1), .val (.int p2), .val (.int p3), .val (.int (p0.toUInt32.toUInt16.toUInt32.toInt32)), .unset, .unset, .unset, .unset, .unset] [(.int (4 : Int32))])) rfl (hb hby at_5) rfl (by decide) (cap := 4) (by decide) (by decide) (by decide) (by decide)
  obtain ⟨b1, g1⟩ : ∃ z, z = h0.size := ⟨_, rfl⟩
  rw [← g1] at A1 st1
  have g_b1 : n0 ≤ b1 := Nat.le_trans Z0 (Nat.le_of_eq g1.symm)
  have sz_b1 : h0.size ≤ b1 := Nat.le_trans (Keep.refl h0 []).1 (Nat.le_of_eq g1.symm)
  have K2 : Keep h0 h1 [] := (Keep.refl h0 []).ext E1
  have Z3 : n0 ≤ h1.size := Nat.le_trans Z0 K2.1
  have V_b1 : own_AI Z h1 b1 .char (4 : Int32) (fun _ => 0) := own_AI.new A1 (by decide) rfl
  have pre4 : ∀ t, Steps p.tables e below (T1.setTop (mkF m 12 #[.val (.int p0), .val (.int p1), .val (.int p2), .val (.int p3), .val (.int (p0.toUInt32.toUInt16.toUInt32.toInt32)), .val (.ref b1), .unset, .unset, .unset, .unset] [(.int (0 : Int32)), (.ref b1)])) t → Steps p.tables e below (s₁.setTop (entryFrame m #[(.int p0), (.int p1), (.int p2), (.int p3)] maxLocals)) t := fun t kt => pre0 t (by
      show Steps p.tables e below (s₁.setTop (mkF m 0 #[.val (.int p0), .val (.int p1), .val (.int p2), .val (.int p3), .unset, .unset, .unset, .unset, .unset, .unset] [])) _
      refine XS.iloadN X0.here hx rfl (hb hby at_0) rfl ?_
      show Steps p.tables e below (s₁.setTop (mkF m 1 #[.val (.int p0), .val (.int p1), .val (.int p2), .val (.int p3), .unset, .unset, .unset, .unset, .unset, .unset] [(.int p0)])) _
      refine XS.i2c X0.here hx rfl (hb hby at_1) rfl ?_
      show Steps p.tables e below (s₁.setTop (mkF m 2 #[.val (.int p0), .val (.int p1), .val (.int p2), .val (.int p3), .unset, .unset, .unset, .unset, .unset, .unset] [(.int (p0.toUInt32.toUInt16.toUInt32.toInt32))])) _
      refine XS.istore X0.here hx rfl (hb hby at_2) rfl (l' := #[.val (.int p0), .val (.int p1), .val (.int p2), .val (.int p3), .val (.int (p0.toUInt32.toUInt16.toUInt32.toInt32)), .unset, .unset, .unset, .unset, .unset]) rfl ?_
      show Steps p.tables e below (s₁.setTop (mkF m 4 #[.val (.int p0), .val (.int p1), .val (.int p2), .val (.int p3), .val (.int (p0.toUInt32.toUInt16.toUInt32.toInt32)), .unset, .unset, .unset, .unset, .unset] [])) _
      refine XS.iconst X0.here hx rfl (hb hby at_4) ?_
      show Steps p.tables e below (s₁.setTop (mkF m 5 #[.val (.int p0), .val (.int p1), .val (.int p2), .val (.int p3), .val (.int (p0.toUInt32.toUInt16.toUInt32.toInt32)), .unset, .unset, .unset, .unset, .unset] [(.int (4 : Int32))])) _
      refine st1 _ ?_
      show Steps p.tables e below (T1.setTop (mkF m 7 #[.val (.int p0), .val (.int p1), .val (.int p2), .val (.int p3), .val (.int (p0.toUInt32.toUInt16.toUInt32.toInt32)), .unset, .unset, .unset, .unset, .unset] [(.ref b1)])) _
      refine XS.astore X1.here hx rfl (hb hby at_7) rfl rfl (l' := #[.val (.int p0), .val (.int p1), .val (.int p2), .val (.int p3), .val (.int (p0.toUInt32.toUInt16.toUInt32.toInt32)), .val (.ref b1), .unset, .unset, .unset, .unset]) rfl ?_
      show Steps p.tables e below (T1.setTop (mkF m 9 #[.val (.int p0), .val (.int p1), .val (.int p2), .val (.int p3), .val (.int (p0.toUInt32.toUInt16.toUInt32.toInt32)), .val (.ref b1), .unset, .unset, .unset, .unset] [])) _
      refine XS.aload X1.here hx rfl (hb hby at_9) rfl rfl ?_
      show Steps p.tables e below (T1.setTop (mkF m 11 #[.val (.int p0), .val (.int p1), .val (.int p2), .val (.int p3), .val (.int (p0.toUInt32.toUInt16.toUInt32.toInt32)), .val (.ref b1), .unset, .unset, .unset, .unset] [(.ref b1)])) _
      refine XS.iconst X1.here hx rfl (hb hby at_11) ?_
      exact kt)
  have preB5 : ∀ t, Steps p.tables e below (T1.setTop (mkF m 25 #[.val (.int p0), .val (.int p1), .val (.int p2), .val (.int p3), .val (.int (p0.toUInt32.toUInt16.toUInt32.toInt32)), .val (.ref b1), .unset, .unset, .unset, .unset] [(.int (j0_12_S0 p0 p1 p3)), (.int (0 : Int32)), (.ref b1)])) t → Steps p.tables e below (s₁.setTop (entryFrame m #[(.int p0), (.int p1), (.int p2), (.int p3)] maxLocals)) t := by
    intro t kt
    have pre6 : ∀ t, Steps p.tables e below (T1.setTop (mkF m 15 #[.val (.int p0), .val (.int p1), .val (.int p2), .val (.int p3), .val (.int (p0.toUInt32.toUInt16.toUInt32.toInt32)), .val (.ref b1), .unset, .unset, .unset, .unset] [(.int (p3 &&& (1 : Int32))), (.int (0 : Int32)), (.ref b1)])) t → Steps p.tables e below (s₁.setTop (entryFrame m #[(.int p0), (.int p1), (.int p2), (.int p3)] maxLocals)) t := fun t kt => pre4 t (by
        show Steps p.tables e below (T1.setTop (mkF m 12 #[.val (.int p0), .val (.int p1), .val (.int p2), .val (.int p3), .val (.int (p0.toUInt32.toUInt16.toUInt32.toInt32)), .val (.ref b1), .unset, .unset, .unset, .unset] [(.int (0 : Int32)), (.ref b1)])) _
        refine XS.iloadN X1.here hx rfl (hb hby at_12) rfl ?_
        show Steps p.tables e below (T1.setTop (mkF m 13 #[.val (.int p0), .val (.int p1), .val (.int p2), .val (.int p3), .val (.int (p0.toUInt32.toUInt16.toUInt32.toInt32)), .val (.ref b1), .unset, .unset, .unset, .unset] [(.int p3), (.int (0 : Int32)), (.ref b1)])) _
        refine XS.iconst X1.here hx rfl (hb hby at_13) ?_
        show Steps p.tables e below (T1.setTop (mkF m 14 #[.val (.int p0), .val (.int p1), .val (.int p2), .val (.int p3), .val (.int (p0.toUInt32.toUInt16.toUInt32.toInt32)), .val (.ref b1), .unset, .unset, .unset, .unset] [(.int (1 : Int32)), (.int p3), (.int (0 : Int32)), (.ref b1)])) _
        refine XS.iand X1.here hx rfl (hb hby at_14) rfl ?_
        exact kt)
    by_cases hc15_7 : (p3 &&& (1 : Int32)) = (0 : Int32)
    · rw [show (j0_12_S0 p0 p1 p3) = (p1.toUInt32.toUInt16.toUInt32.toInt32) from by rw [j0_12_S0, if_pos hc15_7]] at kt
      refine pre6 t ?_
      show Steps p.tables e below (T1.setTop (mkF m 15 #[.val (.int p0), .val (.int p1), .val (.int p2), .val (.int p3), .val (.int (p0.toUInt32.toUInt16.toUInt32.toInt32)), .val (.ref b1), .unset, .unset, .unset, .unset] [(.int (p3 &&& (1 : Int32))), (.int (0 : Int32)), (.ref b1)])) _
      refine XS.ifYes X1.here hx rfl (pc0 := 15) (pc' := 23) rfl (hb hby at_15) rfl ((if0 _ _).trans (teq hc15_7).1) (by decide) (by decide) ?_
      show Steps p.tables e below (T1.setTop (mkF m 23 #[.val (.int p0), .val (.int p1), .val (.int p2), .val (.int p3), .val (.int (p0.toUInt32.toUInt16.toUInt32.toInt32)), .val (.ref b1), .unset, .unset, .unset, .unset] [(.int (0 : Int32)), (.ref b1)])) _
      refine XS.iloadN X1.here hx rfl (hb hby at_23) rfl ?_
      show Steps p.tables e below (T1.setTop (mkF m 24 #[.val (.int p0), .val (.int p1), .val (.int p2), .val (.int p3), .val (.int (p0.toUInt32.toUInt16.toUInt32.toInt32)), .val (.ref b1), .unset, .unset, .unset, .unset] [(.int p1), (.int (0 : Int32)), (.ref b1)])) _
      refine XS.i2c X1.here hx rfl (hb hby at_24) rfl ?_
      exact kt
    · rw [show (j0_12_S0 p0 p1 p3) = (p0.toUInt32.toUInt16.toUInt32.toInt32) from by rw [j0_12_S0, if_neg hc15_7]] at kt
      refine pre6 t ?_
      show Steps p.tables e below (T1.setTop (mkF m 15 #[.val (.int p0), .val (.int p1), .val (.int p2), .val (.int p3), .val (.int (p0.toUInt32.toUInt16.toUInt32.toInt32)), .val (.ref b1), .unset, .unset, .unset, .unset] [(.int (p3 &&& (1 : Int32))), (.int (0 : Int32)), (.ref b1)])) _
      refine XS.ifNo X1.here hx rfl (hb hby at_15) rfl ((if0 _ _).trans (feq hc15_7).1) ?_
      show Steps p.tables e below (T1.setTop (mkF m 18 #[.val (.int p0), .val (.int p1), .val (.int p2), .val (.int p3), .val (.int (p0.toUInt32.toUInt16.toUInt32.toInt32)), .val (.ref b1), .unset, .unset, .unset, .unset] [(.int (0 : Int32)), (.ref b1)])) _
      refine XS.iload X1.here hx rfl (hb hby at_18) rfl ?_
      show Steps p.tables e below (T1.setTop (mkF m 20 #[.val (.int p0), .val (.int p1), .val (.int p2), .val (.int p3), .val (.int (p0.toUInt32.toUInt16.toUInt32.toInt32)), .val (.ref b1), .unset, .unset, .unset, .unset] [(.int (p0.toUInt32.toUInt16.toUInt32.toInt32)), (.int (0 : Int32)), (.ref b1)])) _
      refine XS.goto X1.here hx rfl (pc0 := 20) (pc' := 25) rfl (hb hby at_20) (by decide) (by decide) ?_
      exact kt
  obtain ⟨cl8, Ar8, Sz8, Nn8, Hs8⟩ := id V_b1
  have hin8 : ¬ ((0 : Int32) < 0 ∨ cl8.slots.size ≤ ((0 : Int32)).toNatClampNeg) := inb_of Sz8 ⟨by decide, by decide⟩
  obtain ⟨T9, h9, X9, e9, W9, st9⟩ := stC X1 hx hZ e1 Ar8 (j := (0 : Int32)) hin8 (g := (mkF m 25 #[.val (.int p0), .val (.int p1), .val (.int p2), .val (.int p3), .val (.int (p0.toUInt32.toUInt16.toUInt32.toInt32)), .val (.ref b1), .unset, .unset, .unset, .unset] [(.int (j0_12_S0 p0 p1 p3)), (.int (0 : Int32)), (.ref b1)])) rfl rfl (hb hby at_25)
  have V9 : own_AI Z h9 b1 .char (4 : Int32) (own_upd (fun _ => 0) 0 (nar .char (j0_12_S0 p0 p1 p3))) := own_AI.set V_b1 (fits_nar_char (j0_12_S0 p0 p1 p3)) W9
  have K10 : Keep h0 h9 [] := K2.wr W9 (Or.inr sz_b1)
  have Z11 : n0 ≤ h9.size := Nat.le_trans Z0 K10.1
  have N9 := Fr.snoc X9 N0 g_b1
  obtain ⟨LS9, X9, N9⟩ : ∃ L, Stand p l e room_1 s m #[(.int p0), (.int p1), (.int p2), (.int p3)] below meth c T9 L 1 4 ∧ Fr n0 L := ⟨_, X9, N9⟩
  have pre12 : ∀ t, Steps p.tables e below (T9.setTop (mkF m 29 #[.val (.int p0), .val (.int p1), .val (.int p2), .val (.int p3), .val (.int (p0.toUInt32.toUInt16.toUInt32.toInt32)), .val (.ref b1), .unset, .unset, .unset, .unset] [(.int (1 : Int32)), (.ref b1)])) t → Steps p.tables e below (s₁.setTop (entryFrame m #[(.int p0), (.int p1), (.int p2), (.int p3)] maxLocals)) t := fun t kt => preB5 t (by
      show Steps p.tables e below (T1.setTop (mkF m 25 #[.val (.int p0), .val (.int p1), .val (.int p2), .val (.int p3), .val (.int (p0.toUInt32.toUInt16.toUInt32.toInt32)), .val (.ref b1), .unset, .unset, .unset, .unset] [(.int (j0_12_S0 p0 p1 p3)), (.int (0 : Int32)), (.ref b1)])) _
      refine st9 _ ?_
      show Steps p.tables e below (T9.setTop (mkF m 26 #[.val (.int p0), .val (.int p1), .val (.int p2), .val (.int p3), .val (.int (p0.toUInt32.toUInt16.toUInt32.toInt32)), .val (.ref b1), .unset, .unset, .unset, .unset] [])) _
      refine XS.aload X9.here hx rfl (hb hby at_26) rfl rfl ?_
      show Steps p.tables e below (T9.setTop (mkF m 28 #[.val (.int p0), .val (.int p1), .val (.int p2), .val (.int p3), .val (.int (p0.toUInt32.toUInt16.toUInt32.toInt32)), .val (.ref b1), .unset, .unset, .unset, .unset] [(.ref b1)])) _
      refine XS.iconst X9.here hx rfl (hb hby at_28) ?_
      exact kt)
  have preB13 : ∀ t, Steps p.tables e below (T9.setTop (mkF m 45 #[.val (.int p0), .val (.int p1), .val (.int p2), .val (.int p3), .val (.int (p0.toUInt32.toUInt16.toUInt32.toInt32)), .val (.ref b1), .unset, .unset, .unset, .unset] [(.int (j0_29_S0 p0 p1 p3)), (.int (1 : Int32)), (.ref b1)])) t → Steps p.tables e below (s₁.setTop (entryFrame m #[(.int p0), (.int p1), (.int p2), (.int p3)] maxLocals)) t := by
    intro t kt
    have pre14 : ∀ t, Steps p.tables e below (T9.setTop (mkF m 32 #[.val (.int p0), .val (.int p1), .val (.int p2), .val (.int p3), .val (.int (p0.toUInt32.toUInt16.toUInt32.toInt32)), .val (.ref b1), .unset, .unset, .unset, .unset] [(.int (p3 &&& (2 : Int32))), (.int (1 : Int32)), (.ref b1)])) t → Steps p.tables e below (s₁.setTop (entryFrame m #[(.int p0), (.int p1), (.int p2), (.int p3)] maxLocals)) t := fun t kt => pre12 t (by
        show Steps p.tables e below (T9.setTop (mkF m 29 #[.val (.int p0), .val (.int p1), .val (.int p2), .val (.int p3), .val (.int (p0.toUInt32.toUInt16.toUInt32.toInt32)), .val (.ref b1), .unset, .unset, .unset, .unset] [(.int (1 : Int32)), (.ref b1)])) _
        refine XS.iloadN X9.here hx rfl (hb hby at_29) rfl ?_
        show Steps p.tables e below (T9.setTop (mkF m 30 #[.val (.int p0), .val (.int p1), .val (.int p2), .val (.int p3), .val (.int (p0.toUInt32.toUInt16.toUInt32.toInt32)), .val (.ref b1), .unset, .unset, .unset, .unset] [(.int p3), (.int (1 : Int32)), (.ref b1)])) _
        refine XS.iconst X9.here hx rfl (hb hby at_30) ?_
        show Steps p.tables e below (T9.setTop (mkF m 31 #[.val (.int p0), .val (.int p1), .val (.int p2), .val (.int p3), .val (.int (p0.toUInt32.toUInt16.toUInt32.toInt32)), .val (.ref b1), .unset, .unset, .unset, .unset] [(.int (2 : Int32)), (.int p3), (.int (1 : Int32)), (.ref b1)])) _
        refine XS.iand X9.here hx rfl (hb hby at_31) rfl ?_
        exact kt)
    by_cases hc32_15 : (p3 &&& (2 : Int32)) = (0 : Int32)
    · rw [show (j0_29_S0 p0 p1 p3) = (((p1.toUInt32 >>> ((16 : Int32) &&& 31).toUInt32).toInt32).toUInt32.toUInt16.toUInt32.toInt32) from by rw [j0_29_S0, if_pos hc32_15]] at kt
      refine pre14 t ?_
      show Steps p.tables e below (T9.setTop (mkF m 32 #[.val (.int p0), .val (.int p1), .val (.int p2), .val (.int p3), .val (.int (p0.toUInt32.toUInt16.toUInt32.toInt32)), .val (.ref b1), .unset, .unset, .unset, .unset] [(.int (p3 &&& (2 : Int32))), (.int (1 : Int32)), (.ref b1)])) _
      refine XS.ifYes X9.here hx rfl (pc0 := 32) (pc' := 40) rfl (hb hby at_32) rfl ((if0 _ _).trans (teq hc32_15).1) (by decide) (by decide) ?_
      show Steps p.tables e below (T9.setTop (mkF m 40 #[.val (.int p0), .val (.int p1), .val (.int p2), .val (.int p3), .val (.int (p0.toUInt32.toUInt16.toUInt32.toInt32)), .val (.ref b1), .unset, .unset, .unset, .unset] [(.int (1 : Int32)), (.ref b1)])) _
      refine XS.iloadN X9.here hx rfl (hb hby at_40) rfl ?_
      show Steps p.tables e below (T9.setTop (mkF m 41 #[.val (.int p0), .val (.int p1), .val (.int p2), .val (.int p3), .val (.int (p0.toUInt32.toUInt16.toUInt32.toInt32)), .val (.ref b1), .unset, .unset, .unset, .unset] [(.int p1), (.int (1 : Int32)), (.ref b1)])) _
      refine XS.bipush X9.here hx rfl (hb hby at_41) ?_
      show Steps p.tables e below (T9.setTop (mkF m 43 #[.val (.int p0), .val (.int p1), .val (.int p2), .val (.int p3), .val (.int (p0.toUInt32.toUInt16.toUInt32.toInt32)), .val (.ref b1), .unset, .unset, .unset, .unset] [(.int (16 : Int32)), (.int p1), (.int (1 : Int32)), (.ref b1)])) _
      refine XS.iushr X9.here hx rfl (hb hby at_43) rfl ?_
      show Steps p.tables e below (T9.setTop (mkF m 44 #[.val (.int p0), .val (.int p1), .val (.int p2), .val (.int p3), .val (.int (p0.toUInt32.toUInt16.toUInt32.toInt32)), .val (.ref b1), .unset, .unset, .unset, .unset] [(.int ((p1.toUInt32 >>> ((16 : Int32) &&& 31).toUInt32).toInt32)), (.int (1 : Int32)), (.ref b1)])) _
      refine XS.i2c X9.here hx rfl (hb hby at_44) rfl ?_
      exact kt
    · rw [show (j0_29_S0 p0 p1 p3) = (p0.toUInt32.toUInt16.toUInt32.toInt32) from by rw [j0_29_S0, if_neg hc32_15]] at kt
      refine pre14 t ?_
      show Steps p.tables e below (T9.setTop (mkF m 32 #[.val (.int p0), .val (.int p1), .val (.int p2), .val (.int p3), .val (.int (p0.toUInt32.toUInt16.toUInt32.toInt32)), .val (.ref b1), .unset, .unset, .unset, .unset] [(.int (p3 &&& (2 : Int32))), (.int (1 : Int32)), (.ref b1)])) _
      refine XS.ifNo X9.here hx rfl (hb hby at_32) rfl ((if0 _ _).trans (feq hc32_15).1) ?_
      show Steps p.tables e below (T9.setTop (mkF m 35 #[.val (.int p0), .val (.int p1), .val (.int p2), .val (.int p3), .val (.int (p0.toUInt32.toUInt16.toUInt32.toInt32)), .val (.ref b1), .unset, .unset, .unset, .unset] [(.int (1 : Int32)), (.ref b1)])) _
      refine XS.iload X9.here hx rfl (hb hby at_35) rfl ?_
      show Steps p.tables e below (T9.setTop (mkF m 37 #[.val (.int p0), .val (.int p1), .val (.int p2), .val (.int p3), .val (.int (p0.toUInt32.toUInt16.toUInt32.toInt32)), .val (.ref b1), .unset, .unset, .unset, .unset] [(.int (p0.toUInt32.toUInt16.toUInt32.toInt32)), (.int (1 : Int32)), (.ref b1)])) _
      refine XS.goto X9.here hx rfl (pc0 := 37) (pc' := 45) rfl (hb hby at_37) (by decide) (by decide) ?_
      exact kt
  obtain ⟨cl16, Ar16, Sz16, Nn16, Hs16⟩ := id V9
  have hin16 : ¬ ((1 : Int32) < 0 ∨ cl16.slots.size ≤ ((1 : Int32)).toNatClampNeg) := inb_of Sz16 ⟨by decide, by decide⟩
  obtain ⟨T17, h17, X17, e17, W17, st17⟩ := stC X9 hx hZ e9 Ar16 (j := (1 : Int32)) hin16 (g := (mkF m 45 #[.val (.int p0), .val (.int p1), .val (.int p2), .val (.int p3), .val (.int (p0.toUInt32.toUInt16.toUInt32.toInt32)), .val (.ref b1), .unset, .unset, .unset, .unset] [(.int (j0_29_S0 p0 p1 p3)), (.int (1 : Int32)), (.ref b1)])) rfl rfl (hb hby at_45)
  have V17 : own_AI Z h17 b1 .char (4 : Int32) (own_upd (own_upd (fun _ => 0) 0 (nar .char (j0_12_S0 p0 p1 p3))) 1 (nar .char (j0_29_S0 p0 p1 p3))) := own_AI.set V9 (fits_nar_char (j0_29_S0 p0 p1 p3)) W17
  have K18 : Keep h0 h17 [] := K10.wr W17 (Or.inr sz_b1)
  have Z19 : n0 ≤ h17.size := Nat.le_trans Z0 K18.1
  have N17 := Fr.snoc X17 N9 g_b1
  obtain ⟨LS17, X17, N17⟩ : ∃ L, Stand p l e room_1 s m #[(.int p0), (.int p1), (.int p2), (.int p3)] below meth c T17 L 1 4 ∧ Fr n0 L := ⟨_, X17, N17⟩
  have pre20 : ∀ t, Steps p.tables e below (T17.setTop (mkF m 49 #[.val (.int p0), .val (.int p1), .val (.int p2), .val (.int p3), .val (.int (p0.toUInt32.toUInt16.toUInt32.toInt32)), .val (.ref b1), .unset, .unset, .unset, .unset] [(.int (2 : Int32)), (.ref b1)])) t → Steps p.tables e below (s₁.setTop (entryFrame m #[(.int p0), (.int p1), (.int p2), (.int p3)] maxLocals)) t := fun t kt => preB13 t (by
      show Steps p.tables e below (T9.setTop (mkF m 45 #[.val (.int p0), .val (.int p1), .val (.int p2), .val (.int p3), .val (.int (p0.toUInt32.toUInt16.toUInt32.toInt32)), .val (.ref b1), .unset, .unset, .unset, .unset] [(.int (j0_29_S0 p0 p1 p3)), (.int (1 : Int32)), (.ref b1)])) _
      refine st17 _ ?_
      show Steps p.tables e below (T17.setTop (mkF m 46 #[.val (.int p0), .val (.int p1), .val (.int p2), .val (.int p3), .val (.int (p0.toUInt32.toUInt16.toUInt32.toInt32)), .val (.ref b1), .unset, .unset, .unset, .unset] [])) _
      refine XS.aload X17.here hx rfl (hb hby at_46) rfl rfl ?_
      show Steps p.tables e below (T17.setTop (mkF m 48 #[.val (.int p0), .val (.int p1), .val (.int p2), .val (.int p3), .val (.int (p0.toUInt32.toUInt16.toUInt32.toInt32)), .val (.ref b1), .unset, .unset, .unset, .unset] [(.ref b1)])) _
      refine XS.iconst X17.here hx rfl (hb hby at_48) ?_
      exact kt)
  have preB21 : ∀ t, Steps p.tables e below (T17.setTop (mkF m 62 #[.val (.int p0), .val (.int p1), .val (.int p2), .val (.int p3), .val (.int (p0.toUInt32.toUInt16.toUInt32.toInt32)), .val (.ref b1), .unset, .unset, .unset, .unset] [(.int (j0_49_S0 p0 p2 p3)), (.int (2 : Int32)), (.ref b1)])) t → Steps p.tables e below (s₁.setTop (entryFrame m #[(.int p0), (.int p1), (.int p2), (.int p3)] maxLocals)) t := by
    intro t kt
    have pre22 : ∀ t, Steps p.tables e below (T17.setTop (mkF m 52 #[.val (.int p0), .val (.int p1), .val (.int p2), .val (.int p3), .val (.int (p0.toUInt32.toUInt16.toUInt32.toInt32)), .val (.ref b1), .unset, .unset, .unset, .unset] [(.int (p3 &&& (4 : Int32))), (.int (2 : Int32)), (.ref b1)])) t → Steps p.tables e below (s₁.setTop (entryFrame m #[(.int p0), (.int p1), (.int p2), (.int p3)] maxLocals)) t := fun t kt => pre20 t (by
        show Steps p.tables e below (T17.setTop (mkF m 49 #[.val (.int p0), .val (.int p1), .val (.int p2), .val (.int p3), .val (.int (p0.toUInt32.toUInt16.toUInt32.toInt32)), .val (.ref b1), .unset, .unset, .unset, .unset] [(.int (2 : Int32)), (.ref b1)])) _
        refine XS.iloadN X17.here hx rfl (hb hby at_49) rfl ?_
        show Steps p.tables e below (T17.setTop (mkF m 50 #[.val (.int p0), .val (.int p1), .val (.int p2), .val (.int p3), .val (.int (p0.toUInt32.toUInt16.toUInt32.toInt32)), .val (.ref b1), .unset, .unset, .unset, .unset] [(.int p3), (.int (2 : Int32)), (.ref b1)])) _
        refine XS.iconst X17.here hx rfl (hb hby at_50) ?_
        show Steps p.tables e below (T17.setTop (mkF m 51 #[.val (.int p0), .val (.int p1), .val (.int p2), .val (.int p3), .val (.int (p0.toUInt32.toUInt16.toUInt32.toInt32)), .val (.ref b1), .unset, .unset, .unset, .unset] [(.int (4 : Int32)), (.int p3), (.int (2 : Int32)), (.ref b1)])) _
        refine XS.iand X17.here hx rfl (hb hby at_51) rfl ?_
        exact kt)
    by_cases hc52_23 : (p3 &&& (4 : Int32)) = (0 : Int32)
    · rw [show (j0_49_S0 p0 p2 p3) = (p2.toUInt32.toUInt16.toUInt32.toInt32) from by rw [j0_49_S0, if_pos hc52_23]] at kt
      refine pre22 t ?_
      show Steps p.tables e below (T17.setTop (mkF m 52 #[.val (.int p0), .val (.int p1), .val (.int p2), .val (.int p3), .val (.int (p0.toUInt32.toUInt16.toUInt32.toInt32)), .val (.ref b1), .unset, .unset, .unset, .unset] [(.int (p3 &&& (4 : Int32))), (.int (2 : Int32)), (.ref b1)])) _
      refine XS.ifYes X17.here hx rfl (pc0 := 52) (pc' := 60) rfl (hb hby at_52) rfl ((if0 _ _).trans (teq hc52_23).1) (by decide) (by decide) ?_
      show Steps p.tables e below (T17.setTop (mkF m 60 #[.val (.int p0), .val (.int p1), .val (.int p2), .val (.int p3), .val (.int (p0.toUInt32.toUInt16.toUInt32.toInt32)), .val (.ref b1), .unset, .unset, .unset, .unset] [(.int (2 : Int32)), (.ref b1)])) _
      refine XS.iloadN X17.here hx rfl (hb hby at_60) rfl ?_
      show Steps p.tables e below (T17.setTop (mkF m 61 #[.val (.int p0), .val (.int p1), .val (.int p2), .val (.int p3), .val (.int (p0.toUInt32.toUInt16.toUInt32.toInt32)), .val (.ref b1), .unset, .unset, .unset, .unset] [(.int p2), (.int (2 : Int32)), (.ref b1)])) _
      refine XS.i2c X17.here hx rfl (hb hby at_61) rfl ?_
      exact kt
    · rw [show (j0_49_S0 p0 p2 p3) = (p0.toUInt32.toUInt16.toUInt32.toInt32) from by rw [j0_49_S0, if_neg hc52_23]] at kt
      refine pre22 t ?_
      show Steps p.tables e below (T17.setTop (mkF m 52 #[.val (.int p0), .val (.int p1), .val (.int p2), .val (.int p3), .val (.int (p0.toUInt32.toUInt16.toUInt32.toInt32)), .val (.ref b1), .unset, .unset, .unset, .unset] [(.int (p3 &&& (4 : Int32))), (.int (2 : Int32)), (.ref b1)])) _
      refine XS.ifNo X17.here hx rfl (hb hby at_52) rfl ((if0 _ _).trans (feq hc52_23).1) ?_
      show Steps p.tables e below (T17.setTop (mkF m 55 #[.val (.int p0), .val (.int p1), .val (.int p2), .val (.int p3), .val (.int (p0.toUInt32.toUInt16.toUInt32.toInt32)), .val (.ref b1), .unset, .unset, .unset, .unset] [(.int (2 : Int32)), (.ref b1)])) _
      refine XS.iload X17.here hx rfl (hb hby at_55) rfl ?_
      show Steps p.tables e below (T17.setTop (mkF m 57 #[.val (.int p0), .val (.int p1), .val (.int p2), .val (.int p3), .val (.int (p0.toUInt32.toUInt16.toUInt32.toInt32)), .val (.ref b1), .unset, .unset, .unset, .unset] [(.int (p0.toUInt32.toUInt16.toUInt32.toInt32)), (.int (2 : Int32)), (.ref b1)])) _
      refine XS.goto X17.here hx rfl (pc0 := 57) (pc' := 62) rfl (hb hby at_57) (by decide) (by decide) ?_
      exact kt
  obtain ⟨cl24, Ar24, Sz24, Nn24, Hs24⟩ := id V17
  have hin24 : ¬ ((2 : Int32) < 0 ∨ cl24.slots.size ≤ ((2 : Int32)).toNatClampNeg) := inb_of Sz24 ⟨by decide, by decide⟩
  obtain ⟨T25, h25, X25, e25, W25, st25⟩ := stC X17 hx hZ e17 Ar24 (j := (2 : Int32)) hin24 (g := (mkF m 62 #[.val (.int p0), .val (.int p1), .val (.int p2), .val (.int p3), .val (.int (p0.toUInt32.toUInt16.toUInt32.toInt32)), .val (.ref b1), .unset, .unset, .unset, .unset] [(.int (j0_49_S0 p0 p2 p3)), (.int (2 : Int32)), (.ref b1)])) rfl rfl (hb hby at_62)
  have V25 : own_AI Z h25 b1 .char (4 : Int32) (own_upd (own_upd (own_upd (fun _ => 0) 0 (nar .char (j0_12_S0 p0 p1 p3))) 1 (nar .char (j0_29_S0 p0 p1 p3))) 2 (nar .char (j0_49_S0 p0 p2 p3))) := own_AI.set V17 (fits_nar_char (j0_49_S0 p0 p2 p3)) W25
  have K26 : Keep h0 h25 [] := K18.wr W25 (Or.inr sz_b1)
  have Z27 : n0 ≤ h25.size := Nat.le_trans Z0 K26.1
  have N25 := Fr.snoc X25 N17 g_b1
  obtain ⟨LS25, X25, N25⟩ : ∃ L, Stand p l e room_1 s m #[(.int p0), (.int p1), (.int p2), (.int p3)] below meth c T25 L 1 4 ∧ Fr n0 L := ⟨_, X25, N25⟩
  have pre28 : ∀ t, Steps p.tables e below (T25.setTop (mkF m 66 #[.val (.int p0), .val (.int p1), .val (.int p2), .val (.int p3), .val (.int (p0.toUInt32.toUInt16.toUInt32.toInt32)), .val (.ref b1), .unset, .unset, .unset, .unset] [(.int (3 : Int32)), (.ref b1)])) t → Steps p.tables e below (s₁.setTop (entryFrame m #[(.int p0), (.int p1), (.int p2), (.int p3)] maxLocals)) t := fun t kt => preB21 t (by
      show Steps p.tables e below (T17.setTop (mkF m 62 #[.val (.int p0), .val (.int p1), .val (.int p2), .val (.int p3), .val (.int (p0.toUInt32.toUInt16.toUInt32.toInt32)), .val (.ref b1), .unset, .unset, .unset, .unset] [(.int (j0_49_S0 p0 p2 p3)), (.int (2 : Int32)), (.ref b1)])) _
      refine st25 _ ?_
      show Steps p.tables e below (T25.setTop (mkF m 63 #[.val (.int p0), .val (.int p1), .val (.int p2), .val (.int p3), .val (.int (p0.toUInt32.toUInt16.toUInt32.toInt32)), .val (.ref b1), .unset, .unset, .unset, .unset] [])) _
      refine XS.aload X25.here hx rfl (hb hby at_63) rfl rfl ?_
      show Steps p.tables e below (T25.setTop (mkF m 65 #[.val (.int p0), .val (.int p1), .val (.int p2), .val (.int p3), .val (.int (p0.toUInt32.toUInt16.toUInt32.toInt32)), .val (.ref b1), .unset, .unset, .unset, .unset] [(.ref b1)])) _
      refine XS.iconst X25.here hx rfl (hb hby at_65) ?_
      exact kt)
  have preB29 : ∀ t, Steps p.tables e below (T25.setTop (mkF m 83 #[.val (.int p0), .val (.int p1), .val (.int p2), .val (.int p3), .val (.int (p0.toUInt32.toUInt16.toUInt32.toInt32)), .val (.ref b1), .unset, .unset, .unset, .unset] [(.int (j0_66_S0 p0 p2 p3)), (.int (3 : Int32)), (.ref b1)])) t → Steps p.tables e below (s₁.setTop (entryFrame m #[(.int p0), (.int p1), (.int p2), (.int p3)] maxLocals)) t := by
    intro t kt
    have pre30 : ∀ t, Steps p.tables e below (T25.setTop (mkF m 70 #[.val (.int p0), .val (.int p1), .val (.int p2), .val (.int p3), .val (.int (p0.toUInt32.toUInt16.toUInt32.toInt32)), .val (.ref b1), .unset, .unset, .unset, .unset] [(.int (p3 &&& (8 : Int32))), (.int (3 : Int32)), (.ref b1)])) t → Steps p.tables e below (s₁.setTop (entryFrame m #[(.int p0), (.int p1), (.int p2), (.int p3)] maxLocals)) t := fun t kt => pre28 t (by
        show Steps p.tables e below (T25.setTop (mkF m 66 #[.val (.int p0), .val (.int p1), .val (.int p2), .val (.int p3), .val (.int (p0.toUInt32.toUInt16.toUInt32.toInt32)), .val (.ref b1), .unset, .unset, .unset, .unset] [(.int (3 : Int32)), (.ref b1)])) _
        refine XS.iloadN X25.here hx rfl (hb hby at_66) rfl ?_
        show Steps p.tables e below (T25.setTop (mkF m 67 #[.val (.int p0), .val (.int p1), .val (.int p2), .val (.int p3), .val (.int (p0.toUInt32.toUInt16.toUInt32.toInt32)), .val (.ref b1), .unset, .unset, .unset, .unset] [(.int p3), (.int (3 : Int32)), (.ref b1)])) _
        refine XS.bipush X25.here hx rfl (hb hby at_67) ?_
        show Steps p.tables e below (T25.setTop (mkF m 69 #[.val (.int p0), .val (.int p1), .val (.int p2), .val (.int p3), .val (.int (p0.toUInt32.toUInt16.toUInt32.toInt32)), .val (.ref b1), .unset, .unset, .unset, .unset] [(.int (8 : Int32)), (.int p3), (.int (3 : Int32)), (.ref b1)])) _
        refine XS.iand X25.here hx rfl (hb hby at_69) rfl ?_
        exact kt)
    by_cases hc70_31 : (p3 &&& (8 : Int32)) = (0 : Int32)
    · rw [show (j0_66_S0 p0 p2 p3) = (((p2.toUInt32 >>> ((16 : Int32) &&& 31).toUInt32).toInt32).toUInt32.toUInt16.toUInt32.toInt32) from by rw [j0_66_S0, if_pos hc70_31]] at kt
      refine pre30 t ?_
      show Steps p.tables e below (T25.setTop (mkF m 70 #[.val (.int p0), .val (.int p1), .val (.int p2), .val (.int p3), .val (.int (p0.toUInt32.toUInt16.toUInt32.toInt32)), .val (.ref b1), .unset, .unset, .unset, .unset] [(.int (p3 &&& (8 : Int32))), (.int (3 : Int32)), (.ref b1)])) _
      refine XS.ifYes X25.here hx rfl (pc0 := 70) (pc' := 78) rfl (hb hby at_70) rfl ((if0 _ _).trans (teq hc70_31).1) (by decide) (by decide) ?_
      show Steps p.tables e below (T25.setTop (mkF m 78 #[.val (.int p0), .val (.int p1), .val (.int p2), .val (.int p3), .val (.int (p0.toUInt32.toUInt16.toUInt32.toInt32)), .val (.ref b1), .unset, .unset, .unset, .unset] [(.int (3 : Int32)), (.ref b1)])) _
      refine XS.iloadN X25.here hx rfl (hb hby at_78) rfl ?_
      show Steps p.tables e below (T25.setTop (mkF m 79 #[.val (.int p0), .val (.int p1), .val (.int p2), .val (.int p3), .val (.int (p0.toUInt32.toUInt16.toUInt32.toInt32)), .val (.ref b1), .unset, .unset, .unset, .unset] [(.int p2), (.int (3 : Int32)), (.ref b1)])) _
      refine XS.bipush X25.here hx rfl (hb hby at_79) ?_
      show Steps p.tables e below (T25.setTop (mkF m 81 #[.val (.int p0), .val (.int p1), .val (.int p2), .val (.int p3), .val (.int (p0.toUInt32.toUInt16.toUInt32.toInt32)), .val (.ref b1), .unset, .unset, .unset, .unset] [(.int (16 : Int32)), (.int p2), (.int (3 : Int32)), (.ref b1)])) _
      refine XS.iushr X25.here hx rfl (hb hby at_81) rfl ?_
      show Steps p.tables e below (T25.setTop (mkF m 82 #[.val (.int p0), .val (.int p1), .val (.int p2), .val (.int p3), .val (.int (p0.toUInt32.toUInt16.toUInt32.toInt32)), .val (.ref b1), .unset, .unset, .unset, .unset] [(.int ((p2.toUInt32 >>> ((16 : Int32) &&& 31).toUInt32).toInt32)), (.int (3 : Int32)), (.ref b1)])) _
      refine XS.i2c X25.here hx rfl (hb hby at_82) rfl ?_
      exact kt
    · rw [show (j0_66_S0 p0 p2 p3) = (p0.toUInt32.toUInt16.toUInt32.toInt32) from by rw [j0_66_S0, if_neg hc70_31]] at kt
      refine pre30 t ?_
      show Steps p.tables e below (T25.setTop (mkF m 70 #[.val (.int p0), .val (.int p1), .val (.int p2), .val (.int p3), .val (.int (p0.toUInt32.toUInt16.toUInt32.toInt32)), .val (.ref b1), .unset, .unset, .unset, .unset] [(.int (p3 &&& (8 : Int32))), (.int (3 : Int32)), (.ref b1)])) _
      refine XS.ifNo X25.here hx rfl (hb hby at_70) rfl ((if0 _ _).trans (feq hc70_31).1) ?_
      show Steps p.tables e below (T25.setTop (mkF m 73 #[.val (.int p0), .val (.int p1), .val (.int p2), .val (.int p3), .val (.int (p0.toUInt32.toUInt16.toUInt32.toInt32)), .val (.ref b1), .unset, .unset, .unset, .unset] [(.int (3 : Int32)), (.ref b1)])) _
      refine XS.iload X25.here hx rfl (hb hby at_73) rfl ?_
      show Steps p.tables e below (T25.setTop (mkF m 75 #[.val (.int p0), .val (.int p1), .val (.int p2), .val (.int p3), .val (.int (p0.toUInt32.toUInt16.toUInt32.toInt32)), .val (.ref b1), .unset, .unset, .unset, .unset] [(.int (p0.toUInt32.toUInt16.toUInt32.toInt32)), (.int (3 : Int32)), (.ref b1)])) _
      refine XS.goto X25.here hx rfl (pc0 := 75) (pc' := 83) rfl (hb hby at_75) (by decide) (by decide) ?_
      exact kt
  obtain ⟨cl32, Ar32, Sz32, Nn32, Hs32⟩ := id V25
  have hin32 : ¬ ((3 : Int32) < 0 ∨ cl32.slots.size ≤ ((3 : Int32)).toNatClampNeg) := inb_of Sz32 ⟨by decide, by decide⟩
  obtain ⟨T33, h33, X33, e33, W33, st33⟩ := stC X25 hx hZ e25 Ar32 (j := (3 : Int32)) hin32 (g := (mkF m 83 #[.val (.int p0), .val (.int p1), .val (.int p2), .val (.int p3), .val (.int (p0.toUInt32.toUInt16.toUInt32.toInt32)), .val (.ref b1), .unset, .unset, .unset, .unset] [(.int (j0_66_S0 p0 p2 p3)), (.int (3 : Int32)), (.ref b1)])) rfl rfl (hb hby at_83)
  have V33 : own_AI Z h33 b1 .char (4 : Int32) (own_upd (own_upd (own_upd (own_upd (fun _ => 0) 0 (nar .char (j0_12_S0 p0 p1 p3))) 1 (nar .char (j0_29_S0 p0 p1 p3))) 2 (nar .char (j0_49_S0 p0 p2 p3))) 3 (nar .char (j0_66_S0 p0 p2 p3))) := own_AI.set V25 (fits_nar_char (j0_66_S0 p0 p2 p3)) W33
  have K34 : Keep h0 h33 [] := K26.wr W33 (Or.inr sz_b1)
  have Z35 : n0 ≤ h33.size := Nat.le_trans Z0 K34.1
  have N33 := Fr.snoc X33 N25 g_b1
  obtain ⟨LS33, X33, N33⟩ : ∃ L, Stand p l e room_1 s m #[(.int p0), (.int p1), (.int p2), (.int p3)] below meth c T33 L 1 4 ∧ Fr n0 L := ⟨_, X33, N33⟩
  have pre36 : ∀ t, Steps p.tables e below (T33.setTop (mkF m 84 #[.val (.int p0), .val (.int p1), .val (.int p2), .val (.int p3), .val (.int (p0.toUInt32.toUInt16.toUInt32.toInt32)), .val (.ref b1), .unset, .unset, .unset, .unset] [])) t → Steps p.tables e below (s₁.setTop (entryFrame m #[(.int p0), (.int p1), (.int p2), (.int p3)] maxLocals)) t := fun t kt => preB29 t (by
      show Steps p.tables e below (T25.setTop (mkF m 83 #[.val (.int p0), .val (.int p1), .val (.int p2), .val (.int p3), .val (.int (p0.toUInt32.toUInt16.toUInt32.toInt32)), .val (.ref b1), .unset, .unset, .unset, .unset] [(.int (j0_66_S0 p0 p2 p3)), (.int (3 : Int32)), (.ref b1)])) _
      refine st33 _ ?_
      exact kt)
  by_cases hR84_37 : (¬ (255 : Int32) < (own_upd (own_upd (own_upd (own_upd (fun _ => 0) 0 (nar .char (j0_12_S0 p0 p1 p3))) 1 (nar .char (j0_29_S0 p0 p1 p3))) 2 (nar .char (j0_49_S0 p0 p2 p3))) 3 (nar .char (j0_66_S0 p0 p2 p3))) 0 ∧ ¬ (255 : Int32) < (own_upd (own_upd (own_upd (own_upd (fun _ => 0) 0 (nar .char (j0_12_S0 p0 p1 p3))) 1 (nar .char (j0_29_S0 p0 p1 p3))) 2 (nar .char (j0_49_S0 p0 p2 p3))) 3 (nar .char (j0_66_S0 p0 p2 p3))) 1 ∧ ¬ (255 : Int32) < (own_upd (own_upd (own_upd (own_upd (fun _ => 0) 0 (nar .char (j0_12_S0 p0 p1 p3))) 1 (nar .char (j0_29_S0 p0 p1 p3))) 2 (nar .char (j0_49_S0 p0 p2 p3))) 3 (nar .char (j0_66_S0 p0 p2 p3))) 2 ∧ ¬ (255 : Int32) < (own_upd (own_upd (own_upd (own_upd (fun _ => 0) 0 (nar .char (j0_12_S0 p0 p1 p3))) 1 (nar .char (j0_29_S0 p0 p1 p3))) 2 (nar .char (j0_49_S0 p0 p2 p3))) 3 (nar .char (j0_66_S0 p0 p2 p3))) 3)
  · obtain ⟨T38, h38, X38, e38, E38, A38, D38, -, st38⟩ := newO X33 hx hZ hown (hw _ (List.mem_of_getElem? (i := 1) rfl)) (hw _ (List.mem_of_getElem? (i := 2) rfl)) (hw _ (List.mem_of_getElem? (i := 3) rfl)) e33 (g := (mkF m 84 #[.val (.int p0), .val (.int p1), .val (.int p2), .val (.int p3), .val (.int (p0.toUInt32.toUInt16.toUInt32.toInt32)), .val (.ref b1), .unset, .unset, .unset, .unset] [])) rfl (hb hby at_84) (by decide) (by decide)
    obtain ⟨b38, g38⟩ : ∃ z, z = h33.size := ⟨_, rfl⟩
    rw [← g38] at A38 D38 st38
    have g_b38 : n0 ≤ b38 := Nat.le_trans Z35 (Nat.le_of_eq g38.symm)
    have sz_b38 : h0.size ≤ b38 := Nat.le_trans K34.1 (Nat.le_of_eq g38.symm)
    have ne_b1_b38 : b1 ≠ b38 := Nat.ne_of_lt (Nat.lt_of_lt_of_le V33.lt (Nat.le_of_eq g38.symm))
    have K39 : Keep h0 h38 [] := K34.ext E38
    have Z40 : n0 ≤ h38.size := Nat.le_trans Z0 K39.1
    have E_b38 := A38
    have F_coder_b38 : Fld Z h38 b38 "java/lang/String" "coder" "B" (.int (0 : Int32)) := D38 (Or.inr (hw _ (List.mem_of_getElem? (i := 27) rfl))) (ty := .byte) (by decide)
    have F_value_b38 : Fld Z h38 b38 "java/lang/String" "value" "[B" .null := D38 (Or.inr (hw _ (List.mem_of_getElem? (i := 29) rfl))) (ty := (.array .byte)) (by decide)
    have c42 := ((((((S_COMPACT_STRINGS.ext E1).wr W9).wr W17).wr W25).wr W33).ext E38)
    obtain ⟨_, _, ⟨T41, L41, k41, n41⟩, -, X41, ⟨Lc41, hQ41, l41, y41, z41⟩, st41⟩ := X38.specialBack hx (y := (⟨"java/lang/String", "<init>", "([C)V"⟩ : MethodName)) rfl hown (mvT hZ (hw _ (List.mem_of_getElem? (i := 4) rfl))) (mvT hZ (hw _ (List.mem_of_getElem? (i := 5) rfl))) (mvT hZ (hw _ (List.mem_of_getElem? (i := 6) rfl))) (by decide) (backOf (W := 1) (rm1l l Z a0 hw [] b38 b1 cs (own_upd (own_upd (own_upd (own_upd (fun _ => 0) 0 (nar .char (j0_12_S0 p0 p1 p3))) 1 (nar .char (j0_29_S0 p0 p1 p3))) 2 (nar .char (j0_49_S0 p0 p2 p3))) 3 (nar .char (j0_66_S0 p0 p2 p3))) h38 n0 Z40 c42 (hcs) (V33.ext E38) E_b38 F_coder_b38 F_value_b38 g_b38 (Ne.symm ne_b1_b38) (hR84_37)) hZ (hw _ (List.mem_of_getElem? (i := 6) rfl)) (hw _ (List.mem_of_getElem? (i := 3) rfl)) (by decide) (by decide)) (g := (mkF m 90 #[.val (.int p0), .val (.int p1), .val (.int p2), .val (.int p3), .val (.int (p0.toUInt32.toUInt16.toUInt32.toInt32)), .val (.ref b1), .unset, .unset, .unset, .unset] [(.ref b1), (.ref b38), (.ref b38)])) rfl (by rw [hml]; rfl) (Steps.refl _) (a := b38) (argsL := [(.ref b1)]) (rest := [(.ref b38)]) (lenOf pd_0_0 rfl) rfl (by show 2 * 0 + _ ≤ _; exact Nat.le_of_eq rfl) (hb hby at_90) (fun _ _ => ⟨rfl, e38, (by decide : 2 + 1 ≤ _), (by decide : 8 + 4 ≤ _)⟩)
    dsimp only [Pt.U, Pt.locs, Pt.cells, Pt.slots] at X41 l41 y41 z41 st41 hQ41
    subst l41 y41 z41
    obtain ⟨r_o0_value_41, rfl, N41q, K41q, g_r_o0_value_41, szq_r_o0_value_41, G41_0, G41_1, G41_2⟩ := hQ41
    have N41 := Fr.app N33 N41q
    have ne_b1_r_o0_value_41 : b1 ≠ r_o0_value_41 := Nat.ne_of_lt (Nat.lt_of_lt_of_le (V33.ext E38).lt szq_r_o0_value_41)
    have ne_b38_r_o0_value_41 : b38 ≠ r_o0_value_41 := Nat.ne_of_lt (Nat.lt_of_lt_of_le E_b38.lt szq_r_o0_value_41)
    have sz_r_o0_value_41 : h0.size ≤ r_o0_value_41 := Nat.le_trans K39.1 szq_r_o0_value_41
    have c43 := ((((((S__assertionsDisabled.ext E1).wr W9).wr W17).wr W25).wr W33).ext E38)
    have c44 := ((((((S_HI_BYTE_SHIFT.ext E1).wr W9).wr W17).wr W25).wr W33).ext E38)
    have c45 := ((((((S_LO_BYTE_SHIFT.ext E1).wr W9).wr W17).wr W25).wr W33).ext E38)
    have c46 := ((((((S_SIOOBE_FORMATTER.ext E1).wr W9).wr W17).wr W25).wr W33).ext E38)
    have S47 := own_Sta_keep c42 K41q (allS (own_Exa_st E_b38) all0)
    have S48 := own_Sta_keep c43 K41q (allS (own_Exa_st E_b38) all0)
    have S49 := own_Sta_keep c44 K41q (allS (own_Exa_st E_b38) all0)
    have S50 := own_Sta_keep c45 K41q (allS (own_Exa_st E_b38) all0)
    have S51 := own_Sta_keep c46 K41q (allS (own_Exa_st E_b38) all0)
    have K52 : Keep h0 T41.heap [] := K39.trans K41q (allS (Or.inr sz_b38) all0)
    have Z53 : n0 ≤ T41.heap.size := Nat.le_trans Z0 K52.1
    obtain ⟨LS41, X41, N41⟩ : ∃ L, Stand p l e room_1 s m #[(.int p0), (.int p1), (.int p2), (.int p3)] below meth c T41 L 3 12 ∧ Fr n0 L := ⟨_, X41, N41⟩
    obtain ⟨_, _, ⟨T54, L54, k54, n54⟩, -, X54, ⟨Lc54, hQ54, l54, y54, z54⟩, st54⟩ := Jvm.LawKit.callS X41 hx (y := (⟨"com/example/corvid/corvid/internal/StringEscapesIndexOfPinLaw", "hit", "([CCIII)Z"⟩ : MethodName)) hown (mvT hZ (hw _ (List.mem_of_getElem? (i := 30) rfl))) (mvT hZ (hw _ (List.mem_of_getElem? (i := 31) rfl))) (mvT hZ (hw _ (List.mem_of_getElem? (i := 32) rfl))) (mvT hZ (hw _ (List.mem_of_getElem? (i := 33) rfl))) (by decide) (backOf (W := 0) (rm7 l Z a0 hw [] b1 (p0.toUInt32.toUInt16.toUInt32.toInt32) (0 : Int32) (e0_1 p3) (e0_2 p3) (own_upd (own_upd (own_upd (own_upd (fun _ => 0) 0 (nar .char (j0_12_S0 p0 p1 p3))) 1 (nar .char (j0_29_S0 p0 p1 p3))) 2 (nar .char (j0_49_S0 p0 p2 p3))) 3 (nar .char (j0_66_S0 p0 p2 p3))) T41.heap n0 Z53 ((V33.ext E38).keep K41q (ninS ne_b1_b38 nin0)) (⟨by decide, by decide⟩)) hZ (hw _ (List.mem_of_getElem? (i := 33) rfl)) (hw _ (List.mem_of_getElem? (i := 32) rfl)) (by decide) (by decide)) (g := (mkF m 131 #[.val (.int p0), .val (.int p1), .val (.int p2), .val (.int p3), .val (.int (p0.toUInt32.toUInt16.toUInt32.toInt32)), .val (.ref b1), .val (.ref b38), .val (.int (e0_1 p3)), .val (.int (e0_2 p3)), .unset] [(.int (e0_2 p3)), (.int (e0_1 p3)), (.int (0 : Int32)), (.int (p0.toUInt32.toUInt16.toUInt32.toInt32)), (.ref b1)])) rfl (by rw [hml]; rfl) (argsL := [(.ref b1), (.int (p0.toUInt32.toUInt16.toUInt32.toInt32)), (.int (0 : Int32)), (.int (e0_1 p3)), (.int (e0_2 p3))]) (rest := []) (lenOf pd_0_1 rfl) rfl (by show 2 * 0 + _ ≤ _; exact Nat.le_of_eq rfl) (hb hby at_131) (fun _ _ => ⟨rfl, rfl, (by decide : 3 + 0 ≤ _), (by decide : 12 + 0 ≤ _)⟩)
    dsimp only [Pt.U, Pt.locs, Pt.cells, Pt.slots] at X54 l54 y54 z54 st54 hQ54
    subst l54 y54 z54
    obtain ⟨rfl, N54q, e54q⟩ := hQ54
    have N54 := Fr.app N41 N54q
    have pre55 : ∀ t, Steps p.tables e below (T54.setTop (mkF m 134 #[.val (.int p0), .val (.int p1), .val (.int p2), .val (.int p3), .val (.int (p0.toUInt32.toUInt16.toUInt32.toInt32)), .val (.ref b1), .val (.ref b38), .val (.int (e0_1 p3)), .val (.int (e0_2 p3)), .unset] [(.int (f7 (p0.toUInt32.toUInt16.toUInt32.toInt32) (0 : Int32) (e0_1 p3) (e0_2 p3) (own_upd (own_upd (own_upd (own_upd (fun _ => 0) 0 (nar .char (j0_12_S0 p0 p1 p3))) 1 (nar .char (j0_29_S0 p0 p1 p3))) 2 (nar .char (j0_49_S0 p0 p2 p3))) 3 (nar .char (j0_66_S0 p0 p2 p3)))))])) t → Steps p.tables e below (s₁.setTop (entryFrame m #[(.int p0), (.int p1), (.int p2), (.int p3)] maxLocals)) t := fun t kt => pre36 t (by
        show Steps p.tables e below (T33.setTop (mkF m 84 #[.val (.int p0), .val (.int p1), .val (.int p2), .val (.int p3), .val (.int (p0.toUInt32.toUInt16.toUInt32.toInt32)), .val (.ref b1), .unset, .unset, .unset, .unset] [])) _
        refine st38 _ ?_
        show Steps p.tables e below (T38.setTop (mkF m 87 #[.val (.int p0), .val (.int p1), .val (.int p2), .val (.int p3), .val (.int (p0.toUInt32.toUInt16.toUInt32.toInt32)), .val (.ref b1), .unset, .unset, .unset, .unset] [(.ref b38)])) _
        refine XS.dup X38.here hx rfl (hb hby at_87) rfl rfl ?_
        show Steps p.tables e below (T38.setTop (mkF m 88 #[.val (.int p0), .val (.int p1), .val (.int p2), .val (.int p3), .val (.int (p0.toUInt32.toUInt16.toUInt32.toInt32)), .val (.ref b1), .unset, .unset, .unset, .unset] [(.ref b38), (.ref b38)])) _
        refine XS.aload X38.here hx rfl (hb hby at_88) rfl rfl ?_
        show Steps p.tables e below (T38.setTop (mkF m 90 #[.val (.int p0), .val (.int p1), .val (.int p2), .val (.int p3), .val (.int (p0.toUInt32.toUInt16.toUInt32.toInt32)), .val (.ref b1), .unset, .unset, .unset, .unset] [(.ref b1), (.ref b38), (.ref b38)])) _
        refine st41.trans ?_
        show Steps p.tables e below (T41.setTop (mkF m 93 #[.val (.int p0), .val (.int p1), .val (.int p2), .val (.int p3), .val (.int (p0.toUInt32.toUInt16.toUInt32.toInt32)), .val (.ref b1), .unset, .unset, .unset, .unset] [(.ref b38)])) _
        refine XS.astore X41.here hx rfl (hb hby at_93) rfl rfl (l' := #[.val (.int p0), .val (.int p1), .val (.int p2), .val (.int p3), .val (.int (p0.toUInt32.toUInt16.toUInt32.toInt32)), .val (.ref b1), .val (.ref b38), .unset, .unset, .unset]) rfl ?_
        show Steps p.tables e below (T41.setTop (mkF m 95 #[.val (.int p0), .val (.int p1), .val (.int p2), .val (.int p3), .val (.int (p0.toUInt32.toUInt16.toUInt32.toInt32)), .val (.ref b1), .val (.ref b38), .unset, .unset, .unset] [])) _
        refine XS.iloadN X41.here hx rfl (hb hby at_95) rfl ?_
        show Steps p.tables e below (T41.setTop (mkF m 96 #[.val (.int p0), .val (.int p1), .val (.int p2), .val (.int p3), .val (.int (p0.toUInt32.toUInt16.toUInt32.toInt32)), .val (.ref b1), .val (.ref b38), .unset, .unset, .unset] [(.int p3)])) _
        refine XS.iconst X41.here hx rfl (hb hby at_96) ?_
        show Steps p.tables e below (T41.setTop (mkF m 97 #[.val (.int p0), .val (.int p1), .val (.int p2), .val (.int p3), .val (.int (p0.toUInt32.toUInt16.toUInt32.toInt32)), .val (.ref b1), .val (.ref b38), .unset, .unset, .unset] [(.int (4 : Int32)), (.int p3)])) _
        refine XS.iushr X41.here hx rfl (hb hby at_97) rfl ?_
        show Steps p.tables e below (T41.setTop (mkF m 98 #[.val (.int p0), .val (.int p1), .val (.int p2), .val (.int p3), .val (.int (p0.toUInt32.toUInt16.toUInt32.toInt32)), .val (.ref b1), .val (.ref b38), .unset, .unset, .unset] [(.int ((p3.toUInt32 >>> ((4 : Int32) &&& 31).toUInt32).toInt32))])) _
        refine XS.bipush X41.here hx rfl (hb hby at_98) ?_
        show Steps p.tables e below (T41.setTop (mkF m 100 #[.val (.int p0), .val (.int p1), .val (.int p2), .val (.int p3), .val (.int (p0.toUInt32.toUInt16.toUInt32.toInt32)), .val (.ref b1), .val (.ref b38), .unset, .unset, .unset] [(.int (7 : Int32)), (.int ((p3.toUInt32 >>> ((4 : Int32) &&& 31).toUInt32).toInt32))])) _
        refine XS.iand X41.here hx rfl (hb hby at_100) rfl ?_
        show Steps p.tables e below (T41.setTop (mkF m 101 #[.val (.int p0), .val (.int p1), .val (.int p2), .val (.int p3), .val (.int (p0.toUInt32.toUInt16.toUInt32.toInt32)), .val (.ref b1), .val (.ref b38), .unset, .unset, .unset] [(.int (((p3.toUInt32 >>> ((4 : Int32) &&& 31).toUInt32).toInt32) &&& (7 : Int32)))])) _
        refine XS.iconst X41.here hx rfl (hb hby at_101) ?_
        show Steps p.tables e below (T41.setTop (mkF m 102 #[.val (.int p0), .val (.int p1), .val (.int p2), .val (.int p3), .val (.int (p0.toUInt32.toUInt16.toUInt32.toInt32)), .val (.ref b1), .val (.ref b38), .unset, .unset, .unset] [(.int (5 : Int32)), (.int (((p3.toUInt32 >>> ((4 : Int32) &&& 31).toUInt32).toInt32) &&& (7 : Int32)))])) _
        refine XS.irem X41.here hx rfl (hb hby at_102) rfl (by decide) ?_
        show Steps p.tables e below (T41.setTop (mkF m 103 #[.val (.int p0), .val (.int p1), .val (.int p2), .val (.int p3), .val (.int (p0.toUInt32.toUInt16.toUInt32.toInt32)), .val (.ref b1), .val (.ref b38), .unset, .unset, .unset] [(.int ((((p3.toUInt32 >>> ((4 : Int32) &&& 31).toUInt32).toInt32) &&& (7 : Int32)) - ((((p3.toUInt32 >>> ((4 : Int32) &&& 31).toUInt32).toInt32) &&& (7 : Int32)) / (5 : Int32)) * (5 : Int32)))])) _
        refine XS.istore X41.here hx rfl (hb hby at_103) rfl (l' := #[.val (.int p0), .val (.int p1), .val (.int p2), .val (.int p3), .val (.int (p0.toUInt32.toUInt16.toUInt32.toInt32)), .val (.ref b1), .val (.ref b38), .val (.int (e0_1 p3)), .unset, .unset]) rfl ?_
        show Steps p.tables e below (T41.setTop (mkF m 105 #[.val (.int p0), .val (.int p1), .val (.int p2), .val (.int p3), .val (.int (p0.toUInt32.toUInt16.toUInt32.toInt32)), .val (.ref b1), .val (.ref b38), .val (.int (e0_1 p3)), .unset, .unset] [])) _
        refine XS.iload X41.here hx rfl (hb hby at_105) rfl ?_
        show Steps p.tables e below (T41.setTop (mkF m 107 #[.val (.int p0), .val (.int p1), .val (.int p2), .val (.int p3), .val (.int (p0.toUInt32.toUInt16.toUInt32.toInt32)), .val (.ref b1), .val (.ref b38), .val (.int (e0_1 p3)), .unset, .unset] [(.int (e0_1 p3))])) _
        refine XS.iloadN X41.here hx rfl (hb hby at_107) rfl ?_
        show Steps p.tables e below (T41.setTop (mkF m 108 #[.val (.int p0), .val (.int p1), .val (.int p2), .val (.int p3), .val (.int (p0.toUInt32.toUInt16.toUInt32.toInt32)), .val (.ref b1), .val (.ref b38), .val (.int (e0_1 p3)), .unset, .unset] [(.int p3), (.int (e0_1 p3))])) _
        refine XS.bipush X41.here hx rfl (hb hby at_108) ?_
        show Steps p.tables e below (T41.setTop (mkF m 110 #[.val (.int p0), .val (.int p1), .val (.int p2), .val (.int p3), .val (.int (p0.toUInt32.toUInt16.toUInt32.toInt32)), .val (.ref b1), .val (.ref b38), .val (.int (e0_1 p3)), .unset, .unset] [(.int (8 : Int32)), (.int p3), (.int (e0_1 p3))])) _
        refine XS.iushr X41.here hx rfl (hb hby at_110) rfl ?_
        show Steps p.tables e below (T41.setTop (mkF m 111 #[.val (.int p0), .val (.int p1), .val (.int p2), .val (.int p3), .val (.int (p0.toUInt32.toUInt16.toUInt32.toInt32)), .val (.ref b1), .val (.ref b38), .val (.int (e0_1 p3)), .unset, .unset] [(.int ((p3.toUInt32 >>> ((8 : Int32) &&& 31).toUInt32).toInt32)), (.int (e0_1 p3))])) _
        refine XS.bipush X41.here hx rfl (hb hby at_111) ?_
        show Steps p.tables e below (T41.setTop (mkF m 113 #[.val (.int p0), .val (.int p1), .val (.int p2), .val (.int p3), .val (.int (p0.toUInt32.toUInt16.toUInt32.toInt32)), .val (.ref b1), .val (.ref b38), .val (.int (e0_1 p3)), .unset, .unset] [(.int (7 : Int32)), (.int ((p3.toUInt32 >>> ((8 : Int32) &&& 31).toUInt32).toInt32)), (.int (e0_1 p3))])) _
        refine XS.iand X41.here hx rfl (hb hby at_113) rfl ?_
        show Steps p.tables e below (T41.setTop (mkF m 114 #[.val (.int p0), .val (.int p1), .val (.int p2), .val (.int p3), .val (.int (p0.toUInt32.toUInt16.toUInt32.toInt32)), .val (.ref b1), .val (.ref b38), .val (.int (e0_1 p3)), .unset, .unset] [(.int (((p3.toUInt32 >>> ((8 : Int32) &&& 31).toUInt32).toInt32) &&& (7 : Int32))), (.int (e0_1 p3))])) _
        refine XS.iconst X41.here hx rfl (hb hby at_114) ?_
        show Steps p.tables e below (T41.setTop (mkF m 115 #[.val (.int p0), .val (.int p1), .val (.int p2), .val (.int p3), .val (.int (p0.toUInt32.toUInt16.toUInt32.toInt32)), .val (.ref b1), .val (.ref b38), .val (.int (e0_1 p3)), .unset, .unset] [(.int (5 : Int32)), (.int (((p3.toUInt32 >>> ((8 : Int32) &&& 31).toUInt32).toInt32) &&& (7 : Int32))), (.int (e0_1 p3))])) _
        refine XS.iload X41.here hx rfl (hb hby at_115) rfl ?_
        show Steps p.tables e below (T41.setTop (mkF m 117 #[.val (.int p0), .val (.int p1), .val (.int p2), .val (.int p3), .val (.int (p0.toUInt32.toUInt16.toUInt32.toInt32)), .val (.ref b1), .val (.ref b38), .val (.int (e0_1 p3)), .unset, .unset] [(.int (e0_1 p3)), (.int (5 : Int32)), (.int (((p3.toUInt32 >>> ((8 : Int32) &&& 31).toUInt32).toInt32) &&& (7 : Int32))), (.int (e0_1 p3))])) _
        refine XS.isub X41.here hx rfl (hb hby at_117) rfl ?_
        show Steps p.tables e below (T41.setTop (mkF m 118 #[.val (.int p0), .val (.int p1), .val (.int p2), .val (.int p3), .val (.int (p0.toUInt32.toUInt16.toUInt32.toInt32)), .val (.ref b1), .val (.ref b38), .val (.int (e0_1 p3)), .unset, .unset] [(.int ((5 : Int32) - (e0_1 p3))), (.int (((p3.toUInt32 >>> ((8 : Int32) &&& 31).toUInt32).toInt32) &&& (7 : Int32))), (.int (e0_1 p3))])) _
        refine XS.irem X41.here hx rfl (hb hby at_118) rfl (own_ne5 p3) ?_
        show Steps p.tables e below (T41.setTop (mkF m 119 #[.val (.int p0), .val (.int p1), .val (.int p2), .val (.int p3), .val (.int (p0.toUInt32.toUInt16.toUInt32.toInt32)), .val (.ref b1), .val (.ref b38), .val (.int (e0_1 p3)), .unset, .unset] [(.int ((((p3.toUInt32 >>> ((8 : Int32) &&& 31).toUInt32).toInt32) &&& (7 : Int32)) - ((((p3.toUInt32 >>> ((8 : Int32) &&& 31).toUInt32).toInt32) &&& (7 : Int32)) / ((5 : Int32) - (e0_1 p3))) * ((5 : Int32) - (e0_1 p3)))), (.int (e0_1 p3))])) _
        refine XS.iadd X41.here hx rfl (hb hby at_119) rfl ?_
        show Steps p.tables e below (T41.setTop (mkF m 120 #[.val (.int p0), .val (.int p1), .val (.int p2), .val (.int p3), .val (.int (p0.toUInt32.toUInt16.toUInt32.toInt32)), .val (.ref b1), .val (.ref b38), .val (.int (e0_1 p3)), .unset, .unset] [(.int ((e0_1 p3) + ((((p3.toUInt32 >>> ((8 : Int32) &&& 31).toUInt32).toInt32) &&& (7 : Int32)) - ((((p3.toUInt32 >>> ((8 : Int32) &&& 31).toUInt32).toInt32) &&& (7 : Int32)) / ((5 : Int32) - (e0_1 p3))) * ((5 : Int32) - (e0_1 p3)))))])) _
        refine XS.istore X41.here hx rfl (hb hby at_120) rfl (l' := #[.val (.int p0), .val (.int p1), .val (.int p2), .val (.int p3), .val (.int (p0.toUInt32.toUInt16.toUInt32.toInt32)), .val (.ref b1), .val (.ref b38), .val (.int (e0_1 p3)), .val (.int (e0_2 p3)), .unset]) rfl ?_
        show Steps p.tables e below (T41.setTop (mkF m 122 #[.val (.int p0), .val (.int p1), .val (.int p2), .val (.int p3), .val (.int (p0.toUInt32.toUInt16.toUInt32.toInt32)), .val (.ref b1), .val (.ref b38), .val (.int (e0_1 p3)), .val (.int (e0_2 p3)), .unset] [])) _
        refine XS.aload X41.here hx rfl (hb hby at_122) rfl rfl ?_
        show Steps p.tables e below (T41.setTop (mkF m 124 #[.val (.int p0), .val (.int p1), .val (.int p2), .val (.int p3), .val (.int (p0.toUInt32.toUInt16.toUInt32.toInt32)), .val (.ref b1), .val (.ref b38), .val (.int (e0_1 p3)), .val (.int (e0_2 p3)), .unset] [(.ref b1)])) _
        refine XS.iload X41.here hx rfl (hb hby at_124) rfl ?_
        show Steps p.tables e below (T41.setTop (mkF m 126 #[.val (.int p0), .val (.int p1), .val (.int p2), .val (.int p3), .val (.int (p0.toUInt32.toUInt16.toUInt32.toInt32)), .val (.ref b1), .val (.ref b38), .val (.int (e0_1 p3)), .val (.int (e0_2 p3)), .unset] [(.int (p0.toUInt32.toUInt16.toUInt32.toInt32)), (.ref b1)])) _
        refine XS.iconst X41.here hx rfl (hb hby at_126) ?_
        show Steps p.tables e below (T41.setTop (mkF m 127 #[.val (.int p0), .val (.int p1), .val (.int p2), .val (.int p3), .val (.int (p0.toUInt32.toUInt16.toUInt32.toInt32)), .val (.ref b1), .val (.ref b38), .val (.int (e0_1 p3)), .val (.int (e0_2 p3)), .unset] [(.int (0 : Int32)), (.int (p0.toUInt32.toUInt16.toUInt32.toInt32)), (.ref b1)])) _
        refine XS.iload X41.here hx rfl (hb hby at_127) rfl ?_
        show Steps p.tables e below (T41.setTop (mkF m 129 #[.val (.int p0), .val (.int p1), .val (.int p2), .val (.int p3), .val (.int (p0.toUInt32.toUInt16.toUInt32.toInt32)), .val (.ref b1), .val (.ref b38), .val (.int (e0_1 p3)), .val (.int (e0_2 p3)), .unset] [(.int (e0_1 p3)), (.int (0 : Int32)), (.int (p0.toUInt32.toUInt16.toUInt32.toInt32)), (.ref b1)])) _
        refine XS.iload X41.here hx rfl (hb hby at_129) rfl ?_
        show Steps p.tables e below (T41.setTop (mkF m 131 #[.val (.int p0), .val (.int p1), .val (.int p2), .val (.int p3), .val (.int (p0.toUInt32.toUInt16.toUInt32.toInt32)), .val (.ref b1), .val (.ref b38), .val (.int (e0_1 p3)), .val (.int (e0_2 p3)), .unset] [(.int (e0_2 p3)), (.int (e0_1 p3)), (.int (0 : Int32)), (.int (p0.toUInt32.toUInt16.toUInt32.toInt32)), (.ref b1)])) _
        refine st54 _ ?_
        exact kt)
    by_cases hc134_56 : (f7 (p0.toUInt32.toUInt16.toUInt32.toInt32) (0 : Int32) (e0_1 p3) (e0_2 p3) (own_upd (own_upd (own_upd (own_upd (fun _ => 0) 0 (nar .char (j0_12_S0 p0 p1 p3))) 1 (nar .char (j0_29_S0 p0 p1 p3))) 2 (nar .char (j0_49_S0 p0 p2 p3))) 3 (nar .char (j0_66_S0 p0 p2 p3)))) = (0 : Int32)
    · obtain ⟨_, _, ⟨T57, L57, k57, n57⟩, -, X57, ⟨Lc57, hQ57, l57, y57, z57⟩, st57⟩ := Jvm.LawKit.callS X54 hx (y := (⟨"com/example/corvid/corvid/internal/StringEscapesIndexOfPinLaw", "hit", "([CCIII)Z"⟩ : MethodName)) hown (mvT hZ (hw _ (List.mem_of_getElem? (i := 30) rfl))) (mvT hZ (hw _ (List.mem_of_getElem? (i := 31) rfl))) (mvT hZ (hw _ (List.mem_of_getElem? (i := 32) rfl))) (mvT hZ (hw _ (List.mem_of_getElem? (i := 33) rfl))) (by decide) (backOf (W := 0) (rm7 l Z a0 hw [] b1 (p0.toUInt32.toUInt16.toUInt32.toInt32) (1 : Int32) (e0_1 p3) (e0_2 p3) (own_upd (own_upd (own_upd (own_upd (fun _ => 0) 0 (nar .char (j0_12_S0 p0 p1 p3))) 1 (nar .char (j0_29_S0 p0 p1 p3))) 2 (nar .char (j0_49_S0 p0 p2 p3))) 3 (nar .char (j0_66_S0 p0 p2 p3))) T41.heap n0 Z53 ((V33.ext E38).keep K41q (ninS ne_b1_b38 nin0)) (⟨by decide, by decide⟩)) hZ (hw _ (List.mem_of_getElem? (i := 33) rfl)) (hw _ (List.mem_of_getElem? (i := 32) rfl)) (by decide) (by decide)) (g := (mkF m 152 #[.val (.int p0), .val (.int p1), .val (.int p2), .val (.int p3), .val (.int (p0.toUInt32.toUInt16.toUInt32.toInt32)), .val (.ref b1), .val (.ref b38), .val (.int (e0_1 p3)), .val (.int (e0_2 p3)), .unset] [(.int (e0_2 p3)), (.int (e0_1 p3)), (.int (1 : Int32)), (.int (p0.toUInt32.toUInt16.toUInt32.toInt32)), (.ref b1)])) rfl (by rw [hml]; rfl) (argsL := [(.ref b1), (.int (p0.toUInt32.toUInt16.toUInt32.toInt32)), (.int (1 : Int32)), (.int (e0_1 p3)), (.int (e0_2 p3))]) (rest := []) (lenOf pd_0_1 rfl) rfl (by show 2 * 0 + _ ≤ _; exact Nat.le_of_eq rfl) (hb hby at_152) (fun _ _ => ⟨rfl, e54q, (by decide : 3 + 0 ≤ _), (by decide : 12 + 0 ≤ _)⟩)
      dsimp only [Pt.U, Pt.locs, Pt.cells, Pt.slots] at X57 l57 y57 z57 st57 hQ57
      subst l57 y57 z57
      obtain ⟨rfl, N57q, e57q⟩ := hQ57
      have N57 := Fr.app N54 N57q
      have pre58 : ∀ t, Steps p.tables e below (T57.setTop (mkF m 155 #[.val (.int p0), .val (.int p1), .val (.int p2), .val (.int p3), .val (.int (p0.toUInt32.toUInt16.toUInt32.toInt32)), .val (.ref b1), .val (.ref b38), .val (.int (e0_1 p3)), .val (.int (e0_2 p3)), .unset] [(.int (f7 (p0.toUInt32.toUInt16.toUInt32.toInt32) (1 : Int32) (e0_1 p3) (e0_2 p3) (own_upd (own_upd (own_upd (own_upd (fun _ => 0) 0 (nar .char (j0_12_S0 p0 p1 p3))) 1 (nar .char (j0_29_S0 p0 p1 p3))) 2 (nar .char (j0_49_S0 p0 p2 p3))) 3 (nar .char (j0_66_S0 p0 p2 p3)))))])) t → Steps p.tables e below (s₁.setTop (entryFrame m #[(.int p0), (.int p1), (.int p2), (.int p3)] maxLocals)) t := fun t kt => pre55 t (by
          show Steps p.tables e below (T54.setTop (mkF m 134 #[.val (.int p0), .val (.int p1), .val (.int p2), .val (.int p3), .val (.int (p0.toUInt32.toUInt16.toUInt32.toInt32)), .val (.ref b1), .val (.ref b38), .val (.int (e0_1 p3)), .val (.int (e0_2 p3)), .unset] [(.int (f7 (p0.toUInt32.toUInt16.toUInt32.toInt32) (0 : Int32) (e0_1 p3) (e0_2 p3) (own_upd (own_upd (own_upd (own_upd (fun _ => 0) 0 (nar .char (j0_12_S0 p0 p1 p3))) 1 (nar .char (j0_29_S0 p0 p1 p3))) 2 (nar .char (j0_49_S0 p0 p2 p3))) 3 (nar .char (j0_66_S0 p0 p2 p3)))))])) _
          refine XS.ifYes X54.here hx rfl (pc0 := 134) (pc' := 143) rfl (hb hby at_134) rfl ((if0 _ _).trans (teq hc134_56).1) (by decide) (by decide) ?_
          show Steps p.tables e below (T54.setTop (mkF m 143 #[.val (.int p0), .val (.int p1), .val (.int p2), .val (.int p3), .val (.int (p0.toUInt32.toUInt16.toUInt32.toInt32)), .val (.ref b1), .val (.ref b38), .val (.int (e0_1 p3)), .val (.int (e0_2 p3)), .unset] [])) _
          refine XS.aload X54.here hx rfl (hb hby at_143) rfl rfl ?_
          show Steps p.tables e below (T54.setTop (mkF m 145 #[.val (.int p0), .val (.int p1), .val (.int p2), .val (.int p3), .val (.int (p0.toUInt32.toUInt16.toUInt32.toInt32)), .val (.ref b1), .val (.ref b38), .val (.int (e0_1 p3)), .val (.int (e0_2 p3)), .unset] [(.ref b1)])) _
          refine XS.iload X54.here hx rfl (hb hby at_145) rfl ?_
          show Steps p.tables e below (T54.setTop (mkF m 147 #[.val (.int p0), .val (.int p1), .val (.int p2), .val (.int p3), .val (.int (p0.toUInt32.toUInt16.toUInt32.toInt32)), .val (.ref b1), .val (.ref b38), .val (.int (e0_1 p3)), .val (.int (e0_2 p3)), .unset] [(.int (p0.toUInt32.toUInt16.toUInt32.toInt32)), (.ref b1)])) _
          refine XS.iconst X54.here hx rfl (hb hby at_147) ?_
          show Steps p.tables e below (T54.setTop (mkF m 148 #[.val (.int p0), .val (.int p1), .val (.int p2), .val (.int p3), .val (.int (p0.toUInt32.toUInt16.toUInt32.toInt32)), .val (.ref b1), .val (.ref b38), .val (.int (e0_1 p3)), .val (.int (e0_2 p3)), .unset] [(.int (1 : Int32)), (.int (p0.toUInt32.toUInt16.toUInt32.toInt32)), (.ref b1)])) _
          refine XS.iload X54.here hx rfl (hb hby at_148) rfl ?_
          show Steps p.tables e below (T54.setTop (mkF m 150 #[.val (.int p0), .val (.int p1), .val (.int p2), .val (.int p3), .val (.int (p0.toUInt32.toUInt16.toUInt32.toInt32)), .val (.ref b1), .val (.ref b38), .val (.int (e0_1 p3)), .val (.int (e0_2 p3)), .unset] [(.int (e0_1 p3)), (.int (1 : Int32)), (.int (p0.toUInt32.toUInt16.toUInt32.toInt32)), (.ref b1)])) _
          refine XS.iload X54.here hx rfl (hb hby at_150) rfl ?_
          show Steps p.tables e below (T54.setTop (mkF m 152 #[.val (.int p0), .val (.int p1), .val (.int p2), .val (.int p3), .val (.int (p0.toUInt32.toUInt16.toUInt32.toInt32)), .val (.ref b1), .val (.ref b38), .val (.int (e0_1 p3)), .val (.int (e0_2 p3)), .unset] [(.int (e0_2 p3)), (.int (e0_1 p3)), (.int (1 : Int32)), (.int (p0.toUInt32.toUInt16.toUInt32.toInt32)), (.ref b1)])) _
          refine st57 _ ?_
          exact kt)
      by_cases hc155_59 : (f7 (p0.toUInt32.toUInt16.toUInt32.toInt32) (1 : Int32) (e0_1 p3) (e0_2 p3) (own_upd (own_upd (own_upd (own_upd (fun _ => 0) 0 (nar .char (j0_12_S0 p0 p1 p3))) 1 (nar .char (j0_29_S0 p0 p1 p3))) 2 (nar .char (j0_49_S0 p0 p2 p3))) 3 (nar .char (j0_66_S0 p0 p2 p3)))) = (0 : Int32)
      · obtain ⟨_, _, ⟨T60, L60, k60, n60⟩, -, X60, ⟨Lc60, hQ60, l60, y60, z60⟩, st60⟩ := Jvm.LawKit.callS X57 hx (y := (⟨"com/example/corvid/corvid/internal/StringEscapesIndexOfPinLaw", "hit", "([CCIII)Z"⟩ : MethodName)) hown (mvT hZ (hw _ (List.mem_of_getElem? (i := 30) rfl))) (mvT hZ (hw _ (List.mem_of_getElem? (i := 31) rfl))) (mvT hZ (hw _ (List.mem_of_getElem? (i := 32) rfl))) (mvT hZ (hw _ (List.mem_of_getElem? (i := 33) rfl))) (by decide) (backOf (W := 0) (rm7 l Z a0 hw [] b1 (p0.toUInt32.toUInt16.toUInt32.toInt32) (2 : Int32) (e0_1 p3) (e0_2 p3) (own_upd (own_upd (own_upd (own_upd (fun _ => 0) 0 (nar .char (j0_12_S0 p0 p1 p3))) 1 (nar .char (j0_29_S0 p0 p1 p3))) 2 (nar .char (j0_49_S0 p0 p2 p3))) 3 (nar .char (j0_66_S0 p0 p2 p3))) T41.heap n0 Z53 ((V33.ext E38).keep K41q (ninS ne_b1_b38 nin0)) (⟨by decide, by decide⟩)) hZ (hw _ (List.mem_of_getElem? (i := 33) rfl)) (hw _ (List.mem_of_getElem? (i := 32) rfl)) (by decide) (by decide)) (g := (mkF m 173 #[.val (.int p0), .val (.int p1), .val (.int p2), .val (.int p3), .val (.int (p0.toUInt32.toUInt16.toUInt32.toInt32)), .val (.ref b1), .val (.ref b38), .val (.int (e0_1 p3)), .val (.int (e0_2 p3)), .unset] [(.int (e0_2 p3)), (.int (e0_1 p3)), (.int (2 : Int32)), (.int (p0.toUInt32.toUInt16.toUInt32.toInt32)), (.ref b1)])) rfl (by rw [hml]; rfl) (argsL := [(.ref b1), (.int (p0.toUInt32.toUInt16.toUInt32.toInt32)), (.int (2 : Int32)), (.int (e0_1 p3)), (.int (e0_2 p3))]) (rest := []) (lenOf pd_0_1 rfl) rfl (by show 2 * 0 + _ ≤ _; exact Nat.le_of_eq rfl) (hb hby at_173) (fun _ _ => ⟨rfl, e57q, (by decide : 3 + 0 ≤ _), (by decide : 12 + 0 ≤ _)⟩)
        dsimp only [Pt.U, Pt.locs, Pt.cells, Pt.slots] at X60 l60 y60 z60 st60 hQ60
        subst l60 y60 z60
        obtain ⟨rfl, N60q, e60q⟩ := hQ60
        have N60 := Fr.app N57 N60q
        have pre61 : ∀ t, Steps p.tables e below (T60.setTop (mkF m 176 #[.val (.int p0), .val (.int p1), .val (.int p2), .val (.int p3), .val (.int (p0.toUInt32.toUInt16.toUInt32.toInt32)), .val (.ref b1), .val (.ref b38), .val (.int (e0_1 p3)), .val (.int (e0_2 p3)), .unset] [(.int (f7 (p0.toUInt32.toUInt16.toUInt32.toInt32) (2 : Int32) (e0_1 p3) (e0_2 p3) (own_upd (own_upd (own_upd (own_upd (fun _ => 0) 0 (nar .char (j0_12_S0 p0 p1 p3))) 1 (nar .char (j0_29_S0 p0 p1 p3))) 2 (nar .char (j0_49_S0 p0 p2 p3))) 3 (nar .char (j0_66_S0 p0 p2 p3)))))])) t → Steps p.tables e below (s₁.setTop (entryFrame m #[(.int p0), (.int p1), (.int p2), (.int p3)] maxLocals)) t := fun t kt => pre58 t (by
            show Steps p.tables e below (T57.setTop (mkF m 155 #[.val (.int p0), .val (.int p1), .val (.int p2), .val (.int p3), .val (.int (p0.toUInt32.toUInt16.toUInt32.toInt32)), .val (.ref b1), .val (.ref b38), .val (.int (e0_1 p3)), .val (.int (e0_2 p3)), .unset] [(.int (f7 (p0.toUInt32.toUInt16.toUInt32.toInt32) (1 : Int32) (e0_1 p3) (e0_2 p3) (own_upd (own_upd (own_upd (own_upd (fun _ => 0) 0 (nar .char (j0_12_S0 p0 p1 p3))) 1 (nar .char (j0_29_S0 p0 p1 p3))) 2 (nar .char (j0_49_S0 p0 p2 p3))) 3 (nar .char (j0_66_S0 p0 p2 p3)))))])) _
            refine XS.ifYes X57.here hx rfl (pc0 := 155) (pc' := 164) rfl (hb hby at_155) rfl ((if0 _ _).trans (teq hc155_59).1) (by decide) (by decide) ?_
            show Steps p.tables e below (T57.setTop (mkF m 164 #[.val (.int p0), .val (.int p1), .val (.int p2), .val (.int p3), .val (.int (p0.toUInt32.toUInt16.toUInt32.toInt32)), .val (.ref b1), .val (.ref b38), .val (.int (e0_1 p3)), .val (.int (e0_2 p3)), .unset] [])) _
            refine XS.aload X57.here hx rfl (hb hby at_164) rfl rfl ?_
            show Steps p.tables e below (T57.setTop (mkF m 166 #[.val (.int p0), .val (.int p1), .val (.int p2), .val (.int p3), .val (.int (p0.toUInt32.toUInt16.toUInt32.toInt32)), .val (.ref b1), .val (.ref b38), .val (.int (e0_1 p3)), .val (.int (e0_2 p3)), .unset] [(.ref b1)])) _
            refine XS.iload X57.here hx rfl (hb hby at_166) rfl ?_
            show Steps p.tables e below (T57.setTop (mkF m 168 #[.val (.int p0), .val (.int p1), .val (.int p2), .val (.int p3), .val (.int (p0.toUInt32.toUInt16.toUInt32.toInt32)), .val (.ref b1), .val (.ref b38), .val (.int (e0_1 p3)), .val (.int (e0_2 p3)), .unset] [(.int (p0.toUInt32.toUInt16.toUInt32.toInt32)), (.ref b1)])) _
            refine XS.iconst X57.here hx rfl (hb hby at_168) ?_
            show Steps p.tables e below (T57.setTop (mkF m 169 #[.val (.int p0), .val (.int p1), .val (.int p2), .val (.int p3), .val (.int (p0.toUInt32.toUInt16.toUInt32.toInt32)), .val (.ref b1), .val (.ref b38), .val (.int (e0_1 p3)), .val (.int (e0_2 p3)), .unset] [(.int (2 : Int32)), (.int (p0.toUInt32.toUInt16.toUInt32.toInt32)), (.ref b1)])) _
            refine XS.iload X57.here hx rfl (hb hby at_169) rfl ?_
            show Steps p.tables e below (T57.setTop (mkF m 171 #[.val (.int p0), .val (.int p1), .val (.int p2), .val (.int p3), .val (.int (p0.toUInt32.toUInt16.toUInt32.toInt32)), .val (.ref b1), .val (.ref b38), .val (.int (e0_1 p3)), .val (.int (e0_2 p3)), .unset] [(.int (e0_1 p3)), (.int (2 : Int32)), (.int (p0.toUInt32.toUInt16.toUInt32.toInt32)), (.ref b1)])) _
            refine XS.iload X57.here hx rfl (hb hby at_171) rfl ?_
            show Steps p.tables e below (T57.setTop (mkF m 173 #[.val (.int p0), .val (.int p1), .val (.int p2), .val (.int p3), .val (.int (p0.toUInt32.toUInt16.toUInt32.toInt32)), .val (.ref b1), .val (.ref b38), .val (.int (e0_1 p3)), .val (.int (e0_2 p3)), .unset] [(.int (e0_2 p3)), (.int (e0_1 p3)), (.int (2 : Int32)), (.int (p0.toUInt32.toUInt16.toUInt32.toInt32)), (.ref b1)])) _
            refine st60 _ ?_
            exact kt)
        by_cases hc176_62 : (f7 (p0.toUInt32.toUInt16.toUInt32.toInt32) (2 : Int32) (e0_1 p3) (e0_2 p3) (own_upd (own_upd (own_upd (own_upd (fun _ => 0) 0 (nar .char (j0_12_S0 p0 p1 p3))) 1 (nar .char (j0_29_S0 p0 p1 p3))) 2 (nar .char (j0_49_S0 p0 p2 p3))) 3 (nar .char (j0_66_S0 p0 p2 p3)))) = (0 : Int32)
        · obtain ⟨_, _, ⟨T63, L63, k63, n63⟩, -, X63, ⟨Lc63, hQ63, l63, y63, z63⟩, st63⟩ := Jvm.LawKit.callS X60 hx (y := (⟨"com/example/corvid/corvid/internal/StringEscapesIndexOfPinLaw", "hit", "([CCIII)Z"⟩ : MethodName)) hown (mvT hZ (hw _ (List.mem_of_getElem? (i := 30) rfl))) (mvT hZ (hw _ (List.mem_of_getElem? (i := 31) rfl))) (mvT hZ (hw _ (List.mem_of_getElem? (i := 32) rfl))) (mvT hZ (hw _ (List.mem_of_getElem? (i := 33) rfl))) (by decide) (backOf (W := 0) (rm7 l Z a0 hw [] b1 (p0.toUInt32.toUInt16.toUInt32.toInt32) (3 : Int32) (e0_1 p3) (e0_2 p3) (own_upd (own_upd (own_upd (own_upd (fun _ => 0) 0 (nar .char (j0_12_S0 p0 p1 p3))) 1 (nar .char (j0_29_S0 p0 p1 p3))) 2 (nar .char (j0_49_S0 p0 p2 p3))) 3 (nar .char (j0_66_S0 p0 p2 p3))) T41.heap n0 Z53 ((V33.ext E38).keep K41q (ninS ne_b1_b38 nin0)) (⟨by decide, by decide⟩)) hZ (hw _ (List.mem_of_getElem? (i := 33) rfl)) (hw _ (List.mem_of_getElem? (i := 32) rfl)) (by decide) (by decide)) (g := (mkF m 194 #[.val (.int p0), .val (.int p1), .val (.int p2), .val (.int p3), .val (.int (p0.toUInt32.toUInt16.toUInt32.toInt32)), .val (.ref b1), .val (.ref b38), .val (.int (e0_1 p3)), .val (.int (e0_2 p3)), .unset] [(.int (e0_2 p3)), (.int (e0_1 p3)), (.int (3 : Int32)), (.int (p0.toUInt32.toUInt16.toUInt32.toInt32)), (.ref b1)])) rfl (by rw [hml]; rfl) (argsL := [(.ref b1), (.int (p0.toUInt32.toUInt16.toUInt32.toInt32)), (.int (3 : Int32)), (.int (e0_1 p3)), (.int (e0_2 p3))]) (rest := []) (lenOf pd_0_1 rfl) rfl (by show 2 * 0 + _ ≤ _; exact Nat.le_of_eq rfl) (hb hby at_194) (fun _ _ => ⟨rfl, e60q, (by decide : 3 + 0 ≤ _), (by decide : 12 + 0 ≤ _)⟩)
          dsimp only [Pt.U, Pt.locs, Pt.cells, Pt.slots] at X63 l63 y63 z63 st63 hQ63
          subst l63 y63 z63
          obtain ⟨rfl, N63q, e63q⟩ := hQ63
          have N63 := Fr.app N60 N63q
          have pre64 : ∀ t, Steps p.tables e below (T63.setTop (mkF m 197 #[.val (.int p0), .val (.int p1), .val (.int p2), .val (.int p3), .val (.int (p0.toUInt32.toUInt16.toUInt32.toInt32)), .val (.ref b1), .val (.ref b38), .val (.int (e0_1 p3)), .val (.int (e0_2 p3)), .unset] [(.int (f7 (p0.toUInt32.toUInt16.toUInt32.toInt32) (3 : Int32) (e0_1 p3) (e0_2 p3) (own_upd (own_upd (own_upd (own_upd (fun _ => 0) 0 (nar .char (j0_12_S0 p0 p1 p3))) 1 (nar .char (j0_29_S0 p0 p1 p3))) 2 (nar .char (j0_49_S0 p0 p2 p3))) 3 (nar .char (j0_66_S0 p0 p2 p3)))))])) t → Steps p.tables e below (s₁.setTop (entryFrame m #[(.int p0), (.int p1), (.int p2), (.int p3)] maxLocals)) t := fun t kt => pre61 t (by
              show Steps p.tables e below (T60.setTop (mkF m 176 #[.val (.int p0), .val (.int p1), .val (.int p2), .val (.int p3), .val (.int (p0.toUInt32.toUInt16.toUInt32.toInt32)), .val (.ref b1), .val (.ref b38), .val (.int (e0_1 p3)), .val (.int (e0_2 p3)), .unset] [(.int (f7 (p0.toUInt32.toUInt16.toUInt32.toInt32) (2 : Int32) (e0_1 p3) (e0_2 p3) (own_upd (own_upd (own_upd (own_upd (fun _ => 0) 0 (nar .char (j0_12_S0 p0 p1 p3))) 1 (nar .char (j0_29_S0 p0 p1 p3))) 2 (nar .char (j0_49_S0 p0 p2 p3))) 3 (nar .char (j0_66_S0 p0 p2 p3)))))])) _
              refine XS.ifYes X60.here hx rfl (pc0 := 176) (pc' := 185) rfl (hb hby at_176) rfl ((if0 _ _).trans (teq hc176_62).1) (by decide) (by decide) ?_
              show Steps p.tables e below (T60.setTop (mkF m 185 #[.val (.int p0), .val (.int p1), .val (.int p2), .val (.int p3), .val (.int (p0.toUInt32.toUInt16.toUInt32.toInt32)), .val (.ref b1), .val (.ref b38), .val (.int (e0_1 p3)), .val (.int (e0_2 p3)), .unset] [])) _
              refine XS.aload X60.here hx rfl (hb hby at_185) rfl rfl ?_
              show Steps p.tables e below (T60.setTop (mkF m 187 #[.val (.int p0), .val (.int p1), .val (.int p2), .val (.int p3), .val (.int (p0.toUInt32.toUInt16.toUInt32.toInt32)), .val (.ref b1), .val (.ref b38), .val (.int (e0_1 p3)), .val (.int (e0_2 p3)), .unset] [(.ref b1)])) _
              refine XS.iload X60.here hx rfl (hb hby at_187) rfl ?_
              show Steps p.tables e below (T60.setTop (mkF m 189 #[.val (.int p0), .val (.int p1), .val (.int p2), .val (.int p3), .val (.int (p0.toUInt32.toUInt16.toUInt32.toInt32)), .val (.ref b1), .val (.ref b38), .val (.int (e0_1 p3)), .val (.int (e0_2 p3)), .unset] [(.int (p0.toUInt32.toUInt16.toUInt32.toInt32)), (.ref b1)])) _
              refine XS.iconst X60.here hx rfl (hb hby at_189) ?_
              show Steps p.tables e below (T60.setTop (mkF m 190 #[.val (.int p0), .val (.int p1), .val (.int p2), .val (.int p3), .val (.int (p0.toUInt32.toUInt16.toUInt32.toInt32)), .val (.ref b1), .val (.ref b38), .val (.int (e0_1 p3)), .val (.int (e0_2 p3)), .unset] [(.int (3 : Int32)), (.int (p0.toUInt32.toUInt16.toUInt32.toInt32)), (.ref b1)])) _
              refine XS.iload X60.here hx rfl (hb hby at_190) rfl ?_
              show Steps p.tables e below (T60.setTop (mkF m 192 #[.val (.int p0), .val (.int p1), .val (.int p2), .val (.int p3), .val (.int (p0.toUInt32.toUInt16.toUInt32.toInt32)), .val (.ref b1), .val (.ref b38), .val (.int (e0_1 p3)), .val (.int (e0_2 p3)), .unset] [(.int (e0_1 p3)), (.int (3 : Int32)), (.int (p0.toUInt32.toUInt16.toUInt32.toInt32)), (.ref b1)])) _
              refine XS.iload X60.here hx rfl (hb hby at_192) rfl ?_
              show Steps p.tables e below (T60.setTop (mkF m 194 #[.val (.int p0), .val (.int p1), .val (.int p2), .val (.int p3), .val (.int (p0.toUInt32.toUInt16.toUInt32.toInt32)), .val (.ref b1), .val (.ref b38), .val (.int (e0_1 p3)), .val (.int (e0_2 p3)), .unset] [(.int (e0_2 p3)), (.int (e0_1 p3)), (.int (3 : Int32)), (.int (p0.toUInt32.toUInt16.toUInt32.toInt32)), (.ref b1)])) _
              refine st63 _ ?_
              exact kt)
          by_cases hc197_65 : (f7 (p0.toUInt32.toUInt16.toUInt32.toInt32) (3 : Int32) (e0_1 p3) (e0_2 p3) (own_upd (own_upd (own_upd (own_upd (fun _ => 0) 0 (nar .char (j0_12_S0 p0 p1 p3))) 1 (nar .char (j0_29_S0 p0 p1 p3))) 2 (nar .char (j0_49_S0 p0 p2 p3))) 3 (nar .char (j0_66_S0 p0 p2 p3)))) = (0 : Int32)
          · obtain ⟨_, _, ⟨T66, L66, k66, n66⟩, -, X66, ⟨Lc66, hQ66, l66, y66, z66⟩, st66⟩ := Jvm.LawKit.callS X63 hx (y := (⟨"com/example/corvid/corvid/internal/StringEscapes", "indexOf", "(Ljava/lang/String;CII)I"⟩ : MethodName)) hown (mvT hZ (hw _ (List.mem_of_getElem? (i := 34) rfl))) (mvT hZ (hw _ (List.mem_of_getElem? (i := 35) rfl))) (mvT hZ (hw _ (List.mem_of_getElem? (i := 36) rfl))) (mvT hZ (hw _ (List.mem_of_getElem? (i := 37) rfl))) (by decide) (backOf (W := 0) (rm8l l Z a0 hw [] b38 (p0.toUInt32.toUInt16.toUInt32.toInt32) (e0_1 p3) (e0_2 p3) cs r_o0_value_41 (f5l_o2_a (own_upd (own_upd (own_upd (own_upd (fun _ => 0) 0 (nar .char (j0_12_S0 p0 p1 p3))) 1 (nar .char (j0_29_S0 p0 p1 p3))) 2 (nar .char (j0_49_S0 p0 p2 p3))) 3 (nar .char (j0_66_S0 p0 p2 p3))) (fun _ => 0)) T41.heap n0 Z53 S47 (hcs) G41_0 G41_1 G41_2 (E_b38.keep K41q) (own_c0 p0) (own_fr p3)) hZ (hw _ (List.mem_of_getElem? (i := 37) rfl)) (hw _ (List.mem_of_getElem? (i := 36) rfl)) (by decide) (by decide)) (g := (mkF m 218 #[.val (.int p0), .val (.int p1), .val (.int p2), .val (.int p3), .val (.int (p0.toUInt32.toUInt16.toUInt32.toInt32)), .val (.ref b1), .val (.ref b38), .val (.int (e0_1 p3)), .val (.int (e0_2 p3)), .val (.int (e0_2 p3))] [(.int (e0_2 p3)), (.int (e0_1 p3)), (.int (p0.toUInt32.toUInt16.toUInt32.toInt32)), (.ref b38)])) rfl (by rw [hml]; rfl) (argsL := [(.ref b38), (.int (p0.toUInt32.toUInt16.toUInt32.toInt32)), (.int (e0_1 p3)), (.int (e0_2 p3))]) (rest := []) (lenOf pd_0_2 rfl) rfl (by show 2 * 0 + _ ≤ _; exact Nat.le_of_eq rfl) (hb hby at_218) (fun _ _ => ⟨rfl, e63q, (by decide : 3 + 0 ≤ _), (by decide : 12 + 0 ≤ _)⟩)
            dsimp only [Pt.U, Pt.locs, Pt.cells, Pt.slots] at X66 l66 y66 z66 st66 hQ66
            subst l66 y66 z66
            obtain ⟨rfl, N66q, e66q⟩ := hQ66
            have N66 := Fr.app N63 N66q
            have pre67 : ∀ t, Steps p.tables e below (T66.setTop (mkF m 223 #[.val (.int p0), .val (.int p1), .val (.int p2), .val (.int p3), .val (.int (p0.toUInt32.toUInt16.toUInt32.toInt32)), .val (.ref b1), .val (.ref b38), .val (.int (e0_1 p3)), .val (.int (e0_2 p3)), .val (.int (e0_2 p3))] [(.int (e0_2 p3)), (.int (f8l (p0.toUInt32.toUInt16.toUInt32.toInt32) (e0_1 p3) (e0_2 p3) (f5l_o2_a (own_upd (own_upd (own_upd (own_upd (fun _ => 0) 0 (nar .char (j0_12_S0 p0 p1 p3))) 1 (nar .char (j0_29_S0 p0 p1 p3))) 2 (nar .char (j0_49_S0 p0 p2 p3))) 3 (nar .char (j0_66_S0 p0 p2 p3))) (fun _ => 0))))])) t → Steps p.tables e below (s₁.setTop (entryFrame m #[(.int p0), (.int p1), (.int p2), (.int p3)] maxLocals)) t := fun t kt => pre64 t (by
                show Steps p.tables e below (T63.setTop (mkF m 197 #[.val (.int p0), .val (.int p1), .val (.int p2), .val (.int p3), .val (.int (p0.toUInt32.toUInt16.toUInt32.toInt32)), .val (.ref b1), .val (.ref b38), .val (.int (e0_1 p3)), .val (.int (e0_2 p3)), .unset] [(.int (f7 (p0.toUInt32.toUInt16.toUInt32.toInt32) (3 : Int32) (e0_1 p3) (e0_2 p3) (own_upd (own_upd (own_upd (own_upd (fun _ => 0) 0 (nar .char (j0_12_S0 p0 p1 p3))) 1 (nar .char (j0_29_S0 p0 p1 p3))) 2 (nar .char (j0_49_S0 p0 p2 p3))) 3 (nar .char (j0_66_S0 p0 p2 p3)))))])) _
                refine XS.ifYes X63.here hx rfl (pc0 := 197) (pc' := 206) rfl (hb hby at_197) rfl ((if0 _ _).trans (teq hc197_65).1) (by decide) (by decide) ?_
                show Steps p.tables e below (T63.setTop (mkF m 206 #[.val (.int p0), .val (.int p1), .val (.int p2), .val (.int p3), .val (.int (p0.toUInt32.toUInt16.toUInt32.toInt32)), .val (.ref b1), .val (.ref b38), .val (.int (e0_1 p3)), .val (.int (e0_2 p3)), .unset] [])) _
                refine XS.iload X63.here hx rfl (hb hby at_206) rfl ?_
                show Steps p.tables e below (T63.setTop (mkF m 208 #[.val (.int p0), .val (.int p1), .val (.int p2), .val (.int p3), .val (.int (p0.toUInt32.toUInt16.toUInt32.toInt32)), .val (.ref b1), .val (.ref b38), .val (.int (e0_1 p3)), .val (.int (e0_2 p3)), .unset] [(.int (e0_2 p3))])) _
                refine XS.istore X63.here hx rfl (hb hby at_208) rfl (l' := #[.val (.int p0), .val (.int p1), .val (.int p2), .val (.int p3), .val (.int (p0.toUInt32.toUInt16.toUInt32.toInt32)), .val (.ref b1), .val (.ref b38), .val (.int (e0_1 p3)), .val (.int (e0_2 p3)), .val (.int (e0_2 p3))]) rfl ?_
                show Steps p.tables e below (T63.setTop (mkF m 210 #[.val (.int p0), .val (.int p1), .val (.int p2), .val (.int p3), .val (.int (p0.toUInt32.toUInt16.toUInt32.toInt32)), .val (.ref b1), .val (.ref b38), .val (.int (e0_1 p3)), .val (.int (e0_2 p3)), .val (.int (e0_2 p3))] [])) _
                refine XS.aload X63.here hx rfl (hb hby at_210) rfl rfl ?_
                show Steps p.tables e below (T63.setTop (mkF m 212 #[.val (.int p0), .val (.int p1), .val (.int p2), .val (.int p3), .val (.int (p0.toUInt32.toUInt16.toUInt32.toInt32)), .val (.ref b1), .val (.ref b38), .val (.int (e0_1 p3)), .val (.int (e0_2 p3)), .val (.int (e0_2 p3))] [(.ref b38)])) _
                refine XS.iload X63.here hx rfl (hb hby at_212) rfl ?_
                show Steps p.tables e below (T63.setTop (mkF m 214 #[.val (.int p0), .val (.int p1), .val (.int p2), .val (.int p3), .val (.int (p0.toUInt32.toUInt16.toUInt32.toInt32)), .val (.ref b1), .val (.ref b38), .val (.int (e0_1 p3)), .val (.int (e0_2 p3)), .val (.int (e0_2 p3))] [(.int (p0.toUInt32.toUInt16.toUInt32.toInt32)), (.ref b38)])) _
                refine XS.iload X63.here hx rfl (hb hby at_214) rfl ?_
                show Steps p.tables e below (T63.setTop (mkF m 216 #[.val (.int p0), .val (.int p1), .val (.int p2), .val (.int p3), .val (.int (p0.toUInt32.toUInt16.toUInt32.toInt32)), .val (.ref b1), .val (.ref b38), .val (.int (e0_1 p3)), .val (.int (e0_2 p3)), .val (.int (e0_2 p3))] [(.int (e0_1 p3)), (.int (p0.toUInt32.toUInt16.toUInt32.toInt32)), (.ref b38)])) _
                refine XS.iload X63.here hx rfl (hb hby at_216) rfl ?_
                show Steps p.tables e below (T63.setTop (mkF m 218 #[.val (.int p0), .val (.int p1), .val (.int p2), .val (.int p3), .val (.int (p0.toUInt32.toUInt16.toUInt32.toInt32)), .val (.ref b1), .val (.ref b38), .val (.int (e0_1 p3)), .val (.int (e0_2 p3)), .val (.int (e0_2 p3))] [(.int (e0_2 p3)), (.int (e0_1 p3)), (.int (p0.toUInt32.toUInt16.toUInt32.toInt32)), (.ref b38)])) _
                refine st66 _ ?_
                show Steps p.tables e below (T66.setTop (mkF m 221 #[.val (.int p0), .val (.int p1), .val (.int p2), .val (.int p3), .val (.int (p0.toUInt32.toUInt16.toUInt32.toInt32)), .val (.ref b1), .val (.ref b38), .val (.int (e0_1 p3)), .val (.int (e0_2 p3)), .val (.int (e0_2 p3))] [(.int (f8l (p0.toUInt32.toUInt16.toUInt32.toInt32) (e0_1 p3) (e0_2 p3) (f5l_o2_a (own_upd (own_upd (own_upd (own_upd (fun _ => 0) 0 (nar .char (j0_12_S0 p0 p1 p3))) 1 (nar .char (j0_29_S0 p0 p1 p3))) 2 (nar .char (j0_49_S0 p0 p2 p3))) 3 (nar .char (j0_66_S0 p0 p2 p3))) (fun _ => 0))))])) _
                refine XS.iload X66.here hx rfl (hb hby at_221) rfl ?_
                exact kt)
            have hd223_68 : (f8l (p0.toUInt32.toUInt16.toUInt32.toInt32) (e0_1 p3) (e0_2 p3) (f5l_o2_a (own_upd (own_upd (own_upd (own_upd (fun _ => 0) 0 (nar .char (j0_12_S0 p0 p1 p3))) 1 (nar .char (j0_29_S0 p0 p1 p3))) 2 (nar .char (j0_49_S0 p0 p2 p3))) 3 (nar .char (j0_66_S0 p0 p2 p3))) (fun _ => 0))) = (e0_2 p3) := (own_law_l _ (own_ch0 _ _ _ _) hR84_37 p0 p3).trans (by rw [if_pos hc134_56, if_pos hc155_59, if_pos hc176_62, if_pos hc197_65])
            obtain ⟨fs, hr, hrun, hended, hW, hsame⟩ := X66.leave (v := some (.int (1 : Int32))) (fun h => by rw [Bd.returns] at h; cases h)
            have hv124 : (1 : Int32) = (1 : Int32) := rfl
            refine ⟨_, _, pre67 _ ?_, hrun, hended, _, _, rfl, ?_, ⟨_, rfl⟩, hW, hsame.mono (by decide) (by decide)⟩
            · show Steps p.tables e below (T66.setTop (mkF m 223 #[.val (.int p0), .val (.int p1), .val (.int p2), .val (.int p3), .val (.int (p0.toUInt32.toUInt16.toUInt32.toInt32)), .val (.ref b1), .val (.ref b38), .val (.int (e0_1 p3)), .val (.int (e0_2 p3)), .val (.int (e0_2 p3))] [(.int (e0_2 p3)), (.int (f8l (p0.toUInt32.toUInt16.toUInt32.toInt32) (e0_1 p3) (e0_2 p3) (f5l_o2_a (own_upd (own_upd (own_upd (own_upd (fun _ => 0) 0 (nar .char (j0_12_S0 p0 p1 p3))) 1 (nar .char (j0_29_S0 p0 p1 p3))) 2 (nar .char (j0_49_S0 p0 p2 p3))) 3 (nar .char (j0_66_S0 p0 p2 p3))) (fun _ => 0))))])) _
              refine XS.icmpNo X66.here hx rfl (hb hby at_223) rfl (teq hd223_68).2 ?_
              show Steps p.tables e below (T66.setTop (mkF m 226 #[.val (.int p0), .val (.int p1), .val (.int p2), .val (.int p3), .val (.int (p0.toUInt32.toUInt16.toUInt32.toInt32)), .val (.ref b1), .val (.ref b38), .val (.int (e0_1 p3)), .val (.int (e0_2 p3)), .val (.int (e0_2 p3))] [])) _
              refine XS.iconst X66.here hx rfl (hb hby at_226) ?_
              show Steps p.tables e below (T66.setTop (mkF m 227 #[.val (.int p0), .val (.int p1), .val (.int p2), .val (.int p3), .val (.int (p0.toUInt32.toUInt16.toUInt32.toInt32)), .val (.ref b1), .val (.ref b38), .val (.int (e0_1 p3)), .val (.int (e0_2 p3)), .val (.int (e0_2 p3))] [(.int (1 : Int32))])) _
              refine XS.goto X66.here hx rfl (pc0 := 227) (pc' := 231) rfl (hb hby at_227) (by decide) (by decide) ?_
              show Steps p.tables e below (T66.setTop (mkF m 231 #[.val (.int p0), .val (.int p1), .val (.int p2), .val (.int p3), .val (.int (p0.toUInt32.toUInt16.toUInt32.toInt32)), .val (.ref b1), .val (.ref b38), .val (.int (e0_1 p3)), .val (.int (e0_2 p3)), .val (.int (e0_2 p3))] [(.int (1 : Int32))])) _
              exact retN X66 hx (t := .boolean) Bd.returns (by simp) (hb hby at_231) hr
            · show Q0 Z p0 p1 p2 p3 cs fm h0 n0 _ T66.heap _
              rw [e66q]
              exact ⟨congrArg (fun q => some (Value.int q)) hv124, N66⟩
          · obtain ⟨_, _, ⟨T69, L69, k69, n69⟩, -, X69, ⟨Lc69, hQ69, l69, y69, z69⟩, st69⟩ := Jvm.LawKit.callS X63 hx (y := (⟨"com/example/corvid/corvid/internal/StringEscapes", "indexOf", "(Ljava/lang/String;CII)I"⟩ : MethodName)) hown (mvT hZ (hw _ (List.mem_of_getElem? (i := 34) rfl))) (mvT hZ (hw _ (List.mem_of_getElem? (i := 35) rfl))) (mvT hZ (hw _ (List.mem_of_getElem? (i := 36) rfl))) (mvT hZ (hw _ (List.mem_of_getElem? (i := 37) rfl))) (by decide) (backOf (W := 0) (rm8l l Z a0 hw [] b38 (p0.toUInt32.toUInt16.toUInt32.toInt32) (e0_1 p3) (e0_2 p3) cs r_o0_value_41 (f5l_o2_a (own_upd (own_upd (own_upd (own_upd (fun _ => 0) 0 (nar .char (j0_12_S0 p0 p1 p3))) 1 (nar .char (j0_29_S0 p0 p1 p3))) 2 (nar .char (j0_49_S0 p0 p2 p3))) 3 (nar .char (j0_66_S0 p0 p2 p3))) (fun _ => 0)) T41.heap n0 Z53 S47 (hcs) G41_0 G41_1 G41_2 (E_b38.keep K41q) (own_c0 p0) (own_fr p3)) hZ (hw _ (List.mem_of_getElem? (i := 37) rfl)) (hw _ (List.mem_of_getElem? (i := 36) rfl)) (by decide) (by decide)) (g := (mkF m 218 #[.val (.int p0), .val (.int p1), .val (.int p2), .val (.int p3), .val (.int (p0.toUInt32.toUInt16.toUInt32.toInt32)), .val (.ref b1), .val (.ref b38), .val (.int (e0_1 p3)), .val (.int (e0_2 p3)), .val (.int (3 : Int32))] [(.int (e0_2 p3)), (.int (e0_1 p3)), (.int (p0.toUInt32.toUInt16.toUInt32.toInt32)), (.ref b38)])) rfl (by rw [hml]; rfl) (argsL := [(.ref b38), (.int (p0.toUInt32.toUInt16.toUInt32.toInt32)), (.int (e0_1 p3)), (.int (e0_2 p3))]) (rest := []) (lenOf pd_0_2 rfl) rfl (by show 2 * 0 + _ ≤ _; exact Nat.le_of_eq rfl) (hb hby at_218) (fun _ _ => ⟨rfl, e63q, (by decide : 3 + 0 ≤ _), (by decide : 12 + 0 ≤ _)⟩)
            dsimp only [Pt.U, Pt.locs, Pt.cells, Pt.slots] at X69 l69 y69 z69 st69 hQ69
            subst l69 y69 z69
            obtain ⟨rfl, N69q, e69q⟩ := hQ69
            have N69 := Fr.app N63 N69q
            have pre70 : ∀ t, Steps p.tables e below (T69.setTop (mkF m 223 #[.val (.int p0), .val (.int p1), .val (.int p2), .val (.int p3), .val (.int (p0.toUInt32.toUInt16.toUInt32.toInt32)), .val (.ref b1), .val (.ref b38), .val (.int (e0_1 p3)), .val (.int (e0_2 p3)), .val (.int (3 : Int32))] [(.int (3 : Int32)), (.int (f8l (p0.toUInt32.toUInt16.toUInt32.toInt32) (e0_1 p3) (e0_2 p3) (f5l_o2_a (own_upd (own_upd (own_upd (own_upd (fun _ => 0) 0 (nar .char (j0_12_S0 p0 p1 p3))) 1 (nar .char (j0_29_S0 p0 p1 p3))) 2 (nar .char (j0_49_S0 p0 p2 p3))) 3 (nar .char (j0_66_S0 p0 p2 p3))) (fun _ => 0))))])) t → Steps p.tables e below (s₁.setTop (entryFrame m #[(.int p0), (.int p1), (.int p2), (.int p3)] maxLocals)) t := fun t kt => pre64 t (by
                show Steps p.tables e below (T63.setTop (mkF m 197 #[.val (.int p0), .val (.int p1), .val (.int p2), .val (.int p3), .val (.int (p0.toUInt32.toUInt16.toUInt32.toInt32)), .val (.ref b1), .val (.ref b38), .val (.int (e0_1 p3)), .val (.int (e0_2 p3)), .unset] [(.int (f7 (p0.toUInt32.toUInt16.toUInt32.toInt32) (3 : Int32) (e0_1 p3) (e0_2 p3) (own_upd (own_upd (own_upd (own_upd (fun _ => 0) 0 (nar .char (j0_12_S0 p0 p1 p3))) 1 (nar .char (j0_29_S0 p0 p1 p3))) 2 (nar .char (j0_49_S0 p0 p2 p3))) 3 (nar .char (j0_66_S0 p0 p2 p3)))))])) _
                refine XS.ifNo X63.here hx rfl (hb hby at_197) rfl ((if0 _ _).trans (feq hc197_65).1) ?_
                show Steps p.tables e below (T63.setTop (mkF m 200 #[.val (.int p0), .val (.int p1), .val (.int p2), .val (.int p3), .val (.int (p0.toUInt32.toUInt16.toUInt32.toInt32)), .val (.ref b1), .val (.ref b38), .val (.int (e0_1 p3)), .val (.int (e0_2 p3)), .unset] [])) _
                refine XS.iconst X63.here hx rfl (hb hby at_200) ?_
                show Steps p.tables e below (T63.setTop (mkF m 201 #[.val (.int p0), .val (.int p1), .val (.int p2), .val (.int p3), .val (.int (p0.toUInt32.toUInt16.toUInt32.toInt32)), .val (.ref b1), .val (.ref b38), .val (.int (e0_1 p3)), .val (.int (e0_2 p3)), .unset] [(.int (3 : Int32))])) _
                refine XS.istore X63.here hx rfl (hb hby at_201) rfl (l' := #[.val (.int p0), .val (.int p1), .val (.int p2), .val (.int p3), .val (.int (p0.toUInt32.toUInt16.toUInt32.toInt32)), .val (.ref b1), .val (.ref b38), .val (.int (e0_1 p3)), .val (.int (e0_2 p3)), .val (.int (3 : Int32))]) rfl ?_
                show Steps p.tables e below (T63.setTop (mkF m 203 #[.val (.int p0), .val (.int p1), .val (.int p2), .val (.int p3), .val (.int (p0.toUInt32.toUInt16.toUInt32.toInt32)), .val (.ref b1), .val (.ref b38), .val (.int (e0_1 p3)), .val (.int (e0_2 p3)), .val (.int (3 : Int32))] [])) _
                refine XS.goto X63.here hx rfl (pc0 := 203) (pc' := 210) rfl (hb hby at_203) (by decide) (by decide) ?_
                show Steps p.tables e below (T63.setTop (mkF m 210 #[.val (.int p0), .val (.int p1), .val (.int p2), .val (.int p3), .val (.int (p0.toUInt32.toUInt16.toUInt32.toInt32)), .val (.ref b1), .val (.ref b38), .val (.int (e0_1 p3)), .val (.int (e0_2 p3)), .val (.int (3 : Int32))] [])) _
                refine XS.aload X63.here hx rfl (hb hby at_210) rfl rfl ?_
                show Steps p.tables e below (T63.setTop (mkF m 212 #[.val (.int p0), .val (.int p1), .val (.int p2), .val (.int p3), .val (.int (p0.toUInt32.toUInt16.toUInt32.toInt32)), .val (.ref b1), .val (.ref b38), .val (.int (e0_1 p3)), .val (.int (e0_2 p3)), .val (.int (3 : Int32))] [(.ref b38)])) _
                refine XS.iload X63.here hx rfl (hb hby at_212) rfl ?_
                show Steps p.tables e below (T63.setTop (mkF m 214 #[.val (.int p0), .val (.int p1), .val (.int p2), .val (.int p3), .val (.int (p0.toUInt32.toUInt16.toUInt32.toInt32)), .val (.ref b1), .val (.ref b38), .val (.int (e0_1 p3)), .val (.int (e0_2 p3)), .val (.int (3 : Int32))] [(.int (p0.toUInt32.toUInt16.toUInt32.toInt32)), (.ref b38)])) _
                refine XS.iload X63.here hx rfl (hb hby at_214) rfl ?_
                show Steps p.tables e below (T63.setTop (mkF m 216 #[.val (.int p0), .val (.int p1), .val (.int p2), .val (.int p3), .val (.int (p0.toUInt32.toUInt16.toUInt32.toInt32)), .val (.ref b1), .val (.ref b38), .val (.int (e0_1 p3)), .val (.int (e0_2 p3)), .val (.int (3 : Int32))] [(.int (e0_1 p3)), (.int (p0.toUInt32.toUInt16.toUInt32.toInt32)), (.ref b38)])) _
                refine XS.iload X63.here hx rfl (hb hby at_216) rfl ?_
                show Steps p.tables e below (T63.setTop (mkF m 218 #[.val (.int p0), .val (.int p1), .val (.int p2), .val (.int p3), .val (.int (p0.toUInt32.toUInt16.toUInt32.toInt32)), .val (.ref b1), .val (.ref b38), .val (.int (e0_1 p3)), .val (.int (e0_2 p3)), .val (.int (3 : Int32))] [(.int (e0_2 p3)), (.int (e0_1 p3)), (.int (p0.toUInt32.toUInt16.toUInt32.toInt32)), (.ref b38)])) _
                refine st69 _ ?_
                show Steps p.tables e below (T69.setTop (mkF m 221 #[.val (.int p0), .val (.int p1), .val (.int p2), .val (.int p3), .val (.int (p0.toUInt32.toUInt16.toUInt32.toInt32)), .val (.ref b1), .val (.ref b38), .val (.int (e0_1 p3)), .val (.int (e0_2 p3)), .val (.int (3 : Int32))] [(.int (f8l (p0.toUInt32.toUInt16.toUInt32.toInt32) (e0_1 p3) (e0_2 p3) (f5l_o2_a (own_upd (own_upd (own_upd (own_upd (fun _ => 0) 0 (nar .char (j0_12_S0 p0 p1 p3))) 1 (nar .char (j0_29_S0 p0 p1 p3))) 2 (nar .char (j0_49_S0 p0 p2 p3))) 3 (nar .char (j0_66_S0 p0 p2 p3))) (fun _ => 0))))])) _
                refine XS.iload X69.here hx rfl (hb hby at_221) rfl ?_
                exact kt)
            have hd223_71 : (f8l (p0.toUInt32.toUInt16.toUInt32.toInt32) (e0_1 p3) (e0_2 p3) (f5l_o2_a (own_upd (own_upd (own_upd (own_upd (fun _ => 0) 0 (nar .char (j0_12_S0 p0 p1 p3))) 1 (nar .char (j0_29_S0 p0 p1 p3))) 2 (nar .char (j0_49_S0 p0 p2 p3))) 3 (nar .char (j0_66_S0 p0 p2 p3))) (fun _ => 0))) = (3 : Int32) := (own_law_l _ (own_ch0 _ _ _ _) hR84_37 p0 p3).trans (by rw [if_pos hc134_56, if_pos hc155_59, if_pos hc176_62, if_neg hc197_65])
            obtain ⟨fs, hr, hrun, hended, hW, hsame⟩ := X69.leave (v := some (.int (1 : Int32))) (fun h => by rw [Bd.returns] at h; cases h)
            have hv125 : (1 : Int32) = (1 : Int32) := rfl
            refine ⟨_, _, pre70 _ ?_, hrun, hended, _, _, rfl, ?_, ⟨_, rfl⟩, hW, hsame.mono (by decide) (by decide)⟩
            · show Steps p.tables e below (T69.setTop (mkF m 223 #[.val (.int p0), .val (.int p1), .val (.int p2), .val (.int p3), .val (.int (p0.toUInt32.toUInt16.toUInt32.toInt32)), .val (.ref b1), .val (.ref b38), .val (.int (e0_1 p3)), .val (.int (e0_2 p3)), .val (.int (3 : Int32))] [(.int (3 : Int32)), (.int (f8l (p0.toUInt32.toUInt16.toUInt32.toInt32) (e0_1 p3) (e0_2 p3) (f5l_o2_a (own_upd (own_upd (own_upd (own_upd (fun _ => 0) 0 (nar .char (j0_12_S0 p0 p1 p3))) 1 (nar .char (j0_29_S0 p0 p1 p3))) 2 (nar .char (j0_49_S0 p0 p2 p3))) 3 (nar .char (j0_66_S0 p0 p2 p3))) (fun _ => 0))))])) _
              refine XS.icmpNo X69.here hx rfl (hb hby at_223) rfl (teq hd223_71).2 ?_
              show Steps p.tables e below (T69.setTop (mkF m 226 #[.val (.int p0), .val (.int p1), .val (.int p2), .val (.int p3), .val (.int (p0.toUInt32.toUInt16.toUInt32.toInt32)), .val (.ref b1), .val (.ref b38), .val (.int (e0_1 p3)), .val (.int (e0_2 p3)), .val (.int (3 : Int32))] [])) _
              refine XS.iconst X69.here hx rfl (hb hby at_226) ?_
              show Steps p.tables e below (T69.setTop (mkF m 227 #[.val (.int p0), .val (.int p1), .val (.int p2), .val (.int p3), .val (.int (p0.toUInt32.toUInt16.toUInt32.toInt32)), .val (.ref b1), .val (.ref b38), .val (.int (e0_1 p3)), .val (.int (e0_2 p3)), .val (.int (3 : Int32))] [(.int (1 : Int32))])) _
              refine XS.goto X69.here hx rfl (pc0 := 227) (pc' := 231) rfl (hb hby at_227) (by decide) (by decide) ?_
              show Steps p.tables e below (T69.setTop (mkF m 231 #[.val (.int p0), .val (.int p1), .val (.int p2), .val (.int p3), .val (.int (p0.toUInt32.toUInt16.toUInt32.toInt32)), .val (.ref b1), .val (.ref b38), .val (.int (e0_1 p3)), .val (.int (e0_2 p3)), .val (.int (3 : Int32))] [(.int (1 : Int32))])) _
              exact retN X69 hx (t := .boolean) Bd.returns (by simp) (hb hby at_231) hr
            · show Q0 Z p0 p1 p2 p3 cs fm h0 n0 _ T69.heap _
              rw [e69q]
              exact ⟨congrArg (fun q => some (Value.int q)) hv125, N69⟩
        · obtain ⟨_, _, ⟨T72, L72, k72, n72⟩, -, X72, ⟨Lc72, hQ72, l72, y72, z72⟩, st72⟩ := Jvm.LawKit.callS X60 hx (y := (⟨"com/example/corvid/corvid/internal/StringEscapes", "indexOf", "(Ljava/lang/String;CII)I"⟩ : MethodName)) hown (mvT hZ (hw _ (List.mem_of_getElem? (i := 34) rfl))) (mvT hZ (hw _ (List.mem_of_getElem? (i := 35) rfl))) (mvT hZ (hw _ (List.mem_of_getElem? (i := 36) rfl))) (mvT hZ (hw _ (List.mem_of_getElem? (i := 37) rfl))) (by decide) (backOf (W := 0) (rm8l l Z a0 hw [] b38 (p0.toUInt32.toUInt16.toUInt32.toInt32) (e0_1 p3) (e0_2 p3) cs r_o0_value_41 (f5l_o2_a (own_upd (own_upd (own_upd (own_upd (fun _ => 0) 0 (nar .char (j0_12_S0 p0 p1 p3))) 1 (nar .char (j0_29_S0 p0 p1 p3))) 2 (nar .char (j0_49_S0 p0 p2 p3))) 3 (nar .char (j0_66_S0 p0 p2 p3))) (fun _ => 0)) T41.heap n0 Z53 S47 (hcs) G41_0 G41_1 G41_2 (E_b38.keep K41q) (own_c0 p0) (own_fr p3)) hZ (hw _ (List.mem_of_getElem? (i := 37) rfl)) (hw _ (List.mem_of_getElem? (i := 36) rfl)) (by decide) (by decide)) (g := (mkF m 218 #[.val (.int p0), .val (.int p1), .val (.int p2), .val (.int p3), .val (.int (p0.toUInt32.toUInt16.toUInt32.toInt32)), .val (.ref b1), .val (.ref b38), .val (.int (e0_1 p3)), .val (.int (e0_2 p3)), .val (.int (2 : Int32))] [(.int (e0_2 p3)), (.int (e0_1 p3)), (.int (p0.toUInt32.toUInt16.toUInt32.toInt32)), (.ref b38)])) rfl (by rw [hml]; rfl) (argsL := [(.ref b38), (.int (p0.toUInt32.toUInt16.toUInt32.toInt32)), (.int (e0_1 p3)), (.int (e0_2 p3))]) (rest := []) (lenOf pd_0_2 rfl) rfl (by show 2 * 0 + _ ≤ _; exact Nat.le_of_eq rfl) (hb hby at_218) (fun _ _ => ⟨rfl, e60q, (by decide : 3 + 0 ≤ _), (by decide : 12 + 0 ≤ _)⟩)
          dsimp only [Pt.U, Pt.locs, Pt.cells, Pt.slots] at X72 l72 y72 z72 st72 hQ72
          subst l72 y72 z72
          obtain ⟨rfl, N72q, e72q⟩ := hQ72
          have N72 := Fr.app N60 N72q
          have pre73 : ∀ t, Steps p.tables e below (T72.setTop (mkF m 223 #[.val (.int p0), .val (.int p1), .val (.int p2), .val (.int p3), .val (.int (p0.toUInt32.toUInt16.toUInt32.toInt32)), .val (.ref b1), .val (.ref b38), .val (.int (e0_1 p3)), .val (.int (e0_2 p3)), .val (.int (2 : Int32))] [(.int (2 : Int32)), (.int (f8l (p0.toUInt32.toUInt16.toUInt32.toInt32) (e0_1 p3) (e0_2 p3) (f5l_o2_a (own_upd (own_upd (own_upd (own_upd (fun _ => 0) 0 (nar .char (j0_12_S0 p0 p1 p3))) 1 (nar .char (j0_29_S0 p0 p1 p3))) 2 (nar .char (j0_49_S0 p0 p2 p3))) 3 (nar .char (j0_66_S0 p0 p2 p3))) (fun _ => 0))))])) t → Steps p.tables e below (s₁.setTop (entryFrame m #[(.int p0), (.int p1), (.int p2), (.int p3)] maxLocals)) t := fun t kt => pre61 t (by
              show Steps p.tables e below (T60.setTop (mkF m 176 #[.val (.int p0), .val (.int p1), .val (.int p2), .val (.int p3), .val (.int (p0.toUInt32.toUInt16.toUInt32.toInt32)), .val (.ref b1), .val (.ref b38), .val (.int (e0_1 p3)), .val (.int (e0_2 p3)), .unset] [(.int (f7 (p0.toUInt32.toUInt16.toUInt32.toInt32) (2 : Int32) (e0_1 p3) (e0_2 p3) (own_upd (own_upd (own_upd (own_upd (fun _ => 0) 0 (nar .char (j0_12_S0 p0 p1 p3))) 1 (nar .char (j0_29_S0 p0 p1 p3))) 2 (nar .char (j0_49_S0 p0 p2 p3))) 3 (nar .char (j0_66_S0 p0 p2 p3)))))])) _
              refine XS.ifNo X60.here hx rfl (hb hby at_176) rfl ((if0 _ _).trans (feq hc176_62).1) ?_
              show Steps p.tables e below (T60.setTop (mkF m 179 #[.val (.int p0), .val (.int p1), .val (.int p2), .val (.int p3), .val (.int (p0.toUInt32.toUInt16.toUInt32.toInt32)), .val (.ref b1), .val (.ref b38), .val (.int (e0_1 p3)), .val (.int (e0_2 p3)), .unset] [])) _
              refine XS.iconst X60.here hx rfl (hb hby at_179) ?_
              show Steps p.tables e below (T60.setTop (mkF m 180 #[.val (.int p0), .val (.int p1), .val (.int p2), .val (.int p3), .val (.int (p0.toUInt32.toUInt16.toUInt32.toInt32)), .val (.ref b1), .val (.ref b38), .val (.int (e0_1 p3)), .val (.int (e0_2 p3)), .unset] [(.int (2 : Int32))])) _
              refine XS.istore X60.here hx rfl (hb hby at_180) rfl (l' := #[.val (.int p0), .val (.int p1), .val (.int p2), .val (.int p3), .val (.int (p0.toUInt32.toUInt16.toUInt32.toInt32)), .val (.ref b1), .val (.ref b38), .val (.int (e0_1 p3)), .val (.int (e0_2 p3)), .val (.int (2 : Int32))]) rfl ?_
              show Steps p.tables e below (T60.setTop (mkF m 182 #[.val (.int p0), .val (.int p1), .val (.int p2), .val (.int p3), .val (.int (p0.toUInt32.toUInt16.toUInt32.toInt32)), .val (.ref b1), .val (.ref b38), .val (.int (e0_1 p3)), .val (.int (e0_2 p3)), .val (.int (2 : Int32))] [])) _
              refine XS.goto X60.here hx rfl (pc0 := 182) (pc' := 210) rfl (hb hby at_182) (by decide) (by decide) ?_
              show Steps p.tables e below (T60.setTop (mkF m 210 #[.val (.int p0), .val (.int p1), .val (.int p2), .val (.int p3), .val (.int (p0.toUInt32.toUInt16.toUInt32.toInt32)), .val (.ref b1), .val (.ref b38), .val (.int (e0_1 p3)), .val (.int (e0_2 p3)), .val (.int (2 : Int32))] [])) _
              refine XS.aload X60.here hx rfl (hb hby at_210) rfl rfl ?_
              show Steps p.tables e below (T60.setTop (mkF m 212 #[.val (.int p0), .val (.int p1), .val (.int p2), .val (.int p3), .val (.int (p0.toUInt32.toUInt16.toUInt32.toInt32)), .val (.ref b1), .val (.ref b38), .val (.int (e0_1 p3)), .val (.int (e0_2 p3)), .val (.int (2 : Int32))] [(.ref b38)])) _
              refine XS.iload X60.here hx rfl (hb hby at_212) rfl ?_
              show Steps p.tables e below (T60.setTop (mkF m 214 #[.val (.int p0), .val (.int p1), .val (.int p2), .val (.int p3), .val (.int (p0.toUInt32.toUInt16.toUInt32.toInt32)), .val (.ref b1), .val (.ref b38), .val (.int (e0_1 p3)), .val (.int (e0_2 p3)), .val (.int (2 : Int32))] [(.int (p0.toUInt32.toUInt16.toUInt32.toInt32)), (.ref b38)])) _
              refine XS.iload X60.here hx rfl (hb hby at_214) rfl ?_
              show Steps p.tables e below (T60.setTop (mkF m 216 #[.val (.int p0), .val (.int p1), .val (.int p2), .val (.int p3), .val (.int (p0.toUInt32.toUInt16.toUInt32.toInt32)), .val (.ref b1), .val (.ref b38), .val (.int (e0_1 p3)), .val (.int (e0_2 p3)), .val (.int (2 : Int32))] [(.int (e0_1 p3)), (.int (p0.toUInt32.toUInt16.toUInt32.toInt32)), (.ref b38)])) _
              refine XS.iload X60.here hx rfl (hb hby at_216) rfl ?_
              show Steps p.tables e below (T60.setTop (mkF m 218 #[.val (.int p0), .val (.int p1), .val (.int p2), .val (.int p3), .val (.int (p0.toUInt32.toUInt16.toUInt32.toInt32)), .val (.ref b1), .val (.ref b38), .val (.int (e0_1 p3)), .val (.int (e0_2 p3)), .val (.int (2 : Int32))] [(.int (e0_2 p3)), (.int (e0_1 p3)), (.int (p0.toUInt32.toUInt16.toUInt32.toInt32)), (.ref b38)])) _
              refine st72 _ ?_
              show Steps p.tables e below (T72.setTop (mkF m 221 #[.val (.int p0), .val (.int p1), .val (.int p2), .val (.int p3), .val (.int (p0.toUInt32.toUInt16.toUInt32.toInt32)), .val (.ref b1), .val (.ref b38), .val (.int (e0_1 p3)), .val (.int (e0_2 p3)), .val (.int (2 : Int32))] [(.int (f8l (p0.toUInt32.toUInt16.toUInt32.toInt32) (e0_1 p3) (e0_2 p3) (f5l_o2_a (own_upd (own_upd (own_upd (own_upd (fun _ => 0) 0 (nar .char (j0_12_S0 p0 p1 p3))) 1 (nar .char (j0_29_S0 p0 p1 p3))) 2 (nar .char (j0_49_S0 p0 p2 p3))) 3 (nar .char (j0_66_S0 p0 p2 p3))) (fun _ => 0))))])) _
              refine XS.iload X72.here hx rfl (hb hby at_221) rfl ?_
              exact kt)
          have hd223_74 : (f8l (p0.toUInt32.toUInt16.toUInt32.toInt32) (e0_1 p3) (e0_2 p3) (f5l_o2_a (own_upd (own_upd (own_upd (own_upd (fun _ => 0) 0 (nar .char (j0_12_S0 p0 p1 p3))) 1 (nar .char (j0_29_S0 p0 p1 p3))) 2 (nar .char (j0_49_S0 p0 p2 p3))) 3 (nar .char (j0_66_S0 p0 p2 p3))) (fun _ => 0))) = (2 : Int32) := (own_law_l _ (own_ch0 _ _ _ _) hR84_37 p0 p3).trans (by rw [if_pos hc134_56, if_pos hc155_59, if_neg hc176_62])
          obtain ⟨fs, hr, hrun, hended, hW, hsame⟩ := X72.leave (v := some (.int (1 : Int32))) (fun h => by rw [Bd.returns] at h; cases h)
          have hv126 : (1 : Int32) = (1 : Int32) := rfl
          refine ⟨_, _, pre73 _ ?_, hrun, hended, _, _, rfl, ?_, ⟨_, rfl⟩, hW, hsame.mono (by decide) (by decide)⟩
          · show Steps p.tables e below (T72.setTop (mkF m 223 #[.val (.int p0), .val (.int p1), .val (.int p2), .val (.int p3), .val (.int (p0.toUInt32.toUInt16.toUInt32.toInt32)), .val (.ref b1), .val (.ref b38), .val (.int (e0_1 p3)), .val (.int (e0_2 p3)), .val (.int (2 : Int32))] [(.int (2 : Int32)), (.int (f8l (p0.toUInt32.toUInt16.toUInt32.toInt32) (e0_1 p3) (e0_2 p3) (f5l_o2_a (own_upd (own_upd (own_upd (own_upd (fun _ => 0) 0 (nar .char (j0_12_S0 p0 p1 p3))) 1 (nar .char (j0_29_S0 p0 p1 p3))) 2 (nar .char (j0_49_S0 p0 p2 p3))) 3 (nar .char (j0_66_S0 p0 p2 p3))) (fun _ => 0))))])) _
            refine XS.icmpNo X72.here hx rfl (hb hby at_223) rfl (teq hd223_74).2 ?_
            show Steps p.tables e below (T72.setTop (mkF m 226 #[.val (.int p0), .val (.int p1), .val (.int p2), .val (.int p3), .val (.int (p0.toUInt32.toUInt16.toUInt32.toInt32)), .val (.ref b1), .val (.ref b38), .val (.int (e0_1 p3)), .val (.int (e0_2 p3)), .val (.int (2 : Int32))] [])) _
            refine XS.iconst X72.here hx rfl (hb hby at_226) ?_
            show Steps p.tables e below (T72.setTop (mkF m 227 #[.val (.int p0), .val (.int p1), .val (.int p2), .val (.int p3), .val (.int (p0.toUInt32.toUInt16.toUInt32.toInt32)), .val (.ref b1), .val (.ref b38), .val (.int (e0_1 p3)), .val (.int (e0_2 p3)), .val (.int (2 : Int32))] [(.int (1 : Int32))])) _
            refine XS.goto X72.here hx rfl (pc0 := 227) (pc' := 231) rfl (hb hby at_227) (by decide) (by decide) ?_
            show Steps p.tables e below (T72.setTop (mkF m 231 #[.val (.int p0), .val (.int p1), .val (.int p2), .val (.int p3), .val (.int (p0.toUInt32.toUInt16.toUInt32.toInt32)), .val (.ref b1), .val (.ref b38), .val (.int (e0_1 p3)), .val (.int (e0_2 p3)), .val (.int (2 : Int32))] [(.int (1 : Int32))])) _
            exact retN X72 hx (t := .boolean) Bd.returns (by simp) (hb hby at_231) hr
          · show Q0 Z p0 p1 p2 p3 cs fm h0 n0 _ T72.heap _
            rw [e72q]
            exact ⟨congrArg (fun q => some (Value.int q)) hv126, N72⟩
      · obtain ⟨_, _, ⟨T75, L75, k75, n75⟩, -, X75, ⟨Lc75, hQ75, l75, y75, z75⟩, st75⟩ := Jvm.LawKit.callS X57 hx (y := (⟨"com/example/corvid/corvid/internal/StringEscapes", "indexOf", "(Ljava/lang/String;CII)I"⟩ : MethodName)) hown (mvT hZ (hw _ (List.mem_of_getElem? (i := 34) rfl))) (mvT hZ (hw _ (List.mem_of_getElem? (i := 35) rfl))) (mvT hZ (hw _ (List.mem_of_getElem? (i := 36) rfl))) (mvT hZ (hw _ (List.mem_of_getElem? (i := 37) rfl))) (by decide) (backOf (W := 0) (rm8l l Z a0 hw [] b38 (p0.toUInt32.toUInt16.toUInt32.toInt32) (e0_1 p3) (e0_2 p3) cs r_o0_value_41 (f5l_o2_a (own_upd (own_upd (own_upd (own_upd (fun _ => 0) 0 (nar .char (j0_12_S0 p0 p1 p3))) 1 (nar .char (j0_29_S0 p0 p1 p3))) 2 (nar .char (j0_49_S0 p0 p2 p3))) 3 (nar .char (j0_66_S0 p0 p2 p3))) (fun _ => 0)) T41.heap n0 Z53 S47 (hcs) G41_0 G41_1 G41_2 (E_b38.keep K41q) (own_c0 p0) (own_fr p3)) hZ (hw _ (List.mem_of_getElem? (i := 37) rfl)) (hw _ (List.mem_of_getElem? (i := 36) rfl)) (by decide) (by decide)) (g := (mkF m 218 #[.val (.int p0), .val (.int p1), .val (.int p2), .val (.int p3), .val (.int (p0.toUInt32.toUInt16.toUInt32.toInt32)), .val (.ref b1), .val (.ref b38), .val (.int (e0_1 p3)), .val (.int (e0_2 p3)), .val (.int (1 : Int32))] [(.int (e0_2 p3)), (.int (e0_1 p3)), (.int (p0.toUInt32.toUInt16.toUInt32.toInt32)), (.ref b38)])) rfl (by rw [hml]; rfl) (argsL := [(.ref b38), (.int (p0.toUInt32.toUInt16.toUInt32.toInt32)), (.int (e0_1 p3)), (.int (e0_2 p3))]) (rest := []) (lenOf pd_0_2 rfl) rfl (by show 2 * 0 + _ ≤ _; exact Nat.le_of_eq rfl) (hb hby at_218) (fun _ _ => ⟨rfl, e57q, (by decide : 3 + 0 ≤ _), (by decide : 12 + 0 ≤ _)⟩)
        dsimp only [Pt.U, Pt.locs, Pt.cells, Pt.slots] at X75 l75 y75 z75 st75 hQ75
        subst l75 y75 z75
        obtain ⟨rfl, N75q, e75q⟩ := hQ75
        have N75 := Fr.app N57 N75q
        have pre76 : ∀ t, Steps p.tables e below (T75.setTop (mkF m 223 #[.val (.int p0), .val (.int p1), .val (.int p2), .val (.int p3), .val (.int (p0.toUInt32.toUInt16.toUInt32.toInt32)), .val (.ref b1), .val (.ref b38), .val (.int (e0_1 p3)), .val (.int (e0_2 p3)), .val (.int (1 : Int32))] [(.int (1 : Int32)), (.int (f8l (p0.toUInt32.toUInt16.toUInt32.toInt32) (e0_1 p3) (e0_2 p3) (f5l_o2_a (own_upd (own_upd (own_upd (own_upd (fun _ => 0) 0 (nar .char (j0_12_S0 p0 p1 p3))) 1 (nar .char (j0_29_S0 p0 p1 p3))) 2 (nar .char (j0_49_S0 p0 p2 p3))) 3 (nar .char (j0_66_S0 p0 p2 p3))) (fun _ => 0))))])) t → Steps p.tables e below (s₁.setTop (entryFrame m #[(.int p0), (.int p1), (.int p2), (.int p3)] maxLocals)) t := fun t kt => pre58 t (by
            show Steps p.tables e below (T57.setTop (mkF m 155 #[.val (.int p0), .val (.int p1), .val (.int p2), .val (.int p3), .val (.int (p0.toUInt32.toUInt16.toUInt32.toInt32)), .val (.ref b1), .val (.ref b38), .val (.int (e0_1 p3)), .val (.int (e0_2 p3)), .unset] [(.int (f7 (p0.toUInt32.toUInt16.toUInt32.toInt32) (1 : Int32) (e0_1 p3) (e0_2 p3) (own_upd (own_upd (own_upd (own_upd (fun _ => 0) 0 (nar .char (j0_12_S0 p0 p1 p3))) 1 (nar .char (j0_29_S0 p0 p1 p3))) 2 (nar .char (j0_49_S0 p0 p2 p3))) 3 (nar .char (j0_66_S0 p0 p2 p3)))))])) _
            refine XS.ifNo X57.here hx rfl (hb hby at_155) rfl ((if0 _ _).trans (feq hc155_59).1) ?_
            show Steps p.tables e below (T57.setTop (mkF m 158 #[.val (.int p0), .val (.int p1), .val (.int p2), .val (.int p3), .val (.int (p0.toUInt32.toUInt16.toUInt32.toInt32)), .val (.ref b1), .val (.ref b38), .val (.int (e0_1 p3)), .val (.int (e0_2 p3)), .unset] [])) _
            refine XS.iconst X57.here hx rfl (hb hby at_158) ?_
            show Steps p.tables e below (T57.setTop (mkF m 159 #[.val (.int p0), .val (.int p1), .val (.int p2), .val (.int p3), .val (.int (p0.toUInt32.toUInt16.toUInt32.toInt32)), .val (.ref b1), .val (.ref b38), .val (.int (e0_1 p3)), .val (.int (e0_2 p3)), .unset] [(.int (1 : Int32))])) _
            refine XS.istore X57.here hx rfl (hb hby at_159) rfl (l' := #[.val (.int p0), .val (.int p1), .val (.int p2), .val (.int p3), .val (.int (p0.toUInt32.toUInt16.toUInt32.toInt32)), .val (.ref b1), .val (.ref b38), .val (.int (e0_1 p3)), .val (.int (e0_2 p3)), .val (.int (1 : Int32))]) rfl ?_
            show Steps p.tables e below (T57.setTop (mkF m 161 #[.val (.int p0), .val (.int p1), .val (.int p2), .val (.int p3), .val (.int (p0.toUInt32.toUInt16.toUInt32.toInt32)), .val (.ref b1), .val (.ref b38), .val (.int (e0_1 p3)), .val (.int (e0_2 p3)), .val (.int (1 : Int32))] [])) _
            refine XS.goto X57.here hx rfl (pc0 := 161) (pc' := 210) rfl (hb hby at_161) (by decide) (by decide) ?_
            show Steps p.tables e below (T57.setTop (mkF m 210 #[.val (.int p0), .val (.int p1), .val (.int p2), .val (.int p3), .val (.int (p0.toUInt32.toUInt16.toUInt32.toInt32)), .val (.ref b1), .val (.ref b38), .val (.int (e0_1 p3)), .val (.int (e0_2 p3)), .val (.int (1 : Int32))] [])) _
            refine XS.aload X57.here hx rfl (hb hby at_210) rfl rfl ?_
            show Steps p.tables e below (T57.setTop (mkF m 212 #[.val (.int p0), .val (.int p1), .val (.int p2), .val (.int p3), .val (.int (p0.toUInt32.toUInt16.toUInt32.toInt32)), .val (.ref b1), .val (.ref b38), .val (.int (e0_1 p3)), .val (.int (e0_2 p3)), .val (.int (1 : Int32))] [(.ref b38)])) _
            refine XS.iload X57.here hx rfl (hb hby at_212) rfl ?_
            show Steps p.tables e below (T57.setTop (mkF m 214 #[.val (.int p0), .val (.int p1), .val (.int p2), .val (.int p3), .val (.int (p0.toUInt32.toUInt16.toUInt32.toInt32)), .val (.ref b1), .val (.ref b38), .val (.int (e0_1 p3)), .val (.int (e0_2 p3)), .val (.int (1 : Int32))] [(.int (p0.toUInt32.toUInt16.toUInt32.toInt32)), (.ref b38)])) _
            refine XS.iload X57.here hx rfl (hb hby at_214) rfl ?_
            show Steps p.tables e below (T57.setTop (mkF m 216 #[.val (.int p0), .val (.int p1), .val (.int p2), .val (.int p3), .val (.int (p0.toUInt32.toUInt16.toUInt32.toInt32)), .val (.ref b1), .val (.ref b38), .val (.int (e0_1 p3)), .val (.int (e0_2 p3)), .val (.int (1 : Int32))] [(.int (e0_1 p3)), (.int (p0.toUInt32.toUInt16.toUInt32.toInt32)), (.ref b38)])) _
            refine XS.iload X57.here hx rfl (hb hby at_216) rfl ?_
            show Steps p.tables e below (T57.setTop (mkF m 218 #[.val (.int p0), .val (.int p1), .val (.int p2), .val (.int p3), .val (.int (p0.toUInt32.toUInt16.toUInt32.toInt32)), .val (.ref b1), .val (.ref b38), .val (.int (e0_1 p3)), .val (.int (e0_2 p3)), .val (.int (1 : Int32))] [(.int (e0_2 p3)), (.int (e0_1 p3)), (.int (p0.toUInt32.toUInt16.toUInt32.toInt32)), (.ref b38)])) _
            refine st75 _ ?_
            show Steps p.tables e below (T75.setTop (mkF m 221 #[.val (.int p0), .val (.int p1), .val (.int p2), .val (.int p3), .val (.int (p0.toUInt32.toUInt16.toUInt32.toInt32)), .val (.ref b1), .val (.ref b38), .val (.int (e0_1 p3)), .val (.int (e0_2 p3)), .val (.int (1 : Int32))] [(.int (f8l (p0.toUInt32.toUInt16.toUInt32.toInt32) (e0_1 p3) (e0_2 p3) (f5l_o2_a (own_upd (own_upd (own_upd (own_upd (fun _ => 0) 0 (nar .char (j0_12_S0 p0 p1 p3))) 1 (nar .char (j0_29_S0 p0 p1 p3))) 2 (nar .char (j0_49_S0 p0 p2 p3))) 3 (nar .char (j0_66_S0 p0 p2 p3))) (fun _ => 0))))])) _
            refine XS.iload X75.here hx rfl (hb hby at_221) rfl ?_
            exact kt)
        have hd223_77 : (f8l (p0.toUInt32.toUInt16.toUInt32.toInt32) (e0_1 p3) (e0_2 p3) (f5l_o2_a (own_upd (own_upd (own_upd (own_upd (fun _ => 0) 0 (nar .char (j0_12_S0 p0 p1 p3))) 1 (nar .char (j0_29_S0 p0 p1 p3))) 2 (nar .char (j0_49_S0 p0 p2 p3))) 3 (nar .char (j0_66_S0 p0 p2 p3))) (fun _ => 0))) = (1 : Int32) := (own_law_l _ (own_ch0 _ _ _ _) hR84_37 p0 p3).trans (by rw [if_pos hc134_56, if_neg hc155_59])
        obtain ⟨fs, hr, hrun, hended, hW, hsame⟩ := X75.leave (v := some (.int (1 : Int32))) (fun h => by rw [Bd.returns] at h; cases h)
        have hv127 : (1 : Int32) = (1 : Int32) := rfl
        refine ⟨_, _, pre76 _ ?_, hrun, hended, _, _, rfl, ?_, ⟨_, rfl⟩, hW, hsame.mono (by decide) (by decide)⟩
        · show Steps p.tables e below (T75.setTop (mkF m 223 #[.val (.int p0), .val (.int p1), .val (.int p2), .val (.int p3), .val (.int (p0.toUInt32.toUInt16.toUInt32.toInt32)), .val (.ref b1), .val (.ref b38), .val (.int (e0_1 p3)), .val (.int (e0_2 p3)), .val (.int (1 : Int32))] [(.int (1 : Int32)), (.int (f8l (p0.toUInt32.toUInt16.toUInt32.toInt32) (e0_1 p3) (e0_2 p3) (f5l_o2_a (own_upd (own_upd (own_upd (own_upd (fun _ => 0) 0 (nar .char (j0_12_S0 p0 p1 p3))) 1 (nar .char (j0_29_S0 p0 p1 p3))) 2 (nar .char (j0_49_S0 p0 p2 p3))) 3 (nar .char (j0_66_S0 p0 p2 p3))) (fun _ => 0))))])) _
          refine XS.icmpNo X75.here hx rfl (hb hby at_223) rfl (teq hd223_77).2 ?_
          show Steps p.tables e below (T75.setTop (mkF m 226 #[.val (.int p0), .val (.int p1), .val (.int p2), .val (.int p3), .val (.int (p0.toUInt32.toUInt16.toUInt32.toInt32)), .val (.ref b1), .val (.ref b38), .val (.int (e0_1 p3)), .val (.int (e0_2 p3)), .val (.int (1 : Int32))] [])) _
          refine XS.iconst X75.here hx rfl (hb hby at_226) ?_
          show Steps p.tables e below (T75.setTop (mkF m 227 #[.val (.int p0), .val (.int p1), .val (.int p2), .val (.int p3), .val (.int (p0.toUInt32.toUInt16.toUInt32.toInt32)), .val (.ref b1), .val (.ref b38), .val (.int (e0_1 p3)), .val (.int (e0_2 p3)), .val (.int (1 : Int32))] [(.int (1 : Int32))])) _
          refine XS.goto X75.here hx rfl (pc0 := 227) (pc' := 231) rfl (hb hby at_227) (by decide) (by decide) ?_
          show Steps p.tables e below (T75.setTop (mkF m 231 #[.val (.int p0), .val (.int p1), .val (.int p2), .val (.int p3), .val (.int (p0.toUInt32.toUInt16.toUInt32.toInt32)), .val (.ref b1), .val (.ref b38), .val (.int (e0_1 p3)), .val (.int (e0_2 p3)), .val (.int (1 : Int32))] [(.int (1 : Int32))])) _
          exact retN X75 hx (t := .boolean) Bd.returns (by simp) (hb hby at_231) hr
        · show Q0 Z p0 p1 p2 p3 cs fm h0 n0 _ T75.heap _
          rw [e75q]
          exact ⟨congrArg (fun q => some (Value.int q)) hv127, N75⟩
    · obtain ⟨_, _, ⟨T78, L78, k78, n78⟩, -, X78, ⟨Lc78, hQ78, l78, y78, z78⟩, st78⟩ := Jvm.LawKit.callS X54 hx (y := (⟨"com/example/corvid/corvid/internal/StringEscapes", "indexOf", "(Ljava/lang/String;CII)I"⟩ : MethodName)) hown (mvT hZ (hw _ (List.mem_of_getElem? (i := 34) rfl))) (mvT hZ (hw _ (List.mem_of_getElem? (i := 35) rfl))) (mvT hZ (hw _ (List.mem_of_getElem? (i := 36) rfl))) (mvT hZ (hw _ (List.mem_of_getElem? (i := 37) rfl))) (by decide) (backOf (W := 0) (rm8l l Z a0 hw [] b38 (p0.toUInt32.toUInt16.toUInt32.toInt32) (e0_1 p3) (e0_2 p3) cs r_o0_value_41 (f5l_o2_a (own_upd (own_upd (own_upd (own_upd (fun _ => 0) 0 (nar .char (j0_12_S0 p0 p1 p3))) 1 (nar .char (j0_29_S0 p0 p1 p3))) 2 (nar .char (j0_49_S0 p0 p2 p3))) 3 (nar .char (j0_66_S0 p0 p2 p3))) (fun _ => 0)) T41.heap n0 Z53 S47 (hcs) G41_0 G41_1 G41_2 (E_b38.keep K41q) (own_c0 p0) (own_fr p3)) hZ (hw _ (List.mem_of_getElem? (i := 37) rfl)) (hw _ (List.mem_of_getElem? (i := 36) rfl)) (by decide) (by decide)) (g := (mkF m 218 #[.val (.int p0), .val (.int p1), .val (.int p2), .val (.int p3), .val (.int (p0.toUInt32.toUInt16.toUInt32.toInt32)), .val (.ref b1), .val (.ref b38), .val (.int (e0_1 p3)), .val (.int (e0_2 p3)), .val (.int (0 : Int32))] [(.int (e0_2 p3)), (.int (e0_1 p3)), (.int (p0.toUInt32.toUInt16.toUInt32.toInt32)), (.ref b38)])) rfl (by rw [hml]; rfl) (argsL := [(.ref b38), (.int (p0.toUInt32.toUInt16.toUInt32.toInt32)), (.int (e0_1 p3)), (.int (e0_2 p3))]) (rest := []) (lenOf pd_0_2 rfl) rfl (by show 2 * 0 + _ ≤ _; exact Nat.le_of_eq rfl) (hb hby at_218) (fun _ _ => ⟨rfl, e54q, (by decide : 3 + 0 ≤ _), (by decide : 12 + 0 ≤ _)⟩)
      dsimp only [Pt.U, Pt.locs, Pt.cells, Pt.slots] at X78 l78 y78 z78 st78 hQ78
      subst l78 y78 z78
      obtain ⟨rfl, N78q, e78q⟩ := hQ78
      have N78 := Fr.app N54 N78q
      have pre79 : ∀ t, Steps p.tables e below (T78.setTop (mkF m 223 #[.val (.int p0), .val (.int p1), .val (.int p2), .val (.int p3), .val (.int (p0.toUInt32.toUInt16.toUInt32.toInt32)), .val (.ref b1), .val (.ref b38), .val (.int (e0_1 p3)), .val (.int (e0_2 p3)), .val (.int (0 : Int32))] [(.int (0 : Int32)), (.int (f8l (p0.toUInt32.toUInt16.toUInt32.toInt32) (e0_1 p3) (e0_2 p3) (f5l_o2_a (own_upd (own_upd (own_upd (own_upd (fun _ => 0) 0 (nar .char (j0_12_S0 p0 p1 p3))) 1 (nar .char (j0_29_S0 p0 p1 p3))) 2 (nar .char (j0_49_S0 p0 p2 p3))) 3 (nar .char (j0_66_S0 p0 p2 p3))) (fun _ => 0))))])) t → Steps p.tables e below (s₁.setTop (entryFrame m #[(.int p0), (.int p1), (.int p2), (.int p3)] maxLocals)) t := fun t kt => pre55 t (by
          show Steps p.tables e below (T54.setTop (mkF m 134 #[.val (.int p0), .val (.int p1), .val (.int p2), .val (.int p3), .val (.int (p0.toUInt32.toUInt16.toUInt32.toInt32)), .val (.ref b1), .val (.ref b38), .val (.int (e0_1 p3)), .val (.int (e0_2 p3)), .unset] [(.int (f7 (p0.toUInt32.toUInt16.toUInt32.toInt32) (0 : Int32) (e0_1 p3) (e0_2 p3) (own_upd (own_upd (own_upd (own_upd (fun _ => 0) 0 (nar .char (j0_12_S0 p0 p1 p3))) 1 (nar .char (j0_29_S0 p0 p1 p3))) 2 (nar .char (j0_49_S0 p0 p2 p3))) 3 (nar .char (j0_66_S0 p0 p2 p3)))))])) _
          refine XS.ifNo X54.here hx rfl (hb hby at_134) rfl ((if0 _ _).trans (feq hc134_56).1) ?_
          show Steps p.tables e below (T54.setTop (mkF m 137 #[.val (.int p0), .val (.int p1), .val (.int p2), .val (.int p3), .val (.int (p0.toUInt32.toUInt16.toUInt32.toInt32)), .val (.ref b1), .val (.ref b38), .val (.int (e0_1 p3)), .val (.int (e0_2 p3)), .unset] [])) _
          refine XS.iconst X54.here hx rfl (hb hby at_137) ?_
          show Steps p.tables e below (T54.setTop (mkF m 138 #[.val (.int p0), .val (.int p1), .val (.int p2), .val (.int p3), .val (.int (p0.toUInt32.toUInt16.toUInt32.toInt32)), .val (.ref b1), .val (.ref b38), .val (.int (e0_1 p3)), .val (.int (e0_2 p3)), .unset] [(.int (0 : Int32))])) _
          refine XS.istore X54.here hx rfl (hb hby at_138) rfl (l' := #[.val (.int p0), .val (.int p1), .val (.int p2), .val (.int p3), .val (.int (p0.toUInt32.toUInt16.toUInt32.toInt32)), .val (.ref b1), .val (.ref b38), .val (.int (e0_1 p3)), .val (.int (e0_2 p3)), .val (.int (0 : Int32))]) rfl ?_
          show Steps p.tables e below (T54.setTop (mkF m 140 #[.val (.int p0), .val (.int p1), .val (.int p2), .val (.int p3), .val (.int (p0.toUInt32.toUInt16.toUInt32.toInt32)), .val (.ref b1), .val (.ref b38), .val (.int (e0_1 p3)), .val (.int (e0_2 p3)), .val (.int (0 : Int32))] [])) _
          refine XS.goto X54.here hx rfl (pc0 := 140) (pc' := 210) rfl (hb hby at_140) (by decide) (by decide) ?_
          show Steps p.tables e below (T54.setTop (mkF m 210 #[.val (.int p0), .val (.int p1), .val (.int p2), .val (.int p3), .val (.int (p0.toUInt32.toUInt16.toUInt32.toInt32)), .val (.ref b1), .val (.ref b38), .val (.int (e0_1 p3)), .val (.int (e0_2 p3)), .val (.int (0 : Int32))] [])) _
          refine XS.aload X54.here hx rfl (hb hby at_210) rfl rfl ?_
          show Steps p.tables e below (T54.setTop (mkF m 212 #[.val (.int p0), .val (.int p1), .val (.int p2), .val (.int p3), .val (.int (p0.toUInt32.toUInt16.toUInt32.toInt32)), .val (.ref b1), .val (.ref b38), .val (.int (e0_1 p3)), .val (.int (e0_2 p3)), .val (.int (0 : Int32))] [(.ref b38)])) _
          refine XS.iload X54.here hx rfl (hb hby at_212) rfl ?_
          show Steps p.tables e below (T54.setTop (mkF m 214 #[.val (.int p0), .val (.int p1), .val (.int p2), .val (.int p3), .val (.int (p0.toUInt32.toUInt16.toUInt32.toInt32)), .val (.ref b1), .val (.ref b38), .val (.int (e0_1 p3)), .val (.int (e0_2 p3)), .val (.int (0 : Int32))] [(.int (p0.toUInt32.toUInt16.toUInt32.toInt32)), (.ref b38)])) _
          refine XS.iload X54.here hx rfl (hb hby at_214) rfl ?_
          show Steps p.tables e below (T54.setTop (mkF m 216 #[.val (.int p0), .val (.int p1), .val (.int p2), .val (.int p3), .val (.int (p0.toUInt32.toUInt16.toUInt32.toInt32)), .val (.ref b1), .val (.ref b38), .val (.int (e0_1 p3)), .val (.int (e0_2 p3)), .val (.int (0 : Int32))] [(.int (e0_1 p3)), (.int (p0.toUInt32.toUInt16.toUInt32.toInt32)), (.ref b38)])) _
          refine XS.iload X54.here hx rfl (hb hby at_216) rfl ?_
          show Steps p.tables e below (T54.setTop (mkF m 218 #[.val (.int p0), .val (.int p1), .val (.int p2), .val (.int p3), .val (.int (p0.toUInt32.toUInt16.toUInt32.toInt32)), .val (.ref b1), .val (.ref b38), .val (.int (e0_1 p3)), .val (.int (e0_2 p3)), .val (.int (0 : Int32))] [(.int (e0_2 p3)), (.int (e0_1 p3)), (.int (p0.toUInt32.toUInt16.toUInt32.toInt32)), (.ref b38)])) _
          refine st78 _ ?_
          show Steps p.tables e below (T78.setTop (mkF m 221 #[.val (.int p0), .val (.int p1), .val (.int p2), .val (.int p3), .val (.int (p0.toUInt32.toUInt16.toUInt32.toInt32)), .val (.ref b1), .val (.ref b38), .val (.int (e0_1 p3)), .val (.int (e0_2 p3)), .val (.int (0 : Int32))] [(.int (f8l (p0.toUInt32.toUInt16.toUInt32.toInt32) (e0_1 p3) (e0_2 p3) (f5l_o2_a (own_upd (own_upd (own_upd (own_upd (fun _ => 0) 0 (nar .char (j0_12_S0 p0 p1 p3))) 1 (nar .char (j0_29_S0 p0 p1 p3))) 2 (nar .char (j0_49_S0 p0 p2 p3))) 3 (nar .char (j0_66_S0 p0 p2 p3))) (fun _ => 0))))])) _
          refine XS.iload X78.here hx rfl (hb hby at_221) rfl ?_
          exact kt)
      have hd223_80 : (f8l (p0.toUInt32.toUInt16.toUInt32.toInt32) (e0_1 p3) (e0_2 p3) (f5l_o2_a (own_upd (own_upd (own_upd (own_upd (fun _ => 0) 0 (nar .char (j0_12_S0 p0 p1 p3))) 1 (nar .char (j0_29_S0 p0 p1 p3))) 2 (nar .char (j0_49_S0 p0 p2 p3))) 3 (nar .char (j0_66_S0 p0 p2 p3))) (fun _ => 0))) = (0 : Int32) := (own_law_l _ (own_ch0 _ _ _ _) hR84_37 p0 p3).trans (by rw [if_neg hc134_56])
      obtain ⟨fs, hr, hrun, hended, hW, hsame⟩ := X78.leave (v := some (.int (1 : Int32))) (fun h => by rw [Bd.returns] at h; cases h)
      have hv128 : (1 : Int32) = (1 : Int32) := rfl
      refine ⟨_, _, pre79 _ ?_, hrun, hended, _, _, rfl, ?_, ⟨_, rfl⟩, hW, hsame.mono (by decide) (by decide)⟩
      · show Steps p.tables e below (T78.setTop (mkF m 223 #[.val (.int p0), .val (.int p1), .val (.int p2), .val (.int p3), .val (.int (p0.toUInt32.toUInt16.toUInt32.toInt32)), .val (.ref b1), .val (.ref b38), .val (.int (e0_1 p3)), .val (.int (e0_2 p3)), .val (.int (0 : Int32))] [(.int (0 : Int32)), (.int (f8l (p0.toUInt32.toUInt16.toUInt32.toInt32) (e0_1 p3) (e0_2 p3) (f5l_o2_a (own_upd (own_upd (own_upd (own_upd (fun _ => 0) 0 (nar .char (j0_12_S0 p0 p1 p3))) 1 (nar .char (j0_29_S0 p0 p1 p3))) 2 (nar .char (j0_49_S0 p0 p2 p3))) 3 (nar .char (j0_66_S0 p0 p2 p3))) (fun _ => 0))))])) _
        refine XS.icmpNo X78.here hx rfl (hb hby at_223) rfl (teq hd223_80).2 ?_
        show Steps p.tables e below (T78.setTop (mkF m 226 #[.val (.int p0), .val (.int p1), .val (.int p2), .val (.int p3), .val (.int (p0.toUInt32.toUInt16.toUInt32.toInt32)), .val (.ref b1), .val (.ref b38), .val (.int (e0_1 p3)), .val (.int (e0_2 p3)), .val (.int (0 : Int32))] [])) _
        refine XS.iconst X78.here hx rfl (hb hby at_226) ?_
        show Steps p.tables e below (T78.setTop (mkF m 227 #[.val (.int p0), .val (.int p1), .val (.int p2), .val (.int p3), .val (.int (p0.toUInt32.toUInt16.toUInt32.toInt32)), .val (.ref b1), .val (.ref b38), .val (.int (e0_1 p3)), .val (.int (e0_2 p3)), .val (.int (0 : Int32))] [(.int (1 : Int32))])) _
        refine XS.goto X78.here hx rfl (pc0 := 227) (pc' := 231) rfl (hb hby at_227) (by decide) (by decide) ?_
        show Steps p.tables e below (T78.setTop (mkF m 231 #[.val (.int p0), .val (.int p1), .val (.int p2), .val (.int p3), .val (.int (p0.toUInt32.toUInt16.toUInt32.toInt32)), .val (.ref b1), .val (.ref b38), .val (.int (e0_1 p3)), .val (.int (e0_2 p3)), .val (.int (0 : Int32))] [(.int (1 : Int32))])) _
        exact retN X78 hx (t := .boolean) Bd.returns (by simp) (hb hby at_231) hr
      · show Q0 Z p0 p1 p2 p3 cs fm h0 n0 _ T78.heap _
        rw [e78q]
        exact ⟨congrArg (fun q => some (Value.int q)) hv128, N78⟩
  · obtain ⟨T81, h81, X81, e81, E81, A81, D81, -, st81⟩ := newO X33 hx hZ hown (hw _ (List.mem_of_getElem? (i := 1) rfl)) (hw _ (List.mem_of_getElem? (i := 2) rfl)) (hw _ (List.mem_of_getElem? (i := 3) rfl)) e33 (g := (mkF m 84 #[.val (.int p0), .val (.int p1), .val (.int p2), .val (.int p3), .val (.int (p0.toUInt32.toUInt16.toUInt32.toInt32)), .val (.ref b1), .unset, .unset, .unset, .unset] [])) rfl (hb hby at_84) (by decide) (by decide)
    obtain ⟨b81, g81⟩ : ∃ z, z = h33.size := ⟨_, rfl⟩
    rw [← g81] at A81 D81 st81
    have g_b81 : n0 ≤ b81 := Nat.le_trans Z35 (Nat.le_of_eq g81.symm)
    have sz_b81 : h0.size ≤ b81 := Nat.le_trans K34.1 (Nat.le_of_eq g81.symm)
    have ne_b1_b81 : b1 ≠ b81 := Nat.ne_of_lt (Nat.lt_of_lt_of_le V33.lt (Nat.le_of_eq g81.symm))
    have K82 : Keep h0 h81 [] := K34.ext E81
    have Z83 : n0 ≤ h81.size := Nat.le_trans Z0 K82.1
    have E_b81 := A81
    have F_coder_b81 : Fld Z h81 b81 "java/lang/String" "coder" "B" (.int (0 : Int32)) := D81 (Or.inr (hw _ (List.mem_of_getElem? (i := 27) rfl))) (ty := .byte) (by decide)
    have F_value_b81 : Fld Z h81 b81 "java/lang/String" "value" "[B" .null := D81 (Or.inr (hw _ (List.mem_of_getElem? (i := 29) rfl))) (ty := (.array .byte)) (by decide)
    have c85 := ((((((S_COMPACT_STRINGS.ext E1).wr W9).wr W17).wr W25).wr W33).ext E81)
    have c86 := ((((((S__assertionsDisabled.ext E1).wr W9).wr W17).wr W25).wr W33).ext E81)
    have c87 := ((((((S_HI_BYTE_SHIFT.ext E1).wr W9).wr W17).wr W25).wr W33).ext E81)
    have c88 := ((((((S_LO_BYTE_SHIFT.ext E1).wr W9).wr W17).wr W25).wr W33).ext E81)
    obtain ⟨_, _, ⟨T84, L84, k84, n84⟩, -, X84, ⟨Lc84, hQ84, l84, y84, z84⟩, st84⟩ := X81.specialBack hx (y := (⟨"java/lang/String", "<init>", "([C)V"⟩ : MethodName)) rfl hown (mvT hZ (hw _ (List.mem_of_getElem? (i := 4) rfl))) (mvT hZ (hw _ (List.mem_of_getElem? (i := 5) rfl))) (mvT hZ (hw _ (List.mem_of_getElem? (i := 6) rfl))) (by decide) (backOf (W := 1) (rm1u l Z a0 hw [] b81 b1 cs (own_upd (own_upd (own_upd (own_upd (fun _ => 0) 0 (nar .char (j0_12_S0 p0 p1 p3))) 1 (nar .char (j0_29_S0 p0 p1 p3))) 2 (nar .char (j0_49_S0 p0 p2 p3))) 3 (nar .char (j0_66_S0 p0 p2 p3))) h81 n0 Z83 c85 (hcs) (V33.ext E81) E_b81 F_coder_b81 F_value_b81 g_b81 (Ne.symm ne_b1_b81) c86 c87 c88 (hR84_37) (own_ch0 _ _ _ _)) hZ (hw _ (List.mem_of_getElem? (i := 6) rfl)) (hw _ (List.mem_of_getElem? (i := 3) rfl)) (by decide) (by decide)) (g := (mkF m 90 #[.val (.int p0), .val (.int p1), .val (.int p2), .val (.int p3), .val (.int (p0.toUInt32.toUInt16.toUInt32.toInt32)), .val (.ref b1), .unset, .unset, .unset, .unset] [(.ref b1), (.ref b81), (.ref b81)])) rfl (by rw [hml]; rfl) (Steps.refl _) (a := b81) (argsL := [(.ref b1)]) (rest := [(.ref b81)]) (lenOf pd_0_0 rfl) rfl (by show 2 * 0 + _ ≤ _; exact Nat.le_of_eq rfl) (hb hby at_90) (fun _ _ => ⟨rfl, e81, (by decide : 2 + 2 ≤ _), (by decide : 8 + 12 ≤ _)⟩)
    dsimp only [Pt.U, Pt.locs, Pt.cells, Pt.slots] at X84 l84 y84 z84 st84 hQ84
    subst l84 y84 z84
    obtain ⟨r_o0_value_84, rfl, N84q, K84q, g_r_o0_value_84, szq_r_o0_value_84, G84_0, G84_1, G84_2⟩ := hQ84
    have N84 := Fr.app N33 N84q
    have ne_b1_r_o0_value_84 : b1 ≠ r_o0_value_84 := Nat.ne_of_lt (Nat.lt_of_lt_of_le (V33.ext E81).lt szq_r_o0_value_84)
    have ne_b81_r_o0_value_84 : b81 ≠ r_o0_value_84 := Nat.ne_of_lt (Nat.lt_of_lt_of_le E_b81.lt szq_r_o0_value_84)
    have sz_r_o0_value_84 : h0.size ≤ r_o0_value_84 := Nat.le_trans K82.1 szq_r_o0_value_84
    have c89 := ((((((S_SIOOBE_FORMATTER.ext E1).wr W9).wr W17).wr W25).wr W33).ext E81)
    have S90 := own_Sta_keep c85 K84q (allS (own_Exa_st E_b81) all0)
    have S91 := own_Sta_keep c86 K84q (allS (own_Exa_st E_b81) all0)
    have S92 := own_Sta_keep c87 K84q (allS (own_Exa_st E_b81) all0)
    have S93 := own_Sta_keep c88 K84q (allS (own_Exa_st E_b81) all0)
    have S94 := own_Sta_keep c89 K84q (allS (own_Exa_st E_b81) all0)
    have K95 : Keep h0 T84.heap [] := K82.trans K84q (allS (Or.inr sz_b81) all0)
    have Z96 : n0 ≤ T84.heap.size := Nat.le_trans Z0 K95.1
    obtain ⟨LS84, X84, N84⟩ : ∃ L, Stand p l e room_1 s m #[(.int p0), (.int p1), (.int p2), (.int p3)] below meth c T84 L 4 20 ∧ Fr n0 L := ⟨_, X84, N84⟩
    obtain ⟨_, _, ⟨T97, L97, k97, n97⟩, -, X97, ⟨Lc97, hQ97, l97, y97, z97⟩, st97⟩ := Jvm.LawKit.callS X84 hx (y := (⟨"com/example/corvid/corvid/internal/StringEscapesIndexOfPinLaw", "hit", "([CCIII)Z"⟩ : MethodName)) hown (mvT hZ (hw _ (List.mem_of_getElem? (i := 30) rfl))) (mvT hZ (hw _ (List.mem_of_getElem? (i := 31) rfl))) (mvT hZ (hw _ (List.mem_of_getElem? (i := 32) rfl))) (mvT hZ (hw _ (List.mem_of_getElem? (i := 33) rfl))) (by decide) (backOf (W := 0) (rm7 l Z a0 hw [] b1 (p0.toUInt32.toUInt16.toUInt32.toInt32) (0 : Int32) (e0_1 p3) (e0_2 p3) (own_upd (own_upd (own_upd (own_upd (fun _ => 0) 0 (nar .char (j0_12_S0 p0 p1 p3))) 1 (nar .char (j0_29_S0 p0 p1 p3))) 2 (nar .char (j0_49_S0 p0 p2 p3))) 3 (nar .char (j0_66_S0 p0 p2 p3))) T84.heap n0 Z96 ((V33.ext E81).keep K84q (ninS ne_b1_b81 nin0)) (⟨by decide, by decide⟩)) hZ (hw _ (List.mem_of_getElem? (i := 33) rfl)) (hw _ (List.mem_of_getElem? (i := 32) rfl)) (by decide) (by decide)) (g := (mkF m 131 #[.val (.int p0), .val (.int p1), .val (.int p2), .val (.int p3), .val (.int (p0.toUInt32.toUInt16.toUInt32.toInt32)), .val (.ref b1), .val (.ref b81), .val (.int (e0_1 p3)), .val (.int (e0_2 p3)), .unset] [(.int (e0_2 p3)), (.int (e0_1 p3)), (.int (0 : Int32)), (.int (p0.toUInt32.toUInt16.toUInt32.toInt32)), (.ref b1)])) rfl (by rw [hml]; rfl) (argsL := [(.ref b1), (.int (p0.toUInt32.toUInt16.toUInt32.toInt32)), (.int (0 : Int32)), (.int (e0_1 p3)), (.int (e0_2 p3))]) (rest := []) (lenOf pd_0_1 rfl) rfl (by show 2 * 0 + _ ≤ _; exact Nat.le_of_eq rfl) (hb hby at_131) (fun _ _ => ⟨rfl, rfl, (by decide : 4 + 0 ≤ _), (by decide : 20 + 0 ≤ _)⟩)
    dsimp only [Pt.U, Pt.locs, Pt.cells, Pt.slots] at X97 l97 y97 z97 st97 hQ97
    subst l97 y97 z97
    obtain ⟨rfl, N97q, e97q⟩ := hQ97
    have N97 := Fr.app N84 N97q
    have pre98 : ∀ t, Steps p.tables e below (T97.setTop (mkF m 134 #[.val (.int p0), .val (.int p1), .val (.int p2), .val (.int p3), .val (.int (p0.toUInt32.toUInt16.toUInt32.toInt32)), .val (.ref b1), .val (.ref b81), .val (.int (e0_1 p3)), .val (.int (e0_2 p3)), .unset] [(.int (f7 (p0.toUInt32.toUInt16.toUInt32.toInt32) (0 : Int32) (e0_1 p3) (e0_2 p3) (own_upd (own_upd (own_upd (own_upd (fun _ => 0) 0 (nar .char (j0_12_S0 p0 p1 p3))) 1 (nar .char (j0_29_S0 p0 p1 p3))) 2 (nar .char (j0_49_S0 p0 p2 p3))) 3 (nar .char (j0_66_S0 p0 p2 p3)))))])) t → Steps p.tables e below (s₁.setTop (entryFrame m #[(.int p0), (.int p1), (.int p2), (.int p3)] maxLocals)) t := fun t kt => pre36 t (by
        show Steps p.tables e below (T33.setTop (mkF m 84 #[.val (.int p0), .val (.int p1), .val (.int p2), .val (.int p3), .val (.int (p0.toUInt32.toUInt16.toUInt32.toInt32)), .val (.ref b1), .unset, .unset, .unset, .unset] [])) _
        refine st81 _ ?_
        show Steps p.tables e below (T81.setTop (mkF m 87 #[.val (.int p0), .val (.int p1), .val (.int p2), .val (.int p3), .val (.int (p0.toUInt32.toUInt16.toUInt32.toInt32)), .val (.ref b1), .unset, .unset, .unset, .unset] [(.ref b81)])) _
        refine XS.dup X81.here hx rfl (hb hby at_87) rfl rfl ?_
        show Steps p.tables e below (T81.setTop (mkF m 88 #[.val (.int p0), .val (.int p1), .val (.int p2), .val (.int p3), .val (.int (p0.toUInt32.toUInt16.toUInt32.toInt32)), .val (.ref b1), .unset, .unset, .unset, .unset] [(.ref b81), (.ref b81)])) _
        refine XS.aload X81.here hx rfl (hb hby at_88) rfl rfl ?_
        show Steps p.tables e below (T81.setTop (mkF m 90 #[.val (.int p0), .val (.int p1), .val (.int p2), .val (.int p3), .val (.int (p0.toUInt32.toUInt16.toUInt32.toInt32)), .val (.ref b1), .unset, .unset, .unset, .unset] [(.ref b1), (.ref b81), (.ref b81)])) _
        refine st84.trans ?_
        show Steps p.tables e below (T84.setTop (mkF m 93 #[.val (.int p0), .val (.int p1), .val (.int p2), .val (.int p3), .val (.int (p0.toUInt32.toUInt16.toUInt32.toInt32)), .val (.ref b1), .unset, .unset, .unset, .unset] [(.ref b81)])) _
        refine XS.astore X84.here hx rfl (hb hby at_93) rfl rfl (l' := #[.val (.int p0), .val (.int p1), .val (.int p2), .val (.int p3), .val (.int (p0.toUInt32.toUInt16.toUInt32.toInt32)), .val (.ref b1), .val (.ref b81), .unset, .unset, .unset]) rfl ?_
        show Steps p.tables e below (T84.setTop (mkF m 95 #[.val (.int p0), .val (.int p1), .val (.int p2), .val (.int p3), .val (.int (p0.toUInt32.toUInt16.toUInt32.toInt32)), .val (.ref b1), .val (.ref b81), .unset, .unset, .unset] [])) _
        refine XS.iloadN X84.here hx rfl (hb hby at_95) rfl ?_
        show Steps p.tables e below (T84.setTop (mkF m 96 #[.val (.int p0), .val (.int p1), .val (.int p2), .val (.int p3), .val (.int (p0.toUInt32.toUInt16.toUInt32.toInt32)), .val (.ref b1), .val (.ref b81), .unset, .unset, .unset] [(.int p3)])) _
        refine XS.iconst X84.here hx rfl (hb hby at_96) ?_
        show Steps p.tables e below (T84.setTop (mkF m 97 #[.val (.int p0), .val (.int p1), .val (.int p2), .val (.int p3), .val (.int (p0.toUInt32.toUInt16.toUInt32.toInt32)), .val (.ref b1), .val (.ref b81), .unset, .unset, .unset] [(.int (4 : Int32)), (.int p3)])) _
        refine XS.iushr X84.here hx rfl (hb hby at_97) rfl ?_
        show Steps p.tables e below (T84.setTop (mkF m 98 #[.val (.int p0), .val (.int p1), .val (.int p2), .val (.int p3), .val (.int (p0.toUInt32.toUInt16.toUInt32.toInt32)), .val (.ref b1), .val (.ref b81), .unset, .unset, .unset] [(.int ((p3.toUInt32 >>> ((4 : Int32) &&& 31).toUInt32).toInt32))])) _
        refine XS.bipush X84.here hx rfl (hb hby at_98) ?_
        show Steps p.tables e below (T84.setTop (mkF m 100 #[.val (.int p0), .val (.int p1), .val (.int p2), .val (.int p3), .val (.int (p0.toUInt32.toUInt16.toUInt32.toInt32)), .val (.ref b1), .val (.ref b81), .unset, .unset, .unset] [(.int (7 : Int32)), (.int ((p3.toUInt32 >>> ((4 : Int32) &&& 31).toUInt32).toInt32))])) _
        refine XS.iand X84.here hx rfl (hb hby at_100) rfl ?_
        show Steps p.tables e below (T84.setTop (mkF m 101 #[.val (.int p0), .val (.int p1), .val (.int p2), .val (.int p3), .val (.int (p0.toUInt32.toUInt16.toUInt32.toInt32)), .val (.ref b1), .val (.ref b81), .unset, .unset, .unset] [(.int (((p3.toUInt32 >>> ((4 : Int32) &&& 31).toUInt32).toInt32) &&& (7 : Int32)))])) _
        refine XS.iconst X84.here hx rfl (hb hby at_101) ?_
        show Steps p.tables e below (T84.setTop (mkF m 102 #[.val (.int p0), .val (.int p1), .val (.int p2), .val (.int p3), .val (.int (p0.toUInt32.toUInt16.toUInt32.toInt32)), .val (.ref b1), .val (.ref b81), .unset, .unset, .unset] [(.int (5 : Int32)), (.int (((p3.toUInt32 >>> ((4 : Int32) &&& 31).toUInt32).toInt32) &&& (7 : Int32)))])) _
        refine XS.irem X84.here hx rfl (hb hby at_102) rfl (by decide) ?_
        show Steps p.tables e below (T84.setTop (mkF m 103 #[.val (.int p0), .val (.int p1), .val (.int p2), .val (.int p3), .val (.int (p0.toUInt32.toUInt16.toUInt32.toInt32)), .val (.ref b1), .val (.ref b81), .unset, .unset, .unset] [(.int ((((p3.toUInt32 >>> ((4 : Int32) &&& 31).toUInt32).toInt32) &&& (7 : Int32)) - ((((p3.toUInt32 >>> ((4 : Int32) &&& 31).toUInt32).toInt32) &&& (7 : Int32)) / (5 : Int32)) * (5 : Int32)))])) _
        refine XS.istore X84.here hx rfl (hb hby at_103) rfl (l' := #[.val (.int p0), .val (.int p1), .val (.int p2), .val (.int p3), .val (.int (p0.toUInt32.toUInt16.toUInt32.toInt32)), .val (.ref b1), .val (.ref b81), .val (.int (e0_1 p3)), .unset, .unset]) rfl ?_
        show Steps p.tables e below (T84.setTop (mkF m 105 #[.val (.int p0), .val (.int p1), .val (.int p2), .val (.int p3), .val (.int (p0.toUInt32.toUInt16.toUInt32.toInt32)), .val (.ref b1), .val (.ref b81), .val (.int (e0_1 p3)), .unset, .unset] [])) _
        refine XS.iload X84.here hx rfl (hb hby at_105) rfl ?_
        show Steps p.tables e below (T84.setTop (mkF m 107 #[.val (.int p0), .val (.int p1), .val (.int p2), .val (.int p3), .val (.int (p0.toUInt32.toUInt16.toUInt32.toInt32)), .val (.ref b1), .val (.ref b81), .val (.int (e0_1 p3)), .unset, .unset] [(.int (e0_1 p3))])) _
        refine XS.iloadN X84.here hx rfl (hb hby at_107) rfl ?_
        show Steps p.tables e below (T84.setTop (mkF m 108 #[.val (.int p0), .val (.int p1), .val (.int p2), .val (.int p3), .val (.int (p0.toUInt32.toUInt16.toUInt32.toInt32)), .val (.ref b1), .val (.ref b81), .val (.int (e0_1 p3)), .unset, .unset] [(.int p3), (.int (e0_1 p3))])) _
        refine XS.bipush X84.here hx rfl (hb hby at_108) ?_
        show Steps p.tables e below (T84.setTop (mkF m 110 #[.val (.int p0), .val (.int p1), .val (.int p2), .val (.int p3), .val (.int (p0.toUInt32.toUInt16.toUInt32.toInt32)), .val (.ref b1), .val (.ref b81), .val (.int (e0_1 p3)), .unset, .unset] [(.int (8 : Int32)), (.int p3), (.int (e0_1 p3))])) _
        refine XS.iushr X84.here hx rfl (hb hby at_110) rfl ?_
        show Steps p.tables e below (T84.setTop (mkF m 111 #[.val (.int p0), .val (.int p1), .val (.int p2), .val (.int p3), .val (.int (p0.toUInt32.toUInt16.toUInt32.toInt32)), .val (.ref b1), .val (.ref b81), .val (.int (e0_1 p3)), .unset, .unset] [(.int ((p3.toUInt32 >>> ((8 : Int32) &&& 31).toUInt32).toInt32)), (.int (e0_1 p3))])) _
        refine XS.bipush X84.here hx rfl (hb hby at_111) ?_
        show Steps p.tables e below (T84.setTop (mkF m 113 #[.val (.int p0), .val (.int p1), .val (.int p2), .val (.int p3), .val (.int (p0.toUInt32.toUInt16.toUInt32.toInt32)), .val (.ref b1), .val (.ref b81), .val (.int (e0_1 p3)), .unset, .unset] [(.int (7 : Int32)), (.int ((p3.toUInt32 >>> ((8 : Int32) &&& 31).toUInt32).toInt32)), (.int (e0_1 p3))])) _
        refine XS.iand X84.here hx rfl (hb hby at_113) rfl ?_
        show Steps p.tables e below (T84.setTop (mkF m 114 #[.val (.int p0), .val (.int p1), .val (.int p2), .val (.int p3), .val (.int (p0.toUInt32.toUInt16.toUInt32.toInt32)), .val (.ref b1), .val (.ref b81), .val (.int (e0_1 p3)), .unset, .unset] [(.int (((p3.toUInt32 >>> ((8 : Int32) &&& 31).toUInt32).toInt32) &&& (7 : Int32))), (.int (e0_1 p3))])) _
        refine XS.iconst X84.here hx rfl (hb hby at_114) ?_
        show Steps p.tables e below (T84.setTop (mkF m 115 #[.val (.int p0), .val (.int p1), .val (.int p2), .val (.int p3), .val (.int (p0.toUInt32.toUInt16.toUInt32.toInt32)), .val (.ref b1), .val (.ref b81), .val (.int (e0_1 p3)), .unset, .unset] [(.int (5 : Int32)), (.int (((p3.toUInt32 >>> ((8 : Int32) &&& 31).toUInt32).toInt32) &&& (7 : Int32))), (.int (e0_1 p3))])) _
        refine XS.iload X84.here hx rfl (hb hby at_115) rfl ?_
        show Steps p.tables e below (T84.setTop (mkF m 117 #[.val (.int p0), .val (.int p1), .val (.int p2), .val (.int p3), .val (.int (p0.toUInt32.toUInt16.toUInt32.toInt32)), .val (.ref b1), .val (.ref b81), .val (.int (e0_1 p3)), .unset, .unset] [(.int (e0_1 p3)), (.int (5 : Int32)), (.int (((p3.toUInt32 >>> ((8 : Int32) &&& 31).toUInt32).toInt32) &&& (7 : Int32))), (.int (e0_1 p3))])) _
        refine XS.isub X84.here hx rfl (hb hby at_117) rfl ?_
        show Steps p.tables e below (T84.setTop (mkF m 118 #[.val (.int p0), .val (.int p1), .val (.int p2), .val (.int p3), .val (.int (p0.toUInt32.toUInt16.toUInt32.toInt32)), .val (.ref b1), .val (.ref b81), .val (.int (e0_1 p3)), .unset, .unset] [(.int ((5 : Int32) - (e0_1 p3))), (.int (((p3.toUInt32 >>> ((8 : Int32) &&& 31).toUInt32).toInt32) &&& (7 : Int32))), (.int (e0_1 p3))])) _
        refine XS.irem X84.here hx rfl (hb hby at_118) rfl (own_ne5 p3) ?_
        show Steps p.tables e below (T84.setTop (mkF m 119 #[.val (.int p0), .val (.int p1), .val (.int p2), .val (.int p3), .val (.int (p0.toUInt32.toUInt16.toUInt32.toInt32)), .val (.ref b1), .val (.ref b81), .val (.int (e0_1 p3)), .unset, .unset] [(.int ((((p3.toUInt32 >>> ((8 : Int32) &&& 31).toUInt32).toInt32) &&& (7 : Int32)) - ((((p3.toUInt32 >>> ((8 : Int32) &&& 31).toUInt32).toInt32) &&& (7 : Int32)) / ((5 : Int32) - (e0_1 p3))) * ((5 : Int32) - (e0_1 p3)))), (.int (e0_1 p3))])) _
        refine XS.iadd X84.here hx rfl (hb hby at_119) rfl ?_
        show Steps p.tables e below (T84.setTop (mkF m 120 #[.val (.int p0), .val (.int p1), .val (.int p2), .val (.int p3), .val (.int (p0.toUInt32.toUInt16.toUInt32.toInt32)), .val (.ref b1), .val (.ref b81), .val (.int (e0_1 p3)), .unset, .unset] [(.int ((e0_1 p3) + ((((p3.toUInt32 >>> ((8 : Int32) &&& 31).toUInt32).toInt32) &&& (7 : Int32)) - ((((p3.toUInt32 >>> ((8 : Int32) &&& 31).toUInt32).toInt32) &&& (7 : Int32)) / ((5 : Int32) - (e0_1 p3))) * ((5 : Int32) - (e0_1 p3)))))])) _
        refine XS.istore X84.here hx rfl (hb hby at_120) rfl (l' := #[.val (.int p0), .val (.int p1), .val (.int p2), .val (.int p3), .val (.int (p0.toUInt32.toUInt16.toUInt32.toInt32)), .val (.ref b1), .val (.ref b81), .val (.int (e0_1 p3)), .val (.int (e0_2 p3)), .unset]) rfl ?_
        show Steps p.tables e below (T84.setTop (mkF m 122 #[.val (.int p0), .val (.int p1), .val (.int p2), .val (.int p3), .val (.int (p0.toUInt32.toUInt16.toUInt32.toInt32)), .val (.ref b1), .val (.ref b81), .val (.int (e0_1 p3)), .val (.int (e0_2 p3)), .unset] [])) _
        refine XS.aload X84.here hx rfl (hb hby at_122) rfl rfl ?_
        show Steps p.tables e below (T84.setTop (mkF m 124 #[.val (.int p0), .val (.int p1), .val (.int p2), .val (.int p3), .val (.int (p0.toUInt32.toUInt16.toUInt32.toInt32)), .val (.ref b1), .val (.ref b81), .val (.int (e0_1 p3)), .val (.int (e0_2 p3)), .unset] [(.ref b1)])) _
        refine XS.iload X84.here hx rfl (hb hby at_124) rfl ?_
        show Steps p.tables e below (T84.setTop (mkF m 126 #[.val (.int p0), .val (.int p1), .val (.int p2), .val (.int p3), .val (.int (p0.toUInt32.toUInt16.toUInt32.toInt32)), .val (.ref b1), .val (.ref b81), .val (.int (e0_1 p3)), .val (.int (e0_2 p3)), .unset] [(.int (p0.toUInt32.toUInt16.toUInt32.toInt32)), (.ref b1)])) _
        refine XS.iconst X84.here hx rfl (hb hby at_126) ?_
        show Steps p.tables e below (T84.setTop (mkF m 127 #[.val (.int p0), .val (.int p1), .val (.int p2), .val (.int p3), .val (.int (p0.toUInt32.toUInt16.toUInt32.toInt32)), .val (.ref b1), .val (.ref b81), .val (.int (e0_1 p3)), .val (.int (e0_2 p3)), .unset] [(.int (0 : Int32)), (.int (p0.toUInt32.toUInt16.toUInt32.toInt32)), (.ref b1)])) _
        refine XS.iload X84.here hx rfl (hb hby at_127) rfl ?_
        show Steps p.tables e below (T84.setTop (mkF m 129 #[.val (.int p0), .val (.int p1), .val (.int p2), .val (.int p3), .val (.int (p0.toUInt32.toUInt16.toUInt32.toInt32)), .val (.ref b1), .val (.ref b81), .val (.int (e0_1 p3)), .val (.int (e0_2 p3)), .unset] [(.int (e0_1 p3)), (.int (0 : Int32)), (.int (p0.toUInt32.toUInt16.toUInt32.toInt32)), (.ref b1)])) _
        refine XS.iload X84.here hx rfl (hb hby at_129) rfl ?_
        show Steps p.tables e below (T84.setTop (mkF m 131 #[.val (.int p0), .val (.int p1), .val (.int p2), .val (.int p3), .val (.int (p0.toUInt32.toUInt16.toUInt32.toInt32)), .val (.ref b1), .val (.ref b81), .val (.int (e0_1 p3)), .val (.int (e0_2 p3)), .unset] [(.int (e0_2 p3)), (.int (e0_1 p3)), (.int (0 : Int32)), (.int (p0.toUInt32.toUInt16.toUInt32.toInt32)), (.ref b1)])) _
        refine st97 _ ?_
        exact kt)
    by_cases hc134_99 : (f7 (p0.toUInt32.toUInt16.toUInt32.toInt32) (0 : Int32) (e0_1 p3) (e0_2 p3) (own_upd (own_upd (own_upd (own_upd (fun _ => 0) 0 (nar .char (j0_12_S0 p0 p1 p3))) 1 (nar .char (j0_29_S0 p0 p1 p3))) 2 (nar .char (j0_49_S0 p0 p2 p3))) 3 (nar .char (j0_66_S0 p0 p2 p3)))) = (0 : Int32)
    · obtain ⟨_, _, ⟨T100, L100, k100, n100⟩, -, X100, ⟨Lc100, hQ100, l100, y100, z100⟩, st100⟩ := Jvm.LawKit.callS X97 hx (y := (⟨"com/example/corvid/corvid/internal/StringEscapesIndexOfPinLaw", "hit", "([CCIII)Z"⟩ : MethodName)) hown (mvT hZ (hw _ (List.mem_of_getElem? (i := 30) rfl))) (mvT hZ (hw _ (List.mem_of_getElem? (i := 31) rfl))) (mvT hZ (hw _ (List.mem_of_getElem? (i := 32) rfl))) (mvT hZ (hw _ (List.mem_of_getElem? (i := 33) rfl))) (by decide) (backOf (W := 0) (rm7 l Z a0 hw [] b1 (p0.toUInt32.toUInt16.toUInt32.toInt32) (1 : Int32) (e0_1 p3) (e0_2 p3) (own_upd (own_upd (own_upd (own_upd (fun _ => 0) 0 (nar .char (j0_12_S0 p0 p1 p3))) 1 (nar .char (j0_29_S0 p0 p1 p3))) 2 (nar .char (j0_49_S0 p0 p2 p3))) 3 (nar .char (j0_66_S0 p0 p2 p3))) T84.heap n0 Z96 ((V33.ext E81).keep K84q (ninS ne_b1_b81 nin0)) (⟨by decide, by decide⟩)) hZ (hw _ (List.mem_of_getElem? (i := 33) rfl)) (hw _ (List.mem_of_getElem? (i := 32) rfl)) (by decide) (by decide)) (g := (mkF m 152 #[.val (.int p0), .val (.int p1), .val (.int p2), .val (.int p3), .val (.int (p0.toUInt32.toUInt16.toUInt32.toInt32)), .val (.ref b1), .val (.ref b81), .val (.int (e0_1 p3)), .val (.int (e0_2 p3)), .unset] [(.int (e0_2 p3)), (.int (e0_1 p3)), (.int (1 : Int32)), (.int (p0.toUInt32.toUInt16.toUInt32.toInt32)), (.ref b1)])) rfl (by rw [hml]; rfl) (argsL := [(.ref b1), (.int (p0.toUInt32.toUInt16.toUInt32.toInt32)), (.int (1 : Int32)), (.int (e0_1 p3)), (.int (e0_2 p3))]) (rest := []) (lenOf pd_0_1 rfl) rfl (by show 2 * 0 + _ ≤ _; exact Nat.le_of_eq rfl) (hb hby at_152) (fun _ _ => ⟨rfl, e97q, (by decide : 4 + 0 ≤ _), (by decide : 20 + 0 ≤ _)⟩)
      dsimp only [Pt.U, Pt.locs, Pt.cells, Pt.slots] at X100 l100 y100 z100 st100 hQ100
      subst l100 y100 z100
      obtain ⟨rfl, N100q, e100q⟩ := hQ100
      have N100 := Fr.app N97 N100q
      have pre101 : ∀ t, Steps p.tables e below (T100.setTop (mkF m 155 #[.val (.int p0), .val (.int p1), .val (.int p2), .val (.int p3), .val (.int (p0.toUInt32.toUInt16.toUInt32.toInt32)), .val (.ref b1), .val (.ref b81), .val (.int (e0_1 p3)), .val (.int (e0_2 p3)), .unset] [(.int (f7 (p0.toUInt32.toUInt16.toUInt32.toInt32) (1 : Int32) (e0_1 p3) (e0_2 p3) (own_upd (own_upd (own_upd (own_upd (fun _ => 0) 0 (nar .char (j0_12_S0 p0 p1 p3))) 1 (nar .char (j0_29_S0 p0 p1 p3))) 2 (nar .char (j0_49_S0 p0 p2 p3))) 3 (nar .char (j0_66_S0 p0 p2 p3)))))])) t → Steps p.tables e below (s₁.setTop (entryFrame m #[(.int p0), (.int p1), (.int p2), (.int p3)] maxLocals)) t := fun t kt => pre98 t (by
          show Steps p.tables e below (T97.setTop (mkF m 134 #[.val (.int p0), .val (.int p1), .val (.int p2), .val (.int p3), .val (.int (p0.toUInt32.toUInt16.toUInt32.toInt32)), .val (.ref b1), .val (.ref b81), .val (.int (e0_1 p3)), .val (.int (e0_2 p3)), .unset] [(.int (f7 (p0.toUInt32.toUInt16.toUInt32.toInt32) (0 : Int32) (e0_1 p3) (e0_2 p3) (own_upd (own_upd (own_upd (own_upd (fun _ => 0) 0 (nar .char (j0_12_S0 p0 p1 p3))) 1 (nar .char (j0_29_S0 p0 p1 p3))) 2 (nar .char (j0_49_S0 p0 p2 p3))) 3 (nar .char (j0_66_S0 p0 p2 p3)))))])) _
          refine XS.ifYes X97.here hx rfl (pc0 := 134) (pc' := 143) rfl (hb hby at_134) rfl ((if0 _ _).trans (teq hc134_99).1) (by decide) (by decide) ?_
          show Steps p.tables e below (T97.setTop (mkF m 143 #[.val (.int p0), .val (.int p1), .val (.int p2), .val (.int p3), .val (.int (p0.toUInt32.toUInt16.toUInt32.toInt32)), .val (.ref b1), .val (.ref b81), .val (.int (e0_1 p3)), .val (.int (e0_2 p3)), .unset] [])) _
          refine XS.aload X97.here hx rfl (hb hby at_143) rfl rfl ?_
          show Steps p.tables e below (T97.setTop (mkF m 145 #[.val (.int p0), .val (.int p1), .val (.int p2), .val (.int p3), .val (.int (p0.toUInt32.toUInt16.toUInt32.toInt32)), .val (.ref b1), .val (.ref b81), .val (.int (e0_1 p3)), .val (.int (e0_2 p3)), .unset] [(.ref b1)])) _
          refine XS.iload X97.here hx rfl (hb hby at_145) rfl ?_
          show Steps p.tables e below (T97.setTop (mkF m 147 #[.val (.int p0), .val (.int p1), .val (.int p2), .val (.int p3), .val (.int (p0.toUInt32.toUInt16.toUInt32.toInt32)), .val (.ref b1), .val (.ref b81), .val (.int (e0_1 p3)), .val (.int (e0_2 p3)), .unset] [(.int (p0.toUInt32.toUInt16.toUInt32.toInt32)), (.ref b1)])) _
          refine XS.iconst X97.here hx rfl (hb hby at_147) ?_
          show Steps p.tables e below (T97.setTop (mkF m 148 #[.val (.int p0), .val (.int p1), .val (.int p2), .val (.int p3), .val (.int (p0.toUInt32.toUInt16.toUInt32.toInt32)), .val (.ref b1), .val (.ref b81), .val (.int (e0_1 p3)), .val (.int (e0_2 p3)), .unset] [(.int (1 : Int32)), (.int (p0.toUInt32.toUInt16.toUInt32.toInt32)), (.ref b1)])) _
          refine XS.iload X97.here hx rfl (hb hby at_148) rfl ?_
          show Steps p.tables e below (T97.setTop (mkF m 150 #[.val (.int p0), .val (.int p1), .val (.int p2), .val (.int p3), .val (.int (p0.toUInt32.toUInt16.toUInt32.toInt32)), .val (.ref b1), .val (.ref b81), .val (.int (e0_1 p3)), .val (.int (e0_2 p3)), .unset] [(.int (e0_1 p3)), (.int (1 : Int32)), (.int (p0.toUInt32.toUInt16.toUInt32.toInt32)), (.ref b1)])) _
          refine XS.iload X97.here hx rfl (hb hby at_150) rfl ?_
          show Steps p.tables e below (T97.setTop (mkF m 152 #[.val (.int p0), .val (.int p1), .val (.int p2), .val (.int p3), .val (.int (p0.toUInt32.toUInt16.toUInt32.toInt32)), .val (.ref b1), .val (.ref b81), .val (.int (e0_1 p3)), .val (.int (e0_2 p3)), .unset] [(.int (e0_2 p3)), (.int (e0_1 p3)), (.int (1 : Int32)), (.int (p0.toUInt32.toUInt16.toUInt32.toInt32)), (.ref b1)])) _
          refine st100 _ ?_
          exact kt)
      by_cases hc155_102 : (f7 (p0.toUInt32.toUInt16.toUInt32.toInt32) (1 : Int32) (e0_1 p3) (e0_2 p3) (own_upd (own_upd (own_upd (own_upd (fun _ => 0) 0 (nar .char (j0_12_S0 p0 p1 p3))) 1 (nar .char (j0_29_S0 p0 p1 p3))) 2 (nar .char (j0_49_S0 p0 p2 p3))) 3 (nar .char (j0_66_S0 p0 p2 p3)))) = (0 : Int32)
      · obtain ⟨_, _, ⟨T103, L103, k103, n103⟩, -, X103, ⟨Lc103, hQ103, l103, y103, z103⟩, st103⟩ := Jvm.LawKit.callS X100 hx (y := (⟨"com/example/corvid/corvid/internal/StringEscapesIndexOfPinLaw", "hit", "([CCIII)Z"⟩ : MethodName)) hown (mvT hZ (hw _ (List.mem_of_getElem? (i := 30) rfl))) (mvT hZ (hw _ (List.mem_of_getElem? (i := 31) rfl))) (mvT hZ (hw _ (List.mem_of_getElem? (i := 32) rfl))) (mvT hZ (hw _ (List.mem_of_getElem? (i := 33) rfl))) (by decide) (backOf (W := 0) (rm7 l Z a0 hw [] b1 (p0.toUInt32.toUInt16.toUInt32.toInt32) (2 : Int32) (e0_1 p3) (e0_2 p3) (own_upd (own_upd (own_upd (own_upd (fun _ => 0) 0 (nar .char (j0_12_S0 p0 p1 p3))) 1 (nar .char (j0_29_S0 p0 p1 p3))) 2 (nar .char (j0_49_S0 p0 p2 p3))) 3 (nar .char (j0_66_S0 p0 p2 p3))) T84.heap n0 Z96 ((V33.ext E81).keep K84q (ninS ne_b1_b81 nin0)) (⟨by decide, by decide⟩)) hZ (hw _ (List.mem_of_getElem? (i := 33) rfl)) (hw _ (List.mem_of_getElem? (i := 32) rfl)) (by decide) (by decide)) (g := (mkF m 173 #[.val (.int p0), .val (.int p1), .val (.int p2), .val (.int p3), .val (.int (p0.toUInt32.toUInt16.toUInt32.toInt32)), .val (.ref b1), .val (.ref b81), .val (.int (e0_1 p3)), .val (.int (e0_2 p3)), .unset] [(.int (e0_2 p3)), (.int (e0_1 p3)), (.int (2 : Int32)), (.int (p0.toUInt32.toUInt16.toUInt32.toInt32)), (.ref b1)])) rfl (by rw [hml]; rfl) (argsL := [(.ref b1), (.int (p0.toUInt32.toUInt16.toUInt32.toInt32)), (.int (2 : Int32)), (.int (e0_1 p3)), (.int (e0_2 p3))]) (rest := []) (lenOf pd_0_1 rfl) rfl (by show 2 * 0 + _ ≤ _; exact Nat.le_of_eq rfl) (hb hby at_173) (fun _ _ => ⟨rfl, e100q, (by decide : 4 + 0 ≤ _), (by decide : 20 + 0 ≤ _)⟩)
        dsimp only [Pt.U, Pt.locs, Pt.cells, Pt.slots] at X103 l103 y103 z103 st103 hQ103
        subst l103 y103 z103
        obtain ⟨rfl, N103q, e103q⟩ := hQ103
        have N103 := Fr.app N100 N103q
        have pre104 : ∀ t, Steps p.tables e below (T103.setTop (mkF m 176 #[.val (.int p0), .val (.int p1), .val (.int p2), .val (.int p3), .val (.int (p0.toUInt32.toUInt16.toUInt32.toInt32)), .val (.ref b1), .val (.ref b81), .val (.int (e0_1 p3)), .val (.int (e0_2 p3)), .unset] [(.int (f7 (p0.toUInt32.toUInt16.toUInt32.toInt32) (2 : Int32) (e0_1 p3) (e0_2 p3) (own_upd (own_upd (own_upd (own_upd (fun _ => 0) 0 (nar .char (j0_12_S0 p0 p1 p3))) 1 (nar .char (j0_29_S0 p0 p1 p3))) 2 (nar .char (j0_49_S0 p0 p2 p3))) 3 (nar .char (j0_66_S0 p0 p2 p3)))))])) t → Steps p.tables e below (s₁.setTop (entryFrame m #[(.int p0), (.int p1), (.int p2), (.int p3)] maxLocals)) t := fun t kt => pre101 t (by
            show Steps p.tables e below (T100.setTop (mkF m 155 #[.val (.int p0), .val (.int p1), .val (.int p2), .val (.int p3), .val (.int (p0.toUInt32.toUInt16.toUInt32.toInt32)), .val (.ref b1), .val (.ref b81), .val (.int (e0_1 p3)), .val (.int (e0_2 p3)), .unset] [(.int (f7 (p0.toUInt32.toUInt16.toUInt32.toInt32) (1 : Int32) (e0_1 p3) (e0_2 p3) (own_upd (own_upd (own_upd (own_upd (fun _ => 0) 0 (nar .char (j0_12_S0 p0 p1 p3))) 1 (nar .char (j0_29_S0 p0 p1 p3))) 2 (nar .char (j0_49_S0 p0 p2 p3))) 3 (nar .char (j0_66_S0 p0 p2 p3)))))])) _
            refine XS.ifYes X100.here hx rfl (pc0 := 155) (pc' := 164) rfl (hb hby at_155) rfl ((if0 _ _).trans (teq hc155_102).1) (by decide) (by decide) ?_
            show Steps p.tables e below (T100.setTop (mkF m 164 #[.val (.int p0), .val (.int p1), .val (.int p2), .val (.int p3), .val (.int (p0.toUInt32.toUInt16.toUInt32.toInt32)), .val (.ref b1), .val (.ref b81), .val (.int (e0_1 p3)), .val (.int (e0_2 p3)), .unset] [])) _
            refine XS.aload X100.here hx rfl (hb hby at_164) rfl rfl ?_
            show Steps p.tables e below (T100.setTop (mkF m 166 #[.val (.int p0), .val (.int p1), .val (.int p2), .val (.int p3), .val (.int (p0.toUInt32.toUInt16.toUInt32.toInt32)), .val (.ref b1), .val (.ref b81), .val (.int (e0_1 p3)), .val (.int (e0_2 p3)), .unset] [(.ref b1)])) _
            refine XS.iload X100.here hx rfl (hb hby at_166) rfl ?_
            show Steps p.tables e below (T100.setTop (mkF m 168 #[.val (.int p0), .val (.int p1), .val (.int p2), .val (.int p3), .val (.int (p0.toUInt32.toUInt16.toUInt32.toInt32)), .val (.ref b1), .val (.ref b81), .val (.int (e0_1 p3)), .val (.int (e0_2 p3)), .unset] [(.int (p0.toUInt32.toUInt16.toUInt32.toInt32)), (.ref b1)])) _
            refine XS.iconst X100.here hx rfl (hb hby at_168) ?_
            show Steps p.tables e below (T100.setTop (mkF m 169 #[.val (.int p0), .val (.int p1), .val (.int p2), .val (.int p3), .val (.int (p0.toUInt32.toUInt16.toUInt32.toInt32)), .val (.ref b1), .val (.ref b81), .val (.int (e0_1 p3)), .val (.int (e0_2 p3)), .unset] [(.int (2 : Int32)), (.int (p0.toUInt32.toUInt16.toUInt32.toInt32)), (.ref b1)])) _
            refine XS.iload X100.here hx rfl (hb hby at_169) rfl ?_
            show Steps p.tables e below (T100.setTop (mkF m 171 #[.val (.int p0), .val (.int p1), .val (.int p2), .val (.int p3), .val (.int (p0.toUInt32.toUInt16.toUInt32.toInt32)), .val (.ref b1), .val (.ref b81), .val (.int (e0_1 p3)), .val (.int (e0_2 p3)), .unset] [(.int (e0_1 p3)), (.int (2 : Int32)), (.int (p0.toUInt32.toUInt16.toUInt32.toInt32)), (.ref b1)])) _
            refine XS.iload X100.here hx rfl (hb hby at_171) rfl ?_
            show Steps p.tables e below (T100.setTop (mkF m 173 #[.val (.int p0), .val (.int p1), .val (.int p2), .val (.int p3), .val (.int (p0.toUInt32.toUInt16.toUInt32.toInt32)), .val (.ref b1), .val (.ref b81), .val (.int (e0_1 p3)), .val (.int (e0_2 p3)), .unset] [(.int (e0_2 p3)), (.int (e0_1 p3)), (.int (2 : Int32)), (.int (p0.toUInt32.toUInt16.toUInt32.toInt32)), (.ref b1)])) _
            refine st103 _ ?_
            exact kt)
        by_cases hc176_105 : (f7 (p0.toUInt32.toUInt16.toUInt32.toInt32) (2 : Int32) (e0_1 p3) (e0_2 p3) (own_upd (own_upd (own_upd (own_upd (fun _ => 0) 0 (nar .char (j0_12_S0 p0 p1 p3))) 1 (nar .char (j0_29_S0 p0 p1 p3))) 2 (nar .char (j0_49_S0 p0 p2 p3))) 3 (nar .char (j0_66_S0 p0 p2 p3)))) = (0 : Int32)
        · obtain ⟨_, _, ⟨T106, L106, k106, n106⟩, -, X106, ⟨Lc106, hQ106, l106, y106, z106⟩, st106⟩ := Jvm.LawKit.callS X103 hx (y := (⟨"com/example/corvid/corvid/internal/StringEscapesIndexOfPinLaw", "hit", "([CCIII)Z"⟩ : MethodName)) hown (mvT hZ (hw _ (List.mem_of_getElem? (i := 30) rfl))) (mvT hZ (hw _ (List.mem_of_getElem? (i := 31) rfl))) (mvT hZ (hw _ (List.mem_of_getElem? (i := 32) rfl))) (mvT hZ (hw _ (List.mem_of_getElem? (i := 33) rfl))) (by decide) (backOf (W := 0) (rm7 l Z a0 hw [] b1 (p0.toUInt32.toUInt16.toUInt32.toInt32) (3 : Int32) (e0_1 p3) (e0_2 p3) (own_upd (own_upd (own_upd (own_upd (fun _ => 0) 0 (nar .char (j0_12_S0 p0 p1 p3))) 1 (nar .char (j0_29_S0 p0 p1 p3))) 2 (nar .char (j0_49_S0 p0 p2 p3))) 3 (nar .char (j0_66_S0 p0 p2 p3))) T84.heap n0 Z96 ((V33.ext E81).keep K84q (ninS ne_b1_b81 nin0)) (⟨by decide, by decide⟩)) hZ (hw _ (List.mem_of_getElem? (i := 33) rfl)) (hw _ (List.mem_of_getElem? (i := 32) rfl)) (by decide) (by decide)) (g := (mkF m 194 #[.val (.int p0), .val (.int p1), .val (.int p2), .val (.int p3), .val (.int (p0.toUInt32.toUInt16.toUInt32.toInt32)), .val (.ref b1), .val (.ref b81), .val (.int (e0_1 p3)), .val (.int (e0_2 p3)), .unset] [(.int (e0_2 p3)), (.int (e0_1 p3)), (.int (3 : Int32)), (.int (p0.toUInt32.toUInt16.toUInt32.toInt32)), (.ref b1)])) rfl (by rw [hml]; rfl) (argsL := [(.ref b1), (.int (p0.toUInt32.toUInt16.toUInt32.toInt32)), (.int (3 : Int32)), (.int (e0_1 p3)), (.int (e0_2 p3))]) (rest := []) (lenOf pd_0_1 rfl) rfl (by show 2 * 0 + _ ≤ _; exact Nat.le_of_eq rfl) (hb hby at_194) (fun _ _ => ⟨rfl, e103q, (by decide : 4 + 0 ≤ _), (by decide : 20 + 0 ≤ _)⟩)
          dsimp only [Pt.U, Pt.locs, Pt.cells, Pt.slots] at X106 l106 y106 z106 st106 hQ106
          subst l106 y106 z106
          obtain ⟨rfl, N106q, e106q⟩ := hQ106
          have N106 := Fr.app N103 N106q
          have pre107 : ∀ t, Steps p.tables e below (T106.setTop (mkF m 197 #[.val (.int p0), .val (.int p1), .val (.int p2), .val (.int p3), .val (.int (p0.toUInt32.toUInt16.toUInt32.toInt32)), .val (.ref b1), .val (.ref b81), .val (.int (e0_1 p3)), .val (.int (e0_2 p3)), .unset] [(.int (f7 (p0.toUInt32.toUInt16.toUInt32.toInt32) (3 : Int32) (e0_1 p3) (e0_2 p3) (own_upd (own_upd (own_upd (own_upd (fun _ => 0) 0 (nar .char (j0_12_S0 p0 p1 p3))) 1 (nar .char (j0_29_S0 p0 p1 p3))) 2 (nar .char (j0_49_S0 p0 p2 p3))) 3 (nar .char (j0_66_S0 p0 p2 p3)))))])) t → Steps p.tables e below (s₁.setTop (entryFrame m #[(.int p0), (.int p1), (.int p2), (.int p3)] maxLocals)) t := fun t kt => pre104 t (by
              show Steps p.tables e below (T103.setTop (mkF m 176 #[.val (.int p0), .val (.int p1), .val (.int p2), .val (.int p3), .val (.int (p0.toUInt32.toUInt16.toUInt32.toInt32)), .val (.ref b1), .val (.ref b81), .val (.int (e0_1 p3)), .val (.int (e0_2 p3)), .unset] [(.int (f7 (p0.toUInt32.toUInt16.toUInt32.toInt32) (2 : Int32) (e0_1 p3) (e0_2 p3) (own_upd (own_upd (own_upd (own_upd (fun _ => 0) 0 (nar .char (j0_12_S0 p0 p1 p3))) 1 (nar .char (j0_29_S0 p0 p1 p3))) 2 (nar .char (j0_49_S0 p0 p2 p3))) 3 (nar .char (j0_66_S0 p0 p2 p3)))))])) _
              refine XS.ifYes X103.here hx rfl (pc0 := 176) (pc' := 185) rfl (hb hby at_176) rfl ((if0 _ _).trans (teq hc176_105).1) (by decide) (by decide) ?_
              show Steps p.tables e below (T103.setTop (mkF m 185 #[.val (.int p0), .val (.int p1), .val (.int p2), .val (.int p3), .val (.int (p0.toUInt32.toUInt16.toUInt32.toInt32)), .val (.ref b1), .val (.ref b81), .val (.int (e0_1 p3)), .val (.int (e0_2 p3)), .unset] [])) _
              refine XS.aload X103.here hx rfl (hb hby at_185) rfl rfl ?_
              show Steps p.tables e below (T103.setTop (mkF m 187 #[.val (.int p0), .val (.int p1), .val (.int p2), .val (.int p3), .val (.int (p0.toUInt32.toUInt16.toUInt32.toInt32)), .val (.ref b1), .val (.ref b81), .val (.int (e0_1 p3)), .val (.int (e0_2 p3)), .unset] [(.ref b1)])) _
              refine XS.iload X103.here hx rfl (hb hby at_187) rfl ?_
              show Steps p.tables e below (T103.setTop (mkF m 189 #[.val (.int p0), .val (.int p1), .val (.int p2), .val (.int p3), .val (.int (p0.toUInt32.toUInt16.toUInt32.toInt32)), .val (.ref b1), .val (.ref b81), .val (.int (e0_1 p3)), .val (.int (e0_2 p3)), .unset] [(.int (p0.toUInt32.toUInt16.toUInt32.toInt32)), (.ref b1)])) _
              refine XS.iconst X103.here hx rfl (hb hby at_189) ?_
              show Steps p.tables e below (T103.setTop (mkF m 190 #[.val (.int p0), .val (.int p1), .val (.int p2), .val (.int p3), .val (.int (p0.toUInt32.toUInt16.toUInt32.toInt32)), .val (.ref b1), .val (.ref b81), .val (.int (e0_1 p3)), .val (.int (e0_2 p3)), .unset] [(.int (3 : Int32)), (.int (p0.toUInt32.toUInt16.toUInt32.toInt32)), (.ref b1)])) _
              refine XS.iload X103.here hx rfl (hb hby at_190) rfl ?_
              show Steps p.tables e below (T103.setTop (mkF m 192 #[.val (.int p0), .val (.int p1), .val (.int p2), .val (.int p3), .val (.int (p0.toUInt32.toUInt16.toUInt32.toInt32)), .val (.ref b1), .val (.ref b81), .val (.int (e0_1 p3)), .val (.int (e0_2 p3)), .unset] [(.int (e0_1 p3)), (.int (3 : Int32)), (.int (p0.toUInt32.toUInt16.toUInt32.toInt32)), (.ref b1)])) _
              refine XS.iload X103.here hx rfl (hb hby at_192) rfl ?_
              show Steps p.tables e below (T103.setTop (mkF m 194 #[.val (.int p0), .val (.int p1), .val (.int p2), .val (.int p3), .val (.int (p0.toUInt32.toUInt16.toUInt32.toInt32)), .val (.ref b1), .val (.ref b81), .val (.int (e0_1 p3)), .val (.int (e0_2 p3)), .unset] [(.int (e0_2 p3)), (.int (e0_1 p3)), (.int (3 : Int32)), (.int (p0.toUInt32.toUInt16.toUInt32.toInt32)), (.ref b1)])) _
              refine st106 _ ?_
              exact kt)
          by_cases hc197_108 : (f7 (p0.toUInt32.toUInt16.toUInt32.toInt32) (3 : Int32) (e0_1 p3) (e0_2 p3) (own_upd (own_upd (own_upd (own_upd (fun _ => 0) 0 (nar .char (j0_12_S0 p0 p1 p3))) 1 (nar .char (j0_29_S0 p0 p1 p3))) 2 (nar .char (j0_49_S0 p0 p2 p3))) 3 (nar .char (j0_66_S0 p0 p2 p3)))) = (0 : Int32)
          · obtain ⟨_, _, ⟨T109, L109, k109, n109⟩, -, X109, ⟨Lc109, hQ109, l109, y109, z109⟩, st109⟩ := Jvm.LawKit.callS X106 hx (y := (⟨"com/example/corvid/corvid/internal/StringEscapes", "indexOf", "(Ljava/lang/String;CII)I"⟩ : MethodName)) hown (mvT hZ (hw _ (List.mem_of_getElem? (i := 34) rfl))) (mvT hZ (hw _ (List.mem_of_getElem? (i := 35) rfl))) (mvT hZ (hw _ (List.mem_of_getElem? (i := 36) rfl))) (mvT hZ (hw _ (List.mem_of_getElem? (i := 37) rfl))) (by decide) (backOf (W := 0) (rm8u l Z a0 hw [] b81 (p0.toUInt32.toUInt16.toUInt32.toInt32) (e0_1 p3) (e0_2 p3) cs r_o0_value_84 (f18_r_a (own_upd (own_upd (own_upd (own_upd (fun _ => 0) 0 (nar .char (j0_12_S0 p0 p1 p3))) 1 (nar .char (j0_29_S0 p0 p1 p3))) 2 (nar .char (j0_49_S0 p0 p2 p3))) 3 (nar .char (j0_66_S0 p0 p2 p3)))) fm T84.heap n0 Z96 S90 (hcs) G84_0 G84_1 G84_2 (E_b81.keep K84q) S91 S92 S93 S94 (hfm) (own_c1 p0) (own_fr p3)) hZ (hw _ (List.mem_of_getElem? (i := 37) rfl)) (hw _ (List.mem_of_getElem? (i := 36) rfl)) (by decide) (by decide)) (g := (mkF m 218 #[.val (.int p0), .val (.int p1), .val (.int p2), .val (.int p3), .val (.int (p0.toUInt32.toUInt16.toUInt32.toInt32)), .val (.ref b1), .val (.ref b81), .val (.int (e0_1 p3)), .val (.int (e0_2 p3)), .val (.int (e0_2 p3))] [(.int (e0_2 p3)), (.int (e0_1 p3)), (.int (p0.toUInt32.toUInt16.toUInt32.toInt32)), (.ref b81)])) rfl (by rw [hml]; rfl) (argsL := [(.ref b81), (.int (p0.toUInt32.toUInt16.toUInt32.toInt32)), (.int (e0_1 p3)), (.int (e0_2 p3))]) (rest := []) (lenOf pd_0_2 rfl) rfl (by show 2 * 0 + _ ≤ _; exact Nat.le_of_eq rfl) (hb hby at_218) (fun _ _ => ⟨rfl, e106q, (by decide : 4 + 0 ≤ _), (by decide : 20 + 0 ≤ _)⟩)
            dsimp only [Pt.U, Pt.locs, Pt.cells, Pt.slots] at X109 l109 y109 z109 st109 hQ109
            subst l109 y109 z109
            obtain ⟨rfl, N109q, e109q⟩ := hQ109
            have N109 := Fr.app N106 N109q
            have pre110 : ∀ t, Steps p.tables e below (T109.setTop (mkF m 223 #[.val (.int p0), .val (.int p1), .val (.int p2), .val (.int p3), .val (.int (p0.toUInt32.toUInt16.toUInt32.toInt32)), .val (.ref b1), .val (.ref b81), .val (.int (e0_1 p3)), .val (.int (e0_2 p3)), .val (.int (e0_2 p3))] [(.int (e0_2 p3)), (.int (f8u (p0.toUInt32.toUInt16.toUInt32.toInt32) (e0_1 p3) (e0_2 p3) (f18_r_a (own_upd (own_upd (own_upd (own_upd (fun _ => 0) 0 (nar .char (j0_12_S0 p0 p1 p3))) 1 (nar .char (j0_29_S0 p0 p1 p3))) 2 (nar .char (j0_49_S0 p0 p2 p3))) 3 (nar .char (j0_66_S0 p0 p2 p3))))))])) t → Steps p.tables e below (s₁.setTop (entryFrame m #[(.int p0), (.int p1), (.int p2), (.int p3)] maxLocals)) t := fun t kt => pre107 t (by
                show Steps p.tables e below (T106.setTop (mkF m 197 #[.val (.int p0), .val (.int p1), .val (.int p2), .val (.int p3), .val (.int (p0.toUInt32.toUInt16.toUInt32.toInt32)), .val (.ref b1), .val (.ref b81), .val (.int (e0_1 p3)), .val (.int (e0_2 p3)), .unset] [(.int (f7 (p0.toUInt32.toUInt16.toUInt32.toInt32) (3 : Int32) (e0_1 p3) (e0_2 p3) (own_upd (own_upd (own_upd (own_upd (fun _ => 0) 0 (nar .char (j0_12_S0 p0 p1 p3))) 1 (nar .char (j0_29_S0 p0 p1 p3))) 2 (nar .char (j0_49_S0 p0 p2 p3))) 3 (nar .char (j0_66_S0 p0 p2 p3)))))])) _
                refine XS.ifYes X106.here hx rfl (pc0 := 197) (pc' := 206) rfl (hb hby at_197) rfl ((if0 _ _).trans (teq hc197_108).1) (by decide) (by decide) ?_
                show Steps p.tables e below (T106.setTop (mkF m 206 #[.val (.int p0), .val (.int p1), .val (.int p2), .val (.int p3), .val (.int (p0.toUInt32.toUInt16.toUInt32.toInt32)), .val (.ref b1), .val (.ref b81), .val (.int (e0_1 p3)), .val (.int (e0_2 p3)), .unset] [])) _
                refine XS.iload X106.here hx rfl (hb hby at_206) rfl ?_
                show Steps p.tables e below (T106.setTop (mkF m 208 #[.val (.int p0), .val (.int p1), .val (.int p2), .val (.int p3), .val (.int (p0.toUInt32.toUInt16.toUInt32.toInt32)), .val (.ref b1), .val (.ref b81), .val (.int (e0_1 p3)), .val (.int (e0_2 p3)), .unset] [(.int (e0_2 p3))])) _
                refine XS.istore X106.here hx rfl (hb hby at_208) rfl (l' := #[.val (.int p0), .val (.int p1), .val (.int p2), .val (.int p3), .val (.int (p0.toUInt32.toUInt16.toUInt32.toInt32)), .val (.ref b1), .val (.ref b81), .val (.int (e0_1 p3)), .val (.int (e0_2 p3)), .val (.int (e0_2 p3))]) rfl ?_
                show Steps p.tables e below (T106.setTop (mkF m 210 #[.val (.int p0), .val (.int p1), .val (.int p2), .val (.int p3), .val (.int (p0.toUInt32.toUInt16.toUInt32.toInt32)), .val (.ref b1), .val (.ref b81), .val (.int (e0_1 p3)), .val (.int (e0_2 p3)), .val (.int (e0_2 p3))] [])) _
                refine XS.aload X106.here hx rfl (hb hby at_210) rfl rfl ?_
                show Steps p.tables e below (T106.setTop (mkF m 212 #[.val (.int p0), .val (.int p1), .val (.int p2), .val (.int p3), .val (.int (p0.toUInt32.toUInt16.toUInt32.toInt32)), .val (.ref b1), .val (.ref b81), .val (.int (e0_1 p3)), .val (.int (e0_2 p3)), .val (.int (e0_2 p3))] [(.ref b81)])) _
                refine XS.iload X106.here hx rfl (hb hby at_212) rfl ?_
                show Steps p.tables e below (T106.setTop (mkF m 214 #[.val (.int p0), .val (.int p1), .val (.int p2), .val (.int p3), .val (.int (p0.toUInt32.toUInt16.toUInt32.toInt32)), .val (.ref b1), .val (.ref b81), .val (.int (e0_1 p3)), .val (.int (e0_2 p3)), .val (.int (e0_2 p3))] [(.int (p0.toUInt32.toUInt16.toUInt32.toInt32)), (.ref b81)])) _
                refine XS.iload X106.here hx rfl (hb hby at_214) rfl ?_
                show Steps p.tables e below (T106.setTop (mkF m 216 #[.val (.int p0), .val (.int p1), .val (.int p2), .val (.int p3), .val (.int (p0.toUInt32.toUInt16.toUInt32.toInt32)), .val (.ref b1), .val (.ref b81), .val (.int (e0_1 p3)), .val (.int (e0_2 p3)), .val (.int (e0_2 p3))] [(.int (e0_1 p3)), (.int (p0.toUInt32.toUInt16.toUInt32.toInt32)), (.ref b81)])) _
                refine XS.iload X106.here hx rfl (hb hby at_216) rfl ?_
                show Steps p.tables e below (T106.setTop (mkF m 218 #[.val (.int p0), .val (.int p1), .val (.int p2), .val (.int p3), .val (.int (p0.toUInt32.toUInt16.toUInt32.toInt32)), .val (.ref b1), .val (.ref b81), .val (.int (e0_1 p3)), .val (.int (e0_2 p3)), .val (.int (e0_2 p3))] [(.int (e0_2 p3)), (.int (e0_1 p3)), (.int (p0.toUInt32.toUInt16.toUInt32.toInt32)), (.ref b81)])) _
                refine st109 _ ?_
                show Steps p.tables e below (T109.setTop (mkF m 221 #[.val (.int p0), .val (.int p1), .val (.int p2), .val (.int p3), .val (.int (p0.toUInt32.toUInt16.toUInt32.toInt32)), .val (.ref b1), .val (.ref b81), .val (.int (e0_1 p3)), .val (.int (e0_2 p3)), .val (.int (e0_2 p3))] [(.int (f8u (p0.toUInt32.toUInt16.toUInt32.toInt32) (e0_1 p3) (e0_2 p3) (f18_r_a (own_upd (own_upd (own_upd (own_upd (fun _ => 0) 0 (nar .char (j0_12_S0 p0 p1 p3))) 1 (nar .char (j0_29_S0 p0 p1 p3))) 2 (nar .char (j0_49_S0 p0 p2 p3))) 3 (nar .char (j0_66_S0 p0 p2 p3))))))])) _
                refine XS.iload X109.here hx rfl (hb hby at_221) rfl ?_
                exact kt)
            have hd223_111 : (f8u (p0.toUInt32.toUInt16.toUInt32.toInt32) (e0_1 p3) (e0_2 p3) (f18_r_a (own_upd (own_upd (own_upd (own_upd (fun _ => 0) 0 (nar .char (j0_12_S0 p0 p1 p3))) 1 (nar .char (j0_29_S0 p0 p1 p3))) 2 (nar .char (j0_49_S0 p0 p2 p3))) 3 (nar .char (j0_66_S0 p0 p2 p3))))) = (e0_2 p3) := (own_law_u _ (own_ch0 _ _ _ _) p0 p3).trans (by rw [if_pos hc134_99, if_pos hc155_102, if_pos hc176_105, if_pos hc197_108])
            obtain ⟨fs, hr, hrun, hended, hW, hsame⟩ := X109.leave (v := some (.int (1 : Int32))) (fun h => by rw [Bd.returns] at h; cases h)
            have hv129 : (1 : Int32) = (1 : Int32) := rfl
            refine ⟨_, _, pre110 _ ?_, hrun, hended, _, _, rfl, ?_, ⟨_, rfl⟩, hW, hsame.mono (by decide) (by decide)⟩
            · show Steps p.tables e below (T109.setTop (mkF m 223 #[.val (.int p0), .val (.int p1), .val (.int p2), .val (.int p3), .val (.int (p0.toUInt32.toUInt16.toUInt32.toInt32)), .val (.ref b1), .val (.ref b81), .val (.int (e0_1 p3)), .val (.int (e0_2 p3)), .val (.int (e0_2 p3))] [(.int (e0_2 p3)), (.int (f8u (p0.toUInt32.toUInt16.toUInt32.toInt32) (e0_1 p3) (e0_2 p3) (f18_r_a (own_upd (own_upd (own_upd (own_upd (fun _ => 0) 0 (nar .char (j0_12_S0 p0 p1 p3))) 1 (nar .char (j0_29_S0 p0 p1 p3))) 2 (nar .char (j0_49_S0 p0 p2 p3))) 3 (nar .char (j0_66_S0 p0 p2 p3))))))])) _
              refine XS.icmpNo X109.here hx rfl (hb hby at_223) rfl (teq hd223_111).2 ?_
              show Steps p.tables e below (T109.setTop (mkF m 226 #[.val (.int p0), .val (.int p1), .val (.int p2), .val (.int p3), .val (.int (p0.toUInt32.toUInt16.toUInt32.toInt32)), .val (.ref b1), .val (.ref b81), .val (.int (e0_1 p3)), .val (.int (e0_2 p3)), .val (.int (e0_2 p3))] [])) _
              refine XS.iconst X109.here hx rfl (hb hby at_226) ?_
              show Steps p.tables e below (T109.setTop (mkF m 227 #[.val (.int p0), .val (.int p1), .val (.int p2), .val (.int p3), .val (.int (p0.toUInt32.toUInt16.toUInt32.toInt32)), .val (.ref b1), .val (.ref b81), .val (.int (e0_1 p3)), .val (.int (e0_2 p3)), .val (.int (e0_2 p3))] [(.int (1 : Int32))])) _
              refine XS.goto X109.here hx rfl (pc0 := 227) (pc' := 231) rfl (hb hby at_227) (by decide) (by decide) ?_
              show Steps p.tables e below (T109.setTop (mkF m 231 #[.val (.int p0), .val (.int p1), .val (.int p2), .val (.int p3), .val (.int (p0.toUInt32.toUInt16.toUInt32.toInt32)), .val (.ref b1), .val (.ref b81), .val (.int (e0_1 p3)), .val (.int (e0_2 p3)), .val (.int (e0_2 p3))] [(.int (1 : Int32))])) _
              exact retN X109 hx (t := .boolean) Bd.returns (by simp) (hb hby at_231) hr
            · show Q0 Z p0 p1 p2 p3 cs fm h0 n0 _ T109.heap _
              rw [e109q]
              exact ⟨congrArg (fun q => some (Value.int q)) hv129, N109⟩
          · obtain ⟨_, _, ⟨T112, L112, k112, n112⟩, -, X112, ⟨Lc112, hQ112, l112, y112, z112⟩, st112⟩ := Jvm.LawKit.callS X106 hx (y := (⟨"com/example/corvid/corvid/internal/StringEscapes", "indexOf", "(Ljava/lang/String;CII)I"⟩ : MethodName)) hown (mvT hZ (hw _ (List.mem_of_getElem? (i := 34) rfl))) (mvT hZ (hw _ (List.mem_of_getElem? (i := 35) rfl))) (mvT hZ (hw _ (List.mem_of_getElem? (i := 36) rfl))) (mvT hZ (hw _ (List.mem_of_getElem? (i := 37) rfl))) (by decide) (backOf (W := 0) (rm8u l Z a0 hw [] b81 (p0.toUInt32.toUInt16.toUInt32.toInt32) (e0_1 p3) (e0_2 p3) cs r_o0_value_84 (f18_r_a (own_upd (own_upd (own_upd (own_upd (fun _ => 0) 0 (nar .char (j0_12_S0 p0 p1 p3))) 1 (nar .char (j0_29_S0 p0 p1 p3))) 2 (nar .char (j0_49_S0 p0 p2 p3))) 3 (nar .char (j0_66_S0 p0 p2 p3)))) fm T84.heap n0 Z96 S90 (hcs) G84_0 G84_1 G84_2 (E_b81.keep K84q) S91 S92 S93 S94 (hfm) (own_c1 p0) (own_fr p3)) hZ (hw _ (List.mem_of_getElem? (i := 37) rfl)) (hw _ (List.mem_of_getElem? (i := 36) rfl)) (by decide) (by decide)) (g := (mkF m 218 #[.val (.int p0), .val (.int p1), .val (.int p2), .val (.int p3), .val (.int (p0.toUInt32.toUInt16.toUInt32.toInt32)), .val (.ref b1), .val (.ref b81), .val (.int (e0_1 p3)), .val (.int (e0_2 p3)), .val (.int (3 : Int32))] [(.int (e0_2 p3)), (.int (e0_1 p3)), (.int (p0.toUInt32.toUInt16.toUInt32.toInt32)), (.ref b81)])) rfl (by rw [hml]; rfl) (argsL := [(.ref b81), (.int (p0.toUInt32.toUInt16.toUInt32.toInt32)), (.int (e0_1 p3)), (.int (e0_2 p3))]) (rest := []) (lenOf pd_0_2 rfl) rfl (by show 2 * 0 + _ ≤ _; exact Nat.le_of_eq rfl) (hb hby at_218) (fun _ _ => ⟨rfl, e106q, (by decide : 4 + 0 ≤ _), (by decide : 20 + 0 ≤ _)⟩)
            dsimp only [Pt.U, Pt.locs, Pt.cells, Pt.slots] at X112 l112 y112 z112 st112 hQ112
            subst l112 y112 z112
            obtain ⟨rfl, N112q, e112q⟩ := hQ112
            have N112 := Fr.app N106 N112q
            have pre113 : ∀ t, Steps p.tables e below (T112.setTop (mkF m 223 #[.val (.int p0), .val (.int p1), .val (.int p2), .val (.int p3), .val (.int (p0.toUInt32.toUInt16.toUInt32.toInt32)), .val (.ref b1), .val (.ref b81), .val (.int (e0_1 p3)), .val (.int (e0_2 p3)), .val (.int (3 : Int32))] [(.int (3 : Int32)), (.int (f8u (p0.toUInt32.toUInt16.toUInt32.toInt32) (e0_1 p3) (e0_2 p3) (f18_r_a (own_upd (own_upd (own_upd (own_upd (fun _ => 0) 0 (nar .char (j0_12_S0 p0 p1 p3))) 1 (nar .char (j0_29_S0 p0 p1 p3))) 2 (nar .char (j0_49_S0 p0 p2 p3))) 3 (nar .char (j0_66_S0 p0 p2 p3))))))])) t → Steps p.tables e below (s₁.setTop (entryFrame m #[(.int p0), (.int p1), (.int p2), (.int p3)] maxLocals)) t := fun t kt => pre107 t (by
                show Steps p.tables e below (T106.setTop (mkF m 197 #[.val (.int p0), .val (.int p1), .val (.int p2), .val (.int p3), .val (.int (p0.toUInt32.toUInt16.toUInt32.toInt32)), .val (.ref b1), .val (.ref b81), .val (.int (e0_1 p3)), .val (.int (e0_2 p3)), .unset] [(.int (f7 (p0.toUInt32.toUInt16.toUInt32.toInt32) (3 : Int32) (e0_1 p3) (e0_2 p3) (own_upd (own_upd (own_upd (own_upd (fun _ => 0) 0 (nar .char (j0_12_S0 p0 p1 p3))) 1 (nar .char (j0_29_S0 p0 p1 p3))) 2 (nar .char (j0_49_S0 p0 p2 p3))) 3 (nar .char (j0_66_S0 p0 p2 p3)))))])) _
                refine XS.ifNo X106.here hx rfl (hb hby at_197) rfl ((if0 _ _).trans (feq hc197_108).1) ?_
                show Steps p.tables e below (T106.setTop (mkF m 200 #[.val (.int p0), .val (.int p1), .val (.int p2), .val (.int p3), .val (.int (p0.toUInt32.toUInt16.toUInt32.toInt32)), .val (.ref b1), .val (.ref b81), .val (.int (e0_1 p3)), .val (.int (e0_2 p3)), .unset] [])) _
                refine XS.iconst X106.here hx rfl (hb hby at_200) ?_
                show Steps p.tables e below (T106.setTop (mkF m 201 #[.val (.int p0), .val (.int p1), .val (.int p2), .val (.int p3), .val (.int (p0.toUInt32.toUInt16.toUInt32.toInt32)), .val (.ref b1), .val (.ref b81), .val (.int (e0_1 p3)), .val (.int (e0_2 p3)), .unset] [(.int (3 : Int32))])) _
                refine XS.istore X106.here hx rfl (hb hby at_201) rfl (l' := #[.val (.int p0), .val (.int p1), .val (.int p2), .val (.int p3), .val (.int (p0.toUInt32.toUInt16.toUInt32.toInt32)), .val (.ref b1), .val (.ref b81), .val (.int (e0_1 p3)), .val (.int (e0_2 p3)), .val (.int (3 : Int32))]) rfl ?_
                show Steps p.tables e below (T106.setTop (mkF m 203 #[.val (.int p0), .val (.int p1), .val (.int p2), .val (.int p3), .val (.int (p0.toUInt32.toUInt16.toUInt32.toInt32)), .val (.ref b1), .val (.ref b81), .val (.int (e0_1 p3)), .val (.int (e0_2 p3)), .val (.int (3 : Int32))] [])) _
                refine XS.goto X106.here hx rfl (pc0 := 203) (pc' := 210) rfl (hb hby at_203) (by decide) (by decide) ?_
                show Steps p.tables e below (T106.setTop (mkF m 210 #[.val (.int p0), .val (.int p1), .val (.int p2), .val (.int p3), .val (.int (p0.toUInt32.toUInt16.toUInt32.toInt32)), .val (.ref b1), .val (.ref b81), .val (.int (e0_1 p3)), .val (.int (e0_2 p3)), .val (.int (3 : Int32))] [])) _
                refine XS.aload X106.here hx rfl (hb hby at_210) rfl rfl ?_
                show Steps p.tables e below (T106.setTop (mkF m 212 #[.val (.int p0), .val (.int p1), .val (.int p2), .val (.int p3), .val (.int (p0.toUInt32.toUInt16.toUInt32.toInt32)), .val (.ref b1), .val (.ref b81), .val (.int (e0_1 p3)), .val (.int (e0_2 p3)), .val (.int (3 : Int32))] [(.ref b81)])) _
                refine XS.iload X106.here hx rfl (hb hby at_212) rfl ?_
                show Steps p.tables e below (T106.setTop (mkF m 214 #[.val (.int p0), .val (.int p1), .val (.int p2), .val (.int p3), .val (.int (p0.toUInt32.toUInt16.toUInt32.toInt32)), .val (.ref b1), .val (.ref b81), .val (.int (e0_1 p3)), .val (.int (e0_2 p3)), .val (.int (3 : Int32))] [(.int (p0.toUInt32.toUInt16.toUInt32.toInt32)), (.ref b81)])) _
                refine XS.iload X106.here hx rfl (hb hby at_214) rfl ?_
                show Steps p.tables e below (T106.setTop (mkF m 216 #[.val (.int p0), .val (.int p1), .val (.int p2), .val (.int p3), .val (.int (p0.toUInt32.toUInt16.toUInt32.toInt32)), .val (.ref b1), .val (.ref b81), .val (.int (e0_1 p3)), .val (.int (e0_2 p3)), .val (.int (3 : Int32))] [(.int (e0_1 p3)), (.int (p0.toUInt32.toUInt16.toUInt32.toInt32)), (.ref b81)])) _
                refine XS.iload X106.here hx rfl (hb hby at_216) rfl ?_
                show Steps p.tables e below (T106.setTop (mkF m 218 #[.val (.int p0), .val (.int p1), .val (.int p2), .val (.int p3), .val (.int (p0.toUInt32.toUInt16.toUInt32.toInt32)), .val (.ref b1), .val (.ref b81), .val (.int (e0_1 p3)), .val (.int (e0_2 p3)), .val (.int (3 : Int32))] [(.int (e0_2 p3)), (.int (e0_1 p3)), (.int (p0.toUInt32.toUInt16.toUInt32.toInt32)), (.ref b81)])) _
                refine st112 _ ?_
                show Steps p.tables e below (T112.setTop (mkF m 221 #[.val (.int p0), .val (.int p1), .val (.int p2), .val (.int p3), .val (.int (p0.toUInt32.toUInt16.toUInt32.toInt32)), .val (.ref b1), .val (.ref b81), .val (.int (e0_1 p3)), .val (.int (e0_2 p3)), .val (.int (3 : Int32))] [(.int (f8u (p0.toUInt32.toUInt16.toUInt32.toInt32) (e0_1 p3) (e0_2 p3) (f18_r_a (own_upd (own_upd (own_upd (own_upd (fun _ => 0) 0 (nar .char (j0_12_S0 p0 p1 p3))) 1 (nar .char (j0_29_S0 p0 p1 p3))) 2 (nar .char (j0_49_S0 p0 p2 p3))) 3 (nar .char (j0_66_S0 p0 p2 p3))))))])) _
                refine XS.iload X112.here hx rfl (hb hby at_221) rfl ?_
                exact kt)
            have hd223_114 : (f8u (p0.toUInt32.toUInt16.toUInt32.toInt32) (e0_1 p3) (e0_2 p3) (f18_r_a (own_upd (own_upd (own_upd (own_upd (fun _ => 0) 0 (nar .char (j0_12_S0 p0 p1 p3))) 1 (nar .char (j0_29_S0 p0 p1 p3))) 2 (nar .char (j0_49_S0 p0 p2 p3))) 3 (nar .char (j0_66_S0 p0 p2 p3))))) = (3 : Int32) := (own_law_u _ (own_ch0 _ _ _ _) p0 p3).trans (by rw [if_pos hc134_99, if_pos hc155_102, if_pos hc176_105, if_neg hc197_108])
            obtain ⟨fs, hr, hrun, hended, hW, hsame⟩ := X112.leave (v := some (.int (1 : Int32))) (fun h => by rw [Bd.returns] at h; cases h)
            have hv130 : (1 : Int32) = (1 : Int32) := rfl
            refine ⟨_, _, pre113 _ ?_, hrun, hended, _, _, rfl, ?_, ⟨_, rfl⟩, hW, hsame.mono (by decide) (by decide)⟩
            · show Steps p.tables e below (T112.setTop (mkF m 223 #[.val (.int p0), .val (.int p1), .val (.int p2), .val (.int p3), .val (.int (p0.toUInt32.toUInt16.toUInt32.toInt32)), .val (.ref b1), .val (.ref b81), .val (.int (e0_1 p3)), .val (.int (e0_2 p3)), .val (.int (3 : Int32))] [(.int (3 : Int32)), (.int (f8u (p0.toUInt32.toUInt16.toUInt32.toInt32) (e0_1 p3) (e0_2 p3) (f18_r_a (own_upd (own_upd (own_upd (own_upd (fun _ => 0) 0 (nar .char (j0_12_S0 p0 p1 p3))) 1 (nar .char (j0_29_S0 p0 p1 p3))) 2 (nar .char (j0_49_S0 p0 p2 p3))) 3 (nar .char (j0_66_S0 p0 p2 p3))))))])) _
              refine XS.icmpNo X112.here hx rfl (hb hby at_223) rfl (teq hd223_114).2 ?_
              show Steps p.tables e below (T112.setTop (mkF m 226 #[.val (.int p0), .val (.int p1), .val (.int p2), .val (.int p3), .val (.int (p0.toUInt32.toUInt16.toUInt32.toInt32)), .val (.ref b1), .val (.ref b81), .val (.int (e0_1 p3)), .val (.int (e0_2 p3)), .val (.int (3 : Int32))] [])) _
              refine XS.iconst X112.here hx rfl (hb hby at_226) ?_
              show Steps p.tables e below (T112.setTop (mkF m 227 #[.val (.int p0), .val (.int p1), .val (.int p2), .val (.int p3), .val (.int (p0.toUInt32.toUInt16.toUInt32.toInt32)), .val (.ref b1), .val (.ref b81), .val (.int (e0_1 p3)), .val (.int (e0_2 p3)), .val (.int (3 : Int32))] [(.int (1 : Int32))])) _
              refine XS.goto X112.here hx rfl (pc0 := 227) (pc' := 231) rfl (hb hby at_227) (by decide) (by decide) ?_
              show Steps p.tables e below (T112.setTop (mkF m 231 #[.val (.int p0), .val (.int p1), .val (.int p2), .val (.int p3), .val (.int (p0.toUInt32.toUInt16.toUInt32.toInt32)), .val (.ref b1), .val (.ref b81), .val (.int (e0_1 p3)), .val (.int (e0_2 p3)), .val (.int (3 : Int32))] [(.int (1 : Int32))])) _
              exact retN X112 hx (t := .boolean) Bd.returns (by simp) (hb hby at_231) hr
            · show Q0 Z p0 p1 p2 p3 cs fm h0 n0 _ T112.heap _
              rw [e112q]
              exact ⟨congrArg (fun q => some (Value.int q)) hv130, N112⟩
        · obtain ⟨_, _, ⟨T115, L115, k115, n115⟩, -, X115, ⟨Lc115, hQ115, l115, y115, z115⟩, st115⟩ := Jvm.LawKit.callS X103 hx (y := (⟨"com/example/corvid/corvid/internal/StringEscapes", "indexOf", "(Ljava/lang/String;CII)I"⟩ : MethodName)) hown (mvT hZ (hw _ (List.mem_of_getElem? (i := 34) rfl))) (mvT hZ (hw _ (List.mem_of_getElem? (i := 35) rfl))) (mvT hZ (hw _ (List.mem_of_getElem? (i := 36) rfl))) (mvT hZ (hw _ (List.mem_of_getElem? (i := 37) rfl))) (by decide) (backOf (W := 0) (rm8u l Z a0 hw [] b81 (p0.toUInt32.toUInt16.toUInt32.toInt32) (e0_1 p3) (e0_2 p3) cs r_o0_value_84 (f18_r_a (own_upd (own_upd (own_upd (own_upd (fun _ => 0) 0 (nar .char (j0_12_S0 p0 p1 p3))) 1 (nar .char (j0_29_S0 p0 p1 p3))) 2 (nar .char (j0_49_S0 p0 p2 p3))) 3 (nar .char (j0_66_S0 p0 p2 p3)))) fm T84.heap n0 Z96 S90 (hcs) G84_0 G84_1 G84_2 (E_b81.keep K84q) S91 S92 S93 S94 (hfm) (own_c1 p0) (own_fr p3)) hZ (hw _ (List.mem_of_getElem? (i := 37) rfl)) (hw _ (List.mem_of_getElem? (i := 36) rfl)) (by decide) (by decide)) (g := (mkF m 218 #[.val (.int p0), .val (.int p1), .val (.int p2), .val (.int p3), .val (.int (p0.toUInt32.toUInt16.toUInt32.toInt32)), .val (.ref b1), .val (.ref b81), .val (.int (e0_1 p3)), .val (.int (e0_2 p3)), .val (.int (2 : Int32))] [(.int (e0_2 p3)), (.int (e0_1 p3)), (.int (p0.toUInt32.toUInt16.toUInt32.toInt32)), (.ref b81)])) rfl (by rw [hml]; rfl) (argsL := [(.ref b81), (.int (p0.toUInt32.toUInt16.toUInt32.toInt32)), (.int (e0_1 p3)), (.int (e0_2 p3))]) (rest := []) (lenOf pd_0_2 rfl) rfl (by show 2 * 0 + _ ≤ _; exact Nat.le_of_eq rfl) (hb hby at_218) (fun _ _ => ⟨rfl, e103q, (by decide : 4 + 0 ≤ _), (by decide : 20 + 0 ≤ _)⟩)
          dsimp only [Pt.U, Pt.locs, Pt.cells, Pt.slots] at X115 l115 y115 z115 st115 hQ115
          subst l115 y115 z115
          obtain ⟨rfl, N115q, e115q⟩ := hQ115
          have N115 := Fr.app N103 N115q
          have pre116 : ∀ t, Steps p.tables e below (T115.setTop (mkF m 223 #[.val (.int p0), .val (.int p1), .val (.int p2), .val (.int p3), .val (.int (p0.toUInt32.toUInt16.toUInt32.toInt32)), .val (.ref b1), .val (.ref b81), .val (.int (e0_1 p3)), .val (.int (e0_2 p3)), .val (.int (2 : Int32))] [(.int (2 : Int32)), (.int (f8u (p0.toUInt32.toUInt16.toUInt32.toInt32) (e0_1 p3) (e0_2 p3) (f18_r_a (own_upd (own_upd (own_upd (own_upd (fun _ => 0) 0 (nar .char (j0_12_S0 p0 p1 p3))) 1 (nar .char (j0_29_S0 p0 p1 p3))) 2 (nar .char (j0_49_S0 p0 p2 p3))) 3 (nar .char (j0_66_S0 p0 p2 p3))))))])) t → Steps p.tables e below (s₁.setTop (entryFrame m #[(.int p0), (.int p1), (.int p2), (.int p3)] maxLocals)) t := fun t kt => pre104 t (by
              show Steps p.tables e below (T103.setTop (mkF m 176 #[.val (.int p0), .val (.int p1), .val (.int p2), .val (.int p3), .val (.int (p0.toUInt32.toUInt16.toUInt32.toInt32)), .val (.ref b1), .val (.ref b81), .val (.int (e0_1 p3)), .val (.int (e0_2 p3)), .unset] [(.int (f7 (p0.toUInt32.toUInt16.toUInt32.toInt32) (2 : Int32) (e0_1 p3) (e0_2 p3) (own_upd (own_upd (own_upd (own_upd (fun _ => 0) 0 (nar .char (j0_12_S0 p0 p1 p3))) 1 (nar .char (j0_29_S0 p0 p1 p3))) 2 (nar .char (j0_49_S0 p0 p2 p3))) 3 (nar .char (j0_66_S0 p0 p2 p3)))))])) _
              refine XS.ifNo X103.here hx rfl (hb hby at_176) rfl ((if0 _ _).trans (feq hc176_105).1) ?_
              show Steps p.tables e below (T103.setTop (mkF m 179 #[.val (.int p0), .val (.int p1), .val (.int p2), .val (.int p3), .val (.int (p0.toUInt32.toUInt16.toUInt32.toInt32)), .val (.ref b1), .val (.ref b81), .val (.int (e0_1 p3)), .val (.int (e0_2 p3)), .unset] [])) _
              refine XS.iconst X103.here hx rfl (hb hby at_179) ?_
              show Steps p.tables e below (T103.setTop (mkF m 180 #[.val (.int p0), .val (.int p1), .val (.int p2), .val (.int p3), .val (.int (p0.toUInt32.toUInt16.toUInt32.toInt32)), .val (.ref b1), .val (.ref b81), .val (.int (e0_1 p3)), .val (.int (e0_2 p3)), .unset] [(.int (2 : Int32))])) _
              refine XS.istore X103.here hx rfl (hb hby at_180) rfl (l' := #[.val (.int p0), .val (.int p1), .val (.int p2), .val (.int p3), .val (.int (p0.toUInt32.toUInt16.toUInt32.toInt32)), .val (.ref b1), .val (.ref b81), .val (.int (e0_1 p3)), .val (.int (e0_2 p3)), .val (.int (2 : Int32))]) rfl ?_
              show Steps p.tables e below (T103.setTop (mkF m 182 #[.val (.int p0), .val (.int p1), .val (.int p2), .val (.int p3), .val (.int (p0.toUInt32.toUInt16.toUInt32.toInt32)), .val (.ref b1), .val (.ref b81), .val (.int (e0_1 p3)), .val (.int (e0_2 p3)), .val (.int (2 : Int32))] [])) _
              refine XS.goto X103.here hx rfl (pc0 := 182) (pc' := 210) rfl (hb hby at_182) (by decide) (by decide) ?_
              show Steps p.tables e below (T103.setTop (mkF m 210 #[.val (.int p0), .val (.int p1), .val (.int p2), .val (.int p3), .val (.int (p0.toUInt32.toUInt16.toUInt32.toInt32)), .val (.ref b1), .val (.ref b81), .val (.int (e0_1 p3)), .val (.int (e0_2 p3)), .val (.int (2 : Int32))] [])) _
              refine XS.aload X103.here hx rfl (hb hby at_210) rfl rfl ?_
              show Steps p.tables e below (T103.setTop (mkF m 212 #[.val (.int p0), .val (.int p1), .val (.int p2), .val (.int p3), .val (.int (p0.toUInt32.toUInt16.toUInt32.toInt32)), .val (.ref b1), .val (.ref b81), .val (.int (e0_1 p3)), .val (.int (e0_2 p3)), .val (.int (2 : Int32))] [(.ref b81)])) _
              refine XS.iload X103.here hx rfl (hb hby at_212) rfl ?_
              show Steps p.tables e below (T103.setTop (mkF m 214 #[.val (.int p0), .val (.int p1), .val (.int p2), .val (.int p3), .val (.int (p0.toUInt32.toUInt16.toUInt32.toInt32)), .val (.ref b1), .val (.ref b81), .val (.int (e0_1 p3)), .val (.int (e0_2 p3)), .val (.int (2 : Int32))] [(.int (p0.toUInt32.toUInt16.toUInt32.toInt32)), (.ref b81)])) _
              refine XS.iload X103.here hx rfl (hb hby at_214) rfl ?_
              show Steps p.tables e below (T103.setTop (mkF m 216 #[.val (.int p0), .val (.int p1), .val (.int p2), .val (.int p3), .val (.int (p0.toUInt32.toUInt16.toUInt32.toInt32)), .val (.ref b1), .val (.ref b81), .val (.int (e0_1 p3)), .val (.int (e0_2 p3)), .val (.int (2 : Int32))] [(.int (e0_1 p3)), (.int (p0.toUInt32.toUInt16.toUInt32.toInt32)), (.ref b81)])) _
              refine XS.iload X103.here hx rfl (hb hby at_216) rfl ?_
              show Steps p.tables e below (T103.setTop (mkF m 218 #[.val (.int p0), .val (.int p1), .val (.int p2), .val (.int p3), .val (.int (p0.toUInt32.toUInt16.toUInt32.toInt32)), .val (.ref b1), .val (.ref b81), .val (.int (e0_1 p3)), .val (.int (e0_2 p3)), .val (.int (2 : Int32))] [(.int (e0_2 p3)), (.int (e0_1 p3)), (.int (p0.toUInt32.toUInt16.toUInt32.toInt32)), (.ref b81)])) _
              refine st115 _ ?_
              show Steps p.tables e below (T115.setTop (mkF m 221 #[.val (.int p0), .val (.int p1), .val (.int p2), .val (.int p3), .val (.int (p0.toUInt32.toUInt16.toUInt32.toInt32)), .val (.ref b1), .val (.ref b81), .val (.int (e0_1 p3)), .val (.int (e0_2 p3)), .val (.int (2 : Int32))] [(.int (f8u (p0.toUInt32.toUInt16.toUInt32.toInt32) (e0_1 p3) (e0_2 p3) (f18_r_a (own_upd (own_upd (own_upd (own_upd (fun _ => 0) 0 (nar .char (j0_12_S0 p0 p1 p3))) 1 (nar .char (j0_29_S0 p0 p1 p3))) 2 (nar .char (j0_49_S0 p0 p2 p3))) 3 (nar .char (j0_66_S0 p0 p2 p3))))))])) _
              refine XS.iload X115.here hx rfl (hb hby at_221) rfl ?_
              exact kt)
          have hd223_117 : (f8u (p0.toUInt32.toUInt16.toUInt32.toInt32) (e0_1 p3) (e0_2 p3) (f18_r_a (own_upd (own_upd (own_upd (own_upd (fun _ => 0) 0 (nar .char (j0_12_S0 p0 p1 p3))) 1 (nar .char (j0_29_S0 p0 p1 p3))) 2 (nar .char (j0_49_S0 p0 p2 p3))) 3 (nar .char (j0_66_S0 p0 p2 p3))))) = (2 : Int32) := (own_law_u _ (own_ch0 _ _ _ _) p0 p3).trans (by rw [if_pos hc134_99, if_pos hc155_102, if_neg hc176_105])
          obtain ⟨fs, hr, hrun, hended, hW, hsame⟩ := X115.leave (v := some (.int (1 : Int32))) (fun h => by rw [Bd.returns] at h; cases h)
          have hv131 : (1 : Int32) = (1 : Int32) := rfl
          refine ⟨_, _, pre116 _ ?_, hrun, hended, _, _, rfl, ?_, ⟨_, rfl⟩, hW, hsame.mono (by decide) (by decide)⟩
          · show Steps p.tables e below (T115.setTop (mkF m 223 #[.val (.int p0), .val (.int p1), .val (.int p2), .val (.int p3), .val (.int (p0.toUInt32.toUInt16.toUInt32.toInt32)), .val (.ref b1), .val (.ref b81), .val (.int (e0_1 p3)), .val (.int (e0_2 p3)), .val (.int (2 : Int32))] [(.int (2 : Int32)), (.int (f8u (p0.toUInt32.toUInt16.toUInt32.toInt32) (e0_1 p3) (e0_2 p3) (f18_r_a (own_upd (own_upd (own_upd (own_upd (fun _ => 0) 0 (nar .char (j0_12_S0 p0 p1 p3))) 1 (nar .char (j0_29_S0 p0 p1 p3))) 2 (nar .char (j0_49_S0 p0 p2 p3))) 3 (nar .char (j0_66_S0 p0 p2 p3))))))])) _
            refine XS.icmpNo X115.here hx rfl (hb hby at_223) rfl (teq hd223_117).2 ?_
            show Steps p.tables e below (T115.setTop (mkF m 226 #[.val (.int p0), .val (.int p1), .val (.int p2), .val (.int p3), .val (.int (p0.toUInt32.toUInt16.toUInt32.toInt32)), .val (.ref b1), .val (.ref b81), .val (.int (e0_1 p3)), .val (.int (e0_2 p3)), .val (.int (2 : Int32))] [])) _
            refine XS.iconst X115.here hx rfl (hb hby at_226) ?_
            show Steps p.tables e below (T115.setTop (mkF m 227 #[.val (.int p0), .val (.int p1), .val (.int p2), .val (.int p3), .val (.int (p0.toUInt32.toUInt16.toUInt32.toInt32)), .val (.ref b1), .val (.ref b81), .val (.int (e0_1 p3)), .val (.int (e0_2 p3)), .val (.int (2 : Int32))] [(.int (1 : Int32))])) _
            refine XS.goto X115.here hx rfl (pc0 := 227) (pc' := 231) rfl (hb hby at_227) (by decide) (by decide) ?_
            show Steps p.tables e below (T115.setTop (mkF m 231 #[.val (.int p0), .val (.int p1), .val (.int p2), .val (.int p3), .val (.int (p0.toUInt32.toUInt16.toUInt32.toInt32)), .val (.ref b1), .val (.ref b81), .val (.int (e0_1 p3)), .val (.int (e0_2 p3)), .val (.int (2 : Int32))] [(.int (1 : Int32))])) _
            exact retN X115 hx (t := .boolean) Bd.returns (by simp) (hb hby at_231) hr
          · show Q0 Z p0 p1 p2 p3 cs fm h0 n0 _ T115.heap _
            rw [e115q]
            exact ⟨congrArg (fun q => some (Value.int q)) hv131, N115⟩
      · obtain ⟨_, _, ⟨T118, L118, k118, n118⟩, -, X118, ⟨Lc118, hQ118, l118, y118, z118⟩, st118⟩ := Jvm.LawKit.callS X100 hx (y := (⟨"com/example/corvid/corvid/internal/StringEscapes", "indexOf", "(Ljava/lang/String;CII)I"⟩ : MethodName)) hown (mvT hZ (hw _ (List.mem_of_getElem? (i := 34) rfl))) (mvT hZ (hw _ (List.mem_of_getElem? (i := 35) rfl))) (mvT hZ (hw _ (List.mem_of_getElem? (i := 36) rfl))) (mvT hZ (hw _ (List.mem_of_getElem? (i := 37) rfl))) (by decide) (backOf (W := 0) (rm8u l Z a0 hw [] b81 (p0.toUInt32.toUInt16.toUInt32.toInt32) (e0_1 p3) (e0_2 p3) cs r_o0_value_84 (f18_r_a (own_upd (own_upd (own_upd (own_upd (fun _ => 0) 0 (nar .char (j0_12_S0 p0 p1 p3))) 1 (nar .char (j0_29_S0 p0 p1 p3))) 2 (nar .char (j0_49_S0 p0 p2 p3))) 3 (nar .char (j0_66_S0 p0 p2 p3)))) fm T84.heap n0 Z96 S90 (hcs) G84_0 G84_1 G84_2 (E_b81.keep K84q) S91 S92 S93 S94 (hfm) (own_c1 p0) (own_fr p3)) hZ (hw _ (List.mem_of_getElem? (i := 37) rfl)) (hw _ (List.mem_of_getElem? (i := 36) rfl)) (by decide) (by decide)) (g := (mkF m 218 #[.val (.int p0), .val (.int p1), .val (.int p2), .val (.int p3), .val (.int (p0.toUInt32.toUInt16.toUInt32.toInt32)), .val (.ref b1), .val (.ref b81), .val (.int (e0_1 p3)), .val (.int (e0_2 p3)), .val (.int (1 : Int32))] [(.int (e0_2 p3)), (.int (e0_1 p3)), (.int (p0.toUInt32.toUInt16.toUInt32.toInt32)), (.ref b81)])) rfl (by rw [hml]; rfl) (argsL := [(.ref b81), (.int (p0.toUInt32.toUInt16.toUInt32.toInt32)), (.int (e0_1 p3)), (.int (e0_2 p3))]) (rest := []) (lenOf pd_0_2 rfl) rfl (by show 2 * 0 + _ ≤ _; exact Nat.le_of_eq rfl) (hb hby at_218) (fun _ _ => ⟨rfl, e100q, (by decide : 4 + 0 ≤ _), (by decide : 20 + 0 ≤ _)⟩)
        dsimp only [Pt.U, Pt.locs, Pt.cells, Pt.slots] at X118 l118 y118 z118 st118 hQ118
        subst l118 y118 z118
        obtain ⟨rfl, N118q, e118q⟩ := hQ118
        have N118 := Fr.app N100 N118q
        have pre119 : ∀ t, Steps p.tables e below (T118.setTop (mkF m 223 #[.val (.int p0), .val (.int p1), .val (.int p2), .val (.int p3), .val (.int (p0.toUInt32.toUInt16.toUInt32.toInt32)), .val (.ref b1), .val (.ref b81), .val (.int (e0_1 p3)), .val (.int (e0_2 p3)), .val (.int (1 : Int32))] [(.int (1 : Int32)), (.int (f8u (p0.toUInt32.toUInt16.toUInt32.toInt32) (e0_1 p3) (e0_2 p3) (f18_r_a (own_upd (own_upd (own_upd (own_upd (fun _ => 0) 0 (nar .char (j0_12_S0 p0 p1 p3))) 1 (nar .char (j0_29_S0 p0 p1 p3))) 2 (nar .char (j0_49_S0 p0 p2 p3))) 3 (nar .char (j0_66_S0 p0 p2 p3))))))])) t → Steps p.tables e below (s₁.setTop (entryFrame m #[(.int p0), (.int p1), (.int p2), (.int p3)] maxLocals)) t := fun t kt => pre101 t (by
            show Steps p.tables e below (T100.setTop (mkF m 155 #[.val (.int p0), .val (.int p1), .val (.int p2), .val (.int p3), .val (.int (p0.toUInt32.toUInt16.toUInt32.toInt32)), .val (.ref b1), .val (.ref b81), .val (.int (e0_1 p3)), .val (.int (e0_2 p3)), .unset] [(.int (f7 (p0.toUInt32.toUInt16.toUInt32.toInt32) (1 : Int32) (e0_1 p3) (e0_2 p3) (own_upd (own_upd (own_upd (own_upd (fun _ => 0) 0 (nar .char (j0_12_S0 p0 p1 p3))) 1 (nar .char (j0_29_S0 p0 p1 p3))) 2 (nar .char (j0_49_S0 p0 p2 p3))) 3 (nar .char (j0_66_S0 p0 p2 p3)))))])) _
            refine XS.ifNo X100.here hx rfl (hb hby at_155) rfl ((if0 _ _).trans (feq hc155_102).1) ?_
            show Steps p.tables e below (T100.setTop (mkF m 158 #[.val (.int p0), .val (.int p1), .val (.int p2), .val (.int p3), .val (.int (p0.toUInt32.toUInt16.toUInt32.toInt32)), .val (.ref b1), .val (.ref b81), .val (.int (e0_1 p3)), .val (.int (e0_2 p3)), .unset] [])) _
            refine XS.iconst X100.here hx rfl (hb hby at_158) ?_
            show Steps p.tables e below (T100.setTop (mkF m 159 #[.val (.int p0), .val (.int p1), .val (.int p2), .val (.int p3), .val (.int (p0.toUInt32.toUInt16.toUInt32.toInt32)), .val (.ref b1), .val (.ref b81), .val (.int (e0_1 p3)), .val (.int (e0_2 p3)), .unset] [(.int (1 : Int32))])) _
            refine XS.istore X100.here hx rfl (hb hby at_159) rfl (l' := #[.val (.int p0), .val (.int p1), .val (.int p2), .val (.int p3), .val (.int (p0.toUInt32.toUInt16.toUInt32.toInt32)), .val (.ref b1), .val (.ref b81), .val (.int (e0_1 p3)), .val (.int (e0_2 p3)), .val (.int (1 : Int32))]) rfl ?_
            show Steps p.tables e below (T100.setTop (mkF m 161 #[.val (.int p0), .val (.int p1), .val (.int p2), .val (.int p3), .val (.int (p0.toUInt32.toUInt16.toUInt32.toInt32)), .val (.ref b1), .val (.ref b81), .val (.int (e0_1 p3)), .val (.int (e0_2 p3)), .val (.int (1 : Int32))] [])) _
            refine XS.goto X100.here hx rfl (pc0 := 161) (pc' := 210) rfl (hb hby at_161) (by decide) (by decide) ?_
            show Steps p.tables e below (T100.setTop (mkF m 210 #[.val (.int p0), .val (.int p1), .val (.int p2), .val (.int p3), .val (.int (p0.toUInt32.toUInt16.toUInt32.toInt32)), .val (.ref b1), .val (.ref b81), .val (.int (e0_1 p3)), .val (.int (e0_2 p3)), .val (.int (1 : Int32))] [])) _
            refine XS.aload X100.here hx rfl (hb hby at_210) rfl rfl ?_
            show Steps p.tables e below (T100.setTop (mkF m 212 #[.val (.int p0), .val (.int p1), .val (.int p2), .val (.int p3), .val (.int (p0.toUInt32.toUInt16.toUInt32.toInt32)), .val (.ref b1), .val (.ref b81), .val (.int (e0_1 p3)), .val (.int (e0_2 p3)), .val (.int (1 : Int32))] [(.ref b81)])) _
            refine XS.iload X100.here hx rfl (hb hby at_212) rfl ?_
            show Steps p.tables e below (T100.setTop (mkF m 214 #[.val (.int p0), .val (.int p1), .val (.int p2), .val (.int p3), .val (.int (p0.toUInt32.toUInt16.toUInt32.toInt32)), .val (.ref b1), .val (.ref b81), .val (.int (e0_1 p3)), .val (.int (e0_2 p3)), .val (.int (1 : Int32))] [(.int (p0.toUInt32.toUInt16.toUInt32.toInt32)), (.ref b81)])) _
            refine XS.iload X100.here hx rfl (hb hby at_214) rfl ?_
            show Steps p.tables e below (T100.setTop (mkF m 216 #[.val (.int p0), .val (.int p1), .val (.int p2), .val (.int p3), .val (.int (p0.toUInt32.toUInt16.toUInt32.toInt32)), .val (.ref b1), .val (.ref b81), .val (.int (e0_1 p3)), .val (.int (e0_2 p3)), .val (.int (1 : Int32))] [(.int (e0_1 p3)), (.int (p0.toUInt32.toUInt16.toUInt32.toInt32)), (.ref b81)])) _
            refine XS.iload X100.here hx rfl (hb hby at_216) rfl ?_
            show Steps p.tables e below (T100.setTop (mkF m 218 #[.val (.int p0), .val (.int p1), .val (.int p2), .val (.int p3), .val (.int (p0.toUInt32.toUInt16.toUInt32.toInt32)), .val (.ref b1), .val (.ref b81), .val (.int (e0_1 p3)), .val (.int (e0_2 p3)), .val (.int (1 : Int32))] [(.int (e0_2 p3)), (.int (e0_1 p3)), (.int (p0.toUInt32.toUInt16.toUInt32.toInt32)), (.ref b81)])) _
            refine st118 _ ?_
            show Steps p.tables e below (T118.setTop (mkF m 221 #[.val (.int p0), .val (.int p1), .val (.int p2), .val (.int p3), .val (.int (p0.toUInt32.toUInt16.toUInt32.toInt32)), .val (.ref b1), .val (.ref b81), .val (.int (e0_1 p3)), .val (.int (e0_2 p3)), .val (.int (1 : Int32))] [(.int (f8u (p0.toUInt32.toUInt16.toUInt32.toInt32) (e0_1 p3) (e0_2 p3) (f18_r_a (own_upd (own_upd (own_upd (own_upd (fun _ => 0) 0 (nar .char (j0_12_S0 p0 p1 p3))) 1 (nar .char (j0_29_S0 p0 p1 p3))) 2 (nar .char (j0_49_S0 p0 p2 p3))) 3 (nar .char (j0_66_S0 p0 p2 p3))))))])) _
            refine XS.iload X118.here hx rfl (hb hby at_221) rfl ?_
            exact kt)
        have hd223_120 : (f8u (p0.toUInt32.toUInt16.toUInt32.toInt32) (e0_1 p3) (e0_2 p3) (f18_r_a (own_upd (own_upd (own_upd (own_upd (fun _ => 0) 0 (nar .char (j0_12_S0 p0 p1 p3))) 1 (nar .char (j0_29_S0 p0 p1 p3))) 2 (nar .char (j0_49_S0 p0 p2 p3))) 3 (nar .char (j0_66_S0 p0 p2 p3))))) = (1 : Int32) := (own_law_u _ (own_ch0 _ _ _ _) p0 p3).trans (by rw [if_pos hc134_99, if_neg hc155_102])
        obtain ⟨fs, hr, hrun, hended, hW, hsame⟩ := X118.leave (v := some (.int (1 : Int32))) (fun h => by rw [Bd.returns] at h; cases h)
        have hv132 : (1 : Int32) = (1 : Int32) := rfl
        refine ⟨_, _, pre119 _ ?_, hrun, hended, _, _, rfl, ?_, ⟨_, rfl⟩, hW, hsame.mono (by decide) (by decide)⟩
        · show Steps p.tables e below (T118.setTop (mkF m 223 #[.val (.int p0), .val (.int p1), .val (.int p2), .val (.int p3), .val (.int (p0.toUInt32.toUInt16.toUInt32.toInt32)), .val (.ref b1), .val (.ref b81), .val (.int (e0_1 p3)), .val (.int (e0_2 p3)), .val (.int (1 : Int32))] [(.int (1 : Int32)), (.int (f8u (p0.toUInt32.toUInt16.toUInt32.toInt32) (e0_1 p3) (e0_2 p3) (f18_r_a (own_upd (own_upd (own_upd (own_upd (fun _ => 0) 0 (nar .char (j0_12_S0 p0 p1 p3))) 1 (nar .char (j0_29_S0 p0 p1 p3))) 2 (nar .char (j0_49_S0 p0 p2 p3))) 3 (nar .char (j0_66_S0 p0 p2 p3))))))])) _
          refine XS.icmpNo X118.here hx rfl (hb hby at_223) rfl (teq hd223_120).2 ?_
          show Steps p.tables e below (T118.setTop (mkF m 226 #[.val (.int p0), .val (.int p1), .val (.int p2), .val (.int p3), .val (.int (p0.toUInt32.toUInt16.toUInt32.toInt32)), .val (.ref b1), .val (.ref b81), .val (.int (e0_1 p3)), .val (.int (e0_2 p3)), .val (.int (1 : Int32))] [])) _
          refine XS.iconst X118.here hx rfl (hb hby at_226) ?_
          show Steps p.tables e below (T118.setTop (mkF m 227 #[.val (.int p0), .val (.int p1), .val (.int p2), .val (.int p3), .val (.int (p0.toUInt32.toUInt16.toUInt32.toInt32)), .val (.ref b1), .val (.ref b81), .val (.int (e0_1 p3)), .val (.int (e0_2 p3)), .val (.int (1 : Int32))] [(.int (1 : Int32))])) _
          refine XS.goto X118.here hx rfl (pc0 := 227) (pc' := 231) rfl (hb hby at_227) (by decide) (by decide) ?_
          show Steps p.tables e below (T118.setTop (mkF m 231 #[.val (.int p0), .val (.int p1), .val (.int p2), .val (.int p3), .val (.int (p0.toUInt32.toUInt16.toUInt32.toInt32)), .val (.ref b1), .val (.ref b81), .val (.int (e0_1 p3)), .val (.int (e0_2 p3)), .val (.int (1 : Int32))] [(.int (1 : Int32))])) _
          exact retN X118 hx (t := .boolean) Bd.returns (by simp) (hb hby at_231) hr
        · show Q0 Z p0 p1 p2 p3 cs fm h0 n0 _ T118.heap _
          rw [e118q]
          exact ⟨congrArg (fun q => some (Value.int q)) hv132, N118⟩
    · obtain ⟨_, _, ⟨T121, L121, k121, n121⟩, -, X121, ⟨Lc121, hQ121, l121, y121, z121⟩, st121⟩ := Jvm.LawKit.callS X97 hx (y := (⟨"com/example/corvid/corvid/internal/StringEscapes", "indexOf", "(Ljava/lang/String;CII)I"⟩ : MethodName)) hown (mvT hZ (hw _ (List.mem_of_getElem? (i := 34) rfl))) (mvT hZ (hw _ (List.mem_of_getElem? (i := 35) rfl))) (mvT hZ (hw _ (List.mem_of_getElem? (i := 36) rfl))) (mvT hZ (hw _ (List.mem_of_getElem? (i := 37) rfl))) (by decide) (backOf (W := 0) (rm8u l Z a0 hw [] b81 (p0.toUInt32.toUInt16.toUInt32.toInt32) (e0_1 p3) (e0_2 p3) cs r_o0_value_84 (f18_r_a (own_upd (own_upd (own_upd (own_upd (fun _ => 0) 0 (nar .char (j0_12_S0 p0 p1 p3))) 1 (nar .char (j0_29_S0 p0 p1 p3))) 2 (nar .char (j0_49_S0 p0 p2 p3))) 3 (nar .char (j0_66_S0 p0 p2 p3)))) fm T84.heap n0 Z96 S90 (hcs) G84_0 G84_1 G84_2 (E_b81.keep K84q) S91 S92 S93 S94 (hfm) (own_c1 p0) (own_fr p3)) hZ (hw _ (List.mem_of_getElem? (i := 37) rfl)) (hw _ (List.mem_of_getElem? (i := 36) rfl)) (by decide) (by decide)) (g := (mkF m 218 #[.val (.int p0), .val (.int p1), .val (.int p2), .val (.int p3), .val (.int (p0.toUInt32.toUInt16.toUInt32.toInt32)), .val (.ref b1), .val (.ref b81), .val (.int (e0_1 p3)), .val (.int (e0_2 p3)), .val (.int (0 : Int32))] [(.int (e0_2 p3)), (.int (e0_1 p3)), (.int (p0.toUInt32.toUInt16.toUInt32.toInt32)), (.ref b81)])) rfl (by rw [hml]; rfl) (argsL := [(.ref b81), (.int (p0.toUInt32.toUInt16.toUInt32.toInt32)), (.int (e0_1 p3)), (.int (e0_2 p3))]) (rest := []) (lenOf pd_0_2 rfl) rfl (by show 2 * 0 + _ ≤ _; exact Nat.le_of_eq rfl) (hb hby at_218) (fun _ _ => ⟨rfl, e97q, (by decide : 4 + 0 ≤ _), (by decide : 20 + 0 ≤ _)⟩)
      dsimp only [Pt.U, Pt.locs, Pt.cells, Pt.slots] at X121 l121 y121 z121 st121 hQ121
      subst l121 y121 z121
      obtain ⟨rfl, N121q, e121q⟩ := hQ121
      have N121 := Fr.app N97 N121q
      have pre122 : ∀ t, Steps p.tables e below (T121.setTop (mkF m 223 #[.val (.int p0), .val (.int p1), .val (.int p2), .val (.int p3), .val (.int (p0.toUInt32.toUInt16.toUInt32.toInt32)), .val (.ref b1), .val (.ref b81), .val (.int (e0_1 p3)), .val (.int (e0_2 p3)), .val (.int (0 : Int32))] [(.int (0 : Int32)), (.int (f8u (p0.toUInt32.toUInt16.toUInt32.toInt32) (e0_1 p3) (e0_2 p3) (f18_r_a (own_upd (own_upd (own_upd (own_upd (fun _ => 0) 0 (nar .char (j0_12_S0 p0 p1 p3))) 1 (nar .char (j0_29_S0 p0 p1 p3))) 2 (nar .char (j0_49_S0 p0 p2 p3))) 3 (nar .char (j0_66_S0 p0 p2 p3))))))])) t → Steps p.tables e below (s₁.setTop (entryFrame m #[(.int p0), (.int p1), (.int p2), (.int p3)] maxLocals)) t := fun t kt => pre98 t (by
          show Steps p.tables e below (T97.setTop (mkF m 134 #[.val (.int p0), .val (.int p1), .val (.int p2), .val (.int p3), .val (.int (p0.toUInt32.toUInt16.toUInt32.toInt32)), .val (.ref b1), .val (.ref b81), .val (.int (e0_1 p3)), .val (.int (e0_2 p3)), .unset] [(.int (f7 (p0.toUInt32.toUInt16.toUInt32.toInt32) (0 : Int32) (e0_1 p3) (e0_2 p3) (own_upd (own_upd (own_upd (own_upd (fun _ => 0) 0 (nar .char (j0_12_S0 p0 p1 p3))) 1 (nar .char (j0_29_S0 p0 p1 p3))) 2 (nar .char (j0_49_S0 p0 p2 p3))) 3 (nar .char (j0_66_S0 p0 p2 p3)))))])) _
          refine XS.ifNo X97.here hx rfl (hb hby at_134) rfl ((if0 _ _).trans (feq hc134_99).1) ?_
          show Steps p.tables e below (T97.setTop (mkF m 137 #[.val (.int p0), .val (.int p1), .val (.int p2), .val (.int p3), .val (.int (p0.toUInt32.toUInt16.toUInt32.toInt32)), .val (.ref b1), .val (.ref b81), .val (.int (e0_1 p3)), .val (.int (e0_2 p3)), .unset] [])) _
          refine XS.iconst X97.here hx rfl (hb hby at_137) ?_
          show Steps p.tables e below (T97.setTop (mkF m 138 #[.val (.int p0), .val (.int p1), .val (.int p2), .val (.int p3), .val (.int (p0.toUInt32.toUInt16.toUInt32.toInt32)), .val (.ref b1), .val (.ref b81), .val (.int (e0_1 p3)), .val (.int (e0_2 p3)), .unset] [(.int (0 : Int32))])) _
          refine XS.istore X97.here hx rfl (hb hby at_138) rfl (l' := #[.val (.int p0), .val (.int p1), .val (.int p2), .val (.int p3), .val (.int (p0.toUInt32.toUInt16.toUInt32.toInt32)), .val (.ref b1), .val (.ref b81), .val (.int (e0_1 p3)), .val (.int (e0_2 p3)), .val (.int (0 : Int32))]) rfl ?_
          show Steps p.tables e below (T97.setTop (mkF m 140 #[.val (.int p0), .val (.int p1), .val (.int p2), .val (.int p3), .val (.int (p0.toUInt32.toUInt16.toUInt32.toInt32)), .val (.ref b1), .val (.ref b81), .val (.int (e0_1 p3)), .val (.int (e0_2 p3)), .val (.int (0 : Int32))] [])) _
          refine XS.goto X97.here hx rfl (pc0 := 140) (pc' := 210) rfl (hb hby at_140) (by decide) (by decide) ?_
          show Steps p.tables e below (T97.setTop (mkF m 210 #[.val (.int p0), .val (.int p1), .val (.int p2), .val (.int p3), .val (.int (p0.toUInt32.toUInt16.toUInt32.toInt32)), .val (.ref b1), .val (.ref b81), .val (.int (e0_1 p3)), .val (.int (e0_2 p3)), .val (.int (0 : Int32))] [])) _
          refine XS.aload X97.here hx rfl (hb hby at_210) rfl rfl ?_
          show Steps p.tables e below (T97.setTop (mkF m 212 #[.val (.int p0), .val (.int p1), .val (.int p2), .val (.int p3), .val (.int (p0.toUInt32.toUInt16.toUInt32.toInt32)), .val (.ref b1), .val (.ref b81), .val (.int (e0_1 p3)), .val (.int (e0_2 p3)), .val (.int (0 : Int32))] [(.ref b81)])) _
          refine XS.iload X97.here hx rfl (hb hby at_212) rfl ?_
          show Steps p.tables e below (T97.setTop (mkF m 214 #[.val (.int p0), .val (.int p1), .val (.int p2), .val (.int p3), .val (.int (p0.toUInt32.toUInt16.toUInt32.toInt32)), .val (.ref b1), .val (.ref b81), .val (.int (e0_1 p3)), .val (.int (e0_2 p3)), .val (.int (0 : Int32))] [(.int (p0.toUInt32.toUInt16.toUInt32.toInt32)), (.ref b81)])) _
          refine XS.iload X97.here hx rfl (hb hby at_214) rfl ?_
          show Steps p.tables e below (T97.setTop (mkF m 216 #[.val (.int p0), .val (.int p1), .val (.int p2), .val (.int p3), .val (.int (p0.toUInt32.toUInt16.toUInt32.toInt32)), .val (.ref b1), .val (.ref b81), .val (.int (e0_1 p3)), .val (.int (e0_2 p3)), .val (.int (0 : Int32))] [(.int (e0_1 p3)), (.int (p0.toUInt32.toUInt16.toUInt32.toInt32)), (.ref b81)])) _
          refine XS.iload X97.here hx rfl (hb hby at_216) rfl ?_
          show Steps p.tables e below (T97.setTop (mkF m 218 #[.val (.int p0), .val (.int p1), .val (.int p2), .val (.int p3), .val (.int (p0.toUInt32.toUInt16.toUInt32.toInt32)), .val (.ref b1), .val (.ref b81), .val (.int (e0_1 p3)), .val (.int (e0_2 p3)), .val (.int (0 : Int32))] [(.int (e0_2 p3)), (.int (e0_1 p3)), (.int (p0.toUInt32.toUInt16.toUInt32.toInt32)), (.ref b81)])) _
          refine st121 _ ?_
          show Steps p.tables e below (T121.setTop (mkF m 221 #[.val (.int p0), .val (.int p1), .val (.int p2), .val (.int p3), .val (.int (p0.toUInt32.toUInt16.toUInt32.toInt32)), .val (.ref b1), .val (.ref b81), .val (.int (e0_1 p3)), .val (.int (e0_2 p3)), .val (.int (0 : Int32))] [(.int (f8u (p0.toUInt32.toUInt16.toUInt32.toInt32) (e0_1 p3) (e0_2 p3) (f18_r_a (own_upd (own_upd (own_upd (own_upd (fun _ => 0) 0 (nar .char (j0_12_S0 p0 p1 p3))) 1 (nar .char (j0_29_S0 p0 p1 p3))) 2 (nar .char (j0_49_S0 p0 p2 p3))) 3 (nar .char (j0_66_S0 p0 p2 p3))))))])) _
          refine XS.iload X121.here hx rfl (hb hby at_221) rfl ?_
          exact kt)
      have hd223_123 : (f8u (p0.toUInt32.toUInt16.toUInt32.toInt32) (e0_1 p3) (e0_2 p3) (f18_r_a (own_upd (own_upd (own_upd (own_upd (fun _ => 0) 0 (nar .char (j0_12_S0 p0 p1 p3))) 1 (nar .char (j0_29_S0 p0 p1 p3))) 2 (nar .char (j0_49_S0 p0 p2 p3))) 3 (nar .char (j0_66_S0 p0 p2 p3))))) = (0 : Int32) := (own_law_u _ (own_ch0 _ _ _ _) p0 p3).trans (by rw [if_neg hc134_99])
      obtain ⟨fs, hr, hrun, hended, hW, hsame⟩ := X121.leave (v := some (.int (1 : Int32))) (fun h => by rw [Bd.returns] at h; cases h)
      have hv133 : (1 : Int32) = (1 : Int32) := rfl
      refine ⟨_, _, pre122 _ ?_, hrun, hended, _, _, rfl, ?_, ⟨_, rfl⟩, hW, hsame.mono (by decide) (by decide)⟩
      · show Steps p.tables e below (T121.setTop (mkF m 223 #[.val (.int p0), .val (.int p1), .val (.int p2), .val (.int p3), .val (.int (p0.toUInt32.toUInt16.toUInt32.toInt32)), .val (.ref b1), .val (.ref b81), .val (.int (e0_1 p3)), .val (.int (e0_2 p3)), .val (.int (0 : Int32))] [(.int (0 : Int32)), (.int (f8u (p0.toUInt32.toUInt16.toUInt32.toInt32) (e0_1 p3) (e0_2 p3) (f18_r_a (own_upd (own_upd (own_upd (own_upd (fun _ => 0) 0 (nar .char (j0_12_S0 p0 p1 p3))) 1 (nar .char (j0_29_S0 p0 p1 p3))) 2 (nar .char (j0_49_S0 p0 p2 p3))) 3 (nar .char (j0_66_S0 p0 p2 p3))))))])) _
        refine XS.icmpNo X121.here hx rfl (hb hby at_223) rfl (teq hd223_123).2 ?_
        show Steps p.tables e below (T121.setTop (mkF m 226 #[.val (.int p0), .val (.int p1), .val (.int p2), .val (.int p3), .val (.int (p0.toUInt32.toUInt16.toUInt32.toInt32)), .val (.ref b1), .val (.ref b81), .val (.int (e0_1 p3)), .val (.int (e0_2 p3)), .val (.int (0 : Int32))] [])) _
        refine XS.iconst X121.here hx rfl (hb hby at_226) ?_
        show Steps p.tables e below (T121.setTop (mkF m 227 #[.val (.int p0), .val (.int p1), .val (.int p2), .val (.int p3), .val (.int (p0.toUInt32.toUInt16.toUInt32.toInt32)), .val (.ref b1), .val (.ref b81), .val (.int (e0_1 p3)), .val (.int (e0_2 p3)), .val (.int (0 : Int32))] [(.int (1 : Int32))])) _
        refine XS.goto X121.here hx rfl (pc0 := 227) (pc' := 231) rfl (hb hby at_227) (by decide) (by decide) ?_
        show Steps p.tables e below (T121.setTop (mkF m 231 #[.val (.int p0), .val (.int p1), .val (.int p2), .val (.int p3), .val (.int (p0.toUInt32.toUInt16.toUInt32.toInt32)), .val (.ref b1), .val (.ref b81), .val (.int (e0_1 p3)), .val (.int (e0_2 p3)), .val (.int (0 : Int32))] [(.int (1 : Int32))])) _
        exact retN X121 hx (t := .boolean) Bd.returns (by simp) (hb hby at_231) hr
      · show Q0 Z p0 p1 p2 p3 cs fm h0 n0 _ T121.heap _
        rw [e121q]
        exact ⟨congrArg (fun q => some (Value.int q)) hv133, N121⟩
set_option maxRecDepth 65536 in
set_option maxHeartbeats 40000000 in
theorem comes_1 {Post : Tables → Env → Array Value → State → Outcome → State → Prop} (hpost : ∀ tb e args s v u, (limb_1_1.after args s (.returned v) u = true ∧ limb_1_2.after args s (.returned v) u = true ∧ True) → FrameEnd s (.returned v) u (Jvm.fieldLocs frame_1_writes args s ++ Jvm.arrayLocs frame_1_arrays args s ++ Jvm.staticLocs frame_1_statics s) 16 128 → Post tb e args s (.returned v) u) :
    ArmFor flags0 classFile x code maxLocals ret World_1 tables_1 room_1 Calls_1 rest_1 Pre_1 Post := by
  intro l hfl _ _ p e ha hc hk s m args below hf hA hF happ hP
  obtain ⟨hcalls, hrest, hpre⟩ := hP
  obtain ⟨-, -, -, hnamed, -, -, -, hat⟩ := (Spec.applies_iff hf).mp happ
  obtain ⟨hg, hn⟩ := and_e (Cond.before_iff.mp (show (Jvm.Cond.and given_1 narrow_1).before args s = true from hpre))
  obtain ⟨g1, g2⟩ := and_e hg
  obtain ⟨g3, g4⟩ := and_e g2
  obtain ⟨g5, g6⟩ := and_e g4
  obtain ⟨g7, g8⟩ := and_e g6
  obtain ⟨w0, w1, w2, w3, rfl⟩ : ∃ w0 w1 w2 w3 : Value, args = #[w0, w1, w2, w3] := by
    have hs : args.size = 4 := by simpa [Cond.value, given_1] using g1
    obtain ⟨L⟩ := args
    match L, hs with
    | [w0, w1, w2, w3], _ => exact ⟨w0, w1, w2, w3, rfl⟩
  have hw := fun d (hd : d ∈ tables_1) => atoms_spec (ws := Jvm.Cond.code x code maxLocals ret :: tables_1) hat d (List.mem_cons_of_mem _ hd)
  have hfit : Fit s := fun {y c} hc i hi => by
    obtain ⟨ha, rfl⟩ := Array.getElem?_eq_some_iff.mp hc
    have q := List.all_eq_true.mp ((Array.all_eq_true_iff_forall_mem.mp hF) _ (Array.getElem_mem ha)) i (List.mem_range.mpr hi)
    simpa [Array.getElem?_eq_getElem hi] using q
  have hr0 : rest_1_c.value #[w0, w1, w2, w3] s none s [] = some true := Cond.before_iff.mp (show rest_1_c.before #[w0, w1, w2, w3] s = true from hrest)
  obtain ⟨k0, hr1⟩ := and_e hr0
  obtain ⟨k1, hr2⟩ := and_e hr1
  obtain ⟨k2, hr3⟩ := and_e hr2
  obtain ⟨k3, hr4⟩ := and_e hr3
  obtain ⟨k4, hr5⟩ := and_e hr4
  obtain ⟨k5, hr6⟩ := and_e hr5
  obtain ⟨k6, hr7⟩ := and_e hr6
  obtain ⟨k7, hr8⟩ := and_e hr7
  obtain ⟨k8, hr9⟩ := and_e hr8
  obtain ⟨k9, hr10⟩ := and_e hr9
  obtain ⟨k10, hr11⟩ := and_e hr10
  obtain ⟨k11, hr12⟩ := and_e hr11
  obtain ⟨k12, hr13⟩ := and_e hr12
  obtain ⟨k13, hr14⟩ := and_e hr13
  obtain ⟨k14, hr15⟩ := and_e hr14
  obtain ⟨k15, hr16⟩ := and_e hr15
  obtain ⟨k16, hr17⟩ := and_e hr16
  obtain ⟨k17, hr18⟩ := and_e hr17
  obtain ⟨k18, hr19⟩ := and_e hr18
  obtain ⟨cs, ecs⟩ := is_v k1
  have S_cs := Sta.start ecs (Or.inl (Cond.before_iff.mpr k0))
  have hcs := own_nei ecs k2
  obtain ⟨fm, efm, hfm⟩ := isR_v k8
  have S_fm := Sta.start efm (Or.inl (Cond.before_iff.mpr k7))
  have S_ad := Sta.start (own_eqi k12) (Or.inl (Cond.before_iff.mpr k11))
  have S_hi := Sta.start (own_eqi k15) (Or.inl (Cond.before_iff.mpr k14))
  have S_lo := Sta.start (own_eqi k18) (Or.inl (Cond.before_iff.mpr k17))
  obtain ⟨i0, ei0⟩ := is_v g3
  obtain rfl : w0 = (.int i0) := Option.some.inj ei0
  obtain ⟨i1, ei1⟩ := is_v g5
  obtain rfl : w1 = (.int i1) := Option.some.inj ei1
  obtain ⟨i2, ei2⟩ := is_v g7
  obtain rfl : w2 = (.int i2) := Option.some.inj ei2
  obtain ⟨i3, ei3⟩ := is_v g8
  obtain rfl : w3 = (.int i3) := Option.some.inj ei3
  obtain ⟨n, o, h1, h2, h3, _, L, rfl, ⟨hv0, N⟩, hq⟩ := rm0 l s _ hw tables_1 i0 i1 i2 i3 cs fm s.heap s.heap.size (Nat.le_refl _) S_cs hcs S_ad S_hi S_lo S_fm hfm p e ha hc hk s m _ below hf ((Spec.applies_iff_loose hf).mp happ).1 ⟨rfl, State.Warmed39.refl s, rfl⟩ trivial
  subst hv0
  refine ⟨n, _, h1, h2, h3, hpost _ _ _ _ _ _ ⟨Cond.after_iff.mpr rfl, Cond.after_iff.mpr (eq_i res_at (Term.int_eval (1)) rfl), trivial⟩ ⟨hq.1, hq.2.1, (hq.2.2.sift fun y hy => Or.inr (N y hy)).mono (by decide) (by decide)⟩⟩
theorem main_1_1 : Claimed_1_1 := comes_1 fun _ _ _ _ _ _ h hF => ⟨h.1, hF⟩
theorem main_1_2 : Claimed_1_2 := comes_1 fun _ _ _ _ _ _ h hF => ⟨h.2.1, hF⟩
end Jvm.Pilot.@@N@@
namespace Jvm.Pilot.@@N@@
open Jvm Jvm.ClassFile Sem Op Lib Jvm.Free Jvm.Stand Jvm.Pilot.@@N@@.Jvm.D
/-! MADE BY PROGRAM (witnessworld.py) out of the Statement's table words and the real class files: 21 classes; the members and pool entries that the words name. The judged class is class 1, her method 2. -/
namespace start1
open Jvm.ClassFile
def u (s : String) : CpInfo := .utf8 (stringToUtf16 s)
/-- a pool by its gaps: so many unusable entries, then the entry; so many at the end -/
def gap : Nat → List CpInfo → List CpInfo
  | 0, r => r
  | n + 1, r => .unusable :: gap n r
def poolList (es : List (Nat × CpInfo)) (last : Nat) : List CpInfo := es.foldr (fun e r => gap e.1 (e.2 :: r)) (gap last [])
def pool (es : List (Nat × CpInfo)) (last : Nat) : Array CpInfo := ⟨poolList es last⟩
def fileOf (pool : Array CpInfo) (this : Nat) (attrs : Array Attribute := #[]) (ms : Array MethodInfo := #[]) (fl : Nat := 33) (sup : Nat := 0) (ifs : Array Nat := #[]) (fds : Array FieldInfo := #[]) : ClassFile where
  minorVersion := 0
  majorVersion := 65
  constantPool := pool
  accessFlags := fl
  thisClass := this
  superClass := sup
  interfaces := ifs
  fields := fds
  methods := ms
  attributes := attrs
def plain (name : String) (sup : Option ClassId) : Class where
  name := name
  kind := .ordinary
  loader := none
  accessFlags := 33
  super := sup
  interfaces := #[]
  cf := none
  fields := #[]
  methods := #[]
  instanceTypes := #[]
  staticTypes := #[]
  resolved := #[]
  callSites := []
  init := .initialized
  statics := none
  mirror := none

def pool0 : Array CpInfo := pool [(5, u "<init>"), (0, u "()V"), (1, .class_ 10), (1, u "java/lang/Object")] 113

def k0c0 : Code := { maxStack := 0, maxLocals := 1, code := object_method_1_code, exceptionTable := #[], attributes := #[] }
def k0m0 : Method := { name := "<init>", desc := "()V", sig := { parameters := [], returnType := none }, accessFlags := 1, code := some k0c0 }
/-- java/lang/Object -/
def k0 : Class := { plain "java/lang/Object" none with
  accessFlags := 33
  interfaces := #[]
  cf := some (fileOf pool0 8 #[] #[{ accessFlags := 1, nameIndex := 5, descriptorIndex := 6, attributes := #[] }] 33 0 #[] #[])
  fields := #[]
  methods := #[k0m0]
  instanceTypes := #[]
  staticTypes := #[]
  resolved := Array.replicate 124 none
  statics := none }

def pool1 : Array CpInfo := pool [(2, .class_ 4), (1, u "java/lang/Object"), (0, u "<init>"), (0, u "()V"), (0, .class_ 8), (0, u "java/lang/String"), (0, .methodref 7 10), (0, .nameAndType 5 11), (0, u "([C)V"), (0, .methodref 13 14), (0, .class_ 15), (0, .nameAndType 16 17), (0, u "com/example/corvid/corvid/internal/StringEscapesIndexOfPinLaw"), (0, u "hit"), (0, u "([CCIII)Z"), (0, .methodref 19 20), (0, .class_ 21), (0, .nameAndType 22 23), (0, u "com/example/corvid/corvid/internal/StringEscapes"), (0, u "indexOf"), (0, u "(Ljava/lang/String;CII)I"), (3, u "law"), (0, u "(IIII)Z")] 4

def k1m0 : Method := { name := "<init>", desc := "()V", sig := { parameters := [], returnType := none }, accessFlags := 2, code := none }
def k1c1 : Code := { maxStack := 2, maxLocals := 5, code := method_2_code, exceptionTable := #[], attributes := #[] }
def k1m1 : Method := { name := "hit", desc := "([CCIII)Z", sig := { parameters := [(.array .char), .char, .int, .int, .int], returnType := some .boolean }, accessFlags := 10, code := some k1c1 }
def k1c2 : Code := { maxStack := 5, maxLocals := 10, code := code, exceptionTable := #[], attributes := #[] }
def k1m2 : Method := { name := "law", desc := "(IIII)Z", sig := { parameters := [.int, .int, .int, .int], returnType := some .boolean }, accessFlags := 9, code := some k1c2 }
/-- com/example/corvid/corvid/internal/StringEscapesIndexOfPinLaw -/
def k1 : Class := { plain "com/example/corvid/corvid/internal/StringEscapesIndexOfPinLaw" (some 0) with
  accessFlags := 49
  interfaces := #[]
  cf := some (fileOf pool1 13 #[] #[{ accessFlags := 2, nameIndex := 5, descriptorIndex := 6, attributes := #[] }, { accessFlags := 10, nameIndex := 16, descriptorIndex := 17, attributes := #[] }, { accessFlags := 9, nameIndex := 27, descriptorIndex := 28, attributes := #[] }] 49 2 #[] #[])
  fields := #[]
  methods := #[k1m0, k1m1, k1m2]
  instanceTypes := #[]
  staticTypes := #[]
  resolved := Array.replicate 33 none
  statics := none }

def pool2 : Array CpInfo := pool [(1, .class_ 2), (0, u "java/io/Serializable"), (0, .class_ 4), (0, u "java/lang/Object")] 2

/-- java/io/Serializable -/
def k2 : Class := { plain "java/io/Serializable" (some 0) with
  accessFlags := 1537
  interfaces := #[]
  cf := some (fileOf pool2 1 #[] #[] 1537 3 #[] #[])
  fields := #[]
  methods := #[]
  instanceTypes := #[]
  staticTypes := #[]
  resolved := Array.replicate 7 none
  statics := none }

def pool3 : Array CpInfo := pool [(1, .class_ 2), (0, u "java/lang/Comparable"), (0, .class_ 4), (0, u "java/lang/Object")] 7

/-- java/lang/Comparable -/
def k3 : Class := { plain "java/lang/Comparable" (some 0) with
  accessFlags := 1537
  interfaces := #[]
  cf := some (fileOf pool3 1 #[] #[] 1537 3 #[] #[])
  fields := #[]
  methods := #[]
  instanceTypes := #[]
  staticTypes := #[]
  resolved := Array.replicate 12 none
  statics := none }

def pool4 : Array CpInfo := pool [(2, .class_ 4), (1, u "java/lang/CharSequence"), (42, .class_ 48), (0, u "java/lang/CharSequence$1CodePointIterator"), (10, .class_ 60), (0, u "java/lang/CharSequence$1CharIterator"), (5, .class_ 67), (0, u "java/lang/Object")] 63

/-- java/lang/CharSequence -/
def k4 : Class := { plain "java/lang/CharSequence" (some 0) with
  accessFlags := 1537
  interfaces := #[]
  cf := some (fileOf pool4 2 #[.nestMembers #[47, 59]] #[] 1537 66 #[] #[])
  fields := #[]
  methods := #[]
  instanceTypes := #[]
  staticTypes := #[]
  resolved := Array.replicate 131 none
  statics := none }

def pool5 : Array CpInfo := pool [(1, .class_ 2), (0, u "java/lang/constant/Constable"), (0, .class_ 4), (0, u "java/lang/Object")] 6

/-- java/lang/constant/Constable -/
def k5 : Class := { plain "java/lang/constant/Constable" (some 0) with
  accessFlags := 1537
  interfaces := #[]
  cf := some (fileOf pool5 1 #[] #[] 1537 3 #[] #[])
  fields := #[]
  methods := #[]
  instanceTypes := #[]
  staticTypes := #[]
  resolved := Array.replicate 11 none
  statics := none }

def pool6 : Array CpInfo := pool [(1, .class_ 2), (0, u "java/lang/constant/ConstantDesc"), (0, .class_ 4), (0, u "java/lang/Object")] 32

/-- java/lang/constant/ConstantDesc -/
def k6 : Class := { plain "java/lang/constant/ConstantDesc" (some 0) with
  accessFlags := 1537
  interfaces := #[]
  cf := some (fileOf pool6 1 #[] #[] 1537 3 #[] #[])
  fields := #[]
  methods := #[]
  instanceTypes := #[]
  staticTypes := #[]
  resolved := Array.replicate 37 none
  statics := none }

def pool7 : Array CpInfo := pool [(1, .methodref 2 3), (0, .class_ 4), (0, .nameAndType 5 6), (0, u "java/lang/Object"), (0, u "<init>"), (0, u "()V"), (2, .fieldref 10 11), (0, .class_ 12), (0, .nameAndType 13 14), (0, u "java/lang/String"), (0, u "value"), (0, u "[B"), (0, .fieldref 10 16), (0, .nameAndType 17 18), (0, u "coder"), (0, u "B"), (2, u "hash"), (0, u "I"), (2, u "hashIsZero"), (0, u "Z"), (0, .methodref 10 28), (0, .nameAndType 5 29), (0, u "([CIILjava/lang/Void;)V"), (8, .fieldref 10 39), (0, .nameAndType 40 26), (0, u "COMPACT_STRINGS"), (1, .class_ 44), (1, u "java/lang/StringUTF16"), (0, u "compress"), (1, .methodref 42 48), (0, .nameAndType 49 50), (0, u "coderFromArrayLen"), (0, u "([BI)B"), (56, .class_ 109), (1, u "java/lang/StringLatin1"), (32, u "()Z"), (34, .methodref 42 178), (0, .nameAndType 45 179), (0, u "([CII)[B"), (154, u "()I"), (0, .methodref 10 336), (0, .nameAndType 17 337), (0, u "()B"), (154, .methodref 10 493), (0, .nameAndType 494 142), (0, u "isLatin1"), (10, .methodref 10 506), (0, .nameAndType 507 334), (0, u "length"), (5, u "checkFromToIndex"), (9, u "checkBoundsBeginEnd"), (0, u "(III)V"), (50, .class_ 576), (0, u "java/lang/CharSequence"), (22, u "CASE_INSENSITIVE_ORDER"), (0, u "Ljava/util/Comparator;"), (34, u "indexOf"), (0, u "(II)I"), (0, .methodref 107 638), (0, .nameAndType 635 639), (0, u "([BIII)I"), (0, .methodref 42 638), (369, u "([C)V"), (42, .fieldref 1054 1055), (0, .class_ 1056), (0, .nameAndType 1057 1058), (0, u "jdk/internal/util/Preconditions"), (0, u "SIOOBE_FORMATTER"), (0, u "Ljava/util/function/BiFunction;"), (3, .methodref 1054 1063), (0, .nameAndType 513 1064), (0, u "(IIILjava/util/function/BiFunction;)I"), (36, u "serialPersistentFields"), (0, u "[Ljava/io/ObjectStreamField;"), (0, .class_ 1104), (0, u "java/lang/String$CaseInsensitiveComparator"), (1, .class_ 1107), (0, u "java/io/Serializable"), (0, .class_ 1109), (0, u "java/lang/Comparable"), (0, .class_ 1111), (0, u "java/lang/constant/Constable"), (0, .class_ 1113), (0, u "java/lang/constant/ConstantDesc"), (2, u "serialVersionUID"), (0, u "J"), (3, u "REPL"), (0, u "C"), (2, u "LATIN1"), (1, u "UTF16")] 323

def k7m0 : Method := { name := "<init>", desc := "()V", sig := { parameters := [], returnType := none }, accessFlags := 1, code := none }
def k7c1 : Code := { maxStack := 5, maxLocals := 2, code := jdk_42_method_3_code, exceptionTable := #[], attributes := #[] }
def k7m1 : Method := { name := "<init>", desc := "([C)V", sig := { parameters := [(.array .char)], returnType := none }, accessFlags := 1, code := some k7c1 }
def k7c2 : Code := { maxStack := 2, maxLocals := 1, code := jdk_42_method_54_code, exceptionTable := #[], attributes := #[] }
def k7m2 : Method := { name := "length", desc := "()I", sig := { parameters := [], returnType := some .int }, accessFlags := 1, code := some k7c2 }
def k7c3 : Code := { maxStack := 4, maxLocals := 3, code := jdk_42_method_80_code, exceptionTable := #[], attributes := #[] }
def k7m3 : Method := { name := "indexOf", desc := "(II)I", sig := { parameters := [.int, .int], returnType := some .int }, accessFlags := 1, code := some k7c3 }
def k7c4 : Code := { maxStack := 4, maxLocals := 6, code := jdk_42_method_149_code, exceptionTable := #[], attributes := #[] }
def k7m4 : Method := { name := "<init>", desc := "([CIILjava/lang/Void;)V", sig := { parameters := [(.array .char), .int, .int, (.object "java/lang/Void")], returnType := none }, accessFlags := 2, code := some k7c4 }
def k7c5 : Code := { maxStack := 1, maxLocals := 1, code := jdk_42_method_152_code, exceptionTable := #[], attributes := #[] }
def k7m5 : Method := { name := "coder", desc := "()B", sig := { parameters := [], returnType := some .byte }, accessFlags := 0, code := some k7c5 }
def k7c6 : Code := { maxStack := 1, maxLocals := 1, code := jdk_42_method_154_code, exceptionTable := #[], attributes := #[] }
def k7m6 : Method := { name := "isLatin1", desc := "()Z", sig := { parameters := [], returnType := some .boolean }, accessFlags := 0, code := some k7c6 }
def k7c7 : Code := { maxStack := 4, maxLocals := 3, code := jdk_42_method_158_code, exceptionTable := #[], attributes := #[] }
def k7m7 : Method := { name := "checkBoundsBeginEnd", desc := "(III)V", sig := { parameters := [.int, .int, .int], returnType := none }, accessFlags := 8, code := some k7c7 }
/-- java/lang/String -/
def k7 : Class := { plain "java/lang/String" (some 0) with
  accessFlags := 49
  interfaces := #[2, 3, 4, 5, 6]
  cf := some (fileOf pool7 10 #[.nestMembers #[1103]] #[{ accessFlags := 1, nameIndex := 5, descriptorIndex := 6, attributes := #[] }, { accessFlags := 1, nameIndex := 5, descriptorIndex := 1010, attributes := #[] }, { accessFlags := 1, nameIndex := 507, descriptorIndex := 334, attributes := #[] }, { accessFlags := 1, nameIndex := 635, descriptorIndex := 636, attributes := #[] }, { accessFlags := 2, nameIndex := 5, descriptorIndex := 29, attributes := #[] }, { accessFlags := 0, nameIndex := 17, descriptorIndex := 337, attributes := #[] }, { accessFlags := 0, nameIndex := 494, descriptorIndex := 142, attributes := #[] }, { accessFlags := 8, nameIndex := 523, descriptorIndex := 524, attributes := #[] }] 49 2 #[1106, 1108, 575, 1110, 1112] #[{ accessFlags := 18, nameIndex := 13, descriptorIndex := 14, attributes := #[] }, { accessFlags := 18, nameIndex := 17, descriptorIndex := 18, attributes := #[] }, { accessFlags := 2, nameIndex := 21, descriptorIndex := 22, attributes := #[] }, { accessFlags := 2, nameIndex := 25, descriptorIndex := 26, attributes := #[] }, { accessFlags := 26, nameIndex := 1116, descriptorIndex := 1117, attributes := #[] }, { accessFlags := 24, nameIndex := 40, descriptorIndex := 26, attributes := #[] }, { accessFlags := 26, nameIndex := 1101, descriptorIndex := 1102, attributes := #[] }, { accessFlags := 26, nameIndex := 1121, descriptorIndex := 1122, attributes := #[] }, { accessFlags := 25, nameIndex := 599, descriptorIndex := 600, attributes := #[] }, { accessFlags := 24, nameIndex := 1125, descriptorIndex := 18, attributes := #[] }, { accessFlags := 24, nameIndex := 1127, descriptorIndex := 18, attributes := #[] }])
  fields := #[{ name := "value", type := (.array .byte), accessFlags := 18, slot := 0, constantValue := 0 }, { name := "coder", type := .byte, accessFlags := 18, slot := 1, constantValue := 0 }, { name := "hash", type := .int, accessFlags := 2, slot := 2, constantValue := 0 }, { name := "hashIsZero", type := .boolean, accessFlags := 2, slot := 3, constantValue := 0 }, { name := "serialVersionUID", type := .long, accessFlags := 26, slot := 0, constantValue := 0 }, { name := "COMPACT_STRINGS", type := .boolean, accessFlags := 24, slot := 1, constantValue := 0 }, { name := "serialPersistentFields", type := (.array (.object "java/io/ObjectStreamField")), accessFlags := 26, slot := 2, constantValue := 0 }, { name := "REPL", type := .char, accessFlags := 26, slot := 3, constantValue := 0 }, { name := "CASE_INSENSITIVE_ORDER", type := (.object "java/util/Comparator"), accessFlags := 25, slot := 4, constantValue := 0 }, { name := "LATIN1", type := .byte, accessFlags := 24, slot := 5, constantValue := 0 }, { name := "UTF16", type := .byte, accessFlags := 24, slot := 6, constantValue := 0 }]
  methods := #[k7m0, k7m1, k7m2, k7m3, k7m4, k7m5, k7m6, k7m7]
  instanceTypes := #[(.array .byte), .byte, .int, .boolean]
  staticTypes := #[.long, .boolean, (.array (.object "java/io/ObjectStreamField")), .char, (.object "java/util/Comparator"), .byte, .byte]
  resolved := Array.replicate 1451 none
  statics := some 0 }

def pool8 : Array CpInfo := pool [(3, .class_ 4), (0, u "java/lang/String"), (1, .class_ 8), (1, u "java/lang/Object"), (0, u "<init>"), (0, u "()V"), (0, .methodref 12 13), (0, .class_ 14), (0, .nameAndType 15 16), (0, u "java/lang/StringUTF16"), (0, u "newBytesLength"), (0, u "(I)I"), (3, .integer 1073741823), (23, .fieldref 12 45), (0, .nameAndType 46 47), (0, u "$assertionsDisabled"), (0, u "Z"), (0, .methodref 12 49), (0, .nameAndType 50 51), (0, u "length"), (0, u "([B)I"), (7, .fieldref 12 60), (0, .nameAndType 61 62), (0, u "HI_BYTE_SHIFT"), (0, u "I"), (0, .fieldref 12 64), (0, .nameAndType 65 62), (0, u "LO_BYTE_SHIFT"), (5, .methodref 12 72), (0, .nameAndType 73 74), (0, u "getChar"), (0, u "([BI)C"), (21, .methodref 12 97), (0, .nameAndType 98 99), (0, u "checkBoundsBeginEnd"), (0, u "(II[B)V"), (7, .methodref 12 108), (0, .nameAndType 109 110), (0, u "newBytesFor"), (0, u "(I)[B"), (0, .methodref 12 112), (0, .nameAndType 113 114), (0, u "putChar"), (0, u "([BII)V"), (0, .methodref 12 116), (0, .nameAndType 117 118), (0, u "compress"), (0, u "([CI[BII)I"), (0, .methodref 12 120), (0, .nameAndType 121 122), (0, u "toBytes"), (0, u "([CII)[B"), (60, .methodref 184 185), (0, .class_ 186), (0, .nameAndType 187 188), (0, u "java/lang/Math"), (0, u "min"), (0, u "(II)I"), (35, .methodref 184 225), (0, .nameAndType 226 188), (0, u "max"), (0, .integer 65536), (0, .methodref 12 229), (0, .nameAndType 230 231), (0, u "indexOfChar"), (0, u "([BIII)I"), (9, .methodref 3 242), (0, .nameAndType 98 243), (0, u "(III)V"), (0, .methodref 12 245), (0, .nameAndType 246 231), (0, u "indexOfCharUnsafe"), (14, u "coderFromArrayLen"), (0, u "([BI)B"), (5, u "indexOf"), (100, .class_ 371), (1, u "java/lang/StringUTF16$LinesSpliterator"), (58, u "MAX_LENGTH"), (196, .class_ 628), (0, u "java/lang/StringUTF16$CodePointsSpliterator"), (0, .class_ 630), (0, u "java/lang/StringUTF16$CharsSpliterator")] 4

def k8m0 : Method := { name := "<init>", desc := "()V", sig := { parameters := [], returnType := none }, accessFlags := 0, code := none }
def k8c1 : Code := { maxStack := 1, maxLocals := 1, code := jdk_52_method_2_code, exceptionTable := #[], attributes := #[] }
def k8m1 : Method := { name := "newBytesFor", desc := "(I)[B", sig := { parameters := [.int], returnType := some (.array .byte) }, accessFlags := 9, code := some k8c1 }
def k8c2 : Code := { maxStack := 4, maxLocals := 1, code := jdk_52_method_3_code, exceptionTable := #[], attributes := #[] }
def k8m2 : Method := { name := "newBytesLength", desc := "(I)I", sig := { parameters := [.int], returnType := some .int }, accessFlags := 9, code := some k8c2 }
def k8c3 : Code := { maxStack := 4, maxLocals := 3, code := jdk_52_method_4_code, exceptionTable := #[], attributes := #[] }
def k8m3 : Method := { name := "putChar", desc := "([BII)V", sig := { parameters := [(.array .byte), .int, .int], returnType := none }, accessFlags := 8, code := some k8c3 }
def k8c4 : Code := { maxStack := 3, maxLocals := 2, code := jdk_52_method_5_code, exceptionTable := #[], attributes := #[] }
def k8m4 : Method := { name := "getChar", desc := "([BI)C", sig := { parameters := [(.array .byte), .int], returnType := some .char }, accessFlags := 8, code := some k8c4 }
def k8c5 : Code := { maxStack := 2, maxLocals := 1, code := jdk_52_method_6_code, exceptionTable := #[], attributes := #[] }
def k8m5 : Method := { name := "length", desc := "([B)I", sig := { parameters := [(.array .byte)], returnType := some .int }, accessFlags := 9, code := some k8c5 }
def k8c6 : Code := { maxStack := 4, maxLocals := 5, code := jdk_52_method_14_code, exceptionTable := #[], attributes := #[] }
def k8m6 : Method := { name := "toBytes", desc := "([CII)[B", sig := { parameters := [(.array .char), .int, .int], returnType := some (.array .byte) }, accessFlags := 9, code := some k8c6 }
def k8c7 : Code := { maxStack := 2, maxLocals := 2, code := jdk_52_method_15_code, exceptionTable := #[], attributes := #[] }
def k8m7 : Method := { name := "coderFromArrayLen", desc := "([BI)B", sig := { parameters := [(.array .byte), .int], returnType := some .byte }, accessFlags := 8, code := some k8c7 }
def k8c8 : Code := { maxStack := 5, maxLocals := 6, code := jdk_52_method_16_code, exceptionTable := #[], attributes := #[] }
def k8m8 : Method := { name := "compress", desc := "([CII)[B", sig := { parameters := [(.array .char), .int, .int], returnType := some (.array .byte) }, accessFlags := 9, code := some k8c8 }
def k8c9 : Code := { maxStack := 3, maxLocals := 7, code := jdk_52_method_21_code, exceptionTable := #[], attributes := #[] }
def k8m9 : Method := { name := "compress", desc := "([CI[BII)I", sig := { parameters := [(.array .char), .int, (.array .byte), .int, .int], returnType := some .int }, accessFlags := 9, code := some k8c9 }
def k8c10 : Code := { maxStack := 4, maxLocals := 4, code := jdk_52_method_40_code, exceptionTable := #[], attributes := #[] }
def k8m10 : Method := { name := "indexOf", desc := "([BIII)I", sig := { parameters := [(.array .byte), .int, .int, .int], returnType := some .int }, accessFlags := 9, code := some k8c10 }
def k8c11 : Code := { maxStack := 4, maxLocals := 4, code := jdk_52_method_47_code, exceptionTable := #[], attributes := #[] }
def k8m11 : Method := { name := "indexOfChar", desc := "([BIII)I", sig := { parameters := [(.array .byte), .int, .int, .int], returnType := some .int }, accessFlags := 10, code := some k8c11 }
def k8c12 : Code := { maxStack := 2, maxLocals := 5, code := jdk_52_method_48_code, exceptionTable := #[], attributes := #[] }
def k8m12 : Method := { name := "indexOfCharUnsafe", desc := "([BIII)I", sig := { parameters := [(.array .byte), .int, .int, .int], returnType := some .int }, accessFlags := 10, code := some k8c12 }
def k8c13 : Code := { maxStack := 3, maxLocals := 3, code := jdk_52_method_93_code, exceptionTable := #[], attributes := #[] }
def k8m13 : Method := { name := "checkBoundsBeginEnd", desc := "(II[B)V", sig := { parameters := [.int, .int, (.array .byte)], returnType := none }, accessFlags := 9, code := some k8c13 }
/-- java/lang/StringUTF16 -/
def k8 : Class := { plain "java/lang/StringUTF16" (some 0) with
  accessFlags := 48
  interfaces := #[]
  cf := some (fileOf pool8 12 #[.nestMembers #[627, 629, 369]] #[{ accessFlags := 0, nameIndex := 9, descriptorIndex := 10, attributes := #[] }, { accessFlags := 9, nameIndex := 109, descriptorIndex := 110, attributes := #[] }, { accessFlags := 9, nameIndex := 15, descriptorIndex := 16, attributes := #[] }, { accessFlags := 8, nameIndex := 113, descriptorIndex := 114, attributes := #[] }, { accessFlags := 8, nameIndex := 73, descriptorIndex := 74, attributes := #[] }, { accessFlags := 9, nameIndex := 50, descriptorIndex := 51, attributes := #[] }, { accessFlags := 9, nameIndex := 121, descriptorIndex := 122, attributes := #[] }, { accessFlags := 8, nameIndex := 261, descriptorIndex := 262, attributes := #[] }, { accessFlags := 9, nameIndex := 117, descriptorIndex := 122, attributes := #[] }, { accessFlags := 9, nameIndex := 117, descriptorIndex := 118, attributes := #[] }, { accessFlags := 9, nameIndex := 268, descriptorIndex := 231, attributes := #[] }, { accessFlags := 10, nameIndex := 230, descriptorIndex := 231, attributes := #[] }, { accessFlags := 10, nameIndex := 246, descriptorIndex := 231, attributes := #[] }, { accessFlags := 9, nameIndex := 98, descriptorIndex := 99, attributes := #[] }] 48 6 #[] #[{ accessFlags := 26, nameIndex := 61, descriptorIndex := 62, attributes := #[] }, { accessFlags := 26, nameIndex := 65, descriptorIndex := 62, attributes := #[] }, { accessFlags := 24, nameIndex := 430, descriptorIndex := 62, attributes := #[] }, { accessFlags := 4120, nameIndex := 46, descriptorIndex := 47, attributes := #[] }])
  fields := #[{ name := "HI_BYTE_SHIFT", type := .int, accessFlags := 26, slot := 0, constantValue := 0 }, { name := "LO_BYTE_SHIFT", type := .int, accessFlags := 26, slot := 1, constantValue := 0 }, { name := "MAX_LENGTH", type := .int, accessFlags := 24, slot := 2, constantValue := 0 }, { name := "$assertionsDisabled", type := .boolean, accessFlags := 4120, slot := 3, constantValue := 0 }]
  methods := #[k8m0, k8m1, k8m2, k8m3, k8m4, k8m5, k8m6, k8m7, k8m8, k8m9, k8m10, k8m11, k8m12, k8m13]
  instanceTypes := #[]
  staticTypes := #[.int, .int, .int, .boolean]
  resolved := Array.replicate 635 none
  statics := some 1 }

def pool9 : Array CpInfo := pool [(2, .class_ 4), (1, u "java/lang/Object"), (0, u "<init>"), (0, u "()V"), (0, .class_ 8), (0, u "com/example/corvid/corvid/internal/StringEscapes"), (3, .class_ 14), (1, u "java/lang/String"), (35, u "ESCAPE_LETTERS"), (0, u "[C"), (34, u "UTF8_LEADS"), (0, u "[I"), (11, u "indexOf"), (0, u "(Ljava/lang/String;CII)I"), (46, u "LETTER_ESCAPES"), (101, u "(II)I"), (1, .methodref 12 252), (0, .nameAndType 99 249), (50, u "CONTROL_LETTERS"), (0, u "Ljava/lang/String;"), (1, u "CONTROL_CHARACTERS"), (0, u "SELF_ESCAPES"), (0, u "SPACE"), (0, u "C"), (1, u "DELETE"), (1, u "FIRST_NON_ASCII"), (0, u "I"), (1, u "MAX_OCTAL_DIGITS"), (1, u "MAX_BYTE_HEX_DIGITS"), (1, u "BMP_HEX_DIGITS"), (1, u "CODE_POINT_HEX_DIGITS"), (1, u "NUMERIC")] 43

def k9m0 : Method := { name := "<init>", desc := "()V", sig := { parameters := [], returnType := none }, accessFlags := 2, code := none }
def k9c1 : Code := { maxStack := 3, maxLocals := 5, code := prog_13_method_25_code, exceptionTable := #[], attributes := #[] }
def k9m1 : Method := { name := "indexOf", desc := "(Ljava/lang/String;CII)I", sig := { parameters := [(.object "java/lang/String"), .char, .int, .int], returnType := some .int }, accessFlags := 9, code := some k9c1 }
/-- com/example/corvid/corvid/internal/StringEscapes -/
def k9 : Class := { plain "com/example/corvid/corvid/internal/StringEscapes" (some 0) with
  accessFlags := 49
  interfaces := #[]
  cf := some (fileOf pool9 7 #[] #[{ accessFlags := 2, nameIndex := 5, descriptorIndex := 6, attributes := #[] }, { accessFlags := 9, nameIndex := 99, descriptorIndex := 100, attributes := #[] }] 49 2 #[] #[{ accessFlags := 26, nameIndex := 303, descriptorIndex := 304, attributes := #[] }, { accessFlags := 26, nameIndex := 306, descriptorIndex := 304, attributes := #[] }, { accessFlags := 26, nameIndex := 307, descriptorIndex := 304, attributes := #[] }, { accessFlags := 26, nameIndex := 308, descriptorIndex := 309, attributes := #[] }, { accessFlags := 26, nameIndex := 311, descriptorIndex := 309, attributes := #[] }, { accessFlags := 26, nameIndex := 313, descriptorIndex := 314, attributes := #[] }, { accessFlags := 26, nameIndex := 316, descriptorIndex := 314, attributes := #[] }, { accessFlags := 26, nameIndex := 318, descriptorIndex := 314, attributes := #[] }, { accessFlags := 26, nameIndex := 320, descriptorIndex := 314, attributes := #[] }, { accessFlags := 26, nameIndex := 322, descriptorIndex := 314, attributes := #[] }, { accessFlags := 26, nameIndex := 147, descriptorIndex := 51, attributes := #[] }, { accessFlags := 26, nameIndex := 86, descriptorIndex := 87, attributes := #[] }, { accessFlags := 26, nameIndex := 324, descriptorIndex := 309, attributes := #[] }, { accessFlags := 26, nameIndex := 50, descriptorIndex := 51, attributes := #[] }])
  fields := #[{ name := "CONTROL_LETTERS", type := (.object "java/lang/String"), accessFlags := 26, slot := 0, constantValue := 0 }, { name := "CONTROL_CHARACTERS", type := (.object "java/lang/String"), accessFlags := 26, slot := 1, constantValue := 0 }, { name := "SELF_ESCAPES", type := (.object "java/lang/String"), accessFlags := 26, slot := 2, constantValue := 0 }, { name := "SPACE", type := .char, accessFlags := 26, slot := 3, constantValue := 0 }, { name := "DELETE", type := .char, accessFlags := 26, slot := 4, constantValue := 0 }, { name := "FIRST_NON_ASCII", type := .int, accessFlags := 26, slot := 5, constantValue := 0 }, { name := "MAX_OCTAL_DIGITS", type := .int, accessFlags := 26, slot := 6, constantValue := 0 }, { name := "MAX_BYTE_HEX_DIGITS", type := .int, accessFlags := 26, slot := 7, constantValue := 0 }, { name := "BMP_HEX_DIGITS", type := .int, accessFlags := 26, slot := 8, constantValue := 0 }, { name := "CODE_POINT_HEX_DIGITS", type := .int, accessFlags := 26, slot := 9, constantValue := 0 }, { name := "LETTER_ESCAPES", type := (.array .char), accessFlags := 26, slot := 10, constantValue := 0 }, { name := "UTF8_LEADS", type := (.array .int), accessFlags := 26, slot := 11, constantValue := 0 }, { name := "NUMERIC", type := .char, accessFlags := 26, slot := 12, constantValue := 0 }, { name := "ESCAPE_LETTERS", type := (.array .char), accessFlags := 26, slot := 13, constantValue := 0 }]
  methods := #[k9m0, k9m1]
  instanceTypes := #[]
  staticTypes := #[(.object "java/lang/String"), (.object "java/lang/String"), (.object "java/lang/String"), .char, .char, .int, .int, .int, .int, .int, (.array .char), (.array .int), .char, (.array .char)]
  resolved := Array.replicate 368 none
  statics := none }

def pool10 : Array CpInfo := pool [(4, .class_ 6), (1, u "java/lang/Object"), (0, u "<init>"), (0, u "()V"), (5, .class_ 16), (1, u "java/lang/StringLatin1"), (21, .methodref 39 40), (0, .class_ 41), (0, .nameAndType 42 43), (0, u "java/lang/Math"), (0, u "min"), (0, u "(II)I"), (44, .methodref 14 89), (0, .nameAndType 90 91), (0, u "canEncode"), (0, u "(I)Z"), (0, .methodref 39 93), (0, .nameAndType 94 43), (0, u "max"), (0, .methodref 14 96), (0, .nameAndType 97 98), (0, u "indexOfChar"), (0, u "([BIII)I"), (2, u "indexOf"), (19, u "$assertionsDisabled"), (0, u "Z"), (98, .class_ 223), (1, u "java/lang/StringLatin1$LinesSpliterator"), (166, .class_ 391), (0, u "java/lang/StringLatin1$CharsSpliterator")] 3

def k10m0 : Method := { name := "<init>", desc := "()V", sig := { parameters := [], returnType := none }, accessFlags := 0, code := none }
def k10c1 : Code := { maxStack := 2, maxLocals := 1, code := jdk_43_method_4_code, exceptionTable := #[], attributes := #[] }
def k10m1 : Method := { name := "canEncode", desc := "(I)Z", sig := { parameters := [.int], returnType := some .boolean }, accessFlags := 9, code := some k10c1 }
def k10c2 : Code := { maxStack := 4, maxLocals := 4, code := jdk_43_method_22_code, exceptionTable := #[], attributes := #[] }
def k10m2 : Method := { name := "indexOf", desc := "([BIII)I", sig := { parameters := [(.array .byte), .int, .int, .int], returnType := some .int }, accessFlags := 9, code := some k10c2 }
def k10c3 : Code := { maxStack := 2, maxLocals := 6, code := jdk_43_method_23_code, exceptionTable := #[], attributes := #[] }
def k10m3 : Method := { name := "indexOfChar", desc := "([BIII)I", sig := { parameters := [(.array .byte), .int, .int, .int], returnType := some .int }, accessFlags := 10, code := some k10c3 }
/-- java/lang/StringLatin1 -/
def k10 : Class := { plain "java/lang/StringLatin1" (some 0) with
  accessFlags := 48
  interfaces := #[]
  cf := some (fileOf pool10 14 #[.nestMembers #[390, 221]] #[{ accessFlags := 0, nameIndex := 7, descriptorIndex := 8, attributes := #[] }, { accessFlags := 9, nameIndex := 90, descriptorIndex := 91, attributes := #[] }, { accessFlags := 9, nameIndex := 101, descriptorIndex := 98, attributes := #[] }, { accessFlags := 10, nameIndex := 97, descriptorIndex := 98, attributes := #[] }] 48 4 #[] #[{ accessFlags := 4120, nameIndex := 121, descriptorIndex := 122, attributes := #[] }])
  fields := #[{ name := "$assertionsDisabled", type := .boolean, accessFlags := 4120, slot := 0, constantValue := 0 }]
  methods := #[k10m0, k10m1, k10m2, k10m3]
  instanceTypes := #[]
  staticTypes := #[.boolean]
  resolved := Array.replicate 395 none
  statics := none }

def pool11 : Array CpInfo := pool [(1, .class_ 2), (0, u "java/lang/Math"), (1, .class_ 6), (1, u "java/lang/Object"), (0, u "<init>"), (0, u "()V"), (89, .class_ 100), (1, u "java/lang/Math$RandomNumberGeneratorHolder"), (71, u "negativeZeroFloatBits"), (0, u "J"), (2, u "negativeZeroDoubleBits"), (21, u "max"), (2, u "min"), (43, u "$assertionsDisabled"), (0, u "Z"), (88, u "(II)I"), (2, u "twoToTheDoubleScaleDown"), (0, u "D"), (4, u "twoToTheDoubleScaleUp"), (9, u "E"), (3, u "PI"), (2, u "TAU"), (2, u "DEGREES_TO_RADIANS"), (0, u "RADIANS_TO_DEGREES")] 94

def k11m0 : Method := { name := "<init>", desc := "()V", sig := { parameters := [], returnType := none }, accessFlags := 2, code := none }
def k11c1 : Code := { maxStack := 2, maxLocals := 2, code := jdk_29_method_65_code, exceptionTable := #[], attributes := #[] }
def k11m1 : Method := { name := "max", desc := "(II)I", sig := { parameters := [.int, .int], returnType := some .int }, accessFlags := 9, code := some k11c1 }
def k11c2 : Code := { maxStack := 2, maxLocals := 2, code := jdk_29_method_69_code, exceptionTable := #[], attributes := #[] }
def k11m2 : Method := { name := "min", desc := "(II)I", sig := { parameters := [.int, .int], returnType := some .int }, accessFlags := 9, code := some k11c2 }
/-- java/lang/Math -/
def k11 : Class := { plain "java/lang/Math" (some 0) with
  accessFlags := 49
  interfaces := #[]
  cf := some (fileOf pool11 1 #[.nestMembers #[98]] #[{ accessFlags := 2, nameIndex := 7, descriptorIndex := 8, attributes := #[] }, { accessFlags := 9, nameIndex := 198, descriptorIndex := 335, attributes := #[] }, { accessFlags := 9, nameIndex := 201, descriptorIndex := 335, attributes := #[] }] 49 4 #[] #[{ accessFlags := 25, nameIndex := 354, descriptorIndex := 339, attributes := #[] }, { accessFlags := 25, nameIndex := 358, descriptorIndex := 339, attributes := #[] }, { accessFlags := 25, nameIndex := 361, descriptorIndex := 339, attributes := #[] }, { accessFlags := 26, nameIndex := 364, descriptorIndex := 339, attributes := #[] }, { accessFlags := 26, nameIndex := 365, descriptorIndex := 339, attributes := #[] }, { accessFlags := 26, nameIndex := 172, descriptorIndex := 173, attributes := #[] }, { accessFlags := 26, nameIndex := 176, descriptorIndex := 173, attributes := #[] }, { accessFlags := 8, nameIndex := 344, descriptorIndex := 339, attributes := #[] }, { accessFlags := 8, nameIndex := 338, descriptorIndex := 339, attributes := #[] }, { accessFlags := 4120, nameIndex := 245, descriptorIndex := 246, attributes := #[] }])
  fields := #[{ name := "E", type := .double, accessFlags := 25, slot := 0, constantValue := 0 }, { name := "PI", type := .double, accessFlags := 25, slot := 1, constantValue := 0 }, { name := "TAU", type := .double, accessFlags := 25, slot := 2, constantValue := 0 }, { name := "DEGREES_TO_RADIANS", type := .double, accessFlags := 26, slot := 3, constantValue := 0 }, { name := "RADIANS_TO_DEGREES", type := .double, accessFlags := 26, slot := 4, constantValue := 0 }, { name := "negativeZeroFloatBits", type := .long, accessFlags := 26, slot := 5, constantValue := 0 }, { name := "negativeZeroDoubleBits", type := .long, accessFlags := 26, slot := 6, constantValue := 0 }, { name := "twoToTheDoubleScaleUp", type := .double, accessFlags := 8, slot := 7, constantValue := 0 }, { name := "twoToTheDoubleScaleDown", type := .double, accessFlags := 8, slot := 8, constantValue := 0 }, { name := "$assertionsDisabled", type := .boolean, accessFlags := 4120, slot := 9, constantValue := 0 }]
  methods := #[k11m0, k11m1, k11m2]
  instanceTypes := #[]
  staticTypes := #[.double, .double, .double, .double, .double, .long, .long, .double, .double, .boolean]
  resolved := Array.replicate 460 none
  statics := none }

def pool12 : Array CpInfo := pool [(2, .class_ 4), (1, u "java/lang/Object"), (0, u "<init>"), (0, u "()V"), (17, .class_ 26), (1, u "jdk/internal/util/Preconditions"), (20, u "checkFromToIndex"), (7, .class_ 56), (0, u "jdk/internal/util/Preconditions$4"), (57, .class_ 115), (0, u "jdk/internal/util/Preconditions$1"), (7, u "SIOOBE_FORMATTER"), (0, u "Ljava/util/function/BiFunction;"), (0, .class_ 126), (0, u "jdk/internal/util/Preconditions$2"), (3, u "AIOOBE_FORMATTER"), (0, .class_ 132), (0, u "jdk/internal/util/Preconditions$3"), (3, u "IOOBE_FORMATTER"), (46, u "(IIILjava/util/function/BiFunction;)I")] 10

def k12m0 : Method := { name := "<init>", desc := "()V", sig := { parameters := [], returnType := none }, accessFlags := 1, code := none }
def k12c1 : Code := { maxStack := 4, maxLocals := 4, code := jdk_41_method_12_code, exceptionTable := #[], attributes := #[] }
def k12m1 : Method := { name := "checkFromToIndex", desc := "(IIILjava/util/function/BiFunction;)I", sig := { parameters := [.int, .int, .int, (.object "java/util/function/BiFunction")], returnType := some .int }, accessFlags := 9, code := some k12c1 }
/-- jdk/internal/util/Preconditions -/
def k12 : Class := { plain "jdk/internal/util/Preconditions" (some 0) with
  accessFlags := 33
  interfaces := #[]
  cf := some (fileOf pool12 24 #[.nestMembers #[55, 131, 125, 114]] #[{ accessFlags := 1, nameIndex := 5, descriptorIndex := 6, attributes := #[] }, { accessFlags := 9, nameIndex := 47, descriptorIndex := 183, attributes := #[] }] 33 2 #[] #[{ accessFlags := 25, nameIndex := 123, descriptorIndex := 124, attributes := #[] }, { accessFlags := 25, nameIndex := 130, descriptorIndex := 124, attributes := #[] }, { accessFlags := 25, nameIndex := 136, descriptorIndex := 124, attributes := #[] }])
  fields := #[{ name := "SIOOBE_FORMATTER", type := (.object "java/util/function/BiFunction"), accessFlags := 25, slot := 0, constantValue := 0 }, { name := "AIOOBE_FORMATTER", type := (.object "java/util/function/BiFunction"), accessFlags := 25, slot := 1, constantValue := 0 }, { name := "IOOBE_FORMATTER", type := (.object "java/util/function/BiFunction"), accessFlags := 25, slot := 2, constantValue := 0 }]
  methods := #[k12m0, k12m1]
  instanceTypes := #[]
  staticTypes := #[(.object "java/util/function/BiFunction"), (.object "java/util/function/BiFunction"), (.object "java/util/function/BiFunction")]
  resolved := Array.replicate 194 none
  statics := some 2 }

def pool13 : Array CpInfo := pool [(9, u "<init>"), (6, .class_ 18), (1, u "java/lang/Object"), (0, u "()V"), (1, .class_ 23), (1, u "jdk/internal/util/ArraysSupport"), (0, u "LOG2_ARRAY_LONG_INDEX_SCALE"), (0, u "I"), (2, u "U"), (0, u "Ljdk/internal/misc/Unsafe;"), (8, u "BIG_ENDIAN"), (0, u "Z"), (8, u "LOG2_BYTE_BIT_SIZE"), (4, u "LOG2_ARRAY_INT_INDEX_SCALE"), (54, u "JLA"), (0, u "Ljdk/internal/access/JavaLangAccess;"), (11, u "LOG2_ARRAY_BOOLEAN_INDEX_SCALE"), (9, u "LOG2_ARRAY_BYTE_INDEX_SCALE"), (5, u "LOG2_ARRAY_CHAR_INDEX_SCALE"), (5, u "LOG2_ARRAY_SHORT_INDEX_SCALE"), (18, u "LOG2_ARRAY_FLOAT_INDEX_SCALE"), (24, u "LOG2_ARRAY_DOUBLE_INDEX_SCALE"), (89, u "T_BOOLEAN"), (2, u "T_CHAR"), (1, u "T_FLOAT"), (1, u "T_DOUBLE"), (1, u "T_BYTE"), (1, u "T_SHORT"), (1, u "T_INT"), (1, u "T_LONG"), (1, u "SOFT_MAX_ARRAY_LENGTH")] 83

def k13m0 : Method := { name := "<init>", desc := "()V", sig := { parameters := [], returnType := none }, accessFlags := 2, code := none }
/-- jdk/internal/util/ArraysSupport -/
def k13 : Class := { plain "jdk/internal/util/ArraysSupport" (some 0) with
  accessFlags := 33
  interfaces := #[]
  cf := some (fileOf pool13 21 #[] #[{ accessFlags := 2, nameIndex := 9, descriptorIndex := 19, attributes := #[] }] 33 16 #[] #[{ accessFlags := 24, nameIndex := 28, descriptorIndex := 29, attributes := #[] }, { accessFlags := 26, nameIndex := 38, descriptorIndex := 39, attributes := #[] }, { accessFlags := 25, nameIndex := 121, descriptorIndex := 25, attributes := #[] }, { accessFlags := 25, nameIndex := 131, descriptorIndex := 25, attributes := #[] }, { accessFlags := 25, nameIndex := 137, descriptorIndex := 25, attributes := #[] }, { accessFlags := 25, nameIndex := 143, descriptorIndex := 25, attributes := #[] }, { accessFlags := 25, nameIndex := 53, descriptorIndex := 25, attributes := #[] }, { accessFlags := 25, nameIndex := 24, descriptorIndex := 25, attributes := #[] }, { accessFlags := 25, nameIndex := 162, descriptorIndex := 25, attributes := #[] }, { accessFlags := 25, nameIndex := 187, descriptorIndex := 25, attributes := #[] }, { accessFlags := 26, nameIndex := 48, descriptorIndex := 25, attributes := #[] }, { accessFlags := 25, nameIndex := 277, descriptorIndex := 25, attributes := #[] }, { accessFlags := 25, nameIndex := 280, descriptorIndex := 25, attributes := #[] }, { accessFlags := 25, nameIndex := 282, descriptorIndex := 25, attributes := #[] }, { accessFlags := 25, nameIndex := 284, descriptorIndex := 25, attributes := #[] }, { accessFlags := 25, nameIndex := 286, descriptorIndex := 25, attributes := #[] }, { accessFlags := 25, nameIndex := 288, descriptorIndex := 25, attributes := #[] }, { accessFlags := 25, nameIndex := 290, descriptorIndex := 25, attributes := #[] }, { accessFlags := 25, nameIndex := 292, descriptorIndex := 25, attributes := #[] }, { accessFlags := 26, nameIndex := 108, descriptorIndex := 109, attributes := #[] }, { accessFlags := 25, nameIndex := 294, descriptorIndex := 25, attributes := #[] }])
  fields := #[{ name := "U", type := (.object "jdk/internal/misc/Unsafe"), accessFlags := 24, slot := 0, constantValue := 0 }, { name := "BIG_ENDIAN", type := .boolean, accessFlags := 26, slot := 1, constantValue := 0 }, { name := "LOG2_ARRAY_BOOLEAN_INDEX_SCALE", type := .int, accessFlags := 25, slot := 2, constantValue := 0 }, { name := "LOG2_ARRAY_BYTE_INDEX_SCALE", type := .int, accessFlags := 25, slot := 3, constantValue := 0 }, { name := "LOG2_ARRAY_CHAR_INDEX_SCALE", type := .int, accessFlags := 25, slot := 4, constantValue := 0 }, { name := "LOG2_ARRAY_SHORT_INDEX_SCALE", type := .int, accessFlags := 25, slot := 5, constantValue := 0 }, { name := "LOG2_ARRAY_INT_INDEX_SCALE", type := .int, accessFlags := 25, slot := 6, constantValue := 0 }, { name := "LOG2_ARRAY_LONG_INDEX_SCALE", type := .int, accessFlags := 25, slot := 7, constantValue := 0 }, { name := "LOG2_ARRAY_FLOAT_INDEX_SCALE", type := .int, accessFlags := 25, slot := 8, constantValue := 0 }, { name := "LOG2_ARRAY_DOUBLE_INDEX_SCALE", type := .int, accessFlags := 25, slot := 9, constantValue := 0 }, { name := "LOG2_BYTE_BIT_SIZE", type := .int, accessFlags := 26, slot := 10, constantValue := 0 }, { name := "T_BOOLEAN", type := .int, accessFlags := 25, slot := 11, constantValue := 0 }, { name := "T_CHAR", type := .int, accessFlags := 25, slot := 12, constantValue := 0 }, { name := "T_FLOAT", type := .int, accessFlags := 25, slot := 13, constantValue := 0 }, { name := "T_DOUBLE", type := .int, accessFlags := 25, slot := 14, constantValue := 0 }, { name := "T_BYTE", type := .int, accessFlags := 25, slot := 15, constantValue := 0 }, { name := "T_SHORT", type := .int, accessFlags := 25, slot := 16, constantValue := 0 }, { name := "T_INT", type := .int, accessFlags := 25, slot := 17, constantValue := 0 }, { name := "T_LONG", type := .int, accessFlags := 25, slot := 18, constantValue := 0 }, { name := "JLA", type := (.object "jdk/internal/access/JavaLangAccess"), accessFlags := 26, slot := 19, constantValue := 0 }, { name := "SOFT_MAX_ARRAY_LENGTH", type := .int, accessFlags := 25, slot := 20, constantValue := 0 }]
  methods := #[k13m0]
  instanceTypes := #[]
  staticTypes := #[(.object "jdk/internal/misc/Unsafe"), .boolean, .int, .int, .int, .int, .int, .int, .int, .int, .int, .int, .int, .int, .int, .int, .int, .int, .int, (.object "jdk/internal/access/JavaLangAccess"), .int]
  resolved := Array.replicate 378 none
  statics := none }

def pool14 : Array CpInfo := pool [(1, u "java/lang/Cloneable"), (0, .class_ 1), (0, u "java/lang/Object"), (0, .class_ 3)] 3

/-- java/lang/Cloneable -/
def k14 : Class := { plain "java/lang/Cloneable" (some 0) with
  accessFlags := 1537
  interfaces := #[]
  cf := some (fileOf pool14 2 #[] #[] 1537 4 #[] #[])
  fields := #[]
  methods := #[]
  instanceTypes := #[]
  staticTypes := #[]
  resolved := Array.replicate 8 none
  statics := none }

/-- the primitive byte -/
def k15 : Class := { plain "byte" none with kind := .primitive 'B', accessFlags := 0x411 }
/-- [B -/
def k16 : Class := { plain "[B" (some 0) with kind := .array 15 .byte, interfaces := #[14, 2], accessFlags := 1041 }

/-- the primitive char -/
def k17 : Class := { plain "char" none with kind := .primitive 'C', accessFlags := 0x411 }
/-- [C -/
def k18 : Class := { plain "[C" (some 0) with kind := .array 17 .char, interfaces := #[14, 2], accessFlags := 1041 }

/-- the primitive int -/
def k19 : Class := { plain "int" none with kind := .primitive 'I', accessFlags := 0x411 }
/-- [I -/
def k20 : Class := { plain "[I" (some 0) with kind := .array 19 .int, interfaces := #[14, 2], accessFlags := 1041 }

def heap : Heap := #[{ cls := 7, slots := #[.long 0, .int 1, .null, .int 0, .null, .int 0, .int 0], vm := .statics 7 },
  { cls := 8, slots := #[.int 0, .int 8, .int 0, .int 1], vm := .statics 8 },
  { cls := 12, slots := #[.null, .null, .null], vm := .statics 12 }]
def classes : Array Class := #[k0, k1, k2, k3, k4, k5, k6, k7, k8, k9, k10, k11, k12, k13, k14, k15, k16, k17, k18, k19, k20]
def interned : List (Array UInt16 × Addr) := []
def slotsUsed : Nat := 14
def theMethod : MethodId := ⟨1, 2⟩
def args0 : Array Value := #[.int 5, .int 9, .int 3, .int 5]
def aboutOver (below : List Frame) : State where
  vm := { classes := classes, interned := interned.toArray }
  heap := heap
  slotsUsed := slotsUsed
  threads := #[{ frames := .invoking theMethod args0 :: below }]
def below0 : List Frame := [.native { method := ⟨0, 0⟩, args := #[] }]
def about1 : State := aboutOver below0
def p0 : Program := .bare "" "" ""
def e0 : Env := launch0.env 0 0 0
theorem w_frames : about1.frames = Frame.invoking theMethod args0 :: below0 := rfl
set_option maxRecDepth 65536 in
theorem w_args : argsFit about1.vm theMethod args0 = true := by decide +kernel
set_option maxRecDepth 65536 in
theorem w_heap : heapFits about1 = true := by decide +kernel
set_option maxRecDepth 65536 in
theorem w_runnable : about1.curStatus? = some .runnable := by decide +kernel
set_option maxRecDepth 65536 in
theorem w_alone : about1.alone = true := by decide +kernel
set_option maxRecDepth 65536 in
theorem w_named : about1.methodNamed? x = some theMethod := by decide +kernel
set_option maxRecDepth 65536 in
theorem w_hears : about1.hears theMethod below0 = true := by decide +kernel
set_option maxRecDepth 65536 in
theorem w_ripe : about1.ripe theMethod args0 below0 = true := by decide +kernel
theorem w_running : about1.status = .running := rfl
set_option maxRecDepth 65536 in
theorem w_room : about1.hasRoom e0.platform room_1 = true :=
  launch0.hasRoom_least _ room_1 (by decide +kernel) (by decide +kernel) (by decide +kernel) (by decide +kernel) (by decide +kernel) (by decide +kernel)
theorem allAtoms_all (ts : List Jvm.Cond) (a : Array Jvm.Value) (st : Jvm.State) : (allAtoms ts).before a st = ts.all (fun c => c.before a st) := by
  induction ts with
  | nil => rfl
  | cons c t ih =>
    show (Jvm.Cond.and c (allAtoms t)).before a st = _
    rw [Jvm.Cond.before_and, ih, List.all_cons]
def words1 : List Jvm.Cond := Jvm.Cond.code x code maxLocals ret :: tables_1
/-- a 'code' word, met by the world's own term for the bytes: nothing is compared byte by byte -/
theorem code_word {y : MethodName} {bytes : ByteArray} {mx : Nat} {rt : Option FieldType} {a : Array Value} {s : State} {m : MethodId} {meth : Method} {c : Code} (h1 : s.methodNamed? y = some m) (h2 : s.vm.method? m = some meth) (h3 : meth.code = some c) (h4 : c.code = bytes)
    (h5 : (c.maxLocals == mx && c.exceptionTable.isEmpty && decide (c.maxStack ≤ mostOperands) && decide (meth.sig.returnType = rt) && !meth.locks && decide (parseMethodDescriptor y.desc = some meth.sig)) = true) : (Jvm.Cond.code y bytes mx rt).before a s = true := by
  simp only [Bool.and_eq_true, beq_iff_eq, Bool.not_eq_true', decide_eq_true_eq] at h5
  obtain ⟨⟨⟨⟨⟨g1, g2⟩, g3⟩, g4⟩, g5⟩, g6⟩ := h5
  simp [Cond.before, Cond.holds, Cond.value, h1, h2, h3, h4, g1, g2, g3, g4, g5, g6]
def isCode : Jvm.Cond → Bool
  | .code _ _ _ _ => true
  | _ => false
theorem all_split {L : List Jvm.Cond} {P : Jvm.Cond → Bool} (h1 : L.all (fun c => isCode c || P c) = true) (h2 : ∀ c ∈ L.filter isCode, P c = true) : L.all P = true := by
  refine List.all_eq_true.mpr fun c hc => ?_
  have h := List.all_eq_true.mp h1 c hc
  rcases Bool.eq_false_or_eq_true (isCode c) with hi | hi
  · exact h2 c (List.mem_filter.mpr ⟨hc, hi⟩)
  · simpa [hi] using h
set_option maxRecDepth 65536 in
theorem w_c0 : (Jvm.Cond.code x code maxLocals ret).before args0 about1 = true := code_word (m := ⟨1, 2⟩) (meth := k1m2) (c := k1c2) (by decide +kernel) rfl rfl rfl (by decide +kernel)
set_option maxRecDepth 65536 in
theorem w_c1 : (Jvm.Cond.code ({ cls := "java/lang/String", name := "<init>", desc := "([C)V" } : Jvm.MethodName) jdk_42_method_3_code (2 : Nat) (Option.none : Option Jvm.ClassFile.FieldType)).before args0 about1 = true := code_word (m := ⟨7, 1⟩) (meth := k7m1) (c := k7c1) (by decide +kernel) rfl rfl rfl (by decide +kernel)
set_option maxRecDepth 65536 in
theorem w_c2 : (Jvm.Cond.code ({ cls := "java/lang/String", name := "<init>", desc := "([CIILjava/lang/Void;)V" } : Jvm.MethodName) jdk_42_method_149_code (6 : Nat) (Option.none : Option Jvm.ClassFile.FieldType)).before args0 about1 = true := code_word (m := ⟨7, 4⟩) (meth := k7m4) (c := k7c4) (by decide +kernel) rfl rfl rfl (by decide +kernel)
set_option maxRecDepth 65536 in
theorem w_c3 : (Jvm.Cond.code ({ cls := "java/lang/Object", name := "<init>", desc := "()V" } : Jvm.MethodName) object_method_1_code (1 : Nat) (Option.none : Option Jvm.ClassFile.FieldType)).before args0 about1 = true := code_word (m := ⟨0, 0⟩) (meth := k0m0) (c := k0c0) (by decide +kernel) rfl rfl rfl (by decide +kernel)
set_option maxRecDepth 65536 in
theorem w_c4 : (Jvm.Cond.code ({ cls := "java/lang/StringUTF16", name := "compress", desc := "([CII)[B" } : Jvm.MethodName) jdk_52_method_16_code (6 : Nat) (Option.some (Jvm.ClassFile.FieldType.array Jvm.ClassFile.FieldType.byte))).before args0 about1 = true := code_word (m := ⟨8, 8⟩) (meth := k8m8) (c := k8c8) (by decide +kernel) rfl rfl rfl (by decide +kernel)
set_option maxRecDepth 65536 in
theorem w_c5 : (Jvm.Cond.code ({ cls := "java/lang/StringUTF16", name := "compress", desc := "([CI[BII)I" } : Jvm.MethodName) jdk_52_method_21_code (7 : Nat) (Option.some Jvm.ClassFile.FieldType.int)).before args0 about1 = true := code_word (m := ⟨8, 9⟩) (meth := k8m9) (c := k8c9) (by decide +kernel) rfl rfl rfl (by decide +kernel)
set_option maxRecDepth 65536 in
theorem w_c6 : (Jvm.Cond.code ({ cls := "java/lang/StringUTF16", name := "coderFromArrayLen", desc := "([BI)B" } : Jvm.MethodName) jdk_52_method_15_code (2 : Nat) (Option.some Jvm.ClassFile.FieldType.byte)).before args0 about1 = true := code_word (m := ⟨8, 7⟩) (meth := k8m7) (c := k8c7) (by decide +kernel) rfl rfl rfl (by decide +kernel)
set_option maxRecDepth 65536 in
theorem w_c7 : (Jvm.Cond.code ({ cls := "com/example/corvid/corvid/internal/StringEscapesIndexOfPinLaw", name := "hit", desc := "([CCIII)Z" } : Jvm.MethodName) method_2_code (5 : Nat) (Option.some Jvm.ClassFile.FieldType.boolean)).before args0 about1 = true := code_word (m := ⟨1, 1⟩) (meth := k1m1) (c := k1c1) (by decide +kernel) rfl rfl rfl (by decide +kernel)
set_option maxRecDepth 65536 in
theorem w_c8 : (Jvm.Cond.code ({ cls := "com/example/corvid/corvid/internal/StringEscapes", name := "indexOf", desc := "(Ljava/lang/String;CII)I" } : Jvm.MethodName) prog_13_method_25_code (5 : Nat) (Option.some Jvm.ClassFile.FieldType.int)).before args0 about1 = true := code_word (m := ⟨9, 1⟩) (meth := k9m1) (c := k9c1) (by decide +kernel) rfl rfl rfl (by decide +kernel)
set_option maxRecDepth 65536 in
theorem w_c9 : (Jvm.Cond.code ({ cls := "java/lang/String", name := "indexOf", desc := "(II)I" } : Jvm.MethodName) jdk_42_method_80_code (3 : Nat) (Option.some Jvm.ClassFile.FieldType.int)).before args0 about1 = true := code_word (m := ⟨7, 3⟩) (meth := k7m3) (c := k7c3) (by decide +kernel) rfl rfl rfl (by decide +kernel)
set_option maxRecDepth 65536 in
theorem w_c10 : (Jvm.Cond.code ({ cls := "java/lang/String", name := "isLatin1", desc := "()Z" } : Jvm.MethodName) jdk_42_method_154_code (1 : Nat) (Option.some Jvm.ClassFile.FieldType.boolean)).before args0 about1 = true := code_word (m := ⟨7, 6⟩) (meth := k7m6) (c := k7c6) (by decide +kernel) rfl rfl rfl (by decide +kernel)
set_option maxRecDepth 65536 in
theorem w_c11 : (Jvm.Cond.code ({ cls := "java/lang/String", name := "length", desc := "()I" } : Jvm.MethodName) jdk_42_method_54_code (1 : Nat) (Option.some Jvm.ClassFile.FieldType.int)).before args0 about1 = true := code_word (m := ⟨7, 2⟩) (meth := k7m2) (c := k7c2) (by decide +kernel) rfl rfl rfl (by decide +kernel)
set_option maxRecDepth 65536 in
theorem w_c12 : (Jvm.Cond.code ({ cls := "java/lang/String", name := "coder", desc := "()B" } : Jvm.MethodName) jdk_42_method_152_code (1 : Nat) (Option.some Jvm.ClassFile.FieldType.byte)).before args0 about1 = true := code_word (m := ⟨7, 5⟩) (meth := k7m5) (c := k7c5) (by decide +kernel) rfl rfl rfl (by decide +kernel)
set_option maxRecDepth 65536 in
theorem w_c13 : (Jvm.Cond.code ({ cls := "java/lang/StringLatin1", name := "indexOf", desc := "([BIII)I" } : Jvm.MethodName) jdk_43_method_22_code (4 : Nat) (Option.some Jvm.ClassFile.FieldType.int)).before args0 about1 = true := code_word (m := ⟨10, 2⟩) (meth := k10m2) (c := k10c2) (by decide +kernel) rfl rfl rfl (by decide +kernel)
set_option maxRecDepth 65536 in
theorem w_c14 : (Jvm.Cond.code ({ cls := "java/lang/StringLatin1", name := "canEncode", desc := "(I)Z" } : Jvm.MethodName) jdk_43_method_4_code (1 : Nat) (Option.some Jvm.ClassFile.FieldType.boolean)).before args0 about1 = true := code_word (m := ⟨10, 1⟩) (meth := k10m1) (c := k10c1) (by decide +kernel) rfl rfl rfl (by decide +kernel)
set_option maxRecDepth 65536 in
theorem w_c15 : (Jvm.Cond.code ({ cls := "java/lang/Math", name := "max", desc := "(II)I" } : Jvm.MethodName) jdk_29_method_65_code (2 : Nat) (Option.some Jvm.ClassFile.FieldType.int)).before args0 about1 = true := code_word (m := ⟨11, 1⟩) (meth := k11m1) (c := k11c1) (by decide +kernel) rfl rfl rfl (by decide +kernel)
set_option maxRecDepth 65536 in
theorem w_c16 : (Jvm.Cond.code ({ cls := "java/lang/Math", name := "min", desc := "(II)I" } : Jvm.MethodName) jdk_29_method_69_code (2 : Nat) (Option.some Jvm.ClassFile.FieldType.int)).before args0 about1 = true := code_word (m := ⟨11, 2⟩) (meth := k11m2) (c := k11c2) (by decide +kernel) rfl rfl rfl (by decide +kernel)
set_option maxRecDepth 65536 in
theorem w_c17 : (Jvm.Cond.code ({ cls := "java/lang/StringLatin1", name := "indexOfChar", desc := "([BIII)I" } : Jvm.MethodName) jdk_43_method_23_code (6 : Nat) (Option.some Jvm.ClassFile.FieldType.int)).before args0 about1 = true := code_word (m := ⟨10, 3⟩) (meth := k10m3) (c := k10c3) (by decide +kernel) rfl rfl rfl (by decide +kernel)
set_option maxRecDepth 65536 in
theorem w_c18 : (Jvm.Cond.code ({ cls := "java/lang/StringUTF16", name := "toBytes", desc := "([CII)[B" } : Jvm.MethodName) jdk_52_method_14_code (5 : Nat) (Option.some (Jvm.ClassFile.FieldType.array Jvm.ClassFile.FieldType.byte))).before args0 about1 = true := code_word (m := ⟨8, 6⟩) (meth := k8m6) (c := k8c6) (by decide +kernel) rfl rfl rfl (by decide +kernel)
set_option maxRecDepth 65536 in
theorem w_c19 : (Jvm.Cond.code ({ cls := "java/lang/StringUTF16", name := "newBytesFor", desc := "(I)[B" } : Jvm.MethodName) jdk_52_method_2_code (1 : Nat) (Option.some (Jvm.ClassFile.FieldType.array Jvm.ClassFile.FieldType.byte))).before args0 about1 = true := code_word (m := ⟨8, 1⟩) (meth := k8m1) (c := k8c1) (by decide +kernel) rfl rfl rfl (by decide +kernel)
set_option maxRecDepth 65536 in
theorem w_c20 : (Jvm.Cond.code ({ cls := "java/lang/StringUTF16", name := "newBytesLength", desc := "(I)I" } : Jvm.MethodName) jdk_52_method_3_code (1 : Nat) (Option.some Jvm.ClassFile.FieldType.int)).before args0 about1 = true := code_word (m := ⟨8, 2⟩) (meth := k8m2) (c := k8c2) (by decide +kernel) rfl rfl rfl (by decide +kernel)
set_option maxRecDepth 65536 in
theorem w_c21 : (Jvm.Cond.code ({ cls := "java/lang/StringUTF16", name := "putChar", desc := "([BII)V" } : Jvm.MethodName) jdk_52_method_4_code (3 : Nat) (Option.none : Option Jvm.ClassFile.FieldType)).before args0 about1 = true := code_word (m := ⟨8, 3⟩) (meth := k8m3) (c := k8c3) (by decide +kernel) rfl rfl rfl (by decide +kernel)
set_option maxRecDepth 65536 in
theorem w_c22 : (Jvm.Cond.code ({ cls := "java/lang/StringUTF16", name := "getChar", desc := "([BI)C" } : Jvm.MethodName) jdk_52_method_5_code (2 : Nat) (Option.some Jvm.ClassFile.FieldType.char)).before args0 about1 = true := code_word (m := ⟨8, 4⟩) (meth := k8m4) (c := k8c4) (by decide +kernel) rfl rfl rfl (by decide +kernel)
set_option maxRecDepth 65536 in
theorem w_c23 : (Jvm.Cond.code ({ cls := "java/lang/StringUTF16", name := "indexOf", desc := "([BIII)I" } : Jvm.MethodName) jdk_52_method_40_code (4 : Nat) (Option.some Jvm.ClassFile.FieldType.int)).before args0 about1 = true := code_word (m := ⟨8, 10⟩) (meth := k8m10) (c := k8c10) (by decide +kernel) rfl rfl rfl (by decide +kernel)
set_option maxRecDepth 65536 in
theorem w_c24 : (Jvm.Cond.code ({ cls := "java/lang/StringUTF16", name := "indexOfChar", desc := "([BIII)I" } : Jvm.MethodName) jdk_52_method_47_code (4 : Nat) (Option.some Jvm.ClassFile.FieldType.int)).before args0 about1 = true := code_word (m := ⟨8, 11⟩) (meth := k8m11) (c := k8c11) (by decide +kernel) rfl rfl rfl (by decide +kernel)
set_option maxRecDepth 65536 in
theorem w_c25 : (Jvm.Cond.code ({ cls := "java/lang/StringUTF16", name := "checkBoundsBeginEnd", desc := "(II[B)V" } : Jvm.MethodName) jdk_52_method_93_code (3 : Nat) (Option.none : Option Jvm.ClassFile.FieldType)).before args0 about1 = true := code_word (m := ⟨8, 13⟩) (meth := k8m13) (c := k8c13) (by decide +kernel) rfl rfl rfl (by decide +kernel)
set_option maxRecDepth 65536 in
theorem w_c26 : (Jvm.Cond.code ({ cls := "java/lang/StringUTF16", name := "length", desc := "([B)I" } : Jvm.MethodName) jdk_52_method_6_code (1 : Nat) (Option.some Jvm.ClassFile.FieldType.int)).before args0 about1 = true := code_word (m := ⟨8, 5⟩) (meth := k8m5) (c := k8c5) (by decide +kernel) rfl rfl rfl (by decide +kernel)
set_option maxRecDepth 65536 in
theorem w_c27 : (Jvm.Cond.code ({ cls := "java/lang/String", name := "checkBoundsBeginEnd", desc := "(III)V" } : Jvm.MethodName) jdk_42_method_158_code (3 : Nat) (Option.none : Option Jvm.ClassFile.FieldType)).before args0 about1 = true := code_word (m := ⟨7, 7⟩) (meth := k7m7) (c := k7c7) (by decide +kernel) rfl rfl rfl (by decide +kernel)
set_option maxRecDepth 65536 in
theorem w_c28 : (Jvm.Cond.code ({ cls := "jdk/internal/util/Preconditions", name := "checkFromToIndex", desc := "(IIILjava/util/function/BiFunction;)I" } : Jvm.MethodName) jdk_41_method_12_code (4 : Nat) (Option.some Jvm.ClassFile.FieldType.int)).before args0 about1 = true := code_word (m := ⟨12, 1⟩) (meth := k12m1) (c := k12c1) (by decide +kernel) rfl rfl rfl (by decide +kernel)
set_option maxRecDepth 65536 in
theorem w_c29 : (Jvm.Cond.code ({ cls := "java/lang/StringUTF16", name := "indexOfCharUnsafe", desc := "([BIII)I" } : Jvm.MethodName) jdk_52_method_48_code (5 : Nat) (Option.some Jvm.ClassFile.FieldType.int)).before args0 about1 = true := code_word (m := ⟨8, 12⟩) (meth := k8m12) (c := k8c12) (by decide +kernel) rfl rfl rfl (by decide +kernel)
def codes1 : List Jvm.Cond := [Jvm.Cond.code x code maxLocals ret, Jvm.Cond.code ({ cls := "java/lang/String", name := "<init>", desc := "([C)V" } : Jvm.MethodName) jdk_42_method_3_code (2 : Nat) (Option.none : Option Jvm.ClassFile.FieldType), Jvm.Cond.code ({ cls := "java/lang/String", name := "<init>", desc := "([CIILjava/lang/Void;)V" } : Jvm.MethodName) jdk_42_method_149_code (6 : Nat) (Option.none : Option Jvm.ClassFile.FieldType), Jvm.Cond.code ({ cls := "java/lang/Object", name := "<init>", desc := "()V" } : Jvm.MethodName) object_method_1_code (1 : Nat) (Option.none : Option Jvm.ClassFile.FieldType), Jvm.Cond.code ({ cls := "java/lang/StringUTF16", name := "compress", desc := "([CII)[B" } : Jvm.MethodName) jdk_52_method_16_code (6 : Nat) (Option.some (Jvm.ClassFile.FieldType.array Jvm.ClassFile.FieldType.byte)), Jvm.Cond.code ({ cls := "java/lang/StringUTF16", name := "compress", desc := "([CI[BII)I" } : Jvm.MethodName) jdk_52_method_21_code (7 : Nat) (Option.some Jvm.ClassFile.FieldType.int), Jvm.Cond.code ({ cls := "java/lang/StringUTF16", name := "coderFromArrayLen", desc := "([BI)B" } : Jvm.MethodName) jdk_52_method_15_code (2 : Nat) (Option.some Jvm.ClassFile.FieldType.byte), Jvm.Cond.code ({ cls := "com/example/corvid/corvid/internal/StringEscapesIndexOfPinLaw", name := "hit", desc := "([CCIII)Z" } : Jvm.MethodName) method_2_code (5 : Nat) (Option.some Jvm.ClassFile.FieldType.boolean), Jvm.Cond.code ({ cls := "com/example/corvid/corvid/internal/StringEscapes", name := "indexOf", desc := "(Ljava/lang/String;CII)I" } : Jvm.MethodName) prog_13_method_25_code (5 : Nat) (Option.some Jvm.ClassFile.FieldType.int), Jvm.Cond.code ({ cls := "java/lang/String", name := "indexOf", desc := "(II)I" } : Jvm.MethodName) jdk_42_method_80_code (3 : Nat) (Option.some Jvm.ClassFile.FieldType.int), Jvm.Cond.code ({ cls := "java/lang/String", name := "isLatin1", desc := "()Z" } : Jvm.MethodName) jdk_42_method_154_code (1 : Nat) (Option.some Jvm.ClassFile.FieldType.boolean), Jvm.Cond.code ({ cls := "java/lang/String", name := "length", desc := "()I" } : Jvm.MethodName) jdk_42_method_54_code (1 : Nat) (Option.some Jvm.ClassFile.FieldType.int), Jvm.Cond.code ({ cls := "java/lang/String", name := "coder", desc := "()B" } : Jvm.MethodName) jdk_42_method_152_code (1 : Nat) (Option.some Jvm.ClassFile.FieldType.byte), Jvm.Cond.code ({ cls := "java/lang/StringLatin1", name := "indexOf", desc := "([BIII)I" } : Jvm.MethodName) jdk_43_method_22_code (4 : Nat) (Option.some Jvm.ClassFile.FieldType.int), Jvm.Cond.code ({ cls := "java/lang/StringLatin1", name := "canEncode", desc := "(I)Z" } : Jvm.MethodName) jdk_43_method_4_code (1 : Nat) (Option.some Jvm.ClassFile.FieldType.boolean), Jvm.Cond.code ({ cls := "java/lang/Math", name := "max", desc := "(II)I" } : Jvm.MethodName) jdk_29_method_65_code (2 : Nat) (Option.some Jvm.ClassFile.FieldType.int), Jvm.Cond.code ({ cls := "java/lang/Math", name := "min", desc := "(II)I" } : Jvm.MethodName) jdk_29_method_69_code (2 : Nat) (Option.some Jvm.ClassFile.FieldType.int), Jvm.Cond.code ({ cls := "java/lang/StringLatin1", name := "indexOfChar", desc := "([BIII)I" } : Jvm.MethodName) jdk_43_method_23_code (6 : Nat) (Option.some Jvm.ClassFile.FieldType.int), Jvm.Cond.code ({ cls := "java/lang/StringUTF16", name := "toBytes", desc := "([CII)[B" } : Jvm.MethodName) jdk_52_method_14_code (5 : Nat) (Option.some (Jvm.ClassFile.FieldType.array Jvm.ClassFile.FieldType.byte)), Jvm.Cond.code ({ cls := "java/lang/StringUTF16", name := "newBytesFor", desc := "(I)[B" } : Jvm.MethodName) jdk_52_method_2_code (1 : Nat) (Option.some (Jvm.ClassFile.FieldType.array Jvm.ClassFile.FieldType.byte)), Jvm.Cond.code ({ cls := "java/lang/StringUTF16", name := "newBytesLength", desc := "(I)I" } : Jvm.MethodName) jdk_52_method_3_code (1 : Nat) (Option.some Jvm.ClassFile.FieldType.int), Jvm.Cond.code ({ cls := "java/lang/StringUTF16", name := "putChar", desc := "([BII)V" } : Jvm.MethodName) jdk_52_method_4_code (3 : Nat) (Option.none : Option Jvm.ClassFile.FieldType), Jvm.Cond.code ({ cls := "java/lang/StringUTF16", name := "getChar", desc := "([BI)C" } : Jvm.MethodName) jdk_52_method_5_code (2 : Nat) (Option.some Jvm.ClassFile.FieldType.char), Jvm.Cond.code ({ cls := "java/lang/StringUTF16", name := "indexOf", desc := "([BIII)I" } : Jvm.MethodName) jdk_52_method_40_code (4 : Nat) (Option.some Jvm.ClassFile.FieldType.int), Jvm.Cond.code ({ cls := "java/lang/StringUTF16", name := "indexOfChar", desc := "([BIII)I" } : Jvm.MethodName) jdk_52_method_47_code (4 : Nat) (Option.some Jvm.ClassFile.FieldType.int), Jvm.Cond.code ({ cls := "java/lang/StringUTF16", name := "checkBoundsBeginEnd", desc := "(II[B)V" } : Jvm.MethodName) jdk_52_method_93_code (3 : Nat) (Option.none : Option Jvm.ClassFile.FieldType), Jvm.Cond.code ({ cls := "java/lang/StringUTF16", name := "length", desc := "([B)I" } : Jvm.MethodName) jdk_52_method_6_code (1 : Nat) (Option.some Jvm.ClassFile.FieldType.int), Jvm.Cond.code ({ cls := "java/lang/String", name := "checkBoundsBeginEnd", desc := "(III)V" } : Jvm.MethodName) jdk_42_method_158_code (3 : Nat) (Option.none : Option Jvm.ClassFile.FieldType), Jvm.Cond.code ({ cls := "jdk/internal/util/Preconditions", name := "checkFromToIndex", desc := "(IIILjava/util/function/BiFunction;)I" } : Jvm.MethodName) jdk_41_method_12_code (4 : Nat) (Option.some Jvm.ClassFile.FieldType.int), Jvm.Cond.code ({ cls := "java/lang/StringUTF16", name := "indexOfCharUnsafe", desc := "([BIII)I" } : Jvm.MethodName) jdk_52_method_48_code (5 : Nat) (Option.some Jvm.ClassFile.FieldType.int)]
set_option maxRecDepth 65536 in
theorem codes_eq : words1.filter isCode = codes1 := rfl
theorem w_codes : ∀ c ∈ words1.filter isCode, c.before args0 about1 = true := by
  rw [codes_eq]
  intro c hc
  simp only [codes1, List.mem_cons, List.not_mem_nil, or_false] at hc
  rcases hc with rfl | rfl | rfl | rfl | rfl | rfl | rfl | rfl | rfl | rfl | rfl | rfl | rfl | rfl | rfl | rfl | rfl | rfl | rfl | rfl | rfl | rfl | rfl | rfl | rfl | rfl | rfl | rfl | rfl | rfl
  · exact w_c0
  · exact w_c1
  · exact w_c2
  · exact w_c3
  · exact w_c4
  · exact w_c5
  · exact w_c6
  · exact w_c7
  · exact w_c8
  · exact w_c9
  · exact w_c10
  · exact w_c11
  · exact w_c12
  · exact w_c13
  · exact w_c14
  · exact w_c15
  · exact w_c16
  · exact w_c17
  · exact w_c18
  · exact w_c19
  · exact w_c20
  · exact w_c21
  · exact w_c22
  · exact w_c23
  · exact w_c24
  · exact w_c25
  · exact w_c26
  · exact w_c27
  · exact w_c28
  · exact w_c29
set_option maxRecDepth 65536 in
theorem w_t1 : (words1.take 24).all (fun c => isCode c || c.before args0 about1) = true := by decide +kernel
set_option maxRecDepth 65536 in
theorem w_t2 : ((words1.drop 24).take 24).all (fun c => isCode c || c.before args0 about1) = true := by decide +kernel
set_option maxRecDepth 65536 in
theorem w_t3 : (((words1.drop 24).drop 24).take 24).all (fun c => isCode c || c.before args0 about1) = true := by decide +kernel
set_option maxRecDepth 65536 in
theorem w_t4 : ((((words1.drop 24).drop 24).drop 24).take 24).all (fun c => isCode c || c.before args0 about1) = true := by decide +kernel
set_option maxRecDepth 65536 in
theorem w_t5 : (((((words1.drop 24).drop 24).drop 24).drop 24).take 24).all (fun c => isCode c || c.before args0 about1) = true := by decide +kernel
set_option maxRecDepth 65536 in
theorem w_t6 : (((((words1.drop 24).drop 24).drop 24).drop 24).drop 24).all (fun c => isCode c || c.before args0 about1) = true := by decide +kernel
theorem w_tables : (allAtoms (Jvm.Cond.code x code maxLocals ret :: tables_1)).before args0 about1 = true := by
  rw [allAtoms_all]
  show words1.all (fun c => c.before args0 about1) = true
  refine all_split ?_ w_codes
  rw [← List.take_append_drop 24 words1, List.all_append, w_t1, ← List.take_append_drop 24 (words1.drop 24), List.all_append, w_t2, ← List.take_append_drop 24 ((words1.drop 24).drop 24), List.all_append, w_t3, ← List.take_append_drop 24 (((words1.drop 24).drop 24).drop 24), List.all_append, w_t4, ← List.take_append_drop 24 ((((words1.drop 24).drop 24).drop 24).drop 24), List.all_append, w_t5, w_t6]
  rfl
set_option maxRecDepth 65536 in
theorem w_rest : rest_1_c.before args0 about1 = true := by decide +kernel
set_option maxRecDepth 65536 in
theorem w_case : (Jvm.Cond.and given_1 narrow_1).before args0 about1 = true := by decide +kernel
theorem w_applies : (headSpec (Jvm.Cond.code x code maxLocals ret :: tables_1) room_1).applies x e0.platform about1 = true :=
  (Spec.applies_iff w_frames).mpr ⟨w_running, w_runnable, w_alone, w_named, w_hears, w_ripe, w_room, w_tables⟩
theorem atStart : AtStart classFile x code maxLocals ret World_1 tables_1 room_1 Calls_1 rest_1 Pre_1 launch0 p0 e0 about1 theMethod args0 below0 :=
  ⟨lists_1, trivial, launch0.admits_env _ _ _, launch0.least_env, fairChoices_fair.cas, fairChoices_fair.clock, w_frames, w_args, w_heap, w_applies, trivial, w_rest, w_case⟩
end start1
theorem witness_1 : WitnessClaimed_1 := ⟨start1.p0, start1.e0, start1.about1, start1.theMethod, start1.args0, start1.below0, start1.atStart⟩
end Jvm.Pilot.@@N@@
