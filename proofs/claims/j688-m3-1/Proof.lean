import JvmDerived
import JvmDerived.Pilot.@@N@@Statement
import JvmDerived.Pilot.@@N@@Code
set_option linter.unusedVariables false
set_option linter.unusedSimpArgs false
namespace Jvm.RoadKit
open Sem ClassFile Op Lib Jvm.Stand Jvm.Free Jvm.LawKit
section New
variable {p : Program} {l : Launch} {e : Env} {R : Room} {s : State} {m : MethodId} {args : Array Value} {below : List Frame} {meth : Method} {c : Code} {T : State} {locs : List Loc} {cells slots : Nat}
theorem retI (X : Stand p l e R s m args below meth c T locs cells slots) (hx : p.tables.exec = Jvm.exec) {pc : Nat} {Ls : Array Slot} {z : Int32} {rest : List Value} (hret : meth.sig.returnType = some .int) (hd : decode c.code pc = .ok (.ireturn, 1)) {fs : List Frame}
    (hl : ∀ (f : JFrame) (acts : List Action), f.method = m → f.locked = none → f.entered = [] → (doReturn e (T.setTop f) acts (some (.int z))).1 = T.setFrames fs) : Steps p.tables e below (T.setTop (mkF m pc Ls (.int z :: rest))) (T.setFrames fs) := by
  have hm' : T.vm.method? m = some meth := X.method'
  have hn : narrow .int (.int z) = .int z := rfl
  show Steps p.tables e below (T.setTop { method := m, pc := pc, locals := Ls, stack := _ :: rest, locked := none }) _
  jvm_step X.here [X.here.top, hx, hd, hm', hret, hn]
  first | (intro acts; rw [hl _ acts rfl rfl rfl]) | rw [hl _ _ rfl rfl rfl]
  exact Steps.refl _
end New
end Jvm.RoadKit
namespace Jvm.Pilot.@@N@@
open Jvm Jvm.ClassFile Sem Op Lib Jvm.Free Jvm.Stand Jvm.LawKit Jvm.RoadKit Bundle Jvm.Pilot.@@N@@.Jvm.D
section OwnArrays
variable {Z : State} {h h' : Heap} {a b : Addr} {ty : FieldType} {n j : Int32} {F : Nat → Int32} {G : Nat → Int64} {sl : Nat} {v : Value} {ws : List Addr} {k : ClassId} {x : Int32} {y : Int64}
/-- an array of ints (chars, bytes, booleans ..): its length and its components -/
def own_AI (Z : State) (h : Heap) (a : Addr) (ty : FieldType) (n : Int32) (F : Nat → Int32) : Prop := ∃ c : Cell, Arr Z h a c ty ∧ c.slots.size = n.toNatClampNeg ∧ ¬ n < 0 ∧ ∀ i, i < c.slots.size → c.slots[i]? = some (.int (F i)) ∧ fits ty (.int (F i)) = true
/-- an array of longs -/
def own_AJ (Z : State) (h : Heap) (a : Addr) (ty : FieldType) (n : Int32) (F : Nat → Int64) : Prop := ∃ c : Cell, Arr Z h a c ty ∧ c.slots.size = n.toNatClampNeg ∧ ¬ n < 0 ∧ ∀ i, i < c.slots.size → c.slots[i]? = some (.long (F i))
/-- an array of which the length alone is told -/
def own_AL (Z : State) (h : Heap) (a : Addr) (ty : FieldType) (n : Int32) : Prop := ∃ c : Cell, Arr Z h a c ty ∧ c.slots.size = n.toNatClampNeg ∧ ¬ n < 0 ∧ True
def own_upd {α : Type} (F : Nat → α) (i : Nat) (v : α) : Nat → α := fun q => if q = i then v else F q
theorem own_upd_at {α : Type} (F : Nat → α) (i : Nat) (v : α) (q : Nat) : own_upd F i v q = if q = i then v else F q := rfl
theorem own_lt {c : Cell} (q : ¬ (j < 0 ∨ c.slots.size ≤ j.toNatClampNeg)) : j.toNatClampNeg < c.slots.size := Nat.lt_of_not_le fun z => q (Or.inr z)
theorem own_AI.lt (H : own_AI Z h a ty n F) : a < h.size := by obtain ⟨c, A, -⟩ := H; exact A.lt
theorem own_AI.ext (H : own_AI Z h a ty n F) (E : Ext h h') : own_AI Z h' a ty n F := by obtain ⟨c, A, r⟩ := H; exact ⟨c, A.ext E, r⟩
theorem own_AI.other (H : own_AI Z h b ty n F) (W : Wr h h' a sl v) (q : b ≠ a) : own_AI Z h' b ty n F := by obtain ⟨c, A, r⟩ := H; exact ⟨c, A.other W q, r⟩
theorem own_AI.keep (H : own_AI Z h a ty n F) (K : Keep h h' ws) (q : a ∉ ws) : own_AI Z h' a ty n F := by obtain ⟨c, A, r⟩ := H; exact ⟨c, ⟨K.2.1 a c A.1 q, A.2⟩, r⟩
theorem own_AI.new (A : Arr Z h a (newA k ty n) ty) (q : ¬ n < 0) (hd : defaultValue ty = .int 0) : own_AI Z h a ty n (fun _ => 0) :=
  ⟨_, A, sz_new _ _ _, q, fun i hi => by
    rw [sz_new] at hi
    refine ⟨by simp [newA, hi, hd], ?_⟩
    rw [← hd]; cases ty <;> rfl⟩
theorem own_AI.set (H : own_AI Z h a ty n F) (hv : fits ty (.int x) = true) (W : Wr h h' a j.toNatClampNeg (.int x)) : own_AI Z h' a ty n (own_upd F j.toNatClampNeg x) := by
  obtain ⟨c, A, S, q, H⟩ := H
  refine ⟨_, A.same W, by simpa [Cell.setSlot] using S, q, fun i hi => ?_⟩
  have hi' : i < c.slots.size := by simpa [Cell.setSlot] using hi
  by_cases u : i = j.toNatClampNeg
  · rw [own_upd_at, if_pos u]; subst u; exact ⟨by simp [Cell.setSlot, hi'], hv⟩
  · rw [own_upd_at, if_neg u]
    refine ⟨?_, (H i hi').2⟩
    have := (H i hi').1
    simp only [Cell.setSlot] at this ⊢
    rw [Array.getElem?_setIfInBounds_ne (Ne.symm u)]; exact this
theorem own_AJ.lt (H : own_AJ Z h a ty n G) : a < h.size := by obtain ⟨c, A, -⟩ := H; exact A.lt
theorem own_AJ.ext (H : own_AJ Z h a ty n G) (E : Ext h h') : own_AJ Z h' a ty n G := by obtain ⟨c, A, r⟩ := H; exact ⟨c, A.ext E, r⟩
theorem own_AJ.other (H : own_AJ Z h b ty n G) (W : Wr h h' a sl v) (q : b ≠ a) : own_AJ Z h' b ty n G := by obtain ⟨c, A, r⟩ := H; exact ⟨c, A.other W q, r⟩
theorem own_AJ.keep (H : own_AJ Z h a ty n G) (K : Keep h h' ws) (q : a ∉ ws) : own_AJ Z h' a ty n G := by obtain ⟨c, A, r⟩ := H; exact ⟨c, ⟨K.2.1 a c A.1 q, A.2⟩, r⟩
theorem own_AJ.new (A : Arr Z h a (newA k .long n) .long) (q : ¬ n < 0) : own_AJ Z h a .long n (fun _ => 0) :=
  ⟨_, A, sz_new _ _ _, q, fun i hi => by rw [sz_new] at hi; simp [newA, hi, defaultValue]⟩
theorem own_AJ.set (H : own_AJ Z h a ty n G) (W : Wr h h' a j.toNatClampNeg (.long y)) : own_AJ Z h' a ty n (own_upd G j.toNatClampNeg y) := by
  obtain ⟨c, A, S, q, H⟩ := H
  refine ⟨_, A.same W, by simpa [Cell.setSlot] using S, q, fun i hi => ?_⟩
  have hi' : i < c.slots.size := by simpa [Cell.setSlot] using hi
  by_cases u : i = j.toNatClampNeg
  · rw [own_upd_at, if_pos u]; subst u; simp [Cell.setSlot, hi']
  · rw [own_upd_at, if_neg u]
    have := H i hi'
    simp only [Cell.setSlot] at this ⊢
    rw [Array.getElem?_setIfInBounds_ne (Ne.symm u)]; exact this
theorem own_AL.lt (H : own_AL Z h a ty n) : a < h.size := by obtain ⟨c, A, -⟩ := H; exact A.lt
theorem own_AL.ext (H : own_AL Z h a ty n) (E : Ext h h') : own_AL Z h' a ty n := by obtain ⟨c, A, r⟩ := H; exact ⟨c, A.ext E, r⟩
theorem own_AL.other (H : own_AL Z h b ty n) (W : Wr h h' a sl v) (q : b ≠ a) : own_AL Z h' b ty n := by obtain ⟨c, A, r⟩ := H; exact ⟨c, A.other W q, r⟩
theorem own_AL.keep (H : own_AL Z h a ty n) (K : Keep h h' ws) (q : a ∉ ws) : own_AL Z h' a ty n := by obtain ⟨c, A, r⟩ := H; exact ⟨c, ⟨K.2.1 a c A.1 q, A.2⟩, r⟩
theorem own_AL.new (A : Arr Z h a (newA k ty n) ty) (q : ¬ n < 0) : own_AL Z h a ty n := ⟨_, A, sz_new _ _ _, q, trivial⟩
theorem own_AL.set (H : own_AL Z h a ty n) (W : Wr h h' a sl v) : own_AL Z h' a ty n := by
  obtain ⟨c, A, S, q, -⟩ := H
  exact ⟨_, A.same W, by simpa [Cell.setSlot] using S, q, trivial⟩
/-- an array of doubles -/
def own_AD (Z : State) (h : Heap) (a : Addr) (ty : FieldType) (n : Int32) (F : Nat → UInt64) : Prop := ∃ c : Cell, Arr Z h a c ty ∧ c.slots.size = n.toNatClampNeg ∧ ¬ n < 0 ∧ ∀ i, i < c.slots.size → c.slots[i]? = some (.double (F i))
theorem own_AD.lt {G : Nat → UInt64} (H : own_AD Z h a ty n G) : a < h.size := by obtain ⟨c, A, -⟩ := H; exact A.lt
theorem own_AD.ext {G : Nat → UInt64} (H : own_AD Z h a ty n G) (E : Ext h h') : own_AD Z h' a ty n G := by obtain ⟨c, A, r⟩ := H; exact ⟨c, A.ext E, r⟩
theorem own_AD.other {G : Nat → UInt64} (H : own_AD Z h b ty n G) (W : Wr h h' a sl v) (q : b ≠ a) : own_AD Z h' b ty n G := by obtain ⟨c, A, r⟩ := H; exact ⟨c, A.other W q, r⟩
theorem own_AD.keep {G : Nat → UInt64} (H : own_AD Z h a ty n G) (K : Keep h h' ws) (q : a ∉ ws) : own_AD Z h' a ty n G := by obtain ⟨c, A, r⟩ := H; exact ⟨c, ⟨K.2.1 a c A.1 q, A.2⟩, r⟩
theorem own_AD.new (A : Arr Z h a (newA k .double n) .double) (q : ¬ n < 0) : own_AD Z h a .double n (fun _ => 0) :=
  ⟨_, A, sz_new _ _ _, q, fun i hi => by rw [sz_new] at hi; simp [newA, hi, defaultValue]⟩
theorem own_AD.set {G : Nat → UInt64} {y : UInt64} (H : own_AD Z h a ty n G) (W : Wr h h' a j.toNatClampNeg (.double y)) : own_AD Z h' a ty n (own_upd G j.toNatClampNeg y) := by
  obtain ⟨c, A, S, q, H⟩ := H
  refine ⟨_, A.same W, by simpa [Cell.setSlot] using S, q, fun i hi => ?_⟩
  have hi' : i < c.slots.size := by simpa [Cell.setSlot] using hi
  by_cases u : i = j.toNatClampNeg
  · rw [own_upd_at, if_pos u]; subst u; simp [Cell.setSlot, hi']
  · rw [own_upd_at, if_neg u]
    have := H i hi'
    simp only [Cell.setSlot] at this ⊢
    rw [Array.getElem?_setIfInBounds_ne (Ne.symm u)]; exact this
end OwnArrays
theorem own_selp {s : State} {args : Array Value} {y z : MethodName} (hz : z.cls = y.cls) (hs : (Jvm.Cond.selects y.cls z z).before args s = true) (hpriv : s.PrivateAt y) (hinst : (Jvm.Cond.instanceMethod y).before args s = true) (hy : y.cls ≠ "java/lang/invoke/MethodHandle" ∧ y.cls ≠ "java/lang/invoke/VarHandle") : (Jvm.Cond.selects y.cls y y).before args s = true := by
  obtain ⟨c2, r2, m2, q1, q2, q3, q4, kP, hkP, hkPi⟩ := Cond.selects_spec hs
  have h1 := findClass_of_methodNamed q3
  rw [hz] at h1
  exact Jvm.Stand.selects_self_of_private h1 hkP hkPi hpriv hinst hy
theorem own_cp {p : Program} {l : Launch} {e : Env} {R : Room} {s : State} {m : MethodId} {args : Array Value} {below : List Frame} {meth : Method} {c : Code} {T : State} {locs : List Loc} {cells slots : Nat} {Z : State} {a0 : Array Value} {h : Heap} {a b : Addr} {ty : FieldType} {z z' : Int32} {F G : Nat → Int32}
    (X : Stand p l e R s m args below meth c T locs cells slots) (hx : p.tables.exec = Jvm.exec) (hZ : Z.Warmed39 s.vm) {own : String} {index : Nat} (hown : s.vm.findClass own = some m.cls)
    (w1 : (Jvm.Cond.methodLink own index Jvm.Stand.acN).before a0 Z = true) (w2 : (Jvm.Cond.native Jvm.Stand.acN).before a0 Z = true) (w3 : (Jvm.Cond.static Jvm.Stand.acN).before a0 Z = true) (w4 : (Jvm.Cond.initialized "java/lang/System").before a0 Z = true) (eT : T.heap = h)
    (A : own_AI Z h a ty z F) (B : own_AI Z h b ty z' G) (hp : refKind ty = false) {nn : Int32} (hnn : nn = z' ∧ z'.toInt ≤ z.toInt) {n0 : Nat} (N : Fr n0 locs) (ge : n0 ≤ b)
    {g : JFrame} (hg : g.method = m) (hsize : g.locals.size = c.maxLocals) {rest : List Value} (hs : g.stack = .int nn :: .int 0 :: .ref b :: .int 0 :: .ref a :: rest) (hd : decode c.code g.pc = .ok (.invokestatic index, 3))
    (hf : 1 ≤ R.frames) {W : Nat} (hW : 2 * g.monitorRoom + (rest.map fun v => v.category).sum ≤ W) (hlo : W + (nativeFrameWords "java/lang/System" "arraycopy" 5 + 11) ≤ R.locals) :
    ∃ T' h' L, Stand p l e R s m args below meth c T' L cells slots ∧ T'.heap = h' ∧ Fr n0 L ∧ Keep h h' [b] ∧ own_AI Z h' b ty z' F ∧
      ∀ target, Steps p.tables e below (T'.setTop { g with pc := g.pc + 3, stack := rest }) target → Steps p.tables e below (T.setTop g) target := by
  obtain ⟨ca, Aa, Sa, Na, Ha⟩ := A
  obtain ⟨cb, Ab, Sb, Nb, Hb⟩ := B
  obtain ⟨rfl, hle⟩ := hnn
  have gA : ∀ i, i < ca.slots.size → ((List.range ca.slots.size).map fun i => Value.int (F i)).getD i (.int 0) = .int (F i) := fun i hi => by simp [List.getD_eq_getElem?_getD, hi]
  have gB : ∀ i, i < cb.slots.size → ((List.range cb.slots.size).map fun i => Value.int (G i)).getD i (.int 0) = .int (G i) := fun i hi => by simp [List.getD_eq_getElem?_getD, hi]
  have A' : Arv Z h a ca.cls ty z ((List.range ca.slots.size).map fun i => Value.int (F i)) (.int 0) := ⟨ca, Aa, rfl, Sa, Na, fun i hi => by rw [gA i hi]; exact (Ha i hi).1, fun i hi => by rw [gA i hi]; exact (Ha i hi).2⟩
  have B' : Arv Z h b cb.cls ty nn ((List.range cb.slots.size).map fun i => Value.int (G i)) (.int 0) := ⟨cb, Ab, rfl, Sb, Nb, fun i hi => by rw [gB i hi]; exact (Hb i hi).1, fun i hi => by rw [gB i hi]; exact (Hb i hi).2⟩
  have e0 : (0 : Int32).toNatClampNeg = 0 := by decide
  have hn : nn.toNatClampNeg ≤ z.toNatClampNeg := by unfold Int32.toNatClampNeg; omega
  obtain ⟨T', h', L, X', e', N', K, V, st⟩ := cpA X hx hZ hown w1 w2 w3 w4 eT A' B' (us := (List.range nn.toNatClampNeg).map fun i => Value.int (F i)) (Or.inl ⟨rfl, hp⟩) (sp := 0) (dp := 0) (nn := nn) (by decide) (by decide) Nb (by rw [e0]; omega) (by rw [e0]; omega)
    (by rw [e0]; exact List.map_congr_left fun i hi => by rw [Nat.zero_add, gA i (by rw [Sa]; exact Nat.lt_of_lt_of_le (List.mem_range.mp hi) hn)]) (by rw [e0]; simp [Sb]) N ge hg hsize hs hd hf hW hlo
  refine ⟨T', h', L, X', e', N', K, ?_, st⟩
  obtain ⟨c2, A2, q2, S2, N2, H2, G2⟩ := V
  have gC : ∀ i, i < c2.slots.size → (((List.range cb.slots.size).map fun i => Value.int (G i)).take (0 : Int32).toNatClampNeg ++ ((List.range nn.toNatClampNeg).map fun i => Value.int (F i)) ++ ((List.range cb.slots.size).map fun i => Value.int (G i)).drop ((0 : Int32).toNatClampNeg + nn.toNatClampNeg)).getD i (.int 0) = .int (F i) := fun i hi => by
    rw [S2] at hi
    rw [e0, List.take_zero, List.nil_append, List.getD_eq_getElem?_getD, List.getElem?_append_left (by rw [List.length_map, List.length_range]; exact hi)]
    simp [hi]
  exact ⟨c2, A2, S2, N2, fun i hi => ⟨by have := H2 i hi; rw [gC i hi] at this; exact this, by have := G2 i hi; rw [gC i hi] at this; exact this⟩⟩
theorem own_hit {F : Nat → Int32} {i j : Nat} {v : Int32} (h : i = j) : own_upd F j v i = v := if_pos h
theorem own_miss {F : Nat → Int32} {i j : Nat} {v : Int32} (h : ¬ i = j) : own_upd F j v i = F i := if_neg h
theorem own_ln {w : Int32} (hl : ¬ w < 0 ∧ w < (16 : Int32)) : 0 ≤ w.toInt ∧ w.toInt < 16 := by
  have e0 : (0 : Int32).toInt = 0 := by decide
  have e16 : (16 : Int32).toInt = 16 := by decide
  rw [Int32.lt_iff_toInt_lt, Int32.lt_iff_toInt_lt, e0, e16] at hl
  omega
theorem own_sum {w p : Int32} (hl : ¬ w < 0 ∧ w < (16 : Int32)) (hc : ¬ p < 0 ∧ p < (5 : Int32)) : (w + p).toInt = w.toInt + p.toInt ∧ 0 ≤ p.toInt ∧ p.toInt < 5 := by
  have h := own_ln hl
  have e0 : (0 : Int32).toInt = 0 := by decide
  have e5 : (5 : Int32).toInt = 5 := by decide
  rw [Int32.lt_iff_toInt_lt, Int32.lt_iff_toInt_lt, e0, e5] at hc
  have h1 := c_iadd w p
  have h2 := rng32 (w + p)
  omega
theorem own_ax {w p : Int32} (hl : ¬ w < 0 ∧ w < (16 : Int32)) (hc : ¬ p < 0 ∧ p < (5 : Int32)) : ¬ ((w ^^^ (w + p)) &&& (p ^^^ (w + p))) < (0 : Int32) := by
  have h := own_ln hl
  have s := own_sum hl hc
  have e0 : (0 : Int32).toInt = 0 := by decide
  rw [Int32.lt_iff_toInt_lt, e0]
  have a1 := (c_xorS w (w + p)).2.2.2 (by omega) (by omega)
  have a2 := (c_andS (w ^^^ (w + p)) (p ^^^ (w + p))).2.1 a1
  omega
theorem own_rs {w p : Int32} (hl : ¬ w < 0 ∧ w < (16 : Int32)) (hc : ¬ p < 0 ∧ p < (5 : Int32)) : ¬ (64 : Int32) < (w + p) := by
  have h := own_ln hl
  have s := own_sum hl hc
  have e : (64 : Int32).toInt = 64 := by decide
  rw [Int32.lt_iff_toInt_lt, e]
  omega
theorem own_ik {w p : Int32} (hl : ¬ w < 0 ∧ w < (16 : Int32)) (hc : ¬ p < 0 ∧ p < (5 : Int32)) : ¬ (w + p) < 0 ∧ (w + p) < (64 : Int32) := by
  have h := own_ln hl
  have s := own_sum hl hc
  have e : (64 : Int32).toInt = 64 := by decide
  have e0 : (0 : Int32).toInt = 0 := by decide
  rw [Int32.lt_iff_toInt_lt, Int32.lt_iff_toInt_lt, e, e0]
  omega
theorem own_i0 {w : Int32} (hl : ¬ w < 0 ∧ w < (16 : Int32)) : ¬ w < 0 ∧ w < (64 : Int32) := ⟨hl.1, Int32.lt_of_lt_of_le hl.2 (by decide)⟩
theorem own_i1 {w : Int32} (hl : ¬ w < 0 ∧ w < (16 : Int32)) : ¬ (w + (1 : Int32)) < 0 ∧ (w + (1 : Int32)) < (64 : Int32) := own_ik hl (by decide)
theorem own_i2 {w : Int32} (hl : ¬ w < 0 ∧ w < (16 : Int32)) : ¬ (w + (2 : Int32)) < 0 ∧ (w + (2 : Int32)) < (64 : Int32) := own_ik hl (by decide)
theorem own_i3 {w : Int32} (hl : ¬ w < 0 ∧ w < (16 : Int32)) : ¬ (w + (3 : Int32)) < 0 ∧ (w + (3 : Int32)) < (64 : Int32) := own_ik hl (by decide)
theorem own_n64 {w : Int32} (hl : ¬ w < 0 ∧ w < (16 : Int32)) : ¬ w = (64 : Int32) := fun q => by rw [q] at hl; exact absurd hl.2 (by decide)
theorem own_c16 {w : Int32} (hl : ¬ w < 0 ∧ w < (16 : Int32)) : w.toNatClampNeg ≤ 16 := by
  have h := own_ln hl
  unfold Int32.toNatClampNeg; omega
theorem own_atb {k n z : Int32} (hk : 0 ≤ k.toInt) (h : n.toInt ≤ z.toInt) (q : k < n) : ¬ k < 0 ∧ k < z := by
  have e0 : (0 : Int32).toInt = 0 := by decide
  rw [Int32.lt_iff_toInt_lt] at q
  rw [Int32.lt_iff_toInt_lt, Int32.lt_iff_toInt_lt, e0]
  omega
theorem d1_0 : decode prog_2_method_1_code 0 = .ok (.aload_n 0, 1) := by decide +kernel
theorem d1_1 : decode prog_2_method_1_code 1 = .ok (.invokespecial 1, 3) := by decide +kernel
theorem d1_4 : decode prog_2_method_1_code 4 = .ok (.aload_n 0, 1) := by decide +kernel
theorem d1_5 : decode prog_2_method_1_code 5 = .ok (.bipush 64, 2) := by decide +kernel
theorem d1_7 : decode prog_2_method_1_code 7 = .ok (.newarray .byte, 2) := by decide +kernel
theorem d1_9 : decode prog_2_method_1_code 9 = .ok (.putfield 9, 3) := by decide +kernel
theorem d1_12 : decode prog_2_method_1_code 12 = .ok (.aload_n 0, 1) := by decide +kernel
theorem d1_13 : decode prog_2_method_1_code 13 = .ok (.iconst (-1), 1) := by decide +kernel
theorem d1_14 : decode prog_2_method_1_code 14 = .ok (.putfield 13, 3) := by decide +kernel
theorem d1_17 : decode prog_2_method_1_code 17 = .ok (.return_, 1) := by decide +kernel
theorem pn_1 : plainName "com/example/corvid/corvid/ByteWriter" = true := by first | (simp [plainName, overriddenIn]; done) | decide +kernel
theorem ef_1 (m : MethodId) (x0 : Addr) : entryFrame m #[(.ref x0)] 1 = mkF m 0 #[.val (.ref x0)] [] := by first | (simp [entryFrame, mkF, argsToLocals, Value.category]; done) | rfl
def Q1 (Z : State) (o0 : Addr) (w : Int32) (w8 : Int32) (h0 : Heap) (n0 : Nat) (v : Option Value) (h : Heap) (L : List Loc) : Prop := ∃ r_o0_bytes : Addr, v = none ∧ Fr n0 L ∧ Keep h0 h [o0] ∧ n0 ≤ r_o0_bytes ∧ h0.size ≤ r_o0_bytes ∧ Fld Z h o0 "com/example/corvid/corvid/ByteWriter" "bytes" "[B" (.ref r_o0_bytes) ∧ own_AI Z h r_o0_bytes .byte (64 : Int32) (fun _ => 0) ∧ Fld Z h o0 "com/example/corvid/corvid/ByteWriter" "encapsulationStart" "I" (.int (-1 : Int32)) ∧ Fld Z h o0 "com/example/corvid/corvid/ByteWriter" "length" "I" (.int w)
set_option maxRecDepth 65536 in
set_option maxHeartbeats 40000000 in
theorem rm1 (l : Launch) (Z : State) (a0 : Array Value) (hw : ∀ d ∈ tables_1, d.before a0 Z = true) (ws : List Jvm.Cond) (o0 : Addr) (w : Int32) (w8 : Int32) (h0 : Heap) (n0 : Nat) (Z0 : n0 ≤ h0.size) (E_o0 : Exa Z h0 o0 "com/example/corvid/corvid/ByteWriter") (F_length_o0 : Fld Z h0 o0 "com/example/corvid/corvid/ByteWriter" "length" "I" (.int w)) (F_bytes_o0 : Fld Z h0 o0 "com/example/corvid/corvid/ByteWriter" "bytes" "[B" .null) (g_o0 : n0 ≤ o0) (F_encapsulationStart_o0 : Fld Z h0 o0 "com/example/corvid/corvid/ByteWriter" "encapsulationStart" "I" (.int w8)) :
    MetFree l (⟨"com/example/corvid/corvid/ByteWriter", "<init>", "()V"⟩ : MethodName) (head1 (Jvm.Cond.code (⟨"com/example/corvid/corvid/ByteWriter", "<init>", "()V"⟩ : MethodName) prog_2_method_1_code 1 none :: ws) ({ frames := 1, cells := 1, slots := 64, locals := 12 } : Room)) (fun a U => a = #[(.ref o0)] ∧ Z.Warmed39 U.vm ∧ U.heap = h0) (fun _ _ _ _ _ => True) (fun _ U o U' => ∃ v L, o = .returned v ∧ Q1 Z o0 w w8 h0 n0 v U'.heap L ∧ FrameEnd U o U' L ({ frames := 1, cells := 1, slots := 64, locals := 12 } : Room).cells ({ frames := 1, cells := 1, slots := 64, locals := 12 } : Room).slots) := by
  refine MetFree.of_bodySF (plainFor_of_name pn_1) hisR ?_
  intro p e s m args below meth c s₁ Bd hml0 hP hK
  obtain ⟨rfl, hZ, hh⟩ := hP
  have hx := Bd.exec
  have hby := Bd.bytes
  have hml : c.maxLocals = 1 := hml0
  have hown : s.vm.findClass "com/example/corvid/corvid/ByteWriter" = some m.cls := findClass_of_methodNamed Bd.named
  have hnm := (name_of_methodNamed Bd.named Bd.method).1
  have X0 : Stand p l e ({ frames := 1, cells := 1, slots := 64, locals := 12 } : Room) s m #[(.ref o0)] below meth c s₁ [] 0 0 := Stand.of_body Bd
  have e0 : s₁.heap = h0 := by rw [← hh, Bd.state]; rfl
  have N0 := Fr.nil n0
  have pre0 : ∀ t, Steps p.tables e below (s₁.setTop (mkF m 0 #[.val (.ref o0)] [])) t → Steps p.tables e below (s₁.setTop (entryFrame m #[(.ref o0)] 1)) t := fun t k => castTop (ef_1 m o0) k
  obtain ⟨T1, X1, e1, st1⟩ := initO X0 hx hZ hown (hw _ (List.mem_of_getElem? (i := 7) rfl)) (hw _ (List.mem_of_getElem? (i := 8) rfl)) (hw _ (List.mem_of_getElem? (i := 9) rfl)) e0 (g := (mkF m 1 #[.val (.ref o0)] [(.ref o0)])) rfl (by rw [hml]; rfl) rfl (hb hby d1_1) (by decide) (W := 0) (by show 2 * 0 + _ ≤ _; exact Nat.le_of_eq rfl) (by decide)
  obtain ⟨T2, h2, k2, X2, e2, E2, A2, st2⟩ := newP X1 hx hZ (hw _ (List.mem_of_getElem? (i := 0) rfl)) e1 (g := (mkF m 7 #[.val (.ref o0)] [(.int (64 : Int32)), (.ref o0)])) rfl (hb hby d1_7) rfl (by decide) (cap := 64) (by decide) (by decide) (by decide) (by decide)
  obtain ⟨b2, g2⟩ : ∃ z, z = h0.size := ⟨_, rfl⟩
  rw [← g2] at A2 st2
  have g_b2 : n0 ≤ b2 := Nat.le_trans Z0 (Nat.le_of_eq g2.symm)
  have sz_b2 : h0.size ≤ b2 := Nat.le_trans (Keep.refl h0 [o0]).1 (Nat.le_of_eq g2.symm)
  have ne_o0_b2 : o0 ≠ b2 := Nat.ne_of_lt (Nat.lt_of_lt_of_le E_o0.lt (Nat.le_of_eq g2.symm))
  have K3 : Keep h0 h2 [o0] := (Keep.refl h0 [o0]).ext E2
  have Z4 : n0 ≤ h2.size := Nat.le_trans Z0 K3.1
  have V_b2 : own_AI Z h2 b2 .byte (64 : Int32) (fun _ => 0) := own_AI.new A2 (by decide) rfl
  obtain ⟨T5, h5, X5, e5, W5, st5⟩ := putF X2 hx hZ hown (host := "") (Or.inl (hw _ (List.mem_of_getElem? (i := 10) rfl))) Via.refl e2 (F_bytes_o0.ext E2) (E_o0.ext E2) (Or.inl (hw _ (List.mem_of_getElem? (i := 11) rfl))) (hw _ (List.mem_of_getElem? (i := 2) rfl)) (ty := (.array .byte)) (by decide) rfl rfl (g := (mkF m 9 #[.val (.ref o0)] [(.ref b2), (.ref o0)])) rfl rfl (hb hby d1_9)
  have Fw5 := (F_bytes_o0.ext E2).same W5
  have K6 : Keep h0 h5 [o0] := K3.wr W5 (Or.inl (List.mem_of_getElem? (i := 0) rfl))
  have Z7 : n0 ≤ h5.size := Nat.le_trans Z0 K6.1
  have N5 := Fr.snoc X5 N0 g_o0
  obtain ⟨LS5, X5, N5⟩ : ∃ L, Stand p l e ({ frames := 1, cells := 1, slots := 64, locals := 12 } : Room) s m #[(.ref o0)] below meth c T5 L 1 64 ∧ Fr n0 L := ⟨_, X5, N5⟩
  have c9 := ((F_encapsulationStart_o0.ext E2).other W5 (Or.inr (slot_ne (Or.inl (hw _ (List.mem_of_getElem? (i := 13) rfl))) (Or.inl (hw _ (List.mem_of_getElem? (i := 11) rfl))) (by decide) (t := .int) (t' := (.array .byte)) (by decide) (by decide))))
  obtain ⟨T10, h10, X10, e10, W10, st10⟩ := putF X5 hx hZ hown (host := "") (Or.inl (hw _ (List.mem_of_getElem? (i := 12) rfl))) Via.refl e5 c9 ((E_o0.ext E2).wr W5) (Or.inl (hw _ (List.mem_of_getElem? (i := 13) rfl))) (hw _ (List.mem_of_getElem? (i := 2) rfl)) (ty := .int) (by decide) rfl rfl (g := (mkF m 14 #[.val (.ref o0)] [(.int (-1 : Int32)), (.ref o0)])) rfl rfl (hb hby d1_14)
  have Fw10 := c9.same W10
  have K11 : Keep h0 h10 [o0] := K6.wr W10 (Or.inl (List.mem_of_getElem? (i := 0) rfl))
  have Z12 : n0 ≤ h10.size := Nat.le_trans Z0 K11.1
  have N10 := Fr.snoc X10 N5 g_o0
  obtain ⟨LS10, X10, N10⟩ : ∃ L, Stand p l e ({ frames := 1, cells := 1, slots := 64, locals := 12 } : Room) s m #[(.ref o0)] below meth c T10 L 1 64 ∧ Fr n0 L := ⟨_, X10, N10⟩
  obtain ⟨fs, hr, hrun, hended, hW, hsame⟩ := X10.leave (v := none) (fun _ => rfl)
  have c13 := (Fw5.other W10 (Or.inr (slot_ne (Or.inl (hw _ (List.mem_of_getElem? (i := 11) rfl))) (Or.inl (hw _ (List.mem_of_getElem? (i := 13) rfl))) (by decide) (t := (.array .byte)) (t' := .int) (by decide) (by decide))))
  have c14 := ((V_b2.other W5 (Ne.symm ne_o0_b2)).other W10 (Ne.symm ne_o0_b2))
  have c15 := (((F_length_o0.ext E2).other W5 (Or.inr (slot_ne (Or.inl (hw _ (List.mem_of_getElem? (i := 24) rfl))) (Or.inl (hw _ (List.mem_of_getElem? (i := 11) rfl))) (by decide) (t := .int) (t' := (.array .byte)) (by decide) (by decide)))).other W10 (Or.inr (slot_ne (Or.inl (hw _ (List.mem_of_getElem? (i := 24) rfl))) (Or.inl (hw _ (List.mem_of_getElem? (i := 13) rfl))) (by decide) (t := .int) (t' := .int) (by decide) (by decide))))
  refine ⟨_, _, pre0 _ ?_, hrun, hended, _, _, rfl, ?_, ⟨_, rfl⟩, hW, hsame.mono (by decide) (by decide)⟩
  · show Steps p.tables e below (s₁.setTop (mkF m 0 #[.val (.ref o0)] [])) _
    refine XS.aloadN X0.here hx rfl (hb hby d1_0) rfl rfl ?_
    show Steps p.tables e below (s₁.setTop (mkF m 1 #[.val (.ref o0)] [(.ref o0)])) _
    refine st1 _ ?_
    show Steps p.tables e below (T1.setTop (mkF m 4 #[.val (.ref o0)] [])) _
    refine XS.aloadN X1.here hx rfl (hb hby d1_4) rfl rfl ?_
    show Steps p.tables e below (T1.setTop (mkF m 5 #[.val (.ref o0)] [(.ref o0)])) _
    refine XS.bipush X1.here hx rfl (hb hby d1_5) ?_
    show Steps p.tables e below (T1.setTop (mkF m 7 #[.val (.ref o0)] [(.int (64 : Int32)), (.ref o0)])) _
    refine st2 _ ?_
    show Steps p.tables e below (T2.setTop (mkF m 9 #[.val (.ref o0)] [(.ref b2), (.ref o0)])) _
    refine st5 _ ?_
    show Steps p.tables e below (T5.setTop (mkF m 12 #[.val (.ref o0)] [])) _
    refine XS.aloadN X5.here hx rfl (hb hby d1_12) rfl rfl ?_
    show Steps p.tables e below (T5.setTop (mkF m 13 #[.val (.ref o0)] [(.ref o0)])) _
    refine XS.iconst X5.here hx rfl (hb hby d1_13) ?_
    show Steps p.tables e below (T5.setTop (mkF m 14 #[.val (.ref o0)] [(.int (-1 : Int32)), (.ref o0)])) _
    refine st10 _ ?_
    show Steps p.tables e below (T10.setTop (mkF m 17 #[.val (.ref o0)] [])) _
    exact X10.returnOut hx Bd.returns (hb hby d1_17) hr
  · show Q1 Z o0 w w8 h0 n0 _ T10.heap _
    rw [e10]
    exact ⟨b2, rfl, N10, K11, g_b2, sz_b2, c13, c14, Fw10, c15⟩
theorem d5_0 : decode jdk_29_method_24_code 0 = .ok (.iload_n 0, 1) := by decide +kernel
theorem d5_1 : decode jdk_29_method_24_code 1 = .ok (.iload_n 1, 1) := by decide +kernel
theorem d5_2 : decode jdk_29_method_24_code 2 = .ok (.iadd, 1) := by decide +kernel
theorem d5_3 : decode jdk_29_method_24_code 3 = .ok (.istore_n 2, 1) := by decide +kernel
theorem d5_4 : decode jdk_29_method_24_code 4 = .ok (.iload_n 0, 1) := by decide +kernel
theorem d5_5 : decode jdk_29_method_24_code 5 = .ok (.iload_n 2, 1) := by decide +kernel
theorem d5_6 : decode jdk_29_method_24_code 6 = .ok (.ixor, 1) := by decide +kernel
theorem d5_7 : decode jdk_29_method_24_code 7 = .ok (.iload_n 1, 1) := by decide +kernel
theorem d5_8 : decode jdk_29_method_24_code 8 = .ok (.iload_n 2, 1) := by decide +kernel
theorem d5_9 : decode jdk_29_method_24_code 9 = .ok (.ixor, 1) := by decide +kernel
theorem d5_10 : decode jdk_29_method_24_code 10 = .ok (.iand, 1) := by decide +kernel
theorem d5_11 : decode jdk_29_method_24_code 11 = .ok (.ifCond .ge 13, 3) := by decide +kernel
theorem d5_24 : decode jdk_29_method_24_code 24 = .ok (.iload_n 2, 1) := by decide +kernel
theorem d5_25 : decode jdk_29_method_24_code 25 = .ok (.ireturn, 1) := by decide +kernel
theorem ef_5 (m : MethodId) (x0 : Int32) (x1 : Int32) : entryFrame m #[(.int x0), (.int x1)] 3 = mkF m 0 #[.val (.int x0), .val (.int x1), .unset] [] := by first | (simp [entryFrame, mkF, argsToLocals, Value.category]; done) | rfl
def Q5 (Z : State) (p0 : Int32) (p1 : Int32) (h0 : Heap) (n0 : Nat) (v : Option Value) (h : Heap) (L : List Loc) : Prop := v = some (.int (p0 + p1)) ∧ Fr n0 L ∧ h = h0
set_option maxRecDepth 65536 in
set_option maxHeartbeats 40000000 in
theorem rm5 (l : Launch) (Z : State) (a0 : Array Value) (hw : ∀ d ∈ tables_1, d.before a0 Z = true) (ws : List Jvm.Cond) (p0 : Int32) (p1 : Int32) (h0 : Heap) (n0 : Nat) (Z0 : n0 ≤ h0.size) (ha : ¬ ((p0 ^^^ (p0 + p1)) &&& (p1 ^^^ (p0 + p1))) < (0 : Int32)) :
    MetFree l (⟨"java/lang/Math", "addExact", "(II)I"⟩ : MethodName) (head1 (Jvm.Cond.code (⟨"java/lang/Math", "addExact", "(II)I"⟩ : MethodName) jdk_29_method_24_code 3 (some .int) :: ws) ({ frames := 0, cells := 0, slots := 0, locals := 0 } : Room)) (fun a U => a = #[(.int p0), (.int p1)] ∧ Z.Warmed39 U.vm ∧ U.heap = h0) (fun _ _ _ _ _ => True) (fun _ U o U' => ∃ v L, o = .returned v ∧ Q5 Z p0 p1 h0 n0 v U'.heap L ∧ FrameEnd U o U' L ({ frames := 0, cells := 0, slots := 0, locals := 0 } : Room).cells ({ frames := 0, cells := 0, slots := 0, locals := 0 } : Room).slots) := by
  refine MetFree.of_bodySF (Jvm.Free.JP.mathPlain rfl (by decide +kernel)) hisR ?_
  intro p e s m args below meth c s₁ Bd hml0 hP hK
  obtain ⟨rfl, hZ, hh⟩ := hP
  have hx := Bd.exec
  have hby := Bd.bytes
  have hml : c.maxLocals = 3 := hml0
  have hown : s.vm.findClass "java/lang/Math" = some m.cls := findClass_of_methodNamed Bd.named
  have hnm := (name_of_methodNamed Bd.named Bd.method).1
  have X0 : Stand p l e ({ frames := 0, cells := 0, slots := 0, locals := 0 } : Room) s m #[(.int p0), (.int p1)] below meth c s₁ [] 0 0 := Stand.of_body Bd
  have e0 : s₁.heap = h0 := by rw [← hh, Bd.state]; rfl
  have N0 := Fr.nil n0
  have pre0 : ∀ t, Steps p.tables e below (s₁.setTop (mkF m 0 #[.val (.int p0), .val (.int p1), .unset] [])) t → Steps p.tables e below (s₁.setTop (entryFrame m #[(.int p0), (.int p1)] 3)) t := fun t k => castTop (ef_5 m p0 p1) k
  have pre1 : ∀ t, Steps p.tables e below (s₁.setTop (mkF m 11 #[.val (.int p0), .val (.int p1), .val (.int (p0 + p1))] [(.int ((p0 ^^^ (p0 + p1)) &&& (p1 ^^^ (p0 + p1))))])) t → Steps p.tables e below (s₁.setTop (entryFrame m #[(.int p0), (.int p1)] 3)) t := fun t kt => pre0 t (by
      show Steps p.tables e below (s₁.setTop (mkF m 0 #[.val (.int p0), .val (.int p1), .unset] [])) _
      refine XS.iloadN X0.here hx rfl (hb hby d5_0) rfl ?_
      show Steps p.tables e below (s₁.setTop (mkF m 1 #[.val (.int p0), .val (.int p1), .unset] [(.int p0)])) _
      refine XS.iloadN X0.here hx rfl (hb hby d5_1) rfl ?_
      show Steps p.tables e below (s₁.setTop (mkF m 2 #[.val (.int p0), .val (.int p1), .unset] [(.int p1), (.int p0)])) _
      refine XS.iadd X0.here hx rfl (hb hby d5_2) rfl ?_
      show Steps p.tables e below (s₁.setTop (mkF m 3 #[.val (.int p0), .val (.int p1), .unset] [(.int (p0 + p1))])) _
      refine XS.istoreN X0.here hx rfl (hb hby d5_3) rfl (l' := #[.val (.int p0), .val (.int p1), .val (.int (p0 + p1))]) rfl ?_
      show Steps p.tables e below (s₁.setTop (mkF m 4 #[.val (.int p0), .val (.int p1), .val (.int (p0 + p1))] [])) _
      refine XS.iloadN X0.here hx rfl (hb hby d5_4) rfl ?_
      show Steps p.tables e below (s₁.setTop (mkF m 5 #[.val (.int p0), .val (.int p1), .val (.int (p0 + p1))] [(.int p0)])) _
      refine XS.iloadN X0.here hx rfl (hb hby d5_5) rfl ?_
      show Steps p.tables e below (s₁.setTop (mkF m 6 #[.val (.int p0), .val (.int p1), .val (.int (p0 + p1))] [(.int (p0 + p1)), (.int p0)])) _
      refine XS.ixor X0.here hx rfl (hb hby d5_6) rfl ?_
      show Steps p.tables e below (s₁.setTop (mkF m 7 #[.val (.int p0), .val (.int p1), .val (.int (p0 + p1))] [(.int (p0 ^^^ (p0 + p1)))])) _
      refine XS.iloadN X0.here hx rfl (hb hby d5_7) rfl ?_
      show Steps p.tables e below (s₁.setTop (mkF m 8 #[.val (.int p0), .val (.int p1), .val (.int (p0 + p1))] [(.int p1), (.int (p0 ^^^ (p0 + p1)))])) _
      refine XS.iloadN X0.here hx rfl (hb hby d5_8) rfl ?_
      show Steps p.tables e below (s₁.setTop (mkF m 9 #[.val (.int p0), .val (.int p1), .val (.int (p0 + p1))] [(.int (p0 + p1)), (.int p1), (.int (p0 ^^^ (p0 + p1)))])) _
      refine XS.ixor X0.here hx rfl (hb hby d5_9) rfl ?_
      show Steps p.tables e below (s₁.setTop (mkF m 10 #[.val (.int p0), .val (.int p1), .val (.int (p0 + p1))] [(.int (p1 ^^^ (p0 + p1))), (.int (p0 ^^^ (p0 + p1)))])) _
      refine XS.iand X0.here hx rfl (hb hby d5_10) rfl ?_
      exact kt)
  have hd11_2 : ¬ (((p0 ^^^ (p0 + p1)) &&& (p1 ^^^ (p0 + p1))) < (0 : Int32)) := ha
  obtain ⟨fs, hr, hrun, hended, hW, hsame⟩ := X0.leave (v := some (.int (p0 + p1))) (fun h => by rw [Bd.returns] at h; cases h)
  have hv3 : (p0 + p1) = (p0 + p1) := rfl
  refine ⟨_, _, pre1 _ ?_, hrun, hended, _, _, rfl, ?_, ⟨_, rfl⟩, hW, hsame.mono (by decide) (by decide)⟩
  · show Steps p.tables e below (s₁.setTop (mkF m 11 #[.val (.int p0), .val (.int p1), .val (.int (p0 + p1))] [(.int ((p0 ^^^ (p0 + p1)) &&& (p1 ^^^ (p0 + p1))))])) _
    refine XS.ifYes X0.here hx rfl (pc0 := 11) (pc' := 24) rfl (hb hby d5_11) rfl ((if0 _ _).trans (flt hd11_2).2.1) (by decide) (by decide) ?_
    show Steps p.tables e below (s₁.setTop (mkF m 24 #[.val (.int p0), .val (.int p1), .val (.int (p0 + p1))] [])) _
    refine XS.iloadN X0.here hx rfl (hb hby d5_24) rfl ?_
    show Steps p.tables e below (s₁.setTop (mkF m 25 #[.val (.int p0), .val (.int p1), .val (.int (p0 + p1))] [(.int (p0 + p1))])) _
    exact retI X0 hx Bd.returns (hb hby d5_25) hr
  · show Q5 Z p0 p1 h0 n0 _ s₁.heap _
    rw [e0]
    exact ⟨congrArg (fun q => some (Value.int q)) hv3.symm, N0, rfl⟩
theorem d4_0 : decode prog_2_method_13_code 0 = .ok (.aload_n 0, 1) := by decide +kernel
theorem d4_1 : decode prog_2_method_13_code 1 = .ok (.getfield 39, 3) := by decide +kernel
theorem d4_4 : decode prog_2_method_13_code 4 = .ok (.iload_n 1, 1) := by decide +kernel
theorem d4_5 : decode prog_2_method_13_code 5 = .ok (.invokestatic 105, 3) := by decide +kernel
theorem d4_8 : decode prog_2_method_13_code 8 = .ok (.istore_n 2, 1) := by decide +kernel
theorem d4_9 : decode prog_2_method_13_code 9 = .ok (.iload_n 2, 1) := by decide +kernel
theorem d4_10 : decode prog_2_method_13_code 10 = .ok (.aload_n 0, 1) := by decide +kernel
theorem d4_11 : decode prog_2_method_13_code 11 = .ok (.getfield 9, 3) := by decide +kernel
theorem d4_14 : decode prog_2_method_13_code 14 = .ok (.arraylength, 1) := by decide +kernel
theorem d4_15 : decode prog_2_method_13_code 15 = .ok (.if_icmp .le 25, 3) := by decide +kernel
theorem d4_40 : decode prog_2_method_13_code 40 = .ok (.return_, 1) := by decide +kernel
theorem pn_4 : plainName "com/example/corvid/corvid/ByteWriter" = true := by first | (simp [plainName, overriddenIn]; done) | decide +kernel
theorem pd_4_0 : parseMethodDescriptor "(II)I" = some ⟨[.int, .int], some .int⟩ := by decide +kernel
theorem ef_4 (m : MethodId) (x0 : Addr) (x1 : Int32) : entryFrame m #[(.ref x0), (.int x1)] 3 = mkF m 0 #[.val (.ref x0), .val (.int x1), .unset] [] := by first | (simp [entryFrame, mkF, argsToLocals, Value.category]; done) | rfl
def Q4 (Z : State) (o0 : Addr) (p1 : Int32) (w : Int32) (r1 : Addr) (F1 : Nat → Int32) (h0 : Heap) (n0 : Nat) (v : Option Value) (h : Heap) (L : List Loc) : Prop := v = none ∧ Fr n0 L ∧ h = h0
set_option maxRecDepth 65536 in
set_option maxHeartbeats 40000000 in
theorem rm4 (l : Launch) (Z : State) (a0 : Array Value) (hw : ∀ d ∈ tables_1, d.before a0 Z = true) (ws : List Jvm.Cond) (o0 : Addr) (p1 : Int32) (w : Int32) (r1 : Addr) (F1 : Nat → Int32) (h0 : Heap) (n0 : Nat) (Z0 : n0 ≤ h0.size) (E_o0 : Exa Z h0 o0 "com/example/corvid/corvid/ByteWriter") (F_length_o0 : Fld Z h0 o0 "com/example/corvid/corvid/ByteWriter" "length" "I" (.int w)) (F_bytes_o0 : Fld Z h0 o0 "com/example/corvid/corvid/ByteWriter" "bytes" "[B" (.ref r1)) (V_r1 : own_AI Z h0 r1 .byte (64 : Int32) F1) (ne_o0_r1 : o0 ≠ r1) (hl : ¬ w < 0 ∧ w < (16 : Int32)) (hc : ¬ p1 < 0 ∧ p1 < (5 : Int32)) :
    MetFree l (⟨"com/example/corvid/corvid/ByteWriter", "reserve", "(I)V"⟩ : MethodName) (head1 (Jvm.Cond.code (⟨"com/example/corvid/corvid/ByteWriter", "reserve", "(I)V"⟩ : MethodName) prog_2_method_13_code 3 none :: ws) ({ frames := 1, cells := 0, slots := 0, locals := 14 } : Room)) (fun a U => a = #[(.ref o0), (.int p1)] ∧ Z.Warmed39 U.vm ∧ U.heap = h0) (fun _ _ _ _ _ => True) (fun _ U o U' => ∃ v L, o = .returned v ∧ Q4 Z o0 p1 w r1 F1 h0 n0 v U'.heap L ∧ FrameEnd U o U' L ({ frames := 1, cells := 0, slots := 0, locals := 14 } : Room).cells ({ frames := 1, cells := 0, slots := 0, locals := 14 } : Room).slots) := by
  refine MetFree.of_bodySF (plainFor_of_name pn_4) hisR ?_
  intro p e s m args below meth c s₁ Bd hml0 hP hK
  obtain ⟨rfl, hZ, hh⟩ := hP
  have hx := Bd.exec
  have hby := Bd.bytes
  have hml : c.maxLocals = 3 := hml0
  have hown : s.vm.findClass "com/example/corvid/corvid/ByteWriter" = some m.cls := findClass_of_methodNamed Bd.named
  have hnm := (name_of_methodNamed Bd.named Bd.method).1
  have X0 : Stand p l e ({ frames := 1, cells := 0, slots := 0, locals := 14 } : Room) s m #[(.ref o0), (.int p1)] below meth c s₁ [] 0 0 := Stand.of_body Bd
  have e0 : s₁.heap = h0 := by rw [← hh, Bd.state]; rfl
  have N0 := Fr.nil n0
  have pre0 : ∀ t, Steps p.tables e below (s₁.setTop (mkF m 0 #[.val (.ref o0), .val (.int p1), .unset] [])) t → Steps p.tables e below (s₁.setTop (entryFrame m #[(.ref o0), (.int p1)] 3)) t := fun t k => castTop (ef_4 m o0 p1) k
  obtain ⟨T1, X1, e1, st1⟩ := getF X0 hx hZ hown (host := "") (Or.inl (hw _ (List.mem_of_getElem? (i := 23) rfl))) Via.refl e0 F_length_o0 (g := (mkF m 1 #[.val (.ref o0), .val (.int p1), .unset] [(.ref o0)])) rfl rfl (hb hby d4_1)
  obtain ⟨_, _, ⟨T2, L2, k2, n2⟩, -, X2, ⟨Lc2, hQ2, l2, y2, z2⟩, st2⟩ := Jvm.LawKit.callS X1 hx (y := (⟨"java/lang/Math", "addExact", "(II)I"⟩ : MethodName)) hown (mvT hZ (hw _ (List.mem_of_getElem? (i := 25) rfl))) (mvT hZ (hw _ (List.mem_of_getElem? (i := 26) rfl))) (mvT hZ (hw _ (List.mem_of_getElem? (i := 27) rfl))) (mvT hZ (hw _ (List.mem_of_getElem? (i := 28) rfl))) (by decide) (backOf (W := 0) (rm5 l Z a0 hw [] w p1 h0 n0 Z0 (own_ax hl hc)) hZ (hw _ (List.mem_of_getElem? (i := 28) rfl)) (hw _ (List.mem_of_getElem? (i := 27) rfl)) (by decide) (by decide)) (g := (mkF m 5 #[.val (.ref o0), .val (.int p1), .unset] [(.int p1), (.int w)])) rfl (by rw [hml]; rfl) (argsL := [(.int w), (.int p1)]) (rest := []) (lenOf pd_4_0 rfl) rfl (by show 2 * 0 + _ ≤ _; exact Nat.le_of_eq rfl) (hb hby d4_5) (fun _ _ => ⟨rfl, e1, (by decide : 0 + 0 ≤ _), (by decide : 0 + 0 ≤ _)⟩)
  dsimp only [Pt.U, Pt.locs, Pt.cells, Pt.slots] at X2 l2 y2 z2 st2 hQ2
  subst l2 y2 z2
  obtain ⟨rfl, N2q, e2q⟩ := hQ2
  have N2 := Fr.app N0 N2q
  obtain ⟨T3, X3, e3, st3⟩ := getF X2 hx hZ hown (host := "") (Or.inl (hw _ (List.mem_of_getElem? (i := 10) rfl))) Via.refl e2q F_bytes_o0 (g := (mkF m 11 #[.val (.ref o0), .val (.int p1), .val (.int (w + p1))] [(.ref o0), (.int (w + p1))])) rfl rfl (hb hby d4_11)
  obtain ⟨cl4, Ar4, Sz4, Nn4, -⟩ := id V_r1
  have pre5 : ∀ t, Steps p.tables e below (T3.setTop (mkF m 15 #[.val (.ref o0), .val (.int p1), .val (.int (w + p1))] [(.int (64 : Int32)), (.int (w + p1))])) t → Steps p.tables e below (s₁.setTop (entryFrame m #[(.ref o0), (.int p1)] 3)) t := fun t kt => pre0 t (by
      show Steps p.tables e below (s₁.setTop (mkF m 0 #[.val (.ref o0), .val (.int p1), .unset] [])) _
      refine XS.aloadN X0.here hx rfl (hb hby d4_0) rfl rfl ?_
      show Steps p.tables e below (s₁.setTop (mkF m 1 #[.val (.ref o0), .val (.int p1), .unset] [(.ref o0)])) _
      refine st1 _ ?_
      show Steps p.tables e below (T1.setTop (mkF m 4 #[.val (.ref o0), .val (.int p1), .unset] [(.int w)])) _
      refine XS.iloadN X1.here hx rfl (hb hby d4_4) rfl ?_
      show Steps p.tables e below (T1.setTop (mkF m 5 #[.val (.ref o0), .val (.int p1), .unset] [(.int p1), (.int w)])) _
      refine st2 _ ?_
      show Steps p.tables e below (T2.setTop (mkF m 8 #[.val (.ref o0), .val (.int p1), .unset] [(.int (w + p1))])) _
      refine XS.istoreN X2.here hx rfl (hb hby d4_8) rfl (l' := #[.val (.ref o0), .val (.int p1), .val (.int (w + p1))]) rfl ?_
      show Steps p.tables e below (T2.setTop (mkF m 9 #[.val (.ref o0), .val (.int p1), .val (.int (w + p1))] [])) _
      refine XS.iloadN X2.here hx rfl (hb hby d4_9) rfl ?_
      show Steps p.tables e below (T2.setTop (mkF m 10 #[.val (.ref o0), .val (.int p1), .val (.int (w + p1))] [(.int (w + p1))])) _
      refine XS.aloadN X2.here hx rfl (hb hby d4_10) rfl rfl ?_
      show Steps p.tables e below (T2.setTop (mkF m 11 #[.val (.ref o0), .val (.int p1), .val (.int (w + p1))] [(.ref o0), (.int (w + p1))])) _
      refine st3 _ ?_
      show Steps p.tables e below (T3.setTop (mkF m 14 #[.val (.ref o0), .val (.int p1), .val (.int (w + p1))] [(.ref r1), (.int (w + p1))])) _
      refine X3.arraylength hx (by rw [e3]; exact Ar4.1) (State.isArrayOf_alike hZ.alike Ar4.2.1) (g := (mkF m 14 #[.val (.ref o0), .val (.int p1), .val (.int (w + p1))] [(.ref r1), (.int (w + p1))])) rfl rfl (hb hby d4_14) _ ?_
      rw [len_of Sz4 Nn4]
      exact kt)
  have hd15_6 : ¬ ((64 : Int32) < (w + p1)) := own_rs hl hc
  obtain ⟨fs, hr, hrun, hended, hW, hsame⟩ := X3.leave (v := none) (fun _ => rfl)
  refine ⟨_, _, pre5 _ ?_, hrun, hended, _, _, rfl, ?_, ⟨_, rfl⟩, hW, hsame.mono (by decide) (by decide)⟩
  · show Steps p.tables e below (T3.setTop (mkF m 15 #[.val (.ref o0), .val (.int p1), .val (.int (w + p1))] [(.int (64 : Int32)), (.int (w + p1))])) _
    refine XS.icmpYes X3.here hx rfl (pc0 := 15) (pc' := 40) rfl (hb hby d4_15) rfl (flt hd15_6).2.2.2 (by decide) (by decide) ?_
    show Steps p.tables e below (T3.setTop (mkF m 40 #[.val (.ref o0), .val (.int p1), .val (.int (w + p1))] [])) _
    exact X3.returnOut hx Bd.returns (hb hby d4_40) hr
  · show Q4 Z o0 p1 w r1 F1 h0 n0 _ T3.heap _
    rw [e3]
    exact ⟨rfl, N2, rfl⟩
theorem d3_0 : decode prog_2_method_6_code 0 = .ok (.aload_n 0, 1) := by decide +kernel
theorem d3_1 : decode prog_2_method_6_code 1 = .ok (.iconst 4, 1) := by decide +kernel
theorem d3_2 : decode prog_2_method_6_code 2 = .ok (.invokevirtual 36, 3) := by decide +kernel
theorem d3_5 : decode prog_2_method_6_code 5 = .ok (.aload_n 0, 1) := by decide +kernel
theorem d3_6 : decode prog_2_method_6_code 6 = .ok (.getfield 9, 3) := by decide +kernel
theorem d3_9 : decode prog_2_method_6_code 9 = .ok (.aload_n 0, 1) := by decide +kernel
theorem d3_10 : decode prog_2_method_6_code 10 = .ok (.getfield 39, 3) := by decide +kernel
theorem d3_13 : decode prog_2_method_6_code 13 = .ok (.iload_n 1, 1) := by decide +kernel
theorem d3_14 : decode prog_2_method_6_code 14 = .ok (.i2b, 1) := by decide +kernel
theorem d3_15 : decode prog_2_method_6_code 15 = .ok (.bastore, 1) := by decide +kernel
theorem d3_16 : decode prog_2_method_6_code 16 = .ok (.aload_n 0, 1) := by decide +kernel
theorem d3_17 : decode prog_2_method_6_code 17 = .ok (.getfield 9, 3) := by decide +kernel
theorem d3_20 : decode prog_2_method_6_code 20 = .ok (.aload_n 0, 1) := by decide +kernel
theorem d3_21 : decode prog_2_method_6_code 21 = .ok (.getfield 39, 3) := by decide +kernel
theorem d3_24 : decode prog_2_method_6_code 24 = .ok (.iconst 1, 1) := by decide +kernel
theorem d3_25 : decode prog_2_method_6_code 25 = .ok (.iadd, 1) := by decide +kernel
theorem d3_26 : decode prog_2_method_6_code 26 = .ok (.iload_n 1, 1) := by decide +kernel
theorem d3_27 : decode prog_2_method_6_code 27 = .ok (.bipush 8, 2) := by decide +kernel
theorem d3_29 : decode prog_2_method_6_code 29 = .ok (.iushr, 1) := by decide +kernel
theorem d3_30 : decode prog_2_method_6_code 30 = .ok (.i2b, 1) := by decide +kernel
theorem d3_31 : decode prog_2_method_6_code 31 = .ok (.bastore, 1) := by decide +kernel
theorem d3_32 : decode prog_2_method_6_code 32 = .ok (.aload_n 0, 1) := by decide +kernel
theorem d3_33 : decode prog_2_method_6_code 33 = .ok (.getfield 9, 3) := by decide +kernel
theorem d3_36 : decode prog_2_method_6_code 36 = .ok (.aload_n 0, 1) := by decide +kernel
theorem d3_37 : decode prog_2_method_6_code 37 = .ok (.getfield 39, 3) := by decide +kernel
theorem d3_40 : decode prog_2_method_6_code 40 = .ok (.iconst 2, 1) := by decide +kernel
theorem d3_41 : decode prog_2_method_6_code 41 = .ok (.iadd, 1) := by decide +kernel
theorem d3_42 : decode prog_2_method_6_code 42 = .ok (.iload_n 1, 1) := by decide +kernel
theorem d3_43 : decode prog_2_method_6_code 43 = .ok (.bipush 16, 2) := by decide +kernel
theorem d3_45 : decode prog_2_method_6_code 45 = .ok (.iushr, 1) := by decide +kernel
theorem d3_46 : decode prog_2_method_6_code 46 = .ok (.i2b, 1) := by decide +kernel
theorem d3_47 : decode prog_2_method_6_code 47 = .ok (.bastore, 1) := by decide +kernel
theorem d3_48 : decode prog_2_method_6_code 48 = .ok (.aload_n 0, 1) := by decide +kernel
theorem d3_49 : decode prog_2_method_6_code 49 = .ok (.getfield 9, 3) := by decide +kernel
theorem d3_52 : decode prog_2_method_6_code 52 = .ok (.aload_n 0, 1) := by decide +kernel
theorem d3_53 : decode prog_2_method_6_code 53 = .ok (.getfield 39, 3) := by decide +kernel
theorem d3_56 : decode prog_2_method_6_code 56 = .ok (.iconst 3, 1) := by decide +kernel
theorem d3_57 : decode prog_2_method_6_code 57 = .ok (.iadd, 1) := by decide +kernel
theorem d3_58 : decode prog_2_method_6_code 58 = .ok (.iload_n 1, 1) := by decide +kernel
theorem d3_59 : decode prog_2_method_6_code 59 = .ok (.bipush 24, 2) := by decide +kernel
theorem d3_61 : decode prog_2_method_6_code 61 = .ok (.iushr, 1) := by decide +kernel
theorem d3_62 : decode prog_2_method_6_code 62 = .ok (.i2b, 1) := by decide +kernel
theorem d3_63 : decode prog_2_method_6_code 63 = .ok (.bastore, 1) := by decide +kernel
theorem d3_64 : decode prog_2_method_6_code 64 = .ok (.aload_n 0, 1) := by decide +kernel
theorem d3_65 : decode prog_2_method_6_code 65 = .ok (.dup, 1) := by decide +kernel
theorem d3_66 : decode prog_2_method_6_code 66 = .ok (.getfield 39, 3) := by decide +kernel
theorem d3_69 : decode prog_2_method_6_code 69 = .ok (.iconst 4, 1) := by decide +kernel
theorem d3_70 : decode prog_2_method_6_code 70 = .ok (.iadd, 1) := by decide +kernel
theorem d3_71 : decode prog_2_method_6_code 71 = .ok (.putfield 39, 3) := by decide +kernel
theorem d3_74 : decode prog_2_method_6_code 74 = .ok (.return_, 1) := by decide +kernel
theorem pn_3 : plainName "com/example/corvid/corvid/ByteWriter" = true := by first | (simp [plainName, overriddenIn]; done) | decide +kernel
theorem pd_3_0 : parseMethodDescriptor "(I)V" = some ⟨[.int], none⟩ := by decide +kernel
theorem ef_3 (m : MethodId) (x0 : Addr) (x1 : Int32) : entryFrame m #[(.ref x0), (.int x1)] 2 = mkF m 0 #[.val (.ref x0), .val (.int x1)] [] := by first | (simp [entryFrame, mkF, argsToLocals, Value.category]; done) | rfl
def f3_r1_a (p1 : Int32) (w : Int32) (F1 : Nat → Int32) : Nat → Int32 :=
  (own_upd (own_upd (own_upd (own_upd F1 (w).toNatClampNeg (nar .byte (p1.toInt8.toInt32))) ((w + (1 : Int32))).toNatClampNeg (nar .byte (((p1.toUInt32 >>> ((8 : Int32) &&& 31).toUInt32).toInt32).toInt8.toInt32))) ((w + (2 : Int32))).toNatClampNeg (nar .byte (((p1.toUInt32 >>> ((16 : Int32) &&& 31).toUInt32).toInt32).toInt8.toInt32))) ((w + (3 : Int32))).toNatClampNeg (nar .byte (((p1.toUInt32 >>> ((24 : Int32) &&& 31).toUInt32).toInt32).toInt8.toInt32)))
def Q3 (Z : State) (o0 : Addr) (p1 : Int32) (w : Int32) (r1 : Addr) (F1 : Nat → Int32) (h0 : Heap) (n0 : Nat) (v : Option Value) (h : Heap) (L : List Loc) : Prop := v = none ∧ Fr n0 L ∧ Keep h0 h [r1, o0] ∧ own_AI Z h r1 .byte (64 : Int32) (f3_r1_a p1 w F1) ∧ Fld Z h o0 "com/example/corvid/corvid/ByteWriter" "length" "I" (.int (w + (4 : Int32))) ∧ Fld Z h o0 "com/example/corvid/corvid/ByteWriter" "bytes" "[B" (.ref r1)
set_option maxRecDepth 65536 in
set_option maxHeartbeats 40000000 in
theorem rm3 (l : Launch) (Z : State) (a0 : Array Value) (hw : ∀ d ∈ tables_1, d.before a0 Z = true) (ws : List Jvm.Cond) (o0 : Addr) (p1 : Int32) (w : Int32) (r1 : Addr) (F1 : Nat → Int32) (h0 : Heap) (n0 : Nat) (Z0 : n0 ≤ h0.size) (E_o0 : Exa Z h0 o0 "com/example/corvid/corvid/ByteWriter") (F_length_o0 : Fld Z h0 o0 "com/example/corvid/corvid/ByteWriter" "length" "I" (.int w)) (F_bytes_o0 : Fld Z h0 o0 "com/example/corvid/corvid/ByteWriter" "bytes" "[B" (.ref r1)) (V_r1 : own_AI Z h0 r1 .byte (64 : Int32) F1) (ne_o0_r1 : o0 ≠ r1) (hl : ¬ w < 0 ∧ w < (16 : Int32)) (g_o0 : n0 ≤ o0) (g_r1 : n0 ≤ r1) :
    MetFree l (⟨"com/example/corvid/corvid/ByteWriter", "writeInt", "(I)V"⟩ : MethodName) (head1 (Jvm.Cond.code (⟨"com/example/corvid/corvid/ByteWriter", "writeInt", "(I)V"⟩ : MethodName) prog_2_method_6_code 2 none :: ws) ({ frames := 2, cells := 0, slots := 0, locals := 28 } : Room)) (fun a U => a = #[(.ref o0), (.int p1)] ∧ Z.Warmed39 U.vm ∧ U.heap = h0) (fun _ _ _ _ _ => True) (fun _ U o U' => ∃ v L, o = .returned v ∧ Q3 Z o0 p1 w r1 F1 h0 n0 v U'.heap L ∧ FrameEnd U o U' L ({ frames := 2, cells := 0, slots := 0, locals := 28 } : Room).cells ({ frames := 2, cells := 0, slots := 0, locals := 28 } : Room).slots) := by
  refine MetFree.of_bodySF (plainFor_of_name pn_3) hisR ?_
  intro p e s m args below meth c s₁ Bd hml0 hP hK
  obtain ⟨rfl, hZ, hh⟩ := hP
  have hx := Bd.exec
  have hby := Bd.bytes
  have hml : c.maxLocals = 2 := hml0
  have hown : s.vm.findClass "com/example/corvid/corvid/ByteWriter" = some m.cls := findClass_of_methodNamed Bd.named
  have hnm := (name_of_methodNamed Bd.named Bd.method).1
  have X0 : Stand p l e ({ frames := 2, cells := 0, slots := 0, locals := 28 } : Room) s m #[(.ref o0), (.int p1)] below meth c s₁ [] 0 0 := Stand.of_body Bd
  have e0 : s₁.heap = h0 := by rw [← hh, Bd.state]; rfl
  have N0 := Fr.nil n0
  have pre0 : ∀ t, Steps p.tables e below (s₁.setTop (mkF m 0 #[.val (.ref o0), .val (.int p1)] [])) t → Steps p.tables e below (s₁.setTop (entryFrame m #[(.ref o0), (.int p1)] 2)) t := fun t k => castTop (ef_3 m o0 p1) k
  obtain ⟨cq1, q1, q1'⟩ := E_o0.cell
  obtain ⟨_, _, ⟨T1, L1, k1, n1⟩, -, X1, ⟨Lc1, hQ1, l1, y1, z1⟩, st1⟩ := X0.privateBack hx (y := (⟨"com/example/corvid/corvid/ByteWriter", "reserve", "(I)V"⟩ : MethodName)) hown (mvT hZ (hw _ (List.mem_of_getElem? (i := 19) rfl))) (mvT hZ (hw _ (List.mem_of_getElem? (i := 20) rfl))) (own_selp (z := (⟨"com/example/corvid/corvid/ByteWriter", "writeInt", "(I)V"⟩ : MethodName)) rfl (mvT hZ (hw _ (List.mem_of_getElem? (i := 17) rfl))) (Cond.privateMethod_at (mvP hZ (hw _ (List.mem_of_getElem? (i := 21) rfl)) (args := #[]))) (mvT hZ (hw _ (List.mem_of_getElem? (i := 20) rfl))) (by decide)) (Cond.privateMethod_at (mvP hZ (hw _ (List.mem_of_getElem? (i := 21) rfl)) (args := #[]))) (mvT hZ (hw _ (List.mem_of_getElem? (i := 22) rfl))) (by decide) (backOf (W := 0) (rm4 l Z a0 hw [] o0 (4 : Int32) w r1 F1 h0 n0 Z0 E_o0 F_length_o0 F_bytes_o0 V_r1 ne_o0_r1 (hl) (by decide)) hZ (hw _ (List.mem_of_getElem? (i := 22) rfl)) (hw _ (List.mem_of_getElem? (i := 3) rfl)) (by decide) (by decide)) (g := (mkF m 2 #[.val (.ref o0), .val (.int p1)] [(.int (4 : Int32)), (.ref o0)])) rfl (by rw [hml]; rfl) (Steps.refl _) (a := o0) (by rw [e0]; exact q1) q1' (argsL := [(.int (4 : Int32))]) (rest := []) (lenOf pd_3_0 rfl) rfl (by show 2 * 0 + _ ≤ _; exact Nat.le_of_eq rfl) (hb hby d3_2) (fun _ _ => ⟨rfl, e0, (by decide : 0 + 0 ≤ _), (by decide : 0 + 0 ≤ _)⟩)
  dsimp only [Pt.U, Pt.locs, Pt.cells, Pt.slots] at X1 l1 y1 z1 st1 hQ1
  subst l1 y1 z1
  obtain ⟨rfl, N1q, e1q⟩ := hQ1
  have N1 := Fr.app N0 N1q
  obtain ⟨T2, X2, e2, st2⟩ := getF X1 hx hZ hown (host := "") (Or.inl (hw _ (List.mem_of_getElem? (i := 10) rfl))) Via.refl e1q F_bytes_o0 (g := (mkF m 6 #[.val (.ref o0), .val (.int p1)] [(.ref o0)])) rfl rfl (hb hby d3_6)
  obtain ⟨T3, X3, e3, st3⟩ := getF X2 hx hZ hown (host := "") (Or.inl (hw _ (List.mem_of_getElem? (i := 23) rfl))) Via.refl e2 F_length_o0 (g := (mkF m 10 #[.val (.ref o0), .val (.int p1)] [(.ref o0), (.ref r1)])) rfl rfl (hb hby d3_10)
  obtain ⟨cl4, Ar4, Sz4, Nn4, Hs4⟩ := id V_r1
  have hin4 : ¬ (w < 0 ∨ cl4.slots.size ≤ (w).toNatClampNeg) := inb_of Sz4 (own_i0 hl)
  obtain ⟨T5, h5, X5, e5, W5, st5⟩ := stB X3 hx hZ e3 Ar4 (j := w) hin4 (g := (mkF m 15 #[.val (.ref o0), .val (.int p1)] [(.int (p1.toInt8.toInt32)), (.int w), (.ref r1)])) rfl rfl (hb hby d3_15)
  have V5 : own_AI Z h5 r1 .byte (64 : Int32) (own_upd F1 (w).toNatClampNeg (nar .byte (p1.toInt8.toInt32))) := own_AI.set V_r1 (fits_nar_byte (p1.toInt8.toInt32)) W5
  have K6 : Keep h0 h5 [r1, o0] := (Keep.refl h0 [r1, o0]).wr W5 (Or.inl (List.mem_of_getElem? (i := 0) rfl))
  have Z7 : n0 ≤ h5.size := Nat.le_trans Z0 K6.1
  have N5 := Fr.snoc X5 N1 g_r1
  obtain ⟨LS5, X5, N5⟩ : ∃ L, Stand p l e ({ frames := 2, cells := 0, slots := 0, locals := 28 } : Room) s m #[(.ref o0), (.int p1)] below meth c T5 L 0 0 ∧ Fr n0 L := ⟨_, X5, N5⟩
  obtain ⟨T8, X8, e8, st8⟩ := getF X5 hx hZ hown (host := "") (Or.inl (hw _ (List.mem_of_getElem? (i := 10) rfl))) Via.refl e5 (F_bytes_o0.other W5 (Or.inl ne_o0_r1)) (g := (mkF m 17 #[.val (.ref o0), .val (.int p1)] [(.ref o0)])) rfl rfl (hb hby d3_17)
  obtain ⟨T9, X9, e9, st9⟩ := getF X8 hx hZ hown (host := "") (Or.inl (hw _ (List.mem_of_getElem? (i := 23) rfl))) Via.refl e8 (F_length_o0.other W5 (Or.inl ne_o0_r1)) (g := (mkF m 21 #[.val (.ref o0), .val (.int p1)] [(.ref o0), (.ref r1)])) rfl rfl (hb hby d3_21)
  obtain ⟨cl10, Ar10, Sz10, Nn10, Hs10⟩ := id V5
  have hin10 : ¬ ((w + (1 : Int32)) < 0 ∨ cl10.slots.size ≤ ((w + (1 : Int32))).toNatClampNeg) := inb_of Sz10 (own_i1 hl)
  obtain ⟨T11, h11, X11, e11, W11, st11⟩ := stB X9 hx hZ e9 Ar10 (j := (w + (1 : Int32))) hin10 (g := (mkF m 31 #[.val (.ref o0), .val (.int p1)] [(.int (((p1.toUInt32 >>> ((8 : Int32) &&& 31).toUInt32).toInt32).toInt8.toInt32)), (.int (w + (1 : Int32))), (.ref r1)])) rfl rfl (hb hby d3_31)
  have V11 : own_AI Z h11 r1 .byte (64 : Int32) (own_upd (own_upd F1 (w).toNatClampNeg (nar .byte (p1.toInt8.toInt32))) ((w + (1 : Int32))).toNatClampNeg (nar .byte (((p1.toUInt32 >>> ((8 : Int32) &&& 31).toUInt32).toInt32).toInt8.toInt32))) := own_AI.set V5 (fits_nar_byte (((p1.toUInt32 >>> ((8 : Int32) &&& 31).toUInt32).toInt32).toInt8.toInt32)) W11
  have K12 : Keep h0 h11 [r1, o0] := K6.wr W11 (Or.inl (List.mem_of_getElem? (i := 0) rfl))
  have Z13 : n0 ≤ h11.size := Nat.le_trans Z0 K12.1
  have N11 := Fr.snoc X11 N5 g_r1
  obtain ⟨LS11, X11, N11⟩ : ∃ L, Stand p l e ({ frames := 2, cells := 0, slots := 0, locals := 28 } : Room) s m #[(.ref o0), (.int p1)] below meth c T11 L 0 0 ∧ Fr n0 L := ⟨_, X11, N11⟩
  have c14 := ((F_bytes_o0.other W5 (Or.inl ne_o0_r1)).other W11 (Or.inl ne_o0_r1))
  obtain ⟨T15, X15, e15, st15⟩ := getF X11 hx hZ hown (host := "") (Or.inl (hw _ (List.mem_of_getElem? (i := 10) rfl))) Via.refl e11 c14 (g := (mkF m 33 #[.val (.ref o0), .val (.int p1)] [(.ref o0)])) rfl rfl (hb hby d3_33)
  have c16 := ((F_length_o0.other W5 (Or.inl ne_o0_r1)).other W11 (Or.inl ne_o0_r1))
  obtain ⟨T17, X17, e17, st17⟩ := getF X15 hx hZ hown (host := "") (Or.inl (hw _ (List.mem_of_getElem? (i := 23) rfl))) Via.refl e15 c16 (g := (mkF m 37 #[.val (.ref o0), .val (.int p1)] [(.ref o0), (.ref r1)])) rfl rfl (hb hby d3_37)
  obtain ⟨cl18, Ar18, Sz18, Nn18, Hs18⟩ := id V11
  have hin18 : ¬ ((w + (2 : Int32)) < 0 ∨ cl18.slots.size ≤ ((w + (2 : Int32))).toNatClampNeg) := inb_of Sz18 (own_i2 hl)
  obtain ⟨T19, h19, X19, e19, W19, st19⟩ := stB X17 hx hZ e17 Ar18 (j := (w + (2 : Int32))) hin18 (g := (mkF m 47 #[.val (.ref o0), .val (.int p1)] [(.int (((p1.toUInt32 >>> ((16 : Int32) &&& 31).toUInt32).toInt32).toInt8.toInt32)), (.int (w + (2 : Int32))), (.ref r1)])) rfl rfl (hb hby d3_47)
  have V19 : own_AI Z h19 r1 .byte (64 : Int32) (own_upd (own_upd (own_upd F1 (w).toNatClampNeg (nar .byte (p1.toInt8.toInt32))) ((w + (1 : Int32))).toNatClampNeg (nar .byte (((p1.toUInt32 >>> ((8 : Int32) &&& 31).toUInt32).toInt32).toInt8.toInt32))) ((w + (2 : Int32))).toNatClampNeg (nar .byte (((p1.toUInt32 >>> ((16 : Int32) &&& 31).toUInt32).toInt32).toInt8.toInt32))) := own_AI.set V11 (fits_nar_byte (((p1.toUInt32 >>> ((16 : Int32) &&& 31).toUInt32).toInt32).toInt8.toInt32)) W19
  have K20 : Keep h0 h19 [r1, o0] := K12.wr W19 (Or.inl (List.mem_of_getElem? (i := 0) rfl))
  have Z21 : n0 ≤ h19.size := Nat.le_trans Z0 K20.1
  have N19 := Fr.snoc X19 N11 g_r1
  obtain ⟨LS19, X19, N19⟩ : ∃ L, Stand p l e ({ frames := 2, cells := 0, slots := 0, locals := 28 } : Room) s m #[(.ref o0), (.int p1)] below meth c T19 L 0 0 ∧ Fr n0 L := ⟨_, X19, N19⟩
  obtain ⟨T22, X22, e22, st22⟩ := getF X19 hx hZ hown (host := "") (Or.inl (hw _ (List.mem_of_getElem? (i := 10) rfl))) Via.refl e19 (c14.other W19 (Or.inl ne_o0_r1)) (g := (mkF m 49 #[.val (.ref o0), .val (.int p1)] [(.ref o0)])) rfl rfl (hb hby d3_49)
  obtain ⟨T23, X23, e23, st23⟩ := getF X22 hx hZ hown (host := "") (Or.inl (hw _ (List.mem_of_getElem? (i := 23) rfl))) Via.refl e22 (c16.other W19 (Or.inl ne_o0_r1)) (g := (mkF m 53 #[.val (.ref o0), .val (.int p1)] [(.ref o0), (.ref r1)])) rfl rfl (hb hby d3_53)
  obtain ⟨cl24, Ar24, Sz24, Nn24, Hs24⟩ := id V19
  have hin24 : ¬ ((w + (3 : Int32)) < 0 ∨ cl24.slots.size ≤ ((w + (3 : Int32))).toNatClampNeg) := inb_of Sz24 (own_i3 hl)
  obtain ⟨T25, h25, X25, e25, W25, st25⟩ := stB X23 hx hZ e23 Ar24 (j := (w + (3 : Int32))) hin24 (g := (mkF m 63 #[.val (.ref o0), .val (.int p1)] [(.int (((p1.toUInt32 >>> ((24 : Int32) &&& 31).toUInt32).toInt32).toInt8.toInt32)), (.int (w + (3 : Int32))), (.ref r1)])) rfl rfl (hb hby d3_63)
  have V25 : own_AI Z h25 r1 .byte (64 : Int32) (own_upd (own_upd (own_upd (own_upd F1 (w).toNatClampNeg (nar .byte (p1.toInt8.toInt32))) ((w + (1 : Int32))).toNatClampNeg (nar .byte (((p1.toUInt32 >>> ((8 : Int32) &&& 31).toUInt32).toInt32).toInt8.toInt32))) ((w + (2 : Int32))).toNatClampNeg (nar .byte (((p1.toUInt32 >>> ((16 : Int32) &&& 31).toUInt32).toInt32).toInt8.toInt32))) ((w + (3 : Int32))).toNatClampNeg (nar .byte (((p1.toUInt32 >>> ((24 : Int32) &&& 31).toUInt32).toInt32).toInt8.toInt32))) := own_AI.set V19 (fits_nar_byte (((p1.toUInt32 >>> ((24 : Int32) &&& 31).toUInt32).toInt32).toInt8.toInt32)) W25
  have K26 : Keep h0 h25 [r1, o0] := K20.wr W25 (Or.inl (List.mem_of_getElem? (i := 0) rfl))
  have Z27 : n0 ≤ h25.size := Nat.le_trans Z0 K26.1
  have N25 := Fr.snoc X25 N19 g_r1
  obtain ⟨LS25, X25, N25⟩ : ∃ L, Stand p l e ({ frames := 2, cells := 0, slots := 0, locals := 28 } : Room) s m #[(.ref o0), (.int p1)] below meth c T25 L 0 0 ∧ Fr n0 L := ⟨_, X25, N25⟩
  have c28 := ((c16.other W19 (Or.inl ne_o0_r1)).other W25 (Or.inl ne_o0_r1))
  obtain ⟨T29, X29, e29, st29⟩ := getF X25 hx hZ hown (host := "") (Or.inl (hw _ (List.mem_of_getElem? (i := 23) rfl))) Via.refl e25 c28 (g := (mkF m 66 #[.val (.ref o0), .val (.int p1)] [(.ref o0), (.ref o0)])) rfl rfl (hb hby d3_66)
  obtain ⟨T30, h30, X30, e30, W30, st30⟩ := putF X29 hx hZ hown (host := "") (Or.inl (hw _ (List.mem_of_getElem? (i := 23) rfl))) Via.refl e29 c28 ((((E_o0.wr W5).wr W11).wr W19).wr W25) (Or.inl (hw _ (List.mem_of_getElem? (i := 24) rfl))) (hw _ (List.mem_of_getElem? (i := 2) rfl)) (ty := .int) (by decide) rfl rfl (g := (mkF m 71 #[.val (.ref o0), .val (.int p1)] [(.int (w + (4 : Int32))), (.ref o0)])) rfl rfl (hb hby d3_71)
  have Fw30 := c28.same W30
  have K31 : Keep h0 h30 [r1, o0] := K26.wr W30 (Or.inl (List.mem_of_getElem? (i := 1) rfl))
  have Z32 : n0 ≤ h30.size := Nat.le_trans Z0 K31.1
  have N30 := Fr.snoc X30 N25 g_o0
  obtain ⟨LS30, X30, N30⟩ : ∃ L, Stand p l e ({ frames := 2, cells := 0, slots := 0, locals := 28 } : Room) s m #[(.ref o0), (.int p1)] below meth c T30 L 0 0 ∧ Fr n0 L := ⟨_, X30, N30⟩
  obtain ⟨fs, hr, hrun, hended, hW, hsame⟩ := X30.leave (v := none) (fun _ => rfl)
  have c33 := (((c14.other W19 (Or.inl ne_o0_r1)).other W25 (Or.inl ne_o0_r1)).other W30 (Or.inr (slot_ne (Or.inl (hw _ (List.mem_of_getElem? (i := 11) rfl))) (Or.inl (hw _ (List.mem_of_getElem? (i := 24) rfl))) (by decide) (t := (.array .byte)) (t' := .int) (by decide) (by decide))))
  refine ⟨_, _, pre0 _ ?_, hrun, hended, _, _, rfl, ?_, ⟨_, rfl⟩, hW, hsame.mono (by decide) (by decide)⟩
  · show Steps p.tables e below (s₁.setTop (mkF m 0 #[.val (.ref o0), .val (.int p1)] [])) _
    refine XS.aloadN X0.here hx rfl (hb hby d3_0) rfl rfl ?_
    show Steps p.tables e below (s₁.setTop (mkF m 1 #[.val (.ref o0), .val (.int p1)] [(.ref o0)])) _
    refine XS.iconst X0.here hx rfl (hb hby d3_1) ?_
    show Steps p.tables e below (s₁.setTop (mkF m 2 #[.val (.ref o0), .val (.int p1)] [(.int (4 : Int32)), (.ref o0)])) _
    refine st1.trans ?_
    show Steps p.tables e below (T1.setTop (mkF m 5 #[.val (.ref o0), .val (.int p1)] [])) _
    refine XS.aloadN X1.here hx rfl (hb hby d3_5) rfl rfl ?_
    show Steps p.tables e below (T1.setTop (mkF m 6 #[.val (.ref o0), .val (.int p1)] [(.ref o0)])) _
    refine st2 _ ?_
    show Steps p.tables e below (T2.setTop (mkF m 9 #[.val (.ref o0), .val (.int p1)] [(.ref r1)])) _
    refine XS.aloadN X2.here hx rfl (hb hby d3_9) rfl rfl ?_
    show Steps p.tables e below (T2.setTop (mkF m 10 #[.val (.ref o0), .val (.int p1)] [(.ref o0), (.ref r1)])) _
    refine st3 _ ?_
    show Steps p.tables e below (T3.setTop (mkF m 13 #[.val (.ref o0), .val (.int p1)] [(.int w), (.ref r1)])) _
    refine XS.iloadN X3.here hx rfl (hb hby d3_13) rfl ?_
    show Steps p.tables e below (T3.setTop (mkF m 14 #[.val (.ref o0), .val (.int p1)] [(.int p1), (.int w), (.ref r1)])) _
    refine XS.i2b X3.here hx rfl (hb hby d3_14) rfl ?_
    show Steps p.tables e below (T3.setTop (mkF m 15 #[.val (.ref o0), .val (.int p1)] [(.int (p1.toInt8.toInt32)), (.int w), (.ref r1)])) _
    refine st5 _ ?_
    show Steps p.tables e below (T5.setTop (mkF m 16 #[.val (.ref o0), .val (.int p1)] [])) _
    refine XS.aloadN X5.here hx rfl (hb hby d3_16) rfl rfl ?_
    show Steps p.tables e below (T5.setTop (mkF m 17 #[.val (.ref o0), .val (.int p1)] [(.ref o0)])) _
    refine st8 _ ?_
    show Steps p.tables e below (T8.setTop (mkF m 20 #[.val (.ref o0), .val (.int p1)] [(.ref r1)])) _
    refine XS.aloadN X8.here hx rfl (hb hby d3_20) rfl rfl ?_
    show Steps p.tables e below (T8.setTop (mkF m 21 #[.val (.ref o0), .val (.int p1)] [(.ref o0), (.ref r1)])) _
    refine st9 _ ?_
    show Steps p.tables e below (T9.setTop (mkF m 24 #[.val (.ref o0), .val (.int p1)] [(.int w), (.ref r1)])) _
    refine XS.iconst X9.here hx rfl (hb hby d3_24) ?_
    show Steps p.tables e below (T9.setTop (mkF m 25 #[.val (.ref o0), .val (.int p1)] [(.int (1 : Int32)), (.int w), (.ref r1)])) _
    refine XS.iadd X9.here hx rfl (hb hby d3_25) rfl ?_
    show Steps p.tables e below (T9.setTop (mkF m 26 #[.val (.ref o0), .val (.int p1)] [(.int (w + (1 : Int32))), (.ref r1)])) _
    refine XS.iloadN X9.here hx rfl (hb hby d3_26) rfl ?_
    show Steps p.tables e below (T9.setTop (mkF m 27 #[.val (.ref o0), .val (.int p1)] [(.int p1), (.int (w + (1 : Int32))), (.ref r1)])) _
    refine XS.bipush X9.here hx rfl (hb hby d3_27) ?_
    show Steps p.tables e below (T9.setTop (mkF m 29 #[.val (.ref o0), .val (.int p1)] [(.int (8 : Int32)), (.int p1), (.int (w + (1 : Int32))), (.ref r1)])) _
    refine XS.iushr X9.here hx rfl (hb hby d3_29) rfl ?_
    show Steps p.tables e below (T9.setTop (mkF m 30 #[.val (.ref o0), .val (.int p1)] [(.int ((p1.toUInt32 >>> ((8 : Int32) &&& 31).toUInt32).toInt32)), (.int (w + (1 : Int32))), (.ref r1)])) _
    refine XS.i2b X9.here hx rfl (hb hby d3_30) rfl ?_
    show Steps p.tables e below (T9.setTop (mkF m 31 #[.val (.ref o0), .val (.int p1)] [(.int (((p1.toUInt32 >>> ((8 : Int32) &&& 31).toUInt32).toInt32).toInt8.toInt32)), (.int (w + (1 : Int32))), (.ref r1)])) _
    refine st11 _ ?_
    show Steps p.tables e below (T11.setTop (mkF m 32 #[.val (.ref o0), .val (.int p1)] [])) _
    refine XS.aloadN X11.here hx rfl (hb hby d3_32) rfl rfl ?_
    show Steps p.tables e below (T11.setTop (mkF m 33 #[.val (.ref o0), .val (.int p1)] [(.ref o0)])) _
    refine st15 _ ?_
    show Steps p.tables e below (T15.setTop (mkF m 36 #[.val (.ref o0), .val (.int p1)] [(.ref r1)])) _
    refine XS.aloadN X15.here hx rfl (hb hby d3_36) rfl rfl ?_
    show Steps p.tables e below (T15.setTop (mkF m 37 #[.val (.ref o0), .val (.int p1)] [(.ref o0), (.ref r1)])) _
    refine st17 _ ?_
    show Steps p.tables e below (T17.setTop (mkF m 40 #[.val (.ref o0), .val (.int p1)] [(.int w), (.ref r1)])) _
    refine XS.iconst X17.here hx rfl (hb hby d3_40) ?_
    show Steps p.tables e below (T17.setTop (mkF m 41 #[.val (.ref o0), .val (.int p1)] [(.int (2 : Int32)), (.int w), (.ref r1)])) _
    refine XS.iadd X17.here hx rfl (hb hby d3_41) rfl ?_
    show Steps p.tables e below (T17.setTop (mkF m 42 #[.val (.ref o0), .val (.int p1)] [(.int (w + (2 : Int32))), (.ref r1)])) _
    refine XS.iloadN X17.here hx rfl (hb hby d3_42) rfl ?_
    show Steps p.tables e below (T17.setTop (mkF m 43 #[.val (.ref o0), .val (.int p1)] [(.int p1), (.int (w + (2 : Int32))), (.ref r1)])) _
    refine XS.bipush X17.here hx rfl (hb hby d3_43) ?_
    show Steps p.tables e below (T17.setTop (mkF m 45 #[.val (.ref o0), .val (.int p1)] [(.int (16 : Int32)), (.int p1), (.int (w + (2 : Int32))), (.ref r1)])) _
    refine XS.iushr X17.here hx rfl (hb hby d3_45) rfl ?_
    show Steps p.tables e below (T17.setTop (mkF m 46 #[.val (.ref o0), .val (.int p1)] [(.int ((p1.toUInt32 >>> ((16 : Int32) &&& 31).toUInt32).toInt32)), (.int (w + (2 : Int32))), (.ref r1)])) _
    refine XS.i2b X17.here hx rfl (hb hby d3_46) rfl ?_
    show Steps p.tables e below (T17.setTop (mkF m 47 #[.val (.ref o0), .val (.int p1)] [(.int (((p1.toUInt32 >>> ((16 : Int32) &&& 31).toUInt32).toInt32).toInt8.toInt32)), (.int (w + (2 : Int32))), (.ref r1)])) _
    refine st19 _ ?_
    show Steps p.tables e below (T19.setTop (mkF m 48 #[.val (.ref o0), .val (.int p1)] [])) _
    refine XS.aloadN X19.here hx rfl (hb hby d3_48) rfl rfl ?_
    show Steps p.tables e below (T19.setTop (mkF m 49 #[.val (.ref o0), .val (.int p1)] [(.ref o0)])) _
    refine st22 _ ?_
    show Steps p.tables e below (T22.setTop (mkF m 52 #[.val (.ref o0), .val (.int p1)] [(.ref r1)])) _
    refine XS.aloadN X22.here hx rfl (hb hby d3_52) rfl rfl ?_
    show Steps p.tables e below (T22.setTop (mkF m 53 #[.val (.ref o0), .val (.int p1)] [(.ref o0), (.ref r1)])) _
    refine st23 _ ?_
    show Steps p.tables e below (T23.setTop (mkF m 56 #[.val (.ref o0), .val (.int p1)] [(.int w), (.ref r1)])) _
    refine XS.iconst X23.here hx rfl (hb hby d3_56) ?_
    show Steps p.tables e below (T23.setTop (mkF m 57 #[.val (.ref o0), .val (.int p1)] [(.int (3 : Int32)), (.int w), (.ref r1)])) _
    refine XS.iadd X23.here hx rfl (hb hby d3_57) rfl ?_
    show Steps p.tables e below (T23.setTop (mkF m 58 #[.val (.ref o0), .val (.int p1)] [(.int (w + (3 : Int32))), (.ref r1)])) _
    refine XS.iloadN X23.here hx rfl (hb hby d3_58) rfl ?_
    show Steps p.tables e below (T23.setTop (mkF m 59 #[.val (.ref o0), .val (.int p1)] [(.int p1), (.int (w + (3 : Int32))), (.ref r1)])) _
    refine XS.bipush X23.here hx rfl (hb hby d3_59) ?_
    show Steps p.tables e below (T23.setTop (mkF m 61 #[.val (.ref o0), .val (.int p1)] [(.int (24 : Int32)), (.int p1), (.int (w + (3 : Int32))), (.ref r1)])) _
    refine XS.iushr X23.here hx rfl (hb hby d3_61) rfl ?_
    show Steps p.tables e below (T23.setTop (mkF m 62 #[.val (.ref o0), .val (.int p1)] [(.int ((p1.toUInt32 >>> ((24 : Int32) &&& 31).toUInt32).toInt32)), (.int (w + (3 : Int32))), (.ref r1)])) _
    refine XS.i2b X23.here hx rfl (hb hby d3_62) rfl ?_
    show Steps p.tables e below (T23.setTop (mkF m 63 #[.val (.ref o0), .val (.int p1)] [(.int (((p1.toUInt32 >>> ((24 : Int32) &&& 31).toUInt32).toInt32).toInt8.toInt32)), (.int (w + (3 : Int32))), (.ref r1)])) _
    refine st25 _ ?_
    show Steps p.tables e below (T25.setTop (mkF m 64 #[.val (.ref o0), .val (.int p1)] [])) _
    refine XS.aloadN X25.here hx rfl (hb hby d3_64) rfl rfl ?_
    show Steps p.tables e below (T25.setTop (mkF m 65 #[.val (.ref o0), .val (.int p1)] [(.ref o0)])) _
    refine XS.dup X25.here hx rfl (hb hby d3_65) rfl rfl ?_
    show Steps p.tables e below (T25.setTop (mkF m 66 #[.val (.ref o0), .val (.int p1)] [(.ref o0), (.ref o0)])) _
    refine st29 _ ?_
    show Steps p.tables e below (T29.setTop (mkF m 69 #[.val (.ref o0), .val (.int p1)] [(.int w), (.ref o0)])) _
    refine XS.iconst X29.here hx rfl (hb hby d3_69) ?_
    show Steps p.tables e below (T29.setTop (mkF m 70 #[.val (.ref o0), .val (.int p1)] [(.int (4 : Int32)), (.int w), (.ref o0)])) _
    refine XS.iadd X29.here hx rfl (hb hby d3_70) rfl ?_
    show Steps p.tables e below (T29.setTop (mkF m 71 #[.val (.ref o0), .val (.int p1)] [(.int (w + (4 : Int32))), (.ref o0)])) _
    refine st30 _ ?_
    show Steps p.tables e below (T30.setTop (mkF m 74 #[.val (.ref o0), .val (.int p1)] [])) _
    exact X30.returnOut hx Bd.returns (hb hby d3_74) hr
  · show Q3 Z o0 p1 w r1 F1 h0 n0 _ T30.heap _
    rw [e30]
    exact ⟨rfl, N30, K31, (by rw [f3_r1_a]; exact (V25.other W30 (Ne.symm ne_o0_r1))), Fw30, c33⟩
theorem d11_0 : decode prog_2_method_5_code 0 = .ok (.aload_n 0, 1) := by decide +kernel
theorem d11_1 : decode prog_2_method_5_code 1 = .ok (.iconst 2, 1) := by decide +kernel
theorem d11_2 : decode prog_2_method_5_code 2 = .ok (.invokevirtual 36, 3) := by decide +kernel
theorem d11_5 : decode prog_2_method_5_code 5 = .ok (.aload_n 0, 1) := by decide +kernel
theorem d11_6 : decode prog_2_method_5_code 6 = .ok (.getfield 9, 3) := by decide +kernel
theorem d11_9 : decode prog_2_method_5_code 9 = .ok (.aload_n 0, 1) := by decide +kernel
theorem d11_10 : decode prog_2_method_5_code 10 = .ok (.getfield 39, 3) := by decide +kernel
theorem d11_13 : decode prog_2_method_5_code 13 = .ok (.iload_n 1, 1) := by decide +kernel
theorem d11_14 : decode prog_2_method_5_code 14 = .ok (.i2b, 1) := by decide +kernel
theorem d11_15 : decode prog_2_method_5_code 15 = .ok (.bastore, 1) := by decide +kernel
theorem d11_16 : decode prog_2_method_5_code 16 = .ok (.aload_n 0, 1) := by decide +kernel
theorem d11_17 : decode prog_2_method_5_code 17 = .ok (.getfield 9, 3) := by decide +kernel
theorem d11_20 : decode prog_2_method_5_code 20 = .ok (.aload_n 0, 1) := by decide +kernel
theorem d11_21 : decode prog_2_method_5_code 21 = .ok (.getfield 39, 3) := by decide +kernel
theorem d11_24 : decode prog_2_method_5_code 24 = .ok (.iconst 1, 1) := by decide +kernel
theorem d11_25 : decode prog_2_method_5_code 25 = .ok (.iadd, 1) := by decide +kernel
theorem d11_26 : decode prog_2_method_5_code 26 = .ok (.iload_n 1, 1) := by decide +kernel
theorem d11_27 : decode prog_2_method_5_code 27 = .ok (.bipush 8, 2) := by decide +kernel
theorem d11_29 : decode prog_2_method_5_code 29 = .ok (.iushr, 1) := by decide +kernel
theorem d11_30 : decode prog_2_method_5_code 30 = .ok (.i2b, 1) := by decide +kernel
theorem d11_31 : decode prog_2_method_5_code 31 = .ok (.bastore, 1) := by decide +kernel
theorem d11_32 : decode prog_2_method_5_code 32 = .ok (.aload_n 0, 1) := by decide +kernel
theorem d11_33 : decode prog_2_method_5_code 33 = .ok (.dup, 1) := by decide +kernel
theorem d11_34 : decode prog_2_method_5_code 34 = .ok (.getfield 39, 3) := by decide +kernel
theorem d11_37 : decode prog_2_method_5_code 37 = .ok (.iconst 2, 1) := by decide +kernel
theorem d11_38 : decode prog_2_method_5_code 38 = .ok (.iadd, 1) := by decide +kernel
theorem d11_39 : decode prog_2_method_5_code 39 = .ok (.putfield 39, 3) := by decide +kernel
theorem d11_42 : decode prog_2_method_5_code 42 = .ok (.return_, 1) := by decide +kernel
theorem pn_11 : plainName "com/example/corvid/corvid/ByteWriter" = true := by first | (simp [plainName, overriddenIn]; done) | decide +kernel
theorem pd_11_0 : parseMethodDescriptor "(I)V" = some ⟨[.int], none⟩ := by decide +kernel
theorem ef_11 (m : MethodId) (x0 : Addr) (x1 : Int32) : entryFrame m #[(.ref x0), (.int x1)] 2 = mkF m 0 #[.val (.ref x0), .val (.int x1)] [] := by first | (simp [entryFrame, mkF, argsToLocals, Value.category]; done) | rfl
def f11_r1_a (p1 : Int32) (w : Int32) (F1 : Nat → Int32) : Nat → Int32 :=
  (own_upd (own_upd F1 (w).toNatClampNeg (nar .byte (p1.toInt8.toInt32))) ((w + (1 : Int32))).toNatClampNeg (nar .byte (((p1.toUInt32 >>> ((8 : Int32) &&& 31).toUInt32).toInt32).toInt8.toInt32)))
def Q11 (Z : State) (o0 : Addr) (p1 : Int32) (w : Int32) (r1 : Addr) (F1 : Nat → Int32) (h0 : Heap) (n0 : Nat) (v : Option Value) (h : Heap) (L : List Loc) : Prop := v = none ∧ Fr n0 L ∧ Keep h0 h [r1, o0] ∧ own_AI Z h r1 .byte (64 : Int32) (f11_r1_a p1 w F1) ∧ Fld Z h o0 "com/example/corvid/corvid/ByteWriter" "length" "I" (.int (w + (2 : Int32))) ∧ Fld Z h o0 "com/example/corvid/corvid/ByteWriter" "bytes" "[B" (.ref r1)
set_option maxRecDepth 65536 in
set_option maxHeartbeats 40000000 in
theorem rm11 (l : Launch) (Z : State) (a0 : Array Value) (hw : ∀ d ∈ tables_1, d.before a0 Z = true) (ws : List Jvm.Cond) (o0 : Addr) (p1 : Int32) (w : Int32) (r1 : Addr) (F1 : Nat → Int32) (h0 : Heap) (n0 : Nat) (Z0 : n0 ≤ h0.size) (E_o0 : Exa Z h0 o0 "com/example/corvid/corvid/ByteWriter") (F_length_o0 : Fld Z h0 o0 "com/example/corvid/corvid/ByteWriter" "length" "I" (.int w)) (F_bytes_o0 : Fld Z h0 o0 "com/example/corvid/corvid/ByteWriter" "bytes" "[B" (.ref r1)) (V_r1 : own_AI Z h0 r1 .byte (64 : Int32) F1) (ne_o0_r1 : o0 ≠ r1) (hl : ¬ w < 0 ∧ w < (16 : Int32)) (g_o0 : n0 ≤ o0) (g_r1 : n0 ≤ r1) :
    MetFree l (⟨"com/example/corvid/corvid/ByteWriter", "writeShort", "(S)V"⟩ : MethodName) (head1 (Jvm.Cond.code (⟨"com/example/corvid/corvid/ByteWriter", "writeShort", "(S)V"⟩ : MethodName) prog_2_method_5_code 2 none :: ws) ({ frames := 2, cells := 0, slots := 0, locals := 28 } : Room)) (fun a U => a = #[(.ref o0), (.int p1)] ∧ Z.Warmed39 U.vm ∧ U.heap = h0) (fun _ _ _ _ _ => True) (fun _ U o U' => ∃ v L, o = .returned v ∧ Q11 Z o0 p1 w r1 F1 h0 n0 v U'.heap L ∧ FrameEnd U o U' L ({ frames := 2, cells := 0, slots := 0, locals := 28 } : Room).cells ({ frames := 2, cells := 0, slots := 0, locals := 28 } : Room).slots) := by
  refine MetFree.of_bodySF (plainFor_of_name pn_11) hisR ?_
  intro p e s m args below meth c s₁ Bd hml0 hP hK
  obtain ⟨rfl, hZ, hh⟩ := hP
  have hx := Bd.exec
  have hby := Bd.bytes
  have hml : c.maxLocals = 2 := hml0
  have hown : s.vm.findClass "com/example/corvid/corvid/ByteWriter" = some m.cls := findClass_of_methodNamed Bd.named
  have hnm := (name_of_methodNamed Bd.named Bd.method).1
  have X0 : Stand p l e ({ frames := 2, cells := 0, slots := 0, locals := 28 } : Room) s m #[(.ref o0), (.int p1)] below meth c s₁ [] 0 0 := Stand.of_body Bd
  have e0 : s₁.heap = h0 := by rw [← hh, Bd.state]; rfl
  have N0 := Fr.nil n0
  have pre0 : ∀ t, Steps p.tables e below (s₁.setTop (mkF m 0 #[.val (.ref o0), .val (.int p1)] [])) t → Steps p.tables e below (s₁.setTop (entryFrame m #[(.ref o0), (.int p1)] 2)) t := fun t k => castTop (ef_11 m o0 p1) k
  obtain ⟨cq1, q1, q1'⟩ := E_o0.cell
  obtain ⟨_, _, ⟨T1, L1, k1, n1⟩, -, X1, ⟨Lc1, hQ1, l1, y1, z1⟩, st1⟩ := X0.privateBack hx (y := (⟨"com/example/corvid/corvid/ByteWriter", "reserve", "(I)V"⟩ : MethodName)) hown (mvT hZ (hw _ (List.mem_of_getElem? (i := 19) rfl))) (mvT hZ (hw _ (List.mem_of_getElem? (i := 20) rfl))) (own_selp (z := (⟨"com/example/corvid/corvid/ByteWriter", "writeInt", "(I)V"⟩ : MethodName)) rfl (mvT hZ (hw _ (List.mem_of_getElem? (i := 17) rfl))) (Cond.privateMethod_at (mvP hZ (hw _ (List.mem_of_getElem? (i := 21) rfl)) (args := #[]))) (mvT hZ (hw _ (List.mem_of_getElem? (i := 20) rfl))) (by decide)) (Cond.privateMethod_at (mvP hZ (hw _ (List.mem_of_getElem? (i := 21) rfl)) (args := #[]))) (mvT hZ (hw _ (List.mem_of_getElem? (i := 22) rfl))) (by decide) (backOf (W := 0) (rm4 l Z a0 hw [] o0 (2 : Int32) w r1 F1 h0 n0 Z0 E_o0 F_length_o0 F_bytes_o0 V_r1 ne_o0_r1 (hl) (by decide)) hZ (hw _ (List.mem_of_getElem? (i := 22) rfl)) (hw _ (List.mem_of_getElem? (i := 3) rfl)) (by decide) (by decide)) (g := (mkF m 2 #[.val (.ref o0), .val (.int p1)] [(.int (2 : Int32)), (.ref o0)])) rfl (by rw [hml]; rfl) (Steps.refl _) (a := o0) (by rw [e0]; exact q1) q1' (argsL := [(.int (2 : Int32))]) (rest := []) (lenOf pd_11_0 rfl) rfl (by show 2 * 0 + _ ≤ _; exact Nat.le_of_eq rfl) (hb hby d11_2) (fun _ _ => ⟨rfl, e0, (by decide : 0 + 0 ≤ _), (by decide : 0 + 0 ≤ _)⟩)
  dsimp only [Pt.U, Pt.locs, Pt.cells, Pt.slots] at X1 l1 y1 z1 st1 hQ1
  subst l1 y1 z1
  obtain ⟨rfl, N1q, e1q⟩ := hQ1
  have N1 := Fr.app N0 N1q
  obtain ⟨T2, X2, e2, st2⟩ := getF X1 hx hZ hown (host := "") (Or.inl (hw _ (List.mem_of_getElem? (i := 10) rfl))) Via.refl e1q F_bytes_o0 (g := (mkF m 6 #[.val (.ref o0), .val (.int p1)] [(.ref o0)])) rfl rfl (hb hby d11_6)
  obtain ⟨T3, X3, e3, st3⟩ := getF X2 hx hZ hown (host := "") (Or.inl (hw _ (List.mem_of_getElem? (i := 23) rfl))) Via.refl e2 F_length_o0 (g := (mkF m 10 #[.val (.ref o0), .val (.int p1)] [(.ref o0), (.ref r1)])) rfl rfl (hb hby d11_10)
  obtain ⟨cl4, Ar4, Sz4, Nn4, Hs4⟩ := id V_r1
  have hin4 : ¬ (w < 0 ∨ cl4.slots.size ≤ (w).toNatClampNeg) := inb_of Sz4 (own_i0 hl)
  obtain ⟨T5, h5, X5, e5, W5, st5⟩ := stB X3 hx hZ e3 Ar4 (j := w) hin4 (g := (mkF m 15 #[.val (.ref o0), .val (.int p1)] [(.int (p1.toInt8.toInt32)), (.int w), (.ref r1)])) rfl rfl (hb hby d11_15)
  have V5 : own_AI Z h5 r1 .byte (64 : Int32) (own_upd F1 (w).toNatClampNeg (nar .byte (p1.toInt8.toInt32))) := own_AI.set V_r1 (fits_nar_byte (p1.toInt8.toInt32)) W5
  have K6 : Keep h0 h5 [r1, o0] := (Keep.refl h0 [r1, o0]).wr W5 (Or.inl (List.mem_of_getElem? (i := 0) rfl))
  have Z7 : n0 ≤ h5.size := Nat.le_trans Z0 K6.1
  have N5 := Fr.snoc X5 N1 g_r1
  obtain ⟨LS5, X5, N5⟩ : ∃ L, Stand p l e ({ frames := 2, cells := 0, slots := 0, locals := 28 } : Room) s m #[(.ref o0), (.int p1)] below meth c T5 L 0 0 ∧ Fr n0 L := ⟨_, X5, N5⟩
  obtain ⟨T8, X8, e8, st8⟩ := getF X5 hx hZ hown (host := "") (Or.inl (hw _ (List.mem_of_getElem? (i := 10) rfl))) Via.refl e5 (F_bytes_o0.other W5 (Or.inl ne_o0_r1)) (g := (mkF m 17 #[.val (.ref o0), .val (.int p1)] [(.ref o0)])) rfl rfl (hb hby d11_17)
  obtain ⟨T9, X9, e9, st9⟩ := getF X8 hx hZ hown (host := "") (Or.inl (hw _ (List.mem_of_getElem? (i := 23) rfl))) Via.refl e8 (F_length_o0.other W5 (Or.inl ne_o0_r1)) (g := (mkF m 21 #[.val (.ref o0), .val (.int p1)] [(.ref o0), (.ref r1)])) rfl rfl (hb hby d11_21)
  obtain ⟨cl10, Ar10, Sz10, Nn10, Hs10⟩ := id V5
  have hin10 : ¬ ((w + (1 : Int32)) < 0 ∨ cl10.slots.size ≤ ((w + (1 : Int32))).toNatClampNeg) := inb_of Sz10 (own_i1 hl)
  obtain ⟨T11, h11, X11, e11, W11, st11⟩ := stB X9 hx hZ e9 Ar10 (j := (w + (1 : Int32))) hin10 (g := (mkF m 31 #[.val (.ref o0), .val (.int p1)] [(.int (((p1.toUInt32 >>> ((8 : Int32) &&& 31).toUInt32).toInt32).toInt8.toInt32)), (.int (w + (1 : Int32))), (.ref r1)])) rfl rfl (hb hby d11_31)
  have V11 : own_AI Z h11 r1 .byte (64 : Int32) (own_upd (own_upd F1 (w).toNatClampNeg (nar .byte (p1.toInt8.toInt32))) ((w + (1 : Int32))).toNatClampNeg (nar .byte (((p1.toUInt32 >>> ((8 : Int32) &&& 31).toUInt32).toInt32).toInt8.toInt32))) := own_AI.set V5 (fits_nar_byte (((p1.toUInt32 >>> ((8 : Int32) &&& 31).toUInt32).toInt32).toInt8.toInt32)) W11
  have K12 : Keep h0 h11 [r1, o0] := K6.wr W11 (Or.inl (List.mem_of_getElem? (i := 0) rfl))
  have Z13 : n0 ≤ h11.size := Nat.le_trans Z0 K12.1
  have N11 := Fr.snoc X11 N5 g_r1
  obtain ⟨LS11, X11, N11⟩ : ∃ L, Stand p l e ({ frames := 2, cells := 0, slots := 0, locals := 28 } : Room) s m #[(.ref o0), (.int p1)] below meth c T11 L 0 0 ∧ Fr n0 L := ⟨_, X11, N11⟩
  have c14 := ((F_length_o0.other W5 (Or.inl ne_o0_r1)).other W11 (Or.inl ne_o0_r1))
  obtain ⟨T15, X15, e15, st15⟩ := getF X11 hx hZ hown (host := "") (Or.inl (hw _ (List.mem_of_getElem? (i := 23) rfl))) Via.refl e11 c14 (g := (mkF m 34 #[.val (.ref o0), .val (.int p1)] [(.ref o0), (.ref o0)])) rfl rfl (hb hby d11_34)
  obtain ⟨T16, h16, X16, e16, W16, st16⟩ := putF X15 hx hZ hown (host := "") (Or.inl (hw _ (List.mem_of_getElem? (i := 23) rfl))) Via.refl e15 c14 ((E_o0.wr W5).wr W11) (Or.inl (hw _ (List.mem_of_getElem? (i := 24) rfl))) (hw _ (List.mem_of_getElem? (i := 2) rfl)) (ty := .int) (by decide) rfl rfl (g := (mkF m 39 #[.val (.ref o0), .val (.int p1)] [(.int (w + (2 : Int32))), (.ref o0)])) rfl rfl (hb hby d11_39)
  have Fw16 := c14.same W16
  have K17 : Keep h0 h16 [r1, o0] := K12.wr W16 (Or.inl (List.mem_of_getElem? (i := 1) rfl))
  have Z18 : n0 ≤ h16.size := Nat.le_trans Z0 K17.1
  have N16 := Fr.snoc X16 N11 g_o0
  obtain ⟨LS16, X16, N16⟩ : ∃ L, Stand p l e ({ frames := 2, cells := 0, slots := 0, locals := 28 } : Room) s m #[(.ref o0), (.int p1)] below meth c T16 L 0 0 ∧ Fr n0 L := ⟨_, X16, N16⟩
  obtain ⟨fs, hr, hrun, hended, hW, hsame⟩ := X16.leave (v := none) (fun _ => rfl)
  have c19 := (((F_bytes_o0.other W5 (Or.inl ne_o0_r1)).other W11 (Or.inl ne_o0_r1)).other W16 (Or.inr (slot_ne (Or.inl (hw _ (List.mem_of_getElem? (i := 11) rfl))) (Or.inl (hw _ (List.mem_of_getElem? (i := 24) rfl))) (by decide) (t := (.array .byte)) (t' := .int) (by decide) (by decide))))
  refine ⟨_, _, pre0 _ ?_, hrun, hended, _, _, rfl, ?_, ⟨_, rfl⟩, hW, hsame.mono (by decide) (by decide)⟩
  · show Steps p.tables e below (s₁.setTop (mkF m 0 #[.val (.ref o0), .val (.int p1)] [])) _
    refine XS.aloadN X0.here hx rfl (hb hby d11_0) rfl rfl ?_
    show Steps p.tables e below (s₁.setTop (mkF m 1 #[.val (.ref o0), .val (.int p1)] [(.ref o0)])) _
    refine XS.iconst X0.here hx rfl (hb hby d11_1) ?_
    show Steps p.tables e below (s₁.setTop (mkF m 2 #[.val (.ref o0), .val (.int p1)] [(.int (2 : Int32)), (.ref o0)])) _
    refine st1.trans ?_
    show Steps p.tables e below (T1.setTop (mkF m 5 #[.val (.ref o0), .val (.int p1)] [])) _
    refine XS.aloadN X1.here hx rfl (hb hby d11_5) rfl rfl ?_
    show Steps p.tables e below (T1.setTop (mkF m 6 #[.val (.ref o0), .val (.int p1)] [(.ref o0)])) _
    refine st2 _ ?_
    show Steps p.tables e below (T2.setTop (mkF m 9 #[.val (.ref o0), .val (.int p1)] [(.ref r1)])) _
    refine XS.aloadN X2.here hx rfl (hb hby d11_9) rfl rfl ?_
    show Steps p.tables e below (T2.setTop (mkF m 10 #[.val (.ref o0), .val (.int p1)] [(.ref o0), (.ref r1)])) _
    refine st3 _ ?_
    show Steps p.tables e below (T3.setTop (mkF m 13 #[.val (.ref o0), .val (.int p1)] [(.int w), (.ref r1)])) _
    refine XS.iloadN X3.here hx rfl (hb hby d11_13) rfl ?_
    show Steps p.tables e below (T3.setTop (mkF m 14 #[.val (.ref o0), .val (.int p1)] [(.int p1), (.int w), (.ref r1)])) _
    refine XS.i2b X3.here hx rfl (hb hby d11_14) rfl ?_
    show Steps p.tables e below (T3.setTop (mkF m 15 #[.val (.ref o0), .val (.int p1)] [(.int (p1.toInt8.toInt32)), (.int w), (.ref r1)])) _
    refine st5 _ ?_
    show Steps p.tables e below (T5.setTop (mkF m 16 #[.val (.ref o0), .val (.int p1)] [])) _
    refine XS.aloadN X5.here hx rfl (hb hby d11_16) rfl rfl ?_
    show Steps p.tables e below (T5.setTop (mkF m 17 #[.val (.ref o0), .val (.int p1)] [(.ref o0)])) _
    refine st8 _ ?_
    show Steps p.tables e below (T8.setTop (mkF m 20 #[.val (.ref o0), .val (.int p1)] [(.ref r1)])) _
    refine XS.aloadN X8.here hx rfl (hb hby d11_20) rfl rfl ?_
    show Steps p.tables e below (T8.setTop (mkF m 21 #[.val (.ref o0), .val (.int p1)] [(.ref o0), (.ref r1)])) _
    refine st9 _ ?_
    show Steps p.tables e below (T9.setTop (mkF m 24 #[.val (.ref o0), .val (.int p1)] [(.int w), (.ref r1)])) _
    refine XS.iconst X9.here hx rfl (hb hby d11_24) ?_
    show Steps p.tables e below (T9.setTop (mkF m 25 #[.val (.ref o0), .val (.int p1)] [(.int (1 : Int32)), (.int w), (.ref r1)])) _
    refine XS.iadd X9.here hx rfl (hb hby d11_25) rfl ?_
    show Steps p.tables e below (T9.setTop (mkF m 26 #[.val (.ref o0), .val (.int p1)] [(.int (w + (1 : Int32))), (.ref r1)])) _
    refine XS.iloadN X9.here hx rfl (hb hby d11_26) rfl ?_
    show Steps p.tables e below (T9.setTop (mkF m 27 #[.val (.ref o0), .val (.int p1)] [(.int p1), (.int (w + (1 : Int32))), (.ref r1)])) _
    refine XS.bipush X9.here hx rfl (hb hby d11_27) ?_
    show Steps p.tables e below (T9.setTop (mkF m 29 #[.val (.ref o0), .val (.int p1)] [(.int (8 : Int32)), (.int p1), (.int (w + (1 : Int32))), (.ref r1)])) _
    refine XS.iushr X9.here hx rfl (hb hby d11_29) rfl ?_
    show Steps p.tables e below (T9.setTop (mkF m 30 #[.val (.ref o0), .val (.int p1)] [(.int ((p1.toUInt32 >>> ((8 : Int32) &&& 31).toUInt32).toInt32)), (.int (w + (1 : Int32))), (.ref r1)])) _
    refine XS.i2b X9.here hx rfl (hb hby d11_30) rfl ?_
    show Steps p.tables e below (T9.setTop (mkF m 31 #[.val (.ref o0), .val (.int p1)] [(.int (((p1.toUInt32 >>> ((8 : Int32) &&& 31).toUInt32).toInt32).toInt8.toInt32)), (.int (w + (1 : Int32))), (.ref r1)])) _
    refine st11 _ ?_
    show Steps p.tables e below (T11.setTop (mkF m 32 #[.val (.ref o0), .val (.int p1)] [])) _
    refine XS.aloadN X11.here hx rfl (hb hby d11_32) rfl rfl ?_
    show Steps p.tables e below (T11.setTop (mkF m 33 #[.val (.ref o0), .val (.int p1)] [(.ref o0)])) _
    refine XS.dup X11.here hx rfl (hb hby d11_33) rfl rfl ?_
    show Steps p.tables e below (T11.setTop (mkF m 34 #[.val (.ref o0), .val (.int p1)] [(.ref o0), (.ref o0)])) _
    refine st15 _ ?_
    show Steps p.tables e below (T15.setTop (mkF m 37 #[.val (.ref o0), .val (.int p1)] [(.int w), (.ref o0)])) _
    refine XS.iconst X15.here hx rfl (hb hby d11_37) ?_
    show Steps p.tables e below (T15.setTop (mkF m 38 #[.val (.ref o0), .val (.int p1)] [(.int (2 : Int32)), (.int w), (.ref o0)])) _
    refine XS.iadd X15.here hx rfl (hb hby d11_38) rfl ?_
    show Steps p.tables e below (T15.setTop (mkF m 39 #[.val (.ref o0), .val (.int p1)] [(.int (w + (2 : Int32))), (.ref o0)])) _
    refine st16 _ ?_
    show Steps p.tables e below (T16.setTop (mkF m 42 #[.val (.ref o0), .val (.int p1)] [])) _
    exact X16.returnOut hx Bd.returns (hb hby d11_42) hr
  · show Q11 Z o0 p1 w r1 F1 h0 n0 _ T16.heap _
    rw [e16]
    exact ⟨rfl, N16, K17, (by rw [f11_r1_a]; exact (V11.other W16 (Ne.symm ne_o0_r1))), Fw16, c19⟩
theorem d12_0 : decode prog_2_method_3_code 0 = .ok (.iload_n 1, 1) := by decide +kernel
theorem d12_1 : decode prog_2_method_3_code 1 = .ok (.ifCond .lt 10, 3) := by decide +kernel
theorem d12_4 : decode prog_2_method_3_code 4 = .ok (.iload_n 1, 1) := by decide +kernel
theorem d12_5 : decode prog_2_method_3_code 5 = .ok (.sipush 255, 3) := by decide +kernel
theorem d12_8 : decode prog_2_method_3_code 8 = .ok (.if_icmp .le 17, 3) := by decide +kernel
theorem d12_25 : decode prog_2_method_3_code 25 = .ok (.aload_n 0, 1) := by decide +kernel
theorem d12_26 : decode prog_2_method_3_code 26 = .ok (.iconst 1, 1) := by decide +kernel
theorem d12_27 : decode prog_2_method_3_code 27 = .ok (.invokevirtual 36, 3) := by decide +kernel
theorem d12_30 : decode prog_2_method_3_code 30 = .ok (.aload_n 0, 1) := by decide +kernel
theorem d12_31 : decode prog_2_method_3_code 31 = .ok (.getfield 9, 3) := by decide +kernel
theorem d12_34 : decode prog_2_method_3_code 34 = .ok (.aload_n 0, 1) := by decide +kernel
theorem d12_35 : decode prog_2_method_3_code 35 = .ok (.dup, 1) := by decide +kernel
theorem d12_36 : decode prog_2_method_3_code 36 = .ok (.getfield 39, 3) := by decide +kernel
theorem d12_39 : decode prog_2_method_3_code 39 = .ok (.dup_x1, 1) := by decide +kernel
theorem d12_40 : decode prog_2_method_3_code 40 = .ok (.iconst 1, 1) := by decide +kernel
theorem d12_41 : decode prog_2_method_3_code 41 = .ok (.iadd, 1) := by decide +kernel
theorem d12_42 : decode prog_2_method_3_code 42 = .ok (.putfield 39, 3) := by decide +kernel
theorem d12_45 : decode prog_2_method_3_code 45 = .ok (.iload_n 1, 1) := by decide +kernel
theorem d12_46 : decode prog_2_method_3_code 46 = .ok (.i2b, 1) := by decide +kernel
theorem d12_47 : decode prog_2_method_3_code 47 = .ok (.bastore, 1) := by decide +kernel
theorem d12_48 : decode prog_2_method_3_code 48 = .ok (.return_, 1) := by decide +kernel
theorem pn_12 : plainName "com/example/corvid/corvid/ByteWriter" = true := by first | (simp [plainName, overriddenIn]; done) | decide +kernel
theorem pd_12_0 : parseMethodDescriptor "(I)V" = some ⟨[.int], none⟩ := by decide +kernel
theorem ef_12 (m : MethodId) (x0 : Addr) (x1 : Int32) : entryFrame m #[(.ref x0), (.int x1)] 2 = mkF m 0 #[.val (.ref x0), .val (.int x1)] [] := by first | (simp [entryFrame, mkF, argsToLocals, Value.category]; done) | rfl
def f12_r1_a (p1 : Int32) (w : Int32) (F1 : Nat → Int32) : Nat → Int32 :=
  (own_upd F1 (w).toNatClampNeg (nar .byte (p1.toInt8.toInt32)))
def Q12 (Z : State) (o0 : Addr) (p1 : Int32) (w : Int32) (r1 : Addr) (F1 : Nat → Int32) (h0 : Heap) (n0 : Nat) (v : Option Value) (h : Heap) (L : List Loc) : Prop := v = none ∧ Fr n0 L ∧ Keep h0 h [o0, r1] ∧ Fld Z h o0 "com/example/corvid/corvid/ByteWriter" "length" "I" (.int (w + (1 : Int32))) ∧ own_AI Z h r1 .byte (64 : Int32) (f12_r1_a p1 w F1) ∧ Fld Z h o0 "com/example/corvid/corvid/ByteWriter" "bytes" "[B" (.ref r1)
set_option maxRecDepth 65536 in
set_option maxHeartbeats 40000000 in
theorem rm12 (l : Launch) (Z : State) (a0 : Array Value) (hw : ∀ d ∈ tables_1, d.before a0 Z = true) (ws : List Jvm.Cond) (o0 : Addr) (p1 : Int32) (w : Int32) (r1 : Addr) (F1 : Nat → Int32) (h0 : Heap) (n0 : Nat) (Z0 : n0 ≤ h0.size) (E_o0 : Exa Z h0 o0 "com/example/corvid/corvid/ByteWriter") (F_length_o0 : Fld Z h0 o0 "com/example/corvid/corvid/ByteWriter" "length" "I" (.int w)) (F_bytes_o0 : Fld Z h0 o0 "com/example/corvid/corvid/ByteWriter" "bytes" "[B" (.ref r1)) (V_r1 : own_AI Z h0 r1 .byte (64 : Int32) F1) (ne_o0_r1 : o0 ≠ r1) (hl : ¬ w < 0 ∧ w < (16 : Int32)) (g_o0 : n0 ≤ o0) (g_r1 : n0 ≤ r1) (hv : ¬ p1 < (0 : Int32) ∧ ¬ (255 : Int32) < p1) :
    MetFree l (⟨"com/example/corvid/corvid/ByteWriter", "writeByte", "(I)V"⟩ : MethodName) (head1 (Jvm.Cond.code (⟨"com/example/corvid/corvid/ByteWriter", "writeByte", "(I)V"⟩ : MethodName) prog_2_method_3_code 2 none :: ws) ({ frames := 2, cells := 0, slots := 0, locals := 28 } : Room)) (fun a U => a = #[(.ref o0), (.int p1)] ∧ Z.Warmed39 U.vm ∧ U.heap = h0) (fun _ _ _ _ _ => True) (fun _ U o U' => ∃ v L, o = .returned v ∧ Q12 Z o0 p1 w r1 F1 h0 n0 v U'.heap L ∧ FrameEnd U o U' L ({ frames := 2, cells := 0, slots := 0, locals := 28 } : Room).cells ({ frames := 2, cells := 0, slots := 0, locals := 28 } : Room).slots) := by
  refine MetFree.of_bodySF (plainFor_of_name pn_12) hisR ?_
  intro p e s m args below meth c s₁ Bd hml0 hP hK
  obtain ⟨rfl, hZ, hh⟩ := hP
  have hx := Bd.exec
  have hby := Bd.bytes
  have hml : c.maxLocals = 2 := hml0
  have hown : s.vm.findClass "com/example/corvid/corvid/ByteWriter" = some m.cls := findClass_of_methodNamed Bd.named
  have hnm := (name_of_methodNamed Bd.named Bd.method).1
  have X0 : Stand p l e ({ frames := 2, cells := 0, slots := 0, locals := 28 } : Room) s m #[(.ref o0), (.int p1)] below meth c s₁ [] 0 0 := Stand.of_body Bd
  have e0 : s₁.heap = h0 := by rw [← hh, Bd.state]; rfl
  have N0 := Fr.nil n0
  have pre0 : ∀ t, Steps p.tables e below (s₁.setTop (mkF m 0 #[.val (.ref o0), .val (.int p1)] [])) t → Steps p.tables e below (s₁.setTop (entryFrame m #[(.ref o0), (.int p1)] 2)) t := fun t k => castTop (ef_12 m o0 p1) k
  have pre1 : ∀ t, Steps p.tables e below (s₁.setTop (mkF m 1 #[.val (.ref o0), .val (.int p1)] [(.int p1)])) t → Steps p.tables e below (s₁.setTop (entryFrame m #[(.ref o0), (.int p1)] 2)) t := fun t kt => pre0 t (by
      show Steps p.tables e below (s₁.setTop (mkF m 0 #[.val (.ref o0), .val (.int p1)] [])) _
      refine XS.iloadN X0.here hx rfl (hb hby d12_0) rfl ?_
      exact kt)
  have hd1_2 : ¬ (p1 < (0 : Int32)) := hv.1
  have pre3 : ∀ t, Steps p.tables e below (s₁.setTop (mkF m 8 #[.val (.ref o0), .val (.int p1)] [(.int (255 : Int32)), (.int p1)])) t → Steps p.tables e below (s₁.setTop (entryFrame m #[(.ref o0), (.int p1)] 2)) t := fun t kt => pre1 t (by
      show Steps p.tables e below (s₁.setTop (mkF m 1 #[.val (.ref o0), .val (.int p1)] [(.int p1)])) _
      refine XS.ifNo X0.here hx rfl (hb hby d12_1) rfl ((if0 _ _).trans (flt hd1_2).1) ?_
      show Steps p.tables e below (s₁.setTop (mkF m 4 #[.val (.ref o0), .val (.int p1)] [])) _
      refine XS.iloadN X0.here hx rfl (hb hby d12_4) rfl ?_
      show Steps p.tables e below (s₁.setTop (mkF m 5 #[.val (.ref o0), .val (.int p1)] [(.int p1)])) _
      refine XS.sipush X0.here hx rfl (hb hby d12_5) ?_
      exact kt)
  have hd8_4 : ¬ ((255 : Int32) < p1) := hv.2
  obtain ⟨cq5, q5, q5'⟩ := E_o0.cell
  obtain ⟨_, _, ⟨T5, L5, k5, n5⟩, -, X5, ⟨Lc5, hQ5, l5, y5, z5⟩, st5⟩ := X0.privateBack hx (y := (⟨"com/example/corvid/corvid/ByteWriter", "reserve", "(I)V"⟩ : MethodName)) hown (mvT hZ (hw _ (List.mem_of_getElem? (i := 19) rfl))) (mvT hZ (hw _ (List.mem_of_getElem? (i := 20) rfl))) (own_selp (z := (⟨"com/example/corvid/corvid/ByteWriter", "writeInt", "(I)V"⟩ : MethodName)) rfl (mvT hZ (hw _ (List.mem_of_getElem? (i := 17) rfl))) (Cond.privateMethod_at (mvP hZ (hw _ (List.mem_of_getElem? (i := 21) rfl)) (args := #[]))) (mvT hZ (hw _ (List.mem_of_getElem? (i := 20) rfl))) (by decide)) (Cond.privateMethod_at (mvP hZ (hw _ (List.mem_of_getElem? (i := 21) rfl)) (args := #[]))) (mvT hZ (hw _ (List.mem_of_getElem? (i := 22) rfl))) (by decide) (backOf (W := 0) (rm4 l Z a0 hw [] o0 (1 : Int32) w r1 F1 h0 n0 Z0 E_o0 F_length_o0 F_bytes_o0 V_r1 ne_o0_r1 (hl) (by decide)) hZ (hw _ (List.mem_of_getElem? (i := 22) rfl)) (hw _ (List.mem_of_getElem? (i := 3) rfl)) (by decide) (by decide)) (g := (mkF m 27 #[.val (.ref o0), .val (.int p1)] [(.int (1 : Int32)), (.ref o0)])) rfl (by rw [hml]; rfl) (Steps.refl _) (a := o0) (by rw [e0]; exact q5) q5' (argsL := [(.int (1 : Int32))]) (rest := []) (lenOf pd_12_0 rfl) rfl (by show 2 * 0 + _ ≤ _; exact Nat.le_of_eq rfl) (hb hby d12_27) (fun _ _ => ⟨rfl, e0, (by decide : 0 + 0 ≤ _), (by decide : 0 + 0 ≤ _)⟩)
  dsimp only [Pt.U, Pt.locs, Pt.cells, Pt.slots] at X5 l5 y5 z5 st5 hQ5
  subst l5 y5 z5
  obtain ⟨rfl, N5q, e5q⟩ := hQ5
  have N5 := Fr.app N0 N5q
  obtain ⟨T6, X6, e6, st6⟩ := getF X5 hx hZ hown (host := "") (Or.inl (hw _ (List.mem_of_getElem? (i := 10) rfl))) Via.refl e5q F_bytes_o0 (g := (mkF m 31 #[.val (.ref o0), .val (.int p1)] [(.ref o0)])) rfl rfl (hb hby d12_31)
  obtain ⟨T7, X7, e7, st7⟩ := getF X6 hx hZ hown (host := "") (Or.inl (hw _ (List.mem_of_getElem? (i := 23) rfl))) Via.refl e6 F_length_o0 (g := (mkF m 36 #[.val (.ref o0), .val (.int p1)] [(.ref o0), (.ref o0), (.ref r1)])) rfl rfl (hb hby d12_36)
  obtain ⟨T8, h8, X8, e8, W8, st8⟩ := putF X7 hx hZ hown (host := "") (Or.inl (hw _ (List.mem_of_getElem? (i := 23) rfl))) Via.refl e7 F_length_o0 E_o0 (Or.inl (hw _ (List.mem_of_getElem? (i := 24) rfl))) (hw _ (List.mem_of_getElem? (i := 2) rfl)) (ty := .int) (by decide) rfl rfl (g := (mkF m 42 #[.val (.ref o0), .val (.int p1)] [(.int (w + (1 : Int32))), (.ref o0), (.int w), (.ref r1)])) rfl rfl (hb hby d12_42)
  have Fw8 := F_length_o0.same W8
  have K9 : Keep h0 h8 [o0, r1] := (Keep.refl h0 [o0, r1]).wr W8 (Or.inl (List.mem_of_getElem? (i := 0) rfl))
  have Z10 : n0 ≤ h8.size := Nat.le_trans Z0 K9.1
  have N8 := Fr.snoc X8 N5 g_o0
  obtain ⟨LS8, X8, N8⟩ : ∃ L, Stand p l e ({ frames := 2, cells := 0, slots := 0, locals := 28 } : Room) s m #[(.ref o0), (.int p1)] below meth c T8 L 0 0 ∧ Fr n0 L := ⟨_, X8, N8⟩
  obtain ⟨cl11, Ar11, Sz11, Nn11, Hs11⟩ := id (V_r1.other W8 (Ne.symm ne_o0_r1))
  have hin11 : ¬ (w < 0 ∨ cl11.slots.size ≤ (w).toNatClampNeg) := inb_of Sz11 (own_i0 hl)
  obtain ⟨T12, h12, X12, e12, W12, st12⟩ := stB X8 hx hZ e8 Ar11 (j := w) hin11 (g := (mkF m 47 #[.val (.ref o0), .val (.int p1)] [(.int (p1.toInt8.toInt32)), (.int w), (.ref r1)])) rfl rfl (hb hby d12_47)
  have V12 : own_AI Z h12 r1 .byte (64 : Int32) (own_upd F1 (w).toNatClampNeg (nar .byte (p1.toInt8.toInt32))) := own_AI.set (V_r1.other W8 (Ne.symm ne_o0_r1)) (fits_nar_byte (p1.toInt8.toInt32)) W12
  have K13 : Keep h0 h12 [o0, r1] := K9.wr W12 (Or.inl (List.mem_of_getElem? (i := 1) rfl))
  have Z14 : n0 ≤ h12.size := Nat.le_trans Z0 K13.1
  have N12 := Fr.snoc X12 N8 g_r1
  obtain ⟨LS12, X12, N12⟩ : ∃ L, Stand p l e ({ frames := 2, cells := 0, slots := 0, locals := 28 } : Room) s m #[(.ref o0), (.int p1)] below meth c T12 L 0 0 ∧ Fr n0 L := ⟨_, X12, N12⟩
  obtain ⟨fs, hr, hrun, hended, hW, hsame⟩ := X12.leave (v := none) (fun _ => rfl)
  have c15 := ((F_bytes_o0.other W8 (Or.inr (slot_ne (Or.inl (hw _ (List.mem_of_getElem? (i := 11) rfl))) (Or.inl (hw _ (List.mem_of_getElem? (i := 24) rfl))) (by decide) (t := (.array .byte)) (t' := .int) (by decide) (by decide)))).other W12 (Or.inl ne_o0_r1))
  refine ⟨_, _, pre3 _ ?_, hrun, hended, _, _, rfl, ?_, ⟨_, rfl⟩, hW, hsame.mono (by decide) (by decide)⟩
  · show Steps p.tables e below (s₁.setTop (mkF m 8 #[.val (.ref o0), .val (.int p1)] [(.int (255 : Int32)), (.int p1)])) _
    refine XS.icmpYes X0.here hx rfl (pc0 := 8) (pc' := 25) rfl (hb hby d12_8) rfl (flt hd8_4).2.2.2 (by decide) (by decide) ?_
    show Steps p.tables e below (s₁.setTop (mkF m 25 #[.val (.ref o0), .val (.int p1)] [])) _
    refine XS.aloadN X0.here hx rfl (hb hby d12_25) rfl rfl ?_
    show Steps p.tables e below (s₁.setTop (mkF m 26 #[.val (.ref o0), .val (.int p1)] [(.ref o0)])) _
    refine XS.iconst X0.here hx rfl (hb hby d12_26) ?_
    show Steps p.tables e below (s₁.setTop (mkF m 27 #[.val (.ref o0), .val (.int p1)] [(.int (1 : Int32)), (.ref o0)])) _
    refine st5.trans ?_
    show Steps p.tables e below (T5.setTop (mkF m 30 #[.val (.ref o0), .val (.int p1)] [])) _
    refine XS.aloadN X5.here hx rfl (hb hby d12_30) rfl rfl ?_
    show Steps p.tables e below (T5.setTop (mkF m 31 #[.val (.ref o0), .val (.int p1)] [(.ref o0)])) _
    refine st6 _ ?_
    show Steps p.tables e below (T6.setTop (mkF m 34 #[.val (.ref o0), .val (.int p1)] [(.ref r1)])) _
    refine XS.aloadN X6.here hx rfl (hb hby d12_34) rfl rfl ?_
    show Steps p.tables e below (T6.setTop (mkF m 35 #[.val (.ref o0), .val (.int p1)] [(.ref o0), (.ref r1)])) _
    refine XS.dup X6.here hx rfl (hb hby d12_35) rfl rfl ?_
    show Steps p.tables e below (T6.setTop (mkF m 36 #[.val (.ref o0), .val (.int p1)] [(.ref o0), (.ref o0), (.ref r1)])) _
    refine st7 _ ?_
    show Steps p.tables e below (T7.setTop (mkF m 39 #[.val (.ref o0), .val (.int p1)] [(.int w), (.ref o0), (.ref r1)])) _
    refine XS.dupX1 X7.here hx rfl (hb hby d12_39) rfl rfl rfl ?_
    show Steps p.tables e below (T7.setTop (mkF m 40 #[.val (.ref o0), .val (.int p1)] [(.int w), (.ref o0), (.int w), (.ref r1)])) _
    refine XS.iconst X7.here hx rfl (hb hby d12_40) ?_
    show Steps p.tables e below (T7.setTop (mkF m 41 #[.val (.ref o0), .val (.int p1)] [(.int (1 : Int32)), (.int w), (.ref o0), (.int w), (.ref r1)])) _
    refine XS.iadd X7.here hx rfl (hb hby d12_41) rfl ?_
    show Steps p.tables e below (T7.setTop (mkF m 42 #[.val (.ref o0), .val (.int p1)] [(.int (w + (1 : Int32))), (.ref o0), (.int w), (.ref r1)])) _
    refine st8 _ ?_
    show Steps p.tables e below (T8.setTop (mkF m 45 #[.val (.ref o0), .val (.int p1)] [(.int w), (.ref r1)])) _
    refine XS.iloadN X8.here hx rfl (hb hby d12_45) rfl ?_
    show Steps p.tables e below (T8.setTop (mkF m 46 #[.val (.ref o0), .val (.int p1)] [(.int p1), (.int w), (.ref r1)])) _
    refine XS.i2b X8.here hx rfl (hb hby d12_46) rfl ?_
    show Steps p.tables e below (T8.setTop (mkF m 47 #[.val (.ref o0), .val (.int p1)] [(.int (p1.toInt8.toInt32)), (.int w), (.ref r1)])) _
    refine st12 _ ?_
    show Steps p.tables e below (T12.setTop (mkF m 48 #[.val (.ref o0), .val (.int p1)] [])) _
    exact X12.returnOut hx Bd.returns (hb hby d12_48) hr
  · show Q12 Z o0 p1 w r1 F1 h0 n0 _ T12.heap _
    rw [e12]
    exact ⟨rfl, N12, K13, (Fw8.other W12 (Or.inl ne_o0_r1)), (by rw [f12_r1_a]; exact V12), c15⟩
theorem d8_0 : decode jdk_29_method_69_code 0 = .ok (.iload_n 0, 1) := by decide +kernel
theorem d8_1 : decode jdk_29_method_69_code 1 = .ok (.iload_n 1, 1) := by decide +kernel
theorem d8_2 : decode jdk_29_method_69_code 2 = .ok (.if_icmp .gt 7, 3) := by decide +kernel
theorem d8_5 : decode jdk_29_method_69_code 5 = .ok (.iload_n 0, 1) := by decide +kernel
theorem d8_6 : decode jdk_29_method_69_code 6 = .ok (.goto 4, 3) := by decide +kernel
theorem d8_9 : decode jdk_29_method_69_code 9 = .ok (.iload_n 1, 1) := by decide +kernel
theorem d8_10 : decode jdk_29_method_69_code 10 = .ok (.ireturn, 1) := by decide +kernel
theorem ef_8 (m : MethodId) (x0 : Int32) (x1 : Int32) : entryFrame m #[(.int x0), (.int x1)] 2 = mkF m 0 #[.val (.int x0), .val (.int x1)] [] := by first | (simp [entryFrame, mkF, argsToLocals, Value.category]; done) | rfl
def f8 (p0 : Int32) (p1 : Int32) : Int32 :=
  if p1 < p0 then (p1) else
  (p0)
theorem own_min {w : Int32} (hl : ¬ w < 0 ∧ w < (16 : Int32)) : f8 (64 : Int32) w = w ∧ w.toInt ≤ (64 : Int32).toInt := by
  have e : (64 : Int32).toInt = 64 := by decide
  have h := own_ln hl
  refine ⟨?_, by omega⟩
  rw [f8, if_pos (Int32.lt_of_lt_of_le hl.2 (by decide))]
def Q8 (Z : State) (p0 : Int32) (p1 : Int32) (h0 : Heap) (n0 : Nat) (v : Option Value) (h : Heap) (L : List Loc) : Prop := v = some (.int (f8 p0 p1)) ∧ Fr n0 L ∧ h = h0
set_option maxRecDepth 65536 in
set_option maxHeartbeats 40000000 in
theorem rm8 (l : Launch) (Z : State) (a0 : Array Value) (hw : ∀ d ∈ tables_1, d.before a0 Z = true) (ws : List Jvm.Cond) (p0 : Int32) (p1 : Int32) (h0 : Heap) (n0 : Nat) (Z0 : n0 ≤ h0.size) :
    MetFree l (⟨"java/lang/Math", "min", "(II)I"⟩ : MethodName) (head1 (Jvm.Cond.code (⟨"java/lang/Math", "min", "(II)I"⟩ : MethodName) jdk_29_method_69_code 2 (some .int) :: ws) ({ frames := 0, cells := 0, slots := 0, locals := 0 } : Room)) (fun a U => a = #[(.int p0), (.int p1)] ∧ Z.Warmed39 U.vm ∧ U.heap = h0) (fun _ _ _ _ _ => True) (fun _ U o U' => ∃ v L, o = .returned v ∧ Q8 Z p0 p1 h0 n0 v U'.heap L ∧ FrameEnd U o U' L ({ frames := 0, cells := 0, slots := 0, locals := 0 } : Room).cells ({ frames := 0, cells := 0, slots := 0, locals := 0 } : Room).slots) := by
  refine MetFree.of_bodySF (Jvm.Free.JP.mathPlain rfl (by decide +kernel)) hisR ?_
  intro p e s m args below meth c s₁ Bd hml0 hP hK
  obtain ⟨rfl, hZ, hh⟩ := hP
  have hx := Bd.exec
  have hby := Bd.bytes
  have hml : c.maxLocals = 2 := hml0
  have hown : s.vm.findClass "java/lang/Math" = some m.cls := findClass_of_methodNamed Bd.named
  have hnm := (name_of_methodNamed Bd.named Bd.method).1
  have X0 : Stand p l e ({ frames := 0, cells := 0, slots := 0, locals := 0 } : Room) s m #[(.int p0), (.int p1)] below meth c s₁ [] 0 0 := Stand.of_body Bd
  have e0 : s₁.heap = h0 := by rw [← hh, Bd.state]; rfl
  have N0 := Fr.nil n0
  have pre0 : ∀ t, Steps p.tables e below (s₁.setTop (mkF m 0 #[.val (.int p0), .val (.int p1)] [])) t → Steps p.tables e below (s₁.setTop (entryFrame m #[(.int p0), (.int p1)] 2)) t := fun t k => castTop (ef_8 m p0 p1) k
  have pre1 : ∀ t, Steps p.tables e below (s₁.setTop (mkF m 2 #[.val (.int p0), .val (.int p1)] [(.int p1), (.int p0)])) t → Steps p.tables e below (s₁.setTop (entryFrame m #[(.int p0), (.int p1)] 2)) t := fun t kt => pre0 t (by
      show Steps p.tables e below (s₁.setTop (mkF m 0 #[.val (.int p0), .val (.int p1)] [])) _
      refine XS.iloadN X0.here hx rfl (hb hby d8_0) rfl ?_
      show Steps p.tables e below (s₁.setTop (mkF m 1 #[.val (.int p0), .val (.int p1)] [(.int p0)])) _
      refine XS.iloadN X0.here hx rfl (hb hby d8_1) rfl ?_
      exact kt)
  by_cases hc2_2 : p1 < p0
  · obtain ⟨fs, hr, hrun, hended, hW, hsame⟩ := X0.leave (v := some (.int p1)) (fun h => by rw [Bd.returns] at h; cases h)
    have hv3 : (f8 p0 p1) = p1 := by rw [f8, if_pos hc2_2]
    refine ⟨_, _, pre1 _ ?_, hrun, hended, _, _, rfl, ?_, ⟨_, rfl⟩, hW, hsame.mono (by decide) (by decide)⟩
    · show Steps p.tables e below (s₁.setTop (mkF m 2 #[.val (.int p0), .val (.int p1)] [(.int p1), (.int p0)])) _
      refine XS.icmpYes X0.here hx rfl (pc0 := 2) (pc' := 9) rfl (hb hby d8_2) rfl (tlt hc2_2).2.2.1 (by decide) (by decide) ?_
      show Steps p.tables e below (s₁.setTop (mkF m 9 #[.val (.int p0), .val (.int p1)] [])) _
      refine XS.iloadN X0.here hx rfl (hb hby d8_9) rfl ?_
      show Steps p.tables e below (s₁.setTop (mkF m 10 #[.val (.int p0), .val (.int p1)] [(.int p1)])) _
      exact retI X0 hx Bd.returns (hb hby d8_10) hr
    · show Q8 Z p0 p1 h0 n0 _ s₁.heap _
      rw [e0]
      exact ⟨congrArg (fun q => some (Value.int q)) hv3.symm, N0, rfl⟩
  · obtain ⟨fs, hr, hrun, hended, hW, hsame⟩ := X0.leave (v := some (.int p0)) (fun h => by rw [Bd.returns] at h; cases h)
    have hv4 : (f8 p0 p1) = p0 := by rw [f8, if_neg hc2_2]
    refine ⟨_, _, pre1 _ ?_, hrun, hended, _, _, rfl, ?_, ⟨_, rfl⟩, hW, hsame.mono (by decide) (by decide)⟩
    · show Steps p.tables e below (s₁.setTop (mkF m 2 #[.val (.int p0), .val (.int p1)] [(.int p1), (.int p0)])) _
      refine XS.icmpNo X0.here hx rfl (hb hby d8_2) rfl (flt hc2_2).2.2.1 ?_
      show Steps p.tables e below (s₁.setTop (mkF m 5 #[.val (.int p0), .val (.int p1)] [])) _
      refine XS.iloadN X0.here hx rfl (hb hby d8_5) rfl ?_
      show Steps p.tables e below (s₁.setTop (mkF m 6 #[.val (.int p0), .val (.int p1)] [(.int p0)])) _
      refine XS.goto X0.here hx rfl (pc0 := 6) (pc' := 10) rfl (hb hby d8_6) (by decide) (by decide) ?_
      show Steps p.tables e below (s₁.setTop (mkF m 10 #[.val (.int p0), .val (.int p1)] [(.int p0)])) _
      exact retI X0 hx Bd.returns (hb hby d8_10) hr
    · show Q8 Z p0 p1 h0 n0 _ s₁.heap _
      rw [e0]
      exact ⟨congrArg (fun q => some (Value.int q)) hv4.symm, N0, rfl⟩
theorem d7_0 : decode jdk_65_method_121_code 0 = .ok (.iload_n 1, 1) := by decide +kernel
theorem d7_1 : decode jdk_65_method_121_code 1 = .ok (.aload_n 0, 1) := by decide +kernel
theorem d7_2 : decode jdk_65_method_121_code 2 = .ok (.arraylength, 1) := by decide +kernel
theorem d7_3 : decode jdk_65_method_121_code 3 = .ok (.if_icmp .ne 11, 3) := by decide +kernel
theorem d7_14 : decode jdk_65_method_121_code 14 = .ok (.iload_n 1, 1) := by decide +kernel
theorem d7_15 : decode jdk_65_method_121_code 15 = .ok (.newarray .byte, 2) := by decide +kernel
theorem d7_17 : decode jdk_65_method_121_code 17 = .ok (.astore_n 2, 1) := by decide +kernel
theorem d7_18 : decode jdk_65_method_121_code 18 = .ok (.aload_n 0, 1) := by decide +kernel
theorem d7_19 : decode jdk_65_method_121_code 19 = .ok (.iconst 0, 1) := by decide +kernel
theorem d7_20 : decode jdk_65_method_121_code 20 = .ok (.aload_n 2, 1) := by decide +kernel
theorem d7_21 : decode jdk_65_method_121_code 21 = .ok (.iconst 0, 1) := by decide +kernel
theorem d7_22 : decode jdk_65_method_121_code 22 = .ok (.aload_n 0, 1) := by decide +kernel
theorem d7_23 : decode jdk_65_method_121_code 23 = .ok (.arraylength, 1) := by decide +kernel
theorem d7_24 : decode jdk_65_method_121_code 24 = .ok (.iload_n 1, 1) := by decide +kernel
theorem d7_25 : decode jdk_65_method_121_code 25 = .ok (.invokestatic 304, 3) := by decide +kernel
theorem d7_28 : decode jdk_65_method_121_code 28 = .ok (.invokestatic 150, 3) := by decide +kernel
theorem d7_31 : decode jdk_65_method_121_code 31 = .ok (.aload_n 2, 1) := by decide +kernel
theorem d7_32 : decode jdk_65_method_121_code 32 = .ok (.areturn, 1) := by decide +kernel
theorem pn_7 : plainName "java/util/Arrays" = true := by first | (simp [plainName, overriddenIn]; done) | decide +kernel
theorem pd_7_0 : parseMethodDescriptor "(II)I" = some ⟨[.int, .int], some .int⟩ := by decide +kernel
theorem ef_7 (m : MethodId) (x0 : Addr) (x1 : Int32) : entryFrame m #[(.ref x0), (.int x1)] 3 = mkF m 0 #[.val (.ref x0), .val (.int x1), .unset] [] := by first | (simp [entryFrame, mkF, argsToLocals, Value.category]; done) | rfl
def Q7 (Z : State) (o0 : Addr) (p1 : Int32) (F1 : Nat → Int32) (h0 : Heap) (n0 : Nat) (v : Option Value) (h : Heap) (L : List Loc) : Prop := ∃ r : Addr, v = some (.ref r) ∧ Fr n0 L ∧ Keep h0 h [] ∧ n0 ≤ r ∧ h0.size ≤ r ∧ own_AI Z h r .byte p1 F1
set_option maxRecDepth 65536 in
set_option maxHeartbeats 40000000 in
theorem rm7 (l : Launch) (Z : State) (a0 : Array Value) (hw : ∀ d ∈ tables_1, d.before a0 Z = true) (ws : List Jvm.Cond) (o0 : Addr) (p1 : Int32) (F1 : Nat → Int32) (h0 : Heap) (n0 : Nat) (Z0 : n0 ≤ h0.size) (V_o0 : own_AI Z h0 o0 .byte (64 : Int32) F1) (hl : ¬ p1 < 0 ∧ p1 < (16 : Int32)) :
    MetFree l (⟨"java/util/Arrays", "copyOf", "([BI)[B"⟩ : MethodName) (head1 (Jvm.Cond.code (⟨"java/util/Arrays", "copyOf", "([BI)[B"⟩ : MethodName) jdk_65_method_121_code 3 (some (.array .byte)) :: ws) ({ frames := 1, cells := 1, slots := 16, locals := 18 } : Room)) (fun a U => a = #[(.ref o0), (.int p1)] ∧ Z.Warmed39 U.vm ∧ U.heap = h0) (fun _ _ _ _ _ => True) (fun _ U o U' => ∃ v L, o = .returned v ∧ Q7 Z o0 p1 F1 h0 n0 v U'.heap L ∧ FrameEnd U o U' L ({ frames := 1, cells := 1, slots := 16, locals := 18 } : Room).cells ({ frames := 1, cells := 1, slots := 16, locals := 18 } : Room).slots) := by
  refine MetFree.of_bodySF (plainFor_of_name pn_7) hisR ?_
  intro p e s m args below meth c s₁ Bd hml0 hP hK
  obtain ⟨rfl, hZ, hh⟩ := hP
  have hx := Bd.exec
  have hby := Bd.bytes
  have hml : c.maxLocals = 3 := hml0
  have hown : s.vm.findClass "java/util/Arrays" = some m.cls := findClass_of_methodNamed Bd.named
  have hnm := (name_of_methodNamed Bd.named Bd.method).1
  have X0 : Stand p l e ({ frames := 1, cells := 1, slots := 16, locals := 18 } : Room) s m #[(.ref o0), (.int p1)] below meth c s₁ [] 0 0 := Stand.of_body Bd
  have e0 : s₁.heap = h0 := by rw [← hh, Bd.state]; rfl
  have N0 := Fr.nil n0
  have pre0 : ∀ t, Steps p.tables e below (s₁.setTop (mkF m 0 #[.val (.ref o0), .val (.int p1), .unset] [])) t → Steps p.tables e below (s₁.setTop (entryFrame m #[(.ref o0), (.int p1)] 3)) t := fun t k => castTop (ef_7 m o0 p1) k
  obtain ⟨cl1, Ar1, Sz1, Nn1, -⟩ := id V_o0
  have pre2 : ∀ t, Steps p.tables e below (s₁.setTop (mkF m 3 #[.val (.ref o0), .val (.int p1), .unset] [(.int (64 : Int32)), (.int p1)])) t → Steps p.tables e below (s₁.setTop (entryFrame m #[(.ref o0), (.int p1)] 3)) t := fun t kt => pre0 t (by
      show Steps p.tables e below (s₁.setTop (mkF m 0 #[.val (.ref o0), .val (.int p1), .unset] [])) _
      refine XS.iloadN X0.here hx rfl (hb hby d7_0) rfl ?_
      show Steps p.tables e below (s₁.setTop (mkF m 1 #[.val (.ref o0), .val (.int p1), .unset] [(.int p1)])) _
      refine XS.aloadN X0.here hx rfl (hb hby d7_1) rfl rfl ?_
      show Steps p.tables e below (s₁.setTop (mkF m 2 #[.val (.ref o0), .val (.int p1), .unset] [(.ref o0), (.int p1)])) _
      refine X0.arraylength hx (by rw [e0]; exact Ar1.1) (State.isArrayOf_alike hZ.alike Ar1.2.1) (g := (mkF m 2 #[.val (.ref o0), .val (.int p1), .unset] [(.ref o0), (.int p1)])) rfl rfl (hb hby d7_2) _ ?_
      rw [len_of Sz1 Nn1]
      exact kt)
  have hd3_3 : ¬ (p1 = (64 : Int32)) := own_n64 hl
  obtain ⟨T4, h4, k4, X4, e4, E4, A4, st4⟩ := newP X0 hx hZ (hw _ (List.mem_of_getElem? (i := 0) rfl)) e0 (g := (mkF m 15 #[.val (.ref o0), .val (.int p1), .unset] [(.int p1)])) rfl (hb hby d7_15) rfl hl.1 (cap := 16) (own_c16 hl) (by decide) (by decide) (by decide)
  obtain ⟨b4, g4⟩ : ∃ z, z = h0.size := ⟨_, rfl⟩
  rw [← g4] at A4 st4
  have g_b4 : n0 ≤ b4 := Nat.le_trans Z0 (Nat.le_of_eq g4.symm)
  have sz_b4 : h0.size ≤ b4 := Nat.le_trans (Keep.refl h0 []).1 (Nat.le_of_eq g4.symm)
  have ne_o0_b4 : o0 ≠ b4 := Nat.ne_of_lt (Nat.lt_of_lt_of_le V_o0.lt (Nat.le_of_eq g4.symm))
  have K5 : Keep h0 h4 [] := (Keep.refl h0 []).ext E4
  have Z6 : n0 ≤ h4.size := Nat.le_trans Z0 K5.1
  have V_b4 : own_AI Z h4 b4 .byte p1 (fun _ => 0) := own_AI.new A4 hl.1 rfl
  obtain ⟨cl7, Ar7, Sz7, Nn7, -⟩ := id (V_o0.ext E4)
  obtain ⟨_, _, ⟨T8, L8, k8, n8⟩, -, X8, ⟨Lc8, hQ8, l8, y8, z8⟩, st8⟩ := Jvm.LawKit.callS X4 hx (y := (⟨"java/lang/Math", "min", "(II)I"⟩ : MethodName)) hown (mvT hZ (hw _ (List.mem_of_getElem? (i := 38) rfl))) (mvT hZ (hw _ (List.mem_of_getElem? (i := 39) rfl))) (mvT hZ (hw _ (List.mem_of_getElem? (i := 27) rfl))) (mvT hZ (hw _ (List.mem_of_getElem? (i := 40) rfl))) (by decide) (backOf (W := 4) (rm8 l Z a0 hw [] (64 : Int32) p1 h4 n0 Z6 ) hZ (hw _ (List.mem_of_getElem? (i := 40) rfl)) (hw _ (List.mem_of_getElem? (i := 27) rfl)) (by decide) (by decide)) (g := (mkF m 25 #[.val (.ref o0), .val (.int p1), .val (.ref b4)] [(.int p1), (.int (64 : Int32)), (.int (0 : Int32)), (.ref b4), (.int (0 : Int32)), (.ref o0)])) rfl (by rw [hml]; rfl) (argsL := [(.int (64 : Int32)), (.int p1)]) (rest := [(.int (0 : Int32)), (.ref b4), (.int (0 : Int32)), (.ref o0)]) (lenOf pd_7_0 rfl) rfl (by show 2 * 0 + _ ≤ _; exact Nat.le_of_eq rfl) (hb hby d7_25) (fun _ _ => ⟨rfl, e4, (by decide : 1 + 0 ≤ _), (by decide : 16 + 0 ≤ _)⟩)
  dsimp only [Pt.U, Pt.locs, Pt.cells, Pt.slots] at X8 l8 y8 z8 st8 hQ8
  subst l8 y8 z8
  obtain ⟨rfl, N8q, e8q⟩ := hQ8
  have N8 := Fr.app N0 N8q
  obtain ⟨T9, h9, L9, X9, e9, N9, K9q, V9, st9⟩ := own_cp X8 hx hZ hown (hw _ (List.mem_of_getElem? (i := 41) rfl)) (hw _ (List.mem_of_getElem? (i := 44) rfl)) (hw _ (List.mem_of_getElem? (i := 42) rfl)) (hw _ (List.mem_of_getElem? (i := 43) rfl)) e8q (V_o0.ext E4) V_b4 rfl (own_min hl) N8 g_b4 (g := (mkF m 28 #[.val (.ref o0), .val (.int p1), .val (.ref b4)] [(.int (f8 (64 : Int32) p1)), (.int (0 : Int32)), (.ref b4), (.int (0 : Int32)), (.ref o0)])) rfl (by rw [hml]; rfl) rfl (hb hby d7_28) (by decide) (W := 0) (by show 2 * 0 + _ ≤ _; exact Nat.le_of_eq rfl) (by decide)
  have K10 : Keep h0 h9 [] := K5.trans K9q (allS (Or.inr sz_b4) all0)
  have Z11 : n0 ≤ h9.size := Nat.le_trans Z0 K10.1
  obtain ⟨fs, hr, hrun, hended, hW, hsame⟩ := X9.leave (v := some (.ref b4)) (fun h => by rw [Bd.returns] at h; cases h)
  refine ⟨_, _, pre2 _ ?_, hrun, hended, _, _, rfl, ?_, ⟨_, rfl⟩, hW, hsame.mono (by decide) (by decide)⟩
  · show Steps p.tables e below (s₁.setTop (mkF m 3 #[.val (.ref o0), .val (.int p1), .unset] [(.int (64 : Int32)), (.int p1)])) _
    refine XS.icmpYes X0.here hx rfl (pc0 := 3) (pc' := 14) rfl (hb hby d7_3) rfl (feq hd3_3).2 (by decide) (by decide) ?_
    show Steps p.tables e below (s₁.setTop (mkF m 14 #[.val (.ref o0), .val (.int p1), .unset] [])) _
    refine XS.iloadN X0.here hx rfl (hb hby d7_14) rfl ?_
    show Steps p.tables e below (s₁.setTop (mkF m 15 #[.val (.ref o0), .val (.int p1), .unset] [(.int p1)])) _
    refine st4 _ ?_
    show Steps p.tables e below (T4.setTop (mkF m 17 #[.val (.ref o0), .val (.int p1), .unset] [(.ref b4)])) _
    refine XS.astoreN X4.here hx rfl (hb hby d7_17) rfl rfl (l' := #[.val (.ref o0), .val (.int p1), .val (.ref b4)]) rfl ?_
    show Steps p.tables e below (T4.setTop (mkF m 18 #[.val (.ref o0), .val (.int p1), .val (.ref b4)] [])) _
    refine XS.aloadN X4.here hx rfl (hb hby d7_18) rfl rfl ?_
    show Steps p.tables e below (T4.setTop (mkF m 19 #[.val (.ref o0), .val (.int p1), .val (.ref b4)] [(.ref o0)])) _
    refine XS.iconst X4.here hx rfl (hb hby d7_19) ?_
    show Steps p.tables e below (T4.setTop (mkF m 20 #[.val (.ref o0), .val (.int p1), .val (.ref b4)] [(.int (0 : Int32)), (.ref o0)])) _
    refine XS.aloadN X4.here hx rfl (hb hby d7_20) rfl rfl ?_
    show Steps p.tables e below (T4.setTop (mkF m 21 #[.val (.ref o0), .val (.int p1), .val (.ref b4)] [(.ref b4), (.int (0 : Int32)), (.ref o0)])) _
    refine XS.iconst X4.here hx rfl (hb hby d7_21) ?_
    show Steps p.tables e below (T4.setTop (mkF m 22 #[.val (.ref o0), .val (.int p1), .val (.ref b4)] [(.int (0 : Int32)), (.ref b4), (.int (0 : Int32)), (.ref o0)])) _
    refine XS.aloadN X4.here hx rfl (hb hby d7_22) rfl rfl ?_
    show Steps p.tables e below (T4.setTop (mkF m 23 #[.val (.ref o0), .val (.int p1), .val (.ref b4)] [(.ref o0), (.int (0 : Int32)), (.ref b4), (.int (0 : Int32)), (.ref o0)])) _
    refine X4.arraylength hx (by rw [e4]; exact Ar7.1) (State.isArrayOf_alike hZ.alike Ar7.2.1) (g := (mkF m 23 #[.val (.ref o0), .val (.int p1), .val (.ref b4)] [(.ref o0), (.int (0 : Int32)), (.ref b4), (.int (0 : Int32)), (.ref o0)])) rfl rfl (hb hby d7_23) _ ?_
    rw [len_of Sz7 Nn7]
    show Steps p.tables e below (T4.setTop (mkF m 24 #[.val (.ref o0), .val (.int p1), .val (.ref b4)] [(.int (64 : Int32)), (.int (0 : Int32)), (.ref b4), (.int (0 : Int32)), (.ref o0)])) _
    refine XS.iloadN X4.here hx rfl (hb hby d7_24) rfl ?_
    show Steps p.tables e below (T4.setTop (mkF m 25 #[.val (.ref o0), .val (.int p1), .val (.ref b4)] [(.int p1), (.int (64 : Int32)), (.int (0 : Int32)), (.ref b4), (.int (0 : Int32)), (.ref o0)])) _
    refine st8 _ ?_
    show Steps p.tables e below (T8.setTop (mkF m 28 #[.val (.ref o0), .val (.int p1), .val (.ref b4)] [(.int (f8 (64 : Int32) p1)), (.int (0 : Int32)), (.ref b4), (.int (0 : Int32)), (.ref o0)])) _
    refine st9 _ ?_
    show Steps p.tables e below (T9.setTop (mkF m 31 #[.val (.ref o0), .val (.int p1), .val (.ref b4)] [])) _
    refine XS.aloadN X9.here hx rfl (hb hby d7_31) rfl rfl ?_
    show Steps p.tables e below (T9.setTop (mkF m 32 #[.val (.ref o0), .val (.int p1), .val (.ref b4)] [(.ref b4)])) _
    jvm_step X9.here [X9.here.top, hx, (hb hby d7_32), X9.method', Bd.returns, Value.isRef, FieldType.isReference]
    first | (intro acts; rw [hr _ acts rfl rfl rfl]) | rw [hr _ _ rfl rfl rfl]
    exact Steps.refl _
  · show Q7 Z o0 p1 F1 h0 n0 _ T9.heap _
    rw [e9]
    exact ⟨b4, rfl, N9, K10, g_b4, sz_b4, V9⟩
theorem d6_0 : decode prog_2_method_12_code 0 = .ok (.aload_n 0, 1) := by decide +kernel
theorem d6_1 : decode prog_2_method_12_code 1 = .ok (.getfield 9, 3) := by decide +kernel
theorem d6_4 : decode prog_2_method_12_code 4 = .ok (.aload_n 0, 1) := by decide +kernel
theorem d6_5 : decode prog_2_method_12_code 5 = .ok (.getfield 39, 3) := by decide +kernel
theorem d6_8 : decode prog_2_method_12_code 8 = .ok (.invokestatic 99, 3) := by decide +kernel
theorem d6_11 : decode prog_2_method_12_code 11 = .ok (.areturn, 1) := by decide +kernel
theorem pn_6 : plainName "com/example/corvid/corvid/ByteWriter" = true := by first | (simp [plainName, overriddenIn]; done) | decide +kernel
theorem pd_6_0 : parseMethodDescriptor "([BI)[B" = some ⟨[(.array .byte), .int], some (.array .byte)⟩ := by decide +kernel
theorem ef_6 (m : MethodId) (x0 : Addr) : entryFrame m #[(.ref x0)] 1 = mkF m 0 #[.val (.ref x0)] [] := by first | (simp [entryFrame, mkF, argsToLocals, Value.category]; done) | rfl
def Q6 (Z : State) (o0 : Addr) (w : Int32) (r1 : Addr) (F1 : Nat → Int32) (h0 : Heap) (n0 : Nat) (v : Option Value) (h : Heap) (L : List Loc) : Prop := ∃ r : Addr, v = some (.ref r) ∧ Fr n0 L ∧ Keep h0 h [] ∧ n0 ≤ r ∧ h0.size ≤ r ∧ own_AI Z h r .byte w F1
set_option maxRecDepth 65536 in
set_option maxHeartbeats 40000000 in
theorem rm6 (l : Launch) (Z : State) (a0 : Array Value) (hw : ∀ d ∈ tables_1, d.before a0 Z = true) (ws : List Jvm.Cond) (o0 : Addr) (w : Int32) (r1 : Addr) (F1 : Nat → Int32) (h0 : Heap) (n0 : Nat) (Z0 : n0 ≤ h0.size) (F_length_o0 : Fld Z h0 o0 "com/example/corvid/corvid/ByteWriter" "length" "I" (.int w)) (F_bytes_o0 : Fld Z h0 o0 "com/example/corvid/corvid/ByteWriter" "bytes" "[B" (.ref r1)) (V_r1 : own_AI Z h0 r1 .byte (64 : Int32) F1) (hl : ¬ w < 0 ∧ w < (16 : Int32)) :
    MetFree l (⟨"com/example/corvid/corvid/ByteWriter", "toByteArray", "()[B"⟩ : MethodName) (head1 (Jvm.Cond.code (⟨"com/example/corvid/corvid/ByteWriter", "toByteArray", "()[B"⟩ : MethodName) prog_2_method_12_code 1 (some (.array .byte)) :: ws) ({ frames := 2, cells := 1, slots := 16, locals := 32 } : Room)) (fun a U => a = #[(.ref o0)] ∧ Z.Warmed39 U.vm ∧ U.heap = h0) (fun _ _ _ _ _ => True) (fun _ U o U' => ∃ v L, o = .returned v ∧ Q6 Z o0 w r1 F1 h0 n0 v U'.heap L ∧ FrameEnd U o U' L ({ frames := 2, cells := 1, slots := 16, locals := 32 } : Room).cells ({ frames := 2, cells := 1, slots := 16, locals := 32 } : Room).slots) := by
  refine MetFree.of_bodySF (plainFor_of_name pn_6) hisR ?_
  intro p e s m args below meth c s₁ Bd hml0 hP hK
  obtain ⟨rfl, hZ, hh⟩ := hP
  have hx := Bd.exec
  have hby := Bd.bytes
  have hml : c.maxLocals = 1 := hml0
  have hown : s.vm.findClass "com/example/corvid/corvid/ByteWriter" = some m.cls := findClass_of_methodNamed Bd.named
  have hnm := (name_of_methodNamed Bd.named Bd.method).1
  have X0 : Stand p l e ({ frames := 2, cells := 1, slots := 16, locals := 32 } : Room) s m #[(.ref o0)] below meth c s₁ [] 0 0 := Stand.of_body Bd
  have e0 : s₁.heap = h0 := by rw [← hh, Bd.state]; rfl
  have N0 := Fr.nil n0
  have pre0 : ∀ t, Steps p.tables e below (s₁.setTop (mkF m 0 #[.val (.ref o0)] [])) t → Steps p.tables e below (s₁.setTop (entryFrame m #[(.ref o0)] 1)) t := fun t k => castTop (ef_6 m o0) k
  obtain ⟨T1, X1, e1, st1⟩ := getF X0 hx hZ hown (host := "") (Or.inl (hw _ (List.mem_of_getElem? (i := 10) rfl))) Via.refl e0 F_bytes_o0 (g := (mkF m 1 #[.val (.ref o0)] [(.ref o0)])) rfl rfl (hb hby d6_1)
  obtain ⟨T2, X2, e2, st2⟩ := getF X1 hx hZ hown (host := "") (Or.inl (hw _ (List.mem_of_getElem? (i := 23) rfl))) Via.refl e1 F_length_o0 (g := (mkF m 5 #[.val (.ref o0)] [(.ref o0), (.ref r1)])) rfl rfl (hb hby d6_5)
  obtain ⟨_, _, ⟨T3, L3, k3, n3⟩, -, X3, ⟨Lc3, hQ3, l3, y3, z3⟩, st3⟩ := Jvm.LawKit.callS X2 hx (y := (⟨"java/util/Arrays", "copyOf", "([BI)[B"⟩ : MethodName)) hown (mvT hZ (hw _ (List.mem_of_getElem? (i := 34) rfl))) (mvT hZ (hw _ (List.mem_of_getElem? (i := 35) rfl))) (mvT hZ (hw _ (List.mem_of_getElem? (i := 36) rfl))) (mvT hZ (hw _ (List.mem_of_getElem? (i := 37) rfl))) (by decide) (backOf (W := 0) (rm7 l Z a0 hw [] r1 w F1 h0 n0 Z0 V_r1 (hl)) hZ (hw _ (List.mem_of_getElem? (i := 37) rfl)) (hw _ (List.mem_of_getElem? (i := 36) rfl)) (by decide) (by decide)) (g := (mkF m 8 #[.val (.ref o0)] [(.int w), (.ref r1)])) rfl (by rw [hml]; rfl) (argsL := [(.ref r1), (.int w)]) (rest := []) (lenOf pd_6_0 rfl) rfl (by show 2 * 0 + _ ≤ _; exact Nat.le_of_eq rfl) (hb hby d6_8) (fun _ _ => ⟨rfl, e2, (by decide : 0 + 1 ≤ _), (by decide : 0 + 16 ≤ _)⟩)
  dsimp only [Pt.U, Pt.locs, Pt.cells, Pt.slots] at X3 l3 y3 z3 st3 hQ3
  subst l3 y3 z3
  obtain ⟨b_3, rfl, N3q, K3q, g_b_3, szq_b_3, G3_0⟩ := hQ3
  have N3 := Fr.app N0 N3q
  have ne_o0_b_3 : o0 ≠ b_3 := Nat.ne_of_lt (Nat.lt_of_lt_of_le F_length_o0.lt szq_b_3)
  have ne_r1_b_3 : r1 ≠ b_3 := Nat.ne_of_lt (Nat.lt_of_lt_of_le V_r1.lt szq_b_3)
  have sz_b_3 : h0.size ≤ b_3 := Nat.le_trans (Keep.refl h0 []).1 szq_b_3
  have K4 : Keep h0 T3.heap [] := (Keep.refl h0 []).trans K3q all0
  have Z5 : n0 ≤ T3.heap.size := Nat.le_trans Z0 K4.1
  obtain ⟨LS3, X3, N3⟩ : ∃ L, Stand p l e ({ frames := 2, cells := 1, slots := 16, locals := 32 } : Room) s m #[(.ref o0)] below meth c T3 L 1 16 ∧ Fr n0 L := ⟨_, X3, N3⟩
  obtain ⟨fs, hr, hrun, hended, hW, hsame⟩ := X3.leave (v := some (.ref b_3)) (fun h => by rw [Bd.returns] at h; cases h)
  refine ⟨_, _, pre0 _ ?_, hrun, hended, _, _, rfl, ?_, ⟨_, rfl⟩, hW, hsame.mono (by decide) (by decide)⟩
  · show Steps p.tables e below (s₁.setTop (mkF m 0 #[.val (.ref o0)] [])) _
    refine XS.aloadN X0.here hx rfl (hb hby d6_0) rfl rfl ?_
    show Steps p.tables e below (s₁.setTop (mkF m 1 #[.val (.ref o0)] [(.ref o0)])) _
    refine st1 _ ?_
    show Steps p.tables e below (T1.setTop (mkF m 4 #[.val (.ref o0)] [(.ref r1)])) _
    refine XS.aloadN X1.here hx rfl (hb hby d6_4) rfl rfl ?_
    show Steps p.tables e below (T1.setTop (mkF m 5 #[.val (.ref o0)] [(.ref o0), (.ref r1)])) _
    refine st2 _ ?_
    show Steps p.tables e below (T2.setTop (mkF m 8 #[.val (.ref o0)] [(.int w), (.ref r1)])) _
    refine st3 _ ?_
    show Steps p.tables e below (T3.setTop (mkF m 11 #[.val (.ref o0)] [(.ref b_3)])) _
    jvm_step X3.here [X3.here.top, hx, (hb hby d6_11), X3.method', Bd.returns, Value.isRef, FieldType.isReference]
    first | (intro acts; rw [hr _ acts rfl rfl rfl]) | rw [hr _ _ rfl rfl rfl]
    exact Steps.refl _
  · show Q6 Z o0 w r1 F1 h0 n0 _ T3.heap _
    exact ⟨b_3, rfl, N3, K4, g_b_3, sz_b_3, G3_0⟩
theorem d10_0 : decode method_4_code 0 = .ok (.iload_n 3, 1) := by decide +kernel
theorem d10_1 : decode method_4_code 1 = .ok (.iload_n 2, 1) := by decide +kernel
theorem d10_2 : decode method_4_code 2 = .ok (.if_icmp .ge 12, 3) := by decide +kernel
theorem d10_5 : decode method_4_code 5 = .ok (.aload_n 0, 1) := by decide +kernel
theorem d10_6 : decode method_4_code 6 = .ok (.iload_n 3, 1) := by decide +kernel
theorem d10_7 : decode method_4_code 7 = .ok (.baload, 1) := by decide +kernel
theorem d10_8 : decode method_4_code 8 = .ok (.aload_n 1, 1) := by decide +kernel
theorem d10_9 : decode method_4_code 9 = .ok (.iload_n 3, 1) := by decide +kernel
theorem d10_10 : decode method_4_code 10 = .ok (.baload, 1) := by decide +kernel
theorem d10_11 : decode method_4_code 11 = .ok (.if_icmp .ne 7, 3) := by decide +kernel
theorem d10_14 : decode method_4_code 14 = .ok (.iconst 1, 1) := by decide +kernel
theorem d10_15 : decode method_4_code 15 = .ok (.goto 4, 3) := by decide +kernel
theorem d10_18 : decode method_4_code 18 = .ok (.iconst 0, 1) := by decide +kernel
theorem d10_19 : decode method_4_code 19 = .ok (.ireturn, 1) := by decide +kernel
theorem pn_10 : plainName "com/example/corvid/corvid/ByteWriterToByteArrayPinLaw" = true := by first | (simp [plainName, overriddenIn]; done) | decide +kernel
theorem ef_10 (m : MethodId) (x0 : Addr) (x1 : Addr) (x2 : Int32) (x3 : Int32) : entryFrame m #[(.ref x0), (.ref x1), (.int x2), (.int x3)] 4 = mkF m 0 #[.val (.ref x0), .val (.ref x1), .val (.int x2), .val (.int x3)] [] := by first | (simp [entryFrame, mkF, argsToLocals, Value.category]; done) | rfl
def f10 (p2 : Int32) (p3 : Int32) (F0 : Nat → Int32) (G0 : Nat → Int32) : Int32 :=
  if p3 < p2 then (if (F0 (p3).toNatClampNeg) = (G0 (p3).toNatClampNeg) then ((1 : Int32)) else
  ((0 : Int32))) else
  ((1 : Int32))
def Q10 (Z : State) (o0 : Addr) (o1 : Addr) (p2 : Int32) (p3 : Int32) (z0 : Int32) (F0 : Nat → Int32) (z1 : Int32) (G0 : Nat → Int32) (h0 : Heap) (n0 : Nat) (v : Option Value) (h : Heap) (L : List Loc) : Prop := v = some (.int (f10 p2 p3 F0 G0)) ∧ Fr n0 L ∧ h = h0
set_option maxRecDepth 65536 in
set_option maxHeartbeats 40000000 in
theorem rm10 (l : Launch) (Z : State) (a0 : Array Value) (hw : ∀ d ∈ tables_1, d.before a0 Z = true) (ws : List Jvm.Cond) (o0 : Addr) (o1 : Addr) (p2 : Int32) (p3 : Int32) (z0 : Int32) (F0 : Nat → Int32) (z1 : Int32) (G0 : Nat → Int32) (h0 : Heap) (n0 : Nat) (Z0 : n0 ≤ h0.size) (V_o0 : own_AI Z h0 o0 .byte z0 F0) (V_o1 : own_AI Z h0 o1 .byte z1 G0) (hz : p2.toInt ≤ z0.toInt ∧ p2.toInt ≤ z1.toInt) (hk : 0 ≤ p3.toInt) :
    MetFree l (⟨"com/example/corvid/corvid/ByteWriterToByteArrayPinLaw", "at", "([B[BII)Z"⟩ : MethodName) (head1 (Jvm.Cond.code (⟨"com/example/corvid/corvid/ByteWriterToByteArrayPinLaw", "at", "([B[BII)Z"⟩ : MethodName) method_4_code 4 (some .boolean) :: ws) ({ frames := 0, cells := 0, slots := 0, locals := 0 } : Room)) (fun a U => a = #[(.ref o0), (.ref o1), (.int p2), (.int p3)] ∧ Z.Warmed39 U.vm ∧ U.heap = h0) (fun _ _ _ _ _ => True) (fun _ U o U' => ∃ v L, o = .returned v ∧ Q10 Z o0 o1 p2 p3 z0 F0 z1 G0 h0 n0 v U'.heap L ∧ FrameEnd U o U' L ({ frames := 0, cells := 0, slots := 0, locals := 0 } : Room).cells ({ frames := 0, cells := 0, slots := 0, locals := 0 } : Room).slots) := by
  refine MetFree.of_bodySF (plainFor_of_name pn_10) hisR ?_
  intro p e s m args below meth c s₁ Bd hml0 hP hK
  obtain ⟨rfl, hZ, hh⟩ := hP
  have hx := Bd.exec
  have hby := Bd.bytes
  have hml : c.maxLocals = 4 := hml0
  have hown : s.vm.findClass "com/example/corvid/corvid/ByteWriterToByteArrayPinLaw" = some m.cls := findClass_of_methodNamed Bd.named
  have hnm := (name_of_methodNamed Bd.named Bd.method).1
  have X0 : Stand p l e ({ frames := 0, cells := 0, slots := 0, locals := 0 } : Room) s m #[(.ref o0), (.ref o1), (.int p2), (.int p3)] below meth c s₁ [] 0 0 := Stand.of_body Bd
  have e0 : s₁.heap = h0 := by rw [← hh, Bd.state]; rfl
  have N0 := Fr.nil n0
  have pre0 : ∀ t, Steps p.tables e below (s₁.setTop (mkF m 0 #[.val (.ref o0), .val (.ref o1), .val (.int p2), .val (.int p3)] [])) t → Steps p.tables e below (s₁.setTop (entryFrame m #[(.ref o0), (.ref o1), (.int p2), (.int p3)] 4)) t := fun t k => castTop (ef_10 m o0 o1 p2 p3) k
  have pre1 : ∀ t, Steps p.tables e below (s₁.setTop (mkF m 2 #[.val (.ref o0), .val (.ref o1), .val (.int p2), .val (.int p3)] [(.int p2), (.int p3)])) t → Steps p.tables e below (s₁.setTop (entryFrame m #[(.ref o0), (.ref o1), (.int p2), (.int p3)] 4)) t := fun t kt => pre0 t (by
      show Steps p.tables e below (s₁.setTop (mkF m 0 #[.val (.ref o0), .val (.ref o1), .val (.int p2), .val (.int p3)] [])) _
      refine XS.iloadN X0.here hx rfl (hb hby d10_0) rfl ?_
      show Steps p.tables e below (s₁.setTop (mkF m 1 #[.val (.ref o0), .val (.ref o1), .val (.int p2), .val (.int p3)] [(.int p3)])) _
      refine XS.iloadN X0.here hx rfl (hb hby d10_1) rfl ?_
      exact kt)
  by_cases hc2_2 : p3 < p2
  · obtain ⟨cl3, Ar3, Sz3, Nn3, Hs3⟩ := id V_o0
    have hin3 : ¬ (p3 < 0 ∨ cl3.slots.size ≤ (p3).toNatClampNeg) := inb_of Sz3 (own_atb hk hz.1 hc2_2)
    have hat3 : cl3.slots[(p3).toNatClampNeg]? = some (.int (F0 (p3).toNatClampNeg)) := (Hs3 _ (own_lt hin3)).1
    obtain ⟨cl4, Ar4, Sz4, Nn4, Hs4⟩ := id V_o1
    have hin4 : ¬ (p3 < 0 ∨ cl4.slots.size ≤ (p3).toNatClampNeg) := inb_of Sz4 (own_atb hk hz.2 hc2_2)
    have hat4 : cl4.slots[(p3).toNatClampNeg]? = some (.int (G0 (p3).toNatClampNeg)) := (Hs4 _ (own_lt hin4)).1
    have pre5 : ∀ t, Steps p.tables e below (s₁.setTop (mkF m 11 #[.val (.ref o0), .val (.ref o1), .val (.int p2), .val (.int p3)] [(.int (G0 (p3).toNatClampNeg)), (.int (F0 (p3).toNatClampNeg))])) t → Steps p.tables e below (s₁.setTop (entryFrame m #[(.ref o0), (.ref o1), (.int p2), (.int p3)] 4)) t := fun t kt => pre1 t (by
        show Steps p.tables e below (s₁.setTop (mkF m 2 #[.val (.ref o0), .val (.ref o1), .val (.int p2), .val (.int p3)] [(.int p2), (.int p3)])) _
        refine XS.icmpNo X0.here hx rfl (hb hby d10_2) rfl (tlt hc2_2).2.1 ?_
        show Steps p.tables e below (s₁.setTop (mkF m 5 #[.val (.ref o0), .val (.ref o1), .val (.int p2), .val (.int p3)] [])) _
        refine XS.aloadN X0.here hx rfl (hb hby d10_5) rfl rfl ?_
        show Steps p.tables e below (s₁.setTop (mkF m 6 #[.val (.ref o0), .val (.ref o1), .val (.int p2), .val (.int p3)] [(.ref o0)])) _
        refine XS.iloadN X0.here hx rfl (hb hby d10_6) rfl ?_
        show Steps p.tables e below (s₁.setTop (mkF m 7 #[.val (.ref o0), .val (.ref o1), .val (.int p2), .val (.int p3)] [(.int p3), (.ref o0)])) _
        refine X0.baloadBytes hx (j := p3) (v := (.int (F0 (p3).toNatClampNeg))) (by rw [e0]; exact Ar3.1) (State.isArrayOf_alike hZ.alike Ar3.2.1) Ar3.2.2 hin3 hat3 (g := (mkF m 7 #[.val (.ref o0), .val (.ref o1), .val (.int p2), .val (.int p3)] [(.int p3), (.ref o0)])) rfl rfl (hb hby d10_7) _ ?_
        show Steps p.tables e below (s₁.setTop (mkF m 8 #[.val (.ref o0), .val (.ref o1), .val (.int p2), .val (.int p3)] [(.int (F0 (p3).toNatClampNeg))])) _
        refine XS.aloadN X0.here hx rfl (hb hby d10_8) rfl rfl ?_
        show Steps p.tables e below (s₁.setTop (mkF m 9 #[.val (.ref o0), .val (.ref o1), .val (.int p2), .val (.int p3)] [(.ref o1), (.int (F0 (p3).toNatClampNeg))])) _
        refine XS.iloadN X0.here hx rfl (hb hby d10_9) rfl ?_
        show Steps p.tables e below (s₁.setTop (mkF m 10 #[.val (.ref o0), .val (.ref o1), .val (.int p2), .val (.int p3)] [(.int p3), (.ref o1), (.int (F0 (p3).toNatClampNeg))])) _
        refine X0.baloadBytes hx (j := p3) (v := (.int (G0 (p3).toNatClampNeg))) (by rw [e0]; exact Ar4.1) (State.isArrayOf_alike hZ.alike Ar4.2.1) Ar4.2.2 hin4 hat4 (g := (mkF m 10 #[.val (.ref o0), .val (.ref o1), .val (.int p2), .val (.int p3)] [(.int p3), (.ref o1), (.int (F0 (p3).toNatClampNeg))])) rfl rfl (hb hby d10_10) _ ?_
        exact kt)
    by_cases hc11_6 : (F0 (p3).toNatClampNeg) = (G0 (p3).toNatClampNeg)
    · obtain ⟨fs, hr, hrun, hended, hW, hsame⟩ := X0.leave (v := some (.int (1 : Int32))) (fun h => by rw [Bd.returns] at h; cases h)
      have hv7 : (f10 p2 p3 F0 G0) = (1 : Int32) := by rw [f10, if_pos hc2_2, if_pos hc11_6]
      refine ⟨_, _, pre5 _ ?_, hrun, hended, _, _, rfl, ?_, ⟨_, rfl⟩, hW, hsame.mono (by decide) (by decide)⟩
      · show Steps p.tables e below (s₁.setTop (mkF m 11 #[.val (.ref o0), .val (.ref o1), .val (.int p2), .val (.int p3)] [(.int (G0 (p3).toNatClampNeg)), (.int (F0 (p3).toNatClampNeg))])) _
        refine XS.icmpNo X0.here hx rfl (hb hby d10_11) rfl (teq hc11_6).2 ?_
        show Steps p.tables e below (s₁.setTop (mkF m 14 #[.val (.ref o0), .val (.ref o1), .val (.int p2), .val (.int p3)] [])) _
        refine XS.iconst X0.here hx rfl (hb hby d10_14) ?_
        show Steps p.tables e below (s₁.setTop (mkF m 15 #[.val (.ref o0), .val (.ref o1), .val (.int p2), .val (.int p3)] [(.int (1 : Int32))])) _
        refine XS.goto X0.here hx rfl (pc0 := 15) (pc' := 19) rfl (hb hby d10_15) (by decide) (by decide) ?_
        show Steps p.tables e below (s₁.setTop (mkF m 19 #[.val (.ref o0), .val (.ref o1), .val (.int p2), .val (.int p3)] [(.int (1 : Int32))])) _
        exact retN X0 hx (t := .boolean) Bd.returns (by simp) (hb hby d10_19) hr
      · show Q10 Z o0 o1 p2 p3 z0 F0 z1 G0 h0 n0 _ s₁.heap _
        rw [e0]
        exact ⟨congrArg (fun q => some (Value.int q)) hv7.symm, N0, rfl⟩
    · obtain ⟨fs, hr, hrun, hended, hW, hsame⟩ := X0.leave (v := some (.int (0 : Int32))) (fun h => by rw [Bd.returns] at h; cases h)
      have hv8 : (f10 p2 p3 F0 G0) = (0 : Int32) := by rw [f10, if_pos hc2_2, if_neg hc11_6]
      refine ⟨_, _, pre5 _ ?_, hrun, hended, _, _, rfl, ?_, ⟨_, rfl⟩, hW, hsame.mono (by decide) (by decide)⟩
      · show Steps p.tables e below (s₁.setTop (mkF m 11 #[.val (.ref o0), .val (.ref o1), .val (.int p2), .val (.int p3)] [(.int (G0 (p3).toNatClampNeg)), (.int (F0 (p3).toNatClampNeg))])) _
        refine XS.icmpYes X0.here hx rfl (pc0 := 11) (pc' := 18) rfl (hb hby d10_11) rfl (feq hc11_6).2 (by decide) (by decide) ?_
        show Steps p.tables e below (s₁.setTop (mkF m 18 #[.val (.ref o0), .val (.ref o1), .val (.int p2), .val (.int p3)] [])) _
        refine XS.iconst X0.here hx rfl (hb hby d10_18) ?_
        show Steps p.tables e below (s₁.setTop (mkF m 19 #[.val (.ref o0), .val (.ref o1), .val (.int p2), .val (.int p3)] [(.int (0 : Int32))])) _
        exact retN X0 hx (t := .boolean) Bd.returns (by simp) (hb hby d10_19) hr
      · show Q10 Z o0 o1 p2 p3 z0 F0 z1 G0 h0 n0 _ s₁.heap _
        rw [e0]
        exact ⟨congrArg (fun q => some (Value.int q)) hv8.symm, N0, rfl⟩
  · obtain ⟨fs, hr, hrun, hended, hW, hsame⟩ := X0.leave (v := some (.int (1 : Int32))) (fun h => by rw [Bd.returns] at h; cases h)
    have hv9 : (f10 p2 p3 F0 G0) = (1 : Int32) := by rw [f10, if_neg hc2_2]
    refine ⟨_, _, pre1 _ ?_, hrun, hended, _, _, rfl, ?_, ⟨_, rfl⟩, hW, hsame.mono (by decide) (by decide)⟩
    · show Steps p.tables e below (s₁.setTop (mkF m 2 #[.val (.ref o0), .val (.ref o1), .val (.int p2), .val (.int p3)] [(.int p2), (.int p3)])) _
      refine XS.icmpYes X0.here hx rfl (pc0 := 2) (pc' := 14) rfl (hb hby d10_2) rfl (flt hc2_2).2.1 (by decide) (by decide) ?_
      show Steps p.tables e below (s₁.setTop (mkF m 14 #[.val (.ref o0), .val (.ref o1), .val (.int p2), .val (.int p3)] [])) _
      refine XS.iconst X0.here hx rfl (hb hby d10_14) ?_
      show Steps p.tables e below (s₁.setTop (mkF m 15 #[.val (.ref o0), .val (.ref o1), .val (.int p2), .val (.int p3)] [(.int (1 : Int32))])) _
      refine XS.goto X0.here hx rfl (pc0 := 15) (pc' := 19) rfl (hb hby d10_15) (by decide) (by decide) ?_
      show Steps p.tables e below (s₁.setTop (mkF m 19 #[.val (.ref o0), .val (.ref o1), .val (.int p2), .val (.int p3)] [(.int (1 : Int32))])) _
      exact retN X0 hx (t := .boolean) Bd.returns (by simp) (hb hby d10_19) hr
    · show Q10 Z o0 o1 p2 p3 z0 F0 z1 G0 h0 n0 _ s₁.heap _
      rw [e0]
      exact ⟨congrArg (fun q => some (Value.int q)) hv9.symm, N0, rfl⟩
theorem d9_0 : decode method_3_code 0 = .ok (.aload_n 0, 1) := by decide +kernel
theorem d9_1 : decode method_3_code 1 = .ok (.aload_n 1, 1) := by decide +kernel
theorem d9_2 : decode method_3_code 2 = .ok (.iload_n 2, 1) := by decide +kernel
theorem d9_3 : decode method_3_code 3 = .ok (.iconst 0, 1) := by decide +kernel
theorem d9_4 : decode method_3_code 4 = .ok (.invokestatic 31, 3) := by decide +kernel
theorem d9_7 : decode method_3_code 7 = .ok (.ifCond .eq 68, 3) := by decide +kernel
theorem d9_10 : decode method_3_code 10 = .ok (.aload_n 0, 1) := by decide +kernel
theorem d9_11 : decode method_3_code 11 = .ok (.aload_n 1, 1) := by decide +kernel
theorem d9_12 : decode method_3_code 12 = .ok (.iload_n 2, 1) := by decide +kernel
theorem d9_13 : decode method_3_code 13 = .ok (.iconst 1, 1) := by decide +kernel
theorem d9_14 : decode method_3_code 14 = .ok (.invokestatic 31, 3) := by decide +kernel
theorem d9_17 : decode method_3_code 17 = .ok (.ifCond .eq 58, 3) := by decide +kernel
theorem d9_20 : decode method_3_code 20 = .ok (.aload_n 0, 1) := by decide +kernel
theorem d9_21 : decode method_3_code 21 = .ok (.aload_n 1, 1) := by decide +kernel
theorem d9_22 : decode method_3_code 22 = .ok (.iload_n 2, 1) := by decide +kernel
theorem d9_23 : decode method_3_code 23 = .ok (.iconst 2, 1) := by decide +kernel
theorem d9_24 : decode method_3_code 24 = .ok (.invokestatic 31, 3) := by decide +kernel
theorem d9_27 : decode method_3_code 27 = .ok (.ifCond .eq 48, 3) := by decide +kernel
theorem d9_30 : decode method_3_code 30 = .ok (.aload_n 0, 1) := by decide +kernel
theorem d9_31 : decode method_3_code 31 = .ok (.aload_n 1, 1) := by decide +kernel
theorem d9_32 : decode method_3_code 32 = .ok (.iload_n 2, 1) := by decide +kernel
theorem d9_33 : decode method_3_code 33 = .ok (.iconst 3, 1) := by decide +kernel
theorem d9_34 : decode method_3_code 34 = .ok (.invokestatic 31, 3) := by decide +kernel
theorem d9_37 : decode method_3_code 37 = .ok (.ifCond .eq 38, 3) := by decide +kernel
theorem d9_40 : decode method_3_code 40 = .ok (.aload_n 0, 1) := by decide +kernel
theorem d9_41 : decode method_3_code 41 = .ok (.aload_n 1, 1) := by decide +kernel
theorem d9_42 : decode method_3_code 42 = .ok (.iload_n 2, 1) := by decide +kernel
theorem d9_43 : decode method_3_code 43 = .ok (.iconst 4, 1) := by decide +kernel
theorem d9_44 : decode method_3_code 44 = .ok (.invokestatic 31, 3) := by decide +kernel
theorem d9_47 : decode method_3_code 47 = .ok (.ifCond .eq 28, 3) := by decide +kernel
theorem d9_50 : decode method_3_code 50 = .ok (.aload_n 0, 1) := by decide +kernel
theorem d9_51 : decode method_3_code 51 = .ok (.aload_n 1, 1) := by decide +kernel
theorem d9_52 : decode method_3_code 52 = .ok (.iload_n 2, 1) := by decide +kernel
theorem d9_53 : decode method_3_code 53 = .ok (.iconst 5, 1) := by decide +kernel
theorem d9_54 : decode method_3_code 54 = .ok (.invokestatic 31, 3) := by decide +kernel
theorem d9_57 : decode method_3_code 57 = .ok (.ifCond .eq 18, 3) := by decide +kernel
theorem d9_60 : decode method_3_code 60 = .ok (.aload_n 0, 1) := by decide +kernel
theorem d9_61 : decode method_3_code 61 = .ok (.aload_n 1, 1) := by decide +kernel
theorem d9_62 : decode method_3_code 62 = .ok (.iload_n 2, 1) := by decide +kernel
theorem d9_63 : decode method_3_code 63 = .ok (.bipush 6, 2) := by decide +kernel
theorem d9_65 : decode method_3_code 65 = .ok (.invokestatic 31, 3) := by decide +kernel
theorem d9_68 : decode method_3_code 68 = .ok (.ifCond .eq 7, 3) := by decide +kernel
theorem d9_71 : decode method_3_code 71 = .ok (.iconst 1, 1) := by decide +kernel
theorem d9_72 : decode method_3_code 72 = .ok (.goto 4, 3) := by decide +kernel
theorem d9_75 : decode method_3_code 75 = .ok (.iconst 0, 1) := by decide +kernel
theorem d9_76 : decode method_3_code 76 = .ok (.ireturn, 1) := by decide +kernel
theorem pn_9 : plainName "com/example/corvid/corvid/ByteWriterToByteArrayPinLaw" = true := by first | (simp [plainName, overriddenIn]; done) | decide +kernel
theorem pd_9_0 : parseMethodDescriptor "([B[BII)Z" = some ⟨[(.array .byte), (.array .byte), .int, .int], some .boolean⟩ := by decide +kernel
theorem ef_9 (m : MethodId) (x0 : Addr) (x1 : Addr) (x2 : Int32) : entryFrame m #[(.ref x0), (.ref x1), (.int x2)] 3 = mkF m 0 #[.val (.ref x0), .val (.ref x1), .val (.int x2)] [] := by first | (simp [entryFrame, mkF, argsToLocals, Value.category]; done) | rfl
def f9 (p2 : Int32) (F0 : Nat → Int32) (G0 : Nat → Int32) : Int32 :=
  if (f10 p2 (0 : Int32) F0 G0) = (0 : Int32) then ((0 : Int32)) else
  (if (f10 p2 (1 : Int32) F0 G0) = (0 : Int32) then ((0 : Int32)) else
  (if (f10 p2 (2 : Int32) F0 G0) = (0 : Int32) then ((0 : Int32)) else
  (if (f10 p2 (3 : Int32) F0 G0) = (0 : Int32) then ((0 : Int32)) else
  (if (f10 p2 (4 : Int32) F0 G0) = (0 : Int32) then ((0 : Int32)) else
  (if (f10 p2 (5 : Int32) F0 G0) = (0 : Int32) then ((0 : Int32)) else
  (if (f10 p2 (6 : Int32) F0 G0) = (0 : Int32) then ((0 : Int32)) else
  ((1 : Int32))))))))
def Q9 (Z : State) (o0 : Addr) (o1 : Addr) (p2 : Int32) (z0 : Int32) (F0 : Nat → Int32) (z1 : Int32) (G0 : Nat → Int32) (h0 : Heap) (n0 : Nat) (v : Option Value) (h : Heap) (L : List Loc) : Prop := v = some (.int (f9 p2 F0 G0)) ∧ Fr n0 L ∧ h = h0
set_option maxRecDepth 65536 in
set_option maxHeartbeats 40000000 in
theorem rm9 (l : Launch) (Z : State) (a0 : Array Value) (hw : ∀ d ∈ tables_1, d.before a0 Z = true) (ws : List Jvm.Cond) (o0 : Addr) (o1 : Addr) (p2 : Int32) (z0 : Int32) (F0 : Nat → Int32) (z1 : Int32) (G0 : Nat → Int32) (h0 : Heap) (n0 : Nat) (Z0 : n0 ≤ h0.size) (V_o0 : own_AI Z h0 o0 .byte z0 F0) (V_o1 : own_AI Z h0 o1 .byte z1 G0) (hz : p2.toInt ≤ z0.toInt ∧ p2.toInt ≤ z1.toInt) :
    MetFree l (⟨"com/example/corvid/corvid/ByteWriterToByteArrayPinLaw", "same", "([B[BI)Z"⟩ : MethodName) (head1 (Jvm.Cond.code (⟨"com/example/corvid/corvid/ByteWriterToByteArrayPinLaw", "same", "([B[BI)Z"⟩ : MethodName) method_3_code 3 (some .boolean) :: ws) ({ frames := 1, cells := 0, slots := 0, locals := 15 } : Room)) (fun a U => a = #[(.ref o0), (.ref o1), (.int p2)] ∧ Z.Warmed39 U.vm ∧ U.heap = h0) (fun _ _ _ _ _ => True) (fun _ U o U' => ∃ v L, o = .returned v ∧ Q9 Z o0 o1 p2 z0 F0 z1 G0 h0 n0 v U'.heap L ∧ FrameEnd U o U' L ({ frames := 1, cells := 0, slots := 0, locals := 15 } : Room).cells ({ frames := 1, cells := 0, slots := 0, locals := 15 } : Room).slots) := by
  refine MetFree.of_bodySF (plainFor_of_name pn_9) hisR ?_
  intro p e s m args below meth c s₁ Bd hml0 hP hK
  obtain ⟨rfl, hZ, hh⟩ := hP
  have hx := Bd.exec
  have hby := Bd.bytes
  have hml : c.maxLocals = 3 := hml0
  have hown : s.vm.findClass "com/example/corvid/corvid/ByteWriterToByteArrayPinLaw" = some m.cls := findClass_of_methodNamed Bd.named
  have hnm := (name_of_methodNamed Bd.named Bd.method).1
  have X0 : Stand p l e ({ frames := 1, cells := 0, slots := 0, locals := 15 } : Room) s m #[(.ref o0), (.ref o1), (.int p2)] below meth c s₁ [] 0 0 := Stand.of_body Bd
  have e0 : s₁.heap = h0 := by rw [← hh, Bd.state]; rfl
  have N0 := Fr.nil n0
  have pre0 : ∀ t, Steps p.tables e below (s₁.setTop (mkF m 0 #[.val (.ref o0), .val (.ref o1), .val (.int p2)] [])) t → Steps p.tables e below (s₁.setTop (entryFrame m #[(.ref o0), (.ref o1), (.int p2)] 3)) t := fun t k => castTop (ef_9 m o0 o1 p2) k
  obtain ⟨_, _, ⟨T1, L1, k1, n1⟩, -, X1, ⟨Lc1, hQ1, l1, y1, z1⟩, st1⟩ := Jvm.LawKit.callS X0 hx (y := (⟨"com/example/corvid/corvid/ByteWriterToByteArrayPinLaw", "at", "([B[BII)Z"⟩ : MethodName)) hown (mvT hZ (hw _ (List.mem_of_getElem? (i := 49) rfl))) (mvT hZ (hw _ (List.mem_of_getElem? (i := 50) rfl))) (mvT hZ (hw _ (List.mem_of_getElem? (i := 47) rfl))) (mvT hZ (hw _ (List.mem_of_getElem? (i := 51) rfl))) (by decide) (backOf (W := 0) (rm10 l Z a0 hw [] o0 o1 p2 (0 : Int32) z0 F0 z1 G0 h0 n0 Z0 V_o0 V_o1 (hz) (by decide)) hZ (hw _ (List.mem_of_getElem? (i := 51) rfl)) (hw _ (List.mem_of_getElem? (i := 47) rfl)) (by decide) (by decide)) (g := (mkF m 4 #[.val (.ref o0), .val (.ref o1), .val (.int p2)] [(.int (0 : Int32)), (.int p2), (.ref o1), (.ref o0)])) rfl (by rw [hml]; rfl) (argsL := [(.ref o0), (.ref o1), (.int p2), (.int (0 : Int32))]) (rest := []) (lenOf pd_9_0 rfl) rfl (by show 2 * 0 + _ ≤ _; exact Nat.le_of_eq rfl) (hb hby d9_4) (fun _ _ => ⟨rfl, e0, (by decide : 0 + 0 ≤ _), (by decide : 0 + 0 ≤ _)⟩)
  dsimp only [Pt.U, Pt.locs, Pt.cells, Pt.slots] at X1 l1 y1 z1 st1 hQ1
  subst l1 y1 z1
  obtain ⟨rfl, N1q, e1q⟩ := hQ1
  have N1 := Fr.app N0 N1q
  have pre2 : ∀ t, Steps p.tables e below (T1.setTop (mkF m 7 #[.val (.ref o0), .val (.ref o1), .val (.int p2)] [(.int (f10 p2 (0 : Int32) F0 G0))])) t → Steps p.tables e below (s₁.setTop (entryFrame m #[(.ref o0), (.ref o1), (.int p2)] 3)) t := fun t kt => pre0 t (by
      show Steps p.tables e below (s₁.setTop (mkF m 0 #[.val (.ref o0), .val (.ref o1), .val (.int p2)] [])) _
      refine XS.aloadN X0.here hx rfl (hb hby d9_0) rfl rfl ?_
      show Steps p.tables e below (s₁.setTop (mkF m 1 #[.val (.ref o0), .val (.ref o1), .val (.int p2)] [(.ref o0)])) _
      refine XS.aloadN X0.here hx rfl (hb hby d9_1) rfl rfl ?_
      show Steps p.tables e below (s₁.setTop (mkF m 2 #[.val (.ref o0), .val (.ref o1), .val (.int p2)] [(.ref o1), (.ref o0)])) _
      refine XS.iloadN X0.here hx rfl (hb hby d9_2) rfl ?_
      show Steps p.tables e below (s₁.setTop (mkF m 3 #[.val (.ref o0), .val (.ref o1), .val (.int p2)] [(.int p2), (.ref o1), (.ref o0)])) _
      refine XS.iconst X0.here hx rfl (hb hby d9_3) ?_
      show Steps p.tables e below (s₁.setTop (mkF m 4 #[.val (.ref o0), .val (.ref o1), .val (.int p2)] [(.int (0 : Int32)), (.int p2), (.ref o1), (.ref o0)])) _
      refine st1 _ ?_
      exact kt)
  by_cases hc7_3 : (f10 p2 (0 : Int32) F0 G0) = (0 : Int32)
  · obtain ⟨fs, hr, hrun, hended, hW, hsame⟩ := X1.leave (v := some (.int (0 : Int32))) (fun h => by rw [Bd.returns] at h; cases h)
    have hv22 : (f9 p2 F0 G0) = (0 : Int32) := by rw [f9, if_pos hc7_3]
    refine ⟨_, _, pre2 _ ?_, hrun, hended, _, _, rfl, ?_, ⟨_, rfl⟩, hW, hsame.mono (by decide) (by decide)⟩
    · show Steps p.tables e below (T1.setTop (mkF m 7 #[.val (.ref o0), .val (.ref o1), .val (.int p2)] [(.int (f10 p2 (0 : Int32) F0 G0))])) _
      refine XS.ifYes X1.here hx rfl (pc0 := 7) (pc' := 75) rfl (hb hby d9_7) rfl ((if0 _ _).trans (teq hc7_3).1) (by decide) (by decide) ?_
      show Steps p.tables e below (T1.setTop (mkF m 75 #[.val (.ref o0), .val (.ref o1), .val (.int p2)] [])) _
      refine XS.iconst X1.here hx rfl (hb hby d9_75) ?_
      show Steps p.tables e below (T1.setTop (mkF m 76 #[.val (.ref o0), .val (.ref o1), .val (.int p2)] [(.int (0 : Int32))])) _
      exact retN X1 hx (t := .boolean) Bd.returns (by simp) (hb hby d9_76) hr
    · show Q9 Z o0 o1 p2 z0 F0 z1 G0 h0 n0 _ T1.heap _
      rw [e1q]
      exact ⟨congrArg (fun q => some (Value.int q)) hv22.symm, N1, rfl⟩
  · obtain ⟨_, _, ⟨T4, L4, k4, n4⟩, -, X4, ⟨Lc4, hQ4, l4, y4, z4⟩, st4⟩ := Jvm.LawKit.callS X1 hx (y := (⟨"com/example/corvid/corvid/ByteWriterToByteArrayPinLaw", "at", "([B[BII)Z"⟩ : MethodName)) hown (mvT hZ (hw _ (List.mem_of_getElem? (i := 49) rfl))) (mvT hZ (hw _ (List.mem_of_getElem? (i := 50) rfl))) (mvT hZ (hw _ (List.mem_of_getElem? (i := 47) rfl))) (mvT hZ (hw _ (List.mem_of_getElem? (i := 51) rfl))) (by decide) (backOf (W := 0) (rm10 l Z a0 hw [] o0 o1 p2 (1 : Int32) z0 F0 z1 G0 h0 n0 Z0 V_o0 V_o1 (hz) (by decide)) hZ (hw _ (List.mem_of_getElem? (i := 51) rfl)) (hw _ (List.mem_of_getElem? (i := 47) rfl)) (by decide) (by decide)) (g := (mkF m 14 #[.val (.ref o0), .val (.ref o1), .val (.int p2)] [(.int (1 : Int32)), (.int p2), (.ref o1), (.ref o0)])) rfl (by rw [hml]; rfl) (argsL := [(.ref o0), (.ref o1), (.int p2), (.int (1 : Int32))]) (rest := []) (lenOf pd_9_0 rfl) rfl (by show 2 * 0 + _ ≤ _; exact Nat.le_of_eq rfl) (hb hby d9_14) (fun _ _ => ⟨rfl, e1q, (by decide : 0 + 0 ≤ _), (by decide : 0 + 0 ≤ _)⟩)
    dsimp only [Pt.U, Pt.locs, Pt.cells, Pt.slots] at X4 l4 y4 z4 st4 hQ4
    subst l4 y4 z4
    obtain ⟨rfl, N4q, e4q⟩ := hQ4
    have N4 := Fr.app N1 N4q
    have pre5 : ∀ t, Steps p.tables e below (T4.setTop (mkF m 17 #[.val (.ref o0), .val (.ref o1), .val (.int p2)] [(.int (f10 p2 (1 : Int32) F0 G0))])) t → Steps p.tables e below (s₁.setTop (entryFrame m #[(.ref o0), (.ref o1), (.int p2)] 3)) t := fun t kt => pre2 t (by
        show Steps p.tables e below (T1.setTop (mkF m 7 #[.val (.ref o0), .val (.ref o1), .val (.int p2)] [(.int (f10 p2 (0 : Int32) F0 G0))])) _
        refine XS.ifNo X1.here hx rfl (hb hby d9_7) rfl ((if0 _ _).trans (feq hc7_3).1) ?_
        show Steps p.tables e below (T1.setTop (mkF m 10 #[.val (.ref o0), .val (.ref o1), .val (.int p2)] [])) _
        refine XS.aloadN X1.here hx rfl (hb hby d9_10) rfl rfl ?_
        show Steps p.tables e below (T1.setTop (mkF m 11 #[.val (.ref o0), .val (.ref o1), .val (.int p2)] [(.ref o0)])) _
        refine XS.aloadN X1.here hx rfl (hb hby d9_11) rfl rfl ?_
        show Steps p.tables e below (T1.setTop (mkF m 12 #[.val (.ref o0), .val (.ref o1), .val (.int p2)] [(.ref o1), (.ref o0)])) _
        refine XS.iloadN X1.here hx rfl (hb hby d9_12) rfl ?_
        show Steps p.tables e below (T1.setTop (mkF m 13 #[.val (.ref o0), .val (.ref o1), .val (.int p2)] [(.int p2), (.ref o1), (.ref o0)])) _
        refine XS.iconst X1.here hx rfl (hb hby d9_13) ?_
        show Steps p.tables e below (T1.setTop (mkF m 14 #[.val (.ref o0), .val (.ref o1), .val (.int p2)] [(.int (1 : Int32)), (.int p2), (.ref o1), (.ref o0)])) _
        refine st4 _ ?_
        exact kt)
    by_cases hc17_6 : (f10 p2 (1 : Int32) F0 G0) = (0 : Int32)
    · obtain ⟨fs, hr, hrun, hended, hW, hsame⟩ := X4.leave (v := some (.int (0 : Int32))) (fun h => by rw [Bd.returns] at h; cases h)
      have hv23 : (f9 p2 F0 G0) = (0 : Int32) := by rw [f9, if_neg hc7_3, if_pos hc17_6]
      refine ⟨_, _, pre5 _ ?_, hrun, hended, _, _, rfl, ?_, ⟨_, rfl⟩, hW, hsame.mono (by decide) (by decide)⟩
      · show Steps p.tables e below (T4.setTop (mkF m 17 #[.val (.ref o0), .val (.ref o1), .val (.int p2)] [(.int (f10 p2 (1 : Int32) F0 G0))])) _
        refine XS.ifYes X4.here hx rfl (pc0 := 17) (pc' := 75) rfl (hb hby d9_17) rfl ((if0 _ _).trans (teq hc17_6).1) (by decide) (by decide) ?_
        show Steps p.tables e below (T4.setTop (mkF m 75 #[.val (.ref o0), .val (.ref o1), .val (.int p2)] [])) _
        refine XS.iconst X4.here hx rfl (hb hby d9_75) ?_
        show Steps p.tables e below (T4.setTop (mkF m 76 #[.val (.ref o0), .val (.ref o1), .val (.int p2)] [(.int (0 : Int32))])) _
        exact retN X4 hx (t := .boolean) Bd.returns (by simp) (hb hby d9_76) hr
      · show Q9 Z o0 o1 p2 z0 F0 z1 G0 h0 n0 _ T4.heap _
        rw [e4q]
        exact ⟨congrArg (fun q => some (Value.int q)) hv23.symm, N4, rfl⟩
    · obtain ⟨_, _, ⟨T7, L7, k7, n7⟩, -, X7, ⟨Lc7, hQ7, l7, y7, z7⟩, st7⟩ := Jvm.LawKit.callS X4 hx (y := (⟨"com/example/corvid/corvid/ByteWriterToByteArrayPinLaw", "at", "([B[BII)Z"⟩ : MethodName)) hown (mvT hZ (hw _ (List.mem_of_getElem? (i := 49) rfl))) (mvT hZ (hw _ (List.mem_of_getElem? (i := 50) rfl))) (mvT hZ (hw _ (List.mem_of_getElem? (i := 47) rfl))) (mvT hZ (hw _ (List.mem_of_getElem? (i := 51) rfl))) (by decide) (backOf (W := 0) (rm10 l Z a0 hw [] o0 o1 p2 (2 : Int32) z0 F0 z1 G0 h0 n0 Z0 V_o0 V_o1 (hz) (by decide)) hZ (hw _ (List.mem_of_getElem? (i := 51) rfl)) (hw _ (List.mem_of_getElem? (i := 47) rfl)) (by decide) (by decide)) (g := (mkF m 24 #[.val (.ref o0), .val (.ref o1), .val (.int p2)] [(.int (2 : Int32)), (.int p2), (.ref o1), (.ref o0)])) rfl (by rw [hml]; rfl) (argsL := [(.ref o0), (.ref o1), (.int p2), (.int (2 : Int32))]) (rest := []) (lenOf pd_9_0 rfl) rfl (by show 2 * 0 + _ ≤ _; exact Nat.le_of_eq rfl) (hb hby d9_24) (fun _ _ => ⟨rfl, e4q, (by decide : 0 + 0 ≤ _), (by decide : 0 + 0 ≤ _)⟩)
      dsimp only [Pt.U, Pt.locs, Pt.cells, Pt.slots] at X7 l7 y7 z7 st7 hQ7
      subst l7 y7 z7
      obtain ⟨rfl, N7q, e7q⟩ := hQ7
      have N7 := Fr.app N4 N7q
      have pre8 : ∀ t, Steps p.tables e below (T7.setTop (mkF m 27 #[.val (.ref o0), .val (.ref o1), .val (.int p2)] [(.int (f10 p2 (2 : Int32) F0 G0))])) t → Steps p.tables e below (s₁.setTop (entryFrame m #[(.ref o0), (.ref o1), (.int p2)] 3)) t := fun t kt => pre5 t (by
          show Steps p.tables e below (T4.setTop (mkF m 17 #[.val (.ref o0), .val (.ref o1), .val (.int p2)] [(.int (f10 p2 (1 : Int32) F0 G0))])) _
          refine XS.ifNo X4.here hx rfl (hb hby d9_17) rfl ((if0 _ _).trans (feq hc17_6).1) ?_
          show Steps p.tables e below (T4.setTop (mkF m 20 #[.val (.ref o0), .val (.ref o1), .val (.int p2)] [])) _
          refine XS.aloadN X4.here hx rfl (hb hby d9_20) rfl rfl ?_
          show Steps p.tables e below (T4.setTop (mkF m 21 #[.val (.ref o0), .val (.ref o1), .val (.int p2)] [(.ref o0)])) _
          refine XS.aloadN X4.here hx rfl (hb hby d9_21) rfl rfl ?_
          show Steps p.tables e below (T4.setTop (mkF m 22 #[.val (.ref o0), .val (.ref o1), .val (.int p2)] [(.ref o1), (.ref o0)])) _
          refine XS.iloadN X4.here hx rfl (hb hby d9_22) rfl ?_
          show Steps p.tables e below (T4.setTop (mkF m 23 #[.val (.ref o0), .val (.ref o1), .val (.int p2)] [(.int p2), (.ref o1), (.ref o0)])) _
          refine XS.iconst X4.here hx rfl (hb hby d9_23) ?_
          show Steps p.tables e below (T4.setTop (mkF m 24 #[.val (.ref o0), .val (.ref o1), .val (.int p2)] [(.int (2 : Int32)), (.int p2), (.ref o1), (.ref o0)])) _
          refine st7 _ ?_
          exact kt)
      by_cases hc27_9 : (f10 p2 (2 : Int32) F0 G0) = (0 : Int32)
      · obtain ⟨fs, hr, hrun, hended, hW, hsame⟩ := X7.leave (v := some (.int (0 : Int32))) (fun h => by rw [Bd.returns] at h; cases h)
        have hv24 : (f9 p2 F0 G0) = (0 : Int32) := by rw [f9, if_neg hc7_3, if_neg hc17_6, if_pos hc27_9]
        refine ⟨_, _, pre8 _ ?_, hrun, hended, _, _, rfl, ?_, ⟨_, rfl⟩, hW, hsame.mono (by decide) (by decide)⟩
        · show Steps p.tables e below (T7.setTop (mkF m 27 #[.val (.ref o0), .val (.ref o1), .val (.int p2)] [(.int (f10 p2 (2 : Int32) F0 G0))])) _
          refine XS.ifYes X7.here hx rfl (pc0 := 27) (pc' := 75) rfl (hb hby d9_27) rfl ((if0 _ _).trans (teq hc27_9).1) (by decide) (by decide) ?_
          show Steps p.tables e below (T7.setTop (mkF m 75 #[.val (.ref o0), .val (.ref o1), .val (.int p2)] [])) _
          refine XS.iconst X7.here hx rfl (hb hby d9_75) ?_
          show Steps p.tables e below (T7.setTop (mkF m 76 #[.val (.ref o0), .val (.ref o1), .val (.int p2)] [(.int (0 : Int32))])) _
          exact retN X7 hx (t := .boolean) Bd.returns (by simp) (hb hby d9_76) hr
        · show Q9 Z o0 o1 p2 z0 F0 z1 G0 h0 n0 _ T7.heap _
          rw [e7q]
          exact ⟨congrArg (fun q => some (Value.int q)) hv24.symm, N7, rfl⟩
      · obtain ⟨_, _, ⟨T10, L10, k10, n10⟩, -, X10, ⟨Lc10, hQ10, l10, y10, z10⟩, st10⟩ := Jvm.LawKit.callS X7 hx (y := (⟨"com/example/corvid/corvid/ByteWriterToByteArrayPinLaw", "at", "([B[BII)Z"⟩ : MethodName)) hown (mvT hZ (hw _ (List.mem_of_getElem? (i := 49) rfl))) (mvT hZ (hw _ (List.mem_of_getElem? (i := 50) rfl))) (mvT hZ (hw _ (List.mem_of_getElem? (i := 47) rfl))) (mvT hZ (hw _ (List.mem_of_getElem? (i := 51) rfl))) (by decide) (backOf (W := 0) (rm10 l Z a0 hw [] o0 o1 p2 (3 : Int32) z0 F0 z1 G0 h0 n0 Z0 V_o0 V_o1 (hz) (by decide)) hZ (hw _ (List.mem_of_getElem? (i := 51) rfl)) (hw _ (List.mem_of_getElem? (i := 47) rfl)) (by decide) (by decide)) (g := (mkF m 34 #[.val (.ref o0), .val (.ref o1), .val (.int p2)] [(.int (3 : Int32)), (.int p2), (.ref o1), (.ref o0)])) rfl (by rw [hml]; rfl) (argsL := [(.ref o0), (.ref o1), (.int p2), (.int (3 : Int32))]) (rest := []) (lenOf pd_9_0 rfl) rfl (by show 2 * 0 + _ ≤ _; exact Nat.le_of_eq rfl) (hb hby d9_34) (fun _ _ => ⟨rfl, e7q, (by decide : 0 + 0 ≤ _), (by decide : 0 + 0 ≤ _)⟩)
        dsimp only [Pt.U, Pt.locs, Pt.cells, Pt.slots] at X10 l10 y10 z10 st10 hQ10
        subst l10 y10 z10
        obtain ⟨rfl, N10q, e10q⟩ := hQ10
        have N10 := Fr.app N7 N10q
        have pre11 : ∀ t, Steps p.tables e below (T10.setTop (mkF m 37 #[.val (.ref o0), .val (.ref o1), .val (.int p2)] [(.int (f10 p2 (3 : Int32) F0 G0))])) t → Steps p.tables e below (s₁.setTop (entryFrame m #[(.ref o0), (.ref o1), (.int p2)] 3)) t := fun t kt => pre8 t (by
            show Steps p.tables e below (T7.setTop (mkF m 27 #[.val (.ref o0), .val (.ref o1), .val (.int p2)] [(.int (f10 p2 (2 : Int32) F0 G0))])) _
            refine XS.ifNo X7.here hx rfl (hb hby d9_27) rfl ((if0 _ _).trans (feq hc27_9).1) ?_
            show Steps p.tables e below (T7.setTop (mkF m 30 #[.val (.ref o0), .val (.ref o1), .val (.int p2)] [])) _
            refine XS.aloadN X7.here hx rfl (hb hby d9_30) rfl rfl ?_
            show Steps p.tables e below (T7.setTop (mkF m 31 #[.val (.ref o0), .val (.ref o1), .val (.int p2)] [(.ref o0)])) _
            refine XS.aloadN X7.here hx rfl (hb hby d9_31) rfl rfl ?_
            show Steps p.tables e below (T7.setTop (mkF m 32 #[.val (.ref o0), .val (.ref o1), .val (.int p2)] [(.ref o1), (.ref o0)])) _
            refine XS.iloadN X7.here hx rfl (hb hby d9_32) rfl ?_
            show Steps p.tables e below (T7.setTop (mkF m 33 #[.val (.ref o0), .val (.ref o1), .val (.int p2)] [(.int p2), (.ref o1), (.ref o0)])) _
            refine XS.iconst X7.here hx rfl (hb hby d9_33) ?_
            show Steps p.tables e below (T7.setTop (mkF m 34 #[.val (.ref o0), .val (.ref o1), .val (.int p2)] [(.int (3 : Int32)), (.int p2), (.ref o1), (.ref o0)])) _
            refine st10 _ ?_
            exact kt)
        by_cases hc37_12 : (f10 p2 (3 : Int32) F0 G0) = (0 : Int32)
        · obtain ⟨fs, hr, hrun, hended, hW, hsame⟩ := X10.leave (v := some (.int (0 : Int32))) (fun h => by rw [Bd.returns] at h; cases h)
          have hv25 : (f9 p2 F0 G0) = (0 : Int32) := by rw [f9, if_neg hc7_3, if_neg hc17_6, if_neg hc27_9, if_pos hc37_12]
          refine ⟨_, _, pre11 _ ?_, hrun, hended, _, _, rfl, ?_, ⟨_, rfl⟩, hW, hsame.mono (by decide) (by decide)⟩
          · show Steps p.tables e below (T10.setTop (mkF m 37 #[.val (.ref o0), .val (.ref o1), .val (.int p2)] [(.int (f10 p2 (3 : Int32) F0 G0))])) _
            refine XS.ifYes X10.here hx rfl (pc0 := 37) (pc' := 75) rfl (hb hby d9_37) rfl ((if0 _ _).trans (teq hc37_12).1) (by decide) (by decide) ?_
            show Steps p.tables e below (T10.setTop (mkF m 75 #[.val (.ref o0), .val (.ref o1), .val (.int p2)] [])) _
            refine XS.iconst X10.here hx rfl (hb hby d9_75) ?_
            show Steps p.tables e below (T10.setTop (mkF m 76 #[.val (.ref o0), .val (.ref o1), .val (.int p2)] [(.int (0 : Int32))])) _
            exact retN X10 hx (t := .boolean) Bd.returns (by simp) (hb hby d9_76) hr
          · show Q9 Z o0 o1 p2 z0 F0 z1 G0 h0 n0 _ T10.heap _
            rw [e10q]
            exact ⟨congrArg (fun q => some (Value.int q)) hv25.symm, N10, rfl⟩
        · obtain ⟨_, _, ⟨T13, L13, k13, n13⟩, -, X13, ⟨Lc13, hQ13, l13, y13, z13⟩, st13⟩ := Jvm.LawKit.callS X10 hx (y := (⟨"com/example/corvid/corvid/ByteWriterToByteArrayPinLaw", "at", "([B[BII)Z"⟩ : MethodName)) hown (mvT hZ (hw _ (List.mem_of_getElem? (i := 49) rfl))) (mvT hZ (hw _ (List.mem_of_getElem? (i := 50) rfl))) (mvT hZ (hw _ (List.mem_of_getElem? (i := 47) rfl))) (mvT hZ (hw _ (List.mem_of_getElem? (i := 51) rfl))) (by decide) (backOf (W := 0) (rm10 l Z a0 hw [] o0 o1 p2 (4 : Int32) z0 F0 z1 G0 h0 n0 Z0 V_o0 V_o1 (hz) (by decide)) hZ (hw _ (List.mem_of_getElem? (i := 51) rfl)) (hw _ (List.mem_of_getElem? (i := 47) rfl)) (by decide) (by decide)) (g := (mkF m 44 #[.val (.ref o0), .val (.ref o1), .val (.int p2)] [(.int (4 : Int32)), (.int p2), (.ref o1), (.ref o0)])) rfl (by rw [hml]; rfl) (argsL := [(.ref o0), (.ref o1), (.int p2), (.int (4 : Int32))]) (rest := []) (lenOf pd_9_0 rfl) rfl (by show 2 * 0 + _ ≤ _; exact Nat.le_of_eq rfl) (hb hby d9_44) (fun _ _ => ⟨rfl, e10q, (by decide : 0 + 0 ≤ _), (by decide : 0 + 0 ≤ _)⟩)
          dsimp only [Pt.U, Pt.locs, Pt.cells, Pt.slots] at X13 l13 y13 z13 st13 hQ13
          subst l13 y13 z13
          obtain ⟨rfl, N13q, e13q⟩ := hQ13
          have N13 := Fr.app N10 N13q
          have pre14 : ∀ t, Steps p.tables e below (T13.setTop (mkF m 47 #[.val (.ref o0), .val (.ref o1), .val (.int p2)] [(.int (f10 p2 (4 : Int32) F0 G0))])) t → Steps p.tables e below (s₁.setTop (entryFrame m #[(.ref o0), (.ref o1), (.int p2)] 3)) t := fun t kt => pre11 t (by
              show Steps p.tables e below (T10.setTop (mkF m 37 #[.val (.ref o0), .val (.ref o1), .val (.int p2)] [(.int (f10 p2 (3 : Int32) F0 G0))])) _
              refine XS.ifNo X10.here hx rfl (hb hby d9_37) rfl ((if0 _ _).trans (feq hc37_12).1) ?_
              show Steps p.tables e below (T10.setTop (mkF m 40 #[.val (.ref o0), .val (.ref o1), .val (.int p2)] [])) _
              refine XS.aloadN X10.here hx rfl (hb hby d9_40) rfl rfl ?_
              show Steps p.tables e below (T10.setTop (mkF m 41 #[.val (.ref o0), .val (.ref o1), .val (.int p2)] [(.ref o0)])) _
              refine XS.aloadN X10.here hx rfl (hb hby d9_41) rfl rfl ?_
              show Steps p.tables e below (T10.setTop (mkF m 42 #[.val (.ref o0), .val (.ref o1), .val (.int p2)] [(.ref o1), (.ref o0)])) _
              refine XS.iloadN X10.here hx rfl (hb hby d9_42) rfl ?_
              show Steps p.tables e below (T10.setTop (mkF m 43 #[.val (.ref o0), .val (.ref o1), .val (.int p2)] [(.int p2), (.ref o1), (.ref o0)])) _
              refine XS.iconst X10.here hx rfl (hb hby d9_43) ?_
              show Steps p.tables e below (T10.setTop (mkF m 44 #[.val (.ref o0), .val (.ref o1), .val (.int p2)] [(.int (4 : Int32)), (.int p2), (.ref o1), (.ref o0)])) _
              refine st13 _ ?_
              exact kt)
          by_cases hc47_15 : (f10 p2 (4 : Int32) F0 G0) = (0 : Int32)
          · obtain ⟨fs, hr, hrun, hended, hW, hsame⟩ := X13.leave (v := some (.int (0 : Int32))) (fun h => by rw [Bd.returns] at h; cases h)
            have hv26 : (f9 p2 F0 G0) = (0 : Int32) := by rw [f9, if_neg hc7_3, if_neg hc17_6, if_neg hc27_9, if_neg hc37_12, if_pos hc47_15]
            refine ⟨_, _, pre14 _ ?_, hrun, hended, _, _, rfl, ?_, ⟨_, rfl⟩, hW, hsame.mono (by decide) (by decide)⟩
            · show Steps p.tables e below (T13.setTop (mkF m 47 #[.val (.ref o0), .val (.ref o1), .val (.int p2)] [(.int (f10 p2 (4 : Int32) F0 G0))])) _
              refine XS.ifYes X13.here hx rfl (pc0 := 47) (pc' := 75) rfl (hb hby d9_47) rfl ((if0 _ _).trans (teq hc47_15).1) (by decide) (by decide) ?_
              show Steps p.tables e below (T13.setTop (mkF m 75 #[.val (.ref o0), .val (.ref o1), .val (.int p2)] [])) _
              refine XS.iconst X13.here hx rfl (hb hby d9_75) ?_
              show Steps p.tables e below (T13.setTop (mkF m 76 #[.val (.ref o0), .val (.ref o1), .val (.int p2)] [(.int (0 : Int32))])) _
              exact retN X13 hx (t := .boolean) Bd.returns (by simp) (hb hby d9_76) hr
            · show Q9 Z o0 o1 p2 z0 F0 z1 G0 h0 n0 _ T13.heap _
              rw [e13q]
              exact ⟨congrArg (fun q => some (Value.int q)) hv26.symm, N13, rfl⟩
          · obtain ⟨_, _, ⟨T16, L16, k16, n16⟩, -, X16, ⟨Lc16, hQ16, l16, y16, z16⟩, st16⟩ := Jvm.LawKit.callS X13 hx (y := (⟨"com/example/corvid/corvid/ByteWriterToByteArrayPinLaw", "at", "([B[BII)Z"⟩ : MethodName)) hown (mvT hZ (hw _ (List.mem_of_getElem? (i := 49) rfl))) (mvT hZ (hw _ (List.mem_of_getElem? (i := 50) rfl))) (mvT hZ (hw _ (List.mem_of_getElem? (i := 47) rfl))) (mvT hZ (hw _ (List.mem_of_getElem? (i := 51) rfl))) (by decide) (backOf (W := 0) (rm10 l Z a0 hw [] o0 o1 p2 (5 : Int32) z0 F0 z1 G0 h0 n0 Z0 V_o0 V_o1 (hz) (by decide)) hZ (hw _ (List.mem_of_getElem? (i := 51) rfl)) (hw _ (List.mem_of_getElem? (i := 47) rfl)) (by decide) (by decide)) (g := (mkF m 54 #[.val (.ref o0), .val (.ref o1), .val (.int p2)] [(.int (5 : Int32)), (.int p2), (.ref o1), (.ref o0)])) rfl (by rw [hml]; rfl) (argsL := [(.ref o0), (.ref o1), (.int p2), (.int (5 : Int32))]) (rest := []) (lenOf pd_9_0 rfl) rfl (by show 2 * 0 + _ ≤ _; exact Nat.le_of_eq rfl) (hb hby d9_54) (fun _ _ => ⟨rfl, e13q, (by decide : 0 + 0 ≤ _), (by decide : 0 + 0 ≤ _)⟩)
            dsimp only [Pt.U, Pt.locs, Pt.cells, Pt.slots] at X16 l16 y16 z16 st16 hQ16
            subst l16 y16 z16
            obtain ⟨rfl, N16q, e16q⟩ := hQ16
            have N16 := Fr.app N13 N16q
            have pre17 : ∀ t, Steps p.tables e below (T16.setTop (mkF m 57 #[.val (.ref o0), .val (.ref o1), .val (.int p2)] [(.int (f10 p2 (5 : Int32) F0 G0))])) t → Steps p.tables e below (s₁.setTop (entryFrame m #[(.ref o0), (.ref o1), (.int p2)] 3)) t := fun t kt => pre14 t (by
                show Steps p.tables e below (T13.setTop (mkF m 47 #[.val (.ref o0), .val (.ref o1), .val (.int p2)] [(.int (f10 p2 (4 : Int32) F0 G0))])) _
                refine XS.ifNo X13.here hx rfl (hb hby d9_47) rfl ((if0 _ _).trans (feq hc47_15).1) ?_
                show Steps p.tables e below (T13.setTop (mkF m 50 #[.val (.ref o0), .val (.ref o1), .val (.int p2)] [])) _
                refine XS.aloadN X13.here hx rfl (hb hby d9_50) rfl rfl ?_
                show Steps p.tables e below (T13.setTop (mkF m 51 #[.val (.ref o0), .val (.ref o1), .val (.int p2)] [(.ref o0)])) _
                refine XS.aloadN X13.here hx rfl (hb hby d9_51) rfl rfl ?_
                show Steps p.tables e below (T13.setTop (mkF m 52 #[.val (.ref o0), .val (.ref o1), .val (.int p2)] [(.ref o1), (.ref o0)])) _
                refine XS.iloadN X13.here hx rfl (hb hby d9_52) rfl ?_
                show Steps p.tables e below (T13.setTop (mkF m 53 #[.val (.ref o0), .val (.ref o1), .val (.int p2)] [(.int p2), (.ref o1), (.ref o0)])) _
                refine XS.iconst X13.here hx rfl (hb hby d9_53) ?_
                show Steps p.tables e below (T13.setTop (mkF m 54 #[.val (.ref o0), .val (.ref o1), .val (.int p2)] [(.int (5 : Int32)), (.int p2), (.ref o1), (.ref o0)])) _
                refine st16 _ ?_
                exact kt)
            by_cases hc57_18 : (f10 p2 (5 : Int32) F0 G0) = (0 : Int32)
            · obtain ⟨fs, hr, hrun, hended, hW, hsame⟩ := X16.leave (v := some (.int (0 : Int32))) (fun h => by rw [Bd.returns] at h; cases h)
              have hv27 : (f9 p2 F0 G0) = (0 : Int32) := by rw [f9, if_neg hc7_3, if_neg hc17_6, if_neg hc27_9, if_neg hc37_12, if_neg hc47_15, if_pos hc57_18]
              refine ⟨_, _, pre17 _ ?_, hrun, hended, _, _, rfl, ?_, ⟨_, rfl⟩, hW, hsame.mono (by decide) (by decide)⟩
              · show Steps p.tables e below (T16.setTop (mkF m 57 #[.val (.ref o0), .val (.ref o1), .val (.int p2)] [(.int (f10 p2 (5 : Int32) F0 G0))])) _
                refine XS.ifYes X16.here hx rfl (pc0 := 57) (pc' := 75) rfl (hb hby d9_57) rfl ((if0 _ _).trans (teq hc57_18).1) (by decide) (by decide) ?_
                show Steps p.tables e below (T16.setTop (mkF m 75 #[.val (.ref o0), .val (.ref o1), .val (.int p2)] [])) _
                refine XS.iconst X16.here hx rfl (hb hby d9_75) ?_
                show Steps p.tables e below (T16.setTop (mkF m 76 #[.val (.ref o0), .val (.ref o1), .val (.int p2)] [(.int (0 : Int32))])) _
                exact retN X16 hx (t := .boolean) Bd.returns (by simp) (hb hby d9_76) hr
              · show Q9 Z o0 o1 p2 z0 F0 z1 G0 h0 n0 _ T16.heap _
                rw [e16q]
                exact ⟨congrArg (fun q => some (Value.int q)) hv27.symm, N16, rfl⟩
            · obtain ⟨_, _, ⟨T19, L19, k19, n19⟩, -, X19, ⟨Lc19, hQ19, l19, y19, z19⟩, st19⟩ := Jvm.LawKit.callS X16 hx (y := (⟨"com/example/corvid/corvid/ByteWriterToByteArrayPinLaw", "at", "([B[BII)Z"⟩ : MethodName)) hown (mvT hZ (hw _ (List.mem_of_getElem? (i := 49) rfl))) (mvT hZ (hw _ (List.mem_of_getElem? (i := 50) rfl))) (mvT hZ (hw _ (List.mem_of_getElem? (i := 47) rfl))) (mvT hZ (hw _ (List.mem_of_getElem? (i := 51) rfl))) (by decide) (backOf (W := 0) (rm10 l Z a0 hw [] o0 o1 p2 (6 : Int32) z0 F0 z1 G0 h0 n0 Z0 V_o0 V_o1 (hz) (by decide)) hZ (hw _ (List.mem_of_getElem? (i := 51) rfl)) (hw _ (List.mem_of_getElem? (i := 47) rfl)) (by decide) (by decide)) (g := (mkF m 65 #[.val (.ref o0), .val (.ref o1), .val (.int p2)] [(.int (6 : Int32)), (.int p2), (.ref o1), (.ref o0)])) rfl (by rw [hml]; rfl) (argsL := [(.ref o0), (.ref o1), (.int p2), (.int (6 : Int32))]) (rest := []) (lenOf pd_9_0 rfl) rfl (by show 2 * 0 + _ ≤ _; exact Nat.le_of_eq rfl) (hb hby d9_65) (fun _ _ => ⟨rfl, e16q, (by decide : 0 + 0 ≤ _), (by decide : 0 + 0 ≤ _)⟩)
              dsimp only [Pt.U, Pt.locs, Pt.cells, Pt.slots] at X19 l19 y19 z19 st19 hQ19
              subst l19 y19 z19
              obtain ⟨rfl, N19q, e19q⟩ := hQ19
              have N19 := Fr.app N16 N19q
              have pre20 : ∀ t, Steps p.tables e below (T19.setTop (mkF m 68 #[.val (.ref o0), .val (.ref o1), .val (.int p2)] [(.int (f10 p2 (6 : Int32) F0 G0))])) t → Steps p.tables e below (s₁.setTop (entryFrame m #[(.ref o0), (.ref o1), (.int p2)] 3)) t := fun t kt => pre17 t (by
                  show Steps p.tables e below (T16.setTop (mkF m 57 #[.val (.ref o0), .val (.ref o1), .val (.int p2)] [(.int (f10 p2 (5 : Int32) F0 G0))])) _
                  refine XS.ifNo X16.here hx rfl (hb hby d9_57) rfl ((if0 _ _).trans (feq hc57_18).1) ?_
                  show Steps p.tables e below (T16.setTop (mkF m 60 #[.val (.ref o0), .val (.ref o1), .val (.int p2)] [])) _
                  refine XS.aloadN X16.here hx rfl (hb hby d9_60) rfl rfl ?_
                  show Steps p.tables e below (T16.setTop (mkF m 61 #[.val (.ref o0), .val (.ref o1), .val (.int p2)] [(.ref o0)])) _
                  refine XS.aloadN X16.here hx rfl (hb hby d9_61) rfl rfl ?_
                  show Steps p.tables e below (T16.setTop (mkF m 62 #[.val (.ref o0), .val (.ref o1), .val (.int p2)] [(.ref o1), (.ref o0)])) _
                  refine XS.iloadN X16.here hx rfl (hb hby d9_62) rfl ?_
                  show Steps p.tables e below (T16.setTop (mkF m 63 #[.val (.ref o0), .val (.ref o1), .val (.int p2)] [(.int p2), (.ref o1), (.ref o0)])) _
                  refine XS.bipush X16.here hx rfl (hb hby d9_63) ?_
                  show Steps p.tables e below (T16.setTop (mkF m 65 #[.val (.ref o0), .val (.ref o1), .val (.int p2)] [(.int (6 : Int32)), (.int p2), (.ref o1), (.ref o0)])) _
                  refine st19 _ ?_
                  exact kt)
              by_cases hc68_21 : (f10 p2 (6 : Int32) F0 G0) = (0 : Int32)
              · obtain ⟨fs, hr, hrun, hended, hW, hsame⟩ := X19.leave (v := some (.int (0 : Int32))) (fun h => by rw [Bd.returns] at h; cases h)
                have hv28 : (f9 p2 F0 G0) = (0 : Int32) := by rw [f9, if_neg hc7_3, if_neg hc17_6, if_neg hc27_9, if_neg hc37_12, if_neg hc47_15, if_neg hc57_18, if_pos hc68_21]
                refine ⟨_, _, pre20 _ ?_, hrun, hended, _, _, rfl, ?_, ⟨_, rfl⟩, hW, hsame.mono (by decide) (by decide)⟩
                · show Steps p.tables e below (T19.setTop (mkF m 68 #[.val (.ref o0), .val (.ref o1), .val (.int p2)] [(.int (f10 p2 (6 : Int32) F0 G0))])) _
                  refine XS.ifYes X19.here hx rfl (pc0 := 68) (pc' := 75) rfl (hb hby d9_68) rfl ((if0 _ _).trans (teq hc68_21).1) (by decide) (by decide) ?_
                  show Steps p.tables e below (T19.setTop (mkF m 75 #[.val (.ref o0), .val (.ref o1), .val (.int p2)] [])) _
                  refine XS.iconst X19.here hx rfl (hb hby d9_75) ?_
                  show Steps p.tables e below (T19.setTop (mkF m 76 #[.val (.ref o0), .val (.ref o1), .val (.int p2)] [(.int (0 : Int32))])) _
                  exact retN X19 hx (t := .boolean) Bd.returns (by simp) (hb hby d9_76) hr
                · show Q9 Z o0 o1 p2 z0 F0 z1 G0 h0 n0 _ T19.heap _
                  rw [e19q]
                  exact ⟨congrArg (fun q => some (Value.int q)) hv28.symm, N19, rfl⟩
              · obtain ⟨fs, hr, hrun, hended, hW, hsame⟩ := X19.leave (v := some (.int (1 : Int32))) (fun h => by rw [Bd.returns] at h; cases h)
                have hv29 : (f9 p2 F0 G0) = (1 : Int32) := by rw [f9, if_neg hc7_3, if_neg hc17_6, if_neg hc27_9, if_neg hc37_12, if_neg hc47_15, if_neg hc57_18, if_neg hc68_21]
                refine ⟨_, _, pre20 _ ?_, hrun, hended, _, _, rfl, ?_, ⟨_, rfl⟩, hW, hsame.mono (by decide) (by decide)⟩
                · show Steps p.tables e below (T19.setTop (mkF m 68 #[.val (.ref o0), .val (.ref o1), .val (.int p2)] [(.int (f10 p2 (6 : Int32) F0 G0))])) _
                  refine XS.ifNo X19.here hx rfl (hb hby d9_68) rfl ((if0 _ _).trans (feq hc68_21).1) ?_
                  show Steps p.tables e below (T19.setTop (mkF m 71 #[.val (.ref o0), .val (.ref o1), .val (.int p2)] [])) _
                  refine XS.iconst X19.here hx rfl (hb hby d9_71) ?_
                  show Steps p.tables e below (T19.setTop (mkF m 72 #[.val (.ref o0), .val (.ref o1), .val (.int p2)] [(.int (1 : Int32))])) _
                  refine XS.goto X19.here hx rfl (pc0 := 72) (pc' := 76) rfl (hb hby d9_72) (by decide) (by decide) ?_
                  show Steps p.tables e below (T19.setTop (mkF m 76 #[.val (.ref o0), .val (.ref o1), .val (.int p2)] [(.int (1 : Int32))])) _
                  exact retN X19 hx (t := .boolean) Bd.returns (by simp) (hb hby d9_76) hr
                · show Q9 Z o0 o1 p2 z0 F0 z1 G0 h0 n0 _ T19.heap _
                  rw [e19q]
                  exact ⟨congrArg (fun q => some (Value.int q)) hv29.symm, N19, rfl⟩
theorem pn_0 : plainName "com/example/corvid/corvid/ByteWriterToByteArrayPinLaw" = true := by first | (simp [plainName, overriddenIn]; done) | decide +kernel
theorem pd_0_0 : parseMethodDescriptor "()V" = some ⟨[], none⟩ := by decide +kernel
theorem pd_0_1 : parseMethodDescriptor "()[B" = some ⟨[], some (.array .byte)⟩ := by decide +kernel
theorem pd_0_2 : parseMethodDescriptor "([B[BI)Z" = some ⟨[(.array .byte), (.array .byte), .int], some .boolean⟩ := by decide +kernel
theorem pd_0_3 : parseMethodDescriptor "(I)V" = some ⟨[.int], none⟩ := by decide +kernel
theorem pd_0_4 : parseMethodDescriptor "(S)V" = some ⟨[.short], none⟩ := by decide +kernel
theorem ef_0 (m : MethodId) (x0 : Int32) (x1 : Int32) (x2 : Int32) (x3 : Int32) : entryFrame m #[(.int x0), (.int x1), (.int x2), (.int x3)] maxLocals = mkF m 0 #[.val (.int x0), .val (.int x1), .val (.int x2), .val (.int x3), .unset, .unset, .unset, .unset, .unset, .unset, .unset, .unset] [] := by first | (simp [entryFrame, mkF, argsToLocals, Value.category, maxLocals]; done) | rfl
theorem own_v255 (x : Int32) : ¬ (x &&& (255 : Int32)) < (0 : Int32) ∧ ¬ (255 : Int32) < (x &&& (255 : Int32)) := by
  have h : (x &&& 255).toInt = x.toInt % 256 := c_mask x 255 8 (by decide) (by decide)
  have e : (255 : Int32).toInt = 255 := by decide
  have e0 : (0 : Int32).toInt = 0 := by decide
  rw [Int32.lt_iff_toInt_lt, Int32.lt_iff_toInt_lt, e, e0]
  omega
theorem own_b8 {x y : Int32} (h : (x.toInt - y.toInt) % 256 = 0) : nar .byte (x.toInt8.toInt32) = nar .byte (y.toInt8.toInt32) := by
  have h1 := c_i2b x
  have h2 := c_i2b y
  have : x.toInt8.toInt32 = y.toInt8.toInt32 := Int32.toInt_inj.mp (by omega)
  rw [this]
theorem own_y0 (a : Int32) : nar .byte (a.toInt8.toInt32) = nar .byte ((a &&& (255 : Int32)).toInt8.toInt32) := own_b8 (by
  have h : (a &&& 255).toInt = a.toInt % 256 := c_mask a 255 8 (by decide) (by decide)
  rw [h]; omega)
theorem own_yk (a q : Int32) (k : Nat) (P : Int) (hP : P = (2 ^ k : Nat)) (hk : q.toBitVec.toNat % 32 = k) (h0 : 0 < k) (h24 : P = 256 ∨ P = 65536 ∨ P = 16777216) : nar .byte (((a.toUInt32 >>> (q &&& 31).toUInt32).toInt32).toInt8.toInt32) = nar .byte (((a >>> (q &&& 31)) &&& (255 : Int32)).toInt8.toInt32) := own_b8 (by
  have h1 := c_iushr a q k hk h0
  have h2 := c_ishr a q k hk
  have h3 : ((a >>> (q &&& 31)) &&& 255).toInt = (a >>> (q &&& 31)).toInt % 256 := c_mask (a >>> (q &&& 31)) 255 8 (by decide) (by decide)
  rw [h1, h3, h2, ← hP]
  have h4 := rng32 a
  rcases h24 with rfl | rfl | rfl <;> omega)
theorem own_y1 (a : Int32) : nar .byte (((a.toUInt32 >>> ((8 : Int32) &&& 31).toUInt32).toInt32).toInt8.toInt32) = nar .byte (((a >>> ((8 : Int32) &&& 31)) &&& (255 : Int32)).toInt8.toInt32) := own_yk a 8 8 256 (by decide) (by decide) (by decide) (by omega)
theorem own_y2 (a : Int32) : nar .byte (((a.toUInt32 >>> ((16 : Int32) &&& 31).toUInt32).toInt32).toInt8.toInt32) = nar .byte (((a >>> ((16 : Int32) &&& 31)) &&& (255 : Int32)).toInt8.toInt32) := own_yk a 16 16 65536 (by decide) (by decide) (by decide) (by omega)
theorem own_y3 (a : Int32) : nar .byte (((a.toUInt32 >>> ((24 : Int32) &&& 31).toUInt32).toInt32).toInt8.toInt32) = nar .byte (((a >>> ((24 : Int32) &&& 31)) &&& (255 : Int32)).toInt8.toInt32) := own_yk a 24 24 16777216 (by decide) (by decide) (by decide) (by omega)
theorem own_s0 (a : Int32) : nar .byte ((a.toInt16.toInt32).toInt8.toInt32) = nar .byte ((a &&& (255 : Int32)).toInt8.toInt32) := own_b8 (by
  have h : (a &&& 255).toInt = a.toInt % 256 := c_mask a 255 8 (by decide) (by decide)
  have h2 := c_i2s a
  rw [h]; omega)
theorem own_s1 (a : Int32) : nar .byte ((((a.toInt16.toInt32).toUInt32 >>> ((8 : Int32) &&& 31).toUInt32).toInt32).toInt8.toInt32) = nar .byte (((a >>> ((8 : Int32) &&& 31)) &&& (255 : Int32)).toInt8.toInt32) := own_b8 (by
  have h1 := c_iushr (a.toInt16.toInt32) 8 8 (by decide) (by decide)
  have h2 := c_ishr a 8 8 (by decide)
  have h3 : ((a >>> ((8 : Int32) &&& 31)) &&& 255).toInt = (a >>> ((8 : Int32) &&& 31)).toInt % 256 := c_mask (a >>> ((8 : Int32) &&& 31)) 255 8 (by decide) (by decide)
  have h5 := c_i2s a
  rw [h1, h3, h2]
  have e : ((2 ^ 8 : Nat) : Int) = 256 := by decide
  rw [e]
  have h4 := rng32 a
  omega)
theorem own_at1 (n : Int32) (F G : Nat → Int32) (h : ∀ i : Nat, (i : Int) < n.toInt → F i = G i) (k : Int32) (hk : 0 ≤ k.toInt) : ¬ f10 n k F G = 0 := by
  unfold f10
  by_cases q : k < n
  · rw [if_pos q, if_pos]
    · decide
    · rw [Int32.lt_iff_toInt_lt] at q
      exact h _ (by unfold Int32.toNatClampNeg; omega)
  · rw [if_neg q]; decide
theorem own_sm (n : Int32) (F G : Nat → Int32) (h : ∀ i : Nat, (i : Int) < n.toInt → F i = G i) : ¬ f9 n F G = 0 := by
  unfold f9
  rw [if_neg (own_at1 n F G h 0 (by decide)), if_neg (own_at1 n F G h 1 (by decide)), if_neg (own_at1 n F G h 2 (by decide)), if_neg (own_at1 n F G h 3 (by decide)), if_neg (own_at1 n F G h 4 (by decide)), if_neg (own_at1 n F G h 5 (by decide)), if_neg (own_at1 n F G h 6 (by decide))]
  decide
theorem own_pf000 (p0 p1 p2 : Int32) : ∀ i : Nat, (i : Int) < (0 : Int32).toInt → ((fun _ => 0) : Nat → Int32) i = ((fun _ => 0) : Nat → Int32) i := by
  intro i hi
  rfl
theorem own_pf001 (p0 p1 p2 : Int32) : ∀ i : Nat, (i : Int) < (1 : Int32).toInt → ((f12_r1_a (p2 &&& (255 : Int32)) (0 : Int32) (fun _ => 0)) : Nat → Int32) i = ((own_upd (fun _ => 0) 0 (nar .byte ((p2 &&& (255 : Int32)).toInt8.toInt32))) : Nat → Int32) i := by
  intro i hi
  have e : (1 : Int32).toInt = 1 := by decide
  rw [e] at hi
  have hc : i = 0 := by omega
  rcases hc with rfl
  · exact Eq.trans (by rw [f12_r1_a, own_hit (by decide)]) (Eq.trans ((rfl : nar .byte ((p2 &&& (255 : Int32)).toInt8.toInt32) = _)) (Eq.symm (by rw [own_hit (by decide)])))
theorem own_pf010 (p0 p1 p2 : Int32) : ∀ i : Nat, (i : Int) < (2 : Int32).toInt → ((f11_r1_a (p1.toInt16.toInt32) (0 : Int32) (fun _ => 0)) : Nat → Int32) i = ((own_upd (own_upd (fun _ => 0) 0 (nar .byte ((p1 &&& (255 : Int32)).toInt8.toInt32))) 1 (nar .byte (((p1 >>> ((8 : Int32) &&& 31)) &&& (255 : Int32)).toInt8.toInt32))) : Nat → Int32) i := by
  intro i hi
  have e : (2 : Int32).toInt = 2 := by decide
  rw [e] at hi
  have hc : i = 0 ∨ i = 1 := by omega
  rcases hc with rfl | rfl
  · exact Eq.trans (by rw [f11_r1_a, own_miss (by decide), own_hit (by decide)]) (Eq.trans (own_s0 p1) (Eq.symm (by rw [own_miss (by decide), own_hit (by decide)])))
  · exact Eq.trans (by rw [f11_r1_a, own_hit (by decide)]) (Eq.trans (own_s1 p1) (Eq.symm (by rw [own_hit (by decide)])))
theorem own_pf011 (p0 p1 p2 : Int32) : ∀ i : Nat, (i : Int) < (3 : Int32).toInt → ((f12_r1_a (p2 &&& (255 : Int32)) ((0 : Int32) + (2 : Int32)) (f11_r1_a (p1.toInt16.toInt32) (0 : Int32) (fun _ => 0))) : Nat → Int32) i = ((own_upd (own_upd (own_upd (fun _ => 0) 0 (nar .byte ((p1 &&& (255 : Int32)).toInt8.toInt32))) 1 (nar .byte (((p1 >>> ((8 : Int32) &&& 31)) &&& (255 : Int32)).toInt8.toInt32))) 2 (nar .byte ((p2 &&& (255 : Int32)).toInt8.toInt32))) : Nat → Int32) i := by
  intro i hi
  have e : (3 : Int32).toInt = 3 := by decide
  rw [e] at hi
  have hc : i = 0 ∨ i = 1 ∨ i = 2 := by omega
  rcases hc with rfl | rfl | rfl
  · exact Eq.trans (by rw [f12_r1_a, own_miss (by decide), f11_r1_a, own_miss (by decide), own_hit (by decide)]) (Eq.trans (own_s0 p1) (Eq.symm (by rw [own_miss (by decide), own_miss (by decide), own_hit (by decide)])))
  · exact Eq.trans (by rw [f12_r1_a, own_miss (by decide), f11_r1_a, own_hit (by decide)]) (Eq.trans (own_s1 p1) (Eq.symm (by rw [own_miss (by decide), own_hit (by decide)])))
  · exact Eq.trans (by rw [f12_r1_a, own_hit (by decide)]) (Eq.trans ((rfl : nar .byte ((p2 &&& (255 : Int32)).toInt8.toInt32) = _)) (Eq.symm (by rw [own_hit (by decide)])))
theorem own_pf100 (p0 p1 p2 : Int32) : ∀ i : Nat, (i : Int) < (4 : Int32).toInt → ((f3_r1_a p0 (0 : Int32) (fun _ => 0)) : Nat → Int32) i = ((own_upd (own_upd (own_upd (own_upd (fun _ => 0) 0 (nar .byte ((p0 &&& (255 : Int32)).toInt8.toInt32))) 1 (nar .byte (((p0 >>> ((8 : Int32) &&& 31)) &&& (255 : Int32)).toInt8.toInt32))) 2 (nar .byte (((p0 >>> ((16 : Int32) &&& 31)) &&& (255 : Int32)).toInt8.toInt32))) 3 (nar .byte (((p0 >>> ((24 : Int32) &&& 31)) &&& (255 : Int32)).toInt8.toInt32))) : Nat → Int32) i := by
  intro i hi
  have e : (4 : Int32).toInt = 4 := by decide
  rw [e] at hi
  have hc : i = 0 ∨ i = 1 ∨ i = 2 ∨ i = 3 := by omega
  rcases hc with rfl | rfl | rfl | rfl
  · exact Eq.trans (by rw [f3_r1_a, own_miss (by decide), own_miss (by decide), own_miss (by decide), own_hit (by decide)]) (Eq.trans (own_y0 p0) (Eq.symm (by rw [own_miss (by decide), own_miss (by decide), own_miss (by decide), own_hit (by decide)])))
  · exact Eq.trans (by rw [f3_r1_a, own_miss (by decide), own_miss (by decide), own_hit (by decide)]) (Eq.trans (own_y1 p0) (Eq.symm (by rw [own_miss (by decide), own_miss (by decide), own_hit (by decide)])))
  · exact Eq.trans (by rw [f3_r1_a, own_miss (by decide), own_hit (by decide)]) (Eq.trans (own_y2 p0) (Eq.symm (by rw [own_miss (by decide), own_hit (by decide)])))
  · exact Eq.trans (by rw [f3_r1_a, own_hit (by decide)]) (Eq.trans (own_y3 p0) (Eq.symm (by rw [own_hit (by decide)])))
theorem own_pf101 (p0 p1 p2 : Int32) : ∀ i : Nat, (i : Int) < (5 : Int32).toInt → ((f12_r1_a (p2 &&& (255 : Int32)) ((0 : Int32) + (4 : Int32)) (f3_r1_a p0 (0 : Int32) (fun _ => 0))) : Nat → Int32) i = ((own_upd (own_upd (own_upd (own_upd (own_upd (fun _ => 0) 0 (nar .byte ((p0 &&& (255 : Int32)).toInt8.toInt32))) 1 (nar .byte (((p0 >>> ((8 : Int32) &&& 31)) &&& (255 : Int32)).toInt8.toInt32))) 2 (nar .byte (((p0 >>> ((16 : Int32) &&& 31)) &&& (255 : Int32)).toInt8.toInt32))) 3 (nar .byte (((p0 >>> ((24 : Int32) &&& 31)) &&& (255 : Int32)).toInt8.toInt32))) 4 (nar .byte ((p2 &&& (255 : Int32)).toInt8.toInt32))) : Nat → Int32) i := by
  intro i hi
  have e : (5 : Int32).toInt = 5 := by decide
  rw [e] at hi
  have hc : i = 0 ∨ i = 1 ∨ i = 2 ∨ i = 3 ∨ i = 4 := by omega
  rcases hc with rfl | rfl | rfl | rfl | rfl
  · exact Eq.trans (by rw [f12_r1_a, own_miss (by decide), f3_r1_a, own_miss (by decide), own_miss (by decide), own_miss (by decide), own_hit (by decide)]) (Eq.trans (own_y0 p0) (Eq.symm (by rw [own_miss (by decide), own_miss (by decide), own_miss (by decide), own_miss (by decide), own_hit (by decide)])))
  · exact Eq.trans (by rw [f12_r1_a, own_miss (by decide), f3_r1_a, own_miss (by decide), own_miss (by decide), own_hit (by decide)]) (Eq.trans (own_y1 p0) (Eq.symm (by rw [own_miss (by decide), own_miss (by decide), own_miss (by decide), own_hit (by decide)])))
  · exact Eq.trans (by rw [f12_r1_a, own_miss (by decide), f3_r1_a, own_miss (by decide), own_hit (by decide)]) (Eq.trans (own_y2 p0) (Eq.symm (by rw [own_miss (by decide), own_miss (by decide), own_hit (by decide)])))
  · exact Eq.trans (by rw [f12_r1_a, own_miss (by decide), f3_r1_a, own_hit (by decide)]) (Eq.trans (own_y3 p0) (Eq.symm (by rw [own_miss (by decide), own_hit (by decide)])))
  · exact Eq.trans (by rw [f12_r1_a, own_hit (by decide)]) (Eq.trans ((rfl : nar .byte ((p2 &&& (255 : Int32)).toInt8.toInt32) = _)) (Eq.symm (by rw [own_hit (by decide)])))
theorem own_pf110 (p0 p1 p2 : Int32) : ∀ i : Nat, (i : Int) < (6 : Int32).toInt → ((f11_r1_a (p1.toInt16.toInt32) ((0 : Int32) + (4 : Int32)) (f3_r1_a p0 (0 : Int32) (fun _ => 0))) : Nat → Int32) i = ((own_upd (own_upd (own_upd (own_upd (own_upd (own_upd (fun _ => 0) 0 (nar .byte ((p0 &&& (255 : Int32)).toInt8.toInt32))) 1 (nar .byte (((p0 >>> ((8 : Int32) &&& 31)) &&& (255 : Int32)).toInt8.toInt32))) 2 (nar .byte (((p0 >>> ((16 : Int32) &&& 31)) &&& (255 : Int32)).toInt8.toInt32))) 3 (nar .byte (((p0 >>> ((24 : Int32) &&& 31)) &&& (255 : Int32)).toInt8.toInt32))) 4 (nar .byte ((p1 &&& (255 : Int32)).toInt8.toInt32))) 5 (nar .byte (((p1 >>> ((8 : Int32) &&& 31)) &&& (255 : Int32)).toInt8.toInt32))) : Nat → Int32) i := by
  intro i hi
  have e : (6 : Int32).toInt = 6 := by decide
  rw [e] at hi
  have hc : i = 0 ∨ i = 1 ∨ i = 2 ∨ i = 3 ∨ i = 4 ∨ i = 5 := by omega
  rcases hc with rfl | rfl | rfl | rfl | rfl | rfl
  · exact Eq.trans (by rw [f11_r1_a, own_miss (by decide), own_miss (by decide), f3_r1_a, own_miss (by decide), own_miss (by decide), own_miss (by decide), own_hit (by decide)]) (Eq.trans (own_y0 p0) (Eq.symm (by rw [own_miss (by decide), own_miss (by decide), own_miss (by decide), own_miss (by decide), own_miss (by decide), own_hit (by decide)])))
  · exact Eq.trans (by rw [f11_r1_a, own_miss (by decide), own_miss (by decide), f3_r1_a, own_miss (by decide), own_miss (by decide), own_hit (by decide)]) (Eq.trans (own_y1 p0) (Eq.symm (by rw [own_miss (by decide), own_miss (by decide), own_miss (by decide), own_miss (by decide), own_hit (by decide)])))
  · exact Eq.trans (by rw [f11_r1_a, own_miss (by decide), own_miss (by decide), f3_r1_a, own_miss (by decide), own_hit (by decide)]) (Eq.trans (own_y2 p0) (Eq.symm (by rw [own_miss (by decide), own_miss (by decide), own_miss (by decide), own_hit (by decide)])))
  · exact Eq.trans (by rw [f11_r1_a, own_miss (by decide), own_miss (by decide), f3_r1_a, own_hit (by decide)]) (Eq.trans (own_y3 p0) (Eq.symm (by rw [own_miss (by decide), own_miss (by decide), own_hit (by decide)])))
  · exact Eq.trans (by rw [f11_r1_a, own_miss (by decide), own_hit (by decide)]) (Eq.trans (own_s0 p1) (Eq.symm (by rw [own_miss (by decide), own_hit (by decide)])))
  · exact Eq.trans (by rw [f11_r1_a, own_hit (by decide)]) (Eq.trans (own_s1 p1) (Eq.symm (by rw [own_hit (by decide)])))
theorem own_pf111 (p0 p1 p2 : Int32) : ∀ i : Nat, (i : Int) < (7 : Int32).toInt → ((f12_r1_a (p2 &&& (255 : Int32)) (((0 : Int32) + (4 : Int32)) + (2 : Int32)) (f11_r1_a (p1.toInt16.toInt32) ((0 : Int32) + (4 : Int32)) (f3_r1_a p0 (0 : Int32) (fun _ => 0)))) : Nat → Int32) i = ((own_upd (own_upd (own_upd (own_upd (own_upd (own_upd (own_upd (fun _ => 0) 0 (nar .byte ((p0 &&& (255 : Int32)).toInt8.toInt32))) 1 (nar .byte (((p0 >>> ((8 : Int32) &&& 31)) &&& (255 : Int32)).toInt8.toInt32))) 2 (nar .byte (((p0 >>> ((16 : Int32) &&& 31)) &&& (255 : Int32)).toInt8.toInt32))) 3 (nar .byte (((p0 >>> ((24 : Int32) &&& 31)) &&& (255 : Int32)).toInt8.toInt32))) 4 (nar .byte ((p1 &&& (255 : Int32)).toInt8.toInt32))) 5 (nar .byte (((p1 >>> ((8 : Int32) &&& 31)) &&& (255 : Int32)).toInt8.toInt32))) 6 (nar .byte ((p2 &&& (255 : Int32)).toInt8.toInt32))) : Nat → Int32) i := by
  intro i hi
  have e : (7 : Int32).toInt = 7 := by decide
  rw [e] at hi
  have hc : i = 0 ∨ i = 1 ∨ i = 2 ∨ i = 3 ∨ i = 4 ∨ i = 5 ∨ i = 6 := by omega
  rcases hc with rfl | rfl | rfl | rfl | rfl | rfl | rfl
  · exact Eq.trans (by rw [f12_r1_a, own_miss (by decide), f11_r1_a, own_miss (by decide), own_miss (by decide), f3_r1_a, own_miss (by decide), own_miss (by decide), own_miss (by decide), own_hit (by decide)]) (Eq.trans (own_y0 p0) (Eq.symm (by rw [own_miss (by decide), own_miss (by decide), own_miss (by decide), own_miss (by decide), own_miss (by decide), own_miss (by decide), own_hit (by decide)])))
  · exact Eq.trans (by rw [f12_r1_a, own_miss (by decide), f11_r1_a, own_miss (by decide), own_miss (by decide), f3_r1_a, own_miss (by decide), own_miss (by decide), own_hit (by decide)]) (Eq.trans (own_y1 p0) (Eq.symm (by rw [own_miss (by decide), own_miss (by decide), own_miss (by decide), own_miss (by decide), own_miss (by decide), own_hit (by decide)])))
  · exact Eq.trans (by rw [f12_r1_a, own_miss (by decide), f11_r1_a, own_miss (by decide), own_miss (by decide), f3_r1_a, own_miss (by decide), own_hit (by decide)]) (Eq.trans (own_y2 p0) (Eq.symm (by rw [own_miss (by decide), own_miss (by decide), own_miss (by decide), own_miss (by decide), own_hit (by decide)])))
  · exact Eq.trans (by rw [f12_r1_a, own_miss (by decide), f11_r1_a, own_miss (by decide), own_miss (by decide), f3_r1_a, own_hit (by decide)]) (Eq.trans (own_y3 p0) (Eq.symm (by rw [own_miss (by decide), own_miss (by decide), own_miss (by decide), own_hit (by decide)])))
  · exact Eq.trans (by rw [f12_r1_a, own_miss (by decide), f11_r1_a, own_miss (by decide), own_hit (by decide)]) (Eq.trans (own_s0 p1) (Eq.symm (by rw [own_miss (by decide), own_miss (by decide), own_hit (by decide)])))
  · exact Eq.trans (by rw [f12_r1_a, own_miss (by decide), f11_r1_a, own_hit (by decide)]) (Eq.trans (own_s1 p1) (Eq.symm (by rw [own_miss (by decide), own_hit (by decide)])))
  · exact Eq.trans (by rw [f12_r1_a, own_hit (by decide)]) (Eq.trans ((rfl : nar .byte ((p2 &&& (255 : Int32)).toInt8.toInt32) = _)) (Eq.symm (by rw [own_hit (by decide)])))
def Q0 (Z : State) (p0 : Int32) (p1 : Int32) (p2 : Int32) (p3 : Int32) (h0 : Heap) (n0 : Nat) (v : Option Value) (h : Heap) (L : List Loc) : Prop := v = some (.int (1 : Int32)) ∧ Fr n0 L
set_option maxRecDepth 65536 in
set_option maxHeartbeats 40000000 in
theorem rm0 (l : Launch) (Z : State) (a0 : Array Value) (hw : ∀ d ∈ tables_1, d.before a0 Z = true) (ws : List Jvm.Cond) (p0 : Int32) (p1 : Int32) (p2 : Int32) (p3 : Int32) (h0 : Heap) (n0 : Nat) (Z0 : n0 ≤ h0.size) :
    MetFree l x (head1 (Jvm.Cond.code x code maxLocals ret :: ws) room_1) (fun a U => a = #[(.int p0), (.int p1), (.int p2), (.int p3)] ∧ Z.Warmed39 U.vm ∧ U.heap = h0) (fun _ _ _ _ _ => True) (fun _ U o U' => ∃ v L, o = .returned v ∧ Q0 Z p0 p1 p2 p3 h0 n0 v U'.heap L ∧ FrameEnd U o U' L room_1.cells room_1.slots) := by
  refine MetFree.of_bodySF (plainFor_of_name pn_0) hisR ?_
  intro p e s m args below meth c s₁ Bd hml0 hP hK
  obtain ⟨rfl, hZ, hh⟩ := hP
  have hx := Bd.exec
  have hby := Bd.bytes
  have hml : c.maxLocals = 12 := hml0
  have hown : s.vm.findClass "com/example/corvid/corvid/ByteWriterToByteArrayPinLaw" = some m.cls := findClass_of_methodNamed Bd.named
  have hnm := (name_of_methodNamed Bd.named Bd.method).1
  have X0 : Stand p l e room_1 s m #[(.int p0), (.int p1), (.int p2), (.int p3)] below meth c s₁ [] 0 0 := Stand.of_body Bd
  have e0 : s₁.heap = h0 := by rw [← hh, Bd.state]; rfl
  have N0 := Fr.nil n0
  have pre0 : ∀ t, Steps p.tables e below (s₁.setTop (mkF m 0 #[.val (.int p0), .val (.int p1), .val (.int p2), .val (.int p3), .unset, .unset, .unset, .unset, .unset, .unset, .unset, .unset] [])) t → Steps p.tables e below (s₁.setTop (entryFrame m #[(.int p0), (.int p1), (.int p2), (.int p3)] maxLocals)) t := fun t k => castTop (ef_0 m p0 p1 p2 p3) k
  have pre1 : ∀ t, Steps p.tables e below (s₁.setTop (mkF m 3 #[.val (.int p0), .val (.int p1), .val (.int p2), .val (.int p3), .unset, .unset, .unset, .unset, .unset, .unset, .unset, .unset] [(.int (p3 &&& (1 : Int32)))])) t → Steps p.tables e below (s₁.setTop (entryFrame m #[(.int p0), (.int p1), (.int p2), (.int p3)] maxLocals)) t := fun t kt => pre0 t (by
      show Steps p.tables e below (s₁.setTop (mkF m 0 #[.val (.int p0), .val (.int p1), .val (.int p2), .val (.int p3), .unset, .unset, .unset, .unset, .unset, .unset, .unset, .unset] [])) _
      refine XS.iloadN X0.here hx rfl (hb hby at_0) rfl ?_
      show Steps p.tables e below (s₁.setTop (mkF m 1 #[.val (.int p0), .val (.int p1), .val (.int p2), .val (.int p3), .unset, .unset, .unset, .unset, .unset, .unset, .unset, .unset] [(.int p3)])) _
      refine XS.iconst X0.here hx rfl (hb hby at_1) ?_
      show Steps p.tables e below (s₁.setTop (mkF m 2 #[.val (.int p0), .val (.int p1), .val (.int p2), .val (.int p3), .unset, .unset, .unset, .unset, .unset, .unset, .unset, .unset] [(.int (1 : Int32)), (.int p3)])) _
      refine XS.iand X0.here hx rfl (hb hby at_2) rfl ?_
      exact kt)
  by_cases hc3_2 : (p3 &&& (1 : Int32)) = (0 : Int32)
  · have pre3 : ∀ t, Steps p.tables e below (s₁.setTop (mkF m 16 #[.val (.int p0), .val (.int p1), .val (.int p2), .val (.int p3), .val (.int (0 : Int32)), .unset, .unset, .unset, .unset, .unset, .unset, .unset] [(.int (p3 &&& (2 : Int32)))])) t → Steps p.tables e below (s₁.setTop (entryFrame m #[(.int p0), (.int p1), (.int p2), (.int p3)] maxLocals)) t := fun t kt => pre1 t (by
        show Steps p.tables e below (s₁.setTop (mkF m 3 #[.val (.int p0), .val (.int p1), .val (.int p2), .val (.int p3), .unset, .unset, .unset, .unset, .unset, .unset, .unset, .unset] [(.int (p3 &&& (1 : Int32)))])) _
        refine XS.ifYes X0.here hx rfl (pc0 := 3) (pc' := 10) rfl (hb hby at_3) rfl ((if0 _ _).trans (teq hc3_2).1) (by decide) (by decide) ?_
        show Steps p.tables e below (s₁.setTop (mkF m 10 #[.val (.int p0), .val (.int p1), .val (.int p2), .val (.int p3), .unset, .unset, .unset, .unset, .unset, .unset, .unset, .unset] [])) _
        refine XS.iconst X0.here hx rfl (hb hby at_10) ?_
        show Steps p.tables e below (s₁.setTop (mkF m 11 #[.val (.int p0), .val (.int p1), .val (.int p2), .val (.int p3), .unset, .unset, .unset, .unset, .unset, .unset, .unset, .unset] [(.int (0 : Int32))])) _
        refine XS.istore X0.here hx rfl (hb hby at_11) rfl (l' := #[.val (.int p0), .val (.int p1), .val (.int p2), .val (.int p3), .val (.int (0 : Int32)), .unset, .unset, .unset, .unset, .unset, .unset, .unset]) rfl ?_
        show Steps p.tables e below (s₁.setTop (mkF m 13 #[.val (.int p0), .val (.int p1), .val (.int p2), .val (.int p3), .val (.int (0 : Int32)), .unset, .unset, .unset, .unset, .unset, .unset, .unset] [])) _
        refine XS.iloadN X0.here hx rfl (hb hby at_13) rfl ?_
        show Steps p.tables e below (s₁.setTop (mkF m 14 #[.val (.int p0), .val (.int p1), .val (.int p2), .val (.int p3), .val (.int (0 : Int32)), .unset, .unset, .unset, .unset, .unset, .unset, .unset] [(.int p3)])) _
        refine XS.iconst X0.here hx rfl (hb hby at_14) ?_
        show Steps p.tables e below (s₁.setTop (mkF m 15 #[.val (.int p0), .val (.int p1), .val (.int p2), .val (.int p3), .val (.int (0 : Int32)), .unset, .unset, .unset, .unset, .unset, .unset, .unset] [(.int (2 : Int32)), (.int p3)])) _
        refine XS.iand X0.here hx rfl (hb hby at_15) rfl ?_
        exact kt)
    by_cases hc16_4 : (p3 &&& (2 : Int32)) = (0 : Int32)
    · have pre5 : ∀ t, Steps p.tables e below (s₁.setTop (mkF m 29 #[.val (.int p0), .val (.int p1), .val (.int p2), .val (.int p3), .val (.int (0 : Int32)), .val (.int (0 : Int32)), .unset, .unset, .unset, .unset, .unset, .unset] [(.int (p3 &&& (4 : Int32)))])) t → Steps p.tables e below (s₁.setTop (entryFrame m #[(.int p0), (.int p1), (.int p2), (.int p3)] maxLocals)) t := fun t kt => pre3 t (by
          show Steps p.tables e below (s₁.setTop (mkF m 16 #[.val (.int p0), .val (.int p1), .val (.int p2), .val (.int p3), .val (.int (0 : Int32)), .unset, .unset, .unset, .unset, .unset, .unset, .unset] [(.int (p3 &&& (2 : Int32)))])) _
          refine XS.ifYes X0.here hx rfl (pc0 := 16) (pc' := 23) rfl (hb hby at_16) rfl ((if0 _ _).trans (teq hc16_4).1) (by decide) (by decide) ?_
          show Steps p.tables e below (s₁.setTop (mkF m 23 #[.val (.int p0), .val (.int p1), .val (.int p2), .val (.int p3), .val (.int (0 : Int32)), .unset, .unset, .unset, .unset, .unset, .unset, .unset] [])) _
          refine XS.iconst X0.here hx rfl (hb hby at_23) ?_
          show Steps p.tables e below (s₁.setTop (mkF m 24 #[.val (.int p0), .val (.int p1), .val (.int p2), .val (.int p3), .val (.int (0 : Int32)), .unset, .unset, .unset, .unset, .unset, .unset, .unset] [(.int (0 : Int32))])) _
          refine XS.istore X0.here hx rfl (hb hby at_24) rfl (l' := #[.val (.int p0), .val (.int p1), .val (.int p2), .val (.int p3), .val (.int (0 : Int32)), .val (.int (0 : Int32)), .unset, .unset, .unset, .unset, .unset, .unset]) rfl ?_
          show Steps p.tables e below (s₁.setTop (mkF m 26 #[.val (.int p0), .val (.int p1), .val (.int p2), .val (.int p3), .val (.int (0 : Int32)), .val (.int (0 : Int32)), .unset, .unset, .unset, .unset, .unset, .unset] [])) _
          refine XS.iloadN X0.here hx rfl (hb hby at_26) rfl ?_
          show Steps p.tables e below (s₁.setTop (mkF m 27 #[.val (.int p0), .val (.int p1), .val (.int p2), .val (.int p3), .val (.int (0 : Int32)), .val (.int (0 : Int32)), .unset, .unset, .unset, .unset, .unset, .unset] [(.int p3)])) _
          refine XS.iconst X0.here hx rfl (hb hby at_27) ?_
          show Steps p.tables e below (s₁.setTop (mkF m 28 #[.val (.int p0), .val (.int p1), .val (.int p2), .val (.int p3), .val (.int (0 : Int32)), .val (.int (0 : Int32)), .unset, .unset, .unset, .unset, .unset, .unset] [(.int (4 : Int32)), (.int p3)])) _
          refine XS.iand X0.here hx rfl (hb hby at_28) rfl ?_
          exact kt)
      by_cases hc29_6 : (p3 &&& (4 : Int32)) = (0 : Int32)
      · obtain ⟨T7, h7, k7, X7, e7, E7, A7, st7⟩ := newP X0 hx hZ (hw _ (List.mem_of_getElem? (i := 0) rfl)) e0 (g := (mkF m 41 #[.val (.int p0), .val (.int p1), .val (.int p2), .val (.int p3), .val (.int (0 : Int32)), .val (.int (0 : Int32)), .val (.int (0 : Int32)), .unset, .unset, .unset, .unset, .unset] [(.int (7 : Int32))])) rfl (hb hby at_41) rfl (by decide) (cap := 7) (by decide) (by decide) (by decide) (by decide)
        obtain ⟨b7, g7⟩ : ∃ z, z = h0.size := ⟨_, rfl⟩
        rw [← g7] at A7 st7
        have g_b7 : n0 ≤ b7 := Nat.le_trans Z0 (Nat.le_of_eq g7.symm)
        have sz_b7 : h0.size ≤ b7 := Nat.le_trans (Keep.refl h0 []).1 (Nat.le_of_eq g7.symm)
        have K8 : Keep h0 h7 [] := (Keep.refl h0 []).ext E7
        have Z9 : n0 ≤ h7.size := Nat.le_trans Z0 K8.1
        have V_b7 : own_AI Z h7 b7 .byte (7 : Int32) (fun _ => 0) := own_AI.new A7 (by decide) rfl
        obtain ⟨T10, h10, X10, e10, E10, A10, D10, -, st10⟩ := newO X7 hx hZ hown (hw _ (List.mem_of_getElem? (i := 1) rfl)) (hw _ (List.mem_of_getElem? (i := 2) rfl)) (hw _ (List.mem_of_getElem? (i := 3) rfl)) e7 (g := (mkF m 48 #[.val (.int p0), .val (.int p1), .val (.int p2), .val (.int p3), .val (.int (0 : Int32)), .val (.int (0 : Int32)), .val (.int (0 : Int32)), .val (.ref b7), .val (.int (0 : Int32)), .unset, .unset, .unset] [])) rfl (hb hby at_48) (by decide) (by decide)
        obtain ⟨b10, g10⟩ : ∃ z, z = h7.size := ⟨_, rfl⟩
        rw [← g10] at A10 D10 st10
        have g_b10 : n0 ≤ b10 := Nat.le_trans Z9 (Nat.le_of_eq g10.symm)
        have sz_b10 : h0.size ≤ b10 := Nat.le_trans K8.1 (Nat.le_of_eq g10.symm)
        have ne_b7_b10 : b7 ≠ b10 := Nat.ne_of_lt (Nat.lt_of_lt_of_le V_b7.lt (Nat.le_of_eq g10.symm))
        have K11 : Keep h0 h10 [] := K8.ext E10
        have Z12 : n0 ≤ h10.size := Nat.le_trans Z0 K11.1
        have E_b10 := A10
        have F_bytes_b10 : Fld Z h10 b10 "com/example/corvid/corvid/ByteWriter" "bytes" "[B" .null := D10 (Or.inl (hw _ (List.mem_of_getElem? (i := 11) rfl))) (ty := (.array .byte)) (by decide)
        have F_encapsulationStart_b10 : Fld Z h10 b10 "com/example/corvid/corvid/ByteWriter" "encapsulationStart" "I" (.int (0 : Int32)) := D10 (Or.inl (hw _ (List.mem_of_getElem? (i := 13) rfl))) (ty := .int) (by decide)
        have F_length_b10 : Fld Z h10 b10 "com/example/corvid/corvid/ByteWriter" "length" "I" (.int (0 : Int32)) := D10 (Or.inl (hw _ (List.mem_of_getElem? (i := 24) rfl))) (ty := .int) (by decide)
        obtain ⟨_, _, ⟨T13, L13, k13, n13⟩, -, X13, ⟨Lc13, hQ13, l13, y13, z13⟩, st13⟩ := X10.specialBack hx (y := (⟨"com/example/corvid/corvid/ByteWriter", "<init>", "()V"⟩ : MethodName)) rfl hown (mvT hZ (hw _ (List.mem_of_getElem? (i := 4) rfl))) (mvT hZ (hw _ (List.mem_of_getElem? (i := 5) rfl))) (mvT hZ (hw _ (List.mem_of_getElem? (i := 6) rfl))) (by decide) (backOf (W := 1) (rm1 l Z a0 hw [] b10 (0 : Int32) (0 : Int32) h10 n0 Z12 E_b10 F_length_b10 F_bytes_b10 g_b10 F_encapsulationStart_b10) hZ (hw _ (List.mem_of_getElem? (i := 6) rfl)) (hw _ (List.mem_of_getElem? (i := 3) rfl)) (by decide) (by decide)) (g := (mkF m 52 #[.val (.int p0), .val (.int p1), .val (.int p2), .val (.int p3), .val (.int (0 : Int32)), .val (.int (0 : Int32)), .val (.int (0 : Int32)), .val (.ref b7), .val (.int (0 : Int32)), .unset, .unset, .unset] [(.ref b10), (.ref b10)])) rfl (by rw [hml]; rfl) (Steps.refl _) (a := b10) (argsL := []) (rest := [(.ref b10)]) (lenOf pd_0_0 rfl) rfl (by show 2 * 0 + _ ≤ _; exact Nat.le_of_eq rfl) (hb hby at_52) (fun _ _ => ⟨rfl, e10, (by decide : 2 + 1 ≤ _), (by decide : 10 + 64 ≤ _)⟩)
        dsimp only [Pt.U, Pt.locs, Pt.cells, Pt.slots] at X13 l13 y13 z13 st13 hQ13
        subst l13 y13 z13
        obtain ⟨r_o0_bytes_13, rfl, N13q, K13q, g_r_o0_bytes_13, szq_r_o0_bytes_13, G13_0, G13_1, G13_2, G13_3⟩ := hQ13
        have N13 := Fr.app N0 N13q
        have ne_b7_r_o0_bytes_13 : b7 ≠ r_o0_bytes_13 := Nat.ne_of_lt (Nat.lt_of_lt_of_le (V_b7.ext E10).lt szq_r_o0_bytes_13)
        have ne_b10_r_o0_bytes_13 : b10 ≠ r_o0_bytes_13 := Nat.ne_of_lt (Nat.lt_of_lt_of_le E_b10.lt szq_r_o0_bytes_13)
        have sz_r_o0_bytes_13 : h0.size ≤ r_o0_bytes_13 := Nat.le_trans K11.1 szq_r_o0_bytes_13
        have K14 : Keep h0 T13.heap [] := K11.trans K13q (allS (Or.inr sz_b10) all0)
        have Z15 : n0 ≤ T13.heap.size := Nat.le_trans Z0 K14.1
        obtain ⟨LS13, X13, N13⟩ : ∃ L, Stand p l e room_1 s m #[(.int p0), (.int p1), (.int p2), (.int p3)] below meth c T13 L 3 74 ∧ Fr n0 L := ⟨_, X13, N13⟩
        have pre16 : ∀ t, Steps p.tables e below (T13.setTop (mkF m 59 #[.val (.int p0), .val (.int p1), .val (.int p2), .val (.int p3), .val (.int (0 : Int32)), .val (.int (0 : Int32)), .val (.int (0 : Int32)), .val (.ref b7), .val (.int (0 : Int32)), .val (.ref b10), .unset, .unset] [(.int (0 : Int32))])) t → Steps p.tables e below (s₁.setTop (entryFrame m #[(.int p0), (.int p1), (.int p2), (.int p3)] maxLocals)) t := fun t kt => pre5 t (by
            show Steps p.tables e below (s₁.setTop (mkF m 29 #[.val (.int p0), .val (.int p1), .val (.int p2), .val (.int p3), .val (.int (0 : Int32)), .val (.int (0 : Int32)), .unset, .unset, .unset, .unset, .unset, .unset] [(.int (p3 &&& (4 : Int32)))])) _
            refine XS.ifYes X0.here hx rfl (pc0 := 29) (pc' := 36) rfl (hb hby at_29) rfl ((if0 _ _).trans (teq hc29_6).1) (by decide) (by decide) ?_
            show Steps p.tables e below (s₁.setTop (mkF m 36 #[.val (.int p0), .val (.int p1), .val (.int p2), .val (.int p3), .val (.int (0 : Int32)), .val (.int (0 : Int32)), .unset, .unset, .unset, .unset, .unset, .unset] [])) _
            refine XS.iconst X0.here hx rfl (hb hby at_36) ?_
            show Steps p.tables e below (s₁.setTop (mkF m 37 #[.val (.int p0), .val (.int p1), .val (.int p2), .val (.int p3), .val (.int (0 : Int32)), .val (.int (0 : Int32)), .unset, .unset, .unset, .unset, .unset, .unset] [(.int (0 : Int32))])) _
            refine XS.istore X0.here hx rfl (hb hby at_37) rfl (l' := #[.val (.int p0), .val (.int p1), .val (.int p2), .val (.int p3), .val (.int (0 : Int32)), .val (.int (0 : Int32)), .val (.int (0 : Int32)), .unset, .unset, .unset, .unset, .unset]) rfl ?_
            show Steps p.tables e below (s₁.setTop (mkF m 39 #[.val (.int p0), .val (.int p1), .val (.int p2), .val (.int p3), .val (.int (0 : Int32)), .val (.int (0 : Int32)), .val (.int (0 : Int32)), .unset, .unset, .unset, .unset, .unset] [])) _
            refine XS.bipush X0.here hx rfl (hb hby at_39) ?_
            show Steps p.tables e below (s₁.setTop (mkF m 41 #[.val (.int p0), .val (.int p1), .val (.int p2), .val (.int p3), .val (.int (0 : Int32)), .val (.int (0 : Int32)), .val (.int (0 : Int32)), .unset, .unset, .unset, .unset, .unset] [(.int (7 : Int32))])) _
            refine st7 _ ?_
            show Steps p.tables e below (T7.setTop (mkF m 43 #[.val (.int p0), .val (.int p1), .val (.int p2), .val (.int p3), .val (.int (0 : Int32)), .val (.int (0 : Int32)), .val (.int (0 : Int32)), .unset, .unset, .unset, .unset, .unset] [(.ref b7)])) _
            refine XS.astore X7.here hx rfl (hb hby at_43) rfl rfl (l' := #[.val (.int p0), .val (.int p1), .val (.int p2), .val (.int p3), .val (.int (0 : Int32)), .val (.int (0 : Int32)), .val (.int (0 : Int32)), .val (.ref b7), .unset, .unset, .unset, .unset]) rfl ?_
            show Steps p.tables e below (T7.setTop (mkF m 45 #[.val (.int p0), .val (.int p1), .val (.int p2), .val (.int p3), .val (.int (0 : Int32)), .val (.int (0 : Int32)), .val (.int (0 : Int32)), .val (.ref b7), .unset, .unset, .unset, .unset] [])) _
            refine XS.iconst X7.here hx rfl (hb hby at_45) ?_
            show Steps p.tables e below (T7.setTop (mkF m 46 #[.val (.int p0), .val (.int p1), .val (.int p2), .val (.int p3), .val (.int (0 : Int32)), .val (.int (0 : Int32)), .val (.int (0 : Int32)), .val (.ref b7), .unset, .unset, .unset, .unset] [(.int (0 : Int32))])) _
            refine XS.istore X7.here hx rfl (hb hby at_46) rfl (l' := #[.val (.int p0), .val (.int p1), .val (.int p2), .val (.int p3), .val (.int (0 : Int32)), .val (.int (0 : Int32)), .val (.int (0 : Int32)), .val (.ref b7), .val (.int (0 : Int32)), .unset, .unset, .unset]) rfl ?_
            show Steps p.tables e below (T7.setTop (mkF m 48 #[.val (.int p0), .val (.int p1), .val (.int p2), .val (.int p3), .val (.int (0 : Int32)), .val (.int (0 : Int32)), .val (.int (0 : Int32)), .val (.ref b7), .val (.int (0 : Int32)), .unset, .unset, .unset] [])) _
            refine st10 _ ?_
            show Steps p.tables e below (T10.setTop (mkF m 51 #[.val (.int p0), .val (.int p1), .val (.int p2), .val (.int p3), .val (.int (0 : Int32)), .val (.int (0 : Int32)), .val (.int (0 : Int32)), .val (.ref b7), .val (.int (0 : Int32)), .unset, .unset, .unset] [(.ref b10)])) _
            refine XS.dup X10.here hx rfl (hb hby at_51) rfl rfl ?_
            show Steps p.tables e below (T10.setTop (mkF m 52 #[.val (.int p0), .val (.int p1), .val (.int p2), .val (.int p3), .val (.int (0 : Int32)), .val (.int (0 : Int32)), .val (.int (0 : Int32)), .val (.ref b7), .val (.int (0 : Int32)), .unset, .unset, .unset] [(.ref b10), (.ref b10)])) _
            refine st13.trans ?_
            show Steps p.tables e below (T13.setTop (mkF m 55 #[.val (.int p0), .val (.int p1), .val (.int p2), .val (.int p3), .val (.int (0 : Int32)), .val (.int (0 : Int32)), .val (.int (0 : Int32)), .val (.ref b7), .val (.int (0 : Int32)), .unset, .unset, .unset] [(.ref b10)])) _
            refine XS.astore X13.here hx rfl (hb hby at_55) rfl rfl (l' := #[.val (.int p0), .val (.int p1), .val (.int p2), .val (.int p3), .val (.int (0 : Int32)), .val (.int (0 : Int32)), .val (.int (0 : Int32)), .val (.ref b7), .val (.int (0 : Int32)), .val (.ref b10), .unset, .unset]) rfl ?_
            show Steps p.tables e below (T13.setTop (mkF m 57 #[.val (.int p0), .val (.int p1), .val (.int p2), .val (.int p3), .val (.int (0 : Int32)), .val (.int (0 : Int32)), .val (.int (0 : Int32)), .val (.ref b7), .val (.int (0 : Int32)), .val (.ref b10), .unset, .unset] [])) _
            refine XS.iload X13.here hx rfl (hb hby at_57) rfl ?_
            exact kt)
        have pre17 : ∀ t, Steps p.tables e below (T13.setTop (mkF m 132 #[.val (.int p0), .val (.int p1), .val (.int p2), .val (.int p3), .val (.int (0 : Int32)), .val (.int (0 : Int32)), .val (.int (0 : Int32)), .val (.ref b7), .val (.int (0 : Int32)), .val (.ref b10), .unset, .unset] [(.int (0 : Int32))])) t → Steps p.tables e below (s₁.setTop (entryFrame m #[(.int p0), (.int p1), (.int p2), (.int p3)] maxLocals)) t := fun t kt => pre16 t (by
            show Steps p.tables e below (T13.setTop (mkF m 59 #[.val (.int p0), .val (.int p1), .val (.int p2), .val (.int p3), .val (.int (0 : Int32)), .val (.int (0 : Int32)), .val (.int (0 : Int32)), .val (.ref b7), .val (.int (0 : Int32)), .val (.ref b10), .unset, .unset] [(.int (0 : Int32))])) _
            refine XS.ifYes X13.here hx rfl (pc0 := 59) (pc' := 130) rfl (hb hby at_59) rfl ((if0 _ _).trans (teq (by decide : ((0 : Int32) = (0 : Int32)))).1) (by decide) (by decide) ?_
            show Steps p.tables e below (T13.setTop (mkF m 130 #[.val (.int p0), .val (.int p1), .val (.int p2), .val (.int p3), .val (.int (0 : Int32)), .val (.int (0 : Int32)), .val (.int (0 : Int32)), .val (.ref b7), .val (.int (0 : Int32)), .val (.ref b10), .unset, .unset] [])) _
            refine XS.iload X13.here hx rfl (hb hby at_130) rfl ?_
            exact kt)
        have pre18 : ∀ t, Steps p.tables e below (T13.setTop (mkF m 174 #[.val (.int p0), .val (.int p1), .val (.int p2), .val (.int p3), .val (.int (0 : Int32)), .val (.int (0 : Int32)), .val (.int (0 : Int32)), .val (.ref b7), .val (.int (0 : Int32)), .val (.ref b10), .unset, .unset] [(.int (0 : Int32))])) t → Steps p.tables e below (s₁.setTop (entryFrame m #[(.int p0), (.int p1), (.int p2), (.int p3)] maxLocals)) t := fun t kt => pre17 t (by
            show Steps p.tables e below (T13.setTop (mkF m 132 #[.val (.int p0), .val (.int p1), .val (.int p2), .val (.int p3), .val (.int (0 : Int32)), .val (.int (0 : Int32)), .val (.int (0 : Int32)), .val (.ref b7), .val (.int (0 : Int32)), .val (.ref b10), .unset, .unset] [(.int (0 : Int32))])) _
            refine XS.ifYes X13.here hx rfl (pc0 := 132) (pc' := 172) rfl (hb hby at_132) rfl ((if0 _ _).trans (teq (by decide : ((0 : Int32) = (0 : Int32)))).1) (by decide) (by decide) ?_
            show Steps p.tables e below (T13.setTop (mkF m 172 #[.val (.int p0), .val (.int p1), .val (.int p2), .val (.int p3), .val (.int (0 : Int32)), .val (.int (0 : Int32)), .val (.int (0 : Int32)), .val (.ref b7), .val (.int (0 : Int32)), .val (.ref b10), .unset, .unset] [])) _
            refine XS.iload X13.here hx rfl (hb hby at_172) rfl ?_
            exact kt)
        obtain ⟨cq19, kq19, q19a, q19b, q19c⟩ := isOf hZ rfl (E_b10.keep K13q)
        obtain ⟨_, _, ⟨T19, L19, k19, n19⟩, -, X19, ⟨Lc19, hQ19, l19, y19, z19⟩, st19⟩ := X13.virtualBack hx (y := (⟨"com/example/corvid/corvid/ByteWriter", "toByteArray", "()[B"⟩ : MethodName)) (z := (⟨"com/example/corvid/corvid/ByteWriter", "toByteArray", "()[B"⟩ : MethodName)) hown (mvT hZ (hw _ (List.mem_of_getElem? (i := 29) rfl))) (mvT hZ (hw _ (List.mem_of_getElem? (i := 30) rfl))) (notFace_of_selects (args := #[]) (mvT hZ (hw _ (List.mem_of_getElem? (i := 32) rfl)))) (mvT hZ (hw _ (List.mem_of_getElem? (i := 32) rfl))) (mvT hZ (hw _ (List.mem_of_getElem? (i := 31) rfl))) (by decide) (backOf (W := 0) (rm6 l Z a0 hw [] b10 (0 : Int32) r_o0_bytes_13 (fun _ => 0) T13.heap n0 Z15 G13_3 G13_0 G13_1 (by decide)) hZ (hw _ (List.mem_of_getElem? (i := 33) rfl)) (hw _ (List.mem_of_getElem? (i := 3) rfl)) (by decide) (by decide)) q19a q19c (g := (mkF m 204 #[.val (.int p0), .val (.int p1), .val (.int p2), .val (.int p3), .val (.int (0 : Int32)), .val (.int (0 : Int32)), .val (.int (0 : Int32)), .val (.ref b7), .val (.int (0 : Int32)), .val (.ref b10), .unset, .unset] [(.ref b10)])) rfl (by rw [hml]; rfl) (Steps.refl _) (argsL := []) (rest := []) (lenOf pd_0_1 rfl) rfl (by show 2 * 0 + _ ≤ _; exact Nat.le_of_eq rfl) (hb hby at_204) (fun _ _ => ⟨rfl, rfl, (by decide : 3 + 1 ≤ _), (by decide : 74 + 16 ≤ _)⟩)
        dsimp only [Pt.U, Pt.locs, Pt.cells, Pt.slots] at X19 l19 y19 z19 st19 hQ19
        subst l19 y19 z19
        obtain ⟨b_19, rfl, N19q, K19q, g_b_19, szq_b_19, G19_0⟩ := hQ19
        have N19 := Fr.app N13 N19q
        have ne_b7_b_19 : b7 ≠ b_19 := Nat.ne_of_lt (Nat.lt_of_lt_of_le ((V_b7.ext E10).keep K13q (ninS ne_b7_b10 nin0)).lt szq_b_19)
        have ne_b10_b_19 : b10 ≠ b_19 := Nat.ne_of_lt (Nat.lt_of_lt_of_le (E_b10.keep K13q).lt szq_b_19)
        have ne_r_o0_bytes_13_b_19 : r_o0_bytes_13 ≠ b_19 := Nat.ne_of_lt (Nat.lt_of_lt_of_le G13_1.lt szq_b_19)
        have sz_b_19 : h0.size ≤ b_19 := Nat.le_trans K14.1 szq_b_19
        have K20 : Keep h0 T19.heap [] := K14.trans K19q all0
        have Z21 : n0 ≤ T19.heap.size := Nat.le_trans Z0 K20.1
        obtain ⟨LS19, X19, N19⟩ : ∃ L, Stand p l e room_1 s m #[(.int p0), (.int p1), (.int p2), (.int p3)] below meth c T19 L 4 90 ∧ Fr n0 L := ⟨_, X19, N19⟩
        obtain ⟨cl22, Ar22, Sz22, Nn22, -⟩ := id G19_0
        have pre23 : ∀ t, Steps p.tables e below (T19.setTop (mkF m 214 #[.val (.int p0), .val (.int p1), .val (.int p2), .val (.int p3), .val (.int (0 : Int32)), .val (.int (0 : Int32)), .val (.int (0 : Int32)), .val (.ref b7), .val (.int (0 : Int32)), .val (.ref b10), .val (.ref b_19), .unset] [(.int (0 : Int32)), (.int (0 : Int32))])) t → Steps p.tables e below (s₁.setTop (entryFrame m #[(.int p0), (.int p1), (.int p2), (.int p3)] maxLocals)) t := fun t kt => pre18 t (by
            show Steps p.tables e below (T13.setTop (mkF m 174 #[.val (.int p0), .val (.int p1), .val (.int p2), .val (.int p3), .val (.int (0 : Int32)), .val (.int (0 : Int32)), .val (.int (0 : Int32)), .val (.ref b7), .val (.int (0 : Int32)), .val (.ref b10), .unset, .unset] [(.int (0 : Int32))])) _
            refine XS.ifYes X13.here hx rfl (pc0 := 174) (pc' := 202) rfl (hb hby at_174) rfl ((if0 _ _).trans (teq (by decide : ((0 : Int32) = (0 : Int32)))).1) (by decide) (by decide) ?_
            show Steps p.tables e below (T13.setTop (mkF m 202 #[.val (.int p0), .val (.int p1), .val (.int p2), .val (.int p3), .val (.int (0 : Int32)), .val (.int (0 : Int32)), .val (.int (0 : Int32)), .val (.ref b7), .val (.int (0 : Int32)), .val (.ref b10), .unset, .unset] [])) _
            refine XS.aload X13.here hx rfl (hb hby at_202) rfl rfl ?_
            show Steps p.tables e below (T13.setTop (mkF m 204 #[.val (.int p0), .val (.int p1), .val (.int p2), .val (.int p3), .val (.int (0 : Int32)), .val (.int (0 : Int32)), .val (.int (0 : Int32)), .val (.ref b7), .val (.int (0 : Int32)), .val (.ref b10), .unset, .unset] [(.ref b10)])) _
            refine st19.trans ?_
            show Steps p.tables e below (T19.setTop (mkF m 207 #[.val (.int p0), .val (.int p1), .val (.int p2), .val (.int p3), .val (.int (0 : Int32)), .val (.int (0 : Int32)), .val (.int (0 : Int32)), .val (.ref b7), .val (.int (0 : Int32)), .val (.ref b10), .unset, .unset] [(.ref b_19)])) _
            refine XS.astore X19.here hx rfl (hb hby at_207) rfl rfl (l' := #[.val (.int p0), .val (.int p1), .val (.int p2), .val (.int p3), .val (.int (0 : Int32)), .val (.int (0 : Int32)), .val (.int (0 : Int32)), .val (.ref b7), .val (.int (0 : Int32)), .val (.ref b10), .val (.ref b_19), .unset]) rfl ?_
            show Steps p.tables e below (T19.setTop (mkF m 209 #[.val (.int p0), .val (.int p1), .val (.int p2), .val (.int p3), .val (.int (0 : Int32)), .val (.int (0 : Int32)), .val (.int (0 : Int32)), .val (.ref b7), .val (.int (0 : Int32)), .val (.ref b10), .val (.ref b_19), .unset] [])) _
            refine XS.aload X19.here hx rfl (hb hby at_209) rfl rfl ?_
            show Steps p.tables e below (T19.setTop (mkF m 211 #[.val (.int p0), .val (.int p1), .val (.int p2), .val (.int p3), .val (.int (0 : Int32)), .val (.int (0 : Int32)), .val (.int (0 : Int32)), .val (.ref b7), .val (.int (0 : Int32)), .val (.ref b10), .val (.ref b_19), .unset] [(.ref b_19)])) _
            refine X19.arraylength hx Ar22.1 (State.isArrayOf_alike hZ.alike Ar22.2.1) (g := (mkF m 211 #[.val (.int p0), .val (.int p1), .val (.int p2), .val (.int p3), .val (.int (0 : Int32)), .val (.int (0 : Int32)), .val (.int (0 : Int32)), .val (.ref b7), .val (.int (0 : Int32)), .val (.ref b10), .val (.ref b_19), .unset] [(.ref b_19)])) rfl rfl (hb hby at_211) _ ?_
            rw [len_of Sz22 Nn22]
            show Steps p.tables e below (T19.setTop (mkF m 212 #[.val (.int p0), .val (.int p1), .val (.int p2), .val (.int p3), .val (.int (0 : Int32)), .val (.int (0 : Int32)), .val (.int (0 : Int32)), .val (.ref b7), .val (.int (0 : Int32)), .val (.ref b10), .val (.ref b_19), .unset] [(.int (0 : Int32))])) _
            refine XS.iload X19.here hx rfl (hb hby at_212) rfl ?_
            exact kt)
        have hd214_24 : (0 : Int32) = (0 : Int32) := by decide
        have c26 := (((V_b7.ext E10).keep K13q (ninS ne_b7_b10 nin0)).keep K19q nin0)
        obtain ⟨_, _, ⟨T25, L25, k25, n25⟩, -, X25, ⟨Lc25, hQ25, l25, y25, z25⟩, st25⟩ := Jvm.LawKit.callS X19 hx (y := (⟨"com/example/corvid/corvid/ByteWriterToByteArrayPinLaw", "same", "([B[BI)Z"⟩ : MethodName)) hown (mvT hZ (hw _ (List.mem_of_getElem? (i := 45) rfl))) (mvT hZ (hw _ (List.mem_of_getElem? (i := 46) rfl))) (mvT hZ (hw _ (List.mem_of_getElem? (i := 47) rfl))) (mvT hZ (hw _ (List.mem_of_getElem? (i := 48) rfl))) (by decide) (backOf (W := 0) (rm9 l Z a0 hw [] b_19 b7 (0 : Int32) (0 : Int32) (fun _ => 0) (7 : Int32) (fun _ => 0) T19.heap n0 Z21 G19_0 c26 (by decide)) hZ (hw _ (List.mem_of_getElem? (i := 48) rfl)) (hw _ (List.mem_of_getElem? (i := 47) rfl)) (by decide) (by decide)) (g := (mkF m 225 #[.val (.int p0), .val (.int p1), .val (.int p2), .val (.int p3), .val (.int (0 : Int32)), .val (.int (0 : Int32)), .val (.int (0 : Int32)), .val (.ref b7), .val (.int (0 : Int32)), .val (.ref b10), .val (.ref b_19), .unset] [(.int (0 : Int32)), (.ref b7), (.ref b_19)])) rfl (by rw [hml]; rfl) (argsL := [(.ref b_19), (.ref b7), (.int (0 : Int32))]) (rest := []) (lenOf pd_0_2 rfl) rfl (by show 2 * 0 + _ ≤ _; exact Nat.le_of_eq rfl) (hb hby at_225) (fun _ _ => ⟨rfl, rfl, (by decide : 4 + 0 ≤ _), (by decide : 90 + 0 ≤ _)⟩)
        dsimp only [Pt.U, Pt.locs, Pt.cells, Pt.slots] at X25 l25 y25 z25 st25 hQ25
        subst l25 y25 z25
        obtain ⟨rfl, N25q, e25q⟩ := hQ25
        have N25 := Fr.app N19 N25q
        have pre27 : ∀ t, Steps p.tables e below (T25.setTop (mkF m 228 #[.val (.int p0), .val (.int p1), .val (.int p2), .val (.int p3), .val (.int (0 : Int32)), .val (.int (0 : Int32)), .val (.int (0 : Int32)), .val (.ref b7), .val (.int (0 : Int32)), .val (.ref b10), .val (.ref b_19), .unset] [(.int (f9 (0 : Int32) (fun _ => 0) (fun _ => 0)))])) t → Steps p.tables e below (s₁.setTop (entryFrame m #[(.int p0), (.int p1), (.int p2), (.int p3)] maxLocals)) t := fun t kt => pre23 t (by
            show Steps p.tables e below (T19.setTop (mkF m 214 #[.val (.int p0), .val (.int p1), .val (.int p2), .val (.int p3), .val (.int (0 : Int32)), .val (.int (0 : Int32)), .val (.int (0 : Int32)), .val (.ref b7), .val (.int (0 : Int32)), .val (.ref b10), .val (.ref b_19), .unset] [(.int (0 : Int32)), (.int (0 : Int32))])) _
            refine XS.icmpYes X19.here hx rfl (pc0 := 214) (pc' := 219) rfl (hb hby at_214) rfl (teq hd214_24).1 (by decide) (by decide) ?_
            show Steps p.tables e below (T19.setTop (mkF m 219 #[.val (.int p0), .val (.int p1), .val (.int p2), .val (.int p3), .val (.int (0 : Int32)), .val (.int (0 : Int32)), .val (.int (0 : Int32)), .val (.ref b7), .val (.int (0 : Int32)), .val (.ref b10), .val (.ref b_19), .unset] [])) _
            refine XS.aload X19.here hx rfl (hb hby at_219) rfl rfl ?_
            show Steps p.tables e below (T19.setTop (mkF m 221 #[.val (.int p0), .val (.int p1), .val (.int p2), .val (.int p3), .val (.int (0 : Int32)), .val (.int (0 : Int32)), .val (.int (0 : Int32)), .val (.ref b7), .val (.int (0 : Int32)), .val (.ref b10), .val (.ref b_19), .unset] [(.ref b_19)])) _
            refine XS.aload X19.here hx rfl (hb hby at_221) rfl rfl ?_
            show Steps p.tables e below (T19.setTop (mkF m 223 #[.val (.int p0), .val (.int p1), .val (.int p2), .val (.int p3), .val (.int (0 : Int32)), .val (.int (0 : Int32)), .val (.int (0 : Int32)), .val (.ref b7), .val (.int (0 : Int32)), .val (.ref b10), .val (.ref b_19), .unset] [(.ref b7), (.ref b_19)])) _
            refine XS.iload X19.here hx rfl (hb hby at_223) rfl ?_
            show Steps p.tables e below (T19.setTop (mkF m 225 #[.val (.int p0), .val (.int p1), .val (.int p2), .val (.int p3), .val (.int (0 : Int32)), .val (.int (0 : Int32)), .val (.int (0 : Int32)), .val (.ref b7), .val (.int (0 : Int32)), .val (.ref b10), .val (.ref b_19), .unset] [(.int (0 : Int32)), (.ref b7), (.ref b_19)])) _
            refine st25 _ ?_
            exact kt)
        have hd228_28 : ¬ ((f9 (0 : Int32) (fun _ => 0) (fun _ => 0)) = (0 : Int32)) := own_sm _ _ _ (own_pf000 p0 p1 p2)
        have pre29 : ∀ t, Steps p.tables e below (T25.setTop (mkF m 235 #[.val (.int p0), .val (.int p1), .val (.int p2), .val (.int p3), .val (.int (0 : Int32)), .val (.int (0 : Int32)), .val (.int (0 : Int32)), .val (.ref b7), .val (.int (0 : Int32)), .val (.ref b10), .val (.ref b_19), .unset] [(.int (0 : Int32))])) t → Steps p.tables e below (s₁.setTop (entryFrame m #[(.int p0), (.int p1), (.int p2), (.int p3)] maxLocals)) t := fun t kt => pre27 t (by
            show Steps p.tables e below (T25.setTop (mkF m 228 #[.val (.int p0), .val (.int p1), .val (.int p2), .val (.int p3), .val (.int (0 : Int32)), .val (.int (0 : Int32)), .val (.int (0 : Int32)), .val (.ref b7), .val (.int (0 : Int32)), .val (.ref b10), .val (.ref b_19), .unset] [(.int (f9 (0 : Int32) (fun _ => 0) (fun _ => 0)))])) _
            refine XS.ifYes X25.here hx rfl (pc0 := 228) (pc' := 233) rfl (hb hby at_228) rfl ((if0 _ _).trans (feq hd228_28).2) (by decide) (by decide) ?_
            show Steps p.tables e below (T25.setTop (mkF m 233 #[.val (.int p0), .val (.int p1), .val (.int p2), .val (.int p3), .val (.int (0 : Int32)), .val (.int (0 : Int32)), .val (.int (0 : Int32)), .val (.ref b7), .val (.int (0 : Int32)), .val (.ref b10), .val (.ref b_19), .unset] [])) _
            refine XS.iload X25.here hx rfl (hb hby at_233) rfl ?_
            exact kt)
        obtain ⟨cq30, kq30, q30a, q30b, q30c⟩ := isOf hZ e25q ((E_b10.keep K13q).keep K19q)
        obtain ⟨_, _, ⟨T30, L30, k30, n30⟩, -, X30, ⟨Lc30, hQ30, l30, y30, z30⟩, st30⟩ := X25.virtualBack hx (y := (⟨"com/example/corvid/corvid/ByteWriter", "toByteArray", "()[B"⟩ : MethodName)) (z := (⟨"com/example/corvid/corvid/ByteWriter", "toByteArray", "()[B"⟩ : MethodName)) hown (mvT hZ (hw _ (List.mem_of_getElem? (i := 29) rfl))) (mvT hZ (hw _ (List.mem_of_getElem? (i := 30) rfl))) (notFace_of_selects (args := #[]) (mvT hZ (hw _ (List.mem_of_getElem? (i := 32) rfl)))) (mvT hZ (hw _ (List.mem_of_getElem? (i := 32) rfl))) (mvT hZ (hw _ (List.mem_of_getElem? (i := 31) rfl))) (by decide) (backOf (W := 0) (rm6 l Z a0 hw [] b10 (0 : Int32) r_o0_bytes_13 (fun _ => 0) T19.heap n0 Z21 (G13_3.keep K19q nin0) (G13_0.keep K19q nin0) (G13_1.keep K19q nin0) (by decide)) hZ (hw _ (List.mem_of_getElem? (i := 33) rfl)) (hw _ (List.mem_of_getElem? (i := 3) rfl)) (by decide) (by decide)) q30a q30c (g := (mkF m 252 #[.val (.int p0), .val (.int p1), .val (.int p2), .val (.int p3), .val (.int (0 : Int32)), .val (.int (0 : Int32)), .val (.int (0 : Int32)), .val (.ref b7), .val (.int (0 : Int32)), .val (.ref b10), .val (.ref b_19), .unset] [(.ref b10)])) rfl (by rw [hml]; rfl) (Steps.refl _) (argsL := []) (rest := []) (lenOf pd_0_1 rfl) rfl (by show 2 * 0 + _ ≤ _; exact Nat.le_of_eq rfl) (hb hby at_252) (fun _ _ => ⟨rfl, e25q, (by decide : 4 + 1 ≤ _), (by decide : 90 + 16 ≤ _)⟩)
        dsimp only [Pt.U, Pt.locs, Pt.cells, Pt.slots] at X30 l30 y30 z30 st30 hQ30
        subst l30 y30 z30
        obtain ⟨b_30, rfl, N30q, K30q, g_b_30, szq_b_30, G30_0⟩ := hQ30
        have N30 := Fr.app N25 N30q
        have ne_b7_b_30 : b7 ≠ b_30 := Nat.ne_of_lt (Nat.lt_of_lt_of_le c26.lt szq_b_30)
        have ne_b10_b_30 : b10 ≠ b_30 := Nat.ne_of_lt (Nat.lt_of_lt_of_le ((E_b10.keep K13q).keep K19q).lt szq_b_30)
        have ne_r_o0_bytes_13_b_30 : r_o0_bytes_13 ≠ b_30 := Nat.ne_of_lt (Nat.lt_of_lt_of_le (G13_1.keep K19q nin0).lt szq_b_30)
        have ne_b_19_b_30 : b_19 ≠ b_30 := Nat.ne_of_lt (Nat.lt_of_lt_of_le G19_0.lt szq_b_30)
        have sz_b_30 : h0.size ≤ b_30 := Nat.le_trans K20.1 szq_b_30
        have K31 : Keep h0 T30.heap [] := K20.trans K30q all0
        have Z32 : n0 ≤ T30.heap.size := Nat.le_trans Z0 K31.1
        obtain ⟨LS30, X30, N30⟩ : ∃ L, Stand p l e room_1 s m #[(.int p0), (.int p1), (.int p2), (.int p3)] below meth c T30 L 5 106 ∧ Fr n0 L := ⟨_, X30, N30⟩
        have pre33 : ∀ t, Steps p.tables e below (T30.setTop (mkF m 261 #[.val (.int p0), .val (.int p1), .val (.int p2), .val (.int p3), .val (.int (0 : Int32)), .val (.int (0 : Int32)), .val (.int (0 : Int32)), .val (.ref b7), .val (.int (0 : Int32)), .val (.ref b10), .val (.ref b_19), .val (.ref b_30)] [(.ref b_19), (.ref b_30)])) t → Steps p.tables e below (s₁.setTop (entryFrame m #[(.int p0), (.int p1), (.int p2), (.int p3)] maxLocals)) t := fun t kt => pre29 t (by
            show Steps p.tables e below (T25.setTop (mkF m 235 #[.val (.int p0), .val (.int p1), .val (.int p2), .val (.int p3), .val (.int (0 : Int32)), .val (.int (0 : Int32)), .val (.int (0 : Int32)), .val (.ref b7), .val (.int (0 : Int32)), .val (.ref b10), .val (.ref b_19), .unset] [(.int (0 : Int32))])) _
            refine XS.ifYes X25.here hx rfl (pc0 := 235) (pc' := 250) rfl (hb hby at_235) rfl ((if0 _ _).trans (flt (by decide : ¬ ((0 : Int32) < (0 : Int32)))).2.2.2) (by decide) (by decide) ?_
            show Steps p.tables e below (T25.setTop (mkF m 250 #[.val (.int p0), .val (.int p1), .val (.int p2), .val (.int p3), .val (.int (0 : Int32)), .val (.int (0 : Int32)), .val (.int (0 : Int32)), .val (.ref b7), .val (.int (0 : Int32)), .val (.ref b10), .val (.ref b_19), .unset] [])) _
            refine XS.aload X25.here hx rfl (hb hby at_250) rfl rfl ?_
            show Steps p.tables e below (T25.setTop (mkF m 252 #[.val (.int p0), .val (.int p1), .val (.int p2), .val (.int p3), .val (.int (0 : Int32)), .val (.int (0 : Int32)), .val (.int (0 : Int32)), .val (.ref b7), .val (.int (0 : Int32)), .val (.ref b10), .val (.ref b_19), .unset] [(.ref b10)])) _
            refine st30.trans ?_
            show Steps p.tables e below (T30.setTop (mkF m 255 #[.val (.int p0), .val (.int p1), .val (.int p2), .val (.int p3), .val (.int (0 : Int32)), .val (.int (0 : Int32)), .val (.int (0 : Int32)), .val (.ref b7), .val (.int (0 : Int32)), .val (.ref b10), .val (.ref b_19), .unset] [(.ref b_30)])) _
            refine XS.astore X30.here hx rfl (hb hby at_255) rfl rfl (l' := #[.val (.int p0), .val (.int p1), .val (.int p2), .val (.int p3), .val (.int (0 : Int32)), .val (.int (0 : Int32)), .val (.int (0 : Int32)), .val (.ref b7), .val (.int (0 : Int32)), .val (.ref b10), .val (.ref b_19), .val (.ref b_30)]) rfl ?_
            show Steps p.tables e below (T30.setTop (mkF m 257 #[.val (.int p0), .val (.int p1), .val (.int p2), .val (.int p3), .val (.int (0 : Int32)), .val (.int (0 : Int32)), .val (.int (0 : Int32)), .val (.ref b7), .val (.int (0 : Int32)), .val (.ref b10), .val (.ref b_19), .val (.ref b_30)] [])) _
            refine XS.aload X30.here hx rfl (hb hby at_257) rfl rfl ?_
            show Steps p.tables e below (T30.setTop (mkF m 259 #[.val (.int p0), .val (.int p1), .val (.int p2), .val (.int p3), .val (.int (0 : Int32)), .val (.int (0 : Int32)), .val (.int (0 : Int32)), .val (.ref b7), .val (.int (0 : Int32)), .val (.ref b10), .val (.ref b_19), .val (.ref b_30)] [(.ref b_30)])) _
            refine XS.aload X30.here hx rfl (hb hby at_259) rfl rfl ?_
            exact kt)
        obtain ⟨cl34, Ar34, Sz34, Nn34, -⟩ := id G30_0
        have pre35 : ∀ t, Steps p.tables e below (T30.setTop (mkF m 269 #[.val (.int p0), .val (.int p1), .val (.int p2), .val (.int p3), .val (.int (0 : Int32)), .val (.int (0 : Int32)), .val (.int (0 : Int32)), .val (.ref b7), .val (.int (0 : Int32)), .val (.ref b10), .val (.ref b_19), .val (.ref b_30)] [(.int (0 : Int32)), (.int (0 : Int32))])) t → Steps p.tables e below (s₁.setTop (entryFrame m #[(.int p0), (.int p1), (.int p2), (.int p3)] maxLocals)) t := fun t kt => pre33 t (by
            show Steps p.tables e below (T30.setTop (mkF m 261 #[.val (.int p0), .val (.int p1), .val (.int p2), .val (.int p3), .val (.int (0 : Int32)), .val (.int (0 : Int32)), .val (.int (0 : Int32)), .val (.ref b7), .val (.int (0 : Int32)), .val (.ref b10), .val (.ref b_19), .val (.ref b_30)] [(.ref b_19), (.ref b_30)])) _
            refine Jvm.RoadKit.acmp (g := (mkF m 261 #[.val (.int p0), .val (.int p1), .val (.int p2), .val (.int p3), .val (.int (0 : Int32)), .val (.int (0 : Int32)), .val (.int (0 : Int32)), .val (.ref b7), .val (.int (0 : Int32)), .val (.ref b10), .val (.ref b_19), .val (.ref b_30)] [(.ref b_19), (.ref b_30)])) X30 hx rfl rfl rfl (pc0 := 261) (pc' := 264) (same := false) rfl (hb hby at_261) rfl (decide_eq_false fun q => (Ne.symm ne_b_19_b_30) (Value.ref.inj q)) (by decide) (by decide) ?_
            show Steps p.tables e below (T30.setTop (mkF m 264 #[.val (.int p0), .val (.int p1), .val (.int p2), .val (.int p3), .val (.int (0 : Int32)), .val (.int (0 : Int32)), .val (.int (0 : Int32)), .val (.ref b7), .val (.int (0 : Int32)), .val (.ref b10), .val (.ref b_19), .val (.ref b_30)] [])) _
            refine XS.aload X30.here hx rfl (hb hby at_264) rfl rfl ?_
            show Steps p.tables e below (T30.setTop (mkF m 266 #[.val (.int p0), .val (.int p1), .val (.int p2), .val (.int p3), .val (.int (0 : Int32)), .val (.int (0 : Int32)), .val (.int (0 : Int32)), .val (.ref b7), .val (.int (0 : Int32)), .val (.ref b10), .val (.ref b_19), .val (.ref b_30)] [(.ref b_30)])) _
            refine X30.arraylength hx Ar34.1 (State.isArrayOf_alike hZ.alike Ar34.2.1) (g := (mkF m 266 #[.val (.int p0), .val (.int p1), .val (.int p2), .val (.int p3), .val (.int (0 : Int32)), .val (.int (0 : Int32)), .val (.int (0 : Int32)), .val (.ref b7), .val (.int (0 : Int32)), .val (.ref b10), .val (.ref b_19), .val (.ref b_30)] [(.ref b_30)])) rfl rfl (hb hby at_266) _ ?_
            rw [len_of Sz34 Nn34]
            show Steps p.tables e below (T30.setTop (mkF m 267 #[.val (.int p0), .val (.int p1), .val (.int p2), .val (.int p3), .val (.int (0 : Int32)), .val (.int (0 : Int32)), .val (.int (0 : Int32)), .val (.ref b7), .val (.int (0 : Int32)), .val (.ref b10), .val (.ref b_19), .val (.ref b_30)] [(.int (0 : Int32))])) _
            refine XS.iload X30.here hx rfl (hb hby at_267) rfl ?_
            exact kt)
        have hd269_36 : (0 : Int32) = (0 : Int32) := by decide
        obtain ⟨_, _, ⟨T37, L37, k37, n37⟩, -, X37, ⟨Lc37, hQ37, l37, y37, z37⟩, st37⟩ := Jvm.LawKit.callS X30 hx (y := (⟨"com/example/corvid/corvid/ByteWriterToByteArrayPinLaw", "same", "([B[BI)Z"⟩ : MethodName)) hown (mvT hZ (hw _ (List.mem_of_getElem? (i := 45) rfl))) (mvT hZ (hw _ (List.mem_of_getElem? (i := 46) rfl))) (mvT hZ (hw _ (List.mem_of_getElem? (i := 47) rfl))) (mvT hZ (hw _ (List.mem_of_getElem? (i := 48) rfl))) (by decide) (backOf (W := 0) (rm9 l Z a0 hw [] b_30 b7 (0 : Int32) (0 : Int32) (fun _ => 0) (7 : Int32) (fun _ => 0) T30.heap n0 Z32 G30_0 (c26.keep K30q nin0) (by decide)) hZ (hw _ (List.mem_of_getElem? (i := 48) rfl)) (hw _ (List.mem_of_getElem? (i := 47) rfl)) (by decide) (by decide)) (g := (mkF m 278 #[.val (.int p0), .val (.int p1), .val (.int p2), .val (.int p3), .val (.int (0 : Int32)), .val (.int (0 : Int32)), .val (.int (0 : Int32)), .val (.ref b7), .val (.int (0 : Int32)), .val (.ref b10), .val (.ref b_19), .val (.ref b_30)] [(.int (0 : Int32)), (.ref b7), (.ref b_30)])) rfl (by rw [hml]; rfl) (argsL := [(.ref b_30), (.ref b7), (.int (0 : Int32))]) (rest := []) (lenOf pd_0_2 rfl) rfl (by show 2 * 0 + _ ≤ _; exact Nat.le_of_eq rfl) (hb hby at_278) (fun _ _ => ⟨rfl, rfl, (by decide : 5 + 0 ≤ _), (by decide : 106 + 0 ≤ _)⟩)
        dsimp only [Pt.U, Pt.locs, Pt.cells, Pt.slots] at X37 l37 y37 z37 st37 hQ37
        subst l37 y37 z37
        obtain ⟨rfl, N37q, e37q⟩ := hQ37
        have N37 := Fr.app N30 N37q
        have pre38 : ∀ t, Steps p.tables e below (T37.setTop (mkF m 281 #[.val (.int p0), .val (.int p1), .val (.int p2), .val (.int p3), .val (.int (0 : Int32)), .val (.int (0 : Int32)), .val (.int (0 : Int32)), .val (.ref b7), .val (.int (0 : Int32)), .val (.ref b10), .val (.ref b_19), .val (.ref b_30)] [(.int (f9 (0 : Int32) (fun _ => 0) (fun _ => 0)))])) t → Steps p.tables e below (s₁.setTop (entryFrame m #[(.int p0), (.int p1), (.int p2), (.int p3)] maxLocals)) t := fun t kt => pre35 t (by
            show Steps p.tables e below (T30.setTop (mkF m 269 #[.val (.int p0), .val (.int p1), .val (.int p2), .val (.int p3), .val (.int (0 : Int32)), .val (.int (0 : Int32)), .val (.int (0 : Int32)), .val (.ref b7), .val (.int (0 : Int32)), .val (.ref b10), .val (.ref b_19), .val (.ref b_30)] [(.int (0 : Int32)), (.int (0 : Int32))])) _
            refine XS.icmpNo X30.here hx rfl (hb hby at_269) rfl (teq hd269_36).2 ?_
            show Steps p.tables e below (T30.setTop (mkF m 272 #[.val (.int p0), .val (.int p1), .val (.int p2), .val (.int p3), .val (.int (0 : Int32)), .val (.int (0 : Int32)), .val (.int (0 : Int32)), .val (.ref b7), .val (.int (0 : Int32)), .val (.ref b10), .val (.ref b_19), .val (.ref b_30)] [])) _
            refine XS.aload X30.here hx rfl (hb hby at_272) rfl rfl ?_
            show Steps p.tables e below (T30.setTop (mkF m 274 #[.val (.int p0), .val (.int p1), .val (.int p2), .val (.int p3), .val (.int (0 : Int32)), .val (.int (0 : Int32)), .val (.int (0 : Int32)), .val (.ref b7), .val (.int (0 : Int32)), .val (.ref b10), .val (.ref b_19), .val (.ref b_30)] [(.ref b_30)])) _
            refine XS.aload X30.here hx rfl (hb hby at_274) rfl rfl ?_
            show Steps p.tables e below (T30.setTop (mkF m 276 #[.val (.int p0), .val (.int p1), .val (.int p2), .val (.int p3), .val (.int (0 : Int32)), .val (.int (0 : Int32)), .val (.int (0 : Int32)), .val (.ref b7), .val (.int (0 : Int32)), .val (.ref b10), .val (.ref b_19), .val (.ref b_30)] [(.ref b7), (.ref b_30)])) _
            refine XS.iload X30.here hx rfl (hb hby at_276) rfl ?_
            show Steps p.tables e below (T30.setTop (mkF m 278 #[.val (.int p0), .val (.int p1), .val (.int p2), .val (.int p3), .val (.int (0 : Int32)), .val (.int (0 : Int32)), .val (.int (0 : Int32)), .val (.ref b7), .val (.int (0 : Int32)), .val (.ref b10), .val (.ref b_19), .val (.ref b_30)] [(.int (0 : Int32)), (.ref b7), (.ref b_30)])) _
            refine st37 _ ?_
            exact kt)
        have hd281_39 : ¬ ((f9 (0 : Int32) (fun _ => 0) (fun _ => 0)) = (0 : Int32)) := own_sm _ _ _ (own_pf000 p0 p1 p2)
        obtain ⟨fs, hr, hrun, hended, hW, hsame⟩ := X37.leave (v := some (.int (1 : Int32))) (fun h => by rw [Bd.returns] at h; cases h)
        have hv517 : (1 : Int32) = (1 : Int32) := rfl
        refine ⟨_, _, pre38 _ ?_, hrun, hended, _, _, rfl, ?_, ⟨_, rfl⟩, hW, hsame.mono (by decide) (by decide)⟩
        · show Steps p.tables e below (T37.setTop (mkF m 281 #[.val (.int p0), .val (.int p1), .val (.int p2), .val (.int p3), .val (.int (0 : Int32)), .val (.int (0 : Int32)), .val (.int (0 : Int32)), .val (.ref b7), .val (.int (0 : Int32)), .val (.ref b10), .val (.ref b_19), .val (.ref b_30)] [(.int (f9 (0 : Int32) (fun _ => 0) (fun _ => 0)))])) _
          refine XS.ifNo X37.here hx rfl (hb hby at_281) rfl ((if0 _ _).trans (feq hd281_39).1) ?_
          show Steps p.tables e below (T37.setTop (mkF m 284 #[.val (.int p0), .val (.int p1), .val (.int p2), .val (.int p3), .val (.int (0 : Int32)), .val (.int (0 : Int32)), .val (.int (0 : Int32)), .val (.ref b7), .val (.int (0 : Int32)), .val (.ref b10), .val (.ref b_19), .val (.ref b_30)] [])) _
          refine XS.iconst X37.here hx rfl (hb hby at_284) ?_
          show Steps p.tables e below (T37.setTop (mkF m 285 #[.val (.int p0), .val (.int p1), .val (.int p2), .val (.int p3), .val (.int (0 : Int32)), .val (.int (0 : Int32)), .val (.int (0 : Int32)), .val (.ref b7), .val (.int (0 : Int32)), .val (.ref b10), .val (.ref b_19), .val (.ref b_30)] [(.int (1 : Int32))])) _
          refine XS.goto X37.here hx rfl (pc0 := 285) (pc' := 289) rfl (hb hby at_285) (by decide) (by decide) ?_
          show Steps p.tables e below (T37.setTop (mkF m 289 #[.val (.int p0), .val (.int p1), .val (.int p2), .val (.int p3), .val (.int (0 : Int32)), .val (.int (0 : Int32)), .val (.int (0 : Int32)), .val (.ref b7), .val (.int (0 : Int32)), .val (.ref b10), .val (.ref b_19), .val (.ref b_30)] [(.int (1 : Int32))])) _
          exact retN X37 hx (t := .boolean) Bd.returns (by simp) (hb hby at_289) hr
        · show Q0 Z p0 p1 p2 p3 h0 n0 _ T37.heap _
          rw [e37q]
          exact ⟨congrArg (fun q => some (Value.int q)) hv517, N37⟩
      · obtain ⟨T40, h40, k40, X40, e40, E40, A40, st40⟩ := newP X0 hx hZ (hw _ (List.mem_of_getElem? (i := 0) rfl)) e0 (g := (mkF m 41 #[.val (.int p0), .val (.int p1), .val (.int p2), .val (.int p3), .val (.int (0 : Int32)), .val (.int (0 : Int32)), .val (.int (1 : Int32)), .unset, .unset, .unset, .unset, .unset] [(.int (7 : Int32))])) rfl (hb hby at_41) rfl (by decide) (cap := 7) (by decide) (by decide) (by decide) (by decide)
        obtain ⟨b40, g40⟩ : ∃ z, z = h0.size := ⟨_, rfl⟩
        rw [← g40] at A40 st40
        have g_b40 : n0 ≤ b40 := Nat.le_trans Z0 (Nat.le_of_eq g40.symm)
        have sz_b40 : h0.size ≤ b40 := Nat.le_trans (Keep.refl h0 []).1 (Nat.le_of_eq g40.symm)
        have K41 : Keep h0 h40 [] := (Keep.refl h0 []).ext E40
        have Z42 : n0 ≤ h40.size := Nat.le_trans Z0 K41.1
        have V_b40 : own_AI Z h40 b40 .byte (7 : Int32) (fun _ => 0) := own_AI.new A40 (by decide) rfl
        obtain ⟨T43, h43, X43, e43, E43, A43, D43, -, st43⟩ := newO X40 hx hZ hown (hw _ (List.mem_of_getElem? (i := 1) rfl)) (hw _ (List.mem_of_getElem? (i := 2) rfl)) (hw _ (List.mem_of_getElem? (i := 3) rfl)) e40 (g := (mkF m 48 #[.val (.int p0), .val (.int p1), .val (.int p2), .val (.int p3), .val (.int (0 : Int32)), .val (.int (0 : Int32)), .val (.int (1 : Int32)), .val (.ref b40), .val (.int (0 : Int32)), .unset, .unset, .unset] [])) rfl (hb hby at_48) (by decide) (by decide)
        obtain ⟨b43, g43⟩ : ∃ z, z = h40.size := ⟨_, rfl⟩
        rw [← g43] at A43 D43 st43
        have g_b43 : n0 ≤ b43 := Nat.le_trans Z42 (Nat.le_of_eq g43.symm)
        have sz_b43 : h0.size ≤ b43 := Nat.le_trans K41.1 (Nat.le_of_eq g43.symm)
        have ne_b40_b43 : b40 ≠ b43 := Nat.ne_of_lt (Nat.lt_of_lt_of_le V_b40.lt (Nat.le_of_eq g43.symm))
        have K44 : Keep h0 h43 [] := K41.ext E43
        have Z45 : n0 ≤ h43.size := Nat.le_trans Z0 K44.1
        have E_b43 := A43
        have F_bytes_b43 : Fld Z h43 b43 "com/example/corvid/corvid/ByteWriter" "bytes" "[B" .null := D43 (Or.inl (hw _ (List.mem_of_getElem? (i := 11) rfl))) (ty := (.array .byte)) (by decide)
        have F_encapsulationStart_b43 : Fld Z h43 b43 "com/example/corvid/corvid/ByteWriter" "encapsulationStart" "I" (.int (0 : Int32)) := D43 (Or.inl (hw _ (List.mem_of_getElem? (i := 13) rfl))) (ty := .int) (by decide)
        have F_length_b43 : Fld Z h43 b43 "com/example/corvid/corvid/ByteWriter" "length" "I" (.int (0 : Int32)) := D43 (Or.inl (hw _ (List.mem_of_getElem? (i := 24) rfl))) (ty := .int) (by decide)
        obtain ⟨_, _, ⟨T46, L46, k46, n46⟩, -, X46, ⟨Lc46, hQ46, l46, y46, z46⟩, st46⟩ := X43.specialBack hx (y := (⟨"com/example/corvid/corvid/ByteWriter", "<init>", "()V"⟩ : MethodName)) rfl hown (mvT hZ (hw _ (List.mem_of_getElem? (i := 4) rfl))) (mvT hZ (hw _ (List.mem_of_getElem? (i := 5) rfl))) (mvT hZ (hw _ (List.mem_of_getElem? (i := 6) rfl))) (by decide) (backOf (W := 1) (rm1 l Z a0 hw [] b43 (0 : Int32) (0 : Int32) h43 n0 Z45 E_b43 F_length_b43 F_bytes_b43 g_b43 F_encapsulationStart_b43) hZ (hw _ (List.mem_of_getElem? (i := 6) rfl)) (hw _ (List.mem_of_getElem? (i := 3) rfl)) (by decide) (by decide)) (g := (mkF m 52 #[.val (.int p0), .val (.int p1), .val (.int p2), .val (.int p3), .val (.int (0 : Int32)), .val (.int (0 : Int32)), .val (.int (1 : Int32)), .val (.ref b40), .val (.int (0 : Int32)), .unset, .unset, .unset] [(.ref b43), (.ref b43)])) rfl (by rw [hml]; rfl) (Steps.refl _) (a := b43) (argsL := []) (rest := [(.ref b43)]) (lenOf pd_0_0 rfl) rfl (by show 2 * 0 + _ ≤ _; exact Nat.le_of_eq rfl) (hb hby at_52) (fun _ _ => ⟨rfl, e43, (by decide : 2 + 1 ≤ _), (by decide : 10 + 64 ≤ _)⟩)
        dsimp only [Pt.U, Pt.locs, Pt.cells, Pt.slots] at X46 l46 y46 z46 st46 hQ46
        subst l46 y46 z46
        obtain ⟨r_o0_bytes_46, rfl, N46q, K46q, g_r_o0_bytes_46, szq_r_o0_bytes_46, G46_0, G46_1, G46_2, G46_3⟩ := hQ46
        have N46 := Fr.app N0 N46q
        have ne_b40_r_o0_bytes_46 : b40 ≠ r_o0_bytes_46 := Nat.ne_of_lt (Nat.lt_of_lt_of_le (V_b40.ext E43).lt szq_r_o0_bytes_46)
        have ne_b43_r_o0_bytes_46 : b43 ≠ r_o0_bytes_46 := Nat.ne_of_lt (Nat.lt_of_lt_of_le E_b43.lt szq_r_o0_bytes_46)
        have sz_r_o0_bytes_46 : h0.size ≤ r_o0_bytes_46 := Nat.le_trans K44.1 szq_r_o0_bytes_46
        have K47 : Keep h0 T46.heap [] := K44.trans K46q (allS (Or.inr sz_b43) all0)
        have Z48 : n0 ≤ T46.heap.size := Nat.le_trans Z0 K47.1
        obtain ⟨LS46, X46, N46⟩ : ∃ L, Stand p l e room_1 s m #[(.int p0), (.int p1), (.int p2), (.int p3)] below meth c T46 L 3 74 ∧ Fr n0 L := ⟨_, X46, N46⟩
        have pre49 : ∀ t, Steps p.tables e below (T46.setTop (mkF m 59 #[.val (.int p0), .val (.int p1), .val (.int p2), .val (.int p3), .val (.int (0 : Int32)), .val (.int (0 : Int32)), .val (.int (1 : Int32)), .val (.ref b40), .val (.int (0 : Int32)), .val (.ref b43), .unset, .unset] [(.int (0 : Int32))])) t → Steps p.tables e below (s₁.setTop (entryFrame m #[(.int p0), (.int p1), (.int p2), (.int p3)] maxLocals)) t := fun t kt => pre5 t (by
            show Steps p.tables e below (s₁.setTop (mkF m 29 #[.val (.int p0), .val (.int p1), .val (.int p2), .val (.int p3), .val (.int (0 : Int32)), .val (.int (0 : Int32)), .unset, .unset, .unset, .unset, .unset, .unset] [(.int (p3 &&& (4 : Int32)))])) _
            refine XS.ifNo X0.here hx rfl (hb hby at_29) rfl ((if0 _ _).trans (feq hc29_6).1) ?_
            show Steps p.tables e below (s₁.setTop (mkF m 32 #[.val (.int p0), .val (.int p1), .val (.int p2), .val (.int p3), .val (.int (0 : Int32)), .val (.int (0 : Int32)), .unset, .unset, .unset, .unset, .unset, .unset] [])) _
            refine XS.iconst X0.here hx rfl (hb hby at_32) ?_
            show Steps p.tables e below (s₁.setTop (mkF m 33 #[.val (.int p0), .val (.int p1), .val (.int p2), .val (.int p3), .val (.int (0 : Int32)), .val (.int (0 : Int32)), .unset, .unset, .unset, .unset, .unset, .unset] [(.int (1 : Int32))])) _
            refine XS.goto X0.here hx rfl (pc0 := 33) (pc' := 37) rfl (hb hby at_33) (by decide) (by decide) ?_
            show Steps p.tables e below (s₁.setTop (mkF m 37 #[.val (.int p0), .val (.int p1), .val (.int p2), .val (.int p3), .val (.int (0 : Int32)), .val (.int (0 : Int32)), .unset, .unset, .unset, .unset, .unset, .unset] [(.int (1 : Int32))])) _
            refine XS.istore X0.here hx rfl (hb hby at_37) rfl (l' := #[.val (.int p0), .val (.int p1), .val (.int p2), .val (.int p3), .val (.int (0 : Int32)), .val (.int (0 : Int32)), .val (.int (1 : Int32)), .unset, .unset, .unset, .unset, .unset]) rfl ?_
            show Steps p.tables e below (s₁.setTop (mkF m 39 #[.val (.int p0), .val (.int p1), .val (.int p2), .val (.int p3), .val (.int (0 : Int32)), .val (.int (0 : Int32)), .val (.int (1 : Int32)), .unset, .unset, .unset, .unset, .unset] [])) _
            refine XS.bipush X0.here hx rfl (hb hby at_39) ?_
            show Steps p.tables e below (s₁.setTop (mkF m 41 #[.val (.int p0), .val (.int p1), .val (.int p2), .val (.int p3), .val (.int (0 : Int32)), .val (.int (0 : Int32)), .val (.int (1 : Int32)), .unset, .unset, .unset, .unset, .unset] [(.int (7 : Int32))])) _
            refine st40 _ ?_
            show Steps p.tables e below (T40.setTop (mkF m 43 #[.val (.int p0), .val (.int p1), .val (.int p2), .val (.int p3), .val (.int (0 : Int32)), .val (.int (0 : Int32)), .val (.int (1 : Int32)), .unset, .unset, .unset, .unset, .unset] [(.ref b40)])) _
            refine XS.astore X40.here hx rfl (hb hby at_43) rfl rfl (l' := #[.val (.int p0), .val (.int p1), .val (.int p2), .val (.int p3), .val (.int (0 : Int32)), .val (.int (0 : Int32)), .val (.int (1 : Int32)), .val (.ref b40), .unset, .unset, .unset, .unset]) rfl ?_
            show Steps p.tables e below (T40.setTop (mkF m 45 #[.val (.int p0), .val (.int p1), .val (.int p2), .val (.int p3), .val (.int (0 : Int32)), .val (.int (0 : Int32)), .val (.int (1 : Int32)), .val (.ref b40), .unset, .unset, .unset, .unset] [])) _
            refine XS.iconst X40.here hx rfl (hb hby at_45) ?_
            show Steps p.tables e below (T40.setTop (mkF m 46 #[.val (.int p0), .val (.int p1), .val (.int p2), .val (.int p3), .val (.int (0 : Int32)), .val (.int (0 : Int32)), .val (.int (1 : Int32)), .val (.ref b40), .unset, .unset, .unset, .unset] [(.int (0 : Int32))])) _
            refine XS.istore X40.here hx rfl (hb hby at_46) rfl (l' := #[.val (.int p0), .val (.int p1), .val (.int p2), .val (.int p3), .val (.int (0 : Int32)), .val (.int (0 : Int32)), .val (.int (1 : Int32)), .val (.ref b40), .val (.int (0 : Int32)), .unset, .unset, .unset]) rfl ?_
            show Steps p.tables e below (T40.setTop (mkF m 48 #[.val (.int p0), .val (.int p1), .val (.int p2), .val (.int p3), .val (.int (0 : Int32)), .val (.int (0 : Int32)), .val (.int (1 : Int32)), .val (.ref b40), .val (.int (0 : Int32)), .unset, .unset, .unset] [])) _
            refine st43 _ ?_
            show Steps p.tables e below (T43.setTop (mkF m 51 #[.val (.int p0), .val (.int p1), .val (.int p2), .val (.int p3), .val (.int (0 : Int32)), .val (.int (0 : Int32)), .val (.int (1 : Int32)), .val (.ref b40), .val (.int (0 : Int32)), .unset, .unset, .unset] [(.ref b43)])) _
            refine XS.dup X43.here hx rfl (hb hby at_51) rfl rfl ?_
            show Steps p.tables e below (T43.setTop (mkF m 52 #[.val (.int p0), .val (.int p1), .val (.int p2), .val (.int p3), .val (.int (0 : Int32)), .val (.int (0 : Int32)), .val (.int (1 : Int32)), .val (.ref b40), .val (.int (0 : Int32)), .unset, .unset, .unset] [(.ref b43), (.ref b43)])) _
            refine st46.trans ?_
            show Steps p.tables e below (T46.setTop (mkF m 55 #[.val (.int p0), .val (.int p1), .val (.int p2), .val (.int p3), .val (.int (0 : Int32)), .val (.int (0 : Int32)), .val (.int (1 : Int32)), .val (.ref b40), .val (.int (0 : Int32)), .unset, .unset, .unset] [(.ref b43)])) _
            refine XS.astore X46.here hx rfl (hb hby at_55) rfl rfl (l' := #[.val (.int p0), .val (.int p1), .val (.int p2), .val (.int p3), .val (.int (0 : Int32)), .val (.int (0 : Int32)), .val (.int (1 : Int32)), .val (.ref b40), .val (.int (0 : Int32)), .val (.ref b43), .unset, .unset]) rfl ?_
            show Steps p.tables e below (T46.setTop (mkF m 57 #[.val (.int p0), .val (.int p1), .val (.int p2), .val (.int p3), .val (.int (0 : Int32)), .val (.int (0 : Int32)), .val (.int (1 : Int32)), .val (.ref b40), .val (.int (0 : Int32)), .val (.ref b43), .unset, .unset] [])) _
            refine XS.iload X46.here hx rfl (hb hby at_57) rfl ?_
            exact kt)
        have pre50 : ∀ t, Steps p.tables e below (T46.setTop (mkF m 132 #[.val (.int p0), .val (.int p1), .val (.int p2), .val (.int p3), .val (.int (0 : Int32)), .val (.int (0 : Int32)), .val (.int (1 : Int32)), .val (.ref b40), .val (.int (0 : Int32)), .val (.ref b43), .unset, .unset] [(.int (0 : Int32))])) t → Steps p.tables e below (s₁.setTop (entryFrame m #[(.int p0), (.int p1), (.int p2), (.int p3)] maxLocals)) t := fun t kt => pre49 t (by
            show Steps p.tables e below (T46.setTop (mkF m 59 #[.val (.int p0), .val (.int p1), .val (.int p2), .val (.int p3), .val (.int (0 : Int32)), .val (.int (0 : Int32)), .val (.int (1 : Int32)), .val (.ref b40), .val (.int (0 : Int32)), .val (.ref b43), .unset, .unset] [(.int (0 : Int32))])) _
            refine XS.ifYes X46.here hx rfl (pc0 := 59) (pc' := 130) rfl (hb hby at_59) rfl ((if0 _ _).trans (teq (by decide : ((0 : Int32) = (0 : Int32)))).1) (by decide) (by decide) ?_
            show Steps p.tables e below (T46.setTop (mkF m 130 #[.val (.int p0), .val (.int p1), .val (.int p2), .val (.int p3), .val (.int (0 : Int32)), .val (.int (0 : Int32)), .val (.int (1 : Int32)), .val (.ref b40), .val (.int (0 : Int32)), .val (.ref b43), .unset, .unset] [])) _
            refine XS.iload X46.here hx rfl (hb hby at_130) rfl ?_
            exact kt)
        have pre51 : ∀ t, Steps p.tables e below (T46.setTop (mkF m 174 #[.val (.int p0), .val (.int p1), .val (.int p2), .val (.int p3), .val (.int (0 : Int32)), .val (.int (0 : Int32)), .val (.int (1 : Int32)), .val (.ref b40), .val (.int (0 : Int32)), .val (.ref b43), .unset, .unset] [(.int (1 : Int32))])) t → Steps p.tables e below (s₁.setTop (entryFrame m #[(.int p0), (.int p1), (.int p2), (.int p3)] maxLocals)) t := fun t kt => pre50 t (by
            show Steps p.tables e below (T46.setTop (mkF m 132 #[.val (.int p0), .val (.int p1), .val (.int p2), .val (.int p3), .val (.int (0 : Int32)), .val (.int (0 : Int32)), .val (.int (1 : Int32)), .val (.ref b40), .val (.int (0 : Int32)), .val (.ref b43), .unset, .unset] [(.int (0 : Int32))])) _
            refine XS.ifYes X46.here hx rfl (pc0 := 132) (pc' := 172) rfl (hb hby at_132) rfl ((if0 _ _).trans (teq (by decide : ((0 : Int32) = (0 : Int32)))).1) (by decide) (by decide) ?_
            show Steps p.tables e below (T46.setTop (mkF m 172 #[.val (.int p0), .val (.int p1), .val (.int p2), .val (.int p3), .val (.int (0 : Int32)), .val (.int (0 : Int32)), .val (.int (1 : Int32)), .val (.ref b40), .val (.int (0 : Int32)), .val (.ref b43), .unset, .unset] [])) _
            refine XS.iload X46.here hx rfl (hb hby at_172) rfl ?_
            exact kt)
        obtain ⟨cq52, kq52, q52a, q52b, q52c⟩ := isOf hZ rfl (E_b43.keep K46q)
        obtain ⟨_, _, ⟨T52, L52, k52, n52⟩, -, X52, ⟨Lc52, hQ52, l52, y52, z52⟩, st52⟩ := X46.virtualBack hx (y := (⟨"com/example/corvid/corvid/ByteWriter", "writeByte", "(I)V"⟩ : MethodName)) (z := (⟨"com/example/corvid/corvid/ByteWriter", "writeByte", "(I)V"⟩ : MethodName)) hown (mvT hZ (hw _ (List.mem_of_getElem? (i := 57) rfl))) (mvT hZ (hw _ (List.mem_of_getElem? (i := 58) rfl))) (notFace_of_selects (args := #[]) (mvT hZ (hw _ (List.mem_of_getElem? (i := 60) rfl)))) (mvT hZ (hw _ (List.mem_of_getElem? (i := 60) rfl))) (mvT hZ (hw _ (List.mem_of_getElem? (i := 59) rfl))) (by decide) (backOf (W := 0) (rm12 l Z a0 hw [] b43 (p2 &&& (255 : Int32)) (0 : Int32) r_o0_bytes_46 (fun _ => 0) T46.heap n0 Z48 (E_b43.keep K46q) G46_3 G46_0 G46_1 ne_b43_r_o0_bytes_46 (by decide) g_b43 g_r_o0_bytes_46 (own_v255 _)) hZ (hw _ (List.mem_of_getElem? (i := 61) rfl)) (hw _ (List.mem_of_getElem? (i := 3) rfl)) (by decide) (by decide)) q52a q52c (g := (mkF m 188 #[.val (.int p0), .val (.int p1), .val (.int p2), .val (.int p3), .val (.int (0 : Int32)), .val (.int (0 : Int32)), .val (.int (1 : Int32)), .val (.ref b40), .val (.int (0 : Int32)), .val (.ref b43), .val (.int (p2 &&& (255 : Int32))), .unset] [(.int (p2 &&& (255 : Int32))), (.ref b43)])) rfl (by rw [hml]; rfl) (Steps.refl _) (argsL := [(.int (p2 &&& (255 : Int32)))]) (rest := []) (lenOf pd_0_3 rfl) rfl (by show 2 * 0 + _ ≤ _; exact Nat.le_of_eq rfl) (hb hby at_188) (fun _ _ => ⟨rfl, rfl, (by decide : 3 + 0 ≤ _), (by decide : 74 + 0 ≤ _)⟩)
        dsimp only [Pt.U, Pt.locs, Pt.cells, Pt.slots] at X52 l52 y52 z52 st52 hQ52
        subst l52 y52 z52
        obtain ⟨rfl, N52q, K52q, G52_0, G52_1, G52_2⟩ := hQ52
        have N52 := Fr.app N46 N52q
        have K53 : Keep h0 T52.heap [] := K47.trans K52q (allS (Or.inr sz_b43) (allS (Or.inr sz_r_o0_bytes_46) all0))
        have Z54 : n0 ≤ T52.heap.size := Nat.le_trans Z0 K53.1
        obtain ⟨LS52, X52, N52⟩ : ∃ L, Stand p l e room_1 s m #[(.int p0), (.int p1), (.int p2), (.int p3)] below meth c T52 L 3 74 ∧ Fr n0 L := ⟨_, X52, N52⟩
        have c56 := (((V_b40.ext E43).keep K46q (ninS ne_b40_b43 nin0)).keep K52q (ninS ne_b40_b43 (ninS ne_b40_r_o0_bytes_46 nin0)))
        obtain ⟨cl55, Ar55, Sz55, Nn55, Hs55⟩ := id c56
        have hin55 : ¬ ((0 : Int32) < 0 ∨ cl55.slots.size ≤ ((0 : Int32)).toNatClampNeg) := inb_of Sz55 ⟨by decide, by decide⟩
        obtain ⟨T57, h57, X57, e57, W57, st57⟩ := stB X52 hx hZ rfl Ar55 (j := (0 : Int32)) hin55 (g := (mkF m 198 #[.val (.int p0), .val (.int p1), .val (.int p2), .val (.int p3), .val (.int (0 : Int32)), .val (.int (0 : Int32)), .val (.int (1 : Int32)), .val (.ref b40), .val (.int (0 : Int32)), .val (.ref b43), .val (.int (p2 &&& (255 : Int32))), .unset] [(.int ((p2 &&& (255 : Int32)).toInt8.toInt32)), (.int (0 : Int32)), (.ref b40)])) rfl rfl (hb hby at_198)
        have V57 : own_AI Z h57 b40 .byte (7 : Int32) (own_upd (fun _ => 0) 0 (nar .byte ((p2 &&& (255 : Int32)).toInt8.toInt32))) := own_AI.set c56 (fits_nar_byte ((p2 &&& (255 : Int32)).toInt8.toInt32)) W57
        have K58 : Keep h0 h57 [] := K53.wr W57 (Or.inr sz_b40)
        have Z59 : n0 ≤ h57.size := Nat.le_trans Z0 K58.1
        have N57 := Fr.snoc X57 N52 g_b40
        obtain ⟨LS57, X57, N57⟩ : ∃ L, Stand p l e room_1 s m #[(.int p0), (.int p1), (.int p2), (.int p3)] below meth c T57 L 3 74 ∧ Fr n0 L := ⟨_, X57, N57⟩
        obtain ⟨cq60, kq60, q60a, q60b, q60c⟩ := isOf hZ e57 (((E_b43.keep K46q).keep K52q).wr W57)
        obtain ⟨_, _, ⟨T60, L60, k60, n60⟩, -, X60, ⟨Lc60, hQ60, l60, y60, z60⟩, st60⟩ := X57.virtualBack hx (y := (⟨"com/example/corvid/corvid/ByteWriter", "toByteArray", "()[B"⟩ : MethodName)) (z := (⟨"com/example/corvid/corvid/ByteWriter", "toByteArray", "()[B"⟩ : MethodName)) hown (mvT hZ (hw _ (List.mem_of_getElem? (i := 29) rfl))) (mvT hZ (hw _ (List.mem_of_getElem? (i := 30) rfl))) (notFace_of_selects (args := #[]) (mvT hZ (hw _ (List.mem_of_getElem? (i := 32) rfl)))) (mvT hZ (hw _ (List.mem_of_getElem? (i := 32) rfl))) (mvT hZ (hw _ (List.mem_of_getElem? (i := 31) rfl))) (by decide) (backOf (W := 0) (rm6 l Z a0 hw [] b43 ((0 : Int32) + (1 : Int32)) r_o0_bytes_46 (f12_r1_a (p2 &&& (255 : Int32)) (0 : Int32) (fun _ => 0)) h57 n0 Z59 (G52_0.other W57 (Or.inl (Ne.symm ne_b40_b43))) (G52_2.other W57 (Or.inl (Ne.symm ne_b40_b43))) (G52_1.other W57 (Ne.symm ne_b40_r_o0_bytes_46)) (by decide)) hZ (hw _ (List.mem_of_getElem? (i := 33) rfl)) (hw _ (List.mem_of_getElem? (i := 3) rfl)) (by decide) (by decide)) q60a q60c (g := (mkF m 204 #[.val (.int p0), .val (.int p1), .val (.int p2), .val (.int p3), .val (.int (0 : Int32)), .val (.int (0 : Int32)), .val (.int (1 : Int32)), .val (.ref b40), .val (.int (1 : Int32)), .val (.ref b43), .val (.int (p2 &&& (255 : Int32))), .unset] [(.ref b43)])) rfl (by rw [hml]; rfl) (Steps.refl _) (argsL := []) (rest := []) (lenOf pd_0_1 rfl) rfl (by show 2 * 0 + _ ≤ _; exact Nat.le_of_eq rfl) (hb hby at_204) (fun _ _ => ⟨rfl, e57, (by decide : 3 + 1 ≤ _), (by decide : 74 + 16 ≤ _)⟩)
        dsimp only [Pt.U, Pt.locs, Pt.cells, Pt.slots] at X60 l60 y60 z60 st60 hQ60
        subst l60 y60 z60
        obtain ⟨b_60, rfl, N60q, K60q, g_b_60, szq_b_60, G60_0⟩ := hQ60
        have N60 := Fr.app N57 N60q
        have ne_b40_b_60 : b40 ≠ b_60 := Nat.ne_of_lt (Nat.lt_of_lt_of_le V57.lt szq_b_60)
        have ne_b43_b_60 : b43 ≠ b_60 := Nat.ne_of_lt (Nat.lt_of_lt_of_le (((E_b43.keep K46q).keep K52q).wr W57).lt szq_b_60)
        have ne_r_o0_bytes_46_b_60 : r_o0_bytes_46 ≠ b_60 := Nat.ne_of_lt (Nat.lt_of_lt_of_le (G52_1.other W57 (Ne.symm ne_b40_r_o0_bytes_46)).lt szq_b_60)
        have sz_b_60 : h0.size ≤ b_60 := Nat.le_trans K58.1 szq_b_60
        have K61 : Keep h0 T60.heap [] := K58.trans K60q all0
        have Z62 : n0 ≤ T60.heap.size := Nat.le_trans Z0 K61.1
        obtain ⟨LS60, X60, N60⟩ : ∃ L, Stand p l e room_1 s m #[(.int p0), (.int p1), (.int p2), (.int p3)] below meth c T60 L 4 90 ∧ Fr n0 L := ⟨_, X60, N60⟩
        obtain ⟨cl63, Ar63, Sz63, Nn63, -⟩ := id G60_0
        have pre64 : ∀ t, Steps p.tables e below (T60.setTop (mkF m 214 #[.val (.int p0), .val (.int p1), .val (.int p2), .val (.int p3), .val (.int (0 : Int32)), .val (.int (0 : Int32)), .val (.int (1 : Int32)), .val (.ref b40), .val (.int (1 : Int32)), .val (.ref b43), .val (.ref b_60), .unset] [(.int (1 : Int32)), (.int ((0 : Int32) + (1 : Int32)))])) t → Steps p.tables e below (s₁.setTop (entryFrame m #[(.int p0), (.int p1), (.int p2), (.int p3)] maxLocals)) t := fun t kt => pre51 t (by
            show Steps p.tables e below (T46.setTop (mkF m 174 #[.val (.int p0), .val (.int p1), .val (.int p2), .val (.int p3), .val (.int (0 : Int32)), .val (.int (0 : Int32)), .val (.int (1 : Int32)), .val (.ref b40), .val (.int (0 : Int32)), .val (.ref b43), .unset, .unset] [(.int (1 : Int32))])) _
            refine XS.ifNo X46.here hx rfl (hb hby at_174) rfl ((if0 _ _).trans (feq (by decide : ¬ ((1 : Int32) = (0 : Int32)))).1) ?_
            show Steps p.tables e below (T46.setTop (mkF m 177 #[.val (.int p0), .val (.int p1), .val (.int p2), .val (.int p3), .val (.int (0 : Int32)), .val (.int (0 : Int32)), .val (.int (1 : Int32)), .val (.ref b40), .val (.int (0 : Int32)), .val (.ref b43), .unset, .unset] [])) _
            refine XS.iloadN X46.here hx rfl (hb hby at_177) rfl ?_
            show Steps p.tables e below (T46.setTop (mkF m 178 #[.val (.int p0), .val (.int p1), .val (.int p2), .val (.int p3), .val (.int (0 : Int32)), .val (.int (0 : Int32)), .val (.int (1 : Int32)), .val (.ref b40), .val (.int (0 : Int32)), .val (.ref b43), .unset, .unset] [(.int p2)])) _
            refine XS.sipush X46.here hx rfl (hb hby at_178) ?_
            show Steps p.tables e below (T46.setTop (mkF m 181 #[.val (.int p0), .val (.int p1), .val (.int p2), .val (.int p3), .val (.int (0 : Int32)), .val (.int (0 : Int32)), .val (.int (1 : Int32)), .val (.ref b40), .val (.int (0 : Int32)), .val (.ref b43), .unset, .unset] [(.int (255 : Int32)), (.int p2)])) _
            refine XS.iand X46.here hx rfl (hb hby at_181) rfl ?_
            show Steps p.tables e below (T46.setTop (mkF m 182 #[.val (.int p0), .val (.int p1), .val (.int p2), .val (.int p3), .val (.int (0 : Int32)), .val (.int (0 : Int32)), .val (.int (1 : Int32)), .val (.ref b40), .val (.int (0 : Int32)), .val (.ref b43), .unset, .unset] [(.int (p2 &&& (255 : Int32)))])) _
            refine XS.istore X46.here hx rfl (hb hby at_182) rfl (l' := #[.val (.int p0), .val (.int p1), .val (.int p2), .val (.int p3), .val (.int (0 : Int32)), .val (.int (0 : Int32)), .val (.int (1 : Int32)), .val (.ref b40), .val (.int (0 : Int32)), .val (.ref b43), .val (.int (p2 &&& (255 : Int32))), .unset]) rfl ?_
            show Steps p.tables e below (T46.setTop (mkF m 184 #[.val (.int p0), .val (.int p1), .val (.int p2), .val (.int p3), .val (.int (0 : Int32)), .val (.int (0 : Int32)), .val (.int (1 : Int32)), .val (.ref b40), .val (.int (0 : Int32)), .val (.ref b43), .val (.int (p2 &&& (255 : Int32))), .unset] [])) _
            refine XS.aload X46.here hx rfl (hb hby at_184) rfl rfl ?_
            show Steps p.tables e below (T46.setTop (mkF m 186 #[.val (.int p0), .val (.int p1), .val (.int p2), .val (.int p3), .val (.int (0 : Int32)), .val (.int (0 : Int32)), .val (.int (1 : Int32)), .val (.ref b40), .val (.int (0 : Int32)), .val (.ref b43), .val (.int (p2 &&& (255 : Int32))), .unset] [(.ref b43)])) _
            refine XS.iload X46.here hx rfl (hb hby at_186) rfl ?_
            show Steps p.tables e below (T46.setTop (mkF m 188 #[.val (.int p0), .val (.int p1), .val (.int p2), .val (.int p3), .val (.int (0 : Int32)), .val (.int (0 : Int32)), .val (.int (1 : Int32)), .val (.ref b40), .val (.int (0 : Int32)), .val (.ref b43), .val (.int (p2 &&& (255 : Int32))), .unset] [(.int (p2 &&& (255 : Int32))), (.ref b43)])) _
            refine st52.trans ?_
            show Steps p.tables e below (T52.setTop (mkF m 191 #[.val (.int p0), .val (.int p1), .val (.int p2), .val (.int p3), .val (.int (0 : Int32)), .val (.int (0 : Int32)), .val (.int (1 : Int32)), .val (.ref b40), .val (.int (0 : Int32)), .val (.ref b43), .val (.int (p2 &&& (255 : Int32))), .unset] [])) _
            refine XS.aload X52.here hx rfl (hb hby at_191) rfl rfl ?_
            show Steps p.tables e below (T52.setTop (mkF m 193 #[.val (.int p0), .val (.int p1), .val (.int p2), .val (.int p3), .val (.int (0 : Int32)), .val (.int (0 : Int32)), .val (.int (1 : Int32)), .val (.ref b40), .val (.int (0 : Int32)), .val (.ref b43), .val (.int (p2 &&& (255 : Int32))), .unset] [(.ref b40)])) _
            refine XS.iload X52.here hx rfl (hb hby at_193) rfl ?_
            show Steps p.tables e below (T52.setTop (mkF m 195 #[.val (.int p0), .val (.int p1), .val (.int p2), .val (.int p3), .val (.int (0 : Int32)), .val (.int (0 : Int32)), .val (.int (1 : Int32)), .val (.ref b40), .val (.int (0 : Int32)), .val (.ref b43), .val (.int (p2 &&& (255 : Int32))), .unset] [(.int (0 : Int32)), (.ref b40)])) _
            refine XS.iload X52.here hx rfl (hb hby at_195) rfl ?_
            show Steps p.tables e below (T52.setTop (mkF m 197 #[.val (.int p0), .val (.int p1), .val (.int p2), .val (.int p3), .val (.int (0 : Int32)), .val (.int (0 : Int32)), .val (.int (1 : Int32)), .val (.ref b40), .val (.int (0 : Int32)), .val (.ref b43), .val (.int (p2 &&& (255 : Int32))), .unset] [(.int (p2 &&& (255 : Int32))), (.int (0 : Int32)), (.ref b40)])) _
            refine XS.i2b X52.here hx rfl (hb hby at_197) rfl ?_
            show Steps p.tables e below (T52.setTop (mkF m 198 #[.val (.int p0), .val (.int p1), .val (.int p2), .val (.int p3), .val (.int (0 : Int32)), .val (.int (0 : Int32)), .val (.int (1 : Int32)), .val (.ref b40), .val (.int (0 : Int32)), .val (.ref b43), .val (.int (p2 &&& (255 : Int32))), .unset] [(.int ((p2 &&& (255 : Int32)).toInt8.toInt32)), (.int (0 : Int32)), (.ref b40)])) _
            refine st57 _ ?_
            show Steps p.tables e below (T57.setTop (mkF m 199 #[.val (.int p0), .val (.int p1), .val (.int p2), .val (.int p3), .val (.int (0 : Int32)), .val (.int (0 : Int32)), .val (.int (1 : Int32)), .val (.ref b40), .val (.int (0 : Int32)), .val (.ref b43), .val (.int (p2 &&& (255 : Int32))), .unset] [])) _
            refine XS.iinc X57.here hx rfl (hb hby at_199) rfl (l' := #[.val (.int p0), .val (.int p1), .val (.int p2), .val (.int p3), .val (.int (0 : Int32)), .val (.int (0 : Int32)), .val (.int (1 : Int32)), .val (.ref b40), .val (.int (1 : Int32)), .val (.ref b43), .val (.int (p2 &&& (255 : Int32))), .unset]) rfl ?_
            show Steps p.tables e below (T57.setTop (mkF m 202 #[.val (.int p0), .val (.int p1), .val (.int p2), .val (.int p3), .val (.int (0 : Int32)), .val (.int (0 : Int32)), .val (.int (1 : Int32)), .val (.ref b40), .val (.int (1 : Int32)), .val (.ref b43), .val (.int (p2 &&& (255 : Int32))), .unset] [])) _
            refine XS.aload X57.here hx rfl (hb hby at_202) rfl rfl ?_
            show Steps p.tables e below (T57.setTop (mkF m 204 #[.val (.int p0), .val (.int p1), .val (.int p2), .val (.int p3), .val (.int (0 : Int32)), .val (.int (0 : Int32)), .val (.int (1 : Int32)), .val (.ref b40), .val (.int (1 : Int32)), .val (.ref b43), .val (.int (p2 &&& (255 : Int32))), .unset] [(.ref b43)])) _
            refine st60.trans ?_
            show Steps p.tables e below (T60.setTop (mkF m 207 #[.val (.int p0), .val (.int p1), .val (.int p2), .val (.int p3), .val (.int (0 : Int32)), .val (.int (0 : Int32)), .val (.int (1 : Int32)), .val (.ref b40), .val (.int (1 : Int32)), .val (.ref b43), .val (.int (p2 &&& (255 : Int32))), .unset] [(.ref b_60)])) _
            refine XS.astore X60.here hx rfl (hb hby at_207) rfl rfl (l' := #[.val (.int p0), .val (.int p1), .val (.int p2), .val (.int p3), .val (.int (0 : Int32)), .val (.int (0 : Int32)), .val (.int (1 : Int32)), .val (.ref b40), .val (.int (1 : Int32)), .val (.ref b43), .val (.ref b_60), .unset]) rfl ?_
            show Steps p.tables e below (T60.setTop (mkF m 209 #[.val (.int p0), .val (.int p1), .val (.int p2), .val (.int p3), .val (.int (0 : Int32)), .val (.int (0 : Int32)), .val (.int (1 : Int32)), .val (.ref b40), .val (.int (1 : Int32)), .val (.ref b43), .val (.ref b_60), .unset] [])) _
            refine XS.aload X60.here hx rfl (hb hby at_209) rfl rfl ?_
            show Steps p.tables e below (T60.setTop (mkF m 211 #[.val (.int p0), .val (.int p1), .val (.int p2), .val (.int p3), .val (.int (0 : Int32)), .val (.int (0 : Int32)), .val (.int (1 : Int32)), .val (.ref b40), .val (.int (1 : Int32)), .val (.ref b43), .val (.ref b_60), .unset] [(.ref b_60)])) _
            refine X60.arraylength hx Ar63.1 (State.isArrayOf_alike hZ.alike Ar63.2.1) (g := (mkF m 211 #[.val (.int p0), .val (.int p1), .val (.int p2), .val (.int p3), .val (.int (0 : Int32)), .val (.int (0 : Int32)), .val (.int (1 : Int32)), .val (.ref b40), .val (.int (1 : Int32)), .val (.ref b43), .val (.ref b_60), .unset] [(.ref b_60)])) rfl rfl (hb hby at_211) _ ?_
            rw [len_of Sz63 Nn63]
            show Steps p.tables e below (T60.setTop (mkF m 212 #[.val (.int p0), .val (.int p1), .val (.int p2), .val (.int p3), .val (.int (0 : Int32)), .val (.int (0 : Int32)), .val (.int (1 : Int32)), .val (.ref b40), .val (.int (1 : Int32)), .val (.ref b43), .val (.ref b_60), .unset] [(.int ((0 : Int32) + (1 : Int32)))])) _
            refine XS.iload X60.here hx rfl (hb hby at_212) rfl ?_
            exact kt)
        have hd214_65 : ((0 : Int32) + (1 : Int32)) = (1 : Int32) := by decide
        obtain ⟨_, _, ⟨T66, L66, k66, n66⟩, -, X66, ⟨Lc66, hQ66, l66, y66, z66⟩, st66⟩ := Jvm.LawKit.callS X60 hx (y := (⟨"com/example/corvid/corvid/ByteWriterToByteArrayPinLaw", "same", "([B[BI)Z"⟩ : MethodName)) hown (mvT hZ (hw _ (List.mem_of_getElem? (i := 45) rfl))) (mvT hZ (hw _ (List.mem_of_getElem? (i := 46) rfl))) (mvT hZ (hw _ (List.mem_of_getElem? (i := 47) rfl))) (mvT hZ (hw _ (List.mem_of_getElem? (i := 48) rfl))) (by decide) (backOf (W := 0) (rm9 l Z a0 hw [] b_60 b40 (1 : Int32) ((0 : Int32) + (1 : Int32)) (f12_r1_a (p2 &&& (255 : Int32)) (0 : Int32) (fun _ => 0)) (7 : Int32) (own_upd (fun _ => 0) 0 (nar .byte ((p2 &&& (255 : Int32)).toInt8.toInt32))) T60.heap n0 Z62 G60_0 (V57.keep K60q nin0) (by decide)) hZ (hw _ (List.mem_of_getElem? (i := 48) rfl)) (hw _ (List.mem_of_getElem? (i := 47) rfl)) (by decide) (by decide)) (g := (mkF m 225 #[.val (.int p0), .val (.int p1), .val (.int p2), .val (.int p3), .val (.int (0 : Int32)), .val (.int (0 : Int32)), .val (.int (1 : Int32)), .val (.ref b40), .val (.int (1 : Int32)), .val (.ref b43), .val (.ref b_60), .unset] [(.int (1 : Int32)), (.ref b40), (.ref b_60)])) rfl (by rw [hml]; rfl) (argsL := [(.ref b_60), (.ref b40), (.int (1 : Int32))]) (rest := []) (lenOf pd_0_2 rfl) rfl (by show 2 * 0 + _ ≤ _; exact Nat.le_of_eq rfl) (hb hby at_225) (fun _ _ => ⟨rfl, rfl, (by decide : 4 + 0 ≤ _), (by decide : 90 + 0 ≤ _)⟩)
        dsimp only [Pt.U, Pt.locs, Pt.cells, Pt.slots] at X66 l66 y66 z66 st66 hQ66
        subst l66 y66 z66
        obtain ⟨rfl, N66q, e66q⟩ := hQ66
        have N66 := Fr.app N60 N66q
        have pre67 : ∀ t, Steps p.tables e below (T66.setTop (mkF m 228 #[.val (.int p0), .val (.int p1), .val (.int p2), .val (.int p3), .val (.int (0 : Int32)), .val (.int (0 : Int32)), .val (.int (1 : Int32)), .val (.ref b40), .val (.int (1 : Int32)), .val (.ref b43), .val (.ref b_60), .unset] [(.int (f9 (1 : Int32) (f12_r1_a (p2 &&& (255 : Int32)) (0 : Int32) (fun _ => 0)) (own_upd (fun _ => 0) 0 (nar .byte ((p2 &&& (255 : Int32)).toInt8.toInt32)))))])) t → Steps p.tables e below (s₁.setTop (entryFrame m #[(.int p0), (.int p1), (.int p2), (.int p3)] maxLocals)) t := fun t kt => pre64 t (by
            show Steps p.tables e below (T60.setTop (mkF m 214 #[.val (.int p0), .val (.int p1), .val (.int p2), .val (.int p3), .val (.int (0 : Int32)), .val (.int (0 : Int32)), .val (.int (1 : Int32)), .val (.ref b40), .val (.int (1 : Int32)), .val (.ref b43), .val (.ref b_60), .unset] [(.int (1 : Int32)), (.int ((0 : Int32) + (1 : Int32)))])) _
            refine XS.icmpYes X60.here hx rfl (pc0 := 214) (pc' := 219) rfl (hb hby at_214) rfl (teq hd214_65).1 (by decide) (by decide) ?_
            show Steps p.tables e below (T60.setTop (mkF m 219 #[.val (.int p0), .val (.int p1), .val (.int p2), .val (.int p3), .val (.int (0 : Int32)), .val (.int (0 : Int32)), .val (.int (1 : Int32)), .val (.ref b40), .val (.int (1 : Int32)), .val (.ref b43), .val (.ref b_60), .unset] [])) _
            refine XS.aload X60.here hx rfl (hb hby at_219) rfl rfl ?_
            show Steps p.tables e below (T60.setTop (mkF m 221 #[.val (.int p0), .val (.int p1), .val (.int p2), .val (.int p3), .val (.int (0 : Int32)), .val (.int (0 : Int32)), .val (.int (1 : Int32)), .val (.ref b40), .val (.int (1 : Int32)), .val (.ref b43), .val (.ref b_60), .unset] [(.ref b_60)])) _
            refine XS.aload X60.here hx rfl (hb hby at_221) rfl rfl ?_
            show Steps p.tables e below (T60.setTop (mkF m 223 #[.val (.int p0), .val (.int p1), .val (.int p2), .val (.int p3), .val (.int (0 : Int32)), .val (.int (0 : Int32)), .val (.int (1 : Int32)), .val (.ref b40), .val (.int (1 : Int32)), .val (.ref b43), .val (.ref b_60), .unset] [(.ref b40), (.ref b_60)])) _
            refine XS.iload X60.here hx rfl (hb hby at_223) rfl ?_
            show Steps p.tables e below (T60.setTop (mkF m 225 #[.val (.int p0), .val (.int p1), .val (.int p2), .val (.int p3), .val (.int (0 : Int32)), .val (.int (0 : Int32)), .val (.int (1 : Int32)), .val (.ref b40), .val (.int (1 : Int32)), .val (.ref b43), .val (.ref b_60), .unset] [(.int (1 : Int32)), (.ref b40), (.ref b_60)])) _
            refine st66 _ ?_
            exact kt)
        have hd228_68 : ¬ ((f9 (1 : Int32) (f12_r1_a (p2 &&& (255 : Int32)) (0 : Int32) (fun _ => 0)) (own_upd (fun _ => 0) 0 (nar .byte ((p2 &&& (255 : Int32)).toInt8.toInt32)))) = (0 : Int32)) := own_sm _ _ _ (own_pf001 p0 p1 p2)
        have pre69 : ∀ t, Steps p.tables e below (T66.setTop (mkF m 235 #[.val (.int p0), .val (.int p1), .val (.int p2), .val (.int p3), .val (.int (0 : Int32)), .val (.int (0 : Int32)), .val (.int (1 : Int32)), .val (.ref b40), .val (.int (1 : Int32)), .val (.ref b43), .val (.ref b_60), .unset] [(.int (1 : Int32))])) t → Steps p.tables e below (s₁.setTop (entryFrame m #[(.int p0), (.int p1), (.int p2), (.int p3)] maxLocals)) t := fun t kt => pre67 t (by
            show Steps p.tables e below (T66.setTop (mkF m 228 #[.val (.int p0), .val (.int p1), .val (.int p2), .val (.int p3), .val (.int (0 : Int32)), .val (.int (0 : Int32)), .val (.int (1 : Int32)), .val (.ref b40), .val (.int (1 : Int32)), .val (.ref b43), .val (.ref b_60), .unset] [(.int (f9 (1 : Int32) (f12_r1_a (p2 &&& (255 : Int32)) (0 : Int32) (fun _ => 0)) (own_upd (fun _ => 0) 0 (nar .byte ((p2 &&& (255 : Int32)).toInt8.toInt32)))))])) _
            refine XS.ifYes X66.here hx rfl (pc0 := 228) (pc' := 233) rfl (hb hby at_228) rfl ((if0 _ _).trans (feq hd228_68).2) (by decide) (by decide) ?_
            show Steps p.tables e below (T66.setTop (mkF m 233 #[.val (.int p0), .val (.int p1), .val (.int p2), .val (.int p3), .val (.int (0 : Int32)), .val (.int (0 : Int32)), .val (.int (1 : Int32)), .val (.ref b40), .val (.int (1 : Int32)), .val (.ref b43), .val (.ref b_60), .unset] [])) _
            refine XS.iload X66.here hx rfl (hb hby at_233) rfl ?_
            exact kt)
        obtain ⟨cl70, Ar70, Sz70, Nn70, Hs70⟩ := id G60_0
        have hin70 : ¬ ((0 : Int32) < 0 ∨ cl70.slots.size ≤ ((0 : Int32)).toNatClampNeg) := inb_of Sz70 ⟨by decide, by decide⟩
        have hat70 : cl70.slots[((0 : Int32)).toNatClampNeg]? = some (.int ((f12_r1_a (p2 &&& (255 : Int32)) (0 : Int32) (fun _ => 0)) 0)) := (Hs70 _ (own_lt hin70)).1
        obtain ⟨cl71, Ar71, Sz71, Nn71, Hs71⟩ := id G60_0
        have hin71 : ¬ ((0 : Int32) < 0 ∨ cl71.slots.size ≤ ((0 : Int32)).toNatClampNeg) := inb_of Sz71 ⟨by decide, by decide⟩
        obtain ⟨T72, h72, X72, e72, W72, st72⟩ := stB X66 hx hZ e66q Ar71 (j := (0 : Int32)) hin71 (g := (mkF m 249 #[.val (.int p0), .val (.int p1), .val (.int p2), .val (.int p3), .val (.int (0 : Int32)), .val (.int (0 : Int32)), .val (.int (1 : Int32)), .val (.ref b40), .val (.int (1 : Int32)), .val (.ref b43), .val (.ref b_60), .unset] [(.int ((((f12_r1_a (p2 &&& (255 : Int32)) (0 : Int32) (fun _ => 0)) 0) ^^^ (90 : Int32)).toInt8.toInt32)), (.int (0 : Int32)), (.ref b_60)])) rfl rfl (hb hby at_249)
        have V72 : own_AI Z h72 b_60 .byte ((0 : Int32) + (1 : Int32)) (own_upd (f12_r1_a (p2 &&& (255 : Int32)) (0 : Int32) (fun _ => 0)) 0 (nar .byte ((((f12_r1_a (p2 &&& (255 : Int32)) (0 : Int32) (fun _ => 0)) 0) ^^^ (90 : Int32)).toInt8.toInt32))) := own_AI.set G60_0 (fits_nar_byte ((((f12_r1_a (p2 &&& (255 : Int32)) (0 : Int32) (fun _ => 0)) 0) ^^^ (90 : Int32)).toInt8.toInt32)) W72
        have K73 : Keep h0 h72 [] := K61.wr W72 (Or.inr sz_b_60)
        have Z74 : n0 ≤ h72.size := Nat.le_trans Z0 K73.1
        have N72 := Fr.snoc X72 N66 g_b_60
        obtain ⟨LS72, X72, N72⟩ : ∃ L, Stand p l e room_1 s m #[(.int p0), (.int p1), (.int p2), (.int p3)] below meth c T72 L 4 90 ∧ Fr n0 L := ⟨_, X72, N72⟩
        have c76 := (((G52_0.other W57 (Or.inl (Ne.symm ne_b40_b43))).keep K60q nin0).other W72 (Or.inl ne_b43_b_60))
        have c77 := (((G52_2.other W57 (Or.inl (Ne.symm ne_b40_b43))).keep K60q nin0).other W72 (Or.inl ne_b43_b_60))
        have c78 := (((G52_1.other W57 (Ne.symm ne_b40_r_o0_bytes_46)).keep K60q nin0).other W72 ne_r_o0_bytes_46_b_60)
        obtain ⟨cq75, kq75, q75a, q75b, q75c⟩ := isOf hZ e72 (((((E_b43.keep K46q).keep K52q).wr W57).keep K60q).wr W72)
        obtain ⟨_, _, ⟨T75, L75, k75, n75⟩, -, X75, ⟨Lc75, hQ75, l75, y75, z75⟩, st75⟩ := X72.virtualBack hx (y := (⟨"com/example/corvid/corvid/ByteWriter", "toByteArray", "()[B"⟩ : MethodName)) (z := (⟨"com/example/corvid/corvid/ByteWriter", "toByteArray", "()[B"⟩ : MethodName)) hown (mvT hZ (hw _ (List.mem_of_getElem? (i := 29) rfl))) (mvT hZ (hw _ (List.mem_of_getElem? (i := 30) rfl))) (notFace_of_selects (args := #[]) (mvT hZ (hw _ (List.mem_of_getElem? (i := 32) rfl)))) (mvT hZ (hw _ (List.mem_of_getElem? (i := 32) rfl))) (mvT hZ (hw _ (List.mem_of_getElem? (i := 31) rfl))) (by decide) (backOf (W := 0) (rm6 l Z a0 hw [] b43 ((0 : Int32) + (1 : Int32)) r_o0_bytes_46 (f12_r1_a (p2 &&& (255 : Int32)) (0 : Int32) (fun _ => 0)) h72 n0 Z74 c76 c77 c78 (by decide)) hZ (hw _ (List.mem_of_getElem? (i := 33) rfl)) (hw _ (List.mem_of_getElem? (i := 3) rfl)) (by decide) (by decide)) q75a q75c (g := (mkF m 252 #[.val (.int p0), .val (.int p1), .val (.int p2), .val (.int p3), .val (.int (0 : Int32)), .val (.int (0 : Int32)), .val (.int (1 : Int32)), .val (.ref b40), .val (.int (1 : Int32)), .val (.ref b43), .val (.ref b_60), .unset] [(.ref b43)])) rfl (by rw [hml]; rfl) (Steps.refl _) (argsL := []) (rest := []) (lenOf pd_0_1 rfl) rfl (by show 2 * 0 + _ ≤ _; exact Nat.le_of_eq rfl) (hb hby at_252) (fun _ _ => ⟨rfl, e72, (by decide : 4 + 1 ≤ _), (by decide : 90 + 16 ≤ _)⟩)
        dsimp only [Pt.U, Pt.locs, Pt.cells, Pt.slots] at X75 l75 y75 z75 st75 hQ75
        subst l75 y75 z75
        obtain ⟨b_75, rfl, N75q, K75q, g_b_75, szq_b_75, G75_0⟩ := hQ75
        have N75 := Fr.app N72 N75q
        have ne_b40_b_75 : b40 ≠ b_75 := Nat.ne_of_lt (Nat.lt_of_lt_of_le ((V57.keep K60q nin0).other W72 ne_b40_b_60).lt szq_b_75)
        have ne_b43_b_75 : b43 ≠ b_75 := Nat.ne_of_lt (Nat.lt_of_lt_of_le (((((E_b43.keep K46q).keep K52q).wr W57).keep K60q).wr W72).lt szq_b_75)
        have ne_r_o0_bytes_46_b_75 : r_o0_bytes_46 ≠ b_75 := Nat.ne_of_lt (Nat.lt_of_lt_of_le c78.lt szq_b_75)
        have ne_b_60_b_75 : b_60 ≠ b_75 := Nat.ne_of_lt (Nat.lt_of_lt_of_le V72.lt szq_b_75)
        have sz_b_75 : h0.size ≤ b_75 := Nat.le_trans K73.1 szq_b_75
        have K79 : Keep h0 T75.heap [] := K73.trans K75q all0
        have Z80 : n0 ≤ T75.heap.size := Nat.le_trans Z0 K79.1
        obtain ⟨LS75, X75, N75⟩ : ∃ L, Stand p l e room_1 s m #[(.int p0), (.int p1), (.int p2), (.int p3)] below meth c T75 L 5 106 ∧ Fr n0 L := ⟨_, X75, N75⟩
        have pre81 : ∀ t, Steps p.tables e below (T75.setTop (mkF m 261 #[.val (.int p0), .val (.int p1), .val (.int p2), .val (.int p3), .val (.int (0 : Int32)), .val (.int (0 : Int32)), .val (.int (1 : Int32)), .val (.ref b40), .val (.int (1 : Int32)), .val (.ref b43), .val (.ref b_60), .val (.ref b_75)] [(.ref b_60), (.ref b_75)])) t → Steps p.tables e below (s₁.setTop (entryFrame m #[(.int p0), (.int p1), (.int p2), (.int p3)] maxLocals)) t := fun t kt => pre69 t (by
            show Steps p.tables e below (T66.setTop (mkF m 235 #[.val (.int p0), .val (.int p1), .val (.int p2), .val (.int p3), .val (.int (0 : Int32)), .val (.int (0 : Int32)), .val (.int (1 : Int32)), .val (.ref b40), .val (.int (1 : Int32)), .val (.ref b43), .val (.ref b_60), .unset] [(.int (1 : Int32))])) _
            refine XS.ifNo X66.here hx rfl (hb hby at_235) rfl ((if0 _ _).trans (tlt (by decide : ((0 : Int32) < (1 : Int32)))).2.2.2) ?_
            show Steps p.tables e below (T66.setTop (mkF m 238 #[.val (.int p0), .val (.int p1), .val (.int p2), .val (.int p3), .val (.int (0 : Int32)), .val (.int (0 : Int32)), .val (.int (1 : Int32)), .val (.ref b40), .val (.int (1 : Int32)), .val (.ref b43), .val (.ref b_60), .unset] [])) _
            refine XS.aload X66.here hx rfl (hb hby at_238) rfl rfl ?_
            show Steps p.tables e below (T66.setTop (mkF m 240 #[.val (.int p0), .val (.int p1), .val (.int p2), .val (.int p3), .val (.int (0 : Int32)), .val (.int (0 : Int32)), .val (.int (1 : Int32)), .val (.ref b40), .val (.int (1 : Int32)), .val (.ref b43), .val (.ref b_60), .unset] [(.ref b_60)])) _
            refine XS.iconst X66.here hx rfl (hb hby at_240) ?_
            show Steps p.tables e below (T66.setTop (mkF m 241 #[.val (.int p0), .val (.int p1), .val (.int p2), .val (.int p3), .val (.int (0 : Int32)), .val (.int (0 : Int32)), .val (.int (1 : Int32)), .val (.ref b40), .val (.int (1 : Int32)), .val (.ref b43), .val (.ref b_60), .unset] [(.int (0 : Int32)), (.ref b_60)])) _
            refine XS.aload X66.here hx rfl (hb hby at_241) rfl rfl ?_
            show Steps p.tables e below (T66.setTop (mkF m 243 #[.val (.int p0), .val (.int p1), .val (.int p2), .val (.int p3), .val (.int (0 : Int32)), .val (.int (0 : Int32)), .val (.int (1 : Int32)), .val (.ref b40), .val (.int (1 : Int32)), .val (.ref b43), .val (.ref b_60), .unset] [(.ref b_60), (.int (0 : Int32)), (.ref b_60)])) _
            refine XS.iconst X66.here hx rfl (hb hby at_243) ?_
            show Steps p.tables e below (T66.setTop (mkF m 244 #[.val (.int p0), .val (.int p1), .val (.int p2), .val (.int p3), .val (.int (0 : Int32)), .val (.int (0 : Int32)), .val (.int (1 : Int32)), .val (.ref b40), .val (.int (1 : Int32)), .val (.ref b43), .val (.ref b_60), .unset] [(.int (0 : Int32)), (.ref b_60), (.int (0 : Int32)), (.ref b_60)])) _
            refine X66.baloadBytes hx (j := (0 : Int32)) (v := (.int ((f12_r1_a (p2 &&& (255 : Int32)) (0 : Int32) (fun _ => 0)) 0))) (by rw [e66q]; exact Ar70.1) (State.isArrayOf_alike hZ.alike Ar70.2.1) Ar70.2.2 hin70 hat70 (g := (mkF m 244 #[.val (.int p0), .val (.int p1), .val (.int p2), .val (.int p3), .val (.int (0 : Int32)), .val (.int (0 : Int32)), .val (.int (1 : Int32)), .val (.ref b40), .val (.int (1 : Int32)), .val (.ref b43), .val (.ref b_60), .unset] [(.int (0 : Int32)), (.ref b_60), (.int (0 : Int32)), (.ref b_60)])) rfl rfl (hb hby at_244) _ ?_
            show Steps p.tables e below (T66.setTop (mkF m 245 #[.val (.int p0), .val (.int p1), .val (.int p2), .val (.int p3), .val (.int (0 : Int32)), .val (.int (0 : Int32)), .val (.int (1 : Int32)), .val (.ref b40), .val (.int (1 : Int32)), .val (.ref b43), .val (.ref b_60), .unset] [(.int ((f12_r1_a (p2 &&& (255 : Int32)) (0 : Int32) (fun _ => 0)) 0)), (.int (0 : Int32)), (.ref b_60)])) _
            refine XS.bipush X66.here hx rfl (hb hby at_245) ?_
            show Steps p.tables e below (T66.setTop (mkF m 247 #[.val (.int p0), .val (.int p1), .val (.int p2), .val (.int p3), .val (.int (0 : Int32)), .val (.int (0 : Int32)), .val (.int (1 : Int32)), .val (.ref b40), .val (.int (1 : Int32)), .val (.ref b43), .val (.ref b_60), .unset] [(.int (90 : Int32)), (.int ((f12_r1_a (p2 &&& (255 : Int32)) (0 : Int32) (fun _ => 0)) 0)), (.int (0 : Int32)), (.ref b_60)])) _
            refine XS.ixor X66.here hx rfl (hb hby at_247) rfl ?_
            show Steps p.tables e below (T66.setTop (mkF m 248 #[.val (.int p0), .val (.int p1), .val (.int p2), .val (.int p3), .val (.int (0 : Int32)), .val (.int (0 : Int32)), .val (.int (1 : Int32)), .val (.ref b40), .val (.int (1 : Int32)), .val (.ref b43), .val (.ref b_60), .unset] [(.int (((f12_r1_a (p2 &&& (255 : Int32)) (0 : Int32) (fun _ => 0)) 0) ^^^ (90 : Int32))), (.int (0 : Int32)), (.ref b_60)])) _
            refine XS.i2b X66.here hx rfl (hb hby at_248) rfl ?_
            show Steps p.tables e below (T66.setTop (mkF m 249 #[.val (.int p0), .val (.int p1), .val (.int p2), .val (.int p3), .val (.int (0 : Int32)), .val (.int (0 : Int32)), .val (.int (1 : Int32)), .val (.ref b40), .val (.int (1 : Int32)), .val (.ref b43), .val (.ref b_60), .unset] [(.int ((((f12_r1_a (p2 &&& (255 : Int32)) (0 : Int32) (fun _ => 0)) 0) ^^^ (90 : Int32)).toInt8.toInt32)), (.int (0 : Int32)), (.ref b_60)])) _
            refine st72 _ ?_
            show Steps p.tables e below (T72.setTop (mkF m 250 #[.val (.int p0), .val (.int p1), .val (.int p2), .val (.int p3), .val (.int (0 : Int32)), .val (.int (0 : Int32)), .val (.int (1 : Int32)), .val (.ref b40), .val (.int (1 : Int32)), .val (.ref b43), .val (.ref b_60), .unset] [])) _
            refine XS.aload X72.here hx rfl (hb hby at_250) rfl rfl ?_
            show Steps p.tables e below (T72.setTop (mkF m 252 #[.val (.int p0), .val (.int p1), .val (.int p2), .val (.int p3), .val (.int (0 : Int32)), .val (.int (0 : Int32)), .val (.int (1 : Int32)), .val (.ref b40), .val (.int (1 : Int32)), .val (.ref b43), .val (.ref b_60), .unset] [(.ref b43)])) _
            refine st75.trans ?_
            show Steps p.tables e below (T75.setTop (mkF m 255 #[.val (.int p0), .val (.int p1), .val (.int p2), .val (.int p3), .val (.int (0 : Int32)), .val (.int (0 : Int32)), .val (.int (1 : Int32)), .val (.ref b40), .val (.int (1 : Int32)), .val (.ref b43), .val (.ref b_60), .unset] [(.ref b_75)])) _
            refine XS.astore X75.here hx rfl (hb hby at_255) rfl rfl (l' := #[.val (.int p0), .val (.int p1), .val (.int p2), .val (.int p3), .val (.int (0 : Int32)), .val (.int (0 : Int32)), .val (.int (1 : Int32)), .val (.ref b40), .val (.int (1 : Int32)), .val (.ref b43), .val (.ref b_60), .val (.ref b_75)]) rfl ?_
            show Steps p.tables e below (T75.setTop (mkF m 257 #[.val (.int p0), .val (.int p1), .val (.int p2), .val (.int p3), .val (.int (0 : Int32)), .val (.int (0 : Int32)), .val (.int (1 : Int32)), .val (.ref b40), .val (.int (1 : Int32)), .val (.ref b43), .val (.ref b_60), .val (.ref b_75)] [])) _
            refine XS.aload X75.here hx rfl (hb hby at_257) rfl rfl ?_
            show Steps p.tables e below (T75.setTop (mkF m 259 #[.val (.int p0), .val (.int p1), .val (.int p2), .val (.int p3), .val (.int (0 : Int32)), .val (.int (0 : Int32)), .val (.int (1 : Int32)), .val (.ref b40), .val (.int (1 : Int32)), .val (.ref b43), .val (.ref b_60), .val (.ref b_75)] [(.ref b_75)])) _
            refine XS.aload X75.here hx rfl (hb hby at_259) rfl rfl ?_
            exact kt)
        obtain ⟨cl82, Ar82, Sz82, Nn82, -⟩ := id G75_0
        have pre83 : ∀ t, Steps p.tables e below (T75.setTop (mkF m 269 #[.val (.int p0), .val (.int p1), .val (.int p2), .val (.int p3), .val (.int (0 : Int32)), .val (.int (0 : Int32)), .val (.int (1 : Int32)), .val (.ref b40), .val (.int (1 : Int32)), .val (.ref b43), .val (.ref b_60), .val (.ref b_75)] [(.int (1 : Int32)), (.int ((0 : Int32) + (1 : Int32)))])) t → Steps p.tables e below (s₁.setTop (entryFrame m #[(.int p0), (.int p1), (.int p2), (.int p3)] maxLocals)) t := fun t kt => pre81 t (by
            show Steps p.tables e below (T75.setTop (mkF m 261 #[.val (.int p0), .val (.int p1), .val (.int p2), .val (.int p3), .val (.int (0 : Int32)), .val (.int (0 : Int32)), .val (.int (1 : Int32)), .val (.ref b40), .val (.int (1 : Int32)), .val (.ref b43), .val (.ref b_60), .val (.ref b_75)] [(.ref b_60), (.ref b_75)])) _
            refine Jvm.RoadKit.acmp (g := (mkF m 261 #[.val (.int p0), .val (.int p1), .val (.int p2), .val (.int p3), .val (.int (0 : Int32)), .val (.int (0 : Int32)), .val (.int (1 : Int32)), .val (.ref b40), .val (.int (1 : Int32)), .val (.ref b43), .val (.ref b_60), .val (.ref b_75)] [(.ref b_60), (.ref b_75)])) X75 hx rfl rfl rfl (pc0 := 261) (pc' := 264) (same := false) rfl (hb hby at_261) rfl (decide_eq_false fun q => (Ne.symm ne_b_60_b_75) (Value.ref.inj q)) (by decide) (by decide) ?_
            show Steps p.tables e below (T75.setTop (mkF m 264 #[.val (.int p0), .val (.int p1), .val (.int p2), .val (.int p3), .val (.int (0 : Int32)), .val (.int (0 : Int32)), .val (.int (1 : Int32)), .val (.ref b40), .val (.int (1 : Int32)), .val (.ref b43), .val (.ref b_60), .val (.ref b_75)] [])) _
            refine XS.aload X75.here hx rfl (hb hby at_264) rfl rfl ?_
            show Steps p.tables e below (T75.setTop (mkF m 266 #[.val (.int p0), .val (.int p1), .val (.int p2), .val (.int p3), .val (.int (0 : Int32)), .val (.int (0 : Int32)), .val (.int (1 : Int32)), .val (.ref b40), .val (.int (1 : Int32)), .val (.ref b43), .val (.ref b_60), .val (.ref b_75)] [(.ref b_75)])) _
            refine X75.arraylength hx Ar82.1 (State.isArrayOf_alike hZ.alike Ar82.2.1) (g := (mkF m 266 #[.val (.int p0), .val (.int p1), .val (.int p2), .val (.int p3), .val (.int (0 : Int32)), .val (.int (0 : Int32)), .val (.int (1 : Int32)), .val (.ref b40), .val (.int (1 : Int32)), .val (.ref b43), .val (.ref b_60), .val (.ref b_75)] [(.ref b_75)])) rfl rfl (hb hby at_266) _ ?_
            rw [len_of Sz82 Nn82]
            show Steps p.tables e below (T75.setTop (mkF m 267 #[.val (.int p0), .val (.int p1), .val (.int p2), .val (.int p3), .val (.int (0 : Int32)), .val (.int (0 : Int32)), .val (.int (1 : Int32)), .val (.ref b40), .val (.int (1 : Int32)), .val (.ref b43), .val (.ref b_60), .val (.ref b_75)] [(.int ((0 : Int32) + (1 : Int32)))])) _
            refine XS.iload X75.here hx rfl (hb hby at_267) rfl ?_
            exact kt)
        have hd269_84 : ((0 : Int32) + (1 : Int32)) = (1 : Int32) := by decide
        have c86 := (((V57.keep K60q nin0).other W72 ne_b40_b_60).keep K75q nin0)
        obtain ⟨_, _, ⟨T85, L85, k85, n85⟩, -, X85, ⟨Lc85, hQ85, l85, y85, z85⟩, st85⟩ := Jvm.LawKit.callS X75 hx (y := (⟨"com/example/corvid/corvid/ByteWriterToByteArrayPinLaw", "same", "([B[BI)Z"⟩ : MethodName)) hown (mvT hZ (hw _ (List.mem_of_getElem? (i := 45) rfl))) (mvT hZ (hw _ (List.mem_of_getElem? (i := 46) rfl))) (mvT hZ (hw _ (List.mem_of_getElem? (i := 47) rfl))) (mvT hZ (hw _ (List.mem_of_getElem? (i := 48) rfl))) (by decide) (backOf (W := 0) (rm9 l Z a0 hw [] b_75 b40 (1 : Int32) ((0 : Int32) + (1 : Int32)) (f12_r1_a (p2 &&& (255 : Int32)) (0 : Int32) (fun _ => 0)) (7 : Int32) (own_upd (fun _ => 0) 0 (nar .byte ((p2 &&& (255 : Int32)).toInt8.toInt32))) T75.heap n0 Z80 G75_0 c86 (by decide)) hZ (hw _ (List.mem_of_getElem? (i := 48) rfl)) (hw _ (List.mem_of_getElem? (i := 47) rfl)) (by decide) (by decide)) (g := (mkF m 278 #[.val (.int p0), .val (.int p1), .val (.int p2), .val (.int p3), .val (.int (0 : Int32)), .val (.int (0 : Int32)), .val (.int (1 : Int32)), .val (.ref b40), .val (.int (1 : Int32)), .val (.ref b43), .val (.ref b_60), .val (.ref b_75)] [(.int (1 : Int32)), (.ref b40), (.ref b_75)])) rfl (by rw [hml]; rfl) (argsL := [(.ref b_75), (.ref b40), (.int (1 : Int32))]) (rest := []) (lenOf pd_0_2 rfl) rfl (by show 2 * 0 + _ ≤ _; exact Nat.le_of_eq rfl) (hb hby at_278) (fun _ _ => ⟨rfl, rfl, (by decide : 5 + 0 ≤ _), (by decide : 106 + 0 ≤ _)⟩)
        dsimp only [Pt.U, Pt.locs, Pt.cells, Pt.slots] at X85 l85 y85 z85 st85 hQ85
        subst l85 y85 z85
        obtain ⟨rfl, N85q, e85q⟩ := hQ85
        have N85 := Fr.app N75 N85q
        have pre87 : ∀ t, Steps p.tables e below (T85.setTop (mkF m 281 #[.val (.int p0), .val (.int p1), .val (.int p2), .val (.int p3), .val (.int (0 : Int32)), .val (.int (0 : Int32)), .val (.int (1 : Int32)), .val (.ref b40), .val (.int (1 : Int32)), .val (.ref b43), .val (.ref b_60), .val (.ref b_75)] [(.int (f9 (1 : Int32) (f12_r1_a (p2 &&& (255 : Int32)) (0 : Int32) (fun _ => 0)) (own_upd (fun _ => 0) 0 (nar .byte ((p2 &&& (255 : Int32)).toInt8.toInt32)))))])) t → Steps p.tables e below (s₁.setTop (entryFrame m #[(.int p0), (.int p1), (.int p2), (.int p3)] maxLocals)) t := fun t kt => pre83 t (by
            show Steps p.tables e below (T75.setTop (mkF m 269 #[.val (.int p0), .val (.int p1), .val (.int p2), .val (.int p3), .val (.int (0 : Int32)), .val (.int (0 : Int32)), .val (.int (1 : Int32)), .val (.ref b40), .val (.int (1 : Int32)), .val (.ref b43), .val (.ref b_60), .val (.ref b_75)] [(.int (1 : Int32)), (.int ((0 : Int32) + (1 : Int32)))])) _
            refine XS.icmpNo X75.here hx rfl (hb hby at_269) rfl (teq hd269_84).2 ?_
            show Steps p.tables e below (T75.setTop (mkF m 272 #[.val (.int p0), .val (.int p1), .val (.int p2), .val (.int p3), .val (.int (0 : Int32)), .val (.int (0 : Int32)), .val (.int (1 : Int32)), .val (.ref b40), .val (.int (1 : Int32)), .val (.ref b43), .val (.ref b_60), .val (.ref b_75)] [])) _
            refine XS.aload X75.here hx rfl (hb hby at_272) rfl rfl ?_
            show Steps p.tables e below (T75.setTop (mkF m 274 #[.val (.int p0), .val (.int p1), .val (.int p2), .val (.int p3), .val (.int (0 : Int32)), .val (.int (0 : Int32)), .val (.int (1 : Int32)), .val (.ref b40), .val (.int (1 : Int32)), .val (.ref b43), .val (.ref b_60), .val (.ref b_75)] [(.ref b_75)])) _
            refine XS.aload X75.here hx rfl (hb hby at_274) rfl rfl ?_
            show Steps p.tables e below (T75.setTop (mkF m 276 #[.val (.int p0), .val (.int p1), .val (.int p2), .val (.int p3), .val (.int (0 : Int32)), .val (.int (0 : Int32)), .val (.int (1 : Int32)), .val (.ref b40), .val (.int (1 : Int32)), .val (.ref b43), .val (.ref b_60), .val (.ref b_75)] [(.ref b40), (.ref b_75)])) _
            refine XS.iload X75.here hx rfl (hb hby at_276) rfl ?_
            show Steps p.tables e below (T75.setTop (mkF m 278 #[.val (.int p0), .val (.int p1), .val (.int p2), .val (.int p3), .val (.int (0 : Int32)), .val (.int (0 : Int32)), .val (.int (1 : Int32)), .val (.ref b40), .val (.int (1 : Int32)), .val (.ref b43), .val (.ref b_60), .val (.ref b_75)] [(.int (1 : Int32)), (.ref b40), (.ref b_75)])) _
            refine st85 _ ?_
            exact kt)
        have hd281_88 : ¬ ((f9 (1 : Int32) (f12_r1_a (p2 &&& (255 : Int32)) (0 : Int32) (fun _ => 0)) (own_upd (fun _ => 0) 0 (nar .byte ((p2 &&& (255 : Int32)).toInt8.toInt32)))) = (0 : Int32)) := own_sm _ _ _ (own_pf001 p0 p1 p2)
        obtain ⟨fs, hr, hrun, hended, hW, hsame⟩ := X85.leave (v := some (.int (1 : Int32))) (fun h => by rw [Bd.returns] at h; cases h)
        have hv518 : (1 : Int32) = (1 : Int32) := rfl
        refine ⟨_, _, pre87 _ ?_, hrun, hended, _, _, rfl, ?_, ⟨_, rfl⟩, hW, hsame.mono (by decide) (by decide)⟩
        · show Steps p.tables e below (T85.setTop (mkF m 281 #[.val (.int p0), .val (.int p1), .val (.int p2), .val (.int p3), .val (.int (0 : Int32)), .val (.int (0 : Int32)), .val (.int (1 : Int32)), .val (.ref b40), .val (.int (1 : Int32)), .val (.ref b43), .val (.ref b_60), .val (.ref b_75)] [(.int (f9 (1 : Int32) (f12_r1_a (p2 &&& (255 : Int32)) (0 : Int32) (fun _ => 0)) (own_upd (fun _ => 0) 0 (nar .byte ((p2 &&& (255 : Int32)).toInt8.toInt32)))))])) _
          refine XS.ifNo X85.here hx rfl (hb hby at_281) rfl ((if0 _ _).trans (feq hd281_88).1) ?_
          show Steps p.tables e below (T85.setTop (mkF m 284 #[.val (.int p0), .val (.int p1), .val (.int p2), .val (.int p3), .val (.int (0 : Int32)), .val (.int (0 : Int32)), .val (.int (1 : Int32)), .val (.ref b40), .val (.int (1 : Int32)), .val (.ref b43), .val (.ref b_60), .val (.ref b_75)] [])) _
          refine XS.iconst X85.here hx rfl (hb hby at_284) ?_
          show Steps p.tables e below (T85.setTop (mkF m 285 #[.val (.int p0), .val (.int p1), .val (.int p2), .val (.int p3), .val (.int (0 : Int32)), .val (.int (0 : Int32)), .val (.int (1 : Int32)), .val (.ref b40), .val (.int (1 : Int32)), .val (.ref b43), .val (.ref b_60), .val (.ref b_75)] [(.int (1 : Int32))])) _
          refine XS.goto X85.here hx rfl (pc0 := 285) (pc' := 289) rfl (hb hby at_285) (by decide) (by decide) ?_
          show Steps p.tables e below (T85.setTop (mkF m 289 #[.val (.int p0), .val (.int p1), .val (.int p2), .val (.int p3), .val (.int (0 : Int32)), .val (.int (0 : Int32)), .val (.int (1 : Int32)), .val (.ref b40), .val (.int (1 : Int32)), .val (.ref b43), .val (.ref b_60), .val (.ref b_75)] [(.int (1 : Int32))])) _
          exact retN X85 hx (t := .boolean) Bd.returns (by simp) (hb hby at_289) hr
        · show Q0 Z p0 p1 p2 p3 h0 n0 _ T85.heap _
          rw [e85q]
          exact ⟨congrArg (fun q => some (Value.int q)) hv518, N85⟩
    · have pre89 : ∀ t, Steps p.tables e below (s₁.setTop (mkF m 29 #[.val (.int p0), .val (.int p1), .val (.int p2), .val (.int p3), .val (.int (0 : Int32)), .val (.int (1 : Int32)), .unset, .unset, .unset, .unset, .unset, .unset] [(.int (p3 &&& (4 : Int32)))])) t → Steps p.tables e below (s₁.setTop (entryFrame m #[(.int p0), (.int p1), (.int p2), (.int p3)] maxLocals)) t := fun t kt => pre3 t (by
          show Steps p.tables e below (s₁.setTop (mkF m 16 #[.val (.int p0), .val (.int p1), .val (.int p2), .val (.int p3), .val (.int (0 : Int32)), .unset, .unset, .unset, .unset, .unset, .unset, .unset] [(.int (p3 &&& (2 : Int32)))])) _
          refine XS.ifNo X0.here hx rfl (hb hby at_16) rfl ((if0 _ _).trans (feq hc16_4).1) ?_
          show Steps p.tables e below (s₁.setTop (mkF m 19 #[.val (.int p0), .val (.int p1), .val (.int p2), .val (.int p3), .val (.int (0 : Int32)), .unset, .unset, .unset, .unset, .unset, .unset, .unset] [])) _
          refine XS.iconst X0.here hx rfl (hb hby at_19) ?_
          show Steps p.tables e below (s₁.setTop (mkF m 20 #[.val (.int p0), .val (.int p1), .val (.int p2), .val (.int p3), .val (.int (0 : Int32)), .unset, .unset, .unset, .unset, .unset, .unset, .unset] [(.int (1 : Int32))])) _
          refine XS.goto X0.here hx rfl (pc0 := 20) (pc' := 24) rfl (hb hby at_20) (by decide) (by decide) ?_
          show Steps p.tables e below (s₁.setTop (mkF m 24 #[.val (.int p0), .val (.int p1), .val (.int p2), .val (.int p3), .val (.int (0 : Int32)), .unset, .unset, .unset, .unset, .unset, .unset, .unset] [(.int (1 : Int32))])) _
          refine XS.istore X0.here hx rfl (hb hby at_24) rfl (l' := #[.val (.int p0), .val (.int p1), .val (.int p2), .val (.int p3), .val (.int (0 : Int32)), .val (.int (1 : Int32)), .unset, .unset, .unset, .unset, .unset, .unset]) rfl ?_
          show Steps p.tables e below (s₁.setTop (mkF m 26 #[.val (.int p0), .val (.int p1), .val (.int p2), .val (.int p3), .val (.int (0 : Int32)), .val (.int (1 : Int32)), .unset, .unset, .unset, .unset, .unset, .unset] [])) _
          refine XS.iloadN X0.here hx rfl (hb hby at_26) rfl ?_
          show Steps p.tables e below (s₁.setTop (mkF m 27 #[.val (.int p0), .val (.int p1), .val (.int p2), .val (.int p3), .val (.int (0 : Int32)), .val (.int (1 : Int32)), .unset, .unset, .unset, .unset, .unset, .unset] [(.int p3)])) _
          refine XS.iconst X0.here hx rfl (hb hby at_27) ?_
          show Steps p.tables e below (s₁.setTop (mkF m 28 #[.val (.int p0), .val (.int p1), .val (.int p2), .val (.int p3), .val (.int (0 : Int32)), .val (.int (1 : Int32)), .unset, .unset, .unset, .unset, .unset, .unset] [(.int (4 : Int32)), (.int p3)])) _
          refine XS.iand X0.here hx rfl (hb hby at_28) rfl ?_
          exact kt)
      by_cases hc29_90 : (p3 &&& (4 : Int32)) = (0 : Int32)
      · obtain ⟨T91, h91, k91, X91, e91, E91, A91, st91⟩ := newP X0 hx hZ (hw _ (List.mem_of_getElem? (i := 0) rfl)) e0 (g := (mkF m 41 #[.val (.int p0), .val (.int p1), .val (.int p2), .val (.int p3), .val (.int (0 : Int32)), .val (.int (1 : Int32)), .val (.int (0 : Int32)), .unset, .unset, .unset, .unset, .unset] [(.int (7 : Int32))])) rfl (hb hby at_41) rfl (by decide) (cap := 7) (by decide) (by decide) (by decide) (by decide)
        obtain ⟨b91, g91⟩ : ∃ z, z = h0.size := ⟨_, rfl⟩
        rw [← g91] at A91 st91
        have g_b91 : n0 ≤ b91 := Nat.le_trans Z0 (Nat.le_of_eq g91.symm)
        have sz_b91 : h0.size ≤ b91 := Nat.le_trans (Keep.refl h0 []).1 (Nat.le_of_eq g91.symm)
        have K92 : Keep h0 h91 [] := (Keep.refl h0 []).ext E91
        have Z93 : n0 ≤ h91.size := Nat.le_trans Z0 K92.1
        have V_b91 : own_AI Z h91 b91 .byte (7 : Int32) (fun _ => 0) := own_AI.new A91 (by decide) rfl
        obtain ⟨T94, h94, X94, e94, E94, A94, D94, -, st94⟩ := newO X91 hx hZ hown (hw _ (List.mem_of_getElem? (i := 1) rfl)) (hw _ (List.mem_of_getElem? (i := 2) rfl)) (hw _ (List.mem_of_getElem? (i := 3) rfl)) e91 (g := (mkF m 48 #[.val (.int p0), .val (.int p1), .val (.int p2), .val (.int p3), .val (.int (0 : Int32)), .val (.int (1 : Int32)), .val (.int (0 : Int32)), .val (.ref b91), .val (.int (0 : Int32)), .unset, .unset, .unset] [])) rfl (hb hby at_48) (by decide) (by decide)
        obtain ⟨b94, g94⟩ : ∃ z, z = h91.size := ⟨_, rfl⟩
        rw [← g94] at A94 D94 st94
        have g_b94 : n0 ≤ b94 := Nat.le_trans Z93 (Nat.le_of_eq g94.symm)
        have sz_b94 : h0.size ≤ b94 := Nat.le_trans K92.1 (Nat.le_of_eq g94.symm)
        have ne_b91_b94 : b91 ≠ b94 := Nat.ne_of_lt (Nat.lt_of_lt_of_le V_b91.lt (Nat.le_of_eq g94.symm))
        have K95 : Keep h0 h94 [] := K92.ext E94
        have Z96 : n0 ≤ h94.size := Nat.le_trans Z0 K95.1
        have E_b94 := A94
        have F_bytes_b94 : Fld Z h94 b94 "com/example/corvid/corvid/ByteWriter" "bytes" "[B" .null := D94 (Or.inl (hw _ (List.mem_of_getElem? (i := 11) rfl))) (ty := (.array .byte)) (by decide)
        have F_encapsulationStart_b94 : Fld Z h94 b94 "com/example/corvid/corvid/ByteWriter" "encapsulationStart" "I" (.int (0 : Int32)) := D94 (Or.inl (hw _ (List.mem_of_getElem? (i := 13) rfl))) (ty := .int) (by decide)
        have F_length_b94 : Fld Z h94 b94 "com/example/corvid/corvid/ByteWriter" "length" "I" (.int (0 : Int32)) := D94 (Or.inl (hw _ (List.mem_of_getElem? (i := 24) rfl))) (ty := .int) (by decide)
        obtain ⟨_, _, ⟨T97, L97, k97, n97⟩, -, X97, ⟨Lc97, hQ97, l97, y97, z97⟩, st97⟩ := X94.specialBack hx (y := (⟨"com/example/corvid/corvid/ByteWriter", "<init>", "()V"⟩ : MethodName)) rfl hown (mvT hZ (hw _ (List.mem_of_getElem? (i := 4) rfl))) (mvT hZ (hw _ (List.mem_of_getElem? (i := 5) rfl))) (mvT hZ (hw _ (List.mem_of_getElem? (i := 6) rfl))) (by decide) (backOf (W := 1) (rm1 l Z a0 hw [] b94 (0 : Int32) (0 : Int32) h94 n0 Z96 E_b94 F_length_b94 F_bytes_b94 g_b94 F_encapsulationStart_b94) hZ (hw _ (List.mem_of_getElem? (i := 6) rfl)) (hw _ (List.mem_of_getElem? (i := 3) rfl)) (by decide) (by decide)) (g := (mkF m 52 #[.val (.int p0), .val (.int p1), .val (.int p2), .val (.int p3), .val (.int (0 : Int32)), .val (.int (1 : Int32)), .val (.int (0 : Int32)), .val (.ref b91), .val (.int (0 : Int32)), .unset, .unset, .unset] [(.ref b94), (.ref b94)])) rfl (by rw [hml]; rfl) (Steps.refl _) (a := b94) (argsL := []) (rest := [(.ref b94)]) (lenOf pd_0_0 rfl) rfl (by show 2 * 0 + _ ≤ _; exact Nat.le_of_eq rfl) (hb hby at_52) (fun _ _ => ⟨rfl, e94, (by decide : 2 + 1 ≤ _), (by decide : 10 + 64 ≤ _)⟩)
        dsimp only [Pt.U, Pt.locs, Pt.cells, Pt.slots] at X97 l97 y97 z97 st97 hQ97
        subst l97 y97 z97
        obtain ⟨r_o0_bytes_97, rfl, N97q, K97q, g_r_o0_bytes_97, szq_r_o0_bytes_97, G97_0, G97_1, G97_2, G97_3⟩ := hQ97
        have N97 := Fr.app N0 N97q
        have ne_b91_r_o0_bytes_97 : b91 ≠ r_o0_bytes_97 := Nat.ne_of_lt (Nat.lt_of_lt_of_le (V_b91.ext E94).lt szq_r_o0_bytes_97)
        have ne_b94_r_o0_bytes_97 : b94 ≠ r_o0_bytes_97 := Nat.ne_of_lt (Nat.lt_of_lt_of_le E_b94.lt szq_r_o0_bytes_97)
        have sz_r_o0_bytes_97 : h0.size ≤ r_o0_bytes_97 := Nat.le_trans K95.1 szq_r_o0_bytes_97
        have K98 : Keep h0 T97.heap [] := K95.trans K97q (allS (Or.inr sz_b94) all0)
        have Z99 : n0 ≤ T97.heap.size := Nat.le_trans Z0 K98.1
        obtain ⟨LS97, X97, N97⟩ : ∃ L, Stand p l e room_1 s m #[(.int p0), (.int p1), (.int p2), (.int p3)] below meth c T97 L 3 74 ∧ Fr n0 L := ⟨_, X97, N97⟩
        have pre100 : ∀ t, Steps p.tables e below (T97.setTop (mkF m 59 #[.val (.int p0), .val (.int p1), .val (.int p2), .val (.int p3), .val (.int (0 : Int32)), .val (.int (1 : Int32)), .val (.int (0 : Int32)), .val (.ref b91), .val (.int (0 : Int32)), .val (.ref b94), .unset, .unset] [(.int (0 : Int32))])) t → Steps p.tables e below (s₁.setTop (entryFrame m #[(.int p0), (.int p1), (.int p2), (.int p3)] maxLocals)) t := fun t kt => pre89 t (by
            show Steps p.tables e below (s₁.setTop (mkF m 29 #[.val (.int p0), .val (.int p1), .val (.int p2), .val (.int p3), .val (.int (0 : Int32)), .val (.int (1 : Int32)), .unset, .unset, .unset, .unset, .unset, .unset] [(.int (p3 &&& (4 : Int32)))])) _
            refine XS.ifYes X0.here hx rfl (pc0 := 29) (pc' := 36) rfl (hb hby at_29) rfl ((if0 _ _).trans (teq hc29_90).1) (by decide) (by decide) ?_
            show Steps p.tables e below (s₁.setTop (mkF m 36 #[.val (.int p0), .val (.int p1), .val (.int p2), .val (.int p3), .val (.int (0 : Int32)), .val (.int (1 : Int32)), .unset, .unset, .unset, .unset, .unset, .unset] [])) _
            refine XS.iconst X0.here hx rfl (hb hby at_36) ?_
            show Steps p.tables e below (s₁.setTop (mkF m 37 #[.val (.int p0), .val (.int p1), .val (.int p2), .val (.int p3), .val (.int (0 : Int32)), .val (.int (1 : Int32)), .unset, .unset, .unset, .unset, .unset, .unset] [(.int (0 : Int32))])) _
            refine XS.istore X0.here hx rfl (hb hby at_37) rfl (l' := #[.val (.int p0), .val (.int p1), .val (.int p2), .val (.int p3), .val (.int (0 : Int32)), .val (.int (1 : Int32)), .val (.int (0 : Int32)), .unset, .unset, .unset, .unset, .unset]) rfl ?_
            show Steps p.tables e below (s₁.setTop (mkF m 39 #[.val (.int p0), .val (.int p1), .val (.int p2), .val (.int p3), .val (.int (0 : Int32)), .val (.int (1 : Int32)), .val (.int (0 : Int32)), .unset, .unset, .unset, .unset, .unset] [])) _
            refine XS.bipush X0.here hx rfl (hb hby at_39) ?_
            show Steps p.tables e below (s₁.setTop (mkF m 41 #[.val (.int p0), .val (.int p1), .val (.int p2), .val (.int p3), .val (.int (0 : Int32)), .val (.int (1 : Int32)), .val (.int (0 : Int32)), .unset, .unset, .unset, .unset, .unset] [(.int (7 : Int32))])) _
            refine st91 _ ?_
            show Steps p.tables e below (T91.setTop (mkF m 43 #[.val (.int p0), .val (.int p1), .val (.int p2), .val (.int p3), .val (.int (0 : Int32)), .val (.int (1 : Int32)), .val (.int (0 : Int32)), .unset, .unset, .unset, .unset, .unset] [(.ref b91)])) _
            refine XS.astore X91.here hx rfl (hb hby at_43) rfl rfl (l' := #[.val (.int p0), .val (.int p1), .val (.int p2), .val (.int p3), .val (.int (0 : Int32)), .val (.int (1 : Int32)), .val (.int (0 : Int32)), .val (.ref b91), .unset, .unset, .unset, .unset]) rfl ?_
            show Steps p.tables e below (T91.setTop (mkF m 45 #[.val (.int p0), .val (.int p1), .val (.int p2), .val (.int p3), .val (.int (0 : Int32)), .val (.int (1 : Int32)), .val (.int (0 : Int32)), .val (.ref b91), .unset, .unset, .unset, .unset] [])) _
            refine XS.iconst X91.here hx rfl (hb hby at_45) ?_
            show Steps p.tables e below (T91.setTop (mkF m 46 #[.val (.int p0), .val (.int p1), .val (.int p2), .val (.int p3), .val (.int (0 : Int32)), .val (.int (1 : Int32)), .val (.int (0 : Int32)), .val (.ref b91), .unset, .unset, .unset, .unset] [(.int (0 : Int32))])) _
            refine XS.istore X91.here hx rfl (hb hby at_46) rfl (l' := #[.val (.int p0), .val (.int p1), .val (.int p2), .val (.int p3), .val (.int (0 : Int32)), .val (.int (1 : Int32)), .val (.int (0 : Int32)), .val (.ref b91), .val (.int (0 : Int32)), .unset, .unset, .unset]) rfl ?_
            show Steps p.tables e below (T91.setTop (mkF m 48 #[.val (.int p0), .val (.int p1), .val (.int p2), .val (.int p3), .val (.int (0 : Int32)), .val (.int (1 : Int32)), .val (.int (0 : Int32)), .val (.ref b91), .val (.int (0 : Int32)), .unset, .unset, .unset] [])) _
            refine st94 _ ?_
            show Steps p.tables e below (T94.setTop (mkF m 51 #[.val (.int p0), .val (.int p1), .val (.int p2), .val (.int p3), .val (.int (0 : Int32)), .val (.int (1 : Int32)), .val (.int (0 : Int32)), .val (.ref b91), .val (.int (0 : Int32)), .unset, .unset, .unset] [(.ref b94)])) _
            refine XS.dup X94.here hx rfl (hb hby at_51) rfl rfl ?_
            show Steps p.tables e below (T94.setTop (mkF m 52 #[.val (.int p0), .val (.int p1), .val (.int p2), .val (.int p3), .val (.int (0 : Int32)), .val (.int (1 : Int32)), .val (.int (0 : Int32)), .val (.ref b91), .val (.int (0 : Int32)), .unset, .unset, .unset] [(.ref b94), (.ref b94)])) _
            refine st97.trans ?_
            show Steps p.tables e below (T97.setTop (mkF m 55 #[.val (.int p0), .val (.int p1), .val (.int p2), .val (.int p3), .val (.int (0 : Int32)), .val (.int (1 : Int32)), .val (.int (0 : Int32)), .val (.ref b91), .val (.int (0 : Int32)), .unset, .unset, .unset] [(.ref b94)])) _
            refine XS.astore X97.here hx rfl (hb hby at_55) rfl rfl (l' := #[.val (.int p0), .val (.int p1), .val (.int p2), .val (.int p3), .val (.int (0 : Int32)), .val (.int (1 : Int32)), .val (.int (0 : Int32)), .val (.ref b91), .val (.int (0 : Int32)), .val (.ref b94), .unset, .unset]) rfl ?_
            show Steps p.tables e below (T97.setTop (mkF m 57 #[.val (.int p0), .val (.int p1), .val (.int p2), .val (.int p3), .val (.int (0 : Int32)), .val (.int (1 : Int32)), .val (.int (0 : Int32)), .val (.ref b91), .val (.int (0 : Int32)), .val (.ref b94), .unset, .unset] [])) _
            refine XS.iload X97.here hx rfl (hb hby at_57) rfl ?_
            exact kt)
        have pre101 : ∀ t, Steps p.tables e below (T97.setTop (mkF m 132 #[.val (.int p0), .val (.int p1), .val (.int p2), .val (.int p3), .val (.int (0 : Int32)), .val (.int (1 : Int32)), .val (.int (0 : Int32)), .val (.ref b91), .val (.int (0 : Int32)), .val (.ref b94), .unset, .unset] [(.int (1 : Int32))])) t → Steps p.tables e below (s₁.setTop (entryFrame m #[(.int p0), (.int p1), (.int p2), (.int p3)] maxLocals)) t := fun t kt => pre100 t (by
            show Steps p.tables e below (T97.setTop (mkF m 59 #[.val (.int p0), .val (.int p1), .val (.int p2), .val (.int p3), .val (.int (0 : Int32)), .val (.int (1 : Int32)), .val (.int (0 : Int32)), .val (.ref b91), .val (.int (0 : Int32)), .val (.ref b94), .unset, .unset] [(.int (0 : Int32))])) _
            refine XS.ifYes X97.here hx rfl (pc0 := 59) (pc' := 130) rfl (hb hby at_59) rfl ((if0 _ _).trans (teq (by decide : ((0 : Int32) = (0 : Int32)))).1) (by decide) (by decide) ?_
            show Steps p.tables e below (T97.setTop (mkF m 130 #[.val (.int p0), .val (.int p1), .val (.int p2), .val (.int p3), .val (.int (0 : Int32)), .val (.int (1 : Int32)), .val (.int (0 : Int32)), .val (.ref b91), .val (.int (0 : Int32)), .val (.ref b94), .unset, .unset] [])) _
            refine XS.iload X97.here hx rfl (hb hby at_130) rfl ?_
            exact kt)
        obtain ⟨cq102, kq102, q102a, q102b, q102c⟩ := isOf hZ rfl (E_b94.keep K97q)
        obtain ⟨_, _, ⟨T102, L102, k102, n102⟩, -, X102, ⟨Lc102, hQ102, l102, y102, z102⟩, st102⟩ := X97.virtualBack hx (y := (⟨"com/example/corvid/corvid/ByteWriter", "writeShort", "(S)V"⟩ : MethodName)) (z := (⟨"com/example/corvid/corvid/ByteWriter", "writeShort", "(S)V"⟩ : MethodName)) hown (mvT hZ (hw _ (List.mem_of_getElem? (i := 52) rfl))) (mvT hZ (hw _ (List.mem_of_getElem? (i := 53) rfl))) (notFace_of_selects (args := #[]) (mvT hZ (hw _ (List.mem_of_getElem? (i := 55) rfl)))) (mvT hZ (hw _ (List.mem_of_getElem? (i := 55) rfl))) (mvT hZ (hw _ (List.mem_of_getElem? (i := 54) rfl))) (by decide) (backOf (W := 0) (rm11 l Z a0 hw [] b94 (p1.toInt16.toInt32) (0 : Int32) r_o0_bytes_97 (fun _ => 0) T97.heap n0 Z99 (E_b94.keep K97q) G97_3 G97_0 G97_1 ne_b94_r_o0_bytes_97 (by decide) g_b94 g_r_o0_bytes_97) hZ (hw _ (List.mem_of_getElem? (i := 56) rfl)) (hw _ (List.mem_of_getElem? (i := 3) rfl)) (by decide) (by decide)) q102a q102c (g := (mkF m 139 #[.val (.int p0), .val (.int p1), .val (.int p2), .val (.int p3), .val (.int (0 : Int32)), .val (.int (1 : Int32)), .val (.int (0 : Int32)), .val (.ref b91), .val (.int (0 : Int32)), .val (.ref b94), .unset, .unset] [(.int (p1.toInt16.toInt32)), (.ref b94)])) rfl (by rw [hml]; rfl) (Steps.refl _) (argsL := [(.int (p1.toInt16.toInt32))]) (rest := []) (lenOf pd_0_4 rfl) rfl (by show 2 * 0 + _ ≤ _; exact Nat.le_of_eq rfl) (hb hby at_139) (fun _ _ => ⟨rfl, rfl, (by decide : 3 + 0 ≤ _), (by decide : 74 + 0 ≤ _)⟩)
        dsimp only [Pt.U, Pt.locs, Pt.cells, Pt.slots] at X102 l102 y102 z102 st102 hQ102
        subst l102 y102 z102
        obtain ⟨rfl, N102q, K102q, G102_0, G102_1, G102_2⟩ := hQ102
        have N102 := Fr.app N97 N102q
        have K103 : Keep h0 T102.heap [] := K98.trans K102q (allS (Or.inr sz_r_o0_bytes_97) (allS (Or.inr sz_b94) all0))
        have Z104 : n0 ≤ T102.heap.size := Nat.le_trans Z0 K103.1
        obtain ⟨LS102, X102, N102⟩ : ∃ L, Stand p l e room_1 s m #[(.int p0), (.int p1), (.int p2), (.int p3)] below meth c T102 L 3 74 ∧ Fr n0 L := ⟨_, X102, N102⟩
        have c106 := (((V_b91.ext E94).keep K97q (ninS ne_b91_b94 nin0)).keep K102q (ninS ne_b91_r_o0_bytes_97 (ninS ne_b91_b94 nin0)))
        obtain ⟨cl105, Ar105, Sz105, Nn105, Hs105⟩ := id c106
        have hin105 : ¬ ((0 : Int32) < 0 ∨ cl105.slots.size ≤ ((0 : Int32)).toNatClampNeg) := inb_of Sz105 ⟨by decide, by decide⟩
        obtain ⟨T107, h107, X107, e107, W107, st107⟩ := stB X102 hx hZ rfl Ar105 (j := (0 : Int32)) hin105 (g := (mkF m 152 #[.val (.int p0), .val (.int p1), .val (.int p2), .val (.int p3), .val (.int (0 : Int32)), .val (.int (1 : Int32)), .val (.int (0 : Int32)), .val (.ref b91), .val (.int (0 : Int32)), .val (.ref b94), .unset, .unset] [(.int ((p1 &&& (255 : Int32)).toInt8.toInt32)), (.int (0 : Int32)), (.ref b91)])) rfl rfl (hb hby at_152)
        have V107 : own_AI Z h107 b91 .byte (7 : Int32) (own_upd (fun _ => 0) 0 (nar .byte ((p1 &&& (255 : Int32)).toInt8.toInt32))) := own_AI.set c106 (fits_nar_byte ((p1 &&& (255 : Int32)).toInt8.toInt32)) W107
        have K108 : Keep h0 h107 [] := K103.wr W107 (Or.inr sz_b91)
        have Z109 : n0 ≤ h107.size := Nat.le_trans Z0 K108.1
        have N107 := Fr.snoc X107 N102 g_b91
        obtain ⟨LS107, X107, N107⟩ : ∃ L, Stand p l e room_1 s m #[(.int p0), (.int p1), (.int p2), (.int p3)] below meth c T107 L 3 74 ∧ Fr n0 L := ⟨_, X107, N107⟩
        obtain ⟨cl110, Ar110, Sz110, Nn110, Hs110⟩ := id V107
        have hin110 : ¬ ((1 : Int32) < 0 ∨ cl110.slots.size ≤ ((1 : Int32)).toNatClampNeg) := inb_of Sz110 ⟨by decide, by decide⟩
        obtain ⟨T111, h111, X111, e111, W111, st111⟩ := stB X107 hx hZ e107 Ar110 (j := (1 : Int32)) hin110 (g := (mkF m 168 #[.val (.int p0), .val (.int p1), .val (.int p2), .val (.int p3), .val (.int (0 : Int32)), .val (.int (1 : Int32)), .val (.int (0 : Int32)), .val (.ref b91), .val (.int (0 : Int32)), .val (.ref b94), .unset, .unset] [(.int (((p1 >>> ((8 : Int32) &&& 31)) &&& (255 : Int32)).toInt8.toInt32)), (.int (1 : Int32)), (.ref b91)])) rfl rfl (hb hby at_168)
        have V111 : own_AI Z h111 b91 .byte (7 : Int32) (own_upd (own_upd (fun _ => 0) 0 (nar .byte ((p1 &&& (255 : Int32)).toInt8.toInt32))) 1 (nar .byte (((p1 >>> ((8 : Int32) &&& 31)) &&& (255 : Int32)).toInt8.toInt32))) := own_AI.set V107 (fits_nar_byte (((p1 >>> ((8 : Int32) &&& 31)) &&& (255 : Int32)).toInt8.toInt32)) W111
        have K112 : Keep h0 h111 [] := K108.wr W111 (Or.inr sz_b91)
        have Z113 : n0 ≤ h111.size := Nat.le_trans Z0 K112.1
        have N111 := Fr.snoc X111 N107 g_b91
        obtain ⟨LS111, X111, N111⟩ : ∃ L, Stand p l e room_1 s m #[(.int p0), (.int p1), (.int p2), (.int p3)] below meth c T111 L 3 74 ∧ Fr n0 L := ⟨_, X111, N111⟩
        have pre114 : ∀ t, Steps p.tables e below (T111.setTop (mkF m 174 #[.val (.int p0), .val (.int p1), .val (.int p2), .val (.int p3), .val (.int (0 : Int32)), .val (.int (1 : Int32)), .val (.int (0 : Int32)), .val (.ref b91), .val (.int (2 : Int32)), .val (.ref b94), .unset, .unset] [(.int (0 : Int32))])) t → Steps p.tables e below (s₁.setTop (entryFrame m #[(.int p0), (.int p1), (.int p2), (.int p3)] maxLocals)) t := fun t kt => pre101 t (by
            show Steps p.tables e below (T97.setTop (mkF m 132 #[.val (.int p0), .val (.int p1), .val (.int p2), .val (.int p3), .val (.int (0 : Int32)), .val (.int (1 : Int32)), .val (.int (0 : Int32)), .val (.ref b91), .val (.int (0 : Int32)), .val (.ref b94), .unset, .unset] [(.int (1 : Int32))])) _
            refine XS.ifNo X97.here hx rfl (hb hby at_132) rfl ((if0 _ _).trans (feq (by decide : ¬ ((1 : Int32) = (0 : Int32)))).1) ?_
            show Steps p.tables e below (T97.setTop (mkF m 135 #[.val (.int p0), .val (.int p1), .val (.int p2), .val (.int p3), .val (.int (0 : Int32)), .val (.int (1 : Int32)), .val (.int (0 : Int32)), .val (.ref b91), .val (.int (0 : Int32)), .val (.ref b94), .unset, .unset] [])) _
            refine XS.aload X97.here hx rfl (hb hby at_135) rfl rfl ?_
            show Steps p.tables e below (T97.setTop (mkF m 137 #[.val (.int p0), .val (.int p1), .val (.int p2), .val (.int p3), .val (.int (0 : Int32)), .val (.int (1 : Int32)), .val (.int (0 : Int32)), .val (.ref b91), .val (.int (0 : Int32)), .val (.ref b94), .unset, .unset] [(.ref b94)])) _
            refine XS.iloadN X97.here hx rfl (hb hby at_137) rfl ?_
            show Steps p.tables e below (T97.setTop (mkF m 138 #[.val (.int p0), .val (.int p1), .val (.int p2), .val (.int p3), .val (.int (0 : Int32)), .val (.int (1 : Int32)), .val (.int (0 : Int32)), .val (.ref b91), .val (.int (0 : Int32)), .val (.ref b94), .unset, .unset] [(.int p1), (.ref b94)])) _
            refine XS.i2s X97.here hx rfl (hb hby at_138) rfl ?_
            show Steps p.tables e below (T97.setTop (mkF m 139 #[.val (.int p0), .val (.int p1), .val (.int p2), .val (.int p3), .val (.int (0 : Int32)), .val (.int (1 : Int32)), .val (.int (0 : Int32)), .val (.ref b91), .val (.int (0 : Int32)), .val (.ref b94), .unset, .unset] [(.int (p1.toInt16.toInt32)), (.ref b94)])) _
            refine st102.trans ?_
            show Steps p.tables e below (T102.setTop (mkF m 142 #[.val (.int p0), .val (.int p1), .val (.int p2), .val (.int p3), .val (.int (0 : Int32)), .val (.int (1 : Int32)), .val (.int (0 : Int32)), .val (.ref b91), .val (.int (0 : Int32)), .val (.ref b94), .unset, .unset] [])) _
            refine XS.aload X102.here hx rfl (hb hby at_142) rfl rfl ?_
            show Steps p.tables e below (T102.setTop (mkF m 144 #[.val (.int p0), .val (.int p1), .val (.int p2), .val (.int p3), .val (.int (0 : Int32)), .val (.int (1 : Int32)), .val (.int (0 : Int32)), .val (.ref b91), .val (.int (0 : Int32)), .val (.ref b94), .unset, .unset] [(.ref b91)])) _
            refine XS.iload X102.here hx rfl (hb hby at_144) rfl ?_
            show Steps p.tables e below (T102.setTop (mkF m 146 #[.val (.int p0), .val (.int p1), .val (.int p2), .val (.int p3), .val (.int (0 : Int32)), .val (.int (1 : Int32)), .val (.int (0 : Int32)), .val (.ref b91), .val (.int (0 : Int32)), .val (.ref b94), .unset, .unset] [(.int (0 : Int32)), (.ref b91)])) _
            refine XS.iloadN X102.here hx rfl (hb hby at_146) rfl ?_
            show Steps p.tables e below (T102.setTop (mkF m 147 #[.val (.int p0), .val (.int p1), .val (.int p2), .val (.int p3), .val (.int (0 : Int32)), .val (.int (1 : Int32)), .val (.int (0 : Int32)), .val (.ref b91), .val (.int (0 : Int32)), .val (.ref b94), .unset, .unset] [(.int p1), (.int (0 : Int32)), (.ref b91)])) _
            refine XS.sipush X102.here hx rfl (hb hby at_147) ?_
            show Steps p.tables e below (T102.setTop (mkF m 150 #[.val (.int p0), .val (.int p1), .val (.int p2), .val (.int p3), .val (.int (0 : Int32)), .val (.int (1 : Int32)), .val (.int (0 : Int32)), .val (.ref b91), .val (.int (0 : Int32)), .val (.ref b94), .unset, .unset] [(.int (255 : Int32)), (.int p1), (.int (0 : Int32)), (.ref b91)])) _
            refine XS.iand X102.here hx rfl (hb hby at_150) rfl ?_
            show Steps p.tables e below (T102.setTop (mkF m 151 #[.val (.int p0), .val (.int p1), .val (.int p2), .val (.int p3), .val (.int (0 : Int32)), .val (.int (1 : Int32)), .val (.int (0 : Int32)), .val (.ref b91), .val (.int (0 : Int32)), .val (.ref b94), .unset, .unset] [(.int (p1 &&& (255 : Int32))), (.int (0 : Int32)), (.ref b91)])) _
            refine XS.i2b X102.here hx rfl (hb hby at_151) rfl ?_
            show Steps p.tables e below (T102.setTop (mkF m 152 #[.val (.int p0), .val (.int p1), .val (.int p2), .val (.int p3), .val (.int (0 : Int32)), .val (.int (1 : Int32)), .val (.int (0 : Int32)), .val (.ref b91), .val (.int (0 : Int32)), .val (.ref b94), .unset, .unset] [(.int ((p1 &&& (255 : Int32)).toInt8.toInt32)), (.int (0 : Int32)), (.ref b91)])) _
            refine st107 _ ?_
            show Steps p.tables e below (T107.setTop (mkF m 153 #[.val (.int p0), .val (.int p1), .val (.int p2), .val (.int p3), .val (.int (0 : Int32)), .val (.int (1 : Int32)), .val (.int (0 : Int32)), .val (.ref b91), .val (.int (0 : Int32)), .val (.ref b94), .unset, .unset] [])) _
            refine XS.aload X107.here hx rfl (hb hby at_153) rfl rfl ?_
            show Steps p.tables e below (T107.setTop (mkF m 155 #[.val (.int p0), .val (.int p1), .val (.int p2), .val (.int p3), .val (.int (0 : Int32)), .val (.int (1 : Int32)), .val (.int (0 : Int32)), .val (.ref b91), .val (.int (0 : Int32)), .val (.ref b94), .unset, .unset] [(.ref b91)])) _
            refine XS.iload X107.here hx rfl (hb hby at_155) rfl ?_
            show Steps p.tables e below (T107.setTop (mkF m 157 #[.val (.int p0), .val (.int p1), .val (.int p2), .val (.int p3), .val (.int (0 : Int32)), .val (.int (1 : Int32)), .val (.int (0 : Int32)), .val (.ref b91), .val (.int (0 : Int32)), .val (.ref b94), .unset, .unset] [(.int (0 : Int32)), (.ref b91)])) _
            refine XS.iconst X107.here hx rfl (hb hby at_157) ?_
            show Steps p.tables e below (T107.setTop (mkF m 158 #[.val (.int p0), .val (.int p1), .val (.int p2), .val (.int p3), .val (.int (0 : Int32)), .val (.int (1 : Int32)), .val (.int (0 : Int32)), .val (.ref b91), .val (.int (0 : Int32)), .val (.ref b94), .unset, .unset] [(.int (1 : Int32)), (.int (0 : Int32)), (.ref b91)])) _
            refine XS.iadd X107.here hx rfl (hb hby at_158) rfl ?_
            show Steps p.tables e below (T107.setTop (mkF m 159 #[.val (.int p0), .val (.int p1), .val (.int p2), .val (.int p3), .val (.int (0 : Int32)), .val (.int (1 : Int32)), .val (.int (0 : Int32)), .val (.ref b91), .val (.int (0 : Int32)), .val (.ref b94), .unset, .unset] [(.int (1 : Int32)), (.ref b91)])) _
            refine XS.iloadN X107.here hx rfl (hb hby at_159) rfl ?_
            show Steps p.tables e below (T107.setTop (mkF m 160 #[.val (.int p0), .val (.int p1), .val (.int p2), .val (.int p3), .val (.int (0 : Int32)), .val (.int (1 : Int32)), .val (.int (0 : Int32)), .val (.ref b91), .val (.int (0 : Int32)), .val (.ref b94), .unset, .unset] [(.int p1), (.int (1 : Int32)), (.ref b91)])) _
            refine XS.bipush X107.here hx rfl (hb hby at_160) ?_
            show Steps p.tables e below (T107.setTop (mkF m 162 #[.val (.int p0), .val (.int p1), .val (.int p2), .val (.int p3), .val (.int (0 : Int32)), .val (.int (1 : Int32)), .val (.int (0 : Int32)), .val (.ref b91), .val (.int (0 : Int32)), .val (.ref b94), .unset, .unset] [(.int (8 : Int32)), (.int p1), (.int (1 : Int32)), (.ref b91)])) _
            refine XS.ishr X107.here hx rfl (hb hby at_162) rfl ?_
            show Steps p.tables e below (T107.setTop (mkF m 163 #[.val (.int p0), .val (.int p1), .val (.int p2), .val (.int p3), .val (.int (0 : Int32)), .val (.int (1 : Int32)), .val (.int (0 : Int32)), .val (.ref b91), .val (.int (0 : Int32)), .val (.ref b94), .unset, .unset] [(.int (p1 >>> ((8 : Int32) &&& 31))), (.int (1 : Int32)), (.ref b91)])) _
            refine XS.sipush X107.here hx rfl (hb hby at_163) ?_
            show Steps p.tables e below (T107.setTop (mkF m 166 #[.val (.int p0), .val (.int p1), .val (.int p2), .val (.int p3), .val (.int (0 : Int32)), .val (.int (1 : Int32)), .val (.int (0 : Int32)), .val (.ref b91), .val (.int (0 : Int32)), .val (.ref b94), .unset, .unset] [(.int (255 : Int32)), (.int (p1 >>> ((8 : Int32) &&& 31))), (.int (1 : Int32)), (.ref b91)])) _
            refine XS.iand X107.here hx rfl (hb hby at_166) rfl ?_
            show Steps p.tables e below (T107.setTop (mkF m 167 #[.val (.int p0), .val (.int p1), .val (.int p2), .val (.int p3), .val (.int (0 : Int32)), .val (.int (1 : Int32)), .val (.int (0 : Int32)), .val (.ref b91), .val (.int (0 : Int32)), .val (.ref b94), .unset, .unset] [(.int ((p1 >>> ((8 : Int32) &&& 31)) &&& (255 : Int32))), (.int (1 : Int32)), (.ref b91)])) _
            refine XS.i2b X107.here hx rfl (hb hby at_167) rfl ?_
            show Steps p.tables e below (T107.setTop (mkF m 168 #[.val (.int p0), .val (.int p1), .val (.int p2), .val (.int p3), .val (.int (0 : Int32)), .val (.int (1 : Int32)), .val (.int (0 : Int32)), .val (.ref b91), .val (.int (0 : Int32)), .val (.ref b94), .unset, .unset] [(.int (((p1 >>> ((8 : Int32) &&& 31)) &&& (255 : Int32)).toInt8.toInt32)), (.int (1 : Int32)), (.ref b91)])) _
            refine st111 _ ?_
            show Steps p.tables e below (T111.setTop (mkF m 169 #[.val (.int p0), .val (.int p1), .val (.int p2), .val (.int p3), .val (.int (0 : Int32)), .val (.int (1 : Int32)), .val (.int (0 : Int32)), .val (.ref b91), .val (.int (0 : Int32)), .val (.ref b94), .unset, .unset] [])) _
            refine XS.iinc X111.here hx rfl (hb hby at_169) rfl (l' := #[.val (.int p0), .val (.int p1), .val (.int p2), .val (.int p3), .val (.int (0 : Int32)), .val (.int (1 : Int32)), .val (.int (0 : Int32)), .val (.ref b91), .val (.int (2 : Int32)), .val (.ref b94), .unset, .unset]) rfl ?_
            show Steps p.tables e below (T111.setTop (mkF m 172 #[.val (.int p0), .val (.int p1), .val (.int p2), .val (.int p3), .val (.int (0 : Int32)), .val (.int (1 : Int32)), .val (.int (0 : Int32)), .val (.ref b91), .val (.int (2 : Int32)), .val (.ref b94), .unset, .unset] [])) _
            refine XS.iload X111.here hx rfl (hb hby at_172) rfl ?_
            exact kt)
        have c116 := ((G102_1.other W107 (Or.inl (Ne.symm ne_b91_b94))).other W111 (Or.inl (Ne.symm ne_b91_b94)))
        have c117 := ((G102_2.other W107 (Or.inl (Ne.symm ne_b91_b94))).other W111 (Or.inl (Ne.symm ne_b91_b94)))
        have c118 := ((G102_0.other W107 (Ne.symm ne_b91_r_o0_bytes_97)).other W111 (Ne.symm ne_b91_r_o0_bytes_97))
        obtain ⟨cq115, kq115, q115a, q115b, q115c⟩ := isOf hZ e111 ((((E_b94.keep K97q).keep K102q).wr W107).wr W111)
        obtain ⟨_, _, ⟨T115, L115, k115, n115⟩, -, X115, ⟨Lc115, hQ115, l115, y115, z115⟩, st115⟩ := X111.virtualBack hx (y := (⟨"com/example/corvid/corvid/ByteWriter", "toByteArray", "()[B"⟩ : MethodName)) (z := (⟨"com/example/corvid/corvid/ByteWriter", "toByteArray", "()[B"⟩ : MethodName)) hown (mvT hZ (hw _ (List.mem_of_getElem? (i := 29) rfl))) (mvT hZ (hw _ (List.mem_of_getElem? (i := 30) rfl))) (notFace_of_selects (args := #[]) (mvT hZ (hw _ (List.mem_of_getElem? (i := 32) rfl)))) (mvT hZ (hw _ (List.mem_of_getElem? (i := 32) rfl))) (mvT hZ (hw _ (List.mem_of_getElem? (i := 31) rfl))) (by decide) (backOf (W := 0) (rm6 l Z a0 hw [] b94 ((0 : Int32) + (2 : Int32)) r_o0_bytes_97 (f11_r1_a (p1.toInt16.toInt32) (0 : Int32) (fun _ => 0)) h111 n0 Z113 c116 c117 c118 (by decide)) hZ (hw _ (List.mem_of_getElem? (i := 33) rfl)) (hw _ (List.mem_of_getElem? (i := 3) rfl)) (by decide) (by decide)) q115a q115c (g := (mkF m 204 #[.val (.int p0), .val (.int p1), .val (.int p2), .val (.int p3), .val (.int (0 : Int32)), .val (.int (1 : Int32)), .val (.int (0 : Int32)), .val (.ref b91), .val (.int (2 : Int32)), .val (.ref b94), .unset, .unset] [(.ref b94)])) rfl (by rw [hml]; rfl) (Steps.refl _) (argsL := []) (rest := []) (lenOf pd_0_1 rfl) rfl (by show 2 * 0 + _ ≤ _; exact Nat.le_of_eq rfl) (hb hby at_204) (fun _ _ => ⟨rfl, e111, (by decide : 3 + 1 ≤ _), (by decide : 74 + 16 ≤ _)⟩)
        dsimp only [Pt.U, Pt.locs, Pt.cells, Pt.slots] at X115 l115 y115 z115 st115 hQ115
        subst l115 y115 z115
        obtain ⟨b_115, rfl, N115q, K115q, g_b_115, szq_b_115, G115_0⟩ := hQ115
        have N115 := Fr.app N111 N115q
        have ne_b91_b_115 : b91 ≠ b_115 := Nat.ne_of_lt (Nat.lt_of_lt_of_le V111.lt szq_b_115)
        have ne_b94_b_115 : b94 ≠ b_115 := Nat.ne_of_lt (Nat.lt_of_lt_of_le ((((E_b94.keep K97q).keep K102q).wr W107).wr W111).lt szq_b_115)
        have ne_r_o0_bytes_97_b_115 : r_o0_bytes_97 ≠ b_115 := Nat.ne_of_lt (Nat.lt_of_lt_of_le c118.lt szq_b_115)
        have sz_b_115 : h0.size ≤ b_115 := Nat.le_trans K112.1 szq_b_115
        have K119 : Keep h0 T115.heap [] := K112.trans K115q all0
        have Z120 : n0 ≤ T115.heap.size := Nat.le_trans Z0 K119.1
        obtain ⟨LS115, X115, N115⟩ : ∃ L, Stand p l e room_1 s m #[(.int p0), (.int p1), (.int p2), (.int p3)] below meth c T115 L 4 90 ∧ Fr n0 L := ⟨_, X115, N115⟩
        obtain ⟨cl121, Ar121, Sz121, Nn121, -⟩ := id G115_0
        have pre122 : ∀ t, Steps p.tables e below (T115.setTop (mkF m 214 #[.val (.int p0), .val (.int p1), .val (.int p2), .val (.int p3), .val (.int (0 : Int32)), .val (.int (1 : Int32)), .val (.int (0 : Int32)), .val (.ref b91), .val (.int (2 : Int32)), .val (.ref b94), .val (.ref b_115), .unset] [(.int (2 : Int32)), (.int ((0 : Int32) + (2 : Int32)))])) t → Steps p.tables e below (s₁.setTop (entryFrame m #[(.int p0), (.int p1), (.int p2), (.int p3)] maxLocals)) t := fun t kt => pre114 t (by
            show Steps p.tables e below (T111.setTop (mkF m 174 #[.val (.int p0), .val (.int p1), .val (.int p2), .val (.int p3), .val (.int (0 : Int32)), .val (.int (1 : Int32)), .val (.int (0 : Int32)), .val (.ref b91), .val (.int (2 : Int32)), .val (.ref b94), .unset, .unset] [(.int (0 : Int32))])) _
            refine XS.ifYes X111.here hx rfl (pc0 := 174) (pc' := 202) rfl (hb hby at_174) rfl ((if0 _ _).trans (teq (by decide : ((0 : Int32) = (0 : Int32)))).1) (by decide) (by decide) ?_
            show Steps p.tables e below (T111.setTop (mkF m 202 #[.val (.int p0), .val (.int p1), .val (.int p2), .val (.int p3), .val (.int (0 : Int32)), .val (.int (1 : Int32)), .val (.int (0 : Int32)), .val (.ref b91), .val (.int (2 : Int32)), .val (.ref b94), .unset, .unset] [])) _
            refine XS.aload X111.here hx rfl (hb hby at_202) rfl rfl ?_
            show Steps p.tables e below (T111.setTop (mkF m 204 #[.val (.int p0), .val (.int p1), .val (.int p2), .val (.int p3), .val (.int (0 : Int32)), .val (.int (1 : Int32)), .val (.int (0 : Int32)), .val (.ref b91), .val (.int (2 : Int32)), .val (.ref b94), .unset, .unset] [(.ref b94)])) _
            refine st115.trans ?_
            show Steps p.tables e below (T115.setTop (mkF m 207 #[.val (.int p0), .val (.int p1), .val (.int p2), .val (.int p3), .val (.int (0 : Int32)), .val (.int (1 : Int32)), .val (.int (0 : Int32)), .val (.ref b91), .val (.int (2 : Int32)), .val (.ref b94), .unset, .unset] [(.ref b_115)])) _
            refine XS.astore X115.here hx rfl (hb hby at_207) rfl rfl (l' := #[.val (.int p0), .val (.int p1), .val (.int p2), .val (.int p3), .val (.int (0 : Int32)), .val (.int (1 : Int32)), .val (.int (0 : Int32)), .val (.ref b91), .val (.int (2 : Int32)), .val (.ref b94), .val (.ref b_115), .unset]) rfl ?_
            show Steps p.tables e below (T115.setTop (mkF m 209 #[.val (.int p0), .val (.int p1), .val (.int p2), .val (.int p3), .val (.int (0 : Int32)), .val (.int (1 : Int32)), .val (.int (0 : Int32)), .val (.ref b91), .val (.int (2 : Int32)), .val (.ref b94), .val (.ref b_115), .unset] [])) _
            refine XS.aload X115.here hx rfl (hb hby at_209) rfl rfl ?_
            show Steps p.tables e below (T115.setTop (mkF m 211 #[.val (.int p0), .val (.int p1), .val (.int p2), .val (.int p3), .val (.int (0 : Int32)), .val (.int (1 : Int32)), .val (.int (0 : Int32)), .val (.ref b91), .val (.int (2 : Int32)), .val (.ref b94), .val (.ref b_115), .unset] [(.ref b_115)])) _
            refine X115.arraylength hx Ar121.1 (State.isArrayOf_alike hZ.alike Ar121.2.1) (g := (mkF m 211 #[.val (.int p0), .val (.int p1), .val (.int p2), .val (.int p3), .val (.int (0 : Int32)), .val (.int (1 : Int32)), .val (.int (0 : Int32)), .val (.ref b91), .val (.int (2 : Int32)), .val (.ref b94), .val (.ref b_115), .unset] [(.ref b_115)])) rfl rfl (hb hby at_211) _ ?_
            rw [len_of Sz121 Nn121]
            show Steps p.tables e below (T115.setTop (mkF m 212 #[.val (.int p0), .val (.int p1), .val (.int p2), .val (.int p3), .val (.int (0 : Int32)), .val (.int (1 : Int32)), .val (.int (0 : Int32)), .val (.ref b91), .val (.int (2 : Int32)), .val (.ref b94), .val (.ref b_115), .unset] [(.int ((0 : Int32) + (2 : Int32)))])) _
            refine XS.iload X115.here hx rfl (hb hby at_212) rfl ?_
            exact kt)
        have hd214_123 : ((0 : Int32) + (2 : Int32)) = (2 : Int32) := by decide
        obtain ⟨_, _, ⟨T124, L124, k124, n124⟩, -, X124, ⟨Lc124, hQ124, l124, y124, z124⟩, st124⟩ := Jvm.LawKit.callS X115 hx (y := (⟨"com/example/corvid/corvid/ByteWriterToByteArrayPinLaw", "same", "([B[BI)Z"⟩ : MethodName)) hown (mvT hZ (hw _ (List.mem_of_getElem? (i := 45) rfl))) (mvT hZ (hw _ (List.mem_of_getElem? (i := 46) rfl))) (mvT hZ (hw _ (List.mem_of_getElem? (i := 47) rfl))) (mvT hZ (hw _ (List.mem_of_getElem? (i := 48) rfl))) (by decide) (backOf (W := 0) (rm9 l Z a0 hw [] b_115 b91 (2 : Int32) ((0 : Int32) + (2 : Int32)) (f11_r1_a (p1.toInt16.toInt32) (0 : Int32) (fun _ => 0)) (7 : Int32) (own_upd (own_upd (fun _ => 0) 0 (nar .byte ((p1 &&& (255 : Int32)).toInt8.toInt32))) 1 (nar .byte (((p1 >>> ((8 : Int32) &&& 31)) &&& (255 : Int32)).toInt8.toInt32))) T115.heap n0 Z120 G115_0 (V111.keep K115q nin0) (by decide)) hZ (hw _ (List.mem_of_getElem? (i := 48) rfl)) (hw _ (List.mem_of_getElem? (i := 47) rfl)) (by decide) (by decide)) (g := (mkF m 225 #[.val (.int p0), .val (.int p1), .val (.int p2), .val (.int p3), .val (.int (0 : Int32)), .val (.int (1 : Int32)), .val (.int (0 : Int32)), .val (.ref b91), .val (.int (2 : Int32)), .val (.ref b94), .val (.ref b_115), .unset] [(.int (2 : Int32)), (.ref b91), (.ref b_115)])) rfl (by rw [hml]; rfl) (argsL := [(.ref b_115), (.ref b91), (.int (2 : Int32))]) (rest := []) (lenOf pd_0_2 rfl) rfl (by show 2 * 0 + _ ≤ _; exact Nat.le_of_eq rfl) (hb hby at_225) (fun _ _ => ⟨rfl, rfl, (by decide : 4 + 0 ≤ _), (by decide : 90 + 0 ≤ _)⟩)
        dsimp only [Pt.U, Pt.locs, Pt.cells, Pt.slots] at X124 l124 y124 z124 st124 hQ124
        subst l124 y124 z124
        obtain ⟨rfl, N124q, e124q⟩ := hQ124
        have N124 := Fr.app N115 N124q
        have pre125 : ∀ t, Steps p.tables e below (T124.setTop (mkF m 228 #[.val (.int p0), .val (.int p1), .val (.int p2), .val (.int p3), .val (.int (0 : Int32)), .val (.int (1 : Int32)), .val (.int (0 : Int32)), .val (.ref b91), .val (.int (2 : Int32)), .val (.ref b94), .val (.ref b_115), .unset] [(.int (f9 (2 : Int32) (f11_r1_a (p1.toInt16.toInt32) (0 : Int32) (fun _ => 0)) (own_upd (own_upd (fun _ => 0) 0 (nar .byte ((p1 &&& (255 : Int32)).toInt8.toInt32))) 1 (nar .byte (((p1 >>> ((8 : Int32) &&& 31)) &&& (255 : Int32)).toInt8.toInt32)))))])) t → Steps p.tables e below (s₁.setTop (entryFrame m #[(.int p0), (.int p1), (.int p2), (.int p3)] maxLocals)) t := fun t kt => pre122 t (by
            show Steps p.tables e below (T115.setTop (mkF m 214 #[.val (.int p0), .val (.int p1), .val (.int p2), .val (.int p3), .val (.int (0 : Int32)), .val (.int (1 : Int32)), .val (.int (0 : Int32)), .val (.ref b91), .val (.int (2 : Int32)), .val (.ref b94), .val (.ref b_115), .unset] [(.int (2 : Int32)), (.int ((0 : Int32) + (2 : Int32)))])) _
            refine XS.icmpYes X115.here hx rfl (pc0 := 214) (pc' := 219) rfl (hb hby at_214) rfl (teq hd214_123).1 (by decide) (by decide) ?_
            show Steps p.tables e below (T115.setTop (mkF m 219 #[.val (.int p0), .val (.int p1), .val (.int p2), .val (.int p3), .val (.int (0 : Int32)), .val (.int (1 : Int32)), .val (.int (0 : Int32)), .val (.ref b91), .val (.int (2 : Int32)), .val (.ref b94), .val (.ref b_115), .unset] [])) _
            refine XS.aload X115.here hx rfl (hb hby at_219) rfl rfl ?_
            show Steps p.tables e below (T115.setTop (mkF m 221 #[.val (.int p0), .val (.int p1), .val (.int p2), .val (.int p3), .val (.int (0 : Int32)), .val (.int (1 : Int32)), .val (.int (0 : Int32)), .val (.ref b91), .val (.int (2 : Int32)), .val (.ref b94), .val (.ref b_115), .unset] [(.ref b_115)])) _
            refine XS.aload X115.here hx rfl (hb hby at_221) rfl rfl ?_
            show Steps p.tables e below (T115.setTop (mkF m 223 #[.val (.int p0), .val (.int p1), .val (.int p2), .val (.int p3), .val (.int (0 : Int32)), .val (.int (1 : Int32)), .val (.int (0 : Int32)), .val (.ref b91), .val (.int (2 : Int32)), .val (.ref b94), .val (.ref b_115), .unset] [(.ref b91), (.ref b_115)])) _
            refine XS.iload X115.here hx rfl (hb hby at_223) rfl ?_
            show Steps p.tables e below (T115.setTop (mkF m 225 #[.val (.int p0), .val (.int p1), .val (.int p2), .val (.int p3), .val (.int (0 : Int32)), .val (.int (1 : Int32)), .val (.int (0 : Int32)), .val (.ref b91), .val (.int (2 : Int32)), .val (.ref b94), .val (.ref b_115), .unset] [(.int (2 : Int32)), (.ref b91), (.ref b_115)])) _
            refine st124 _ ?_
            exact kt)
        have hd228_126 : ¬ ((f9 (2 : Int32) (f11_r1_a (p1.toInt16.toInt32) (0 : Int32) (fun _ => 0)) (own_upd (own_upd (fun _ => 0) 0 (nar .byte ((p1 &&& (255 : Int32)).toInt8.toInt32))) 1 (nar .byte (((p1 >>> ((8 : Int32) &&& 31)) &&& (255 : Int32)).toInt8.toInt32)))) = (0 : Int32)) := own_sm _ _ _ (own_pf010 p0 p1 p2)
        have pre127 : ∀ t, Steps p.tables e below (T124.setTop (mkF m 235 #[.val (.int p0), .val (.int p1), .val (.int p2), .val (.int p3), .val (.int (0 : Int32)), .val (.int (1 : Int32)), .val (.int (0 : Int32)), .val (.ref b91), .val (.int (2 : Int32)), .val (.ref b94), .val (.ref b_115), .unset] [(.int (2 : Int32))])) t → Steps p.tables e below (s₁.setTop (entryFrame m #[(.int p0), (.int p1), (.int p2), (.int p3)] maxLocals)) t := fun t kt => pre125 t (by
            show Steps p.tables e below (T124.setTop (mkF m 228 #[.val (.int p0), .val (.int p1), .val (.int p2), .val (.int p3), .val (.int (0 : Int32)), .val (.int (1 : Int32)), .val (.int (0 : Int32)), .val (.ref b91), .val (.int (2 : Int32)), .val (.ref b94), .val (.ref b_115), .unset] [(.int (f9 (2 : Int32) (f11_r1_a (p1.toInt16.toInt32) (0 : Int32) (fun _ => 0)) (own_upd (own_upd (fun _ => 0) 0 (nar .byte ((p1 &&& (255 : Int32)).toInt8.toInt32))) 1 (nar .byte (((p1 >>> ((8 : Int32) &&& 31)) &&& (255 : Int32)).toInt8.toInt32)))))])) _
            refine XS.ifYes X124.here hx rfl (pc0 := 228) (pc' := 233) rfl (hb hby at_228) rfl ((if0 _ _).trans (feq hd228_126).2) (by decide) (by decide) ?_
            show Steps p.tables e below (T124.setTop (mkF m 233 #[.val (.int p0), .val (.int p1), .val (.int p2), .val (.int p3), .val (.int (0 : Int32)), .val (.int (1 : Int32)), .val (.int (0 : Int32)), .val (.ref b91), .val (.int (2 : Int32)), .val (.ref b94), .val (.ref b_115), .unset] [])) _
            refine XS.iload X124.here hx rfl (hb hby at_233) rfl ?_
            exact kt)
        obtain ⟨cl128, Ar128, Sz128, Nn128, Hs128⟩ := id G115_0
        have hin128 : ¬ ((0 : Int32) < 0 ∨ cl128.slots.size ≤ ((0 : Int32)).toNatClampNeg) := inb_of Sz128 ⟨by decide, by decide⟩
        have hat128 : cl128.slots[((0 : Int32)).toNatClampNeg]? = some (.int ((f11_r1_a (p1.toInt16.toInt32) (0 : Int32) (fun _ => 0)) 0)) := (Hs128 _ (own_lt hin128)).1
        obtain ⟨cl129, Ar129, Sz129, Nn129, Hs129⟩ := id G115_0
        have hin129 : ¬ ((0 : Int32) < 0 ∨ cl129.slots.size ≤ ((0 : Int32)).toNatClampNeg) := inb_of Sz129 ⟨by decide, by decide⟩
        obtain ⟨T130, h130, X130, e130, W130, st130⟩ := stB X124 hx hZ e124q Ar129 (j := (0 : Int32)) hin129 (g := (mkF m 249 #[.val (.int p0), .val (.int p1), .val (.int p2), .val (.int p3), .val (.int (0 : Int32)), .val (.int (1 : Int32)), .val (.int (0 : Int32)), .val (.ref b91), .val (.int (2 : Int32)), .val (.ref b94), .val (.ref b_115), .unset] [(.int ((((f11_r1_a (p1.toInt16.toInt32) (0 : Int32) (fun _ => 0)) 0) ^^^ (90 : Int32)).toInt8.toInt32)), (.int (0 : Int32)), (.ref b_115)])) rfl rfl (hb hby at_249)
        have V130 : own_AI Z h130 b_115 .byte ((0 : Int32) + (2 : Int32)) (own_upd (f11_r1_a (p1.toInt16.toInt32) (0 : Int32) (fun _ => 0)) 0 (nar .byte ((((f11_r1_a (p1.toInt16.toInt32) (0 : Int32) (fun _ => 0)) 0) ^^^ (90 : Int32)).toInt8.toInt32))) := own_AI.set G115_0 (fits_nar_byte ((((f11_r1_a (p1.toInt16.toInt32) (0 : Int32) (fun _ => 0)) 0) ^^^ (90 : Int32)).toInt8.toInt32)) W130
        have K131 : Keep h0 h130 [] := K119.wr W130 (Or.inr sz_b_115)
        have Z132 : n0 ≤ h130.size := Nat.le_trans Z0 K131.1
        have N130 := Fr.snoc X130 N124 g_b_115
        obtain ⟨LS130, X130, N130⟩ : ∃ L, Stand p l e room_1 s m #[(.int p0), (.int p1), (.int p2), (.int p3)] below meth c T130 L 4 90 ∧ Fr n0 L := ⟨_, X130, N130⟩
        have c134 := ((((((E_b94.keep K97q).keep K102q).wr W107).wr W111).keep K115q).wr W130)
        obtain ⟨cq133, kq133, q133a, q133b, q133c⟩ := isOf hZ e130 c134
        obtain ⟨_, _, ⟨T133, L133, k133, n133⟩, -, X133, ⟨Lc133, hQ133, l133, y133, z133⟩, st133⟩ := X130.virtualBack hx (y := (⟨"com/example/corvid/corvid/ByteWriter", "toByteArray", "()[B"⟩ : MethodName)) (z := (⟨"com/example/corvid/corvid/ByteWriter", "toByteArray", "()[B"⟩ : MethodName)) hown (mvT hZ (hw _ (List.mem_of_getElem? (i := 29) rfl))) (mvT hZ (hw _ (List.mem_of_getElem? (i := 30) rfl))) (notFace_of_selects (args := #[]) (mvT hZ (hw _ (List.mem_of_getElem? (i := 32) rfl)))) (mvT hZ (hw _ (List.mem_of_getElem? (i := 32) rfl))) (mvT hZ (hw _ (List.mem_of_getElem? (i := 31) rfl))) (by decide) (backOf (W := 0) (rm6 l Z a0 hw [] b94 ((0 : Int32) + (2 : Int32)) r_o0_bytes_97 (f11_r1_a (p1.toInt16.toInt32) (0 : Int32) (fun _ => 0)) h130 n0 Z132 ((c116.keep K115q nin0).other W130 (Or.inl ne_b94_b_115)) ((c117.keep K115q nin0).other W130 (Or.inl ne_b94_b_115)) ((c118.keep K115q nin0).other W130 ne_r_o0_bytes_97_b_115) (by decide)) hZ (hw _ (List.mem_of_getElem? (i := 33) rfl)) (hw _ (List.mem_of_getElem? (i := 3) rfl)) (by decide) (by decide)) q133a q133c (g := (mkF m 252 #[.val (.int p0), .val (.int p1), .val (.int p2), .val (.int p3), .val (.int (0 : Int32)), .val (.int (1 : Int32)), .val (.int (0 : Int32)), .val (.ref b91), .val (.int (2 : Int32)), .val (.ref b94), .val (.ref b_115), .unset] [(.ref b94)])) rfl (by rw [hml]; rfl) (Steps.refl _) (argsL := []) (rest := []) (lenOf pd_0_1 rfl) rfl (by show 2 * 0 + _ ≤ _; exact Nat.le_of_eq rfl) (hb hby at_252) (fun _ _ => ⟨rfl, e130, (by decide : 4 + 1 ≤ _), (by decide : 90 + 16 ≤ _)⟩)
        dsimp only [Pt.U, Pt.locs, Pt.cells, Pt.slots] at X133 l133 y133 z133 st133 hQ133
        subst l133 y133 z133
        obtain ⟨b_133, rfl, N133q, K133q, g_b_133, szq_b_133, G133_0⟩ := hQ133
        have N133 := Fr.app N130 N133q
        have ne_b91_b_133 : b91 ≠ b_133 := Nat.ne_of_lt (Nat.lt_of_lt_of_le ((V111.keep K115q nin0).other W130 ne_b91_b_115).lt szq_b_133)
        have ne_b94_b_133 : b94 ≠ b_133 := Nat.ne_of_lt (Nat.lt_of_lt_of_le c134.lt szq_b_133)
        have ne_r_o0_bytes_97_b_133 : r_o0_bytes_97 ≠ b_133 := Nat.ne_of_lt (Nat.lt_of_lt_of_le ((c118.keep K115q nin0).other W130 ne_r_o0_bytes_97_b_115).lt szq_b_133)
        have ne_b_115_b_133 : b_115 ≠ b_133 := Nat.ne_of_lt (Nat.lt_of_lt_of_le V130.lt szq_b_133)
        have sz_b_133 : h0.size ≤ b_133 := Nat.le_trans K131.1 szq_b_133
        have K135 : Keep h0 T133.heap [] := K131.trans K133q all0
        have Z136 : n0 ≤ T133.heap.size := Nat.le_trans Z0 K135.1
        obtain ⟨LS133, X133, N133⟩ : ∃ L, Stand p l e room_1 s m #[(.int p0), (.int p1), (.int p2), (.int p3)] below meth c T133 L 5 106 ∧ Fr n0 L := ⟨_, X133, N133⟩
        have pre137 : ∀ t, Steps p.tables e below (T133.setTop (mkF m 261 #[.val (.int p0), .val (.int p1), .val (.int p2), .val (.int p3), .val (.int (0 : Int32)), .val (.int (1 : Int32)), .val (.int (0 : Int32)), .val (.ref b91), .val (.int (2 : Int32)), .val (.ref b94), .val (.ref b_115), .val (.ref b_133)] [(.ref b_115), (.ref b_133)])) t → Steps p.tables e below (s₁.setTop (entryFrame m #[(.int p0), (.int p1), (.int p2), (.int p3)] maxLocals)) t := fun t kt => pre127 t (by
            show Steps p.tables e below (T124.setTop (mkF m 235 #[.val (.int p0), .val (.int p1), .val (.int p2), .val (.int p3), .val (.int (0 : Int32)), .val (.int (1 : Int32)), .val (.int (0 : Int32)), .val (.ref b91), .val (.int (2 : Int32)), .val (.ref b94), .val (.ref b_115), .unset] [(.int (2 : Int32))])) _
            refine XS.ifNo X124.here hx rfl (hb hby at_235) rfl ((if0 _ _).trans (tlt (by decide : ((0 : Int32) < (2 : Int32)))).2.2.2) ?_
            show Steps p.tables e below (T124.setTop (mkF m 238 #[.val (.int p0), .val (.int p1), .val (.int p2), .val (.int p3), .val (.int (0 : Int32)), .val (.int (1 : Int32)), .val (.int (0 : Int32)), .val (.ref b91), .val (.int (2 : Int32)), .val (.ref b94), .val (.ref b_115), .unset] [])) _
            refine XS.aload X124.here hx rfl (hb hby at_238) rfl rfl ?_
            show Steps p.tables e below (T124.setTop (mkF m 240 #[.val (.int p0), .val (.int p1), .val (.int p2), .val (.int p3), .val (.int (0 : Int32)), .val (.int (1 : Int32)), .val (.int (0 : Int32)), .val (.ref b91), .val (.int (2 : Int32)), .val (.ref b94), .val (.ref b_115), .unset] [(.ref b_115)])) _
            refine XS.iconst X124.here hx rfl (hb hby at_240) ?_
            show Steps p.tables e below (T124.setTop (mkF m 241 #[.val (.int p0), .val (.int p1), .val (.int p2), .val (.int p3), .val (.int (0 : Int32)), .val (.int (1 : Int32)), .val (.int (0 : Int32)), .val (.ref b91), .val (.int (2 : Int32)), .val (.ref b94), .val (.ref b_115), .unset] [(.int (0 : Int32)), (.ref b_115)])) _
            refine XS.aload X124.here hx rfl (hb hby at_241) rfl rfl ?_
            show Steps p.tables e below (T124.setTop (mkF m 243 #[.val (.int p0), .val (.int p1), .val (.int p2), .val (.int p3), .val (.int (0 : Int32)), .val (.int (1 : Int32)), .val (.int (0 : Int32)), .val (.ref b91), .val (.int (2 : Int32)), .val (.ref b94), .val (.ref b_115), .unset] [(.ref b_115), (.int (0 : Int32)), (.ref b_115)])) _
            refine XS.iconst X124.here hx rfl (hb hby at_243) ?_
            show Steps p.tables e below (T124.setTop (mkF m 244 #[.val (.int p0), .val (.int p1), .val (.int p2), .val (.int p3), .val (.int (0 : Int32)), .val (.int (1 : Int32)), .val (.int (0 : Int32)), .val (.ref b91), .val (.int (2 : Int32)), .val (.ref b94), .val (.ref b_115), .unset] [(.int (0 : Int32)), (.ref b_115), (.int (0 : Int32)), (.ref b_115)])) _
            refine X124.baloadBytes hx (j := (0 : Int32)) (v := (.int ((f11_r1_a (p1.toInt16.toInt32) (0 : Int32) (fun _ => 0)) 0))) (by rw [e124q]; exact Ar128.1) (State.isArrayOf_alike hZ.alike Ar128.2.1) Ar128.2.2 hin128 hat128 (g := (mkF m 244 #[.val (.int p0), .val (.int p1), .val (.int p2), .val (.int p3), .val (.int (0 : Int32)), .val (.int (1 : Int32)), .val (.int (0 : Int32)), .val (.ref b91), .val (.int (2 : Int32)), .val (.ref b94), .val (.ref b_115), .unset] [(.int (0 : Int32)), (.ref b_115), (.int (0 : Int32)), (.ref b_115)])) rfl rfl (hb hby at_244) _ ?_
            show Steps p.tables e below (T124.setTop (mkF m 245 #[.val (.int p0), .val (.int p1), .val (.int p2), .val (.int p3), .val (.int (0 : Int32)), .val (.int (1 : Int32)), .val (.int (0 : Int32)), .val (.ref b91), .val (.int (2 : Int32)), .val (.ref b94), .val (.ref b_115), .unset] [(.int ((f11_r1_a (p1.toInt16.toInt32) (0 : Int32) (fun _ => 0)) 0)), (.int (0 : Int32)), (.ref b_115)])) _
            refine XS.bipush X124.here hx rfl (hb hby at_245) ?_
            show Steps p.tables e below (T124.setTop (mkF m 247 #[.val (.int p0), .val (.int p1), .val (.int p2), .val (.int p3), .val (.int (0 : Int32)), .val (.int (1 : Int32)), .val (.int (0 : Int32)), .val (.ref b91), .val (.int (2 : Int32)), .val (.ref b94), .val (.ref b_115), .unset] [(.int (90 : Int32)), (.int ((f11_r1_a (p1.toInt16.toInt32) (0 : Int32) (fun _ => 0)) 0)), (.int (0 : Int32)), (.ref b_115)])) _
            refine XS.ixor X124.here hx rfl (hb hby at_247) rfl ?_
            show Steps p.tables e below (T124.setTop (mkF m 248 #[.val (.int p0), .val (.int p1), .val (.int p2), .val (.int p3), .val (.int (0 : Int32)), .val (.int (1 : Int32)), .val (.int (0 : Int32)), .val (.ref b91), .val (.int (2 : Int32)), .val (.ref b94), .val (.ref b_115), .unset] [(.int (((f11_r1_a (p1.toInt16.toInt32) (0 : Int32) (fun _ => 0)) 0) ^^^ (90 : Int32))), (.int (0 : Int32)), (.ref b_115)])) _
            refine XS.i2b X124.here hx rfl (hb hby at_248) rfl ?_
            show Steps p.tables e below (T124.setTop (mkF m 249 #[.val (.int p0), .val (.int p1), .val (.int p2), .val (.int p3), .val (.int (0 : Int32)), .val (.int (1 : Int32)), .val (.int (0 : Int32)), .val (.ref b91), .val (.int (2 : Int32)), .val (.ref b94), .val (.ref b_115), .unset] [(.int ((((f11_r1_a (p1.toInt16.toInt32) (0 : Int32) (fun _ => 0)) 0) ^^^ (90 : Int32)).toInt8.toInt32)), (.int (0 : Int32)), (.ref b_115)])) _
            refine st130 _ ?_
            show Steps p.tables e below (T130.setTop (mkF m 250 #[.val (.int p0), .val (.int p1), .val (.int p2), .val (.int p3), .val (.int (0 : Int32)), .val (.int (1 : Int32)), .val (.int (0 : Int32)), .val (.ref b91), .val (.int (2 : Int32)), .val (.ref b94), .val (.ref b_115), .unset] [])) _
            refine XS.aload X130.here hx rfl (hb hby at_250) rfl rfl ?_
            show Steps p.tables e below (T130.setTop (mkF m 252 #[.val (.int p0), .val (.int p1), .val (.int p2), .val (.int p3), .val (.int (0 : Int32)), .val (.int (1 : Int32)), .val (.int (0 : Int32)), .val (.ref b91), .val (.int (2 : Int32)), .val (.ref b94), .val (.ref b_115), .unset] [(.ref b94)])) _
            refine st133.trans ?_
            show Steps p.tables e below (T133.setTop (mkF m 255 #[.val (.int p0), .val (.int p1), .val (.int p2), .val (.int p3), .val (.int (0 : Int32)), .val (.int (1 : Int32)), .val (.int (0 : Int32)), .val (.ref b91), .val (.int (2 : Int32)), .val (.ref b94), .val (.ref b_115), .unset] [(.ref b_133)])) _
            refine XS.astore X133.here hx rfl (hb hby at_255) rfl rfl (l' := #[.val (.int p0), .val (.int p1), .val (.int p2), .val (.int p3), .val (.int (0 : Int32)), .val (.int (1 : Int32)), .val (.int (0 : Int32)), .val (.ref b91), .val (.int (2 : Int32)), .val (.ref b94), .val (.ref b_115), .val (.ref b_133)]) rfl ?_
            show Steps p.tables e below (T133.setTop (mkF m 257 #[.val (.int p0), .val (.int p1), .val (.int p2), .val (.int p3), .val (.int (0 : Int32)), .val (.int (1 : Int32)), .val (.int (0 : Int32)), .val (.ref b91), .val (.int (2 : Int32)), .val (.ref b94), .val (.ref b_115), .val (.ref b_133)] [])) _
            refine XS.aload X133.here hx rfl (hb hby at_257) rfl rfl ?_
            show Steps p.tables e below (T133.setTop (mkF m 259 #[.val (.int p0), .val (.int p1), .val (.int p2), .val (.int p3), .val (.int (0 : Int32)), .val (.int (1 : Int32)), .val (.int (0 : Int32)), .val (.ref b91), .val (.int (2 : Int32)), .val (.ref b94), .val (.ref b_115), .val (.ref b_133)] [(.ref b_133)])) _
            refine XS.aload X133.here hx rfl (hb hby at_259) rfl rfl ?_
            exact kt)
        obtain ⟨cl138, Ar138, Sz138, Nn138, -⟩ := id G133_0
        have pre139 : ∀ t, Steps p.tables e below (T133.setTop (mkF m 269 #[.val (.int p0), .val (.int p1), .val (.int p2), .val (.int p3), .val (.int (0 : Int32)), .val (.int (1 : Int32)), .val (.int (0 : Int32)), .val (.ref b91), .val (.int (2 : Int32)), .val (.ref b94), .val (.ref b_115), .val (.ref b_133)] [(.int (2 : Int32)), (.int ((0 : Int32) + (2 : Int32)))])) t → Steps p.tables e below (s₁.setTop (entryFrame m #[(.int p0), (.int p1), (.int p2), (.int p3)] maxLocals)) t := fun t kt => pre137 t (by
            show Steps p.tables e below (T133.setTop (mkF m 261 #[.val (.int p0), .val (.int p1), .val (.int p2), .val (.int p3), .val (.int (0 : Int32)), .val (.int (1 : Int32)), .val (.int (0 : Int32)), .val (.ref b91), .val (.int (2 : Int32)), .val (.ref b94), .val (.ref b_115), .val (.ref b_133)] [(.ref b_115), (.ref b_133)])) _
            refine Jvm.RoadKit.acmp (g := (mkF m 261 #[.val (.int p0), .val (.int p1), .val (.int p2), .val (.int p3), .val (.int (0 : Int32)), .val (.int (1 : Int32)), .val (.int (0 : Int32)), .val (.ref b91), .val (.int (2 : Int32)), .val (.ref b94), .val (.ref b_115), .val (.ref b_133)] [(.ref b_115), (.ref b_133)])) X133 hx rfl rfl rfl (pc0 := 261) (pc' := 264) (same := false) rfl (hb hby at_261) rfl (decide_eq_false fun q => (Ne.symm ne_b_115_b_133) (Value.ref.inj q)) (by decide) (by decide) ?_
            show Steps p.tables e below (T133.setTop (mkF m 264 #[.val (.int p0), .val (.int p1), .val (.int p2), .val (.int p3), .val (.int (0 : Int32)), .val (.int (1 : Int32)), .val (.int (0 : Int32)), .val (.ref b91), .val (.int (2 : Int32)), .val (.ref b94), .val (.ref b_115), .val (.ref b_133)] [])) _
            refine XS.aload X133.here hx rfl (hb hby at_264) rfl rfl ?_
            show Steps p.tables e below (T133.setTop (mkF m 266 #[.val (.int p0), .val (.int p1), .val (.int p2), .val (.int p3), .val (.int (0 : Int32)), .val (.int (1 : Int32)), .val (.int (0 : Int32)), .val (.ref b91), .val (.int (2 : Int32)), .val (.ref b94), .val (.ref b_115), .val (.ref b_133)] [(.ref b_133)])) _
            refine X133.arraylength hx Ar138.1 (State.isArrayOf_alike hZ.alike Ar138.2.1) (g := (mkF m 266 #[.val (.int p0), .val (.int p1), .val (.int p2), .val (.int p3), .val (.int (0 : Int32)), .val (.int (1 : Int32)), .val (.int (0 : Int32)), .val (.ref b91), .val (.int (2 : Int32)), .val (.ref b94), .val (.ref b_115), .val (.ref b_133)] [(.ref b_133)])) rfl rfl (hb hby at_266) _ ?_
            rw [len_of Sz138 Nn138]
            show Steps p.tables e below (T133.setTop (mkF m 267 #[.val (.int p0), .val (.int p1), .val (.int p2), .val (.int p3), .val (.int (0 : Int32)), .val (.int (1 : Int32)), .val (.int (0 : Int32)), .val (.ref b91), .val (.int (2 : Int32)), .val (.ref b94), .val (.ref b_115), .val (.ref b_133)] [(.int ((0 : Int32) + (2 : Int32)))])) _
            refine XS.iload X133.here hx rfl (hb hby at_267) rfl ?_
            exact kt)
        have hd269_140 : ((0 : Int32) + (2 : Int32)) = (2 : Int32) := by decide
        have c142 := (((V111.keep K115q nin0).other W130 ne_b91_b_115).keep K133q nin0)
        obtain ⟨_, _, ⟨T141, L141, k141, n141⟩, -, X141, ⟨Lc141, hQ141, l141, y141, z141⟩, st141⟩ := Jvm.LawKit.callS X133 hx (y := (⟨"com/example/corvid/corvid/ByteWriterToByteArrayPinLaw", "same", "([B[BI)Z"⟩ : MethodName)) hown (mvT hZ (hw _ (List.mem_of_getElem? (i := 45) rfl))) (mvT hZ (hw _ (List.mem_of_getElem? (i := 46) rfl))) (mvT hZ (hw _ (List.mem_of_getElem? (i := 47) rfl))) (mvT hZ (hw _ (List.mem_of_getElem? (i := 48) rfl))) (by decide) (backOf (W := 0) (rm9 l Z a0 hw [] b_133 b91 (2 : Int32) ((0 : Int32) + (2 : Int32)) (f11_r1_a (p1.toInt16.toInt32) (0 : Int32) (fun _ => 0)) (7 : Int32) (own_upd (own_upd (fun _ => 0) 0 (nar .byte ((p1 &&& (255 : Int32)).toInt8.toInt32))) 1 (nar .byte (((p1 >>> ((8 : Int32) &&& 31)) &&& (255 : Int32)).toInt8.toInt32))) T133.heap n0 Z136 G133_0 c142 (by decide)) hZ (hw _ (List.mem_of_getElem? (i := 48) rfl)) (hw _ (List.mem_of_getElem? (i := 47) rfl)) (by decide) (by decide)) (g := (mkF m 278 #[.val (.int p0), .val (.int p1), .val (.int p2), .val (.int p3), .val (.int (0 : Int32)), .val (.int (1 : Int32)), .val (.int (0 : Int32)), .val (.ref b91), .val (.int (2 : Int32)), .val (.ref b94), .val (.ref b_115), .val (.ref b_133)] [(.int (2 : Int32)), (.ref b91), (.ref b_133)])) rfl (by rw [hml]; rfl) (argsL := [(.ref b_133), (.ref b91), (.int (2 : Int32))]) (rest := []) (lenOf pd_0_2 rfl) rfl (by show 2 * 0 + _ ≤ _; exact Nat.le_of_eq rfl) (hb hby at_278) (fun _ _ => ⟨rfl, rfl, (by decide : 5 + 0 ≤ _), (by decide : 106 + 0 ≤ _)⟩)
        dsimp only [Pt.U, Pt.locs, Pt.cells, Pt.slots] at X141 l141 y141 z141 st141 hQ141
        subst l141 y141 z141
        obtain ⟨rfl, N141q, e141q⟩ := hQ141
        have N141 := Fr.app N133 N141q
        have pre143 : ∀ t, Steps p.tables e below (T141.setTop (mkF m 281 #[.val (.int p0), .val (.int p1), .val (.int p2), .val (.int p3), .val (.int (0 : Int32)), .val (.int (1 : Int32)), .val (.int (0 : Int32)), .val (.ref b91), .val (.int (2 : Int32)), .val (.ref b94), .val (.ref b_115), .val (.ref b_133)] [(.int (f9 (2 : Int32) (f11_r1_a (p1.toInt16.toInt32) (0 : Int32) (fun _ => 0)) (own_upd (own_upd (fun _ => 0) 0 (nar .byte ((p1 &&& (255 : Int32)).toInt8.toInt32))) 1 (nar .byte (((p1 >>> ((8 : Int32) &&& 31)) &&& (255 : Int32)).toInt8.toInt32)))))])) t → Steps p.tables e below (s₁.setTop (entryFrame m #[(.int p0), (.int p1), (.int p2), (.int p3)] maxLocals)) t := fun t kt => pre139 t (by
            show Steps p.tables e below (T133.setTop (mkF m 269 #[.val (.int p0), .val (.int p1), .val (.int p2), .val (.int p3), .val (.int (0 : Int32)), .val (.int (1 : Int32)), .val (.int (0 : Int32)), .val (.ref b91), .val (.int (2 : Int32)), .val (.ref b94), .val (.ref b_115), .val (.ref b_133)] [(.int (2 : Int32)), (.int ((0 : Int32) + (2 : Int32)))])) _
            refine XS.icmpNo X133.here hx rfl (hb hby at_269) rfl (teq hd269_140).2 ?_
            show Steps p.tables e below (T133.setTop (mkF m 272 #[.val (.int p0), .val (.int p1), .val (.int p2), .val (.int p3), .val (.int (0 : Int32)), .val (.int (1 : Int32)), .val (.int (0 : Int32)), .val (.ref b91), .val (.int (2 : Int32)), .val (.ref b94), .val (.ref b_115), .val (.ref b_133)] [])) _
            refine XS.aload X133.here hx rfl (hb hby at_272) rfl rfl ?_
            show Steps p.tables e below (T133.setTop (mkF m 274 #[.val (.int p0), .val (.int p1), .val (.int p2), .val (.int p3), .val (.int (0 : Int32)), .val (.int (1 : Int32)), .val (.int (0 : Int32)), .val (.ref b91), .val (.int (2 : Int32)), .val (.ref b94), .val (.ref b_115), .val (.ref b_133)] [(.ref b_133)])) _
            refine XS.aload X133.here hx rfl (hb hby at_274) rfl rfl ?_
            show Steps p.tables e below (T133.setTop (mkF m 276 #[.val (.int p0), .val (.int p1), .val (.int p2), .val (.int p3), .val (.int (0 : Int32)), .val (.int (1 : Int32)), .val (.int (0 : Int32)), .val (.ref b91), .val (.int (2 : Int32)), .val (.ref b94), .val (.ref b_115), .val (.ref b_133)] [(.ref b91), (.ref b_133)])) _
            refine XS.iload X133.here hx rfl (hb hby at_276) rfl ?_
            show Steps p.tables e below (T133.setTop (mkF m 278 #[.val (.int p0), .val (.int p1), .val (.int p2), .val (.int p3), .val (.int (0 : Int32)), .val (.int (1 : Int32)), .val (.int (0 : Int32)), .val (.ref b91), .val (.int (2 : Int32)), .val (.ref b94), .val (.ref b_115), .val (.ref b_133)] [(.int (2 : Int32)), (.ref b91), (.ref b_133)])) _
            refine st141 _ ?_
            exact kt)
        have hd281_144 : ¬ ((f9 (2 : Int32) (f11_r1_a (p1.toInt16.toInt32) (0 : Int32) (fun _ => 0)) (own_upd (own_upd (fun _ => 0) 0 (nar .byte ((p1 &&& (255 : Int32)).toInt8.toInt32))) 1 (nar .byte (((p1 >>> ((8 : Int32) &&& 31)) &&& (255 : Int32)).toInt8.toInt32)))) = (0 : Int32)) := own_sm _ _ _ (own_pf010 p0 p1 p2)
        obtain ⟨fs, hr, hrun, hended, hW, hsame⟩ := X141.leave (v := some (.int (1 : Int32))) (fun h => by rw [Bd.returns] at h; cases h)
        have hv519 : (1 : Int32) = (1 : Int32) := rfl
        refine ⟨_, _, pre143 _ ?_, hrun, hended, _, _, rfl, ?_, ⟨_, rfl⟩, hW, hsame.mono (by decide) (by decide)⟩
        · show Steps p.tables e below (T141.setTop (mkF m 281 #[.val (.int p0), .val (.int p1), .val (.int p2), .val (.int p3), .val (.int (0 : Int32)), .val (.int (1 : Int32)), .val (.int (0 : Int32)), .val (.ref b91), .val (.int (2 : Int32)), .val (.ref b94), .val (.ref b_115), .val (.ref b_133)] [(.int (f9 (2 : Int32) (f11_r1_a (p1.toInt16.toInt32) (0 : Int32) (fun _ => 0)) (own_upd (own_upd (fun _ => 0) 0 (nar .byte ((p1 &&& (255 : Int32)).toInt8.toInt32))) 1 (nar .byte (((p1 >>> ((8 : Int32) &&& 31)) &&& (255 : Int32)).toInt8.toInt32)))))])) _
          refine XS.ifNo X141.here hx rfl (hb hby at_281) rfl ((if0 _ _).trans (feq hd281_144).1) ?_
          show Steps p.tables e below (T141.setTop (mkF m 284 #[.val (.int p0), .val (.int p1), .val (.int p2), .val (.int p3), .val (.int (0 : Int32)), .val (.int (1 : Int32)), .val (.int (0 : Int32)), .val (.ref b91), .val (.int (2 : Int32)), .val (.ref b94), .val (.ref b_115), .val (.ref b_133)] [])) _
          refine XS.iconst X141.here hx rfl (hb hby at_284) ?_
          show Steps p.tables e below (T141.setTop (mkF m 285 #[.val (.int p0), .val (.int p1), .val (.int p2), .val (.int p3), .val (.int (0 : Int32)), .val (.int (1 : Int32)), .val (.int (0 : Int32)), .val (.ref b91), .val (.int (2 : Int32)), .val (.ref b94), .val (.ref b_115), .val (.ref b_133)] [(.int (1 : Int32))])) _
          refine XS.goto X141.here hx rfl (pc0 := 285) (pc' := 289) rfl (hb hby at_285) (by decide) (by decide) ?_
          show Steps p.tables e below (T141.setTop (mkF m 289 #[.val (.int p0), .val (.int p1), .val (.int p2), .val (.int p3), .val (.int (0 : Int32)), .val (.int (1 : Int32)), .val (.int (0 : Int32)), .val (.ref b91), .val (.int (2 : Int32)), .val (.ref b94), .val (.ref b_115), .val (.ref b_133)] [(.int (1 : Int32))])) _
          exact retN X141 hx (t := .boolean) Bd.returns (by simp) (hb hby at_289) hr
        · show Q0 Z p0 p1 p2 p3 h0 n0 _ T141.heap _
          rw [e141q]
          exact ⟨congrArg (fun q => some (Value.int q)) hv519, N141⟩
      · obtain ⟨T145, h145, k145, X145, e145, E145, A145, st145⟩ := newP X0 hx hZ (hw _ (List.mem_of_getElem? (i := 0) rfl)) e0 (g := (mkF m 41 #[.val (.int p0), .val (.int p1), .val (.int p2), .val (.int p3), .val (.int (0 : Int32)), .val (.int (1 : Int32)), .val (.int (1 : Int32)), .unset, .unset, .unset, .unset, .unset] [(.int (7 : Int32))])) rfl (hb hby at_41) rfl (by decide) (cap := 7) (by decide) (by decide) (by decide) (by decide)
        obtain ⟨b145, g145⟩ : ∃ z, z = h0.size := ⟨_, rfl⟩
        rw [← g145] at A145 st145
        have g_b145 : n0 ≤ b145 := Nat.le_trans Z0 (Nat.le_of_eq g145.symm)
        have sz_b145 : h0.size ≤ b145 := Nat.le_trans (Keep.refl h0 []).1 (Nat.le_of_eq g145.symm)
        have K146 : Keep h0 h145 [] := (Keep.refl h0 []).ext E145
        have Z147 : n0 ≤ h145.size := Nat.le_trans Z0 K146.1
        have V_b145 : own_AI Z h145 b145 .byte (7 : Int32) (fun _ => 0) := own_AI.new A145 (by decide) rfl
        obtain ⟨T148, h148, X148, e148, E148, A148, D148, -, st148⟩ := newO X145 hx hZ hown (hw _ (List.mem_of_getElem? (i := 1) rfl)) (hw _ (List.mem_of_getElem? (i := 2) rfl)) (hw _ (List.mem_of_getElem? (i := 3) rfl)) e145 (g := (mkF m 48 #[.val (.int p0), .val (.int p1), .val (.int p2), .val (.int p3), .val (.int (0 : Int32)), .val (.int (1 : Int32)), .val (.int (1 : Int32)), .val (.ref b145), .val (.int (0 : Int32)), .unset, .unset, .unset] [])) rfl (hb hby at_48) (by decide) (by decide)
        obtain ⟨b148, g148⟩ : ∃ z, z = h145.size := ⟨_, rfl⟩
        rw [← g148] at A148 D148 st148
        have g_b148 : n0 ≤ b148 := Nat.le_trans Z147 (Nat.le_of_eq g148.symm)
        have sz_b148 : h0.size ≤ b148 := Nat.le_trans K146.1 (Nat.le_of_eq g148.symm)
        have ne_b145_b148 : b145 ≠ b148 := Nat.ne_of_lt (Nat.lt_of_lt_of_le V_b145.lt (Nat.le_of_eq g148.symm))
        have K149 : Keep h0 h148 [] := K146.ext E148
        have Z150 : n0 ≤ h148.size := Nat.le_trans Z0 K149.1
        have E_b148 := A148
        have F_bytes_b148 : Fld Z h148 b148 "com/example/corvid/corvid/ByteWriter" "bytes" "[B" .null := D148 (Or.inl (hw _ (List.mem_of_getElem? (i := 11) rfl))) (ty := (.array .byte)) (by decide)
        have F_encapsulationStart_b148 : Fld Z h148 b148 "com/example/corvid/corvid/ByteWriter" "encapsulationStart" "I" (.int (0 : Int32)) := D148 (Or.inl (hw _ (List.mem_of_getElem? (i := 13) rfl))) (ty := .int) (by decide)
        have F_length_b148 : Fld Z h148 b148 "com/example/corvid/corvid/ByteWriter" "length" "I" (.int (0 : Int32)) := D148 (Or.inl (hw _ (List.mem_of_getElem? (i := 24) rfl))) (ty := .int) (by decide)
        obtain ⟨_, _, ⟨T151, L151, k151, n151⟩, -, X151, ⟨Lc151, hQ151, l151, y151, z151⟩, st151⟩ := X148.specialBack hx (y := (⟨"com/example/corvid/corvid/ByteWriter", "<init>", "()V"⟩ : MethodName)) rfl hown (mvT hZ (hw _ (List.mem_of_getElem? (i := 4) rfl))) (mvT hZ (hw _ (List.mem_of_getElem? (i := 5) rfl))) (mvT hZ (hw _ (List.mem_of_getElem? (i := 6) rfl))) (by decide) (backOf (W := 1) (rm1 l Z a0 hw [] b148 (0 : Int32) (0 : Int32) h148 n0 Z150 E_b148 F_length_b148 F_bytes_b148 g_b148 F_encapsulationStart_b148) hZ (hw _ (List.mem_of_getElem? (i := 6) rfl)) (hw _ (List.mem_of_getElem? (i := 3) rfl)) (by decide) (by decide)) (g := (mkF m 52 #[.val (.int p0), .val (.int p1), .val (.int p2), .val (.int p3), .val (.int (0 : Int32)), .val (.int (1 : Int32)), .val (.int (1 : Int32)), .val (.ref b145), .val (.int (0 : Int32)), .unset, .unset, .unset] [(.ref b148), (.ref b148)])) rfl (by rw [hml]; rfl) (Steps.refl _) (a := b148) (argsL := []) (rest := [(.ref b148)]) (lenOf pd_0_0 rfl) rfl (by show 2 * 0 + _ ≤ _; exact Nat.le_of_eq rfl) (hb hby at_52) (fun _ _ => ⟨rfl, e148, (by decide : 2 + 1 ≤ _), (by decide : 10 + 64 ≤ _)⟩)
        dsimp only [Pt.U, Pt.locs, Pt.cells, Pt.slots] at X151 l151 y151 z151 st151 hQ151
        subst l151 y151 z151
        obtain ⟨r_o0_bytes_151, rfl, N151q, K151q, g_r_o0_bytes_151, szq_r_o0_bytes_151, G151_0, G151_1, G151_2, G151_3⟩ := hQ151
        have N151 := Fr.app N0 N151q
        have ne_b145_r_o0_bytes_151 : b145 ≠ r_o0_bytes_151 := Nat.ne_of_lt (Nat.lt_of_lt_of_le (V_b145.ext E148).lt szq_r_o0_bytes_151)
        have ne_b148_r_o0_bytes_151 : b148 ≠ r_o0_bytes_151 := Nat.ne_of_lt (Nat.lt_of_lt_of_le E_b148.lt szq_r_o0_bytes_151)
        have sz_r_o0_bytes_151 : h0.size ≤ r_o0_bytes_151 := Nat.le_trans K149.1 szq_r_o0_bytes_151
        have K152 : Keep h0 T151.heap [] := K149.trans K151q (allS (Or.inr sz_b148) all0)
        have Z153 : n0 ≤ T151.heap.size := Nat.le_trans Z0 K152.1
        obtain ⟨LS151, X151, N151⟩ : ∃ L, Stand p l e room_1 s m #[(.int p0), (.int p1), (.int p2), (.int p3)] below meth c T151 L 3 74 ∧ Fr n0 L := ⟨_, X151, N151⟩
        have pre154 : ∀ t, Steps p.tables e below (T151.setTop (mkF m 59 #[.val (.int p0), .val (.int p1), .val (.int p2), .val (.int p3), .val (.int (0 : Int32)), .val (.int (1 : Int32)), .val (.int (1 : Int32)), .val (.ref b145), .val (.int (0 : Int32)), .val (.ref b148), .unset, .unset] [(.int (0 : Int32))])) t → Steps p.tables e below (s₁.setTop (entryFrame m #[(.int p0), (.int p1), (.int p2), (.int p3)] maxLocals)) t := fun t kt => pre89 t (by
            show Steps p.tables e below (s₁.setTop (mkF m 29 #[.val (.int p0), .val (.int p1), .val (.int p2), .val (.int p3), .val (.int (0 : Int32)), .val (.int (1 : Int32)), .unset, .unset, .unset, .unset, .unset, .unset] [(.int (p3 &&& (4 : Int32)))])) _
            refine XS.ifNo X0.here hx rfl (hb hby at_29) rfl ((if0 _ _).trans (feq hc29_90).1) ?_
            show Steps p.tables e below (s₁.setTop (mkF m 32 #[.val (.int p0), .val (.int p1), .val (.int p2), .val (.int p3), .val (.int (0 : Int32)), .val (.int (1 : Int32)), .unset, .unset, .unset, .unset, .unset, .unset] [])) _
            refine XS.iconst X0.here hx rfl (hb hby at_32) ?_
            show Steps p.tables e below (s₁.setTop (mkF m 33 #[.val (.int p0), .val (.int p1), .val (.int p2), .val (.int p3), .val (.int (0 : Int32)), .val (.int (1 : Int32)), .unset, .unset, .unset, .unset, .unset, .unset] [(.int (1 : Int32))])) _
            refine XS.goto X0.here hx rfl (pc0 := 33) (pc' := 37) rfl (hb hby at_33) (by decide) (by decide) ?_
            show Steps p.tables e below (s₁.setTop (mkF m 37 #[.val (.int p0), .val (.int p1), .val (.int p2), .val (.int p3), .val (.int (0 : Int32)), .val (.int (1 : Int32)), .unset, .unset, .unset, .unset, .unset, .unset] [(.int (1 : Int32))])) _
            refine XS.istore X0.here hx rfl (hb hby at_37) rfl (l' := #[.val (.int p0), .val (.int p1), .val (.int p2), .val (.int p3), .val (.int (0 : Int32)), .val (.int (1 : Int32)), .val (.int (1 : Int32)), .unset, .unset, .unset, .unset, .unset]) rfl ?_
            show Steps p.tables e below (s₁.setTop (mkF m 39 #[.val (.int p0), .val (.int p1), .val (.int p2), .val (.int p3), .val (.int (0 : Int32)), .val (.int (1 : Int32)), .val (.int (1 : Int32)), .unset, .unset, .unset, .unset, .unset] [])) _
            refine XS.bipush X0.here hx rfl (hb hby at_39) ?_
            show Steps p.tables e below (s₁.setTop (mkF m 41 #[.val (.int p0), .val (.int p1), .val (.int p2), .val (.int p3), .val (.int (0 : Int32)), .val (.int (1 : Int32)), .val (.int (1 : Int32)), .unset, .unset, .unset, .unset, .unset] [(.int (7 : Int32))])) _
            refine st145 _ ?_
            show Steps p.tables e below (T145.setTop (mkF m 43 #[.val (.int p0), .val (.int p1), .val (.int p2), .val (.int p3), .val (.int (0 : Int32)), .val (.int (1 : Int32)), .val (.int (1 : Int32)), .unset, .unset, .unset, .unset, .unset] [(.ref b145)])) _
            refine XS.astore X145.here hx rfl (hb hby at_43) rfl rfl (l' := #[.val (.int p0), .val (.int p1), .val (.int p2), .val (.int p3), .val (.int (0 : Int32)), .val (.int (1 : Int32)), .val (.int (1 : Int32)), .val (.ref b145), .unset, .unset, .unset, .unset]) rfl ?_
            show Steps p.tables e below (T145.setTop (mkF m 45 #[.val (.int p0), .val (.int p1), .val (.int p2), .val (.int p3), .val (.int (0 : Int32)), .val (.int (1 : Int32)), .val (.int (1 : Int32)), .val (.ref b145), .unset, .unset, .unset, .unset] [])) _
            refine XS.iconst X145.here hx rfl (hb hby at_45) ?_
            show Steps p.tables e below (T145.setTop (mkF m 46 #[.val (.int p0), .val (.int p1), .val (.int p2), .val (.int p3), .val (.int (0 : Int32)), .val (.int (1 : Int32)), .val (.int (1 : Int32)), .val (.ref b145), .unset, .unset, .unset, .unset] [(.int (0 : Int32))])) _
            refine XS.istore X145.here hx rfl (hb hby at_46) rfl (l' := #[.val (.int p0), .val (.int p1), .val (.int p2), .val (.int p3), .val (.int (0 : Int32)), .val (.int (1 : Int32)), .val (.int (1 : Int32)), .val (.ref b145), .val (.int (0 : Int32)), .unset, .unset, .unset]) rfl ?_
            show Steps p.tables e below (T145.setTop (mkF m 48 #[.val (.int p0), .val (.int p1), .val (.int p2), .val (.int p3), .val (.int (0 : Int32)), .val (.int (1 : Int32)), .val (.int (1 : Int32)), .val (.ref b145), .val (.int (0 : Int32)), .unset, .unset, .unset] [])) _
            refine st148 _ ?_
            show Steps p.tables e below (T148.setTop (mkF m 51 #[.val (.int p0), .val (.int p1), .val (.int p2), .val (.int p3), .val (.int (0 : Int32)), .val (.int (1 : Int32)), .val (.int (1 : Int32)), .val (.ref b145), .val (.int (0 : Int32)), .unset, .unset, .unset] [(.ref b148)])) _
            refine XS.dup X148.here hx rfl (hb hby at_51) rfl rfl ?_
            show Steps p.tables e below (T148.setTop (mkF m 52 #[.val (.int p0), .val (.int p1), .val (.int p2), .val (.int p3), .val (.int (0 : Int32)), .val (.int (1 : Int32)), .val (.int (1 : Int32)), .val (.ref b145), .val (.int (0 : Int32)), .unset, .unset, .unset] [(.ref b148), (.ref b148)])) _
            refine st151.trans ?_
            show Steps p.tables e below (T151.setTop (mkF m 55 #[.val (.int p0), .val (.int p1), .val (.int p2), .val (.int p3), .val (.int (0 : Int32)), .val (.int (1 : Int32)), .val (.int (1 : Int32)), .val (.ref b145), .val (.int (0 : Int32)), .unset, .unset, .unset] [(.ref b148)])) _
            refine XS.astore X151.here hx rfl (hb hby at_55) rfl rfl (l' := #[.val (.int p0), .val (.int p1), .val (.int p2), .val (.int p3), .val (.int (0 : Int32)), .val (.int (1 : Int32)), .val (.int (1 : Int32)), .val (.ref b145), .val (.int (0 : Int32)), .val (.ref b148), .unset, .unset]) rfl ?_
            show Steps p.tables e below (T151.setTop (mkF m 57 #[.val (.int p0), .val (.int p1), .val (.int p2), .val (.int p3), .val (.int (0 : Int32)), .val (.int (1 : Int32)), .val (.int (1 : Int32)), .val (.ref b145), .val (.int (0 : Int32)), .val (.ref b148), .unset, .unset] [])) _
            refine XS.iload X151.here hx rfl (hb hby at_57) rfl ?_
            exact kt)
        have pre155 : ∀ t, Steps p.tables e below (T151.setTop (mkF m 132 #[.val (.int p0), .val (.int p1), .val (.int p2), .val (.int p3), .val (.int (0 : Int32)), .val (.int (1 : Int32)), .val (.int (1 : Int32)), .val (.ref b145), .val (.int (0 : Int32)), .val (.ref b148), .unset, .unset] [(.int (1 : Int32))])) t → Steps p.tables e below (s₁.setTop (entryFrame m #[(.int p0), (.int p1), (.int p2), (.int p3)] maxLocals)) t := fun t kt => pre154 t (by
            show Steps p.tables e below (T151.setTop (mkF m 59 #[.val (.int p0), .val (.int p1), .val (.int p2), .val (.int p3), .val (.int (0 : Int32)), .val (.int (1 : Int32)), .val (.int (1 : Int32)), .val (.ref b145), .val (.int (0 : Int32)), .val (.ref b148), .unset, .unset] [(.int (0 : Int32))])) _
            refine XS.ifYes X151.here hx rfl (pc0 := 59) (pc' := 130) rfl (hb hby at_59) rfl ((if0 _ _).trans (teq (by decide : ((0 : Int32) = (0 : Int32)))).1) (by decide) (by decide) ?_
            show Steps p.tables e below (T151.setTop (mkF m 130 #[.val (.int p0), .val (.int p1), .val (.int p2), .val (.int p3), .val (.int (0 : Int32)), .val (.int (1 : Int32)), .val (.int (1 : Int32)), .val (.ref b145), .val (.int (0 : Int32)), .val (.ref b148), .unset, .unset] [])) _
            refine XS.iload X151.here hx rfl (hb hby at_130) rfl ?_
            exact kt)
        obtain ⟨cq156, kq156, q156a, q156b, q156c⟩ := isOf hZ rfl (E_b148.keep K151q)
        obtain ⟨_, _, ⟨T156, L156, k156, n156⟩, -, X156, ⟨Lc156, hQ156, l156, y156, z156⟩, st156⟩ := X151.virtualBack hx (y := (⟨"com/example/corvid/corvid/ByteWriter", "writeShort", "(S)V"⟩ : MethodName)) (z := (⟨"com/example/corvid/corvid/ByteWriter", "writeShort", "(S)V"⟩ : MethodName)) hown (mvT hZ (hw _ (List.mem_of_getElem? (i := 52) rfl))) (mvT hZ (hw _ (List.mem_of_getElem? (i := 53) rfl))) (notFace_of_selects (args := #[]) (mvT hZ (hw _ (List.mem_of_getElem? (i := 55) rfl)))) (mvT hZ (hw _ (List.mem_of_getElem? (i := 55) rfl))) (mvT hZ (hw _ (List.mem_of_getElem? (i := 54) rfl))) (by decide) (backOf (W := 0) (rm11 l Z a0 hw [] b148 (p1.toInt16.toInt32) (0 : Int32) r_o0_bytes_151 (fun _ => 0) T151.heap n0 Z153 (E_b148.keep K151q) G151_3 G151_0 G151_1 ne_b148_r_o0_bytes_151 (by decide) g_b148 g_r_o0_bytes_151) hZ (hw _ (List.mem_of_getElem? (i := 56) rfl)) (hw _ (List.mem_of_getElem? (i := 3) rfl)) (by decide) (by decide)) q156a q156c (g := (mkF m 139 #[.val (.int p0), .val (.int p1), .val (.int p2), .val (.int p3), .val (.int (0 : Int32)), .val (.int (1 : Int32)), .val (.int (1 : Int32)), .val (.ref b145), .val (.int (0 : Int32)), .val (.ref b148), .unset, .unset] [(.int (p1.toInt16.toInt32)), (.ref b148)])) rfl (by rw [hml]; rfl) (Steps.refl _) (argsL := [(.int (p1.toInt16.toInt32))]) (rest := []) (lenOf pd_0_4 rfl) rfl (by show 2 * 0 + _ ≤ _; exact Nat.le_of_eq rfl) (hb hby at_139) (fun _ _ => ⟨rfl, rfl, (by decide : 3 + 0 ≤ _), (by decide : 74 + 0 ≤ _)⟩)
        dsimp only [Pt.U, Pt.locs, Pt.cells, Pt.slots] at X156 l156 y156 z156 st156 hQ156
        subst l156 y156 z156
        obtain ⟨rfl, N156q, K156q, G156_0, G156_1, G156_2⟩ := hQ156
        have N156 := Fr.app N151 N156q
        have K157 : Keep h0 T156.heap [] := K152.trans K156q (allS (Or.inr sz_r_o0_bytes_151) (allS (Or.inr sz_b148) all0))
        have Z158 : n0 ≤ T156.heap.size := Nat.le_trans Z0 K157.1
        obtain ⟨LS156, X156, N156⟩ : ∃ L, Stand p l e room_1 s m #[(.int p0), (.int p1), (.int p2), (.int p3)] below meth c T156 L 3 74 ∧ Fr n0 L := ⟨_, X156, N156⟩
        have c160 := (((V_b145.ext E148).keep K151q (ninS ne_b145_b148 nin0)).keep K156q (ninS ne_b145_r_o0_bytes_151 (ninS ne_b145_b148 nin0)))
        obtain ⟨cl159, Ar159, Sz159, Nn159, Hs159⟩ := id c160
        have hin159 : ¬ ((0 : Int32) < 0 ∨ cl159.slots.size ≤ ((0 : Int32)).toNatClampNeg) := inb_of Sz159 ⟨by decide, by decide⟩
        obtain ⟨T161, h161, X161, e161, W161, st161⟩ := stB X156 hx hZ rfl Ar159 (j := (0 : Int32)) hin159 (g := (mkF m 152 #[.val (.int p0), .val (.int p1), .val (.int p2), .val (.int p3), .val (.int (0 : Int32)), .val (.int (1 : Int32)), .val (.int (1 : Int32)), .val (.ref b145), .val (.int (0 : Int32)), .val (.ref b148), .unset, .unset] [(.int ((p1 &&& (255 : Int32)).toInt8.toInt32)), (.int (0 : Int32)), (.ref b145)])) rfl rfl (hb hby at_152)
        have V161 : own_AI Z h161 b145 .byte (7 : Int32) (own_upd (fun _ => 0) 0 (nar .byte ((p1 &&& (255 : Int32)).toInt8.toInt32))) := own_AI.set c160 (fits_nar_byte ((p1 &&& (255 : Int32)).toInt8.toInt32)) W161
        have K162 : Keep h0 h161 [] := K157.wr W161 (Or.inr sz_b145)
        have Z163 : n0 ≤ h161.size := Nat.le_trans Z0 K162.1
        have N161 := Fr.snoc X161 N156 g_b145
        obtain ⟨LS161, X161, N161⟩ : ∃ L, Stand p l e room_1 s m #[(.int p0), (.int p1), (.int p2), (.int p3)] below meth c T161 L 3 74 ∧ Fr n0 L := ⟨_, X161, N161⟩
        obtain ⟨cl164, Ar164, Sz164, Nn164, Hs164⟩ := id V161
        have hin164 : ¬ ((1 : Int32) < 0 ∨ cl164.slots.size ≤ ((1 : Int32)).toNatClampNeg) := inb_of Sz164 ⟨by decide, by decide⟩
        obtain ⟨T165, h165, X165, e165, W165, st165⟩ := stB X161 hx hZ e161 Ar164 (j := (1 : Int32)) hin164 (g := (mkF m 168 #[.val (.int p0), .val (.int p1), .val (.int p2), .val (.int p3), .val (.int (0 : Int32)), .val (.int (1 : Int32)), .val (.int (1 : Int32)), .val (.ref b145), .val (.int (0 : Int32)), .val (.ref b148), .unset, .unset] [(.int (((p1 >>> ((8 : Int32) &&& 31)) &&& (255 : Int32)).toInt8.toInt32)), (.int (1 : Int32)), (.ref b145)])) rfl rfl (hb hby at_168)
        have V165 : own_AI Z h165 b145 .byte (7 : Int32) (own_upd (own_upd (fun _ => 0) 0 (nar .byte ((p1 &&& (255 : Int32)).toInt8.toInt32))) 1 (nar .byte (((p1 >>> ((8 : Int32) &&& 31)) &&& (255 : Int32)).toInt8.toInt32))) := own_AI.set V161 (fits_nar_byte (((p1 >>> ((8 : Int32) &&& 31)) &&& (255 : Int32)).toInt8.toInt32)) W165
        have K166 : Keep h0 h165 [] := K162.wr W165 (Or.inr sz_b145)
        have Z167 : n0 ≤ h165.size := Nat.le_trans Z0 K166.1
        have N165 := Fr.snoc X165 N161 g_b145
        obtain ⟨LS165, X165, N165⟩ : ∃ L, Stand p l e room_1 s m #[(.int p0), (.int p1), (.int p2), (.int p3)] below meth c T165 L 3 74 ∧ Fr n0 L := ⟨_, X165, N165⟩
        have pre168 : ∀ t, Steps p.tables e below (T165.setTop (mkF m 174 #[.val (.int p0), .val (.int p1), .val (.int p2), .val (.int p3), .val (.int (0 : Int32)), .val (.int (1 : Int32)), .val (.int (1 : Int32)), .val (.ref b145), .val (.int (2 : Int32)), .val (.ref b148), .unset, .unset] [(.int (1 : Int32))])) t → Steps p.tables e below (s₁.setTop (entryFrame m #[(.int p0), (.int p1), (.int p2), (.int p3)] maxLocals)) t := fun t kt => pre155 t (by
            show Steps p.tables e below (T151.setTop (mkF m 132 #[.val (.int p0), .val (.int p1), .val (.int p2), .val (.int p3), .val (.int (0 : Int32)), .val (.int (1 : Int32)), .val (.int (1 : Int32)), .val (.ref b145), .val (.int (0 : Int32)), .val (.ref b148), .unset, .unset] [(.int (1 : Int32))])) _
            refine XS.ifNo X151.here hx rfl (hb hby at_132) rfl ((if0 _ _).trans (feq (by decide : ¬ ((1 : Int32) = (0 : Int32)))).1) ?_
            show Steps p.tables e below (T151.setTop (mkF m 135 #[.val (.int p0), .val (.int p1), .val (.int p2), .val (.int p3), .val (.int (0 : Int32)), .val (.int (1 : Int32)), .val (.int (1 : Int32)), .val (.ref b145), .val (.int (0 : Int32)), .val (.ref b148), .unset, .unset] [])) _
            refine XS.aload X151.here hx rfl (hb hby at_135) rfl rfl ?_
            show Steps p.tables e below (T151.setTop (mkF m 137 #[.val (.int p0), .val (.int p1), .val (.int p2), .val (.int p3), .val (.int (0 : Int32)), .val (.int (1 : Int32)), .val (.int (1 : Int32)), .val (.ref b145), .val (.int (0 : Int32)), .val (.ref b148), .unset, .unset] [(.ref b148)])) _
            refine XS.iloadN X151.here hx rfl (hb hby at_137) rfl ?_
            show Steps p.tables e below (T151.setTop (mkF m 138 #[.val (.int p0), .val (.int p1), .val (.int p2), .val (.int p3), .val (.int (0 : Int32)), .val (.int (1 : Int32)), .val (.int (1 : Int32)), .val (.ref b145), .val (.int (0 : Int32)), .val (.ref b148), .unset, .unset] [(.int p1), (.ref b148)])) _
            refine XS.i2s X151.here hx rfl (hb hby at_138) rfl ?_
            show Steps p.tables e below (T151.setTop (mkF m 139 #[.val (.int p0), .val (.int p1), .val (.int p2), .val (.int p3), .val (.int (0 : Int32)), .val (.int (1 : Int32)), .val (.int (1 : Int32)), .val (.ref b145), .val (.int (0 : Int32)), .val (.ref b148), .unset, .unset] [(.int (p1.toInt16.toInt32)), (.ref b148)])) _
            refine st156.trans ?_
            show Steps p.tables e below (T156.setTop (mkF m 142 #[.val (.int p0), .val (.int p1), .val (.int p2), .val (.int p3), .val (.int (0 : Int32)), .val (.int (1 : Int32)), .val (.int (1 : Int32)), .val (.ref b145), .val (.int (0 : Int32)), .val (.ref b148), .unset, .unset] [])) _
            refine XS.aload X156.here hx rfl (hb hby at_142) rfl rfl ?_
            show Steps p.tables e below (T156.setTop (mkF m 144 #[.val (.int p0), .val (.int p1), .val (.int p2), .val (.int p3), .val (.int (0 : Int32)), .val (.int (1 : Int32)), .val (.int (1 : Int32)), .val (.ref b145), .val (.int (0 : Int32)), .val (.ref b148), .unset, .unset] [(.ref b145)])) _
            refine XS.iload X156.here hx rfl (hb hby at_144) rfl ?_
            show Steps p.tables e below (T156.setTop (mkF m 146 #[.val (.int p0), .val (.int p1), .val (.int p2), .val (.int p3), .val (.int (0 : Int32)), .val (.int (1 : Int32)), .val (.int (1 : Int32)), .val (.ref b145), .val (.int (0 : Int32)), .val (.ref b148), .unset, .unset] [(.int (0 : Int32)), (.ref b145)])) _
            refine XS.iloadN X156.here hx rfl (hb hby at_146) rfl ?_
            show Steps p.tables e below (T156.setTop (mkF m 147 #[.val (.int p0), .val (.int p1), .val (.int p2), .val (.int p3), .val (.int (0 : Int32)), .val (.int (1 : Int32)), .val (.int (1 : Int32)), .val (.ref b145), .val (.int (0 : Int32)), .val (.ref b148), .unset, .unset] [(.int p1), (.int (0 : Int32)), (.ref b145)])) _
            refine XS.sipush X156.here hx rfl (hb hby at_147) ?_
            show Steps p.tables e below (T156.setTop (mkF m 150 #[.val (.int p0), .val (.int p1), .val (.int p2), .val (.int p3), .val (.int (0 : Int32)), .val (.int (1 : Int32)), .val (.int (1 : Int32)), .val (.ref b145), .val (.int (0 : Int32)), .val (.ref b148), .unset, .unset] [(.int (255 : Int32)), (.int p1), (.int (0 : Int32)), (.ref b145)])) _
            refine XS.iand X156.here hx rfl (hb hby at_150) rfl ?_
            show Steps p.tables e below (T156.setTop (mkF m 151 #[.val (.int p0), .val (.int p1), .val (.int p2), .val (.int p3), .val (.int (0 : Int32)), .val (.int (1 : Int32)), .val (.int (1 : Int32)), .val (.ref b145), .val (.int (0 : Int32)), .val (.ref b148), .unset, .unset] [(.int (p1 &&& (255 : Int32))), (.int (0 : Int32)), (.ref b145)])) _
            refine XS.i2b X156.here hx rfl (hb hby at_151) rfl ?_
            show Steps p.tables e below (T156.setTop (mkF m 152 #[.val (.int p0), .val (.int p1), .val (.int p2), .val (.int p3), .val (.int (0 : Int32)), .val (.int (1 : Int32)), .val (.int (1 : Int32)), .val (.ref b145), .val (.int (0 : Int32)), .val (.ref b148), .unset, .unset] [(.int ((p1 &&& (255 : Int32)).toInt8.toInt32)), (.int (0 : Int32)), (.ref b145)])) _
            refine st161 _ ?_
            show Steps p.tables e below (T161.setTop (mkF m 153 #[.val (.int p0), .val (.int p1), .val (.int p2), .val (.int p3), .val (.int (0 : Int32)), .val (.int (1 : Int32)), .val (.int (1 : Int32)), .val (.ref b145), .val (.int (0 : Int32)), .val (.ref b148), .unset, .unset] [])) _
            refine XS.aload X161.here hx rfl (hb hby at_153) rfl rfl ?_
            show Steps p.tables e below (T161.setTop (mkF m 155 #[.val (.int p0), .val (.int p1), .val (.int p2), .val (.int p3), .val (.int (0 : Int32)), .val (.int (1 : Int32)), .val (.int (1 : Int32)), .val (.ref b145), .val (.int (0 : Int32)), .val (.ref b148), .unset, .unset] [(.ref b145)])) _
            refine XS.iload X161.here hx rfl (hb hby at_155) rfl ?_
            show Steps p.tables e below (T161.setTop (mkF m 157 #[.val (.int p0), .val (.int p1), .val (.int p2), .val (.int p3), .val (.int (0 : Int32)), .val (.int (1 : Int32)), .val (.int (1 : Int32)), .val (.ref b145), .val (.int (0 : Int32)), .val (.ref b148), .unset, .unset] [(.int (0 : Int32)), (.ref b145)])) _
            refine XS.iconst X161.here hx rfl (hb hby at_157) ?_
            show Steps p.tables e below (T161.setTop (mkF m 158 #[.val (.int p0), .val (.int p1), .val (.int p2), .val (.int p3), .val (.int (0 : Int32)), .val (.int (1 : Int32)), .val (.int (1 : Int32)), .val (.ref b145), .val (.int (0 : Int32)), .val (.ref b148), .unset, .unset] [(.int (1 : Int32)), (.int (0 : Int32)), (.ref b145)])) _
            refine XS.iadd X161.here hx rfl (hb hby at_158) rfl ?_
            show Steps p.tables e below (T161.setTop (mkF m 159 #[.val (.int p0), .val (.int p1), .val (.int p2), .val (.int p3), .val (.int (0 : Int32)), .val (.int (1 : Int32)), .val (.int (1 : Int32)), .val (.ref b145), .val (.int (0 : Int32)), .val (.ref b148), .unset, .unset] [(.int (1 : Int32)), (.ref b145)])) _
            refine XS.iloadN X161.here hx rfl (hb hby at_159) rfl ?_
            show Steps p.tables e below (T161.setTop (mkF m 160 #[.val (.int p0), .val (.int p1), .val (.int p2), .val (.int p3), .val (.int (0 : Int32)), .val (.int (1 : Int32)), .val (.int (1 : Int32)), .val (.ref b145), .val (.int (0 : Int32)), .val (.ref b148), .unset, .unset] [(.int p1), (.int (1 : Int32)), (.ref b145)])) _
            refine XS.bipush X161.here hx rfl (hb hby at_160) ?_
            show Steps p.tables e below (T161.setTop (mkF m 162 #[.val (.int p0), .val (.int p1), .val (.int p2), .val (.int p3), .val (.int (0 : Int32)), .val (.int (1 : Int32)), .val (.int (1 : Int32)), .val (.ref b145), .val (.int (0 : Int32)), .val (.ref b148), .unset, .unset] [(.int (8 : Int32)), (.int p1), (.int (1 : Int32)), (.ref b145)])) _
            refine XS.ishr X161.here hx rfl (hb hby at_162) rfl ?_
            show Steps p.tables e below (T161.setTop (mkF m 163 #[.val (.int p0), .val (.int p1), .val (.int p2), .val (.int p3), .val (.int (0 : Int32)), .val (.int (1 : Int32)), .val (.int (1 : Int32)), .val (.ref b145), .val (.int (0 : Int32)), .val (.ref b148), .unset, .unset] [(.int (p1 >>> ((8 : Int32) &&& 31))), (.int (1 : Int32)), (.ref b145)])) _
            refine XS.sipush X161.here hx rfl (hb hby at_163) ?_
            show Steps p.tables e below (T161.setTop (mkF m 166 #[.val (.int p0), .val (.int p1), .val (.int p2), .val (.int p3), .val (.int (0 : Int32)), .val (.int (1 : Int32)), .val (.int (1 : Int32)), .val (.ref b145), .val (.int (0 : Int32)), .val (.ref b148), .unset, .unset] [(.int (255 : Int32)), (.int (p1 >>> ((8 : Int32) &&& 31))), (.int (1 : Int32)), (.ref b145)])) _
            refine XS.iand X161.here hx rfl (hb hby at_166) rfl ?_
            show Steps p.tables e below (T161.setTop (mkF m 167 #[.val (.int p0), .val (.int p1), .val (.int p2), .val (.int p3), .val (.int (0 : Int32)), .val (.int (1 : Int32)), .val (.int (1 : Int32)), .val (.ref b145), .val (.int (0 : Int32)), .val (.ref b148), .unset, .unset] [(.int ((p1 >>> ((8 : Int32) &&& 31)) &&& (255 : Int32))), (.int (1 : Int32)), (.ref b145)])) _
            refine XS.i2b X161.here hx rfl (hb hby at_167) rfl ?_
            show Steps p.tables e below (T161.setTop (mkF m 168 #[.val (.int p0), .val (.int p1), .val (.int p2), .val (.int p3), .val (.int (0 : Int32)), .val (.int (1 : Int32)), .val (.int (1 : Int32)), .val (.ref b145), .val (.int (0 : Int32)), .val (.ref b148), .unset, .unset] [(.int (((p1 >>> ((8 : Int32) &&& 31)) &&& (255 : Int32)).toInt8.toInt32)), (.int (1 : Int32)), (.ref b145)])) _
            refine st165 _ ?_
            show Steps p.tables e below (T165.setTop (mkF m 169 #[.val (.int p0), .val (.int p1), .val (.int p2), .val (.int p3), .val (.int (0 : Int32)), .val (.int (1 : Int32)), .val (.int (1 : Int32)), .val (.ref b145), .val (.int (0 : Int32)), .val (.ref b148), .unset, .unset] [])) _
            refine XS.iinc X165.here hx rfl (hb hby at_169) rfl (l' := #[.val (.int p0), .val (.int p1), .val (.int p2), .val (.int p3), .val (.int (0 : Int32)), .val (.int (1 : Int32)), .val (.int (1 : Int32)), .val (.ref b145), .val (.int (2 : Int32)), .val (.ref b148), .unset, .unset]) rfl ?_
            show Steps p.tables e below (T165.setTop (mkF m 172 #[.val (.int p0), .val (.int p1), .val (.int p2), .val (.int p3), .val (.int (0 : Int32)), .val (.int (1 : Int32)), .val (.int (1 : Int32)), .val (.ref b145), .val (.int (2 : Int32)), .val (.ref b148), .unset, .unset] [])) _
            refine XS.iload X165.here hx rfl (hb hby at_172) rfl ?_
            exact kt)
        have c170 := ((G156_1.other W161 (Or.inl (Ne.symm ne_b145_b148))).other W165 (Or.inl (Ne.symm ne_b145_b148)))
        have c171 := ((G156_2.other W161 (Or.inl (Ne.symm ne_b145_b148))).other W165 (Or.inl (Ne.symm ne_b145_b148)))
        have c172 := ((G156_0.other W161 (Ne.symm ne_b145_r_o0_bytes_151)).other W165 (Ne.symm ne_b145_r_o0_bytes_151))
        obtain ⟨cq169, kq169, q169a, q169b, q169c⟩ := isOf hZ e165 ((((E_b148.keep K151q).keep K156q).wr W161).wr W165)
        obtain ⟨_, _, ⟨T169, L169, k169, n169⟩, -, X169, ⟨Lc169, hQ169, l169, y169, z169⟩, st169⟩ := X165.virtualBack hx (y := (⟨"com/example/corvid/corvid/ByteWriter", "writeByte", "(I)V"⟩ : MethodName)) (z := (⟨"com/example/corvid/corvid/ByteWriter", "writeByte", "(I)V"⟩ : MethodName)) hown (mvT hZ (hw _ (List.mem_of_getElem? (i := 57) rfl))) (mvT hZ (hw _ (List.mem_of_getElem? (i := 58) rfl))) (notFace_of_selects (args := #[]) (mvT hZ (hw _ (List.mem_of_getElem? (i := 60) rfl)))) (mvT hZ (hw _ (List.mem_of_getElem? (i := 60) rfl))) (mvT hZ (hw _ (List.mem_of_getElem? (i := 59) rfl))) (by decide) (backOf (W := 0) (rm12 l Z a0 hw [] b148 (p2 &&& (255 : Int32)) ((0 : Int32) + (2 : Int32)) r_o0_bytes_151 (f11_r1_a (p1.toInt16.toInt32) (0 : Int32) (fun _ => 0)) h165 n0 Z167 ((((E_b148.keep K151q).keep K156q).wr W161).wr W165) c170 c171 c172 ne_b148_r_o0_bytes_151 (by decide) g_b148 g_r_o0_bytes_151 (own_v255 _)) hZ (hw _ (List.mem_of_getElem? (i := 61) rfl)) (hw _ (List.mem_of_getElem? (i := 3) rfl)) (by decide) (by decide)) q169a q169c (g := (mkF m 188 #[.val (.int p0), .val (.int p1), .val (.int p2), .val (.int p3), .val (.int (0 : Int32)), .val (.int (1 : Int32)), .val (.int (1 : Int32)), .val (.ref b145), .val (.int (2 : Int32)), .val (.ref b148), .val (.int (p2 &&& (255 : Int32))), .unset] [(.int (p2 &&& (255 : Int32))), (.ref b148)])) rfl (by rw [hml]; rfl) (Steps.refl _) (argsL := [(.int (p2 &&& (255 : Int32)))]) (rest := []) (lenOf pd_0_3 rfl) rfl (by show 2 * 0 + _ ≤ _; exact Nat.le_of_eq rfl) (hb hby at_188) (fun _ _ => ⟨rfl, e165, (by decide : 3 + 0 ≤ _), (by decide : 74 + 0 ≤ _)⟩)
        dsimp only [Pt.U, Pt.locs, Pt.cells, Pt.slots] at X169 l169 y169 z169 st169 hQ169
        subst l169 y169 z169
        obtain ⟨rfl, N169q, K169q, G169_0, G169_1, G169_2⟩ := hQ169
        have N169 := Fr.app N165 N169q
        have K173 : Keep h0 T169.heap [] := K166.trans K169q (allS (Or.inr sz_b148) (allS (Or.inr sz_r_o0_bytes_151) all0))
        have Z174 : n0 ≤ T169.heap.size := Nat.le_trans Z0 K173.1
        obtain ⟨LS169, X169, N169⟩ : ∃ L, Stand p l e room_1 s m #[(.int p0), (.int p1), (.int p2), (.int p3)] below meth c T169 L 3 74 ∧ Fr n0 L := ⟨_, X169, N169⟩
        have c176 := (V165.keep K169q (ninS ne_b145_b148 (ninS ne_b145_r_o0_bytes_151 nin0)))
        obtain ⟨cl175, Ar175, Sz175, Nn175, Hs175⟩ := id c176
        have hin175 : ¬ ((2 : Int32) < 0 ∨ cl175.slots.size ≤ ((2 : Int32)).toNatClampNeg) := inb_of Sz175 ⟨by decide, by decide⟩
        obtain ⟨T177, h177, X177, e177, W177, st177⟩ := stB X169 hx hZ rfl Ar175 (j := (2 : Int32)) hin175 (g := (mkF m 198 #[.val (.int p0), .val (.int p1), .val (.int p2), .val (.int p3), .val (.int (0 : Int32)), .val (.int (1 : Int32)), .val (.int (1 : Int32)), .val (.ref b145), .val (.int (2 : Int32)), .val (.ref b148), .val (.int (p2 &&& (255 : Int32))), .unset] [(.int ((p2 &&& (255 : Int32)).toInt8.toInt32)), (.int (2 : Int32)), (.ref b145)])) rfl rfl (hb hby at_198)
        have V177 : own_AI Z h177 b145 .byte (7 : Int32) (own_upd (own_upd (own_upd (fun _ => 0) 0 (nar .byte ((p1 &&& (255 : Int32)).toInt8.toInt32))) 1 (nar .byte (((p1 >>> ((8 : Int32) &&& 31)) &&& (255 : Int32)).toInt8.toInt32))) 2 (nar .byte ((p2 &&& (255 : Int32)).toInt8.toInt32))) := own_AI.set c176 (fits_nar_byte ((p2 &&& (255 : Int32)).toInt8.toInt32)) W177
        have K178 : Keep h0 h177 [] := K173.wr W177 (Or.inr sz_b145)
        have Z179 : n0 ≤ h177.size := Nat.le_trans Z0 K178.1
        have N177 := Fr.snoc X177 N169 g_b145
        obtain ⟨LS177, X177, N177⟩ : ∃ L, Stand p l e room_1 s m #[(.int p0), (.int p1), (.int p2), (.int p3)] below meth c T177 L 3 74 ∧ Fr n0 L := ⟨_, X177, N177⟩
        have c181 := ((((((E_b148.keep K151q).keep K156q).wr W161).wr W165).keep K169q).wr W177)
        obtain ⟨cq180, kq180, q180a, q180b, q180c⟩ := isOf hZ e177 c181
        obtain ⟨_, _, ⟨T180, L180, k180, n180⟩, -, X180, ⟨Lc180, hQ180, l180, y180, z180⟩, st180⟩ := X177.virtualBack hx (y := (⟨"com/example/corvid/corvid/ByteWriter", "toByteArray", "()[B"⟩ : MethodName)) (z := (⟨"com/example/corvid/corvid/ByteWriter", "toByteArray", "()[B"⟩ : MethodName)) hown (mvT hZ (hw _ (List.mem_of_getElem? (i := 29) rfl))) (mvT hZ (hw _ (List.mem_of_getElem? (i := 30) rfl))) (notFace_of_selects (args := #[]) (mvT hZ (hw _ (List.mem_of_getElem? (i := 32) rfl)))) (mvT hZ (hw _ (List.mem_of_getElem? (i := 32) rfl))) (mvT hZ (hw _ (List.mem_of_getElem? (i := 31) rfl))) (by decide) (backOf (W := 0) (rm6 l Z a0 hw [] b148 (((0 : Int32) + (2 : Int32)) + (1 : Int32)) r_o0_bytes_151 (f12_r1_a (p2 &&& (255 : Int32)) ((0 : Int32) + (2 : Int32)) (f11_r1_a (p1.toInt16.toInt32) (0 : Int32) (fun _ => 0))) h177 n0 Z179 (G169_0.other W177 (Or.inl (Ne.symm ne_b145_b148))) (G169_2.other W177 (Or.inl (Ne.symm ne_b145_b148))) (G169_1.other W177 (Ne.symm ne_b145_r_o0_bytes_151)) (by decide)) hZ (hw _ (List.mem_of_getElem? (i := 33) rfl)) (hw _ (List.mem_of_getElem? (i := 3) rfl)) (by decide) (by decide)) q180a q180c (g := (mkF m 204 #[.val (.int p0), .val (.int p1), .val (.int p2), .val (.int p3), .val (.int (0 : Int32)), .val (.int (1 : Int32)), .val (.int (1 : Int32)), .val (.ref b145), .val (.int (3 : Int32)), .val (.ref b148), .val (.int (p2 &&& (255 : Int32))), .unset] [(.ref b148)])) rfl (by rw [hml]; rfl) (Steps.refl _) (argsL := []) (rest := []) (lenOf pd_0_1 rfl) rfl (by show 2 * 0 + _ ≤ _; exact Nat.le_of_eq rfl) (hb hby at_204) (fun _ _ => ⟨rfl, e177, (by decide : 3 + 1 ≤ _), (by decide : 74 + 16 ≤ _)⟩)
        dsimp only [Pt.U, Pt.locs, Pt.cells, Pt.slots] at X180 l180 y180 z180 st180 hQ180
        subst l180 y180 z180
        obtain ⟨b_180, rfl, N180q, K180q, g_b_180, szq_b_180, G180_0⟩ := hQ180
        have N180 := Fr.app N177 N180q
        have ne_b145_b_180 : b145 ≠ b_180 := Nat.ne_of_lt (Nat.lt_of_lt_of_le V177.lt szq_b_180)
        have ne_b148_b_180 : b148 ≠ b_180 := Nat.ne_of_lt (Nat.lt_of_lt_of_le c181.lt szq_b_180)
        have ne_r_o0_bytes_151_b_180 : r_o0_bytes_151 ≠ b_180 := Nat.ne_of_lt (Nat.lt_of_lt_of_le (G169_1.other W177 (Ne.symm ne_b145_r_o0_bytes_151)).lt szq_b_180)
        have sz_b_180 : h0.size ≤ b_180 := Nat.le_trans K178.1 szq_b_180
        have K182 : Keep h0 T180.heap [] := K178.trans K180q all0
        have Z183 : n0 ≤ T180.heap.size := Nat.le_trans Z0 K182.1
        obtain ⟨LS180, X180, N180⟩ : ∃ L, Stand p l e room_1 s m #[(.int p0), (.int p1), (.int p2), (.int p3)] below meth c T180 L 4 90 ∧ Fr n0 L := ⟨_, X180, N180⟩
        obtain ⟨cl184, Ar184, Sz184, Nn184, -⟩ := id G180_0
        have pre185 : ∀ t, Steps p.tables e below (T180.setTop (mkF m 214 #[.val (.int p0), .val (.int p1), .val (.int p2), .val (.int p3), .val (.int (0 : Int32)), .val (.int (1 : Int32)), .val (.int (1 : Int32)), .val (.ref b145), .val (.int (3 : Int32)), .val (.ref b148), .val (.ref b_180), .unset] [(.int (3 : Int32)), (.int (((0 : Int32) + (2 : Int32)) + (1 : Int32)))])) t → Steps p.tables e below (s₁.setTop (entryFrame m #[(.int p0), (.int p1), (.int p2), (.int p3)] maxLocals)) t := fun t kt => pre168 t (by
            show Steps p.tables e below (T165.setTop (mkF m 174 #[.val (.int p0), .val (.int p1), .val (.int p2), .val (.int p3), .val (.int (0 : Int32)), .val (.int (1 : Int32)), .val (.int (1 : Int32)), .val (.ref b145), .val (.int (2 : Int32)), .val (.ref b148), .unset, .unset] [(.int (1 : Int32))])) _
            refine XS.ifNo X165.here hx rfl (hb hby at_174) rfl ((if0 _ _).trans (feq (by decide : ¬ ((1 : Int32) = (0 : Int32)))).1) ?_
            show Steps p.tables e below (T165.setTop (mkF m 177 #[.val (.int p0), .val (.int p1), .val (.int p2), .val (.int p3), .val (.int (0 : Int32)), .val (.int (1 : Int32)), .val (.int (1 : Int32)), .val (.ref b145), .val (.int (2 : Int32)), .val (.ref b148), .unset, .unset] [])) _
            refine XS.iloadN X165.here hx rfl (hb hby at_177) rfl ?_
            show Steps p.tables e below (T165.setTop (mkF m 178 #[.val (.int p0), .val (.int p1), .val (.int p2), .val (.int p3), .val (.int (0 : Int32)), .val (.int (1 : Int32)), .val (.int (1 : Int32)), .val (.ref b145), .val (.int (2 : Int32)), .val (.ref b148), .unset, .unset] [(.int p2)])) _
            refine XS.sipush X165.here hx rfl (hb hby at_178) ?_
            show Steps p.tables e below (T165.setTop (mkF m 181 #[.val (.int p0), .val (.int p1), .val (.int p2), .val (.int p3), .val (.int (0 : Int32)), .val (.int (1 : Int32)), .val (.int (1 : Int32)), .val (.ref b145), .val (.int (2 : Int32)), .val (.ref b148), .unset, .unset] [(.int (255 : Int32)), (.int p2)])) _
            refine XS.iand X165.here hx rfl (hb hby at_181) rfl ?_
            show Steps p.tables e below (T165.setTop (mkF m 182 #[.val (.int p0), .val (.int p1), .val (.int p2), .val (.int p3), .val (.int (0 : Int32)), .val (.int (1 : Int32)), .val (.int (1 : Int32)), .val (.ref b145), .val (.int (2 : Int32)), .val (.ref b148), .unset, .unset] [(.int (p2 &&& (255 : Int32)))])) _
            refine XS.istore X165.here hx rfl (hb hby at_182) rfl (l' := #[.val (.int p0), .val (.int p1), .val (.int p2), .val (.int p3), .val (.int (0 : Int32)), .val (.int (1 : Int32)), .val (.int (1 : Int32)), .val (.ref b145), .val (.int (2 : Int32)), .val (.ref b148), .val (.int (p2 &&& (255 : Int32))), .unset]) rfl ?_
            show Steps p.tables e below (T165.setTop (mkF m 184 #[.val (.int p0), .val (.int p1), .val (.int p2), .val (.int p3), .val (.int (0 : Int32)), .val (.int (1 : Int32)), .val (.int (1 : Int32)), .val (.ref b145), .val (.int (2 : Int32)), .val (.ref b148), .val (.int (p2 &&& (255 : Int32))), .unset] [])) _
            refine XS.aload X165.here hx rfl (hb hby at_184) rfl rfl ?_
            show Steps p.tables e below (T165.setTop (mkF m 186 #[.val (.int p0), .val (.int p1), .val (.int p2), .val (.int p3), .val (.int (0 : Int32)), .val (.int (1 : Int32)), .val (.int (1 : Int32)), .val (.ref b145), .val (.int (2 : Int32)), .val (.ref b148), .val (.int (p2 &&& (255 : Int32))), .unset] [(.ref b148)])) _
            refine XS.iload X165.here hx rfl (hb hby at_186) rfl ?_
            show Steps p.tables e below (T165.setTop (mkF m 188 #[.val (.int p0), .val (.int p1), .val (.int p2), .val (.int p3), .val (.int (0 : Int32)), .val (.int (1 : Int32)), .val (.int (1 : Int32)), .val (.ref b145), .val (.int (2 : Int32)), .val (.ref b148), .val (.int (p2 &&& (255 : Int32))), .unset] [(.int (p2 &&& (255 : Int32))), (.ref b148)])) _
            refine st169.trans ?_
            show Steps p.tables e below (T169.setTop (mkF m 191 #[.val (.int p0), .val (.int p1), .val (.int p2), .val (.int p3), .val (.int (0 : Int32)), .val (.int (1 : Int32)), .val (.int (1 : Int32)), .val (.ref b145), .val (.int (2 : Int32)), .val (.ref b148), .val (.int (p2 &&& (255 : Int32))), .unset] [])) _
            refine XS.aload X169.here hx rfl (hb hby at_191) rfl rfl ?_
            show Steps p.tables e below (T169.setTop (mkF m 193 #[.val (.int p0), .val (.int p1), .val (.int p2), .val (.int p3), .val (.int (0 : Int32)), .val (.int (1 : Int32)), .val (.int (1 : Int32)), .val (.ref b145), .val (.int (2 : Int32)), .val (.ref b148), .val (.int (p2 &&& (255 : Int32))), .unset] [(.ref b145)])) _
            refine XS.iload X169.here hx rfl (hb hby at_193) rfl ?_
            show Steps p.tables e below (T169.setTop (mkF m 195 #[.val (.int p0), .val (.int p1), .val (.int p2), .val (.int p3), .val (.int (0 : Int32)), .val (.int (1 : Int32)), .val (.int (1 : Int32)), .val (.ref b145), .val (.int (2 : Int32)), .val (.ref b148), .val (.int (p2 &&& (255 : Int32))), .unset] [(.int (2 : Int32)), (.ref b145)])) _
            refine XS.iload X169.here hx rfl (hb hby at_195) rfl ?_
            show Steps p.tables e below (T169.setTop (mkF m 197 #[.val (.int p0), .val (.int p1), .val (.int p2), .val (.int p3), .val (.int (0 : Int32)), .val (.int (1 : Int32)), .val (.int (1 : Int32)), .val (.ref b145), .val (.int (2 : Int32)), .val (.ref b148), .val (.int (p2 &&& (255 : Int32))), .unset] [(.int (p2 &&& (255 : Int32))), (.int (2 : Int32)), (.ref b145)])) _
            refine XS.i2b X169.here hx rfl (hb hby at_197) rfl ?_
            show Steps p.tables e below (T169.setTop (mkF m 198 #[.val (.int p0), .val (.int p1), .val (.int p2), .val (.int p3), .val (.int (0 : Int32)), .val (.int (1 : Int32)), .val (.int (1 : Int32)), .val (.ref b145), .val (.int (2 : Int32)), .val (.ref b148), .val (.int (p2 &&& (255 : Int32))), .unset] [(.int ((p2 &&& (255 : Int32)).toInt8.toInt32)), (.int (2 : Int32)), (.ref b145)])) _
            refine st177 _ ?_
            show Steps p.tables e below (T177.setTop (mkF m 199 #[.val (.int p0), .val (.int p1), .val (.int p2), .val (.int p3), .val (.int (0 : Int32)), .val (.int (1 : Int32)), .val (.int (1 : Int32)), .val (.ref b145), .val (.int (2 : Int32)), .val (.ref b148), .val (.int (p2 &&& (255 : Int32))), .unset] [])) _
            refine XS.iinc X177.here hx rfl (hb hby at_199) rfl (l' := #[.val (.int p0), .val (.int p1), .val (.int p2), .val (.int p3), .val (.int (0 : Int32)), .val (.int (1 : Int32)), .val (.int (1 : Int32)), .val (.ref b145), .val (.int (3 : Int32)), .val (.ref b148), .val (.int (p2 &&& (255 : Int32))), .unset]) rfl ?_
            show Steps p.tables e below (T177.setTop (mkF m 202 #[.val (.int p0), .val (.int p1), .val (.int p2), .val (.int p3), .val (.int (0 : Int32)), .val (.int (1 : Int32)), .val (.int (1 : Int32)), .val (.ref b145), .val (.int (3 : Int32)), .val (.ref b148), .val (.int (p2 &&& (255 : Int32))), .unset] [])) _
            refine XS.aload X177.here hx rfl (hb hby at_202) rfl rfl ?_
            show Steps p.tables e below (T177.setTop (mkF m 204 #[.val (.int p0), .val (.int p1), .val (.int p2), .val (.int p3), .val (.int (0 : Int32)), .val (.int (1 : Int32)), .val (.int (1 : Int32)), .val (.ref b145), .val (.int (3 : Int32)), .val (.ref b148), .val (.int (p2 &&& (255 : Int32))), .unset] [(.ref b148)])) _
            refine st180.trans ?_
            show Steps p.tables e below (T180.setTop (mkF m 207 #[.val (.int p0), .val (.int p1), .val (.int p2), .val (.int p3), .val (.int (0 : Int32)), .val (.int (1 : Int32)), .val (.int (1 : Int32)), .val (.ref b145), .val (.int (3 : Int32)), .val (.ref b148), .val (.int (p2 &&& (255 : Int32))), .unset] [(.ref b_180)])) _
            refine XS.astore X180.here hx rfl (hb hby at_207) rfl rfl (l' := #[.val (.int p0), .val (.int p1), .val (.int p2), .val (.int p3), .val (.int (0 : Int32)), .val (.int (1 : Int32)), .val (.int (1 : Int32)), .val (.ref b145), .val (.int (3 : Int32)), .val (.ref b148), .val (.ref b_180), .unset]) rfl ?_
            show Steps p.tables e below (T180.setTop (mkF m 209 #[.val (.int p0), .val (.int p1), .val (.int p2), .val (.int p3), .val (.int (0 : Int32)), .val (.int (1 : Int32)), .val (.int (1 : Int32)), .val (.ref b145), .val (.int (3 : Int32)), .val (.ref b148), .val (.ref b_180), .unset] [])) _
            refine XS.aload X180.here hx rfl (hb hby at_209) rfl rfl ?_
            show Steps p.tables e below (T180.setTop (mkF m 211 #[.val (.int p0), .val (.int p1), .val (.int p2), .val (.int p3), .val (.int (0 : Int32)), .val (.int (1 : Int32)), .val (.int (1 : Int32)), .val (.ref b145), .val (.int (3 : Int32)), .val (.ref b148), .val (.ref b_180), .unset] [(.ref b_180)])) _
            refine X180.arraylength hx Ar184.1 (State.isArrayOf_alike hZ.alike Ar184.2.1) (g := (mkF m 211 #[.val (.int p0), .val (.int p1), .val (.int p2), .val (.int p3), .val (.int (0 : Int32)), .val (.int (1 : Int32)), .val (.int (1 : Int32)), .val (.ref b145), .val (.int (3 : Int32)), .val (.ref b148), .val (.ref b_180), .unset] [(.ref b_180)])) rfl rfl (hb hby at_211) _ ?_
            rw [len_of Sz184 Nn184]
            show Steps p.tables e below (T180.setTop (mkF m 212 #[.val (.int p0), .val (.int p1), .val (.int p2), .val (.int p3), .val (.int (0 : Int32)), .val (.int (1 : Int32)), .val (.int (1 : Int32)), .val (.ref b145), .val (.int (3 : Int32)), .val (.ref b148), .val (.ref b_180), .unset] [(.int (((0 : Int32) + (2 : Int32)) + (1 : Int32)))])) _
            refine XS.iload X180.here hx rfl (hb hby at_212) rfl ?_
            exact kt)
        have hd214_186 : (((0 : Int32) + (2 : Int32)) + (1 : Int32)) = (3 : Int32) := by decide
        obtain ⟨_, _, ⟨T187, L187, k187, n187⟩, -, X187, ⟨Lc187, hQ187, l187, y187, z187⟩, st187⟩ := Jvm.LawKit.callS X180 hx (y := (⟨"com/example/corvid/corvid/ByteWriterToByteArrayPinLaw", "same", "([B[BI)Z"⟩ : MethodName)) hown (mvT hZ (hw _ (List.mem_of_getElem? (i := 45) rfl))) (mvT hZ (hw _ (List.mem_of_getElem? (i := 46) rfl))) (mvT hZ (hw _ (List.mem_of_getElem? (i := 47) rfl))) (mvT hZ (hw _ (List.mem_of_getElem? (i := 48) rfl))) (by decide) (backOf (W := 0) (rm9 l Z a0 hw [] b_180 b145 (3 : Int32) (((0 : Int32) + (2 : Int32)) + (1 : Int32)) (f12_r1_a (p2 &&& (255 : Int32)) ((0 : Int32) + (2 : Int32)) (f11_r1_a (p1.toInt16.toInt32) (0 : Int32) (fun _ => 0))) (7 : Int32) (own_upd (own_upd (own_upd (fun _ => 0) 0 (nar .byte ((p1 &&& (255 : Int32)).toInt8.toInt32))) 1 (nar .byte (((p1 >>> ((8 : Int32) &&& 31)) &&& (255 : Int32)).toInt8.toInt32))) 2 (nar .byte ((p2 &&& (255 : Int32)).toInt8.toInt32))) T180.heap n0 Z183 G180_0 (V177.keep K180q nin0) (by decide)) hZ (hw _ (List.mem_of_getElem? (i := 48) rfl)) (hw _ (List.mem_of_getElem? (i := 47) rfl)) (by decide) (by decide)) (g := (mkF m 225 #[.val (.int p0), .val (.int p1), .val (.int p2), .val (.int p3), .val (.int (0 : Int32)), .val (.int (1 : Int32)), .val (.int (1 : Int32)), .val (.ref b145), .val (.int (3 : Int32)), .val (.ref b148), .val (.ref b_180), .unset] [(.int (3 : Int32)), (.ref b145), (.ref b_180)])) rfl (by rw [hml]; rfl) (argsL := [(.ref b_180), (.ref b145), (.int (3 : Int32))]) (rest := []) (lenOf pd_0_2 rfl) rfl (by show 2 * 0 + _ ≤ _; exact Nat.le_of_eq rfl) (hb hby at_225) (fun _ _ => ⟨rfl, rfl, (by decide : 4 + 0 ≤ _), (by decide : 90 + 0 ≤ _)⟩)
        dsimp only [Pt.U, Pt.locs, Pt.cells, Pt.slots] at X187 l187 y187 z187 st187 hQ187
        subst l187 y187 z187
        obtain ⟨rfl, N187q, e187q⟩ := hQ187
        have N187 := Fr.app N180 N187q
        have pre188 : ∀ t, Steps p.tables e below (T187.setTop (mkF m 228 #[.val (.int p0), .val (.int p1), .val (.int p2), .val (.int p3), .val (.int (0 : Int32)), .val (.int (1 : Int32)), .val (.int (1 : Int32)), .val (.ref b145), .val (.int (3 : Int32)), .val (.ref b148), .val (.ref b_180), .unset] [(.int (f9 (3 : Int32) (f12_r1_a (p2 &&& (255 : Int32)) ((0 : Int32) + (2 : Int32)) (f11_r1_a (p1.toInt16.toInt32) (0 : Int32) (fun _ => 0))) (own_upd (own_upd (own_upd (fun _ => 0) 0 (nar .byte ((p1 &&& (255 : Int32)).toInt8.toInt32))) 1 (nar .byte (((p1 >>> ((8 : Int32) &&& 31)) &&& (255 : Int32)).toInt8.toInt32))) 2 (nar .byte ((p2 &&& (255 : Int32)).toInt8.toInt32)))))])) t → Steps p.tables e below (s₁.setTop (entryFrame m #[(.int p0), (.int p1), (.int p2), (.int p3)] maxLocals)) t := fun t kt => pre185 t (by
            show Steps p.tables e below (T180.setTop (mkF m 214 #[.val (.int p0), .val (.int p1), .val (.int p2), .val (.int p3), .val (.int (0 : Int32)), .val (.int (1 : Int32)), .val (.int (1 : Int32)), .val (.ref b145), .val (.int (3 : Int32)), .val (.ref b148), .val (.ref b_180), .unset] [(.int (3 : Int32)), (.int (((0 : Int32) + (2 : Int32)) + (1 : Int32)))])) _
            refine XS.icmpYes X180.here hx rfl (pc0 := 214) (pc' := 219) rfl (hb hby at_214) rfl (teq hd214_186).1 (by decide) (by decide) ?_
            show Steps p.tables e below (T180.setTop (mkF m 219 #[.val (.int p0), .val (.int p1), .val (.int p2), .val (.int p3), .val (.int (0 : Int32)), .val (.int (1 : Int32)), .val (.int (1 : Int32)), .val (.ref b145), .val (.int (3 : Int32)), .val (.ref b148), .val (.ref b_180), .unset] [])) _
            refine XS.aload X180.here hx rfl (hb hby at_219) rfl rfl ?_
            show Steps p.tables e below (T180.setTop (mkF m 221 #[.val (.int p0), .val (.int p1), .val (.int p2), .val (.int p3), .val (.int (0 : Int32)), .val (.int (1 : Int32)), .val (.int (1 : Int32)), .val (.ref b145), .val (.int (3 : Int32)), .val (.ref b148), .val (.ref b_180), .unset] [(.ref b_180)])) _
            refine XS.aload X180.here hx rfl (hb hby at_221) rfl rfl ?_
            show Steps p.tables e below (T180.setTop (mkF m 223 #[.val (.int p0), .val (.int p1), .val (.int p2), .val (.int p3), .val (.int (0 : Int32)), .val (.int (1 : Int32)), .val (.int (1 : Int32)), .val (.ref b145), .val (.int (3 : Int32)), .val (.ref b148), .val (.ref b_180), .unset] [(.ref b145), (.ref b_180)])) _
            refine XS.iload X180.here hx rfl (hb hby at_223) rfl ?_
            show Steps p.tables e below (T180.setTop (mkF m 225 #[.val (.int p0), .val (.int p1), .val (.int p2), .val (.int p3), .val (.int (0 : Int32)), .val (.int (1 : Int32)), .val (.int (1 : Int32)), .val (.ref b145), .val (.int (3 : Int32)), .val (.ref b148), .val (.ref b_180), .unset] [(.int (3 : Int32)), (.ref b145), (.ref b_180)])) _
            refine st187 _ ?_
            exact kt)
        have hd228_189 : ¬ ((f9 (3 : Int32) (f12_r1_a (p2 &&& (255 : Int32)) ((0 : Int32) + (2 : Int32)) (f11_r1_a (p1.toInt16.toInt32) (0 : Int32) (fun _ => 0))) (own_upd (own_upd (own_upd (fun _ => 0) 0 (nar .byte ((p1 &&& (255 : Int32)).toInt8.toInt32))) 1 (nar .byte (((p1 >>> ((8 : Int32) &&& 31)) &&& (255 : Int32)).toInt8.toInt32))) 2 (nar .byte ((p2 &&& (255 : Int32)).toInt8.toInt32)))) = (0 : Int32)) := own_sm _ _ _ (own_pf011 p0 p1 p2)
        have pre190 : ∀ t, Steps p.tables e below (T187.setTop (mkF m 235 #[.val (.int p0), .val (.int p1), .val (.int p2), .val (.int p3), .val (.int (0 : Int32)), .val (.int (1 : Int32)), .val (.int (1 : Int32)), .val (.ref b145), .val (.int (3 : Int32)), .val (.ref b148), .val (.ref b_180), .unset] [(.int (3 : Int32))])) t → Steps p.tables e below (s₁.setTop (entryFrame m #[(.int p0), (.int p1), (.int p2), (.int p3)] maxLocals)) t := fun t kt => pre188 t (by
            show Steps p.tables e below (T187.setTop (mkF m 228 #[.val (.int p0), .val (.int p1), .val (.int p2), .val (.int p3), .val (.int (0 : Int32)), .val (.int (1 : Int32)), .val (.int (1 : Int32)), .val (.ref b145), .val (.int (3 : Int32)), .val (.ref b148), .val (.ref b_180), .unset] [(.int (f9 (3 : Int32) (f12_r1_a (p2 &&& (255 : Int32)) ((0 : Int32) + (2 : Int32)) (f11_r1_a (p1.toInt16.toInt32) (0 : Int32) (fun _ => 0))) (own_upd (own_upd (own_upd (fun _ => 0) 0 (nar .byte ((p1 &&& (255 : Int32)).toInt8.toInt32))) 1 (nar .byte (((p1 >>> ((8 : Int32) &&& 31)) &&& (255 : Int32)).toInt8.toInt32))) 2 (nar .byte ((p2 &&& (255 : Int32)).toInt8.toInt32)))))])) _
            refine XS.ifYes X187.here hx rfl (pc0 := 228) (pc' := 233) rfl (hb hby at_228) rfl ((if0 _ _).trans (feq hd228_189).2) (by decide) (by decide) ?_
            show Steps p.tables e below (T187.setTop (mkF m 233 #[.val (.int p0), .val (.int p1), .val (.int p2), .val (.int p3), .val (.int (0 : Int32)), .val (.int (1 : Int32)), .val (.int (1 : Int32)), .val (.ref b145), .val (.int (3 : Int32)), .val (.ref b148), .val (.ref b_180), .unset] [])) _
            refine XS.iload X187.here hx rfl (hb hby at_233) rfl ?_
            exact kt)
        obtain ⟨cl191, Ar191, Sz191, Nn191, Hs191⟩ := id G180_0
        have hin191 : ¬ ((0 : Int32) < 0 ∨ cl191.slots.size ≤ ((0 : Int32)).toNatClampNeg) := inb_of Sz191 ⟨by decide, by decide⟩
        have hat191 : cl191.slots[((0 : Int32)).toNatClampNeg]? = some (.int ((f12_r1_a (p2 &&& (255 : Int32)) ((0 : Int32) + (2 : Int32)) (f11_r1_a (p1.toInt16.toInt32) (0 : Int32) (fun _ => 0))) 0)) := (Hs191 _ (own_lt hin191)).1
        obtain ⟨cl192, Ar192, Sz192, Nn192, Hs192⟩ := id G180_0
        have hin192 : ¬ ((0 : Int32) < 0 ∨ cl192.slots.size ≤ ((0 : Int32)).toNatClampNeg) := inb_of Sz192 ⟨by decide, by decide⟩
        obtain ⟨T193, h193, X193, e193, W193, st193⟩ := stB X187 hx hZ e187q Ar192 (j := (0 : Int32)) hin192 (g := (mkF m 249 #[.val (.int p0), .val (.int p1), .val (.int p2), .val (.int p3), .val (.int (0 : Int32)), .val (.int (1 : Int32)), .val (.int (1 : Int32)), .val (.ref b145), .val (.int (3 : Int32)), .val (.ref b148), .val (.ref b_180), .unset] [(.int ((((f12_r1_a (p2 &&& (255 : Int32)) ((0 : Int32) + (2 : Int32)) (f11_r1_a (p1.toInt16.toInt32) (0 : Int32) (fun _ => 0))) 0) ^^^ (90 : Int32)).toInt8.toInt32)), (.int (0 : Int32)), (.ref b_180)])) rfl rfl (hb hby at_249)
        have V193 : own_AI Z h193 b_180 .byte (((0 : Int32) + (2 : Int32)) + (1 : Int32)) (own_upd (f12_r1_a (p2 &&& (255 : Int32)) ((0 : Int32) + (2 : Int32)) (f11_r1_a (p1.toInt16.toInt32) (0 : Int32) (fun _ => 0))) 0 (nar .byte ((((f12_r1_a (p2 &&& (255 : Int32)) ((0 : Int32) + (2 : Int32)) (f11_r1_a (p1.toInt16.toInt32) (0 : Int32) (fun _ => 0))) 0) ^^^ (90 : Int32)).toInt8.toInt32))) := own_AI.set G180_0 (fits_nar_byte ((((f12_r1_a (p2 &&& (255 : Int32)) ((0 : Int32) + (2 : Int32)) (f11_r1_a (p1.toInt16.toInt32) (0 : Int32) (fun _ => 0))) 0) ^^^ (90 : Int32)).toInt8.toInt32)) W193
        have K194 : Keep h0 h193 [] := K182.wr W193 (Or.inr sz_b_180)
        have Z195 : n0 ≤ h193.size := Nat.le_trans Z0 K194.1
        have N193 := Fr.snoc X193 N187 g_b_180
        obtain ⟨LS193, X193, N193⟩ : ∃ L, Stand p l e room_1 s m #[(.int p0), (.int p1), (.int p2), (.int p3)] below meth c T193 L 4 90 ∧ Fr n0 L := ⟨_, X193, N193⟩
        have c197 := (((G169_0.other W177 (Or.inl (Ne.symm ne_b145_b148))).keep K180q nin0).other W193 (Or.inl ne_b148_b_180))
        have c198 := (((G169_2.other W177 (Or.inl (Ne.symm ne_b145_b148))).keep K180q nin0).other W193 (Or.inl ne_b148_b_180))
        have c199 := (((G169_1.other W177 (Ne.symm ne_b145_r_o0_bytes_151)).keep K180q nin0).other W193 ne_r_o0_bytes_151_b_180)
        obtain ⟨cq196, kq196, q196a, q196b, q196c⟩ := isOf hZ e193 ((c181.keep K180q).wr W193)
        obtain ⟨_, _, ⟨T196, L196, k196, n196⟩, -, X196, ⟨Lc196, hQ196, l196, y196, z196⟩, st196⟩ := X193.virtualBack hx (y := (⟨"com/example/corvid/corvid/ByteWriter", "toByteArray", "()[B"⟩ : MethodName)) (z := (⟨"com/example/corvid/corvid/ByteWriter", "toByteArray", "()[B"⟩ : MethodName)) hown (mvT hZ (hw _ (List.mem_of_getElem? (i := 29) rfl))) (mvT hZ (hw _ (List.mem_of_getElem? (i := 30) rfl))) (notFace_of_selects (args := #[]) (mvT hZ (hw _ (List.mem_of_getElem? (i := 32) rfl)))) (mvT hZ (hw _ (List.mem_of_getElem? (i := 32) rfl))) (mvT hZ (hw _ (List.mem_of_getElem? (i := 31) rfl))) (by decide) (backOf (W := 0) (rm6 l Z a0 hw [] b148 (((0 : Int32) + (2 : Int32)) + (1 : Int32)) r_o0_bytes_151 (f12_r1_a (p2 &&& (255 : Int32)) ((0 : Int32) + (2 : Int32)) (f11_r1_a (p1.toInt16.toInt32) (0 : Int32) (fun _ => 0))) h193 n0 Z195 c197 c198 c199 (by decide)) hZ (hw _ (List.mem_of_getElem? (i := 33) rfl)) (hw _ (List.mem_of_getElem? (i := 3) rfl)) (by decide) (by decide)) q196a q196c (g := (mkF m 252 #[.val (.int p0), .val (.int p1), .val (.int p2), .val (.int p3), .val (.int (0 : Int32)), .val (.int (1 : Int32)), .val (.int (1 : Int32)), .val (.ref b145), .val (.int (3 : Int32)), .val (.ref b148), .val (.ref b_180), .unset] [(.ref b148)])) rfl (by rw [hml]; rfl) (Steps.refl _) (argsL := []) (rest := []) (lenOf pd_0_1 rfl) rfl (by show 2 * 0 + _ ≤ _; exact Nat.le_of_eq rfl) (hb hby at_252) (fun _ _ => ⟨rfl, e193, (by decide : 4 + 1 ≤ _), (by decide : 90 + 16 ≤ _)⟩)
        dsimp only [Pt.U, Pt.locs, Pt.cells, Pt.slots] at X196 l196 y196 z196 st196 hQ196
        subst l196 y196 z196
        obtain ⟨b_196, rfl, N196q, K196q, g_b_196, szq_b_196, G196_0⟩ := hQ196
        have N196 := Fr.app N193 N196q
        have ne_b145_b_196 : b145 ≠ b_196 := Nat.ne_of_lt (Nat.lt_of_lt_of_le ((V177.keep K180q nin0).other W193 ne_b145_b_180).lt szq_b_196)
        have ne_b148_b_196 : b148 ≠ b_196 := Nat.ne_of_lt (Nat.lt_of_lt_of_le ((c181.keep K180q).wr W193).lt szq_b_196)
        have ne_r_o0_bytes_151_b_196 : r_o0_bytes_151 ≠ b_196 := Nat.ne_of_lt (Nat.lt_of_lt_of_le c199.lt szq_b_196)
        have ne_b_180_b_196 : b_180 ≠ b_196 := Nat.ne_of_lt (Nat.lt_of_lt_of_le V193.lt szq_b_196)
        have sz_b_196 : h0.size ≤ b_196 := Nat.le_trans K194.1 szq_b_196
        have K200 : Keep h0 T196.heap [] := K194.trans K196q all0
        have Z201 : n0 ≤ T196.heap.size := Nat.le_trans Z0 K200.1
        obtain ⟨LS196, X196, N196⟩ : ∃ L, Stand p l e room_1 s m #[(.int p0), (.int p1), (.int p2), (.int p3)] below meth c T196 L 5 106 ∧ Fr n0 L := ⟨_, X196, N196⟩
        have pre202 : ∀ t, Steps p.tables e below (T196.setTop (mkF m 261 #[.val (.int p0), .val (.int p1), .val (.int p2), .val (.int p3), .val (.int (0 : Int32)), .val (.int (1 : Int32)), .val (.int (1 : Int32)), .val (.ref b145), .val (.int (3 : Int32)), .val (.ref b148), .val (.ref b_180), .val (.ref b_196)] [(.ref b_180), (.ref b_196)])) t → Steps p.tables e below (s₁.setTop (entryFrame m #[(.int p0), (.int p1), (.int p2), (.int p3)] maxLocals)) t := fun t kt => pre190 t (by
            show Steps p.tables e below (T187.setTop (mkF m 235 #[.val (.int p0), .val (.int p1), .val (.int p2), .val (.int p3), .val (.int (0 : Int32)), .val (.int (1 : Int32)), .val (.int (1 : Int32)), .val (.ref b145), .val (.int (3 : Int32)), .val (.ref b148), .val (.ref b_180), .unset] [(.int (3 : Int32))])) _
            refine XS.ifNo X187.here hx rfl (hb hby at_235) rfl ((if0 _ _).trans (tlt (by decide : ((0 : Int32) < (3 : Int32)))).2.2.2) ?_
            show Steps p.tables e below (T187.setTop (mkF m 238 #[.val (.int p0), .val (.int p1), .val (.int p2), .val (.int p3), .val (.int (0 : Int32)), .val (.int (1 : Int32)), .val (.int (1 : Int32)), .val (.ref b145), .val (.int (3 : Int32)), .val (.ref b148), .val (.ref b_180), .unset] [])) _
            refine XS.aload X187.here hx rfl (hb hby at_238) rfl rfl ?_
            show Steps p.tables e below (T187.setTop (mkF m 240 #[.val (.int p0), .val (.int p1), .val (.int p2), .val (.int p3), .val (.int (0 : Int32)), .val (.int (1 : Int32)), .val (.int (1 : Int32)), .val (.ref b145), .val (.int (3 : Int32)), .val (.ref b148), .val (.ref b_180), .unset] [(.ref b_180)])) _
            refine XS.iconst X187.here hx rfl (hb hby at_240) ?_
            show Steps p.tables e below (T187.setTop (mkF m 241 #[.val (.int p0), .val (.int p1), .val (.int p2), .val (.int p3), .val (.int (0 : Int32)), .val (.int (1 : Int32)), .val (.int (1 : Int32)), .val (.ref b145), .val (.int (3 : Int32)), .val (.ref b148), .val (.ref b_180), .unset] [(.int (0 : Int32)), (.ref b_180)])) _
            refine XS.aload X187.here hx rfl (hb hby at_241) rfl rfl ?_
            show Steps p.tables e below (T187.setTop (mkF m 243 #[.val (.int p0), .val (.int p1), .val (.int p2), .val (.int p3), .val (.int (0 : Int32)), .val (.int (1 : Int32)), .val (.int (1 : Int32)), .val (.ref b145), .val (.int (3 : Int32)), .val (.ref b148), .val (.ref b_180), .unset] [(.ref b_180), (.int (0 : Int32)), (.ref b_180)])) _
            refine XS.iconst X187.here hx rfl (hb hby at_243) ?_
            show Steps p.tables e below (T187.setTop (mkF m 244 #[.val (.int p0), .val (.int p1), .val (.int p2), .val (.int p3), .val (.int (0 : Int32)), .val (.int (1 : Int32)), .val (.int (1 : Int32)), .val (.ref b145), .val (.int (3 : Int32)), .val (.ref b148), .val (.ref b_180), .unset] [(.int (0 : Int32)), (.ref b_180), (.int (0 : Int32)), (.ref b_180)])) _
            refine X187.baloadBytes hx (j := (0 : Int32)) (v := (.int ((f12_r1_a (p2 &&& (255 : Int32)) ((0 : Int32) + (2 : Int32)) (f11_r1_a (p1.toInt16.toInt32) (0 : Int32) (fun _ => 0))) 0))) (by rw [e187q]; exact Ar191.1) (State.isArrayOf_alike hZ.alike Ar191.2.1) Ar191.2.2 hin191 hat191 (g := (mkF m 244 #[.val (.int p0), .val (.int p1), .val (.int p2), .val (.int p3), .val (.int (0 : Int32)), .val (.int (1 : Int32)), .val (.int (1 : Int32)), .val (.ref b145), .val (.int (3 : Int32)), .val (.ref b148), .val (.ref b_180), .unset] [(.int (0 : Int32)), (.ref b_180), (.int (0 : Int32)), (.ref b_180)])) rfl rfl (hb hby at_244) _ ?_
            show Steps p.tables e below (T187.setTop (mkF m 245 #[.val (.int p0), .val (.int p1), .val (.int p2), .val (.int p3), .val (.int (0 : Int32)), .val (.int (1 : Int32)), .val (.int (1 : Int32)), .val (.ref b145), .val (.int (3 : Int32)), .val (.ref b148), .val (.ref b_180), .unset] [(.int ((f12_r1_a (p2 &&& (255 : Int32)) ((0 : Int32) + (2 : Int32)) (f11_r1_a (p1.toInt16.toInt32) (0 : Int32) (fun _ => 0))) 0)), (.int (0 : Int32)), (.ref b_180)])) _
            refine XS.bipush X187.here hx rfl (hb hby at_245) ?_
            show Steps p.tables e below (T187.setTop (mkF m 247 #[.val (.int p0), .val (.int p1), .val (.int p2), .val (.int p3), .val (.int (0 : Int32)), .val (.int (1 : Int32)), .val (.int (1 : Int32)), .val (.ref b145), .val (.int (3 : Int32)), .val (.ref b148), .val (.ref b_180), .unset] [(.int (90 : Int32)), (.int ((f12_r1_a (p2 &&& (255 : Int32)) ((0 : Int32) + (2 : Int32)) (f11_r1_a (p1.toInt16.toInt32) (0 : Int32) (fun _ => 0))) 0)), (.int (0 : Int32)), (.ref b_180)])) _
            refine XS.ixor X187.here hx rfl (hb hby at_247) rfl ?_
            show Steps p.tables e below (T187.setTop (mkF m 248 #[.val (.int p0), .val (.int p1), .val (.int p2), .val (.int p3), .val (.int (0 : Int32)), .val (.int (1 : Int32)), .val (.int (1 : Int32)), .val (.ref b145), .val (.int (3 : Int32)), .val (.ref b148), .val (.ref b_180), .unset] [(.int (((f12_r1_a (p2 &&& (255 : Int32)) ((0 : Int32) + (2 : Int32)) (f11_r1_a (p1.toInt16.toInt32) (0 : Int32) (fun _ => 0))) 0) ^^^ (90 : Int32))), (.int (0 : Int32)), (.ref b_180)])) _
            refine XS.i2b X187.here hx rfl (hb hby at_248) rfl ?_
            show Steps p.tables e below (T187.setTop (mkF m 249 #[.val (.int p0), .val (.int p1), .val (.int p2), .val (.int p3), .val (.int (0 : Int32)), .val (.int (1 : Int32)), .val (.int (1 : Int32)), .val (.ref b145), .val (.int (3 : Int32)), .val (.ref b148), .val (.ref b_180), .unset] [(.int ((((f12_r1_a (p2 &&& (255 : Int32)) ((0 : Int32) + (2 : Int32)) (f11_r1_a (p1.toInt16.toInt32) (0 : Int32) (fun _ => 0))) 0) ^^^ (90 : Int32)).toInt8.toInt32)), (.int (0 : Int32)), (.ref b_180)])) _
            refine st193 _ ?_
            show Steps p.tables e below (T193.setTop (mkF m 250 #[.val (.int p0), .val (.int p1), .val (.int p2), .val (.int p3), .val (.int (0 : Int32)), .val (.int (1 : Int32)), .val (.int (1 : Int32)), .val (.ref b145), .val (.int (3 : Int32)), .val (.ref b148), .val (.ref b_180), .unset] [])) _
            refine XS.aload X193.here hx rfl (hb hby at_250) rfl rfl ?_
            show Steps p.tables e below (T193.setTop (mkF m 252 #[.val (.int p0), .val (.int p1), .val (.int p2), .val (.int p3), .val (.int (0 : Int32)), .val (.int (1 : Int32)), .val (.int (1 : Int32)), .val (.ref b145), .val (.int (3 : Int32)), .val (.ref b148), .val (.ref b_180), .unset] [(.ref b148)])) _
            refine st196.trans ?_
            show Steps p.tables e below (T196.setTop (mkF m 255 #[.val (.int p0), .val (.int p1), .val (.int p2), .val (.int p3), .val (.int (0 : Int32)), .val (.int (1 : Int32)), .val (.int (1 : Int32)), .val (.ref b145), .val (.int (3 : Int32)), .val (.ref b148), .val (.ref b_180), .unset] [(.ref b_196)])) _
            refine XS.astore X196.here hx rfl (hb hby at_255) rfl rfl (l' := #[.val (.int p0), .val (.int p1), .val (.int p2), .val (.int p3), .val (.int (0 : Int32)), .val (.int (1 : Int32)), .val (.int (1 : Int32)), .val (.ref b145), .val (.int (3 : Int32)), .val (.ref b148), .val (.ref b_180), .val (.ref b_196)]) rfl ?_
            show Steps p.tables e below (T196.setTop (mkF m 257 #[.val (.int p0), .val (.int p1), .val (.int p2), .val (.int p3), .val (.int (0 : Int32)), .val (.int (1 : Int32)), .val (.int (1 : Int32)), .val (.ref b145), .val (.int (3 : Int32)), .val (.ref b148), .val (.ref b_180), .val (.ref b_196)] [])) _
            refine XS.aload X196.here hx rfl (hb hby at_257) rfl rfl ?_
            show Steps p.tables e below (T196.setTop (mkF m 259 #[.val (.int p0), .val (.int p1), .val (.int p2), .val (.int p3), .val (.int (0 : Int32)), .val (.int (1 : Int32)), .val (.int (1 : Int32)), .val (.ref b145), .val (.int (3 : Int32)), .val (.ref b148), .val (.ref b_180), .val (.ref b_196)] [(.ref b_196)])) _
            refine XS.aload X196.here hx rfl (hb hby at_259) rfl rfl ?_
            exact kt)
        obtain ⟨cl203, Ar203, Sz203, Nn203, -⟩ := id G196_0
        have pre204 : ∀ t, Steps p.tables e below (T196.setTop (mkF m 269 #[.val (.int p0), .val (.int p1), .val (.int p2), .val (.int p3), .val (.int (0 : Int32)), .val (.int (1 : Int32)), .val (.int (1 : Int32)), .val (.ref b145), .val (.int (3 : Int32)), .val (.ref b148), .val (.ref b_180), .val (.ref b_196)] [(.int (3 : Int32)), (.int (((0 : Int32) + (2 : Int32)) + (1 : Int32)))])) t → Steps p.tables e below (s₁.setTop (entryFrame m #[(.int p0), (.int p1), (.int p2), (.int p3)] maxLocals)) t := fun t kt => pre202 t (by
            show Steps p.tables e below (T196.setTop (mkF m 261 #[.val (.int p0), .val (.int p1), .val (.int p2), .val (.int p3), .val (.int (0 : Int32)), .val (.int (1 : Int32)), .val (.int (1 : Int32)), .val (.ref b145), .val (.int (3 : Int32)), .val (.ref b148), .val (.ref b_180), .val (.ref b_196)] [(.ref b_180), (.ref b_196)])) _
            refine Jvm.RoadKit.acmp (g := (mkF m 261 #[.val (.int p0), .val (.int p1), .val (.int p2), .val (.int p3), .val (.int (0 : Int32)), .val (.int (1 : Int32)), .val (.int (1 : Int32)), .val (.ref b145), .val (.int (3 : Int32)), .val (.ref b148), .val (.ref b_180), .val (.ref b_196)] [(.ref b_180), (.ref b_196)])) X196 hx rfl rfl rfl (pc0 := 261) (pc' := 264) (same := false) rfl (hb hby at_261) rfl (decide_eq_false fun q => (Ne.symm ne_b_180_b_196) (Value.ref.inj q)) (by decide) (by decide) ?_
            show Steps p.tables e below (T196.setTop (mkF m 264 #[.val (.int p0), .val (.int p1), .val (.int p2), .val (.int p3), .val (.int (0 : Int32)), .val (.int (1 : Int32)), .val (.int (1 : Int32)), .val (.ref b145), .val (.int (3 : Int32)), .val (.ref b148), .val (.ref b_180), .val (.ref b_196)] [])) _
            refine XS.aload X196.here hx rfl (hb hby at_264) rfl rfl ?_
            show Steps p.tables e below (T196.setTop (mkF m 266 #[.val (.int p0), .val (.int p1), .val (.int p2), .val (.int p3), .val (.int (0 : Int32)), .val (.int (1 : Int32)), .val (.int (1 : Int32)), .val (.ref b145), .val (.int (3 : Int32)), .val (.ref b148), .val (.ref b_180), .val (.ref b_196)] [(.ref b_196)])) _
            refine X196.arraylength hx Ar203.1 (State.isArrayOf_alike hZ.alike Ar203.2.1) (g := (mkF m 266 #[.val (.int p0), .val (.int p1), .val (.int p2), .val (.int p3), .val (.int (0 : Int32)), .val (.int (1 : Int32)), .val (.int (1 : Int32)), .val (.ref b145), .val (.int (3 : Int32)), .val (.ref b148), .val (.ref b_180), .val (.ref b_196)] [(.ref b_196)])) rfl rfl (hb hby at_266) _ ?_
            rw [len_of Sz203 Nn203]
            show Steps p.tables e below (T196.setTop (mkF m 267 #[.val (.int p0), .val (.int p1), .val (.int p2), .val (.int p3), .val (.int (0 : Int32)), .val (.int (1 : Int32)), .val (.int (1 : Int32)), .val (.ref b145), .val (.int (3 : Int32)), .val (.ref b148), .val (.ref b_180), .val (.ref b_196)] [(.int (((0 : Int32) + (2 : Int32)) + (1 : Int32)))])) _
            refine XS.iload X196.here hx rfl (hb hby at_267) rfl ?_
            exact kt)
        have hd269_205 : (((0 : Int32) + (2 : Int32)) + (1 : Int32)) = (3 : Int32) := by decide
        have c207 := (((V177.keep K180q nin0).other W193 ne_b145_b_180).keep K196q nin0)
        obtain ⟨_, _, ⟨T206, L206, k206, n206⟩, -, X206, ⟨Lc206, hQ206, l206, y206, z206⟩, st206⟩ := Jvm.LawKit.callS X196 hx (y := (⟨"com/example/corvid/corvid/ByteWriterToByteArrayPinLaw", "same", "([B[BI)Z"⟩ : MethodName)) hown (mvT hZ (hw _ (List.mem_of_getElem? (i := 45) rfl))) (mvT hZ (hw _ (List.mem_of_getElem? (i := 46) rfl))) (mvT hZ (hw _ (List.mem_of_getElem? (i := 47) rfl))) (mvT hZ (hw _ (List.mem_of_getElem? (i := 48) rfl))) (by decide) (backOf (W := 0) (rm9 l Z a0 hw [] b_196 b145 (3 : Int32) (((0 : Int32) + (2 : Int32)) + (1 : Int32)) (f12_r1_a (p2 &&& (255 : Int32)) ((0 : Int32) + (2 : Int32)) (f11_r1_a (p1.toInt16.toInt32) (0 : Int32) (fun _ => 0))) (7 : Int32) (own_upd (own_upd (own_upd (fun _ => 0) 0 (nar .byte ((p1 &&& (255 : Int32)).toInt8.toInt32))) 1 (nar .byte (((p1 >>> ((8 : Int32) &&& 31)) &&& (255 : Int32)).toInt8.toInt32))) 2 (nar .byte ((p2 &&& (255 : Int32)).toInt8.toInt32))) T196.heap n0 Z201 G196_0 c207 (by decide)) hZ (hw _ (List.mem_of_getElem? (i := 48) rfl)) (hw _ (List.mem_of_getElem? (i := 47) rfl)) (by decide) (by decide)) (g := (mkF m 278 #[.val (.int p0), .val (.int p1), .val (.int p2), .val (.int p3), .val (.int (0 : Int32)), .val (.int (1 : Int32)), .val (.int (1 : Int32)), .val (.ref b145), .val (.int (3 : Int32)), .val (.ref b148), .val (.ref b_180), .val (.ref b_196)] [(.int (3 : Int32)), (.ref b145), (.ref b_196)])) rfl (by rw [hml]; rfl) (argsL := [(.ref b_196), (.ref b145), (.int (3 : Int32))]) (rest := []) (lenOf pd_0_2 rfl) rfl (by show 2 * 0 + _ ≤ _; exact Nat.le_of_eq rfl) (hb hby at_278) (fun _ _ => ⟨rfl, rfl, (by decide : 5 + 0 ≤ _), (by decide : 106 + 0 ≤ _)⟩)
        dsimp only [Pt.U, Pt.locs, Pt.cells, Pt.slots] at X206 l206 y206 z206 st206 hQ206
        subst l206 y206 z206
        obtain ⟨rfl, N206q, e206q⟩ := hQ206
        have N206 := Fr.app N196 N206q
        have pre208 : ∀ t, Steps p.tables e below (T206.setTop (mkF m 281 #[.val (.int p0), .val (.int p1), .val (.int p2), .val (.int p3), .val (.int (0 : Int32)), .val (.int (1 : Int32)), .val (.int (1 : Int32)), .val (.ref b145), .val (.int (3 : Int32)), .val (.ref b148), .val (.ref b_180), .val (.ref b_196)] [(.int (f9 (3 : Int32) (f12_r1_a (p2 &&& (255 : Int32)) ((0 : Int32) + (2 : Int32)) (f11_r1_a (p1.toInt16.toInt32) (0 : Int32) (fun _ => 0))) (own_upd (own_upd (own_upd (fun _ => 0) 0 (nar .byte ((p1 &&& (255 : Int32)).toInt8.toInt32))) 1 (nar .byte (((p1 >>> ((8 : Int32) &&& 31)) &&& (255 : Int32)).toInt8.toInt32))) 2 (nar .byte ((p2 &&& (255 : Int32)).toInt8.toInt32)))))])) t → Steps p.tables e below (s₁.setTop (entryFrame m #[(.int p0), (.int p1), (.int p2), (.int p3)] maxLocals)) t := fun t kt => pre204 t (by
            show Steps p.tables e below (T196.setTop (mkF m 269 #[.val (.int p0), .val (.int p1), .val (.int p2), .val (.int p3), .val (.int (0 : Int32)), .val (.int (1 : Int32)), .val (.int (1 : Int32)), .val (.ref b145), .val (.int (3 : Int32)), .val (.ref b148), .val (.ref b_180), .val (.ref b_196)] [(.int (3 : Int32)), (.int (((0 : Int32) + (2 : Int32)) + (1 : Int32)))])) _
            refine XS.icmpNo X196.here hx rfl (hb hby at_269) rfl (teq hd269_205).2 ?_
            show Steps p.tables e below (T196.setTop (mkF m 272 #[.val (.int p0), .val (.int p1), .val (.int p2), .val (.int p3), .val (.int (0 : Int32)), .val (.int (1 : Int32)), .val (.int (1 : Int32)), .val (.ref b145), .val (.int (3 : Int32)), .val (.ref b148), .val (.ref b_180), .val (.ref b_196)] [])) _
            refine XS.aload X196.here hx rfl (hb hby at_272) rfl rfl ?_
            show Steps p.tables e below (T196.setTop (mkF m 274 #[.val (.int p0), .val (.int p1), .val (.int p2), .val (.int p3), .val (.int (0 : Int32)), .val (.int (1 : Int32)), .val (.int (1 : Int32)), .val (.ref b145), .val (.int (3 : Int32)), .val (.ref b148), .val (.ref b_180), .val (.ref b_196)] [(.ref b_196)])) _
            refine XS.aload X196.here hx rfl (hb hby at_274) rfl rfl ?_
            show Steps p.tables e below (T196.setTop (mkF m 276 #[.val (.int p0), .val (.int p1), .val (.int p2), .val (.int p3), .val (.int (0 : Int32)), .val (.int (1 : Int32)), .val (.int (1 : Int32)), .val (.ref b145), .val (.int (3 : Int32)), .val (.ref b148), .val (.ref b_180), .val (.ref b_196)] [(.ref b145), (.ref b_196)])) _
            refine XS.iload X196.here hx rfl (hb hby at_276) rfl ?_
            show Steps p.tables e below (T196.setTop (mkF m 278 #[.val (.int p0), .val (.int p1), .val (.int p2), .val (.int p3), .val (.int (0 : Int32)), .val (.int (1 : Int32)), .val (.int (1 : Int32)), .val (.ref b145), .val (.int (3 : Int32)), .val (.ref b148), .val (.ref b_180), .val (.ref b_196)] [(.int (3 : Int32)), (.ref b145), (.ref b_196)])) _
            refine st206 _ ?_
            exact kt)
        have hd281_209 : ¬ ((f9 (3 : Int32) (f12_r1_a (p2 &&& (255 : Int32)) ((0 : Int32) + (2 : Int32)) (f11_r1_a (p1.toInt16.toInt32) (0 : Int32) (fun _ => 0))) (own_upd (own_upd (own_upd (fun _ => 0) 0 (nar .byte ((p1 &&& (255 : Int32)).toInt8.toInt32))) 1 (nar .byte (((p1 >>> ((8 : Int32) &&& 31)) &&& (255 : Int32)).toInt8.toInt32))) 2 (nar .byte ((p2 &&& (255 : Int32)).toInt8.toInt32)))) = (0 : Int32)) := own_sm _ _ _ (own_pf011 p0 p1 p2)
        obtain ⟨fs, hr, hrun, hended, hW, hsame⟩ := X206.leave (v := some (.int (1 : Int32))) (fun h => by rw [Bd.returns] at h; cases h)
        have hv520 : (1 : Int32) = (1 : Int32) := rfl
        refine ⟨_, _, pre208 _ ?_, hrun, hended, _, _, rfl, ?_, ⟨_, rfl⟩, hW, hsame.mono (by decide) (by decide)⟩
        · show Steps p.tables e below (T206.setTop (mkF m 281 #[.val (.int p0), .val (.int p1), .val (.int p2), .val (.int p3), .val (.int (0 : Int32)), .val (.int (1 : Int32)), .val (.int (1 : Int32)), .val (.ref b145), .val (.int (3 : Int32)), .val (.ref b148), .val (.ref b_180), .val (.ref b_196)] [(.int (f9 (3 : Int32) (f12_r1_a (p2 &&& (255 : Int32)) ((0 : Int32) + (2 : Int32)) (f11_r1_a (p1.toInt16.toInt32) (0 : Int32) (fun _ => 0))) (own_upd (own_upd (own_upd (fun _ => 0) 0 (nar .byte ((p1 &&& (255 : Int32)).toInt8.toInt32))) 1 (nar .byte (((p1 >>> ((8 : Int32) &&& 31)) &&& (255 : Int32)).toInt8.toInt32))) 2 (nar .byte ((p2 &&& (255 : Int32)).toInt8.toInt32)))))])) _
          refine XS.ifNo X206.here hx rfl (hb hby at_281) rfl ((if0 _ _).trans (feq hd281_209).1) ?_
          show Steps p.tables e below (T206.setTop (mkF m 284 #[.val (.int p0), .val (.int p1), .val (.int p2), .val (.int p3), .val (.int (0 : Int32)), .val (.int (1 : Int32)), .val (.int (1 : Int32)), .val (.ref b145), .val (.int (3 : Int32)), .val (.ref b148), .val (.ref b_180), .val (.ref b_196)] [])) _
          refine XS.iconst X206.here hx rfl (hb hby at_284) ?_
          show Steps p.tables e below (T206.setTop (mkF m 285 #[.val (.int p0), .val (.int p1), .val (.int p2), .val (.int p3), .val (.int (0 : Int32)), .val (.int (1 : Int32)), .val (.int (1 : Int32)), .val (.ref b145), .val (.int (3 : Int32)), .val (.ref b148), .val (.ref b_180), .val (.ref b_196)] [(.int (1 : Int32))])) _
          refine XS.goto X206.here hx rfl (pc0 := 285) (pc' := 289) rfl (hb hby at_285) (by decide) (by decide) ?_
          show Steps p.tables e below (T206.setTop (mkF m 289 #[.val (.int p0), .val (.int p1), .val (.int p2), .val (.int p3), .val (.int (0 : Int32)), .val (.int (1 : Int32)), .val (.int (1 : Int32)), .val (.ref b145), .val (.int (3 : Int32)), .val (.ref b148), .val (.ref b_180), .val (.ref b_196)] [(.int (1 : Int32))])) _
          exact retN X206 hx (t := .boolean) Bd.returns (by simp) (hb hby at_289) hr
        · show Q0 Z p0 p1 p2 p3 h0 n0 _ T206.heap _
          rw [e206q]
          exact ⟨congrArg (fun q => some (Value.int q)) hv520, N206⟩
  · have pre210 : ∀ t, Steps p.tables e below (s₁.setTop (mkF m 16 #[.val (.int p0), .val (.int p1), .val (.int p2), .val (.int p3), .val (.int (1 : Int32)), .unset, .unset, .unset, .unset, .unset, .unset, .unset] [(.int (p3 &&& (2 : Int32)))])) t → Steps p.tables e below (s₁.setTop (entryFrame m #[(.int p0), (.int p1), (.int p2), (.int p3)] maxLocals)) t := fun t kt => pre1 t (by
        show Steps p.tables e below (s₁.setTop (mkF m 3 #[.val (.int p0), .val (.int p1), .val (.int p2), .val (.int p3), .unset, .unset, .unset, .unset, .unset, .unset, .unset, .unset] [(.int (p3 &&& (1 : Int32)))])) _
        refine XS.ifNo X0.here hx rfl (hb hby at_3) rfl ((if0 _ _).trans (feq hc3_2).1) ?_
        show Steps p.tables e below (s₁.setTop (mkF m 6 #[.val (.int p0), .val (.int p1), .val (.int p2), .val (.int p3), .unset, .unset, .unset, .unset, .unset, .unset, .unset, .unset] [])) _
        refine XS.iconst X0.here hx rfl (hb hby at_6) ?_
        show Steps p.tables e below (s₁.setTop (mkF m 7 #[.val (.int p0), .val (.int p1), .val (.int p2), .val (.int p3), .unset, .unset, .unset, .unset, .unset, .unset, .unset, .unset] [(.int (1 : Int32))])) _
        refine XS.goto X0.here hx rfl (pc0 := 7) (pc' := 11) rfl (hb hby at_7) (by decide) (by decide) ?_
        show Steps p.tables e below (s₁.setTop (mkF m 11 #[.val (.int p0), .val (.int p1), .val (.int p2), .val (.int p3), .unset, .unset, .unset, .unset, .unset, .unset, .unset, .unset] [(.int (1 : Int32))])) _
        refine XS.istore X0.here hx rfl (hb hby at_11) rfl (l' := #[.val (.int p0), .val (.int p1), .val (.int p2), .val (.int p3), .val (.int (1 : Int32)), .unset, .unset, .unset, .unset, .unset, .unset, .unset]) rfl ?_
        show Steps p.tables e below (s₁.setTop (mkF m 13 #[.val (.int p0), .val (.int p1), .val (.int p2), .val (.int p3), .val (.int (1 : Int32)), .unset, .unset, .unset, .unset, .unset, .unset, .unset] [])) _
        refine XS.iloadN X0.here hx rfl (hb hby at_13) rfl ?_
        show Steps p.tables e below (s₁.setTop (mkF m 14 #[.val (.int p0), .val (.int p1), .val (.int p2), .val (.int p3), .val (.int (1 : Int32)), .unset, .unset, .unset, .unset, .unset, .unset, .unset] [(.int p3)])) _
        refine XS.iconst X0.here hx rfl (hb hby at_14) ?_
        show Steps p.tables e below (s₁.setTop (mkF m 15 #[.val (.int p0), .val (.int p1), .val (.int p2), .val (.int p3), .val (.int (1 : Int32)), .unset, .unset, .unset, .unset, .unset, .unset, .unset] [(.int (2 : Int32)), (.int p3)])) _
        refine XS.iand X0.here hx rfl (hb hby at_15) rfl ?_
        exact kt)
    by_cases hc16_211 : (p3 &&& (2 : Int32)) = (0 : Int32)
    · have pre212 : ∀ t, Steps p.tables e below (s₁.setTop (mkF m 29 #[.val (.int p0), .val (.int p1), .val (.int p2), .val (.int p3), .val (.int (1 : Int32)), .val (.int (0 : Int32)), .unset, .unset, .unset, .unset, .unset, .unset] [(.int (p3 &&& (4 : Int32)))])) t → Steps p.tables e below (s₁.setTop (entryFrame m #[(.int p0), (.int p1), (.int p2), (.int p3)] maxLocals)) t := fun t kt => pre210 t (by
          show Steps p.tables e below (s₁.setTop (mkF m 16 #[.val (.int p0), .val (.int p1), .val (.int p2), .val (.int p3), .val (.int (1 : Int32)), .unset, .unset, .unset, .unset, .unset, .unset, .unset] [(.int (p3 &&& (2 : Int32)))])) _
          refine XS.ifYes X0.here hx rfl (pc0 := 16) (pc' := 23) rfl (hb hby at_16) rfl ((if0 _ _).trans (teq hc16_211).1) (by decide) (by decide) ?_
          show Steps p.tables e below (s₁.setTop (mkF m 23 #[.val (.int p0), .val (.int p1), .val (.int p2), .val (.int p3), .val (.int (1 : Int32)), .unset, .unset, .unset, .unset, .unset, .unset, .unset] [])) _
          refine XS.iconst X0.here hx rfl (hb hby at_23) ?_
          show Steps p.tables e below (s₁.setTop (mkF m 24 #[.val (.int p0), .val (.int p1), .val (.int p2), .val (.int p3), .val (.int (1 : Int32)), .unset, .unset, .unset, .unset, .unset, .unset, .unset] [(.int (0 : Int32))])) _
          refine XS.istore X0.here hx rfl (hb hby at_24) rfl (l' := #[.val (.int p0), .val (.int p1), .val (.int p2), .val (.int p3), .val (.int (1 : Int32)), .val (.int (0 : Int32)), .unset, .unset, .unset, .unset, .unset, .unset]) rfl ?_
          show Steps p.tables e below (s₁.setTop (mkF m 26 #[.val (.int p0), .val (.int p1), .val (.int p2), .val (.int p3), .val (.int (1 : Int32)), .val (.int (0 : Int32)), .unset, .unset, .unset, .unset, .unset, .unset] [])) _
          refine XS.iloadN X0.here hx rfl (hb hby at_26) rfl ?_
          show Steps p.tables e below (s₁.setTop (mkF m 27 #[.val (.int p0), .val (.int p1), .val (.int p2), .val (.int p3), .val (.int (1 : Int32)), .val (.int (0 : Int32)), .unset, .unset, .unset, .unset, .unset, .unset] [(.int p3)])) _
          refine XS.iconst X0.here hx rfl (hb hby at_27) ?_
          show Steps p.tables e below (s₁.setTop (mkF m 28 #[.val (.int p0), .val (.int p1), .val (.int p2), .val (.int p3), .val (.int (1 : Int32)), .val (.int (0 : Int32)), .unset, .unset, .unset, .unset, .unset, .unset] [(.int (4 : Int32)), (.int p3)])) _
          refine XS.iand X0.here hx rfl (hb hby at_28) rfl ?_
          exact kt)
      by_cases hc29_213 : (p3 &&& (4 : Int32)) = (0 : Int32)
      · obtain ⟨T214, h214, k214, X214, e214, E214, A214, st214⟩ := newP X0 hx hZ (hw _ (List.mem_of_getElem? (i := 0) rfl)) e0 (g := (mkF m 41 #[.val (.int p0), .val (.int p1), .val (.int p2), .val (.int p3), .val (.int (1 : Int32)), .val (.int (0 : Int32)), .val (.int (0 : Int32)), .unset, .unset, .unset, .unset, .unset] [(.int (7 : Int32))])) rfl (hb hby at_41) rfl (by decide) (cap := 7) (by decide) (by decide) (by decide) (by decide)
        obtain ⟨b214, g214⟩ : ∃ z, z = h0.size := ⟨_, rfl⟩
        rw [← g214] at A214 st214
        have g_b214 : n0 ≤ b214 := Nat.le_trans Z0 (Nat.le_of_eq g214.symm)
        have sz_b214 : h0.size ≤ b214 := Nat.le_trans (Keep.refl h0 []).1 (Nat.le_of_eq g214.symm)
        have K215 : Keep h0 h214 [] := (Keep.refl h0 []).ext E214
        have Z216 : n0 ≤ h214.size := Nat.le_trans Z0 K215.1
        have V_b214 : own_AI Z h214 b214 .byte (7 : Int32) (fun _ => 0) := own_AI.new A214 (by decide) rfl
        obtain ⟨T217, h217, X217, e217, E217, A217, D217, -, st217⟩ := newO X214 hx hZ hown (hw _ (List.mem_of_getElem? (i := 1) rfl)) (hw _ (List.mem_of_getElem? (i := 2) rfl)) (hw _ (List.mem_of_getElem? (i := 3) rfl)) e214 (g := (mkF m 48 #[.val (.int p0), .val (.int p1), .val (.int p2), .val (.int p3), .val (.int (1 : Int32)), .val (.int (0 : Int32)), .val (.int (0 : Int32)), .val (.ref b214), .val (.int (0 : Int32)), .unset, .unset, .unset] [])) rfl (hb hby at_48) (by decide) (by decide)
        obtain ⟨b217, g217⟩ : ∃ z, z = h214.size := ⟨_, rfl⟩
        rw [← g217] at A217 D217 st217
        have g_b217 : n0 ≤ b217 := Nat.le_trans Z216 (Nat.le_of_eq g217.symm)
        have sz_b217 : h0.size ≤ b217 := Nat.le_trans K215.1 (Nat.le_of_eq g217.symm)
        have ne_b214_b217 : b214 ≠ b217 := Nat.ne_of_lt (Nat.lt_of_lt_of_le V_b214.lt (Nat.le_of_eq g217.symm))
        have K218 : Keep h0 h217 [] := K215.ext E217
        have Z219 : n0 ≤ h217.size := Nat.le_trans Z0 K218.1
        have E_b217 := A217
        have F_bytes_b217 : Fld Z h217 b217 "com/example/corvid/corvid/ByteWriter" "bytes" "[B" .null := D217 (Or.inl (hw _ (List.mem_of_getElem? (i := 11) rfl))) (ty := (.array .byte)) (by decide)
        have F_encapsulationStart_b217 : Fld Z h217 b217 "com/example/corvid/corvid/ByteWriter" "encapsulationStart" "I" (.int (0 : Int32)) := D217 (Or.inl (hw _ (List.mem_of_getElem? (i := 13) rfl))) (ty := .int) (by decide)
        have F_length_b217 : Fld Z h217 b217 "com/example/corvid/corvid/ByteWriter" "length" "I" (.int (0 : Int32)) := D217 (Or.inl (hw _ (List.mem_of_getElem? (i := 24) rfl))) (ty := .int) (by decide)
        obtain ⟨_, _, ⟨T220, L220, k220, n220⟩, -, X220, ⟨Lc220, hQ220, l220, y220, z220⟩, st220⟩ := X217.specialBack hx (y := (⟨"com/example/corvid/corvid/ByteWriter", "<init>", "()V"⟩ : MethodName)) rfl hown (mvT hZ (hw _ (List.mem_of_getElem? (i := 4) rfl))) (mvT hZ (hw _ (List.mem_of_getElem? (i := 5) rfl))) (mvT hZ (hw _ (List.mem_of_getElem? (i := 6) rfl))) (by decide) (backOf (W := 1) (rm1 l Z a0 hw [] b217 (0 : Int32) (0 : Int32) h217 n0 Z219 E_b217 F_length_b217 F_bytes_b217 g_b217 F_encapsulationStart_b217) hZ (hw _ (List.mem_of_getElem? (i := 6) rfl)) (hw _ (List.mem_of_getElem? (i := 3) rfl)) (by decide) (by decide)) (g := (mkF m 52 #[.val (.int p0), .val (.int p1), .val (.int p2), .val (.int p3), .val (.int (1 : Int32)), .val (.int (0 : Int32)), .val (.int (0 : Int32)), .val (.ref b214), .val (.int (0 : Int32)), .unset, .unset, .unset] [(.ref b217), (.ref b217)])) rfl (by rw [hml]; rfl) (Steps.refl _) (a := b217) (argsL := []) (rest := [(.ref b217)]) (lenOf pd_0_0 rfl) rfl (by show 2 * 0 + _ ≤ _; exact Nat.le_of_eq rfl) (hb hby at_52) (fun _ _ => ⟨rfl, e217, (by decide : 2 + 1 ≤ _), (by decide : 10 + 64 ≤ _)⟩)
        dsimp only [Pt.U, Pt.locs, Pt.cells, Pt.slots] at X220 l220 y220 z220 st220 hQ220
        subst l220 y220 z220
        obtain ⟨r_o0_bytes_220, rfl, N220q, K220q, g_r_o0_bytes_220, szq_r_o0_bytes_220, G220_0, G220_1, G220_2, G220_3⟩ := hQ220
        have N220 := Fr.app N0 N220q
        have ne_b214_r_o0_bytes_220 : b214 ≠ r_o0_bytes_220 := Nat.ne_of_lt (Nat.lt_of_lt_of_le (V_b214.ext E217).lt szq_r_o0_bytes_220)
        have ne_b217_r_o0_bytes_220 : b217 ≠ r_o0_bytes_220 := Nat.ne_of_lt (Nat.lt_of_lt_of_le E_b217.lt szq_r_o0_bytes_220)
        have sz_r_o0_bytes_220 : h0.size ≤ r_o0_bytes_220 := Nat.le_trans K218.1 szq_r_o0_bytes_220
        have K221 : Keep h0 T220.heap [] := K218.trans K220q (allS (Or.inr sz_b217) all0)
        have Z222 : n0 ≤ T220.heap.size := Nat.le_trans Z0 K221.1
        obtain ⟨LS220, X220, N220⟩ : ∃ L, Stand p l e room_1 s m #[(.int p0), (.int p1), (.int p2), (.int p3)] below meth c T220 L 3 74 ∧ Fr n0 L := ⟨_, X220, N220⟩
        have pre223 : ∀ t, Steps p.tables e below (T220.setTop (mkF m 59 #[.val (.int p0), .val (.int p1), .val (.int p2), .val (.int p3), .val (.int (1 : Int32)), .val (.int (0 : Int32)), .val (.int (0 : Int32)), .val (.ref b214), .val (.int (0 : Int32)), .val (.ref b217), .unset, .unset] [(.int (1 : Int32))])) t → Steps p.tables e below (s₁.setTop (entryFrame m #[(.int p0), (.int p1), (.int p2), (.int p3)] maxLocals)) t := fun t kt => pre212 t (by
            show Steps p.tables e below (s₁.setTop (mkF m 29 #[.val (.int p0), .val (.int p1), .val (.int p2), .val (.int p3), .val (.int (1 : Int32)), .val (.int (0 : Int32)), .unset, .unset, .unset, .unset, .unset, .unset] [(.int (p3 &&& (4 : Int32)))])) _
            refine XS.ifYes X0.here hx rfl (pc0 := 29) (pc' := 36) rfl (hb hby at_29) rfl ((if0 _ _).trans (teq hc29_213).1) (by decide) (by decide) ?_
            show Steps p.tables e below (s₁.setTop (mkF m 36 #[.val (.int p0), .val (.int p1), .val (.int p2), .val (.int p3), .val (.int (1 : Int32)), .val (.int (0 : Int32)), .unset, .unset, .unset, .unset, .unset, .unset] [])) _
            refine XS.iconst X0.here hx rfl (hb hby at_36) ?_
            show Steps p.tables e below (s₁.setTop (mkF m 37 #[.val (.int p0), .val (.int p1), .val (.int p2), .val (.int p3), .val (.int (1 : Int32)), .val (.int (0 : Int32)), .unset, .unset, .unset, .unset, .unset, .unset] [(.int (0 : Int32))])) _
            refine XS.istore X0.here hx rfl (hb hby at_37) rfl (l' := #[.val (.int p0), .val (.int p1), .val (.int p2), .val (.int p3), .val (.int (1 : Int32)), .val (.int (0 : Int32)), .val (.int (0 : Int32)), .unset, .unset, .unset, .unset, .unset]) rfl ?_
            show Steps p.tables e below (s₁.setTop (mkF m 39 #[.val (.int p0), .val (.int p1), .val (.int p2), .val (.int p3), .val (.int (1 : Int32)), .val (.int (0 : Int32)), .val (.int (0 : Int32)), .unset, .unset, .unset, .unset, .unset] [])) _
            refine XS.bipush X0.here hx rfl (hb hby at_39) ?_
            show Steps p.tables e below (s₁.setTop (mkF m 41 #[.val (.int p0), .val (.int p1), .val (.int p2), .val (.int p3), .val (.int (1 : Int32)), .val (.int (0 : Int32)), .val (.int (0 : Int32)), .unset, .unset, .unset, .unset, .unset] [(.int (7 : Int32))])) _
            refine st214 _ ?_
            show Steps p.tables e below (T214.setTop (mkF m 43 #[.val (.int p0), .val (.int p1), .val (.int p2), .val (.int p3), .val (.int (1 : Int32)), .val (.int (0 : Int32)), .val (.int (0 : Int32)), .unset, .unset, .unset, .unset, .unset] [(.ref b214)])) _
            refine XS.astore X214.here hx rfl (hb hby at_43) rfl rfl (l' := #[.val (.int p0), .val (.int p1), .val (.int p2), .val (.int p3), .val (.int (1 : Int32)), .val (.int (0 : Int32)), .val (.int (0 : Int32)), .val (.ref b214), .unset, .unset, .unset, .unset]) rfl ?_
            show Steps p.tables e below (T214.setTop (mkF m 45 #[.val (.int p0), .val (.int p1), .val (.int p2), .val (.int p3), .val (.int (1 : Int32)), .val (.int (0 : Int32)), .val (.int (0 : Int32)), .val (.ref b214), .unset, .unset, .unset, .unset] [])) _
            refine XS.iconst X214.here hx rfl (hb hby at_45) ?_
            show Steps p.tables e below (T214.setTop (mkF m 46 #[.val (.int p0), .val (.int p1), .val (.int p2), .val (.int p3), .val (.int (1 : Int32)), .val (.int (0 : Int32)), .val (.int (0 : Int32)), .val (.ref b214), .unset, .unset, .unset, .unset] [(.int (0 : Int32))])) _
            refine XS.istore X214.here hx rfl (hb hby at_46) rfl (l' := #[.val (.int p0), .val (.int p1), .val (.int p2), .val (.int p3), .val (.int (1 : Int32)), .val (.int (0 : Int32)), .val (.int (0 : Int32)), .val (.ref b214), .val (.int (0 : Int32)), .unset, .unset, .unset]) rfl ?_
            show Steps p.tables e below (T214.setTop (mkF m 48 #[.val (.int p0), .val (.int p1), .val (.int p2), .val (.int p3), .val (.int (1 : Int32)), .val (.int (0 : Int32)), .val (.int (0 : Int32)), .val (.ref b214), .val (.int (0 : Int32)), .unset, .unset, .unset] [])) _
            refine st217 _ ?_
            show Steps p.tables e below (T217.setTop (mkF m 51 #[.val (.int p0), .val (.int p1), .val (.int p2), .val (.int p3), .val (.int (1 : Int32)), .val (.int (0 : Int32)), .val (.int (0 : Int32)), .val (.ref b214), .val (.int (0 : Int32)), .unset, .unset, .unset] [(.ref b217)])) _
            refine XS.dup X217.here hx rfl (hb hby at_51) rfl rfl ?_
            show Steps p.tables e below (T217.setTop (mkF m 52 #[.val (.int p0), .val (.int p1), .val (.int p2), .val (.int p3), .val (.int (1 : Int32)), .val (.int (0 : Int32)), .val (.int (0 : Int32)), .val (.ref b214), .val (.int (0 : Int32)), .unset, .unset, .unset] [(.ref b217), (.ref b217)])) _
            refine st220.trans ?_
            show Steps p.tables e below (T220.setTop (mkF m 55 #[.val (.int p0), .val (.int p1), .val (.int p2), .val (.int p3), .val (.int (1 : Int32)), .val (.int (0 : Int32)), .val (.int (0 : Int32)), .val (.ref b214), .val (.int (0 : Int32)), .unset, .unset, .unset] [(.ref b217)])) _
            refine XS.astore X220.here hx rfl (hb hby at_55) rfl rfl (l' := #[.val (.int p0), .val (.int p1), .val (.int p2), .val (.int p3), .val (.int (1 : Int32)), .val (.int (0 : Int32)), .val (.int (0 : Int32)), .val (.ref b214), .val (.int (0 : Int32)), .val (.ref b217), .unset, .unset]) rfl ?_
            show Steps p.tables e below (T220.setTop (mkF m 57 #[.val (.int p0), .val (.int p1), .val (.int p2), .val (.int p3), .val (.int (1 : Int32)), .val (.int (0 : Int32)), .val (.int (0 : Int32)), .val (.ref b214), .val (.int (0 : Int32)), .val (.ref b217), .unset, .unset] [])) _
            refine XS.iload X220.here hx rfl (hb hby at_57) rfl ?_
            exact kt)
        obtain ⟨cq224, kq224, q224a, q224b, q224c⟩ := isOf hZ rfl (E_b217.keep K220q)
        obtain ⟨_, _, ⟨T224, L224, k224, n224⟩, -, X224, ⟨Lc224, hQ224, l224, y224, z224⟩, st224⟩ := X220.virtualBack hx (y := (⟨"com/example/corvid/corvid/ByteWriter", "writeInt", "(I)V"⟩ : MethodName)) (z := (⟨"com/example/corvid/corvid/ByteWriter", "writeInt", "(I)V"⟩ : MethodName)) hown (mvT hZ (hw _ (List.mem_of_getElem? (i := 14) rfl))) (mvT hZ (hw _ (List.mem_of_getElem? (i := 15) rfl))) (notFace_of_selects (args := #[]) (mvT hZ (hw _ (List.mem_of_getElem? (i := 17) rfl)))) (mvT hZ (hw _ (List.mem_of_getElem? (i := 17) rfl))) (mvT hZ (hw _ (List.mem_of_getElem? (i := 16) rfl))) (by decide) (backOf (W := 0) (rm3 l Z a0 hw [] b217 p0 (0 : Int32) r_o0_bytes_220 (fun _ => 0) T220.heap n0 Z222 (E_b217.keep K220q) G220_3 G220_0 G220_1 ne_b217_r_o0_bytes_220 (by decide) g_b217 g_r_o0_bytes_220) hZ (hw _ (List.mem_of_getElem? (i := 18) rfl)) (hw _ (List.mem_of_getElem? (i := 3) rfl)) (by decide) (by decide)) q224a q224c (g := (mkF m 65 #[.val (.int p0), .val (.int p1), .val (.int p2), .val (.int p3), .val (.int (1 : Int32)), .val (.int (0 : Int32)), .val (.int (0 : Int32)), .val (.ref b214), .val (.int (0 : Int32)), .val (.ref b217), .unset, .unset] [(.int p0), (.ref b217)])) rfl (by rw [hml]; rfl) (Steps.refl _) (argsL := [(.int p0)]) (rest := []) (lenOf pd_0_3 rfl) rfl (by show 2 * 0 + _ ≤ _; exact Nat.le_of_eq rfl) (hb hby at_65) (fun _ _ => ⟨rfl, rfl, (by decide : 3 + 0 ≤ _), (by decide : 74 + 0 ≤ _)⟩)
        dsimp only [Pt.U, Pt.locs, Pt.cells, Pt.slots] at X224 l224 y224 z224 st224 hQ224
        subst l224 y224 z224
        obtain ⟨rfl, N224q, K224q, G224_0, G224_1, G224_2⟩ := hQ224
        have N224 := Fr.app N220 N224q
        have K225 : Keep h0 T224.heap [] := K221.trans K224q (allS (Or.inr sz_r_o0_bytes_220) (allS (Or.inr sz_b217) all0))
        have Z226 : n0 ≤ T224.heap.size := Nat.le_trans Z0 K225.1
        obtain ⟨LS224, X224, N224⟩ : ∃ L, Stand p l e room_1 s m #[(.int p0), (.int p1), (.int p2), (.int p3)] below meth c T224 L 3 74 ∧ Fr n0 L := ⟨_, X224, N224⟩
        have c228 := (((V_b214.ext E217).keep K220q (ninS ne_b214_b217 nin0)).keep K224q (ninS ne_b214_r_o0_bytes_220 (ninS ne_b214_b217 nin0)))
        obtain ⟨cl227, Ar227, Sz227, Nn227, Hs227⟩ := id c228
        have hin227 : ¬ ((0 : Int32) < 0 ∨ cl227.slots.size ≤ ((0 : Int32)).toNatClampNeg) := inb_of Sz227 ⟨by decide, by decide⟩
        obtain ⟨T229, h229, X229, e229, W229, st229⟩ := stB X224 hx hZ rfl Ar227 (j := (0 : Int32)) hin227 (g := (mkF m 78 #[.val (.int p0), .val (.int p1), .val (.int p2), .val (.int p3), .val (.int (1 : Int32)), .val (.int (0 : Int32)), .val (.int (0 : Int32)), .val (.ref b214), .val (.int (0 : Int32)), .val (.ref b217), .unset, .unset] [(.int ((p0 &&& (255 : Int32)).toInt8.toInt32)), (.int (0 : Int32)), (.ref b214)])) rfl rfl (hb hby at_78)
        have V229 : own_AI Z h229 b214 .byte (7 : Int32) (own_upd (fun _ => 0) 0 (nar .byte ((p0 &&& (255 : Int32)).toInt8.toInt32))) := own_AI.set c228 (fits_nar_byte ((p0 &&& (255 : Int32)).toInt8.toInt32)) W229
        have K230 : Keep h0 h229 [] := K225.wr W229 (Or.inr sz_b214)
        have Z231 : n0 ≤ h229.size := Nat.le_trans Z0 K230.1
        have N229 := Fr.snoc X229 N224 g_b214
        obtain ⟨LS229, X229, N229⟩ : ∃ L, Stand p l e room_1 s m #[(.int p0), (.int p1), (.int p2), (.int p3)] below meth c T229 L 3 74 ∧ Fr n0 L := ⟨_, X229, N229⟩
        obtain ⟨cl232, Ar232, Sz232, Nn232, Hs232⟩ := id V229
        have hin232 : ¬ ((1 : Int32) < 0 ∨ cl232.slots.size ≤ ((1 : Int32)).toNatClampNeg) := inb_of Sz232 ⟨by decide, by decide⟩
        obtain ⟨T233, h233, X233, e233, W233, st233⟩ := stB X229 hx hZ e229 Ar232 (j := (1 : Int32)) hin232 (g := (mkF m 94 #[.val (.int p0), .val (.int p1), .val (.int p2), .val (.int p3), .val (.int (1 : Int32)), .val (.int (0 : Int32)), .val (.int (0 : Int32)), .val (.ref b214), .val (.int (0 : Int32)), .val (.ref b217), .unset, .unset] [(.int (((p0 >>> ((8 : Int32) &&& 31)) &&& (255 : Int32)).toInt8.toInt32)), (.int (1 : Int32)), (.ref b214)])) rfl rfl (hb hby at_94)
        have V233 : own_AI Z h233 b214 .byte (7 : Int32) (own_upd (own_upd (fun _ => 0) 0 (nar .byte ((p0 &&& (255 : Int32)).toInt8.toInt32))) 1 (nar .byte (((p0 >>> ((8 : Int32) &&& 31)) &&& (255 : Int32)).toInt8.toInt32))) := own_AI.set V229 (fits_nar_byte (((p0 >>> ((8 : Int32) &&& 31)) &&& (255 : Int32)).toInt8.toInt32)) W233
        have K234 : Keep h0 h233 [] := K230.wr W233 (Or.inr sz_b214)
        have Z235 : n0 ≤ h233.size := Nat.le_trans Z0 K234.1
        have N233 := Fr.snoc X233 N229 g_b214
        obtain ⟨LS233, X233, N233⟩ : ∃ L, Stand p l e room_1 s m #[(.int p0), (.int p1), (.int p2), (.int p3)] below meth c T233 L 3 74 ∧ Fr n0 L := ⟨_, X233, N233⟩
        obtain ⟨cl236, Ar236, Sz236, Nn236, Hs236⟩ := id V233
        have hin236 : ¬ ((2 : Int32) < 0 ∨ cl236.slots.size ≤ ((2 : Int32)).toNatClampNeg) := inb_of Sz236 ⟨by decide, by decide⟩
        obtain ⟨T237, h237, X237, e237, W237, st237⟩ := stB X233 hx hZ e233 Ar236 (j := (2 : Int32)) hin236 (g := (mkF m 110 #[.val (.int p0), .val (.int p1), .val (.int p2), .val (.int p3), .val (.int (1 : Int32)), .val (.int (0 : Int32)), .val (.int (0 : Int32)), .val (.ref b214), .val (.int (0 : Int32)), .val (.ref b217), .unset, .unset] [(.int (((p0 >>> ((16 : Int32) &&& 31)) &&& (255 : Int32)).toInt8.toInt32)), (.int (2 : Int32)), (.ref b214)])) rfl rfl (hb hby at_110)
        have V237 : own_AI Z h237 b214 .byte (7 : Int32) (own_upd (own_upd (own_upd (fun _ => 0) 0 (nar .byte ((p0 &&& (255 : Int32)).toInt8.toInt32))) 1 (nar .byte (((p0 >>> ((8 : Int32) &&& 31)) &&& (255 : Int32)).toInt8.toInt32))) 2 (nar .byte (((p0 >>> ((16 : Int32) &&& 31)) &&& (255 : Int32)).toInt8.toInt32))) := own_AI.set V233 (fits_nar_byte (((p0 >>> ((16 : Int32) &&& 31)) &&& (255 : Int32)).toInt8.toInt32)) W237
        have K238 : Keep h0 h237 [] := K234.wr W237 (Or.inr sz_b214)
        have Z239 : n0 ≤ h237.size := Nat.le_trans Z0 K238.1
        have N237 := Fr.snoc X237 N233 g_b214
        obtain ⟨LS237, X237, N237⟩ : ∃ L, Stand p l e room_1 s m #[(.int p0), (.int p1), (.int p2), (.int p3)] below meth c T237 L 3 74 ∧ Fr n0 L := ⟨_, X237, N237⟩
        obtain ⟨cl240, Ar240, Sz240, Nn240, Hs240⟩ := id V237
        have hin240 : ¬ ((3 : Int32) < 0 ∨ cl240.slots.size ≤ ((3 : Int32)).toNatClampNeg) := inb_of Sz240 ⟨by decide, by decide⟩
        obtain ⟨T241, h241, X241, e241, W241, st241⟩ := stB X237 hx hZ e237 Ar240 (j := (3 : Int32)) hin240 (g := (mkF m 126 #[.val (.int p0), .val (.int p1), .val (.int p2), .val (.int p3), .val (.int (1 : Int32)), .val (.int (0 : Int32)), .val (.int (0 : Int32)), .val (.ref b214), .val (.int (0 : Int32)), .val (.ref b217), .unset, .unset] [(.int (((p0 >>> ((24 : Int32) &&& 31)) &&& (255 : Int32)).toInt8.toInt32)), (.int (3 : Int32)), (.ref b214)])) rfl rfl (hb hby at_126)
        have V241 : own_AI Z h241 b214 .byte (7 : Int32) (own_upd (own_upd (own_upd (own_upd (fun _ => 0) 0 (nar .byte ((p0 &&& (255 : Int32)).toInt8.toInt32))) 1 (nar .byte (((p0 >>> ((8 : Int32) &&& 31)) &&& (255 : Int32)).toInt8.toInt32))) 2 (nar .byte (((p0 >>> ((16 : Int32) &&& 31)) &&& (255 : Int32)).toInt8.toInt32))) 3 (nar .byte (((p0 >>> ((24 : Int32) &&& 31)) &&& (255 : Int32)).toInt8.toInt32))) := own_AI.set V237 (fits_nar_byte (((p0 >>> ((24 : Int32) &&& 31)) &&& (255 : Int32)).toInt8.toInt32)) W241
        have K242 : Keep h0 h241 [] := K238.wr W241 (Or.inr sz_b214)
        have Z243 : n0 ≤ h241.size := Nat.le_trans Z0 K242.1
        have N241 := Fr.snoc X241 N237 g_b214
        obtain ⟨LS241, X241, N241⟩ : ∃ L, Stand p l e room_1 s m #[(.int p0), (.int p1), (.int p2), (.int p3)] below meth c T241 L 3 74 ∧ Fr n0 L := ⟨_, X241, N241⟩
        have pre244 : ∀ t, Steps p.tables e below (T241.setTop (mkF m 132 #[.val (.int p0), .val (.int p1), .val (.int p2), .val (.int p3), .val (.int (1 : Int32)), .val (.int (0 : Int32)), .val (.int (0 : Int32)), .val (.ref b214), .val (.int (4 : Int32)), .val (.ref b217), .unset, .unset] [(.int (0 : Int32))])) t → Steps p.tables e below (s₁.setTop (entryFrame m #[(.int p0), (.int p1), (.int p2), (.int p3)] maxLocals)) t := fun t kt => pre223 t (by
            show Steps p.tables e below (T220.setTop (mkF m 59 #[.val (.int p0), .val (.int p1), .val (.int p2), .val (.int p3), .val (.int (1 : Int32)), .val (.int (0 : Int32)), .val (.int (0 : Int32)), .val (.ref b214), .val (.int (0 : Int32)), .val (.ref b217), .unset, .unset] [(.int (1 : Int32))])) _
            refine XS.ifNo X220.here hx rfl (hb hby at_59) rfl ((if0 _ _).trans (feq (by decide : ¬ ((1 : Int32) = (0 : Int32)))).1) ?_
            show Steps p.tables e below (T220.setTop (mkF m 62 #[.val (.int p0), .val (.int p1), .val (.int p2), .val (.int p3), .val (.int (1 : Int32)), .val (.int (0 : Int32)), .val (.int (0 : Int32)), .val (.ref b214), .val (.int (0 : Int32)), .val (.ref b217), .unset, .unset] [])) _
            refine XS.aload X220.here hx rfl (hb hby at_62) rfl rfl ?_
            show Steps p.tables e below (T220.setTop (mkF m 64 #[.val (.int p0), .val (.int p1), .val (.int p2), .val (.int p3), .val (.int (1 : Int32)), .val (.int (0 : Int32)), .val (.int (0 : Int32)), .val (.ref b214), .val (.int (0 : Int32)), .val (.ref b217), .unset, .unset] [(.ref b217)])) _
            refine XS.iloadN X220.here hx rfl (hb hby at_64) rfl ?_
            show Steps p.tables e below (T220.setTop (mkF m 65 #[.val (.int p0), .val (.int p1), .val (.int p2), .val (.int p3), .val (.int (1 : Int32)), .val (.int (0 : Int32)), .val (.int (0 : Int32)), .val (.ref b214), .val (.int (0 : Int32)), .val (.ref b217), .unset, .unset] [(.int p0), (.ref b217)])) _
            refine st224.trans ?_
            show Steps p.tables e below (T224.setTop (mkF m 68 #[.val (.int p0), .val (.int p1), .val (.int p2), .val (.int p3), .val (.int (1 : Int32)), .val (.int (0 : Int32)), .val (.int (0 : Int32)), .val (.ref b214), .val (.int (0 : Int32)), .val (.ref b217), .unset, .unset] [])) _
            refine XS.aload X224.here hx rfl (hb hby at_68) rfl rfl ?_
            show Steps p.tables e below (T224.setTop (mkF m 70 #[.val (.int p0), .val (.int p1), .val (.int p2), .val (.int p3), .val (.int (1 : Int32)), .val (.int (0 : Int32)), .val (.int (0 : Int32)), .val (.ref b214), .val (.int (0 : Int32)), .val (.ref b217), .unset, .unset] [(.ref b214)])) _
            refine XS.iload X224.here hx rfl (hb hby at_70) rfl ?_
            show Steps p.tables e below (T224.setTop (mkF m 72 #[.val (.int p0), .val (.int p1), .val (.int p2), .val (.int p3), .val (.int (1 : Int32)), .val (.int (0 : Int32)), .val (.int (0 : Int32)), .val (.ref b214), .val (.int (0 : Int32)), .val (.ref b217), .unset, .unset] [(.int (0 : Int32)), (.ref b214)])) _
            refine XS.iloadN X224.here hx rfl (hb hby at_72) rfl ?_
            show Steps p.tables e below (T224.setTop (mkF m 73 #[.val (.int p0), .val (.int p1), .val (.int p2), .val (.int p3), .val (.int (1 : Int32)), .val (.int (0 : Int32)), .val (.int (0 : Int32)), .val (.ref b214), .val (.int (0 : Int32)), .val (.ref b217), .unset, .unset] [(.int p0), (.int (0 : Int32)), (.ref b214)])) _
            refine XS.sipush X224.here hx rfl (hb hby at_73) ?_
            show Steps p.tables e below (T224.setTop (mkF m 76 #[.val (.int p0), .val (.int p1), .val (.int p2), .val (.int p3), .val (.int (1 : Int32)), .val (.int (0 : Int32)), .val (.int (0 : Int32)), .val (.ref b214), .val (.int (0 : Int32)), .val (.ref b217), .unset, .unset] [(.int (255 : Int32)), (.int p0), (.int (0 : Int32)), (.ref b214)])) _
            refine XS.iand X224.here hx rfl (hb hby at_76) rfl ?_
            show Steps p.tables e below (T224.setTop (mkF m 77 #[.val (.int p0), .val (.int p1), .val (.int p2), .val (.int p3), .val (.int (1 : Int32)), .val (.int (0 : Int32)), .val (.int (0 : Int32)), .val (.ref b214), .val (.int (0 : Int32)), .val (.ref b217), .unset, .unset] [(.int (p0 &&& (255 : Int32))), (.int (0 : Int32)), (.ref b214)])) _
            refine XS.i2b X224.here hx rfl (hb hby at_77) rfl ?_
            show Steps p.tables e below (T224.setTop (mkF m 78 #[.val (.int p0), .val (.int p1), .val (.int p2), .val (.int p3), .val (.int (1 : Int32)), .val (.int (0 : Int32)), .val (.int (0 : Int32)), .val (.ref b214), .val (.int (0 : Int32)), .val (.ref b217), .unset, .unset] [(.int ((p0 &&& (255 : Int32)).toInt8.toInt32)), (.int (0 : Int32)), (.ref b214)])) _
            refine st229 _ ?_
            show Steps p.tables e below (T229.setTop (mkF m 79 #[.val (.int p0), .val (.int p1), .val (.int p2), .val (.int p3), .val (.int (1 : Int32)), .val (.int (0 : Int32)), .val (.int (0 : Int32)), .val (.ref b214), .val (.int (0 : Int32)), .val (.ref b217), .unset, .unset] [])) _
            refine XS.aload X229.here hx rfl (hb hby at_79) rfl rfl ?_
            show Steps p.tables e below (T229.setTop (mkF m 81 #[.val (.int p0), .val (.int p1), .val (.int p2), .val (.int p3), .val (.int (1 : Int32)), .val (.int (0 : Int32)), .val (.int (0 : Int32)), .val (.ref b214), .val (.int (0 : Int32)), .val (.ref b217), .unset, .unset] [(.ref b214)])) _
            refine XS.iload X229.here hx rfl (hb hby at_81) rfl ?_
            show Steps p.tables e below (T229.setTop (mkF m 83 #[.val (.int p0), .val (.int p1), .val (.int p2), .val (.int p3), .val (.int (1 : Int32)), .val (.int (0 : Int32)), .val (.int (0 : Int32)), .val (.ref b214), .val (.int (0 : Int32)), .val (.ref b217), .unset, .unset] [(.int (0 : Int32)), (.ref b214)])) _
            refine XS.iconst X229.here hx rfl (hb hby at_83) ?_
            show Steps p.tables e below (T229.setTop (mkF m 84 #[.val (.int p0), .val (.int p1), .val (.int p2), .val (.int p3), .val (.int (1 : Int32)), .val (.int (0 : Int32)), .val (.int (0 : Int32)), .val (.ref b214), .val (.int (0 : Int32)), .val (.ref b217), .unset, .unset] [(.int (1 : Int32)), (.int (0 : Int32)), (.ref b214)])) _
            refine XS.iadd X229.here hx rfl (hb hby at_84) rfl ?_
            show Steps p.tables e below (T229.setTop (mkF m 85 #[.val (.int p0), .val (.int p1), .val (.int p2), .val (.int p3), .val (.int (1 : Int32)), .val (.int (0 : Int32)), .val (.int (0 : Int32)), .val (.ref b214), .val (.int (0 : Int32)), .val (.ref b217), .unset, .unset] [(.int (1 : Int32)), (.ref b214)])) _
            refine XS.iloadN X229.here hx rfl (hb hby at_85) rfl ?_
            show Steps p.tables e below (T229.setTop (mkF m 86 #[.val (.int p0), .val (.int p1), .val (.int p2), .val (.int p3), .val (.int (1 : Int32)), .val (.int (0 : Int32)), .val (.int (0 : Int32)), .val (.ref b214), .val (.int (0 : Int32)), .val (.ref b217), .unset, .unset] [(.int p0), (.int (1 : Int32)), (.ref b214)])) _
            refine XS.bipush X229.here hx rfl (hb hby at_86) ?_
            show Steps p.tables e below (T229.setTop (mkF m 88 #[.val (.int p0), .val (.int p1), .val (.int p2), .val (.int p3), .val (.int (1 : Int32)), .val (.int (0 : Int32)), .val (.int (0 : Int32)), .val (.ref b214), .val (.int (0 : Int32)), .val (.ref b217), .unset, .unset] [(.int (8 : Int32)), (.int p0), (.int (1 : Int32)), (.ref b214)])) _
            refine XS.ishr X229.here hx rfl (hb hby at_88) rfl ?_
            show Steps p.tables e below (T229.setTop (mkF m 89 #[.val (.int p0), .val (.int p1), .val (.int p2), .val (.int p3), .val (.int (1 : Int32)), .val (.int (0 : Int32)), .val (.int (0 : Int32)), .val (.ref b214), .val (.int (0 : Int32)), .val (.ref b217), .unset, .unset] [(.int (p0 >>> ((8 : Int32) &&& 31))), (.int (1 : Int32)), (.ref b214)])) _
            refine XS.sipush X229.here hx rfl (hb hby at_89) ?_
            show Steps p.tables e below (T229.setTop (mkF m 92 #[.val (.int p0), .val (.int p1), .val (.int p2), .val (.int p3), .val (.int (1 : Int32)), .val (.int (0 : Int32)), .val (.int (0 : Int32)), .val (.ref b214), .val (.int (0 : Int32)), .val (.ref b217), .unset, .unset] [(.int (255 : Int32)), (.int (p0 >>> ((8 : Int32) &&& 31))), (.int (1 : Int32)), (.ref b214)])) _
            refine XS.iand X229.here hx rfl (hb hby at_92) rfl ?_
            show Steps p.tables e below (T229.setTop (mkF m 93 #[.val (.int p0), .val (.int p1), .val (.int p2), .val (.int p3), .val (.int (1 : Int32)), .val (.int (0 : Int32)), .val (.int (0 : Int32)), .val (.ref b214), .val (.int (0 : Int32)), .val (.ref b217), .unset, .unset] [(.int ((p0 >>> ((8 : Int32) &&& 31)) &&& (255 : Int32))), (.int (1 : Int32)), (.ref b214)])) _
            refine XS.i2b X229.here hx rfl (hb hby at_93) rfl ?_
            show Steps p.tables e below (T229.setTop (mkF m 94 #[.val (.int p0), .val (.int p1), .val (.int p2), .val (.int p3), .val (.int (1 : Int32)), .val (.int (0 : Int32)), .val (.int (0 : Int32)), .val (.ref b214), .val (.int (0 : Int32)), .val (.ref b217), .unset, .unset] [(.int (((p0 >>> ((8 : Int32) &&& 31)) &&& (255 : Int32)).toInt8.toInt32)), (.int (1 : Int32)), (.ref b214)])) _
            refine st233 _ ?_
            show Steps p.tables e below (T233.setTop (mkF m 95 #[.val (.int p0), .val (.int p1), .val (.int p2), .val (.int p3), .val (.int (1 : Int32)), .val (.int (0 : Int32)), .val (.int (0 : Int32)), .val (.ref b214), .val (.int (0 : Int32)), .val (.ref b217), .unset, .unset] [])) _
            refine XS.aload X233.here hx rfl (hb hby at_95) rfl rfl ?_
            show Steps p.tables e below (T233.setTop (mkF m 97 #[.val (.int p0), .val (.int p1), .val (.int p2), .val (.int p3), .val (.int (1 : Int32)), .val (.int (0 : Int32)), .val (.int (0 : Int32)), .val (.ref b214), .val (.int (0 : Int32)), .val (.ref b217), .unset, .unset] [(.ref b214)])) _
            refine XS.iload X233.here hx rfl (hb hby at_97) rfl ?_
            show Steps p.tables e below (T233.setTop (mkF m 99 #[.val (.int p0), .val (.int p1), .val (.int p2), .val (.int p3), .val (.int (1 : Int32)), .val (.int (0 : Int32)), .val (.int (0 : Int32)), .val (.ref b214), .val (.int (0 : Int32)), .val (.ref b217), .unset, .unset] [(.int (0 : Int32)), (.ref b214)])) _
            refine XS.iconst X233.here hx rfl (hb hby at_99) ?_
            show Steps p.tables e below (T233.setTop (mkF m 100 #[.val (.int p0), .val (.int p1), .val (.int p2), .val (.int p3), .val (.int (1 : Int32)), .val (.int (0 : Int32)), .val (.int (0 : Int32)), .val (.ref b214), .val (.int (0 : Int32)), .val (.ref b217), .unset, .unset] [(.int (2 : Int32)), (.int (0 : Int32)), (.ref b214)])) _
            refine XS.iadd X233.here hx rfl (hb hby at_100) rfl ?_
            show Steps p.tables e below (T233.setTop (mkF m 101 #[.val (.int p0), .val (.int p1), .val (.int p2), .val (.int p3), .val (.int (1 : Int32)), .val (.int (0 : Int32)), .val (.int (0 : Int32)), .val (.ref b214), .val (.int (0 : Int32)), .val (.ref b217), .unset, .unset] [(.int (2 : Int32)), (.ref b214)])) _
            refine XS.iloadN X233.here hx rfl (hb hby at_101) rfl ?_
            show Steps p.tables e below (T233.setTop (mkF m 102 #[.val (.int p0), .val (.int p1), .val (.int p2), .val (.int p3), .val (.int (1 : Int32)), .val (.int (0 : Int32)), .val (.int (0 : Int32)), .val (.ref b214), .val (.int (0 : Int32)), .val (.ref b217), .unset, .unset] [(.int p0), (.int (2 : Int32)), (.ref b214)])) _
            refine XS.bipush X233.here hx rfl (hb hby at_102) ?_
            show Steps p.tables e below (T233.setTop (mkF m 104 #[.val (.int p0), .val (.int p1), .val (.int p2), .val (.int p3), .val (.int (1 : Int32)), .val (.int (0 : Int32)), .val (.int (0 : Int32)), .val (.ref b214), .val (.int (0 : Int32)), .val (.ref b217), .unset, .unset] [(.int (16 : Int32)), (.int p0), (.int (2 : Int32)), (.ref b214)])) _
            refine XS.ishr X233.here hx rfl (hb hby at_104) rfl ?_
            show Steps p.tables e below (T233.setTop (mkF m 105 #[.val (.int p0), .val (.int p1), .val (.int p2), .val (.int p3), .val (.int (1 : Int32)), .val (.int (0 : Int32)), .val (.int (0 : Int32)), .val (.ref b214), .val (.int (0 : Int32)), .val (.ref b217), .unset, .unset] [(.int (p0 >>> ((16 : Int32) &&& 31))), (.int (2 : Int32)), (.ref b214)])) _
            refine XS.sipush X233.here hx rfl (hb hby at_105) ?_
            show Steps p.tables e below (T233.setTop (mkF m 108 #[.val (.int p0), .val (.int p1), .val (.int p2), .val (.int p3), .val (.int (1 : Int32)), .val (.int (0 : Int32)), .val (.int (0 : Int32)), .val (.ref b214), .val (.int (0 : Int32)), .val (.ref b217), .unset, .unset] [(.int (255 : Int32)), (.int (p0 >>> ((16 : Int32) &&& 31))), (.int (2 : Int32)), (.ref b214)])) _
            refine XS.iand X233.here hx rfl (hb hby at_108) rfl ?_
            show Steps p.tables e below (T233.setTop (mkF m 109 #[.val (.int p0), .val (.int p1), .val (.int p2), .val (.int p3), .val (.int (1 : Int32)), .val (.int (0 : Int32)), .val (.int (0 : Int32)), .val (.ref b214), .val (.int (0 : Int32)), .val (.ref b217), .unset, .unset] [(.int ((p0 >>> ((16 : Int32) &&& 31)) &&& (255 : Int32))), (.int (2 : Int32)), (.ref b214)])) _
            refine XS.i2b X233.here hx rfl (hb hby at_109) rfl ?_
            show Steps p.tables e below (T233.setTop (mkF m 110 #[.val (.int p0), .val (.int p1), .val (.int p2), .val (.int p3), .val (.int (1 : Int32)), .val (.int (0 : Int32)), .val (.int (0 : Int32)), .val (.ref b214), .val (.int (0 : Int32)), .val (.ref b217), .unset, .unset] [(.int (((p0 >>> ((16 : Int32) &&& 31)) &&& (255 : Int32)).toInt8.toInt32)), (.int (2 : Int32)), (.ref b214)])) _
            refine st237 _ ?_
            show Steps p.tables e below (T237.setTop (mkF m 111 #[.val (.int p0), .val (.int p1), .val (.int p2), .val (.int p3), .val (.int (1 : Int32)), .val (.int (0 : Int32)), .val (.int (0 : Int32)), .val (.ref b214), .val (.int (0 : Int32)), .val (.ref b217), .unset, .unset] [])) _
            refine XS.aload X237.here hx rfl (hb hby at_111) rfl rfl ?_
            show Steps p.tables e below (T237.setTop (mkF m 113 #[.val (.int p0), .val (.int p1), .val (.int p2), .val (.int p3), .val (.int (1 : Int32)), .val (.int (0 : Int32)), .val (.int (0 : Int32)), .val (.ref b214), .val (.int (0 : Int32)), .val (.ref b217), .unset, .unset] [(.ref b214)])) _
            refine XS.iload X237.here hx rfl (hb hby at_113) rfl ?_
            show Steps p.tables e below (T237.setTop (mkF m 115 #[.val (.int p0), .val (.int p1), .val (.int p2), .val (.int p3), .val (.int (1 : Int32)), .val (.int (0 : Int32)), .val (.int (0 : Int32)), .val (.ref b214), .val (.int (0 : Int32)), .val (.ref b217), .unset, .unset] [(.int (0 : Int32)), (.ref b214)])) _
            refine XS.iconst X237.here hx rfl (hb hby at_115) ?_
            show Steps p.tables e below (T237.setTop (mkF m 116 #[.val (.int p0), .val (.int p1), .val (.int p2), .val (.int p3), .val (.int (1 : Int32)), .val (.int (0 : Int32)), .val (.int (0 : Int32)), .val (.ref b214), .val (.int (0 : Int32)), .val (.ref b217), .unset, .unset] [(.int (3 : Int32)), (.int (0 : Int32)), (.ref b214)])) _
            refine XS.iadd X237.here hx rfl (hb hby at_116) rfl ?_
            show Steps p.tables e below (T237.setTop (mkF m 117 #[.val (.int p0), .val (.int p1), .val (.int p2), .val (.int p3), .val (.int (1 : Int32)), .val (.int (0 : Int32)), .val (.int (0 : Int32)), .val (.ref b214), .val (.int (0 : Int32)), .val (.ref b217), .unset, .unset] [(.int (3 : Int32)), (.ref b214)])) _
            refine XS.iloadN X237.here hx rfl (hb hby at_117) rfl ?_
            show Steps p.tables e below (T237.setTop (mkF m 118 #[.val (.int p0), .val (.int p1), .val (.int p2), .val (.int p3), .val (.int (1 : Int32)), .val (.int (0 : Int32)), .val (.int (0 : Int32)), .val (.ref b214), .val (.int (0 : Int32)), .val (.ref b217), .unset, .unset] [(.int p0), (.int (3 : Int32)), (.ref b214)])) _
            refine XS.bipush X237.here hx rfl (hb hby at_118) ?_
            show Steps p.tables e below (T237.setTop (mkF m 120 #[.val (.int p0), .val (.int p1), .val (.int p2), .val (.int p3), .val (.int (1 : Int32)), .val (.int (0 : Int32)), .val (.int (0 : Int32)), .val (.ref b214), .val (.int (0 : Int32)), .val (.ref b217), .unset, .unset] [(.int (24 : Int32)), (.int p0), (.int (3 : Int32)), (.ref b214)])) _
            refine XS.ishr X237.here hx rfl (hb hby at_120) rfl ?_
            show Steps p.tables e below (T237.setTop (mkF m 121 #[.val (.int p0), .val (.int p1), .val (.int p2), .val (.int p3), .val (.int (1 : Int32)), .val (.int (0 : Int32)), .val (.int (0 : Int32)), .val (.ref b214), .val (.int (0 : Int32)), .val (.ref b217), .unset, .unset] [(.int (p0 >>> ((24 : Int32) &&& 31))), (.int (3 : Int32)), (.ref b214)])) _
            refine XS.sipush X237.here hx rfl (hb hby at_121) ?_
            show Steps p.tables e below (T237.setTop (mkF m 124 #[.val (.int p0), .val (.int p1), .val (.int p2), .val (.int p3), .val (.int (1 : Int32)), .val (.int (0 : Int32)), .val (.int (0 : Int32)), .val (.ref b214), .val (.int (0 : Int32)), .val (.ref b217), .unset, .unset] [(.int (255 : Int32)), (.int (p0 >>> ((24 : Int32) &&& 31))), (.int (3 : Int32)), (.ref b214)])) _
            refine XS.iand X237.here hx rfl (hb hby at_124) rfl ?_
            show Steps p.tables e below (T237.setTop (mkF m 125 #[.val (.int p0), .val (.int p1), .val (.int p2), .val (.int p3), .val (.int (1 : Int32)), .val (.int (0 : Int32)), .val (.int (0 : Int32)), .val (.ref b214), .val (.int (0 : Int32)), .val (.ref b217), .unset, .unset] [(.int ((p0 >>> ((24 : Int32) &&& 31)) &&& (255 : Int32))), (.int (3 : Int32)), (.ref b214)])) _
            refine XS.i2b X237.here hx rfl (hb hby at_125) rfl ?_
            show Steps p.tables e below (T237.setTop (mkF m 126 #[.val (.int p0), .val (.int p1), .val (.int p2), .val (.int p3), .val (.int (1 : Int32)), .val (.int (0 : Int32)), .val (.int (0 : Int32)), .val (.ref b214), .val (.int (0 : Int32)), .val (.ref b217), .unset, .unset] [(.int (((p0 >>> ((24 : Int32) &&& 31)) &&& (255 : Int32)).toInt8.toInt32)), (.int (3 : Int32)), (.ref b214)])) _
            refine st241 _ ?_
            show Steps p.tables e below (T241.setTop (mkF m 127 #[.val (.int p0), .val (.int p1), .val (.int p2), .val (.int p3), .val (.int (1 : Int32)), .val (.int (0 : Int32)), .val (.int (0 : Int32)), .val (.ref b214), .val (.int (0 : Int32)), .val (.ref b217), .unset, .unset] [])) _
            refine XS.iinc X241.here hx rfl (hb hby at_127) rfl (l' := #[.val (.int p0), .val (.int p1), .val (.int p2), .val (.int p3), .val (.int (1 : Int32)), .val (.int (0 : Int32)), .val (.int (0 : Int32)), .val (.ref b214), .val (.int (4 : Int32)), .val (.ref b217), .unset, .unset]) rfl ?_
            show Steps p.tables e below (T241.setTop (mkF m 130 #[.val (.int p0), .val (.int p1), .val (.int p2), .val (.int p3), .val (.int (1 : Int32)), .val (.int (0 : Int32)), .val (.int (0 : Int32)), .val (.ref b214), .val (.int (4 : Int32)), .val (.ref b217), .unset, .unset] [])) _
            refine XS.iload X241.here hx rfl (hb hby at_130) rfl ?_
            exact kt)
        have pre245 : ∀ t, Steps p.tables e below (T241.setTop (mkF m 174 #[.val (.int p0), .val (.int p1), .val (.int p2), .val (.int p3), .val (.int (1 : Int32)), .val (.int (0 : Int32)), .val (.int (0 : Int32)), .val (.ref b214), .val (.int (4 : Int32)), .val (.ref b217), .unset, .unset] [(.int (0 : Int32))])) t → Steps p.tables e below (s₁.setTop (entryFrame m #[(.int p0), (.int p1), (.int p2), (.int p3)] maxLocals)) t := fun t kt => pre244 t (by
            show Steps p.tables e below (T241.setTop (mkF m 132 #[.val (.int p0), .val (.int p1), .val (.int p2), .val (.int p3), .val (.int (1 : Int32)), .val (.int (0 : Int32)), .val (.int (0 : Int32)), .val (.ref b214), .val (.int (4 : Int32)), .val (.ref b217), .unset, .unset] [(.int (0 : Int32))])) _
            refine XS.ifYes X241.here hx rfl (pc0 := 132) (pc' := 172) rfl (hb hby at_132) rfl ((if0 _ _).trans (teq (by decide : ((0 : Int32) = (0 : Int32)))).1) (by decide) (by decide) ?_
            show Steps p.tables e below (T241.setTop (mkF m 172 #[.val (.int p0), .val (.int p1), .val (.int p2), .val (.int p3), .val (.int (1 : Int32)), .val (.int (0 : Int32)), .val (.int (0 : Int32)), .val (.ref b214), .val (.int (4 : Int32)), .val (.ref b217), .unset, .unset] [])) _
            refine XS.iload X241.here hx rfl (hb hby at_172) rfl ?_
            exact kt)
        have c247 := ((((G224_1.other W229 (Or.inl (Ne.symm ne_b214_b217))).other W233 (Or.inl (Ne.symm ne_b214_b217))).other W237 (Or.inl (Ne.symm ne_b214_b217))).other W241 (Or.inl (Ne.symm ne_b214_b217)))
        have c248 := ((((G224_2.other W229 (Or.inl (Ne.symm ne_b214_b217))).other W233 (Or.inl (Ne.symm ne_b214_b217))).other W237 (Or.inl (Ne.symm ne_b214_b217))).other W241 (Or.inl (Ne.symm ne_b214_b217)))
        have c249 := ((((G224_0.other W229 (Ne.symm ne_b214_r_o0_bytes_220)).other W233 (Ne.symm ne_b214_r_o0_bytes_220)).other W237 (Ne.symm ne_b214_r_o0_bytes_220)).other W241 (Ne.symm ne_b214_r_o0_bytes_220))
        have c250 := ((((((E_b217.keep K220q).keep K224q).wr W229).wr W233).wr W237).wr W241)
        obtain ⟨cq246, kq246, q246a, q246b, q246c⟩ := isOf hZ e241 c250
        obtain ⟨_, _, ⟨T246, L246, k246, n246⟩, -, X246, ⟨Lc246, hQ246, l246, y246, z246⟩, st246⟩ := X241.virtualBack hx (y := (⟨"com/example/corvid/corvid/ByteWriter", "toByteArray", "()[B"⟩ : MethodName)) (z := (⟨"com/example/corvid/corvid/ByteWriter", "toByteArray", "()[B"⟩ : MethodName)) hown (mvT hZ (hw _ (List.mem_of_getElem? (i := 29) rfl))) (mvT hZ (hw _ (List.mem_of_getElem? (i := 30) rfl))) (notFace_of_selects (args := #[]) (mvT hZ (hw _ (List.mem_of_getElem? (i := 32) rfl)))) (mvT hZ (hw _ (List.mem_of_getElem? (i := 32) rfl))) (mvT hZ (hw _ (List.mem_of_getElem? (i := 31) rfl))) (by decide) (backOf (W := 0) (rm6 l Z a0 hw [] b217 ((0 : Int32) + (4 : Int32)) r_o0_bytes_220 (f3_r1_a p0 (0 : Int32) (fun _ => 0)) h241 n0 Z243 c247 c248 c249 (by decide)) hZ (hw _ (List.mem_of_getElem? (i := 33) rfl)) (hw _ (List.mem_of_getElem? (i := 3) rfl)) (by decide) (by decide)) q246a q246c (g := (mkF m 204 #[.val (.int p0), .val (.int p1), .val (.int p2), .val (.int p3), .val (.int (1 : Int32)), .val (.int (0 : Int32)), .val (.int (0 : Int32)), .val (.ref b214), .val (.int (4 : Int32)), .val (.ref b217), .unset, .unset] [(.ref b217)])) rfl (by rw [hml]; rfl) (Steps.refl _) (argsL := []) (rest := []) (lenOf pd_0_1 rfl) rfl (by show 2 * 0 + _ ≤ _; exact Nat.le_of_eq rfl) (hb hby at_204) (fun _ _ => ⟨rfl, e241, (by decide : 3 + 1 ≤ _), (by decide : 74 + 16 ≤ _)⟩)
        dsimp only [Pt.U, Pt.locs, Pt.cells, Pt.slots] at X246 l246 y246 z246 st246 hQ246
        subst l246 y246 z246
        obtain ⟨b_246, rfl, N246q, K246q, g_b_246, szq_b_246, G246_0⟩ := hQ246
        have N246 := Fr.app N241 N246q
        have ne_b214_b_246 : b214 ≠ b_246 := Nat.ne_of_lt (Nat.lt_of_lt_of_le V241.lt szq_b_246)
        have ne_b217_b_246 : b217 ≠ b_246 := Nat.ne_of_lt (Nat.lt_of_lt_of_le c250.lt szq_b_246)
        have ne_r_o0_bytes_220_b_246 : r_o0_bytes_220 ≠ b_246 := Nat.ne_of_lt (Nat.lt_of_lt_of_le c249.lt szq_b_246)
        have sz_b_246 : h0.size ≤ b_246 := Nat.le_trans K242.1 szq_b_246
        have K251 : Keep h0 T246.heap [] := K242.trans K246q all0
        have Z252 : n0 ≤ T246.heap.size := Nat.le_trans Z0 K251.1
        obtain ⟨LS246, X246, N246⟩ : ∃ L, Stand p l e room_1 s m #[(.int p0), (.int p1), (.int p2), (.int p3)] below meth c T246 L 4 90 ∧ Fr n0 L := ⟨_, X246, N246⟩
        obtain ⟨cl253, Ar253, Sz253, Nn253, -⟩ := id G246_0
        have pre254 : ∀ t, Steps p.tables e below (T246.setTop (mkF m 214 #[.val (.int p0), .val (.int p1), .val (.int p2), .val (.int p3), .val (.int (1 : Int32)), .val (.int (0 : Int32)), .val (.int (0 : Int32)), .val (.ref b214), .val (.int (4 : Int32)), .val (.ref b217), .val (.ref b_246), .unset] [(.int (4 : Int32)), (.int ((0 : Int32) + (4 : Int32)))])) t → Steps p.tables e below (s₁.setTop (entryFrame m #[(.int p0), (.int p1), (.int p2), (.int p3)] maxLocals)) t := fun t kt => pre245 t (by
            show Steps p.tables e below (T241.setTop (mkF m 174 #[.val (.int p0), .val (.int p1), .val (.int p2), .val (.int p3), .val (.int (1 : Int32)), .val (.int (0 : Int32)), .val (.int (0 : Int32)), .val (.ref b214), .val (.int (4 : Int32)), .val (.ref b217), .unset, .unset] [(.int (0 : Int32))])) _
            refine XS.ifYes X241.here hx rfl (pc0 := 174) (pc' := 202) rfl (hb hby at_174) rfl ((if0 _ _).trans (teq (by decide : ((0 : Int32) = (0 : Int32)))).1) (by decide) (by decide) ?_
            show Steps p.tables e below (T241.setTop (mkF m 202 #[.val (.int p0), .val (.int p1), .val (.int p2), .val (.int p3), .val (.int (1 : Int32)), .val (.int (0 : Int32)), .val (.int (0 : Int32)), .val (.ref b214), .val (.int (4 : Int32)), .val (.ref b217), .unset, .unset] [])) _
            refine XS.aload X241.here hx rfl (hb hby at_202) rfl rfl ?_
            show Steps p.tables e below (T241.setTop (mkF m 204 #[.val (.int p0), .val (.int p1), .val (.int p2), .val (.int p3), .val (.int (1 : Int32)), .val (.int (0 : Int32)), .val (.int (0 : Int32)), .val (.ref b214), .val (.int (4 : Int32)), .val (.ref b217), .unset, .unset] [(.ref b217)])) _
            refine st246.trans ?_
            show Steps p.tables e below (T246.setTop (mkF m 207 #[.val (.int p0), .val (.int p1), .val (.int p2), .val (.int p3), .val (.int (1 : Int32)), .val (.int (0 : Int32)), .val (.int (0 : Int32)), .val (.ref b214), .val (.int (4 : Int32)), .val (.ref b217), .unset, .unset] [(.ref b_246)])) _
            refine XS.astore X246.here hx rfl (hb hby at_207) rfl rfl (l' := #[.val (.int p0), .val (.int p1), .val (.int p2), .val (.int p3), .val (.int (1 : Int32)), .val (.int (0 : Int32)), .val (.int (0 : Int32)), .val (.ref b214), .val (.int (4 : Int32)), .val (.ref b217), .val (.ref b_246), .unset]) rfl ?_
            show Steps p.tables e below (T246.setTop (mkF m 209 #[.val (.int p0), .val (.int p1), .val (.int p2), .val (.int p3), .val (.int (1 : Int32)), .val (.int (0 : Int32)), .val (.int (0 : Int32)), .val (.ref b214), .val (.int (4 : Int32)), .val (.ref b217), .val (.ref b_246), .unset] [])) _
            refine XS.aload X246.here hx rfl (hb hby at_209) rfl rfl ?_
            show Steps p.tables e below (T246.setTop (mkF m 211 #[.val (.int p0), .val (.int p1), .val (.int p2), .val (.int p3), .val (.int (1 : Int32)), .val (.int (0 : Int32)), .val (.int (0 : Int32)), .val (.ref b214), .val (.int (4 : Int32)), .val (.ref b217), .val (.ref b_246), .unset] [(.ref b_246)])) _
            refine X246.arraylength hx Ar253.1 (State.isArrayOf_alike hZ.alike Ar253.2.1) (g := (mkF m 211 #[.val (.int p0), .val (.int p1), .val (.int p2), .val (.int p3), .val (.int (1 : Int32)), .val (.int (0 : Int32)), .val (.int (0 : Int32)), .val (.ref b214), .val (.int (4 : Int32)), .val (.ref b217), .val (.ref b_246), .unset] [(.ref b_246)])) rfl rfl (hb hby at_211) _ ?_
            rw [len_of Sz253 Nn253]
            show Steps p.tables e below (T246.setTop (mkF m 212 #[.val (.int p0), .val (.int p1), .val (.int p2), .val (.int p3), .val (.int (1 : Int32)), .val (.int (0 : Int32)), .val (.int (0 : Int32)), .val (.ref b214), .val (.int (4 : Int32)), .val (.ref b217), .val (.ref b_246), .unset] [(.int ((0 : Int32) + (4 : Int32)))])) _
            refine XS.iload X246.here hx rfl (hb hby at_212) rfl ?_
            exact kt)
        have hd214_255 : ((0 : Int32) + (4 : Int32)) = (4 : Int32) := by decide
        obtain ⟨_, _, ⟨T256, L256, k256, n256⟩, -, X256, ⟨Lc256, hQ256, l256, y256, z256⟩, st256⟩ := Jvm.LawKit.callS X246 hx (y := (⟨"com/example/corvid/corvid/ByteWriterToByteArrayPinLaw", "same", "([B[BI)Z"⟩ : MethodName)) hown (mvT hZ (hw _ (List.mem_of_getElem? (i := 45) rfl))) (mvT hZ (hw _ (List.mem_of_getElem? (i := 46) rfl))) (mvT hZ (hw _ (List.mem_of_getElem? (i := 47) rfl))) (mvT hZ (hw _ (List.mem_of_getElem? (i := 48) rfl))) (by decide) (backOf (W := 0) (rm9 l Z a0 hw [] b_246 b214 (4 : Int32) ((0 : Int32) + (4 : Int32)) (f3_r1_a p0 (0 : Int32) (fun _ => 0)) (7 : Int32) (own_upd (own_upd (own_upd (own_upd (fun _ => 0) 0 (nar .byte ((p0 &&& (255 : Int32)).toInt8.toInt32))) 1 (nar .byte (((p0 >>> ((8 : Int32) &&& 31)) &&& (255 : Int32)).toInt8.toInt32))) 2 (nar .byte (((p0 >>> ((16 : Int32) &&& 31)) &&& (255 : Int32)).toInt8.toInt32))) 3 (nar .byte (((p0 >>> ((24 : Int32) &&& 31)) &&& (255 : Int32)).toInt8.toInt32))) T246.heap n0 Z252 G246_0 (V241.keep K246q nin0) (by decide)) hZ (hw _ (List.mem_of_getElem? (i := 48) rfl)) (hw _ (List.mem_of_getElem? (i := 47) rfl)) (by decide) (by decide)) (g := (mkF m 225 #[.val (.int p0), .val (.int p1), .val (.int p2), .val (.int p3), .val (.int (1 : Int32)), .val (.int (0 : Int32)), .val (.int (0 : Int32)), .val (.ref b214), .val (.int (4 : Int32)), .val (.ref b217), .val (.ref b_246), .unset] [(.int (4 : Int32)), (.ref b214), (.ref b_246)])) rfl (by rw [hml]; rfl) (argsL := [(.ref b_246), (.ref b214), (.int (4 : Int32))]) (rest := []) (lenOf pd_0_2 rfl) rfl (by show 2 * 0 + _ ≤ _; exact Nat.le_of_eq rfl) (hb hby at_225) (fun _ _ => ⟨rfl, rfl, (by decide : 4 + 0 ≤ _), (by decide : 90 + 0 ≤ _)⟩)
        dsimp only [Pt.U, Pt.locs, Pt.cells, Pt.slots] at X256 l256 y256 z256 st256 hQ256
        subst l256 y256 z256
        obtain ⟨rfl, N256q, e256q⟩ := hQ256
        have N256 := Fr.app N246 N256q
        have pre257 : ∀ t, Steps p.tables e below (T256.setTop (mkF m 228 #[.val (.int p0), .val (.int p1), .val (.int p2), .val (.int p3), .val (.int (1 : Int32)), .val (.int (0 : Int32)), .val (.int (0 : Int32)), .val (.ref b214), .val (.int (4 : Int32)), .val (.ref b217), .val (.ref b_246), .unset] [(.int (f9 (4 : Int32) (f3_r1_a p0 (0 : Int32) (fun _ => 0)) (own_upd (own_upd (own_upd (own_upd (fun _ => 0) 0 (nar .byte ((p0 &&& (255 : Int32)).toInt8.toInt32))) 1 (nar .byte (((p0 >>> ((8 : Int32) &&& 31)) &&& (255 : Int32)).toInt8.toInt32))) 2 (nar .byte (((p0 >>> ((16 : Int32) &&& 31)) &&& (255 : Int32)).toInt8.toInt32))) 3 (nar .byte (((p0 >>> ((24 : Int32) &&& 31)) &&& (255 : Int32)).toInt8.toInt32)))))])) t → Steps p.tables e below (s₁.setTop (entryFrame m #[(.int p0), (.int p1), (.int p2), (.int p3)] maxLocals)) t := fun t kt => pre254 t (by
            show Steps p.tables e below (T246.setTop (mkF m 214 #[.val (.int p0), .val (.int p1), .val (.int p2), .val (.int p3), .val (.int (1 : Int32)), .val (.int (0 : Int32)), .val (.int (0 : Int32)), .val (.ref b214), .val (.int (4 : Int32)), .val (.ref b217), .val (.ref b_246), .unset] [(.int (4 : Int32)), (.int ((0 : Int32) + (4 : Int32)))])) _
            refine XS.icmpYes X246.here hx rfl (pc0 := 214) (pc' := 219) rfl (hb hby at_214) rfl (teq hd214_255).1 (by decide) (by decide) ?_
            show Steps p.tables e below (T246.setTop (mkF m 219 #[.val (.int p0), .val (.int p1), .val (.int p2), .val (.int p3), .val (.int (1 : Int32)), .val (.int (0 : Int32)), .val (.int (0 : Int32)), .val (.ref b214), .val (.int (4 : Int32)), .val (.ref b217), .val (.ref b_246), .unset] [])) _
            refine XS.aload X246.here hx rfl (hb hby at_219) rfl rfl ?_
            show Steps p.tables e below (T246.setTop (mkF m 221 #[.val (.int p0), .val (.int p1), .val (.int p2), .val (.int p3), .val (.int (1 : Int32)), .val (.int (0 : Int32)), .val (.int (0 : Int32)), .val (.ref b214), .val (.int (4 : Int32)), .val (.ref b217), .val (.ref b_246), .unset] [(.ref b_246)])) _
            refine XS.aload X246.here hx rfl (hb hby at_221) rfl rfl ?_
            show Steps p.tables e below (T246.setTop (mkF m 223 #[.val (.int p0), .val (.int p1), .val (.int p2), .val (.int p3), .val (.int (1 : Int32)), .val (.int (0 : Int32)), .val (.int (0 : Int32)), .val (.ref b214), .val (.int (4 : Int32)), .val (.ref b217), .val (.ref b_246), .unset] [(.ref b214), (.ref b_246)])) _
            refine XS.iload X246.here hx rfl (hb hby at_223) rfl ?_
            show Steps p.tables e below (T246.setTop (mkF m 225 #[.val (.int p0), .val (.int p1), .val (.int p2), .val (.int p3), .val (.int (1 : Int32)), .val (.int (0 : Int32)), .val (.int (0 : Int32)), .val (.ref b214), .val (.int (4 : Int32)), .val (.ref b217), .val (.ref b_246), .unset] [(.int (4 : Int32)), (.ref b214), (.ref b_246)])) _
            refine st256 _ ?_
            exact kt)
        have hd228_258 : ¬ ((f9 (4 : Int32) (f3_r1_a p0 (0 : Int32) (fun _ => 0)) (own_upd (own_upd (own_upd (own_upd (fun _ => 0) 0 (nar .byte ((p0 &&& (255 : Int32)).toInt8.toInt32))) 1 (nar .byte (((p0 >>> ((8 : Int32) &&& 31)) &&& (255 : Int32)).toInt8.toInt32))) 2 (nar .byte (((p0 >>> ((16 : Int32) &&& 31)) &&& (255 : Int32)).toInt8.toInt32))) 3 (nar .byte (((p0 >>> ((24 : Int32) &&& 31)) &&& (255 : Int32)).toInt8.toInt32)))) = (0 : Int32)) := own_sm _ _ _ (own_pf100 p0 p1 p2)
        have pre259 : ∀ t, Steps p.tables e below (T256.setTop (mkF m 235 #[.val (.int p0), .val (.int p1), .val (.int p2), .val (.int p3), .val (.int (1 : Int32)), .val (.int (0 : Int32)), .val (.int (0 : Int32)), .val (.ref b214), .val (.int (4 : Int32)), .val (.ref b217), .val (.ref b_246), .unset] [(.int (4 : Int32))])) t → Steps p.tables e below (s₁.setTop (entryFrame m #[(.int p0), (.int p1), (.int p2), (.int p3)] maxLocals)) t := fun t kt => pre257 t (by
            show Steps p.tables e below (T256.setTop (mkF m 228 #[.val (.int p0), .val (.int p1), .val (.int p2), .val (.int p3), .val (.int (1 : Int32)), .val (.int (0 : Int32)), .val (.int (0 : Int32)), .val (.ref b214), .val (.int (4 : Int32)), .val (.ref b217), .val (.ref b_246), .unset] [(.int (f9 (4 : Int32) (f3_r1_a p0 (0 : Int32) (fun _ => 0)) (own_upd (own_upd (own_upd (own_upd (fun _ => 0) 0 (nar .byte ((p0 &&& (255 : Int32)).toInt8.toInt32))) 1 (nar .byte (((p0 >>> ((8 : Int32) &&& 31)) &&& (255 : Int32)).toInt8.toInt32))) 2 (nar .byte (((p0 >>> ((16 : Int32) &&& 31)) &&& (255 : Int32)).toInt8.toInt32))) 3 (nar .byte (((p0 >>> ((24 : Int32) &&& 31)) &&& (255 : Int32)).toInt8.toInt32)))))])) _
            refine XS.ifYes X256.here hx rfl (pc0 := 228) (pc' := 233) rfl (hb hby at_228) rfl ((if0 _ _).trans (feq hd228_258).2) (by decide) (by decide) ?_
            show Steps p.tables e below (T256.setTop (mkF m 233 #[.val (.int p0), .val (.int p1), .val (.int p2), .val (.int p3), .val (.int (1 : Int32)), .val (.int (0 : Int32)), .val (.int (0 : Int32)), .val (.ref b214), .val (.int (4 : Int32)), .val (.ref b217), .val (.ref b_246), .unset] [])) _
            refine XS.iload X256.here hx rfl (hb hby at_233) rfl ?_
            exact kt)
        obtain ⟨cl260, Ar260, Sz260, Nn260, Hs260⟩ := id G246_0
        have hin260 : ¬ ((0 : Int32) < 0 ∨ cl260.slots.size ≤ ((0 : Int32)).toNatClampNeg) := inb_of Sz260 ⟨by decide, by decide⟩
        have hat260 : cl260.slots[((0 : Int32)).toNatClampNeg]? = some (.int ((f3_r1_a p0 (0 : Int32) (fun _ => 0)) 0)) := (Hs260 _ (own_lt hin260)).1
        obtain ⟨cl261, Ar261, Sz261, Nn261, Hs261⟩ := id G246_0
        have hin261 : ¬ ((0 : Int32) < 0 ∨ cl261.slots.size ≤ ((0 : Int32)).toNatClampNeg) := inb_of Sz261 ⟨by decide, by decide⟩
        obtain ⟨T262, h262, X262, e262, W262, st262⟩ := stB X256 hx hZ e256q Ar261 (j := (0 : Int32)) hin261 (g := (mkF m 249 #[.val (.int p0), .val (.int p1), .val (.int p2), .val (.int p3), .val (.int (1 : Int32)), .val (.int (0 : Int32)), .val (.int (0 : Int32)), .val (.ref b214), .val (.int (4 : Int32)), .val (.ref b217), .val (.ref b_246), .unset] [(.int ((((f3_r1_a p0 (0 : Int32) (fun _ => 0)) 0) ^^^ (90 : Int32)).toInt8.toInt32)), (.int (0 : Int32)), (.ref b_246)])) rfl rfl (hb hby at_249)
        have V262 : own_AI Z h262 b_246 .byte ((0 : Int32) + (4 : Int32)) (own_upd (f3_r1_a p0 (0 : Int32) (fun _ => 0)) 0 (nar .byte ((((f3_r1_a p0 (0 : Int32) (fun _ => 0)) 0) ^^^ (90 : Int32)).toInt8.toInt32))) := own_AI.set G246_0 (fits_nar_byte ((((f3_r1_a p0 (0 : Int32) (fun _ => 0)) 0) ^^^ (90 : Int32)).toInt8.toInt32)) W262
        have K263 : Keep h0 h262 [] := K251.wr W262 (Or.inr sz_b_246)
        have Z264 : n0 ≤ h262.size := Nat.le_trans Z0 K263.1
        have N262 := Fr.snoc X262 N256 g_b_246
        obtain ⟨LS262, X262, N262⟩ : ∃ L, Stand p l e room_1 s m #[(.int p0), (.int p1), (.int p2), (.int p3)] below meth c T262 L 4 90 ∧ Fr n0 L := ⟨_, X262, N262⟩
        obtain ⟨cq265, kq265, q265a, q265b, q265c⟩ := isOf hZ e262 ((c250.keep K246q).wr W262)
        obtain ⟨_, _, ⟨T265, L265, k265, n265⟩, -, X265, ⟨Lc265, hQ265, l265, y265, z265⟩, st265⟩ := X262.virtualBack hx (y := (⟨"com/example/corvid/corvid/ByteWriter", "toByteArray", "()[B"⟩ : MethodName)) (z := (⟨"com/example/corvid/corvid/ByteWriter", "toByteArray", "()[B"⟩ : MethodName)) hown (mvT hZ (hw _ (List.mem_of_getElem? (i := 29) rfl))) (mvT hZ (hw _ (List.mem_of_getElem? (i := 30) rfl))) (notFace_of_selects (args := #[]) (mvT hZ (hw _ (List.mem_of_getElem? (i := 32) rfl)))) (mvT hZ (hw _ (List.mem_of_getElem? (i := 32) rfl))) (mvT hZ (hw _ (List.mem_of_getElem? (i := 31) rfl))) (by decide) (backOf (W := 0) (rm6 l Z a0 hw [] b217 ((0 : Int32) + (4 : Int32)) r_o0_bytes_220 (f3_r1_a p0 (0 : Int32) (fun _ => 0)) h262 n0 Z264 ((c247.keep K246q nin0).other W262 (Or.inl ne_b217_b_246)) ((c248.keep K246q nin0).other W262 (Or.inl ne_b217_b_246)) ((c249.keep K246q nin0).other W262 ne_r_o0_bytes_220_b_246) (by decide)) hZ (hw _ (List.mem_of_getElem? (i := 33) rfl)) (hw _ (List.mem_of_getElem? (i := 3) rfl)) (by decide) (by decide)) q265a q265c (g := (mkF m 252 #[.val (.int p0), .val (.int p1), .val (.int p2), .val (.int p3), .val (.int (1 : Int32)), .val (.int (0 : Int32)), .val (.int (0 : Int32)), .val (.ref b214), .val (.int (4 : Int32)), .val (.ref b217), .val (.ref b_246), .unset] [(.ref b217)])) rfl (by rw [hml]; rfl) (Steps.refl _) (argsL := []) (rest := []) (lenOf pd_0_1 rfl) rfl (by show 2 * 0 + _ ≤ _; exact Nat.le_of_eq rfl) (hb hby at_252) (fun _ _ => ⟨rfl, e262, (by decide : 4 + 1 ≤ _), (by decide : 90 + 16 ≤ _)⟩)
        dsimp only [Pt.U, Pt.locs, Pt.cells, Pt.slots] at X265 l265 y265 z265 st265 hQ265
        subst l265 y265 z265
        obtain ⟨b_265, rfl, N265q, K265q, g_b_265, szq_b_265, G265_0⟩ := hQ265
        have N265 := Fr.app N262 N265q
        have ne_b214_b_265 : b214 ≠ b_265 := Nat.ne_of_lt (Nat.lt_of_lt_of_le ((V241.keep K246q nin0).other W262 ne_b214_b_246).lt szq_b_265)
        have ne_b217_b_265 : b217 ≠ b_265 := Nat.ne_of_lt (Nat.lt_of_lt_of_le ((c250.keep K246q).wr W262).lt szq_b_265)
        have ne_r_o0_bytes_220_b_265 : r_o0_bytes_220 ≠ b_265 := Nat.ne_of_lt (Nat.lt_of_lt_of_le ((c249.keep K246q nin0).other W262 ne_r_o0_bytes_220_b_246).lt szq_b_265)
        have ne_b_246_b_265 : b_246 ≠ b_265 := Nat.ne_of_lt (Nat.lt_of_lt_of_le V262.lt szq_b_265)
        have sz_b_265 : h0.size ≤ b_265 := Nat.le_trans K263.1 szq_b_265
        have K266 : Keep h0 T265.heap [] := K263.trans K265q all0
        have Z267 : n0 ≤ T265.heap.size := Nat.le_trans Z0 K266.1
        obtain ⟨LS265, X265, N265⟩ : ∃ L, Stand p l e room_1 s m #[(.int p0), (.int p1), (.int p2), (.int p3)] below meth c T265 L 5 106 ∧ Fr n0 L := ⟨_, X265, N265⟩
        have pre268 : ∀ t, Steps p.tables e below (T265.setTop (mkF m 261 #[.val (.int p0), .val (.int p1), .val (.int p2), .val (.int p3), .val (.int (1 : Int32)), .val (.int (0 : Int32)), .val (.int (0 : Int32)), .val (.ref b214), .val (.int (4 : Int32)), .val (.ref b217), .val (.ref b_246), .val (.ref b_265)] [(.ref b_246), (.ref b_265)])) t → Steps p.tables e below (s₁.setTop (entryFrame m #[(.int p0), (.int p1), (.int p2), (.int p3)] maxLocals)) t := fun t kt => pre259 t (by
            show Steps p.tables e below (T256.setTop (mkF m 235 #[.val (.int p0), .val (.int p1), .val (.int p2), .val (.int p3), .val (.int (1 : Int32)), .val (.int (0 : Int32)), .val (.int (0 : Int32)), .val (.ref b214), .val (.int (4 : Int32)), .val (.ref b217), .val (.ref b_246), .unset] [(.int (4 : Int32))])) _
            refine XS.ifNo X256.here hx rfl (hb hby at_235) rfl ((if0 _ _).trans (tlt (by decide : ((0 : Int32) < (4 : Int32)))).2.2.2) ?_
            show Steps p.tables e below (T256.setTop (mkF m 238 #[.val (.int p0), .val (.int p1), .val (.int p2), .val (.int p3), .val (.int (1 : Int32)), .val (.int (0 : Int32)), .val (.int (0 : Int32)), .val (.ref b214), .val (.int (4 : Int32)), .val (.ref b217), .val (.ref b_246), .unset] [])) _
            refine XS.aload X256.here hx rfl (hb hby at_238) rfl rfl ?_
            show Steps p.tables e below (T256.setTop (mkF m 240 #[.val (.int p0), .val (.int p1), .val (.int p2), .val (.int p3), .val (.int (1 : Int32)), .val (.int (0 : Int32)), .val (.int (0 : Int32)), .val (.ref b214), .val (.int (4 : Int32)), .val (.ref b217), .val (.ref b_246), .unset] [(.ref b_246)])) _
            refine XS.iconst X256.here hx rfl (hb hby at_240) ?_
            show Steps p.tables e below (T256.setTop (mkF m 241 #[.val (.int p0), .val (.int p1), .val (.int p2), .val (.int p3), .val (.int (1 : Int32)), .val (.int (0 : Int32)), .val (.int (0 : Int32)), .val (.ref b214), .val (.int (4 : Int32)), .val (.ref b217), .val (.ref b_246), .unset] [(.int (0 : Int32)), (.ref b_246)])) _
            refine XS.aload X256.here hx rfl (hb hby at_241) rfl rfl ?_
            show Steps p.tables e below (T256.setTop (mkF m 243 #[.val (.int p0), .val (.int p1), .val (.int p2), .val (.int p3), .val (.int (1 : Int32)), .val (.int (0 : Int32)), .val (.int (0 : Int32)), .val (.ref b214), .val (.int (4 : Int32)), .val (.ref b217), .val (.ref b_246), .unset] [(.ref b_246), (.int (0 : Int32)), (.ref b_246)])) _
            refine XS.iconst X256.here hx rfl (hb hby at_243) ?_
            show Steps p.tables e below (T256.setTop (mkF m 244 #[.val (.int p0), .val (.int p1), .val (.int p2), .val (.int p3), .val (.int (1 : Int32)), .val (.int (0 : Int32)), .val (.int (0 : Int32)), .val (.ref b214), .val (.int (4 : Int32)), .val (.ref b217), .val (.ref b_246), .unset] [(.int (0 : Int32)), (.ref b_246), (.int (0 : Int32)), (.ref b_246)])) _
            refine X256.baloadBytes hx (j := (0 : Int32)) (v := (.int ((f3_r1_a p0 (0 : Int32) (fun _ => 0)) 0))) (by rw [e256q]; exact Ar260.1) (State.isArrayOf_alike hZ.alike Ar260.2.1) Ar260.2.2 hin260 hat260 (g := (mkF m 244 #[.val (.int p0), .val (.int p1), .val (.int p2), .val (.int p3), .val (.int (1 : Int32)), .val (.int (0 : Int32)), .val (.int (0 : Int32)), .val (.ref b214), .val (.int (4 : Int32)), .val (.ref b217), .val (.ref b_246), .unset] [(.int (0 : Int32)), (.ref b_246), (.int (0 : Int32)), (.ref b_246)])) rfl rfl (hb hby at_244) _ ?_
            show Steps p.tables e below (T256.setTop (mkF m 245 #[.val (.int p0), .val (.int p1), .val (.int p2), .val (.int p3), .val (.int (1 : Int32)), .val (.int (0 : Int32)), .val (.int (0 : Int32)), .val (.ref b214), .val (.int (4 : Int32)), .val (.ref b217), .val (.ref b_246), .unset] [(.int ((f3_r1_a p0 (0 : Int32) (fun _ => 0)) 0)), (.int (0 : Int32)), (.ref b_246)])) _
            refine XS.bipush X256.here hx rfl (hb hby at_245) ?_
            show Steps p.tables e below (T256.setTop (mkF m 247 #[.val (.int p0), .val (.int p1), .val (.int p2), .val (.int p3), .val (.int (1 : Int32)), .val (.int (0 : Int32)), .val (.int (0 : Int32)), .val (.ref b214), .val (.int (4 : Int32)), .val (.ref b217), .val (.ref b_246), .unset] [(.int (90 : Int32)), (.int ((f3_r1_a p0 (0 : Int32) (fun _ => 0)) 0)), (.int (0 : Int32)), (.ref b_246)])) _
            refine XS.ixor X256.here hx rfl (hb hby at_247) rfl ?_
            show Steps p.tables e below (T256.setTop (mkF m 248 #[.val (.int p0), .val (.int p1), .val (.int p2), .val (.int p3), .val (.int (1 : Int32)), .val (.int (0 : Int32)), .val (.int (0 : Int32)), .val (.ref b214), .val (.int (4 : Int32)), .val (.ref b217), .val (.ref b_246), .unset] [(.int (((f3_r1_a p0 (0 : Int32) (fun _ => 0)) 0) ^^^ (90 : Int32))), (.int (0 : Int32)), (.ref b_246)])) _
            refine XS.i2b X256.here hx rfl (hb hby at_248) rfl ?_
            show Steps p.tables e below (T256.setTop (mkF m 249 #[.val (.int p0), .val (.int p1), .val (.int p2), .val (.int p3), .val (.int (1 : Int32)), .val (.int (0 : Int32)), .val (.int (0 : Int32)), .val (.ref b214), .val (.int (4 : Int32)), .val (.ref b217), .val (.ref b_246), .unset] [(.int ((((f3_r1_a p0 (0 : Int32) (fun _ => 0)) 0) ^^^ (90 : Int32)).toInt8.toInt32)), (.int (0 : Int32)), (.ref b_246)])) _
            refine st262 _ ?_
            show Steps p.tables e below (T262.setTop (mkF m 250 #[.val (.int p0), .val (.int p1), .val (.int p2), .val (.int p3), .val (.int (1 : Int32)), .val (.int (0 : Int32)), .val (.int (0 : Int32)), .val (.ref b214), .val (.int (4 : Int32)), .val (.ref b217), .val (.ref b_246), .unset] [])) _
            refine XS.aload X262.here hx rfl (hb hby at_250) rfl rfl ?_
            show Steps p.tables e below (T262.setTop (mkF m 252 #[.val (.int p0), .val (.int p1), .val (.int p2), .val (.int p3), .val (.int (1 : Int32)), .val (.int (0 : Int32)), .val (.int (0 : Int32)), .val (.ref b214), .val (.int (4 : Int32)), .val (.ref b217), .val (.ref b_246), .unset] [(.ref b217)])) _
            refine st265.trans ?_
            show Steps p.tables e below (T265.setTop (mkF m 255 #[.val (.int p0), .val (.int p1), .val (.int p2), .val (.int p3), .val (.int (1 : Int32)), .val (.int (0 : Int32)), .val (.int (0 : Int32)), .val (.ref b214), .val (.int (4 : Int32)), .val (.ref b217), .val (.ref b_246), .unset] [(.ref b_265)])) _
            refine XS.astore X265.here hx rfl (hb hby at_255) rfl rfl (l' := #[.val (.int p0), .val (.int p1), .val (.int p2), .val (.int p3), .val (.int (1 : Int32)), .val (.int (0 : Int32)), .val (.int (0 : Int32)), .val (.ref b214), .val (.int (4 : Int32)), .val (.ref b217), .val (.ref b_246), .val (.ref b_265)]) rfl ?_
            show Steps p.tables e below (T265.setTop (mkF m 257 #[.val (.int p0), .val (.int p1), .val (.int p2), .val (.int p3), .val (.int (1 : Int32)), .val (.int (0 : Int32)), .val (.int (0 : Int32)), .val (.ref b214), .val (.int (4 : Int32)), .val (.ref b217), .val (.ref b_246), .val (.ref b_265)] [])) _
            refine XS.aload X265.here hx rfl (hb hby at_257) rfl rfl ?_
            show Steps p.tables e below (T265.setTop (mkF m 259 #[.val (.int p0), .val (.int p1), .val (.int p2), .val (.int p3), .val (.int (1 : Int32)), .val (.int (0 : Int32)), .val (.int (0 : Int32)), .val (.ref b214), .val (.int (4 : Int32)), .val (.ref b217), .val (.ref b_246), .val (.ref b_265)] [(.ref b_265)])) _
            refine XS.aload X265.here hx rfl (hb hby at_259) rfl rfl ?_
            exact kt)
        obtain ⟨cl269, Ar269, Sz269, Nn269, -⟩ := id G265_0
        have pre270 : ∀ t, Steps p.tables e below (T265.setTop (mkF m 269 #[.val (.int p0), .val (.int p1), .val (.int p2), .val (.int p3), .val (.int (1 : Int32)), .val (.int (0 : Int32)), .val (.int (0 : Int32)), .val (.ref b214), .val (.int (4 : Int32)), .val (.ref b217), .val (.ref b_246), .val (.ref b_265)] [(.int (4 : Int32)), (.int ((0 : Int32) + (4 : Int32)))])) t → Steps p.tables e below (s₁.setTop (entryFrame m #[(.int p0), (.int p1), (.int p2), (.int p3)] maxLocals)) t := fun t kt => pre268 t (by
            show Steps p.tables e below (T265.setTop (mkF m 261 #[.val (.int p0), .val (.int p1), .val (.int p2), .val (.int p3), .val (.int (1 : Int32)), .val (.int (0 : Int32)), .val (.int (0 : Int32)), .val (.ref b214), .val (.int (4 : Int32)), .val (.ref b217), .val (.ref b_246), .val (.ref b_265)] [(.ref b_246), (.ref b_265)])) _
            refine Jvm.RoadKit.acmp (g := (mkF m 261 #[.val (.int p0), .val (.int p1), .val (.int p2), .val (.int p3), .val (.int (1 : Int32)), .val (.int (0 : Int32)), .val (.int (0 : Int32)), .val (.ref b214), .val (.int (4 : Int32)), .val (.ref b217), .val (.ref b_246), .val (.ref b_265)] [(.ref b_246), (.ref b_265)])) X265 hx rfl rfl rfl (pc0 := 261) (pc' := 264) (same := false) rfl (hb hby at_261) rfl (decide_eq_false fun q => (Ne.symm ne_b_246_b_265) (Value.ref.inj q)) (by decide) (by decide) ?_
            show Steps p.tables e below (T265.setTop (mkF m 264 #[.val (.int p0), .val (.int p1), .val (.int p2), .val (.int p3), .val (.int (1 : Int32)), .val (.int (0 : Int32)), .val (.int (0 : Int32)), .val (.ref b214), .val (.int (4 : Int32)), .val (.ref b217), .val (.ref b_246), .val (.ref b_265)] [])) _
            refine XS.aload X265.here hx rfl (hb hby at_264) rfl rfl ?_
            show Steps p.tables e below (T265.setTop (mkF m 266 #[.val (.int p0), .val (.int p1), .val (.int p2), .val (.int p3), .val (.int (1 : Int32)), .val (.int (0 : Int32)), .val (.int (0 : Int32)), .val (.ref b214), .val (.int (4 : Int32)), .val (.ref b217), .val (.ref b_246), .val (.ref b_265)] [(.ref b_265)])) _
            refine X265.arraylength hx Ar269.1 (State.isArrayOf_alike hZ.alike Ar269.2.1) (g := (mkF m 266 #[.val (.int p0), .val (.int p1), .val (.int p2), .val (.int p3), .val (.int (1 : Int32)), .val (.int (0 : Int32)), .val (.int (0 : Int32)), .val (.ref b214), .val (.int (4 : Int32)), .val (.ref b217), .val (.ref b_246), .val (.ref b_265)] [(.ref b_265)])) rfl rfl (hb hby at_266) _ ?_
            rw [len_of Sz269 Nn269]
            show Steps p.tables e below (T265.setTop (mkF m 267 #[.val (.int p0), .val (.int p1), .val (.int p2), .val (.int p3), .val (.int (1 : Int32)), .val (.int (0 : Int32)), .val (.int (0 : Int32)), .val (.ref b214), .val (.int (4 : Int32)), .val (.ref b217), .val (.ref b_246), .val (.ref b_265)] [(.int ((0 : Int32) + (4 : Int32)))])) _
            refine XS.iload X265.here hx rfl (hb hby at_267) rfl ?_
            exact kt)
        have hd269_271 : ((0 : Int32) + (4 : Int32)) = (4 : Int32) := by decide
        have c273 := (((V241.keep K246q nin0).other W262 ne_b214_b_246).keep K265q nin0)
        obtain ⟨_, _, ⟨T272, L272, k272, n272⟩, -, X272, ⟨Lc272, hQ272, l272, y272, z272⟩, st272⟩ := Jvm.LawKit.callS X265 hx (y := (⟨"com/example/corvid/corvid/ByteWriterToByteArrayPinLaw", "same", "([B[BI)Z"⟩ : MethodName)) hown (mvT hZ (hw _ (List.mem_of_getElem? (i := 45) rfl))) (mvT hZ (hw _ (List.mem_of_getElem? (i := 46) rfl))) (mvT hZ (hw _ (List.mem_of_getElem? (i := 47) rfl))) (mvT hZ (hw _ (List.mem_of_getElem? (i := 48) rfl))) (by decide) (backOf (W := 0) (rm9 l Z a0 hw [] b_265 b214 (4 : Int32) ((0 : Int32) + (4 : Int32)) (f3_r1_a p0 (0 : Int32) (fun _ => 0)) (7 : Int32) (own_upd (own_upd (own_upd (own_upd (fun _ => 0) 0 (nar .byte ((p0 &&& (255 : Int32)).toInt8.toInt32))) 1 (nar .byte (((p0 >>> ((8 : Int32) &&& 31)) &&& (255 : Int32)).toInt8.toInt32))) 2 (nar .byte (((p0 >>> ((16 : Int32) &&& 31)) &&& (255 : Int32)).toInt8.toInt32))) 3 (nar .byte (((p0 >>> ((24 : Int32) &&& 31)) &&& (255 : Int32)).toInt8.toInt32))) T265.heap n0 Z267 G265_0 c273 (by decide)) hZ (hw _ (List.mem_of_getElem? (i := 48) rfl)) (hw _ (List.mem_of_getElem? (i := 47) rfl)) (by decide) (by decide)) (g := (mkF m 278 #[.val (.int p0), .val (.int p1), .val (.int p2), .val (.int p3), .val (.int (1 : Int32)), .val (.int (0 : Int32)), .val (.int (0 : Int32)), .val (.ref b214), .val (.int (4 : Int32)), .val (.ref b217), .val (.ref b_246), .val (.ref b_265)] [(.int (4 : Int32)), (.ref b214), (.ref b_265)])) rfl (by rw [hml]; rfl) (argsL := [(.ref b_265), (.ref b214), (.int (4 : Int32))]) (rest := []) (lenOf pd_0_2 rfl) rfl (by show 2 * 0 + _ ≤ _; exact Nat.le_of_eq rfl) (hb hby at_278) (fun _ _ => ⟨rfl, rfl, (by decide : 5 + 0 ≤ _), (by decide : 106 + 0 ≤ _)⟩)
        dsimp only [Pt.U, Pt.locs, Pt.cells, Pt.slots] at X272 l272 y272 z272 st272 hQ272
        subst l272 y272 z272
        obtain ⟨rfl, N272q, e272q⟩ := hQ272
        have N272 := Fr.app N265 N272q
        have pre274 : ∀ t, Steps p.tables e below (T272.setTop (mkF m 281 #[.val (.int p0), .val (.int p1), .val (.int p2), .val (.int p3), .val (.int (1 : Int32)), .val (.int (0 : Int32)), .val (.int (0 : Int32)), .val (.ref b214), .val (.int (4 : Int32)), .val (.ref b217), .val (.ref b_246), .val (.ref b_265)] [(.int (f9 (4 : Int32) (f3_r1_a p0 (0 : Int32) (fun _ => 0)) (own_upd (own_upd (own_upd (own_upd (fun _ => 0) 0 (nar .byte ((p0 &&& (255 : Int32)).toInt8.toInt32))) 1 (nar .byte (((p0 >>> ((8 : Int32) &&& 31)) &&& (255 : Int32)).toInt8.toInt32))) 2 (nar .byte (((p0 >>> ((16 : Int32) &&& 31)) &&& (255 : Int32)).toInt8.toInt32))) 3 (nar .byte (((p0 >>> ((24 : Int32) &&& 31)) &&& (255 : Int32)).toInt8.toInt32)))))])) t → Steps p.tables e below (s₁.setTop (entryFrame m #[(.int p0), (.int p1), (.int p2), (.int p3)] maxLocals)) t := fun t kt => pre270 t (by
            show Steps p.tables e below (T265.setTop (mkF m 269 #[.val (.int p0), .val (.int p1), .val (.int p2), .val (.int p3), .val (.int (1 : Int32)), .val (.int (0 : Int32)), .val (.int (0 : Int32)), .val (.ref b214), .val (.int (4 : Int32)), .val (.ref b217), .val (.ref b_246), .val (.ref b_265)] [(.int (4 : Int32)), (.int ((0 : Int32) + (4 : Int32)))])) _
            refine XS.icmpNo X265.here hx rfl (hb hby at_269) rfl (teq hd269_271).2 ?_
            show Steps p.tables e below (T265.setTop (mkF m 272 #[.val (.int p0), .val (.int p1), .val (.int p2), .val (.int p3), .val (.int (1 : Int32)), .val (.int (0 : Int32)), .val (.int (0 : Int32)), .val (.ref b214), .val (.int (4 : Int32)), .val (.ref b217), .val (.ref b_246), .val (.ref b_265)] [])) _
            refine XS.aload X265.here hx rfl (hb hby at_272) rfl rfl ?_
            show Steps p.tables e below (T265.setTop (mkF m 274 #[.val (.int p0), .val (.int p1), .val (.int p2), .val (.int p3), .val (.int (1 : Int32)), .val (.int (0 : Int32)), .val (.int (0 : Int32)), .val (.ref b214), .val (.int (4 : Int32)), .val (.ref b217), .val (.ref b_246), .val (.ref b_265)] [(.ref b_265)])) _
            refine XS.aload X265.here hx rfl (hb hby at_274) rfl rfl ?_
            show Steps p.tables e below (T265.setTop (mkF m 276 #[.val (.int p0), .val (.int p1), .val (.int p2), .val (.int p3), .val (.int (1 : Int32)), .val (.int (0 : Int32)), .val (.int (0 : Int32)), .val (.ref b214), .val (.int (4 : Int32)), .val (.ref b217), .val (.ref b_246), .val (.ref b_265)] [(.ref b214), (.ref b_265)])) _
            refine XS.iload X265.here hx rfl (hb hby at_276) rfl ?_
            show Steps p.tables e below (T265.setTop (mkF m 278 #[.val (.int p0), .val (.int p1), .val (.int p2), .val (.int p3), .val (.int (1 : Int32)), .val (.int (0 : Int32)), .val (.int (0 : Int32)), .val (.ref b214), .val (.int (4 : Int32)), .val (.ref b217), .val (.ref b_246), .val (.ref b_265)] [(.int (4 : Int32)), (.ref b214), (.ref b_265)])) _
            refine st272 _ ?_
            exact kt)
        have hd281_275 : ¬ ((f9 (4 : Int32) (f3_r1_a p0 (0 : Int32) (fun _ => 0)) (own_upd (own_upd (own_upd (own_upd (fun _ => 0) 0 (nar .byte ((p0 &&& (255 : Int32)).toInt8.toInt32))) 1 (nar .byte (((p0 >>> ((8 : Int32) &&& 31)) &&& (255 : Int32)).toInt8.toInt32))) 2 (nar .byte (((p0 >>> ((16 : Int32) &&& 31)) &&& (255 : Int32)).toInt8.toInt32))) 3 (nar .byte (((p0 >>> ((24 : Int32) &&& 31)) &&& (255 : Int32)).toInt8.toInt32)))) = (0 : Int32)) := own_sm _ _ _ (own_pf100 p0 p1 p2)
        obtain ⟨fs, hr, hrun, hended, hW, hsame⟩ := X272.leave (v := some (.int (1 : Int32))) (fun h => by rw [Bd.returns] at h; cases h)
        have hv521 : (1 : Int32) = (1 : Int32) := rfl
        refine ⟨_, _, pre274 _ ?_, hrun, hended, _, _, rfl, ?_, ⟨_, rfl⟩, hW, hsame.mono (by decide) (by decide)⟩
        · show Steps p.tables e below (T272.setTop (mkF m 281 #[.val (.int p0), .val (.int p1), .val (.int p2), .val (.int p3), .val (.int (1 : Int32)), .val (.int (0 : Int32)), .val (.int (0 : Int32)), .val (.ref b214), .val (.int (4 : Int32)), .val (.ref b217), .val (.ref b_246), .val (.ref b_265)] [(.int (f9 (4 : Int32) (f3_r1_a p0 (0 : Int32) (fun _ => 0)) (own_upd (own_upd (own_upd (own_upd (fun _ => 0) 0 (nar .byte ((p0 &&& (255 : Int32)).toInt8.toInt32))) 1 (nar .byte (((p0 >>> ((8 : Int32) &&& 31)) &&& (255 : Int32)).toInt8.toInt32))) 2 (nar .byte (((p0 >>> ((16 : Int32) &&& 31)) &&& (255 : Int32)).toInt8.toInt32))) 3 (nar .byte (((p0 >>> ((24 : Int32) &&& 31)) &&& (255 : Int32)).toInt8.toInt32)))))])) _
          refine XS.ifNo X272.here hx rfl (hb hby at_281) rfl ((if0 _ _).trans (feq hd281_275).1) ?_
          show Steps p.tables e below (T272.setTop (mkF m 284 #[.val (.int p0), .val (.int p1), .val (.int p2), .val (.int p3), .val (.int (1 : Int32)), .val (.int (0 : Int32)), .val (.int (0 : Int32)), .val (.ref b214), .val (.int (4 : Int32)), .val (.ref b217), .val (.ref b_246), .val (.ref b_265)] [])) _
          refine XS.iconst X272.here hx rfl (hb hby at_284) ?_
          show Steps p.tables e below (T272.setTop (mkF m 285 #[.val (.int p0), .val (.int p1), .val (.int p2), .val (.int p3), .val (.int (1 : Int32)), .val (.int (0 : Int32)), .val (.int (0 : Int32)), .val (.ref b214), .val (.int (4 : Int32)), .val (.ref b217), .val (.ref b_246), .val (.ref b_265)] [(.int (1 : Int32))])) _
          refine XS.goto X272.here hx rfl (pc0 := 285) (pc' := 289) rfl (hb hby at_285) (by decide) (by decide) ?_
          show Steps p.tables e below (T272.setTop (mkF m 289 #[.val (.int p0), .val (.int p1), .val (.int p2), .val (.int p3), .val (.int (1 : Int32)), .val (.int (0 : Int32)), .val (.int (0 : Int32)), .val (.ref b214), .val (.int (4 : Int32)), .val (.ref b217), .val (.ref b_246), .val (.ref b_265)] [(.int (1 : Int32))])) _
          exact retN X272 hx (t := .boolean) Bd.returns (by simp) (hb hby at_289) hr
        · show Q0 Z p0 p1 p2 p3 h0 n0 _ T272.heap _
          rw [e272q]
          exact ⟨congrArg (fun q => some (Value.int q)) hv521, N272⟩
      · obtain ⟨T276, h276, k276, X276, e276, E276, A276, st276⟩ := newP X0 hx hZ (hw _ (List.mem_of_getElem? (i := 0) rfl)) e0 (g := (mkF m 41 #[.val (.int p0), .val (.int p1), .val (.int p2), .val (.int p3), .val (.int (1 : Int32)), .val (.int (0 : Int32)), .val (.int (1 : Int32)), .unset, .unset, .unset, .unset, .unset] [(.int (7 : Int32))])) rfl (hb hby at_41) rfl (by decide) (cap := 7) (by decide) (by decide) (by decide) (by decide)
        obtain ⟨b276, g276⟩ : ∃ z, z = h0.size := ⟨_, rfl⟩
        rw [← g276] at A276 st276
        have g_b276 : n0 ≤ b276 := Nat.le_trans Z0 (Nat.le_of_eq g276.symm)
        have sz_b276 : h0.size ≤ b276 := Nat.le_trans (Keep.refl h0 []).1 (Nat.le_of_eq g276.symm)
        have K277 : Keep h0 h276 [] := (Keep.refl h0 []).ext E276
        have Z278 : n0 ≤ h276.size := Nat.le_trans Z0 K277.1
        have V_b276 : own_AI Z h276 b276 .byte (7 : Int32) (fun _ => 0) := own_AI.new A276 (by decide) rfl
        obtain ⟨T279, h279, X279, e279, E279, A279, D279, -, st279⟩ := newO X276 hx hZ hown (hw _ (List.mem_of_getElem? (i := 1) rfl)) (hw _ (List.mem_of_getElem? (i := 2) rfl)) (hw _ (List.mem_of_getElem? (i := 3) rfl)) e276 (g := (mkF m 48 #[.val (.int p0), .val (.int p1), .val (.int p2), .val (.int p3), .val (.int (1 : Int32)), .val (.int (0 : Int32)), .val (.int (1 : Int32)), .val (.ref b276), .val (.int (0 : Int32)), .unset, .unset, .unset] [])) rfl (hb hby at_48) (by decide) (by decide)
        obtain ⟨b279, g279⟩ : ∃ z, z = h276.size := ⟨_, rfl⟩
        rw [← g279] at A279 D279 st279
        have g_b279 : n0 ≤ b279 := Nat.le_trans Z278 (Nat.le_of_eq g279.symm)
        have sz_b279 : h0.size ≤ b279 := Nat.le_trans K277.1 (Nat.le_of_eq g279.symm)
        have ne_b276_b279 : b276 ≠ b279 := Nat.ne_of_lt (Nat.lt_of_lt_of_le V_b276.lt (Nat.le_of_eq g279.symm))
        have K280 : Keep h0 h279 [] := K277.ext E279
        have Z281 : n0 ≤ h279.size := Nat.le_trans Z0 K280.1
        have E_b279 := A279
        have F_bytes_b279 : Fld Z h279 b279 "com/example/corvid/corvid/ByteWriter" "bytes" "[B" .null := D279 (Or.inl (hw _ (List.mem_of_getElem? (i := 11) rfl))) (ty := (.array .byte)) (by decide)
        have F_encapsulationStart_b279 : Fld Z h279 b279 "com/example/corvid/corvid/ByteWriter" "encapsulationStart" "I" (.int (0 : Int32)) := D279 (Or.inl (hw _ (List.mem_of_getElem? (i := 13) rfl))) (ty := .int) (by decide)
        have F_length_b279 : Fld Z h279 b279 "com/example/corvid/corvid/ByteWriter" "length" "I" (.int (0 : Int32)) := D279 (Or.inl (hw _ (List.mem_of_getElem? (i := 24) rfl))) (ty := .int) (by decide)
        obtain ⟨_, _, ⟨T282, L282, k282, n282⟩, -, X282, ⟨Lc282, hQ282, l282, y282, z282⟩, st282⟩ := X279.specialBack hx (y := (⟨"com/example/corvid/corvid/ByteWriter", "<init>", "()V"⟩ : MethodName)) rfl hown (mvT hZ (hw _ (List.mem_of_getElem? (i := 4) rfl))) (mvT hZ (hw _ (List.mem_of_getElem? (i := 5) rfl))) (mvT hZ (hw _ (List.mem_of_getElem? (i := 6) rfl))) (by decide) (backOf (W := 1) (rm1 l Z a0 hw [] b279 (0 : Int32) (0 : Int32) h279 n0 Z281 E_b279 F_length_b279 F_bytes_b279 g_b279 F_encapsulationStart_b279) hZ (hw _ (List.mem_of_getElem? (i := 6) rfl)) (hw _ (List.mem_of_getElem? (i := 3) rfl)) (by decide) (by decide)) (g := (mkF m 52 #[.val (.int p0), .val (.int p1), .val (.int p2), .val (.int p3), .val (.int (1 : Int32)), .val (.int (0 : Int32)), .val (.int (1 : Int32)), .val (.ref b276), .val (.int (0 : Int32)), .unset, .unset, .unset] [(.ref b279), (.ref b279)])) rfl (by rw [hml]; rfl) (Steps.refl _) (a := b279) (argsL := []) (rest := [(.ref b279)]) (lenOf pd_0_0 rfl) rfl (by show 2 * 0 + _ ≤ _; exact Nat.le_of_eq rfl) (hb hby at_52) (fun _ _ => ⟨rfl, e279, (by decide : 2 + 1 ≤ _), (by decide : 10 + 64 ≤ _)⟩)
        dsimp only [Pt.U, Pt.locs, Pt.cells, Pt.slots] at X282 l282 y282 z282 st282 hQ282
        subst l282 y282 z282
        obtain ⟨r_o0_bytes_282, rfl, N282q, K282q, g_r_o0_bytes_282, szq_r_o0_bytes_282, G282_0, G282_1, G282_2, G282_3⟩ := hQ282
        have N282 := Fr.app N0 N282q
        have ne_b276_r_o0_bytes_282 : b276 ≠ r_o0_bytes_282 := Nat.ne_of_lt (Nat.lt_of_lt_of_le (V_b276.ext E279).lt szq_r_o0_bytes_282)
        have ne_b279_r_o0_bytes_282 : b279 ≠ r_o0_bytes_282 := Nat.ne_of_lt (Nat.lt_of_lt_of_le E_b279.lt szq_r_o0_bytes_282)
        have sz_r_o0_bytes_282 : h0.size ≤ r_o0_bytes_282 := Nat.le_trans K280.1 szq_r_o0_bytes_282
        have K283 : Keep h0 T282.heap [] := K280.trans K282q (allS (Or.inr sz_b279) all0)
        have Z284 : n0 ≤ T282.heap.size := Nat.le_trans Z0 K283.1
        obtain ⟨LS282, X282, N282⟩ : ∃ L, Stand p l e room_1 s m #[(.int p0), (.int p1), (.int p2), (.int p3)] below meth c T282 L 3 74 ∧ Fr n0 L := ⟨_, X282, N282⟩
        have pre285 : ∀ t, Steps p.tables e below (T282.setTop (mkF m 59 #[.val (.int p0), .val (.int p1), .val (.int p2), .val (.int p3), .val (.int (1 : Int32)), .val (.int (0 : Int32)), .val (.int (1 : Int32)), .val (.ref b276), .val (.int (0 : Int32)), .val (.ref b279), .unset, .unset] [(.int (1 : Int32))])) t → Steps p.tables e below (s₁.setTop (entryFrame m #[(.int p0), (.int p1), (.int p2), (.int p3)] maxLocals)) t := fun t kt => pre212 t (by
            show Steps p.tables e below (s₁.setTop (mkF m 29 #[.val (.int p0), .val (.int p1), .val (.int p2), .val (.int p3), .val (.int (1 : Int32)), .val (.int (0 : Int32)), .unset, .unset, .unset, .unset, .unset, .unset] [(.int (p3 &&& (4 : Int32)))])) _
            refine XS.ifNo X0.here hx rfl (hb hby at_29) rfl ((if0 _ _).trans (feq hc29_213).1) ?_
            show Steps p.tables e below (s₁.setTop (mkF m 32 #[.val (.int p0), .val (.int p1), .val (.int p2), .val (.int p3), .val (.int (1 : Int32)), .val (.int (0 : Int32)), .unset, .unset, .unset, .unset, .unset, .unset] [])) _
            refine XS.iconst X0.here hx rfl (hb hby at_32) ?_
            show Steps p.tables e below (s₁.setTop (mkF m 33 #[.val (.int p0), .val (.int p1), .val (.int p2), .val (.int p3), .val (.int (1 : Int32)), .val (.int (0 : Int32)), .unset, .unset, .unset, .unset, .unset, .unset] [(.int (1 : Int32))])) _
            refine XS.goto X0.here hx rfl (pc0 := 33) (pc' := 37) rfl (hb hby at_33) (by decide) (by decide) ?_
            show Steps p.tables e below (s₁.setTop (mkF m 37 #[.val (.int p0), .val (.int p1), .val (.int p2), .val (.int p3), .val (.int (1 : Int32)), .val (.int (0 : Int32)), .unset, .unset, .unset, .unset, .unset, .unset] [(.int (1 : Int32))])) _
            refine XS.istore X0.here hx rfl (hb hby at_37) rfl (l' := #[.val (.int p0), .val (.int p1), .val (.int p2), .val (.int p3), .val (.int (1 : Int32)), .val (.int (0 : Int32)), .val (.int (1 : Int32)), .unset, .unset, .unset, .unset, .unset]) rfl ?_
            show Steps p.tables e below (s₁.setTop (mkF m 39 #[.val (.int p0), .val (.int p1), .val (.int p2), .val (.int p3), .val (.int (1 : Int32)), .val (.int (0 : Int32)), .val (.int (1 : Int32)), .unset, .unset, .unset, .unset, .unset] [])) _
            refine XS.bipush X0.here hx rfl (hb hby at_39) ?_
            show Steps p.tables e below (s₁.setTop (mkF m 41 #[.val (.int p0), .val (.int p1), .val (.int p2), .val (.int p3), .val (.int (1 : Int32)), .val (.int (0 : Int32)), .val (.int (1 : Int32)), .unset, .unset, .unset, .unset, .unset] [(.int (7 : Int32))])) _
            refine st276 _ ?_
            show Steps p.tables e below (T276.setTop (mkF m 43 #[.val (.int p0), .val (.int p1), .val (.int p2), .val (.int p3), .val (.int (1 : Int32)), .val (.int (0 : Int32)), .val (.int (1 : Int32)), .unset, .unset, .unset, .unset, .unset] [(.ref b276)])) _
            refine XS.astore X276.here hx rfl (hb hby at_43) rfl rfl (l' := #[.val (.int p0), .val (.int p1), .val (.int p2), .val (.int p3), .val (.int (1 : Int32)), .val (.int (0 : Int32)), .val (.int (1 : Int32)), .val (.ref b276), .unset, .unset, .unset, .unset]) rfl ?_
            show Steps p.tables e below (T276.setTop (mkF m 45 #[.val (.int p0), .val (.int p1), .val (.int p2), .val (.int p3), .val (.int (1 : Int32)), .val (.int (0 : Int32)), .val (.int (1 : Int32)), .val (.ref b276), .unset, .unset, .unset, .unset] [])) _
            refine XS.iconst X276.here hx rfl (hb hby at_45) ?_
            show Steps p.tables e below (T276.setTop (mkF m 46 #[.val (.int p0), .val (.int p1), .val (.int p2), .val (.int p3), .val (.int (1 : Int32)), .val (.int (0 : Int32)), .val (.int (1 : Int32)), .val (.ref b276), .unset, .unset, .unset, .unset] [(.int (0 : Int32))])) _
            refine XS.istore X276.here hx rfl (hb hby at_46) rfl (l' := #[.val (.int p0), .val (.int p1), .val (.int p2), .val (.int p3), .val (.int (1 : Int32)), .val (.int (0 : Int32)), .val (.int (1 : Int32)), .val (.ref b276), .val (.int (0 : Int32)), .unset, .unset, .unset]) rfl ?_
            show Steps p.tables e below (T276.setTop (mkF m 48 #[.val (.int p0), .val (.int p1), .val (.int p2), .val (.int p3), .val (.int (1 : Int32)), .val (.int (0 : Int32)), .val (.int (1 : Int32)), .val (.ref b276), .val (.int (0 : Int32)), .unset, .unset, .unset] [])) _
            refine st279 _ ?_
            show Steps p.tables e below (T279.setTop (mkF m 51 #[.val (.int p0), .val (.int p1), .val (.int p2), .val (.int p3), .val (.int (1 : Int32)), .val (.int (0 : Int32)), .val (.int (1 : Int32)), .val (.ref b276), .val (.int (0 : Int32)), .unset, .unset, .unset] [(.ref b279)])) _
            refine XS.dup X279.here hx rfl (hb hby at_51) rfl rfl ?_
            show Steps p.tables e below (T279.setTop (mkF m 52 #[.val (.int p0), .val (.int p1), .val (.int p2), .val (.int p3), .val (.int (1 : Int32)), .val (.int (0 : Int32)), .val (.int (1 : Int32)), .val (.ref b276), .val (.int (0 : Int32)), .unset, .unset, .unset] [(.ref b279), (.ref b279)])) _
            refine st282.trans ?_
            show Steps p.tables e below (T282.setTop (mkF m 55 #[.val (.int p0), .val (.int p1), .val (.int p2), .val (.int p3), .val (.int (1 : Int32)), .val (.int (0 : Int32)), .val (.int (1 : Int32)), .val (.ref b276), .val (.int (0 : Int32)), .unset, .unset, .unset] [(.ref b279)])) _
            refine XS.astore X282.here hx rfl (hb hby at_55) rfl rfl (l' := #[.val (.int p0), .val (.int p1), .val (.int p2), .val (.int p3), .val (.int (1 : Int32)), .val (.int (0 : Int32)), .val (.int (1 : Int32)), .val (.ref b276), .val (.int (0 : Int32)), .val (.ref b279), .unset, .unset]) rfl ?_
            show Steps p.tables e below (T282.setTop (mkF m 57 #[.val (.int p0), .val (.int p1), .val (.int p2), .val (.int p3), .val (.int (1 : Int32)), .val (.int (0 : Int32)), .val (.int (1 : Int32)), .val (.ref b276), .val (.int (0 : Int32)), .val (.ref b279), .unset, .unset] [])) _
            refine XS.iload X282.here hx rfl (hb hby at_57) rfl ?_
            exact kt)
        obtain ⟨cq286, kq286, q286a, q286b, q286c⟩ := isOf hZ rfl (E_b279.keep K282q)
        obtain ⟨_, _, ⟨T286, L286, k286, n286⟩, -, X286, ⟨Lc286, hQ286, l286, y286, z286⟩, st286⟩ := X282.virtualBack hx (y := (⟨"com/example/corvid/corvid/ByteWriter", "writeInt", "(I)V"⟩ : MethodName)) (z := (⟨"com/example/corvid/corvid/ByteWriter", "writeInt", "(I)V"⟩ : MethodName)) hown (mvT hZ (hw _ (List.mem_of_getElem? (i := 14) rfl))) (mvT hZ (hw _ (List.mem_of_getElem? (i := 15) rfl))) (notFace_of_selects (args := #[]) (mvT hZ (hw _ (List.mem_of_getElem? (i := 17) rfl)))) (mvT hZ (hw _ (List.mem_of_getElem? (i := 17) rfl))) (mvT hZ (hw _ (List.mem_of_getElem? (i := 16) rfl))) (by decide) (backOf (W := 0) (rm3 l Z a0 hw [] b279 p0 (0 : Int32) r_o0_bytes_282 (fun _ => 0) T282.heap n0 Z284 (E_b279.keep K282q) G282_3 G282_0 G282_1 ne_b279_r_o0_bytes_282 (by decide) g_b279 g_r_o0_bytes_282) hZ (hw _ (List.mem_of_getElem? (i := 18) rfl)) (hw _ (List.mem_of_getElem? (i := 3) rfl)) (by decide) (by decide)) q286a q286c (g := (mkF m 65 #[.val (.int p0), .val (.int p1), .val (.int p2), .val (.int p3), .val (.int (1 : Int32)), .val (.int (0 : Int32)), .val (.int (1 : Int32)), .val (.ref b276), .val (.int (0 : Int32)), .val (.ref b279), .unset, .unset] [(.int p0), (.ref b279)])) rfl (by rw [hml]; rfl) (Steps.refl _) (argsL := [(.int p0)]) (rest := []) (lenOf pd_0_3 rfl) rfl (by show 2 * 0 + _ ≤ _; exact Nat.le_of_eq rfl) (hb hby at_65) (fun _ _ => ⟨rfl, rfl, (by decide : 3 + 0 ≤ _), (by decide : 74 + 0 ≤ _)⟩)
        dsimp only [Pt.U, Pt.locs, Pt.cells, Pt.slots] at X286 l286 y286 z286 st286 hQ286
        subst l286 y286 z286
        obtain ⟨rfl, N286q, K286q, G286_0, G286_1, G286_2⟩ := hQ286
        have N286 := Fr.app N282 N286q
        have K287 : Keep h0 T286.heap [] := K283.trans K286q (allS (Or.inr sz_r_o0_bytes_282) (allS (Or.inr sz_b279) all0))
        have Z288 : n0 ≤ T286.heap.size := Nat.le_trans Z0 K287.1
        obtain ⟨LS286, X286, N286⟩ : ∃ L, Stand p l e room_1 s m #[(.int p0), (.int p1), (.int p2), (.int p3)] below meth c T286 L 3 74 ∧ Fr n0 L := ⟨_, X286, N286⟩
        have c290 := (((V_b276.ext E279).keep K282q (ninS ne_b276_b279 nin0)).keep K286q (ninS ne_b276_r_o0_bytes_282 (ninS ne_b276_b279 nin0)))
        obtain ⟨cl289, Ar289, Sz289, Nn289, Hs289⟩ := id c290
        have hin289 : ¬ ((0 : Int32) < 0 ∨ cl289.slots.size ≤ ((0 : Int32)).toNatClampNeg) := inb_of Sz289 ⟨by decide, by decide⟩
        obtain ⟨T291, h291, X291, e291, W291, st291⟩ := stB X286 hx hZ rfl Ar289 (j := (0 : Int32)) hin289 (g := (mkF m 78 #[.val (.int p0), .val (.int p1), .val (.int p2), .val (.int p3), .val (.int (1 : Int32)), .val (.int (0 : Int32)), .val (.int (1 : Int32)), .val (.ref b276), .val (.int (0 : Int32)), .val (.ref b279), .unset, .unset] [(.int ((p0 &&& (255 : Int32)).toInt8.toInt32)), (.int (0 : Int32)), (.ref b276)])) rfl rfl (hb hby at_78)
        have V291 : own_AI Z h291 b276 .byte (7 : Int32) (own_upd (fun _ => 0) 0 (nar .byte ((p0 &&& (255 : Int32)).toInt8.toInt32))) := own_AI.set c290 (fits_nar_byte ((p0 &&& (255 : Int32)).toInt8.toInt32)) W291
        have K292 : Keep h0 h291 [] := K287.wr W291 (Or.inr sz_b276)
        have Z293 : n0 ≤ h291.size := Nat.le_trans Z0 K292.1
        have N291 := Fr.snoc X291 N286 g_b276
        obtain ⟨LS291, X291, N291⟩ : ∃ L, Stand p l e room_1 s m #[(.int p0), (.int p1), (.int p2), (.int p3)] below meth c T291 L 3 74 ∧ Fr n0 L := ⟨_, X291, N291⟩
        obtain ⟨cl294, Ar294, Sz294, Nn294, Hs294⟩ := id V291
        have hin294 : ¬ ((1 : Int32) < 0 ∨ cl294.slots.size ≤ ((1 : Int32)).toNatClampNeg) := inb_of Sz294 ⟨by decide, by decide⟩
        obtain ⟨T295, h295, X295, e295, W295, st295⟩ := stB X291 hx hZ e291 Ar294 (j := (1 : Int32)) hin294 (g := (mkF m 94 #[.val (.int p0), .val (.int p1), .val (.int p2), .val (.int p3), .val (.int (1 : Int32)), .val (.int (0 : Int32)), .val (.int (1 : Int32)), .val (.ref b276), .val (.int (0 : Int32)), .val (.ref b279), .unset, .unset] [(.int (((p0 >>> ((8 : Int32) &&& 31)) &&& (255 : Int32)).toInt8.toInt32)), (.int (1 : Int32)), (.ref b276)])) rfl rfl (hb hby at_94)
        have V295 : own_AI Z h295 b276 .byte (7 : Int32) (own_upd (own_upd (fun _ => 0) 0 (nar .byte ((p0 &&& (255 : Int32)).toInt8.toInt32))) 1 (nar .byte (((p0 >>> ((8 : Int32) &&& 31)) &&& (255 : Int32)).toInt8.toInt32))) := own_AI.set V291 (fits_nar_byte (((p0 >>> ((8 : Int32) &&& 31)) &&& (255 : Int32)).toInt8.toInt32)) W295
        have K296 : Keep h0 h295 [] := K292.wr W295 (Or.inr sz_b276)
        have Z297 : n0 ≤ h295.size := Nat.le_trans Z0 K296.1
        have N295 := Fr.snoc X295 N291 g_b276
        obtain ⟨LS295, X295, N295⟩ : ∃ L, Stand p l e room_1 s m #[(.int p0), (.int p1), (.int p2), (.int p3)] below meth c T295 L 3 74 ∧ Fr n0 L := ⟨_, X295, N295⟩
        obtain ⟨cl298, Ar298, Sz298, Nn298, Hs298⟩ := id V295
        have hin298 : ¬ ((2 : Int32) < 0 ∨ cl298.slots.size ≤ ((2 : Int32)).toNatClampNeg) := inb_of Sz298 ⟨by decide, by decide⟩
        obtain ⟨T299, h299, X299, e299, W299, st299⟩ := stB X295 hx hZ e295 Ar298 (j := (2 : Int32)) hin298 (g := (mkF m 110 #[.val (.int p0), .val (.int p1), .val (.int p2), .val (.int p3), .val (.int (1 : Int32)), .val (.int (0 : Int32)), .val (.int (1 : Int32)), .val (.ref b276), .val (.int (0 : Int32)), .val (.ref b279), .unset, .unset] [(.int (((p0 >>> ((16 : Int32) &&& 31)) &&& (255 : Int32)).toInt8.toInt32)), (.int (2 : Int32)), (.ref b276)])) rfl rfl (hb hby at_110)
        have V299 : own_AI Z h299 b276 .byte (7 : Int32) (own_upd (own_upd (own_upd (fun _ => 0) 0 (nar .byte ((p0 &&& (255 : Int32)).toInt8.toInt32))) 1 (nar .byte (((p0 >>> ((8 : Int32) &&& 31)) &&& (255 : Int32)).toInt8.toInt32))) 2 (nar .byte (((p0 >>> ((16 : Int32) &&& 31)) &&& (255 : Int32)).toInt8.toInt32))) := own_AI.set V295 (fits_nar_byte (((p0 >>> ((16 : Int32) &&& 31)) &&& (255 : Int32)).toInt8.toInt32)) W299
        have K300 : Keep h0 h299 [] := K296.wr W299 (Or.inr sz_b276)
        have Z301 : n0 ≤ h299.size := Nat.le_trans Z0 K300.1
        have N299 := Fr.snoc X299 N295 g_b276
        obtain ⟨LS299, X299, N299⟩ : ∃ L, Stand p l e room_1 s m #[(.int p0), (.int p1), (.int p2), (.int p3)] below meth c T299 L 3 74 ∧ Fr n0 L := ⟨_, X299, N299⟩
        obtain ⟨cl302, Ar302, Sz302, Nn302, Hs302⟩ := id V299
        have hin302 : ¬ ((3 : Int32) < 0 ∨ cl302.slots.size ≤ ((3 : Int32)).toNatClampNeg) := inb_of Sz302 ⟨by decide, by decide⟩
        obtain ⟨T303, h303, X303, e303, W303, st303⟩ := stB X299 hx hZ e299 Ar302 (j := (3 : Int32)) hin302 (g := (mkF m 126 #[.val (.int p0), .val (.int p1), .val (.int p2), .val (.int p3), .val (.int (1 : Int32)), .val (.int (0 : Int32)), .val (.int (1 : Int32)), .val (.ref b276), .val (.int (0 : Int32)), .val (.ref b279), .unset, .unset] [(.int (((p0 >>> ((24 : Int32) &&& 31)) &&& (255 : Int32)).toInt8.toInt32)), (.int (3 : Int32)), (.ref b276)])) rfl rfl (hb hby at_126)
        have V303 : own_AI Z h303 b276 .byte (7 : Int32) (own_upd (own_upd (own_upd (own_upd (fun _ => 0) 0 (nar .byte ((p0 &&& (255 : Int32)).toInt8.toInt32))) 1 (nar .byte (((p0 >>> ((8 : Int32) &&& 31)) &&& (255 : Int32)).toInt8.toInt32))) 2 (nar .byte (((p0 >>> ((16 : Int32) &&& 31)) &&& (255 : Int32)).toInt8.toInt32))) 3 (nar .byte (((p0 >>> ((24 : Int32) &&& 31)) &&& (255 : Int32)).toInt8.toInt32))) := own_AI.set V299 (fits_nar_byte (((p0 >>> ((24 : Int32) &&& 31)) &&& (255 : Int32)).toInt8.toInt32)) W303
        have K304 : Keep h0 h303 [] := K300.wr W303 (Or.inr sz_b276)
        have Z305 : n0 ≤ h303.size := Nat.le_trans Z0 K304.1
        have N303 := Fr.snoc X303 N299 g_b276
        obtain ⟨LS303, X303, N303⟩ : ∃ L, Stand p l e room_1 s m #[(.int p0), (.int p1), (.int p2), (.int p3)] below meth c T303 L 3 74 ∧ Fr n0 L := ⟨_, X303, N303⟩
        have pre306 : ∀ t, Steps p.tables e below (T303.setTop (mkF m 132 #[.val (.int p0), .val (.int p1), .val (.int p2), .val (.int p3), .val (.int (1 : Int32)), .val (.int (0 : Int32)), .val (.int (1 : Int32)), .val (.ref b276), .val (.int (4 : Int32)), .val (.ref b279), .unset, .unset] [(.int (0 : Int32))])) t → Steps p.tables e below (s₁.setTop (entryFrame m #[(.int p0), (.int p1), (.int p2), (.int p3)] maxLocals)) t := fun t kt => pre285 t (by
            show Steps p.tables e below (T282.setTop (mkF m 59 #[.val (.int p0), .val (.int p1), .val (.int p2), .val (.int p3), .val (.int (1 : Int32)), .val (.int (0 : Int32)), .val (.int (1 : Int32)), .val (.ref b276), .val (.int (0 : Int32)), .val (.ref b279), .unset, .unset] [(.int (1 : Int32))])) _
            refine XS.ifNo X282.here hx rfl (hb hby at_59) rfl ((if0 _ _).trans (feq (by decide : ¬ ((1 : Int32) = (0 : Int32)))).1) ?_
            show Steps p.tables e below (T282.setTop (mkF m 62 #[.val (.int p0), .val (.int p1), .val (.int p2), .val (.int p3), .val (.int (1 : Int32)), .val (.int (0 : Int32)), .val (.int (1 : Int32)), .val (.ref b276), .val (.int (0 : Int32)), .val (.ref b279), .unset, .unset] [])) _
            refine XS.aload X282.here hx rfl (hb hby at_62) rfl rfl ?_
            show Steps p.tables e below (T282.setTop (mkF m 64 #[.val (.int p0), .val (.int p1), .val (.int p2), .val (.int p3), .val (.int (1 : Int32)), .val (.int (0 : Int32)), .val (.int (1 : Int32)), .val (.ref b276), .val (.int (0 : Int32)), .val (.ref b279), .unset, .unset] [(.ref b279)])) _
            refine XS.iloadN X282.here hx rfl (hb hby at_64) rfl ?_
            show Steps p.tables e below (T282.setTop (mkF m 65 #[.val (.int p0), .val (.int p1), .val (.int p2), .val (.int p3), .val (.int (1 : Int32)), .val (.int (0 : Int32)), .val (.int (1 : Int32)), .val (.ref b276), .val (.int (0 : Int32)), .val (.ref b279), .unset, .unset] [(.int p0), (.ref b279)])) _
            refine st286.trans ?_
            show Steps p.tables e below (T286.setTop (mkF m 68 #[.val (.int p0), .val (.int p1), .val (.int p2), .val (.int p3), .val (.int (1 : Int32)), .val (.int (0 : Int32)), .val (.int (1 : Int32)), .val (.ref b276), .val (.int (0 : Int32)), .val (.ref b279), .unset, .unset] [])) _
            refine XS.aload X286.here hx rfl (hb hby at_68) rfl rfl ?_
            show Steps p.tables e below (T286.setTop (mkF m 70 #[.val (.int p0), .val (.int p1), .val (.int p2), .val (.int p3), .val (.int (1 : Int32)), .val (.int (0 : Int32)), .val (.int (1 : Int32)), .val (.ref b276), .val (.int (0 : Int32)), .val (.ref b279), .unset, .unset] [(.ref b276)])) _
            refine XS.iload X286.here hx rfl (hb hby at_70) rfl ?_
            show Steps p.tables e below (T286.setTop (mkF m 72 #[.val (.int p0), .val (.int p1), .val (.int p2), .val (.int p3), .val (.int (1 : Int32)), .val (.int (0 : Int32)), .val (.int (1 : Int32)), .val (.ref b276), .val (.int (0 : Int32)), .val (.ref b279), .unset, .unset] [(.int (0 : Int32)), (.ref b276)])) _
            refine XS.iloadN X286.here hx rfl (hb hby at_72) rfl ?_
            show Steps p.tables e below (T286.setTop (mkF m 73 #[.val (.int p0), .val (.int p1), .val (.int p2), .val (.int p3), .val (.int (1 : Int32)), .val (.int (0 : Int32)), .val (.int (1 : Int32)), .val (.ref b276), .val (.int (0 : Int32)), .val (.ref b279), .unset, .unset] [(.int p0), (.int (0 : Int32)), (.ref b276)])) _
            refine XS.sipush X286.here hx rfl (hb hby at_73) ?_
            show Steps p.tables e below (T286.setTop (mkF m 76 #[.val (.int p0), .val (.int p1), .val (.int p2), .val (.int p3), .val (.int (1 : Int32)), .val (.int (0 : Int32)), .val (.int (1 : Int32)), .val (.ref b276), .val (.int (0 : Int32)), .val (.ref b279), .unset, .unset] [(.int (255 : Int32)), (.int p0), (.int (0 : Int32)), (.ref b276)])) _
            refine XS.iand X286.here hx rfl (hb hby at_76) rfl ?_
            show Steps p.tables e below (T286.setTop (mkF m 77 #[.val (.int p0), .val (.int p1), .val (.int p2), .val (.int p3), .val (.int (1 : Int32)), .val (.int (0 : Int32)), .val (.int (1 : Int32)), .val (.ref b276), .val (.int (0 : Int32)), .val (.ref b279), .unset, .unset] [(.int (p0 &&& (255 : Int32))), (.int (0 : Int32)), (.ref b276)])) _
            refine XS.i2b X286.here hx rfl (hb hby at_77) rfl ?_
            show Steps p.tables e below (T286.setTop (mkF m 78 #[.val (.int p0), .val (.int p1), .val (.int p2), .val (.int p3), .val (.int (1 : Int32)), .val (.int (0 : Int32)), .val (.int (1 : Int32)), .val (.ref b276), .val (.int (0 : Int32)), .val (.ref b279), .unset, .unset] [(.int ((p0 &&& (255 : Int32)).toInt8.toInt32)), (.int (0 : Int32)), (.ref b276)])) _
            refine st291 _ ?_
            show Steps p.tables e below (T291.setTop (mkF m 79 #[.val (.int p0), .val (.int p1), .val (.int p2), .val (.int p3), .val (.int (1 : Int32)), .val (.int (0 : Int32)), .val (.int (1 : Int32)), .val (.ref b276), .val (.int (0 : Int32)), .val (.ref b279), .unset, .unset] [])) _
            refine XS.aload X291.here hx rfl (hb hby at_79) rfl rfl ?_
            show Steps p.tables e below (T291.setTop (mkF m 81 #[.val (.int p0), .val (.int p1), .val (.int p2), .val (.int p3), .val (.int (1 : Int32)), .val (.int (0 : Int32)), .val (.int (1 : Int32)), .val (.ref b276), .val (.int (0 : Int32)), .val (.ref b279), .unset, .unset] [(.ref b276)])) _
            refine XS.iload X291.here hx rfl (hb hby at_81) rfl ?_
            show Steps p.tables e below (T291.setTop (mkF m 83 #[.val (.int p0), .val (.int p1), .val (.int p2), .val (.int p3), .val (.int (1 : Int32)), .val (.int (0 : Int32)), .val (.int (1 : Int32)), .val (.ref b276), .val (.int (0 : Int32)), .val (.ref b279), .unset, .unset] [(.int (0 : Int32)), (.ref b276)])) _
            refine XS.iconst X291.here hx rfl (hb hby at_83) ?_
            show Steps p.tables e below (T291.setTop (mkF m 84 #[.val (.int p0), .val (.int p1), .val (.int p2), .val (.int p3), .val (.int (1 : Int32)), .val (.int (0 : Int32)), .val (.int (1 : Int32)), .val (.ref b276), .val (.int (0 : Int32)), .val (.ref b279), .unset, .unset] [(.int (1 : Int32)), (.int (0 : Int32)), (.ref b276)])) _
            refine XS.iadd X291.here hx rfl (hb hby at_84) rfl ?_
            show Steps p.tables e below (T291.setTop (mkF m 85 #[.val (.int p0), .val (.int p1), .val (.int p2), .val (.int p3), .val (.int (1 : Int32)), .val (.int (0 : Int32)), .val (.int (1 : Int32)), .val (.ref b276), .val (.int (0 : Int32)), .val (.ref b279), .unset, .unset] [(.int (1 : Int32)), (.ref b276)])) _
            refine XS.iloadN X291.here hx rfl (hb hby at_85) rfl ?_
            show Steps p.tables e below (T291.setTop (mkF m 86 #[.val (.int p0), .val (.int p1), .val (.int p2), .val (.int p3), .val (.int (1 : Int32)), .val (.int (0 : Int32)), .val (.int (1 : Int32)), .val (.ref b276), .val (.int (0 : Int32)), .val (.ref b279), .unset, .unset] [(.int p0), (.int (1 : Int32)), (.ref b276)])) _
            refine XS.bipush X291.here hx rfl (hb hby at_86) ?_
            show Steps p.tables e below (T291.setTop (mkF m 88 #[.val (.int p0), .val (.int p1), .val (.int p2), .val (.int p3), .val (.int (1 : Int32)), .val (.int (0 : Int32)), .val (.int (1 : Int32)), .val (.ref b276), .val (.int (0 : Int32)), .val (.ref b279), .unset, .unset] [(.int (8 : Int32)), (.int p0), (.int (1 : Int32)), (.ref b276)])) _
            refine XS.ishr X291.here hx rfl (hb hby at_88) rfl ?_
            show Steps p.tables e below (T291.setTop (mkF m 89 #[.val (.int p0), .val (.int p1), .val (.int p2), .val (.int p3), .val (.int (1 : Int32)), .val (.int (0 : Int32)), .val (.int (1 : Int32)), .val (.ref b276), .val (.int (0 : Int32)), .val (.ref b279), .unset, .unset] [(.int (p0 >>> ((8 : Int32) &&& 31))), (.int (1 : Int32)), (.ref b276)])) _
            refine XS.sipush X291.here hx rfl (hb hby at_89) ?_
            show Steps p.tables e below (T291.setTop (mkF m 92 #[.val (.int p0), .val (.int p1), .val (.int p2), .val (.int p3), .val (.int (1 : Int32)), .val (.int (0 : Int32)), .val (.int (1 : Int32)), .val (.ref b276), .val (.int (0 : Int32)), .val (.ref b279), .unset, .unset] [(.int (255 : Int32)), (.int (p0 >>> ((8 : Int32) &&& 31))), (.int (1 : Int32)), (.ref b276)])) _
            refine XS.iand X291.here hx rfl (hb hby at_92) rfl ?_
            show Steps p.tables e below (T291.setTop (mkF m 93 #[.val (.int p0), .val (.int p1), .val (.int p2), .val (.int p3), .val (.int (1 : Int32)), .val (.int (0 : Int32)), .val (.int (1 : Int32)), .val (.ref b276), .val (.int (0 : Int32)), .val (.ref b279), .unset, .unset] [(.int ((p0 >>> ((8 : Int32) &&& 31)) &&& (255 : Int32))), (.int (1 : Int32)), (.ref b276)])) _
            refine XS.i2b X291.here hx rfl (hb hby at_93) rfl ?_
            show Steps p.tables e below (T291.setTop (mkF m 94 #[.val (.int p0), .val (.int p1), .val (.int p2), .val (.int p3), .val (.int (1 : Int32)), .val (.int (0 : Int32)), .val (.int (1 : Int32)), .val (.ref b276), .val (.int (0 : Int32)), .val (.ref b279), .unset, .unset] [(.int (((p0 >>> ((8 : Int32) &&& 31)) &&& (255 : Int32)).toInt8.toInt32)), (.int (1 : Int32)), (.ref b276)])) _
            refine st295 _ ?_
            show Steps p.tables e below (T295.setTop (mkF m 95 #[.val (.int p0), .val (.int p1), .val (.int p2), .val (.int p3), .val (.int (1 : Int32)), .val (.int (0 : Int32)), .val (.int (1 : Int32)), .val (.ref b276), .val (.int (0 : Int32)), .val (.ref b279), .unset, .unset] [])) _
            refine XS.aload X295.here hx rfl (hb hby at_95) rfl rfl ?_
            show Steps p.tables e below (T295.setTop (mkF m 97 #[.val (.int p0), .val (.int p1), .val (.int p2), .val (.int p3), .val (.int (1 : Int32)), .val (.int (0 : Int32)), .val (.int (1 : Int32)), .val (.ref b276), .val (.int (0 : Int32)), .val (.ref b279), .unset, .unset] [(.ref b276)])) _
            refine XS.iload X295.here hx rfl (hb hby at_97) rfl ?_
            show Steps p.tables e below (T295.setTop (mkF m 99 #[.val (.int p0), .val (.int p1), .val (.int p2), .val (.int p3), .val (.int (1 : Int32)), .val (.int (0 : Int32)), .val (.int (1 : Int32)), .val (.ref b276), .val (.int (0 : Int32)), .val (.ref b279), .unset, .unset] [(.int (0 : Int32)), (.ref b276)])) _
            refine XS.iconst X295.here hx rfl (hb hby at_99) ?_
            show Steps p.tables e below (T295.setTop (mkF m 100 #[.val (.int p0), .val (.int p1), .val (.int p2), .val (.int p3), .val (.int (1 : Int32)), .val (.int (0 : Int32)), .val (.int (1 : Int32)), .val (.ref b276), .val (.int (0 : Int32)), .val (.ref b279), .unset, .unset] [(.int (2 : Int32)), (.int (0 : Int32)), (.ref b276)])) _
            refine XS.iadd X295.here hx rfl (hb hby at_100) rfl ?_
            show Steps p.tables e below (T295.setTop (mkF m 101 #[.val (.int p0), .val (.int p1), .val (.int p2), .val (.int p3), .val (.int (1 : Int32)), .val (.int (0 : Int32)), .val (.int (1 : Int32)), .val (.ref b276), .val (.int (0 : Int32)), .val (.ref b279), .unset, .unset] [(.int (2 : Int32)), (.ref b276)])) _
            refine XS.iloadN X295.here hx rfl (hb hby at_101) rfl ?_
            show Steps p.tables e below (T295.setTop (mkF m 102 #[.val (.int p0), .val (.int p1), .val (.int p2), .val (.int p3), .val (.int (1 : Int32)), .val (.int (0 : Int32)), .val (.int (1 : Int32)), .val (.ref b276), .val (.int (0 : Int32)), .val (.ref b279), .unset, .unset] [(.int p0), (.int (2 : Int32)), (.ref b276)])) _
            refine XS.bipush X295.here hx rfl (hb hby at_102) ?_
            show Steps p.tables e below (T295.setTop (mkF m 104 #[.val (.int p0), .val (.int p1), .val (.int p2), .val (.int p3), .val (.int (1 : Int32)), .val (.int (0 : Int32)), .val (.int (1 : Int32)), .val (.ref b276), .val (.int (0 : Int32)), .val (.ref b279), .unset, .unset] [(.int (16 : Int32)), (.int p0), (.int (2 : Int32)), (.ref b276)])) _
            refine XS.ishr X295.here hx rfl (hb hby at_104) rfl ?_
            show Steps p.tables e below (T295.setTop (mkF m 105 #[.val (.int p0), .val (.int p1), .val (.int p2), .val (.int p3), .val (.int (1 : Int32)), .val (.int (0 : Int32)), .val (.int (1 : Int32)), .val (.ref b276), .val (.int (0 : Int32)), .val (.ref b279), .unset, .unset] [(.int (p0 >>> ((16 : Int32) &&& 31))), (.int (2 : Int32)), (.ref b276)])) _
            refine XS.sipush X295.here hx rfl (hb hby at_105) ?_
            show Steps p.tables e below (T295.setTop (mkF m 108 #[.val (.int p0), .val (.int p1), .val (.int p2), .val (.int p3), .val (.int (1 : Int32)), .val (.int (0 : Int32)), .val (.int (1 : Int32)), .val (.ref b276), .val (.int (0 : Int32)), .val (.ref b279), .unset, .unset] [(.int (255 : Int32)), (.int (p0 >>> ((16 : Int32) &&& 31))), (.int (2 : Int32)), (.ref b276)])) _
            refine XS.iand X295.here hx rfl (hb hby at_108) rfl ?_
            show Steps p.tables e below (T295.setTop (mkF m 109 #[.val (.int p0), .val (.int p1), .val (.int p2), .val (.int p3), .val (.int (1 : Int32)), .val (.int (0 : Int32)), .val (.int (1 : Int32)), .val (.ref b276), .val (.int (0 : Int32)), .val (.ref b279), .unset, .unset] [(.int ((p0 >>> ((16 : Int32) &&& 31)) &&& (255 : Int32))), (.int (2 : Int32)), (.ref b276)])) _
            refine XS.i2b X295.here hx rfl (hb hby at_109) rfl ?_
            show Steps p.tables e below (T295.setTop (mkF m 110 #[.val (.int p0), .val (.int p1), .val (.int p2), .val (.int p3), .val (.int (1 : Int32)), .val (.int (0 : Int32)), .val (.int (1 : Int32)), .val (.ref b276), .val (.int (0 : Int32)), .val (.ref b279), .unset, .unset] [(.int (((p0 >>> ((16 : Int32) &&& 31)) &&& (255 : Int32)).toInt8.toInt32)), (.int (2 : Int32)), (.ref b276)])) _
            refine st299 _ ?_
            show Steps p.tables e below (T299.setTop (mkF m 111 #[.val (.int p0), .val (.int p1), .val (.int p2), .val (.int p3), .val (.int (1 : Int32)), .val (.int (0 : Int32)), .val (.int (1 : Int32)), .val (.ref b276), .val (.int (0 : Int32)), .val (.ref b279), .unset, .unset] [])) _
            refine XS.aload X299.here hx rfl (hb hby at_111) rfl rfl ?_
            show Steps p.tables e below (T299.setTop (mkF m 113 #[.val (.int p0), .val (.int p1), .val (.int p2), .val (.int p3), .val (.int (1 : Int32)), .val (.int (0 : Int32)), .val (.int (1 : Int32)), .val (.ref b276), .val (.int (0 : Int32)), .val (.ref b279), .unset, .unset] [(.ref b276)])) _
            refine XS.iload X299.here hx rfl (hb hby at_113) rfl ?_
            show Steps p.tables e below (T299.setTop (mkF m 115 #[.val (.int p0), .val (.int p1), .val (.int p2), .val (.int p3), .val (.int (1 : Int32)), .val (.int (0 : Int32)), .val (.int (1 : Int32)), .val (.ref b276), .val (.int (0 : Int32)), .val (.ref b279), .unset, .unset] [(.int (0 : Int32)), (.ref b276)])) _
            refine XS.iconst X299.here hx rfl (hb hby at_115) ?_
            show Steps p.tables e below (T299.setTop (mkF m 116 #[.val (.int p0), .val (.int p1), .val (.int p2), .val (.int p3), .val (.int (1 : Int32)), .val (.int (0 : Int32)), .val (.int (1 : Int32)), .val (.ref b276), .val (.int (0 : Int32)), .val (.ref b279), .unset, .unset] [(.int (3 : Int32)), (.int (0 : Int32)), (.ref b276)])) _
            refine XS.iadd X299.here hx rfl (hb hby at_116) rfl ?_
            show Steps p.tables e below (T299.setTop (mkF m 117 #[.val (.int p0), .val (.int p1), .val (.int p2), .val (.int p3), .val (.int (1 : Int32)), .val (.int (0 : Int32)), .val (.int (1 : Int32)), .val (.ref b276), .val (.int (0 : Int32)), .val (.ref b279), .unset, .unset] [(.int (3 : Int32)), (.ref b276)])) _
            refine XS.iloadN X299.here hx rfl (hb hby at_117) rfl ?_
            show Steps p.tables e below (T299.setTop (mkF m 118 #[.val (.int p0), .val (.int p1), .val (.int p2), .val (.int p3), .val (.int (1 : Int32)), .val (.int (0 : Int32)), .val (.int (1 : Int32)), .val (.ref b276), .val (.int (0 : Int32)), .val (.ref b279), .unset, .unset] [(.int p0), (.int (3 : Int32)), (.ref b276)])) _
            refine XS.bipush X299.here hx rfl (hb hby at_118) ?_
            show Steps p.tables e below (T299.setTop (mkF m 120 #[.val (.int p0), .val (.int p1), .val (.int p2), .val (.int p3), .val (.int (1 : Int32)), .val (.int (0 : Int32)), .val (.int (1 : Int32)), .val (.ref b276), .val (.int (0 : Int32)), .val (.ref b279), .unset, .unset] [(.int (24 : Int32)), (.int p0), (.int (3 : Int32)), (.ref b276)])) _
            refine XS.ishr X299.here hx rfl (hb hby at_120) rfl ?_
            show Steps p.tables e below (T299.setTop (mkF m 121 #[.val (.int p0), .val (.int p1), .val (.int p2), .val (.int p3), .val (.int (1 : Int32)), .val (.int (0 : Int32)), .val (.int (1 : Int32)), .val (.ref b276), .val (.int (0 : Int32)), .val (.ref b279), .unset, .unset] [(.int (p0 >>> ((24 : Int32) &&& 31))), (.int (3 : Int32)), (.ref b276)])) _
            refine XS.sipush X299.here hx rfl (hb hby at_121) ?_
            show Steps p.tables e below (T299.setTop (mkF m 124 #[.val (.int p0), .val (.int p1), .val (.int p2), .val (.int p3), .val (.int (1 : Int32)), .val (.int (0 : Int32)), .val (.int (1 : Int32)), .val (.ref b276), .val (.int (0 : Int32)), .val (.ref b279), .unset, .unset] [(.int (255 : Int32)), (.int (p0 >>> ((24 : Int32) &&& 31))), (.int (3 : Int32)), (.ref b276)])) _
            refine XS.iand X299.here hx rfl (hb hby at_124) rfl ?_
            show Steps p.tables e below (T299.setTop (mkF m 125 #[.val (.int p0), .val (.int p1), .val (.int p2), .val (.int p3), .val (.int (1 : Int32)), .val (.int (0 : Int32)), .val (.int (1 : Int32)), .val (.ref b276), .val (.int (0 : Int32)), .val (.ref b279), .unset, .unset] [(.int ((p0 >>> ((24 : Int32) &&& 31)) &&& (255 : Int32))), (.int (3 : Int32)), (.ref b276)])) _
            refine XS.i2b X299.here hx rfl (hb hby at_125) rfl ?_
            show Steps p.tables e below (T299.setTop (mkF m 126 #[.val (.int p0), .val (.int p1), .val (.int p2), .val (.int p3), .val (.int (1 : Int32)), .val (.int (0 : Int32)), .val (.int (1 : Int32)), .val (.ref b276), .val (.int (0 : Int32)), .val (.ref b279), .unset, .unset] [(.int (((p0 >>> ((24 : Int32) &&& 31)) &&& (255 : Int32)).toInt8.toInt32)), (.int (3 : Int32)), (.ref b276)])) _
            refine st303 _ ?_
            show Steps p.tables e below (T303.setTop (mkF m 127 #[.val (.int p0), .val (.int p1), .val (.int p2), .val (.int p3), .val (.int (1 : Int32)), .val (.int (0 : Int32)), .val (.int (1 : Int32)), .val (.ref b276), .val (.int (0 : Int32)), .val (.ref b279), .unset, .unset] [])) _
            refine XS.iinc X303.here hx rfl (hb hby at_127) rfl (l' := #[.val (.int p0), .val (.int p1), .val (.int p2), .val (.int p3), .val (.int (1 : Int32)), .val (.int (0 : Int32)), .val (.int (1 : Int32)), .val (.ref b276), .val (.int (4 : Int32)), .val (.ref b279), .unset, .unset]) rfl ?_
            show Steps p.tables e below (T303.setTop (mkF m 130 #[.val (.int p0), .val (.int p1), .val (.int p2), .val (.int p3), .val (.int (1 : Int32)), .val (.int (0 : Int32)), .val (.int (1 : Int32)), .val (.ref b276), .val (.int (4 : Int32)), .val (.ref b279), .unset, .unset] [])) _
            refine XS.iload X303.here hx rfl (hb hby at_130) rfl ?_
            exact kt)
        have pre307 : ∀ t, Steps p.tables e below (T303.setTop (mkF m 174 #[.val (.int p0), .val (.int p1), .val (.int p2), .val (.int p3), .val (.int (1 : Int32)), .val (.int (0 : Int32)), .val (.int (1 : Int32)), .val (.ref b276), .val (.int (4 : Int32)), .val (.ref b279), .unset, .unset] [(.int (1 : Int32))])) t → Steps p.tables e below (s₁.setTop (entryFrame m #[(.int p0), (.int p1), (.int p2), (.int p3)] maxLocals)) t := fun t kt => pre306 t (by
            show Steps p.tables e below (T303.setTop (mkF m 132 #[.val (.int p0), .val (.int p1), .val (.int p2), .val (.int p3), .val (.int (1 : Int32)), .val (.int (0 : Int32)), .val (.int (1 : Int32)), .val (.ref b276), .val (.int (4 : Int32)), .val (.ref b279), .unset, .unset] [(.int (0 : Int32))])) _
            refine XS.ifYes X303.here hx rfl (pc0 := 132) (pc' := 172) rfl (hb hby at_132) rfl ((if0 _ _).trans (teq (by decide : ((0 : Int32) = (0 : Int32)))).1) (by decide) (by decide) ?_
            show Steps p.tables e below (T303.setTop (mkF m 172 #[.val (.int p0), .val (.int p1), .val (.int p2), .val (.int p3), .val (.int (1 : Int32)), .val (.int (0 : Int32)), .val (.int (1 : Int32)), .val (.ref b276), .val (.int (4 : Int32)), .val (.ref b279), .unset, .unset] [])) _
            refine XS.iload X303.here hx rfl (hb hby at_172) rfl ?_
            exact kt)
        have c309 := ((((((E_b279.keep K282q).keep K286q).wr W291).wr W295).wr W299).wr W303)
        have c310 := ((((G286_1.other W291 (Or.inl (Ne.symm ne_b276_b279))).other W295 (Or.inl (Ne.symm ne_b276_b279))).other W299 (Or.inl (Ne.symm ne_b276_b279))).other W303 (Or.inl (Ne.symm ne_b276_b279)))
        have c311 := ((((G286_2.other W291 (Or.inl (Ne.symm ne_b276_b279))).other W295 (Or.inl (Ne.symm ne_b276_b279))).other W299 (Or.inl (Ne.symm ne_b276_b279))).other W303 (Or.inl (Ne.symm ne_b276_b279)))
        have c312 := ((((G286_0.other W291 (Ne.symm ne_b276_r_o0_bytes_282)).other W295 (Ne.symm ne_b276_r_o0_bytes_282)).other W299 (Ne.symm ne_b276_r_o0_bytes_282)).other W303 (Ne.symm ne_b276_r_o0_bytes_282))
        obtain ⟨cq308, kq308, q308a, q308b, q308c⟩ := isOf hZ e303 c309
        obtain ⟨_, _, ⟨T308, L308, k308, n308⟩, -, X308, ⟨Lc308, hQ308, l308, y308, z308⟩, st308⟩ := X303.virtualBack hx (y := (⟨"com/example/corvid/corvid/ByteWriter", "writeByte", "(I)V"⟩ : MethodName)) (z := (⟨"com/example/corvid/corvid/ByteWriter", "writeByte", "(I)V"⟩ : MethodName)) hown (mvT hZ (hw _ (List.mem_of_getElem? (i := 57) rfl))) (mvT hZ (hw _ (List.mem_of_getElem? (i := 58) rfl))) (notFace_of_selects (args := #[]) (mvT hZ (hw _ (List.mem_of_getElem? (i := 60) rfl)))) (mvT hZ (hw _ (List.mem_of_getElem? (i := 60) rfl))) (mvT hZ (hw _ (List.mem_of_getElem? (i := 59) rfl))) (by decide) (backOf (W := 0) (rm12 l Z a0 hw [] b279 (p2 &&& (255 : Int32)) ((0 : Int32) + (4 : Int32)) r_o0_bytes_282 (f3_r1_a p0 (0 : Int32) (fun _ => 0)) h303 n0 Z305 c309 c310 c311 c312 ne_b279_r_o0_bytes_282 (by decide) g_b279 g_r_o0_bytes_282 (own_v255 _)) hZ (hw _ (List.mem_of_getElem? (i := 61) rfl)) (hw _ (List.mem_of_getElem? (i := 3) rfl)) (by decide) (by decide)) q308a q308c (g := (mkF m 188 #[.val (.int p0), .val (.int p1), .val (.int p2), .val (.int p3), .val (.int (1 : Int32)), .val (.int (0 : Int32)), .val (.int (1 : Int32)), .val (.ref b276), .val (.int (4 : Int32)), .val (.ref b279), .val (.int (p2 &&& (255 : Int32))), .unset] [(.int (p2 &&& (255 : Int32))), (.ref b279)])) rfl (by rw [hml]; rfl) (Steps.refl _) (argsL := [(.int (p2 &&& (255 : Int32)))]) (rest := []) (lenOf pd_0_3 rfl) rfl (by show 2 * 0 + _ ≤ _; exact Nat.le_of_eq rfl) (hb hby at_188) (fun _ _ => ⟨rfl, e303, (by decide : 3 + 0 ≤ _), (by decide : 74 + 0 ≤ _)⟩)
        dsimp only [Pt.U, Pt.locs, Pt.cells, Pt.slots] at X308 l308 y308 z308 st308 hQ308
        subst l308 y308 z308
        obtain ⟨rfl, N308q, K308q, G308_0, G308_1, G308_2⟩ := hQ308
        have N308 := Fr.app N303 N308q
        have K313 : Keep h0 T308.heap [] := K304.trans K308q (allS (Or.inr sz_b279) (allS (Or.inr sz_r_o0_bytes_282) all0))
        have Z314 : n0 ≤ T308.heap.size := Nat.le_trans Z0 K313.1
        obtain ⟨LS308, X308, N308⟩ : ∃ L, Stand p l e room_1 s m #[(.int p0), (.int p1), (.int p2), (.int p3)] below meth c T308 L 3 74 ∧ Fr n0 L := ⟨_, X308, N308⟩
        have c316 := (V303.keep K308q (ninS ne_b276_b279 (ninS ne_b276_r_o0_bytes_282 nin0)))
        obtain ⟨cl315, Ar315, Sz315, Nn315, Hs315⟩ := id c316
        have hin315 : ¬ ((4 : Int32) < 0 ∨ cl315.slots.size ≤ ((4 : Int32)).toNatClampNeg) := inb_of Sz315 ⟨by decide, by decide⟩
        obtain ⟨T317, h317, X317, e317, W317, st317⟩ := stB X308 hx hZ rfl Ar315 (j := (4 : Int32)) hin315 (g := (mkF m 198 #[.val (.int p0), .val (.int p1), .val (.int p2), .val (.int p3), .val (.int (1 : Int32)), .val (.int (0 : Int32)), .val (.int (1 : Int32)), .val (.ref b276), .val (.int (4 : Int32)), .val (.ref b279), .val (.int (p2 &&& (255 : Int32))), .unset] [(.int ((p2 &&& (255 : Int32)).toInt8.toInt32)), (.int (4 : Int32)), (.ref b276)])) rfl rfl (hb hby at_198)
        have V317 : own_AI Z h317 b276 .byte (7 : Int32) (own_upd (own_upd (own_upd (own_upd (own_upd (fun _ => 0) 0 (nar .byte ((p0 &&& (255 : Int32)).toInt8.toInt32))) 1 (nar .byte (((p0 >>> ((8 : Int32) &&& 31)) &&& (255 : Int32)).toInt8.toInt32))) 2 (nar .byte (((p0 >>> ((16 : Int32) &&& 31)) &&& (255 : Int32)).toInt8.toInt32))) 3 (nar .byte (((p0 >>> ((24 : Int32) &&& 31)) &&& (255 : Int32)).toInt8.toInt32))) 4 (nar .byte ((p2 &&& (255 : Int32)).toInt8.toInt32))) := own_AI.set c316 (fits_nar_byte ((p2 &&& (255 : Int32)).toInt8.toInt32)) W317
        have K318 : Keep h0 h317 [] := K313.wr W317 (Or.inr sz_b276)
        have Z319 : n0 ≤ h317.size := Nat.le_trans Z0 K318.1
        have N317 := Fr.snoc X317 N308 g_b276
        obtain ⟨LS317, X317, N317⟩ : ∃ L, Stand p l e room_1 s m #[(.int p0), (.int p1), (.int p2), (.int p3)] below meth c T317 L 3 74 ∧ Fr n0 L := ⟨_, X317, N317⟩
        obtain ⟨cq320, kq320, q320a, q320b, q320c⟩ := isOf hZ e317 ((c309.keep K308q).wr W317)
        obtain ⟨_, _, ⟨T320, L320, k320, n320⟩, -, X320, ⟨Lc320, hQ320, l320, y320, z320⟩, st320⟩ := X317.virtualBack hx (y := (⟨"com/example/corvid/corvid/ByteWriter", "toByteArray", "()[B"⟩ : MethodName)) (z := (⟨"com/example/corvid/corvid/ByteWriter", "toByteArray", "()[B"⟩ : MethodName)) hown (mvT hZ (hw _ (List.mem_of_getElem? (i := 29) rfl))) (mvT hZ (hw _ (List.mem_of_getElem? (i := 30) rfl))) (notFace_of_selects (args := #[]) (mvT hZ (hw _ (List.mem_of_getElem? (i := 32) rfl)))) (mvT hZ (hw _ (List.mem_of_getElem? (i := 32) rfl))) (mvT hZ (hw _ (List.mem_of_getElem? (i := 31) rfl))) (by decide) (backOf (W := 0) (rm6 l Z a0 hw [] b279 (((0 : Int32) + (4 : Int32)) + (1 : Int32)) r_o0_bytes_282 (f12_r1_a (p2 &&& (255 : Int32)) ((0 : Int32) + (4 : Int32)) (f3_r1_a p0 (0 : Int32) (fun _ => 0))) h317 n0 Z319 (G308_0.other W317 (Or.inl (Ne.symm ne_b276_b279))) (G308_2.other W317 (Or.inl (Ne.symm ne_b276_b279))) (G308_1.other W317 (Ne.symm ne_b276_r_o0_bytes_282)) (by decide)) hZ (hw _ (List.mem_of_getElem? (i := 33) rfl)) (hw _ (List.mem_of_getElem? (i := 3) rfl)) (by decide) (by decide)) q320a q320c (g := (mkF m 204 #[.val (.int p0), .val (.int p1), .val (.int p2), .val (.int p3), .val (.int (1 : Int32)), .val (.int (0 : Int32)), .val (.int (1 : Int32)), .val (.ref b276), .val (.int (5 : Int32)), .val (.ref b279), .val (.int (p2 &&& (255 : Int32))), .unset] [(.ref b279)])) rfl (by rw [hml]; rfl) (Steps.refl _) (argsL := []) (rest := []) (lenOf pd_0_1 rfl) rfl (by show 2 * 0 + _ ≤ _; exact Nat.le_of_eq rfl) (hb hby at_204) (fun _ _ => ⟨rfl, e317, (by decide : 3 + 1 ≤ _), (by decide : 74 + 16 ≤ _)⟩)
        dsimp only [Pt.U, Pt.locs, Pt.cells, Pt.slots] at X320 l320 y320 z320 st320 hQ320
        subst l320 y320 z320
        obtain ⟨b_320, rfl, N320q, K320q, g_b_320, szq_b_320, G320_0⟩ := hQ320
        have N320 := Fr.app N317 N320q
        have ne_b276_b_320 : b276 ≠ b_320 := Nat.ne_of_lt (Nat.lt_of_lt_of_le V317.lt szq_b_320)
        have ne_b279_b_320 : b279 ≠ b_320 := Nat.ne_of_lt (Nat.lt_of_lt_of_le ((c309.keep K308q).wr W317).lt szq_b_320)
        have ne_r_o0_bytes_282_b_320 : r_o0_bytes_282 ≠ b_320 := Nat.ne_of_lt (Nat.lt_of_lt_of_le (G308_1.other W317 (Ne.symm ne_b276_r_o0_bytes_282)).lt szq_b_320)
        have sz_b_320 : h0.size ≤ b_320 := Nat.le_trans K318.1 szq_b_320
        have K321 : Keep h0 T320.heap [] := K318.trans K320q all0
        have Z322 : n0 ≤ T320.heap.size := Nat.le_trans Z0 K321.1
        obtain ⟨LS320, X320, N320⟩ : ∃ L, Stand p l e room_1 s m #[(.int p0), (.int p1), (.int p2), (.int p3)] below meth c T320 L 4 90 ∧ Fr n0 L := ⟨_, X320, N320⟩
        obtain ⟨cl323, Ar323, Sz323, Nn323, -⟩ := id G320_0
        have pre324 : ∀ t, Steps p.tables e below (T320.setTop (mkF m 214 #[.val (.int p0), .val (.int p1), .val (.int p2), .val (.int p3), .val (.int (1 : Int32)), .val (.int (0 : Int32)), .val (.int (1 : Int32)), .val (.ref b276), .val (.int (5 : Int32)), .val (.ref b279), .val (.ref b_320), .unset] [(.int (5 : Int32)), (.int (((0 : Int32) + (4 : Int32)) + (1 : Int32)))])) t → Steps p.tables e below (s₁.setTop (entryFrame m #[(.int p0), (.int p1), (.int p2), (.int p3)] maxLocals)) t := fun t kt => pre307 t (by
            show Steps p.tables e below (T303.setTop (mkF m 174 #[.val (.int p0), .val (.int p1), .val (.int p2), .val (.int p3), .val (.int (1 : Int32)), .val (.int (0 : Int32)), .val (.int (1 : Int32)), .val (.ref b276), .val (.int (4 : Int32)), .val (.ref b279), .unset, .unset] [(.int (1 : Int32))])) _
            refine XS.ifNo X303.here hx rfl (hb hby at_174) rfl ((if0 _ _).trans (feq (by decide : ¬ ((1 : Int32) = (0 : Int32)))).1) ?_
            show Steps p.tables e below (T303.setTop (mkF m 177 #[.val (.int p0), .val (.int p1), .val (.int p2), .val (.int p3), .val (.int (1 : Int32)), .val (.int (0 : Int32)), .val (.int (1 : Int32)), .val (.ref b276), .val (.int (4 : Int32)), .val (.ref b279), .unset, .unset] [])) _
            refine XS.iloadN X303.here hx rfl (hb hby at_177) rfl ?_
            show Steps p.tables e below (T303.setTop (mkF m 178 #[.val (.int p0), .val (.int p1), .val (.int p2), .val (.int p3), .val (.int (1 : Int32)), .val (.int (0 : Int32)), .val (.int (1 : Int32)), .val (.ref b276), .val (.int (4 : Int32)), .val (.ref b279), .unset, .unset] [(.int p2)])) _
            refine XS.sipush X303.here hx rfl (hb hby at_178) ?_
            show Steps p.tables e below (T303.setTop (mkF m 181 #[.val (.int p0), .val (.int p1), .val (.int p2), .val (.int p3), .val (.int (1 : Int32)), .val (.int (0 : Int32)), .val (.int (1 : Int32)), .val (.ref b276), .val (.int (4 : Int32)), .val (.ref b279), .unset, .unset] [(.int (255 : Int32)), (.int p2)])) _
            refine XS.iand X303.here hx rfl (hb hby at_181) rfl ?_
            show Steps p.tables e below (T303.setTop (mkF m 182 #[.val (.int p0), .val (.int p1), .val (.int p2), .val (.int p3), .val (.int (1 : Int32)), .val (.int (0 : Int32)), .val (.int (1 : Int32)), .val (.ref b276), .val (.int (4 : Int32)), .val (.ref b279), .unset, .unset] [(.int (p2 &&& (255 : Int32)))])) _
            refine XS.istore X303.here hx rfl (hb hby at_182) rfl (l' := #[.val (.int p0), .val (.int p1), .val (.int p2), .val (.int p3), .val (.int (1 : Int32)), .val (.int (0 : Int32)), .val (.int (1 : Int32)), .val (.ref b276), .val (.int (4 : Int32)), .val (.ref b279), .val (.int (p2 &&& (255 : Int32))), .unset]) rfl ?_
            show Steps p.tables e below (T303.setTop (mkF m 184 #[.val (.int p0), .val (.int p1), .val (.int p2), .val (.int p3), .val (.int (1 : Int32)), .val (.int (0 : Int32)), .val (.int (1 : Int32)), .val (.ref b276), .val (.int (4 : Int32)), .val (.ref b279), .val (.int (p2 &&& (255 : Int32))), .unset] [])) _
            refine XS.aload X303.here hx rfl (hb hby at_184) rfl rfl ?_
            show Steps p.tables e below (T303.setTop (mkF m 186 #[.val (.int p0), .val (.int p1), .val (.int p2), .val (.int p3), .val (.int (1 : Int32)), .val (.int (0 : Int32)), .val (.int (1 : Int32)), .val (.ref b276), .val (.int (4 : Int32)), .val (.ref b279), .val (.int (p2 &&& (255 : Int32))), .unset] [(.ref b279)])) _
            refine XS.iload X303.here hx rfl (hb hby at_186) rfl ?_
            show Steps p.tables e below (T303.setTop (mkF m 188 #[.val (.int p0), .val (.int p1), .val (.int p2), .val (.int p3), .val (.int (1 : Int32)), .val (.int (0 : Int32)), .val (.int (1 : Int32)), .val (.ref b276), .val (.int (4 : Int32)), .val (.ref b279), .val (.int (p2 &&& (255 : Int32))), .unset] [(.int (p2 &&& (255 : Int32))), (.ref b279)])) _
            refine st308.trans ?_
            show Steps p.tables e below (T308.setTop (mkF m 191 #[.val (.int p0), .val (.int p1), .val (.int p2), .val (.int p3), .val (.int (1 : Int32)), .val (.int (0 : Int32)), .val (.int (1 : Int32)), .val (.ref b276), .val (.int (4 : Int32)), .val (.ref b279), .val (.int (p2 &&& (255 : Int32))), .unset] [])) _
            refine XS.aload X308.here hx rfl (hb hby at_191) rfl rfl ?_
            show Steps p.tables e below (T308.setTop (mkF m 193 #[.val (.int p0), .val (.int p1), .val (.int p2), .val (.int p3), .val (.int (1 : Int32)), .val (.int (0 : Int32)), .val (.int (1 : Int32)), .val (.ref b276), .val (.int (4 : Int32)), .val (.ref b279), .val (.int (p2 &&& (255 : Int32))), .unset] [(.ref b276)])) _
            refine XS.iload X308.here hx rfl (hb hby at_193) rfl ?_
            show Steps p.tables e below (T308.setTop (mkF m 195 #[.val (.int p0), .val (.int p1), .val (.int p2), .val (.int p3), .val (.int (1 : Int32)), .val (.int (0 : Int32)), .val (.int (1 : Int32)), .val (.ref b276), .val (.int (4 : Int32)), .val (.ref b279), .val (.int (p2 &&& (255 : Int32))), .unset] [(.int (4 : Int32)), (.ref b276)])) _
            refine XS.iload X308.here hx rfl (hb hby at_195) rfl ?_
            show Steps p.tables e below (T308.setTop (mkF m 197 #[.val (.int p0), .val (.int p1), .val (.int p2), .val (.int p3), .val (.int (1 : Int32)), .val (.int (0 : Int32)), .val (.int (1 : Int32)), .val (.ref b276), .val (.int (4 : Int32)), .val (.ref b279), .val (.int (p2 &&& (255 : Int32))), .unset] [(.int (p2 &&& (255 : Int32))), (.int (4 : Int32)), (.ref b276)])) _
            refine XS.i2b X308.here hx rfl (hb hby at_197) rfl ?_
            show Steps p.tables e below (T308.setTop (mkF m 198 #[.val (.int p0), .val (.int p1), .val (.int p2), .val (.int p3), .val (.int (1 : Int32)), .val (.int (0 : Int32)), .val (.int (1 : Int32)), .val (.ref b276), .val (.int (4 : Int32)), .val (.ref b279), .val (.int (p2 &&& (255 : Int32))), .unset] [(.int ((p2 &&& (255 : Int32)).toInt8.toInt32)), (.int (4 : Int32)), (.ref b276)])) _
            refine st317 _ ?_
            show Steps p.tables e below (T317.setTop (mkF m 199 #[.val (.int p0), .val (.int p1), .val (.int p2), .val (.int p3), .val (.int (1 : Int32)), .val (.int (0 : Int32)), .val (.int (1 : Int32)), .val (.ref b276), .val (.int (4 : Int32)), .val (.ref b279), .val (.int (p2 &&& (255 : Int32))), .unset] [])) _
            refine XS.iinc X317.here hx rfl (hb hby at_199) rfl (l' := #[.val (.int p0), .val (.int p1), .val (.int p2), .val (.int p3), .val (.int (1 : Int32)), .val (.int (0 : Int32)), .val (.int (1 : Int32)), .val (.ref b276), .val (.int (5 : Int32)), .val (.ref b279), .val (.int (p2 &&& (255 : Int32))), .unset]) rfl ?_
            show Steps p.tables e below (T317.setTop (mkF m 202 #[.val (.int p0), .val (.int p1), .val (.int p2), .val (.int p3), .val (.int (1 : Int32)), .val (.int (0 : Int32)), .val (.int (1 : Int32)), .val (.ref b276), .val (.int (5 : Int32)), .val (.ref b279), .val (.int (p2 &&& (255 : Int32))), .unset] [])) _
            refine XS.aload X317.here hx rfl (hb hby at_202) rfl rfl ?_
            show Steps p.tables e below (T317.setTop (mkF m 204 #[.val (.int p0), .val (.int p1), .val (.int p2), .val (.int p3), .val (.int (1 : Int32)), .val (.int (0 : Int32)), .val (.int (1 : Int32)), .val (.ref b276), .val (.int (5 : Int32)), .val (.ref b279), .val (.int (p2 &&& (255 : Int32))), .unset] [(.ref b279)])) _
            refine st320.trans ?_
            show Steps p.tables e below (T320.setTop (mkF m 207 #[.val (.int p0), .val (.int p1), .val (.int p2), .val (.int p3), .val (.int (1 : Int32)), .val (.int (0 : Int32)), .val (.int (1 : Int32)), .val (.ref b276), .val (.int (5 : Int32)), .val (.ref b279), .val (.int (p2 &&& (255 : Int32))), .unset] [(.ref b_320)])) _
            refine XS.astore X320.here hx rfl (hb hby at_207) rfl rfl (l' := #[.val (.int p0), .val (.int p1), .val (.int p2), .val (.int p3), .val (.int (1 : Int32)), .val (.int (0 : Int32)), .val (.int (1 : Int32)), .val (.ref b276), .val (.int (5 : Int32)), .val (.ref b279), .val (.ref b_320), .unset]) rfl ?_
            show Steps p.tables e below (T320.setTop (mkF m 209 #[.val (.int p0), .val (.int p1), .val (.int p2), .val (.int p3), .val (.int (1 : Int32)), .val (.int (0 : Int32)), .val (.int (1 : Int32)), .val (.ref b276), .val (.int (5 : Int32)), .val (.ref b279), .val (.ref b_320), .unset] [])) _
            refine XS.aload X320.here hx rfl (hb hby at_209) rfl rfl ?_
            show Steps p.tables e below (T320.setTop (mkF m 211 #[.val (.int p0), .val (.int p1), .val (.int p2), .val (.int p3), .val (.int (1 : Int32)), .val (.int (0 : Int32)), .val (.int (1 : Int32)), .val (.ref b276), .val (.int (5 : Int32)), .val (.ref b279), .val (.ref b_320), .unset] [(.ref b_320)])) _
            refine X320.arraylength hx Ar323.1 (State.isArrayOf_alike hZ.alike Ar323.2.1) (g := (mkF m 211 #[.val (.int p0), .val (.int p1), .val (.int p2), .val (.int p3), .val (.int (1 : Int32)), .val (.int (0 : Int32)), .val (.int (1 : Int32)), .val (.ref b276), .val (.int (5 : Int32)), .val (.ref b279), .val (.ref b_320), .unset] [(.ref b_320)])) rfl rfl (hb hby at_211) _ ?_
            rw [len_of Sz323 Nn323]
            show Steps p.tables e below (T320.setTop (mkF m 212 #[.val (.int p0), .val (.int p1), .val (.int p2), .val (.int p3), .val (.int (1 : Int32)), .val (.int (0 : Int32)), .val (.int (1 : Int32)), .val (.ref b276), .val (.int (5 : Int32)), .val (.ref b279), .val (.ref b_320), .unset] [(.int (((0 : Int32) + (4 : Int32)) + (1 : Int32)))])) _
            refine XS.iload X320.here hx rfl (hb hby at_212) rfl ?_
            exact kt)
        have hd214_325 : (((0 : Int32) + (4 : Int32)) + (1 : Int32)) = (5 : Int32) := by decide
        obtain ⟨_, _, ⟨T326, L326, k326, n326⟩, -, X326, ⟨Lc326, hQ326, l326, y326, z326⟩, st326⟩ := Jvm.LawKit.callS X320 hx (y := (⟨"com/example/corvid/corvid/ByteWriterToByteArrayPinLaw", "same", "([B[BI)Z"⟩ : MethodName)) hown (mvT hZ (hw _ (List.mem_of_getElem? (i := 45) rfl))) (mvT hZ (hw _ (List.mem_of_getElem? (i := 46) rfl))) (mvT hZ (hw _ (List.mem_of_getElem? (i := 47) rfl))) (mvT hZ (hw _ (List.mem_of_getElem? (i := 48) rfl))) (by decide) (backOf (W := 0) (rm9 l Z a0 hw [] b_320 b276 (5 : Int32) (((0 : Int32) + (4 : Int32)) + (1 : Int32)) (f12_r1_a (p2 &&& (255 : Int32)) ((0 : Int32) + (4 : Int32)) (f3_r1_a p0 (0 : Int32) (fun _ => 0))) (7 : Int32) (own_upd (own_upd (own_upd (own_upd (own_upd (fun _ => 0) 0 (nar .byte ((p0 &&& (255 : Int32)).toInt8.toInt32))) 1 (nar .byte (((p0 >>> ((8 : Int32) &&& 31)) &&& (255 : Int32)).toInt8.toInt32))) 2 (nar .byte (((p0 >>> ((16 : Int32) &&& 31)) &&& (255 : Int32)).toInt8.toInt32))) 3 (nar .byte (((p0 >>> ((24 : Int32) &&& 31)) &&& (255 : Int32)).toInt8.toInt32))) 4 (nar .byte ((p2 &&& (255 : Int32)).toInt8.toInt32))) T320.heap n0 Z322 G320_0 (V317.keep K320q nin0) (by decide)) hZ (hw _ (List.mem_of_getElem? (i := 48) rfl)) (hw _ (List.mem_of_getElem? (i := 47) rfl)) (by decide) (by decide)) (g := (mkF m 225 #[.val (.int p0), .val (.int p1), .val (.int p2), .val (.int p3), .val (.int (1 : Int32)), .val (.int (0 : Int32)), .val (.int (1 : Int32)), .val (.ref b276), .val (.int (5 : Int32)), .val (.ref b279), .val (.ref b_320), .unset] [(.int (5 : Int32)), (.ref b276), (.ref b_320)])) rfl (by rw [hml]; rfl) (argsL := [(.ref b_320), (.ref b276), (.int (5 : Int32))]) (rest := []) (lenOf pd_0_2 rfl) rfl (by show 2 * 0 + _ ≤ _; exact Nat.le_of_eq rfl) (hb hby at_225) (fun _ _ => ⟨rfl, rfl, (by decide : 4 + 0 ≤ _), (by decide : 90 + 0 ≤ _)⟩)
        dsimp only [Pt.U, Pt.locs, Pt.cells, Pt.slots] at X326 l326 y326 z326 st326 hQ326
        subst l326 y326 z326
        obtain ⟨rfl, N326q, e326q⟩ := hQ326
        have N326 := Fr.app N320 N326q
        have pre327 : ∀ t, Steps p.tables e below (T326.setTop (mkF m 228 #[.val (.int p0), .val (.int p1), .val (.int p2), .val (.int p3), .val (.int (1 : Int32)), .val (.int (0 : Int32)), .val (.int (1 : Int32)), .val (.ref b276), .val (.int (5 : Int32)), .val (.ref b279), .val (.ref b_320), .unset] [(.int (f9 (5 : Int32) (f12_r1_a (p2 &&& (255 : Int32)) ((0 : Int32) + (4 : Int32)) (f3_r1_a p0 (0 : Int32) (fun _ => 0))) (own_upd (own_upd (own_upd (own_upd (own_upd (fun _ => 0) 0 (nar .byte ((p0 &&& (255 : Int32)).toInt8.toInt32))) 1 (nar .byte (((p0 >>> ((8 : Int32) &&& 31)) &&& (255 : Int32)).toInt8.toInt32))) 2 (nar .byte (((p0 >>> ((16 : Int32) &&& 31)) &&& (255 : Int32)).toInt8.toInt32))) 3 (nar .byte (((p0 >>> ((24 : Int32) &&& 31)) &&& (255 : Int32)).toInt8.toInt32))) 4 (nar .byte ((p2 &&& (255 : Int32)).toInt8.toInt32)))))])) t → Steps p.tables e below (s₁.setTop (entryFrame m #[(.int p0), (.int p1), (.int p2), (.int p3)] maxLocals)) t := fun t kt => pre324 t (by
            show Steps p.tables e below (T320.setTop (mkF m 214 #[.val (.int p0), .val (.int p1), .val (.int p2), .val (.int p3), .val (.int (1 : Int32)), .val (.int (0 : Int32)), .val (.int (1 : Int32)), .val (.ref b276), .val (.int (5 : Int32)), .val (.ref b279), .val (.ref b_320), .unset] [(.int (5 : Int32)), (.int (((0 : Int32) + (4 : Int32)) + (1 : Int32)))])) _
            refine XS.icmpYes X320.here hx rfl (pc0 := 214) (pc' := 219) rfl (hb hby at_214) rfl (teq hd214_325).1 (by decide) (by decide) ?_
            show Steps p.tables e below (T320.setTop (mkF m 219 #[.val (.int p0), .val (.int p1), .val (.int p2), .val (.int p3), .val (.int (1 : Int32)), .val (.int (0 : Int32)), .val (.int (1 : Int32)), .val (.ref b276), .val (.int (5 : Int32)), .val (.ref b279), .val (.ref b_320), .unset] [])) _
            refine XS.aload X320.here hx rfl (hb hby at_219) rfl rfl ?_
            show Steps p.tables e below (T320.setTop (mkF m 221 #[.val (.int p0), .val (.int p1), .val (.int p2), .val (.int p3), .val (.int (1 : Int32)), .val (.int (0 : Int32)), .val (.int (1 : Int32)), .val (.ref b276), .val (.int (5 : Int32)), .val (.ref b279), .val (.ref b_320), .unset] [(.ref b_320)])) _
            refine XS.aload X320.here hx rfl (hb hby at_221) rfl rfl ?_
            show Steps p.tables e below (T320.setTop (mkF m 223 #[.val (.int p0), .val (.int p1), .val (.int p2), .val (.int p3), .val (.int (1 : Int32)), .val (.int (0 : Int32)), .val (.int (1 : Int32)), .val (.ref b276), .val (.int (5 : Int32)), .val (.ref b279), .val (.ref b_320), .unset] [(.ref b276), (.ref b_320)])) _
            refine XS.iload X320.here hx rfl (hb hby at_223) rfl ?_
            show Steps p.tables e below (T320.setTop (mkF m 225 #[.val (.int p0), .val (.int p1), .val (.int p2), .val (.int p3), .val (.int (1 : Int32)), .val (.int (0 : Int32)), .val (.int (1 : Int32)), .val (.ref b276), .val (.int (5 : Int32)), .val (.ref b279), .val (.ref b_320), .unset] [(.int (5 : Int32)), (.ref b276), (.ref b_320)])) _
            refine st326 _ ?_
            exact kt)
        have hd228_328 : ¬ ((f9 (5 : Int32) (f12_r1_a (p2 &&& (255 : Int32)) ((0 : Int32) + (4 : Int32)) (f3_r1_a p0 (0 : Int32) (fun _ => 0))) (own_upd (own_upd (own_upd (own_upd (own_upd (fun _ => 0) 0 (nar .byte ((p0 &&& (255 : Int32)).toInt8.toInt32))) 1 (nar .byte (((p0 >>> ((8 : Int32) &&& 31)) &&& (255 : Int32)).toInt8.toInt32))) 2 (nar .byte (((p0 >>> ((16 : Int32) &&& 31)) &&& (255 : Int32)).toInt8.toInt32))) 3 (nar .byte (((p0 >>> ((24 : Int32) &&& 31)) &&& (255 : Int32)).toInt8.toInt32))) 4 (nar .byte ((p2 &&& (255 : Int32)).toInt8.toInt32)))) = (0 : Int32)) := own_sm _ _ _ (own_pf101 p0 p1 p2)
        have pre329 : ∀ t, Steps p.tables e below (T326.setTop (mkF m 235 #[.val (.int p0), .val (.int p1), .val (.int p2), .val (.int p3), .val (.int (1 : Int32)), .val (.int (0 : Int32)), .val (.int (1 : Int32)), .val (.ref b276), .val (.int (5 : Int32)), .val (.ref b279), .val (.ref b_320), .unset] [(.int (5 : Int32))])) t → Steps p.tables e below (s₁.setTop (entryFrame m #[(.int p0), (.int p1), (.int p2), (.int p3)] maxLocals)) t := fun t kt => pre327 t (by
            show Steps p.tables e below (T326.setTop (mkF m 228 #[.val (.int p0), .val (.int p1), .val (.int p2), .val (.int p3), .val (.int (1 : Int32)), .val (.int (0 : Int32)), .val (.int (1 : Int32)), .val (.ref b276), .val (.int (5 : Int32)), .val (.ref b279), .val (.ref b_320), .unset] [(.int (f9 (5 : Int32) (f12_r1_a (p2 &&& (255 : Int32)) ((0 : Int32) + (4 : Int32)) (f3_r1_a p0 (0 : Int32) (fun _ => 0))) (own_upd (own_upd (own_upd (own_upd (own_upd (fun _ => 0) 0 (nar .byte ((p0 &&& (255 : Int32)).toInt8.toInt32))) 1 (nar .byte (((p0 >>> ((8 : Int32) &&& 31)) &&& (255 : Int32)).toInt8.toInt32))) 2 (nar .byte (((p0 >>> ((16 : Int32) &&& 31)) &&& (255 : Int32)).toInt8.toInt32))) 3 (nar .byte (((p0 >>> ((24 : Int32) &&& 31)) &&& (255 : Int32)).toInt8.toInt32))) 4 (nar .byte ((p2 &&& (255 : Int32)).toInt8.toInt32)))))])) _
            refine XS.ifYes X326.here hx rfl (pc0 := 228) (pc' := 233) rfl (hb hby at_228) rfl ((if0 _ _).trans (feq hd228_328).2) (by decide) (by decide) ?_
            show Steps p.tables e below (T326.setTop (mkF m 233 #[.val (.int p0), .val (.int p1), .val (.int p2), .val (.int p3), .val (.int (1 : Int32)), .val (.int (0 : Int32)), .val (.int (1 : Int32)), .val (.ref b276), .val (.int (5 : Int32)), .val (.ref b279), .val (.ref b_320), .unset] [])) _
            refine XS.iload X326.here hx rfl (hb hby at_233) rfl ?_
            exact kt)
        obtain ⟨cl330, Ar330, Sz330, Nn330, Hs330⟩ := id G320_0
        have hin330 : ¬ ((0 : Int32) < 0 ∨ cl330.slots.size ≤ ((0 : Int32)).toNatClampNeg) := inb_of Sz330 ⟨by decide, by decide⟩
        have hat330 : cl330.slots[((0 : Int32)).toNatClampNeg]? = some (.int ((f12_r1_a (p2 &&& (255 : Int32)) ((0 : Int32) + (4 : Int32)) (f3_r1_a p0 (0 : Int32) (fun _ => 0))) 0)) := (Hs330 _ (own_lt hin330)).1
        obtain ⟨cl331, Ar331, Sz331, Nn331, Hs331⟩ := id G320_0
        have hin331 : ¬ ((0 : Int32) < 0 ∨ cl331.slots.size ≤ ((0 : Int32)).toNatClampNeg) := inb_of Sz331 ⟨by decide, by decide⟩
        obtain ⟨T332, h332, X332, e332, W332, st332⟩ := stB X326 hx hZ e326q Ar331 (j := (0 : Int32)) hin331 (g := (mkF m 249 #[.val (.int p0), .val (.int p1), .val (.int p2), .val (.int p3), .val (.int (1 : Int32)), .val (.int (0 : Int32)), .val (.int (1 : Int32)), .val (.ref b276), .val (.int (5 : Int32)), .val (.ref b279), .val (.ref b_320), .unset] [(.int ((((f12_r1_a (p2 &&& (255 : Int32)) ((0 : Int32) + (4 : Int32)) (f3_r1_a p0 (0 : Int32) (fun _ => 0))) 0) ^^^ (90 : Int32)).toInt8.toInt32)), (.int (0 : Int32)), (.ref b_320)])) rfl rfl (hb hby at_249)
        have V332 : own_AI Z h332 b_320 .byte (((0 : Int32) + (4 : Int32)) + (1 : Int32)) (own_upd (f12_r1_a (p2 &&& (255 : Int32)) ((0 : Int32) + (4 : Int32)) (f3_r1_a p0 (0 : Int32) (fun _ => 0))) 0 (nar .byte ((((f12_r1_a (p2 &&& (255 : Int32)) ((0 : Int32) + (4 : Int32)) (f3_r1_a p0 (0 : Int32) (fun _ => 0))) 0) ^^^ (90 : Int32)).toInt8.toInt32))) := own_AI.set G320_0 (fits_nar_byte ((((f12_r1_a (p2 &&& (255 : Int32)) ((0 : Int32) + (4 : Int32)) (f3_r1_a p0 (0 : Int32) (fun _ => 0))) 0) ^^^ (90 : Int32)).toInt8.toInt32)) W332
        have K333 : Keep h0 h332 [] := K321.wr W332 (Or.inr sz_b_320)
        have Z334 : n0 ≤ h332.size := Nat.le_trans Z0 K333.1
        have N332 := Fr.snoc X332 N326 g_b_320
        obtain ⟨LS332, X332, N332⟩ : ∃ L, Stand p l e room_1 s m #[(.int p0), (.int p1), (.int p2), (.int p3)] below meth c T332 L 4 90 ∧ Fr n0 L := ⟨_, X332, N332⟩
        have c336 := (((G308_0.other W317 (Or.inl (Ne.symm ne_b276_b279))).keep K320q nin0).other W332 (Or.inl ne_b279_b_320))
        have c337 := (((G308_2.other W317 (Or.inl (Ne.symm ne_b276_b279))).keep K320q nin0).other W332 (Or.inl ne_b279_b_320))
        have c338 := (((G308_1.other W317 (Ne.symm ne_b276_r_o0_bytes_282)).keep K320q nin0).other W332 ne_r_o0_bytes_282_b_320)
        obtain ⟨cq335, kq335, q335a, q335b, q335c⟩ := isOf hZ e332 ((((c309.keep K308q).wr W317).keep K320q).wr W332)
        obtain ⟨_, _, ⟨T335, L335, k335, n335⟩, -, X335, ⟨Lc335, hQ335, l335, y335, z335⟩, st335⟩ := X332.virtualBack hx (y := (⟨"com/example/corvid/corvid/ByteWriter", "toByteArray", "()[B"⟩ : MethodName)) (z := (⟨"com/example/corvid/corvid/ByteWriter", "toByteArray", "()[B"⟩ : MethodName)) hown (mvT hZ (hw _ (List.mem_of_getElem? (i := 29) rfl))) (mvT hZ (hw _ (List.mem_of_getElem? (i := 30) rfl))) (notFace_of_selects (args := #[]) (mvT hZ (hw _ (List.mem_of_getElem? (i := 32) rfl)))) (mvT hZ (hw _ (List.mem_of_getElem? (i := 32) rfl))) (mvT hZ (hw _ (List.mem_of_getElem? (i := 31) rfl))) (by decide) (backOf (W := 0) (rm6 l Z a0 hw [] b279 (((0 : Int32) + (4 : Int32)) + (1 : Int32)) r_o0_bytes_282 (f12_r1_a (p2 &&& (255 : Int32)) ((0 : Int32) + (4 : Int32)) (f3_r1_a p0 (0 : Int32) (fun _ => 0))) h332 n0 Z334 c336 c337 c338 (by decide)) hZ (hw _ (List.mem_of_getElem? (i := 33) rfl)) (hw _ (List.mem_of_getElem? (i := 3) rfl)) (by decide) (by decide)) q335a q335c (g := (mkF m 252 #[.val (.int p0), .val (.int p1), .val (.int p2), .val (.int p3), .val (.int (1 : Int32)), .val (.int (0 : Int32)), .val (.int (1 : Int32)), .val (.ref b276), .val (.int (5 : Int32)), .val (.ref b279), .val (.ref b_320), .unset] [(.ref b279)])) rfl (by rw [hml]; rfl) (Steps.refl _) (argsL := []) (rest := []) (lenOf pd_0_1 rfl) rfl (by show 2 * 0 + _ ≤ _; exact Nat.le_of_eq rfl) (hb hby at_252) (fun _ _ => ⟨rfl, e332, (by decide : 4 + 1 ≤ _), (by decide : 90 + 16 ≤ _)⟩)
        dsimp only [Pt.U, Pt.locs, Pt.cells, Pt.slots] at X335 l335 y335 z335 st335 hQ335
        subst l335 y335 z335
        obtain ⟨b_335, rfl, N335q, K335q, g_b_335, szq_b_335, G335_0⟩ := hQ335
        have N335 := Fr.app N332 N335q
        have ne_b276_b_335 : b276 ≠ b_335 := Nat.ne_of_lt (Nat.lt_of_lt_of_le ((V317.keep K320q nin0).other W332 ne_b276_b_320).lt szq_b_335)
        have ne_b279_b_335 : b279 ≠ b_335 := Nat.ne_of_lt (Nat.lt_of_lt_of_le ((((c309.keep K308q).wr W317).keep K320q).wr W332).lt szq_b_335)
        have ne_r_o0_bytes_282_b_335 : r_o0_bytes_282 ≠ b_335 := Nat.ne_of_lt (Nat.lt_of_lt_of_le c338.lt szq_b_335)
        have ne_b_320_b_335 : b_320 ≠ b_335 := Nat.ne_of_lt (Nat.lt_of_lt_of_le V332.lt szq_b_335)
        have sz_b_335 : h0.size ≤ b_335 := Nat.le_trans K333.1 szq_b_335
        have K339 : Keep h0 T335.heap [] := K333.trans K335q all0
        have Z340 : n0 ≤ T335.heap.size := Nat.le_trans Z0 K339.1
        obtain ⟨LS335, X335, N335⟩ : ∃ L, Stand p l e room_1 s m #[(.int p0), (.int p1), (.int p2), (.int p3)] below meth c T335 L 5 106 ∧ Fr n0 L := ⟨_, X335, N335⟩
        have pre341 : ∀ t, Steps p.tables e below (T335.setTop (mkF m 261 #[.val (.int p0), .val (.int p1), .val (.int p2), .val (.int p3), .val (.int (1 : Int32)), .val (.int (0 : Int32)), .val (.int (1 : Int32)), .val (.ref b276), .val (.int (5 : Int32)), .val (.ref b279), .val (.ref b_320), .val (.ref b_335)] [(.ref b_320), (.ref b_335)])) t → Steps p.tables e below (s₁.setTop (entryFrame m #[(.int p0), (.int p1), (.int p2), (.int p3)] maxLocals)) t := fun t kt => pre329 t (by
            show Steps p.tables e below (T326.setTop (mkF m 235 #[.val (.int p0), .val (.int p1), .val (.int p2), .val (.int p3), .val (.int (1 : Int32)), .val (.int (0 : Int32)), .val (.int (1 : Int32)), .val (.ref b276), .val (.int (5 : Int32)), .val (.ref b279), .val (.ref b_320), .unset] [(.int (5 : Int32))])) _
            refine XS.ifNo X326.here hx rfl (hb hby at_235) rfl ((if0 _ _).trans (tlt (by decide : ((0 : Int32) < (5 : Int32)))).2.2.2) ?_
            show Steps p.tables e below (T326.setTop (mkF m 238 #[.val (.int p0), .val (.int p1), .val (.int p2), .val (.int p3), .val (.int (1 : Int32)), .val (.int (0 : Int32)), .val (.int (1 : Int32)), .val (.ref b276), .val (.int (5 : Int32)), .val (.ref b279), .val (.ref b_320), .unset] [])) _
            refine XS.aload X326.here hx rfl (hb hby at_238) rfl rfl ?_
            show Steps p.tables e below (T326.setTop (mkF m 240 #[.val (.int p0), .val (.int p1), .val (.int p2), .val (.int p3), .val (.int (1 : Int32)), .val (.int (0 : Int32)), .val (.int (1 : Int32)), .val (.ref b276), .val (.int (5 : Int32)), .val (.ref b279), .val (.ref b_320), .unset] [(.ref b_320)])) _
            refine XS.iconst X326.here hx rfl (hb hby at_240) ?_
            show Steps p.tables e below (T326.setTop (mkF m 241 #[.val (.int p0), .val (.int p1), .val (.int p2), .val (.int p3), .val (.int (1 : Int32)), .val (.int (0 : Int32)), .val (.int (1 : Int32)), .val (.ref b276), .val (.int (5 : Int32)), .val (.ref b279), .val (.ref b_320), .unset] [(.int (0 : Int32)), (.ref b_320)])) _
            refine XS.aload X326.here hx rfl (hb hby at_241) rfl rfl ?_
            show Steps p.tables e below (T326.setTop (mkF m 243 #[.val (.int p0), .val (.int p1), .val (.int p2), .val (.int p3), .val (.int (1 : Int32)), .val (.int (0 : Int32)), .val (.int (1 : Int32)), .val (.ref b276), .val (.int (5 : Int32)), .val (.ref b279), .val (.ref b_320), .unset] [(.ref b_320), (.int (0 : Int32)), (.ref b_320)])) _
            refine XS.iconst X326.here hx rfl (hb hby at_243) ?_
            show Steps p.tables e below (T326.setTop (mkF m 244 #[.val (.int p0), .val (.int p1), .val (.int p2), .val (.int p3), .val (.int (1 : Int32)), .val (.int (0 : Int32)), .val (.int (1 : Int32)), .val (.ref b276), .val (.int (5 : Int32)), .val (.ref b279), .val (.ref b_320), .unset] [(.int (0 : Int32)), (.ref b_320), (.int (0 : Int32)), (.ref b_320)])) _
            refine X326.baloadBytes hx (j := (0 : Int32)) (v := (.int ((f12_r1_a (p2 &&& (255 : Int32)) ((0 : Int32) + (4 : Int32)) (f3_r1_a p0 (0 : Int32) (fun _ => 0))) 0))) (by rw [e326q]; exact Ar330.1) (State.isArrayOf_alike hZ.alike Ar330.2.1) Ar330.2.2 hin330 hat330 (g := (mkF m 244 #[.val (.int p0), .val (.int p1), .val (.int p2), .val (.int p3), .val (.int (1 : Int32)), .val (.int (0 : Int32)), .val (.int (1 : Int32)), .val (.ref b276), .val (.int (5 : Int32)), .val (.ref b279), .val (.ref b_320), .unset] [(.int (0 : Int32)), (.ref b_320), (.int (0 : Int32)), (.ref b_320)])) rfl rfl (hb hby at_244) _ ?_
            show Steps p.tables e below (T326.setTop (mkF m 245 #[.val (.int p0), .val (.int p1), .val (.int p2), .val (.int p3), .val (.int (1 : Int32)), .val (.int (0 : Int32)), .val (.int (1 : Int32)), .val (.ref b276), .val (.int (5 : Int32)), .val (.ref b279), .val (.ref b_320), .unset] [(.int ((f12_r1_a (p2 &&& (255 : Int32)) ((0 : Int32) + (4 : Int32)) (f3_r1_a p0 (0 : Int32) (fun _ => 0))) 0)), (.int (0 : Int32)), (.ref b_320)])) _
            refine XS.bipush X326.here hx rfl (hb hby at_245) ?_
            show Steps p.tables e below (T326.setTop (mkF m 247 #[.val (.int p0), .val (.int p1), .val (.int p2), .val (.int p3), .val (.int (1 : Int32)), .val (.int (0 : Int32)), .val (.int (1 : Int32)), .val (.ref b276), .val (.int (5 : Int32)), .val (.ref b279), .val (.ref b_320), .unset] [(.int (90 : Int32)), (.int ((f12_r1_a (p2 &&& (255 : Int32)) ((0 : Int32) + (4 : Int32)) (f3_r1_a p0 (0 : Int32) (fun _ => 0))) 0)), (.int (0 : Int32)), (.ref b_320)])) _
            refine XS.ixor X326.here hx rfl (hb hby at_247) rfl ?_
            show Steps p.tables e below (T326.setTop (mkF m 248 #[.val (.int p0), .val (.int p1), .val (.int p2), .val (.int p3), .val (.int (1 : Int32)), .val (.int (0 : Int32)), .val (.int (1 : Int32)), .val (.ref b276), .val (.int (5 : Int32)), .val (.ref b279), .val (.ref b_320), .unset] [(.int (((f12_r1_a (p2 &&& (255 : Int32)) ((0 : Int32) + (4 : Int32)) (f3_r1_a p0 (0 : Int32) (fun _ => 0))) 0) ^^^ (90 : Int32))), (.int (0 : Int32)), (.ref b_320)])) _
            refine XS.i2b X326.here hx rfl (hb hby at_248) rfl ?_
            show Steps p.tables e below (T326.setTop (mkF m 249 #[.val (.int p0), .val (.int p1), .val (.int p2), .val (.int p3), .val (.int (1 : Int32)), .val (.int (0 : Int32)), .val (.int (1 : Int32)), .val (.ref b276), .val (.int (5 : Int32)), .val (.ref b279), .val (.ref b_320), .unset] [(.int ((((f12_r1_a (p2 &&& (255 : Int32)) ((0 : Int32) + (4 : Int32)) (f3_r1_a p0 (0 : Int32) (fun _ => 0))) 0) ^^^ (90 : Int32)).toInt8.toInt32)), (.int (0 : Int32)), (.ref b_320)])) _
            refine st332 _ ?_
            show Steps p.tables e below (T332.setTop (mkF m 250 #[.val (.int p0), .val (.int p1), .val (.int p2), .val (.int p3), .val (.int (1 : Int32)), .val (.int (0 : Int32)), .val (.int (1 : Int32)), .val (.ref b276), .val (.int (5 : Int32)), .val (.ref b279), .val (.ref b_320), .unset] [])) _
            refine XS.aload X332.here hx rfl (hb hby at_250) rfl rfl ?_
            show Steps p.tables e below (T332.setTop (mkF m 252 #[.val (.int p0), .val (.int p1), .val (.int p2), .val (.int p3), .val (.int (1 : Int32)), .val (.int (0 : Int32)), .val (.int (1 : Int32)), .val (.ref b276), .val (.int (5 : Int32)), .val (.ref b279), .val (.ref b_320), .unset] [(.ref b279)])) _
            refine st335.trans ?_
            show Steps p.tables e below (T335.setTop (mkF m 255 #[.val (.int p0), .val (.int p1), .val (.int p2), .val (.int p3), .val (.int (1 : Int32)), .val (.int (0 : Int32)), .val (.int (1 : Int32)), .val (.ref b276), .val (.int (5 : Int32)), .val (.ref b279), .val (.ref b_320), .unset] [(.ref b_335)])) _
            refine XS.astore X335.here hx rfl (hb hby at_255) rfl rfl (l' := #[.val (.int p0), .val (.int p1), .val (.int p2), .val (.int p3), .val (.int (1 : Int32)), .val (.int (0 : Int32)), .val (.int (1 : Int32)), .val (.ref b276), .val (.int (5 : Int32)), .val (.ref b279), .val (.ref b_320), .val (.ref b_335)]) rfl ?_
            show Steps p.tables e below (T335.setTop (mkF m 257 #[.val (.int p0), .val (.int p1), .val (.int p2), .val (.int p3), .val (.int (1 : Int32)), .val (.int (0 : Int32)), .val (.int (1 : Int32)), .val (.ref b276), .val (.int (5 : Int32)), .val (.ref b279), .val (.ref b_320), .val (.ref b_335)] [])) _
            refine XS.aload X335.here hx rfl (hb hby at_257) rfl rfl ?_
            show Steps p.tables e below (T335.setTop (mkF m 259 #[.val (.int p0), .val (.int p1), .val (.int p2), .val (.int p3), .val (.int (1 : Int32)), .val (.int (0 : Int32)), .val (.int (1 : Int32)), .val (.ref b276), .val (.int (5 : Int32)), .val (.ref b279), .val (.ref b_320), .val (.ref b_335)] [(.ref b_335)])) _
            refine XS.aload X335.here hx rfl (hb hby at_259) rfl rfl ?_
            exact kt)
        obtain ⟨cl342, Ar342, Sz342, Nn342, -⟩ := id G335_0
        have pre343 : ∀ t, Steps p.tables e below (T335.setTop (mkF m 269 #[.val (.int p0), .val (.int p1), .val (.int p2), .val (.int p3), .val (.int (1 : Int32)), .val (.int (0 : Int32)), .val (.int (1 : Int32)), .val (.ref b276), .val (.int (5 : Int32)), .val (.ref b279), .val (.ref b_320), .val (.ref b_335)] [(.int (5 : Int32)), (.int (((0 : Int32) + (4 : Int32)) + (1 : Int32)))])) t → Steps p.tables e below (s₁.setTop (entryFrame m #[(.int p0), (.int p1), (.int p2), (.int p3)] maxLocals)) t := fun t kt => pre341 t (by
            show Steps p.tables e below (T335.setTop (mkF m 261 #[.val (.int p0), .val (.int p1), .val (.int p2), .val (.int p3), .val (.int (1 : Int32)), .val (.int (0 : Int32)), .val (.int (1 : Int32)), .val (.ref b276), .val (.int (5 : Int32)), .val (.ref b279), .val (.ref b_320), .val (.ref b_335)] [(.ref b_320), (.ref b_335)])) _
            refine Jvm.RoadKit.acmp (g := (mkF m 261 #[.val (.int p0), .val (.int p1), .val (.int p2), .val (.int p3), .val (.int (1 : Int32)), .val (.int (0 : Int32)), .val (.int (1 : Int32)), .val (.ref b276), .val (.int (5 : Int32)), .val (.ref b279), .val (.ref b_320), .val (.ref b_335)] [(.ref b_320), (.ref b_335)])) X335 hx rfl rfl rfl (pc0 := 261) (pc' := 264) (same := false) rfl (hb hby at_261) rfl (decide_eq_false fun q => (Ne.symm ne_b_320_b_335) (Value.ref.inj q)) (by decide) (by decide) ?_
            show Steps p.tables e below (T335.setTop (mkF m 264 #[.val (.int p0), .val (.int p1), .val (.int p2), .val (.int p3), .val (.int (1 : Int32)), .val (.int (0 : Int32)), .val (.int (1 : Int32)), .val (.ref b276), .val (.int (5 : Int32)), .val (.ref b279), .val (.ref b_320), .val (.ref b_335)] [])) _
            refine XS.aload X335.here hx rfl (hb hby at_264) rfl rfl ?_
            show Steps p.tables e below (T335.setTop (mkF m 266 #[.val (.int p0), .val (.int p1), .val (.int p2), .val (.int p3), .val (.int (1 : Int32)), .val (.int (0 : Int32)), .val (.int (1 : Int32)), .val (.ref b276), .val (.int (5 : Int32)), .val (.ref b279), .val (.ref b_320), .val (.ref b_335)] [(.ref b_335)])) _
            refine X335.arraylength hx Ar342.1 (State.isArrayOf_alike hZ.alike Ar342.2.1) (g := (mkF m 266 #[.val (.int p0), .val (.int p1), .val (.int p2), .val (.int p3), .val (.int (1 : Int32)), .val (.int (0 : Int32)), .val (.int (1 : Int32)), .val (.ref b276), .val (.int (5 : Int32)), .val (.ref b279), .val (.ref b_320), .val (.ref b_335)] [(.ref b_335)])) rfl rfl (hb hby at_266) _ ?_
            rw [len_of Sz342 Nn342]
            show Steps p.tables e below (T335.setTop (mkF m 267 #[.val (.int p0), .val (.int p1), .val (.int p2), .val (.int p3), .val (.int (1 : Int32)), .val (.int (0 : Int32)), .val (.int (1 : Int32)), .val (.ref b276), .val (.int (5 : Int32)), .val (.ref b279), .val (.ref b_320), .val (.ref b_335)] [(.int (((0 : Int32) + (4 : Int32)) + (1 : Int32)))])) _
            refine XS.iload X335.here hx rfl (hb hby at_267) rfl ?_
            exact kt)
        have hd269_344 : (((0 : Int32) + (4 : Int32)) + (1 : Int32)) = (5 : Int32) := by decide
        have c346 := (((V317.keep K320q nin0).other W332 ne_b276_b_320).keep K335q nin0)
        obtain ⟨_, _, ⟨T345, L345, k345, n345⟩, -, X345, ⟨Lc345, hQ345, l345, y345, z345⟩, st345⟩ := Jvm.LawKit.callS X335 hx (y := (⟨"com/example/corvid/corvid/ByteWriterToByteArrayPinLaw", "same", "([B[BI)Z"⟩ : MethodName)) hown (mvT hZ (hw _ (List.mem_of_getElem? (i := 45) rfl))) (mvT hZ (hw _ (List.mem_of_getElem? (i := 46) rfl))) (mvT hZ (hw _ (List.mem_of_getElem? (i := 47) rfl))) (mvT hZ (hw _ (List.mem_of_getElem? (i := 48) rfl))) (by decide) (backOf (W := 0) (rm9 l Z a0 hw [] b_335 b276 (5 : Int32) (((0 : Int32) + (4 : Int32)) + (1 : Int32)) (f12_r1_a (p2 &&& (255 : Int32)) ((0 : Int32) + (4 : Int32)) (f3_r1_a p0 (0 : Int32) (fun _ => 0))) (7 : Int32) (own_upd (own_upd (own_upd (own_upd (own_upd (fun _ => 0) 0 (nar .byte ((p0 &&& (255 : Int32)).toInt8.toInt32))) 1 (nar .byte (((p0 >>> ((8 : Int32) &&& 31)) &&& (255 : Int32)).toInt8.toInt32))) 2 (nar .byte (((p0 >>> ((16 : Int32) &&& 31)) &&& (255 : Int32)).toInt8.toInt32))) 3 (nar .byte (((p0 >>> ((24 : Int32) &&& 31)) &&& (255 : Int32)).toInt8.toInt32))) 4 (nar .byte ((p2 &&& (255 : Int32)).toInt8.toInt32))) T335.heap n0 Z340 G335_0 c346 (by decide)) hZ (hw _ (List.mem_of_getElem? (i := 48) rfl)) (hw _ (List.mem_of_getElem? (i := 47) rfl)) (by decide) (by decide)) (g := (mkF m 278 #[.val (.int p0), .val (.int p1), .val (.int p2), .val (.int p3), .val (.int (1 : Int32)), .val (.int (0 : Int32)), .val (.int (1 : Int32)), .val (.ref b276), .val (.int (5 : Int32)), .val (.ref b279), .val (.ref b_320), .val (.ref b_335)] [(.int (5 : Int32)), (.ref b276), (.ref b_335)])) rfl (by rw [hml]; rfl) (argsL := [(.ref b_335), (.ref b276), (.int (5 : Int32))]) (rest := []) (lenOf pd_0_2 rfl) rfl (by show 2 * 0 + _ ≤ _; exact Nat.le_of_eq rfl) (hb hby at_278) (fun _ _ => ⟨rfl, rfl, (by decide : 5 + 0 ≤ _), (by decide : 106 + 0 ≤ _)⟩)
        dsimp only [Pt.U, Pt.locs, Pt.cells, Pt.slots] at X345 l345 y345 z345 st345 hQ345
        subst l345 y345 z345
        obtain ⟨rfl, N345q, e345q⟩ := hQ345
        have N345 := Fr.app N335 N345q
        have pre347 : ∀ t, Steps p.tables e below (T345.setTop (mkF m 281 #[.val (.int p0), .val (.int p1), .val (.int p2), .val (.int p3), .val (.int (1 : Int32)), .val (.int (0 : Int32)), .val (.int (1 : Int32)), .val (.ref b276), .val (.int (5 : Int32)), .val (.ref b279), .val (.ref b_320), .val (.ref b_335)] [(.int (f9 (5 : Int32) (f12_r1_a (p2 &&& (255 : Int32)) ((0 : Int32) + (4 : Int32)) (f3_r1_a p0 (0 : Int32) (fun _ => 0))) (own_upd (own_upd (own_upd (own_upd (own_upd (fun _ => 0) 0 (nar .byte ((p0 &&& (255 : Int32)).toInt8.toInt32))) 1 (nar .byte (((p0 >>> ((8 : Int32) &&& 31)) &&& (255 : Int32)).toInt8.toInt32))) 2 (nar .byte (((p0 >>> ((16 : Int32) &&& 31)) &&& (255 : Int32)).toInt8.toInt32))) 3 (nar .byte (((p0 >>> ((24 : Int32) &&& 31)) &&& (255 : Int32)).toInt8.toInt32))) 4 (nar .byte ((p2 &&& (255 : Int32)).toInt8.toInt32)))))])) t → Steps p.tables e below (s₁.setTop (entryFrame m #[(.int p0), (.int p1), (.int p2), (.int p3)] maxLocals)) t := fun t kt => pre343 t (by
            show Steps p.tables e below (T335.setTop (mkF m 269 #[.val (.int p0), .val (.int p1), .val (.int p2), .val (.int p3), .val (.int (1 : Int32)), .val (.int (0 : Int32)), .val (.int (1 : Int32)), .val (.ref b276), .val (.int (5 : Int32)), .val (.ref b279), .val (.ref b_320), .val (.ref b_335)] [(.int (5 : Int32)), (.int (((0 : Int32) + (4 : Int32)) + (1 : Int32)))])) _
            refine XS.icmpNo X335.here hx rfl (hb hby at_269) rfl (teq hd269_344).2 ?_
            show Steps p.tables e below (T335.setTop (mkF m 272 #[.val (.int p0), .val (.int p1), .val (.int p2), .val (.int p3), .val (.int (1 : Int32)), .val (.int (0 : Int32)), .val (.int (1 : Int32)), .val (.ref b276), .val (.int (5 : Int32)), .val (.ref b279), .val (.ref b_320), .val (.ref b_335)] [])) _
            refine XS.aload X335.here hx rfl (hb hby at_272) rfl rfl ?_
            show Steps p.tables e below (T335.setTop (mkF m 274 #[.val (.int p0), .val (.int p1), .val (.int p2), .val (.int p3), .val (.int (1 : Int32)), .val (.int (0 : Int32)), .val (.int (1 : Int32)), .val (.ref b276), .val (.int (5 : Int32)), .val (.ref b279), .val (.ref b_320), .val (.ref b_335)] [(.ref b_335)])) _
            refine XS.aload X335.here hx rfl (hb hby at_274) rfl rfl ?_
            show Steps p.tables e below (T335.setTop (mkF m 276 #[.val (.int p0), .val (.int p1), .val (.int p2), .val (.int p3), .val (.int (1 : Int32)), .val (.int (0 : Int32)), .val (.int (1 : Int32)), .val (.ref b276), .val (.int (5 : Int32)), .val (.ref b279), .val (.ref b_320), .val (.ref b_335)] [(.ref b276), (.ref b_335)])) _
            refine XS.iload X335.here hx rfl (hb hby at_276) rfl ?_
            show Steps p.tables e below (T335.setTop (mkF m 278 #[.val (.int p0), .val (.int p1), .val (.int p2), .val (.int p3), .val (.int (1 : Int32)), .val (.int (0 : Int32)), .val (.int (1 : Int32)), .val (.ref b276), .val (.int (5 : Int32)), .val (.ref b279), .val (.ref b_320), .val (.ref b_335)] [(.int (5 : Int32)), (.ref b276), (.ref b_335)])) _
            refine st345 _ ?_
            exact kt)
        have hd281_348 : ¬ ((f9 (5 : Int32) (f12_r1_a (p2 &&& (255 : Int32)) ((0 : Int32) + (4 : Int32)) (f3_r1_a p0 (0 : Int32) (fun _ => 0))) (own_upd (own_upd (own_upd (own_upd (own_upd (fun _ => 0) 0 (nar .byte ((p0 &&& (255 : Int32)).toInt8.toInt32))) 1 (nar .byte (((p0 >>> ((8 : Int32) &&& 31)) &&& (255 : Int32)).toInt8.toInt32))) 2 (nar .byte (((p0 >>> ((16 : Int32) &&& 31)) &&& (255 : Int32)).toInt8.toInt32))) 3 (nar .byte (((p0 >>> ((24 : Int32) &&& 31)) &&& (255 : Int32)).toInt8.toInt32))) 4 (nar .byte ((p2 &&& (255 : Int32)).toInt8.toInt32)))) = (0 : Int32)) := own_sm _ _ _ (own_pf101 p0 p1 p2)
        obtain ⟨fs, hr, hrun, hended, hW, hsame⟩ := X345.leave (v := some (.int (1 : Int32))) (fun h => by rw [Bd.returns] at h; cases h)
        have hv522 : (1 : Int32) = (1 : Int32) := rfl
        refine ⟨_, _, pre347 _ ?_, hrun, hended, _, _, rfl, ?_, ⟨_, rfl⟩, hW, hsame.mono (by decide) (by decide)⟩
        · show Steps p.tables e below (T345.setTop (mkF m 281 #[.val (.int p0), .val (.int p1), .val (.int p2), .val (.int p3), .val (.int (1 : Int32)), .val (.int (0 : Int32)), .val (.int (1 : Int32)), .val (.ref b276), .val (.int (5 : Int32)), .val (.ref b279), .val (.ref b_320), .val (.ref b_335)] [(.int (f9 (5 : Int32) (f12_r1_a (p2 &&& (255 : Int32)) ((0 : Int32) + (4 : Int32)) (f3_r1_a p0 (0 : Int32) (fun _ => 0))) (own_upd (own_upd (own_upd (own_upd (own_upd (fun _ => 0) 0 (nar .byte ((p0 &&& (255 : Int32)).toInt8.toInt32))) 1 (nar .byte (((p0 >>> ((8 : Int32) &&& 31)) &&& (255 : Int32)).toInt8.toInt32))) 2 (nar .byte (((p0 >>> ((16 : Int32) &&& 31)) &&& (255 : Int32)).toInt8.toInt32))) 3 (nar .byte (((p0 >>> ((24 : Int32) &&& 31)) &&& (255 : Int32)).toInt8.toInt32))) 4 (nar .byte ((p2 &&& (255 : Int32)).toInt8.toInt32)))))])) _
          refine XS.ifNo X345.here hx rfl (hb hby at_281) rfl ((if0 _ _).trans (feq hd281_348).1) ?_
          show Steps p.tables e below (T345.setTop (mkF m 284 #[.val (.int p0), .val (.int p1), .val (.int p2), .val (.int p3), .val (.int (1 : Int32)), .val (.int (0 : Int32)), .val (.int (1 : Int32)), .val (.ref b276), .val (.int (5 : Int32)), .val (.ref b279), .val (.ref b_320), .val (.ref b_335)] [])) _
          refine XS.iconst X345.here hx rfl (hb hby at_284) ?_
          show Steps p.tables e below (T345.setTop (mkF m 285 #[.val (.int p0), .val (.int p1), .val (.int p2), .val (.int p3), .val (.int (1 : Int32)), .val (.int (0 : Int32)), .val (.int (1 : Int32)), .val (.ref b276), .val (.int (5 : Int32)), .val (.ref b279), .val (.ref b_320), .val (.ref b_335)] [(.int (1 : Int32))])) _
          refine XS.goto X345.here hx rfl (pc0 := 285) (pc' := 289) rfl (hb hby at_285) (by decide) (by decide) ?_
          show Steps p.tables e below (T345.setTop (mkF m 289 #[.val (.int p0), .val (.int p1), .val (.int p2), .val (.int p3), .val (.int (1 : Int32)), .val (.int (0 : Int32)), .val (.int (1 : Int32)), .val (.ref b276), .val (.int (5 : Int32)), .val (.ref b279), .val (.ref b_320), .val (.ref b_335)] [(.int (1 : Int32))])) _
          exact retN X345 hx (t := .boolean) Bd.returns (by simp) (hb hby at_289) hr
        · show Q0 Z p0 p1 p2 p3 h0 n0 _ T345.heap _
          rw [e345q]
          exact ⟨congrArg (fun q => some (Value.int q)) hv522, N345⟩
    · have pre349 : ∀ t, Steps p.tables e below (s₁.setTop (mkF m 29 #[.val (.int p0), .val (.int p1), .val (.int p2), .val (.int p3), .val (.int (1 : Int32)), .val (.int (1 : Int32)), .unset, .unset, .unset, .unset, .unset, .unset] [(.int (p3 &&& (4 : Int32)))])) t → Steps p.tables e below (s₁.setTop (entryFrame m #[(.int p0), (.int p1), (.int p2), (.int p3)] maxLocals)) t := fun t kt => pre210 t (by
          show Steps p.tables e below (s₁.setTop (mkF m 16 #[.val (.int p0), .val (.int p1), .val (.int p2), .val (.int p3), .val (.int (1 : Int32)), .unset, .unset, .unset, .unset, .unset, .unset, .unset] [(.int (p3 &&& (2 : Int32)))])) _
          refine XS.ifNo X0.here hx rfl (hb hby at_16) rfl ((if0 _ _).trans (feq hc16_211).1) ?_
          show Steps p.tables e below (s₁.setTop (mkF m 19 #[.val (.int p0), .val (.int p1), .val (.int p2), .val (.int p3), .val (.int (1 : Int32)), .unset, .unset, .unset, .unset, .unset, .unset, .unset] [])) _
          refine XS.iconst X0.here hx rfl (hb hby at_19) ?_
          show Steps p.tables e below (s₁.setTop (mkF m 20 #[.val (.int p0), .val (.int p1), .val (.int p2), .val (.int p3), .val (.int (1 : Int32)), .unset, .unset, .unset, .unset, .unset, .unset, .unset] [(.int (1 : Int32))])) _
          refine XS.goto X0.here hx rfl (pc0 := 20) (pc' := 24) rfl (hb hby at_20) (by decide) (by decide) ?_
          show Steps p.tables e below (s₁.setTop (mkF m 24 #[.val (.int p0), .val (.int p1), .val (.int p2), .val (.int p3), .val (.int (1 : Int32)), .unset, .unset, .unset, .unset, .unset, .unset, .unset] [(.int (1 : Int32))])) _
          refine XS.istore X0.here hx rfl (hb hby at_24) rfl (l' := #[.val (.int p0), .val (.int p1), .val (.int p2), .val (.int p3), .val (.int (1 : Int32)), .val (.int (1 : Int32)), .unset, .unset, .unset, .unset, .unset, .unset]) rfl ?_
          show Steps p.tables e below (s₁.setTop (mkF m 26 #[.val (.int p0), .val (.int p1), .val (.int p2), .val (.int p3), .val (.int (1 : Int32)), .val (.int (1 : Int32)), .unset, .unset, .unset, .unset, .unset, .unset] [])) _
          refine XS.iloadN X0.here hx rfl (hb hby at_26) rfl ?_
          show Steps p.tables e below (s₁.setTop (mkF m 27 #[.val (.int p0), .val (.int p1), .val (.int p2), .val (.int p3), .val (.int (1 : Int32)), .val (.int (1 : Int32)), .unset, .unset, .unset, .unset, .unset, .unset] [(.int p3)])) _
          refine XS.iconst X0.here hx rfl (hb hby at_27) ?_
          show Steps p.tables e below (s₁.setTop (mkF m 28 #[.val (.int p0), .val (.int p1), .val (.int p2), .val (.int p3), .val (.int (1 : Int32)), .val (.int (1 : Int32)), .unset, .unset, .unset, .unset, .unset, .unset] [(.int (4 : Int32)), (.int p3)])) _
          refine XS.iand X0.here hx rfl (hb hby at_28) rfl ?_
          exact kt)
      by_cases hc29_350 : (p3 &&& (4 : Int32)) = (0 : Int32)
      · obtain ⟨T351, h351, k351, X351, e351, E351, A351, st351⟩ := newP X0 hx hZ (hw _ (List.mem_of_getElem? (i := 0) rfl)) e0 (g := (mkF m 41 #[.val (.int p0), .val (.int p1), .val (.int p2), .val (.int p3), .val (.int (1 : Int32)), .val (.int (1 : Int32)), .val (.int (0 : Int32)), .unset, .unset, .unset, .unset, .unset] [(.int (7 : Int32))])) rfl (hb hby at_41) rfl (by decide) (cap := 7) (by decide) (by decide) (by decide) (by decide)
        obtain ⟨b351, g351⟩ : ∃ z, z = h0.size := ⟨_, rfl⟩
        rw [← g351] at A351 st351
        have g_b351 : n0 ≤ b351 := Nat.le_trans Z0 (Nat.le_of_eq g351.symm)
        have sz_b351 : h0.size ≤ b351 := Nat.le_trans (Keep.refl h0 []).1 (Nat.le_of_eq g351.symm)
        have K352 : Keep h0 h351 [] := (Keep.refl h0 []).ext E351
        have Z353 : n0 ≤ h351.size := Nat.le_trans Z0 K352.1
        have V_b351 : own_AI Z h351 b351 .byte (7 : Int32) (fun _ => 0) := own_AI.new A351 (by decide) rfl
        obtain ⟨T354, h354, X354, e354, E354, A354, D354, -, st354⟩ := newO X351 hx hZ hown (hw _ (List.mem_of_getElem? (i := 1) rfl)) (hw _ (List.mem_of_getElem? (i := 2) rfl)) (hw _ (List.mem_of_getElem? (i := 3) rfl)) e351 (g := (mkF m 48 #[.val (.int p0), .val (.int p1), .val (.int p2), .val (.int p3), .val (.int (1 : Int32)), .val (.int (1 : Int32)), .val (.int (0 : Int32)), .val (.ref b351), .val (.int (0 : Int32)), .unset, .unset, .unset] [])) rfl (hb hby at_48) (by decide) (by decide)
        obtain ⟨b354, g354⟩ : ∃ z, z = h351.size := ⟨_, rfl⟩
        rw [← g354] at A354 D354 st354
        have g_b354 : n0 ≤ b354 := Nat.le_trans Z353 (Nat.le_of_eq g354.symm)
        have sz_b354 : h0.size ≤ b354 := Nat.le_trans K352.1 (Nat.le_of_eq g354.symm)
        have ne_b351_b354 : b351 ≠ b354 := Nat.ne_of_lt (Nat.lt_of_lt_of_le V_b351.lt (Nat.le_of_eq g354.symm))
        have K355 : Keep h0 h354 [] := K352.ext E354
        have Z356 : n0 ≤ h354.size := Nat.le_trans Z0 K355.1
        have E_b354 := A354
        have F_bytes_b354 : Fld Z h354 b354 "com/example/corvid/corvid/ByteWriter" "bytes" "[B" .null := D354 (Or.inl (hw _ (List.mem_of_getElem? (i := 11) rfl))) (ty := (.array .byte)) (by decide)
        have F_encapsulationStart_b354 : Fld Z h354 b354 "com/example/corvid/corvid/ByteWriter" "encapsulationStart" "I" (.int (0 : Int32)) := D354 (Or.inl (hw _ (List.mem_of_getElem? (i := 13) rfl))) (ty := .int) (by decide)
        have F_length_b354 : Fld Z h354 b354 "com/example/corvid/corvid/ByteWriter" "length" "I" (.int (0 : Int32)) := D354 (Or.inl (hw _ (List.mem_of_getElem? (i := 24) rfl))) (ty := .int) (by decide)
        obtain ⟨_, _, ⟨T357, L357, k357, n357⟩, -, X357, ⟨Lc357, hQ357, l357, y357, z357⟩, st357⟩ := X354.specialBack hx (y := (⟨"com/example/corvid/corvid/ByteWriter", "<init>", "()V"⟩ : MethodName)) rfl hown (mvT hZ (hw _ (List.mem_of_getElem? (i := 4) rfl))) (mvT hZ (hw _ (List.mem_of_getElem? (i := 5) rfl))) (mvT hZ (hw _ (List.mem_of_getElem? (i := 6) rfl))) (by decide) (backOf (W := 1) (rm1 l Z a0 hw [] b354 (0 : Int32) (0 : Int32) h354 n0 Z356 E_b354 F_length_b354 F_bytes_b354 g_b354 F_encapsulationStart_b354) hZ (hw _ (List.mem_of_getElem? (i := 6) rfl)) (hw _ (List.mem_of_getElem? (i := 3) rfl)) (by decide) (by decide)) (g := (mkF m 52 #[.val (.int p0), .val (.int p1), .val (.int p2), .val (.int p3), .val (.int (1 : Int32)), .val (.int (1 : Int32)), .val (.int (0 : Int32)), .val (.ref b351), .val (.int (0 : Int32)), .unset, .unset, .unset] [(.ref b354), (.ref b354)])) rfl (by rw [hml]; rfl) (Steps.refl _) (a := b354) (argsL := []) (rest := [(.ref b354)]) (lenOf pd_0_0 rfl) rfl (by show 2 * 0 + _ ≤ _; exact Nat.le_of_eq rfl) (hb hby at_52) (fun _ _ => ⟨rfl, e354, (by decide : 2 + 1 ≤ _), (by decide : 10 + 64 ≤ _)⟩)
        dsimp only [Pt.U, Pt.locs, Pt.cells, Pt.slots] at X357 l357 y357 z357 st357 hQ357
        subst l357 y357 z357
        obtain ⟨r_o0_bytes_357, rfl, N357q, K357q, g_r_o0_bytes_357, szq_r_o0_bytes_357, G357_0, G357_1, G357_2, G357_3⟩ := hQ357
        have N357 := Fr.app N0 N357q
        have ne_b351_r_o0_bytes_357 : b351 ≠ r_o0_bytes_357 := Nat.ne_of_lt (Nat.lt_of_lt_of_le (V_b351.ext E354).lt szq_r_o0_bytes_357)
        have ne_b354_r_o0_bytes_357 : b354 ≠ r_o0_bytes_357 := Nat.ne_of_lt (Nat.lt_of_lt_of_le E_b354.lt szq_r_o0_bytes_357)
        have sz_r_o0_bytes_357 : h0.size ≤ r_o0_bytes_357 := Nat.le_trans K355.1 szq_r_o0_bytes_357
        have K358 : Keep h0 T357.heap [] := K355.trans K357q (allS (Or.inr sz_b354) all0)
        have Z359 : n0 ≤ T357.heap.size := Nat.le_trans Z0 K358.1
        obtain ⟨LS357, X357, N357⟩ : ∃ L, Stand p l e room_1 s m #[(.int p0), (.int p1), (.int p2), (.int p3)] below meth c T357 L 3 74 ∧ Fr n0 L := ⟨_, X357, N357⟩
        have pre360 : ∀ t, Steps p.tables e below (T357.setTop (mkF m 59 #[.val (.int p0), .val (.int p1), .val (.int p2), .val (.int p3), .val (.int (1 : Int32)), .val (.int (1 : Int32)), .val (.int (0 : Int32)), .val (.ref b351), .val (.int (0 : Int32)), .val (.ref b354), .unset, .unset] [(.int (1 : Int32))])) t → Steps p.tables e below (s₁.setTop (entryFrame m #[(.int p0), (.int p1), (.int p2), (.int p3)] maxLocals)) t := fun t kt => pre349 t (by
            show Steps p.tables e below (s₁.setTop (mkF m 29 #[.val (.int p0), .val (.int p1), .val (.int p2), .val (.int p3), .val (.int (1 : Int32)), .val (.int (1 : Int32)), .unset, .unset, .unset, .unset, .unset, .unset] [(.int (p3 &&& (4 : Int32)))])) _
            refine XS.ifYes X0.here hx rfl (pc0 := 29) (pc' := 36) rfl (hb hby at_29) rfl ((if0 _ _).trans (teq hc29_350).1) (by decide) (by decide) ?_
            show Steps p.tables e below (s₁.setTop (mkF m 36 #[.val (.int p0), .val (.int p1), .val (.int p2), .val (.int p3), .val (.int (1 : Int32)), .val (.int (1 : Int32)), .unset, .unset, .unset, .unset, .unset, .unset] [])) _
            refine XS.iconst X0.here hx rfl (hb hby at_36) ?_
            show Steps p.tables e below (s₁.setTop (mkF m 37 #[.val (.int p0), .val (.int p1), .val (.int p2), .val (.int p3), .val (.int (1 : Int32)), .val (.int (1 : Int32)), .unset, .unset, .unset, .unset, .unset, .unset] [(.int (0 : Int32))])) _
            refine XS.istore X0.here hx rfl (hb hby at_37) rfl (l' := #[.val (.int p0), .val (.int p1), .val (.int p2), .val (.int p3), .val (.int (1 : Int32)), .val (.int (1 : Int32)), .val (.int (0 : Int32)), .unset, .unset, .unset, .unset, .unset]) rfl ?_
            show Steps p.tables e below (s₁.setTop (mkF m 39 #[.val (.int p0), .val (.int p1), .val (.int p2), .val (.int p3), .val (.int (1 : Int32)), .val (.int (1 : Int32)), .val (.int (0 : Int32)), .unset, .unset, .unset, .unset, .unset] [])) _
            refine XS.bipush X0.here hx rfl (hb hby at_39) ?_
            show Steps p.tables e below (s₁.setTop (mkF m 41 #[.val (.int p0), .val (.int p1), .val (.int p2), .val (.int p3), .val (.int (1 : Int32)), .val (.int (1 : Int32)), .val (.int (0 : Int32)), .unset, .unset, .unset, .unset, .unset] [(.int (7 : Int32))])) _
            refine st351 _ ?_
            show Steps p.tables e below (T351.setTop (mkF m 43 #[.val (.int p0), .val (.int p1), .val (.int p2), .val (.int p3), .val (.int (1 : Int32)), .val (.int (1 : Int32)), .val (.int (0 : Int32)), .unset, .unset, .unset, .unset, .unset] [(.ref b351)])) _
            refine XS.astore X351.here hx rfl (hb hby at_43) rfl rfl (l' := #[.val (.int p0), .val (.int p1), .val (.int p2), .val (.int p3), .val (.int (1 : Int32)), .val (.int (1 : Int32)), .val (.int (0 : Int32)), .val (.ref b351), .unset, .unset, .unset, .unset]) rfl ?_
            show Steps p.tables e below (T351.setTop (mkF m 45 #[.val (.int p0), .val (.int p1), .val (.int p2), .val (.int p3), .val (.int (1 : Int32)), .val (.int (1 : Int32)), .val (.int (0 : Int32)), .val (.ref b351), .unset, .unset, .unset, .unset] [])) _
            refine XS.iconst X351.here hx rfl (hb hby at_45) ?_
            show Steps p.tables e below (T351.setTop (mkF m 46 #[.val (.int p0), .val (.int p1), .val (.int p2), .val (.int p3), .val (.int (1 : Int32)), .val (.int (1 : Int32)), .val (.int (0 : Int32)), .val (.ref b351), .unset, .unset, .unset, .unset] [(.int (0 : Int32))])) _
            refine XS.istore X351.here hx rfl (hb hby at_46) rfl (l' := #[.val (.int p0), .val (.int p1), .val (.int p2), .val (.int p3), .val (.int (1 : Int32)), .val (.int (1 : Int32)), .val (.int (0 : Int32)), .val (.ref b351), .val (.int (0 : Int32)), .unset, .unset, .unset]) rfl ?_
            show Steps p.tables e below (T351.setTop (mkF m 48 #[.val (.int p0), .val (.int p1), .val (.int p2), .val (.int p3), .val (.int (1 : Int32)), .val (.int (1 : Int32)), .val (.int (0 : Int32)), .val (.ref b351), .val (.int (0 : Int32)), .unset, .unset, .unset] [])) _
            refine st354 _ ?_
            show Steps p.tables e below (T354.setTop (mkF m 51 #[.val (.int p0), .val (.int p1), .val (.int p2), .val (.int p3), .val (.int (1 : Int32)), .val (.int (1 : Int32)), .val (.int (0 : Int32)), .val (.ref b351), .val (.int (0 : Int32)), .unset, .unset, .unset] [(.ref b354)])) _
            refine XS.dup X354.here hx rfl (hb hby at_51) rfl rfl ?_
            show Steps p.tables e below (T354.setTop (mkF m 52 #[.val (.int p0), .val (.int p1), .val (.int p2), .val (.int p3), .val (.int (1 : Int32)), .val (.int (1 : Int32)), .val (.int (0 : Int32)), .val (.ref b351), .val (.int (0 : Int32)), .unset, .unset, .unset] [(.ref b354), (.ref b354)])) _
            refine st357.trans ?_
            show Steps p.tables e below (T357.setTop (mkF m 55 #[.val (.int p0), .val (.int p1), .val (.int p2), .val (.int p3), .val (.int (1 : Int32)), .val (.int (1 : Int32)), .val (.int (0 : Int32)), .val (.ref b351), .val (.int (0 : Int32)), .unset, .unset, .unset] [(.ref b354)])) _
            refine XS.astore X357.here hx rfl (hb hby at_55) rfl rfl (l' := #[.val (.int p0), .val (.int p1), .val (.int p2), .val (.int p3), .val (.int (1 : Int32)), .val (.int (1 : Int32)), .val (.int (0 : Int32)), .val (.ref b351), .val (.int (0 : Int32)), .val (.ref b354), .unset, .unset]) rfl ?_
            show Steps p.tables e below (T357.setTop (mkF m 57 #[.val (.int p0), .val (.int p1), .val (.int p2), .val (.int p3), .val (.int (1 : Int32)), .val (.int (1 : Int32)), .val (.int (0 : Int32)), .val (.ref b351), .val (.int (0 : Int32)), .val (.ref b354), .unset, .unset] [])) _
            refine XS.iload X357.here hx rfl (hb hby at_57) rfl ?_
            exact kt)
        obtain ⟨cq361, kq361, q361a, q361b, q361c⟩ := isOf hZ rfl (E_b354.keep K357q)
        obtain ⟨_, _, ⟨T361, L361, k361, n361⟩, -, X361, ⟨Lc361, hQ361, l361, y361, z361⟩, st361⟩ := X357.virtualBack hx (y := (⟨"com/example/corvid/corvid/ByteWriter", "writeInt", "(I)V"⟩ : MethodName)) (z := (⟨"com/example/corvid/corvid/ByteWriter", "writeInt", "(I)V"⟩ : MethodName)) hown (mvT hZ (hw _ (List.mem_of_getElem? (i := 14) rfl))) (mvT hZ (hw _ (List.mem_of_getElem? (i := 15) rfl))) (notFace_of_selects (args := #[]) (mvT hZ (hw _ (List.mem_of_getElem? (i := 17) rfl)))) (mvT hZ (hw _ (List.mem_of_getElem? (i := 17) rfl))) (mvT hZ (hw _ (List.mem_of_getElem? (i := 16) rfl))) (by decide) (backOf (W := 0) (rm3 l Z a0 hw [] b354 p0 (0 : Int32) r_o0_bytes_357 (fun _ => 0) T357.heap n0 Z359 (E_b354.keep K357q) G357_3 G357_0 G357_1 ne_b354_r_o0_bytes_357 (by decide) g_b354 g_r_o0_bytes_357) hZ (hw _ (List.mem_of_getElem? (i := 18) rfl)) (hw _ (List.mem_of_getElem? (i := 3) rfl)) (by decide) (by decide)) q361a q361c (g := (mkF m 65 #[.val (.int p0), .val (.int p1), .val (.int p2), .val (.int p3), .val (.int (1 : Int32)), .val (.int (1 : Int32)), .val (.int (0 : Int32)), .val (.ref b351), .val (.int (0 : Int32)), .val (.ref b354), .unset, .unset] [(.int p0), (.ref b354)])) rfl (by rw [hml]; rfl) (Steps.refl _) (argsL := [(.int p0)]) (rest := []) (lenOf pd_0_3 rfl) rfl (by show 2 * 0 + _ ≤ _; exact Nat.le_of_eq rfl) (hb hby at_65) (fun _ _ => ⟨rfl, rfl, (by decide : 3 + 0 ≤ _), (by decide : 74 + 0 ≤ _)⟩)
        dsimp only [Pt.U, Pt.locs, Pt.cells, Pt.slots] at X361 l361 y361 z361 st361 hQ361
        subst l361 y361 z361
        obtain ⟨rfl, N361q, K361q, G361_0, G361_1, G361_2⟩ := hQ361
        have N361 := Fr.app N357 N361q
        have K362 : Keep h0 T361.heap [] := K358.trans K361q (allS (Or.inr sz_r_o0_bytes_357) (allS (Or.inr sz_b354) all0))
        have Z363 : n0 ≤ T361.heap.size := Nat.le_trans Z0 K362.1
        obtain ⟨LS361, X361, N361⟩ : ∃ L, Stand p l e room_1 s m #[(.int p0), (.int p1), (.int p2), (.int p3)] below meth c T361 L 3 74 ∧ Fr n0 L := ⟨_, X361, N361⟩
        have c365 := (((V_b351.ext E354).keep K357q (ninS ne_b351_b354 nin0)).keep K361q (ninS ne_b351_r_o0_bytes_357 (ninS ne_b351_b354 nin0)))
        obtain ⟨cl364, Ar364, Sz364, Nn364, Hs364⟩ := id c365
        have hin364 : ¬ ((0 : Int32) < 0 ∨ cl364.slots.size ≤ ((0 : Int32)).toNatClampNeg) := inb_of Sz364 ⟨by decide, by decide⟩
        obtain ⟨T366, h366, X366, e366, W366, st366⟩ := stB X361 hx hZ rfl Ar364 (j := (0 : Int32)) hin364 (g := (mkF m 78 #[.val (.int p0), .val (.int p1), .val (.int p2), .val (.int p3), .val (.int (1 : Int32)), .val (.int (1 : Int32)), .val (.int (0 : Int32)), .val (.ref b351), .val (.int (0 : Int32)), .val (.ref b354), .unset, .unset] [(.int ((p0 &&& (255 : Int32)).toInt8.toInt32)), (.int (0 : Int32)), (.ref b351)])) rfl rfl (hb hby at_78)
        have V366 : own_AI Z h366 b351 .byte (7 : Int32) (own_upd (fun _ => 0) 0 (nar .byte ((p0 &&& (255 : Int32)).toInt8.toInt32))) := own_AI.set c365 (fits_nar_byte ((p0 &&& (255 : Int32)).toInt8.toInt32)) W366
        have K367 : Keep h0 h366 [] := K362.wr W366 (Or.inr sz_b351)
        have Z368 : n0 ≤ h366.size := Nat.le_trans Z0 K367.1
        have N366 := Fr.snoc X366 N361 g_b351
        obtain ⟨LS366, X366, N366⟩ : ∃ L, Stand p l e room_1 s m #[(.int p0), (.int p1), (.int p2), (.int p3)] below meth c T366 L 3 74 ∧ Fr n0 L := ⟨_, X366, N366⟩
        obtain ⟨cl369, Ar369, Sz369, Nn369, Hs369⟩ := id V366
        have hin369 : ¬ ((1 : Int32) < 0 ∨ cl369.slots.size ≤ ((1 : Int32)).toNatClampNeg) := inb_of Sz369 ⟨by decide, by decide⟩
        obtain ⟨T370, h370, X370, e370, W370, st370⟩ := stB X366 hx hZ e366 Ar369 (j := (1 : Int32)) hin369 (g := (mkF m 94 #[.val (.int p0), .val (.int p1), .val (.int p2), .val (.int p3), .val (.int (1 : Int32)), .val (.int (1 : Int32)), .val (.int (0 : Int32)), .val (.ref b351), .val (.int (0 : Int32)), .val (.ref b354), .unset, .unset] [(.int (((p0 >>> ((8 : Int32) &&& 31)) &&& (255 : Int32)).toInt8.toInt32)), (.int (1 : Int32)), (.ref b351)])) rfl rfl (hb hby at_94)
        have V370 : own_AI Z h370 b351 .byte (7 : Int32) (own_upd (own_upd (fun _ => 0) 0 (nar .byte ((p0 &&& (255 : Int32)).toInt8.toInt32))) 1 (nar .byte (((p0 >>> ((8 : Int32) &&& 31)) &&& (255 : Int32)).toInt8.toInt32))) := own_AI.set V366 (fits_nar_byte (((p0 >>> ((8 : Int32) &&& 31)) &&& (255 : Int32)).toInt8.toInt32)) W370
        have K371 : Keep h0 h370 [] := K367.wr W370 (Or.inr sz_b351)
        have Z372 : n0 ≤ h370.size := Nat.le_trans Z0 K371.1
        have N370 := Fr.snoc X370 N366 g_b351
        obtain ⟨LS370, X370, N370⟩ : ∃ L, Stand p l e room_1 s m #[(.int p0), (.int p1), (.int p2), (.int p3)] below meth c T370 L 3 74 ∧ Fr n0 L := ⟨_, X370, N370⟩
        obtain ⟨cl373, Ar373, Sz373, Nn373, Hs373⟩ := id V370
        have hin373 : ¬ ((2 : Int32) < 0 ∨ cl373.slots.size ≤ ((2 : Int32)).toNatClampNeg) := inb_of Sz373 ⟨by decide, by decide⟩
        obtain ⟨T374, h374, X374, e374, W374, st374⟩ := stB X370 hx hZ e370 Ar373 (j := (2 : Int32)) hin373 (g := (mkF m 110 #[.val (.int p0), .val (.int p1), .val (.int p2), .val (.int p3), .val (.int (1 : Int32)), .val (.int (1 : Int32)), .val (.int (0 : Int32)), .val (.ref b351), .val (.int (0 : Int32)), .val (.ref b354), .unset, .unset] [(.int (((p0 >>> ((16 : Int32) &&& 31)) &&& (255 : Int32)).toInt8.toInt32)), (.int (2 : Int32)), (.ref b351)])) rfl rfl (hb hby at_110)
        have V374 : own_AI Z h374 b351 .byte (7 : Int32) (own_upd (own_upd (own_upd (fun _ => 0) 0 (nar .byte ((p0 &&& (255 : Int32)).toInt8.toInt32))) 1 (nar .byte (((p0 >>> ((8 : Int32) &&& 31)) &&& (255 : Int32)).toInt8.toInt32))) 2 (nar .byte (((p0 >>> ((16 : Int32) &&& 31)) &&& (255 : Int32)).toInt8.toInt32))) := own_AI.set V370 (fits_nar_byte (((p0 >>> ((16 : Int32) &&& 31)) &&& (255 : Int32)).toInt8.toInt32)) W374
        have K375 : Keep h0 h374 [] := K371.wr W374 (Or.inr sz_b351)
        have Z376 : n0 ≤ h374.size := Nat.le_trans Z0 K375.1
        have N374 := Fr.snoc X374 N370 g_b351
        obtain ⟨LS374, X374, N374⟩ : ∃ L, Stand p l e room_1 s m #[(.int p0), (.int p1), (.int p2), (.int p3)] below meth c T374 L 3 74 ∧ Fr n0 L := ⟨_, X374, N374⟩
        obtain ⟨cl377, Ar377, Sz377, Nn377, Hs377⟩ := id V374
        have hin377 : ¬ ((3 : Int32) < 0 ∨ cl377.slots.size ≤ ((3 : Int32)).toNatClampNeg) := inb_of Sz377 ⟨by decide, by decide⟩
        obtain ⟨T378, h378, X378, e378, W378, st378⟩ := stB X374 hx hZ e374 Ar377 (j := (3 : Int32)) hin377 (g := (mkF m 126 #[.val (.int p0), .val (.int p1), .val (.int p2), .val (.int p3), .val (.int (1 : Int32)), .val (.int (1 : Int32)), .val (.int (0 : Int32)), .val (.ref b351), .val (.int (0 : Int32)), .val (.ref b354), .unset, .unset] [(.int (((p0 >>> ((24 : Int32) &&& 31)) &&& (255 : Int32)).toInt8.toInt32)), (.int (3 : Int32)), (.ref b351)])) rfl rfl (hb hby at_126)
        have V378 : own_AI Z h378 b351 .byte (7 : Int32) (own_upd (own_upd (own_upd (own_upd (fun _ => 0) 0 (nar .byte ((p0 &&& (255 : Int32)).toInt8.toInt32))) 1 (nar .byte (((p0 >>> ((8 : Int32) &&& 31)) &&& (255 : Int32)).toInt8.toInt32))) 2 (nar .byte (((p0 >>> ((16 : Int32) &&& 31)) &&& (255 : Int32)).toInt8.toInt32))) 3 (nar .byte (((p0 >>> ((24 : Int32) &&& 31)) &&& (255 : Int32)).toInt8.toInt32))) := own_AI.set V374 (fits_nar_byte (((p0 >>> ((24 : Int32) &&& 31)) &&& (255 : Int32)).toInt8.toInt32)) W378
        have K379 : Keep h0 h378 [] := K375.wr W378 (Or.inr sz_b351)
        have Z380 : n0 ≤ h378.size := Nat.le_trans Z0 K379.1
        have N378 := Fr.snoc X378 N374 g_b351
        obtain ⟨LS378, X378, N378⟩ : ∃ L, Stand p l e room_1 s m #[(.int p0), (.int p1), (.int p2), (.int p3)] below meth c T378 L 3 74 ∧ Fr n0 L := ⟨_, X378, N378⟩
        have pre381 : ∀ t, Steps p.tables e below (T378.setTop (mkF m 132 #[.val (.int p0), .val (.int p1), .val (.int p2), .val (.int p3), .val (.int (1 : Int32)), .val (.int (1 : Int32)), .val (.int (0 : Int32)), .val (.ref b351), .val (.int (4 : Int32)), .val (.ref b354), .unset, .unset] [(.int (1 : Int32))])) t → Steps p.tables e below (s₁.setTop (entryFrame m #[(.int p0), (.int p1), (.int p2), (.int p3)] maxLocals)) t := fun t kt => pre360 t (by
            show Steps p.tables e below (T357.setTop (mkF m 59 #[.val (.int p0), .val (.int p1), .val (.int p2), .val (.int p3), .val (.int (1 : Int32)), .val (.int (1 : Int32)), .val (.int (0 : Int32)), .val (.ref b351), .val (.int (0 : Int32)), .val (.ref b354), .unset, .unset] [(.int (1 : Int32))])) _
            refine XS.ifNo X357.here hx rfl (hb hby at_59) rfl ((if0 _ _).trans (feq (by decide : ¬ ((1 : Int32) = (0 : Int32)))).1) ?_
            show Steps p.tables e below (T357.setTop (mkF m 62 #[.val (.int p0), .val (.int p1), .val (.int p2), .val (.int p3), .val (.int (1 : Int32)), .val (.int (1 : Int32)), .val (.int (0 : Int32)), .val (.ref b351), .val (.int (0 : Int32)), .val (.ref b354), .unset, .unset] [])) _
            refine XS.aload X357.here hx rfl (hb hby at_62) rfl rfl ?_
            show Steps p.tables e below (T357.setTop (mkF m 64 #[.val (.int p0), .val (.int p1), .val (.int p2), .val (.int p3), .val (.int (1 : Int32)), .val (.int (1 : Int32)), .val (.int (0 : Int32)), .val (.ref b351), .val (.int (0 : Int32)), .val (.ref b354), .unset, .unset] [(.ref b354)])) _
            refine XS.iloadN X357.here hx rfl (hb hby at_64) rfl ?_
            show Steps p.tables e below (T357.setTop (mkF m 65 #[.val (.int p0), .val (.int p1), .val (.int p2), .val (.int p3), .val (.int (1 : Int32)), .val (.int (1 : Int32)), .val (.int (0 : Int32)), .val (.ref b351), .val (.int (0 : Int32)), .val (.ref b354), .unset, .unset] [(.int p0), (.ref b354)])) _
            refine st361.trans ?_
            show Steps p.tables e below (T361.setTop (mkF m 68 #[.val (.int p0), .val (.int p1), .val (.int p2), .val (.int p3), .val (.int (1 : Int32)), .val (.int (1 : Int32)), .val (.int (0 : Int32)), .val (.ref b351), .val (.int (0 : Int32)), .val (.ref b354), .unset, .unset] [])) _
            refine XS.aload X361.here hx rfl (hb hby at_68) rfl rfl ?_
            show Steps p.tables e below (T361.setTop (mkF m 70 #[.val (.int p0), .val (.int p1), .val (.int p2), .val (.int p3), .val (.int (1 : Int32)), .val (.int (1 : Int32)), .val (.int (0 : Int32)), .val (.ref b351), .val (.int (0 : Int32)), .val (.ref b354), .unset, .unset] [(.ref b351)])) _
            refine XS.iload X361.here hx rfl (hb hby at_70) rfl ?_
            show Steps p.tables e below (T361.setTop (mkF m 72 #[.val (.int p0), .val (.int p1), .val (.int p2), .val (.int p3), .val (.int (1 : Int32)), .val (.int (1 : Int32)), .val (.int (0 : Int32)), .val (.ref b351), .val (.int (0 : Int32)), .val (.ref b354), .unset, .unset] [(.int (0 : Int32)), (.ref b351)])) _
            refine XS.iloadN X361.here hx rfl (hb hby at_72) rfl ?_
            show Steps p.tables e below (T361.setTop (mkF m 73 #[.val (.int p0), .val (.int p1), .val (.int p2), .val (.int p3), .val (.int (1 : Int32)), .val (.int (1 : Int32)), .val (.int (0 : Int32)), .val (.ref b351), .val (.int (0 : Int32)), .val (.ref b354), .unset, .unset] [(.int p0), (.int (0 : Int32)), (.ref b351)])) _
            refine XS.sipush X361.here hx rfl (hb hby at_73) ?_
            show Steps p.tables e below (T361.setTop (mkF m 76 #[.val (.int p0), .val (.int p1), .val (.int p2), .val (.int p3), .val (.int (1 : Int32)), .val (.int (1 : Int32)), .val (.int (0 : Int32)), .val (.ref b351), .val (.int (0 : Int32)), .val (.ref b354), .unset, .unset] [(.int (255 : Int32)), (.int p0), (.int (0 : Int32)), (.ref b351)])) _
            refine XS.iand X361.here hx rfl (hb hby at_76) rfl ?_
            show Steps p.tables e below (T361.setTop (mkF m 77 #[.val (.int p0), .val (.int p1), .val (.int p2), .val (.int p3), .val (.int (1 : Int32)), .val (.int (1 : Int32)), .val (.int (0 : Int32)), .val (.ref b351), .val (.int (0 : Int32)), .val (.ref b354), .unset, .unset] [(.int (p0 &&& (255 : Int32))), (.int (0 : Int32)), (.ref b351)])) _
            refine XS.i2b X361.here hx rfl (hb hby at_77) rfl ?_
            show Steps p.tables e below (T361.setTop (mkF m 78 #[.val (.int p0), .val (.int p1), .val (.int p2), .val (.int p3), .val (.int (1 : Int32)), .val (.int (1 : Int32)), .val (.int (0 : Int32)), .val (.ref b351), .val (.int (0 : Int32)), .val (.ref b354), .unset, .unset] [(.int ((p0 &&& (255 : Int32)).toInt8.toInt32)), (.int (0 : Int32)), (.ref b351)])) _
            refine st366 _ ?_
            show Steps p.tables e below (T366.setTop (mkF m 79 #[.val (.int p0), .val (.int p1), .val (.int p2), .val (.int p3), .val (.int (1 : Int32)), .val (.int (1 : Int32)), .val (.int (0 : Int32)), .val (.ref b351), .val (.int (0 : Int32)), .val (.ref b354), .unset, .unset] [])) _
            refine XS.aload X366.here hx rfl (hb hby at_79) rfl rfl ?_
            show Steps p.tables e below (T366.setTop (mkF m 81 #[.val (.int p0), .val (.int p1), .val (.int p2), .val (.int p3), .val (.int (1 : Int32)), .val (.int (1 : Int32)), .val (.int (0 : Int32)), .val (.ref b351), .val (.int (0 : Int32)), .val (.ref b354), .unset, .unset] [(.ref b351)])) _
            refine XS.iload X366.here hx rfl (hb hby at_81) rfl ?_
            show Steps p.tables e below (T366.setTop (mkF m 83 #[.val (.int p0), .val (.int p1), .val (.int p2), .val (.int p3), .val (.int (1 : Int32)), .val (.int (1 : Int32)), .val (.int (0 : Int32)), .val (.ref b351), .val (.int (0 : Int32)), .val (.ref b354), .unset, .unset] [(.int (0 : Int32)), (.ref b351)])) _
            refine XS.iconst X366.here hx rfl (hb hby at_83) ?_
            show Steps p.tables e below (T366.setTop (mkF m 84 #[.val (.int p0), .val (.int p1), .val (.int p2), .val (.int p3), .val (.int (1 : Int32)), .val (.int (1 : Int32)), .val (.int (0 : Int32)), .val (.ref b351), .val (.int (0 : Int32)), .val (.ref b354), .unset, .unset] [(.int (1 : Int32)), (.int (0 : Int32)), (.ref b351)])) _
            refine XS.iadd X366.here hx rfl (hb hby at_84) rfl ?_
            show Steps p.tables e below (T366.setTop (mkF m 85 #[.val (.int p0), .val (.int p1), .val (.int p2), .val (.int p3), .val (.int (1 : Int32)), .val (.int (1 : Int32)), .val (.int (0 : Int32)), .val (.ref b351), .val (.int (0 : Int32)), .val (.ref b354), .unset, .unset] [(.int (1 : Int32)), (.ref b351)])) _
            refine XS.iloadN X366.here hx rfl (hb hby at_85) rfl ?_
            show Steps p.tables e below (T366.setTop (mkF m 86 #[.val (.int p0), .val (.int p1), .val (.int p2), .val (.int p3), .val (.int (1 : Int32)), .val (.int (1 : Int32)), .val (.int (0 : Int32)), .val (.ref b351), .val (.int (0 : Int32)), .val (.ref b354), .unset, .unset] [(.int p0), (.int (1 : Int32)), (.ref b351)])) _
            refine XS.bipush X366.here hx rfl (hb hby at_86) ?_
            show Steps p.tables e below (T366.setTop (mkF m 88 #[.val (.int p0), .val (.int p1), .val (.int p2), .val (.int p3), .val (.int (1 : Int32)), .val (.int (1 : Int32)), .val (.int (0 : Int32)), .val (.ref b351), .val (.int (0 : Int32)), .val (.ref b354), .unset, .unset] [(.int (8 : Int32)), (.int p0), (.int (1 : Int32)), (.ref b351)])) _
            refine XS.ishr X366.here hx rfl (hb hby at_88) rfl ?_
            show Steps p.tables e below (T366.setTop (mkF m 89 #[.val (.int p0), .val (.int p1), .val (.int p2), .val (.int p3), .val (.int (1 : Int32)), .val (.int (1 : Int32)), .val (.int (0 : Int32)), .val (.ref b351), .val (.int (0 : Int32)), .val (.ref b354), .unset, .unset] [(.int (p0 >>> ((8 : Int32) &&& 31))), (.int (1 : Int32)), (.ref b351)])) _
            refine XS.sipush X366.here hx rfl (hb hby at_89) ?_
            show Steps p.tables e below (T366.setTop (mkF m 92 #[.val (.int p0), .val (.int p1), .val (.int p2), .val (.int p3), .val (.int (1 : Int32)), .val (.int (1 : Int32)), .val (.int (0 : Int32)), .val (.ref b351), .val (.int (0 : Int32)), .val (.ref b354), .unset, .unset] [(.int (255 : Int32)), (.int (p0 >>> ((8 : Int32) &&& 31))), (.int (1 : Int32)), (.ref b351)])) _
            refine XS.iand X366.here hx rfl (hb hby at_92) rfl ?_
            show Steps p.tables e below (T366.setTop (mkF m 93 #[.val (.int p0), .val (.int p1), .val (.int p2), .val (.int p3), .val (.int (1 : Int32)), .val (.int (1 : Int32)), .val (.int (0 : Int32)), .val (.ref b351), .val (.int (0 : Int32)), .val (.ref b354), .unset, .unset] [(.int ((p0 >>> ((8 : Int32) &&& 31)) &&& (255 : Int32))), (.int (1 : Int32)), (.ref b351)])) _
            refine XS.i2b X366.here hx rfl (hb hby at_93) rfl ?_
            show Steps p.tables e below (T366.setTop (mkF m 94 #[.val (.int p0), .val (.int p1), .val (.int p2), .val (.int p3), .val (.int (1 : Int32)), .val (.int (1 : Int32)), .val (.int (0 : Int32)), .val (.ref b351), .val (.int (0 : Int32)), .val (.ref b354), .unset, .unset] [(.int (((p0 >>> ((8 : Int32) &&& 31)) &&& (255 : Int32)).toInt8.toInt32)), (.int (1 : Int32)), (.ref b351)])) _
            refine st370 _ ?_
            show Steps p.tables e below (T370.setTop (mkF m 95 #[.val (.int p0), .val (.int p1), .val (.int p2), .val (.int p3), .val (.int (1 : Int32)), .val (.int (1 : Int32)), .val (.int (0 : Int32)), .val (.ref b351), .val (.int (0 : Int32)), .val (.ref b354), .unset, .unset] [])) _
            refine XS.aload X370.here hx rfl (hb hby at_95) rfl rfl ?_
            show Steps p.tables e below (T370.setTop (mkF m 97 #[.val (.int p0), .val (.int p1), .val (.int p2), .val (.int p3), .val (.int (1 : Int32)), .val (.int (1 : Int32)), .val (.int (0 : Int32)), .val (.ref b351), .val (.int (0 : Int32)), .val (.ref b354), .unset, .unset] [(.ref b351)])) _
            refine XS.iload X370.here hx rfl (hb hby at_97) rfl ?_
            show Steps p.tables e below (T370.setTop (mkF m 99 #[.val (.int p0), .val (.int p1), .val (.int p2), .val (.int p3), .val (.int (1 : Int32)), .val (.int (1 : Int32)), .val (.int (0 : Int32)), .val (.ref b351), .val (.int (0 : Int32)), .val (.ref b354), .unset, .unset] [(.int (0 : Int32)), (.ref b351)])) _
            refine XS.iconst X370.here hx rfl (hb hby at_99) ?_
            show Steps p.tables e below (T370.setTop (mkF m 100 #[.val (.int p0), .val (.int p1), .val (.int p2), .val (.int p3), .val (.int (1 : Int32)), .val (.int (1 : Int32)), .val (.int (0 : Int32)), .val (.ref b351), .val (.int (0 : Int32)), .val (.ref b354), .unset, .unset] [(.int (2 : Int32)), (.int (0 : Int32)), (.ref b351)])) _
            refine XS.iadd X370.here hx rfl (hb hby at_100) rfl ?_
            show Steps p.tables e below (T370.setTop (mkF m 101 #[.val (.int p0), .val (.int p1), .val (.int p2), .val (.int p3), .val (.int (1 : Int32)), .val (.int (1 : Int32)), .val (.int (0 : Int32)), .val (.ref b351), .val (.int (0 : Int32)), .val (.ref b354), .unset, .unset] [(.int (2 : Int32)), (.ref b351)])) _
            refine XS.iloadN X370.here hx rfl (hb hby at_101) rfl ?_
            show Steps p.tables e below (T370.setTop (mkF m 102 #[.val (.int p0), .val (.int p1), .val (.int p2), .val (.int p3), .val (.int (1 : Int32)), .val (.int (1 : Int32)), .val (.int (0 : Int32)), .val (.ref b351), .val (.int (0 : Int32)), .val (.ref b354), .unset, .unset] [(.int p0), (.int (2 : Int32)), (.ref b351)])) _
            refine XS.bipush X370.here hx rfl (hb hby at_102) ?_
            show Steps p.tables e below (T370.setTop (mkF m 104 #[.val (.int p0), .val (.int p1), .val (.int p2), .val (.int p3), .val (.int (1 : Int32)), .val (.int (1 : Int32)), .val (.int (0 : Int32)), .val (.ref b351), .val (.int (0 : Int32)), .val (.ref b354), .unset, .unset] [(.int (16 : Int32)), (.int p0), (.int (2 : Int32)), (.ref b351)])) _
            refine XS.ishr X370.here hx rfl (hb hby at_104) rfl ?_
            show Steps p.tables e below (T370.setTop (mkF m 105 #[.val (.int p0), .val (.int p1), .val (.int p2), .val (.int p3), .val (.int (1 : Int32)), .val (.int (1 : Int32)), .val (.int (0 : Int32)), .val (.ref b351), .val (.int (0 : Int32)), .val (.ref b354), .unset, .unset] [(.int (p0 >>> ((16 : Int32) &&& 31))), (.int (2 : Int32)), (.ref b351)])) _
            refine XS.sipush X370.here hx rfl (hb hby at_105) ?_
            show Steps p.tables e below (T370.setTop (mkF m 108 #[.val (.int p0), .val (.int p1), .val (.int p2), .val (.int p3), .val (.int (1 : Int32)), .val (.int (1 : Int32)), .val (.int (0 : Int32)), .val (.ref b351), .val (.int (0 : Int32)), .val (.ref b354), .unset, .unset] [(.int (255 : Int32)), (.int (p0 >>> ((16 : Int32) &&& 31))), (.int (2 : Int32)), (.ref b351)])) _
            refine XS.iand X370.here hx rfl (hb hby at_108) rfl ?_
            show Steps p.tables e below (T370.setTop (mkF m 109 #[.val (.int p0), .val (.int p1), .val (.int p2), .val (.int p3), .val (.int (1 : Int32)), .val (.int (1 : Int32)), .val (.int (0 : Int32)), .val (.ref b351), .val (.int (0 : Int32)), .val (.ref b354), .unset, .unset] [(.int ((p0 >>> ((16 : Int32) &&& 31)) &&& (255 : Int32))), (.int (2 : Int32)), (.ref b351)])) _
            refine XS.i2b X370.here hx rfl (hb hby at_109) rfl ?_
            show Steps p.tables e below (T370.setTop (mkF m 110 #[.val (.int p0), .val (.int p1), .val (.int p2), .val (.int p3), .val (.int (1 : Int32)), .val (.int (1 : Int32)), .val (.int (0 : Int32)), .val (.ref b351), .val (.int (0 : Int32)), .val (.ref b354), .unset, .unset] [(.int (((p0 >>> ((16 : Int32) &&& 31)) &&& (255 : Int32)).toInt8.toInt32)), (.int (2 : Int32)), (.ref b351)])) _
            refine st374 _ ?_
            show Steps p.tables e below (T374.setTop (mkF m 111 #[.val (.int p0), .val (.int p1), .val (.int p2), .val (.int p3), .val (.int (1 : Int32)), .val (.int (1 : Int32)), .val (.int (0 : Int32)), .val (.ref b351), .val (.int (0 : Int32)), .val (.ref b354), .unset, .unset] [])) _
            refine XS.aload X374.here hx rfl (hb hby at_111) rfl rfl ?_
            show Steps p.tables e below (T374.setTop (mkF m 113 #[.val (.int p0), .val (.int p1), .val (.int p2), .val (.int p3), .val (.int (1 : Int32)), .val (.int (1 : Int32)), .val (.int (0 : Int32)), .val (.ref b351), .val (.int (0 : Int32)), .val (.ref b354), .unset, .unset] [(.ref b351)])) _
            refine XS.iload X374.here hx rfl (hb hby at_113) rfl ?_
            show Steps p.tables e below (T374.setTop (mkF m 115 #[.val (.int p0), .val (.int p1), .val (.int p2), .val (.int p3), .val (.int (1 : Int32)), .val (.int (1 : Int32)), .val (.int (0 : Int32)), .val (.ref b351), .val (.int (0 : Int32)), .val (.ref b354), .unset, .unset] [(.int (0 : Int32)), (.ref b351)])) _
            refine XS.iconst X374.here hx rfl (hb hby at_115) ?_
            show Steps p.tables e below (T374.setTop (mkF m 116 #[.val (.int p0), .val (.int p1), .val (.int p2), .val (.int p3), .val (.int (1 : Int32)), .val (.int (1 : Int32)), .val (.int (0 : Int32)), .val (.ref b351), .val (.int (0 : Int32)), .val (.ref b354), .unset, .unset] [(.int (3 : Int32)), (.int (0 : Int32)), (.ref b351)])) _
            refine XS.iadd X374.here hx rfl (hb hby at_116) rfl ?_
            show Steps p.tables e below (T374.setTop (mkF m 117 #[.val (.int p0), .val (.int p1), .val (.int p2), .val (.int p3), .val (.int (1 : Int32)), .val (.int (1 : Int32)), .val (.int (0 : Int32)), .val (.ref b351), .val (.int (0 : Int32)), .val (.ref b354), .unset, .unset] [(.int (3 : Int32)), (.ref b351)])) _
            refine XS.iloadN X374.here hx rfl (hb hby at_117) rfl ?_
            show Steps p.tables e below (T374.setTop (mkF m 118 #[.val (.int p0), .val (.int p1), .val (.int p2), .val (.int p3), .val (.int (1 : Int32)), .val (.int (1 : Int32)), .val (.int (0 : Int32)), .val (.ref b351), .val (.int (0 : Int32)), .val (.ref b354), .unset, .unset] [(.int p0), (.int (3 : Int32)), (.ref b351)])) _
            refine XS.bipush X374.here hx rfl (hb hby at_118) ?_
            show Steps p.tables e below (T374.setTop (mkF m 120 #[.val (.int p0), .val (.int p1), .val (.int p2), .val (.int p3), .val (.int (1 : Int32)), .val (.int (1 : Int32)), .val (.int (0 : Int32)), .val (.ref b351), .val (.int (0 : Int32)), .val (.ref b354), .unset, .unset] [(.int (24 : Int32)), (.int p0), (.int (3 : Int32)), (.ref b351)])) _
            refine XS.ishr X374.here hx rfl (hb hby at_120) rfl ?_
            show Steps p.tables e below (T374.setTop (mkF m 121 #[.val (.int p0), .val (.int p1), .val (.int p2), .val (.int p3), .val (.int (1 : Int32)), .val (.int (1 : Int32)), .val (.int (0 : Int32)), .val (.ref b351), .val (.int (0 : Int32)), .val (.ref b354), .unset, .unset] [(.int (p0 >>> ((24 : Int32) &&& 31))), (.int (3 : Int32)), (.ref b351)])) _
            refine XS.sipush X374.here hx rfl (hb hby at_121) ?_
            show Steps p.tables e below (T374.setTop (mkF m 124 #[.val (.int p0), .val (.int p1), .val (.int p2), .val (.int p3), .val (.int (1 : Int32)), .val (.int (1 : Int32)), .val (.int (0 : Int32)), .val (.ref b351), .val (.int (0 : Int32)), .val (.ref b354), .unset, .unset] [(.int (255 : Int32)), (.int (p0 >>> ((24 : Int32) &&& 31))), (.int (3 : Int32)), (.ref b351)])) _
            refine XS.iand X374.here hx rfl (hb hby at_124) rfl ?_
            show Steps p.tables e below (T374.setTop (mkF m 125 #[.val (.int p0), .val (.int p1), .val (.int p2), .val (.int p3), .val (.int (1 : Int32)), .val (.int (1 : Int32)), .val (.int (0 : Int32)), .val (.ref b351), .val (.int (0 : Int32)), .val (.ref b354), .unset, .unset] [(.int ((p0 >>> ((24 : Int32) &&& 31)) &&& (255 : Int32))), (.int (3 : Int32)), (.ref b351)])) _
            refine XS.i2b X374.here hx rfl (hb hby at_125) rfl ?_
            show Steps p.tables e below (T374.setTop (mkF m 126 #[.val (.int p0), .val (.int p1), .val (.int p2), .val (.int p3), .val (.int (1 : Int32)), .val (.int (1 : Int32)), .val (.int (0 : Int32)), .val (.ref b351), .val (.int (0 : Int32)), .val (.ref b354), .unset, .unset] [(.int (((p0 >>> ((24 : Int32) &&& 31)) &&& (255 : Int32)).toInt8.toInt32)), (.int (3 : Int32)), (.ref b351)])) _
            refine st378 _ ?_
            show Steps p.tables e below (T378.setTop (mkF m 127 #[.val (.int p0), .val (.int p1), .val (.int p2), .val (.int p3), .val (.int (1 : Int32)), .val (.int (1 : Int32)), .val (.int (0 : Int32)), .val (.ref b351), .val (.int (0 : Int32)), .val (.ref b354), .unset, .unset] [])) _
            refine XS.iinc X378.here hx rfl (hb hby at_127) rfl (l' := #[.val (.int p0), .val (.int p1), .val (.int p2), .val (.int p3), .val (.int (1 : Int32)), .val (.int (1 : Int32)), .val (.int (0 : Int32)), .val (.ref b351), .val (.int (4 : Int32)), .val (.ref b354), .unset, .unset]) rfl ?_
            show Steps p.tables e below (T378.setTop (mkF m 130 #[.val (.int p0), .val (.int p1), .val (.int p2), .val (.int p3), .val (.int (1 : Int32)), .val (.int (1 : Int32)), .val (.int (0 : Int32)), .val (.ref b351), .val (.int (4 : Int32)), .val (.ref b354), .unset, .unset] [])) _
            refine XS.iload X378.here hx rfl (hb hby at_130) rfl ?_
            exact kt)
        have c383 := ((((((E_b354.keep K357q).keep K361q).wr W366).wr W370).wr W374).wr W378)
        have c384 := ((((G361_1.other W366 (Or.inl (Ne.symm ne_b351_b354))).other W370 (Or.inl (Ne.symm ne_b351_b354))).other W374 (Or.inl (Ne.symm ne_b351_b354))).other W378 (Or.inl (Ne.symm ne_b351_b354)))
        have c385 := ((((G361_2.other W366 (Or.inl (Ne.symm ne_b351_b354))).other W370 (Or.inl (Ne.symm ne_b351_b354))).other W374 (Or.inl (Ne.symm ne_b351_b354))).other W378 (Or.inl (Ne.symm ne_b351_b354)))
        have c386 := ((((G361_0.other W366 (Ne.symm ne_b351_r_o0_bytes_357)).other W370 (Ne.symm ne_b351_r_o0_bytes_357)).other W374 (Ne.symm ne_b351_r_o0_bytes_357)).other W378 (Ne.symm ne_b351_r_o0_bytes_357))
        obtain ⟨cq382, kq382, q382a, q382b, q382c⟩ := isOf hZ e378 c383
        obtain ⟨_, _, ⟨T382, L382, k382, n382⟩, -, X382, ⟨Lc382, hQ382, l382, y382, z382⟩, st382⟩ := X378.virtualBack hx (y := (⟨"com/example/corvid/corvid/ByteWriter", "writeShort", "(S)V"⟩ : MethodName)) (z := (⟨"com/example/corvid/corvid/ByteWriter", "writeShort", "(S)V"⟩ : MethodName)) hown (mvT hZ (hw _ (List.mem_of_getElem? (i := 52) rfl))) (mvT hZ (hw _ (List.mem_of_getElem? (i := 53) rfl))) (notFace_of_selects (args := #[]) (mvT hZ (hw _ (List.mem_of_getElem? (i := 55) rfl)))) (mvT hZ (hw _ (List.mem_of_getElem? (i := 55) rfl))) (mvT hZ (hw _ (List.mem_of_getElem? (i := 54) rfl))) (by decide) (backOf (W := 0) (rm11 l Z a0 hw [] b354 (p1.toInt16.toInt32) ((0 : Int32) + (4 : Int32)) r_o0_bytes_357 (f3_r1_a p0 (0 : Int32) (fun _ => 0)) h378 n0 Z380 c383 c384 c385 c386 ne_b354_r_o0_bytes_357 (by decide) g_b354 g_r_o0_bytes_357) hZ (hw _ (List.mem_of_getElem? (i := 56) rfl)) (hw _ (List.mem_of_getElem? (i := 3) rfl)) (by decide) (by decide)) q382a q382c (g := (mkF m 139 #[.val (.int p0), .val (.int p1), .val (.int p2), .val (.int p3), .val (.int (1 : Int32)), .val (.int (1 : Int32)), .val (.int (0 : Int32)), .val (.ref b351), .val (.int (4 : Int32)), .val (.ref b354), .unset, .unset] [(.int (p1.toInt16.toInt32)), (.ref b354)])) rfl (by rw [hml]; rfl) (Steps.refl _) (argsL := [(.int (p1.toInt16.toInt32))]) (rest := []) (lenOf pd_0_4 rfl) rfl (by show 2 * 0 + _ ≤ _; exact Nat.le_of_eq rfl) (hb hby at_139) (fun _ _ => ⟨rfl, e378, (by decide : 3 + 0 ≤ _), (by decide : 74 + 0 ≤ _)⟩)
        dsimp only [Pt.U, Pt.locs, Pt.cells, Pt.slots] at X382 l382 y382 z382 st382 hQ382
        subst l382 y382 z382
        obtain ⟨rfl, N382q, K382q, G382_0, G382_1, G382_2⟩ := hQ382
        have N382 := Fr.app N378 N382q
        have K387 : Keep h0 T382.heap [] := K379.trans K382q (allS (Or.inr sz_r_o0_bytes_357) (allS (Or.inr sz_b354) all0))
        have Z388 : n0 ≤ T382.heap.size := Nat.le_trans Z0 K387.1
        obtain ⟨LS382, X382, N382⟩ : ∃ L, Stand p l e room_1 s m #[(.int p0), (.int p1), (.int p2), (.int p3)] below meth c T382 L 3 74 ∧ Fr n0 L := ⟨_, X382, N382⟩
        have c390 := (V378.keep K382q (ninS ne_b351_r_o0_bytes_357 (ninS ne_b351_b354 nin0)))
        obtain ⟨cl389, Ar389, Sz389, Nn389, Hs389⟩ := id c390
        have hin389 : ¬ ((4 : Int32) < 0 ∨ cl389.slots.size ≤ ((4 : Int32)).toNatClampNeg) := inb_of Sz389 ⟨by decide, by decide⟩
        obtain ⟨T391, h391, X391, e391, W391, st391⟩ := stB X382 hx hZ rfl Ar389 (j := (4 : Int32)) hin389 (g := (mkF m 152 #[.val (.int p0), .val (.int p1), .val (.int p2), .val (.int p3), .val (.int (1 : Int32)), .val (.int (1 : Int32)), .val (.int (0 : Int32)), .val (.ref b351), .val (.int (4 : Int32)), .val (.ref b354), .unset, .unset] [(.int ((p1 &&& (255 : Int32)).toInt8.toInt32)), (.int (4 : Int32)), (.ref b351)])) rfl rfl (hb hby at_152)
        have V391 : own_AI Z h391 b351 .byte (7 : Int32) (own_upd (own_upd (own_upd (own_upd (own_upd (fun _ => 0) 0 (nar .byte ((p0 &&& (255 : Int32)).toInt8.toInt32))) 1 (nar .byte (((p0 >>> ((8 : Int32) &&& 31)) &&& (255 : Int32)).toInt8.toInt32))) 2 (nar .byte (((p0 >>> ((16 : Int32) &&& 31)) &&& (255 : Int32)).toInt8.toInt32))) 3 (nar .byte (((p0 >>> ((24 : Int32) &&& 31)) &&& (255 : Int32)).toInt8.toInt32))) 4 (nar .byte ((p1 &&& (255 : Int32)).toInt8.toInt32))) := own_AI.set c390 (fits_nar_byte ((p1 &&& (255 : Int32)).toInt8.toInt32)) W391
        have K392 : Keep h0 h391 [] := K387.wr W391 (Or.inr sz_b351)
        have Z393 : n0 ≤ h391.size := Nat.le_trans Z0 K392.1
        have N391 := Fr.snoc X391 N382 g_b351
        obtain ⟨LS391, X391, N391⟩ : ∃ L, Stand p l e room_1 s m #[(.int p0), (.int p1), (.int p2), (.int p3)] below meth c T391 L 3 74 ∧ Fr n0 L := ⟨_, X391, N391⟩
        obtain ⟨cl394, Ar394, Sz394, Nn394, Hs394⟩ := id V391
        have hin394 : ¬ ((5 : Int32) < 0 ∨ cl394.slots.size ≤ ((5 : Int32)).toNatClampNeg) := inb_of Sz394 ⟨by decide, by decide⟩
        obtain ⟨T395, h395, X395, e395, W395, st395⟩ := stB X391 hx hZ e391 Ar394 (j := (5 : Int32)) hin394 (g := (mkF m 168 #[.val (.int p0), .val (.int p1), .val (.int p2), .val (.int p3), .val (.int (1 : Int32)), .val (.int (1 : Int32)), .val (.int (0 : Int32)), .val (.ref b351), .val (.int (4 : Int32)), .val (.ref b354), .unset, .unset] [(.int (((p1 >>> ((8 : Int32) &&& 31)) &&& (255 : Int32)).toInt8.toInt32)), (.int (5 : Int32)), (.ref b351)])) rfl rfl (hb hby at_168)
        have V395 : own_AI Z h395 b351 .byte (7 : Int32) (own_upd (own_upd (own_upd (own_upd (own_upd (own_upd (fun _ => 0) 0 (nar .byte ((p0 &&& (255 : Int32)).toInt8.toInt32))) 1 (nar .byte (((p0 >>> ((8 : Int32) &&& 31)) &&& (255 : Int32)).toInt8.toInt32))) 2 (nar .byte (((p0 >>> ((16 : Int32) &&& 31)) &&& (255 : Int32)).toInt8.toInt32))) 3 (nar .byte (((p0 >>> ((24 : Int32) &&& 31)) &&& (255 : Int32)).toInt8.toInt32))) 4 (nar .byte ((p1 &&& (255 : Int32)).toInt8.toInt32))) 5 (nar .byte (((p1 >>> ((8 : Int32) &&& 31)) &&& (255 : Int32)).toInt8.toInt32))) := own_AI.set V391 (fits_nar_byte (((p1 >>> ((8 : Int32) &&& 31)) &&& (255 : Int32)).toInt8.toInt32)) W395
        have K396 : Keep h0 h395 [] := K392.wr W395 (Or.inr sz_b351)
        have Z397 : n0 ≤ h395.size := Nat.le_trans Z0 K396.1
        have N395 := Fr.snoc X395 N391 g_b351
        obtain ⟨LS395, X395, N395⟩ : ∃ L, Stand p l e room_1 s m #[(.int p0), (.int p1), (.int p2), (.int p3)] below meth c T395 L 3 74 ∧ Fr n0 L := ⟨_, X395, N395⟩
        have pre398 : ∀ t, Steps p.tables e below (T395.setTop (mkF m 174 #[.val (.int p0), .val (.int p1), .val (.int p2), .val (.int p3), .val (.int (1 : Int32)), .val (.int (1 : Int32)), .val (.int (0 : Int32)), .val (.ref b351), .val (.int (6 : Int32)), .val (.ref b354), .unset, .unset] [(.int (0 : Int32))])) t → Steps p.tables e below (s₁.setTop (entryFrame m #[(.int p0), (.int p1), (.int p2), (.int p3)] maxLocals)) t := fun t kt => pre381 t (by
            show Steps p.tables e below (T378.setTop (mkF m 132 #[.val (.int p0), .val (.int p1), .val (.int p2), .val (.int p3), .val (.int (1 : Int32)), .val (.int (1 : Int32)), .val (.int (0 : Int32)), .val (.ref b351), .val (.int (4 : Int32)), .val (.ref b354), .unset, .unset] [(.int (1 : Int32))])) _
            refine XS.ifNo X378.here hx rfl (hb hby at_132) rfl ((if0 _ _).trans (feq (by decide : ¬ ((1 : Int32) = (0 : Int32)))).1) ?_
            show Steps p.tables e below (T378.setTop (mkF m 135 #[.val (.int p0), .val (.int p1), .val (.int p2), .val (.int p3), .val (.int (1 : Int32)), .val (.int (1 : Int32)), .val (.int (0 : Int32)), .val (.ref b351), .val (.int (4 : Int32)), .val (.ref b354), .unset, .unset] [])) _
            refine XS.aload X378.here hx rfl (hb hby at_135) rfl rfl ?_
            show Steps p.tables e below (T378.setTop (mkF m 137 #[.val (.int p0), .val (.int p1), .val (.int p2), .val (.int p3), .val (.int (1 : Int32)), .val (.int (1 : Int32)), .val (.int (0 : Int32)), .val (.ref b351), .val (.int (4 : Int32)), .val (.ref b354), .unset, .unset] [(.ref b354)])) _
            refine XS.iloadN X378.here hx rfl (hb hby at_137) rfl ?_
            show Steps p.tables e below (T378.setTop (mkF m 138 #[.val (.int p0), .val (.int p1), .val (.int p2), .val (.int p3), .val (.int (1 : Int32)), .val (.int (1 : Int32)), .val (.int (0 : Int32)), .val (.ref b351), .val (.int (4 : Int32)), .val (.ref b354), .unset, .unset] [(.int p1), (.ref b354)])) _
            refine XS.i2s X378.here hx rfl (hb hby at_138) rfl ?_
            show Steps p.tables e below (T378.setTop (mkF m 139 #[.val (.int p0), .val (.int p1), .val (.int p2), .val (.int p3), .val (.int (1 : Int32)), .val (.int (1 : Int32)), .val (.int (0 : Int32)), .val (.ref b351), .val (.int (4 : Int32)), .val (.ref b354), .unset, .unset] [(.int (p1.toInt16.toInt32)), (.ref b354)])) _
            refine st382.trans ?_
            show Steps p.tables e below (T382.setTop (mkF m 142 #[.val (.int p0), .val (.int p1), .val (.int p2), .val (.int p3), .val (.int (1 : Int32)), .val (.int (1 : Int32)), .val (.int (0 : Int32)), .val (.ref b351), .val (.int (4 : Int32)), .val (.ref b354), .unset, .unset] [])) _
            refine XS.aload X382.here hx rfl (hb hby at_142) rfl rfl ?_
            show Steps p.tables e below (T382.setTop (mkF m 144 #[.val (.int p0), .val (.int p1), .val (.int p2), .val (.int p3), .val (.int (1 : Int32)), .val (.int (1 : Int32)), .val (.int (0 : Int32)), .val (.ref b351), .val (.int (4 : Int32)), .val (.ref b354), .unset, .unset] [(.ref b351)])) _
            refine XS.iload X382.here hx rfl (hb hby at_144) rfl ?_
            show Steps p.tables e below (T382.setTop (mkF m 146 #[.val (.int p0), .val (.int p1), .val (.int p2), .val (.int p3), .val (.int (1 : Int32)), .val (.int (1 : Int32)), .val (.int (0 : Int32)), .val (.ref b351), .val (.int (4 : Int32)), .val (.ref b354), .unset, .unset] [(.int (4 : Int32)), (.ref b351)])) _
            refine XS.iloadN X382.here hx rfl (hb hby at_146) rfl ?_
            show Steps p.tables e below (T382.setTop (mkF m 147 #[.val (.int p0), .val (.int p1), .val (.int p2), .val (.int p3), .val (.int (1 : Int32)), .val (.int (1 : Int32)), .val (.int (0 : Int32)), .val (.ref b351), .val (.int (4 : Int32)), .val (.ref b354), .unset, .unset] [(.int p1), (.int (4 : Int32)), (.ref b351)])) _
            refine XS.sipush X382.here hx rfl (hb hby at_147) ?_
            show Steps p.tables e below (T382.setTop (mkF m 150 #[.val (.int p0), .val (.int p1), .val (.int p2), .val (.int p3), .val (.int (1 : Int32)), .val (.int (1 : Int32)), .val (.int (0 : Int32)), .val (.ref b351), .val (.int (4 : Int32)), .val (.ref b354), .unset, .unset] [(.int (255 : Int32)), (.int p1), (.int (4 : Int32)), (.ref b351)])) _
            refine XS.iand X382.here hx rfl (hb hby at_150) rfl ?_
            show Steps p.tables e below (T382.setTop (mkF m 151 #[.val (.int p0), .val (.int p1), .val (.int p2), .val (.int p3), .val (.int (1 : Int32)), .val (.int (1 : Int32)), .val (.int (0 : Int32)), .val (.ref b351), .val (.int (4 : Int32)), .val (.ref b354), .unset, .unset] [(.int (p1 &&& (255 : Int32))), (.int (4 : Int32)), (.ref b351)])) _
            refine XS.i2b X382.here hx rfl (hb hby at_151) rfl ?_
            show Steps p.tables e below (T382.setTop (mkF m 152 #[.val (.int p0), .val (.int p1), .val (.int p2), .val (.int p3), .val (.int (1 : Int32)), .val (.int (1 : Int32)), .val (.int (0 : Int32)), .val (.ref b351), .val (.int (4 : Int32)), .val (.ref b354), .unset, .unset] [(.int ((p1 &&& (255 : Int32)).toInt8.toInt32)), (.int (4 : Int32)), (.ref b351)])) _
            refine st391 _ ?_
            show Steps p.tables e below (T391.setTop (mkF m 153 #[.val (.int p0), .val (.int p1), .val (.int p2), .val (.int p3), .val (.int (1 : Int32)), .val (.int (1 : Int32)), .val (.int (0 : Int32)), .val (.ref b351), .val (.int (4 : Int32)), .val (.ref b354), .unset, .unset] [])) _
            refine XS.aload X391.here hx rfl (hb hby at_153) rfl rfl ?_
            show Steps p.tables e below (T391.setTop (mkF m 155 #[.val (.int p0), .val (.int p1), .val (.int p2), .val (.int p3), .val (.int (1 : Int32)), .val (.int (1 : Int32)), .val (.int (0 : Int32)), .val (.ref b351), .val (.int (4 : Int32)), .val (.ref b354), .unset, .unset] [(.ref b351)])) _
            refine XS.iload X391.here hx rfl (hb hby at_155) rfl ?_
            show Steps p.tables e below (T391.setTop (mkF m 157 #[.val (.int p0), .val (.int p1), .val (.int p2), .val (.int p3), .val (.int (1 : Int32)), .val (.int (1 : Int32)), .val (.int (0 : Int32)), .val (.ref b351), .val (.int (4 : Int32)), .val (.ref b354), .unset, .unset] [(.int (4 : Int32)), (.ref b351)])) _
            refine XS.iconst X391.here hx rfl (hb hby at_157) ?_
            show Steps p.tables e below (T391.setTop (mkF m 158 #[.val (.int p0), .val (.int p1), .val (.int p2), .val (.int p3), .val (.int (1 : Int32)), .val (.int (1 : Int32)), .val (.int (0 : Int32)), .val (.ref b351), .val (.int (4 : Int32)), .val (.ref b354), .unset, .unset] [(.int (1 : Int32)), (.int (4 : Int32)), (.ref b351)])) _
            refine XS.iadd X391.here hx rfl (hb hby at_158) rfl ?_
            show Steps p.tables e below (T391.setTop (mkF m 159 #[.val (.int p0), .val (.int p1), .val (.int p2), .val (.int p3), .val (.int (1 : Int32)), .val (.int (1 : Int32)), .val (.int (0 : Int32)), .val (.ref b351), .val (.int (4 : Int32)), .val (.ref b354), .unset, .unset] [(.int (5 : Int32)), (.ref b351)])) _
            refine XS.iloadN X391.here hx rfl (hb hby at_159) rfl ?_
            show Steps p.tables e below (T391.setTop (mkF m 160 #[.val (.int p0), .val (.int p1), .val (.int p2), .val (.int p3), .val (.int (1 : Int32)), .val (.int (1 : Int32)), .val (.int (0 : Int32)), .val (.ref b351), .val (.int (4 : Int32)), .val (.ref b354), .unset, .unset] [(.int p1), (.int (5 : Int32)), (.ref b351)])) _
            refine XS.bipush X391.here hx rfl (hb hby at_160) ?_
            show Steps p.tables e below (T391.setTop (mkF m 162 #[.val (.int p0), .val (.int p1), .val (.int p2), .val (.int p3), .val (.int (1 : Int32)), .val (.int (1 : Int32)), .val (.int (0 : Int32)), .val (.ref b351), .val (.int (4 : Int32)), .val (.ref b354), .unset, .unset] [(.int (8 : Int32)), (.int p1), (.int (5 : Int32)), (.ref b351)])) _
            refine XS.ishr X391.here hx rfl (hb hby at_162) rfl ?_
            show Steps p.tables e below (T391.setTop (mkF m 163 #[.val (.int p0), .val (.int p1), .val (.int p2), .val (.int p3), .val (.int (1 : Int32)), .val (.int (1 : Int32)), .val (.int (0 : Int32)), .val (.ref b351), .val (.int (4 : Int32)), .val (.ref b354), .unset, .unset] [(.int (p1 >>> ((8 : Int32) &&& 31))), (.int (5 : Int32)), (.ref b351)])) _
            refine XS.sipush X391.here hx rfl (hb hby at_163) ?_
            show Steps p.tables e below (T391.setTop (mkF m 166 #[.val (.int p0), .val (.int p1), .val (.int p2), .val (.int p3), .val (.int (1 : Int32)), .val (.int (1 : Int32)), .val (.int (0 : Int32)), .val (.ref b351), .val (.int (4 : Int32)), .val (.ref b354), .unset, .unset] [(.int (255 : Int32)), (.int (p1 >>> ((8 : Int32) &&& 31))), (.int (5 : Int32)), (.ref b351)])) _
            refine XS.iand X391.here hx rfl (hb hby at_166) rfl ?_
            show Steps p.tables e below (T391.setTop (mkF m 167 #[.val (.int p0), .val (.int p1), .val (.int p2), .val (.int p3), .val (.int (1 : Int32)), .val (.int (1 : Int32)), .val (.int (0 : Int32)), .val (.ref b351), .val (.int (4 : Int32)), .val (.ref b354), .unset, .unset] [(.int ((p1 >>> ((8 : Int32) &&& 31)) &&& (255 : Int32))), (.int (5 : Int32)), (.ref b351)])) _
            refine XS.i2b X391.here hx rfl (hb hby at_167) rfl ?_
            show Steps p.tables e below (T391.setTop (mkF m 168 #[.val (.int p0), .val (.int p1), .val (.int p2), .val (.int p3), .val (.int (1 : Int32)), .val (.int (1 : Int32)), .val (.int (0 : Int32)), .val (.ref b351), .val (.int (4 : Int32)), .val (.ref b354), .unset, .unset] [(.int (((p1 >>> ((8 : Int32) &&& 31)) &&& (255 : Int32)).toInt8.toInt32)), (.int (5 : Int32)), (.ref b351)])) _
            refine st395 _ ?_
            show Steps p.tables e below (T395.setTop (mkF m 169 #[.val (.int p0), .val (.int p1), .val (.int p2), .val (.int p3), .val (.int (1 : Int32)), .val (.int (1 : Int32)), .val (.int (0 : Int32)), .val (.ref b351), .val (.int (4 : Int32)), .val (.ref b354), .unset, .unset] [])) _
            refine XS.iinc X395.here hx rfl (hb hby at_169) rfl (l' := #[.val (.int p0), .val (.int p1), .val (.int p2), .val (.int p3), .val (.int (1 : Int32)), .val (.int (1 : Int32)), .val (.int (0 : Int32)), .val (.ref b351), .val (.int (6 : Int32)), .val (.ref b354), .unset, .unset]) rfl ?_
            show Steps p.tables e below (T395.setTop (mkF m 172 #[.val (.int p0), .val (.int p1), .val (.int p2), .val (.int p3), .val (.int (1 : Int32)), .val (.int (1 : Int32)), .val (.int (0 : Int32)), .val (.ref b351), .val (.int (6 : Int32)), .val (.ref b354), .unset, .unset] [])) _
            refine XS.iload X395.here hx rfl (hb hby at_172) rfl ?_
            exact kt)
        have c400 := ((G382_1.other W391 (Or.inl (Ne.symm ne_b351_b354))).other W395 (Or.inl (Ne.symm ne_b351_b354)))
        have c401 := ((G382_2.other W391 (Or.inl (Ne.symm ne_b351_b354))).other W395 (Or.inl (Ne.symm ne_b351_b354)))
        have c402 := ((G382_0.other W391 (Ne.symm ne_b351_r_o0_bytes_357)).other W395 (Ne.symm ne_b351_r_o0_bytes_357))
        obtain ⟨cq399, kq399, q399a, q399b, q399c⟩ := isOf hZ e395 (((c383.keep K382q).wr W391).wr W395)
        obtain ⟨_, _, ⟨T399, L399, k399, n399⟩, -, X399, ⟨Lc399, hQ399, l399, y399, z399⟩, st399⟩ := X395.virtualBack hx (y := (⟨"com/example/corvid/corvid/ByteWriter", "toByteArray", "()[B"⟩ : MethodName)) (z := (⟨"com/example/corvid/corvid/ByteWriter", "toByteArray", "()[B"⟩ : MethodName)) hown (mvT hZ (hw _ (List.mem_of_getElem? (i := 29) rfl))) (mvT hZ (hw _ (List.mem_of_getElem? (i := 30) rfl))) (notFace_of_selects (args := #[]) (mvT hZ (hw _ (List.mem_of_getElem? (i := 32) rfl)))) (mvT hZ (hw _ (List.mem_of_getElem? (i := 32) rfl))) (mvT hZ (hw _ (List.mem_of_getElem? (i := 31) rfl))) (by decide) (backOf (W := 0) (rm6 l Z a0 hw [] b354 (((0 : Int32) + (4 : Int32)) + (2 : Int32)) r_o0_bytes_357 (f11_r1_a (p1.toInt16.toInt32) ((0 : Int32) + (4 : Int32)) (f3_r1_a p0 (0 : Int32) (fun _ => 0))) h395 n0 Z397 c400 c401 c402 (by decide)) hZ (hw _ (List.mem_of_getElem? (i := 33) rfl)) (hw _ (List.mem_of_getElem? (i := 3) rfl)) (by decide) (by decide)) q399a q399c (g := (mkF m 204 #[.val (.int p0), .val (.int p1), .val (.int p2), .val (.int p3), .val (.int (1 : Int32)), .val (.int (1 : Int32)), .val (.int (0 : Int32)), .val (.ref b351), .val (.int (6 : Int32)), .val (.ref b354), .unset, .unset] [(.ref b354)])) rfl (by rw [hml]; rfl) (Steps.refl _) (argsL := []) (rest := []) (lenOf pd_0_1 rfl) rfl (by show 2 * 0 + _ ≤ _; exact Nat.le_of_eq rfl) (hb hby at_204) (fun _ _ => ⟨rfl, e395, (by decide : 3 + 1 ≤ _), (by decide : 74 + 16 ≤ _)⟩)
        dsimp only [Pt.U, Pt.locs, Pt.cells, Pt.slots] at X399 l399 y399 z399 st399 hQ399
        subst l399 y399 z399
        obtain ⟨b_399, rfl, N399q, K399q, g_b_399, szq_b_399, G399_0⟩ := hQ399
        have N399 := Fr.app N395 N399q
        have ne_b351_b_399 : b351 ≠ b_399 := Nat.ne_of_lt (Nat.lt_of_lt_of_le V395.lt szq_b_399)
        have ne_b354_b_399 : b354 ≠ b_399 := Nat.ne_of_lt (Nat.lt_of_lt_of_le (((c383.keep K382q).wr W391).wr W395).lt szq_b_399)
        have ne_r_o0_bytes_357_b_399 : r_o0_bytes_357 ≠ b_399 := Nat.ne_of_lt (Nat.lt_of_lt_of_le c402.lt szq_b_399)
        have sz_b_399 : h0.size ≤ b_399 := Nat.le_trans K396.1 szq_b_399
        have K403 : Keep h0 T399.heap [] := K396.trans K399q all0
        have Z404 : n0 ≤ T399.heap.size := Nat.le_trans Z0 K403.1
        obtain ⟨LS399, X399, N399⟩ : ∃ L, Stand p l e room_1 s m #[(.int p0), (.int p1), (.int p2), (.int p3)] below meth c T399 L 4 90 ∧ Fr n0 L := ⟨_, X399, N399⟩
        obtain ⟨cl405, Ar405, Sz405, Nn405, -⟩ := id G399_0
        have pre406 : ∀ t, Steps p.tables e below (T399.setTop (mkF m 214 #[.val (.int p0), .val (.int p1), .val (.int p2), .val (.int p3), .val (.int (1 : Int32)), .val (.int (1 : Int32)), .val (.int (0 : Int32)), .val (.ref b351), .val (.int (6 : Int32)), .val (.ref b354), .val (.ref b_399), .unset] [(.int (6 : Int32)), (.int (((0 : Int32) + (4 : Int32)) + (2 : Int32)))])) t → Steps p.tables e below (s₁.setTop (entryFrame m #[(.int p0), (.int p1), (.int p2), (.int p3)] maxLocals)) t := fun t kt => pre398 t (by
            show Steps p.tables e below (T395.setTop (mkF m 174 #[.val (.int p0), .val (.int p1), .val (.int p2), .val (.int p3), .val (.int (1 : Int32)), .val (.int (1 : Int32)), .val (.int (0 : Int32)), .val (.ref b351), .val (.int (6 : Int32)), .val (.ref b354), .unset, .unset] [(.int (0 : Int32))])) _
            refine XS.ifYes X395.here hx rfl (pc0 := 174) (pc' := 202) rfl (hb hby at_174) rfl ((if0 _ _).trans (teq (by decide : ((0 : Int32) = (0 : Int32)))).1) (by decide) (by decide) ?_
            show Steps p.tables e below (T395.setTop (mkF m 202 #[.val (.int p0), .val (.int p1), .val (.int p2), .val (.int p3), .val (.int (1 : Int32)), .val (.int (1 : Int32)), .val (.int (0 : Int32)), .val (.ref b351), .val (.int (6 : Int32)), .val (.ref b354), .unset, .unset] [])) _
            refine XS.aload X395.here hx rfl (hb hby at_202) rfl rfl ?_
            show Steps p.tables e below (T395.setTop (mkF m 204 #[.val (.int p0), .val (.int p1), .val (.int p2), .val (.int p3), .val (.int (1 : Int32)), .val (.int (1 : Int32)), .val (.int (0 : Int32)), .val (.ref b351), .val (.int (6 : Int32)), .val (.ref b354), .unset, .unset] [(.ref b354)])) _
            refine st399.trans ?_
            show Steps p.tables e below (T399.setTop (mkF m 207 #[.val (.int p0), .val (.int p1), .val (.int p2), .val (.int p3), .val (.int (1 : Int32)), .val (.int (1 : Int32)), .val (.int (0 : Int32)), .val (.ref b351), .val (.int (6 : Int32)), .val (.ref b354), .unset, .unset] [(.ref b_399)])) _
            refine XS.astore X399.here hx rfl (hb hby at_207) rfl rfl (l' := #[.val (.int p0), .val (.int p1), .val (.int p2), .val (.int p3), .val (.int (1 : Int32)), .val (.int (1 : Int32)), .val (.int (0 : Int32)), .val (.ref b351), .val (.int (6 : Int32)), .val (.ref b354), .val (.ref b_399), .unset]) rfl ?_
            show Steps p.tables e below (T399.setTop (mkF m 209 #[.val (.int p0), .val (.int p1), .val (.int p2), .val (.int p3), .val (.int (1 : Int32)), .val (.int (1 : Int32)), .val (.int (0 : Int32)), .val (.ref b351), .val (.int (6 : Int32)), .val (.ref b354), .val (.ref b_399), .unset] [])) _
            refine XS.aload X399.here hx rfl (hb hby at_209) rfl rfl ?_
            show Steps p.tables e below (T399.setTop (mkF m 211 #[.val (.int p0), .val (.int p1), .val (.int p2), .val (.int p3), .val (.int (1 : Int32)), .val (.int (1 : Int32)), .val (.int (0 : Int32)), .val (.ref b351), .val (.int (6 : Int32)), .val (.ref b354), .val (.ref b_399), .unset] [(.ref b_399)])) _
            refine X399.arraylength hx Ar405.1 (State.isArrayOf_alike hZ.alike Ar405.2.1) (g := (mkF m 211 #[.val (.int p0), .val (.int p1), .val (.int p2), .val (.int p3), .val (.int (1 : Int32)), .val (.int (1 : Int32)), .val (.int (0 : Int32)), .val (.ref b351), .val (.int (6 : Int32)), .val (.ref b354), .val (.ref b_399), .unset] [(.ref b_399)])) rfl rfl (hb hby at_211) _ ?_
            rw [len_of Sz405 Nn405]
            show Steps p.tables e below (T399.setTop (mkF m 212 #[.val (.int p0), .val (.int p1), .val (.int p2), .val (.int p3), .val (.int (1 : Int32)), .val (.int (1 : Int32)), .val (.int (0 : Int32)), .val (.ref b351), .val (.int (6 : Int32)), .val (.ref b354), .val (.ref b_399), .unset] [(.int (((0 : Int32) + (4 : Int32)) + (2 : Int32)))])) _
            refine XS.iload X399.here hx rfl (hb hby at_212) rfl ?_
            exact kt)
        have hd214_407 : (((0 : Int32) + (4 : Int32)) + (2 : Int32)) = (6 : Int32) := by decide
        obtain ⟨_, _, ⟨T408, L408, k408, n408⟩, -, X408, ⟨Lc408, hQ408, l408, y408, z408⟩, st408⟩ := Jvm.LawKit.callS X399 hx (y := (⟨"com/example/corvid/corvid/ByteWriterToByteArrayPinLaw", "same", "([B[BI)Z"⟩ : MethodName)) hown (mvT hZ (hw _ (List.mem_of_getElem? (i := 45) rfl))) (mvT hZ (hw _ (List.mem_of_getElem? (i := 46) rfl))) (mvT hZ (hw _ (List.mem_of_getElem? (i := 47) rfl))) (mvT hZ (hw _ (List.mem_of_getElem? (i := 48) rfl))) (by decide) (backOf (W := 0) (rm9 l Z a0 hw [] b_399 b351 (6 : Int32) (((0 : Int32) + (4 : Int32)) + (2 : Int32)) (f11_r1_a (p1.toInt16.toInt32) ((0 : Int32) + (4 : Int32)) (f3_r1_a p0 (0 : Int32) (fun _ => 0))) (7 : Int32) (own_upd (own_upd (own_upd (own_upd (own_upd (own_upd (fun _ => 0) 0 (nar .byte ((p0 &&& (255 : Int32)).toInt8.toInt32))) 1 (nar .byte (((p0 >>> ((8 : Int32) &&& 31)) &&& (255 : Int32)).toInt8.toInt32))) 2 (nar .byte (((p0 >>> ((16 : Int32) &&& 31)) &&& (255 : Int32)).toInt8.toInt32))) 3 (nar .byte (((p0 >>> ((24 : Int32) &&& 31)) &&& (255 : Int32)).toInt8.toInt32))) 4 (nar .byte ((p1 &&& (255 : Int32)).toInt8.toInt32))) 5 (nar .byte (((p1 >>> ((8 : Int32) &&& 31)) &&& (255 : Int32)).toInt8.toInt32))) T399.heap n0 Z404 G399_0 (V395.keep K399q nin0) (by decide)) hZ (hw _ (List.mem_of_getElem? (i := 48) rfl)) (hw _ (List.mem_of_getElem? (i := 47) rfl)) (by decide) (by decide)) (g := (mkF m 225 #[.val (.int p0), .val (.int p1), .val (.int p2), .val (.int p3), .val (.int (1 : Int32)), .val (.int (1 : Int32)), .val (.int (0 : Int32)), .val (.ref b351), .val (.int (6 : Int32)), .val (.ref b354), .val (.ref b_399), .unset] [(.int (6 : Int32)), (.ref b351), (.ref b_399)])) rfl (by rw [hml]; rfl) (argsL := [(.ref b_399), (.ref b351), (.int (6 : Int32))]) (rest := []) (lenOf pd_0_2 rfl) rfl (by show 2 * 0 + _ ≤ _; exact Nat.le_of_eq rfl) (hb hby at_225) (fun _ _ => ⟨rfl, rfl, (by decide : 4 + 0 ≤ _), (by decide : 90 + 0 ≤ _)⟩)
        dsimp only [Pt.U, Pt.locs, Pt.cells, Pt.slots] at X408 l408 y408 z408 st408 hQ408
        subst l408 y408 z408
        obtain ⟨rfl, N408q, e408q⟩ := hQ408
        have N408 := Fr.app N399 N408q
        have pre409 : ∀ t, Steps p.tables e below (T408.setTop (mkF m 228 #[.val (.int p0), .val (.int p1), .val (.int p2), .val (.int p3), .val (.int (1 : Int32)), .val (.int (1 : Int32)), .val (.int (0 : Int32)), .val (.ref b351), .val (.int (6 : Int32)), .val (.ref b354), .val (.ref b_399), .unset] [(.int (f9 (6 : Int32) (f11_r1_a (p1.toInt16.toInt32) ((0 : Int32) + (4 : Int32)) (f3_r1_a p0 (0 : Int32) (fun _ => 0))) (own_upd (own_upd (own_upd (own_upd (own_upd (own_upd (fun _ => 0) 0 (nar .byte ((p0 &&& (255 : Int32)).toInt8.toInt32))) 1 (nar .byte (((p0 >>> ((8 : Int32) &&& 31)) &&& (255 : Int32)).toInt8.toInt32))) 2 (nar .byte (((p0 >>> ((16 : Int32) &&& 31)) &&& (255 : Int32)).toInt8.toInt32))) 3 (nar .byte (((p0 >>> ((24 : Int32) &&& 31)) &&& (255 : Int32)).toInt8.toInt32))) 4 (nar .byte ((p1 &&& (255 : Int32)).toInt8.toInt32))) 5 (nar .byte (((p1 >>> ((8 : Int32) &&& 31)) &&& (255 : Int32)).toInt8.toInt32)))))])) t → Steps p.tables e below (s₁.setTop (entryFrame m #[(.int p0), (.int p1), (.int p2), (.int p3)] maxLocals)) t := fun t kt => pre406 t (by
            show Steps p.tables e below (T399.setTop (mkF m 214 #[.val (.int p0), .val (.int p1), .val (.int p2), .val (.int p3), .val (.int (1 : Int32)), .val (.int (1 : Int32)), .val (.int (0 : Int32)), .val (.ref b351), .val (.int (6 : Int32)), .val (.ref b354), .val (.ref b_399), .unset] [(.int (6 : Int32)), (.int (((0 : Int32) + (4 : Int32)) + (2 : Int32)))])) _
            refine XS.icmpYes X399.here hx rfl (pc0 := 214) (pc' := 219) rfl (hb hby at_214) rfl (teq hd214_407).1 (by decide) (by decide) ?_
            show Steps p.tables e below (T399.setTop (mkF m 219 #[.val (.int p0), .val (.int p1), .val (.int p2), .val (.int p3), .val (.int (1 : Int32)), .val (.int (1 : Int32)), .val (.int (0 : Int32)), .val (.ref b351), .val (.int (6 : Int32)), .val (.ref b354), .val (.ref b_399), .unset] [])) _
            refine XS.aload X399.here hx rfl (hb hby at_219) rfl rfl ?_
            show Steps p.tables e below (T399.setTop (mkF m 221 #[.val (.int p0), .val (.int p1), .val (.int p2), .val (.int p3), .val (.int (1 : Int32)), .val (.int (1 : Int32)), .val (.int (0 : Int32)), .val (.ref b351), .val (.int (6 : Int32)), .val (.ref b354), .val (.ref b_399), .unset] [(.ref b_399)])) _
            refine XS.aload X399.here hx rfl (hb hby at_221) rfl rfl ?_
            show Steps p.tables e below (T399.setTop (mkF m 223 #[.val (.int p0), .val (.int p1), .val (.int p2), .val (.int p3), .val (.int (1 : Int32)), .val (.int (1 : Int32)), .val (.int (0 : Int32)), .val (.ref b351), .val (.int (6 : Int32)), .val (.ref b354), .val (.ref b_399), .unset] [(.ref b351), (.ref b_399)])) _
            refine XS.iload X399.here hx rfl (hb hby at_223) rfl ?_
            show Steps p.tables e below (T399.setTop (mkF m 225 #[.val (.int p0), .val (.int p1), .val (.int p2), .val (.int p3), .val (.int (1 : Int32)), .val (.int (1 : Int32)), .val (.int (0 : Int32)), .val (.ref b351), .val (.int (6 : Int32)), .val (.ref b354), .val (.ref b_399), .unset] [(.int (6 : Int32)), (.ref b351), (.ref b_399)])) _
            refine st408 _ ?_
            exact kt)
        have hd228_410 : ¬ ((f9 (6 : Int32) (f11_r1_a (p1.toInt16.toInt32) ((0 : Int32) + (4 : Int32)) (f3_r1_a p0 (0 : Int32) (fun _ => 0))) (own_upd (own_upd (own_upd (own_upd (own_upd (own_upd (fun _ => 0) 0 (nar .byte ((p0 &&& (255 : Int32)).toInt8.toInt32))) 1 (nar .byte (((p0 >>> ((8 : Int32) &&& 31)) &&& (255 : Int32)).toInt8.toInt32))) 2 (nar .byte (((p0 >>> ((16 : Int32) &&& 31)) &&& (255 : Int32)).toInt8.toInt32))) 3 (nar .byte (((p0 >>> ((24 : Int32) &&& 31)) &&& (255 : Int32)).toInt8.toInt32))) 4 (nar .byte ((p1 &&& (255 : Int32)).toInt8.toInt32))) 5 (nar .byte (((p1 >>> ((8 : Int32) &&& 31)) &&& (255 : Int32)).toInt8.toInt32)))) = (0 : Int32)) := own_sm _ _ _ (own_pf110 p0 p1 p2)
        have pre411 : ∀ t, Steps p.tables e below (T408.setTop (mkF m 235 #[.val (.int p0), .val (.int p1), .val (.int p2), .val (.int p3), .val (.int (1 : Int32)), .val (.int (1 : Int32)), .val (.int (0 : Int32)), .val (.ref b351), .val (.int (6 : Int32)), .val (.ref b354), .val (.ref b_399), .unset] [(.int (6 : Int32))])) t → Steps p.tables e below (s₁.setTop (entryFrame m #[(.int p0), (.int p1), (.int p2), (.int p3)] maxLocals)) t := fun t kt => pre409 t (by
            show Steps p.tables e below (T408.setTop (mkF m 228 #[.val (.int p0), .val (.int p1), .val (.int p2), .val (.int p3), .val (.int (1 : Int32)), .val (.int (1 : Int32)), .val (.int (0 : Int32)), .val (.ref b351), .val (.int (6 : Int32)), .val (.ref b354), .val (.ref b_399), .unset] [(.int (f9 (6 : Int32) (f11_r1_a (p1.toInt16.toInt32) ((0 : Int32) + (4 : Int32)) (f3_r1_a p0 (0 : Int32) (fun _ => 0))) (own_upd (own_upd (own_upd (own_upd (own_upd (own_upd (fun _ => 0) 0 (nar .byte ((p0 &&& (255 : Int32)).toInt8.toInt32))) 1 (nar .byte (((p0 >>> ((8 : Int32) &&& 31)) &&& (255 : Int32)).toInt8.toInt32))) 2 (nar .byte (((p0 >>> ((16 : Int32) &&& 31)) &&& (255 : Int32)).toInt8.toInt32))) 3 (nar .byte (((p0 >>> ((24 : Int32) &&& 31)) &&& (255 : Int32)).toInt8.toInt32))) 4 (nar .byte ((p1 &&& (255 : Int32)).toInt8.toInt32))) 5 (nar .byte (((p1 >>> ((8 : Int32) &&& 31)) &&& (255 : Int32)).toInt8.toInt32)))))])) _
            refine XS.ifYes X408.here hx rfl (pc0 := 228) (pc' := 233) rfl (hb hby at_228) rfl ((if0 _ _).trans (feq hd228_410).2) (by decide) (by decide) ?_
            show Steps p.tables e below (T408.setTop (mkF m 233 #[.val (.int p0), .val (.int p1), .val (.int p2), .val (.int p3), .val (.int (1 : Int32)), .val (.int (1 : Int32)), .val (.int (0 : Int32)), .val (.ref b351), .val (.int (6 : Int32)), .val (.ref b354), .val (.ref b_399), .unset] [])) _
            refine XS.iload X408.here hx rfl (hb hby at_233) rfl ?_
            exact kt)
        obtain ⟨cl412, Ar412, Sz412, Nn412, Hs412⟩ := id G399_0
        have hin412 : ¬ ((0 : Int32) < 0 ∨ cl412.slots.size ≤ ((0 : Int32)).toNatClampNeg) := inb_of Sz412 ⟨by decide, by decide⟩
        have hat412 : cl412.slots[((0 : Int32)).toNatClampNeg]? = some (.int ((f11_r1_a (p1.toInt16.toInt32) ((0 : Int32) + (4 : Int32)) (f3_r1_a p0 (0 : Int32) (fun _ => 0))) 0)) := (Hs412 _ (own_lt hin412)).1
        obtain ⟨cl413, Ar413, Sz413, Nn413, Hs413⟩ := id G399_0
        have hin413 : ¬ ((0 : Int32) < 0 ∨ cl413.slots.size ≤ ((0 : Int32)).toNatClampNeg) := inb_of Sz413 ⟨by decide, by decide⟩
        obtain ⟨T414, h414, X414, e414, W414, st414⟩ := stB X408 hx hZ e408q Ar413 (j := (0 : Int32)) hin413 (g := (mkF m 249 #[.val (.int p0), .val (.int p1), .val (.int p2), .val (.int p3), .val (.int (1 : Int32)), .val (.int (1 : Int32)), .val (.int (0 : Int32)), .val (.ref b351), .val (.int (6 : Int32)), .val (.ref b354), .val (.ref b_399), .unset] [(.int ((((f11_r1_a (p1.toInt16.toInt32) ((0 : Int32) + (4 : Int32)) (f3_r1_a p0 (0 : Int32) (fun _ => 0))) 0) ^^^ (90 : Int32)).toInt8.toInt32)), (.int (0 : Int32)), (.ref b_399)])) rfl rfl (hb hby at_249)
        have V414 : own_AI Z h414 b_399 .byte (((0 : Int32) + (4 : Int32)) + (2 : Int32)) (own_upd (f11_r1_a (p1.toInt16.toInt32) ((0 : Int32) + (4 : Int32)) (f3_r1_a p0 (0 : Int32) (fun _ => 0))) 0 (nar .byte ((((f11_r1_a (p1.toInt16.toInt32) ((0 : Int32) + (4 : Int32)) (f3_r1_a p0 (0 : Int32) (fun _ => 0))) 0) ^^^ (90 : Int32)).toInt8.toInt32))) := own_AI.set G399_0 (fits_nar_byte ((((f11_r1_a (p1.toInt16.toInt32) ((0 : Int32) + (4 : Int32)) (f3_r1_a p0 (0 : Int32) (fun _ => 0))) 0) ^^^ (90 : Int32)).toInt8.toInt32)) W414
        have K415 : Keep h0 h414 [] := K403.wr W414 (Or.inr sz_b_399)
        have Z416 : n0 ≤ h414.size := Nat.le_trans Z0 K415.1
        have N414 := Fr.snoc X414 N408 g_b_399
        obtain ⟨LS414, X414, N414⟩ : ∃ L, Stand p l e room_1 s m #[(.int p0), (.int p1), (.int p2), (.int p3)] below meth c T414 L 4 90 ∧ Fr n0 L := ⟨_, X414, N414⟩
        obtain ⟨cq417, kq417, q417a, q417b, q417c⟩ := isOf hZ e414 (((((c383.keep K382q).wr W391).wr W395).keep K399q).wr W414)
        obtain ⟨_, _, ⟨T417, L417, k417, n417⟩, -, X417, ⟨Lc417, hQ417, l417, y417, z417⟩, st417⟩ := X414.virtualBack hx (y := (⟨"com/example/corvid/corvid/ByteWriter", "toByteArray", "()[B"⟩ : MethodName)) (z := (⟨"com/example/corvid/corvid/ByteWriter", "toByteArray", "()[B"⟩ : MethodName)) hown (mvT hZ (hw _ (List.mem_of_getElem? (i := 29) rfl))) (mvT hZ (hw _ (List.mem_of_getElem? (i := 30) rfl))) (notFace_of_selects (args := #[]) (mvT hZ (hw _ (List.mem_of_getElem? (i := 32) rfl)))) (mvT hZ (hw _ (List.mem_of_getElem? (i := 32) rfl))) (mvT hZ (hw _ (List.mem_of_getElem? (i := 31) rfl))) (by decide) (backOf (W := 0) (rm6 l Z a0 hw [] b354 (((0 : Int32) + (4 : Int32)) + (2 : Int32)) r_o0_bytes_357 (f11_r1_a (p1.toInt16.toInt32) ((0 : Int32) + (4 : Int32)) (f3_r1_a p0 (0 : Int32) (fun _ => 0))) h414 n0 Z416 ((c400.keep K399q nin0).other W414 (Or.inl ne_b354_b_399)) ((c401.keep K399q nin0).other W414 (Or.inl ne_b354_b_399)) ((c402.keep K399q nin0).other W414 ne_r_o0_bytes_357_b_399) (by decide)) hZ (hw _ (List.mem_of_getElem? (i := 33) rfl)) (hw _ (List.mem_of_getElem? (i := 3) rfl)) (by decide) (by decide)) q417a q417c (g := (mkF m 252 #[.val (.int p0), .val (.int p1), .val (.int p2), .val (.int p3), .val (.int (1 : Int32)), .val (.int (1 : Int32)), .val (.int (0 : Int32)), .val (.ref b351), .val (.int (6 : Int32)), .val (.ref b354), .val (.ref b_399), .unset] [(.ref b354)])) rfl (by rw [hml]; rfl) (Steps.refl _) (argsL := []) (rest := []) (lenOf pd_0_1 rfl) rfl (by show 2 * 0 + _ ≤ _; exact Nat.le_of_eq rfl) (hb hby at_252) (fun _ _ => ⟨rfl, e414, (by decide : 4 + 1 ≤ _), (by decide : 90 + 16 ≤ _)⟩)
        dsimp only [Pt.U, Pt.locs, Pt.cells, Pt.slots] at X417 l417 y417 z417 st417 hQ417
        subst l417 y417 z417
        obtain ⟨b_417, rfl, N417q, K417q, g_b_417, szq_b_417, G417_0⟩ := hQ417
        have N417 := Fr.app N414 N417q
        have ne_b351_b_417 : b351 ≠ b_417 := Nat.ne_of_lt (Nat.lt_of_lt_of_le ((V395.keep K399q nin0).other W414 ne_b351_b_399).lt szq_b_417)
        have ne_b354_b_417 : b354 ≠ b_417 := Nat.ne_of_lt (Nat.lt_of_lt_of_le (((((c383.keep K382q).wr W391).wr W395).keep K399q).wr W414).lt szq_b_417)
        have ne_r_o0_bytes_357_b_417 : r_o0_bytes_357 ≠ b_417 := Nat.ne_of_lt (Nat.lt_of_lt_of_le ((c402.keep K399q nin0).other W414 ne_r_o0_bytes_357_b_399).lt szq_b_417)
        have ne_b_399_b_417 : b_399 ≠ b_417 := Nat.ne_of_lt (Nat.lt_of_lt_of_le V414.lt szq_b_417)
        have sz_b_417 : h0.size ≤ b_417 := Nat.le_trans K415.1 szq_b_417
        have K418 : Keep h0 T417.heap [] := K415.trans K417q all0
        have Z419 : n0 ≤ T417.heap.size := Nat.le_trans Z0 K418.1
        obtain ⟨LS417, X417, N417⟩ : ∃ L, Stand p l e room_1 s m #[(.int p0), (.int p1), (.int p2), (.int p3)] below meth c T417 L 5 106 ∧ Fr n0 L := ⟨_, X417, N417⟩
        have pre420 : ∀ t, Steps p.tables e below (T417.setTop (mkF m 261 #[.val (.int p0), .val (.int p1), .val (.int p2), .val (.int p3), .val (.int (1 : Int32)), .val (.int (1 : Int32)), .val (.int (0 : Int32)), .val (.ref b351), .val (.int (6 : Int32)), .val (.ref b354), .val (.ref b_399), .val (.ref b_417)] [(.ref b_399), (.ref b_417)])) t → Steps p.tables e below (s₁.setTop (entryFrame m #[(.int p0), (.int p1), (.int p2), (.int p3)] maxLocals)) t := fun t kt => pre411 t (by
            show Steps p.tables e below (T408.setTop (mkF m 235 #[.val (.int p0), .val (.int p1), .val (.int p2), .val (.int p3), .val (.int (1 : Int32)), .val (.int (1 : Int32)), .val (.int (0 : Int32)), .val (.ref b351), .val (.int (6 : Int32)), .val (.ref b354), .val (.ref b_399), .unset] [(.int (6 : Int32))])) _
            refine XS.ifNo X408.here hx rfl (hb hby at_235) rfl ((if0 _ _).trans (tlt (by decide : ((0 : Int32) < (6 : Int32)))).2.2.2) ?_
            show Steps p.tables e below (T408.setTop (mkF m 238 #[.val (.int p0), .val (.int p1), .val (.int p2), .val (.int p3), .val (.int (1 : Int32)), .val (.int (1 : Int32)), .val (.int (0 : Int32)), .val (.ref b351), .val (.int (6 : Int32)), .val (.ref b354), .val (.ref b_399), .unset] [])) _
            refine XS.aload X408.here hx rfl (hb hby at_238) rfl rfl ?_
            show Steps p.tables e below (T408.setTop (mkF m 240 #[.val (.int p0), .val (.int p1), .val (.int p2), .val (.int p3), .val (.int (1 : Int32)), .val (.int (1 : Int32)), .val (.int (0 : Int32)), .val (.ref b351), .val (.int (6 : Int32)), .val (.ref b354), .val (.ref b_399), .unset] [(.ref b_399)])) _
            refine XS.iconst X408.here hx rfl (hb hby at_240) ?_
            show Steps p.tables e below (T408.setTop (mkF m 241 #[.val (.int p0), .val (.int p1), .val (.int p2), .val (.int p3), .val (.int (1 : Int32)), .val (.int (1 : Int32)), .val (.int (0 : Int32)), .val (.ref b351), .val (.int (6 : Int32)), .val (.ref b354), .val (.ref b_399), .unset] [(.int (0 : Int32)), (.ref b_399)])) _
            refine XS.aload X408.here hx rfl (hb hby at_241) rfl rfl ?_
            show Steps p.tables e below (T408.setTop (mkF m 243 #[.val (.int p0), .val (.int p1), .val (.int p2), .val (.int p3), .val (.int (1 : Int32)), .val (.int (1 : Int32)), .val (.int (0 : Int32)), .val (.ref b351), .val (.int (6 : Int32)), .val (.ref b354), .val (.ref b_399), .unset] [(.ref b_399), (.int (0 : Int32)), (.ref b_399)])) _
            refine XS.iconst X408.here hx rfl (hb hby at_243) ?_
            show Steps p.tables e below (T408.setTop (mkF m 244 #[.val (.int p0), .val (.int p1), .val (.int p2), .val (.int p3), .val (.int (1 : Int32)), .val (.int (1 : Int32)), .val (.int (0 : Int32)), .val (.ref b351), .val (.int (6 : Int32)), .val (.ref b354), .val (.ref b_399), .unset] [(.int (0 : Int32)), (.ref b_399), (.int (0 : Int32)), (.ref b_399)])) _
            refine X408.baloadBytes hx (j := (0 : Int32)) (v := (.int ((f11_r1_a (p1.toInt16.toInt32) ((0 : Int32) + (4 : Int32)) (f3_r1_a p0 (0 : Int32) (fun _ => 0))) 0))) (by rw [e408q]; exact Ar412.1) (State.isArrayOf_alike hZ.alike Ar412.2.1) Ar412.2.2 hin412 hat412 (g := (mkF m 244 #[.val (.int p0), .val (.int p1), .val (.int p2), .val (.int p3), .val (.int (1 : Int32)), .val (.int (1 : Int32)), .val (.int (0 : Int32)), .val (.ref b351), .val (.int (6 : Int32)), .val (.ref b354), .val (.ref b_399), .unset] [(.int (0 : Int32)), (.ref b_399), (.int (0 : Int32)), (.ref b_399)])) rfl rfl (hb hby at_244) _ ?_
            show Steps p.tables e below (T408.setTop (mkF m 245 #[.val (.int p0), .val (.int p1), .val (.int p2), .val (.int p3), .val (.int (1 : Int32)), .val (.int (1 : Int32)), .val (.int (0 : Int32)), .val (.ref b351), .val (.int (6 : Int32)), .val (.ref b354), .val (.ref b_399), .unset] [(.int ((f11_r1_a (p1.toInt16.toInt32) ((0 : Int32) + (4 : Int32)) (f3_r1_a p0 (0 : Int32) (fun _ => 0))) 0)), (.int (0 : Int32)), (.ref b_399)])) _
            refine XS.bipush X408.here hx rfl (hb hby at_245) ?_
            show Steps p.tables e below (T408.setTop (mkF m 247 #[.val (.int p0), .val (.int p1), .val (.int p2), .val (.int p3), .val (.int (1 : Int32)), .val (.int (1 : Int32)), .val (.int (0 : Int32)), .val (.ref b351), .val (.int (6 : Int32)), .val (.ref b354), .val (.ref b_399), .unset] [(.int (90 : Int32)), (.int ((f11_r1_a (p1.toInt16.toInt32) ((0 : Int32) + (4 : Int32)) (f3_r1_a p0 (0 : Int32) (fun _ => 0))) 0)), (.int (0 : Int32)), (.ref b_399)])) _
            refine XS.ixor X408.here hx rfl (hb hby at_247) rfl ?_
            show Steps p.tables e below (T408.setTop (mkF m 248 #[.val (.int p0), .val (.int p1), .val (.int p2), .val (.int p3), .val (.int (1 : Int32)), .val (.int (1 : Int32)), .val (.int (0 : Int32)), .val (.ref b351), .val (.int (6 : Int32)), .val (.ref b354), .val (.ref b_399), .unset] [(.int (((f11_r1_a (p1.toInt16.toInt32) ((0 : Int32) + (4 : Int32)) (f3_r1_a p0 (0 : Int32) (fun _ => 0))) 0) ^^^ (90 : Int32))), (.int (0 : Int32)), (.ref b_399)])) _
            refine XS.i2b X408.here hx rfl (hb hby at_248) rfl ?_
            show Steps p.tables e below (T408.setTop (mkF m 249 #[.val (.int p0), .val (.int p1), .val (.int p2), .val (.int p3), .val (.int (1 : Int32)), .val (.int (1 : Int32)), .val (.int (0 : Int32)), .val (.ref b351), .val (.int (6 : Int32)), .val (.ref b354), .val (.ref b_399), .unset] [(.int ((((f11_r1_a (p1.toInt16.toInt32) ((0 : Int32) + (4 : Int32)) (f3_r1_a p0 (0 : Int32) (fun _ => 0))) 0) ^^^ (90 : Int32)).toInt8.toInt32)), (.int (0 : Int32)), (.ref b_399)])) _
            refine st414 _ ?_
            show Steps p.tables e below (T414.setTop (mkF m 250 #[.val (.int p0), .val (.int p1), .val (.int p2), .val (.int p3), .val (.int (1 : Int32)), .val (.int (1 : Int32)), .val (.int (0 : Int32)), .val (.ref b351), .val (.int (6 : Int32)), .val (.ref b354), .val (.ref b_399), .unset] [])) _
            refine XS.aload X414.here hx rfl (hb hby at_250) rfl rfl ?_
            show Steps p.tables e below (T414.setTop (mkF m 252 #[.val (.int p0), .val (.int p1), .val (.int p2), .val (.int p3), .val (.int (1 : Int32)), .val (.int (1 : Int32)), .val (.int (0 : Int32)), .val (.ref b351), .val (.int (6 : Int32)), .val (.ref b354), .val (.ref b_399), .unset] [(.ref b354)])) _
            refine st417.trans ?_
            show Steps p.tables e below (T417.setTop (mkF m 255 #[.val (.int p0), .val (.int p1), .val (.int p2), .val (.int p3), .val (.int (1 : Int32)), .val (.int (1 : Int32)), .val (.int (0 : Int32)), .val (.ref b351), .val (.int (6 : Int32)), .val (.ref b354), .val (.ref b_399), .unset] [(.ref b_417)])) _
            refine XS.astore X417.here hx rfl (hb hby at_255) rfl rfl (l' := #[.val (.int p0), .val (.int p1), .val (.int p2), .val (.int p3), .val (.int (1 : Int32)), .val (.int (1 : Int32)), .val (.int (0 : Int32)), .val (.ref b351), .val (.int (6 : Int32)), .val (.ref b354), .val (.ref b_399), .val (.ref b_417)]) rfl ?_
            show Steps p.tables e below (T417.setTop (mkF m 257 #[.val (.int p0), .val (.int p1), .val (.int p2), .val (.int p3), .val (.int (1 : Int32)), .val (.int (1 : Int32)), .val (.int (0 : Int32)), .val (.ref b351), .val (.int (6 : Int32)), .val (.ref b354), .val (.ref b_399), .val (.ref b_417)] [])) _
            refine XS.aload X417.here hx rfl (hb hby at_257) rfl rfl ?_
            show Steps p.tables e below (T417.setTop (mkF m 259 #[.val (.int p0), .val (.int p1), .val (.int p2), .val (.int p3), .val (.int (1 : Int32)), .val (.int (1 : Int32)), .val (.int (0 : Int32)), .val (.ref b351), .val (.int (6 : Int32)), .val (.ref b354), .val (.ref b_399), .val (.ref b_417)] [(.ref b_417)])) _
            refine XS.aload X417.here hx rfl (hb hby at_259) rfl rfl ?_
            exact kt)
        obtain ⟨cl421, Ar421, Sz421, Nn421, -⟩ := id G417_0
        have pre422 : ∀ t, Steps p.tables e below (T417.setTop (mkF m 269 #[.val (.int p0), .val (.int p1), .val (.int p2), .val (.int p3), .val (.int (1 : Int32)), .val (.int (1 : Int32)), .val (.int (0 : Int32)), .val (.ref b351), .val (.int (6 : Int32)), .val (.ref b354), .val (.ref b_399), .val (.ref b_417)] [(.int (6 : Int32)), (.int (((0 : Int32) + (4 : Int32)) + (2 : Int32)))])) t → Steps p.tables e below (s₁.setTop (entryFrame m #[(.int p0), (.int p1), (.int p2), (.int p3)] maxLocals)) t := fun t kt => pre420 t (by
            show Steps p.tables e below (T417.setTop (mkF m 261 #[.val (.int p0), .val (.int p1), .val (.int p2), .val (.int p3), .val (.int (1 : Int32)), .val (.int (1 : Int32)), .val (.int (0 : Int32)), .val (.ref b351), .val (.int (6 : Int32)), .val (.ref b354), .val (.ref b_399), .val (.ref b_417)] [(.ref b_399), (.ref b_417)])) _
            refine Jvm.RoadKit.acmp (g := (mkF m 261 #[.val (.int p0), .val (.int p1), .val (.int p2), .val (.int p3), .val (.int (1 : Int32)), .val (.int (1 : Int32)), .val (.int (0 : Int32)), .val (.ref b351), .val (.int (6 : Int32)), .val (.ref b354), .val (.ref b_399), .val (.ref b_417)] [(.ref b_399), (.ref b_417)])) X417 hx rfl rfl rfl (pc0 := 261) (pc' := 264) (same := false) rfl (hb hby at_261) rfl (decide_eq_false fun q => (Ne.symm ne_b_399_b_417) (Value.ref.inj q)) (by decide) (by decide) ?_
            show Steps p.tables e below (T417.setTop (mkF m 264 #[.val (.int p0), .val (.int p1), .val (.int p2), .val (.int p3), .val (.int (1 : Int32)), .val (.int (1 : Int32)), .val (.int (0 : Int32)), .val (.ref b351), .val (.int (6 : Int32)), .val (.ref b354), .val (.ref b_399), .val (.ref b_417)] [])) _
            refine XS.aload X417.here hx rfl (hb hby at_264) rfl rfl ?_
            show Steps p.tables e below (T417.setTop (mkF m 266 #[.val (.int p0), .val (.int p1), .val (.int p2), .val (.int p3), .val (.int (1 : Int32)), .val (.int (1 : Int32)), .val (.int (0 : Int32)), .val (.ref b351), .val (.int (6 : Int32)), .val (.ref b354), .val (.ref b_399), .val (.ref b_417)] [(.ref b_417)])) _
            refine X417.arraylength hx Ar421.1 (State.isArrayOf_alike hZ.alike Ar421.2.1) (g := (mkF m 266 #[.val (.int p0), .val (.int p1), .val (.int p2), .val (.int p3), .val (.int (1 : Int32)), .val (.int (1 : Int32)), .val (.int (0 : Int32)), .val (.ref b351), .val (.int (6 : Int32)), .val (.ref b354), .val (.ref b_399), .val (.ref b_417)] [(.ref b_417)])) rfl rfl (hb hby at_266) _ ?_
            rw [len_of Sz421 Nn421]
            show Steps p.tables e below (T417.setTop (mkF m 267 #[.val (.int p0), .val (.int p1), .val (.int p2), .val (.int p3), .val (.int (1 : Int32)), .val (.int (1 : Int32)), .val (.int (0 : Int32)), .val (.ref b351), .val (.int (6 : Int32)), .val (.ref b354), .val (.ref b_399), .val (.ref b_417)] [(.int (((0 : Int32) + (4 : Int32)) + (2 : Int32)))])) _
            refine XS.iload X417.here hx rfl (hb hby at_267) rfl ?_
            exact kt)
        have hd269_423 : (((0 : Int32) + (4 : Int32)) + (2 : Int32)) = (6 : Int32) := by decide
        have c425 := (((V395.keep K399q nin0).other W414 ne_b351_b_399).keep K417q nin0)
        obtain ⟨_, _, ⟨T424, L424, k424, n424⟩, -, X424, ⟨Lc424, hQ424, l424, y424, z424⟩, st424⟩ := Jvm.LawKit.callS X417 hx (y := (⟨"com/example/corvid/corvid/ByteWriterToByteArrayPinLaw", "same", "([B[BI)Z"⟩ : MethodName)) hown (mvT hZ (hw _ (List.mem_of_getElem? (i := 45) rfl))) (mvT hZ (hw _ (List.mem_of_getElem? (i := 46) rfl))) (mvT hZ (hw _ (List.mem_of_getElem? (i := 47) rfl))) (mvT hZ (hw _ (List.mem_of_getElem? (i := 48) rfl))) (by decide) (backOf (W := 0) (rm9 l Z a0 hw [] b_417 b351 (6 : Int32) (((0 : Int32) + (4 : Int32)) + (2 : Int32)) (f11_r1_a (p1.toInt16.toInt32) ((0 : Int32) + (4 : Int32)) (f3_r1_a p0 (0 : Int32) (fun _ => 0))) (7 : Int32) (own_upd (own_upd (own_upd (own_upd (own_upd (own_upd (fun _ => 0) 0 (nar .byte ((p0 &&& (255 : Int32)).toInt8.toInt32))) 1 (nar .byte (((p0 >>> ((8 : Int32) &&& 31)) &&& (255 : Int32)).toInt8.toInt32))) 2 (nar .byte (((p0 >>> ((16 : Int32) &&& 31)) &&& (255 : Int32)).toInt8.toInt32))) 3 (nar .byte (((p0 >>> ((24 : Int32) &&& 31)) &&& (255 : Int32)).toInt8.toInt32))) 4 (nar .byte ((p1 &&& (255 : Int32)).toInt8.toInt32))) 5 (nar .byte (((p1 >>> ((8 : Int32) &&& 31)) &&& (255 : Int32)).toInt8.toInt32))) T417.heap n0 Z419 G417_0 c425 (by decide)) hZ (hw _ (List.mem_of_getElem? (i := 48) rfl)) (hw _ (List.mem_of_getElem? (i := 47) rfl)) (by decide) (by decide)) (g := (mkF m 278 #[.val (.int p0), .val (.int p1), .val (.int p2), .val (.int p3), .val (.int (1 : Int32)), .val (.int (1 : Int32)), .val (.int (0 : Int32)), .val (.ref b351), .val (.int (6 : Int32)), .val (.ref b354), .val (.ref b_399), .val (.ref b_417)] [(.int (6 : Int32)), (.ref b351), (.ref b_417)])) rfl (by rw [hml]; rfl) (argsL := [(.ref b_417), (.ref b351), (.int (6 : Int32))]) (rest := []) (lenOf pd_0_2 rfl) rfl (by show 2 * 0 + _ ≤ _; exact Nat.le_of_eq rfl) (hb hby at_278) (fun _ _ => ⟨rfl, rfl, (by decide : 5 + 0 ≤ _), (by decide : 106 + 0 ≤ _)⟩)
        dsimp only [Pt.U, Pt.locs, Pt.cells, Pt.slots] at X424 l424 y424 z424 st424 hQ424
        subst l424 y424 z424
        obtain ⟨rfl, N424q, e424q⟩ := hQ424
        have N424 := Fr.app N417 N424q
        have pre426 : ∀ t, Steps p.tables e below (T424.setTop (mkF m 281 #[.val (.int p0), .val (.int p1), .val (.int p2), .val (.int p3), .val (.int (1 : Int32)), .val (.int (1 : Int32)), .val (.int (0 : Int32)), .val (.ref b351), .val (.int (6 : Int32)), .val (.ref b354), .val (.ref b_399), .val (.ref b_417)] [(.int (f9 (6 : Int32) (f11_r1_a (p1.toInt16.toInt32) ((0 : Int32) + (4 : Int32)) (f3_r1_a p0 (0 : Int32) (fun _ => 0))) (own_upd (own_upd (own_upd (own_upd (own_upd (own_upd (fun _ => 0) 0 (nar .byte ((p0 &&& (255 : Int32)).toInt8.toInt32))) 1 (nar .byte (((p0 >>> ((8 : Int32) &&& 31)) &&& (255 : Int32)).toInt8.toInt32))) 2 (nar .byte (((p0 >>> ((16 : Int32) &&& 31)) &&& (255 : Int32)).toInt8.toInt32))) 3 (nar .byte (((p0 >>> ((24 : Int32) &&& 31)) &&& (255 : Int32)).toInt8.toInt32))) 4 (nar .byte ((p1 &&& (255 : Int32)).toInt8.toInt32))) 5 (nar .byte (((p1 >>> ((8 : Int32) &&& 31)) &&& (255 : Int32)).toInt8.toInt32)))))])) t → Steps p.tables e below (s₁.setTop (entryFrame m #[(.int p0), (.int p1), (.int p2), (.int p3)] maxLocals)) t := fun t kt => pre422 t (by
            show Steps p.tables e below (T417.setTop (mkF m 269 #[.val (.int p0), .val (.int p1), .val (.int p2), .val (.int p3), .val (.int (1 : Int32)), .val (.int (1 : Int32)), .val (.int (0 : Int32)), .val (.ref b351), .val (.int (6 : Int32)), .val (.ref b354), .val (.ref b_399), .val (.ref b_417)] [(.int (6 : Int32)), (.int (((0 : Int32) + (4 : Int32)) + (2 : Int32)))])) _
            refine XS.icmpNo X417.here hx rfl (hb hby at_269) rfl (teq hd269_423).2 ?_
            show Steps p.tables e below (T417.setTop (mkF m 272 #[.val (.int p0), .val (.int p1), .val (.int p2), .val (.int p3), .val (.int (1 : Int32)), .val (.int (1 : Int32)), .val (.int (0 : Int32)), .val (.ref b351), .val (.int (6 : Int32)), .val (.ref b354), .val (.ref b_399), .val (.ref b_417)] [])) _
            refine XS.aload X417.here hx rfl (hb hby at_272) rfl rfl ?_
            show Steps p.tables e below (T417.setTop (mkF m 274 #[.val (.int p0), .val (.int p1), .val (.int p2), .val (.int p3), .val (.int (1 : Int32)), .val (.int (1 : Int32)), .val (.int (0 : Int32)), .val (.ref b351), .val (.int (6 : Int32)), .val (.ref b354), .val (.ref b_399), .val (.ref b_417)] [(.ref b_417)])) _
            refine XS.aload X417.here hx rfl (hb hby at_274) rfl rfl ?_
            show Steps p.tables e below (T417.setTop (mkF m 276 #[.val (.int p0), .val (.int p1), .val (.int p2), .val (.int p3), .val (.int (1 : Int32)), .val (.int (1 : Int32)), .val (.int (0 : Int32)), .val (.ref b351), .val (.int (6 : Int32)), .val (.ref b354), .val (.ref b_399), .val (.ref b_417)] [(.ref b351), (.ref b_417)])) _
            refine XS.iload X417.here hx rfl (hb hby at_276) rfl ?_
            show Steps p.tables e below (T417.setTop (mkF m 278 #[.val (.int p0), .val (.int p1), .val (.int p2), .val (.int p3), .val (.int (1 : Int32)), .val (.int (1 : Int32)), .val (.int (0 : Int32)), .val (.ref b351), .val (.int (6 : Int32)), .val (.ref b354), .val (.ref b_399), .val (.ref b_417)] [(.int (6 : Int32)), (.ref b351), (.ref b_417)])) _
            refine st424 _ ?_
            exact kt)
        have hd281_427 : ¬ ((f9 (6 : Int32) (f11_r1_a (p1.toInt16.toInt32) ((0 : Int32) + (4 : Int32)) (f3_r1_a p0 (0 : Int32) (fun _ => 0))) (own_upd (own_upd (own_upd (own_upd (own_upd (own_upd (fun _ => 0) 0 (nar .byte ((p0 &&& (255 : Int32)).toInt8.toInt32))) 1 (nar .byte (((p0 >>> ((8 : Int32) &&& 31)) &&& (255 : Int32)).toInt8.toInt32))) 2 (nar .byte (((p0 >>> ((16 : Int32) &&& 31)) &&& (255 : Int32)).toInt8.toInt32))) 3 (nar .byte (((p0 >>> ((24 : Int32) &&& 31)) &&& (255 : Int32)).toInt8.toInt32))) 4 (nar .byte ((p1 &&& (255 : Int32)).toInt8.toInt32))) 5 (nar .byte (((p1 >>> ((8 : Int32) &&& 31)) &&& (255 : Int32)).toInt8.toInt32)))) = (0 : Int32)) := own_sm _ _ _ (own_pf110 p0 p1 p2)
        obtain ⟨fs, hr, hrun, hended, hW, hsame⟩ := X424.leave (v := some (.int (1 : Int32))) (fun h => by rw [Bd.returns] at h; cases h)
        have hv523 : (1 : Int32) = (1 : Int32) := rfl
        refine ⟨_, _, pre426 _ ?_, hrun, hended, _, _, rfl, ?_, ⟨_, rfl⟩, hW, hsame.mono (by decide) (by decide)⟩
        · show Steps p.tables e below (T424.setTop (mkF m 281 #[.val (.int p0), .val (.int p1), .val (.int p2), .val (.int p3), .val (.int (1 : Int32)), .val (.int (1 : Int32)), .val (.int (0 : Int32)), .val (.ref b351), .val (.int (6 : Int32)), .val (.ref b354), .val (.ref b_399), .val (.ref b_417)] [(.int (f9 (6 : Int32) (f11_r1_a (p1.toInt16.toInt32) ((0 : Int32) + (4 : Int32)) (f3_r1_a p0 (0 : Int32) (fun _ => 0))) (own_upd (own_upd (own_upd (own_upd (own_upd (own_upd (fun _ => 0) 0 (nar .byte ((p0 &&& (255 : Int32)).toInt8.toInt32))) 1 (nar .byte (((p0 >>> ((8 : Int32) &&& 31)) &&& (255 : Int32)).toInt8.toInt32))) 2 (nar .byte (((p0 >>> ((16 : Int32) &&& 31)) &&& (255 : Int32)).toInt8.toInt32))) 3 (nar .byte (((p0 >>> ((24 : Int32) &&& 31)) &&& (255 : Int32)).toInt8.toInt32))) 4 (nar .byte ((p1 &&& (255 : Int32)).toInt8.toInt32))) 5 (nar .byte (((p1 >>> ((8 : Int32) &&& 31)) &&& (255 : Int32)).toInt8.toInt32)))))])) _
          refine XS.ifNo X424.here hx rfl (hb hby at_281) rfl ((if0 _ _).trans (feq hd281_427).1) ?_
          show Steps p.tables e below (T424.setTop (mkF m 284 #[.val (.int p0), .val (.int p1), .val (.int p2), .val (.int p3), .val (.int (1 : Int32)), .val (.int (1 : Int32)), .val (.int (0 : Int32)), .val (.ref b351), .val (.int (6 : Int32)), .val (.ref b354), .val (.ref b_399), .val (.ref b_417)] [])) _
          refine XS.iconst X424.here hx rfl (hb hby at_284) ?_
          show Steps p.tables e below (T424.setTop (mkF m 285 #[.val (.int p0), .val (.int p1), .val (.int p2), .val (.int p3), .val (.int (1 : Int32)), .val (.int (1 : Int32)), .val (.int (0 : Int32)), .val (.ref b351), .val (.int (6 : Int32)), .val (.ref b354), .val (.ref b_399), .val (.ref b_417)] [(.int (1 : Int32))])) _
          refine XS.goto X424.here hx rfl (pc0 := 285) (pc' := 289) rfl (hb hby at_285) (by decide) (by decide) ?_
          show Steps p.tables e below (T424.setTop (mkF m 289 #[.val (.int p0), .val (.int p1), .val (.int p2), .val (.int p3), .val (.int (1 : Int32)), .val (.int (1 : Int32)), .val (.int (0 : Int32)), .val (.ref b351), .val (.int (6 : Int32)), .val (.ref b354), .val (.ref b_399), .val (.ref b_417)] [(.int (1 : Int32))])) _
          exact retN X424 hx (t := .boolean) Bd.returns (by simp) (hb hby at_289) hr
        · show Q0 Z p0 p1 p2 p3 h0 n0 _ T424.heap _
          rw [e424q]
          exact ⟨congrArg (fun q => some (Value.int q)) hv523, N424⟩
      · obtain ⟨T428, h428, k428, X428, e428, E428, A428, st428⟩ := newP X0 hx hZ (hw _ (List.mem_of_getElem? (i := 0) rfl)) e0 (g := (mkF m 41 #[.val (.int p0), .val (.int p1), .val (.int p2), .val (.int p3), .val (.int (1 : Int32)), .val (.int (1 : Int32)), .val (.int (1 : Int32)), .unset, .unset, .unset, .unset, .unset] [(.int (7 : Int32))])) rfl (hb hby at_41) rfl (by decide) (cap := 7) (by decide) (by decide) (by decide) (by decide)
        obtain ⟨b428, g428⟩ : ∃ z, z = h0.size := ⟨_, rfl⟩
        rw [← g428] at A428 st428
        have g_b428 : n0 ≤ b428 := Nat.le_trans Z0 (Nat.le_of_eq g428.symm)
        have sz_b428 : h0.size ≤ b428 := Nat.le_trans (Keep.refl h0 []).1 (Nat.le_of_eq g428.symm)
        have K429 : Keep h0 h428 [] := (Keep.refl h0 []).ext E428
        have Z430 : n0 ≤ h428.size := Nat.le_trans Z0 K429.1
        have V_b428 : own_AI Z h428 b428 .byte (7 : Int32) (fun _ => 0) := own_AI.new A428 (by decide) rfl
        obtain ⟨T431, h431, X431, e431, E431, A431, D431, -, st431⟩ := newO X428 hx hZ hown (hw _ (List.mem_of_getElem? (i := 1) rfl)) (hw _ (List.mem_of_getElem? (i := 2) rfl)) (hw _ (List.mem_of_getElem? (i := 3) rfl)) e428 (g := (mkF m 48 #[.val (.int p0), .val (.int p1), .val (.int p2), .val (.int p3), .val (.int (1 : Int32)), .val (.int (1 : Int32)), .val (.int (1 : Int32)), .val (.ref b428), .val (.int (0 : Int32)), .unset, .unset, .unset] [])) rfl (hb hby at_48) (by decide) (by decide)
        obtain ⟨b431, g431⟩ : ∃ z, z = h428.size := ⟨_, rfl⟩
        rw [← g431] at A431 D431 st431
        have g_b431 : n0 ≤ b431 := Nat.le_trans Z430 (Nat.le_of_eq g431.symm)
        have sz_b431 : h0.size ≤ b431 := Nat.le_trans K429.1 (Nat.le_of_eq g431.symm)
        have ne_b428_b431 : b428 ≠ b431 := Nat.ne_of_lt (Nat.lt_of_lt_of_le V_b428.lt (Nat.le_of_eq g431.symm))
        have K432 : Keep h0 h431 [] := K429.ext E431
        have Z433 : n0 ≤ h431.size := Nat.le_trans Z0 K432.1
        have E_b431 := A431
        have F_bytes_b431 : Fld Z h431 b431 "com/example/corvid/corvid/ByteWriter" "bytes" "[B" .null := D431 (Or.inl (hw _ (List.mem_of_getElem? (i := 11) rfl))) (ty := (.array .byte)) (by decide)
        have F_encapsulationStart_b431 : Fld Z h431 b431 "com/example/corvid/corvid/ByteWriter" "encapsulationStart" "I" (.int (0 : Int32)) := D431 (Or.inl (hw _ (List.mem_of_getElem? (i := 13) rfl))) (ty := .int) (by decide)
        have F_length_b431 : Fld Z h431 b431 "com/example/corvid/corvid/ByteWriter" "length" "I" (.int (0 : Int32)) := D431 (Or.inl (hw _ (List.mem_of_getElem? (i := 24) rfl))) (ty := .int) (by decide)
        obtain ⟨_, _, ⟨T434, L434, k434, n434⟩, -, X434, ⟨Lc434, hQ434, l434, y434, z434⟩, st434⟩ := X431.specialBack hx (y := (⟨"com/example/corvid/corvid/ByteWriter", "<init>", "()V"⟩ : MethodName)) rfl hown (mvT hZ (hw _ (List.mem_of_getElem? (i := 4) rfl))) (mvT hZ (hw _ (List.mem_of_getElem? (i := 5) rfl))) (mvT hZ (hw _ (List.mem_of_getElem? (i := 6) rfl))) (by decide) (backOf (W := 1) (rm1 l Z a0 hw [] b431 (0 : Int32) (0 : Int32) h431 n0 Z433 E_b431 F_length_b431 F_bytes_b431 g_b431 F_encapsulationStart_b431) hZ (hw _ (List.mem_of_getElem? (i := 6) rfl)) (hw _ (List.mem_of_getElem? (i := 3) rfl)) (by decide) (by decide)) (g := (mkF m 52 #[.val (.int p0), .val (.int p1), .val (.int p2), .val (.int p3), .val (.int (1 : Int32)), .val (.int (1 : Int32)), .val (.int (1 : Int32)), .val (.ref b428), .val (.int (0 : Int32)), .unset, .unset, .unset] [(.ref b431), (.ref b431)])) rfl (by rw [hml]; rfl) (Steps.refl _) (a := b431) (argsL := []) (rest := [(.ref b431)]) (lenOf pd_0_0 rfl) rfl (by show 2 * 0 + _ ≤ _; exact Nat.le_of_eq rfl) (hb hby at_52) (fun _ _ => ⟨rfl, e431, (by decide : 2 + 1 ≤ _), (by decide : 10 + 64 ≤ _)⟩)
        dsimp only [Pt.U, Pt.locs, Pt.cells, Pt.slots] at X434 l434 y434 z434 st434 hQ434
        subst l434 y434 z434
        obtain ⟨r_o0_bytes_434, rfl, N434q, K434q, g_r_o0_bytes_434, szq_r_o0_bytes_434, G434_0, G434_1, G434_2, G434_3⟩ := hQ434
        have N434 := Fr.app N0 N434q
        have ne_b428_r_o0_bytes_434 : b428 ≠ r_o0_bytes_434 := Nat.ne_of_lt (Nat.lt_of_lt_of_le (V_b428.ext E431).lt szq_r_o0_bytes_434)
        have ne_b431_r_o0_bytes_434 : b431 ≠ r_o0_bytes_434 := Nat.ne_of_lt (Nat.lt_of_lt_of_le E_b431.lt szq_r_o0_bytes_434)
        have sz_r_o0_bytes_434 : h0.size ≤ r_o0_bytes_434 := Nat.le_trans K432.1 szq_r_o0_bytes_434
        have K435 : Keep h0 T434.heap [] := K432.trans K434q (allS (Or.inr sz_b431) all0)
        have Z436 : n0 ≤ T434.heap.size := Nat.le_trans Z0 K435.1
        obtain ⟨LS434, X434, N434⟩ : ∃ L, Stand p l e room_1 s m #[(.int p0), (.int p1), (.int p2), (.int p3)] below meth c T434 L 3 74 ∧ Fr n0 L := ⟨_, X434, N434⟩
        have pre437 : ∀ t, Steps p.tables e below (T434.setTop (mkF m 59 #[.val (.int p0), .val (.int p1), .val (.int p2), .val (.int p3), .val (.int (1 : Int32)), .val (.int (1 : Int32)), .val (.int (1 : Int32)), .val (.ref b428), .val (.int (0 : Int32)), .val (.ref b431), .unset, .unset] [(.int (1 : Int32))])) t → Steps p.tables e below (s₁.setTop (entryFrame m #[(.int p0), (.int p1), (.int p2), (.int p3)] maxLocals)) t := fun t kt => pre349 t (by
            show Steps p.tables e below (s₁.setTop (mkF m 29 #[.val (.int p0), .val (.int p1), .val (.int p2), .val (.int p3), .val (.int (1 : Int32)), .val (.int (1 : Int32)), .unset, .unset, .unset, .unset, .unset, .unset] [(.int (p3 &&& (4 : Int32)))])) _
            refine XS.ifNo X0.here hx rfl (hb hby at_29) rfl ((if0 _ _).trans (feq hc29_350).1) ?_
            show Steps p.tables e below (s₁.setTop (mkF m 32 #[.val (.int p0), .val (.int p1), .val (.int p2), .val (.int p3), .val (.int (1 : Int32)), .val (.int (1 : Int32)), .unset, .unset, .unset, .unset, .unset, .unset] [])) _
            refine XS.iconst X0.here hx rfl (hb hby at_32) ?_
            show Steps p.tables e below (s₁.setTop (mkF m 33 #[.val (.int p0), .val (.int p1), .val (.int p2), .val (.int p3), .val (.int (1 : Int32)), .val (.int (1 : Int32)), .unset, .unset, .unset, .unset, .unset, .unset] [(.int (1 : Int32))])) _
            refine XS.goto X0.here hx rfl (pc0 := 33) (pc' := 37) rfl (hb hby at_33) (by decide) (by decide) ?_
            show Steps p.tables e below (s₁.setTop (mkF m 37 #[.val (.int p0), .val (.int p1), .val (.int p2), .val (.int p3), .val (.int (1 : Int32)), .val (.int (1 : Int32)), .unset, .unset, .unset, .unset, .unset, .unset] [(.int (1 : Int32))])) _
            refine XS.istore X0.here hx rfl (hb hby at_37) rfl (l' := #[.val (.int p0), .val (.int p1), .val (.int p2), .val (.int p3), .val (.int (1 : Int32)), .val (.int (1 : Int32)), .val (.int (1 : Int32)), .unset, .unset, .unset, .unset, .unset]) rfl ?_
            show Steps p.tables e below (s₁.setTop (mkF m 39 #[.val (.int p0), .val (.int p1), .val (.int p2), .val (.int p3), .val (.int (1 : Int32)), .val (.int (1 : Int32)), .val (.int (1 : Int32)), .unset, .unset, .unset, .unset, .unset] [])) _
            refine XS.bipush X0.here hx rfl (hb hby at_39) ?_
            show Steps p.tables e below (s₁.setTop (mkF m 41 #[.val (.int p0), .val (.int p1), .val (.int p2), .val (.int p3), .val (.int (1 : Int32)), .val (.int (1 : Int32)), .val (.int (1 : Int32)), .unset, .unset, .unset, .unset, .unset] [(.int (7 : Int32))])) _
            refine st428 _ ?_
            show Steps p.tables e below (T428.setTop (mkF m 43 #[.val (.int p0), .val (.int p1), .val (.int p2), .val (.int p3), .val (.int (1 : Int32)), .val (.int (1 : Int32)), .val (.int (1 : Int32)), .unset, .unset, .unset, .unset, .unset] [(.ref b428)])) _
            refine XS.astore X428.here hx rfl (hb hby at_43) rfl rfl (l' := #[.val (.int p0), .val (.int p1), .val (.int p2), .val (.int p3), .val (.int (1 : Int32)), .val (.int (1 : Int32)), .val (.int (1 : Int32)), .val (.ref b428), .unset, .unset, .unset, .unset]) rfl ?_
            show Steps p.tables e below (T428.setTop (mkF m 45 #[.val (.int p0), .val (.int p1), .val (.int p2), .val (.int p3), .val (.int (1 : Int32)), .val (.int (1 : Int32)), .val (.int (1 : Int32)), .val (.ref b428), .unset, .unset, .unset, .unset] [])) _
            refine XS.iconst X428.here hx rfl (hb hby at_45) ?_
            show Steps p.tables e below (T428.setTop (mkF m 46 #[.val (.int p0), .val (.int p1), .val (.int p2), .val (.int p3), .val (.int (1 : Int32)), .val (.int (1 : Int32)), .val (.int (1 : Int32)), .val (.ref b428), .unset, .unset, .unset, .unset] [(.int (0 : Int32))])) _
            refine XS.istore X428.here hx rfl (hb hby at_46) rfl (l' := #[.val (.int p0), .val (.int p1), .val (.int p2), .val (.int p3), .val (.int (1 : Int32)), .val (.int (1 : Int32)), .val (.int (1 : Int32)), .val (.ref b428), .val (.int (0 : Int32)), .unset, .unset, .unset]) rfl ?_
            show Steps p.tables e below (T428.setTop (mkF m 48 #[.val (.int p0), .val (.int p1), .val (.int p2), .val (.int p3), .val (.int (1 : Int32)), .val (.int (1 : Int32)), .val (.int (1 : Int32)), .val (.ref b428), .val (.int (0 : Int32)), .unset, .unset, .unset] [])) _
            refine st431 _ ?_
            show Steps p.tables e below (T431.setTop (mkF m 51 #[.val (.int p0), .val (.int p1), .val (.int p2), .val (.int p3), .val (.int (1 : Int32)), .val (.int (1 : Int32)), .val (.int (1 : Int32)), .val (.ref b428), .val (.int (0 : Int32)), .unset, .unset, .unset] [(.ref b431)])) _
            refine XS.dup X431.here hx rfl (hb hby at_51) rfl rfl ?_
            show Steps p.tables e below (T431.setTop (mkF m 52 #[.val (.int p0), .val (.int p1), .val (.int p2), .val (.int p3), .val (.int (1 : Int32)), .val (.int (1 : Int32)), .val (.int (1 : Int32)), .val (.ref b428), .val (.int (0 : Int32)), .unset, .unset, .unset] [(.ref b431), (.ref b431)])) _
            refine st434.trans ?_
            show Steps p.tables e below (T434.setTop (mkF m 55 #[.val (.int p0), .val (.int p1), .val (.int p2), .val (.int p3), .val (.int (1 : Int32)), .val (.int (1 : Int32)), .val (.int (1 : Int32)), .val (.ref b428), .val (.int (0 : Int32)), .unset, .unset, .unset] [(.ref b431)])) _
            refine XS.astore X434.here hx rfl (hb hby at_55) rfl rfl (l' := #[.val (.int p0), .val (.int p1), .val (.int p2), .val (.int p3), .val (.int (1 : Int32)), .val (.int (1 : Int32)), .val (.int (1 : Int32)), .val (.ref b428), .val (.int (0 : Int32)), .val (.ref b431), .unset, .unset]) rfl ?_
            show Steps p.tables e below (T434.setTop (mkF m 57 #[.val (.int p0), .val (.int p1), .val (.int p2), .val (.int p3), .val (.int (1 : Int32)), .val (.int (1 : Int32)), .val (.int (1 : Int32)), .val (.ref b428), .val (.int (0 : Int32)), .val (.ref b431), .unset, .unset] [])) _
            refine XS.iload X434.here hx rfl (hb hby at_57) rfl ?_
            exact kt)
        obtain ⟨cq438, kq438, q438a, q438b, q438c⟩ := isOf hZ rfl (E_b431.keep K434q)
        obtain ⟨_, _, ⟨T438, L438, k438, n438⟩, -, X438, ⟨Lc438, hQ438, l438, y438, z438⟩, st438⟩ := X434.virtualBack hx (y := (⟨"com/example/corvid/corvid/ByteWriter", "writeInt", "(I)V"⟩ : MethodName)) (z := (⟨"com/example/corvid/corvid/ByteWriter", "writeInt", "(I)V"⟩ : MethodName)) hown (mvT hZ (hw _ (List.mem_of_getElem? (i := 14) rfl))) (mvT hZ (hw _ (List.mem_of_getElem? (i := 15) rfl))) (notFace_of_selects (args := #[]) (mvT hZ (hw _ (List.mem_of_getElem? (i := 17) rfl)))) (mvT hZ (hw _ (List.mem_of_getElem? (i := 17) rfl))) (mvT hZ (hw _ (List.mem_of_getElem? (i := 16) rfl))) (by decide) (backOf (W := 0) (rm3 l Z a0 hw [] b431 p0 (0 : Int32) r_o0_bytes_434 (fun _ => 0) T434.heap n0 Z436 (E_b431.keep K434q) G434_3 G434_0 G434_1 ne_b431_r_o0_bytes_434 (by decide) g_b431 g_r_o0_bytes_434) hZ (hw _ (List.mem_of_getElem? (i := 18) rfl)) (hw _ (List.mem_of_getElem? (i := 3) rfl)) (by decide) (by decide)) q438a q438c (g := (mkF m 65 #[.val (.int p0), .val (.int p1), .val (.int p2), .val (.int p3), .val (.int (1 : Int32)), .val (.int (1 : Int32)), .val (.int (1 : Int32)), .val (.ref b428), .val (.int (0 : Int32)), .val (.ref b431), .unset, .unset] [(.int p0), (.ref b431)])) rfl (by rw [hml]; rfl) (Steps.refl _) (argsL := [(.int p0)]) (rest := []) (lenOf pd_0_3 rfl) rfl (by show 2 * 0 + _ ≤ _; exact Nat.le_of_eq rfl) (hb hby at_65) (fun _ _ => ⟨rfl, rfl, (by decide : 3 + 0 ≤ _), (by decide : 74 + 0 ≤ _)⟩)
        dsimp only [Pt.U, Pt.locs, Pt.cells, Pt.slots] at X438 l438 y438 z438 st438 hQ438
        subst l438 y438 z438
        obtain ⟨rfl, N438q, K438q, G438_0, G438_1, G438_2⟩ := hQ438
        have N438 := Fr.app N434 N438q
        have K439 : Keep h0 T438.heap [] := K435.trans K438q (allS (Or.inr sz_r_o0_bytes_434) (allS (Or.inr sz_b431) all0))
        have Z440 : n0 ≤ T438.heap.size := Nat.le_trans Z0 K439.1
        obtain ⟨LS438, X438, N438⟩ : ∃ L, Stand p l e room_1 s m #[(.int p0), (.int p1), (.int p2), (.int p3)] below meth c T438 L 3 74 ∧ Fr n0 L := ⟨_, X438, N438⟩
        have c442 := (((V_b428.ext E431).keep K434q (ninS ne_b428_b431 nin0)).keep K438q (ninS ne_b428_r_o0_bytes_434 (ninS ne_b428_b431 nin0)))
        obtain ⟨cl441, Ar441, Sz441, Nn441, Hs441⟩ := id c442
        have hin441 : ¬ ((0 : Int32) < 0 ∨ cl441.slots.size ≤ ((0 : Int32)).toNatClampNeg) := inb_of Sz441 ⟨by decide, by decide⟩
        obtain ⟨T443, h443, X443, e443, W443, st443⟩ := stB X438 hx hZ rfl Ar441 (j := (0 : Int32)) hin441 (g := (mkF m 78 #[.val (.int p0), .val (.int p1), .val (.int p2), .val (.int p3), .val (.int (1 : Int32)), .val (.int (1 : Int32)), .val (.int (1 : Int32)), .val (.ref b428), .val (.int (0 : Int32)), .val (.ref b431), .unset, .unset] [(.int ((p0 &&& (255 : Int32)).toInt8.toInt32)), (.int (0 : Int32)), (.ref b428)])) rfl rfl (hb hby at_78)
        have V443 : own_AI Z h443 b428 .byte (7 : Int32) (own_upd (fun _ => 0) 0 (nar .byte ((p0 &&& (255 : Int32)).toInt8.toInt32))) := own_AI.set c442 (fits_nar_byte ((p0 &&& (255 : Int32)).toInt8.toInt32)) W443
        have K444 : Keep h0 h443 [] := K439.wr W443 (Or.inr sz_b428)
        have Z445 : n0 ≤ h443.size := Nat.le_trans Z0 K444.1
        have N443 := Fr.snoc X443 N438 g_b428
        obtain ⟨LS443, X443, N443⟩ : ∃ L, Stand p l e room_1 s m #[(.int p0), (.int p1), (.int p2), (.int p3)] below meth c T443 L 3 74 ∧ Fr n0 L := ⟨_, X443, N443⟩
        obtain ⟨cl446, Ar446, Sz446, Nn446, Hs446⟩ := id V443
        have hin446 : ¬ ((1 : Int32) < 0 ∨ cl446.slots.size ≤ ((1 : Int32)).toNatClampNeg) := inb_of Sz446 ⟨by decide, by decide⟩
        obtain ⟨T447, h447, X447, e447, W447, st447⟩ := stB X443 hx hZ e443 Ar446 (j := (1 : Int32)) hin446 (g := (mkF m 94 #[.val (.int p0), .val (.int p1), .val (.int p2), .val (.int p3), .val (.int (1 : Int32)), .val (.int (1 : Int32)), .val (.int (1 : Int32)), .val (.ref b428), .val (.int (0 : Int32)), .val (.ref b431), .unset, .unset] [(.int (((p0 >>> ((8 : Int32) &&& 31)) &&& (255 : Int32)).toInt8.toInt32)), (.int (1 : Int32)), (.ref b428)])) rfl rfl (hb hby at_94)
        have V447 : own_AI Z h447 b428 .byte (7 : Int32) (own_upd (own_upd (fun _ => 0) 0 (nar .byte ((p0 &&& (255 : Int32)).toInt8.toInt32))) 1 (nar .byte (((p0 >>> ((8 : Int32) &&& 31)) &&& (255 : Int32)).toInt8.toInt32))) := own_AI.set V443 (fits_nar_byte (((p0 >>> ((8 : Int32) &&& 31)) &&& (255 : Int32)).toInt8.toInt32)) W447
        have K448 : Keep h0 h447 [] := K444.wr W447 (Or.inr sz_b428)
        have Z449 : n0 ≤ h447.size := Nat.le_trans Z0 K448.1
        have N447 := Fr.snoc X447 N443 g_b428
        obtain ⟨LS447, X447, N447⟩ : ∃ L, Stand p l e room_1 s m #[(.int p0), (.int p1), (.int p2), (.int p3)] below meth c T447 L 3 74 ∧ Fr n0 L := ⟨_, X447, N447⟩
        obtain ⟨cl450, Ar450, Sz450, Nn450, Hs450⟩ := id V447
        have hin450 : ¬ ((2 : Int32) < 0 ∨ cl450.slots.size ≤ ((2 : Int32)).toNatClampNeg) := inb_of Sz450 ⟨by decide, by decide⟩
        obtain ⟨T451, h451, X451, e451, W451, st451⟩ := stB X447 hx hZ e447 Ar450 (j := (2 : Int32)) hin450 (g := (mkF m 110 #[.val (.int p0), .val (.int p1), .val (.int p2), .val (.int p3), .val (.int (1 : Int32)), .val (.int (1 : Int32)), .val (.int (1 : Int32)), .val (.ref b428), .val (.int (0 : Int32)), .val (.ref b431), .unset, .unset] [(.int (((p0 >>> ((16 : Int32) &&& 31)) &&& (255 : Int32)).toInt8.toInt32)), (.int (2 : Int32)), (.ref b428)])) rfl rfl (hb hby at_110)
        have V451 : own_AI Z h451 b428 .byte (7 : Int32) (own_upd (own_upd (own_upd (fun _ => 0) 0 (nar .byte ((p0 &&& (255 : Int32)).toInt8.toInt32))) 1 (nar .byte (((p0 >>> ((8 : Int32) &&& 31)) &&& (255 : Int32)).toInt8.toInt32))) 2 (nar .byte (((p0 >>> ((16 : Int32) &&& 31)) &&& (255 : Int32)).toInt8.toInt32))) := own_AI.set V447 (fits_nar_byte (((p0 >>> ((16 : Int32) &&& 31)) &&& (255 : Int32)).toInt8.toInt32)) W451
        have K452 : Keep h0 h451 [] := K448.wr W451 (Or.inr sz_b428)
        have Z453 : n0 ≤ h451.size := Nat.le_trans Z0 K452.1
        have N451 := Fr.snoc X451 N447 g_b428
        obtain ⟨LS451, X451, N451⟩ : ∃ L, Stand p l e room_1 s m #[(.int p0), (.int p1), (.int p2), (.int p3)] below meth c T451 L 3 74 ∧ Fr n0 L := ⟨_, X451, N451⟩
        obtain ⟨cl454, Ar454, Sz454, Nn454, Hs454⟩ := id V451
        have hin454 : ¬ ((3 : Int32) < 0 ∨ cl454.slots.size ≤ ((3 : Int32)).toNatClampNeg) := inb_of Sz454 ⟨by decide, by decide⟩
        obtain ⟨T455, h455, X455, e455, W455, st455⟩ := stB X451 hx hZ e451 Ar454 (j := (3 : Int32)) hin454 (g := (mkF m 126 #[.val (.int p0), .val (.int p1), .val (.int p2), .val (.int p3), .val (.int (1 : Int32)), .val (.int (1 : Int32)), .val (.int (1 : Int32)), .val (.ref b428), .val (.int (0 : Int32)), .val (.ref b431), .unset, .unset] [(.int (((p0 >>> ((24 : Int32) &&& 31)) &&& (255 : Int32)).toInt8.toInt32)), (.int (3 : Int32)), (.ref b428)])) rfl rfl (hb hby at_126)
        have V455 : own_AI Z h455 b428 .byte (7 : Int32) (own_upd (own_upd (own_upd (own_upd (fun _ => 0) 0 (nar .byte ((p0 &&& (255 : Int32)).toInt8.toInt32))) 1 (nar .byte (((p0 >>> ((8 : Int32) &&& 31)) &&& (255 : Int32)).toInt8.toInt32))) 2 (nar .byte (((p0 >>> ((16 : Int32) &&& 31)) &&& (255 : Int32)).toInt8.toInt32))) 3 (nar .byte (((p0 >>> ((24 : Int32) &&& 31)) &&& (255 : Int32)).toInt8.toInt32))) := own_AI.set V451 (fits_nar_byte (((p0 >>> ((24 : Int32) &&& 31)) &&& (255 : Int32)).toInt8.toInt32)) W455
        have K456 : Keep h0 h455 [] := K452.wr W455 (Or.inr sz_b428)
        have Z457 : n0 ≤ h455.size := Nat.le_trans Z0 K456.1
        have N455 := Fr.snoc X455 N451 g_b428
        obtain ⟨LS455, X455, N455⟩ : ∃ L, Stand p l e room_1 s m #[(.int p0), (.int p1), (.int p2), (.int p3)] below meth c T455 L 3 74 ∧ Fr n0 L := ⟨_, X455, N455⟩
        have pre458 : ∀ t, Steps p.tables e below (T455.setTop (mkF m 132 #[.val (.int p0), .val (.int p1), .val (.int p2), .val (.int p3), .val (.int (1 : Int32)), .val (.int (1 : Int32)), .val (.int (1 : Int32)), .val (.ref b428), .val (.int (4 : Int32)), .val (.ref b431), .unset, .unset] [(.int (1 : Int32))])) t → Steps p.tables e below (s₁.setTop (entryFrame m #[(.int p0), (.int p1), (.int p2), (.int p3)] maxLocals)) t := fun t kt => pre437 t (by
            show Steps p.tables e below (T434.setTop (mkF m 59 #[.val (.int p0), .val (.int p1), .val (.int p2), .val (.int p3), .val (.int (1 : Int32)), .val (.int (1 : Int32)), .val (.int (1 : Int32)), .val (.ref b428), .val (.int (0 : Int32)), .val (.ref b431), .unset, .unset] [(.int (1 : Int32))])) _
            refine XS.ifNo X434.here hx rfl (hb hby at_59) rfl ((if0 _ _).trans (feq (by decide : ¬ ((1 : Int32) = (0 : Int32)))).1) ?_
            show Steps p.tables e below (T434.setTop (mkF m 62 #[.val (.int p0), .val (.int p1), .val (.int p2), .val (.int p3), .val (.int (1 : Int32)), .val (.int (1 : Int32)), .val (.int (1 : Int32)), .val (.ref b428), .val (.int (0 : Int32)), .val (.ref b431), .unset, .unset] [])) _
            refine XS.aload X434.here hx rfl (hb hby at_62) rfl rfl ?_
            show Steps p.tables e below (T434.setTop (mkF m 64 #[.val (.int p0), .val (.int p1), .val (.int p2), .val (.int p3), .val (.int (1 : Int32)), .val (.int (1 : Int32)), .val (.int (1 : Int32)), .val (.ref b428), .val (.int (0 : Int32)), .val (.ref b431), .unset, .unset] [(.ref b431)])) _
            refine XS.iloadN X434.here hx rfl (hb hby at_64) rfl ?_
            show Steps p.tables e below (T434.setTop (mkF m 65 #[.val (.int p0), .val (.int p1), .val (.int p2), .val (.int p3), .val (.int (1 : Int32)), .val (.int (1 : Int32)), .val (.int (1 : Int32)), .val (.ref b428), .val (.int (0 : Int32)), .val (.ref b431), .unset, .unset] [(.int p0), (.ref b431)])) _
            refine st438.trans ?_
            show Steps p.tables e below (T438.setTop (mkF m 68 #[.val (.int p0), .val (.int p1), .val (.int p2), .val (.int p3), .val (.int (1 : Int32)), .val (.int (1 : Int32)), .val (.int (1 : Int32)), .val (.ref b428), .val (.int (0 : Int32)), .val (.ref b431), .unset, .unset] [])) _
            refine XS.aload X438.here hx rfl (hb hby at_68) rfl rfl ?_
            show Steps p.tables e below (T438.setTop (mkF m 70 #[.val (.int p0), .val (.int p1), .val (.int p2), .val (.int p3), .val (.int (1 : Int32)), .val (.int (1 : Int32)), .val (.int (1 : Int32)), .val (.ref b428), .val (.int (0 : Int32)), .val (.ref b431), .unset, .unset] [(.ref b428)])) _
            refine XS.iload X438.here hx rfl (hb hby at_70) rfl ?_
            show Steps p.tables e below (T438.setTop (mkF m 72 #[.val (.int p0), .val (.int p1), .val (.int p2), .val (.int p3), .val (.int (1 : Int32)), .val (.int (1 : Int32)), .val (.int (1 : Int32)), .val (.ref b428), .val (.int (0 : Int32)), .val (.ref b431), .unset, .unset] [(.int (0 : Int32)), (.ref b428)])) _
            refine XS.iloadN X438.here hx rfl (hb hby at_72) rfl ?_
            show Steps p.tables e below (T438.setTop (mkF m 73 #[.val (.int p0), .val (.int p1), .val (.int p2), .val (.int p3), .val (.int (1 : Int32)), .val (.int (1 : Int32)), .val (.int (1 : Int32)), .val (.ref b428), .val (.int (0 : Int32)), .val (.ref b431), .unset, .unset] [(.int p0), (.int (0 : Int32)), (.ref b428)])) _
            refine XS.sipush X438.here hx rfl (hb hby at_73) ?_
            show Steps p.tables e below (T438.setTop (mkF m 76 #[.val (.int p0), .val (.int p1), .val (.int p2), .val (.int p3), .val (.int (1 : Int32)), .val (.int (1 : Int32)), .val (.int (1 : Int32)), .val (.ref b428), .val (.int (0 : Int32)), .val (.ref b431), .unset, .unset] [(.int (255 : Int32)), (.int p0), (.int (0 : Int32)), (.ref b428)])) _
            refine XS.iand X438.here hx rfl (hb hby at_76) rfl ?_
            show Steps p.tables e below (T438.setTop (mkF m 77 #[.val (.int p0), .val (.int p1), .val (.int p2), .val (.int p3), .val (.int (1 : Int32)), .val (.int (1 : Int32)), .val (.int (1 : Int32)), .val (.ref b428), .val (.int (0 : Int32)), .val (.ref b431), .unset, .unset] [(.int (p0 &&& (255 : Int32))), (.int (0 : Int32)), (.ref b428)])) _
            refine XS.i2b X438.here hx rfl (hb hby at_77) rfl ?_
            show Steps p.tables e below (T438.setTop (mkF m 78 #[.val (.int p0), .val (.int p1), .val (.int p2), .val (.int p3), .val (.int (1 : Int32)), .val (.int (1 : Int32)), .val (.int (1 : Int32)), .val (.ref b428), .val (.int (0 : Int32)), .val (.ref b431), .unset, .unset] [(.int ((p0 &&& (255 : Int32)).toInt8.toInt32)), (.int (0 : Int32)), (.ref b428)])) _
            refine st443 _ ?_
            show Steps p.tables e below (T443.setTop (mkF m 79 #[.val (.int p0), .val (.int p1), .val (.int p2), .val (.int p3), .val (.int (1 : Int32)), .val (.int (1 : Int32)), .val (.int (1 : Int32)), .val (.ref b428), .val (.int (0 : Int32)), .val (.ref b431), .unset, .unset] [])) _
            refine XS.aload X443.here hx rfl (hb hby at_79) rfl rfl ?_
            show Steps p.tables e below (T443.setTop (mkF m 81 #[.val (.int p0), .val (.int p1), .val (.int p2), .val (.int p3), .val (.int (1 : Int32)), .val (.int (1 : Int32)), .val (.int (1 : Int32)), .val (.ref b428), .val (.int (0 : Int32)), .val (.ref b431), .unset, .unset] [(.ref b428)])) _
            refine XS.iload X443.here hx rfl (hb hby at_81) rfl ?_
            show Steps p.tables e below (T443.setTop (mkF m 83 #[.val (.int p0), .val (.int p1), .val (.int p2), .val (.int p3), .val (.int (1 : Int32)), .val (.int (1 : Int32)), .val (.int (1 : Int32)), .val (.ref b428), .val (.int (0 : Int32)), .val (.ref b431), .unset, .unset] [(.int (0 : Int32)), (.ref b428)])) _
            refine XS.iconst X443.here hx rfl (hb hby at_83) ?_
            show Steps p.tables e below (T443.setTop (mkF m 84 #[.val (.int p0), .val (.int p1), .val (.int p2), .val (.int p3), .val (.int (1 : Int32)), .val (.int (1 : Int32)), .val (.int (1 : Int32)), .val (.ref b428), .val (.int (0 : Int32)), .val (.ref b431), .unset, .unset] [(.int (1 : Int32)), (.int (0 : Int32)), (.ref b428)])) _
            refine XS.iadd X443.here hx rfl (hb hby at_84) rfl ?_
            show Steps p.tables e below (T443.setTop (mkF m 85 #[.val (.int p0), .val (.int p1), .val (.int p2), .val (.int p3), .val (.int (1 : Int32)), .val (.int (1 : Int32)), .val (.int (1 : Int32)), .val (.ref b428), .val (.int (0 : Int32)), .val (.ref b431), .unset, .unset] [(.int (1 : Int32)), (.ref b428)])) _
            refine XS.iloadN X443.here hx rfl (hb hby at_85) rfl ?_
            show Steps p.tables e below (T443.setTop (mkF m 86 #[.val (.int p0), .val (.int p1), .val (.int p2), .val (.int p3), .val (.int (1 : Int32)), .val (.int (1 : Int32)), .val (.int (1 : Int32)), .val (.ref b428), .val (.int (0 : Int32)), .val (.ref b431), .unset, .unset] [(.int p0), (.int (1 : Int32)), (.ref b428)])) _
            refine XS.bipush X443.here hx rfl (hb hby at_86) ?_
            show Steps p.tables e below (T443.setTop (mkF m 88 #[.val (.int p0), .val (.int p1), .val (.int p2), .val (.int p3), .val (.int (1 : Int32)), .val (.int (1 : Int32)), .val (.int (1 : Int32)), .val (.ref b428), .val (.int (0 : Int32)), .val (.ref b431), .unset, .unset] [(.int (8 : Int32)), (.int p0), (.int (1 : Int32)), (.ref b428)])) _
            refine XS.ishr X443.here hx rfl (hb hby at_88) rfl ?_
            show Steps p.tables e below (T443.setTop (mkF m 89 #[.val (.int p0), .val (.int p1), .val (.int p2), .val (.int p3), .val (.int (1 : Int32)), .val (.int (1 : Int32)), .val (.int (1 : Int32)), .val (.ref b428), .val (.int (0 : Int32)), .val (.ref b431), .unset, .unset] [(.int (p0 >>> ((8 : Int32) &&& 31))), (.int (1 : Int32)), (.ref b428)])) _
            refine XS.sipush X443.here hx rfl (hb hby at_89) ?_
            show Steps p.tables e below (T443.setTop (mkF m 92 #[.val (.int p0), .val (.int p1), .val (.int p2), .val (.int p3), .val (.int (1 : Int32)), .val (.int (1 : Int32)), .val (.int (1 : Int32)), .val (.ref b428), .val (.int (0 : Int32)), .val (.ref b431), .unset, .unset] [(.int (255 : Int32)), (.int (p0 >>> ((8 : Int32) &&& 31))), (.int (1 : Int32)), (.ref b428)])) _
            refine XS.iand X443.here hx rfl (hb hby at_92) rfl ?_
            show Steps p.tables e below (T443.setTop (mkF m 93 #[.val (.int p0), .val (.int p1), .val (.int p2), .val (.int p3), .val (.int (1 : Int32)), .val (.int (1 : Int32)), .val (.int (1 : Int32)), .val (.ref b428), .val (.int (0 : Int32)), .val (.ref b431), .unset, .unset] [(.int ((p0 >>> ((8 : Int32) &&& 31)) &&& (255 : Int32))), (.int (1 : Int32)), (.ref b428)])) _
            refine XS.i2b X443.here hx rfl (hb hby at_93) rfl ?_
            show Steps p.tables e below (T443.setTop (mkF m 94 #[.val (.int p0), .val (.int p1), .val (.int p2), .val (.int p3), .val (.int (1 : Int32)), .val (.int (1 : Int32)), .val (.int (1 : Int32)), .val (.ref b428), .val (.int (0 : Int32)), .val (.ref b431), .unset, .unset] [(.int (((p0 >>> ((8 : Int32) &&& 31)) &&& (255 : Int32)).toInt8.toInt32)), (.int (1 : Int32)), (.ref b428)])) _
            refine st447 _ ?_
            show Steps p.tables e below (T447.setTop (mkF m 95 #[.val (.int p0), .val (.int p1), .val (.int p2), .val (.int p3), .val (.int (1 : Int32)), .val (.int (1 : Int32)), .val (.int (1 : Int32)), .val (.ref b428), .val (.int (0 : Int32)), .val (.ref b431), .unset, .unset] [])) _
            refine XS.aload X447.here hx rfl (hb hby at_95) rfl rfl ?_
            show Steps p.tables e below (T447.setTop (mkF m 97 #[.val (.int p0), .val (.int p1), .val (.int p2), .val (.int p3), .val (.int (1 : Int32)), .val (.int (1 : Int32)), .val (.int (1 : Int32)), .val (.ref b428), .val (.int (0 : Int32)), .val (.ref b431), .unset, .unset] [(.ref b428)])) _
            refine XS.iload X447.here hx rfl (hb hby at_97) rfl ?_
            show Steps p.tables e below (T447.setTop (mkF m 99 #[.val (.int p0), .val (.int p1), .val (.int p2), .val (.int p3), .val (.int (1 : Int32)), .val (.int (1 : Int32)), .val (.int (1 : Int32)), .val (.ref b428), .val (.int (0 : Int32)), .val (.ref b431), .unset, .unset] [(.int (0 : Int32)), (.ref b428)])) _
            refine XS.iconst X447.here hx rfl (hb hby at_99) ?_
            show Steps p.tables e below (T447.setTop (mkF m 100 #[.val (.int p0), .val (.int p1), .val (.int p2), .val (.int p3), .val (.int (1 : Int32)), .val (.int (1 : Int32)), .val (.int (1 : Int32)), .val (.ref b428), .val (.int (0 : Int32)), .val (.ref b431), .unset, .unset] [(.int (2 : Int32)), (.int (0 : Int32)), (.ref b428)])) _
            refine XS.iadd X447.here hx rfl (hb hby at_100) rfl ?_
            show Steps p.tables e below (T447.setTop (mkF m 101 #[.val (.int p0), .val (.int p1), .val (.int p2), .val (.int p3), .val (.int (1 : Int32)), .val (.int (1 : Int32)), .val (.int (1 : Int32)), .val (.ref b428), .val (.int (0 : Int32)), .val (.ref b431), .unset, .unset] [(.int (2 : Int32)), (.ref b428)])) _
            refine XS.iloadN X447.here hx rfl (hb hby at_101) rfl ?_
            show Steps p.tables e below (T447.setTop (mkF m 102 #[.val (.int p0), .val (.int p1), .val (.int p2), .val (.int p3), .val (.int (1 : Int32)), .val (.int (1 : Int32)), .val (.int (1 : Int32)), .val (.ref b428), .val (.int (0 : Int32)), .val (.ref b431), .unset, .unset] [(.int p0), (.int (2 : Int32)), (.ref b428)])) _
            refine XS.bipush X447.here hx rfl (hb hby at_102) ?_
            show Steps p.tables e below (T447.setTop (mkF m 104 #[.val (.int p0), .val (.int p1), .val (.int p2), .val (.int p3), .val (.int (1 : Int32)), .val (.int (1 : Int32)), .val (.int (1 : Int32)), .val (.ref b428), .val (.int (0 : Int32)), .val (.ref b431), .unset, .unset] [(.int (16 : Int32)), (.int p0), (.int (2 : Int32)), (.ref b428)])) _
            refine XS.ishr X447.here hx rfl (hb hby at_104) rfl ?_
            show Steps p.tables e below (T447.setTop (mkF m 105 #[.val (.int p0), .val (.int p1), .val (.int p2), .val (.int p3), .val (.int (1 : Int32)), .val (.int (1 : Int32)), .val (.int (1 : Int32)), .val (.ref b428), .val (.int (0 : Int32)), .val (.ref b431), .unset, .unset] [(.int (p0 >>> ((16 : Int32) &&& 31))), (.int (2 : Int32)), (.ref b428)])) _
            refine XS.sipush X447.here hx rfl (hb hby at_105) ?_
            show Steps p.tables e below (T447.setTop (mkF m 108 #[.val (.int p0), .val (.int p1), .val (.int p2), .val (.int p3), .val (.int (1 : Int32)), .val (.int (1 : Int32)), .val (.int (1 : Int32)), .val (.ref b428), .val (.int (0 : Int32)), .val (.ref b431), .unset, .unset] [(.int (255 : Int32)), (.int (p0 >>> ((16 : Int32) &&& 31))), (.int (2 : Int32)), (.ref b428)])) _
            refine XS.iand X447.here hx rfl (hb hby at_108) rfl ?_
            show Steps p.tables e below (T447.setTop (mkF m 109 #[.val (.int p0), .val (.int p1), .val (.int p2), .val (.int p3), .val (.int (1 : Int32)), .val (.int (1 : Int32)), .val (.int (1 : Int32)), .val (.ref b428), .val (.int (0 : Int32)), .val (.ref b431), .unset, .unset] [(.int ((p0 >>> ((16 : Int32) &&& 31)) &&& (255 : Int32))), (.int (2 : Int32)), (.ref b428)])) _
            refine XS.i2b X447.here hx rfl (hb hby at_109) rfl ?_
            show Steps p.tables e below (T447.setTop (mkF m 110 #[.val (.int p0), .val (.int p1), .val (.int p2), .val (.int p3), .val (.int (1 : Int32)), .val (.int (1 : Int32)), .val (.int (1 : Int32)), .val (.ref b428), .val (.int (0 : Int32)), .val (.ref b431), .unset, .unset] [(.int (((p0 >>> ((16 : Int32) &&& 31)) &&& (255 : Int32)).toInt8.toInt32)), (.int (2 : Int32)), (.ref b428)])) _
            refine st451 _ ?_
            show Steps p.tables e below (T451.setTop (mkF m 111 #[.val (.int p0), .val (.int p1), .val (.int p2), .val (.int p3), .val (.int (1 : Int32)), .val (.int (1 : Int32)), .val (.int (1 : Int32)), .val (.ref b428), .val (.int (0 : Int32)), .val (.ref b431), .unset, .unset] [])) _
            refine XS.aload X451.here hx rfl (hb hby at_111) rfl rfl ?_
            show Steps p.tables e below (T451.setTop (mkF m 113 #[.val (.int p0), .val (.int p1), .val (.int p2), .val (.int p3), .val (.int (1 : Int32)), .val (.int (1 : Int32)), .val (.int (1 : Int32)), .val (.ref b428), .val (.int (0 : Int32)), .val (.ref b431), .unset, .unset] [(.ref b428)])) _
            refine XS.iload X451.here hx rfl (hb hby at_113) rfl ?_
            show Steps p.tables e below (T451.setTop (mkF m 115 #[.val (.int p0), .val (.int p1), .val (.int p2), .val (.int p3), .val (.int (1 : Int32)), .val (.int (1 : Int32)), .val (.int (1 : Int32)), .val (.ref b428), .val (.int (0 : Int32)), .val (.ref b431), .unset, .unset] [(.int (0 : Int32)), (.ref b428)])) _
            refine XS.iconst X451.here hx rfl (hb hby at_115) ?_
            show Steps p.tables e below (T451.setTop (mkF m 116 #[.val (.int p0), .val (.int p1), .val (.int p2), .val (.int p3), .val (.int (1 : Int32)), .val (.int (1 : Int32)), .val (.int (1 : Int32)), .val (.ref b428), .val (.int (0 : Int32)), .val (.ref b431), .unset, .unset] [(.int (3 : Int32)), (.int (0 : Int32)), (.ref b428)])) _
            refine XS.iadd X451.here hx rfl (hb hby at_116) rfl ?_
            show Steps p.tables e below (T451.setTop (mkF m 117 #[.val (.int p0), .val (.int p1), .val (.int p2), .val (.int p3), .val (.int (1 : Int32)), .val (.int (1 : Int32)), .val (.int (1 : Int32)), .val (.ref b428), .val (.int (0 : Int32)), .val (.ref b431), .unset, .unset] [(.int (3 : Int32)), (.ref b428)])) _
            refine XS.iloadN X451.here hx rfl (hb hby at_117) rfl ?_
            show Steps p.tables e below (T451.setTop (mkF m 118 #[.val (.int p0), .val (.int p1), .val (.int p2), .val (.int p3), .val (.int (1 : Int32)), .val (.int (1 : Int32)), .val (.int (1 : Int32)), .val (.ref b428), .val (.int (0 : Int32)), .val (.ref b431), .unset, .unset] [(.int p0), (.int (3 : Int32)), (.ref b428)])) _
            refine XS.bipush X451.here hx rfl (hb hby at_118) ?_
            show Steps p.tables e below (T451.setTop (mkF m 120 #[.val (.int p0), .val (.int p1), .val (.int p2), .val (.int p3), .val (.int (1 : Int32)), .val (.int (1 : Int32)), .val (.int (1 : Int32)), .val (.ref b428), .val (.int (0 : Int32)), .val (.ref b431), .unset, .unset] [(.int (24 : Int32)), (.int p0), (.int (3 : Int32)), (.ref b428)])) _
            refine XS.ishr X451.here hx rfl (hb hby at_120) rfl ?_
            show Steps p.tables e below (T451.setTop (mkF m 121 #[.val (.int p0), .val (.int p1), .val (.int p2), .val (.int p3), .val (.int (1 : Int32)), .val (.int (1 : Int32)), .val (.int (1 : Int32)), .val (.ref b428), .val (.int (0 : Int32)), .val (.ref b431), .unset, .unset] [(.int (p0 >>> ((24 : Int32) &&& 31))), (.int (3 : Int32)), (.ref b428)])) _
            refine XS.sipush X451.here hx rfl (hb hby at_121) ?_
            show Steps p.tables e below (T451.setTop (mkF m 124 #[.val (.int p0), .val (.int p1), .val (.int p2), .val (.int p3), .val (.int (1 : Int32)), .val (.int (1 : Int32)), .val (.int (1 : Int32)), .val (.ref b428), .val (.int (0 : Int32)), .val (.ref b431), .unset, .unset] [(.int (255 : Int32)), (.int (p0 >>> ((24 : Int32) &&& 31))), (.int (3 : Int32)), (.ref b428)])) _
            refine XS.iand X451.here hx rfl (hb hby at_124) rfl ?_
            show Steps p.tables e below (T451.setTop (mkF m 125 #[.val (.int p0), .val (.int p1), .val (.int p2), .val (.int p3), .val (.int (1 : Int32)), .val (.int (1 : Int32)), .val (.int (1 : Int32)), .val (.ref b428), .val (.int (0 : Int32)), .val (.ref b431), .unset, .unset] [(.int ((p0 >>> ((24 : Int32) &&& 31)) &&& (255 : Int32))), (.int (3 : Int32)), (.ref b428)])) _
            refine XS.i2b X451.here hx rfl (hb hby at_125) rfl ?_
            show Steps p.tables e below (T451.setTop (mkF m 126 #[.val (.int p0), .val (.int p1), .val (.int p2), .val (.int p3), .val (.int (1 : Int32)), .val (.int (1 : Int32)), .val (.int (1 : Int32)), .val (.ref b428), .val (.int (0 : Int32)), .val (.ref b431), .unset, .unset] [(.int (((p0 >>> ((24 : Int32) &&& 31)) &&& (255 : Int32)).toInt8.toInt32)), (.int (3 : Int32)), (.ref b428)])) _
            refine st455 _ ?_
            show Steps p.tables e below (T455.setTop (mkF m 127 #[.val (.int p0), .val (.int p1), .val (.int p2), .val (.int p3), .val (.int (1 : Int32)), .val (.int (1 : Int32)), .val (.int (1 : Int32)), .val (.ref b428), .val (.int (0 : Int32)), .val (.ref b431), .unset, .unset] [])) _
            refine XS.iinc X455.here hx rfl (hb hby at_127) rfl (l' := #[.val (.int p0), .val (.int p1), .val (.int p2), .val (.int p3), .val (.int (1 : Int32)), .val (.int (1 : Int32)), .val (.int (1 : Int32)), .val (.ref b428), .val (.int (4 : Int32)), .val (.ref b431), .unset, .unset]) rfl ?_
            show Steps p.tables e below (T455.setTop (mkF m 130 #[.val (.int p0), .val (.int p1), .val (.int p2), .val (.int p3), .val (.int (1 : Int32)), .val (.int (1 : Int32)), .val (.int (1 : Int32)), .val (.ref b428), .val (.int (4 : Int32)), .val (.ref b431), .unset, .unset] [])) _
            refine XS.iload X455.here hx rfl (hb hby at_130) rfl ?_
            exact kt)
        have c460 := ((((((E_b431.keep K434q).keep K438q).wr W443).wr W447).wr W451).wr W455)
        have c461 := ((((G438_1.other W443 (Or.inl (Ne.symm ne_b428_b431))).other W447 (Or.inl (Ne.symm ne_b428_b431))).other W451 (Or.inl (Ne.symm ne_b428_b431))).other W455 (Or.inl (Ne.symm ne_b428_b431)))
        have c462 := ((((G438_2.other W443 (Or.inl (Ne.symm ne_b428_b431))).other W447 (Or.inl (Ne.symm ne_b428_b431))).other W451 (Or.inl (Ne.symm ne_b428_b431))).other W455 (Or.inl (Ne.symm ne_b428_b431)))
        have c463 := ((((G438_0.other W443 (Ne.symm ne_b428_r_o0_bytes_434)).other W447 (Ne.symm ne_b428_r_o0_bytes_434)).other W451 (Ne.symm ne_b428_r_o0_bytes_434)).other W455 (Ne.symm ne_b428_r_o0_bytes_434))
        obtain ⟨cq459, kq459, q459a, q459b, q459c⟩ := isOf hZ e455 c460
        obtain ⟨_, _, ⟨T459, L459, k459, n459⟩, -, X459, ⟨Lc459, hQ459, l459, y459, z459⟩, st459⟩ := X455.virtualBack hx (y := (⟨"com/example/corvid/corvid/ByteWriter", "writeShort", "(S)V"⟩ : MethodName)) (z := (⟨"com/example/corvid/corvid/ByteWriter", "writeShort", "(S)V"⟩ : MethodName)) hown (mvT hZ (hw _ (List.mem_of_getElem? (i := 52) rfl))) (mvT hZ (hw _ (List.mem_of_getElem? (i := 53) rfl))) (notFace_of_selects (args := #[]) (mvT hZ (hw _ (List.mem_of_getElem? (i := 55) rfl)))) (mvT hZ (hw _ (List.mem_of_getElem? (i := 55) rfl))) (mvT hZ (hw _ (List.mem_of_getElem? (i := 54) rfl))) (by decide) (backOf (W := 0) (rm11 l Z a0 hw [] b431 (p1.toInt16.toInt32) ((0 : Int32) + (4 : Int32)) r_o0_bytes_434 (f3_r1_a p0 (0 : Int32) (fun _ => 0)) h455 n0 Z457 c460 c461 c462 c463 ne_b431_r_o0_bytes_434 (by decide) g_b431 g_r_o0_bytes_434) hZ (hw _ (List.mem_of_getElem? (i := 56) rfl)) (hw _ (List.mem_of_getElem? (i := 3) rfl)) (by decide) (by decide)) q459a q459c (g := (mkF m 139 #[.val (.int p0), .val (.int p1), .val (.int p2), .val (.int p3), .val (.int (1 : Int32)), .val (.int (1 : Int32)), .val (.int (1 : Int32)), .val (.ref b428), .val (.int (4 : Int32)), .val (.ref b431), .unset, .unset] [(.int (p1.toInt16.toInt32)), (.ref b431)])) rfl (by rw [hml]; rfl) (Steps.refl _) (argsL := [(.int (p1.toInt16.toInt32))]) (rest := []) (lenOf pd_0_4 rfl) rfl (by show 2 * 0 + _ ≤ _; exact Nat.le_of_eq rfl) (hb hby at_139) (fun _ _ => ⟨rfl, e455, (by decide : 3 + 0 ≤ _), (by decide : 74 + 0 ≤ _)⟩)
        dsimp only [Pt.U, Pt.locs, Pt.cells, Pt.slots] at X459 l459 y459 z459 st459 hQ459
        subst l459 y459 z459
        obtain ⟨rfl, N459q, K459q, G459_0, G459_1, G459_2⟩ := hQ459
        have N459 := Fr.app N455 N459q
        have K464 : Keep h0 T459.heap [] := K456.trans K459q (allS (Or.inr sz_r_o0_bytes_434) (allS (Or.inr sz_b431) all0))
        have Z465 : n0 ≤ T459.heap.size := Nat.le_trans Z0 K464.1
        obtain ⟨LS459, X459, N459⟩ : ∃ L, Stand p l e room_1 s m #[(.int p0), (.int p1), (.int p2), (.int p3)] below meth c T459 L 3 74 ∧ Fr n0 L := ⟨_, X459, N459⟩
        have c467 := (V455.keep K459q (ninS ne_b428_r_o0_bytes_434 (ninS ne_b428_b431 nin0)))
        obtain ⟨cl466, Ar466, Sz466, Nn466, Hs466⟩ := id c467
        have hin466 : ¬ ((4 : Int32) < 0 ∨ cl466.slots.size ≤ ((4 : Int32)).toNatClampNeg) := inb_of Sz466 ⟨by decide, by decide⟩
        obtain ⟨T468, h468, X468, e468, W468, st468⟩ := stB X459 hx hZ rfl Ar466 (j := (4 : Int32)) hin466 (g := (mkF m 152 #[.val (.int p0), .val (.int p1), .val (.int p2), .val (.int p3), .val (.int (1 : Int32)), .val (.int (1 : Int32)), .val (.int (1 : Int32)), .val (.ref b428), .val (.int (4 : Int32)), .val (.ref b431), .unset, .unset] [(.int ((p1 &&& (255 : Int32)).toInt8.toInt32)), (.int (4 : Int32)), (.ref b428)])) rfl rfl (hb hby at_152)
        have V468 : own_AI Z h468 b428 .byte (7 : Int32) (own_upd (own_upd (own_upd (own_upd (own_upd (fun _ => 0) 0 (nar .byte ((p0 &&& (255 : Int32)).toInt8.toInt32))) 1 (nar .byte (((p0 >>> ((8 : Int32) &&& 31)) &&& (255 : Int32)).toInt8.toInt32))) 2 (nar .byte (((p0 >>> ((16 : Int32) &&& 31)) &&& (255 : Int32)).toInt8.toInt32))) 3 (nar .byte (((p0 >>> ((24 : Int32) &&& 31)) &&& (255 : Int32)).toInt8.toInt32))) 4 (nar .byte ((p1 &&& (255 : Int32)).toInt8.toInt32))) := own_AI.set c467 (fits_nar_byte ((p1 &&& (255 : Int32)).toInt8.toInt32)) W468
        have K469 : Keep h0 h468 [] := K464.wr W468 (Or.inr sz_b428)
        have Z470 : n0 ≤ h468.size := Nat.le_trans Z0 K469.1
        have N468 := Fr.snoc X468 N459 g_b428
        obtain ⟨LS468, X468, N468⟩ : ∃ L, Stand p l e room_1 s m #[(.int p0), (.int p1), (.int p2), (.int p3)] below meth c T468 L 3 74 ∧ Fr n0 L := ⟨_, X468, N468⟩
        obtain ⟨cl471, Ar471, Sz471, Nn471, Hs471⟩ := id V468
        have hin471 : ¬ ((5 : Int32) < 0 ∨ cl471.slots.size ≤ ((5 : Int32)).toNatClampNeg) := inb_of Sz471 ⟨by decide, by decide⟩
        obtain ⟨T472, h472, X472, e472, W472, st472⟩ := stB X468 hx hZ e468 Ar471 (j := (5 : Int32)) hin471 (g := (mkF m 168 #[.val (.int p0), .val (.int p1), .val (.int p2), .val (.int p3), .val (.int (1 : Int32)), .val (.int (1 : Int32)), .val (.int (1 : Int32)), .val (.ref b428), .val (.int (4 : Int32)), .val (.ref b431), .unset, .unset] [(.int (((p1 >>> ((8 : Int32) &&& 31)) &&& (255 : Int32)).toInt8.toInt32)), (.int (5 : Int32)), (.ref b428)])) rfl rfl (hb hby at_168)
        have V472 : own_AI Z h472 b428 .byte (7 : Int32) (own_upd (own_upd (own_upd (own_upd (own_upd (own_upd (fun _ => 0) 0 (nar .byte ((p0 &&& (255 : Int32)).toInt8.toInt32))) 1 (nar .byte (((p0 >>> ((8 : Int32) &&& 31)) &&& (255 : Int32)).toInt8.toInt32))) 2 (nar .byte (((p0 >>> ((16 : Int32) &&& 31)) &&& (255 : Int32)).toInt8.toInt32))) 3 (nar .byte (((p0 >>> ((24 : Int32) &&& 31)) &&& (255 : Int32)).toInt8.toInt32))) 4 (nar .byte ((p1 &&& (255 : Int32)).toInt8.toInt32))) 5 (nar .byte (((p1 >>> ((8 : Int32) &&& 31)) &&& (255 : Int32)).toInt8.toInt32))) := own_AI.set V468 (fits_nar_byte (((p1 >>> ((8 : Int32) &&& 31)) &&& (255 : Int32)).toInt8.toInt32)) W472
        have K473 : Keep h0 h472 [] := K469.wr W472 (Or.inr sz_b428)
        have Z474 : n0 ≤ h472.size := Nat.le_trans Z0 K473.1
        have N472 := Fr.snoc X472 N468 g_b428
        obtain ⟨LS472, X472, N472⟩ : ∃ L, Stand p l e room_1 s m #[(.int p0), (.int p1), (.int p2), (.int p3)] below meth c T472 L 3 74 ∧ Fr n0 L := ⟨_, X472, N472⟩
        have pre475 : ∀ t, Steps p.tables e below (T472.setTop (mkF m 174 #[.val (.int p0), .val (.int p1), .val (.int p2), .val (.int p3), .val (.int (1 : Int32)), .val (.int (1 : Int32)), .val (.int (1 : Int32)), .val (.ref b428), .val (.int (6 : Int32)), .val (.ref b431), .unset, .unset] [(.int (1 : Int32))])) t → Steps p.tables e below (s₁.setTop (entryFrame m #[(.int p0), (.int p1), (.int p2), (.int p3)] maxLocals)) t := fun t kt => pre458 t (by
            show Steps p.tables e below (T455.setTop (mkF m 132 #[.val (.int p0), .val (.int p1), .val (.int p2), .val (.int p3), .val (.int (1 : Int32)), .val (.int (1 : Int32)), .val (.int (1 : Int32)), .val (.ref b428), .val (.int (4 : Int32)), .val (.ref b431), .unset, .unset] [(.int (1 : Int32))])) _
            refine XS.ifNo X455.here hx rfl (hb hby at_132) rfl ((if0 _ _).trans (feq (by decide : ¬ ((1 : Int32) = (0 : Int32)))).1) ?_
            show Steps p.tables e below (T455.setTop (mkF m 135 #[.val (.int p0), .val (.int p1), .val (.int p2), .val (.int p3), .val (.int (1 : Int32)), .val (.int (1 : Int32)), .val (.int (1 : Int32)), .val (.ref b428), .val (.int (4 : Int32)), .val (.ref b431), .unset, .unset] [])) _
            refine XS.aload X455.here hx rfl (hb hby at_135) rfl rfl ?_
            show Steps p.tables e below (T455.setTop (mkF m 137 #[.val (.int p0), .val (.int p1), .val (.int p2), .val (.int p3), .val (.int (1 : Int32)), .val (.int (1 : Int32)), .val (.int (1 : Int32)), .val (.ref b428), .val (.int (4 : Int32)), .val (.ref b431), .unset, .unset] [(.ref b431)])) _
            refine XS.iloadN X455.here hx rfl (hb hby at_137) rfl ?_
            show Steps p.tables e below (T455.setTop (mkF m 138 #[.val (.int p0), .val (.int p1), .val (.int p2), .val (.int p3), .val (.int (1 : Int32)), .val (.int (1 : Int32)), .val (.int (1 : Int32)), .val (.ref b428), .val (.int (4 : Int32)), .val (.ref b431), .unset, .unset] [(.int p1), (.ref b431)])) _
            refine XS.i2s X455.here hx rfl (hb hby at_138) rfl ?_
            show Steps p.tables e below (T455.setTop (mkF m 139 #[.val (.int p0), .val (.int p1), .val (.int p2), .val (.int p3), .val (.int (1 : Int32)), .val (.int (1 : Int32)), .val (.int (1 : Int32)), .val (.ref b428), .val (.int (4 : Int32)), .val (.ref b431), .unset, .unset] [(.int (p1.toInt16.toInt32)), (.ref b431)])) _
            refine st459.trans ?_
            show Steps p.tables e below (T459.setTop (mkF m 142 #[.val (.int p0), .val (.int p1), .val (.int p2), .val (.int p3), .val (.int (1 : Int32)), .val (.int (1 : Int32)), .val (.int (1 : Int32)), .val (.ref b428), .val (.int (4 : Int32)), .val (.ref b431), .unset, .unset] [])) _
            refine XS.aload X459.here hx rfl (hb hby at_142) rfl rfl ?_
            show Steps p.tables e below (T459.setTop (mkF m 144 #[.val (.int p0), .val (.int p1), .val (.int p2), .val (.int p3), .val (.int (1 : Int32)), .val (.int (1 : Int32)), .val (.int (1 : Int32)), .val (.ref b428), .val (.int (4 : Int32)), .val (.ref b431), .unset, .unset] [(.ref b428)])) _
            refine XS.iload X459.here hx rfl (hb hby at_144) rfl ?_
            show Steps p.tables e below (T459.setTop (mkF m 146 #[.val (.int p0), .val (.int p1), .val (.int p2), .val (.int p3), .val (.int (1 : Int32)), .val (.int (1 : Int32)), .val (.int (1 : Int32)), .val (.ref b428), .val (.int (4 : Int32)), .val (.ref b431), .unset, .unset] [(.int (4 : Int32)), (.ref b428)])) _
            refine XS.iloadN X459.here hx rfl (hb hby at_146) rfl ?_
            show Steps p.tables e below (T459.setTop (mkF m 147 #[.val (.int p0), .val (.int p1), .val (.int p2), .val (.int p3), .val (.int (1 : Int32)), .val (.int (1 : Int32)), .val (.int (1 : Int32)), .val (.ref b428), .val (.int (4 : Int32)), .val (.ref b431), .unset, .unset] [(.int p1), (.int (4 : Int32)), (.ref b428)])) _
            refine XS.sipush X459.here hx rfl (hb hby at_147) ?_
            show Steps p.tables e below (T459.setTop (mkF m 150 #[.val (.int p0), .val (.int p1), .val (.int p2), .val (.int p3), .val (.int (1 : Int32)), .val (.int (1 : Int32)), .val (.int (1 : Int32)), .val (.ref b428), .val (.int (4 : Int32)), .val (.ref b431), .unset, .unset] [(.int (255 : Int32)), (.int p1), (.int (4 : Int32)), (.ref b428)])) _
            refine XS.iand X459.here hx rfl (hb hby at_150) rfl ?_
            show Steps p.tables e below (T459.setTop (mkF m 151 #[.val (.int p0), .val (.int p1), .val (.int p2), .val (.int p3), .val (.int (1 : Int32)), .val (.int (1 : Int32)), .val (.int (1 : Int32)), .val (.ref b428), .val (.int (4 : Int32)), .val (.ref b431), .unset, .unset] [(.int (p1 &&& (255 : Int32))), (.int (4 : Int32)), (.ref b428)])) _
            refine XS.i2b X459.here hx rfl (hb hby at_151) rfl ?_
            show Steps p.tables e below (T459.setTop (mkF m 152 #[.val (.int p0), .val (.int p1), .val (.int p2), .val (.int p3), .val (.int (1 : Int32)), .val (.int (1 : Int32)), .val (.int (1 : Int32)), .val (.ref b428), .val (.int (4 : Int32)), .val (.ref b431), .unset, .unset] [(.int ((p1 &&& (255 : Int32)).toInt8.toInt32)), (.int (4 : Int32)), (.ref b428)])) _
            refine st468 _ ?_
            show Steps p.tables e below (T468.setTop (mkF m 153 #[.val (.int p0), .val (.int p1), .val (.int p2), .val (.int p3), .val (.int (1 : Int32)), .val (.int (1 : Int32)), .val (.int (1 : Int32)), .val (.ref b428), .val (.int (4 : Int32)), .val (.ref b431), .unset, .unset] [])) _
            refine XS.aload X468.here hx rfl (hb hby at_153) rfl rfl ?_
            show Steps p.tables e below (T468.setTop (mkF m 155 #[.val (.int p0), .val (.int p1), .val (.int p2), .val (.int p3), .val (.int (1 : Int32)), .val (.int (1 : Int32)), .val (.int (1 : Int32)), .val (.ref b428), .val (.int (4 : Int32)), .val (.ref b431), .unset, .unset] [(.ref b428)])) _
            refine XS.iload X468.here hx rfl (hb hby at_155) rfl ?_
            show Steps p.tables e below (T468.setTop (mkF m 157 #[.val (.int p0), .val (.int p1), .val (.int p2), .val (.int p3), .val (.int (1 : Int32)), .val (.int (1 : Int32)), .val (.int (1 : Int32)), .val (.ref b428), .val (.int (4 : Int32)), .val (.ref b431), .unset, .unset] [(.int (4 : Int32)), (.ref b428)])) _
            refine XS.iconst X468.here hx rfl (hb hby at_157) ?_
            show Steps p.tables e below (T468.setTop (mkF m 158 #[.val (.int p0), .val (.int p1), .val (.int p2), .val (.int p3), .val (.int (1 : Int32)), .val (.int (1 : Int32)), .val (.int (1 : Int32)), .val (.ref b428), .val (.int (4 : Int32)), .val (.ref b431), .unset, .unset] [(.int (1 : Int32)), (.int (4 : Int32)), (.ref b428)])) _
            refine XS.iadd X468.here hx rfl (hb hby at_158) rfl ?_
            show Steps p.tables e below (T468.setTop (mkF m 159 #[.val (.int p0), .val (.int p1), .val (.int p2), .val (.int p3), .val (.int (1 : Int32)), .val (.int (1 : Int32)), .val (.int (1 : Int32)), .val (.ref b428), .val (.int (4 : Int32)), .val (.ref b431), .unset, .unset] [(.int (5 : Int32)), (.ref b428)])) _
            refine XS.iloadN X468.here hx rfl (hb hby at_159) rfl ?_
            show Steps p.tables e below (T468.setTop (mkF m 160 #[.val (.int p0), .val (.int p1), .val (.int p2), .val (.int p3), .val (.int (1 : Int32)), .val (.int (1 : Int32)), .val (.int (1 : Int32)), .val (.ref b428), .val (.int (4 : Int32)), .val (.ref b431), .unset, .unset] [(.int p1), (.int (5 : Int32)), (.ref b428)])) _
            refine XS.bipush X468.here hx rfl (hb hby at_160) ?_
            show Steps p.tables e below (T468.setTop (mkF m 162 #[.val (.int p0), .val (.int p1), .val (.int p2), .val (.int p3), .val (.int (1 : Int32)), .val (.int (1 : Int32)), .val (.int (1 : Int32)), .val (.ref b428), .val (.int (4 : Int32)), .val (.ref b431), .unset, .unset] [(.int (8 : Int32)), (.int p1), (.int (5 : Int32)), (.ref b428)])) _
            refine XS.ishr X468.here hx rfl (hb hby at_162) rfl ?_
            show Steps p.tables e below (T468.setTop (mkF m 163 #[.val (.int p0), .val (.int p1), .val (.int p2), .val (.int p3), .val (.int (1 : Int32)), .val (.int (1 : Int32)), .val (.int (1 : Int32)), .val (.ref b428), .val (.int (4 : Int32)), .val (.ref b431), .unset, .unset] [(.int (p1 >>> ((8 : Int32) &&& 31))), (.int (5 : Int32)), (.ref b428)])) _
            refine XS.sipush X468.here hx rfl (hb hby at_163) ?_
            show Steps p.tables e below (T468.setTop (mkF m 166 #[.val (.int p0), .val (.int p1), .val (.int p2), .val (.int p3), .val (.int (1 : Int32)), .val (.int (1 : Int32)), .val (.int (1 : Int32)), .val (.ref b428), .val (.int (4 : Int32)), .val (.ref b431), .unset, .unset] [(.int (255 : Int32)), (.int (p1 >>> ((8 : Int32) &&& 31))), (.int (5 : Int32)), (.ref b428)])) _
            refine XS.iand X468.here hx rfl (hb hby at_166) rfl ?_
            show Steps p.tables e below (T468.setTop (mkF m 167 #[.val (.int p0), .val (.int p1), .val (.int p2), .val (.int p3), .val (.int (1 : Int32)), .val (.int (1 : Int32)), .val (.int (1 : Int32)), .val (.ref b428), .val (.int (4 : Int32)), .val (.ref b431), .unset, .unset] [(.int ((p1 >>> ((8 : Int32) &&& 31)) &&& (255 : Int32))), (.int (5 : Int32)), (.ref b428)])) _
            refine XS.i2b X468.here hx rfl (hb hby at_167) rfl ?_
            show Steps p.tables e below (T468.setTop (mkF m 168 #[.val (.int p0), .val (.int p1), .val (.int p2), .val (.int p3), .val (.int (1 : Int32)), .val (.int (1 : Int32)), .val (.int (1 : Int32)), .val (.ref b428), .val (.int (4 : Int32)), .val (.ref b431), .unset, .unset] [(.int (((p1 >>> ((8 : Int32) &&& 31)) &&& (255 : Int32)).toInt8.toInt32)), (.int (5 : Int32)), (.ref b428)])) _
            refine st472 _ ?_
            show Steps p.tables e below (T472.setTop (mkF m 169 #[.val (.int p0), .val (.int p1), .val (.int p2), .val (.int p3), .val (.int (1 : Int32)), .val (.int (1 : Int32)), .val (.int (1 : Int32)), .val (.ref b428), .val (.int (4 : Int32)), .val (.ref b431), .unset, .unset] [])) _
            refine XS.iinc X472.here hx rfl (hb hby at_169) rfl (l' := #[.val (.int p0), .val (.int p1), .val (.int p2), .val (.int p3), .val (.int (1 : Int32)), .val (.int (1 : Int32)), .val (.int (1 : Int32)), .val (.ref b428), .val (.int (6 : Int32)), .val (.ref b431), .unset, .unset]) rfl ?_
            show Steps p.tables e below (T472.setTop (mkF m 172 #[.val (.int p0), .val (.int p1), .val (.int p2), .val (.int p3), .val (.int (1 : Int32)), .val (.int (1 : Int32)), .val (.int (1 : Int32)), .val (.ref b428), .val (.int (6 : Int32)), .val (.ref b431), .unset, .unset] [])) _
            refine XS.iload X472.here hx rfl (hb hby at_172) rfl ?_
            exact kt)
        have c477 := ((G459_1.other W468 (Or.inl (Ne.symm ne_b428_b431))).other W472 (Or.inl (Ne.symm ne_b428_b431)))
        have c478 := ((G459_2.other W468 (Or.inl (Ne.symm ne_b428_b431))).other W472 (Or.inl (Ne.symm ne_b428_b431)))
        have c479 := ((G459_0.other W468 (Ne.symm ne_b428_r_o0_bytes_434)).other W472 (Ne.symm ne_b428_r_o0_bytes_434))
        obtain ⟨cq476, kq476, q476a, q476b, q476c⟩ := isOf hZ e472 (((c460.keep K459q).wr W468).wr W472)
        obtain ⟨_, _, ⟨T476, L476, k476, n476⟩, -, X476, ⟨Lc476, hQ476, l476, y476, z476⟩, st476⟩ := X472.virtualBack hx (y := (⟨"com/example/corvid/corvid/ByteWriter", "writeByte", "(I)V"⟩ : MethodName)) (z := (⟨"com/example/corvid/corvid/ByteWriter", "writeByte", "(I)V"⟩ : MethodName)) hown (mvT hZ (hw _ (List.mem_of_getElem? (i := 57) rfl))) (mvT hZ (hw _ (List.mem_of_getElem? (i := 58) rfl))) (notFace_of_selects (args := #[]) (mvT hZ (hw _ (List.mem_of_getElem? (i := 60) rfl)))) (mvT hZ (hw _ (List.mem_of_getElem? (i := 60) rfl))) (mvT hZ (hw _ (List.mem_of_getElem? (i := 59) rfl))) (by decide) (backOf (W := 0) (rm12 l Z a0 hw [] b431 (p2 &&& (255 : Int32)) (((0 : Int32) + (4 : Int32)) + (2 : Int32)) r_o0_bytes_434 (f11_r1_a (p1.toInt16.toInt32) ((0 : Int32) + (4 : Int32)) (f3_r1_a p0 (0 : Int32) (fun _ => 0))) h472 n0 Z474 (((c460.keep K459q).wr W468).wr W472) c477 c478 c479 ne_b431_r_o0_bytes_434 (by decide) g_b431 g_r_o0_bytes_434 (own_v255 _)) hZ (hw _ (List.mem_of_getElem? (i := 61) rfl)) (hw _ (List.mem_of_getElem? (i := 3) rfl)) (by decide) (by decide)) q476a q476c (g := (mkF m 188 #[.val (.int p0), .val (.int p1), .val (.int p2), .val (.int p3), .val (.int (1 : Int32)), .val (.int (1 : Int32)), .val (.int (1 : Int32)), .val (.ref b428), .val (.int (6 : Int32)), .val (.ref b431), .val (.int (p2 &&& (255 : Int32))), .unset] [(.int (p2 &&& (255 : Int32))), (.ref b431)])) rfl (by rw [hml]; rfl) (Steps.refl _) (argsL := [(.int (p2 &&& (255 : Int32)))]) (rest := []) (lenOf pd_0_3 rfl) rfl (by show 2 * 0 + _ ≤ _; exact Nat.le_of_eq rfl) (hb hby at_188) (fun _ _ => ⟨rfl, e472, (by decide : 3 + 0 ≤ _), (by decide : 74 + 0 ≤ _)⟩)
        dsimp only [Pt.U, Pt.locs, Pt.cells, Pt.slots] at X476 l476 y476 z476 st476 hQ476
        subst l476 y476 z476
        obtain ⟨rfl, N476q, K476q, G476_0, G476_1, G476_2⟩ := hQ476
        have N476 := Fr.app N472 N476q
        have K480 : Keep h0 T476.heap [] := K473.trans K476q (allS (Or.inr sz_b431) (allS (Or.inr sz_r_o0_bytes_434) all0))
        have Z481 : n0 ≤ T476.heap.size := Nat.le_trans Z0 K480.1
        obtain ⟨LS476, X476, N476⟩ : ∃ L, Stand p l e room_1 s m #[(.int p0), (.int p1), (.int p2), (.int p3)] below meth c T476 L 3 74 ∧ Fr n0 L := ⟨_, X476, N476⟩
        have c483 := (V472.keep K476q (ninS ne_b428_b431 (ninS ne_b428_r_o0_bytes_434 nin0)))
        obtain ⟨cl482, Ar482, Sz482, Nn482, Hs482⟩ := id c483
        have hin482 : ¬ ((6 : Int32) < 0 ∨ cl482.slots.size ≤ ((6 : Int32)).toNatClampNeg) := inb_of Sz482 ⟨by decide, by decide⟩
        obtain ⟨T484, h484, X484, e484, W484, st484⟩ := stB X476 hx hZ rfl Ar482 (j := (6 : Int32)) hin482 (g := (mkF m 198 #[.val (.int p0), .val (.int p1), .val (.int p2), .val (.int p3), .val (.int (1 : Int32)), .val (.int (1 : Int32)), .val (.int (1 : Int32)), .val (.ref b428), .val (.int (6 : Int32)), .val (.ref b431), .val (.int (p2 &&& (255 : Int32))), .unset] [(.int ((p2 &&& (255 : Int32)).toInt8.toInt32)), (.int (6 : Int32)), (.ref b428)])) rfl rfl (hb hby at_198)
        have V484 : own_AI Z h484 b428 .byte (7 : Int32) (own_upd (own_upd (own_upd (own_upd (own_upd (own_upd (own_upd (fun _ => 0) 0 (nar .byte ((p0 &&& (255 : Int32)).toInt8.toInt32))) 1 (nar .byte (((p0 >>> ((8 : Int32) &&& 31)) &&& (255 : Int32)).toInt8.toInt32))) 2 (nar .byte (((p0 >>> ((16 : Int32) &&& 31)) &&& (255 : Int32)).toInt8.toInt32))) 3 (nar .byte (((p0 >>> ((24 : Int32) &&& 31)) &&& (255 : Int32)).toInt8.toInt32))) 4 (nar .byte ((p1 &&& (255 : Int32)).toInt8.toInt32))) 5 (nar .byte (((p1 >>> ((8 : Int32) &&& 31)) &&& (255 : Int32)).toInt8.toInt32))) 6 (nar .byte ((p2 &&& (255 : Int32)).toInt8.toInt32))) := own_AI.set c483 (fits_nar_byte ((p2 &&& (255 : Int32)).toInt8.toInt32)) W484
        have K485 : Keep h0 h484 [] := K480.wr W484 (Or.inr sz_b428)
        have Z486 : n0 ≤ h484.size := Nat.le_trans Z0 K485.1
        have N484 := Fr.snoc X484 N476 g_b428
        obtain ⟨LS484, X484, N484⟩ : ∃ L, Stand p l e room_1 s m #[(.int p0), (.int p1), (.int p2), (.int p3)] below meth c T484 L 3 74 ∧ Fr n0 L := ⟨_, X484, N484⟩
        obtain ⟨cq487, kq487, q487a, q487b, q487c⟩ := isOf hZ e484 (((((c460.keep K459q).wr W468).wr W472).keep K476q).wr W484)
        obtain ⟨_, _, ⟨T487, L487, k487, n487⟩, -, X487, ⟨Lc487, hQ487, l487, y487, z487⟩, st487⟩ := X484.virtualBack hx (y := (⟨"com/example/corvid/corvid/ByteWriter", "toByteArray", "()[B"⟩ : MethodName)) (z := (⟨"com/example/corvid/corvid/ByteWriter", "toByteArray", "()[B"⟩ : MethodName)) hown (mvT hZ (hw _ (List.mem_of_getElem? (i := 29) rfl))) (mvT hZ (hw _ (List.mem_of_getElem? (i := 30) rfl))) (notFace_of_selects (args := #[]) (mvT hZ (hw _ (List.mem_of_getElem? (i := 32) rfl)))) (mvT hZ (hw _ (List.mem_of_getElem? (i := 32) rfl))) (mvT hZ (hw _ (List.mem_of_getElem? (i := 31) rfl))) (by decide) (backOf (W := 0) (rm6 l Z a0 hw [] b431 ((((0 : Int32) + (4 : Int32)) + (2 : Int32)) + (1 : Int32)) r_o0_bytes_434 (f12_r1_a (p2 &&& (255 : Int32)) (((0 : Int32) + (4 : Int32)) + (2 : Int32)) (f11_r1_a (p1.toInt16.toInt32) ((0 : Int32) + (4 : Int32)) (f3_r1_a p0 (0 : Int32) (fun _ => 0)))) h484 n0 Z486 (G476_0.other W484 (Or.inl (Ne.symm ne_b428_b431))) (G476_2.other W484 (Or.inl (Ne.symm ne_b428_b431))) (G476_1.other W484 (Ne.symm ne_b428_r_o0_bytes_434)) (by decide)) hZ (hw _ (List.mem_of_getElem? (i := 33) rfl)) (hw _ (List.mem_of_getElem? (i := 3) rfl)) (by decide) (by decide)) q487a q487c (g := (mkF m 204 #[.val (.int p0), .val (.int p1), .val (.int p2), .val (.int p3), .val (.int (1 : Int32)), .val (.int (1 : Int32)), .val (.int (1 : Int32)), .val (.ref b428), .val (.int (7 : Int32)), .val (.ref b431), .val (.int (p2 &&& (255 : Int32))), .unset] [(.ref b431)])) rfl (by rw [hml]; rfl) (Steps.refl _) (argsL := []) (rest := []) (lenOf pd_0_1 rfl) rfl (by show 2 * 0 + _ ≤ _; exact Nat.le_of_eq rfl) (hb hby at_204) (fun _ _ => ⟨rfl, e484, (by decide : 3 + 1 ≤ _), (by decide : 74 + 16 ≤ _)⟩)
        dsimp only [Pt.U, Pt.locs, Pt.cells, Pt.slots] at X487 l487 y487 z487 st487 hQ487
        subst l487 y487 z487
        obtain ⟨b_487, rfl, N487q, K487q, g_b_487, szq_b_487, G487_0⟩ := hQ487
        have N487 := Fr.app N484 N487q
        have ne_b428_b_487 : b428 ≠ b_487 := Nat.ne_of_lt (Nat.lt_of_lt_of_le V484.lt szq_b_487)
        have ne_b431_b_487 : b431 ≠ b_487 := Nat.ne_of_lt (Nat.lt_of_lt_of_le (((((c460.keep K459q).wr W468).wr W472).keep K476q).wr W484).lt szq_b_487)
        have ne_r_o0_bytes_434_b_487 : r_o0_bytes_434 ≠ b_487 := Nat.ne_of_lt (Nat.lt_of_lt_of_le (G476_1.other W484 (Ne.symm ne_b428_r_o0_bytes_434)).lt szq_b_487)
        have sz_b_487 : h0.size ≤ b_487 := Nat.le_trans K485.1 szq_b_487
        have K488 : Keep h0 T487.heap [] := K485.trans K487q all0
        have Z489 : n0 ≤ T487.heap.size := Nat.le_trans Z0 K488.1
        obtain ⟨LS487, X487, N487⟩ : ∃ L, Stand p l e room_1 s m #[(.int p0), (.int p1), (.int p2), (.int p3)] below meth c T487 L 4 90 ∧ Fr n0 L := ⟨_, X487, N487⟩
        obtain ⟨cl490, Ar490, Sz490, Nn490, -⟩ := id G487_0
        have pre491 : ∀ t, Steps p.tables e below (T487.setTop (mkF m 214 #[.val (.int p0), .val (.int p1), .val (.int p2), .val (.int p3), .val (.int (1 : Int32)), .val (.int (1 : Int32)), .val (.int (1 : Int32)), .val (.ref b428), .val (.int (7 : Int32)), .val (.ref b431), .val (.ref b_487), .unset] [(.int (7 : Int32)), (.int ((((0 : Int32) + (4 : Int32)) + (2 : Int32)) + (1 : Int32)))])) t → Steps p.tables e below (s₁.setTop (entryFrame m #[(.int p0), (.int p1), (.int p2), (.int p3)] maxLocals)) t := fun t kt => pre475 t (by
            show Steps p.tables e below (T472.setTop (mkF m 174 #[.val (.int p0), .val (.int p1), .val (.int p2), .val (.int p3), .val (.int (1 : Int32)), .val (.int (1 : Int32)), .val (.int (1 : Int32)), .val (.ref b428), .val (.int (6 : Int32)), .val (.ref b431), .unset, .unset] [(.int (1 : Int32))])) _
            refine XS.ifNo X472.here hx rfl (hb hby at_174) rfl ((if0 _ _).trans (feq (by decide : ¬ ((1 : Int32) = (0 : Int32)))).1) ?_
            show Steps p.tables e below (T472.setTop (mkF m 177 #[.val (.int p0), .val (.int p1), .val (.int p2), .val (.int p3), .val (.int (1 : Int32)), .val (.int (1 : Int32)), .val (.int (1 : Int32)), .val (.ref b428), .val (.int (6 : Int32)), .val (.ref b431), .unset, .unset] [])) _
            refine XS.iloadN X472.here hx rfl (hb hby at_177) rfl ?_
            show Steps p.tables e below (T472.setTop (mkF m 178 #[.val (.int p0), .val (.int p1), .val (.int p2), .val (.int p3), .val (.int (1 : Int32)), .val (.int (1 : Int32)), .val (.int (1 : Int32)), .val (.ref b428), .val (.int (6 : Int32)), .val (.ref b431), .unset, .unset] [(.int p2)])) _
            refine XS.sipush X472.here hx rfl (hb hby at_178) ?_
            show Steps p.tables e below (T472.setTop (mkF m 181 #[.val (.int p0), .val (.int p1), .val (.int p2), .val (.int p3), .val (.int (1 : Int32)), .val (.int (1 : Int32)), .val (.int (1 : Int32)), .val (.ref b428), .val (.int (6 : Int32)), .val (.ref b431), .unset, .unset] [(.int (255 : Int32)), (.int p2)])) _
            refine XS.iand X472.here hx rfl (hb hby at_181) rfl ?_
            show Steps p.tables e below (T472.setTop (mkF m 182 #[.val (.int p0), .val (.int p1), .val (.int p2), .val (.int p3), .val (.int (1 : Int32)), .val (.int (1 : Int32)), .val (.int (1 : Int32)), .val (.ref b428), .val (.int (6 : Int32)), .val (.ref b431), .unset, .unset] [(.int (p2 &&& (255 : Int32)))])) _
            refine XS.istore X472.here hx rfl (hb hby at_182) rfl (l' := #[.val (.int p0), .val (.int p1), .val (.int p2), .val (.int p3), .val (.int (1 : Int32)), .val (.int (1 : Int32)), .val (.int (1 : Int32)), .val (.ref b428), .val (.int (6 : Int32)), .val (.ref b431), .val (.int (p2 &&& (255 : Int32))), .unset]) rfl ?_
            show Steps p.tables e below (T472.setTop (mkF m 184 #[.val (.int p0), .val (.int p1), .val (.int p2), .val (.int p3), .val (.int (1 : Int32)), .val (.int (1 : Int32)), .val (.int (1 : Int32)), .val (.ref b428), .val (.int (6 : Int32)), .val (.ref b431), .val (.int (p2 &&& (255 : Int32))), .unset] [])) _
            refine XS.aload X472.here hx rfl (hb hby at_184) rfl rfl ?_
            show Steps p.tables e below (T472.setTop (mkF m 186 #[.val (.int p0), .val (.int p1), .val (.int p2), .val (.int p3), .val (.int (1 : Int32)), .val (.int (1 : Int32)), .val (.int (1 : Int32)), .val (.ref b428), .val (.int (6 : Int32)), .val (.ref b431), .val (.int (p2 &&& (255 : Int32))), .unset] [(.ref b431)])) _
            refine XS.iload X472.here hx rfl (hb hby at_186) rfl ?_
            show Steps p.tables e below (T472.setTop (mkF m 188 #[.val (.int p0), .val (.int p1), .val (.int p2), .val (.int p3), .val (.int (1 : Int32)), .val (.int (1 : Int32)), .val (.int (1 : Int32)), .val (.ref b428), .val (.int (6 : Int32)), .val (.ref b431), .val (.int (p2 &&& (255 : Int32))), .unset] [(.int (p2 &&& (255 : Int32))), (.ref b431)])) _
            refine st476.trans ?_
            show Steps p.tables e below (T476.setTop (mkF m 191 #[.val (.int p0), .val (.int p1), .val (.int p2), .val (.int p3), .val (.int (1 : Int32)), .val (.int (1 : Int32)), .val (.int (1 : Int32)), .val (.ref b428), .val (.int (6 : Int32)), .val (.ref b431), .val (.int (p2 &&& (255 : Int32))), .unset] [])) _
            refine XS.aload X476.here hx rfl (hb hby at_191) rfl rfl ?_
            show Steps p.tables e below (T476.setTop (mkF m 193 #[.val (.int p0), .val (.int p1), .val (.int p2), .val (.int p3), .val (.int (1 : Int32)), .val (.int (1 : Int32)), .val (.int (1 : Int32)), .val (.ref b428), .val (.int (6 : Int32)), .val (.ref b431), .val (.int (p2 &&& (255 : Int32))), .unset] [(.ref b428)])) _
            refine XS.iload X476.here hx rfl (hb hby at_193) rfl ?_
            show Steps p.tables e below (T476.setTop (mkF m 195 #[.val (.int p0), .val (.int p1), .val (.int p2), .val (.int p3), .val (.int (1 : Int32)), .val (.int (1 : Int32)), .val (.int (1 : Int32)), .val (.ref b428), .val (.int (6 : Int32)), .val (.ref b431), .val (.int (p2 &&& (255 : Int32))), .unset] [(.int (6 : Int32)), (.ref b428)])) _
            refine XS.iload X476.here hx rfl (hb hby at_195) rfl ?_
            show Steps p.tables e below (T476.setTop (mkF m 197 #[.val (.int p0), .val (.int p1), .val (.int p2), .val (.int p3), .val (.int (1 : Int32)), .val (.int (1 : Int32)), .val (.int (1 : Int32)), .val (.ref b428), .val (.int (6 : Int32)), .val (.ref b431), .val (.int (p2 &&& (255 : Int32))), .unset] [(.int (p2 &&& (255 : Int32))), (.int (6 : Int32)), (.ref b428)])) _
            refine XS.i2b X476.here hx rfl (hb hby at_197) rfl ?_
            show Steps p.tables e below (T476.setTop (mkF m 198 #[.val (.int p0), .val (.int p1), .val (.int p2), .val (.int p3), .val (.int (1 : Int32)), .val (.int (1 : Int32)), .val (.int (1 : Int32)), .val (.ref b428), .val (.int (6 : Int32)), .val (.ref b431), .val (.int (p2 &&& (255 : Int32))), .unset] [(.int ((p2 &&& (255 : Int32)).toInt8.toInt32)), (.int (6 : Int32)), (.ref b428)])) _
            refine st484 _ ?_
            show Steps p.tables e below (T484.setTop (mkF m 199 #[.val (.int p0), .val (.int p1), .val (.int p2), .val (.int p3), .val (.int (1 : Int32)), .val (.int (1 : Int32)), .val (.int (1 : Int32)), .val (.ref b428), .val (.int (6 : Int32)), .val (.ref b431), .val (.int (p2 &&& (255 : Int32))), .unset] [])) _
            refine XS.iinc X484.here hx rfl (hb hby at_199) rfl (l' := #[.val (.int p0), .val (.int p1), .val (.int p2), .val (.int p3), .val (.int (1 : Int32)), .val (.int (1 : Int32)), .val (.int (1 : Int32)), .val (.ref b428), .val (.int (7 : Int32)), .val (.ref b431), .val (.int (p2 &&& (255 : Int32))), .unset]) rfl ?_
            show Steps p.tables e below (T484.setTop (mkF m 202 #[.val (.int p0), .val (.int p1), .val (.int p2), .val (.int p3), .val (.int (1 : Int32)), .val (.int (1 : Int32)), .val (.int (1 : Int32)), .val (.ref b428), .val (.int (7 : Int32)), .val (.ref b431), .val (.int (p2 &&& (255 : Int32))), .unset] [])) _
            refine XS.aload X484.here hx rfl (hb hby at_202) rfl rfl ?_
            show Steps p.tables e below (T484.setTop (mkF m 204 #[.val (.int p0), .val (.int p1), .val (.int p2), .val (.int p3), .val (.int (1 : Int32)), .val (.int (1 : Int32)), .val (.int (1 : Int32)), .val (.ref b428), .val (.int (7 : Int32)), .val (.ref b431), .val (.int (p2 &&& (255 : Int32))), .unset] [(.ref b431)])) _
            refine st487.trans ?_
            show Steps p.tables e below (T487.setTop (mkF m 207 #[.val (.int p0), .val (.int p1), .val (.int p2), .val (.int p3), .val (.int (1 : Int32)), .val (.int (1 : Int32)), .val (.int (1 : Int32)), .val (.ref b428), .val (.int (7 : Int32)), .val (.ref b431), .val (.int (p2 &&& (255 : Int32))), .unset] [(.ref b_487)])) _
            refine XS.astore X487.here hx rfl (hb hby at_207) rfl rfl (l' := #[.val (.int p0), .val (.int p1), .val (.int p2), .val (.int p3), .val (.int (1 : Int32)), .val (.int (1 : Int32)), .val (.int (1 : Int32)), .val (.ref b428), .val (.int (7 : Int32)), .val (.ref b431), .val (.ref b_487), .unset]) rfl ?_
            show Steps p.tables e below (T487.setTop (mkF m 209 #[.val (.int p0), .val (.int p1), .val (.int p2), .val (.int p3), .val (.int (1 : Int32)), .val (.int (1 : Int32)), .val (.int (1 : Int32)), .val (.ref b428), .val (.int (7 : Int32)), .val (.ref b431), .val (.ref b_487), .unset] [])) _
            refine XS.aload X487.here hx rfl (hb hby at_209) rfl rfl ?_
            show Steps p.tables e below (T487.setTop (mkF m 211 #[.val (.int p0), .val (.int p1), .val (.int p2), .val (.int p3), .val (.int (1 : Int32)), .val (.int (1 : Int32)), .val (.int (1 : Int32)), .val (.ref b428), .val (.int (7 : Int32)), .val (.ref b431), .val (.ref b_487), .unset] [(.ref b_487)])) _
            refine X487.arraylength hx Ar490.1 (State.isArrayOf_alike hZ.alike Ar490.2.1) (g := (mkF m 211 #[.val (.int p0), .val (.int p1), .val (.int p2), .val (.int p3), .val (.int (1 : Int32)), .val (.int (1 : Int32)), .val (.int (1 : Int32)), .val (.ref b428), .val (.int (7 : Int32)), .val (.ref b431), .val (.ref b_487), .unset] [(.ref b_487)])) rfl rfl (hb hby at_211) _ ?_
            rw [len_of Sz490 Nn490]
            show Steps p.tables e below (T487.setTop (mkF m 212 #[.val (.int p0), .val (.int p1), .val (.int p2), .val (.int p3), .val (.int (1 : Int32)), .val (.int (1 : Int32)), .val (.int (1 : Int32)), .val (.ref b428), .val (.int (7 : Int32)), .val (.ref b431), .val (.ref b_487), .unset] [(.int ((((0 : Int32) + (4 : Int32)) + (2 : Int32)) + (1 : Int32)))])) _
            refine XS.iload X487.here hx rfl (hb hby at_212) rfl ?_
            exact kt)
        have hd214_492 : ((((0 : Int32) + (4 : Int32)) + (2 : Int32)) + (1 : Int32)) = (7 : Int32) := by decide
        obtain ⟨_, _, ⟨T493, L493, k493, n493⟩, -, X493, ⟨Lc493, hQ493, l493, y493, z493⟩, st493⟩ := Jvm.LawKit.callS X487 hx (y := (⟨"com/example/corvid/corvid/ByteWriterToByteArrayPinLaw", "same", "([B[BI)Z"⟩ : MethodName)) hown (mvT hZ (hw _ (List.mem_of_getElem? (i := 45) rfl))) (mvT hZ (hw _ (List.mem_of_getElem? (i := 46) rfl))) (mvT hZ (hw _ (List.mem_of_getElem? (i := 47) rfl))) (mvT hZ (hw _ (List.mem_of_getElem? (i := 48) rfl))) (by decide) (backOf (W := 0) (rm9 l Z a0 hw [] b_487 b428 (7 : Int32) ((((0 : Int32) + (4 : Int32)) + (2 : Int32)) + (1 : Int32)) (f12_r1_a (p2 &&& (255 : Int32)) (((0 : Int32) + (4 : Int32)) + (2 : Int32)) (f11_r1_a (p1.toInt16.toInt32) ((0 : Int32) + (4 : Int32)) (f3_r1_a p0 (0 : Int32) (fun _ => 0)))) (7 : Int32) (own_upd (own_upd (own_upd (own_upd (own_upd (own_upd (own_upd (fun _ => 0) 0 (nar .byte ((p0 &&& (255 : Int32)).toInt8.toInt32))) 1 (nar .byte (((p0 >>> ((8 : Int32) &&& 31)) &&& (255 : Int32)).toInt8.toInt32))) 2 (nar .byte (((p0 >>> ((16 : Int32) &&& 31)) &&& (255 : Int32)).toInt8.toInt32))) 3 (nar .byte (((p0 >>> ((24 : Int32) &&& 31)) &&& (255 : Int32)).toInt8.toInt32))) 4 (nar .byte ((p1 &&& (255 : Int32)).toInt8.toInt32))) 5 (nar .byte (((p1 >>> ((8 : Int32) &&& 31)) &&& (255 : Int32)).toInt8.toInt32))) 6 (nar .byte ((p2 &&& (255 : Int32)).toInt8.toInt32))) T487.heap n0 Z489 G487_0 (V484.keep K487q nin0) (by decide)) hZ (hw _ (List.mem_of_getElem? (i := 48) rfl)) (hw _ (List.mem_of_getElem? (i := 47) rfl)) (by decide) (by decide)) (g := (mkF m 225 #[.val (.int p0), .val (.int p1), .val (.int p2), .val (.int p3), .val (.int (1 : Int32)), .val (.int (1 : Int32)), .val (.int (1 : Int32)), .val (.ref b428), .val (.int (7 : Int32)), .val (.ref b431), .val (.ref b_487), .unset] [(.int (7 : Int32)), (.ref b428), (.ref b_487)])) rfl (by rw [hml]; rfl) (argsL := [(.ref b_487), (.ref b428), (.int (7 : Int32))]) (rest := []) (lenOf pd_0_2 rfl) rfl (by show 2 * 0 + _ ≤ _; exact Nat.le_of_eq rfl) (hb hby at_225) (fun _ _ => ⟨rfl, rfl, (by decide : 4 + 0 ≤ _), (by decide : 90 + 0 ≤ _)⟩)
        dsimp only [Pt.U, Pt.locs, Pt.cells, Pt.slots] at X493 l493 y493 z493 st493 hQ493
        subst l493 y493 z493
        obtain ⟨rfl, N493q, e493q⟩ := hQ493
        have N493 := Fr.app N487 N493q
        have pre494 : ∀ t, Steps p.tables e below (T493.setTop (mkF m 228 #[.val (.int p0), .val (.int p1), .val (.int p2), .val (.int p3), .val (.int (1 : Int32)), .val (.int (1 : Int32)), .val (.int (1 : Int32)), .val (.ref b428), .val (.int (7 : Int32)), .val (.ref b431), .val (.ref b_487), .unset] [(.int (f9 (7 : Int32) (f12_r1_a (p2 &&& (255 : Int32)) (((0 : Int32) + (4 : Int32)) + (2 : Int32)) (f11_r1_a (p1.toInt16.toInt32) ((0 : Int32) + (4 : Int32)) (f3_r1_a p0 (0 : Int32) (fun _ => 0)))) (own_upd (own_upd (own_upd (own_upd (own_upd (own_upd (own_upd (fun _ => 0) 0 (nar .byte ((p0 &&& (255 : Int32)).toInt8.toInt32))) 1 (nar .byte (((p0 >>> ((8 : Int32) &&& 31)) &&& (255 : Int32)).toInt8.toInt32))) 2 (nar .byte (((p0 >>> ((16 : Int32) &&& 31)) &&& (255 : Int32)).toInt8.toInt32))) 3 (nar .byte (((p0 >>> ((24 : Int32) &&& 31)) &&& (255 : Int32)).toInt8.toInt32))) 4 (nar .byte ((p1 &&& (255 : Int32)).toInt8.toInt32))) 5 (nar .byte (((p1 >>> ((8 : Int32) &&& 31)) &&& (255 : Int32)).toInt8.toInt32))) 6 (nar .byte ((p2 &&& (255 : Int32)).toInt8.toInt32)))))])) t → Steps p.tables e below (s₁.setTop (entryFrame m #[(.int p0), (.int p1), (.int p2), (.int p3)] maxLocals)) t := fun t kt => pre491 t (by
            show Steps p.tables e below (T487.setTop (mkF m 214 #[.val (.int p0), .val (.int p1), .val (.int p2), .val (.int p3), .val (.int (1 : Int32)), .val (.int (1 : Int32)), .val (.int (1 : Int32)), .val (.ref b428), .val (.int (7 : Int32)), .val (.ref b431), .val (.ref b_487), .unset] [(.int (7 : Int32)), (.int ((((0 : Int32) + (4 : Int32)) + (2 : Int32)) + (1 : Int32)))])) _
            refine XS.icmpYes X487.here hx rfl (pc0 := 214) (pc' := 219) rfl (hb hby at_214) rfl (teq hd214_492).1 (by decide) (by decide) ?_
            show Steps p.tables e below (T487.setTop (mkF m 219 #[.val (.int p0), .val (.int p1), .val (.int p2), .val (.int p3), .val (.int (1 : Int32)), .val (.int (1 : Int32)), .val (.int (1 : Int32)), .val (.ref b428), .val (.int (7 : Int32)), .val (.ref b431), .val (.ref b_487), .unset] [])) _
            refine XS.aload X487.here hx rfl (hb hby at_219) rfl rfl ?_
            show Steps p.tables e below (T487.setTop (mkF m 221 #[.val (.int p0), .val (.int p1), .val (.int p2), .val (.int p3), .val (.int (1 : Int32)), .val (.int (1 : Int32)), .val (.int (1 : Int32)), .val (.ref b428), .val (.int (7 : Int32)), .val (.ref b431), .val (.ref b_487), .unset] [(.ref b_487)])) _
            refine XS.aload X487.here hx rfl (hb hby at_221) rfl rfl ?_
            show Steps p.tables e below (T487.setTop (mkF m 223 #[.val (.int p0), .val (.int p1), .val (.int p2), .val (.int p3), .val (.int (1 : Int32)), .val (.int (1 : Int32)), .val (.int (1 : Int32)), .val (.ref b428), .val (.int (7 : Int32)), .val (.ref b431), .val (.ref b_487), .unset] [(.ref b428), (.ref b_487)])) _
            refine XS.iload X487.here hx rfl (hb hby at_223) rfl ?_
            show Steps p.tables e below (T487.setTop (mkF m 225 #[.val (.int p0), .val (.int p1), .val (.int p2), .val (.int p3), .val (.int (1 : Int32)), .val (.int (1 : Int32)), .val (.int (1 : Int32)), .val (.ref b428), .val (.int (7 : Int32)), .val (.ref b431), .val (.ref b_487), .unset] [(.int (7 : Int32)), (.ref b428), (.ref b_487)])) _
            refine st493 _ ?_
            exact kt)
        have hd228_495 : ¬ ((f9 (7 : Int32) (f12_r1_a (p2 &&& (255 : Int32)) (((0 : Int32) + (4 : Int32)) + (2 : Int32)) (f11_r1_a (p1.toInt16.toInt32) ((0 : Int32) + (4 : Int32)) (f3_r1_a p0 (0 : Int32) (fun _ => 0)))) (own_upd (own_upd (own_upd (own_upd (own_upd (own_upd (own_upd (fun _ => 0) 0 (nar .byte ((p0 &&& (255 : Int32)).toInt8.toInt32))) 1 (nar .byte (((p0 >>> ((8 : Int32) &&& 31)) &&& (255 : Int32)).toInt8.toInt32))) 2 (nar .byte (((p0 >>> ((16 : Int32) &&& 31)) &&& (255 : Int32)).toInt8.toInt32))) 3 (nar .byte (((p0 >>> ((24 : Int32) &&& 31)) &&& (255 : Int32)).toInt8.toInt32))) 4 (nar .byte ((p1 &&& (255 : Int32)).toInt8.toInt32))) 5 (nar .byte (((p1 >>> ((8 : Int32) &&& 31)) &&& (255 : Int32)).toInt8.toInt32))) 6 (nar .byte ((p2 &&& (255 : Int32)).toInt8.toInt32)))) = (0 : Int32)) := own_sm _ _ _ (own_pf111 p0 p1 p2)
        have pre496 : ∀ t, Steps p.tables e below (T493.setTop (mkF m 235 #[.val (.int p0), .val (.int p1), .val (.int p2), .val (.int p3), .val (.int (1 : Int32)), .val (.int (1 : Int32)), .val (.int (1 : Int32)), .val (.ref b428), .val (.int (7 : Int32)), .val (.ref b431), .val (.ref b_487), .unset] [(.int (7 : Int32))])) t → Steps p.tables e below (s₁.setTop (entryFrame m #[(.int p0), (.int p1), (.int p2), (.int p3)] maxLocals)) t := fun t kt => pre494 t (by
            show Steps p.tables e below (T493.setTop (mkF m 228 #[.val (.int p0), .val (.int p1), .val (.int p2), .val (.int p3), .val (.int (1 : Int32)), .val (.int (1 : Int32)), .val (.int (1 : Int32)), .val (.ref b428), .val (.int (7 : Int32)), .val (.ref b431), .val (.ref b_487), .unset] [(.int (f9 (7 : Int32) (f12_r1_a (p2 &&& (255 : Int32)) (((0 : Int32) + (4 : Int32)) + (2 : Int32)) (f11_r1_a (p1.toInt16.toInt32) ((0 : Int32) + (4 : Int32)) (f3_r1_a p0 (0 : Int32) (fun _ => 0)))) (own_upd (own_upd (own_upd (own_upd (own_upd (own_upd (own_upd (fun _ => 0) 0 (nar .byte ((p0 &&& (255 : Int32)).toInt8.toInt32))) 1 (nar .byte (((p0 >>> ((8 : Int32) &&& 31)) &&& (255 : Int32)).toInt8.toInt32))) 2 (nar .byte (((p0 >>> ((16 : Int32) &&& 31)) &&& (255 : Int32)).toInt8.toInt32))) 3 (nar .byte (((p0 >>> ((24 : Int32) &&& 31)) &&& (255 : Int32)).toInt8.toInt32))) 4 (nar .byte ((p1 &&& (255 : Int32)).toInt8.toInt32))) 5 (nar .byte (((p1 >>> ((8 : Int32) &&& 31)) &&& (255 : Int32)).toInt8.toInt32))) 6 (nar .byte ((p2 &&& (255 : Int32)).toInt8.toInt32)))))])) _
            refine XS.ifYes X493.here hx rfl (pc0 := 228) (pc' := 233) rfl (hb hby at_228) rfl ((if0 _ _).trans (feq hd228_495).2) (by decide) (by decide) ?_
            show Steps p.tables e below (T493.setTop (mkF m 233 #[.val (.int p0), .val (.int p1), .val (.int p2), .val (.int p3), .val (.int (1 : Int32)), .val (.int (1 : Int32)), .val (.int (1 : Int32)), .val (.ref b428), .val (.int (7 : Int32)), .val (.ref b431), .val (.ref b_487), .unset] [])) _
            refine XS.iload X493.here hx rfl (hb hby at_233) rfl ?_
            exact kt)
        obtain ⟨cl497, Ar497, Sz497, Nn497, Hs497⟩ := id G487_0
        have hin497 : ¬ ((0 : Int32) < 0 ∨ cl497.slots.size ≤ ((0 : Int32)).toNatClampNeg) := inb_of Sz497 ⟨by decide, by decide⟩
        have hat497 : cl497.slots[((0 : Int32)).toNatClampNeg]? = some (.int ((f12_r1_a (p2 &&& (255 : Int32)) (((0 : Int32) + (4 : Int32)) + (2 : Int32)) (f11_r1_a (p1.toInt16.toInt32) ((0 : Int32) + (4 : Int32)) (f3_r1_a p0 (0 : Int32) (fun _ => 0)))) 0)) := (Hs497 _ (own_lt hin497)).1
        obtain ⟨cl498, Ar498, Sz498, Nn498, Hs498⟩ := id G487_0
        have hin498 : ¬ ((0 : Int32) < 0 ∨ cl498.slots.size ≤ ((0 : Int32)).toNatClampNeg) := inb_of Sz498 ⟨by decide, by decide⟩
        obtain ⟨T499, h499, X499, e499, W499, st499⟩ := stB X493 hx hZ e493q Ar498 (j := (0 : Int32)) hin498 (g := (mkF m 249 #[.val (.int p0), .val (.int p1), .val (.int p2), .val (.int p3), .val (.int (1 : Int32)), .val (.int (1 : Int32)), .val (.int (1 : Int32)), .val (.ref b428), .val (.int (7 : Int32)), .val (.ref b431), .val (.ref b_487), .unset] [(.int ((((f12_r1_a (p2 &&& (255 : Int32)) (((0 : Int32) + (4 : Int32)) + (2 : Int32)) (f11_r1_a (p1.toInt16.toInt32) ((0 : Int32) + (4 : Int32)) (f3_r1_a p0 (0 : Int32) (fun _ => 0)))) 0) ^^^ (90 : Int32)).toInt8.toInt32)), (.int (0 : Int32)), (.ref b_487)])) rfl rfl (hb hby at_249)
        have V499 : own_AI Z h499 b_487 .byte ((((0 : Int32) + (4 : Int32)) + (2 : Int32)) + (1 : Int32)) (own_upd (f12_r1_a (p2 &&& (255 : Int32)) (((0 : Int32) + (4 : Int32)) + (2 : Int32)) (f11_r1_a (p1.toInt16.toInt32) ((0 : Int32) + (4 : Int32)) (f3_r1_a p0 (0 : Int32) (fun _ => 0)))) 0 (nar .byte ((((f12_r1_a (p2 &&& (255 : Int32)) (((0 : Int32) + (4 : Int32)) + (2 : Int32)) (f11_r1_a (p1.toInt16.toInt32) ((0 : Int32) + (4 : Int32)) (f3_r1_a p0 (0 : Int32) (fun _ => 0)))) 0) ^^^ (90 : Int32)).toInt8.toInt32))) := own_AI.set G487_0 (fits_nar_byte ((((f12_r1_a (p2 &&& (255 : Int32)) (((0 : Int32) + (4 : Int32)) + (2 : Int32)) (f11_r1_a (p1.toInt16.toInt32) ((0 : Int32) + (4 : Int32)) (f3_r1_a p0 (0 : Int32) (fun _ => 0)))) 0) ^^^ (90 : Int32)).toInt8.toInt32)) W499
        have K500 : Keep h0 h499 [] := K488.wr W499 (Or.inr sz_b_487)
        have Z501 : n0 ≤ h499.size := Nat.le_trans Z0 K500.1
        have N499 := Fr.snoc X499 N493 g_b_487
        obtain ⟨LS499, X499, N499⟩ : ∃ L, Stand p l e room_1 s m #[(.int p0), (.int p1), (.int p2), (.int p3)] below meth c T499 L 4 90 ∧ Fr n0 L := ⟨_, X499, N499⟩
        have c503 := (((G476_0.other W484 (Or.inl (Ne.symm ne_b428_b431))).keep K487q nin0).other W499 (Or.inl ne_b431_b_487))
        have c504 := (((G476_2.other W484 (Or.inl (Ne.symm ne_b428_b431))).keep K487q nin0).other W499 (Or.inl ne_b431_b_487))
        have c505 := (((G476_1.other W484 (Ne.symm ne_b428_r_o0_bytes_434)).keep K487q nin0).other W499 ne_r_o0_bytes_434_b_487)
        have c506 := (((((((c460.keep K459q).wr W468).wr W472).keep K476q).wr W484).keep K487q).wr W499)
        obtain ⟨cq502, kq502, q502a, q502b, q502c⟩ := isOf hZ e499 c506
        obtain ⟨_, _, ⟨T502, L502, k502, n502⟩, -, X502, ⟨Lc502, hQ502, l502, y502, z502⟩, st502⟩ := X499.virtualBack hx (y := (⟨"com/example/corvid/corvid/ByteWriter", "toByteArray", "()[B"⟩ : MethodName)) (z := (⟨"com/example/corvid/corvid/ByteWriter", "toByteArray", "()[B"⟩ : MethodName)) hown (mvT hZ (hw _ (List.mem_of_getElem? (i := 29) rfl))) (mvT hZ (hw _ (List.mem_of_getElem? (i := 30) rfl))) (notFace_of_selects (args := #[]) (mvT hZ (hw _ (List.mem_of_getElem? (i := 32) rfl)))) (mvT hZ (hw _ (List.mem_of_getElem? (i := 32) rfl))) (mvT hZ (hw _ (List.mem_of_getElem? (i := 31) rfl))) (by decide) (backOf (W := 0) (rm6 l Z a0 hw [] b431 ((((0 : Int32) + (4 : Int32)) + (2 : Int32)) + (1 : Int32)) r_o0_bytes_434 (f12_r1_a (p2 &&& (255 : Int32)) (((0 : Int32) + (4 : Int32)) + (2 : Int32)) (f11_r1_a (p1.toInt16.toInt32) ((0 : Int32) + (4 : Int32)) (f3_r1_a p0 (0 : Int32) (fun _ => 0)))) h499 n0 Z501 c503 c504 c505 (by decide)) hZ (hw _ (List.mem_of_getElem? (i := 33) rfl)) (hw _ (List.mem_of_getElem? (i := 3) rfl)) (by decide) (by decide)) q502a q502c (g := (mkF m 252 #[.val (.int p0), .val (.int p1), .val (.int p2), .val (.int p3), .val (.int (1 : Int32)), .val (.int (1 : Int32)), .val (.int (1 : Int32)), .val (.ref b428), .val (.int (7 : Int32)), .val (.ref b431), .val (.ref b_487), .unset] [(.ref b431)])) rfl (by rw [hml]; rfl) (Steps.refl _) (argsL := []) (rest := []) (lenOf pd_0_1 rfl) rfl (by show 2 * 0 + _ ≤ _; exact Nat.le_of_eq rfl) (hb hby at_252) (fun _ _ => ⟨rfl, e499, (by decide : 4 + 1 ≤ _), (by decide : 90 + 16 ≤ _)⟩)
        dsimp only [Pt.U, Pt.locs, Pt.cells, Pt.slots] at X502 l502 y502 z502 st502 hQ502
        subst l502 y502 z502
        obtain ⟨b_502, rfl, N502q, K502q, g_b_502, szq_b_502, G502_0⟩ := hQ502
        have N502 := Fr.app N499 N502q
        have ne_b428_b_502 : b428 ≠ b_502 := Nat.ne_of_lt (Nat.lt_of_lt_of_le ((V484.keep K487q nin0).other W499 ne_b428_b_487).lt szq_b_502)
        have ne_b431_b_502 : b431 ≠ b_502 := Nat.ne_of_lt (Nat.lt_of_lt_of_le c506.lt szq_b_502)
        have ne_r_o0_bytes_434_b_502 : r_o0_bytes_434 ≠ b_502 := Nat.ne_of_lt (Nat.lt_of_lt_of_le c505.lt szq_b_502)
        have ne_b_487_b_502 : b_487 ≠ b_502 := Nat.ne_of_lt (Nat.lt_of_lt_of_le V499.lt szq_b_502)
        have sz_b_502 : h0.size ≤ b_502 := Nat.le_trans K500.1 szq_b_502
        have K507 : Keep h0 T502.heap [] := K500.trans K502q all0
        have Z508 : n0 ≤ T502.heap.size := Nat.le_trans Z0 K507.1
        obtain ⟨LS502, X502, N502⟩ : ∃ L, Stand p l e room_1 s m #[(.int p0), (.int p1), (.int p2), (.int p3)] below meth c T502 L 5 106 ∧ Fr n0 L := ⟨_, X502, N502⟩
        have pre509 : ∀ t, Steps p.tables e below (T502.setTop (mkF m 261 #[.val (.int p0), .val (.int p1), .val (.int p2), .val (.int p3), .val (.int (1 : Int32)), .val (.int (1 : Int32)), .val (.int (1 : Int32)), .val (.ref b428), .val (.int (7 : Int32)), .val (.ref b431), .val (.ref b_487), .val (.ref b_502)] [(.ref b_487), (.ref b_502)])) t → Steps p.tables e below (s₁.setTop (entryFrame m #[(.int p0), (.int p1), (.int p2), (.int p3)] maxLocals)) t := fun t kt => pre496 t (by
            show Steps p.tables e below (T493.setTop (mkF m 235 #[.val (.int p0), .val (.int p1), .val (.int p2), .val (.int p3), .val (.int (1 : Int32)), .val (.int (1 : Int32)), .val (.int (1 : Int32)), .val (.ref b428), .val (.int (7 : Int32)), .val (.ref b431), .val (.ref b_487), .unset] [(.int (7 : Int32))])) _
            refine XS.ifNo X493.here hx rfl (hb hby at_235) rfl ((if0 _ _).trans (tlt (by decide : ((0 : Int32) < (7 : Int32)))).2.2.2) ?_
            show Steps p.tables e below (T493.setTop (mkF m 238 #[.val (.int p0), .val (.int p1), .val (.int p2), .val (.int p3), .val (.int (1 : Int32)), .val (.int (1 : Int32)), .val (.int (1 : Int32)), .val (.ref b428), .val (.int (7 : Int32)), .val (.ref b431), .val (.ref b_487), .unset] [])) _
            refine XS.aload X493.here hx rfl (hb hby at_238) rfl rfl ?_
            show Steps p.tables e below (T493.setTop (mkF m 240 #[.val (.int p0), .val (.int p1), .val (.int p2), .val (.int p3), .val (.int (1 : Int32)), .val (.int (1 : Int32)), .val (.int (1 : Int32)), .val (.ref b428), .val (.int (7 : Int32)), .val (.ref b431), .val (.ref b_487), .unset] [(.ref b_487)])) _
            refine XS.iconst X493.here hx rfl (hb hby at_240) ?_
            show Steps p.tables e below (T493.setTop (mkF m 241 #[.val (.int p0), .val (.int p1), .val (.int p2), .val (.int p3), .val (.int (1 : Int32)), .val (.int (1 : Int32)), .val (.int (1 : Int32)), .val (.ref b428), .val (.int (7 : Int32)), .val (.ref b431), .val (.ref b_487), .unset] [(.int (0 : Int32)), (.ref b_487)])) _
            refine XS.aload X493.here hx rfl (hb hby at_241) rfl rfl ?_
            show Steps p.tables e below (T493.setTop (mkF m 243 #[.val (.int p0), .val (.int p1), .val (.int p2), .val (.int p3), .val (.int (1 : Int32)), .val (.int (1 : Int32)), .val (.int (1 : Int32)), .val (.ref b428), .val (.int (7 : Int32)), .val (.ref b431), .val (.ref b_487), .unset] [(.ref b_487), (.int (0 : Int32)), (.ref b_487)])) _
            refine XS.iconst X493.here hx rfl (hb hby at_243) ?_
            show Steps p.tables e below (T493.setTop (mkF m 244 #[.val (.int p0), .val (.int p1), .val (.int p2), .val (.int p3), .val (.int (1 : Int32)), .val (.int (1 : Int32)), .val (.int (1 : Int32)), .val (.ref b428), .val (.int (7 : Int32)), .val (.ref b431), .val (.ref b_487), .unset] [(.int (0 : Int32)), (.ref b_487), (.int (0 : Int32)), (.ref b_487)])) _
            refine X493.baloadBytes hx (j := (0 : Int32)) (v := (.int ((f12_r1_a (p2 &&& (255 : Int32)) (((0 : Int32) + (4 : Int32)) + (2 : Int32)) (f11_r1_a (p1.toInt16.toInt32) ((0 : Int32) + (4 : Int32)) (f3_r1_a p0 (0 : Int32) (fun _ => 0)))) 0))) (by rw [e493q]; exact Ar497.1) (State.isArrayOf_alike hZ.alike Ar497.2.1) Ar497.2.2 hin497 hat497 (g := (mkF m 244 #[.val (.int p0), .val (.int p1), .val (.int p2), .val (.int p3), .val (.int (1 : Int32)), .val (.int (1 : Int32)), .val (.int (1 : Int32)), .val (.ref b428), .val (.int (7 : Int32)), .val (.ref b431), .val (.ref b_487), .unset] [(.int (0 : Int32)), (.ref b_487), (.int (0 : Int32)), (.ref b_487)])) rfl rfl (hb hby at_244) _ ?_
            show Steps p.tables e below (T493.setTop (mkF m 245 #[.val (.int p0), .val (.int p1), .val (.int p2), .val (.int p3), .val (.int (1 : Int32)), .val (.int (1 : Int32)), .val (.int (1 : Int32)), .val (.ref b428), .val (.int (7 : Int32)), .val (.ref b431), .val (.ref b_487), .unset] [(.int ((f12_r1_a (p2 &&& (255 : Int32)) (((0 : Int32) + (4 : Int32)) + (2 : Int32)) (f11_r1_a (p1.toInt16.toInt32) ((0 : Int32) + (4 : Int32)) (f3_r1_a p0 (0 : Int32) (fun _ => 0)))) 0)), (.int (0 : Int32)), (.ref b_487)])) _
            refine XS.bipush X493.here hx rfl (hb hby at_245) ?_
            show Steps p.tables e below (T493.setTop (mkF m 247 #[.val (.int p0), .val (.int p1), .val (.int p2), .val (.int p3), .val (.int (1 : Int32)), .val (.int (1 : Int32)), .val (.int (1 : Int32)), .val (.ref b428), .val (.int (7 : Int32)), .val (.ref b431), .val (.ref b_487), .unset] [(.int (90 : Int32)), (.int ((f12_r1_a (p2 &&& (255 : Int32)) (((0 : Int32) + (4 : Int32)) + (2 : Int32)) (f11_r1_a (p1.toInt16.toInt32) ((0 : Int32) + (4 : Int32)) (f3_r1_a p0 (0 : Int32) (fun _ => 0)))) 0)), (.int (0 : Int32)), (.ref b_487)])) _
            refine XS.ixor X493.here hx rfl (hb hby at_247) rfl ?_
            show Steps p.tables e below (T493.setTop (mkF m 248 #[.val (.int p0), .val (.int p1), .val (.int p2), .val (.int p3), .val (.int (1 : Int32)), .val (.int (1 : Int32)), .val (.int (1 : Int32)), .val (.ref b428), .val (.int (7 : Int32)), .val (.ref b431), .val (.ref b_487), .unset] [(.int (((f12_r1_a (p2 &&& (255 : Int32)) (((0 : Int32) + (4 : Int32)) + (2 : Int32)) (f11_r1_a (p1.toInt16.toInt32) ((0 : Int32) + (4 : Int32)) (f3_r1_a p0 (0 : Int32) (fun _ => 0)))) 0) ^^^ (90 : Int32))), (.int (0 : Int32)), (.ref b_487)])) _
            refine XS.i2b X493.here hx rfl (hb hby at_248) rfl ?_
            show Steps p.tables e below (T493.setTop (mkF m 249 #[.val (.int p0), .val (.int p1), .val (.int p2), .val (.int p3), .val (.int (1 : Int32)), .val (.int (1 : Int32)), .val (.int (1 : Int32)), .val (.ref b428), .val (.int (7 : Int32)), .val (.ref b431), .val (.ref b_487), .unset] [(.int ((((f12_r1_a (p2 &&& (255 : Int32)) (((0 : Int32) + (4 : Int32)) + (2 : Int32)) (f11_r1_a (p1.toInt16.toInt32) ((0 : Int32) + (4 : Int32)) (f3_r1_a p0 (0 : Int32) (fun _ => 0)))) 0) ^^^ (90 : Int32)).toInt8.toInt32)), (.int (0 : Int32)), (.ref b_487)])) _
            refine st499 _ ?_
            show Steps p.tables e below (T499.setTop (mkF m 250 #[.val (.int p0), .val (.int p1), .val (.int p2), .val (.int p3), .val (.int (1 : Int32)), .val (.int (1 : Int32)), .val (.int (1 : Int32)), .val (.ref b428), .val (.int (7 : Int32)), .val (.ref b431), .val (.ref b_487), .unset] [])) _
            refine XS.aload X499.here hx rfl (hb hby at_250) rfl rfl ?_
            show Steps p.tables e below (T499.setTop (mkF m 252 #[.val (.int p0), .val (.int p1), .val (.int p2), .val (.int p3), .val (.int (1 : Int32)), .val (.int (1 : Int32)), .val (.int (1 : Int32)), .val (.ref b428), .val (.int (7 : Int32)), .val (.ref b431), .val (.ref b_487), .unset] [(.ref b431)])) _
            refine st502.trans ?_
            show Steps p.tables e below (T502.setTop (mkF m 255 #[.val (.int p0), .val (.int p1), .val (.int p2), .val (.int p3), .val (.int (1 : Int32)), .val (.int (1 : Int32)), .val (.int (1 : Int32)), .val (.ref b428), .val (.int (7 : Int32)), .val (.ref b431), .val (.ref b_487), .unset] [(.ref b_502)])) _
            refine XS.astore X502.here hx rfl (hb hby at_255) rfl rfl (l' := #[.val (.int p0), .val (.int p1), .val (.int p2), .val (.int p3), .val (.int (1 : Int32)), .val (.int (1 : Int32)), .val (.int (1 : Int32)), .val (.ref b428), .val (.int (7 : Int32)), .val (.ref b431), .val (.ref b_487), .val (.ref b_502)]) rfl ?_
            show Steps p.tables e below (T502.setTop (mkF m 257 #[.val (.int p0), .val (.int p1), .val (.int p2), .val (.int p3), .val (.int (1 : Int32)), .val (.int (1 : Int32)), .val (.int (1 : Int32)), .val (.ref b428), .val (.int (7 : Int32)), .val (.ref b431), .val (.ref b_487), .val (.ref b_502)] [])) _
            refine XS.aload X502.here hx rfl (hb hby at_257) rfl rfl ?_
            show Steps p.tables e below (T502.setTop (mkF m 259 #[.val (.int p0), .val (.int p1), .val (.int p2), .val (.int p3), .val (.int (1 : Int32)), .val (.int (1 : Int32)), .val (.int (1 : Int32)), .val (.ref b428), .val (.int (7 : Int32)), .val (.ref b431), .val (.ref b_487), .val (.ref b_502)] [(.ref b_502)])) _
            refine XS.aload X502.here hx rfl (hb hby at_259) rfl rfl ?_
            exact kt)
        obtain ⟨cl510, Ar510, Sz510, Nn510, -⟩ := id G502_0
        have pre511 : ∀ t, Steps p.tables e below (T502.setTop (mkF m 269 #[.val (.int p0), .val (.int p1), .val (.int p2), .val (.int p3), .val (.int (1 : Int32)), .val (.int (1 : Int32)), .val (.int (1 : Int32)), .val (.ref b428), .val (.int (7 : Int32)), .val (.ref b431), .val (.ref b_487), .val (.ref b_502)] [(.int (7 : Int32)), (.int ((((0 : Int32) + (4 : Int32)) + (2 : Int32)) + (1 : Int32)))])) t → Steps p.tables e below (s₁.setTop (entryFrame m #[(.int p0), (.int p1), (.int p2), (.int p3)] maxLocals)) t := fun t kt => pre509 t (by
            show Steps p.tables e below (T502.setTop (mkF m 261 #[.val (.int p0), .val (.int p1), .val (.int p2), .val (.int p3), .val (.int (1 : Int32)), .val (.int (1 : Int32)), .val (.int (1 : Int32)), .val (.ref b428), .val (.int (7 : Int32)), .val (.ref b431), .val (.ref b_487), .val (.ref b_502)] [(.ref b_487), (.ref b_502)])) _
            refine Jvm.RoadKit.acmp (g := (mkF m 261 #[.val (.int p0), .val (.int p1), .val (.int p2), .val (.int p3), .val (.int (1 : Int32)), .val (.int (1 : Int32)), .val (.int (1 : Int32)), .val (.ref b428), .val (.int (7 : Int32)), .val (.ref b431), .val (.ref b_487), .val (.ref b_502)] [(.ref b_487), (.ref b_502)])) X502 hx rfl rfl rfl (pc0 := 261) (pc' := 264) (same := false) rfl (hb hby at_261) rfl (decide_eq_false fun q => (Ne.symm ne_b_487_b_502) (Value.ref.inj q)) (by decide) (by decide) ?_
            show Steps p.tables e below (T502.setTop (mkF m 264 #[.val (.int p0), .val (.int p1), .val (.int p2), .val (.int p3), .val (.int (1 : Int32)), .val (.int (1 : Int32)), .val (.int (1 : Int32)), .val (.ref b428), .val (.int (7 : Int32)), .val (.ref b431), .val (.ref b_487), .val (.ref b_502)] [])) _
            refine XS.aload X502.here hx rfl (hb hby at_264) rfl rfl ?_
            show Steps p.tables e below (T502.setTop (mkF m 266 #[.val (.int p0), .val (.int p1), .val (.int p2), .val (.int p3), .val (.int (1 : Int32)), .val (.int (1 : Int32)), .val (.int (1 : Int32)), .val (.ref b428), .val (.int (7 : Int32)), .val (.ref b431), .val (.ref b_487), .val (.ref b_502)] [(.ref b_502)])) _
            refine X502.arraylength hx Ar510.1 (State.isArrayOf_alike hZ.alike Ar510.2.1) (g := (mkF m 266 #[.val (.int p0), .val (.int p1), .val (.int p2), .val (.int p3), .val (.int (1 : Int32)), .val (.int (1 : Int32)), .val (.int (1 : Int32)), .val (.ref b428), .val (.int (7 : Int32)), .val (.ref b431), .val (.ref b_487), .val (.ref b_502)] [(.ref b_502)])) rfl rfl (hb hby at_266) _ ?_
            rw [len_of Sz510 Nn510]
            show Steps p.tables e below (T502.setTop (mkF m 267 #[.val (.int p0), .val (.int p1), .val (.int p2), .val (.int p3), .val (.int (1 : Int32)), .val (.int (1 : Int32)), .val (.int (1 : Int32)), .val (.ref b428), .val (.int (7 : Int32)), .val (.ref b431), .val (.ref b_487), .val (.ref b_502)] [(.int ((((0 : Int32) + (4 : Int32)) + (2 : Int32)) + (1 : Int32)))])) _
            refine XS.iload X502.here hx rfl (hb hby at_267) rfl ?_
            exact kt)
        have hd269_512 : ((((0 : Int32) + (4 : Int32)) + (2 : Int32)) + (1 : Int32)) = (7 : Int32) := by decide
        have c514 := (((V484.keep K487q nin0).other W499 ne_b428_b_487).keep K502q nin0)
        obtain ⟨_, _, ⟨T513, L513, k513, n513⟩, -, X513, ⟨Lc513, hQ513, l513, y513, z513⟩, st513⟩ := Jvm.LawKit.callS X502 hx (y := (⟨"com/example/corvid/corvid/ByteWriterToByteArrayPinLaw", "same", "([B[BI)Z"⟩ : MethodName)) hown (mvT hZ (hw _ (List.mem_of_getElem? (i := 45) rfl))) (mvT hZ (hw _ (List.mem_of_getElem? (i := 46) rfl))) (mvT hZ (hw _ (List.mem_of_getElem? (i := 47) rfl))) (mvT hZ (hw _ (List.mem_of_getElem? (i := 48) rfl))) (by decide) (backOf (W := 0) (rm9 l Z a0 hw [] b_502 b428 (7 : Int32) ((((0 : Int32) + (4 : Int32)) + (2 : Int32)) + (1 : Int32)) (f12_r1_a (p2 &&& (255 : Int32)) (((0 : Int32) + (4 : Int32)) + (2 : Int32)) (f11_r1_a (p1.toInt16.toInt32) ((0 : Int32) + (4 : Int32)) (f3_r1_a p0 (0 : Int32) (fun _ => 0)))) (7 : Int32) (own_upd (own_upd (own_upd (own_upd (own_upd (own_upd (own_upd (fun _ => 0) 0 (nar .byte ((p0 &&& (255 : Int32)).toInt8.toInt32))) 1 (nar .byte (((p0 >>> ((8 : Int32) &&& 31)) &&& (255 : Int32)).toInt8.toInt32))) 2 (nar .byte (((p0 >>> ((16 : Int32) &&& 31)) &&& (255 : Int32)).toInt8.toInt32))) 3 (nar .byte (((p0 >>> ((24 : Int32) &&& 31)) &&& (255 : Int32)).toInt8.toInt32))) 4 (nar .byte ((p1 &&& (255 : Int32)).toInt8.toInt32))) 5 (nar .byte (((p1 >>> ((8 : Int32) &&& 31)) &&& (255 : Int32)).toInt8.toInt32))) 6 (nar .byte ((p2 &&& (255 : Int32)).toInt8.toInt32))) T502.heap n0 Z508 G502_0 c514 (by decide)) hZ (hw _ (List.mem_of_getElem? (i := 48) rfl)) (hw _ (List.mem_of_getElem? (i := 47) rfl)) (by decide) (by decide)) (g := (mkF m 278 #[.val (.int p0), .val (.int p1), .val (.int p2), .val (.int p3), .val (.int (1 : Int32)), .val (.int (1 : Int32)), .val (.int (1 : Int32)), .val (.ref b428), .val (.int (7 : Int32)), .val (.ref b431), .val (.ref b_487), .val (.ref b_502)] [(.int (7 : Int32)), (.ref b428), (.ref b_502)])) rfl (by rw [hml]; rfl) (argsL := [(.ref b_502), (.ref b428), (.int (7 : Int32))]) (rest := []) (lenOf pd_0_2 rfl) rfl (by show 2 * 0 + _ ≤ _; exact Nat.le_of_eq rfl) (hb hby at_278) (fun _ _ => ⟨rfl, rfl, (by decide : 5 + 0 ≤ _), (by decide : 106 + 0 ≤ _)⟩)
        dsimp only [Pt.U, Pt.locs, Pt.cells, Pt.slots] at X513 l513 y513 z513 st513 hQ513
        subst l513 y513 z513
        obtain ⟨rfl, N513q, e513q⟩ := hQ513
        have N513 := Fr.app N502 N513q
        have pre515 : ∀ t, Steps p.tables e below (T513.setTop (mkF m 281 #[.val (.int p0), .val (.int p1), .val (.int p2), .val (.int p3), .val (.int (1 : Int32)), .val (.int (1 : Int32)), .val (.int (1 : Int32)), .val (.ref b428), .val (.int (7 : Int32)), .val (.ref b431), .val (.ref b_487), .val (.ref b_502)] [(.int (f9 (7 : Int32) (f12_r1_a (p2 &&& (255 : Int32)) (((0 : Int32) + (4 : Int32)) + (2 : Int32)) (f11_r1_a (p1.toInt16.toInt32) ((0 : Int32) + (4 : Int32)) (f3_r1_a p0 (0 : Int32) (fun _ => 0)))) (own_upd (own_upd (own_upd (own_upd (own_upd (own_upd (own_upd (fun _ => 0) 0 (nar .byte ((p0 &&& (255 : Int32)).toInt8.toInt32))) 1 (nar .byte (((p0 >>> ((8 : Int32) &&& 31)) &&& (255 : Int32)).toInt8.toInt32))) 2 (nar .byte (((p0 >>> ((16 : Int32) &&& 31)) &&& (255 : Int32)).toInt8.toInt32))) 3 (nar .byte (((p0 >>> ((24 : Int32) &&& 31)) &&& (255 : Int32)).toInt8.toInt32))) 4 (nar .byte ((p1 &&& (255 : Int32)).toInt8.toInt32))) 5 (nar .byte (((p1 >>> ((8 : Int32) &&& 31)) &&& (255 : Int32)).toInt8.toInt32))) 6 (nar .byte ((p2 &&& (255 : Int32)).toInt8.toInt32)))))])) t → Steps p.tables e below (s₁.setTop (entryFrame m #[(.int p0), (.int p1), (.int p2), (.int p3)] maxLocals)) t := fun t kt => pre511 t (by
            show Steps p.tables e below (T502.setTop (mkF m 269 #[.val (.int p0), .val (.int p1), .val (.int p2), .val (.int p3), .val (.int (1 : Int32)), .val (.int (1 : Int32)), .val (.int (1 : Int32)), .val (.ref b428), .val (.int (7 : Int32)), .val (.ref b431), .val (.ref b_487), .val (.ref b_502)] [(.int (7 : Int32)), (.int ((((0 : Int32) + (4 : Int32)) + (2 : Int32)) + (1 : Int32)))])) _
            refine XS.icmpNo X502.here hx rfl (hb hby at_269) rfl (teq hd269_512).2 ?_
            show Steps p.tables e below (T502.setTop (mkF m 272 #[.val (.int p0), .val (.int p1), .val (.int p2), .val (.int p3), .val (.int (1 : Int32)), .val (.int (1 : Int32)), .val (.int (1 : Int32)), .val (.ref b428), .val (.int (7 : Int32)), .val (.ref b431), .val (.ref b_487), .val (.ref b_502)] [])) _
            refine XS.aload X502.here hx rfl (hb hby at_272) rfl rfl ?_
            show Steps p.tables e below (T502.setTop (mkF m 274 #[.val (.int p0), .val (.int p1), .val (.int p2), .val (.int p3), .val (.int (1 : Int32)), .val (.int (1 : Int32)), .val (.int (1 : Int32)), .val (.ref b428), .val (.int (7 : Int32)), .val (.ref b431), .val (.ref b_487), .val (.ref b_502)] [(.ref b_502)])) _
            refine XS.aload X502.here hx rfl (hb hby at_274) rfl rfl ?_
            show Steps p.tables e below (T502.setTop (mkF m 276 #[.val (.int p0), .val (.int p1), .val (.int p2), .val (.int p3), .val (.int (1 : Int32)), .val (.int (1 : Int32)), .val (.int (1 : Int32)), .val (.ref b428), .val (.int (7 : Int32)), .val (.ref b431), .val (.ref b_487), .val (.ref b_502)] [(.ref b428), (.ref b_502)])) _
            refine XS.iload X502.here hx rfl (hb hby at_276) rfl ?_
            show Steps p.tables e below (T502.setTop (mkF m 278 #[.val (.int p0), .val (.int p1), .val (.int p2), .val (.int p3), .val (.int (1 : Int32)), .val (.int (1 : Int32)), .val (.int (1 : Int32)), .val (.ref b428), .val (.int (7 : Int32)), .val (.ref b431), .val (.ref b_487), .val (.ref b_502)] [(.int (7 : Int32)), (.ref b428), (.ref b_502)])) _
            refine st513 _ ?_
            exact kt)
        have hd281_516 : ¬ ((f9 (7 : Int32) (f12_r1_a (p2 &&& (255 : Int32)) (((0 : Int32) + (4 : Int32)) + (2 : Int32)) (f11_r1_a (p1.toInt16.toInt32) ((0 : Int32) + (4 : Int32)) (f3_r1_a p0 (0 : Int32) (fun _ => 0)))) (own_upd (own_upd (own_upd (own_upd (own_upd (own_upd (own_upd (fun _ => 0) 0 (nar .byte ((p0 &&& (255 : Int32)).toInt8.toInt32))) 1 (nar .byte (((p0 >>> ((8 : Int32) &&& 31)) &&& (255 : Int32)).toInt8.toInt32))) 2 (nar .byte (((p0 >>> ((16 : Int32) &&& 31)) &&& (255 : Int32)).toInt8.toInt32))) 3 (nar .byte (((p0 >>> ((24 : Int32) &&& 31)) &&& (255 : Int32)).toInt8.toInt32))) 4 (nar .byte ((p1 &&& (255 : Int32)).toInt8.toInt32))) 5 (nar .byte (((p1 >>> ((8 : Int32) &&& 31)) &&& (255 : Int32)).toInt8.toInt32))) 6 (nar .byte ((p2 &&& (255 : Int32)).toInt8.toInt32)))) = (0 : Int32)) := own_sm _ _ _ (own_pf111 p0 p1 p2)
        obtain ⟨fs, hr, hrun, hended, hW, hsame⟩ := X513.leave (v := some (.int (1 : Int32))) (fun h => by rw [Bd.returns] at h; cases h)
        have hv524 : (1 : Int32) = (1 : Int32) := rfl
        refine ⟨_, _, pre515 _ ?_, hrun, hended, _, _, rfl, ?_, ⟨_, rfl⟩, hW, hsame.mono (by decide) (by decide)⟩
        · show Steps p.tables e below (T513.setTop (mkF m 281 #[.val (.int p0), .val (.int p1), .val (.int p2), .val (.int p3), .val (.int (1 : Int32)), .val (.int (1 : Int32)), .val (.int (1 : Int32)), .val (.ref b428), .val (.int (7 : Int32)), .val (.ref b431), .val (.ref b_487), .val (.ref b_502)] [(.int (f9 (7 : Int32) (f12_r1_a (p2 &&& (255 : Int32)) (((0 : Int32) + (4 : Int32)) + (2 : Int32)) (f11_r1_a (p1.toInt16.toInt32) ((0 : Int32) + (4 : Int32)) (f3_r1_a p0 (0 : Int32) (fun _ => 0)))) (own_upd (own_upd (own_upd (own_upd (own_upd (own_upd (own_upd (fun _ => 0) 0 (nar .byte ((p0 &&& (255 : Int32)).toInt8.toInt32))) 1 (nar .byte (((p0 >>> ((8 : Int32) &&& 31)) &&& (255 : Int32)).toInt8.toInt32))) 2 (nar .byte (((p0 >>> ((16 : Int32) &&& 31)) &&& (255 : Int32)).toInt8.toInt32))) 3 (nar .byte (((p0 >>> ((24 : Int32) &&& 31)) &&& (255 : Int32)).toInt8.toInt32))) 4 (nar .byte ((p1 &&& (255 : Int32)).toInt8.toInt32))) 5 (nar .byte (((p1 >>> ((8 : Int32) &&& 31)) &&& (255 : Int32)).toInt8.toInt32))) 6 (nar .byte ((p2 &&& (255 : Int32)).toInt8.toInt32)))))])) _
          refine XS.ifNo X513.here hx rfl (hb hby at_281) rfl ((if0 _ _).trans (feq hd281_516).1) ?_
          show Steps p.tables e below (T513.setTop (mkF m 284 #[.val (.int p0), .val (.int p1), .val (.int p2), .val (.int p3), .val (.int (1 : Int32)), .val (.int (1 : Int32)), .val (.int (1 : Int32)), .val (.ref b428), .val (.int (7 : Int32)), .val (.ref b431), .val (.ref b_487), .val (.ref b_502)] [])) _
          refine XS.iconst X513.here hx rfl (hb hby at_284) ?_
          show Steps p.tables e below (T513.setTop (mkF m 285 #[.val (.int p0), .val (.int p1), .val (.int p2), .val (.int p3), .val (.int (1 : Int32)), .val (.int (1 : Int32)), .val (.int (1 : Int32)), .val (.ref b428), .val (.int (7 : Int32)), .val (.ref b431), .val (.ref b_487), .val (.ref b_502)] [(.int (1 : Int32))])) _
          refine XS.goto X513.here hx rfl (pc0 := 285) (pc' := 289) rfl (hb hby at_285) (by decide) (by decide) ?_
          show Steps p.tables e below (T513.setTop (mkF m 289 #[.val (.int p0), .val (.int p1), .val (.int p2), .val (.int p3), .val (.int (1 : Int32)), .val (.int (1 : Int32)), .val (.int (1 : Int32)), .val (.ref b428), .val (.int (7 : Int32)), .val (.ref b431), .val (.ref b_487), .val (.ref b_502)] [(.int (1 : Int32))])) _
          exact retN X513 hx (t := .boolean) Bd.returns (by simp) (hb hby at_289) hr
        · show Q0 Z p0 p1 p2 p3 h0 n0 _ T513.heap _
          rw [e513q]
          exact ⟨congrArg (fun q => some (Value.int q)) hv524, N513⟩
set_option maxRecDepth 65536 in
set_option maxHeartbeats 40000000 in
theorem comes_1 {Post : Tables → Env → Array Value → State → Outcome → State → Prop} (hpost : ∀ tb e args s v u, (limb_1_1.after args s (.returned v) u = true ∧ limb_1_2.after args s (.returned v) u = true ∧ True) → FrameEnd s (.returned v) u (Jvm.fieldLocs frame_1_writes args s ++ Jvm.arrayLocs frame_1_arrays args s ++ Jvm.staticLocs frame_1_statics s) 24 256 → Post tb e args s (.returned v) u) :
    ArmFor flags0 classFile x code maxLocals ret World_1 tables_1 room_1 Calls_1 rest_1 Pre_1 Post := by
  intro l hfl _ _ p e ha hc hk s m args below hf hA hF happ hP
  obtain ⟨hcalls, hrest, hpre⟩ := hP
  obtain ⟨-, -, -, hnamed, -, -, -, hat⟩ := (Spec.applies_iff hf).mp happ
  obtain ⟨hg, hn⟩ := and_e (Cond.before_iff.mp (show (Jvm.Cond.and given_1 narrow_1).before args s = true from hpre))
  obtain ⟨g1, g2⟩ := and_e hg
  obtain ⟨g3, g4⟩ := and_e g2
  obtain ⟨g5, g6⟩ := and_e g4
  obtain ⟨g7, g8⟩ := and_e g6
  obtain ⟨w0, w1, w2, w3, rfl⟩ : ∃ w0 w1 w2 w3 : Value, args = #[w0, w1, w2, w3] := by
    have hs : args.size = 4 := by simpa [Cond.value, given_1] using g1
    obtain ⟨L⟩ := args
    match L, hs with
    | [w0, w1, w2, w3], _ => exact ⟨w0, w1, w2, w3, rfl⟩
  have hw := fun d (hd : d ∈ tables_1) => atoms_spec (ws := Jvm.Cond.code x code maxLocals ret :: tables_1) hat d (List.mem_cons_of_mem _ hd)
  have hfit : Fit s := fun {y c} hc i hi => by
    obtain ⟨ha, rfl⟩ := Array.getElem?_eq_some_iff.mp hc
    have q := List.all_eq_true.mp ((Array.all_eq_true_iff_forall_mem.mp hF) _ (Array.getElem_mem ha)) i (List.mem_range.mpr hi)
    simpa [Array.getElem?_eq_getElem hi] using q
  obtain ⟨i0, ei0⟩ := is_v g3
  obtain rfl : w0 = (.int i0) := Option.some.inj ei0
  obtain ⟨i1, ei1⟩ := is_v g5
  obtain rfl : w1 = (.int i1) := Option.some.inj ei1
  obtain ⟨i2, ei2⟩ := is_v g7
  obtain rfl : w2 = (.int i2) := Option.some.inj ei2
  obtain ⟨i3, ei3⟩ := is_v g8
  obtain rfl : w3 = (.int i3) := Option.some.inj ei3
  obtain ⟨n, o, h1, h2, h3, _, L, rfl, ⟨hv0, N⟩, hq⟩ := rm0 l s _ hw tables_1 i0 i1 i2 i3 s.heap s.heap.size (Nat.le_refl _) p e ha hc hk s m _ below hf ((Spec.applies_iff_loose hf).mp happ).1 ⟨rfl, State.Warmed39.refl s, rfl⟩ trivial
  subst hv0
  refine ⟨n, _, h1, h2, h3, hpost _ _ _ _ _ _ ⟨Cond.after_iff.mpr rfl, Cond.after_iff.mpr (eq_i res_at (Term.int_eval (1)) rfl), trivial⟩ ⟨hq.1, hq.2.1, (hq.2.2.sift fun y hy => Or.inr (N y hy)).mono (by decide) (by decide)⟩⟩
theorem main_1_1 : Claimed_1_1 := comes_1 fun _ _ _ _ _ _ h hF => ⟨h.1, hF⟩
theorem main_1_2 : Claimed_1_2 := comes_1 fun _ _ _ _ _ _ h hF => ⟨h.2.1, hF⟩
end Jvm.Pilot.@@N@@
namespace Jvm.Pilot.@@N@@
open Jvm Jvm.ClassFile Sem Op Lib Jvm.Free Jvm.Stand Jvm.Pilot.@@N@@.Jvm.D
/-! MADE BY PROGRAM (witnessworld.py) out of the Statement's table words and the real class files: 12 classes; the members and pool entries that the words name. The judged class is class 1, her method 1. -/
namespace start1
open Jvm.ClassFile
def u (s : String) : CpInfo := .utf8 (stringToUtf16 s)
/-- a pool by its gaps: so many unusable entries, then the entry; so many at the end -/
def gap : Nat → List CpInfo → List CpInfo
  | 0, r => r
  | n + 1, r => .unusable :: gap n r
def poolList (es : List (Nat × CpInfo)) (last : Nat) : List CpInfo := es.foldr (fun e r => gap e.1 (e.2 :: r)) (gap last [])
def pool (es : List (Nat × CpInfo)) (last : Nat) : Array CpInfo := ⟨poolList es last⟩
def fileOf (pool : Array CpInfo) (this : Nat) (attrs : Array Attribute := #[]) (ms : Array MethodInfo := #[]) (fl : Nat := 33) (sup : Nat := 0) (ifs : Array Nat := #[]) (fds : Array FieldInfo := #[]) : ClassFile where
  minorVersion := 0
  majorVersion := 65
  constantPool := pool
  accessFlags := fl
  thisClass := this
  superClass := sup
  interfaces := ifs
  fields := fds
  methods := ms
  attributes := attrs
def plain (name : String) (sup : Option ClassId) : Class where
  name := name
  kind := .ordinary
  loader := none
  accessFlags := 33
  super := sup
  interfaces := #[]
  cf := none
  fields := #[]
  methods := #[]
  instanceTypes := #[]
  staticTypes := #[]
  resolved := #[]
  callSites := []
  init := .initialized
  statics := none
  mirror := none

def pool0 : Array CpInfo := pool [(5, u "<init>"), (0, u "()V"), (1, .class_ 10), (1, u "java/lang/Object")] 113

def k0c0 : Code := { maxStack := 0, maxLocals := 1, code := object_method_1_code, exceptionTable := #[], attributes := #[] }
def k0m0 : Method := { name := "<init>", desc := "()V", sig := { parameters := [], returnType := none }, accessFlags := 1, code := some k0c0 }
/-- java/lang/Object -/
def k0 : Class := { plain "java/lang/Object" none with
  accessFlags := 33
  interfaces := #[]
  cf := some (fileOf pool0 8 #[] #[{ accessFlags := 1, nameIndex := 5, descriptorIndex := 6, attributes := #[] }] 33 0 #[] #[])
  fields := #[]
  methods := #[k0m0]
  instanceTypes := #[]
  staticTypes := #[]
  resolved := Array.replicate 124 none
  statics := none }

def pool1 : Array CpInfo := pool [(2, .class_ 4), (0, .nameAndType 5 6), (0, u "java/lang/Object"), (0, u "<init>"), (0, u "()V"), (0, .class_ 8), (0, u "com/example/corvid/corvid/ByteWriter"), (0, .methodref 7 3), (0, .methodref 7 11), (0, .nameAndType 12 13), (0, u "writeInt"), (0, u "(I)V"), (0, .methodref 7 15), (0, .nameAndType 16 17), (0, u "writeShort"), (0, u "(S)V"), (0, .methodref 7 19), (0, .nameAndType 20 13), (0, u "writeByte"), (0, .methodref 7 22), (0, .nameAndType 23 24), (0, u "toByteArray"), (0, u "()[B"), (0, .methodref 26 27), (0, .class_ 28), (0, .nameAndType 29 30), (0, u "com/example/corvid/corvid/ByteWriterToByteArrayPinLaw"), (0, u "same"), (0, u "([B[BI)Z"), (0, .methodref 26 32), (0, .nameAndType 33 34), (0, u "at"), (0, u "([B[BII)Z"), (2, u "law"), (0, u "(IIII)Z")] 5

def k1m0 : Method := { name := "<init>", desc := "()V", sig := { parameters := [], returnType := none }, accessFlags := 1, code := none }
def k1c1 : Code := { maxStack := 4, maxLocals := 12, code := code, exceptionTable := #[], attributes := #[] }
def k1m1 : Method := { name := "law", desc := "(IIII)Z", sig := { parameters := [.int, .int, .int, .int], returnType := some .boolean }, accessFlags := 9, code := some k1c1 }
def k1c2 : Code := { maxStack := 4, maxLocals := 3, code := method_3_code, exceptionTable := #[], attributes := #[] }
def k1m2 : Method := { name := "same", desc := "([B[BI)Z", sig := { parameters := [(.array .byte), (.array .byte), .int], returnType := some .boolean }, accessFlags := 10, code := some k1c2 }
def k1c3 : Code := { maxStack := 3, maxLocals := 4, code := method_4_code, exceptionTable := #[], attributes := #[] }
def k1m3 : Method := { name := "at", desc := "([B[BII)Z", sig := { parameters := [(.array .byte), (.array .byte), .int, .int], returnType := some .boolean }, accessFlags := 10, code := some k1c3 }
/-- com/example/corvid/corvid/ByteWriterToByteArrayPinLaw -/
def k1 : Class := { plain "com/example/corvid/corvid/ByteWriterToByteArrayPinLaw" (some 0) with
  accessFlags := 49
  interfaces := #[]
  cf := some (fileOf pool1 26 #[] #[{ accessFlags := 1, nameIndex := 5, descriptorIndex := 6, attributes := #[] }, { accessFlags := 9, nameIndex := 37, descriptorIndex := 38, attributes := #[] }, { accessFlags := 10, nameIndex := 29, descriptorIndex := 30, attributes := #[] }, { accessFlags := 10, nameIndex := 33, descriptorIndex := 34, attributes := #[] }] 49 2 #[] #[])
  fields := #[]
  methods := #[k1m0, k1m1, k1m2, k1m3]
  instanceTypes := #[]
  staticTypes := #[]
  resolved := Array.replicate 44 none
  statics := none }

def pool2 : Array CpInfo := pool [(1, .methodref 2 3), (0, .class_ 4), (0, .nameAndType 5 6), (0, u "java/lang/Object"), (0, u "<init>"), (0, u "()V"), (0, .class_ 8), (0, u "com/example/corvid/corvid/ByteWriter"), (0, .fieldref 7 10), (0, .nameAndType 11 12), (0, u "bytes"), (0, u "[B"), (0, .fieldref 7 14), (0, .nameAndType 15 16), (0, u "encapsulationStart"), (0, u "I"), (13, u "writeByte"), (0, u "(I)V"), (2, u "writeInt"), (1, .methodref 7 37), (0, .nameAndType 38 31), (0, u "reserve"), (0, .fieldref 7 40), (0, .nameAndType 41 16), (0, u "length"), (57, .methodref 100 101), (0, .class_ 102), (0, .nameAndType 103 104), (0, u "java/util/Arrays"), (0, u "copyOf"), (0, u "([BI)[B"), (0, .methodref 106 107), (0, .class_ 108), (0, .nameAndType 109 110), (0, u "java/lang/Math"), (0, u "addExact"), (0, u "(II)I"), (3, u "INITIAL_CAPACITY"), (7, u "writeShort"), (0, u "(S)V"), (3, u "toByteArray"), (0, u "()[B")] 19

def k2c0 : Code := { maxStack := 2, maxLocals := 1, code := prog_2_method_1_code, exceptionTable := #[], attributes := #[] }
def k2m0 : Method := { name := "<init>", desc := "()V", sig := { parameters := [], returnType := none }, accessFlags := 1, code := some k2c0 }
def k2c1 : Code := { maxStack := 5, maxLocals := 2, code := prog_2_method_3_code, exceptionTable := #[], attributes := #[] }
def k2m1 : Method := { name := "writeByte", desc := "(I)V", sig := { parameters := [.int], returnType := none }, accessFlags := 1, code := some k2c1 }
def k2c2 : Code := { maxStack := 4, maxLocals := 2, code := prog_2_method_5_code, exceptionTable := #[], attributes := #[] }
def k2m2 : Method := { name := "writeShort", desc := "(S)V", sig := { parameters := [.short], returnType := none }, accessFlags := 1, code := some k2c2 }
def k2c3 : Code := { maxStack := 4, maxLocals := 2, code := prog_2_method_6_code, exceptionTable := #[], attributes := #[] }
def k2m3 : Method := { name := "writeInt", desc := "(I)V", sig := { parameters := [.int], returnType := none }, accessFlags := 1, code := some k2c3 }
def k2c4 : Code := { maxStack := 2, maxLocals := 1, code := prog_2_method_12_code, exceptionTable := #[], attributes := #[] }
def k2m4 : Method := { name := "toByteArray", desc := "()[B", sig := { parameters := [], returnType := some (.array .byte) }, accessFlags := 1, code := some k2c4 }
def k2c5 : Code := { maxStack := 5, maxLocals := 3, code := prog_2_method_13_code, exceptionTable := #[], attributes := #[] }
def k2m5 : Method := { name := "reserve", desc := "(I)V", sig := { parameters := [.int], returnType := none }, accessFlags := 2, code := some k2c5 }
/-- com/example/corvid/corvid/ByteWriter -/
def k2 : Class := { plain "com/example/corvid/corvid/ByteWriter" (some 0) with
  accessFlags := 49
  interfaces := #[]
  cf := some (fileOf pool2 7 #[] #[{ accessFlags := 1, nameIndex := 5, descriptorIndex := 6, attributes := #[] }, { accessFlags := 1, nameIndex := 30, descriptorIndex := 31, attributes := #[] }, { accessFlags := 1, nameIndex := 122, descriptorIndex := 123, attributes := #[] }, { accessFlags := 1, nameIndex := 34, descriptorIndex := 31, attributes := #[] }, { accessFlags := 1, nameIndex := 127, descriptorIndex := 128, attributes := #[] }, { accessFlags := 2, nameIndex := 38, descriptorIndex := 31, attributes := #[] }] 49 2 #[] #[{ accessFlags := 26, nameIndex := 114, descriptorIndex := 16, attributes := #[] }, { accessFlags := 2, nameIndex := 11, descriptorIndex := 12, attributes := #[] }, { accessFlags := 2, nameIndex := 41, descriptorIndex := 16, attributes := #[] }, { accessFlags := 2, nameIndex := 15, descriptorIndex := 16, attributes := #[] }])
  fields := #[{ name := "INITIAL_CAPACITY", type := .int, accessFlags := 26, slot := 0, constantValue := 0 }, { name := "bytes", type := (.array .byte), accessFlags := 2, slot := 0, constantValue := 0 }, { name := "length", type := .int, accessFlags := 2, slot := 1, constantValue := 0 }, { name := "encapsulationStart", type := .int, accessFlags := 2, slot := 2, constantValue := 0 }]
  methods := #[k2m0, k2m1, k2m2, k2m3, k2m4, k2m5]
  instanceTypes := #[(.array .byte), .int, .int]
  staticTypes := #[.int]
  resolved := Array.replicate 148 none
  statics := none }

def pool3 : Array CpInfo := pool [(1, .class_ 2), (0, u "java/lang/Math"), (1, .class_ 6), (1, u "java/lang/Object"), (0, u "<init>"), (0, u "()V"), (89, .class_ 100), (1, u "java/lang/Math$RandomNumberGeneratorHolder"), (71, u "negativeZeroFloatBits"), (0, u "J"), (2, u "negativeZeroDoubleBits"), (24, u "min"), (43, u "$assertionsDisabled"), (0, u "Z"), (88, u "(II)I"), (2, u "twoToTheDoubleScaleDown"), (0, u "D"), (4, u "twoToTheDoubleScaleUp"), (9, u "E"), (3, u "PI"), (2, u "TAU"), (2, u "DEGREES_TO_RADIANS"), (0, u "RADIANS_TO_DEGREES"), (27, u "addExact")] 66

def k3m0 : Method := { name := "<init>", desc := "()V", sig := { parameters := [], returnType := none }, accessFlags := 2, code := none }
def k3c1 : Code := { maxStack := 3, maxLocals := 3, code := jdk_29_method_24_code, exceptionTable := #[], attributes := #[] }
def k3m1 : Method := { name := "addExact", desc := "(II)I", sig := { parameters := [.int, .int], returnType := some .int }, accessFlags := 9, code := some k3c1 }
def k3c2 : Code := { maxStack := 2, maxLocals := 2, code := jdk_29_method_69_code, exceptionTable := #[], attributes := #[] }
def k3m2 : Method := { name := "min", desc := "(II)I", sig := { parameters := [.int, .int], returnType := some .int }, accessFlags := 9, code := some k3c2 }
/-- java/lang/Math -/
def k3 : Class := { plain "java/lang/Math" (some 0) with
  accessFlags := 49
  interfaces := #[]
  cf := some (fileOf pool3 1 #[.nestMembers #[98]] #[{ accessFlags := 2, nameIndex := 7, descriptorIndex := 8, attributes := #[] }, { accessFlags := 9, nameIndex := 393, descriptorIndex := 335, attributes := #[] }, { accessFlags := 9, nameIndex := 201, descriptorIndex := 335, attributes := #[] }] 49 4 #[] #[{ accessFlags := 25, nameIndex := 354, descriptorIndex := 339, attributes := #[] }, { accessFlags := 25, nameIndex := 358, descriptorIndex := 339, attributes := #[] }, { accessFlags := 25, nameIndex := 361, descriptorIndex := 339, attributes := #[] }, { accessFlags := 26, nameIndex := 364, descriptorIndex := 339, attributes := #[] }, { accessFlags := 26, nameIndex := 365, descriptorIndex := 339, attributes := #[] }, { accessFlags := 26, nameIndex := 172, descriptorIndex := 173, attributes := #[] }, { accessFlags := 26, nameIndex := 176, descriptorIndex := 173, attributes := #[] }, { accessFlags := 8, nameIndex := 344, descriptorIndex := 339, attributes := #[] }, { accessFlags := 8, nameIndex := 338, descriptorIndex := 339, attributes := #[] }, { accessFlags := 4120, nameIndex := 245, descriptorIndex := 246, attributes := #[] }])
  fields := #[{ name := "E", type := .double, accessFlags := 25, slot := 0, constantValue := 0 }, { name := "PI", type := .double, accessFlags := 25, slot := 1, constantValue := 0 }, { name := "TAU", type := .double, accessFlags := 25, slot := 2, constantValue := 0 }, { name := "DEGREES_TO_RADIANS", type := .double, accessFlags := 26, slot := 3, constantValue := 0 }, { name := "RADIANS_TO_DEGREES", type := .double, accessFlags := 26, slot := 4, constantValue := 0 }, { name := "negativeZeroFloatBits", type := .long, accessFlags := 26, slot := 5, constantValue := 0 }, { name := "negativeZeroDoubleBits", type := .long, accessFlags := 26, slot := 6, constantValue := 0 }, { name := "twoToTheDoubleScaleUp", type := .double, accessFlags := 8, slot := 7, constantValue := 0 }, { name := "twoToTheDoubleScaleDown", type := .double, accessFlags := 8, slot := 8, constantValue := 0 }, { name := "$assertionsDisabled", type := .boolean, accessFlags := 4120, slot := 9, constantValue := 0 }]
  methods := #[k3m0, k3m1, k3m2]
  instanceTypes := #[]
  staticTypes := #[.double, .double, .double, .double, .double, .long, .long, .double, .double, .boolean]
  resolved := Array.replicate 460 none
  statics := none }

def pool4 : Array CpInfo := pool [(2, .class_ 4), (1, u "java/lang/Object"), (0, u "<init>"), (0, u "()V"), (7, .class_ 16), (1, u "java/util/Arrays"), (57, .class_ 76), (1, u "java/util/Arrays$NaturalOrder"), (36, .class_ 115), (1, u "java/util/Arrays$LegacyMergeSort"), (1, u "Z"), (32, .methodref 151 152), (0, .class_ 153), (0, .nameAndType 154 155), (0, u "java/lang/System"), (0, u "arraycopy"), (0, u "(Ljava/lang/Object;ILjava/lang/Object;II)V"), (146, u "copyOf"), (1, .methodref 305 306), (0, .class_ 307), (0, .nameAndType 308 309), (0, u "java/lang/Math"), (0, u "min"), (0, u "(II)I"), (65, .class_ 376), (0, u "java/util/Arrays$ArrayList"), (68, u "$assertionsDisabled"), (269, u "MIN_ARRAY_SORT_GRAN"), (0, u "I"), (2, u "INSERTIONSORT_THRESHOLD"), (149, u "([BI)[B"), (105, .class_ 976), (0, u "java/util/Arrays$ArrayItr")] 52

def k4m0 : Method := { name := "<init>", desc := "()V", sig := { parameters := [], returnType := none }, accessFlags := 2, code := none }
def k4c1 : Code := { maxStack := 6, maxLocals := 3, code := jdk_65_method_121_code, exceptionTable := #[], attributes := #[] }
def k4m1 : Method := { name := "copyOf", desc := "([BI)[B", sig := { parameters := [(.array .byte), .int], returnType := some (.array .byte) }, accessFlags := 9, code := some k4c1 }
/-- java/util/Arrays -/
def k4 : Class := { plain "java/util/Arrays" (some 0) with
  accessFlags := 49
  interfaces := #[]
  cf := some (fileOf pool4 14 #[.nestMembers #[975, 375, 113, 74]] #[{ accessFlags := 2, nameIndex := 5, descriptorIndex := 6, attributes := #[] }, { accessFlags := 9, nameIndex := 302, descriptorIndex := 869, attributes := #[] }] 49 2 #[] #[{ accessFlags := 26, nameIndex := 715, descriptorIndex := 716, attributes := #[] }, { accessFlags := 26, nameIndex := 719, descriptorIndex := 716, attributes := #[] }, { accessFlags := 4120, nameIndex := 445, descriptorIndex := 117, attributes := #[] }])
  fields := #[{ name := "MIN_ARRAY_SORT_GRAN", type := .int, accessFlags := 26, slot := 0, constantValue := 0 }, { name := "INSERTIONSORT_THRESHOLD", type := .int, accessFlags := 26, slot := 1, constantValue := 0 }, { name := "$assertionsDisabled", type := .boolean, accessFlags := 4120, slot := 2, constantValue := 0 }]
  methods := #[k4m0, k4m1]
  instanceTypes := #[]
  staticTypes := #[.int, .int, .boolean]
  resolved := Array.replicate 1029 none
  statics := none }

def pool5 : Array CpInfo := pool [(2, .class_ 4), (1, u "java/lang/Object"), (0, u "<init>"), (0, u "()V"), (1, .class_ 10), (1, u "java/lang/System"), (0, u "allowSecurityManager"), (0, u "I"), (16, u "cons"), (0, u "Ljava/io/Console;"), (77, .class_ 110), (1, u "java/lang/System$CallersHolder"), (43, u "initialErrStream"), (0, u "Ljava/io/PrintStream;"), (19, u "security"), (0, u "Ljava/lang/SecurityManager;"), (31, .class_ 209), (0, u "java/lang/System$1"), (7, u "props"), (0, u "Ljava/util/Properties;"), (2, u "lineSeparator"), (0, u "Ljava/lang/String;"), (96, .class_ 321), (1, u "java/lang/System$LoggerFinder"), (5, .class_ 328), (0, u "java/lang/System$Logger"), (67, u "err"), (2, u "out"), (91, u "notSupportedJnuEncoding"), (15, u "in"), (17, u "initialIn"), (0, u "Ljava/io/InputStream;"), (35, u "bootLayer"), (0, u "Ljava/lang/ModuleLayer;"), (99, .class_ 664), (0, u "java/lang/System$2"), (9, u "NEVER"), (2, u "MAYBE"), (49, u "arraycopy"), (0, u "(Ljava/lang/Object;ILjava/lang/Object;II)V"), (72, .class_ 802), (0, u "java/lang/System$Logger$Level")] 31

def k5m0 : Method := { name := "<init>", desc := "()V", sig := { parameters := [], returnType := none }, accessFlags := 2, code := none }
def k5m1 : Method := { name := "arraycopy", desc := "(Ljava/lang/Object;ILjava/lang/Object;II)V", sig := { parameters := [(.object "java/lang/Object"), .int, (.object "java/lang/Object"), .int, .int], returnType := none }, accessFlags := 265, code := none }
/-- java/lang/System -/
def k5 : Class := { plain "java/lang/System" (some 0) with
  accessFlags := 49
  interfaces := #[]
  cf := some (fileOf pool5 8 #[.nestMembers #[319, 327, 801, 108, 663, 208]] #[{ accessFlags := 2, nameIndex := 5, descriptorIndex := 6, attributes := #[] }, { accessFlags := 265, nameIndex := 727, descriptorIndex := 728, attributes := #[] }] 49 2 #[] #[{ accessFlags := 25, nameIndex := 507, descriptorIndex := 526, attributes := #[] }, { accessFlags := 25, nameIndex := 399, descriptorIndex := 155, attributes := #[] }, { accessFlags := 25, nameIndex := 396, descriptorIndex := 155, attributes := #[] }, { accessFlags := 10, nameIndex := 525, descriptorIndex := 526, attributes := #[] }, { accessFlags := 26, nameIndex := 674, descriptorIndex := 12, attributes := #[] }, { accessFlags := 26, nameIndex := 677, descriptorIndex := 12, attributes := #[] }, { accessFlags := 10, nameIndex := 11, descriptorIndex := 12, attributes := #[] }, { accessFlags := 74, nameIndex := 175, descriptorIndex := 176, attributes := #[] }, { accessFlags := 10, nameIndex := 491, descriptorIndex := 222, attributes := #[] }, { accessFlags := 74, nameIndex := 29, descriptorIndex := 30, attributes := #[] }, { accessFlags := 74, nameIndex := 154, descriptorIndex := 155, attributes := #[] }, { accessFlags := 10, nameIndex := 217, descriptorIndex := 218, attributes := #[] }, { accessFlags := 10, nameIndex := 221, descriptorIndex := 222, attributes := #[] }, { accessFlags := 8, nameIndex := 562, descriptorIndex := 563, attributes := #[] }])
  fields := #[{ name := "in", type := (.object "java/io/InputStream"), accessFlags := 25, slot := 0, constantValue := 0 }, { name := "out", type := (.object "java/io/PrintStream"), accessFlags := 25, slot := 1, constantValue := 0 }, { name := "err", type := (.object "java/io/PrintStream"), accessFlags := 25, slot := 2, constantValue := 0 }, { name := "initialIn", type := (.object "java/io/InputStream"), accessFlags := 10, slot := 3, constantValue := 0 }, { name := "NEVER", type := .int, accessFlags := 26, slot := 4, constantValue := 0 }, { name := "MAYBE", type := .int, accessFlags := 26, slot := 5, constantValue := 0 }, { name := "allowSecurityManager", type := .int, accessFlags := 10, slot := 6, constantValue := 0 }, { name := "security", type := (.object "java/lang/SecurityManager"), accessFlags := 74, slot := 7, constantValue := 0 }, { name := "notSupportedJnuEncoding", type := (.object "java/lang/String"), accessFlags := 10, slot := 8, constantValue := 0 }, { name := "cons", type := (.object "java/io/Console"), accessFlags := 74, slot := 9, constantValue := 0 }, { name := "initialErrStream", type := (.object "java/io/PrintStream"), accessFlags := 74, slot := 10, constantValue := 0 }, { name := "props", type := (.object "java/util/Properties"), accessFlags := 10, slot := 11, constantValue := 0 }, { name := "lineSeparator", type := (.object "java/lang/String"), accessFlags := 10, slot := 12, constantValue := 0 }, { name := "bootLayer", type := (.object "java/lang/ModuleLayer"), accessFlags := 8, slot := 13, constantValue := 0 }]
  methods := #[k5m0, k5m1]
  instanceTypes := #[]
  staticTypes := #[(.object "java/io/InputStream"), (.object "java/io/PrintStream"), (.object "java/io/PrintStream"), (.object "java/io/InputStream"), .int, .int, .int, (.object "java/lang/SecurityManager"), (.object "java/lang/String"), (.object "java/io/Console"), (.object "java/io/PrintStream"), (.object "java/util/Properties"), (.object "java/lang/String"), (.object "java/lang/ModuleLayer")]
  resolved := Array.replicate 834 none
  statics := none }

def pool6 : Array CpInfo := pool [(1, u "java/lang/Cloneable"), (0, .class_ 1), (0, u "java/lang/Object"), (0, .class_ 3)] 3

/-- java/lang/Cloneable -/
def k6 : Class := { plain "java/lang/Cloneable" (some 0) with
  accessFlags := 1537
  interfaces := #[]
  cf := some (fileOf pool6 2 #[] #[] 1537 4 #[] #[])
  fields := #[]
  methods := #[]
  instanceTypes := #[]
  staticTypes := #[]
  resolved := Array.replicate 8 none
  statics := none }

def pool7 : Array CpInfo := pool [(1, u "java/io/Serializable"), (0, .class_ 1), (0, u "java/lang/Object"), (0, .class_ 3)] 3

/-- java/io/Serializable -/
def k7 : Class := { plain "java/io/Serializable" (some 0) with
  accessFlags := 1537
  interfaces := #[]
  cf := some (fileOf pool7 2 #[] #[] 1537 4 #[] #[])
  fields := #[]
  methods := #[]
  instanceTypes := #[]
  staticTypes := #[]
  resolved := Array.replicate 8 none
  statics := none }

/-- the primitive byte -/
def k8 : Class := { plain "byte" none with kind := .primitive 'B', accessFlags := 0x411 }
/-- [B -/
def k9 : Class := { plain "[B" (some 0) with kind := .array 8 .byte, interfaces := #[6, 7], accessFlags := 1041 }

/-- the primitive int -/
def k10 : Class := { plain "int" none with kind := .primitive 'I', accessFlags := 0x411 }
/-- [I -/
def k11 : Class := { plain "[I" (some 0) with kind := .array 10 .int, interfaces := #[6, 7], accessFlags := 1041 }

def heap : Heap := #[]
def classes : Array Class := #[k0, k1, k2, k3, k4, k5, k6, k7, k8, k9, k10, k11]
def interned : List (Array UInt16 × Addr) := []
def slotsUsed : Nat := 0
def theMethod : MethodId := ⟨1, 1⟩
def args0 : Array Value := #[.int 5, .int 9, .int 3, .int 5]
def aboutOver (below : List Frame) : State where
  vm := { classes := classes, interned := interned.toArray }
  heap := heap
  slotsUsed := slotsUsed
  threads := #[{ frames := .invoking theMethod args0 :: below }]
def below0 : List Frame := [.native { method := ⟨0, 0⟩, args := #[] }]
def about1 : State := aboutOver below0
def p0 : Program := .bare "" "" ""
def e0 : Env := launch0.env 0 0 0
theorem w_frames : about1.frames = Frame.invoking theMethod args0 :: below0 := rfl
set_option maxRecDepth 65536 in
theorem w_args : argsFit about1.vm theMethod args0 = true := by decide +kernel
set_option maxRecDepth 65536 in
theorem w_heap : heapFits about1 = true := by decide +kernel
set_option maxRecDepth 65536 in
theorem w_runnable : about1.curStatus? = some .runnable := by decide +kernel
set_option maxRecDepth 65536 in
theorem w_alone : about1.alone = true := by decide +kernel
set_option maxRecDepth 65536 in
theorem w_named : about1.methodNamed? x = some theMethod := by decide +kernel
set_option maxRecDepth 65536 in
theorem w_hears : about1.hears theMethod below0 = true := by decide +kernel
set_option maxRecDepth 65536 in
theorem w_ripe : about1.ripe theMethod args0 below0 = true := by decide +kernel
theorem w_running : about1.status = .running := rfl
set_option maxRecDepth 65536 in
theorem w_room : about1.hasRoom e0.platform room_1 = true :=
  launch0.hasRoom_least _ room_1 (by decide +kernel) (by decide +kernel) (by decide +kernel) (by decide +kernel) (by decide +kernel) (by decide +kernel)
theorem allAtoms_all (ts : List Jvm.Cond) (a : Array Jvm.Value) (st : Jvm.State) : (allAtoms ts).before a st = ts.all (fun c => c.before a st) := by
  induction ts with
  | nil => rfl
  | cons c t ih =>
    show (Jvm.Cond.and c (allAtoms t)).before a st = _
    rw [Jvm.Cond.before_and, ih, List.all_cons]
def words1 : List Jvm.Cond := Jvm.Cond.code x code maxLocals ret :: tables_1
/-- a 'code' word, met by the world's own term for the bytes: nothing is compared byte by byte -/
theorem code_word {y : MethodName} {bytes : ByteArray} {mx : Nat} {rt : Option FieldType} {a : Array Value} {s : State} {m : MethodId} {meth : Method} {c : Code} (h1 : s.methodNamed? y = some m) (h2 : s.vm.method? m = some meth) (h3 : meth.code = some c) (h4 : c.code = bytes)
    (h5 : (c.maxLocals == mx && c.exceptionTable.isEmpty && decide (c.maxStack ≤ mostOperands) && decide (meth.sig.returnType = rt) && !meth.locks && decide (parseMethodDescriptor y.desc = some meth.sig)) = true) : (Jvm.Cond.code y bytes mx rt).before a s = true := by
  simp only [Bool.and_eq_true, beq_iff_eq, Bool.not_eq_true', decide_eq_true_eq] at h5
  obtain ⟨⟨⟨⟨⟨g1, g2⟩, g3⟩, g4⟩, g5⟩, g6⟩ := h5
  simp [Cond.before, Cond.holds, Cond.value, h1, h2, h3, h4, g1, g2, g3, g4, g5, g6]
def isCode : Jvm.Cond → Bool
  | .code _ _ _ _ => true
  | _ => false
theorem all_split {L : List Jvm.Cond} {P : Jvm.Cond → Bool} (h1 : L.all (fun c => isCode c || P c) = true) (h2 : ∀ c ∈ L.filter isCode, P c = true) : L.all P = true := by
  refine List.all_eq_true.mpr fun c hc => ?_
  have h := List.all_eq_true.mp h1 c hc
  rcases Bool.eq_false_or_eq_true (isCode c) with hi | hi
  · exact h2 c (List.mem_filter.mpr ⟨hc, hi⟩)
  · simpa [hi] using h
set_option maxRecDepth 65536 in
theorem w_c0 : (Jvm.Cond.code x code maxLocals ret).before args0 about1 = true := code_word (m := ⟨1, 1⟩) (meth := k1m1) (c := k1c1) (by decide +kernel) rfl rfl rfl (by decide +kernel)
set_option maxRecDepth 65536 in
theorem w_c1 : (Jvm.Cond.code ({ cls := "com/example/corvid/corvid/ByteWriter", name := "<init>", desc := "()V" } : Jvm.MethodName) prog_2_method_1_code (1 : Nat) (Option.none : Option Jvm.ClassFile.FieldType)).before args0 about1 = true := code_word (m := ⟨2, 0⟩) (meth := k2m0) (c := k2c0) (by decide +kernel) rfl rfl rfl (by decide +kernel)
set_option maxRecDepth 65536 in
theorem w_c2 : (Jvm.Cond.code ({ cls := "java/lang/Object", name := "<init>", desc := "()V" } : Jvm.MethodName) object_method_1_code (1 : Nat) (Option.none : Option Jvm.ClassFile.FieldType)).before args0 about1 = true := code_word (m := ⟨0, 0⟩) (meth := k0m0) (c := k0c0) (by decide +kernel) rfl rfl rfl (by decide +kernel)
set_option maxRecDepth 65536 in
theorem w_c3 : (Jvm.Cond.code ({ cls := "com/example/corvid/corvid/ByteWriter", name := "writeInt", desc := "(I)V" } : Jvm.MethodName) prog_2_method_6_code (2 : Nat) (Option.none : Option Jvm.ClassFile.FieldType)).before args0 about1 = true := code_word (m := ⟨2, 3⟩) (meth := k2m3) (c := k2c3) (by decide +kernel) rfl rfl rfl (by decide +kernel)
set_option maxRecDepth 65536 in
theorem w_c4 : (Jvm.Cond.code ({ cls := "com/example/corvid/corvid/ByteWriter", name := "reserve", desc := "(I)V" } : Jvm.MethodName) prog_2_method_13_code (3 : Nat) (Option.none : Option Jvm.ClassFile.FieldType)).before args0 about1 = true := code_word (m := ⟨2, 5⟩) (meth := k2m5) (c := k2c5) (by decide +kernel) rfl rfl rfl (by decide +kernel)
set_option maxRecDepth 65536 in
theorem w_c5 : (Jvm.Cond.code ({ cls := "java/lang/Math", name := "addExact", desc := "(II)I" } : Jvm.MethodName) jdk_29_method_24_code (3 : Nat) (Option.some Jvm.ClassFile.FieldType.int)).before args0 about1 = true := code_word (m := ⟨3, 1⟩) (meth := k3m1) (c := k3c1) (by decide +kernel) rfl rfl rfl (by decide +kernel)
set_option maxRecDepth 65536 in
theorem w_c6 : (Jvm.Cond.code ({ cls := "com/example/corvid/corvid/ByteWriter", name := "toByteArray", desc := "()[B" } : Jvm.MethodName) prog_2_method_12_code (1 : Nat) (Option.some (Jvm.ClassFile.FieldType.array Jvm.ClassFile.FieldType.byte))).before args0 about1 = true := code_word (m := ⟨2, 4⟩) (meth := k2m4) (c := k2c4) (by decide +kernel) rfl rfl rfl (by decide +kernel)
set_option maxRecDepth 65536 in
theorem w_c7 : (Jvm.Cond.code ({ cls := "java/util/Arrays", name := "copyOf", desc := "([BI)[B" } : Jvm.MethodName) jdk_65_method_121_code (3 : Nat) (Option.some (Jvm.ClassFile.FieldType.array Jvm.ClassFile.FieldType.byte))).before args0 about1 = true := code_word (m := ⟨4, 1⟩) (meth := k4m1) (c := k4c1) (by decide +kernel) rfl rfl rfl (by decide +kernel)
set_option maxRecDepth 65536 in
theorem w_c8 : (Jvm.Cond.code ({ cls := "java/lang/Math", name := "min", desc := "(II)I" } : Jvm.MethodName) jdk_29_method_69_code (2 : Nat) (Option.some Jvm.ClassFile.FieldType.int)).before args0 about1 = true := code_word (m := ⟨3, 2⟩) (meth := k3m2) (c := k3c2) (by decide +kernel) rfl rfl rfl (by decide +kernel)
set_option maxRecDepth 65536 in
theorem w_c9 : (Jvm.Cond.code ({ cls := "com/example/corvid/corvid/ByteWriterToByteArrayPinLaw", name := "same", desc := "([B[BI)Z" } : Jvm.MethodName) method_3_code (3 : Nat) (Option.some Jvm.ClassFile.FieldType.boolean)).before args0 about1 = true := code_word (m := ⟨1, 2⟩) (meth := k1m2) (c := k1c2) (by decide +kernel) rfl rfl rfl (by decide +kernel)
set_option maxRecDepth 65536 in
theorem w_c10 : (Jvm.Cond.code ({ cls := "com/example/corvid/corvid/ByteWriterToByteArrayPinLaw", name := "at", desc := "([B[BII)Z" } : Jvm.MethodName) method_4_code (4 : Nat) (Option.some Jvm.ClassFile.FieldType.boolean)).before args0 about1 = true := code_word (m := ⟨1, 3⟩) (meth := k1m3) (c := k1c3) (by decide +kernel) rfl rfl rfl (by decide +kernel)
set_option maxRecDepth 65536 in
theorem w_c11 : (Jvm.Cond.code ({ cls := "com/example/corvid/corvid/ByteWriter", name := "writeShort", desc := "(S)V" } : Jvm.MethodName) prog_2_method_5_code (2 : Nat) (Option.none : Option Jvm.ClassFile.FieldType)).before args0 about1 = true := code_word (m := ⟨2, 2⟩) (meth := k2m2) (c := k2c2) (by decide +kernel) rfl rfl rfl (by decide +kernel)
set_option maxRecDepth 65536 in
theorem w_c12 : (Jvm.Cond.code ({ cls := "com/example/corvid/corvid/ByteWriter", name := "writeByte", desc := "(I)V" } : Jvm.MethodName) prog_2_method_3_code (2 : Nat) (Option.none : Option Jvm.ClassFile.FieldType)).before args0 about1 = true := code_word (m := ⟨2, 1⟩) (meth := k2m1) (c := k2c1) (by decide +kernel) rfl rfl rfl (by decide +kernel)
def codes1 : List Jvm.Cond := [Jvm.Cond.code x code maxLocals ret, Jvm.Cond.code ({ cls := "com/example/corvid/corvid/ByteWriter", name := "<init>", desc := "()V" } : Jvm.MethodName) prog_2_method_1_code (1 : Nat) (Option.none : Option Jvm.ClassFile.FieldType), Jvm.Cond.code ({ cls := "java/lang/Object", name := "<init>", desc := "()V" } : Jvm.MethodName) object_method_1_code (1 : Nat) (Option.none : Option Jvm.ClassFile.FieldType), Jvm.Cond.code ({ cls := "com/example/corvid/corvid/ByteWriter", name := "writeInt", desc := "(I)V" } : Jvm.MethodName) prog_2_method_6_code (2 : Nat) (Option.none : Option Jvm.ClassFile.FieldType), Jvm.Cond.code ({ cls := "com/example/corvid/corvid/ByteWriter", name := "reserve", desc := "(I)V" } : Jvm.MethodName) prog_2_method_13_code (3 : Nat) (Option.none : Option Jvm.ClassFile.FieldType), Jvm.Cond.code ({ cls := "java/lang/Math", name := "addExact", desc := "(II)I" } : Jvm.MethodName) jdk_29_method_24_code (3 : Nat) (Option.some Jvm.ClassFile.FieldType.int), Jvm.Cond.code ({ cls := "com/example/corvid/corvid/ByteWriter", name := "toByteArray", desc := "()[B" } : Jvm.MethodName) prog_2_method_12_code (1 : Nat) (Option.some (Jvm.ClassFile.FieldType.array Jvm.ClassFile.FieldType.byte)), Jvm.Cond.code ({ cls := "java/util/Arrays", name := "copyOf", desc := "([BI)[B" } : Jvm.MethodName) jdk_65_method_121_code (3 : Nat) (Option.some (Jvm.ClassFile.FieldType.array Jvm.ClassFile.FieldType.byte)), Jvm.Cond.code ({ cls := "java/lang/Math", name := "min", desc := "(II)I" } : Jvm.MethodName) jdk_29_method_69_code (2 : Nat) (Option.some Jvm.ClassFile.FieldType.int), Jvm.Cond.code ({ cls := "com/example/corvid/corvid/ByteWriterToByteArrayPinLaw", name := "same", desc := "([B[BI)Z" } : Jvm.MethodName) method_3_code (3 : Nat) (Option.some Jvm.ClassFile.FieldType.boolean), Jvm.Cond.code ({ cls := "com/example/corvid/corvid/ByteWriterToByteArrayPinLaw", name := "at", desc := "([B[BII)Z" } : Jvm.MethodName) method_4_code (4 : Nat) (Option.some Jvm.ClassFile.FieldType.boolean), Jvm.Cond.code ({ cls := "com/example/corvid/corvid/ByteWriter", name := "writeShort", desc := "(S)V" } : Jvm.MethodName) prog_2_method_5_code (2 : Nat) (Option.none : Option Jvm.ClassFile.FieldType), Jvm.Cond.code ({ cls := "com/example/corvid/corvid/ByteWriter", name := "writeByte", desc := "(I)V" } : Jvm.MethodName) prog_2_method_3_code (2 : Nat) (Option.none : Option Jvm.ClassFile.FieldType)]
set_option maxRecDepth 65536 in
theorem codes_eq : words1.filter isCode = codes1 := rfl
theorem w_codes : ∀ c ∈ words1.filter isCode, c.before args0 about1 = true := by
  rw [codes_eq]
  intro c hc
  simp only [codes1, List.mem_cons, List.not_mem_nil, or_false] at hc
  rcases hc with rfl | rfl | rfl | rfl | rfl | rfl | rfl | rfl | rfl | rfl | rfl | rfl | rfl
  · exact w_c0
  · exact w_c1
  · exact w_c2
  · exact w_c3
  · exact w_c4
  · exact w_c5
  · exact w_c6
  · exact w_c7
  · exact w_c8
  · exact w_c9
  · exact w_c10
  · exact w_c11
  · exact w_c12
set_option maxRecDepth 65536 in
theorem w_t1 : (words1.take 24).all (fun c => isCode c || c.before args0 about1) = true := by decide +kernel
set_option maxRecDepth 65536 in
theorem w_t2 : ((words1.drop 24).take 24).all (fun c => isCode c || c.before args0 about1) = true := by decide +kernel
set_option maxRecDepth 65536 in
theorem w_t3 : ((words1.drop 24).drop 24).all (fun c => isCode c || c.before args0 about1) = true := by decide +kernel
theorem w_tables : (allAtoms (Jvm.Cond.code x code maxLocals ret :: tables_1)).before args0 about1 = true := by
  rw [allAtoms_all]
  show words1.all (fun c => c.before args0 about1) = true
  refine all_split ?_ w_codes
  rw [← List.take_append_drop 24 words1, List.all_append, w_t1, ← List.take_append_drop 24 (words1.drop 24), List.all_append, w_t2, w_t3]
  rfl
set_option maxRecDepth 65536 in
theorem w_case : (Jvm.Cond.and given_1 narrow_1).before args0 about1 = true := by decide +kernel
theorem w_applies : (headSpec (Jvm.Cond.code x code maxLocals ret :: tables_1) room_1).applies x e0.platform about1 = true :=
  (Spec.applies_iff w_frames).mpr ⟨w_running, w_runnable, w_alone, w_named, w_hears, w_ripe, w_room, w_tables⟩
theorem atStart : AtStart classFile x code maxLocals ret World_1 tables_1 room_1 Calls_1 rest_1 Pre_1 launch0 p0 e0 about1 theMethod args0 below0 :=
  ⟨lists_1, trivial, launch0.admits_env _ _ _, launch0.least_env, fairChoices_fair.cas, fairChoices_fair.clock, w_frames, w_args, w_heap, w_applies, trivial, trivial, w_case⟩
end start1
theorem witness_1 : WitnessClaimed_1 := ⟨start1.p0, start1.e0, start1.about1, start1.theMethod, start1.args0, start1.below0, start1.atStart⟩
end Jvm.Pilot.@@N@@
