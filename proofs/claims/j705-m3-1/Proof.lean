import JvmDerived
import JvmDerived.Pilot.@@N@@Statement
import JvmDerived.Pilot.@@N@@Code
set_option linter.unusedVariables false
set_option linter.unusedSimpArgs false
namespace Jvm.RoadKit
open Sem ClassFile Op Lib Jvm.Stand Jvm.Free Jvm.LawKit
section New
variable {p : Program} {l : Launch} {e : Env} {R : Room} {s : State} {m : MethodId} {args : Array Value} {below : List Frame} {meth : Method} {c : Code} {T : State} {locs : List Loc} {cells slots : Nat}
theorem retI (X : Stand p l e R s m args below meth c T locs cells slots) (hx : p.tables.exec = Jvm.exec) {pc : Nat} {Ls : Array Slot} {z : Int32} {rest : List Value} (hret : meth.sig.returnType = some .int) (hd : decode c.code pc = .ok (.ireturn, 1)) {fs : List Frame}
    (hl : ∀ (f : JFrame) (acts : List Action), f.method = m → f.locked = none → f.entered = [] → (doReturn e (T.setTop f) acts (some (.int z))).1 = T.setFrames fs) : Steps p.tables e below (T.setTop (mkF m pc Ls (.int z :: rest))) (T.setFrames fs) := by
  have hm' : T.vm.method? m = some meth := X.method'
  have hn : narrow .int (.int z) = .int z := rfl
  show Steps p.tables e below (T.setTop { method := m, pc := pc, locals := Ls, stack := _ :: rest, locked := none }) _
  jvm_step X.here [X.here.top, hx, hd, hm', hret, hn]
  first | (intro acts; rw [hl _ acts rfl rfl rfl]) | rw [hl _ _ rfl rfl rfl]
  exact Steps.refl _
end New
end Jvm.RoadKit
namespace Jvm.Pilot.@@N@@
open Jvm Jvm.ClassFile Sem Op Lib Jvm.Free Jvm.Stand Jvm.LawKit Jvm.RoadKit Bundle Jvm.Pilot.@@N@@.Jvm.D
section OwnArrays
variable {Z : State} {h h' : Heap} {a b : Addr} {ty : FieldType} {n j : Int32} {F : Nat → Int32} {G : Nat → Int64} {sl : Nat} {v : Value} {ws : List Addr} {k : ClassId} {x : Int32} {y : Int64}
/-- an array of ints (chars, bytes, booleans ..): its length and its components -/
def own_AI (Z : State) (h : Heap) (a : Addr) (ty : FieldType) (n : Int32) (F : Nat → Int32) : Prop := ∃ c : Cell, Arr Z h a c ty ∧ c.slots.size = n.toNatClampNeg ∧ ¬ n < 0 ∧ ∀ i, i < c.slots.size → c.slots[i]? = some (.int (F i)) ∧ fits ty (.int (F i)) = true
/-- an array of longs -/
def own_AJ (Z : State) (h : Heap) (a : Addr) (ty : FieldType) (n : Int32) (F : Nat → Int64) : Prop := ∃ c : Cell, Arr Z h a c ty ∧ c.slots.size = n.toNatClampNeg ∧ ¬ n < 0 ∧ ∀ i, i < c.slots.size → c.slots[i]? = some (.long (F i))
/-- an array of which the length alone is told -/
def own_AL (Z : State) (h : Heap) (a : Addr) (ty : FieldType) (n : Int32) : Prop := ∃ c : Cell, Arr Z h a c ty ∧ c.slots.size = n.toNatClampNeg ∧ ¬ n < 0 ∧ True
def own_upd {α : Type} (F : Nat → α) (i : Nat) (v : α) : Nat → α := fun q => if q = i then v else F q
theorem own_upd_at {α : Type} (F : Nat → α) (i : Nat) (v : α) (q : Nat) : own_upd F i v q = if q = i then v else F q := rfl
theorem own_lt {c : Cell} (q : ¬ (j < 0 ∨ c.slots.size ≤ j.toNatClampNeg)) : j.toNatClampNeg < c.slots.size := Nat.lt_of_not_le fun z => q (Or.inr z)
theorem own_AI.lt (H : own_AI Z h a ty n F) : a < h.size := by obtain ⟨c, A, -⟩ := H; exact A.lt
theorem own_AI.ext (H : own_AI Z h a ty n F) (E : Ext h h') : own_AI Z h' a ty n F := by obtain ⟨c, A, r⟩ := H; exact ⟨c, A.ext E, r⟩
theorem own_AI.other (H : own_AI Z h b ty n F) (W : Wr h h' a sl v) (q : b ≠ a) : own_AI Z h' b ty n F := by obtain ⟨c, A, r⟩ := H; exact ⟨c, A.other W q, r⟩
theorem own_AI.keep (H : own_AI Z h a ty n F) (K : Keep h h' ws) (q : a ∉ ws) : own_AI Z h' a ty n F := by obtain ⟨c, A, r⟩ := H; exact ⟨c, ⟨K.2.1 a c A.1 q, A.2⟩, r⟩
theorem own_AI.new (A : Arr Z h a (newA k ty n) ty) (q : ¬ n < 0) (hd : defaultValue ty = .int 0) : own_AI Z h a ty n (fun _ => 0) :=
  ⟨_, A, sz_new _ _ _, q, fun i hi => by
    rw [sz_new] at hi
    refine ⟨by simp [newA, hi, hd], ?_⟩
    rw [← hd]; cases ty <;> rfl⟩
theorem own_AI.set (H : own_AI Z h a ty n F) (hv : fits ty (.int x) = true) (W : Wr h h' a j.toNatClampNeg (.int x)) : own_AI Z h' a ty n (own_upd F j.toNatClampNeg x) := by
  obtain ⟨c, A, S, q, H⟩ := H
  refine ⟨_, A.same W, by simpa [Cell.setSlot] using S, q, fun i hi => ?_⟩
  have hi' : i < c.slots.size := by simpa [Cell.setSlot] using hi
  by_cases u : i = j.toNatClampNeg
  · rw [own_upd_at, if_pos u]; subst u; exact ⟨by simp [Cell.setSlot, hi'], hv⟩
  · rw [own_upd_at, if_neg u]
    refine ⟨?_, (H i hi').2⟩
    have := (H i hi').1
    simp only [Cell.setSlot] at this ⊢
    rw [Array.getElem?_setIfInBounds_ne (Ne.symm u)]; exact this
theorem own_AJ.lt (H : own_AJ Z h a ty n G) : a < h.size := by obtain ⟨c, A, -⟩ := H; exact A.lt
theorem own_AJ.ext (H : own_AJ Z h a ty n G) (E : Ext h h') : own_AJ Z h' a ty n G := by obtain ⟨c, A, r⟩ := H; exact ⟨c, A.ext E, r⟩
theorem own_AJ.other (H : own_AJ Z h b ty n G) (W : Wr h h' a sl v) (q : b ≠ a) : own_AJ Z h' b ty n G := by obtain ⟨c, A, r⟩ := H; exact ⟨c, A.other W q, r⟩
theorem own_AJ.keep (H : own_AJ Z h a ty n G) (K : Keep h h' ws) (q : a ∉ ws) : own_AJ Z h' a ty n G := by obtain ⟨c, A, r⟩ := H; exact ⟨c, ⟨K.2.1 a c A.1 q, A.2⟩, r⟩
theorem own_AJ.new (A : Arr Z h a (newA k .long n) .long) (q : ¬ n < 0) : own_AJ Z h a .long n (fun _ => 0) :=
  ⟨_, A, sz_new _ _ _, q, fun i hi => by rw [sz_new] at hi; simp [newA, hi, defaultValue]⟩
theorem own_AJ.set (H : own_AJ Z h a ty n G) (W : Wr h h' a j.toNatClampNeg (.long y)) : own_AJ Z h' a ty n (own_upd G j.toNatClampNeg y) := by
  obtain ⟨c, A, S, q, H⟩ := H
  refine ⟨_, A.same W, by simpa [Cell.setSlot] using S, q, fun i hi => ?_⟩
  have hi' : i < c.slots.size := by simpa [Cell.setSlot] using hi
  by_cases u : i = j.toNatClampNeg
  · rw [own_upd_at, if_pos u]; subst u; simp [Cell.setSlot, hi']
  · rw [own_upd_at, if_neg u]
    have := H i hi'
    simp only [Cell.setSlot] at this ⊢
    rw [Array.getElem?_setIfInBounds_ne (Ne.symm u)]; exact this
theorem own_AL.lt (H : own_AL Z h a ty n) : a < h.size := by obtain ⟨c, A, -⟩ := H; exact A.lt
theorem own_AL.ext (H : own_AL Z h a ty n) (E : Ext h h') : own_AL Z h' a ty n := by obtain ⟨c, A, r⟩ := H; exact ⟨c, A.ext E, r⟩
theorem own_AL.other (H : own_AL Z h b ty n) (W : Wr h h' a sl v) (q : b ≠ a) : own_AL Z h' b ty n := by obtain ⟨c, A, r⟩ := H; exact ⟨c, A.other W q, r⟩
theorem own_AL.keep (H : own_AL Z h a ty n) (K : Keep h h' ws) (q : a ∉ ws) : own_AL Z h' a ty n := by obtain ⟨c, A, r⟩ := H; exact ⟨c, ⟨K.2.1 a c A.1 q, A.2⟩, r⟩
theorem own_AL.new (A : Arr Z h a (newA k ty n) ty) (q : ¬ n < 0) : own_AL Z h a ty n := ⟨_, A, sz_new _ _ _, q, trivial⟩
theorem own_AL.set (H : own_AL Z h a ty n) (W : Wr h h' a sl v) : own_AL Z h' a ty n := by
  obtain ⟨c, A, S, q, -⟩ := H
  exact ⟨_, A.same W, by simpa [Cell.setSlot] using S, q, trivial⟩
/-- an array of doubles -/
def own_AD (Z : State) (h : Heap) (a : Addr) (ty : FieldType) (n : Int32) (F : Nat → UInt64) : Prop := ∃ c : Cell, Arr Z h a c ty ∧ c.slots.size = n.toNatClampNeg ∧ ¬ n < 0 ∧ ∀ i, i < c.slots.size → c.slots[i]? = some (.double (F i))
theorem own_AD.lt {G : Nat → UInt64} (H : own_AD Z h a ty n G) : a < h.size := by obtain ⟨c, A, -⟩ := H; exact A.lt
theorem own_AD.ext {G : Nat → UInt64} (H : own_AD Z h a ty n G) (E : Ext h h') : own_AD Z h' a ty n G := by obtain ⟨c, A, r⟩ := H; exact ⟨c, A.ext E, r⟩
theorem own_AD.other {G : Nat → UInt64} (H : own_AD Z h b ty n G) (W : Wr h h' a sl v) (q : b ≠ a) : own_AD Z h' b ty n G := by obtain ⟨c, A, r⟩ := H; exact ⟨c, A.other W q, r⟩
theorem own_AD.keep {G : Nat → UInt64} (H : own_AD Z h a ty n G) (K : Keep h h' ws) (q : a ∉ ws) : own_AD Z h' a ty n G := by obtain ⟨c, A, r⟩ := H; exact ⟨c, ⟨K.2.1 a c A.1 q, A.2⟩, r⟩
theorem own_AD.new (A : Arr Z h a (newA k .double n) .double) (q : ¬ n < 0) : own_AD Z h a .double n (fun _ => 0) :=
  ⟨_, A, sz_new _ _ _, q, fun i hi => by rw [sz_new] at hi; simp [newA, hi, defaultValue]⟩
theorem own_AD.set {G : Nat → UInt64} {y : UInt64} (H : own_AD Z h a ty n G) (W : Wr h h' a j.toNatClampNeg (.double y)) : own_AD Z h' a ty n (own_upd G j.toNatClampNeg y) := by
  obtain ⟨c, A, S, q, H⟩ := H
  refine ⟨_, A.same W, by simpa [Cell.setSlot] using S, q, fun i hi => ?_⟩
  have hi' : i < c.slots.size := by simpa [Cell.setSlot] using hi
  by_cases u : i = j.toNatClampNeg
  · rw [own_upd_at, if_pos u]; subst u; simp [Cell.setSlot, hi']
  · rw [own_upd_at, if_neg u]
    have := H i hi'
    simp only [Cell.setSlot] at this ⊢
    rw [Array.getElem?_setIfInBounds_ne (Ne.symm u)]; exact this
theorem own_AI.congr {F' : Nat → Int32} (H : own_AI Z h a ty n F) (q : ∀ i, i < n.toNatClampNeg → F i = F' i) : own_AI Z h a ty n F' := by
  obtain ⟨c, A, S, N, H⟩ := H
  exact ⟨c, A, S, N, fun i hi => by rw [← q i (S ▸ hi)]; exact H i hi⟩
theorem own_AJ.congr {G' : Nat → Int64} (H : own_AJ Z h a ty n G) (q : ∀ i, i < n.toNatClampNeg → G i = G' i) : own_AJ Z h a ty n G' := by
  obtain ⟨c, A, S, N, H⟩ := H
  exact ⟨c, A, S, N, fun i hi => by rw [← q i (S ▸ hi)]; exact H i hi⟩
end OwnArrays
theorem own_cp0 {p : Program} {l : Launch} {e : Env} {R : Room} {s : State} {m : MethodId} {args : Array Value} {below : List Frame} {meth : Method} {c : Code} {T : State} {locs : List Loc} {cells slots : Nat} {Z : State} {a0 : Array Value} {h : Heap} {a : Addr} {ty : FieldType} {z : Int32}
    (X : Stand p l e R s m args below meth c T locs cells slots) (hx : p.tables.exec = Jvm.exec) (hZ : Z.Warmed39 s.vm) {own : String} {index : Nat} (hown : s.vm.findClass own = some m.cls)
    (w1 : (Jvm.Cond.methodLink own index Jvm.Stand.acN).before a0 Z = true) (w2 : (Jvm.Cond.native Jvm.Stand.acN).before a0 Z = true) (w3 : (Jvm.Cond.static Jvm.Stand.acN).before a0 Z = true) (w4 : (Jvm.Cond.initialized "java/lang/System").before a0 Z = true) (eT : T.heap = h)
    (A : own_AL Z h a ty z)
    {g : JFrame} (hg : g.method = m) (hsize : g.locals.size = c.maxLocals) {rest : List Value} (hs : g.stack = .int (0 : Int32) :: .int (0 : Int32) :: .ref a :: .int (0 : Int32) :: .ref a :: rest) (hd : decode c.code g.pc = .ok (.invokestatic index, 3))
    (hf : 1 ≤ R.frames) {W : Nat} (hW : 2 * g.monitorRoom + (rest.map fun v => v.category).sum ≤ W) (hlo : W + (nativeFrameWords "java/lang/System" "arraycopy" 5 + 11) ≤ R.locals) :
    ∃ T', Stand p l e R s m args below meth c T' locs cells slots ∧ T'.heap = h ∧
      ∀ target, Steps p.tables e below (T'.setTop { g with pc := g.pc + 3, stack := rest }) target → Steps p.tables e below (T.setTop g) target := by
  obtain ⟨cs, As, Ss, Ns, -⟩ := A
  obtain ⟨os, ks, hks, sc, hsk⟩ := State.isArrayOf_alike hZ.alike As.2.1
  have e0 : (0 : Int32).toInt = 0 := by decide
  obtain ⟨vm₁, hW₁, X', st⟩ := X.arraycopyK hx hown (mvT hZ w1) (mvT hZ w2) (mvT hZ w3) (mvT hZ w4) (by rw [eT]; exact As.1) (by rw [eT]; exact As.1) os os As.2.2 As.2.2 hks hks hsk hsk
    (by cases refKind ty <;> simp) (srcPos := 0) (destPos := 0) (n := 0) (by decide) (by decide) (by decide) (by rw [e0]; omega) (by rw [e0]; omega) (fun vm₁ hw i hi => absurd hi (by simp)) hg hsize hs hd hf (by omega)
  have ec : copied cs cs 0 0 0 = cs := rfl
  have eh : ((T.setVm vm₁).setCell a (copied cs cs 0 0 0)).heap = h := by
    show T.heap.setIfInBounds a _ = h
    rw [ec, eT]
    apply Array.ext_getElem?
    intro i
    rw [Array.getElem?_setIfInBounds]
    by_cases q : a = i
    · subst q
      rw [if_pos rfl]
      have := As.1
      split
      · exact this.symm
      · rename_i hh; exact absurd (Array.getElem?_eq_some_iff.mp this).1 hh
    · rw [if_neg q]
  exact ⟨_, by simpa [Jvm.Stand.copyLocs] using X', eh, st⟩
theorem own_callSU {p : Program} {l : Launch} {e : Env} {R : Room} {s : State} {m : MethodId} {args : Array Value} {below : List Frame} {meth : Method} {c : Code} {T : State} {locs : List Loc} {cells slots : Nat}
    (X : Stand p l e R s m args below meth c T locs cells slots) (hexec : p.tables.exec = Jvm.exec) {own owner : String} {index : Nat} {x : MethodName} {bytes : ByteArray} {maxL : Nat} {ret : Option FieldType}
    (hown : s.vm.findClass own = some m.cls) (hlink : (Cond.methodLink own index x).before args s = true) (hsame : (Cond.sameMethod x.cls owner x.name x.desc).before args s = true) (hstat : (Cond.static ⟨owner, x.name, x.desc⟩).before args s = true) (hinit : (Cond.initialized owner).before args s = true)
    (hcode : (Cond.code ⟨owner, x.name, x.desc⟩ bytes maxL ret).before args s = true) (hy : owner ≠ "java/lang/invoke/MethodHandle" ∧ owner ≠ "java/lang/invoke/VarHandle")
    {W : Nat} {Pre : Pt → Array Value → Prop} {Post : Pt → Array Value → Option Value → Pt → Prop} (hK : Back l R p e below s args ⟨owner, x.name, x.desc⟩ 3 W Pre Post)
    {g : JFrame} (hg : g.method = m) (hsize : g.locals.size = c.maxLocals) {argsL rest : List Value} (hlen : ∀ sig, parseMethodDescriptor x.desc = some sig → argsL.length = sig.parameters.length)
    (hstack : g.stack = argsL.reverse ++ rest) (hW : 2 * g.monitorRoom + (rest.map fun v => v.category).sum ≤ W) (hdg : decode c.code g.pc = .ok (.invokestatic index, 3))
    (hpre : ∀ vm₁, s.WarmedH vm₁ → Pre ⟨T.setVm vm₁, locs, cells, slots⟩ argsL.toArray) :
    ∃ (v : Option Value) (vm₁ : Vm) (B : Pt), s.WarmedH vm₁ ∧ Stand p l e R s m args below meth c B.U B.locs B.cells B.slots ∧ Post ⟨T.setVm vm₁, locs, cells, slots⟩ argsL.toArray v B ∧
      ∀ target, Steps p.tables e below (B.U.setTop { g with pc := g.pc + 3, stack := v.toList ++ rest }) target → Steps p.tables e below (T.setTop g) target := by
  obtain ⟨mk, hnamed⟩ := Cond.code_named hcode
  obtain ⟨methM, cM, hmethM, -, -, -, -, -, -, hsigM⟩ := Cond.code_spec hnamed hcode
  obtain ⟨v, vm₁, B, h1, h2, h3, h4⟩ := X.staticBackUp hexec hown hlink hsame hstat hinit hnamed hmethM hsigM hy hK hg hsize (Steps.refl _) hlen hstack hW hdg hpre
  exact ⟨v, vm₁, B, h1, h2, h3, fun target h => h4.trans h⟩
theorem own_Sta_keep {Z : State} {h h' : Heap} {C n d : String} {w : Value} {ws : List Addr} (F : Sta Z h C n d w) (K : Keep h h' ws) (q : ∀ x ∈ ws, ∃ c : Cell, h[x]? = some c ∧ c.vm.isStatics = false) : Sta Z h' C n d w := by
  obtain ⟨cf, i, k, f, st, cell, h1, h2, h3, h4, h5, h6, r⟩ := F
  refine ⟨cf, i, k, f, st, cell, h1, h2, h3, h4, K.2.1 _ _ h5 fun hm => ?_, h6, r⟩
  obtain ⟨c, g1, g2⟩ := q _ hm
  cases g1.symm.trans h5
  rw [h6] at g2
  cases g2
theorem own_Exa_st {Z : State} {h : Heap} {a : Addr} {C : String} (E : Exa Z h a C) : ∃ c : Cell, h[a]? = some c ∧ c.vm.isStatics = false := by
  obtain ⟨c, _, h1, -, -, h4, -⟩ := E
  exact ⟨c, h1, h4⟩
theorem own_same {a0 : Array Value} {Z : State} {C : String} {x y z : MethodName} (hy : y.cls = z.cls) (hne : y.cls ≠ "java/lang/invoke/MethodHandle" ∧ y.cls ≠ "java/lang/invoke/VarHandle") (w1 : (Cond.declares y).before a0 Z = true) (w3 : (Cond.selects C x z).before a0 Z = true) :
    (Cond.sameMethod y.cls y.cls y.name y.desc).before a0 Z = true := by
  obtain ⟨r0, r, hn, hrm, hstR, hsigR⟩ := Cond.declares_spec w1
  obtain ⟨c2, r2, m2, q1, q2, q3, q4, kP, hkP, hkPi⟩ := Cond.selects_spec w3
  have h1 := findClass_of_methodNamed hn
  have h2 := findClass_of_methodNamed q3
  have h3 := State.methodFound?_of_named hn hne
  rw [← hy] at h2
  have e : r0.cls = m2.cls := Option.some.inj (h1.symm.trans h2)
  have hn' : Z.methodNamed? ⟨y.cls, y.name, y.desc⟩ = some r0 := hn
  simp only [Cond.before, Cond.holds, Cond.value, h1, h3, hn']
  rw [e, hkP]
  simp [hkPi]
theorem own_selp {s : State} {args : Array Value} {y z : MethodName} (hz : z.cls = y.cls) (hs : (Jvm.Cond.selects y.cls z z).before args s = true) (hpriv : s.PrivateAt y) (hinst : (Jvm.Cond.instanceMethod y).before args s = true) (hy : y.cls ≠ "java/lang/invoke/MethodHandle" ∧ y.cls ≠ "java/lang/invoke/VarHandle") : (Jvm.Cond.selects y.cls y y).before args s = true := by
  obtain ⟨c2, r2, m2, q1, q2, q3, q4, kP, hkP, hkPi⟩ := Cond.selects_spec hs
  have h1 := findClass_of_methodNamed q3
  rw [hz] at h1
  exact Jvm.Stand.selects_self_of_private h1 hkP hkPi hpriv hinst hy
theorem d5_0 : decode jdk_22_method_1_code 0 = .ok (.aload_n 0, 1) := by decide +kernel
theorem d5_1 : decode jdk_22_method_1_code 1 = .ok (.invokespecial 1, 3) := by decide +kernel
theorem d5_4 : decode jdk_22_method_1_code 4 = .ok (.return_, 1) := by decide +kernel
theorem pn_5 : plainName "java/util/AbstractCollection" = true := by first | (simp [plainName, overriddenIn]; done) | decide +kernel
theorem ef_5 (m : MethodId) (x0 : Addr) : entryFrame m #[(.ref x0)] 1 = mkF m 0 #[.val (.ref x0)] [] := by first | (simp [entryFrame, mkF, argsToLocals, Value.category]; done) | rfl
def Q5 (Z : State) (o0 : Addr) (h0 : Heap) (n0 : Nat) (v : Option Value) (h : Heap) (L : List Loc) : Prop := v = none ∧ Fr n0 L ∧ h = h0
set_option maxRecDepth 65536 in
set_option maxHeartbeats 40000000 in
theorem rm5 (l : Launch) (Z : State) (a0 : Array Value) (hw : ∀ d ∈ tables_1, d.before a0 Z = true) (ws : List Jvm.Cond) (o0 : Addr) (h0 : Heap) (n0 : Nat) (Z0 : n0 ≤ h0.size) :
    MetFree l (⟨"java/util/AbstractCollection", "<init>", "()V"⟩ : MethodName) (head1 (Jvm.Cond.code (⟨"java/util/AbstractCollection", "<init>", "()V"⟩ : MethodName) jdk_22_method_1_code 1 none :: ws) ({ frames := 1, cells := 0, slots := 0, locals := 12 } : Room)) (fun a U => a = #[(.ref o0)] ∧ Z.Warmed39 U.vm ∧ U.heap = h0) (fun _ _ _ _ _ => True) (fun _ U o U' => ∃ v L, o = .returned v ∧ Q5 Z o0 h0 n0 v U'.heap L ∧ FrameEnd U o U' L ({ frames := 1, cells := 0, slots := 0, locals := 12 } : Room).cells ({ frames := 1, cells := 0, slots := 0, locals := 12 } : Room).slots) := by
  refine MetFree.of_bodySF (plainFor_of_name pn_5) hisR ?_
  intro p e s m args below meth c s₁ Bd hml0 hP hK
  obtain ⟨rfl, hZ, hh⟩ := hP
  have hx := Bd.exec
  have hby := Bd.bytes
  have hml : c.maxLocals = 1 := hml0
  have hown : s.vm.findClass "java/util/AbstractCollection" = some m.cls := findClass_of_methodNamed Bd.named
  have hnm := (name_of_methodNamed Bd.named Bd.method).1
  have X0 : Stand p l e ({ frames := 1, cells := 0, slots := 0, locals := 12 } : Room) s m #[(.ref o0)] below meth c s₁ [] 0 0 := Stand.of_body Bd
  have e0 : s₁.heap = h0 := by rw [← hh, Bd.state]; rfl
  have N0 := Fr.nil n0
  have pre0 : ∀ t, Steps p.tables e below (s₁.setTop (mkF m 0 #[.val (.ref o0)] [])) t → Steps p.tables e below (s₁.setTop (entryFrame m #[(.ref o0)] 1)) t := fun t k => castTop (ef_5 m o0) k
  obtain ⟨T1, X1, e1, st1⟩ := initO X0 hx hZ hown (hw _ (List.mem_of_getElem? (i := 27) rfl)) (hw _ (List.mem_of_getElem? (i := 7) rfl)) (hw _ (List.mem_of_getElem? (i := 8) rfl)) e0 (g := (mkF m 1 #[.val (.ref o0)] [(.ref o0)])) rfl (by rw [hml]; rfl) rfl (hb hby d5_1) (by decide) (W := 0) (by show 2 * 0 + _ ≤ _; exact Nat.le_of_eq rfl) (by decide)
  obtain ⟨fs, hr, hrun, hended, hW, hsame⟩ := X1.leave (v := none) (fun _ => rfl)
  refine ⟨_, _, pre0 _ ?_, hrun, hended, _, _, rfl, ?_, ⟨_, rfl⟩, hW, hsame.mono (by decide) (by decide)⟩
  · show Steps p.tables e below (s₁.setTop (mkF m 0 #[.val (.ref o0)] [])) _
    refine XS.aloadN X0.here hx rfl (hb hby d5_0) rfl rfl ?_
    show Steps p.tables e below (s₁.setTop (mkF m 1 #[.val (.ref o0)] [(.ref o0)])) _
    refine st1 _ ?_
    show Steps p.tables e below (T1.setTop (mkF m 4 #[.val (.ref o0)] [])) _
    exact X1.returnOut hx Bd.returns (hb hby d5_4) hr
  · show Q5 Z o0 h0 n0 _ T1.heap _
    rw [e1]
    exact ⟨rfl, N0, rfl⟩
theorem d4_0 : decode jdk_39_method_1_code 0 = .ok (.aload_n 0, 1) := by decide +kernel
theorem d4_1 : decode jdk_39_method_1_code 1 = .ok (.invokespecial 1, 3) := by decide +kernel
theorem d4_4 : decode jdk_39_method_1_code 4 = .ok (.aload_n 0, 1) := by decide +kernel
theorem d4_5 : decode jdk_39_method_1_code 5 = .ok (.iconst 0, 1) := by decide +kernel
theorem d4_6 : decode jdk_39_method_1_code 6 = .ok (.putfield 7, 3) := by decide +kernel
theorem d4_9 : decode jdk_39_method_1_code 9 = .ok (.return_, 1) := by decide +kernel
theorem pn_4a : plainName "java/util/AbstractList" = true := by first | (simp [plainName, overriddenIn]; done) | decide +kernel
theorem pd_4a_0 : parseMethodDescriptor "()V" = some ⟨[], none⟩ := by decide +kernel
theorem ef_4a (m : MethodId) (x0 : Addr) : entryFrame m #[(.ref x0)] 1 = mkF m 0 #[.val (.ref x0)] [] := by first | (simp [entryFrame, mkF, argsToLocals, Value.category]; done) | rfl
def Q4a (Z : State) (o0 : Addr) (mc : Int32) (h0 : Heap) (n0 : Nat) (v : Option Value) (h : Heap) (L : List Loc) : Prop := v = none ∧ Fr n0 L ∧ Keep h0 h [o0] ∧ Fld Z h o0 "java/util/AbstractList" "modCount" "I" (.int (0 : Int32)) ∧ Fld Z h o0 "java/util/ArrayList" "size" "I" (.int (0 : Int32)) ∧ Fld Z h o0 "java/util/ArrayList" "elementData" "[Ljava/lang/Object;" .null
set_option maxRecDepth 65536 in
set_option maxHeartbeats 40000000 in
theorem rm4a (l : Launch) (Z : State) (a0 : Array Value) (hw : ∀ d ∈ tables_1, d.before a0 Z = true) (ws : List Jvm.Cond) (o0 : Addr) (mc : Int32) (h0 : Heap) (n0 : Nat) (Z0 : n0 ≤ h0.size) (E_o0 : Exa Z h0 o0 "java/util/ArrayList") (F_modCount_o0 : Fld Z h0 o0 "java/util/AbstractList" "modCount" "I" (.int mc)) (F_size_o0 : Fld Z h0 o0 "java/util/ArrayList" "size" "I" (.int (0 : Int32))) (F_elementData_o0 : Fld Z h0 o0 "java/util/ArrayList" "elementData" "[Ljava/lang/Object;" .null) (g_o0 : n0 ≤ o0) :
    MetFree l (⟨"java/util/AbstractList", "<init>", "()V"⟩ : MethodName) (head1 (Jvm.Cond.code (⟨"java/util/AbstractList", "<init>", "()V"⟩ : MethodName) jdk_39_method_1_code 1 none :: ws) ({ frames := 2, cells := 0, slots := 0, locals := 24 } : Room)) (fun a U => a = #[(.ref o0)] ∧ Z.Warmed39 U.vm ∧ U.heap = h0) (fun _ _ _ _ _ => True) (fun _ U o U' => ∃ v L, o = .returned v ∧ Q4a Z o0 mc h0 n0 v U'.heap L ∧ FrameEnd U o U' L ({ frames := 2, cells := 0, slots := 0, locals := 24 } : Room).cells ({ frames := 2, cells := 0, slots := 0, locals := 24 } : Room).slots) := by
  refine MetFree.of_bodySF (plainFor_of_name pn_4a) hisR ?_
  intro p e s m args below meth c s₁ Bd hml0 hP hK
  obtain ⟨rfl, hZ, hh⟩ := hP
  have hx := Bd.exec
  have hby := Bd.bytes
  have hml : c.maxLocals = 1 := hml0
  have hown : s.vm.findClass "java/util/AbstractList" = some m.cls := findClass_of_methodNamed Bd.named
  have hnm := (name_of_methodNamed Bd.named Bd.method).1
  have X0 : Stand p l e ({ frames := 2, cells := 0, slots := 0, locals := 24 } : Room) s m #[(.ref o0)] below meth c s₁ [] 0 0 := Stand.of_body Bd
  have e0 : s₁.heap = h0 := by rw [← hh, Bd.state]; rfl
  have N0 := Fr.nil n0
  have pre0 : ∀ t, Steps p.tables e below (s₁.setTop (mkF m 0 #[.val (.ref o0)] [])) t → Steps p.tables e below (s₁.setTop (entryFrame m #[(.ref o0)] 1)) t := fun t k => castTop (ef_4a m o0) k
  obtain ⟨_, _, ⟨T1, L1, k1, n1⟩, -, X1, ⟨Lc1, hQ1, l1, y1, z1⟩, st1⟩ := X0.specialBack hx (y := (⟨"java/util/AbstractCollection", "<init>", "()V"⟩ : MethodName)) rfl hown (mvT hZ (hw _ (List.mem_of_getElem? (i := 21) rfl))) (mvT hZ (hw _ (List.mem_of_getElem? (i := 22) rfl))) (mvT hZ (hw _ (List.mem_of_getElem? (i := 26) rfl))) (by decide) (backOf (W := 0) (rm5 l Z a0 hw [] o0 h0 n0 Z0 ) hZ (hw _ (List.mem_of_getElem? (i := 26) rfl)) (hw _ (List.mem_of_getElem? (i := 25) rfl)) (by decide) (by decide)) (g := (mkF m 1 #[.val (.ref o0)] [(.ref o0)])) rfl (by rw [hml]; rfl) (Steps.refl _) (a := o0) (argsL := []) (rest := []) (lenOf pd_4a_0 rfl) rfl (by show 2 * 0 + _ ≤ _; exact Nat.le_of_eq rfl) (hb hby d4_1) (fun _ _ => ⟨rfl, e0, (by decide : 0 + 0 ≤ _), (by decide : 0 + 0 ≤ _)⟩)
  dsimp only [Pt.U, Pt.locs, Pt.cells, Pt.slots] at X1 l1 y1 z1 st1 hQ1
  subst l1 y1 z1
  obtain ⟨rfl, N1q, e1q⟩ := hQ1
  have N1 := Fr.app N0 N1q
  obtain ⟨T2, h2, X2, e2, W2, st2⟩ := putF X1 hx hZ hown (host := "") (Or.inl (hw _ (List.mem_of_getElem? (i := 28) rfl))) Via.refl e1q F_modCount_o0 E_o0 (Or.inl (hw _ (List.mem_of_getElem? (i := 29) rfl))) (hw _ (List.mem_of_getElem? (i := 10) rfl)) (ty := .int) (by decide) rfl rfl (g := (mkF m 6 #[.val (.ref o0)] [(.int (0 : Int32)), (.ref o0)])) rfl rfl (hb hby d4_6)
  have Fw2 := F_modCount_o0.same W2
  have K3 : Keep h0 h2 [o0] := (Keep.refl h0 [o0]).wr W2 (Or.inl (List.mem_of_getElem? (i := 0) rfl))
  have Z4 : n0 ≤ h2.size := Nat.le_trans Z0 K3.1
  have N2 := Fr.snoc X2 N1 g_o0
  obtain ⟨LS2, X2, N2⟩ : ∃ L, Stand p l e ({ frames := 2, cells := 0, slots := 0, locals := 24 } : Room) s m #[(.ref o0)] below meth c T2 L 0 0 ∧ Fr n0 L := ⟨_, X2, N2⟩
  obtain ⟨fs, hr, hrun, hended, hW, hsame⟩ := X2.leave (v := none) (fun _ => rfl)
  have c5 := (F_size_o0.other W2 (Or.inr (slot_ne (Or.inl (hw _ (List.mem_of_getElem? (i := 64) rfl))) (Or.inl (hw _ (List.mem_of_getElem? (i := 29) rfl))) (by decide) (t := .int) (t' := .int) (by decide) (by decide))))
  have c6 := (F_elementData_o0.other W2 (Or.inr (slot_ne (Or.inl (hw _ (List.mem_of_getElem? (i := 32) rfl))) (Or.inl (hw _ (List.mem_of_getElem? (i := 29) rfl))) (by decide) (t := (.array (.object "java/lang/Object"))) (t' := .int) (by decide) (by decide))))
  refine ⟨_, _, pre0 _ ?_, hrun, hended, _, _, rfl, ?_, ⟨_, rfl⟩, hW, hsame.mono (by decide) (by decide)⟩
  · show Steps p.tables e below (s₁.setTop (mkF m 0 #[.val (.ref o0)] [])) _
    refine XS.aloadN X0.here hx rfl (hb hby d4_0) rfl rfl ?_
    show Steps p.tables e below (s₁.setTop (mkF m 1 #[.val (.ref o0)] [(.ref o0)])) _
    refine st1.trans ?_
    show Steps p.tables e below (T1.setTop (mkF m 4 #[.val (.ref o0)] [])) _
    refine XS.aloadN X1.here hx rfl (hb hby d4_4) rfl rfl ?_
    show Steps p.tables e below (T1.setTop (mkF m 5 #[.val (.ref o0)] [(.ref o0)])) _
    refine XS.iconst X1.here hx rfl (hb hby d4_5) ?_
    show Steps p.tables e below (T1.setTop (mkF m 6 #[.val (.ref o0)] [(.int (0 : Int32)), (.ref o0)])) _
    refine st2 _ ?_
    show Steps p.tables e below (T2.setTop (mkF m 9 #[.val (.ref o0)] [])) _
    exact X2.returnOut hx Bd.returns (hb hby d4_9) hr
  · show Q4a Z o0 mc h0 n0 _ T2.heap _
    rw [e2]
    exact ⟨rfl, N2, K3, Fw2, c5, c6⟩
theorem pn_4s : plainName "java/util/AbstractList" = true := by first | (simp [plainName, overriddenIn]; done) | decide +kernel
theorem pd_4s_0 : parseMethodDescriptor "()V" = some ⟨[], none⟩ := by decide +kernel
theorem ef_4s (m : MethodId) (x0 : Addr) : entryFrame m #[(.ref x0)] 1 = mkF m 0 #[.val (.ref x0)] [] := by first | (simp [entryFrame, mkF, argsToLocals, Value.category]; done) | rfl
def Q4s (Z : State) (o0 : Addr) (mc : Int32) (h0 : Heap) (n0 : Nat) (v : Option Value) (h : Heap) (L : List Loc) : Prop := v = none ∧ Fr n0 L ∧ Keep h0 h [o0] ∧ Fld Z h o0 "java/util/AbstractList" "modCount" "I" (.int (0 : Int32)) ∧ Fld Z h o0 "java/util/ArrayList$SubList" "size" "I" (.int (0 : Int32)) ∧ Fld Z h o0 "java/util/ArrayList$SubList" "offset" "I" (.int (0 : Int32)) ∧ Fld Z h o0 "java/util/ArrayList$SubList" "parent" "Ljava/util/ArrayList$SubList;" .null ∧ Fld Z h o0 "java/util/ArrayList$SubList" "root" "Ljava/util/ArrayList;" .null
set_option maxRecDepth 65536 in
set_option maxHeartbeats 40000000 in
theorem rm4s (l : Launch) (Z : State) (a0 : Array Value) (hw : ∀ d ∈ tables_1, d.before a0 Z = true) (ws : List Jvm.Cond) (o0 : Addr) (mc : Int32) (h0 : Heap) (n0 : Nat) (Z0 : n0 ≤ h0.size) (E_o0 : Exa Z h0 o0 "java/util/ArrayList$SubList") (F_modCount_o0 : Fld Z h0 o0 "java/util/AbstractList" "modCount" "I" (.int mc)) (F_size_o0 : Fld Z h0 o0 "java/util/ArrayList$SubList" "size" "I" (.int (0 : Int32))) (F_offset_o0 : Fld Z h0 o0 "java/util/ArrayList$SubList" "offset" "I" (.int (0 : Int32))) (F_parent_o0 : Fld Z h0 o0 "java/util/ArrayList$SubList" "parent" "Ljava/util/ArrayList$SubList;" .null) (F_root_o0 : Fld Z h0 o0 "java/util/ArrayList$SubList" "root" "Ljava/util/ArrayList;" .null) (g_o0 : n0 ≤ o0) :
    MetFree l (⟨"java/util/AbstractList", "<init>", "()V"⟩ : MethodName) (head1 (Jvm.Cond.code (⟨"java/util/AbstractList", "<init>", "()V"⟩ : MethodName) jdk_39_method_1_code 1 none :: ws) ({ frames := 2, cells := 0, slots := 0, locals := 24 } : Room)) (fun a U => a = #[(.ref o0)] ∧ Z.Warmed39 U.vm ∧ U.heap = h0) (fun _ _ _ _ _ => True) (fun _ U o U' => ∃ v L, o = .returned v ∧ Q4s Z o0 mc h0 n0 v U'.heap L ∧ FrameEnd U o U' L ({ frames := 2, cells := 0, slots := 0, locals := 24 } : Room).cells ({ frames := 2, cells := 0, slots := 0, locals := 24 } : Room).slots) := by
  refine MetFree.of_bodySF (plainFor_of_name pn_4s) hisR ?_
  intro p e s m args below meth c s₁ Bd hml0 hP hK
  obtain ⟨rfl, hZ, hh⟩ := hP
  have hx := Bd.exec
  have hby := Bd.bytes
  have hml : c.maxLocals = 1 := hml0
  have hown : s.vm.findClass "java/util/AbstractList" = some m.cls := findClass_of_methodNamed Bd.named
  have hnm := (name_of_methodNamed Bd.named Bd.method).1
  have X0 : Stand p l e ({ frames := 2, cells := 0, slots := 0, locals := 24 } : Room) s m #[(.ref o0)] below meth c s₁ [] 0 0 := Stand.of_body Bd
  have e0 : s₁.heap = h0 := by rw [← hh, Bd.state]; rfl
  have N0 := Fr.nil n0
  have pre0 : ∀ t, Steps p.tables e below (s₁.setTop (mkF m 0 #[.val (.ref o0)] [])) t → Steps p.tables e below (s₁.setTop (entryFrame m #[(.ref o0)] 1)) t := fun t k => castTop (ef_4s m o0) k
  obtain ⟨_, _, ⟨T1, L1, k1, n1⟩, -, X1, ⟨Lc1, hQ1, l1, y1, z1⟩, st1⟩ := X0.specialBack hx (y := (⟨"java/util/AbstractCollection", "<init>", "()V"⟩ : MethodName)) rfl hown (mvT hZ (hw _ (List.mem_of_getElem? (i := 21) rfl))) (mvT hZ (hw _ (List.mem_of_getElem? (i := 22) rfl))) (mvT hZ (hw _ (List.mem_of_getElem? (i := 26) rfl))) (by decide) (backOf (W := 0) (rm5 l Z a0 hw [] o0 h0 n0 Z0 ) hZ (hw _ (List.mem_of_getElem? (i := 26) rfl)) (hw _ (List.mem_of_getElem? (i := 25) rfl)) (by decide) (by decide)) (g := (mkF m 1 #[.val (.ref o0)] [(.ref o0)])) rfl (by rw [hml]; rfl) (Steps.refl _) (a := o0) (argsL := []) (rest := []) (lenOf pd_4s_0 rfl) rfl (by show 2 * 0 + _ ≤ _; exact Nat.le_of_eq rfl) (hb hby d4_1) (fun _ _ => ⟨rfl, e0, (by decide : 0 + 0 ≤ _), (by decide : 0 + 0 ≤ _)⟩)
  dsimp only [Pt.U, Pt.locs, Pt.cells, Pt.slots] at X1 l1 y1 z1 st1 hQ1
  subst l1 y1 z1
  obtain ⟨rfl, N1q, e1q⟩ := hQ1
  have N1 := Fr.app N0 N1q
  obtain ⟨T2, h2, X2, e2, W2, st2⟩ := putF X1 hx hZ hown (host := "") (Or.inl (hw _ (List.mem_of_getElem? (i := 28) rfl))) Via.refl e1q F_modCount_o0 E_o0 (Or.inl (hw _ (List.mem_of_getElem? (i := 98) rfl))) (hw _ (List.mem_of_getElem? (i := 89) rfl)) (ty := .int) (by decide) rfl rfl (g := (mkF m 6 #[.val (.ref o0)] [(.int (0 : Int32)), (.ref o0)])) rfl rfl (hb hby d4_6)
  have Fw2 := F_modCount_o0.same W2
  have K3 : Keep h0 h2 [o0] := (Keep.refl h0 [o0]).wr W2 (Or.inl (List.mem_of_getElem? (i := 0) rfl))
  have Z4 : n0 ≤ h2.size := Nat.le_trans Z0 K3.1
  have N2 := Fr.snoc X2 N1 g_o0
  obtain ⟨LS2, X2, N2⟩ : ∃ L, Stand p l e ({ frames := 2, cells := 0, slots := 0, locals := 24 } : Room) s m #[(.ref o0)] below meth c T2 L 0 0 ∧ Fr n0 L := ⟨_, X2, N2⟩
  obtain ⟨fs, hr, hrun, hended, hW, hsame⟩ := X2.leave (v := none) (fun _ => rfl)
  have c5 := (F_size_o0.other W2 (Or.inr (slot_ne (Or.inl (hw _ (List.mem_of_getElem? (i := 106) rfl))) (Or.inl (hw _ (List.mem_of_getElem? (i := 98) rfl))) (by decide) (t := .int) (t' := .int) (by decide) (by decide))))
  have c6 := (F_offset_o0.other W2 (Or.inr (slot_ne (Or.inr (hw _ (List.mem_of_getElem? (i := 104) rfl))) (Or.inl (hw _ (List.mem_of_getElem? (i := 98) rfl))) (by decide) (t := .int) (t' := .int) (by decide) (by decide))))
  have c7 := (F_parent_o0.other W2 (Or.inr (slot_ne (Or.inr (hw _ (List.mem_of_getElem? (i := 102) rfl))) (Or.inl (hw _ (List.mem_of_getElem? (i := 98) rfl))) (by decide) (t := (.object "java/util/ArrayList$SubList")) (t' := .int) (by decide) (by decide))))
  have c8 := (F_root_o0.other W2 (Or.inr (slot_ne (Or.inr (hw _ (List.mem_of_getElem? (i := 100) rfl))) (Or.inl (hw _ (List.mem_of_getElem? (i := 98) rfl))) (by decide) (t := (.object "java/util/ArrayList")) (t' := .int) (by decide) (by decide))))
  refine ⟨_, _, pre0 _ ?_, hrun, hended, _, _, rfl, ?_, ⟨_, rfl⟩, hW, hsame.mono (by decide) (by decide)⟩
  · show Steps p.tables e below (s₁.setTop (mkF m 0 #[.val (.ref o0)] [])) _
    refine XS.aloadN X0.here hx rfl (hb hby d4_0) rfl rfl ?_
    show Steps p.tables e below (s₁.setTop (mkF m 1 #[.val (.ref o0)] [(.ref o0)])) _
    refine st1.trans ?_
    show Steps p.tables e below (T1.setTop (mkF m 4 #[.val (.ref o0)] [])) _
    refine XS.aloadN X1.here hx rfl (hb hby d4_4) rfl rfl ?_
    show Steps p.tables e below (T1.setTop (mkF m 5 #[.val (.ref o0)] [(.ref o0)])) _
    refine XS.iconst X1.here hx rfl (hb hby d4_5) ?_
    show Steps p.tables e below (T1.setTop (mkF m 6 #[.val (.ref o0)] [(.int (0 : Int32)), (.ref o0)])) _
    refine st2 _ ?_
    show Steps p.tables e below (T2.setTop (mkF m 9 #[.val (.ref o0)] [])) _
    exact X2.returnOut hx Bd.returns (hb hby d4_9) hr
  · show Q4s Z o0 mc h0 n0 _ T2.heap _
    rw [e2]
    exact ⟨rfl, N2, K3, Fw2, c5, c6, c7, c8⟩
theorem d3_0 : decode jdk_38_method_2_code 0 = .ok (.aload_n 0, 1) := by decide +kernel
theorem d3_1 : decode jdk_38_method_2_code 1 = .ok (.invokespecial 1, 3) := by decide +kernel
theorem d3_4 : decode jdk_38_method_2_code 4 = .ok (.aload_n 0, 1) := by decide +kernel
theorem d3_5 : decode jdk_38_method_2_code 5 = .ok (.getstatic 39, 3) := by decide +kernel
theorem d3_8 : decode jdk_38_method_2_code 8 = .ok (.putfield 9, 3) := by decide +kernel
theorem d3_11 : decode jdk_38_method_2_code 11 = .ok (.return_, 1) := by decide +kernel
theorem pn_3 : plainName "java/util/ArrayList" = true := by first | (simp [plainName, overriddenIn]; done) | decide +kernel
theorem pd_3_0 : parseMethodDescriptor "()V" = some ⟨[], none⟩ := by decide +kernel
theorem ef_3 (m : MethodId) (x0 : Addr) : entryFrame m #[(.ref x0)] 1 = mkF m 0 #[.val (.ref x0)] [] := by first | (simp [entryFrame, mkF, argsToLocals, Value.category]; done) | rfl
def Q3 (Z : State) (o0 : Addr) (mc : Int32) (es : Addr) (h0 : Heap) (n0 : Nat) (v : Option Value) (h : Heap) (L : List Loc) : Prop := v = none ∧ Fr n0 L ∧ Keep h0 h [o0] ∧ Fld Z h o0 "java/util/AbstractList" "modCount" "I" (.int (0 : Int32)) ∧ Fld Z h o0 "java/util/ArrayList" "size" "I" (.int (0 : Int32)) ∧ Fld Z h o0 "java/util/ArrayList" "elementData" "[Ljava/lang/Object;" (.ref es)
set_option maxRecDepth 65536 in
set_option maxHeartbeats 40000000 in
theorem rm3 (l : Launch) (Z : State) (a0 : Array Value) (hw : ∀ d ∈ tables_1, d.before a0 Z = true) (ws : List Jvm.Cond) (o0 : Addr) (mc : Int32) (es : Addr) (h0 : Heap) (n0 : Nat) (Z0 : n0 ≤ h0.size) (E_o0 : Exa Z h0 o0 "java/util/ArrayList") (F_modCount_o0 : Fld Z h0 o0 "java/util/AbstractList" "modCount" "I" (.int mc)) (F_size_o0 : Fld Z h0 o0 "java/util/ArrayList" "size" "I" (.int (0 : Int32))) (F_elementData_o0 : Fld Z h0 o0 "java/util/ArrayList" "elementData" "[Ljava/lang/Object;" .null) (g_o0 : n0 ≤ o0) (S_DEFAULTCAPACITY_EMPTY_ELEMENTDATA : Sta Z h0 "java/util/ArrayList" "DEFAULTCAPACITY_EMPTY_ELEMENTDATA" "[Ljava/lang/Object;" (.ref es)) :
    MetFree l (⟨"java/util/ArrayList", "<init>", "()V"⟩ : MethodName) (head1 (Jvm.Cond.code (⟨"java/util/ArrayList", "<init>", "()V"⟩ : MethodName) jdk_38_method_2_code 1 none :: ws) ({ frames := 3, cells := 0, slots := 0, locals := 36 } : Room)) (fun a U => a = #[(.ref o0)] ∧ Z.Warmed39 U.vm ∧ U.heap = h0) (fun _ _ _ _ _ => True) (fun _ U o U' => ∃ v L, o = .returned v ∧ Q3 Z o0 mc es h0 n0 v U'.heap L ∧ FrameEnd U o U' L ({ frames := 3, cells := 0, slots := 0, locals := 36 } : Room).cells ({ frames := 3, cells := 0, slots := 0, locals := 36 } : Room).slots) := by
  refine MetFree.of_bodySF (plainFor_of_name pn_3) hisR ?_
  intro p e s m args below meth c s₁ Bd hml0 hP hK
  obtain ⟨rfl, hZ, hh⟩ := hP
  have hx := Bd.exec
  have hby := Bd.bytes
  have hml : c.maxLocals = 1 := hml0
  have hown : s.vm.findClass "java/util/ArrayList" = some m.cls := findClass_of_methodNamed Bd.named
  have hnm := (name_of_methodNamed Bd.named Bd.method).1
  have X0 : Stand p l e ({ frames := 3, cells := 0, slots := 0, locals := 36 } : Room) s m #[(.ref o0)] below meth c s₁ [] 0 0 := Stand.of_body Bd
  have e0 : s₁.heap = h0 := by rw [← hh, Bd.state]; rfl
  have N0 := Fr.nil n0
  have pre0 : ∀ t, Steps p.tables e below (s₁.setTop (mkF m 0 #[.val (.ref o0)] [])) t → Steps p.tables e below (s₁.setTop (entryFrame m #[(.ref o0)] 1)) t := fun t k => castTop (ef_3 m o0) k
  obtain ⟨_, _, ⟨T1, L1, k1, n1⟩, -, X1, ⟨Lc1, hQ1, l1, y1, z1⟩, st1⟩ := X0.specialBack hx (y := (⟨"java/util/AbstractList", "<init>", "()V"⟩ : MethodName)) rfl hown (mvT hZ (hw _ (List.mem_of_getElem? (i := 15) rfl))) (mvT hZ (hw _ (List.mem_of_getElem? (i := 16) rfl))) (mvT hZ (hw _ (List.mem_of_getElem? (i := 20) rfl))) (by decide) (backOf (W := 0) (rm4a l Z a0 hw [] o0 mc h0 n0 Z0 E_o0 F_modCount_o0 F_size_o0 F_elementData_o0 g_o0) hZ (hw _ (List.mem_of_getElem? (i := 20) rfl)) (hw _ (List.mem_of_getElem? (i := 19) rfl)) (by decide) (by decide)) (g := (mkF m 1 #[.val (.ref o0)] [(.ref o0)])) rfl (by rw [hml]; rfl) (Steps.refl _) (a := o0) (argsL := []) (rest := []) (lenOf pd_3_0 rfl) rfl (by show 2 * 0 + _ ≤ _; exact Nat.le_of_eq rfl) (hb hby d3_1) (fun _ _ => ⟨rfl, e0, (by decide : 0 + 0 ≤ _), (by decide : 0 + 0 ≤ _)⟩)
  dsimp only [Pt.U, Pt.locs, Pt.cells, Pt.slots] at X1 l1 y1 z1 st1 hQ1
  subst l1 y1 z1
  obtain ⟨rfl, N1q, K1q, G1_0, G1_1, G1_2⟩ := hQ1
  have N1 := Fr.app N0 N1q
  have S2 := own_Sta_keep S_DEFAULTCAPACITY_EMPTY_ELEMENTDATA K1q (allS (own_Exa_st E_o0) all0)
  have K3 : Keep h0 T1.heap [o0] := (Keep.refl h0 [o0]).trans K1q (allS (Or.inl (List.mem_of_getElem? (i := 0) rfl)) all0)
  have Z4 : n0 ≤ T1.heap.size := Nat.le_trans Z0 K3.1
  obtain ⟨LS1, X1, N1⟩ : ∃ L, Stand p l e ({ frames := 3, cells := 0, slots := 0, locals := 36 } : Room) s m #[(.ref o0)] below meth c T1 L 0 0 ∧ Fr n0 L := ⟨_, X1, N1⟩
  obtain ⟨T5, X5, e5, st5⟩ := getS2 X1 hx hZ hown (host := "") (Or.inl (hw _ (List.mem_of_getElem? (i := 30) rfl))) Via.refl rfl S2 (g := (mkF m 5 #[.val (.ref o0)] [(.ref o0)])) rfl (hb hby d3_5)
  obtain ⟨T6, h6, X6, e6, W6, st6⟩ := putF X5 hx hZ hown (host := "") (Or.inl (hw _ (List.mem_of_getElem? (i := 31) rfl))) Via.refl e5 G1_2 (E_o0.keep K1q) (Or.inl (hw _ (List.mem_of_getElem? (i := 32) rfl))) (hw _ (List.mem_of_getElem? (i := 10) rfl)) (ty := (.array (.object "java/lang/Object"))) (by decide) rfl rfl (g := (mkF m 8 #[.val (.ref o0)] [(.ref es), (.ref o0)])) rfl rfl (hb hby d3_8)
  have Fw6 := G1_2.same W6
  have K7 : Keep h0 h6 [o0] := K3.wr W6 (Or.inl (List.mem_of_getElem? (i := 0) rfl))
  have Z8 : n0 ≤ h6.size := Nat.le_trans Z0 K7.1
  have N6 := Fr.snoc X6 N1 g_o0
  obtain ⟨LS6, X6, N6⟩ : ∃ L, Stand p l e ({ frames := 3, cells := 0, slots := 0, locals := 36 } : Room) s m #[(.ref o0)] below meth c T6 L 0 0 ∧ Fr n0 L := ⟨_, X6, N6⟩
  obtain ⟨fs, hr, hrun, hended, hW, hsame⟩ := X6.leave (v := none) (fun _ => rfl)
  have c9 := (G1_0.other W6 (Or.inr (slot_ne (Or.inl (hw _ (List.mem_of_getElem? (i := 29) rfl))) (Or.inl (hw _ (List.mem_of_getElem? (i := 32) rfl))) (by decide) (t := .int) (t' := (.array (.object "java/lang/Object"))) (by decide) (by decide))))
  have c10 := (G1_1.other W6 (Or.inr (slot_ne (Or.inl (hw _ (List.mem_of_getElem? (i := 64) rfl))) (Or.inl (hw _ (List.mem_of_getElem? (i := 32) rfl))) (by decide) (t := .int) (t' := (.array (.object "java/lang/Object"))) (by decide) (by decide))))
  refine ⟨_, _, pre0 _ ?_, hrun, hended, _, _, rfl, ?_, ⟨_, rfl⟩, hW, hsame.mono (by decide) (by decide)⟩
  · show Steps p.tables e below (s₁.setTop (mkF m 0 #[.val (.ref o0)] [])) _
    refine XS.aloadN X0.here hx rfl (hb hby d3_0) rfl rfl ?_
    show Steps p.tables e below (s₁.setTop (mkF m 1 #[.val (.ref o0)] [(.ref o0)])) _
    refine st1.trans ?_
    show Steps p.tables e below (T1.setTop (mkF m 4 #[.val (.ref o0)] [])) _
    refine XS.aloadN X1.here hx rfl (hb hby d3_4) rfl rfl ?_
    show Steps p.tables e below (T1.setTop (mkF m 5 #[.val (.ref o0)] [(.ref o0)])) _
    refine st5 _ ?_
    show Steps p.tables e below (T5.setTop (mkF m 8 #[.val (.ref o0)] [(.ref es), (.ref o0)])) _
    refine st6 _ ?_
    show Steps p.tables e below (T6.setTop (mkF m 11 #[.val (.ref o0)] [])) _
    exact X6.returnOut hx Bd.returns (hb hby d3_11) hr
  · show Q3 Z o0 mc es h0 n0 _ T6.heap _
    rw [e6]
    exact ⟨rfl, N6, K7, c9, c10, Fw6⟩
theorem d1_0 : decode prog_5_method_1_code 0 = .ok (.aload_n 0, 1) := by decide +kernel
theorem d1_1 : decode prog_5_method_1_code 1 = .ok (.invokespecial 1, 3) := by decide +kernel
theorem d1_4 : decode prog_5_method_1_code 4 = .ok (.aload_n 0, 1) := by decide +kernel
theorem d1_5 : decode prog_5_method_1_code 5 = .ok (.new 7, 3) := by decide +kernel
theorem d1_8 : decode prog_5_method_1_code 8 = .ok (.dup, 1) := by decide +kernel
theorem d1_9 : decode prog_5_method_1_code 9 = .ok (.invokespecial 9, 3) := by decide +kernel
theorem d1_12 : decode prog_5_method_1_code 12 = .ok (.putfield 10, 3) := by decide +kernel
theorem d1_15 : decode prog_5_method_1_code 15 = .ok (.return_, 1) := by decide +kernel
theorem pn_1 : plainName "com/example/cardhost/cardhost/Transactions" = true := by first | (simp [plainName, overriddenIn]; done) | decide +kernel
theorem pd_1_0 : parseMethodDescriptor "()V" = some ⟨[], none⟩ := by decide +kernel
theorem ef_1 (m : MethodId) (x0 : Addr) : entryFrame m #[(.ref x0)] 1 = mkF m 0 #[.val (.ref x0)] [] := by first | (simp [entryFrame, mkF, argsToLocals, Value.category]; done) | rfl
def Q1 (Z : State) (o0 : Addr) (ip : Int32) (ins : Int32) (es : Addr) (h0 : Heap) (n0 : Nat) (v : Option Value) (h : Heap) (L : List Loc) : Prop := ∃ r_o0_undo : Addr, v = none ∧ Fr n0 L ∧ Keep h0 h [o0] ∧ n0 ≤ r_o0_undo ∧ h0.size ≤ r_o0_undo ∧ Fld Z h o0 "com/example/cardhost/cardhost/Transactions" "undo" "Ljava/util/List;" (.ref r_o0_undo) ∧ Exa Z h r_o0_undo "java/util/ArrayList" ∧ Fld Z h r_o0_undo "java/util/AbstractList" "modCount" "I" (.int (0 : Int32)) ∧ Fld Z h r_o0_undo "java/util/ArrayList" "elementData" "[Ljava/lang/Object;" (.ref es) ∧ Fld Z h r_o0_undo "java/util/ArrayList" "size" "I" (.int (0 : Int32)) ∧ Fld Z h o0 "com/example/cardhost/cardhost/Transactions" "inProgress" "Z" (.int ip) ∧ Fld Z h o0 "com/example/cardhost/cardhost/Transactions" "installing" "Z" (.int ins) ∧ Fld Z h o0 "com/example/cardhost/cardhost/Transactions" "inProgressFrom" "I" (.int (0 : Int32))
set_option maxRecDepth 65536 in
set_option maxHeartbeats 40000000 in
theorem rm1 (l : Launch) (Z : State) (a0 : Array Value) (hw : ∀ d ∈ tables_1, d.before a0 Z = true) (ws : List Jvm.Cond) (o0 : Addr) (ip : Int32) (ins : Int32) (es : Addr) (h0 : Heap) (n0 : Nat) (Z0 : n0 ≤ h0.size) (E_o0 : Exa Z h0 o0 "com/example/cardhost/cardhost/Transactions") (F_undo_o0 : Fld Z h0 o0 "com/example/cardhost/cardhost/Transactions" "undo" "Ljava/util/List;" .null) (F_inProgress_o0 : Fld Z h0 o0 "com/example/cardhost/cardhost/Transactions" "inProgress" "Z" (.int ip)) (F_installing_o0 : Fld Z h0 o0 "com/example/cardhost/cardhost/Transactions" "installing" "Z" (.int ins)) (F_inProgressFrom_o0 : Fld Z h0 o0 "com/example/cardhost/cardhost/Transactions" "inProgressFrom" "I" (.int (0 : Int32))) (g_o0 : n0 ≤ o0) (S_DEFAULTCAPACITY_EMPTY_ELEMENTDATA : Sta Z h0 "java/util/ArrayList" "DEFAULTCAPACITY_EMPTY_ELEMENTDATA" "[Ljava/lang/Object;" (.ref es)) :
    MetFree l (⟨"com/example/cardhost/cardhost/Transactions", "<init>", "()V"⟩ : MethodName) (head1 (Jvm.Cond.code (⟨"com/example/cardhost/cardhost/Transactions", "<init>", "()V"⟩ : MethodName) prog_5_method_1_code 1 none :: ws) ({ frames := 4, cells := 1, slots := 3, locals := 50 } : Room)) (fun a U => a = #[(.ref o0)] ∧ Z.Warmed39 U.vm ∧ U.heap = h0) (fun _ _ _ _ _ => True) (fun _ U o U' => ∃ v L, o = .returned v ∧ Q1 Z o0 ip ins es h0 n0 v U'.heap L ∧ FrameEnd U o U' L ({ frames := 4, cells := 1, slots := 3, locals := 50 } : Room).cells ({ frames := 4, cells := 1, slots := 3, locals := 50 } : Room).slots) := by
  refine MetFree.of_bodySF (plainFor_of_name pn_1) hisR ?_
  intro p e s m args below meth c s₁ Bd hml0 hP hK
  obtain ⟨rfl, hZ, hh⟩ := hP
  have hx := Bd.exec
  have hby := Bd.bytes
  have hml : c.maxLocals = 1 := hml0
  have hown : s.vm.findClass "com/example/cardhost/cardhost/Transactions" = some m.cls := findClass_of_methodNamed Bd.named
  have hnm := (name_of_methodNamed Bd.named Bd.method).1
  have X0 : Stand p l e ({ frames := 4, cells := 1, slots := 3, locals := 50 } : Room) s m #[(.ref o0)] below meth c s₁ [] 0 0 := Stand.of_body Bd
  have e0 : s₁.heap = h0 := by rw [← hh, Bd.state]; rfl
  have N0 := Fr.nil n0
  have pre0 : ∀ t, Steps p.tables e below (s₁.setTop (mkF m 0 #[.val (.ref o0)] [])) t → Steps p.tables e below (s₁.setTop (entryFrame m #[(.ref o0)] 1)) t := fun t k => castTop (ef_1 m o0) k
  obtain ⟨T1, X1, e1, st1⟩ := initO X0 hx hZ hown (hw _ (List.mem_of_getElem? (i := 6) rfl)) (hw _ (List.mem_of_getElem? (i := 7) rfl)) (hw _ (List.mem_of_getElem? (i := 8) rfl)) e0 (g := (mkF m 1 #[.val (.ref o0)] [(.ref o0)])) rfl (by rw [hml]; rfl) rfl (hb hby d1_1) (by decide) (W := 0) (by show 2 * 0 + _ ≤ _; exact Nat.le_of_eq rfl) (by decide)
  obtain ⟨T2, h2, X2, e2, E2, A2, D2, -, st2⟩ := newO X1 hx hZ hown (hw _ (List.mem_of_getElem? (i := 9) rfl)) (hw _ (List.mem_of_getElem? (i := 10) rfl)) (hw _ (List.mem_of_getElem? (i := 11) rfl)) e1 (g := (mkF m 5 #[.val (.ref o0)] [(.ref o0)])) rfl (hb hby d1_5) (by decide) (by decide)
  obtain ⟨b2, g2⟩ : ∃ z, z = h0.size := ⟨_, rfl⟩
  rw [← g2] at A2 D2 st2
  have g_b2 : n0 ≤ b2 := Nat.le_trans Z0 (Nat.le_of_eq g2.symm)
  have sz_b2 : h0.size ≤ b2 := Nat.le_trans (Keep.refl h0 [o0]).1 (Nat.le_of_eq g2.symm)
  have ne_o0_b2 : o0 ≠ b2 := Nat.ne_of_lt (Nat.lt_of_lt_of_le E_o0.lt (Nat.le_of_eq g2.symm))
  have K3 : Keep h0 h2 [o0] := (Keep.refl h0 [o0]).ext E2
  have Z4 : n0 ≤ h2.size := Nat.le_trans Z0 K3.1
  have E_b2 := A2
  have F_modCount_b2 : Fld Z h2 b2 "java/util/AbstractList" "modCount" "I" (.int (0 : Int32)) := D2 (Or.inl (hw _ (List.mem_of_getElem? (i := 29) rfl))) (ty := .int) (by decide)
  have F_elementData_b2 : Fld Z h2 b2 "java/util/ArrayList" "elementData" "[Ljava/lang/Object;" .null := D2 (Or.inl (hw _ (List.mem_of_getElem? (i := 32) rfl))) (ty := (.array (.object "java/lang/Object"))) (by decide)
  have F_size_b2 : Fld Z h2 b2 "java/util/ArrayList" "size" "I" (.int (0 : Int32)) := D2 (Or.inl (hw _ (List.mem_of_getElem? (i := 64) rfl))) (ty := .int) (by decide)
  obtain ⟨_, _, ⟨T5, L5, k5, n5⟩, -, X5, ⟨Lc5, hQ5, l5, y5, z5⟩, st5⟩ := X2.specialBack hx (y := (⟨"java/util/ArrayList", "<init>", "()V"⟩ : MethodName)) rfl hown (mvT hZ (hw _ (List.mem_of_getElem? (i := 12) rfl))) (mvT hZ (hw _ (List.mem_of_getElem? (i := 13) rfl))) (mvT hZ (hw _ (List.mem_of_getElem? (i := 14) rfl))) (by decide) (backOf (W := 2) (rm3 l Z a0 hw [] b2 (0 : Int32) es h2 n0 Z4 E_b2 F_modCount_b2 F_size_b2 F_elementData_b2 g_b2 (S_DEFAULTCAPACITY_EMPTY_ELEMENTDATA.ext E2)) hZ (hw _ (List.mem_of_getElem? (i := 14) rfl)) (hw _ (List.mem_of_getElem? (i := 11) rfl)) (by decide) (by decide)) (g := (mkF m 9 #[.val (.ref o0)] [(.ref b2), (.ref b2), (.ref o0)])) rfl (by rw [hml]; rfl) (Steps.refl _) (a := b2) (argsL := []) (rest := [(.ref b2), (.ref o0)]) (lenOf pd_1_0 rfl) rfl (by show 2 * 0 + _ ≤ _; exact Nat.le_of_eq rfl) (hb hby d1_9) (fun _ _ => ⟨rfl, e2, (by decide : 1 + 0 ≤ _), (by decide : 3 + 0 ≤ _)⟩)
  dsimp only [Pt.U, Pt.locs, Pt.cells, Pt.slots] at X5 l5 y5 z5 st5 hQ5
  subst l5 y5 z5
  obtain ⟨rfl, N5q, K5q, G5_0, G5_1, G5_2⟩ := hQ5
  have N5 := Fr.app N0 N5q
  have S6 := own_Sta_keep (S_DEFAULTCAPACITY_EMPTY_ELEMENTDATA.ext E2) K5q (allS (own_Exa_st E_b2) all0)
  have K7 : Keep h0 T5.heap [o0] := K3.trans K5q (allS (Or.inr sz_b2) all0)
  have Z8 : n0 ≤ T5.heap.size := Nat.le_trans Z0 K7.1
  obtain ⟨LS5, X5, N5⟩ : ∃ L, Stand p l e ({ frames := 4, cells := 1, slots := 3, locals := 50 } : Room) s m #[(.ref o0)] below meth c T5 L 1 3 ∧ Fr n0 L := ⟨_, X5, N5⟩
  obtain ⟨T9, h9, X9, e9, W9, st9⟩ := putF X5 hx hZ hown (host := "") (Or.inl (hw _ (List.mem_of_getElem? (i := 33) rfl))) Via.refl rfl ((F_undo_o0.ext E2).keep K5q (ninS ne_o0_b2 nin0)) ((E_o0.ext E2).keep K5q) (Or.inr ⟨(hw _ (List.mem_of_getElem? (i := 34) rfl)), rfl, hnm⟩) (hw _ (List.mem_of_getElem? (i := 1) rfl)) (ty := (.object "java/util/List")) (by decide) rfl rfl (g := (mkF m 12 #[.val (.ref o0)] [(.ref b2), (.ref o0)])) rfl rfl (hb hby d1_12)
  have Fw9 := ((F_undo_o0.ext E2).keep K5q (ninS ne_o0_b2 nin0)).same W9
  have K10 : Keep h0 h9 [o0] := K7.wr W9 (Or.inl (List.mem_of_getElem? (i := 0) rfl))
  have Z11 : n0 ≤ h9.size := Nat.le_trans Z0 K10.1
  have N9 := Fr.snoc X9 N5 g_o0
  obtain ⟨LS9, X9, N9⟩ : ∃ L, Stand p l e ({ frames := 4, cells := 1, slots := 3, locals := 50 } : Room) s m #[(.ref o0)] below meth c T9 L 1 3 ∧ Fr n0 L := ⟨_, X9, N9⟩
  obtain ⟨fs, hr, hrun, hended, hW, hsame⟩ := X9.leave (v := none) (fun _ => rfl)
  have c12 := (((F_inProgress_o0.ext E2).keep K5q (ninS ne_o0_b2 nin0)).other W9 (Or.inr (slot_ne (Or.inl (hw _ (List.mem_of_getElem? (i := 42) rfl))) (Or.inr (hw _ (List.mem_of_getElem? (i := 34) rfl))) (by decide) (t := .boolean) (t' := (.object "java/util/List")) (by decide) (by decide))))
  have c13 := (((F_installing_o0.ext E2).keep K5q (ninS ne_o0_b2 nin0)).other W9 (Or.inr (slot_ne (Or.inl (hw _ (List.mem_of_getElem? (i := 44) rfl))) (Or.inr (hw _ (List.mem_of_getElem? (i := 34) rfl))) (by decide) (t := .boolean) (t' := (.object "java/util/List")) (by decide) (by decide))))
  have c14 := (((F_inProgressFrom_o0.ext E2).keep K5q (ninS ne_o0_b2 nin0)).other W9 (Or.inr (slot_ne (Or.inl (hw _ (List.mem_of_getElem? (i := 66) rfl))) (Or.inr (hw _ (List.mem_of_getElem? (i := 34) rfl))) (by decide) (t := .int) (t' := (.object "java/util/List")) (by decide) (by decide))))
  refine ⟨_, _, pre0 _ ?_, hrun, hended, _, _, rfl, ?_, ⟨_, rfl⟩, hW, hsame.mono (by decide) (by decide)⟩
  · show Steps p.tables e below (s₁.setTop (mkF m 0 #[.val (.ref o0)] [])) _
    refine XS.aloadN X0.here hx rfl (hb hby d1_0) rfl rfl ?_
    show Steps p.tables e below (s₁.setTop (mkF m 1 #[.val (.ref o0)] [(.ref o0)])) _
    refine st1 _ ?_
    show Steps p.tables e below (T1.setTop (mkF m 4 #[.val (.ref o0)] [])) _
    refine XS.aloadN X1.here hx rfl (hb hby d1_4) rfl rfl ?_
    show Steps p.tables e below (T1.setTop (mkF m 5 #[.val (.ref o0)] [(.ref o0)])) _
    refine st2 _ ?_
    show Steps p.tables e below (T2.setTop (mkF m 8 #[.val (.ref o0)] [(.ref b2), (.ref o0)])) _
    refine XS.dup X2.here hx rfl (hb hby d1_8) rfl rfl ?_
    show Steps p.tables e below (T2.setTop (mkF m 9 #[.val (.ref o0)] [(.ref b2), (.ref b2), (.ref o0)])) _
    refine st5.trans ?_
    show Steps p.tables e below (T5.setTop (mkF m 12 #[.val (.ref o0)] [(.ref b2), (.ref o0)])) _
    refine st9 _ ?_
    show Steps p.tables e below (T9.setTop (mkF m 15 #[.val (.ref o0)] [])) _
    exact X9.returnOut hx Bd.returns (hb hby d1_15) hr
  · show Q1 Z o0 ip ins es h0 n0 _ T9.heap _
    rw [e9]
    exact ⟨b2, rfl, N9, K10, g_b2, sz_b2, Fw9, ((E_b2.keep K5q).wr W9), (G5_0.other W9 (Or.inl (Ne.symm ne_o0_b2))), (G5_2.other W9 (Or.inl (Ne.symm ne_o0_b2))), (G5_1.other W9 (Or.inl (Ne.symm ne_o0_b2))), c12, c13, c14⟩
theorem d6_0 : decode prog_5_method_9_code 0 = .ok (.aload_n 0, 1) := by decide +kernel
theorem d6_1 : decode prog_5_method_9_code 1 = .ok (.getfield 16, 3) := by decide +kernel
theorem d6_4 : decode prog_5_method_9_code 4 = .ok (.ifCond .ne 10, 3) := by decide +kernel
theorem d6_7 : decode prog_5_method_9_code 7 = .ok (.aload_n 0, 1) := by decide +kernel
theorem d6_8 : decode prog_5_method_9_code 8 = .ok (.getfield 36, 3) := by decide +kernel
theorem d6_11 : decode prog_5_method_9_code 11 = .ok (.ifCond .eq 7, 3) := by decide +kernel
theorem d6_14 : decode prog_5_method_9_code 14 = .ok (.iconst 1, 1) := by decide +kernel
theorem d6_15 : decode prog_5_method_9_code 15 = .ok (.goto 4, 3) := by decide +kernel
theorem d6_18 : decode prog_5_method_9_code 18 = .ok (.iconst 0, 1) := by decide +kernel
theorem d6_19 : decode prog_5_method_9_code 19 = .ok (.ireturn, 1) := by decide +kernel
theorem pn_6 : plainName "com/example/cardhost/cardhost/Transactions" = true := by first | (simp [plainName, overriddenIn]; done) | decide +kernel
theorem ef_6 (m : MethodId) (x0 : Addr) : entryFrame m #[(.ref x0)] 1 = mkF m 0 #[.val (.ref x0)] [] := by first | (simp [entryFrame, mkF, argsToLocals, Value.category]; done) | rfl
def f6 (ip : Int32) (ins : Int32) : Int32 :=
  if ip = (0 : Int32) then (if ins = (0 : Int32) then ((0 : Int32)) else
  ((1 : Int32))) else
  ((1 : Int32))
def Q6 (Z : State) (o0 : Addr) (ip : Int32) (ins : Int32) (h0 : Heap) (n0 : Nat) (v : Option Value) (h : Heap) (L : List Loc) : Prop := v = some (.int (f6 ip ins)) ∧ Fr n0 L ∧ h = h0
set_option maxRecDepth 65536 in
set_option maxHeartbeats 40000000 in
theorem rm6 (l : Launch) (Z : State) (a0 : Array Value) (hw : ∀ d ∈ tables_1, d.before a0 Z = true) (ws : List Jvm.Cond) (o0 : Addr) (ip : Int32) (ins : Int32) (h0 : Heap) (n0 : Nat) (Z0 : n0 ≤ h0.size) (E_o0 : Exa Z h0 o0 "com/example/cardhost/cardhost/Transactions") (F_inProgress_o0 : Fld Z h0 o0 "com/example/cardhost/cardhost/Transactions" "inProgress" "Z" (.int ip)) (F_installing_o0 : Fld Z h0 o0 "com/example/cardhost/cardhost/Transactions" "installing" "Z" (.int ins)) :
    MetFree l (⟨"com/example/cardhost/cardhost/Transactions", "recording", "()Z"⟩ : MethodName) (head1 (Jvm.Cond.code (⟨"com/example/cardhost/cardhost/Transactions", "recording", "()Z"⟩ : MethodName) prog_5_method_9_code 1 (some .boolean) :: ws) ({ frames := 0, cells := 0, slots := 0, locals := 0 } : Room)) (fun a U => a = #[(.ref o0)] ∧ Z.Warmed39 U.vm ∧ U.heap = h0) (fun _ _ _ _ _ => True) (fun _ U o U' => ∃ v L, o = .returned v ∧ Q6 Z o0 ip ins h0 n0 v U'.heap L ∧ FrameEnd U o U' L ({ frames := 0, cells := 0, slots := 0, locals := 0 } : Room).cells ({ frames := 0, cells := 0, slots := 0, locals := 0 } : Room).slots) := by
  refine MetFree.of_bodySF (plainFor_of_name pn_6) hisR ?_
  intro p e s m args below meth c s₁ Bd hml0 hP hK
  obtain ⟨rfl, hZ, hh⟩ := hP
  have hx := Bd.exec
  have hby := Bd.bytes
  have hml : c.maxLocals = 1 := hml0
  have hown : s.vm.findClass "com/example/cardhost/cardhost/Transactions" = some m.cls := findClass_of_methodNamed Bd.named
  have hnm := (name_of_methodNamed Bd.named Bd.method).1
  have X0 : Stand p l e ({ frames := 0, cells := 0, slots := 0, locals := 0 } : Room) s m #[(.ref o0)] below meth c s₁ [] 0 0 := Stand.of_body Bd
  have e0 : s₁.heap = h0 := by rw [← hh, Bd.state]; rfl
  have N0 := Fr.nil n0
  have pre0 : ∀ t, Steps p.tables e below (s₁.setTop (mkF m 0 #[.val (.ref o0)] [])) t → Steps p.tables e below (s₁.setTop (entryFrame m #[(.ref o0)] 1)) t := fun t k => castTop (ef_6 m o0) k
  obtain ⟨T1, X1, e1, st1⟩ := getF X0 hx hZ hown (host := "") (Or.inl (hw _ (List.mem_of_getElem? (i := 41) rfl))) Via.refl e0 F_inProgress_o0 (g := (mkF m 1 #[.val (.ref o0)] [(.ref o0)])) rfl rfl (hb hby d6_1)
  have pre2 : ∀ t, Steps p.tables e below (T1.setTop (mkF m 4 #[.val (.ref o0)] [(.int ip)])) t → Steps p.tables e below (s₁.setTop (entryFrame m #[(.ref o0)] 1)) t := fun t kt => pre0 t (by
      show Steps p.tables e below (s₁.setTop (mkF m 0 #[.val (.ref o0)] [])) _
      refine XS.aloadN X0.here hx rfl (hb hby d6_0) rfl rfl ?_
      show Steps p.tables e below (s₁.setTop (mkF m 1 #[.val (.ref o0)] [(.ref o0)])) _
      refine st1 _ ?_
      exact kt)
  by_cases hc4_3 : ip = (0 : Int32)
  · obtain ⟨T4, X4, e4, st4⟩ := getF X1 hx hZ hown (host := "") (Or.inl (hw _ (List.mem_of_getElem? (i := 43) rfl))) Via.refl e1 F_installing_o0 (g := (mkF m 8 #[.val (.ref o0)] [(.ref o0)])) rfl rfl (hb hby d6_8)
    have pre5 : ∀ t, Steps p.tables e below (T4.setTop (mkF m 11 #[.val (.ref o0)] [(.int ins)])) t → Steps p.tables e below (s₁.setTop (entryFrame m #[(.ref o0)] 1)) t := fun t kt => pre2 t (by
        show Steps p.tables e below (T1.setTop (mkF m 4 #[.val (.ref o0)] [(.int ip)])) _
        refine XS.ifNo X1.here hx rfl (hb hby d6_4) rfl ((if0 _ _).trans (teq hc4_3).2) ?_
        show Steps p.tables e below (T1.setTop (mkF m 7 #[.val (.ref o0)] [])) _
        refine XS.aloadN X1.here hx rfl (hb hby d6_7) rfl rfl ?_
        show Steps p.tables e below (T1.setTop (mkF m 8 #[.val (.ref o0)] [(.ref o0)])) _
        refine st4 _ ?_
        exact kt)
    by_cases hc11_6 : ins = (0 : Int32)
    · obtain ⟨fs, hr, hrun, hended, hW, hsame⟩ := X4.leave (v := some (.int (0 : Int32))) (fun h => by rw [Bd.returns] at h; cases h)
      have hv7 : (f6 ip ins) = (0 : Int32) := by rw [f6, if_pos hc4_3, if_pos hc11_6]
      refine ⟨_, _, pre5 _ ?_, hrun, hended, _, _, rfl, ?_, ⟨_, rfl⟩, hW, hsame.mono (by decide) (by decide)⟩
      · show Steps p.tables e below (T4.setTop (mkF m 11 #[.val (.ref o0)] [(.int ins)])) _
        refine XS.ifYes X4.here hx rfl (pc0 := 11) (pc' := 18) rfl (hb hby d6_11) rfl ((if0 _ _).trans (teq hc11_6).1) (by decide) (by decide) ?_
        show Steps p.tables e below (T4.setTop (mkF m 18 #[.val (.ref o0)] [])) _
        refine XS.iconst X4.here hx rfl (hb hby d6_18) ?_
        show Steps p.tables e below (T4.setTop (mkF m 19 #[.val (.ref o0)] [(.int (0 : Int32))])) _
        exact retN X4 hx (t := .boolean) Bd.returns (by simp) (hb hby d6_19) hr
      · show Q6 Z o0 ip ins h0 n0 _ T4.heap _
        rw [e4]
        exact ⟨congrArg (fun q => some (Value.int q)) hv7.symm, N0, rfl⟩
    · obtain ⟨fs, hr, hrun, hended, hW, hsame⟩ := X4.leave (v := some (.int (1 : Int32))) (fun h => by rw [Bd.returns] at h; cases h)
      have hv8 : (f6 ip ins) = (1 : Int32) := by rw [f6, if_pos hc4_3, if_neg hc11_6]
      refine ⟨_, _, pre5 _ ?_, hrun, hended, _, _, rfl, ?_, ⟨_, rfl⟩, hW, hsame.mono (by decide) (by decide)⟩
      · show Steps p.tables e below (T4.setTop (mkF m 11 #[.val (.ref o0)] [(.int ins)])) _
        refine XS.ifNo X4.here hx rfl (hb hby d6_11) rfl ((if0 _ _).trans (feq hc11_6).1) ?_
        show Steps p.tables e below (T4.setTop (mkF m 14 #[.val (.ref o0)] [])) _
        refine XS.iconst X4.here hx rfl (hb hby d6_14) ?_
        show Steps p.tables e below (T4.setTop (mkF m 15 #[.val (.ref o0)] [(.int (1 : Int32))])) _
        refine XS.goto X4.here hx rfl (pc0 := 15) (pc' := 19) rfl (hb hby d6_15) (by decide) (by decide) ?_
        show Steps p.tables e below (T4.setTop (mkF m 19 #[.val (.ref o0)] [(.int (1 : Int32))])) _
        exact retN X4 hx (t := .boolean) Bd.returns (by simp) (hb hby d6_19) hr
      · show Q6 Z o0 ip ins h0 n0 _ T4.heap _
        rw [e4]
        exact ⟨congrArg (fun q => some (Value.int q)) hv8.symm, N0, rfl⟩
  · obtain ⟨fs, hr, hrun, hended, hW, hsame⟩ := X1.leave (v := some (.int (1 : Int32))) (fun h => by rw [Bd.returns] at h; cases h)
    have hv9 : (f6 ip ins) = (1 : Int32) := by rw [f6, if_neg hc4_3]
    refine ⟨_, _, pre2 _ ?_, hrun, hended, _, _, rfl, ?_, ⟨_, rfl⟩, hW, hsame.mono (by decide) (by decide)⟩
    · show Steps p.tables e below (T1.setTop (mkF m 4 #[.val (.ref o0)] [(.int ip)])) _
      refine XS.ifYes X1.here hx rfl (pc0 := 4) (pc' := 14) rfl (hb hby d6_4) rfl ((if0 _ _).trans (feq hc4_3).2) (by decide) (by decide) ?_
      show Steps p.tables e below (T1.setTop (mkF m 14 #[.val (.ref o0)] [])) _
      refine XS.iconst X1.here hx rfl (hb hby d6_14) ?_
      show Steps p.tables e below (T1.setTop (mkF m 15 #[.val (.ref o0)] [(.int (1 : Int32))])) _
      refine XS.goto X1.here hx rfl (pc0 := 15) (pc' := 19) rfl (hb hby d6_15) (by decide) (by decide) ?_
      show Steps p.tables e below (T1.setTop (mkF m 19 #[.val (.ref o0)] [(.int (1 : Int32))])) _
      exact retN X1 hx (t := .boolean) Bd.returns (by simp) (hb hby d6_19) hr
    · show Q6 Z o0 ip ins h0 n0 _ T1.heap _
      rw [e1]
      exact ⟨congrArg (fun q => some (Value.int q)) hv9.symm, N0, rfl⟩
theorem d9_0 : decode jdk_38_method_8_code 0 = .ok (.aload_n 0, 1) := by decide +kernel
theorem d9_1 : decode jdk_38_method_8_code 1 = .ok (.getfield 48, 3) := by decide +kernel
theorem d9_4 : decode jdk_38_method_8_code 4 = .ok (.ireturn, 1) := by decide +kernel
theorem pn_9 : plainName "java/util/ArrayList" = true := by first | (simp [plainName, overriddenIn]; done) | decide +kernel
theorem ef_9 (m : MethodId) (x0 : Addr) : entryFrame m #[(.ref x0)] 1 = mkF m 0 #[.val (.ref x0)] [] := by first | (simp [entryFrame, mkF, argsToLocals, Value.category]; done) | rfl
def Q9 (Z : State) (o0 : Addr) (h0 : Heap) (n0 : Nat) (v : Option Value) (h : Heap) (L : List Loc) : Prop := v = some (.int (0 : Int32)) ∧ Fr n0 L ∧ h = h0
set_option maxRecDepth 65536 in
set_option maxHeartbeats 40000000 in
theorem rm9 (l : Launch) (Z : State) (a0 : Array Value) (hw : ∀ d ∈ tables_1, d.before a0 Z = true) (ws : List Jvm.Cond) (o0 : Addr) (h0 : Heap) (n0 : Nat) (Z0 : n0 ≤ h0.size) (E_o0 : Exa Z h0 o0 "java/util/ArrayList") (F_size_o0 : Fld Z h0 o0 "java/util/ArrayList" "size" "I" (.int (0 : Int32))) :
    MetFree l (⟨"java/util/ArrayList", "size", "()I"⟩ : MethodName) (head1 (Jvm.Cond.code (⟨"java/util/ArrayList", "size", "()I"⟩ : MethodName) jdk_38_method_8_code 1 (some .int) :: ws) ({ frames := 0, cells := 0, slots := 0, locals := 0 } : Room)) (fun a U => a = #[(.ref o0)] ∧ Z.Warmed39 U.vm ∧ U.heap = h0) (fun _ _ _ _ _ => True) (fun _ U o U' => ∃ v L, o = .returned v ∧ Q9 Z o0 h0 n0 v U'.heap L ∧ FrameEnd U o U' L ({ frames := 0, cells := 0, slots := 0, locals := 0 } : Room).cells ({ frames := 0, cells := 0, slots := 0, locals := 0 } : Room).slots) := by
  refine MetFree.of_bodySF (plainFor_of_name pn_9) hisR ?_
  intro p e s m args below meth c s₁ Bd hml0 hP hK
  obtain ⟨rfl, hZ, hh⟩ := hP
  have hx := Bd.exec
  have hby := Bd.bytes
  have hml : c.maxLocals = 1 := hml0
  have hown : s.vm.findClass "java/util/ArrayList" = some m.cls := findClass_of_methodNamed Bd.named
  have hnm := (name_of_methodNamed Bd.named Bd.method).1
  have X0 : Stand p l e ({ frames := 0, cells := 0, slots := 0, locals := 0 } : Room) s m #[(.ref o0)] below meth c s₁ [] 0 0 := Stand.of_body Bd
  have e0 : s₁.heap = h0 := by rw [← hh, Bd.state]; rfl
  have N0 := Fr.nil n0
  have pre0 : ∀ t, Steps p.tables e below (s₁.setTop (mkF m 0 #[.val (.ref o0)] [])) t → Steps p.tables e below (s₁.setTop (entryFrame m #[(.ref o0)] 1)) t := fun t k => castTop (ef_9 m o0) k
  obtain ⟨T1, X1, e1, st1⟩ := getF X0 hx hZ hown (host := "") (Or.inl (hw _ (List.mem_of_getElem? (i := 63) rfl))) Via.refl e0 F_size_o0 (g := (mkF m 1 #[.val (.ref o0)] [(.ref o0)])) rfl rfl (hb hby d9_1)
  obtain ⟨fs, hr, hrun, hended, hW, hsame⟩ := X1.leave (v := some (.int (0 : Int32))) (fun h => by rw [Bd.returns] at h; cases h)
  have hv2 : (0 : Int32) = (0 : Int32) := rfl
  refine ⟨_, _, pre0 _ ?_, hrun, hended, _, _, rfl, ?_, ⟨_, rfl⟩, hW, hsame.mono (by decide) (by decide)⟩
  · show Steps p.tables e below (s₁.setTop (mkF m 0 #[.val (.ref o0)] [])) _
    refine XS.aloadN X0.here hx rfl (hb hby d9_0) rfl rfl ?_
    show Steps p.tables e below (s₁.setTop (mkF m 1 #[.val (.ref o0)] [(.ref o0)])) _
    refine st1 _ ?_
    show Steps p.tables e below (T1.setTop (mkF m 4 #[.val (.ref o0)] [(.int (0 : Int32))])) _
    exact retI X1 hx Bd.returns (hb hby d9_4) hr
  · show Q9 Z o0 h0 n0 _ T1.heap _
    rw [e1]
    exact ⟨congrArg (fun q => some (Value.int q)) hv2.symm, N0, rfl⟩
theorem d13_0 : decode jdk_39_method_15_code 0 = .ok (.iload_n 0, 1) := by decide +kernel
theorem d13_1 : decode jdk_39_method_15_code 1 = .ok (.ifCond .ge 30, 3) := by decide +kernel
theorem d13_31 : decode jdk_39_method_15_code 31 = .ok (.iload_n 1, 1) := by decide +kernel
theorem d13_32 : decode jdk_39_method_15_code 32 = .ok (.iload_n 2, 1) := by decide +kernel
theorem d13_33 : decode jdk_39_method_15_code 33 = .ok (.if_icmp .le 30, 3) := by decide +kernel
theorem d13_63 : decode jdk_39_method_15_code 63 = .ok (.iload_n 0, 1) := by decide +kernel
theorem d13_64 : decode jdk_39_method_15_code 64 = .ok (.iload_n 1, 1) := by decide +kernel
theorem d13_65 : decode jdk_39_method_15_code 65 = .ok (.if_icmp .le 44, 3) := by decide +kernel
theorem d13_109 : decode jdk_39_method_15_code 109 = .ok (.return_, 1) := by decide +kernel
theorem pn_13 : plainName "java/util/AbstractList" = true := by first | (simp [plainName, overriddenIn]; done) | decide +kernel
theorem ef_13 (m : MethodId) (x0 : Int32) (x1 : Int32) (x2 : Int32) : entryFrame m #[(.int x0), (.int x1), (.int x2)] 3 = mkF m 0 #[.val (.int x0), .val (.int x1), .val (.int x2)] [] := by first | (simp [entryFrame, mkF, argsToLocals, Value.category]; done) | rfl
def Q13 (Z : State)  (h0 : Heap) (n0 : Nat) (v : Option Value) (h : Heap) (L : List Loc) : Prop := v = none ∧ Fr n0 L ∧ h = h0
set_option maxRecDepth 65536 in
set_option maxHeartbeats 40000000 in
theorem rm13 (l : Launch) (Z : State) (a0 : Array Value) (hw : ∀ d ∈ tables_1, d.before a0 Z = true) (ws : List Jvm.Cond)  (h0 : Heap) (n0 : Nat) (Z0 : n0 ≤ h0.size) :
    MetFree l (⟨"java/util/AbstractList", "subListRangeCheck", "(III)V"⟩ : MethodName) (head1 (Jvm.Cond.code (⟨"java/util/AbstractList", "subListRangeCheck", "(III)V"⟩ : MethodName) jdk_39_method_15_code 3 none :: ws) ({ frames := 0, cells := 0, slots := 0, locals := 0 } : Room)) (fun a U => a = #[(.int (0 : Int32)), (.int (0 : Int32)), (.int (0 : Int32))] ∧ Z.Warmed39 U.vm ∧ U.heap = h0) (fun _ _ _ _ _ => True) (fun _ U o U' => ∃ v L, o = .returned v ∧ Q13 Z  h0 n0 v U'.heap L ∧ FrameEnd U o U' L ({ frames := 0, cells := 0, slots := 0, locals := 0 } : Room).cells ({ frames := 0, cells := 0, slots := 0, locals := 0 } : Room).slots) := by
  refine MetFree.of_bodySF (plainFor_of_name pn_13) hisR ?_
  intro p e s m args below meth c s₁ Bd hml0 hP hK
  obtain ⟨rfl, hZ, hh⟩ := hP
  have hx := Bd.exec
  have hby := Bd.bytes
  have hml : c.maxLocals = 3 := hml0
  have hown : s.vm.findClass "java/util/AbstractList" = some m.cls := findClass_of_methodNamed Bd.named
  have hnm := (name_of_methodNamed Bd.named Bd.method).1
  have X0 : Stand p l e ({ frames := 0, cells := 0, slots := 0, locals := 0 } : Room) s m #[(.int (0 : Int32)), (.int (0 : Int32)), (.int (0 : Int32))] below meth c s₁ [] 0 0 := Stand.of_body Bd
  have e0 : s₁.heap = h0 := by rw [← hh, Bd.state]; rfl
  have N0 := Fr.nil n0
  have pre0 : ∀ t, Steps p.tables e below (s₁.setTop (mkF m 0 #[.val (.int (0 : Int32)), .val (.int (0 : Int32)), .val (.int (0 : Int32))] [])) t → Steps p.tables e below (s₁.setTop (entryFrame m #[(.int (0 : Int32)), (.int (0 : Int32)), (.int (0 : Int32))] 3)) t := fun t k => castTop (ef_13 m (0 : Int32) (0 : Int32) (0 : Int32)) k
  have pre1 : ∀ t, Steps p.tables e below (s₁.setTop (mkF m 1 #[.val (.int (0 : Int32)), .val (.int (0 : Int32)), .val (.int (0 : Int32))] [(.int (0 : Int32))])) t → Steps p.tables e below (s₁.setTop (entryFrame m #[(.int (0 : Int32)), (.int (0 : Int32)), (.int (0 : Int32))] 3)) t := fun t kt => pre0 t (by
      show Steps p.tables e below (s₁.setTop (mkF m 0 #[.val (.int (0 : Int32)), .val (.int (0 : Int32)), .val (.int (0 : Int32))] [])) _
      refine XS.iloadN X0.here hx rfl (hb hby d13_0) rfl ?_
      exact kt)
  have pre2 : ∀ t, Steps p.tables e below (s₁.setTop (mkF m 33 #[.val (.int (0 : Int32)), .val (.int (0 : Int32)), .val (.int (0 : Int32))] [(.int (0 : Int32)), (.int (0 : Int32))])) t → Steps p.tables e below (s₁.setTop (entryFrame m #[(.int (0 : Int32)), (.int (0 : Int32)), (.int (0 : Int32))] 3)) t := fun t kt => pre1 t (by
      show Steps p.tables e below (s₁.setTop (mkF m 1 #[.val (.int (0 : Int32)), .val (.int (0 : Int32)), .val (.int (0 : Int32))] [(.int (0 : Int32))])) _
      refine XS.ifYes X0.here hx rfl (pc0 := 1) (pc' := 31) rfl (hb hby d13_1) rfl ((if0 _ _).trans (flt (by decide : ¬ ((0 : Int32) < (0 : Int32)))).2.1) (by decide) (by decide) ?_
      show Steps p.tables e below (s₁.setTop (mkF m 31 #[.val (.int (0 : Int32)), .val (.int (0 : Int32)), .val (.int (0 : Int32))] [])) _
      refine XS.iloadN X0.here hx rfl (hb hby d13_31) rfl ?_
      show Steps p.tables e below (s₁.setTop (mkF m 32 #[.val (.int (0 : Int32)), .val (.int (0 : Int32)), .val (.int (0 : Int32))] [(.int (0 : Int32))])) _
      refine XS.iloadN X0.here hx rfl (hb hby d13_32) rfl ?_
      exact kt)
  have pre3 : ∀ t, Steps p.tables e below (s₁.setTop (mkF m 65 #[.val (.int (0 : Int32)), .val (.int (0 : Int32)), .val (.int (0 : Int32))] [(.int (0 : Int32)), (.int (0 : Int32))])) t → Steps p.tables e below (s₁.setTop (entryFrame m #[(.int (0 : Int32)), (.int (0 : Int32)), (.int (0 : Int32))] 3)) t := fun t kt => pre2 t (by
      show Steps p.tables e below (s₁.setTop (mkF m 33 #[.val (.int (0 : Int32)), .val (.int (0 : Int32)), .val (.int (0 : Int32))] [(.int (0 : Int32)), (.int (0 : Int32))])) _
      refine XS.icmpYes X0.here hx rfl (pc0 := 33) (pc' := 63) rfl (hb hby d13_33) rfl (flt (by decide : ¬ ((0 : Int32) < (0 : Int32)))).2.2.2 (by decide) (by decide) ?_
      show Steps p.tables e below (s₁.setTop (mkF m 63 #[.val (.int (0 : Int32)), .val (.int (0 : Int32)), .val (.int (0 : Int32))] [])) _
      refine XS.iloadN X0.here hx rfl (hb hby d13_63) rfl ?_
      show Steps p.tables e below (s₁.setTop (mkF m 64 #[.val (.int (0 : Int32)), .val (.int (0 : Int32)), .val (.int (0 : Int32))] [(.int (0 : Int32))])) _
      refine XS.iloadN X0.here hx rfl (hb hby d13_64) rfl ?_
      exact kt)
  obtain ⟨fs, hr, hrun, hended, hW, hsame⟩ := X0.leave (v := none) (fun _ => rfl)
  refine ⟨_, _, pre3 _ ?_, hrun, hended, _, _, rfl, ?_, ⟨_, rfl⟩, hW, hsame.mono (by decide) (by decide)⟩
  · show Steps p.tables e below (s₁.setTop (mkF m 65 #[.val (.int (0 : Int32)), .val (.int (0 : Int32)), .val (.int (0 : Int32))] [(.int (0 : Int32)), (.int (0 : Int32))])) _
    refine XS.icmpYes X0.here hx rfl (pc0 := 65) (pc' := 109) rfl (hb hby d13_65) rfl (flt (by decide : ¬ ((0 : Int32) < (0 : Int32)))).2.2.2 (by decide) (by decide) ?_
    show Steps p.tables e below (s₁.setTop (mkF m 109 #[.val (.int (0 : Int32)), .val (.int (0 : Int32)), .val (.int (0 : Int32))] [])) _
    exact X0.returnOut hx Bd.returns (hb hby d13_109) hr
  · show Q13 Z  h0 n0 _ s₁.heap _
    rw [e0]
    exact ⟨rfl, N0, rfl⟩
theorem d14_0 : decode jdk_130_method_1_code 0 = .ok (.aload_n 0, 1) := by decide +kernel
theorem d14_1 : decode jdk_130_method_1_code 1 = .ok (.invokespecial 1, 3) := by decide +kernel
theorem d14_4 : decode jdk_130_method_1_code 4 = .ok (.aload_n 0, 1) := by decide +kernel
theorem d14_5 : decode jdk_130_method_1_code 5 = .ok (.aload_n 1, 1) := by decide +kernel
theorem d14_6 : decode jdk_130_method_1_code 6 = .ok (.putfield 7, 3) := by decide +kernel
theorem d14_9 : decode jdk_130_method_1_code 9 = .ok (.aload_n 0, 1) := by decide +kernel
theorem d14_10 : decode jdk_130_method_1_code 10 = .ok (.aconst_null, 1) := by decide +kernel
theorem d14_11 : decode jdk_130_method_1_code 11 = .ok (.putfield 13, 3) := by decide +kernel
theorem d14_14 : decode jdk_130_method_1_code 14 = .ok (.aload_n 0, 1) := by decide +kernel
theorem d14_15 : decode jdk_130_method_1_code 15 = .ok (.iload_n 2, 1) := by decide +kernel
theorem d14_16 : decode jdk_130_method_1_code 16 = .ok (.putfield 17, 3) := by decide +kernel
theorem d14_19 : decode jdk_130_method_1_code 19 = .ok (.aload_n 0, 1) := by decide +kernel
theorem d14_20 : decode jdk_130_method_1_code 20 = .ok (.iload_n 3, 1) := by decide +kernel
theorem d14_21 : decode jdk_130_method_1_code 21 = .ok (.iload_n 2, 1) := by decide +kernel
theorem d14_22 : decode jdk_130_method_1_code 22 = .ok (.isub, 1) := by decide +kernel
theorem d14_23 : decode jdk_130_method_1_code 23 = .ok (.putfield 21, 3) := by decide +kernel
theorem d14_26 : decode jdk_130_method_1_code 26 = .ok (.aload_n 0, 1) := by decide +kernel
theorem d14_27 : decode jdk_130_method_1_code 27 = .ok (.aload_n 1, 1) := by decide +kernel
theorem d14_28 : decode jdk_130_method_1_code 28 = .ok (.getfield 24, 3) := by decide +kernel
theorem d14_31 : decode jdk_130_method_1_code 31 = .ok (.putfield 29, 3) := by decide +kernel
theorem d14_34 : decode jdk_130_method_1_code 34 = .ok (.return_, 1) := by decide +kernel
theorem pn_14 : plainName "java/util/ArrayList$SubList" = true := by first | (simp [plainName, overriddenIn]; done) | decide +kernel
theorem pd_14_0 : parseMethodDescriptor "()V" = some ⟨[], none⟩ := by decide +kernel
theorem ef_14 (m : MethodId) (x0 : Addr) (x1 : Addr) (x2 : Int32) (x3 : Int32) : entryFrame m #[(.ref x0), (.ref x1), (.int x2), (.int x3)] 4 = mkF m 0 #[.val (.ref x0), .val (.ref x1), .val (.int x2), .val (.int x3)] [] := by first | (simp [entryFrame, mkF, argsToLocals, Value.category]; done) | rfl
def Q14 (Z : State) (o0 : Addr) (o1 : Addr) (mk : Int32) (mc : Int32) (h0 : Heap) (n0 : Nat) (v : Option Value) (h : Heap) (L : List Loc) : Prop := v = none ∧ Fr n0 L ∧ Keep h0 h [o0] ∧ Fld Z h o0 "java/util/AbstractList" "modCount" "I" (.int mc) ∧ Fld Z h o0 "java/util/ArrayList$SubList" "size" "I" (.int (0 : Int32)) ∧ Fld Z h o0 "java/util/ArrayList$SubList" "offset" "I" (.int (0 : Int32)) ∧ Fld Z h o0 "java/util/ArrayList$SubList" "parent" "Ljava/util/ArrayList$SubList;" .null ∧ Fld Z h o0 "java/util/ArrayList$SubList" "root" "Ljava/util/ArrayList;" (.ref o1)
set_option maxRecDepth 65536 in
set_option maxHeartbeats 40000000 in
theorem rm14 (l : Launch) (Z : State) (a0 : Array Value) (hw : ∀ d ∈ tables_1, d.before a0 Z = true) (ws : List Jvm.Cond) (o0 : Addr) (o1 : Addr) (mk : Int32) (mc : Int32) (h0 : Heap) (n0 : Nat) (Z0 : n0 ≤ h0.size) (E_o0 : Exa Z h0 o0 "java/util/ArrayList$SubList") (E_o1 : Exa Z h0 o1 "java/util/ArrayList") (F_modCount_o0 : Fld Z h0 o0 "java/util/AbstractList" "modCount" "I" (.int mk)) (F_size_o0 : Fld Z h0 o0 "java/util/ArrayList$SubList" "size" "I" (.int (0 : Int32))) (F_offset_o0 : Fld Z h0 o0 "java/util/ArrayList$SubList" "offset" "I" (.int (0 : Int32))) (F_parent_o0 : Fld Z h0 o0 "java/util/ArrayList$SubList" "parent" "Ljava/util/ArrayList$SubList;" .null) (F_root_o0 : Fld Z h0 o0 "java/util/ArrayList$SubList" "root" "Ljava/util/ArrayList;" .null) (F_modCount_o1 : Fld Z h0 o1 "java/util/AbstractList" "modCount" "I" (.int mc)) (ne_o0_o1 : o0 ≠ o1) (g_o0 : n0 ≤ o0) :
    MetFree l (⟨"java/util/ArrayList$SubList", "<init>", "(Ljava/util/ArrayList;II)V"⟩ : MethodName) (head1 (Jvm.Cond.code (⟨"java/util/ArrayList$SubList", "<init>", "(Ljava/util/ArrayList;II)V"⟩ : MethodName) jdk_130_method_1_code 4 none :: ws) ({ frames := 3, cells := 0, slots := 0, locals := 36 } : Room)) (fun a U => a = #[(.ref o0), (.ref o1), (.int (0 : Int32)), (.int (0 : Int32))] ∧ Z.Warmed39 U.vm ∧ U.heap = h0) (fun _ _ _ _ _ => True) (fun _ U o U' => ∃ v L, o = .returned v ∧ Q14 Z o0 o1 mk mc h0 n0 v U'.heap L ∧ FrameEnd U o U' L ({ frames := 3, cells := 0, slots := 0, locals := 36 } : Room).cells ({ frames := 3, cells := 0, slots := 0, locals := 36 } : Room).slots) := by
  refine MetFree.of_bodySF (plainFor_of_name pn_14) hisR ?_
  intro p e s m args below meth c s₁ Bd hml0 hP hK
  obtain ⟨rfl, hZ, hh⟩ := hP
  have hx := Bd.exec
  have hby := Bd.bytes
  have hml : c.maxLocals = 4 := hml0
  have hown : s.vm.findClass "java/util/ArrayList$SubList" = some m.cls := findClass_of_methodNamed Bd.named
  have hnm := (name_of_methodNamed Bd.named Bd.method).1
  have X0 : Stand p l e ({ frames := 3, cells := 0, slots := 0, locals := 36 } : Room) s m #[(.ref o0), (.ref o1), (.int (0 : Int32)), (.int (0 : Int32))] below meth c s₁ [] 0 0 := Stand.of_body Bd
  have e0 : s₁.heap = h0 := by rw [← hh, Bd.state]; rfl
  have N0 := Fr.nil n0
  have pre0 : ∀ t, Steps p.tables e below (s₁.setTop (mkF m 0 #[.val (.ref o0), .val (.ref o1), .val (.int (0 : Int32)), .val (.int (0 : Int32))] [])) t → Steps p.tables e below (s₁.setTop (entryFrame m #[(.ref o0), (.ref o1), (.int (0 : Int32)), (.int (0 : Int32))] 4)) t := fun t k => castTop (ef_14 m o0 o1 (0 : Int32) (0 : Int32)) k
  obtain ⟨_, _, ⟨T1, L1, k1, n1⟩, -, X1, ⟨Lc1, hQ1, l1, y1, z1⟩, st1⟩ := X0.specialBack hx (y := (⟨"java/util/AbstractList", "<init>", "()V"⟩ : MethodName)) rfl hown (mvT hZ (hw _ (List.mem_of_getElem? (i := 95) rfl))) (mvT hZ (hw _ (List.mem_of_getElem? (i := 16) rfl))) (mvT hZ (hw _ (List.mem_of_getElem? (i := 20) rfl))) (by decide) (backOf (W := 0) (rm4s l Z a0 hw [] o0 mk h0 n0 Z0 E_o0 F_modCount_o0 F_size_o0 F_offset_o0 F_parent_o0 F_root_o0 g_o0) hZ (hw _ (List.mem_of_getElem? (i := 20) rfl)) (hw _ (List.mem_of_getElem? (i := 19) rfl)) (by decide) (by decide)) (g := (mkF m 1 #[.val (.ref o0), .val (.ref o1), .val (.int (0 : Int32)), .val (.int (0 : Int32))] [(.ref o0)])) rfl (by rw [hml]; rfl) (Steps.refl _) (a := o0) (argsL := []) (rest := []) (lenOf pd_14_0 rfl) rfl (by show 2 * 0 + _ ≤ _; exact Nat.le_of_eq rfl) (hb hby d14_1) (fun _ _ => ⟨rfl, e0, (by decide : 0 + 0 ≤ _), (by decide : 0 + 0 ≤ _)⟩)
  dsimp only [Pt.U, Pt.locs, Pt.cells, Pt.slots] at X1 l1 y1 z1 st1 hQ1
  subst l1 y1 z1
  obtain ⟨rfl, N1q, K1q, G1_0, G1_1, G1_2, G1_3, G1_4⟩ := hQ1
  have N1 := Fr.app N0 N1q
  have K2 : Keep h0 T1.heap [o0] := (Keep.refl h0 [o0]).trans K1q (allS (Or.inl (List.mem_of_getElem? (i := 0) rfl)) all0)
  have Z3 : n0 ≤ T1.heap.size := Nat.le_trans Z0 K2.1
  obtain ⟨LS1, X1, N1⟩ : ∃ L, Stand p l e ({ frames := 3, cells := 0, slots := 0, locals := 36 } : Room) s m #[(.ref o0), (.ref o1), (.int (0 : Int32)), (.int (0 : Int32))] below meth c T1 L 0 0 ∧ Fr n0 L := ⟨_, X1, N1⟩
  obtain ⟨T4, h4, X4, e4, W4, st4⟩ := putF X1 hx hZ hown (host := "") (Or.inl (hw _ (List.mem_of_getElem? (i := 99) rfl))) Via.refl rfl G1_4 (E_o0.keep K1q) (Or.inr ⟨(hw _ (List.mem_of_getElem? (i := 100) rfl)), rfl, hnm⟩) (hw _ (List.mem_of_getElem? (i := 89) rfl)) (ty := (.object "java/util/ArrayList")) (by decide) rfl rfl (g := (mkF m 6 #[.val (.ref o0), .val (.ref o1), .val (.int (0 : Int32)), .val (.int (0 : Int32))] [(.ref o1), (.ref o0)])) rfl rfl (hb hby d14_6)
  have Fw4 := G1_4.same W4
  have K5 : Keep h0 h4 [o0] := K2.wr W4 (Or.inl (List.mem_of_getElem? (i := 0) rfl))
  have Z6 : n0 ≤ h4.size := Nat.le_trans Z0 K5.1
  have N4 := Fr.snoc X4 N1 g_o0
  obtain ⟨LS4, X4, N4⟩ : ∃ L, Stand p l e ({ frames := 3, cells := 0, slots := 0, locals := 36 } : Room) s m #[(.ref o0), (.ref o1), (.int (0 : Int32)), (.int (0 : Int32))] below meth c T4 L 0 0 ∧ Fr n0 L := ⟨_, X4, N4⟩
  have c7 := (G1_3.other W4 (Or.inr (slot_ne (Or.inr (hw _ (List.mem_of_getElem? (i := 102) rfl))) (Or.inr (hw _ (List.mem_of_getElem? (i := 100) rfl))) (by decide) (t := (.object "java/util/ArrayList$SubList")) (t' := (.object "java/util/ArrayList")) (by decide) (by decide))))
  obtain ⟨T8, h8, X8, e8, W8, st8⟩ := putF X4 hx hZ hown (host := "") (Or.inl (hw _ (List.mem_of_getElem? (i := 101) rfl))) Via.refl e4 c7 ((E_o0.keep K1q).wr W4) (Or.inr ⟨(hw _ (List.mem_of_getElem? (i := 102) rfl)), rfl, hnm⟩) (hw _ (List.mem_of_getElem? (i := 89) rfl)) (ty := (.object "java/util/ArrayList$SubList")) (by decide) rfl rfl (g := (mkF m 11 #[.val (.ref o0), .val (.ref o1), .val (.int (0 : Int32)), .val (.int (0 : Int32))] [.null, (.ref o0)])) rfl rfl (hb hby d14_11)
  have Fw8 := c7.same W8
  have K9 : Keep h0 h8 [o0] := K5.wr W8 (Or.inl (List.mem_of_getElem? (i := 0) rfl))
  have Z10 : n0 ≤ h8.size := Nat.le_trans Z0 K9.1
  have N8 := Fr.snoc X8 N4 g_o0
  obtain ⟨LS8, X8, N8⟩ : ∃ L, Stand p l e ({ frames := 3, cells := 0, slots := 0, locals := 36 } : Room) s m #[(.ref o0), (.ref o1), (.int (0 : Int32)), (.int (0 : Int32))] below meth c T8 L 0 0 ∧ Fr n0 L := ⟨_, X8, N8⟩
  have c11 := ((G1_2.other W4 (Or.inr (slot_ne (Or.inr (hw _ (List.mem_of_getElem? (i := 104) rfl))) (Or.inr (hw _ (List.mem_of_getElem? (i := 100) rfl))) (by decide) (t := .int) (t' := (.object "java/util/ArrayList")) (by decide) (by decide)))).other W8 (Or.inr (slot_ne (Or.inr (hw _ (List.mem_of_getElem? (i := 104) rfl))) (Or.inr (hw _ (List.mem_of_getElem? (i := 102) rfl))) (by decide) (t := .int) (t' := (.object "java/util/ArrayList$SubList")) (by decide) (by decide))))
  obtain ⟨T12, h12, X12, e12, W12, st12⟩ := putF X8 hx hZ hown (host := "") (Or.inl (hw _ (List.mem_of_getElem? (i := 103) rfl))) Via.refl e8 c11 (((E_o0.keep K1q).wr W4).wr W8) (Or.inr ⟨(hw _ (List.mem_of_getElem? (i := 104) rfl)), rfl, hnm⟩) (hw _ (List.mem_of_getElem? (i := 89) rfl)) (ty := .int) (by decide) rfl rfl (g := (mkF m 16 #[.val (.ref o0), .val (.ref o1), .val (.int (0 : Int32)), .val (.int (0 : Int32))] [(.int (0 : Int32)), (.ref o0)])) rfl rfl (hb hby d14_16)
  have Fw12 := c11.same W12
  have K13 : Keep h0 h12 [o0] := K9.wr W12 (Or.inl (List.mem_of_getElem? (i := 0) rfl))
  have Z14 : n0 ≤ h12.size := Nat.le_trans Z0 K13.1
  have N12 := Fr.snoc X12 N8 g_o0
  obtain ⟨LS12, X12, N12⟩ : ∃ L, Stand p l e ({ frames := 3, cells := 0, slots := 0, locals := 36 } : Room) s m #[(.ref o0), (.ref o1), (.int (0 : Int32)), (.int (0 : Int32))] below meth c T12 L 0 0 ∧ Fr n0 L := ⟨_, X12, N12⟩
  have c15 := (((G1_1.other W4 (Or.inr (slot_ne (Or.inl (hw _ (List.mem_of_getElem? (i := 106) rfl))) (Or.inr (hw _ (List.mem_of_getElem? (i := 100) rfl))) (by decide) (t := .int) (t' := (.object "java/util/ArrayList")) (by decide) (by decide)))).other W8 (Or.inr (slot_ne (Or.inl (hw _ (List.mem_of_getElem? (i := 106) rfl))) (Or.inr (hw _ (List.mem_of_getElem? (i := 102) rfl))) (by decide) (t := .int) (t' := (.object "java/util/ArrayList$SubList")) (by decide) (by decide)))).other W12 (Or.inr (slot_ne (Or.inl (hw _ (List.mem_of_getElem? (i := 106) rfl))) (Or.inr (hw _ (List.mem_of_getElem? (i := 104) rfl))) (by decide) (t := .int) (t' := .int) (by decide) (by decide))))
  obtain ⟨T16, h16, X16, e16, W16, st16⟩ := putF X12 hx hZ hown (host := "") (Or.inl (hw _ (List.mem_of_getElem? (i := 105) rfl))) Via.refl e12 c15 ((((E_o0.keep K1q).wr W4).wr W8).wr W12) (Or.inl (hw _ (List.mem_of_getElem? (i := 106) rfl))) (hw _ (List.mem_of_getElem? (i := 89) rfl)) (ty := .int) (by decide) rfl rfl (g := (mkF m 23 #[.val (.ref o0), .val (.ref o1), .val (.int (0 : Int32)), .val (.int (0 : Int32))] [(.int (0 : Int32)), (.ref o0)])) rfl rfl (hb hby d14_23)
  have Fw16 := c15.same W16
  have K17 : Keep h0 h16 [o0] := K13.wr W16 (Or.inl (List.mem_of_getElem? (i := 0) rfl))
  have Z18 : n0 ≤ h16.size := Nat.le_trans Z0 K17.1
  have N16 := Fr.snoc X16 N12 g_o0
  obtain ⟨LS16, X16, N16⟩ : ∃ L, Stand p l e ({ frames := 3, cells := 0, slots := 0, locals := 36 } : Room) s m #[(.ref o0), (.ref o1), (.int (0 : Int32)), (.int (0 : Int32))] below meth c T16 L 0 0 ∧ Fr n0 L := ⟨_, X16, N16⟩
  have c19 := (((((F_modCount_o1.keep K1q (ninS (Ne.symm ne_o0_o1) nin0)).other W4 (Or.inl (Ne.symm ne_o0_o1))).other W8 (Or.inl (Ne.symm ne_o0_o1))).other W12 (Or.inl (Ne.symm ne_o0_o1))).other W16 (Or.inl (Ne.symm ne_o0_o1)))
  obtain ⟨T20, X20, e20, st20⟩ := getF X16 hx hZ hown (host := "") (Or.inl (hw _ (List.mem_of_getElem? (i := 107) rfl))) (Via.of (hw _ (List.mem_of_getElem? (i := 108) rfl))) e16 c19 (g := (mkF m 28 #[.val (.ref o0), .val (.ref o1), .val (.int (0 : Int32)), .val (.int (0 : Int32))] [(.ref o1), (.ref o0)])) rfl rfl (hb hby d14_28)
  have c21 := ((((G1_0.other W4 (Or.inr (slot_ne (Or.inl (hw _ (List.mem_of_getElem? (i := 98) rfl))) (Or.inr (hw _ (List.mem_of_getElem? (i := 100) rfl))) (by decide) (t := .int) (t' := (.object "java/util/ArrayList")) (by decide) (by decide)))).other W8 (Or.inr (slot_ne (Or.inl (hw _ (List.mem_of_getElem? (i := 98) rfl))) (Or.inr (hw _ (List.mem_of_getElem? (i := 102) rfl))) (by decide) (t := .int) (t' := (.object "java/util/ArrayList$SubList")) (by decide) (by decide)))).other W12 (Or.inr (slot_ne (Or.inl (hw _ (List.mem_of_getElem? (i := 98) rfl))) (Or.inr (hw _ (List.mem_of_getElem? (i := 104) rfl))) (by decide) (t := .int) (t' := .int) (by decide) (by decide)))).other W16 (Or.inr (slot_ne (Or.inl (hw _ (List.mem_of_getElem? (i := 98) rfl))) (Or.inl (hw _ (List.mem_of_getElem? (i := 106) rfl))) (by decide) (t := .int) (t' := .int) (by decide) (by decide))))
  obtain ⟨T22, h22, X22, e22, W22, st22⟩ := putF X20 hx hZ hown (host := "") (Or.inl (hw _ (List.mem_of_getElem? (i := 109) rfl))) (Via.of (hw _ (List.mem_of_getElem? (i := 110) rfl))) e20 c21 (((((E_o0.keep K1q).wr W4).wr W8).wr W12).wr W16) (Or.inl (hw _ (List.mem_of_getElem? (i := 98) rfl))) (hw _ (List.mem_of_getElem? (i := 89) rfl)) (ty := .int) (by decide) rfl rfl (g := (mkF m 31 #[.val (.ref o0), .val (.ref o1), .val (.int (0 : Int32)), .val (.int (0 : Int32))] [(.int mc), (.ref o0)])) rfl rfl (hb hby d14_31)
  have Fw22 := c21.same W22
  have K23 : Keep h0 h22 [o0] := K17.wr W22 (Or.inl (List.mem_of_getElem? (i := 0) rfl))
  have Z24 : n0 ≤ h22.size := Nat.le_trans Z0 K23.1
  have N22 := Fr.snoc X22 N16 g_o0
  obtain ⟨LS22, X22, N22⟩ : ∃ L, Stand p l e ({ frames := 3, cells := 0, slots := 0, locals := 36 } : Room) s m #[(.ref o0), (.ref o1), (.int (0 : Int32)), (.int (0 : Int32))] below meth c T22 L 0 0 ∧ Fr n0 L := ⟨_, X22, N22⟩
  obtain ⟨fs, hr, hrun, hended, hW, hsame⟩ := X22.leave (v := none) (fun _ => rfl)
  have c25 := (Fw16.other W22 (Or.inr (slot_ne (Or.inl (hw _ (List.mem_of_getElem? (i := 106) rfl))) (Or.inl (hw _ (List.mem_of_getElem? (i := 98) rfl))) (by decide) (t := .int) (t' := .int) (by decide) (by decide))))
  have c26 := ((Fw12.other W16 (Or.inr (slot_ne (Or.inr (hw _ (List.mem_of_getElem? (i := 104) rfl))) (Or.inl (hw _ (List.mem_of_getElem? (i := 106) rfl))) (by decide) (t := .int) (t' := .int) (by decide) (by decide)))).other W22 (Or.inr (slot_ne (Or.inr (hw _ (List.mem_of_getElem? (i := 104) rfl))) (Or.inl (hw _ (List.mem_of_getElem? (i := 98) rfl))) (by decide) (t := .int) (t' := .int) (by decide) (by decide))))
  have c27 := (((Fw8.other W12 (Or.inr (slot_ne (Or.inr (hw _ (List.mem_of_getElem? (i := 102) rfl))) (Or.inr (hw _ (List.mem_of_getElem? (i := 104) rfl))) (by decide) (t := (.object "java/util/ArrayList$SubList")) (t' := .int) (by decide) (by decide)))).other W16 (Or.inr (slot_ne (Or.inr (hw _ (List.mem_of_getElem? (i := 102) rfl))) (Or.inl (hw _ (List.mem_of_getElem? (i := 106) rfl))) (by decide) (t := (.object "java/util/ArrayList$SubList")) (t' := .int) (by decide) (by decide)))).other W22 (Or.inr (slot_ne (Or.inr (hw _ (List.mem_of_getElem? (i := 102) rfl))) (Or.inl (hw _ (List.mem_of_getElem? (i := 98) rfl))) (by decide) (t := (.object "java/util/ArrayList$SubList")) (t' := .int) (by decide) (by decide))))
  have c28 := ((((Fw4.other W8 (Or.inr (slot_ne (Or.inr (hw _ (List.mem_of_getElem? (i := 100) rfl))) (Or.inr (hw _ (List.mem_of_getElem? (i := 102) rfl))) (by decide) (t := (.object "java/util/ArrayList")) (t' := (.object "java/util/ArrayList$SubList")) (by decide) (by decide)))).other W12 (Or.inr (slot_ne (Or.inr (hw _ (List.mem_of_getElem? (i := 100) rfl))) (Or.inr (hw _ (List.mem_of_getElem? (i := 104) rfl))) (by decide) (t := (.object "java/util/ArrayList")) (t' := .int) (by decide) (by decide)))).other W16 (Or.inr (slot_ne (Or.inr (hw _ (List.mem_of_getElem? (i := 100) rfl))) (Or.inl (hw _ (List.mem_of_getElem? (i := 106) rfl))) (by decide) (t := (.object "java/util/ArrayList")) (t' := .int) (by decide) (by decide)))).other W22 (Or.inr (slot_ne (Or.inr (hw _ (List.mem_of_getElem? (i := 100) rfl))) (Or.inl (hw _ (List.mem_of_getElem? (i := 98) rfl))) (by decide) (t := (.object "java/util/ArrayList")) (t' := .int) (by decide) (by decide))))
  refine ⟨_, _, pre0 _ ?_, hrun, hended, _, _, rfl, ?_, ⟨_, rfl⟩, hW, hsame.mono (by decide) (by decide)⟩
  · show Steps p.tables e below (s₁.setTop (mkF m 0 #[.val (.ref o0), .val (.ref o1), .val (.int (0 : Int32)), .val (.int (0 : Int32))] [])) _
    refine XS.aloadN X0.here hx rfl (hb hby d14_0) rfl rfl ?_
    show Steps p.tables e below (s₁.setTop (mkF m 1 #[.val (.ref o0), .val (.ref o1), .val (.int (0 : Int32)), .val (.int (0 : Int32))] [(.ref o0)])) _
    refine st1.trans ?_
    show Steps p.tables e below (T1.setTop (mkF m 4 #[.val (.ref o0), .val (.ref o1), .val (.int (0 : Int32)), .val (.int (0 : Int32))] [])) _
    refine XS.aloadN X1.here hx rfl (hb hby d14_4) rfl rfl ?_
    show Steps p.tables e below (T1.setTop (mkF m 5 #[.val (.ref o0), .val (.ref o1), .val (.int (0 : Int32)), .val (.int (0 : Int32))] [(.ref o0)])) _
    refine XS.aloadN X1.here hx rfl (hb hby d14_5) rfl rfl ?_
    show Steps p.tables e below (T1.setTop (mkF m 6 #[.val (.ref o0), .val (.ref o1), .val (.int (0 : Int32)), .val (.int (0 : Int32))] [(.ref o1), (.ref o0)])) _
    refine st4 _ ?_
    show Steps p.tables e below (T4.setTop (mkF m 9 #[.val (.ref o0), .val (.ref o1), .val (.int (0 : Int32)), .val (.int (0 : Int32))] [])) _
    refine XS.aloadN X4.here hx rfl (hb hby d14_9) rfl rfl ?_
    show Steps p.tables e below (T4.setTop (mkF m 10 #[.val (.ref o0), .val (.ref o1), .val (.int (0 : Int32)), .val (.int (0 : Int32))] [(.ref o0)])) _
    refine XS.aconstNull X4.here hx rfl (hb hby d14_10) ?_
    show Steps p.tables e below (T4.setTop (mkF m 11 #[.val (.ref o0), .val (.ref o1), .val (.int (0 : Int32)), .val (.int (0 : Int32))] [.null, (.ref o0)])) _
    refine st8 _ ?_
    show Steps p.tables e below (T8.setTop (mkF m 14 #[.val (.ref o0), .val (.ref o1), .val (.int (0 : Int32)), .val (.int (0 : Int32))] [])) _
    refine XS.aloadN X8.here hx rfl (hb hby d14_14) rfl rfl ?_
    show Steps p.tables e below (T8.setTop (mkF m 15 #[.val (.ref o0), .val (.ref o1), .val (.int (0 : Int32)), .val (.int (0 : Int32))] [(.ref o0)])) _
    refine XS.iloadN X8.here hx rfl (hb hby d14_15) rfl ?_
    show Steps p.tables e below (T8.setTop (mkF m 16 #[.val (.ref o0), .val (.ref o1), .val (.int (0 : Int32)), .val (.int (0 : Int32))] [(.int (0 : Int32)), (.ref o0)])) _
    refine st12 _ ?_
    show Steps p.tables e below (T12.setTop (mkF m 19 #[.val (.ref o0), .val (.ref o1), .val (.int (0 : Int32)), .val (.int (0 : Int32))] [])) _
    refine XS.aloadN X12.here hx rfl (hb hby d14_19) rfl rfl ?_
    show Steps p.tables e below (T12.setTop (mkF m 20 #[.val (.ref o0), .val (.ref o1), .val (.int (0 : Int32)), .val (.int (0 : Int32))] [(.ref o0)])) _
    refine XS.iloadN X12.here hx rfl (hb hby d14_20) rfl ?_
    show Steps p.tables e below (T12.setTop (mkF m 21 #[.val (.ref o0), .val (.ref o1), .val (.int (0 : Int32)), .val (.int (0 : Int32))] [(.int (0 : Int32)), (.ref o0)])) _
    refine XS.iloadN X12.here hx rfl (hb hby d14_21) rfl ?_
    show Steps p.tables e below (T12.setTop (mkF m 22 #[.val (.ref o0), .val (.ref o1), .val (.int (0 : Int32)), .val (.int (0 : Int32))] [(.int (0 : Int32)), (.int (0 : Int32)), (.ref o0)])) _
    refine XS.isub X12.here hx rfl (hb hby d14_22) rfl ?_
    show Steps p.tables e below (T12.setTop (mkF m 23 #[.val (.ref o0), .val (.ref o1), .val (.int (0 : Int32)), .val (.int (0 : Int32))] [(.int (0 : Int32)), (.ref o0)])) _
    refine st16 _ ?_
    show Steps p.tables e below (T16.setTop (mkF m 26 #[.val (.ref o0), .val (.ref o1), .val (.int (0 : Int32)), .val (.int (0 : Int32))] [])) _
    refine XS.aloadN X16.here hx rfl (hb hby d14_26) rfl rfl ?_
    show Steps p.tables e below (T16.setTop (mkF m 27 #[.val (.ref o0), .val (.ref o1), .val (.int (0 : Int32)), .val (.int (0 : Int32))] [(.ref o0)])) _
    refine XS.aloadN X16.here hx rfl (hb hby d14_27) rfl rfl ?_
    show Steps p.tables e below (T16.setTop (mkF m 28 #[.val (.ref o0), .val (.ref o1), .val (.int (0 : Int32)), .val (.int (0 : Int32))] [(.ref o1), (.ref o0)])) _
    refine st20 _ ?_
    show Steps p.tables e below (T20.setTop (mkF m 31 #[.val (.ref o0), .val (.ref o1), .val (.int (0 : Int32)), .val (.int (0 : Int32))] [(.int mc), (.ref o0)])) _
    refine st22 _ ?_
    show Steps p.tables e below (T22.setTop (mkF m 34 #[.val (.ref o0), .val (.ref o1), .val (.int (0 : Int32)), .val (.int (0 : Int32))] [])) _
    exact X22.returnOut hx Bd.returns (hb hby d14_34) hr
  · show Q14 Z o0 o1 mk mc h0 n0 _ T22.heap _
    rw [e22]
    exact ⟨rfl, N22, K23, Fw22, c25, c26, c27, c28⟩
theorem d12_0 : decode jdk_38_method_56_code 0 = .ok (.iload_n 1, 1) := by decide +kernel
theorem d12_1 : decode jdk_38_method_56_code 1 = .ok (.iload_n 2, 1) := by decide +kernel
theorem d12_2 : decode jdk_38_method_56_code 2 = .ok (.aload_n 0, 1) := by decide +kernel
theorem d12_3 : decode jdk_38_method_56_code 3 = .ok (.getfield 48, 3) := by decide +kernel
theorem d12_6 : decode jdk_38_method_56_code 6 = .ok (.invokestatic 272, 3) := by decide +kernel
theorem d12_9 : decode jdk_38_method_56_code 9 = .ok (.new 276, 3) := by decide +kernel
theorem d12_12 : decode jdk_38_method_56_code 12 = .ok (.dup, 1) := by decide +kernel
theorem d12_13 : decode jdk_38_method_56_code 13 = .ok (.aload_n 0, 1) := by decide +kernel
theorem d12_14 : decode jdk_38_method_56_code 14 = .ok (.iload_n 1, 1) := by decide +kernel
theorem d12_15 : decode jdk_38_method_56_code 15 = .ok (.iload_n 2, 1) := by decide +kernel
theorem d12_16 : decode jdk_38_method_56_code 16 = .ok (.invokespecial 278, 3) := by decide +kernel
theorem d12_19 : decode jdk_38_method_56_code 19 = .ok (.areturn, 1) := by decide +kernel
theorem pn_12 : plainName "java/util/ArrayList" = true := by first | (simp [plainName, overriddenIn]; done) | decide +kernel
theorem pd_12_0 : parseMethodDescriptor "(III)V" = some ⟨[.int, .int, .int], none⟩ := by decide +kernel
theorem pd_12_1 : parseMethodDescriptor "(Ljava/util/ArrayList;II)V" = some ⟨[(.object "java/util/ArrayList"), .int, .int], none⟩ := by decide +kernel
theorem ef_12 (m : MethodId) (x0 : Addr) (x1 : Int32) (x2 : Int32) : entryFrame m #[(.ref x0), (.int x1), (.int x2)] 3 = mkF m 0 #[.val (.ref x0), .val (.int x1), .val (.int x2)] [] := by first | (simp [entryFrame, mkF, argsToLocals, Value.category]; done) | rfl
def Q12 (Z : State) (o0 : Addr) (mc : Int32) (h0 : Heap) (n0 : Nat) (v : Option Value) (h : Heap) (L : List Loc) : Prop := ∃ r : Addr, v = some (.ref r) ∧ Fr n0 L ∧ Keep h0 h [] ∧ n0 ≤ r ∧ h0.size ≤ r ∧ Exa Z h r "java/util/ArrayList$SubList" ∧ Fld Z h r "java/util/AbstractList" "modCount" "I" (.int mc) ∧ Fld Z h r "java/util/ArrayList$SubList" "root" "Ljava/util/ArrayList;" (.ref o0) ∧ Fld Z h r "java/util/ArrayList$SubList" "parent" "Ljava/util/ArrayList$SubList;" .null ∧ Fld Z h r "java/util/ArrayList$SubList" "offset" "I" (.int (0 : Int32)) ∧ Fld Z h r "java/util/ArrayList$SubList" "size" "I" (.int (0 : Int32))
set_option maxRecDepth 65536 in
set_option maxHeartbeats 40000000 in
theorem rm12 (l : Launch) (Z : State) (a0 : Array Value) (hw : ∀ d ∈ tables_1, d.before a0 Z = true) (ws : List Jvm.Cond) (o0 : Addr) (mc : Int32) (h0 : Heap) (n0 : Nat) (Z0 : n0 ≤ h0.size) (E_o0 : Exa Z h0 o0 "java/util/ArrayList") (F_modCount_o0 : Fld Z h0 o0 "java/util/AbstractList" "modCount" "I" (.int mc)) (F_size_o0 : Fld Z h0 o0 "java/util/ArrayList" "size" "I" (.int (0 : Int32))) :
    MetFree l (⟨"java/util/ArrayList", "subList", "(II)Ljava/util/List;"⟩ : MethodName) (head1 (Jvm.Cond.code (⟨"java/util/ArrayList", "subList", "(II)Ljava/util/List;"⟩ : MethodName) jdk_38_method_56_code 3 (some (.object "java/util/List")) :: ws) ({ frames := 4, cells := 1, slots := 5, locals := 52 } : Room)) (fun a U => a = #[(.ref o0), (.int (0 : Int32)), (.int (0 : Int32))] ∧ Z.Warmed39 U.vm ∧ U.heap = h0) (fun _ _ _ _ _ => True) (fun _ U o U' => ∃ v L, o = .returned v ∧ Q12 Z o0 mc h0 n0 v U'.heap L ∧ FrameEnd U o U' L ({ frames := 4, cells := 1, slots := 5, locals := 52 } : Room).cells ({ frames := 4, cells := 1, slots := 5, locals := 52 } : Room).slots) := by
  refine MetFree.of_bodySF (plainFor_of_name pn_12) hisR ?_
  intro p e s m args below meth c s₁ Bd hml0 hP hK
  obtain ⟨rfl, hZ, hh⟩ := hP
  have hx := Bd.exec
  have hby := Bd.bytes
  have hml : c.maxLocals = 3 := hml0
  have hown : s.vm.findClass "java/util/ArrayList" = some m.cls := findClass_of_methodNamed Bd.named
  have hnm := (name_of_methodNamed Bd.named Bd.method).1
  have X0 : Stand p l e ({ frames := 4, cells := 1, slots := 5, locals := 52 } : Room) s m #[(.ref o0), (.int (0 : Int32)), (.int (0 : Int32))] below meth c s₁ [] 0 0 := Stand.of_body Bd
  have e0 : s₁.heap = h0 := by rw [← hh, Bd.state]; rfl
  have N0 := Fr.nil n0
  have pre0 : ∀ t, Steps p.tables e below (s₁.setTop (mkF m 0 #[.val (.ref o0), .val (.int (0 : Int32)), .val (.int (0 : Int32))] [])) t → Steps p.tables e below (s₁.setTop (entryFrame m #[(.ref o0), (.int (0 : Int32)), (.int (0 : Int32))] 3)) t := fun t k => castTop (ef_12 m o0 (0 : Int32) (0 : Int32)) k
  obtain ⟨T1, X1, e1, st1⟩ := getF X0 hx hZ hown (host := "") (Or.inl (hw _ (List.mem_of_getElem? (i := 63) rfl))) Via.refl e0 F_size_o0 (g := (mkF m 3 #[.val (.ref o0), .val (.int (0 : Int32)), .val (.int (0 : Int32))] [(.ref o0), (.int (0 : Int32)), (.int (0 : Int32))])) rfl rfl (hb hby d12_3)
  obtain ⟨_, _, ⟨T2, L2, k2, n2⟩, -, X2, ⟨Lc2, hQ2, l2, y2, z2⟩, st2⟩ := own_callSU X1 hx (owner := "java/util/AbstractList") (x := (⟨"java/util/ArrayList", "subListRangeCheck", "(III)V"⟩ : MethodName)) hown (mvT hZ (hw _ (List.mem_of_getElem? (i := 84) rfl))) (mvT hZ (hw _ (List.mem_of_getElem? (i := 85) rfl))) (mvT hZ (hw _ (List.mem_of_getElem? (i := 86) rfl))) (mvT hZ (hw _ (List.mem_of_getElem? (i := 19) rfl))) (mvT hZ (hw _ (List.mem_of_getElem? (i := 87) rfl))) (by decide) (backOf (W := 0) (rm13 l Z a0 hw []  h0 n0 Z0 ) hZ (hw _ (List.mem_of_getElem? (i := 87) rfl)) (hw _ (List.mem_of_getElem? (i := 19) rfl)) (by decide) (by decide)) (g := (mkF m 6 #[.val (.ref o0), .val (.int (0 : Int32)), .val (.int (0 : Int32))] [(.int (0 : Int32)), (.int (0 : Int32)), (.int (0 : Int32))])) rfl (by rw [hml]; rfl) (argsL := [(.int (0 : Int32)), (.int (0 : Int32)), (.int (0 : Int32))]) (rest := []) (lenOf pd_12_0 rfl) rfl (by show 2 * 0 + _ ≤ _; exact Nat.le_of_eq rfl) (hb hby d12_6) (fun _ _ => ⟨rfl, e1, (by decide : 0 + 0 ≤ _), (by decide : 0 + 0 ≤ _)⟩)
  dsimp only [Pt.U, Pt.locs, Pt.cells, Pt.slots] at X2 l2 y2 z2 st2 hQ2
  subst l2 y2 z2
  obtain ⟨rfl, N2q, e2q⟩ := hQ2
  have N2 := Fr.app N0 N2q
  obtain ⟨T3, h3, X3, e3, E3, A3, D3, -, st3⟩ := newO X2 hx hZ hown (hw _ (List.mem_of_getElem? (i := 88) rfl)) (hw _ (List.mem_of_getElem? (i := 89) rfl)) (hw _ (List.mem_of_getElem? (i := 90) rfl)) e2q (g := (mkF m 9 #[.val (.ref o0), .val (.int (0 : Int32)), .val (.int (0 : Int32))] [])) rfl (hb hby d12_9) (by decide) (by decide)
  obtain ⟨b3, g3⟩ : ∃ z, z = h0.size := ⟨_, rfl⟩
  rw [← g3] at A3 D3 st3
  have g_b3 : n0 ≤ b3 := Nat.le_trans Z0 (Nat.le_of_eq g3.symm)
  have sz_b3 : h0.size ≤ b3 := Nat.le_trans (Keep.refl h0 []).1 (Nat.le_of_eq g3.symm)
  have ne_o0_b3 : o0 ≠ b3 := Nat.ne_of_lt (Nat.lt_of_lt_of_le E_o0.lt (Nat.le_of_eq g3.symm))
  have K4 : Keep h0 h3 [] := (Keep.refl h0 []).ext E3
  have Z5 : n0 ≤ h3.size := Nat.le_trans Z0 K4.1
  have E_b3 := A3
  have F_modCount_b3 : Fld Z h3 b3 "java/util/AbstractList" "modCount" "I" (.int (0 : Int32)) := D3 (Or.inl (hw _ (List.mem_of_getElem? (i := 98) rfl))) (ty := .int) (by decide)
  have F_root_b3 : Fld Z h3 b3 "java/util/ArrayList$SubList" "root" "Ljava/util/ArrayList;" .null := D3 (Or.inr (hw _ (List.mem_of_getElem? (i := 100) rfl))) (ty := (.object "java/util/ArrayList")) (by decide)
  have F_parent_b3 : Fld Z h3 b3 "java/util/ArrayList$SubList" "parent" "Ljava/util/ArrayList$SubList;" .null := D3 (Or.inr (hw _ (List.mem_of_getElem? (i := 102) rfl))) (ty := (.object "java/util/ArrayList$SubList")) (by decide)
  have F_offset_b3 : Fld Z h3 b3 "java/util/ArrayList$SubList" "offset" "I" (.int (0 : Int32)) := D3 (Or.inr (hw _ (List.mem_of_getElem? (i := 104) rfl))) (ty := .int) (by decide)
  have F_size_b3 : Fld Z h3 b3 "java/util/ArrayList$SubList" "size" "I" (.int (0 : Int32)) := D3 (Or.inl (hw _ (List.mem_of_getElem? (i := 106) rfl))) (ty := .int) (by decide)
  obtain ⟨_, _, ⟨T6, L6, k6, n6⟩, -, X6, ⟨Lc6, hQ6, l6, y6, z6⟩, st6⟩ := X3.specialBack hx (y := (⟨"java/util/ArrayList$SubList", "<init>", "(Ljava/util/ArrayList;II)V"⟩ : MethodName)) rfl hown (mvT hZ (hw _ (List.mem_of_getElem? (i := 91) rfl))) (mvT hZ (hw _ (List.mem_of_getElem? (i := 92) rfl))) (mvT hZ (hw _ (List.mem_of_getElem? (i := 94) rfl))) (by decide) (backOf (W := 1) (rm14 l Z a0 hw [] b3 o0 (0 : Int32) mc h3 n0 Z5 E_b3 (E_o0.ext E3) F_modCount_b3 F_size_b3 F_offset_b3 F_parent_b3 F_root_b3 (F_modCount_o0.ext E3) (Ne.symm ne_o0_b3) g_b3) hZ (hw _ (List.mem_of_getElem? (i := 94) rfl)) (hw _ (List.mem_of_getElem? (i := 90) rfl)) (by decide) (by decide)) (g := (mkF m 16 #[.val (.ref o0), .val (.int (0 : Int32)), .val (.int (0 : Int32))] [(.int (0 : Int32)), (.int (0 : Int32)), (.ref o0), (.ref b3), (.ref b3)])) rfl (by rw [hml]; rfl) (Steps.refl _) (a := b3) (argsL := [(.ref o0), (.int (0 : Int32)), (.int (0 : Int32))]) (rest := [(.ref b3)]) (lenOf pd_12_1 rfl) rfl (by show 2 * 0 + _ ≤ _; exact Nat.le_of_eq rfl) (hb hby d12_16) (fun _ _ => ⟨rfl, e3, (by decide : 1 + 0 ≤ _), (by decide : 5 + 0 ≤ _)⟩)
  dsimp only [Pt.U, Pt.locs, Pt.cells, Pt.slots] at X6 l6 y6 z6 st6 hQ6
  subst l6 y6 z6
  obtain ⟨rfl, N6q, K6q, G6_0, G6_1, G6_2, G6_3, G6_4⟩ := hQ6
  have N6 := Fr.app N2 N6q
  have K7 : Keep h0 T6.heap [] := K4.trans K6q (allS (Or.inr sz_b3) all0)
  have Z8 : n0 ≤ T6.heap.size := Nat.le_trans Z0 K7.1
  obtain ⟨LS6, X6, N6⟩ : ∃ L, Stand p l e ({ frames := 4, cells := 1, slots := 5, locals := 52 } : Room) s m #[(.ref o0), (.int (0 : Int32)), (.int (0 : Int32))] below meth c T6 L 1 5 ∧ Fr n0 L := ⟨_, X6, N6⟩
  obtain ⟨fs, hr, hrun, hended, hW, hsame⟩ := X6.leave (v := some (.ref b3)) (fun h => by rw [Bd.returns] at h; cases h)
  refine ⟨_, _, pre0 _ ?_, hrun, hended, _, _, rfl, ?_, ⟨_, rfl⟩, hW, hsame.mono (by decide) (by decide)⟩
  · show Steps p.tables e below (s₁.setTop (mkF m 0 #[.val (.ref o0), .val (.int (0 : Int32)), .val (.int (0 : Int32))] [])) _
    refine XS.iloadN X0.here hx rfl (hb hby d12_0) rfl ?_
    show Steps p.tables e below (s₁.setTop (mkF m 1 #[.val (.ref o0), .val (.int (0 : Int32)), .val (.int (0 : Int32))] [(.int (0 : Int32))])) _
    refine XS.iloadN X0.here hx rfl (hb hby d12_1) rfl ?_
    show Steps p.tables e below (s₁.setTop (mkF m 2 #[.val (.ref o0), .val (.int (0 : Int32)), .val (.int (0 : Int32))] [(.int (0 : Int32)), (.int (0 : Int32))])) _
    refine XS.aloadN X0.here hx rfl (hb hby d12_2) rfl rfl ?_
    show Steps p.tables e below (s₁.setTop (mkF m 3 #[.val (.ref o0), .val (.int (0 : Int32)), .val (.int (0 : Int32))] [(.ref o0), (.int (0 : Int32)), (.int (0 : Int32))])) _
    refine st1 _ ?_
    show Steps p.tables e below (T1.setTop (mkF m 6 #[.val (.ref o0), .val (.int (0 : Int32)), .val (.int (0 : Int32))] [(.int (0 : Int32)), (.int (0 : Int32)), (.int (0 : Int32))])) _
    refine st2 _ ?_
    show Steps p.tables e below (T2.setTop (mkF m 9 #[.val (.ref o0), .val (.int (0 : Int32)), .val (.int (0 : Int32))] [])) _
    refine st3 _ ?_
    show Steps p.tables e below (T3.setTop (mkF m 12 #[.val (.ref o0), .val (.int (0 : Int32)), .val (.int (0 : Int32))] [(.ref b3)])) _
    refine XS.dup X3.here hx rfl (hb hby d12_12) rfl rfl ?_
    show Steps p.tables e below (T3.setTop (mkF m 13 #[.val (.ref o0), .val (.int (0 : Int32)), .val (.int (0 : Int32))] [(.ref b3), (.ref b3)])) _
    refine XS.aloadN X3.here hx rfl (hb hby d12_13) rfl rfl ?_
    show Steps p.tables e below (T3.setTop (mkF m 14 #[.val (.ref o0), .val (.int (0 : Int32)), .val (.int (0 : Int32))] [(.ref o0), (.ref b3), (.ref b3)])) _
    refine XS.iloadN X3.here hx rfl (hb hby d12_14) rfl ?_
    show Steps p.tables e below (T3.setTop (mkF m 15 #[.val (.ref o0), .val (.int (0 : Int32)), .val (.int (0 : Int32))] [(.int (0 : Int32)), (.ref o0), (.ref b3), (.ref b3)])) _
    refine XS.iloadN X3.here hx rfl (hb hby d12_15) rfl ?_
    show Steps p.tables e below (T3.setTop (mkF m 16 #[.val (.ref o0), .val (.int (0 : Int32)), .val (.int (0 : Int32))] [(.int (0 : Int32)), (.int (0 : Int32)), (.ref o0), (.ref b3), (.ref b3)])) _
    refine st6.trans ?_
    show Steps p.tables e below (T6.setTop (mkF m 19 #[.val (.ref o0), .val (.int (0 : Int32)), .val (.int (0 : Int32))] [(.ref b3)])) _
    jvm_step X6.here [X6.here.top, hx, (hb hby d12_19), X6.method', Bd.returns, Value.isRef, FieldType.isReference]
    first | (intro acts; rw [hr _ acts rfl rfl rfl]) | rw [hr _ _ rfl rfl rfl]
    exact Steps.refl _
  · show Q12 Z o0 mc h0 n0 _ T6.heap _
    exact ⟨b3, rfl, N6, K7, g_b3, sz_b3, (E_b3.keep K6q), G6_0, G6_4, G6_3, G6_2, G6_1⟩
theorem d17_0 : decode jdk_130_method_28_code 0 = .ok (.aload_n 0, 1) := by decide +kernel
theorem d17_1 : decode jdk_130_method_28_code 1 = .ok (.getfield 7, 3) := by decide +kernel
theorem d17_4 : decode jdk_130_method_28_code 4 = .ok (.getfield 24, 3) := by decide +kernel
theorem d17_7 : decode jdk_130_method_28_code 7 = .ok (.aload_n 0, 1) := by decide +kernel
theorem d17_8 : decode jdk_130_method_28_code 8 = .ok (.getfield 29, 3) := by decide +kernel
theorem d17_11 : decode jdk_130_method_28_code 11 = .ok (.if_icmp .eq 11, 3) := by decide +kernel
theorem d17_22 : decode jdk_130_method_28_code 22 = .ok (.return_, 1) := by decide +kernel
theorem pn_17 : plainName "java/util/ArrayList$SubList" = true := by first | (simp [plainName, overriddenIn]; done) | decide +kernel
theorem ef_17 (m : MethodId) (x0 : Addr) : entryFrame m #[(.ref x0)] 1 = mkF m 0 #[.val (.ref x0)] [] := by first | (simp [entryFrame, mkF, argsToLocals, Value.category]; done) | rfl
def Q17 (Z : State) (o0 : Addr) (mc : Int32) (u1 : Addr) (h0 : Heap) (n0 : Nat) (v : Option Value) (h : Heap) (L : List Loc) : Prop := v = none ∧ Fr n0 L ∧ h = h0
set_option maxRecDepth 65536 in
set_option maxHeartbeats 40000000 in
theorem rm17 (l : Launch) (Z : State) (a0 : Array Value) (hw : ∀ d ∈ tables_1, d.before a0 Z = true) (ws : List Jvm.Cond) (o0 : Addr) (mc : Int32) (u1 : Addr) (h0 : Heap) (n0 : Nat) (Z0 : n0 ≤ h0.size) (E_o0 : Exa Z h0 o0 "java/util/ArrayList$SubList") (F_modCount_o0 : Fld Z h0 o0 "java/util/AbstractList" "modCount" "I" (.int mc)) (F_root_o0 : Fld Z h0 o0 "java/util/ArrayList$SubList" "root" "Ljava/util/ArrayList;" (.ref u1)) (F_modCount_u1 : Fld Z h0 u1 "java/util/AbstractList" "modCount" "I" (.int mc)) :
    MetFree l (⟨"java/util/ArrayList$SubList", "checkForComodification", "()V"⟩ : MethodName) (head1 (Jvm.Cond.code (⟨"java/util/ArrayList$SubList", "checkForComodification", "()V"⟩ : MethodName) jdk_130_method_28_code 1 none :: ws) ({ frames := 0, cells := 0, slots := 0, locals := 0 } : Room)) (fun a U => a = #[(.ref o0)] ∧ Z.Warmed39 U.vm ∧ U.heap = h0) (fun _ _ _ _ _ => True) (fun _ U o U' => ∃ v L, o = .returned v ∧ Q17 Z o0 mc u1 h0 n0 v U'.heap L ∧ FrameEnd U o U' L ({ frames := 0, cells := 0, slots := 0, locals := 0 } : Room).cells ({ frames := 0, cells := 0, slots := 0, locals := 0 } : Room).slots) := by
  refine MetFree.of_bodySF (plainFor_of_name pn_17) hisR ?_
  intro p e s m args below meth c s₁ Bd hml0 hP hK
  obtain ⟨rfl, hZ, hh⟩ := hP
  have hx := Bd.exec
  have hby := Bd.bytes
  have hml : c.maxLocals = 1 := hml0
  have hown : s.vm.findClass "java/util/ArrayList$SubList" = some m.cls := findClass_of_methodNamed Bd.named
  have hnm := (name_of_methodNamed Bd.named Bd.method).1
  have X0 : Stand p l e ({ frames := 0, cells := 0, slots := 0, locals := 0 } : Room) s m #[(.ref o0)] below meth c s₁ [] 0 0 := Stand.of_body Bd
  have e0 : s₁.heap = h0 := by rw [← hh, Bd.state]; rfl
  have N0 := Fr.nil n0
  have pre0 : ∀ t, Steps p.tables e below (s₁.setTop (mkF m 0 #[.val (.ref o0)] [])) t → Steps p.tables e below (s₁.setTop (entryFrame m #[(.ref o0)] 1)) t := fun t k => castTop (ef_17 m o0) k
  obtain ⟨T1, X1, e1, st1⟩ := getF X0 hx hZ hown (host := "") (Or.inl (hw _ (List.mem_of_getElem? (i := 99) rfl))) Via.refl e0 F_root_o0 (g := (mkF m 1 #[.val (.ref o0)] [(.ref o0)])) rfl rfl (hb hby d17_1)
  obtain ⟨T2, X2, e2, st2⟩ := getF X1 hx hZ hown (host := "") (Or.inl (hw _ (List.mem_of_getElem? (i := 107) rfl))) (Via.of (hw _ (List.mem_of_getElem? (i := 108) rfl))) e1 F_modCount_u1 (g := (mkF m 4 #[.val (.ref o0)] [(.ref u1)])) rfl rfl (hb hby d17_4)
  obtain ⟨T3, X3, e3, st3⟩ := getF X2 hx hZ hown (host := "") (Or.inl (hw _ (List.mem_of_getElem? (i := 109) rfl))) (Via.of (hw _ (List.mem_of_getElem? (i := 110) rfl))) e2 F_modCount_o0 (g := (mkF m 8 #[.val (.ref o0)] [(.ref o0), (.int mc)])) rfl rfl (hb hby d17_8)
  have pre4 : ∀ t, Steps p.tables e below (T3.setTop (mkF m 11 #[.val (.ref o0)] [(.int mc), (.int mc)])) t → Steps p.tables e below (s₁.setTop (entryFrame m #[(.ref o0)] 1)) t := fun t kt => pre0 t (by
      show Steps p.tables e below (s₁.setTop (mkF m 0 #[.val (.ref o0)] [])) _
      refine XS.aloadN X0.here hx rfl (hb hby d17_0) rfl rfl ?_
      show Steps p.tables e below (s₁.setTop (mkF m 1 #[.val (.ref o0)] [(.ref o0)])) _
      refine st1 _ ?_
      show Steps p.tables e below (T1.setTop (mkF m 4 #[.val (.ref o0)] [(.ref u1)])) _
      refine st2 _ ?_
      show Steps p.tables e below (T2.setTop (mkF m 7 #[.val (.ref o0)] [(.int mc)])) _
      refine XS.aloadN X2.here hx rfl (hb hby d17_7) rfl rfl ?_
      show Steps p.tables e below (T2.setTop (mkF m 8 #[.val (.ref o0)] [(.ref o0), (.int mc)])) _
      refine st3 _ ?_
      exact kt)
  have hd11_5 : mc = mc := rfl
  obtain ⟨fs, hr, hrun, hended, hW, hsame⟩ := X3.leave (v := none) (fun _ => rfl)
  refine ⟨_, _, pre4 _ ?_, hrun, hended, _, _, rfl, ?_, ⟨_, rfl⟩, hW, hsame.mono (by decide) (by decide)⟩
  · show Steps p.tables e below (T3.setTop (mkF m 11 #[.val (.ref o0)] [(.int mc), (.int mc)])) _
    refine XS.icmpYes X3.here hx rfl (pc0 := 11) (pc' := 22) rfl (hb hby d17_11) rfl (teq hd11_5).1 (by decide) (by decide) ?_
    show Steps p.tables e below (T3.setTop (mkF m 22 #[.val (.ref o0)] [])) _
    exact X3.returnOut hx Bd.returns (hb hby d17_22) hr
  · show Q17 Z o0 mc u1 h0 n0 _ T3.heap _
    rw [e3]
    exact ⟨rfl, N0, rfl⟩
theorem d16_0 : decode jdk_130_method_5_code 0 = .ok (.aload_n 0, 1) := by decide +kernel
theorem d16_1 : decode jdk_130_method_5_code 1 = .ok (.invokevirtual 36, 3) := by decide +kernel
theorem d16_4 : decode jdk_130_method_5_code 4 = .ok (.aload_n 0, 1) := by decide +kernel
theorem d16_5 : decode jdk_130_method_5_code 5 = .ok (.getfield 21, 3) := by decide +kernel
theorem d16_8 : decode jdk_130_method_5_code 8 = .ok (.ireturn, 1) := by decide +kernel
theorem pn_16 : plainName "java/util/ArrayList$SubList" = true := by first | (simp [plainName, overriddenIn]; done) | decide +kernel
theorem pd_16_0 : parseMethodDescriptor "()V" = some ⟨[], none⟩ := by decide +kernel
theorem ef_16 (m : MethodId) (x0 : Addr) : entryFrame m #[(.ref x0)] 1 = mkF m 0 #[.val (.ref x0)] [] := by first | (simp [entryFrame, mkF, argsToLocals, Value.category]; done) | rfl
def Q16 (Z : State) (o0 : Addr) (mc : Int32) (u1 : Addr) (h0 : Heap) (n0 : Nat) (v : Option Value) (h : Heap) (L : List Loc) : Prop := v = some (.int (0 : Int32)) ∧ Fr n0 L ∧ h = h0
set_option maxRecDepth 65536 in
set_option maxHeartbeats 40000000 in
theorem rm16 (l : Launch) (Z : State) (a0 : Array Value) (hw : ∀ d ∈ tables_1, d.before a0 Z = true) (ws : List Jvm.Cond) (o0 : Addr) (mc : Int32) (u1 : Addr) (h0 : Heap) (n0 : Nat) (Z0 : n0 ≤ h0.size) (E_o0 : Exa Z h0 o0 "java/util/ArrayList$SubList") (F_modCount_o0 : Fld Z h0 o0 "java/util/AbstractList" "modCount" "I" (.int mc)) (F_root_o0 : Fld Z h0 o0 "java/util/ArrayList$SubList" "root" "Ljava/util/ArrayList;" (.ref u1)) (F_size_o0 : Fld Z h0 o0 "java/util/ArrayList$SubList" "size" "I" (.int (0 : Int32))) (F_modCount_u1 : Fld Z h0 u1 "java/util/AbstractList" "modCount" "I" (.int mc)) :
    MetFree l (⟨"java/util/ArrayList$SubList", "size", "()I"⟩ : MethodName) (head1 (Jvm.Cond.code (⟨"java/util/ArrayList$SubList", "size", "()I"⟩ : MethodName) jdk_130_method_5_code 1 (some .int) :: ws) ({ frames := 1, cells := 0, slots := 0, locals := 12 } : Room)) (fun a U => a = #[(.ref o0)] ∧ Z.Warmed39 U.vm ∧ U.heap = h0) (fun _ _ _ _ _ => True) (fun _ U o U' => ∃ v L, o = .returned v ∧ Q16 Z o0 mc u1 h0 n0 v U'.heap L ∧ FrameEnd U o U' L ({ frames := 1, cells := 0, slots := 0, locals := 12 } : Room).cells ({ frames := 1, cells := 0, slots := 0, locals := 12 } : Room).slots) := by
  refine MetFree.of_bodySF (plainFor_of_name pn_16) hisR ?_
  intro p e s m args below meth c s₁ Bd hml0 hP hK
  obtain ⟨rfl, hZ, hh⟩ := hP
  have hx := Bd.exec
  have hby := Bd.bytes
  have hml : c.maxLocals = 1 := hml0
  have hown : s.vm.findClass "java/util/ArrayList$SubList" = some m.cls := findClass_of_methodNamed Bd.named
  have hnm := (name_of_methodNamed Bd.named Bd.method).1
  have X0 : Stand p l e ({ frames := 1, cells := 0, slots := 0, locals := 12 } : Room) s m #[(.ref o0)] below meth c s₁ [] 0 0 := Stand.of_body Bd
  have e0 : s₁.heap = h0 := by rw [← hh, Bd.state]; rfl
  have N0 := Fr.nil n0
  have pre0 : ∀ t, Steps p.tables e below (s₁.setTop (mkF m 0 #[.val (.ref o0)] [])) t → Steps p.tables e below (s₁.setTop (entryFrame m #[(.ref o0)] 1)) t := fun t k => castTop (ef_16 m o0) k
  obtain ⟨cq1, q1, q1'⟩ := E_o0.cell
  obtain ⟨_, _, ⟨T1, L1, k1, n1⟩, -, X1, ⟨Lc1, hQ1, l1, y1, z1⟩, st1⟩ := X0.privateBack hx (y := (⟨"java/util/ArrayList$SubList", "checkForComodification", "()V"⟩ : MethodName)) hown (mvT hZ (hw _ (List.mem_of_getElem? (i := 126) rfl))) (mvT hZ (hw _ (List.mem_of_getElem? (i := 127) rfl))) (mvT hZ (hw _ (List.mem_of_getElem? (i := 129) rfl))) (Cond.privateMethod_at (mvP hZ (hw _ (List.mem_of_getElem? (i := 128) rfl)) (args := #[]))) (mvT hZ (hw _ (List.mem_of_getElem? (i := 130) rfl))) (by decide) (backOf (W := 0) (rm17 l Z a0 hw [] o0 mc u1 h0 n0 Z0 E_o0 F_modCount_o0 F_root_o0 F_modCount_u1) hZ (hw _ (List.mem_of_getElem? (i := 130) rfl)) (hw _ (List.mem_of_getElem? (i := 90) rfl)) (by decide) (by decide)) (g := (mkF m 1 #[.val (.ref o0)] [(.ref o0)])) rfl (by rw [hml]; rfl) (Steps.refl _) (a := o0) (by rw [e0]; exact q1) q1' (argsL := []) (rest := []) (lenOf pd_16_0 rfl) rfl (by show 2 * 0 + _ ≤ _; exact Nat.le_of_eq rfl) (hb hby d16_1) (fun _ _ => ⟨rfl, e0, (by decide : 0 + 0 ≤ _), (by decide : 0 + 0 ≤ _)⟩)
  dsimp only [Pt.U, Pt.locs, Pt.cells, Pt.slots] at X1 l1 y1 z1 st1 hQ1
  subst l1 y1 z1
  obtain ⟨rfl, N1q, e1q⟩ := hQ1
  have N1 := Fr.app N0 N1q
  obtain ⟨T2, X2, e2, st2⟩ := getF X1 hx hZ hown (host := "") (Or.inl (hw _ (List.mem_of_getElem? (i := 105) rfl))) Via.refl e1q F_size_o0 (g := (mkF m 5 #[.val (.ref o0)] [(.ref o0)])) rfl rfl (hb hby d16_5)
  obtain ⟨fs, hr, hrun, hended, hW, hsame⟩ := X2.leave (v := some (.int (0 : Int32))) (fun h => by rw [Bd.returns] at h; cases h)
  have hv3 : (0 : Int32) = (0 : Int32) := rfl
  refine ⟨_, _, pre0 _ ?_, hrun, hended, _, _, rfl, ?_, ⟨_, rfl⟩, hW, hsame.mono (by decide) (by decide)⟩
  · show Steps p.tables e below (s₁.setTop (mkF m 0 #[.val (.ref o0)] [])) _
    refine XS.aloadN X0.here hx rfl (hb hby d16_0) rfl rfl ?_
    show Steps p.tables e below (s₁.setTop (mkF m 1 #[.val (.ref o0)] [(.ref o0)])) _
    refine st1.trans ?_
    show Steps p.tables e below (T1.setTop (mkF m 4 #[.val (.ref o0)] [])) _
    refine XS.aloadN X1.here hx rfl (hb hby d16_4) rfl rfl ?_
    show Steps p.tables e below (T1.setTop (mkF m 5 #[.val (.ref o0)] [(.ref o0)])) _
    refine st2 _ ?_
    show Steps p.tables e below (T2.setTop (mkF m 8 #[.val (.ref o0)] [(.int (0 : Int32))])) _
    exact retI X2 hx Bd.returns (hb hby d16_8) hr
  · show Q16 Z o0 mc u1 h0 n0 _ T2.heap _
    rw [e2]
    exact ⟨congrArg (fun q => some (Value.int q)) hv3.symm, N1, rfl⟩
theorem d20_0 : decode jdk_38_method_44_code 0 = .ok (.aload_n 1, 1) := by decide +kernel
theorem d20_1 : decode jdk_38_method_44_code 1 = .ok (.iload_n 3, 1) := by decide +kernel
theorem d20_2 : decode jdk_38_method_44_code 2 = .ok (.aload_n 1, 1) := by decide +kernel
theorem d20_3 : decode jdk_38_method_44_code 3 = .ok (.iload_n 2, 1) := by decide +kernel
theorem d20_4 : decode jdk_38_method_44_code 4 = .ok (.aload_n 0, 1) := by decide +kernel
theorem d20_5 : decode jdk_38_method_44_code 5 = .ok (.getfield 48, 3) := by decide +kernel
theorem d20_8 : decode jdk_38_method_44_code 8 = .ok (.iload_n 3, 1) := by decide +kernel
theorem d20_9 : decode jdk_38_method_44_code 9 = .ok (.isub, 1) := by decide +kernel
theorem d20_10 : decode jdk_38_method_44_code 10 = .ok (.invokestatic 112, 3) := by decide +kernel
theorem d20_13 : decode jdk_38_method_44_code 13 = .ok (.aload_n 0, 1) := by decide +kernel
theorem d20_14 : decode jdk_38_method_44_code 14 = .ok (.getfield 48, 3) := by decide +kernel
theorem d20_17 : decode jdk_38_method_44_code 17 = .ok (.istore 4, 2) := by decide +kernel
theorem d20_19 : decode jdk_38_method_44_code 19 = .ok (.aload_n 0, 1) := by decide +kernel
theorem d20_20 : decode jdk_38_method_44_code 20 = .ok (.dup, 1) := by decide +kernel
theorem d20_21 : decode jdk_38_method_44_code 21 = .ok (.getfield 48, 3) := by decide +kernel
theorem d20_24 : decode jdk_38_method_44_code 24 = .ok (.iload_n 3, 1) := by decide +kernel
theorem d20_25 : decode jdk_38_method_44_code 25 = .ok (.iload_n 2, 1) := by decide +kernel
theorem d20_26 : decode jdk_38_method_44_code 26 = .ok (.isub, 1) := by decide +kernel
theorem d20_27 : decode jdk_38_method_44_code 27 = .ok (.isub, 1) := by decide +kernel
theorem d20_28 : decode jdk_38_method_44_code 28 = .ok (.dup_x1, 1) := by decide +kernel
theorem d20_29 : decode jdk_38_method_44_code 29 = .ok (.putfield 48, 3) := by decide +kernel
theorem d20_32 : decode jdk_38_method_44_code 32 = .ok (.istore 5, 2) := by decide +kernel
theorem d20_34 : decode jdk_38_method_44_code 34 = .ok (.iload 5, 2) := by decide +kernel
theorem d20_36 : decode jdk_38_method_44_code 36 = .ok (.iload 4, 2) := by decide +kernel
theorem d20_38 : decode jdk_38_method_44_code 38 = .ok (.if_icmp .ge 14, 3) := by decide +kernel
theorem d20_52 : decode jdk_38_method_44_code 52 = .ok (.return_, 1) := by decide +kernel
theorem pn_20 : plainName "java/util/ArrayList" = true := by first | (simp [plainName, overriddenIn]; done) | decide +kernel
theorem ef_20 (m : MethodId) (x0 : Addr) (x1 : Addr) (x2 : Int32) (x3 : Int32) : entryFrame m #[(.ref x0), (.ref x1), (.int x2), (.int x3)] 6 = mkF m 0 #[.val (.ref x0), .val (.ref x1), .val (.int x2), .val (.int x3), .unset, .unset] [] := by first | (simp [entryFrame, mkF, argsToLocals, Value.category]; done) | rfl
def Q20 (Z : State) (o0 : Addr) (es : Addr) (mc : Int32) (h0 : Heap) (n0 : Nat) (v : Option Value) (h : Heap) (L : List Loc) : Prop := v = none ∧ Fr n0 L ∧ Keep h0 h [o0] ∧ Fld Z h o0 "java/util/ArrayList" "size" "I" (.int (0 : Int32)) ∧ Fld Z h o0 "java/util/AbstractList" "modCount" "I" (.int mc) ∧ Fld Z h o0 "java/util/ArrayList" "elementData" "[Ljava/lang/Object;" (.ref es)
set_option maxRecDepth 65536 in
set_option maxHeartbeats 40000000 in
theorem rm20 (l : Launch) (Z : State) (a0 : Array Value) (hw : ∀ d ∈ tables_1, d.before a0 Z = true) (ws : List Jvm.Cond) (o0 : Addr) (es : Addr) (mc : Int32) (h0 : Heap) (n0 : Nat) (Z0 : n0 ≤ h0.size) (E_o0 : Exa Z h0 o0 "java/util/ArrayList") (F_modCount_o0 : Fld Z h0 o0 "java/util/AbstractList" "modCount" "I" (.int mc)) (F_size_o0 : Fld Z h0 o0 "java/util/ArrayList" "size" "I" (.int (0 : Int32))) (F_elementData_o0 : Fld Z h0 o0 "java/util/ArrayList" "elementData" "[Ljava/lang/Object;" (.ref es)) (V_es : own_AL Z h0 es (.object "java/lang/Object") (0 : Int32)) (g_o0 : n0 ≤ o0) :
    MetFree l (⟨"java/util/ArrayList", "shiftTailOverGap", "([Ljava/lang/Object;II)V"⟩ : MethodName) (head1 (Jvm.Cond.code (⟨"java/util/ArrayList", "shiftTailOverGap", "([Ljava/lang/Object;II)V"⟩ : MethodName) jdk_38_method_44_code 6 none :: ws) ({ frames := 1, cells := 0, slots := 0, locals := 18 } : Room)) (fun a U => a = #[(.ref o0), (.ref es), (.int (0 : Int32)), (.int (0 : Int32))] ∧ Z.Warmed39 U.vm ∧ U.heap = h0) (fun _ _ _ _ _ => True) (fun _ U o U' => ∃ v L, o = .returned v ∧ Q20 Z o0 es mc h0 n0 v U'.heap L ∧ FrameEnd U o U' L ({ frames := 1, cells := 0, slots := 0, locals := 18 } : Room).cells ({ frames := 1, cells := 0, slots := 0, locals := 18 } : Room).slots) := by
  refine MetFree.of_bodySF (plainFor_of_name pn_20) hisR ?_
  intro p e s m args below meth c s₁ Bd hml0 hP hK
  obtain ⟨rfl, hZ, hh⟩ := hP
  have hx := Bd.exec
  have hby := Bd.bytes
  have hml : c.maxLocals = 6 := hml0
  have hown : s.vm.findClass "java/util/ArrayList" = some m.cls := findClass_of_methodNamed Bd.named
  have hnm := (name_of_methodNamed Bd.named Bd.method).1
  have X0 : Stand p l e ({ frames := 1, cells := 0, slots := 0, locals := 18 } : Room) s m #[(.ref o0), (.ref es), (.int (0 : Int32)), (.int (0 : Int32))] below meth c s₁ [] 0 0 := Stand.of_body Bd
  have e0 : s₁.heap = h0 := by rw [← hh, Bd.state]; rfl
  have N0 := Fr.nil n0
  have pre0 : ∀ t, Steps p.tables e below (s₁.setTop (mkF m 0 #[.val (.ref o0), .val (.ref es), .val (.int (0 : Int32)), .val (.int (0 : Int32)), .unset, .unset] [])) t → Steps p.tables e below (s₁.setTop (entryFrame m #[(.ref o0), (.ref es), (.int (0 : Int32)), (.int (0 : Int32))] 6)) t := fun t k => castTop (ef_20 m o0 es (0 : Int32) (0 : Int32)) k
  obtain ⟨T1, X1, e1, st1⟩ := getF X0 hx hZ hown (host := "") (Or.inl (hw _ (List.mem_of_getElem? (i := 63) rfl))) Via.refl e0 F_size_o0 (g := (mkF m 5 #[.val (.ref o0), .val (.ref es), .val (.int (0 : Int32)), .val (.int (0 : Int32)), .unset, .unset] [(.ref o0), (.int (0 : Int32)), (.ref es), (.int (0 : Int32)), (.ref es)])) rfl rfl (hb hby d20_5)
  obtain ⟨T2, X2, e2, st2⟩ := own_cp0 X1 hx hZ hown (hw _ (List.mem_of_getElem? (i := 148) rfl)) (hw _ (List.mem_of_getElem? (i := 151) rfl)) (hw _ (List.mem_of_getElem? (i := 149) rfl)) (hw _ (List.mem_of_getElem? (i := 150) rfl)) e1 V_es (g := (mkF m 10 #[.val (.ref o0), .val (.ref es), .val (.int (0 : Int32)), .val (.int (0 : Int32)), .unset, .unset] [(.int (0 : Int32)), (.int (0 : Int32)), (.ref es), (.int (0 : Int32)), (.ref es)])) rfl (by rw [hml]; rfl) rfl (hb hby d20_10) (by decide) (W := 0) (by show 2 * 0 + _ ≤ _; exact Nat.le_of_eq rfl) (by decide)
  obtain ⟨T3, X3, e3, st3⟩ := getF X2 hx hZ hown (host := "") (Or.inl (hw _ (List.mem_of_getElem? (i := 63) rfl))) Via.refl e2 F_size_o0 (g := (mkF m 14 #[.val (.ref o0), .val (.ref es), .val (.int (0 : Int32)), .val (.int (0 : Int32)), .unset, .unset] [(.ref o0)])) rfl rfl (hb hby d20_14)
  obtain ⟨T4, X4, e4, st4⟩ := getF X3 hx hZ hown (host := "") (Or.inl (hw _ (List.mem_of_getElem? (i := 63) rfl))) Via.refl e3 F_size_o0 (g := (mkF m 21 #[.val (.ref o0), .val (.ref es), .val (.int (0 : Int32)), .val (.int (0 : Int32)), .val (.int (0 : Int32)), .unset] [(.ref o0), (.ref o0)])) rfl rfl (hb hby d20_21)
  obtain ⟨T5, h5, X5, e5, W5, st5⟩ := putF X4 hx hZ hown (host := "") (Or.inl (hw _ (List.mem_of_getElem? (i := 63) rfl))) Via.refl e4 F_size_o0 E_o0 (Or.inl (hw _ (List.mem_of_getElem? (i := 64) rfl))) (hw _ (List.mem_of_getElem? (i := 10) rfl)) (ty := .int) (by decide) rfl rfl (g := (mkF m 29 #[.val (.ref o0), .val (.ref es), .val (.int (0 : Int32)), .val (.int (0 : Int32)), .val (.int (0 : Int32)), .unset] [(.int (0 : Int32)), (.ref o0), (.int (0 : Int32))])) rfl rfl (hb hby d20_29)
  have Fw5 := F_size_o0.same W5
  have K6 : Keep h0 h5 [o0] := (Keep.refl h0 [o0]).wr W5 (Or.inl (List.mem_of_getElem? (i := 0) rfl))
  have Z7 : n0 ≤ h5.size := Nat.le_trans Z0 K6.1
  have N5 := Fr.snoc X5 N0 g_o0
  obtain ⟨LS5, X5, N5⟩ : ∃ L, Stand p l e ({ frames := 1, cells := 0, slots := 0, locals := 18 } : Room) s m #[(.ref o0), (.ref es), (.int (0 : Int32)), (.int (0 : Int32))] below meth c T5 L 0 0 ∧ Fr n0 L := ⟨_, X5, N5⟩
  have pre8 : ∀ t, Steps p.tables e below (T5.setTop (mkF m 38 #[.val (.ref o0), .val (.ref es), .val (.int (0 : Int32)), .val (.int (0 : Int32)), .val (.int (0 : Int32)), .val (.int (0 : Int32))] [(.int (0 : Int32)), (.int (0 : Int32))])) t → Steps p.tables e below (s₁.setTop (entryFrame m #[(.ref o0), (.ref es), (.int (0 : Int32)), (.int (0 : Int32))] 6)) t := fun t kt => pre0 t (by
      show Steps p.tables e below (s₁.setTop (mkF m 0 #[.val (.ref o0), .val (.ref es), .val (.int (0 : Int32)), .val (.int (0 : Int32)), .unset, .unset] [])) _
      refine XS.aloadN X0.here hx rfl (hb hby d20_0) rfl rfl ?_
      show Steps p.tables e below (s₁.setTop (mkF m 1 #[.val (.ref o0), .val (.ref es), .val (.int (0 : Int32)), .val (.int (0 : Int32)), .unset, .unset] [(.ref es)])) _
      refine XS.iloadN X0.here hx rfl (hb hby d20_1) rfl ?_
      show Steps p.tables e below (s₁.setTop (mkF m 2 #[.val (.ref o0), .val (.ref es), .val (.int (0 : Int32)), .val (.int (0 : Int32)), .unset, .unset] [(.int (0 : Int32)), (.ref es)])) _
      refine XS.aloadN X0.here hx rfl (hb hby d20_2) rfl rfl ?_
      show Steps p.tables e below (s₁.setTop (mkF m 3 #[.val (.ref o0), .val (.ref es), .val (.int (0 : Int32)), .val (.int (0 : Int32)), .unset, .unset] [(.ref es), (.int (0 : Int32)), (.ref es)])) _
      refine XS.iloadN X0.here hx rfl (hb hby d20_3) rfl ?_
      show Steps p.tables e below (s₁.setTop (mkF m 4 #[.val (.ref o0), .val (.ref es), .val (.int (0 : Int32)), .val (.int (0 : Int32)), .unset, .unset] [(.int (0 : Int32)), (.ref es), (.int (0 : Int32)), (.ref es)])) _
      refine XS.aloadN X0.here hx rfl (hb hby d20_4) rfl rfl ?_
      show Steps p.tables e below (s₁.setTop (mkF m 5 #[.val (.ref o0), .val (.ref es), .val (.int (0 : Int32)), .val (.int (0 : Int32)), .unset, .unset] [(.ref o0), (.int (0 : Int32)), (.ref es), (.int (0 : Int32)), (.ref es)])) _
      refine st1 _ ?_
      show Steps p.tables e below (T1.setTop (mkF m 8 #[.val (.ref o0), .val (.ref es), .val (.int (0 : Int32)), .val (.int (0 : Int32)), .unset, .unset] [(.int (0 : Int32)), (.int (0 : Int32)), (.ref es), (.int (0 : Int32)), (.ref es)])) _
      refine XS.iloadN X1.here hx rfl (hb hby d20_8) rfl ?_
      show Steps p.tables e below (T1.setTop (mkF m 9 #[.val (.ref o0), .val (.ref es), .val (.int (0 : Int32)), .val (.int (0 : Int32)), .unset, .unset] [(.int (0 : Int32)), (.int (0 : Int32)), (.int (0 : Int32)), (.ref es), (.int (0 : Int32)), (.ref es)])) _
      refine XS.isub X1.here hx rfl (hb hby d20_9) rfl ?_
      show Steps p.tables e below (T1.setTop (mkF m 10 #[.val (.ref o0), .val (.ref es), .val (.int (0 : Int32)), .val (.int (0 : Int32)), .unset, .unset] [(.int (0 : Int32)), (.int (0 : Int32)), (.ref es), (.int (0 : Int32)), (.ref es)])) _
      refine st2 _ ?_
      show Steps p.tables e below (T2.setTop (mkF m 13 #[.val (.ref o0), .val (.ref es), .val (.int (0 : Int32)), .val (.int (0 : Int32)), .unset, .unset] [])) _
      refine XS.aloadN X2.here hx rfl (hb hby d20_13) rfl rfl ?_
      show Steps p.tables e below (T2.setTop (mkF m 14 #[.val (.ref o0), .val (.ref es), .val (.int (0 : Int32)), .val (.int (0 : Int32)), .unset, .unset] [(.ref o0)])) _
      refine st3 _ ?_
      show Steps p.tables e below (T3.setTop (mkF m 17 #[.val (.ref o0), .val (.ref es), .val (.int (0 : Int32)), .val (.int (0 : Int32)), .unset, .unset] [(.int (0 : Int32))])) _
      refine XS.istore X3.here hx rfl (hb hby d20_17) rfl (l' := #[.val (.ref o0), .val (.ref es), .val (.int (0 : Int32)), .val (.int (0 : Int32)), .val (.int (0 : Int32)), .unset]) rfl ?_
      show Steps p.tables e below (T3.setTop (mkF m 19 #[.val (.ref o0), .val (.ref es), .val (.int (0 : Int32)), .val (.int (0 : Int32)), .val (.int (0 : Int32)), .unset] [])) _
      refine XS.aloadN X3.here hx rfl (hb hby d20_19) rfl rfl ?_
      show Steps p.tables e below (T3.setTop (mkF m 20 #[.val (.ref o0), .val (.ref es), .val (.int (0 : Int32)), .val (.int (0 : Int32)), .val (.int (0 : Int32)), .unset] [(.ref o0)])) _
      refine XS.dup X3.here hx rfl (hb hby d20_20) rfl rfl ?_
      show Steps p.tables e below (T3.setTop (mkF m 21 #[.val (.ref o0), .val (.ref es), .val (.int (0 : Int32)), .val (.int (0 : Int32)), .val (.int (0 : Int32)), .unset] [(.ref o0), (.ref o0)])) _
      refine st4 _ ?_
      show Steps p.tables e below (T4.setTop (mkF m 24 #[.val (.ref o0), .val (.ref es), .val (.int (0 : Int32)), .val (.int (0 : Int32)), .val (.int (0 : Int32)), .unset] [(.int (0 : Int32)), (.ref o0)])) _
      refine XS.iloadN X4.here hx rfl (hb hby d20_24) rfl ?_
      show Steps p.tables e below (T4.setTop (mkF m 25 #[.val (.ref o0), .val (.ref es), .val (.int (0 : Int32)), .val (.int (0 : Int32)), .val (.int (0 : Int32)), .unset] [(.int (0 : Int32)), (.int (0 : Int32)), (.ref o0)])) _
      refine XS.iloadN X4.here hx rfl (hb hby d20_25) rfl ?_
      show Steps p.tables e below (T4.setTop (mkF m 26 #[.val (.ref o0), .val (.ref es), .val (.int (0 : Int32)), .val (.int (0 : Int32)), .val (.int (0 : Int32)), .unset] [(.int (0 : Int32)), (.int (0 : Int32)), (.int (0 : Int32)), (.ref o0)])) _
      refine XS.isub X4.here hx rfl (hb hby d20_26) rfl ?_
      show Steps p.tables e below (T4.setTop (mkF m 27 #[.val (.ref o0), .val (.ref es), .val (.int (0 : Int32)), .val (.int (0 : Int32)), .val (.int (0 : Int32)), .unset] [(.int (0 : Int32)), (.int (0 : Int32)), (.ref o0)])) _
      refine XS.isub X4.here hx rfl (hb hby d20_27) rfl ?_
      show Steps p.tables e below (T4.setTop (mkF m 28 #[.val (.ref o0), .val (.ref es), .val (.int (0 : Int32)), .val (.int (0 : Int32)), .val (.int (0 : Int32)), .unset] [(.int (0 : Int32)), (.ref o0)])) _
      refine XS.dupX1 X4.here hx rfl (hb hby d20_28) rfl rfl rfl ?_
      show Steps p.tables e below (T4.setTop (mkF m 29 #[.val (.ref o0), .val (.ref es), .val (.int (0 : Int32)), .val (.int (0 : Int32)), .val (.int (0 : Int32)), .unset] [(.int (0 : Int32)), (.ref o0), (.int (0 : Int32))])) _
      refine st5 _ ?_
      show Steps p.tables e below (T5.setTop (mkF m 32 #[.val (.ref o0), .val (.ref es), .val (.int (0 : Int32)), .val (.int (0 : Int32)), .val (.int (0 : Int32)), .unset] [(.int (0 : Int32))])) _
      refine XS.istore X5.here hx rfl (hb hby d20_32) rfl (l' := #[.val (.ref o0), .val (.ref es), .val (.int (0 : Int32)), .val (.int (0 : Int32)), .val (.int (0 : Int32)), .val (.int (0 : Int32))]) rfl ?_
      show Steps p.tables e below (T5.setTop (mkF m 34 #[.val (.ref o0), .val (.ref es), .val (.int (0 : Int32)), .val (.int (0 : Int32)), .val (.int (0 : Int32)), .val (.int (0 : Int32))] [])) _
      refine XS.iload X5.here hx rfl (hb hby d20_34) rfl ?_
      show Steps p.tables e below (T5.setTop (mkF m 36 #[.val (.ref o0), .val (.ref es), .val (.int (0 : Int32)), .val (.int (0 : Int32)), .val (.int (0 : Int32)), .val (.int (0 : Int32))] [(.int (0 : Int32))])) _
      refine XS.iload X5.here hx rfl (hb hby d20_36) rfl ?_
      exact kt)
  obtain ⟨fs, hr, hrun, hended, hW, hsame⟩ := X5.leave (v := none) (fun _ => rfl)
  have c9 := (F_modCount_o0.other W5 (Or.inr (slot_ne (Or.inl (hw _ (List.mem_of_getElem? (i := 29) rfl))) (Or.inl (hw _ (List.mem_of_getElem? (i := 64) rfl))) (by decide) (t := .int) (t' := .int) (by decide) (by decide))))
  have c10 := (F_elementData_o0.other W5 (Or.inr (slot_ne (Or.inl (hw _ (List.mem_of_getElem? (i := 32) rfl))) (Or.inl (hw _ (List.mem_of_getElem? (i := 64) rfl))) (by decide) (t := (.array (.object "java/lang/Object"))) (t' := .int) (by decide) (by decide))))
  refine ⟨_, _, pre8 _ ?_, hrun, hended, _, _, rfl, ?_, ⟨_, rfl⟩, hW, hsame.mono (by decide) (by decide)⟩
  · show Steps p.tables e below (T5.setTop (mkF m 38 #[.val (.ref o0), .val (.ref es), .val (.int (0 : Int32)), .val (.int (0 : Int32)), .val (.int (0 : Int32)), .val (.int (0 : Int32))] [(.int (0 : Int32)), (.int (0 : Int32))])) _
    refine XS.icmpYes X5.here hx rfl (pc0 := 38) (pc' := 52) rfl (hb hby d20_38) rfl (flt (by decide : ¬ ((0 : Int32) < (0 : Int32)))).2.1 (by decide) (by decide) ?_
    show Steps p.tables e below (T5.setTop (mkF m 52 #[.val (.ref o0), .val (.ref es), .val (.int (0 : Int32)), .val (.int (0 : Int32)), .val (.int (0 : Int32)), .val (.int (0 : Int32))] [])) _
    exact X5.returnOut hx Bd.returns (hb hby d20_52) hr
  · show Q20 Z o0 es mc h0 n0 _ T5.heap _
    rw [e5]
    exact ⟨rfl, N5, K6, Fw5, c9, c10⟩
theorem d19_0 : decode jdk_38_method_43_code 0 = .ok (.iload_n 1, 1) := by decide +kernel
theorem d19_1 : decode jdk_38_method_43_code 1 = .ok (.iload_n 2, 1) := by decide +kernel
theorem d19_2 : decode jdk_38_method_43_code 2 = .ok (.if_icmp .le 16, 3) := by decide +kernel
theorem d19_18 : decode jdk_38_method_43_code 18 = .ok (.aload_n 0, 1) := by decide +kernel
theorem d19_19 : decode jdk_38_method_43_code 19 = .ok (.dup, 1) := by decide +kernel
theorem d19_20 : decode jdk_38_method_43_code 20 = .ok (.getfield 63, 3) := by decide +kernel
theorem d19_23 : decode jdk_38_method_43_code 23 = .ok (.iconst 1, 1) := by decide +kernel
theorem d19_24 : decode jdk_38_method_43_code 24 = .ok (.iadd, 1) := by decide +kernel
theorem d19_25 : decode jdk_38_method_43_code 25 = .ok (.putfield 63, 3) := by decide +kernel
theorem d19_28 : decode jdk_38_method_43_code 28 = .ok (.aload_n 0, 1) := by decide +kernel
theorem d19_29 : decode jdk_38_method_43_code 29 = .ok (.aload_n 0, 1) := by decide +kernel
theorem d19_30 : decode jdk_38_method_43_code 30 = .ok (.getfield 9, 3) := by decide +kernel
theorem d19_33 : decode jdk_38_method_43_code 33 = .ok (.iload_n 1, 1) := by decide +kernel
theorem d19_34 : decode jdk_38_method_43_code 34 = .ok (.iload_n 2, 1) := by decide +kernel
theorem d19_35 : decode jdk_38_method_43_code 35 = .ok (.invokevirtual 194, 3) := by decide +kernel
theorem d19_38 : decode jdk_38_method_43_code 38 = .ok (.return_, 1) := by decide +kernel
theorem pn_19 : plainName "java/util/ArrayList" = true := by first | (simp [plainName, overriddenIn]; done) | decide +kernel
theorem pd_19_0 : parseMethodDescriptor "([Ljava/lang/Object;II)V" = some ⟨[(.array (.object "java/lang/Object")), .int, .int], none⟩ := by decide +kernel
theorem ef_19 (m : MethodId) (x0 : Addr) (x1 : Int32) (x2 : Int32) : entryFrame m #[(.ref x0), (.int x1), (.int x2)] 3 = mkF m 0 #[.val (.ref x0), .val (.int x1), .val (.int x2)] [] := by first | (simp [entryFrame, mkF, argsToLocals, Value.category]; done) | rfl
def Q19 (Z : State) (o0 : Addr) (mc : Int32) (es : Addr) (h0 : Heap) (n0 : Nat) (v : Option Value) (h : Heap) (L : List Loc) : Prop := v = none ∧ Fr n0 L ∧ Keep h0 h [o0] ∧ Fld Z h o0 "java/util/AbstractList" "modCount" "I" (.int (mc + (1 : Int32))) ∧ Fld Z h o0 "java/util/ArrayList" "size" "I" (.int (0 : Int32)) ∧ Fld Z h o0 "java/util/ArrayList" "elementData" "[Ljava/lang/Object;" (.ref es)
set_option maxRecDepth 65536 in
set_option maxHeartbeats 40000000 in
theorem rm19 (l : Launch) (Z : State) (a0 : Array Value) (hw : ∀ d ∈ tables_1, d.before a0 Z = true) (ws : List Jvm.Cond) (o0 : Addr) (mc : Int32) (es : Addr) (h0 : Heap) (n0 : Nat) (Z0 : n0 ≤ h0.size) (E_o0 : Exa Z h0 o0 "java/util/ArrayList") (F_modCount_o0 : Fld Z h0 o0 "java/util/AbstractList" "modCount" "I" (.int mc)) (F_size_o0 : Fld Z h0 o0 "java/util/ArrayList" "size" "I" (.int (0 : Int32))) (F_elementData_o0 : Fld Z h0 o0 "java/util/ArrayList" "elementData" "[Ljava/lang/Object;" (.ref es)) (V_es : own_AL Z h0 es (.object "java/lang/Object") (0 : Int32)) (g_o0 : n0 ≤ o0) (ne_es_o0 : es ≠ o0) :
    MetFree l (⟨"java/util/ArrayList", "removeRange", "(II)V"⟩ : MethodName) (head1 (Jvm.Cond.code (⟨"java/util/ArrayList", "removeRange", "(II)V"⟩ : MethodName) jdk_38_method_43_code 3 none :: ws) ({ frames := 2, cells := 0, slots := 0, locals := 35 } : Room)) (fun a U => a = #[(.ref o0), (.int (0 : Int32)), (.int (0 : Int32))] ∧ Z.Warmed39 U.vm ∧ U.heap = h0) (fun _ _ _ _ _ => True) (fun _ U o U' => ∃ v L, o = .returned v ∧ Q19 Z o0 mc es h0 n0 v U'.heap L ∧ FrameEnd U o U' L ({ frames := 2, cells := 0, slots := 0, locals := 35 } : Room).cells ({ frames := 2, cells := 0, slots := 0, locals := 35 } : Room).slots) := by
  refine MetFree.of_bodySF (plainFor_of_name pn_19) hisR ?_
  intro p e s m args below meth c s₁ Bd hml0 hP hK
  obtain ⟨rfl, hZ, hh⟩ := hP
  have hx := Bd.exec
  have hby := Bd.bytes
  have hml : c.maxLocals = 3 := hml0
  have hown : s.vm.findClass "java/util/ArrayList" = some m.cls := findClass_of_methodNamed Bd.named
  have hnm := (name_of_methodNamed Bd.named Bd.method).1
  have X0 : Stand p l e ({ frames := 2, cells := 0, slots := 0, locals := 35 } : Room) s m #[(.ref o0), (.int (0 : Int32)), (.int (0 : Int32))] below meth c s₁ [] 0 0 := Stand.of_body Bd
  have e0 : s₁.heap = h0 := by rw [← hh, Bd.state]; rfl
  have N0 := Fr.nil n0
  have pre0 : ∀ t, Steps p.tables e below (s₁.setTop (mkF m 0 #[.val (.ref o0), .val (.int (0 : Int32)), .val (.int (0 : Int32))] [])) t → Steps p.tables e below (s₁.setTop (entryFrame m #[(.ref o0), (.int (0 : Int32)), (.int (0 : Int32))] 3)) t := fun t k => castTop (ef_19 m o0 (0 : Int32) (0 : Int32)) k
  have pre1 : ∀ t, Steps p.tables e below (s₁.setTop (mkF m 2 #[.val (.ref o0), .val (.int (0 : Int32)), .val (.int (0 : Int32))] [(.int (0 : Int32)), (.int (0 : Int32))])) t → Steps p.tables e below (s₁.setTop (entryFrame m #[(.ref o0), (.int (0 : Int32)), (.int (0 : Int32))] 3)) t := fun t kt => pre0 t (by
      show Steps p.tables e below (s₁.setTop (mkF m 0 #[.val (.ref o0), .val (.int (0 : Int32)), .val (.int (0 : Int32))] [])) _
      refine XS.iloadN X0.here hx rfl (hb hby d19_0) rfl ?_
      show Steps p.tables e below (s₁.setTop (mkF m 1 #[.val (.ref o0), .val (.int (0 : Int32)), .val (.int (0 : Int32))] [(.int (0 : Int32))])) _
      refine XS.iloadN X0.here hx rfl (hb hby d19_1) rfl ?_
      exact kt)
  obtain ⟨T2, X2, e2, st2⟩ := getF X0 hx hZ hown (host := "") (Or.inl (hw _ (List.mem_of_getElem? (i := 142) rfl))) (Via.of (hw _ (List.mem_of_getElem? (i := 108) rfl))) e0 F_modCount_o0 (g := (mkF m 20 #[.val (.ref o0), .val (.int (0 : Int32)), .val (.int (0 : Int32))] [(.ref o0), (.ref o0)])) rfl rfl (hb hby d19_20)
  obtain ⟨T3, h3, X3, e3, W3, st3⟩ := putF X2 hx hZ hown (host := "") (Or.inl (hw _ (List.mem_of_getElem? (i := 142) rfl))) (Via.of (hw _ (List.mem_of_getElem? (i := 108) rfl))) e2 F_modCount_o0 E_o0 (Or.inl (hw _ (List.mem_of_getElem? (i := 29) rfl))) (hw _ (List.mem_of_getElem? (i := 10) rfl)) (ty := .int) (by decide) rfl rfl (g := (mkF m 25 #[.val (.ref o0), .val (.int (0 : Int32)), .val (.int (0 : Int32))] [(.int (mc + (1 : Int32))), (.ref o0)])) rfl rfl (hb hby d19_25)
  have Fw3 := F_modCount_o0.same W3
  have K4 : Keep h0 h3 [o0] := (Keep.refl h0 [o0]).wr W3 (Or.inl (List.mem_of_getElem? (i := 0) rfl))
  have Z5 : n0 ≤ h3.size := Nat.le_trans Z0 K4.1
  have N3 := Fr.snoc X3 N0 g_o0
  obtain ⟨LS3, X3, N3⟩ : ∃ L, Stand p l e ({ frames := 2, cells := 0, slots := 0, locals := 35 } : Room) s m #[(.ref o0), (.int (0 : Int32)), (.int (0 : Int32))] below meth c T3 L 0 0 ∧ Fr n0 L := ⟨_, X3, N3⟩
  have c6 := (F_elementData_o0.other W3 (Or.inr (slot_ne (Or.inl (hw _ (List.mem_of_getElem? (i := 32) rfl))) (Or.inl (hw _ (List.mem_of_getElem? (i := 29) rfl))) (by decide) (t := (.array (.object "java/lang/Object"))) (t' := .int) (by decide) (by decide))))
  obtain ⟨T7, X7, e7, st7⟩ := getF X3 hx hZ hown (host := "") (Or.inl (hw _ (List.mem_of_getElem? (i := 31) rfl))) Via.refl e3 c6 (g := (mkF m 30 #[.val (.ref o0), .val (.int (0 : Int32)), .val (.int (0 : Int32))] [(.ref o0), (.ref o0)])) rfl rfl (hb hby d19_30)
  have c9 := (F_size_o0.other W3 (Or.inr (slot_ne (Or.inl (hw _ (List.mem_of_getElem? (i := 64) rfl))) (Or.inl (hw _ (List.mem_of_getElem? (i := 29) rfl))) (by decide) (t := .int) (t' := .int) (by decide) (by decide))))
  obtain ⟨cq8, q8, q8'⟩ := (E_o0.wr W3).cell
  obtain ⟨_, _, ⟨T8, L8, k8, n8⟩, -, X8, ⟨Lc8, hQ8, l8, y8, z8⟩, st8⟩ := X7.privateBack hx (y := (⟨"java/util/ArrayList", "shiftTailOverGap", "([Ljava/lang/Object;II)V"⟩ : MethodName)) hown (mvT hZ (hw _ (List.mem_of_getElem? (i := 143) rfl))) (mvT hZ (hw _ (List.mem_of_getElem? (i := 144) rfl))) (mvT hZ (hw _ (List.mem_of_getElem? (i := 146) rfl))) (Cond.privateMethod_at (mvP hZ (hw _ (List.mem_of_getElem? (i := 145) rfl)) (args := #[]))) (mvT hZ (hw _ (List.mem_of_getElem? (i := 147) rfl))) (by decide) (backOf (W := 0) (rm20 l Z a0 hw [] o0 es (mc + (1 : Int32)) h3 n0 Z5 (E_o0.wr W3) Fw3 c9 c6 (V_es.other W3 ne_es_o0) g_o0) hZ (hw _ (List.mem_of_getElem? (i := 147) rfl)) (hw _ (List.mem_of_getElem? (i := 11) rfl)) (by decide) (by decide)) (g := (mkF m 35 #[.val (.ref o0), .val (.int (0 : Int32)), .val (.int (0 : Int32))] [(.int (0 : Int32)), (.int (0 : Int32)), (.ref es), (.ref o0)])) rfl (by rw [hml]; rfl) (Steps.refl _) (a := o0) (by rw [e7]; exact q8) q8' (argsL := [(.ref es), (.int (0 : Int32)), (.int (0 : Int32))]) (rest := []) (lenOf pd_19_0 rfl) rfl (by show 2 * 0 + _ ≤ _; exact Nat.le_of_eq rfl) (hb hby d19_35) (fun _ _ => ⟨rfl, e7, (by decide : 0 + 0 ≤ _), (by decide : 0 + 0 ≤ _)⟩)
  dsimp only [Pt.U, Pt.locs, Pt.cells, Pt.slots] at X8 l8 y8 z8 st8 hQ8
  subst l8 y8 z8
  obtain ⟨rfl, N8q, K8q, G8_0, G8_1, G8_2⟩ := hQ8
  have N8 := Fr.app N3 N8q
  have K10 : Keep h0 T8.heap [o0] := K4.trans K8q (allS (Or.inl (List.mem_of_getElem? (i := 0) rfl)) all0)
  have Z11 : n0 ≤ T8.heap.size := Nat.le_trans Z0 K10.1
  obtain ⟨LS8, X8, N8⟩ : ∃ L, Stand p l e ({ frames := 2, cells := 0, slots := 0, locals := 35 } : Room) s m #[(.ref o0), (.int (0 : Int32)), (.int (0 : Int32))] below meth c T8 L 0 0 ∧ Fr n0 L := ⟨_, X8, N8⟩
  obtain ⟨fs, hr, hrun, hended, hW, hsame⟩ := X8.leave (v := none) (fun _ => rfl)
  refine ⟨_, _, pre1 _ ?_, hrun, hended, _, _, rfl, ?_, ⟨_, rfl⟩, hW, hsame.mono (by decide) (by decide)⟩
  · show Steps p.tables e below (s₁.setTop (mkF m 2 #[.val (.ref o0), .val (.int (0 : Int32)), .val (.int (0 : Int32))] [(.int (0 : Int32)), (.int (0 : Int32))])) _
    refine XS.icmpYes X0.here hx rfl (pc0 := 2) (pc' := 18) rfl (hb hby d19_2) rfl (flt (by decide : ¬ ((0 : Int32) < (0 : Int32)))).2.2.2 (by decide) (by decide) ?_
    show Steps p.tables e below (s₁.setTop (mkF m 18 #[.val (.ref o0), .val (.int (0 : Int32)), .val (.int (0 : Int32))] [])) _
    refine XS.aloadN X0.here hx rfl (hb hby d19_18) rfl rfl ?_
    show Steps p.tables e below (s₁.setTop (mkF m 19 #[.val (.ref o0), .val (.int (0 : Int32)), .val (.int (0 : Int32))] [(.ref o0)])) _
    refine XS.dup X0.here hx rfl (hb hby d19_19) rfl rfl ?_
    show Steps p.tables e below (s₁.setTop (mkF m 20 #[.val (.ref o0), .val (.int (0 : Int32)), .val (.int (0 : Int32))] [(.ref o0), (.ref o0)])) _
    refine st2 _ ?_
    show Steps p.tables e below (T2.setTop (mkF m 23 #[.val (.ref o0), .val (.int (0 : Int32)), .val (.int (0 : Int32))] [(.int mc), (.ref o0)])) _
    refine XS.iconst X2.here hx rfl (hb hby d19_23) ?_
    show Steps p.tables e below (T2.setTop (mkF m 24 #[.val (.ref o0), .val (.int (0 : Int32)), .val (.int (0 : Int32))] [(.int (1 : Int32)), (.int mc), (.ref o0)])) _
    refine XS.iadd X2.here hx rfl (hb hby d19_24) rfl ?_
    show Steps p.tables e below (T2.setTop (mkF m 25 #[.val (.ref o0), .val (.int (0 : Int32)), .val (.int (0 : Int32))] [(.int (mc + (1 : Int32))), (.ref o0)])) _
    refine st3 _ ?_
    show Steps p.tables e below (T3.setTop (mkF m 28 #[.val (.ref o0), .val (.int (0 : Int32)), .val (.int (0 : Int32))] [])) _
    refine XS.aloadN X3.here hx rfl (hb hby d19_28) rfl rfl ?_
    show Steps p.tables e below (T3.setTop (mkF m 29 #[.val (.ref o0), .val (.int (0 : Int32)), .val (.int (0 : Int32))] [(.ref o0)])) _
    refine XS.aloadN X3.here hx rfl (hb hby d19_29) rfl rfl ?_
    show Steps p.tables e below (T3.setTop (mkF m 30 #[.val (.ref o0), .val (.int (0 : Int32)), .val (.int (0 : Int32))] [(.ref o0), (.ref o0)])) _
    refine st7 _ ?_
    show Steps p.tables e below (T7.setTop (mkF m 33 #[.val (.ref o0), .val (.int (0 : Int32)), .val (.int (0 : Int32))] [(.ref es), (.ref o0)])) _
    refine XS.iloadN X7.here hx rfl (hb hby d19_33) rfl ?_
    show Steps p.tables e below (T7.setTop (mkF m 34 #[.val (.ref o0), .val (.int (0 : Int32)), .val (.int (0 : Int32))] [(.int (0 : Int32)), (.ref es), (.ref o0)])) _
    refine XS.iloadN X7.here hx rfl (hb hby d19_34) rfl ?_
    show Steps p.tables e below (T7.setTop (mkF m 35 #[.val (.ref o0), .val (.int (0 : Int32)), .val (.int (0 : Int32))] [(.int (0 : Int32)), (.int (0 : Int32)), (.ref es), (.ref o0)])) _
    refine st8.trans ?_
    show Steps p.tables e below (T8.setTop (mkF m 38 #[.val (.ref o0), .val (.int (0 : Int32)), .val (.int (0 : Int32))] [])) _
    exact X8.returnOut hx Bd.returns (hb hby d19_38) hr
  · show Q19 Z o0 mc es h0 n0 _ T8.heap _
    exact ⟨rfl, N8, K10, G8_1, G8_0, G8_2⟩
theorem d21_0 : decode jdk_130_method_29_code 0 = .ok (.aload_n 0, 1) := by decide +kernel
theorem d21_1 : decode jdk_130_method_29_code 1 = .ok (.astore_n 2, 1) := by decide +kernel
theorem d21_2 : decode jdk_130_method_29_code 2 = .ok (.aload_n 2, 1) := by decide +kernel
theorem d21_3 : decode jdk_130_method_29_code 3 = .ok (.dup, 1) := by decide +kernel
theorem d21_4 : decode jdk_130_method_29_code 4 = .ok (.getfield 21, 3) := by decide +kernel
theorem d21_7 : decode jdk_130_method_29_code 7 = .ok (.iload_n 1, 1) := by decide +kernel
theorem d21_8 : decode jdk_130_method_29_code 8 = .ok (.iadd, 1) := by decide +kernel
theorem d21_9 : decode jdk_130_method_29_code 9 = .ok (.putfield 21, 3) := by decide +kernel
theorem d21_12 : decode jdk_130_method_29_code 12 = .ok (.aload_n 2, 1) := by decide +kernel
theorem d21_13 : decode jdk_130_method_29_code 13 = .ok (.aload_n 0, 1) := by decide +kernel
theorem d21_14 : decode jdk_130_method_29_code 14 = .ok (.getfield 7, 3) := by decide +kernel
theorem d21_17 : decode jdk_130_method_29_code 17 = .ok (.getfield 24, 3) := by decide +kernel
theorem d21_20 : decode jdk_130_method_29_code 20 = .ok (.putfield 29, 3) := by decide +kernel
theorem d21_23 : decode jdk_130_method_29_code 23 = .ok (.aload_n 2, 1) := by decide +kernel
theorem d21_24 : decode jdk_130_method_29_code 24 = .ok (.getfield 13, 3) := by decide +kernel
theorem d21_27 : decode jdk_130_method_29_code 27 = .ok (.astore_n 2, 1) := by decide +kernel
theorem d21_28 : decode jdk_130_method_29_code 28 = .ok (.aload_n 2, 1) := by decide +kernel
theorem d21_29 : decode jdk_130_method_29_code 29 = .ok (.ifnonnull (-27), 3) := by decide +kernel
theorem d21_32 : decode jdk_130_method_29_code 32 = .ok (.return_, 1) := by decide +kernel
theorem pn_21 : plainName "java/util/ArrayList$SubList" = true := by first | (simp [plainName, overriddenIn]; done) | decide +kernel
theorem ef_21 (m : MethodId) (x0 : Addr) (x1 : Int32) : entryFrame m #[(.ref x0), (.int x1)] 3 = mkF m 0 #[.val (.ref x0), .val (.int x1), .unset] [] := by first | (simp [entryFrame, mkF, argsToLocals, Value.category]; done) | rfl
def Q21 (Z : State) (o0 : Addr) (mk : Int32) (mc : Int32) (u1 : Addr) (h0 : Heap) (n0 : Nat) (v : Option Value) (h : Heap) (L : List Loc) : Prop := v = none ∧ Fr n0 L ∧ Keep h0 h [o0] ∧ Fld Z h o0 "java/util/ArrayList$SubList" "size" "I" (.int (0 : Int32)) ∧ Fld Z h o0 "java/util/AbstractList" "modCount" "I" (.int mc)
set_option maxRecDepth 65536 in
set_option maxHeartbeats 40000000 in
theorem rm21 (l : Launch) (Z : State) (a0 : Array Value) (hw : ∀ d ∈ tables_1, d.before a0 Z = true) (ws : List Jvm.Cond) (o0 : Addr) (mk : Int32) (mc : Int32) (u1 : Addr) (h0 : Heap) (n0 : Nat) (Z0 : n0 ≤ h0.size) (E_o0 : Exa Z h0 o0 "java/util/ArrayList$SubList") (F_modCount_o0 : Fld Z h0 o0 "java/util/AbstractList" "modCount" "I" (.int mk)) (F_size_o0 : Fld Z h0 o0 "java/util/ArrayList$SubList" "size" "I" (.int (0 : Int32))) (F_root_o0 : Fld Z h0 o0 "java/util/ArrayList$SubList" "root" "Ljava/util/ArrayList;" (.ref u1)) (F_parent_o0 : Fld Z h0 o0 "java/util/ArrayList$SubList" "parent" "Ljava/util/ArrayList$SubList;" .null) (F_modCount_u1 : Fld Z h0 u1 "java/util/AbstractList" "modCount" "I" (.int mc)) (ne_o0_u1 : o0 ≠ u1) (g_o0 : n0 ≤ o0) :
    MetFree l (⟨"java/util/ArrayList$SubList", "updateSizeAndModCount", "(I)V"⟩ : MethodName) (head1 (Jvm.Cond.code (⟨"java/util/ArrayList$SubList", "updateSizeAndModCount", "(I)V"⟩ : MethodName) jdk_130_method_29_code 3 none :: ws) ({ frames := 0, cells := 0, slots := 0, locals := 0 } : Room)) (fun a U => a = #[(.ref o0), (.int (0 : Int32))] ∧ Z.Warmed39 U.vm ∧ U.heap = h0) (fun _ _ _ _ _ => True) (fun _ U o U' => ∃ v L, o = .returned v ∧ Q21 Z o0 mk mc u1 h0 n0 v U'.heap L ∧ FrameEnd U o U' L ({ frames := 0, cells := 0, slots := 0, locals := 0 } : Room).cells ({ frames := 0, cells := 0, slots := 0, locals := 0 } : Room).slots) := by
  refine MetFree.of_bodySF (plainFor_of_name pn_21) hisR ?_
  intro p e s m args below meth c s₁ Bd hml0 hP hK
  obtain ⟨rfl, hZ, hh⟩ := hP
  have hx := Bd.exec
  have hby := Bd.bytes
  have hml : c.maxLocals = 3 := hml0
  have hown : s.vm.findClass "java/util/ArrayList$SubList" = some m.cls := findClass_of_methodNamed Bd.named
  have hnm := (name_of_methodNamed Bd.named Bd.method).1
  have X0 : Stand p l e ({ frames := 0, cells := 0, slots := 0, locals := 0 } : Room) s m #[(.ref o0), (.int (0 : Int32))] below meth c s₁ [] 0 0 := Stand.of_body Bd
  have e0 : s₁.heap = h0 := by rw [← hh, Bd.state]; rfl
  have N0 := Fr.nil n0
  have pre0 : ∀ t, Steps p.tables e below (s₁.setTop (mkF m 0 #[.val (.ref o0), .val (.int (0 : Int32)), .unset] [])) t → Steps p.tables e below (s₁.setTop (entryFrame m #[(.ref o0), (.int (0 : Int32))] 3)) t := fun t k => castTop (ef_21 m o0 (0 : Int32)) k
  obtain ⟨T1, X1, e1, st1⟩ := getF X0 hx hZ hown (host := "") (Or.inl (hw _ (List.mem_of_getElem? (i := 105) rfl))) Via.refl e0 F_size_o0 (g := (mkF m 4 #[.val (.ref o0), .val (.int (0 : Int32)), .val (.ref o0)] [(.ref o0), (.ref o0)])) rfl rfl (hb hby d21_4)
  obtain ⟨T2, h2, X2, e2, W2, st2⟩ := putF X1 hx hZ hown (host := "") (Or.inl (hw _ (List.mem_of_getElem? (i := 105) rfl))) Via.refl e1 F_size_o0 E_o0 (Or.inl (hw _ (List.mem_of_getElem? (i := 106) rfl))) (hw _ (List.mem_of_getElem? (i := 89) rfl)) (ty := .int) (by decide) rfl rfl (g := (mkF m 9 #[.val (.ref o0), .val (.int (0 : Int32)), .val (.ref o0)] [(.int (0 : Int32)), (.ref o0)])) rfl rfl (hb hby d21_9)
  have Fw2 := F_size_o0.same W2
  have K3 : Keep h0 h2 [o0] := (Keep.refl h0 [o0]).wr W2 (Or.inl (List.mem_of_getElem? (i := 0) rfl))
  have Z4 : n0 ≤ h2.size := Nat.le_trans Z0 K3.1
  have N2 := Fr.snoc X2 N0 g_o0
  obtain ⟨LS2, X2, N2⟩ : ∃ L, Stand p l e ({ frames := 0, cells := 0, slots := 0, locals := 0 } : Room) s m #[(.ref o0), (.int (0 : Int32))] below meth c T2 L 0 0 ∧ Fr n0 L := ⟨_, X2, N2⟩
  have c5 := (F_root_o0.other W2 (Or.inr (slot_ne (Or.inr (hw _ (List.mem_of_getElem? (i := 100) rfl))) (Or.inl (hw _ (List.mem_of_getElem? (i := 106) rfl))) (by decide) (t := (.object "java/util/ArrayList")) (t' := .int) (by decide) (by decide))))
  obtain ⟨T6, X6, e6, st6⟩ := getF X2 hx hZ hown (host := "") (Or.inl (hw _ (List.mem_of_getElem? (i := 99) rfl))) Via.refl e2 c5 (g := (mkF m 14 #[.val (.ref o0), .val (.int (0 : Int32)), .val (.ref o0)] [(.ref o0), (.ref o0)])) rfl rfl (hb hby d21_14)
  obtain ⟨T7, X7, e7, st7⟩ := getF X6 hx hZ hown (host := "") (Or.inl (hw _ (List.mem_of_getElem? (i := 107) rfl))) (Via.of (hw _ (List.mem_of_getElem? (i := 108) rfl))) e6 (F_modCount_u1.other W2 (Or.inl (Ne.symm ne_o0_u1))) (g := (mkF m 17 #[.val (.ref o0), .val (.int (0 : Int32)), .val (.ref o0)] [(.ref u1), (.ref o0)])) rfl rfl (hb hby d21_17)
  have c8 := (F_modCount_o0.other W2 (Or.inr (slot_ne (Or.inl (hw _ (List.mem_of_getElem? (i := 98) rfl))) (Or.inl (hw _ (List.mem_of_getElem? (i := 106) rfl))) (by decide) (t := .int) (t' := .int) (by decide) (by decide))))
  obtain ⟨T9, h9, X9, e9, W9, st9⟩ := putF X7 hx hZ hown (host := "") (Or.inl (hw _ (List.mem_of_getElem? (i := 109) rfl))) (Via.of (hw _ (List.mem_of_getElem? (i := 110) rfl))) e7 c8 (E_o0.wr W2) (Or.inl (hw _ (List.mem_of_getElem? (i := 98) rfl))) (hw _ (List.mem_of_getElem? (i := 89) rfl)) (ty := .int) (by decide) rfl rfl (g := (mkF m 20 #[.val (.ref o0), .val (.int (0 : Int32)), .val (.ref o0)] [(.int mc), (.ref o0)])) rfl rfl (hb hby d21_20)
  have Fw9 := c8.same W9
  have K10 : Keep h0 h9 [o0] := K3.wr W9 (Or.inl (List.mem_of_getElem? (i := 0) rfl))
  have Z11 : n0 ≤ h9.size := Nat.le_trans Z0 K10.1
  have N9 := Fr.snoc X9 N2 g_o0
  obtain ⟨LS9, X9, N9⟩ : ∃ L, Stand p l e ({ frames := 0, cells := 0, slots := 0, locals := 0 } : Room) s m #[(.ref o0), (.int (0 : Int32))] below meth c T9 L 0 0 ∧ Fr n0 L := ⟨_, X9, N9⟩
  have c12 := ((F_parent_o0.other W2 (Or.inr (slot_ne (Or.inr (hw _ (List.mem_of_getElem? (i := 102) rfl))) (Or.inl (hw _ (List.mem_of_getElem? (i := 106) rfl))) (by decide) (t := (.object "java/util/ArrayList$SubList")) (t' := .int) (by decide) (by decide)))).other W9 (Or.inr (slot_ne (Or.inr (hw _ (List.mem_of_getElem? (i := 102) rfl))) (Or.inl (hw _ (List.mem_of_getElem? (i := 98) rfl))) (by decide) (t := (.object "java/util/ArrayList$SubList")) (t' := .int) (by decide) (by decide))))
  obtain ⟨T13, X13, e13, st13⟩ := getF X9 hx hZ hown (host := "") (Or.inl (hw _ (List.mem_of_getElem? (i := 101) rfl))) Via.refl e9 c12 (g := (mkF m 24 #[.val (.ref o0), .val (.int (0 : Int32)), .val (.ref o0)] [(.ref o0)])) rfl rfl (hb hby d21_24)
  obtain ⟨fs, hr, hrun, hended, hW, hsame⟩ := X13.leave (v := none) (fun _ => rfl)
  have c14 := (Fw2.other W9 (Or.inr (slot_ne (Or.inl (hw _ (List.mem_of_getElem? (i := 106) rfl))) (Or.inl (hw _ (List.mem_of_getElem? (i := 98) rfl))) (by decide) (t := .int) (t' := .int) (by decide) (by decide))))
  refine ⟨_, _, pre0 _ ?_, hrun, hended, _, _, rfl, ?_, ⟨_, rfl⟩, hW, hsame.mono (by decide) (by decide)⟩
  · show Steps p.tables e below (s₁.setTop (mkF m 0 #[.val (.ref o0), .val (.int (0 : Int32)), .unset] [])) _
    refine XS.aloadN X0.here hx rfl (hb hby d21_0) rfl rfl ?_
    show Steps p.tables e below (s₁.setTop (mkF m 1 #[.val (.ref o0), .val (.int (0 : Int32)), .unset] [(.ref o0)])) _
    refine XS.astoreN X0.here hx rfl (hb hby d21_1) rfl rfl (l' := #[.val (.ref o0), .val (.int (0 : Int32)), .val (.ref o0)]) rfl ?_
    show Steps p.tables e below (s₁.setTop (mkF m 2 #[.val (.ref o0), .val (.int (0 : Int32)), .val (.ref o0)] [])) _
    refine XS.aloadN X0.here hx rfl (hb hby d21_2) rfl rfl ?_
    show Steps p.tables e below (s₁.setTop (mkF m 3 #[.val (.ref o0), .val (.int (0 : Int32)), .val (.ref o0)] [(.ref o0)])) _
    refine XS.dup X0.here hx rfl (hb hby d21_3) rfl rfl ?_
    show Steps p.tables e below (s₁.setTop (mkF m 4 #[.val (.ref o0), .val (.int (0 : Int32)), .val (.ref o0)] [(.ref o0), (.ref o0)])) _
    refine st1 _ ?_
    show Steps p.tables e below (T1.setTop (mkF m 7 #[.val (.ref o0), .val (.int (0 : Int32)), .val (.ref o0)] [(.int (0 : Int32)), (.ref o0)])) _
    refine XS.iloadN X1.here hx rfl (hb hby d21_7) rfl ?_
    show Steps p.tables e below (T1.setTop (mkF m 8 #[.val (.ref o0), .val (.int (0 : Int32)), .val (.ref o0)] [(.int (0 : Int32)), (.int (0 : Int32)), (.ref o0)])) _
    refine XS.iadd X1.here hx rfl (hb hby d21_8) rfl ?_
    show Steps p.tables e below (T1.setTop (mkF m 9 #[.val (.ref o0), .val (.int (0 : Int32)), .val (.ref o0)] [(.int (0 : Int32)), (.ref o0)])) _
    refine st2 _ ?_
    show Steps p.tables e below (T2.setTop (mkF m 12 #[.val (.ref o0), .val (.int (0 : Int32)), .val (.ref o0)] [])) _
    refine XS.aloadN X2.here hx rfl (hb hby d21_12) rfl rfl ?_
    show Steps p.tables e below (T2.setTop (mkF m 13 #[.val (.ref o0), .val (.int (0 : Int32)), .val (.ref o0)] [(.ref o0)])) _
    refine XS.aloadN X2.here hx rfl (hb hby d21_13) rfl rfl ?_
    show Steps p.tables e below (T2.setTop (mkF m 14 #[.val (.ref o0), .val (.int (0 : Int32)), .val (.ref o0)] [(.ref o0), (.ref o0)])) _
    refine st6 _ ?_
    show Steps p.tables e below (T6.setTop (mkF m 17 #[.val (.ref o0), .val (.int (0 : Int32)), .val (.ref o0)] [(.ref u1), (.ref o0)])) _
    refine st7 _ ?_
    show Steps p.tables e below (T7.setTop (mkF m 20 #[.val (.ref o0), .val (.int (0 : Int32)), .val (.ref o0)] [(.int mc), (.ref o0)])) _
    refine st9 _ ?_
    show Steps p.tables e below (T9.setTop (mkF m 23 #[.val (.ref o0), .val (.int (0 : Int32)), .val (.ref o0)] [])) _
    refine XS.aloadN X9.here hx rfl (hb hby d21_23) rfl rfl ?_
    show Steps p.tables e below (T9.setTop (mkF m 24 #[.val (.ref o0), .val (.int (0 : Int32)), .val (.ref o0)] [(.ref o0)])) _
    refine st13 _ ?_
    show Steps p.tables e below (T13.setTop (mkF m 27 #[.val (.ref o0), .val (.int (0 : Int32)), .val (.ref o0)] [.null])) _
    refine XS.astoreN X13.here hx rfl (hb hby d21_27) rfl rfl (l' := #[.val (.ref o0), .val (.int (0 : Int32)), .val .null]) rfl ?_
    show Steps p.tables e below (T13.setTop (mkF m 28 #[.val (.ref o0), .val (.int (0 : Int32)), .val .null] [])) _
    refine XS.aloadN X13.here hx rfl (hb hby d21_28) rfl rfl ?_
    show Steps p.tables e below (T13.setTop (mkF m 29 #[.val (.ref o0), .val (.int (0 : Int32)), .val .null] [.null])) _
    refine XS.ifnonnullNo X13.here hx rfl (hb hby d21_29) rfl ?_
    show Steps p.tables e below (T13.setTop (mkF m 32 #[.val (.ref o0), .val (.int (0 : Int32)), .val .null] [])) _
    exact X13.returnOut hx Bd.returns (hb hby d21_32) hr
  · show Q21 Z o0 mk mc u1 h0 n0 _ T13.heap _
    rw [e13]
    exact ⟨rfl, N9, K10, c14, Fw9⟩
theorem d18_0 : decode jdk_130_method_8_code 0 = .ok (.aload_n 0, 1) := by decide +kernel
theorem d18_1 : decode jdk_130_method_8_code 1 = .ok (.invokevirtual 36, 3) := by decide +kernel
theorem d18_4 : decode jdk_130_method_8_code 4 = .ok (.aload_n 0, 1) := by decide +kernel
theorem d18_5 : decode jdk_130_method_8_code 5 = .ok (.getfield 7, 3) := by decide +kernel
theorem d18_8 : decode jdk_130_method_8_code 8 = .ok (.aload_n 0, 1) := by decide +kernel
theorem d18_9 : decode jdk_130_method_8_code 9 = .ok (.getfield 17, 3) := by decide +kernel
theorem d18_12 : decode jdk_130_method_8_code 12 = .ok (.iload_n 1, 1) := by decide +kernel
theorem d18_13 : decode jdk_130_method_8_code 13 = .ok (.iadd, 1) := by decide +kernel
theorem d18_14 : decode jdk_130_method_8_code 14 = .ok (.aload_n 0, 1) := by decide +kernel
theorem d18_15 : decode jdk_130_method_8_code 15 = .ok (.getfield 17, 3) := by decide +kernel
theorem d18_18 : decode jdk_130_method_8_code 18 = .ok (.iload_n 2, 1) := by decide +kernel
theorem d18_19 : decode jdk_130_method_8_code 19 = .ok (.iadd, 1) := by decide +kernel
theorem d18_20 : decode jdk_130_method_8_code 20 = .ok (.invokevirtual 60, 3) := by decide +kernel
theorem d18_23 : decode jdk_130_method_8_code 23 = .ok (.aload_n 0, 1) := by decide +kernel
theorem d18_24 : decode jdk_130_method_8_code 24 = .ok (.iload_n 1, 1) := by decide +kernel
theorem d18_25 : decode jdk_130_method_8_code 25 = .ok (.iload_n 2, 1) := by decide +kernel
theorem d18_26 : decode jdk_130_method_8_code 26 = .ok (.isub, 1) := by decide +kernel
theorem d18_27 : decode jdk_130_method_8_code 27 = .ok (.invokevirtual 54, 3) := by decide +kernel
theorem d18_30 : decode jdk_130_method_8_code 30 = .ok (.return_, 1) := by decide +kernel
theorem pn_18 : plainName "java/util/ArrayList$SubList" = true := by first | (simp [plainName, overriddenIn]; done) | decide +kernel
theorem pd_18_0 : parseMethodDescriptor "()V" = some ⟨[], none⟩ := by decide +kernel
theorem pd_18_1 : parseMethodDescriptor "(II)V" = some ⟨[.int, .int], none⟩ := by decide +kernel
theorem pd_18_2 : parseMethodDescriptor "(I)V" = some ⟨[.int], none⟩ := by decide +kernel
theorem ef_18 (m : MethodId) (x0 : Addr) (x1 : Int32) (x2 : Int32) : entryFrame m #[(.ref x0), (.int x1), (.int x2)] 3 = mkF m 0 #[.val (.ref x0), .val (.int x1), .val (.int x2)] [] := by first | (simp [entryFrame, mkF, argsToLocals, Value.category]; done) | rfl
def Q18 (Z : State) (o0 : Addr) (mc : Int32) (u1 : Addr) (es : Addr) (h0 : Heap) (n0 : Nat) (v : Option Value) (h : Heap) (L : List Loc) : Prop := v = none ∧ Fr n0 L ∧ Keep h0 h [u1, o0] ∧ Fld Z h u1 "java/util/AbstractList" "modCount" "I" (.int (mc + (1 : Int32))) ∧ Fld Z h u1 "java/util/ArrayList" "size" "I" (.int (0 : Int32)) ∧ Fld Z h u1 "java/util/ArrayList" "elementData" "[Ljava/lang/Object;" (.ref es) ∧ Fld Z h o0 "java/util/ArrayList$SubList" "size" "I" (.int (0 : Int32)) ∧ Fld Z h o0 "java/util/AbstractList" "modCount" "I" (.int (mc + (1 : Int32)))
set_option maxRecDepth 65536 in
set_option maxHeartbeats 40000000 in
theorem rm18 (l : Launch) (Z : State) (a0 : Array Value) (hw : ∀ d ∈ tables_1, d.before a0 Z = true) (ws : List Jvm.Cond) (o0 : Addr) (mc : Int32) (u1 : Addr) (es : Addr) (h0 : Heap) (n0 : Nat) (Z0 : n0 ≤ h0.size) (E_o0 : Exa Z h0 o0 "java/util/ArrayList$SubList") (F_modCount_o0 : Fld Z h0 o0 "java/util/AbstractList" "modCount" "I" (.int mc)) (F_size_o0 : Fld Z h0 o0 "java/util/ArrayList$SubList" "size" "I" (.int (0 : Int32))) (F_offset_o0 : Fld Z h0 o0 "java/util/ArrayList$SubList" "offset" "I" (.int (0 : Int32))) (F_root_o0 : Fld Z h0 o0 "java/util/ArrayList$SubList" "root" "Ljava/util/ArrayList;" (.ref u1)) (F_parent_o0 : Fld Z h0 o0 "java/util/ArrayList$SubList" "parent" "Ljava/util/ArrayList$SubList;" .null) (E_u1 : Exa Z h0 u1 "java/util/ArrayList") (F_modCount_u1 : Fld Z h0 u1 "java/util/AbstractList" "modCount" "I" (.int mc)) (F_size_u1 : Fld Z h0 u1 "java/util/ArrayList" "size" "I" (.int (0 : Int32))) (F_elementData_u1 : Fld Z h0 u1 "java/util/ArrayList" "elementData" "[Ljava/lang/Object;" (.ref es)) (ne_o0_u1 : o0 ≠ u1) (g_o0 : n0 ≤ o0) (g_u1 : n0 ≤ u1) (V_es : own_AL Z h0 es (.object "java/lang/Object") (0 : Int32)) (ne_es_o0 : es ≠ o0) (ne_es_u1 : es ≠ u1) :
    MetFree l (⟨"java/util/ArrayList$SubList", "removeRange", "(II)V"⟩ : MethodName) (head1 (Jvm.Cond.code (⟨"java/util/ArrayList$SubList", "removeRange", "(II)V"⟩ : MethodName) jdk_130_method_8_code 3 none :: ws) ({ frames := 3, cells := 0, slots := 0, locals := 49 } : Room)) (fun a U => a = #[(.ref o0), (.int (0 : Int32)), (.int (0 : Int32))] ∧ Z.Warmed39 U.vm ∧ U.heap = h0) (fun _ _ _ _ _ => True) (fun _ U o U' => ∃ v L, o = .returned v ∧ Q18 Z o0 mc u1 es h0 n0 v U'.heap L ∧ FrameEnd U o U' L ({ frames := 3, cells := 0, slots := 0, locals := 49 } : Room).cells ({ frames := 3, cells := 0, slots := 0, locals := 49 } : Room).slots) := by
  refine MetFree.of_bodySF (plainFor_of_name pn_18) hisR ?_
  intro p e s m args below meth c s₁ Bd hml0 hP hK
  obtain ⟨rfl, hZ, hh⟩ := hP
  have hx := Bd.exec
  have hby := Bd.bytes
  have hml : c.maxLocals = 3 := hml0
  have hown : s.vm.findClass "java/util/ArrayList$SubList" = some m.cls := findClass_of_methodNamed Bd.named
  have hnm := (name_of_methodNamed Bd.named Bd.method).1
  have X0 : Stand p l e ({ frames := 3, cells := 0, slots := 0, locals := 49 } : Room) s m #[(.ref o0), (.int (0 : Int32)), (.int (0 : Int32))] below meth c s₁ [] 0 0 := Stand.of_body Bd
  have e0 : s₁.heap = h0 := by rw [← hh, Bd.state]; rfl
  have N0 := Fr.nil n0
  have pre0 : ∀ t, Steps p.tables e below (s₁.setTop (mkF m 0 #[.val (.ref o0), .val (.int (0 : Int32)), .val (.int (0 : Int32))] [])) t → Steps p.tables e below (s₁.setTop (entryFrame m #[(.ref o0), (.int (0 : Int32)), (.int (0 : Int32))] 3)) t := fun t k => castTop (ef_18 m o0 (0 : Int32) (0 : Int32)) k
  obtain ⟨cq1, q1, q1'⟩ := E_o0.cell
  obtain ⟨_, _, ⟨T1, L1, k1, n1⟩, -, X1, ⟨Lc1, hQ1, l1, y1, z1⟩, st1⟩ := X0.privateBack hx (y := (⟨"java/util/ArrayList$SubList", "checkForComodification", "()V"⟩ : MethodName)) hown (mvT hZ (hw _ (List.mem_of_getElem? (i := 126) rfl))) (mvT hZ (hw _ (List.mem_of_getElem? (i := 127) rfl))) (mvT hZ (hw _ (List.mem_of_getElem? (i := 129) rfl))) (Cond.privateMethod_at (mvP hZ (hw _ (List.mem_of_getElem? (i := 128) rfl)) (args := #[]))) (mvT hZ (hw _ (List.mem_of_getElem? (i := 130) rfl))) (by decide) (backOf (W := 0) (rm17 l Z a0 hw [] o0 mc u1 h0 n0 Z0 E_o0 F_modCount_o0 F_root_o0 F_modCount_u1) hZ (hw _ (List.mem_of_getElem? (i := 130) rfl)) (hw _ (List.mem_of_getElem? (i := 90) rfl)) (by decide) (by decide)) (g := (mkF m 1 #[.val (.ref o0), .val (.int (0 : Int32)), .val (.int (0 : Int32))] [(.ref o0)])) rfl (by rw [hml]; rfl) (Steps.refl _) (a := o0) (by rw [e0]; exact q1) q1' (argsL := []) (rest := []) (lenOf pd_18_0 rfl) rfl (by show 2 * 0 + _ ≤ _; exact Nat.le_of_eq rfl) (hb hby d18_1) (fun _ _ => ⟨rfl, e0, (by decide : 0 + 0 ≤ _), (by decide : 0 + 0 ≤ _)⟩)
  dsimp only [Pt.U, Pt.locs, Pt.cells, Pt.slots] at X1 l1 y1 z1 st1 hQ1
  subst l1 y1 z1
  obtain ⟨rfl, N1q, e1q⟩ := hQ1
  have N1 := Fr.app N0 N1q
  obtain ⟨T2, X2, e2, st2⟩ := getF X1 hx hZ hown (host := "") (Or.inl (hw _ (List.mem_of_getElem? (i := 99) rfl))) Via.refl e1q F_root_o0 (g := (mkF m 5 #[.val (.ref o0), .val (.int (0 : Int32)), .val (.int (0 : Int32))] [(.ref o0)])) rfl rfl (hb hby d18_5)
  obtain ⟨T3, X3, e3, st3⟩ := getF X2 hx hZ hown (host := "") (Or.inl (hw _ (List.mem_of_getElem? (i := 103) rfl))) Via.refl e2 F_offset_o0 (g := (mkF m 9 #[.val (.ref o0), .val (.int (0 : Int32)), .val (.int (0 : Int32))] [(.ref o0), (.ref u1)])) rfl rfl (hb hby d18_9)
  obtain ⟨T4, X4, e4, st4⟩ := getF X3 hx hZ hown (host := "") (Or.inl (hw _ (List.mem_of_getElem? (i := 103) rfl))) Via.refl e3 F_offset_o0 (g := (mkF m 15 #[.val (.ref o0), .val (.int (0 : Int32)), .val (.int (0 : Int32))] [(.ref o0), (.int (0 : Int32)), (.ref u1)])) rfl rfl (hb hby d18_15)
  obtain ⟨cq5, kq5, q5a, q5b, q5c⟩ := isOf hZ e4 E_u1
  obtain ⟨_, _, ⟨T5, L5, k5, n5⟩, -, X5, ⟨Lc5, hQ5, l5, y5, z5⟩, st5⟩ := X4.virtualBack hx (y := (⟨"java/util/ArrayList", "removeRange", "(II)V"⟩ : MethodName)) (z := (⟨"java/util/ArrayList", "removeRange", "(II)V"⟩ : MethodName)) hown (mvT hZ (hw _ (List.mem_of_getElem? (i := 137) rfl))) (mvT hZ (hw _ (List.mem_of_getElem? (i := 138) rfl))) (notFace_of_selects (args := #[]) (mvT hZ (hw _ (List.mem_of_getElem? (i := 140) rfl)))) (mvT hZ (hw _ (List.mem_of_getElem? (i := 140) rfl))) (mvT hZ (hw _ (List.mem_of_getElem? (i := 139) rfl))) (by decide) (backOf (W := 0) (rm19 l Z a0 hw [] u1 mc es h0 n0 Z0 E_u1 F_modCount_u1 F_size_u1 F_elementData_u1 V_es g_u1 ne_es_u1) hZ (hw _ (List.mem_of_getElem? (i := 141) rfl)) (hw _ (List.mem_of_getElem? (i := 11) rfl)) (by decide) (by decide)) q5a q5c (g := (mkF m 20 #[.val (.ref o0), .val (.int (0 : Int32)), .val (.int (0 : Int32))] [(.int (0 : Int32)), (.int (0 : Int32)), (.ref u1)])) rfl (by rw [hml]; rfl) (Steps.refl _) (argsL := [(.int (0 : Int32)), (.int (0 : Int32))]) (rest := []) (lenOf pd_18_1 rfl) rfl (by show 2 * 0 + _ ≤ _; exact Nat.le_of_eq rfl) (hb hby d18_20) (fun _ _ => ⟨rfl, e4, (by decide : 0 + 0 ≤ _), (by decide : 0 + 0 ≤ _)⟩)
  dsimp only [Pt.U, Pt.locs, Pt.cells, Pt.slots] at X5 l5 y5 z5 st5 hQ5
  subst l5 y5 z5
  obtain ⟨rfl, N5q, K5q, G5_0, G5_1, G5_2⟩ := hQ5
  have N5 := Fr.app N1 N5q
  have K6 : Keep h0 T5.heap [u1, o0] := (Keep.refl h0 [u1, o0]).trans K5q (allS (Or.inl (List.mem_of_getElem? (i := 0) rfl)) all0)
  have Z7 : n0 ≤ T5.heap.size := Nat.le_trans Z0 K6.1
  obtain ⟨LS5, X5, N5⟩ : ∃ L, Stand p l e ({ frames := 3, cells := 0, slots := 0, locals := 49 } : Room) s m #[(.ref o0), (.int (0 : Int32)), (.int (0 : Int32))] below meth c T5 L 0 0 ∧ Fr n0 L := ⟨_, X5, N5⟩
  obtain ⟨cq8, q8, q8'⟩ := (E_o0.keep K5q).cell
  obtain ⟨_, _, ⟨T8, L8, k8, n8⟩, -, X8, ⟨Lc8, hQ8, l8, y8, z8⟩, st8⟩ := X5.privateBack hx (y := (⟨"java/util/ArrayList$SubList", "updateSizeAndModCount", "(I)V"⟩ : MethodName)) hown (mvT hZ (hw _ (List.mem_of_getElem? (i := 152) rfl))) (mvT hZ (hw _ (List.mem_of_getElem? (i := 153) rfl))) (mvT hZ (hw _ (List.mem_of_getElem? (i := 155) rfl))) (Cond.privateMethod_at (mvP hZ (hw _ (List.mem_of_getElem? (i := 154) rfl)) (args := #[]))) (mvT hZ (hw _ (List.mem_of_getElem? (i := 156) rfl))) (by decide) (backOf (W := 0) (rm21 l Z a0 hw [] o0 mc (mc + (1 : Int32)) u1 T5.heap n0 Z7 (E_o0.keep K5q) (F_modCount_o0.keep K5q (ninS ne_o0_u1 nin0)) (F_size_o0.keep K5q (ninS ne_o0_u1 nin0)) (F_root_o0.keep K5q (ninS ne_o0_u1 nin0)) (F_parent_o0.keep K5q (ninS ne_o0_u1 nin0)) G5_0 ne_o0_u1 g_o0) hZ (hw _ (List.mem_of_getElem? (i := 156) rfl)) (hw _ (List.mem_of_getElem? (i := 90) rfl)) (by decide) (by decide)) (g := (mkF m 27 #[.val (.ref o0), .val (.int (0 : Int32)), .val (.int (0 : Int32))] [(.int (0 : Int32)), (.ref o0)])) rfl (by rw [hml]; rfl) (Steps.refl _) (a := o0) q8 q8' (argsL := [(.int (0 : Int32))]) (rest := []) (lenOf pd_18_2 rfl) rfl (by show 2 * 0 + _ ≤ _; exact Nat.le_of_eq rfl) (hb hby d18_27) (fun _ _ => ⟨rfl, rfl, (by decide : 0 + 0 ≤ _), (by decide : 0 + 0 ≤ _)⟩)
  dsimp only [Pt.U, Pt.locs, Pt.cells, Pt.slots] at X8 l8 y8 z8 st8 hQ8
  subst l8 y8 z8
  obtain ⟨rfl, N8q, K8q, G8_0, G8_1⟩ := hQ8
  have N8 := Fr.app N5 N8q
  have K9 : Keep h0 T8.heap [u1, o0] := K6.trans K8q (allS (Or.inl (List.mem_of_getElem? (i := 1) rfl)) all0)
  have Z10 : n0 ≤ T8.heap.size := Nat.le_trans Z0 K9.1
  obtain ⟨LS8, X8, N8⟩ : ∃ L, Stand p l e ({ frames := 3, cells := 0, slots := 0, locals := 49 } : Room) s m #[(.ref o0), (.int (0 : Int32)), (.int (0 : Int32))] below meth c T8 L 0 0 ∧ Fr n0 L := ⟨_, X8, N8⟩
  obtain ⟨fs, hr, hrun, hended, hW, hsame⟩ := X8.leave (v := none) (fun _ => rfl)
  refine ⟨_, _, pre0 _ ?_, hrun, hended, _, _, rfl, ?_, ⟨_, rfl⟩, hW, hsame.mono (by decide) (by decide)⟩
  · show Steps p.tables e below (s₁.setTop (mkF m 0 #[.val (.ref o0), .val (.int (0 : Int32)), .val (.int (0 : Int32))] [])) _
    refine XS.aloadN X0.here hx rfl (hb hby d18_0) rfl rfl ?_
    show Steps p.tables e below (s₁.setTop (mkF m 1 #[.val (.ref o0), .val (.int (0 : Int32)), .val (.int (0 : Int32))] [(.ref o0)])) _
    refine st1.trans ?_
    show Steps p.tables e below (T1.setTop (mkF m 4 #[.val (.ref o0), .val (.int (0 : Int32)), .val (.int (0 : Int32))] [])) _
    refine XS.aloadN X1.here hx rfl (hb hby d18_4) rfl rfl ?_
    show Steps p.tables e below (T1.setTop (mkF m 5 #[.val (.ref o0), .val (.int (0 : Int32)), .val (.int (0 : Int32))] [(.ref o0)])) _
    refine st2 _ ?_
    show Steps p.tables e below (T2.setTop (mkF m 8 #[.val (.ref o0), .val (.int (0 : Int32)), .val (.int (0 : Int32))] [(.ref u1)])) _
    refine XS.aloadN X2.here hx rfl (hb hby d18_8) rfl rfl ?_
    show Steps p.tables e below (T2.setTop (mkF m 9 #[.val (.ref o0), .val (.int (0 : Int32)), .val (.int (0 : Int32))] [(.ref o0), (.ref u1)])) _
    refine st3 _ ?_
    show Steps p.tables e below (T3.setTop (mkF m 12 #[.val (.ref o0), .val (.int (0 : Int32)), .val (.int (0 : Int32))] [(.int (0 : Int32)), (.ref u1)])) _
    refine XS.iloadN X3.here hx rfl (hb hby d18_12) rfl ?_
    show Steps p.tables e below (T3.setTop (mkF m 13 #[.val (.ref o0), .val (.int (0 : Int32)), .val (.int (0 : Int32))] [(.int (0 : Int32)), (.int (0 : Int32)), (.ref u1)])) _
    refine XS.iadd X3.here hx rfl (hb hby d18_13) rfl ?_
    show Steps p.tables e below (T3.setTop (mkF m 14 #[.val (.ref o0), .val (.int (0 : Int32)), .val (.int (0 : Int32))] [(.int (0 : Int32)), (.ref u1)])) _
    refine XS.aloadN X3.here hx rfl (hb hby d18_14) rfl rfl ?_
    show Steps p.tables e below (T3.setTop (mkF m 15 #[.val (.ref o0), .val (.int (0 : Int32)), .val (.int (0 : Int32))] [(.ref o0), (.int (0 : Int32)), (.ref u1)])) _
    refine st4 _ ?_
    show Steps p.tables e below (T4.setTop (mkF m 18 #[.val (.ref o0), .val (.int (0 : Int32)), .val (.int (0 : Int32))] [(.int (0 : Int32)), (.int (0 : Int32)), (.ref u1)])) _
    refine XS.iloadN X4.here hx rfl (hb hby d18_18) rfl ?_
    show Steps p.tables e below (T4.setTop (mkF m 19 #[.val (.ref o0), .val (.int (0 : Int32)), .val (.int (0 : Int32))] [(.int (0 : Int32)), (.int (0 : Int32)), (.int (0 : Int32)), (.ref u1)])) _
    refine XS.iadd X4.here hx rfl (hb hby d18_19) rfl ?_
    show Steps p.tables e below (T4.setTop (mkF m 20 #[.val (.ref o0), .val (.int (0 : Int32)), .val (.int (0 : Int32))] [(.int (0 : Int32)), (.int (0 : Int32)), (.ref u1)])) _
    refine st5.trans ?_
    show Steps p.tables e below (T5.setTop (mkF m 23 #[.val (.ref o0), .val (.int (0 : Int32)), .val (.int (0 : Int32))] [])) _
    refine XS.aloadN X5.here hx rfl (hb hby d18_23) rfl rfl ?_
    show Steps p.tables e below (T5.setTop (mkF m 24 #[.val (.ref o0), .val (.int (0 : Int32)), .val (.int (0 : Int32))] [(.ref o0)])) _
    refine XS.iloadN X5.here hx rfl (hb hby d18_24) rfl ?_
    show Steps p.tables e below (T5.setTop (mkF m 25 #[.val (.ref o0), .val (.int (0 : Int32)), .val (.int (0 : Int32))] [(.int (0 : Int32)), (.ref o0)])) _
    refine XS.iloadN X5.here hx rfl (hb hby d18_25) rfl ?_
    show Steps p.tables e below (T5.setTop (mkF m 26 #[.val (.ref o0), .val (.int (0 : Int32)), .val (.int (0 : Int32))] [(.int (0 : Int32)), (.int (0 : Int32)), (.ref o0)])) _
    refine XS.isub X5.here hx rfl (hb hby d18_26) rfl ?_
    show Steps p.tables e below (T5.setTop (mkF m 27 #[.val (.ref o0), .val (.int (0 : Int32)), .val (.int (0 : Int32))] [(.int (0 : Int32)), (.ref o0)])) _
    refine st8.trans ?_
    show Steps p.tables e below (T8.setTop (mkF m 30 #[.val (.ref o0), .val (.int (0 : Int32)), .val (.int (0 : Int32))] [])) _
    exact X8.returnOut hx Bd.returns (hb hby d18_30) hr
  · show Q18 Z o0 mc u1 es h0 n0 _ T8.heap _
    exact ⟨rfl, N8, K9, (G5_0.keep K8q (ninS (Ne.symm ne_o0_u1) nin0)), (G5_1.keep K8q (ninS (Ne.symm ne_o0_u1) nin0)), (G5_2.keep K8q (ninS (Ne.symm ne_o0_u1) nin0)), G8_0, G8_1⟩
theorem d15_0 : decode jdk_39_method_9_code 0 = .ok (.aload_n 0, 1) := by decide +kernel
theorem d15_1 : decode jdk_39_method_9_code 1 = .ok (.iconst 0, 1) := by decide +kernel
theorem d15_2 : decode jdk_39_method_9_code 2 = .ok (.aload_n 0, 1) := by decide +kernel
theorem d15_3 : decode jdk_39_method_9_code 3 = .ok (.invokevirtual 13, 3) := by decide +kernel
theorem d15_6 : decode jdk_39_method_9_code 6 = .ok (.invokevirtual 59, 3) := by decide +kernel
theorem d15_9 : decode jdk_39_method_9_code 9 = .ok (.return_, 1) := by decide +kernel
theorem pn_15 : plainName "java/util/AbstractList" = true := by first | (simp [plainName, overriddenIn]; done) | decide +kernel
theorem pd_15_0 : parseMethodDescriptor "()I" = some ⟨[], some .int⟩ := by decide +kernel
theorem pd_15_1 : parseMethodDescriptor "(II)V" = some ⟨[.int, .int], none⟩ := by decide +kernel
theorem ef_15 (m : MethodId) (x0 : Addr) : entryFrame m #[(.ref x0)] 1 = mkF m 0 #[.val (.ref x0)] [] := by first | (simp [entryFrame, mkF, argsToLocals, Value.category]; done) | rfl
def Q15 (Z : State) (o0 : Addr) (mc : Int32) (u1 : Addr) (es : Addr) (h0 : Heap) (n0 : Nat) (v : Option Value) (h : Heap) (L : List Loc) : Prop := v = none ∧ Fr n0 L ∧ Keep h0 h [o0, u1] ∧ Fld Z h u1 "java/util/AbstractList" "modCount" "I" (.int (mc + (1 : Int32))) ∧ Fld Z h u1 "java/util/ArrayList" "size" "I" (.int (0 : Int32)) ∧ Fld Z h u1 "java/util/ArrayList" "elementData" "[Ljava/lang/Object;" (.ref es) ∧ Fld Z h o0 "java/util/ArrayList$SubList" "size" "I" (.int (0 : Int32)) ∧ Fld Z h o0 "java/util/AbstractList" "modCount" "I" (.int (mc + (1 : Int32)))
set_option maxRecDepth 65536 in
set_option maxHeartbeats 40000000 in
theorem rm15 (l : Launch) (Z : State) (a0 : Array Value) (hw : ∀ d ∈ tables_1, d.before a0 Z = true) (ws : List Jvm.Cond) (o0 : Addr) (mc : Int32) (u1 : Addr) (es : Addr) (h0 : Heap) (n0 : Nat) (Z0 : n0 ≤ h0.size) (E_o0 : Exa Z h0 o0 "java/util/ArrayList$SubList") (F_modCount_o0 : Fld Z h0 o0 "java/util/AbstractList" "modCount" "I" (.int mc)) (F_size_o0 : Fld Z h0 o0 "java/util/ArrayList$SubList" "size" "I" (.int (0 : Int32))) (F_offset_o0 : Fld Z h0 o0 "java/util/ArrayList$SubList" "offset" "I" (.int (0 : Int32))) (F_root_o0 : Fld Z h0 o0 "java/util/ArrayList$SubList" "root" "Ljava/util/ArrayList;" (.ref u1)) (F_parent_o0 : Fld Z h0 o0 "java/util/ArrayList$SubList" "parent" "Ljava/util/ArrayList$SubList;" .null) (E_u1 : Exa Z h0 u1 "java/util/ArrayList") (F_modCount_u1 : Fld Z h0 u1 "java/util/AbstractList" "modCount" "I" (.int mc)) (F_size_u1 : Fld Z h0 u1 "java/util/ArrayList" "size" "I" (.int (0 : Int32))) (F_elementData_u1 : Fld Z h0 u1 "java/util/ArrayList" "elementData" "[Ljava/lang/Object;" (.ref es)) (ne_o0_u1 : o0 ≠ u1) (g_o0 : n0 ≤ o0) (g_u1 : n0 ≤ u1) (V_es : own_AL Z h0 es (.object "java/lang/Object") (0 : Int32)) (ne_es_o0 : es ≠ o0) (ne_es_u1 : es ≠ u1) :
    MetFree l (⟨"java/util/AbstractList", "clear", "()V"⟩ : MethodName) (head1 (Jvm.Cond.code (⟨"java/util/AbstractList", "clear", "()V"⟩ : MethodName) jdk_39_method_9_code 1 none :: ws) ({ frames := 4, cells := 0, slots := 0, locals := 63 } : Room)) (fun a U => a = #[(.ref o0)] ∧ Z.Warmed39 U.vm ∧ U.heap = h0) (fun _ _ _ _ _ => True) (fun _ U o U' => ∃ v L, o = .returned v ∧ Q15 Z o0 mc u1 es h0 n0 v U'.heap L ∧ FrameEnd U o U' L ({ frames := 4, cells := 0, slots := 0, locals := 63 } : Room).cells ({ frames := 4, cells := 0, slots := 0, locals := 63 } : Room).slots) := by
  refine MetFree.of_bodySF (plainFor_of_name pn_15) hisR ?_
  intro p e s m args below meth c s₁ Bd hml0 hP hK
  obtain ⟨rfl, hZ, hh⟩ := hP
  have hx := Bd.exec
  have hby := Bd.bytes
  have hml : c.maxLocals = 1 := hml0
  have hown : s.vm.findClass "java/util/AbstractList" = some m.cls := findClass_of_methodNamed Bd.named
  have hnm := (name_of_methodNamed Bd.named Bd.method).1
  have X0 : Stand p l e ({ frames := 4, cells := 0, slots := 0, locals := 63 } : Room) s m #[(.ref o0)] below meth c s₁ [] 0 0 := Stand.of_body Bd
  have e0 : s₁.heap = h0 := by rw [← hh, Bd.state]; rfl
  have N0 := Fr.nil n0
  have pre0 : ∀ t, Steps p.tables e below (s₁.setTop (mkF m 0 #[.val (.ref o0)] [])) t → Steps p.tables e below (s₁.setTop (entryFrame m #[(.ref o0)] 1)) t := fun t k => castTop (ef_15 m o0) k
  obtain ⟨cq1, kq1, q1a, q1b, q1c⟩ := isOf hZ e0 E_o0
  obtain ⟨_, _, ⟨T1, L1, k1, n1⟩, -, X1, ⟨Lc1, hQ1, l1, y1, z1⟩, st1⟩ := X0.virtualBackUp hx (owner := "java/util/AbstractCollection") (x := (⟨"java/util/AbstractList", "size", "()I"⟩ : MethodName)) (y := (⟨"java/util/ArrayList$SubList", "size", "()I"⟩ : MethodName)) hown (mvT hZ (hw _ (List.mem_of_getElem? (i := 120) rfl))) (mvT hZ (hw _ (List.mem_of_getElem? (i := 121) rfl))) (mvT hZ (hw _ (List.mem_of_getElem? (i := 122) rfl))) (by decide) (mvT hZ (hw _ (List.mem_of_getElem? (i := 123) rfl))) (mvT hZ (hw _ (List.mem_of_getElem? (i := 124) rfl))) (backOf (W := 2) (rm16 l Z a0 hw [] o0 mc u1 h0 n0 Z0 E_o0 F_modCount_o0 F_root_o0 F_size_o0 F_modCount_u1) hZ (hw _ (List.mem_of_getElem? (i := 125) rfl)) (hw _ (List.mem_of_getElem? (i := 90) rfl)) (by decide) (by decide)) q1a q1c (g := (mkF m 3 #[.val (.ref o0)] [(.ref o0), (.int (0 : Int32)), (.ref o0)])) rfl (by rw [hml]; rfl) (Steps.refl _) (argsL := []) (rest := [(.int (0 : Int32)), (.ref o0)]) (lenOf pd_15_0 rfl) rfl (by show 2 * 0 + _ ≤ _; exact Nat.le_of_eq rfl) (hb hby d15_3) (fun _ _ => ⟨rfl, e0, (by decide : 0 + 0 ≤ _), (by decide : 0 + 0 ≤ _)⟩)
  dsimp only [Pt.U, Pt.locs, Pt.cells, Pt.slots] at X1 l1 y1 z1 st1 hQ1
  subst l1 y1 z1
  obtain ⟨rfl, N1q, e1q⟩ := hQ1
  have N1 := Fr.app N0 N1q
  obtain ⟨cq2, kq2, q2a, q2b, q2c⟩ := isOf hZ e1q E_o0
  obtain ⟨_, _, ⟨T2, L2, k2, n2⟩, -, X2, ⟨Lc2, hQ2, l2, y2, z2⟩, st2⟩ := X1.virtualBackUp hx (owner := "java/util/AbstractList") (x := (⟨"java/util/AbstractList", "removeRange", "(II)V"⟩ : MethodName)) (y := (⟨"java/util/ArrayList$SubList", "removeRange", "(II)V"⟩ : MethodName)) hown (mvT hZ (hw _ (List.mem_of_getElem? (i := 131) rfl))) (mvT hZ (own_same (by rfl) (by decide) (hw _ (List.mem_of_getElem? (i := 132) rfl)) (hw _ (List.mem_of_getElem? (i := 114) rfl)))) (mvT hZ (hw _ (List.mem_of_getElem? (i := 132) rfl))) (by decide) (mvT hZ (hw _ (List.mem_of_getElem? (i := 134) rfl))) (mvT hZ (hw _ (List.mem_of_getElem? (i := 135) rfl))) (backOf (W := 0) (rm18 l Z a0 hw [] o0 mc u1 es h0 n0 Z0 E_o0 F_modCount_o0 F_size_o0 F_offset_o0 F_root_o0 F_parent_o0 E_u1 F_modCount_u1 F_size_u1 F_elementData_u1 ne_o0_u1 g_o0 g_u1 V_es ne_es_o0 ne_es_u1) hZ (hw _ (List.mem_of_getElem? (i := 136) rfl)) (hw _ (List.mem_of_getElem? (i := 90) rfl)) (by decide) (by decide)) q2a q2c (g := (mkF m 6 #[.val (.ref o0)] [(.int (0 : Int32)), (.int (0 : Int32)), (.ref o0)])) rfl (by rw [hml]; rfl) (Steps.refl _) (argsL := [(.int (0 : Int32)), (.int (0 : Int32))]) (rest := []) (lenOf pd_15_1 rfl) rfl (by show 2 * 0 + _ ≤ _; exact Nat.le_of_eq rfl) (hb hby d15_6) (fun _ _ => ⟨rfl, e1q, (by decide : 0 + 0 ≤ _), (by decide : 0 + 0 ≤ _)⟩)
  dsimp only [Pt.U, Pt.locs, Pt.cells, Pt.slots] at X2 l2 y2 z2 st2 hQ2
  subst l2 y2 z2
  obtain ⟨rfl, N2q, K2q, G2_0, G2_1, G2_2, G2_3, G2_4⟩ := hQ2
  have N2 := Fr.app N1 N2q
  have K3 : Keep h0 T2.heap [o0, u1] := (Keep.refl h0 [o0, u1]).trans K2q (allS (Or.inl (List.mem_of_getElem? (i := 1) rfl)) (allS (Or.inl (List.mem_of_getElem? (i := 0) rfl)) all0))
  have Z4 : n0 ≤ T2.heap.size := Nat.le_trans Z0 K3.1
  obtain ⟨LS2, X2, N2⟩ : ∃ L, Stand p l e ({ frames := 4, cells := 0, slots := 0, locals := 63 } : Room) s m #[(.ref o0)] below meth c T2 L 0 0 ∧ Fr n0 L := ⟨_, X2, N2⟩
  obtain ⟨fs, hr, hrun, hended, hW, hsame⟩ := X2.leave (v := none) (fun _ => rfl)
  refine ⟨_, _, pre0 _ ?_, hrun, hended, _, _, rfl, ?_, ⟨_, rfl⟩, hW, hsame.mono (by decide) (by decide)⟩
  · show Steps p.tables e below (s₁.setTop (mkF m 0 #[.val (.ref o0)] [])) _
    refine XS.aloadN X0.here hx rfl (hb hby d15_0) rfl rfl ?_
    show Steps p.tables e below (s₁.setTop (mkF m 1 #[.val (.ref o0)] [(.ref o0)])) _
    refine XS.iconst X0.here hx rfl (hb hby d15_1) ?_
    show Steps p.tables e below (s₁.setTop (mkF m 2 #[.val (.ref o0)] [(.int (0 : Int32)), (.ref o0)])) _
    refine XS.aloadN X0.here hx rfl (hb hby d15_2) rfl rfl ?_
    show Steps p.tables e below (s₁.setTop (mkF m 3 #[.val (.ref o0)] [(.ref o0), (.int (0 : Int32)), (.ref o0)])) _
    refine st1.trans ?_
    show Steps p.tables e below (T1.setTop (mkF m 6 #[.val (.ref o0)] [(.int (0 : Int32)), (.int (0 : Int32)), (.ref o0)])) _
    refine st2.trans ?_
    show Steps p.tables e below (T2.setTop (mkF m 9 #[.val (.ref o0)] [])) _
    exact X2.returnOut hx Bd.returns (hb hby d15_9) hr
  · show Q15 Z o0 mc u1 es h0 n0 _ T2.heap _
    exact ⟨rfl, N2, K3, G2_0, G2_1, G2_2, G2_3, G2_4⟩
theorem d11_0 : decode prog_5_method_12_code 0 = .ok (.aload_n 0, 1) := by decide +kernel
theorem d11_1 : decode prog_5_method_12_code 1 = .ok (.getfield 10, 3) := by decide +kernel
theorem d11_4 : decode prog_5_method_12_code 4 = .ok (.invokeinterface 26 1, 5) := by decide +kernel
theorem d11_9 : decode prog_5_method_12_code 9 = .ok (.iconst 1, 1) := by decide +kernel
theorem d11_10 : decode prog_5_method_12_code 10 = .ok (.isub, 1) := by decide +kernel
theorem d11_11 : decode prog_5_method_12_code 11 = .ok (.istore_n 2, 1) := by decide +kernel
theorem d11_12 : decode prog_5_method_12_code 12 = .ok (.iload_n 2, 1) := by decide +kernel
theorem d11_13 : decode prog_5_method_12_code 13 = .ok (.iload_n 1, 1) := by decide +kernel
theorem d11_14 : decode prog_5_method_12_code 14 = .ok (.if_icmp .lt 27, 3) := by decide +kernel
theorem d11_41 : decode prog_5_method_12_code 41 = .ok (.aload_n 0, 1) := by decide +kernel
theorem d11_42 : decode prog_5_method_12_code 42 = .ok (.getfield 10, 3) := by decide +kernel
theorem d11_45 : decode prog_5_method_12_code 45 = .ok (.iload_n 1, 1) := by decide +kernel
theorem d11_46 : decode prog_5_method_12_code 46 = .ok (.aload_n 0, 1) := by decide +kernel
theorem d11_47 : decode prog_5_method_12_code 47 = .ok (.getfield 10, 3) := by decide +kernel
theorem d11_50 : decode prog_5_method_12_code 50 = .ok (.invokeinterface 26 1, 5) := by decide +kernel
theorem d11_55 : decode prog_5_method_12_code 55 = .ok (.invokeinterface 112 3, 5) := by decide +kernel
theorem d11_60 : decode prog_5_method_12_code 60 = .ok (.invokeinterface 39 1, 5) := by decide +kernel
theorem d11_65 : decode prog_5_method_12_code 65 = .ok (.return_, 1) := by decide +kernel
theorem pn_11 : plainName "com/example/cardhost/cardhost/Transactions" = true := by first | (simp [plainName, overriddenIn]; done) | decide +kernel
theorem pd_11_0 : parseMethodDescriptor "()I" = some ⟨[], some .int⟩ := by decide +kernel
theorem pd_11_1 : parseMethodDescriptor "(II)Ljava/util/List;" = some ⟨[.int, .int], some (.object "java/util/List")⟩ := by decide +kernel
theorem pd_11_2 : parseMethodDescriptor "()V" = some ⟨[], none⟩ := by decide +kernel
theorem ef_11 (m : MethodId) (x0 : Addr) (x1 : Int32) : entryFrame m #[(.ref x0), (.int x1)] 3 = mkF m 0 #[.val (.ref x0), .val (.int x1), .unset] [] := by first | (simp [entryFrame, mkF, argsToLocals, Value.category]; done) | rfl
def Q11 (Z : State) (o0 : Addr) (u1 : Addr) (ip : Int32) (ins : Int32) (mc : Int32) (es : Addr) (h0 : Heap) (n0 : Nat) (v : Option Value) (h : Heap) (L : List Loc) : Prop := v = none ∧ Fr n0 L ∧ Keep h0 h [u1] ∧ Fld Z h u1 "java/util/AbstractList" "modCount" "I" (.int (mc + (1 : Int32))) ∧ Fld Z h u1 "java/util/ArrayList" "size" "I" (.int (0 : Int32)) ∧ Fld Z h u1 "java/util/ArrayList" "elementData" "[Ljava/lang/Object;" (.ref es)
set_option maxRecDepth 65536 in
set_option maxHeartbeats 40000000 in
theorem rm11 (l : Launch) (Z : State) (a0 : Array Value) (hw : ∀ d ∈ tables_1, d.before a0 Z = true) (ws : List Jvm.Cond) (o0 : Addr) (u1 : Addr) (ip : Int32) (ins : Int32) (mc : Int32) (es : Addr) (h0 : Heap) (n0 : Nat) (Z0 : n0 ≤ h0.size) (E_o0 : Exa Z h0 o0 "com/example/cardhost/cardhost/Transactions") (F_undo_o0 : Fld Z h0 o0 "com/example/cardhost/cardhost/Transactions" "undo" "Ljava/util/List;" (.ref u1)) (F_inProgress_o0 : Fld Z h0 o0 "com/example/cardhost/cardhost/Transactions" "inProgress" "Z" (.int ip)) (F_installing_o0 : Fld Z h0 o0 "com/example/cardhost/cardhost/Transactions" "installing" "Z" (.int ins)) (F_inProgressFrom_o0 : Fld Z h0 o0 "com/example/cardhost/cardhost/Transactions" "inProgressFrom" "I" (.int (0 : Int32))) (E_u1 : Exa Z h0 u1 "java/util/ArrayList") (F_modCount_u1 : Fld Z h0 u1 "java/util/AbstractList" "modCount" "I" (.int mc)) (F_size_u1 : Fld Z h0 u1 "java/util/ArrayList" "size" "I" (.int (0 : Int32))) (F_elementData_u1 : Fld Z h0 u1 "java/util/ArrayList" "elementData" "[Ljava/lang/Object;" (.ref es)) (ne_o0_u1 : o0 ≠ u1) (g_o0 : n0 ≤ o0) (g_u1 : n0 ≤ u1) (V_es : own_AL Z h0 es (.object "java/lang/Object") (0 : Int32)) (ne_es_o0 : es ≠ o0) (ne_es_u1 : es ≠ u1) :
    MetFree l (⟨"com/example/cardhost/cardhost/Transactions", "putBack", "(I)V"⟩ : MethodName) (head1 (Jvm.Cond.code (⟨"com/example/cardhost/cardhost/Transactions", "putBack", "(I)V"⟩ : MethodName) prog_5_method_12_code 3 none :: ws) ({ frames := 5, cells := 1, slots := 5, locals := 75 } : Room)) (fun a U => a = #[(.ref o0), (.int (0 : Int32))] ∧ Z.Warmed39 U.vm ∧ U.heap = h0) (fun _ _ _ _ _ => True) (fun _ U o U' => ∃ v L, o = .returned v ∧ Q11 Z o0 u1 ip ins mc es h0 n0 v U'.heap L ∧ FrameEnd U o U' L ({ frames := 5, cells := 1, slots := 5, locals := 75 } : Room).cells ({ frames := 5, cells := 1, slots := 5, locals := 75 } : Room).slots) := by
  refine MetFree.of_bodySF (plainFor_of_name pn_11) hisR ?_
  intro p e s m args below meth c s₁ Bd hml0 hP hK
  obtain ⟨rfl, hZ, hh⟩ := hP
  have hx := Bd.exec
  have hby := Bd.bytes
  have hml : c.maxLocals = 3 := hml0
  have hown : s.vm.findClass "com/example/cardhost/cardhost/Transactions" = some m.cls := findClass_of_methodNamed Bd.named
  have hnm := (name_of_methodNamed Bd.named Bd.method).1
  have X0 : Stand p l e ({ frames := 5, cells := 1, slots := 5, locals := 75 } : Room) s m #[(.ref o0), (.int (0 : Int32))] below meth c s₁ [] 0 0 := Stand.of_body Bd
  have e0 : s₁.heap = h0 := by rw [← hh, Bd.state]; rfl
  have N0 := Fr.nil n0
  have pre0 : ∀ t, Steps p.tables e below (s₁.setTop (mkF m 0 #[.val (.ref o0), .val (.int (0 : Int32)), .unset] [])) t → Steps p.tables e below (s₁.setTop (entryFrame m #[(.ref o0), (.int (0 : Int32))] 3)) t := fun t k => castTop (ef_11 m o0 (0 : Int32)) k
  obtain ⟨T1, X1, e1, st1⟩ := getF X0 hx hZ hown (host := "") (Or.inl (hw _ (List.mem_of_getElem? (i := 33) rfl))) Via.refl e0 F_undo_o0 (g := (mkF m 1 #[.val (.ref o0), .val (.int (0 : Int32)), .unset] [(.ref o0)])) rfl rfl (hb hby d11_1)
  obtain ⟨cq2, kq2, q2a, q2b, q2c⟩ := isOf hZ e1 E_u1
  obtain ⟨_, _, ⟨T2, L2, k2, n2⟩, -, X2, ⟨Lc2, hQ2, l2, y2, z2⟩, st2⟩ := X1.interfaceBack hx (xi := (⟨"java/util/List", "size", "()I"⟩ : MethodName)) (y := (⟨"java/util/ArrayList", "size", "()I"⟩ : MethodName)) hown (mvT hZ (hw _ (List.mem_of_getElem? (i := 54) rfl))) (mvT hZ (hw _ (List.mem_of_getElem? (i := 55) rfl))) (mvT hZ (hw _ (List.mem_of_getElem? (i := 56) rfl))) (mvT hZ (hw _ (List.mem_of_getElem? (i := 57) rfl))) (mvT hZ (hw _ (List.mem_of_getElem? (i := 58) rfl))) (mvT hZ (hw _ (List.mem_of_getElem? (i := 59) rfl))) (mvT hZ (hw _ (List.mem_of_getElem? (i := 60) rfl))) (mvT hZ (hw _ (List.mem_of_getElem? (i := 61) rfl))) (by decide) (backOf (W := 0) (rm9 l Z a0 hw [] u1 h0 n0 Z0 E_u1 F_size_u1) hZ (hw _ (List.mem_of_getElem? (i := 62) rfl)) (hw _ (List.mem_of_getElem? (i := 11) rfl)) (by decide) (by decide)) q2a q2b q2c (g := (mkF m 4 #[.val (.ref o0), .val (.int (0 : Int32)), .unset] [(.ref u1)])) rfl (by rw [hml]; rfl) (Steps.refl _) (argsL := []) (rest := []) (lenOf pd_11_0 rfl) rfl (by show 2 * 0 + _ ≤ _; exact Nat.le_of_eq rfl) (hb hby d11_4) (fun _ _ => ⟨rfl, e1, (by decide : 0 + 0 ≤ _), (by decide : 0 + 0 ≤ _)⟩)
  dsimp only [Pt.U, Pt.locs, Pt.cells, Pt.slots] at X2 l2 y2 z2 st2 hQ2
  subst l2 y2 z2
  obtain ⟨rfl, N2q, e2q⟩ := hQ2
  have N2 := Fr.app N0 N2q
  have pre3 : ∀ t, Steps p.tables e below (T2.setTop (mkF m 14 #[.val (.ref o0), .val (.int (0 : Int32)), .val (.int (-1 : Int32))] [(.int (0 : Int32)), (.int (-1 : Int32))])) t → Steps p.tables e below (s₁.setTop (entryFrame m #[(.ref o0), (.int (0 : Int32))] 3)) t := fun t kt => pre0 t (by
      show Steps p.tables e below (s₁.setTop (mkF m 0 #[.val (.ref o0), .val (.int (0 : Int32)), .unset] [])) _
      refine XS.aloadN X0.here hx rfl (hb hby d11_0) rfl rfl ?_
      show Steps p.tables e below (s₁.setTop (mkF m 1 #[.val (.ref o0), .val (.int (0 : Int32)), .unset] [(.ref o0)])) _
      refine st1 _ ?_
      show Steps p.tables e below (T1.setTop (mkF m 4 #[.val (.ref o0), .val (.int (0 : Int32)), .unset] [(.ref u1)])) _
      refine st2.trans ?_
      show Steps p.tables e below (T2.setTop (mkF m 9 #[.val (.ref o0), .val (.int (0 : Int32)), .unset] [(.int (0 : Int32))])) _
      refine XS.iconst X2.here hx rfl (hb hby d11_9) ?_
      show Steps p.tables e below (T2.setTop (mkF m 10 #[.val (.ref o0), .val (.int (0 : Int32)), .unset] [(.int (1 : Int32)), (.int (0 : Int32))])) _
      refine XS.isub X2.here hx rfl (hb hby d11_10) rfl ?_
      show Steps p.tables e below (T2.setTop (mkF m 11 #[.val (.ref o0), .val (.int (0 : Int32)), .unset] [(.int (-1 : Int32))])) _
      refine XS.istoreN X2.here hx rfl (hb hby d11_11) rfl (l' := #[.val (.ref o0), .val (.int (0 : Int32)), .val (.int (-1 : Int32))]) rfl ?_
      show Steps p.tables e below (T2.setTop (mkF m 12 #[.val (.ref o0), .val (.int (0 : Int32)), .val (.int (-1 : Int32))] [])) _
      refine XS.iloadN X2.here hx rfl (hb hby d11_12) rfl ?_
      show Steps p.tables e below (T2.setTop (mkF m 13 #[.val (.ref o0), .val (.int (0 : Int32)), .val (.int (-1 : Int32))] [(.int (-1 : Int32))])) _
      refine XS.iloadN X2.here hx rfl (hb hby d11_13) rfl ?_
      exact kt)
  obtain ⟨T4, X4, e4, st4⟩ := getF X2 hx hZ hown (host := "") (Or.inl (hw _ (List.mem_of_getElem? (i := 33) rfl))) Via.refl e2q F_undo_o0 (g := (mkF m 42 #[.val (.ref o0), .val (.int (0 : Int32)), .val (.int (-1 : Int32))] [(.ref o0)])) rfl rfl (hb hby d11_42)
  obtain ⟨T5, X5, e5, st5⟩ := getF X4 hx hZ hown (host := "") (Or.inl (hw _ (List.mem_of_getElem? (i := 33) rfl))) Via.refl e4 F_undo_o0 (g := (mkF m 47 #[.val (.ref o0), .val (.int (0 : Int32)), .val (.int (-1 : Int32))] [(.ref o0), (.int (0 : Int32)), (.ref u1)])) rfl rfl (hb hby d11_47)
  obtain ⟨cq6, kq6, q6a, q6b, q6c⟩ := isOf hZ e5 E_u1
  obtain ⟨_, _, ⟨T6, L6, k6, n6⟩, -, X6, ⟨Lc6, hQ6, l6, y6, z6⟩, st6⟩ := X5.interfaceBack hx (xi := (⟨"java/util/List", "size", "()I"⟩ : MethodName)) (y := (⟨"java/util/ArrayList", "size", "()I"⟩ : MethodName)) hown (mvT hZ (hw _ (List.mem_of_getElem? (i := 54) rfl))) (mvT hZ (hw _ (List.mem_of_getElem? (i := 55) rfl))) (mvT hZ (hw _ (List.mem_of_getElem? (i := 56) rfl))) (mvT hZ (hw _ (List.mem_of_getElem? (i := 57) rfl))) (mvT hZ (hw _ (List.mem_of_getElem? (i := 58) rfl))) (mvT hZ (hw _ (List.mem_of_getElem? (i := 59) rfl))) (mvT hZ (hw _ (List.mem_of_getElem? (i := 60) rfl))) (mvT hZ (hw _ (List.mem_of_getElem? (i := 61) rfl))) (by decide) (backOf (W := 2) (rm9 l Z a0 hw [] u1 h0 n0 Z0 E_u1 F_size_u1) hZ (hw _ (List.mem_of_getElem? (i := 62) rfl)) (hw _ (List.mem_of_getElem? (i := 11) rfl)) (by decide) (by decide)) q6a q6b q6c (g := (mkF m 50 #[.val (.ref o0), .val (.int (0 : Int32)), .val (.int (-1 : Int32))] [(.ref u1), (.int (0 : Int32)), (.ref u1)])) rfl (by rw [hml]; rfl) (Steps.refl _) (argsL := []) (rest := [(.int (0 : Int32)), (.ref u1)]) (lenOf pd_11_0 rfl) rfl (by show 2 * 0 + _ ≤ _; exact Nat.le_of_eq rfl) (hb hby d11_50) (fun _ _ => ⟨rfl, e5, (by decide : 0 + 0 ≤ _), (by decide : 0 + 0 ≤ _)⟩)
  dsimp only [Pt.U, Pt.locs, Pt.cells, Pt.slots] at X6 l6 y6 z6 st6 hQ6
  subst l6 y6 z6
  obtain ⟨rfl, N6q, e6q⟩ := hQ6
  have N6 := Fr.app N2 N6q
  obtain ⟨cq7, kq7, q7a, q7b, q7c⟩ := isOf hZ e6q E_u1
  obtain ⟨_, _, ⟨T7, L7, k7, n7⟩, -, X7, ⟨Lc7, hQ7, l7, y7, z7⟩, st7⟩ := X6.interfaceBack hx (xi := (⟨"java/util/List", "subList", "(II)Ljava/util/List;"⟩ : MethodName)) (y := (⟨"java/util/ArrayList", "subList", "(II)Ljava/util/List;"⟩ : MethodName)) hown (mvT hZ (hw _ (List.mem_of_getElem? (i := 76) rfl))) (mvT hZ (hw _ (List.mem_of_getElem? (i := 77) rfl))) (mvT hZ (hw _ (List.mem_of_getElem? (i := 78) rfl))) (mvT hZ (hw _ (List.mem_of_getElem? (i := 79) rfl))) (mvT hZ (hw _ (List.mem_of_getElem? (i := 80) rfl))) (mvT hZ (hw _ (List.mem_of_getElem? (i := 81) rfl))) (mvT hZ (hw _ (List.mem_of_getElem? (i := 82) rfl))) (mvT hZ (hw _ (List.mem_of_getElem? (i := 61) rfl))) (by decide) (backOf (W := 0) (rm12 l Z a0 hw [] u1 mc h0 n0 Z0 E_u1 F_modCount_u1 F_size_u1) hZ (hw _ (List.mem_of_getElem? (i := 83) rfl)) (hw _ (List.mem_of_getElem? (i := 11) rfl)) (by decide) (by decide)) q7a q7b q7c (g := (mkF m 55 #[.val (.ref o0), .val (.int (0 : Int32)), .val (.int (-1 : Int32))] [(.int (0 : Int32)), (.int (0 : Int32)), (.ref u1)])) rfl (by rw [hml]; rfl) (Steps.refl _) (argsL := [(.int (0 : Int32)), (.int (0 : Int32))]) (rest := []) (lenOf pd_11_1 rfl) rfl (by show 2 * 0 + _ ≤ _; exact Nat.le_of_eq rfl) (hb hby d11_55) (fun _ _ => ⟨rfl, e6q, (by decide : 0 + 1 ≤ _), (by decide : 0 + 5 ≤ _)⟩)
  dsimp only [Pt.U, Pt.locs, Pt.cells, Pt.slots] at X7 l7 y7 z7 st7 hQ7
  subst l7 y7 z7
  obtain ⟨b_7, rfl, N7q, K7q, g_b_7, szq_b_7, G7_0, G7_1, G7_2, G7_3, G7_4, G7_5⟩ := hQ7
  have N7 := Fr.app N6 N7q
  have ne_o0_b_7 : o0 ≠ b_7 := Nat.ne_of_lt (Nat.lt_of_lt_of_le E_o0.lt szq_b_7)
  have ne_u1_b_7 : u1 ≠ b_7 := Nat.ne_of_lt (Nat.lt_of_lt_of_le E_u1.lt szq_b_7)
  have ne_es_b_7 : es ≠ b_7 := Nat.ne_of_lt (Nat.lt_of_lt_of_le V_es.lt szq_b_7)
  have sz_b_7 : h0.size ≤ b_7 := Nat.le_trans (Keep.refl h0 [u1]).1 szq_b_7
  have K8 : Keep h0 T7.heap [u1] := (Keep.refl h0 [u1]).trans K7q all0
  have Z9 : n0 ≤ T7.heap.size := Nat.le_trans Z0 K8.1
  obtain ⟨LS7, X7, N7⟩ : ∃ L, Stand p l e ({ frames := 5, cells := 1, slots := 5, locals := 75 } : Room) s m #[(.ref o0), (.int (0 : Int32))] below meth c T7 L 1 5 ∧ Fr n0 L := ⟨_, X7, N7⟩
  obtain ⟨cq10, kq10, q10a, q10b, q10c⟩ := isOf hZ rfl G7_0
  obtain ⟨_, _, ⟨T10, L10, k10, n10⟩, -, X10, ⟨Lc10, hQ10, l10, y10, z10⟩, st10⟩ := X7.interfaceBack hx (xi := (⟨"java/util/List", "clear", "()V"⟩ : MethodName)) (y := (⟨"java/util/AbstractList", "clear", "()V"⟩ : MethodName)) hown (mvT hZ (hw _ (List.mem_of_getElem? (i := 111) rfl))) (mvT hZ (hw _ (List.mem_of_getElem? (i := 112) rfl))) (mvT hZ (hw _ (List.mem_of_getElem? (i := 113) rfl))) (mvT hZ (hw _ (List.mem_of_getElem? (i := 114) rfl))) (mvT hZ (hw _ (List.mem_of_getElem? (i := 115) rfl))) (mvT hZ (hw _ (List.mem_of_getElem? (i := 116) rfl))) (mvT hZ (hw _ (List.mem_of_getElem? (i := 117) rfl))) (mvT hZ (hw _ (List.mem_of_getElem? (i := 118) rfl))) (by decide) (backOf (W := 0) (rm15 l Z a0 hw [] b_7 mc u1 es T7.heap n0 Z9 G7_0 G7_1 G7_5 G7_4 G7_2 G7_3 (E_u1.keep K7q) (F_modCount_u1.keep K7q nin0) (F_size_u1.keep K7q nin0) (F_elementData_u1.keep K7q nin0) (Ne.symm ne_u1_b_7) g_b_7 g_u1 (V_es.keep K7q nin0) ne_es_b_7 ne_es_u1) hZ (hw _ (List.mem_of_getElem? (i := 119) rfl)) (hw _ (List.mem_of_getElem? (i := 19) rfl)) (by decide) (by decide)) q10a q10b q10c (g := (mkF m 60 #[.val (.ref o0), .val (.int (0 : Int32)), .val (.int (-1 : Int32))] [(.ref b_7)])) rfl (by rw [hml]; rfl) (Steps.refl _) (argsL := []) (rest := []) (lenOf pd_11_2 rfl) rfl (by show 2 * 0 + _ ≤ _; exact Nat.le_of_eq rfl) (hb hby d11_60) (fun _ _ => ⟨rfl, rfl, (by decide : 1 + 0 ≤ _), (by decide : 5 + 0 ≤ _)⟩)
  dsimp only [Pt.U, Pt.locs, Pt.cells, Pt.slots] at X10 l10 y10 z10 st10 hQ10
  subst l10 y10 z10
  obtain ⟨rfl, N10q, K10q, G10_0, G10_1, G10_2, G10_3, G10_4⟩ := hQ10
  have N10 := Fr.app N7 N10q
  have K11 : Keep h0 T10.heap [u1] := K8.trans K10q (allS (Or.inr sz_b_7) (allS (Or.inl (List.mem_of_getElem? (i := 0) rfl)) all0))
  have Z12 : n0 ≤ T10.heap.size := Nat.le_trans Z0 K11.1
  obtain ⟨LS10, X10, N10⟩ : ∃ L, Stand p l e ({ frames := 5, cells := 1, slots := 5, locals := 75 } : Room) s m #[(.ref o0), (.int (0 : Int32))] below meth c T10 L 1 5 ∧ Fr n0 L := ⟨_, X10, N10⟩
  obtain ⟨fs, hr, hrun, hended, hW, hsame⟩ := X10.leave (v := none) (fun _ => rfl)
  refine ⟨_, _, pre3 _ ?_, hrun, hended, _, _, rfl, ?_, ⟨_, rfl⟩, hW, hsame.mono (by decide) (by decide)⟩
  · show Steps p.tables e below (T2.setTop (mkF m 14 #[.val (.ref o0), .val (.int (0 : Int32)), .val (.int (-1 : Int32))] [(.int (0 : Int32)), (.int (-1 : Int32))])) _
    refine XS.icmpYes X2.here hx rfl (pc0 := 14) (pc' := 41) rfl (hb hby d11_14) rfl (tlt (by decide : ((-1 : Int32) < (0 : Int32)))).1 (by decide) (by decide) ?_
    show Steps p.tables e below (T2.setTop (mkF m 41 #[.val (.ref o0), .val (.int (0 : Int32)), .val (.int (-1 : Int32))] [])) _
    refine XS.aloadN X2.here hx rfl (hb hby d11_41) rfl rfl ?_
    show Steps p.tables e below (T2.setTop (mkF m 42 #[.val (.ref o0), .val (.int (0 : Int32)), .val (.int (-1 : Int32))] [(.ref o0)])) _
    refine st4 _ ?_
    show Steps p.tables e below (T4.setTop (mkF m 45 #[.val (.ref o0), .val (.int (0 : Int32)), .val (.int (-1 : Int32))] [(.ref u1)])) _
    refine XS.iloadN X4.here hx rfl (hb hby d11_45) rfl ?_
    show Steps p.tables e below (T4.setTop (mkF m 46 #[.val (.ref o0), .val (.int (0 : Int32)), .val (.int (-1 : Int32))] [(.int (0 : Int32)), (.ref u1)])) _
    refine XS.aloadN X4.here hx rfl (hb hby d11_46) rfl rfl ?_
    show Steps p.tables e below (T4.setTop (mkF m 47 #[.val (.ref o0), .val (.int (0 : Int32)), .val (.int (-1 : Int32))] [(.ref o0), (.int (0 : Int32)), (.ref u1)])) _
    refine st5 _ ?_
    show Steps p.tables e below (T5.setTop (mkF m 50 #[.val (.ref o0), .val (.int (0 : Int32)), .val (.int (-1 : Int32))] [(.ref u1), (.int (0 : Int32)), (.ref u1)])) _
    refine st6.trans ?_
    show Steps p.tables e below (T6.setTop (mkF m 55 #[.val (.ref o0), .val (.int (0 : Int32)), .val (.int (-1 : Int32))] [(.int (0 : Int32)), (.int (0 : Int32)), (.ref u1)])) _
    refine st7.trans ?_
    show Steps p.tables e below (T7.setTop (mkF m 60 #[.val (.ref o0), .val (.int (0 : Int32)), .val (.int (-1 : Int32))] [(.ref b_7)])) _
    refine st10.trans ?_
    show Steps p.tables e below (T10.setTop (mkF m 65 #[.val (.ref o0), .val (.int (0 : Int32)), .val (.int (-1 : Int32))] [])) _
    exact X10.returnOut hx Bd.returns (hb hby d11_65) hr
  · show Q11 Z o0 u1 ip ins mc es h0 n0 _ T10.heap _
    exact ⟨rfl, N10, K11, G10_0, G10_1, G10_2⟩
theorem d23_0 : decode jdk_38_method_40_code 0 = .ok (.aload_n 0, 1) := by decide +kernel
theorem d23_1 : decode jdk_38_method_40_code 1 = .ok (.dup, 1) := by decide +kernel
theorem d23_2 : decode jdk_38_method_40_code 2 = .ok (.getfield 63, 3) := by decide +kernel
theorem d23_5 : decode jdk_38_method_40_code 5 = .ok (.iconst 1, 1) := by decide +kernel
theorem d23_6 : decode jdk_38_method_40_code 6 = .ok (.iadd, 1) := by decide +kernel
theorem d23_7 : decode jdk_38_method_40_code 7 = .ok (.putfield 63, 3) := by decide +kernel
theorem d23_10 : decode jdk_38_method_40_code 10 = .ok (.aload_n 0, 1) := by decide +kernel
theorem d23_11 : decode jdk_38_method_40_code 11 = .ok (.getfield 9, 3) := by decide +kernel
theorem d23_14 : decode jdk_38_method_40_code 14 = .ok (.astore_n 1, 1) := by decide +kernel
theorem d23_15 : decode jdk_38_method_40_code 15 = .ok (.aload_n 0, 1) := by decide +kernel
theorem d23_16 : decode jdk_38_method_40_code 16 = .ok (.getfield 48, 3) := by decide +kernel
theorem d23_19 : decode jdk_38_method_40_code 19 = .ok (.istore_n 2, 1) := by decide +kernel
theorem d23_20 : decode jdk_38_method_40_code 20 = .ok (.aload_n 0, 1) := by decide +kernel
theorem d23_21 : decode jdk_38_method_40_code 21 = .ok (.iconst 0, 1) := by decide +kernel
theorem d23_22 : decode jdk_38_method_40_code 22 = .ok (.dup_x1, 1) := by decide +kernel
theorem d23_23 : decode jdk_38_method_40_code 23 = .ok (.putfield 48, 3) := by decide +kernel
theorem d23_26 : decode jdk_38_method_40_code 26 = .ok (.istore_n 3, 1) := by decide +kernel
theorem d23_27 : decode jdk_38_method_40_code 27 = .ok (.iload_n 3, 1) := by decide +kernel
theorem d23_28 : decode jdk_38_method_40_code 28 = .ok (.iload_n 2, 1) := by decide +kernel
theorem d23_29 : decode jdk_38_method_40_code 29 = .ok (.if_icmp .ge 13, 3) := by decide +kernel
theorem d23_42 : decode jdk_38_method_40_code 42 = .ok (.return_, 1) := by decide +kernel
theorem pn_23 : plainName "java/util/ArrayList" = true := by first | (simp [plainName, overriddenIn]; done) | decide +kernel
theorem ef_23 (m : MethodId) (x0 : Addr) : entryFrame m #[(.ref x0)] 4 = mkF m 0 #[.val (.ref x0), .unset, .unset, .unset] [] := by first | (simp [entryFrame, mkF, argsToLocals, Value.category]; done) | rfl
def Q23 (Z : State) (o0 : Addr) (mc : Int32) (es : Addr) (h0 : Heap) (n0 : Nat) (v : Option Value) (h : Heap) (L : List Loc) : Prop := v = none ∧ Fr n0 L ∧ Keep h0 h [o0] ∧ Fld Z h o0 "java/util/AbstractList" "modCount" "I" (.int (mc + (1 : Int32))) ∧ Fld Z h o0 "java/util/ArrayList" "size" "I" (.int (0 : Int32)) ∧ Fld Z h o0 "java/util/ArrayList" "elementData" "[Ljava/lang/Object;" (.ref es)
set_option maxRecDepth 65536 in
set_option maxHeartbeats 40000000 in
theorem rm23 (l : Launch) (Z : State) (a0 : Array Value) (hw : ∀ d ∈ tables_1, d.before a0 Z = true) (ws : List Jvm.Cond) (o0 : Addr) (mc : Int32) (es : Addr) (h0 : Heap) (n0 : Nat) (Z0 : n0 ≤ h0.size) (E_o0 : Exa Z h0 o0 "java/util/ArrayList") (F_modCount_o0 : Fld Z h0 o0 "java/util/AbstractList" "modCount" "I" (.int mc)) (F_size_o0 : Fld Z h0 o0 "java/util/ArrayList" "size" "I" (.int (0 : Int32))) (F_elementData_o0 : Fld Z h0 o0 "java/util/ArrayList" "elementData" "[Ljava/lang/Object;" (.ref es)) (g_o0 : n0 ≤ o0) :
    MetFree l (⟨"java/util/ArrayList", "clear", "()V"⟩ : MethodName) (head1 (Jvm.Cond.code (⟨"java/util/ArrayList", "clear", "()V"⟩ : MethodName) jdk_38_method_40_code 4 none :: ws) ({ frames := 0, cells := 0, slots := 0, locals := 0 } : Room)) (fun a U => a = #[(.ref o0)] ∧ Z.Warmed39 U.vm ∧ U.heap = h0) (fun _ _ _ _ _ => True) (fun _ U o U' => ∃ v L, o = .returned v ∧ Q23 Z o0 mc es h0 n0 v U'.heap L ∧ FrameEnd U o U' L ({ frames := 0, cells := 0, slots := 0, locals := 0 } : Room).cells ({ frames := 0, cells := 0, slots := 0, locals := 0 } : Room).slots) := by
  refine MetFree.of_bodySF (plainFor_of_name pn_23) hisR ?_
  intro p e s m args below meth c s₁ Bd hml0 hP hK
  obtain ⟨rfl, hZ, hh⟩ := hP
  have hx := Bd.exec
  have hby := Bd.bytes
  have hml : c.maxLocals = 4 := hml0
  have hown : s.vm.findClass "java/util/ArrayList" = some m.cls := findClass_of_methodNamed Bd.named
  have hnm := (name_of_methodNamed Bd.named Bd.method).1
  have X0 : Stand p l e ({ frames := 0, cells := 0, slots := 0, locals := 0 } : Room) s m #[(.ref o0)] below meth c s₁ [] 0 0 := Stand.of_body Bd
  have e0 : s₁.heap = h0 := by rw [← hh, Bd.state]; rfl
  have N0 := Fr.nil n0
  have pre0 : ∀ t, Steps p.tables e below (s₁.setTop (mkF m 0 #[.val (.ref o0), .unset, .unset, .unset] [])) t → Steps p.tables e below (s₁.setTop (entryFrame m #[(.ref o0)] 4)) t := fun t k => castTop (ef_23 m o0) k
  obtain ⟨T1, X1, e1, st1⟩ := getF X0 hx hZ hown (host := "") (Or.inl (hw _ (List.mem_of_getElem? (i := 142) rfl))) (Via.of (hw _ (List.mem_of_getElem? (i := 108) rfl))) e0 F_modCount_o0 (g := (mkF m 2 #[.val (.ref o0), .unset, .unset, .unset] [(.ref o0), (.ref o0)])) rfl rfl (hb hby d23_2)
  obtain ⟨T2, h2, X2, e2, W2, st2⟩ := putF X1 hx hZ hown (host := "") (Or.inl (hw _ (List.mem_of_getElem? (i := 142) rfl))) (Via.of (hw _ (List.mem_of_getElem? (i := 108) rfl))) e1 F_modCount_o0 E_o0 (Or.inl (hw _ (List.mem_of_getElem? (i := 29) rfl))) (hw _ (List.mem_of_getElem? (i := 10) rfl)) (ty := .int) (by decide) rfl rfl (g := (mkF m 7 #[.val (.ref o0), .unset, .unset, .unset] [(.int (mc + (1 : Int32))), (.ref o0)])) rfl rfl (hb hby d23_7)
  have Fw2 := F_modCount_o0.same W2
  have K3 : Keep h0 h2 [o0] := (Keep.refl h0 [o0]).wr W2 (Or.inl (List.mem_of_getElem? (i := 0) rfl))
  have Z4 : n0 ≤ h2.size := Nat.le_trans Z0 K3.1
  have N2 := Fr.snoc X2 N0 g_o0
  obtain ⟨LS2, X2, N2⟩ : ∃ L, Stand p l e ({ frames := 0, cells := 0, slots := 0, locals := 0 } : Room) s m #[(.ref o0)] below meth c T2 L 0 0 ∧ Fr n0 L := ⟨_, X2, N2⟩
  have c5 := (F_elementData_o0.other W2 (Or.inr (slot_ne (Or.inl (hw _ (List.mem_of_getElem? (i := 32) rfl))) (Or.inl (hw _ (List.mem_of_getElem? (i := 29) rfl))) (by decide) (t := (.array (.object "java/lang/Object"))) (t' := .int) (by decide) (by decide))))
  obtain ⟨T6, X6, e6, st6⟩ := getF X2 hx hZ hown (host := "") (Or.inl (hw _ (List.mem_of_getElem? (i := 31) rfl))) Via.refl e2 c5 (g := (mkF m 11 #[.val (.ref o0), .unset, .unset, .unset] [(.ref o0)])) rfl rfl (hb hby d23_11)
  have c7 := (F_size_o0.other W2 (Or.inr (slot_ne (Or.inl (hw _ (List.mem_of_getElem? (i := 64) rfl))) (Or.inl (hw _ (List.mem_of_getElem? (i := 29) rfl))) (by decide) (t := .int) (t' := .int) (by decide) (by decide))))
  obtain ⟨T8, X8, e8, st8⟩ := getF X6 hx hZ hown (host := "") (Or.inl (hw _ (List.mem_of_getElem? (i := 63) rfl))) Via.refl e6 c7 (g := (mkF m 16 #[.val (.ref o0), .val (.ref es), .unset, .unset] [(.ref o0)])) rfl rfl (hb hby d23_16)
  obtain ⟨T9, h9, X9, e9, W9, st9⟩ := putF X8 hx hZ hown (host := "") (Or.inl (hw _ (List.mem_of_getElem? (i := 63) rfl))) Via.refl e8 c7 (E_o0.wr W2) (Or.inl (hw _ (List.mem_of_getElem? (i := 64) rfl))) (hw _ (List.mem_of_getElem? (i := 10) rfl)) (ty := .int) (by decide) rfl rfl (g := (mkF m 23 #[.val (.ref o0), .val (.ref es), .val (.int (0 : Int32)), .unset] [(.int (0 : Int32)), (.ref o0), (.int (0 : Int32))])) rfl rfl (hb hby d23_23)
  have Fw9 := c7.same W9
  have K10 : Keep h0 h9 [o0] := K3.wr W9 (Or.inl (List.mem_of_getElem? (i := 0) rfl))
  have Z11 : n0 ≤ h9.size := Nat.le_trans Z0 K10.1
  have N9 := Fr.snoc X9 N2 g_o0
  obtain ⟨LS9, X9, N9⟩ : ∃ L, Stand p l e ({ frames := 0, cells := 0, slots := 0, locals := 0 } : Room) s m #[(.ref o0)] below meth c T9 L 0 0 ∧ Fr n0 L := ⟨_, X9, N9⟩
  have pre12 : ∀ t, Steps p.tables e below (T9.setTop (mkF m 29 #[.val (.ref o0), .val (.ref es), .val (.int (0 : Int32)), .val (.int (0 : Int32))] [(.int (0 : Int32)), (.int (0 : Int32))])) t → Steps p.tables e below (s₁.setTop (entryFrame m #[(.ref o0)] 4)) t := fun t kt => pre0 t (by
      show Steps p.tables e below (s₁.setTop (mkF m 0 #[.val (.ref o0), .unset, .unset, .unset] [])) _
      refine XS.aloadN X0.here hx rfl (hb hby d23_0) rfl rfl ?_
      show Steps p.tables e below (s₁.setTop (mkF m 1 #[.val (.ref o0), .unset, .unset, .unset] [(.ref o0)])) _
      refine XS.dup X0.here hx rfl (hb hby d23_1) rfl rfl ?_
      show Steps p.tables e below (s₁.setTop (mkF m 2 #[.val (.ref o0), .unset, .unset, .unset] [(.ref o0), (.ref o0)])) _
      refine st1 _ ?_
      show Steps p.tables e below (T1.setTop (mkF m 5 #[.val (.ref o0), .unset, .unset, .unset] [(.int mc), (.ref o0)])) _
      refine XS.iconst X1.here hx rfl (hb hby d23_5) ?_
      show Steps p.tables e below (T1.setTop (mkF m 6 #[.val (.ref o0), .unset, .unset, .unset] [(.int (1 : Int32)), (.int mc), (.ref o0)])) _
      refine XS.iadd X1.here hx rfl (hb hby d23_6) rfl ?_
      show Steps p.tables e below (T1.setTop (mkF m 7 #[.val (.ref o0), .unset, .unset, .unset] [(.int (mc + (1 : Int32))), (.ref o0)])) _
      refine st2 _ ?_
      show Steps p.tables e below (T2.setTop (mkF m 10 #[.val (.ref o0), .unset, .unset, .unset] [])) _
      refine XS.aloadN X2.here hx rfl (hb hby d23_10) rfl rfl ?_
      show Steps p.tables e below (T2.setTop (mkF m 11 #[.val (.ref o0), .unset, .unset, .unset] [(.ref o0)])) _
      refine st6 _ ?_
      show Steps p.tables e below (T6.setTop (mkF m 14 #[.val (.ref o0), .unset, .unset, .unset] [(.ref es)])) _
      refine XS.astoreN X6.here hx rfl (hb hby d23_14) rfl rfl (l' := #[.val (.ref o0), .val (.ref es), .unset, .unset]) rfl ?_
      show Steps p.tables e below (T6.setTop (mkF m 15 #[.val (.ref o0), .val (.ref es), .unset, .unset] [])) _
      refine XS.aloadN X6.here hx rfl (hb hby d23_15) rfl rfl ?_
      show Steps p.tables e below (T6.setTop (mkF m 16 #[.val (.ref o0), .val (.ref es), .unset, .unset] [(.ref o0)])) _
      refine st8 _ ?_
      show Steps p.tables e below (T8.setTop (mkF m 19 #[.val (.ref o0), .val (.ref es), .unset, .unset] [(.int (0 : Int32))])) _
      refine XS.istoreN X8.here hx rfl (hb hby d23_19) rfl (l' := #[.val (.ref o0), .val (.ref es), .val (.int (0 : Int32)), .unset]) rfl ?_
      show Steps p.tables e below (T8.setTop (mkF m 20 #[.val (.ref o0), .val (.ref es), .val (.int (0 : Int32)), .unset] [])) _
      refine XS.aloadN X8.here hx rfl (hb hby d23_20) rfl rfl ?_
      show Steps p.tables e below (T8.setTop (mkF m 21 #[.val (.ref o0), .val (.ref es), .val (.int (0 : Int32)), .unset] [(.ref o0)])) _
      refine XS.iconst X8.here hx rfl (hb hby d23_21) ?_
      show Steps p.tables e below (T8.setTop (mkF m 22 #[.val (.ref o0), .val (.ref es), .val (.int (0 : Int32)), .unset] [(.int (0 : Int32)), (.ref o0)])) _
      refine XS.dupX1 X8.here hx rfl (hb hby d23_22) rfl rfl rfl ?_
      show Steps p.tables e below (T8.setTop (mkF m 23 #[.val (.ref o0), .val (.ref es), .val (.int (0 : Int32)), .unset] [(.int (0 : Int32)), (.ref o0), (.int (0 : Int32))])) _
      refine st9 _ ?_
      show Steps p.tables e below (T9.setTop (mkF m 26 #[.val (.ref o0), .val (.ref es), .val (.int (0 : Int32)), .unset] [(.int (0 : Int32))])) _
      refine XS.istoreN X9.here hx rfl (hb hby d23_26) rfl (l' := #[.val (.ref o0), .val (.ref es), .val (.int (0 : Int32)), .val (.int (0 : Int32))]) rfl ?_
      show Steps p.tables e below (T9.setTop (mkF m 27 #[.val (.ref o0), .val (.ref es), .val (.int (0 : Int32)), .val (.int (0 : Int32))] [])) _
      refine XS.iloadN X9.here hx rfl (hb hby d23_27) rfl ?_
      show Steps p.tables e below (T9.setTop (mkF m 28 #[.val (.ref o0), .val (.ref es), .val (.int (0 : Int32)), .val (.int (0 : Int32))] [(.int (0 : Int32))])) _
      refine XS.iloadN X9.here hx rfl (hb hby d23_28) rfl ?_
      exact kt)
  obtain ⟨fs, hr, hrun, hended, hW, hsame⟩ := X9.leave (v := none) (fun _ => rfl)
  have c13 := (Fw2.other W9 (Or.inr (slot_ne (Or.inl (hw _ (List.mem_of_getElem? (i := 29) rfl))) (Or.inl (hw _ (List.mem_of_getElem? (i := 64) rfl))) (by decide) (t := .int) (t' := .int) (by decide) (by decide))))
  have c14 := (c5.other W9 (Or.inr (slot_ne (Or.inl (hw _ (List.mem_of_getElem? (i := 32) rfl))) (Or.inl (hw _ (List.mem_of_getElem? (i := 64) rfl))) (by decide) (t := (.array (.object "java/lang/Object"))) (t' := .int) (by decide) (by decide))))
  refine ⟨_, _, pre12 _ ?_, hrun, hended, _, _, rfl, ?_, ⟨_, rfl⟩, hW, hsame.mono (by decide) (by decide)⟩
  · show Steps p.tables e below (T9.setTop (mkF m 29 #[.val (.ref o0), .val (.ref es), .val (.int (0 : Int32)), .val (.int (0 : Int32))] [(.int (0 : Int32)), (.int (0 : Int32))])) _
    refine XS.icmpYes X9.here hx rfl (pc0 := 29) (pc' := 42) rfl (hb hby d23_29) rfl (flt (by decide : ¬ ((0 : Int32) < (0 : Int32)))).2.1 (by decide) (by decide) ?_
    show Steps p.tables e below (T9.setTop (mkF m 42 #[.val (.ref o0), .val (.ref es), .val (.int (0 : Int32)), .val (.int (0 : Int32))] [])) _
    exact X9.returnOut hx Bd.returns (hb hby d23_42) hr
  · show Q23 Z o0 mc es h0 n0 _ T9.heap _
    rw [e9]
    exact ⟨rfl, N9, K10, c13, Fw9, c14⟩
theorem d8_0 : decode prog_5_method_2_code 0 = .ok (.aload_n 0, 1) := by decide +kernel
theorem d8_1 : decode prog_5_method_2_code 1 = .ok (.getfield 16, 3) := by decide +kernel
theorem d8_4 : decode prog_5_method_2_code 4 = .ok (.ifCond .eq 7, 3) := by decide +kernel
theorem d8_11 : decode prog_5_method_2_code 11 = .ok (.aload_n 0, 1) := by decide +kernel
theorem d8_12 : decode prog_5_method_2_code 12 = .ok (.iconst 1, 1) := by decide +kernel
theorem d8_13 : decode prog_5_method_2_code 13 = .ok (.putfield 16, 3) := by decide +kernel
theorem d8_16 : decode prog_5_method_2_code 16 = .ok (.aload_n 0, 1) := by decide +kernel
theorem d8_17 : decode prog_5_method_2_code 17 = .ok (.aload_n 0, 1) := by decide +kernel
theorem d8_18 : decode prog_5_method_2_code 18 = .ok (.getfield 10, 3) := by decide +kernel
theorem d8_21 : decode prog_5_method_2_code 21 = .ok (.invokeinterface 26 1, 5) := by decide +kernel
theorem d8_26 : decode prog_5_method_2_code 26 = .ok (.putfield 32, 3) := by decide +kernel
theorem d8_29 : decode prog_5_method_2_code 29 = .ok (.return_, 1) := by decide +kernel
theorem pn_8 : plainName "com/example/cardhost/cardhost/Transactions" = true := by first | (simp [plainName, overriddenIn]; done) | decide +kernel
theorem pd_8_0 : parseMethodDescriptor "()I" = some ⟨[], some .int⟩ := by decide +kernel
theorem ef_8 (m : MethodId) (x0 : Addr) : entryFrame m #[(.ref x0)] 1 = mkF m 0 #[.val (.ref x0)] [] := by first | (simp [entryFrame, mkF, argsToLocals, Value.category]; done) | rfl
def Q8 (Z : State) (o0 : Addr) (u1 : Addr) (ip : Int32) (ins : Int32) (mc : Int32) (es : Addr) (h0 : Heap) (n0 : Nat) (v : Option Value) (h : Heap) (L : List Loc) : Prop := v = none ∧ Fr n0 L ∧ Keep h0 h [o0] ∧ Fld Z h o0 "com/example/cardhost/cardhost/Transactions" "inProgress" "Z" (.int (1 : Int32)) ∧ Fld Z h o0 "com/example/cardhost/cardhost/Transactions" "inProgressFrom" "I" (.int (0 : Int32)) ∧ Fld Z h o0 "com/example/cardhost/cardhost/Transactions" "undo" "Ljava/util/List;" (.ref u1) ∧ Fld Z h o0 "com/example/cardhost/cardhost/Transactions" "installing" "Z" (.int ins) ∧ Fld Z h u1 "java/util/AbstractList" "modCount" "I" (.int mc) ∧ Fld Z h u1 "java/util/ArrayList" "size" "I" (.int (0 : Int32)) ∧ Fld Z h u1 "java/util/ArrayList" "elementData" "[Ljava/lang/Object;" (.ref es)
set_option maxRecDepth 65536 in
set_option maxHeartbeats 40000000 in
theorem rm8 (l : Launch) (Z : State) (a0 : Array Value) (hw : ∀ d ∈ tables_1, d.before a0 Z = true) (ws : List Jvm.Cond) (o0 : Addr) (u1 : Addr) (ip : Int32) (ins : Int32) (mc : Int32) (es : Addr) (h0 : Heap) (n0 : Nat) (Z0 : n0 ≤ h0.size) (E_o0 : Exa Z h0 o0 "com/example/cardhost/cardhost/Transactions") (F_undo_o0 : Fld Z h0 o0 "com/example/cardhost/cardhost/Transactions" "undo" "Ljava/util/List;" (.ref u1)) (F_inProgress_o0 : Fld Z h0 o0 "com/example/cardhost/cardhost/Transactions" "inProgress" "Z" (.int ip)) (F_installing_o0 : Fld Z h0 o0 "com/example/cardhost/cardhost/Transactions" "installing" "Z" (.int ins)) (F_inProgressFrom_o0 : Fld Z h0 o0 "com/example/cardhost/cardhost/Transactions" "inProgressFrom" "I" (.int (0 : Int32))) (E_u1 : Exa Z h0 u1 "java/util/ArrayList") (F_modCount_u1 : Fld Z h0 u1 "java/util/AbstractList" "modCount" "I" (.int mc)) (F_size_u1 : Fld Z h0 u1 "java/util/ArrayList" "size" "I" (.int (0 : Int32))) (F_elementData_u1 : Fld Z h0 u1 "java/util/ArrayList" "elementData" "[Ljava/lang/Object;" (.ref es)) (ne_o0_u1 : o0 ≠ u1) (g_o0 : n0 ≤ o0) (g_u1 : n0 ≤ u1) (h : ip = (0 : Int32)) :
    MetFree l (⟨"com/example/cardhost/cardhost/Transactions", "begin", "()V"⟩ : MethodName) (head1 (Jvm.Cond.code (⟨"com/example/cardhost/cardhost/Transactions", "begin", "()V"⟩ : MethodName) prog_5_method_2_code 1 none :: ws) ({ frames := 1, cells := 0, slots := 0, locals := 13 } : Room)) (fun a U => a = #[(.ref o0)] ∧ Z.Warmed39 U.vm ∧ U.heap = h0) (fun _ _ _ _ _ => True) (fun _ U o U' => ∃ v L, o = .returned v ∧ Q8 Z o0 u1 ip ins mc es h0 n0 v U'.heap L ∧ FrameEnd U o U' L ({ frames := 1, cells := 0, slots := 0, locals := 13 } : Room).cells ({ frames := 1, cells := 0, slots := 0, locals := 13 } : Room).slots) := by
  refine MetFree.of_bodySF (plainFor_of_name pn_8) hisR ?_
  intro p e s m args below meth c s₁ Bd hml0 hP hK
  obtain ⟨rfl, hZ, hh⟩ := hP
  have hx := Bd.exec
  have hby := Bd.bytes
  have hml : c.maxLocals = 1 := hml0
  have hown : s.vm.findClass "com/example/cardhost/cardhost/Transactions" = some m.cls := findClass_of_methodNamed Bd.named
  have hnm := (name_of_methodNamed Bd.named Bd.method).1
  have X0 : Stand p l e ({ frames := 1, cells := 0, slots := 0, locals := 13 } : Room) s m #[(.ref o0)] below meth c s₁ [] 0 0 := Stand.of_body Bd
  have e0 : s₁.heap = h0 := by rw [← hh, Bd.state]; rfl
  have N0 := Fr.nil n0
  have pre0 : ∀ t, Steps p.tables e below (s₁.setTop (mkF m 0 #[.val (.ref o0)] [])) t → Steps p.tables e below (s₁.setTop (entryFrame m #[(.ref o0)] 1)) t := fun t k => castTop (ef_8 m o0) k
  obtain ⟨T1, X1, e1, st1⟩ := getF X0 hx hZ hown (host := "") (Or.inl (hw _ (List.mem_of_getElem? (i := 41) rfl))) Via.refl e0 F_inProgress_o0 (g := (mkF m 1 #[.val (.ref o0)] [(.ref o0)])) rfl rfl (hb hby d8_1)
  have pre2 : ∀ t, Steps p.tables e below (T1.setTop (mkF m 4 #[.val (.ref o0)] [(.int ip)])) t → Steps p.tables e below (s₁.setTop (entryFrame m #[(.ref o0)] 1)) t := fun t kt => pre0 t (by
      show Steps p.tables e below (s₁.setTop (mkF m 0 #[.val (.ref o0)] [])) _
      refine XS.aloadN X0.here hx rfl (hb hby d8_0) rfl rfl ?_
      show Steps p.tables e below (s₁.setTop (mkF m 1 #[.val (.ref o0)] [(.ref o0)])) _
      refine st1 _ ?_
      exact kt)
  have hd4_3 : ip = (0 : Int32) := h
  obtain ⟨T4, h4, X4, e4, W4, st4⟩ := putFN X1 hx hZ hown (hw _ (List.mem_of_getElem? (i := 41) rfl)) Via.refl e1 F_inProgress_o0 E_o0 (Or.inl (hw _ (List.mem_of_getElem? (i := 42) rfl))) (hw _ (List.mem_of_getElem? (i := 1) rfl)) (ty := .boolean) (v' := (.int (1 : Int32))) (by decide) rfl (fits_nar_bool (1 : Int32)) (g := (mkF m 13 #[.val (.ref o0)] [(.int (1 : Int32)), (.ref o0)])) rfl rfl (hb hby d8_13)
  have Fw4 := F_inProgress_o0.same W4
  have K5 : Keep h0 h4 [o0] := (Keep.refl h0 [o0]).wr W4 (Or.inl (List.mem_of_getElem? (i := 0) rfl))
  have Z6 : n0 ≤ h4.size := Nat.le_trans Z0 K5.1
  have N4 := Fr.snoc X4 N0 g_o0
  obtain ⟨LS4, X4, N4⟩ : ∃ L, Stand p l e ({ frames := 1, cells := 0, slots := 0, locals := 13 } : Room) s m #[(.ref o0)] below meth c T4 L 0 0 ∧ Fr n0 L := ⟨_, X4, N4⟩
  have c7 := (F_undo_o0.other W4 (Or.inr (slot_ne (Or.inr (hw _ (List.mem_of_getElem? (i := 34) rfl))) (Or.inl (hw _ (List.mem_of_getElem? (i := 42) rfl))) (by decide) (t := (.object "java/util/List")) (t' := .boolean) (by decide) (by decide))))
  obtain ⟨T8, X8, e8, st8⟩ := getF X4 hx hZ hown (host := "") (Or.inl (hw _ (List.mem_of_getElem? (i := 33) rfl))) Via.refl e4 c7 (g := (mkF m 18 #[.val (.ref o0)] [(.ref o0), (.ref o0)])) rfl rfl (hb hby d8_18)
  obtain ⟨cq9, kq9, q9a, q9b, q9c⟩ := isOf hZ e8 (E_u1.wr W4)
  obtain ⟨_, _, ⟨T9, L9, k9, n9⟩, -, X9, ⟨Lc9, hQ9, l9, y9, z9⟩, st9⟩ := X8.interfaceBack hx (xi := (⟨"java/util/List", "size", "()I"⟩ : MethodName)) (y := (⟨"java/util/ArrayList", "size", "()I"⟩ : MethodName)) hown (mvT hZ (hw _ (List.mem_of_getElem? (i := 54) rfl))) (mvT hZ (hw _ (List.mem_of_getElem? (i := 55) rfl))) (mvT hZ (hw _ (List.mem_of_getElem? (i := 56) rfl))) (mvT hZ (hw _ (List.mem_of_getElem? (i := 57) rfl))) (mvT hZ (hw _ (List.mem_of_getElem? (i := 58) rfl))) (mvT hZ (hw _ (List.mem_of_getElem? (i := 59) rfl))) (mvT hZ (hw _ (List.mem_of_getElem? (i := 60) rfl))) (mvT hZ (hw _ (List.mem_of_getElem? (i := 61) rfl))) (by decide) (backOf (W := 1) (rm9 l Z a0 hw [] u1 h4 n0 Z6 (E_u1.wr W4) (F_size_u1.other W4 (Or.inl (Ne.symm ne_o0_u1)))) hZ (hw _ (List.mem_of_getElem? (i := 62) rfl)) (hw _ (List.mem_of_getElem? (i := 11) rfl)) (by decide) (by decide)) q9a q9b q9c (g := (mkF m 21 #[.val (.ref o0)] [(.ref u1), (.ref o0)])) rfl (by rw [hml]; rfl) (Steps.refl _) (argsL := []) (rest := [(.ref o0)]) (lenOf pd_8_0 rfl) rfl (by show 2 * 0 + _ ≤ _; exact Nat.le_of_eq rfl) (hb hby d8_21) (fun _ _ => ⟨rfl, e8, (by decide : 0 + 0 ≤ _), (by decide : 0 + 0 ≤ _)⟩)
  dsimp only [Pt.U, Pt.locs, Pt.cells, Pt.slots] at X9 l9 y9 z9 st9 hQ9
  subst l9 y9 z9
  obtain ⟨rfl, N9q, e9q⟩ := hQ9
  have N9 := Fr.app N4 N9q
  have c10 := (F_inProgressFrom_o0.other W4 (Or.inr (slot_ne (Or.inl (hw _ (List.mem_of_getElem? (i := 66) rfl))) (Or.inl (hw _ (List.mem_of_getElem? (i := 42) rfl))) (by decide) (t := .int) (t' := .boolean) (by decide) (by decide))))
  obtain ⟨T11, h11, X11, e11, W11, st11⟩ := putF X9 hx hZ hown (host := "") (Or.inl (hw _ (List.mem_of_getElem? (i := 65) rfl))) Via.refl e9q c10 (E_o0.wr W4) (Or.inl (hw _ (List.mem_of_getElem? (i := 66) rfl))) (hw _ (List.mem_of_getElem? (i := 1) rfl)) (ty := .int) (by decide) rfl rfl (g := (mkF m 26 #[.val (.ref o0)] [(.int (0 : Int32)), (.ref o0)])) rfl rfl (hb hby d8_26)
  have Fw11 := c10.same W11
  have K12 : Keep h0 h11 [o0] := K5.wr W11 (Or.inl (List.mem_of_getElem? (i := 0) rfl))
  have Z13 : n0 ≤ h11.size := Nat.le_trans Z0 K12.1
  have N11 := Fr.snoc X11 N9 g_o0
  obtain ⟨LS11, X11, N11⟩ : ∃ L, Stand p l e ({ frames := 1, cells := 0, slots := 0, locals := 13 } : Room) s m #[(.ref o0)] below meth c T11 L 0 0 ∧ Fr n0 L := ⟨_, X11, N11⟩
  obtain ⟨fs, hr, hrun, hended, hW, hsame⟩ := X11.leave (v := none) (fun _ => rfl)
  have c14 := (Fw4.other W11 (Or.inr (slot_ne (Or.inl (hw _ (List.mem_of_getElem? (i := 42) rfl))) (Or.inl (hw _ (List.mem_of_getElem? (i := 66) rfl))) (by decide) (t := .boolean) (t' := .int) (by decide) (by decide))))
  have c15 := (c7.other W11 (Or.inr (slot_ne (Or.inr (hw _ (List.mem_of_getElem? (i := 34) rfl))) (Or.inl (hw _ (List.mem_of_getElem? (i := 66) rfl))) (by decide) (t := (.object "java/util/List")) (t' := .int) (by decide) (by decide))))
  have c16 := ((F_installing_o0.other W4 (Or.inr (slot_ne (Or.inl (hw _ (List.mem_of_getElem? (i := 44) rfl))) (Or.inl (hw _ (List.mem_of_getElem? (i := 42) rfl))) (by decide) (t := .boolean) (t' := .boolean) (by decide) (by decide)))).other W11 (Or.inr (slot_ne (Or.inl (hw _ (List.mem_of_getElem? (i := 44) rfl))) (Or.inl (hw _ (List.mem_of_getElem? (i := 66) rfl))) (by decide) (t := .boolean) (t' := .int) (by decide) (by decide))))
  have c17 := ((F_modCount_u1.other W4 (Or.inl (Ne.symm ne_o0_u1))).other W11 (Or.inl (Ne.symm ne_o0_u1)))
  have c18 := ((F_size_u1.other W4 (Or.inl (Ne.symm ne_o0_u1))).other W11 (Or.inl (Ne.symm ne_o0_u1)))
  have c19 := ((F_elementData_u1.other W4 (Or.inl (Ne.symm ne_o0_u1))).other W11 (Or.inl (Ne.symm ne_o0_u1)))
  refine ⟨_, _, pre2 _ ?_, hrun, hended, _, _, rfl, ?_, ⟨_, rfl⟩, hW, hsame.mono (by decide) (by decide)⟩
  · show Steps p.tables e below (T1.setTop (mkF m 4 #[.val (.ref o0)] [(.int ip)])) _
    refine XS.ifYes X1.here hx rfl (pc0 := 4) (pc' := 11) rfl (hb hby d8_4) rfl ((if0 _ _).trans (teq hd4_3).1) (by decide) (by decide) ?_
    show Steps p.tables e below (T1.setTop (mkF m 11 #[.val (.ref o0)] [])) _
    refine XS.aloadN X1.here hx rfl (hb hby d8_11) rfl rfl ?_
    show Steps p.tables e below (T1.setTop (mkF m 12 #[.val (.ref o0)] [(.ref o0)])) _
    refine XS.iconst X1.here hx rfl (hb hby d8_12) ?_
    show Steps p.tables e below (T1.setTop (mkF m 13 #[.val (.ref o0)] [(.int (1 : Int32)), (.ref o0)])) _
    refine st4 _ ?_
    show Steps p.tables e below (T4.setTop (mkF m 16 #[.val (.ref o0)] [])) _
    refine XS.aloadN X4.here hx rfl (hb hby d8_16) rfl rfl ?_
    show Steps p.tables e below (T4.setTop (mkF m 17 #[.val (.ref o0)] [(.ref o0)])) _
    refine XS.aloadN X4.here hx rfl (hb hby d8_17) rfl rfl ?_
    show Steps p.tables e below (T4.setTop (mkF m 18 #[.val (.ref o0)] [(.ref o0), (.ref o0)])) _
    refine st8 _ ?_
    show Steps p.tables e below (T8.setTop (mkF m 21 #[.val (.ref o0)] [(.ref u1), (.ref o0)])) _
    refine st9.trans ?_
    show Steps p.tables e below (T9.setTop (mkF m 26 #[.val (.ref o0)] [(.int (0 : Int32)), (.ref o0)])) _
    refine st11 _ ?_
    show Steps p.tables e below (T11.setTop (mkF m 29 #[.val (.ref o0)] [])) _
    exact X11.returnOut hx Bd.returns (hb hby d8_29) hr
  · show Q8 Z o0 u1 ip ins mc es h0 n0 _ T11.heap _
    rw [e11]
    exact ⟨rfl, N11, K12, c14, Fw11, c15, c16, c17, c18, c19⟩
theorem d10_0 : decode prog_5_method_4_code 0 = .ok (.aload_n 0, 1) := by decide +kernel
theorem d10_1 : decode prog_5_method_4_code 1 = .ok (.getfield 16, 3) := by decide +kernel
theorem d10_4 : decode prog_5_method_4_code 4 = .ok (.ifCond .ne 7, 3) := by decide +kernel
theorem d10_11 : decode prog_5_method_4_code 11 = .ok (.aload_n 0, 1) := by decide +kernel
theorem d10_12 : decode prog_5_method_4_code 12 = .ok (.aload_n 0, 1) := by decide +kernel
theorem d10_13 : decode prog_5_method_4_code 13 = .ok (.getfield 32, 3) := by decide +kernel
theorem d10_16 : decode prog_5_method_4_code 16 = .ok (.invokevirtual 42, 3) := by decide +kernel
theorem d10_19 : decode prog_5_method_4_code 19 = .ok (.aload_n 0, 1) := by decide +kernel
theorem d10_20 : decode prog_5_method_4_code 20 = .ok (.iconst 0, 1) := by decide +kernel
theorem d10_21 : decode prog_5_method_4_code 21 = .ok (.putfield 16, 3) := by decide +kernel
theorem d10_24 : decode prog_5_method_4_code 24 = .ok (.return_, 1) := by decide +kernel
theorem pn_10 : plainName "com/example/cardhost/cardhost/Transactions" = true := by first | (simp [plainName, overriddenIn]; done) | decide +kernel
theorem pd_10_0 : parseMethodDescriptor "(I)V" = some ⟨[.int], none⟩ := by decide +kernel
theorem ef_10 (m : MethodId) (x0 : Addr) : entryFrame m #[(.ref x0)] 1 = mkF m 0 #[.val (.ref x0)] [] := by first | (simp [entryFrame, mkF, argsToLocals, Value.category]; done) | rfl
def Q10 (Z : State) (o0 : Addr) (u1 : Addr) (ip : Int32) (ins : Int32) (mc : Int32) (es : Addr) (h0 : Heap) (n0 : Nat) (v : Option Value) (h : Heap) (L : List Loc) : Prop := v = none ∧ Fr n0 L ∧ Keep h0 h [u1, o0] ∧ Fld Z h u1 "java/util/AbstractList" "modCount" "I" (.int (mc + (1 : Int32))) ∧ Fld Z h u1 "java/util/ArrayList" "size" "I" (.int (0 : Int32)) ∧ Fld Z h u1 "java/util/ArrayList" "elementData" "[Ljava/lang/Object;" (.ref es) ∧ Fld Z h o0 "com/example/cardhost/cardhost/Transactions" "inProgress" "Z" (.int (0 : Int32)) ∧ Fld Z h o0 "com/example/cardhost/cardhost/Transactions" "undo" "Ljava/util/List;" (.ref u1) ∧ Fld Z h o0 "com/example/cardhost/cardhost/Transactions" "installing" "Z" (.int ins) ∧ Fld Z h o0 "com/example/cardhost/cardhost/Transactions" "inProgressFrom" "I" (.int (0 : Int32))
set_option maxRecDepth 65536 in
set_option maxHeartbeats 40000000 in
theorem rm10 (l : Launch) (Z : State) (a0 : Array Value) (hw : ∀ d ∈ tables_1, d.before a0 Z = true) (ws : List Jvm.Cond) (o0 : Addr) (u1 : Addr) (ip : Int32) (ins : Int32) (mc : Int32) (es : Addr) (h0 : Heap) (n0 : Nat) (Z0 : n0 ≤ h0.size) (E_o0 : Exa Z h0 o0 "com/example/cardhost/cardhost/Transactions") (F_undo_o0 : Fld Z h0 o0 "com/example/cardhost/cardhost/Transactions" "undo" "Ljava/util/List;" (.ref u1)) (F_inProgress_o0 : Fld Z h0 o0 "com/example/cardhost/cardhost/Transactions" "inProgress" "Z" (.int ip)) (F_installing_o0 : Fld Z h0 o0 "com/example/cardhost/cardhost/Transactions" "installing" "Z" (.int ins)) (F_inProgressFrom_o0 : Fld Z h0 o0 "com/example/cardhost/cardhost/Transactions" "inProgressFrom" "I" (.int (0 : Int32))) (E_u1 : Exa Z h0 u1 "java/util/ArrayList") (F_modCount_u1 : Fld Z h0 u1 "java/util/AbstractList" "modCount" "I" (.int mc)) (F_size_u1 : Fld Z h0 u1 "java/util/ArrayList" "size" "I" (.int (0 : Int32))) (F_elementData_u1 : Fld Z h0 u1 "java/util/ArrayList" "elementData" "[Ljava/lang/Object;" (.ref es)) (ne_o0_u1 : o0 ≠ u1) (g_o0 : n0 ≤ o0) (g_u1 : n0 ≤ u1) (V_es : own_AL Z h0 es (.object "java/lang/Object") (0 : Int32)) (ne_es_o0 : es ≠ o0) (ne_es_u1 : es ≠ u1) (h : ¬ ip = (0 : Int32)) :
    MetFree l (⟨"com/example/cardhost/cardhost/Transactions", "abort", "()V"⟩ : MethodName) (head1 (Jvm.Cond.code (⟨"com/example/cardhost/cardhost/Transactions", "abort", "()V"⟩ : MethodName) prog_5_method_4_code 1 none :: ws) ({ frames := 6, cells := 1, slots := 5, locals := 89 } : Room)) (fun a U => a = #[(.ref o0)] ∧ Z.Warmed39 U.vm ∧ U.heap = h0) (fun _ _ _ _ _ => True) (fun _ U o U' => ∃ v L, o = .returned v ∧ Q10 Z o0 u1 ip ins mc es h0 n0 v U'.heap L ∧ FrameEnd U o U' L ({ frames := 6, cells := 1, slots := 5, locals := 89 } : Room).cells ({ frames := 6, cells := 1, slots := 5, locals := 89 } : Room).slots) := by
  refine MetFree.of_bodySF (plainFor_of_name pn_10) hisR ?_
  intro p e s m args below meth c s₁ Bd hml0 hP hK
  obtain ⟨rfl, hZ, hh⟩ := hP
  have hx := Bd.exec
  have hby := Bd.bytes
  have hml : c.maxLocals = 1 := hml0
  have hown : s.vm.findClass "com/example/cardhost/cardhost/Transactions" = some m.cls := findClass_of_methodNamed Bd.named
  have hnm := (name_of_methodNamed Bd.named Bd.method).1
  have X0 : Stand p l e ({ frames := 6, cells := 1, slots := 5, locals := 89 } : Room) s m #[(.ref o0)] below meth c s₁ [] 0 0 := Stand.of_body Bd
  have e0 : s₁.heap = h0 := by rw [← hh, Bd.state]; rfl
  have N0 := Fr.nil n0
  have pre0 : ∀ t, Steps p.tables e below (s₁.setTop (mkF m 0 #[.val (.ref o0)] [])) t → Steps p.tables e below (s₁.setTop (entryFrame m #[(.ref o0)] 1)) t := fun t k => castTop (ef_10 m o0) k
  obtain ⟨T1, X1, e1, st1⟩ := getF X0 hx hZ hown (host := "") (Or.inl (hw _ (List.mem_of_getElem? (i := 41) rfl))) Via.refl e0 F_inProgress_o0 (g := (mkF m 1 #[.val (.ref o0)] [(.ref o0)])) rfl rfl (hb hby d10_1)
  have pre2 : ∀ t, Steps p.tables e below (T1.setTop (mkF m 4 #[.val (.ref o0)] [(.int ip)])) t → Steps p.tables e below (s₁.setTop (entryFrame m #[(.ref o0)] 1)) t := fun t kt => pre0 t (by
      show Steps p.tables e below (s₁.setTop (mkF m 0 #[.val (.ref o0)] [])) _
      refine XS.aloadN X0.here hx rfl (hb hby d10_0) rfl rfl ?_
      show Steps p.tables e below (s₁.setTop (mkF m 1 #[.val (.ref o0)] [(.ref o0)])) _
      refine st1 _ ?_
      exact kt)
  have hd4_3 : ¬ (ip = (0 : Int32)) := h
  obtain ⟨T4, X4, e4, st4⟩ := getF X1 hx hZ hown (host := "") (Or.inl (hw _ (List.mem_of_getElem? (i := 65) rfl))) Via.refl e1 F_inProgressFrom_o0 (g := (mkF m 13 #[.val (.ref o0)] [(.ref o0), (.ref o0)])) rfl rfl (hb hby d10_13)
  obtain ⟨cq5, q5, q5'⟩ := E_o0.cell
  obtain ⟨_, _, ⟨T5, L5, k5, n5⟩, -, X5, ⟨Lc5, hQ5, l5, y5, z5⟩, st5⟩ := X4.privateBack hx (y := (⟨"com/example/cardhost/cardhost/Transactions", "putBack", "(I)V"⟩ : MethodName)) hown (mvT hZ (hw _ (List.mem_of_getElem? (i := 72) rfl))) (mvT hZ (hw _ (List.mem_of_getElem? (i := 73) rfl))) (own_selp (z := (⟨"com/example/cardhost/cardhost/Transactions", "recording", "()Z"⟩ : MethodName)) rfl (mvT hZ (hw _ (List.mem_of_getElem? (i := 39) rfl))) (Cond.privateMethod_at (mvP hZ (hw _ (List.mem_of_getElem? (i := 74) rfl)) (args := #[]))) (mvT hZ (hw _ (List.mem_of_getElem? (i := 73) rfl))) (by decide)) (Cond.privateMethod_at (mvP hZ (hw _ (List.mem_of_getElem? (i := 74) rfl)) (args := #[]))) (mvT hZ (hw _ (List.mem_of_getElem? (i := 75) rfl))) (by decide) (backOf (W := 0) (rm11 l Z a0 hw [] o0 u1 ip ins mc es h0 n0 Z0 E_o0 F_undo_o0 F_inProgress_o0 F_installing_o0 F_inProgressFrom_o0 E_u1 F_modCount_u1 F_size_u1 F_elementData_u1 ne_o0_u1 g_o0 g_u1 V_es ne_es_o0 ne_es_u1) hZ (hw _ (List.mem_of_getElem? (i := 75) rfl)) (hw _ (List.mem_of_getElem? (i := 2) rfl)) (by decide) (by decide)) (g := (mkF m 16 #[.val (.ref o0)] [(.int (0 : Int32)), (.ref o0)])) rfl (by rw [hml]; rfl) (Steps.refl _) (a := o0) (by rw [e4]; exact q5) q5' (argsL := [(.int (0 : Int32))]) (rest := []) (lenOf pd_10_0 rfl) rfl (by show 2 * 0 + _ ≤ _; exact Nat.le_of_eq rfl) (hb hby d10_16) (fun _ _ => ⟨rfl, e4, (by decide : 0 + 1 ≤ _), (by decide : 0 + 5 ≤ _)⟩)
  dsimp only [Pt.U, Pt.locs, Pt.cells, Pt.slots] at X5 l5 y5 z5 st5 hQ5
  subst l5 y5 z5
  obtain ⟨rfl, N5q, K5q, G5_0, G5_1, G5_2⟩ := hQ5
  have N5 := Fr.app N0 N5q
  have K6 : Keep h0 T5.heap [u1, o0] := (Keep.refl h0 [u1, o0]).trans K5q (allS (Or.inl (List.mem_of_getElem? (i := 0) rfl)) all0)
  have Z7 : n0 ≤ T5.heap.size := Nat.le_trans Z0 K6.1
  obtain ⟨LS5, X5, N5⟩ : ∃ L, Stand p l e ({ frames := 6, cells := 1, slots := 5, locals := 89 } : Room) s m #[(.ref o0)] below meth c T5 L 1 5 ∧ Fr n0 L := ⟨_, X5, N5⟩
  obtain ⟨T8, h8, X8, e8, W8, st8⟩ := putFN X5 hx hZ hown (hw _ (List.mem_of_getElem? (i := 41) rfl)) Via.refl rfl (F_inProgress_o0.keep K5q (ninS ne_o0_u1 nin0)) (E_o0.keep K5q) (Or.inl (hw _ (List.mem_of_getElem? (i := 42) rfl))) (hw _ (List.mem_of_getElem? (i := 1) rfl)) (ty := .boolean) (v' := (.int (0 : Int32))) (by decide) rfl (fits_nar_bool (0 : Int32)) (g := (mkF m 21 #[.val (.ref o0)] [(.int (0 : Int32)), (.ref o0)])) rfl rfl (hb hby d10_21)
  have Fw8 := (F_inProgress_o0.keep K5q (ninS ne_o0_u1 nin0)).same W8
  have K9 : Keep h0 h8 [u1, o0] := K6.wr W8 (Or.inl (List.mem_of_getElem? (i := 1) rfl))
  have Z10 : n0 ≤ h8.size := Nat.le_trans Z0 K9.1
  have N8 := Fr.snoc X8 N5 g_o0
  obtain ⟨LS8, X8, N8⟩ : ∃ L, Stand p l e ({ frames := 6, cells := 1, slots := 5, locals := 89 } : Room) s m #[(.ref o0)] below meth c T8 L 1 5 ∧ Fr n0 L := ⟨_, X8, N8⟩
  obtain ⟨fs, hr, hrun, hended, hW, hsame⟩ := X8.leave (v := none) (fun _ => rfl)
  have c11 := ((F_undo_o0.keep K5q (ninS ne_o0_u1 nin0)).other W8 (Or.inr (slot_ne (Or.inr (hw _ (List.mem_of_getElem? (i := 34) rfl))) (Or.inl (hw _ (List.mem_of_getElem? (i := 42) rfl))) (by decide) (t := (.object "java/util/List")) (t' := .boolean) (by decide) (by decide))))
  have c12 := ((F_installing_o0.keep K5q (ninS ne_o0_u1 nin0)).other W8 (Or.inr (slot_ne (Or.inl (hw _ (List.mem_of_getElem? (i := 44) rfl))) (Or.inl (hw _ (List.mem_of_getElem? (i := 42) rfl))) (by decide) (t := .boolean) (t' := .boolean) (by decide) (by decide))))
  have c13 := ((F_inProgressFrom_o0.keep K5q (ninS ne_o0_u1 nin0)).other W8 (Or.inr (slot_ne (Or.inl (hw _ (List.mem_of_getElem? (i := 66) rfl))) (Or.inl (hw _ (List.mem_of_getElem? (i := 42) rfl))) (by decide) (t := .int) (t' := .boolean) (by decide) (by decide))))
  refine ⟨_, _, pre2 _ ?_, hrun, hended, _, _, rfl, ?_, ⟨_, rfl⟩, hW, hsame.mono (by decide) (by decide)⟩
  · show Steps p.tables e below (T1.setTop (mkF m 4 #[.val (.ref o0)] [(.int ip)])) _
    refine XS.ifYes X1.here hx rfl (pc0 := 4) (pc' := 11) rfl (hb hby d10_4) rfl ((if0 _ _).trans (feq hd4_3).2) (by decide) (by decide) ?_
    show Steps p.tables e below (T1.setTop (mkF m 11 #[.val (.ref o0)] [])) _
    refine XS.aloadN X1.here hx rfl (hb hby d10_11) rfl rfl ?_
    show Steps p.tables e below (T1.setTop (mkF m 12 #[.val (.ref o0)] [(.ref o0)])) _
    refine XS.aloadN X1.here hx rfl (hb hby d10_12) rfl rfl ?_
    show Steps p.tables e below (T1.setTop (mkF m 13 #[.val (.ref o0)] [(.ref o0), (.ref o0)])) _
    refine st4 _ ?_
    show Steps p.tables e below (T4.setTop (mkF m 16 #[.val (.ref o0)] [(.int (0 : Int32)), (.ref o0)])) _
    refine st5.trans ?_
    show Steps p.tables e below (T5.setTop (mkF m 19 #[.val (.ref o0)] [])) _
    refine XS.aloadN X5.here hx rfl (hb hby d10_19) rfl rfl ?_
    show Steps p.tables e below (T5.setTop (mkF m 20 #[.val (.ref o0)] [(.ref o0)])) _
    refine XS.iconst X5.here hx rfl (hb hby d10_20) ?_
    show Steps p.tables e below (T5.setTop (mkF m 21 #[.val (.ref o0)] [(.int (0 : Int32)), (.ref o0)])) _
    refine st8 _ ?_
    show Steps p.tables e below (T8.setTop (mkF m 24 #[.val (.ref o0)] [])) _
    exact X8.returnOut hx Bd.returns (hb hby d10_24) hr
  · show Q10 Z o0 u1 ip ins mc es h0 n0 _ T8.heap _
    rw [e8]
    exact ⟨rfl, N8, K9, (G5_0.other W8 (Or.inl (Ne.symm ne_o0_u1))), (G5_1.other W8 (Or.inl (Ne.symm ne_o0_u1))), (G5_2.other W8 (Or.inl (Ne.symm ne_o0_u1))), Fw8, c11, c12, c13⟩
theorem d25_0 : decode prog_5_method_3_code 0 = .ok (.aload_n 0, 1) := by decide +kernel
theorem d25_1 : decode prog_5_method_3_code 1 = .ok (.getfield 16, 3) := by decide +kernel
theorem d25_4 : decode prog_5_method_3_code 4 = .ok (.ifCond .ne 7, 3) := by decide +kernel
theorem d25_11 : decode prog_5_method_3_code 11 = .ok (.aload_n 0, 1) := by decide +kernel
theorem d25_12 : decode prog_5_method_3_code 12 = .ok (.getfield 36, 3) := by decide +kernel
theorem d25_15 : decode prog_5_method_3_code 15 = .ok (.ifCond .ne 12, 3) := by decide +kernel
theorem d25_18 : decode prog_5_method_3_code 18 = .ok (.aload_n 0, 1) := by decide +kernel
theorem d25_19 : decode prog_5_method_3_code 19 = .ok (.getfield 10, 3) := by decide +kernel
theorem d25_22 : decode prog_5_method_3_code 22 = .ok (.invokeinterface 39 1, 5) := by decide +kernel
theorem d25_27 : decode prog_5_method_3_code 27 = .ok (.aload_n 0, 1) := by decide +kernel
theorem d25_28 : decode prog_5_method_3_code 28 = .ok (.iconst 0, 1) := by decide +kernel
theorem d25_29 : decode prog_5_method_3_code 29 = .ok (.putfield 16, 3) := by decide +kernel
theorem d25_32 : decode prog_5_method_3_code 32 = .ok (.return_, 1) := by decide +kernel
theorem pn_25 : plainName "com/example/cardhost/cardhost/Transactions" = true := by first | (simp [plainName, overriddenIn]; done) | decide +kernel
theorem pd_25_0 : parseMethodDescriptor "()V" = some ⟨[], none⟩ := by decide +kernel
theorem ef_25 (m : MethodId) (x0 : Addr) : entryFrame m #[(.ref x0)] 1 = mkF m 0 #[.val (.ref x0)] [] := by first | (simp [entryFrame, mkF, argsToLocals, Value.category]; done) | rfl
def f25_h_modCount (ins : Int32) (mc : Int32) : Int32 :=
  if ins = (0 : Int32) then ((mc + (1 : Int32))) else
  (mc)
def Q25 (Z : State) (o0 : Addr) (u1 : Addr) (ip : Int32) (ins : Int32) (mc : Int32) (es : Addr) (h0 : Heap) (n0 : Nat) (v : Option Value) (h : Heap) (L : List Loc) : Prop := v = none ∧ Fr n0 L ∧ Keep h0 h [u1, o0] ∧ Fld Z h u1 "java/util/AbstractList" "modCount" "I" (.int (f25_h_modCount ins mc)) ∧ Fld Z h u1 "java/util/ArrayList" "size" "I" (.int (0 : Int32)) ∧ Fld Z h u1 "java/util/ArrayList" "elementData" "[Ljava/lang/Object;" (.ref es) ∧ Fld Z h o0 "com/example/cardhost/cardhost/Transactions" "inProgress" "Z" (.int (0 : Int32)) ∧ Fld Z h o0 "com/example/cardhost/cardhost/Transactions" "undo" "Ljava/util/List;" (.ref u1) ∧ Fld Z h o0 "com/example/cardhost/cardhost/Transactions" "installing" "Z" (.int ins) ∧ Fld Z h o0 "com/example/cardhost/cardhost/Transactions" "inProgressFrom" "I" (.int (0 : Int32))
set_option maxRecDepth 65536 in
set_option maxHeartbeats 40000000 in
theorem rm25 (l : Launch) (Z : State) (a0 : Array Value) (hw : ∀ d ∈ tables_1, d.before a0 Z = true) (ws : List Jvm.Cond) (o0 : Addr) (u1 : Addr) (ip : Int32) (ins : Int32) (mc : Int32) (es : Addr) (h0 : Heap) (n0 : Nat) (Z0 : n0 ≤ h0.size) (E_o0 : Exa Z h0 o0 "com/example/cardhost/cardhost/Transactions") (F_undo_o0 : Fld Z h0 o0 "com/example/cardhost/cardhost/Transactions" "undo" "Ljava/util/List;" (.ref u1)) (F_inProgress_o0 : Fld Z h0 o0 "com/example/cardhost/cardhost/Transactions" "inProgress" "Z" (.int ip)) (F_installing_o0 : Fld Z h0 o0 "com/example/cardhost/cardhost/Transactions" "installing" "Z" (.int ins)) (F_inProgressFrom_o0 : Fld Z h0 o0 "com/example/cardhost/cardhost/Transactions" "inProgressFrom" "I" (.int (0 : Int32))) (E_u1 : Exa Z h0 u1 "java/util/ArrayList") (F_modCount_u1 : Fld Z h0 u1 "java/util/AbstractList" "modCount" "I" (.int mc)) (F_size_u1 : Fld Z h0 u1 "java/util/ArrayList" "size" "I" (.int (0 : Int32))) (F_elementData_u1 : Fld Z h0 u1 "java/util/ArrayList" "elementData" "[Ljava/lang/Object;" (.ref es)) (ne_o0_u1 : o0 ≠ u1) (g_o0 : n0 ≤ o0) (g_u1 : n0 ≤ u1) (h : ¬ ip = (0 : Int32)) :
    MetFree l (⟨"com/example/cardhost/cardhost/Transactions", "commit", "()V"⟩ : MethodName) (head1 (Jvm.Cond.code (⟨"com/example/cardhost/cardhost/Transactions", "commit", "()V"⟩ : MethodName) prog_5_method_3_code 1 none :: ws) ({ frames := 1, cells := 0, slots := 0, locals := 15 } : Room)) (fun a U => a = #[(.ref o0)] ∧ Z.Warmed39 U.vm ∧ U.heap = h0) (fun _ _ _ _ _ => True) (fun _ U o U' => ∃ v L, o = .returned v ∧ Q25 Z o0 u1 ip ins mc es h0 n0 v U'.heap L ∧ FrameEnd U o U' L ({ frames := 1, cells := 0, slots := 0, locals := 15 } : Room).cells ({ frames := 1, cells := 0, slots := 0, locals := 15 } : Room).slots) := by
  refine MetFree.of_bodySF (plainFor_of_name pn_25) hisR ?_
  intro p e s m args below meth c s₁ Bd hml0 hP hK
  obtain ⟨rfl, hZ, hh⟩ := hP
  have hx := Bd.exec
  have hby := Bd.bytes
  have hml : c.maxLocals = 1 := hml0
  have hown : s.vm.findClass "com/example/cardhost/cardhost/Transactions" = some m.cls := findClass_of_methodNamed Bd.named
  have hnm := (name_of_methodNamed Bd.named Bd.method).1
  have X0 : Stand p l e ({ frames := 1, cells := 0, slots := 0, locals := 15 } : Room) s m #[(.ref o0)] below meth c s₁ [] 0 0 := Stand.of_body Bd
  have e0 : s₁.heap = h0 := by rw [← hh, Bd.state]; rfl
  have N0 := Fr.nil n0
  have pre0 : ∀ t, Steps p.tables e below (s₁.setTop (mkF m 0 #[.val (.ref o0)] [])) t → Steps p.tables e below (s₁.setTop (entryFrame m #[(.ref o0)] 1)) t := fun t k => castTop (ef_25 m o0) k
  obtain ⟨T1, X1, e1, st1⟩ := getF X0 hx hZ hown (host := "") (Or.inl (hw _ (List.mem_of_getElem? (i := 41) rfl))) Via.refl e0 F_inProgress_o0 (g := (mkF m 1 #[.val (.ref o0)] [(.ref o0)])) rfl rfl (hb hby d25_1)
  have pre2 : ∀ t, Steps p.tables e below (T1.setTop (mkF m 4 #[.val (.ref o0)] [(.int ip)])) t → Steps p.tables e below (s₁.setTop (entryFrame m #[(.ref o0)] 1)) t := fun t kt => pre0 t (by
      show Steps p.tables e below (s₁.setTop (mkF m 0 #[.val (.ref o0)] [])) _
      refine XS.aloadN X0.here hx rfl (hb hby d25_0) rfl rfl ?_
      show Steps p.tables e below (s₁.setTop (mkF m 1 #[.val (.ref o0)] [(.ref o0)])) _
      refine st1 _ ?_
      exact kt)
  have hd4_3 : ¬ (ip = (0 : Int32)) := h
  obtain ⟨T4, X4, e4, st4⟩ := getF X1 hx hZ hown (host := "") (Or.inl (hw _ (List.mem_of_getElem? (i := 43) rfl))) Via.refl e1 F_installing_o0 (g := (mkF m 12 #[.val (.ref o0)] [(.ref o0)])) rfl rfl (hb hby d25_12)
  have pre5 : ∀ t, Steps p.tables e below (T4.setTop (mkF m 15 #[.val (.ref o0)] [(.int ins)])) t → Steps p.tables e below (s₁.setTop (entryFrame m #[(.ref o0)] 1)) t := fun t kt => pre2 t (by
      show Steps p.tables e below (T1.setTop (mkF m 4 #[.val (.ref o0)] [(.int ip)])) _
      refine XS.ifYes X1.here hx rfl (pc0 := 4) (pc' := 11) rfl (hb hby d25_4) rfl ((if0 _ _).trans (feq hd4_3).2) (by decide) (by decide) ?_
      show Steps p.tables e below (T1.setTop (mkF m 11 #[.val (.ref o0)] [])) _
      refine XS.aloadN X1.here hx rfl (hb hby d25_11) rfl rfl ?_
      show Steps p.tables e below (T1.setTop (mkF m 12 #[.val (.ref o0)] [(.ref o0)])) _
      refine st4 _ ?_
      exact kt)
  by_cases hc15_6 : ins = (0 : Int32)
  · obtain ⟨T7, X7, e7, st7⟩ := getF X4 hx hZ hown (host := "") (Or.inl (hw _ (List.mem_of_getElem? (i := 33) rfl))) Via.refl e4 F_undo_o0 (g := (mkF m 19 #[.val (.ref o0)] [(.ref o0)])) rfl rfl (hb hby d25_19)
    obtain ⟨cq8, kq8, q8a, q8b, q8c⟩ := isOf hZ e7 E_u1
    obtain ⟨_, _, ⟨T8, L8, k8, n8⟩, -, X8, ⟨Lc8, hQ8, l8, y8, z8⟩, st8⟩ := X7.interfaceBack hx (xi := (⟨"java/util/List", "clear", "()V"⟩ : MethodName)) (y := (⟨"java/util/ArrayList", "clear", "()V"⟩ : MethodName)) hown (mvT hZ (hw _ (List.mem_of_getElem? (i := 111) rfl))) (mvT hZ (hw _ (List.mem_of_getElem? (i := 112) rfl))) (mvT hZ (hw _ (List.mem_of_getElem? (i := 113) rfl))) (mvT hZ (hw _ (List.mem_of_getElem? (i := 162) rfl))) (mvT hZ (hw _ (List.mem_of_getElem? (i := 163) rfl))) (mvT hZ (hw _ (List.mem_of_getElem? (i := 164) rfl))) (mvT hZ (hw _ (List.mem_of_getElem? (i := 165) rfl))) (mvT hZ (hw _ (List.mem_of_getElem? (i := 61) rfl))) (by decide) (backOf (W := 0) (rm23 l Z a0 hw [] u1 mc es h0 n0 Z0 E_u1 F_modCount_u1 F_size_u1 F_elementData_u1 g_u1) hZ (hw _ (List.mem_of_getElem? (i := 166) rfl)) (hw _ (List.mem_of_getElem? (i := 11) rfl)) (by decide) (by decide)) q8a q8b q8c (g := (mkF m 22 #[.val (.ref o0)] [(.ref u1)])) rfl (by rw [hml]; rfl) (Steps.refl _) (argsL := []) (rest := []) (lenOf pd_25_0 rfl) rfl (by show 2 * 0 + _ ≤ _; exact Nat.le_of_eq rfl) (hb hby d25_22) (fun _ _ => ⟨rfl, e7, (by decide : 0 + 0 ≤ _), (by decide : 0 + 0 ≤ _)⟩)
    dsimp only [Pt.U, Pt.locs, Pt.cells, Pt.slots] at X8 l8 y8 z8 st8 hQ8
    subst l8 y8 z8
    obtain ⟨rfl, N8q, K8q, G8_0, G8_1, G8_2⟩ := hQ8
    have N8 := Fr.app N0 N8q
    have K9 : Keep h0 T8.heap [u1, o0] := (Keep.refl h0 [u1, o0]).trans K8q (allS (Or.inl (List.mem_of_getElem? (i := 0) rfl)) all0)
    have Z10 : n0 ≤ T8.heap.size := Nat.le_trans Z0 K9.1
    obtain ⟨LS8, X8, N8⟩ : ∃ L, Stand p l e ({ frames := 1, cells := 0, slots := 0, locals := 15 } : Room) s m #[(.ref o0)] below meth c T8 L 0 0 ∧ Fr n0 L := ⟨_, X8, N8⟩
    obtain ⟨T11, h11, X11, e11, W11, st11⟩ := putFN X8 hx hZ hown (hw _ (List.mem_of_getElem? (i := 41) rfl)) Via.refl rfl (F_inProgress_o0.keep K8q (ninS ne_o0_u1 nin0)) (E_o0.keep K8q) (Or.inl (hw _ (List.mem_of_getElem? (i := 42) rfl))) (hw _ (List.mem_of_getElem? (i := 1) rfl)) (ty := .boolean) (v' := (.int (0 : Int32))) (by decide) rfl (fits_nar_bool (0 : Int32)) (g := (mkF m 29 #[.val (.ref o0)] [(.int (0 : Int32)), (.ref o0)])) rfl rfl (hb hby d25_29)
    have Fw11 := (F_inProgress_o0.keep K8q (ninS ne_o0_u1 nin0)).same W11
    have K12 : Keep h0 h11 [u1, o0] := K9.wr W11 (Or.inl (List.mem_of_getElem? (i := 1) rfl))
    have Z13 : n0 ≤ h11.size := Nat.le_trans Z0 K12.1
    have N11 := Fr.snoc X11 N8 g_o0
    obtain ⟨LS11, X11, N11⟩ : ∃ L, Stand p l e ({ frames := 1, cells := 0, slots := 0, locals := 15 } : Room) s m #[(.ref o0)] below meth c T11 L 0 0 ∧ Fr n0 L := ⟨_, X11, N11⟩
    obtain ⟨fs, hr, hrun, hended, hW, hsame⟩ := X11.leave (v := none) (fun _ => rfl)
    have c17 := ((F_undo_o0.keep K8q (ninS ne_o0_u1 nin0)).other W11 (Or.inr (slot_ne (Or.inr (hw _ (List.mem_of_getElem? (i := 34) rfl))) (Or.inl (hw _ (List.mem_of_getElem? (i := 42) rfl))) (by decide) (t := (.object "java/util/List")) (t' := .boolean) (by decide) (by decide))))
    have c18 := ((F_installing_o0.keep K8q (ninS ne_o0_u1 nin0)).other W11 (Or.inr (slot_ne (Or.inl (hw _ (List.mem_of_getElem? (i := 44) rfl))) (Or.inl (hw _ (List.mem_of_getElem? (i := 42) rfl))) (by decide) (t := .boolean) (t' := .boolean) (by decide) (by decide))))
    have c19 := ((F_inProgressFrom_o0.keep K8q (ninS ne_o0_u1 nin0)).other W11 (Or.inr (slot_ne (Or.inl (hw _ (List.mem_of_getElem? (i := 66) rfl))) (Or.inl (hw _ (List.mem_of_getElem? (i := 42) rfl))) (by decide) (t := .int) (t' := .boolean) (by decide) (by decide))))
    refine ⟨_, _, pre5 _ ?_, hrun, hended, _, _, rfl, ?_, ⟨_, rfl⟩, hW, hsame.mono (by decide) (by decide)⟩
    · show Steps p.tables e below (T4.setTop (mkF m 15 #[.val (.ref o0)] [(.int ins)])) _
      refine XS.ifNo X4.here hx rfl (hb hby d25_15) rfl ((if0 _ _).trans (teq hc15_6).2) ?_
      show Steps p.tables e below (T4.setTop (mkF m 18 #[.val (.ref o0)] [])) _
      refine XS.aloadN X4.here hx rfl (hb hby d25_18) rfl rfl ?_
      show Steps p.tables e below (T4.setTop (mkF m 19 #[.val (.ref o0)] [(.ref o0)])) _
      refine st7 _ ?_
      show Steps p.tables e below (T7.setTop (mkF m 22 #[.val (.ref o0)] [(.ref u1)])) _
      refine st8.trans ?_
      show Steps p.tables e below (T8.setTop (mkF m 27 #[.val (.ref o0)] [])) _
      refine XS.aloadN X8.here hx rfl (hb hby d25_27) rfl rfl ?_
      show Steps p.tables e below (T8.setTop (mkF m 28 #[.val (.ref o0)] [(.ref o0)])) _
      refine XS.iconst X8.here hx rfl (hb hby d25_28) ?_
      show Steps p.tables e below (T8.setTop (mkF m 29 #[.val (.ref o0)] [(.int (0 : Int32)), (.ref o0)])) _
      refine st11 _ ?_
      show Steps p.tables e below (T11.setTop (mkF m 32 #[.val (.ref o0)] [])) _
      exact X11.returnOut hx Bd.returns (hb hby d25_32) hr
    · show Q25 Z o0 u1 ip ins mc es h0 n0 _ T11.heap _
      rw [e11]
      exact ⟨rfl, N11, K12, (by rw [f25_h_modCount, if_pos hc15_6]; exact (G8_0.other W11 (Or.inl (Ne.symm ne_o0_u1)))), (G8_1.other W11 (Or.inl (Ne.symm ne_o0_u1))), (G8_2.other W11 (Or.inl (Ne.symm ne_o0_u1))), Fw11, c17, c18, c19⟩
  · obtain ⟨T14, h14, X14, e14, W14, st14⟩ := putFN X4 hx hZ hown (hw _ (List.mem_of_getElem? (i := 41) rfl)) Via.refl e4 F_inProgress_o0 E_o0 (Or.inl (hw _ (List.mem_of_getElem? (i := 42) rfl))) (hw _ (List.mem_of_getElem? (i := 1) rfl)) (ty := .boolean) (v' := (.int (0 : Int32))) (by decide) rfl (fits_nar_bool (0 : Int32)) (g := (mkF m 29 #[.val (.ref o0)] [(.int (0 : Int32)), (.ref o0)])) rfl rfl (hb hby d25_29)
    have Fw14 := F_inProgress_o0.same W14
    have K15 : Keep h0 h14 [u1, o0] := (Keep.refl h0 [u1, o0]).wr W14 (Or.inl (List.mem_of_getElem? (i := 1) rfl))
    have Z16 : n0 ≤ h14.size := Nat.le_trans Z0 K15.1
    have N14 := Fr.snoc X14 N0 g_o0
    obtain ⟨LS14, X14, N14⟩ : ∃ L, Stand p l e ({ frames := 1, cells := 0, slots := 0, locals := 15 } : Room) s m #[(.ref o0)] below meth c T14 L 0 0 ∧ Fr n0 L := ⟨_, X14, N14⟩
    obtain ⟨fs, hr, hrun, hended, hW, hsame⟩ := X14.leave (v := none) (fun _ => rfl)
    have c20 := (F_undo_o0.other W14 (Or.inr (slot_ne (Or.inr (hw _ (List.mem_of_getElem? (i := 34) rfl))) (Or.inl (hw _ (List.mem_of_getElem? (i := 42) rfl))) (by decide) (t := (.object "java/util/List")) (t' := .boolean) (by decide) (by decide))))
    have c21 := (F_installing_o0.other W14 (Or.inr (slot_ne (Or.inl (hw _ (List.mem_of_getElem? (i := 44) rfl))) (Or.inl (hw _ (List.mem_of_getElem? (i := 42) rfl))) (by decide) (t := .boolean) (t' := .boolean) (by decide) (by decide))))
    have c22 := (F_inProgressFrom_o0.other W14 (Or.inr (slot_ne (Or.inl (hw _ (List.mem_of_getElem? (i := 66) rfl))) (Or.inl (hw _ (List.mem_of_getElem? (i := 42) rfl))) (by decide) (t := .int) (t' := .boolean) (by decide) (by decide))))
    refine ⟨_, _, pre5 _ ?_, hrun, hended, _, _, rfl, ?_, ⟨_, rfl⟩, hW, hsame.mono (by decide) (by decide)⟩
    · show Steps p.tables e below (T4.setTop (mkF m 15 #[.val (.ref o0)] [(.int ins)])) _
      refine XS.ifYes X4.here hx rfl (pc0 := 15) (pc' := 27) rfl (hb hby d25_15) rfl ((if0 _ _).trans (feq hc15_6).2) (by decide) (by decide) ?_
      show Steps p.tables e below (T4.setTop (mkF m 27 #[.val (.ref o0)] [])) _
      refine XS.aloadN X4.here hx rfl (hb hby d25_27) rfl rfl ?_
      show Steps p.tables e below (T4.setTop (mkF m 28 #[.val (.ref o0)] [(.ref o0)])) _
      refine XS.iconst X4.here hx rfl (hb hby d25_28) ?_
      show Steps p.tables e below (T4.setTop (mkF m 29 #[.val (.ref o0)] [(.int (0 : Int32)), (.ref o0)])) _
      refine st14 _ ?_
      show Steps p.tables e below (T14.setTop (mkF m 32 #[.val (.ref o0)] [])) _
      exact X14.returnOut hx Bd.returns (hb hby d25_32) hr
    · show Q25 Z o0 u1 ip ins mc es h0 n0 _ T14.heap _
      rw [e14]
      exact ⟨rfl, N14, K15, (by rw [f25_h_modCount, if_neg hc15_6]; exact (F_modCount_u1.other W14 (Or.inl (Ne.symm ne_o0_u1)))), (F_size_u1.other W14 (Or.inl (Ne.symm ne_o0_u1))), (F_elementData_u1.other W14 (Or.inl (Ne.symm ne_o0_u1))), Fw14, c20, c21, c22⟩
theorem d22_0 : decode prog_5_method_6_code 0 = .ok (.iload_n 1, 1) := by decide +kernel
theorem d22_1 : decode prog_5_method_6_code 1 = .ok (.ifCond .ne 8, 3) := by decide +kernel
theorem d22_4 : decode prog_5_method_6_code 4 = .ok (.aload_n 0, 1) := by decide +kernel
theorem d22_5 : decode prog_5_method_6_code 5 = .ok (.iconst 0, 1) := by decide +kernel
theorem d22_6 : decode prog_5_method_6_code 6 = .ok (.invokevirtual 42, 3) := by decide +kernel
theorem d22_9 : decode prog_5_method_6_code 9 = .ok (.aload_n 0, 1) := by decide +kernel
theorem d22_10 : decode prog_5_method_6_code 10 = .ok (.getfield 10, 3) := by decide +kernel
theorem d22_13 : decode prog_5_method_6_code 13 = .ok (.invokeinterface 39 1, 5) := by decide +kernel
theorem d22_18 : decode prog_5_method_6_code 18 = .ok (.aload_n 0, 1) := by decide +kernel
theorem d22_19 : decode prog_5_method_6_code 19 = .ok (.iconst 0, 1) := by decide +kernel
theorem d22_20 : decode prog_5_method_6_code 20 = .ok (.putfield 36, 3) := by decide +kernel
theorem d22_23 : decode prog_5_method_6_code 23 = .ok (.return_, 1) := by decide +kernel
theorem pn_22 : plainName "com/example/cardhost/cardhost/Transactions" = true := by first | (simp [plainName, overriddenIn]; done) | decide +kernel
theorem pd_22_0 : parseMethodDescriptor "(I)V" = some ⟨[.int], none⟩ := by decide +kernel
theorem pd_22_1 : parseMethodDescriptor "()V" = some ⟨[], none⟩ := by decide +kernel
theorem ef_22 (m : MethodId) (x0 : Addr) (x1 : Int32) : entryFrame m #[(.ref x0), (.int x1)] 2 = mkF m 0 #[.val (.ref x0), .val (.int x1)] [] := by first | (simp [entryFrame, mkF, argsToLocals, Value.category]; done) | rfl
def f22_h_modCount (p1 : Int32) (mc : Int32) : Int32 :=
  if p1 = (0 : Int32) then (((mc + (1 : Int32)) + (1 : Int32))) else
  ((mc + (1 : Int32)))
def Q22 (Z : State) (o0 : Addr) (p1 : Int32) (u1 : Addr) (ip : Int32) (ins : Int32) (mc : Int32) (es : Addr) (h0 : Heap) (n0 : Nat) (v : Option Value) (h : Heap) (L : List Loc) : Prop := v = none ∧ Fr n0 L ∧ Keep h0 h [u1, o0] ∧ Fld Z h u1 "java/util/AbstractList" "modCount" "I" (.int (f22_h_modCount p1 mc)) ∧ Fld Z h u1 "java/util/ArrayList" "size" "I" (.int (0 : Int32)) ∧ Fld Z h u1 "java/util/ArrayList" "elementData" "[Ljava/lang/Object;" (.ref es) ∧ Fld Z h o0 "com/example/cardhost/cardhost/Transactions" "installing" "Z" (.int (0 : Int32)) ∧ Fld Z h o0 "com/example/cardhost/cardhost/Transactions" "undo" "Ljava/util/List;" (.ref u1) ∧ Fld Z h o0 "com/example/cardhost/cardhost/Transactions" "inProgress" "Z" (.int ip) ∧ Fld Z h o0 "com/example/cardhost/cardhost/Transactions" "inProgressFrom" "I" (.int (0 : Int32))
set_option maxRecDepth 65536 in
set_option maxHeartbeats 40000000 in
theorem rm22 (l : Launch) (Z : State) (a0 : Array Value) (hw : ∀ d ∈ tables_1, d.before a0 Z = true) (ws : List Jvm.Cond) (o0 : Addr) (p1 : Int32) (u1 : Addr) (ip : Int32) (ins : Int32) (mc : Int32) (es : Addr) (h0 : Heap) (n0 : Nat) (Z0 : n0 ≤ h0.size) (E_o0 : Exa Z h0 o0 "com/example/cardhost/cardhost/Transactions") (F_undo_o0 : Fld Z h0 o0 "com/example/cardhost/cardhost/Transactions" "undo" "Ljava/util/List;" (.ref u1)) (F_inProgress_o0 : Fld Z h0 o0 "com/example/cardhost/cardhost/Transactions" "inProgress" "Z" (.int ip)) (F_installing_o0 : Fld Z h0 o0 "com/example/cardhost/cardhost/Transactions" "installing" "Z" (.int ins)) (F_inProgressFrom_o0 : Fld Z h0 o0 "com/example/cardhost/cardhost/Transactions" "inProgressFrom" "I" (.int (0 : Int32))) (E_u1 : Exa Z h0 u1 "java/util/ArrayList") (F_modCount_u1 : Fld Z h0 u1 "java/util/AbstractList" "modCount" "I" (.int mc)) (F_size_u1 : Fld Z h0 u1 "java/util/ArrayList" "size" "I" (.int (0 : Int32))) (F_elementData_u1 : Fld Z h0 u1 "java/util/ArrayList" "elementData" "[Ljava/lang/Object;" (.ref es)) (ne_o0_u1 : o0 ≠ u1) (g_o0 : n0 ≤ o0) (g_u1 : n0 ≤ u1) (V_es : own_AL Z h0 es (.object "java/lang/Object") (0 : Int32)) (ne_es_o0 : es ≠ o0) (ne_es_u1 : es ≠ u1) :
    MetFree l (⟨"com/example/cardhost/cardhost/Transactions", "endInstallation", "(Z)V"⟩ : MethodName) (head1 (Jvm.Cond.code (⟨"com/example/cardhost/cardhost/Transactions", "endInstallation", "(Z)V"⟩ : MethodName) prog_5_method_6_code 2 none :: ws) ({ frames := 6, cells := 1, slots := 5, locals := 89 } : Room)) (fun a U => a = #[(.ref o0), (.int p1)] ∧ Z.Warmed39 U.vm ∧ U.heap = h0) (fun _ _ _ _ _ => True) (fun _ U o U' => ∃ v L, o = .returned v ∧ Q22 Z o0 p1 u1 ip ins mc es h0 n0 v U'.heap L ∧ FrameEnd U o U' L ({ frames := 6, cells := 1, slots := 5, locals := 89 } : Room).cells ({ frames := 6, cells := 1, slots := 5, locals := 89 } : Room).slots) := by
  refine MetFree.of_bodySF (plainFor_of_name pn_22) hisR ?_
  intro p e s m args below meth c s₁ Bd hml0 hP hK
  obtain ⟨rfl, hZ, hh⟩ := hP
  have hx := Bd.exec
  have hby := Bd.bytes
  have hml : c.maxLocals = 2 := hml0
  have hown : s.vm.findClass "com/example/cardhost/cardhost/Transactions" = some m.cls := findClass_of_methodNamed Bd.named
  have hnm := (name_of_methodNamed Bd.named Bd.method).1
  have X0 : Stand p l e ({ frames := 6, cells := 1, slots := 5, locals := 89 } : Room) s m #[(.ref o0), (.int p1)] below meth c s₁ [] 0 0 := Stand.of_body Bd
  have e0 : s₁.heap = h0 := by rw [← hh, Bd.state]; rfl
  have N0 := Fr.nil n0
  have pre0 : ∀ t, Steps p.tables e below (s₁.setTop (mkF m 0 #[.val (.ref o0), .val (.int p1)] [])) t → Steps p.tables e below (s₁.setTop (entryFrame m #[(.ref o0), (.int p1)] 2)) t := fun t k => castTop (ef_22 m o0 p1) k
  have pre1 : ∀ t, Steps p.tables e below (s₁.setTop (mkF m 1 #[.val (.ref o0), .val (.int p1)] [(.int p1)])) t → Steps p.tables e below (s₁.setTop (entryFrame m #[(.ref o0), (.int p1)] 2)) t := fun t kt => pre0 t (by
      show Steps p.tables e below (s₁.setTop (mkF m 0 #[.val (.ref o0), .val (.int p1)] [])) _
      refine XS.iloadN X0.here hx rfl (hb hby d22_0) rfl ?_
      exact kt)
  by_cases hc1_2 : p1 = (0 : Int32)
  · obtain ⟨cq3, q3, q3'⟩ := E_o0.cell
    obtain ⟨_, _, ⟨T3, L3, k3, n3⟩, -, X3, ⟨Lc3, hQ3, l3, y3, z3⟩, st3⟩ := X0.privateBack hx (y := (⟨"com/example/cardhost/cardhost/Transactions", "putBack", "(I)V"⟩ : MethodName)) hown (mvT hZ (hw _ (List.mem_of_getElem? (i := 72) rfl))) (mvT hZ (hw _ (List.mem_of_getElem? (i := 73) rfl))) (own_selp (z := (⟨"com/example/cardhost/cardhost/Transactions", "recording", "()Z"⟩ : MethodName)) rfl (mvT hZ (hw _ (List.mem_of_getElem? (i := 39) rfl))) (Cond.privateMethod_at (mvP hZ (hw _ (List.mem_of_getElem? (i := 74) rfl)) (args := #[]))) (mvT hZ (hw _ (List.mem_of_getElem? (i := 73) rfl))) (by decide)) (Cond.privateMethod_at (mvP hZ (hw _ (List.mem_of_getElem? (i := 74) rfl)) (args := #[]))) (mvT hZ (hw _ (List.mem_of_getElem? (i := 75) rfl))) (by decide) (backOf (W := 0) (rm11 l Z a0 hw [] o0 u1 ip ins mc es h0 n0 Z0 E_o0 F_undo_o0 F_inProgress_o0 F_installing_o0 F_inProgressFrom_o0 E_u1 F_modCount_u1 F_size_u1 F_elementData_u1 ne_o0_u1 g_o0 g_u1 V_es ne_es_o0 ne_es_u1) hZ (hw _ (List.mem_of_getElem? (i := 75) rfl)) (hw _ (List.mem_of_getElem? (i := 2) rfl)) (by decide) (by decide)) (g := (mkF m 6 #[.val (.ref o0), .val (.int p1)] [(.int (0 : Int32)), (.ref o0)])) rfl (by rw [hml]; rfl) (Steps.refl _) (a := o0) (by rw [e0]; exact q3) q3' (argsL := [(.int (0 : Int32))]) (rest := []) (lenOf pd_22_0 rfl) rfl (by show 2 * 0 + _ ≤ _; exact Nat.le_of_eq rfl) (hb hby d22_6) (fun _ _ => ⟨rfl, e0, (by decide : 0 + 1 ≤ _), (by decide : 0 + 5 ≤ _)⟩)
    dsimp only [Pt.U, Pt.locs, Pt.cells, Pt.slots] at X3 l3 y3 z3 st3 hQ3
    subst l3 y3 z3
    obtain ⟨rfl, N3q, K3q, G3_0, G3_1, G3_2⟩ := hQ3
    have N3 := Fr.app N0 N3q
    have K4 : Keep h0 T3.heap [u1, o0] := (Keep.refl h0 [u1, o0]).trans K3q (allS (Or.inl (List.mem_of_getElem? (i := 0) rfl)) all0)
    have Z5 : n0 ≤ T3.heap.size := Nat.le_trans Z0 K4.1
    obtain ⟨LS3, X3, N3⟩ : ∃ L, Stand p l e ({ frames := 6, cells := 1, slots := 5, locals := 89 } : Room) s m #[(.ref o0), (.int p1)] below meth c T3 L 1 5 ∧ Fr n0 L := ⟨_, X3, N3⟩
    obtain ⟨T6, X6, e6, st6⟩ := getF X3 hx hZ hown (host := "") (Or.inl (hw _ (List.mem_of_getElem? (i := 33) rfl))) Via.refl rfl (F_undo_o0.keep K3q (ninS ne_o0_u1 nin0)) (g := (mkF m 10 #[.val (.ref o0), .val (.int p1)] [(.ref o0)])) rfl rfl (hb hby d22_10)
    obtain ⟨cq7, kq7, q7a, q7b, q7c⟩ := isOf hZ e6 (E_u1.keep K3q)
    obtain ⟨_, _, ⟨T7, L7, k7, n7⟩, -, X7, ⟨Lc7, hQ7, l7, y7, z7⟩, st7⟩ := X6.interfaceBack hx (xi := (⟨"java/util/List", "clear", "()V"⟩ : MethodName)) (y := (⟨"java/util/ArrayList", "clear", "()V"⟩ : MethodName)) hown (mvT hZ (hw _ (List.mem_of_getElem? (i := 111) rfl))) (mvT hZ (hw _ (List.mem_of_getElem? (i := 112) rfl))) (mvT hZ (hw _ (List.mem_of_getElem? (i := 113) rfl))) (mvT hZ (hw _ (List.mem_of_getElem? (i := 162) rfl))) (mvT hZ (hw _ (List.mem_of_getElem? (i := 163) rfl))) (mvT hZ (hw _ (List.mem_of_getElem? (i := 164) rfl))) (mvT hZ (hw _ (List.mem_of_getElem? (i := 165) rfl))) (mvT hZ (hw _ (List.mem_of_getElem? (i := 61) rfl))) (by decide) (backOf (W := 0) (rm23 l Z a0 hw [] u1 (mc + (1 : Int32)) es T3.heap n0 Z5 (E_u1.keep K3q) G3_0 G3_1 G3_2 g_u1) hZ (hw _ (List.mem_of_getElem? (i := 166) rfl)) (hw _ (List.mem_of_getElem? (i := 11) rfl)) (by decide) (by decide)) q7a q7b q7c (g := (mkF m 13 #[.val (.ref o0), .val (.int p1)] [(.ref u1)])) rfl (by rw [hml]; rfl) (Steps.refl _) (argsL := []) (rest := []) (lenOf pd_22_1 rfl) rfl (by show 2 * 0 + _ ≤ _; exact Nat.le_of_eq rfl) (hb hby d22_13) (fun _ _ => ⟨rfl, e6, (by decide : 1 + 0 ≤ _), (by decide : 5 + 0 ≤ _)⟩)
    dsimp only [Pt.U, Pt.locs, Pt.cells, Pt.slots] at X7 l7 y7 z7 st7 hQ7
    subst l7 y7 z7
    obtain ⟨rfl, N7q, K7q, G7_0, G7_1, G7_2⟩ := hQ7
    have N7 := Fr.app N3 N7q
    have K8 : Keep h0 T7.heap [u1, o0] := K4.trans K7q (allS (Or.inl (List.mem_of_getElem? (i := 0) rfl)) all0)
    have Z9 : n0 ≤ T7.heap.size := Nat.le_trans Z0 K8.1
    obtain ⟨LS7, X7, N7⟩ : ∃ L, Stand p l e ({ frames := 6, cells := 1, slots := 5, locals := 89 } : Room) s m #[(.ref o0), (.int p1)] below meth c T7 L 1 5 ∧ Fr n0 L := ⟨_, X7, N7⟩
    have c10 := ((F_installing_o0.keep K3q (ninS ne_o0_u1 nin0)).keep K7q (ninS ne_o0_u1 nin0))
    obtain ⟨T11, h11, X11, e11, W11, st11⟩ := putFN X7 hx hZ hown (hw _ (List.mem_of_getElem? (i := 43) rfl)) Via.refl rfl c10 ((E_o0.keep K3q).keep K7q) (Or.inl (hw _ (List.mem_of_getElem? (i := 44) rfl))) (hw _ (List.mem_of_getElem? (i := 1) rfl)) (ty := .boolean) (v' := (.int (0 : Int32))) (by decide) rfl (fits_nar_bool (0 : Int32)) (g := (mkF m 20 #[.val (.ref o0), .val (.int p1)] [(.int (0 : Int32)), (.ref o0)])) rfl rfl (hb hby d22_20)
    have Fw11 := c10.same W11
    have K12 : Keep h0 h11 [u1, o0] := K8.wr W11 (Or.inl (List.mem_of_getElem? (i := 1) rfl))
    have Z13 : n0 ≤ h11.size := Nat.le_trans Z0 K12.1
    have N11 := Fr.snoc X11 N7 g_o0
    obtain ⟨LS11, X11, N11⟩ : ∃ L, Stand p l e ({ frames := 6, cells := 1, slots := 5, locals := 89 } : Room) s m #[(.ref o0), (.int p1)] below meth c T11 L 1 5 ∧ Fr n0 L := ⟨_, X11, N11⟩
    obtain ⟨fs, hr, hrun, hended, hW, hsame⟩ := X11.leave (v := none) (fun _ => rfl)
    have c21 := (((F_undo_o0.keep K3q (ninS ne_o0_u1 nin0)).keep K7q (ninS ne_o0_u1 nin0)).other W11 (Or.inr (slot_ne (Or.inr (hw _ (List.mem_of_getElem? (i := 34) rfl))) (Or.inl (hw _ (List.mem_of_getElem? (i := 44) rfl))) (by decide) (t := (.object "java/util/List")) (t' := .boolean) (by decide) (by decide))))
    have c22 := (((F_inProgress_o0.keep K3q (ninS ne_o0_u1 nin0)).keep K7q (ninS ne_o0_u1 nin0)).other W11 (Or.inr (slot_ne (Or.inl (hw _ (List.mem_of_getElem? (i := 42) rfl))) (Or.inl (hw _ (List.mem_of_getElem? (i := 44) rfl))) (by decide) (t := .boolean) (t' := .boolean) (by decide) (by decide))))
    have c23 := (((F_inProgressFrom_o0.keep K3q (ninS ne_o0_u1 nin0)).keep K7q (ninS ne_o0_u1 nin0)).other W11 (Or.inr (slot_ne (Or.inl (hw _ (List.mem_of_getElem? (i := 66) rfl))) (Or.inl (hw _ (List.mem_of_getElem? (i := 44) rfl))) (by decide) (t := .int) (t' := .boolean) (by decide) (by decide))))
    refine ⟨_, _, pre1 _ ?_, hrun, hended, _, _, rfl, ?_, ⟨_, rfl⟩, hW, hsame.mono (by decide) (by decide)⟩
    · show Steps p.tables e below (s₁.setTop (mkF m 1 #[.val (.ref o0), .val (.int p1)] [(.int p1)])) _
      refine XS.ifNo X0.here hx rfl (hb hby d22_1) rfl ((if0 _ _).trans (teq hc1_2).2) ?_
      show Steps p.tables e below (s₁.setTop (mkF m 4 #[.val (.ref o0), .val (.int p1)] [])) _
      refine XS.aloadN X0.here hx rfl (hb hby d22_4) rfl rfl ?_
      show Steps p.tables e below (s₁.setTop (mkF m 5 #[.val (.ref o0), .val (.int p1)] [(.ref o0)])) _
      refine XS.iconst X0.here hx rfl (hb hby d22_5) ?_
      show Steps p.tables e below (s₁.setTop (mkF m 6 #[.val (.ref o0), .val (.int p1)] [(.int (0 : Int32)), (.ref o0)])) _
      refine st3.trans ?_
      show Steps p.tables e below (T3.setTop (mkF m 9 #[.val (.ref o0), .val (.int p1)] [])) _
      refine XS.aloadN X3.here hx rfl (hb hby d22_9) rfl rfl ?_
      show Steps p.tables e below (T3.setTop (mkF m 10 #[.val (.ref o0), .val (.int p1)] [(.ref o0)])) _
      refine st6 _ ?_
      show Steps p.tables e below (T6.setTop (mkF m 13 #[.val (.ref o0), .val (.int p1)] [(.ref u1)])) _
      refine st7.trans ?_
      show Steps p.tables e below (T7.setTop (mkF m 18 #[.val (.ref o0), .val (.int p1)] [])) _
      refine XS.aloadN X7.here hx rfl (hb hby d22_18) rfl rfl ?_
      show Steps p.tables e below (T7.setTop (mkF m 19 #[.val (.ref o0), .val (.int p1)] [(.ref o0)])) _
      refine XS.iconst X7.here hx rfl (hb hby d22_19) ?_
      show Steps p.tables e below (T7.setTop (mkF m 20 #[.val (.ref o0), .val (.int p1)] [(.int (0 : Int32)), (.ref o0)])) _
      refine st11 _ ?_
      show Steps p.tables e below (T11.setTop (mkF m 23 #[.val (.ref o0), .val (.int p1)] [])) _
      exact X11.returnOut hx Bd.returns (hb hby d22_23) hr
    · show Q22 Z o0 p1 u1 ip ins mc es h0 n0 _ T11.heap _
      rw [e11]
      exact ⟨rfl, N11, K12, (by rw [f22_h_modCount, if_pos hc1_2]; exact (G7_0.other W11 (Or.inl (Ne.symm ne_o0_u1)))), (G7_1.other W11 (Or.inl (Ne.symm ne_o0_u1))), (G7_2.other W11 (Or.inl (Ne.symm ne_o0_u1))), Fw11, c21, c22, c23⟩
  · obtain ⟨T14, X14, e14, st14⟩ := getF X0 hx hZ hown (host := "") (Or.inl (hw _ (List.mem_of_getElem? (i := 33) rfl))) Via.refl e0 F_undo_o0 (g := (mkF m 10 #[.val (.ref o0), .val (.int p1)] [(.ref o0)])) rfl rfl (hb hby d22_10)
    obtain ⟨cq15, kq15, q15a, q15b, q15c⟩ := isOf hZ e14 E_u1
    obtain ⟨_, _, ⟨T15, L15, k15, n15⟩, -, X15, ⟨Lc15, hQ15, l15, y15, z15⟩, st15⟩ := X14.interfaceBack hx (xi := (⟨"java/util/List", "clear", "()V"⟩ : MethodName)) (y := (⟨"java/util/ArrayList", "clear", "()V"⟩ : MethodName)) hown (mvT hZ (hw _ (List.mem_of_getElem? (i := 111) rfl))) (mvT hZ (hw _ (List.mem_of_getElem? (i := 112) rfl))) (mvT hZ (hw _ (List.mem_of_getElem? (i := 113) rfl))) (mvT hZ (hw _ (List.mem_of_getElem? (i := 162) rfl))) (mvT hZ (hw _ (List.mem_of_getElem? (i := 163) rfl))) (mvT hZ (hw _ (List.mem_of_getElem? (i := 164) rfl))) (mvT hZ (hw _ (List.mem_of_getElem? (i := 165) rfl))) (mvT hZ (hw _ (List.mem_of_getElem? (i := 61) rfl))) (by decide) (backOf (W := 0) (rm23 l Z a0 hw [] u1 mc es h0 n0 Z0 E_u1 F_modCount_u1 F_size_u1 F_elementData_u1 g_u1) hZ (hw _ (List.mem_of_getElem? (i := 166) rfl)) (hw _ (List.mem_of_getElem? (i := 11) rfl)) (by decide) (by decide)) q15a q15b q15c (g := (mkF m 13 #[.val (.ref o0), .val (.int p1)] [(.ref u1)])) rfl (by rw [hml]; rfl) (Steps.refl _) (argsL := []) (rest := []) (lenOf pd_22_1 rfl) rfl (by show 2 * 0 + _ ≤ _; exact Nat.le_of_eq rfl) (hb hby d22_13) (fun _ _ => ⟨rfl, e14, (by decide : 0 + 0 ≤ _), (by decide : 0 + 0 ≤ _)⟩)
    dsimp only [Pt.U, Pt.locs, Pt.cells, Pt.slots] at X15 l15 y15 z15 st15 hQ15
    subst l15 y15 z15
    obtain ⟨rfl, N15q, K15q, G15_0, G15_1, G15_2⟩ := hQ15
    have N15 := Fr.app N0 N15q
    have K16 : Keep h0 T15.heap [u1, o0] := (Keep.refl h0 [u1, o0]).trans K15q (allS (Or.inl (List.mem_of_getElem? (i := 0) rfl)) all0)
    have Z17 : n0 ≤ T15.heap.size := Nat.le_trans Z0 K16.1
    obtain ⟨LS15, X15, N15⟩ : ∃ L, Stand p l e ({ frames := 6, cells := 1, slots := 5, locals := 89 } : Room) s m #[(.ref o0), (.int p1)] below meth c T15 L 0 0 ∧ Fr n0 L := ⟨_, X15, N15⟩
    obtain ⟨T18, h18, X18, e18, W18, st18⟩ := putFN X15 hx hZ hown (hw _ (List.mem_of_getElem? (i := 43) rfl)) Via.refl rfl (F_installing_o0.keep K15q (ninS ne_o0_u1 nin0)) (E_o0.keep K15q) (Or.inl (hw _ (List.mem_of_getElem? (i := 44) rfl))) (hw _ (List.mem_of_getElem? (i := 1) rfl)) (ty := .boolean) (v' := (.int (0 : Int32))) (by decide) rfl (fits_nar_bool (0 : Int32)) (g := (mkF m 20 #[.val (.ref o0), .val (.int p1)] [(.int (0 : Int32)), (.ref o0)])) rfl rfl (hb hby d22_20)
    have Fw18 := (F_installing_o0.keep K15q (ninS ne_o0_u1 nin0)).same W18
    have K19 : Keep h0 h18 [u1, o0] := K16.wr W18 (Or.inl (List.mem_of_getElem? (i := 1) rfl))
    have Z20 : n0 ≤ h18.size := Nat.le_trans Z0 K19.1
    have N18 := Fr.snoc X18 N15 g_o0
    obtain ⟨LS18, X18, N18⟩ : ∃ L, Stand p l e ({ frames := 6, cells := 1, slots := 5, locals := 89 } : Room) s m #[(.ref o0), (.int p1)] below meth c T18 L 0 0 ∧ Fr n0 L := ⟨_, X18, N18⟩
    obtain ⟨fs, hr, hrun, hended, hW, hsame⟩ := X18.leave (v := none) (fun _ => rfl)
    have c24 := ((F_undo_o0.keep K15q (ninS ne_o0_u1 nin0)).other W18 (Or.inr (slot_ne (Or.inr (hw _ (List.mem_of_getElem? (i := 34) rfl))) (Or.inl (hw _ (List.mem_of_getElem? (i := 44) rfl))) (by decide) (t := (.object "java/util/List")) (t' := .boolean) (by decide) (by decide))))
    have c25 := ((F_inProgress_o0.keep K15q (ninS ne_o0_u1 nin0)).other W18 (Or.inr (slot_ne (Or.inl (hw _ (List.mem_of_getElem? (i := 42) rfl))) (Or.inl (hw _ (List.mem_of_getElem? (i := 44) rfl))) (by decide) (t := .boolean) (t' := .boolean) (by decide) (by decide))))
    have c26 := ((F_inProgressFrom_o0.keep K15q (ninS ne_o0_u1 nin0)).other W18 (Or.inr (slot_ne (Or.inl (hw _ (List.mem_of_getElem? (i := 66) rfl))) (Or.inl (hw _ (List.mem_of_getElem? (i := 44) rfl))) (by decide) (t := .int) (t' := .boolean) (by decide) (by decide))))
    refine ⟨_, _, pre1 _ ?_, hrun, hended, _, _, rfl, ?_, ⟨_, rfl⟩, hW, hsame.mono (by decide) (by decide)⟩
    · show Steps p.tables e below (s₁.setTop (mkF m 1 #[.val (.ref o0), .val (.int p1)] [(.int p1)])) _
      refine XS.ifYes X0.here hx rfl (pc0 := 1) (pc' := 9) rfl (hb hby d22_1) rfl ((if0 _ _).trans (feq hc1_2).2) (by decide) (by decide) ?_
      show Steps p.tables e below (s₁.setTop (mkF m 9 #[.val (.ref o0), .val (.int p1)] [])) _
      refine XS.aloadN X0.here hx rfl (hb hby d22_9) rfl rfl ?_
      show Steps p.tables e below (s₁.setTop (mkF m 10 #[.val (.ref o0), .val (.int p1)] [(.ref o0)])) _
      refine st14 _ ?_
      show Steps p.tables e below (T14.setTop (mkF m 13 #[.val (.ref o0), .val (.int p1)] [(.ref u1)])) _
      refine st15.trans ?_
      show Steps p.tables e below (T15.setTop (mkF m 18 #[.val (.ref o0), .val (.int p1)] [])) _
      refine XS.aloadN X15.here hx rfl (hb hby d22_18) rfl rfl ?_
      show Steps p.tables e below (T15.setTop (mkF m 19 #[.val (.ref o0), .val (.int p1)] [(.ref o0)])) _
      refine XS.iconst X15.here hx rfl (hb hby d22_19) ?_
      show Steps p.tables e below (T15.setTop (mkF m 20 #[.val (.ref o0), .val (.int p1)] [(.int (0 : Int32)), (.ref o0)])) _
      refine st18 _ ?_
      show Steps p.tables e below (T18.setTop (mkF m 23 #[.val (.ref o0), .val (.int p1)] [])) _
      exact X18.returnOut hx Bd.returns (hb hby d22_23) hr
    · show Q22 Z o0 p1 u1 ip ins mc es h0 n0 _ T18.heap _
      rw [e18]
      exact ⟨rfl, N18, K19, (by rw [f22_h_modCount, if_neg hc1_2]; exact (G15_0.other W18 (Or.inl (Ne.symm ne_o0_u1)))), (G15_1.other W18 (Or.inl (Ne.symm ne_o0_u1))), (G15_2.other W18 (Or.inl (Ne.symm ne_o0_u1))), Fw18, c24, c25, c26⟩
theorem d24_0 : decode prog_5_method_5_code 0 = .ok (.aload_n 0, 1) := by decide +kernel
theorem d24_1 : decode prog_5_method_5_code 1 = .ok (.iconst 1, 1) := by decide +kernel
theorem d24_2 : decode prog_5_method_5_code 2 = .ok (.putfield 36, 3) := by decide +kernel
theorem d24_5 : decode prog_5_method_5_code 5 = .ok (.return_, 1) := by decide +kernel
theorem pn_24 : plainName "com/example/cardhost/cardhost/Transactions" = true := by first | (simp [plainName, overriddenIn]; done) | decide +kernel
theorem ef_24 (m : MethodId) (x0 : Addr) : entryFrame m #[(.ref x0)] 1 = mkF m 0 #[.val (.ref x0)] [] := by first | (simp [entryFrame, mkF, argsToLocals, Value.category]; done) | rfl
def Q24 (Z : State) (o0 : Addr) (u1 : Addr) (ip : Int32) (ins : Int32) (mc : Int32) (es : Addr) (h0 : Heap) (n0 : Nat) (v : Option Value) (h : Heap) (L : List Loc) : Prop := v = none ∧ Fr n0 L ∧ Keep h0 h [o0] ∧ Fld Z h o0 "com/example/cardhost/cardhost/Transactions" "installing" "Z" (.int (1 : Int32)) ∧ Fld Z h o0 "com/example/cardhost/cardhost/Transactions" "undo" "Ljava/util/List;" (.ref u1) ∧ Fld Z h o0 "com/example/cardhost/cardhost/Transactions" "inProgress" "Z" (.int ip) ∧ Fld Z h o0 "com/example/cardhost/cardhost/Transactions" "inProgressFrom" "I" (.int (0 : Int32)) ∧ Fld Z h u1 "java/util/AbstractList" "modCount" "I" (.int mc) ∧ Fld Z h u1 "java/util/ArrayList" "size" "I" (.int (0 : Int32)) ∧ Fld Z h u1 "java/util/ArrayList" "elementData" "[Ljava/lang/Object;" (.ref es)
set_option maxRecDepth 65536 in
set_option maxHeartbeats 40000000 in
theorem rm24 (l : Launch) (Z : State) (a0 : Array Value) (hw : ∀ d ∈ tables_1, d.before a0 Z = true) (ws : List Jvm.Cond) (o0 : Addr) (u1 : Addr) (ip : Int32) (ins : Int32) (mc : Int32) (es : Addr) (h0 : Heap) (n0 : Nat) (Z0 : n0 ≤ h0.size) (E_o0 : Exa Z h0 o0 "com/example/cardhost/cardhost/Transactions") (F_undo_o0 : Fld Z h0 o0 "com/example/cardhost/cardhost/Transactions" "undo" "Ljava/util/List;" (.ref u1)) (F_inProgress_o0 : Fld Z h0 o0 "com/example/cardhost/cardhost/Transactions" "inProgress" "Z" (.int ip)) (F_installing_o0 : Fld Z h0 o0 "com/example/cardhost/cardhost/Transactions" "installing" "Z" (.int ins)) (F_inProgressFrom_o0 : Fld Z h0 o0 "com/example/cardhost/cardhost/Transactions" "inProgressFrom" "I" (.int (0 : Int32))) (E_u1 : Exa Z h0 u1 "java/util/ArrayList") (F_modCount_u1 : Fld Z h0 u1 "java/util/AbstractList" "modCount" "I" (.int mc)) (F_size_u1 : Fld Z h0 u1 "java/util/ArrayList" "size" "I" (.int (0 : Int32))) (F_elementData_u1 : Fld Z h0 u1 "java/util/ArrayList" "elementData" "[Ljava/lang/Object;" (.ref es)) (ne_o0_u1 : o0 ≠ u1) (g_o0 : n0 ≤ o0) (g_u1 : n0 ≤ u1) :
    MetFree l (⟨"com/example/cardhost/cardhost/Transactions", "beginInstallation", "()V"⟩ : MethodName) (head1 (Jvm.Cond.code (⟨"com/example/cardhost/cardhost/Transactions", "beginInstallation", "()V"⟩ : MethodName) prog_5_method_5_code 1 none :: ws) ({ frames := 0, cells := 0, slots := 0, locals := 0 } : Room)) (fun a U => a = #[(.ref o0)] ∧ Z.Warmed39 U.vm ∧ U.heap = h0) (fun _ _ _ _ _ => True) (fun _ U o U' => ∃ v L, o = .returned v ∧ Q24 Z o0 u1 ip ins mc es h0 n0 v U'.heap L ∧ FrameEnd U o U' L ({ frames := 0, cells := 0, slots := 0, locals := 0 } : Room).cells ({ frames := 0, cells := 0, slots := 0, locals := 0 } : Room).slots) := by
  refine MetFree.of_bodySF (plainFor_of_name pn_24) hisR ?_
  intro p e s m args below meth c s₁ Bd hml0 hP hK
  obtain ⟨rfl, hZ, hh⟩ := hP
  have hx := Bd.exec
  have hby := Bd.bytes
  have hml : c.maxLocals = 1 := hml0
  have hown : s.vm.findClass "com/example/cardhost/cardhost/Transactions" = some m.cls := findClass_of_methodNamed Bd.named
  have hnm := (name_of_methodNamed Bd.named Bd.method).1
  have X0 : Stand p l e ({ frames := 0, cells := 0, slots := 0, locals := 0 } : Room) s m #[(.ref o0)] below meth c s₁ [] 0 0 := Stand.of_body Bd
  have e0 : s₁.heap = h0 := by rw [← hh, Bd.state]; rfl
  have N0 := Fr.nil n0
  have pre0 : ∀ t, Steps p.tables e below (s₁.setTop (mkF m 0 #[.val (.ref o0)] [])) t → Steps p.tables e below (s₁.setTop (entryFrame m #[(.ref o0)] 1)) t := fun t k => castTop (ef_24 m o0) k
  obtain ⟨T1, h1, X1, e1, W1, st1⟩ := putFN X0 hx hZ hown (hw _ (List.mem_of_getElem? (i := 43) rfl)) Via.refl e0 F_installing_o0 E_o0 (Or.inl (hw _ (List.mem_of_getElem? (i := 44) rfl))) (hw _ (List.mem_of_getElem? (i := 1) rfl)) (ty := .boolean) (v' := (.int (1 : Int32))) (by decide) rfl (fits_nar_bool (1 : Int32)) (g := (mkF m 2 #[.val (.ref o0)] [(.int (1 : Int32)), (.ref o0)])) rfl rfl (hb hby d24_2)
  have Fw1 := F_installing_o0.same W1
  have K2 : Keep h0 h1 [o0] := (Keep.refl h0 [o0]).wr W1 (Or.inl (List.mem_of_getElem? (i := 0) rfl))
  have Z3 : n0 ≤ h1.size := Nat.le_trans Z0 K2.1
  have N1 := Fr.snoc X1 N0 g_o0
  obtain ⟨LS1, X1, N1⟩ : ∃ L, Stand p l e ({ frames := 0, cells := 0, slots := 0, locals := 0 } : Room) s m #[(.ref o0)] below meth c T1 L 0 0 ∧ Fr n0 L := ⟨_, X1, N1⟩
  obtain ⟨fs, hr, hrun, hended, hW, hsame⟩ := X1.leave (v := none) (fun _ => rfl)
  have c4 := (F_undo_o0.other W1 (Or.inr (slot_ne (Or.inr (hw _ (List.mem_of_getElem? (i := 34) rfl))) (Or.inl (hw _ (List.mem_of_getElem? (i := 44) rfl))) (by decide) (t := (.object "java/util/List")) (t' := .boolean) (by decide) (by decide))))
  have c5 := (F_inProgress_o0.other W1 (Or.inr (slot_ne (Or.inl (hw _ (List.mem_of_getElem? (i := 42) rfl))) (Or.inl (hw _ (List.mem_of_getElem? (i := 44) rfl))) (by decide) (t := .boolean) (t' := .boolean) (by decide) (by decide))))
  have c6 := (F_inProgressFrom_o0.other W1 (Or.inr (slot_ne (Or.inl (hw _ (List.mem_of_getElem? (i := 66) rfl))) (Or.inl (hw _ (List.mem_of_getElem? (i := 44) rfl))) (by decide) (t := .int) (t' := .boolean) (by decide) (by decide))))
  refine ⟨_, _, pre0 _ ?_, hrun, hended, _, _, rfl, ?_, ⟨_, rfl⟩, hW, hsame.mono (by decide) (by decide)⟩
  · show Steps p.tables e below (s₁.setTop (mkF m 0 #[.val (.ref o0)] [])) _
    refine XS.aloadN X0.here hx rfl (hb hby d24_0) rfl rfl ?_
    show Steps p.tables e below (s₁.setTop (mkF m 1 #[.val (.ref o0)] [(.ref o0)])) _
    refine XS.iconst X0.here hx rfl (hb hby d24_1) ?_
    show Steps p.tables e below (s₁.setTop (mkF m 2 #[.val (.ref o0)] [(.int (1 : Int32)), (.ref o0)])) _
    refine st1 _ ?_
    show Steps p.tables e below (T1.setTop (mkF m 5 #[.val (.ref o0)] [])) _
    exact X1.returnOut hx Bd.returns (hb hby d24_5) hr
  · show Q24 Z o0 u1 ip ins mc es h0 n0 _ T1.heap _
    rw [e1]
    exact ⟨rfl, N1, K2, Fw1, c4, c5, c6, (F_modCount_u1.other W1 (Or.inl (Ne.symm ne_o0_u1))), (F_size_u1.other W1 (Or.inl (Ne.symm ne_o0_u1))), (F_elementData_u1.other W1 (Or.inl (Ne.symm ne_o0_u1)))⟩
theorem d7_0 : decode method_2_code 0 = .ok (.iload_n 2, 1) := by decide +kernel
theorem d7_1 : decode method_2_code 1 = .ok (.bipush 7, 2) := by decide +kernel
theorem d7_3 : decode method_2_code 3 = .ok (.iand, 1) := by decide +kernel
theorem d7_4 : decode method_2_code 4 = .ok (.istore_n 3, 1) := by decide +kernel
theorem d7_5 : decode method_2_code 5 = .ok (.iload_n 3, 1) := by decide +kernel
theorem d7_6 : decode method_2_code 6 = .ok (.ifCond .ne 20, 3) := by decide +kernel
theorem d7_9 : decode method_2_code 9 = .ok (.aload_n 1, 1) := by decide +kernel
theorem d7_10 : decode method_2_code 10 = .ok (.iconst 0, 1) := by decide +kernel
theorem d7_11 : decode method_2_code 11 = .ok (.baload, 1) := by decide +kernel
theorem d7_12 : decode method_2_code 12 = .ok (.ifCond .ne 114, 3) := by decide +kernel
theorem d7_15 : decode method_2_code 15 = .ok (.aload_n 0, 1) := by decide +kernel
theorem d7_16 : decode method_2_code 16 = .ok (.invokevirtual 7, 3) := by decide +kernel
theorem d7_19 : decode method_2_code 19 = .ok (.aload_n 1, 1) := by decide +kernel
theorem d7_20 : decode method_2_code 20 = .ok (.iconst 0, 1) := by decide +kernel
theorem d7_21 : decode method_2_code 21 = .ok (.iconst 1, 1) := by decide +kernel
theorem d7_22 : decode method_2_code 22 = .ok (.bastore, 1) := by decide +kernel
theorem d7_23 : decode method_2_code 23 = .ok (.goto 103, 3) := by decide +kernel
theorem d7_26 : decode method_2_code 26 = .ok (.iload_n 3, 1) := by decide +kernel
theorem d7_27 : decode method_2_code 27 = .ok (.iconst 1, 1) := by decide +kernel
theorem d7_28 : decode method_2_code 28 = .ok (.if_icmp .ne 20, 3) := by decide +kernel
theorem d7_31 : decode method_2_code 31 = .ok (.aload_n 1, 1) := by decide +kernel
theorem d7_32 : decode method_2_code 32 = .ok (.iconst 0, 1) := by decide +kernel
theorem d7_33 : decode method_2_code 33 = .ok (.baload, 1) := by decide +kernel
theorem d7_34 : decode method_2_code 34 = .ok (.ifCond .eq 92, 3) := by decide +kernel
theorem d7_37 : decode method_2_code 37 = .ok (.aload_n 0, 1) := by decide +kernel
theorem d7_38 : decode method_2_code 38 = .ok (.invokevirtual 12, 3) := by decide +kernel
theorem d7_41 : decode method_2_code 41 = .ok (.aload_n 1, 1) := by decide +kernel
theorem d7_42 : decode method_2_code 42 = .ok (.iconst 0, 1) := by decide +kernel
theorem d7_43 : decode method_2_code 43 = .ok (.iconst 0, 1) := by decide +kernel
theorem d7_44 : decode method_2_code 44 = .ok (.bastore, 1) := by decide +kernel
theorem d7_45 : decode method_2_code 45 = .ok (.goto 81, 3) := by decide +kernel
theorem d7_48 : decode method_2_code 48 = .ok (.iload_n 3, 1) := by decide +kernel
theorem d7_49 : decode method_2_code 49 = .ok (.iconst 2, 1) := by decide +kernel
theorem d7_50 : decode method_2_code 50 = .ok (.if_icmp .ne 20, 3) := by decide +kernel
theorem d7_53 : decode method_2_code 53 = .ok (.aload_n 1, 1) := by decide +kernel
theorem d7_54 : decode method_2_code 54 = .ok (.iconst 0, 1) := by decide +kernel
theorem d7_55 : decode method_2_code 55 = .ok (.baload, 1) := by decide +kernel
theorem d7_56 : decode method_2_code 56 = .ok (.ifCond .eq 70, 3) := by decide +kernel
theorem d7_59 : decode method_2_code 59 = .ok (.aload_n 0, 1) := by decide +kernel
theorem d7_60 : decode method_2_code 60 = .ok (.invokevirtual 15, 3) := by decide +kernel
theorem d7_63 : decode method_2_code 63 = .ok (.aload_n 1, 1) := by decide +kernel
theorem d7_64 : decode method_2_code 64 = .ok (.iconst 0, 1) := by decide +kernel
theorem d7_65 : decode method_2_code 65 = .ok (.iconst 0, 1) := by decide +kernel
theorem d7_66 : decode method_2_code 66 = .ok (.bastore, 1) := by decide +kernel
theorem d7_67 : decode method_2_code 67 = .ok (.goto 59, 3) := by decide +kernel
theorem d7_70 : decode method_2_code 70 = .ok (.iload_n 3, 1) := by decide +kernel
theorem d7_71 : decode method_2_code 71 = .ok (.iconst 3, 1) := by decide +kernel
theorem d7_72 : decode method_2_code 72 = .ok (.if_icmp .ne 20, 3) := by decide +kernel
theorem d7_75 : decode method_2_code 75 = .ok (.aload_n 1, 1) := by decide +kernel
theorem d7_76 : decode method_2_code 76 = .ok (.iconst 0, 1) := by decide +kernel
theorem d7_77 : decode method_2_code 77 = .ok (.baload, 1) := by decide +kernel
theorem d7_78 : decode method_2_code 78 = .ok (.ifCond .ne 48, 3) := by decide +kernel
theorem d7_81 : decode method_2_code 81 = .ok (.aload_n 0, 1) := by decide +kernel
theorem d7_82 : decode method_2_code 82 = .ok (.invokevirtual 18, 3) := by decide +kernel
theorem d7_85 : decode method_2_code 85 = .ok (.aload_n 1, 1) := by decide +kernel
theorem d7_86 : decode method_2_code 86 = .ok (.iconst 1, 1) := by decide +kernel
theorem d7_87 : decode method_2_code 87 = .ok (.iconst 1, 1) := by decide +kernel
theorem d7_88 : decode method_2_code 88 = .ok (.bastore, 1) := by decide +kernel
theorem d7_89 : decode method_2_code 89 = .ok (.goto 37, 3) := by decide +kernel
theorem d7_92 : decode method_2_code 92 = .ok (.iload_n 3, 1) := by decide +kernel
theorem d7_93 : decode method_2_code 93 = .ok (.iconst 4, 1) := by decide +kernel
theorem d7_94 : decode method_2_code 94 = .ok (.if_icmp .eq 8, 3) := by decide +kernel
theorem d7_97 : decode method_2_code 97 = .ok (.iload_n 3, 1) := by decide +kernel
theorem d7_98 : decode method_2_code 98 = .ok (.iconst 5, 1) := by decide +kernel
theorem d7_99 : decode method_2_code 99 = .ok (.if_icmp .ne 27, 3) := by decide +kernel
theorem d7_102 : decode method_2_code 102 = .ok (.aload_n 1, 1) := by decide +kernel
theorem d7_103 : decode method_2_code 103 = .ok (.iconst 0, 1) := by decide +kernel
theorem d7_104 : decode method_2_code 104 = .ok (.baload, 1) := by decide +kernel
theorem d7_105 : decode method_2_code 105 = .ok (.ifCond .ne 21, 3) := by decide +kernel
theorem d7_108 : decode method_2_code 108 = .ok (.aload_n 0, 1) := by decide +kernel
theorem d7_109 : decode method_2_code 109 = .ok (.iload_n 3, 1) := by decide +kernel
theorem d7_110 : decode method_2_code 110 = .ok (.iconst 4, 1) := by decide +kernel
theorem d7_111 : decode method_2_code 111 = .ok (.if_icmp .ne 7, 3) := by decide +kernel
theorem d7_114 : decode method_2_code 114 = .ok (.iconst 1, 1) := by decide +kernel
theorem d7_115 : decode method_2_code 115 = .ok (.goto 4, 3) := by decide +kernel
theorem d7_118 : decode method_2_code 118 = .ok (.iconst 0, 1) := by decide +kernel
theorem d7_119 : decode method_2_code 119 = .ok (.invokevirtual 21, 3) := by decide +kernel
theorem d7_122 : decode method_2_code 122 = .ok (.aload_n 1, 1) := by decide +kernel
theorem d7_123 : decode method_2_code 123 = .ok (.iconst 1, 1) := by decide +kernel
theorem d7_124 : decode method_2_code 124 = .ok (.iconst 0, 1) := by decide +kernel
theorem d7_125 : decode method_2_code 125 = .ok (.bastore, 1) := by decide +kernel
theorem d7_126 : decode method_2_code 126 = .ok (.aload_n 0, 1) := by decide +kernel
theorem d7_127 : decode method_2_code 127 = .ok (.invokevirtual 25, 3) := by decide +kernel
theorem d7_130 : decode method_2_code 130 = .ok (.aload_n 1, 1) := by decide +kernel
theorem d7_131 : decode method_2_code 131 = .ok (.iconst 0, 1) := by decide +kernel
theorem d7_132 : decode method_2_code 132 = .ok (.baload, 1) := by decide +kernel
theorem d7_133 : decode method_2_code 133 = .ok (.ifCond .ne 9, 3) := by decide +kernel
theorem d7_136 : decode method_2_code 136 = .ok (.aload_n 1, 1) := by decide +kernel
theorem d7_137 : decode method_2_code 137 = .ok (.iconst 1, 1) := by decide +kernel
theorem d7_138 : decode method_2_code 138 = .ok (.baload, 1) := by decide +kernel
theorem d7_139 : decode method_2_code 139 = .ok (.ifCond .eq 7, 3) := by decide +kernel
theorem d7_142 : decode method_2_code 142 = .ok (.iconst 1, 1) := by decide +kernel
theorem d7_143 : decode method_2_code 143 = .ok (.goto 4, 3) := by decide +kernel
theorem d7_146 : decode method_2_code 146 = .ok (.iconst 0, 1) := by decide +kernel
theorem d7_147 : decode method_2_code 147 = .ok (.if_icmp .ne 7, 3) := by decide +kernel
theorem d7_150 : decode method_2_code 150 = .ok (.iconst 1, 1) := by decide +kernel
theorem d7_151 : decode method_2_code 151 = .ok (.goto 4, 3) := by decide +kernel
theorem d7_155 : decode method_2_code 155 = .ok (.ireturn, 1) := by decide +kernel
theorem pn_7 : plainName "com/example/cardhost/cardhost/TransactionsRecordingPinLaw" = true := by first | (simp [plainName, overriddenIn]; done) | decide +kernel
theorem pd_7_0 : parseMethodDescriptor "()V" = some ⟨[], none⟩ := by decide +kernel
theorem pd_7_1 : parseMethodDescriptor "(Z)V" = some ⟨[.boolean], none⟩ := by decide +kernel
theorem pd_7_2 : parseMethodDescriptor "()Z" = some ⟨[], some .boolean⟩ := by decide +kernel
theorem ef_7 (m : MethodId) (x0 : Addr) (x1 : Addr) (x2 : Int32) : entryFrame m #[(.ref x0), (.ref x1), (.int x2)] 4 = mkF m 0 #[.val (.ref x0), .val (.ref x1), .val (.int x2), .unset] [] := by first | (simp [entryFrame, mkF, argsToLocals, Value.category]; done) | rfl
def hj7_5_0 (p2 : Int32) (F : Nat → Int32) : Nat → Int32 :=
  if (p2 &&& (7 : Int32)) = (0 : Int32) then (if (F 0) = (0 : Int32) then ((own_upd F 0 (1 : Int32))) else
  (F)) else
  (if (p2 &&& (7 : Int32)) = (1 : Int32) then (if (F 0) = (0 : Int32) then (F) else
  ((own_upd F 0 (0 : Int32)))) else
  (if (p2 &&& (7 : Int32)) = (2 : Int32) then (if (F 0) = (0 : Int32) then (F) else
  ((own_upd F 0 (0 : Int32)))) else
  (if (p2 &&& (7 : Int32)) = (3 : Int32) then (if (F 0) = (0 : Int32) then ((own_upd F 1 (1 : Int32))) else
  (F)) else
  (if (p2 &&& (7 : Int32)) = (4 : Int32) then (if (F 0) = (0 : Int32) then ((own_upd F 1 (0 : Int32))) else
  (F)) else
  (if (p2 &&& (7 : Int32)) = (5 : Int32) then (if (F 0) = (0 : Int32) then ((own_upd F 1 (0 : Int32))) else
  (F)) else
  (F))))))
def hj7_5_inProgress (p2 : Int32) (ip : Int32) (F : Nat → Int32) : Int32 :=
  if (p2 &&& (7 : Int32)) = (0 : Int32) then (if (F 0) = (0 : Int32) then ((1 : Int32)) else
  (ip)) else
  (if (p2 &&& (7 : Int32)) = (1 : Int32) then (if (F 0) = (0 : Int32) then (ip) else
  ((0 : Int32))) else
  (if (p2 &&& (7 : Int32)) = (2 : Int32) then (if (F 0) = (0 : Int32) then (ip) else
  ((0 : Int32))) else
  (if (p2 &&& (7 : Int32)) = (3 : Int32) then (if (F 0) = (0 : Int32) then (ip) else
  (ip)) else
  (if (p2 &&& (7 : Int32)) = (4 : Int32) then (if (F 0) = (0 : Int32) then (ip) else
  (ip)) else
  (if (p2 &&& (7 : Int32)) = (5 : Int32) then (if (F 0) = (0 : Int32) then (ip) else
  (ip)) else
  (ip))))))
def hj7_5_installing (p2 : Int32) (ins : Int32) (F : Nat → Int32) : Int32 :=
  if (p2 &&& (7 : Int32)) = (0 : Int32) then (if (F 0) = (0 : Int32) then (ins) else
  (ins)) else
  (if (p2 &&& (7 : Int32)) = (1 : Int32) then (if (F 0) = (0 : Int32) then (ins) else
  (ins)) else
  (if (p2 &&& (7 : Int32)) = (2 : Int32) then (if (F 0) = (0 : Int32) then (ins) else
  (ins)) else
  (if (p2 &&& (7 : Int32)) = (3 : Int32) then (if (F 0) = (0 : Int32) then ((1 : Int32)) else
  (ins)) else
  (if (p2 &&& (7 : Int32)) = (4 : Int32) then (if (F 0) = (0 : Int32) then ((0 : Int32)) else
  (ins)) else
  (if (p2 &&& (7 : Int32)) = (5 : Int32) then (if (F 0) = (0 : Int32) then ((0 : Int32)) else
  (ins)) else
  (ins))))))
def hj7_5_modCount (p2 : Int32) (ins : Int32) (mc : Int32) (F : Nat → Int32) : Int32 :=
  if (p2 &&& (7 : Int32)) = (0 : Int32) then (if (F 0) = (0 : Int32) then (mc) else
  (mc)) else
  (if (p2 &&& (7 : Int32)) = (1 : Int32) then (if (F 0) = (0 : Int32) then (mc) else
  ((f25_h_modCount ins mc))) else
  (if (p2 &&& (7 : Int32)) = (2 : Int32) then (if (F 0) = (0 : Int32) then (mc) else
  ((mc + (1 : Int32)))) else
  (if (p2 &&& (7 : Int32)) = (3 : Int32) then (if (F 0) = (0 : Int32) then (mc) else
  (mc)) else
  (if (p2 &&& (7 : Int32)) = (4 : Int32) then (if (F 0) = (0 : Int32) then ((f22_h_modCount (1 : Int32) mc)) else
  (mc)) else
  (if (p2 &&& (7 : Int32)) = (5 : Int32) then (if (F 0) = (0 : Int32) then ((f22_h_modCount (0 : Int32) mc)) else
  (mc)) else
  (mc))))))
def j7_130_S0 (p2 : Int32) (F : Nat → Int32) : Int32 :=
  if ((hj7_5_0 p2 F) 0) = (0 : Int32) then (if ((hj7_5_0 p2 F) 1) = (0 : Int32) then ((0 : Int32)) else
  ((1 : Int32))) else
  ((1 : Int32))
theorem own_ite_app (c : Prop) [Decidable c] (f g : Nat → Int32) (i : Nat) : (if c then f else g) i = if c then f i else g i := by split <;> rfl
theorem own_inv {p2 ip ins : Int32} {F : Nat → Int32} (h : ip = F 0 ∧ ins = F 1) : hj7_5_inProgress p2 ip F = hj7_5_0 p2 F 0 ∧ hj7_5_installing p2 ins F = hj7_5_0 p2 F 1 := by
  obtain ⟨rfl, rfl⟩ := h
  unfold hj7_5_inProgress hj7_5_installing hj7_5_0
  simp only [own_ite_app]
  generalize (p2 &&& (7 : Int32)) = t
  constructor
  all_goals (repeat' split)
  all_goals first | rfl | (simp [own_upd_at]; done) | (simp_all [own_upd_at]; done)
theorem own_st {p2 ip ins : Int32} {F : Nat → Int32} (h : ip = F 0 ∧ ins = F 1) : f6 (hj7_5_inProgress p2 ip F) (hj7_5_installing p2 ins F) = j7_130_S0 p2 F := by
  rw [(own_inv h).1, (own_inv h).2]
  rfl
def Q7 (Z : State) (o0 : Addr) (o1 : Addr) (p2 : Int32) (u1 : Addr) (ip : Int32) (ins : Int32) (mc : Int32) (es : Addr) (F : Nat → Int32) (h0 : Heap) (n0 : Nat) (v : Option Value) (h : Heap) (L : List Loc) : Prop := v = some (.int (1 : Int32)) ∧ Fr n0 L ∧ Keep h0 h [o0, o1, u1] ∧ own_AI Z h o1 .boolean (2 : Int32) (hj7_5_0 p2 F) ∧ Fld Z h o0 "com/example/cardhost/cardhost/Transactions" "undo" "Ljava/util/List;" (.ref u1) ∧ Fld Z h o0 "com/example/cardhost/cardhost/Transactions" "inProgress" "Z" (.int (hj7_5_inProgress p2 ip F)) ∧ Fld Z h o0 "com/example/cardhost/cardhost/Transactions" "installing" "Z" (.int (hj7_5_installing p2 ins F)) ∧ Fld Z h o0 "com/example/cardhost/cardhost/Transactions" "inProgressFrom" "I" (.int (0 : Int32)) ∧ Fld Z h u1 "java/util/AbstractList" "modCount" "I" (.int (hj7_5_modCount p2 ins mc F)) ∧ Fld Z h u1 "java/util/ArrayList" "size" "I" (.int (0 : Int32)) ∧ Fld Z h u1 "java/util/ArrayList" "elementData" "[Ljava/lang/Object;" (.ref es)
set_option maxRecDepth 65536 in
set_option maxHeartbeats 40000000 in
theorem rm7 (l : Launch) (Z : State) (a0 : Array Value) (hw : ∀ d ∈ tables_1, d.before a0 Z = true) (ws : List Jvm.Cond) (o0 : Addr) (o1 : Addr) (p2 : Int32) (u1 : Addr) (ip : Int32) (ins : Int32) (mc : Int32) (es : Addr) (F : Nat → Int32) (h0 : Heap) (n0 : Nat) (Z0 : n0 ≤ h0.size) (E_o0 : Exa Z h0 o0 "com/example/cardhost/cardhost/Transactions") (F_undo_o0 : Fld Z h0 o0 "com/example/cardhost/cardhost/Transactions" "undo" "Ljava/util/List;" (.ref u1)) (F_inProgress_o0 : Fld Z h0 o0 "com/example/cardhost/cardhost/Transactions" "inProgress" "Z" (.int ip)) (F_installing_o0 : Fld Z h0 o0 "com/example/cardhost/cardhost/Transactions" "installing" "Z" (.int ins)) (F_inProgressFrom_o0 : Fld Z h0 o0 "com/example/cardhost/cardhost/Transactions" "inProgressFrom" "I" (.int (0 : Int32))) (E_u1 : Exa Z h0 u1 "java/util/ArrayList") (F_modCount_u1 : Fld Z h0 u1 "java/util/AbstractList" "modCount" "I" (.int mc)) (F_size_u1 : Fld Z h0 u1 "java/util/ArrayList" "size" "I" (.int (0 : Int32))) (F_elementData_u1 : Fld Z h0 u1 "java/util/ArrayList" "elementData" "[Ljava/lang/Object;" (.ref es)) (ne_o0_u1 : o0 ≠ u1) (g_o0 : n0 ≤ o0) (g_u1 : n0 ≤ u1) (V_es : own_AL Z h0 es (.object "java/lang/Object") (0 : Int32)) (ne_es_o0 : es ≠ o0) (ne_es_u1 : es ≠ u1) (V_o1 : own_AI Z h0 o1 .boolean (2 : Int32) F) (ne_o0_o1 : o0 ≠ o1) (ne_u1_o1 : u1 ≠ o1) (ne_es_o1 : es ≠ o1) (g_o1 : n0 ≤ o1) (hI : ip = F 0 ∧ ins = F 1) :
    MetFree l (⟨"com/example/cardhost/cardhost/TransactionsRecordingPinLaw", "step", "(Lcom/example/cardhost/cardhost/Transactions;[ZI)Z"⟩ : MethodName) (head1 (Jvm.Cond.code (⟨"com/example/cardhost/cardhost/TransactionsRecordingPinLaw", "step", "(Lcom/example/cardhost/cardhost/Transactions;[ZI)Z"⟩ : MethodName) method_2_code 4 (some .boolean) :: ws) ({ frames := 7, cells := 1, slots := 5, locals := 102 } : Room)) (fun a U => a = #[(.ref o0), (.ref o1), (.int p2)] ∧ Z.Warmed39 U.vm ∧ U.heap = h0) (fun _ _ _ _ _ => True) (fun _ U o U' => ∃ v L, o = .returned v ∧ Q7 Z o0 o1 p2 u1 ip ins mc es F h0 n0 v U'.heap L ∧ FrameEnd U o U' L ({ frames := 7, cells := 1, slots := 5, locals := 102 } : Room).cells ({ frames := 7, cells := 1, slots := 5, locals := 102 } : Room).slots) := by
  refine MetFree.of_bodySF (plainFor_of_name pn_7) hisR ?_
  intro p e s m args below meth c s₁ Bd hml0 hP hK
  obtain ⟨rfl, hZ, hh⟩ := hP
  have hx := Bd.exec
  have hby := Bd.bytes
  have hml : c.maxLocals = 4 := hml0
  have hown : s.vm.findClass "com/example/cardhost/cardhost/TransactionsRecordingPinLaw" = some m.cls := findClass_of_methodNamed Bd.named
  have hnm := (name_of_methodNamed Bd.named Bd.method).1
  have X0 : Stand p l e ({ frames := 7, cells := 1, slots := 5, locals := 102 } : Room) s m #[(.ref o0), (.ref o1), (.int p2)] below meth c s₁ [] 0 0 := Stand.of_body Bd
  have e0 : s₁.heap = h0 := by rw [← hh, Bd.state]; rfl
  have N0 := Fr.nil n0
  have pre0 : ∀ t, Steps p.tables e below (s₁.setTop (mkF m 0 #[.val (.ref o0), .val (.ref o1), .val (.int p2), .unset] [])) t → Steps p.tables e below (s₁.setTop (entryFrame m #[(.ref o0), (.ref o1), (.int p2)] 4)) t := fun t k => castTop (ef_7 m o0 o1 p2) k
  have pre1 : ∀ t, Steps p.tables e below (s₁.setTop (mkF m 5 #[.val (.ref o0), .val (.ref o1), .val (.int p2), .val (.int (p2 &&& (7 : Int32)))] [])) t → Steps p.tables e below (s₁.setTop (entryFrame m #[(.ref o0), (.ref o1), (.int p2)] 4)) t := fun t kt => pre0 t (by
      show Steps p.tables e below (s₁.setTop (mkF m 0 #[.val (.ref o0), .val (.ref o1), .val (.int p2), .unset] [])) _
      refine XS.iloadN X0.here hx rfl (hb hby d7_0) rfl ?_
      show Steps p.tables e below (s₁.setTop (mkF m 1 #[.val (.ref o0), .val (.ref o1), .val (.int p2), .unset] [(.int p2)])) _
      refine XS.bipush X0.here hx rfl (hb hby d7_1) ?_
      show Steps p.tables e below (s₁.setTop (mkF m 3 #[.val (.ref o0), .val (.ref o1), .val (.int p2), .unset] [(.int (7 : Int32)), (.int p2)])) _
      refine XS.iand X0.here hx rfl (hb hby d7_3) rfl ?_
      show Steps p.tables e below (s₁.setTop (mkF m 4 #[.val (.ref o0), .val (.ref o1), .val (.int p2), .unset] [(.int (p2 &&& (7 : Int32)))])) _
      refine XS.istoreN X0.here hx rfl (hb hby d7_4) rfl (l' := #[.val (.ref o0), .val (.ref o1), .val (.int p2), .val (.int (p2 &&& (7 : Int32)))]) rfl ?_
      exact kt)
  obtain ⟨T2, h2, L2, X2, e2, N2, K2q, V2_0, V2_1, V2_2, V2_3, V2_4, V2_5, V2_6, V2_7, st2⟩ : ∃ (T' : State) (h' : Heap) (L' : List Loc), Stand p l e ({ frames := 7, cells := 1, slots := 5, locals := 102 } : Room) s m #[(.ref o0), (.ref o1), (.int p2)] below meth c T' L' 1 5 ∧ T'.heap = h' ∧ Fr n0 L' ∧ Keep h0 h' [o1, o0, u1] ∧ own_AI Z h' o1 .boolean (2 : Int32) (hj7_5_0 p2 F) ∧ Fld Z h' o0 "com/example/cardhost/cardhost/Transactions" "undo" "Ljava/util/List;" (.ref u1) ∧ Fld Z h' o0 "com/example/cardhost/cardhost/Transactions" "inProgress" "Z" (.int (hj7_5_inProgress p2 ip F)) ∧ Fld Z h' o0 "com/example/cardhost/cardhost/Transactions" "installing" "Z" (.int (hj7_5_installing p2 ins F)) ∧ Fld Z h' o0 "com/example/cardhost/cardhost/Transactions" "inProgressFrom" "I" (.int (0 : Int32)) ∧ Fld Z h' u1 "java/util/AbstractList" "modCount" "I" (.int (hj7_5_modCount p2 ins mc F)) ∧ Fld Z h' u1 "java/util/ArrayList" "size" "I" (.int (0 : Int32)) ∧ Fld Z h' u1 "java/util/ArrayList" "elementData" "[Ljava/lang/Object;" (.ref es) ∧ ∀ t, Steps p.tables e below (T'.setTop (mkF m 126 #[.val (.ref o0), .val (.ref o1), .val (.int p2), .val (.int (p2 &&& (7 : Int32)))] [])) t → Steps p.tables e below (s₁.setTop (entryFrame m #[(.ref o0), (.ref o1), (.int p2)] 4)) t := by
    have pre3 : ∀ t, Steps p.tables e below (s₁.setTop (mkF m 6 #[.val (.ref o0), .val (.ref o1), .val (.int p2), .val (.int (p2 &&& (7 : Int32)))] [(.int (p2 &&& (7 : Int32)))])) t → Steps p.tables e below (s₁.setTop (entryFrame m #[(.ref o0), (.ref o1), (.int p2)] 4)) t := fun t kt => pre1 t (by
        show Steps p.tables e below (s₁.setTop (mkF m 5 #[.val (.ref o0), .val (.ref o1), .val (.int p2), .val (.int (p2 &&& (7 : Int32)))] [])) _
        refine XS.iloadN X0.here hx rfl (hb hby d7_5) rfl ?_
        exact kt)
    by_cases hc6_4 : (p2 &&& (7 : Int32)) = (0 : Int32)
    · obtain ⟨cl5, Ar5, Sz5, Nn5, Hs5⟩ := id V_o1
      have hin5 : ¬ ((0 : Int32) < 0 ∨ cl5.slots.size ≤ ((0 : Int32)).toNatClampNeg) := inb_of Sz5 ⟨by decide, by decide⟩
      have hat5 : cl5.slots[((0 : Int32)).toNatClampNeg]? = some (.int (F 0)) := (Hs5 _ (own_lt hin5)).1
      have pre6 : ∀ t, Steps p.tables e below (s₁.setTop (mkF m 12 #[.val (.ref o0), .val (.ref o1), .val (.int p2), .val (.int (p2 &&& (7 : Int32)))] [(.int (F 0))])) t → Steps p.tables e below (s₁.setTop (entryFrame m #[(.ref o0), (.ref o1), (.int p2)] 4)) t := fun t kt => pre3 t (by
          show Steps p.tables e below (s₁.setTop (mkF m 6 #[.val (.ref o0), .val (.ref o1), .val (.int p2), .val (.int (p2 &&& (7 : Int32)))] [(.int (p2 &&& (7 : Int32)))])) _
          refine XS.ifNo X0.here hx rfl (hb hby d7_6) rfl ((if0 _ _).trans (teq hc6_4).2) ?_
          show Steps p.tables e below (s₁.setTop (mkF m 9 #[.val (.ref o0), .val (.ref o1), .val (.int p2), .val (.int (p2 &&& (7 : Int32)))] [])) _
          refine XS.aloadN X0.here hx rfl (hb hby d7_9) rfl rfl ?_
          show Steps p.tables e below (s₁.setTop (mkF m 10 #[.val (.ref o0), .val (.ref o1), .val (.int p2), .val (.int (p2 &&& (7 : Int32)))] [(.ref o1)])) _
          refine XS.iconst X0.here hx rfl (hb hby d7_10) ?_
          show Steps p.tables e below (s₁.setTop (mkF m 11 #[.val (.ref o0), .val (.ref o1), .val (.int p2), .val (.int (p2 &&& (7 : Int32)))] [(.int (0 : Int32)), (.ref o1)])) _
          refine X0.baloadBooleans hx (j := (0 : Int32)) (v := (.int (F 0))) (by rw [e0]; exact Ar5.1) (State.isArrayOf_alike hZ.alike Ar5.2.1) Ar5.2.2 hin5 hat5 (g := (mkF m 11 #[.val (.ref o0), .val (.ref o1), .val (.int p2), .val (.int (p2 &&& (7 : Int32)))] [(.int (0 : Int32)), (.ref o1)])) rfl rfl (hb hby d7_11) _ ?_
          exact kt)
      by_cases hc12_7 : (F 0) = (0 : Int32)
      · obtain ⟨cq8, kq8, q8a, q8b, q8c⟩ := isOf hZ e0 E_o0
        obtain ⟨_, _, ⟨T8, L8, k8, n8⟩, -, X8, ⟨Lc8, hQ8, l8, y8, z8⟩, st8⟩ := X0.virtualBack hx (y := (⟨"com/example/cardhost/cardhost/Transactions", "begin", "()V"⟩ : MethodName)) (z := (⟨"com/example/cardhost/cardhost/Transactions", "begin", "()V"⟩ : MethodName)) hown (mvT hZ (hw _ (List.mem_of_getElem? (i := 49) rfl))) (mvT hZ (hw _ (List.mem_of_getElem? (i := 50) rfl))) (notFace_of_selects (args := #[]) (mvT hZ (hw _ (List.mem_of_getElem? (i := 52) rfl)))) (mvT hZ (hw _ (List.mem_of_getElem? (i := 52) rfl))) (mvT hZ (hw _ (List.mem_of_getElem? (i := 51) rfl))) (by decide) (backOf (W := 0) (rm8 l Z a0 hw [] o0 u1 ip ins mc es h0 n0 Z0 E_o0 F_undo_o0 F_inProgress_o0 F_installing_o0 F_inProgressFrom_o0 E_u1 F_modCount_u1 F_size_u1 F_elementData_u1 ne_o0_u1 g_o0 g_u1 (hI.1.trans hc12_7)) hZ (hw _ (List.mem_of_getElem? (i := 53) rfl)) (hw _ (List.mem_of_getElem? (i := 2) rfl)) (by decide) (by decide)) q8a q8c (g := (mkF m 16 #[.val (.ref o0), .val (.ref o1), .val (.int p2), .val (.int (p2 &&& (7 : Int32)))] [(.ref o0)])) rfl (by rw [hml]; rfl) (Steps.refl _) (argsL := []) (rest := []) (lenOf pd_7_0 rfl) rfl (by show 2 * 0 + _ ≤ _; exact Nat.le_of_eq rfl) (hb hby d7_16) (fun _ _ => ⟨rfl, e0, (by decide : 0 + 0 ≤ _), (by decide : 0 + 0 ≤ _)⟩)
        dsimp only [Pt.U, Pt.locs, Pt.cells, Pt.slots] at X8 l8 y8 z8 st8 hQ8
        subst l8 y8 z8
        obtain ⟨rfl, N8q, K8q, G8_0, G8_1, G8_2, G8_3, G8_4, G8_5, G8_6⟩ := hQ8
        have N8 := Fr.app N0 N8q
        have K9 : Keep h0 T8.heap [o0, o1, u1] := (Keep.refl h0 [o0, o1, u1]).trans K8q (allS (Or.inl (List.mem_of_getElem? (i := 0) rfl)) all0)
        have KL10 : Keep h0 T8.heap [o1, o0, u1] := (Keep.refl h0 [o1, o0, u1]).trans K8q (allS (Or.inl (List.mem_of_getElem? (i := 1) rfl)) all0)
        have Z11 : n0 ≤ T8.heap.size := Nat.le_trans Z0 K9.1
        obtain ⟨LS8, X8, N8⟩ : ∃ L, Stand p l e ({ frames := 7, cells := 1, slots := 5, locals := 102 } : Room) s m #[(.ref o0), (.ref o1), (.int p2)] below meth c T8 L 0 0 ∧ Fr n0 L := ⟨_, X8, N8⟩
        obtain ⟨cl12, Ar12, Sz12, Nn12, Hs12⟩ := id (V_o1.keep K8q (ninS (Ne.symm ne_o0_o1) nin0))
        have hin12 : ¬ ((0 : Int32) < 0 ∨ cl12.slots.size ≤ ((0 : Int32)).toNatClampNeg) := inb_of Sz12 ⟨by decide, by decide⟩
        obtain ⟨T13, h13, X13, e13, W13, st13⟩ := stZ X8 hx hZ rfl Ar12 (j := (0 : Int32)) hin12 (g := (mkF m 22 #[.val (.ref o0), .val (.ref o1), .val (.int p2), .val (.int (p2 &&& (7 : Int32)))] [(.int (1 : Int32)), (.int (0 : Int32)), (.ref o1)])) rfl rfl (hb hby d7_22)
        have V13 : own_AI Z h13 o1 .boolean (2 : Int32) (own_upd F 0 (1 : Int32)) := own_AI.set (V_o1.keep K8q (ninS (Ne.symm ne_o0_o1) nin0)) (fits_nar_bool (1 : Int32)) W13
        have K14 : Keep h0 h13 [o0, o1, u1] := K9.wr W13 (Or.inl (List.mem_of_getElem? (i := 1) rfl))
        have KL15 : Keep h0 h13 [o1, o0, u1] := KL10.wr W13 (Or.inl (List.mem_of_getElem? (i := 0) rfl))
        have Z16 : n0 ≤ h13.size := Nat.le_trans Z0 K14.1
        have N13 := Fr.snoc X13 N8 g_o1
        obtain ⟨LS13, X13, N13⟩ : ∃ L, Stand p l e ({ frames := 7, cells := 1, slots := 5, locals := 102 } : Room) s m #[(.ref o0), (.ref o1), (.int p2)] below meth c T13 L 0 0 ∧ Fr n0 L := ⟨_, X13, N13⟩
        refine ⟨T13, h13, _, (X13.mono (by decide) (by decide)), e13, N13, KL15, (by rw [hj7_5_0, if_pos hc6_4, if_pos hc12_7]; exact V13), (G8_2.other W13 (Or.inl ne_o0_o1)), (by rw [hj7_5_inProgress, if_pos hc6_4, if_pos hc12_7]; exact (G8_0.other W13 (Or.inl ne_o0_o1))), (by rw [hj7_5_installing, if_pos hc6_4, if_pos hc12_7]; exact (G8_3.other W13 (Or.inl ne_o0_o1))), (G8_1.other W13 (Or.inl ne_o0_o1)), (by rw [hj7_5_modCount, if_pos hc6_4, if_pos hc12_7]; exact (G8_4.other W13 (Or.inl ne_u1_o1))), (G8_5.other W13 (Or.inl ne_u1_o1)), (G8_6.other W13 (Or.inl ne_u1_o1)), fun t kt => ?_⟩
        refine pre6 t ?_
        show Steps p.tables e below (s₁.setTop (mkF m 12 #[.val (.ref o0), .val (.ref o1), .val (.int p2), .val (.int (p2 &&& (7 : Int32)))] [(.int (F 0))])) _
        refine XS.ifNo X0.here hx rfl (hb hby d7_12) rfl ((if0 _ _).trans (teq hc12_7).2) ?_
        show Steps p.tables e below (s₁.setTop (mkF m 15 #[.val (.ref o0), .val (.ref o1), .val (.int p2), .val (.int (p2 &&& (7 : Int32)))] [])) _
        refine XS.aloadN X0.here hx rfl (hb hby d7_15) rfl rfl ?_
        show Steps p.tables e below (s₁.setTop (mkF m 16 #[.val (.ref o0), .val (.ref o1), .val (.int p2), .val (.int (p2 &&& (7 : Int32)))] [(.ref o0)])) _
        refine st8.trans ?_
        show Steps p.tables e below (T8.setTop (mkF m 19 #[.val (.ref o0), .val (.ref o1), .val (.int p2), .val (.int (p2 &&& (7 : Int32)))] [])) _
        refine XS.aloadN X8.here hx rfl (hb hby d7_19) rfl rfl ?_
        show Steps p.tables e below (T8.setTop (mkF m 20 #[.val (.ref o0), .val (.ref o1), .val (.int p2), .val (.int (p2 &&& (7 : Int32)))] [(.ref o1)])) _
        refine XS.iconst X8.here hx rfl (hb hby d7_20) ?_
        show Steps p.tables e below (T8.setTop (mkF m 21 #[.val (.ref o0), .val (.ref o1), .val (.int p2), .val (.int (p2 &&& (7 : Int32)))] [(.int (0 : Int32)), (.ref o1)])) _
        refine XS.iconst X8.here hx rfl (hb hby d7_21) ?_
        show Steps p.tables e below (T8.setTop (mkF m 22 #[.val (.ref o0), .val (.ref o1), .val (.int p2), .val (.int (p2 &&& (7 : Int32)))] [(.int (1 : Int32)), (.int (0 : Int32)), (.ref o1)])) _
        refine st13 _ ?_
        show Steps p.tables e below (T13.setTop (mkF m 23 #[.val (.ref o0), .val (.ref o1), .val (.int p2), .val (.int (p2 &&& (7 : Int32)))] [])) _
        refine XS.goto X13.here hx rfl (pc0 := 23) (pc' := 126) rfl (hb hby d7_23) (by decide) (by decide) ?_
        exact kt
      · refine ⟨s₁, h0, _, (X0.mono (by decide) (by decide)), e0, N0, (Keep.refl h0 [o1, o0, u1]), (by rw [hj7_5_0, if_pos hc6_4, if_neg hc12_7]; exact V_o1), F_undo_o0, (by rw [hj7_5_inProgress, if_pos hc6_4, if_neg hc12_7]; exact F_inProgress_o0), (by rw [hj7_5_installing, if_pos hc6_4, if_neg hc12_7]; exact F_installing_o0), F_inProgressFrom_o0, (by rw [hj7_5_modCount, if_pos hc6_4, if_neg hc12_7]; exact F_modCount_u1), F_size_u1, F_elementData_u1, fun t kt => ?_⟩
        refine pre6 t ?_
        show Steps p.tables e below (s₁.setTop (mkF m 12 #[.val (.ref o0), .val (.ref o1), .val (.int p2), .val (.int (p2 &&& (7 : Int32)))] [(.int (F 0))])) _
        refine XS.ifYes X0.here hx rfl (pc0 := 12) (pc' := 126) rfl (hb hby d7_12) rfl ((if0 _ _).trans (feq hc12_7).2) (by decide) (by decide) ?_
        exact kt
    · have pre17 : ∀ t, Steps p.tables e below (s₁.setTop (mkF m 28 #[.val (.ref o0), .val (.ref o1), .val (.int p2), .val (.int (p2 &&& (7 : Int32)))] [(.int (1 : Int32)), (.int (p2 &&& (7 : Int32)))])) t → Steps p.tables e below (s₁.setTop (entryFrame m #[(.ref o0), (.ref o1), (.int p2)] 4)) t := fun t kt => pre3 t (by
          show Steps p.tables e below (s₁.setTop (mkF m 6 #[.val (.ref o0), .val (.ref o1), .val (.int p2), .val (.int (p2 &&& (7 : Int32)))] [(.int (p2 &&& (7 : Int32)))])) _
          refine XS.ifYes X0.here hx rfl (pc0 := 6) (pc' := 26) rfl (hb hby d7_6) rfl ((if0 _ _).trans (feq hc6_4).2) (by decide) (by decide) ?_
          show Steps p.tables e below (s₁.setTop (mkF m 26 #[.val (.ref o0), .val (.ref o1), .val (.int p2), .val (.int (p2 &&& (7 : Int32)))] [])) _
          refine XS.iloadN X0.here hx rfl (hb hby d7_26) rfl ?_
          show Steps p.tables e below (s₁.setTop (mkF m 27 #[.val (.ref o0), .val (.ref o1), .val (.int p2), .val (.int (p2 &&& (7 : Int32)))] [(.int (p2 &&& (7 : Int32)))])) _
          refine XS.iconst X0.here hx rfl (hb hby d7_27) ?_
          exact kt)
      by_cases hc28_18 : (p2 &&& (7 : Int32)) = (1 : Int32)
      · obtain ⟨cl19, Ar19, Sz19, Nn19, Hs19⟩ := id V_o1
        have hin19 : ¬ ((0 : Int32) < 0 ∨ cl19.slots.size ≤ ((0 : Int32)).toNatClampNeg) := inb_of Sz19 ⟨by decide, by decide⟩
        have hat19 : cl19.slots[((0 : Int32)).toNatClampNeg]? = some (.int (F 0)) := (Hs19 _ (own_lt hin19)).1
        have pre20 : ∀ t, Steps p.tables e below (s₁.setTop (mkF m 34 #[.val (.ref o0), .val (.ref o1), .val (.int p2), .val (.int (p2 &&& (7 : Int32)))] [(.int (F 0))])) t → Steps p.tables e below (s₁.setTop (entryFrame m #[(.ref o0), (.ref o1), (.int p2)] 4)) t := fun t kt => pre17 t (by
            show Steps p.tables e below (s₁.setTop (mkF m 28 #[.val (.ref o0), .val (.ref o1), .val (.int p2), .val (.int (p2 &&& (7 : Int32)))] [(.int (1 : Int32)), (.int (p2 &&& (7 : Int32)))])) _
            refine XS.icmpNo X0.here hx rfl (hb hby d7_28) rfl (teq hc28_18).2 ?_
            show Steps p.tables e below (s₁.setTop (mkF m 31 #[.val (.ref o0), .val (.ref o1), .val (.int p2), .val (.int (p2 &&& (7 : Int32)))] [])) _
            refine XS.aloadN X0.here hx rfl (hb hby d7_31) rfl rfl ?_
            show Steps p.tables e below (s₁.setTop (mkF m 32 #[.val (.ref o0), .val (.ref o1), .val (.int p2), .val (.int (p2 &&& (7 : Int32)))] [(.ref o1)])) _
            refine XS.iconst X0.here hx rfl (hb hby d7_32) ?_
            show Steps p.tables e below (s₁.setTop (mkF m 33 #[.val (.ref o0), .val (.ref o1), .val (.int p2), .val (.int (p2 &&& (7 : Int32)))] [(.int (0 : Int32)), (.ref o1)])) _
            refine X0.baloadBooleans hx (j := (0 : Int32)) (v := (.int (F 0))) (by rw [e0]; exact Ar19.1) (State.isArrayOf_alike hZ.alike Ar19.2.1) Ar19.2.2 hin19 hat19 (g := (mkF m 33 #[.val (.ref o0), .val (.ref o1), .val (.int p2), .val (.int (p2 &&& (7 : Int32)))] [(.int (0 : Int32)), (.ref o1)])) rfl rfl (hb hby d7_33) _ ?_
            exact kt)
        by_cases hc34_21 : (F 0) = (0 : Int32)
        · refine ⟨s₁, h0, _, (X0.mono (by decide) (by decide)), e0, N0, (Keep.refl h0 [o1, o0, u1]), (by rw [hj7_5_0, if_neg hc6_4, if_pos hc28_18, if_pos hc34_21]; exact V_o1), F_undo_o0, (by rw [hj7_5_inProgress, if_neg hc6_4, if_pos hc28_18, if_pos hc34_21]; exact F_inProgress_o0), (by rw [hj7_5_installing, if_neg hc6_4, if_pos hc28_18, if_pos hc34_21]; exact F_installing_o0), F_inProgressFrom_o0, (by rw [hj7_5_modCount, if_neg hc6_4, if_pos hc28_18, if_pos hc34_21]; exact F_modCount_u1), F_size_u1, F_elementData_u1, fun t kt => ?_⟩
          refine pre20 t ?_
          show Steps p.tables e below (s₁.setTop (mkF m 34 #[.val (.ref o0), .val (.ref o1), .val (.int p2), .val (.int (p2 &&& (7 : Int32)))] [(.int (F 0))])) _
          refine XS.ifYes X0.here hx rfl (pc0 := 34) (pc' := 126) rfl (hb hby d7_34) rfl ((if0 _ _).trans (teq hc34_21).1) (by decide) (by decide) ?_
          exact kt
        · obtain ⟨cq22, kq22, q22a, q22b, q22c⟩ := isOf hZ e0 E_o0
          obtain ⟨_, _, ⟨T22, L22, k22, n22⟩, -, X22, ⟨Lc22, hQ22, l22, y22, z22⟩, st22⟩ := X0.virtualBack hx (y := (⟨"com/example/cardhost/cardhost/Transactions", "commit", "()V"⟩ : MethodName)) (z := (⟨"com/example/cardhost/cardhost/Transactions", "commit", "()V"⟩ : MethodName)) hown (mvT hZ (hw _ (List.mem_of_getElem? (i := 172) rfl))) (mvT hZ (hw _ (List.mem_of_getElem? (i := 173) rfl))) (notFace_of_selects (args := #[]) (mvT hZ (hw _ (List.mem_of_getElem? (i := 175) rfl)))) (mvT hZ (hw _ (List.mem_of_getElem? (i := 175) rfl))) (mvT hZ (hw _ (List.mem_of_getElem? (i := 174) rfl))) (by decide) (backOf (W := 0) (rm25 l Z a0 hw [] o0 u1 ip ins mc es h0 n0 Z0 E_o0 F_undo_o0 F_inProgress_o0 F_installing_o0 F_inProgressFrom_o0 E_u1 F_modCount_u1 F_size_u1 F_elementData_u1 ne_o0_u1 g_o0 g_u1 (fun z => hc34_21 (hI.1.symm.trans z))) hZ (hw _ (List.mem_of_getElem? (i := 176) rfl)) (hw _ (List.mem_of_getElem? (i := 2) rfl)) (by decide) (by decide)) q22a q22c (g := (mkF m 38 #[.val (.ref o0), .val (.ref o1), .val (.int p2), .val (.int (p2 &&& (7 : Int32)))] [(.ref o0)])) rfl (by rw [hml]; rfl) (Steps.refl _) (argsL := []) (rest := []) (lenOf pd_7_0 rfl) rfl (by show 2 * 0 + _ ≤ _; exact Nat.le_of_eq rfl) (hb hby d7_38) (fun _ _ => ⟨rfl, e0, (by decide : 0 + 0 ≤ _), (by decide : 0 + 0 ≤ _)⟩)
          dsimp only [Pt.U, Pt.locs, Pt.cells, Pt.slots] at X22 l22 y22 z22 st22 hQ22
          subst l22 y22 z22
          obtain ⟨rfl, N22q, K22q, G22_0, G22_1, G22_2, G22_3, G22_4, G22_5, G22_6⟩ := hQ22
          have N22 := Fr.app N0 N22q
          have K23 : Keep h0 T22.heap [o0, o1, u1] := (Keep.refl h0 [o0, o1, u1]).trans K22q (allS (Or.inl (List.mem_of_getElem? (i := 2) rfl)) (allS (Or.inl (List.mem_of_getElem? (i := 0) rfl)) all0))
          have KL24 : Keep h0 T22.heap [o1, o0, u1] := (Keep.refl h0 [o1, o0, u1]).trans K22q (allS (Or.inl (List.mem_of_getElem? (i := 2) rfl)) (allS (Or.inl (List.mem_of_getElem? (i := 1) rfl)) all0))
          have Z25 : n0 ≤ T22.heap.size := Nat.le_trans Z0 K23.1
          obtain ⟨LS22, X22, N22⟩ : ∃ L, Stand p l e ({ frames := 7, cells := 1, slots := 5, locals := 102 } : Room) s m #[(.ref o0), (.ref o1), (.int p2)] below meth c T22 L 0 0 ∧ Fr n0 L := ⟨_, X22, N22⟩
          have c27 := (V_o1.keep K22q (ninS (Ne.symm ne_u1_o1) (ninS (Ne.symm ne_o0_o1) nin0)))
          obtain ⟨cl26, Ar26, Sz26, Nn26, Hs26⟩ := id c27
          have hin26 : ¬ ((0 : Int32) < 0 ∨ cl26.slots.size ≤ ((0 : Int32)).toNatClampNeg) := inb_of Sz26 ⟨by decide, by decide⟩
          obtain ⟨T28, h28, X28, e28, W28, st28⟩ := stZ X22 hx hZ rfl Ar26 (j := (0 : Int32)) hin26 (g := (mkF m 44 #[.val (.ref o0), .val (.ref o1), .val (.int p2), .val (.int (p2 &&& (7 : Int32)))] [(.int (0 : Int32)), (.int (0 : Int32)), (.ref o1)])) rfl rfl (hb hby d7_44)
          have V28 : own_AI Z h28 o1 .boolean (2 : Int32) (own_upd F 0 (0 : Int32)) := own_AI.set c27 (fits_nar_bool (0 : Int32)) W28
          have K29 : Keep h0 h28 [o0, o1, u1] := K23.wr W28 (Or.inl (List.mem_of_getElem? (i := 1) rfl))
          have KL30 : Keep h0 h28 [o1, o0, u1] := KL24.wr W28 (Or.inl (List.mem_of_getElem? (i := 0) rfl))
          have Z31 : n0 ≤ h28.size := Nat.le_trans Z0 K29.1
          have N28 := Fr.snoc X28 N22 g_o1
          obtain ⟨LS28, X28, N28⟩ : ∃ L, Stand p l e ({ frames := 7, cells := 1, slots := 5, locals := 102 } : Room) s m #[(.ref o0), (.ref o1), (.int p2)] below meth c T28 L 0 0 ∧ Fr n0 L := ⟨_, X28, N28⟩
          refine ⟨T28, h28, _, (X28.mono (by decide) (by decide)), e28, N28, KL30, (by rw [hj7_5_0, if_neg hc6_4, if_pos hc28_18, if_neg hc34_21]; exact V28), (G22_4.other W28 (Or.inl ne_o0_o1)), (by rw [hj7_5_inProgress, if_neg hc6_4, if_pos hc28_18, if_neg hc34_21]; exact (G22_3.other W28 (Or.inl ne_o0_o1))), (by rw [hj7_5_installing, if_neg hc6_4, if_pos hc28_18, if_neg hc34_21]; exact (G22_5.other W28 (Or.inl ne_o0_o1))), (G22_6.other W28 (Or.inl ne_o0_o1)), (by rw [hj7_5_modCount, if_neg hc6_4, if_pos hc28_18, if_neg hc34_21]; exact (G22_0.other W28 (Or.inl ne_u1_o1))), (G22_1.other W28 (Or.inl ne_u1_o1)), (G22_2.other W28 (Or.inl ne_u1_o1)), fun t kt => ?_⟩
          refine pre20 t ?_
          show Steps p.tables e below (s₁.setTop (mkF m 34 #[.val (.ref o0), .val (.ref o1), .val (.int p2), .val (.int (p2 &&& (7 : Int32)))] [(.int (F 0))])) _
          refine XS.ifNo X0.here hx rfl (hb hby d7_34) rfl ((if0 _ _).trans (feq hc34_21).1) ?_
          show Steps p.tables e below (s₁.setTop (mkF m 37 #[.val (.ref o0), .val (.ref o1), .val (.int p2), .val (.int (p2 &&& (7 : Int32)))] [])) _
          refine XS.aloadN X0.here hx rfl (hb hby d7_37) rfl rfl ?_
          show Steps p.tables e below (s₁.setTop (mkF m 38 #[.val (.ref o0), .val (.ref o1), .val (.int p2), .val (.int (p2 &&& (7 : Int32)))] [(.ref o0)])) _
          refine st22.trans ?_
          show Steps p.tables e below (T22.setTop (mkF m 41 #[.val (.ref o0), .val (.ref o1), .val (.int p2), .val (.int (p2 &&& (7 : Int32)))] [])) _
          refine XS.aloadN X22.here hx rfl (hb hby d7_41) rfl rfl ?_
          show Steps p.tables e below (T22.setTop (mkF m 42 #[.val (.ref o0), .val (.ref o1), .val (.int p2), .val (.int (p2 &&& (7 : Int32)))] [(.ref o1)])) _
          refine XS.iconst X22.here hx rfl (hb hby d7_42) ?_
          show Steps p.tables e below (T22.setTop (mkF m 43 #[.val (.ref o0), .val (.ref o1), .val (.int p2), .val (.int (p2 &&& (7 : Int32)))] [(.int (0 : Int32)), (.ref o1)])) _
          refine XS.iconst X22.here hx rfl (hb hby d7_43) ?_
          show Steps p.tables e below (T22.setTop (mkF m 44 #[.val (.ref o0), .val (.ref o1), .val (.int p2), .val (.int (p2 &&& (7 : Int32)))] [(.int (0 : Int32)), (.int (0 : Int32)), (.ref o1)])) _
          refine st28 _ ?_
          show Steps p.tables e below (T28.setTop (mkF m 45 #[.val (.ref o0), .val (.ref o1), .val (.int p2), .val (.int (p2 &&& (7 : Int32)))] [])) _
          refine XS.goto X28.here hx rfl (pc0 := 45) (pc' := 126) rfl (hb hby d7_45) (by decide) (by decide) ?_
          exact kt
      · have pre32 : ∀ t, Steps p.tables e below (s₁.setTop (mkF m 50 #[.val (.ref o0), .val (.ref o1), .val (.int p2), .val (.int (p2 &&& (7 : Int32)))] [(.int (2 : Int32)), (.int (p2 &&& (7 : Int32)))])) t → Steps p.tables e below (s₁.setTop (entryFrame m #[(.ref o0), (.ref o1), (.int p2)] 4)) t := fun t kt => pre17 t (by
            show Steps p.tables e below (s₁.setTop (mkF m 28 #[.val (.ref o0), .val (.ref o1), .val (.int p2), .val (.int (p2 &&& (7 : Int32)))] [(.int (1 : Int32)), (.int (p2 &&& (7 : Int32)))])) _
            refine XS.icmpYes X0.here hx rfl (pc0 := 28) (pc' := 48) rfl (hb hby d7_28) rfl (feq hc28_18).2 (by decide) (by decide) ?_
            show Steps p.tables e below (s₁.setTop (mkF m 48 #[.val (.ref o0), .val (.ref o1), .val (.int p2), .val (.int (p2 &&& (7 : Int32)))] [])) _
            refine XS.iloadN X0.here hx rfl (hb hby d7_48) rfl ?_
            show Steps p.tables e below (s₁.setTop (mkF m 49 #[.val (.ref o0), .val (.ref o1), .val (.int p2), .val (.int (p2 &&& (7 : Int32)))] [(.int (p2 &&& (7 : Int32)))])) _
            refine XS.iconst X0.here hx rfl (hb hby d7_49) ?_
            exact kt)
        by_cases hc50_33 : (p2 &&& (7 : Int32)) = (2 : Int32)
        · obtain ⟨cl34, Ar34, Sz34, Nn34, Hs34⟩ := id V_o1
          have hin34 : ¬ ((0 : Int32) < 0 ∨ cl34.slots.size ≤ ((0 : Int32)).toNatClampNeg) := inb_of Sz34 ⟨by decide, by decide⟩
          have hat34 : cl34.slots[((0 : Int32)).toNatClampNeg]? = some (.int (F 0)) := (Hs34 _ (own_lt hin34)).1
          have pre35 : ∀ t, Steps p.tables e below (s₁.setTop (mkF m 56 #[.val (.ref o0), .val (.ref o1), .val (.int p2), .val (.int (p2 &&& (7 : Int32)))] [(.int (F 0))])) t → Steps p.tables e below (s₁.setTop (entryFrame m #[(.ref o0), (.ref o1), (.int p2)] 4)) t := fun t kt => pre32 t (by
              show Steps p.tables e below (s₁.setTop (mkF m 50 #[.val (.ref o0), .val (.ref o1), .val (.int p2), .val (.int (p2 &&& (7 : Int32)))] [(.int (2 : Int32)), (.int (p2 &&& (7 : Int32)))])) _
              refine XS.icmpNo X0.here hx rfl (hb hby d7_50) rfl (teq hc50_33).2 ?_
              show Steps p.tables e below (s₁.setTop (mkF m 53 #[.val (.ref o0), .val (.ref o1), .val (.int p2), .val (.int (p2 &&& (7 : Int32)))] [])) _
              refine XS.aloadN X0.here hx rfl (hb hby d7_53) rfl rfl ?_
              show Steps p.tables e below (s₁.setTop (mkF m 54 #[.val (.ref o0), .val (.ref o1), .val (.int p2), .val (.int (p2 &&& (7 : Int32)))] [(.ref o1)])) _
              refine XS.iconst X0.here hx rfl (hb hby d7_54) ?_
              show Steps p.tables e below (s₁.setTop (mkF m 55 #[.val (.ref o0), .val (.ref o1), .val (.int p2), .val (.int (p2 &&& (7 : Int32)))] [(.int (0 : Int32)), (.ref o1)])) _
              refine X0.baloadBooleans hx (j := (0 : Int32)) (v := (.int (F 0))) (by rw [e0]; exact Ar34.1) (State.isArrayOf_alike hZ.alike Ar34.2.1) Ar34.2.2 hin34 hat34 (g := (mkF m 55 #[.val (.ref o0), .val (.ref o1), .val (.int p2), .val (.int (p2 &&& (7 : Int32)))] [(.int (0 : Int32)), (.ref o1)])) rfl rfl (hb hby d7_55) _ ?_
              exact kt)
          by_cases hc56_36 : (F 0) = (0 : Int32)
          · refine ⟨s₁, h0, _, (X0.mono (by decide) (by decide)), e0, N0, (Keep.refl h0 [o1, o0, u1]), (by rw [hj7_5_0, if_neg hc6_4, if_neg hc28_18, if_pos hc50_33, if_pos hc56_36]; exact V_o1), F_undo_o0, (by rw [hj7_5_inProgress, if_neg hc6_4, if_neg hc28_18, if_pos hc50_33, if_pos hc56_36]; exact F_inProgress_o0), (by rw [hj7_5_installing, if_neg hc6_4, if_neg hc28_18, if_pos hc50_33, if_pos hc56_36]; exact F_installing_o0), F_inProgressFrom_o0, (by rw [hj7_5_modCount, if_neg hc6_4, if_neg hc28_18, if_pos hc50_33, if_pos hc56_36]; exact F_modCount_u1), F_size_u1, F_elementData_u1, fun t kt => ?_⟩
            refine pre35 t ?_
            show Steps p.tables e below (s₁.setTop (mkF m 56 #[.val (.ref o0), .val (.ref o1), .val (.int p2), .val (.int (p2 &&& (7 : Int32)))] [(.int (F 0))])) _
            refine XS.ifYes X0.here hx rfl (pc0 := 56) (pc' := 126) rfl (hb hby d7_56) rfl ((if0 _ _).trans (teq hc56_36).1) (by decide) (by decide) ?_
            exact kt
          · obtain ⟨cq37, kq37, q37a, q37b, q37c⟩ := isOf hZ e0 E_o0
            obtain ⟨_, _, ⟨T37, L37, k37, n37⟩, -, X37, ⟨Lc37, hQ37, l37, y37, z37⟩, st37⟩ := X0.virtualBack hx (y := (⟨"com/example/cardhost/cardhost/Transactions", "abort", "()V"⟩ : MethodName)) (z := (⟨"com/example/cardhost/cardhost/Transactions", "abort", "()V"⟩ : MethodName)) hown (mvT hZ (hw _ (List.mem_of_getElem? (i := 67) rfl))) (mvT hZ (hw _ (List.mem_of_getElem? (i := 68) rfl))) (notFace_of_selects (args := #[]) (mvT hZ (hw _ (List.mem_of_getElem? (i := 70) rfl)))) (mvT hZ (hw _ (List.mem_of_getElem? (i := 70) rfl))) (mvT hZ (hw _ (List.mem_of_getElem? (i := 69) rfl))) (by decide) (backOf (W := 0) (rm10 l Z a0 hw [] o0 u1 ip ins mc es h0 n0 Z0 E_o0 F_undo_o0 F_inProgress_o0 F_installing_o0 F_inProgressFrom_o0 E_u1 F_modCount_u1 F_size_u1 F_elementData_u1 ne_o0_u1 g_o0 g_u1 V_es ne_es_o0 ne_es_u1 (fun z => hc56_36 (hI.1.symm.trans z))) hZ (hw _ (List.mem_of_getElem? (i := 71) rfl)) (hw _ (List.mem_of_getElem? (i := 2) rfl)) (by decide) (by decide)) q37a q37c (g := (mkF m 60 #[.val (.ref o0), .val (.ref o1), .val (.int p2), .val (.int (p2 &&& (7 : Int32)))] [(.ref o0)])) rfl (by rw [hml]; rfl) (Steps.refl _) (argsL := []) (rest := []) (lenOf pd_7_0 rfl) rfl (by show 2 * 0 + _ ≤ _; exact Nat.le_of_eq rfl) (hb hby d7_60) (fun _ _ => ⟨rfl, e0, (by decide : 0 + 1 ≤ _), (by decide : 0 + 5 ≤ _)⟩)
            dsimp only [Pt.U, Pt.locs, Pt.cells, Pt.slots] at X37 l37 y37 z37 st37 hQ37
            subst l37 y37 z37
            obtain ⟨rfl, N37q, K37q, G37_0, G37_1, G37_2, G37_3, G37_4, G37_5, G37_6⟩ := hQ37
            have N37 := Fr.app N0 N37q
            have K38 : Keep h0 T37.heap [o0, o1, u1] := (Keep.refl h0 [o0, o1, u1]).trans K37q (allS (Or.inl (List.mem_of_getElem? (i := 2) rfl)) (allS (Or.inl (List.mem_of_getElem? (i := 0) rfl)) all0))
            have KL39 : Keep h0 T37.heap [o1, o0, u1] := (Keep.refl h0 [o1, o0, u1]).trans K37q (allS (Or.inl (List.mem_of_getElem? (i := 2) rfl)) (allS (Or.inl (List.mem_of_getElem? (i := 1) rfl)) all0))
            have Z40 : n0 ≤ T37.heap.size := Nat.le_trans Z0 K38.1
            obtain ⟨LS37, X37, N37⟩ : ∃ L, Stand p l e ({ frames := 7, cells := 1, slots := 5, locals := 102 } : Room) s m #[(.ref o0), (.ref o1), (.int p2)] below meth c T37 L 1 5 ∧ Fr n0 L := ⟨_, X37, N37⟩
            have c42 := (V_o1.keep K37q (ninS (Ne.symm ne_u1_o1) (ninS (Ne.symm ne_o0_o1) nin0)))
            obtain ⟨cl41, Ar41, Sz41, Nn41, Hs41⟩ := id c42
            have hin41 : ¬ ((0 : Int32) < 0 ∨ cl41.slots.size ≤ ((0 : Int32)).toNatClampNeg) := inb_of Sz41 ⟨by decide, by decide⟩
            obtain ⟨T43, h43, X43, e43, W43, st43⟩ := stZ X37 hx hZ rfl Ar41 (j := (0 : Int32)) hin41 (g := (mkF m 66 #[.val (.ref o0), .val (.ref o1), .val (.int p2), .val (.int (p2 &&& (7 : Int32)))] [(.int (0 : Int32)), (.int (0 : Int32)), (.ref o1)])) rfl rfl (hb hby d7_66)
            have V43 : own_AI Z h43 o1 .boolean (2 : Int32) (own_upd F 0 (0 : Int32)) := own_AI.set c42 (fits_nar_bool (0 : Int32)) W43
            have K44 : Keep h0 h43 [o0, o1, u1] := K38.wr W43 (Or.inl (List.mem_of_getElem? (i := 1) rfl))
            have KL45 : Keep h0 h43 [o1, o0, u1] := KL39.wr W43 (Or.inl (List.mem_of_getElem? (i := 0) rfl))
            have Z46 : n0 ≤ h43.size := Nat.le_trans Z0 K44.1
            have N43 := Fr.snoc X43 N37 g_o1
            obtain ⟨LS43, X43, N43⟩ : ∃ L, Stand p l e ({ frames := 7, cells := 1, slots := 5, locals := 102 } : Room) s m #[(.ref o0), (.ref o1), (.int p2)] below meth c T43 L 1 5 ∧ Fr n0 L := ⟨_, X43, N43⟩
            refine ⟨T43, h43, _, X43, e43, N43, KL45, (by rw [hj7_5_0, if_neg hc6_4, if_neg hc28_18, if_pos hc50_33, if_neg hc56_36]; exact V43), (G37_4.other W43 (Or.inl ne_o0_o1)), (by rw [hj7_5_inProgress, if_neg hc6_4, if_neg hc28_18, if_pos hc50_33, if_neg hc56_36]; exact (G37_3.other W43 (Or.inl ne_o0_o1))), (by rw [hj7_5_installing, if_neg hc6_4, if_neg hc28_18, if_pos hc50_33, if_neg hc56_36]; exact (G37_5.other W43 (Or.inl ne_o0_o1))), (G37_6.other W43 (Or.inl ne_o0_o1)), (by rw [hj7_5_modCount, if_neg hc6_4, if_neg hc28_18, if_pos hc50_33, if_neg hc56_36]; exact (G37_0.other W43 (Or.inl ne_u1_o1))), (G37_1.other W43 (Or.inl ne_u1_o1)), (G37_2.other W43 (Or.inl ne_u1_o1)), fun t kt => ?_⟩
            refine pre35 t ?_
            show Steps p.tables e below (s₁.setTop (mkF m 56 #[.val (.ref o0), .val (.ref o1), .val (.int p2), .val (.int (p2 &&& (7 : Int32)))] [(.int (F 0))])) _
            refine XS.ifNo X0.here hx rfl (hb hby d7_56) rfl ((if0 _ _).trans (feq hc56_36).1) ?_
            show Steps p.tables e below (s₁.setTop (mkF m 59 #[.val (.ref o0), .val (.ref o1), .val (.int p2), .val (.int (p2 &&& (7 : Int32)))] [])) _
            refine XS.aloadN X0.here hx rfl (hb hby d7_59) rfl rfl ?_
            show Steps p.tables e below (s₁.setTop (mkF m 60 #[.val (.ref o0), .val (.ref o1), .val (.int p2), .val (.int (p2 &&& (7 : Int32)))] [(.ref o0)])) _
            refine st37.trans ?_
            show Steps p.tables e below (T37.setTop (mkF m 63 #[.val (.ref o0), .val (.ref o1), .val (.int p2), .val (.int (p2 &&& (7 : Int32)))] [])) _
            refine XS.aloadN X37.here hx rfl (hb hby d7_63) rfl rfl ?_
            show Steps p.tables e below (T37.setTop (mkF m 64 #[.val (.ref o0), .val (.ref o1), .val (.int p2), .val (.int (p2 &&& (7 : Int32)))] [(.ref o1)])) _
            refine XS.iconst X37.here hx rfl (hb hby d7_64) ?_
            show Steps p.tables e below (T37.setTop (mkF m 65 #[.val (.ref o0), .val (.ref o1), .val (.int p2), .val (.int (p2 &&& (7 : Int32)))] [(.int (0 : Int32)), (.ref o1)])) _
            refine XS.iconst X37.here hx rfl (hb hby d7_65) ?_
            show Steps p.tables e below (T37.setTop (mkF m 66 #[.val (.ref o0), .val (.ref o1), .val (.int p2), .val (.int (p2 &&& (7 : Int32)))] [(.int (0 : Int32)), (.int (0 : Int32)), (.ref o1)])) _
            refine st43 _ ?_
            show Steps p.tables e below (T43.setTop (mkF m 67 #[.val (.ref o0), .val (.ref o1), .val (.int p2), .val (.int (p2 &&& (7 : Int32)))] [])) _
            refine XS.goto X43.here hx rfl (pc0 := 67) (pc' := 126) rfl (hb hby d7_67) (by decide) (by decide) ?_
            exact kt
        · have pre47 : ∀ t, Steps p.tables e below (s₁.setTop (mkF m 72 #[.val (.ref o0), .val (.ref o1), .val (.int p2), .val (.int (p2 &&& (7 : Int32)))] [(.int (3 : Int32)), (.int (p2 &&& (7 : Int32)))])) t → Steps p.tables e below (s₁.setTop (entryFrame m #[(.ref o0), (.ref o1), (.int p2)] 4)) t := fun t kt => pre32 t (by
              show Steps p.tables e below (s₁.setTop (mkF m 50 #[.val (.ref o0), .val (.ref o1), .val (.int p2), .val (.int (p2 &&& (7 : Int32)))] [(.int (2 : Int32)), (.int (p2 &&& (7 : Int32)))])) _
              refine XS.icmpYes X0.here hx rfl (pc0 := 50) (pc' := 70) rfl (hb hby d7_50) rfl (feq hc50_33).2 (by decide) (by decide) ?_
              show Steps p.tables e below (s₁.setTop (mkF m 70 #[.val (.ref o0), .val (.ref o1), .val (.int p2), .val (.int (p2 &&& (7 : Int32)))] [])) _
              refine XS.iloadN X0.here hx rfl (hb hby d7_70) rfl ?_
              show Steps p.tables e below (s₁.setTop (mkF m 71 #[.val (.ref o0), .val (.ref o1), .val (.int p2), .val (.int (p2 &&& (7 : Int32)))] [(.int (p2 &&& (7 : Int32)))])) _
              refine XS.iconst X0.here hx rfl (hb hby d7_71) ?_
              exact kt)
          by_cases hc72_48 : (p2 &&& (7 : Int32)) = (3 : Int32)
          · obtain ⟨cl49, Ar49, Sz49, Nn49, Hs49⟩ := id V_o1
            have hin49 : ¬ ((0 : Int32) < 0 ∨ cl49.slots.size ≤ ((0 : Int32)).toNatClampNeg) := inb_of Sz49 ⟨by decide, by decide⟩
            have hat49 : cl49.slots[((0 : Int32)).toNatClampNeg]? = some (.int (F 0)) := (Hs49 _ (own_lt hin49)).1
            have pre50 : ∀ t, Steps p.tables e below (s₁.setTop (mkF m 78 #[.val (.ref o0), .val (.ref o1), .val (.int p2), .val (.int (p2 &&& (7 : Int32)))] [(.int (F 0))])) t → Steps p.tables e below (s₁.setTop (entryFrame m #[(.ref o0), (.ref o1), (.int p2)] 4)) t := fun t kt => pre47 t (by
                show Steps p.tables e below (s₁.setTop (mkF m 72 #[.val (.ref o0), .val (.ref o1), .val (.int p2), .val (.int (p2 &&& (7 : Int32)))] [(.int (3 : Int32)), (.int (p2 &&& (7 : Int32)))])) _
                refine XS.icmpNo X0.here hx rfl (hb hby d7_72) rfl (teq hc72_48).2 ?_
                show Steps p.tables e below (s₁.setTop (mkF m 75 #[.val (.ref o0), .val (.ref o1), .val (.int p2), .val (.int (p2 &&& (7 : Int32)))] [])) _
                refine XS.aloadN X0.here hx rfl (hb hby d7_75) rfl rfl ?_
                show Steps p.tables e below (s₁.setTop (mkF m 76 #[.val (.ref o0), .val (.ref o1), .val (.int p2), .val (.int (p2 &&& (7 : Int32)))] [(.ref o1)])) _
                refine XS.iconst X0.here hx rfl (hb hby d7_76) ?_
                show Steps p.tables e below (s₁.setTop (mkF m 77 #[.val (.ref o0), .val (.ref o1), .val (.int p2), .val (.int (p2 &&& (7 : Int32)))] [(.int (0 : Int32)), (.ref o1)])) _
                refine X0.baloadBooleans hx (j := (0 : Int32)) (v := (.int (F 0))) (by rw [e0]; exact Ar49.1) (State.isArrayOf_alike hZ.alike Ar49.2.1) Ar49.2.2 hin49 hat49 (g := (mkF m 77 #[.val (.ref o0), .val (.ref o1), .val (.int p2), .val (.int (p2 &&& (7 : Int32)))] [(.int (0 : Int32)), (.ref o1)])) rfl rfl (hb hby d7_77) _ ?_
                exact kt)
            by_cases hc78_51 : (F 0) = (0 : Int32)
            · obtain ⟨cq52, kq52, q52a, q52b, q52c⟩ := isOf hZ e0 E_o0
              obtain ⟨_, _, ⟨T52, L52, k52, n52⟩, -, X52, ⟨Lc52, hQ52, l52, y52, z52⟩, st52⟩ := X0.virtualBack hx (y := (⟨"com/example/cardhost/cardhost/Transactions", "beginInstallation", "()V"⟩ : MethodName)) (z := (⟨"com/example/cardhost/cardhost/Transactions", "beginInstallation", "()V"⟩ : MethodName)) hown (mvT hZ (hw _ (List.mem_of_getElem? (i := 167) rfl))) (mvT hZ (hw _ (List.mem_of_getElem? (i := 168) rfl))) (notFace_of_selects (args := #[]) (mvT hZ (hw _ (List.mem_of_getElem? (i := 170) rfl)))) (mvT hZ (hw _ (List.mem_of_getElem? (i := 170) rfl))) (mvT hZ (hw _ (List.mem_of_getElem? (i := 169) rfl))) (by decide) (backOf (W := 0) (rm24 l Z a0 hw [] o0 u1 ip ins mc es h0 n0 Z0 E_o0 F_undo_o0 F_inProgress_o0 F_installing_o0 F_inProgressFrom_o0 E_u1 F_modCount_u1 F_size_u1 F_elementData_u1 ne_o0_u1 g_o0 g_u1) hZ (hw _ (List.mem_of_getElem? (i := 171) rfl)) (hw _ (List.mem_of_getElem? (i := 2) rfl)) (by decide) (by decide)) q52a q52c (g := (mkF m 82 #[.val (.ref o0), .val (.ref o1), .val (.int p2), .val (.int (p2 &&& (7 : Int32)))] [(.ref o0)])) rfl (by rw [hml]; rfl) (Steps.refl _) (argsL := []) (rest := []) (lenOf pd_7_0 rfl) rfl (by show 2 * 0 + _ ≤ _; exact Nat.le_of_eq rfl) (hb hby d7_82) (fun _ _ => ⟨rfl, e0, (by decide : 0 + 0 ≤ _), (by decide : 0 + 0 ≤ _)⟩)
              dsimp only [Pt.U, Pt.locs, Pt.cells, Pt.slots] at X52 l52 y52 z52 st52 hQ52
              subst l52 y52 z52
              obtain ⟨rfl, N52q, K52q, G52_0, G52_1, G52_2, G52_3, G52_4, G52_5, G52_6⟩ := hQ52
              have N52 := Fr.app N0 N52q
              have K53 : Keep h0 T52.heap [o0, o1, u1] := (Keep.refl h0 [o0, o1, u1]).trans K52q (allS (Or.inl (List.mem_of_getElem? (i := 0) rfl)) all0)
              have KL54 : Keep h0 T52.heap [o1, o0, u1] := (Keep.refl h0 [o1, o0, u1]).trans K52q (allS (Or.inl (List.mem_of_getElem? (i := 1) rfl)) all0)
              have Z55 : n0 ≤ T52.heap.size := Nat.le_trans Z0 K53.1
              obtain ⟨LS52, X52, N52⟩ : ∃ L, Stand p l e ({ frames := 7, cells := 1, slots := 5, locals := 102 } : Room) s m #[(.ref o0), (.ref o1), (.int p2)] below meth c T52 L 0 0 ∧ Fr n0 L := ⟨_, X52, N52⟩
              obtain ⟨cl56, Ar56, Sz56, Nn56, Hs56⟩ := id (V_o1.keep K52q (ninS (Ne.symm ne_o0_o1) nin0))
              have hin56 : ¬ ((1 : Int32) < 0 ∨ cl56.slots.size ≤ ((1 : Int32)).toNatClampNeg) := inb_of Sz56 ⟨by decide, by decide⟩
              obtain ⟨T57, h57, X57, e57, W57, st57⟩ := stZ X52 hx hZ rfl Ar56 (j := (1 : Int32)) hin56 (g := (mkF m 88 #[.val (.ref o0), .val (.ref o1), .val (.int p2), .val (.int (p2 &&& (7 : Int32)))] [(.int (1 : Int32)), (.int (1 : Int32)), (.ref o1)])) rfl rfl (hb hby d7_88)
              have V57 : own_AI Z h57 o1 .boolean (2 : Int32) (own_upd F 1 (1 : Int32)) := own_AI.set (V_o1.keep K52q (ninS (Ne.symm ne_o0_o1) nin0)) (fits_nar_bool (1 : Int32)) W57
              have K58 : Keep h0 h57 [o0, o1, u1] := K53.wr W57 (Or.inl (List.mem_of_getElem? (i := 1) rfl))
              have KL59 : Keep h0 h57 [o1, o0, u1] := KL54.wr W57 (Or.inl (List.mem_of_getElem? (i := 0) rfl))
              have Z60 : n0 ≤ h57.size := Nat.le_trans Z0 K58.1
              have N57 := Fr.snoc X57 N52 g_o1
              obtain ⟨LS57, X57, N57⟩ : ∃ L, Stand p l e ({ frames := 7, cells := 1, slots := 5, locals := 102 } : Room) s m #[(.ref o0), (.ref o1), (.int p2)] below meth c T57 L 0 0 ∧ Fr n0 L := ⟨_, X57, N57⟩
              refine ⟨T57, h57, _, (X57.mono (by decide) (by decide)), e57, N57, KL59, (by rw [hj7_5_0, if_neg hc6_4, if_neg hc28_18, if_neg hc50_33, if_pos hc72_48, if_pos hc78_51]; exact V57), (G52_1.other W57 (Or.inl ne_o0_o1)), (by rw [hj7_5_inProgress, if_neg hc6_4, if_neg hc28_18, if_neg hc50_33, if_pos hc72_48, if_pos hc78_51]; exact (G52_2.other W57 (Or.inl ne_o0_o1))), (by rw [hj7_5_installing, if_neg hc6_4, if_neg hc28_18, if_neg hc50_33, if_pos hc72_48, if_pos hc78_51]; exact (G52_0.other W57 (Or.inl ne_o0_o1))), (G52_3.other W57 (Or.inl ne_o0_o1)), (by rw [hj7_5_modCount, if_neg hc6_4, if_neg hc28_18, if_neg hc50_33, if_pos hc72_48, if_pos hc78_51]; exact (G52_4.other W57 (Or.inl ne_u1_o1))), (G52_5.other W57 (Or.inl ne_u1_o1)), (G52_6.other W57 (Or.inl ne_u1_o1)), fun t kt => ?_⟩
              refine pre50 t ?_
              show Steps p.tables e below (s₁.setTop (mkF m 78 #[.val (.ref o0), .val (.ref o1), .val (.int p2), .val (.int (p2 &&& (7 : Int32)))] [(.int (F 0))])) _
              refine XS.ifNo X0.here hx rfl (hb hby d7_78) rfl ((if0 _ _).trans (teq hc78_51).2) ?_
              show Steps p.tables e below (s₁.setTop (mkF m 81 #[.val (.ref o0), .val (.ref o1), .val (.int p2), .val (.int (p2 &&& (7 : Int32)))] [])) _
              refine XS.aloadN X0.here hx rfl (hb hby d7_81) rfl rfl ?_
              show Steps p.tables e below (s₁.setTop (mkF m 82 #[.val (.ref o0), .val (.ref o1), .val (.int p2), .val (.int (p2 &&& (7 : Int32)))] [(.ref o0)])) _
              refine st52.trans ?_
              show Steps p.tables e below (T52.setTop (mkF m 85 #[.val (.ref o0), .val (.ref o1), .val (.int p2), .val (.int (p2 &&& (7 : Int32)))] [])) _
              refine XS.aloadN X52.here hx rfl (hb hby d7_85) rfl rfl ?_
              show Steps p.tables e below (T52.setTop (mkF m 86 #[.val (.ref o0), .val (.ref o1), .val (.int p2), .val (.int (p2 &&& (7 : Int32)))] [(.ref o1)])) _
              refine XS.iconst X52.here hx rfl (hb hby d7_86) ?_
              show Steps p.tables e below (T52.setTop (mkF m 87 #[.val (.ref o0), .val (.ref o1), .val (.int p2), .val (.int (p2 &&& (7 : Int32)))] [(.int (1 : Int32)), (.ref o1)])) _
              refine XS.iconst X52.here hx rfl (hb hby d7_87) ?_
              show Steps p.tables e below (T52.setTop (mkF m 88 #[.val (.ref o0), .val (.ref o1), .val (.int p2), .val (.int (p2 &&& (7 : Int32)))] [(.int (1 : Int32)), (.int (1 : Int32)), (.ref o1)])) _
              refine st57 _ ?_
              show Steps p.tables e below (T57.setTop (mkF m 89 #[.val (.ref o0), .val (.ref o1), .val (.int p2), .val (.int (p2 &&& (7 : Int32)))] [])) _
              refine XS.goto X57.here hx rfl (pc0 := 89) (pc' := 126) rfl (hb hby d7_89) (by decide) (by decide) ?_
              exact kt
            · refine ⟨s₁, h0, _, (X0.mono (by decide) (by decide)), e0, N0, (Keep.refl h0 [o1, o0, u1]), (by rw [hj7_5_0, if_neg hc6_4, if_neg hc28_18, if_neg hc50_33, if_pos hc72_48, if_neg hc78_51]; exact V_o1), F_undo_o0, (by rw [hj7_5_inProgress, if_neg hc6_4, if_neg hc28_18, if_neg hc50_33, if_pos hc72_48, if_neg hc78_51]; exact F_inProgress_o0), (by rw [hj7_5_installing, if_neg hc6_4, if_neg hc28_18, if_neg hc50_33, if_pos hc72_48, if_neg hc78_51]; exact F_installing_o0), F_inProgressFrom_o0, (by rw [hj7_5_modCount, if_neg hc6_4, if_neg hc28_18, if_neg hc50_33, if_pos hc72_48, if_neg hc78_51]; exact F_modCount_u1), F_size_u1, F_elementData_u1, fun t kt => ?_⟩
              refine pre50 t ?_
              show Steps p.tables e below (s₁.setTop (mkF m 78 #[.val (.ref o0), .val (.ref o1), .val (.int p2), .val (.int (p2 &&& (7 : Int32)))] [(.int (F 0))])) _
              refine XS.ifYes X0.here hx rfl (pc0 := 78) (pc' := 126) rfl (hb hby d7_78) rfl ((if0 _ _).trans (feq hc78_51).2) (by decide) (by decide) ?_
              exact kt
          · have pre61 : ∀ t, Steps p.tables e below (s₁.setTop (mkF m 94 #[.val (.ref o0), .val (.ref o1), .val (.int p2), .val (.int (p2 &&& (7 : Int32)))] [(.int (4 : Int32)), (.int (p2 &&& (7 : Int32)))])) t → Steps p.tables e below (s₁.setTop (entryFrame m #[(.ref o0), (.ref o1), (.int p2)] 4)) t := fun t kt => pre47 t (by
                show Steps p.tables e below (s₁.setTop (mkF m 72 #[.val (.ref o0), .val (.ref o1), .val (.int p2), .val (.int (p2 &&& (7 : Int32)))] [(.int (3 : Int32)), (.int (p2 &&& (7 : Int32)))])) _
                refine XS.icmpYes X0.here hx rfl (pc0 := 72) (pc' := 92) rfl (hb hby d7_72) rfl (feq hc72_48).2 (by decide) (by decide) ?_
                show Steps p.tables e below (s₁.setTop (mkF m 92 #[.val (.ref o0), .val (.ref o1), .val (.int p2), .val (.int (p2 &&& (7 : Int32)))] [])) _
                refine XS.iloadN X0.here hx rfl (hb hby d7_92) rfl ?_
                show Steps p.tables e below (s₁.setTop (mkF m 93 #[.val (.ref o0), .val (.ref o1), .val (.int p2), .val (.int (p2 &&& (7 : Int32)))] [(.int (p2 &&& (7 : Int32)))])) _
                refine XS.iconst X0.here hx rfl (hb hby d7_93) ?_
                exact kt)
            by_cases hc94_62 : (p2 &&& (7 : Int32)) = (4 : Int32)
            · obtain ⟨cl63, Ar63, Sz63, Nn63, Hs63⟩ := id V_o1
              have hin63 : ¬ ((0 : Int32) < 0 ∨ cl63.slots.size ≤ ((0 : Int32)).toNatClampNeg) := inb_of Sz63 ⟨by decide, by decide⟩
              have hat63 : cl63.slots[((0 : Int32)).toNatClampNeg]? = some (.int (F 0)) := (Hs63 _ (own_lt hin63)).1
              have pre64 : ∀ t, Steps p.tables e below (s₁.setTop (mkF m 105 #[.val (.ref o0), .val (.ref o1), .val (.int p2), .val (.int (p2 &&& (7 : Int32)))] [(.int (F 0))])) t → Steps p.tables e below (s₁.setTop (entryFrame m #[(.ref o0), (.ref o1), (.int p2)] 4)) t := fun t kt => pre61 t (by
                  show Steps p.tables e below (s₁.setTop (mkF m 94 #[.val (.ref o0), .val (.ref o1), .val (.int p2), .val (.int (p2 &&& (7 : Int32)))] [(.int (4 : Int32)), (.int (p2 &&& (7 : Int32)))])) _
                  refine XS.icmpYes X0.here hx rfl (pc0 := 94) (pc' := 102) rfl (hb hby d7_94) rfl (teq hc94_62).1 (by decide) (by decide) ?_
                  show Steps p.tables e below (s₁.setTop (mkF m 102 #[.val (.ref o0), .val (.ref o1), .val (.int p2), .val (.int (p2 &&& (7 : Int32)))] [])) _
                  refine XS.aloadN X0.here hx rfl (hb hby d7_102) rfl rfl ?_
                  show Steps p.tables e below (s₁.setTop (mkF m 103 #[.val (.ref o0), .val (.ref o1), .val (.int p2), .val (.int (p2 &&& (7 : Int32)))] [(.ref o1)])) _
                  refine XS.iconst X0.here hx rfl (hb hby d7_103) ?_
                  show Steps p.tables e below (s₁.setTop (mkF m 104 #[.val (.ref o0), .val (.ref o1), .val (.int p2), .val (.int (p2 &&& (7 : Int32)))] [(.int (0 : Int32)), (.ref o1)])) _
                  refine X0.baloadBooleans hx (j := (0 : Int32)) (v := (.int (F 0))) (by rw [e0]; exact Ar63.1) (State.isArrayOf_alike hZ.alike Ar63.2.1) Ar63.2.2 hin63 hat63 (g := (mkF m 104 #[.val (.ref o0), .val (.ref o1), .val (.int p2), .val (.int (p2 &&& (7 : Int32)))] [(.int (0 : Int32)), (.ref o1)])) rfl rfl (hb hby d7_104) _ ?_
                  exact kt)
              by_cases hc105_65 : (F 0) = (0 : Int32)
              · have pre66 : ∀ t, Steps p.tables e below (s₁.setTop (mkF m 111 #[.val (.ref o0), .val (.ref o1), .val (.int p2), .val (.int (p2 &&& (7 : Int32)))] [(.int (4 : Int32)), (.int (p2 &&& (7 : Int32))), (.ref o0)])) t → Steps p.tables e below (s₁.setTop (entryFrame m #[(.ref o0), (.ref o1), (.int p2)] 4)) t := fun t kt => pre64 t (by
                    show Steps p.tables e below (s₁.setTop (mkF m 105 #[.val (.ref o0), .val (.ref o1), .val (.int p2), .val (.int (p2 &&& (7 : Int32)))] [(.int (F 0))])) _
                    refine XS.ifNo X0.here hx rfl (hb hby d7_105) rfl ((if0 _ _).trans (teq hc105_65).2) ?_
                    show Steps p.tables e below (s₁.setTop (mkF m 108 #[.val (.ref o0), .val (.ref o1), .val (.int p2), .val (.int (p2 &&& (7 : Int32)))] [])) _
                    refine XS.aloadN X0.here hx rfl (hb hby d7_108) rfl rfl ?_
                    show Steps p.tables e below (s₁.setTop (mkF m 109 #[.val (.ref o0), .val (.ref o1), .val (.int p2), .val (.int (p2 &&& (7 : Int32)))] [(.ref o0)])) _
                    refine XS.iloadN X0.here hx rfl (hb hby d7_109) rfl ?_
                    show Steps p.tables e below (s₁.setTop (mkF m 110 #[.val (.ref o0), .val (.ref o1), .val (.int p2), .val (.int (p2 &&& (7 : Int32)))] [(.int (p2 &&& (7 : Int32))), (.ref o0)])) _
                    refine XS.iconst X0.here hx rfl (hb hby d7_110) ?_
                    exact kt)
                obtain ⟨cq67, kq67, q67a, q67b, q67c⟩ := isOf hZ e0 E_o0
                obtain ⟨_, _, ⟨T67, L67, k67, n67⟩, -, X67, ⟨Lc67, hQ67, l67, y67, z67⟩, st67⟩ := X0.virtualBack hx (y := (⟨"com/example/cardhost/cardhost/Transactions", "endInstallation", "(Z)V"⟩ : MethodName)) (z := (⟨"com/example/cardhost/cardhost/Transactions", "endInstallation", "(Z)V"⟩ : MethodName)) hown (mvT hZ (hw _ (List.mem_of_getElem? (i := 157) rfl))) (mvT hZ (hw _ (List.mem_of_getElem? (i := 158) rfl))) (notFace_of_selects (args := #[]) (mvT hZ (hw _ (List.mem_of_getElem? (i := 160) rfl)))) (mvT hZ (hw _ (List.mem_of_getElem? (i := 160) rfl))) (mvT hZ (hw _ (List.mem_of_getElem? (i := 159) rfl))) (by decide) (backOf (W := 0) (rm22 l Z a0 hw [] o0 (1 : Int32) u1 ip ins mc es h0 n0 Z0 E_o0 F_undo_o0 F_inProgress_o0 F_installing_o0 F_inProgressFrom_o0 E_u1 F_modCount_u1 F_size_u1 F_elementData_u1 ne_o0_u1 g_o0 g_u1 V_es ne_es_o0 ne_es_u1) hZ (hw _ (List.mem_of_getElem? (i := 161) rfl)) (hw _ (List.mem_of_getElem? (i := 2) rfl)) (by decide) (by decide)) q67a q67c (g := (mkF m 119 #[.val (.ref o0), .val (.ref o1), .val (.int p2), .val (.int (p2 &&& (7 : Int32)))] [(.int (1 : Int32)), (.ref o0)])) rfl (by rw [hml]; rfl) (Steps.refl _) (argsL := [(.int (1 : Int32))]) (rest := []) (lenOf pd_7_1 rfl) rfl (by show 2 * 0 + _ ≤ _; exact Nat.le_of_eq rfl) (hb hby d7_119) (fun _ _ => ⟨rfl, e0, (by decide : 0 + 1 ≤ _), (by decide : 0 + 5 ≤ _)⟩)
                dsimp only [Pt.U, Pt.locs, Pt.cells, Pt.slots] at X67 l67 y67 z67 st67 hQ67
                subst l67 y67 z67
                obtain ⟨rfl, N67q, K67q, G67_0, G67_1, G67_2, G67_3, G67_4, G67_5, G67_6⟩ := hQ67
                have N67 := Fr.app N0 N67q
                have K68 : Keep h0 T67.heap [o0, o1, u1] := (Keep.refl h0 [o0, o1, u1]).trans K67q (allS (Or.inl (List.mem_of_getElem? (i := 2) rfl)) (allS (Or.inl (List.mem_of_getElem? (i := 0) rfl)) all0))
                have KL69 : Keep h0 T67.heap [o1, o0, u1] := (Keep.refl h0 [o1, o0, u1]).trans K67q (allS (Or.inl (List.mem_of_getElem? (i := 2) rfl)) (allS (Or.inl (List.mem_of_getElem? (i := 1) rfl)) all0))
                have Z70 : n0 ≤ T67.heap.size := Nat.le_trans Z0 K68.1
                obtain ⟨LS67, X67, N67⟩ : ∃ L, Stand p l e ({ frames := 7, cells := 1, slots := 5, locals := 102 } : Room) s m #[(.ref o0), (.ref o1), (.int p2)] below meth c T67 L 1 5 ∧ Fr n0 L := ⟨_, X67, N67⟩
                have c72 := (V_o1.keep K67q (ninS (Ne.symm ne_u1_o1) (ninS (Ne.symm ne_o0_o1) nin0)))
                obtain ⟨cl71, Ar71, Sz71, Nn71, Hs71⟩ := id c72
                have hin71 : ¬ ((1 : Int32) < 0 ∨ cl71.slots.size ≤ ((1 : Int32)).toNatClampNeg) := inb_of Sz71 ⟨by decide, by decide⟩
                obtain ⟨T73, h73, X73, e73, W73, st73⟩ := stZ X67 hx hZ rfl Ar71 (j := (1 : Int32)) hin71 (g := (mkF m 125 #[.val (.ref o0), .val (.ref o1), .val (.int p2), .val (.int (p2 &&& (7 : Int32)))] [(.int (0 : Int32)), (.int (1 : Int32)), (.ref o1)])) rfl rfl (hb hby d7_125)
                have V73 : own_AI Z h73 o1 .boolean (2 : Int32) (own_upd F 1 (0 : Int32)) := own_AI.set c72 (fits_nar_bool (0 : Int32)) W73
                have K74 : Keep h0 h73 [o0, o1, u1] := K68.wr W73 (Or.inl (List.mem_of_getElem? (i := 1) rfl))
                have KL75 : Keep h0 h73 [o1, o0, u1] := KL69.wr W73 (Or.inl (List.mem_of_getElem? (i := 0) rfl))
                have Z76 : n0 ≤ h73.size := Nat.le_trans Z0 K74.1
                have N73 := Fr.snoc X73 N67 g_o1
                obtain ⟨LS73, X73, N73⟩ : ∃ L, Stand p l e ({ frames := 7, cells := 1, slots := 5, locals := 102 } : Room) s m #[(.ref o0), (.ref o1), (.int p2)] below meth c T73 L 1 5 ∧ Fr n0 L := ⟨_, X73, N73⟩
                refine ⟨T73, h73, _, X73, e73, N73, KL75, (by rw [hj7_5_0, if_neg hc6_4, if_neg hc28_18, if_neg hc50_33, if_neg hc72_48, if_pos hc94_62, if_pos hc105_65]; exact V73), (G67_4.other W73 (Or.inl ne_o0_o1)), (by rw [hj7_5_inProgress, if_neg hc6_4, if_neg hc28_18, if_neg hc50_33, if_neg hc72_48, if_pos hc94_62, if_pos hc105_65]; exact (G67_5.other W73 (Or.inl ne_o0_o1))), (by rw [hj7_5_installing, if_neg hc6_4, if_neg hc28_18, if_neg hc50_33, if_neg hc72_48, if_pos hc94_62, if_pos hc105_65]; exact (G67_3.other W73 (Or.inl ne_o0_o1))), (G67_6.other W73 (Or.inl ne_o0_o1)), (by rw [hj7_5_modCount, if_neg hc6_4, if_neg hc28_18, if_neg hc50_33, if_neg hc72_48, if_pos hc94_62, if_pos hc105_65]; exact (G67_0.other W73 (Or.inl ne_u1_o1))), (G67_1.other W73 (Or.inl ne_u1_o1)), (G67_2.other W73 (Or.inl ne_u1_o1)), fun t kt => ?_⟩
                refine pre66 t ?_
                show Steps p.tables e below (s₁.setTop (mkF m 111 #[.val (.ref o0), .val (.ref o1), .val (.int p2), .val (.int (p2 &&& (7 : Int32)))] [(.int (4 : Int32)), (.int (p2 &&& (7 : Int32))), (.ref o0)])) _
                refine XS.icmpNo X0.here hx rfl (hb hby d7_111) rfl (teq hc94_62).2 ?_
                show Steps p.tables e below (s₁.setTop (mkF m 114 #[.val (.ref o0), .val (.ref o1), .val (.int p2), .val (.int (p2 &&& (7 : Int32)))] [(.ref o0)])) _
                refine XS.iconst X0.here hx rfl (hb hby d7_114) ?_
                show Steps p.tables e below (s₁.setTop (mkF m 115 #[.val (.ref o0), .val (.ref o1), .val (.int p2), .val (.int (p2 &&& (7 : Int32)))] [(.int (1 : Int32)), (.ref o0)])) _
                refine XS.goto X0.here hx rfl (pc0 := 115) (pc' := 119) rfl (hb hby d7_115) (by decide) (by decide) ?_
                show Steps p.tables e below (s₁.setTop (mkF m 119 #[.val (.ref o0), .val (.ref o1), .val (.int p2), .val (.int (p2 &&& (7 : Int32)))] [(.int (1 : Int32)), (.ref o0)])) _
                refine st67.trans ?_
                show Steps p.tables e below (T67.setTop (mkF m 122 #[.val (.ref o0), .val (.ref o1), .val (.int p2), .val (.int (p2 &&& (7 : Int32)))] [])) _
                refine XS.aloadN X67.here hx rfl (hb hby d7_122) rfl rfl ?_
                show Steps p.tables e below (T67.setTop (mkF m 123 #[.val (.ref o0), .val (.ref o1), .val (.int p2), .val (.int (p2 &&& (7 : Int32)))] [(.ref o1)])) _
                refine XS.iconst X67.here hx rfl (hb hby d7_123) ?_
                show Steps p.tables e below (T67.setTop (mkF m 124 #[.val (.ref o0), .val (.ref o1), .val (.int p2), .val (.int (p2 &&& (7 : Int32)))] [(.int (1 : Int32)), (.ref o1)])) _
                refine XS.iconst X67.here hx rfl (hb hby d7_124) ?_
                show Steps p.tables e below (T67.setTop (mkF m 125 #[.val (.ref o0), .val (.ref o1), .val (.int p2), .val (.int (p2 &&& (7 : Int32)))] [(.int (0 : Int32)), (.int (1 : Int32)), (.ref o1)])) _
                refine st73 _ ?_
                exact kt
              · refine ⟨s₁, h0, _, (X0.mono (by decide) (by decide)), e0, N0, (Keep.refl h0 [o1, o0, u1]), (by rw [hj7_5_0, if_neg hc6_4, if_neg hc28_18, if_neg hc50_33, if_neg hc72_48, if_pos hc94_62, if_neg hc105_65]; exact V_o1), F_undo_o0, (by rw [hj7_5_inProgress, if_neg hc6_4, if_neg hc28_18, if_neg hc50_33, if_neg hc72_48, if_pos hc94_62, if_neg hc105_65]; exact F_inProgress_o0), (by rw [hj7_5_installing, if_neg hc6_4, if_neg hc28_18, if_neg hc50_33, if_neg hc72_48, if_pos hc94_62, if_neg hc105_65]; exact F_installing_o0), F_inProgressFrom_o0, (by rw [hj7_5_modCount, if_neg hc6_4, if_neg hc28_18, if_neg hc50_33, if_neg hc72_48, if_pos hc94_62, if_neg hc105_65]; exact F_modCount_u1), F_size_u1, F_elementData_u1, fun t kt => ?_⟩
                refine pre64 t ?_
                show Steps p.tables e below (s₁.setTop (mkF m 105 #[.val (.ref o0), .val (.ref o1), .val (.int p2), .val (.int (p2 &&& (7 : Int32)))] [(.int (F 0))])) _
                refine XS.ifYes X0.here hx rfl (pc0 := 105) (pc' := 126) rfl (hb hby d7_105) rfl ((if0 _ _).trans (feq hc105_65).2) (by decide) (by decide) ?_
                exact kt
            · have pre77 : ∀ t, Steps p.tables e below (s₁.setTop (mkF m 99 #[.val (.ref o0), .val (.ref o1), .val (.int p2), .val (.int (p2 &&& (7 : Int32)))] [(.int (5 : Int32)), (.int (p2 &&& (7 : Int32)))])) t → Steps p.tables e below (s₁.setTop (entryFrame m #[(.ref o0), (.ref o1), (.int p2)] 4)) t := fun t kt => pre61 t (by
                  show Steps p.tables e below (s₁.setTop (mkF m 94 #[.val (.ref o0), .val (.ref o1), .val (.int p2), .val (.int (p2 &&& (7 : Int32)))] [(.int (4 : Int32)), (.int (p2 &&& (7 : Int32)))])) _
                  refine XS.icmpNo X0.here hx rfl (hb hby d7_94) rfl (feq hc94_62).1 ?_
                  show Steps p.tables e below (s₁.setTop (mkF m 97 #[.val (.ref o0), .val (.ref o1), .val (.int p2), .val (.int (p2 &&& (7 : Int32)))] [])) _
                  refine XS.iloadN X0.here hx rfl (hb hby d7_97) rfl ?_
                  show Steps p.tables e below (s₁.setTop (mkF m 98 #[.val (.ref o0), .val (.ref o1), .val (.int p2), .val (.int (p2 &&& (7 : Int32)))] [(.int (p2 &&& (7 : Int32)))])) _
                  refine XS.iconst X0.here hx rfl (hb hby d7_98) ?_
                  exact kt)
              by_cases hc99_78 : (p2 &&& (7 : Int32)) = (5 : Int32)
              · obtain ⟨cl79, Ar79, Sz79, Nn79, Hs79⟩ := id V_o1
                have hin79 : ¬ ((0 : Int32) < 0 ∨ cl79.slots.size ≤ ((0 : Int32)).toNatClampNeg) := inb_of Sz79 ⟨by decide, by decide⟩
                have hat79 : cl79.slots[((0 : Int32)).toNatClampNeg]? = some (.int (F 0)) := (Hs79 _ (own_lt hin79)).1
                have pre80 : ∀ t, Steps p.tables e below (s₁.setTop (mkF m 105 #[.val (.ref o0), .val (.ref o1), .val (.int p2), .val (.int (p2 &&& (7 : Int32)))] [(.int (F 0))])) t → Steps p.tables e below (s₁.setTop (entryFrame m #[(.ref o0), (.ref o1), (.int p2)] 4)) t := fun t kt => pre77 t (by
                    show Steps p.tables e below (s₁.setTop (mkF m 99 #[.val (.ref o0), .val (.ref o1), .val (.int p2), .val (.int (p2 &&& (7 : Int32)))] [(.int (5 : Int32)), (.int (p2 &&& (7 : Int32)))])) _
                    refine XS.icmpNo X0.here hx rfl (hb hby d7_99) rfl (teq hc99_78).2 ?_
                    show Steps p.tables e below (s₁.setTop (mkF m 102 #[.val (.ref o0), .val (.ref o1), .val (.int p2), .val (.int (p2 &&& (7 : Int32)))] [])) _
                    refine XS.aloadN X0.here hx rfl (hb hby d7_102) rfl rfl ?_
                    show Steps p.tables e below (s₁.setTop (mkF m 103 #[.val (.ref o0), .val (.ref o1), .val (.int p2), .val (.int (p2 &&& (7 : Int32)))] [(.ref o1)])) _
                    refine XS.iconst X0.here hx rfl (hb hby d7_103) ?_
                    show Steps p.tables e below (s₁.setTop (mkF m 104 #[.val (.ref o0), .val (.ref o1), .val (.int p2), .val (.int (p2 &&& (7 : Int32)))] [(.int (0 : Int32)), (.ref o1)])) _
                    refine X0.baloadBooleans hx (j := (0 : Int32)) (v := (.int (F 0))) (by rw [e0]; exact Ar79.1) (State.isArrayOf_alike hZ.alike Ar79.2.1) Ar79.2.2 hin79 hat79 (g := (mkF m 104 #[.val (.ref o0), .val (.ref o1), .val (.int p2), .val (.int (p2 &&& (7 : Int32)))] [(.int (0 : Int32)), (.ref o1)])) rfl rfl (hb hby d7_104) _ ?_
                    exact kt)
                by_cases hc105_81 : (F 0) = (0 : Int32)
                · have pre82 : ∀ t, Steps p.tables e below (s₁.setTop (mkF m 111 #[.val (.ref o0), .val (.ref o1), .val (.int p2), .val (.int (p2 &&& (7 : Int32)))] [(.int (4 : Int32)), (.int (p2 &&& (7 : Int32))), (.ref o0)])) t → Steps p.tables e below (s₁.setTop (entryFrame m #[(.ref o0), (.ref o1), (.int p2)] 4)) t := fun t kt => pre80 t (by
                      show Steps p.tables e below (s₁.setTop (mkF m 105 #[.val (.ref o0), .val (.ref o1), .val (.int p2), .val (.int (p2 &&& (7 : Int32)))] [(.int (F 0))])) _
                      refine XS.ifNo X0.here hx rfl (hb hby d7_105) rfl ((if0 _ _).trans (teq hc105_81).2) ?_
                      show Steps p.tables e below (s₁.setTop (mkF m 108 #[.val (.ref o0), .val (.ref o1), .val (.int p2), .val (.int (p2 &&& (7 : Int32)))] [])) _
                      refine XS.aloadN X0.here hx rfl (hb hby d7_108) rfl rfl ?_
                      show Steps p.tables e below (s₁.setTop (mkF m 109 #[.val (.ref o0), .val (.ref o1), .val (.int p2), .val (.int (p2 &&& (7 : Int32)))] [(.ref o0)])) _
                      refine XS.iloadN X0.here hx rfl (hb hby d7_109) rfl ?_
                      show Steps p.tables e below (s₁.setTop (mkF m 110 #[.val (.ref o0), .val (.ref o1), .val (.int p2), .val (.int (p2 &&& (7 : Int32)))] [(.int (p2 &&& (7 : Int32))), (.ref o0)])) _
                      refine XS.iconst X0.here hx rfl (hb hby d7_110) ?_
                      exact kt)
                  obtain ⟨cq83, kq83, q83a, q83b, q83c⟩ := isOf hZ e0 E_o0
                  obtain ⟨_, _, ⟨T83, L83, k83, n83⟩, -, X83, ⟨Lc83, hQ83, l83, y83, z83⟩, st83⟩ := X0.virtualBack hx (y := (⟨"com/example/cardhost/cardhost/Transactions", "endInstallation", "(Z)V"⟩ : MethodName)) (z := (⟨"com/example/cardhost/cardhost/Transactions", "endInstallation", "(Z)V"⟩ : MethodName)) hown (mvT hZ (hw _ (List.mem_of_getElem? (i := 157) rfl))) (mvT hZ (hw _ (List.mem_of_getElem? (i := 158) rfl))) (notFace_of_selects (args := #[]) (mvT hZ (hw _ (List.mem_of_getElem? (i := 160) rfl)))) (mvT hZ (hw _ (List.mem_of_getElem? (i := 160) rfl))) (mvT hZ (hw _ (List.mem_of_getElem? (i := 159) rfl))) (by decide) (backOf (W := 0) (rm22 l Z a0 hw [] o0 (0 : Int32) u1 ip ins mc es h0 n0 Z0 E_o0 F_undo_o0 F_inProgress_o0 F_installing_o0 F_inProgressFrom_o0 E_u1 F_modCount_u1 F_size_u1 F_elementData_u1 ne_o0_u1 g_o0 g_u1 V_es ne_es_o0 ne_es_u1) hZ (hw _ (List.mem_of_getElem? (i := 161) rfl)) (hw _ (List.mem_of_getElem? (i := 2) rfl)) (by decide) (by decide)) q83a q83c (g := (mkF m 119 #[.val (.ref o0), .val (.ref o1), .val (.int p2), .val (.int (p2 &&& (7 : Int32)))] [(.int (0 : Int32)), (.ref o0)])) rfl (by rw [hml]; rfl) (Steps.refl _) (argsL := [(.int (0 : Int32))]) (rest := []) (lenOf pd_7_1 rfl) rfl (by show 2 * 0 + _ ≤ _; exact Nat.le_of_eq rfl) (hb hby d7_119) (fun _ _ => ⟨rfl, e0, (by decide : 0 + 1 ≤ _), (by decide : 0 + 5 ≤ _)⟩)
                  dsimp only [Pt.U, Pt.locs, Pt.cells, Pt.slots] at X83 l83 y83 z83 st83 hQ83
                  subst l83 y83 z83
                  obtain ⟨rfl, N83q, K83q, G83_0, G83_1, G83_2, G83_3, G83_4, G83_5, G83_6⟩ := hQ83
                  have N83 := Fr.app N0 N83q
                  have K84 : Keep h0 T83.heap [o0, o1, u1] := (Keep.refl h0 [o0, o1, u1]).trans K83q (allS (Or.inl (List.mem_of_getElem? (i := 2) rfl)) (allS (Or.inl (List.mem_of_getElem? (i := 0) rfl)) all0))
                  have KL85 : Keep h0 T83.heap [o1, o0, u1] := (Keep.refl h0 [o1, o0, u1]).trans K83q (allS (Or.inl (List.mem_of_getElem? (i := 2) rfl)) (allS (Or.inl (List.mem_of_getElem? (i := 1) rfl)) all0))
                  have Z86 : n0 ≤ T83.heap.size := Nat.le_trans Z0 K84.1
                  obtain ⟨LS83, X83, N83⟩ : ∃ L, Stand p l e ({ frames := 7, cells := 1, slots := 5, locals := 102 } : Room) s m #[(.ref o0), (.ref o1), (.int p2)] below meth c T83 L 1 5 ∧ Fr n0 L := ⟨_, X83, N83⟩
                  have c88 := (V_o1.keep K83q (ninS (Ne.symm ne_u1_o1) (ninS (Ne.symm ne_o0_o1) nin0)))
                  obtain ⟨cl87, Ar87, Sz87, Nn87, Hs87⟩ := id c88
                  have hin87 : ¬ ((1 : Int32) < 0 ∨ cl87.slots.size ≤ ((1 : Int32)).toNatClampNeg) := inb_of Sz87 ⟨by decide, by decide⟩
                  obtain ⟨T89, h89, X89, e89, W89, st89⟩ := stZ X83 hx hZ rfl Ar87 (j := (1 : Int32)) hin87 (g := (mkF m 125 #[.val (.ref o0), .val (.ref o1), .val (.int p2), .val (.int (p2 &&& (7 : Int32)))] [(.int (0 : Int32)), (.int (1 : Int32)), (.ref o1)])) rfl rfl (hb hby d7_125)
                  have V89 : own_AI Z h89 o1 .boolean (2 : Int32) (own_upd F 1 (0 : Int32)) := own_AI.set c88 (fits_nar_bool (0 : Int32)) W89
                  have K90 : Keep h0 h89 [o0, o1, u1] := K84.wr W89 (Or.inl (List.mem_of_getElem? (i := 1) rfl))
                  have KL91 : Keep h0 h89 [o1, o0, u1] := KL85.wr W89 (Or.inl (List.mem_of_getElem? (i := 0) rfl))
                  have Z92 : n0 ≤ h89.size := Nat.le_trans Z0 K90.1
                  have N89 := Fr.snoc X89 N83 g_o1
                  obtain ⟨LS89, X89, N89⟩ : ∃ L, Stand p l e ({ frames := 7, cells := 1, slots := 5, locals := 102 } : Room) s m #[(.ref o0), (.ref o1), (.int p2)] below meth c T89 L 1 5 ∧ Fr n0 L := ⟨_, X89, N89⟩
                  refine ⟨T89, h89, _, X89, e89, N89, KL91, (by rw [hj7_5_0, if_neg hc6_4, if_neg hc28_18, if_neg hc50_33, if_neg hc72_48, if_neg hc94_62, if_pos hc99_78, if_pos hc105_81]; exact V89), (G83_4.other W89 (Or.inl ne_o0_o1)), (by rw [hj7_5_inProgress, if_neg hc6_4, if_neg hc28_18, if_neg hc50_33, if_neg hc72_48, if_neg hc94_62, if_pos hc99_78, if_pos hc105_81]; exact (G83_5.other W89 (Or.inl ne_o0_o1))), (by rw [hj7_5_installing, if_neg hc6_4, if_neg hc28_18, if_neg hc50_33, if_neg hc72_48, if_neg hc94_62, if_pos hc99_78, if_pos hc105_81]; exact (G83_3.other W89 (Or.inl ne_o0_o1))), (G83_6.other W89 (Or.inl ne_o0_o1)), (by rw [hj7_5_modCount, if_neg hc6_4, if_neg hc28_18, if_neg hc50_33, if_neg hc72_48, if_neg hc94_62, if_pos hc99_78, if_pos hc105_81]; exact (G83_0.other W89 (Or.inl ne_u1_o1))), (G83_1.other W89 (Or.inl ne_u1_o1)), (G83_2.other W89 (Or.inl ne_u1_o1)), fun t kt => ?_⟩
                  refine pre82 t ?_
                  show Steps p.tables e below (s₁.setTop (mkF m 111 #[.val (.ref o0), .val (.ref o1), .val (.int p2), .val (.int (p2 &&& (7 : Int32)))] [(.int (4 : Int32)), (.int (p2 &&& (7 : Int32))), (.ref o0)])) _
                  refine XS.icmpYes X0.here hx rfl (pc0 := 111) (pc' := 118) rfl (hb hby d7_111) rfl (feq hc94_62).2 (by decide) (by decide) ?_
                  show Steps p.tables e below (s₁.setTop (mkF m 118 #[.val (.ref o0), .val (.ref o1), .val (.int p2), .val (.int (p2 &&& (7 : Int32)))] [(.ref o0)])) _
                  refine XS.iconst X0.here hx rfl (hb hby d7_118) ?_
                  show Steps p.tables e below (s₁.setTop (mkF m 119 #[.val (.ref o0), .val (.ref o1), .val (.int p2), .val (.int (p2 &&& (7 : Int32)))] [(.int (0 : Int32)), (.ref o0)])) _
                  refine st83.trans ?_
                  show Steps p.tables e below (T83.setTop (mkF m 122 #[.val (.ref o0), .val (.ref o1), .val (.int p2), .val (.int (p2 &&& (7 : Int32)))] [])) _
                  refine XS.aloadN X83.here hx rfl (hb hby d7_122) rfl rfl ?_
                  show Steps p.tables e below (T83.setTop (mkF m 123 #[.val (.ref o0), .val (.ref o1), .val (.int p2), .val (.int (p2 &&& (7 : Int32)))] [(.ref o1)])) _
                  refine XS.iconst X83.here hx rfl (hb hby d7_123) ?_
                  show Steps p.tables e below (T83.setTop (mkF m 124 #[.val (.ref o0), .val (.ref o1), .val (.int p2), .val (.int (p2 &&& (7 : Int32)))] [(.int (1 : Int32)), (.ref o1)])) _
                  refine XS.iconst X83.here hx rfl (hb hby d7_124) ?_
                  show Steps p.tables e below (T83.setTop (mkF m 125 #[.val (.ref o0), .val (.ref o1), .val (.int p2), .val (.int (p2 &&& (7 : Int32)))] [(.int (0 : Int32)), (.int (1 : Int32)), (.ref o1)])) _
                  refine st89 _ ?_
                  exact kt
                · refine ⟨s₁, h0, _, (X0.mono (by decide) (by decide)), e0, N0, (Keep.refl h0 [o1, o0, u1]), (by rw [hj7_5_0, if_neg hc6_4, if_neg hc28_18, if_neg hc50_33, if_neg hc72_48, if_neg hc94_62, if_pos hc99_78, if_neg hc105_81]; exact V_o1), F_undo_o0, (by rw [hj7_5_inProgress, if_neg hc6_4, if_neg hc28_18, if_neg hc50_33, if_neg hc72_48, if_neg hc94_62, if_pos hc99_78, if_neg hc105_81]; exact F_inProgress_o0), (by rw [hj7_5_installing, if_neg hc6_4, if_neg hc28_18, if_neg hc50_33, if_neg hc72_48, if_neg hc94_62, if_pos hc99_78, if_neg hc105_81]; exact F_installing_o0), F_inProgressFrom_o0, (by rw [hj7_5_modCount, if_neg hc6_4, if_neg hc28_18, if_neg hc50_33, if_neg hc72_48, if_neg hc94_62, if_pos hc99_78, if_neg hc105_81]; exact F_modCount_u1), F_size_u1, F_elementData_u1, fun t kt => ?_⟩
                  refine pre80 t ?_
                  show Steps p.tables e below (s₁.setTop (mkF m 105 #[.val (.ref o0), .val (.ref o1), .val (.int p2), .val (.int (p2 &&& (7 : Int32)))] [(.int (F 0))])) _
                  refine XS.ifYes X0.here hx rfl (pc0 := 105) (pc' := 126) rfl (hb hby d7_105) rfl ((if0 _ _).trans (feq hc105_81).2) (by decide) (by decide) ?_
                  exact kt
              · refine ⟨s₁, h0, _, (X0.mono (by decide) (by decide)), e0, N0, (Keep.refl h0 [o1, o0, u1]), (by rw [hj7_5_0, if_neg hc6_4, if_neg hc28_18, if_neg hc50_33, if_neg hc72_48, if_neg hc94_62, if_neg hc99_78]; exact V_o1), F_undo_o0, (by rw [hj7_5_inProgress, if_neg hc6_4, if_neg hc28_18, if_neg hc50_33, if_neg hc72_48, if_neg hc94_62, if_neg hc99_78]; exact F_inProgress_o0), (by rw [hj7_5_installing, if_neg hc6_4, if_neg hc28_18, if_neg hc50_33, if_neg hc72_48, if_neg hc94_62, if_neg hc99_78]; exact F_installing_o0), F_inProgressFrom_o0, (by rw [hj7_5_modCount, if_neg hc6_4, if_neg hc28_18, if_neg hc50_33, if_neg hc72_48, if_neg hc94_62, if_neg hc99_78]; exact F_modCount_u1), F_size_u1, F_elementData_u1, fun t kt => ?_⟩
                refine pre77 t ?_
                show Steps p.tables e below (s₁.setTop (mkF m 99 #[.val (.ref o0), .val (.ref o1), .val (.int p2), .val (.int (p2 &&& (7 : Int32)))] [(.int (5 : Int32)), (.int (p2 &&& (7 : Int32)))])) _
                refine XS.icmpYes X0.here hx rfl (pc0 := 99) (pc' := 126) rfl (hb hby d7_99) rfl (feq hc99_78).2 (by decide) (by decide) ?_
                exact kt
  have pre2 := st2
  have K93 : Keep h0 h2 [o0, o1, u1] := (Keep.refl h0 [o0, o1, u1]).trans K2q (allS (Or.inl (List.mem_of_getElem? (i := 1) rfl)) (allS (Or.inl (List.mem_of_getElem? (i := 0) rfl)) (allS (Or.inl (List.mem_of_getElem? (i := 2) rfl)) all0)))
  have Z94 : n0 ≤ h2.size := Nat.le_trans Z0 K93.1
  obtain ⟨cq95, kq95, q95a, q95b, q95c⟩ := isOf hZ e2 (E_o0.keep K2q)
  obtain ⟨_, _, ⟨T95, L95, k95, n95⟩, -, X95, ⟨Lc95, hQ95, l95, y95, z95⟩, st95⟩ := X2.virtualBack hx (y := (⟨"com/example/cardhost/cardhost/Transactions", "recording", "()Z"⟩ : MethodName)) (z := (⟨"com/example/cardhost/cardhost/Transactions", "recording", "()Z"⟩ : MethodName)) hown (mvT hZ (hw _ (List.mem_of_getElem? (i := 36) rfl))) (mvT hZ (hw _ (List.mem_of_getElem? (i := 37) rfl))) (notFace_of_selects (args := #[]) (mvT hZ (hw _ (List.mem_of_getElem? (i := 39) rfl)))) (mvT hZ (hw _ (List.mem_of_getElem? (i := 39) rfl))) (mvT hZ (hw _ (List.mem_of_getElem? (i := 38) rfl))) (by decide) (backOf (W := 0) (rm6 l Z a0 hw [] o0 (hj7_5_inProgress p2 ip F) (hj7_5_installing p2 ins F) h2 n0 Z94 (E_o0.keep K2q) V2_2 V2_3) hZ (hw _ (List.mem_of_getElem? (i := 40) rfl)) (hw _ (List.mem_of_getElem? (i := 2) rfl)) (by decide) (by decide)) q95a q95c (g := (mkF m 127 #[.val (.ref o0), .val (.ref o1), .val (.int p2), .val (.int (p2 &&& (7 : Int32)))] [(.ref o0)])) rfl (by rw [hml]; rfl) (Steps.refl _) (argsL := []) (rest := []) (lenOf pd_7_2 rfl) rfl (by show 2 * 0 + _ ≤ _; exact Nat.le_of_eq rfl) (hb hby d7_127) (fun _ _ => ⟨rfl, e2, (by decide : 1 + 0 ≤ _), (by decide : 5 + 0 ≤ _)⟩)
  dsimp only [Pt.U, Pt.locs, Pt.cells, Pt.slots] at X95 l95 y95 z95 st95 hQ95
  subst l95 y95 z95
  obtain ⟨rfl, N95q, e95q⟩ := hQ95
  have N95 := Fr.app N2 N95q
  have pre96 : ∀ t, Steps p.tables e below (T95.setTop (mkF m 130 #[.val (.ref o0), .val (.ref o1), .val (.int p2), .val (.int (p2 &&& (7 : Int32)))] [(.int (f6 (hj7_5_inProgress p2 ip F) (hj7_5_installing p2 ins F)))])) t → Steps p.tables e below (s₁.setTop (entryFrame m #[(.ref o0), (.ref o1), (.int p2)] 4)) t := fun t kt => pre2 t (by
      show Steps p.tables e below (T2.setTop (mkF m 126 #[.val (.ref o0), .val (.ref o1), .val (.int p2), .val (.int (p2 &&& (7 : Int32)))] [])) _
      refine XS.aloadN X2.here hx rfl (hb hby d7_126) rfl rfl ?_
      show Steps p.tables e below (T2.setTop (mkF m 127 #[.val (.ref o0), .val (.ref o1), .val (.int p2), .val (.int (p2 &&& (7 : Int32)))] [(.ref o0)])) _
      refine st95.trans ?_
      exact kt)
  have preB97 : ∀ t, Steps p.tables e below (T95.setTop (mkF m 147 #[.val (.ref o0), .val (.ref o1), .val (.int p2), .val (.int (p2 &&& (7 : Int32)))] [(.int (j7_130_S0 p2 F)), (.int (f6 (hj7_5_inProgress p2 ip F) (hj7_5_installing p2 ins F)))])) t → Steps p.tables e below (s₁.setTop (entryFrame m #[(.ref o0), (.ref o1), (.int p2)] 4)) t := by
    intro t kt
    obtain ⟨cl98, Ar98, Sz98, Nn98, Hs98⟩ := id V2_0
    have hin98 : ¬ ((0 : Int32) < 0 ∨ cl98.slots.size ≤ ((0 : Int32)).toNatClampNeg) := inb_of Sz98 ⟨by decide, by decide⟩
    have hat98 : cl98.slots[((0 : Int32)).toNatClampNeg]? = some (.int ((hj7_5_0 p2 F) 0)) := (Hs98 _ (own_lt hin98)).1
    have pre99 : ∀ t, Steps p.tables e below (T95.setTop (mkF m 133 #[.val (.ref o0), .val (.ref o1), .val (.int p2), .val (.int (p2 &&& (7 : Int32)))] [(.int ((hj7_5_0 p2 F) 0)), (.int (f6 (hj7_5_inProgress p2 ip F) (hj7_5_installing p2 ins F)))])) t → Steps p.tables e below (s₁.setTop (entryFrame m #[(.ref o0), (.ref o1), (.int p2)] 4)) t := fun t kt => pre96 t (by
        show Steps p.tables e below (T95.setTop (mkF m 130 #[.val (.ref o0), .val (.ref o1), .val (.int p2), .val (.int (p2 &&& (7 : Int32)))] [(.int (f6 (hj7_5_inProgress p2 ip F) (hj7_5_installing p2 ins F)))])) _
        refine XS.aloadN X95.here hx rfl (hb hby d7_130) rfl rfl ?_
        show Steps p.tables e below (T95.setTop (mkF m 131 #[.val (.ref o0), .val (.ref o1), .val (.int p2), .val (.int (p2 &&& (7 : Int32)))] [(.ref o1), (.int (f6 (hj7_5_inProgress p2 ip F) (hj7_5_installing p2 ins F)))])) _
        refine XS.iconst X95.here hx rfl (hb hby d7_131) ?_
        show Steps p.tables e below (T95.setTop (mkF m 132 #[.val (.ref o0), .val (.ref o1), .val (.int p2), .val (.int (p2 &&& (7 : Int32)))] [(.int (0 : Int32)), (.ref o1), (.int (f6 (hj7_5_inProgress p2 ip F) (hj7_5_installing p2 ins F)))])) _
        refine X95.baloadBooleans hx (j := (0 : Int32)) (v := (.int ((hj7_5_0 p2 F) 0))) (by rw [e95q]; exact Ar98.1) (State.isArrayOf_alike hZ.alike Ar98.2.1) Ar98.2.2 hin98 hat98 (g := (mkF m 132 #[.val (.ref o0), .val (.ref o1), .val (.int p2), .val (.int (p2 &&& (7 : Int32)))] [(.int (0 : Int32)), (.ref o1), (.int (f6 (hj7_5_inProgress p2 ip F) (hj7_5_installing p2 ins F)))])) rfl rfl (hb hby d7_132) _ ?_
        exact kt)
    by_cases hc133_100 : ((hj7_5_0 p2 F) 0) = (0 : Int32)
    · obtain ⟨cl101, Ar101, Sz101, Nn101, Hs101⟩ := id V2_0
      have hin101 : ¬ ((1 : Int32) < 0 ∨ cl101.slots.size ≤ ((1 : Int32)).toNatClampNeg) := inb_of Sz101 ⟨by decide, by decide⟩
      have hat101 : cl101.slots[((1 : Int32)).toNatClampNeg]? = some (.int ((hj7_5_0 p2 F) 1)) := (Hs101 _ (own_lt hin101)).1
      have pre102 : ∀ t, Steps p.tables e below (T95.setTop (mkF m 139 #[.val (.ref o0), .val (.ref o1), .val (.int p2), .val (.int (p2 &&& (7 : Int32)))] [(.int ((hj7_5_0 p2 F) 1)), (.int (f6 (hj7_5_inProgress p2 ip F) (hj7_5_installing p2 ins F)))])) t → Steps p.tables e below (s₁.setTop (entryFrame m #[(.ref o0), (.ref o1), (.int p2)] 4)) t := fun t kt => pre99 t (by
          show Steps p.tables e below (T95.setTop (mkF m 133 #[.val (.ref o0), .val (.ref o1), .val (.int p2), .val (.int (p2 &&& (7 : Int32)))] [(.int ((hj7_5_0 p2 F) 0)), (.int (f6 (hj7_5_inProgress p2 ip F) (hj7_5_installing p2 ins F)))])) _
          refine XS.ifNo X95.here hx rfl (hb hby d7_133) rfl ((if0 _ _).trans (teq hc133_100).2) ?_
          show Steps p.tables e below (T95.setTop (mkF m 136 #[.val (.ref o0), .val (.ref o1), .val (.int p2), .val (.int (p2 &&& (7 : Int32)))] [(.int (f6 (hj7_5_inProgress p2 ip F) (hj7_5_installing p2 ins F)))])) _
          refine XS.aloadN X95.here hx rfl (hb hby d7_136) rfl rfl ?_
          show Steps p.tables e below (T95.setTop (mkF m 137 #[.val (.ref o0), .val (.ref o1), .val (.int p2), .val (.int (p2 &&& (7 : Int32)))] [(.ref o1), (.int (f6 (hj7_5_inProgress p2 ip F) (hj7_5_installing p2 ins F)))])) _
          refine XS.iconst X95.here hx rfl (hb hby d7_137) ?_
          show Steps p.tables e below (T95.setTop (mkF m 138 #[.val (.ref o0), .val (.ref o1), .val (.int p2), .val (.int (p2 &&& (7 : Int32)))] [(.int (1 : Int32)), (.ref o1), (.int (f6 (hj7_5_inProgress p2 ip F) (hj7_5_installing p2 ins F)))])) _
          refine X95.baloadBooleans hx (j := (1 : Int32)) (v := (.int ((hj7_5_0 p2 F) 1))) (by rw [e95q]; exact Ar101.1) (State.isArrayOf_alike hZ.alike Ar101.2.1) Ar101.2.2 hin101 hat101 (g := (mkF m 138 #[.val (.ref o0), .val (.ref o1), .val (.int p2), .val (.int (p2 &&& (7 : Int32)))] [(.int (1 : Int32)), (.ref o1), (.int (f6 (hj7_5_inProgress p2 ip F) (hj7_5_installing p2 ins F)))])) rfl rfl (hb hby d7_138) _ ?_
          exact kt)
      by_cases hc139_103 : ((hj7_5_0 p2 F) 1) = (0 : Int32)
      · rw [show (j7_130_S0 p2 F) = (0 : Int32) from by rw [j7_130_S0, if_pos hc133_100, if_pos hc139_103]] at kt
        refine pre102 t ?_
        show Steps p.tables e below (T95.setTop (mkF m 139 #[.val (.ref o0), .val (.ref o1), .val (.int p2), .val (.int (p2 &&& (7 : Int32)))] [(.int ((hj7_5_0 p2 F) 1)), (.int (f6 (hj7_5_inProgress p2 ip F) (hj7_5_installing p2 ins F)))])) _
        refine XS.ifYes X95.here hx rfl (pc0 := 139) (pc' := 146) rfl (hb hby d7_139) rfl ((if0 _ _).trans (teq hc139_103).1) (by decide) (by decide) ?_
        show Steps p.tables e below (T95.setTop (mkF m 146 #[.val (.ref o0), .val (.ref o1), .val (.int p2), .val (.int (p2 &&& (7 : Int32)))] [(.int (f6 (hj7_5_inProgress p2 ip F) (hj7_5_installing p2 ins F)))])) _
        refine XS.iconst X95.here hx rfl (hb hby d7_146) ?_
        exact kt
      · rw [show (j7_130_S0 p2 F) = (1 : Int32) from by rw [j7_130_S0, if_pos hc133_100, if_neg hc139_103]] at kt
        refine pre102 t ?_
        show Steps p.tables e below (T95.setTop (mkF m 139 #[.val (.ref o0), .val (.ref o1), .val (.int p2), .val (.int (p2 &&& (7 : Int32)))] [(.int ((hj7_5_0 p2 F) 1)), (.int (f6 (hj7_5_inProgress p2 ip F) (hj7_5_installing p2 ins F)))])) _
        refine XS.ifNo X95.here hx rfl (hb hby d7_139) rfl ((if0 _ _).trans (feq hc139_103).1) ?_
        show Steps p.tables e below (T95.setTop (mkF m 142 #[.val (.ref o0), .val (.ref o1), .val (.int p2), .val (.int (p2 &&& (7 : Int32)))] [(.int (f6 (hj7_5_inProgress p2 ip F) (hj7_5_installing p2 ins F)))])) _
        refine XS.iconst X95.here hx rfl (hb hby d7_142) ?_
        show Steps p.tables e below (T95.setTop (mkF m 143 #[.val (.ref o0), .val (.ref o1), .val (.int p2), .val (.int (p2 &&& (7 : Int32)))] [(.int (1 : Int32)), (.int (f6 (hj7_5_inProgress p2 ip F) (hj7_5_installing p2 ins F)))])) _
        refine XS.goto X95.here hx rfl (pc0 := 143) (pc' := 147) rfl (hb hby d7_143) (by decide) (by decide) ?_
        exact kt
    · rw [show (j7_130_S0 p2 F) = (1 : Int32) from by rw [j7_130_S0, if_neg hc133_100]] at kt
      refine pre99 t ?_
      show Steps p.tables e below (T95.setTop (mkF m 133 #[.val (.ref o0), .val (.ref o1), .val (.int p2), .val (.int (p2 &&& (7 : Int32)))] [(.int ((hj7_5_0 p2 F) 0)), (.int (f6 (hj7_5_inProgress p2 ip F) (hj7_5_installing p2 ins F)))])) _
      refine XS.ifYes X95.here hx rfl (pc0 := 133) (pc' := 142) rfl (hb hby d7_133) rfl ((if0 _ _).trans (feq hc133_100).2) (by decide) (by decide) ?_
      show Steps p.tables e below (T95.setTop (mkF m 142 #[.val (.ref o0), .val (.ref o1), .val (.int p2), .val (.int (p2 &&& (7 : Int32)))] [(.int (f6 (hj7_5_inProgress p2 ip F) (hj7_5_installing p2 ins F)))])) _
      refine XS.iconst X95.here hx rfl (hb hby d7_142) ?_
      show Steps p.tables e below (T95.setTop (mkF m 143 #[.val (.ref o0), .val (.ref o1), .val (.int p2), .val (.int (p2 &&& (7 : Int32)))] [(.int (1 : Int32)), (.int (f6 (hj7_5_inProgress p2 ip F) (hj7_5_installing p2 ins F)))])) _
      refine XS.goto X95.here hx rfl (pc0 := 143) (pc' := 147) rfl (hb hby d7_143) (by decide) (by decide) ?_
      exact kt
  have hd147_104 : (f6 (hj7_5_inProgress p2 ip F) (hj7_5_installing p2 ins F)) = (j7_130_S0 p2 F) := own_st hI
  obtain ⟨fs, hr, hrun, hended, hW, hsame⟩ := X95.leave (v := some (.int (1 : Int32))) (fun h => by rw [Bd.returns] at h; cases h)
  have hv105 : (1 : Int32) = (1 : Int32) := rfl
  refine ⟨_, _, preB97 _ ?_, hrun, hended, _, _, rfl, ?_, ⟨_, rfl⟩, hW, hsame.mono (by decide) (by decide)⟩
  · show Steps p.tables e below (T95.setTop (mkF m 147 #[.val (.ref o0), .val (.ref o1), .val (.int p2), .val (.int (p2 &&& (7 : Int32)))] [(.int (j7_130_S0 p2 F)), (.int (f6 (hj7_5_inProgress p2 ip F) (hj7_5_installing p2 ins F)))])) _
    refine XS.icmpNo X95.here hx rfl (hb hby d7_147) rfl (teq hd147_104).2 ?_
    show Steps p.tables e below (T95.setTop (mkF m 150 #[.val (.ref o0), .val (.ref o1), .val (.int p2), .val (.int (p2 &&& (7 : Int32)))] [])) _
    refine XS.iconst X95.here hx rfl (hb hby d7_150) ?_
    show Steps p.tables e below (T95.setTop (mkF m 151 #[.val (.ref o0), .val (.ref o1), .val (.int p2), .val (.int (p2 &&& (7 : Int32)))] [(.int (1 : Int32))])) _
    refine XS.goto X95.here hx rfl (pc0 := 151) (pc' := 155) rfl (hb hby d7_151) (by decide) (by decide) ?_
    show Steps p.tables e below (T95.setTop (mkF m 155 #[.val (.ref o0), .val (.ref o1), .val (.int p2), .val (.int (p2 &&& (7 : Int32)))] [(.int (1 : Int32))])) _
    exact retN X95 hx (t := .boolean) Bd.returns (by simp) (hb hby d7_155) hr
  · show Q7 Z o0 o1 p2 u1 ip ins mc es F h0 n0 _ T95.heap _
    rw [e95q]
    exact ⟨congrArg (fun q => some (Value.int q)) hv105.symm, N95, K93, V2_0, V2_1, V2_2, V2_3, V2_4, V2_5, V2_6, V2_7⟩
theorem pn_0 : plainName "com/example/cardhost/cardhost/TransactionsRecordingPinLaw" = true := by first | (simp [plainName, overriddenIn]; done) | decide +kernel
theorem pd_0_0 : parseMethodDescriptor "()V" = some ⟨[], none⟩ := by decide +kernel
theorem pd_0_1 : parseMethodDescriptor "()Z" = some ⟨[], some .boolean⟩ := by decide +kernel
theorem pd_0_2 : parseMethodDescriptor "(Lcom/example/cardhost/cardhost/Transactions;[ZI)Z" = some ⟨[(.object "com/example/cardhost/cardhost/Transactions"), (.array .boolean), .int], some .boolean⟩ := by decide +kernel
theorem ef_0 (m : MethodId) (x0 : Int32) (x1 : Int32) (x2 : Int32) (x3 : Int32) : entryFrame m #[(.int x0), (.int x1), (.int x2), (.int x3)] maxLocals = mkF m 0 #[.val (.int x0), .val (.int x1), .val (.int x2), .val (.int x3), .unset, .unset, .unset] [] := by first | (simp [entryFrame, mkF, argsToLocals, Value.category, maxLocals]; done) | rfl
theorem own_eqi {args : Array Value} {s : State} {t : Term} {k : Int32} (h : (Jvm.Cond.eq t (.int k)).value args s none s [] = some true) : t.eval args s none [] s = some (.int k) := by
  obtain ⟨x, y, h1, h2, h3, h4⟩ := cmp_v (Or.inl h)
  have h2' : some (Value.int k) = some y := h2
  cases h2'
  obtain ⟨z, rfl⟩ := h4
  simp only [Jvm.Cond.value, h1, h2] at h
  simp at h
  rw [h1, h]
theorem own_len0 {args : Array Value} {s : State} {t : Term} {a : Addr} {cl : Cell} (ev : t.eval args s none [] s = some (.ref a)) (ha : s.arrayAt? a = some cl) (h : (Term.length t).eval args s none [] s = some (.int 0)) : cl.slots.size = 0 := by
  have hb : (Jvm.Cond.isInt (.length t)).before args s = true := by simp [Cond.before, Cond.holds, Cond.value, h]
  have q := len_toInt (Cond.small_of_lengthOf ev ha hb)
  rw [len_f ev ha (Cond.small_of_lengthOf ev ha hb)] at h
  have q2 : cl.slots.size.toInt32 = (0 : Int32) := Value.int.inj (Option.some.inj h)
  rw [q2] at q
  have q3 : (0 : Int32).toInt = 0 := by decide
  omega
def own_P (n : Int) : Prop := n = 58 ∨ (65 ≤ n ∧ n ≤ 90) ∨ n = 95 ∨ (97 ≤ n ∧ n ≤ 122)
/-- what an array of ints holds at a place -/
def own_val (c : Cell) (i : Nat) : Int32 := match c.slots[i]? with | some (.int x) => x | _ => 0

def Q0 (Z : State) (p0 : Int32) (p1 : Int32) (p2 : Int32) (p3 : Int32) (es : Addr) (h0 : Heap) (n0 : Nat) (v : Option Value) (h : Heap) (L : List Loc) : Prop := v = some (.int (1 : Int32)) ∧ Fr n0 L
set_option maxRecDepth 65536 in
set_option maxHeartbeats 40000000 in
theorem rm0 (l : Launch) (Z : State) (a0 : Array Value) (hw : ∀ d ∈ tables_1, d.before a0 Z = true) (ws : List Jvm.Cond) (p0 : Int32) (p1 : Int32) (p2 : Int32) (p3 : Int32) (es : Addr) (h0 : Heap) (n0 : Nat) (Z0 : n0 ≤ h0.size) (S_DEFAULTCAPACITY_EMPTY_ELEMENTDATA : Sta Z h0 "java/util/ArrayList" "DEFAULTCAPACITY_EMPTY_ELEMENTDATA" "[Ljava/lang/Object;" (.ref es)) (V_es : own_AL Z h0 es (.object "java/lang/Object") (0 : Int32)) :
    MetFree l x (head1 (Jvm.Cond.code x code maxLocals ret :: ws) room_1) (fun a U => a = #[(.int p0), (.int p1), (.int p2), (.int p3)] ∧ Z.Warmed39 U.vm ∧ U.heap = h0) (fun _ _ _ _ _ => True) (fun _ U o U' => ∃ v L, o = .returned v ∧ Q0 Z p0 p1 p2 p3 es h0 n0 v U'.heap L ∧ FrameEnd U o U' L room_1.cells room_1.slots) := by
  refine MetFree.of_bodySF (plainFor_of_name pn_0) hisR ?_
  intro p e s m args below meth c s₁ Bd hml0 hP hK
  obtain ⟨rfl, hZ, hh⟩ := hP
  have hx := Bd.exec
  have hby := Bd.bytes
  have hml : c.maxLocals = 7 := hml0
  have hown : s.vm.findClass "com/example/cardhost/cardhost/TransactionsRecordingPinLaw" = some m.cls := findClass_of_methodNamed Bd.named
  have hnm := (name_of_methodNamed Bd.named Bd.method).1
  have X0 : Stand p l e room_1 s m #[(.int p0), (.int p1), (.int p2), (.int p3)] below meth c s₁ [] 0 0 := Stand.of_body Bd
  have e0 : s₁.heap = h0 := by rw [← hh, Bd.state]; rfl
  have N0 := Fr.nil n0
  have pre0 : ∀ t, Steps p.tables e below (s₁.setTop (mkF m 0 #[.val (.int p0), .val (.int p1), .val (.int p2), .val (.int p3), .unset, .unset, .unset] [])) t → Steps p.tables e below (s₁.setTop (entryFrame m #[(.int p0), (.int p1), (.int p2), (.int p3)] maxLocals)) t := fun t k => castTop (ef_0 m p0 p1 p2 p3) k
  obtain ⟨T1, h1, X1, e1, E1, A1, D1, -, st1⟩ := newO X0 hx hZ hown (hw _ (List.mem_of_getElem? (i := 0) rfl)) (hw _ (List.mem_of_getElem? (i := 1) rfl)) (hw _ (List.mem_of_getElem? (i := 2) rfl)) e0 (g := (mkF m 0 #[.val (.int p0), .val (.int p1), .val (.int p2), .val (.int p3), .unset, .unset, .unset] [])) rfl (hb hby at_0) (by decide) (by decide)
  obtain ⟨b1, g1⟩ : ∃ z, z = h0.size := ⟨_, rfl⟩
  rw [← g1] at A1 D1 st1
  have g_b1 : n0 ≤ b1 := Nat.le_trans Z0 (Nat.le_of_eq g1.symm)
  have sz_b1 : h0.size ≤ b1 := Nat.le_trans (Keep.refl h0 []).1 (Nat.le_of_eq g1.symm)
  have ne_es_b1 : es ≠ b1 := Nat.ne_of_lt (Nat.lt_of_lt_of_le V_es.lt (Nat.le_of_eq g1.symm))
  have K2 : Keep h0 h1 [] := (Keep.refl h0 []).ext E1
  have Z3 : n0 ≤ h1.size := Nat.le_trans Z0 K2.1
  have E_b1 := A1
  have F_undo_b1 : Fld Z h1 b1 "com/example/cardhost/cardhost/Transactions" "undo" "Ljava/util/List;" .null := D1 (Or.inr (hw _ (List.mem_of_getElem? (i := 34) rfl))) (ty := (.object "java/util/List")) (by decide)
  have F_inProgress_b1 : Fld Z h1 b1 "com/example/cardhost/cardhost/Transactions" "inProgress" "Z" (.int (0 : Int32)) := D1 (Or.inl (hw _ (List.mem_of_getElem? (i := 42) rfl))) (ty := .boolean) (by decide)
  have F_installing_b1 : Fld Z h1 b1 "com/example/cardhost/cardhost/Transactions" "installing" "Z" (.int (0 : Int32)) := D1 (Or.inl (hw _ (List.mem_of_getElem? (i := 44) rfl))) (ty := .boolean) (by decide)
  have F_inProgressFrom_b1 : Fld Z h1 b1 "com/example/cardhost/cardhost/Transactions" "inProgressFrom" "I" (.int (0 : Int32)) := D1 (Or.inl (hw _ (List.mem_of_getElem? (i := 66) rfl))) (ty := .int) (by decide)
  obtain ⟨_, _, ⟨T4, L4, k4, n4⟩, -, X4, ⟨Lc4, hQ4, l4, y4, z4⟩, st4⟩ := X1.specialBack hx (y := (⟨"com/example/cardhost/cardhost/Transactions", "<init>", "()V"⟩ : MethodName)) rfl hown (mvT hZ (hw _ (List.mem_of_getElem? (i := 3) rfl))) (mvT hZ (hw _ (List.mem_of_getElem? (i := 4) rfl))) (mvT hZ (hw _ (List.mem_of_getElem? (i := 5) rfl))) (by decide) (backOf (W := 1) (rm1 l Z a0 hw [] b1 (0 : Int32) (0 : Int32) es h1 n0 Z3 E_b1 F_undo_b1 F_inProgress_b1 F_installing_b1 F_inProgressFrom_b1 g_b1 (S_DEFAULTCAPACITY_EMPTY_ELEMENTDATA.ext E1)) hZ (hw _ (List.mem_of_getElem? (i := 5) rfl)) (hw _ (List.mem_of_getElem? (i := 2) rfl)) (by decide) (by decide)) (g := (mkF m 4 #[.val (.int p0), .val (.int p1), .val (.int p2), .val (.int p3), .unset, .unset, .unset] [(.ref b1), (.ref b1)])) rfl (by rw [hml]; rfl) (Steps.refl _) (a := b1) (argsL := []) (rest := [(.ref b1)]) (lenOf pd_0_0 rfl) rfl (by show 2 * 0 + _ ≤ _; exact Nat.le_of_eq rfl) (hb hby at_4) (fun _ _ => ⟨rfl, e1, (by decide : 1 + 1 ≤ _), (by decide : 4 + 3 ≤ _)⟩)
  dsimp only [Pt.U, Pt.locs, Pt.cells, Pt.slots] at X4 l4 y4 z4 st4 hQ4
  subst l4 y4 z4
  obtain ⟨r_o0_undo_4, rfl, N4q, K4q, g_r_o0_undo_4, szq_r_o0_undo_4, G4_0, G4_1, G4_2, G4_3, G4_4, G4_5, G4_6, G4_7⟩ := hQ4
  have N4 := Fr.app N0 N4q
  have ne_es_r_o0_undo_4 : es ≠ r_o0_undo_4 := Nat.ne_of_lt (Nat.lt_of_lt_of_le (V_es.ext E1).lt szq_r_o0_undo_4)
  have ne_b1_r_o0_undo_4 : b1 ≠ r_o0_undo_4 := Nat.ne_of_lt (Nat.lt_of_lt_of_le E_b1.lt szq_r_o0_undo_4)
  have sz_r_o0_undo_4 : h0.size ≤ r_o0_undo_4 := Nat.le_trans K2.1 szq_r_o0_undo_4
  have S5 := own_Sta_keep (S_DEFAULTCAPACITY_EMPTY_ELEMENTDATA.ext E1) K4q (allS (own_Exa_st E_b1) all0)
  have K6 : Keep h0 T4.heap [] := K2.trans K4q (allS (Or.inr sz_b1) all0)
  have Z7 : n0 ≤ T4.heap.size := Nat.le_trans Z0 K6.1
  obtain ⟨LS4, X4, N4⟩ : ∃ L, Stand p l e room_1 s m #[(.int p0), (.int p1), (.int p2), (.int p3)] below meth c T4 L 2 7 ∧ Fr n0 L := ⟨_, X4, N4⟩
  obtain ⟨T8, h8, k8, X8, e8, E8, A8, st8⟩ := newP X4 hx hZ (hw _ (List.mem_of_getElem? (i := 35) rfl)) rfl (g := (mkF m 10 #[.val (.int p0), .val (.int p1), .val (.int p2), .val (.int p3), .val (.ref b1), .unset, .unset] [(.int (2 : Int32))])) rfl (hb hby at_10) rfl (by decide) (cap := 2) (by decide) (by decide) (by decide) (by decide)
  obtain ⟨b8, g8⟩ : ∃ z, z = T4.heap.size := ⟨_, rfl⟩
  rw [← g8] at A8 st8
  have g_b8 : n0 ≤ b8 := Nat.le_trans Z7 (Nat.le_of_eq g8.symm)
  have sz_b8 : h0.size ≤ b8 := Nat.le_trans K6.1 (Nat.le_of_eq g8.symm)
  have ne_es_b8 : es ≠ b8 := Nat.ne_of_lt (Nat.lt_of_lt_of_le ((V_es.ext E1).keep K4q (ninS ne_es_b1 nin0)).lt (Nat.le_of_eq g8.symm))
  have ne_b1_b8 : b1 ≠ b8 := Nat.ne_of_lt (Nat.lt_of_lt_of_le (E_b1.keep K4q).lt (Nat.le_of_eq g8.symm))
  have ne_r_o0_undo_4_b8 : r_o0_undo_4 ≠ b8 := Nat.ne_of_lt (Nat.lt_of_lt_of_le G4_1.lt (Nat.le_of_eq g8.symm))
  have K9 : Keep h0 h8 [] := K6.ext E8
  have Z10 : n0 ≤ h8.size := Nat.le_trans Z0 K9.1
  have V_b8 : own_AI Z h8 b8 .boolean (2 : Int32) (fun _ => 0) := own_AI.new A8 (by decide) rfl
  obtain ⟨cq11, kq11, q11a, q11b, q11c⟩ := isOf hZ e8 ((E_b1.keep K4q).ext E8)
  obtain ⟨_, _, ⟨T11, L11, k11, n11⟩, -, X11, ⟨Lc11, hQ11, l11, y11, z11⟩, st11⟩ := X8.virtualBack hx (y := (⟨"com/example/cardhost/cardhost/Transactions", "recording", "()Z"⟩ : MethodName)) (z := (⟨"com/example/cardhost/cardhost/Transactions", "recording", "()Z"⟩ : MethodName)) hown (mvT hZ (hw _ (List.mem_of_getElem? (i := 36) rfl))) (mvT hZ (hw _ (List.mem_of_getElem? (i := 37) rfl))) (notFace_of_selects (args := #[]) (mvT hZ (hw _ (List.mem_of_getElem? (i := 39) rfl)))) (mvT hZ (hw _ (List.mem_of_getElem? (i := 39) rfl))) (mvT hZ (hw _ (List.mem_of_getElem? (i := 38) rfl))) (by decide) (backOf (W := 0) (rm6 l Z a0 hw [] b1 (0 : Int32) (0 : Int32) h8 n0 Z10 ((E_b1.keep K4q).ext E8) (G4_5.ext E8) (G4_6.ext E8)) hZ (hw _ (List.mem_of_getElem? (i := 40) rfl)) (hw _ (List.mem_of_getElem? (i := 2) rfl)) (by decide) (by decide)) q11a q11c (g := (mkF m 16 #[.val (.int p0), .val (.int p1), .val (.int p2), .val (.int p3), .val (.ref b1), .val (.ref b8), .unset] [(.ref b1)])) rfl (by rw [hml]; rfl) (Steps.refl _) (argsL := []) (rest := []) (lenOf pd_0_1 rfl) rfl (by show 2 * 0 + _ ≤ _; exact Nat.le_of_eq rfl) (hb hby at_16) (fun _ _ => ⟨rfl, e8, (by decide : 3 + 0 ≤ _), (by decide : 9 + 0 ≤ _)⟩)
  dsimp only [Pt.U, Pt.locs, Pt.cells, Pt.slots] at X11 l11 y11 z11 st11 hQ11
  subst l11 y11 z11
  obtain ⟨rfl, N11q, e11q⟩ := hQ11
  have N11 := Fr.app N4 N11q
  have pre12 : ∀ t, Steps p.tables e below (T11.setTop (mkF m 19 #[.val (.int p0), .val (.int p1), .val (.int p2), .val (.int p3), .val (.ref b1), .val (.ref b8), .unset] [(.int (f6 (0 : Int32) (0 : Int32)))])) t → Steps p.tables e below (s₁.setTop (entryFrame m #[(.int p0), (.int p1), (.int p2), (.int p3)] maxLocals)) t := fun t kt => pre0 t (by
      show Steps p.tables e below (s₁.setTop (mkF m 0 #[.val (.int p0), .val (.int p1), .val (.int p2), .val (.int p3), .unset, .unset, .unset] [])) _
      refine st1 _ ?_
      show Steps p.tables e below (T1.setTop (mkF m 3 #[.val (.int p0), .val (.int p1), .val (.int p2), .val (.int p3), .unset, .unset, .unset] [(.ref b1)])) _
      refine XS.dup X1.here hx rfl (hb hby at_3) rfl rfl ?_
      show Steps p.tables e below (T1.setTop (mkF m 4 #[.val (.int p0), .val (.int p1), .val (.int p2), .val (.int p3), .unset, .unset, .unset] [(.ref b1), (.ref b1)])) _
      refine st4.trans ?_
      show Steps p.tables e below (T4.setTop (mkF m 7 #[.val (.int p0), .val (.int p1), .val (.int p2), .val (.int p3), .unset, .unset, .unset] [(.ref b1)])) _
      refine XS.astore X4.here hx rfl (hb hby at_7) rfl rfl (l' := #[.val (.int p0), .val (.int p1), .val (.int p2), .val (.int p3), .val (.ref b1), .unset, .unset]) rfl ?_
      show Steps p.tables e below (T4.setTop (mkF m 9 #[.val (.int p0), .val (.int p1), .val (.int p2), .val (.int p3), .val (.ref b1), .unset, .unset] [])) _
      refine XS.iconst X4.here hx rfl (hb hby at_9) ?_
      show Steps p.tables e below (T4.setTop (mkF m 10 #[.val (.int p0), .val (.int p1), .val (.int p2), .val (.int p3), .val (.ref b1), .unset, .unset] [(.int (2 : Int32))])) _
      refine st8 _ ?_
      show Steps p.tables e below (T8.setTop (mkF m 12 #[.val (.int p0), .val (.int p1), .val (.int p2), .val (.int p3), .val (.ref b1), .unset, .unset] [(.ref b8)])) _
      refine XS.astore X8.here hx rfl (hb hby at_12) rfl rfl (l' := #[.val (.int p0), .val (.int p1), .val (.int p2), .val (.int p3), .val (.ref b1), .val (.ref b8), .unset]) rfl ?_
      show Steps p.tables e below (T8.setTop (mkF m 14 #[.val (.int p0), .val (.int p1), .val (.int p2), .val (.int p3), .val (.ref b1), .val (.ref b8), .unset] [])) _
      refine XS.aload X8.here hx rfl (hb hby at_14) rfl rfl ?_
      show Steps p.tables e below (T8.setTop (mkF m 16 #[.val (.int p0), .val (.int p1), .val (.int p2), .val (.int p3), .val (.ref b1), .val (.ref b8), .unset] [(.ref b1)])) _
      refine st11.trans ?_
      exact kt)
  have hd19_13 : (f6 (0 : Int32) (0 : Int32)) = (0 : Int32) := rfl
  obtain ⟨_, _, ⟨T14, L14, k14, n14⟩, -, X14, ⟨Lc14, hQ14, l14, y14, z14⟩, st14⟩ := Jvm.LawKit.callS X11 hx (y := (⟨"com/example/cardhost/cardhost/TransactionsRecordingPinLaw", "step", "(Lcom/example/cardhost/cardhost/Transactions;[ZI)Z"⟩ : MethodName)) hown (mvT hZ (hw _ (List.mem_of_getElem? (i := 45) rfl))) (mvT hZ (hw _ (List.mem_of_getElem? (i := 46) rfl))) (mvT hZ (hw _ (List.mem_of_getElem? (i := 47) rfl))) (mvT hZ (hw _ (List.mem_of_getElem? (i := 48) rfl))) (by decide) (backOf (W := 0) (rm7 l Z a0 hw [] b1 b8 p0 r_o0_undo_4 (0 : Int32) (0 : Int32) (0 : Int32) es (fun _ => 0) h8 n0 Z10 ((E_b1.keep K4q).ext E8) (G4_0.ext E8) (G4_5.ext E8) (G4_6.ext E8) (G4_7.ext E8) (G4_1.ext E8) (G4_2.ext E8) (G4_4.ext E8) (G4_3.ext E8) ne_b1_r_o0_undo_4 g_b1 g_r_o0_undo_4 (((V_es.ext E1).keep K4q (ninS ne_es_b1 nin0)).ext E8) ne_es_b1 ne_es_r_o0_undo_4 V_b8 ne_b1_b8 ne_r_o0_undo_4_b8 ne_es_b8 g_b8 (⟨rfl, rfl⟩)) hZ (hw _ (List.mem_of_getElem? (i := 48) rfl)) (hw _ (List.mem_of_getElem? (i := 47) rfl)) (by decide) (by decide)) (g := (mkF m 34 #[.val (.int p0), .val (.int p1), .val (.int p2), .val (.int p3), .val (.ref b1), .val (.ref b8), .val (.int (1 : Int32))] [(.int p0), (.ref b8), (.ref b1)])) rfl (by rw [hml]; rfl) (argsL := [(.ref b1), (.ref b8), (.int p0)]) (rest := []) (lenOf pd_0_2 rfl) rfl (by show 2 * 0 + _ ≤ _; exact Nat.le_of_eq rfl) (hb hby at_34) (fun _ _ => ⟨rfl, e11q, (by decide : 3 + 1 ≤ _), (by decide : 9 + 5 ≤ _)⟩)
  dsimp only [Pt.U, Pt.locs, Pt.cells, Pt.slots] at X14 l14 y14 z14 st14 hQ14
  subst l14 y14 z14
  obtain ⟨rfl, N14q, K14q, G14_0, G14_1, G14_2, G14_3, G14_4, G14_5, G14_6, G14_7⟩ := hQ14
  have N14 := Fr.app N11 N14q
  have K15 : Keep h0 T14.heap [] := K9.trans K14q (allS (Or.inr sz_b1) (allS (Or.inr sz_b8) (allS (Or.inr sz_r_o0_undo_4) all0)))
  have Z16 : n0 ≤ T14.heap.size := Nat.le_trans Z0 K15.1
  obtain ⟨LS14, X14, N14⟩ : ∃ L, Stand p l e room_1 s m #[(.int p0), (.int p1), (.int p2), (.int p3)] below meth c T14 L 4 14 ∧ Fr n0 L := ⟨_, X14, N14⟩
  have pre17 : ∀ t, Steps p.tables e below (T14.setTop (mkF m 37 #[.val (.int p0), .val (.int p1), .val (.int p2), .val (.int p3), .val (.ref b1), .val (.ref b8), .val (.int (1 : Int32))] [(.int (1 : Int32))])) t → Steps p.tables e below (s₁.setTop (entryFrame m #[(.int p0), (.int p1), (.int p2), (.int p3)] maxLocals)) t := fun t kt => pre12 t (by
      show Steps p.tables e below (T11.setTop (mkF m 19 #[.val (.int p0), .val (.int p1), .val (.int p2), .val (.int p3), .val (.ref b1), .val (.ref b8), .unset] [(.int (f6 (0 : Int32) (0 : Int32)))])) _
      refine XS.ifNo X11.here hx rfl (hb hby at_19) rfl ((if0 _ _).trans (teq hd19_13).2) ?_
      show Steps p.tables e below (T11.setTop (mkF m 22 #[.val (.int p0), .val (.int p1), .val (.int p2), .val (.int p3), .val (.ref b1), .val (.ref b8), .unset] [])) _
      refine XS.iconst X11.here hx rfl (hb hby at_22) ?_
      show Steps p.tables e below (T11.setTop (mkF m 23 #[.val (.int p0), .val (.int p1), .val (.int p2), .val (.int p3), .val (.ref b1), .val (.ref b8), .unset] [(.int (1 : Int32))])) _
      refine XS.goto X11.here hx rfl (pc0 := 23) (pc' := 27) rfl (hb hby at_23) (by decide) (by decide) ?_
      show Steps p.tables e below (T11.setTop (mkF m 27 #[.val (.int p0), .val (.int p1), .val (.int p2), .val (.int p3), .val (.ref b1), .val (.ref b8), .unset] [(.int (1 : Int32))])) _
      refine XS.istore X11.here hx rfl (hb hby at_27) rfl (l' := #[.val (.int p0), .val (.int p1), .val (.int p2), .val (.int p3), .val (.ref b1), .val (.ref b8), .val (.int (1 : Int32))]) rfl ?_
      show Steps p.tables e below (T11.setTop (mkF m 29 #[.val (.int p0), .val (.int p1), .val (.int p2), .val (.int p3), .val (.ref b1), .val (.ref b8), .val (.int (1 : Int32))] [])) _
      refine XS.aload X11.here hx rfl (hb hby at_29) rfl rfl ?_
      show Steps p.tables e below (T11.setTop (mkF m 31 #[.val (.int p0), .val (.int p1), .val (.int p2), .val (.int p3), .val (.ref b1), .val (.ref b8), .val (.int (1 : Int32))] [(.ref b1)])) _
      refine XS.aload X11.here hx rfl (hb hby at_31) rfl rfl ?_
      show Steps p.tables e below (T11.setTop (mkF m 33 #[.val (.int p0), .val (.int p1), .val (.int p2), .val (.int p3), .val (.ref b1), .val (.ref b8), .val (.int (1 : Int32))] [(.ref b8), (.ref b1)])) _
      refine XS.iloadN X11.here hx rfl (hb hby at_33) rfl ?_
      show Steps p.tables e below (T11.setTop (mkF m 34 #[.val (.int p0), .val (.int p1), .val (.int p2), .val (.int p3), .val (.ref b1), .val (.ref b8), .val (.int (1 : Int32))] [(.int p0), (.ref b8), (.ref b1)])) _
      refine st14 _ ?_
      exact kt)
  have pre18 : ∀ t, Steps p.tables e below (T14.setTop (mkF m 42 #[.val (.int p0), .val (.int p1), .val (.int p2), .val (.int p3), .val (.ref b1), .val (.ref b8), .val (.int (1 : Int32))] [(.int (1 : Int32))])) t → Steps p.tables e below (s₁.setTop (entryFrame m #[(.int p0), (.int p1), (.int p2), (.int p3)] maxLocals)) t := fun t kt => pre17 t (by
      show Steps p.tables e below (T14.setTop (mkF m 37 #[.val (.int p0), .val (.int p1), .val (.int p2), .val (.int p3), .val (.ref b1), .val (.ref b8), .val (.int (1 : Int32))] [(.int (1 : Int32))])) _
      refine XS.ifNo X14.here hx rfl (hb hby at_37) rfl ((if0 _ _).trans (feq (by decide : ¬ ((1 : Int32) = (0 : Int32)))).1) ?_
      show Steps p.tables e below (T14.setTop (mkF m 40 #[.val (.int p0), .val (.int p1), .val (.int p2), .val (.int p3), .val (.ref b1), .val (.ref b8), .val (.int (1 : Int32))] [])) _
      refine XS.iload X14.here hx rfl (hb hby at_40) rfl ?_
      exact kt)
  have c20 := ((((V_es.ext E1).keep K4q (ninS ne_es_b1 nin0)).ext E8).keep K14q (ninS ne_es_b1 (ninS ne_es_b8 (ninS ne_es_r_o0_undo_4 nin0))))
  obtain ⟨_, _, ⟨T19, L19, k19, n19⟩, -, X19, ⟨Lc19, hQ19, l19, y19, z19⟩, st19⟩ := Jvm.LawKit.callS X14 hx (y := (⟨"com/example/cardhost/cardhost/TransactionsRecordingPinLaw", "step", "(Lcom/example/cardhost/cardhost/Transactions;[ZI)Z"⟩ : MethodName)) hown (mvT hZ (hw _ (List.mem_of_getElem? (i := 45) rfl))) (mvT hZ (hw _ (List.mem_of_getElem? (i := 46) rfl))) (mvT hZ (hw _ (List.mem_of_getElem? (i := 47) rfl))) (mvT hZ (hw _ (List.mem_of_getElem? (i := 48) rfl))) (by decide) (backOf (W := 0) (rm7 l Z a0 hw [] b1 b8 p1 r_o0_undo_4 (hj7_5_inProgress p0 (0 : Int32) (fun _ => 0)) (hj7_5_installing p0 (0 : Int32) (fun _ => 0)) (hj7_5_modCount p0 (0 : Int32) (0 : Int32) (fun _ => 0)) es (hj7_5_0 p0 (fun _ => 0)) T14.heap n0 Z16 (((E_b1.keep K4q).ext E8).keep K14q) G14_1 G14_2 G14_3 G14_4 ((G4_1.ext E8).keep K14q) G14_5 G14_6 G14_7 ne_b1_r_o0_undo_4 g_b1 g_r_o0_undo_4 c20 ne_es_b1 ne_es_r_o0_undo_4 G14_0 ne_b1_b8 ne_r_o0_undo_4_b8 ne_es_b8 g_b8 (own_inv (⟨rfl, rfl⟩))) hZ (hw _ (List.mem_of_getElem? (i := 48) rfl)) (hw _ (List.mem_of_getElem? (i := 47) rfl)) (by decide) (by decide)) (g := (mkF m 57 #[.val (.int p0), .val (.int p1), .val (.int p2), .val (.int p3), .val (.ref b1), .val (.ref b8), .val (.int (1 : Int32))] [(.int p1), (.ref b8), (.ref b1)])) rfl (by rw [hml]; rfl) (argsL := [(.ref b1), (.ref b8), (.int p1)]) (rest := []) (lenOf pd_0_2 rfl) rfl (by show 2 * 0 + _ ≤ _; exact Nat.le_of_eq rfl) (hb hby at_57) (fun _ _ => ⟨rfl, rfl, (by decide : 4 + 1 ≤ _), (by decide : 14 + 5 ≤ _)⟩)
  dsimp only [Pt.U, Pt.locs, Pt.cells, Pt.slots] at X19 l19 y19 z19 st19 hQ19
  subst l19 y19 z19
  obtain ⟨rfl, N19q, K19q, G19_0, G19_1, G19_2, G19_3, G19_4, G19_5, G19_6, G19_7⟩ := hQ19
  have N19 := Fr.app N14 N19q
  have K21 : Keep h0 T19.heap [] := K15.trans K19q (allS (Or.inr sz_b1) (allS (Or.inr sz_b8) (allS (Or.inr sz_r_o0_undo_4) all0)))
  have Z22 : n0 ≤ T19.heap.size := Nat.le_trans Z0 K21.1
  obtain ⟨LS19, X19, N19⟩ : ∃ L, Stand p l e room_1 s m #[(.int p0), (.int p1), (.int p2), (.int p3)] below meth c T19 L 5 19 ∧ Fr n0 L := ⟨_, X19, N19⟩
  have pre23 : ∀ t, Steps p.tables e below (T19.setTop (mkF m 60 #[.val (.int p0), .val (.int p1), .val (.int p2), .val (.int p3), .val (.ref b1), .val (.ref b8), .val (.int (1 : Int32))] [(.int (1 : Int32))])) t → Steps p.tables e below (s₁.setTop (entryFrame m #[(.int p0), (.int p1), (.int p2), (.int p3)] maxLocals)) t := fun t kt => pre18 t (by
      show Steps p.tables e below (T14.setTop (mkF m 42 #[.val (.int p0), .val (.int p1), .val (.int p2), .val (.int p3), .val (.ref b1), .val (.ref b8), .val (.int (1 : Int32))] [(.int (1 : Int32))])) _
      refine XS.ifNo X14.here hx rfl (hb hby at_42) rfl ((if0 _ _).trans (feq (by decide : ¬ ((1 : Int32) = (0 : Int32)))).1) ?_
      show Steps p.tables e below (T14.setTop (mkF m 45 #[.val (.int p0), .val (.int p1), .val (.int p2), .val (.int p3), .val (.ref b1), .val (.ref b8), .val (.int (1 : Int32))] [])) _
      refine XS.iconst X14.here hx rfl (hb hby at_45) ?_
      show Steps p.tables e below (T14.setTop (mkF m 46 #[.val (.int p0), .val (.int p1), .val (.int p2), .val (.int p3), .val (.ref b1), .val (.ref b8), .val (.int (1 : Int32))] [(.int (1 : Int32))])) _
      refine XS.goto X14.here hx rfl (pc0 := 46) (pc' := 50) rfl (hb hby at_46) (by decide) (by decide) ?_
      show Steps p.tables e below (T14.setTop (mkF m 50 #[.val (.int p0), .val (.int p1), .val (.int p2), .val (.int p3), .val (.ref b1), .val (.ref b8), .val (.int (1 : Int32))] [(.int (1 : Int32))])) _
      refine XS.istore X14.here hx rfl (hb hby at_50) rfl (l' := #[.val (.int p0), .val (.int p1), .val (.int p2), .val (.int p3), .val (.ref b1), .val (.ref b8), .val (.int (1 : Int32))]) rfl ?_
      show Steps p.tables e below (T14.setTop (mkF m 52 #[.val (.int p0), .val (.int p1), .val (.int p2), .val (.int p3), .val (.ref b1), .val (.ref b8), .val (.int (1 : Int32))] [])) _
      refine XS.aload X14.here hx rfl (hb hby at_52) rfl rfl ?_
      show Steps p.tables e below (T14.setTop (mkF m 54 #[.val (.int p0), .val (.int p1), .val (.int p2), .val (.int p3), .val (.ref b1), .val (.ref b8), .val (.int (1 : Int32))] [(.ref b1)])) _
      refine XS.aload X14.here hx rfl (hb hby at_54) rfl rfl ?_
      show Steps p.tables e below (T14.setTop (mkF m 56 #[.val (.int p0), .val (.int p1), .val (.int p2), .val (.int p3), .val (.ref b1), .val (.ref b8), .val (.int (1 : Int32))] [(.ref b8), (.ref b1)])) _
      refine XS.iloadN X14.here hx rfl (hb hby at_56) rfl ?_
      show Steps p.tables e below (T14.setTop (mkF m 57 #[.val (.int p0), .val (.int p1), .val (.int p2), .val (.int p3), .val (.ref b1), .val (.ref b8), .val (.int (1 : Int32))] [(.int p1), (.ref b8), (.ref b1)])) _
      refine st19 _ ?_
      exact kt)
  have pre24 : ∀ t, Steps p.tables e below (T19.setTop (mkF m 65 #[.val (.int p0), .val (.int p1), .val (.int p2), .val (.int p3), .val (.ref b1), .val (.ref b8), .val (.int (1 : Int32))] [(.int (1 : Int32))])) t → Steps p.tables e below (s₁.setTop (entryFrame m #[(.int p0), (.int p1), (.int p2), (.int p3)] maxLocals)) t := fun t kt => pre23 t (by
      show Steps p.tables e below (T19.setTop (mkF m 60 #[.val (.int p0), .val (.int p1), .val (.int p2), .val (.int p3), .val (.ref b1), .val (.ref b8), .val (.int (1 : Int32))] [(.int (1 : Int32))])) _
      refine XS.ifNo X19.here hx rfl (hb hby at_60) rfl ((if0 _ _).trans (feq (by decide : ¬ ((1 : Int32) = (0 : Int32)))).1) ?_
      show Steps p.tables e below (T19.setTop (mkF m 63 #[.val (.int p0), .val (.int p1), .val (.int p2), .val (.int p3), .val (.ref b1), .val (.ref b8), .val (.int (1 : Int32))] [])) _
      refine XS.iload X19.here hx rfl (hb hby at_63) rfl ?_
      exact kt)
  have c26 := (c20.keep K19q (ninS ne_es_b1 (ninS ne_es_b8 (ninS ne_es_r_o0_undo_4 nin0))))
  obtain ⟨_, _, ⟨T25, L25, k25, n25⟩, -, X25, ⟨Lc25, hQ25, l25, y25, z25⟩, st25⟩ := Jvm.LawKit.callS X19 hx (y := (⟨"com/example/cardhost/cardhost/TransactionsRecordingPinLaw", "step", "(Lcom/example/cardhost/cardhost/Transactions;[ZI)Z"⟩ : MethodName)) hown (mvT hZ (hw _ (List.mem_of_getElem? (i := 45) rfl))) (mvT hZ (hw _ (List.mem_of_getElem? (i := 46) rfl))) (mvT hZ (hw _ (List.mem_of_getElem? (i := 47) rfl))) (mvT hZ (hw _ (List.mem_of_getElem? (i := 48) rfl))) (by decide) (backOf (W := 0) (rm7 l Z a0 hw [] b1 b8 p2 r_o0_undo_4 (hj7_5_inProgress p1 (hj7_5_inProgress p0 (0 : Int32) (fun _ => 0)) (hj7_5_0 p0 (fun _ => 0))) (hj7_5_installing p1 (hj7_5_installing p0 (0 : Int32) (fun _ => 0)) (hj7_5_0 p0 (fun _ => 0))) (hj7_5_modCount p1 (hj7_5_installing p0 (0 : Int32) (fun _ => 0)) (hj7_5_modCount p0 (0 : Int32) (0 : Int32) (fun _ => 0)) (hj7_5_0 p0 (fun _ => 0))) es (hj7_5_0 p1 (hj7_5_0 p0 (fun _ => 0))) T19.heap n0 Z22 ((((E_b1.keep K4q).ext E8).keep K14q).keep K19q) G19_1 G19_2 G19_3 G19_4 (((G4_1.ext E8).keep K14q).keep K19q) G19_5 G19_6 G19_7 ne_b1_r_o0_undo_4 g_b1 g_r_o0_undo_4 c26 ne_es_b1 ne_es_r_o0_undo_4 G19_0 ne_b1_b8 ne_r_o0_undo_4_b8 ne_es_b8 g_b8 (own_inv (own_inv (⟨rfl, rfl⟩)))) hZ (hw _ (List.mem_of_getElem? (i := 48) rfl)) (hw _ (List.mem_of_getElem? (i := 47) rfl)) (by decide) (by decide)) (g := (mkF m 80 #[.val (.int p0), .val (.int p1), .val (.int p2), .val (.int p3), .val (.ref b1), .val (.ref b8), .val (.int (1 : Int32))] [(.int p2), (.ref b8), (.ref b1)])) rfl (by rw [hml]; rfl) (argsL := [(.ref b1), (.ref b8), (.int p2)]) (rest := []) (lenOf pd_0_2 rfl) rfl (by show 2 * 0 + _ ≤ _; exact Nat.le_of_eq rfl) (hb hby at_80) (fun _ _ => ⟨rfl, rfl, (by decide : 5 + 1 ≤ _), (by decide : 19 + 5 ≤ _)⟩)
  dsimp only [Pt.U, Pt.locs, Pt.cells, Pt.slots] at X25 l25 y25 z25 st25 hQ25
  subst l25 y25 z25
  obtain ⟨rfl, N25q, K25q, G25_0, G25_1, G25_2, G25_3, G25_4, G25_5, G25_6, G25_7⟩ := hQ25
  have N25 := Fr.app N19 N25q
  have K27 : Keep h0 T25.heap [] := K21.trans K25q (allS (Or.inr sz_b1) (allS (Or.inr sz_b8) (allS (Or.inr sz_r_o0_undo_4) all0)))
  have Z28 : n0 ≤ T25.heap.size := Nat.le_trans Z0 K27.1
  obtain ⟨LS25, X25, N25⟩ : ∃ L, Stand p l e room_1 s m #[(.int p0), (.int p1), (.int p2), (.int p3)] below meth c T25 L 6 24 ∧ Fr n0 L := ⟨_, X25, N25⟩
  have pre29 : ∀ t, Steps p.tables e below (T25.setTop (mkF m 83 #[.val (.int p0), .val (.int p1), .val (.int p2), .val (.int p3), .val (.ref b1), .val (.ref b8), .val (.int (1 : Int32))] [(.int (1 : Int32))])) t → Steps p.tables e below (s₁.setTop (entryFrame m #[(.int p0), (.int p1), (.int p2), (.int p3)] maxLocals)) t := fun t kt => pre24 t (by
      show Steps p.tables e below (T19.setTop (mkF m 65 #[.val (.int p0), .val (.int p1), .val (.int p2), .val (.int p3), .val (.ref b1), .val (.ref b8), .val (.int (1 : Int32))] [(.int (1 : Int32))])) _
      refine XS.ifNo X19.here hx rfl (hb hby at_65) rfl ((if0 _ _).trans (feq (by decide : ¬ ((1 : Int32) = (0 : Int32)))).1) ?_
      show Steps p.tables e below (T19.setTop (mkF m 68 #[.val (.int p0), .val (.int p1), .val (.int p2), .val (.int p3), .val (.ref b1), .val (.ref b8), .val (.int (1 : Int32))] [])) _
      refine XS.iconst X19.here hx rfl (hb hby at_68) ?_
      show Steps p.tables e below (T19.setTop (mkF m 69 #[.val (.int p0), .val (.int p1), .val (.int p2), .val (.int p3), .val (.ref b1), .val (.ref b8), .val (.int (1 : Int32))] [(.int (1 : Int32))])) _
      refine XS.goto X19.here hx rfl (pc0 := 69) (pc' := 73) rfl (hb hby at_69) (by decide) (by decide) ?_
      show Steps p.tables e below (T19.setTop (mkF m 73 #[.val (.int p0), .val (.int p1), .val (.int p2), .val (.int p3), .val (.ref b1), .val (.ref b8), .val (.int (1 : Int32))] [(.int (1 : Int32))])) _
      refine XS.istore X19.here hx rfl (hb hby at_73) rfl (l' := #[.val (.int p0), .val (.int p1), .val (.int p2), .val (.int p3), .val (.ref b1), .val (.ref b8), .val (.int (1 : Int32))]) rfl ?_
      show Steps p.tables e below (T19.setTop (mkF m 75 #[.val (.int p0), .val (.int p1), .val (.int p2), .val (.int p3), .val (.ref b1), .val (.ref b8), .val (.int (1 : Int32))] [])) _
      refine XS.aload X19.here hx rfl (hb hby at_75) rfl rfl ?_
      show Steps p.tables e below (T19.setTop (mkF m 77 #[.val (.int p0), .val (.int p1), .val (.int p2), .val (.int p3), .val (.ref b1), .val (.ref b8), .val (.int (1 : Int32))] [(.ref b1)])) _
      refine XS.aload X19.here hx rfl (hb hby at_77) rfl rfl ?_
      show Steps p.tables e below (T19.setTop (mkF m 79 #[.val (.int p0), .val (.int p1), .val (.int p2), .val (.int p3), .val (.ref b1), .val (.ref b8), .val (.int (1 : Int32))] [(.ref b8), (.ref b1)])) _
      refine XS.iloadN X19.here hx rfl (hb hby at_79) rfl ?_
      show Steps p.tables e below (T19.setTop (mkF m 80 #[.val (.int p0), .val (.int p1), .val (.int p2), .val (.int p3), .val (.ref b1), .val (.ref b8), .val (.int (1 : Int32))] [(.int p2), (.ref b8), (.ref b1)])) _
      refine st25 _ ?_
      exact kt)
  have pre30 : ∀ t, Steps p.tables e below (T25.setTop (mkF m 88 #[.val (.int p0), .val (.int p1), .val (.int p2), .val (.int p3), .val (.ref b1), .val (.ref b8), .val (.int (1 : Int32))] [(.int (1 : Int32))])) t → Steps p.tables e below (s₁.setTop (entryFrame m #[(.int p0), (.int p1), (.int p2), (.int p3)] maxLocals)) t := fun t kt => pre29 t (by
      show Steps p.tables e below (T25.setTop (mkF m 83 #[.val (.int p0), .val (.int p1), .val (.int p2), .val (.int p3), .val (.ref b1), .val (.ref b8), .val (.int (1 : Int32))] [(.int (1 : Int32))])) _
      refine XS.ifNo X25.here hx rfl (hb hby at_83) rfl ((if0 _ _).trans (feq (by decide : ¬ ((1 : Int32) = (0 : Int32)))).1) ?_
      show Steps p.tables e below (T25.setTop (mkF m 86 #[.val (.int p0), .val (.int p1), .val (.int p2), .val (.int p3), .val (.ref b1), .val (.ref b8), .val (.int (1 : Int32))] [])) _
      refine XS.iload X25.here hx rfl (hb hby at_86) rfl ?_
      exact kt)
  have c32 := (c26.keep K25q (ninS ne_es_b1 (ninS ne_es_b8 (ninS ne_es_r_o0_undo_4 nin0))))
  obtain ⟨_, _, ⟨T31, L31, k31, n31⟩, -, X31, ⟨Lc31, hQ31, l31, y31, z31⟩, st31⟩ := Jvm.LawKit.callS X25 hx (y := (⟨"com/example/cardhost/cardhost/TransactionsRecordingPinLaw", "step", "(Lcom/example/cardhost/cardhost/Transactions;[ZI)Z"⟩ : MethodName)) hown (mvT hZ (hw _ (List.mem_of_getElem? (i := 45) rfl))) (mvT hZ (hw _ (List.mem_of_getElem? (i := 46) rfl))) (mvT hZ (hw _ (List.mem_of_getElem? (i := 47) rfl))) (mvT hZ (hw _ (List.mem_of_getElem? (i := 48) rfl))) (by decide) (backOf (W := 0) (rm7 l Z a0 hw [] b1 b8 p3 r_o0_undo_4 (hj7_5_inProgress p2 (hj7_5_inProgress p1 (hj7_5_inProgress p0 (0 : Int32) (fun _ => 0)) (hj7_5_0 p0 (fun _ => 0))) (hj7_5_0 p1 (hj7_5_0 p0 (fun _ => 0)))) (hj7_5_installing p2 (hj7_5_installing p1 (hj7_5_installing p0 (0 : Int32) (fun _ => 0)) (hj7_5_0 p0 (fun _ => 0))) (hj7_5_0 p1 (hj7_5_0 p0 (fun _ => 0)))) (hj7_5_modCount p2 (hj7_5_installing p1 (hj7_5_installing p0 (0 : Int32) (fun _ => 0)) (hj7_5_0 p0 (fun _ => 0))) (hj7_5_modCount p1 (hj7_5_installing p0 (0 : Int32) (fun _ => 0)) (hj7_5_modCount p0 (0 : Int32) (0 : Int32) (fun _ => 0)) (hj7_5_0 p0 (fun _ => 0))) (hj7_5_0 p1 (hj7_5_0 p0 (fun _ => 0)))) es (hj7_5_0 p2 (hj7_5_0 p1 (hj7_5_0 p0 (fun _ => 0)))) T25.heap n0 Z28 (((((E_b1.keep K4q).ext E8).keep K14q).keep K19q).keep K25q) G25_1 G25_2 G25_3 G25_4 ((((G4_1.ext E8).keep K14q).keep K19q).keep K25q) G25_5 G25_6 G25_7 ne_b1_r_o0_undo_4 g_b1 g_r_o0_undo_4 c32 ne_es_b1 ne_es_r_o0_undo_4 G25_0 ne_b1_b8 ne_r_o0_undo_4_b8 ne_es_b8 g_b8 (own_inv (own_inv (own_inv (⟨rfl, rfl⟩))))) hZ (hw _ (List.mem_of_getElem? (i := 48) rfl)) (hw _ (List.mem_of_getElem? (i := 47) rfl)) (by decide) (by decide)) (g := (mkF m 103 #[.val (.int p0), .val (.int p1), .val (.int p2), .val (.int p3), .val (.ref b1), .val (.ref b8), .val (.int (1 : Int32))] [(.int p3), (.ref b8), (.ref b1)])) rfl (by rw [hml]; rfl) (argsL := [(.ref b1), (.ref b8), (.int p3)]) (rest := []) (lenOf pd_0_2 rfl) rfl (by show 2 * 0 + _ ≤ _; exact Nat.le_of_eq rfl) (hb hby at_103) (fun _ _ => ⟨rfl, rfl, (by decide : 6 + 1 ≤ _), (by decide : 24 + 5 ≤ _)⟩)
  dsimp only [Pt.U, Pt.locs, Pt.cells, Pt.slots] at X31 l31 y31 z31 st31 hQ31
  subst l31 y31 z31
  obtain ⟨rfl, N31q, K31q, G31_0, G31_1, G31_2, G31_3, G31_4, G31_5, G31_6, G31_7⟩ := hQ31
  have N31 := Fr.app N25 N31q
  have K33 : Keep h0 T31.heap [] := K27.trans K31q (allS (Or.inr sz_b1) (allS (Or.inr sz_b8) (allS (Or.inr sz_r_o0_undo_4) all0)))
  have Z34 : n0 ≤ T31.heap.size := Nat.le_trans Z0 K33.1
  obtain ⟨LS31, X31, N31⟩ : ∃ L, Stand p l e room_1 s m #[(.int p0), (.int p1), (.int p2), (.int p3)] below meth c T31 L 7 29 ∧ Fr n0 L := ⟨_, X31, N31⟩
  have pre35 : ∀ t, Steps p.tables e below (T31.setTop (mkF m 106 #[.val (.int p0), .val (.int p1), .val (.int p2), .val (.int p3), .val (.ref b1), .val (.ref b8), .val (.int (1 : Int32))] [(.int (1 : Int32))])) t → Steps p.tables e below (s₁.setTop (entryFrame m #[(.int p0), (.int p1), (.int p2), (.int p3)] maxLocals)) t := fun t kt => pre30 t (by
      show Steps p.tables e below (T25.setTop (mkF m 88 #[.val (.int p0), .val (.int p1), .val (.int p2), .val (.int p3), .val (.ref b1), .val (.ref b8), .val (.int (1 : Int32))] [(.int (1 : Int32))])) _
      refine XS.ifNo X25.here hx rfl (hb hby at_88) rfl ((if0 _ _).trans (feq (by decide : ¬ ((1 : Int32) = (0 : Int32)))).1) ?_
      show Steps p.tables e below (T25.setTop (mkF m 91 #[.val (.int p0), .val (.int p1), .val (.int p2), .val (.int p3), .val (.ref b1), .val (.ref b8), .val (.int (1 : Int32))] [])) _
      refine XS.iconst X25.here hx rfl (hb hby at_91) ?_
      show Steps p.tables e below (T25.setTop (mkF m 92 #[.val (.int p0), .val (.int p1), .val (.int p2), .val (.int p3), .val (.ref b1), .val (.ref b8), .val (.int (1 : Int32))] [(.int (1 : Int32))])) _
      refine XS.goto X25.here hx rfl (pc0 := 92) (pc' := 96) rfl (hb hby at_92) (by decide) (by decide) ?_
      show Steps p.tables e below (T25.setTop (mkF m 96 #[.val (.int p0), .val (.int p1), .val (.int p2), .val (.int p3), .val (.ref b1), .val (.ref b8), .val (.int (1 : Int32))] [(.int (1 : Int32))])) _
      refine XS.istore X25.here hx rfl (hb hby at_96) rfl (l' := #[.val (.int p0), .val (.int p1), .val (.int p2), .val (.int p3), .val (.ref b1), .val (.ref b8), .val (.int (1 : Int32))]) rfl ?_
      show Steps p.tables e below (T25.setTop (mkF m 98 #[.val (.int p0), .val (.int p1), .val (.int p2), .val (.int p3), .val (.ref b1), .val (.ref b8), .val (.int (1 : Int32))] [])) _
      refine XS.aload X25.here hx rfl (hb hby at_98) rfl rfl ?_
      show Steps p.tables e below (T25.setTop (mkF m 100 #[.val (.int p0), .val (.int p1), .val (.int p2), .val (.int p3), .val (.ref b1), .val (.ref b8), .val (.int (1 : Int32))] [(.ref b1)])) _
      refine XS.aload X25.here hx rfl (hb hby at_100) rfl rfl ?_
      show Steps p.tables e below (T25.setTop (mkF m 102 #[.val (.int p0), .val (.int p1), .val (.int p2), .val (.int p3), .val (.ref b1), .val (.ref b8), .val (.int (1 : Int32))] [(.ref b8), (.ref b1)])) _
      refine XS.iloadN X25.here hx rfl (hb hby at_102) rfl ?_
      show Steps p.tables e below (T25.setTop (mkF m 103 #[.val (.int p0), .val (.int p1), .val (.int p2), .val (.int p3), .val (.ref b1), .val (.ref b8), .val (.int (1 : Int32))] [(.int p3), (.ref b8), (.ref b1)])) _
      refine st31 _ ?_
      exact kt)
  have pre36 : ∀ t, Steps p.tables e below (T31.setTop (mkF m 111 #[.val (.int p0), .val (.int p1), .val (.int p2), .val (.int p3), .val (.ref b1), .val (.ref b8), .val (.int (1 : Int32))] [(.int (1 : Int32))])) t → Steps p.tables e below (s₁.setTop (entryFrame m #[(.int p0), (.int p1), (.int p2), (.int p3)] maxLocals)) t := fun t kt => pre35 t (by
      show Steps p.tables e below (T31.setTop (mkF m 106 #[.val (.int p0), .val (.int p1), .val (.int p2), .val (.int p3), .val (.ref b1), .val (.ref b8), .val (.int (1 : Int32))] [(.int (1 : Int32))])) _
      refine XS.ifNo X31.here hx rfl (hb hby at_106) rfl ((if0 _ _).trans (feq (by decide : ¬ ((1 : Int32) = (0 : Int32)))).1) ?_
      show Steps p.tables e below (T31.setTop (mkF m 109 #[.val (.int p0), .val (.int p1), .val (.int p2), .val (.int p3), .val (.ref b1), .val (.ref b8), .val (.int (1 : Int32))] [])) _
      refine XS.iload X31.here hx rfl (hb hby at_109) rfl ?_
      exact kt)
  obtain ⟨fs, hr, hrun, hended, hW, hsame⟩ := X31.leave (v := some (.int (1 : Int32))) (fun h => by rw [Bd.returns] at h; cases h)
  have hv37 : (1 : Int32) = (1 : Int32) := rfl
  refine ⟨_, _, pre36 _ ?_, hrun, hended, _, _, rfl, ?_, ⟨_, rfl⟩, hW, hsame.mono (by decide) (by decide)⟩
  · show Steps p.tables e below (T31.setTop (mkF m 111 #[.val (.int p0), .val (.int p1), .val (.int p2), .val (.int p3), .val (.ref b1), .val (.ref b8), .val (.int (1 : Int32))] [(.int (1 : Int32))])) _
    refine XS.ifNo X31.here hx rfl (hb hby at_111) rfl ((if0 _ _).trans (feq (by decide : ¬ ((1 : Int32) = (0 : Int32)))).1) ?_
    show Steps p.tables e below (T31.setTop (mkF m 114 #[.val (.int p0), .val (.int p1), .val (.int p2), .val (.int p3), .val (.ref b1), .val (.ref b8), .val (.int (1 : Int32))] [])) _
    refine XS.iconst X31.here hx rfl (hb hby at_114) ?_
    show Steps p.tables e below (T31.setTop (mkF m 115 #[.val (.int p0), .val (.int p1), .val (.int p2), .val (.int p3), .val (.ref b1), .val (.ref b8), .val (.int (1 : Int32))] [(.int (1 : Int32))])) _
    refine XS.goto X31.here hx rfl (pc0 := 115) (pc' := 119) rfl (hb hby at_115) (by decide) (by decide) ?_
    show Steps p.tables e below (T31.setTop (mkF m 119 #[.val (.int p0), .val (.int p1), .val (.int p2), .val (.int p3), .val (.ref b1), .val (.ref b8), .val (.int (1 : Int32))] [(.int (1 : Int32))])) _
    refine XS.istore X31.here hx rfl (hb hby at_119) rfl (l' := #[.val (.int p0), .val (.int p1), .val (.int p2), .val (.int p3), .val (.ref b1), .val (.ref b8), .val (.int (1 : Int32))]) rfl ?_
    show Steps p.tables e below (T31.setTop (mkF m 121 #[.val (.int p0), .val (.int p1), .val (.int p2), .val (.int p3), .val (.ref b1), .val (.ref b8), .val (.int (1 : Int32))] [])) _
    refine XS.iload X31.here hx rfl (hb hby at_121) rfl ?_
    show Steps p.tables e below (T31.setTop (mkF m 123 #[.val (.int p0), .val (.int p1), .val (.int p2), .val (.int p3), .val (.ref b1), .val (.ref b8), .val (.int (1 : Int32))] [(.int (1 : Int32))])) _
    exact retN X31 hx (t := .boolean) Bd.returns (by simp) (hb hby at_123) hr
  · show Q0 Z p0 p1 p2 p3 es h0 n0 _ T31.heap _
    exact ⟨congrArg (fun q => some (Value.int q)) hv37, N31⟩
set_option maxRecDepth 65536 in
set_option maxHeartbeats 40000000 in
theorem comes_1 {Post : Tables → Env → Array Value → State → Outcome → State → Prop} (hpost : ∀ tb e args s v u, (limb_1_1.after args s (.returned v) u = true ∧ limb_1_2.after args s (.returned v) u = true ∧ True) → FrameEnd s (.returned v) u (Jvm.fieldLocs frame_1_writes args s ++ Jvm.arrayLocs frame_1_arrays args s ++ Jvm.staticLocs frame_1_statics s) 24 128 → Post tb e args s (.returned v) u) :
    ArmFor flags0 classFile x code maxLocals ret World_1 tables_1 room_1 Calls_1 rest_1 Pre_1 Post := by
  intro l hfl _ _ p e ha hc hk s m args below hf hA hF happ hP
  obtain ⟨hcalls, hrest, hpre⟩ := hP
  obtain ⟨-, -, -, hnamed, -, -, -, hat⟩ := (Spec.applies_iff hf).mp happ
  obtain ⟨hg, hn⟩ := and_e (Cond.before_iff.mp (show (Jvm.Cond.and given_1 narrow_1).before args s = true from hpre))
  obtain ⟨g1, g2⟩ := and_e hg
  obtain ⟨g3, g4⟩ := and_e g2
  obtain ⟨g5, g6⟩ := and_e g4
  obtain ⟨g7, g8⟩ := and_e g6
  obtain ⟨w0, w1, w2, w3, rfl⟩ : ∃ w0 w1 w2 w3 : Value, args = #[w0, w1, w2, w3] := by
    have hs : args.size = 4 := by simpa [Cond.value, given_1] using g1
    obtain ⟨L⟩ := args
    match L, hs with
    | [w0, w1, w2, w3], _ => exact ⟨w0, w1, w2, w3, rfl⟩
  have hw := fun d (hd : d ∈ tables_1) => atoms_spec (ws := Jvm.Cond.code x code maxLocals ret :: tables_1) hat d (List.mem_cons_of_mem _ hd)
  have hfit : Fit s := fun {y c} hc i hi => by
    obtain ⟨ha, rfl⟩ := Array.getElem?_eq_some_iff.mp hc
    have q := List.all_eq_true.mp ((Array.all_eq_true_iff_forall_mem.mp hF) _ (Array.getElem_mem ha)) i (List.mem_range.mpr hi)
    simpa [Array.getElem?_eq_getElem hi] using q
  have hr0 : rest_1_c.value #[w0, w1, w2, w3] s none s [] = some true := Cond.before_iff.mp (show rest_1_c.before #[w0, w1, w2, w3] s = true from hrest)
  obtain ⟨k0, hr1⟩ := and_e hr0
  obtain ⟨k1, hr2⟩ := and_e hr1
  obtain ⟨k2, hr3⟩ := and_e hr2
  obtain ⟨k3, hr4⟩ := and_e hr3
  obtain ⟨k4, hr5⟩ := and_e hr4
  obtain ⟨k5, hr6⟩ := and_e hr5
  obtain ⟨k6, hr7⟩ := and_e hr6
  obtain ⟨k7, hr8⟩ := and_e hr7
  obtain ⟨k8, hr9⟩ := and_e hr8
  obtain ⟨es, ev⟩ := arr_v k6
  have S_es := Sta.start ev (Or.inr ⟨(hw _ (List.mem_of_getElem? (i := 11) rfl)), Cond.before_iff.mpr k2⟩)
  obtain ⟨cl, A⟩ := Arr.start ev k6
  have hlen := own_eqi k8
  have hsz : cl.slots.size = 0 := own_len0 ev (A.fin (Vm.Alike.refl _)) hlen
  have V_es : own_AL s s.heap es (.object "java/lang/Object") (0 : Int32) := ⟨cl, A, hsz, by decide, trivial⟩
  obtain ⟨i0, ei0⟩ := is_v g3
  obtain rfl : w0 = (.int i0) := Option.some.inj ei0
  obtain ⟨i1, ei1⟩ := is_v g5
  obtain rfl : w1 = (.int i1) := Option.some.inj ei1
  obtain ⟨i2, ei2⟩ := is_v g7
  obtain rfl : w2 = (.int i2) := Option.some.inj ei2
  obtain ⟨i3, ei3⟩ := is_v g8
  obtain rfl : w3 = (.int i3) := Option.some.inj ei3
  obtain ⟨n, o, h1, h2, h3, _, L, rfl, ⟨hv0, N⟩, hq⟩ := rm0 l s _ hw tables_1 i0 i1 i2 i3 es s.heap s.heap.size (Nat.le_refl _) S_es V_es p e ha hc hk s m _ below hf ((Spec.applies_iff_loose hf).mp happ).1 ⟨rfl, State.Warmed39.refl s, rfl⟩ trivial
  subst hv0
  refine ⟨n, _, h1, h2, h3, hpost _ _ _ _ _ _ ⟨Cond.after_iff.mpr rfl, Cond.after_iff.mpr (eq_i res_at (Term.int_eval (1)) rfl), trivial⟩ ⟨hq.1, hq.2.1, (hq.2.2.sift fun y hy => Or.inr (N y hy)).mono (by decide) (by decide)⟩⟩
theorem main_1_1 : Claimed_1_1 := comes_1 fun _ _ _ _ _ _ h hF => ⟨h.1, hF⟩
theorem main_1_2 : Claimed_1_2 := comes_1 fun _ _ _ _ _ _ h hF => ⟨h.2.1, hF⟩
end Jvm.Pilot.@@N@@
namespace Jvm.Pilot.@@N@@
open Jvm Jvm.ClassFile Sem Op Lib Jvm.Free Jvm.Stand Jvm.Pilot.@@N@@.Jvm.D
/-! MADE BY PROGRAM (witnessworld.py) out of the Statement's table words and the real class files: 22 classes; the members and pool entries that the words name. The judged class is class 1, her method 2. -/
namespace start1
open Jvm.ClassFile
def u (s : String) : CpInfo := .utf8 (stringToUtf16 s)
/-- a pool by its gaps: so many unusable entries, then the entry; so many at the end -/
def gap : Nat → List CpInfo → List CpInfo
  | 0, r => r
  | n + 1, r => .unusable :: gap n r
def poolList (es : List (Nat × CpInfo)) (last : Nat) : List CpInfo := es.foldr (fun e r => gap e.1 (e.2 :: r)) (gap last [])
def pool (es : List (Nat × CpInfo)) (last : Nat) : Array CpInfo := ⟨poolList es last⟩
def fileOf (pool : Array CpInfo) (this : Nat) (attrs : Array Attribute := #[]) (ms : Array MethodInfo := #[]) (fl : Nat := 33) (sup : Nat := 0) (ifs : Array Nat := #[]) (fds : Array FieldInfo := #[]) : ClassFile where
  minorVersion := 0
  majorVersion := 65
  constantPool := pool
  accessFlags := fl
  thisClass := this
  superClass := sup
  interfaces := ifs
  fields := fds
  methods := ms
  attributes := attrs
def plain (name : String) (sup : Option ClassId) : Class where
  name := name
  kind := .ordinary
  loader := none
  accessFlags := 33
  super := sup
  interfaces := #[]
  cf := none
  fields := #[]
  methods := #[]
  instanceTypes := #[]
  staticTypes := #[]
  resolved := #[]
  callSites := []
  init := .initialized
  statics := none
  mirror := none

def pool0 : Array CpInfo := pool [(5, u "<init>"), (0, u "()V"), (1, .class_ 10), (1, u "java/lang/Object")] 113

def k0c0 : Code := { maxStack := 0, maxLocals := 1, code := object_method_1_code, exceptionTable := #[], attributes := #[] }
def k0m0 : Method := { name := "<init>", desc := "()V", sig := { parameters := [], returnType := none }, accessFlags := 1, code := some k0c0 }
/-- java/lang/Object -/
def k0 : Class := { plain "java/lang/Object" none with
  accessFlags := 33
  interfaces := #[]
  cf := some (fileOf pool0 8 #[] #[{ accessFlags := 1, nameIndex := 5, descriptorIndex := 6, attributes := #[] }] 33 0 #[] #[])
  fields := #[]
  methods := #[k0m0]
  instanceTypes := #[]
  staticTypes := #[]
  resolved := Array.replicate 124 none
  statics := none }

def pool1 : Array CpInfo := pool [(2, .class_ 4), (0, .nameAndType 5 6), (0, u "java/lang/Object"), (0, u "<init>"), (0, u "()V"), (0, .methodref 8 9), (0, .class_ 10), (0, .nameAndType 11 6), (0, u "com/example/cardhost/cardhost/Transactions"), (0, u "begin"), (0, .methodref 8 13), (0, .nameAndType 14 6), (0, u "commit"), (0, .methodref 8 16), (0, .nameAndType 17 6), (0, u "abort"), (0, .methodref 8 19), (0, .nameAndType 20 6), (0, u "beginInstallation"), (0, .methodref 8 22), (0, .nameAndType 23 24), (0, u "endInstallation"), (0, u "(Z)V"), (0, .methodref 8 26), (0, .nameAndType 27 28), (0, u "recording"), (0, u "()Z"), (0, .methodref 8 3), (0, .methodref 31 32), (0, .class_ 33), (0, .nameAndType 34 35), (0, u "com/example/cardhost/cardhost/TransactionsRecordingPinLaw"), (0, u "step"), (0, u "(Lcom/example/cardhost/cardhost/Transactions;[ZI)Z"), (5, u "law"), (0, u "(IIII)Z")] 2

def k1m0 : Method := { name := "<init>", desc := "()V", sig := { parameters := [], returnType := none }, accessFlags := 1, code := none }
def k1c1 : Code := { maxStack := 3, maxLocals := 4, code := method_2_code, exceptionTable := #[], attributes := #[] }
def k1m1 : Method := { name := "step", desc := "(Lcom/example/cardhost/cardhost/Transactions;[ZI)Z", sig := { parameters := [(.object "com/example/cardhost/cardhost/Transactions"), (.array .boolean), .int], returnType := some .boolean }, accessFlags := 10, code := some k1c1 }
def k1c2 : Code := { maxStack := 3, maxLocals := 7, code := code, exceptionTable := #[], attributes := #[] }
def k1m2 : Method := { name := "law", desc := "(IIII)Z", sig := { parameters := [.int, .int, .int, .int], returnType := some .boolean }, accessFlags := 9, code := some k1c2 }
/-- com/example/cardhost/cardhost/TransactionsRecordingPinLaw -/
def k1 : Class := { plain "com/example/cardhost/cardhost/TransactionsRecordingPinLaw" (some 0) with
  accessFlags := 49
  interfaces := #[]
  cf := some (fileOf pool1 31 #[] #[{ accessFlags := 1, nameIndex := 5, descriptorIndex := 6, attributes := #[] }, { accessFlags := 10, nameIndex := 34, descriptorIndex := 35, attributes := #[] }, { accessFlags := 9, nameIndex := 41, descriptorIndex := 42, attributes := #[] }] 49 2 #[] #[])
  fields := #[]
  methods := #[k1m0, k1m1, k1m2]
  instanceTypes := #[]
  staticTypes := #[]
  resolved := Array.replicate 45 none
  statics := none }

def pool2 : Array CpInfo := pool [(1, .methodref 2 3), (0, .class_ 4), (0, .nameAndType 5 6), (0, u "java/lang/Object"), (0, u "<init>"), (0, u "()V"), (0, .class_ 8), (0, u "java/util/ArrayList"), (0, .methodref 7 3), (0, .fieldref 11 12), (0, .class_ 13), (0, .nameAndType 14 15), (0, u "com/example/cardhost/cardhost/Transactions"), (0, u "undo"), (0, u "Ljava/util/List;"), (0, .fieldref 11 17), (0, .nameAndType 18 19), (0, u "inProgress"), (0, u "Z"), (6, .interfaceMethodref 27 28), (0, .class_ 29), (0, .nameAndType 30 31), (0, u "java/util/List"), (0, u "size"), (0, u "()I"), (0, .fieldref 11 33), (0, .nameAndType 34 35), (0, u "inProgressFrom"), (0, u "I"), (0, .fieldref 11 37), (0, .nameAndType 38 19), (0, u "installing"), (0, .interfaceMethodref 27 40), (0, .nameAndType 41 6), (0, u "clear"), (0, .methodref 11 43), (0, .nameAndType 44 45), (0, u "putBack"), (0, u "(I)V"), (66, .interfaceMethodref 27 113), (0, .nameAndType 114 115), (0, u "subList"), (0, u "(II)Ljava/util/List;"), (9, u "begin"), (1, u "commit"), (0, u "abort"), (0, u "beginInstallation"), (0, u "endInstallation"), (0, u "(Z)V"), (0, u "()Z"), (2, u "recording")] 41

def k2c0 : Code := { maxStack := 3, maxLocals := 1, code := prog_5_method_1_code, exceptionTable := #[], attributes := #[] }
def k2m0 : Method := { name := "<init>", desc := "()V", sig := { parameters := [], returnType := none }, accessFlags := 0, code := some k2c0 }
def k2c1 : Code := { maxStack := 2, maxLocals := 1, code := prog_5_method_2_code, exceptionTable := #[], attributes := #[] }
def k2m1 : Method := { name := "begin", desc := "()V", sig := { parameters := [], returnType := none }, accessFlags := 0, code := some k2c1 }
def k2c2 : Code := { maxStack := 2, maxLocals := 1, code := prog_5_method_3_code, exceptionTable := #[], attributes := #[] }
def k2m2 : Method := { name := "commit", desc := "()V", sig := { parameters := [], returnType := none }, accessFlags := 0, code := some k2c2 }
def k2c3 : Code := { maxStack := 2, maxLocals := 1, code := prog_5_method_4_code, exceptionTable := #[], attributes := #[] }
def k2m3 : Method := { name := "abort", desc := "()V", sig := { parameters := [], returnType := none }, accessFlags := 0, code := some k2c3 }
def k2c4 : Code := { maxStack := 2, maxLocals := 1, code := prog_5_method_5_code, exceptionTable := #[], attributes := #[] }
def k2m4 : Method := { name := "beginInstallation", desc := "()V", sig := { parameters := [], returnType := none }, accessFlags := 0, code := some k2c4 }
def k2c5 : Code := { maxStack := 2, maxLocals := 2, code := prog_5_method_6_code, exceptionTable := #[], attributes := #[] }
def k2m5 : Method := { name := "endInstallation", desc := "(Z)V", sig := { parameters := [.boolean], returnType := none }, accessFlags := 0, code := some k2c5 }
def k2c6 : Code := { maxStack := 1, maxLocals := 1, code := prog_5_method_9_code, exceptionTable := #[], attributes := #[] }
def k2m6 : Method := { name := "recording", desc := "()Z", sig := { parameters := [], returnType := some .boolean }, accessFlags := 0, code := some k2c6 }
def k2c7 : Code := { maxStack := 3, maxLocals := 3, code := prog_5_method_12_code, exceptionTable := #[], attributes := #[] }
def k2m7 : Method := { name := "putBack", desc := "(I)V", sig := { parameters := [.int], returnType := none }, accessFlags := 2, code := some k2c7 }
/-- com/example/cardhost/cardhost/Transactions -/
def k2 : Class := { plain "com/example/cardhost/cardhost/Transactions" (some 0) with
  accessFlags := 48
  interfaces := #[]
  cf := some (fileOf pool2 11 #[] #[{ accessFlags := 0, nameIndex := 5, descriptorIndex := 6, attributes := #[] }, { accessFlags := 0, nameIndex := 125, descriptorIndex := 6, attributes := #[] }, { accessFlags := 0, nameIndex := 127, descriptorIndex := 6, attributes := #[] }, { accessFlags := 0, nameIndex := 128, descriptorIndex := 6, attributes := #[] }, { accessFlags := 0, nameIndex := 129, descriptorIndex := 6, attributes := #[] }, { accessFlags := 0, nameIndex := 130, descriptorIndex := 131, attributes := #[] }, { accessFlags := 0, nameIndex := 135, descriptorIndex := 132, attributes := #[] }, { accessFlags := 2, nameIndex := 44, descriptorIndex := 45, attributes := #[] }] 48 2 #[] #[{ accessFlags := 18, nameIndex := 14, descriptorIndex := 15, attributes := #[] }, { accessFlags := 2, nameIndex := 18, descriptorIndex := 19, attributes := #[] }, { accessFlags := 2, nameIndex := 34, descriptorIndex := 35, attributes := #[] }, { accessFlags := 2, nameIndex := 38, descriptorIndex := 19, attributes := #[] }])
  fields := #[{ name := "undo", type := (.object "java/util/List"), accessFlags := 18, slot := 0, constantValue := 0 }, { name := "inProgress", type := .boolean, accessFlags := 2, slot := 1, constantValue := 0 }, { name := "inProgressFrom", type := .int, accessFlags := 2, slot := 2, constantValue := 0 }, { name := "installing", type := .boolean, accessFlags := 2, slot := 3, constantValue := 0 }]
  methods := #[k2m0, k2m1, k2m2, k2m3, k2m4, k2m5, k2m6, k2m7]
  instanceTypes := #[(.object "java/util/List"), .boolean, .int, .boolean]
  staticTypes := #[]
  resolved := Array.replicate 177 none
  statics := none }

def pool3 : Array CpInfo := pool [(8, .class_ 10), (1, u "java/lang/Iterable"), (24, .class_ 36), (0, u "java/lang/Object")] 25

/-- java/lang/Iterable -/
def k3 : Class := { plain "java/lang/Iterable" (some 0) with
  accessFlags := 1537
  interfaces := #[]
  cf := some (fileOf pool3 8 #[] #[] 1537 35 #[] #[])
  fields := #[]
  methods := #[]
  instanceTypes := #[]
  staticTypes := #[]
  resolved := Array.replicate 62 none
  statics := none }

def pool4 : Array CpInfo := pool [(10, .class_ 12), (1, u "java/util/Collection"), (47, .class_ 61), (0, u "java/lang/Object"), (0, .class_ 63), (0, u "java/lang/Iterable")] 51

/-- java/util/Collection -/
def k4 : Class := { plain "java/util/Collection" (some 0) with
  accessFlags := 1537
  interfaces := #[3]
  cf := some (fileOf pool4 10 #[] #[] 1537 60 #[62] #[])
  fields := #[]
  methods := #[]
  instanceTypes := #[]
  staticTypes := #[]
  resolved := Array.replicate 115 none
  statics := none }

def pool5 : Array CpInfo := pool [(1, .methodref 2 3), (0, .class_ 4), (0, .nameAndType 5 6), (0, u "java/lang/Object"), (0, u "<init>"), (0, u "()V"), (1, .class_ 10), (1, u "java/util/AbstractCollection"), (0, u "size"), (0, u "()I"), (64, .class_ 78), (0, u "java/util/Collection")] 81

def k5c0 : Code := { maxStack := 1, maxLocals := 1, code := jdk_22_method_1_code, exceptionTable := #[], attributes := #[] }
def k5m0 : Method := { name := "<init>", desc := "()V", sig := { parameters := [], returnType := none }, accessFlags := 4, code := some k5c0 }
def k5m1 : Method := { name := "size", desc := "()I", sig := { parameters := [], returnType := some .int }, accessFlags := 1025, code := none }
/-- java/util/AbstractCollection -/
def k5 : Class := { plain "java/util/AbstractCollection" (some 0) with
  accessFlags := 1057
  interfaces := #[4]
  cf := some (fileOf pool5 8 #[] #[{ accessFlags := 4, nameIndex := 5, descriptorIndex := 6, attributes := #[] }, { accessFlags := 1025, nameIndex := 11, descriptorIndex := 12, attributes := #[] }] 1057 2 #[77] #[])
  fields := #[]
  methods := #[k5m0, k5m1]
  instanceTypes := #[]
  staticTypes := #[]
  resolved := Array.replicate 160 none
  statics := none }

def pool6 : Array CpInfo := pool [(8, .class_ 10), (1, u "java/util/SequencedCollection"), (15, .class_ 27), (0, u "java/lang/Object"), (0, .class_ 29), (0, u "java/util/Collection")] 27

/-- java/util/SequencedCollection -/
def k6 : Class := { plain "java/util/SequencedCollection" (some 0) with
  accessFlags := 1537
  interfaces := #[4]
  cf := some (fileOf pool6 8 #[] #[] 1537 26 #[28] #[])
  fields := #[]
  methods := #[]
  instanceTypes := #[]
  staticTypes := #[]
  resolved := Array.replicate 57 none
  statics := none }

def pool7 : Array CpInfo := pool [(8, .class_ 10), (1, u "java/util/List"), (61, u "()V"), (6, u "size"), (0, u "()I"), (22, .class_ 104), (0, u "java/lang/Object"), (15, .class_ 121), (0, u "java/util/SequencedCollection"), (47, u "clear"), (12, u "subList"), (0, u "(II)Ljava/util/List;")] 67

def k7m0 : Method := { name := "size", desc := "()I", sig := { parameters := [], returnType := some .int }, accessFlags := 1025, code := none }
def k7m1 : Method := { name := "clear", desc := "()V", sig := { parameters := [], returnType := none }, accessFlags := 1025, code := none }
def k7m2 : Method := { name := "subList", desc := "(II)Ljava/util/List;", sig := { parameters := [.int, .int], returnType := some (.object "java/util/List") }, accessFlags := 1025, code := none }
/-- java/util/List -/
def k7 : Class := { plain "java/util/List" (some 0) with
  accessFlags := 1537
  interfaces := #[6]
  cf := some (fileOf pool7 8 #[] #[{ accessFlags := 1025, nameIndex := 79, descriptorIndex := 80, attributes := #[] }, { accessFlags := 1025, nameIndex := 169, descriptorIndex := 72, attributes := #[] }, { accessFlags := 1025, nameIndex := 182, descriptorIndex := 183, attributes := #[] }] 1537 103 #[120] #[])
  fields := #[]
  methods := #[k7m0, k7m1, k7m2]
  instanceTypes := #[]
  staticTypes := #[]
  resolved := Array.replicate 251 none
  statics := none }

def pool8 : Array CpInfo := pool [(1, .methodref 2 3), (0, .class_ 4), (0, .nameAndType 5 6), (0, u "java/util/AbstractCollection"), (0, u "<init>"), (0, u "()V"), (0, .fieldref 8 9), (0, .class_ 10), (0, .nameAndType 11 12), (0, u "java/util/AbstractList"), (0, u "modCount"), (0, u "I"), (0, .methodref 8 14), (0, .nameAndType 15 16), (0, u "size"), (0, u "()I"), (42, .methodref 8 60), (0, .nameAndType 61 62), (0, u "removeRange"), (0, u "(II)V"), (14, .class_ 78), (0, u "java/util/AbstractList$Itr"), (3, .class_ 83), (0, u "java/util/AbstractList$ListItr"), (5, u "subListRangeCheck"), (0, u "(III)V"), (2, .class_ 94), (0, u "java/util/AbstractList$RandomAccessSubList"), (3, .class_ 99), (0, u "java/util/AbstractList$SubList"), (33, .class_ 134), (0, u "java/util/List"), (45, u "clear"), (27, .class_ 209), (0, u "java/util/AbstractList$SubList$1"), (0, .class_ 211), (0, u "java/util/AbstractList$RandomAccessSpliterator")] 6

def k8c0 : Code := { maxStack := 2, maxLocals := 1, code := jdk_39_method_1_code, exceptionTable := #[], attributes := #[] }
def k8m0 : Method := { name := "<init>", desc := "()V", sig := { parameters := [], returnType := none }, accessFlags := 4, code := some k8c0 }
def k8c1 : Code := { maxStack := 3, maxLocals := 1, code := jdk_39_method_9_code, exceptionTable := #[], attributes := #[] }
def k8m1 : Method := { name := "clear", desc := "()V", sig := { parameters := [], returnType := none }, accessFlags := 1, code := some k8c1 }
def k8c2 : Code := { maxStack := 4, maxLocals := 3, code := jdk_39_method_15_code, exceptionTable := #[], attributes := #[] }
def k8m2 : Method := { name := "subListRangeCheck", desc := "(III)V", sig := { parameters := [.int, .int, .int], returnType := none }, accessFlags := 8, code := some k8c2 }
def k8c3 : Code := { maxStack := 2, maxLocals := 6, code := ⟨#[0x2a, 0x1b, 0xb6, 0x00, 0x2f, 0x4e, 0x03, 0x36, 0x04, 0x1c, 0x1b, 0x64, 0x36, 0x05, 0x15, 0x04, 0x15, 0x05, 0xa2, 0x00, 0x16, 0x2d, 0xb9, 0x00, 0x22, 0x01, 0x00, 0x57, 0x2d, 0xb9, 0x00, 0x8c, 0x01, 0x00, 0x84, 0x04, 0x01, 0xa7, 0xff, 0xe9, 0xb1]⟩, exceptionTable := #[], attributes := #[] }
def k8m3 : Method := { name := "removeRange", desc := "(II)V", sig := { parameters := [.int, .int], returnType := none }, accessFlags := 4, code := some k8c3 }
/-- java/util/AbstractList -/
def k8 : Class := { plain "java/util/AbstractList" (some 5) with
  accessFlags := 1057
  interfaces := #[7]
  cf := some (fileOf pool8 8 #[.nestMembers #[93, 98, 208, 210, 82, 77]] #[{ accessFlags := 4, nameIndex := 5, descriptorIndex := 6, attributes := #[] }, { accessFlags := 1, nameIndex := 180, descriptorIndex := 6, attributes := #[] }, { accessFlags := 8, nameIndex := 89, descriptorIndex := 90, attributes := #[] }, { accessFlags := 4, nameIndex := 61, descriptorIndex := 62, attributes := #[] }] 1057 2 #[133] #[{ accessFlags := 132, nameIndex := 11, descriptorIndex := 12, attributes := #[] }])
  fields := #[{ name := "modCount", type := .int, accessFlags := 132, slot := 0, constantValue := 0 }]
  methods := #[k8m0, k8m1, k8m2, k8m3]
  instanceTypes := #[.int]
  staticTypes := #[]
  resolved := Array.replicate 218 none
  statics := none }

def pool9 : Array CpInfo := pool [(1, .class_ 2), (0, u "java/util/RandomAccess"), (0, .class_ 4), (0, u "java/lang/Object")] 2

/-- java/util/RandomAccess -/
def k9 : Class := { plain "java/util/RandomAccess" (some 0) with
  accessFlags := 1537
  interfaces := #[]
  cf := some (fileOf pool9 1 #[] #[] 1537 3 #[] #[])
  fields := #[]
  methods := #[]
  instanceTypes := #[]
  staticTypes := #[]
  resolved := Array.replicate 7 none
  statics := none }

def pool10 : Array CpInfo := pool [(1, .class_ 2), (0, u "java/lang/Cloneable"), (0, .class_ 4), (0, u "java/lang/Object")] 2

/-- java/lang/Cloneable -/
def k10 : Class := { plain "java/lang/Cloneable" (some 0) with
  accessFlags := 1537
  interfaces := #[]
  cf := some (fileOf pool10 1 #[] #[] 1537 3 #[] #[])
  fields := #[]
  methods := #[]
  instanceTypes := #[]
  staticTypes := #[]
  resolved := Array.replicate 7 none
  statics := none }

def pool11 : Array CpInfo := pool [(1, .class_ 2), (0, u "java/io/Serializable"), (0, .class_ 4), (0, u "java/lang/Object")] 2

/-- java/io/Serializable -/
def k11 : Class := { plain "java/io/Serializable" (some 0) with
  accessFlags := 1537
  interfaces := #[]
  cf := some (fileOf pool11 1 #[] #[] 1537 3 #[] #[])
  fields := #[]
  methods := #[]
  instanceTypes := #[]
  staticTypes := #[]
  resolved := Array.replicate 7 none
  statics := none }

def pool12 : Array CpInfo := pool [(1, .methodref 2 3), (0, .class_ 4), (0, .nameAndType 5 6), (0, u "java/util/AbstractList"), (0, u "<init>"), (0, u "()V"), (2, .fieldref 10 11), (0, .class_ 12), (0, .nameAndType 13 14), (0, u "java/util/ArrayList"), (0, u "elementData"), (0, u "[Ljava/lang/Object;"), (2, u "EMPTY_ELEMENTDATA"), (21, .fieldref 10 40), (0, .nameAndType 41 14), (0, u "DEFAULTCAPACITY_EMPTY_ELEMENTDATA"), (6, .fieldref 10 49), (0, .nameAndType 50 51), (0, u "size"), (0, u "I"), (11, .fieldref 10 64), (0, .nameAndType 65 51), (0, u "modCount"), (46, .methodref 113 114), (0, .class_ 115), (0, .nameAndType 116 117), (0, u "java/lang/System"), (0, u "arraycopy"), (0, u "(Ljava/lang/Object;ILjava/lang/Object;II)V"), (30, .class_ 149), (0, u "java/util/List"), (36, u "()I"), (7, .methodref 10 195), (0, .nameAndType 196 197), (0, u "shiftTailOverGap"), (0, u "([Ljava/lang/Object;II)V"), (64, .class_ 263), (0, u "java/util/ArrayList$ListItr"), (3, .class_ 268), (0, u "java/util/ArrayList$Itr"), (3, .methodref 10 273), (0, .nameAndType 274 275), (0, u "subListRangeCheck"), (0, u "(III)V"), (0, .class_ 277), (0, u "java/util/ArrayList$SubList"), (0, .methodref 276 279), (0, .nameAndType 5 280), (0, u "(Ljava/util/ArrayList;II)V"), (9, .class_ 291), (0, u "java/util/ArrayList$ArrayListSpliterator"), (37, .class_ 330), (0, u "java/util/RandomAccess"), (0, .class_ 332), (0, u "java/lang/Cloneable"), (0, .class_ 334), (0, u "java/io/Serializable"), (0, u "serialVersionUID"), (0, u "J"), (3, u "DEFAULT_CAPACITY"), (78, u "clear"), (7, u "removeRange"), (0, u "(II)V"), (30, u "subList"), (0, u "(II)Ljava/util/List;"), (39, .class_ 501), (0, u "java/util/ArrayList$SubList$2"), (0, .class_ 503), (0, u "java/util/ArrayList$SubList$1")] 5

def k12c0 : Code := { maxStack := 2, maxLocals := 1, code := jdk_38_method_2_code, exceptionTable := #[], attributes := #[] }
def k12m0 : Method := { name := "<init>", desc := "()V", sig := { parameters := [], returnType := none }, accessFlags := 1, code := some k12c0 }
def k12c1 : Code := { maxStack := 1, maxLocals := 1, code := jdk_38_method_8_code, exceptionTable := #[], attributes := #[] }
def k12m1 : Method := { name := "size", desc := "()I", sig := { parameters := [], returnType := some .int }, accessFlags := 1, code := some k12c1 }
def k12c2 : Code := { maxStack := 3, maxLocals := 4, code := jdk_38_method_40_code, exceptionTable := #[], attributes := #[] }
def k12m2 : Method := { name := "clear", desc := "()V", sig := { parameters := [], returnType := none }, accessFlags := 1, code := some k12c2 }
def k12c3 : Code := { maxStack := 4, maxLocals := 3, code := jdk_38_method_43_code, exceptionTable := #[], attributes := #[] }
def k12m3 : Method := { name := "removeRange", desc := "(II)V", sig := { parameters := [.int, .int], returnType := none }, accessFlags := 4, code := some k12c3 }
def k12c4 : Code := { maxStack := 6, maxLocals := 6, code := jdk_38_method_44_code, exceptionTable := #[], attributes := #[] }
def k12m4 : Method := { name := "shiftTailOverGap", desc := "([Ljava/lang/Object;II)V", sig := { parameters := [(.array (.object "java/lang/Object")), .int, .int], returnType := none }, accessFlags := 2, code := some k12c4 }
def k12c5 : Code := { maxStack := 5, maxLocals := 3, code := jdk_38_method_56_code, exceptionTable := #[], attributes := #[] }
def k12m5 : Method := { name := "subList", desc := "(II)Ljava/util/List;", sig := { parameters := [.int, .int], returnType := some (.object "java/util/List") }, accessFlags := 1, code := some k12c5 }
/-- java/util/ArrayList -/
def k12 : Class := { plain "java/util/ArrayList" (some 8) with
  accessFlags := 33
  interfaces := #[7, 9, 10, 11]
  cf := some (fileOf pool12 10 #[.nestMembers #[290, 276, 500, 502, 262, 267]] #[{ accessFlags := 1, nameIndex := 5, descriptorIndex := 6, attributes := #[] }, { accessFlags := 1, nameIndex := 50, descriptorIndex := 186, attributes := #[] }, { accessFlags := 1, nameIndex := 419, descriptorIndex := 6, attributes := #[] }, { accessFlags := 4, nameIndex := 427, descriptorIndex := 428, attributes := #[] }, { accessFlags := 2, nameIndex := 196, descriptorIndex := 197, attributes := #[] }, { accessFlags := 1, nameIndex := 459, descriptorIndex := 460, attributes := #[] }] 33 2 #[148, 329, 331, 333] #[{ accessFlags := 26, nameIndex := 335, descriptorIndex := 336, attributes := #[] }, { accessFlags := 26, nameIndex := 340, descriptorIndex := 51, attributes := #[] }, { accessFlags := 26, nameIndex := 17, descriptorIndex := 14, attributes := #[] }, { accessFlags := 26, nameIndex := 41, descriptorIndex := 14, attributes := #[] }, { accessFlags := 128, nameIndex := 13, descriptorIndex := 14, attributes := #[] }, { accessFlags := 2, nameIndex := 50, descriptorIndex := 51, attributes := #[] }])
  fields := #[{ name := "serialVersionUID", type := .long, accessFlags := 26, slot := 0, constantValue := 0 }, { name := "DEFAULT_CAPACITY", type := .int, accessFlags := 26, slot := 1, constantValue := 0 }, { name := "EMPTY_ELEMENTDATA", type := (.array (.object "java/lang/Object")), accessFlags := 26, slot := 2, constantValue := 0 }, { name := "DEFAULTCAPACITY_EMPTY_ELEMENTDATA", type := (.array (.object "java/lang/Object")), accessFlags := 26, slot := 3, constantValue := 0 }, { name := "elementData", type := (.array (.object "java/lang/Object")), accessFlags := 128, slot := 1, constantValue := 0 }, { name := "size", type := .int, accessFlags := 2, slot := 2, constantValue := 0 }]
  methods := #[k12m0, k12m1, k12m2, k12m3, k12m4, k12m5]
  instanceTypes := #[.int, (.array (.object "java/lang/Object")), .int]
  staticTypes := #[.long, .int, (.array (.object "java/lang/Object")), (.array (.object "java/lang/Object"))]
  resolved := Array.replicate 509 none
  statics := some 0 }

def pool13 : Array CpInfo := pool [(1, .methodref 2 3), (0, .class_ 4), (0, .nameAndType 5 6), (0, u "java/util/AbstractList"), (0, u "<init>"), (0, u "()V"), (0, .fieldref 8 9), (0, .class_ 10), (0, .nameAndType 11 12), (0, u "java/util/ArrayList$SubList"), (0, u "root"), (0, u "Ljava/util/ArrayList;"), (0, .fieldref 8 14), (0, .nameAndType 15 16), (0, u "parent"), (0, u "Ljava/util/ArrayList$SubList;"), (0, .fieldref 8 18), (0, .nameAndType 19 20), (0, u "offset"), (0, u "I"), (0, .fieldref 8 22), (0, .nameAndType 23 20), (0, u "size"), (0, .fieldref 25 26), (0, .class_ 27), (0, .nameAndType 28 20), (0, u "java/util/ArrayList"), (0, u "modCount"), (0, .fieldref 8 26), (6, .methodref 8 37), (0, .nameAndType 38 6), (0, u "checkForComodification"), (10, u "(I)V"), (4, .methodref 8 55), (0, .nameAndType 56 49), (0, u "updateSizeAndModCount"), (3, .methodref 25 61), (0, .nameAndType 62 63), (0, u "removeRange"), (0, u "(II)V"), (8, u "()I"), (109, .class_ 183), (0, u "java/util/RandomAccess"), (3, u "(Ljava/util/ArrayList;II)V")] 82

def k13c0 : Code := { maxStack := 3, maxLocals := 4, code := jdk_130_method_1_code, exceptionTable := #[], attributes := #[] }
def k13m0 : Method := { name := "<init>", desc := "(Ljava/util/ArrayList;II)V", sig := { parameters := [(.object "java/util/ArrayList"), .int, .int], returnType := none }, accessFlags := 1, code := some k13c0 }
def k13c1 : Code := { maxStack := 1, maxLocals := 1, code := jdk_130_method_5_code, exceptionTable := #[], attributes := #[] }
def k13m1 : Method := { name := "size", desc := "()I", sig := { parameters := [], returnType := some .int }, accessFlags := 1, code := some k13c1 }
def k13c2 : Code := { maxStack := 4, maxLocals := 3, code := jdk_130_method_8_code, exceptionTable := #[], attributes := #[] }
def k13m2 : Method := { name := "removeRange", desc := "(II)V", sig := { parameters := [.int, .int], returnType := none }, accessFlags := 4, code := some k13c2 }
def k13c3 : Code := { maxStack := 2, maxLocals := 1, code := jdk_130_method_28_code, exceptionTable := #[], attributes := #[] }
def k13m3 : Method := { name := "checkForComodification", desc := "()V", sig := { parameters := [], returnType := none }, accessFlags := 2, code := some k13c3 }
def k13c4 : Code := { maxStack := 3, maxLocals := 3, code := jdk_130_method_29_code, exceptionTable := #[], attributes := #[] }
def k13m4 : Method := { name := "updateSizeAndModCount", desc := "(I)V", sig := { parameters := [.int], returnType := none }, accessFlags := 2, code := some k13c4 }
/-- java/util/ArrayList$SubList -/
def k13 : Class := { plain "java/util/ArrayList$SubList" (some 8) with
  accessFlags := 32
  interfaces := #[9]
  cf := some (fileOf pool13 8 #[.nestHost 25] #[{ accessFlags := 1, nameIndex := 5, descriptorIndex := 187, attributes := #[] }, { accessFlags := 1, nameIndex := 23, descriptorIndex := 72, attributes := #[] }, { accessFlags := 4, nameIndex := 62, descriptorIndex := 63, attributes := #[] }, { accessFlags := 2, nameIndex := 38, descriptorIndex := 6, attributes := #[] }, { accessFlags := 2, nameIndex := 56, descriptorIndex := 49, attributes := #[] }] 32 2 #[182] #[{ accessFlags := 18, nameIndex := 11, descriptorIndex := 12, attributes := #[] }, { accessFlags := 18, nameIndex := 15, descriptorIndex := 16, attributes := #[] }, { accessFlags := 18, nameIndex := 19, descriptorIndex := 20, attributes := #[] }, { accessFlags := 2, nameIndex := 23, descriptorIndex := 20, attributes := #[] }])
  fields := #[{ name := "root", type := (.object "java/util/ArrayList"), accessFlags := 18, slot := 1, constantValue := 0 }, { name := "parent", type := (.object "java/util/ArrayList$SubList"), accessFlags := 18, slot := 2, constantValue := 0 }, { name := "offset", type := .int, accessFlags := 18, slot := 3, constantValue := 0 }, { name := "size", type := .int, accessFlags := 2, slot := 4, constantValue := 0 }]
  methods := #[k13m0, k13m1, k13m2, k13m3, k13m4]
  instanceTypes := #[.int, (.object "java/util/ArrayList"), (.object "java/util/ArrayList$SubList"), .int, .int]
  staticTypes := #[]
  resolved := Array.replicate 270 none
  statics := none }

def pool14 : Array CpInfo := pool [(2, .class_ 4), (1, u "java/lang/Object"), (0, u "<init>"), (0, u "()V"), (1, .class_ 10), (1, u "java/lang/System"), (0, u "allowSecurityManager"), (0, u "I"), (16, u "cons"), (0, u "Ljava/io/Console;"), (77, .class_ 110), (1, u "java/lang/System$CallersHolder"), (43, u "initialErrStream"), (0, u "Ljava/io/PrintStream;"), (19, u "security"), (0, u "Ljava/lang/SecurityManager;"), (31, .class_ 209), (0, u "java/lang/System$1"), (7, u "props"), (0, u "Ljava/util/Properties;"), (2, u "lineSeparator"), (0, u "Ljava/lang/String;"), (96, .class_ 321), (1, u "java/lang/System$LoggerFinder"), (5, .class_ 328), (0, u "java/lang/System$Logger"), (67, u "err"), (2, u "out"), (91, u "notSupportedJnuEncoding"), (15, u "in"), (17, u "initialIn"), (0, u "Ljava/io/InputStream;"), (35, u "bootLayer"), (0, u "Ljava/lang/ModuleLayer;"), (99, .class_ 664), (0, u "java/lang/System$2"), (9, u "NEVER"), (2, u "MAYBE"), (49, u "arraycopy"), (0, u "(Ljava/lang/Object;ILjava/lang/Object;II)V"), (72, .class_ 802), (0, u "java/lang/System$Logger$Level")] 31

def k14m0 : Method := { name := "<init>", desc := "()V", sig := { parameters := [], returnType := none }, accessFlags := 2, code := none }
def k14m1 : Method := { name := "arraycopy", desc := "(Ljava/lang/Object;ILjava/lang/Object;II)V", sig := { parameters := [(.object "java/lang/Object"), .int, (.object "java/lang/Object"), .int, .int], returnType := none }, accessFlags := 265, code := none }
/-- java/lang/System -/
def k14 : Class := { plain "java/lang/System" (some 0) with
  accessFlags := 49
  interfaces := #[]
  cf := some (fileOf pool14 8 #[.nestMembers #[319, 327, 801, 108, 663, 208]] #[{ accessFlags := 2, nameIndex := 5, descriptorIndex := 6, attributes := #[] }, { accessFlags := 265, nameIndex := 727, descriptorIndex := 728, attributes := #[] }] 49 2 #[] #[{ accessFlags := 25, nameIndex := 507, descriptorIndex := 526, attributes := #[] }, { accessFlags := 25, nameIndex := 399, descriptorIndex := 155, attributes := #[] }, { accessFlags := 25, nameIndex := 396, descriptorIndex := 155, attributes := #[] }, { accessFlags := 10, nameIndex := 525, descriptorIndex := 526, attributes := #[] }, { accessFlags := 26, nameIndex := 674, descriptorIndex := 12, attributes := #[] }, { accessFlags := 26, nameIndex := 677, descriptorIndex := 12, attributes := #[] }, { accessFlags := 10, nameIndex := 11, descriptorIndex := 12, attributes := #[] }, { accessFlags := 74, nameIndex := 175, descriptorIndex := 176, attributes := #[] }, { accessFlags := 10, nameIndex := 491, descriptorIndex := 222, attributes := #[] }, { accessFlags := 74, nameIndex := 29, descriptorIndex := 30, attributes := #[] }, { accessFlags := 74, nameIndex := 154, descriptorIndex := 155, attributes := #[] }, { accessFlags := 10, nameIndex := 217, descriptorIndex := 218, attributes := #[] }, { accessFlags := 10, nameIndex := 221, descriptorIndex := 222, attributes := #[] }, { accessFlags := 8, nameIndex := 562, descriptorIndex := 563, attributes := #[] }])
  fields := #[{ name := "in", type := (.object "java/io/InputStream"), accessFlags := 25, slot := 0, constantValue := 0 }, { name := "out", type := (.object "java/io/PrintStream"), accessFlags := 25, slot := 1, constantValue := 0 }, { name := "err", type := (.object "java/io/PrintStream"), accessFlags := 25, slot := 2, constantValue := 0 }, { name := "initialIn", type := (.object "java/io/InputStream"), accessFlags := 10, slot := 3, constantValue := 0 }, { name := "NEVER", type := .int, accessFlags := 26, slot := 4, constantValue := 0 }, { name := "MAYBE", type := .int, accessFlags := 26, slot := 5, constantValue := 0 }, { name := "allowSecurityManager", type := .int, accessFlags := 10, slot := 6, constantValue := 0 }, { name := "security", type := (.object "java/lang/SecurityManager"), accessFlags := 74, slot := 7, constantValue := 0 }, { name := "notSupportedJnuEncoding", type := (.object "java/lang/String"), accessFlags := 10, slot := 8, constantValue := 0 }, { name := "cons", type := (.object "java/io/Console"), accessFlags := 74, slot := 9, constantValue := 0 }, { name := "initialErrStream", type := (.object "java/io/PrintStream"), accessFlags := 74, slot := 10, constantValue := 0 }, { name := "props", type := (.object "java/util/Properties"), accessFlags := 10, slot := 11, constantValue := 0 }, { name := "lineSeparator", type := (.object "java/lang/String"), accessFlags := 10, slot := 12, constantValue := 0 }, { name := "bootLayer", type := (.object "java/lang/ModuleLayer"), accessFlags := 8, slot := 13, constantValue := 0 }]
  methods := #[k14m0, k14m1]
  instanceTypes := #[]
  staticTypes := #[(.object "java/io/InputStream"), (.object "java/io/PrintStream"), (.object "java/io/PrintStream"), (.object "java/io/InputStream"), .int, .int, .int, (.object "java/lang/SecurityManager"), (.object "java/lang/String"), (.object "java/io/Console"), (.object "java/io/PrintStream"), (.object "java/util/Properties"), (.object "java/lang/String"), (.object "java/lang/ModuleLayer")]
  resolved := Array.replicate 834 none
  statics := none }

/-- the primitive boolean -/
def k15 : Class := { plain "boolean" none with kind := .primitive 'Z', accessFlags := 0x411 }
/-- [Z -/
def k16 : Class := { plain "[Z" (some 0) with kind := .array 15 .boolean, interfaces := #[10, 11], accessFlags := 1041 }

/-- the primitive byte -/
def k17 : Class := { plain "byte" none with kind := .primitive 'B', accessFlags := 0x411 }
/-- [B -/
def k18 : Class := { plain "[B" (some 0) with kind := .array 17 .byte, interfaces := #[10, 11], accessFlags := 1041 }

/-- the primitive int -/
def k19 : Class := { plain "int" none with kind := .primitive 'I', accessFlags := 0x411 }
/-- [I -/
def k20 : Class := { plain "[I" (some 0) with kind := .array 19 .int, interfaces := #[10, 11], accessFlags := 1041 }

/-- [Ljava/lang/Object; -/
def k21 : Class := { plain "[Ljava/lang/Object;" (some 0) with kind := .array 0 (.object "java/lang/Object"), interfaces := #[10, 11], accessFlags := 1041 }

def heap : Heap := #[{ cls := 12, slots := #[.long 0, .int 0, .ref 1, .ref 2], vm := .statics 12 },
  { cls := 21, slots := #[], vm := .none },
  { cls := 21, slots := #[], vm := .none }]
def classes : Array Class := #[k0, k1, k2, k3, k4, k5, k6, k7, k8, k9, k10, k11, k12, k13, k14, k15, k16, k17, k18, k19, k20, k21]
def interned : List (Array UInt16 × Addr) := []
def slotsUsed : Nat := 4
def theMethod : MethodId := ⟨1, 2⟩
def args0 : Array Value := #[.int 5, .int 9, .int 3, .int 5]
def aboutOver (below : List Frame) : State where
  vm := { classes := classes, interned := interned.toArray }
  heap := heap
  slotsUsed := slotsUsed
  threads := #[{ frames := .invoking theMethod args0 :: below }]
def below0 : List Frame := [.native { method := ⟨0, 0⟩, args := #[] }]
def about1 : State := aboutOver below0
def p0 : Program := .bare "" "" ""
def e0 : Env := launch0.env 0 0 0
theorem w_frames : about1.frames = Frame.invoking theMethod args0 :: below0 := rfl
set_option maxRecDepth 65536 in
theorem w_args : argsFit about1.vm theMethod args0 = true := by decide +kernel
set_option maxRecDepth 65536 in
theorem w_heap : heapFits about1 = true := by decide +kernel
set_option maxRecDepth 65536 in
theorem w_runnable : about1.curStatus? = some .runnable := by decide +kernel
set_option maxRecDepth 65536 in
theorem w_alone : about1.alone = true := by decide +kernel
set_option maxRecDepth 65536 in
theorem w_named : about1.methodNamed? x = some theMethod := by decide +kernel
set_option maxRecDepth 65536 in
theorem w_hears : about1.hears theMethod below0 = true := by decide +kernel
set_option maxRecDepth 65536 in
theorem w_ripe : about1.ripe theMethod args0 below0 = true := by decide +kernel
theorem w_running : about1.status = .running := rfl
set_option maxRecDepth 65536 in
theorem w_room : about1.hasRoom e0.platform room_1 = true :=
  launch0.hasRoom_least _ room_1 (by decide +kernel) (by decide +kernel) (by decide +kernel) (by decide +kernel) (by decide +kernel) (by decide +kernel)
theorem allAtoms_all (ts : List Jvm.Cond) (a : Array Jvm.Value) (st : Jvm.State) : (allAtoms ts).before a st = ts.all (fun c => c.before a st) := by
  induction ts with
  | nil => rfl
  | cons c t ih =>
    show (Jvm.Cond.and c (allAtoms t)).before a st = _
    rw [Jvm.Cond.before_and, ih, List.all_cons]
def words1 : List Jvm.Cond := Jvm.Cond.code x code maxLocals ret :: tables_1
/-- a 'code' word, met by the world's own term for the bytes: nothing is compared byte by byte -/
theorem code_word {y : MethodName} {bytes : ByteArray} {mx : Nat} {rt : Option FieldType} {a : Array Value} {s : State} {m : MethodId} {meth : Method} {c : Code} (h1 : s.methodNamed? y = some m) (h2 : s.vm.method? m = some meth) (h3 : meth.code = some c) (h4 : c.code = bytes)
    (h5 : (c.maxLocals == mx && c.exceptionTable.isEmpty && decide (c.maxStack ≤ mostOperands) && decide (meth.sig.returnType = rt) && !meth.locks && decide (parseMethodDescriptor y.desc = some meth.sig)) = true) : (Jvm.Cond.code y bytes mx rt).before a s = true := by
  simp only [Bool.and_eq_true, beq_iff_eq, Bool.not_eq_true', decide_eq_true_eq] at h5
  obtain ⟨⟨⟨⟨⟨g1, g2⟩, g3⟩, g4⟩, g5⟩, g6⟩ := h5
  simp [Cond.before, Cond.holds, Cond.value, h1, h2, h3, h4, g1, g2, g3, g4, g5, g6]
def isCode : Jvm.Cond → Bool
  | .code _ _ _ _ => true
  | _ => false
theorem all_split {L : List Jvm.Cond} {P : Jvm.Cond → Bool} (h1 : L.all (fun c => isCode c || P c) = true) (h2 : ∀ c ∈ L.filter isCode, P c = true) : L.all P = true := by
  refine List.all_eq_true.mpr fun c hc => ?_
  have h := List.all_eq_true.mp h1 c hc
  rcases Bool.eq_false_or_eq_true (isCode c) with hi | hi
  · exact h2 c (List.mem_filter.mpr ⟨hc, hi⟩)
  · simpa [hi] using h
set_option maxRecDepth 65536 in
theorem w_c0 : (Jvm.Cond.code x code maxLocals ret).before args0 about1 = true := code_word (m := ⟨1, 2⟩) (meth := k1m2) (c := k1c2) (by decide +kernel) rfl rfl rfl (by decide +kernel)
set_option maxRecDepth 65536 in
theorem w_c1 : (Jvm.Cond.code ({ cls := "com/example/cardhost/cardhost/Transactions", name := "<init>", desc := "()V" } : Jvm.MethodName) prog_5_method_1_code (1 : Nat) (Option.none : Option Jvm.ClassFile.FieldType)).before args0 about1 = true := code_word (m := ⟨2, 0⟩) (meth := k2m0) (c := k2c0) (by decide +kernel) rfl rfl rfl (by decide +kernel)
set_option maxRecDepth 65536 in
theorem w_c2 : (Jvm.Cond.code ({ cls := "java/lang/Object", name := "<init>", desc := "()V" } : Jvm.MethodName) object_method_1_code (1 : Nat) (Option.none : Option Jvm.ClassFile.FieldType)).before args0 about1 = true := code_word (m := ⟨0, 0⟩) (meth := k0m0) (c := k0c0) (by decide +kernel) rfl rfl rfl (by decide +kernel)
set_option maxRecDepth 65536 in
theorem w_c3 : (Jvm.Cond.code ({ cls := "java/util/ArrayList", name := "<init>", desc := "()V" } : Jvm.MethodName) jdk_38_method_2_code (1 : Nat) (Option.none : Option Jvm.ClassFile.FieldType)).before args0 about1 = true := code_word (m := ⟨12, 0⟩) (meth := k12m0) (c := k12c0) (by decide +kernel) rfl rfl rfl (by decide +kernel)
set_option maxRecDepth 65536 in
theorem w_c4 : (Jvm.Cond.code ({ cls := "java/util/AbstractList", name := "<init>", desc := "()V" } : Jvm.MethodName) jdk_39_method_1_code (1 : Nat) (Option.none : Option Jvm.ClassFile.FieldType)).before args0 about1 = true := code_word (m := ⟨8, 0⟩) (meth := k8m0) (c := k8c0) (by decide +kernel) rfl rfl rfl (by decide +kernel)
set_option maxRecDepth 65536 in
theorem w_c5 : (Jvm.Cond.code ({ cls := "java/util/AbstractCollection", name := "<init>", desc := "()V" } : Jvm.MethodName) jdk_22_method_1_code (1 : Nat) (Option.none : Option Jvm.ClassFile.FieldType)).before args0 about1 = true := code_word (m := ⟨5, 0⟩) (meth := k5m0) (c := k5c0) (by decide +kernel) rfl rfl rfl (by decide +kernel)
set_option maxRecDepth 65536 in
theorem w_c6 : (Jvm.Cond.code ({ cls := "com/example/cardhost/cardhost/Transactions", name := "recording", desc := "()Z" } : Jvm.MethodName) prog_5_method_9_code (1 : Nat) (Option.some Jvm.ClassFile.FieldType.boolean)).before args0 about1 = true := code_word (m := ⟨2, 6⟩) (meth := k2m6) (c := k2c6) (by decide +kernel) rfl rfl rfl (by decide +kernel)
set_option maxRecDepth 65536 in
theorem w_c7 : (Jvm.Cond.code ({ cls := "com/example/cardhost/cardhost/TransactionsRecordingPinLaw", name := "step", desc := "(Lcom/example/cardhost/cardhost/Transactions;[ZI)Z" } : Jvm.MethodName) method_2_code (4 : Nat) (Option.some Jvm.ClassFile.FieldType.boolean)).before args0 about1 = true := code_word (m := ⟨1, 1⟩) (meth := k1m1) (c := k1c1) (by decide +kernel) rfl rfl rfl (by decide +kernel)
set_option maxRecDepth 65536 in
theorem w_c8 : (Jvm.Cond.code ({ cls := "com/example/cardhost/cardhost/Transactions", name := "begin", desc := "()V" } : Jvm.MethodName) prog_5_method_2_code (1 : Nat) (Option.none : Option Jvm.ClassFile.FieldType)).before args0 about1 = true := code_word (m := ⟨2, 1⟩) (meth := k2m1) (c := k2c1) (by decide +kernel) rfl rfl rfl (by decide +kernel)
set_option maxRecDepth 65536 in
theorem w_c9 : (Jvm.Cond.code ({ cls := "java/util/ArrayList", name := "size", desc := "()I" } : Jvm.MethodName) jdk_38_method_8_code (1 : Nat) (Option.some Jvm.ClassFile.FieldType.int)).before args0 about1 = true := code_word (m := ⟨12, 1⟩) (meth := k12m1) (c := k12c1) (by decide +kernel) rfl rfl rfl (by decide +kernel)
set_option maxRecDepth 65536 in
theorem w_c10 : (Jvm.Cond.code ({ cls := "com/example/cardhost/cardhost/Transactions", name := "abort", desc := "()V" } : Jvm.MethodName) prog_5_method_4_code (1 : Nat) (Option.none : Option Jvm.ClassFile.FieldType)).before args0 about1 = true := code_word (m := ⟨2, 3⟩) (meth := k2m3) (c := k2c3) (by decide +kernel) rfl rfl rfl (by decide +kernel)
set_option maxRecDepth 65536 in
theorem w_c11 : (Jvm.Cond.code ({ cls := "com/example/cardhost/cardhost/Transactions", name := "putBack", desc := "(I)V" } : Jvm.MethodName) prog_5_method_12_code (3 : Nat) (Option.none : Option Jvm.ClassFile.FieldType)).before args0 about1 = true := code_word (m := ⟨2, 7⟩) (meth := k2m7) (c := k2c7) (by decide +kernel) rfl rfl rfl (by decide +kernel)
set_option maxRecDepth 65536 in
theorem w_c12 : (Jvm.Cond.code ({ cls := "java/util/ArrayList", name := "subList", desc := "(II)Ljava/util/List;" } : Jvm.MethodName) jdk_38_method_56_code (3 : Nat) (Option.some (Jvm.ClassFile.FieldType.object "java/util/List"))).before args0 about1 = true := code_word (m := ⟨12, 5⟩) (meth := k12m5) (c := k12c5) (by decide +kernel) rfl rfl rfl (by decide +kernel)
set_option maxRecDepth 65536 in
theorem w_c13 : (Jvm.Cond.code ({ cls := "java/util/AbstractList", name := "subListRangeCheck", desc := "(III)V" } : Jvm.MethodName) jdk_39_method_15_code (3 : Nat) (Option.none : Option Jvm.ClassFile.FieldType)).before args0 about1 = true := code_word (m := ⟨8, 2⟩) (meth := k8m2) (c := k8c2) (by decide +kernel) rfl rfl rfl (by decide +kernel)
set_option maxRecDepth 65536 in
theorem w_c14 : (Jvm.Cond.code ({ cls := "java/util/ArrayList$SubList", name := "<init>", desc := "(Ljava/util/ArrayList;II)V" } : Jvm.MethodName) jdk_130_method_1_code (4 : Nat) (Option.none : Option Jvm.ClassFile.FieldType)).before args0 about1 = true := code_word (m := ⟨13, 0⟩) (meth := k13m0) (c := k13c0) (by decide +kernel) rfl rfl rfl (by decide +kernel)
set_option maxRecDepth 65536 in
theorem w_c15 : (Jvm.Cond.code ({ cls := "java/util/AbstractList", name := "clear", desc := "()V" } : Jvm.MethodName) jdk_39_method_9_code (1 : Nat) (Option.none : Option Jvm.ClassFile.FieldType)).before args0 about1 = true := code_word (m := ⟨8, 1⟩) (meth := k8m1) (c := k8c1) (by decide +kernel) rfl rfl rfl (by decide +kernel)
set_option maxRecDepth 65536 in
theorem w_c16 : (Jvm.Cond.code ({ cls := "java/util/ArrayList$SubList", name := "size", desc := "()I" } : Jvm.MethodName) jdk_130_method_5_code (1 : Nat) (Option.some Jvm.ClassFile.FieldType.int)).before args0 about1 = true := code_word (m := ⟨13, 1⟩) (meth := k13m1) (c := k13c1) (by decide +kernel) rfl rfl rfl (by decide +kernel)
set_option maxRecDepth 65536 in
theorem w_c17 : (Jvm.Cond.code ({ cls := "java/util/ArrayList$SubList", name := "checkForComodification", desc := "()V" } : Jvm.MethodName) jdk_130_method_28_code (1 : Nat) (Option.none : Option Jvm.ClassFile.FieldType)).before args0 about1 = true := code_word (m := ⟨13, 3⟩) (meth := k13m3) (c := k13c3) (by decide +kernel) rfl rfl rfl (by decide +kernel)
set_option maxRecDepth 65536 in
theorem w_c18 : (Jvm.Cond.code ({ cls := "java/util/ArrayList$SubList", name := "removeRange", desc := "(II)V" } : Jvm.MethodName) jdk_130_method_8_code (3 : Nat) (Option.none : Option Jvm.ClassFile.FieldType)).before args0 about1 = true := code_word (m := ⟨13, 2⟩) (meth := k13m2) (c := k13c2) (by decide +kernel) rfl rfl rfl (by decide +kernel)
set_option maxRecDepth 65536 in
theorem w_c19 : (Jvm.Cond.code ({ cls := "java/util/ArrayList", name := "removeRange", desc := "(II)V" } : Jvm.MethodName) jdk_38_method_43_code (3 : Nat) (Option.none : Option Jvm.ClassFile.FieldType)).before args0 about1 = true := code_word (m := ⟨12, 3⟩) (meth := k12m3) (c := k12c3) (by decide +kernel) rfl rfl rfl (by decide +kernel)
set_option maxRecDepth 65536 in
theorem w_c20 : (Jvm.Cond.code ({ cls := "java/util/ArrayList", name := "shiftTailOverGap", desc := "([Ljava/lang/Object;II)V" } : Jvm.MethodName) jdk_38_method_44_code (6 : Nat) (Option.none : Option Jvm.ClassFile.FieldType)).before args0 about1 = true := code_word (m := ⟨12, 4⟩) (meth := k12m4) (c := k12c4) (by decide +kernel) rfl rfl rfl (by decide +kernel)
set_option maxRecDepth 65536 in
theorem w_c21 : (Jvm.Cond.code ({ cls := "java/util/ArrayList$SubList", name := "updateSizeAndModCount", desc := "(I)V" } : Jvm.MethodName) jdk_130_method_29_code (3 : Nat) (Option.none : Option Jvm.ClassFile.FieldType)).before args0 about1 = true := code_word (m := ⟨13, 4⟩) (meth := k13m4) (c := k13c4) (by decide +kernel) rfl rfl rfl (by decide +kernel)
set_option maxRecDepth 65536 in
theorem w_c22 : (Jvm.Cond.code ({ cls := "com/example/cardhost/cardhost/Transactions", name := "endInstallation", desc := "(Z)V" } : Jvm.MethodName) prog_5_method_6_code (2 : Nat) (Option.none : Option Jvm.ClassFile.FieldType)).before args0 about1 = true := code_word (m := ⟨2, 5⟩) (meth := k2m5) (c := k2c5) (by decide +kernel) rfl rfl rfl (by decide +kernel)
set_option maxRecDepth 65536 in
theorem w_c23 : (Jvm.Cond.code ({ cls := "java/util/ArrayList", name := "clear", desc := "()V" } : Jvm.MethodName) jdk_38_method_40_code (4 : Nat) (Option.none : Option Jvm.ClassFile.FieldType)).before args0 about1 = true := code_word (m := ⟨12, 2⟩) (meth := k12m2) (c := k12c2) (by decide +kernel) rfl rfl rfl (by decide +kernel)
set_option maxRecDepth 65536 in
theorem w_c24 : (Jvm.Cond.code ({ cls := "com/example/cardhost/cardhost/Transactions", name := "beginInstallation", desc := "()V" } : Jvm.MethodName) prog_5_method_5_code (1 : Nat) (Option.none : Option Jvm.ClassFile.FieldType)).before args0 about1 = true := code_word (m := ⟨2, 4⟩) (meth := k2m4) (c := k2c4) (by decide +kernel) rfl rfl rfl (by decide +kernel)
set_option maxRecDepth 65536 in
theorem w_c25 : (Jvm.Cond.code ({ cls := "com/example/cardhost/cardhost/Transactions", name := "commit", desc := "()V" } : Jvm.MethodName) prog_5_method_3_code (1 : Nat) (Option.none : Option Jvm.ClassFile.FieldType)).before args0 about1 = true := code_word (m := ⟨2, 2⟩) (meth := k2m2) (c := k2c2) (by decide +kernel) rfl rfl rfl (by decide +kernel)
def codes1 : List Jvm.Cond := [Jvm.Cond.code x code maxLocals ret, Jvm.Cond.code ({ cls := "com/example/cardhost/cardhost/Transactions", name := "<init>", desc := "()V" } : Jvm.MethodName) prog_5_method_1_code (1 : Nat) (Option.none : Option Jvm.ClassFile.FieldType), Jvm.Cond.code ({ cls := "java/lang/Object", name := "<init>", desc := "()V" } : Jvm.MethodName) object_method_1_code (1 : Nat) (Option.none : Option Jvm.ClassFile.FieldType), Jvm.Cond.code ({ cls := "java/util/ArrayList", name := "<init>", desc := "()V" } : Jvm.MethodName) jdk_38_method_2_code (1 : Nat) (Option.none : Option Jvm.ClassFile.FieldType), Jvm.Cond.code ({ cls := "java/util/AbstractList", name := "<init>", desc := "()V" } : Jvm.MethodName) jdk_39_method_1_code (1 : Nat) (Option.none : Option Jvm.ClassFile.FieldType), Jvm.Cond.code ({ cls := "java/util/AbstractCollection", name := "<init>", desc := "()V" } : Jvm.MethodName) jdk_22_method_1_code (1 : Nat) (Option.none : Option Jvm.ClassFile.FieldType), Jvm.Cond.code ({ cls := "com/example/cardhost/cardhost/Transactions", name := "recording", desc := "()Z" } : Jvm.MethodName) prog_5_method_9_code (1 : Nat) (Option.some Jvm.ClassFile.FieldType.boolean), Jvm.Cond.code ({ cls := "com/example/cardhost/cardhost/TransactionsRecordingPinLaw", name := "step", desc := "(Lcom/example/cardhost/cardhost/Transactions;[ZI)Z" } : Jvm.MethodName) method_2_code (4 : Nat) (Option.some Jvm.ClassFile.FieldType.boolean), Jvm.Cond.code ({ cls := "com/example/cardhost/cardhost/Transactions", name := "begin", desc := "()V" } : Jvm.MethodName) prog_5_method_2_code (1 : Nat) (Option.none : Option Jvm.ClassFile.FieldType), Jvm.Cond.code ({ cls := "java/util/ArrayList", name := "size", desc := "()I" } : Jvm.MethodName) jdk_38_method_8_code (1 : Nat) (Option.some Jvm.ClassFile.FieldType.int), Jvm.Cond.code ({ cls := "com/example/cardhost/cardhost/Transactions", name := "abort", desc := "()V" } : Jvm.MethodName) prog_5_method_4_code (1 : Nat) (Option.none : Option Jvm.ClassFile.FieldType), Jvm.Cond.code ({ cls := "com/example/cardhost/cardhost/Transactions", name := "putBack", desc := "(I)V" } : Jvm.MethodName) prog_5_method_12_code (3 : Nat) (Option.none : Option Jvm.ClassFile.FieldType), Jvm.Cond.code ({ cls := "java/util/ArrayList", name := "subList", desc := "(II)Ljava/util/List;" } : Jvm.MethodName) jdk_38_method_56_code (3 : Nat) (Option.some (Jvm.ClassFile.FieldType.object "java/util/List")), Jvm.Cond.code ({ cls := "java/util/AbstractList", name := "subListRangeCheck", desc := "(III)V" } : Jvm.MethodName) jdk_39_method_15_code (3 : Nat) (Option.none : Option Jvm.ClassFile.FieldType), Jvm.Cond.code ({ cls := "java/util/ArrayList$SubList", name := "<init>", desc := "(Ljava/util/ArrayList;II)V" } : Jvm.MethodName) jdk_130_method_1_code (4 : Nat) (Option.none : Option Jvm.ClassFile.FieldType), Jvm.Cond.code ({ cls := "java/util/AbstractList", name := "clear", desc := "()V" } : Jvm.MethodName) jdk_39_method_9_code (1 : Nat) (Option.none : Option Jvm.ClassFile.FieldType), Jvm.Cond.code ({ cls := "java/util/ArrayList$SubList", name := "size", desc := "()I" } : Jvm.MethodName) jdk_130_method_5_code (1 : Nat) (Option.some Jvm.ClassFile.FieldType.int), Jvm.Cond.code ({ cls := "java/util/ArrayList$SubList", name := "checkForComodification", desc := "()V" } : Jvm.MethodName) jdk_130_method_28_code (1 : Nat) (Option.none : Option Jvm.ClassFile.FieldType), Jvm.Cond.code ({ cls := "java/util/ArrayList$SubList", name := "removeRange", desc := "(II)V" } : Jvm.MethodName) jdk_130_method_8_code (3 : Nat) (Option.none : Option Jvm.ClassFile.FieldType), Jvm.Cond.code ({ cls := "java/util/ArrayList", name := "removeRange", desc := "(II)V" } : Jvm.MethodName) jdk_38_method_43_code (3 : Nat) (Option.none : Option Jvm.ClassFile.FieldType), Jvm.Cond.code ({ cls := "java/util/ArrayList", name := "shiftTailOverGap", desc := "([Ljava/lang/Object;II)V" } : Jvm.MethodName) jdk_38_method_44_code (6 : Nat) (Option.none : Option Jvm.ClassFile.FieldType), Jvm.Cond.code ({ cls := "java/util/ArrayList$SubList", name := "updateSizeAndModCount", desc := "(I)V" } : Jvm.MethodName) jdk_130_method_29_code (3 : Nat) (Option.none : Option Jvm.ClassFile.FieldType), Jvm.Cond.code ({ cls := "com/example/cardhost/cardhost/Transactions", name := "endInstallation", desc := "(Z)V" } : Jvm.MethodName) prog_5_method_6_code (2 : Nat) (Option.none : Option Jvm.ClassFile.FieldType), Jvm.Cond.code ({ cls := "java/util/ArrayList", name := "clear", desc := "()V" } : Jvm.MethodName) jdk_38_method_40_code (4 : Nat) (Option.none : Option Jvm.ClassFile.FieldType), Jvm.Cond.code ({ cls := "com/example/cardhost/cardhost/Transactions", name := "beginInstallation", desc := "()V" } : Jvm.MethodName) prog_5_method_5_code (1 : Nat) (Option.none : Option Jvm.ClassFile.FieldType), Jvm.Cond.code ({ cls := "com/example/cardhost/cardhost/Transactions", name := "commit", desc := "()V" } : Jvm.MethodName) prog_5_method_3_code (1 : Nat) (Option.none : Option Jvm.ClassFile.FieldType)]
set_option maxRecDepth 65536 in
theorem codes_eq : words1.filter isCode = codes1 := rfl
theorem w_codes : ∀ c ∈ words1.filter isCode, c.before args0 about1 = true := by
  rw [codes_eq]
  intro c hc
  simp only [codes1, List.mem_cons, List.not_mem_nil, or_false] at hc
  rcases hc with rfl | rfl | rfl | rfl | rfl | rfl | rfl | rfl | rfl | rfl | rfl | rfl | rfl | rfl | rfl | rfl | rfl | rfl | rfl | rfl | rfl | rfl | rfl | rfl | rfl | rfl
  · exact w_c0
  · exact w_c1
  · exact w_c2
  · exact w_c3
  · exact w_c4
  · exact w_c5
  · exact w_c6
  · exact w_c7
  · exact w_c8
  · exact w_c9
  · exact w_c10
  · exact w_c11
  · exact w_c12
  · exact w_c13
  · exact w_c14
  · exact w_c15
  · exact w_c16
  · exact w_c17
  · exact w_c18
  · exact w_c19
  · exact w_c20
  · exact w_c21
  · exact w_c22
  · exact w_c23
  · exact w_c24
  · exact w_c25
set_option maxRecDepth 65536 in
theorem w_t1 : (words1.take 24).all (fun c => isCode c || c.before args0 about1) = true := by decide +kernel
set_option maxRecDepth 65536 in
theorem w_t2 : ((words1.drop 24).take 24).all (fun c => isCode c || c.before args0 about1) = true := by decide +kernel
set_option maxRecDepth 65536 in
theorem w_t3 : (((words1.drop 24).drop 24).take 24).all (fun c => isCode c || c.before args0 about1) = true := by decide +kernel
set_option maxRecDepth 65536 in
theorem w_t4 : ((((words1.drop 24).drop 24).drop 24).take 24).all (fun c => isCode c || c.before args0 about1) = true := by decide +kernel
set_option maxRecDepth 65536 in
theorem w_t5 : (((((words1.drop 24).drop 24).drop 24).drop 24).take 24).all (fun c => isCode c || c.before args0 about1) = true := by decide +kernel
set_option maxRecDepth 65536 in
theorem w_t6 : ((((((words1.drop 24).drop 24).drop 24).drop 24).drop 24).take 24).all (fun c => isCode c || c.before args0 about1) = true := by decide +kernel
set_option maxRecDepth 65536 in
theorem w_t7 : (((((((words1.drop 24).drop 24).drop 24).drop 24).drop 24).drop 24).take 24).all (fun c => isCode c || c.before args0 about1) = true := by decide +kernel
set_option maxRecDepth 65536 in
theorem w_t8 : (((((((words1.drop 24).drop 24).drop 24).drop 24).drop 24).drop 24).drop 24).all (fun c => isCode c || c.before args0 about1) = true := by decide +kernel
theorem w_tables : (allAtoms (Jvm.Cond.code x code maxLocals ret :: tables_1)).before args0 about1 = true := by
  rw [allAtoms_all]
  show words1.all (fun c => c.before args0 about1) = true
  refine all_split ?_ w_codes
  rw [← List.take_append_drop 24 words1, List.all_append, w_t1, ← List.take_append_drop 24 (words1.drop 24), List.all_append, w_t2, ← List.take_append_drop 24 ((words1.drop 24).drop 24), List.all_append, w_t3, ← List.take_append_drop 24 (((words1.drop 24).drop 24).drop 24), List.all_append, w_t4, ← List.take_append_drop 24 ((((words1.drop 24).drop 24).drop 24).drop 24), List.all_append, w_t5, ← List.take_append_drop 24 (((((words1.drop 24).drop 24).drop 24).drop 24).drop 24), List.all_append, w_t6, ← List.take_append_drop 24 ((((((words1.drop 24).drop 24).drop 24).drop 24).drop 24).drop 24), List.all_append, w_t7, w_t8]
  rfl
set_option maxRecDepth 65536 in
theorem w_rest : rest_1_c.before args0 about1 = true := by decide +kernel
set_option maxRecDepth 65536 in
theorem w_case : (Jvm.Cond.and given_1 narrow_1).before args0 about1 = true := by decide +kernel
theorem w_applies : (headSpec (Jvm.Cond.code x code maxLocals ret :: tables_1) room_1).applies x e0.platform about1 = true :=
  (Spec.applies_iff w_frames).mpr ⟨w_running, w_runnable, w_alone, w_named, w_hears, w_ripe, w_room, w_tables⟩
theorem atStart : AtStart classFile x code maxLocals ret World_1 tables_1 room_1 Calls_1 rest_1 Pre_1 launch0 p0 e0 about1 theMethod args0 below0 :=
  ⟨lists_1, trivial, launch0.admits_env _ _ _, launch0.least_env, fairChoices_fair.cas, fairChoices_fair.clock, w_frames, w_args, w_heap, w_applies, trivial, w_rest, w_case⟩
end start1
theorem witness_1 : WitnessClaimed_1 := ⟨start1.p0, start1.e0, start1.about1, start1.theMethod, start1.args0, start1.below0, start1.atStart⟩
end Jvm.Pilot.@@N@@
